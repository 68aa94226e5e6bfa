import JvmDerived
import JvmDerived.Pilot.@@N@@Statement
import JvmDerived.Pilot.@@N@@Code
set_option linter.unusedVariables false
set_option linter.unusedSimpArgs false
namespace Jvm.RoadKit
open Sem ClassFile Op Lib Jvm.Stand Jvm.Free Jvm.LawKit
section New
variable {p : Program} {l : Launch} {e : Env} {R : Room} {s : State} {m : MethodId} {args : Array Value} {below : List Frame} {meth : Method} {c : Code} {T : State} {locs : List Loc} {cells slots : Nat}
theorem retI (X : Stand p l e R s m args below meth c T locs cells slots) (hx : p.tables.exec = Jvm.exec) {pc : Nat} {Ls : Array Slot} {z : Int32} {rest : List Value} (hret : meth.sig.returnType = some .int) (hd : decode c.code pc = .ok (.ireturn, 1)) {fs : List Frame}
    (hl : ∀ (f : JFrame) (acts : List Action), f.method = m → f.locked = none → f.entered = [] → (doReturn e (T.setTop f) acts (some (.int z))).1 = T.setFrames fs) : Steps p.tables e below (T.setTop (mkF m pc Ls (.int z :: rest))) (T.setFrames fs) := by
  have hm' : T.vm.method? m = some meth := X.method'
  have hn : narrow .int (.int z) = .int z := rfl
  show Steps p.tables e below (T.setTop { method := m, pc := pc, locals := Ls, stack := _ :: rest, locked := none }) _
  jvm_step X.here [X.here.top, hx, hd, hm', hret, hn]
  first | (intro acts; rw [hl _ acts rfl rfl rfl]) | rw [hl _ _ rfl rfl rfl]
  exact Steps.refl _
end New
end Jvm.RoadKit
namespace Jvm.Pilot.@@N@@
open Jvm Jvm.ClassFile Sem Op Lib Jvm.Free Jvm.Stand Jvm.LawKit Jvm.RoadKit Bundle Jvm.Pilot.@@N@@.Jvm.D
section Kit
variable {p : Program} {l : Launch} {e : Env} {R : Room} {s : State} {m : MethodId} {args : Array Value} {below : List Frame} {meth : Method} {c : Code} {T : State} {locs : List Loc} {cells slots : Nat} {G : State → Prop} {L L' : Array Slot} {S : List Value} {pc q q1 : Nat}
/-- from this frame the run comes to a state of which G holds -/
def Go (p : Program) (e : Env) (below : List Frame) (G : State → Prop) (T : State) (m : MethodId) (pc : Nat) (L : Array Slot) (S : List Value) : Prop := ∃ t, Steps p.tables e below (T.setTop (mkF m pc L S)) t ∧ G t
theorem Go.st {T' : State} {m' : MethodId} {pc' : Nat} {S' : List Value} (h : ∀ t, Steps p.tables e below (T'.setTop (mkF m' pc' L' S')) t → Steps p.tables e below (T.setTop (mkF m pc L S)) t) (k : Go p e below G T' m' pc' L' S') : Go p e below G T m pc L S := by
  obtain ⟨t, h1, h2⟩ := k; exact ⟨t, h t h1, h2⟩
theorem jn {T2 : State} {pc2 : Nat} {L2 : Array Slot} {S2 : List Value} (k : Go p e below G T2 m pc2 L2 S2 → Go p e below G T m pc L S) (K : Go p e below G T2 m pc2 L2 S2) : Go p e below G T m pc L S := k K
/-- what a body that returns leaves -/
def Gl (s : State) (below : List Frame) (Q : Option Value → Heap → List Loc → Prop) (C N : Nat) (t : State) : Prop := ∃ o, t.status = .running ∧ Ended t below o ∧ ∃ v L, o = .returned v ∧ Q v t.heap L ∧ FrameEnd s o t L C N
/-- a contract -/
def Ctr (l : Launch) (y : MethodName) (code : ByteArray) (ml : Nat) (ret : Option FieldType) (ws : List Jvm.Cond) (rm : Room) (Z : State) (as' : Array Value) (h0 : Heap) (Q : Option Value → Heap → List Loc → Prop) (C N : Nat) : Prop :=
  MetFree l y (head1 (Jvm.Cond.code y code ml ret :: ws) rm) (fun a U => a = as' ∧ Z.Warmed39 U.vm ∧ U.heap = h0) (fun _ _ _ _ _ => True) (fun _ U o U' => ∃ v L, o = .returned v ∧ Q v U'.heap L ∧ FrameEnd U o U' L C N)
theorem Ctr.mk {y : MethodName} {code : ByteArray} {ml : Nat} {ret : Option FieldType} {ws : List Jvm.Cond} {rm : Room} {Z : State} {as' : Array Value} {h0 : Heap} {Q : Option Value → Heap → List Loc → Prop} {C N : Nat} (hp : plainFor y = true)
    (body : ∀ (p : Program) (e : Env) (s : State) (m : MethodId) (below : List Frame) (meth : Method) (c : Code) (T : State), p.tables.exec = Jvm.exec → c.code = code → c.maxLocals = ml → s.vm.findClass y.cls = some m.cls → meth.name = y.name → meth.locks = false → meth.sig.returnType = ret → Z.Warmed39 s.vm → Stand p l e rm s m as' below meth c T [] 0 0 → T.heap = h0 → ∃ t, Steps p.tables e below (T.setTop (entryFrame m as' ml)) t ∧ Gl s below Q C N t) : Ctr l y code ml ret ws rm Z as' h0 Q C N := by
  refine MetFree.of_bodySF hp hisR ?_
  intro p e s m args below meth c s₁ Bd hml0 hP hK
  obtain ⟨rfl, hZ, hh⟩ := hP
  obtain ⟨t, h1, o, h2, h3, h4⟩ := body p e s m below meth c s₁ Bd.exec Bd.bytes hml0 (findClass_of_methodNamed Bd.named) (name_of_methodNamed Bd.named Bd.method).1 Bd.notSynchronized Bd.returns hZ (Stand.of_body Bd) (by rw [← hh, Bd.state]; rfl)
  exact ⟨t, o, h1, h2, h3, h4⟩
theorem enter {as' : Array Value} {ml : Nat} (q : entryFrame m as' ml = mkF m 0 L []) (k : Go p e below G T m 0 L []) : ∃ t, Steps p.tables e below (T.setTop (entryFrame m as' ml)) t ∧ G t := by
  rw [q]; exact k
theorem s_iloadN (X : Stand p l e R s m args below meth c T locs cells slots) (hx : p.tables.exec = Jvm.exec) {k : Fin 4} {v : Int32} (hd : decode c.code pc = .ok (.iload_n k, 1)) (hl : L[k.val]? = some (.val (.int v))) (hq : pc + 1 = q) (K : Go p e below G T m q L (.int v :: S)) : Go p e below G T m pc L S := by
  subst hq; exact Go.st (fun t k => XS.iloadN X.here hx rfl hd hl k) K
theorem s_iload (X : Stand p l e R s m args below meth c T locs cells slots) (hx : p.tables.exec = Jvm.exec) {k : Nat} {v : Int32} (hd : decode c.code pc = .ok (.iload k, 2)) (hl : L[k]? = some (.val (.int v))) (hq : pc + 2 = q) (K : Go p e below G T m q L (.int v :: S)) : Go p e below G T m pc L S := by
  subst hq; exact Go.st (fun t k => XS.iload X.here hx rfl hd hl k) K
theorem s_lloadN (X : Stand p l e R s m args below meth c T locs cells slots) (hx : p.tables.exec = Jvm.exec) {k : Fin 4} {v : Int64} (hd : decode c.code pc = .ok (.lload_n k, 1)) (hl : L[k.val]? = some (.val (.long v))) (hq : pc + 1 = q) (K : Go p e below G T m q L (.long v :: S)) : Go p e below G T m pc L S := by
  subst hq; exact Go.st (fun t k => XS.lloadN X.here hx rfl hd hl k) K
theorem s_lload (X : Stand p l e R s m args below meth c T locs cells slots) (hx : p.tables.exec = Jvm.exec) {k : Nat} {v : Int64} (hd : decode c.code pc = .ok (.lload k, 2)) (hl : L[k]? = some (.val (.long v))) (hq : pc + 2 = q) (K : Go p e below G T m q L (.long v :: S)) : Go p e below G T m pc L S := by
  subst hq; exact Go.st (fun t k => XS.lload X.here hx rfl hd hl k) K
theorem s_aloadN (X : Stand p l e R s m args below meth c T locs cells slots) (hx : p.tables.exec = Jvm.exec) {k : Fin 4} {v : Value} (hd : decode c.code pc = .ok (.aload_n k, 1)) (hl : L[k.val]? = some (.val v)) (hv : v.isRef = true) (hq : pc + 1 = q) (K : Go p e below G T m q L (v :: S)) : Go p e below G T m pc L S := by
  subst hq; exact Go.st (fun t k => XS.aloadN X.here hx rfl hd hl hv k) K
theorem s_aload (X : Stand p l e R s m args below meth c T locs cells slots) (hx : p.tables.exec = Jvm.exec) {k : Nat} {v : Value} (hd : decode c.code pc = .ok (.aload k, 2)) (hl : L[k]? = some (.val v)) (hv : v.isRef = true) (hq : pc + 2 = q) (K : Go p e below G T m q L (v :: S)) : Go p e below G T m pc L S := by
  subst hq; exact Go.st (fun t k => XS.aload X.here hx rfl hd hl hv k) K
theorem s_istoreN (X : Stand p l e R s m args below meth c T locs cells slots) (hx : p.tables.exec = Jvm.exec) {k : Fin 4} {x : Int32} (hd : decode c.code pc = .ok (.istore_n k, 1)) (hl : storeLocals L k.val (.int x) = some L') (hq : pc + 1 = q) (K : Go p e below G T m q L' S) : Go p e below G T m pc L (.int x :: S) := by
  subst hq; exact Go.st (fun t k => XS.istoreN X.here hx rfl hd rfl hl k) K
theorem s_istore (X : Stand p l e R s m args below meth c T locs cells slots) (hx : p.tables.exec = Jvm.exec) {k : Nat} {x : Int32} (hd : decode c.code pc = .ok (.istore k, 2)) (hl : storeLocals L k (.int x) = some L') (hq : pc + 2 = q) (K : Go p e below G T m q L' S) : Go p e below G T m pc L (.int x :: S) := by
  subst hq; exact Go.st (fun t k => XS.istore X.here hx rfl hd rfl hl k) K
theorem s_lstoreN (X : Stand p l e R s m args below meth c T locs cells slots) (hx : p.tables.exec = Jvm.exec) {k : Fin 4} {x : Int64} (hd : decode c.code pc = .ok (.lstore_n k, 1)) (hl : storeLocals L k.val (.long x) = some L') (hq : pc + 1 = q) (K : Go p e below G T m q L' S) : Go p e below G T m pc L (.long x :: S) := by
  subst hq; exact Go.st (fun t k => XS.lstoreN X.here hx rfl hd rfl hl k) K
theorem s_lstore (X : Stand p l e R s m args below meth c T locs cells slots) (hx : p.tables.exec = Jvm.exec) {k : Nat} {x : Int64} (hd : decode c.code pc = .ok (.lstore k, 2)) (hl : storeLocals L k (.long x) = some L') (hq : pc + 2 = q) (K : Go p e below G T m q L' S) : Go p e below G T m pc L (.long x :: S) := by
  subst hq; exact Go.st (fun t k => XS.lstore X.here hx rfl hd rfl hl k) K
theorem s_astoreN (X : Stand p l e R s m args below meth c T locs cells slots) (hx : p.tables.exec = Jvm.exec) {k : Fin 4} {x : Value} (hd : decode c.code pc = .ok (.astore_n k, 1)) (hv : x.isRef = true) (hl : storeLocals L k.val x = some L') (hq : pc + 1 = q) (K : Go p e below G T m q L' S) : Go p e below G T m pc L (x :: S) := by
  subst hq; exact Go.st (fun t k => XS.astoreN X.here hx rfl hd rfl hv hl k) K
theorem s_astore (X : Stand p l e R s m args below meth c T locs cells slots) (hx : p.tables.exec = Jvm.exec) {k : Nat} {x : Value} (hd : decode c.code pc = .ok (.astore k, 2)) (hv : x.isRef = true) (hl : storeLocals L k x = some L') (hq : pc + 2 = q) (K : Go p e below G T m q L' S) : Go p e below G T m pc L (x :: S) := by
  subst hq; exact Go.st (fun t k => XS.astore X.here hx rfl hd rfl hv hl k) K
theorem s_iconst (X : Stand p l e R s m args below meth c T locs cells slots) (hx : p.tables.exec = Jvm.exec) {i : Int} {z : Int32} (hd : decode c.code pc = .ok (.iconst i, 1)) (hz : Int32.ofInt i = z) (hq : pc + 1 = q) (K : Go p e below G T m q L (.int z :: S)) : Go p e below G T m pc L S := by
  subst hq hz; exact Go.st (fun t k => XS.iconst X.here hx rfl hd k) K
theorem s_bipush (X : Stand p l e R s m args below meth c T locs cells slots) (hx : p.tables.exec = Jvm.exec) {i : Int} {z : Int32} (hd : decode c.code pc = .ok (.bipush i, 2)) (hz : (Int8.ofInt i).toInt32 = z) (hq : pc + 2 = q) (K : Go p e below G T m q L (.int z :: S)) : Go p e below G T m pc L S := by
  subst hq hz; exact Go.st (fun t k => XS.bipush X.here hx rfl hd k) K
theorem s_sipush (X : Stand p l e R s m args below meth c T locs cells slots) (hx : p.tables.exec = Jvm.exec) {i : Int} {z : Int32} (hd : decode c.code pc = .ok (.sipush i, 3)) (hz : (Int16.ofInt i).toInt32 = z) (hq : pc + 3 = q) (K : Go p e below G T m q L (.int z :: S)) : Go p e below G T m pc L S := by
  subst hq hz; exact Go.st (fun t k => XS.sipush X.here hx rfl hd k) K
theorem s_lconst (X : Stand p l e R s m args below meth c T locs cells slots) (hx : p.tables.exec = Jvm.exec) {i : Fin 2} {z : Int64} (hd : decode c.code pc = .ok (.lconst i, 1)) (hz : Int64.ofNat i.val = z) (hq : pc + 1 = q) (K : Go p e below G T m q L (.long z :: S)) : Go p e below G T m pc L S := by
  subst hq hz; exact Go.st (fun t k => XS.lconst X.here hx rfl hd k) K
theorem s_aconst_null (X : Stand p l e R s m args below meth c T locs cells slots) (hx : p.tables.exec = Jvm.exec)  (hd : decode c.code pc = .ok (.aconst_null, 1))  (hq : pc + 1 = q) (K : Go p e below G T m q L (.null :: S)) : Go p e below G T m pc L S := by
  subst hq; exact Go.st (fun t k => XS.aconstNull X.here hx rfl hd k) K
theorem s_iadd (X : Stand p l e R s m args below meth c T locs cells slots) (hx : p.tables.exec = Jvm.exec) {x y : Int32} (hd : decode c.code pc = .ok (.iadd, 1))  (hq : pc + 1 = q) (K : Go p e below G T m q L (.int (x + y) :: S)) : Go p e below G T m pc L (.int y :: .int x :: S) := by
  subst hq; exact Go.st (fun t k => XS.iadd X.here hx rfl hd rfl k) K
theorem s_isub (X : Stand p l e R s m args below meth c T locs cells slots) (hx : p.tables.exec = Jvm.exec) {x y : Int32} (hd : decode c.code pc = .ok (.isub, 1))  (hq : pc + 1 = q) (K : Go p e below G T m q L (.int (x - y) :: S)) : Go p e below G T m pc L (.int y :: .int x :: S) := by
  subst hq; exact Go.st (fun t k => XS.isub X.here hx rfl hd rfl k) K
theorem s_imul (X : Stand p l e R s m args below meth c T locs cells slots) (hx : p.tables.exec = Jvm.exec) {x y : Int32} (hd : decode c.code pc = .ok (.imul, 1))  (hq : pc + 1 = q) (K : Go p e below G T m q L (.int (x * y) :: S)) : Go p e below G T m pc L (.int y :: .int x :: S) := by
  subst hq; exact Go.st (fun t k => XS.imul X.here hx rfl hd rfl k) K
theorem s_iand (X : Stand p l e R s m args below meth c T locs cells slots) (hx : p.tables.exec = Jvm.exec) {x y : Int32} (hd : decode c.code pc = .ok (.iand, 1))  (hq : pc + 1 = q) (K : Go p e below G T m q L (.int (x &&& y) :: S)) : Go p e below G T m pc L (.int y :: .int x :: S) := by
  subst hq; exact Go.st (fun t k => XS.iand X.here hx rfl hd rfl k) K
theorem s_ior (X : Stand p l e R s m args below meth c T locs cells slots) (hx : p.tables.exec = Jvm.exec) {x y : Int32} (hd : decode c.code pc = .ok (.ior, 1))  (hq : pc + 1 = q) (K : Go p e below G T m q L (.int (x ||| y) :: S)) : Go p e below G T m pc L (.int y :: .int x :: S) := by
  subst hq; exact Go.st (fun t k => XS.ior X.here hx rfl hd rfl k) K
theorem s_ixor (X : Stand p l e R s m args below meth c T locs cells slots) (hx : p.tables.exec = Jvm.exec) {x y : Int32} (hd : decode c.code pc = .ok (.ixor, 1))  (hq : pc + 1 = q) (K : Go p e below G T m q L (.int (x ^^^ y) :: S)) : Go p e below G T m pc L (.int y :: .int x :: S) := by
  subst hq; exact Go.st (fun t k => XS.ixor X.here hx rfl hd rfl k) K
theorem s_ladd (X : Stand p l e R s m args below meth c T locs cells slots) (hx : p.tables.exec = Jvm.exec) {x y : Int64} (hd : decode c.code pc = .ok (.ladd, 1))  (hq : pc + 1 = q) (K : Go p e below G T m q L (.long (x + y) :: S)) : Go p e below G T m pc L (.long y :: .long x :: S) := by
  subst hq; exact Go.st (fun t k => XS.ladd X.here hx rfl hd rfl k) K
theorem s_lsub (X : Stand p l e R s m args below meth c T locs cells slots) (hx : p.tables.exec = Jvm.exec) {x y : Int64} (hd : decode c.code pc = .ok (.lsub, 1))  (hq : pc + 1 = q) (K : Go p e below G T m q L (.long (x - y) :: S)) : Go p e below G T m pc L (.long y :: .long x :: S) := by
  subst hq; exact Go.st (fun t k => XS.lsub X.here hx rfl hd rfl k) K
theorem s_lmul (X : Stand p l e R s m args below meth c T locs cells slots) (hx : p.tables.exec = Jvm.exec) {x y : Int64} (hd : decode c.code pc = .ok (.lmul, 1))  (hq : pc + 1 = q) (K : Go p e below G T m q L (.long (x * y) :: S)) : Go p e below G T m pc L (.long y :: .long x :: S) := by
  subst hq; exact Go.st (fun t k => XS.lmul X.here hx rfl hd rfl k) K
theorem s_land (X : Stand p l e R s m args below meth c T locs cells slots) (hx : p.tables.exec = Jvm.exec) {x y : Int64} (hd : decode c.code pc = .ok (.land, 1))  (hq : pc + 1 = q) (K : Go p e below G T m q L (.long (x &&& y) :: S)) : Go p e below G T m pc L (.long y :: .long x :: S) := by
  subst hq; exact Go.st (fun t k => XS.land X.here hx rfl hd rfl k) K
theorem s_lor (X : Stand p l e R s m args below meth c T locs cells slots) (hx : p.tables.exec = Jvm.exec) {x y : Int64} (hd : decode c.code pc = .ok (.lor, 1))  (hq : pc + 1 = q) (K : Go p e below G T m q L (.long (x ||| y) :: S)) : Go p e below G T m pc L (.long y :: .long x :: S) := by
  subst hq; exact Go.st (fun t k => XS.lor X.here hx rfl hd rfl k) K
theorem s_lxor (X : Stand p l e R s m args below meth c T locs cells slots) (hx : p.tables.exec = Jvm.exec) {x y : Int64} (hd : decode c.code pc = .ok (.lxor, 1))  (hq : pc + 1 = q) (K : Go p e below G T m q L (.long (x ^^^ y) :: S)) : Go p e below G T m pc L (.long y :: .long x :: S) := by
  subst hq; exact Go.st (fun t k => XS.lxor X.here hx rfl hd rfl k) K
theorem s_ishl (X : Stand p l e R s m args below meth c T locs cells slots) (hx : p.tables.exec = Jvm.exec) {x y : Int32} (hd : decode c.code pc = .ok (.ishl, 1))  (hq : pc + 1 = q) (K : Go p e below G T m q L (.int (x <<< (y &&& 31)) :: S)) : Go p e below G T m pc L (.int y :: .int x :: S) := by
  subst hq; exact Go.st (fun t k => XS.ishl X.here hx rfl hd rfl k) K
theorem s_ishr (X : Stand p l e R s m args below meth c T locs cells slots) (hx : p.tables.exec = Jvm.exec) {x y : Int32} (hd : decode c.code pc = .ok (.ishr, 1))  (hq : pc + 1 = q) (K : Go p e below G T m q L (.int (x >>> (y &&& 31)) :: S)) : Go p e below G T m pc L (.int y :: .int x :: S) := by
  subst hq; exact Go.st (fun t k => XS.ishr X.here hx rfl hd rfl k) K
theorem s_iushr (X : Stand p l e R s m args below meth c T locs cells slots) (hx : p.tables.exec = Jvm.exec) {x y : Int32} (hd : decode c.code pc = .ok (.iushr, 1))  (hq : pc + 1 = q) (K : Go p e below G T m q L (.int ((x.toUInt32 >>> (y &&& 31).toUInt32).toInt32) :: S)) : Go p e below G T m pc L (.int y :: .int x :: S) := by
  subst hq; exact Go.st (fun t k => XS.iushr X.here hx rfl hd rfl k) K
theorem s_lshl (X : Stand p l e R s m args below meth c T locs cells slots) (hx : p.tables.exec = Jvm.exec) {x : Int64} {y : Int32} (hd : decode c.code pc = .ok (.lshl, 1))  (hq : pc + 1 = q) (K : Go p e below G T m q L (.long (x <<< (y &&& 0x3f).toInt64) :: S)) : Go p e below G T m pc L (.int y :: .long x :: S) := by
  subst hq; exact Go.st (fun t k => XS.lshl X.here hx rfl hd rfl k) K
theorem s_lshr (X : Stand p l e R s m args below meth c T locs cells slots) (hx : p.tables.exec = Jvm.exec) {x : Int64} {y : Int32} (hd : decode c.code pc = .ok (.lshr, 1))  (hq : pc + 1 = q) (K : Go p e below G T m q L (.long (x >>> (y &&& 0x3f).toInt64) :: S)) : Go p e below G T m pc L (.int y :: .long x :: S) := by
  subst hq; exact Go.st (fun t k => XS.lshr X.here hx rfl hd rfl k) K
theorem s_lushr (X : Stand p l e R s m args below meth c T locs cells slots) (hx : p.tables.exec = Jvm.exec) {x : Int64} {y : Int32} (hd : decode c.code pc = .ok (.lushr, 1))  (hq : pc + 1 = q) (K : Go p e below G T m q L (.long ((x.toUInt64 >>> (y &&& 0x3f).toInt64.toUInt64).toInt64) :: S)) : Go p e below G T m pc L (.int y :: .long x :: S) := by
  subst hq; exact Go.st (fun t k => XS.lushr X.here hx rfl hd rfl k) K
theorem s_idiv (X : Stand p l e R s m args below meth c T locs cells slots) (hx : p.tables.exec = Jvm.exec) {x y : Int32} (hd : decode c.code pc = .ok (.idiv, 1)) (hy : y ≠ 0) (hq : pc + 1 = q) (K : Go p e below G T m q L (.int (x / y) :: S)) : Go p e below G T m pc L (.int y :: .int x :: S) := by
  subst hq; exact Go.st (fun t k => XS.idiv X.here hx rfl hd rfl hy k) K
theorem s_ldiv (X : Stand p l e R s m args below meth c T locs cells slots) (hx : p.tables.exec = Jvm.exec) {x y : Int64} (hd : decode c.code pc = .ok (.ldiv, 1)) (hy : y ≠ 0) (hq : pc + 1 = q) (K : Go p e below G T m q L (.long (x / y) :: S)) : Go p e below G T m pc L (.long y :: .long x :: S) := by
  subst hq; exact Go.st (fun t k => XS.ldiv X.here hx rfl hd rfl hy k) K
theorem s_ineg (X : Stand p l e R s m args below meth c T locs cells slots) (hx : p.tables.exec = Jvm.exec) {x : Int32} (hd : decode c.code pc = .ok (.ineg, 1))  (hq : pc + 1 = q) (K : Go p e below G T m q L (.int (-x) :: S)) : Go p e below G T m pc L (.int x :: S) := by
  subst hq; exact Go.st (fun t k => XS.ineg X.here hx rfl hd rfl k) K
theorem s_lneg (X : Stand p l e R s m args below meth c T locs cells slots) (hx : p.tables.exec = Jvm.exec) {x : Int64} (hd : decode c.code pc = .ok (.lneg, 1))  (hq : pc + 1 = q) (K : Go p e below G T m q L (.long (-x) :: S)) : Go p e below G T m pc L (.long x :: S) := by
  subst hq; exact Go.st (fun t k => XS.lneg X.here hx rfl hd rfl k) K
theorem s_i2l (X : Stand p l e R s m args below meth c T locs cells slots) (hx : p.tables.exec = Jvm.exec) {x : Int32} (hd : decode c.code pc = .ok (.i2l, 1))  (hq : pc + 1 = q) (K : Go p e below G T m q L (.long x.toInt64 :: S)) : Go p e below G T m pc L (.int x :: S) := by
  subst hq; exact Go.st (fun t k => XS.i2l X.here hx rfl hd rfl k) K
theorem s_l2i (X : Stand p l e R s m args below meth c T locs cells slots) (hx : p.tables.exec = Jvm.exec) {x : Int64} (hd : decode c.code pc = .ok (.l2i, 1))  (hq : pc + 1 = q) (K : Go p e below G T m q L (.int x.toInt32 :: S)) : Go p e below G T m pc L (.long x :: S) := by
  subst hq; exact Go.st (fun t k => XS.l2i X.here hx rfl hd rfl k) K
theorem s_i2b (X : Stand p l e R s m args below meth c T locs cells slots) (hx : p.tables.exec = Jvm.exec) {x : Int32} (hd : decode c.code pc = .ok (.i2b, 1))  (hq : pc + 1 = q) (K : Go p e below G T m q L (.int x.toInt8.toInt32 :: S)) : Go p e below G T m pc L (.int x :: S) := by
  subst hq; exact Go.st (fun t k => XS.i2b X.here hx rfl hd rfl k) K
theorem s_i2c (X : Stand p l e R s m args below meth c T locs cells slots) (hx : p.tables.exec = Jvm.exec) {x : Int32} (hd : decode c.code pc = .ok (.i2c, 1))  (hq : pc + 1 = q) (K : Go p e below G T m q L (.int x.toUInt32.toUInt16.toUInt32.toInt32 :: S)) : Go p e below G T m pc L (.int x :: S) := by
  subst hq; exact Go.st (fun t k => XS.i2c X.here hx rfl hd rfl k) K
theorem s_i2s (X : Stand p l e R s m args below meth c T locs cells slots) (hx : p.tables.exec = Jvm.exec) {x : Int32} (hd : decode c.code pc = .ok (.i2s, 1))  (hq : pc + 1 = q) (K : Go p e below G T m q L (.int x.toInt16.toInt32 :: S)) : Go p e below G T m pc L (.int x :: S) := by
  subst hq; exact Go.st (fun t k => XS.i2s X.here hx rfl hd rfl k) K
theorem s_lcmp (X : Stand p l e R s m args below meth c T locs cells slots) (hx : p.tables.exec = Jvm.exec) {x y : Int64} (hd : decode c.code pc = .ok (.lcmp, 1))  (hq : pc + 1 = q) (K : Go p e below G T m q L (.int (lcmpW x y) :: S)) : Go p e below G T m pc L (.long y :: .long x :: S) := by
  subst hq; exact Go.st (fun t k => XS.lcmp X.here hx rfl hd rfl k) K
theorem s_iinc (X : Stand p l e R s m args below meth c T locs cells slots) (hx : p.tables.exec = Jvm.exec) {k : Nat} {cst : Int} {x w : Int32} (hd : decode c.code pc = .ok (.iinc k cst, 3)) (hl : L[k]? = some (.val (.int x))) (hw : x + Int32.ofInt cst = w) (hl' : storeLocals L k (.int w) = some L') (hq : pc + 3 = q) (K : Go p e below G T m q L' S) : Go p e below G T m pc L S := by
  subst hq hw; exact Go.st (fun t k => XS.iinc X.here hx rfl hd hl hl' k) K
theorem s_dup (X : Stand p l e R s m args below meth c T locs cells slots) (hx : p.tables.exec = Jvm.exec) {x : Value} (hd : decode c.code pc = .ok (.dup, 1)) (hc : x.category = 1) (hq : pc + 1 = q) (K : Go p e below G T m q L (x :: x :: S)) : Go p e below G T m pc L (x :: S) := by
  subst hq; exact Go.st (fun t k => XS.dup X.here hx rfl hd rfl hc k) K
theorem s_dup_x1 (X : Stand p l e R s m args below meth c T locs cells slots) (hx : p.tables.exec = Jvm.exec) {x y : Value} (hd : decode c.code pc = .ok (.dup_x1, 1)) (hc : x.category = 1) (hc' : y.category = 1) (hq : pc + 1 = q) (K : Go p e below G T m q L (x :: y :: x :: S)) : Go p e below G T m pc L (x :: y :: S) := by
  subst hq; exact Go.st (fun t k => XS.dupX1 X.here hx rfl hd rfl hc hc' k) K
theorem s_dup2 (X : Stand p l e R s m args below meth c T locs cells slots) (hx : p.tables.exec = Jvm.exec) {x y : Value} (hd : decode c.code pc = .ok (.dup2, 1)) (hc : x.category = 1) (hc' : y.category = 1) (hq : pc + 1 = q) (K : Go p e below G T m q L (x :: y :: x :: y :: S)) : Go p e below G T m pc L (x :: y :: S) := by
  subst hq; exact Go.st (fun t k => Jvm.Free.XT.dup2 X.here hx rfl hd rfl hc hc' k) K
theorem s_dup2L (X : Stand p l e R s m args below meth c T locs cells slots) (hx : p.tables.exec = Jvm.exec) {x : Int64} (hd : decode c.code pc = .ok (.dup2, 1))  (hq : pc + 1 = q) (K : Go p e below G T m q L (.long x :: .long x :: S)) : Go p e below G T m pc L (.long x :: S) := by
  subst hq; exact Go.st (fun t k => Jvm.Free.XT.dup2L X.here hx rfl hd rfl k) K
theorem s_pop (X : Stand p l e R s m args below meth c T locs cells slots) (hx : p.tables.exec = Jvm.exec) {x : Value} (hd : decode c.code pc = .ok (.pop, 1)) (hc : x.category = 1) (hq : pc + 1 = q) (K : Go p e below G T m q L S) : Go p e below G T m pc L (x :: S) := by
  subst hq; exact Go.st (fun t k => XS.pop X.here hx rfl hd rfl hc k) K
theorem s_goto (X : Stand p l e R s m args below meth c T locs cells slots) (hx : p.tables.exec = Jvm.exec) {o : Int} (hd : decode c.code pc = .ok (.goto o, 3)) (ho : 0 ≤ (pc : Int) + o) (hp : ((pc : Int) + o).toNat = q1) (K : Go p e below G T m q1 L S) : Go p e below G T m pc L S := Go.st (fun t k => XS.goto X.here hx rfl rfl hd ho hp k) K
theorem f_icmp_lt (X : Stand p l e R s m args below meth c T locs cells slots) (hx : p.tables.exec = Jvm.exec) {x y : Int32} {o : Int} (hd : decode c.code pc = .ok (.if_icmp .lt o, 3)) (ho : 0 ≤ (pc : Int) + o) (hp : ((pc : Int) + o).toNat = q1) (hq : pc + 3 = q) (ky : x < y → Go p e below G T m q1 L S) (kn : ¬ x < y → Go p e below G T m q L S) : Go p e below G T m pc L (.int y :: .int x :: S) := by
  subst hq
  by_cases h : x < y
  · exact Go.st (fun t k => XS.icmpYes X.here hx rfl rfl hd rfl (tlt h).1 ho hp k) (ky h)
  · exact Go.st (fun t k => XS.icmpNo X.here hx rfl hd rfl (flt h).1 k) (kn h)
theorem f_if_lt (X : Stand p l e R s m args below meth c T locs cells slots) (hx : p.tables.exec = Jvm.exec) {x : Int32} {o : Int} (hd : decode c.code pc = .ok (.ifCond .lt o, 3)) (ho : 0 ≤ (pc : Int) + o) (hp : ((pc : Int) + o).toNat = q1) (hq : pc + 3 = q) (ky : x < 0 → Go p e below G T m q1 L S) (kn : ¬ x < 0 → Go p e below G T m q L S) : Go p e below G T m pc L (.int x :: S) := by
  subst hq
  by_cases h : x < 0
  · exact Go.st (fun t k => XS.ifYes X.here hx rfl rfl hd rfl ((if0 _ _).trans (tlt h).1) ho hp k) (ky h)
  · exact Go.st (fun t k => XS.ifNo X.here hx rfl hd rfl ((if0 _ _).trans (flt h).1) k) (kn h)
theorem f_lcmp_lt (X : Stand p l e R s m args below meth c T locs cells slots) (hx : p.tables.exec = Jvm.exec) {x y : Int64} {o : Int} (hd : decode c.code pc = .ok (.ifCond .lt o, 3)) (ho : 0 ≤ (pc : Int) + o) (hp : ((pc : Int) + o).toNat = q1) (hq : pc + 3 = q) (ky : x < y → Go p e below G T m q1 L S) (kn : ¬ x < y → Go p e below G T m q L S) : Go p e below G T m pc L (.int (lcmpW x y) :: S) :=
  f_if_lt X hx hd ho hp hq (fun h => ky ((lw_lt x y).mp h)) (fun h => kn (fun g => h ((lw_lt x y).mpr g)))
theorem f_icmp_ge (X : Stand p l e R s m args below meth c T locs cells slots) (hx : p.tables.exec = Jvm.exec) {x y : Int32} {o : Int} (hd : decode c.code pc = .ok (.if_icmp .ge o, 3)) (ho : 0 ≤ (pc : Int) + o) (hp : ((pc : Int) + o).toNat = q1) (hq : pc + 3 = q) (ky : ¬ x < y → Go p e below G T m q1 L S) (kn : x < y → Go p e below G T m q L S) : Go p e below G T m pc L (.int y :: .int x :: S) := by
  subst hq
  by_cases h : x < y
  · exact Go.st (fun t k => XS.icmpNo X.here hx rfl hd rfl (tlt h).2.1 k) (kn h)
  · exact Go.st (fun t k => XS.icmpYes X.here hx rfl rfl hd rfl (flt h).2.1 ho hp k) (ky h)
theorem f_if_ge (X : Stand p l e R s m args below meth c T locs cells slots) (hx : p.tables.exec = Jvm.exec) {x : Int32} {o : Int} (hd : decode c.code pc = .ok (.ifCond .ge o, 3)) (ho : 0 ≤ (pc : Int) + o) (hp : ((pc : Int) + o).toNat = q1) (hq : pc + 3 = q) (ky : ¬ x < 0 → Go p e below G T m q1 L S) (kn : x < 0 → Go p e below G T m q L S) : Go p e below G T m pc L (.int x :: S) := by
  subst hq
  by_cases h : x < 0
  · exact Go.st (fun t k => XS.ifNo X.here hx rfl hd rfl ((if0 _ _).trans (tlt h).2.1) k) (kn h)
  · exact Go.st (fun t k => XS.ifYes X.here hx rfl rfl hd rfl ((if0 _ _).trans (flt h).2.1) ho hp k) (ky h)
theorem f_lcmp_ge (X : Stand p l e R s m args below meth c T locs cells slots) (hx : p.tables.exec = Jvm.exec) {x y : Int64} {o : Int} (hd : decode c.code pc = .ok (.ifCond .ge o, 3)) (ho : 0 ≤ (pc : Int) + o) (hp : ((pc : Int) + o).toNat = q1) (hq : pc + 3 = q) (ky : ¬ x < y → Go p e below G T m q1 L S) (kn : x < y → Go p e below G T m q L S) : Go p e below G T m pc L (.int (lcmpW x y) :: S) :=
  f_if_ge X hx hd ho hp hq (fun h => ky (fun g => h ((lw_lt x y).mpr g))) (fun h => kn ((lw_lt x y).mp h))
theorem f_icmp_gt (X : Stand p l e R s m args below meth c T locs cells slots) (hx : p.tables.exec = Jvm.exec) {x y : Int32} {o : Int} (hd : decode c.code pc = .ok (.if_icmp .gt o, 3)) (ho : 0 ≤ (pc : Int) + o) (hp : ((pc : Int) + o).toNat = q1) (hq : pc + 3 = q) (ky : y < x → Go p e below G T m q1 L S) (kn : ¬ y < x → Go p e below G T m q L S) : Go p e below G T m pc L (.int y :: .int x :: S) := by
  subst hq
  by_cases h : y < x
  · exact Go.st (fun t k => XS.icmpYes X.here hx rfl rfl hd rfl (tlt h).2.2.1 ho hp k) (ky h)
  · exact Go.st (fun t k => XS.icmpNo X.here hx rfl hd rfl (flt h).2.2.1 k) (kn h)
theorem f_if_gt (X : Stand p l e R s m args below meth c T locs cells slots) (hx : p.tables.exec = Jvm.exec) {x : Int32} {o : Int} (hd : decode c.code pc = .ok (.ifCond .gt o, 3)) (ho : 0 ≤ (pc : Int) + o) (hp : ((pc : Int) + o).toNat = q1) (hq : pc + 3 = q) (ky : 0 < x → Go p e below G T m q1 L S) (kn : ¬ 0 < x → Go p e below G T m q L S) : Go p e below G T m pc L (.int x :: S) := by
  subst hq
  by_cases h : 0 < x
  · exact Go.st (fun t k => XS.ifYes X.here hx rfl rfl hd rfl ((if0 _ _).trans (tlt h).2.2.1) ho hp k) (ky h)
  · exact Go.st (fun t k => XS.ifNo X.here hx rfl hd rfl ((if0 _ _).trans (flt h).2.2.1) k) (kn h)
theorem f_lcmp_gt (X : Stand p l e R s m args below meth c T locs cells slots) (hx : p.tables.exec = Jvm.exec) {x y : Int64} {o : Int} (hd : decode c.code pc = .ok (.ifCond .gt o, 3)) (ho : 0 ≤ (pc : Int) + o) (hp : ((pc : Int) + o).toNat = q1) (hq : pc + 3 = q) (ky : y < x → Go p e below G T m q1 L S) (kn : ¬ y < x → Go p e below G T m q L S) : Go p e below G T m pc L (.int (lcmpW x y) :: S) :=
  f_if_gt X hx hd ho hp hq (fun h => ky ((lw_gt x y).mp h)) (fun h => kn (fun g => h ((lw_gt x y).mpr g)))
theorem f_icmp_le (X : Stand p l e R s m args below meth c T locs cells slots) (hx : p.tables.exec = Jvm.exec) {x y : Int32} {o : Int} (hd : decode c.code pc = .ok (.if_icmp .le o, 3)) (ho : 0 ≤ (pc : Int) + o) (hp : ((pc : Int) + o).toNat = q1) (hq : pc + 3 = q) (ky : ¬ y < x → Go p e below G T m q1 L S) (kn : y < x → Go p e below G T m q L S) : Go p e below G T m pc L (.int y :: .int x :: S) := by
  subst hq
  by_cases h : y < x
  · exact Go.st (fun t k => XS.icmpNo X.here hx rfl hd rfl (tlt h).2.2.2 k) (kn h)
  · exact Go.st (fun t k => XS.icmpYes X.here hx rfl rfl hd rfl (flt h).2.2.2 ho hp k) (ky h)
theorem f_if_le (X : Stand p l e R s m args below meth c T locs cells slots) (hx : p.tables.exec = Jvm.exec) {x : Int32} {o : Int} (hd : decode c.code pc = .ok (.ifCond .le o, 3)) (ho : 0 ≤ (pc : Int) + o) (hp : ((pc : Int) + o).toNat = q1) (hq : pc + 3 = q) (ky : ¬ 0 < x → Go p e below G T m q1 L S) (kn : 0 < x → Go p e below G T m q L S) : Go p e below G T m pc L (.int x :: S) := by
  subst hq
  by_cases h : 0 < x
  · exact Go.st (fun t k => XS.ifNo X.here hx rfl hd rfl ((if0 _ _).trans (tlt h).2.2.2) k) (kn h)
  · exact Go.st (fun t k => XS.ifYes X.here hx rfl rfl hd rfl ((if0 _ _).trans (flt h).2.2.2) ho hp k) (ky h)
theorem f_lcmp_le (X : Stand p l e R s m args below meth c T locs cells slots) (hx : p.tables.exec = Jvm.exec) {x y : Int64} {o : Int} (hd : decode c.code pc = .ok (.ifCond .le o, 3)) (ho : 0 ≤ (pc : Int) + o) (hp : ((pc : Int) + o).toNat = q1) (hq : pc + 3 = q) (ky : ¬ y < x → Go p e below G T m q1 L S) (kn : y < x → Go p e below G T m q L S) : Go p e below G T m pc L (.int (lcmpW x y) :: S) :=
  f_if_le X hx hd ho hp hq (fun h => ky (fun g => h ((lw_gt x y).mpr g))) (fun h => kn ((lw_gt x y).mp h))
theorem f_icmp_eq (X : Stand p l e R s m args below meth c T locs cells slots) (hx : p.tables.exec = Jvm.exec) {x y : Int32} {o : Int} (hd : decode c.code pc = .ok (.if_icmp .eq o, 3)) (ho : 0 ≤ (pc : Int) + o) (hp : ((pc : Int) + o).toNat = q1) (hq : pc + 3 = q) (ky : x = y → Go p e below G T m q1 L S) (kn : ¬ x = y → Go p e below G T m q L S) : Go p e below G T m pc L (.int y :: .int x :: S) := by
  subst hq
  by_cases h : x = y
  · exact Go.st (fun t k => XS.icmpYes X.here hx rfl rfl hd rfl (teq h).1 ho hp k) (ky h)
  · exact Go.st (fun t k => XS.icmpNo X.here hx rfl hd rfl (feq h).1 k) (kn h)
theorem f_if_eq (X : Stand p l e R s m args below meth c T locs cells slots) (hx : p.tables.exec = Jvm.exec) {x : Int32} {o : Int} (hd : decode c.code pc = .ok (.ifCond .eq o, 3)) (ho : 0 ≤ (pc : Int) + o) (hp : ((pc : Int) + o).toNat = q1) (hq : pc + 3 = q) (ky : x = 0 → Go p e below G T m q1 L S) (kn : ¬ x = 0 → Go p e below G T m q L S) : Go p e below G T m pc L (.int x :: S) := by
  subst hq
  by_cases h : x = 0
  · exact Go.st (fun t k => XS.ifYes X.here hx rfl rfl hd rfl ((if0 _ _).trans (teq h).1) ho hp k) (ky h)
  · exact Go.st (fun t k => XS.ifNo X.here hx rfl hd rfl ((if0 _ _).trans (feq h).1) k) (kn h)
theorem f_lcmp_eq (X : Stand p l e R s m args below meth c T locs cells slots) (hx : p.tables.exec = Jvm.exec) {x y : Int64} {o : Int} (hd : decode c.code pc = .ok (.ifCond .eq o, 3)) (ho : 0 ≤ (pc : Int) + o) (hp : ((pc : Int) + o).toNat = q1) (hq : pc + 3 = q) (ky : x = y → Go p e below G T m q1 L S) (kn : ¬ x = y → Go p e below G T m q L S) : Go p e below G T m pc L (.int (lcmpW x y) :: S) :=
  f_if_eq X hx hd ho hp hq (fun h => ky ((lw_eq x y).mp h)) (fun h => kn (fun g => h ((lw_eq x y).mpr g)))
theorem f_icmp_ne (X : Stand p l e R s m args below meth c T locs cells slots) (hx : p.tables.exec = Jvm.exec) {x y : Int32} {o : Int} (hd : decode c.code pc = .ok (.if_icmp .ne o, 3)) (ho : 0 ≤ (pc : Int) + o) (hp : ((pc : Int) + o).toNat = q1) (hq : pc + 3 = q) (ky : ¬ x = y → Go p e below G T m q1 L S) (kn : x = y → Go p e below G T m q L S) : Go p e below G T m pc L (.int y :: .int x :: S) := by
  subst hq
  by_cases h : x = y
  · exact Go.st (fun t k => XS.icmpNo X.here hx rfl hd rfl (teq h).2 k) (kn h)
  · exact Go.st (fun t k => XS.icmpYes X.here hx rfl rfl hd rfl (feq h).2 ho hp k) (ky h)
theorem f_if_ne (X : Stand p l e R s m args below meth c T locs cells slots) (hx : p.tables.exec = Jvm.exec) {x : Int32} {o : Int} (hd : decode c.code pc = .ok (.ifCond .ne o, 3)) (ho : 0 ≤ (pc : Int) + o) (hp : ((pc : Int) + o).toNat = q1) (hq : pc + 3 = q) (ky : ¬ x = 0 → Go p e below G T m q1 L S) (kn : x = 0 → Go p e below G T m q L S) : Go p e below G T m pc L (.int x :: S) := by
  subst hq
  by_cases h : x = 0
  · exact Go.st (fun t k => XS.ifNo X.here hx rfl hd rfl ((if0 _ _).trans (teq h).2) k) (kn h)
  · exact Go.st (fun t k => XS.ifYes X.here hx rfl rfl hd rfl ((if0 _ _).trans (feq h).2) ho hp k) (ky h)
theorem f_lcmp_ne (X : Stand p l e R s m args below meth c T locs cells slots) (hx : p.tables.exec = Jvm.exec) {x y : Int64} {o : Int} (hd : decode c.code pc = .ok (.ifCond .ne o, 3)) (ho : 0 ≤ (pc : Int) + o) (hp : ((pc : Int) + o).toNat = q1) (hq : pc + 3 = q) (ky : ¬ x = y → Go p e below G T m q1 L S) (kn : x = y → Go p e below G T m q L S) : Go p e below G T m pc L (.int (lcmpW x y) :: S) :=
  f_if_ne X hx hd ho hp hq (fun h => ky (fun g => h ((lw_eq x y).mpr g))) (fun h => kn ((lw_eq x y).mp h))
theorem s_ifnullYes (X : Stand p l e R s m args below meth c T locs cells slots) (hx : p.tables.exec = Jvm.exec) {o : Int} (hd : decode c.code pc = .ok (.ifnull o, 3)) (ho : 0 ≤ (pc : Int) + o) (hp : ((pc : Int) + o).toNat = q1) (K : Go p e below G T m q1 L S) : Go p e below G T m pc L (.null :: S) := Go.st (fun t k => XS.ifnullYes X.here hx rfl rfl hd rfl ho hp k) K
theorem s_ifnullNo (X : Stand p l e R s m args below meth c T locs cells slots) (hx : p.tables.exec = Jvm.exec) {o : Int} {b : Addr} (hd : decode c.code pc = .ok (.ifnull o, 3))  (hq : pc + 3 = q) (K : Go p e below G T m q L S) : Go p e below G T m pc L (.ref b :: S) := by
  subst hq; exact Go.st (fun t k => XS.ifnullNo X.here hx rfl hd rfl k) K
theorem s_ifnonnullYes (X : Stand p l e R s m args below meth c T locs cells slots) (hx : p.tables.exec = Jvm.exec) {o : Int} {b : Addr} (hd : decode c.code pc = .ok (.ifnonnull o, 3)) (ho : 0 ≤ (pc : Int) + o) (hp : ((pc : Int) + o).toNat = q1) (K : Go p e below G T m q1 L S) : Go p e below G T m pc L (.ref b :: S) := Go.st (fun t k => XS.ifnonnullYes X.here hx rfl rfl hd rfl ho hp k) K
theorem s_ifnonnullNo (X : Stand p l e R s m args below meth c T locs cells slots) (hx : p.tables.exec = Jvm.exec) {o : Int} (hd : decode c.code pc = .ok (.ifnonnull o, 3))  (hq : pc + 3 = q) (K : Go p e below G T m q L S) : Go p e below G T m pc L (.null :: S) := by
  subst hq; exact Go.st (fun t k => XS.ifnonnullNo X.here hx rfl hd rfl k) K
theorem s_acmp (X : Stand p l e R s m args below meth c T locs cells slots) (hx : p.tables.exec = Jvm.exec) {cd : ClassFile.ACond} {x y : Value} {o : Int} {same : Bool} (hd : decode c.code pc = .ok (.if_acmp cd o, 3)) (h1 : x.isRef = true) (h2 : y.isRef = true) (hs : decide (x = y) = same) (ho : 0 ≤ (pc : Int) + o) (hp : q1 = if acV cd same = true then ((pc : Int) + o).toNat else pc + 3) (K : Go p e below G T m q1 L S) : Go p e below G T m pc L (y :: x :: S) := Go.st (fun t k => Jvm.RoadKit.acmp (g := mkF m pc L (y :: x :: S)) X hx rfl h1 h2 rfl hd rfl hs ho hp k) K
variable {Z : State} {a0 : Array Value} {h h' : Heap} {a b : Addr} {own C O n d : String} {v : Value} {n0 : Nat}
theorem s_ldc (X : Stand p l e R s m args below meth c T locs cells slots) (hx : p.tables.exec = Jvm.exec) (hZ : Z.Warmed39 s.vm) (hown : s.vm.findClass own = some m.cls) {index : Nat} {z : Int32} (w : (Jvm.Cond.constant own index z).before a0 Z = true) (hd : decode c.code pc = .ok (.ldc index, 2)) (hq : pc + 2 = q) (K : Go p e below G T m q L (.int z :: S)) : Go p e below G T m pc L S := by
  subst hq; exact Go.st (fun t k => X.ldcInt hx hown (mvT hZ w) (g := mkF m pc L S) rfl hd t k) K
theorem s_ldcw (X : Stand p l e R s m args below meth c T locs cells slots) (hx : p.tables.exec = Jvm.exec) (hZ : Z.Warmed39 s.vm) (hown : s.vm.findClass own = some m.cls) {index : Nat} {z : Int32} (w : (Jvm.Cond.constant own index z).before a0 Z = true) (hd : decode c.code pc = .ok (.ldc_w index, 3)) (hq : pc + 3 = q) (K : Go p e below G T m q L (.int z :: S)) : Go p e below G T m pc L S := by
  subst hq; exact Go.st (fun t k => X.ldcwInt hx hown (mvT hZ w) (g := mkF m pc L S) rfl hd t k) K
theorem s_ldc2 (X : Stand p l e R s m args below meth c T locs cells slots) (hx : p.tables.exec = Jvm.exec) (hZ : Z.Warmed39 s.vm) (hown : s.vm.findClass own = some m.cls) {index : Nat} {z : Int64} (w : (Jvm.Cond.constantLong own index z).before a0 Z = true) (hd : decode c.code pc = .ok (.ldc2_w index, 3)) (hq : pc + 3 = q) (K : Go p e below G T m q L (.long z :: S)) : Go p e below G T m pc L S := by
  subst hq; exact Go.st (fun t k => X.ldc2Long hx hown (mvT hZ w) (g := mkF m pc L S) rfl hd t k) K
theorem s_lrem (X : Stand p l e R s m args below meth c T locs cells slots) (hx : p.tables.exec = Jvm.exec) {x y : Int64} (hd : decode c.code pc = .ok (.lrem, 1)) (hy : y ≠ 0) (hq : pc + 1 = q) (K : Go p e below G T m q L (.long (x % y) :: S)) : Go p e below G T m pc L (.long y :: .long x :: S) := by
  subst hq; rw [← lrem_mod] at K; exact Go.st (fun t k => XS.lrem X.here hx rfl hd rfl hy k) K
theorem irem_mod (x y : Int32) : x - (x / y) * y = x % y := by
  apply Int32.toInt_inj.mp
  have h1 := Int32.le_toInt (x % y)
  have h2 := Int32.toInt_lt (x % y)
  rw [Int32.toInt_sub, Int32.toInt_mul, Int32.toInt_div, Int.bmod_mul_bmod, Int.sub_bmod_bmod, Int.mul_comm (x.toInt.tdiv y.toInt), ← Int.tmod_def, ← Int32.toInt_mod]
  exact Int.bmod_eq_of_le_mul_two (by omega) (by omega)
theorem s_irem (X : Stand p l e R s m args below meth c T locs cells slots) (hx : p.tables.exec = Jvm.exec) {x y : Int32} (hd : decode c.code pc = .ok (.irem, 1)) (hy : y ≠ 0) (hq : pc + 1 = q) (K : Go p e below G T m q L (.int (x % y) :: S)) : Go p e below G T m pc L (.int y :: .int x :: S) := by
  subst hq; rw [← irem_mod] at K; exact Go.st (fun t k => XS.irem X.here hx rfl hd rfl hy k) K
theorem leafI (X : Stand p l e R s m args below meth c T locs cells slots) (hx : p.tables.exec = Jvm.exec) {z : Int32} {Q : Option Value → Heap → List Loc → Prop} {C N : Nat} (hlk : meth.locks = false) (hret : meth.sig.returnType = some .int) (hd : decode c.code pc = .ok (.ireturn, 1)) (hc : cells ≤ C) (hn : slots ≤ N) (hQ : Q (some (.int z)) T.heap locs) : Go p e below (Gl s below Q C N) T m pc L (.int z :: S) := by
  obtain ⟨fs, hr, hrun, hended, hW, hsame⟩ := X.leave (v := some (.int z)) (fun h => by rw [hret] at h; cases h) hlk
  exact ⟨_, retI X hx hret hd hr, _, hrun, hended, _, _, rfl, hQ, ⟨_, rfl⟩, hW, hsame.mono hc hn⟩
theorem leafN (X : Stand p l e R s m args below meth c T locs cells slots) (hx : p.tables.exec = Jvm.exec) {t : FieldType} {z z' : Int32} {Q : Option Value → Heap → List Loc → Prop} {C N : Nat} (hlk : meth.locks = false) (hret : meth.sig.returnType = some t) (ht : t = .boolean ∨ t = .byte ∨ t = .char ∨ t = .short) (hd : decode c.code pc = .ok (.ireturn, 1)) (hc : cells ≤ C) (hn : slots ≤ N) (hz : nar t z = z') (hQ : Q (some (.int z')) T.heap locs) : Go p e below (Gl s below Q C N) T m pc L (.int z :: S) := by
  subst hz
  obtain ⟨fs, hr, hrun, hended, hW, hsame⟩ := X.leave (v := some (.int (nar t z))) (fun h => by rw [hret] at h; cases h) hlk
  exact ⟨_, retN X hx hret ht hd hr, _, hrun, hended, _, _, rfl, hQ, ⟨_, rfl⟩, hW, hsame.mono hc hn⟩
theorem leafJ (X : Stand p l e R s m args below meth c T locs cells slots) (hx : p.tables.exec = Jvm.exec) {z : Int64} {Q : Option Value → Heap → List Loc → Prop} {C N : Nat} (hlk : meth.locks = false) (hret : meth.sig.returnType = some .long) (hd : decode c.code pc = .ok (.lreturn, 1)) (hc : cells ≤ C) (hn : slots ≤ N) (hQ : Q (some (.long z)) T.heap locs) : Go p e below (Gl s below Q C N) T m pc L (.long z :: S) := by
  obtain ⟨fs, hr, hrun, hended, hW, hsame⟩ := X.leave (v := some (.long z)) (fun h => by rw [hret] at h; cases h) hlk
  refine ⟨_, ?_, _, hrun, hended, _, _, rfl, hQ, ⟨_, rfl⟩, hW, hsame.mono hc hn⟩
  show Steps p.tables e below (T.setTop { method := m, pc := pc, locals := L, stack := .long z :: S, locked := none }) _
  jvm_step X.here [X.here.top, hx, hd, X.method', hret, narrow]
  first | (intro acts; rw [hr _ acts rfl rfl rfl]) | rw [hr _ _ rfl rfl rfl]
  exact Steps.refl _
theorem leafA (X : Stand p l e R s m args below meth c T locs cells slots) (hx : p.tables.exec = Jvm.exec) {v : Value} {t : FieldType} {Q : Option Value → Heap → List Loc → Prop} {C N : Nat} (hlk : meth.locks = false) (hret : meth.sig.returnType = some t) (ht : t.isReference = true) (hv : v.isRef = true) (hd : decode c.code pc = .ok (.areturn, 1)) (hc : cells ≤ C) (hn : slots ≤ N) (hQ : Q (some v) T.heap locs) : Go p e below (Gl s below Q C N) T m pc L (v :: S) := by
  obtain ⟨fs, hr, hrun, hended, hW, hsame⟩ := X.leave (v := some v) (fun h => by rw [hret] at h; cases h) hlk
  refine ⟨_, ?_, _, hrun, hended, _, _, rfl, hQ, ⟨_, rfl⟩, hW, hsame.mono hc hn⟩
  show Steps p.tables e below (T.setTop { method := m, pc := pc, locals := L, stack := v :: S, locked := none }) _
  jvm_step X.here [X.here.top, hx, hd, X.method', hret, hv, ht]
  first | (intro acts; rw [hr _ acts rfl rfl rfl]) | rw [hr _ _ rfl rfl rfl]
  exact Steps.refl _
theorem leafV (X : Stand p l e R s m args below meth c T locs cells slots) (hx : p.tables.exec = Jvm.exec) {Q : Option Value → Heap → List Loc → Prop} {C N : Nat} (hlk : meth.locks = false) (hret : meth.sig.returnType = none) (hd : decode c.code pc = .ok (.return_, 1)) (hc : cells ≤ C) (hn : slots ≤ N) (hQ : Q none T.heap locs) : Go p e below (Gl s below Q C N) T m pc L [] := by
  obtain ⟨fs, hr, hrun, hended, hW, hsame⟩ := X.leave (v := none) (fun _ => rfl) hlk
  exact ⟨_, X.returnOut hx hret hd hr, _, hrun, hended, _, _, rfl, hQ, ⟨_, rfl⟩, hW, hsame.mono hc hn⟩
/-- a call by a contract -/
theorem callC (X : Stand p l e R s m args below meth c T locs cells slots) (hx : p.tables.exec = Jvm.exec) (hZ : Z.Warmed39 s.vm) (hown : s.vm.findClass own = some m.cls) {index : Nat} {y : MethodName} {bytes : ByteArray} {maxL : Nat} {ret : Option FieldType} {rm : Room} {Q : Option Value → Heap → List Loc → Prop} {W : Nat} {argsL rest : List Value}
    (w1 : (Jvm.Cond.methodLink own index y).before a0 Z = true) (w2 : (Jvm.Cond.static y).before a0 Z = true) (w3 : (Jvm.Cond.initialized y.cls).before a0 Z = true) (w4 : (Jvm.Cond.code y bytes maxL ret).before a0 Z = true) (hy : y.cls ≠ "java/lang/invoke/MethodHandle" ∧ y.cls ≠ "java/lang/invoke/VarHandle")
    (K : Ctr l y bytes maxL ret [] rm Z argsL.toArray h Q rm.cells rm.slots) (eT : T.heap = h) (hf : rm.frames + 1 ≤ R.frames) (hl : W + (maxL + 11) + rm.locals ≤ R.locals) (hc : cells + rm.cells ≤ R.cells) (hn : slots + rm.slots ≤ R.slots) (hsize : L.size = c.maxLocals)
    {ps : List FieldType} {r : Option FieldType} (hlen : parseMethodDescriptor y.desc = some ⟨ps, r⟩) (hl2 : argsL.length = ps.length) (hS : S = argsL.reverse ++ rest) (hW : (rest.map fun v => v.category).sum ≤ W) (hd : decode c.code pc = .ok (.invokestatic index, 3)) (hq : pc + 3 = q)
    (k : ∀ (v : Option Value) (T' : State) (Lc : List Loc), Q v T'.heap Lc → Stand p l e R s m args below meth c T' (locs ++ Lc) (cells + rm.cells) (slots + rm.slots) → Go p e below G T' m q L (v.toList ++ rest)) : Go p e below G T m pc L S := by
  subst hq hS
  obtain ⟨v, _, ⟨T', L', k', n'⟩, -, X', ⟨Lc, hQ, l1, y1, z1⟩, st⟩ := Jvm.LawKit.callS X hx (y := y) hown (mvT hZ w1) (mvT hZ w2) (mvT hZ w3) (mvT hZ w4) hy (backOf (W := W) K hZ w4 w3 hf hl) (g := mkF m pc L (argsL.reverse ++ rest)) rfl hsize (argsL := argsL) (rest := rest) (lenOf hlen hl2) rfl (by show 2 * 0 + _ ≤ _; omega) hd (fun _ _ => ⟨rfl, eT, hc, hn⟩)
  dsimp only [Pt.U, Pt.locs, Pt.cells, Pt.slots] at X' l1 y1 z1 st hQ
  subst l1 y1 z1
  exact Go.st st (k v T' Lc hQ X')
/-- what a pure body leaves -/
def PQ (w : Value) (h0 : Heap) (v : Option Value) (h : Heap) (L : List Loc) : Prop := v = some w ∧ h = h0 ∧ L = []
theorem callP (X : Stand p l e R s m args below meth c T locs cells slots) (hx : p.tables.exec = Jvm.exec) (hZ : Z.Warmed39 s.vm) (hown : s.vm.findClass own = some m.cls) {index : Nat} {y : MethodName} {bytes : ByteArray} {maxL : Nat} {ret : Option FieldType} {rm : Room} {w : Value} {W : Nat} {argsL rest : List Value}
    (w1 : (Jvm.Cond.methodLink own index y).before a0 Z = true) (w2 : (Jvm.Cond.static y).before a0 Z = true) (w3 : (Jvm.Cond.initialized y.cls).before a0 Z = true) (w4 : (Jvm.Cond.code y bytes maxL ret).before a0 Z = true) (hy : y.cls ≠ "java/lang/invoke/MethodHandle" ∧ y.cls ≠ "java/lang/invoke/VarHandle")
    (K : Ctr l y bytes maxL ret [] rm Z argsL.toArray h (PQ w h) 0 0) (hrc : rm.cells = 0) (hrs : rm.slots = 0) (eT : T.heap = h) (hf : rm.frames + 1 ≤ R.frames) (hl : W + (maxL + 11) + rm.locals ≤ R.locals) (hc : cells ≤ R.cells) (hn : slots ≤ R.slots) (hsize : L.size = c.maxLocals)
    {ps : List FieldType} {r : Option FieldType} (hlen : parseMethodDescriptor y.desc = some ⟨ps, r⟩) (hl2 : argsL.length = ps.length) (hS : S = argsL.reverse ++ rest) (hW : (rest.map fun v => v.category).sum ≤ W) (hd : decode c.code pc = .ok (.invokestatic index, 3)) (hq : pc + 3 = q)
    (k : ∀ (T' : State), Stand p l e R s m args below meth c T' locs cells slots → T'.heap = h → Go p e below G T' m q L (w :: rest)) : Go p e below G T m pc L S := by
  refine callC X hx hZ hown w1 w2 w3 w4 hy (rm := rm) (Q := PQ w h) (by rw [hrc, hrs]; exact K) eT hf hl (by rw [hrc]; exact hc) (by rw [hrs]; exact hn) hsize hlen hl2 hS hW hd hq ?_
  rintro v T' Lc ⟨rfl, e', rfl⟩ X'
  rw [List.append_nil, hrc, hrs] at X'
  exact k T' X' e'
theorem callV (X : Stand p l e R s m args below meth c T locs cells slots) (hx : p.tables.exec = Jvm.exec) (hZ : Z.Warmed39 s.vm) (hown : s.vm.findClass own = some m.cls) {index : Nat} {y : MethodName} {bytes : ByteArray} {maxL : Nat} {ret : Option FieldType} {rm : Room} {Q : Option Value → Heap → List Loc → Prop} {W : Nat} {argsL rest : List Value}
    (w1 : (Jvm.Cond.methodLink own index y).before a0 Z = true) (w2 : (Jvm.Cond.declares y).before a0 Z = true) (w3 : (Jvm.Cond.selects y.cls y y).before a0 Z = true) (w5 : (Jvm.Cond.instanceMethod y).before a0 Z = true) (w6 : (Jvm.Cond.initialized y.cls).before a0 Z = true) (w4 : (Jvm.Cond.code y bytes maxL ret).before a0 Z = true) (hy : y.cls ≠ "java/lang/invoke/MethodHandle" ∧ y.cls ≠ "java/lang/invoke/VarHandle")
    (A : Exa Z h a y.cls) (K : Ctr l y bytes maxL ret [] rm Z (.ref a :: argsL).toArray h Q rm.cells rm.slots) (eT : T.heap = h) (hf : rm.frames + 1 ≤ R.frames) (hl : W + (maxL + 11) + rm.locals ≤ R.locals) (hc : cells + rm.cells ≤ R.cells) (hn : slots + rm.slots ≤ R.slots) (hsize : L.size = c.maxLocals)
    {ps : List FieldType} {r : Option FieldType} (hlen : parseMethodDescriptor y.desc = some ⟨ps, r⟩) (hl2 : argsL.length = ps.length) (hS : S = argsL.reverse ++ .ref a :: rest) (hW : (rest.map fun v => v.category).sum ≤ W) (hd : decode c.code pc = .ok (.invokevirtual index, 3)) (hq : pc + 3 = q)
    (k : ∀ (v : Option Value) (T' : State) (Lc : List Loc), Q v T'.heap Lc → Stand p l e R s m args below meth c T' (locs ++ Lc) (cells + rm.cells) (slots + rm.slots) → Go p e below G T' m q L (v.toList ++ rest)) : Go p e below G T m pc L S := by
  subst hq hS
  obtain ⟨cq, kq, qa, qb, qc⟩ := isOf hZ eT A
  obtain ⟨v, _, ⟨T', L', k', n'⟩, -, X', ⟨Lc, hQ, l1, y1, z1⟩, st⟩ := X.virtualBack hx (y := y) (z := y) hown (mvT hZ w1) (mvT hZ w2) (notFace_of_selects (args := #[]) (mvT hZ w3)) (mvT hZ w3) (mvT hZ w5) hy (backOf (W := W) K hZ w4 w6 hf hl) qa qc (g := mkF m pc L (argsL.reverse ++ .ref a :: rest)) rfl hsize (Steps.refl _) (argsL := argsL) (rest := rest) (lenOf hlen hl2) rfl (by show 2 * 0 + _ ≤ _; omega) hd (fun _ _ => ⟨rfl, eT, hc, hn⟩)
  dsimp only [Pt.U, Pt.locs, Pt.cells, Pt.slots] at X' l1 y1 z1 st hQ
  subst l1 y1 z1
  exact Go.st (fun t h => st.trans h) (k v T' Lc hQ X')
theorem callI (X : Stand p l e R s m args below meth c T locs cells slots) (hx : p.tables.exec = Jvm.exec) (hZ : Z.Warmed39 s.vm) (hown : s.vm.findClass own = some m.cls) {index : Nat} {y : MethodName} {bytes : ByteArray} {maxL : Nat} {rm : Room} {Q : Option Value → Heap → List Loc → Prop} {W : Nat} {argsL rest : List Value} (hyn : y.name = "<init>")
    (w1 : (Jvm.Cond.methodLink own index y).before a0 Z = true) (w5 : (Jvm.Cond.instanceMethod y).before a0 Z = true) (w6 : (Jvm.Cond.initialized y.cls).before a0 Z = true) (w4 : (Jvm.Cond.code y bytes maxL none).before a0 Z = true) (hy : y.cls ≠ "java/lang/invoke/MethodHandle" ∧ y.cls ≠ "java/lang/invoke/VarHandle")
    (K : Ctr l y bytes maxL none [] rm Z (.ref a :: argsL).toArray h Q rm.cells rm.slots) (eT : T.heap = h) (hf : rm.frames + 1 ≤ R.frames) (hl : W + (maxL + 11) + rm.locals ≤ R.locals) (hc : cells + rm.cells ≤ R.cells) (hn : slots + rm.slots ≤ R.slots) (hsize : L.size = c.maxLocals)
    {ps : List FieldType} {r : Option FieldType} (hlen : parseMethodDescriptor y.desc = some ⟨ps, r⟩) (hl2 : argsL.length = ps.length) (hS : S = argsL.reverse ++ .ref a :: rest) (hW : (rest.map fun v => v.category).sum ≤ W) (hd : decode c.code pc = .ok (.invokespecial index, 3)) (hq : pc + 3 = q)
    (k : ∀ (v : Option Value) (T' : State) (Lc : List Loc), Q v T'.heap Lc → Stand p l e R s m args below meth c T' (locs ++ Lc) (cells + rm.cells) (slots + rm.slots) → Go p e below G T' m q L (v.toList ++ rest)) : Go p e below G T m pc L S := by
  subst hq hS
  obtain ⟨v, _, ⟨T', L', k', n'⟩, -, X', ⟨Lc, hQ, l1, y1, z1⟩, st⟩ := X.specialBack hx (y := y) hyn hown (mvT hZ w1) (mvT hZ w5) (mvT hZ w4) hy (backOf (W := W) K hZ w4 w6 hf hl) (g := mkF m pc L (argsL.reverse ++ .ref a :: rest)) rfl hsize (Steps.refl _) (a := a) (argsL := argsL) (rest := rest) (lenOf hlen hl2) rfl (by show 2 * 0 + _ ≤ _; omega) hd (fun _ _ => ⟨rfl, eT, hc, hn⟩)
  dsimp only [Pt.U, Pt.locs, Pt.cells, Pt.slots] at X' l1 y1 z1 st hQ
  subst l1 y1 z1
  exact Go.st (fun t h => st.trans h) (k v T' Lc hQ X')
theorem s_initO (X : Stand p l e R s m args below meth c T locs cells slots) (hx : p.tables.exec = Jvm.exec) (hZ : Z.Warmed39 s.vm) (hown : s.vm.findClass own = some m.cls) {index : Nat} {W : Nat} (w1 : (Jvm.Cond.methodLink own index Lib.objectInit).before a0 Z = true) (w2 : (Jvm.Cond.instanceMethod Lib.objectInit).before a0 Z = true)
    (w3 : (Jvm.Cond.code Lib.objectInit ⟨#[0xb1]⟩ 1 none).before a0 Z = true) (eT : T.heap = h) (hsize : L.size = c.maxLocals) (hf : 1 ≤ R.frames) (hW : (S.map fun v => v.category).sum ≤ W) (hl : W + 12 ≤ R.locals) (hd : decode c.code pc = .ok (.invokespecial index, 3)) (hq : pc + 3 = q)
    (k : ∀ T', Stand p l e R s m args below meth c T' locs cells slots → T'.heap = h → Go p e below G T' m q L S) : Go p e below G T m pc L (.ref a :: S) := by
  subst hq
  obtain ⟨T', X', e', st⟩ := initO X hx hZ hown w1 w2 w3 eT (g := mkF m pc L (.ref a :: S)) rfl hsize rfl hd hf (W := W) (by show 2 * 0 + _ ≤ _; omega) hl
  exact Go.st st (k T' X' e')
theorem s_getF (X : Stand p l e R s m args below meth c T locs cells slots) (hx : p.tables.exec = Jvm.exec) (hZ : Z.Warmed39 s.vm) (hown : s.vm.findClass own = some m.cls) {index : Nat} (w : (Jvm.Cond.fieldLink own index O n d).before a0 Z = true) (eT : T.heap = h) (F : Fld Z h a O n d v) (hd : decode c.code pc = .ok (.getfield index, 3)) (hq : pc + 3 = q)
    (k : ∀ T', Stand p l e R s m args below meth c T' locs cells slots → T'.heap = h → Go p e below G T' m q L (v :: S)) : Go p e below G T m pc L (.ref a :: S) := by
  subst hq
  obtain ⟨T', X', e', st⟩ := getF X hx hZ hown (host := "") (Or.inl w) Via.refl eT F (g := mkF m pc L (.ref a :: S)) rfl rfl hd
  exact Go.st st (k T' X' e')
theorem s_putF (X : Stand p l e R s m args below meth c T locs cells slots) (hx : p.tables.exec = Jvm.exec) (hZ : Z.Warmed39 s.vm) (hown : s.vm.findClass own = some m.cls) {index kk : Nat} {ty : FieldType} {v old : Value} (w : (Jvm.Cond.fieldLink own index O n d).before a0 Z = true) (eT : T.heap = h) (F : Fld Z h a O n d old) (E : Exa Z h a C)
    (Ly : (Jvm.Cond.lays C O n d).before a0 Z = true ∨ ((Jvm.Cond.laysFinal C O n d).before a0 Z = true ∧ own = O ∧ meth.name = "<init>")) (wi : (Jvm.Cond.instantiable C kk).before a0 Z = true) (hty : parseFieldDescriptor d = some ty) (hn : narrow ty v = v) (hfit : fits ty v = true) (N : Fr n0 locs) (hg : n0 ≤ a) (hd : decode c.code pc = .ok (.putfield index, 3)) (hq : pc + 3 = q)
    (k : ∀ (T' : State) (h' : Heap) (locs' : List Loc), Stand p l e R s m args below meth c T' locs' cells slots → Fr n0 locs' → T'.heap = h' → Wr h h' a (Jvm.RoadKit.slotOf Z O n d) v → Fld Z h' a O n d v → Go p e below G T' m q L S) : Go p e below G T m pc L (v :: .ref a :: S) := by
  subst hq
  obtain ⟨T', h', X', e', W, st⟩ := putF X hx hZ hown (host := "") (Or.inl w) Via.refl eT F E Ly wi hty hn hfit (g := mkF m pc L (v :: .ref a :: S)) rfl rfl hd
  exact Go.st st (k T' h' _ X' (Fr.snoc X' N hg) e' W (F.same W))
theorem s_new (X : Stand p l e R s m args below meth c T locs cells slots) (hx : p.tables.exec = Jvm.exec) (hZ : Z.Warmed39 s.vm) (hown : s.vm.findClass own = some m.cls) {index kk : Nat} (w : (Jvm.Cond.classLink own index C).before a0 Z = true) (wi : (Jvm.Cond.instantiable C kk).before a0 Z = true) (wz : (Jvm.Cond.initialized C).before a0 Z = true) (eT : T.heap = h)
    (hc : cells + 1 ≤ R.cells) (hl : slots + kk ≤ R.slots) (hd : decode c.code pc = .ok (.new index, 3)) (hq : pc + 3 = q)
    (k : ∀ (T' : State) (h' : Heap) (a : Addr), Stand p l e R s m args below meth c T' locs (cells + 1) (slots + kk) → T'.heap = h' → Ext h h' → a = h.size → Exa Z h' a C → (∀ (O nm d : String) (ty : FieldType), Laid Z a0 C O nm d → parseFieldDescriptor d = some ty → Fld Z h' a O nm d (defaultValue ty)) → Go p e below G T' m q L (.ref a :: S)) : Go p e below G T m pc L S := by
  subst hq
  obtain ⟨T', h', X', e', E, A, D, -, st⟩ := newO X hx hZ hown w wi wz eT (g := mkF m pc L S) rfl hd hc hl
  exact Go.st st (k T' h' _ X' e' E rfl A (fun _ _ _ _ L1 q1 => D L1 q1))
/-- an array of ints (bytes, chars ..) by its list -/
def AI (Z : State) (h : Heap) (a : Addr) (ty : FieldType) (xs : List Int32) : Prop := ∃ cl : Cell, Arr Z h a cl ty ∧ cl.slots.toList = xs.map Value.int ∧ xs.length < 2147483648
def AJ (Z : State) (h : Heap) (a : Addr) (xs : List Int64) : Prop := ∃ cl : Cell, Arr Z h a cl .long ∧ cl.slots.toList = xs.map Value.long ∧ xs.length < 2147483648
variable {ty : FieldType} {xs ys : List Int32} {us vs : List Int64} {w : Value} {sl : Nat} {ws : List Addr}
theorem AI.lt (A : AI Z h a ty xs) : a < h.size := by obtain ⟨c, A, -⟩ := A; exact A.lt
theorem AJ.lt (A : AJ Z h a us) : a < h.size := by obtain ⟨c, A, -⟩ := A; exact A.lt
theorem AI.ext (A : AI Z h a ty xs) (E : Ext h h') : AI Z h' a ty xs := by obtain ⟨c, A, r⟩ := A; exact ⟨c, A.ext E, r⟩
theorem AJ.ext (A : AJ Z h a us) (E : Ext h h') : AJ Z h' a us := by obtain ⟨c, A, r⟩ := A; exact ⟨c, A.ext E, r⟩
theorem AI.other (A : AI Z h a ty xs) (W : Wr h h' b sl w) (q : a ≠ b) : AI Z h' a ty xs := by obtain ⟨c, A, r⟩ := A; exact ⟨c, A.other W q, r⟩
theorem AJ.other (A : AJ Z h a us) (W : Wr h h' b sl w) (q : a ≠ b) : AJ Z h' a us := by obtain ⟨c, A, r⟩ := A; exact ⟨c, A.other W q, r⟩
theorem AI.keep (A : AI Z h a ty xs) (K : Keep h h' ws) (q : a ∉ ws) : AI Z h' a ty xs := by obtain ⟨c, A, r⟩ := A; exact ⟨c, ⟨K.2.1 a c A.1 q, A.2⟩, r⟩
theorem AJ.keep (A : AJ Z h a us) (K : Keep h h' ws) (q : a ∉ ws) : AJ Z h' a us := by obtain ⟨c, A, r⟩ := A; exact ⟨c, ⟨K.2.1 a c A.1 q, A.2⟩, r⟩
theorem set_list (cl : Cell) (i : Nat) (v : Value) : (cl.setSlot i v).slots.toList = cl.slots.toList.set i v := by
  show (cl.slots.setIfInBounds i v).toList = _
  exact Array.toList_setIfInBounds ..
theorem AI.same (A : AI Z h a ty xs) {i : Nat} {x : Int32} (W : Wr h h' a i (.int x)) : AI Z h' a ty (xs.set i x) := by
  obtain ⟨c, A, e, n⟩ := A
  exact ⟨_, A.same W, by rw [set_list, e, List.map_set], by rw [List.length_set]; exact n⟩
theorem AJ.same (A : AJ Z h a us) {i : Nat} {x : Int64} (W : Wr h h' a i (.long x)) : AJ Z h' a (us.set i x) := by
  obtain ⟨c, A, e, n⟩ := A
  exact ⟨_, A.same W, by rw [set_list, e, List.map_set], by rw [List.length_set]; exact n⟩
theorem own_size {cl : Cell} {α : Type} {zs : List α} {f : α → Value} (e : cl.slots.toList = zs.map f) : cl.slots.size = zs.length := by
  rw [← Array.length_toList, e, List.length_map]
theorem own_at {cl : Cell} {α : Type} {zs : List α} {f : α → Value} (e : cl.slots.toList = zs.map f) {i : Nat} {x : α} (q : zs[i]? = some x) : cl.slots[i]? = some (f x) := by
  rw [← Array.getElem?_toList, e, List.getElem?_map, q]; rfl
theorem own_in {cl : Cell} {α : Type} {zs : List α} {f : α → Value} (e : cl.slots.toList = zs.map f) {j : Int32} (hj : ¬ j < 0) (q : j.toNatClampNeg < zs.length) : ¬ (j < 0 ∨ cl.slots.size ≤ j.toNatClampNeg) := by
  rw [own_size e]; intro h; rcases h with h | h
  · exact hj h
  · omega
theorem own_inl {α : Type} {zs : List α} {i : Nat} {x : α} (q : zs[i]? = some x) : i < zs.length := (List.getElem?_eq_some_iff.mp q).1
theorem s_iaload (X : Stand p l e R s m args below meth c T locs cells slots) (hx : p.tables.exec = Jvm.exec) (hZ : Z.Warmed39 s.vm) (eT : T.heap = h) {j : Int32} {x : Int32} (A : AI Z h a .int xs) (hj : ¬ j < 0) {i : Nat} (hji : j.toNatClampNeg = i) (hv : xs[i]? = some x) (hd : decode c.code pc = .ok (.iaload, 1)) (hq : pc + 1 = q) (K : Go p e below G T m q L (.int x :: S)) : Go p e below G T m pc L (.int j :: .ref a :: S) := by
  subst hq hji; obtain ⟨cl, Ar, ex, -⟩ := A
  exact Go.st (fun t k => X.iaload hx (j := j) (v := .int x) (by rw [eT]; exact Ar.1) (State.isArrayOf_alike hZ.alike Ar.2.1) Ar.2.2 (own_in ex hj (own_inl hv)) (own_at ex hv) (g := mkF m pc L (.int j :: .ref a :: S)) rfl rfl hd t k) K
theorem s_caload (X : Stand p l e R s m args below meth c T locs cells slots) (hx : p.tables.exec = Jvm.exec) (hZ : Z.Warmed39 s.vm) (eT : T.heap = h) {j : Int32} {x : Int32} (A : AI Z h a .char xs) (hj : ¬ j < 0) {i : Nat} (hji : j.toNatClampNeg = i) (hv : xs[i]? = some x) (hd : decode c.code pc = .ok (.caload, 1)) (hq : pc + 1 = q) (K : Go p e below G T m q L (.int x :: S)) : Go p e below G T m pc L (.int j :: .ref a :: S) := by
  subst hq hji; obtain ⟨cl, Ar, ex, -⟩ := A
  exact Go.st (fun t k => X.caload hx (j := j) (v := .int x) (by rw [eT]; exact Ar.1) (State.isArrayOf_alike hZ.alike Ar.2.1) Ar.2.2 (own_in ex hj (own_inl hv)) (own_at ex hv) (g := mkF m pc L (.int j :: .ref a :: S)) rfl rfl hd t k) K
theorem s_baload (X : Stand p l e R s m args below meth c T locs cells slots) (hx : p.tables.exec = Jvm.exec) (hZ : Z.Warmed39 s.vm) (eT : T.heap = h) {j : Int32} {x : Int32} (A : AI Z h a .byte xs) (hj : ¬ j < 0) {i : Nat} (hji : j.toNatClampNeg = i) (hv : xs[i]? = some x) (hd : decode c.code pc = .ok (.baload, 1)) (hq : pc + 1 = q) (K : Go p e below G T m q L (.int x :: S)) : Go p e below G T m pc L (.int j :: .ref a :: S) := by
  subst hq hji; obtain ⟨cl, Ar, ex, -⟩ := A
  exact Go.st (fun t k => X.baloadBytes hx (j := j) (v := .int x) (by rw [eT]; exact Ar.1) (State.isArrayOf_alike hZ.alike Ar.2.1) Ar.2.2 (own_in ex hj (own_inl hv)) (own_at ex hv) (g := mkF m pc L (.int j :: .ref a :: S)) rfl rfl hd t k) K
theorem s_laload (X : Stand p l e R s m args below meth c T locs cells slots) (hx : p.tables.exec = Jvm.exec) (hZ : Z.Warmed39 s.vm) (eT : T.heap = h) {j : Int32} {x : Int64} (A : AJ Z h a us) (hj : ¬ j < 0) {i : Nat} (hji : j.toNatClampNeg = i) (hv : us[i]? = some x) (hd : decode c.code pc = .ok (.laload, 1)) (hq : pc + 1 = q) (K : Go p e below G T m q L (.long x :: S)) : Go p e below G T m pc L (.int j :: .ref a :: S) := by
  subst hq hji; obtain ⟨cl, Ar, ex, -⟩ := A
  exact Go.st (fun t k => X.laload hx (j := j) (v := .long x) (by rw [eT]; exact Ar.1) (State.isArrayOf_alike hZ.alike Ar.2.1) Ar.2.2 (own_in ex hj (own_inl hv)) (own_at ex hv) (g := mkF m pc L (.int j :: .ref a :: S)) rfl rfl hd t k) K
theorem s_iastore (X : Stand p l e R s m args below meth c T locs cells slots) (hx : p.tables.exec = Jvm.exec) (hZ : Z.Warmed39 s.vm) (eT : T.heap = h) {j : Int32} {x : Int32} (A : AI Z h a .int xs) (N : Fr n0 locs) (hg : n0 ≤ a) (hj : ¬ j < 0) {i : Nat} (hji : j.toNatClampNeg = i) (hi : i < xs.length) (hs : xs.set i x = ys) (hd : decode c.code pc = .ok (.iastore, 1)) (hq : pc + 1 = q)
    (k : ∀ (T' : State) (h' : Heap) (locs' : List Loc), Stand p l e R s m args below meth c T' locs' cells slots → Fr n0 locs' → T'.heap = h' → Wr h h' a i (.int x) → AI Z h' a .int ys → Go p e below G T' m q L S) : Go p e below G T m pc L (.int x :: .int j :: .ref a :: S) := by
  subst hq hs hji; have A0 := A; obtain ⟨cl, Ar, ex, -⟩ := A
  obtain ⟨T', h', X', e', W, st⟩ := Jvm.RoadKit.stI X hx hZ eT Ar (j := j) (own_in ex hj hi) (g := mkF m pc L (.int x :: .int j :: .ref a :: S)) rfl rfl hd
  exact Go.st st (k T' h' _ X' (Fr.snoc X' N hg) e' W (A0.same W))
theorem s_castore (X : Stand p l e R s m args below meth c T locs cells slots) (hx : p.tables.exec = Jvm.exec) (hZ : Z.Warmed39 s.vm) (eT : T.heap = h) {j : Int32} {x : Int32} (A : AI Z h a .char xs) (N : Fr n0 locs) (hg : n0 ≤ a) (hj : ¬ j < 0) {i : Nat} (hji : j.toNatClampNeg = i) (hi : i < xs.length) (hs : xs.set i (nar .char x) = ys) (hd : decode c.code pc = .ok (.castore, 1)) (hq : pc + 1 = q)
    (k : ∀ (T' : State) (h' : Heap) (locs' : List Loc), Stand p l e R s m args below meth c T' locs' cells slots → Fr n0 locs' → T'.heap = h' → Wr h h' a i (.int (nar .char x)) → AI Z h' a .char ys → Go p e below G T' m q L S) : Go p e below G T m pc L (.int x :: .int j :: .ref a :: S) := by
  subst hq hs hji; have A0 := A; obtain ⟨cl, Ar, ex, -⟩ := A
  obtain ⟨T', h', X', e', W, st⟩ := stC X hx hZ eT Ar (j := j) (own_in ex hj hi) (g := mkF m pc L (.int x :: .int j :: .ref a :: S)) rfl rfl hd
  exact Go.st st (k T' h' _ X' (Fr.snoc X' N hg) e' W (A0.same W))
theorem s_bastore (X : Stand p l e R s m args below meth c T locs cells slots) (hx : p.tables.exec = Jvm.exec) (hZ : Z.Warmed39 s.vm) (eT : T.heap = h) {j : Int32} {x : Int32} (A : AI Z h a .byte xs) (N : Fr n0 locs) (hg : n0 ≤ a) (hj : ¬ j < 0) {i : Nat} (hji : j.toNatClampNeg = i) (hi : i < xs.length) (hs : xs.set i (nar .byte x) = ys) (hd : decode c.code pc = .ok (.bastore, 1)) (hq : pc + 1 = q)
    (k : ∀ (T' : State) (h' : Heap) (locs' : List Loc), Stand p l e R s m args below meth c T' locs' cells slots → Fr n0 locs' → T'.heap = h' → Wr h h' a i (.int (nar .byte x)) → AI Z h' a .byte ys → Go p e below G T' m q L S) : Go p e below G T m pc L (.int x :: .int j :: .ref a :: S) := by
  subst hq hs hji; have A0 := A; obtain ⟨cl, Ar, ex, -⟩ := A
  obtain ⟨T', h', X', e', W, st⟩ := stB X hx hZ eT Ar (j := j) (own_in ex hj hi) (g := mkF m pc L (.int x :: .int j :: .ref a :: S)) rfl rfl hd
  exact Go.st st (k T' h' _ X' (Fr.snoc X' N hg) e' W (A0.same W))
theorem s_lastore (X : Stand p l e R s m args below meth c T locs cells slots) (hx : p.tables.exec = Jvm.exec) (hZ : Z.Warmed39 s.vm) (eT : T.heap = h) {j : Int32} {x : Int64} (A : AJ Z h a us) (N : Fr n0 locs) (hg : n0 ≤ a) (hj : ¬ j < 0) {i : Nat} (hji : j.toNatClampNeg = i) (hi : i < us.length) (hs : us.set i x = vs) (hd : decode c.code pc = .ok (.lastore, 1)) (hq : pc + 1 = q)
    (k : ∀ (T' : State) (h' : Heap) (locs' : List Loc), Stand p l e R s m args below meth c T' locs' cells slots → Fr n0 locs' → T'.heap = h' → Wr h h' a i (.long x) → AJ Z h' a vs → Go p e below G T' m q L S) : Go p e below G T m pc L (.long x :: .int j :: .ref a :: S) := by
  subst hq hs hji; have A0 := A; obtain ⟨cl, Ar, ex, -⟩ := A
  obtain ⟨T', h', X', e', W, st⟩ := Jvm.RoadKit.stJ X hx hZ eT Ar (j := j) (own_in ex hj hi) (g := mkF m pc L (.long x :: .int j :: .ref a :: S)) rfl rfl hd
  exact Go.st st (k T' h' _ X' (Fr.snoc X' N hg) e' W (A0.same W))
theorem s_newI (X : Stand p l e R s m args below meth c T locs cells slots) (hx : p.tables.exec = Jvm.exec) (hZ : Z.Warmed39 s.vm) (w : (Jvm.Cond.arrayClass .int).before a0 Z = true) (eT : T.heap = h) {z : Int32} (hz : ¬ z < 0) {cap : Nat} (hcap : z.toNatClampNeg ≤ cap) (hb8 : cap * 8 ≤ 536870912) (hc : cells + 1 ≤ R.cells) (hl : slots + cap ≤ R.slots) (hs : List.replicate z.toNatClampNeg 0 = ys) (hd : decode c.code pc = .ok (.newarray .int, 2)) (hq : pc + 2 = q)
    (k : ∀ (T' : State) (h' : Heap) (a : Addr), Stand p l e R s m args below meth c T' locs (cells + 1) (slots + cap) → T'.heap = h' → Ext h h' → a = h.size → AI Z h' a .int ys → Go p e below G T' m q L (.ref a :: S)) : Go p e below G T m pc L (.int z :: S) := by
  subst hq hs
  obtain ⟨T', h', cA, X', e', E, A, st⟩ := newP X hx hZ (aty := .int) w eT (g := mkF m pc L (.int z :: S)) rfl hd rfl hz (cap := cap) hcap hb8 hc hl
  refine Go.st st (k T' h' _ X' e' E rfl ⟨_, A, ?_, ?_⟩)
  · simp [newA, defaultValue, newarray.typeOf]
  · rw [List.length_replicate]; have := z.toInt_lt; simp only [Int32.toNatClampNeg]; omega
theorem s_newC (X : Stand p l e R s m args below meth c T locs cells slots) (hx : p.tables.exec = Jvm.exec) (hZ : Z.Warmed39 s.vm) (w : (Jvm.Cond.arrayClass .char).before a0 Z = true) (eT : T.heap = h) {z : Int32} (hz : ¬ z < 0) {cap : Nat} (hcap : z.toNatClampNeg ≤ cap) (hb8 : cap * 8 ≤ 536870912) (hc : cells + 1 ≤ R.cells) (hl : slots + cap ≤ R.slots) (hs : List.replicate z.toNatClampNeg 0 = ys) (hd : decode c.code pc = .ok (.newarray .char, 2)) (hq : pc + 2 = q)
    (k : ∀ (T' : State) (h' : Heap) (a : Addr), Stand p l e R s m args below meth c T' locs (cells + 1) (slots + cap) → T'.heap = h' → Ext h h' → a = h.size → AI Z h' a .char ys → Go p e below G T' m q L (.ref a :: S)) : Go p e below G T m pc L (.int z :: S) := by
  subst hq hs
  obtain ⟨T', h', cA, X', e', E, A, st⟩ := newP X hx hZ (aty := .char) w eT (g := mkF m pc L (.int z :: S)) rfl hd rfl hz (cap := cap) hcap hb8 hc hl
  refine Go.st st (k T' h' _ X' e' E rfl ⟨_, A, ?_, ?_⟩)
  · simp [newA, defaultValue, newarray.typeOf]
  · rw [List.length_replicate]; have := z.toInt_lt; simp only [Int32.toNatClampNeg]; omega
theorem s_newB (X : Stand p l e R s m args below meth c T locs cells slots) (hx : p.tables.exec = Jvm.exec) (hZ : Z.Warmed39 s.vm) (w : (Jvm.Cond.arrayClass .byte).before a0 Z = true) (eT : T.heap = h) {z : Int32} (hz : ¬ z < 0) {cap : Nat} (hcap : z.toNatClampNeg ≤ cap) (hb8 : cap * 8 ≤ 536870912) (hc : cells + 1 ≤ R.cells) (hl : slots + cap ≤ R.slots) (hs : List.replicate z.toNatClampNeg 0 = ys) (hd : decode c.code pc = .ok (.newarray .byte, 2)) (hq : pc + 2 = q)
    (k : ∀ (T' : State) (h' : Heap) (a : Addr), Stand p l e R s m args below meth c T' locs (cells + 1) (slots + cap) → T'.heap = h' → Ext h h' → a = h.size → AI Z h' a .byte ys → Go p e below G T' m q L (.ref a :: S)) : Go p e below G T m pc L (.int z :: S) := by
  subst hq hs
  obtain ⟨T', h', cA, X', e', E, A, st⟩ := newP X hx hZ (aty := .byte) w eT (g := mkF m pc L (.int z :: S)) rfl hd rfl hz (cap := cap) hcap hb8 hc hl
  refine Go.st st (k T' h' _ X' e' E rfl ⟨_, A, ?_, ?_⟩)
  · simp [newA, defaultValue, newarray.typeOf]
  · rw [List.length_replicate]; have := z.toInt_lt; simp only [Int32.toNatClampNeg]; omega
theorem s_newJ (X : Stand p l e R s m args below meth c T locs cells slots) (hx : p.tables.exec = Jvm.exec) (hZ : Z.Warmed39 s.vm) (w : (Jvm.Cond.arrayClass .long).before a0 Z = true) (eT : T.heap = h) {z : Int32} (hz : ¬ z < 0) {cap : Nat} (hcap : z.toNatClampNeg ≤ cap) (hb8 : cap * 8 ≤ 536870912) (hc : cells + 1 ≤ R.cells) (hl : slots + cap ≤ R.slots) (hs : List.replicate z.toNatClampNeg 0 = vs) (hd : decode c.code pc = .ok (.newarray .long, 2)) (hq : pc + 2 = q)
    (k : ∀ (T' : State) (h' : Heap) (a : Addr), Stand p l e R s m args below meth c T' locs (cells + 1) (slots + cap) → T'.heap = h' → Ext h h' → a = h.size → AJ Z h' a vs → Go p e below G T' m q L (.ref a :: S)) : Go p e below G T m pc L (.int z :: S) := by
  subst hq hs
  obtain ⟨T', h', cA, X', e', E, A, st⟩ := newP X hx hZ (aty := .long) w eT (g := mkF m pc L (.int z :: S)) rfl hd rfl hz (cap := cap) hcap hb8 hc hl
  refine Go.st st (k T' h' _ X' e' E rfl ⟨_, A, ?_, ?_⟩)
  · simp [newA, defaultValue, newarray.typeOf]
  · rw [List.length_replicate]; have := z.toInt_lt; simp only [Int32.toNatClampNeg]; omega
theorem s_lenI (X : Stand p l e R s m args below meth c T locs cells slots) (hx : p.tables.exec = Jvm.exec) (hZ : Z.Warmed39 s.vm) (eT : T.heap = h) {z : Int32} (A : AI Z h a ty xs) (hz : xs.length.toInt32 = z) (hd : decode c.code pc = .ok (.arraylength, 1)) (hq : pc + 1 = q) (K : Go p e below G T m q L (.int z :: S)) : Go p e below G T m pc L (.ref a :: S) := by
  subst hq hz; obtain ⟨cl, Ar, ex, -⟩ := A
  rw [← own_size ex] at K
  exact Go.st (fun t k => X.arraylength hx (by rw [eT]; exact Ar.1) (State.isArrayOf_alike hZ.alike Ar.2.1) (g := mkF m pc L (.ref a :: S)) rfl rfl hd t k) K
theorem s_lenJ (X : Stand p l e R s m args below meth c T locs cells slots) (hx : p.tables.exec = Jvm.exec) (hZ : Z.Warmed39 s.vm) (eT : T.heap = h) {z : Int32} (A : AJ Z h a us) (hz : us.length.toInt32 = z) (hd : decode c.code pc = .ok (.arraylength, 1)) (hq : pc + 1 = q) (K : Go p e below G T m q L (.int z :: S)) : Go p e below G T m pc L (.ref a :: S) := by
  subst hq hz; obtain ⟨cl, Ar, ex, -⟩ := A
  rw [← own_size ex] at K
  exact Go.st (fun t k => X.arraylength hx (by rw [eT]; exact Ar.1) (State.isArrayOf_alike hZ.alike Ar.2.1) (g := mkF m pc L (.ref a :: S)) rfl rfl hd t k) K
theorem own_mask_nn (x m : Int32) (h0 : 0 ≤ m.toInt) : ¬ (x &&& m) < 0 := by
  have := c_and x m h0; rw [Int32.lt_iff_toInt_lt]; show ¬ (x &&& m).toInt < 0; omega
theorem own_mask_ix (x m : Int32) {N : Nat} (h0 : 0 ≤ m.toInt) (h : m.toInt < N) : (x &&& m).toNatClampNeg < N := by
  have := c_and x m h0; simp only [Int32.toNatClampNeg]; omega
theorem own_idx {k n : Int32} {N : Nat} (h0 : ¬ k < 0) (h : k < n) (hn : n.toInt = N) : k.toNatClampNeg < N := by
  have e0 : (0 : Int32).toInt = 0 := rfl
  simp only [Int32.lt_iff_toInt_lt, Int32.toNatClampNeg] at *; omega
theorem own_cs {x : Int32} {k : Int} (b : Int32) (hb : b.toInt = k) (h : x.toInt = k) : x = b := Int32.toInt_inj.mp (h.trans hb.symm)
theorem own_lt {x b : Int32} {k : Int} (hb : b.toInt = k) (h : x.toInt < k) : x < b := by rw [Int32.lt_iff_toInt_lt, hb]; exact h
theorem own_nlt {x b : Int32} {k : Int} (hb : b.toInt = k) (h : k ≤ x.toInt) : ¬ x < b := by rw [Int32.lt_iff_toInt_lt, hb]; omega
theorem own_gt {x b : Int32} {k : Int} (hb : b.toInt = k) (h : k < x.toInt) : b < x := by rw [Int32.lt_iff_toInt_lt, hb]; exact h
theorem own_ngt {x b : Int32} {k : Int} (hb : b.toInt = k) (h : x.toInt ≤ k) : ¬ b < x := by rw [Int32.lt_iff_toInt_lt, hb]; omega
theorem own_eqi {x b : Int32} {k : Int} (hb : b.toInt = k) (h : x.toInt = k) : x = b := Int32.toInt_inj.mp (h.trans hb.symm)
theorem own_nei {x b : Int32} {k : Int} (hb : b.toInt = k) (h : x.toInt ≠ k) : ¬ x = b := fun q => h (by rw [q, hb])
end Kit
theorem d3_0 : decode method_4_code 0 = .ok (.iload_n 2, 1) := by decide +kernel
theorem d3_1 : decode method_4_code 1 = .ok (.ifCond .eq 14, 3) := by decide +kernel
theorem d3_4 : decode method_4_code 4 = .ok (.iload_n 0, 1) := by decide +kernel
theorem d3_5 : decode method_4_code 5 = .ok (.iload_n 1, 1) := by decide +kernel
theorem d3_6 : decode method_4_code 6 = .ok (.if_icmp .le 7, 3) := by decide +kernel
theorem d3_9 : decode method_4_code 9 = .ok (.iconst 1, 1) := by decide +kernel
theorem d3_10 : decode method_4_code 10 = .ok (.goto 4, 3) := by decide +kernel
theorem d3_13 : decode method_4_code 13 = .ok (.iconst 0, 1) := by decide +kernel
theorem d3_14 : decode method_4_code 14 = .ok (.ireturn, 1) := by decide +kernel
theorem d3_15 : decode method_4_code 15 = .ok (.iload_n 0, 1) := by decide +kernel
theorem d3_16 : decode method_4_code 16 = .ok (.i2l, 1) := by decide +kernel
theorem d3_17 : decode method_4_code 17 = .ok (.ldc2_w 26, 3) := by decide +kernel
theorem d3_20 : decode method_4_code 20 = .ok (.land, 1) := by decide +kernel
theorem d3_21 : decode method_4_code 21 = .ok (.iload_n 1, 1) := by decide +kernel
theorem d3_22 : decode method_4_code 22 = .ok (.i2l, 1) := by decide +kernel
theorem d3_23 : decode method_4_code 23 = .ok (.ldc2_w 26, 3) := by decide +kernel
theorem d3_26 : decode method_4_code 26 = .ok (.land, 1) := by decide +kernel
theorem d3_27 : decode method_4_code 27 = .ok (.lcmp, 1) := by decide +kernel
theorem d3_28 : decode method_4_code 28 = .ok (.ifCond .le 7, 3) := by decide +kernel
theorem d3_31 : decode method_4_code 31 = .ok (.iconst 1, 1) := by decide +kernel
theorem d3_32 : decode method_4_code 32 = .ok (.goto 4, 3) := by decide +kernel
theorem d3_35 : decode method_4_code 35 = .ok (.iconst 0, 1) := by decide +kernel
theorem d3_36 : decode method_4_code 36 = .ok (.ireturn, 1) := by decide +kernel
theorem pn_3 : plainFor (⟨"com/example/digitwise/digitwise/internal/IntRadixSortInsertionSortPinLaw", "after", "(IIZ)Z"⟩ : MethodName) = true := plainFor_of_name (by first | (simp [plainName, overriddenIn]; done) | decide +kernel)
theorem ef_3 (m : MethodId) (x0 : Int32) (x1 : Int32) (x2 : Int32) : entryFrame m #[(.int x0), (.int x1), (.int x2)] 3 = mkF m 0 #[.val (.int x0), .val (.int x1), .val (.int x2)] [] := by first | (simp [entryFrame, mkF, argsToLocals, Value.category]; done) | rfl
def F3 (x0 : Int32) (x1 : Int32) (x2 : Int32) : Int32 := (if x2 = 0 then (if (x1.toInt64 &&& (4294967295 : Int64)) < (x0.toInt64 &&& (4294967295 : Int64)) then (1 : Int32) else (0 : Int32)) else (if x1 < x0 then (1 : Int32) else (0 : Int32)))
set_option maxRecDepth 65536 in
set_option maxHeartbeats 40000000 in
theorem rm3 (l : Launch) (Z : State) (a0 : Array Value) (hw : ∀ d ∈ tables_1, d.before a0 Z = true) (ws : List Jvm.Cond) (x0 : Int32) (x1 : Int32) (x2 : Int32)  (h0 : Heap) :
    Ctr l (⟨"com/example/digitwise/digitwise/internal/IntRadixSortInsertionSortPinLaw", "after", "(IIZ)Z"⟩ : MethodName) method_4_code 3 (some .boolean) ws ({ frames := 0, cells := 0, slots := 0, locals := 0 } : Room) Z #[(.int x0), (.int x1), (.int x2)] h0 (PQ (.int (F3 x0 x1 x2)) h0) 0 0 := by
  refine Ctr.mk pn_3 ?_
  intro p e s m below meth c T hx hby hml hown hnm hlk hret hZ X eT
  refine enter (ef_3 m x0 x1 x2) ?_
  obtain ⟨res, hres⟩ : ∃ r, r = F3 x0 x1 x2 := ⟨_, rfl⟩
  rw [← hres]
  refine s_iloadN X hx (hb hby d3_0) rfl (q := 1) rfl ?_
  refine f_if_eq X hx (hb hby d3_1) (q1 := 15) (by decide) (by decide) (q := 4) rfl (fun hc1 => ?_) (fun hc1 => ?_)
  · refine s_iloadN X hx (hb hby d3_15) rfl (q := 16) rfl ?_
    refine s_i2l X hx (hb hby d3_16) (q := 17) rfl ?_
    refine s_ldc2 X hx hZ hown (hw _ (List.mem_of_getElem? (i := 14) rfl)) (hb hby d3_17) (q := 20) rfl ?_
    refine s_land X hx (hb hby d3_20) (q := 21) rfl ?_
    refine s_iloadN X hx (hb hby d3_21) rfl (q := 22) rfl ?_
    refine s_i2l X hx (hb hby d3_22) (q := 23) rfl ?_
    refine s_ldc2 X hx hZ hown (hw _ (List.mem_of_getElem? (i := 14) rfl)) (hb hby d3_23) (q := 26) rfl ?_
    refine s_land X hx (hb hby d3_26) (q := 27) rfl ?_
    refine s_lcmp X hx (hb hby d3_27) (q := 28) rfl ?_
    refine f_lcmp_le X hx (hb hby d3_28) (q1 := 35) (by decide) (by decide) (q := 31) rfl (fun hc28 => ?_) (fun hc28 => ?_)
    · refine s_iconst X hx (z := (0 : Int32)) (hb hby d3_35) rfl (q := 36) rfl ?_
      exact leafN X hx hlk hret (by simp) (hb hby d3_36) (Nat.le_refl _) (Nat.le_refl _) (z' := (0 : Int32)) rfl ⟨congrArg (fun z => some (Value.int z)) (hres.trans (by unfold F3; rw [if_pos hc1, if_neg hc28])).symm, eT, rfl⟩
    refine s_iconst X hx (z := (1 : Int32)) (hb hby d3_31) rfl (q := 32) rfl ?_
    refine s_goto X hx (hb hby d3_32) (q1 := 36) (by decide) (by decide) ?_
    exact leafN X hx hlk hret (by simp) (hb hby d3_36) (Nat.le_refl _) (Nat.le_refl _) (z' := (1 : Int32)) rfl ⟨congrArg (fun z => some (Value.int z)) (hres.trans (by unfold F3; rw [if_pos hc1, if_pos hc28])).symm, eT, rfl⟩
  refine s_iloadN X hx (hb hby d3_4) rfl (q := 5) rfl ?_
  refine s_iloadN X hx (hb hby d3_5) rfl (q := 6) rfl ?_
  refine f_icmp_le X hx (hb hby d3_6) (q1 := 13) (by decide) (by decide) (q := 9) rfl (fun hc6 => ?_) (fun hc6 => ?_)
  · refine s_iconst X hx (z := (0 : Int32)) (hb hby d3_13) rfl (q := 14) rfl ?_
    exact leafN X hx hlk hret (by simp) (hb hby d3_14) (Nat.le_refl _) (Nat.le_refl _) (z' := (0 : Int32)) rfl ⟨congrArg (fun z => some (Value.int z)) (hres.trans (by unfold F3; rw [if_neg hc1, if_neg hc6])).symm, eT, rfl⟩
  refine s_iconst X hx (z := (1 : Int32)) (hb hby d3_9) rfl (q := 10) rfl ?_
  refine s_goto X hx (hb hby d3_10) (q1 := 14) (by decide) (by decide) ?_
  exact leafN X hx hlk hret (by simp) (hb hby d3_14) (Nat.le_refl _) (Nat.le_refl _) (z' := (1 : Int32)) rfl ⟨congrArg (fun z => some (Value.int z)) (hres.trans (by unfold F3; rw [if_neg hc1, if_pos hc6])).symm, eT, rfl⟩
theorem own_get (xs : List Int32) {i : Nat} (h : i < xs.length) : xs[i]? = some (xs.getD i 0) := by
  rw [List.getD_eq_getElem?_getD, List.getElem?_eq_getElem h]; rfl
def CS (i : Nat) (t : Int32) (xs : List Int32) : List Int32 := if (xs.getD (i + 1) 0 ^^^ t) < (xs.getD i 0 ^^^ t) then (xs.set i (xs.getD (i + 1) 0)).set (i + 1) (xs.getD i 0) else xs
theorem CS_len (i : Nat) (t : Int32) (xs : List Int32) : (CS i t xs).length = xs.length := by
  unfold CS; split <;> simp
theorem own_five {xs : List Int32} (h : xs.length = 5) : ∃ z0 z1 z2 z3 z4, xs = [z0, z1, z2, z3, z4] := by
  match xs, h with
  | [a, b, d, e, f], _ => exact ⟨a, b, d, e, f, rfl⟩
def STP (i f t : Nat) (tt : Int32) (xs : List Int32) : List Int32 := if f ≤ i ∧ i + 1 < t then CS i tt xs else xs
theorem STP_len (i f t : Nat) (tt : Int32) (xs : List Int32) : (STP i f t tt xs).length = xs.length := by
  unfold STP; split
  · exact CS_len _ _ _
  · rfl
set_option maxHeartbeats 4000000 in
theorem CSi_0 (t : Int32) (xs : List Int32) (h : xs.length = 5) : CS 0 t (CS 0 t xs) = CS 0 t xs := by
  obtain ⟨z0, z1, z2, z3, z4, rfl⟩ := own_five h
  unfold CS
  simp only [List.getD_cons_zero, List.getD_cons_succ, List.set_cons_zero, List.set_cons_succ, Int32.lt_iff_toInt_lt]
  try ((repeat' split) <;> first | rfl | (exfalso; simp only [List.getD_cons_zero, List.getD_cons_succ, List.set_cons_zero, List.set_cons_succ] at *; omega) | (simp only [List.getD_cons_zero, List.getD_cons_succ, List.set_cons_zero, List.set_cons_succ] at *; first | rfl | (exfalso; omega)))
set_option maxHeartbeats 4000000 in
theorem CSb_0_1 (t : Int32) (xs : List Int32) (h : xs.length = 5) : CS 0 t (CS 1 t (CS 0 t xs)) = CS 1 t (CS 0 t (CS 1 t xs)) := by
  obtain ⟨z0, z1, z2, z3, z4, rfl⟩ := own_five h
  unfold CS
  simp only [List.getD_cons_zero, List.getD_cons_succ, List.set_cons_zero, List.set_cons_succ, Int32.lt_iff_toInt_lt]
  try ((repeat' split) <;> first | rfl | (exfalso; simp only [List.getD_cons_zero, List.getD_cons_succ, List.set_cons_zero, List.set_cons_succ] at *; omega) | (simp only [List.getD_cons_zero, List.getD_cons_succ, List.set_cons_zero, List.set_cons_succ] at *; first | rfl | (exfalso; omega)))
set_option maxHeartbeats 4000000 in
theorem CSc_0_2 (t : Int32) (xs : List Int32) (h : xs.length = 5) : CS 0 t (CS 2 t xs) = CS 2 t (CS 0 t xs) := by
  obtain ⟨z0, z1, z2, z3, z4, rfl⟩ := own_five h
  unfold CS
  simp only [List.getD_cons_zero, List.getD_cons_succ, List.set_cons_zero, List.set_cons_succ, Int32.lt_iff_toInt_lt]
  try ((repeat' split) <;> first | rfl | (exfalso; simp only [List.getD_cons_zero, List.getD_cons_succ, List.set_cons_zero, List.set_cons_succ] at *; omega) | (simp only [List.getD_cons_zero, List.getD_cons_succ, List.set_cons_zero, List.set_cons_succ] at *; first | rfl | (exfalso; omega)))
set_option maxHeartbeats 4000000 in
theorem CSc_0_3 (t : Int32) (xs : List Int32) (h : xs.length = 5) : CS 0 t (CS 3 t xs) = CS 3 t (CS 0 t xs) := by
  obtain ⟨z0, z1, z2, z3, z4, rfl⟩ := own_five h
  unfold CS
  simp only [List.getD_cons_zero, List.getD_cons_succ, List.set_cons_zero, List.set_cons_succ, Int32.lt_iff_toInt_lt]
  try ((repeat' split) <;> first | rfl | (exfalso; simp only [List.getD_cons_zero, List.getD_cons_succ, List.set_cons_zero, List.set_cons_succ] at *; omega) | (simp only [List.getD_cons_zero, List.getD_cons_succ, List.set_cons_zero, List.set_cons_succ] at *; first | rfl | (exfalso; omega)))
set_option maxHeartbeats 4000000 in
theorem CSi_1 (t : Int32) (xs : List Int32) (h : xs.length = 5) : CS 1 t (CS 1 t xs) = CS 1 t xs := by
  obtain ⟨z0, z1, z2, z3, z4, rfl⟩ := own_five h
  unfold CS
  simp only [List.getD_cons_zero, List.getD_cons_succ, List.set_cons_zero, List.set_cons_succ, Int32.lt_iff_toInt_lt]
  try ((repeat' split) <;> first | rfl | (exfalso; simp only [List.getD_cons_zero, List.getD_cons_succ, List.set_cons_zero, List.set_cons_succ] at *; omega) | (simp only [List.getD_cons_zero, List.getD_cons_succ, List.set_cons_zero, List.set_cons_succ] at *; first | rfl | (exfalso; omega)))
set_option maxHeartbeats 4000000 in
theorem CSb_1_0 (t : Int32) (xs : List Int32) (h : xs.length = 5) : CS 1 t (CS 0 t (CS 1 t xs)) = CS 0 t (CS 1 t (CS 0 t xs)) := by
  obtain ⟨z0, z1, z2, z3, z4, rfl⟩ := own_five h
  unfold CS
  simp only [List.getD_cons_zero, List.getD_cons_succ, List.set_cons_zero, List.set_cons_succ, Int32.lt_iff_toInt_lt]
  try ((repeat' split) <;> first | rfl | (exfalso; simp only [List.getD_cons_zero, List.getD_cons_succ, List.set_cons_zero, List.set_cons_succ] at *; omega) | (simp only [List.getD_cons_zero, List.getD_cons_succ, List.set_cons_zero, List.set_cons_succ] at *; first | rfl | (exfalso; omega)))
set_option maxHeartbeats 4000000 in
theorem CSb_1_2 (t : Int32) (xs : List Int32) (h : xs.length = 5) : CS 1 t (CS 2 t (CS 1 t xs)) = CS 2 t (CS 1 t (CS 2 t xs)) := by
  obtain ⟨z0, z1, z2, z3, z4, rfl⟩ := own_five h
  unfold CS
  simp only [List.getD_cons_zero, List.getD_cons_succ, List.set_cons_zero, List.set_cons_succ, Int32.lt_iff_toInt_lt]
  try ((repeat' split) <;> first | rfl | (exfalso; simp only [List.getD_cons_zero, List.getD_cons_succ, List.set_cons_zero, List.set_cons_succ] at *; omega) | (simp only [List.getD_cons_zero, List.getD_cons_succ, List.set_cons_zero, List.set_cons_succ] at *; first | rfl | (exfalso; omega)))
set_option maxHeartbeats 4000000 in
theorem CSc_1_3 (t : Int32) (xs : List Int32) (h : xs.length = 5) : CS 1 t (CS 3 t xs) = CS 3 t (CS 1 t xs) := by
  obtain ⟨z0, z1, z2, z3, z4, rfl⟩ := own_five h
  unfold CS
  simp only [List.getD_cons_zero, List.getD_cons_succ, List.set_cons_zero, List.set_cons_succ, Int32.lt_iff_toInt_lt]
  try ((repeat' split) <;> first | rfl | (exfalso; simp only [List.getD_cons_zero, List.getD_cons_succ, List.set_cons_zero, List.set_cons_succ] at *; omega) | (simp only [List.getD_cons_zero, List.getD_cons_succ, List.set_cons_zero, List.set_cons_succ] at *; first | rfl | (exfalso; omega)))
set_option maxHeartbeats 4000000 in
theorem CSi_2 (t : Int32) (xs : List Int32) (h : xs.length = 5) : CS 2 t (CS 2 t xs) = CS 2 t xs := by
  obtain ⟨z0, z1, z2, z3, z4, rfl⟩ := own_five h
  unfold CS
  simp only [List.getD_cons_zero, List.getD_cons_succ, List.set_cons_zero, List.set_cons_succ, Int32.lt_iff_toInt_lt]
  try ((repeat' split) <;> first | rfl | (exfalso; simp only [List.getD_cons_zero, List.getD_cons_succ, List.set_cons_zero, List.set_cons_succ] at *; omega) | (simp only [List.getD_cons_zero, List.getD_cons_succ, List.set_cons_zero, List.set_cons_succ] at *; first | rfl | (exfalso; omega)))
set_option maxHeartbeats 4000000 in
theorem CSc_2_0 (t : Int32) (xs : List Int32) (h : xs.length = 5) : CS 2 t (CS 0 t xs) = CS 0 t (CS 2 t xs) := by
  obtain ⟨z0, z1, z2, z3, z4, rfl⟩ := own_five h
  unfold CS
  simp only [List.getD_cons_zero, List.getD_cons_succ, List.set_cons_zero, List.set_cons_succ, Int32.lt_iff_toInt_lt]
  try ((repeat' split) <;> first | rfl | (exfalso; simp only [List.getD_cons_zero, List.getD_cons_succ, List.set_cons_zero, List.set_cons_succ] at *; omega) | (simp only [List.getD_cons_zero, List.getD_cons_succ, List.set_cons_zero, List.set_cons_succ] at *; first | rfl | (exfalso; omega)))
set_option maxHeartbeats 4000000 in
theorem CSb_2_1 (t : Int32) (xs : List Int32) (h : xs.length = 5) : CS 2 t (CS 1 t (CS 2 t xs)) = CS 1 t (CS 2 t (CS 1 t xs)) := by
  obtain ⟨z0, z1, z2, z3, z4, rfl⟩ := own_five h
  unfold CS
  simp only [List.getD_cons_zero, List.getD_cons_succ, List.set_cons_zero, List.set_cons_succ, Int32.lt_iff_toInt_lt]
  try ((repeat' split) <;> first | rfl | (exfalso; simp only [List.getD_cons_zero, List.getD_cons_succ, List.set_cons_zero, List.set_cons_succ] at *; omega) | (simp only [List.getD_cons_zero, List.getD_cons_succ, List.set_cons_zero, List.set_cons_succ] at *; first | rfl | (exfalso; omega)))
set_option maxHeartbeats 4000000 in
theorem CSb_2_3 (t : Int32) (xs : List Int32) (h : xs.length = 5) : CS 2 t (CS 3 t (CS 2 t xs)) = CS 3 t (CS 2 t (CS 3 t xs)) := by
  obtain ⟨z0, z1, z2, z3, z4, rfl⟩ := own_five h
  unfold CS
  simp only [List.getD_cons_zero, List.getD_cons_succ, List.set_cons_zero, List.set_cons_succ, Int32.lt_iff_toInt_lt]
  try ((repeat' split) <;> first | rfl | (exfalso; simp only [List.getD_cons_zero, List.getD_cons_succ, List.set_cons_zero, List.set_cons_succ] at *; omega) | (simp only [List.getD_cons_zero, List.getD_cons_succ, List.set_cons_zero, List.set_cons_succ] at *; first | rfl | (exfalso; omega)))
set_option maxHeartbeats 4000000 in
theorem CSi_3 (t : Int32) (xs : List Int32) (h : xs.length = 5) : CS 3 t (CS 3 t xs) = CS 3 t xs := by
  obtain ⟨z0, z1, z2, z3, z4, rfl⟩ := own_five h
  unfold CS
  simp only [List.getD_cons_zero, List.getD_cons_succ, List.set_cons_zero, List.set_cons_succ, Int32.lt_iff_toInt_lt]
  try ((repeat' split) <;> first | rfl | (exfalso; simp only [List.getD_cons_zero, List.getD_cons_succ, List.set_cons_zero, List.set_cons_succ] at *; omega) | (simp only [List.getD_cons_zero, List.getD_cons_succ, List.set_cons_zero, List.set_cons_succ] at *; first | rfl | (exfalso; omega)))
set_option maxHeartbeats 4000000 in
theorem CSc_3_0 (t : Int32) (xs : List Int32) (h : xs.length = 5) : CS 3 t (CS 0 t xs) = CS 0 t (CS 3 t xs) := by
  obtain ⟨z0, z1, z2, z3, z4, rfl⟩ := own_five h
  unfold CS
  simp only [List.getD_cons_zero, List.getD_cons_succ, List.set_cons_zero, List.set_cons_succ, Int32.lt_iff_toInt_lt]
  try ((repeat' split) <;> first | rfl | (exfalso; simp only [List.getD_cons_zero, List.getD_cons_succ, List.set_cons_zero, List.set_cons_succ] at *; omega) | (simp only [List.getD_cons_zero, List.getD_cons_succ, List.set_cons_zero, List.set_cons_succ] at *; first | rfl | (exfalso; omega)))
set_option maxHeartbeats 4000000 in
theorem CSc_3_1 (t : Int32) (xs : List Int32) (h : xs.length = 5) : CS 3 t (CS 1 t xs) = CS 1 t (CS 3 t xs) := by
  obtain ⟨z0, z1, z2, z3, z4, rfl⟩ := own_five h
  unfold CS
  simp only [List.getD_cons_zero, List.getD_cons_succ, List.set_cons_zero, List.set_cons_succ, Int32.lt_iff_toInt_lt]
  try ((repeat' split) <;> first | rfl | (exfalso; simp only [List.getD_cons_zero, List.getD_cons_succ, List.set_cons_zero, List.set_cons_succ] at *; omega) | (simp only [List.getD_cons_zero, List.getD_cons_succ, List.set_cons_zero, List.set_cons_succ] at *; first | rfl | (exfalso; omega)))
set_option maxHeartbeats 4000000 in
theorem CSb_3_2 (t : Int32) (xs : List Int32) (h : xs.length = 5) : CS 3 t (CS 2 t (CS 3 t xs)) = CS 2 t (CS 3 t (CS 2 t xs)) := by
  obtain ⟨z0, z1, z2, z3, z4, rfl⟩ := own_five h
  unfold CS
  simp only [List.getD_cons_zero, List.getD_cons_succ, List.set_cons_zero, List.set_cons_succ, Int32.lt_iff_toInt_lt]
  try ((repeat' split) <;> first | rfl | (exfalso; simp only [List.getD_cons_zero, List.getD_cons_succ, List.set_cons_zero, List.set_cons_succ] at *; omega) | (simp only [List.getD_cons_zero, List.getD_cons_succ, List.set_cons_zero, List.set_cons_succ] at *; first | rfl | (exfalso; omega)))
theorem own_net_00 (y0 y1 y2 y3 y4 : Int32) (tt : Int32) : [y0, y1, y2, y3, y4] = [y0, y1, y2, y3, y4] := by
  rfl
theorem own_net_01 (y0 y1 y2 y3 y4 : Int32) (tt : Int32) : [y0, y1, y2, y3, y4] = [y0, y1, y2, y3, y4] := by
  rfl
theorem own_net_02 (y0 y1 y2 y3 y4 : Int32) (tt : Int32) : (CS 0 tt (CS 0 tt (CS 0 tt (CS 0 tt [y0, y1, y2, y3, y4])))) = (CS 0 tt [y0, y1, y2, y3, y4]) := by
  have e0 : (CS 0 tt (CS 0 tt (CS 0 tt (CS 0 tt [y0, y1, y2, y3, y4])))) = (CS 0 tt (CS 0 tt (CS 0 tt [y0, y1, y2, y3, y4]))) := congrArg (fun l => (CS 0 tt (CS 0 tt l))) (CSi_0 tt [y0, y1, y2, y3, y4] rfl)
  have e1 : (CS 0 tt (CS 0 tt (CS 0 tt [y0, y1, y2, y3, y4]))) = (CS 0 tt (CS 0 tt [y0, y1, y2, y3, y4])) := congrArg (fun l => (CS 0 tt l)) (CSi_0 tt [y0, y1, y2, y3, y4] rfl)
  have e2 : (CS 0 tt (CS 0 tt [y0, y1, y2, y3, y4])) = (CS 0 tt [y0, y1, y2, y3, y4]) := congrArg (fun l => l) (CSi_0 tt [y0, y1, y2, y3, y4] rfl)
  exact e0.trans (e1.trans e2)
theorem own_net_03 (y0 y1 y2 y3 y4 : Int32) (tt : Int32) : (CS 0 tt (CS 1 tt (CS 0 tt (CS 1 tt (CS 0 tt (CS 1 tt (CS 0 tt [y0, y1, y2, y3, y4]))))))) = (CS 0 tt (CS 1 tt (CS 0 tt [y0, y1, y2, y3, y4]))) := by
  have e0 : (CS 0 tt (CS 1 tt (CS 0 tt (CS 1 tt (CS 0 tt (CS 1 tt (CS 0 tt [y0, y1, y2, y3, y4]))))))) = (CS 0 tt (CS 1 tt (CS 0 tt (CS 0 tt (CS 1 tt (CS 0 tt (CS 0 tt [y0, y1, y2, y3, y4]))))))) := congrArg (fun l => (CS 0 tt (CS 1 tt (CS 0 tt l)))) (CSb_1_0 tt (CS 0 tt [y0, y1, y2, y3, y4]) (by simp only [CS_len]; rfl))
  have e1 : (CS 0 tt (CS 1 tt (CS 0 tt (CS 0 tt (CS 1 tt (CS 0 tt (CS 0 tt [y0, y1, y2, y3, y4]))))))) = (CS 0 tt (CS 1 tt (CS 0 tt (CS 0 tt (CS 1 tt (CS 0 tt [y0, y1, y2, y3, y4])))))) := congrArg (fun l => (CS 0 tt (CS 1 tt (CS 0 tt (CS 0 tt (CS 1 tt l)))))) (CSi_0 tt [y0, y1, y2, y3, y4] rfl)
  have e2 : (CS 0 tt (CS 1 tt (CS 0 tt (CS 0 tt (CS 1 tt (CS 0 tt [y0, y1, y2, y3, y4])))))) = (CS 0 tt (CS 1 tt (CS 0 tt (CS 1 tt (CS 0 tt [y0, y1, y2, y3, y4]))))) := congrArg (fun l => (CS 0 tt (CS 1 tt l))) (CSi_0 tt (CS 1 tt (CS 0 tt [y0, y1, y2, y3, y4])) (by simp only [CS_len]; rfl))
  have e3 : (CS 0 tt (CS 1 tt (CS 0 tt (CS 1 tt (CS 0 tt [y0, y1, y2, y3, y4]))))) = (CS 0 tt (CS 0 tt (CS 1 tt (CS 0 tt (CS 0 tt [y0, y1, y2, y3, y4]))))) := congrArg (fun l => (CS 0 tt l)) (CSb_1_0 tt (CS 0 tt [y0, y1, y2, y3, y4]) (by simp only [CS_len]; rfl))
  have e4 : (CS 0 tt (CS 0 tt (CS 1 tt (CS 0 tt (CS 0 tt [y0, y1, y2, y3, y4]))))) = (CS 0 tt (CS 0 tt (CS 1 tt (CS 0 tt [y0, y1, y2, y3, y4])))) := congrArg (fun l => (CS 0 tt (CS 0 tt (CS 1 tt l)))) (CSi_0 tt [y0, y1, y2, y3, y4] rfl)
  have e5 : (CS 0 tt (CS 0 tt (CS 1 tt (CS 0 tt [y0, y1, y2, y3, y4])))) = (CS 0 tt (CS 1 tt (CS 0 tt [y0, y1, y2, y3, y4]))) := congrArg (fun l => l) (CSi_0 tt (CS 1 tt (CS 0 tt [y0, y1, y2, y3, y4])) (by simp only [CS_len]; rfl))
  exact e0.trans (e1.trans (e2.trans (e3.trans (e4.trans e5))))
theorem own_net_04 (y0 y1 y2 y3 y4 : Int32) (tt : Int32) : (CS 0 tt (CS 1 tt (CS 0 tt (CS 2 tt (CS 1 tt (CS 0 tt (CS 2 tt (CS 1 tt (CS 0 tt [y0, y1, y2, y3, y4]))))))))) = (CS 0 tt (CS 1 tt (CS 2 tt (CS 0 tt (CS 1 tt (CS 0 tt [y0, y1, y2, y3, y4])))))) := by
  have e0 : (CS 0 tt (CS 1 tt (CS 0 tt (CS 2 tt (CS 1 tt (CS 0 tt (CS 2 tt (CS 1 tt (CS 0 tt [y0, y1, y2, y3, y4]))))))))) = (CS 0 tt (CS 1 tt (CS 0 tt (CS 2 tt (CS 1 tt (CS 2 tt (CS 0 tt (CS 1 tt (CS 0 tt [y0, y1, y2, y3, y4]))))))))) := congrArg (fun l => (CS 0 tt (CS 1 tt (CS 0 tt (CS 2 tt (CS 1 tt l)))))) (CSc_0_2 tt (CS 1 tt (CS 0 tt [y0, y1, y2, y3, y4])) (by simp only [CS_len]; rfl))
  have e1 : (CS 0 tt (CS 1 tt (CS 0 tt (CS 2 tt (CS 1 tt (CS 2 tt (CS 0 tt (CS 1 tt (CS 0 tt [y0, y1, y2, y3, y4]))))))))) = (CS 0 tt (CS 1 tt (CS 0 tt (CS 1 tt (CS 2 tt (CS 1 tt (CS 0 tt (CS 1 tt (CS 0 tt [y0, y1, y2, y3, y4]))))))))) := congrArg (fun l => (CS 0 tt (CS 1 tt (CS 0 tt l)))) (CSb_2_1 tt (CS 0 tt (CS 1 tt (CS 0 tt [y0, y1, y2, y3, y4]))) (by simp only [CS_len]; rfl))
  have e2 : (CS 0 tt (CS 1 tt (CS 0 tt (CS 1 tt (CS 2 tt (CS 1 tt (CS 0 tt (CS 1 tt (CS 0 tt [y0, y1, y2, y3, y4]))))))))) = (CS 0 tt (CS 1 tt (CS 0 tt (CS 1 tt (CS 2 tt (CS 0 tt (CS 1 tt (CS 0 tt (CS 0 tt [y0, y1, y2, y3, y4]))))))))) := congrArg (fun l => (CS 0 tt (CS 1 tt (CS 0 tt (CS 1 tt (CS 2 tt l)))))) (CSb_1_0 tt (CS 0 tt [y0, y1, y2, y3, y4]) (by simp only [CS_len]; rfl))
  have e3 : (CS 0 tt (CS 1 tt (CS 0 tt (CS 1 tt (CS 2 tt (CS 0 tt (CS 1 tt (CS 0 tt (CS 0 tt [y0, y1, y2, y3, y4]))))))))) = (CS 0 tt (CS 1 tt (CS 0 tt (CS 1 tt (CS 2 tt (CS 0 tt (CS 1 tt (CS 0 tt [y0, y1, y2, y3, y4])))))))) := congrArg (fun l => (CS 0 tt (CS 1 tt (CS 0 tt (CS 1 tt (CS 2 tt (CS 0 tt (CS 1 tt l)))))))) (CSi_0 tt [y0, y1, y2, y3, y4] rfl)
  have e4 : (CS 0 tt (CS 1 tt (CS 0 tt (CS 1 tt (CS 2 tt (CS 0 tt (CS 1 tt (CS 0 tt [y0, y1, y2, y3, y4])))))))) = (CS 0 tt (CS 0 tt (CS 1 tt (CS 0 tt (CS 2 tt (CS 0 tt (CS 1 tt (CS 0 tt [y0, y1, y2, y3, y4])))))))) := congrArg (fun l => (CS 0 tt l)) (CSb_1_0 tt (CS 2 tt (CS 0 tt (CS 1 tt (CS 0 tt [y0, y1, y2, y3, y4])))) (by simp only [CS_len]; rfl))
  have e5 : (CS 0 tt (CS 0 tt (CS 1 tt (CS 0 tt (CS 2 tt (CS 0 tt (CS 1 tt (CS 0 tt [y0, y1, y2, y3, y4])))))))) = (CS 0 tt (CS 0 tt (CS 1 tt (CS 2 tt (CS 0 tt (CS 0 tt (CS 1 tt (CS 0 tt [y0, y1, y2, y3, y4])))))))) := congrArg (fun l => (CS 0 tt (CS 0 tt (CS 1 tt l)))) (CSc_0_2 tt (CS 0 tt (CS 1 tt (CS 0 tt [y0, y1, y2, y3, y4]))) (by simp only [CS_len]; rfl))
  have e6 : (CS 0 tt (CS 0 tt (CS 1 tt (CS 2 tt (CS 0 tt (CS 0 tt (CS 1 tt (CS 0 tt [y0, y1, y2, y3, y4])))))))) = (CS 0 tt (CS 0 tt (CS 1 tt (CS 2 tt (CS 0 tt (CS 1 tt (CS 0 tt [y0, y1, y2, y3, y4]))))))) := congrArg (fun l => (CS 0 tt (CS 0 tt (CS 1 tt (CS 2 tt l))))) (CSi_0 tt (CS 1 tt (CS 0 tt [y0, y1, y2, y3, y4])) (by simp only [CS_len]; rfl))
  have e7 : (CS 0 tt (CS 0 tt (CS 1 tt (CS 2 tt (CS 0 tt (CS 1 tt (CS 0 tt [y0, y1, y2, y3, y4]))))))) = (CS 0 tt (CS 1 tt (CS 2 tt (CS 0 tt (CS 1 tt (CS 0 tt [y0, y1, y2, y3, y4])))))) := congrArg (fun l => l) (CSi_0 tt (CS 1 tt (CS 2 tt (CS 0 tt (CS 1 tt (CS 0 tt [y0, y1, y2, y3, y4]))))) (by simp only [CS_len]; rfl))
  exact e0.trans (e1.trans (e2.trans (e3.trans (e4.trans (e5.trans (e6.trans e7))))))
theorem own_net_05 (y0 y1 y2 y3 y4 : Int32) (tt : Int32) : (CS 0 tt (CS 1 tt (CS 0 tt (CS 2 tt (CS 1 tt (CS 0 tt (CS 3 tt (CS 2 tt (CS 1 tt (CS 0 tt [y0, y1, y2, y3, y4])))))))))) = (CS 0 tt (CS 1 tt (CS 2 tt (CS 3 tt (CS 0 tt (CS 1 tt (CS 2 tt (CS 0 tt (CS 1 tt (CS 0 tt [y0, y1, y2, y3, y4])))))))))) := by
  have e0 : (CS 0 tt (CS 1 tt (CS 0 tt (CS 2 tt (CS 1 tt (CS 0 tt (CS 3 tt (CS 2 tt (CS 1 tt (CS 0 tt [y0, y1, y2, y3, y4])))))))))) = (CS 0 tt (CS 1 tt (CS 0 tt (CS 2 tt (CS 1 tt (CS 3 tt (CS 0 tt (CS 2 tt (CS 1 tt (CS 0 tt [y0, y1, y2, y3, y4])))))))))) := congrArg (fun l => (CS 0 tt (CS 1 tt (CS 0 tt (CS 2 tt (CS 1 tt l)))))) (CSc_0_3 tt (CS 2 tt (CS 1 tt (CS 0 tt [y0, y1, y2, y3, y4]))) (by simp only [CS_len]; rfl))
  have e1 : (CS 0 tt (CS 1 tt (CS 0 tt (CS 2 tt (CS 1 tt (CS 3 tt (CS 0 tt (CS 2 tt (CS 1 tt (CS 0 tt [y0, y1, y2, y3, y4])))))))))) = (CS 0 tt (CS 1 tt (CS 0 tt (CS 2 tt (CS 1 tt (CS 3 tt (CS 2 tt (CS 0 tt (CS 1 tt (CS 0 tt [y0, y1, y2, y3, y4])))))))))) := congrArg (fun l => (CS 0 tt (CS 1 tt (CS 0 tt (CS 2 tt (CS 1 tt (CS 3 tt l))))))) (CSc_0_2 tt (CS 1 tt (CS 0 tt [y0, y1, y2, y3, y4])) (by simp only [CS_len]; rfl))
  have e2 : (CS 0 tt (CS 1 tt (CS 0 tt (CS 2 tt (CS 1 tt (CS 3 tt (CS 2 tt (CS 0 tt (CS 1 tt (CS 0 tt [y0, y1, y2, y3, y4])))))))))) = (CS 0 tt (CS 1 tt (CS 0 tt (CS 2 tt (CS 3 tt (CS 1 tt (CS 2 tt (CS 0 tt (CS 1 tt (CS 0 tt [y0, y1, y2, y3, y4])))))))))) := congrArg (fun l => (CS 0 tt (CS 1 tt (CS 0 tt (CS 2 tt l))))) (CSc_1_3 tt (CS 2 tt (CS 0 tt (CS 1 tt (CS 0 tt [y0, y1, y2, y3, y4])))) (by simp only [CS_len]; rfl))
  have e3 : (CS 0 tt (CS 1 tt (CS 0 tt (CS 2 tt (CS 3 tt (CS 1 tt (CS 2 tt (CS 0 tt (CS 1 tt (CS 0 tt [y0, y1, y2, y3, y4])))))))))) = (CS 0 tt (CS 1 tt (CS 2 tt (CS 0 tt (CS 3 tt (CS 1 tt (CS 2 tt (CS 0 tt (CS 1 tt (CS 0 tt [y0, y1, y2, y3, y4])))))))))) := congrArg (fun l => (CS 0 tt (CS 1 tt l))) (CSc_0_2 tt (CS 3 tt (CS 1 tt (CS 2 tt (CS 0 tt (CS 1 tt (CS 0 tt [y0, y1, y2, y3, y4])))))) (by simp only [CS_len]; rfl))
  have e4 : (CS 0 tt (CS 1 tt (CS 2 tt (CS 0 tt (CS 3 tt (CS 1 tt (CS 2 tt (CS 0 tt (CS 1 tt (CS 0 tt [y0, y1, y2, y3, y4])))))))))) = (CS 0 tt (CS 1 tt (CS 2 tt (CS 3 tt (CS 0 tt (CS 1 tt (CS 2 tt (CS 0 tt (CS 1 tt (CS 0 tt [y0, y1, y2, y3, y4])))))))))) := congrArg (fun l => (CS 0 tt (CS 1 tt (CS 2 tt l)))) (CSc_0_3 tt (CS 1 tt (CS 2 tt (CS 0 tt (CS 1 tt (CS 0 tt [y0, y1, y2, y3, y4]))))) (by simp only [CS_len]; rfl))
  exact e0.trans (e1.trans (e2.trans (e3.trans e4)))
theorem own_net_11 (y0 y1 y2 y3 y4 : Int32) (tt : Int32) : [y0, y1, y2, y3, y4] = [y0, y1, y2, y3, y4] := by
  rfl
theorem own_net_12 (y0 y1 y2 y3 y4 : Int32) (tt : Int32) : [y0, y1, y2, y3, y4] = [y0, y1, y2, y3, y4] := by
  rfl
theorem own_net_13 (y0 y1 y2 y3 y4 : Int32) (tt : Int32) : (CS 1 tt (CS 1 tt (CS 1 tt [y0, y1, y2, y3, y4]))) = (CS 1 tt [y0, y1, y2, y3, y4]) := by
  have e0 : (CS 1 tt (CS 1 tt (CS 1 tt [y0, y1, y2, y3, y4]))) = (CS 1 tt (CS 1 tt [y0, y1, y2, y3, y4])) := congrArg (fun l => (CS 1 tt l)) (CSi_1 tt [y0, y1, y2, y3, y4] rfl)
  have e1 : (CS 1 tt (CS 1 tt [y0, y1, y2, y3, y4])) = (CS 1 tt [y0, y1, y2, y3, y4]) := congrArg (fun l => l) (CSi_1 tt [y0, y1, y2, y3, y4] rfl)
  exact e0.trans e1
theorem own_net_14 (y0 y1 y2 y3 y4 : Int32) (tt : Int32) : (CS 1 tt (CS 2 tt (CS 1 tt (CS 2 tt (CS 1 tt [y0, y1, y2, y3, y4]))))) = (CS 1 tt (CS 2 tt (CS 1 tt [y0, y1, y2, y3, y4]))) := by
  have e0 : (CS 1 tt (CS 2 tt (CS 1 tt (CS 2 tt (CS 1 tt [y0, y1, y2, y3, y4]))))) = (CS 1 tt (CS 1 tt (CS 2 tt (CS 1 tt (CS 1 tt [y0, y1, y2, y3, y4]))))) := congrArg (fun l => (CS 1 tt l)) (CSb_2_1 tt (CS 1 tt [y0, y1, y2, y3, y4]) (by simp only [CS_len]; rfl))
  have e1 : (CS 1 tt (CS 1 tt (CS 2 tt (CS 1 tt (CS 1 tt [y0, y1, y2, y3, y4]))))) = (CS 1 tt (CS 1 tt (CS 2 tt (CS 1 tt [y0, y1, y2, y3, y4])))) := congrArg (fun l => (CS 1 tt (CS 1 tt (CS 2 tt l)))) (CSi_1 tt [y0, y1, y2, y3, y4] rfl)
  have e2 : (CS 1 tt (CS 1 tt (CS 2 tt (CS 1 tt [y0, y1, y2, y3, y4])))) = (CS 1 tt (CS 2 tt (CS 1 tt [y0, y1, y2, y3, y4]))) := congrArg (fun l => l) (CSi_1 tt (CS 2 tt (CS 1 tt [y0, y1, y2, y3, y4])) (by simp only [CS_len]; rfl))
  exact e0.trans (e1.trans e2)
theorem own_net_15 (y0 y1 y2 y3 y4 : Int32) (tt : Int32) : (CS 1 tt (CS 2 tt (CS 1 tt (CS 3 tt (CS 2 tt (CS 1 tt [y0, y1, y2, y3, y4])))))) = (CS 1 tt (CS 2 tt (CS 3 tt (CS 1 tt (CS 2 tt (CS 1 tt [y0, y1, y2, y3, y4])))))) := by
  have e0 : (CS 1 tt (CS 2 tt (CS 1 tt (CS 3 tt (CS 2 tt (CS 1 tt [y0, y1, y2, y3, y4])))))) = (CS 1 tt (CS 2 tt (CS 3 tt (CS 1 tt (CS 2 tt (CS 1 tt [y0, y1, y2, y3, y4])))))) := congrArg (fun l => (CS 1 tt (CS 2 tt l))) (CSc_1_3 tt (CS 2 tt (CS 1 tt [y0, y1, y2, y3, y4])) (by simp only [CS_len]; rfl))
  exact e0
theorem own_net_22 (y0 y1 y2 y3 y4 : Int32) (tt : Int32) : [y0, y1, y2, y3, y4] = [y0, y1, y2, y3, y4] := by
  rfl
theorem own_net_23 (y0 y1 y2 y3 y4 : Int32) (tt : Int32) : [y0, y1, y2, y3, y4] = [y0, y1, y2, y3, y4] := by
  rfl
theorem own_net_24 (y0 y1 y2 y3 y4 : Int32) (tt : Int32) : (CS 2 tt (CS 2 tt [y0, y1, y2, y3, y4])) = (CS 2 tt [y0, y1, y2, y3, y4]) := by
  have e0 : (CS 2 tt (CS 2 tt [y0, y1, y2, y3, y4])) = (CS 2 tt [y0, y1, y2, y3, y4]) := congrArg (fun l => l) (CSi_2 tt [y0, y1, y2, y3, y4] rfl)
  exact e0
theorem own_net_25 (y0 y1 y2 y3 y4 : Int32) (tt : Int32) : (CS 2 tt (CS 3 tt (CS 2 tt [y0, y1, y2, y3, y4]))) = (CS 2 tt (CS 3 tt (CS 2 tt [y0, y1, y2, y3, y4]))) := by
  rfl
theorem own_net_33 (y0 y1 y2 y3 y4 : Int32) (tt : Int32) : [y0, y1, y2, y3, y4] = [y0, y1, y2, y3, y4] := by
  rfl
theorem own_net_34 (y0 y1 y2 y3 y4 : Int32) (tt : Int32) : [y0, y1, y2, y3, y4] = [y0, y1, y2, y3, y4] := by
  rfl
theorem own_net_35 (y0 y1 y2 y3 y4 : Int32) (tt : Int32) : (CS 3 tt [y0, y1, y2, y3, y4]) = (CS 3 tt [y0, y1, y2, y3, y4]) := by
  rfl
theorem own_net_44 (y0 y1 y2 y3 y4 : Int32) (tt : Int32) : [y0, y1, y2, y3, y4] = [y0, y1, y2, y3, y4] := by
  rfl
theorem own_net_45 (y0 y1 y2 y3 y4 : Int32) (tt : Int32) : [y0, y1, y2, y3, y4] = [y0, y1, y2, y3, y4] := by
  rfl
theorem own_net_55 (y0 y1 y2 y3 y4 : Int32) (tt : Int32) : [y0, y1, y2, y3, y4] = [y0, y1, y2, y3, y4] := by
  rfl
def NET (f t : Nat) (tt : Int32) (xs : List Int32) : List Int32 := (STP 0 f t tt (STP 1 f t tt (STP 0 f t tt (STP 2 f t tt (STP 1 f t tt (STP 0 f t tt (STP 3 f t tt (STP 2 f t tt (STP 1 f t tt (STP 0 f t tt xs))))))))))
theorem NET_len (f t : Nat) (tt : Int32) (xs : List Int32) : (NET f t tt xs).length = xs.length := by unfold NET; simp only [STP_len]
theorem own_nets_00 (y0 y1 y2 y3 y4 : Int32) (tt : Int32) : NET 0 0 tt [y0, y1, y2, y3, y4] = [y0, y1, y2, y3, y4] := (show NET 0 0 tt [y0, y1, y2, y3, y4] = [y0, y1, y2, y3, y4] from by simp [NET, STP]).trans (own_net_00 y0 y1 y2 y3 y4 tt)
theorem own_nets_01 (y0 y1 y2 y3 y4 : Int32) (tt : Int32) : NET 0 1 tt [y0, y1, y2, y3, y4] = [y0, y1, y2, y3, y4] := (show NET 0 1 tt [y0, y1, y2, y3, y4] = [y0, y1, y2, y3, y4] from by simp [NET, STP]).trans (own_net_01 y0 y1 y2 y3 y4 tt)
theorem own_nets_02 (y0 y1 y2 y3 y4 : Int32) (tt : Int32) : NET 0 2 tt [y0, y1, y2, y3, y4] = (CS 0 tt [y0, y1, y2, y3, y4]) := (show NET 0 2 tt [y0, y1, y2, y3, y4] = (CS 0 tt (CS 0 tt (CS 0 tt (CS 0 tt [y0, y1, y2, y3, y4])))) from by simp [NET, STP]).trans (own_net_02 y0 y1 y2 y3 y4 tt)
theorem own_nets_03 (y0 y1 y2 y3 y4 : Int32) (tt : Int32) : NET 0 3 tt [y0, y1, y2, y3, y4] = (CS 0 tt (CS 1 tt (CS 0 tt [y0, y1, y2, y3, y4]))) := (show NET 0 3 tt [y0, y1, y2, y3, y4] = (CS 0 tt (CS 1 tt (CS 0 tt (CS 1 tt (CS 0 tt (CS 1 tt (CS 0 tt [y0, y1, y2, y3, y4]))))))) from by simp [NET, STP]).trans (own_net_03 y0 y1 y2 y3 y4 tt)
theorem own_nets_04 (y0 y1 y2 y3 y4 : Int32) (tt : Int32) : NET 0 4 tt [y0, y1, y2, y3, y4] = (CS 0 tt (CS 1 tt (CS 2 tt (CS 0 tt (CS 1 tt (CS 0 tt [y0, y1, y2, y3, y4])))))) := (show NET 0 4 tt [y0, y1, y2, y3, y4] = (CS 0 tt (CS 1 tt (CS 0 tt (CS 2 tt (CS 1 tt (CS 0 tt (CS 2 tt (CS 1 tt (CS 0 tt [y0, y1, y2, y3, y4]))))))))) from by simp [NET, STP]).trans (own_net_04 y0 y1 y2 y3 y4 tt)
theorem own_nets_05 (y0 y1 y2 y3 y4 : Int32) (tt : Int32) : NET 0 5 tt [y0, y1, y2, y3, y4] = (CS 0 tt (CS 1 tt (CS 2 tt (CS 3 tt (CS 0 tt (CS 1 tt (CS 2 tt (CS 0 tt (CS 1 tt (CS 0 tt [y0, y1, y2, y3, y4])))))))))) := (show NET 0 5 tt [y0, y1, y2, y3, y4] = (CS 0 tt (CS 1 tt (CS 0 tt (CS 2 tt (CS 1 tt (CS 0 tt (CS 3 tt (CS 2 tt (CS 1 tt (CS 0 tt [y0, y1, y2, y3, y4])))))))))) from by simp [NET, STP]).trans (own_net_05 y0 y1 y2 y3 y4 tt)
theorem own_nets_11 (y0 y1 y2 y3 y4 : Int32) (tt : Int32) : NET 1 1 tt [y0, y1, y2, y3, y4] = [y0, y1, y2, y3, y4] := (show NET 1 1 tt [y0, y1, y2, y3, y4] = [y0, y1, y2, y3, y4] from by simp [NET, STP]).trans (own_net_11 y0 y1 y2 y3 y4 tt)
theorem own_nets_12 (y0 y1 y2 y3 y4 : Int32) (tt : Int32) : NET 1 2 tt [y0, y1, y2, y3, y4] = [y0, y1, y2, y3, y4] := (show NET 1 2 tt [y0, y1, y2, y3, y4] = [y0, y1, y2, y3, y4] from by simp [NET, STP]).trans (own_net_12 y0 y1 y2 y3 y4 tt)
theorem own_nets_13 (y0 y1 y2 y3 y4 : Int32) (tt : Int32) : NET 1 3 tt [y0, y1, y2, y3, y4] = (CS 1 tt [y0, y1, y2, y3, y4]) := (show NET 1 3 tt [y0, y1, y2, y3, y4] = (CS 1 tt (CS 1 tt (CS 1 tt [y0, y1, y2, y3, y4]))) from by simp [NET, STP]).trans (own_net_13 y0 y1 y2 y3 y4 tt)
theorem own_nets_14 (y0 y1 y2 y3 y4 : Int32) (tt : Int32) : NET 1 4 tt [y0, y1, y2, y3, y4] = (CS 1 tt (CS 2 tt (CS 1 tt [y0, y1, y2, y3, y4]))) := (show NET 1 4 tt [y0, y1, y2, y3, y4] = (CS 1 tt (CS 2 tt (CS 1 tt (CS 2 tt (CS 1 tt [y0, y1, y2, y3, y4]))))) from by simp [NET, STP]).trans (own_net_14 y0 y1 y2 y3 y4 tt)
theorem own_nets_15 (y0 y1 y2 y3 y4 : Int32) (tt : Int32) : NET 1 5 tt [y0, y1, y2, y3, y4] = (CS 1 tt (CS 2 tt (CS 3 tt (CS 1 tt (CS 2 tt (CS 1 tt [y0, y1, y2, y3, y4])))))) := (show NET 1 5 tt [y0, y1, y2, y3, y4] = (CS 1 tt (CS 2 tt (CS 1 tt (CS 3 tt (CS 2 tt (CS 1 tt [y0, y1, y2, y3, y4])))))) from by simp [NET, STP]).trans (own_net_15 y0 y1 y2 y3 y4 tt)
theorem own_nets_22 (y0 y1 y2 y3 y4 : Int32) (tt : Int32) : NET 2 2 tt [y0, y1, y2, y3, y4] = [y0, y1, y2, y3, y4] := (show NET 2 2 tt [y0, y1, y2, y3, y4] = [y0, y1, y2, y3, y4] from by simp [NET, STP]).trans (own_net_22 y0 y1 y2 y3 y4 tt)
theorem own_nets_23 (y0 y1 y2 y3 y4 : Int32) (tt : Int32) : NET 2 3 tt [y0, y1, y2, y3, y4] = [y0, y1, y2, y3, y4] := (show NET 2 3 tt [y0, y1, y2, y3, y4] = [y0, y1, y2, y3, y4] from by simp [NET, STP]).trans (own_net_23 y0 y1 y2 y3 y4 tt)
theorem own_nets_24 (y0 y1 y2 y3 y4 : Int32) (tt : Int32) : NET 2 4 tt [y0, y1, y2, y3, y4] = (CS 2 tt [y0, y1, y2, y3, y4]) := (show NET 2 4 tt [y0, y1, y2, y3, y4] = (CS 2 tt (CS 2 tt [y0, y1, y2, y3, y4])) from by simp [NET, STP]).trans (own_net_24 y0 y1 y2 y3 y4 tt)
theorem own_nets_25 (y0 y1 y2 y3 y4 : Int32) (tt : Int32) : NET 2 5 tt [y0, y1, y2, y3, y4] = (CS 2 tt (CS 3 tt (CS 2 tt [y0, y1, y2, y3, y4]))) := (show NET 2 5 tt [y0, y1, y2, y3, y4] = (CS 2 tt (CS 3 tt (CS 2 tt [y0, y1, y2, y3, y4]))) from by simp [NET, STP]).trans (own_net_25 y0 y1 y2 y3 y4 tt)
theorem own_nets_33 (y0 y1 y2 y3 y4 : Int32) (tt : Int32) : NET 3 3 tt [y0, y1, y2, y3, y4] = [y0, y1, y2, y3, y4] := (show NET 3 3 tt [y0, y1, y2, y3, y4] = [y0, y1, y2, y3, y4] from by simp [NET, STP]).trans (own_net_33 y0 y1 y2 y3 y4 tt)
theorem own_nets_34 (y0 y1 y2 y3 y4 : Int32) (tt : Int32) : NET 3 4 tt [y0, y1, y2, y3, y4] = [y0, y1, y2, y3, y4] := (show NET 3 4 tt [y0, y1, y2, y3, y4] = [y0, y1, y2, y3, y4] from by simp [NET, STP]).trans (own_net_34 y0 y1 y2 y3 y4 tt)
theorem own_nets_35 (y0 y1 y2 y3 y4 : Int32) (tt : Int32) : NET 3 5 tt [y0, y1, y2, y3, y4] = (CS 3 tt [y0, y1, y2, y3, y4]) := (show NET 3 5 tt [y0, y1, y2, y3, y4] = (CS 3 tt [y0, y1, y2, y3, y4]) from by simp [NET, STP]).trans (own_net_35 y0 y1 y2 y3 y4 tt)
theorem own_nets_44 (y0 y1 y2 y3 y4 : Int32) (tt : Int32) : NET 4 4 tt [y0, y1, y2, y3, y4] = [y0, y1, y2, y3, y4] := (show NET 4 4 tt [y0, y1, y2, y3, y4] = [y0, y1, y2, y3, y4] from by simp [NET, STP]).trans (own_net_44 y0 y1 y2 y3 y4 tt)
theorem own_nets_45 (y0 y1 y2 y3 y4 : Int32) (tt : Int32) : NET 4 5 tt [y0, y1, y2, y3, y4] = [y0, y1, y2, y3, y4] := (show NET 4 5 tt [y0, y1, y2, y3, y4] = [y0, y1, y2, y3, y4] from by simp [NET, STP]).trans (own_net_45 y0 y1 y2 y3 y4 tt)
theorem own_nets_55 (y0 y1 y2 y3 y4 : Int32) (tt : Int32) : NET 5 5 tt [y0, y1, y2, y3, y4] = [y0, y1, y2, y3, y4] := (show NET 5 5 tt [y0, y1, y2, y3, y4] = [y0, y1, y2, y3, y4] from by simp [NET, STP]).trans (own_net_55 y0 y1 y2 y3 y4 tt)
theorem d1_0 : decode prog_7_method_52_code 0 = .ok (.iload_n 2, 1) := by decide +kernel
theorem d1_1 : decode prog_7_method_52_code 1 = .ok (.iload_n 1, 1) := by decide +kernel
theorem d1_2 : decode prog_7_method_52_code 2 = .ok (.isub, 1) := by decide +kernel
theorem d1_3 : decode prog_7_method_52_code 3 = .ok (.iconst 2, 1) := by decide +kernel
theorem d1_4 : decode prog_7_method_52_code 4 = .ok (.if_icmp .ge 4, 3) := by decide +kernel
theorem d1_7 : decode prog_7_method_52_code 7 = .ok (.return_, 1) := by decide +kernel
theorem d1_8 : decode prog_7_method_52_code 8 = .ok (.iload_n 3, 1) := by decide +kernel
theorem d1_9 : decode prog_7_method_52_code 9 = .ok (.ldc 81, 2) := by decide +kernel
theorem d1_11 : decode prog_7_method_52_code 11 = .ok (.ixor, 1) := by decide +kernel
theorem d1_12 : decode prog_7_method_52_code 12 = .ok (.istore 4, 2) := by decide +kernel
theorem d1_14 : decode prog_7_method_52_code 14 = .ok (.aload_n 0, 1) := by decide +kernel
theorem d1_15 : decode prog_7_method_52_code 15 = .ok (.iload_n 1, 1) := by decide +kernel
theorem d1_16 : decode prog_7_method_52_code 16 = .ok (.iaload, 1) := by decide +kernel
theorem d1_17 : decode prog_7_method_52_code 17 = .ok (.iload 4, 2) := by decide +kernel
theorem d1_19 : decode prog_7_method_52_code 19 = .ok (.ixor, 1) := by decide +kernel
theorem d1_20 : decode prog_7_method_52_code 20 = .ok (.istore 5, 2) := by decide +kernel
theorem d1_22 : decode prog_7_method_52_code 22 = .ok (.iload_n 1, 1) := by decide +kernel
theorem d1_23 : decode prog_7_method_52_code 23 = .ok (.iconst 1, 1) := by decide +kernel
theorem d1_24 : decode prog_7_method_52_code 24 = .ok (.iadd, 1) := by decide +kernel
theorem d1_25 : decode prog_7_method_52_code 25 = .ok (.istore 6, 2) := by decide +kernel
theorem d1_27 : decode prog_7_method_52_code 27 = .ok (.iload 6, 2) := by decide +kernel
theorem d1_29 : decode prog_7_method_52_code 29 = .ok (.iload_n 2, 1) := by decide +kernel
theorem d1_30 : decode prog_7_method_52_code 30 = .ok (.if_icmp .ge 81, 3) := by decide +kernel
theorem d1_33 : decode prog_7_method_52_code 33 = .ok (.aload_n 0, 1) := by decide +kernel
theorem d1_34 : decode prog_7_method_52_code 34 = .ok (.iload 6, 2) := by decide +kernel
theorem d1_36 : decode prog_7_method_52_code 36 = .ok (.iaload, 1) := by decide +kernel
theorem d1_37 : decode prog_7_method_52_code 37 = .ok (.istore 7, 2) := by decide +kernel
theorem d1_39 : decode prog_7_method_52_code 39 = .ok (.iload 7, 2) := by decide +kernel
theorem d1_41 : decode prog_7_method_52_code 41 = .ok (.iload 4, 2) := by decide +kernel
theorem d1_43 : decode prog_7_method_52_code 43 = .ok (.ixor, 1) := by decide +kernel
theorem d1_44 : decode prog_7_method_52_code 44 = .ok (.istore 8, 2) := by decide +kernel
theorem d1_46 : decode prog_7_method_52_code 46 = .ok (.iload 8, 2) := by decide +kernel
theorem d1_48 : decode prog_7_method_52_code 48 = .ok (.iload 5, 2) := by decide +kernel
theorem d1_50 : decode prog_7_method_52_code 50 = .ok (.if_icmp .lt 10, 3) := by decide +kernel
theorem d1_53 : decode prog_7_method_52_code 53 = .ok (.iload 8, 2) := by decide +kernel
theorem d1_55 : decode prog_7_method_52_code 55 = .ok (.istore 5, 2) := by decide +kernel
theorem d1_57 : decode prog_7_method_52_code 57 = .ok (.goto 48, 3) := by decide +kernel
theorem d1_60 : decode prog_7_method_52_code 60 = .ok (.iload 6, 2) := by decide +kernel
theorem d1_62 : decode prog_7_method_52_code 62 = .ok (.iconst 1, 1) := by decide +kernel
theorem d1_63 : decode prog_7_method_52_code 63 = .ok (.isub, 1) := by decide +kernel
theorem d1_64 : decode prog_7_method_52_code 64 = .ok (.istore 9, 2) := by decide +kernel
theorem d1_66 : decode prog_7_method_52_code 66 = .ok (.aload_n 0, 1) := by decide +kernel
theorem d1_67 : decode prog_7_method_52_code 67 = .ok (.iload 9, 2) := by decide +kernel
theorem d1_69 : decode prog_7_method_52_code 69 = .ok (.iconst 1, 1) := by decide +kernel
theorem d1_70 : decode prog_7_method_52_code 70 = .ok (.iadd, 1) := by decide +kernel
theorem d1_71 : decode prog_7_method_52_code 71 = .ok (.aload_n 0, 1) := by decide +kernel
theorem d1_72 : decode prog_7_method_52_code 72 = .ok (.iload 9, 2) := by decide +kernel
theorem d1_74 : decode prog_7_method_52_code 74 = .ok (.iaload, 1) := by decide +kernel
theorem d1_75 : decode prog_7_method_52_code 75 = .ok (.iastore, 1) := by decide +kernel
theorem d1_76 : decode prog_7_method_52_code 76 = .ok (.iinc 9 (-1), 3) := by decide +kernel
theorem d1_79 : decode prog_7_method_52_code 79 = .ok (.iload 9, 2) := by decide +kernel
theorem d1_81 : decode prog_7_method_52_code 81 = .ok (.iload_n 1, 1) := by decide +kernel
theorem d1_82 : decode prog_7_method_52_code 82 = .ok (.if_icmp .lt 15, 3) := by decide +kernel
theorem d1_85 : decode prog_7_method_52_code 85 = .ok (.aload_n 0, 1) := by decide +kernel
theorem d1_86 : decode prog_7_method_52_code 86 = .ok (.iload 9, 2) := by decide +kernel
theorem d1_88 : decode prog_7_method_52_code 88 = .ok (.iaload, 1) := by decide +kernel
theorem d1_89 : decode prog_7_method_52_code 89 = .ok (.iload 4, 2) := by decide +kernel
theorem d1_91 : decode prog_7_method_52_code 91 = .ok (.ixor, 1) := by decide +kernel
theorem d1_92 : decode prog_7_method_52_code 92 = .ok (.iload 8, 2) := by decide +kernel
theorem d1_94 : decode prog_7_method_52_code 94 = .ok (.if_icmp .gt (-28), 3) := by decide +kernel
theorem d1_97 : decode prog_7_method_52_code 97 = .ok (.aload_n 0, 1) := by decide +kernel
theorem d1_98 : decode prog_7_method_52_code 98 = .ok (.iload 9, 2) := by decide +kernel
theorem d1_100 : decode prog_7_method_52_code 100 = .ok (.iconst 1, 1) := by decide +kernel
theorem d1_101 : decode prog_7_method_52_code 101 = .ok (.iadd, 1) := by decide +kernel
theorem d1_102 : decode prog_7_method_52_code 102 = .ok (.iload 7, 2) := by decide +kernel
theorem d1_104 : decode prog_7_method_52_code 104 = .ok (.iastore, 1) := by decide +kernel
theorem d1_105 : decode prog_7_method_52_code 105 = .ok (.iinc 6 1, 3) := by decide +kernel
theorem d1_108 : decode prog_7_method_52_code 108 = .ok (.goto (-81), 3) := by decide +kernel
theorem d1_111 : decode prog_7_method_52_code 111 = .ok (.return_, 1) := by decide +kernel
theorem pn_1 : plainFor (⟨"com/example/digitwise/digitwise/internal/IntRadixSort", "insertionSort", "([IIII)V"⟩ : MethodName) = true := plainFor_of_name (by first | (simp [plainName, overriddenIn]; done) | decide +kernel)
theorem ef_1 (m : MethodId) (x0 : Addr) (x1 : Int32) (x2 : Int32) (x3 : Int32) : entryFrame m #[(.ref x0), (.int x1), (.int x2), (.int x3)] 10 = mkF m 0 #[.val (.ref x0), .val (.int x1), .val (.int x2), .val (.int x3), .unset, .unset, .unset, .unset, .unset, .unset] [] := by first | (simp [entryFrame, mkF, argsToLocals, Value.category]; done) | rfl
theorem own_asym {a b : Int32} (h : a < b) : ¬ b < a := by rw [Int32.lt_iff_toInt_lt] at *; omega
set_option maxRecDepth 65536 in
set_option maxHeartbeats 40000000 in
theorem rm1_00 (l : Launch) (Z : State) (a0 : Array Value) (hw : ∀ d ∈ tables_1, d.before a0 Z = true) (ws : List Jvm.Cond) (x0 : Addr) (x3 : Int32) (y0 y1 y2 y3 y4 : Int32) (RES : List Int32) (h0 : Heap) (n0 : Nat) (sz : n0 ≤ h0.size) (A_x0 : AI Z h0 x0 .int [y0, y1, y2, y3, y4]) (g_x0 : n0 ≤ x0) (hRES : RES = [y0, y1, y2, y3, y4]) :
    Ctr l (⟨"com/example/digitwise/digitwise/internal/IntRadixSort", "insertionSort", "([IIII)V"⟩ : MethodName) prog_7_method_52_code 10 none ws ({ frames := 0, cells := 0, slots := 0, locals := 0 } : Room) Z #[(.ref x0), (.int (0 : Int32)), (.int (0 : Int32)), (.int x3)] h0 (fun v h L => v = none ∧ Fr n0 L ∧ Keep h0 h [x0] ∧ AI Z h x0 .int RES) 0 0 := by
  refine Ctr.mk pn_1 ?_
  intro p e s m below meth c T hx hby hml hown hnm hlk hret hZ X eT
  have N := Fr.nil n0
  refine enter (ef_1 m x0 (0 : Int32) (0 : Int32) x3) ?_
  have K := Keep.refl h0 [x0]
  revert hRES
  intro hRES
  refine s_iloadN X hx (hb hby d1_0) rfl (q := 1) rfl ?_
  refine s_iloadN X hx (hb hby d1_1) rfl (q := 2) rfl ?_
  refine s_isub X hx (hb hby d1_2) (q := 3) rfl ?_
  show Go p e below _ T m 3 #[.val (.ref x0), .val (.int (0 : Int32)), .val (.int (0 : Int32)), .val (.int x3), .unset, .unset, .unset, .unset, .unset, .unset] [(.int (0 : Int32))]
  refine s_iconst X hx (z := (2 : Int32)) (hb hby d1_3) rfl (q := 4) rfl ?_
  refine f_icmp_ge X hx (hb hby d1_4) (q1 := 8) (by decide) (by decide) (q := 7) rfl (fun hq => absurd (by decide : (0 : Int32) < (2 : Int32)) hq) (fun _ => ?_)
  exact leafV X hx hlk hret (hb hby d1_7) (by decide) (by decide) (by rw [eT]; exact ⟨rfl, N, K, hRES ▸ A_x0⟩)
set_option maxRecDepth 65536 in
set_option maxHeartbeats 40000000 in
theorem rm1_01 (l : Launch) (Z : State) (a0 : Array Value) (hw : ∀ d ∈ tables_1, d.before a0 Z = true) (ws : List Jvm.Cond) (x0 : Addr) (x3 : Int32) (y0 y1 y2 y3 y4 : Int32) (RES : List Int32) (h0 : Heap) (n0 : Nat) (sz : n0 ≤ h0.size) (A_x0 : AI Z h0 x0 .int [y0, y1, y2, y3, y4]) (g_x0 : n0 ≤ x0) (hRES : RES = [y0, y1, y2, y3, y4]) :
    Ctr l (⟨"com/example/digitwise/digitwise/internal/IntRadixSort", "insertionSort", "([IIII)V"⟩ : MethodName) prog_7_method_52_code 10 none ws ({ frames := 0, cells := 0, slots := 0, locals := 0 } : Room) Z #[(.ref x0), (.int (0 : Int32)), (.int (1 : Int32)), (.int x3)] h0 (fun v h L => v = none ∧ Fr n0 L ∧ Keep h0 h [x0] ∧ AI Z h x0 .int RES) 0 0 := by
  refine Ctr.mk pn_1 ?_
  intro p e s m below meth c T hx hby hml hown hnm hlk hret hZ X eT
  have N := Fr.nil n0
  refine enter (ef_1 m x0 (0 : Int32) (1 : Int32) x3) ?_
  have K := Keep.refl h0 [x0]
  revert hRES
  intro hRES
  refine s_iloadN X hx (hb hby d1_0) rfl (q := 1) rfl ?_
  refine s_iloadN X hx (hb hby d1_1) rfl (q := 2) rfl ?_
  refine s_isub X hx (hb hby d1_2) (q := 3) rfl ?_
  show Go p e below _ T m 3 #[.val (.ref x0), .val (.int (0 : Int32)), .val (.int (1 : Int32)), .val (.int x3), .unset, .unset, .unset, .unset, .unset, .unset] [(.int (1 : Int32))]
  refine s_iconst X hx (z := (2 : Int32)) (hb hby d1_3) rfl (q := 4) rfl ?_
  refine f_icmp_ge X hx (hb hby d1_4) (q1 := 8) (by decide) (by decide) (q := 7) rfl (fun hq => absurd (by decide : (1 : Int32) < (2 : Int32)) hq) (fun _ => ?_)
  exact leafV X hx hlk hret (hb hby d1_7) (by decide) (by decide) (by rw [eT]; exact ⟨rfl, N, K, hRES ▸ A_x0⟩)
set_option maxRecDepth 65536 in
set_option maxHeartbeats 40000000 in
theorem rm1_02 (l : Launch) (Z : State) (a0 : Array Value) (hw : ∀ d ∈ tables_1, d.before a0 Z = true) (ws : List Jvm.Cond) (x0 : Addr) (x3 : Int32) (y0 y1 y2 y3 y4 : Int32) (RES : List Int32) (h0 : Heap) (n0 : Nat) (sz : n0 ≤ h0.size) (A_x0 : AI Z h0 x0 .int [y0, y1, y2, y3, y4]) (g_x0 : n0 ≤ x0) (hRES : RES = (CS 0 (x3 ^^^ (-2147483648 : Int32)) [y0, y1, y2, y3, y4])) :
    Ctr l (⟨"com/example/digitwise/digitwise/internal/IntRadixSort", "insertionSort", "([IIII)V"⟩ : MethodName) prog_7_method_52_code 10 none ws ({ frames := 0, cells := 0, slots := 0, locals := 0 } : Room) Z #[(.ref x0), (.int (0 : Int32)), (.int (2 : Int32)), (.int x3)] h0 (fun v h L => v = none ∧ Fr n0 L ∧ Keep h0 h [x0] ∧ AI Z h x0 .int RES) 0 0 := by
  refine Ctr.mk pn_1 ?_
  intro p e s m below meth c T hx hby hml hown hnm hlk hret hZ X eT
  have N := Fr.nil n0
  refine enter (ef_1 m x0 (0 : Int32) (2 : Int32) x3) ?_
  have K := Keep.refl h0 [x0]
  revert hRES
  intro hRES
  refine s_iloadN X hx (hb hby d1_0) rfl (q := 1) rfl ?_
  refine s_iloadN X hx (hb hby d1_1) rfl (q := 2) rfl ?_
  refine s_isub X hx (hb hby d1_2) (q := 3) rfl ?_
  show Go p e below _ T m 3 #[.val (.ref x0), .val (.int (0 : Int32)), .val (.int (2 : Int32)), .val (.int x3), .unset, .unset, .unset, .unset, .unset, .unset] [(.int (2 : Int32))]
  refine s_iconst X hx (z := (2 : Int32)) (hb hby d1_3) rfl (q := 4) rfl ?_
  refine f_icmp_ge X hx (hb hby d1_4) (q1 := 8) (by decide) (by decide) (q := 7) rfl (fun _ => ?_) (fun hq => absurd hq (by decide : ¬ (2 : Int32) < (2 : Int32)))
  refine s_iloadN X hx (hb hby d1_8) rfl (q := 9) rfl ?_
  refine s_ldc X hx hZ hown (hw _ (List.mem_of_getElem? (i := 10) rfl)) (hb hby d1_9) (q := 11) rfl ?_
  refine s_ixor X hx (hb hby d1_11) (q := 12) rfl ?_
  generalize htt : (x3 ^^^ (-2147483648 : Int32)) = tt
  refine s_istore X hx (hb hby d1_12) (L' := #[.val (.ref x0), .val (.int (0 : Int32)), .val (.int (2 : Int32)), .val (.int x3), .val (.int tt), .unset, .unset, .unset, .unset, .unset]) rfl (q := 14) rfl ?_
  refine s_aloadN X hx (hb hby d1_14) rfl rfl (q := 15) rfl ?_
  refine s_iloadN X hx (hb hby d1_15) rfl (q := 16) rfl ?_
  refine s_iaload X hx hZ eT A_x0 (by decide) (i := 0) rfl (x := y0) rfl (hb hby d1_16) (q := 17) rfl ?_
  refine s_iload X hx (hb hby d1_17) rfl (q := 19) rfl ?_
  refine s_ixor X hx (hb hby d1_19) (q := 20) rfl ?_
  refine s_istore X hx (hb hby d1_20) (L' := #[.val (.ref x0), .val (.int (0 : Int32)), .val (.int (2 : Int32)), .val (.int x3), .val (.int tt), .val (.int (y0 ^^^ tt)), .unset, .unset, .unset, .unset]) rfl (q := 22) rfl ?_
  refine s_iloadN X hx (hb hby d1_22) rfl (q := 23) rfl ?_
  refine s_iconst X hx (z := (1 : Int32)) (hb hby d1_23) rfl (q := 24) rfl ?_
  refine s_iadd X hx (hb hby d1_24) (q := 25) rfl ?_
  show Go p e below _ T m 25 #[.val (.ref x0), .val (.int (0 : Int32)), .val (.int (2 : Int32)), .val (.int x3), .val (.int tt), .val (.int (y0 ^^^ tt)), .unset, .unset, .unset, .unset] [(.int (1 : Int32))]
  refine s_istore X hx (hb hby d1_25) (L' := #[.val (.ref x0), .val (.int (0 : Int32)), .val (.int (2 : Int32)), .val (.int x3), .val (.int tt), .val (.int (y0 ^^^ tt)), .val (.int (1 : Int32)), .unset, .unset, .unset]) rfl (q := 27) rfl ?_
  have cut2 : ∀ (z0 z1 z2 z3 z4 : Int32) (s7 s8 s9 : Slot) (T : State) (hh : Heap) (locs : List Loc), One s7 → One s8 → One s9 → Stand p l e ({ frames := 0, cells := 0, slots := 0, locals := 0 } : Room) s m #[(.ref x0), (.int (0 : Int32)), (.int (2 : Int32)), (.int x3)] below meth c T locs 0 0 → T.heap = hh → Fr n0 locs → n0 ≤ hh.size → Keep h0 hh [x0] → AI Z hh x0 .int [z0, z1, z2, z3, z4] → ¬ (z1 ^^^ tt) < (z0 ^^^ tt) → RES = [z0, z1, z2, z3, z4] → Go p e below (Gl s below (fun v h L => v = none ∧ Fr n0 L ∧ Keep h0 h [x0] ∧ AI Z h x0 .int RES) 0 0) T m 27 #[.val (.ref x0), .val (.int (0 : Int32)), .val (.int (2 : Int32)), .val (.int x3), .val (.int tt), .val (.int (z1 ^^^ tt)), .val (.int (2 : Int32)), s7, s8, s9] [] := by
    intro z0 z1 z2 z3 z4 s7 s8 s9 T hh locs hs7 hs8 hs9 X eT N sz K A_x0 q0 hres
    refine s_iload X hx (hb hby d1_27) rfl (q := 29) rfl ?_
    refine s_iloadN X hx (hb hby d1_29) rfl (q := 30) rfl ?_
    refine f_icmp_ge X hx (hb hby d1_30) (q1 := 111) (by decide) (by decide) (q := 33) rfl (fun _ => ?_) (fun hq => absurd hq (by decide : ¬ (2 : Int32) < (2 : Int32)))
    exact leafV X hx hlk hret (hb hby d1_111) (by decide) (by decide) (by rw [eT]; exact ⟨rfl, N, K, hres ▸ A_x0⟩)
  have cut1 : ∀ (z0 z1 z2 z3 z4 : Int32) (s7 s8 s9 : Slot) (T : State) (hh : Heap) (locs : List Loc), One s7 → One s8 → One s9 → Stand p l e ({ frames := 0, cells := 0, slots := 0, locals := 0 } : Room) s m #[(.ref x0), (.int (0 : Int32)), (.int (2 : Int32)), (.int x3)] below meth c T locs 0 0 → T.heap = hh → Fr n0 locs → n0 ≤ hh.size → Keep h0 hh [x0] → AI Z hh x0 .int [z0, z1, z2, z3, z4] → RES = (CS 0 tt [z0, z1, z2, z3, z4]) → Go p e below (Gl s below (fun v h L => v = none ∧ Fr n0 L ∧ Keep h0 h [x0] ∧ AI Z h x0 .int RES) 0 0) T m 27 #[.val (.ref x0), .val (.int (0 : Int32)), .val (.int (2 : Int32)), .val (.int x3), .val (.int tt), .val (.int (z0 ^^^ tt)), .val (.int (1 : Int32)), s7, s8, s9] [] := by
    intro z0 z1 z2 z3 z4 s7 s8 s9 T hh locs hs7 hs8 hs9 X eT N sz K A_x0  hres
    refine s_iload X hx (hb hby d1_27) rfl (q := 29) rfl ?_
    refine s_iloadN X hx (hb hby d1_29) rfl (q := 30) rfl ?_
    refine f_icmp_ge X hx (hb hby d1_30) (q1 := 111) (by decide) (by decide) (q := 33) rfl (fun hq => absurd (by decide : (1 : Int32) < (2 : Int32)) hq) (fun _ => ?_)
    refine s_aloadN X hx (hb hby d1_33) rfl rfl (q := 34) rfl ?_
    refine s_iload X hx (hb hby d1_34) rfl (q := 36) rfl ?_
    refine s_iaload X hx hZ eT A_x0 (by decide) (i := 1) rfl (x := z1) rfl (hb hby d1_36) (q := 37) rfl ?_
    refine s_istore X hx (hb hby d1_37) (L' := #[.val (.ref x0), .val (.int (0 : Int32)), .val (.int (2 : Int32)), .val (.int x3), .val (.int tt), .val (.int (z0 ^^^ tt)), .val (.int (1 : Int32)), .val (.int z1), s8, s9]) (by rcases hs7 with rfl | ⟨w', rfl, hw'⟩ <;> first | rfl | (cases w' <;> first | rfl | (simp [Value.category] at hw'))) (q := 39) rfl ?_
    refine s_iload X hx (hb hby d1_39) rfl (q := 41) rfl ?_
    refine s_iload X hx (hb hby d1_41) rfl (q := 43) rfl ?_
    refine s_ixor X hx (hb hby d1_43) (q := 44) rfl ?_
    refine s_istore X hx (hb hby d1_44) (L' := #[.val (.ref x0), .val (.int (0 : Int32)), .val (.int (2 : Int32)), .val (.int x3), .val (.int tt), .val (.int (z0 ^^^ tt)), .val (.int (1 : Int32)), .val (.int z1), .val (.int (z1 ^^^ tt)), s9]) (by rcases hs8 with rfl | ⟨w', rfl, hw'⟩ <;> first | rfl | (cases w' <;> first | rfl | (simp [Value.category] at hw'))) (q := 46) rfl ?_
    refine s_iload X hx (hb hby d1_46) rfl (q := 48) rfl ?_
    refine s_iload X hx (hb hby d1_48) rfl (q := 50) rfl ?_
    refine f_icmp_lt X hx (hb hby d1_50) (q1 := 60) (by decide) (by decide) (q := 53) rfl (fun hc50 => ?_) (fun hc50 => ?_)
    · refine s_iload X hx (hb hby d1_60) rfl (q := 62) rfl ?_
      refine s_iconst X hx (z := (1 : Int32)) (hb hby d1_62) rfl (q := 63) rfl ?_
      refine s_isub X hx (hb hby d1_63) (q := 64) rfl ?_
      show Go p e below _ T m 64 #[.val (.ref x0), .val (.int (0 : Int32)), .val (.int (2 : Int32)), .val (.int x3), .val (.int tt), .val (.int (z0 ^^^ tt)), .val (.int (1 : Int32)), .val (.int z1), .val (.int (z1 ^^^ tt)), s9] [(.int (0 : Int32))]
      refine s_istore X hx (hb hby d1_64) (L' := #[.val (.ref x0), .val (.int (0 : Int32)), .val (.int (2 : Int32)), .val (.int x3), .val (.int tt), .val (.int (z0 ^^^ tt)), .val (.int (1 : Int32)), .val (.int z1), .val (.int (z1 ^^^ tt)), .val (.int (0 : Int32))]) (by rcases hs9 with rfl | ⟨w', rfl, hw'⟩ <;> first | rfl | (cases w' <;> first | rfl | (simp [Value.category] at hw'))) (q := 66) rfl ?_
      refine s_aloadN X hx (hb hby d1_66) rfl rfl (q := 67) rfl ?_
      refine s_iload X hx (hb hby d1_67) rfl (q := 69) rfl ?_
      refine s_iconst X hx (z := (1 : Int32)) (hb hby d1_69) rfl (q := 70) rfl ?_
      refine s_iadd X hx (hb hby d1_70) (q := 71) rfl ?_
      show Go p e below _ T m 71 #[.val (.ref x0), .val (.int (0 : Int32)), .val (.int (2 : Int32)), .val (.int x3), .val (.int tt), .val (.int (z0 ^^^ tt)), .val (.int (1 : Int32)), .val (.int z1), .val (.int (z1 ^^^ tt)), .val (.int (0 : Int32))] [(.int (1 : Int32)), (.ref x0)]
      refine s_aloadN X hx (hb hby d1_71) rfl rfl (q := 72) rfl ?_
      refine s_iload X hx (hb hby d1_72) rfl (q := 74) rfl ?_
      refine s_iaload X hx hZ eT A_x0 (by decide) (i := 0) rfl (x := z0) rfl (hb hby d1_74) (q := 75) rfl ?_
      refine s_iastore X hx hZ eT A_x0 N g_x0 (by decide) (i := 1) rfl (Nat.le_of_ble_eq_true rfl) (ys := [z0, z0, z2, z3, z4]) rfl (hb hby d1_75) (q := 76) rfl ?_
      intro T h1 _ X N eT W A_x0'
      have K := K.wr W (Or.inl (List.mem_of_getElem? (i := 0) rfl))
      have sz : n0 ≤ h1.size := by rw [W.size]; exact sz
      have A_x0 := A_x0'
      refine s_iinc X hx (w := (-1 : Int32)) (hb hby d1_76) rfl rfl (L' := #[.val (.ref x0), .val (.int (0 : Int32)), .val (.int (2 : Int32)), .val (.int x3), .val (.int tt), .val (.int (z0 ^^^ tt)), .val (.int (1 : Int32)), .val (.int z1), .val (.int (z1 ^^^ tt)), .val (.int (-1 : Int32))]) rfl (q := 79) rfl ?_
      refine s_iload X hx (hb hby d1_79) rfl (q := 81) rfl ?_
      refine s_iloadN X hx (hb hby d1_81) rfl (q := 82) rfl ?_
      refine f_icmp_lt X hx (hb hby d1_82) (q1 := 97) (by decide) (by decide) (q := 85) rfl (fun _ => ?_) (fun hq => absurd (by decide : (-1 : Int32) < (0 : Int32)) hq)
      refine s_aloadN X hx (hb hby d1_97) rfl rfl (q := 98) rfl ?_
      refine s_iload X hx (hb hby d1_98) rfl (q := 100) rfl ?_
      refine s_iconst X hx (z := (1 : Int32)) (hb hby d1_100) rfl (q := 101) rfl ?_
      refine s_iadd X hx (hb hby d1_101) (q := 102) rfl ?_
      show Go p e below _ T m 102 #[.val (.ref x0), .val (.int (0 : Int32)), .val (.int (2 : Int32)), .val (.int x3), .val (.int tt), .val (.int (z0 ^^^ tt)), .val (.int (1 : Int32)), .val (.int z1), .val (.int (z1 ^^^ tt)), .val (.int (-1 : Int32))] [(.int (0 : Int32)), (.ref x0)]
      refine s_iload X hx (hb hby d1_102) rfl (q := 104) rfl ?_
      refine s_iastore X hx hZ eT A_x0 N g_x0 (by decide) (i := 0) rfl (Nat.le_of_ble_eq_true rfl) (ys := [z1, z0, z2, z3, z4]) rfl (hb hby d1_104) (q := 105) rfl ?_
      intro T h2 _ X N eT W A_x0'
      have K := K.wr W (Or.inl (List.mem_of_getElem? (i := 0) rfl))
      have sz : n0 ≤ h2.size := by rw [W.size]; exact sz
      have A_x0 := A_x0'
      refine s_iinc X hx (w := (2 : Int32)) (hb hby d1_105) rfl rfl (L' := #[.val (.ref x0), .val (.int (0 : Int32)), .val (.int (2 : Int32)), .val (.int x3), .val (.int tt), .val (.int (z0 ^^^ tt)), .val (.int (2 : Int32)), .val (.int z1), .val (.int (z1 ^^^ tt)), .val (.int (-1 : Int32))]) rfl (q := 108) rfl ?_
      refine s_goto X hx (hb hby d1_108) (q1 := 27) (by decide) (by decide) ?_
      exact cut2 z1 z0 z2 z3 z4 _ _ _ _ _ _ (One.val rfl) (One.val rfl) (One.val rfl) X eT N sz K A_x0 (own_asym hc50) (hres.trans (by rw [show (CS 0 tt [z0, z1, z2, z3, z4]) = [z1, z0, z2, z3, z4] from by simp only [CS, List.getD_cons_zero, List.getD_cons_succ, List.set_cons_zero, List.set_cons_succ, if_pos hc50]]))
    refine s_iload X hx (hb hby d1_53) rfl (q := 55) rfl ?_
    refine s_istore X hx (hb hby d1_55) (L' := #[.val (.ref x0), .val (.int (0 : Int32)), .val (.int (2 : Int32)), .val (.int x3), .val (.int tt), .val (.int (z1 ^^^ tt)), .val (.int (1 : Int32)), .val (.int z1), .val (.int (z1 ^^^ tt)), s9]) rfl (q := 57) rfl ?_
    refine s_goto X hx (hb hby d1_57) (q1 := 105) (by decide) (by decide) ?_
    refine s_iinc X hx (w := (2 : Int32)) (hb hby d1_105) rfl rfl (L' := #[.val (.ref x0), .val (.int (0 : Int32)), .val (.int (2 : Int32)), .val (.int x3), .val (.int tt), .val (.int (z1 ^^^ tt)), .val (.int (2 : Int32)), .val (.int z1), .val (.int (z1 ^^^ tt)), s9]) rfl (q := 108) rfl ?_
    refine s_goto X hx (hb hby d1_108) (q1 := 27) (by decide) (by decide) ?_
    exact cut2 z0 z1 z2 z3 z4 _ _ _ _ _ _ (One.val rfl) (One.val rfl) hs9 X eT N sz K A_x0 hc50 (hres.trans (by rw [show (CS 0 tt [z0, z1, z2, z3, z4]) = [z0, z1, z2, z3, z4] from by simp only [CS, List.getD_cons_zero, List.getD_cons_succ, List.set_cons_zero, List.set_cons_succ, if_neg hc50]]))
  exact cut1 y0 y1 y2 y3 y4 _ _ _ _ _ _ One.u One.u One.u X eT N sz K A_x0 (by rw [htt] at hRES; exact hRES)
set_option maxRecDepth 65536 in
set_option maxHeartbeats 40000000 in
theorem rm1_03 (l : Launch) (Z : State) (a0 : Array Value) (hw : ∀ d ∈ tables_1, d.before a0 Z = true) (ws : List Jvm.Cond) (x0 : Addr) (x3 : Int32) (y0 y1 y2 y3 y4 : Int32) (RES : List Int32) (h0 : Heap) (n0 : Nat) (sz : n0 ≤ h0.size) (A_x0 : AI Z h0 x0 .int [y0, y1, y2, y3, y4]) (g_x0 : n0 ≤ x0) (hRES : RES = (CS 0 (x3 ^^^ (-2147483648 : Int32)) (CS 1 (x3 ^^^ (-2147483648 : Int32)) (CS 0 (x3 ^^^ (-2147483648 : Int32)) [y0, y1, y2, y3, y4])))) :
    Ctr l (⟨"com/example/digitwise/digitwise/internal/IntRadixSort", "insertionSort", "([IIII)V"⟩ : MethodName) prog_7_method_52_code 10 none ws ({ frames := 0, cells := 0, slots := 0, locals := 0 } : Room) Z #[(.ref x0), (.int (0 : Int32)), (.int (3 : Int32)), (.int x3)] h0 (fun v h L => v = none ∧ Fr n0 L ∧ Keep h0 h [x0] ∧ AI Z h x0 .int RES) 0 0 := by
  refine Ctr.mk pn_1 ?_
  intro p e s m below meth c T hx hby hml hown hnm hlk hret hZ X eT
  have N := Fr.nil n0
  refine enter (ef_1 m x0 (0 : Int32) (3 : Int32) x3) ?_
  have K := Keep.refl h0 [x0]
  revert hRES
  intro hRES
  refine s_iloadN X hx (hb hby d1_0) rfl (q := 1) rfl ?_
  refine s_iloadN X hx (hb hby d1_1) rfl (q := 2) rfl ?_
  refine s_isub X hx (hb hby d1_2) (q := 3) rfl ?_
  show Go p e below _ T m 3 #[.val (.ref x0), .val (.int (0 : Int32)), .val (.int (3 : Int32)), .val (.int x3), .unset, .unset, .unset, .unset, .unset, .unset] [(.int (3 : Int32))]
  refine s_iconst X hx (z := (2 : Int32)) (hb hby d1_3) rfl (q := 4) rfl ?_
  refine f_icmp_ge X hx (hb hby d1_4) (q1 := 8) (by decide) (by decide) (q := 7) rfl (fun _ => ?_) (fun hq => absurd hq (by decide : ¬ (3 : Int32) < (2 : Int32)))
  refine s_iloadN X hx (hb hby d1_8) rfl (q := 9) rfl ?_
  refine s_ldc X hx hZ hown (hw _ (List.mem_of_getElem? (i := 10) rfl)) (hb hby d1_9) (q := 11) rfl ?_
  refine s_ixor X hx (hb hby d1_11) (q := 12) rfl ?_
  generalize htt : (x3 ^^^ (-2147483648 : Int32)) = tt
  refine s_istore X hx (hb hby d1_12) (L' := #[.val (.ref x0), .val (.int (0 : Int32)), .val (.int (3 : Int32)), .val (.int x3), .val (.int tt), .unset, .unset, .unset, .unset, .unset]) rfl (q := 14) rfl ?_
  refine s_aloadN X hx (hb hby d1_14) rfl rfl (q := 15) rfl ?_
  refine s_iloadN X hx (hb hby d1_15) rfl (q := 16) rfl ?_
  refine s_iaload X hx hZ eT A_x0 (by decide) (i := 0) rfl (x := y0) rfl (hb hby d1_16) (q := 17) rfl ?_
  refine s_iload X hx (hb hby d1_17) rfl (q := 19) rfl ?_
  refine s_ixor X hx (hb hby d1_19) (q := 20) rfl ?_
  refine s_istore X hx (hb hby d1_20) (L' := #[.val (.ref x0), .val (.int (0 : Int32)), .val (.int (3 : Int32)), .val (.int x3), .val (.int tt), .val (.int (y0 ^^^ tt)), .unset, .unset, .unset, .unset]) rfl (q := 22) rfl ?_
  refine s_iloadN X hx (hb hby d1_22) rfl (q := 23) rfl ?_
  refine s_iconst X hx (z := (1 : Int32)) (hb hby d1_23) rfl (q := 24) rfl ?_
  refine s_iadd X hx (hb hby d1_24) (q := 25) rfl ?_
  show Go p e below _ T m 25 #[.val (.ref x0), .val (.int (0 : Int32)), .val (.int (3 : Int32)), .val (.int x3), .val (.int tt), .val (.int (y0 ^^^ tt)), .unset, .unset, .unset, .unset] [(.int (1 : Int32))]
  refine s_istore X hx (hb hby d1_25) (L' := #[.val (.ref x0), .val (.int (0 : Int32)), .val (.int (3 : Int32)), .val (.int x3), .val (.int tt), .val (.int (y0 ^^^ tt)), .val (.int (1 : Int32)), .unset, .unset, .unset]) rfl (q := 27) rfl ?_
  have cut3 : ∀ (z0 z1 z2 z3 z4 : Int32) (s7 s8 s9 : Slot) (T : State) (hh : Heap) (locs : List Loc), One s7 → One s8 → One s9 → Stand p l e ({ frames := 0, cells := 0, slots := 0, locals := 0 } : Room) s m #[(.ref x0), (.int (0 : Int32)), (.int (3 : Int32)), (.int x3)] below meth c T locs 0 0 → T.heap = hh → Fr n0 locs → n0 ≤ hh.size → Keep h0 hh [x0] → AI Z hh x0 .int [z0, z1, z2, z3, z4] → ¬ (z1 ^^^ tt) < (z0 ^^^ tt) → ¬ (z2 ^^^ tt) < (z1 ^^^ tt) → RES = [z0, z1, z2, z3, z4] → Go p e below (Gl s below (fun v h L => v = none ∧ Fr n0 L ∧ Keep h0 h [x0] ∧ AI Z h x0 .int RES) 0 0) T m 27 #[.val (.ref x0), .val (.int (0 : Int32)), .val (.int (3 : Int32)), .val (.int x3), .val (.int tt), .val (.int (z2 ^^^ tt)), .val (.int (3 : Int32)), s7, s8, s9] [] := by
    intro z0 z1 z2 z3 z4 s7 s8 s9 T hh locs hs7 hs8 hs9 X eT N sz K A_x0 q0 q1 hres
    refine s_iload X hx (hb hby d1_27) rfl (q := 29) rfl ?_
    refine s_iloadN X hx (hb hby d1_29) rfl (q := 30) rfl ?_
    refine f_icmp_ge X hx (hb hby d1_30) (q1 := 111) (by decide) (by decide) (q := 33) rfl (fun _ => ?_) (fun hq => absurd hq (by decide : ¬ (3 : Int32) < (3 : Int32)))
    exact leafV X hx hlk hret (hb hby d1_111) (by decide) (by decide) (by rw [eT]; exact ⟨rfl, N, K, hres ▸ A_x0⟩)
  have cut2 : ∀ (z0 z1 z2 z3 z4 : Int32) (s7 s8 s9 : Slot) (T : State) (hh : Heap) (locs : List Loc), One s7 → One s8 → One s9 → Stand p l e ({ frames := 0, cells := 0, slots := 0, locals := 0 } : Room) s m #[(.ref x0), (.int (0 : Int32)), (.int (3 : Int32)), (.int x3)] below meth c T locs 0 0 → T.heap = hh → Fr n0 locs → n0 ≤ hh.size → Keep h0 hh [x0] → AI Z hh x0 .int [z0, z1, z2, z3, z4] → ¬ (z1 ^^^ tt) < (z0 ^^^ tt) → RES = (CS 0 tt (CS 1 tt [z0, z1, z2, z3, z4])) → Go p e below (Gl s below (fun v h L => v = none ∧ Fr n0 L ∧ Keep h0 h [x0] ∧ AI Z h x0 .int RES) 0 0) T m 27 #[.val (.ref x0), .val (.int (0 : Int32)), .val (.int (3 : Int32)), .val (.int x3), .val (.int tt), .val (.int (z1 ^^^ tt)), .val (.int (2 : Int32)), s7, s8, s9] [] := by
    intro z0 z1 z2 z3 z4 s7 s8 s9 T hh locs hs7 hs8 hs9 X eT N sz K A_x0 q0 hres
    refine s_iload X hx (hb hby d1_27) rfl (q := 29) rfl ?_
    refine s_iloadN X hx (hb hby d1_29) rfl (q := 30) rfl ?_
    refine f_icmp_ge X hx (hb hby d1_30) (q1 := 111) (by decide) (by decide) (q := 33) rfl (fun hq => absurd (by decide : (2 : Int32) < (3 : Int32)) hq) (fun _ => ?_)
    refine s_aloadN X hx (hb hby d1_33) rfl rfl (q := 34) rfl ?_
    refine s_iload X hx (hb hby d1_34) rfl (q := 36) rfl ?_
    refine s_iaload X hx hZ eT A_x0 (by decide) (i := 2) rfl (x := z2) rfl (hb hby d1_36) (q := 37) rfl ?_
    refine s_istore X hx (hb hby d1_37) (L' := #[.val (.ref x0), .val (.int (0 : Int32)), .val (.int (3 : Int32)), .val (.int x3), .val (.int tt), .val (.int (z1 ^^^ tt)), .val (.int (2 : Int32)), .val (.int z2), s8, s9]) (by rcases hs7 with rfl | ⟨w', rfl, hw'⟩ <;> first | rfl | (cases w' <;> first | rfl | (simp [Value.category] at hw'))) (q := 39) rfl ?_
    refine s_iload X hx (hb hby d1_39) rfl (q := 41) rfl ?_
    refine s_iload X hx (hb hby d1_41) rfl (q := 43) rfl ?_
    refine s_ixor X hx (hb hby d1_43) (q := 44) rfl ?_
    refine s_istore X hx (hb hby d1_44) (L' := #[.val (.ref x0), .val (.int (0 : Int32)), .val (.int (3 : Int32)), .val (.int x3), .val (.int tt), .val (.int (z1 ^^^ tt)), .val (.int (2 : Int32)), .val (.int z2), .val (.int (z2 ^^^ tt)), s9]) (by rcases hs8 with rfl | ⟨w', rfl, hw'⟩ <;> first | rfl | (cases w' <;> first | rfl | (simp [Value.category] at hw'))) (q := 46) rfl ?_
    refine s_iload X hx (hb hby d1_46) rfl (q := 48) rfl ?_
    refine s_iload X hx (hb hby d1_48) rfl (q := 50) rfl ?_
    refine f_icmp_lt X hx (hb hby d1_50) (q1 := 60) (by decide) (by decide) (q := 53) rfl (fun hc50 => ?_) (fun hc50 => ?_)
    · refine s_iload X hx (hb hby d1_60) rfl (q := 62) rfl ?_
      refine s_iconst X hx (z := (1 : Int32)) (hb hby d1_62) rfl (q := 63) rfl ?_
      refine s_isub X hx (hb hby d1_63) (q := 64) rfl ?_
      show Go p e below _ T m 64 #[.val (.ref x0), .val (.int (0 : Int32)), .val (.int (3 : Int32)), .val (.int x3), .val (.int tt), .val (.int (z1 ^^^ tt)), .val (.int (2 : Int32)), .val (.int z2), .val (.int (z2 ^^^ tt)), s9] [(.int (1 : Int32))]
      refine s_istore X hx (hb hby d1_64) (L' := #[.val (.ref x0), .val (.int (0 : Int32)), .val (.int (3 : Int32)), .val (.int x3), .val (.int tt), .val (.int (z1 ^^^ tt)), .val (.int (2 : Int32)), .val (.int z2), .val (.int (z2 ^^^ tt)), .val (.int (1 : Int32))]) (by rcases hs9 with rfl | ⟨w', rfl, hw'⟩ <;> first | rfl | (cases w' <;> first | rfl | (simp [Value.category] at hw'))) (q := 66) rfl ?_
      refine s_aloadN X hx (hb hby d1_66) rfl rfl (q := 67) rfl ?_
      refine s_iload X hx (hb hby d1_67) rfl (q := 69) rfl ?_
      refine s_iconst X hx (z := (1 : Int32)) (hb hby d1_69) rfl (q := 70) rfl ?_
      refine s_iadd X hx (hb hby d1_70) (q := 71) rfl ?_
      show Go p e below _ T m 71 #[.val (.ref x0), .val (.int (0 : Int32)), .val (.int (3 : Int32)), .val (.int x3), .val (.int tt), .val (.int (z1 ^^^ tt)), .val (.int (2 : Int32)), .val (.int z2), .val (.int (z2 ^^^ tt)), .val (.int (1 : Int32))] [(.int (2 : Int32)), (.ref x0)]
      refine s_aloadN X hx (hb hby d1_71) rfl rfl (q := 72) rfl ?_
      refine s_iload X hx (hb hby d1_72) rfl (q := 74) rfl ?_
      refine s_iaload X hx hZ eT A_x0 (by decide) (i := 1) rfl (x := z1) rfl (hb hby d1_74) (q := 75) rfl ?_
      refine s_iastore X hx hZ eT A_x0 N g_x0 (by decide) (i := 2) rfl (Nat.le_of_ble_eq_true rfl) (ys := [z0, z1, z1, z3, z4]) rfl (hb hby d1_75) (q := 76) rfl ?_
      intro T h1 _ X N eT W A_x0'
      have K := K.wr W (Or.inl (List.mem_of_getElem? (i := 0) rfl))
      have sz : n0 ≤ h1.size := by rw [W.size]; exact sz
      have A_x0 := A_x0'
      refine s_iinc X hx (w := (0 : Int32)) (hb hby d1_76) rfl rfl (L' := #[.val (.ref x0), .val (.int (0 : Int32)), .val (.int (3 : Int32)), .val (.int x3), .val (.int tt), .val (.int (z1 ^^^ tt)), .val (.int (2 : Int32)), .val (.int z2), .val (.int (z2 ^^^ tt)), .val (.int (0 : Int32))]) rfl (q := 79) rfl ?_
      refine s_iload X hx (hb hby d1_79) rfl (q := 81) rfl ?_
      refine s_iloadN X hx (hb hby d1_81) rfl (q := 82) rfl ?_
      refine f_icmp_lt X hx (hb hby d1_82) (q1 := 97) (by decide) (by decide) (q := 85) rfl (fun hq => absurd hq (by decide : ¬ (0 : Int32) < (0 : Int32))) (fun _ => ?_)
      refine s_aloadN X hx (hb hby d1_85) rfl rfl (q := 86) rfl ?_
      refine s_iload X hx (hb hby d1_86) rfl (q := 88) rfl ?_
      refine s_iaload X hx hZ eT A_x0 (by decide) (i := 0) rfl (x := z0) rfl (hb hby d1_88) (q := 89) rfl ?_
      refine s_iload X hx (hb hby d1_89) rfl (q := 91) rfl ?_
      refine s_ixor X hx (hb hby d1_91) (q := 92) rfl ?_
      refine s_iload X hx (hb hby d1_92) rfl (q := 94) rfl ?_
      refine f_icmp_gt X hx (hb hby d1_94) (q1 := 66) (by decide) (by decide) (q := 97) rfl (fun hc94 => ?_) (fun hc94 => ?_)
      · refine s_aloadN X hx (hb hby d1_66) rfl rfl (q := 67) rfl ?_
        refine s_iload X hx (hb hby d1_67) rfl (q := 69) rfl ?_
        refine s_iconst X hx (z := (1 : Int32)) (hb hby d1_69) rfl (q := 70) rfl ?_
        refine s_iadd X hx (hb hby d1_70) (q := 71) rfl ?_
        show Go p e below _ T m 71 #[.val (.ref x0), .val (.int (0 : Int32)), .val (.int (3 : Int32)), .val (.int x3), .val (.int tt), .val (.int (z1 ^^^ tt)), .val (.int (2 : Int32)), .val (.int z2), .val (.int (z2 ^^^ tt)), .val (.int (0 : Int32))] [(.int (1 : Int32)), (.ref x0)]
        refine s_aloadN X hx (hb hby d1_71) rfl rfl (q := 72) rfl ?_
        refine s_iload X hx (hb hby d1_72) rfl (q := 74) rfl ?_
        refine s_iaload X hx hZ eT A_x0 (by decide) (i := 0) rfl (x := z0) rfl (hb hby d1_74) (q := 75) rfl ?_
        refine s_iastore X hx hZ eT A_x0 N g_x0 (by decide) (i := 1) rfl (Nat.le_of_ble_eq_true rfl) (ys := [z0, z0, z1, z3, z4]) rfl (hb hby d1_75) (q := 76) rfl ?_
        intro T h2 _ X N eT W A_x0'
        have K := K.wr W (Or.inl (List.mem_of_getElem? (i := 0) rfl))
        have sz : n0 ≤ h2.size := by rw [W.size]; exact sz
        have A_x0 := A_x0'
        refine s_iinc X hx (w := (-1 : Int32)) (hb hby d1_76) rfl rfl (L' := #[.val (.ref x0), .val (.int (0 : Int32)), .val (.int (3 : Int32)), .val (.int x3), .val (.int tt), .val (.int (z1 ^^^ tt)), .val (.int (2 : Int32)), .val (.int z2), .val (.int (z2 ^^^ tt)), .val (.int (-1 : Int32))]) rfl (q := 79) rfl ?_
        refine s_iload X hx (hb hby d1_79) rfl (q := 81) rfl ?_
        refine s_iloadN X hx (hb hby d1_81) rfl (q := 82) rfl ?_
        refine f_icmp_lt X hx (hb hby d1_82) (q1 := 97) (by decide) (by decide) (q := 85) rfl (fun _ => ?_) (fun hq => absurd (by decide : (-1 : Int32) < (0 : Int32)) hq)
        refine s_aloadN X hx (hb hby d1_97) rfl rfl (q := 98) rfl ?_
        refine s_iload X hx (hb hby d1_98) rfl (q := 100) rfl ?_
        refine s_iconst X hx (z := (1 : Int32)) (hb hby d1_100) rfl (q := 101) rfl ?_
        refine s_iadd X hx (hb hby d1_101) (q := 102) rfl ?_
        show Go p e below _ T m 102 #[.val (.ref x0), .val (.int (0 : Int32)), .val (.int (3 : Int32)), .val (.int x3), .val (.int tt), .val (.int (z1 ^^^ tt)), .val (.int (2 : Int32)), .val (.int z2), .val (.int (z2 ^^^ tt)), .val (.int (-1 : Int32))] [(.int (0 : Int32)), (.ref x0)]
        refine s_iload X hx (hb hby d1_102) rfl (q := 104) rfl ?_
        refine s_iastore X hx hZ eT A_x0 N g_x0 (by decide) (i := 0) rfl (Nat.le_of_ble_eq_true rfl) (ys := [z2, z0, z1, z3, z4]) rfl (hb hby d1_104) (q := 105) rfl ?_
        intro T h3 _ X N eT W A_x0'
        have K := K.wr W (Or.inl (List.mem_of_getElem? (i := 0) rfl))
        have sz : n0 ≤ h3.size := by rw [W.size]; exact sz
        have A_x0 := A_x0'
        refine s_iinc X hx (w := (3 : Int32)) (hb hby d1_105) rfl rfl (L' := #[.val (.ref x0), .val (.int (0 : Int32)), .val (.int (3 : Int32)), .val (.int x3), .val (.int tt), .val (.int (z1 ^^^ tt)), .val (.int (3 : Int32)), .val (.int z2), .val (.int (z2 ^^^ tt)), .val (.int (-1 : Int32))]) rfl (q := 108) rfl ?_
        refine s_goto X hx (hb hby d1_108) (q1 := 27) (by decide) (by decide) ?_
        exact cut3 z2 z0 z1 z3 z4 _ _ _ _ _ _ (One.val rfl) (One.val rfl) (One.val rfl) X eT N sz K A_x0 (own_asym hc94) q0 (hres.trans (by rw [show (CS 0 tt (CS 1 tt [z0, z1, z2, z3, z4])) = [z2, z0, z1, z3, z4] from by simp only [CS, List.getD_cons_zero, List.getD_cons_succ, List.set_cons_zero, List.set_cons_succ, if_pos hc50, if_pos hc94]]))
      refine s_aloadN X hx (hb hby d1_97) rfl rfl (q := 98) rfl ?_
      refine s_iload X hx (hb hby d1_98) rfl (q := 100) rfl ?_
      refine s_iconst X hx (z := (1 : Int32)) (hb hby d1_100) rfl (q := 101) rfl ?_
      refine s_iadd X hx (hb hby d1_101) (q := 102) rfl ?_
      show Go p e below _ T m 102 #[.val (.ref x0), .val (.int (0 : Int32)), .val (.int (3 : Int32)), .val (.int x3), .val (.int tt), .val (.int (z1 ^^^ tt)), .val (.int (2 : Int32)), .val (.int z2), .val (.int (z2 ^^^ tt)), .val (.int (0 : Int32))] [(.int (1 : Int32)), (.ref x0)]
      refine s_iload X hx (hb hby d1_102) rfl (q := 104) rfl ?_
      refine s_iastore X hx hZ eT A_x0 N g_x0 (by decide) (i := 1) rfl (Nat.le_of_ble_eq_true rfl) (ys := [z0, z2, z1, z3, z4]) rfl (hb hby d1_104) (q := 105) rfl ?_
      intro T h4 _ X N eT W A_x0'
      have K := K.wr W (Or.inl (List.mem_of_getElem? (i := 0) rfl))
      have sz : n0 ≤ h4.size := by rw [W.size]; exact sz
      have A_x0 := A_x0'
      refine s_iinc X hx (w := (3 : Int32)) (hb hby d1_105) rfl rfl (L' := #[.val (.ref x0), .val (.int (0 : Int32)), .val (.int (3 : Int32)), .val (.int x3), .val (.int tt), .val (.int (z1 ^^^ tt)), .val (.int (3 : Int32)), .val (.int z2), .val (.int (z2 ^^^ tt)), .val (.int (0 : Int32))]) rfl (q := 108) rfl ?_
      refine s_goto X hx (hb hby d1_108) (q1 := 27) (by decide) (by decide) ?_
      exact cut3 z0 z2 z1 z3 z4 _ _ _ _ _ _ (One.val rfl) (One.val rfl) (One.val rfl) X eT N sz K A_x0 hc94 (own_asym hc50) (hres.trans (by rw [show (CS 0 tt (CS 1 tt [z0, z1, z2, z3, z4])) = [z0, z2, z1, z3, z4] from by simp only [CS, List.getD_cons_zero, List.getD_cons_succ, List.set_cons_zero, List.set_cons_succ, if_pos hc50, if_neg hc94]]))
    refine s_iload X hx (hb hby d1_53) rfl (q := 55) rfl ?_
    refine s_istore X hx (hb hby d1_55) (L' := #[.val (.ref x0), .val (.int (0 : Int32)), .val (.int (3 : Int32)), .val (.int x3), .val (.int tt), .val (.int (z2 ^^^ tt)), .val (.int (2 : Int32)), .val (.int z2), .val (.int (z2 ^^^ tt)), s9]) rfl (q := 57) rfl ?_
    refine s_goto X hx (hb hby d1_57) (q1 := 105) (by decide) (by decide) ?_
    refine s_iinc X hx (w := (3 : Int32)) (hb hby d1_105) rfl rfl (L' := #[.val (.ref x0), .val (.int (0 : Int32)), .val (.int (3 : Int32)), .val (.int x3), .val (.int tt), .val (.int (z2 ^^^ tt)), .val (.int (3 : Int32)), .val (.int z2), .val (.int (z2 ^^^ tt)), s9]) rfl (q := 108) rfl ?_
    refine s_goto X hx (hb hby d1_108) (q1 := 27) (by decide) (by decide) ?_
    exact cut3 z0 z1 z2 z3 z4 _ _ _ _ _ _ (One.val rfl) (One.val rfl) hs9 X eT N sz K A_x0 q0 hc50 (hres.trans (by rw [show (CS 0 tt (CS 1 tt [z0, z1, z2, z3, z4])) = [z0, z1, z2, z3, z4] from by simp only [CS, List.getD_cons_zero, List.getD_cons_succ, List.set_cons_zero, List.set_cons_succ, if_neg hc50, if_neg q0]]))
  have cut1 : ∀ (z0 z1 z2 z3 z4 : Int32) (s7 s8 s9 : Slot) (T : State) (hh : Heap) (locs : List Loc), One s7 → One s8 → One s9 → Stand p l e ({ frames := 0, cells := 0, slots := 0, locals := 0 } : Room) s m #[(.ref x0), (.int (0 : Int32)), (.int (3 : Int32)), (.int x3)] below meth c T locs 0 0 → T.heap = hh → Fr n0 locs → n0 ≤ hh.size → Keep h0 hh [x0] → AI Z hh x0 .int [z0, z1, z2, z3, z4] → RES = (CS 0 tt (CS 1 tt (CS 0 tt [z0, z1, z2, z3, z4]))) → Go p e below (Gl s below (fun v h L => v = none ∧ Fr n0 L ∧ Keep h0 h [x0] ∧ AI Z h x0 .int RES) 0 0) T m 27 #[.val (.ref x0), .val (.int (0 : Int32)), .val (.int (3 : Int32)), .val (.int x3), .val (.int tt), .val (.int (z0 ^^^ tt)), .val (.int (1 : Int32)), s7, s8, s9] [] := by
    intro z0 z1 z2 z3 z4 s7 s8 s9 T hh locs hs7 hs8 hs9 X eT N sz K A_x0  hres
    refine s_iload X hx (hb hby d1_27) rfl (q := 29) rfl ?_
    refine s_iloadN X hx (hb hby d1_29) rfl (q := 30) rfl ?_
    refine f_icmp_ge X hx (hb hby d1_30) (q1 := 111) (by decide) (by decide) (q := 33) rfl (fun hq => absurd (by decide : (1 : Int32) < (3 : Int32)) hq) (fun _ => ?_)
    refine s_aloadN X hx (hb hby d1_33) rfl rfl (q := 34) rfl ?_
    refine s_iload X hx (hb hby d1_34) rfl (q := 36) rfl ?_
    refine s_iaload X hx hZ eT A_x0 (by decide) (i := 1) rfl (x := z1) rfl (hb hby d1_36) (q := 37) rfl ?_
    refine s_istore X hx (hb hby d1_37) (L' := #[.val (.ref x0), .val (.int (0 : Int32)), .val (.int (3 : Int32)), .val (.int x3), .val (.int tt), .val (.int (z0 ^^^ tt)), .val (.int (1 : Int32)), .val (.int z1), s8, s9]) (by rcases hs7 with rfl | ⟨w', rfl, hw'⟩ <;> first | rfl | (cases w' <;> first | rfl | (simp [Value.category] at hw'))) (q := 39) rfl ?_
    refine s_iload X hx (hb hby d1_39) rfl (q := 41) rfl ?_
    refine s_iload X hx (hb hby d1_41) rfl (q := 43) rfl ?_
    refine s_ixor X hx (hb hby d1_43) (q := 44) rfl ?_
    refine s_istore X hx (hb hby d1_44) (L' := #[.val (.ref x0), .val (.int (0 : Int32)), .val (.int (3 : Int32)), .val (.int x3), .val (.int tt), .val (.int (z0 ^^^ tt)), .val (.int (1 : Int32)), .val (.int z1), .val (.int (z1 ^^^ tt)), s9]) (by rcases hs8 with rfl | ⟨w', rfl, hw'⟩ <;> first | rfl | (cases w' <;> first | rfl | (simp [Value.category] at hw'))) (q := 46) rfl ?_
    refine s_iload X hx (hb hby d1_46) rfl (q := 48) rfl ?_
    refine s_iload X hx (hb hby d1_48) rfl (q := 50) rfl ?_
    refine f_icmp_lt X hx (hb hby d1_50) (q1 := 60) (by decide) (by decide) (q := 53) rfl (fun hc50 => ?_) (fun hc50 => ?_)
    · refine s_iload X hx (hb hby d1_60) rfl (q := 62) rfl ?_
      refine s_iconst X hx (z := (1 : Int32)) (hb hby d1_62) rfl (q := 63) rfl ?_
      refine s_isub X hx (hb hby d1_63) (q := 64) rfl ?_
      show Go p e below _ T m 64 #[.val (.ref x0), .val (.int (0 : Int32)), .val (.int (3 : Int32)), .val (.int x3), .val (.int tt), .val (.int (z0 ^^^ tt)), .val (.int (1 : Int32)), .val (.int z1), .val (.int (z1 ^^^ tt)), s9] [(.int (0 : Int32))]
      refine s_istore X hx (hb hby d1_64) (L' := #[.val (.ref x0), .val (.int (0 : Int32)), .val (.int (3 : Int32)), .val (.int x3), .val (.int tt), .val (.int (z0 ^^^ tt)), .val (.int (1 : Int32)), .val (.int z1), .val (.int (z1 ^^^ tt)), .val (.int (0 : Int32))]) (by rcases hs9 with rfl | ⟨w', rfl, hw'⟩ <;> first | rfl | (cases w' <;> first | rfl | (simp [Value.category] at hw'))) (q := 66) rfl ?_
      refine s_aloadN X hx (hb hby d1_66) rfl rfl (q := 67) rfl ?_
      refine s_iload X hx (hb hby d1_67) rfl (q := 69) rfl ?_
      refine s_iconst X hx (z := (1 : Int32)) (hb hby d1_69) rfl (q := 70) rfl ?_
      refine s_iadd X hx (hb hby d1_70) (q := 71) rfl ?_
      show Go p e below _ T m 71 #[.val (.ref x0), .val (.int (0 : Int32)), .val (.int (3 : Int32)), .val (.int x3), .val (.int tt), .val (.int (z0 ^^^ tt)), .val (.int (1 : Int32)), .val (.int z1), .val (.int (z1 ^^^ tt)), .val (.int (0 : Int32))] [(.int (1 : Int32)), (.ref x0)]
      refine s_aloadN X hx (hb hby d1_71) rfl rfl (q := 72) rfl ?_
      refine s_iload X hx (hb hby d1_72) rfl (q := 74) rfl ?_
      refine s_iaload X hx hZ eT A_x0 (by decide) (i := 0) rfl (x := z0) rfl (hb hby d1_74) (q := 75) rfl ?_
      refine s_iastore X hx hZ eT A_x0 N g_x0 (by decide) (i := 1) rfl (Nat.le_of_ble_eq_true rfl) (ys := [z0, z0, z2, z3, z4]) rfl (hb hby d1_75) (q := 76) rfl ?_
      intro T h5 _ X N eT W A_x0'
      have K := K.wr W (Or.inl (List.mem_of_getElem? (i := 0) rfl))
      have sz : n0 ≤ h5.size := by rw [W.size]; exact sz
      have A_x0 := A_x0'
      refine s_iinc X hx (w := (-1 : Int32)) (hb hby d1_76) rfl rfl (L' := #[.val (.ref x0), .val (.int (0 : Int32)), .val (.int (3 : Int32)), .val (.int x3), .val (.int tt), .val (.int (z0 ^^^ tt)), .val (.int (1 : Int32)), .val (.int z1), .val (.int (z1 ^^^ tt)), .val (.int (-1 : Int32))]) rfl (q := 79) rfl ?_
      refine s_iload X hx (hb hby d1_79) rfl (q := 81) rfl ?_
      refine s_iloadN X hx (hb hby d1_81) rfl (q := 82) rfl ?_
      refine f_icmp_lt X hx (hb hby d1_82) (q1 := 97) (by decide) (by decide) (q := 85) rfl (fun _ => ?_) (fun hq => absurd (by decide : (-1 : Int32) < (0 : Int32)) hq)
      refine s_aloadN X hx (hb hby d1_97) rfl rfl (q := 98) rfl ?_
      refine s_iload X hx (hb hby d1_98) rfl (q := 100) rfl ?_
      refine s_iconst X hx (z := (1 : Int32)) (hb hby d1_100) rfl (q := 101) rfl ?_
      refine s_iadd X hx (hb hby d1_101) (q := 102) rfl ?_
      show Go p e below _ T m 102 #[.val (.ref x0), .val (.int (0 : Int32)), .val (.int (3 : Int32)), .val (.int x3), .val (.int tt), .val (.int (z0 ^^^ tt)), .val (.int (1 : Int32)), .val (.int z1), .val (.int (z1 ^^^ tt)), .val (.int (-1 : Int32))] [(.int (0 : Int32)), (.ref x0)]
      refine s_iload X hx (hb hby d1_102) rfl (q := 104) rfl ?_
      refine s_iastore X hx hZ eT A_x0 N g_x0 (by decide) (i := 0) rfl (Nat.le_of_ble_eq_true rfl) (ys := [z1, z0, z2, z3, z4]) rfl (hb hby d1_104) (q := 105) rfl ?_
      intro T h6 _ X N eT W A_x0'
      have K := K.wr W (Or.inl (List.mem_of_getElem? (i := 0) rfl))
      have sz : n0 ≤ h6.size := by rw [W.size]; exact sz
      have A_x0 := A_x0'
      refine s_iinc X hx (w := (2 : Int32)) (hb hby d1_105) rfl rfl (L' := #[.val (.ref x0), .val (.int (0 : Int32)), .val (.int (3 : Int32)), .val (.int x3), .val (.int tt), .val (.int (z0 ^^^ tt)), .val (.int (2 : Int32)), .val (.int z1), .val (.int (z1 ^^^ tt)), .val (.int (-1 : Int32))]) rfl (q := 108) rfl ?_
      refine s_goto X hx (hb hby d1_108) (q1 := 27) (by decide) (by decide) ?_
      exact cut2 z1 z0 z2 z3 z4 _ _ _ _ _ _ (One.val rfl) (One.val rfl) (One.val rfl) X eT N sz K A_x0 (own_asym hc50) (hres.trans (by rw [show (CS 0 tt [z0, z1, z2, z3, z4]) = [z1, z0, z2, z3, z4] from by simp only [CS, List.getD_cons_zero, List.getD_cons_succ, List.set_cons_zero, List.set_cons_succ, if_pos hc50]]))
    refine s_iload X hx (hb hby d1_53) rfl (q := 55) rfl ?_
    refine s_istore X hx (hb hby d1_55) (L' := #[.val (.ref x0), .val (.int (0 : Int32)), .val (.int (3 : Int32)), .val (.int x3), .val (.int tt), .val (.int (z1 ^^^ tt)), .val (.int (1 : Int32)), .val (.int z1), .val (.int (z1 ^^^ tt)), s9]) rfl (q := 57) rfl ?_
    refine s_goto X hx (hb hby d1_57) (q1 := 105) (by decide) (by decide) ?_
    refine s_iinc X hx (w := (2 : Int32)) (hb hby d1_105) rfl rfl (L' := #[.val (.ref x0), .val (.int (0 : Int32)), .val (.int (3 : Int32)), .val (.int x3), .val (.int tt), .val (.int (z1 ^^^ tt)), .val (.int (2 : Int32)), .val (.int z1), .val (.int (z1 ^^^ tt)), s9]) rfl (q := 108) rfl ?_
    refine s_goto X hx (hb hby d1_108) (q1 := 27) (by decide) (by decide) ?_
    exact cut2 z0 z1 z2 z3 z4 _ _ _ _ _ _ (One.val rfl) (One.val rfl) hs9 X eT N sz K A_x0 hc50 (hres.trans (by rw [show (CS 0 tt [z0, z1, z2, z3, z4]) = [z0, z1, z2, z3, z4] from by simp only [CS, List.getD_cons_zero, List.getD_cons_succ, List.set_cons_zero, List.set_cons_succ, if_neg hc50]]))
  exact cut1 y0 y1 y2 y3 y4 _ _ _ _ _ _ One.u One.u One.u X eT N sz K A_x0 (by rw [htt] at hRES; exact hRES)
set_option maxRecDepth 65536 in
set_option maxHeartbeats 40000000 in
theorem rm1_04 (l : Launch) (Z : State) (a0 : Array Value) (hw : ∀ d ∈ tables_1, d.before a0 Z = true) (ws : List Jvm.Cond) (x0 : Addr) (x3 : Int32) (y0 y1 y2 y3 y4 : Int32) (RES : List Int32) (h0 : Heap) (n0 : Nat) (sz : n0 ≤ h0.size) (A_x0 : AI Z h0 x0 .int [y0, y1, y2, y3, y4]) (g_x0 : n0 ≤ x0) (hRES : RES = (CS 0 (x3 ^^^ (-2147483648 : Int32)) (CS 1 (x3 ^^^ (-2147483648 : Int32)) (CS 2 (x3 ^^^ (-2147483648 : Int32)) (CS 0 (x3 ^^^ (-2147483648 : Int32)) (CS 1 (x3 ^^^ (-2147483648 : Int32)) (CS 0 (x3 ^^^ (-2147483648 : Int32)) [y0, y1, y2, y3, y4]))))))) :
    Ctr l (⟨"com/example/digitwise/digitwise/internal/IntRadixSort", "insertionSort", "([IIII)V"⟩ : MethodName) prog_7_method_52_code 10 none ws ({ frames := 0, cells := 0, slots := 0, locals := 0 } : Room) Z #[(.ref x0), (.int (0 : Int32)), (.int (4 : Int32)), (.int x3)] h0 (fun v h L => v = none ∧ Fr n0 L ∧ Keep h0 h [x0] ∧ AI Z h x0 .int RES) 0 0 := by
  refine Ctr.mk pn_1 ?_
  intro p e s m below meth c T hx hby hml hown hnm hlk hret hZ X eT
  have N := Fr.nil n0
  refine enter (ef_1 m x0 (0 : Int32) (4 : Int32) x3) ?_
  have K := Keep.refl h0 [x0]
  revert hRES
  intro hRES
  refine s_iloadN X hx (hb hby d1_0) rfl (q := 1) rfl ?_
  refine s_iloadN X hx (hb hby d1_1) rfl (q := 2) rfl ?_
  refine s_isub X hx (hb hby d1_2) (q := 3) rfl ?_
  show Go p e below _ T m 3 #[.val (.ref x0), .val (.int (0 : Int32)), .val (.int (4 : Int32)), .val (.int x3), .unset, .unset, .unset, .unset, .unset, .unset] [(.int (4 : Int32))]
  refine s_iconst X hx (z := (2 : Int32)) (hb hby d1_3) rfl (q := 4) rfl ?_
  refine f_icmp_ge X hx (hb hby d1_4) (q1 := 8) (by decide) (by decide) (q := 7) rfl (fun _ => ?_) (fun hq => absurd hq (by decide : ¬ (4 : Int32) < (2 : Int32)))
  refine s_iloadN X hx (hb hby d1_8) rfl (q := 9) rfl ?_
  refine s_ldc X hx hZ hown (hw _ (List.mem_of_getElem? (i := 10) rfl)) (hb hby d1_9) (q := 11) rfl ?_
  refine s_ixor X hx (hb hby d1_11) (q := 12) rfl ?_
  generalize htt : (x3 ^^^ (-2147483648 : Int32)) = tt
  refine s_istore X hx (hb hby d1_12) (L' := #[.val (.ref x0), .val (.int (0 : Int32)), .val (.int (4 : Int32)), .val (.int x3), .val (.int tt), .unset, .unset, .unset, .unset, .unset]) rfl (q := 14) rfl ?_
  refine s_aloadN X hx (hb hby d1_14) rfl rfl (q := 15) rfl ?_
  refine s_iloadN X hx (hb hby d1_15) rfl (q := 16) rfl ?_
  refine s_iaload X hx hZ eT A_x0 (by decide) (i := 0) rfl (x := y0) rfl (hb hby d1_16) (q := 17) rfl ?_
  refine s_iload X hx (hb hby d1_17) rfl (q := 19) rfl ?_
  refine s_ixor X hx (hb hby d1_19) (q := 20) rfl ?_
  refine s_istore X hx (hb hby d1_20) (L' := #[.val (.ref x0), .val (.int (0 : Int32)), .val (.int (4 : Int32)), .val (.int x3), .val (.int tt), .val (.int (y0 ^^^ tt)), .unset, .unset, .unset, .unset]) rfl (q := 22) rfl ?_
  refine s_iloadN X hx (hb hby d1_22) rfl (q := 23) rfl ?_
  refine s_iconst X hx (z := (1 : Int32)) (hb hby d1_23) rfl (q := 24) rfl ?_
  refine s_iadd X hx (hb hby d1_24) (q := 25) rfl ?_
  show Go p e below _ T m 25 #[.val (.ref x0), .val (.int (0 : Int32)), .val (.int (4 : Int32)), .val (.int x3), .val (.int tt), .val (.int (y0 ^^^ tt)), .unset, .unset, .unset, .unset] [(.int (1 : Int32))]
  refine s_istore X hx (hb hby d1_25) (L' := #[.val (.ref x0), .val (.int (0 : Int32)), .val (.int (4 : Int32)), .val (.int x3), .val (.int tt), .val (.int (y0 ^^^ tt)), .val (.int (1 : Int32)), .unset, .unset, .unset]) rfl (q := 27) rfl ?_
  have cut4 : ∀ (z0 z1 z2 z3 z4 : Int32) (s7 s8 s9 : Slot) (T : State) (hh : Heap) (locs : List Loc), One s7 → One s8 → One s9 → Stand p l e ({ frames := 0, cells := 0, slots := 0, locals := 0 } : Room) s m #[(.ref x0), (.int (0 : Int32)), (.int (4 : Int32)), (.int x3)] below meth c T locs 0 0 → T.heap = hh → Fr n0 locs → n0 ≤ hh.size → Keep h0 hh [x0] → AI Z hh x0 .int [z0, z1, z2, z3, z4] → ¬ (z1 ^^^ tt) < (z0 ^^^ tt) → ¬ (z2 ^^^ tt) < (z1 ^^^ tt) → ¬ (z3 ^^^ tt) < (z2 ^^^ tt) → RES = [z0, z1, z2, z3, z4] → Go p e below (Gl s below (fun v h L => v = none ∧ Fr n0 L ∧ Keep h0 h [x0] ∧ AI Z h x0 .int RES) 0 0) T m 27 #[.val (.ref x0), .val (.int (0 : Int32)), .val (.int (4 : Int32)), .val (.int x3), .val (.int tt), .val (.int (z3 ^^^ tt)), .val (.int (4 : Int32)), s7, s8, s9] [] := by
    intro z0 z1 z2 z3 z4 s7 s8 s9 T hh locs hs7 hs8 hs9 X eT N sz K A_x0 q0 q1 q2 hres
    refine s_iload X hx (hb hby d1_27) rfl (q := 29) rfl ?_
    refine s_iloadN X hx (hb hby d1_29) rfl (q := 30) rfl ?_
    refine f_icmp_ge X hx (hb hby d1_30) (q1 := 111) (by decide) (by decide) (q := 33) rfl (fun _ => ?_) (fun hq => absurd hq (by decide : ¬ (4 : Int32) < (4 : Int32)))
    exact leafV X hx hlk hret (hb hby d1_111) (by decide) (by decide) (by rw [eT]; exact ⟨rfl, N, K, hres ▸ A_x0⟩)
  have cut3 : ∀ (z0 z1 z2 z3 z4 : Int32) (s7 s8 s9 : Slot) (T : State) (hh : Heap) (locs : List Loc), One s7 → One s8 → One s9 → Stand p l e ({ frames := 0, cells := 0, slots := 0, locals := 0 } : Room) s m #[(.ref x0), (.int (0 : Int32)), (.int (4 : Int32)), (.int x3)] below meth c T locs 0 0 → T.heap = hh → Fr n0 locs → n0 ≤ hh.size → Keep h0 hh [x0] → AI Z hh x0 .int [z0, z1, z2, z3, z4] → ¬ (z1 ^^^ tt) < (z0 ^^^ tt) → ¬ (z2 ^^^ tt) < (z1 ^^^ tt) → RES = (CS 0 tt (CS 1 tt (CS 2 tt [z0, z1, z2, z3, z4]))) → Go p e below (Gl s below (fun v h L => v = none ∧ Fr n0 L ∧ Keep h0 h [x0] ∧ AI Z h x0 .int RES) 0 0) T m 27 #[.val (.ref x0), .val (.int (0 : Int32)), .val (.int (4 : Int32)), .val (.int x3), .val (.int tt), .val (.int (z2 ^^^ tt)), .val (.int (3 : Int32)), s7, s8, s9] [] := by
    intro z0 z1 z2 z3 z4 s7 s8 s9 T hh locs hs7 hs8 hs9 X eT N sz K A_x0 q0 q1 hres
    refine s_iload X hx (hb hby d1_27) rfl (q := 29) rfl ?_
    refine s_iloadN X hx (hb hby d1_29) rfl (q := 30) rfl ?_
    refine f_icmp_ge X hx (hb hby d1_30) (q1 := 111) (by decide) (by decide) (q := 33) rfl (fun hq => absurd (by decide : (3 : Int32) < (4 : Int32)) hq) (fun _ => ?_)
    refine s_aloadN X hx (hb hby d1_33) rfl rfl (q := 34) rfl ?_
    refine s_iload X hx (hb hby d1_34) rfl (q := 36) rfl ?_
    refine s_iaload X hx hZ eT A_x0 (by decide) (i := 3) rfl (x := z3) rfl (hb hby d1_36) (q := 37) rfl ?_
    refine s_istore X hx (hb hby d1_37) (L' := #[.val (.ref x0), .val (.int (0 : Int32)), .val (.int (4 : Int32)), .val (.int x3), .val (.int tt), .val (.int (z2 ^^^ tt)), .val (.int (3 : Int32)), .val (.int z3), s8, s9]) (by rcases hs7 with rfl | ⟨w', rfl, hw'⟩ <;> first | rfl | (cases w' <;> first | rfl | (simp [Value.category] at hw'))) (q := 39) rfl ?_
    refine s_iload X hx (hb hby d1_39) rfl (q := 41) rfl ?_
    refine s_iload X hx (hb hby d1_41) rfl (q := 43) rfl ?_
    refine s_ixor X hx (hb hby d1_43) (q := 44) rfl ?_
    refine s_istore X hx (hb hby d1_44) (L' := #[.val (.ref x0), .val (.int (0 : Int32)), .val (.int (4 : Int32)), .val (.int x3), .val (.int tt), .val (.int (z2 ^^^ tt)), .val (.int (3 : Int32)), .val (.int z3), .val (.int (z3 ^^^ tt)), s9]) (by rcases hs8 with rfl | ⟨w', rfl, hw'⟩ <;> first | rfl | (cases w' <;> first | rfl | (simp [Value.category] at hw'))) (q := 46) rfl ?_
    refine s_iload X hx (hb hby d1_46) rfl (q := 48) rfl ?_
    refine s_iload X hx (hb hby d1_48) rfl (q := 50) rfl ?_
    refine f_icmp_lt X hx (hb hby d1_50) (q1 := 60) (by decide) (by decide) (q := 53) rfl (fun hc50 => ?_) (fun hc50 => ?_)
    · refine s_iload X hx (hb hby d1_60) rfl (q := 62) rfl ?_
      refine s_iconst X hx (z := (1 : Int32)) (hb hby d1_62) rfl (q := 63) rfl ?_
      refine s_isub X hx (hb hby d1_63) (q := 64) rfl ?_
      show Go p e below _ T m 64 #[.val (.ref x0), .val (.int (0 : Int32)), .val (.int (4 : Int32)), .val (.int x3), .val (.int tt), .val (.int (z2 ^^^ tt)), .val (.int (3 : Int32)), .val (.int z3), .val (.int (z3 ^^^ tt)), s9] [(.int (2 : Int32))]
      refine s_istore X hx (hb hby d1_64) (L' := #[.val (.ref x0), .val (.int (0 : Int32)), .val (.int (4 : Int32)), .val (.int x3), .val (.int tt), .val (.int (z2 ^^^ tt)), .val (.int (3 : Int32)), .val (.int z3), .val (.int (z3 ^^^ tt)), .val (.int (2 : Int32))]) (by rcases hs9 with rfl | ⟨w', rfl, hw'⟩ <;> first | rfl | (cases w' <;> first | rfl | (simp [Value.category] at hw'))) (q := 66) rfl ?_
      refine s_aloadN X hx (hb hby d1_66) rfl rfl (q := 67) rfl ?_
      refine s_iload X hx (hb hby d1_67) rfl (q := 69) rfl ?_
      refine s_iconst X hx (z := (1 : Int32)) (hb hby d1_69) rfl (q := 70) rfl ?_
      refine s_iadd X hx (hb hby d1_70) (q := 71) rfl ?_
      show Go p e below _ T m 71 #[.val (.ref x0), .val (.int (0 : Int32)), .val (.int (4 : Int32)), .val (.int x3), .val (.int tt), .val (.int (z2 ^^^ tt)), .val (.int (3 : Int32)), .val (.int z3), .val (.int (z3 ^^^ tt)), .val (.int (2 : Int32))] [(.int (3 : Int32)), (.ref x0)]
      refine s_aloadN X hx (hb hby d1_71) rfl rfl (q := 72) rfl ?_
      refine s_iload X hx (hb hby d1_72) rfl (q := 74) rfl ?_
      refine s_iaload X hx hZ eT A_x0 (by decide) (i := 2) rfl (x := z2) rfl (hb hby d1_74) (q := 75) rfl ?_
      refine s_iastore X hx hZ eT A_x0 N g_x0 (by decide) (i := 3) rfl (Nat.le_of_ble_eq_true rfl) (ys := [z0, z1, z2, z2, z4]) rfl (hb hby d1_75) (q := 76) rfl ?_
      intro T h1 _ X N eT W A_x0'
      have K := K.wr W (Or.inl (List.mem_of_getElem? (i := 0) rfl))
      have sz : n0 ≤ h1.size := by rw [W.size]; exact sz
      have A_x0 := A_x0'
      refine s_iinc X hx (w := (1 : Int32)) (hb hby d1_76) rfl rfl (L' := #[.val (.ref x0), .val (.int (0 : Int32)), .val (.int (4 : Int32)), .val (.int x3), .val (.int tt), .val (.int (z2 ^^^ tt)), .val (.int (3 : Int32)), .val (.int z3), .val (.int (z3 ^^^ tt)), .val (.int (1 : Int32))]) rfl (q := 79) rfl ?_
      refine s_iload X hx (hb hby d1_79) rfl (q := 81) rfl ?_
      refine s_iloadN X hx (hb hby d1_81) rfl (q := 82) rfl ?_
      refine f_icmp_lt X hx (hb hby d1_82) (q1 := 97) (by decide) (by decide) (q := 85) rfl (fun hq => absurd hq (by decide : ¬ (1 : Int32) < (0 : Int32))) (fun _ => ?_)
      refine s_aloadN X hx (hb hby d1_85) rfl rfl (q := 86) rfl ?_
      refine s_iload X hx (hb hby d1_86) rfl (q := 88) rfl ?_
      refine s_iaload X hx hZ eT A_x0 (by decide) (i := 1) rfl (x := z1) rfl (hb hby d1_88) (q := 89) rfl ?_
      refine s_iload X hx (hb hby d1_89) rfl (q := 91) rfl ?_
      refine s_ixor X hx (hb hby d1_91) (q := 92) rfl ?_
      refine s_iload X hx (hb hby d1_92) rfl (q := 94) rfl ?_
      refine f_icmp_gt X hx (hb hby d1_94) (q1 := 66) (by decide) (by decide) (q := 97) rfl (fun hc94 => ?_) (fun hc94 => ?_)
      · refine s_aloadN X hx (hb hby d1_66) rfl rfl (q := 67) rfl ?_
        refine s_iload X hx (hb hby d1_67) rfl (q := 69) rfl ?_
        refine s_iconst X hx (z := (1 : Int32)) (hb hby d1_69) rfl (q := 70) rfl ?_
        refine s_iadd X hx (hb hby d1_70) (q := 71) rfl ?_
        show Go p e below _ T m 71 #[.val (.ref x0), .val (.int (0 : Int32)), .val (.int (4 : Int32)), .val (.int x3), .val (.int tt), .val (.int (z2 ^^^ tt)), .val (.int (3 : Int32)), .val (.int z3), .val (.int (z3 ^^^ tt)), .val (.int (1 : Int32))] [(.int (2 : Int32)), (.ref x0)]
        refine s_aloadN X hx (hb hby d1_71) rfl rfl (q := 72) rfl ?_
        refine s_iload X hx (hb hby d1_72) rfl (q := 74) rfl ?_
        refine s_iaload X hx hZ eT A_x0 (by decide) (i := 1) rfl (x := z1) rfl (hb hby d1_74) (q := 75) rfl ?_
        refine s_iastore X hx hZ eT A_x0 N g_x0 (by decide) (i := 2) rfl (Nat.le_of_ble_eq_true rfl) (ys := [z0, z1, z1, z2, z4]) rfl (hb hby d1_75) (q := 76) rfl ?_
        intro T h2 _ X N eT W A_x0'
        have K := K.wr W (Or.inl (List.mem_of_getElem? (i := 0) rfl))
        have sz : n0 ≤ h2.size := by rw [W.size]; exact sz
        have A_x0 := A_x0'
        refine s_iinc X hx (w := (0 : Int32)) (hb hby d1_76) rfl rfl (L' := #[.val (.ref x0), .val (.int (0 : Int32)), .val (.int (4 : Int32)), .val (.int x3), .val (.int tt), .val (.int (z2 ^^^ tt)), .val (.int (3 : Int32)), .val (.int z3), .val (.int (z3 ^^^ tt)), .val (.int (0 : Int32))]) rfl (q := 79) rfl ?_
        refine s_iload X hx (hb hby d1_79) rfl (q := 81) rfl ?_
        refine s_iloadN X hx (hb hby d1_81) rfl (q := 82) rfl ?_
        refine f_icmp_lt X hx (hb hby d1_82) (q1 := 97) (by decide) (by decide) (q := 85) rfl (fun hq => absurd hq (by decide : ¬ (0 : Int32) < (0 : Int32))) (fun _ => ?_)
        refine s_aloadN X hx (hb hby d1_85) rfl rfl (q := 86) rfl ?_
        refine s_iload X hx (hb hby d1_86) rfl (q := 88) rfl ?_
        refine s_iaload X hx hZ eT A_x0 (by decide) (i := 0) rfl (x := z0) rfl (hb hby d1_88) (q := 89) rfl ?_
        refine s_iload X hx (hb hby d1_89) rfl (q := 91) rfl ?_
        refine s_ixor X hx (hb hby d1_91) (q := 92) rfl ?_
        refine s_iload X hx (hb hby d1_92) rfl (q := 94) rfl ?_
        refine f_icmp_gt X hx (hb hby d1_94) (q1 := 66) (by decide) (by decide) (q := 97) rfl (fun hc94_1 => ?_) (fun hc94_1 => ?_)
        · refine s_aloadN X hx (hb hby d1_66) rfl rfl (q := 67) rfl ?_
          refine s_iload X hx (hb hby d1_67) rfl (q := 69) rfl ?_
          refine s_iconst X hx (z := (1 : Int32)) (hb hby d1_69) rfl (q := 70) rfl ?_
          refine s_iadd X hx (hb hby d1_70) (q := 71) rfl ?_
          show Go p e below _ T m 71 #[.val (.ref x0), .val (.int (0 : Int32)), .val (.int (4 : Int32)), .val (.int x3), .val (.int tt), .val (.int (z2 ^^^ tt)), .val (.int (3 : Int32)), .val (.int z3), .val (.int (z3 ^^^ tt)), .val (.int (0 : Int32))] [(.int (1 : Int32)), (.ref x0)]
          refine s_aloadN X hx (hb hby d1_71) rfl rfl (q := 72) rfl ?_
          refine s_iload X hx (hb hby d1_72) rfl (q := 74) rfl ?_
          refine s_iaload X hx hZ eT A_x0 (by decide) (i := 0) rfl (x := z0) rfl (hb hby d1_74) (q := 75) rfl ?_
          refine s_iastore X hx hZ eT A_x0 N g_x0 (by decide) (i := 1) rfl (Nat.le_of_ble_eq_true rfl) (ys := [z0, z0, z1, z2, z4]) rfl (hb hby d1_75) (q := 76) rfl ?_
          intro T h3 _ X N eT W A_x0'
          have K := K.wr W (Or.inl (List.mem_of_getElem? (i := 0) rfl))
          have sz : n0 ≤ h3.size := by rw [W.size]; exact sz
          have A_x0 := A_x0'
          refine s_iinc X hx (w := (-1 : Int32)) (hb hby d1_76) rfl rfl (L' := #[.val (.ref x0), .val (.int (0 : Int32)), .val (.int (4 : Int32)), .val (.int x3), .val (.int tt), .val (.int (z2 ^^^ tt)), .val (.int (3 : Int32)), .val (.int z3), .val (.int (z3 ^^^ tt)), .val (.int (-1 : Int32))]) rfl (q := 79) rfl ?_
          refine s_iload X hx (hb hby d1_79) rfl (q := 81) rfl ?_
          refine s_iloadN X hx (hb hby d1_81) rfl (q := 82) rfl ?_
          refine f_icmp_lt X hx (hb hby d1_82) (q1 := 97) (by decide) (by decide) (q := 85) rfl (fun _ => ?_) (fun hq => absurd (by decide : (-1 : Int32) < (0 : Int32)) hq)
          refine s_aloadN X hx (hb hby d1_97) rfl rfl (q := 98) rfl ?_
          refine s_iload X hx (hb hby d1_98) rfl (q := 100) rfl ?_
          refine s_iconst X hx (z := (1 : Int32)) (hb hby d1_100) rfl (q := 101) rfl ?_
          refine s_iadd X hx (hb hby d1_101) (q := 102) rfl ?_
          show Go p e below _ T m 102 #[.val (.ref x0), .val (.int (0 : Int32)), .val (.int (4 : Int32)), .val (.int x3), .val (.int tt), .val (.int (z2 ^^^ tt)), .val (.int (3 : Int32)), .val (.int z3), .val (.int (z3 ^^^ tt)), .val (.int (-1 : Int32))] [(.int (0 : Int32)), (.ref x0)]
          refine s_iload X hx (hb hby d1_102) rfl (q := 104) rfl ?_
          refine s_iastore X hx hZ eT A_x0 N g_x0 (by decide) (i := 0) rfl (Nat.le_of_ble_eq_true rfl) (ys := [z3, z0, z1, z2, z4]) rfl (hb hby d1_104) (q := 105) rfl ?_
          intro T h4 _ X N eT W A_x0'
          have K := K.wr W (Or.inl (List.mem_of_getElem? (i := 0) rfl))
          have sz : n0 ≤ h4.size := by rw [W.size]; exact sz
          have A_x0 := A_x0'
          refine s_iinc X hx (w := (4 : Int32)) (hb hby d1_105) rfl rfl (L' := #[.val (.ref x0), .val (.int (0 : Int32)), .val (.int (4 : Int32)), .val (.int x3), .val (.int tt), .val (.int (z2 ^^^ tt)), .val (.int (4 : Int32)), .val (.int z3), .val (.int (z3 ^^^ tt)), .val (.int (-1 : Int32))]) rfl (q := 108) rfl ?_
          refine s_goto X hx (hb hby d1_108) (q1 := 27) (by decide) (by decide) ?_
          exact cut4 z3 z0 z1 z2 z4 _ _ _ _ _ _ (One.val rfl) (One.val rfl) (One.val rfl) X eT N sz K A_x0 (own_asym hc94_1) q0 q1 (hres.trans (by rw [show (CS 0 tt (CS 1 tt (CS 2 tt [z0, z1, z2, z3, z4]))) = [z3, z0, z1, z2, z4] from by simp only [CS, List.getD_cons_zero, List.getD_cons_succ, List.set_cons_zero, List.set_cons_succ, if_pos hc50, if_pos hc94, if_pos hc94_1]]))
        refine s_aloadN X hx (hb hby d1_97) rfl rfl (q := 98) rfl ?_
        refine s_iload X hx (hb hby d1_98) rfl (q := 100) rfl ?_
        refine s_iconst X hx (z := (1 : Int32)) (hb hby d1_100) rfl (q := 101) rfl ?_
        refine s_iadd X hx (hb hby d1_101) (q := 102) rfl ?_
        show Go p e below _ T m 102 #[.val (.ref x0), .val (.int (0 : Int32)), .val (.int (4 : Int32)), .val (.int x3), .val (.int tt), .val (.int (z2 ^^^ tt)), .val (.int (3 : Int32)), .val (.int z3), .val (.int (z3 ^^^ tt)), .val (.int (0 : Int32))] [(.int (1 : Int32)), (.ref x0)]
        refine s_iload X hx (hb hby d1_102) rfl (q := 104) rfl ?_
        refine s_iastore X hx hZ eT A_x0 N g_x0 (by decide) (i := 1) rfl (Nat.le_of_ble_eq_true rfl) (ys := [z0, z3, z1, z2, z4]) rfl (hb hby d1_104) (q := 105) rfl ?_
        intro T h5 _ X N eT W A_x0'
        have K := K.wr W (Or.inl (List.mem_of_getElem? (i := 0) rfl))
        have sz : n0 ≤ h5.size := by rw [W.size]; exact sz
        have A_x0 := A_x0'
        refine s_iinc X hx (w := (4 : Int32)) (hb hby d1_105) rfl rfl (L' := #[.val (.ref x0), .val (.int (0 : Int32)), .val (.int (4 : Int32)), .val (.int x3), .val (.int tt), .val (.int (z2 ^^^ tt)), .val (.int (4 : Int32)), .val (.int z3), .val (.int (z3 ^^^ tt)), .val (.int (0 : Int32))]) rfl (q := 108) rfl ?_
        refine s_goto X hx (hb hby d1_108) (q1 := 27) (by decide) (by decide) ?_
        exact cut4 z0 z3 z1 z2 z4 _ _ _ _ _ _ (One.val rfl) (One.val rfl) (One.val rfl) X eT N sz K A_x0 hc94_1 (own_asym hc94) q1 (hres.trans (by rw [show (CS 0 tt (CS 1 tt (CS 2 tt [z0, z1, z2, z3, z4]))) = [z0, z3, z1, z2, z4] from by simp only [CS, List.getD_cons_zero, List.getD_cons_succ, List.set_cons_zero, List.set_cons_succ, if_pos hc50, if_pos hc94, if_neg hc94_1]]))
      refine s_aloadN X hx (hb hby d1_97) rfl rfl (q := 98) rfl ?_
      refine s_iload X hx (hb hby d1_98) rfl (q := 100) rfl ?_
      refine s_iconst X hx (z := (1 : Int32)) (hb hby d1_100) rfl (q := 101) rfl ?_
      refine s_iadd X hx (hb hby d1_101) (q := 102) rfl ?_
      show Go p e below _ T m 102 #[.val (.ref x0), .val (.int (0 : Int32)), .val (.int (4 : Int32)), .val (.int x3), .val (.int tt), .val (.int (z2 ^^^ tt)), .val (.int (3 : Int32)), .val (.int z3), .val (.int (z3 ^^^ tt)), .val (.int (1 : Int32))] [(.int (2 : Int32)), (.ref x0)]
      refine s_iload X hx (hb hby d1_102) rfl (q := 104) rfl ?_
      refine s_iastore X hx hZ eT A_x0 N g_x0 (by decide) (i := 2) rfl (Nat.le_of_ble_eq_true rfl) (ys := [z0, z1, z3, z2, z4]) rfl (hb hby d1_104) (q := 105) rfl ?_
      intro T h6 _ X N eT W A_x0'
      have K := K.wr W (Or.inl (List.mem_of_getElem? (i := 0) rfl))
      have sz : n0 ≤ h6.size := by rw [W.size]; exact sz
      have A_x0 := A_x0'
      refine s_iinc X hx (w := (4 : Int32)) (hb hby d1_105) rfl rfl (L' := #[.val (.ref x0), .val (.int (0 : Int32)), .val (.int (4 : Int32)), .val (.int x3), .val (.int tt), .val (.int (z2 ^^^ tt)), .val (.int (4 : Int32)), .val (.int z3), .val (.int (z3 ^^^ tt)), .val (.int (1 : Int32))]) rfl (q := 108) rfl ?_
      refine s_goto X hx (hb hby d1_108) (q1 := 27) (by decide) (by decide) ?_
      exact cut4 z0 z1 z3 z2 z4 _ _ _ _ _ _ (One.val rfl) (One.val rfl) (One.val rfl) X eT N sz K A_x0 q0 hc94 (own_asym hc50) (hres.trans (by rw [show (CS 0 tt (CS 1 tt (CS 2 tt [z0, z1, z2, z3, z4]))) = [z0, z1, z3, z2, z4] from by simp only [CS, List.getD_cons_zero, List.getD_cons_succ, List.set_cons_zero, List.set_cons_succ, if_pos hc50, if_neg hc94, if_neg q0]]))
    refine s_iload X hx (hb hby d1_53) rfl (q := 55) rfl ?_
    refine s_istore X hx (hb hby d1_55) (L' := #[.val (.ref x0), .val (.int (0 : Int32)), .val (.int (4 : Int32)), .val (.int x3), .val (.int tt), .val (.int (z3 ^^^ tt)), .val (.int (3 : Int32)), .val (.int z3), .val (.int (z3 ^^^ tt)), s9]) rfl (q := 57) rfl ?_
    refine s_goto X hx (hb hby d1_57) (q1 := 105) (by decide) (by decide) ?_
    refine s_iinc X hx (w := (4 : Int32)) (hb hby d1_105) rfl rfl (L' := #[.val (.ref x0), .val (.int (0 : Int32)), .val (.int (4 : Int32)), .val (.int x3), .val (.int tt), .val (.int (z3 ^^^ tt)), .val (.int (4 : Int32)), .val (.int z3), .val (.int (z3 ^^^ tt)), s9]) rfl (q := 108) rfl ?_
    refine s_goto X hx (hb hby d1_108) (q1 := 27) (by decide) (by decide) ?_
    exact cut4 z0 z1 z2 z3 z4 _ _ _ _ _ _ (One.val rfl) (One.val rfl) hs9 X eT N sz K A_x0 q0 q1 hc50 (hres.trans (by rw [show (CS 0 tt (CS 1 tt (CS 2 tt [z0, z1, z2, z3, z4]))) = [z0, z1, z2, z3, z4] from by simp only [CS, List.getD_cons_zero, List.getD_cons_succ, List.set_cons_zero, List.set_cons_succ, if_neg hc50, if_neg q1, if_neg q0]]))
  have cut2 : ∀ (z0 z1 z2 z3 z4 : Int32) (s7 s8 s9 : Slot) (T : State) (hh : Heap) (locs : List Loc), One s7 → One s8 → One s9 → Stand p l e ({ frames := 0, cells := 0, slots := 0, locals := 0 } : Room) s m #[(.ref x0), (.int (0 : Int32)), (.int (4 : Int32)), (.int x3)] below meth c T locs 0 0 → T.heap = hh → Fr n0 locs → n0 ≤ hh.size → Keep h0 hh [x0] → AI Z hh x0 .int [z0, z1, z2, z3, z4] → ¬ (z1 ^^^ tt) < (z0 ^^^ tt) → RES = (CS 0 tt (CS 1 tt (CS 2 tt (CS 0 tt (CS 1 tt [z0, z1, z2, z3, z4]))))) → Go p e below (Gl s below (fun v h L => v = none ∧ Fr n0 L ∧ Keep h0 h [x0] ∧ AI Z h x0 .int RES) 0 0) T m 27 #[.val (.ref x0), .val (.int (0 : Int32)), .val (.int (4 : Int32)), .val (.int x3), .val (.int tt), .val (.int (z1 ^^^ tt)), .val (.int (2 : Int32)), s7, s8, s9] [] := by
    intro z0 z1 z2 z3 z4 s7 s8 s9 T hh locs hs7 hs8 hs9 X eT N sz K A_x0 q0 hres
    refine s_iload X hx (hb hby d1_27) rfl (q := 29) rfl ?_
    refine s_iloadN X hx (hb hby d1_29) rfl (q := 30) rfl ?_
    refine f_icmp_ge X hx (hb hby d1_30) (q1 := 111) (by decide) (by decide) (q := 33) rfl (fun hq => absurd (by decide : (2 : Int32) < (4 : Int32)) hq) (fun _ => ?_)
    refine s_aloadN X hx (hb hby d1_33) rfl rfl (q := 34) rfl ?_
    refine s_iload X hx (hb hby d1_34) rfl (q := 36) rfl ?_
    refine s_iaload X hx hZ eT A_x0 (by decide) (i := 2) rfl (x := z2) rfl (hb hby d1_36) (q := 37) rfl ?_
    refine s_istore X hx (hb hby d1_37) (L' := #[.val (.ref x0), .val (.int (0 : Int32)), .val (.int (4 : Int32)), .val (.int x3), .val (.int tt), .val (.int (z1 ^^^ tt)), .val (.int (2 : Int32)), .val (.int z2), s8, s9]) (by rcases hs7 with rfl | ⟨w', rfl, hw'⟩ <;> first | rfl | (cases w' <;> first | rfl | (simp [Value.category] at hw'))) (q := 39) rfl ?_
    refine s_iload X hx (hb hby d1_39) rfl (q := 41) rfl ?_
    refine s_iload X hx (hb hby d1_41) rfl (q := 43) rfl ?_
    refine s_ixor X hx (hb hby d1_43) (q := 44) rfl ?_
    refine s_istore X hx (hb hby d1_44) (L' := #[.val (.ref x0), .val (.int (0 : Int32)), .val (.int (4 : Int32)), .val (.int x3), .val (.int tt), .val (.int (z1 ^^^ tt)), .val (.int (2 : Int32)), .val (.int z2), .val (.int (z2 ^^^ tt)), s9]) (by rcases hs8 with rfl | ⟨w', rfl, hw'⟩ <;> first | rfl | (cases w' <;> first | rfl | (simp [Value.category] at hw'))) (q := 46) rfl ?_
    refine s_iload X hx (hb hby d1_46) rfl (q := 48) rfl ?_
    refine s_iload X hx (hb hby d1_48) rfl (q := 50) rfl ?_
    refine f_icmp_lt X hx (hb hby d1_50) (q1 := 60) (by decide) (by decide) (q := 53) rfl (fun hc50 => ?_) (fun hc50 => ?_)
    · refine s_iload X hx (hb hby d1_60) rfl (q := 62) rfl ?_
      refine s_iconst X hx (z := (1 : Int32)) (hb hby d1_62) rfl (q := 63) rfl ?_
      refine s_isub X hx (hb hby d1_63) (q := 64) rfl ?_
      show Go p e below _ T m 64 #[.val (.ref x0), .val (.int (0 : Int32)), .val (.int (4 : Int32)), .val (.int x3), .val (.int tt), .val (.int (z1 ^^^ tt)), .val (.int (2 : Int32)), .val (.int z2), .val (.int (z2 ^^^ tt)), s9] [(.int (1 : Int32))]
      refine s_istore X hx (hb hby d1_64) (L' := #[.val (.ref x0), .val (.int (0 : Int32)), .val (.int (4 : Int32)), .val (.int x3), .val (.int tt), .val (.int (z1 ^^^ tt)), .val (.int (2 : Int32)), .val (.int z2), .val (.int (z2 ^^^ tt)), .val (.int (1 : Int32))]) (by rcases hs9 with rfl | ⟨w', rfl, hw'⟩ <;> first | rfl | (cases w' <;> first | rfl | (simp [Value.category] at hw'))) (q := 66) rfl ?_
      refine s_aloadN X hx (hb hby d1_66) rfl rfl (q := 67) rfl ?_
      refine s_iload X hx (hb hby d1_67) rfl (q := 69) rfl ?_
      refine s_iconst X hx (z := (1 : Int32)) (hb hby d1_69) rfl (q := 70) rfl ?_
      refine s_iadd X hx (hb hby d1_70) (q := 71) rfl ?_
      show Go p e below _ T m 71 #[.val (.ref x0), .val (.int (0 : Int32)), .val (.int (4 : Int32)), .val (.int x3), .val (.int tt), .val (.int (z1 ^^^ tt)), .val (.int (2 : Int32)), .val (.int z2), .val (.int (z2 ^^^ tt)), .val (.int (1 : Int32))] [(.int (2 : Int32)), (.ref x0)]
      refine s_aloadN X hx (hb hby d1_71) rfl rfl (q := 72) rfl ?_
      refine s_iload X hx (hb hby d1_72) rfl (q := 74) rfl ?_
      refine s_iaload X hx hZ eT A_x0 (by decide) (i := 1) rfl (x := z1) rfl (hb hby d1_74) (q := 75) rfl ?_
      refine s_iastore X hx hZ eT A_x0 N g_x0 (by decide) (i := 2) rfl (Nat.le_of_ble_eq_true rfl) (ys := [z0, z1, z1, z3, z4]) rfl (hb hby d1_75) (q := 76) rfl ?_
      intro T h7 _ X N eT W A_x0'
      have K := K.wr W (Or.inl (List.mem_of_getElem? (i := 0) rfl))
      have sz : n0 ≤ h7.size := by rw [W.size]; exact sz
      have A_x0 := A_x0'
      refine s_iinc X hx (w := (0 : Int32)) (hb hby d1_76) rfl rfl (L' := #[.val (.ref x0), .val (.int (0 : Int32)), .val (.int (4 : Int32)), .val (.int x3), .val (.int tt), .val (.int (z1 ^^^ tt)), .val (.int (2 : Int32)), .val (.int z2), .val (.int (z2 ^^^ tt)), .val (.int (0 : Int32))]) rfl (q := 79) rfl ?_
      refine s_iload X hx (hb hby d1_79) rfl (q := 81) rfl ?_
      refine s_iloadN X hx (hb hby d1_81) rfl (q := 82) rfl ?_
      refine f_icmp_lt X hx (hb hby d1_82) (q1 := 97) (by decide) (by decide) (q := 85) rfl (fun hq => absurd hq (by decide : ¬ (0 : Int32) < (0 : Int32))) (fun _ => ?_)
      refine s_aloadN X hx (hb hby d1_85) rfl rfl (q := 86) rfl ?_
      refine s_iload X hx (hb hby d1_86) rfl (q := 88) rfl ?_
      refine s_iaload X hx hZ eT A_x0 (by decide) (i := 0) rfl (x := z0) rfl (hb hby d1_88) (q := 89) rfl ?_
      refine s_iload X hx (hb hby d1_89) rfl (q := 91) rfl ?_
      refine s_ixor X hx (hb hby d1_91) (q := 92) rfl ?_
      refine s_iload X hx (hb hby d1_92) rfl (q := 94) rfl ?_
      refine f_icmp_gt X hx (hb hby d1_94) (q1 := 66) (by decide) (by decide) (q := 97) rfl (fun hc94 => ?_) (fun hc94 => ?_)
      · refine s_aloadN X hx (hb hby d1_66) rfl rfl (q := 67) rfl ?_
        refine s_iload X hx (hb hby d1_67) rfl (q := 69) rfl ?_
        refine s_iconst X hx (z := (1 : Int32)) (hb hby d1_69) rfl (q := 70) rfl ?_
        refine s_iadd X hx (hb hby d1_70) (q := 71) rfl ?_
        show Go p e below _ T m 71 #[.val (.ref x0), .val (.int (0 : Int32)), .val (.int (4 : Int32)), .val (.int x3), .val (.int tt), .val (.int (z1 ^^^ tt)), .val (.int (2 : Int32)), .val (.int z2), .val (.int (z2 ^^^ tt)), .val (.int (0 : Int32))] [(.int (1 : Int32)), (.ref x0)]
        refine s_aloadN X hx (hb hby d1_71) rfl rfl (q := 72) rfl ?_
        refine s_iload X hx (hb hby d1_72) rfl (q := 74) rfl ?_
        refine s_iaload X hx hZ eT A_x0 (by decide) (i := 0) rfl (x := z0) rfl (hb hby d1_74) (q := 75) rfl ?_
        refine s_iastore X hx hZ eT A_x0 N g_x0 (by decide) (i := 1) rfl (Nat.le_of_ble_eq_true rfl) (ys := [z0, z0, z1, z3, z4]) rfl (hb hby d1_75) (q := 76) rfl ?_
        intro T h8 _ X N eT W A_x0'
        have K := K.wr W (Or.inl (List.mem_of_getElem? (i := 0) rfl))
        have sz : n0 ≤ h8.size := by rw [W.size]; exact sz
        have A_x0 := A_x0'
        refine s_iinc X hx (w := (-1 : Int32)) (hb hby d1_76) rfl rfl (L' := #[.val (.ref x0), .val (.int (0 : Int32)), .val (.int (4 : Int32)), .val (.int x3), .val (.int tt), .val (.int (z1 ^^^ tt)), .val (.int (2 : Int32)), .val (.int z2), .val (.int (z2 ^^^ tt)), .val (.int (-1 : Int32))]) rfl (q := 79) rfl ?_
        refine s_iload X hx (hb hby d1_79) rfl (q := 81) rfl ?_
        refine s_iloadN X hx (hb hby d1_81) rfl (q := 82) rfl ?_
        refine f_icmp_lt X hx (hb hby d1_82) (q1 := 97) (by decide) (by decide) (q := 85) rfl (fun _ => ?_) (fun hq => absurd (by decide : (-1 : Int32) < (0 : Int32)) hq)
        refine s_aloadN X hx (hb hby d1_97) rfl rfl (q := 98) rfl ?_
        refine s_iload X hx (hb hby d1_98) rfl (q := 100) rfl ?_
        refine s_iconst X hx (z := (1 : Int32)) (hb hby d1_100) rfl (q := 101) rfl ?_
        refine s_iadd X hx (hb hby d1_101) (q := 102) rfl ?_
        show Go p e below _ T m 102 #[.val (.ref x0), .val (.int (0 : Int32)), .val (.int (4 : Int32)), .val (.int x3), .val (.int tt), .val (.int (z1 ^^^ tt)), .val (.int (2 : Int32)), .val (.int z2), .val (.int (z2 ^^^ tt)), .val (.int (-1 : Int32))] [(.int (0 : Int32)), (.ref x0)]
        refine s_iload X hx (hb hby d1_102) rfl (q := 104) rfl ?_
        refine s_iastore X hx hZ eT A_x0 N g_x0 (by decide) (i := 0) rfl (Nat.le_of_ble_eq_true rfl) (ys := [z2, z0, z1, z3, z4]) rfl (hb hby d1_104) (q := 105) rfl ?_
        intro T h9 _ X N eT W A_x0'
        have K := K.wr W (Or.inl (List.mem_of_getElem? (i := 0) rfl))
        have sz : n0 ≤ h9.size := by rw [W.size]; exact sz
        have A_x0 := A_x0'
        refine s_iinc X hx (w := (3 : Int32)) (hb hby d1_105) rfl rfl (L' := #[.val (.ref x0), .val (.int (0 : Int32)), .val (.int (4 : Int32)), .val (.int x3), .val (.int tt), .val (.int (z1 ^^^ tt)), .val (.int (3 : Int32)), .val (.int z2), .val (.int (z2 ^^^ tt)), .val (.int (-1 : Int32))]) rfl (q := 108) rfl ?_
        refine s_goto X hx (hb hby d1_108) (q1 := 27) (by decide) (by decide) ?_
        exact cut3 z2 z0 z1 z3 z4 _ _ _ _ _ _ (One.val rfl) (One.val rfl) (One.val rfl) X eT N sz K A_x0 (own_asym hc94) q0 (hres.trans (by rw [show (CS 0 tt (CS 1 tt [z0, z1, z2, z3, z4])) = [z2, z0, z1, z3, z4] from by simp only [CS, List.getD_cons_zero, List.getD_cons_succ, List.set_cons_zero, List.set_cons_succ, if_pos hc50, if_pos hc94]]))
      refine s_aloadN X hx (hb hby d1_97) rfl rfl (q := 98) rfl ?_
      refine s_iload X hx (hb hby d1_98) rfl (q := 100) rfl ?_
      refine s_iconst X hx (z := (1 : Int32)) (hb hby d1_100) rfl (q := 101) rfl ?_
      refine s_iadd X hx (hb hby d1_101) (q := 102) rfl ?_
      show Go p e below _ T m 102 #[.val (.ref x0), .val (.int (0 : Int32)), .val (.int (4 : Int32)), .val (.int x3), .val (.int tt), .val (.int (z1 ^^^ tt)), .val (.int (2 : Int32)), .val (.int z2), .val (.int (z2 ^^^ tt)), .val (.int (0 : Int32))] [(.int (1 : Int32)), (.ref x0)]
      refine s_iload X hx (hb hby d1_102) rfl (q := 104) rfl ?_
      refine s_iastore X hx hZ eT A_x0 N g_x0 (by decide) (i := 1) rfl (Nat.le_of_ble_eq_true rfl) (ys := [z0, z2, z1, z3, z4]) rfl (hb hby d1_104) (q := 105) rfl ?_
      intro T h10 _ X N eT W A_x0'
      have K := K.wr W (Or.inl (List.mem_of_getElem? (i := 0) rfl))
      have sz : n0 ≤ h10.size := by rw [W.size]; exact sz
      have A_x0 := A_x0'
      refine s_iinc X hx (w := (3 : Int32)) (hb hby d1_105) rfl rfl (L' := #[.val (.ref x0), .val (.int (0 : Int32)), .val (.int (4 : Int32)), .val (.int x3), .val (.int tt), .val (.int (z1 ^^^ tt)), .val (.int (3 : Int32)), .val (.int z2), .val (.int (z2 ^^^ tt)), .val (.int (0 : Int32))]) rfl (q := 108) rfl ?_
      refine s_goto X hx (hb hby d1_108) (q1 := 27) (by decide) (by decide) ?_
      exact cut3 z0 z2 z1 z3 z4 _ _ _ _ _ _ (One.val rfl) (One.val rfl) (One.val rfl) X eT N sz K A_x0 hc94 (own_asym hc50) (hres.trans (by rw [show (CS 0 tt (CS 1 tt [z0, z1, z2, z3, z4])) = [z0, z2, z1, z3, z4] from by simp only [CS, List.getD_cons_zero, List.getD_cons_succ, List.set_cons_zero, List.set_cons_succ, if_pos hc50, if_neg hc94]]))
    refine s_iload X hx (hb hby d1_53) rfl (q := 55) rfl ?_
    refine s_istore X hx (hb hby d1_55) (L' := #[.val (.ref x0), .val (.int (0 : Int32)), .val (.int (4 : Int32)), .val (.int x3), .val (.int tt), .val (.int (z2 ^^^ tt)), .val (.int (2 : Int32)), .val (.int z2), .val (.int (z2 ^^^ tt)), s9]) rfl (q := 57) rfl ?_
    refine s_goto X hx (hb hby d1_57) (q1 := 105) (by decide) (by decide) ?_
    refine s_iinc X hx (w := (3 : Int32)) (hb hby d1_105) rfl rfl (L' := #[.val (.ref x0), .val (.int (0 : Int32)), .val (.int (4 : Int32)), .val (.int x3), .val (.int tt), .val (.int (z2 ^^^ tt)), .val (.int (3 : Int32)), .val (.int z2), .val (.int (z2 ^^^ tt)), s9]) rfl (q := 108) rfl ?_
    refine s_goto X hx (hb hby d1_108) (q1 := 27) (by decide) (by decide) ?_
    exact cut3 z0 z1 z2 z3 z4 _ _ _ _ _ _ (One.val rfl) (One.val rfl) hs9 X eT N sz K A_x0 q0 hc50 (hres.trans (by rw [show (CS 0 tt (CS 1 tt [z0, z1, z2, z3, z4])) = [z0, z1, z2, z3, z4] from by simp only [CS, List.getD_cons_zero, List.getD_cons_succ, List.set_cons_zero, List.set_cons_succ, if_neg hc50, if_neg q0]]))
  have cut1 : ∀ (z0 z1 z2 z3 z4 : Int32) (s7 s8 s9 : Slot) (T : State) (hh : Heap) (locs : List Loc), One s7 → One s8 → One s9 → Stand p l e ({ frames := 0, cells := 0, slots := 0, locals := 0 } : Room) s m #[(.ref x0), (.int (0 : Int32)), (.int (4 : Int32)), (.int x3)] below meth c T locs 0 0 → T.heap = hh → Fr n0 locs → n0 ≤ hh.size → Keep h0 hh [x0] → AI Z hh x0 .int [z0, z1, z2, z3, z4] → RES = (CS 0 tt (CS 1 tt (CS 2 tt (CS 0 tt (CS 1 tt (CS 0 tt [z0, z1, z2, z3, z4])))))) → Go p e below (Gl s below (fun v h L => v = none ∧ Fr n0 L ∧ Keep h0 h [x0] ∧ AI Z h x0 .int RES) 0 0) T m 27 #[.val (.ref x0), .val (.int (0 : Int32)), .val (.int (4 : Int32)), .val (.int x3), .val (.int tt), .val (.int (z0 ^^^ tt)), .val (.int (1 : Int32)), s7, s8, s9] [] := by
    intro z0 z1 z2 z3 z4 s7 s8 s9 T hh locs hs7 hs8 hs9 X eT N sz K A_x0  hres
    refine s_iload X hx (hb hby d1_27) rfl (q := 29) rfl ?_
    refine s_iloadN X hx (hb hby d1_29) rfl (q := 30) rfl ?_
    refine f_icmp_ge X hx (hb hby d1_30) (q1 := 111) (by decide) (by decide) (q := 33) rfl (fun hq => absurd (by decide : (1 : Int32) < (4 : Int32)) hq) (fun _ => ?_)
    refine s_aloadN X hx (hb hby d1_33) rfl rfl (q := 34) rfl ?_
    refine s_iload X hx (hb hby d1_34) rfl (q := 36) rfl ?_
    refine s_iaload X hx hZ eT A_x0 (by decide) (i := 1) rfl (x := z1) rfl (hb hby d1_36) (q := 37) rfl ?_
    refine s_istore X hx (hb hby d1_37) (L' := #[.val (.ref x0), .val (.int (0 : Int32)), .val (.int (4 : Int32)), .val (.int x3), .val (.int tt), .val (.int (z0 ^^^ tt)), .val (.int (1 : Int32)), .val (.int z1), s8, s9]) (by rcases hs7 with rfl | ⟨w', rfl, hw'⟩ <;> first | rfl | (cases w' <;> first | rfl | (simp [Value.category] at hw'))) (q := 39) rfl ?_
    refine s_iload X hx (hb hby d1_39) rfl (q := 41) rfl ?_
    refine s_iload X hx (hb hby d1_41) rfl (q := 43) rfl ?_
    refine s_ixor X hx (hb hby d1_43) (q := 44) rfl ?_
    refine s_istore X hx (hb hby d1_44) (L' := #[.val (.ref x0), .val (.int (0 : Int32)), .val (.int (4 : Int32)), .val (.int x3), .val (.int tt), .val (.int (z0 ^^^ tt)), .val (.int (1 : Int32)), .val (.int z1), .val (.int (z1 ^^^ tt)), s9]) (by rcases hs8 with rfl | ⟨w', rfl, hw'⟩ <;> first | rfl | (cases w' <;> first | rfl | (simp [Value.category] at hw'))) (q := 46) rfl ?_
    refine s_iload X hx (hb hby d1_46) rfl (q := 48) rfl ?_
    refine s_iload X hx (hb hby d1_48) rfl (q := 50) rfl ?_
    refine f_icmp_lt X hx (hb hby d1_50) (q1 := 60) (by decide) (by decide) (q := 53) rfl (fun hc50 => ?_) (fun hc50 => ?_)
    · refine s_iload X hx (hb hby d1_60) rfl (q := 62) rfl ?_
      refine s_iconst X hx (z := (1 : Int32)) (hb hby d1_62) rfl (q := 63) rfl ?_
      refine s_isub X hx (hb hby d1_63) (q := 64) rfl ?_
      show Go p e below _ T m 64 #[.val (.ref x0), .val (.int (0 : Int32)), .val (.int (4 : Int32)), .val (.int x3), .val (.int tt), .val (.int (z0 ^^^ tt)), .val (.int (1 : Int32)), .val (.int z1), .val (.int (z1 ^^^ tt)), s9] [(.int (0 : Int32))]
      refine s_istore X hx (hb hby d1_64) (L' := #[.val (.ref x0), .val (.int (0 : Int32)), .val (.int (4 : Int32)), .val (.int x3), .val (.int tt), .val (.int (z0 ^^^ tt)), .val (.int (1 : Int32)), .val (.int z1), .val (.int (z1 ^^^ tt)), .val (.int (0 : Int32))]) (by rcases hs9 with rfl | ⟨w', rfl, hw'⟩ <;> first | rfl | (cases w' <;> first | rfl | (simp [Value.category] at hw'))) (q := 66) rfl ?_
      refine s_aloadN X hx (hb hby d1_66) rfl rfl (q := 67) rfl ?_
      refine s_iload X hx (hb hby d1_67) rfl (q := 69) rfl ?_
      refine s_iconst X hx (z := (1 : Int32)) (hb hby d1_69) rfl (q := 70) rfl ?_
      refine s_iadd X hx (hb hby d1_70) (q := 71) rfl ?_
      show Go p e below _ T m 71 #[.val (.ref x0), .val (.int (0 : Int32)), .val (.int (4 : Int32)), .val (.int x3), .val (.int tt), .val (.int (z0 ^^^ tt)), .val (.int (1 : Int32)), .val (.int z1), .val (.int (z1 ^^^ tt)), .val (.int (0 : Int32))] [(.int (1 : Int32)), (.ref x0)]
      refine s_aloadN X hx (hb hby d1_71) rfl rfl (q := 72) rfl ?_
      refine s_iload X hx (hb hby d1_72) rfl (q := 74) rfl ?_
      refine s_iaload X hx hZ eT A_x0 (by decide) (i := 0) rfl (x := z0) rfl (hb hby d1_74) (q := 75) rfl ?_
      refine s_iastore X hx hZ eT A_x0 N g_x0 (by decide) (i := 1) rfl (Nat.le_of_ble_eq_true rfl) (ys := [z0, z0, z2, z3, z4]) rfl (hb hby d1_75) (q := 76) rfl ?_
      intro T h11 _ X N eT W A_x0'
      have K := K.wr W (Or.inl (List.mem_of_getElem? (i := 0) rfl))
      have sz : n0 ≤ h11.size := by rw [W.size]; exact sz
      have A_x0 := A_x0'
      refine s_iinc X hx (w := (-1 : Int32)) (hb hby d1_76) rfl rfl (L' := #[.val (.ref x0), .val (.int (0 : Int32)), .val (.int (4 : Int32)), .val (.int x3), .val (.int tt), .val (.int (z0 ^^^ tt)), .val (.int (1 : Int32)), .val (.int z1), .val (.int (z1 ^^^ tt)), .val (.int (-1 : Int32))]) rfl (q := 79) rfl ?_
      refine s_iload X hx (hb hby d1_79) rfl (q := 81) rfl ?_
      refine s_iloadN X hx (hb hby d1_81) rfl (q := 82) rfl ?_
      refine f_icmp_lt X hx (hb hby d1_82) (q1 := 97) (by decide) (by decide) (q := 85) rfl (fun _ => ?_) (fun hq => absurd (by decide : (-1 : Int32) < (0 : Int32)) hq)
      refine s_aloadN X hx (hb hby d1_97) rfl rfl (q := 98) rfl ?_
      refine s_iload X hx (hb hby d1_98) rfl (q := 100) rfl ?_
      refine s_iconst X hx (z := (1 : Int32)) (hb hby d1_100) rfl (q := 101) rfl ?_
      refine s_iadd X hx (hb hby d1_101) (q := 102) rfl ?_
      show Go p e below _ T m 102 #[.val (.ref x0), .val (.int (0 : Int32)), .val (.int (4 : Int32)), .val (.int x3), .val (.int tt), .val (.int (z0 ^^^ tt)), .val (.int (1 : Int32)), .val (.int z1), .val (.int (z1 ^^^ tt)), .val (.int (-1 : Int32))] [(.int (0 : Int32)), (.ref x0)]
      refine s_iload X hx (hb hby d1_102) rfl (q := 104) rfl ?_
      refine s_iastore X hx hZ eT A_x0 N g_x0 (by decide) (i := 0) rfl (Nat.le_of_ble_eq_true rfl) (ys := [z1, z0, z2, z3, z4]) rfl (hb hby d1_104) (q := 105) rfl ?_
      intro T h12 _ X N eT W A_x0'
      have K := K.wr W (Or.inl (List.mem_of_getElem? (i := 0) rfl))
      have sz : n0 ≤ h12.size := by rw [W.size]; exact sz
      have A_x0 := A_x0'
      refine s_iinc X hx (w := (2 : Int32)) (hb hby d1_105) rfl rfl (L' := #[.val (.ref x0), .val (.int (0 : Int32)), .val (.int (4 : Int32)), .val (.int x3), .val (.int tt), .val (.int (z0 ^^^ tt)), .val (.int (2 : Int32)), .val (.int z1), .val (.int (z1 ^^^ tt)), .val (.int (-1 : Int32))]) rfl (q := 108) rfl ?_
      refine s_goto X hx (hb hby d1_108) (q1 := 27) (by decide) (by decide) ?_
      exact cut2 z1 z0 z2 z3 z4 _ _ _ _ _ _ (One.val rfl) (One.val rfl) (One.val rfl) X eT N sz K A_x0 (own_asym hc50) (hres.trans (by rw [show (CS 0 tt [z0, z1, z2, z3, z4]) = [z1, z0, z2, z3, z4] from by simp only [CS, List.getD_cons_zero, List.getD_cons_succ, List.set_cons_zero, List.set_cons_succ, if_pos hc50]]))
    refine s_iload X hx (hb hby d1_53) rfl (q := 55) rfl ?_
    refine s_istore X hx (hb hby d1_55) (L' := #[.val (.ref x0), .val (.int (0 : Int32)), .val (.int (4 : Int32)), .val (.int x3), .val (.int tt), .val (.int (z1 ^^^ tt)), .val (.int (1 : Int32)), .val (.int z1), .val (.int (z1 ^^^ tt)), s9]) rfl (q := 57) rfl ?_
    refine s_goto X hx (hb hby d1_57) (q1 := 105) (by decide) (by decide) ?_
    refine s_iinc X hx (w := (2 : Int32)) (hb hby d1_105) rfl rfl (L' := #[.val (.ref x0), .val (.int (0 : Int32)), .val (.int (4 : Int32)), .val (.int x3), .val (.int tt), .val (.int (z1 ^^^ tt)), .val (.int (2 : Int32)), .val (.int z1), .val (.int (z1 ^^^ tt)), s9]) rfl (q := 108) rfl ?_
    refine s_goto X hx (hb hby d1_108) (q1 := 27) (by decide) (by decide) ?_
    exact cut2 z0 z1 z2 z3 z4 _ _ _ _ _ _ (One.val rfl) (One.val rfl) hs9 X eT N sz K A_x0 hc50 (hres.trans (by rw [show (CS 0 tt [z0, z1, z2, z3, z4]) = [z0, z1, z2, z3, z4] from by simp only [CS, List.getD_cons_zero, List.getD_cons_succ, List.set_cons_zero, List.set_cons_succ, if_neg hc50]]))
  exact cut1 y0 y1 y2 y3 y4 _ _ _ _ _ _ One.u One.u One.u X eT N sz K A_x0 (by rw [htt] at hRES; exact hRES)
set_option maxRecDepth 65536 in
set_option maxHeartbeats 40000000 in
theorem rm1_05 (l : Launch) (Z : State) (a0 : Array Value) (hw : ∀ d ∈ tables_1, d.before a0 Z = true) (ws : List Jvm.Cond) (x0 : Addr) (x3 : Int32) (y0 y1 y2 y3 y4 : Int32) (RES : List Int32) (h0 : Heap) (n0 : Nat) (sz : n0 ≤ h0.size) (A_x0 : AI Z h0 x0 .int [y0, y1, y2, y3, y4]) (g_x0 : n0 ≤ x0) (hRES : RES = (CS 0 (x3 ^^^ (-2147483648 : Int32)) (CS 1 (x3 ^^^ (-2147483648 : Int32)) (CS 2 (x3 ^^^ (-2147483648 : Int32)) (CS 3 (x3 ^^^ (-2147483648 : Int32)) (CS 0 (x3 ^^^ (-2147483648 : Int32)) (CS 1 (x3 ^^^ (-2147483648 : Int32)) (CS 2 (x3 ^^^ (-2147483648 : Int32)) (CS 0 (x3 ^^^ (-2147483648 : Int32)) (CS 1 (x3 ^^^ (-2147483648 : Int32)) (CS 0 (x3 ^^^ (-2147483648 : Int32)) [y0, y1, y2, y3, y4]))))))))))) :
    Ctr l (⟨"com/example/digitwise/digitwise/internal/IntRadixSort", "insertionSort", "([IIII)V"⟩ : MethodName) prog_7_method_52_code 10 none ws ({ frames := 0, cells := 0, slots := 0, locals := 0 } : Room) Z #[(.ref x0), (.int (0 : Int32)), (.int (5 : Int32)), (.int x3)] h0 (fun v h L => v = none ∧ Fr n0 L ∧ Keep h0 h [x0] ∧ AI Z h x0 .int RES) 0 0 := by
  refine Ctr.mk pn_1 ?_
  intro p e s m below meth c T hx hby hml hown hnm hlk hret hZ X eT
  have N := Fr.nil n0
  refine enter (ef_1 m x0 (0 : Int32) (5 : Int32) x3) ?_
  have K := Keep.refl h0 [x0]
  revert hRES
  intro hRES
  refine s_iloadN X hx (hb hby d1_0) rfl (q := 1) rfl ?_
  refine s_iloadN X hx (hb hby d1_1) rfl (q := 2) rfl ?_
  refine s_isub X hx (hb hby d1_2) (q := 3) rfl ?_
  show Go p e below _ T m 3 #[.val (.ref x0), .val (.int (0 : Int32)), .val (.int (5 : Int32)), .val (.int x3), .unset, .unset, .unset, .unset, .unset, .unset] [(.int (5 : Int32))]
  refine s_iconst X hx (z := (2 : Int32)) (hb hby d1_3) rfl (q := 4) rfl ?_
  refine f_icmp_ge X hx (hb hby d1_4) (q1 := 8) (by decide) (by decide) (q := 7) rfl (fun _ => ?_) (fun hq => absurd hq (by decide : ¬ (5 : Int32) < (2 : Int32)))
  refine s_iloadN X hx (hb hby d1_8) rfl (q := 9) rfl ?_
  refine s_ldc X hx hZ hown (hw _ (List.mem_of_getElem? (i := 10) rfl)) (hb hby d1_9) (q := 11) rfl ?_
  refine s_ixor X hx (hb hby d1_11) (q := 12) rfl ?_
  generalize htt : (x3 ^^^ (-2147483648 : Int32)) = tt
  refine s_istore X hx (hb hby d1_12) (L' := #[.val (.ref x0), .val (.int (0 : Int32)), .val (.int (5 : Int32)), .val (.int x3), .val (.int tt), .unset, .unset, .unset, .unset, .unset]) rfl (q := 14) rfl ?_
  refine s_aloadN X hx (hb hby d1_14) rfl rfl (q := 15) rfl ?_
  refine s_iloadN X hx (hb hby d1_15) rfl (q := 16) rfl ?_
  refine s_iaload X hx hZ eT A_x0 (by decide) (i := 0) rfl (x := y0) rfl (hb hby d1_16) (q := 17) rfl ?_
  refine s_iload X hx (hb hby d1_17) rfl (q := 19) rfl ?_
  refine s_ixor X hx (hb hby d1_19) (q := 20) rfl ?_
  refine s_istore X hx (hb hby d1_20) (L' := #[.val (.ref x0), .val (.int (0 : Int32)), .val (.int (5 : Int32)), .val (.int x3), .val (.int tt), .val (.int (y0 ^^^ tt)), .unset, .unset, .unset, .unset]) rfl (q := 22) rfl ?_
  refine s_iloadN X hx (hb hby d1_22) rfl (q := 23) rfl ?_
  refine s_iconst X hx (z := (1 : Int32)) (hb hby d1_23) rfl (q := 24) rfl ?_
  refine s_iadd X hx (hb hby d1_24) (q := 25) rfl ?_
  show Go p e below _ T m 25 #[.val (.ref x0), .val (.int (0 : Int32)), .val (.int (5 : Int32)), .val (.int x3), .val (.int tt), .val (.int (y0 ^^^ tt)), .unset, .unset, .unset, .unset] [(.int (1 : Int32))]
  refine s_istore X hx (hb hby d1_25) (L' := #[.val (.ref x0), .val (.int (0 : Int32)), .val (.int (5 : Int32)), .val (.int x3), .val (.int tt), .val (.int (y0 ^^^ tt)), .val (.int (1 : Int32)), .unset, .unset, .unset]) rfl (q := 27) rfl ?_
  have cut5 : ∀ (z0 z1 z2 z3 z4 : Int32) (s7 s8 s9 : Slot) (T : State) (hh : Heap) (locs : List Loc), One s7 → One s8 → One s9 → Stand p l e ({ frames := 0, cells := 0, slots := 0, locals := 0 } : Room) s m #[(.ref x0), (.int (0 : Int32)), (.int (5 : Int32)), (.int x3)] below meth c T locs 0 0 → T.heap = hh → Fr n0 locs → n0 ≤ hh.size → Keep h0 hh [x0] → AI Z hh x0 .int [z0, z1, z2, z3, z4] → ¬ (z1 ^^^ tt) < (z0 ^^^ tt) → ¬ (z2 ^^^ tt) < (z1 ^^^ tt) → ¬ (z3 ^^^ tt) < (z2 ^^^ tt) → ¬ (z4 ^^^ tt) < (z3 ^^^ tt) → RES = [z0, z1, z2, z3, z4] → Go p e below (Gl s below (fun v h L => v = none ∧ Fr n0 L ∧ Keep h0 h [x0] ∧ AI Z h x0 .int RES) 0 0) T m 27 #[.val (.ref x0), .val (.int (0 : Int32)), .val (.int (5 : Int32)), .val (.int x3), .val (.int tt), .val (.int (z4 ^^^ tt)), .val (.int (5 : Int32)), s7, s8, s9] [] := by
    intro z0 z1 z2 z3 z4 s7 s8 s9 T hh locs hs7 hs8 hs9 X eT N sz K A_x0 q0 q1 q2 q3 hres
    refine s_iload X hx (hb hby d1_27) rfl (q := 29) rfl ?_
    refine s_iloadN X hx (hb hby d1_29) rfl (q := 30) rfl ?_
    refine f_icmp_ge X hx (hb hby d1_30) (q1 := 111) (by decide) (by decide) (q := 33) rfl (fun _ => ?_) (fun hq => absurd hq (by decide : ¬ (5 : Int32) < (5 : Int32)))
    exact leafV X hx hlk hret (hb hby d1_111) (by decide) (by decide) (by rw [eT]; exact ⟨rfl, N, K, hres ▸ A_x0⟩)
  have cut4 : ∀ (z0 z1 z2 z3 z4 : Int32) (s7 s8 s9 : Slot) (T : State) (hh : Heap) (locs : List Loc), One s7 → One s8 → One s9 → Stand p l e ({ frames := 0, cells := 0, slots := 0, locals := 0 } : Room) s m #[(.ref x0), (.int (0 : Int32)), (.int (5 : Int32)), (.int x3)] below meth c T locs 0 0 → T.heap = hh → Fr n0 locs → n0 ≤ hh.size → Keep h0 hh [x0] → AI Z hh x0 .int [z0, z1, z2, z3, z4] → ¬ (z1 ^^^ tt) < (z0 ^^^ tt) → ¬ (z2 ^^^ tt) < (z1 ^^^ tt) → ¬ (z3 ^^^ tt) < (z2 ^^^ tt) → RES = (CS 0 tt (CS 1 tt (CS 2 tt (CS 3 tt [z0, z1, z2, z3, z4])))) → Go p e below (Gl s below (fun v h L => v = none ∧ Fr n0 L ∧ Keep h0 h [x0] ∧ AI Z h x0 .int RES) 0 0) T m 27 #[.val (.ref x0), .val (.int (0 : Int32)), .val (.int (5 : Int32)), .val (.int x3), .val (.int tt), .val (.int (z3 ^^^ tt)), .val (.int (4 : Int32)), s7, s8, s9] [] := by
    intro z0 z1 z2 z3 z4 s7 s8 s9 T hh locs hs7 hs8 hs9 X eT N sz K A_x0 q0 q1 q2 hres
    refine s_iload X hx (hb hby d1_27) rfl (q := 29) rfl ?_
    refine s_iloadN X hx (hb hby d1_29) rfl (q := 30) rfl ?_
    refine f_icmp_ge X hx (hb hby d1_30) (q1 := 111) (by decide) (by decide) (q := 33) rfl (fun hq => absurd (by decide : (4 : Int32) < (5 : Int32)) hq) (fun _ => ?_)
    refine s_aloadN X hx (hb hby d1_33) rfl rfl (q := 34) rfl ?_
    refine s_iload X hx (hb hby d1_34) rfl (q := 36) rfl ?_
    refine s_iaload X hx hZ eT A_x0 (by decide) (i := 4) rfl (x := z4) rfl (hb hby d1_36) (q := 37) rfl ?_
    refine s_istore X hx (hb hby d1_37) (L' := #[.val (.ref x0), .val (.int (0 : Int32)), .val (.int (5 : Int32)), .val (.int x3), .val (.int tt), .val (.int (z3 ^^^ tt)), .val (.int (4 : Int32)), .val (.int z4), s8, s9]) (by rcases hs7 with rfl | ⟨w', rfl, hw'⟩ <;> first | rfl | (cases w' <;> first | rfl | (simp [Value.category] at hw'))) (q := 39) rfl ?_
    refine s_iload X hx (hb hby d1_39) rfl (q := 41) rfl ?_
    refine s_iload X hx (hb hby d1_41) rfl (q := 43) rfl ?_
    refine s_ixor X hx (hb hby d1_43) (q := 44) rfl ?_
    refine s_istore X hx (hb hby d1_44) (L' := #[.val (.ref x0), .val (.int (0 : Int32)), .val (.int (5 : Int32)), .val (.int x3), .val (.int tt), .val (.int (z3 ^^^ tt)), .val (.int (4 : Int32)), .val (.int z4), .val (.int (z4 ^^^ tt)), s9]) (by rcases hs8 with rfl | ⟨w', rfl, hw'⟩ <;> first | rfl | (cases w' <;> first | rfl | (simp [Value.category] at hw'))) (q := 46) rfl ?_
    refine s_iload X hx (hb hby d1_46) rfl (q := 48) rfl ?_
    refine s_iload X hx (hb hby d1_48) rfl (q := 50) rfl ?_
    refine f_icmp_lt X hx (hb hby d1_50) (q1 := 60) (by decide) (by decide) (q := 53) rfl (fun hc50 => ?_) (fun hc50 => ?_)
    · refine s_iload X hx (hb hby d1_60) rfl (q := 62) rfl ?_
      refine s_iconst X hx (z := (1 : Int32)) (hb hby d1_62) rfl (q := 63) rfl ?_
      refine s_isub X hx (hb hby d1_63) (q := 64) rfl ?_
      show Go p e below _ T m 64 #[.val (.ref x0), .val (.int (0 : Int32)), .val (.int (5 : Int32)), .val (.int x3), .val (.int tt), .val (.int (z3 ^^^ tt)), .val (.int (4 : Int32)), .val (.int z4), .val (.int (z4 ^^^ tt)), s9] [(.int (3 : Int32))]
      refine s_istore X hx (hb hby d1_64) (L' := #[.val (.ref x0), .val (.int (0 : Int32)), .val (.int (5 : Int32)), .val (.int x3), .val (.int tt), .val (.int (z3 ^^^ tt)), .val (.int (4 : Int32)), .val (.int z4), .val (.int (z4 ^^^ tt)), .val (.int (3 : Int32))]) (by rcases hs9 with rfl | ⟨w', rfl, hw'⟩ <;> first | rfl | (cases w' <;> first | rfl | (simp [Value.category] at hw'))) (q := 66) rfl ?_
      refine s_aloadN X hx (hb hby d1_66) rfl rfl (q := 67) rfl ?_
      refine s_iload X hx (hb hby d1_67) rfl (q := 69) rfl ?_
      refine s_iconst X hx (z := (1 : Int32)) (hb hby d1_69) rfl (q := 70) rfl ?_
      refine s_iadd X hx (hb hby d1_70) (q := 71) rfl ?_
      show Go p e below _ T m 71 #[.val (.ref x0), .val (.int (0 : Int32)), .val (.int (5 : Int32)), .val (.int x3), .val (.int tt), .val (.int (z3 ^^^ tt)), .val (.int (4 : Int32)), .val (.int z4), .val (.int (z4 ^^^ tt)), .val (.int (3 : Int32))] [(.int (4 : Int32)), (.ref x0)]
      refine s_aloadN X hx (hb hby d1_71) rfl rfl (q := 72) rfl ?_
      refine s_iload X hx (hb hby d1_72) rfl (q := 74) rfl ?_
      refine s_iaload X hx hZ eT A_x0 (by decide) (i := 3) rfl (x := z3) rfl (hb hby d1_74) (q := 75) rfl ?_
      refine s_iastore X hx hZ eT A_x0 N g_x0 (by decide) (i := 4) rfl (Nat.le_of_ble_eq_true rfl) (ys := [z0, z1, z2, z3, z3]) rfl (hb hby d1_75) (q := 76) rfl ?_
      intro T h1 _ X N eT W A_x0'
      have K := K.wr W (Or.inl (List.mem_of_getElem? (i := 0) rfl))
      have sz : n0 ≤ h1.size := by rw [W.size]; exact sz
      have A_x0 := A_x0'
      refine s_iinc X hx (w := (2 : Int32)) (hb hby d1_76) rfl rfl (L' := #[.val (.ref x0), .val (.int (0 : Int32)), .val (.int (5 : Int32)), .val (.int x3), .val (.int tt), .val (.int (z3 ^^^ tt)), .val (.int (4 : Int32)), .val (.int z4), .val (.int (z4 ^^^ tt)), .val (.int (2 : Int32))]) rfl (q := 79) rfl ?_
      refine s_iload X hx (hb hby d1_79) rfl (q := 81) rfl ?_
      refine s_iloadN X hx (hb hby d1_81) rfl (q := 82) rfl ?_
      refine f_icmp_lt X hx (hb hby d1_82) (q1 := 97) (by decide) (by decide) (q := 85) rfl (fun hq => absurd hq (by decide : ¬ (2 : Int32) < (0 : Int32))) (fun _ => ?_)
      refine s_aloadN X hx (hb hby d1_85) rfl rfl (q := 86) rfl ?_
      refine s_iload X hx (hb hby d1_86) rfl (q := 88) rfl ?_
      refine s_iaload X hx hZ eT A_x0 (by decide) (i := 2) rfl (x := z2) rfl (hb hby d1_88) (q := 89) rfl ?_
      refine s_iload X hx (hb hby d1_89) rfl (q := 91) rfl ?_
      refine s_ixor X hx (hb hby d1_91) (q := 92) rfl ?_
      refine s_iload X hx (hb hby d1_92) rfl (q := 94) rfl ?_
      refine f_icmp_gt X hx (hb hby d1_94) (q1 := 66) (by decide) (by decide) (q := 97) rfl (fun hc94 => ?_) (fun hc94 => ?_)
      · refine s_aloadN X hx (hb hby d1_66) rfl rfl (q := 67) rfl ?_
        refine s_iload X hx (hb hby d1_67) rfl (q := 69) rfl ?_
        refine s_iconst X hx (z := (1 : Int32)) (hb hby d1_69) rfl (q := 70) rfl ?_
        refine s_iadd X hx (hb hby d1_70) (q := 71) rfl ?_
        show Go p e below _ T m 71 #[.val (.ref x0), .val (.int (0 : Int32)), .val (.int (5 : Int32)), .val (.int x3), .val (.int tt), .val (.int (z3 ^^^ tt)), .val (.int (4 : Int32)), .val (.int z4), .val (.int (z4 ^^^ tt)), .val (.int (2 : Int32))] [(.int (3 : Int32)), (.ref x0)]
        refine s_aloadN X hx (hb hby d1_71) rfl rfl (q := 72) rfl ?_
        refine s_iload X hx (hb hby d1_72) rfl (q := 74) rfl ?_
        refine s_iaload X hx hZ eT A_x0 (by decide) (i := 2) rfl (x := z2) rfl (hb hby d1_74) (q := 75) rfl ?_
        refine s_iastore X hx hZ eT A_x0 N g_x0 (by decide) (i := 3) rfl (Nat.le_of_ble_eq_true rfl) (ys := [z0, z1, z2, z2, z3]) rfl (hb hby d1_75) (q := 76) rfl ?_
        intro T h2 _ X N eT W A_x0'
        have K := K.wr W (Or.inl (List.mem_of_getElem? (i := 0) rfl))
        have sz : n0 ≤ h2.size := by rw [W.size]; exact sz
        have A_x0 := A_x0'
        refine s_iinc X hx (w := (1 : Int32)) (hb hby d1_76) rfl rfl (L' := #[.val (.ref x0), .val (.int (0 : Int32)), .val (.int (5 : Int32)), .val (.int x3), .val (.int tt), .val (.int (z3 ^^^ tt)), .val (.int (4 : Int32)), .val (.int z4), .val (.int (z4 ^^^ tt)), .val (.int (1 : Int32))]) rfl (q := 79) rfl ?_
        refine s_iload X hx (hb hby d1_79) rfl (q := 81) rfl ?_
        refine s_iloadN X hx (hb hby d1_81) rfl (q := 82) rfl ?_
        refine f_icmp_lt X hx (hb hby d1_82) (q1 := 97) (by decide) (by decide) (q := 85) rfl (fun hq => absurd hq (by decide : ¬ (1 : Int32) < (0 : Int32))) (fun _ => ?_)
        refine s_aloadN X hx (hb hby d1_85) rfl rfl (q := 86) rfl ?_
        refine s_iload X hx (hb hby d1_86) rfl (q := 88) rfl ?_
        refine s_iaload X hx hZ eT A_x0 (by decide) (i := 1) rfl (x := z1) rfl (hb hby d1_88) (q := 89) rfl ?_
        refine s_iload X hx (hb hby d1_89) rfl (q := 91) rfl ?_
        refine s_ixor X hx (hb hby d1_91) (q := 92) rfl ?_
        refine s_iload X hx (hb hby d1_92) rfl (q := 94) rfl ?_
        refine f_icmp_gt X hx (hb hby d1_94) (q1 := 66) (by decide) (by decide) (q := 97) rfl (fun hc94_1 => ?_) (fun hc94_1 => ?_)
        · refine s_aloadN X hx (hb hby d1_66) rfl rfl (q := 67) rfl ?_
          refine s_iload X hx (hb hby d1_67) rfl (q := 69) rfl ?_
          refine s_iconst X hx (z := (1 : Int32)) (hb hby d1_69) rfl (q := 70) rfl ?_
          refine s_iadd X hx (hb hby d1_70) (q := 71) rfl ?_
          show Go p e below _ T m 71 #[.val (.ref x0), .val (.int (0 : Int32)), .val (.int (5 : Int32)), .val (.int x3), .val (.int tt), .val (.int (z3 ^^^ tt)), .val (.int (4 : Int32)), .val (.int z4), .val (.int (z4 ^^^ tt)), .val (.int (1 : Int32))] [(.int (2 : Int32)), (.ref x0)]
          refine s_aloadN X hx (hb hby d1_71) rfl rfl (q := 72) rfl ?_
          refine s_iload X hx (hb hby d1_72) rfl (q := 74) rfl ?_
          refine s_iaload X hx hZ eT A_x0 (by decide) (i := 1) rfl (x := z1) rfl (hb hby d1_74) (q := 75) rfl ?_
          refine s_iastore X hx hZ eT A_x0 N g_x0 (by decide) (i := 2) rfl (Nat.le_of_ble_eq_true rfl) (ys := [z0, z1, z1, z2, z3]) rfl (hb hby d1_75) (q := 76) rfl ?_
          intro T h3 _ X N eT W A_x0'
          have K := K.wr W (Or.inl (List.mem_of_getElem? (i := 0) rfl))
          have sz : n0 ≤ h3.size := by rw [W.size]; exact sz
          have A_x0 := A_x0'
          refine s_iinc X hx (w := (0 : Int32)) (hb hby d1_76) rfl rfl (L' := #[.val (.ref x0), .val (.int (0 : Int32)), .val (.int (5 : Int32)), .val (.int x3), .val (.int tt), .val (.int (z3 ^^^ tt)), .val (.int (4 : Int32)), .val (.int z4), .val (.int (z4 ^^^ tt)), .val (.int (0 : Int32))]) rfl (q := 79) rfl ?_
          refine s_iload X hx (hb hby d1_79) rfl (q := 81) rfl ?_
          refine s_iloadN X hx (hb hby d1_81) rfl (q := 82) rfl ?_
          refine f_icmp_lt X hx (hb hby d1_82) (q1 := 97) (by decide) (by decide) (q := 85) rfl (fun hq => absurd hq (by decide : ¬ (0 : Int32) < (0 : Int32))) (fun _ => ?_)
          refine s_aloadN X hx (hb hby d1_85) rfl rfl (q := 86) rfl ?_
          refine s_iload X hx (hb hby d1_86) rfl (q := 88) rfl ?_
          refine s_iaload X hx hZ eT A_x0 (by decide) (i := 0) rfl (x := z0) rfl (hb hby d1_88) (q := 89) rfl ?_
          refine s_iload X hx (hb hby d1_89) rfl (q := 91) rfl ?_
          refine s_ixor X hx (hb hby d1_91) (q := 92) rfl ?_
          refine s_iload X hx (hb hby d1_92) rfl (q := 94) rfl ?_
          refine f_icmp_gt X hx (hb hby d1_94) (q1 := 66) (by decide) (by decide) (q := 97) rfl (fun hc94_2 => ?_) (fun hc94_2 => ?_)
          · refine s_aloadN X hx (hb hby d1_66) rfl rfl (q := 67) rfl ?_
            refine s_iload X hx (hb hby d1_67) rfl (q := 69) rfl ?_
            refine s_iconst X hx (z := (1 : Int32)) (hb hby d1_69) rfl (q := 70) rfl ?_
            refine s_iadd X hx (hb hby d1_70) (q := 71) rfl ?_
            show Go p e below _ T m 71 #[.val (.ref x0), .val (.int (0 : Int32)), .val (.int (5 : Int32)), .val (.int x3), .val (.int tt), .val (.int (z3 ^^^ tt)), .val (.int (4 : Int32)), .val (.int z4), .val (.int (z4 ^^^ tt)), .val (.int (0 : Int32))] [(.int (1 : Int32)), (.ref x0)]
            refine s_aloadN X hx (hb hby d1_71) rfl rfl (q := 72) rfl ?_
            refine s_iload X hx (hb hby d1_72) rfl (q := 74) rfl ?_
            refine s_iaload X hx hZ eT A_x0 (by decide) (i := 0) rfl (x := z0) rfl (hb hby d1_74) (q := 75) rfl ?_
            refine s_iastore X hx hZ eT A_x0 N g_x0 (by decide) (i := 1) rfl (Nat.le_of_ble_eq_true rfl) (ys := [z0, z0, z1, z2, z3]) rfl (hb hby d1_75) (q := 76) rfl ?_
            intro T h4 _ X N eT W A_x0'
            have K := K.wr W (Or.inl (List.mem_of_getElem? (i := 0) rfl))
            have sz : n0 ≤ h4.size := by rw [W.size]; exact sz
            have A_x0 := A_x0'
            refine s_iinc X hx (w := (-1 : Int32)) (hb hby d1_76) rfl rfl (L' := #[.val (.ref x0), .val (.int (0 : Int32)), .val (.int (5 : Int32)), .val (.int x3), .val (.int tt), .val (.int (z3 ^^^ tt)), .val (.int (4 : Int32)), .val (.int z4), .val (.int (z4 ^^^ tt)), .val (.int (-1 : Int32))]) rfl (q := 79) rfl ?_
            refine s_iload X hx (hb hby d1_79) rfl (q := 81) rfl ?_
            refine s_iloadN X hx (hb hby d1_81) rfl (q := 82) rfl ?_
            refine f_icmp_lt X hx (hb hby d1_82) (q1 := 97) (by decide) (by decide) (q := 85) rfl (fun _ => ?_) (fun hq => absurd (by decide : (-1 : Int32) < (0 : Int32)) hq)
            refine s_aloadN X hx (hb hby d1_97) rfl rfl (q := 98) rfl ?_
            refine s_iload X hx (hb hby d1_98) rfl (q := 100) rfl ?_
            refine s_iconst X hx (z := (1 : Int32)) (hb hby d1_100) rfl (q := 101) rfl ?_
            refine s_iadd X hx (hb hby d1_101) (q := 102) rfl ?_
            show Go p e below _ T m 102 #[.val (.ref x0), .val (.int (0 : Int32)), .val (.int (5 : Int32)), .val (.int x3), .val (.int tt), .val (.int (z3 ^^^ tt)), .val (.int (4 : Int32)), .val (.int z4), .val (.int (z4 ^^^ tt)), .val (.int (-1 : Int32))] [(.int (0 : Int32)), (.ref x0)]
            refine s_iload X hx (hb hby d1_102) rfl (q := 104) rfl ?_
            refine s_iastore X hx hZ eT A_x0 N g_x0 (by decide) (i := 0) rfl (Nat.le_of_ble_eq_true rfl) (ys := [z4, z0, z1, z2, z3]) rfl (hb hby d1_104) (q := 105) rfl ?_
            intro T h5 _ X N eT W A_x0'
            have K := K.wr W (Or.inl (List.mem_of_getElem? (i := 0) rfl))
            have sz : n0 ≤ h5.size := by rw [W.size]; exact sz
            have A_x0 := A_x0'
            refine s_iinc X hx (w := (5 : Int32)) (hb hby d1_105) rfl rfl (L' := #[.val (.ref x0), .val (.int (0 : Int32)), .val (.int (5 : Int32)), .val (.int x3), .val (.int tt), .val (.int (z3 ^^^ tt)), .val (.int (5 : Int32)), .val (.int z4), .val (.int (z4 ^^^ tt)), .val (.int (-1 : Int32))]) rfl (q := 108) rfl ?_
            refine s_goto X hx (hb hby d1_108) (q1 := 27) (by decide) (by decide) ?_
            exact cut5 z4 z0 z1 z2 z3 _ _ _ _ _ _ (One.val rfl) (One.val rfl) (One.val rfl) X eT N sz K A_x0 (own_asym hc94_2) q0 q1 q2 (hres.trans (by rw [show (CS 0 tt (CS 1 tt (CS 2 tt (CS 3 tt [z0, z1, z2, z3, z4])))) = [z4, z0, z1, z2, z3] from by simp only [CS, List.getD_cons_zero, List.getD_cons_succ, List.set_cons_zero, List.set_cons_succ, if_pos hc50, if_pos hc94, if_pos hc94_1, if_pos hc94_2]]))
          refine s_aloadN X hx (hb hby d1_97) rfl rfl (q := 98) rfl ?_
          refine s_iload X hx (hb hby d1_98) rfl (q := 100) rfl ?_
          refine s_iconst X hx (z := (1 : Int32)) (hb hby d1_100) rfl (q := 101) rfl ?_
          refine s_iadd X hx (hb hby d1_101) (q := 102) rfl ?_
          show Go p e below _ T m 102 #[.val (.ref x0), .val (.int (0 : Int32)), .val (.int (5 : Int32)), .val (.int x3), .val (.int tt), .val (.int (z3 ^^^ tt)), .val (.int (4 : Int32)), .val (.int z4), .val (.int (z4 ^^^ tt)), .val (.int (0 : Int32))] [(.int (1 : Int32)), (.ref x0)]
          refine s_iload X hx (hb hby d1_102) rfl (q := 104) rfl ?_
          refine s_iastore X hx hZ eT A_x0 N g_x0 (by decide) (i := 1) rfl (Nat.le_of_ble_eq_true rfl) (ys := [z0, z4, z1, z2, z3]) rfl (hb hby d1_104) (q := 105) rfl ?_
          intro T h6 _ X N eT W A_x0'
          have K := K.wr W (Or.inl (List.mem_of_getElem? (i := 0) rfl))
          have sz : n0 ≤ h6.size := by rw [W.size]; exact sz
          have A_x0 := A_x0'
          refine s_iinc X hx (w := (5 : Int32)) (hb hby d1_105) rfl rfl (L' := #[.val (.ref x0), .val (.int (0 : Int32)), .val (.int (5 : Int32)), .val (.int x3), .val (.int tt), .val (.int (z3 ^^^ tt)), .val (.int (5 : Int32)), .val (.int z4), .val (.int (z4 ^^^ tt)), .val (.int (0 : Int32))]) rfl (q := 108) rfl ?_
          refine s_goto X hx (hb hby d1_108) (q1 := 27) (by decide) (by decide) ?_
          exact cut5 z0 z4 z1 z2 z3 _ _ _ _ _ _ (One.val rfl) (One.val rfl) (One.val rfl) X eT N sz K A_x0 hc94_2 (own_asym hc94_1) q1 q2 (hres.trans (by rw [show (CS 0 tt (CS 1 tt (CS 2 tt (CS 3 tt [z0, z1, z2, z3, z4])))) = [z0, z4, z1, z2, z3] from by simp only [CS, List.getD_cons_zero, List.getD_cons_succ, List.set_cons_zero, List.set_cons_succ, if_pos hc50, if_pos hc94, if_pos hc94_1, if_neg hc94_2]]))
        refine s_aloadN X hx (hb hby d1_97) rfl rfl (q := 98) rfl ?_
        refine s_iload X hx (hb hby d1_98) rfl (q := 100) rfl ?_
        refine s_iconst X hx (z := (1 : Int32)) (hb hby d1_100) rfl (q := 101) rfl ?_
        refine s_iadd X hx (hb hby d1_101) (q := 102) rfl ?_
        show Go p e below _ T m 102 #[.val (.ref x0), .val (.int (0 : Int32)), .val (.int (5 : Int32)), .val (.int x3), .val (.int tt), .val (.int (z3 ^^^ tt)), .val (.int (4 : Int32)), .val (.int z4), .val (.int (z4 ^^^ tt)), .val (.int (1 : Int32))] [(.int (2 : Int32)), (.ref x0)]
        refine s_iload X hx (hb hby d1_102) rfl (q := 104) rfl ?_
        refine s_iastore X hx hZ eT A_x0 N g_x0 (by decide) (i := 2) rfl (Nat.le_of_ble_eq_true rfl) (ys := [z0, z1, z4, z2, z3]) rfl (hb hby d1_104) (q := 105) rfl ?_
        intro T h7 _ X N eT W A_x0'
        have K := K.wr W (Or.inl (List.mem_of_getElem? (i := 0) rfl))
        have sz : n0 ≤ h7.size := by rw [W.size]; exact sz
        have A_x0 := A_x0'
        refine s_iinc X hx (w := (5 : Int32)) (hb hby d1_105) rfl rfl (L' := #[.val (.ref x0), .val (.int (0 : Int32)), .val (.int (5 : Int32)), .val (.int x3), .val (.int tt), .val (.int (z3 ^^^ tt)), .val (.int (5 : Int32)), .val (.int z4), .val (.int (z4 ^^^ tt)), .val (.int (1 : Int32))]) rfl (q := 108) rfl ?_
        refine s_goto X hx (hb hby d1_108) (q1 := 27) (by decide) (by decide) ?_
        exact cut5 z0 z1 z4 z2 z3 _ _ _ _ _ _ (One.val rfl) (One.val rfl) (One.val rfl) X eT N sz K A_x0 q0 hc94_1 (own_asym hc94) q2 (hres.trans (by rw [show (CS 0 tt (CS 1 tt (CS 2 tt (CS 3 tt [z0, z1, z2, z3, z4])))) = [z0, z1, z4, z2, z3] from by simp only [CS, List.getD_cons_zero, List.getD_cons_succ, List.set_cons_zero, List.set_cons_succ, if_pos hc50, if_pos hc94, if_neg hc94_1, if_neg q0]]))
      refine s_aloadN X hx (hb hby d1_97) rfl rfl (q := 98) rfl ?_
      refine s_iload X hx (hb hby d1_98) rfl (q := 100) rfl ?_
      refine s_iconst X hx (z := (1 : Int32)) (hb hby d1_100) rfl (q := 101) rfl ?_
      refine s_iadd X hx (hb hby d1_101) (q := 102) rfl ?_
      show Go p e below _ T m 102 #[.val (.ref x0), .val (.int (0 : Int32)), .val (.int (5 : Int32)), .val (.int x3), .val (.int tt), .val (.int (z3 ^^^ tt)), .val (.int (4 : Int32)), .val (.int z4), .val (.int (z4 ^^^ tt)), .val (.int (2 : Int32))] [(.int (3 : Int32)), (.ref x0)]
      refine s_iload X hx (hb hby d1_102) rfl (q := 104) rfl ?_
      refine s_iastore X hx hZ eT A_x0 N g_x0 (by decide) (i := 3) rfl (Nat.le_of_ble_eq_true rfl) (ys := [z0, z1, z2, z4, z3]) rfl (hb hby d1_104) (q := 105) rfl ?_
      intro T h8 _ X N eT W A_x0'
      have K := K.wr W (Or.inl (List.mem_of_getElem? (i := 0) rfl))
      have sz : n0 ≤ h8.size := by rw [W.size]; exact sz
      have A_x0 := A_x0'
      refine s_iinc X hx (w := (5 : Int32)) (hb hby d1_105) rfl rfl (L' := #[.val (.ref x0), .val (.int (0 : Int32)), .val (.int (5 : Int32)), .val (.int x3), .val (.int tt), .val (.int (z3 ^^^ tt)), .val (.int (5 : Int32)), .val (.int z4), .val (.int (z4 ^^^ tt)), .val (.int (2 : Int32))]) rfl (q := 108) rfl ?_
      refine s_goto X hx (hb hby d1_108) (q1 := 27) (by decide) (by decide) ?_
      exact cut5 z0 z1 z2 z4 z3 _ _ _ _ _ _ (One.val rfl) (One.val rfl) (One.val rfl) X eT N sz K A_x0 q0 q1 hc94 (own_asym hc50) (hres.trans (by rw [show (CS 0 tt (CS 1 tt (CS 2 tt (CS 3 tt [z0, z1, z2, z3, z4])))) = [z0, z1, z2, z4, z3] from by simp only [CS, List.getD_cons_zero, List.getD_cons_succ, List.set_cons_zero, List.set_cons_succ, if_pos hc50, if_neg hc94, if_neg q1, if_neg q0]]))
    refine s_iload X hx (hb hby d1_53) rfl (q := 55) rfl ?_
    refine s_istore X hx (hb hby d1_55) (L' := #[.val (.ref x0), .val (.int (0 : Int32)), .val (.int (5 : Int32)), .val (.int x3), .val (.int tt), .val (.int (z4 ^^^ tt)), .val (.int (4 : Int32)), .val (.int z4), .val (.int (z4 ^^^ tt)), s9]) rfl (q := 57) rfl ?_
    refine s_goto X hx (hb hby d1_57) (q1 := 105) (by decide) (by decide) ?_
    refine s_iinc X hx (w := (5 : Int32)) (hb hby d1_105) rfl rfl (L' := #[.val (.ref x0), .val (.int (0 : Int32)), .val (.int (5 : Int32)), .val (.int x3), .val (.int tt), .val (.int (z4 ^^^ tt)), .val (.int (5 : Int32)), .val (.int z4), .val (.int (z4 ^^^ tt)), s9]) rfl (q := 108) rfl ?_
    refine s_goto X hx (hb hby d1_108) (q1 := 27) (by decide) (by decide) ?_
    exact cut5 z0 z1 z2 z3 z4 _ _ _ _ _ _ (One.val rfl) (One.val rfl) hs9 X eT N sz K A_x0 q0 q1 q2 hc50 (hres.trans (by rw [show (CS 0 tt (CS 1 tt (CS 2 tt (CS 3 tt [z0, z1, z2, z3, z4])))) = [z0, z1, z2, z3, z4] from by simp only [CS, List.getD_cons_zero, List.getD_cons_succ, List.set_cons_zero, List.set_cons_succ, if_neg hc50, if_neg q2, if_neg q1, if_neg q0]]))
  have cut3 : ∀ (z0 z1 z2 z3 z4 : Int32) (s7 s8 s9 : Slot) (T : State) (hh : Heap) (locs : List Loc), One s7 → One s8 → One s9 → Stand p l e ({ frames := 0, cells := 0, slots := 0, locals := 0 } : Room) s m #[(.ref x0), (.int (0 : Int32)), (.int (5 : Int32)), (.int x3)] below meth c T locs 0 0 → T.heap = hh → Fr n0 locs → n0 ≤ hh.size → Keep h0 hh [x0] → AI Z hh x0 .int [z0, z1, z2, z3, z4] → ¬ (z1 ^^^ tt) < (z0 ^^^ tt) → ¬ (z2 ^^^ tt) < (z1 ^^^ tt) → RES = (CS 0 tt (CS 1 tt (CS 2 tt (CS 3 tt (CS 0 tt (CS 1 tt (CS 2 tt [z0, z1, z2, z3, z4]))))))) → Go p e below (Gl s below (fun v h L => v = none ∧ Fr n0 L ∧ Keep h0 h [x0] ∧ AI Z h x0 .int RES) 0 0) T m 27 #[.val (.ref x0), .val (.int (0 : Int32)), .val (.int (5 : Int32)), .val (.int x3), .val (.int tt), .val (.int (z2 ^^^ tt)), .val (.int (3 : Int32)), s7, s8, s9] [] := by
    intro z0 z1 z2 z3 z4 s7 s8 s9 T hh locs hs7 hs8 hs9 X eT N sz K A_x0 q0 q1 hres
    refine s_iload X hx (hb hby d1_27) rfl (q := 29) rfl ?_
    refine s_iloadN X hx (hb hby d1_29) rfl (q := 30) rfl ?_
    refine f_icmp_ge X hx (hb hby d1_30) (q1 := 111) (by decide) (by decide) (q := 33) rfl (fun hq => absurd (by decide : (3 : Int32) < (5 : Int32)) hq) (fun _ => ?_)
    refine s_aloadN X hx (hb hby d1_33) rfl rfl (q := 34) rfl ?_
    refine s_iload X hx (hb hby d1_34) rfl (q := 36) rfl ?_
    refine s_iaload X hx hZ eT A_x0 (by decide) (i := 3) rfl (x := z3) rfl (hb hby d1_36) (q := 37) rfl ?_
    refine s_istore X hx (hb hby d1_37) (L' := #[.val (.ref x0), .val (.int (0 : Int32)), .val (.int (5 : Int32)), .val (.int x3), .val (.int tt), .val (.int (z2 ^^^ tt)), .val (.int (3 : Int32)), .val (.int z3), s8, s9]) (by rcases hs7 with rfl | ⟨w', rfl, hw'⟩ <;> first | rfl | (cases w' <;> first | rfl | (simp [Value.category] at hw'))) (q := 39) rfl ?_
    refine s_iload X hx (hb hby d1_39) rfl (q := 41) rfl ?_
    refine s_iload X hx (hb hby d1_41) rfl (q := 43) rfl ?_
    refine s_ixor X hx (hb hby d1_43) (q := 44) rfl ?_
    refine s_istore X hx (hb hby d1_44) (L' := #[.val (.ref x0), .val (.int (0 : Int32)), .val (.int (5 : Int32)), .val (.int x3), .val (.int tt), .val (.int (z2 ^^^ tt)), .val (.int (3 : Int32)), .val (.int z3), .val (.int (z3 ^^^ tt)), s9]) (by rcases hs8 with rfl | ⟨w', rfl, hw'⟩ <;> first | rfl | (cases w' <;> first | rfl | (simp [Value.category] at hw'))) (q := 46) rfl ?_
    refine s_iload X hx (hb hby d1_46) rfl (q := 48) rfl ?_
    refine s_iload X hx (hb hby d1_48) rfl (q := 50) rfl ?_
    refine f_icmp_lt X hx (hb hby d1_50) (q1 := 60) (by decide) (by decide) (q := 53) rfl (fun hc50 => ?_) (fun hc50 => ?_)
    · refine s_iload X hx (hb hby d1_60) rfl (q := 62) rfl ?_
      refine s_iconst X hx (z := (1 : Int32)) (hb hby d1_62) rfl (q := 63) rfl ?_
      refine s_isub X hx (hb hby d1_63) (q := 64) rfl ?_
      show Go p e below _ T m 64 #[.val (.ref x0), .val (.int (0 : Int32)), .val (.int (5 : Int32)), .val (.int x3), .val (.int tt), .val (.int (z2 ^^^ tt)), .val (.int (3 : Int32)), .val (.int z3), .val (.int (z3 ^^^ tt)), s9] [(.int (2 : Int32))]
      refine s_istore X hx (hb hby d1_64) (L' := #[.val (.ref x0), .val (.int (0 : Int32)), .val (.int (5 : Int32)), .val (.int x3), .val (.int tt), .val (.int (z2 ^^^ tt)), .val (.int (3 : Int32)), .val (.int z3), .val (.int (z3 ^^^ tt)), .val (.int (2 : Int32))]) (by rcases hs9 with rfl | ⟨w', rfl, hw'⟩ <;> first | rfl | (cases w' <;> first | rfl | (simp [Value.category] at hw'))) (q := 66) rfl ?_
      refine s_aloadN X hx (hb hby d1_66) rfl rfl (q := 67) rfl ?_
      refine s_iload X hx (hb hby d1_67) rfl (q := 69) rfl ?_
      refine s_iconst X hx (z := (1 : Int32)) (hb hby d1_69) rfl (q := 70) rfl ?_
      refine s_iadd X hx (hb hby d1_70) (q := 71) rfl ?_
      show Go p e below _ T m 71 #[.val (.ref x0), .val (.int (0 : Int32)), .val (.int (5 : Int32)), .val (.int x3), .val (.int tt), .val (.int (z2 ^^^ tt)), .val (.int (3 : Int32)), .val (.int z3), .val (.int (z3 ^^^ tt)), .val (.int (2 : Int32))] [(.int (3 : Int32)), (.ref x0)]
      refine s_aloadN X hx (hb hby d1_71) rfl rfl (q := 72) rfl ?_
      refine s_iload X hx (hb hby d1_72) rfl (q := 74) rfl ?_
      refine s_iaload X hx hZ eT A_x0 (by decide) (i := 2) rfl (x := z2) rfl (hb hby d1_74) (q := 75) rfl ?_
      refine s_iastore X hx hZ eT A_x0 N g_x0 (by decide) (i := 3) rfl (Nat.le_of_ble_eq_true rfl) (ys := [z0, z1, z2, z2, z4]) rfl (hb hby d1_75) (q := 76) rfl ?_
      intro T h9 _ X N eT W A_x0'
      have K := K.wr W (Or.inl (List.mem_of_getElem? (i := 0) rfl))
      have sz : n0 ≤ h9.size := by rw [W.size]; exact sz
      have A_x0 := A_x0'
      refine s_iinc X hx (w := (1 : Int32)) (hb hby d1_76) rfl rfl (L' := #[.val (.ref x0), .val (.int (0 : Int32)), .val (.int (5 : Int32)), .val (.int x3), .val (.int tt), .val (.int (z2 ^^^ tt)), .val (.int (3 : Int32)), .val (.int z3), .val (.int (z3 ^^^ tt)), .val (.int (1 : Int32))]) rfl (q := 79) rfl ?_
      refine s_iload X hx (hb hby d1_79) rfl (q := 81) rfl ?_
      refine s_iloadN X hx (hb hby d1_81) rfl (q := 82) rfl ?_
      refine f_icmp_lt X hx (hb hby d1_82) (q1 := 97) (by decide) (by decide) (q := 85) rfl (fun hq => absurd hq (by decide : ¬ (1 : Int32) < (0 : Int32))) (fun _ => ?_)
      refine s_aloadN X hx (hb hby d1_85) rfl rfl (q := 86) rfl ?_
      refine s_iload X hx (hb hby d1_86) rfl (q := 88) rfl ?_
      refine s_iaload X hx hZ eT A_x0 (by decide) (i := 1) rfl (x := z1) rfl (hb hby d1_88) (q := 89) rfl ?_
      refine s_iload X hx (hb hby d1_89) rfl (q := 91) rfl ?_
      refine s_ixor X hx (hb hby d1_91) (q := 92) rfl ?_
      refine s_iload X hx (hb hby d1_92) rfl (q := 94) rfl ?_
      refine f_icmp_gt X hx (hb hby d1_94) (q1 := 66) (by decide) (by decide) (q := 97) rfl (fun hc94 => ?_) (fun hc94 => ?_)
      · refine s_aloadN X hx (hb hby d1_66) rfl rfl (q := 67) rfl ?_
        refine s_iload X hx (hb hby d1_67) rfl (q := 69) rfl ?_
        refine s_iconst X hx (z := (1 : Int32)) (hb hby d1_69) rfl (q := 70) rfl ?_
        refine s_iadd X hx (hb hby d1_70) (q := 71) rfl ?_
        show Go p e below _ T m 71 #[.val (.ref x0), .val (.int (0 : Int32)), .val (.int (5 : Int32)), .val (.int x3), .val (.int tt), .val (.int (z2 ^^^ tt)), .val (.int (3 : Int32)), .val (.int z3), .val (.int (z3 ^^^ tt)), .val (.int (1 : Int32))] [(.int (2 : Int32)), (.ref x0)]
        refine s_aloadN X hx (hb hby d1_71) rfl rfl (q := 72) rfl ?_
        refine s_iload X hx (hb hby d1_72) rfl (q := 74) rfl ?_
        refine s_iaload X hx hZ eT A_x0 (by decide) (i := 1) rfl (x := z1) rfl (hb hby d1_74) (q := 75) rfl ?_
        refine s_iastore X hx hZ eT A_x0 N g_x0 (by decide) (i := 2) rfl (Nat.le_of_ble_eq_true rfl) (ys := [z0, z1, z1, z2, z4]) rfl (hb hby d1_75) (q := 76) rfl ?_
        intro T h10 _ X N eT W A_x0'
        have K := K.wr W (Or.inl (List.mem_of_getElem? (i := 0) rfl))
        have sz : n0 ≤ h10.size := by rw [W.size]; exact sz
        have A_x0 := A_x0'
        refine s_iinc X hx (w := (0 : Int32)) (hb hby d1_76) rfl rfl (L' := #[.val (.ref x0), .val (.int (0 : Int32)), .val (.int (5 : Int32)), .val (.int x3), .val (.int tt), .val (.int (z2 ^^^ tt)), .val (.int (3 : Int32)), .val (.int z3), .val (.int (z3 ^^^ tt)), .val (.int (0 : Int32))]) rfl (q := 79) rfl ?_
        refine s_iload X hx (hb hby d1_79) rfl (q := 81) rfl ?_
        refine s_iloadN X hx (hb hby d1_81) rfl (q := 82) rfl ?_
        refine f_icmp_lt X hx (hb hby d1_82) (q1 := 97) (by decide) (by decide) (q := 85) rfl (fun hq => absurd hq (by decide : ¬ (0 : Int32) < (0 : Int32))) (fun _ => ?_)
        refine s_aloadN X hx (hb hby d1_85) rfl rfl (q := 86) rfl ?_
        refine s_iload X hx (hb hby d1_86) rfl (q := 88) rfl ?_
        refine s_iaload X hx hZ eT A_x0 (by decide) (i := 0) rfl (x := z0) rfl (hb hby d1_88) (q := 89) rfl ?_
        refine s_iload X hx (hb hby d1_89) rfl (q := 91) rfl ?_
        refine s_ixor X hx (hb hby d1_91) (q := 92) rfl ?_
        refine s_iload X hx (hb hby d1_92) rfl (q := 94) rfl ?_
        refine f_icmp_gt X hx (hb hby d1_94) (q1 := 66) (by decide) (by decide) (q := 97) rfl (fun hc94_1 => ?_) (fun hc94_1 => ?_)
        · refine s_aloadN X hx (hb hby d1_66) rfl rfl (q := 67) rfl ?_
          refine s_iload X hx (hb hby d1_67) rfl (q := 69) rfl ?_
          refine s_iconst X hx (z := (1 : Int32)) (hb hby d1_69) rfl (q := 70) rfl ?_
          refine s_iadd X hx (hb hby d1_70) (q := 71) rfl ?_
          show Go p e below _ T m 71 #[.val (.ref x0), .val (.int (0 : Int32)), .val (.int (5 : Int32)), .val (.int x3), .val (.int tt), .val (.int (z2 ^^^ tt)), .val (.int (3 : Int32)), .val (.int z3), .val (.int (z3 ^^^ tt)), .val (.int (0 : Int32))] [(.int (1 : Int32)), (.ref x0)]
          refine s_aloadN X hx (hb hby d1_71) rfl rfl (q := 72) rfl ?_
          refine s_iload X hx (hb hby d1_72) rfl (q := 74) rfl ?_
          refine s_iaload X hx hZ eT A_x0 (by decide) (i := 0) rfl (x := z0) rfl (hb hby d1_74) (q := 75) rfl ?_
          refine s_iastore X hx hZ eT A_x0 N g_x0 (by decide) (i := 1) rfl (Nat.le_of_ble_eq_true rfl) (ys := [z0, z0, z1, z2, z4]) rfl (hb hby d1_75) (q := 76) rfl ?_
          intro T h11 _ X N eT W A_x0'
          have K := K.wr W (Or.inl (List.mem_of_getElem? (i := 0) rfl))
          have sz : n0 ≤ h11.size := by rw [W.size]; exact sz
          have A_x0 := A_x0'
          refine s_iinc X hx (w := (-1 : Int32)) (hb hby d1_76) rfl rfl (L' := #[.val (.ref x0), .val (.int (0 : Int32)), .val (.int (5 : Int32)), .val (.int x3), .val (.int tt), .val (.int (z2 ^^^ tt)), .val (.int (3 : Int32)), .val (.int z3), .val (.int (z3 ^^^ tt)), .val (.int (-1 : Int32))]) rfl (q := 79) rfl ?_
          refine s_iload X hx (hb hby d1_79) rfl (q := 81) rfl ?_
          refine s_iloadN X hx (hb hby d1_81) rfl (q := 82) rfl ?_
          refine f_icmp_lt X hx (hb hby d1_82) (q1 := 97) (by decide) (by decide) (q := 85) rfl (fun _ => ?_) (fun hq => absurd (by decide : (-1 : Int32) < (0 : Int32)) hq)
          refine s_aloadN X hx (hb hby d1_97) rfl rfl (q := 98) rfl ?_
          refine s_iload X hx (hb hby d1_98) rfl (q := 100) rfl ?_
          refine s_iconst X hx (z := (1 : Int32)) (hb hby d1_100) rfl (q := 101) rfl ?_
          refine s_iadd X hx (hb hby d1_101) (q := 102) rfl ?_
          show Go p e below _ T m 102 #[.val (.ref x0), .val (.int (0 : Int32)), .val (.int (5 : Int32)), .val (.int x3), .val (.int tt), .val (.int (z2 ^^^ tt)), .val (.int (3 : Int32)), .val (.int z3), .val (.int (z3 ^^^ tt)), .val (.int (-1 : Int32))] [(.int (0 : Int32)), (.ref x0)]
          refine s_iload X hx (hb hby d1_102) rfl (q := 104) rfl ?_
          refine s_iastore X hx hZ eT A_x0 N g_x0 (by decide) (i := 0) rfl (Nat.le_of_ble_eq_true rfl) (ys := [z3, z0, z1, z2, z4]) rfl (hb hby d1_104) (q := 105) rfl ?_
          intro T h12 _ X N eT W A_x0'
          have K := K.wr W (Or.inl (List.mem_of_getElem? (i := 0) rfl))
          have sz : n0 ≤ h12.size := by rw [W.size]; exact sz
          have A_x0 := A_x0'
          refine s_iinc X hx (w := (4 : Int32)) (hb hby d1_105) rfl rfl (L' := #[.val (.ref x0), .val (.int (0 : Int32)), .val (.int (5 : Int32)), .val (.int x3), .val (.int tt), .val (.int (z2 ^^^ tt)), .val (.int (4 : Int32)), .val (.int z3), .val (.int (z3 ^^^ tt)), .val (.int (-1 : Int32))]) rfl (q := 108) rfl ?_
          refine s_goto X hx (hb hby d1_108) (q1 := 27) (by decide) (by decide) ?_
          exact cut4 z3 z0 z1 z2 z4 _ _ _ _ _ _ (One.val rfl) (One.val rfl) (One.val rfl) X eT N sz K A_x0 (own_asym hc94_1) q0 q1 (hres.trans (by rw [show (CS 0 tt (CS 1 tt (CS 2 tt [z0, z1, z2, z3, z4]))) = [z3, z0, z1, z2, z4] from by simp only [CS, List.getD_cons_zero, List.getD_cons_succ, List.set_cons_zero, List.set_cons_succ, if_pos hc50, if_pos hc94, if_pos hc94_1]]))
        refine s_aloadN X hx (hb hby d1_97) rfl rfl (q := 98) rfl ?_
        refine s_iload X hx (hb hby d1_98) rfl (q := 100) rfl ?_
        refine s_iconst X hx (z := (1 : Int32)) (hb hby d1_100) rfl (q := 101) rfl ?_
        refine s_iadd X hx (hb hby d1_101) (q := 102) rfl ?_
        show Go p e below _ T m 102 #[.val (.ref x0), .val (.int (0 : Int32)), .val (.int (5 : Int32)), .val (.int x3), .val (.int tt), .val (.int (z2 ^^^ tt)), .val (.int (3 : Int32)), .val (.int z3), .val (.int (z3 ^^^ tt)), .val (.int (0 : Int32))] [(.int (1 : Int32)), (.ref x0)]
        refine s_iload X hx (hb hby d1_102) rfl (q := 104) rfl ?_
        refine s_iastore X hx hZ eT A_x0 N g_x0 (by decide) (i := 1) rfl (Nat.le_of_ble_eq_true rfl) (ys := [z0, z3, z1, z2, z4]) rfl (hb hby d1_104) (q := 105) rfl ?_
        intro T h13 _ X N eT W A_x0'
        have K := K.wr W (Or.inl (List.mem_of_getElem? (i := 0) rfl))
        have sz : n0 ≤ h13.size := by rw [W.size]; exact sz
        have A_x0 := A_x0'
        refine s_iinc X hx (w := (4 : Int32)) (hb hby d1_105) rfl rfl (L' := #[.val (.ref x0), .val (.int (0 : Int32)), .val (.int (5 : Int32)), .val (.int x3), .val (.int tt), .val (.int (z2 ^^^ tt)), .val (.int (4 : Int32)), .val (.int z3), .val (.int (z3 ^^^ tt)), .val (.int (0 : Int32))]) rfl (q := 108) rfl ?_
        refine s_goto X hx (hb hby d1_108) (q1 := 27) (by decide) (by decide) ?_
        exact cut4 z0 z3 z1 z2 z4 _ _ _ _ _ _ (One.val rfl) (One.val rfl) (One.val rfl) X eT N sz K A_x0 hc94_1 (own_asym hc94) q1 (hres.trans (by rw [show (CS 0 tt (CS 1 tt (CS 2 tt [z0, z1, z2, z3, z4]))) = [z0, z3, z1, z2, z4] from by simp only [CS, List.getD_cons_zero, List.getD_cons_succ, List.set_cons_zero, List.set_cons_succ, if_pos hc50, if_pos hc94, if_neg hc94_1]]))
      refine s_aloadN X hx (hb hby d1_97) rfl rfl (q := 98) rfl ?_
      refine s_iload X hx (hb hby d1_98) rfl (q := 100) rfl ?_
      refine s_iconst X hx (z := (1 : Int32)) (hb hby d1_100) rfl (q := 101) rfl ?_
      refine s_iadd X hx (hb hby d1_101) (q := 102) rfl ?_
      show Go p e below _ T m 102 #[.val (.ref x0), .val (.int (0 : Int32)), .val (.int (5 : Int32)), .val (.int x3), .val (.int tt), .val (.int (z2 ^^^ tt)), .val (.int (3 : Int32)), .val (.int z3), .val (.int (z3 ^^^ tt)), .val (.int (1 : Int32))] [(.int (2 : Int32)), (.ref x0)]
      refine s_iload X hx (hb hby d1_102) rfl (q := 104) rfl ?_
      refine s_iastore X hx hZ eT A_x0 N g_x0 (by decide) (i := 2) rfl (Nat.le_of_ble_eq_true rfl) (ys := [z0, z1, z3, z2, z4]) rfl (hb hby d1_104) (q := 105) rfl ?_
      intro T h14 _ X N eT W A_x0'
      have K := K.wr W (Or.inl (List.mem_of_getElem? (i := 0) rfl))
      have sz : n0 ≤ h14.size := by rw [W.size]; exact sz
      have A_x0 := A_x0'
      refine s_iinc X hx (w := (4 : Int32)) (hb hby d1_105) rfl rfl (L' := #[.val (.ref x0), .val (.int (0 : Int32)), .val (.int (5 : Int32)), .val (.int x3), .val (.int tt), .val (.int (z2 ^^^ tt)), .val (.int (4 : Int32)), .val (.int z3), .val (.int (z3 ^^^ tt)), .val (.int (1 : Int32))]) rfl (q := 108) rfl ?_
      refine s_goto X hx (hb hby d1_108) (q1 := 27) (by decide) (by decide) ?_
      exact cut4 z0 z1 z3 z2 z4 _ _ _ _ _ _ (One.val rfl) (One.val rfl) (One.val rfl) X eT N sz K A_x0 q0 hc94 (own_asym hc50) (hres.trans (by rw [show (CS 0 tt (CS 1 tt (CS 2 tt [z0, z1, z2, z3, z4]))) = [z0, z1, z3, z2, z4] from by simp only [CS, List.getD_cons_zero, List.getD_cons_succ, List.set_cons_zero, List.set_cons_succ, if_pos hc50, if_neg hc94, if_neg q0]]))
    refine s_iload X hx (hb hby d1_53) rfl (q := 55) rfl ?_
    refine s_istore X hx (hb hby d1_55) (L' := #[.val (.ref x0), .val (.int (0 : Int32)), .val (.int (5 : Int32)), .val (.int x3), .val (.int tt), .val (.int (z3 ^^^ tt)), .val (.int (3 : Int32)), .val (.int z3), .val (.int (z3 ^^^ tt)), s9]) rfl (q := 57) rfl ?_
    refine s_goto X hx (hb hby d1_57) (q1 := 105) (by decide) (by decide) ?_
    refine s_iinc X hx (w := (4 : Int32)) (hb hby d1_105) rfl rfl (L' := #[.val (.ref x0), .val (.int (0 : Int32)), .val (.int (5 : Int32)), .val (.int x3), .val (.int tt), .val (.int (z3 ^^^ tt)), .val (.int (4 : Int32)), .val (.int z3), .val (.int (z3 ^^^ tt)), s9]) rfl (q := 108) rfl ?_
    refine s_goto X hx (hb hby d1_108) (q1 := 27) (by decide) (by decide) ?_
    exact cut4 z0 z1 z2 z3 z4 _ _ _ _ _ _ (One.val rfl) (One.val rfl) hs9 X eT N sz K A_x0 q0 q1 hc50 (hres.trans (by rw [show (CS 0 tt (CS 1 tt (CS 2 tt [z0, z1, z2, z3, z4]))) = [z0, z1, z2, z3, z4] from by simp only [CS, List.getD_cons_zero, List.getD_cons_succ, List.set_cons_zero, List.set_cons_succ, if_neg hc50, if_neg q1, if_neg q0]]))
  have cut2 : ∀ (z0 z1 z2 z3 z4 : Int32) (s7 s8 s9 : Slot) (T : State) (hh : Heap) (locs : List Loc), One s7 → One s8 → One s9 → Stand p l e ({ frames := 0, cells := 0, slots := 0, locals := 0 } : Room) s m #[(.ref x0), (.int (0 : Int32)), (.int (5 : Int32)), (.int x3)] below meth c T locs 0 0 → T.heap = hh → Fr n0 locs → n0 ≤ hh.size → Keep h0 hh [x0] → AI Z hh x0 .int [z0, z1, z2, z3, z4] → ¬ (z1 ^^^ tt) < (z0 ^^^ tt) → RES = (CS 0 tt (CS 1 tt (CS 2 tt (CS 3 tt (CS 0 tt (CS 1 tt (CS 2 tt (CS 0 tt (CS 1 tt [z0, z1, z2, z3, z4]))))))))) → Go p e below (Gl s below (fun v h L => v = none ∧ Fr n0 L ∧ Keep h0 h [x0] ∧ AI Z h x0 .int RES) 0 0) T m 27 #[.val (.ref x0), .val (.int (0 : Int32)), .val (.int (5 : Int32)), .val (.int x3), .val (.int tt), .val (.int (z1 ^^^ tt)), .val (.int (2 : Int32)), s7, s8, s9] [] := by
    intro z0 z1 z2 z3 z4 s7 s8 s9 T hh locs hs7 hs8 hs9 X eT N sz K A_x0 q0 hres
    refine s_iload X hx (hb hby d1_27) rfl (q := 29) rfl ?_
    refine s_iloadN X hx (hb hby d1_29) rfl (q := 30) rfl ?_
    refine f_icmp_ge X hx (hb hby d1_30) (q1 := 111) (by decide) (by decide) (q := 33) rfl (fun hq => absurd (by decide : (2 : Int32) < (5 : Int32)) hq) (fun _ => ?_)
    refine s_aloadN X hx (hb hby d1_33) rfl rfl (q := 34) rfl ?_
    refine s_iload X hx (hb hby d1_34) rfl (q := 36) rfl ?_
    refine s_iaload X hx hZ eT A_x0 (by decide) (i := 2) rfl (x := z2) rfl (hb hby d1_36) (q := 37) rfl ?_
    refine s_istore X hx (hb hby d1_37) (L' := #[.val (.ref x0), .val (.int (0 : Int32)), .val (.int (5 : Int32)), .val (.int x3), .val (.int tt), .val (.int (z1 ^^^ tt)), .val (.int (2 : Int32)), .val (.int z2), s8, s9]) (by rcases hs7 with rfl | ⟨w', rfl, hw'⟩ <;> first | rfl | (cases w' <;> first | rfl | (simp [Value.category] at hw'))) (q := 39) rfl ?_
    refine s_iload X hx (hb hby d1_39) rfl (q := 41) rfl ?_
    refine s_iload X hx (hb hby d1_41) rfl (q := 43) rfl ?_
    refine s_ixor X hx (hb hby d1_43) (q := 44) rfl ?_
    refine s_istore X hx (hb hby d1_44) (L' := #[.val (.ref x0), .val (.int (0 : Int32)), .val (.int (5 : Int32)), .val (.int x3), .val (.int tt), .val (.int (z1 ^^^ tt)), .val (.int (2 : Int32)), .val (.int z2), .val (.int (z2 ^^^ tt)), s9]) (by rcases hs8 with rfl | ⟨w', rfl, hw'⟩ <;> first | rfl | (cases w' <;> first | rfl | (simp [Value.category] at hw'))) (q := 46) rfl ?_
    refine s_iload X hx (hb hby d1_46) rfl (q := 48) rfl ?_
    refine s_iload X hx (hb hby d1_48) rfl (q := 50) rfl ?_
    refine f_icmp_lt X hx (hb hby d1_50) (q1 := 60) (by decide) (by decide) (q := 53) rfl (fun hc50 => ?_) (fun hc50 => ?_)
    · refine s_iload X hx (hb hby d1_60) rfl (q := 62) rfl ?_
      refine s_iconst X hx (z := (1 : Int32)) (hb hby d1_62) rfl (q := 63) rfl ?_
      refine s_isub X hx (hb hby d1_63) (q := 64) rfl ?_
      show Go p e below _ T m 64 #[.val (.ref x0), .val (.int (0 : Int32)), .val (.int (5 : Int32)), .val (.int x3), .val (.int tt), .val (.int (z1 ^^^ tt)), .val (.int (2 : Int32)), .val (.int z2), .val (.int (z2 ^^^ tt)), s9] [(.int (1 : Int32))]
      refine s_istore X hx (hb hby d1_64) (L' := #[.val (.ref x0), .val (.int (0 : Int32)), .val (.int (5 : Int32)), .val (.int x3), .val (.int tt), .val (.int (z1 ^^^ tt)), .val (.int (2 : Int32)), .val (.int z2), .val (.int (z2 ^^^ tt)), .val (.int (1 : Int32))]) (by rcases hs9 with rfl | ⟨w', rfl, hw'⟩ <;> first | rfl | (cases w' <;> first | rfl | (simp [Value.category] at hw'))) (q := 66) rfl ?_
      refine s_aloadN X hx (hb hby d1_66) rfl rfl (q := 67) rfl ?_
      refine s_iload X hx (hb hby d1_67) rfl (q := 69) rfl ?_
      refine s_iconst X hx (z := (1 : Int32)) (hb hby d1_69) rfl (q := 70) rfl ?_
      refine s_iadd X hx (hb hby d1_70) (q := 71) rfl ?_
      show Go p e below _ T m 71 #[.val (.ref x0), .val (.int (0 : Int32)), .val (.int (5 : Int32)), .val (.int x3), .val (.int tt), .val (.int (z1 ^^^ tt)), .val (.int (2 : Int32)), .val (.int z2), .val (.int (z2 ^^^ tt)), .val (.int (1 : Int32))] [(.int (2 : Int32)), (.ref x0)]
      refine s_aloadN X hx (hb hby d1_71) rfl rfl (q := 72) rfl ?_
      refine s_iload X hx (hb hby d1_72) rfl (q := 74) rfl ?_
      refine s_iaload X hx hZ eT A_x0 (by decide) (i := 1) rfl (x := z1) rfl (hb hby d1_74) (q := 75) rfl ?_
      refine s_iastore X hx hZ eT A_x0 N g_x0 (by decide) (i := 2) rfl (Nat.le_of_ble_eq_true rfl) (ys := [z0, z1, z1, z3, z4]) rfl (hb hby d1_75) (q := 76) rfl ?_
      intro T h15 _ X N eT W A_x0'
      have K := K.wr W (Or.inl (List.mem_of_getElem? (i := 0) rfl))
      have sz : n0 ≤ h15.size := by rw [W.size]; exact sz
      have A_x0 := A_x0'
      refine s_iinc X hx (w := (0 : Int32)) (hb hby d1_76) rfl rfl (L' := #[.val (.ref x0), .val (.int (0 : Int32)), .val (.int (5 : Int32)), .val (.int x3), .val (.int tt), .val (.int (z1 ^^^ tt)), .val (.int (2 : Int32)), .val (.int z2), .val (.int (z2 ^^^ tt)), .val (.int (0 : Int32))]) rfl (q := 79) rfl ?_
      refine s_iload X hx (hb hby d1_79) rfl (q := 81) rfl ?_
      refine s_iloadN X hx (hb hby d1_81) rfl (q := 82) rfl ?_
      refine f_icmp_lt X hx (hb hby d1_82) (q1 := 97) (by decide) (by decide) (q := 85) rfl (fun hq => absurd hq (by decide : ¬ (0 : Int32) < (0 : Int32))) (fun _ => ?_)
      refine s_aloadN X hx (hb hby d1_85) rfl rfl (q := 86) rfl ?_
      refine s_iload X hx (hb hby d1_86) rfl (q := 88) rfl ?_
      refine s_iaload X hx hZ eT A_x0 (by decide) (i := 0) rfl (x := z0) rfl (hb hby d1_88) (q := 89) rfl ?_
      refine s_iload X hx (hb hby d1_89) rfl (q := 91) rfl ?_
      refine s_ixor X hx (hb hby d1_91) (q := 92) rfl ?_
      refine s_iload X hx (hb hby d1_92) rfl (q := 94) rfl ?_
      refine f_icmp_gt X hx (hb hby d1_94) (q1 := 66) (by decide) (by decide) (q := 97) rfl (fun hc94 => ?_) (fun hc94 => ?_)
      · refine s_aloadN X hx (hb hby d1_66) rfl rfl (q := 67) rfl ?_
        refine s_iload X hx (hb hby d1_67) rfl (q := 69) rfl ?_
        refine s_iconst X hx (z := (1 : Int32)) (hb hby d1_69) rfl (q := 70) rfl ?_
        refine s_iadd X hx (hb hby d1_70) (q := 71) rfl ?_
        show Go p e below _ T m 71 #[.val (.ref x0), .val (.int (0 : Int32)), .val (.int (5 : Int32)), .val (.int x3), .val (.int tt), .val (.int (z1 ^^^ tt)), .val (.int (2 : Int32)), .val (.int z2), .val (.int (z2 ^^^ tt)), .val (.int (0 : Int32))] [(.int (1 : Int32)), (.ref x0)]
        refine s_aloadN X hx (hb hby d1_71) rfl rfl (q := 72) rfl ?_
        refine s_iload X hx (hb hby d1_72) rfl (q := 74) rfl ?_
        refine s_iaload X hx hZ eT A_x0 (by decide) (i := 0) rfl (x := z0) rfl (hb hby d1_74) (q := 75) rfl ?_
        refine s_iastore X hx hZ eT A_x0 N g_x0 (by decide) (i := 1) rfl (Nat.le_of_ble_eq_true rfl) (ys := [z0, z0, z1, z3, z4]) rfl (hb hby d1_75) (q := 76) rfl ?_
        intro T h16 _ X N eT W A_x0'
        have K := K.wr W (Or.inl (List.mem_of_getElem? (i := 0) rfl))
        have sz : n0 ≤ h16.size := by rw [W.size]; exact sz
        have A_x0 := A_x0'
        refine s_iinc X hx (w := (-1 : Int32)) (hb hby d1_76) rfl rfl (L' := #[.val (.ref x0), .val (.int (0 : Int32)), .val (.int (5 : Int32)), .val (.int x3), .val (.int tt), .val (.int (z1 ^^^ tt)), .val (.int (2 : Int32)), .val (.int z2), .val (.int (z2 ^^^ tt)), .val (.int (-1 : Int32))]) rfl (q := 79) rfl ?_
        refine s_iload X hx (hb hby d1_79) rfl (q := 81) rfl ?_
        refine s_iloadN X hx (hb hby d1_81) rfl (q := 82) rfl ?_
        refine f_icmp_lt X hx (hb hby d1_82) (q1 := 97) (by decide) (by decide) (q := 85) rfl (fun _ => ?_) (fun hq => absurd (by decide : (-1 : Int32) < (0 : Int32)) hq)
        refine s_aloadN X hx (hb hby d1_97) rfl rfl (q := 98) rfl ?_
        refine s_iload X hx (hb hby d1_98) rfl (q := 100) rfl ?_
        refine s_iconst X hx (z := (1 : Int32)) (hb hby d1_100) rfl (q := 101) rfl ?_
        refine s_iadd X hx (hb hby d1_101) (q := 102) rfl ?_
        show Go p e below _ T m 102 #[.val (.ref x0), .val (.int (0 : Int32)), .val (.int (5 : Int32)), .val (.int x3), .val (.int tt), .val (.int (z1 ^^^ tt)), .val (.int (2 : Int32)), .val (.int z2), .val (.int (z2 ^^^ tt)), .val (.int (-1 : Int32))] [(.int (0 : Int32)), (.ref x0)]
        refine s_iload X hx (hb hby d1_102) rfl (q := 104) rfl ?_
        refine s_iastore X hx hZ eT A_x0 N g_x0 (by decide) (i := 0) rfl (Nat.le_of_ble_eq_true rfl) (ys := [z2, z0, z1, z3, z4]) rfl (hb hby d1_104) (q := 105) rfl ?_
        intro T h17 _ X N eT W A_x0'
        have K := K.wr W (Or.inl (List.mem_of_getElem? (i := 0) rfl))
        have sz : n0 ≤ h17.size := by rw [W.size]; exact sz
        have A_x0 := A_x0'
        refine s_iinc X hx (w := (3 : Int32)) (hb hby d1_105) rfl rfl (L' := #[.val (.ref x0), .val (.int (0 : Int32)), .val (.int (5 : Int32)), .val (.int x3), .val (.int tt), .val (.int (z1 ^^^ tt)), .val (.int (3 : Int32)), .val (.int z2), .val (.int (z2 ^^^ tt)), .val (.int (-1 : Int32))]) rfl (q := 108) rfl ?_
        refine s_goto X hx (hb hby d1_108) (q1 := 27) (by decide) (by decide) ?_
        exact cut3 z2 z0 z1 z3 z4 _ _ _ _ _ _ (One.val rfl) (One.val rfl) (One.val rfl) X eT N sz K A_x0 (own_asym hc94) q0 (hres.trans (by rw [show (CS 0 tt (CS 1 tt [z0, z1, z2, z3, z4])) = [z2, z0, z1, z3, z4] from by simp only [CS, List.getD_cons_zero, List.getD_cons_succ, List.set_cons_zero, List.set_cons_succ, if_pos hc50, if_pos hc94]]))
      refine s_aloadN X hx (hb hby d1_97) rfl rfl (q := 98) rfl ?_
      refine s_iload X hx (hb hby d1_98) rfl (q := 100) rfl ?_
      refine s_iconst X hx (z := (1 : Int32)) (hb hby d1_100) rfl (q := 101) rfl ?_
      refine s_iadd X hx (hb hby d1_101) (q := 102) rfl ?_
      show Go p e below _ T m 102 #[.val (.ref x0), .val (.int (0 : Int32)), .val (.int (5 : Int32)), .val (.int x3), .val (.int tt), .val (.int (z1 ^^^ tt)), .val (.int (2 : Int32)), .val (.int z2), .val (.int (z2 ^^^ tt)), .val (.int (0 : Int32))] [(.int (1 : Int32)), (.ref x0)]
      refine s_iload X hx (hb hby d1_102) rfl (q := 104) rfl ?_
      refine s_iastore X hx hZ eT A_x0 N g_x0 (by decide) (i := 1) rfl (Nat.le_of_ble_eq_true rfl) (ys := [z0, z2, z1, z3, z4]) rfl (hb hby d1_104) (q := 105) rfl ?_
      intro T h18 _ X N eT W A_x0'
      have K := K.wr W (Or.inl (List.mem_of_getElem? (i := 0) rfl))
      have sz : n0 ≤ h18.size := by rw [W.size]; exact sz
      have A_x0 := A_x0'
      refine s_iinc X hx (w := (3 : Int32)) (hb hby d1_105) rfl rfl (L' := #[.val (.ref x0), .val (.int (0 : Int32)), .val (.int (5 : Int32)), .val (.int x3), .val (.int tt), .val (.int (z1 ^^^ tt)), .val (.int (3 : Int32)), .val (.int z2), .val (.int (z2 ^^^ tt)), .val (.int (0 : Int32))]) rfl (q := 108) rfl ?_
      refine s_goto X hx (hb hby d1_108) (q1 := 27) (by decide) (by decide) ?_
      exact cut3 z0 z2 z1 z3 z4 _ _ _ _ _ _ (One.val rfl) (One.val rfl) (One.val rfl) X eT N sz K A_x0 hc94 (own_asym hc50) (hres.trans (by rw [show (CS 0 tt (CS 1 tt [z0, z1, z2, z3, z4])) = [z0, z2, z1, z3, z4] from by simp only [CS, List.getD_cons_zero, List.getD_cons_succ, List.set_cons_zero, List.set_cons_succ, if_pos hc50, if_neg hc94]]))
    refine s_iload X hx (hb hby d1_53) rfl (q := 55) rfl ?_
    refine s_istore X hx (hb hby d1_55) (L' := #[.val (.ref x0), .val (.int (0 : Int32)), .val (.int (5 : Int32)), .val (.int x3), .val (.int tt), .val (.int (z2 ^^^ tt)), .val (.int (2 : Int32)), .val (.int z2), .val (.int (z2 ^^^ tt)), s9]) rfl (q := 57) rfl ?_
    refine s_goto X hx (hb hby d1_57) (q1 := 105) (by decide) (by decide) ?_
    refine s_iinc X hx (w := (3 : Int32)) (hb hby d1_105) rfl rfl (L' := #[.val (.ref x0), .val (.int (0 : Int32)), .val (.int (5 : Int32)), .val (.int x3), .val (.int tt), .val (.int (z2 ^^^ tt)), .val (.int (3 : Int32)), .val (.int z2), .val (.int (z2 ^^^ tt)), s9]) rfl (q := 108) rfl ?_
    refine s_goto X hx (hb hby d1_108) (q1 := 27) (by decide) (by decide) ?_
    exact cut3 z0 z1 z2 z3 z4 _ _ _ _ _ _ (One.val rfl) (One.val rfl) hs9 X eT N sz K A_x0 q0 hc50 (hres.trans (by rw [show (CS 0 tt (CS 1 tt [z0, z1, z2, z3, z4])) = [z0, z1, z2, z3, z4] from by simp only [CS, List.getD_cons_zero, List.getD_cons_succ, List.set_cons_zero, List.set_cons_succ, if_neg hc50, if_neg q0]]))
  have cut1 : ∀ (z0 z1 z2 z3 z4 : Int32) (s7 s8 s9 : Slot) (T : State) (hh : Heap) (locs : List Loc), One s7 → One s8 → One s9 → Stand p l e ({ frames := 0, cells := 0, slots := 0, locals := 0 } : Room) s m #[(.ref x0), (.int (0 : Int32)), (.int (5 : Int32)), (.int x3)] below meth c T locs 0 0 → T.heap = hh → Fr n0 locs → n0 ≤ hh.size → Keep h0 hh [x0] → AI Z hh x0 .int [z0, z1, z2, z3, z4] → RES = (CS 0 tt (CS 1 tt (CS 2 tt (CS 3 tt (CS 0 tt (CS 1 tt (CS 2 tt (CS 0 tt (CS 1 tt (CS 0 tt [z0, z1, z2, z3, z4])))))))))) → Go p e below (Gl s below (fun v h L => v = none ∧ Fr n0 L ∧ Keep h0 h [x0] ∧ AI Z h x0 .int RES) 0 0) T m 27 #[.val (.ref x0), .val (.int (0 : Int32)), .val (.int (5 : Int32)), .val (.int x3), .val (.int tt), .val (.int (z0 ^^^ tt)), .val (.int (1 : Int32)), s7, s8, s9] [] := by
    intro z0 z1 z2 z3 z4 s7 s8 s9 T hh locs hs7 hs8 hs9 X eT N sz K A_x0  hres
    refine s_iload X hx (hb hby d1_27) rfl (q := 29) rfl ?_
    refine s_iloadN X hx (hb hby d1_29) rfl (q := 30) rfl ?_
    refine f_icmp_ge X hx (hb hby d1_30) (q1 := 111) (by decide) (by decide) (q := 33) rfl (fun hq => absurd (by decide : (1 : Int32) < (5 : Int32)) hq) (fun _ => ?_)
    refine s_aloadN X hx (hb hby d1_33) rfl rfl (q := 34) rfl ?_
    refine s_iload X hx (hb hby d1_34) rfl (q := 36) rfl ?_
    refine s_iaload X hx hZ eT A_x0 (by decide) (i := 1) rfl (x := z1) rfl (hb hby d1_36) (q := 37) rfl ?_
    refine s_istore X hx (hb hby d1_37) (L' := #[.val (.ref x0), .val (.int (0 : Int32)), .val (.int (5 : Int32)), .val (.int x3), .val (.int tt), .val (.int (z0 ^^^ tt)), .val (.int (1 : Int32)), .val (.int z1), s8, s9]) (by rcases hs7 with rfl | ⟨w', rfl, hw'⟩ <;> first | rfl | (cases w' <;> first | rfl | (simp [Value.category] at hw'))) (q := 39) rfl ?_
    refine s_iload X hx (hb hby d1_39) rfl (q := 41) rfl ?_
    refine s_iload X hx (hb hby d1_41) rfl (q := 43) rfl ?_
    refine s_ixor X hx (hb hby d1_43) (q := 44) rfl ?_
    refine s_istore X hx (hb hby d1_44) (L' := #[.val (.ref x0), .val (.int (0 : Int32)), .val (.int (5 : Int32)), .val (.int x3), .val (.int tt), .val (.int (z0 ^^^ tt)), .val (.int (1 : Int32)), .val (.int z1), .val (.int (z1 ^^^ tt)), s9]) (by rcases hs8 with rfl | ⟨w', rfl, hw'⟩ <;> first | rfl | (cases w' <;> first | rfl | (simp [Value.category] at hw'))) (q := 46) rfl ?_
    refine s_iload X hx (hb hby d1_46) rfl (q := 48) rfl ?_
    refine s_iload X hx (hb hby d1_48) rfl (q := 50) rfl ?_
    refine f_icmp_lt X hx (hb hby d1_50) (q1 := 60) (by decide) (by decide) (q := 53) rfl (fun hc50 => ?_) (fun hc50 => ?_)
    · refine s_iload X hx (hb hby d1_60) rfl (q := 62) rfl ?_
      refine s_iconst X hx (z := (1 : Int32)) (hb hby d1_62) rfl (q := 63) rfl ?_
      refine s_isub X hx (hb hby d1_63) (q := 64) rfl ?_
      show Go p e below _ T m 64 #[.val (.ref x0), .val (.int (0 : Int32)), .val (.int (5 : Int32)), .val (.int x3), .val (.int tt), .val (.int (z0 ^^^ tt)), .val (.int (1 : Int32)), .val (.int z1), .val (.int (z1 ^^^ tt)), s9] [(.int (0 : Int32))]
      refine s_istore X hx (hb hby d1_64) (L' := #[.val (.ref x0), .val (.int (0 : Int32)), .val (.int (5 : Int32)), .val (.int x3), .val (.int tt), .val (.int (z0 ^^^ tt)), .val (.int (1 : Int32)), .val (.int z1), .val (.int (z1 ^^^ tt)), .val (.int (0 : Int32))]) (by rcases hs9 with rfl | ⟨w', rfl, hw'⟩ <;> first | rfl | (cases w' <;> first | rfl | (simp [Value.category] at hw'))) (q := 66) rfl ?_
      refine s_aloadN X hx (hb hby d1_66) rfl rfl (q := 67) rfl ?_
      refine s_iload X hx (hb hby d1_67) rfl (q := 69) rfl ?_
      refine s_iconst X hx (z := (1 : Int32)) (hb hby d1_69) rfl (q := 70) rfl ?_
      refine s_iadd X hx (hb hby d1_70) (q := 71) rfl ?_
      show Go p e below _ T m 71 #[.val (.ref x0), .val (.int (0 : Int32)), .val (.int (5 : Int32)), .val (.int x3), .val (.int tt), .val (.int (z0 ^^^ tt)), .val (.int (1 : Int32)), .val (.int z1), .val (.int (z1 ^^^ tt)), .val (.int (0 : Int32))] [(.int (1 : Int32)), (.ref x0)]
      refine s_aloadN X hx (hb hby d1_71) rfl rfl (q := 72) rfl ?_
      refine s_iload X hx (hb hby d1_72) rfl (q := 74) rfl ?_
      refine s_iaload X hx hZ eT A_x0 (by decide) (i := 0) rfl (x := z0) rfl (hb hby d1_74) (q := 75) rfl ?_
      refine s_iastore X hx hZ eT A_x0 N g_x0 (by decide) (i := 1) rfl (Nat.le_of_ble_eq_true rfl) (ys := [z0, z0, z2, z3, z4]) rfl (hb hby d1_75) (q := 76) rfl ?_
      intro T h19 _ X N eT W A_x0'
      have K := K.wr W (Or.inl (List.mem_of_getElem? (i := 0) rfl))
      have sz : n0 ≤ h19.size := by rw [W.size]; exact sz
      have A_x0 := A_x0'
      refine s_iinc X hx (w := (-1 : Int32)) (hb hby d1_76) rfl rfl (L' := #[.val (.ref x0), .val (.int (0 : Int32)), .val (.int (5 : Int32)), .val (.int x3), .val (.int tt), .val (.int (z0 ^^^ tt)), .val (.int (1 : Int32)), .val (.int z1), .val (.int (z1 ^^^ tt)), .val (.int (-1 : Int32))]) rfl (q := 79) rfl ?_
      refine s_iload X hx (hb hby d1_79) rfl (q := 81) rfl ?_
      refine s_iloadN X hx (hb hby d1_81) rfl (q := 82) rfl ?_
      refine f_icmp_lt X hx (hb hby d1_82) (q1 := 97) (by decide) (by decide) (q := 85) rfl (fun _ => ?_) (fun hq => absurd (by decide : (-1 : Int32) < (0 : Int32)) hq)
      refine s_aloadN X hx (hb hby d1_97) rfl rfl (q := 98) rfl ?_
      refine s_iload X hx (hb hby d1_98) rfl (q := 100) rfl ?_
      refine s_iconst X hx (z := (1 : Int32)) (hb hby d1_100) rfl (q := 101) rfl ?_
      refine s_iadd X hx (hb hby d1_101) (q := 102) rfl ?_
      show Go p e below _ T m 102 #[.val (.ref x0), .val (.int (0 : Int32)), .val (.int (5 : Int32)), .val (.int x3), .val (.int tt), .val (.int (z0 ^^^ tt)), .val (.int (1 : Int32)), .val (.int z1), .val (.int (z1 ^^^ tt)), .val (.int (-1 : Int32))] [(.int (0 : Int32)), (.ref x0)]
      refine s_iload X hx (hb hby d1_102) rfl (q := 104) rfl ?_
      refine s_iastore X hx hZ eT A_x0 N g_x0 (by decide) (i := 0) rfl (Nat.le_of_ble_eq_true rfl) (ys := [z1, z0, z2, z3, z4]) rfl (hb hby d1_104) (q := 105) rfl ?_
      intro T h20 _ X N eT W A_x0'
      have K := K.wr W (Or.inl (List.mem_of_getElem? (i := 0) rfl))
      have sz : n0 ≤ h20.size := by rw [W.size]; exact sz
      have A_x0 := A_x0'
      refine s_iinc X hx (w := (2 : Int32)) (hb hby d1_105) rfl rfl (L' := #[.val (.ref x0), .val (.int (0 : Int32)), .val (.int (5 : Int32)), .val (.int x3), .val (.int tt), .val (.int (z0 ^^^ tt)), .val (.int (2 : Int32)), .val (.int z1), .val (.int (z1 ^^^ tt)), .val (.int (-1 : Int32))]) rfl (q := 108) rfl ?_
      refine s_goto X hx (hb hby d1_108) (q1 := 27) (by decide) (by decide) ?_
      exact cut2 z1 z0 z2 z3 z4 _ _ _ _ _ _ (One.val rfl) (One.val rfl) (One.val rfl) X eT N sz K A_x0 (own_asym hc50) (hres.trans (by rw [show (CS 0 tt [z0, z1, z2, z3, z4]) = [z1, z0, z2, z3, z4] from by simp only [CS, List.getD_cons_zero, List.getD_cons_succ, List.set_cons_zero, List.set_cons_succ, if_pos hc50]]))
    refine s_iload X hx (hb hby d1_53) rfl (q := 55) rfl ?_
    refine s_istore X hx (hb hby d1_55) (L' := #[.val (.ref x0), .val (.int (0 : Int32)), .val (.int (5 : Int32)), .val (.int x3), .val (.int tt), .val (.int (z1 ^^^ tt)), .val (.int (1 : Int32)), .val (.int z1), .val (.int (z1 ^^^ tt)), s9]) rfl (q := 57) rfl ?_
    refine s_goto X hx (hb hby d1_57) (q1 := 105) (by decide) (by decide) ?_
    refine s_iinc X hx (w := (2 : Int32)) (hb hby d1_105) rfl rfl (L' := #[.val (.ref x0), .val (.int (0 : Int32)), .val (.int (5 : Int32)), .val (.int x3), .val (.int tt), .val (.int (z1 ^^^ tt)), .val (.int (2 : Int32)), .val (.int z1), .val (.int (z1 ^^^ tt)), s9]) rfl (q := 108) rfl ?_
    refine s_goto X hx (hb hby d1_108) (q1 := 27) (by decide) (by decide) ?_
    exact cut2 z0 z1 z2 z3 z4 _ _ _ _ _ _ (One.val rfl) (One.val rfl) hs9 X eT N sz K A_x0 hc50 (hres.trans (by rw [show (CS 0 tt [z0, z1, z2, z3, z4]) = [z0, z1, z2, z3, z4] from by simp only [CS, List.getD_cons_zero, List.getD_cons_succ, List.set_cons_zero, List.set_cons_succ, if_neg hc50]]))
  exact cut1 y0 y1 y2 y3 y4 _ _ _ _ _ _ One.u One.u One.u X eT N sz K A_x0 (by rw [htt] at hRES; exact hRES)
set_option maxRecDepth 65536 in
set_option maxHeartbeats 40000000 in
theorem rm1_11 (l : Launch) (Z : State) (a0 : Array Value) (hw : ∀ d ∈ tables_1, d.before a0 Z = true) (ws : List Jvm.Cond) (x0 : Addr) (x3 : Int32) (y0 y1 y2 y3 y4 : Int32) (RES : List Int32) (h0 : Heap) (n0 : Nat) (sz : n0 ≤ h0.size) (A_x0 : AI Z h0 x0 .int [y0, y1, y2, y3, y4]) (g_x0 : n0 ≤ x0) (hRES : RES = [y0, y1, y2, y3, y4]) :
    Ctr l (⟨"com/example/digitwise/digitwise/internal/IntRadixSort", "insertionSort", "([IIII)V"⟩ : MethodName) prog_7_method_52_code 10 none ws ({ frames := 0, cells := 0, slots := 0, locals := 0 } : Room) Z #[(.ref x0), (.int (1 : Int32)), (.int (1 : Int32)), (.int x3)] h0 (fun v h L => v = none ∧ Fr n0 L ∧ Keep h0 h [x0] ∧ AI Z h x0 .int RES) 0 0 := by
  refine Ctr.mk pn_1 ?_
  intro p e s m below meth c T hx hby hml hown hnm hlk hret hZ X eT
  have N := Fr.nil n0
  refine enter (ef_1 m x0 (1 : Int32) (1 : Int32) x3) ?_
  have K := Keep.refl h0 [x0]
  revert hRES
  intro hRES
  refine s_iloadN X hx (hb hby d1_0) rfl (q := 1) rfl ?_
  refine s_iloadN X hx (hb hby d1_1) rfl (q := 2) rfl ?_
  refine s_isub X hx (hb hby d1_2) (q := 3) rfl ?_
  show Go p e below _ T m 3 #[.val (.ref x0), .val (.int (1 : Int32)), .val (.int (1 : Int32)), .val (.int x3), .unset, .unset, .unset, .unset, .unset, .unset] [(.int (0 : Int32))]
  refine s_iconst X hx (z := (2 : Int32)) (hb hby d1_3) rfl (q := 4) rfl ?_
  refine f_icmp_ge X hx (hb hby d1_4) (q1 := 8) (by decide) (by decide) (q := 7) rfl (fun hq => absurd (by decide : (0 : Int32) < (2 : Int32)) hq) (fun _ => ?_)
  exact leafV X hx hlk hret (hb hby d1_7) (by decide) (by decide) (by rw [eT]; exact ⟨rfl, N, K, hRES ▸ A_x0⟩)
set_option maxRecDepth 65536 in
set_option maxHeartbeats 40000000 in
theorem rm1_12 (l : Launch) (Z : State) (a0 : Array Value) (hw : ∀ d ∈ tables_1, d.before a0 Z = true) (ws : List Jvm.Cond) (x0 : Addr) (x3 : Int32) (y0 y1 y2 y3 y4 : Int32) (RES : List Int32) (h0 : Heap) (n0 : Nat) (sz : n0 ≤ h0.size) (A_x0 : AI Z h0 x0 .int [y0, y1, y2, y3, y4]) (g_x0 : n0 ≤ x0) (hRES : RES = [y0, y1, y2, y3, y4]) :
    Ctr l (⟨"com/example/digitwise/digitwise/internal/IntRadixSort", "insertionSort", "([IIII)V"⟩ : MethodName) prog_7_method_52_code 10 none ws ({ frames := 0, cells := 0, slots := 0, locals := 0 } : Room) Z #[(.ref x0), (.int (1 : Int32)), (.int (2 : Int32)), (.int x3)] h0 (fun v h L => v = none ∧ Fr n0 L ∧ Keep h0 h [x0] ∧ AI Z h x0 .int RES) 0 0 := by
  refine Ctr.mk pn_1 ?_
  intro p e s m below meth c T hx hby hml hown hnm hlk hret hZ X eT
  have N := Fr.nil n0
  refine enter (ef_1 m x0 (1 : Int32) (2 : Int32) x3) ?_
  have K := Keep.refl h0 [x0]
  revert hRES
  intro hRES
  refine s_iloadN X hx (hb hby d1_0) rfl (q := 1) rfl ?_
  refine s_iloadN X hx (hb hby d1_1) rfl (q := 2) rfl ?_
  refine s_isub X hx (hb hby d1_2) (q := 3) rfl ?_
  show Go p e below _ T m 3 #[.val (.ref x0), .val (.int (1 : Int32)), .val (.int (2 : Int32)), .val (.int x3), .unset, .unset, .unset, .unset, .unset, .unset] [(.int (1 : Int32))]
  refine s_iconst X hx (z := (2 : Int32)) (hb hby d1_3) rfl (q := 4) rfl ?_
  refine f_icmp_ge X hx (hb hby d1_4) (q1 := 8) (by decide) (by decide) (q := 7) rfl (fun hq => absurd (by decide : (1 : Int32) < (2 : Int32)) hq) (fun _ => ?_)
  exact leafV X hx hlk hret (hb hby d1_7) (by decide) (by decide) (by rw [eT]; exact ⟨rfl, N, K, hRES ▸ A_x0⟩)
set_option maxRecDepth 65536 in
set_option maxHeartbeats 40000000 in
theorem rm1_13 (l : Launch) (Z : State) (a0 : Array Value) (hw : ∀ d ∈ tables_1, d.before a0 Z = true) (ws : List Jvm.Cond) (x0 : Addr) (x3 : Int32) (y0 y1 y2 y3 y4 : Int32) (RES : List Int32) (h0 : Heap) (n0 : Nat) (sz : n0 ≤ h0.size) (A_x0 : AI Z h0 x0 .int [y0, y1, y2, y3, y4]) (g_x0 : n0 ≤ x0) (hRES : RES = (CS 1 (x3 ^^^ (-2147483648 : Int32)) [y0, y1, y2, y3, y4])) :
    Ctr l (⟨"com/example/digitwise/digitwise/internal/IntRadixSort", "insertionSort", "([IIII)V"⟩ : MethodName) prog_7_method_52_code 10 none ws ({ frames := 0, cells := 0, slots := 0, locals := 0 } : Room) Z #[(.ref x0), (.int (1 : Int32)), (.int (3 : Int32)), (.int x3)] h0 (fun v h L => v = none ∧ Fr n0 L ∧ Keep h0 h [x0] ∧ AI Z h x0 .int RES) 0 0 := by
  refine Ctr.mk pn_1 ?_
  intro p e s m below meth c T hx hby hml hown hnm hlk hret hZ X eT
  have N := Fr.nil n0
  refine enter (ef_1 m x0 (1 : Int32) (3 : Int32) x3) ?_
  have K := Keep.refl h0 [x0]
  revert hRES
  intro hRES
  refine s_iloadN X hx (hb hby d1_0) rfl (q := 1) rfl ?_
  refine s_iloadN X hx (hb hby d1_1) rfl (q := 2) rfl ?_
  refine s_isub X hx (hb hby d1_2) (q := 3) rfl ?_
  show Go p e below _ T m 3 #[.val (.ref x0), .val (.int (1 : Int32)), .val (.int (3 : Int32)), .val (.int x3), .unset, .unset, .unset, .unset, .unset, .unset] [(.int (2 : Int32))]
  refine s_iconst X hx (z := (2 : Int32)) (hb hby d1_3) rfl (q := 4) rfl ?_
  refine f_icmp_ge X hx (hb hby d1_4) (q1 := 8) (by decide) (by decide) (q := 7) rfl (fun _ => ?_) (fun hq => absurd hq (by decide : ¬ (2 : Int32) < (2 : Int32)))
  refine s_iloadN X hx (hb hby d1_8) rfl (q := 9) rfl ?_
  refine s_ldc X hx hZ hown (hw _ (List.mem_of_getElem? (i := 10) rfl)) (hb hby d1_9) (q := 11) rfl ?_
  refine s_ixor X hx (hb hby d1_11) (q := 12) rfl ?_
  generalize htt : (x3 ^^^ (-2147483648 : Int32)) = tt
  refine s_istore X hx (hb hby d1_12) (L' := #[.val (.ref x0), .val (.int (1 : Int32)), .val (.int (3 : Int32)), .val (.int x3), .val (.int tt), .unset, .unset, .unset, .unset, .unset]) rfl (q := 14) rfl ?_
  refine s_aloadN X hx (hb hby d1_14) rfl rfl (q := 15) rfl ?_
  refine s_iloadN X hx (hb hby d1_15) rfl (q := 16) rfl ?_
  refine s_iaload X hx hZ eT A_x0 (by decide) (i := 1) rfl (x := y1) rfl (hb hby d1_16) (q := 17) rfl ?_
  refine s_iload X hx (hb hby d1_17) rfl (q := 19) rfl ?_
  refine s_ixor X hx (hb hby d1_19) (q := 20) rfl ?_
  refine s_istore X hx (hb hby d1_20) (L' := #[.val (.ref x0), .val (.int (1 : Int32)), .val (.int (3 : Int32)), .val (.int x3), .val (.int tt), .val (.int (y1 ^^^ tt)), .unset, .unset, .unset, .unset]) rfl (q := 22) rfl ?_
  refine s_iloadN X hx (hb hby d1_22) rfl (q := 23) rfl ?_
  refine s_iconst X hx (z := (1 : Int32)) (hb hby d1_23) rfl (q := 24) rfl ?_
  refine s_iadd X hx (hb hby d1_24) (q := 25) rfl ?_
  show Go p e below _ T m 25 #[.val (.ref x0), .val (.int (1 : Int32)), .val (.int (3 : Int32)), .val (.int x3), .val (.int tt), .val (.int (y1 ^^^ tt)), .unset, .unset, .unset, .unset] [(.int (2 : Int32))]
  refine s_istore X hx (hb hby d1_25) (L' := #[.val (.ref x0), .val (.int (1 : Int32)), .val (.int (3 : Int32)), .val (.int x3), .val (.int tt), .val (.int (y1 ^^^ tt)), .val (.int (2 : Int32)), .unset, .unset, .unset]) rfl (q := 27) rfl ?_
  have cut3 : ∀ (z0 z1 z2 z3 z4 : Int32) (s7 s8 s9 : Slot) (T : State) (hh : Heap) (locs : List Loc), One s7 → One s8 → One s9 → Stand p l e ({ frames := 0, cells := 0, slots := 0, locals := 0 } : Room) s m #[(.ref x0), (.int (1 : Int32)), (.int (3 : Int32)), (.int x3)] below meth c T locs 0 0 → T.heap = hh → Fr n0 locs → n0 ≤ hh.size → Keep h0 hh [x0] → AI Z hh x0 .int [z0, z1, z2, z3, z4] → ¬ (z2 ^^^ tt) < (z1 ^^^ tt) → RES = [z0, z1, z2, z3, z4] → Go p e below (Gl s below (fun v h L => v = none ∧ Fr n0 L ∧ Keep h0 h [x0] ∧ AI Z h x0 .int RES) 0 0) T m 27 #[.val (.ref x0), .val (.int (1 : Int32)), .val (.int (3 : Int32)), .val (.int x3), .val (.int tt), .val (.int (z2 ^^^ tt)), .val (.int (3 : Int32)), s7, s8, s9] [] := by
    intro z0 z1 z2 z3 z4 s7 s8 s9 T hh locs hs7 hs8 hs9 X eT N sz K A_x0 q1 hres
    refine s_iload X hx (hb hby d1_27) rfl (q := 29) rfl ?_
    refine s_iloadN X hx (hb hby d1_29) rfl (q := 30) rfl ?_
    refine f_icmp_ge X hx (hb hby d1_30) (q1 := 111) (by decide) (by decide) (q := 33) rfl (fun _ => ?_) (fun hq => absurd hq (by decide : ¬ (3 : Int32) < (3 : Int32)))
    exact leafV X hx hlk hret (hb hby d1_111) (by decide) (by decide) (by rw [eT]; exact ⟨rfl, N, K, hres ▸ A_x0⟩)
  have cut2 : ∀ (z0 z1 z2 z3 z4 : Int32) (s7 s8 s9 : Slot) (T : State) (hh : Heap) (locs : List Loc), One s7 → One s8 → One s9 → Stand p l e ({ frames := 0, cells := 0, slots := 0, locals := 0 } : Room) s m #[(.ref x0), (.int (1 : Int32)), (.int (3 : Int32)), (.int x3)] below meth c T locs 0 0 → T.heap = hh → Fr n0 locs → n0 ≤ hh.size → Keep h0 hh [x0] → AI Z hh x0 .int [z0, z1, z2, z3, z4] → RES = (CS 1 tt [z0, z1, z2, z3, z4]) → Go p e below (Gl s below (fun v h L => v = none ∧ Fr n0 L ∧ Keep h0 h [x0] ∧ AI Z h x0 .int RES) 0 0) T m 27 #[.val (.ref x0), .val (.int (1 : Int32)), .val (.int (3 : Int32)), .val (.int x3), .val (.int tt), .val (.int (z1 ^^^ tt)), .val (.int (2 : Int32)), s7, s8, s9] [] := by
    intro z0 z1 z2 z3 z4 s7 s8 s9 T hh locs hs7 hs8 hs9 X eT N sz K A_x0  hres
    refine s_iload X hx (hb hby d1_27) rfl (q := 29) rfl ?_
    refine s_iloadN X hx (hb hby d1_29) rfl (q := 30) rfl ?_
    refine f_icmp_ge X hx (hb hby d1_30) (q1 := 111) (by decide) (by decide) (q := 33) rfl (fun hq => absurd (by decide : (2 : Int32) < (3 : Int32)) hq) (fun _ => ?_)
    refine s_aloadN X hx (hb hby d1_33) rfl rfl (q := 34) rfl ?_
    refine s_iload X hx (hb hby d1_34) rfl (q := 36) rfl ?_
    refine s_iaload X hx hZ eT A_x0 (by decide) (i := 2) rfl (x := z2) rfl (hb hby d1_36) (q := 37) rfl ?_
    refine s_istore X hx (hb hby d1_37) (L' := #[.val (.ref x0), .val (.int (1 : Int32)), .val (.int (3 : Int32)), .val (.int x3), .val (.int tt), .val (.int (z1 ^^^ tt)), .val (.int (2 : Int32)), .val (.int z2), s8, s9]) (by rcases hs7 with rfl | ⟨w', rfl, hw'⟩ <;> first | rfl | (cases w' <;> first | rfl | (simp [Value.category] at hw'))) (q := 39) rfl ?_
    refine s_iload X hx (hb hby d1_39) rfl (q := 41) rfl ?_
    refine s_iload X hx (hb hby d1_41) rfl (q := 43) rfl ?_
    refine s_ixor X hx (hb hby d1_43) (q := 44) rfl ?_
    refine s_istore X hx (hb hby d1_44) (L' := #[.val (.ref x0), .val (.int (1 : Int32)), .val (.int (3 : Int32)), .val (.int x3), .val (.int tt), .val (.int (z1 ^^^ tt)), .val (.int (2 : Int32)), .val (.int z2), .val (.int (z2 ^^^ tt)), s9]) (by rcases hs8 with rfl | ⟨w', rfl, hw'⟩ <;> first | rfl | (cases w' <;> first | rfl | (simp [Value.category] at hw'))) (q := 46) rfl ?_
    refine s_iload X hx (hb hby d1_46) rfl (q := 48) rfl ?_
    refine s_iload X hx (hb hby d1_48) rfl (q := 50) rfl ?_
    refine f_icmp_lt X hx (hb hby d1_50) (q1 := 60) (by decide) (by decide) (q := 53) rfl (fun hc50 => ?_) (fun hc50 => ?_)
    · refine s_iload X hx (hb hby d1_60) rfl (q := 62) rfl ?_
      refine s_iconst X hx (z := (1 : Int32)) (hb hby d1_62) rfl (q := 63) rfl ?_
      refine s_isub X hx (hb hby d1_63) (q := 64) rfl ?_
      show Go p e below _ T m 64 #[.val (.ref x0), .val (.int (1 : Int32)), .val (.int (3 : Int32)), .val (.int x3), .val (.int tt), .val (.int (z1 ^^^ tt)), .val (.int (2 : Int32)), .val (.int z2), .val (.int (z2 ^^^ tt)), s9] [(.int (1 : Int32))]
      refine s_istore X hx (hb hby d1_64) (L' := #[.val (.ref x0), .val (.int (1 : Int32)), .val (.int (3 : Int32)), .val (.int x3), .val (.int tt), .val (.int (z1 ^^^ tt)), .val (.int (2 : Int32)), .val (.int z2), .val (.int (z2 ^^^ tt)), .val (.int (1 : Int32))]) (by rcases hs9 with rfl | ⟨w', rfl, hw'⟩ <;> first | rfl | (cases w' <;> first | rfl | (simp [Value.category] at hw'))) (q := 66) rfl ?_
      refine s_aloadN X hx (hb hby d1_66) rfl rfl (q := 67) rfl ?_
      refine s_iload X hx (hb hby d1_67) rfl (q := 69) rfl ?_
      refine s_iconst X hx (z := (1 : Int32)) (hb hby d1_69) rfl (q := 70) rfl ?_
      refine s_iadd X hx (hb hby d1_70) (q := 71) rfl ?_
      show Go p e below _ T m 71 #[.val (.ref x0), .val (.int (1 : Int32)), .val (.int (3 : Int32)), .val (.int x3), .val (.int tt), .val (.int (z1 ^^^ tt)), .val (.int (2 : Int32)), .val (.int z2), .val (.int (z2 ^^^ tt)), .val (.int (1 : Int32))] [(.int (2 : Int32)), (.ref x0)]
      refine s_aloadN X hx (hb hby d1_71) rfl rfl (q := 72) rfl ?_
      refine s_iload X hx (hb hby d1_72) rfl (q := 74) rfl ?_
      refine s_iaload X hx hZ eT A_x0 (by decide) (i := 1) rfl (x := z1) rfl (hb hby d1_74) (q := 75) rfl ?_
      refine s_iastore X hx hZ eT A_x0 N g_x0 (by decide) (i := 2) rfl (Nat.le_of_ble_eq_true rfl) (ys := [z0, z1, z1, z3, z4]) rfl (hb hby d1_75) (q := 76) rfl ?_
      intro T h1 _ X N eT W A_x0'
      have K := K.wr W (Or.inl (List.mem_of_getElem? (i := 0) rfl))
      have sz : n0 ≤ h1.size := by rw [W.size]; exact sz
      have A_x0 := A_x0'
      refine s_iinc X hx (w := (0 : Int32)) (hb hby d1_76) rfl rfl (L' := #[.val (.ref x0), .val (.int (1 : Int32)), .val (.int (3 : Int32)), .val (.int x3), .val (.int tt), .val (.int (z1 ^^^ tt)), .val (.int (2 : Int32)), .val (.int z2), .val (.int (z2 ^^^ tt)), .val (.int (0 : Int32))]) rfl (q := 79) rfl ?_
      refine s_iload X hx (hb hby d1_79) rfl (q := 81) rfl ?_
      refine s_iloadN X hx (hb hby d1_81) rfl (q := 82) rfl ?_
      refine f_icmp_lt X hx (hb hby d1_82) (q1 := 97) (by decide) (by decide) (q := 85) rfl (fun _ => ?_) (fun hq => absurd (by decide : (0 : Int32) < (1 : Int32)) hq)
      refine s_aloadN X hx (hb hby d1_97) rfl rfl (q := 98) rfl ?_
      refine s_iload X hx (hb hby d1_98) rfl (q := 100) rfl ?_
      refine s_iconst X hx (z := (1 : Int32)) (hb hby d1_100) rfl (q := 101) rfl ?_
      refine s_iadd X hx (hb hby d1_101) (q := 102) rfl ?_
      show Go p e below _ T m 102 #[.val (.ref x0), .val (.int (1 : Int32)), .val (.int (3 : Int32)), .val (.int x3), .val (.int tt), .val (.int (z1 ^^^ tt)), .val (.int (2 : Int32)), .val (.int z2), .val (.int (z2 ^^^ tt)), .val (.int (0 : Int32))] [(.int (1 : Int32)), (.ref x0)]
      refine s_iload X hx (hb hby d1_102) rfl (q := 104) rfl ?_
      refine s_iastore X hx hZ eT A_x0 N g_x0 (by decide) (i := 1) rfl (Nat.le_of_ble_eq_true rfl) (ys := [z0, z2, z1, z3, z4]) rfl (hb hby d1_104) (q := 105) rfl ?_
      intro T h2 _ X N eT W A_x0'
      have K := K.wr W (Or.inl (List.mem_of_getElem? (i := 0) rfl))
      have sz : n0 ≤ h2.size := by rw [W.size]; exact sz
      have A_x0 := A_x0'
      refine s_iinc X hx (w := (3 : Int32)) (hb hby d1_105) rfl rfl (L' := #[.val (.ref x0), .val (.int (1 : Int32)), .val (.int (3 : Int32)), .val (.int x3), .val (.int tt), .val (.int (z1 ^^^ tt)), .val (.int (3 : Int32)), .val (.int z2), .val (.int (z2 ^^^ tt)), .val (.int (0 : Int32))]) rfl (q := 108) rfl ?_
      refine s_goto X hx (hb hby d1_108) (q1 := 27) (by decide) (by decide) ?_
      exact cut3 z0 z2 z1 z3 z4 _ _ _ _ _ _ (One.val rfl) (One.val rfl) (One.val rfl) X eT N sz K A_x0 (own_asym hc50) (hres.trans (by rw [show (CS 1 tt [z0, z1, z2, z3, z4]) = [z0, z2, z1, z3, z4] from by simp only [CS, List.getD_cons_zero, List.getD_cons_succ, List.set_cons_zero, List.set_cons_succ, if_pos hc50]]))
    refine s_iload X hx (hb hby d1_53) rfl (q := 55) rfl ?_
    refine s_istore X hx (hb hby d1_55) (L' := #[.val (.ref x0), .val (.int (1 : Int32)), .val (.int (3 : Int32)), .val (.int x3), .val (.int tt), .val (.int (z2 ^^^ tt)), .val (.int (2 : Int32)), .val (.int z2), .val (.int (z2 ^^^ tt)), s9]) rfl (q := 57) rfl ?_
    refine s_goto X hx (hb hby d1_57) (q1 := 105) (by decide) (by decide) ?_
    refine s_iinc X hx (w := (3 : Int32)) (hb hby d1_105) rfl rfl (L' := #[.val (.ref x0), .val (.int (1 : Int32)), .val (.int (3 : Int32)), .val (.int x3), .val (.int tt), .val (.int (z2 ^^^ tt)), .val (.int (3 : Int32)), .val (.int z2), .val (.int (z2 ^^^ tt)), s9]) rfl (q := 108) rfl ?_
    refine s_goto X hx (hb hby d1_108) (q1 := 27) (by decide) (by decide) ?_
    exact cut3 z0 z1 z2 z3 z4 _ _ _ _ _ _ (One.val rfl) (One.val rfl) hs9 X eT N sz K A_x0 hc50 (hres.trans (by rw [show (CS 1 tt [z0, z1, z2, z3, z4]) = [z0, z1, z2, z3, z4] from by simp only [CS, List.getD_cons_zero, List.getD_cons_succ, List.set_cons_zero, List.set_cons_succ, if_neg hc50]]))
  exact cut2 y0 y1 y2 y3 y4 _ _ _ _ _ _ One.u One.u One.u X eT N sz K A_x0 (by rw [htt] at hRES; exact hRES)
set_option maxRecDepth 65536 in
set_option maxHeartbeats 40000000 in
theorem rm1_14 (l : Launch) (Z : State) (a0 : Array Value) (hw : ∀ d ∈ tables_1, d.before a0 Z = true) (ws : List Jvm.Cond) (x0 : Addr) (x3 : Int32) (y0 y1 y2 y3 y4 : Int32) (RES : List Int32) (h0 : Heap) (n0 : Nat) (sz : n0 ≤ h0.size) (A_x0 : AI Z h0 x0 .int [y0, y1, y2, y3, y4]) (g_x0 : n0 ≤ x0) (hRES : RES = (CS 1 (x3 ^^^ (-2147483648 : Int32)) (CS 2 (x3 ^^^ (-2147483648 : Int32)) (CS 1 (x3 ^^^ (-2147483648 : Int32)) [y0, y1, y2, y3, y4])))) :
    Ctr l (⟨"com/example/digitwise/digitwise/internal/IntRadixSort", "insertionSort", "([IIII)V"⟩ : MethodName) prog_7_method_52_code 10 none ws ({ frames := 0, cells := 0, slots := 0, locals := 0 } : Room) Z #[(.ref x0), (.int (1 : Int32)), (.int (4 : Int32)), (.int x3)] h0 (fun v h L => v = none ∧ Fr n0 L ∧ Keep h0 h [x0] ∧ AI Z h x0 .int RES) 0 0 := by
  refine Ctr.mk pn_1 ?_
  intro p e s m below meth c T hx hby hml hown hnm hlk hret hZ X eT
  have N := Fr.nil n0
  refine enter (ef_1 m x0 (1 : Int32) (4 : Int32) x3) ?_
  have K := Keep.refl h0 [x0]
  revert hRES
  intro hRES
  refine s_iloadN X hx (hb hby d1_0) rfl (q := 1) rfl ?_
  refine s_iloadN X hx (hb hby d1_1) rfl (q := 2) rfl ?_
  refine s_isub X hx (hb hby d1_2) (q := 3) rfl ?_
  show Go p e below _ T m 3 #[.val (.ref x0), .val (.int (1 : Int32)), .val (.int (4 : Int32)), .val (.int x3), .unset, .unset, .unset, .unset, .unset, .unset] [(.int (3 : Int32))]
  refine s_iconst X hx (z := (2 : Int32)) (hb hby d1_3) rfl (q := 4) rfl ?_
  refine f_icmp_ge X hx (hb hby d1_4) (q1 := 8) (by decide) (by decide) (q := 7) rfl (fun _ => ?_) (fun hq => absurd hq (by decide : ¬ (3 : Int32) < (2 : Int32)))
  refine s_iloadN X hx (hb hby d1_8) rfl (q := 9) rfl ?_
  refine s_ldc X hx hZ hown (hw _ (List.mem_of_getElem? (i := 10) rfl)) (hb hby d1_9) (q := 11) rfl ?_
  refine s_ixor X hx (hb hby d1_11) (q := 12) rfl ?_
  generalize htt : (x3 ^^^ (-2147483648 : Int32)) = tt
  refine s_istore X hx (hb hby d1_12) (L' := #[.val (.ref x0), .val (.int (1 : Int32)), .val (.int (4 : Int32)), .val (.int x3), .val (.int tt), .unset, .unset, .unset, .unset, .unset]) rfl (q := 14) rfl ?_
  refine s_aloadN X hx (hb hby d1_14) rfl rfl (q := 15) rfl ?_
  refine s_iloadN X hx (hb hby d1_15) rfl (q := 16) rfl ?_
  refine s_iaload X hx hZ eT A_x0 (by decide) (i := 1) rfl (x := y1) rfl (hb hby d1_16) (q := 17) rfl ?_
  refine s_iload X hx (hb hby d1_17) rfl (q := 19) rfl ?_
  refine s_ixor X hx (hb hby d1_19) (q := 20) rfl ?_
  refine s_istore X hx (hb hby d1_20) (L' := #[.val (.ref x0), .val (.int (1 : Int32)), .val (.int (4 : Int32)), .val (.int x3), .val (.int tt), .val (.int (y1 ^^^ tt)), .unset, .unset, .unset, .unset]) rfl (q := 22) rfl ?_
  refine s_iloadN X hx (hb hby d1_22) rfl (q := 23) rfl ?_
  refine s_iconst X hx (z := (1 : Int32)) (hb hby d1_23) rfl (q := 24) rfl ?_
  refine s_iadd X hx (hb hby d1_24) (q := 25) rfl ?_
  show Go p e below _ T m 25 #[.val (.ref x0), .val (.int (1 : Int32)), .val (.int (4 : Int32)), .val (.int x3), .val (.int tt), .val (.int (y1 ^^^ tt)), .unset, .unset, .unset, .unset] [(.int (2 : Int32))]
  refine s_istore X hx (hb hby d1_25) (L' := #[.val (.ref x0), .val (.int (1 : Int32)), .val (.int (4 : Int32)), .val (.int x3), .val (.int tt), .val (.int (y1 ^^^ tt)), .val (.int (2 : Int32)), .unset, .unset, .unset]) rfl (q := 27) rfl ?_
  have cut4 : ∀ (z0 z1 z2 z3 z4 : Int32) (s7 s8 s9 : Slot) (T : State) (hh : Heap) (locs : List Loc), One s7 → One s8 → One s9 → Stand p l e ({ frames := 0, cells := 0, slots := 0, locals := 0 } : Room) s m #[(.ref x0), (.int (1 : Int32)), (.int (4 : Int32)), (.int x3)] below meth c T locs 0 0 → T.heap = hh → Fr n0 locs → n0 ≤ hh.size → Keep h0 hh [x0] → AI Z hh x0 .int [z0, z1, z2, z3, z4] → ¬ (z2 ^^^ tt) < (z1 ^^^ tt) → ¬ (z3 ^^^ tt) < (z2 ^^^ tt) → RES = [z0, z1, z2, z3, z4] → Go p e below (Gl s below (fun v h L => v = none ∧ Fr n0 L ∧ Keep h0 h [x0] ∧ AI Z h x0 .int RES) 0 0) T m 27 #[.val (.ref x0), .val (.int (1 : Int32)), .val (.int (4 : Int32)), .val (.int x3), .val (.int tt), .val (.int (z3 ^^^ tt)), .val (.int (4 : Int32)), s7, s8, s9] [] := by
    intro z0 z1 z2 z3 z4 s7 s8 s9 T hh locs hs7 hs8 hs9 X eT N sz K A_x0 q1 q2 hres
    refine s_iload X hx (hb hby d1_27) rfl (q := 29) rfl ?_
    refine s_iloadN X hx (hb hby d1_29) rfl (q := 30) rfl ?_
    refine f_icmp_ge X hx (hb hby d1_30) (q1 := 111) (by decide) (by decide) (q := 33) rfl (fun _ => ?_) (fun hq => absurd hq (by decide : ¬ (4 : Int32) < (4 : Int32)))
    exact leafV X hx hlk hret (hb hby d1_111) (by decide) (by decide) (by rw [eT]; exact ⟨rfl, N, K, hres ▸ A_x0⟩)
  have cut3 : ∀ (z0 z1 z2 z3 z4 : Int32) (s7 s8 s9 : Slot) (T : State) (hh : Heap) (locs : List Loc), One s7 → One s8 → One s9 → Stand p l e ({ frames := 0, cells := 0, slots := 0, locals := 0 } : Room) s m #[(.ref x0), (.int (1 : Int32)), (.int (4 : Int32)), (.int x3)] below meth c T locs 0 0 → T.heap = hh → Fr n0 locs → n0 ≤ hh.size → Keep h0 hh [x0] → AI Z hh x0 .int [z0, z1, z2, z3, z4] → ¬ (z2 ^^^ tt) < (z1 ^^^ tt) → RES = (CS 1 tt (CS 2 tt [z0, z1, z2, z3, z4])) → Go p e below (Gl s below (fun v h L => v = none ∧ Fr n0 L ∧ Keep h0 h [x0] ∧ AI Z h x0 .int RES) 0 0) T m 27 #[.val (.ref x0), .val (.int (1 : Int32)), .val (.int (4 : Int32)), .val (.int x3), .val (.int tt), .val (.int (z2 ^^^ tt)), .val (.int (3 : Int32)), s7, s8, s9] [] := by
    intro z0 z1 z2 z3 z4 s7 s8 s9 T hh locs hs7 hs8 hs9 X eT N sz K A_x0 q1 hres
    refine s_iload X hx (hb hby d1_27) rfl (q := 29) rfl ?_
    refine s_iloadN X hx (hb hby d1_29) rfl (q := 30) rfl ?_
    refine f_icmp_ge X hx (hb hby d1_30) (q1 := 111) (by decide) (by decide) (q := 33) rfl (fun hq => absurd (by decide : (3 : Int32) < (4 : Int32)) hq) (fun _ => ?_)
    refine s_aloadN X hx (hb hby d1_33) rfl rfl (q := 34) rfl ?_
    refine s_iload X hx (hb hby d1_34) rfl (q := 36) rfl ?_
    refine s_iaload X hx hZ eT A_x0 (by decide) (i := 3) rfl (x := z3) rfl (hb hby d1_36) (q := 37) rfl ?_
    refine s_istore X hx (hb hby d1_37) (L' := #[.val (.ref x0), .val (.int (1 : Int32)), .val (.int (4 : Int32)), .val (.int x3), .val (.int tt), .val (.int (z2 ^^^ tt)), .val (.int (3 : Int32)), .val (.int z3), s8, s9]) (by rcases hs7 with rfl | ⟨w', rfl, hw'⟩ <;> first | rfl | (cases w' <;> first | rfl | (simp [Value.category] at hw'))) (q := 39) rfl ?_
    refine s_iload X hx (hb hby d1_39) rfl (q := 41) rfl ?_
    refine s_iload X hx (hb hby d1_41) rfl (q := 43) rfl ?_
    refine s_ixor X hx (hb hby d1_43) (q := 44) rfl ?_
    refine s_istore X hx (hb hby d1_44) (L' := #[.val (.ref x0), .val (.int (1 : Int32)), .val (.int (4 : Int32)), .val (.int x3), .val (.int tt), .val (.int (z2 ^^^ tt)), .val (.int (3 : Int32)), .val (.int z3), .val (.int (z3 ^^^ tt)), s9]) (by rcases hs8 with rfl | ⟨w', rfl, hw'⟩ <;> first | rfl | (cases w' <;> first | rfl | (simp [Value.category] at hw'))) (q := 46) rfl ?_
    refine s_iload X hx (hb hby d1_46) rfl (q := 48) rfl ?_
    refine s_iload X hx (hb hby d1_48) rfl (q := 50) rfl ?_
    refine f_icmp_lt X hx (hb hby d1_50) (q1 := 60) (by decide) (by decide) (q := 53) rfl (fun hc50 => ?_) (fun hc50 => ?_)
    · refine s_iload X hx (hb hby d1_60) rfl (q := 62) rfl ?_
      refine s_iconst X hx (z := (1 : Int32)) (hb hby d1_62) rfl (q := 63) rfl ?_
      refine s_isub X hx (hb hby d1_63) (q := 64) rfl ?_
      show Go p e below _ T m 64 #[.val (.ref x0), .val (.int (1 : Int32)), .val (.int (4 : Int32)), .val (.int x3), .val (.int tt), .val (.int (z2 ^^^ tt)), .val (.int (3 : Int32)), .val (.int z3), .val (.int (z3 ^^^ tt)), s9] [(.int (2 : Int32))]
      refine s_istore X hx (hb hby d1_64) (L' := #[.val (.ref x0), .val (.int (1 : Int32)), .val (.int (4 : Int32)), .val (.int x3), .val (.int tt), .val (.int (z2 ^^^ tt)), .val (.int (3 : Int32)), .val (.int z3), .val (.int (z3 ^^^ tt)), .val (.int (2 : Int32))]) (by rcases hs9 with rfl | ⟨w', rfl, hw'⟩ <;> first | rfl | (cases w' <;> first | rfl | (simp [Value.category] at hw'))) (q := 66) rfl ?_
      refine s_aloadN X hx (hb hby d1_66) rfl rfl (q := 67) rfl ?_
      refine s_iload X hx (hb hby d1_67) rfl (q := 69) rfl ?_
      refine s_iconst X hx (z := (1 : Int32)) (hb hby d1_69) rfl (q := 70) rfl ?_
      refine s_iadd X hx (hb hby d1_70) (q := 71) rfl ?_
      show Go p e below _ T m 71 #[.val (.ref x0), .val (.int (1 : Int32)), .val (.int (4 : Int32)), .val (.int x3), .val (.int tt), .val (.int (z2 ^^^ tt)), .val (.int (3 : Int32)), .val (.int z3), .val (.int (z3 ^^^ tt)), .val (.int (2 : Int32))] [(.int (3 : Int32)), (.ref x0)]
      refine s_aloadN X hx (hb hby d1_71) rfl rfl (q := 72) rfl ?_
      refine s_iload X hx (hb hby d1_72) rfl (q := 74) rfl ?_
      refine s_iaload X hx hZ eT A_x0 (by decide) (i := 2) rfl (x := z2) rfl (hb hby d1_74) (q := 75) rfl ?_
      refine s_iastore X hx hZ eT A_x0 N g_x0 (by decide) (i := 3) rfl (Nat.le_of_ble_eq_true rfl) (ys := [z0, z1, z2, z2, z4]) rfl (hb hby d1_75) (q := 76) rfl ?_
      intro T h1 _ X N eT W A_x0'
      have K := K.wr W (Or.inl (List.mem_of_getElem? (i := 0) rfl))
      have sz : n0 ≤ h1.size := by rw [W.size]; exact sz
      have A_x0 := A_x0'
      refine s_iinc X hx (w := (1 : Int32)) (hb hby d1_76) rfl rfl (L' := #[.val (.ref x0), .val (.int (1 : Int32)), .val (.int (4 : Int32)), .val (.int x3), .val (.int tt), .val (.int (z2 ^^^ tt)), .val (.int (3 : Int32)), .val (.int z3), .val (.int (z3 ^^^ tt)), .val (.int (1 : Int32))]) rfl (q := 79) rfl ?_
      refine s_iload X hx (hb hby d1_79) rfl (q := 81) rfl ?_
      refine s_iloadN X hx (hb hby d1_81) rfl (q := 82) rfl ?_
      refine f_icmp_lt X hx (hb hby d1_82) (q1 := 97) (by decide) (by decide) (q := 85) rfl (fun hq => absurd hq (by decide : ¬ (1 : Int32) < (1 : Int32))) (fun _ => ?_)
      refine s_aloadN X hx (hb hby d1_85) rfl rfl (q := 86) rfl ?_
      refine s_iload X hx (hb hby d1_86) rfl (q := 88) rfl ?_
      refine s_iaload X hx hZ eT A_x0 (by decide) (i := 1) rfl (x := z1) rfl (hb hby d1_88) (q := 89) rfl ?_
      refine s_iload X hx (hb hby d1_89) rfl (q := 91) rfl ?_
      refine s_ixor X hx (hb hby d1_91) (q := 92) rfl ?_
      refine s_iload X hx (hb hby d1_92) rfl (q := 94) rfl ?_
      refine f_icmp_gt X hx (hb hby d1_94) (q1 := 66) (by decide) (by decide) (q := 97) rfl (fun hc94 => ?_) (fun hc94 => ?_)
      · refine s_aloadN X hx (hb hby d1_66) rfl rfl (q := 67) rfl ?_
        refine s_iload X hx (hb hby d1_67) rfl (q := 69) rfl ?_
        refine s_iconst X hx (z := (1 : Int32)) (hb hby d1_69) rfl (q := 70) rfl ?_
        refine s_iadd X hx (hb hby d1_70) (q := 71) rfl ?_
        show Go p e below _ T m 71 #[.val (.ref x0), .val (.int (1 : Int32)), .val (.int (4 : Int32)), .val (.int x3), .val (.int tt), .val (.int (z2 ^^^ tt)), .val (.int (3 : Int32)), .val (.int z3), .val (.int (z3 ^^^ tt)), .val (.int (1 : Int32))] [(.int (2 : Int32)), (.ref x0)]
        refine s_aloadN X hx (hb hby d1_71) rfl rfl (q := 72) rfl ?_
        refine s_iload X hx (hb hby d1_72) rfl (q := 74) rfl ?_
        refine s_iaload X hx hZ eT A_x0 (by decide) (i := 1) rfl (x := z1) rfl (hb hby d1_74) (q := 75) rfl ?_
        refine s_iastore X hx hZ eT A_x0 N g_x0 (by decide) (i := 2) rfl (Nat.le_of_ble_eq_true rfl) (ys := [z0, z1, z1, z2, z4]) rfl (hb hby d1_75) (q := 76) rfl ?_
        intro T h2 _ X N eT W A_x0'
        have K := K.wr W (Or.inl (List.mem_of_getElem? (i := 0) rfl))
        have sz : n0 ≤ h2.size := by rw [W.size]; exact sz
        have A_x0 := A_x0'
        refine s_iinc X hx (w := (0 : Int32)) (hb hby d1_76) rfl rfl (L' := #[.val (.ref x0), .val (.int (1 : Int32)), .val (.int (4 : Int32)), .val (.int x3), .val (.int tt), .val (.int (z2 ^^^ tt)), .val (.int (3 : Int32)), .val (.int z3), .val (.int (z3 ^^^ tt)), .val (.int (0 : Int32))]) rfl (q := 79) rfl ?_
        refine s_iload X hx (hb hby d1_79) rfl (q := 81) rfl ?_
        refine s_iloadN X hx (hb hby d1_81) rfl (q := 82) rfl ?_
        refine f_icmp_lt X hx (hb hby d1_82) (q1 := 97) (by decide) (by decide) (q := 85) rfl (fun _ => ?_) (fun hq => absurd (by decide : (0 : Int32) < (1 : Int32)) hq)
        refine s_aloadN X hx (hb hby d1_97) rfl rfl (q := 98) rfl ?_
        refine s_iload X hx (hb hby d1_98) rfl (q := 100) rfl ?_
        refine s_iconst X hx (z := (1 : Int32)) (hb hby d1_100) rfl (q := 101) rfl ?_
        refine s_iadd X hx (hb hby d1_101) (q := 102) rfl ?_
        show Go p e below _ T m 102 #[.val (.ref x0), .val (.int (1 : Int32)), .val (.int (4 : Int32)), .val (.int x3), .val (.int tt), .val (.int (z2 ^^^ tt)), .val (.int (3 : Int32)), .val (.int z3), .val (.int (z3 ^^^ tt)), .val (.int (0 : Int32))] [(.int (1 : Int32)), (.ref x0)]
        refine s_iload X hx (hb hby d1_102) rfl (q := 104) rfl ?_
        refine s_iastore X hx hZ eT A_x0 N g_x0 (by decide) (i := 1) rfl (Nat.le_of_ble_eq_true rfl) (ys := [z0, z3, z1, z2, z4]) rfl (hb hby d1_104) (q := 105) rfl ?_
        intro T h3 _ X N eT W A_x0'
        have K := K.wr W (Or.inl (List.mem_of_getElem? (i := 0) rfl))
        have sz : n0 ≤ h3.size := by rw [W.size]; exact sz
        have A_x0 := A_x0'
        refine s_iinc X hx (w := (4 : Int32)) (hb hby d1_105) rfl rfl (L' := #[.val (.ref x0), .val (.int (1 : Int32)), .val (.int (4 : Int32)), .val (.int x3), .val (.int tt), .val (.int (z2 ^^^ tt)), .val (.int (4 : Int32)), .val (.int z3), .val (.int (z3 ^^^ tt)), .val (.int (0 : Int32))]) rfl (q := 108) rfl ?_
        refine s_goto X hx (hb hby d1_108) (q1 := 27) (by decide) (by decide) ?_
        exact cut4 z0 z3 z1 z2 z4 _ _ _ _ _ _ (One.val rfl) (One.val rfl) (One.val rfl) X eT N sz K A_x0 (own_asym hc94) q1 (hres.trans (by rw [show (CS 1 tt (CS 2 tt [z0, z1, z2, z3, z4])) = [z0, z3, z1, z2, z4] from by simp only [CS, List.getD_cons_zero, List.getD_cons_succ, List.set_cons_zero, List.set_cons_succ, if_pos hc50, if_pos hc94]]))
      refine s_aloadN X hx (hb hby d1_97) rfl rfl (q := 98) rfl ?_
      refine s_iload X hx (hb hby d1_98) rfl (q := 100) rfl ?_
      refine s_iconst X hx (z := (1 : Int32)) (hb hby d1_100) rfl (q := 101) rfl ?_
      refine s_iadd X hx (hb hby d1_101) (q := 102) rfl ?_
      show Go p e below _ T m 102 #[.val (.ref x0), .val (.int (1 : Int32)), .val (.int (4 : Int32)), .val (.int x3), .val (.int tt), .val (.int (z2 ^^^ tt)), .val (.int (3 : Int32)), .val (.int z3), .val (.int (z3 ^^^ tt)), .val (.int (1 : Int32))] [(.int (2 : Int32)), (.ref x0)]
      refine s_iload X hx (hb hby d1_102) rfl (q := 104) rfl ?_
      refine s_iastore X hx hZ eT A_x0 N g_x0 (by decide) (i := 2) rfl (Nat.le_of_ble_eq_true rfl) (ys := [z0, z1, z3, z2, z4]) rfl (hb hby d1_104) (q := 105) rfl ?_
      intro T h4 _ X N eT W A_x0'
      have K := K.wr W (Or.inl (List.mem_of_getElem? (i := 0) rfl))
      have sz : n0 ≤ h4.size := by rw [W.size]; exact sz
      have A_x0 := A_x0'
      refine s_iinc X hx (w := (4 : Int32)) (hb hby d1_105) rfl rfl (L' := #[.val (.ref x0), .val (.int (1 : Int32)), .val (.int (4 : Int32)), .val (.int x3), .val (.int tt), .val (.int (z2 ^^^ tt)), .val (.int (4 : Int32)), .val (.int z3), .val (.int (z3 ^^^ tt)), .val (.int (1 : Int32))]) rfl (q := 108) rfl ?_
      refine s_goto X hx (hb hby d1_108) (q1 := 27) (by decide) (by decide) ?_
      exact cut4 z0 z1 z3 z2 z4 _ _ _ _ _ _ (One.val rfl) (One.val rfl) (One.val rfl) X eT N sz K A_x0 hc94 (own_asym hc50) (hres.trans (by rw [show (CS 1 tt (CS 2 tt [z0, z1, z2, z3, z4])) = [z0, z1, z3, z2, z4] from by simp only [CS, List.getD_cons_zero, List.getD_cons_succ, List.set_cons_zero, List.set_cons_succ, if_pos hc50, if_neg hc94]]))
    refine s_iload X hx (hb hby d1_53) rfl (q := 55) rfl ?_
    refine s_istore X hx (hb hby d1_55) (L' := #[.val (.ref x0), .val (.int (1 : Int32)), .val (.int (4 : Int32)), .val (.int x3), .val (.int tt), .val (.int (z3 ^^^ tt)), .val (.int (3 : Int32)), .val (.int z3), .val (.int (z3 ^^^ tt)), s9]) rfl (q := 57) rfl ?_
    refine s_goto X hx (hb hby d1_57) (q1 := 105) (by decide) (by decide) ?_
    refine s_iinc X hx (w := (4 : Int32)) (hb hby d1_105) rfl rfl (L' := #[.val (.ref x0), .val (.int (1 : Int32)), .val (.int (4 : Int32)), .val (.int x3), .val (.int tt), .val (.int (z3 ^^^ tt)), .val (.int (4 : Int32)), .val (.int z3), .val (.int (z3 ^^^ tt)), s9]) rfl (q := 108) rfl ?_
    refine s_goto X hx (hb hby d1_108) (q1 := 27) (by decide) (by decide) ?_
    exact cut4 z0 z1 z2 z3 z4 _ _ _ _ _ _ (One.val rfl) (One.val rfl) hs9 X eT N sz K A_x0 q1 hc50 (hres.trans (by rw [show (CS 1 tt (CS 2 tt [z0, z1, z2, z3, z4])) = [z0, z1, z2, z3, z4] from by simp only [CS, List.getD_cons_zero, List.getD_cons_succ, List.set_cons_zero, List.set_cons_succ, if_neg hc50, if_neg q1]]))
  have cut2 : ∀ (z0 z1 z2 z3 z4 : Int32) (s7 s8 s9 : Slot) (T : State) (hh : Heap) (locs : List Loc), One s7 → One s8 → One s9 → Stand p l e ({ frames := 0, cells := 0, slots := 0, locals := 0 } : Room) s m #[(.ref x0), (.int (1 : Int32)), (.int (4 : Int32)), (.int x3)] below meth c T locs 0 0 → T.heap = hh → Fr n0 locs → n0 ≤ hh.size → Keep h0 hh [x0] → AI Z hh x0 .int [z0, z1, z2, z3, z4] → RES = (CS 1 tt (CS 2 tt (CS 1 tt [z0, z1, z2, z3, z4]))) → Go p e below (Gl s below (fun v h L => v = none ∧ Fr n0 L ∧ Keep h0 h [x0] ∧ AI Z h x0 .int RES) 0 0) T m 27 #[.val (.ref x0), .val (.int (1 : Int32)), .val (.int (4 : Int32)), .val (.int x3), .val (.int tt), .val (.int (z1 ^^^ tt)), .val (.int (2 : Int32)), s7, s8, s9] [] := by
    intro z0 z1 z2 z3 z4 s7 s8 s9 T hh locs hs7 hs8 hs9 X eT N sz K A_x0  hres
    refine s_iload X hx (hb hby d1_27) rfl (q := 29) rfl ?_
    refine s_iloadN X hx (hb hby d1_29) rfl (q := 30) rfl ?_
    refine f_icmp_ge X hx (hb hby d1_30) (q1 := 111) (by decide) (by decide) (q := 33) rfl (fun hq => absurd (by decide : (2 : Int32) < (4 : Int32)) hq) (fun _ => ?_)
    refine s_aloadN X hx (hb hby d1_33) rfl rfl (q := 34) rfl ?_
    refine s_iload X hx (hb hby d1_34) rfl (q := 36) rfl ?_
    refine s_iaload X hx hZ eT A_x0 (by decide) (i := 2) rfl (x := z2) rfl (hb hby d1_36) (q := 37) rfl ?_
    refine s_istore X hx (hb hby d1_37) (L' := #[.val (.ref x0), .val (.int (1 : Int32)), .val (.int (4 : Int32)), .val (.int x3), .val (.int tt), .val (.int (z1 ^^^ tt)), .val (.int (2 : Int32)), .val (.int z2), s8, s9]) (by rcases hs7 with rfl | ⟨w', rfl, hw'⟩ <;> first | rfl | (cases w' <;> first | rfl | (simp [Value.category] at hw'))) (q := 39) rfl ?_
    refine s_iload X hx (hb hby d1_39) rfl (q := 41) rfl ?_
    refine s_iload X hx (hb hby d1_41) rfl (q := 43) rfl ?_
    refine s_ixor X hx (hb hby d1_43) (q := 44) rfl ?_
    refine s_istore X hx (hb hby d1_44) (L' := #[.val (.ref x0), .val (.int (1 : Int32)), .val (.int (4 : Int32)), .val (.int x3), .val (.int tt), .val (.int (z1 ^^^ tt)), .val (.int (2 : Int32)), .val (.int z2), .val (.int (z2 ^^^ tt)), s9]) (by rcases hs8 with rfl | ⟨w', rfl, hw'⟩ <;> first | rfl | (cases w' <;> first | rfl | (simp [Value.category] at hw'))) (q := 46) rfl ?_
    refine s_iload X hx (hb hby d1_46) rfl (q := 48) rfl ?_
    refine s_iload X hx (hb hby d1_48) rfl (q := 50) rfl ?_
    refine f_icmp_lt X hx (hb hby d1_50) (q1 := 60) (by decide) (by decide) (q := 53) rfl (fun hc50 => ?_) (fun hc50 => ?_)
    · refine s_iload X hx (hb hby d1_60) rfl (q := 62) rfl ?_
      refine s_iconst X hx (z := (1 : Int32)) (hb hby d1_62) rfl (q := 63) rfl ?_
      refine s_isub X hx (hb hby d1_63) (q := 64) rfl ?_
      show Go p e below _ T m 64 #[.val (.ref x0), .val (.int (1 : Int32)), .val (.int (4 : Int32)), .val (.int x3), .val (.int tt), .val (.int (z1 ^^^ tt)), .val (.int (2 : Int32)), .val (.int z2), .val (.int (z2 ^^^ tt)), s9] [(.int (1 : Int32))]
      refine s_istore X hx (hb hby d1_64) (L' := #[.val (.ref x0), .val (.int (1 : Int32)), .val (.int (4 : Int32)), .val (.int x3), .val (.int tt), .val (.int (z1 ^^^ tt)), .val (.int (2 : Int32)), .val (.int z2), .val (.int (z2 ^^^ tt)), .val (.int (1 : Int32))]) (by rcases hs9 with rfl | ⟨w', rfl, hw'⟩ <;> first | rfl | (cases w' <;> first | rfl | (simp [Value.category] at hw'))) (q := 66) rfl ?_
      refine s_aloadN X hx (hb hby d1_66) rfl rfl (q := 67) rfl ?_
      refine s_iload X hx (hb hby d1_67) rfl (q := 69) rfl ?_
      refine s_iconst X hx (z := (1 : Int32)) (hb hby d1_69) rfl (q := 70) rfl ?_
      refine s_iadd X hx (hb hby d1_70) (q := 71) rfl ?_
      show Go p e below _ T m 71 #[.val (.ref x0), .val (.int (1 : Int32)), .val (.int (4 : Int32)), .val (.int x3), .val (.int tt), .val (.int (z1 ^^^ tt)), .val (.int (2 : Int32)), .val (.int z2), .val (.int (z2 ^^^ tt)), .val (.int (1 : Int32))] [(.int (2 : Int32)), (.ref x0)]
      refine s_aloadN X hx (hb hby d1_71) rfl rfl (q := 72) rfl ?_
      refine s_iload X hx (hb hby d1_72) rfl (q := 74) rfl ?_
      refine s_iaload X hx hZ eT A_x0 (by decide) (i := 1) rfl (x := z1) rfl (hb hby d1_74) (q := 75) rfl ?_
      refine s_iastore X hx hZ eT A_x0 N g_x0 (by decide) (i := 2) rfl (Nat.le_of_ble_eq_true rfl) (ys := [z0, z1, z1, z3, z4]) rfl (hb hby d1_75) (q := 76) rfl ?_
      intro T h5 _ X N eT W A_x0'
      have K := K.wr W (Or.inl (List.mem_of_getElem? (i := 0) rfl))
      have sz : n0 ≤ h5.size := by rw [W.size]; exact sz
      have A_x0 := A_x0'
      refine s_iinc X hx (w := (0 : Int32)) (hb hby d1_76) rfl rfl (L' := #[.val (.ref x0), .val (.int (1 : Int32)), .val (.int (4 : Int32)), .val (.int x3), .val (.int tt), .val (.int (z1 ^^^ tt)), .val (.int (2 : Int32)), .val (.int z2), .val (.int (z2 ^^^ tt)), .val (.int (0 : Int32))]) rfl (q := 79) rfl ?_
      refine s_iload X hx (hb hby d1_79) rfl (q := 81) rfl ?_
      refine s_iloadN X hx (hb hby d1_81) rfl (q := 82) rfl ?_
      refine f_icmp_lt X hx (hb hby d1_82) (q1 := 97) (by decide) (by decide) (q := 85) rfl (fun _ => ?_) (fun hq => absurd (by decide : (0 : Int32) < (1 : Int32)) hq)
      refine s_aloadN X hx (hb hby d1_97) rfl rfl (q := 98) rfl ?_
      refine s_iload X hx (hb hby d1_98) rfl (q := 100) rfl ?_
      refine s_iconst X hx (z := (1 : Int32)) (hb hby d1_100) rfl (q := 101) rfl ?_
      refine s_iadd X hx (hb hby d1_101) (q := 102) rfl ?_
      show Go p e below _ T m 102 #[.val (.ref x0), .val (.int (1 : Int32)), .val (.int (4 : Int32)), .val (.int x3), .val (.int tt), .val (.int (z1 ^^^ tt)), .val (.int (2 : Int32)), .val (.int z2), .val (.int (z2 ^^^ tt)), .val (.int (0 : Int32))] [(.int (1 : Int32)), (.ref x0)]
      refine s_iload X hx (hb hby d1_102) rfl (q := 104) rfl ?_
      refine s_iastore X hx hZ eT A_x0 N g_x0 (by decide) (i := 1) rfl (Nat.le_of_ble_eq_true rfl) (ys := [z0, z2, z1, z3, z4]) rfl (hb hby d1_104) (q := 105) rfl ?_
      intro T h6 _ X N eT W A_x0'
      have K := K.wr W (Or.inl (List.mem_of_getElem? (i := 0) rfl))
      have sz : n0 ≤ h6.size := by rw [W.size]; exact sz
      have A_x0 := A_x0'
      refine s_iinc X hx (w := (3 : Int32)) (hb hby d1_105) rfl rfl (L' := #[.val (.ref x0), .val (.int (1 : Int32)), .val (.int (4 : Int32)), .val (.int x3), .val (.int tt), .val (.int (z1 ^^^ tt)), .val (.int (3 : Int32)), .val (.int z2), .val (.int (z2 ^^^ tt)), .val (.int (0 : Int32))]) rfl (q := 108) rfl ?_
      refine s_goto X hx (hb hby d1_108) (q1 := 27) (by decide) (by decide) ?_
      exact cut3 z0 z2 z1 z3 z4 _ _ _ _ _ _ (One.val rfl) (One.val rfl) (One.val rfl) X eT N sz K A_x0 (own_asym hc50) (hres.trans (by rw [show (CS 1 tt [z0, z1, z2, z3, z4]) = [z0, z2, z1, z3, z4] from by simp only [CS, List.getD_cons_zero, List.getD_cons_succ, List.set_cons_zero, List.set_cons_succ, if_pos hc50]]))
    refine s_iload X hx (hb hby d1_53) rfl (q := 55) rfl ?_
    refine s_istore X hx (hb hby d1_55) (L' := #[.val (.ref x0), .val (.int (1 : Int32)), .val (.int (4 : Int32)), .val (.int x3), .val (.int tt), .val (.int (z2 ^^^ tt)), .val (.int (2 : Int32)), .val (.int z2), .val (.int (z2 ^^^ tt)), s9]) rfl (q := 57) rfl ?_
    refine s_goto X hx (hb hby d1_57) (q1 := 105) (by decide) (by decide) ?_
    refine s_iinc X hx (w := (3 : Int32)) (hb hby d1_105) rfl rfl (L' := #[.val (.ref x0), .val (.int (1 : Int32)), .val (.int (4 : Int32)), .val (.int x3), .val (.int tt), .val (.int (z2 ^^^ tt)), .val (.int (3 : Int32)), .val (.int z2), .val (.int (z2 ^^^ tt)), s9]) rfl (q := 108) rfl ?_
    refine s_goto X hx (hb hby d1_108) (q1 := 27) (by decide) (by decide) ?_
    exact cut3 z0 z1 z2 z3 z4 _ _ _ _ _ _ (One.val rfl) (One.val rfl) hs9 X eT N sz K A_x0 hc50 (hres.trans (by rw [show (CS 1 tt [z0, z1, z2, z3, z4]) = [z0, z1, z2, z3, z4] from by simp only [CS, List.getD_cons_zero, List.getD_cons_succ, List.set_cons_zero, List.set_cons_succ, if_neg hc50]]))
  exact cut2 y0 y1 y2 y3 y4 _ _ _ _ _ _ One.u One.u One.u X eT N sz K A_x0 (by rw [htt] at hRES; exact hRES)
set_option maxRecDepth 65536 in
set_option maxHeartbeats 40000000 in
theorem rm1_15 (l : Launch) (Z : State) (a0 : Array Value) (hw : ∀ d ∈ tables_1, d.before a0 Z = true) (ws : List Jvm.Cond) (x0 : Addr) (x3 : Int32) (y0 y1 y2 y3 y4 : Int32) (RES : List Int32) (h0 : Heap) (n0 : Nat) (sz : n0 ≤ h0.size) (A_x0 : AI Z h0 x0 .int [y0, y1, y2, y3, y4]) (g_x0 : n0 ≤ x0) (hRES : RES = (CS 1 (x3 ^^^ (-2147483648 : Int32)) (CS 2 (x3 ^^^ (-2147483648 : Int32)) (CS 3 (x3 ^^^ (-2147483648 : Int32)) (CS 1 (x3 ^^^ (-2147483648 : Int32)) (CS 2 (x3 ^^^ (-2147483648 : Int32)) (CS 1 (x3 ^^^ (-2147483648 : Int32)) [y0, y1, y2, y3, y4]))))))) :
    Ctr l (⟨"com/example/digitwise/digitwise/internal/IntRadixSort", "insertionSort", "([IIII)V"⟩ : MethodName) prog_7_method_52_code 10 none ws ({ frames := 0, cells := 0, slots := 0, locals := 0 } : Room) Z #[(.ref x0), (.int (1 : Int32)), (.int (5 : Int32)), (.int x3)] h0 (fun v h L => v = none ∧ Fr n0 L ∧ Keep h0 h [x0] ∧ AI Z h x0 .int RES) 0 0 := by
  refine Ctr.mk pn_1 ?_
  intro p e s m below meth c T hx hby hml hown hnm hlk hret hZ X eT
  have N := Fr.nil n0
  refine enter (ef_1 m x0 (1 : Int32) (5 : Int32) x3) ?_
  have K := Keep.refl h0 [x0]
  revert hRES
  intro hRES
  refine s_iloadN X hx (hb hby d1_0) rfl (q := 1) rfl ?_
  refine s_iloadN X hx (hb hby d1_1) rfl (q := 2) rfl ?_
  refine s_isub X hx (hb hby d1_2) (q := 3) rfl ?_
  show Go p e below _ T m 3 #[.val (.ref x0), .val (.int (1 : Int32)), .val (.int (5 : Int32)), .val (.int x3), .unset, .unset, .unset, .unset, .unset, .unset] [(.int (4 : Int32))]
  refine s_iconst X hx (z := (2 : Int32)) (hb hby d1_3) rfl (q := 4) rfl ?_
  refine f_icmp_ge X hx (hb hby d1_4) (q1 := 8) (by decide) (by decide) (q := 7) rfl (fun _ => ?_) (fun hq => absurd hq (by decide : ¬ (4 : Int32) < (2 : Int32)))
  refine s_iloadN X hx (hb hby d1_8) rfl (q := 9) rfl ?_
  refine s_ldc X hx hZ hown (hw _ (List.mem_of_getElem? (i := 10) rfl)) (hb hby d1_9) (q := 11) rfl ?_
  refine s_ixor X hx (hb hby d1_11) (q := 12) rfl ?_
  generalize htt : (x3 ^^^ (-2147483648 : Int32)) = tt
  refine s_istore X hx (hb hby d1_12) (L' := #[.val (.ref x0), .val (.int (1 : Int32)), .val (.int (5 : Int32)), .val (.int x3), .val (.int tt), .unset, .unset, .unset, .unset, .unset]) rfl (q := 14) rfl ?_
  refine s_aloadN X hx (hb hby d1_14) rfl rfl (q := 15) rfl ?_
  refine s_iloadN X hx (hb hby d1_15) rfl (q := 16) rfl ?_
  refine s_iaload X hx hZ eT A_x0 (by decide) (i := 1) rfl (x := y1) rfl (hb hby d1_16) (q := 17) rfl ?_
  refine s_iload X hx (hb hby d1_17) rfl (q := 19) rfl ?_
  refine s_ixor X hx (hb hby d1_19) (q := 20) rfl ?_
  refine s_istore X hx (hb hby d1_20) (L' := #[.val (.ref x0), .val (.int (1 : Int32)), .val (.int (5 : Int32)), .val (.int x3), .val (.int tt), .val (.int (y1 ^^^ tt)), .unset, .unset, .unset, .unset]) rfl (q := 22) rfl ?_
  refine s_iloadN X hx (hb hby d1_22) rfl (q := 23) rfl ?_
  refine s_iconst X hx (z := (1 : Int32)) (hb hby d1_23) rfl (q := 24) rfl ?_
  refine s_iadd X hx (hb hby d1_24) (q := 25) rfl ?_
  show Go p e below _ T m 25 #[.val (.ref x0), .val (.int (1 : Int32)), .val (.int (5 : Int32)), .val (.int x3), .val (.int tt), .val (.int (y1 ^^^ tt)), .unset, .unset, .unset, .unset] [(.int (2 : Int32))]
  refine s_istore X hx (hb hby d1_25) (L' := #[.val (.ref x0), .val (.int (1 : Int32)), .val (.int (5 : Int32)), .val (.int x3), .val (.int tt), .val (.int (y1 ^^^ tt)), .val (.int (2 : Int32)), .unset, .unset, .unset]) rfl (q := 27) rfl ?_
  have cut5 : ∀ (z0 z1 z2 z3 z4 : Int32) (s7 s8 s9 : Slot) (T : State) (hh : Heap) (locs : List Loc), One s7 → One s8 → One s9 → Stand p l e ({ frames := 0, cells := 0, slots := 0, locals := 0 } : Room) s m #[(.ref x0), (.int (1 : Int32)), (.int (5 : Int32)), (.int x3)] below meth c T locs 0 0 → T.heap = hh → Fr n0 locs → n0 ≤ hh.size → Keep h0 hh [x0] → AI Z hh x0 .int [z0, z1, z2, z3, z4] → ¬ (z2 ^^^ tt) < (z1 ^^^ tt) → ¬ (z3 ^^^ tt) < (z2 ^^^ tt) → ¬ (z4 ^^^ tt) < (z3 ^^^ tt) → RES = [z0, z1, z2, z3, z4] → Go p e below (Gl s below (fun v h L => v = none ∧ Fr n0 L ∧ Keep h0 h [x0] ∧ AI Z h x0 .int RES) 0 0) T m 27 #[.val (.ref x0), .val (.int (1 : Int32)), .val (.int (5 : Int32)), .val (.int x3), .val (.int tt), .val (.int (z4 ^^^ tt)), .val (.int (5 : Int32)), s7, s8, s9] [] := by
    intro z0 z1 z2 z3 z4 s7 s8 s9 T hh locs hs7 hs8 hs9 X eT N sz K A_x0 q1 q2 q3 hres
    refine s_iload X hx (hb hby d1_27) rfl (q := 29) rfl ?_
    refine s_iloadN X hx (hb hby d1_29) rfl (q := 30) rfl ?_
    refine f_icmp_ge X hx (hb hby d1_30) (q1 := 111) (by decide) (by decide) (q := 33) rfl (fun _ => ?_) (fun hq => absurd hq (by decide : ¬ (5 : Int32) < (5 : Int32)))
    exact leafV X hx hlk hret (hb hby d1_111) (by decide) (by decide) (by rw [eT]; exact ⟨rfl, N, K, hres ▸ A_x0⟩)
  have cut4 : ∀ (z0 z1 z2 z3 z4 : Int32) (s7 s8 s9 : Slot) (T : State) (hh : Heap) (locs : List Loc), One s7 → One s8 → One s9 → Stand p l e ({ frames := 0, cells := 0, slots := 0, locals := 0 } : Room) s m #[(.ref x0), (.int (1 : Int32)), (.int (5 : Int32)), (.int x3)] below meth c T locs 0 0 → T.heap = hh → Fr n0 locs → n0 ≤ hh.size → Keep h0 hh [x0] → AI Z hh x0 .int [z0, z1, z2, z3, z4] → ¬ (z2 ^^^ tt) < (z1 ^^^ tt) → ¬ (z3 ^^^ tt) < (z2 ^^^ tt) → RES = (CS 1 tt (CS 2 tt (CS 3 tt [z0, z1, z2, z3, z4]))) → Go p e below (Gl s below (fun v h L => v = none ∧ Fr n0 L ∧ Keep h0 h [x0] ∧ AI Z h x0 .int RES) 0 0) T m 27 #[.val (.ref x0), .val (.int (1 : Int32)), .val (.int (5 : Int32)), .val (.int x3), .val (.int tt), .val (.int (z3 ^^^ tt)), .val (.int (4 : Int32)), s7, s8, s9] [] := by
    intro z0 z1 z2 z3 z4 s7 s8 s9 T hh locs hs7 hs8 hs9 X eT N sz K A_x0 q1 q2 hres
    refine s_iload X hx (hb hby d1_27) rfl (q := 29) rfl ?_
    refine s_iloadN X hx (hb hby d1_29) rfl (q := 30) rfl ?_
    refine f_icmp_ge X hx (hb hby d1_30) (q1 := 111) (by decide) (by decide) (q := 33) rfl (fun hq => absurd (by decide : (4 : Int32) < (5 : Int32)) hq) (fun _ => ?_)
    refine s_aloadN X hx (hb hby d1_33) rfl rfl (q := 34) rfl ?_
    refine s_iload X hx (hb hby d1_34) rfl (q := 36) rfl ?_
    refine s_iaload X hx hZ eT A_x0 (by decide) (i := 4) rfl (x := z4) rfl (hb hby d1_36) (q := 37) rfl ?_
    refine s_istore X hx (hb hby d1_37) (L' := #[.val (.ref x0), .val (.int (1 : Int32)), .val (.int (5 : Int32)), .val (.int x3), .val (.int tt), .val (.int (z3 ^^^ tt)), .val (.int (4 : Int32)), .val (.int z4), s8, s9]) (by rcases hs7 with rfl | ⟨w', rfl, hw'⟩ <;> first | rfl | (cases w' <;> first | rfl | (simp [Value.category] at hw'))) (q := 39) rfl ?_
    refine s_iload X hx (hb hby d1_39) rfl (q := 41) rfl ?_
    refine s_iload X hx (hb hby d1_41) rfl (q := 43) rfl ?_
    refine s_ixor X hx (hb hby d1_43) (q := 44) rfl ?_
    refine s_istore X hx (hb hby d1_44) (L' := #[.val (.ref x0), .val (.int (1 : Int32)), .val (.int (5 : Int32)), .val (.int x3), .val (.int tt), .val (.int (z3 ^^^ tt)), .val (.int (4 : Int32)), .val (.int z4), .val (.int (z4 ^^^ tt)), s9]) (by rcases hs8 with rfl | ⟨w', rfl, hw'⟩ <;> first | rfl | (cases w' <;> first | rfl | (simp [Value.category] at hw'))) (q := 46) rfl ?_
    refine s_iload X hx (hb hby d1_46) rfl (q := 48) rfl ?_
    refine s_iload X hx (hb hby d1_48) rfl (q := 50) rfl ?_
    refine f_icmp_lt X hx (hb hby d1_50) (q1 := 60) (by decide) (by decide) (q := 53) rfl (fun hc50 => ?_) (fun hc50 => ?_)
    · refine s_iload X hx (hb hby d1_60) rfl (q := 62) rfl ?_
      refine s_iconst X hx (z := (1 : Int32)) (hb hby d1_62) rfl (q := 63) rfl ?_
      refine s_isub X hx (hb hby d1_63) (q := 64) rfl ?_
      show Go p e below _ T m 64 #[.val (.ref x0), .val (.int (1 : Int32)), .val (.int (5 : Int32)), .val (.int x3), .val (.int tt), .val (.int (z3 ^^^ tt)), .val (.int (4 : Int32)), .val (.int z4), .val (.int (z4 ^^^ tt)), s9] [(.int (3 : Int32))]
      refine s_istore X hx (hb hby d1_64) (L' := #[.val (.ref x0), .val (.int (1 : Int32)), .val (.int (5 : Int32)), .val (.int x3), .val (.int tt), .val (.int (z3 ^^^ tt)), .val (.int (4 : Int32)), .val (.int z4), .val (.int (z4 ^^^ tt)), .val (.int (3 : Int32))]) (by rcases hs9 with rfl | ⟨w', rfl, hw'⟩ <;> first | rfl | (cases w' <;> first | rfl | (simp [Value.category] at hw'))) (q := 66) rfl ?_
      refine s_aloadN X hx (hb hby d1_66) rfl rfl (q := 67) rfl ?_
      refine s_iload X hx (hb hby d1_67) rfl (q := 69) rfl ?_
      refine s_iconst X hx (z := (1 : Int32)) (hb hby d1_69) rfl (q := 70) rfl ?_
      refine s_iadd X hx (hb hby d1_70) (q := 71) rfl ?_
      show Go p e below _ T m 71 #[.val (.ref x0), .val (.int (1 : Int32)), .val (.int (5 : Int32)), .val (.int x3), .val (.int tt), .val (.int (z3 ^^^ tt)), .val (.int (4 : Int32)), .val (.int z4), .val (.int (z4 ^^^ tt)), .val (.int (3 : Int32))] [(.int (4 : Int32)), (.ref x0)]
      refine s_aloadN X hx (hb hby d1_71) rfl rfl (q := 72) rfl ?_
      refine s_iload X hx (hb hby d1_72) rfl (q := 74) rfl ?_
      refine s_iaload X hx hZ eT A_x0 (by decide) (i := 3) rfl (x := z3) rfl (hb hby d1_74) (q := 75) rfl ?_
      refine s_iastore X hx hZ eT A_x0 N g_x0 (by decide) (i := 4) rfl (Nat.le_of_ble_eq_true rfl) (ys := [z0, z1, z2, z3, z3]) rfl (hb hby d1_75) (q := 76) rfl ?_
      intro T h1 _ X N eT W A_x0'
      have K := K.wr W (Or.inl (List.mem_of_getElem? (i := 0) rfl))
      have sz : n0 ≤ h1.size := by rw [W.size]; exact sz
      have A_x0 := A_x0'
      refine s_iinc X hx (w := (2 : Int32)) (hb hby d1_76) rfl rfl (L' := #[.val (.ref x0), .val (.int (1 : Int32)), .val (.int (5 : Int32)), .val (.int x3), .val (.int tt), .val (.int (z3 ^^^ tt)), .val (.int (4 : Int32)), .val (.int z4), .val (.int (z4 ^^^ tt)), .val (.int (2 : Int32))]) rfl (q := 79) rfl ?_
      refine s_iload X hx (hb hby d1_79) rfl (q := 81) rfl ?_
      refine s_iloadN X hx (hb hby d1_81) rfl (q := 82) rfl ?_
      refine f_icmp_lt X hx (hb hby d1_82) (q1 := 97) (by decide) (by decide) (q := 85) rfl (fun hq => absurd hq (by decide : ¬ (2 : Int32) < (1 : Int32))) (fun _ => ?_)
      refine s_aloadN X hx (hb hby d1_85) rfl rfl (q := 86) rfl ?_
      refine s_iload X hx (hb hby d1_86) rfl (q := 88) rfl ?_
      refine s_iaload X hx hZ eT A_x0 (by decide) (i := 2) rfl (x := z2) rfl (hb hby d1_88) (q := 89) rfl ?_
      refine s_iload X hx (hb hby d1_89) rfl (q := 91) rfl ?_
      refine s_ixor X hx (hb hby d1_91) (q := 92) rfl ?_
      refine s_iload X hx (hb hby d1_92) rfl (q := 94) rfl ?_
      refine f_icmp_gt X hx (hb hby d1_94) (q1 := 66) (by decide) (by decide) (q := 97) rfl (fun hc94 => ?_) (fun hc94 => ?_)
      · refine s_aloadN X hx (hb hby d1_66) rfl rfl (q := 67) rfl ?_
        refine s_iload X hx (hb hby d1_67) rfl (q := 69) rfl ?_
        refine s_iconst X hx (z := (1 : Int32)) (hb hby d1_69) rfl (q := 70) rfl ?_
        refine s_iadd X hx (hb hby d1_70) (q := 71) rfl ?_
        show Go p e below _ T m 71 #[.val (.ref x0), .val (.int (1 : Int32)), .val (.int (5 : Int32)), .val (.int x3), .val (.int tt), .val (.int (z3 ^^^ tt)), .val (.int (4 : Int32)), .val (.int z4), .val (.int (z4 ^^^ tt)), .val (.int (2 : Int32))] [(.int (3 : Int32)), (.ref x0)]
        refine s_aloadN X hx (hb hby d1_71) rfl rfl (q := 72) rfl ?_
        refine s_iload X hx (hb hby d1_72) rfl (q := 74) rfl ?_
        refine s_iaload X hx hZ eT A_x0 (by decide) (i := 2) rfl (x := z2) rfl (hb hby d1_74) (q := 75) rfl ?_
        refine s_iastore X hx hZ eT A_x0 N g_x0 (by decide) (i := 3) rfl (Nat.le_of_ble_eq_true rfl) (ys := [z0, z1, z2, z2, z3]) rfl (hb hby d1_75) (q := 76) rfl ?_
        intro T h2 _ X N eT W A_x0'
        have K := K.wr W (Or.inl (List.mem_of_getElem? (i := 0) rfl))
        have sz : n0 ≤ h2.size := by rw [W.size]; exact sz
        have A_x0 := A_x0'
        refine s_iinc X hx (w := (1 : Int32)) (hb hby d1_76) rfl rfl (L' := #[.val (.ref x0), .val (.int (1 : Int32)), .val (.int (5 : Int32)), .val (.int x3), .val (.int tt), .val (.int (z3 ^^^ tt)), .val (.int (4 : Int32)), .val (.int z4), .val (.int (z4 ^^^ tt)), .val (.int (1 : Int32))]) rfl (q := 79) rfl ?_
        refine s_iload X hx (hb hby d1_79) rfl (q := 81) rfl ?_
        refine s_iloadN X hx (hb hby d1_81) rfl (q := 82) rfl ?_
        refine f_icmp_lt X hx (hb hby d1_82) (q1 := 97) (by decide) (by decide) (q := 85) rfl (fun hq => absurd hq (by decide : ¬ (1 : Int32) < (1 : Int32))) (fun _ => ?_)
        refine s_aloadN X hx (hb hby d1_85) rfl rfl (q := 86) rfl ?_
        refine s_iload X hx (hb hby d1_86) rfl (q := 88) rfl ?_
        refine s_iaload X hx hZ eT A_x0 (by decide) (i := 1) rfl (x := z1) rfl (hb hby d1_88) (q := 89) rfl ?_
        refine s_iload X hx (hb hby d1_89) rfl (q := 91) rfl ?_
        refine s_ixor X hx (hb hby d1_91) (q := 92) rfl ?_
        refine s_iload X hx (hb hby d1_92) rfl (q := 94) rfl ?_
        refine f_icmp_gt X hx (hb hby d1_94) (q1 := 66) (by decide) (by decide) (q := 97) rfl (fun hc94_1 => ?_) (fun hc94_1 => ?_)
        · refine s_aloadN X hx (hb hby d1_66) rfl rfl (q := 67) rfl ?_
          refine s_iload X hx (hb hby d1_67) rfl (q := 69) rfl ?_
          refine s_iconst X hx (z := (1 : Int32)) (hb hby d1_69) rfl (q := 70) rfl ?_
          refine s_iadd X hx (hb hby d1_70) (q := 71) rfl ?_
          show Go p e below _ T m 71 #[.val (.ref x0), .val (.int (1 : Int32)), .val (.int (5 : Int32)), .val (.int x3), .val (.int tt), .val (.int (z3 ^^^ tt)), .val (.int (4 : Int32)), .val (.int z4), .val (.int (z4 ^^^ tt)), .val (.int (1 : Int32))] [(.int (2 : Int32)), (.ref x0)]
          refine s_aloadN X hx (hb hby d1_71) rfl rfl (q := 72) rfl ?_
          refine s_iload X hx (hb hby d1_72) rfl (q := 74) rfl ?_
          refine s_iaload X hx hZ eT A_x0 (by decide) (i := 1) rfl (x := z1) rfl (hb hby d1_74) (q := 75) rfl ?_
          refine s_iastore X hx hZ eT A_x0 N g_x0 (by decide) (i := 2) rfl (Nat.le_of_ble_eq_true rfl) (ys := [z0, z1, z1, z2, z3]) rfl (hb hby d1_75) (q := 76) rfl ?_
          intro T h3 _ X N eT W A_x0'
          have K := K.wr W (Or.inl (List.mem_of_getElem? (i := 0) rfl))
          have sz : n0 ≤ h3.size := by rw [W.size]; exact sz
          have A_x0 := A_x0'
          refine s_iinc X hx (w := (0 : Int32)) (hb hby d1_76) rfl rfl (L' := #[.val (.ref x0), .val (.int (1 : Int32)), .val (.int (5 : Int32)), .val (.int x3), .val (.int tt), .val (.int (z3 ^^^ tt)), .val (.int (4 : Int32)), .val (.int z4), .val (.int (z4 ^^^ tt)), .val (.int (0 : Int32))]) rfl (q := 79) rfl ?_
          refine s_iload X hx (hb hby d1_79) rfl (q := 81) rfl ?_
          refine s_iloadN X hx (hb hby d1_81) rfl (q := 82) rfl ?_
          refine f_icmp_lt X hx (hb hby d1_82) (q1 := 97) (by decide) (by decide) (q := 85) rfl (fun _ => ?_) (fun hq => absurd (by decide : (0 : Int32) < (1 : Int32)) hq)
          refine s_aloadN X hx (hb hby d1_97) rfl rfl (q := 98) rfl ?_
          refine s_iload X hx (hb hby d1_98) rfl (q := 100) rfl ?_
          refine s_iconst X hx (z := (1 : Int32)) (hb hby d1_100) rfl (q := 101) rfl ?_
          refine s_iadd X hx (hb hby d1_101) (q := 102) rfl ?_
          show Go p e below _ T m 102 #[.val (.ref x0), .val (.int (1 : Int32)), .val (.int (5 : Int32)), .val (.int x3), .val (.int tt), .val (.int (z3 ^^^ tt)), .val (.int (4 : Int32)), .val (.int z4), .val (.int (z4 ^^^ tt)), .val (.int (0 : Int32))] [(.int (1 : Int32)), (.ref x0)]
          refine s_iload X hx (hb hby d1_102) rfl (q := 104) rfl ?_
          refine s_iastore X hx hZ eT A_x0 N g_x0 (by decide) (i := 1) rfl (Nat.le_of_ble_eq_true rfl) (ys := [z0, z4, z1, z2, z3]) rfl (hb hby d1_104) (q := 105) rfl ?_
          intro T h4 _ X N eT W A_x0'
          have K := K.wr W (Or.inl (List.mem_of_getElem? (i := 0) rfl))
          have sz : n0 ≤ h4.size := by rw [W.size]; exact sz
          have A_x0 := A_x0'
          refine s_iinc X hx (w := (5 : Int32)) (hb hby d1_105) rfl rfl (L' := #[.val (.ref x0), .val (.int (1 : Int32)), .val (.int (5 : Int32)), .val (.int x3), .val (.int tt), .val (.int (z3 ^^^ tt)), .val (.int (5 : Int32)), .val (.int z4), .val (.int (z4 ^^^ tt)), .val (.int (0 : Int32))]) rfl (q := 108) rfl ?_
          refine s_goto X hx (hb hby d1_108) (q1 := 27) (by decide) (by decide) ?_
          exact cut5 z0 z4 z1 z2 z3 _ _ _ _ _ _ (One.val rfl) (One.val rfl) (One.val rfl) X eT N sz K A_x0 (own_asym hc94_1) q1 q2 (hres.trans (by rw [show (CS 1 tt (CS 2 tt (CS 3 tt [z0, z1, z2, z3, z4]))) = [z0, z4, z1, z2, z3] from by simp only [CS, List.getD_cons_zero, List.getD_cons_succ, List.set_cons_zero, List.set_cons_succ, if_pos hc50, if_pos hc94, if_pos hc94_1]]))
        refine s_aloadN X hx (hb hby d1_97) rfl rfl (q := 98) rfl ?_
        refine s_iload X hx (hb hby d1_98) rfl (q := 100) rfl ?_
        refine s_iconst X hx (z := (1 : Int32)) (hb hby d1_100) rfl (q := 101) rfl ?_
        refine s_iadd X hx (hb hby d1_101) (q := 102) rfl ?_
        show Go p e below _ T m 102 #[.val (.ref x0), .val (.int (1 : Int32)), .val (.int (5 : Int32)), .val (.int x3), .val (.int tt), .val (.int (z3 ^^^ tt)), .val (.int (4 : Int32)), .val (.int z4), .val (.int (z4 ^^^ tt)), .val (.int (1 : Int32))] [(.int (2 : Int32)), (.ref x0)]
        refine s_iload X hx (hb hby d1_102) rfl (q := 104) rfl ?_
        refine s_iastore X hx hZ eT A_x0 N g_x0 (by decide) (i := 2) rfl (Nat.le_of_ble_eq_true rfl) (ys := [z0, z1, z4, z2, z3]) rfl (hb hby d1_104) (q := 105) rfl ?_
        intro T h5 _ X N eT W A_x0'
        have K := K.wr W (Or.inl (List.mem_of_getElem? (i := 0) rfl))
        have sz : n0 ≤ h5.size := by rw [W.size]; exact sz
        have A_x0 := A_x0'
        refine s_iinc X hx (w := (5 : Int32)) (hb hby d1_105) rfl rfl (L' := #[.val (.ref x0), .val (.int (1 : Int32)), .val (.int (5 : Int32)), .val (.int x3), .val (.int tt), .val (.int (z3 ^^^ tt)), .val (.int (5 : Int32)), .val (.int z4), .val (.int (z4 ^^^ tt)), .val (.int (1 : Int32))]) rfl (q := 108) rfl ?_
        refine s_goto X hx (hb hby d1_108) (q1 := 27) (by decide) (by decide) ?_
        exact cut5 z0 z1 z4 z2 z3 _ _ _ _ _ _ (One.val rfl) (One.val rfl) (One.val rfl) X eT N sz K A_x0 hc94_1 (own_asym hc94) q2 (hres.trans (by rw [show (CS 1 tt (CS 2 tt (CS 3 tt [z0, z1, z2, z3, z4]))) = [z0, z1, z4, z2, z3] from by simp only [CS, List.getD_cons_zero, List.getD_cons_succ, List.set_cons_zero, List.set_cons_succ, if_pos hc50, if_pos hc94, if_neg hc94_1]]))
      refine s_aloadN X hx (hb hby d1_97) rfl rfl (q := 98) rfl ?_
      refine s_iload X hx (hb hby d1_98) rfl (q := 100) rfl ?_
      refine s_iconst X hx (z := (1 : Int32)) (hb hby d1_100) rfl (q := 101) rfl ?_
      refine s_iadd X hx (hb hby d1_101) (q := 102) rfl ?_
      show Go p e below _ T m 102 #[.val (.ref x0), .val (.int (1 : Int32)), .val (.int (5 : Int32)), .val (.int x3), .val (.int tt), .val (.int (z3 ^^^ tt)), .val (.int (4 : Int32)), .val (.int z4), .val (.int (z4 ^^^ tt)), .val (.int (2 : Int32))] [(.int (3 : Int32)), (.ref x0)]
      refine s_iload X hx (hb hby d1_102) rfl (q := 104) rfl ?_
      refine s_iastore X hx hZ eT A_x0 N g_x0 (by decide) (i := 3) rfl (Nat.le_of_ble_eq_true rfl) (ys := [z0, z1, z2, z4, z3]) rfl (hb hby d1_104) (q := 105) rfl ?_
      intro T h6 _ X N eT W A_x0'
      have K := K.wr W (Or.inl (List.mem_of_getElem? (i := 0) rfl))
      have sz : n0 ≤ h6.size := by rw [W.size]; exact sz
      have A_x0 := A_x0'
      refine s_iinc X hx (w := (5 : Int32)) (hb hby d1_105) rfl rfl (L' := #[.val (.ref x0), .val (.int (1 : Int32)), .val (.int (5 : Int32)), .val (.int x3), .val (.int tt), .val (.int (z3 ^^^ tt)), .val (.int (5 : Int32)), .val (.int z4), .val (.int (z4 ^^^ tt)), .val (.int (2 : Int32))]) rfl (q := 108) rfl ?_
      refine s_goto X hx (hb hby d1_108) (q1 := 27) (by decide) (by decide) ?_
      exact cut5 z0 z1 z2 z4 z3 _ _ _ _ _ _ (One.val rfl) (One.val rfl) (One.val rfl) X eT N sz K A_x0 q1 hc94 (own_asym hc50) (hres.trans (by rw [show (CS 1 tt (CS 2 tt (CS 3 tt [z0, z1, z2, z3, z4]))) = [z0, z1, z2, z4, z3] from by simp only [CS, List.getD_cons_zero, List.getD_cons_succ, List.set_cons_zero, List.set_cons_succ, if_pos hc50, if_neg hc94, if_neg q1]]))
    refine s_iload X hx (hb hby d1_53) rfl (q := 55) rfl ?_
    refine s_istore X hx (hb hby d1_55) (L' := #[.val (.ref x0), .val (.int (1 : Int32)), .val (.int (5 : Int32)), .val (.int x3), .val (.int tt), .val (.int (z4 ^^^ tt)), .val (.int (4 : Int32)), .val (.int z4), .val (.int (z4 ^^^ tt)), s9]) rfl (q := 57) rfl ?_
    refine s_goto X hx (hb hby d1_57) (q1 := 105) (by decide) (by decide) ?_
    refine s_iinc X hx (w := (5 : Int32)) (hb hby d1_105) rfl rfl (L' := #[.val (.ref x0), .val (.int (1 : Int32)), .val (.int (5 : Int32)), .val (.int x3), .val (.int tt), .val (.int (z4 ^^^ tt)), .val (.int (5 : Int32)), .val (.int z4), .val (.int (z4 ^^^ tt)), s9]) rfl (q := 108) rfl ?_
    refine s_goto X hx (hb hby d1_108) (q1 := 27) (by decide) (by decide) ?_
    exact cut5 z0 z1 z2 z3 z4 _ _ _ _ _ _ (One.val rfl) (One.val rfl) hs9 X eT N sz K A_x0 q1 q2 hc50 (hres.trans (by rw [show (CS 1 tt (CS 2 tt (CS 3 tt [z0, z1, z2, z3, z4]))) = [z0, z1, z2, z3, z4] from by simp only [CS, List.getD_cons_zero, List.getD_cons_succ, List.set_cons_zero, List.set_cons_succ, if_neg hc50, if_neg q2, if_neg q1]]))
  have cut3 : ∀ (z0 z1 z2 z3 z4 : Int32) (s7 s8 s9 : Slot) (T : State) (hh : Heap) (locs : List Loc), One s7 → One s8 → One s9 → Stand p l e ({ frames := 0, cells := 0, slots := 0, locals := 0 } : Room) s m #[(.ref x0), (.int (1 : Int32)), (.int (5 : Int32)), (.int x3)] below meth c T locs 0 0 → T.heap = hh → Fr n0 locs → n0 ≤ hh.size → Keep h0 hh [x0] → AI Z hh x0 .int [z0, z1, z2, z3, z4] → ¬ (z2 ^^^ tt) < (z1 ^^^ tt) → RES = (CS 1 tt (CS 2 tt (CS 3 tt (CS 1 tt (CS 2 tt [z0, z1, z2, z3, z4]))))) → Go p e below (Gl s below (fun v h L => v = none ∧ Fr n0 L ∧ Keep h0 h [x0] ∧ AI Z h x0 .int RES) 0 0) T m 27 #[.val (.ref x0), .val (.int (1 : Int32)), .val (.int (5 : Int32)), .val (.int x3), .val (.int tt), .val (.int (z2 ^^^ tt)), .val (.int (3 : Int32)), s7, s8, s9] [] := by
    intro z0 z1 z2 z3 z4 s7 s8 s9 T hh locs hs7 hs8 hs9 X eT N sz K A_x0 q1 hres
    refine s_iload X hx (hb hby d1_27) rfl (q := 29) rfl ?_
    refine s_iloadN X hx (hb hby d1_29) rfl (q := 30) rfl ?_
    refine f_icmp_ge X hx (hb hby d1_30) (q1 := 111) (by decide) (by decide) (q := 33) rfl (fun hq => absurd (by decide : (3 : Int32) < (5 : Int32)) hq) (fun _ => ?_)
    refine s_aloadN X hx (hb hby d1_33) rfl rfl (q := 34) rfl ?_
    refine s_iload X hx (hb hby d1_34) rfl (q := 36) rfl ?_
    refine s_iaload X hx hZ eT A_x0 (by decide) (i := 3) rfl (x := z3) rfl (hb hby d1_36) (q := 37) rfl ?_
    refine s_istore X hx (hb hby d1_37) (L' := #[.val (.ref x0), .val (.int (1 : Int32)), .val (.int (5 : Int32)), .val (.int x3), .val (.int tt), .val (.int (z2 ^^^ tt)), .val (.int (3 : Int32)), .val (.int z3), s8, s9]) (by rcases hs7 with rfl | ⟨w', rfl, hw'⟩ <;> first | rfl | (cases w' <;> first | rfl | (simp [Value.category] at hw'))) (q := 39) rfl ?_
    refine s_iload X hx (hb hby d1_39) rfl (q := 41) rfl ?_
    refine s_iload X hx (hb hby d1_41) rfl (q := 43) rfl ?_
    refine s_ixor X hx (hb hby d1_43) (q := 44) rfl ?_
    refine s_istore X hx (hb hby d1_44) (L' := #[.val (.ref x0), .val (.int (1 : Int32)), .val (.int (5 : Int32)), .val (.int x3), .val (.int tt), .val (.int (z2 ^^^ tt)), .val (.int (3 : Int32)), .val (.int z3), .val (.int (z3 ^^^ tt)), s9]) (by rcases hs8 with rfl | ⟨w', rfl, hw'⟩ <;> first | rfl | (cases w' <;> first | rfl | (simp [Value.category] at hw'))) (q := 46) rfl ?_
    refine s_iload X hx (hb hby d1_46) rfl (q := 48) rfl ?_
    refine s_iload X hx (hb hby d1_48) rfl (q := 50) rfl ?_
    refine f_icmp_lt X hx (hb hby d1_50) (q1 := 60) (by decide) (by decide) (q := 53) rfl (fun hc50 => ?_) (fun hc50 => ?_)
    · refine s_iload X hx (hb hby d1_60) rfl (q := 62) rfl ?_
      refine s_iconst X hx (z := (1 : Int32)) (hb hby d1_62) rfl (q := 63) rfl ?_
      refine s_isub X hx (hb hby d1_63) (q := 64) rfl ?_
      show Go p e below _ T m 64 #[.val (.ref x0), .val (.int (1 : Int32)), .val (.int (5 : Int32)), .val (.int x3), .val (.int tt), .val (.int (z2 ^^^ tt)), .val (.int (3 : Int32)), .val (.int z3), .val (.int (z3 ^^^ tt)), s9] [(.int (2 : Int32))]
      refine s_istore X hx (hb hby d1_64) (L' := #[.val (.ref x0), .val (.int (1 : Int32)), .val (.int (5 : Int32)), .val (.int x3), .val (.int tt), .val (.int (z2 ^^^ tt)), .val (.int (3 : Int32)), .val (.int z3), .val (.int (z3 ^^^ tt)), .val (.int (2 : Int32))]) (by rcases hs9 with rfl | ⟨w', rfl, hw'⟩ <;> first | rfl | (cases w' <;> first | rfl | (simp [Value.category] at hw'))) (q := 66) rfl ?_
      refine s_aloadN X hx (hb hby d1_66) rfl rfl (q := 67) rfl ?_
      refine s_iload X hx (hb hby d1_67) rfl (q := 69) rfl ?_
      refine s_iconst X hx (z := (1 : Int32)) (hb hby d1_69) rfl (q := 70) rfl ?_
      refine s_iadd X hx (hb hby d1_70) (q := 71) rfl ?_
      show Go p e below _ T m 71 #[.val (.ref x0), .val (.int (1 : Int32)), .val (.int (5 : Int32)), .val (.int x3), .val (.int tt), .val (.int (z2 ^^^ tt)), .val (.int (3 : Int32)), .val (.int z3), .val (.int (z3 ^^^ tt)), .val (.int (2 : Int32))] [(.int (3 : Int32)), (.ref x0)]
      refine s_aloadN X hx (hb hby d1_71) rfl rfl (q := 72) rfl ?_
      refine s_iload X hx (hb hby d1_72) rfl (q := 74) rfl ?_
      refine s_iaload X hx hZ eT A_x0 (by decide) (i := 2) rfl (x := z2) rfl (hb hby d1_74) (q := 75) rfl ?_
      refine s_iastore X hx hZ eT A_x0 N g_x0 (by decide) (i := 3) rfl (Nat.le_of_ble_eq_true rfl) (ys := [z0, z1, z2, z2, z4]) rfl (hb hby d1_75) (q := 76) rfl ?_
      intro T h7 _ X N eT W A_x0'
      have K := K.wr W (Or.inl (List.mem_of_getElem? (i := 0) rfl))
      have sz : n0 ≤ h7.size := by rw [W.size]; exact sz
      have A_x0 := A_x0'
      refine s_iinc X hx (w := (1 : Int32)) (hb hby d1_76) rfl rfl (L' := #[.val (.ref x0), .val (.int (1 : Int32)), .val (.int (5 : Int32)), .val (.int x3), .val (.int tt), .val (.int (z2 ^^^ tt)), .val (.int (3 : Int32)), .val (.int z3), .val (.int (z3 ^^^ tt)), .val (.int (1 : Int32))]) rfl (q := 79) rfl ?_
      refine s_iload X hx (hb hby d1_79) rfl (q := 81) rfl ?_
      refine s_iloadN X hx (hb hby d1_81) rfl (q := 82) rfl ?_
      refine f_icmp_lt X hx (hb hby d1_82) (q1 := 97) (by decide) (by decide) (q := 85) rfl (fun hq => absurd hq (by decide : ¬ (1 : Int32) < (1 : Int32))) (fun _ => ?_)
      refine s_aloadN X hx (hb hby d1_85) rfl rfl (q := 86) rfl ?_
      refine s_iload X hx (hb hby d1_86) rfl (q := 88) rfl ?_
      refine s_iaload X hx hZ eT A_x0 (by decide) (i := 1) rfl (x := z1) rfl (hb hby d1_88) (q := 89) rfl ?_
      refine s_iload X hx (hb hby d1_89) rfl (q := 91) rfl ?_
      refine s_ixor X hx (hb hby d1_91) (q := 92) rfl ?_
      refine s_iload X hx (hb hby d1_92) rfl (q := 94) rfl ?_
      refine f_icmp_gt X hx (hb hby d1_94) (q1 := 66) (by decide) (by decide) (q := 97) rfl (fun hc94 => ?_) (fun hc94 => ?_)
      · refine s_aloadN X hx (hb hby d1_66) rfl rfl (q := 67) rfl ?_
        refine s_iload X hx (hb hby d1_67) rfl (q := 69) rfl ?_
        refine s_iconst X hx (z := (1 : Int32)) (hb hby d1_69) rfl (q := 70) rfl ?_
        refine s_iadd X hx (hb hby d1_70) (q := 71) rfl ?_
        show Go p e below _ T m 71 #[.val (.ref x0), .val (.int (1 : Int32)), .val (.int (5 : Int32)), .val (.int x3), .val (.int tt), .val (.int (z2 ^^^ tt)), .val (.int (3 : Int32)), .val (.int z3), .val (.int (z3 ^^^ tt)), .val (.int (1 : Int32))] [(.int (2 : Int32)), (.ref x0)]
        refine s_aloadN X hx (hb hby d1_71) rfl rfl (q := 72) rfl ?_
        refine s_iload X hx (hb hby d1_72) rfl (q := 74) rfl ?_
        refine s_iaload X hx hZ eT A_x0 (by decide) (i := 1) rfl (x := z1) rfl (hb hby d1_74) (q := 75) rfl ?_
        refine s_iastore X hx hZ eT A_x0 N g_x0 (by decide) (i := 2) rfl (Nat.le_of_ble_eq_true rfl) (ys := [z0, z1, z1, z2, z4]) rfl (hb hby d1_75) (q := 76) rfl ?_
        intro T h8 _ X N eT W A_x0'
        have K := K.wr W (Or.inl (List.mem_of_getElem? (i := 0) rfl))
        have sz : n0 ≤ h8.size := by rw [W.size]; exact sz
        have A_x0 := A_x0'
        refine s_iinc X hx (w := (0 : Int32)) (hb hby d1_76) rfl rfl (L' := #[.val (.ref x0), .val (.int (1 : Int32)), .val (.int (5 : Int32)), .val (.int x3), .val (.int tt), .val (.int (z2 ^^^ tt)), .val (.int (3 : Int32)), .val (.int z3), .val (.int (z3 ^^^ tt)), .val (.int (0 : Int32))]) rfl (q := 79) rfl ?_
        refine s_iload X hx (hb hby d1_79) rfl (q := 81) rfl ?_
        refine s_iloadN X hx (hb hby d1_81) rfl (q := 82) rfl ?_
        refine f_icmp_lt X hx (hb hby d1_82) (q1 := 97) (by decide) (by decide) (q := 85) rfl (fun _ => ?_) (fun hq => absurd (by decide : (0 : Int32) < (1 : Int32)) hq)
        refine s_aloadN X hx (hb hby d1_97) rfl rfl (q := 98) rfl ?_
        refine s_iload X hx (hb hby d1_98) rfl (q := 100) rfl ?_
        refine s_iconst X hx (z := (1 : Int32)) (hb hby d1_100) rfl (q := 101) rfl ?_
        refine s_iadd X hx (hb hby d1_101) (q := 102) rfl ?_
        show Go p e below _ T m 102 #[.val (.ref x0), .val (.int (1 : Int32)), .val (.int (5 : Int32)), .val (.int x3), .val (.int tt), .val (.int (z2 ^^^ tt)), .val (.int (3 : Int32)), .val (.int z3), .val (.int (z3 ^^^ tt)), .val (.int (0 : Int32))] [(.int (1 : Int32)), (.ref x0)]
        refine s_iload X hx (hb hby d1_102) rfl (q := 104) rfl ?_
        refine s_iastore X hx hZ eT A_x0 N g_x0 (by decide) (i := 1) rfl (Nat.le_of_ble_eq_true rfl) (ys := [z0, z3, z1, z2, z4]) rfl (hb hby d1_104) (q := 105) rfl ?_
        intro T h9 _ X N eT W A_x0'
        have K := K.wr W (Or.inl (List.mem_of_getElem? (i := 0) rfl))
        have sz : n0 ≤ h9.size := by rw [W.size]; exact sz
        have A_x0 := A_x0'
        refine s_iinc X hx (w := (4 : Int32)) (hb hby d1_105) rfl rfl (L' := #[.val (.ref x0), .val (.int (1 : Int32)), .val (.int (5 : Int32)), .val (.int x3), .val (.int tt), .val (.int (z2 ^^^ tt)), .val (.int (4 : Int32)), .val (.int z3), .val (.int (z3 ^^^ tt)), .val (.int (0 : Int32))]) rfl (q := 108) rfl ?_
        refine s_goto X hx (hb hby d1_108) (q1 := 27) (by decide) (by decide) ?_
        exact cut4 z0 z3 z1 z2 z4 _ _ _ _ _ _ (One.val rfl) (One.val rfl) (One.val rfl) X eT N sz K A_x0 (own_asym hc94) q1 (hres.trans (by rw [show (CS 1 tt (CS 2 tt [z0, z1, z2, z3, z4])) = [z0, z3, z1, z2, z4] from by simp only [CS, List.getD_cons_zero, List.getD_cons_succ, List.set_cons_zero, List.set_cons_succ, if_pos hc50, if_pos hc94]]))
      refine s_aloadN X hx (hb hby d1_97) rfl rfl (q := 98) rfl ?_
      refine s_iload X hx (hb hby d1_98) rfl (q := 100) rfl ?_
      refine s_iconst X hx (z := (1 : Int32)) (hb hby d1_100) rfl (q := 101) rfl ?_
      refine s_iadd X hx (hb hby d1_101) (q := 102) rfl ?_
      show Go p e below _ T m 102 #[.val (.ref x0), .val (.int (1 : Int32)), .val (.int (5 : Int32)), .val (.int x3), .val (.int tt), .val (.int (z2 ^^^ tt)), .val (.int (3 : Int32)), .val (.int z3), .val (.int (z3 ^^^ tt)), .val (.int (1 : Int32))] [(.int (2 : Int32)), (.ref x0)]
      refine s_iload X hx (hb hby d1_102) rfl (q := 104) rfl ?_
      refine s_iastore X hx hZ eT A_x0 N g_x0 (by decide) (i := 2) rfl (Nat.le_of_ble_eq_true rfl) (ys := [z0, z1, z3, z2, z4]) rfl (hb hby d1_104) (q := 105) rfl ?_
      intro T h10 _ X N eT W A_x0'
      have K := K.wr W (Or.inl (List.mem_of_getElem? (i := 0) rfl))
      have sz : n0 ≤ h10.size := by rw [W.size]; exact sz
      have A_x0 := A_x0'
      refine s_iinc X hx (w := (4 : Int32)) (hb hby d1_105) rfl rfl (L' := #[.val (.ref x0), .val (.int (1 : Int32)), .val (.int (5 : Int32)), .val (.int x3), .val (.int tt), .val (.int (z2 ^^^ tt)), .val (.int (4 : Int32)), .val (.int z3), .val (.int (z3 ^^^ tt)), .val (.int (1 : Int32))]) rfl (q := 108) rfl ?_
      refine s_goto X hx (hb hby d1_108) (q1 := 27) (by decide) (by decide) ?_
      exact cut4 z0 z1 z3 z2 z4 _ _ _ _ _ _ (One.val rfl) (One.val rfl) (One.val rfl) X eT N sz K A_x0 hc94 (own_asym hc50) (hres.trans (by rw [show (CS 1 tt (CS 2 tt [z0, z1, z2, z3, z4])) = [z0, z1, z3, z2, z4] from by simp only [CS, List.getD_cons_zero, List.getD_cons_succ, List.set_cons_zero, List.set_cons_succ, if_pos hc50, if_neg hc94]]))
    refine s_iload X hx (hb hby d1_53) rfl (q := 55) rfl ?_
    refine s_istore X hx (hb hby d1_55) (L' := #[.val (.ref x0), .val (.int (1 : Int32)), .val (.int (5 : Int32)), .val (.int x3), .val (.int tt), .val (.int (z3 ^^^ tt)), .val (.int (3 : Int32)), .val (.int z3), .val (.int (z3 ^^^ tt)), s9]) rfl (q := 57) rfl ?_
    refine s_goto X hx (hb hby d1_57) (q1 := 105) (by decide) (by decide) ?_
    refine s_iinc X hx (w := (4 : Int32)) (hb hby d1_105) rfl rfl (L' := #[.val (.ref x0), .val (.int (1 : Int32)), .val (.int (5 : Int32)), .val (.int x3), .val (.int tt), .val (.int (z3 ^^^ tt)), .val (.int (4 : Int32)), .val (.int z3), .val (.int (z3 ^^^ tt)), s9]) rfl (q := 108) rfl ?_
    refine s_goto X hx (hb hby d1_108) (q1 := 27) (by decide) (by decide) ?_
    exact cut4 z0 z1 z2 z3 z4 _ _ _ _ _ _ (One.val rfl) (One.val rfl) hs9 X eT N sz K A_x0 q1 hc50 (hres.trans (by rw [show (CS 1 tt (CS 2 tt [z0, z1, z2, z3, z4])) = [z0, z1, z2, z3, z4] from by simp only [CS, List.getD_cons_zero, List.getD_cons_succ, List.set_cons_zero, List.set_cons_succ, if_neg hc50, if_neg q1]]))
  have cut2 : ∀ (z0 z1 z2 z3 z4 : Int32) (s7 s8 s9 : Slot) (T : State) (hh : Heap) (locs : List Loc), One s7 → One s8 → One s9 → Stand p l e ({ frames := 0, cells := 0, slots := 0, locals := 0 } : Room) s m #[(.ref x0), (.int (1 : Int32)), (.int (5 : Int32)), (.int x3)] below meth c T locs 0 0 → T.heap = hh → Fr n0 locs → n0 ≤ hh.size → Keep h0 hh [x0] → AI Z hh x0 .int [z0, z1, z2, z3, z4] → RES = (CS 1 tt (CS 2 tt (CS 3 tt (CS 1 tt (CS 2 tt (CS 1 tt [z0, z1, z2, z3, z4])))))) → Go p e below (Gl s below (fun v h L => v = none ∧ Fr n0 L ∧ Keep h0 h [x0] ∧ AI Z h x0 .int RES) 0 0) T m 27 #[.val (.ref x0), .val (.int (1 : Int32)), .val (.int (5 : Int32)), .val (.int x3), .val (.int tt), .val (.int (z1 ^^^ tt)), .val (.int (2 : Int32)), s7, s8, s9] [] := by
    intro z0 z1 z2 z3 z4 s7 s8 s9 T hh locs hs7 hs8 hs9 X eT N sz K A_x0  hres
    refine s_iload X hx (hb hby d1_27) rfl (q := 29) rfl ?_
    refine s_iloadN X hx (hb hby d1_29) rfl (q := 30) rfl ?_
    refine f_icmp_ge X hx (hb hby d1_30) (q1 := 111) (by decide) (by decide) (q := 33) rfl (fun hq => absurd (by decide : (2 : Int32) < (5 : Int32)) hq) (fun _ => ?_)
    refine s_aloadN X hx (hb hby d1_33) rfl rfl (q := 34) rfl ?_
    refine s_iload X hx (hb hby d1_34) rfl (q := 36) rfl ?_
    refine s_iaload X hx hZ eT A_x0 (by decide) (i := 2) rfl (x := z2) rfl (hb hby d1_36) (q := 37) rfl ?_
    refine s_istore X hx (hb hby d1_37) (L' := #[.val (.ref x0), .val (.int (1 : Int32)), .val (.int (5 : Int32)), .val (.int x3), .val (.int tt), .val (.int (z1 ^^^ tt)), .val (.int (2 : Int32)), .val (.int z2), s8, s9]) (by rcases hs7 with rfl | ⟨w', rfl, hw'⟩ <;> first | rfl | (cases w' <;> first | rfl | (simp [Value.category] at hw'))) (q := 39) rfl ?_
    refine s_iload X hx (hb hby d1_39) rfl (q := 41) rfl ?_
    refine s_iload X hx (hb hby d1_41) rfl (q := 43) rfl ?_
    refine s_ixor X hx (hb hby d1_43) (q := 44) rfl ?_
    refine s_istore X hx (hb hby d1_44) (L' := #[.val (.ref x0), .val (.int (1 : Int32)), .val (.int (5 : Int32)), .val (.int x3), .val (.int tt), .val (.int (z1 ^^^ tt)), .val (.int (2 : Int32)), .val (.int z2), .val (.int (z2 ^^^ tt)), s9]) (by rcases hs8 with rfl | ⟨w', rfl, hw'⟩ <;> first | rfl | (cases w' <;> first | rfl | (simp [Value.category] at hw'))) (q := 46) rfl ?_
    refine s_iload X hx (hb hby d1_46) rfl (q := 48) rfl ?_
    refine s_iload X hx (hb hby d1_48) rfl (q := 50) rfl ?_
    refine f_icmp_lt X hx (hb hby d1_50) (q1 := 60) (by decide) (by decide) (q := 53) rfl (fun hc50 => ?_) (fun hc50 => ?_)
    · refine s_iload X hx (hb hby d1_60) rfl (q := 62) rfl ?_
      refine s_iconst X hx (z := (1 : Int32)) (hb hby d1_62) rfl (q := 63) rfl ?_
      refine s_isub X hx (hb hby d1_63) (q := 64) rfl ?_
      show Go p e below _ T m 64 #[.val (.ref x0), .val (.int (1 : Int32)), .val (.int (5 : Int32)), .val (.int x3), .val (.int tt), .val (.int (z1 ^^^ tt)), .val (.int (2 : Int32)), .val (.int z2), .val (.int (z2 ^^^ tt)), s9] [(.int (1 : Int32))]
      refine s_istore X hx (hb hby d1_64) (L' := #[.val (.ref x0), .val (.int (1 : Int32)), .val (.int (5 : Int32)), .val (.int x3), .val (.int tt), .val (.int (z1 ^^^ tt)), .val (.int (2 : Int32)), .val (.int z2), .val (.int (z2 ^^^ tt)), .val (.int (1 : Int32))]) (by rcases hs9 with rfl | ⟨w', rfl, hw'⟩ <;> first | rfl | (cases w' <;> first | rfl | (simp [Value.category] at hw'))) (q := 66) rfl ?_
      refine s_aloadN X hx (hb hby d1_66) rfl rfl (q := 67) rfl ?_
      refine s_iload X hx (hb hby d1_67) rfl (q := 69) rfl ?_
      refine s_iconst X hx (z := (1 : Int32)) (hb hby d1_69) rfl (q := 70) rfl ?_
      refine s_iadd X hx (hb hby d1_70) (q := 71) rfl ?_
      show Go p e below _ T m 71 #[.val (.ref x0), .val (.int (1 : Int32)), .val (.int (5 : Int32)), .val (.int x3), .val (.int tt), .val (.int (z1 ^^^ tt)), .val (.int (2 : Int32)), .val (.int z2), .val (.int (z2 ^^^ tt)), .val (.int (1 : Int32))] [(.int (2 : Int32)), (.ref x0)]
      refine s_aloadN X hx (hb hby d1_71) rfl rfl (q := 72) rfl ?_
      refine s_iload X hx (hb hby d1_72) rfl (q := 74) rfl ?_
      refine s_iaload X hx hZ eT A_x0 (by decide) (i := 1) rfl (x := z1) rfl (hb hby d1_74) (q := 75) rfl ?_
      refine s_iastore X hx hZ eT A_x0 N g_x0 (by decide) (i := 2) rfl (Nat.le_of_ble_eq_true rfl) (ys := [z0, z1, z1, z3, z4]) rfl (hb hby d1_75) (q := 76) rfl ?_
      intro T h11 _ X N eT W A_x0'
      have K := K.wr W (Or.inl (List.mem_of_getElem? (i := 0) rfl))
      have sz : n0 ≤ h11.size := by rw [W.size]; exact sz
      have A_x0 := A_x0'
      refine s_iinc X hx (w := (0 : Int32)) (hb hby d1_76) rfl rfl (L' := #[.val (.ref x0), .val (.int (1 : Int32)), .val (.int (5 : Int32)), .val (.int x3), .val (.int tt), .val (.int (z1 ^^^ tt)), .val (.int (2 : Int32)), .val (.int z2), .val (.int (z2 ^^^ tt)), .val (.int (0 : Int32))]) rfl (q := 79) rfl ?_
      refine s_iload X hx (hb hby d1_79) rfl (q := 81) rfl ?_
      refine s_iloadN X hx (hb hby d1_81) rfl (q := 82) rfl ?_
      refine f_icmp_lt X hx (hb hby d1_82) (q1 := 97) (by decide) (by decide) (q := 85) rfl (fun _ => ?_) (fun hq => absurd (by decide : (0 : Int32) < (1 : Int32)) hq)
      refine s_aloadN X hx (hb hby d1_97) rfl rfl (q := 98) rfl ?_
      refine s_iload X hx (hb hby d1_98) rfl (q := 100) rfl ?_
      refine s_iconst X hx (z := (1 : Int32)) (hb hby d1_100) rfl (q := 101) rfl ?_
      refine s_iadd X hx (hb hby d1_101) (q := 102) rfl ?_
      show Go p e below _ T m 102 #[.val (.ref x0), .val (.int (1 : Int32)), .val (.int (5 : Int32)), .val (.int x3), .val (.int tt), .val (.int (z1 ^^^ tt)), .val (.int (2 : Int32)), .val (.int z2), .val (.int (z2 ^^^ tt)), .val (.int (0 : Int32))] [(.int (1 : Int32)), (.ref x0)]
      refine s_iload X hx (hb hby d1_102) rfl (q := 104) rfl ?_
      refine s_iastore X hx hZ eT A_x0 N g_x0 (by decide) (i := 1) rfl (Nat.le_of_ble_eq_true rfl) (ys := [z0, z2, z1, z3, z4]) rfl (hb hby d1_104) (q := 105) rfl ?_
      intro T h12 _ X N eT W A_x0'
      have K := K.wr W (Or.inl (List.mem_of_getElem? (i := 0) rfl))
      have sz : n0 ≤ h12.size := by rw [W.size]; exact sz
      have A_x0 := A_x0'
      refine s_iinc X hx (w := (3 : Int32)) (hb hby d1_105) rfl rfl (L' := #[.val (.ref x0), .val (.int (1 : Int32)), .val (.int (5 : Int32)), .val (.int x3), .val (.int tt), .val (.int (z1 ^^^ tt)), .val (.int (3 : Int32)), .val (.int z2), .val (.int (z2 ^^^ tt)), .val (.int (0 : Int32))]) rfl (q := 108) rfl ?_
      refine s_goto X hx (hb hby d1_108) (q1 := 27) (by decide) (by decide) ?_
      exact cut3 z0 z2 z1 z3 z4 _ _ _ _ _ _ (One.val rfl) (One.val rfl) (One.val rfl) X eT N sz K A_x0 (own_asym hc50) (hres.trans (by rw [show (CS 1 tt [z0, z1, z2, z3, z4]) = [z0, z2, z1, z3, z4] from by simp only [CS, List.getD_cons_zero, List.getD_cons_succ, List.set_cons_zero, List.set_cons_succ, if_pos hc50]]))
    refine s_iload X hx (hb hby d1_53) rfl (q := 55) rfl ?_
    refine s_istore X hx (hb hby d1_55) (L' := #[.val (.ref x0), .val (.int (1 : Int32)), .val (.int (5 : Int32)), .val (.int x3), .val (.int tt), .val (.int (z2 ^^^ tt)), .val (.int (2 : Int32)), .val (.int z2), .val (.int (z2 ^^^ tt)), s9]) rfl (q := 57) rfl ?_
    refine s_goto X hx (hb hby d1_57) (q1 := 105) (by decide) (by decide) ?_
    refine s_iinc X hx (w := (3 : Int32)) (hb hby d1_105) rfl rfl (L' := #[.val (.ref x0), .val (.int (1 : Int32)), .val (.int (5 : Int32)), .val (.int x3), .val (.int tt), .val (.int (z2 ^^^ tt)), .val (.int (3 : Int32)), .val (.int z2), .val (.int (z2 ^^^ tt)), s9]) rfl (q := 108) rfl ?_
    refine s_goto X hx (hb hby d1_108) (q1 := 27) (by decide) (by decide) ?_
    exact cut3 z0 z1 z2 z3 z4 _ _ _ _ _ _ (One.val rfl) (One.val rfl) hs9 X eT N sz K A_x0 hc50 (hres.trans (by rw [show (CS 1 tt [z0, z1, z2, z3, z4]) = [z0, z1, z2, z3, z4] from by simp only [CS, List.getD_cons_zero, List.getD_cons_succ, List.set_cons_zero, List.set_cons_succ, if_neg hc50]]))
  exact cut2 y0 y1 y2 y3 y4 _ _ _ _ _ _ One.u One.u One.u X eT N sz K A_x0 (by rw [htt] at hRES; exact hRES)
set_option maxRecDepth 65536 in
set_option maxHeartbeats 40000000 in
theorem rm1_22 (l : Launch) (Z : State) (a0 : Array Value) (hw : ∀ d ∈ tables_1, d.before a0 Z = true) (ws : List Jvm.Cond) (x0 : Addr) (x3 : Int32) (y0 y1 y2 y3 y4 : Int32) (RES : List Int32) (h0 : Heap) (n0 : Nat) (sz : n0 ≤ h0.size) (A_x0 : AI Z h0 x0 .int [y0, y1, y2, y3, y4]) (g_x0 : n0 ≤ x0) (hRES : RES = [y0, y1, y2, y3, y4]) :
    Ctr l (⟨"com/example/digitwise/digitwise/internal/IntRadixSort", "insertionSort", "([IIII)V"⟩ : MethodName) prog_7_method_52_code 10 none ws ({ frames := 0, cells := 0, slots := 0, locals := 0 } : Room) Z #[(.ref x0), (.int (2 : Int32)), (.int (2 : Int32)), (.int x3)] h0 (fun v h L => v = none ∧ Fr n0 L ∧ Keep h0 h [x0] ∧ AI Z h x0 .int RES) 0 0 := by
  refine Ctr.mk pn_1 ?_
  intro p e s m below meth c T hx hby hml hown hnm hlk hret hZ X eT
  have N := Fr.nil n0
  refine enter (ef_1 m x0 (2 : Int32) (2 : Int32) x3) ?_
  have K := Keep.refl h0 [x0]
  revert hRES
  intro hRES
  refine s_iloadN X hx (hb hby d1_0) rfl (q := 1) rfl ?_
  refine s_iloadN X hx (hb hby d1_1) rfl (q := 2) rfl ?_
  refine s_isub X hx (hb hby d1_2) (q := 3) rfl ?_
  show Go p e below _ T m 3 #[.val (.ref x0), .val (.int (2 : Int32)), .val (.int (2 : Int32)), .val (.int x3), .unset, .unset, .unset, .unset, .unset, .unset] [(.int (0 : Int32))]
  refine s_iconst X hx (z := (2 : Int32)) (hb hby d1_3) rfl (q := 4) rfl ?_
  refine f_icmp_ge X hx (hb hby d1_4) (q1 := 8) (by decide) (by decide) (q := 7) rfl (fun hq => absurd (by decide : (0 : Int32) < (2 : Int32)) hq) (fun _ => ?_)
  exact leafV X hx hlk hret (hb hby d1_7) (by decide) (by decide) (by rw [eT]; exact ⟨rfl, N, K, hRES ▸ A_x0⟩)
set_option maxRecDepth 65536 in
set_option maxHeartbeats 40000000 in
theorem rm1_23 (l : Launch) (Z : State) (a0 : Array Value) (hw : ∀ d ∈ tables_1, d.before a0 Z = true) (ws : List Jvm.Cond) (x0 : Addr) (x3 : Int32) (y0 y1 y2 y3 y4 : Int32) (RES : List Int32) (h0 : Heap) (n0 : Nat) (sz : n0 ≤ h0.size) (A_x0 : AI Z h0 x0 .int [y0, y1, y2, y3, y4]) (g_x0 : n0 ≤ x0) (hRES : RES = [y0, y1, y2, y3, y4]) :
    Ctr l (⟨"com/example/digitwise/digitwise/internal/IntRadixSort", "insertionSort", "([IIII)V"⟩ : MethodName) prog_7_method_52_code 10 none ws ({ frames := 0, cells := 0, slots := 0, locals := 0 } : Room) Z #[(.ref x0), (.int (2 : Int32)), (.int (3 : Int32)), (.int x3)] h0 (fun v h L => v = none ∧ Fr n0 L ∧ Keep h0 h [x0] ∧ AI Z h x0 .int RES) 0 0 := by
  refine Ctr.mk pn_1 ?_
  intro p e s m below meth c T hx hby hml hown hnm hlk hret hZ X eT
  have N := Fr.nil n0
  refine enter (ef_1 m x0 (2 : Int32) (3 : Int32) x3) ?_
  have K := Keep.refl h0 [x0]
  revert hRES
  intro hRES
  refine s_iloadN X hx (hb hby d1_0) rfl (q := 1) rfl ?_
  refine s_iloadN X hx (hb hby d1_1) rfl (q := 2) rfl ?_
  refine s_isub X hx (hb hby d1_2) (q := 3) rfl ?_
  show Go p e below _ T m 3 #[.val (.ref x0), .val (.int (2 : Int32)), .val (.int (3 : Int32)), .val (.int x3), .unset, .unset, .unset, .unset, .unset, .unset] [(.int (1 : Int32))]
  refine s_iconst X hx (z := (2 : Int32)) (hb hby d1_3) rfl (q := 4) rfl ?_
  refine f_icmp_ge X hx (hb hby d1_4) (q1 := 8) (by decide) (by decide) (q := 7) rfl (fun hq => absurd (by decide : (1 : Int32) < (2 : Int32)) hq) (fun _ => ?_)
  exact leafV X hx hlk hret (hb hby d1_7) (by decide) (by decide) (by rw [eT]; exact ⟨rfl, N, K, hRES ▸ A_x0⟩)
set_option maxRecDepth 65536 in
set_option maxHeartbeats 40000000 in
theorem rm1_24 (l : Launch) (Z : State) (a0 : Array Value) (hw : ∀ d ∈ tables_1, d.before a0 Z = true) (ws : List Jvm.Cond) (x0 : Addr) (x3 : Int32) (y0 y1 y2 y3 y4 : Int32) (RES : List Int32) (h0 : Heap) (n0 : Nat) (sz : n0 ≤ h0.size) (A_x0 : AI Z h0 x0 .int [y0, y1, y2, y3, y4]) (g_x0 : n0 ≤ x0) (hRES : RES = (CS 2 (x3 ^^^ (-2147483648 : Int32)) [y0, y1, y2, y3, y4])) :
    Ctr l (⟨"com/example/digitwise/digitwise/internal/IntRadixSort", "insertionSort", "([IIII)V"⟩ : MethodName) prog_7_method_52_code 10 none ws ({ frames := 0, cells := 0, slots := 0, locals := 0 } : Room) Z #[(.ref x0), (.int (2 : Int32)), (.int (4 : Int32)), (.int x3)] h0 (fun v h L => v = none ∧ Fr n0 L ∧ Keep h0 h [x0] ∧ AI Z h x0 .int RES) 0 0 := by
  refine Ctr.mk pn_1 ?_
  intro p e s m below meth c T hx hby hml hown hnm hlk hret hZ X eT
  have N := Fr.nil n0
  refine enter (ef_1 m x0 (2 : Int32) (4 : Int32) x3) ?_
  have K := Keep.refl h0 [x0]
  revert hRES
  intro hRES
  refine s_iloadN X hx (hb hby d1_0) rfl (q := 1) rfl ?_
  refine s_iloadN X hx (hb hby d1_1) rfl (q := 2) rfl ?_
  refine s_isub X hx (hb hby d1_2) (q := 3) rfl ?_
  show Go p e below _ T m 3 #[.val (.ref x0), .val (.int (2 : Int32)), .val (.int (4 : Int32)), .val (.int x3), .unset, .unset, .unset, .unset, .unset, .unset] [(.int (2 : Int32))]
  refine s_iconst X hx (z := (2 : Int32)) (hb hby d1_3) rfl (q := 4) rfl ?_
  refine f_icmp_ge X hx (hb hby d1_4) (q1 := 8) (by decide) (by decide) (q := 7) rfl (fun _ => ?_) (fun hq => absurd hq (by decide : ¬ (2 : Int32) < (2 : Int32)))
  refine s_iloadN X hx (hb hby d1_8) rfl (q := 9) rfl ?_
  refine s_ldc X hx hZ hown (hw _ (List.mem_of_getElem? (i := 10) rfl)) (hb hby d1_9) (q := 11) rfl ?_
  refine s_ixor X hx (hb hby d1_11) (q := 12) rfl ?_
  generalize htt : (x3 ^^^ (-2147483648 : Int32)) = tt
  refine s_istore X hx (hb hby d1_12) (L' := #[.val (.ref x0), .val (.int (2 : Int32)), .val (.int (4 : Int32)), .val (.int x3), .val (.int tt), .unset, .unset, .unset, .unset, .unset]) rfl (q := 14) rfl ?_
  refine s_aloadN X hx (hb hby d1_14) rfl rfl (q := 15) rfl ?_
  refine s_iloadN X hx (hb hby d1_15) rfl (q := 16) rfl ?_
  refine s_iaload X hx hZ eT A_x0 (by decide) (i := 2) rfl (x := y2) rfl (hb hby d1_16) (q := 17) rfl ?_
  refine s_iload X hx (hb hby d1_17) rfl (q := 19) rfl ?_
  refine s_ixor X hx (hb hby d1_19) (q := 20) rfl ?_
  refine s_istore X hx (hb hby d1_20) (L' := #[.val (.ref x0), .val (.int (2 : Int32)), .val (.int (4 : Int32)), .val (.int x3), .val (.int tt), .val (.int (y2 ^^^ tt)), .unset, .unset, .unset, .unset]) rfl (q := 22) rfl ?_
  refine s_iloadN X hx (hb hby d1_22) rfl (q := 23) rfl ?_
  refine s_iconst X hx (z := (1 : Int32)) (hb hby d1_23) rfl (q := 24) rfl ?_
  refine s_iadd X hx (hb hby d1_24) (q := 25) rfl ?_
  show Go p e below _ T m 25 #[.val (.ref x0), .val (.int (2 : Int32)), .val (.int (4 : Int32)), .val (.int x3), .val (.int tt), .val (.int (y2 ^^^ tt)), .unset, .unset, .unset, .unset] [(.int (3 : Int32))]
  refine s_istore X hx (hb hby d1_25) (L' := #[.val (.ref x0), .val (.int (2 : Int32)), .val (.int (4 : Int32)), .val (.int x3), .val (.int tt), .val (.int (y2 ^^^ tt)), .val (.int (3 : Int32)), .unset, .unset, .unset]) rfl (q := 27) rfl ?_
  have cut4 : ∀ (z0 z1 z2 z3 z4 : Int32) (s7 s8 s9 : Slot) (T : State) (hh : Heap) (locs : List Loc), One s7 → One s8 → One s9 → Stand p l e ({ frames := 0, cells := 0, slots := 0, locals := 0 } : Room) s m #[(.ref x0), (.int (2 : Int32)), (.int (4 : Int32)), (.int x3)] below meth c T locs 0 0 → T.heap = hh → Fr n0 locs → n0 ≤ hh.size → Keep h0 hh [x0] → AI Z hh x0 .int [z0, z1, z2, z3, z4] → ¬ (z3 ^^^ tt) < (z2 ^^^ tt) → RES = [z0, z1, z2, z3, z4] → Go p e below (Gl s below (fun v h L => v = none ∧ Fr n0 L ∧ Keep h0 h [x0] ∧ AI Z h x0 .int RES) 0 0) T m 27 #[.val (.ref x0), .val (.int (2 : Int32)), .val (.int (4 : Int32)), .val (.int x3), .val (.int tt), .val (.int (z3 ^^^ tt)), .val (.int (4 : Int32)), s7, s8, s9] [] := by
    intro z0 z1 z2 z3 z4 s7 s8 s9 T hh locs hs7 hs8 hs9 X eT N sz K A_x0 q2 hres
    refine s_iload X hx (hb hby d1_27) rfl (q := 29) rfl ?_
    refine s_iloadN X hx (hb hby d1_29) rfl (q := 30) rfl ?_
    refine f_icmp_ge X hx (hb hby d1_30) (q1 := 111) (by decide) (by decide) (q := 33) rfl (fun _ => ?_) (fun hq => absurd hq (by decide : ¬ (4 : Int32) < (4 : Int32)))
    exact leafV X hx hlk hret (hb hby d1_111) (by decide) (by decide) (by rw [eT]; exact ⟨rfl, N, K, hres ▸ A_x0⟩)
  have cut3 : ∀ (z0 z1 z2 z3 z4 : Int32) (s7 s8 s9 : Slot) (T : State) (hh : Heap) (locs : List Loc), One s7 → One s8 → One s9 → Stand p l e ({ frames := 0, cells := 0, slots := 0, locals := 0 } : Room) s m #[(.ref x0), (.int (2 : Int32)), (.int (4 : Int32)), (.int x3)] below meth c T locs 0 0 → T.heap = hh → Fr n0 locs → n0 ≤ hh.size → Keep h0 hh [x0] → AI Z hh x0 .int [z0, z1, z2, z3, z4] → RES = (CS 2 tt [z0, z1, z2, z3, z4]) → Go p e below (Gl s below (fun v h L => v = none ∧ Fr n0 L ∧ Keep h0 h [x0] ∧ AI Z h x0 .int RES) 0 0) T m 27 #[.val (.ref x0), .val (.int (2 : Int32)), .val (.int (4 : Int32)), .val (.int x3), .val (.int tt), .val (.int (z2 ^^^ tt)), .val (.int (3 : Int32)), s7, s8, s9] [] := by
    intro z0 z1 z2 z3 z4 s7 s8 s9 T hh locs hs7 hs8 hs9 X eT N sz K A_x0  hres
    refine s_iload X hx (hb hby d1_27) rfl (q := 29) rfl ?_
    refine s_iloadN X hx (hb hby d1_29) rfl (q := 30) rfl ?_
    refine f_icmp_ge X hx (hb hby d1_30) (q1 := 111) (by decide) (by decide) (q := 33) rfl (fun hq => absurd (by decide : (3 : Int32) < (4 : Int32)) hq) (fun _ => ?_)
    refine s_aloadN X hx (hb hby d1_33) rfl rfl (q := 34) rfl ?_
    refine s_iload X hx (hb hby d1_34) rfl (q := 36) rfl ?_
    refine s_iaload X hx hZ eT A_x0 (by decide) (i := 3) rfl (x := z3) rfl (hb hby d1_36) (q := 37) rfl ?_
    refine s_istore X hx (hb hby d1_37) (L' := #[.val (.ref x0), .val (.int (2 : Int32)), .val (.int (4 : Int32)), .val (.int x3), .val (.int tt), .val (.int (z2 ^^^ tt)), .val (.int (3 : Int32)), .val (.int z3), s8, s9]) (by rcases hs7 with rfl | ⟨w', rfl, hw'⟩ <;> first | rfl | (cases w' <;> first | rfl | (simp [Value.category] at hw'))) (q := 39) rfl ?_
    refine s_iload X hx (hb hby d1_39) rfl (q := 41) rfl ?_
    refine s_iload X hx (hb hby d1_41) rfl (q := 43) rfl ?_
    refine s_ixor X hx (hb hby d1_43) (q := 44) rfl ?_
    refine s_istore X hx (hb hby d1_44) (L' := #[.val (.ref x0), .val (.int (2 : Int32)), .val (.int (4 : Int32)), .val (.int x3), .val (.int tt), .val (.int (z2 ^^^ tt)), .val (.int (3 : Int32)), .val (.int z3), .val (.int (z3 ^^^ tt)), s9]) (by rcases hs8 with rfl | ⟨w', rfl, hw'⟩ <;> first | rfl | (cases w' <;> first | rfl | (simp [Value.category] at hw'))) (q := 46) rfl ?_
    refine s_iload X hx (hb hby d1_46) rfl (q := 48) rfl ?_
    refine s_iload X hx (hb hby d1_48) rfl (q := 50) rfl ?_
    refine f_icmp_lt X hx (hb hby d1_50) (q1 := 60) (by decide) (by decide) (q := 53) rfl (fun hc50 => ?_) (fun hc50 => ?_)
    · refine s_iload X hx (hb hby d1_60) rfl (q := 62) rfl ?_
      refine s_iconst X hx (z := (1 : Int32)) (hb hby d1_62) rfl (q := 63) rfl ?_
      refine s_isub X hx (hb hby d1_63) (q := 64) rfl ?_
      show Go p e below _ T m 64 #[.val (.ref x0), .val (.int (2 : Int32)), .val (.int (4 : Int32)), .val (.int x3), .val (.int tt), .val (.int (z2 ^^^ tt)), .val (.int (3 : Int32)), .val (.int z3), .val (.int (z3 ^^^ tt)), s9] [(.int (2 : Int32))]
      refine s_istore X hx (hb hby d1_64) (L' := #[.val (.ref x0), .val (.int (2 : Int32)), .val (.int (4 : Int32)), .val (.int x3), .val (.int tt), .val (.int (z2 ^^^ tt)), .val (.int (3 : Int32)), .val (.int z3), .val (.int (z3 ^^^ tt)), .val (.int (2 : Int32))]) (by rcases hs9 with rfl | ⟨w', rfl, hw'⟩ <;> first | rfl | (cases w' <;> first | rfl | (simp [Value.category] at hw'))) (q := 66) rfl ?_
      refine s_aloadN X hx (hb hby d1_66) rfl rfl (q := 67) rfl ?_
      refine s_iload X hx (hb hby d1_67) rfl (q := 69) rfl ?_
      refine s_iconst X hx (z := (1 : Int32)) (hb hby d1_69) rfl (q := 70) rfl ?_
      refine s_iadd X hx (hb hby d1_70) (q := 71) rfl ?_
      show Go p e below _ T m 71 #[.val (.ref x0), .val (.int (2 : Int32)), .val (.int (4 : Int32)), .val (.int x3), .val (.int tt), .val (.int (z2 ^^^ tt)), .val (.int (3 : Int32)), .val (.int z3), .val (.int (z3 ^^^ tt)), .val (.int (2 : Int32))] [(.int (3 : Int32)), (.ref x0)]
      refine s_aloadN X hx (hb hby d1_71) rfl rfl (q := 72) rfl ?_
      refine s_iload X hx (hb hby d1_72) rfl (q := 74) rfl ?_
      refine s_iaload X hx hZ eT A_x0 (by decide) (i := 2) rfl (x := z2) rfl (hb hby d1_74) (q := 75) rfl ?_
      refine s_iastore X hx hZ eT A_x0 N g_x0 (by decide) (i := 3) rfl (Nat.le_of_ble_eq_true rfl) (ys := [z0, z1, z2, z2, z4]) rfl (hb hby d1_75) (q := 76) rfl ?_
      intro T h1 _ X N eT W A_x0'
      have K := K.wr W (Or.inl (List.mem_of_getElem? (i := 0) rfl))
      have sz : n0 ≤ h1.size := by rw [W.size]; exact sz
      have A_x0 := A_x0'
      refine s_iinc X hx (w := (1 : Int32)) (hb hby d1_76) rfl rfl (L' := #[.val (.ref x0), .val (.int (2 : Int32)), .val (.int (4 : Int32)), .val (.int x3), .val (.int tt), .val (.int (z2 ^^^ tt)), .val (.int (3 : Int32)), .val (.int z3), .val (.int (z3 ^^^ tt)), .val (.int (1 : Int32))]) rfl (q := 79) rfl ?_
      refine s_iload X hx (hb hby d1_79) rfl (q := 81) rfl ?_
      refine s_iloadN X hx (hb hby d1_81) rfl (q := 82) rfl ?_
      refine f_icmp_lt X hx (hb hby d1_82) (q1 := 97) (by decide) (by decide) (q := 85) rfl (fun _ => ?_) (fun hq => absurd (by decide : (1 : Int32) < (2 : Int32)) hq)
      refine s_aloadN X hx (hb hby d1_97) rfl rfl (q := 98) rfl ?_
      refine s_iload X hx (hb hby d1_98) rfl (q := 100) rfl ?_
      refine s_iconst X hx (z := (1 : Int32)) (hb hby d1_100) rfl (q := 101) rfl ?_
      refine s_iadd X hx (hb hby d1_101) (q := 102) rfl ?_
      show Go p e below _ T m 102 #[.val (.ref x0), .val (.int (2 : Int32)), .val (.int (4 : Int32)), .val (.int x3), .val (.int tt), .val (.int (z2 ^^^ tt)), .val (.int (3 : Int32)), .val (.int z3), .val (.int (z3 ^^^ tt)), .val (.int (1 : Int32))] [(.int (2 : Int32)), (.ref x0)]
      refine s_iload X hx (hb hby d1_102) rfl (q := 104) rfl ?_
      refine s_iastore X hx hZ eT A_x0 N g_x0 (by decide) (i := 2) rfl (Nat.le_of_ble_eq_true rfl) (ys := [z0, z1, z3, z2, z4]) rfl (hb hby d1_104) (q := 105) rfl ?_
      intro T h2 _ X N eT W A_x0'
      have K := K.wr W (Or.inl (List.mem_of_getElem? (i := 0) rfl))
      have sz : n0 ≤ h2.size := by rw [W.size]; exact sz
      have A_x0 := A_x0'
      refine s_iinc X hx (w := (4 : Int32)) (hb hby d1_105) rfl rfl (L' := #[.val (.ref x0), .val (.int (2 : Int32)), .val (.int (4 : Int32)), .val (.int x3), .val (.int tt), .val (.int (z2 ^^^ tt)), .val (.int (4 : Int32)), .val (.int z3), .val (.int (z3 ^^^ tt)), .val (.int (1 : Int32))]) rfl (q := 108) rfl ?_
      refine s_goto X hx (hb hby d1_108) (q1 := 27) (by decide) (by decide) ?_
      exact cut4 z0 z1 z3 z2 z4 _ _ _ _ _ _ (One.val rfl) (One.val rfl) (One.val rfl) X eT N sz K A_x0 (own_asym hc50) (hres.trans (by rw [show (CS 2 tt [z0, z1, z2, z3, z4]) = [z0, z1, z3, z2, z4] from by simp only [CS, List.getD_cons_zero, List.getD_cons_succ, List.set_cons_zero, List.set_cons_succ, if_pos hc50]]))
    refine s_iload X hx (hb hby d1_53) rfl (q := 55) rfl ?_
    refine s_istore X hx (hb hby d1_55) (L' := #[.val (.ref x0), .val (.int (2 : Int32)), .val (.int (4 : Int32)), .val (.int x3), .val (.int tt), .val (.int (z3 ^^^ tt)), .val (.int (3 : Int32)), .val (.int z3), .val (.int (z3 ^^^ tt)), s9]) rfl (q := 57) rfl ?_
    refine s_goto X hx (hb hby d1_57) (q1 := 105) (by decide) (by decide) ?_
    refine s_iinc X hx (w := (4 : Int32)) (hb hby d1_105) rfl rfl (L' := #[.val (.ref x0), .val (.int (2 : Int32)), .val (.int (4 : Int32)), .val (.int x3), .val (.int tt), .val (.int (z3 ^^^ tt)), .val (.int (4 : Int32)), .val (.int z3), .val (.int (z3 ^^^ tt)), s9]) rfl (q := 108) rfl ?_
    refine s_goto X hx (hb hby d1_108) (q1 := 27) (by decide) (by decide) ?_
    exact cut4 z0 z1 z2 z3 z4 _ _ _ _ _ _ (One.val rfl) (One.val rfl) hs9 X eT N sz K A_x0 hc50 (hres.trans (by rw [show (CS 2 tt [z0, z1, z2, z3, z4]) = [z0, z1, z2, z3, z4] from by simp only [CS, List.getD_cons_zero, List.getD_cons_succ, List.set_cons_zero, List.set_cons_succ, if_neg hc50]]))
  exact cut3 y0 y1 y2 y3 y4 _ _ _ _ _ _ One.u One.u One.u X eT N sz K A_x0 (by rw [htt] at hRES; exact hRES)
set_option maxRecDepth 65536 in
set_option maxHeartbeats 40000000 in
theorem rm1_25 (l : Launch) (Z : State) (a0 : Array Value) (hw : ∀ d ∈ tables_1, d.before a0 Z = true) (ws : List Jvm.Cond) (x0 : Addr) (x3 : Int32) (y0 y1 y2 y3 y4 : Int32) (RES : List Int32) (h0 : Heap) (n0 : Nat) (sz : n0 ≤ h0.size) (A_x0 : AI Z h0 x0 .int [y0, y1, y2, y3, y4]) (g_x0 : n0 ≤ x0) (hRES : RES = (CS 2 (x3 ^^^ (-2147483648 : Int32)) (CS 3 (x3 ^^^ (-2147483648 : Int32)) (CS 2 (x3 ^^^ (-2147483648 : Int32)) [y0, y1, y2, y3, y4])))) :
    Ctr l (⟨"com/example/digitwise/digitwise/internal/IntRadixSort", "insertionSort", "([IIII)V"⟩ : MethodName) prog_7_method_52_code 10 none ws ({ frames := 0, cells := 0, slots := 0, locals := 0 } : Room) Z #[(.ref x0), (.int (2 : Int32)), (.int (5 : Int32)), (.int x3)] h0 (fun v h L => v = none ∧ Fr n0 L ∧ Keep h0 h [x0] ∧ AI Z h x0 .int RES) 0 0 := by
  refine Ctr.mk pn_1 ?_
  intro p e s m below meth c T hx hby hml hown hnm hlk hret hZ X eT
  have N := Fr.nil n0
  refine enter (ef_1 m x0 (2 : Int32) (5 : Int32) x3) ?_
  have K := Keep.refl h0 [x0]
  revert hRES
  intro hRES
  refine s_iloadN X hx (hb hby d1_0) rfl (q := 1) rfl ?_
  refine s_iloadN X hx (hb hby d1_1) rfl (q := 2) rfl ?_
  refine s_isub X hx (hb hby d1_2) (q := 3) rfl ?_
  show Go p e below _ T m 3 #[.val (.ref x0), .val (.int (2 : Int32)), .val (.int (5 : Int32)), .val (.int x3), .unset, .unset, .unset, .unset, .unset, .unset] [(.int (3 : Int32))]
  refine s_iconst X hx (z := (2 : Int32)) (hb hby d1_3) rfl (q := 4) rfl ?_
  refine f_icmp_ge X hx (hb hby d1_4) (q1 := 8) (by decide) (by decide) (q := 7) rfl (fun _ => ?_) (fun hq => absurd hq (by decide : ¬ (3 : Int32) < (2 : Int32)))
  refine s_iloadN X hx (hb hby d1_8) rfl (q := 9) rfl ?_
  refine s_ldc X hx hZ hown (hw _ (List.mem_of_getElem? (i := 10) rfl)) (hb hby d1_9) (q := 11) rfl ?_
  refine s_ixor X hx (hb hby d1_11) (q := 12) rfl ?_
  generalize htt : (x3 ^^^ (-2147483648 : Int32)) = tt
  refine s_istore X hx (hb hby d1_12) (L' := #[.val (.ref x0), .val (.int (2 : Int32)), .val (.int (5 : Int32)), .val (.int x3), .val (.int tt), .unset, .unset, .unset, .unset, .unset]) rfl (q := 14) rfl ?_
  refine s_aloadN X hx (hb hby d1_14) rfl rfl (q := 15) rfl ?_
  refine s_iloadN X hx (hb hby d1_15) rfl (q := 16) rfl ?_
  refine s_iaload X hx hZ eT A_x0 (by decide) (i := 2) rfl (x := y2) rfl (hb hby d1_16) (q := 17) rfl ?_
  refine s_iload X hx (hb hby d1_17) rfl (q := 19) rfl ?_
  refine s_ixor X hx (hb hby d1_19) (q := 20) rfl ?_
  refine s_istore X hx (hb hby d1_20) (L' := #[.val (.ref x0), .val (.int (2 : Int32)), .val (.int (5 : Int32)), .val (.int x3), .val (.int tt), .val (.int (y2 ^^^ tt)), .unset, .unset, .unset, .unset]) rfl (q := 22) rfl ?_
  refine s_iloadN X hx (hb hby d1_22) rfl (q := 23) rfl ?_
  refine s_iconst X hx (z := (1 : Int32)) (hb hby d1_23) rfl (q := 24) rfl ?_
  refine s_iadd X hx (hb hby d1_24) (q := 25) rfl ?_
  show Go p e below _ T m 25 #[.val (.ref x0), .val (.int (2 : Int32)), .val (.int (5 : Int32)), .val (.int x3), .val (.int tt), .val (.int (y2 ^^^ tt)), .unset, .unset, .unset, .unset] [(.int (3 : Int32))]
  refine s_istore X hx (hb hby d1_25) (L' := #[.val (.ref x0), .val (.int (2 : Int32)), .val (.int (5 : Int32)), .val (.int x3), .val (.int tt), .val (.int (y2 ^^^ tt)), .val (.int (3 : Int32)), .unset, .unset, .unset]) rfl (q := 27) rfl ?_
  have cut5 : ∀ (z0 z1 z2 z3 z4 : Int32) (s7 s8 s9 : Slot) (T : State) (hh : Heap) (locs : List Loc), One s7 → One s8 → One s9 → Stand p l e ({ frames := 0, cells := 0, slots := 0, locals := 0 } : Room) s m #[(.ref x0), (.int (2 : Int32)), (.int (5 : Int32)), (.int x3)] below meth c T locs 0 0 → T.heap = hh → Fr n0 locs → n0 ≤ hh.size → Keep h0 hh [x0] → AI Z hh x0 .int [z0, z1, z2, z3, z4] → ¬ (z3 ^^^ tt) < (z2 ^^^ tt) → ¬ (z4 ^^^ tt) < (z3 ^^^ tt) → RES = [z0, z1, z2, z3, z4] → Go p e below (Gl s below (fun v h L => v = none ∧ Fr n0 L ∧ Keep h0 h [x0] ∧ AI Z h x0 .int RES) 0 0) T m 27 #[.val (.ref x0), .val (.int (2 : Int32)), .val (.int (5 : Int32)), .val (.int x3), .val (.int tt), .val (.int (z4 ^^^ tt)), .val (.int (5 : Int32)), s7, s8, s9] [] := by
    intro z0 z1 z2 z3 z4 s7 s8 s9 T hh locs hs7 hs8 hs9 X eT N sz K A_x0 q2 q3 hres
    refine s_iload X hx (hb hby d1_27) rfl (q := 29) rfl ?_
    refine s_iloadN X hx (hb hby d1_29) rfl (q := 30) rfl ?_
    refine f_icmp_ge X hx (hb hby d1_30) (q1 := 111) (by decide) (by decide) (q := 33) rfl (fun _ => ?_) (fun hq => absurd hq (by decide : ¬ (5 : Int32) < (5 : Int32)))
    exact leafV X hx hlk hret (hb hby d1_111) (by decide) (by decide) (by rw [eT]; exact ⟨rfl, N, K, hres ▸ A_x0⟩)
  have cut4 : ∀ (z0 z1 z2 z3 z4 : Int32) (s7 s8 s9 : Slot) (T : State) (hh : Heap) (locs : List Loc), One s7 → One s8 → One s9 → Stand p l e ({ frames := 0, cells := 0, slots := 0, locals := 0 } : Room) s m #[(.ref x0), (.int (2 : Int32)), (.int (5 : Int32)), (.int x3)] below meth c T locs 0 0 → T.heap = hh → Fr n0 locs → n0 ≤ hh.size → Keep h0 hh [x0] → AI Z hh x0 .int [z0, z1, z2, z3, z4] → ¬ (z3 ^^^ tt) < (z2 ^^^ tt) → RES = (CS 2 tt (CS 3 tt [z0, z1, z2, z3, z4])) → Go p e below (Gl s below (fun v h L => v = none ∧ Fr n0 L ∧ Keep h0 h [x0] ∧ AI Z h x0 .int RES) 0 0) T m 27 #[.val (.ref x0), .val (.int (2 : Int32)), .val (.int (5 : Int32)), .val (.int x3), .val (.int tt), .val (.int (z3 ^^^ tt)), .val (.int (4 : Int32)), s7, s8, s9] [] := by
    intro z0 z1 z2 z3 z4 s7 s8 s9 T hh locs hs7 hs8 hs9 X eT N sz K A_x0 q2 hres
    refine s_iload X hx (hb hby d1_27) rfl (q := 29) rfl ?_
    refine s_iloadN X hx (hb hby d1_29) rfl (q := 30) rfl ?_
    refine f_icmp_ge X hx (hb hby d1_30) (q1 := 111) (by decide) (by decide) (q := 33) rfl (fun hq => absurd (by decide : (4 : Int32) < (5 : Int32)) hq) (fun _ => ?_)
    refine s_aloadN X hx (hb hby d1_33) rfl rfl (q := 34) rfl ?_
    refine s_iload X hx (hb hby d1_34) rfl (q := 36) rfl ?_
    refine s_iaload X hx hZ eT A_x0 (by decide) (i := 4) rfl (x := z4) rfl (hb hby d1_36) (q := 37) rfl ?_
    refine s_istore X hx (hb hby d1_37) (L' := #[.val (.ref x0), .val (.int (2 : Int32)), .val (.int (5 : Int32)), .val (.int x3), .val (.int tt), .val (.int (z3 ^^^ tt)), .val (.int (4 : Int32)), .val (.int z4), s8, s9]) (by rcases hs7 with rfl | ⟨w', rfl, hw'⟩ <;> first | rfl | (cases w' <;> first | rfl | (simp [Value.category] at hw'))) (q := 39) rfl ?_
    refine s_iload X hx (hb hby d1_39) rfl (q := 41) rfl ?_
    refine s_iload X hx (hb hby d1_41) rfl (q := 43) rfl ?_
    refine s_ixor X hx (hb hby d1_43) (q := 44) rfl ?_
    refine s_istore X hx (hb hby d1_44) (L' := #[.val (.ref x0), .val (.int (2 : Int32)), .val (.int (5 : Int32)), .val (.int x3), .val (.int tt), .val (.int (z3 ^^^ tt)), .val (.int (4 : Int32)), .val (.int z4), .val (.int (z4 ^^^ tt)), s9]) (by rcases hs8 with rfl | ⟨w', rfl, hw'⟩ <;> first | rfl | (cases w' <;> first | rfl | (simp [Value.category] at hw'))) (q := 46) rfl ?_
    refine s_iload X hx (hb hby d1_46) rfl (q := 48) rfl ?_
    refine s_iload X hx (hb hby d1_48) rfl (q := 50) rfl ?_
    refine f_icmp_lt X hx (hb hby d1_50) (q1 := 60) (by decide) (by decide) (q := 53) rfl (fun hc50 => ?_) (fun hc50 => ?_)
    · refine s_iload X hx (hb hby d1_60) rfl (q := 62) rfl ?_
      refine s_iconst X hx (z := (1 : Int32)) (hb hby d1_62) rfl (q := 63) rfl ?_
      refine s_isub X hx (hb hby d1_63) (q := 64) rfl ?_
      show Go p e below _ T m 64 #[.val (.ref x0), .val (.int (2 : Int32)), .val (.int (5 : Int32)), .val (.int x3), .val (.int tt), .val (.int (z3 ^^^ tt)), .val (.int (4 : Int32)), .val (.int z4), .val (.int (z4 ^^^ tt)), s9] [(.int (3 : Int32))]
      refine s_istore X hx (hb hby d1_64) (L' := #[.val (.ref x0), .val (.int (2 : Int32)), .val (.int (5 : Int32)), .val (.int x3), .val (.int tt), .val (.int (z3 ^^^ tt)), .val (.int (4 : Int32)), .val (.int z4), .val (.int (z4 ^^^ tt)), .val (.int (3 : Int32))]) (by rcases hs9 with rfl | ⟨w', rfl, hw'⟩ <;> first | rfl | (cases w' <;> first | rfl | (simp [Value.category] at hw'))) (q := 66) rfl ?_
      refine s_aloadN X hx (hb hby d1_66) rfl rfl (q := 67) rfl ?_
      refine s_iload X hx (hb hby d1_67) rfl (q := 69) rfl ?_
      refine s_iconst X hx (z := (1 : Int32)) (hb hby d1_69) rfl (q := 70) rfl ?_
      refine s_iadd X hx (hb hby d1_70) (q := 71) rfl ?_
      show Go p e below _ T m 71 #[.val (.ref x0), .val (.int (2 : Int32)), .val (.int (5 : Int32)), .val (.int x3), .val (.int tt), .val (.int (z3 ^^^ tt)), .val (.int (4 : Int32)), .val (.int z4), .val (.int (z4 ^^^ tt)), .val (.int (3 : Int32))] [(.int (4 : Int32)), (.ref x0)]
      refine s_aloadN X hx (hb hby d1_71) rfl rfl (q := 72) rfl ?_
      refine s_iload X hx (hb hby d1_72) rfl (q := 74) rfl ?_
      refine s_iaload X hx hZ eT A_x0 (by decide) (i := 3) rfl (x := z3) rfl (hb hby d1_74) (q := 75) rfl ?_
      refine s_iastore X hx hZ eT A_x0 N g_x0 (by decide) (i := 4) rfl (Nat.le_of_ble_eq_true rfl) (ys := [z0, z1, z2, z3, z3]) rfl (hb hby d1_75) (q := 76) rfl ?_
      intro T h1 _ X N eT W A_x0'
      have K := K.wr W (Or.inl (List.mem_of_getElem? (i := 0) rfl))
      have sz : n0 ≤ h1.size := by rw [W.size]; exact sz
      have A_x0 := A_x0'
      refine s_iinc X hx (w := (2 : Int32)) (hb hby d1_76) rfl rfl (L' := #[.val (.ref x0), .val (.int (2 : Int32)), .val (.int (5 : Int32)), .val (.int x3), .val (.int tt), .val (.int (z3 ^^^ tt)), .val (.int (4 : Int32)), .val (.int z4), .val (.int (z4 ^^^ tt)), .val (.int (2 : Int32))]) rfl (q := 79) rfl ?_
      refine s_iload X hx (hb hby d1_79) rfl (q := 81) rfl ?_
      refine s_iloadN X hx (hb hby d1_81) rfl (q := 82) rfl ?_
      refine f_icmp_lt X hx (hb hby d1_82) (q1 := 97) (by decide) (by decide) (q := 85) rfl (fun hq => absurd hq (by decide : ¬ (2 : Int32) < (2 : Int32))) (fun _ => ?_)
      refine s_aloadN X hx (hb hby d1_85) rfl rfl (q := 86) rfl ?_
      refine s_iload X hx (hb hby d1_86) rfl (q := 88) rfl ?_
      refine s_iaload X hx hZ eT A_x0 (by decide) (i := 2) rfl (x := z2) rfl (hb hby d1_88) (q := 89) rfl ?_
      refine s_iload X hx (hb hby d1_89) rfl (q := 91) rfl ?_
      refine s_ixor X hx (hb hby d1_91) (q := 92) rfl ?_
      refine s_iload X hx (hb hby d1_92) rfl (q := 94) rfl ?_
      refine f_icmp_gt X hx (hb hby d1_94) (q1 := 66) (by decide) (by decide) (q := 97) rfl (fun hc94 => ?_) (fun hc94 => ?_)
      · refine s_aloadN X hx (hb hby d1_66) rfl rfl (q := 67) rfl ?_
        refine s_iload X hx (hb hby d1_67) rfl (q := 69) rfl ?_
        refine s_iconst X hx (z := (1 : Int32)) (hb hby d1_69) rfl (q := 70) rfl ?_
        refine s_iadd X hx (hb hby d1_70) (q := 71) rfl ?_
        show Go p e below _ T m 71 #[.val (.ref x0), .val (.int (2 : Int32)), .val (.int (5 : Int32)), .val (.int x3), .val (.int tt), .val (.int (z3 ^^^ tt)), .val (.int (4 : Int32)), .val (.int z4), .val (.int (z4 ^^^ tt)), .val (.int (2 : Int32))] [(.int (3 : Int32)), (.ref x0)]
        refine s_aloadN X hx (hb hby d1_71) rfl rfl (q := 72) rfl ?_
        refine s_iload X hx (hb hby d1_72) rfl (q := 74) rfl ?_
        refine s_iaload X hx hZ eT A_x0 (by decide) (i := 2) rfl (x := z2) rfl (hb hby d1_74) (q := 75) rfl ?_
        refine s_iastore X hx hZ eT A_x0 N g_x0 (by decide) (i := 3) rfl (Nat.le_of_ble_eq_true rfl) (ys := [z0, z1, z2, z2, z3]) rfl (hb hby d1_75) (q := 76) rfl ?_
        intro T h2 _ X N eT W A_x0'
        have K := K.wr W (Or.inl (List.mem_of_getElem? (i := 0) rfl))
        have sz : n0 ≤ h2.size := by rw [W.size]; exact sz
        have A_x0 := A_x0'
        refine s_iinc X hx (w := (1 : Int32)) (hb hby d1_76) rfl rfl (L' := #[.val (.ref x0), .val (.int (2 : Int32)), .val (.int (5 : Int32)), .val (.int x3), .val (.int tt), .val (.int (z3 ^^^ tt)), .val (.int (4 : Int32)), .val (.int z4), .val (.int (z4 ^^^ tt)), .val (.int (1 : Int32))]) rfl (q := 79) rfl ?_
        refine s_iload X hx (hb hby d1_79) rfl (q := 81) rfl ?_
        refine s_iloadN X hx (hb hby d1_81) rfl (q := 82) rfl ?_
        refine f_icmp_lt X hx (hb hby d1_82) (q1 := 97) (by decide) (by decide) (q := 85) rfl (fun _ => ?_) (fun hq => absurd (by decide : (1 : Int32) < (2 : Int32)) hq)
        refine s_aloadN X hx (hb hby d1_97) rfl rfl (q := 98) rfl ?_
        refine s_iload X hx (hb hby d1_98) rfl (q := 100) rfl ?_
        refine s_iconst X hx (z := (1 : Int32)) (hb hby d1_100) rfl (q := 101) rfl ?_
        refine s_iadd X hx (hb hby d1_101) (q := 102) rfl ?_
        show Go p e below _ T m 102 #[.val (.ref x0), .val (.int (2 : Int32)), .val (.int (5 : Int32)), .val (.int x3), .val (.int tt), .val (.int (z3 ^^^ tt)), .val (.int (4 : Int32)), .val (.int z4), .val (.int (z4 ^^^ tt)), .val (.int (1 : Int32))] [(.int (2 : Int32)), (.ref x0)]
        refine s_iload X hx (hb hby d1_102) rfl (q := 104) rfl ?_
        refine s_iastore X hx hZ eT A_x0 N g_x0 (by decide) (i := 2) rfl (Nat.le_of_ble_eq_true rfl) (ys := [z0, z1, z4, z2, z3]) rfl (hb hby d1_104) (q := 105) rfl ?_
        intro T h3 _ X N eT W A_x0'
        have K := K.wr W (Or.inl (List.mem_of_getElem? (i := 0) rfl))
        have sz : n0 ≤ h3.size := by rw [W.size]; exact sz
        have A_x0 := A_x0'
        refine s_iinc X hx (w := (5 : Int32)) (hb hby d1_105) rfl rfl (L' := #[.val (.ref x0), .val (.int (2 : Int32)), .val (.int (5 : Int32)), .val (.int x3), .val (.int tt), .val (.int (z3 ^^^ tt)), .val (.int (5 : Int32)), .val (.int z4), .val (.int (z4 ^^^ tt)), .val (.int (1 : Int32))]) rfl (q := 108) rfl ?_
        refine s_goto X hx (hb hby d1_108) (q1 := 27) (by decide) (by decide) ?_
        exact cut5 z0 z1 z4 z2 z3 _ _ _ _ _ _ (One.val rfl) (One.val rfl) (One.val rfl) X eT N sz K A_x0 (own_asym hc94) q2 (hres.trans (by rw [show (CS 2 tt (CS 3 tt [z0, z1, z2, z3, z4])) = [z0, z1, z4, z2, z3] from by simp only [CS, List.getD_cons_zero, List.getD_cons_succ, List.set_cons_zero, List.set_cons_succ, if_pos hc50, if_pos hc94]]))
      refine s_aloadN X hx (hb hby d1_97) rfl rfl (q := 98) rfl ?_
      refine s_iload X hx (hb hby d1_98) rfl (q := 100) rfl ?_
      refine s_iconst X hx (z := (1 : Int32)) (hb hby d1_100) rfl (q := 101) rfl ?_
      refine s_iadd X hx (hb hby d1_101) (q := 102) rfl ?_
      show Go p e below _ T m 102 #[.val (.ref x0), .val (.int (2 : Int32)), .val (.int (5 : Int32)), .val (.int x3), .val (.int tt), .val (.int (z3 ^^^ tt)), .val (.int (4 : Int32)), .val (.int z4), .val (.int (z4 ^^^ tt)), .val (.int (2 : Int32))] [(.int (3 : Int32)), (.ref x0)]
      refine s_iload X hx (hb hby d1_102) rfl (q := 104) rfl ?_
      refine s_iastore X hx hZ eT A_x0 N g_x0 (by decide) (i := 3) rfl (Nat.le_of_ble_eq_true rfl) (ys := [z0, z1, z2, z4, z3]) rfl (hb hby d1_104) (q := 105) rfl ?_
      intro T h4 _ X N eT W A_x0'
      have K := K.wr W (Or.inl (List.mem_of_getElem? (i := 0) rfl))
      have sz : n0 ≤ h4.size := by rw [W.size]; exact sz
      have A_x0 := A_x0'
      refine s_iinc X hx (w := (5 : Int32)) (hb hby d1_105) rfl rfl (L' := #[.val (.ref x0), .val (.int (2 : Int32)), .val (.int (5 : Int32)), .val (.int x3), .val (.int tt), .val (.int (z3 ^^^ tt)), .val (.int (5 : Int32)), .val (.int z4), .val (.int (z4 ^^^ tt)), .val (.int (2 : Int32))]) rfl (q := 108) rfl ?_
      refine s_goto X hx (hb hby d1_108) (q1 := 27) (by decide) (by decide) ?_
      exact cut5 z0 z1 z2 z4 z3 _ _ _ _ _ _ (One.val rfl) (One.val rfl) (One.val rfl) X eT N sz K A_x0 hc94 (own_asym hc50) (hres.trans (by rw [show (CS 2 tt (CS 3 tt [z0, z1, z2, z3, z4])) = [z0, z1, z2, z4, z3] from by simp only [CS, List.getD_cons_zero, List.getD_cons_succ, List.set_cons_zero, List.set_cons_succ, if_pos hc50, if_neg hc94]]))
    refine s_iload X hx (hb hby d1_53) rfl (q := 55) rfl ?_
    refine s_istore X hx (hb hby d1_55) (L' := #[.val (.ref x0), .val (.int (2 : Int32)), .val (.int (5 : Int32)), .val (.int x3), .val (.int tt), .val (.int (z4 ^^^ tt)), .val (.int (4 : Int32)), .val (.int z4), .val (.int (z4 ^^^ tt)), s9]) rfl (q := 57) rfl ?_
    refine s_goto X hx (hb hby d1_57) (q1 := 105) (by decide) (by decide) ?_
    refine s_iinc X hx (w := (5 : Int32)) (hb hby d1_105) rfl rfl (L' := #[.val (.ref x0), .val (.int (2 : Int32)), .val (.int (5 : Int32)), .val (.int x3), .val (.int tt), .val (.int (z4 ^^^ tt)), .val (.int (5 : Int32)), .val (.int z4), .val (.int (z4 ^^^ tt)), s9]) rfl (q := 108) rfl ?_
    refine s_goto X hx (hb hby d1_108) (q1 := 27) (by decide) (by decide) ?_
    exact cut5 z0 z1 z2 z3 z4 _ _ _ _ _ _ (One.val rfl) (One.val rfl) hs9 X eT N sz K A_x0 q2 hc50 (hres.trans (by rw [show (CS 2 tt (CS 3 tt [z0, z1, z2, z3, z4])) = [z0, z1, z2, z3, z4] from by simp only [CS, List.getD_cons_zero, List.getD_cons_succ, List.set_cons_zero, List.set_cons_succ, if_neg hc50, if_neg q2]]))
  have cut3 : ∀ (z0 z1 z2 z3 z4 : Int32) (s7 s8 s9 : Slot) (T : State) (hh : Heap) (locs : List Loc), One s7 → One s8 → One s9 → Stand p l e ({ frames := 0, cells := 0, slots := 0, locals := 0 } : Room) s m #[(.ref x0), (.int (2 : Int32)), (.int (5 : Int32)), (.int x3)] below meth c T locs 0 0 → T.heap = hh → Fr n0 locs → n0 ≤ hh.size → Keep h0 hh [x0] → AI Z hh x0 .int [z0, z1, z2, z3, z4] → RES = (CS 2 tt (CS 3 tt (CS 2 tt [z0, z1, z2, z3, z4]))) → Go p e below (Gl s below (fun v h L => v = none ∧ Fr n0 L ∧ Keep h0 h [x0] ∧ AI Z h x0 .int RES) 0 0) T m 27 #[.val (.ref x0), .val (.int (2 : Int32)), .val (.int (5 : Int32)), .val (.int x3), .val (.int tt), .val (.int (z2 ^^^ tt)), .val (.int (3 : Int32)), s7, s8, s9] [] := by
    intro z0 z1 z2 z3 z4 s7 s8 s9 T hh locs hs7 hs8 hs9 X eT N sz K A_x0  hres
    refine s_iload X hx (hb hby d1_27) rfl (q := 29) rfl ?_
    refine s_iloadN X hx (hb hby d1_29) rfl (q := 30) rfl ?_
    refine f_icmp_ge X hx (hb hby d1_30) (q1 := 111) (by decide) (by decide) (q := 33) rfl (fun hq => absurd (by decide : (3 : Int32) < (5 : Int32)) hq) (fun _ => ?_)
    refine s_aloadN X hx (hb hby d1_33) rfl rfl (q := 34) rfl ?_
    refine s_iload X hx (hb hby d1_34) rfl (q := 36) rfl ?_
    refine s_iaload X hx hZ eT A_x0 (by decide) (i := 3) rfl (x := z3) rfl (hb hby d1_36) (q := 37) rfl ?_
    refine s_istore X hx (hb hby d1_37) (L' := #[.val (.ref x0), .val (.int (2 : Int32)), .val (.int (5 : Int32)), .val (.int x3), .val (.int tt), .val (.int (z2 ^^^ tt)), .val (.int (3 : Int32)), .val (.int z3), s8, s9]) (by rcases hs7 with rfl | ⟨w', rfl, hw'⟩ <;> first | rfl | (cases w' <;> first | rfl | (simp [Value.category] at hw'))) (q := 39) rfl ?_
    refine s_iload X hx (hb hby d1_39) rfl (q := 41) rfl ?_
    refine s_iload X hx (hb hby d1_41) rfl (q := 43) rfl ?_
    refine s_ixor X hx (hb hby d1_43) (q := 44) rfl ?_
    refine s_istore X hx (hb hby d1_44) (L' := #[.val (.ref x0), .val (.int (2 : Int32)), .val (.int (5 : Int32)), .val (.int x3), .val (.int tt), .val (.int (z2 ^^^ tt)), .val (.int (3 : Int32)), .val (.int z3), .val (.int (z3 ^^^ tt)), s9]) (by rcases hs8 with rfl | ⟨w', rfl, hw'⟩ <;> first | rfl | (cases w' <;> first | rfl | (simp [Value.category] at hw'))) (q := 46) rfl ?_
    refine s_iload X hx (hb hby d1_46) rfl (q := 48) rfl ?_
    refine s_iload X hx (hb hby d1_48) rfl (q := 50) rfl ?_
    refine f_icmp_lt X hx (hb hby d1_50) (q1 := 60) (by decide) (by decide) (q := 53) rfl (fun hc50 => ?_) (fun hc50 => ?_)
    · refine s_iload X hx (hb hby d1_60) rfl (q := 62) rfl ?_
      refine s_iconst X hx (z := (1 : Int32)) (hb hby d1_62) rfl (q := 63) rfl ?_
      refine s_isub X hx (hb hby d1_63) (q := 64) rfl ?_
      show Go p e below _ T m 64 #[.val (.ref x0), .val (.int (2 : Int32)), .val (.int (5 : Int32)), .val (.int x3), .val (.int tt), .val (.int (z2 ^^^ tt)), .val (.int (3 : Int32)), .val (.int z3), .val (.int (z3 ^^^ tt)), s9] [(.int (2 : Int32))]
      refine s_istore X hx (hb hby d1_64) (L' := #[.val (.ref x0), .val (.int (2 : Int32)), .val (.int (5 : Int32)), .val (.int x3), .val (.int tt), .val (.int (z2 ^^^ tt)), .val (.int (3 : Int32)), .val (.int z3), .val (.int (z3 ^^^ tt)), .val (.int (2 : Int32))]) (by rcases hs9 with rfl | ⟨w', rfl, hw'⟩ <;> first | rfl | (cases w' <;> first | rfl | (simp [Value.category] at hw'))) (q := 66) rfl ?_
      refine s_aloadN X hx (hb hby d1_66) rfl rfl (q := 67) rfl ?_
      refine s_iload X hx (hb hby d1_67) rfl (q := 69) rfl ?_
      refine s_iconst X hx (z := (1 : Int32)) (hb hby d1_69) rfl (q := 70) rfl ?_
      refine s_iadd X hx (hb hby d1_70) (q := 71) rfl ?_
      show Go p e below _ T m 71 #[.val (.ref x0), .val (.int (2 : Int32)), .val (.int (5 : Int32)), .val (.int x3), .val (.int tt), .val (.int (z2 ^^^ tt)), .val (.int (3 : Int32)), .val (.int z3), .val (.int (z3 ^^^ tt)), .val (.int (2 : Int32))] [(.int (3 : Int32)), (.ref x0)]
      refine s_aloadN X hx (hb hby d1_71) rfl rfl (q := 72) rfl ?_
      refine s_iload X hx (hb hby d1_72) rfl (q := 74) rfl ?_
      refine s_iaload X hx hZ eT A_x0 (by decide) (i := 2) rfl (x := z2) rfl (hb hby d1_74) (q := 75) rfl ?_
      refine s_iastore X hx hZ eT A_x0 N g_x0 (by decide) (i := 3) rfl (Nat.le_of_ble_eq_true rfl) (ys := [z0, z1, z2, z2, z4]) rfl (hb hby d1_75) (q := 76) rfl ?_
      intro T h5 _ X N eT W A_x0'
      have K := K.wr W (Or.inl (List.mem_of_getElem? (i := 0) rfl))
      have sz : n0 ≤ h5.size := by rw [W.size]; exact sz
      have A_x0 := A_x0'
      refine s_iinc X hx (w := (1 : Int32)) (hb hby d1_76) rfl rfl (L' := #[.val (.ref x0), .val (.int (2 : Int32)), .val (.int (5 : Int32)), .val (.int x3), .val (.int tt), .val (.int (z2 ^^^ tt)), .val (.int (3 : Int32)), .val (.int z3), .val (.int (z3 ^^^ tt)), .val (.int (1 : Int32))]) rfl (q := 79) rfl ?_
      refine s_iload X hx (hb hby d1_79) rfl (q := 81) rfl ?_
      refine s_iloadN X hx (hb hby d1_81) rfl (q := 82) rfl ?_
      refine f_icmp_lt X hx (hb hby d1_82) (q1 := 97) (by decide) (by decide) (q := 85) rfl (fun _ => ?_) (fun hq => absurd (by decide : (1 : Int32) < (2 : Int32)) hq)
      refine s_aloadN X hx (hb hby d1_97) rfl rfl (q := 98) rfl ?_
      refine s_iload X hx (hb hby d1_98) rfl (q := 100) rfl ?_
      refine s_iconst X hx (z := (1 : Int32)) (hb hby d1_100) rfl (q := 101) rfl ?_
      refine s_iadd X hx (hb hby d1_101) (q := 102) rfl ?_
      show Go p e below _ T m 102 #[.val (.ref x0), .val (.int (2 : Int32)), .val (.int (5 : Int32)), .val (.int x3), .val (.int tt), .val (.int (z2 ^^^ tt)), .val (.int (3 : Int32)), .val (.int z3), .val (.int (z3 ^^^ tt)), .val (.int (1 : Int32))] [(.int (2 : Int32)), (.ref x0)]
      refine s_iload X hx (hb hby d1_102) rfl (q := 104) rfl ?_
      refine s_iastore X hx hZ eT A_x0 N g_x0 (by decide) (i := 2) rfl (Nat.le_of_ble_eq_true rfl) (ys := [z0, z1, z3, z2, z4]) rfl (hb hby d1_104) (q := 105) rfl ?_
      intro T h6 _ X N eT W A_x0'
      have K := K.wr W (Or.inl (List.mem_of_getElem? (i := 0) rfl))
      have sz : n0 ≤ h6.size := by rw [W.size]; exact sz
      have A_x0 := A_x0'
      refine s_iinc X hx (w := (4 : Int32)) (hb hby d1_105) rfl rfl (L' := #[.val (.ref x0), .val (.int (2 : Int32)), .val (.int (5 : Int32)), .val (.int x3), .val (.int tt), .val (.int (z2 ^^^ tt)), .val (.int (4 : Int32)), .val (.int z3), .val (.int (z3 ^^^ tt)), .val (.int (1 : Int32))]) rfl (q := 108) rfl ?_
      refine s_goto X hx (hb hby d1_108) (q1 := 27) (by decide) (by decide) ?_
      exact cut4 z0 z1 z3 z2 z4 _ _ _ _ _ _ (One.val rfl) (One.val rfl) (One.val rfl) X eT N sz K A_x0 (own_asym hc50) (hres.trans (by rw [show (CS 2 tt [z0, z1, z2, z3, z4]) = [z0, z1, z3, z2, z4] from by simp only [CS, List.getD_cons_zero, List.getD_cons_succ, List.set_cons_zero, List.set_cons_succ, if_pos hc50]]))
    refine s_iload X hx (hb hby d1_53) rfl (q := 55) rfl ?_
    refine s_istore X hx (hb hby d1_55) (L' := #[.val (.ref x0), .val (.int (2 : Int32)), .val (.int (5 : Int32)), .val (.int x3), .val (.int tt), .val (.int (z3 ^^^ tt)), .val (.int (3 : Int32)), .val (.int z3), .val (.int (z3 ^^^ tt)), s9]) rfl (q := 57) rfl ?_
    refine s_goto X hx (hb hby d1_57) (q1 := 105) (by decide) (by decide) ?_
    refine s_iinc X hx (w := (4 : Int32)) (hb hby d1_105) rfl rfl (L' := #[.val (.ref x0), .val (.int (2 : Int32)), .val (.int (5 : Int32)), .val (.int x3), .val (.int tt), .val (.int (z3 ^^^ tt)), .val (.int (4 : Int32)), .val (.int z3), .val (.int (z3 ^^^ tt)), s9]) rfl (q := 108) rfl ?_
    refine s_goto X hx (hb hby d1_108) (q1 := 27) (by decide) (by decide) ?_
    exact cut4 z0 z1 z2 z3 z4 _ _ _ _ _ _ (One.val rfl) (One.val rfl) hs9 X eT N sz K A_x0 hc50 (hres.trans (by rw [show (CS 2 tt [z0, z1, z2, z3, z4]) = [z0, z1, z2, z3, z4] from by simp only [CS, List.getD_cons_zero, List.getD_cons_succ, List.set_cons_zero, List.set_cons_succ, if_neg hc50]]))
  exact cut3 y0 y1 y2 y3 y4 _ _ _ _ _ _ One.u One.u One.u X eT N sz K A_x0 (by rw [htt] at hRES; exact hRES)
set_option maxRecDepth 65536 in
set_option maxHeartbeats 40000000 in
theorem rm1_33 (l : Launch) (Z : State) (a0 : Array Value) (hw : ∀ d ∈ tables_1, d.before a0 Z = true) (ws : List Jvm.Cond) (x0 : Addr) (x3 : Int32) (y0 y1 y2 y3 y4 : Int32) (RES : List Int32) (h0 : Heap) (n0 : Nat) (sz : n0 ≤ h0.size) (A_x0 : AI Z h0 x0 .int [y0, y1, y2, y3, y4]) (g_x0 : n0 ≤ x0) (hRES : RES = [y0, y1, y2, y3, y4]) :
    Ctr l (⟨"com/example/digitwise/digitwise/internal/IntRadixSort", "insertionSort", "([IIII)V"⟩ : MethodName) prog_7_method_52_code 10 none ws ({ frames := 0, cells := 0, slots := 0, locals := 0 } : Room) Z #[(.ref x0), (.int (3 : Int32)), (.int (3 : Int32)), (.int x3)] h0 (fun v h L => v = none ∧ Fr n0 L ∧ Keep h0 h [x0] ∧ AI Z h x0 .int RES) 0 0 := by
  refine Ctr.mk pn_1 ?_
  intro p e s m below meth c T hx hby hml hown hnm hlk hret hZ X eT
  have N := Fr.nil n0
  refine enter (ef_1 m x0 (3 : Int32) (3 : Int32) x3) ?_
  have K := Keep.refl h0 [x0]
  revert hRES
  intro hRES
  refine s_iloadN X hx (hb hby d1_0) rfl (q := 1) rfl ?_
  refine s_iloadN X hx (hb hby d1_1) rfl (q := 2) rfl ?_
  refine s_isub X hx (hb hby d1_2) (q := 3) rfl ?_
  show Go p e below _ T m 3 #[.val (.ref x0), .val (.int (3 : Int32)), .val (.int (3 : Int32)), .val (.int x3), .unset, .unset, .unset, .unset, .unset, .unset] [(.int (0 : Int32))]
  refine s_iconst X hx (z := (2 : Int32)) (hb hby d1_3) rfl (q := 4) rfl ?_
  refine f_icmp_ge X hx (hb hby d1_4) (q1 := 8) (by decide) (by decide) (q := 7) rfl (fun hq => absurd (by decide : (0 : Int32) < (2 : Int32)) hq) (fun _ => ?_)
  exact leafV X hx hlk hret (hb hby d1_7) (by decide) (by decide) (by rw [eT]; exact ⟨rfl, N, K, hRES ▸ A_x0⟩)
set_option maxRecDepth 65536 in
set_option maxHeartbeats 40000000 in
theorem rm1_34 (l : Launch) (Z : State) (a0 : Array Value) (hw : ∀ d ∈ tables_1, d.before a0 Z = true) (ws : List Jvm.Cond) (x0 : Addr) (x3 : Int32) (y0 y1 y2 y3 y4 : Int32) (RES : List Int32) (h0 : Heap) (n0 : Nat) (sz : n0 ≤ h0.size) (A_x0 : AI Z h0 x0 .int [y0, y1, y2, y3, y4]) (g_x0 : n0 ≤ x0) (hRES : RES = [y0, y1, y2, y3, y4]) :
    Ctr l (⟨"com/example/digitwise/digitwise/internal/IntRadixSort", "insertionSort", "([IIII)V"⟩ : MethodName) prog_7_method_52_code 10 none ws ({ frames := 0, cells := 0, slots := 0, locals := 0 } : Room) Z #[(.ref x0), (.int (3 : Int32)), (.int (4 : Int32)), (.int x3)] h0 (fun v h L => v = none ∧ Fr n0 L ∧ Keep h0 h [x0] ∧ AI Z h x0 .int RES) 0 0 := by
  refine Ctr.mk pn_1 ?_
  intro p e s m below meth c T hx hby hml hown hnm hlk hret hZ X eT
  have N := Fr.nil n0
  refine enter (ef_1 m x0 (3 : Int32) (4 : Int32) x3) ?_
  have K := Keep.refl h0 [x0]
  revert hRES
  intro hRES
  refine s_iloadN X hx (hb hby d1_0) rfl (q := 1) rfl ?_
  refine s_iloadN X hx (hb hby d1_1) rfl (q := 2) rfl ?_
  refine s_isub X hx (hb hby d1_2) (q := 3) rfl ?_
  show Go p e below _ T m 3 #[.val (.ref x0), .val (.int (3 : Int32)), .val (.int (4 : Int32)), .val (.int x3), .unset, .unset, .unset, .unset, .unset, .unset] [(.int (1 : Int32))]
  refine s_iconst X hx (z := (2 : Int32)) (hb hby d1_3) rfl (q := 4) rfl ?_
  refine f_icmp_ge X hx (hb hby d1_4) (q1 := 8) (by decide) (by decide) (q := 7) rfl (fun hq => absurd (by decide : (1 : Int32) < (2 : Int32)) hq) (fun _ => ?_)
  exact leafV X hx hlk hret (hb hby d1_7) (by decide) (by decide) (by rw [eT]; exact ⟨rfl, N, K, hRES ▸ A_x0⟩)
set_option maxRecDepth 65536 in
set_option maxHeartbeats 40000000 in
theorem rm1_35 (l : Launch) (Z : State) (a0 : Array Value) (hw : ∀ d ∈ tables_1, d.before a0 Z = true) (ws : List Jvm.Cond) (x0 : Addr) (x3 : Int32) (y0 y1 y2 y3 y4 : Int32) (RES : List Int32) (h0 : Heap) (n0 : Nat) (sz : n0 ≤ h0.size) (A_x0 : AI Z h0 x0 .int [y0, y1, y2, y3, y4]) (g_x0 : n0 ≤ x0) (hRES : RES = (CS 3 (x3 ^^^ (-2147483648 : Int32)) [y0, y1, y2, y3, y4])) :
    Ctr l (⟨"com/example/digitwise/digitwise/internal/IntRadixSort", "insertionSort", "([IIII)V"⟩ : MethodName) prog_7_method_52_code 10 none ws ({ frames := 0, cells := 0, slots := 0, locals := 0 } : Room) Z #[(.ref x0), (.int (3 : Int32)), (.int (5 : Int32)), (.int x3)] h0 (fun v h L => v = none ∧ Fr n0 L ∧ Keep h0 h [x0] ∧ AI Z h x0 .int RES) 0 0 := by
  refine Ctr.mk pn_1 ?_
  intro p e s m below meth c T hx hby hml hown hnm hlk hret hZ X eT
  have N := Fr.nil n0
  refine enter (ef_1 m x0 (3 : Int32) (5 : Int32) x3) ?_
  have K := Keep.refl h0 [x0]
  revert hRES
  intro hRES
  refine s_iloadN X hx (hb hby d1_0) rfl (q := 1) rfl ?_
  refine s_iloadN X hx (hb hby d1_1) rfl (q := 2) rfl ?_
  refine s_isub X hx (hb hby d1_2) (q := 3) rfl ?_
  show Go p e below _ T m 3 #[.val (.ref x0), .val (.int (3 : Int32)), .val (.int (5 : Int32)), .val (.int x3), .unset, .unset, .unset, .unset, .unset, .unset] [(.int (2 : Int32))]
  refine s_iconst X hx (z := (2 : Int32)) (hb hby d1_3) rfl (q := 4) rfl ?_
  refine f_icmp_ge X hx (hb hby d1_4) (q1 := 8) (by decide) (by decide) (q := 7) rfl (fun _ => ?_) (fun hq => absurd hq (by decide : ¬ (2 : Int32) < (2 : Int32)))
  refine s_iloadN X hx (hb hby d1_8) rfl (q := 9) rfl ?_
  refine s_ldc X hx hZ hown (hw _ (List.mem_of_getElem? (i := 10) rfl)) (hb hby d1_9) (q := 11) rfl ?_
  refine s_ixor X hx (hb hby d1_11) (q := 12) rfl ?_
  generalize htt : (x3 ^^^ (-2147483648 : Int32)) = tt
  refine s_istore X hx (hb hby d1_12) (L' := #[.val (.ref x0), .val (.int (3 : Int32)), .val (.int (5 : Int32)), .val (.int x3), .val (.int tt), .unset, .unset, .unset, .unset, .unset]) rfl (q := 14) rfl ?_
  refine s_aloadN X hx (hb hby d1_14) rfl rfl (q := 15) rfl ?_
  refine s_iloadN X hx (hb hby d1_15) rfl (q := 16) rfl ?_
  refine s_iaload X hx hZ eT A_x0 (by decide) (i := 3) rfl (x := y3) rfl (hb hby d1_16) (q := 17) rfl ?_
  refine s_iload X hx (hb hby d1_17) rfl (q := 19) rfl ?_
  refine s_ixor X hx (hb hby d1_19) (q := 20) rfl ?_
  refine s_istore X hx (hb hby d1_20) (L' := #[.val (.ref x0), .val (.int (3 : Int32)), .val (.int (5 : Int32)), .val (.int x3), .val (.int tt), .val (.int (y3 ^^^ tt)), .unset, .unset, .unset, .unset]) rfl (q := 22) rfl ?_
  refine s_iloadN X hx (hb hby d1_22) rfl (q := 23) rfl ?_
  refine s_iconst X hx (z := (1 : Int32)) (hb hby d1_23) rfl (q := 24) rfl ?_
  refine s_iadd X hx (hb hby d1_24) (q := 25) rfl ?_
  show Go p e below _ T m 25 #[.val (.ref x0), .val (.int (3 : Int32)), .val (.int (5 : Int32)), .val (.int x3), .val (.int tt), .val (.int (y3 ^^^ tt)), .unset, .unset, .unset, .unset] [(.int (4 : Int32))]
  refine s_istore X hx (hb hby d1_25) (L' := #[.val (.ref x0), .val (.int (3 : Int32)), .val (.int (5 : Int32)), .val (.int x3), .val (.int tt), .val (.int (y3 ^^^ tt)), .val (.int (4 : Int32)), .unset, .unset, .unset]) rfl (q := 27) rfl ?_
  have cut5 : ∀ (z0 z1 z2 z3 z4 : Int32) (s7 s8 s9 : Slot) (T : State) (hh : Heap) (locs : List Loc), One s7 → One s8 → One s9 → Stand p l e ({ frames := 0, cells := 0, slots := 0, locals := 0 } : Room) s m #[(.ref x0), (.int (3 : Int32)), (.int (5 : Int32)), (.int x3)] below meth c T locs 0 0 → T.heap = hh → Fr n0 locs → n0 ≤ hh.size → Keep h0 hh [x0] → AI Z hh x0 .int [z0, z1, z2, z3, z4] → ¬ (z4 ^^^ tt) < (z3 ^^^ tt) → RES = [z0, z1, z2, z3, z4] → Go p e below (Gl s below (fun v h L => v = none ∧ Fr n0 L ∧ Keep h0 h [x0] ∧ AI Z h x0 .int RES) 0 0) T m 27 #[.val (.ref x0), .val (.int (3 : Int32)), .val (.int (5 : Int32)), .val (.int x3), .val (.int tt), .val (.int (z4 ^^^ tt)), .val (.int (5 : Int32)), s7, s8, s9] [] := by
    intro z0 z1 z2 z3 z4 s7 s8 s9 T hh locs hs7 hs8 hs9 X eT N sz K A_x0 q3 hres
    refine s_iload X hx (hb hby d1_27) rfl (q := 29) rfl ?_
    refine s_iloadN X hx (hb hby d1_29) rfl (q := 30) rfl ?_
    refine f_icmp_ge X hx (hb hby d1_30) (q1 := 111) (by decide) (by decide) (q := 33) rfl (fun _ => ?_) (fun hq => absurd hq (by decide : ¬ (5 : Int32) < (5 : Int32)))
    exact leafV X hx hlk hret (hb hby d1_111) (by decide) (by decide) (by rw [eT]; exact ⟨rfl, N, K, hres ▸ A_x0⟩)
  have cut4 : ∀ (z0 z1 z2 z3 z4 : Int32) (s7 s8 s9 : Slot) (T : State) (hh : Heap) (locs : List Loc), One s7 → One s8 → One s9 → Stand p l e ({ frames := 0, cells := 0, slots := 0, locals := 0 } : Room) s m #[(.ref x0), (.int (3 : Int32)), (.int (5 : Int32)), (.int x3)] below meth c T locs 0 0 → T.heap = hh → Fr n0 locs → n0 ≤ hh.size → Keep h0 hh [x0] → AI Z hh x0 .int [z0, z1, z2, z3, z4] → RES = (CS 3 tt [z0, z1, z2, z3, z4]) → Go p e below (Gl s below (fun v h L => v = none ∧ Fr n0 L ∧ Keep h0 h [x0] ∧ AI Z h x0 .int RES) 0 0) T m 27 #[.val (.ref x0), .val (.int (3 : Int32)), .val (.int (5 : Int32)), .val (.int x3), .val (.int tt), .val (.int (z3 ^^^ tt)), .val (.int (4 : Int32)), s7, s8, s9] [] := by
    intro z0 z1 z2 z3 z4 s7 s8 s9 T hh locs hs7 hs8 hs9 X eT N sz K A_x0  hres
    refine s_iload X hx (hb hby d1_27) rfl (q := 29) rfl ?_
    refine s_iloadN X hx (hb hby d1_29) rfl (q := 30) rfl ?_
    refine f_icmp_ge X hx (hb hby d1_30) (q1 := 111) (by decide) (by decide) (q := 33) rfl (fun hq => absurd (by decide : (4 : Int32) < (5 : Int32)) hq) (fun _ => ?_)
    refine s_aloadN X hx (hb hby d1_33) rfl rfl (q := 34) rfl ?_
    refine s_iload X hx (hb hby d1_34) rfl (q := 36) rfl ?_
    refine s_iaload X hx hZ eT A_x0 (by decide) (i := 4) rfl (x := z4) rfl (hb hby d1_36) (q := 37) rfl ?_
    refine s_istore X hx (hb hby d1_37) (L' := #[.val (.ref x0), .val (.int (3 : Int32)), .val (.int (5 : Int32)), .val (.int x3), .val (.int tt), .val (.int (z3 ^^^ tt)), .val (.int (4 : Int32)), .val (.int z4), s8, s9]) (by rcases hs7 with rfl | ⟨w', rfl, hw'⟩ <;> first | rfl | (cases w' <;> first | rfl | (simp [Value.category] at hw'))) (q := 39) rfl ?_
    refine s_iload X hx (hb hby d1_39) rfl (q := 41) rfl ?_
    refine s_iload X hx (hb hby d1_41) rfl (q := 43) rfl ?_
    refine s_ixor X hx (hb hby d1_43) (q := 44) rfl ?_
    refine s_istore X hx (hb hby d1_44) (L' := #[.val (.ref x0), .val (.int (3 : Int32)), .val (.int (5 : Int32)), .val (.int x3), .val (.int tt), .val (.int (z3 ^^^ tt)), .val (.int (4 : Int32)), .val (.int z4), .val (.int (z4 ^^^ tt)), s9]) (by rcases hs8 with rfl | ⟨w', rfl, hw'⟩ <;> first | rfl | (cases w' <;> first | rfl | (simp [Value.category] at hw'))) (q := 46) rfl ?_
    refine s_iload X hx (hb hby d1_46) rfl (q := 48) rfl ?_
    refine s_iload X hx (hb hby d1_48) rfl (q := 50) rfl ?_
    refine f_icmp_lt X hx (hb hby d1_50) (q1 := 60) (by decide) (by decide) (q := 53) rfl (fun hc50 => ?_) (fun hc50 => ?_)
    · refine s_iload X hx (hb hby d1_60) rfl (q := 62) rfl ?_
      refine s_iconst X hx (z := (1 : Int32)) (hb hby d1_62) rfl (q := 63) rfl ?_
      refine s_isub X hx (hb hby d1_63) (q := 64) rfl ?_
      show Go p e below _ T m 64 #[.val (.ref x0), .val (.int (3 : Int32)), .val (.int (5 : Int32)), .val (.int x3), .val (.int tt), .val (.int (z3 ^^^ tt)), .val (.int (4 : Int32)), .val (.int z4), .val (.int (z4 ^^^ tt)), s9] [(.int (3 : Int32))]
      refine s_istore X hx (hb hby d1_64) (L' := #[.val (.ref x0), .val (.int (3 : Int32)), .val (.int (5 : Int32)), .val (.int x3), .val (.int tt), .val (.int (z3 ^^^ tt)), .val (.int (4 : Int32)), .val (.int z4), .val (.int (z4 ^^^ tt)), .val (.int (3 : Int32))]) (by rcases hs9 with rfl | ⟨w', rfl, hw'⟩ <;> first | rfl | (cases w' <;> first | rfl | (simp [Value.category] at hw'))) (q := 66) rfl ?_
      refine s_aloadN X hx (hb hby d1_66) rfl rfl (q := 67) rfl ?_
      refine s_iload X hx (hb hby d1_67) rfl (q := 69) rfl ?_
      refine s_iconst X hx (z := (1 : Int32)) (hb hby d1_69) rfl (q := 70) rfl ?_
      refine s_iadd X hx (hb hby d1_70) (q := 71) rfl ?_
      show Go p e below _ T m 71 #[.val (.ref x0), .val (.int (3 : Int32)), .val (.int (5 : Int32)), .val (.int x3), .val (.int tt), .val (.int (z3 ^^^ tt)), .val (.int (4 : Int32)), .val (.int z4), .val (.int (z4 ^^^ tt)), .val (.int (3 : Int32))] [(.int (4 : Int32)), (.ref x0)]
      refine s_aloadN X hx (hb hby d1_71) rfl rfl (q := 72) rfl ?_
      refine s_iload X hx (hb hby d1_72) rfl (q := 74) rfl ?_
      refine s_iaload X hx hZ eT A_x0 (by decide) (i := 3) rfl (x := z3) rfl (hb hby d1_74) (q := 75) rfl ?_
      refine s_iastore X hx hZ eT A_x0 N g_x0 (by decide) (i := 4) rfl (Nat.le_of_ble_eq_true rfl) (ys := [z0, z1, z2, z3, z3]) rfl (hb hby d1_75) (q := 76) rfl ?_
      intro T h1 _ X N eT W A_x0'
      have K := K.wr W (Or.inl (List.mem_of_getElem? (i := 0) rfl))
      have sz : n0 ≤ h1.size := by rw [W.size]; exact sz
      have A_x0 := A_x0'
      refine s_iinc X hx (w := (2 : Int32)) (hb hby d1_76) rfl rfl (L' := #[.val (.ref x0), .val (.int (3 : Int32)), .val (.int (5 : Int32)), .val (.int x3), .val (.int tt), .val (.int (z3 ^^^ tt)), .val (.int (4 : Int32)), .val (.int z4), .val (.int (z4 ^^^ tt)), .val (.int (2 : Int32))]) rfl (q := 79) rfl ?_
      refine s_iload X hx (hb hby d1_79) rfl (q := 81) rfl ?_
      refine s_iloadN X hx (hb hby d1_81) rfl (q := 82) rfl ?_
      refine f_icmp_lt X hx (hb hby d1_82) (q1 := 97) (by decide) (by decide) (q := 85) rfl (fun _ => ?_) (fun hq => absurd (by decide : (2 : Int32) < (3 : Int32)) hq)
      refine s_aloadN X hx (hb hby d1_97) rfl rfl (q := 98) rfl ?_
      refine s_iload X hx (hb hby d1_98) rfl (q := 100) rfl ?_
      refine s_iconst X hx (z := (1 : Int32)) (hb hby d1_100) rfl (q := 101) rfl ?_
      refine s_iadd X hx (hb hby d1_101) (q := 102) rfl ?_
      show Go p e below _ T m 102 #[.val (.ref x0), .val (.int (3 : Int32)), .val (.int (5 : Int32)), .val (.int x3), .val (.int tt), .val (.int (z3 ^^^ tt)), .val (.int (4 : Int32)), .val (.int z4), .val (.int (z4 ^^^ tt)), .val (.int (2 : Int32))] [(.int (3 : Int32)), (.ref x0)]
      refine s_iload X hx (hb hby d1_102) rfl (q := 104) rfl ?_
      refine s_iastore X hx hZ eT A_x0 N g_x0 (by decide) (i := 3) rfl (Nat.le_of_ble_eq_true rfl) (ys := [z0, z1, z2, z4, z3]) rfl (hb hby d1_104) (q := 105) rfl ?_
      intro T h2 _ X N eT W A_x0'
      have K := K.wr W (Or.inl (List.mem_of_getElem? (i := 0) rfl))
      have sz : n0 ≤ h2.size := by rw [W.size]; exact sz
      have A_x0 := A_x0'
      refine s_iinc X hx (w := (5 : Int32)) (hb hby d1_105) rfl rfl (L' := #[.val (.ref x0), .val (.int (3 : Int32)), .val (.int (5 : Int32)), .val (.int x3), .val (.int tt), .val (.int (z3 ^^^ tt)), .val (.int (5 : Int32)), .val (.int z4), .val (.int (z4 ^^^ tt)), .val (.int (2 : Int32))]) rfl (q := 108) rfl ?_
      refine s_goto X hx (hb hby d1_108) (q1 := 27) (by decide) (by decide) ?_
      exact cut5 z0 z1 z2 z4 z3 _ _ _ _ _ _ (One.val rfl) (One.val rfl) (One.val rfl) X eT N sz K A_x0 (own_asym hc50) (hres.trans (by rw [show (CS 3 tt [z0, z1, z2, z3, z4]) = [z0, z1, z2, z4, z3] from by simp only [CS, List.getD_cons_zero, List.getD_cons_succ, List.set_cons_zero, List.set_cons_succ, if_pos hc50]]))
    refine s_iload X hx (hb hby d1_53) rfl (q := 55) rfl ?_
    refine s_istore X hx (hb hby d1_55) (L' := #[.val (.ref x0), .val (.int (3 : Int32)), .val (.int (5 : Int32)), .val (.int x3), .val (.int tt), .val (.int (z4 ^^^ tt)), .val (.int (4 : Int32)), .val (.int z4), .val (.int (z4 ^^^ tt)), s9]) rfl (q := 57) rfl ?_
    refine s_goto X hx (hb hby d1_57) (q1 := 105) (by decide) (by decide) ?_
    refine s_iinc X hx (w := (5 : Int32)) (hb hby d1_105) rfl rfl (L' := #[.val (.ref x0), .val (.int (3 : Int32)), .val (.int (5 : Int32)), .val (.int x3), .val (.int tt), .val (.int (z4 ^^^ tt)), .val (.int (5 : Int32)), .val (.int z4), .val (.int (z4 ^^^ tt)), s9]) rfl (q := 108) rfl ?_
    refine s_goto X hx (hb hby d1_108) (q1 := 27) (by decide) (by decide) ?_
    exact cut5 z0 z1 z2 z3 z4 _ _ _ _ _ _ (One.val rfl) (One.val rfl) hs9 X eT N sz K A_x0 hc50 (hres.trans (by rw [show (CS 3 tt [z0, z1, z2, z3, z4]) = [z0, z1, z2, z3, z4] from by simp only [CS, List.getD_cons_zero, List.getD_cons_succ, List.set_cons_zero, List.set_cons_succ, if_neg hc50]]))
  exact cut4 y0 y1 y2 y3 y4 _ _ _ _ _ _ One.u One.u One.u X eT N sz K A_x0 (by rw [htt] at hRES; exact hRES)
set_option maxRecDepth 65536 in
set_option maxHeartbeats 40000000 in
theorem rm1_44 (l : Launch) (Z : State) (a0 : Array Value) (hw : ∀ d ∈ tables_1, d.before a0 Z = true) (ws : List Jvm.Cond) (x0 : Addr) (x3 : Int32) (y0 y1 y2 y3 y4 : Int32) (RES : List Int32) (h0 : Heap) (n0 : Nat) (sz : n0 ≤ h0.size) (A_x0 : AI Z h0 x0 .int [y0, y1, y2, y3, y4]) (g_x0 : n0 ≤ x0) (hRES : RES = [y0, y1, y2, y3, y4]) :
    Ctr l (⟨"com/example/digitwise/digitwise/internal/IntRadixSort", "insertionSort", "([IIII)V"⟩ : MethodName) prog_7_method_52_code 10 none ws ({ frames := 0, cells := 0, slots := 0, locals := 0 } : Room) Z #[(.ref x0), (.int (4 : Int32)), (.int (4 : Int32)), (.int x3)] h0 (fun v h L => v = none ∧ Fr n0 L ∧ Keep h0 h [x0] ∧ AI Z h x0 .int RES) 0 0 := by
  refine Ctr.mk pn_1 ?_
  intro p e s m below meth c T hx hby hml hown hnm hlk hret hZ X eT
  have N := Fr.nil n0
  refine enter (ef_1 m x0 (4 : Int32) (4 : Int32) x3) ?_
  have K := Keep.refl h0 [x0]
  revert hRES
  intro hRES
  refine s_iloadN X hx (hb hby d1_0) rfl (q := 1) rfl ?_
  refine s_iloadN X hx (hb hby d1_1) rfl (q := 2) rfl ?_
  refine s_isub X hx (hb hby d1_2) (q := 3) rfl ?_
  show Go p e below _ T m 3 #[.val (.ref x0), .val (.int (4 : Int32)), .val (.int (4 : Int32)), .val (.int x3), .unset, .unset, .unset, .unset, .unset, .unset] [(.int (0 : Int32))]
  refine s_iconst X hx (z := (2 : Int32)) (hb hby d1_3) rfl (q := 4) rfl ?_
  refine f_icmp_ge X hx (hb hby d1_4) (q1 := 8) (by decide) (by decide) (q := 7) rfl (fun hq => absurd (by decide : (0 : Int32) < (2 : Int32)) hq) (fun _ => ?_)
  exact leafV X hx hlk hret (hb hby d1_7) (by decide) (by decide) (by rw [eT]; exact ⟨rfl, N, K, hRES ▸ A_x0⟩)
set_option maxRecDepth 65536 in
set_option maxHeartbeats 40000000 in
theorem rm1_45 (l : Launch) (Z : State) (a0 : Array Value) (hw : ∀ d ∈ tables_1, d.before a0 Z = true) (ws : List Jvm.Cond) (x0 : Addr) (x3 : Int32) (y0 y1 y2 y3 y4 : Int32) (RES : List Int32) (h0 : Heap) (n0 : Nat) (sz : n0 ≤ h0.size) (A_x0 : AI Z h0 x0 .int [y0, y1, y2, y3, y4]) (g_x0 : n0 ≤ x0) (hRES : RES = [y0, y1, y2, y3, y4]) :
    Ctr l (⟨"com/example/digitwise/digitwise/internal/IntRadixSort", "insertionSort", "([IIII)V"⟩ : MethodName) prog_7_method_52_code 10 none ws ({ frames := 0, cells := 0, slots := 0, locals := 0 } : Room) Z #[(.ref x0), (.int (4 : Int32)), (.int (5 : Int32)), (.int x3)] h0 (fun v h L => v = none ∧ Fr n0 L ∧ Keep h0 h [x0] ∧ AI Z h x0 .int RES) 0 0 := by
  refine Ctr.mk pn_1 ?_
  intro p e s m below meth c T hx hby hml hown hnm hlk hret hZ X eT
  have N := Fr.nil n0
  refine enter (ef_1 m x0 (4 : Int32) (5 : Int32) x3) ?_
  have K := Keep.refl h0 [x0]
  revert hRES
  intro hRES
  refine s_iloadN X hx (hb hby d1_0) rfl (q := 1) rfl ?_
  refine s_iloadN X hx (hb hby d1_1) rfl (q := 2) rfl ?_
  refine s_isub X hx (hb hby d1_2) (q := 3) rfl ?_
  show Go p e below _ T m 3 #[.val (.ref x0), .val (.int (4 : Int32)), .val (.int (5 : Int32)), .val (.int x3), .unset, .unset, .unset, .unset, .unset, .unset] [(.int (1 : Int32))]
  refine s_iconst X hx (z := (2 : Int32)) (hb hby d1_3) rfl (q := 4) rfl ?_
  refine f_icmp_ge X hx (hb hby d1_4) (q1 := 8) (by decide) (by decide) (q := 7) rfl (fun hq => absurd (by decide : (1 : Int32) < (2 : Int32)) hq) (fun _ => ?_)
  exact leafV X hx hlk hret (hb hby d1_7) (by decide) (by decide) (by rw [eT]; exact ⟨rfl, N, K, hRES ▸ A_x0⟩)
set_option maxRecDepth 65536 in
set_option maxHeartbeats 40000000 in
theorem rm1_55 (l : Launch) (Z : State) (a0 : Array Value) (hw : ∀ d ∈ tables_1, d.before a0 Z = true) (ws : List Jvm.Cond) (x0 : Addr) (x3 : Int32) (y0 y1 y2 y3 y4 : Int32) (RES : List Int32) (h0 : Heap) (n0 : Nat) (sz : n0 ≤ h0.size) (A_x0 : AI Z h0 x0 .int [y0, y1, y2, y3, y4]) (g_x0 : n0 ≤ x0) (hRES : RES = [y0, y1, y2, y3, y4]) :
    Ctr l (⟨"com/example/digitwise/digitwise/internal/IntRadixSort", "insertionSort", "([IIII)V"⟩ : MethodName) prog_7_method_52_code 10 none ws ({ frames := 0, cells := 0, slots := 0, locals := 0 } : Room) Z #[(.ref x0), (.int (5 : Int32)), (.int (5 : Int32)), (.int x3)] h0 (fun v h L => v = none ∧ Fr n0 L ∧ Keep h0 h [x0] ∧ AI Z h x0 .int RES) 0 0 := by
  refine Ctr.mk pn_1 ?_
  intro p e s m below meth c T hx hby hml hown hnm hlk hret hZ X eT
  have N := Fr.nil n0
  refine enter (ef_1 m x0 (5 : Int32) (5 : Int32) x3) ?_
  have K := Keep.refl h0 [x0]
  revert hRES
  intro hRES
  refine s_iloadN X hx (hb hby d1_0) rfl (q := 1) rfl ?_
  refine s_iloadN X hx (hb hby d1_1) rfl (q := 2) rfl ?_
  refine s_isub X hx (hb hby d1_2) (q := 3) rfl ?_
  show Go p e below _ T m 3 #[.val (.ref x0), .val (.int (5 : Int32)), .val (.int (5 : Int32)), .val (.int x3), .unset, .unset, .unset, .unset, .unset, .unset] [(.int (0 : Int32))]
  refine s_iconst X hx (z := (2 : Int32)) (hb hby d1_3) rfl (q := 4) rfl ?_
  refine f_icmp_ge X hx (hb hby d1_4) (q1 := 8) (by decide) (by decide) (q := 7) rfl (fun hq => absurd (by decide : (0 : Int32) < (2 : Int32)) hq) (fun _ => ?_)
  exact leafV X hx hlk hret (hb hby d1_7) (by decide) (by decide) (by rw [eT]; exact ⟨rfl, N, K, hRES ▸ A_x0⟩)
set_option maxHeartbeats 4000000 in
theorem rmAny (l : Launch) (Z : State) (a0 : Array Value) (hw : ∀ d ∈ tables_1, d.before a0 Z = true) (ws : List Jvm.Cond) (x0 : Addr) (f t : Nat) (x3 : Int32) (y0 y1 y2 y3 y4 : Int32) (h0 : Heap) (n0 : Nat) (sz : n0 ≤ h0.size) (A_x0 : AI Z h0 x0 .int [y0, y1, y2, y3, y4]) (g_x0 : n0 ≤ x0) (hf : f ≤ t) (ht : t ≤ 5) :
    Ctr l (⟨"com/example/digitwise/digitwise/internal/IntRadixSort", "insertionSort", "([IIII)V"⟩ : MethodName) prog_7_method_52_code 10 none ws ({ frames := 0, cells := 0, slots := 0, locals := 0 } : Room) Z #[(.ref x0), (.int (Int32.ofNat f)), (.int (Int32.ofNat t)), (.int x3)] h0 (fun v h L => v = none ∧ Fr n0 L ∧ Keep h0 h [x0] ∧ AI Z h x0 .int (NET f t (x3 ^^^ (-2147483648 : Int32)) [y0, y1, y2, y3, y4])) 0 0 := by
  have hc : f = 0 ∨ f = 1 ∨ f = 2 ∨ f = 3 ∨ f = 4 ∨ f = 5 := by omega
  rcases hc with rfl | rfl | rfl | rfl | rfl | rfl
  · have hd : t = 0 ∨ t = 1 ∨ t = 2 ∨ t = 3 ∨ t = 4 ∨ t = 5 := by omega
    rcases hd with rfl | rfl | rfl | rfl | rfl | rfl
    · exact rm1_00 l Z a0 hw ws x0 x3 y0 y1 y2 y3 y4 _ h0 n0 sz A_x0 g_x0 (own_nets_00 y0 y1 y2 y3 y4 _)
    · exact rm1_01 l Z a0 hw ws x0 x3 y0 y1 y2 y3 y4 _ h0 n0 sz A_x0 g_x0 (own_nets_01 y0 y1 y2 y3 y4 _)
    · exact rm1_02 l Z a0 hw ws x0 x3 y0 y1 y2 y3 y4 _ h0 n0 sz A_x0 g_x0 (own_nets_02 y0 y1 y2 y3 y4 _)
    · exact rm1_03 l Z a0 hw ws x0 x3 y0 y1 y2 y3 y4 _ h0 n0 sz A_x0 g_x0 (own_nets_03 y0 y1 y2 y3 y4 _)
    · exact rm1_04 l Z a0 hw ws x0 x3 y0 y1 y2 y3 y4 _ h0 n0 sz A_x0 g_x0 (own_nets_04 y0 y1 y2 y3 y4 _)
    · exact rm1_05 l Z a0 hw ws x0 x3 y0 y1 y2 y3 y4 _ h0 n0 sz A_x0 g_x0 (own_nets_05 y0 y1 y2 y3 y4 _)
  · have hd : t = 1 ∨ t = 2 ∨ t = 3 ∨ t = 4 ∨ t = 5 := by omega
    rcases hd with rfl | rfl | rfl | rfl | rfl
    · exact rm1_11 l Z a0 hw ws x0 x3 y0 y1 y2 y3 y4 _ h0 n0 sz A_x0 g_x0 (own_nets_11 y0 y1 y2 y3 y4 _)
    · exact rm1_12 l Z a0 hw ws x0 x3 y0 y1 y2 y3 y4 _ h0 n0 sz A_x0 g_x0 (own_nets_12 y0 y1 y2 y3 y4 _)
    · exact rm1_13 l Z a0 hw ws x0 x3 y0 y1 y2 y3 y4 _ h0 n0 sz A_x0 g_x0 (own_nets_13 y0 y1 y2 y3 y4 _)
    · exact rm1_14 l Z a0 hw ws x0 x3 y0 y1 y2 y3 y4 _ h0 n0 sz A_x0 g_x0 (own_nets_14 y0 y1 y2 y3 y4 _)
    · exact rm1_15 l Z a0 hw ws x0 x3 y0 y1 y2 y3 y4 _ h0 n0 sz A_x0 g_x0 (own_nets_15 y0 y1 y2 y3 y4 _)
  · have hd : t = 2 ∨ t = 3 ∨ t = 4 ∨ t = 5 := by omega
    rcases hd with rfl | rfl | rfl | rfl
    · exact rm1_22 l Z a0 hw ws x0 x3 y0 y1 y2 y3 y4 _ h0 n0 sz A_x0 g_x0 (own_nets_22 y0 y1 y2 y3 y4 _)
    · exact rm1_23 l Z a0 hw ws x0 x3 y0 y1 y2 y3 y4 _ h0 n0 sz A_x0 g_x0 (own_nets_23 y0 y1 y2 y3 y4 _)
    · exact rm1_24 l Z a0 hw ws x0 x3 y0 y1 y2 y3 y4 _ h0 n0 sz A_x0 g_x0 (own_nets_24 y0 y1 y2 y3 y4 _)
    · exact rm1_25 l Z a0 hw ws x0 x3 y0 y1 y2 y3 y4 _ h0 n0 sz A_x0 g_x0 (own_nets_25 y0 y1 y2 y3 y4 _)
  · have hd : t = 3 ∨ t = 4 ∨ t = 5 := by omega
    rcases hd with rfl | rfl | rfl
    · exact rm1_33 l Z a0 hw ws x0 x3 y0 y1 y2 y3 y4 _ h0 n0 sz A_x0 g_x0 (own_nets_33 y0 y1 y2 y3 y4 _)
    · exact rm1_34 l Z a0 hw ws x0 x3 y0 y1 y2 y3 y4 _ h0 n0 sz A_x0 g_x0 (own_nets_34 y0 y1 y2 y3 y4 _)
    · exact rm1_35 l Z a0 hw ws x0 x3 y0 y1 y2 y3 y4 _ h0 n0 sz A_x0 g_x0 (own_nets_35 y0 y1 y2 y3 y4 _)
  · have hd : t = 4 ∨ t = 5 := by omega
    rcases hd with rfl | rfl
    · exact rm1_44 l Z a0 hw ws x0 x3 y0 y1 y2 y3 y4 _ h0 n0 sz A_x0 g_x0 (own_nets_44 y0 y1 y2 y3 y4 _)
    · exact rm1_45 l Z a0 hw ws x0 x3 y0 y1 y2 y3 y4 _ h0 n0 sz A_x0 g_x0 (own_nets_45 y0 y1 y2 y3 y4 _)
  · have hd : t = 5 := by omega
    rcases hd with rfl
    · exact rm1_55 l Z a0 hw ws x0 x3 y0 y1 y2 y3 y4 _ h0 n0 sz A_x0 g_x0 (own_nets_55 y0 y1 y2 y3 y4 _)
theorem o_lt {a b : Nat} (ha : a < 2147483648) (hb : b < 2147483648) : (Int32.ofNat a < Int32.ofNat b) ↔ a < b := by
  rw [Int32.lt_iff_toInt_lt, Int32.toInt_ofNat_small (by omega), Int32.toInt_ofNat_small (by omega)]; omega
theorem own_low (q : Int32) : (q ^^^ (-2147483648 : Int32)) &&& 2147483647 = q &&& 2147483647 := by
  apply Int32.toBitVec_inj.mp
  simp only [Int32.toBitVec_and, Int32.toBitVec_xor]
  apply BitVec.eq_of_getLsbD_eq
  intro i hi
  have h : ∀ i : Fin 32, (((-2147483648 : Int32).toBitVec.getLsbD i.val) && ((2147483647 : Int32).toBitVec.getLsbD i.val)) = false := by decide
  have h' := h ⟨i, hi⟩
  simp only [BitVec.getLsbD_and, BitVec.getLsbD_xor]
  revert h'
  generalize ((-2147483648 : Int32).toBitVec.getLsbD i) = a
  generalize ((2147483647 : Int32).toBitVec.getLsbD i) = b
  generalize (q.toBitVec.getLsbD i) = d
  cases a <;> cases b <;> cases d <;> simp
theorem own_flip (q : Int32) : (0 ≤ q.toInt → (q ^^^ (-2147483648 : Int32)).toInt = q.toInt - 2147483648) ∧ (q.toInt < 0 → (q ^^^ (-2147483648 : Int32)).toInt = q.toInt + 2147483648) := by
  have m1 := c_mask (q ^^^ (-2147483648 : Int32)) 2147483647 31 (by decide) (by decide)
  have m2 := c_mask q 2147483647 31 (by decide) (by decide)
  rw [own_low, m2] at m1
  have s := c_xorS q (-2147483648)
  have e : (-2147483648 : Int32).toInt = -2147483648 := by decide
  have r1 := rng32 q
  have r2 := rng32 (q ^^^ (-2147483648 : Int32))
  omega
theorem own_after (x y sg tt : Int32) (h : (sg = 0 ∧ tt = -2147483648) ∨ (sg = 1 ∧ tt = 0)) : (F3 x y sg = 0) ↔ ¬ (y ^^^ tt) < (x ^^^ tt) := by
  unfold F3
  rcases h with ⟨rfl, rfl⟩ | ⟨rfl, rfl⟩
  · rw [if_pos rfl]
    have a := own_flip x; have b := own_flip y
    have m1 := c_maskL x.toInt64 4294967295 32 (by decide) (by decide)
    have m2 := c_maskL y.toInt64 4294967295 32 (by decide) (by decide)
    rw [c_i2l] at m1 m2
    have r1 := rng32 x; have r2 := rng32 y
    simp only [Int64.lt_iff_toInt_lt, Int32.lt_iff_toInt_lt]
    split
    · constructor
      · intro q; exact absurd q (by decide)
      · intro q; omega
    · constructor
      · intro q; omega
      · intro q; rfl
  · rw [if_neg (by decide)]
    simp only [Int32.xor_zero]
    by_cases q : y < x
    · rw [if_pos q]; constructor
      · intro z; exact absurd z (by decide)
      · intro z; exact absurd q z
    · rw [if_neg q]; constructor
      · intro z; exact q
      · intro z; rfl
theorem d2_0 : decode method_3_code 0 = .ok (.iload_n 2, 1) := by decide +kernel
theorem d2_1 : decode method_3_code 1 = .ok (.iload_n 1, 1) := by decide +kernel
theorem d2_2 : decode method_3_code 2 = .ok (.if_icmp .gt 46, 3) := by decide +kernel
theorem d2_5 : decode method_3_code 5 = .ok (.iload_n 1, 1) := by decide +kernel
theorem d2_6 : decode method_3_code 6 = .ok (.iconst 1, 1) := by decide +kernel
theorem d2_7 : decode method_3_code 7 = .ok (.iadd, 1) := by decide +kernel
theorem d2_8 : decode method_3_code 8 = .ok (.iload_n 3, 1) := by decide +kernel
theorem d2_9 : decode method_3_code 9 = .ok (.if_icmp .ge 39, 3) := by decide +kernel
theorem d2_12 : decode method_3_code 12 = .ok (.aload_n 0, 1) := by decide +kernel
theorem d2_13 : decode method_3_code 13 = .ok (.iload_n 1, 1) := by decide +kernel
theorem d2_14 : decode method_3_code 14 = .ok (.iaload, 1) := by decide +kernel
theorem d2_15 : decode method_3_code 15 = .ok (.aload_n 0, 1) := by decide +kernel
theorem d2_16 : decode method_3_code 16 = .ok (.iload_n 1, 1) := by decide +kernel
theorem d2_17 : decode method_3_code 17 = .ok (.iconst 1, 1) := by decide +kernel
theorem d2_18 : decode method_3_code 18 = .ok (.iadd, 1) := by decide +kernel
theorem d2_19 : decode method_3_code 19 = .ok (.iaload, 1) := by decide +kernel
theorem d2_20 : decode method_3_code 20 = .ok (.iload 4, 2) := by decide +kernel
theorem d2_22 : decode method_3_code 22 = .ok (.invokestatic 22, 3) := by decide +kernel
theorem d2_25 : decode method_3_code 25 = .ok (.ifCond .eq 23, 3) := by decide +kernel
theorem d2_28 : decode method_3_code 28 = .ok (.aload_n 0, 1) := by decide +kernel
theorem d2_29 : decode method_3_code 29 = .ok (.iload_n 1, 1) := by decide +kernel
theorem d2_30 : decode method_3_code 30 = .ok (.iaload, 1) := by decide +kernel
theorem d2_31 : decode method_3_code 31 = .ok (.istore 5, 2) := by decide +kernel
theorem d2_33 : decode method_3_code 33 = .ok (.aload_n 0, 1) := by decide +kernel
theorem d2_34 : decode method_3_code 34 = .ok (.iload_n 1, 1) := by decide +kernel
theorem d2_35 : decode method_3_code 35 = .ok (.aload_n 0, 1) := by decide +kernel
theorem d2_36 : decode method_3_code 36 = .ok (.iload_n 1, 1) := by decide +kernel
theorem d2_37 : decode method_3_code 37 = .ok (.iconst 1, 1) := by decide +kernel
theorem d2_38 : decode method_3_code 38 = .ok (.iadd, 1) := by decide +kernel
theorem d2_39 : decode method_3_code 39 = .ok (.iaload, 1) := by decide +kernel
theorem d2_40 : decode method_3_code 40 = .ok (.iastore, 1) := by decide +kernel
theorem d2_41 : decode method_3_code 41 = .ok (.aload_n 0, 1) := by decide +kernel
theorem d2_42 : decode method_3_code 42 = .ok (.iload_n 1, 1) := by decide +kernel
theorem d2_43 : decode method_3_code 43 = .ok (.iconst 1, 1) := by decide +kernel
theorem d2_44 : decode method_3_code 44 = .ok (.iadd, 1) := by decide +kernel
theorem d2_45 : decode method_3_code 45 = .ok (.iload 5, 2) := by decide +kernel
theorem d2_47 : decode method_3_code 47 = .ok (.iastore, 1) := by decide +kernel
theorem d2_48 : decode method_3_code 48 = .ok (.return_, 1) := by decide +kernel
theorem pn_2 : plainFor (⟨"com/example/digitwise/digitwise/internal/IntRadixSortInsertionSortPinLaw", "step", "([IIIIZ)V"⟩ : MethodName) = true := plainFor_of_name (by first | (simp [plainName, overriddenIn]; done) | decide +kernel)
theorem ef_2 (m : MethodId) (x0 : Addr) (x1 : Int32) (x2 : Int32) (x3 : Int32) (x4 : Int32) : entryFrame m #[(.ref x0), (.int x1), (.int x2), (.int x3), (.int x4)] 6 = mkF m 0 #[.val (.ref x0), .val (.int x1), .val (.int x2), .val (.int x3), .val (.int x4), .unset] [] := by first | (simp [entryFrame, mkF, argsToLocals, Value.category]; done) | rfl
theorem pd0 : parseMethodDescriptor "(IIZ)Z" = some ⟨[.int, .int, .boolean], some .boolean⟩ := by decide +kernel
set_option maxRecDepth 65536 in
set_option maxHeartbeats 40000000 in
theorem rm2_0 (l : Launch) (Z : State) (a0 : Array Value) (hw : ∀ d ∈ tables_1, d.before a0 Z = true) (ws : List Jvm.Cond) (x0 : Addr) (x4 : Int32) (f t : Nat) (tt : Int32) (xs : List Int32) (h0 : Heap) (n0 : Nat) (sz : n0 ≤ h0.size) (A_x0 : AI Z h0 x0 .int xs) (g_x0 : n0 ≤ x0) (hxl : xs.length = 5) (hf5 : f ≤ 5) (ht5 : t ≤ 5) (hsg : (x4 = 0 ∧ tt = -2147483648) ∨ (x4 = 1 ∧ tt = 0)) :
    Ctr l (⟨"com/example/digitwise/digitwise/internal/IntRadixSortInsertionSortPinLaw", "step", "([IIIIZ)V"⟩ : MethodName) method_3_code 6 none ws ({ frames := 1, cells := 0, slots := 0, locals := 14 } : Room) Z #[(.ref x0), (.int (0 : Int32)), (.int (Int32.ofNat f)), (.int (Int32.ofNat t)), (.int x4)] h0 (fun v h L => v = none ∧ Fr n0 L ∧ Keep h0 h [x0] ∧ AI Z h x0 .int (STP 0 f t tt xs)) 0 0 := by
  refine Ctr.mk pn_2 ?_
  intro p e s m below meth c T hx hby hml hown hnm hlk hret hZ X eT
  have N := Fr.nil n0
  refine enter (ef_2 m x0 (0 : Int32) (Int32.ofNat f) (Int32.ofNat t) x4) ?_
  have K := Keep.refl h0 [x0]
  refine s_iloadN X hx (hb hby d2_0) rfl (q := 1) rfl ?_
  refine s_iloadN X hx (hb hby d2_1) rfl (q := 2) rfl ?_
  refine f_icmp_gt X hx (hb hby d2_2) (q1 := 48) (by decide) (by decide) (q := 5) rfl (fun hc2 => ?_) (fun hc2 => ?_)
  · exact leafV X hx hlk hret (hb hby d2_48) (by decide) (by decide) (by rw [eT]; refine ⟨rfl, N, K, ?_⟩; unfold STP; rw [if_neg (fun q => absurd ((o_lt (a := 0) (by omega) (by omega)).mp hc2) (by omega))]; exact A_x0)
  refine s_iloadN X hx (hb hby d2_5) rfl (q := 6) rfl ?_
  refine s_iconst X hx (z := (1 : Int32)) (hb hby d2_6) rfl (q := 7) rfl ?_
  refine s_iadd X hx (hb hby d2_7) (q := 8) rfl ?_
  show Go p e below _ T m 8 #[.val (.ref x0), .val (.int (0 : Int32)), .val (.int (Int32.ofNat f)), .val (.int (Int32.ofNat t)), .val (.int x4), .unset] [(.int (1 : Int32))]
  refine s_iloadN X hx (hb hby d2_8) rfl (q := 9) rfl ?_
  refine f_icmp_ge X hx (hb hby d2_9) (q1 := 48) (by decide) (by decide) (q := 12) rfl (fun hc9 => ?_) (fun hc9 => ?_)
  · exact leafV X hx hlk hret (hb hby d2_48) (by decide) (by decide) (by rw [eT]; refine ⟨rfl, N, K, ?_⟩; unfold STP; rw [if_neg (fun q => hc9 ((o_lt (a := 1) (by omega) (by omega)).mpr q.2))]; exact A_x0)
  refine s_aloadN X hx (hb hby d2_12) rfl rfl (q := 13) rfl ?_
  refine s_iloadN X hx (hb hby d2_13) rfl (q := 14) rfl ?_
  refine s_iaload X hx hZ eT A_x0 (by decide) (i := 0) rfl (x := (xs.getD 0 0)) (own_get _ (by omega)) (hb hby d2_14) (q := 15) rfl ?_
  refine s_aloadN X hx (hb hby d2_15) rfl rfl (q := 16) rfl ?_
  refine s_iloadN X hx (hb hby d2_16) rfl (q := 17) rfl ?_
  refine s_iconst X hx (z := (1 : Int32)) (hb hby d2_17) rfl (q := 18) rfl ?_
  refine s_iadd X hx (hb hby d2_18) (q := 19) rfl ?_
  show Go p e below _ T m 19 #[.val (.ref x0), .val (.int (0 : Int32)), .val (.int (Int32.ofNat f)), .val (.int (Int32.ofNat t)), .val (.int x4), .unset] [(.int (1 : Int32)), (.ref x0), (.int (xs.getD 0 0))]
  refine s_iaload X hx hZ eT A_x0 (by decide) (i := 1) rfl (x := (xs.getD 1 0)) (own_get _ (by omega)) (hb hby d2_19) (q := 20) rfl ?_
  refine s_iload X hx (hb hby d2_20) rfl (q := 22) rfl ?_
  refine callP X hx hZ hown (W := 0) (argsL := [(.int (xs.getD 0 0)), (.int (xs.getD 1 0)), (.int x4)]) (rest := []) (hw _ (List.mem_of_getElem? (i := 11) rfl)) (hw _ (List.mem_of_getElem? (i := 12) rfl)) (hw _ (List.mem_of_getElem? (i := 8) rfl)) (hw _ (List.mem_of_getElem? (i := 13) rfl)) (by decide) (rm3 l Z a0 hw [] (xs.getD 0 0) (xs.getD 1 0) x4 h0) rfl rfl eT (by decide) (by decide) (by decide) (by decide) (by rw [hml]; rfl) pd0 rfl rfl (Nat.le_of_ble_eq_true rfl) (hb hby d2_22) (q := 25) rfl ?_
  intro T X eT
  refine f_if_eq X hx (hb hby d2_25) (q1 := 48) (by decide) (by decide) (q := 28) rfl (fun hc25 => ?_) (fun hc25 => ?_)
  · exact leafV X hx hlk hret (hb hby d2_48) (by decide) (by decide) (by rw [eT]; refine ⟨rfl, N, K, ?_⟩; unfold STP; rw [if_pos ⟨Nat.le_of_not_lt fun q => hc2 ((o_lt (a := 0) (by omega) (by omega)).mpr q), (o_lt (a := 1) (by omega) (by omega)).mp hc9⟩]; unfold CS; rw [if_neg ((own_after _ _ _ _ hsg).mp hc25)]; exact A_x0)
  refine s_aloadN X hx (hb hby d2_28) rfl rfl (q := 29) rfl ?_
  refine s_iloadN X hx (hb hby d2_29) rfl (q := 30) rfl ?_
  refine s_iaload X hx hZ eT A_x0 (by decide) (i := 0) rfl (x := (xs.getD 0 0)) (own_get _ (by omega)) (hb hby d2_30) (q := 31) rfl ?_
  refine s_istore X hx (hb hby d2_31) (L' := #[.val (.ref x0), .val (.int (0 : Int32)), .val (.int (Int32.ofNat f)), .val (.int (Int32.ofNat t)), .val (.int x4), .val (.int (xs.getD 0 0))]) rfl (q := 33) rfl ?_
  refine s_aloadN X hx (hb hby d2_33) rfl rfl (q := 34) rfl ?_
  refine s_iloadN X hx (hb hby d2_34) rfl (q := 35) rfl ?_
  refine s_aloadN X hx (hb hby d2_35) rfl rfl (q := 36) rfl ?_
  refine s_iloadN X hx (hb hby d2_36) rfl (q := 37) rfl ?_
  refine s_iconst X hx (z := (1 : Int32)) (hb hby d2_37) rfl (q := 38) rfl ?_
  refine s_iadd X hx (hb hby d2_38) (q := 39) rfl ?_
  show Go p e below _ T m 39 #[.val (.ref x0), .val (.int (0 : Int32)), .val (.int (Int32.ofNat f)), .val (.int (Int32.ofNat t)), .val (.int x4), .val (.int (xs.getD 0 0))] [(.int (1 : Int32)), (.ref x0), (.int (0 : Int32)), (.ref x0)]
  refine s_iaload X hx hZ eT A_x0 (by decide) (i := 1) rfl (x := (xs.getD 1 0)) (own_get _ (by omega)) (hb hby d2_39) (q := 40) rfl ?_
  refine s_iastore X hx hZ eT A_x0 N g_x0 (by decide) (i := 0) rfl (by first | omega | (simp only [List.length_set]; omega)) (ys := (xs).set 0 (xs.getD 1 0)) rfl (hb hby d2_40) (q := 41) rfl ?_
  intro T h1 _ X N eT W A_x0'
  have K := K.wr W (Or.inl (List.mem_of_getElem? (i := 0) rfl))
  have sz : n0 ≤ h1.size := by rw [W.size]; exact sz
  have A_x0 := A_x0'
  refine s_aloadN X hx (hb hby d2_41) rfl rfl (q := 42) rfl ?_
  refine s_iloadN X hx (hb hby d2_42) rfl (q := 43) rfl ?_
  refine s_iconst X hx (z := (1 : Int32)) (hb hby d2_43) rfl (q := 44) rfl ?_
  refine s_iadd X hx (hb hby d2_44) (q := 45) rfl ?_
  show Go p e below _ T m 45 #[.val (.ref x0), .val (.int (0 : Int32)), .val (.int (Int32.ofNat f)), .val (.int (Int32.ofNat t)), .val (.int x4), .val (.int (xs.getD 0 0))] [(.int (1 : Int32)), (.ref x0)]
  refine s_iload X hx (hb hby d2_45) rfl (q := 47) rfl ?_
  refine s_iastore X hx hZ eT A_x0 N g_x0 (by decide) (i := 1) rfl (by first | omega | (simp only [List.length_set]; omega)) (ys := (((xs).set 0 (xs.getD 1 0))).set 1 (xs.getD 0 0)) rfl (hb hby d2_47) (q := 48) rfl ?_
  intro T h2 _ X N eT W A_x0'
  have K := K.wr W (Or.inl (List.mem_of_getElem? (i := 0) rfl))
  have sz : n0 ≤ h2.size := by rw [W.size]; exact sz
  have A_x0 := A_x0'
  exact leafV X hx hlk hret (hb hby d2_48) (by decide) (by decide) (by rw [eT]; refine ⟨rfl, N, K, ?_⟩; unfold STP; rw [if_pos ⟨Nat.le_of_not_lt fun q => hc2 ((o_lt (a := 0) (by omega) (by omega)).mpr q), (o_lt (a := 1) (by omega) (by omega)).mp hc9⟩]; unfold CS; rw [if_pos (Classical.byContradiction fun q => hc25 ((own_after _ _ _ _ hsg).mpr q))]; exact A_x0)
set_option maxRecDepth 65536 in
set_option maxHeartbeats 40000000 in
theorem rm2_1 (l : Launch) (Z : State) (a0 : Array Value) (hw : ∀ d ∈ tables_1, d.before a0 Z = true) (ws : List Jvm.Cond) (x0 : Addr) (x4 : Int32) (f t : Nat) (tt : Int32) (xs : List Int32) (h0 : Heap) (n0 : Nat) (sz : n0 ≤ h0.size) (A_x0 : AI Z h0 x0 .int xs) (g_x0 : n0 ≤ x0) (hxl : xs.length = 5) (hf5 : f ≤ 5) (ht5 : t ≤ 5) (hsg : (x4 = 0 ∧ tt = -2147483648) ∨ (x4 = 1 ∧ tt = 0)) :
    Ctr l (⟨"com/example/digitwise/digitwise/internal/IntRadixSortInsertionSortPinLaw", "step", "([IIIIZ)V"⟩ : MethodName) method_3_code 6 none ws ({ frames := 1, cells := 0, slots := 0, locals := 14 } : Room) Z #[(.ref x0), (.int (1 : Int32)), (.int (Int32.ofNat f)), (.int (Int32.ofNat t)), (.int x4)] h0 (fun v h L => v = none ∧ Fr n0 L ∧ Keep h0 h [x0] ∧ AI Z h x0 .int (STP 1 f t tt xs)) 0 0 := by
  refine Ctr.mk pn_2 ?_
  intro p e s m below meth c T hx hby hml hown hnm hlk hret hZ X eT
  have N := Fr.nil n0
  refine enter (ef_2 m x0 (1 : Int32) (Int32.ofNat f) (Int32.ofNat t) x4) ?_
  have K := Keep.refl h0 [x0]
  refine s_iloadN X hx (hb hby d2_0) rfl (q := 1) rfl ?_
  refine s_iloadN X hx (hb hby d2_1) rfl (q := 2) rfl ?_
  refine f_icmp_gt X hx (hb hby d2_2) (q1 := 48) (by decide) (by decide) (q := 5) rfl (fun hc2 => ?_) (fun hc2 => ?_)
  · exact leafV X hx hlk hret (hb hby d2_48) (by decide) (by decide) (by rw [eT]; refine ⟨rfl, N, K, ?_⟩; unfold STP; rw [if_neg (fun q => absurd ((o_lt (a := 1) (by omega) (by omega)).mp hc2) (by omega))]; exact A_x0)
  refine s_iloadN X hx (hb hby d2_5) rfl (q := 6) rfl ?_
  refine s_iconst X hx (z := (1 : Int32)) (hb hby d2_6) rfl (q := 7) rfl ?_
  refine s_iadd X hx (hb hby d2_7) (q := 8) rfl ?_
  show Go p e below _ T m 8 #[.val (.ref x0), .val (.int (1 : Int32)), .val (.int (Int32.ofNat f)), .val (.int (Int32.ofNat t)), .val (.int x4), .unset] [(.int (2 : Int32))]
  refine s_iloadN X hx (hb hby d2_8) rfl (q := 9) rfl ?_
  refine f_icmp_ge X hx (hb hby d2_9) (q1 := 48) (by decide) (by decide) (q := 12) rfl (fun hc9 => ?_) (fun hc9 => ?_)
  · exact leafV X hx hlk hret (hb hby d2_48) (by decide) (by decide) (by rw [eT]; refine ⟨rfl, N, K, ?_⟩; unfold STP; rw [if_neg (fun q => hc9 ((o_lt (a := 2) (by omega) (by omega)).mpr q.2))]; exact A_x0)
  refine s_aloadN X hx (hb hby d2_12) rfl rfl (q := 13) rfl ?_
  refine s_iloadN X hx (hb hby d2_13) rfl (q := 14) rfl ?_
  refine s_iaload X hx hZ eT A_x0 (by decide) (i := 1) rfl (x := (xs.getD 1 0)) (own_get _ (by omega)) (hb hby d2_14) (q := 15) rfl ?_
  refine s_aloadN X hx (hb hby d2_15) rfl rfl (q := 16) rfl ?_
  refine s_iloadN X hx (hb hby d2_16) rfl (q := 17) rfl ?_
  refine s_iconst X hx (z := (1 : Int32)) (hb hby d2_17) rfl (q := 18) rfl ?_
  refine s_iadd X hx (hb hby d2_18) (q := 19) rfl ?_
  show Go p e below _ T m 19 #[.val (.ref x0), .val (.int (1 : Int32)), .val (.int (Int32.ofNat f)), .val (.int (Int32.ofNat t)), .val (.int x4), .unset] [(.int (2 : Int32)), (.ref x0), (.int (xs.getD 1 0))]
  refine s_iaload X hx hZ eT A_x0 (by decide) (i := 2) rfl (x := (xs.getD 2 0)) (own_get _ (by omega)) (hb hby d2_19) (q := 20) rfl ?_
  refine s_iload X hx (hb hby d2_20) rfl (q := 22) rfl ?_
  refine callP X hx hZ hown (W := 0) (argsL := [(.int (xs.getD 1 0)), (.int (xs.getD 2 0)), (.int x4)]) (rest := []) (hw _ (List.mem_of_getElem? (i := 11) rfl)) (hw _ (List.mem_of_getElem? (i := 12) rfl)) (hw _ (List.mem_of_getElem? (i := 8) rfl)) (hw _ (List.mem_of_getElem? (i := 13) rfl)) (by decide) (rm3 l Z a0 hw [] (xs.getD 1 0) (xs.getD 2 0) x4 h0) rfl rfl eT (by decide) (by decide) (by decide) (by decide) (by rw [hml]; rfl) pd0 rfl rfl (Nat.le_of_ble_eq_true rfl) (hb hby d2_22) (q := 25) rfl ?_
  intro T X eT
  refine f_if_eq X hx (hb hby d2_25) (q1 := 48) (by decide) (by decide) (q := 28) rfl (fun hc25 => ?_) (fun hc25 => ?_)
  · exact leafV X hx hlk hret (hb hby d2_48) (by decide) (by decide) (by rw [eT]; refine ⟨rfl, N, K, ?_⟩; unfold STP; rw [if_pos ⟨Nat.le_of_not_lt fun q => hc2 ((o_lt (a := 1) (by omega) (by omega)).mpr q), (o_lt (a := 2) (by omega) (by omega)).mp hc9⟩]; unfold CS; rw [if_neg ((own_after _ _ _ _ hsg).mp hc25)]; exact A_x0)
  refine s_aloadN X hx (hb hby d2_28) rfl rfl (q := 29) rfl ?_
  refine s_iloadN X hx (hb hby d2_29) rfl (q := 30) rfl ?_
  refine s_iaload X hx hZ eT A_x0 (by decide) (i := 1) rfl (x := (xs.getD 1 0)) (own_get _ (by omega)) (hb hby d2_30) (q := 31) rfl ?_
  refine s_istore X hx (hb hby d2_31) (L' := #[.val (.ref x0), .val (.int (1 : Int32)), .val (.int (Int32.ofNat f)), .val (.int (Int32.ofNat t)), .val (.int x4), .val (.int (xs.getD 1 0))]) rfl (q := 33) rfl ?_
  refine s_aloadN X hx (hb hby d2_33) rfl rfl (q := 34) rfl ?_
  refine s_iloadN X hx (hb hby d2_34) rfl (q := 35) rfl ?_
  refine s_aloadN X hx (hb hby d2_35) rfl rfl (q := 36) rfl ?_
  refine s_iloadN X hx (hb hby d2_36) rfl (q := 37) rfl ?_
  refine s_iconst X hx (z := (1 : Int32)) (hb hby d2_37) rfl (q := 38) rfl ?_
  refine s_iadd X hx (hb hby d2_38) (q := 39) rfl ?_
  show Go p e below _ T m 39 #[.val (.ref x0), .val (.int (1 : Int32)), .val (.int (Int32.ofNat f)), .val (.int (Int32.ofNat t)), .val (.int x4), .val (.int (xs.getD 1 0))] [(.int (2 : Int32)), (.ref x0), (.int (1 : Int32)), (.ref x0)]
  refine s_iaload X hx hZ eT A_x0 (by decide) (i := 2) rfl (x := (xs.getD 2 0)) (own_get _ (by omega)) (hb hby d2_39) (q := 40) rfl ?_
  refine s_iastore X hx hZ eT A_x0 N g_x0 (by decide) (i := 1) rfl (by first | omega | (simp only [List.length_set]; omega)) (ys := (xs).set 1 (xs.getD 2 0)) rfl (hb hby d2_40) (q := 41) rfl ?_
  intro T h1 _ X N eT W A_x0'
  have K := K.wr W (Or.inl (List.mem_of_getElem? (i := 0) rfl))
  have sz : n0 ≤ h1.size := by rw [W.size]; exact sz
  have A_x0 := A_x0'
  refine s_aloadN X hx (hb hby d2_41) rfl rfl (q := 42) rfl ?_
  refine s_iloadN X hx (hb hby d2_42) rfl (q := 43) rfl ?_
  refine s_iconst X hx (z := (1 : Int32)) (hb hby d2_43) rfl (q := 44) rfl ?_
  refine s_iadd X hx (hb hby d2_44) (q := 45) rfl ?_
  show Go p e below _ T m 45 #[.val (.ref x0), .val (.int (1 : Int32)), .val (.int (Int32.ofNat f)), .val (.int (Int32.ofNat t)), .val (.int x4), .val (.int (xs.getD 1 0))] [(.int (2 : Int32)), (.ref x0)]
  refine s_iload X hx (hb hby d2_45) rfl (q := 47) rfl ?_
  refine s_iastore X hx hZ eT A_x0 N g_x0 (by decide) (i := 2) rfl (by first | omega | (simp only [List.length_set]; omega)) (ys := (((xs).set 1 (xs.getD 2 0))).set 2 (xs.getD 1 0)) rfl (hb hby d2_47) (q := 48) rfl ?_
  intro T h2 _ X N eT W A_x0'
  have K := K.wr W (Or.inl (List.mem_of_getElem? (i := 0) rfl))
  have sz : n0 ≤ h2.size := by rw [W.size]; exact sz
  have A_x0 := A_x0'
  exact leafV X hx hlk hret (hb hby d2_48) (by decide) (by decide) (by rw [eT]; refine ⟨rfl, N, K, ?_⟩; unfold STP; rw [if_pos ⟨Nat.le_of_not_lt fun q => hc2 ((o_lt (a := 1) (by omega) (by omega)).mpr q), (o_lt (a := 2) (by omega) (by omega)).mp hc9⟩]; unfold CS; rw [if_pos (Classical.byContradiction fun q => hc25 ((own_after _ _ _ _ hsg).mpr q))]; exact A_x0)
set_option maxRecDepth 65536 in
set_option maxHeartbeats 40000000 in
theorem rm2_2 (l : Launch) (Z : State) (a0 : Array Value) (hw : ∀ d ∈ tables_1, d.before a0 Z = true) (ws : List Jvm.Cond) (x0 : Addr) (x4 : Int32) (f t : Nat) (tt : Int32) (xs : List Int32) (h0 : Heap) (n0 : Nat) (sz : n0 ≤ h0.size) (A_x0 : AI Z h0 x0 .int xs) (g_x0 : n0 ≤ x0) (hxl : xs.length = 5) (hf5 : f ≤ 5) (ht5 : t ≤ 5) (hsg : (x4 = 0 ∧ tt = -2147483648) ∨ (x4 = 1 ∧ tt = 0)) :
    Ctr l (⟨"com/example/digitwise/digitwise/internal/IntRadixSortInsertionSortPinLaw", "step", "([IIIIZ)V"⟩ : MethodName) method_3_code 6 none ws ({ frames := 1, cells := 0, slots := 0, locals := 14 } : Room) Z #[(.ref x0), (.int (2 : Int32)), (.int (Int32.ofNat f)), (.int (Int32.ofNat t)), (.int x4)] h0 (fun v h L => v = none ∧ Fr n0 L ∧ Keep h0 h [x0] ∧ AI Z h x0 .int (STP 2 f t tt xs)) 0 0 := by
  refine Ctr.mk pn_2 ?_
  intro p e s m below meth c T hx hby hml hown hnm hlk hret hZ X eT
  have N := Fr.nil n0
  refine enter (ef_2 m x0 (2 : Int32) (Int32.ofNat f) (Int32.ofNat t) x4) ?_
  have K := Keep.refl h0 [x0]
  refine s_iloadN X hx (hb hby d2_0) rfl (q := 1) rfl ?_
  refine s_iloadN X hx (hb hby d2_1) rfl (q := 2) rfl ?_
  refine f_icmp_gt X hx (hb hby d2_2) (q1 := 48) (by decide) (by decide) (q := 5) rfl (fun hc2 => ?_) (fun hc2 => ?_)
  · exact leafV X hx hlk hret (hb hby d2_48) (by decide) (by decide) (by rw [eT]; refine ⟨rfl, N, K, ?_⟩; unfold STP; rw [if_neg (fun q => absurd ((o_lt (a := 2) (by omega) (by omega)).mp hc2) (by omega))]; exact A_x0)
  refine s_iloadN X hx (hb hby d2_5) rfl (q := 6) rfl ?_
  refine s_iconst X hx (z := (1 : Int32)) (hb hby d2_6) rfl (q := 7) rfl ?_
  refine s_iadd X hx (hb hby d2_7) (q := 8) rfl ?_
  show Go p e below _ T m 8 #[.val (.ref x0), .val (.int (2 : Int32)), .val (.int (Int32.ofNat f)), .val (.int (Int32.ofNat t)), .val (.int x4), .unset] [(.int (3 : Int32))]
  refine s_iloadN X hx (hb hby d2_8) rfl (q := 9) rfl ?_
  refine f_icmp_ge X hx (hb hby d2_9) (q1 := 48) (by decide) (by decide) (q := 12) rfl (fun hc9 => ?_) (fun hc9 => ?_)
  · exact leafV X hx hlk hret (hb hby d2_48) (by decide) (by decide) (by rw [eT]; refine ⟨rfl, N, K, ?_⟩; unfold STP; rw [if_neg (fun q => hc9 ((o_lt (a := 3) (by omega) (by omega)).mpr q.2))]; exact A_x0)
  refine s_aloadN X hx (hb hby d2_12) rfl rfl (q := 13) rfl ?_
  refine s_iloadN X hx (hb hby d2_13) rfl (q := 14) rfl ?_
  refine s_iaload X hx hZ eT A_x0 (by decide) (i := 2) rfl (x := (xs.getD 2 0)) (own_get _ (by omega)) (hb hby d2_14) (q := 15) rfl ?_
  refine s_aloadN X hx (hb hby d2_15) rfl rfl (q := 16) rfl ?_
  refine s_iloadN X hx (hb hby d2_16) rfl (q := 17) rfl ?_
  refine s_iconst X hx (z := (1 : Int32)) (hb hby d2_17) rfl (q := 18) rfl ?_
  refine s_iadd X hx (hb hby d2_18) (q := 19) rfl ?_
  show Go p e below _ T m 19 #[.val (.ref x0), .val (.int (2 : Int32)), .val (.int (Int32.ofNat f)), .val (.int (Int32.ofNat t)), .val (.int x4), .unset] [(.int (3 : Int32)), (.ref x0), (.int (xs.getD 2 0))]
  refine s_iaload X hx hZ eT A_x0 (by decide) (i := 3) rfl (x := (xs.getD 3 0)) (own_get _ (by omega)) (hb hby d2_19) (q := 20) rfl ?_
  refine s_iload X hx (hb hby d2_20) rfl (q := 22) rfl ?_
  refine callP X hx hZ hown (W := 0) (argsL := [(.int (xs.getD 2 0)), (.int (xs.getD 3 0)), (.int x4)]) (rest := []) (hw _ (List.mem_of_getElem? (i := 11) rfl)) (hw _ (List.mem_of_getElem? (i := 12) rfl)) (hw _ (List.mem_of_getElem? (i := 8) rfl)) (hw _ (List.mem_of_getElem? (i := 13) rfl)) (by decide) (rm3 l Z a0 hw [] (xs.getD 2 0) (xs.getD 3 0) x4 h0) rfl rfl eT (by decide) (by decide) (by decide) (by decide) (by rw [hml]; rfl) pd0 rfl rfl (Nat.le_of_ble_eq_true rfl) (hb hby d2_22) (q := 25) rfl ?_
  intro T X eT
  refine f_if_eq X hx (hb hby d2_25) (q1 := 48) (by decide) (by decide) (q := 28) rfl (fun hc25 => ?_) (fun hc25 => ?_)
  · exact leafV X hx hlk hret (hb hby d2_48) (by decide) (by decide) (by rw [eT]; refine ⟨rfl, N, K, ?_⟩; unfold STP; rw [if_pos ⟨Nat.le_of_not_lt fun q => hc2 ((o_lt (a := 2) (by omega) (by omega)).mpr q), (o_lt (a := 3) (by omega) (by omega)).mp hc9⟩]; unfold CS; rw [if_neg ((own_after _ _ _ _ hsg).mp hc25)]; exact A_x0)
  refine s_aloadN X hx (hb hby d2_28) rfl rfl (q := 29) rfl ?_
  refine s_iloadN X hx (hb hby d2_29) rfl (q := 30) rfl ?_
  refine s_iaload X hx hZ eT A_x0 (by decide) (i := 2) rfl (x := (xs.getD 2 0)) (own_get _ (by omega)) (hb hby d2_30) (q := 31) rfl ?_
  refine s_istore X hx (hb hby d2_31) (L' := #[.val (.ref x0), .val (.int (2 : Int32)), .val (.int (Int32.ofNat f)), .val (.int (Int32.ofNat t)), .val (.int x4), .val (.int (xs.getD 2 0))]) rfl (q := 33) rfl ?_
  refine s_aloadN X hx (hb hby d2_33) rfl rfl (q := 34) rfl ?_
  refine s_iloadN X hx (hb hby d2_34) rfl (q := 35) rfl ?_
  refine s_aloadN X hx (hb hby d2_35) rfl rfl (q := 36) rfl ?_
  refine s_iloadN X hx (hb hby d2_36) rfl (q := 37) rfl ?_
  refine s_iconst X hx (z := (1 : Int32)) (hb hby d2_37) rfl (q := 38) rfl ?_
  refine s_iadd X hx (hb hby d2_38) (q := 39) rfl ?_
  show Go p e below _ T m 39 #[.val (.ref x0), .val (.int (2 : Int32)), .val (.int (Int32.ofNat f)), .val (.int (Int32.ofNat t)), .val (.int x4), .val (.int (xs.getD 2 0))] [(.int (3 : Int32)), (.ref x0), (.int (2 : Int32)), (.ref x0)]
  refine s_iaload X hx hZ eT A_x0 (by decide) (i := 3) rfl (x := (xs.getD 3 0)) (own_get _ (by omega)) (hb hby d2_39) (q := 40) rfl ?_
  refine s_iastore X hx hZ eT A_x0 N g_x0 (by decide) (i := 2) rfl (by first | omega | (simp only [List.length_set]; omega)) (ys := (xs).set 2 (xs.getD 3 0)) rfl (hb hby d2_40) (q := 41) rfl ?_
  intro T h1 _ X N eT W A_x0'
  have K := K.wr W (Or.inl (List.mem_of_getElem? (i := 0) rfl))
  have sz : n0 ≤ h1.size := by rw [W.size]; exact sz
  have A_x0 := A_x0'
  refine s_aloadN X hx (hb hby d2_41) rfl rfl (q := 42) rfl ?_
  refine s_iloadN X hx (hb hby d2_42) rfl (q := 43) rfl ?_
  refine s_iconst X hx (z := (1 : Int32)) (hb hby d2_43) rfl (q := 44) rfl ?_
  refine s_iadd X hx (hb hby d2_44) (q := 45) rfl ?_
  show Go p e below _ T m 45 #[.val (.ref x0), .val (.int (2 : Int32)), .val (.int (Int32.ofNat f)), .val (.int (Int32.ofNat t)), .val (.int x4), .val (.int (xs.getD 2 0))] [(.int (3 : Int32)), (.ref x0)]
  refine s_iload X hx (hb hby d2_45) rfl (q := 47) rfl ?_
  refine s_iastore X hx hZ eT A_x0 N g_x0 (by decide) (i := 3) rfl (by first | omega | (simp only [List.length_set]; omega)) (ys := (((xs).set 2 (xs.getD 3 0))).set 3 (xs.getD 2 0)) rfl (hb hby d2_47) (q := 48) rfl ?_
  intro T h2 _ X N eT W A_x0'
  have K := K.wr W (Or.inl (List.mem_of_getElem? (i := 0) rfl))
  have sz : n0 ≤ h2.size := by rw [W.size]; exact sz
  have A_x0 := A_x0'
  exact leafV X hx hlk hret (hb hby d2_48) (by decide) (by decide) (by rw [eT]; refine ⟨rfl, N, K, ?_⟩; unfold STP; rw [if_pos ⟨Nat.le_of_not_lt fun q => hc2 ((o_lt (a := 2) (by omega) (by omega)).mpr q), (o_lt (a := 3) (by omega) (by omega)).mp hc9⟩]; unfold CS; rw [if_pos (Classical.byContradiction fun q => hc25 ((own_after _ _ _ _ hsg).mpr q))]; exact A_x0)
set_option maxRecDepth 65536 in
set_option maxHeartbeats 40000000 in
theorem rm2_3 (l : Launch) (Z : State) (a0 : Array Value) (hw : ∀ d ∈ tables_1, d.before a0 Z = true) (ws : List Jvm.Cond) (x0 : Addr) (x4 : Int32) (f t : Nat) (tt : Int32) (xs : List Int32) (h0 : Heap) (n0 : Nat) (sz : n0 ≤ h0.size) (A_x0 : AI Z h0 x0 .int xs) (g_x0 : n0 ≤ x0) (hxl : xs.length = 5) (hf5 : f ≤ 5) (ht5 : t ≤ 5) (hsg : (x4 = 0 ∧ tt = -2147483648) ∨ (x4 = 1 ∧ tt = 0)) :
    Ctr l (⟨"com/example/digitwise/digitwise/internal/IntRadixSortInsertionSortPinLaw", "step", "([IIIIZ)V"⟩ : MethodName) method_3_code 6 none ws ({ frames := 1, cells := 0, slots := 0, locals := 14 } : Room) Z #[(.ref x0), (.int (3 : Int32)), (.int (Int32.ofNat f)), (.int (Int32.ofNat t)), (.int x4)] h0 (fun v h L => v = none ∧ Fr n0 L ∧ Keep h0 h [x0] ∧ AI Z h x0 .int (STP 3 f t tt xs)) 0 0 := by
  refine Ctr.mk pn_2 ?_
  intro p e s m below meth c T hx hby hml hown hnm hlk hret hZ X eT
  have N := Fr.nil n0
  refine enter (ef_2 m x0 (3 : Int32) (Int32.ofNat f) (Int32.ofNat t) x4) ?_
  have K := Keep.refl h0 [x0]
  refine s_iloadN X hx (hb hby d2_0) rfl (q := 1) rfl ?_
  refine s_iloadN X hx (hb hby d2_1) rfl (q := 2) rfl ?_
  refine f_icmp_gt X hx (hb hby d2_2) (q1 := 48) (by decide) (by decide) (q := 5) rfl (fun hc2 => ?_) (fun hc2 => ?_)
  · exact leafV X hx hlk hret (hb hby d2_48) (by decide) (by decide) (by rw [eT]; refine ⟨rfl, N, K, ?_⟩; unfold STP; rw [if_neg (fun q => absurd ((o_lt (a := 3) (by omega) (by omega)).mp hc2) (by omega))]; exact A_x0)
  refine s_iloadN X hx (hb hby d2_5) rfl (q := 6) rfl ?_
  refine s_iconst X hx (z := (1 : Int32)) (hb hby d2_6) rfl (q := 7) rfl ?_
  refine s_iadd X hx (hb hby d2_7) (q := 8) rfl ?_
  show Go p e below _ T m 8 #[.val (.ref x0), .val (.int (3 : Int32)), .val (.int (Int32.ofNat f)), .val (.int (Int32.ofNat t)), .val (.int x4), .unset] [(.int (4 : Int32))]
  refine s_iloadN X hx (hb hby d2_8) rfl (q := 9) rfl ?_
  refine f_icmp_ge X hx (hb hby d2_9) (q1 := 48) (by decide) (by decide) (q := 12) rfl (fun hc9 => ?_) (fun hc9 => ?_)
  · exact leafV X hx hlk hret (hb hby d2_48) (by decide) (by decide) (by rw [eT]; refine ⟨rfl, N, K, ?_⟩; unfold STP; rw [if_neg (fun q => hc9 ((o_lt (a := 4) (by omega) (by omega)).mpr q.2))]; exact A_x0)
  refine s_aloadN X hx (hb hby d2_12) rfl rfl (q := 13) rfl ?_
  refine s_iloadN X hx (hb hby d2_13) rfl (q := 14) rfl ?_
  refine s_iaload X hx hZ eT A_x0 (by decide) (i := 3) rfl (x := (xs.getD 3 0)) (own_get _ (by omega)) (hb hby d2_14) (q := 15) rfl ?_
  refine s_aloadN X hx (hb hby d2_15) rfl rfl (q := 16) rfl ?_
  refine s_iloadN X hx (hb hby d2_16) rfl (q := 17) rfl ?_
  refine s_iconst X hx (z := (1 : Int32)) (hb hby d2_17) rfl (q := 18) rfl ?_
  refine s_iadd X hx (hb hby d2_18) (q := 19) rfl ?_
  show Go p e below _ T m 19 #[.val (.ref x0), .val (.int (3 : Int32)), .val (.int (Int32.ofNat f)), .val (.int (Int32.ofNat t)), .val (.int x4), .unset] [(.int (4 : Int32)), (.ref x0), (.int (xs.getD 3 0))]
  refine s_iaload X hx hZ eT A_x0 (by decide) (i := 4) rfl (x := (xs.getD 4 0)) (own_get _ (by omega)) (hb hby d2_19) (q := 20) rfl ?_
  refine s_iload X hx (hb hby d2_20) rfl (q := 22) rfl ?_
  refine callP X hx hZ hown (W := 0) (argsL := [(.int (xs.getD 3 0)), (.int (xs.getD 4 0)), (.int x4)]) (rest := []) (hw _ (List.mem_of_getElem? (i := 11) rfl)) (hw _ (List.mem_of_getElem? (i := 12) rfl)) (hw _ (List.mem_of_getElem? (i := 8) rfl)) (hw _ (List.mem_of_getElem? (i := 13) rfl)) (by decide) (rm3 l Z a0 hw [] (xs.getD 3 0) (xs.getD 4 0) x4 h0) rfl rfl eT (by decide) (by decide) (by decide) (by decide) (by rw [hml]; rfl) pd0 rfl rfl (Nat.le_of_ble_eq_true rfl) (hb hby d2_22) (q := 25) rfl ?_
  intro T X eT
  refine f_if_eq X hx (hb hby d2_25) (q1 := 48) (by decide) (by decide) (q := 28) rfl (fun hc25 => ?_) (fun hc25 => ?_)
  · exact leafV X hx hlk hret (hb hby d2_48) (by decide) (by decide) (by rw [eT]; refine ⟨rfl, N, K, ?_⟩; unfold STP; rw [if_pos ⟨Nat.le_of_not_lt fun q => hc2 ((o_lt (a := 3) (by omega) (by omega)).mpr q), (o_lt (a := 4) (by omega) (by omega)).mp hc9⟩]; unfold CS; rw [if_neg ((own_after _ _ _ _ hsg).mp hc25)]; exact A_x0)
  refine s_aloadN X hx (hb hby d2_28) rfl rfl (q := 29) rfl ?_
  refine s_iloadN X hx (hb hby d2_29) rfl (q := 30) rfl ?_
  refine s_iaload X hx hZ eT A_x0 (by decide) (i := 3) rfl (x := (xs.getD 3 0)) (own_get _ (by omega)) (hb hby d2_30) (q := 31) rfl ?_
  refine s_istore X hx (hb hby d2_31) (L' := #[.val (.ref x0), .val (.int (3 : Int32)), .val (.int (Int32.ofNat f)), .val (.int (Int32.ofNat t)), .val (.int x4), .val (.int (xs.getD 3 0))]) rfl (q := 33) rfl ?_
  refine s_aloadN X hx (hb hby d2_33) rfl rfl (q := 34) rfl ?_
  refine s_iloadN X hx (hb hby d2_34) rfl (q := 35) rfl ?_
  refine s_aloadN X hx (hb hby d2_35) rfl rfl (q := 36) rfl ?_
  refine s_iloadN X hx (hb hby d2_36) rfl (q := 37) rfl ?_
  refine s_iconst X hx (z := (1 : Int32)) (hb hby d2_37) rfl (q := 38) rfl ?_
  refine s_iadd X hx (hb hby d2_38) (q := 39) rfl ?_
  show Go p e below _ T m 39 #[.val (.ref x0), .val (.int (3 : Int32)), .val (.int (Int32.ofNat f)), .val (.int (Int32.ofNat t)), .val (.int x4), .val (.int (xs.getD 3 0))] [(.int (4 : Int32)), (.ref x0), (.int (3 : Int32)), (.ref x0)]
  refine s_iaload X hx hZ eT A_x0 (by decide) (i := 4) rfl (x := (xs.getD 4 0)) (own_get _ (by omega)) (hb hby d2_39) (q := 40) rfl ?_
  refine s_iastore X hx hZ eT A_x0 N g_x0 (by decide) (i := 3) rfl (by first | omega | (simp only [List.length_set]; omega)) (ys := (xs).set 3 (xs.getD 4 0)) rfl (hb hby d2_40) (q := 41) rfl ?_
  intro T h1 _ X N eT W A_x0'
  have K := K.wr W (Or.inl (List.mem_of_getElem? (i := 0) rfl))
  have sz : n0 ≤ h1.size := by rw [W.size]; exact sz
  have A_x0 := A_x0'
  refine s_aloadN X hx (hb hby d2_41) rfl rfl (q := 42) rfl ?_
  refine s_iloadN X hx (hb hby d2_42) rfl (q := 43) rfl ?_
  refine s_iconst X hx (z := (1 : Int32)) (hb hby d2_43) rfl (q := 44) rfl ?_
  refine s_iadd X hx (hb hby d2_44) (q := 45) rfl ?_
  show Go p e below _ T m 45 #[.val (.ref x0), .val (.int (3 : Int32)), .val (.int (Int32.ofNat f)), .val (.int (Int32.ofNat t)), .val (.int x4), .val (.int (xs.getD 3 0))] [(.int (4 : Int32)), (.ref x0)]
  refine s_iload X hx (hb hby d2_45) rfl (q := 47) rfl ?_
  refine s_iastore X hx hZ eT A_x0 N g_x0 (by decide) (i := 4) rfl (by first | omega | (simp only [List.length_set]; omega)) (ys := (((xs).set 3 (xs.getD 4 0))).set 4 (xs.getD 3 0)) rfl (hb hby d2_47) (q := 48) rfl ?_
  intro T h2 _ X N eT W A_x0'
  have K := K.wr W (Or.inl (List.mem_of_getElem? (i := 0) rfl))
  have sz : n0 ≤ h2.size := by rw [W.size]; exact sz
  have A_x0 := A_x0'
  exact leafV X hx hlk hret (hb hby d2_48) (by decide) (by decide) (by rw [eT]; refine ⟨rfl, N, K, ?_⟩; unfold STP; rw [if_pos ⟨Nat.le_of_not_lt fun q => hc2 ((o_lt (a := 3) (by omega) (by omega)).mpr q), (o_lt (a := 4) (by omega) (by omega)).mp hc9⟩]; unfold CS; rw [if_pos (Classical.byContradiction fun q => hc25 ((own_after _ _ _ _ hsg).mpr q))]; exact A_x0)
theorem own_f (y fr : Int32) (h : ((y &&& (7 : Int32)) % (6 : Int32)) = fr) : ∃ n : Nat, n ≤ 5 ∧ fr = Int32.ofNat n := by
  have a := c_and y 7 (by decide)
  have h2 := (c_irem (y &&& 7) 6 6 (by decide)).1 a.1
  rw [h] at h2
  refine ⟨fr.toInt.toNat, by omega, ?_⟩
  apply Int32.toInt_inj.mp
  rw [Int32.toInt_ofNat_small (by omega)]; omega
theorem own_s6 (f : Nat) (h : f ≤ 5) : ((6 : Int32) - Int32.ofNat f).toInt = 6 - f := by
  have q := c_isub 6 (Int32.ofNat f); have r := rng32 ((6 : Int32) - Int32.ofNat f)
  rw [Int32.toInt_ofNat_small (by omega)] at q
  have e : (6 : Int32).toInt = 6 := by decide
  omega
theorem own_nz (f : Nat) (h : f ≤ 5) : ((6 : Int32) - Int32.ofNat f) ≠ 0 := fun q => by
  have a := own_s6 f h; rw [q] at a
  have e : (0 : Int32).toInt = 0 := by decide
  omega
theorem own_t (y to : Int32) (f : Nat) (hf : f ≤ 5) (h : (Int32.ofNat f + ((y &&& (7 : Int32)) % ((6 : Int32) - Int32.ofNat f))) = to) : ∃ t : Nat, f ≤ t ∧ t ≤ 5 ∧ to = Int32.ofNat t := by
  have a := c_and y 7 (by decide)
  have b := own_s6 f hf
  have e := (c_iremV (y &&& 7) ((6 : Int32) - Int32.ofNat f)).1 a.1 (by omega)
  have q := c_iadd (Int32.ofNat f) ((y &&& 7) % ((6 : Int32) - Int32.ofNat f)); have r := rng32 (Int32.ofNat f + ((y &&& 7) % ((6 : Int32) - Int32.ofNat f)))
  rw [Int32.toInt_ofNat_small (by omega)] at q
  rw [h] at q r
  refine ⟨to.toInt.toNat, by omega, by omega, ?_⟩
  apply Int32.toInt_inj.mp
  rw [Int32.toInt_ofNat_small (by omega)]; omega
theorem pn_0 : plainFor x = true := plainFor_of_name (by first | (simp [plainName, overriddenIn]; done) | decide +kernel)
theorem ef_0 (m : MethodId) (x0 : Int32) (x1 : Int32) (x2 : Int32) (x3 : Int32) (x4 : Int32) (x5 : Int32) : entryFrame m #[(.int x0), (.int x1), (.int x2), (.int x3), (.int x4), (.int x5)] maxLocals = mkF m 0 #[.val (.int x0), .val (.int x1), .val (.int x2), .val (.int x3), .val (.int x4), .val (.int x5), .unset, .unset, .unset, .unset, .unset, .unset] [] := by first | (simp [entryFrame, mkF, argsToLocals, Value.category, maxLocals]; done) | rfl
theorem pd1 : parseMethodDescriptor "([IIII)V" = some ⟨[(.array .int), .int, .int, .int], none⟩ := by decide +kernel
theorem pd2 : parseMethodDescriptor "([IIIIZ)V" = some ⟨[(.array .int), .int, .int, .int, .boolean], none⟩ := by decide +kernel
def Q0 (h0 : Heap) (n0 : Nat) (v : Option Value) (h : Heap) (L : List Loc) : Prop := v = some (.int 1) ∧ Fr n0 L
set_option maxRecDepth 65536 in
set_option maxHeartbeats 40000000 in
theorem rm0 (l : Launch) (Z : State) (a0 : Array Value) (hw : ∀ d ∈ tables_1, d.before a0 Z = true) (ws : List Jvm.Cond) (x0 : Int32) (x1 : Int32) (x2 : Int32) (x3 : Int32) (x4 : Int32) (x5 : Int32) (h0 : Heap) (n0 : Nat) (sz : n0 ≤ h0.size) :
    Ctr l x code maxLocals ret ws room_1 Z #[(.int x0), (.int x1), (.int x2), (.int x3), (.int x4), (.int x5)] h0 (Q0 h0 n0) 16 128 := by
  refine Ctr.mk pn_0 ?_
  intro p e s m below meth c T hx hby hml hown hnm hlk hret hZ X eT
  have N := Fr.nil n0
  refine enter (ef_0 m x0 x1 x2 x3 x4 x5) ?_
  refine s_iload X hx (hb hby at_0) rfl (q := 2) rfl ?_
  refine s_iconst X hx (z := (1 : Int32)) (hb hby at_2) rfl (q := 3) rfl ?_
  refine s_iand X hx (hb hby at_3) (q := 4) rfl ?_
  refine f_if_eq X hx (hb hby at_4) (q1 := 11) (by decide) (by decide) (q := 7) rfl (fun hc4 => ?_) (fun hc4 => ?_)
  · refine s_iconst X hx (z := (0 : Int32)) (hb hby at_11) rfl (q := 12) rfl ?_
    refine s_istore X hx (hb hby at_12) (L' := #[.val (.int x0), .val (.int x1), .val (.int x2), .val (.int x3), .val (.int x4), .val (.int x5), .val (.int (0 : Int32)), .unset, .unset, .unset, .unset, .unset]) rfl (q := 14) rfl ?_
    refine s_iload X hx (hb hby at_14) rfl (q := 16) rfl ?_
    refine f_if_eq X hx (hb hby at_16) (q1 := 24) (by decide) (by decide) (q := 19) rfl (fun _ => ?_) (fun hq => absurd (by decide : (0 : Int32) = 0) hq)
    refine s_iconst X hx (z := (0 : Int32)) (hb hby at_24) rfl (q := 25) rfl ?_
    refine s_istore X hx (hb hby at_25) (L' := #[.val (.int x0), .val (.int x1), .val (.int x2), .val (.int x3), .val (.int x4), .val (.int x5), .val (.int (0 : Int32)), .val (.int (0 : Int32)), .unset, .unset, .unset, .unset]) rfl (q := 27) rfl ?_
    refine s_iload X hx (hb hby at_27) rfl (q := 29) rfl ?_
    refine s_iconst X hx (z := (1 : Int32)) (hb hby at_29) rfl (q := 30) rfl ?_
    refine s_iushr X hx (hb hby at_30) (q := 31) rfl ?_
    refine s_bipush X hx (z := (7 : Int32)) (hb hby at_31) rfl (q := 33) rfl ?_
    refine s_iand X hx (hb hby at_33) (q := 34) rfl ?_
    refine s_bipush X hx (z := (6 : Int32)) (hb hby at_34) rfl (q := 36) rfl ?_
    refine s_irem X hx (hb hby at_36) (by decide) (q := 37) rfl ?_
    generalize hfr : ((((x5.toUInt32 >>> ((1 : Int32) &&& 31).toUInt32).toInt32) &&& (7 : Int32)) % (6 : Int32)) = fr
    refine s_istore X hx (hb hby at_37) (L' := #[.val (.int x0), .val (.int x1), .val (.int x2), .val (.int x3), .val (.int x4), .val (.int x5), .val (.int (0 : Int32)), .val (.int (0 : Int32)), .val (.int fr), .unset, .unset, .unset]) rfl (q := 39) rfl ?_
    obtain ⟨f, hf5, rfl⟩ := own_f _ fr hfr
    refine s_iload X hx (hb hby at_39) rfl (q := 41) rfl ?_
    refine s_iload X hx (hb hby at_41) rfl (q := 43) rfl ?_
    refine s_iconst X hx (z := (4 : Int32)) (hb hby at_43) rfl (q := 44) rfl ?_
    refine s_iushr X hx (hb hby at_44) (q := 45) rfl ?_
    refine s_bipush X hx (z := (7 : Int32)) (hb hby at_45) rfl (q := 47) rfl ?_
    refine s_iand X hx (hb hby at_47) (q := 48) rfl ?_
    refine s_bipush X hx (z := (6 : Int32)) (hb hby at_48) rfl (q := 50) rfl ?_
    refine s_iload X hx (hb hby at_50) rfl (q := 52) rfl ?_
    refine s_isub X hx (hb hby at_52) (q := 53) rfl ?_
    refine s_irem X hx (hb hby at_53) (own_nz f hf5) (q := 54) rfl ?_
    refine s_iadd X hx (hb hby at_54) (q := 55) rfl ?_
    generalize hto : ((Int32.ofNat f) + ((((x5.toUInt32 >>> ((4 : Int32) &&& 31).toUInt32).toInt32) &&& (7 : Int32)) % ((6 : Int32) - (Int32.ofNat f)))) = to
    refine s_istore X hx (hb hby at_55) (L' := #[.val (.int x0), .val (.int x1), .val (.int x2), .val (.int x3), .val (.int x4), .val (.int x5), .val (.int (0 : Int32)), .val (.int (0 : Int32)), .val (.int (Int32.ofNat f)), .val (.int to), .unset, .unset]) rfl (q := 57) rfl ?_
    obtain ⟨t, hft, ht5, rfl⟩ := own_t _ to f hf5 hto
    refine s_iconst X hx (z := (5 : Int32)) (hb hby at_57) rfl (q := 58) rfl ?_
    refine s_newI X hx hZ (hw _ (List.mem_of_getElem? (i := 1) rfl)) eT (by decide) (cap := 5) (by decide) (by decide) (by decide) (by decide) (ys := [0, 0, 0, 0, 0]) rfl (hb hby at_58) (q := 60) rfl ?_
    intro T h2 a1 X eT E ea A_a1
    have g_a1 : n0 ≤ a1 := by rw [ea]; exact sz
    have sz : n0 ≤ h2.size := Nat.le_trans sz E.1
    refine s_dup X hx (hb hby at_60) rfl (q := 61) rfl ?_
    refine s_iconst X hx (z := (0 : Int32)) (hb hby at_61) rfl (q := 62) rfl ?_
    refine s_iloadN X hx (hb hby at_62) rfl (q := 63) rfl ?_
    refine s_iastore X hx hZ eT A_a1 N g_a1 (by decide) (i := 0) rfl (Nat.le_of_ble_eq_true rfl) (ys := [x0, 0, 0, 0, 0]) rfl (hb hby at_63) (q := 64) rfl ?_
    intro T h3 _ X N eT W A_a1'
    have sz : n0 ≤ h3.size := by rw [W.size]; exact sz
    have A_a1 := A_a1'
    refine s_dup X hx (hb hby at_64) rfl (q := 65) rfl ?_
    refine s_iconst X hx (z := (1 : Int32)) (hb hby at_65) rfl (q := 66) rfl ?_
    refine s_iloadN X hx (hb hby at_66) rfl (q := 67) rfl ?_
    refine s_iastore X hx hZ eT A_a1 N g_a1 (by decide) (i := 1) rfl (Nat.le_of_ble_eq_true rfl) (ys := [x0, x1, 0, 0, 0]) rfl (hb hby at_67) (q := 68) rfl ?_
    intro T h4 _ X N eT W A_a1'
    have sz : n0 ≤ h4.size := by rw [W.size]; exact sz
    have A_a1 := A_a1'
    refine s_dup X hx (hb hby at_68) rfl (q := 69) rfl ?_
    refine s_iconst X hx (z := (2 : Int32)) (hb hby at_69) rfl (q := 70) rfl ?_
    refine s_iloadN X hx (hb hby at_70) rfl (q := 71) rfl ?_
    refine s_iastore X hx hZ eT A_a1 N g_a1 (by decide) (i := 2) rfl (Nat.le_of_ble_eq_true rfl) (ys := [x0, x1, x2, 0, 0]) rfl (hb hby at_71) (q := 72) rfl ?_
    intro T h5 _ X N eT W A_a1'
    have sz : n0 ≤ h5.size := by rw [W.size]; exact sz
    have A_a1 := A_a1'
    refine s_dup X hx (hb hby at_72) rfl (q := 73) rfl ?_
    refine s_iconst X hx (z := (3 : Int32)) (hb hby at_73) rfl (q := 74) rfl ?_
    refine s_iloadN X hx (hb hby at_74) rfl (q := 75) rfl ?_
    refine s_iastore X hx hZ eT A_a1 N g_a1 (by decide) (i := 3) rfl (Nat.le_of_ble_eq_true rfl) (ys := [x0, x1, x2, x3, 0]) rfl (hb hby at_75) (q := 76) rfl ?_
    intro T h6 _ X N eT W A_a1'
    have sz : n0 ≤ h6.size := by rw [W.size]; exact sz
    have A_a1 := A_a1'
    refine s_dup X hx (hb hby at_76) rfl (q := 77) rfl ?_
    refine s_iconst X hx (z := (4 : Int32)) (hb hby at_77) rfl (q := 78) rfl ?_
    refine s_iload X hx (hb hby at_78) rfl (q := 80) rfl ?_
    refine s_iastore X hx hZ eT A_a1 N g_a1 (by decide) (i := 4) rfl (Nat.le_of_ble_eq_true rfl) (ys := [x0, x1, x2, x3, x4]) rfl (hb hby at_80) (q := 81) rfl ?_
    intro T h7 _ X N eT W A_a1'
    have sz : n0 ≤ h7.size := by rw [W.size]; exact sz
    have A_a1 := A_a1'
    refine s_astore X hx (hb hby at_81) rfl (L' := #[.val (.int x0), .val (.int x1), .val (.int x2), .val (.int x3), .val (.int x4), .val (.int x5), .val (.int (0 : Int32)), .val (.int (0 : Int32)), .val (.int (Int32.ofNat f)), .val (.int (Int32.ofNat t)), .val (.ref a1), .unset]) rfl (q := 83) rfl ?_
    refine s_iconst X hx (z := (5 : Int32)) (hb hby at_83) rfl (q := 84) rfl ?_
    refine s_newI X hx hZ (hw _ (List.mem_of_getElem? (i := 1) rfl)) eT (by decide) (cap := 5) (by decide) (by decide) (by decide) (by decide) (ys := [0, 0, 0, 0, 0]) rfl (hb hby at_84) (q := 86) rfl ?_
    intro T h9 a8 X eT E ea A_a8
    have ne_a1_a8 : a1 ≠ a8 := by rw [ea]; exact Nat.ne_of_lt A_a1.lt
    have A_a1 := A_a1.ext E
    have g_a8 : n0 ≤ a8 := by rw [ea]; exact sz
    have sz : n0 ≤ h9.size := Nat.le_trans sz E.1
    refine s_dup X hx (hb hby at_86) rfl (q := 87) rfl ?_
    refine s_iconst X hx (z := (0 : Int32)) (hb hby at_87) rfl (q := 88) rfl ?_
    refine s_iloadN X hx (hb hby at_88) rfl (q := 89) rfl ?_
    refine s_iastore X hx hZ eT A_a8 N g_a8 (by decide) (i := 0) rfl (Nat.le_of_ble_eq_true rfl) (ys := [x0, 0, 0, 0, 0]) rfl (hb hby at_89) (q := 90) rfl ?_
    intro T h10 _ X N eT W A_a8'
    have A_a1 := A_a1.other W ne_a1_a8
    have sz : n0 ≤ h10.size := by rw [W.size]; exact sz
    have A_a8 := A_a8'
    refine s_dup X hx (hb hby at_90) rfl (q := 91) rfl ?_
    refine s_iconst X hx (z := (1 : Int32)) (hb hby at_91) rfl (q := 92) rfl ?_
    refine s_iloadN X hx (hb hby at_92) rfl (q := 93) rfl ?_
    refine s_iastore X hx hZ eT A_a8 N g_a8 (by decide) (i := 1) rfl (Nat.le_of_ble_eq_true rfl) (ys := [x0, x1, 0, 0, 0]) rfl (hb hby at_93) (q := 94) rfl ?_
    intro T h11 _ X N eT W A_a8'
    have A_a1 := A_a1.other W ne_a1_a8
    have sz : n0 ≤ h11.size := by rw [W.size]; exact sz
    have A_a8 := A_a8'
    refine s_dup X hx (hb hby at_94) rfl (q := 95) rfl ?_
    refine s_iconst X hx (z := (2 : Int32)) (hb hby at_95) rfl (q := 96) rfl ?_
    refine s_iloadN X hx (hb hby at_96) rfl (q := 97) rfl ?_
    refine s_iastore X hx hZ eT A_a8 N g_a8 (by decide) (i := 2) rfl (Nat.le_of_ble_eq_true rfl) (ys := [x0, x1, x2, 0, 0]) rfl (hb hby at_97) (q := 98) rfl ?_
    intro T h12 _ X N eT W A_a8'
    have A_a1 := A_a1.other W ne_a1_a8
    have sz : n0 ≤ h12.size := by rw [W.size]; exact sz
    have A_a8 := A_a8'
    refine s_dup X hx (hb hby at_98) rfl (q := 99) rfl ?_
    refine s_iconst X hx (z := (3 : Int32)) (hb hby at_99) rfl (q := 100) rfl ?_
    refine s_iloadN X hx (hb hby at_100) rfl (q := 101) rfl ?_
    refine s_iastore X hx hZ eT A_a8 N g_a8 (by decide) (i := 3) rfl (Nat.le_of_ble_eq_true rfl) (ys := [x0, x1, x2, x3, 0]) rfl (hb hby at_101) (q := 102) rfl ?_
    intro T h13 _ X N eT W A_a8'
    have A_a1 := A_a1.other W ne_a1_a8
    have sz : n0 ≤ h13.size := by rw [W.size]; exact sz
    have A_a8 := A_a8'
    refine s_dup X hx (hb hby at_102) rfl (q := 103) rfl ?_
    refine s_iconst X hx (z := (4 : Int32)) (hb hby at_103) rfl (q := 104) rfl ?_
    refine s_iload X hx (hb hby at_104) rfl (q := 106) rfl ?_
    refine s_iastore X hx hZ eT A_a8 N g_a8 (by decide) (i := 4) rfl (Nat.le_of_ble_eq_true rfl) (ys := [x0, x1, x2, x3, x4]) rfl (hb hby at_106) (q := 107) rfl ?_
    intro T h14 _ X N eT W A_a8'
    have A_a1 := A_a1.other W ne_a1_a8
    have sz : n0 ≤ h14.size := by rw [W.size]; exact sz
    have A_a8 := A_a8'
    refine s_astore X hx (hb hby at_107) rfl (L' := #[.val (.int x0), .val (.int x1), .val (.int x2), .val (.int x3), .val (.int x4), .val (.int x5), .val (.int (0 : Int32)), .val (.int (0 : Int32)), .val (.int (Int32.ofNat f)), .val (.int (Int32.ofNat t)), .val (.ref a1), .val (.ref a8)]) rfl (q := 109) rfl ?_
    refine s_aload X hx (hb hby at_109) rfl rfl (q := 111) rfl ?_
    refine s_iload X hx (hb hby at_111) rfl (q := 113) rfl ?_
    refine s_iload X hx (hb hby at_113) rfl (q := 115) rfl ?_
    refine s_iload X hx (hb hby at_115) rfl (q := 117) rfl ?_
    refine callC X hx hZ hown (W := 0) (argsL := [(.ref a1), (.int (Int32.ofNat f)), (.int (Int32.ofNat t)), (.int (0 : Int32))]) (rest := []) (hw _ (List.mem_of_getElem? (i := 2) rfl)) (hw _ (List.mem_of_getElem? (i := 3) rfl)) (hw _ (List.mem_of_getElem? (i := 4) rfl)) (hw _ (List.mem_of_getElem? (i := 5) rfl)) (by decide) (rmAny l Z a0 hw [] a1 f t (0 : Int32) x0 x1 x2 x3 x4 h14 n0 sz A_a1 g_a1 hft ht5) eT (by decide) (by decide) (by decide) (by decide) (by rw [hml]; rfl) pd1 rfl rfl (Nat.le_of_ble_eq_true rfl) (hb hby at_117) (q := 120) rfl ?_
    intro v T Lc hQ X
    obtain ⟨h15, eT⟩ : ∃ z, T.heap = z := ⟨_, rfl⟩
    try rw [eT] at hQ
    obtain ⟨rfl, N', K', A_a1'⟩ := hQ
    have N := Fr.app N N'
    have A_a8 := A_a8.keep K' (ninS (Ne.symm ne_a1_a8) nin0)
    have sz : n0 ≤ h15.size := Nat.le_trans sz K'.1
    have A_a1 := A_a1'
    refine s_aload X hx (hb hby at_120) rfl rfl (q := 122) rfl ?_
    refine s_iconst X hx (z := (0 : Int32)) (hb hby at_122) rfl (q := 123) rfl ?_
    refine s_iload X hx (hb hby at_123) rfl (q := 125) rfl ?_
    refine s_iload X hx (hb hby at_125) rfl (q := 127) rfl ?_
    refine s_iload X hx (hb hby at_127) rfl (q := 129) rfl ?_
    refine callC X hx hZ hown (W := 0) (argsL := [(.ref a8), (.int (0 : Int32)), (.int (Int32.ofNat f)), (.int (Int32.ofNat t)), (.int (0 : Int32))]) (rest := []) (hw _ (List.mem_of_getElem? (i := 6) rfl)) (hw _ (List.mem_of_getElem? (i := 7) rfl)) (hw _ (List.mem_of_getElem? (i := 8) rfl)) (hw _ (List.mem_of_getElem? (i := 9) rfl)) (by decide) (rm2_0 l Z a0 hw [] a8 (0 : Int32) f t ((0 : Int32) ^^^ (-2147483648 : Int32)) [x0, x1, x2, x3, x4] h15 n0 sz A_a8 g_a8 (by first | rfl | (simp only [STP_len]; rfl)) (by omega) (by omega) (by decide)) eT (by decide) (by decide) (by decide) (by decide) (by rw [hml]; rfl) pd2 rfl rfl (Nat.le_of_ble_eq_true rfl) (hb hby at_129) (q := 132) rfl ?_
    intro v T Lc hQ X
    obtain ⟨h16, eT⟩ : ∃ z, T.heap = z := ⟨_, rfl⟩
    try rw [eT] at hQ
    obtain ⟨rfl, N', K', A_a8'⟩ := hQ
    have N := Fr.app N N'
    have A_a1 := A_a1.keep K' (ninS ne_a1_a8 nin0)
    have sz : n0 ≤ h16.size := Nat.le_trans sz K'.1
    have A_a8 := A_a8'
    refine s_aload X hx (hb hby at_132) rfl rfl (q := 134) rfl ?_
    refine s_iconst X hx (z := (1 : Int32)) (hb hby at_134) rfl (q := 135) rfl ?_
    refine s_iload X hx (hb hby at_135) rfl (q := 137) rfl ?_
    refine s_iload X hx (hb hby at_137) rfl (q := 139) rfl ?_
    refine s_iload X hx (hb hby at_139) rfl (q := 141) rfl ?_
    refine callC X hx hZ hown (W := 0) (argsL := [(.ref a8), (.int (1 : Int32)), (.int (Int32.ofNat f)), (.int (Int32.ofNat t)), (.int (0 : Int32))]) (rest := []) (hw _ (List.mem_of_getElem? (i := 6) rfl)) (hw _ (List.mem_of_getElem? (i := 7) rfl)) (hw _ (List.mem_of_getElem? (i := 8) rfl)) (hw _ (List.mem_of_getElem? (i := 9) rfl)) (by decide) (rm2_1 l Z a0 hw [] a8 (0 : Int32) f t ((0 : Int32) ^^^ (-2147483648 : Int32)) (STP 0 f t ((0 : Int32) ^^^ (-2147483648 : Int32)) [x0, x1, x2, x3, x4]) h16 n0 sz A_a8 g_a8 (by first | rfl | (simp only [STP_len]; rfl)) (by omega) (by omega) (by decide)) eT (by decide) (by decide) (by decide) (by decide) (by rw [hml]; rfl) pd2 rfl rfl (Nat.le_of_ble_eq_true rfl) (hb hby at_141) (q := 144) rfl ?_
    intro v T Lc hQ X
    obtain ⟨h17, eT⟩ : ∃ z, T.heap = z := ⟨_, rfl⟩
    try rw [eT] at hQ
    obtain ⟨rfl, N', K', A_a8'⟩ := hQ
    have N := Fr.app N N'
    have A_a1 := A_a1.keep K' (ninS ne_a1_a8 nin0)
    have sz : n0 ≤ h17.size := Nat.le_trans sz K'.1
    have A_a8 := A_a8'
    refine s_aload X hx (hb hby at_144) rfl rfl (q := 146) rfl ?_
    refine s_iconst X hx (z := (2 : Int32)) (hb hby at_146) rfl (q := 147) rfl ?_
    refine s_iload X hx (hb hby at_147) rfl (q := 149) rfl ?_
    refine s_iload X hx (hb hby at_149) rfl (q := 151) rfl ?_
    refine s_iload X hx (hb hby at_151) rfl (q := 153) rfl ?_
    refine callC X hx hZ hown (W := 0) (argsL := [(.ref a8), (.int (2 : Int32)), (.int (Int32.ofNat f)), (.int (Int32.ofNat t)), (.int (0 : Int32))]) (rest := []) (hw _ (List.mem_of_getElem? (i := 6) rfl)) (hw _ (List.mem_of_getElem? (i := 7) rfl)) (hw _ (List.mem_of_getElem? (i := 8) rfl)) (hw _ (List.mem_of_getElem? (i := 9) rfl)) (by decide) (rm2_2 l Z a0 hw [] a8 (0 : Int32) f t ((0 : Int32) ^^^ (-2147483648 : Int32)) (STP 1 f t ((0 : Int32) ^^^ (-2147483648 : Int32)) (STP 0 f t ((0 : Int32) ^^^ (-2147483648 : Int32)) [x0, x1, x2, x3, x4])) h17 n0 sz A_a8 g_a8 (by first | rfl | (simp only [STP_len]; rfl)) (by omega) (by omega) (by decide)) eT (by decide) (by decide) (by decide) (by decide) (by rw [hml]; rfl) pd2 rfl rfl (Nat.le_of_ble_eq_true rfl) (hb hby at_153) (q := 156) rfl ?_
    intro v T Lc hQ X
    obtain ⟨h18, eT⟩ : ∃ z, T.heap = z := ⟨_, rfl⟩
    try rw [eT] at hQ
    obtain ⟨rfl, N', K', A_a8'⟩ := hQ
    have N := Fr.app N N'
    have A_a1 := A_a1.keep K' (ninS ne_a1_a8 nin0)
    have sz : n0 ≤ h18.size := Nat.le_trans sz K'.1
    have A_a8 := A_a8'
    refine s_aload X hx (hb hby at_156) rfl rfl (q := 158) rfl ?_
    refine s_iconst X hx (z := (3 : Int32)) (hb hby at_158) rfl (q := 159) rfl ?_
    refine s_iload X hx (hb hby at_159) rfl (q := 161) rfl ?_
    refine s_iload X hx (hb hby at_161) rfl (q := 163) rfl ?_
    refine s_iload X hx (hb hby at_163) rfl (q := 165) rfl ?_
    refine callC X hx hZ hown (W := 0) (argsL := [(.ref a8), (.int (3 : Int32)), (.int (Int32.ofNat f)), (.int (Int32.ofNat t)), (.int (0 : Int32))]) (rest := []) (hw _ (List.mem_of_getElem? (i := 6) rfl)) (hw _ (List.mem_of_getElem? (i := 7) rfl)) (hw _ (List.mem_of_getElem? (i := 8) rfl)) (hw _ (List.mem_of_getElem? (i := 9) rfl)) (by decide) (rm2_3 l Z a0 hw [] a8 (0 : Int32) f t ((0 : Int32) ^^^ (-2147483648 : Int32)) (STP 2 f t ((0 : Int32) ^^^ (-2147483648 : Int32)) (STP 1 f t ((0 : Int32) ^^^ (-2147483648 : Int32)) (STP 0 f t ((0 : Int32) ^^^ (-2147483648 : Int32)) [x0, x1, x2, x3, x4]))) h18 n0 sz A_a8 g_a8 (by first | rfl | (simp only [STP_len]; rfl)) (by omega) (by omega) (by decide)) eT (by decide) (by decide) (by decide) (by decide) (by rw [hml]; rfl) pd2 rfl rfl (Nat.le_of_ble_eq_true rfl) (hb hby at_165) (q := 168) rfl ?_
    intro v T Lc hQ X
    obtain ⟨h19, eT⟩ : ∃ z, T.heap = z := ⟨_, rfl⟩
    try rw [eT] at hQ
    obtain ⟨rfl, N', K', A_a8'⟩ := hQ
    have N := Fr.app N N'
    have A_a1 := A_a1.keep K' (ninS ne_a1_a8 nin0)
    have sz : n0 ≤ h19.size := Nat.le_trans sz K'.1
    have A_a8 := A_a8'
    refine s_aload X hx (hb hby at_168) rfl rfl (q := 170) rfl ?_
    refine s_iconst X hx (z := (0 : Int32)) (hb hby at_170) rfl (q := 171) rfl ?_
    refine s_iload X hx (hb hby at_171) rfl (q := 173) rfl ?_
    refine s_iload X hx (hb hby at_173) rfl (q := 175) rfl ?_
    refine s_iload X hx (hb hby at_175) rfl (q := 177) rfl ?_
    refine callC X hx hZ hown (W := 0) (argsL := [(.ref a8), (.int (0 : Int32)), (.int (Int32.ofNat f)), (.int (Int32.ofNat t)), (.int (0 : Int32))]) (rest := []) (hw _ (List.mem_of_getElem? (i := 6) rfl)) (hw _ (List.mem_of_getElem? (i := 7) rfl)) (hw _ (List.mem_of_getElem? (i := 8) rfl)) (hw _ (List.mem_of_getElem? (i := 9) rfl)) (by decide) (rm2_0 l Z a0 hw [] a8 (0 : Int32) f t ((0 : Int32) ^^^ (-2147483648 : Int32)) (STP 3 f t ((0 : Int32) ^^^ (-2147483648 : Int32)) (STP 2 f t ((0 : Int32) ^^^ (-2147483648 : Int32)) (STP 1 f t ((0 : Int32) ^^^ (-2147483648 : Int32)) (STP 0 f t ((0 : Int32) ^^^ (-2147483648 : Int32)) [x0, x1, x2, x3, x4])))) h19 n0 sz A_a8 g_a8 (by first | rfl | (simp only [STP_len]; rfl)) (by omega) (by omega) (by decide)) eT (by decide) (by decide) (by decide) (by decide) (by rw [hml]; rfl) pd2 rfl rfl (Nat.le_of_ble_eq_true rfl) (hb hby at_177) (q := 180) rfl ?_
    intro v T Lc hQ X
    obtain ⟨h20, eT⟩ : ∃ z, T.heap = z := ⟨_, rfl⟩
    try rw [eT] at hQ
    obtain ⟨rfl, N', K', A_a8'⟩ := hQ
    have N := Fr.app N N'
    have A_a1 := A_a1.keep K' (ninS ne_a1_a8 nin0)
    have sz : n0 ≤ h20.size := Nat.le_trans sz K'.1
    have A_a8 := A_a8'
    refine s_aload X hx (hb hby at_180) rfl rfl (q := 182) rfl ?_
    refine s_iconst X hx (z := (1 : Int32)) (hb hby at_182) rfl (q := 183) rfl ?_
    refine s_iload X hx (hb hby at_183) rfl (q := 185) rfl ?_
    refine s_iload X hx (hb hby at_185) rfl (q := 187) rfl ?_
    refine s_iload X hx (hb hby at_187) rfl (q := 189) rfl ?_
    refine callC X hx hZ hown (W := 0) (argsL := [(.ref a8), (.int (1 : Int32)), (.int (Int32.ofNat f)), (.int (Int32.ofNat t)), (.int (0 : Int32))]) (rest := []) (hw _ (List.mem_of_getElem? (i := 6) rfl)) (hw _ (List.mem_of_getElem? (i := 7) rfl)) (hw _ (List.mem_of_getElem? (i := 8) rfl)) (hw _ (List.mem_of_getElem? (i := 9) rfl)) (by decide) (rm2_1 l Z a0 hw [] a8 (0 : Int32) f t ((0 : Int32) ^^^ (-2147483648 : Int32)) (STP 0 f t ((0 : Int32) ^^^ (-2147483648 : Int32)) (STP 3 f t ((0 : Int32) ^^^ (-2147483648 : Int32)) (STP 2 f t ((0 : Int32) ^^^ (-2147483648 : Int32)) (STP 1 f t ((0 : Int32) ^^^ (-2147483648 : Int32)) (STP 0 f t ((0 : Int32) ^^^ (-2147483648 : Int32)) [x0, x1, x2, x3, x4]))))) h20 n0 sz A_a8 g_a8 (by first | rfl | (simp only [STP_len]; rfl)) (by omega) (by omega) (by decide)) eT (by decide) (by decide) (by decide) (by decide) (by rw [hml]; rfl) pd2 rfl rfl (Nat.le_of_ble_eq_true rfl) (hb hby at_189) (q := 192) rfl ?_
    intro v T Lc hQ X
    obtain ⟨h21, eT⟩ : ∃ z, T.heap = z := ⟨_, rfl⟩
    try rw [eT] at hQ
    obtain ⟨rfl, N', K', A_a8'⟩ := hQ
    have N := Fr.app N N'
    have A_a1 := A_a1.keep K' (ninS ne_a1_a8 nin0)
    have sz : n0 ≤ h21.size := Nat.le_trans sz K'.1
    have A_a8 := A_a8'
    refine s_aload X hx (hb hby at_192) rfl rfl (q := 194) rfl ?_
    refine s_iconst X hx (z := (2 : Int32)) (hb hby at_194) rfl (q := 195) rfl ?_
    refine s_iload X hx (hb hby at_195) rfl (q := 197) rfl ?_
    refine s_iload X hx (hb hby at_197) rfl (q := 199) rfl ?_
    refine s_iload X hx (hb hby at_199) rfl (q := 201) rfl ?_
    refine callC X hx hZ hown (W := 0) (argsL := [(.ref a8), (.int (2 : Int32)), (.int (Int32.ofNat f)), (.int (Int32.ofNat t)), (.int (0 : Int32))]) (rest := []) (hw _ (List.mem_of_getElem? (i := 6) rfl)) (hw _ (List.mem_of_getElem? (i := 7) rfl)) (hw _ (List.mem_of_getElem? (i := 8) rfl)) (hw _ (List.mem_of_getElem? (i := 9) rfl)) (by decide) (rm2_2 l Z a0 hw [] a8 (0 : Int32) f t ((0 : Int32) ^^^ (-2147483648 : Int32)) (STP 1 f t ((0 : Int32) ^^^ (-2147483648 : Int32)) (STP 0 f t ((0 : Int32) ^^^ (-2147483648 : Int32)) (STP 3 f t ((0 : Int32) ^^^ (-2147483648 : Int32)) (STP 2 f t ((0 : Int32) ^^^ (-2147483648 : Int32)) (STP 1 f t ((0 : Int32) ^^^ (-2147483648 : Int32)) (STP 0 f t ((0 : Int32) ^^^ (-2147483648 : Int32)) [x0, x1, x2, x3, x4])))))) h21 n0 sz A_a8 g_a8 (by first | rfl | (simp only [STP_len]; rfl)) (by omega) (by omega) (by decide)) eT (by decide) (by decide) (by decide) (by decide) (by rw [hml]; rfl) pd2 rfl rfl (Nat.le_of_ble_eq_true rfl) (hb hby at_201) (q := 204) rfl ?_
    intro v T Lc hQ X
    obtain ⟨h22, eT⟩ : ∃ z, T.heap = z := ⟨_, rfl⟩
    try rw [eT] at hQ
    obtain ⟨rfl, N', K', A_a8'⟩ := hQ
    have N := Fr.app N N'
    have A_a1 := A_a1.keep K' (ninS ne_a1_a8 nin0)
    have sz : n0 ≤ h22.size := Nat.le_trans sz K'.1
    have A_a8 := A_a8'
    refine s_aload X hx (hb hby at_204) rfl rfl (q := 206) rfl ?_
    refine s_iconst X hx (z := (0 : Int32)) (hb hby at_206) rfl (q := 207) rfl ?_
    refine s_iload X hx (hb hby at_207) rfl (q := 209) rfl ?_
    refine s_iload X hx (hb hby at_209) rfl (q := 211) rfl ?_
    refine s_iload X hx (hb hby at_211) rfl (q := 213) rfl ?_
    refine callC X hx hZ hown (W := 0) (argsL := [(.ref a8), (.int (0 : Int32)), (.int (Int32.ofNat f)), (.int (Int32.ofNat t)), (.int (0 : Int32))]) (rest := []) (hw _ (List.mem_of_getElem? (i := 6) rfl)) (hw _ (List.mem_of_getElem? (i := 7) rfl)) (hw _ (List.mem_of_getElem? (i := 8) rfl)) (hw _ (List.mem_of_getElem? (i := 9) rfl)) (by decide) (rm2_0 l Z a0 hw [] a8 (0 : Int32) f t ((0 : Int32) ^^^ (-2147483648 : Int32)) (STP 2 f t ((0 : Int32) ^^^ (-2147483648 : Int32)) (STP 1 f t ((0 : Int32) ^^^ (-2147483648 : Int32)) (STP 0 f t ((0 : Int32) ^^^ (-2147483648 : Int32)) (STP 3 f t ((0 : Int32) ^^^ (-2147483648 : Int32)) (STP 2 f t ((0 : Int32) ^^^ (-2147483648 : Int32)) (STP 1 f t ((0 : Int32) ^^^ (-2147483648 : Int32)) (STP 0 f t ((0 : Int32) ^^^ (-2147483648 : Int32)) [x0, x1, x2, x3, x4]))))))) h22 n0 sz A_a8 g_a8 (by first | rfl | (simp only [STP_len]; rfl)) (by omega) (by omega) (by decide)) eT (by decide) (by decide) (by decide) (by decide) (by rw [hml]; rfl) pd2 rfl rfl (Nat.le_of_ble_eq_true rfl) (hb hby at_213) (q := 216) rfl ?_
    intro v T Lc hQ X
    obtain ⟨h23, eT⟩ : ∃ z, T.heap = z := ⟨_, rfl⟩
    try rw [eT] at hQ
    obtain ⟨rfl, N', K', A_a8'⟩ := hQ
    have N := Fr.app N N'
    have A_a1 := A_a1.keep K' (ninS ne_a1_a8 nin0)
    have sz : n0 ≤ h23.size := Nat.le_trans sz K'.1
    have A_a8 := A_a8'
    refine s_aload X hx (hb hby at_216) rfl rfl (q := 218) rfl ?_
    refine s_iconst X hx (z := (1 : Int32)) (hb hby at_218) rfl (q := 219) rfl ?_
    refine s_iload X hx (hb hby at_219) rfl (q := 221) rfl ?_
    refine s_iload X hx (hb hby at_221) rfl (q := 223) rfl ?_
    refine s_iload X hx (hb hby at_223) rfl (q := 225) rfl ?_
    refine callC X hx hZ hown (W := 0) (argsL := [(.ref a8), (.int (1 : Int32)), (.int (Int32.ofNat f)), (.int (Int32.ofNat t)), (.int (0 : Int32))]) (rest := []) (hw _ (List.mem_of_getElem? (i := 6) rfl)) (hw _ (List.mem_of_getElem? (i := 7) rfl)) (hw _ (List.mem_of_getElem? (i := 8) rfl)) (hw _ (List.mem_of_getElem? (i := 9) rfl)) (by decide) (rm2_1 l Z a0 hw [] a8 (0 : Int32) f t ((0 : Int32) ^^^ (-2147483648 : Int32)) (STP 0 f t ((0 : Int32) ^^^ (-2147483648 : Int32)) (STP 2 f t ((0 : Int32) ^^^ (-2147483648 : Int32)) (STP 1 f t ((0 : Int32) ^^^ (-2147483648 : Int32)) (STP 0 f t ((0 : Int32) ^^^ (-2147483648 : Int32)) (STP 3 f t ((0 : Int32) ^^^ (-2147483648 : Int32)) (STP 2 f t ((0 : Int32) ^^^ (-2147483648 : Int32)) (STP 1 f t ((0 : Int32) ^^^ (-2147483648 : Int32)) (STP 0 f t ((0 : Int32) ^^^ (-2147483648 : Int32)) [x0, x1, x2, x3, x4])))))))) h23 n0 sz A_a8 g_a8 (by first | rfl | (simp only [STP_len]; rfl)) (by omega) (by omega) (by decide)) eT (by decide) (by decide) (by decide) (by decide) (by rw [hml]; rfl) pd2 rfl rfl (Nat.le_of_ble_eq_true rfl) (hb hby at_225) (q := 228) rfl ?_
    intro v T Lc hQ X
    obtain ⟨h24, eT⟩ : ∃ z, T.heap = z := ⟨_, rfl⟩
    try rw [eT] at hQ
    obtain ⟨rfl, N', K', A_a8'⟩ := hQ
    have N := Fr.app N N'
    have A_a1 := A_a1.keep K' (ninS ne_a1_a8 nin0)
    have sz : n0 ≤ h24.size := Nat.le_trans sz K'.1
    have A_a8 := A_a8'
    refine s_aload X hx (hb hby at_228) rfl rfl (q := 230) rfl ?_
    refine s_iconst X hx (z := (0 : Int32)) (hb hby at_230) rfl (q := 231) rfl ?_
    refine s_iload X hx (hb hby at_231) rfl (q := 233) rfl ?_
    refine s_iload X hx (hb hby at_233) rfl (q := 235) rfl ?_
    refine s_iload X hx (hb hby at_235) rfl (q := 237) rfl ?_
    refine callC X hx hZ hown (W := 0) (argsL := [(.ref a8), (.int (0 : Int32)), (.int (Int32.ofNat f)), (.int (Int32.ofNat t)), (.int (0 : Int32))]) (rest := []) (hw _ (List.mem_of_getElem? (i := 6) rfl)) (hw _ (List.mem_of_getElem? (i := 7) rfl)) (hw _ (List.mem_of_getElem? (i := 8) rfl)) (hw _ (List.mem_of_getElem? (i := 9) rfl)) (by decide) (rm2_0 l Z a0 hw [] a8 (0 : Int32) f t ((0 : Int32) ^^^ (-2147483648 : Int32)) (STP 1 f t ((0 : Int32) ^^^ (-2147483648 : Int32)) (STP 0 f t ((0 : Int32) ^^^ (-2147483648 : Int32)) (STP 2 f t ((0 : Int32) ^^^ (-2147483648 : Int32)) (STP 1 f t ((0 : Int32) ^^^ (-2147483648 : Int32)) (STP 0 f t ((0 : Int32) ^^^ (-2147483648 : Int32)) (STP 3 f t ((0 : Int32) ^^^ (-2147483648 : Int32)) (STP 2 f t ((0 : Int32) ^^^ (-2147483648 : Int32)) (STP 1 f t ((0 : Int32) ^^^ (-2147483648 : Int32)) (STP 0 f t ((0 : Int32) ^^^ (-2147483648 : Int32)) [x0, x1, x2, x3, x4]))))))))) h24 n0 sz A_a8 g_a8 (by first | rfl | (simp only [STP_len]; rfl)) (by omega) (by omega) (by decide)) eT (by decide) (by decide) (by decide) (by decide) (by rw [hml]; rfl) pd2 rfl rfl (Nat.le_of_ble_eq_true rfl) (hb hby at_237) (q := 240) rfl ?_
    intro v T Lc hQ X
    obtain ⟨h25, eT⟩ : ∃ z, T.heap = z := ⟨_, rfl⟩
    try rw [eT] at hQ
    obtain ⟨rfl, N', K', A_a8'⟩ := hQ
    have N := Fr.app N N'
    have A_a1 := A_a1.keep K' (ninS ne_a1_a8 nin0)
    have sz : n0 ≤ h25.size := Nat.le_trans sz K'.1
    have A_a8 := A_a8'
    have A_a8 : AI Z h25 a8 .int (NET f t ((0 : Int32) ^^^ (-2147483648 : Int32)) [x0, x1, x2, x3, x4]) := A_a8
    refine s_aload X hx (hb hby at_240) rfl rfl (q := 242) rfl ?_
    refine s_iconst X hx (z := (0 : Int32)) (hb hby at_242) rfl (q := 243) rfl ?_
    refine s_iaload X hx hZ eT A_a1 (by decide) (i := 0) rfl (x := (((NET f t ((0 : Int32) ^^^ (-2147483648 : Int32)) [x0, x1, x2, x3, x4])).getD 0 0)) (own_get _ (by rw [NET_len]; exact Nat.le_of_ble_eq_true rfl)) (hb hby at_243) (q := 244) rfl ?_
    refine s_aload X hx (hb hby at_244) rfl rfl (q := 246) rfl ?_
    refine s_iconst X hx (z := (0 : Int32)) (hb hby at_246) rfl (q := 247) rfl ?_
    refine s_iaload X hx hZ eT A_a8 (by decide) (i := 0) rfl (x := (((NET f t ((0 : Int32) ^^^ (-2147483648 : Int32)) [x0, x1, x2, x3, x4])).getD 0 0)) (own_get _ (by rw [NET_len]; exact Nat.le_of_ble_eq_true rfl)) (hb hby at_247) (q := 248) rfl ?_
    refine f_icmp_ne X hx (hb hby at_248) (q1 := 299) (by decide) (by decide) (q := 251) rfl (fun hq => absurd (rfl : (((NET f t ((0 : Int32) ^^^ (-2147483648 : Int32)) [x0, x1, x2, x3, x4])).getD 0 0) = (((NET f t ((0 : Int32) ^^^ (-2147483648 : Int32)) [x0, x1, x2, x3, x4])).getD 0 0)) hq) (fun _ => ?_)
    refine s_aload X hx (hb hby at_251) rfl rfl (q := 253) rfl ?_
    refine s_iconst X hx (z := (1 : Int32)) (hb hby at_253) rfl (q := 254) rfl ?_
    refine s_iaload X hx hZ eT A_a1 (by decide) (i := 1) rfl (x := (((NET f t ((0 : Int32) ^^^ (-2147483648 : Int32)) [x0, x1, x2, x3, x4])).getD 1 0)) (own_get _ (by rw [NET_len]; exact Nat.le_of_ble_eq_true rfl)) (hb hby at_254) (q := 255) rfl ?_
    refine s_aload X hx (hb hby at_255) rfl rfl (q := 257) rfl ?_
    refine s_iconst X hx (z := (1 : Int32)) (hb hby at_257) rfl (q := 258) rfl ?_
    refine s_iaload X hx hZ eT A_a8 (by decide) (i := 1) rfl (x := (((NET f t ((0 : Int32) ^^^ (-2147483648 : Int32)) [x0, x1, x2, x3, x4])).getD 1 0)) (own_get _ (by rw [NET_len]; exact Nat.le_of_ble_eq_true rfl)) (hb hby at_258) (q := 259) rfl ?_
    refine f_icmp_ne X hx (hb hby at_259) (q1 := 299) (by decide) (by decide) (q := 262) rfl (fun hq => absurd (rfl : (((NET f t ((0 : Int32) ^^^ (-2147483648 : Int32)) [x0, x1, x2, x3, x4])).getD 1 0) = (((NET f t ((0 : Int32) ^^^ (-2147483648 : Int32)) [x0, x1, x2, x3, x4])).getD 1 0)) hq) (fun _ => ?_)
    refine s_aload X hx (hb hby at_262) rfl rfl (q := 264) rfl ?_
    refine s_iconst X hx (z := (2 : Int32)) (hb hby at_264) rfl (q := 265) rfl ?_
    refine s_iaload X hx hZ eT A_a1 (by decide) (i := 2) rfl (x := (((NET f t ((0 : Int32) ^^^ (-2147483648 : Int32)) [x0, x1, x2, x3, x4])).getD 2 0)) (own_get _ (by rw [NET_len]; exact Nat.le_of_ble_eq_true rfl)) (hb hby at_265) (q := 266) rfl ?_
    refine s_aload X hx (hb hby at_266) rfl rfl (q := 268) rfl ?_
    refine s_iconst X hx (z := (2 : Int32)) (hb hby at_268) rfl (q := 269) rfl ?_
    refine s_iaload X hx hZ eT A_a8 (by decide) (i := 2) rfl (x := (((NET f t ((0 : Int32) ^^^ (-2147483648 : Int32)) [x0, x1, x2, x3, x4])).getD 2 0)) (own_get _ (by rw [NET_len]; exact Nat.le_of_ble_eq_true rfl)) (hb hby at_269) (q := 270) rfl ?_
    refine f_icmp_ne X hx (hb hby at_270) (q1 := 299) (by decide) (by decide) (q := 273) rfl (fun hq => absurd (rfl : (((NET f t ((0 : Int32) ^^^ (-2147483648 : Int32)) [x0, x1, x2, x3, x4])).getD 2 0) = (((NET f t ((0 : Int32) ^^^ (-2147483648 : Int32)) [x0, x1, x2, x3, x4])).getD 2 0)) hq) (fun _ => ?_)
    refine s_aload X hx (hb hby at_273) rfl rfl (q := 275) rfl ?_
    refine s_iconst X hx (z := (3 : Int32)) (hb hby at_275) rfl (q := 276) rfl ?_
    refine s_iaload X hx hZ eT A_a1 (by decide) (i := 3) rfl (x := (((NET f t ((0 : Int32) ^^^ (-2147483648 : Int32)) [x0, x1, x2, x3, x4])).getD 3 0)) (own_get _ (by rw [NET_len]; exact Nat.le_of_ble_eq_true rfl)) (hb hby at_276) (q := 277) rfl ?_
    refine s_aload X hx (hb hby at_277) rfl rfl (q := 279) rfl ?_
    refine s_iconst X hx (z := (3 : Int32)) (hb hby at_279) rfl (q := 280) rfl ?_
    refine s_iaload X hx hZ eT A_a8 (by decide) (i := 3) rfl (x := (((NET f t ((0 : Int32) ^^^ (-2147483648 : Int32)) [x0, x1, x2, x3, x4])).getD 3 0)) (own_get _ (by rw [NET_len]; exact Nat.le_of_ble_eq_true rfl)) (hb hby at_280) (q := 281) rfl ?_
    refine f_icmp_ne X hx (hb hby at_281) (q1 := 299) (by decide) (by decide) (q := 284) rfl (fun hq => absurd (rfl : (((NET f t ((0 : Int32) ^^^ (-2147483648 : Int32)) [x0, x1, x2, x3, x4])).getD 3 0) = (((NET f t ((0 : Int32) ^^^ (-2147483648 : Int32)) [x0, x1, x2, x3, x4])).getD 3 0)) hq) (fun _ => ?_)
    refine s_aload X hx (hb hby at_284) rfl rfl (q := 286) rfl ?_
    refine s_iconst X hx (z := (4 : Int32)) (hb hby at_286) rfl (q := 287) rfl ?_
    refine s_iaload X hx hZ eT A_a1 (by decide) (i := 4) rfl (x := (((NET f t ((0 : Int32) ^^^ (-2147483648 : Int32)) [x0, x1, x2, x3, x4])).getD 4 0)) (own_get _ (by rw [NET_len]; exact Nat.le_of_ble_eq_true rfl)) (hb hby at_287) (q := 288) rfl ?_
    refine s_aload X hx (hb hby at_288) rfl rfl (q := 290) rfl ?_
    refine s_iconst X hx (z := (4 : Int32)) (hb hby at_290) rfl (q := 291) rfl ?_
    refine s_iaload X hx hZ eT A_a8 (by decide) (i := 4) rfl (x := (((NET f t ((0 : Int32) ^^^ (-2147483648 : Int32)) [x0, x1, x2, x3, x4])).getD 4 0)) (own_get _ (by rw [NET_len]; exact Nat.le_of_ble_eq_true rfl)) (hb hby at_291) (q := 292) rfl ?_
    refine f_icmp_ne X hx (hb hby at_292) (q1 := 299) (by decide) (by decide) (q := 295) rfl (fun hq => absurd (rfl : (((NET f t ((0 : Int32) ^^^ (-2147483648 : Int32)) [x0, x1, x2, x3, x4])).getD 4 0) = (((NET f t ((0 : Int32) ^^^ (-2147483648 : Int32)) [x0, x1, x2, x3, x4])).getD 4 0)) hq) (fun _ => ?_)
    refine s_iconst X hx (z := (1 : Int32)) (hb hby at_295) rfl (q := 296) rfl ?_
    refine s_goto X hx (hb hby at_296) (q1 := 300) (by decide) (by decide) ?_
    exact leafN X hx hlk hret (by simp) (hb hby at_300) (by decide) (by decide) (z' := 1) rfl ⟨rfl, N⟩
  refine s_iconst X hx (z := (1 : Int32)) (hb hby at_7) rfl (q := 8) rfl ?_
  refine s_goto X hx (hb hby at_8) (q1 := 12) (by decide) (by decide) ?_
  refine s_istore X hx (hb hby at_12) (L' := #[.val (.int x0), .val (.int x1), .val (.int x2), .val (.int x3), .val (.int x4), .val (.int x5), .val (.int (1 : Int32)), .unset, .unset, .unset, .unset, .unset]) rfl (q := 14) rfl ?_
  refine s_iload X hx (hb hby at_14) rfl (q := 16) rfl ?_
  refine f_if_eq X hx (hb hby at_16) (q1 := 24) (by decide) (by decide) (q := 19) rfl (fun hq => absurd hq (by decide : ¬ (1 : Int32) = 0)) (fun _ => ?_)
  refine s_ldc X hx hZ hown (hw _ (List.mem_of_getElem? (i := 0) rfl)) (hb hby at_19) (q := 21) rfl ?_
  refine s_goto X hx (hb hby at_21) (q1 := 25) (by decide) (by decide) ?_
  refine s_istore X hx (hb hby at_25) (L' := #[.val (.int x0), .val (.int x1), .val (.int x2), .val (.int x3), .val (.int x4), .val (.int x5), .val (.int (1 : Int32)), .val (.int (-2147483648 : Int32)), .unset, .unset, .unset, .unset]) rfl (q := 27) rfl ?_
  refine s_iload X hx (hb hby at_27) rfl (q := 29) rfl ?_
  refine s_iconst X hx (z := (1 : Int32)) (hb hby at_29) rfl (q := 30) rfl ?_
  refine s_iushr X hx (hb hby at_30) (q := 31) rfl ?_
  refine s_bipush X hx (z := (7 : Int32)) (hb hby at_31) rfl (q := 33) rfl ?_
  refine s_iand X hx (hb hby at_33) (q := 34) rfl ?_
  refine s_bipush X hx (z := (6 : Int32)) (hb hby at_34) rfl (q := 36) rfl ?_
  refine s_irem X hx (hb hby at_36) (by decide) (q := 37) rfl ?_
  generalize hfr : ((((x5.toUInt32 >>> ((1 : Int32) &&& 31).toUInt32).toInt32) &&& (7 : Int32)) % (6 : Int32)) = fr
  refine s_istore X hx (hb hby at_37) (L' := #[.val (.int x0), .val (.int x1), .val (.int x2), .val (.int x3), .val (.int x4), .val (.int x5), .val (.int (1 : Int32)), .val (.int (-2147483648 : Int32)), .val (.int fr), .unset, .unset, .unset]) rfl (q := 39) rfl ?_
  obtain ⟨f, hf5, rfl⟩ := own_f _ fr hfr
  refine s_iload X hx (hb hby at_39) rfl (q := 41) rfl ?_
  refine s_iload X hx (hb hby at_41) rfl (q := 43) rfl ?_
  refine s_iconst X hx (z := (4 : Int32)) (hb hby at_43) rfl (q := 44) rfl ?_
  refine s_iushr X hx (hb hby at_44) (q := 45) rfl ?_
  refine s_bipush X hx (z := (7 : Int32)) (hb hby at_45) rfl (q := 47) rfl ?_
  refine s_iand X hx (hb hby at_47) (q := 48) rfl ?_
  refine s_bipush X hx (z := (6 : Int32)) (hb hby at_48) rfl (q := 50) rfl ?_
  refine s_iload X hx (hb hby at_50) rfl (q := 52) rfl ?_
  refine s_isub X hx (hb hby at_52) (q := 53) rfl ?_
  refine s_irem X hx (hb hby at_53) (own_nz f hf5) (q := 54) rfl ?_
  refine s_iadd X hx (hb hby at_54) (q := 55) rfl ?_
  generalize hto : ((Int32.ofNat f) + ((((x5.toUInt32 >>> ((4 : Int32) &&& 31).toUInt32).toInt32) &&& (7 : Int32)) % ((6 : Int32) - (Int32.ofNat f)))) = to
  refine s_istore X hx (hb hby at_55) (L' := #[.val (.int x0), .val (.int x1), .val (.int x2), .val (.int x3), .val (.int x4), .val (.int x5), .val (.int (1 : Int32)), .val (.int (-2147483648 : Int32)), .val (.int (Int32.ofNat f)), .val (.int to), .unset, .unset]) rfl (q := 57) rfl ?_
  obtain ⟨t, hft, ht5, rfl⟩ := own_t _ to f hf5 hto
  refine s_iconst X hx (z := (5 : Int32)) (hb hby at_57) rfl (q := 58) rfl ?_
  refine s_newI X hx hZ (hw _ (List.mem_of_getElem? (i := 1) rfl)) eT (by decide) (cap := 5) (by decide) (by decide) (by decide) (by decide) (ys := [0, 0, 0, 0, 0]) rfl (hb hby at_58) (q := 60) rfl ?_
  intro T h27 a26 X eT E ea A_a26
  have g_a26 : n0 ≤ a26 := by rw [ea]; exact sz
  have sz : n0 ≤ h27.size := Nat.le_trans sz E.1
  refine s_dup X hx (hb hby at_60) rfl (q := 61) rfl ?_
  refine s_iconst X hx (z := (0 : Int32)) (hb hby at_61) rfl (q := 62) rfl ?_
  refine s_iloadN X hx (hb hby at_62) rfl (q := 63) rfl ?_
  refine s_iastore X hx hZ eT A_a26 N g_a26 (by decide) (i := 0) rfl (Nat.le_of_ble_eq_true rfl) (ys := [x0, 0, 0, 0, 0]) rfl (hb hby at_63) (q := 64) rfl ?_
  intro T h28 _ X N eT W A_a26'
  have sz : n0 ≤ h28.size := by rw [W.size]; exact sz
  have A_a26 := A_a26'
  refine s_dup X hx (hb hby at_64) rfl (q := 65) rfl ?_
  refine s_iconst X hx (z := (1 : Int32)) (hb hby at_65) rfl (q := 66) rfl ?_
  refine s_iloadN X hx (hb hby at_66) rfl (q := 67) rfl ?_
  refine s_iastore X hx hZ eT A_a26 N g_a26 (by decide) (i := 1) rfl (Nat.le_of_ble_eq_true rfl) (ys := [x0, x1, 0, 0, 0]) rfl (hb hby at_67) (q := 68) rfl ?_
  intro T h29 _ X N eT W A_a26'
  have sz : n0 ≤ h29.size := by rw [W.size]; exact sz
  have A_a26 := A_a26'
  refine s_dup X hx (hb hby at_68) rfl (q := 69) rfl ?_
  refine s_iconst X hx (z := (2 : Int32)) (hb hby at_69) rfl (q := 70) rfl ?_
  refine s_iloadN X hx (hb hby at_70) rfl (q := 71) rfl ?_
  refine s_iastore X hx hZ eT A_a26 N g_a26 (by decide) (i := 2) rfl (Nat.le_of_ble_eq_true rfl) (ys := [x0, x1, x2, 0, 0]) rfl (hb hby at_71) (q := 72) rfl ?_
  intro T h30 _ X N eT W A_a26'
  have sz : n0 ≤ h30.size := by rw [W.size]; exact sz
  have A_a26 := A_a26'
  refine s_dup X hx (hb hby at_72) rfl (q := 73) rfl ?_
  refine s_iconst X hx (z := (3 : Int32)) (hb hby at_73) rfl (q := 74) rfl ?_
  refine s_iloadN X hx (hb hby at_74) rfl (q := 75) rfl ?_
  refine s_iastore X hx hZ eT A_a26 N g_a26 (by decide) (i := 3) rfl (Nat.le_of_ble_eq_true rfl) (ys := [x0, x1, x2, x3, 0]) rfl (hb hby at_75) (q := 76) rfl ?_
  intro T h31 _ X N eT W A_a26'
  have sz : n0 ≤ h31.size := by rw [W.size]; exact sz
  have A_a26 := A_a26'
  refine s_dup X hx (hb hby at_76) rfl (q := 77) rfl ?_
  refine s_iconst X hx (z := (4 : Int32)) (hb hby at_77) rfl (q := 78) rfl ?_
  refine s_iload X hx (hb hby at_78) rfl (q := 80) rfl ?_
  refine s_iastore X hx hZ eT A_a26 N g_a26 (by decide) (i := 4) rfl (Nat.le_of_ble_eq_true rfl) (ys := [x0, x1, x2, x3, x4]) rfl (hb hby at_80) (q := 81) rfl ?_
  intro T h32 _ X N eT W A_a26'
  have sz : n0 ≤ h32.size := by rw [W.size]; exact sz
  have A_a26 := A_a26'
  refine s_astore X hx (hb hby at_81) rfl (L' := #[.val (.int x0), .val (.int x1), .val (.int x2), .val (.int x3), .val (.int x4), .val (.int x5), .val (.int (1 : Int32)), .val (.int (-2147483648 : Int32)), .val (.int (Int32.ofNat f)), .val (.int (Int32.ofNat t)), .val (.ref a26), .unset]) rfl (q := 83) rfl ?_
  refine s_iconst X hx (z := (5 : Int32)) (hb hby at_83) rfl (q := 84) rfl ?_
  refine s_newI X hx hZ (hw _ (List.mem_of_getElem? (i := 1) rfl)) eT (by decide) (cap := 5) (by decide) (by decide) (by decide) (by decide) (ys := [0, 0, 0, 0, 0]) rfl (hb hby at_84) (q := 86) rfl ?_
  intro T h34 a33 X eT E ea A_a33
  have ne_a26_a33 : a26 ≠ a33 := by rw [ea]; exact Nat.ne_of_lt A_a26.lt
  have A_a26 := A_a26.ext E
  have g_a33 : n0 ≤ a33 := by rw [ea]; exact sz
  have sz : n0 ≤ h34.size := Nat.le_trans sz E.1
  refine s_dup X hx (hb hby at_86) rfl (q := 87) rfl ?_
  refine s_iconst X hx (z := (0 : Int32)) (hb hby at_87) rfl (q := 88) rfl ?_
  refine s_iloadN X hx (hb hby at_88) rfl (q := 89) rfl ?_
  refine s_iastore X hx hZ eT A_a33 N g_a33 (by decide) (i := 0) rfl (Nat.le_of_ble_eq_true rfl) (ys := [x0, 0, 0, 0, 0]) rfl (hb hby at_89) (q := 90) rfl ?_
  intro T h35 _ X N eT W A_a33'
  have A_a26 := A_a26.other W ne_a26_a33
  have sz : n0 ≤ h35.size := by rw [W.size]; exact sz
  have A_a33 := A_a33'
  refine s_dup X hx (hb hby at_90) rfl (q := 91) rfl ?_
  refine s_iconst X hx (z := (1 : Int32)) (hb hby at_91) rfl (q := 92) rfl ?_
  refine s_iloadN X hx (hb hby at_92) rfl (q := 93) rfl ?_
  refine s_iastore X hx hZ eT A_a33 N g_a33 (by decide) (i := 1) rfl (Nat.le_of_ble_eq_true rfl) (ys := [x0, x1, 0, 0, 0]) rfl (hb hby at_93) (q := 94) rfl ?_
  intro T h36 _ X N eT W A_a33'
  have A_a26 := A_a26.other W ne_a26_a33
  have sz : n0 ≤ h36.size := by rw [W.size]; exact sz
  have A_a33 := A_a33'
  refine s_dup X hx (hb hby at_94) rfl (q := 95) rfl ?_
  refine s_iconst X hx (z := (2 : Int32)) (hb hby at_95) rfl (q := 96) rfl ?_
  refine s_iloadN X hx (hb hby at_96) rfl (q := 97) rfl ?_
  refine s_iastore X hx hZ eT A_a33 N g_a33 (by decide) (i := 2) rfl (Nat.le_of_ble_eq_true rfl) (ys := [x0, x1, x2, 0, 0]) rfl (hb hby at_97) (q := 98) rfl ?_
  intro T h37 _ X N eT W A_a33'
  have A_a26 := A_a26.other W ne_a26_a33
  have sz : n0 ≤ h37.size := by rw [W.size]; exact sz
  have A_a33 := A_a33'
  refine s_dup X hx (hb hby at_98) rfl (q := 99) rfl ?_
  refine s_iconst X hx (z := (3 : Int32)) (hb hby at_99) rfl (q := 100) rfl ?_
  refine s_iloadN X hx (hb hby at_100) rfl (q := 101) rfl ?_
  refine s_iastore X hx hZ eT A_a33 N g_a33 (by decide) (i := 3) rfl (Nat.le_of_ble_eq_true rfl) (ys := [x0, x1, x2, x3, 0]) rfl (hb hby at_101) (q := 102) rfl ?_
  intro T h38 _ X N eT W A_a33'
  have A_a26 := A_a26.other W ne_a26_a33
  have sz : n0 ≤ h38.size := by rw [W.size]; exact sz
  have A_a33 := A_a33'
  refine s_dup X hx (hb hby at_102) rfl (q := 103) rfl ?_
  refine s_iconst X hx (z := (4 : Int32)) (hb hby at_103) rfl (q := 104) rfl ?_
  refine s_iload X hx (hb hby at_104) rfl (q := 106) rfl ?_
  refine s_iastore X hx hZ eT A_a33 N g_a33 (by decide) (i := 4) rfl (Nat.le_of_ble_eq_true rfl) (ys := [x0, x1, x2, x3, x4]) rfl (hb hby at_106) (q := 107) rfl ?_
  intro T h39 _ X N eT W A_a33'
  have A_a26 := A_a26.other W ne_a26_a33
  have sz : n0 ≤ h39.size := by rw [W.size]; exact sz
  have A_a33 := A_a33'
  refine s_astore X hx (hb hby at_107) rfl (L' := #[.val (.int x0), .val (.int x1), .val (.int x2), .val (.int x3), .val (.int x4), .val (.int x5), .val (.int (1 : Int32)), .val (.int (-2147483648 : Int32)), .val (.int (Int32.ofNat f)), .val (.int (Int32.ofNat t)), .val (.ref a26), .val (.ref a33)]) rfl (q := 109) rfl ?_
  refine s_aload X hx (hb hby at_109) rfl rfl (q := 111) rfl ?_
  refine s_iload X hx (hb hby at_111) rfl (q := 113) rfl ?_
  refine s_iload X hx (hb hby at_113) rfl (q := 115) rfl ?_
  refine s_iload X hx (hb hby at_115) rfl (q := 117) rfl ?_
  refine callC X hx hZ hown (W := 0) (argsL := [(.ref a26), (.int (Int32.ofNat f)), (.int (Int32.ofNat t)), (.int (-2147483648 : Int32))]) (rest := []) (hw _ (List.mem_of_getElem? (i := 2) rfl)) (hw _ (List.mem_of_getElem? (i := 3) rfl)) (hw _ (List.mem_of_getElem? (i := 4) rfl)) (hw _ (List.mem_of_getElem? (i := 5) rfl)) (by decide) (rmAny l Z a0 hw [] a26 f t (-2147483648 : Int32) x0 x1 x2 x3 x4 h39 n0 sz A_a26 g_a26 hft ht5) eT (by decide) (by decide) (by decide) (by decide) (by rw [hml]; rfl) pd1 rfl rfl (Nat.le_of_ble_eq_true rfl) (hb hby at_117) (q := 120) rfl ?_
  intro v T Lc hQ X
  obtain ⟨h40, eT⟩ : ∃ z, T.heap = z := ⟨_, rfl⟩
  try rw [eT] at hQ
  obtain ⟨rfl, N', K', A_a26'⟩ := hQ
  have N := Fr.app N N'
  have A_a33 := A_a33.keep K' (ninS (Ne.symm ne_a26_a33) nin0)
  have sz : n0 ≤ h40.size := Nat.le_trans sz K'.1
  have A_a26 := A_a26'
  refine s_aload X hx (hb hby at_120) rfl rfl (q := 122) rfl ?_
  refine s_iconst X hx (z := (0 : Int32)) (hb hby at_122) rfl (q := 123) rfl ?_
  refine s_iload X hx (hb hby at_123) rfl (q := 125) rfl ?_
  refine s_iload X hx (hb hby at_125) rfl (q := 127) rfl ?_
  refine s_iload X hx (hb hby at_127) rfl (q := 129) rfl ?_
  refine callC X hx hZ hown (W := 0) (argsL := [(.ref a33), (.int (0 : Int32)), (.int (Int32.ofNat f)), (.int (Int32.ofNat t)), (.int (1 : Int32))]) (rest := []) (hw _ (List.mem_of_getElem? (i := 6) rfl)) (hw _ (List.mem_of_getElem? (i := 7) rfl)) (hw _ (List.mem_of_getElem? (i := 8) rfl)) (hw _ (List.mem_of_getElem? (i := 9) rfl)) (by decide) (rm2_0 l Z a0 hw [] a33 (1 : Int32) f t ((-2147483648 : Int32) ^^^ (-2147483648 : Int32)) [x0, x1, x2, x3, x4] h40 n0 sz A_a33 g_a33 (by first | rfl | (simp only [STP_len]; rfl)) (by omega) (by omega) (by decide)) eT (by decide) (by decide) (by decide) (by decide) (by rw [hml]; rfl) pd2 rfl rfl (Nat.le_of_ble_eq_true rfl) (hb hby at_129) (q := 132) rfl ?_
  intro v T Lc hQ X
  obtain ⟨h41, eT⟩ : ∃ z, T.heap = z := ⟨_, rfl⟩
  try rw [eT] at hQ
  obtain ⟨rfl, N', K', A_a33'⟩ := hQ
  have N := Fr.app N N'
  have A_a26 := A_a26.keep K' (ninS ne_a26_a33 nin0)
  have sz : n0 ≤ h41.size := Nat.le_trans sz K'.1
  have A_a33 := A_a33'
  refine s_aload X hx (hb hby at_132) rfl rfl (q := 134) rfl ?_
  refine s_iconst X hx (z := (1 : Int32)) (hb hby at_134) rfl (q := 135) rfl ?_
  refine s_iload X hx (hb hby at_135) rfl (q := 137) rfl ?_
  refine s_iload X hx (hb hby at_137) rfl (q := 139) rfl ?_
  refine s_iload X hx (hb hby at_139) rfl (q := 141) rfl ?_
  refine callC X hx hZ hown (W := 0) (argsL := [(.ref a33), (.int (1 : Int32)), (.int (Int32.ofNat f)), (.int (Int32.ofNat t)), (.int (1 : Int32))]) (rest := []) (hw _ (List.mem_of_getElem? (i := 6) rfl)) (hw _ (List.mem_of_getElem? (i := 7) rfl)) (hw _ (List.mem_of_getElem? (i := 8) rfl)) (hw _ (List.mem_of_getElem? (i := 9) rfl)) (by decide) (rm2_1 l Z a0 hw [] a33 (1 : Int32) f t ((-2147483648 : Int32) ^^^ (-2147483648 : Int32)) (STP 0 f t ((-2147483648 : Int32) ^^^ (-2147483648 : Int32)) [x0, x1, x2, x3, x4]) h41 n0 sz A_a33 g_a33 (by first | rfl | (simp only [STP_len]; rfl)) (by omega) (by omega) (by decide)) eT (by decide) (by decide) (by decide) (by decide) (by rw [hml]; rfl) pd2 rfl rfl (Nat.le_of_ble_eq_true rfl) (hb hby at_141) (q := 144) rfl ?_
  intro v T Lc hQ X
  obtain ⟨h42, eT⟩ : ∃ z, T.heap = z := ⟨_, rfl⟩
  try rw [eT] at hQ
  obtain ⟨rfl, N', K', A_a33'⟩ := hQ
  have N := Fr.app N N'
  have A_a26 := A_a26.keep K' (ninS ne_a26_a33 nin0)
  have sz : n0 ≤ h42.size := Nat.le_trans sz K'.1
  have A_a33 := A_a33'
  refine s_aload X hx (hb hby at_144) rfl rfl (q := 146) rfl ?_
  refine s_iconst X hx (z := (2 : Int32)) (hb hby at_146) rfl (q := 147) rfl ?_
  refine s_iload X hx (hb hby at_147) rfl (q := 149) rfl ?_
  refine s_iload X hx (hb hby at_149) rfl (q := 151) rfl ?_
  refine s_iload X hx (hb hby at_151) rfl (q := 153) rfl ?_
  refine callC X hx hZ hown (W := 0) (argsL := [(.ref a33), (.int (2 : Int32)), (.int (Int32.ofNat f)), (.int (Int32.ofNat t)), (.int (1 : Int32))]) (rest := []) (hw _ (List.mem_of_getElem? (i := 6) rfl)) (hw _ (List.mem_of_getElem? (i := 7) rfl)) (hw _ (List.mem_of_getElem? (i := 8) rfl)) (hw _ (List.mem_of_getElem? (i := 9) rfl)) (by decide) (rm2_2 l Z a0 hw [] a33 (1 : Int32) f t ((-2147483648 : Int32) ^^^ (-2147483648 : Int32)) (STP 1 f t ((-2147483648 : Int32) ^^^ (-2147483648 : Int32)) (STP 0 f t ((-2147483648 : Int32) ^^^ (-2147483648 : Int32)) [x0, x1, x2, x3, x4])) h42 n0 sz A_a33 g_a33 (by first | rfl | (simp only [STP_len]; rfl)) (by omega) (by omega) (by decide)) eT (by decide) (by decide) (by decide) (by decide) (by rw [hml]; rfl) pd2 rfl rfl (Nat.le_of_ble_eq_true rfl) (hb hby at_153) (q := 156) rfl ?_
  intro v T Lc hQ X
  obtain ⟨h43, eT⟩ : ∃ z, T.heap = z := ⟨_, rfl⟩
  try rw [eT] at hQ
  obtain ⟨rfl, N', K', A_a33'⟩ := hQ
  have N := Fr.app N N'
  have A_a26 := A_a26.keep K' (ninS ne_a26_a33 nin0)
  have sz : n0 ≤ h43.size := Nat.le_trans sz K'.1
  have A_a33 := A_a33'
  refine s_aload X hx (hb hby at_156) rfl rfl (q := 158) rfl ?_
  refine s_iconst X hx (z := (3 : Int32)) (hb hby at_158) rfl (q := 159) rfl ?_
  refine s_iload X hx (hb hby at_159) rfl (q := 161) rfl ?_
  refine s_iload X hx (hb hby at_161) rfl (q := 163) rfl ?_
  refine s_iload X hx (hb hby at_163) rfl (q := 165) rfl ?_
  refine callC X hx hZ hown (W := 0) (argsL := [(.ref a33), (.int (3 : Int32)), (.int (Int32.ofNat f)), (.int (Int32.ofNat t)), (.int (1 : Int32))]) (rest := []) (hw _ (List.mem_of_getElem? (i := 6) rfl)) (hw _ (List.mem_of_getElem? (i := 7) rfl)) (hw _ (List.mem_of_getElem? (i := 8) rfl)) (hw _ (List.mem_of_getElem? (i := 9) rfl)) (by decide) (rm2_3 l Z a0 hw [] a33 (1 : Int32) f t ((-2147483648 : Int32) ^^^ (-2147483648 : Int32)) (STP 2 f t ((-2147483648 : Int32) ^^^ (-2147483648 : Int32)) (STP 1 f t ((-2147483648 : Int32) ^^^ (-2147483648 : Int32)) (STP 0 f t ((-2147483648 : Int32) ^^^ (-2147483648 : Int32)) [x0, x1, x2, x3, x4]))) h43 n0 sz A_a33 g_a33 (by first | rfl | (simp only [STP_len]; rfl)) (by omega) (by omega) (by decide)) eT (by decide) (by decide) (by decide) (by decide) (by rw [hml]; rfl) pd2 rfl rfl (Nat.le_of_ble_eq_true rfl) (hb hby at_165) (q := 168) rfl ?_
  intro v T Lc hQ X
  obtain ⟨h44, eT⟩ : ∃ z, T.heap = z := ⟨_, rfl⟩
  try rw [eT] at hQ
  obtain ⟨rfl, N', K', A_a33'⟩ := hQ
  have N := Fr.app N N'
  have A_a26 := A_a26.keep K' (ninS ne_a26_a33 nin0)
  have sz : n0 ≤ h44.size := Nat.le_trans sz K'.1
  have A_a33 := A_a33'
  refine s_aload X hx (hb hby at_168) rfl rfl (q := 170) rfl ?_
  refine s_iconst X hx (z := (0 : Int32)) (hb hby at_170) rfl (q := 171) rfl ?_
  refine s_iload X hx (hb hby at_171) rfl (q := 173) rfl ?_
  refine s_iload X hx (hb hby at_173) rfl (q := 175) rfl ?_
  refine s_iload X hx (hb hby at_175) rfl (q := 177) rfl ?_
  refine callC X hx hZ hown (W := 0) (argsL := [(.ref a33), (.int (0 : Int32)), (.int (Int32.ofNat f)), (.int (Int32.ofNat t)), (.int (1 : Int32))]) (rest := []) (hw _ (List.mem_of_getElem? (i := 6) rfl)) (hw _ (List.mem_of_getElem? (i := 7) rfl)) (hw _ (List.mem_of_getElem? (i := 8) rfl)) (hw _ (List.mem_of_getElem? (i := 9) rfl)) (by decide) (rm2_0 l Z a0 hw [] a33 (1 : Int32) f t ((-2147483648 : Int32) ^^^ (-2147483648 : Int32)) (STP 3 f t ((-2147483648 : Int32) ^^^ (-2147483648 : Int32)) (STP 2 f t ((-2147483648 : Int32) ^^^ (-2147483648 : Int32)) (STP 1 f t ((-2147483648 : Int32) ^^^ (-2147483648 : Int32)) (STP 0 f t ((-2147483648 : Int32) ^^^ (-2147483648 : Int32)) [x0, x1, x2, x3, x4])))) h44 n0 sz A_a33 g_a33 (by first | rfl | (simp only [STP_len]; rfl)) (by omega) (by omega) (by decide)) eT (by decide) (by decide) (by decide) (by decide) (by rw [hml]; rfl) pd2 rfl rfl (Nat.le_of_ble_eq_true rfl) (hb hby at_177) (q := 180) rfl ?_
  intro v T Lc hQ X
  obtain ⟨h45, eT⟩ : ∃ z, T.heap = z := ⟨_, rfl⟩
  try rw [eT] at hQ
  obtain ⟨rfl, N', K', A_a33'⟩ := hQ
  have N := Fr.app N N'
  have A_a26 := A_a26.keep K' (ninS ne_a26_a33 nin0)
  have sz : n0 ≤ h45.size := Nat.le_trans sz K'.1
  have A_a33 := A_a33'
  refine s_aload X hx (hb hby at_180) rfl rfl (q := 182) rfl ?_
  refine s_iconst X hx (z := (1 : Int32)) (hb hby at_182) rfl (q := 183) rfl ?_
  refine s_iload X hx (hb hby at_183) rfl (q := 185) rfl ?_
  refine s_iload X hx (hb hby at_185) rfl (q := 187) rfl ?_
  refine s_iload X hx (hb hby at_187) rfl (q := 189) rfl ?_
  refine callC X hx hZ hown (W := 0) (argsL := [(.ref a33), (.int (1 : Int32)), (.int (Int32.ofNat f)), (.int (Int32.ofNat t)), (.int (1 : Int32))]) (rest := []) (hw _ (List.mem_of_getElem? (i := 6) rfl)) (hw _ (List.mem_of_getElem? (i := 7) rfl)) (hw _ (List.mem_of_getElem? (i := 8) rfl)) (hw _ (List.mem_of_getElem? (i := 9) rfl)) (by decide) (rm2_1 l Z a0 hw [] a33 (1 : Int32) f t ((-2147483648 : Int32) ^^^ (-2147483648 : Int32)) (STP 0 f t ((-2147483648 : Int32) ^^^ (-2147483648 : Int32)) (STP 3 f t ((-2147483648 : Int32) ^^^ (-2147483648 : Int32)) (STP 2 f t ((-2147483648 : Int32) ^^^ (-2147483648 : Int32)) (STP 1 f t ((-2147483648 : Int32) ^^^ (-2147483648 : Int32)) (STP 0 f t ((-2147483648 : Int32) ^^^ (-2147483648 : Int32)) [x0, x1, x2, x3, x4]))))) h45 n0 sz A_a33 g_a33 (by first | rfl | (simp only [STP_len]; rfl)) (by omega) (by omega) (by decide)) eT (by decide) (by decide) (by decide) (by decide) (by rw [hml]; rfl) pd2 rfl rfl (Nat.le_of_ble_eq_true rfl) (hb hby at_189) (q := 192) rfl ?_
  intro v T Lc hQ X
  obtain ⟨h46, eT⟩ : ∃ z, T.heap = z := ⟨_, rfl⟩
  try rw [eT] at hQ
  obtain ⟨rfl, N', K', A_a33'⟩ := hQ
  have N := Fr.app N N'
  have A_a26 := A_a26.keep K' (ninS ne_a26_a33 nin0)
  have sz : n0 ≤ h46.size := Nat.le_trans sz K'.1
  have A_a33 := A_a33'
  refine s_aload X hx (hb hby at_192) rfl rfl (q := 194) rfl ?_
  refine s_iconst X hx (z := (2 : Int32)) (hb hby at_194) rfl (q := 195) rfl ?_
  refine s_iload X hx (hb hby at_195) rfl (q := 197) rfl ?_
  refine s_iload X hx (hb hby at_197) rfl (q := 199) rfl ?_
  refine s_iload X hx (hb hby at_199) rfl (q := 201) rfl ?_
  refine callC X hx hZ hown (W := 0) (argsL := [(.ref a33), (.int (2 : Int32)), (.int (Int32.ofNat f)), (.int (Int32.ofNat t)), (.int (1 : Int32))]) (rest := []) (hw _ (List.mem_of_getElem? (i := 6) rfl)) (hw _ (List.mem_of_getElem? (i := 7) rfl)) (hw _ (List.mem_of_getElem? (i := 8) rfl)) (hw _ (List.mem_of_getElem? (i := 9) rfl)) (by decide) (rm2_2 l Z a0 hw [] a33 (1 : Int32) f t ((-2147483648 : Int32) ^^^ (-2147483648 : Int32)) (STP 1 f t ((-2147483648 : Int32) ^^^ (-2147483648 : Int32)) (STP 0 f t ((-2147483648 : Int32) ^^^ (-2147483648 : Int32)) (STP 3 f t ((-2147483648 : Int32) ^^^ (-2147483648 : Int32)) (STP 2 f t ((-2147483648 : Int32) ^^^ (-2147483648 : Int32)) (STP 1 f t ((-2147483648 : Int32) ^^^ (-2147483648 : Int32)) (STP 0 f t ((-2147483648 : Int32) ^^^ (-2147483648 : Int32)) [x0, x1, x2, x3, x4])))))) h46 n0 sz A_a33 g_a33 (by first | rfl | (simp only [STP_len]; rfl)) (by omega) (by omega) (by decide)) eT (by decide) (by decide) (by decide) (by decide) (by rw [hml]; rfl) pd2 rfl rfl (Nat.le_of_ble_eq_true rfl) (hb hby at_201) (q := 204) rfl ?_
  intro v T Lc hQ X
  obtain ⟨h47, eT⟩ : ∃ z, T.heap = z := ⟨_, rfl⟩
  try rw [eT] at hQ
  obtain ⟨rfl, N', K', A_a33'⟩ := hQ
  have N := Fr.app N N'
  have A_a26 := A_a26.keep K' (ninS ne_a26_a33 nin0)
  have sz : n0 ≤ h47.size := Nat.le_trans sz K'.1
  have A_a33 := A_a33'
  refine s_aload X hx (hb hby at_204) rfl rfl (q := 206) rfl ?_
  refine s_iconst X hx (z := (0 : Int32)) (hb hby at_206) rfl (q := 207) rfl ?_
  refine s_iload X hx (hb hby at_207) rfl (q := 209) rfl ?_
  refine s_iload X hx (hb hby at_209) rfl (q := 211) rfl ?_
  refine s_iload X hx (hb hby at_211) rfl (q := 213) rfl ?_
  refine callC X hx hZ hown (W := 0) (argsL := [(.ref a33), (.int (0 : Int32)), (.int (Int32.ofNat f)), (.int (Int32.ofNat t)), (.int (1 : Int32))]) (rest := []) (hw _ (List.mem_of_getElem? (i := 6) rfl)) (hw _ (List.mem_of_getElem? (i := 7) rfl)) (hw _ (List.mem_of_getElem? (i := 8) rfl)) (hw _ (List.mem_of_getElem? (i := 9) rfl)) (by decide) (rm2_0 l Z a0 hw [] a33 (1 : Int32) f t ((-2147483648 : Int32) ^^^ (-2147483648 : Int32)) (STP 2 f t ((-2147483648 : Int32) ^^^ (-2147483648 : Int32)) (STP 1 f t ((-2147483648 : Int32) ^^^ (-2147483648 : Int32)) (STP 0 f t ((-2147483648 : Int32) ^^^ (-2147483648 : Int32)) (STP 3 f t ((-2147483648 : Int32) ^^^ (-2147483648 : Int32)) (STP 2 f t ((-2147483648 : Int32) ^^^ (-2147483648 : Int32)) (STP 1 f t ((-2147483648 : Int32) ^^^ (-2147483648 : Int32)) (STP 0 f t ((-2147483648 : Int32) ^^^ (-2147483648 : Int32)) [x0, x1, x2, x3, x4]))))))) h47 n0 sz A_a33 g_a33 (by first | rfl | (simp only [STP_len]; rfl)) (by omega) (by omega) (by decide)) eT (by decide) (by decide) (by decide) (by decide) (by rw [hml]; rfl) pd2 rfl rfl (Nat.le_of_ble_eq_true rfl) (hb hby at_213) (q := 216) rfl ?_
  intro v T Lc hQ X
  obtain ⟨h48, eT⟩ : ∃ z, T.heap = z := ⟨_, rfl⟩
  try rw [eT] at hQ
  obtain ⟨rfl, N', K', A_a33'⟩ := hQ
  have N := Fr.app N N'
  have A_a26 := A_a26.keep K' (ninS ne_a26_a33 nin0)
  have sz : n0 ≤ h48.size := Nat.le_trans sz K'.1
  have A_a33 := A_a33'
  refine s_aload X hx (hb hby at_216) rfl rfl (q := 218) rfl ?_
  refine s_iconst X hx (z := (1 : Int32)) (hb hby at_218) rfl (q := 219) rfl ?_
  refine s_iload X hx (hb hby at_219) rfl (q := 221) rfl ?_
  refine s_iload X hx (hb hby at_221) rfl (q := 223) rfl ?_
  refine s_iload X hx (hb hby at_223) rfl (q := 225) rfl ?_
  refine callC X hx hZ hown (W := 0) (argsL := [(.ref a33), (.int (1 : Int32)), (.int (Int32.ofNat f)), (.int (Int32.ofNat t)), (.int (1 : Int32))]) (rest := []) (hw _ (List.mem_of_getElem? (i := 6) rfl)) (hw _ (List.mem_of_getElem? (i := 7) rfl)) (hw _ (List.mem_of_getElem? (i := 8) rfl)) (hw _ (List.mem_of_getElem? (i := 9) rfl)) (by decide) (rm2_1 l Z a0 hw [] a33 (1 : Int32) f t ((-2147483648 : Int32) ^^^ (-2147483648 : Int32)) (STP 0 f t ((-2147483648 : Int32) ^^^ (-2147483648 : Int32)) (STP 2 f t ((-2147483648 : Int32) ^^^ (-2147483648 : Int32)) (STP 1 f t ((-2147483648 : Int32) ^^^ (-2147483648 : Int32)) (STP 0 f t ((-2147483648 : Int32) ^^^ (-2147483648 : Int32)) (STP 3 f t ((-2147483648 : Int32) ^^^ (-2147483648 : Int32)) (STP 2 f t ((-2147483648 : Int32) ^^^ (-2147483648 : Int32)) (STP 1 f t ((-2147483648 : Int32) ^^^ (-2147483648 : Int32)) (STP 0 f t ((-2147483648 : Int32) ^^^ (-2147483648 : Int32)) [x0, x1, x2, x3, x4])))))))) h48 n0 sz A_a33 g_a33 (by first | rfl | (simp only [STP_len]; rfl)) (by omega) (by omega) (by decide)) eT (by decide) (by decide) (by decide) (by decide) (by rw [hml]; rfl) pd2 rfl rfl (Nat.le_of_ble_eq_true rfl) (hb hby at_225) (q := 228) rfl ?_
  intro v T Lc hQ X
  obtain ⟨h49, eT⟩ : ∃ z, T.heap = z := ⟨_, rfl⟩
  try rw [eT] at hQ
  obtain ⟨rfl, N', K', A_a33'⟩ := hQ
  have N := Fr.app N N'
  have A_a26 := A_a26.keep K' (ninS ne_a26_a33 nin0)
  have sz : n0 ≤ h49.size := Nat.le_trans sz K'.1
  have A_a33 := A_a33'
  refine s_aload X hx (hb hby at_228) rfl rfl (q := 230) rfl ?_
  refine s_iconst X hx (z := (0 : Int32)) (hb hby at_230) rfl (q := 231) rfl ?_
  refine s_iload X hx (hb hby at_231) rfl (q := 233) rfl ?_
  refine s_iload X hx (hb hby at_233) rfl (q := 235) rfl ?_
  refine s_iload X hx (hb hby at_235) rfl (q := 237) rfl ?_
  refine callC X hx hZ hown (W := 0) (argsL := [(.ref a33), (.int (0 : Int32)), (.int (Int32.ofNat f)), (.int (Int32.ofNat t)), (.int (1 : Int32))]) (rest := []) (hw _ (List.mem_of_getElem? (i := 6) rfl)) (hw _ (List.mem_of_getElem? (i := 7) rfl)) (hw _ (List.mem_of_getElem? (i := 8) rfl)) (hw _ (List.mem_of_getElem? (i := 9) rfl)) (by decide) (rm2_0 l Z a0 hw [] a33 (1 : Int32) f t ((-2147483648 : Int32) ^^^ (-2147483648 : Int32)) (STP 1 f t ((-2147483648 : Int32) ^^^ (-2147483648 : Int32)) (STP 0 f t ((-2147483648 : Int32) ^^^ (-2147483648 : Int32)) (STP 2 f t ((-2147483648 : Int32) ^^^ (-2147483648 : Int32)) (STP 1 f t ((-2147483648 : Int32) ^^^ (-2147483648 : Int32)) (STP 0 f t ((-2147483648 : Int32) ^^^ (-2147483648 : Int32)) (STP 3 f t ((-2147483648 : Int32) ^^^ (-2147483648 : Int32)) (STP 2 f t ((-2147483648 : Int32) ^^^ (-2147483648 : Int32)) (STP 1 f t ((-2147483648 : Int32) ^^^ (-2147483648 : Int32)) (STP 0 f t ((-2147483648 : Int32) ^^^ (-2147483648 : Int32)) [x0, x1, x2, x3, x4]))))))))) h49 n0 sz A_a33 g_a33 (by first | rfl | (simp only [STP_len]; rfl)) (by omega) (by omega) (by decide)) eT (by decide) (by decide) (by decide) (by decide) (by rw [hml]; rfl) pd2 rfl rfl (Nat.le_of_ble_eq_true rfl) (hb hby at_237) (q := 240) rfl ?_
  intro v T Lc hQ X
  obtain ⟨h50, eT⟩ : ∃ z, T.heap = z := ⟨_, rfl⟩
  try rw [eT] at hQ
  obtain ⟨rfl, N', K', A_a33'⟩ := hQ
  have N := Fr.app N N'
  have A_a26 := A_a26.keep K' (ninS ne_a26_a33 nin0)
  have sz : n0 ≤ h50.size := Nat.le_trans sz K'.1
  have A_a33 := A_a33'
  have A_a33 : AI Z h50 a33 .int (NET f t ((-2147483648 : Int32) ^^^ (-2147483648 : Int32)) [x0, x1, x2, x3, x4]) := A_a33
  refine s_aload X hx (hb hby at_240) rfl rfl (q := 242) rfl ?_
  refine s_iconst X hx (z := (0 : Int32)) (hb hby at_242) rfl (q := 243) rfl ?_
  refine s_iaload X hx hZ eT A_a26 (by decide) (i := 0) rfl (x := (((NET f t ((-2147483648 : Int32) ^^^ (-2147483648 : Int32)) [x0, x1, x2, x3, x4])).getD 0 0)) (own_get _ (by rw [NET_len]; exact Nat.le_of_ble_eq_true rfl)) (hb hby at_243) (q := 244) rfl ?_
  refine s_aload X hx (hb hby at_244) rfl rfl (q := 246) rfl ?_
  refine s_iconst X hx (z := (0 : Int32)) (hb hby at_246) rfl (q := 247) rfl ?_
  refine s_iaload X hx hZ eT A_a33 (by decide) (i := 0) rfl (x := (((NET f t ((-2147483648 : Int32) ^^^ (-2147483648 : Int32)) [x0, x1, x2, x3, x4])).getD 0 0)) (own_get _ (by rw [NET_len]; exact Nat.le_of_ble_eq_true rfl)) (hb hby at_247) (q := 248) rfl ?_
  refine f_icmp_ne X hx (hb hby at_248) (q1 := 299) (by decide) (by decide) (q := 251) rfl (fun hq => absurd (rfl : (((NET f t ((-2147483648 : Int32) ^^^ (-2147483648 : Int32)) [x0, x1, x2, x3, x4])).getD 0 0) = (((NET f t ((-2147483648 : Int32) ^^^ (-2147483648 : Int32)) [x0, x1, x2, x3, x4])).getD 0 0)) hq) (fun _ => ?_)
  refine s_aload X hx (hb hby at_251) rfl rfl (q := 253) rfl ?_
  refine s_iconst X hx (z := (1 : Int32)) (hb hby at_253) rfl (q := 254) rfl ?_
  refine s_iaload X hx hZ eT A_a26 (by decide) (i := 1) rfl (x := (((NET f t ((-2147483648 : Int32) ^^^ (-2147483648 : Int32)) [x0, x1, x2, x3, x4])).getD 1 0)) (own_get _ (by rw [NET_len]; exact Nat.le_of_ble_eq_true rfl)) (hb hby at_254) (q := 255) rfl ?_
  refine s_aload X hx (hb hby at_255) rfl rfl (q := 257) rfl ?_
  refine s_iconst X hx (z := (1 : Int32)) (hb hby at_257) rfl (q := 258) rfl ?_
  refine s_iaload X hx hZ eT A_a33 (by decide) (i := 1) rfl (x := (((NET f t ((-2147483648 : Int32) ^^^ (-2147483648 : Int32)) [x0, x1, x2, x3, x4])).getD 1 0)) (own_get _ (by rw [NET_len]; exact Nat.le_of_ble_eq_true rfl)) (hb hby at_258) (q := 259) rfl ?_
  refine f_icmp_ne X hx (hb hby at_259) (q1 := 299) (by decide) (by decide) (q := 262) rfl (fun hq => absurd (rfl : (((NET f t ((-2147483648 : Int32) ^^^ (-2147483648 : Int32)) [x0, x1, x2, x3, x4])).getD 1 0) = (((NET f t ((-2147483648 : Int32) ^^^ (-2147483648 : Int32)) [x0, x1, x2, x3, x4])).getD 1 0)) hq) (fun _ => ?_)
  refine s_aload X hx (hb hby at_262) rfl rfl (q := 264) rfl ?_
  refine s_iconst X hx (z := (2 : Int32)) (hb hby at_264) rfl (q := 265) rfl ?_
  refine s_iaload X hx hZ eT A_a26 (by decide) (i := 2) rfl (x := (((NET f t ((-2147483648 : Int32) ^^^ (-2147483648 : Int32)) [x0, x1, x2, x3, x4])).getD 2 0)) (own_get _ (by rw [NET_len]; exact Nat.le_of_ble_eq_true rfl)) (hb hby at_265) (q := 266) rfl ?_
  refine s_aload X hx (hb hby at_266) rfl rfl (q := 268) rfl ?_
  refine s_iconst X hx (z := (2 : Int32)) (hb hby at_268) rfl (q := 269) rfl ?_
  refine s_iaload X hx hZ eT A_a33 (by decide) (i := 2) rfl (x := (((NET f t ((-2147483648 : Int32) ^^^ (-2147483648 : Int32)) [x0, x1, x2, x3, x4])).getD 2 0)) (own_get _ (by rw [NET_len]; exact Nat.le_of_ble_eq_true rfl)) (hb hby at_269) (q := 270) rfl ?_
  refine f_icmp_ne X hx (hb hby at_270) (q1 := 299) (by decide) (by decide) (q := 273) rfl (fun hq => absurd (rfl : (((NET f t ((-2147483648 : Int32) ^^^ (-2147483648 : Int32)) [x0, x1, x2, x3, x4])).getD 2 0) = (((NET f t ((-2147483648 : Int32) ^^^ (-2147483648 : Int32)) [x0, x1, x2, x3, x4])).getD 2 0)) hq) (fun _ => ?_)
  refine s_aload X hx (hb hby at_273) rfl rfl (q := 275) rfl ?_
  refine s_iconst X hx (z := (3 : Int32)) (hb hby at_275) rfl (q := 276) rfl ?_
  refine s_iaload X hx hZ eT A_a26 (by decide) (i := 3) rfl (x := (((NET f t ((-2147483648 : Int32) ^^^ (-2147483648 : Int32)) [x0, x1, x2, x3, x4])).getD 3 0)) (own_get _ (by rw [NET_len]; exact Nat.le_of_ble_eq_true rfl)) (hb hby at_276) (q := 277) rfl ?_
  refine s_aload X hx (hb hby at_277) rfl rfl (q := 279) rfl ?_
  refine s_iconst X hx (z := (3 : Int32)) (hb hby at_279) rfl (q := 280) rfl ?_
  refine s_iaload X hx hZ eT A_a33 (by decide) (i := 3) rfl (x := (((NET f t ((-2147483648 : Int32) ^^^ (-2147483648 : Int32)) [x0, x1, x2, x3, x4])).getD 3 0)) (own_get _ (by rw [NET_len]; exact Nat.le_of_ble_eq_true rfl)) (hb hby at_280) (q := 281) rfl ?_
  refine f_icmp_ne X hx (hb hby at_281) (q1 := 299) (by decide) (by decide) (q := 284) rfl (fun hq => absurd (rfl : (((NET f t ((-2147483648 : Int32) ^^^ (-2147483648 : Int32)) [x0, x1, x2, x3, x4])).getD 3 0) = (((NET f t ((-2147483648 : Int32) ^^^ (-2147483648 : Int32)) [x0, x1, x2, x3, x4])).getD 3 0)) hq) (fun _ => ?_)
  refine s_aload X hx (hb hby at_284) rfl rfl (q := 286) rfl ?_
  refine s_iconst X hx (z := (4 : Int32)) (hb hby at_286) rfl (q := 287) rfl ?_
  refine s_iaload X hx hZ eT A_a26 (by decide) (i := 4) rfl (x := (((NET f t ((-2147483648 : Int32) ^^^ (-2147483648 : Int32)) [x0, x1, x2, x3, x4])).getD 4 0)) (own_get _ (by rw [NET_len]; exact Nat.le_of_ble_eq_true rfl)) (hb hby at_287) (q := 288) rfl ?_
  refine s_aload X hx (hb hby at_288) rfl rfl (q := 290) rfl ?_
  refine s_iconst X hx (z := (4 : Int32)) (hb hby at_290) rfl (q := 291) rfl ?_
  refine s_iaload X hx hZ eT A_a33 (by decide) (i := 4) rfl (x := (((NET f t ((-2147483648 : Int32) ^^^ (-2147483648 : Int32)) [x0, x1, x2, x3, x4])).getD 4 0)) (own_get _ (by rw [NET_len]; exact Nat.le_of_ble_eq_true rfl)) (hb hby at_291) (q := 292) rfl ?_
  refine f_icmp_ne X hx (hb hby at_292) (q1 := 299) (by decide) (by decide) (q := 295) rfl (fun hq => absurd (rfl : (((NET f t ((-2147483648 : Int32) ^^^ (-2147483648 : Int32)) [x0, x1, x2, x3, x4])).getD 4 0) = (((NET f t ((-2147483648 : Int32) ^^^ (-2147483648 : Int32)) [x0, x1, x2, x3, x4])).getD 4 0)) hq) (fun _ => ?_)
  refine s_iconst X hx (z := (1 : Int32)) (hb hby at_295) rfl (q := 296) rfl ?_
  refine s_goto X hx (hb hby at_296) (q1 := 300) (by decide) (by decide) ?_
  exact leafN X hx hlk hret (by simp) (hb hby at_300) (by decide) (by decide) (z' := 1) rfl ⟨rfl, N⟩
set_option maxRecDepth 65536 in
set_option maxHeartbeats 40000000 in
theorem comes_1 {Post : Tables → Env → Array Value → State → Outcome → State → Prop} (hpost : ∀ tb e args s v u, (limb_1_1.after args s (.returned v) u = true ∧ limb_1_2.after args s (.returned v) u = true ∧ True) → FrameEnd s (.returned v) u (Jvm.fieldLocs frame_1_writes args s ++ Jvm.arrayLocs frame_1_arrays args s ++ Jvm.staticLocs frame_1_statics s) 16 128 → Post tb e args s (.returned v) u) :
    ArmFor flags0 classFile x code maxLocals ret World_1 tables_1 room_1 Calls_1 rest_1 Pre_1 Post := by
  intro l hfl _ _ p e ha hc hk s m args below hf hA hF happ hP
  obtain ⟨hcalls, hrest, hpre⟩ := hP
  obtain ⟨-, -, -, hnamed, -, -, -, hat⟩ := (Spec.applies_iff hf).mp happ
  obtain ⟨hg, hn⟩ := and_e (Cond.before_iff.mp (show (Jvm.Cond.and given_1 narrow_1).before args s = true from hpre))
  obtain ⟨g1, g2⟩ := and_e hg
  obtain ⟨g3, g4⟩ := and_e g2
  obtain ⟨g5, g6⟩ := and_e g4
  obtain ⟨g7, g8⟩ := and_e g6
  obtain ⟨g9, g10⟩ := and_e g8
  obtain ⟨g11, g12⟩ := and_e g10
  obtain ⟨w0, w1, w2, w3, w4, w5, rfl⟩ : ∃ w0 w1 w2 w3 w4 w5 : Value, args = #[w0, w1, w2, w3, w4, w5] := by
    have hs : args.size = 6 := by simpa [Cond.value, given_1] using g1
    obtain ⟨L⟩ := args
    match L, hs with
    | [w0, w1, w2, w3, w4, w5], _ => exact ⟨w0, w1, w2, w3, w4, w5, rfl⟩
  have hw := fun d (hd : d ∈ tables_1) => atoms_spec (ws := Jvm.Cond.code x code maxLocals ret :: tables_1) hat d (List.mem_cons_of_mem _ hd)
  obtain ⟨i0, ei0⟩ := is_v g3
  obtain rfl : w0 = (.int i0) := Option.some.inj ei0
  obtain ⟨i1, ei1⟩ := is_v g5
  obtain rfl : w1 = (.int i1) := Option.some.inj ei1
  obtain ⟨i2, ei2⟩ := is_v g7
  obtain rfl : w2 = (.int i2) := Option.some.inj ei2
  obtain ⟨i3, ei3⟩ := is_v g9
  obtain rfl : w3 = (.int i3) := Option.some.inj ei3
  obtain ⟨i4, ei4⟩ := is_v g11
  obtain rfl : w4 = (.int i4) := Option.some.inj ei4
  obtain ⟨i5, ei5⟩ := is_v g12
  obtain rfl : w5 = (.int i5) := Option.some.inj ei5
  obtain ⟨n, o, h1, h2, h3, _, L, rfl, ⟨rfl, N⟩, hq⟩ := rm0 l s _ hw tables_1 i0 i1 i2 i3 i4 i5 s.heap s.heap.size (Nat.le_refl _) p e ha hc hk s m _ below hf ((Spec.applies_iff_loose hf).mp happ).1 ⟨rfl, State.Warmed39.refl s, rfl⟩ trivial
  refine ⟨n, _, h1, h2, h3, hpost _ _ _ _ _ _ ⟨Cond.after_iff.mpr rfl, Cond.after_iff.mpr (eq_i res_at (Term.int_eval (1)) rfl), trivial⟩ ⟨hq.1, hq.2.1, (hq.2.2.sift fun y hy => Or.inr (N y hy)).mono (by decide) (by decide)⟩⟩
theorem main_1_1 : Claimed_1_1 := comes_1 fun _ _ _ _ _ _ h hF => ⟨h.1, hF⟩
theorem main_1_2 : Claimed_1_2 := comes_1 fun _ _ _ _ _ _ h hF => ⟨h.2.1, hF⟩
end Jvm.Pilot.@@N@@
namespace Jvm.Pilot.@@N@@
open Jvm Jvm.ClassFile Sem Op Lib Jvm.Free Jvm.Stand Jvm.Pilot.@@N@@.Jvm.D
/-! MADE BY PROGRAM (witnessworld.py) out of the Statement's table words and the real class files: 9 classes; the members and pool entries that the words name. The judged class is class 1, her method 1. -/
namespace start1
open Jvm.ClassFile
def u (s : String) : CpInfo := .utf8 (stringToUtf16 s)
/-- a pool by its gaps: so many unusable entries, then the entry; so many at the end -/
def gap : Nat → List CpInfo → List CpInfo
  | 0, r => r
  | n + 1, r => .unusable :: gap n r
def poolList (es : List (Nat × CpInfo)) (last : Nat) : List CpInfo := es.foldr (fun e r => gap e.1 (e.2 :: r)) (gap last [])
def pool (es : List (Nat × CpInfo)) (last : Nat) : Array CpInfo := ⟨poolList es last⟩
def fileOf (pool : Array CpInfo) (this : Nat) (attrs : Array Attribute := #[]) (ms : Array MethodInfo := #[]) (fl : Nat := 33) (sup : Nat := 0) (ifs : Array Nat := #[]) (fds : Array FieldInfo := #[]) : ClassFile where
  minorVersion := 0
  majorVersion := 65
  constantPool := pool
  accessFlags := fl
  thisClass := this
  superClass := sup
  interfaces := ifs
  fields := fds
  methods := ms
  attributes := attrs
def plain (name : String) (sup : Option ClassId) : Class where
  name := name
  kind := .ordinary
  loader := none
  accessFlags := 33
  super := sup
  interfaces := #[]
  cf := none
  fields := #[]
  methods := #[]
  instanceTypes := #[]
  staticTypes := #[]
  resolved := #[]
  callSites := []
  init := .initialized
  statics := none
  mirror := none

def pool0 : Array CpInfo := pool [(5, u "<init>"), (0, u "()V"), (1, .class_ 10), (1, u "java/lang/Object")] 113

def k0m0 : Method := { name := "<init>", desc := "()V", sig := { parameters := [], returnType := none }, accessFlags := 1, code := none }
/-- java/lang/Object -/
def k0 : Class := { plain "java/lang/Object" none with
  accessFlags := 33
  interfaces := #[]
  cf := some (fileOf pool0 8 #[] #[{ accessFlags := 1, nameIndex := 5, descriptorIndex := 6, attributes := #[] }] 33 0 #[] #[])
  fields := #[]
  methods := #[k0m0]
  instanceTypes := #[]
  staticTypes := #[]
  resolved := Array.replicate 124 none
  statics := none }

def pool1 : Array CpInfo := pool [(2, .class_ 4), (1, u "java/lang/Object"), (0, u "<init>"), (0, u "()V"), (2, .integer 2147483648), (0, .methodref 11 12), (0, .class_ 13), (0, .nameAndType 14 15), (0, u "com/example/digitwise/digitwise/internal/IntRadixSort"), (0, u "insertionSort"), (0, u "([IIII)V"), (0, .methodref 17 18), (0, .class_ 19), (0, .nameAndType 20 21), (0, u "com/example/digitwise/digitwise/internal/IntRadixSortInsertionSortPinLaw"), (0, u "step"), (0, u "([IIIIZ)V"), (0, .methodref 17 23), (0, .nameAndType 24 25), (0, u "after"), (0, u "(IIZ)Z"), (0, .long 4294967295), (3, u "law"), (0, u "(IIIIII)Z")] 5

def k1m0 : Method := { name := "<init>", desc := "()V", sig := { parameters := [], returnType := none }, accessFlags := 1, code := none }
def k1c1 : Code := { maxStack := 5, maxLocals := 12, code := code, exceptionTable := #[], attributes := #[] }
def k1m1 : Method := { name := "law", desc := "(IIIIII)Z", sig := { parameters := [.int, .int, .int, .int, .int, .int], returnType := some .boolean }, accessFlags := 9, code := some k1c1 }
def k1c2 : Code := { maxStack := 5, maxLocals := 6, code := method_3_code, exceptionTable := #[], attributes := #[] }
def k1m2 : Method := { name := "step", desc := "([IIIIZ)V", sig := { parameters := [(.array .int), .int, .int, .int, .boolean], returnType := none }, accessFlags := 10, code := some k1c2 }
def k1c3 : Code := { maxStack := 6, maxLocals := 3, code := method_4_code, exceptionTable := #[], attributes := #[] }
def k1m3 : Method := { name := "after", desc := "(IIZ)Z", sig := { parameters := [.int, .int, .boolean], returnType := some .boolean }, accessFlags := 10, code := some k1c3 }
/-- com/example/digitwise/digitwise/internal/IntRadixSortInsertionSortPinLaw -/
def k1 : Class := { plain "com/example/digitwise/digitwise/internal/IntRadixSortInsertionSortPinLaw" (some 0) with
  accessFlags := 49
  interfaces := #[]
  cf := some (fileOf pool1 17 #[] #[{ accessFlags := 1, nameIndex := 5, descriptorIndex := 6, attributes := #[] }, { accessFlags := 9, nameIndex := 30, descriptorIndex := 31, attributes := #[] }, { accessFlags := 10, nameIndex := 20, descriptorIndex := 21, attributes := #[] }, { accessFlags := 10, nameIndex := 24, descriptorIndex := 25, attributes := #[] }] 49 2 #[] #[])
  fields := #[]
  methods := #[k1m0, k1m1, k1m2, k1m3]
  instanceTypes := #[]
  staticTypes := #[]
  resolved := Array.replicate 37 none
  statics := none }

def pool2 : Array CpInfo := pool [(3, .class_ 4), (0, u "com/example/digitwise/digitwise/internal/IntRadixSort"), (3, .class_ 10), (1, u "java/lang/Object"), (0, u "<init>"), (0, u "()V"), (19, u "SCRATCH_ARRAYS"), (0, u "Lcom/example/digitwise/digitwise/internal/ScratchCache;"), (10, u "SPLIT_BUFFERS"), (2, u "BUFFER_LENGTH"), (0, u "I"), (32, .integer 2147483648), (28, u "insertionSort"), (0, u "([IIII)V"), (188, .class_ 302), (1, u "com/example/digitwise/digitwise/internal/IntRadixSort$RangeSort"), (9, u "INSERTION_SORT_THRESHOLD"), (2, u "SHORT_RANGE_LIMIT"), (1, u "MAX_SHORT_DIGIT_BITS"), (1, u "SAMPLE_LENGTH"), (1, u "SPLIT_THRESHOLD"), (0, u "CHUNK_LENGTH"), (0, u "CROWDING"), (1, u "MAX_BUCKETS"), (1, u "SLOT_MARGIN"), (1, u "BUCKET_LIMIT"), (0, u "WIDE_BITS"), (1, u "WIDE_RADIX"), (0, u "WIDE_MASK"), (1, u "WIDE_BUCKET_THRESHOLD"), (1, u "HIGH_ONE"), (0, u "DIGITS"), (0, u "SIGNED"), (0, u "UNSIGNED")] 21

def k2m0 : Method := { name := "<init>", desc := "()V", sig := { parameters := [], returnType := none }, accessFlags := 2, code := none }
def k2c1 : Code := { maxStack := 4, maxLocals := 10, code := prog_7_method_52_code, exceptionTable := #[], attributes := #[] }
def k2m1 : Method := { name := "insertionSort", desc := "([IIII)V", sig := { parameters := [(.array .int), .int, .int, .int], returnType := none }, accessFlags := 8, code := some k2c1 }
/-- com/example/digitwise/digitwise/internal/IntRadixSort -/
def k2 : Class := { plain "com/example/digitwise/digitwise/internal/IntRadixSort" (some 0) with
  accessFlags := 48
  interfaces := #[]
  cf := some (fileOf pool2 3 #[.nestMembers #[300]] #[{ accessFlags := 2, nameIndex := 11, descriptorIndex := 12, attributes := #[] }, { accessFlags := 8, nameIndex := 110, descriptorIndex := 111, attributes := #[] }] 48 8 #[] #[{ accessFlags := 24, nameIndex := 312, descriptorIndex := 48, attributes := #[] }, { accessFlags := 26, nameIndex := 315, descriptorIndex := 48, attributes := #[] }, { accessFlags := 26, nameIndex := 317, descriptorIndex := 48, attributes := #[] }, { accessFlags := 26, nameIndex := 319, descriptorIndex := 48, attributes := #[] }, { accessFlags := 24, nameIndex := 321, descriptorIndex := 48, attributes := #[] }, { accessFlags := 26, nameIndex := 322, descriptorIndex := 48, attributes := #[] }, { accessFlags := 26, nameIndex := 323, descriptorIndex := 48, attributes := #[] }, { accessFlags := 26, nameIndex := 325, descriptorIndex := 48, attributes := #[] }, { accessFlags := 26, nameIndex := 327, descriptorIndex := 48, attributes := #[] }, { accessFlags := 26, nameIndex := 47, descriptorIndex := 48, attributes := #[] }, { accessFlags := 26, nameIndex := 329, descriptorIndex := 48, attributes := #[] }, { accessFlags := 26, nameIndex := 330, descriptorIndex := 48, attributes := #[] }, { accessFlags := 24, nameIndex := 332, descriptorIndex := 48, attributes := #[] }, { accessFlags := 26, nameIndex := 333, descriptorIndex := 48, attributes := #[] }, { accessFlags := 26, nameIndex := 335, descriptorIndex := 48, attributes := #[] }, { accessFlags := 26, nameIndex := 337, descriptorIndex := 48, attributes := #[] }, { accessFlags := 24, nameIndex := 338, descriptorIndex := 48, attributes := #[] }, { accessFlags := 24, nameIndex := 339, descriptorIndex := 48, attributes := #[] }, { accessFlags := 24, nameIndex := 340, descriptorIndex := 48, attributes := #[] }, { accessFlags := 26, nameIndex := 32, descriptorIndex := 33, attributes := #[] }, { accessFlags := 26, nameIndex := 44, descriptorIndex := 33, attributes := #[] }])
  fields := #[{ name := "INSERTION_SORT_THRESHOLD", type := .int, accessFlags := 24, slot := 0, constantValue := 0 }, { name := "SHORT_RANGE_LIMIT", type := .int, accessFlags := 26, slot := 1, constantValue := 0 }, { name := "MAX_SHORT_DIGIT_BITS", type := .int, accessFlags := 26, slot := 2, constantValue := 0 }, { name := "SAMPLE_LENGTH", type := .int, accessFlags := 26, slot := 3, constantValue := 0 }, { name := "SPLIT_THRESHOLD", type := .int, accessFlags := 24, slot := 4, constantValue := 0 }, { name := "CHUNK_LENGTH", type := .int, accessFlags := 26, slot := 5, constantValue := 0 }, { name := "CROWDING", type := .int, accessFlags := 26, slot := 6, constantValue := 0 }, { name := "MAX_BUCKETS", type := .int, accessFlags := 26, slot := 7, constantValue := 0 }, { name := "SLOT_MARGIN", type := .int, accessFlags := 26, slot := 8, constantValue := 0 }, { name := "BUFFER_LENGTH", type := .int, accessFlags := 26, slot := 9, constantValue := 0 }, { name := "BUCKET_LIMIT", type := .int, accessFlags := 26, slot := 10, constantValue := 0 }, { name := "WIDE_BITS", type := .int, accessFlags := 26, slot := 11, constantValue := 0 }, { name := "WIDE_RADIX", type := .int, accessFlags := 24, slot := 12, constantValue := 0 }, { name := "WIDE_MASK", type := .int, accessFlags := 26, slot := 13, constantValue := 0 }, { name := "WIDE_BUCKET_THRESHOLD", type := .int, accessFlags := 26, slot := 14, constantValue := 0 }, { name := "HIGH_ONE", type := .int, accessFlags := 26, slot := 15, constantValue := 0 }, { name := "DIGITS", type := .int, accessFlags := 24, slot := 16, constantValue := 0 }, { name := "SIGNED", type := .int, accessFlags := 24, slot := 17, constantValue := 0 }, { name := "UNSIGNED", type := .int, accessFlags := 24, slot := 18, constantValue := 0 }, { name := "SCRATCH_ARRAYS", type := (.object "com/example/digitwise/digitwise/internal/ScratchCache"), accessFlags := 26, slot := 19, constantValue := 0 }, { name := "SPLIT_BUFFERS", type := (.object "com/example/digitwise/digitwise/internal/ScratchCache"), accessFlags := 26, slot := 20, constantValue := 0 }]
  methods := #[k2m0, k2m1]
  instanceTypes := #[]
  staticTypes := #[.int, .int, .int, .int, .int, .int, .int, .int, .int, .int, .int, .int, .int, .int, .int, .int, .int, .int, .int, (.object "com/example/digitwise/digitwise/internal/ScratchCache"), (.object "com/example/digitwise/digitwise/internal/ScratchCache")]
  resolved := Array.replicate 362 none
  statics := none }

def pool3 : Array CpInfo := pool [(1, u "java/lang/Cloneable"), (0, .class_ 1), (0, u "java/lang/Object"), (0, .class_ 3)] 3

/-- java/lang/Cloneable -/
def k3 : Class := { plain "java/lang/Cloneable" (some 0) with
  accessFlags := 1537
  interfaces := #[]
  cf := some (fileOf pool3 2 #[] #[] 1537 4 #[] #[])
  fields := #[]
  methods := #[]
  instanceTypes := #[]
  staticTypes := #[]
  resolved := Array.replicate 8 none
  statics := none }

def pool4 : Array CpInfo := pool [(1, u "java/io/Serializable"), (0, .class_ 1), (0, u "java/lang/Object"), (0, .class_ 3)] 3

/-- java/io/Serializable -/
def k4 : Class := { plain "java/io/Serializable" (some 0) with
  accessFlags := 1537
  interfaces := #[]
  cf := some (fileOf pool4 2 #[] #[] 1537 4 #[] #[])
  fields := #[]
  methods := #[]
  instanceTypes := #[]
  staticTypes := #[]
  resolved := Array.replicate 8 none
  statics := none }

/-- the primitive byte -/
def k5 : Class := { plain "byte" none with kind := .primitive 'B', accessFlags := 0x411 }
/-- [B -/
def k6 : Class := { plain "[B" (some 0) with kind := .array 5 .byte, interfaces := #[3, 4], accessFlags := 1041 }

/-- the primitive int -/
def k7 : Class := { plain "int" none with kind := .primitive 'I', accessFlags := 0x411 }
/-- [I -/
def k8 : Class := { plain "[I" (some 0) with kind := .array 7 .int, interfaces := #[3, 4], accessFlags := 1041 }

def heap : Heap := #[]
def classes : Array Class := #[k0, k1, k2, k3, k4, k5, k6, k7, k8]
def interned : List (Array UInt16 × Addr) := []
def slotsUsed : Nat := 0
def theMethod : MethodId := ⟨1, 1⟩
def args0 : Array Value := #[.int 5, .int 7, .int 20, .int 3, .int 2, .int 80]
def aboutOver (below : List Frame) : State where
  vm := { classes := classes, interned := interned.toArray }
  heap := heap
  slotsUsed := slotsUsed
  threads := #[{ frames := .invoking theMethod args0 :: below }]
def below0 : List Frame := [.native { method := ⟨0, 0⟩, args := #[] }]
def about1 : State := aboutOver below0
def p0 : Program := .bare "" "" ""
def e0 : Env := launch0.env 0 0 0
theorem w_frames : about1.frames = Frame.invoking theMethod args0 :: below0 := rfl
set_option maxRecDepth 65536 in
theorem w_args : argsFit about1.vm theMethod args0 = true := by decide +kernel
set_option maxRecDepth 65536 in
theorem w_heap : heapFits about1 = true := by decide +kernel
set_option maxRecDepth 65536 in
theorem w_runnable : about1.curStatus? = some .runnable := by decide +kernel
set_option maxRecDepth 65536 in
theorem w_alone : about1.alone = true := by decide +kernel
set_option maxRecDepth 65536 in
theorem w_named : about1.methodNamed? x = some theMethod := by decide +kernel
set_option maxRecDepth 65536 in
theorem w_hears : about1.hears theMethod below0 = true := by decide +kernel
set_option maxRecDepth 65536 in
theorem w_ripe : about1.ripe theMethod args0 below0 = true := by decide +kernel
theorem w_running : about1.status = .running := rfl
set_option maxRecDepth 65536 in
theorem w_room : about1.hasRoom e0.platform room_1 = true :=
  launch0.hasRoom_least _ room_1 (by decide +kernel) (by decide +kernel) (by decide +kernel) (by decide +kernel) (by decide +kernel) (by decide +kernel)
theorem allAtoms_all (ts : List Jvm.Cond) (a : Array Jvm.Value) (st : Jvm.State) : (allAtoms ts).before a st = ts.all (fun c => c.before a st) := by
  induction ts with
  | nil => rfl
  | cons c t ih =>
    show (Jvm.Cond.and c (allAtoms t)).before a st = _
    rw [Jvm.Cond.before_and, ih, List.all_cons]
def words1 : List Jvm.Cond := Jvm.Cond.code x code maxLocals ret :: tables_1
/-- a 'code' word, met by the world's own term for the bytes: nothing is compared byte by byte -/
theorem code_word {y : MethodName} {bytes : ByteArray} {mx : Nat} {rt : Option FieldType} {a : Array Value} {s : State} {m : MethodId} {meth : Method} {c : Code} (h1 : s.methodNamed? y = some m) (h2 : s.vm.method? m = some meth) (h3 : meth.code = some c) (h4 : c.code = bytes)
    (h5 : (c.maxLocals == mx && c.exceptionTable.isEmpty && decide (c.maxStack ≤ mostOperands) && decide (meth.sig.returnType = rt) && !meth.locks && decide (parseMethodDescriptor y.desc = some meth.sig)) = true) : (Jvm.Cond.code y bytes mx rt).before a s = true := by
  simp only [Bool.and_eq_true, beq_iff_eq, Bool.not_eq_true', decide_eq_true_eq] at h5
  obtain ⟨⟨⟨⟨⟨g1, g2⟩, g3⟩, g4⟩, g5⟩, g6⟩ := h5
  simp [Cond.before, Cond.holds, Cond.value, h1, h2, h3, h4, g1, g2, g3, g4, g5, g6]
def isCode : Jvm.Cond → Bool
  | .code _ _ _ _ => true
  | _ => false
theorem all_split {L : List Jvm.Cond} {P : Jvm.Cond → Bool} (h1 : L.all (fun c => isCode c || P c) = true) (h2 : ∀ c ∈ L.filter isCode, P c = true) : L.all P = true := by
  refine List.all_eq_true.mpr fun c hc => ?_
  have h := List.all_eq_true.mp h1 c hc
  rcases Bool.eq_false_or_eq_true (isCode c) with hi | hi
  · exact h2 c (List.mem_filter.mpr ⟨hc, hi⟩)
  · simpa [hi] using h
set_option maxRecDepth 65536 in
theorem w_c0 : (Jvm.Cond.code x code maxLocals ret).before args0 about1 = true := code_word (m := ⟨1, 1⟩) (meth := k1m1) (c := k1c1) (by decide +kernel) rfl rfl rfl (by decide +kernel)
set_option maxRecDepth 65536 in
theorem w_c1 : (Jvm.Cond.code ({ cls := "com/example/digitwise/digitwise/internal/IntRadixSort", name := "insertionSort", desc := "([IIII)V" } : Jvm.MethodName) prog_7_method_52_code (10 : Nat) (Option.none : Option Jvm.ClassFile.FieldType)).before args0 about1 = true := code_word (m := ⟨2, 1⟩) (meth := k2m1) (c := k2c1) (by decide +kernel) rfl rfl rfl (by decide +kernel)
set_option maxRecDepth 65536 in
theorem w_c2 : (Jvm.Cond.code ({ cls := "com/example/digitwise/digitwise/internal/IntRadixSortInsertionSortPinLaw", name := "step", desc := "([IIIIZ)V" } : Jvm.MethodName) method_3_code (6 : Nat) (Option.none : Option Jvm.ClassFile.FieldType)).before args0 about1 = true := code_word (m := ⟨1, 2⟩) (meth := k1m2) (c := k1c2) (by decide +kernel) rfl rfl rfl (by decide +kernel)
set_option maxRecDepth 65536 in
theorem w_c3 : (Jvm.Cond.code ({ cls := "com/example/digitwise/digitwise/internal/IntRadixSortInsertionSortPinLaw", name := "after", desc := "(IIZ)Z" } : Jvm.MethodName) method_4_code (3 : Nat) (Option.some Jvm.ClassFile.FieldType.boolean)).before args0 about1 = true := code_word (m := ⟨1, 3⟩) (meth := k1m3) (c := k1c3) (by decide +kernel) rfl rfl rfl (by decide +kernel)
def codes1 : List Jvm.Cond := [Jvm.Cond.code x code maxLocals ret, Jvm.Cond.code ({ cls := "com/example/digitwise/digitwise/internal/IntRadixSort", name := "insertionSort", desc := "([IIII)V" } : Jvm.MethodName) prog_7_method_52_code (10 : Nat) (Option.none : Option Jvm.ClassFile.FieldType), Jvm.Cond.code ({ cls := "com/example/digitwise/digitwise/internal/IntRadixSortInsertionSortPinLaw", name := "step", desc := "([IIIIZ)V" } : Jvm.MethodName) method_3_code (6 : Nat) (Option.none : Option Jvm.ClassFile.FieldType), Jvm.Cond.code ({ cls := "com/example/digitwise/digitwise/internal/IntRadixSortInsertionSortPinLaw", name := "after", desc := "(IIZ)Z" } : Jvm.MethodName) method_4_code (3 : Nat) (Option.some Jvm.ClassFile.FieldType.boolean)]
set_option maxRecDepth 65536 in
theorem codes_eq : words1.filter isCode = codes1 := rfl
theorem w_codes : ∀ c ∈ words1.filter isCode, c.before args0 about1 = true := by
  rw [codes_eq]
  intro c hc
  simp only [codes1, List.mem_cons, List.not_mem_nil, or_false] at hc
  rcases hc with rfl | rfl | rfl | rfl
  · exact w_c0
  · exact w_c1
  · exact w_c2
  · exact w_c3
set_option maxRecDepth 65536 in
theorem w_t1 : words1.all (fun c => isCode c || c.before args0 about1) = true := by decide +kernel
theorem w_tables : (allAtoms (Jvm.Cond.code x code maxLocals ret :: tables_1)).before args0 about1 = true := by
  rw [allAtoms_all]
  show words1.all (fun c => c.before args0 about1) = true
  refine all_split ?_ w_codes
  rw [w_t1]
set_option maxRecDepth 65536 in
theorem w_case : (Jvm.Cond.and given_1 narrow_1).before args0 about1 = true := by decide +kernel
theorem w_applies : (headSpec (Jvm.Cond.code x code maxLocals ret :: tables_1) room_1).applies x e0.platform about1 = true :=
  (Spec.applies_iff w_frames).mpr ⟨w_running, w_runnable, w_alone, w_named, w_hears, w_ripe, w_room, w_tables⟩
theorem atStart : AtStart classFile x code maxLocals ret World_1 tables_1 room_1 Calls_1 rest_1 Pre_1 launch0 p0 e0 about1 theMethod args0 below0 :=
  ⟨lists_1, trivial, launch0.admits_env _ _ _, launch0.least_env, fairChoices_fair.cas, fairChoices_fair.clock, w_frames, w_args, w_heap, w_applies, trivial, trivial, w_case⟩
end start1
theorem witness_1 : WitnessClaimed_1 := ⟨start1.p0, start1.e0, start1.about1, start1.theMethod, start1.args0, start1.below0, start1.atStart⟩
end Jvm.Pilot.@@N@@
