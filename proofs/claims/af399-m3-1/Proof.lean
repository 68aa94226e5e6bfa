import JvmDerived
import JvmDerived.Pilot.@@N@@Statement
import JvmDerived.Pilot.@@N@@Code
set_option linter.unusedVariables false
set_option linter.unusedSimpArgs false
namespace Jvm.RoadKit
open Sem ClassFile Op Lib Jvm.Stand Jvm.Free Jvm.LawKit
section New
variable {p : Program} {l : Launch} {e : Env} {R : Room} {s : State} {m : MethodId} {args : Array Value} {below : List Frame} {meth : Method} {c : Code} {T : State} {locs : List Loc} {cells slots : Nat}
theorem retI (X : Stand p l e R s m args below meth c T locs cells slots) (hx : p.tables.exec = Jvm.exec) {pc : Nat} {Ls : Array Slot} {z : Int32} {rest : List Value} (hret : meth.sig.returnType = some .int) (hd : decode c.code pc = .ok (.ireturn, 1)) {fs : List Frame}
    (hl : ∀ (f : JFrame) (acts : List Action), f.method = m → f.locked = none → f.entered = [] → (doReturn e (T.setTop f) acts (some (.int z))).1 = T.setFrames fs) : Steps p.tables e below (T.setTop (mkF m pc Ls (.int z :: rest))) (T.setFrames fs) := by
  have hm' : T.vm.method? m = some meth := X.method'
  have hn : narrow .int (.int z) = .int z := rfl
  show Steps p.tables e below (T.setTop { method := m, pc := pc, locals := Ls, stack := _ :: rest, locked := none }) _
  jvm_step X.here [X.here.top, hx, hd, hm', hret, hn]
  first | (intro acts; rw [hl _ acts rfl rfl rfl]) | rw [hl _ _ rfl rfl rfl]
  exact Steps.refl _
end New
end Jvm.RoadKit
namespace Jvm.Pilot.@@N@@
open Jvm Jvm.ClassFile Sem Op Lib Jvm.Free Jvm.Stand Jvm.LawKit Jvm.RoadKit Bundle Jvm.Pilot.@@N@@.Jvm.D
section Kit
variable {p : Program} {l : Launch} {e : Env} {R : Room} {s : State} {m : MethodId} {args : Array Value} {below : List Frame} {meth : Method} {c : Code} {T : State} {locs : List Loc} {cells slots : Nat} {G : State → Prop} {L L' : Array Slot} {S : List Value} {pc q q1 : Nat}
/-- from this frame the run comes to a state of which G holds -/
def Go (p : Program) (e : Env) (below : List Frame) (G : State → Prop) (T : State) (m : MethodId) (pc : Nat) (L : Array Slot) (S : List Value) : Prop := ∃ t, Steps p.tables e below (T.setTop (mkF m pc L S)) t ∧ G t
theorem Go.st {T' : State} {m' : MethodId} {pc' : Nat} {S' : List Value} (h : ∀ t, Steps p.tables e below (T'.setTop (mkF m' pc' L' S')) t → Steps p.tables e below (T.setTop (mkF m pc L S)) t) (k : Go p e below G T' m' pc' L' S') : Go p e below G T m pc L S := by
  obtain ⟨t, h1, h2⟩ := k; exact ⟨t, h t h1, h2⟩
theorem jn {T2 : State} {pc2 : Nat} {L2 : Array Slot} {S2 : List Value} (k : Go p e below G T2 m pc2 L2 S2 → Go p e below G T m pc L S) (K : Go p e below G T2 m pc2 L2 S2) : Go p e below G T m pc L S := k K
/-- what a body that returns leaves -/
def Gl (s : State) (below : List Frame) (Q : Option Value → Heap → List Loc → Prop) (C N : Nat) (t : State) : Prop := ∃ o, t.status = .running ∧ Ended t below o ∧ ∃ v L, o = .returned v ∧ Q v t.heap L ∧ FrameEnd s o t L C N
/-- a contract -/
def Ctr (l : Launch) (y : MethodName) (code : ByteArray) (ml : Nat) (ret : Option FieldType) (ws : List Jvm.Cond) (rm : Room) (Z : State) (as' : Array Value) (h0 : Heap) (Q : Option Value → Heap → List Loc → Prop) (C N : Nat) : Prop :=
  MetFree l y (head1 (Jvm.Cond.code y code ml ret :: ws) rm) (fun a U => a = as' ∧ Z.Warmed39 U.vm ∧ U.heap = h0) (fun _ _ _ _ _ => True) (fun _ U o U' => ∃ v L, o = .returned v ∧ Q v U'.heap L ∧ FrameEnd U o U' L C N)
theorem Ctr.mk {y : MethodName} {code : ByteArray} {ml : Nat} {ret : Option FieldType} {ws : List Jvm.Cond} {rm : Room} {Z : State} {as' : Array Value} {h0 : Heap} {Q : Option Value → Heap → List Loc → Prop} {C N : Nat} (hp : plainFor y = true)
    (body : ∀ (p : Program) (e : Env) (s : State) (m : MethodId) (below : List Frame) (meth : Method) (c : Code) (T : State), p.tables.exec = Jvm.exec → c.code = code → c.maxLocals = ml → s.vm.findClass y.cls = some m.cls → meth.name = y.name → meth.locks = false → meth.sig.returnType = ret → Z.Warmed39 s.vm → Stand p l e rm s m as' below meth c T [] 0 0 → T.heap = h0 → ∃ t, Steps p.tables e below (T.setTop (entryFrame m as' ml)) t ∧ Gl s below Q C N t) : Ctr l y code ml ret ws rm Z as' h0 Q C N := by
  refine MetFree.of_bodySF hp hisR ?_
  intro p e s m args below meth c s₁ Bd hml0 hP hK
  obtain ⟨rfl, hZ, hh⟩ := hP
  obtain ⟨t, h1, o, h2, h3, h4⟩ := body p e s m below meth c s₁ Bd.exec Bd.bytes hml0 (findClass_of_methodNamed Bd.named) (name_of_methodNamed Bd.named Bd.method).1 Bd.notSynchronized Bd.returns hZ (Stand.of_body Bd) (by rw [← hh, Bd.state]; rfl)
  exact ⟨t, o, h1, h2, h3, h4⟩
theorem enter {as' : Array Value} {ml : Nat} (q : entryFrame m as' ml = mkF m 0 L []) (k : Go p e below G T m 0 L []) : ∃ t, Steps p.tables e below (T.setTop (entryFrame m as' ml)) t ∧ G t := by
  rw [q]; exact k
theorem s_iloadN (X : Stand p l e R s m args below meth c T locs cells slots) (hx : p.tables.exec = Jvm.exec) {k : Fin 4} {v : Int32} (hd : decode c.code pc = .ok (.iload_n k, 1)) (hl : L[k.val]? = some (.val (.int v))) (hq : pc + 1 = q) (K : Go p e below G T m q L (.int v :: S)) : Go p e below G T m pc L S := by
  subst hq; exact Go.st (fun t k => XS.iloadN X.here hx rfl hd hl k) K
theorem s_iload (X : Stand p l e R s m args below meth c T locs cells slots) (hx : p.tables.exec = Jvm.exec) {k : Nat} {v : Int32} (hd : decode c.code pc = .ok (.iload k, 2)) (hl : L[k]? = some (.val (.int v))) (hq : pc + 2 = q) (K : Go p e below G T m q L (.int v :: S)) : Go p e below G T m pc L S := by
  subst hq; exact Go.st (fun t k => XS.iload X.here hx rfl hd hl k) K
theorem s_lloadN (X : Stand p l e R s m args below meth c T locs cells slots) (hx : p.tables.exec = Jvm.exec) {k : Fin 4} {v : Int64} (hd : decode c.code pc = .ok (.lload_n k, 1)) (hl : L[k.val]? = some (.val (.long v))) (hq : pc + 1 = q) (K : Go p e below G T m q L (.long v :: S)) : Go p e below G T m pc L S := by
  subst hq; exact Go.st (fun t k => XS.lloadN X.here hx rfl hd hl k) K
theorem s_lload (X : Stand p l e R s m args below meth c T locs cells slots) (hx : p.tables.exec = Jvm.exec) {k : Nat} {v : Int64} (hd : decode c.code pc = .ok (.lload k, 2)) (hl : L[k]? = some (.val (.long v))) (hq : pc + 2 = q) (K : Go p e below G T m q L (.long v :: S)) : Go p e below G T m pc L S := by
  subst hq; exact Go.st (fun t k => XS.lload X.here hx rfl hd hl k) K
theorem s_aloadN (X : Stand p l e R s m args below meth c T locs cells slots) (hx : p.tables.exec = Jvm.exec) {k : Fin 4} {v : Value} (hd : decode c.code pc = .ok (.aload_n k, 1)) (hl : L[k.val]? = some (.val v)) (hv : v.isRef = true) (hq : pc + 1 = q) (K : Go p e below G T m q L (v :: S)) : Go p e below G T m pc L S := by
  subst hq; exact Go.st (fun t k => XS.aloadN X.here hx rfl hd hl hv k) K
theorem s_aload (X : Stand p l e R s m args below meth c T locs cells slots) (hx : p.tables.exec = Jvm.exec) {k : Nat} {v : Value} (hd : decode c.code pc = .ok (.aload k, 2)) (hl : L[k]? = some (.val v)) (hv : v.isRef = true) (hq : pc + 2 = q) (K : Go p e below G T m q L (v :: S)) : Go p e below G T m pc L S := by
  subst hq; exact Go.st (fun t k => XS.aload X.here hx rfl hd hl hv k) K
theorem s_istoreN (X : Stand p l e R s m args below meth c T locs cells slots) (hx : p.tables.exec = Jvm.exec) {k : Fin 4} {x : Int32} (hd : decode c.code pc = .ok (.istore_n k, 1)) (hl : storeLocals L k.val (.int x) = some L') (hq : pc + 1 = q) (K : Go p e below G T m q L' S) : Go p e below G T m pc L (.int x :: S) := by
  subst hq; exact Go.st (fun t k => XS.istoreN X.here hx rfl hd rfl hl k) K
theorem s_istore (X : Stand p l e R s m args below meth c T locs cells slots) (hx : p.tables.exec = Jvm.exec) {k : Nat} {x : Int32} (hd : decode c.code pc = .ok (.istore k, 2)) (hl : storeLocals L k (.int x) = some L') (hq : pc + 2 = q) (K : Go p e below G T m q L' S) : Go p e below G T m pc L (.int x :: S) := by
  subst hq; exact Go.st (fun t k => XS.istore X.here hx rfl hd rfl hl k) K
theorem s_lstoreN (X : Stand p l e R s m args below meth c T locs cells slots) (hx : p.tables.exec = Jvm.exec) {k : Fin 4} {x : Int64} (hd : decode c.code pc = .ok (.lstore_n k, 1)) (hl : storeLocals L k.val (.long x) = some L') (hq : pc + 1 = q) (K : Go p e below G T m q L' S) : Go p e below G T m pc L (.long x :: S) := by
  subst hq; exact Go.st (fun t k => XS.lstoreN X.here hx rfl hd rfl hl k) K
theorem s_lstore (X : Stand p l e R s m args below meth c T locs cells slots) (hx : p.tables.exec = Jvm.exec) {k : Nat} {x : Int64} (hd : decode c.code pc = .ok (.lstore k, 2)) (hl : storeLocals L k (.long x) = some L') (hq : pc + 2 = q) (K : Go p e below G T m q L' S) : Go p e below G T m pc L (.long x :: S) := by
  subst hq; exact Go.st (fun t k => XS.lstore X.here hx rfl hd rfl hl k) K
theorem s_astoreN (X : Stand p l e R s m args below meth c T locs cells slots) (hx : p.tables.exec = Jvm.exec) {k : Fin 4} {x : Value} (hd : decode c.code pc = .ok (.astore_n k, 1)) (hv : x.isRef = true) (hl : storeLocals L k.val x = some L') (hq : pc + 1 = q) (K : Go p e below G T m q L' S) : Go p e below G T m pc L (x :: S) := by
  subst hq; exact Go.st (fun t k => XS.astoreN X.here hx rfl hd rfl hv hl k) K
theorem s_astore (X : Stand p l e R s m args below meth c T locs cells slots) (hx : p.tables.exec = Jvm.exec) {k : Nat} {x : Value} (hd : decode c.code pc = .ok (.astore k, 2)) (hv : x.isRef = true) (hl : storeLocals L k x = some L') (hq : pc + 2 = q) (K : Go p e below G T m q L' S) : Go p e below G T m pc L (x :: S) := by
  subst hq; exact Go.st (fun t k => XS.astore X.here hx rfl hd rfl hv hl k) K
theorem s_iconst (X : Stand p l e R s m args below meth c T locs cells slots) (hx : p.tables.exec = Jvm.exec) {i : Int} {z : Int32} (hd : decode c.code pc = .ok (.iconst i, 1)) (hz : Int32.ofInt i = z) (hq : pc + 1 = q) (K : Go p e below G T m q L (.int z :: S)) : Go p e below G T m pc L S := by
  subst hq hz; exact Go.st (fun t k => XS.iconst X.here hx rfl hd k) K
theorem s_bipush (X : Stand p l e R s m args below meth c T locs cells slots) (hx : p.tables.exec = Jvm.exec) {i : Int} {z : Int32} (hd : decode c.code pc = .ok (.bipush i, 2)) (hz : (Int8.ofInt i).toInt32 = z) (hq : pc + 2 = q) (K : Go p e below G T m q L (.int z :: S)) : Go p e below G T m pc L S := by
  subst hq hz; exact Go.st (fun t k => XS.bipush X.here hx rfl hd k) K
theorem s_sipush (X : Stand p l e R s m args below meth c T locs cells slots) (hx : p.tables.exec = Jvm.exec) {i : Int} {z : Int32} (hd : decode c.code pc = .ok (.sipush i, 3)) (hz : (Int16.ofInt i).toInt32 = z) (hq : pc + 3 = q) (K : Go p e below G T m q L (.int z :: S)) : Go p e below G T m pc L S := by
  subst hq hz; exact Go.st (fun t k => XS.sipush X.here hx rfl hd k) K
theorem s_lconst (X : Stand p l e R s m args below meth c T locs cells slots) (hx : p.tables.exec = Jvm.exec) {i : Fin 2} {z : Int64} (hd : decode c.code pc = .ok (.lconst i, 1)) (hz : Int64.ofNat i.val = z) (hq : pc + 1 = q) (K : Go p e below G T m q L (.long z :: S)) : Go p e below G T m pc L S := by
  subst hq hz; exact Go.st (fun t k => XS.lconst X.here hx rfl hd k) K
theorem s_aconst_null (X : Stand p l e R s m args below meth c T locs cells slots) (hx : p.tables.exec = Jvm.exec)  (hd : decode c.code pc = .ok (.aconst_null, 1))  (hq : pc + 1 = q) (K : Go p e below G T m q L (.null :: S)) : Go p e below G T m pc L S := by
  subst hq; exact Go.st (fun t k => XS.aconstNull X.here hx rfl hd k) K
theorem s_iadd (X : Stand p l e R s m args below meth c T locs cells slots) (hx : p.tables.exec = Jvm.exec) {x y : Int32} (hd : decode c.code pc = .ok (.iadd, 1))  (hq : pc + 1 = q) (K : Go p e below G T m q L (.int (x + y) :: S)) : Go p e below G T m pc L (.int y :: .int x :: S) := by
  subst hq; exact Go.st (fun t k => XS.iadd X.here hx rfl hd rfl k) K
theorem s_isub (X : Stand p l e R s m args below meth c T locs cells slots) (hx : p.tables.exec = Jvm.exec) {x y : Int32} (hd : decode c.code pc = .ok (.isub, 1))  (hq : pc + 1 = q) (K : Go p e below G T m q L (.int (x - y) :: S)) : Go p e below G T m pc L (.int y :: .int x :: S) := by
  subst hq; exact Go.st (fun t k => XS.isub X.here hx rfl hd rfl k) K
theorem s_imul (X : Stand p l e R s m args below meth c T locs cells slots) (hx : p.tables.exec = Jvm.exec) {x y : Int32} (hd : decode c.code pc = .ok (.imul, 1))  (hq : pc + 1 = q) (K : Go p e below G T m q L (.int (x * y) :: S)) : Go p e below G T m pc L (.int y :: .int x :: S) := by
  subst hq; exact Go.st (fun t k => XS.imul X.here hx rfl hd rfl k) K
theorem s_iand (X : Stand p l e R s m args below meth c T locs cells slots) (hx : p.tables.exec = Jvm.exec) {x y : Int32} (hd : decode c.code pc = .ok (.iand, 1))  (hq : pc + 1 = q) (K : Go p e below G T m q L (.int (x &&& y) :: S)) : Go p e below G T m pc L (.int y :: .int x :: S) := by
  subst hq; exact Go.st (fun t k => XS.iand X.here hx rfl hd rfl k) K
theorem s_ior (X : Stand p l e R s m args below meth c T locs cells slots) (hx : p.tables.exec = Jvm.exec) {x y : Int32} (hd : decode c.code pc = .ok (.ior, 1))  (hq : pc + 1 = q) (K : Go p e below G T m q L (.int (x ||| y) :: S)) : Go p e below G T m pc L (.int y :: .int x :: S) := by
  subst hq; exact Go.st (fun t k => XS.ior X.here hx rfl hd rfl k) K
theorem s_ixor (X : Stand p l e R s m args below meth c T locs cells slots) (hx : p.tables.exec = Jvm.exec) {x y : Int32} (hd : decode c.code pc = .ok (.ixor, 1))  (hq : pc + 1 = q) (K : Go p e below G T m q L (.int (x ^^^ y) :: S)) : Go p e below G T m pc L (.int y :: .int x :: S) := by
  subst hq; exact Go.st (fun t k => XS.ixor X.here hx rfl hd rfl k) K
theorem s_ladd (X : Stand p l e R s m args below meth c T locs cells slots) (hx : p.tables.exec = Jvm.exec) {x y : Int64} (hd : decode c.code pc = .ok (.ladd, 1))  (hq : pc + 1 = q) (K : Go p e below G T m q L (.long (x + y) :: S)) : Go p e below G T m pc L (.long y :: .long x :: S) := by
  subst hq; exact Go.st (fun t k => XS.ladd X.here hx rfl hd rfl k) K
theorem s_lsub (X : Stand p l e R s m args below meth c T locs cells slots) (hx : p.tables.exec = Jvm.exec) {x y : Int64} (hd : decode c.code pc = .ok (.lsub, 1))  (hq : pc + 1 = q) (K : Go p e below G T m q L (.long (x - y) :: S)) : Go p e below G T m pc L (.long y :: .long x :: S) := by
  subst hq; exact Go.st (fun t k => XS.lsub X.here hx rfl hd rfl k) K
theorem s_lmul (X : Stand p l e R s m args below meth c T locs cells slots) (hx : p.tables.exec = Jvm.exec) {x y : Int64} (hd : decode c.code pc = .ok (.lmul, 1))  (hq : pc + 1 = q) (K : Go p e below G T m q L (.long (x * y) :: S)) : Go p e below G T m pc L (.long y :: .long x :: S) := by
  subst hq; exact Go.st (fun t k => XS.lmul X.here hx rfl hd rfl k) K
theorem s_land (X : Stand p l e R s m args below meth c T locs cells slots) (hx : p.tables.exec = Jvm.exec) {x y : Int64} (hd : decode c.code pc = .ok (.land, 1))  (hq : pc + 1 = q) (K : Go p e below G T m q L (.long (x &&& y) :: S)) : Go p e below G T m pc L (.long y :: .long x :: S) := by
  subst hq; exact Go.st (fun t k => XS.land X.here hx rfl hd rfl k) K
theorem s_lor (X : Stand p l e R s m args below meth c T locs cells slots) (hx : p.tables.exec = Jvm.exec) {x y : Int64} (hd : decode c.code pc = .ok (.lor, 1))  (hq : pc + 1 = q) (K : Go p e below G T m q L (.long (x ||| y) :: S)) : Go p e below G T m pc L (.long y :: .long x :: S) := by
  subst hq; exact Go.st (fun t k => XS.lor X.here hx rfl hd rfl k) K
theorem s_lxor (X : Stand p l e R s m args below meth c T locs cells slots) (hx : p.tables.exec = Jvm.exec) {x y : Int64} (hd : decode c.code pc = .ok (.lxor, 1))  (hq : pc + 1 = q) (K : Go p e below G T m q L (.long (x ^^^ y) :: S)) : Go p e below G T m pc L (.long y :: .long x :: S) := by
  subst hq; exact Go.st (fun t k => XS.lxor X.here hx rfl hd rfl k) K
theorem s_ishl (X : Stand p l e R s m args below meth c T locs cells slots) (hx : p.tables.exec = Jvm.exec) {x y : Int32} (hd : decode c.code pc = .ok (.ishl, 1))  (hq : pc + 1 = q) (K : Go p e below G T m q L (.int (x <<< (y &&& 31)) :: S)) : Go p e below G T m pc L (.int y :: .int x :: S) := by
  subst hq; exact Go.st (fun t k => XS.ishl X.here hx rfl hd rfl k) K
theorem s_ishr (X : Stand p l e R s m args below meth c T locs cells slots) (hx : p.tables.exec = Jvm.exec) {x y : Int32} (hd : decode c.code pc = .ok (.ishr, 1))  (hq : pc + 1 = q) (K : Go p e below G T m q L (.int (x >>> (y &&& 31)) :: S)) : Go p e below G T m pc L (.int y :: .int x :: S) := by
  subst hq; exact Go.st (fun t k => XS.ishr X.here hx rfl hd rfl k) K
theorem s_iushr (X : Stand p l e R s m args below meth c T locs cells slots) (hx : p.tables.exec = Jvm.exec) {x y : Int32} (hd : decode c.code pc = .ok (.iushr, 1))  (hq : pc + 1 = q) (K : Go p e below G T m q L (.int ((x.toUInt32 >>> (y &&& 31).toUInt32).toInt32) :: S)) : Go p e below G T m pc L (.int y :: .int x :: S) := by
  subst hq; exact Go.st (fun t k => XS.iushr X.here hx rfl hd rfl k) K
theorem s_lshl (X : Stand p l e R s m args below meth c T locs cells slots) (hx : p.tables.exec = Jvm.exec) {x : Int64} {y : Int32} (hd : decode c.code pc = .ok (.lshl, 1))  (hq : pc + 1 = q) (K : Go p e below G T m q L (.long (x <<< (y &&& 0x3f).toInt64) :: S)) : Go p e below G T m pc L (.int y :: .long x :: S) := by
  subst hq; exact Go.st (fun t k => XS.lshl X.here hx rfl hd rfl k) K
theorem s_lshr (X : Stand p l e R s m args below meth c T locs cells slots) (hx : p.tables.exec = Jvm.exec) {x : Int64} {y : Int32} (hd : decode c.code pc = .ok (.lshr, 1))  (hq : pc + 1 = q) (K : Go p e below G T m q L (.long (x >>> (y &&& 0x3f).toInt64) :: S)) : Go p e below G T m pc L (.int y :: .long x :: S) := by
  subst hq; exact Go.st (fun t k => XS.lshr X.here hx rfl hd rfl k) K
theorem s_lushr (X : Stand p l e R s m args below meth c T locs cells slots) (hx : p.tables.exec = Jvm.exec) {x : Int64} {y : Int32} (hd : decode c.code pc = .ok (.lushr, 1))  (hq : pc + 1 = q) (K : Go p e below G T m q L (.long ((x.toUInt64 >>> (y &&& 0x3f).toInt64.toUInt64).toInt64) :: S)) : Go p e below G T m pc L (.int y :: .long x :: S) := by
  subst hq; exact Go.st (fun t k => XS.lushr X.here hx rfl hd rfl k) K
theorem s_idiv (X : Stand p l e R s m args below meth c T locs cells slots) (hx : p.tables.exec = Jvm.exec) {x y : Int32} (hd : decode c.code pc = .ok (.idiv, 1)) (hy : y ≠ 0) (hq : pc + 1 = q) (K : Go p e below G T m q L (.int (x / y) :: S)) : Go p e below G T m pc L (.int y :: .int x :: S) := by
  subst hq; exact Go.st (fun t k => XS.idiv X.here hx rfl hd rfl hy k) K
theorem s_ldiv (X : Stand p l e R s m args below meth c T locs cells slots) (hx : p.tables.exec = Jvm.exec) {x y : Int64} (hd : decode c.code pc = .ok (.ldiv, 1)) (hy : y ≠ 0) (hq : pc + 1 = q) (K : Go p e below G T m q L (.long (x / y) :: S)) : Go p e below G T m pc L (.long y :: .long x :: S) := by
  subst hq; exact Go.st (fun t k => XS.ldiv X.here hx rfl hd rfl hy k) K
theorem s_ineg (X : Stand p l e R s m args below meth c T locs cells slots) (hx : p.tables.exec = Jvm.exec) {x : Int32} (hd : decode c.code pc = .ok (.ineg, 1))  (hq : pc + 1 = q) (K : Go p e below G T m q L (.int (-x) :: S)) : Go p e below G T m pc L (.int x :: S) := by
  subst hq; exact Go.st (fun t k => XS.ineg X.here hx rfl hd rfl k) K
theorem s_lneg (X : Stand p l e R s m args below meth c T locs cells slots) (hx : p.tables.exec = Jvm.exec) {x : Int64} (hd : decode c.code pc = .ok (.lneg, 1))  (hq : pc + 1 = q) (K : Go p e below G T m q L (.long (-x) :: S)) : Go p e below G T m pc L (.long x :: S) := by
  subst hq; exact Go.st (fun t k => XS.lneg X.here hx rfl hd rfl k) K
theorem s_i2l (X : Stand p l e R s m args below meth c T locs cells slots) (hx : p.tables.exec = Jvm.exec) {x : Int32} (hd : decode c.code pc = .ok (.i2l, 1))  (hq : pc + 1 = q) (K : Go p e below G T m q L (.long x.toInt64 :: S)) : Go p e below G T m pc L (.int x :: S) := by
  subst hq; exact Go.st (fun t k => XS.i2l X.here hx rfl hd rfl k) K
theorem s_l2i (X : Stand p l e R s m args below meth c T locs cells slots) (hx : p.tables.exec = Jvm.exec) {x : Int64} (hd : decode c.code pc = .ok (.l2i, 1))  (hq : pc + 1 = q) (K : Go p e below G T m q L (.int x.toInt32 :: S)) : Go p e below G T m pc L (.long x :: S) := by
  subst hq; exact Go.st (fun t k => XS.l2i X.here hx rfl hd rfl k) K
theorem s_i2b (X : Stand p l e R s m args below meth c T locs cells slots) (hx : p.tables.exec = Jvm.exec) {x : Int32} (hd : decode c.code pc = .ok (.i2b, 1))  (hq : pc + 1 = q) (K : Go p e below G T m q L (.int x.toInt8.toInt32 :: S)) : Go p e below G T m pc L (.int x :: S) := by
  subst hq; exact Go.st (fun t k => XS.i2b X.here hx rfl hd rfl k) K
theorem s_i2c (X : Stand p l e R s m args below meth c T locs cells slots) (hx : p.tables.exec = Jvm.exec) {x : Int32} (hd : decode c.code pc = .ok (.i2c, 1))  (hq : pc + 1 = q) (K : Go p e below G T m q L (.int x.toUInt32.toUInt16.toUInt32.toInt32 :: S)) : Go p e below G T m pc L (.int x :: S) := by
  subst hq; exact Go.st (fun t k => XS.i2c X.here hx rfl hd rfl k) K
theorem s_i2s (X : Stand p l e R s m args below meth c T locs cells slots) (hx : p.tables.exec = Jvm.exec) {x : Int32} (hd : decode c.code pc = .ok (.i2s, 1))  (hq : pc + 1 = q) (K : Go p e below G T m q L (.int x.toInt16.toInt32 :: S)) : Go p e below G T m pc L (.int x :: S) := by
  subst hq; exact Go.st (fun t k => XS.i2s X.here hx rfl hd rfl k) K
theorem s_lcmp (X : Stand p l e R s m args below meth c T locs cells slots) (hx : p.tables.exec = Jvm.exec) {x y : Int64} (hd : decode c.code pc = .ok (.lcmp, 1))  (hq : pc + 1 = q) (K : Go p e below G T m q L (.int (lcmpW x y) :: S)) : Go p e below G T m pc L (.long y :: .long x :: S) := by
  subst hq; exact Go.st (fun t k => XS.lcmp X.here hx rfl hd rfl k) K
theorem s_iinc (X : Stand p l e R s m args below meth c T locs cells slots) (hx : p.tables.exec = Jvm.exec) {k : Nat} {cst : Int} {x w : Int32} (hd : decode c.code pc = .ok (.iinc k cst, 3)) (hl : L[k]? = some (.val (.int x))) (hw : x + Int32.ofInt cst = w) (hl' : storeLocals L k (.int w) = some L') (hq : pc + 3 = q) (K : Go p e below G T m q L' S) : Go p e below G T m pc L S := by
  subst hq hw; exact Go.st (fun t k => XS.iinc X.here hx rfl hd hl hl' k) K
theorem s_dup (X : Stand p l e R s m args below meth c T locs cells slots) (hx : p.tables.exec = Jvm.exec) {x : Value} (hd : decode c.code pc = .ok (.dup, 1)) (hc : x.category = 1) (hq : pc + 1 = q) (K : Go p e below G T m q L (x :: x :: S)) : Go p e below G T m pc L (x :: S) := by
  subst hq; exact Go.st (fun t k => XS.dup X.here hx rfl hd rfl hc k) K
theorem s_dup_x1 (X : Stand p l e R s m args below meth c T locs cells slots) (hx : p.tables.exec = Jvm.exec) {x y : Value} (hd : decode c.code pc = .ok (.dup_x1, 1)) (hc : x.category = 1) (hc' : y.category = 1) (hq : pc + 1 = q) (K : Go p e below G T m q L (x :: y :: x :: S)) : Go p e below G T m pc L (x :: y :: S) := by
  subst hq; exact Go.st (fun t k => XS.dupX1 X.here hx rfl hd rfl hc hc' k) K
theorem s_dup2 (X : Stand p l e R s m args below meth c T locs cells slots) (hx : p.tables.exec = Jvm.exec) {x y : Value} (hd : decode c.code pc = .ok (.dup2, 1)) (hc : x.category = 1) (hc' : y.category = 1) (hq : pc + 1 = q) (K : Go p e below G T m q L (x :: y :: x :: y :: S)) : Go p e below G T m pc L (x :: y :: S) := by
  subst hq; exact Go.st (fun t k => Jvm.Free.XT.dup2 X.here hx rfl hd rfl hc hc' k) K
theorem s_dup2L (X : Stand p l e R s m args below meth c T locs cells slots) (hx : p.tables.exec = Jvm.exec) {x : Int64} (hd : decode c.code pc = .ok (.dup2, 1))  (hq : pc + 1 = q) (K : Go p e below G T m q L (.long x :: .long x :: S)) : Go p e below G T m pc L (.long x :: S) := by
  subst hq; exact Go.st (fun t k => Jvm.Free.XT.dup2L X.here hx rfl hd rfl k) K
theorem s_pop (X : Stand p l e R s m args below meth c T locs cells slots) (hx : p.tables.exec = Jvm.exec) {x : Value} (hd : decode c.code pc = .ok (.pop, 1)) (hc : x.category = 1) (hq : pc + 1 = q) (K : Go p e below G T m q L S) : Go p e below G T m pc L (x :: S) := by
  subst hq; exact Go.st (fun t k => XS.pop X.here hx rfl hd rfl hc k) K
theorem s_goto (X : Stand p l e R s m args below meth c T locs cells slots) (hx : p.tables.exec = Jvm.exec) {o : Int} (hd : decode c.code pc = .ok (.goto o, 3)) (ho : 0 ≤ (pc : Int) + o) (hp : ((pc : Int) + o).toNat = q1) (K : Go p e below G T m q1 L S) : Go p e below G T m pc L S := Go.st (fun t k => XS.goto X.here hx rfl rfl hd ho hp k) K
theorem f_icmp_lt (X : Stand p l e R s m args below meth c T locs cells slots) (hx : p.tables.exec = Jvm.exec) {x y : Int32} {o : Int} (hd : decode c.code pc = .ok (.if_icmp .lt o, 3)) (ho : 0 ≤ (pc : Int) + o) (hp : ((pc : Int) + o).toNat = q1) (hq : pc + 3 = q) (ky : x < y → Go p e below G T m q1 L S) (kn : ¬ x < y → Go p e below G T m q L S) : Go p e below G T m pc L (.int y :: .int x :: S) := by
  subst hq
  by_cases h : x < y
  · exact Go.st (fun t k => XS.icmpYes X.here hx rfl rfl hd rfl (tlt h).1 ho hp k) (ky h)
  · exact Go.st (fun t k => XS.icmpNo X.here hx rfl hd rfl (flt h).1 k) (kn h)
theorem f_if_lt (X : Stand p l e R s m args below meth c T locs cells slots) (hx : p.tables.exec = Jvm.exec) {x : Int32} {o : Int} (hd : decode c.code pc = .ok (.ifCond .lt o, 3)) (ho : 0 ≤ (pc : Int) + o) (hp : ((pc : Int) + o).toNat = q1) (hq : pc + 3 = q) (ky : x < 0 → Go p e below G T m q1 L S) (kn : ¬ x < 0 → Go p e below G T m q L S) : Go p e below G T m pc L (.int x :: S) := by
  subst hq
  by_cases h : x < 0
  · exact Go.st (fun t k => XS.ifYes X.here hx rfl rfl hd rfl ((if0 _ _).trans (tlt h).1) ho hp k) (ky h)
  · exact Go.st (fun t k => XS.ifNo X.here hx rfl hd rfl ((if0 _ _).trans (flt h).1) k) (kn h)
theorem f_lcmp_lt (X : Stand p l e R s m args below meth c T locs cells slots) (hx : p.tables.exec = Jvm.exec) {x y : Int64} {o : Int} (hd : decode c.code pc = .ok (.ifCond .lt o, 3)) (ho : 0 ≤ (pc : Int) + o) (hp : ((pc : Int) + o).toNat = q1) (hq : pc + 3 = q) (ky : x < y → Go p e below G T m q1 L S) (kn : ¬ x < y → Go p e below G T m q L S) : Go p e below G T m pc L (.int (lcmpW x y) :: S) :=
  f_if_lt X hx hd ho hp hq (fun h => ky ((lw_lt x y).mp h)) (fun h => kn (fun g => h ((lw_lt x y).mpr g)))
theorem f_icmp_ge (X : Stand p l e R s m args below meth c T locs cells slots) (hx : p.tables.exec = Jvm.exec) {x y : Int32} {o : Int} (hd : decode c.code pc = .ok (.if_icmp .ge o, 3)) (ho : 0 ≤ (pc : Int) + o) (hp : ((pc : Int) + o).toNat = q1) (hq : pc + 3 = q) (ky : ¬ x < y → Go p e below G T m q1 L S) (kn : x < y → Go p e below G T m q L S) : Go p e below G T m pc L (.int y :: .int x :: S) := by
  subst hq
  by_cases h : x < y
  · exact Go.st (fun t k => XS.icmpNo X.here hx rfl hd rfl (tlt h).2.1 k) (kn h)
  · exact Go.st (fun t k => XS.icmpYes X.here hx rfl rfl hd rfl (flt h).2.1 ho hp k) (ky h)
theorem f_if_ge (X : Stand p l e R s m args below meth c T locs cells slots) (hx : p.tables.exec = Jvm.exec) {x : Int32} {o : Int} (hd : decode c.code pc = .ok (.ifCond .ge o, 3)) (ho : 0 ≤ (pc : Int) + o) (hp : ((pc : Int) + o).toNat = q1) (hq : pc + 3 = q) (ky : ¬ x < 0 → Go p e below G T m q1 L S) (kn : x < 0 → Go p e below G T m q L S) : Go p e below G T m pc L (.int x :: S) := by
  subst hq
  by_cases h : x < 0
  · exact Go.st (fun t k => XS.ifNo X.here hx rfl hd rfl ((if0 _ _).trans (tlt h).2.1) k) (kn h)
  · exact Go.st (fun t k => XS.ifYes X.here hx rfl rfl hd rfl ((if0 _ _).trans (flt h).2.1) ho hp k) (ky h)
theorem f_lcmp_ge (X : Stand p l e R s m args below meth c T locs cells slots) (hx : p.tables.exec = Jvm.exec) {x y : Int64} {o : Int} (hd : decode c.code pc = .ok (.ifCond .ge o, 3)) (ho : 0 ≤ (pc : Int) + o) (hp : ((pc : Int) + o).toNat = q1) (hq : pc + 3 = q) (ky : ¬ x < y → Go p e below G T m q1 L S) (kn : x < y → Go p e below G T m q L S) : Go p e below G T m pc L (.int (lcmpW x y) :: S) :=
  f_if_ge X hx hd ho hp hq (fun h => ky (fun g => h ((lw_lt x y).mpr g))) (fun h => kn ((lw_lt x y).mp h))
theorem f_icmp_gt (X : Stand p l e R s m args below meth c T locs cells slots) (hx : p.tables.exec = Jvm.exec) {x y : Int32} {o : Int} (hd : decode c.code pc = .ok (.if_icmp .gt o, 3)) (ho : 0 ≤ (pc : Int) + o) (hp : ((pc : Int) + o).toNat = q1) (hq : pc + 3 = q) (ky : y < x → Go p e below G T m q1 L S) (kn : ¬ y < x → Go p e below G T m q L S) : Go p e below G T m pc L (.int y :: .int x :: S) := by
  subst hq
  by_cases h : y < x
  · exact Go.st (fun t k => XS.icmpYes X.here hx rfl rfl hd rfl (tlt h).2.2.1 ho hp k) (ky h)
  · exact Go.st (fun t k => XS.icmpNo X.here hx rfl hd rfl (flt h).2.2.1 k) (kn h)
theorem f_if_gt (X : Stand p l e R s m args below meth c T locs cells slots) (hx : p.tables.exec = Jvm.exec) {x : Int32} {o : Int} (hd : decode c.code pc = .ok (.ifCond .gt o, 3)) (ho : 0 ≤ (pc : Int) + o) (hp : ((pc : Int) + o).toNat = q1) (hq : pc + 3 = q) (ky : 0 < x → Go p e below G T m q1 L S) (kn : ¬ 0 < x → Go p e below G T m q L S) : Go p e below G T m pc L (.int x :: S) := by
  subst hq
  by_cases h : 0 < x
  · exact Go.st (fun t k => XS.ifYes X.here hx rfl rfl hd rfl ((if0 _ _).trans (tlt h).2.2.1) ho hp k) (ky h)
  · exact Go.st (fun t k => XS.ifNo X.here hx rfl hd rfl ((if0 _ _).trans (flt h).2.2.1) k) (kn h)
theorem f_lcmp_gt (X : Stand p l e R s m args below meth c T locs cells slots) (hx : p.tables.exec = Jvm.exec) {x y : Int64} {o : Int} (hd : decode c.code pc = .ok (.ifCond .gt o, 3)) (ho : 0 ≤ (pc : Int) + o) (hp : ((pc : Int) + o).toNat = q1) (hq : pc + 3 = q) (ky : y < x → Go p e below G T m q1 L S) (kn : ¬ y < x → Go p e below G T m q L S) : Go p e below G T m pc L (.int (lcmpW x y) :: S) :=
  f_if_gt X hx hd ho hp hq (fun h => ky ((lw_gt x y).mp h)) (fun h => kn (fun g => h ((lw_gt x y).mpr g)))
theorem f_icmp_le (X : Stand p l e R s m args below meth c T locs cells slots) (hx : p.tables.exec = Jvm.exec) {x y : Int32} {o : Int} (hd : decode c.code pc = .ok (.if_icmp .le o, 3)) (ho : 0 ≤ (pc : Int) + o) (hp : ((pc : Int) + o).toNat = q1) (hq : pc + 3 = q) (ky : ¬ y < x → Go p e below G T m q1 L S) (kn : y < x → Go p e below G T m q L S) : Go p e below G T m pc L (.int y :: .int x :: S) := by
  subst hq
  by_cases h : y < x
  · exact Go.st (fun t k => XS.icmpNo X.here hx rfl hd rfl (tlt h).2.2.2 k) (kn h)
  · exact Go.st (fun t k => XS.icmpYes X.here hx rfl rfl hd rfl (flt h).2.2.2 ho hp k) (ky h)
theorem f_if_le (X : Stand p l e R s m args below meth c T locs cells slots) (hx : p.tables.exec = Jvm.exec) {x : Int32} {o : Int} (hd : decode c.code pc = .ok (.ifCond .le o, 3)) (ho : 0 ≤ (pc : Int) + o) (hp : ((pc : Int) + o).toNat = q1) (hq : pc + 3 = q) (ky : ¬ 0 < x → Go p e below G T m q1 L S) (kn : 0 < x → Go p e below G T m q L S) : Go p e below G T m pc L (.int x :: S) := by
  subst hq
  by_cases h : 0 < x
  · exact Go.st (fun t k => XS.ifNo X.here hx rfl hd rfl ((if0 _ _).trans (tlt h).2.2.2) k) (kn h)
  · exact Go.st (fun t k => XS.ifYes X.here hx rfl rfl hd rfl ((if0 _ _).trans (flt h).2.2.2) ho hp k) (ky h)
theorem f_lcmp_le (X : Stand p l e R s m args below meth c T locs cells slots) (hx : p.tables.exec = Jvm.exec) {x y : Int64} {o : Int} (hd : decode c.code pc = .ok (.ifCond .le o, 3)) (ho : 0 ≤ (pc : Int) + o) (hp : ((pc : Int) + o).toNat = q1) (hq : pc + 3 = q) (ky : ¬ y < x → Go p e below G T m q1 L S) (kn : y < x → Go p e below G T m q L S) : Go p e below G T m pc L (.int (lcmpW x y) :: S) :=
  f_if_le X hx hd ho hp hq (fun h => ky (fun g => h ((lw_gt x y).mpr g))) (fun h => kn ((lw_gt x y).mp h))
theorem f_icmp_eq (X : Stand p l e R s m args below meth c T locs cells slots) (hx : p.tables.exec = Jvm.exec) {x y : Int32} {o : Int} (hd : decode c.code pc = .ok (.if_icmp .eq o, 3)) (ho : 0 ≤ (pc : Int) + o) (hp : ((pc : Int) + o).toNat = q1) (hq : pc + 3 = q) (ky : x = y → Go p e below G T m q1 L S) (kn : ¬ x = y → Go p e below G T m q L S) : Go p e below G T m pc L (.int y :: .int x :: S) := by
  subst hq
  by_cases h : x = y
  · exact Go.st (fun t k => XS.icmpYes X.here hx rfl rfl hd rfl (teq h).1 ho hp k) (ky h)
  · exact Go.st (fun t k => XS.icmpNo X.here hx rfl hd rfl (feq h).1 k) (kn h)
theorem f_if_eq (X : Stand p l e R s m args below meth c T locs cells slots) (hx : p.tables.exec = Jvm.exec) {x : Int32} {o : Int} (hd : decode c.code pc = .ok (.ifCond .eq o, 3)) (ho : 0 ≤ (pc : Int) + o) (hp : ((pc : Int) + o).toNat = q1) (hq : pc + 3 = q) (ky : x = 0 → Go p e below G T m q1 L S) (kn : ¬ x = 0 → Go p e below G T m q L S) : Go p e below G T m pc L (.int x :: S) := by
  subst hq
  by_cases h : x = 0
  · exact Go.st (fun t k => XS.ifYes X.here hx rfl rfl hd rfl ((if0 _ _).trans (teq h).1) ho hp k) (ky h)
  · exact Go.st (fun t k => XS.ifNo X.here hx rfl hd rfl ((if0 _ _).trans (feq h).1) k) (kn h)
theorem f_lcmp_eq (X : Stand p l e R s m args below meth c T locs cells slots) (hx : p.tables.exec = Jvm.exec) {x y : Int64} {o : Int} (hd : decode c.code pc = .ok (.ifCond .eq o, 3)) (ho : 0 ≤ (pc : Int) + o) (hp : ((pc : Int) + o).toNat = q1) (hq : pc + 3 = q) (ky : x = y → Go p e below G T m q1 L S) (kn : ¬ x = y → Go p e below G T m q L S) : Go p e below G T m pc L (.int (lcmpW x y) :: S) :=
  f_if_eq X hx hd ho hp hq (fun h => ky ((lw_eq x y).mp h)) (fun h => kn (fun g => h ((lw_eq x y).mpr g)))
theorem f_icmp_ne (X : Stand p l e R s m args below meth c T locs cells slots) (hx : p.tables.exec = Jvm.exec) {x y : Int32} {o : Int} (hd : decode c.code pc = .ok (.if_icmp .ne o, 3)) (ho : 0 ≤ (pc : Int) + o) (hp : ((pc : Int) + o).toNat = q1) (hq : pc + 3 = q) (ky : ¬ x = y → Go p e below G T m q1 L S) (kn : x = y → Go p e below G T m q L S) : Go p e below G T m pc L (.int y :: .int x :: S) := by
  subst hq
  by_cases h : x = y
  · exact Go.st (fun t k => XS.icmpNo X.here hx rfl hd rfl (teq h).2 k) (kn h)
  · exact Go.st (fun t k => XS.icmpYes X.here hx rfl rfl hd rfl (feq h).2 ho hp k) (ky h)
theorem f_if_ne (X : Stand p l e R s m args below meth c T locs cells slots) (hx : p.tables.exec = Jvm.exec) {x : Int32} {o : Int} (hd : decode c.code pc = .ok (.ifCond .ne o, 3)) (ho : 0 ≤ (pc : Int) + o) (hp : ((pc : Int) + o).toNat = q1) (hq : pc + 3 = q) (ky : ¬ x = 0 → Go p e below G T m q1 L S) (kn : x = 0 → Go p e below G T m q L S) : Go p e below G T m pc L (.int x :: S) := by
  subst hq
  by_cases h : x = 0
  · exact Go.st (fun t k => XS.ifNo X.here hx rfl hd rfl ((if0 _ _).trans (teq h).2) k) (kn h)
  · exact Go.st (fun t k => XS.ifYes X.here hx rfl rfl hd rfl ((if0 _ _).trans (feq h).2) ho hp k) (ky h)
theorem f_lcmp_ne (X : Stand p l e R s m args below meth c T locs cells slots) (hx : p.tables.exec = Jvm.exec) {x y : Int64} {o : Int} (hd : decode c.code pc = .ok (.ifCond .ne o, 3)) (ho : 0 ≤ (pc : Int) + o) (hp : ((pc : Int) + o).toNat = q1) (hq : pc + 3 = q) (ky : ¬ x = y → Go p e below G T m q1 L S) (kn : x = y → Go p e below G T m q L S) : Go p e below G T m pc L (.int (lcmpW x y) :: S) :=
  f_if_ne X hx hd ho hp hq (fun h => ky (fun g => h ((lw_eq x y).mpr g))) (fun h => kn ((lw_eq x y).mp h))
theorem s_ifnullYes (X : Stand p l e R s m args below meth c T locs cells slots) (hx : p.tables.exec = Jvm.exec) {o : Int} (hd : decode c.code pc = .ok (.ifnull o, 3)) (ho : 0 ≤ (pc : Int) + o) (hp : ((pc : Int) + o).toNat = q1) (K : Go p e below G T m q1 L S) : Go p e below G T m pc L (.null :: S) := Go.st (fun t k => XS.ifnullYes X.here hx rfl rfl hd rfl ho hp k) K
theorem s_ifnullNo (X : Stand p l e R s m args below meth c T locs cells slots) (hx : p.tables.exec = Jvm.exec) {o : Int} {b : Addr} (hd : decode c.code pc = .ok (.ifnull o, 3))  (hq : pc + 3 = q) (K : Go p e below G T m q L S) : Go p e below G T m pc L (.ref b :: S) := by
  subst hq; exact Go.st (fun t k => XS.ifnullNo X.here hx rfl hd rfl k) K
theorem s_ifnonnullYes (X : Stand p l e R s m args below meth c T locs cells slots) (hx : p.tables.exec = Jvm.exec) {o : Int} {b : Addr} (hd : decode c.code pc = .ok (.ifnonnull o, 3)) (ho : 0 ≤ (pc : Int) + o) (hp : ((pc : Int) + o).toNat = q1) (K : Go p e below G T m q1 L S) : Go p e below G T m pc L (.ref b :: S) := Go.st (fun t k => XS.ifnonnullYes X.here hx rfl rfl hd rfl ho hp k) K
theorem s_ifnonnullNo (X : Stand p l e R s m args below meth c T locs cells slots) (hx : p.tables.exec = Jvm.exec) {o : Int} (hd : decode c.code pc = .ok (.ifnonnull o, 3))  (hq : pc + 3 = q) (K : Go p e below G T m q L S) : Go p e below G T m pc L (.null :: S) := by
  subst hq; exact Go.st (fun t k => XS.ifnonnullNo X.here hx rfl hd rfl k) K
variable {Z : State} {a0 : Array Value} {h h' : Heap} {a b : Addr} {own C O n d : String} {v : Value} {n0 : Nat}
theorem s_ldc (X : Stand p l e R s m args below meth c T locs cells slots) (hx : p.tables.exec = Jvm.exec) (hZ : Z.Warmed39 s.vm) (hown : s.vm.findClass own = some m.cls) {index : Nat} {z : Int32} (w : (Jvm.Cond.constant own index z).before a0 Z = true) (hd : decode c.code pc = .ok (.ldc index, 2)) (hq : pc + 2 = q) (K : Go p e below G T m q L (.int z :: S)) : Go p e below G T m pc L S := by
  subst hq; exact Go.st (fun t k => X.ldcInt hx hown (mvT hZ w) (g := mkF m pc L S) rfl hd t k) K
theorem s_ldcw (X : Stand p l e R s m args below meth c T locs cells slots) (hx : p.tables.exec = Jvm.exec) (hZ : Z.Warmed39 s.vm) (hown : s.vm.findClass own = some m.cls) {index : Nat} {z : Int32} (w : (Jvm.Cond.constant own index z).before a0 Z = true) (hd : decode c.code pc = .ok (.ldc_w index, 3)) (hq : pc + 3 = q) (K : Go p e below G T m q L (.int z :: S)) : Go p e below G T m pc L S := by
  subst hq; exact Go.st (fun t k => X.ldcwInt hx hown (mvT hZ w) (g := mkF m pc L S) rfl hd t k) K
theorem s_ldc2 (X : Stand p l e R s m args below meth c T locs cells slots) (hx : p.tables.exec = Jvm.exec) (hZ : Z.Warmed39 s.vm) (hown : s.vm.findClass own = some m.cls) {index : Nat} {z : Int64} (w : (Jvm.Cond.constantLong own index z).before a0 Z = true) (hd : decode c.code pc = .ok (.ldc2_w index, 3)) (hq : pc + 3 = q) (K : Go p e below G T m q L (.long z :: S)) : Go p e below G T m pc L S := by
  subst hq; exact Go.st (fun t k => X.ldc2Long hx hown (mvT hZ w) (g := mkF m pc L S) rfl hd t k) K
theorem s_lrem (X : Stand p l e R s m args below meth c T locs cells slots) (hx : p.tables.exec = Jvm.exec) {x y : Int64} (hd : decode c.code pc = .ok (.lrem, 1)) (hy : y ≠ 0) (hq : pc + 1 = q) (K : Go p e below G T m q L (.long (x % y) :: S)) : Go p e below G T m pc L (.long y :: .long x :: S) := by
  subst hq; rw [← lrem_mod] at K; exact Go.st (fun t k => XS.lrem X.here hx rfl hd rfl hy k) K
theorem irem_mod (x y : Int32) : x - (x / y) * y = x % y := by
  apply Int32.toInt_inj.mp
  have h1 := Int32.le_toInt (x % y)
  have h2 := Int32.toInt_lt (x % y)
  rw [Int32.toInt_sub, Int32.toInt_mul, Int32.toInt_div, Int.bmod_mul_bmod, Int.sub_bmod_bmod, Int.mul_comm (x.toInt.tdiv y.toInt), ← Int.tmod_def, ← Int32.toInt_mod]
  exact Int.bmod_eq_of_le_mul_two (by omega) (by omega)
theorem s_irem (X : Stand p l e R s m args below meth c T locs cells slots) (hx : p.tables.exec = Jvm.exec) {x y : Int32} (hd : decode c.code pc = .ok (.irem, 1)) (hy : y ≠ 0) (hq : pc + 1 = q) (K : Go p e below G T m q L (.int (x % y) :: S)) : Go p e below G T m pc L (.int y :: .int x :: S) := by
  subst hq; rw [← irem_mod] at K; exact Go.st (fun t k => XS.irem X.here hx rfl hd rfl hy k) K
theorem leafI (X : Stand p l e R s m args below meth c T locs cells slots) (hx : p.tables.exec = Jvm.exec) {z : Int32} {Q : Option Value → Heap → List Loc → Prop} {C N : Nat} (hlk : meth.locks = false) (hret : meth.sig.returnType = some .int) (hd : decode c.code pc = .ok (.ireturn, 1)) (hc : cells ≤ C) (hn : slots ≤ N) (hQ : Q (some (.int z)) T.heap locs) : Go p e below (Gl s below Q C N) T m pc L (.int z :: S) := by
  obtain ⟨fs, hr, hrun, hended, hW, hsame⟩ := X.leave (v := some (.int z)) (fun h => by rw [hret] at h; cases h) hlk
  exact ⟨_, retI X hx hret hd hr, _, hrun, hended, _, _, rfl, hQ, ⟨_, rfl⟩, hW, hsame.mono hc hn⟩
theorem leafN (X : Stand p l e R s m args below meth c T locs cells slots) (hx : p.tables.exec = Jvm.exec) {t : FieldType} {z z' : Int32} {Q : Option Value → Heap → List Loc → Prop} {C N : Nat} (hlk : meth.locks = false) (hret : meth.sig.returnType = some t) (ht : t = .boolean ∨ t = .byte ∨ t = .char ∨ t = .short) (hd : decode c.code pc = .ok (.ireturn, 1)) (hc : cells ≤ C) (hn : slots ≤ N) (hz : nar t z = z') (hQ : Q (some (.int z')) T.heap locs) : Go p e below (Gl s below Q C N) T m pc L (.int z :: S) := by
  subst hz
  obtain ⟨fs, hr, hrun, hended, hW, hsame⟩ := X.leave (v := some (.int (nar t z))) (fun h => by rw [hret] at h; cases h) hlk
  exact ⟨_, retN X hx hret ht hd hr, _, hrun, hended, _, _, rfl, hQ, ⟨_, rfl⟩, hW, hsame.mono hc hn⟩
theorem leafJ (X : Stand p l e R s m args below meth c T locs cells slots) (hx : p.tables.exec = Jvm.exec) {z : Int64} {Q : Option Value → Heap → List Loc → Prop} {C N : Nat} (hlk : meth.locks = false) (hret : meth.sig.returnType = some .long) (hd : decode c.code pc = .ok (.lreturn, 1)) (hc : cells ≤ C) (hn : slots ≤ N) (hQ : Q (some (.long z)) T.heap locs) : Go p e below (Gl s below Q C N) T m pc L (.long z :: S) := by
  obtain ⟨fs, hr, hrun, hended, hW, hsame⟩ := X.leave (v := some (.long z)) (fun h => by rw [hret] at h; cases h) hlk
  refine ⟨_, ?_, _, hrun, hended, _, _, rfl, hQ, ⟨_, rfl⟩, hW, hsame.mono hc hn⟩
  show Steps p.tables e below (T.setTop { method := m, pc := pc, locals := L, stack := .long z :: S, locked := none }) _
  jvm_step X.here [X.here.top, hx, hd, X.method', hret, narrow]
  first | (intro acts; rw [hr _ acts rfl rfl rfl]) | rw [hr _ _ rfl rfl rfl]
  exact Steps.refl _
theorem leafA (X : Stand p l e R s m args below meth c T locs cells slots) (hx : p.tables.exec = Jvm.exec) {v : Value} {t : FieldType} {Q : Option Value → Heap → List Loc → Prop} {C N : Nat} (hlk : meth.locks = false) (hret : meth.sig.returnType = some t) (ht : t.isReference = true) (hv : v.isRef = true) (hd : decode c.code pc = .ok (.areturn, 1)) (hc : cells ≤ C) (hn : slots ≤ N) (hQ : Q (some v) T.heap locs) : Go p e below (Gl s below Q C N) T m pc L (v :: S) := by
  obtain ⟨fs, hr, hrun, hended, hW, hsame⟩ := X.leave (v := some v) (fun h => by rw [hret] at h; cases h) hlk
  refine ⟨_, ?_, _, hrun, hended, _, _, rfl, hQ, ⟨_, rfl⟩, hW, hsame.mono hc hn⟩
  show Steps p.tables e below (T.setTop { method := m, pc := pc, locals := L, stack := v :: S, locked := none }) _
  jvm_step X.here [X.here.top, hx, hd, X.method', hret, hv, ht]
  first | (intro acts; rw [hr _ acts rfl rfl rfl]) | rw [hr _ _ rfl rfl rfl]
  exact Steps.refl _
theorem leafV (X : Stand p l e R s m args below meth c T locs cells slots) (hx : p.tables.exec = Jvm.exec) {Q : Option Value → Heap → List Loc → Prop} {C N : Nat} (hlk : meth.locks = false) (hret : meth.sig.returnType = none) (hd : decode c.code pc = .ok (.return_, 1)) (hc : cells ≤ C) (hn : slots ≤ N) (hQ : Q none T.heap locs) : Go p e below (Gl s below Q C N) T m pc L [] := by
  obtain ⟨fs, hr, hrun, hended, hW, hsame⟩ := X.leave (v := none) (fun _ => rfl) hlk
  exact ⟨_, X.returnOut hx hret hd hr, _, hrun, hended, _, _, rfl, hQ, ⟨_, rfl⟩, hW, hsame.mono hc hn⟩
/-- a call by a contract -/
theorem callC (X : Stand p l e R s m args below meth c T locs cells slots) (hx : p.tables.exec = Jvm.exec) (hZ : Z.Warmed39 s.vm) (hown : s.vm.findClass own = some m.cls) {index : Nat} {y : MethodName} {bytes : ByteArray} {maxL : Nat} {ret : Option FieldType} {rm : Room} {Q : Option Value → Heap → List Loc → Prop} {W : Nat} {argsL rest : List Value}
    (w1 : (Jvm.Cond.methodLink own index y).before a0 Z = true) (w2 : (Jvm.Cond.static y).before a0 Z = true) (w3 : (Jvm.Cond.initialized y.cls).before a0 Z = true) (w4 : (Jvm.Cond.code y bytes maxL ret).before a0 Z = true) (hy : y.cls ≠ "java/lang/invoke/MethodHandle" ∧ y.cls ≠ "java/lang/invoke/VarHandle")
    (K : Ctr l y bytes maxL ret [] rm Z argsL.toArray h Q rm.cells rm.slots) (eT : T.heap = h) (hf : rm.frames + 1 ≤ R.frames) (hl : W + (maxL + 11) + rm.locals ≤ R.locals) (hc : cells + rm.cells ≤ R.cells) (hn : slots + rm.slots ≤ R.slots) (hsize : L.size = c.maxLocals)
    {ps : List FieldType} {r : Option FieldType} (hlen : parseMethodDescriptor y.desc = some ⟨ps, r⟩) (hl2 : argsL.length = ps.length) (hS : S = argsL.reverse ++ rest) (hW : (rest.map fun v => v.category).sum ≤ W) (hd : decode c.code pc = .ok (.invokestatic index, 3)) (hq : pc + 3 = q)
    (k : ∀ (v : Option Value) (T' : State) (Lc : List Loc), Q v T'.heap Lc → Stand p l e R s m args below meth c T' (locs ++ Lc) (cells + rm.cells) (slots + rm.slots) → Go p e below G T' m q L (v.toList ++ rest)) : Go p e below G T m pc L S := by
  subst hq hS
  obtain ⟨v, _, ⟨T', L', k', n'⟩, -, X', ⟨Lc, hQ, l1, y1, z1⟩, st⟩ := Jvm.LawKit.callS X hx (y := y) hown (mvT hZ w1) (mvT hZ w2) (mvT hZ w3) (mvT hZ w4) hy (backOf (W := W) K hZ w4 w3 hf hl) (g := mkF m pc L (argsL.reverse ++ rest)) rfl hsize (argsL := argsL) (rest := rest) (lenOf hlen hl2) rfl (by show 2 * 0 + _ ≤ _; omega) hd (fun _ _ => ⟨rfl, eT, hc, hn⟩)
  dsimp only [Pt.U, Pt.locs, Pt.cells, Pt.slots] at X' l1 y1 z1 st hQ
  subst l1 y1 z1
  exact Go.st st (k v T' Lc hQ X')
/-- what a pure body leaves -/
def PQ (w : Value) (h0 : Heap) (v : Option Value) (h : Heap) (L : List Loc) : Prop := v = some w ∧ h = h0 ∧ L = []
theorem callP (X : Stand p l e R s m args below meth c T locs cells slots) (hx : p.tables.exec = Jvm.exec) (hZ : Z.Warmed39 s.vm) (hown : s.vm.findClass own = some m.cls) {index : Nat} {y : MethodName} {bytes : ByteArray} {maxL : Nat} {ret : Option FieldType} {rm : Room} {w : Value} {W : Nat} {argsL rest : List Value}
    (w1 : (Jvm.Cond.methodLink own index y).before a0 Z = true) (w2 : (Jvm.Cond.static y).before a0 Z = true) (w3 : (Jvm.Cond.initialized y.cls).before a0 Z = true) (w4 : (Jvm.Cond.code y bytes maxL ret).before a0 Z = true) (hy : y.cls ≠ "java/lang/invoke/MethodHandle" ∧ y.cls ≠ "java/lang/invoke/VarHandle")
    (K : Ctr l y bytes maxL ret [] rm Z argsL.toArray h (PQ w h) 0 0) (hrc : rm.cells = 0) (hrs : rm.slots = 0) (eT : T.heap = h) (hf : rm.frames + 1 ≤ R.frames) (hl : W + (maxL + 11) + rm.locals ≤ R.locals) (hc : cells ≤ R.cells) (hn : slots ≤ R.slots) (hsize : L.size = c.maxLocals)
    {ps : List FieldType} {r : Option FieldType} (hlen : parseMethodDescriptor y.desc = some ⟨ps, r⟩) (hl2 : argsL.length = ps.length) (hS : S = argsL.reverse ++ rest) (hW : (rest.map fun v => v.category).sum ≤ W) (hd : decode c.code pc = .ok (.invokestatic index, 3)) (hq : pc + 3 = q)
    (k : ∀ (T' : State), Stand p l e R s m args below meth c T' locs cells slots → T'.heap = h → Go p e below G T' m q L (w :: rest)) : Go p e below G T m pc L S := by
  refine callC X hx hZ hown w1 w2 w3 w4 hy (rm := rm) (Q := PQ w h) (by rw [hrc, hrs]; exact K) eT hf hl (by rw [hrc]; exact hc) (by rw [hrs]; exact hn) hsize hlen hl2 hS hW hd hq ?_
  rintro v T' Lc ⟨rfl, e', rfl⟩ X'
  rw [List.append_nil, hrc, hrs] at X'
  exact k T' X' e'
theorem callV (X : Stand p l e R s m args below meth c T locs cells slots) (hx : p.tables.exec = Jvm.exec) (hZ : Z.Warmed39 s.vm) (hown : s.vm.findClass own = some m.cls) {index : Nat} {y : MethodName} {bytes : ByteArray} {maxL : Nat} {ret : Option FieldType} {rm : Room} {Q : Option Value → Heap → List Loc → Prop} {W : Nat} {argsL rest : List Value}
    (w1 : (Jvm.Cond.methodLink own index y).before a0 Z = true) (w2 : (Jvm.Cond.declares y).before a0 Z = true) (w3 : (Jvm.Cond.selects y.cls y y).before a0 Z = true) (w5 : (Jvm.Cond.instanceMethod y).before a0 Z = true) (w6 : (Jvm.Cond.initialized y.cls).before a0 Z = true) (w4 : (Jvm.Cond.code y bytes maxL ret).before a0 Z = true) (hy : y.cls ≠ "java/lang/invoke/MethodHandle" ∧ y.cls ≠ "java/lang/invoke/VarHandle")
    (A : Exa Z h a y.cls) (K : Ctr l y bytes maxL ret [] rm Z (.ref a :: argsL).toArray h Q rm.cells rm.slots) (eT : T.heap = h) (hf : rm.frames + 1 ≤ R.frames) (hl : W + (maxL + 11) + rm.locals ≤ R.locals) (hc : cells + rm.cells ≤ R.cells) (hn : slots + rm.slots ≤ R.slots) (hsize : L.size = c.maxLocals)
    {ps : List FieldType} {r : Option FieldType} (hlen : parseMethodDescriptor y.desc = some ⟨ps, r⟩) (hl2 : argsL.length = ps.length) (hS : S = argsL.reverse ++ .ref a :: rest) (hW : (rest.map fun v => v.category).sum ≤ W) (hd : decode c.code pc = .ok (.invokevirtual index, 3)) (hq : pc + 3 = q)
    (k : ∀ (v : Option Value) (T' : State) (Lc : List Loc), Q v T'.heap Lc → Stand p l e R s m args below meth c T' (locs ++ Lc) (cells + rm.cells) (slots + rm.slots) → Go p e below G T' m q L (v.toList ++ rest)) : Go p e below G T m pc L S := by
  subst hq hS
  obtain ⟨cq, kq, qa, qb, qc⟩ := isOf hZ eT A
  obtain ⟨v, _, ⟨T', L', k', n'⟩, -, X', ⟨Lc, hQ, l1, y1, z1⟩, st⟩ := X.virtualBack hx (y := y) (z := y) hown (mvT hZ w1) (mvT hZ w2) (notFace_of_selects (args := #[]) (mvT hZ w3)) (mvT hZ w3) (mvT hZ w5) hy (backOf (W := W) K hZ w4 w6 hf hl) qa qc (g := mkF m pc L (argsL.reverse ++ .ref a :: rest)) rfl hsize (Steps.refl _) (argsL := argsL) (rest := rest) (lenOf hlen hl2) rfl (by show 2 * 0 + _ ≤ _; omega) hd (fun _ _ => ⟨rfl, eT, hc, hn⟩)
  dsimp only [Pt.U, Pt.locs, Pt.cells, Pt.slots] at X' l1 y1 z1 st hQ
  subst l1 y1 z1
  exact Go.st (fun t h => st.trans h) (k v T' Lc hQ X')
theorem callI (X : Stand p l e R s m args below meth c T locs cells slots) (hx : p.tables.exec = Jvm.exec) (hZ : Z.Warmed39 s.vm) (hown : s.vm.findClass own = some m.cls) {index : Nat} {y : MethodName} {bytes : ByteArray} {maxL : Nat} {rm : Room} {Q : Option Value → Heap → List Loc → Prop} {W : Nat} {argsL rest : List Value} (hyn : y.name = "<init>")
    (w1 : (Jvm.Cond.methodLink own index y).before a0 Z = true) (w5 : (Jvm.Cond.instanceMethod y).before a0 Z = true) (w6 : (Jvm.Cond.initialized y.cls).before a0 Z = true) (w4 : (Jvm.Cond.code y bytes maxL none).before a0 Z = true) (hy : y.cls ≠ "java/lang/invoke/MethodHandle" ∧ y.cls ≠ "java/lang/invoke/VarHandle")
    (K : Ctr l y bytes maxL none [] rm Z (.ref a :: argsL).toArray h Q rm.cells rm.slots) (eT : T.heap = h) (hf : rm.frames + 1 ≤ R.frames) (hl : W + (maxL + 11) + rm.locals ≤ R.locals) (hc : cells + rm.cells ≤ R.cells) (hn : slots + rm.slots ≤ R.slots) (hsize : L.size = c.maxLocals)
    {ps : List FieldType} {r : Option FieldType} (hlen : parseMethodDescriptor y.desc = some ⟨ps, r⟩) (hl2 : argsL.length = ps.length) (hS : S = argsL.reverse ++ .ref a :: rest) (hW : (rest.map fun v => v.category).sum ≤ W) (hd : decode c.code pc = .ok (.invokespecial index, 3)) (hq : pc + 3 = q)
    (k : ∀ (v : Option Value) (T' : State) (Lc : List Loc), Q v T'.heap Lc → Stand p l e R s m args below meth c T' (locs ++ Lc) (cells + rm.cells) (slots + rm.slots) → Go p e below G T' m q L (v.toList ++ rest)) : Go p e below G T m pc L S := by
  subst hq hS
  obtain ⟨v, _, ⟨T', L', k', n'⟩, -, X', ⟨Lc, hQ, l1, y1, z1⟩, st⟩ := X.specialBack hx (y := y) hyn hown (mvT hZ w1) (mvT hZ w5) (mvT hZ w4) hy (backOf (W := W) K hZ w4 w6 hf hl) (g := mkF m pc L (argsL.reverse ++ .ref a :: rest)) rfl hsize (Steps.refl _) (a := a) (argsL := argsL) (rest := rest) (lenOf hlen hl2) rfl (by show 2 * 0 + _ ≤ _; omega) hd (fun _ _ => ⟨rfl, eT, hc, hn⟩)
  dsimp only [Pt.U, Pt.locs, Pt.cells, Pt.slots] at X' l1 y1 z1 st hQ
  subst l1 y1 z1
  exact Go.st (fun t h => st.trans h) (k v T' Lc hQ X')
theorem s_initO (X : Stand p l e R s m args below meth c T locs cells slots) (hx : p.tables.exec = Jvm.exec) (hZ : Z.Warmed39 s.vm) (hown : s.vm.findClass own = some m.cls) {index : Nat} {W : Nat} (w1 : (Jvm.Cond.methodLink own index Lib.objectInit).before a0 Z = true) (w2 : (Jvm.Cond.instanceMethod Lib.objectInit).before a0 Z = true)
    (w3 : (Jvm.Cond.code Lib.objectInit ⟨#[0xb1]⟩ 1 none).before a0 Z = true) (eT : T.heap = h) (hsize : L.size = c.maxLocals) (hf : 1 ≤ R.frames) (hW : (S.map fun v => v.category).sum ≤ W) (hl : W + 12 ≤ R.locals) (hd : decode c.code pc = .ok (.invokespecial index, 3)) (hq : pc + 3 = q)
    (k : ∀ T', Stand p l e R s m args below meth c T' locs cells slots → T'.heap = h → Go p e below G T' m q L S) : Go p e below G T m pc L (.ref a :: S) := by
  subst hq
  obtain ⟨T', X', e', st⟩ := initO X hx hZ hown w1 w2 w3 eT (g := mkF m pc L (.ref a :: S)) rfl hsize rfl hd hf (W := W) (by show 2 * 0 + _ ≤ _; omega) hl
  exact Go.st st (k T' X' e')
theorem s_getF (X : Stand p l e R s m args below meth c T locs cells slots) (hx : p.tables.exec = Jvm.exec) (hZ : Z.Warmed39 s.vm) (hown : s.vm.findClass own = some m.cls) {index : Nat} (w : (Jvm.Cond.fieldLink own index O n d).before a0 Z = true) (eT : T.heap = h) (F : Fld Z h a O n d v) (hd : decode c.code pc = .ok (.getfield index, 3)) (hq : pc + 3 = q)
    (k : ∀ T', Stand p l e R s m args below meth c T' locs cells slots → T'.heap = h → Go p e below G T' m q L (v :: S)) : Go p e below G T m pc L (.ref a :: S) := by
  subst hq
  obtain ⟨T', X', e', st⟩ := getF X hx hZ hown (host := "") (Or.inl w) Via.refl eT F (g := mkF m pc L (.ref a :: S)) rfl rfl hd
  exact Go.st st (k T' X' e')
theorem s_putF (X : Stand p l e R s m args below meth c T locs cells slots) (hx : p.tables.exec = Jvm.exec) (hZ : Z.Warmed39 s.vm) (hown : s.vm.findClass own = some m.cls) {index kk : Nat} {ty : FieldType} {v old : Value} (w : (Jvm.Cond.fieldLink own index O n d).before a0 Z = true) (eT : T.heap = h) (F : Fld Z h a O n d old) (E : Exa Z h a C)
    (Ly : (Jvm.Cond.lays C O n d).before a0 Z = true ∨ ((Jvm.Cond.laysFinal C O n d).before a0 Z = true ∧ own = O ∧ meth.name = "<init>")) (wi : (Jvm.Cond.instantiable C kk).before a0 Z = true) (hty : parseFieldDescriptor d = some ty) (hn : narrow ty v = v) (hfit : fits ty v = true) (N : Fr n0 locs) (hg : n0 ≤ a) (hd : decode c.code pc = .ok (.putfield index, 3)) (hq : pc + 3 = q)
    (k : ∀ (T' : State) (h' : Heap) (locs' : List Loc), Stand p l e R s m args below meth c T' locs' cells slots → Fr n0 locs' → T'.heap = h' → Wr h h' a (Jvm.RoadKit.slotOf Z O n d) v → Fld Z h' a O n d v → Go p e below G T' m q L S) : Go p e below G T m pc L (v :: .ref a :: S) := by
  subst hq
  obtain ⟨T', h', X', e', W, st⟩ := putF X hx hZ hown (host := "") (Or.inl w) Via.refl eT F E Ly wi hty hn hfit (g := mkF m pc L (v :: .ref a :: S)) rfl rfl hd
  exact Go.st st (k T' h' _ X' (Fr.snoc X' N hg) e' W (F.same W))
theorem s_new (X : Stand p l e R s m args below meth c T locs cells slots) (hx : p.tables.exec = Jvm.exec) (hZ : Z.Warmed39 s.vm) (hown : s.vm.findClass own = some m.cls) {index kk : Nat} (w : (Jvm.Cond.classLink own index C).before a0 Z = true) (wi : (Jvm.Cond.instantiable C kk).before a0 Z = true) (wz : (Jvm.Cond.initialized C).before a0 Z = true) (eT : T.heap = h)
    (hc : cells + 1 ≤ R.cells) (hl : slots + kk ≤ R.slots) (hd : decode c.code pc = .ok (.new index, 3)) (hq : pc + 3 = q)
    (k : ∀ (T' : State) (h' : Heap) (a : Addr), Stand p l e R s m args below meth c T' locs (cells + 1) (slots + kk) → T'.heap = h' → Ext h h' → a = h.size → Exa Z h' a C → (∀ (O nm d : String) (ty : FieldType), Laid Z a0 C O nm d → parseFieldDescriptor d = some ty → Fld Z h' a O nm d (defaultValue ty)) → Go p e below G T' m q L (.ref a :: S)) : Go p e below G T m pc L S := by
  subst hq
  obtain ⟨T', h', X', e', E, A, D, -, st⟩ := newO X hx hZ hown w wi wz eT (g := mkF m pc L S) rfl hd hc hl
  exact Go.st st (k T' h' _ X' e' E rfl A (fun _ _ _ _ L1 q1 => D L1 q1))
/-- an array of ints (bytes, chars ..) by its list -/
def AI (Z : State) (h : Heap) (a : Addr) (ty : FieldType) (xs : List Int32) : Prop := ∃ cl : Cell, Arr Z h a cl ty ∧ cl.slots.toList = xs.map Value.int ∧ xs.length < 2147483648
def AJ (Z : State) (h : Heap) (a : Addr) (xs : List Int64) : Prop := ∃ cl : Cell, Arr Z h a cl .long ∧ cl.slots.toList = xs.map Value.long ∧ xs.length < 2147483648
variable {ty : FieldType} {xs ys : List Int32} {us vs : List Int64} {w : Value} {sl : Nat} {ws : List Addr}
theorem AI.lt (A : AI Z h a ty xs) : a < h.size := by obtain ⟨c, A, -⟩ := A; exact A.lt
theorem AJ.lt (A : AJ Z h a us) : a < h.size := by obtain ⟨c, A, -⟩ := A; exact A.lt
theorem AI.ext (A : AI Z h a ty xs) (E : Ext h h') : AI Z h' a ty xs := by obtain ⟨c, A, r⟩ := A; exact ⟨c, A.ext E, r⟩
theorem AJ.ext (A : AJ Z h a us) (E : Ext h h') : AJ Z h' a us := by obtain ⟨c, A, r⟩ := A; exact ⟨c, A.ext E, r⟩
theorem AI.other (A : AI Z h a ty xs) (W : Wr h h' b sl w) (q : a ≠ b) : AI Z h' a ty xs := by obtain ⟨c, A, r⟩ := A; exact ⟨c, A.other W q, r⟩
theorem AJ.other (A : AJ Z h a us) (W : Wr h h' b sl w) (q : a ≠ b) : AJ Z h' a us := by obtain ⟨c, A, r⟩ := A; exact ⟨c, A.other W q, r⟩
theorem AI.keep (A : AI Z h a ty xs) (K : Keep h h' ws) (q : a ∉ ws) : AI Z h' a ty xs := by obtain ⟨c, A, r⟩ := A; exact ⟨c, ⟨K.2.1 a c A.1 q, A.2⟩, r⟩
theorem AJ.keep (A : AJ Z h a us) (K : Keep h h' ws) (q : a ∉ ws) : AJ Z h' a us := by obtain ⟨c, A, r⟩ := A; exact ⟨c, ⟨K.2.1 a c A.1 q, A.2⟩, r⟩
theorem set_list (cl : Cell) (i : Nat) (v : Value) : (cl.setSlot i v).slots.toList = cl.slots.toList.set i v := by
  show (cl.slots.setIfInBounds i v).toList = _
  exact Array.toList_setIfInBounds ..
theorem AI.same (A : AI Z h a ty xs) {i : Nat} {x : Int32} (W : Wr h h' a i (.int x)) : AI Z h' a ty (xs.set i x) := by
  obtain ⟨c, A, e, n⟩ := A
  exact ⟨_, A.same W, by rw [set_list, e, List.map_set], by rw [List.length_set]; exact n⟩
theorem AJ.same (A : AJ Z h a us) {i : Nat} {x : Int64} (W : Wr h h' a i (.long x)) : AJ Z h' a (us.set i x) := by
  obtain ⟨c, A, e, n⟩ := A
  exact ⟨_, A.same W, by rw [set_list, e, List.map_set], by rw [List.length_set]; exact n⟩
theorem own_size {cl : Cell} {α : Type} {zs : List α} {f : α → Value} (e : cl.slots.toList = zs.map f) : cl.slots.size = zs.length := by
  rw [← Array.length_toList, e, List.length_map]
theorem own_at {cl : Cell} {α : Type} {zs : List α} {f : α → Value} (e : cl.slots.toList = zs.map f) {i : Nat} {x : α} (q : zs[i]? = some x) : cl.slots[i]? = some (f x) := by
  rw [← Array.getElem?_toList, e, List.getElem?_map, q]; rfl
theorem own_in {cl : Cell} {α : Type} {zs : List α} {f : α → Value} (e : cl.slots.toList = zs.map f) {j : Int32} (hj : ¬ j < 0) (q : j.toNatClampNeg < zs.length) : ¬ (j < 0 ∨ cl.slots.size ≤ j.toNatClampNeg) := by
  rw [own_size e]; intro h; rcases h with h | h
  · exact hj h
  · omega
theorem own_inl {α : Type} {zs : List α} {i : Nat} {x : α} (q : zs[i]? = some x) : i < zs.length := (List.getElem?_eq_some_iff.mp q).1
theorem s_iaload (X : Stand p l e R s m args below meth c T locs cells slots) (hx : p.tables.exec = Jvm.exec) (hZ : Z.Warmed39 s.vm) (eT : T.heap = h) {j : Int32} {x : Int32} (A : AI Z h a .int xs) (hj : ¬ j < 0) {i : Nat} (hji : j.toNatClampNeg = i) (hv : xs[i]? = some x) (hd : decode c.code pc = .ok (.iaload, 1)) (hq : pc + 1 = q) (K : Go p e below G T m q L (.int x :: S)) : Go p e below G T m pc L (.int j :: .ref a :: S) := by
  subst hq hji; obtain ⟨cl, Ar, ex, -⟩ := A
  exact Go.st (fun t k => X.iaload hx (j := j) (v := .int x) (by rw [eT]; exact Ar.1) (State.isArrayOf_alike hZ.alike Ar.2.1) Ar.2.2 (own_in ex hj (own_inl hv)) (own_at ex hv) (g := mkF m pc L (.int j :: .ref a :: S)) rfl rfl hd t k) K
theorem s_caload (X : Stand p l e R s m args below meth c T locs cells slots) (hx : p.tables.exec = Jvm.exec) (hZ : Z.Warmed39 s.vm) (eT : T.heap = h) {j : Int32} {x : Int32} (A : AI Z h a .char xs) (hj : ¬ j < 0) {i : Nat} (hji : j.toNatClampNeg = i) (hv : xs[i]? = some x) (hd : decode c.code pc = .ok (.caload, 1)) (hq : pc + 1 = q) (K : Go p e below G T m q L (.int x :: S)) : Go p e below G T m pc L (.int j :: .ref a :: S) := by
  subst hq hji; obtain ⟨cl, Ar, ex, -⟩ := A
  exact Go.st (fun t k => X.caload hx (j := j) (v := .int x) (by rw [eT]; exact Ar.1) (State.isArrayOf_alike hZ.alike Ar.2.1) Ar.2.2 (own_in ex hj (own_inl hv)) (own_at ex hv) (g := mkF m pc L (.int j :: .ref a :: S)) rfl rfl hd t k) K
theorem s_baload (X : Stand p l e R s m args below meth c T locs cells slots) (hx : p.tables.exec = Jvm.exec) (hZ : Z.Warmed39 s.vm) (eT : T.heap = h) {j : Int32} {x : Int32} (A : AI Z h a .byte xs) (hj : ¬ j < 0) {i : Nat} (hji : j.toNatClampNeg = i) (hv : xs[i]? = some x) (hd : decode c.code pc = .ok (.baload, 1)) (hq : pc + 1 = q) (K : Go p e below G T m q L (.int x :: S)) : Go p e below G T m pc L (.int j :: .ref a :: S) := by
  subst hq hji; obtain ⟨cl, Ar, ex, -⟩ := A
  exact Go.st (fun t k => X.baloadBytes hx (j := j) (v := .int x) (by rw [eT]; exact Ar.1) (State.isArrayOf_alike hZ.alike Ar.2.1) Ar.2.2 (own_in ex hj (own_inl hv)) (own_at ex hv) (g := mkF m pc L (.int j :: .ref a :: S)) rfl rfl hd t k) K
theorem s_laload (X : Stand p l e R s m args below meth c T locs cells slots) (hx : p.tables.exec = Jvm.exec) (hZ : Z.Warmed39 s.vm) (eT : T.heap = h) {j : Int32} {x : Int64} (A : AJ Z h a us) (hj : ¬ j < 0) {i : Nat} (hji : j.toNatClampNeg = i) (hv : us[i]? = some x) (hd : decode c.code pc = .ok (.laload, 1)) (hq : pc + 1 = q) (K : Go p e below G T m q L (.long x :: S)) : Go p e below G T m pc L (.int j :: .ref a :: S) := by
  subst hq hji; obtain ⟨cl, Ar, ex, -⟩ := A
  exact Go.st (fun t k => X.laload hx (j := j) (v := .long x) (by rw [eT]; exact Ar.1) (State.isArrayOf_alike hZ.alike Ar.2.1) Ar.2.2 (own_in ex hj (own_inl hv)) (own_at ex hv) (g := mkF m pc L (.int j :: .ref a :: S)) rfl rfl hd t k) K
theorem s_iastore (X : Stand p l e R s m args below meth c T locs cells slots) (hx : p.tables.exec = Jvm.exec) (hZ : Z.Warmed39 s.vm) (eT : T.heap = h) {j : Int32} {x : Int32} (A : AI Z h a .int xs) (N : Fr n0 locs) (hg : n0 ≤ a) (hj : ¬ j < 0) {i : Nat} (hji : j.toNatClampNeg = i) (hi : i < xs.length) (hs : xs.set i x = ys) (hd : decode c.code pc = .ok (.iastore, 1)) (hq : pc + 1 = q)
    (k : ∀ (T' : State) (h' : Heap) (locs' : List Loc), Stand p l e R s m args below meth c T' locs' cells slots → Fr n0 locs' → T'.heap = h' → Wr h h' a i (.int x) → AI Z h' a .int ys → Go p e below G T' m q L S) : Go p e below G T m pc L (.int x :: .int j :: .ref a :: S) := by
  subst hq hs hji; have A0 := A; obtain ⟨cl, Ar, ex, -⟩ := A
  obtain ⟨T', h', X', e', W, st⟩ := Jvm.RoadKit.stI X hx hZ eT Ar (j := j) (own_in ex hj hi) (g := mkF m pc L (.int x :: .int j :: .ref a :: S)) rfl rfl hd
  exact Go.st st (k T' h' _ X' (Fr.snoc X' N hg) e' W (A0.same W))
theorem s_castore (X : Stand p l e R s m args below meth c T locs cells slots) (hx : p.tables.exec = Jvm.exec) (hZ : Z.Warmed39 s.vm) (eT : T.heap = h) {j : Int32} {x : Int32} (A : AI Z h a .char xs) (N : Fr n0 locs) (hg : n0 ≤ a) (hj : ¬ j < 0) {i : Nat} (hji : j.toNatClampNeg = i) (hi : i < xs.length) (hs : xs.set i (nar .char x) = ys) (hd : decode c.code pc = .ok (.castore, 1)) (hq : pc + 1 = q)
    (k : ∀ (T' : State) (h' : Heap) (locs' : List Loc), Stand p l e R s m args below meth c T' locs' cells slots → Fr n0 locs' → T'.heap = h' → Wr h h' a i (.int (nar .char x)) → AI Z h' a .char ys → Go p e below G T' m q L S) : Go p e below G T m pc L (.int x :: .int j :: .ref a :: S) := by
  subst hq hs hji; have A0 := A; obtain ⟨cl, Ar, ex, -⟩ := A
  obtain ⟨T', h', X', e', W, st⟩ := stC X hx hZ eT Ar (j := j) (own_in ex hj hi) (g := mkF m pc L (.int x :: .int j :: .ref a :: S)) rfl rfl hd
  exact Go.st st (k T' h' _ X' (Fr.snoc X' N hg) e' W (A0.same W))
theorem s_bastore (X : Stand p l e R s m args below meth c T locs cells slots) (hx : p.tables.exec = Jvm.exec) (hZ : Z.Warmed39 s.vm) (eT : T.heap = h) {j : Int32} {x : Int32} (A : AI Z h a .byte xs) (N : Fr n0 locs) (hg : n0 ≤ a) (hj : ¬ j < 0) {i : Nat} (hji : j.toNatClampNeg = i) (hi : i < xs.length) (hs : xs.set i (nar .byte x) = ys) (hd : decode c.code pc = .ok (.bastore, 1)) (hq : pc + 1 = q)
    (k : ∀ (T' : State) (h' : Heap) (locs' : List Loc), Stand p l e R s m args below meth c T' locs' cells slots → Fr n0 locs' → T'.heap = h' → Wr h h' a i (.int (nar .byte x)) → AI Z h' a .byte ys → Go p e below G T' m q L S) : Go p e below G T m pc L (.int x :: .int j :: .ref a :: S) := by
  subst hq hs hji; have A0 := A; obtain ⟨cl, Ar, ex, -⟩ := A
  obtain ⟨T', h', X', e', W, st⟩ := stB X hx hZ eT Ar (j := j) (own_in ex hj hi) (g := mkF m pc L (.int x :: .int j :: .ref a :: S)) rfl rfl hd
  exact Go.st st (k T' h' _ X' (Fr.snoc X' N hg) e' W (A0.same W))
theorem s_lastore (X : Stand p l e R s m args below meth c T locs cells slots) (hx : p.tables.exec = Jvm.exec) (hZ : Z.Warmed39 s.vm) (eT : T.heap = h) {j : Int32} {x : Int64} (A : AJ Z h a us) (N : Fr n0 locs) (hg : n0 ≤ a) (hj : ¬ j < 0) {i : Nat} (hji : j.toNatClampNeg = i) (hi : i < us.length) (hs : us.set i x = vs) (hd : decode c.code pc = .ok (.lastore, 1)) (hq : pc + 1 = q)
    (k : ∀ (T' : State) (h' : Heap) (locs' : List Loc), Stand p l e R s m args below meth c T' locs' cells slots → Fr n0 locs' → T'.heap = h' → Wr h h' a i (.long x) → AJ Z h' a vs → Go p e below G T' m q L S) : Go p e below G T m pc L (.long x :: .int j :: .ref a :: S) := by
  subst hq hs hji; have A0 := A; obtain ⟨cl, Ar, ex, -⟩ := A
  obtain ⟨T', h', X', e', W, st⟩ := Jvm.RoadKit.stJ X hx hZ eT Ar (j := j) (own_in ex hj hi) (g := mkF m pc L (.long x :: .int j :: .ref a :: S)) rfl rfl hd
  exact Go.st st (k T' h' _ X' (Fr.snoc X' N hg) e' W (A0.same W))
theorem s_newI (X : Stand p l e R s m args below meth c T locs cells slots) (hx : p.tables.exec = Jvm.exec) (hZ : Z.Warmed39 s.vm) (w : (Jvm.Cond.arrayClass .int).before a0 Z = true) (eT : T.heap = h) {z : Int32} (hz : ¬ z < 0) {cap : Nat} (hcap : z.toNatClampNeg ≤ cap) (hb8 : cap * 8 ≤ 536870912) (hc : cells + 1 ≤ R.cells) (hl : slots + cap ≤ R.slots) (hs : List.replicate z.toNatClampNeg 0 = ys) (hd : decode c.code pc = .ok (.newarray .int, 2)) (hq : pc + 2 = q)
    (k : ∀ (T' : State) (h' : Heap) (a : Addr), Stand p l e R s m args below meth c T' locs (cells + 1) (slots + cap) → T'.heap = h' → Ext h h' → a = h.size → AI Z h' a .int ys → Go p e below G T' m q L (.ref a :: S)) : Go p e below G T m pc L (.int z :: S) := by
  subst hq hs
  obtain ⟨T', h', cA, X', e', E, A, st⟩ := newP X hx hZ (aty := .int) w eT (g := mkF m pc L (.int z :: S)) rfl hd rfl hz (cap := cap) hcap hb8 hc hl
  refine Go.st st (k T' h' _ X' e' E rfl ⟨_, A, ?_, ?_⟩)
  · simp [newA, defaultValue, newarray.typeOf]
  · rw [List.length_replicate]; have := z.toInt_lt; simp only [Int32.toNatClampNeg]; omega
theorem s_newC (X : Stand p l e R s m args below meth c T locs cells slots) (hx : p.tables.exec = Jvm.exec) (hZ : Z.Warmed39 s.vm) (w : (Jvm.Cond.arrayClass .char).before a0 Z = true) (eT : T.heap = h) {z : Int32} (hz : ¬ z < 0) {cap : Nat} (hcap : z.toNatClampNeg ≤ cap) (hb8 : cap * 8 ≤ 536870912) (hc : cells + 1 ≤ R.cells) (hl : slots + cap ≤ R.slots) (hs : List.replicate z.toNatClampNeg 0 = ys) (hd : decode c.code pc = .ok (.newarray .char, 2)) (hq : pc + 2 = q)
    (k : ∀ (T' : State) (h' : Heap) (a : Addr), Stand p l e R s m args below meth c T' locs (cells + 1) (slots + cap) → T'.heap = h' → Ext h h' → a = h.size → AI Z h' a .char ys → Go p e below G T' m q L (.ref a :: S)) : Go p e below G T m pc L (.int z :: S) := by
  subst hq hs
  obtain ⟨T', h', cA, X', e', E, A, st⟩ := newP X hx hZ (aty := .char) w eT (g := mkF m pc L (.int z :: S)) rfl hd rfl hz (cap := cap) hcap hb8 hc hl
  refine Go.st st (k T' h' _ X' e' E rfl ⟨_, A, ?_, ?_⟩)
  · simp [newA, defaultValue, newarray.typeOf]
  · rw [List.length_replicate]; have := z.toInt_lt; simp only [Int32.toNatClampNeg]; omega
theorem s_newB (X : Stand p l e R s m args below meth c T locs cells slots) (hx : p.tables.exec = Jvm.exec) (hZ : Z.Warmed39 s.vm) (w : (Jvm.Cond.arrayClass .byte).before a0 Z = true) (eT : T.heap = h) {z : Int32} (hz : ¬ z < 0) {cap : Nat} (hcap : z.toNatClampNeg ≤ cap) (hb8 : cap * 8 ≤ 536870912) (hc : cells + 1 ≤ R.cells) (hl : slots + cap ≤ R.slots) (hs : List.replicate z.toNatClampNeg 0 = ys) (hd : decode c.code pc = .ok (.newarray .byte, 2)) (hq : pc + 2 = q)
    (k : ∀ (T' : State) (h' : Heap) (a : Addr), Stand p l e R s m args below meth c T' locs (cells + 1) (slots + cap) → T'.heap = h' → Ext h h' → a = h.size → AI Z h' a .byte ys → Go p e below G T' m q L (.ref a :: S)) : Go p e below G T m pc L (.int z :: S) := by
  subst hq hs
  obtain ⟨T', h', cA, X', e', E, A, st⟩ := newP X hx hZ (aty := .byte) w eT (g := mkF m pc L (.int z :: S)) rfl hd rfl hz (cap := cap) hcap hb8 hc hl
  refine Go.st st (k T' h' _ X' e' E rfl ⟨_, A, ?_, ?_⟩)
  · simp [newA, defaultValue, newarray.typeOf]
  · rw [List.length_replicate]; have := z.toInt_lt; simp only [Int32.toNatClampNeg]; omega
theorem s_newJ (X : Stand p l e R s m args below meth c T locs cells slots) (hx : p.tables.exec = Jvm.exec) (hZ : Z.Warmed39 s.vm) (w : (Jvm.Cond.arrayClass .long).before a0 Z = true) (eT : T.heap = h) {z : Int32} (hz : ¬ z < 0) {cap : Nat} (hcap : z.toNatClampNeg ≤ cap) (hb8 : cap * 8 ≤ 536870912) (hc : cells + 1 ≤ R.cells) (hl : slots + cap ≤ R.slots) (hs : List.replicate z.toNatClampNeg 0 = vs) (hd : decode c.code pc = .ok (.newarray .long, 2)) (hq : pc + 2 = q)
    (k : ∀ (T' : State) (h' : Heap) (a : Addr), Stand p l e R s m args below meth c T' locs (cells + 1) (slots + cap) → T'.heap = h' → Ext h h' → a = h.size → AJ Z h' a vs → Go p e below G T' m q L (.ref a :: S)) : Go p e below G T m pc L (.int z :: S) := by
  subst hq hs
  obtain ⟨T', h', cA, X', e', E, A, st⟩ := newP X hx hZ (aty := .long) w eT (g := mkF m pc L (.int z :: S)) rfl hd rfl hz (cap := cap) hcap hb8 hc hl
  refine Go.st st (k T' h' _ X' e' E rfl ⟨_, A, ?_, ?_⟩)
  · simp [newA, defaultValue, newarray.typeOf]
  · rw [List.length_replicate]; have := z.toInt_lt; simp only [Int32.toNatClampNeg]; omega
theorem s_lenI (X : Stand p l e R s m args below meth c T locs cells slots) (hx : p.tables.exec = Jvm.exec) (hZ : Z.Warmed39 s.vm) (eT : T.heap = h) {z : Int32} (A : AI Z h a ty xs) (hz : xs.length.toInt32 = z) (hd : decode c.code pc = .ok (.arraylength, 1)) (hq : pc + 1 = q) (K : Go p e below G T m q L (.int z :: S)) : Go p e below G T m pc L (.ref a :: S) := by
  subst hq hz; obtain ⟨cl, Ar, ex, -⟩ := A
  rw [← own_size ex] at K
  exact Go.st (fun t k => X.arraylength hx (by rw [eT]; exact Ar.1) (State.isArrayOf_alike hZ.alike Ar.2.1) (g := mkF m pc L (.ref a :: S)) rfl rfl hd t k) K
theorem s_lenJ (X : Stand p l e R s m args below meth c T locs cells slots) (hx : p.tables.exec = Jvm.exec) (hZ : Z.Warmed39 s.vm) (eT : T.heap = h) {z : Int32} (A : AJ Z h a us) (hz : us.length.toInt32 = z) (hd : decode c.code pc = .ok (.arraylength, 1)) (hq : pc + 1 = q) (K : Go p e below G T m q L (.int z :: S)) : Go p e below G T m pc L (.ref a :: S) := by
  subst hq hz; obtain ⟨cl, Ar, ex, -⟩ := A
  rw [← own_size ex] at K
  exact Go.st (fun t k => X.arraylength hx (by rw [eT]; exact Ar.1) (State.isArrayOf_alike hZ.alike Ar.2.1) (g := mkF m pc L (.ref a :: S)) rfl rfl hd t k) K
theorem own_mask_nn (x m : Int32) (h0 : 0 ≤ m.toInt) : ¬ (x &&& m) < 0 := by
  have := c_and x m h0; rw [Int32.lt_iff_toInt_lt]; show ¬ (x &&& m).toInt < 0; omega
theorem own_mask_ix (x m : Int32) {N : Nat} (h0 : 0 ≤ m.toInt) (h : m.toInt < N) : (x &&& m).toNatClampNeg < N := by
  have := c_and x m h0; simp only [Int32.toNatClampNeg]; omega
theorem own_idx {k n : Int32} {N : Nat} (h0 : ¬ k < 0) (h : k < n) (hn : n.toInt = N) : k.toNatClampNeg < N := by
  have e0 : (0 : Int32).toInt = 0 := rfl
  simp only [Int32.lt_iff_toInt_lt, Int32.toNatClampNeg] at *; omega
theorem own_cs {x : Int32} {k : Int} (b : Int32) (hb : b.toInt = k) (h : x.toInt = k) : x = b := Int32.toInt_inj.mp (h.trans hb.symm)
theorem own_lt {x b : Int32} {k : Int} (hb : b.toInt = k) (h : x.toInt < k) : x < b := by rw [Int32.lt_iff_toInt_lt, hb]; exact h
theorem own_nlt {x b : Int32} {k : Int} (hb : b.toInt = k) (h : k ≤ x.toInt) : ¬ x < b := by rw [Int32.lt_iff_toInt_lt, hb]; omega
theorem own_gt {x b : Int32} {k : Int} (hb : b.toInt = k) (h : k < x.toInt) : b < x := by rw [Int32.lt_iff_toInt_lt, hb]; exact h
theorem own_ngt {x b : Int32} {k : Int} (hb : b.toInt = k) (h : x.toInt ≤ k) : ¬ b < x := by rw [Int32.lt_iff_toInt_lt, hb]; omega
theorem own_eqi {x b : Int32} {k : Int} (hb : b.toInt = k) (h : x.toInt = k) : x = b := Int32.toInt_inj.mp (h.trans hb.symm)
theorem own_nei {x b : Int32} {k : Int} (hb : b.toInt = k) (h : x.toInt ≠ k) : ¬ x = b := fun q => h (by rw [q, hb])
end Kit
theorem d2_0 : decode method_2_code 0 = .ok (.iload_n 0, 1) := by decide +kernel
theorem d2_1 : decode method_2_code 1 = .ok (.i2l, 1) := by decide +kernel
theorem d2_2 : decode method_2_code 2 = .ok (.ldc2_w 7, 3) := by decide +kernel
theorem d2_5 : decode method_2_code 5 = .ok (.lmul, 1) := by decide +kernel
theorem d2_6 : decode method_2_code 6 = .ok (.iload_n 1, 1) := by decide +kernel
theorem d2_7 : decode method_2_code 7 = .ok (.i2l, 1) := by decide +kernel
theorem d2_8 : decode method_2_code 8 = .ok (.ldc2_w 9, 3) := by decide +kernel
theorem d2_11 : decode method_2_code 11 = .ok (.ladd, 1) := by decide +kernel
theorem d2_12 : decode method_2_code 12 = .ok (.ladd, 1) := by decide +kernel
theorem d2_13 : decode method_2_code 13 = .ok (.lreturn, 1) := by decide +kernel
theorem pn_2 : plainFor (⟨"com/example/digitwise/digitwise/internal/PairRadixSortKeysPinLaw", "expected", "(II)J"⟩ : MethodName) = true := plainFor_of_name (by first | (simp [plainName, overriddenIn]; done) | decide +kernel)
theorem ef_2 (m : MethodId) (x0 : Int32) (x1 : Int32) : entryFrame m #[(.int x0), (.int x1)] 2 = mkF m 0 #[.val (.int x0), .val (.int x1)] [] := by first | (simp [entryFrame, mkF, argsToLocals, Value.category]; done) | rfl
def F2 (x0 : Int32) (x1 : Int32) : Int64 := ((x0.toInt64 * (4294967296 : Int64)) + (x1.toInt64 + (2147483648 : Int64)))
set_option maxRecDepth 65536 in
set_option maxHeartbeats 40000000 in
theorem rm2 (l : Launch) (Z : State) (a0 : Array Value) (hw : ∀ d ∈ tables_1, d.before a0 Z = true) (ws : List Jvm.Cond) (x0 : Int32) (x1 : Int32)  (h0 : Heap) :
    Ctr l (⟨"com/example/digitwise/digitwise/internal/PairRadixSortKeysPinLaw", "expected", "(II)J"⟩ : MethodName) method_2_code 2 (some .long) ws ({ frames := 0, cells := 0, slots := 0, locals := 0 } : Room) Z #[(.int x0), (.int x1)] h0 (PQ (.long (F2 x0 x1)) h0) 0 0 := by
  refine Ctr.mk pn_2 ?_
  intro p e s m below meth c T hx hby hml hown hnm hlk hret hZ X eT
  refine enter (ef_2 m x0 x1) ?_
  obtain ⟨res, hres⟩ : ∃ r, r = F2 x0 x1 := ⟨_, rfl⟩
  rw [← hres]
  refine s_iloadN X hx (hb hby d2_0) rfl (q := 1) rfl ?_
  refine s_i2l X hx (hb hby d2_1) (q := 2) rfl ?_
  refine s_ldc2 X hx hZ hown (hw _ (List.mem_of_getElem? (i := 13) rfl)) (hb hby d2_2) (q := 5) rfl ?_
  refine s_lmul X hx (hb hby d2_5) (q := 6) rfl ?_
  refine s_iloadN X hx (hb hby d2_6) rfl (q := 7) rfl ?_
  refine s_i2l X hx (hb hby d2_7) (q := 8) rfl ?_
  refine s_ldc2 X hx hZ hown (hw _ (List.mem_of_getElem? (i := 14) rfl)) (hb hby d2_8) (q := 11) rfl ?_
  refine s_ladd X hx (hb hby d2_11) (q := 12) rfl ?_
  refine s_ladd X hx (hb hby d2_12) (q := 13) rfl ?_
  exact leafJ X hx hlk hret (hb hby d2_13) (Nat.le_refl _) (Nat.le_refl _) ⟨congrArg (fun z => some (Value.long z)) (hres.trans (by unfold F2; rfl)).symm, eT, rfl⟩
def KEY (p q : Int32) : Int64 := ((p.toInt64 <<< ((32 : Int32) &&& 0x3f).toInt64) ||| ((q ^^^ (-2147483648 : Int32)).toInt64 &&& (4294967295 : Int64)))
theorem d1_0 : decode prog_13_method_6_code 0 = .ok (.iload_n 3, 1) := by decide +kernel
theorem d1_1 : decode prog_13_method_6_code 1 = .ok (.iload_n 2, 1) := by decide +kernel
theorem d1_2 : decode prog_13_method_6_code 2 = .ok (.isub, 1) := by decide +kernel
theorem d1_3 : decode prog_13_method_6_code 3 = .ok (.newarray .long, 2) := by decide +kernel
theorem d1_5 : decode prog_13_method_6_code 5 = .ok (.astore 4, 2) := by decide +kernel
theorem d1_7 : decode prog_13_method_6_code 7 = .ok (.iconst 0, 1) := by decide +kernel
theorem d1_8 : decode prog_13_method_6_code 8 = .ok (.istore 5, 2) := by decide +kernel
theorem d1_10 : decode prog_13_method_6_code 10 = .ok (.iload 5, 2) := by decide +kernel
theorem d1_12 : decode prog_13_method_6_code 12 = .ok (.aload 4, 2) := by decide +kernel
theorem d1_14 : decode prog_13_method_6_code 14 = .ok (.arraylength, 1) := by decide +kernel
theorem d1_15 : decode prog_13_method_6_code 15 = .ok (.if_icmp .ge 39, 3) := by decide +kernel
theorem d1_18 : decode prog_13_method_6_code 18 = .ok (.aload 4, 2) := by decide +kernel
theorem d1_20 : decode prog_13_method_6_code 20 = .ok (.iload 5, 2) := by decide +kernel
theorem d1_22 : decode prog_13_method_6_code 22 = .ok (.aload_n 0, 1) := by decide +kernel
theorem d1_23 : decode prog_13_method_6_code 23 = .ok (.iload_n 2, 1) := by decide +kernel
theorem d1_24 : decode prog_13_method_6_code 24 = .ok (.iload 5, 2) := by decide +kernel
theorem d1_26 : decode prog_13_method_6_code 26 = .ok (.iadd, 1) := by decide +kernel
theorem d1_27 : decode prog_13_method_6_code 27 = .ok (.iaload, 1) := by decide +kernel
theorem d1_28 : decode prog_13_method_6_code 28 = .ok (.i2l, 1) := by decide +kernel
theorem d1_29 : decode prog_13_method_6_code 29 = .ok (.bipush 32, 2) := by decide +kernel
theorem d1_31 : decode prog_13_method_6_code 31 = .ok (.lshl, 1) := by decide +kernel
theorem d1_32 : decode prog_13_method_6_code 32 = .ok (.aload_n 1, 1) := by decide +kernel
theorem d1_33 : decode prog_13_method_6_code 33 = .ok (.iload_n 2, 1) := by decide +kernel
theorem d1_34 : decode prog_13_method_6_code 34 = .ok (.iload 5, 2) := by decide +kernel
theorem d1_36 : decode prog_13_method_6_code 36 = .ok (.iadd, 1) := by decide +kernel
theorem d1_37 : decode prog_13_method_6_code 37 = .ok (.iaload, 1) := by decide +kernel
theorem d1_38 : decode prog_13_method_6_code 38 = .ok (.ldc 27, 2) := by decide +kernel
theorem d1_40 : decode prog_13_method_6_code 40 = .ok (.ixor, 1) := by decide +kernel
theorem d1_41 : decode prog_13_method_6_code 41 = .ok (.i2l, 1) := by decide +kernel
theorem d1_42 : decode prog_13_method_6_code 42 = .ok (.ldc2_w 28, 3) := by decide +kernel
theorem d1_45 : decode prog_13_method_6_code 45 = .ok (.land, 1) := by decide +kernel
theorem d1_46 : decode prog_13_method_6_code 46 = .ok (.lor, 1) := by decide +kernel
theorem d1_47 : decode prog_13_method_6_code 47 = .ok (.lastore, 1) := by decide +kernel
theorem d1_48 : decode prog_13_method_6_code 48 = .ok (.iinc 5 1, 3) := by decide +kernel
theorem d1_51 : decode prog_13_method_6_code 51 = .ok (.goto (-41), 3) := by decide +kernel
theorem d1_54 : decode prog_13_method_6_code 54 = .ok (.aload 4, 2) := by decide +kernel
theorem d1_56 : decode prog_13_method_6_code 56 = .ok (.areturn, 1) := by decide +kernel
theorem pn_1 : plainFor (⟨"com/example/digitwise/digitwise/internal/PairRadixSort", "keys", "([I[III)[J"⟩ : MethodName) = true := plainFor_of_name (by first | (simp [plainName, overriddenIn]; done) | decide +kernel)
theorem ef_1 (m : MethodId) (x0 : Addr) (x1 : Addr) (x2 : Int32) (x3 : Int32) : entryFrame m #[(.ref x0), (.ref x1), (.int x2), (.int x3)] 6 = mkF m 0 #[.val (.ref x0), .val (.ref x1), .val (.int x2), .val (.int x3), .unset, .unset] [] := by first | (simp [entryFrame, mkF, argsToLocals, Value.category]; done) | rfl
set_option maxRecDepth 65536 in
set_option maxHeartbeats 40000000 in
theorem rm1_00 (l : Launch) (Z : State) (a0 : Array Value) (hw : ∀ d ∈ tables_1, d.before a0 Z = true) (ws : List Jvm.Cond) (x0 : Addr) (x1 : Addr) (p0 p1 q0 q1 : Int32) (h0 : Heap) (n0 : Nat) (sz : n0 ≤ h0.size) (A_x0 : AI Z h0 x0 .int [p0, p1]) (A_x1 : AI Z h0 x1 .int [q0, q1]) :
    Ctr l (⟨"com/example/digitwise/digitwise/internal/PairRadixSort", "keys", "([I[III)[J"⟩ : MethodName) prog_13_method_6_code 6 (some (.array .long)) ws ({ frames := 0, cells := 1, slots := 2, locals := 0 } : Room) Z #[(.ref x0), (.ref x1), (.int (0 : Int32)), (.int (0 : Int32))] h0 (fun v h L => ∃ t, v = some (.ref t) ∧ Fr n0 L ∧ Keep h0 h [] ∧ h0.size ≤ t ∧ AJ Z h t []) 1 2 := by
  refine Ctr.mk pn_1 ?_
  intro p e s m below meth c T hx hby hml hown hnm hlk hret hZ X eT
  have N := Fr.nil n0
  refine enter (ef_1 m x0 x1 (0 : Int32) (0 : Int32)) ?_
  have K := Keep.refl h0 []
  refine s_iloadN X hx (hb hby d1_0) rfl (q := 1) rfl ?_
  refine s_iloadN X hx (hb hby d1_1) rfl (q := 2) rfl ?_
  refine s_isub X hx (hb hby d1_2) (q := 3) rfl ?_
  show Go p e below _ T m 3 #[.val (.ref x0), .val (.ref x1), .val (.int (0 : Int32)), .val (.int (0 : Int32)), .unset, .unset] [(.int (0 : Int32))]
  refine s_newJ X hx hZ (hw _ (List.mem_of_getElem? (i := 6) rfl)) eT (by decide) (cap := 0) (by decide) (by decide) (by decide) (by decide) (vs := []) rfl (hb hby d1_3) (q := 5) rfl ?_
  intro T h2 a1 X eT E ea A_a1
  have ne_x0_a1 : x0 ≠ a1 := by rw [ea]; exact Nat.ne_of_lt A_x0.lt
  have ne_x1_a1 : x1 ≠ a1 := by rw [ea]; exact Nat.ne_of_lt A_x1.lt
  have A_x0 := A_x0.ext E
  have A_x1 := A_x1.ext E
  have g_a1 : n0 ≤ a1 := by rw [ea]; exact sz
  have sk_a1 : h0.size ≤ a1 := by rw [ea]; exact K.1
  have K := K.ext E
  have sz : n0 ≤ h2.size := Nat.le_trans sz E.1
  refine s_astore X hx (hb hby d1_5) rfl (L' := #[.val (.ref x0), .val (.ref x1), .val (.int (0 : Int32)), .val (.int (0 : Int32)), .val (.ref a1), .unset]) rfl (q := 7) rfl ?_
  refine s_iconst X hx (z := (0 : Int32)) (hb hby d1_7) rfl (q := 8) rfl ?_
  refine s_istore X hx (hb hby d1_8) (L' := #[.val (.ref x0), .val (.ref x1), .val (.int (0 : Int32)), .val (.int (0 : Int32)), .val (.ref a1), .val (.int (0 : Int32))]) rfl (q := 10) rfl ?_
  refine s_iload X hx (hb hby d1_10) rfl (q := 12) rfl ?_
  refine s_aload X hx (hb hby d1_12) rfl rfl (q := 14) rfl ?_
  refine s_lenJ X hx hZ eT (z := (0 : Int32)) A_a1 rfl (hb hby d1_14) (q := 15) rfl ?_
  refine f_icmp_ge X hx (hb hby d1_15) (q1 := 54) (by decide) (by decide) (q := 18) rfl (fun _ => ?_) (fun hq => absurd hq (by decide : ¬ (0 : Int32) < (0 : Int32)))
  refine s_aload X hx (hb hby d1_54) rfl rfl (q := 56) rfl ?_
  exact leafA X hx hlk hret rfl rfl (hb hby d1_56) (by decide) (by decide) (by rw [eT]; exact ⟨a1, rfl, N, K, sk_a1, A_a1⟩)
set_option maxRecDepth 65536 in
set_option maxHeartbeats 40000000 in
theorem rm1_01 (l : Launch) (Z : State) (a0 : Array Value) (hw : ∀ d ∈ tables_1, d.before a0 Z = true) (ws : List Jvm.Cond) (x0 : Addr) (x1 : Addr) (p0 p1 q0 q1 : Int32) (h0 : Heap) (n0 : Nat) (sz : n0 ≤ h0.size) (A_x0 : AI Z h0 x0 .int [p0, p1]) (A_x1 : AI Z h0 x1 .int [q0, q1]) :
    Ctr l (⟨"com/example/digitwise/digitwise/internal/PairRadixSort", "keys", "([I[III)[J"⟩ : MethodName) prog_13_method_6_code 6 (some (.array .long)) ws ({ frames := 0, cells := 1, slots := 2, locals := 0 } : Room) Z #[(.ref x0), (.ref x1), (.int (0 : Int32)), (.int (1 : Int32))] h0 (fun v h L => ∃ t, v = some (.ref t) ∧ Fr n0 L ∧ Keep h0 h [] ∧ h0.size ≤ t ∧ AJ Z h t [KEY p0 q0]) 1 2 := by
  refine Ctr.mk pn_1 ?_
  intro p e s m below meth c T hx hby hml hown hnm hlk hret hZ X eT
  have N := Fr.nil n0
  refine enter (ef_1 m x0 x1 (0 : Int32) (1 : Int32)) ?_
  have K := Keep.refl h0 []
  refine s_iloadN X hx (hb hby d1_0) rfl (q := 1) rfl ?_
  refine s_iloadN X hx (hb hby d1_1) rfl (q := 2) rfl ?_
  refine s_isub X hx (hb hby d1_2) (q := 3) rfl ?_
  show Go p e below _ T m 3 #[.val (.ref x0), .val (.ref x1), .val (.int (0 : Int32)), .val (.int (1 : Int32)), .unset, .unset] [(.int (1 : Int32))]
  refine s_newJ X hx hZ (hw _ (List.mem_of_getElem? (i := 6) rfl)) eT (by decide) (cap := 1) (by decide) (by decide) (by decide) (by decide) (vs := [0]) rfl (hb hby d1_3) (q := 5) rfl ?_
  intro T h2 a1 X eT E ea A_a1
  have ne_x0_a1 : x0 ≠ a1 := by rw [ea]; exact Nat.ne_of_lt A_x0.lt
  have ne_x1_a1 : x1 ≠ a1 := by rw [ea]; exact Nat.ne_of_lt A_x1.lt
  have A_x0 := A_x0.ext E
  have A_x1 := A_x1.ext E
  have g_a1 : n0 ≤ a1 := by rw [ea]; exact sz
  have sk_a1 : h0.size ≤ a1 := by rw [ea]; exact K.1
  have K := K.ext E
  have sz : n0 ≤ h2.size := Nat.le_trans sz E.1
  refine s_astore X hx (hb hby d1_5) rfl (L' := #[.val (.ref x0), .val (.ref x1), .val (.int (0 : Int32)), .val (.int (1 : Int32)), .val (.ref a1), .unset]) rfl (q := 7) rfl ?_
  refine s_iconst X hx (z := (0 : Int32)) (hb hby d1_7) rfl (q := 8) rfl ?_
  refine s_istore X hx (hb hby d1_8) (L' := #[.val (.ref x0), .val (.ref x1), .val (.int (0 : Int32)), .val (.int (1 : Int32)), .val (.ref a1), .val (.int (0 : Int32))]) rfl (q := 10) rfl ?_
  refine s_iload X hx (hb hby d1_10) rfl (q := 12) rfl ?_
  refine s_aload X hx (hb hby d1_12) rfl rfl (q := 14) rfl ?_
  refine s_lenJ X hx hZ eT (z := (1 : Int32)) A_a1 rfl (hb hby d1_14) (q := 15) rfl ?_
  refine f_icmp_ge X hx (hb hby d1_15) (q1 := 54) (by decide) (by decide) (q := 18) rfl (fun hq => absurd (by decide : (0 : Int32) < (1 : Int32)) hq) (fun _ => ?_)
  refine s_aload X hx (hb hby d1_18) rfl rfl (q := 20) rfl ?_
  refine s_iload X hx (hb hby d1_20) rfl (q := 22) rfl ?_
  refine s_aloadN X hx (hb hby d1_22) rfl rfl (q := 23) rfl ?_
  refine s_iloadN X hx (hb hby d1_23) rfl (q := 24) rfl ?_
  refine s_iload X hx (hb hby d1_24) rfl (q := 26) rfl ?_
  refine s_iadd X hx (hb hby d1_26) (q := 27) rfl ?_
  show Go p e below _ T m 27 #[.val (.ref x0), .val (.ref x1), .val (.int (0 : Int32)), .val (.int (1 : Int32)), .val (.ref a1), .val (.int (0 : Int32))] [(.int (0 : Int32)), (.ref x0), (.int (0 : Int32)), (.ref a1)]
  refine s_iaload X hx hZ eT A_x0 (by decide) (i := 0) rfl (x := p0) rfl (hb hby d1_27) (q := 28) rfl ?_
  refine s_i2l X hx (hb hby d1_28) (q := 29) rfl ?_
  refine s_bipush X hx (z := (32 : Int32)) (hb hby d1_29) rfl (q := 31) rfl ?_
  refine s_lshl X hx (hb hby d1_31) (q := 32) rfl ?_
  refine s_aloadN X hx (hb hby d1_32) rfl rfl (q := 33) rfl ?_
  refine s_iloadN X hx (hb hby d1_33) rfl (q := 34) rfl ?_
  refine s_iload X hx (hb hby d1_34) rfl (q := 36) rfl ?_
  refine s_iadd X hx (hb hby d1_36) (q := 37) rfl ?_
  show Go p e below _ T m 37 #[.val (.ref x0), .val (.ref x1), .val (.int (0 : Int32)), .val (.int (1 : Int32)), .val (.ref a1), .val (.int (0 : Int32))] [(.int (0 : Int32)), (.ref x1), (.long (p0.toInt64 <<< ((32 : Int32) &&& 0x3f).toInt64)), (.int (0 : Int32)), (.ref a1)]
  refine s_iaload X hx hZ eT A_x1 (by decide) (i := 0) rfl (x := q0) rfl (hb hby d1_37) (q := 38) rfl ?_
  refine s_ldc X hx hZ hown (hw _ (List.mem_of_getElem? (i := 7) rfl)) (hb hby d1_38) (q := 40) rfl ?_
  refine s_ixor X hx (hb hby d1_40) (q := 41) rfl ?_
  refine s_i2l X hx (hb hby d1_41) (q := 42) rfl ?_
  refine s_ldc2 X hx hZ hown (hw _ (List.mem_of_getElem? (i := 8) rfl)) (hb hby d1_42) (q := 45) rfl ?_
  refine s_land X hx (hb hby d1_45) (q := 46) rfl ?_
  refine s_lor X hx (hb hby d1_46) (q := 47) rfl ?_
  refine s_lastore X hx hZ eT A_a1 N g_a1 (by decide) (i := 0) rfl (Nat.le_of_ble_eq_true rfl) (vs := [((p0.toInt64 <<< ((32 : Int32) &&& 0x3f).toInt64) ||| ((q0 ^^^ (-2147483648 : Int32)).toInt64 &&& (4294967295 : Int64)))]) rfl (hb hby d1_47) (q := 48) rfl ?_
  intro T h3 _ X N eT W A_a1'
  have A_x0 := A_x0.other W ne_x0_a1
  have A_x1 := A_x1.other W ne_x1_a1
  have K := K.wr W (Or.inr sk_a1)
  have sz : n0 ≤ h3.size := by rw [W.size]; exact sz
  have A_a1 := A_a1'
  refine s_iinc X hx (w := (1 : Int32)) (hb hby d1_48) rfl rfl (L' := #[.val (.ref x0), .val (.ref x1), .val (.int (0 : Int32)), .val (.int (1 : Int32)), .val (.ref a1), .val (.int (1 : Int32))]) rfl (q := 51) rfl ?_
  refine s_goto X hx (hb hby d1_51) (q1 := 10) (by decide) (by decide) ?_
  refine s_iload X hx (hb hby d1_10) rfl (q := 12) rfl ?_
  refine s_aload X hx (hb hby d1_12) rfl rfl (q := 14) rfl ?_
  refine s_lenJ X hx hZ eT (z := (1 : Int32)) A_a1 rfl (hb hby d1_14) (q := 15) rfl ?_
  refine f_icmp_ge X hx (hb hby d1_15) (q1 := 54) (by decide) (by decide) (q := 18) rfl (fun _ => ?_) (fun hq => absurd hq (by decide : ¬ (1 : Int32) < (1 : Int32)))
  refine s_aload X hx (hb hby d1_54) rfl rfl (q := 56) rfl ?_
  exact leafA X hx hlk hret rfl rfl (hb hby d1_56) (by decide) (by decide) (by rw [eT]; exact ⟨a1, rfl, N, K, sk_a1, A_a1⟩)
set_option maxRecDepth 65536 in
set_option maxHeartbeats 40000000 in
theorem rm1_02 (l : Launch) (Z : State) (a0 : Array Value) (hw : ∀ d ∈ tables_1, d.before a0 Z = true) (ws : List Jvm.Cond) (x0 : Addr) (x1 : Addr) (p0 p1 q0 q1 : Int32) (h0 : Heap) (n0 : Nat) (sz : n0 ≤ h0.size) (A_x0 : AI Z h0 x0 .int [p0, p1]) (A_x1 : AI Z h0 x1 .int [q0, q1]) :
    Ctr l (⟨"com/example/digitwise/digitwise/internal/PairRadixSort", "keys", "([I[III)[J"⟩ : MethodName) prog_13_method_6_code 6 (some (.array .long)) ws ({ frames := 0, cells := 1, slots := 2, locals := 0 } : Room) Z #[(.ref x0), (.ref x1), (.int (0 : Int32)), (.int (2 : Int32))] h0 (fun v h L => ∃ t, v = some (.ref t) ∧ Fr n0 L ∧ Keep h0 h [] ∧ h0.size ≤ t ∧ AJ Z h t [KEY p0 q0, KEY p1 q1]) 1 2 := by
  refine Ctr.mk pn_1 ?_
  intro p e s m below meth c T hx hby hml hown hnm hlk hret hZ X eT
  have N := Fr.nil n0
  refine enter (ef_1 m x0 x1 (0 : Int32) (2 : Int32)) ?_
  have K := Keep.refl h0 []
  refine s_iloadN X hx (hb hby d1_0) rfl (q := 1) rfl ?_
  refine s_iloadN X hx (hb hby d1_1) rfl (q := 2) rfl ?_
  refine s_isub X hx (hb hby d1_2) (q := 3) rfl ?_
  show Go p e below _ T m 3 #[.val (.ref x0), .val (.ref x1), .val (.int (0 : Int32)), .val (.int (2 : Int32)), .unset, .unset] [(.int (2 : Int32))]
  refine s_newJ X hx hZ (hw _ (List.mem_of_getElem? (i := 6) rfl)) eT (by decide) (cap := 2) (by decide) (by decide) (by decide) (by decide) (vs := [0, 0]) rfl (hb hby d1_3) (q := 5) rfl ?_
  intro T h2 a1 X eT E ea A_a1
  have ne_x0_a1 : x0 ≠ a1 := by rw [ea]; exact Nat.ne_of_lt A_x0.lt
  have ne_x1_a1 : x1 ≠ a1 := by rw [ea]; exact Nat.ne_of_lt A_x1.lt
  have A_x0 := A_x0.ext E
  have A_x1 := A_x1.ext E
  have g_a1 : n0 ≤ a1 := by rw [ea]; exact sz
  have sk_a1 : h0.size ≤ a1 := by rw [ea]; exact K.1
  have K := K.ext E
  have sz : n0 ≤ h2.size := Nat.le_trans sz E.1
  refine s_astore X hx (hb hby d1_5) rfl (L' := #[.val (.ref x0), .val (.ref x1), .val (.int (0 : Int32)), .val (.int (2 : Int32)), .val (.ref a1), .unset]) rfl (q := 7) rfl ?_
  refine s_iconst X hx (z := (0 : Int32)) (hb hby d1_7) rfl (q := 8) rfl ?_
  refine s_istore X hx (hb hby d1_8) (L' := #[.val (.ref x0), .val (.ref x1), .val (.int (0 : Int32)), .val (.int (2 : Int32)), .val (.ref a1), .val (.int (0 : Int32))]) rfl (q := 10) rfl ?_
  refine s_iload X hx (hb hby d1_10) rfl (q := 12) rfl ?_
  refine s_aload X hx (hb hby d1_12) rfl rfl (q := 14) rfl ?_
  refine s_lenJ X hx hZ eT (z := (2 : Int32)) A_a1 rfl (hb hby d1_14) (q := 15) rfl ?_
  refine f_icmp_ge X hx (hb hby d1_15) (q1 := 54) (by decide) (by decide) (q := 18) rfl (fun hq => absurd (by decide : (0 : Int32) < (2 : Int32)) hq) (fun _ => ?_)
  refine s_aload X hx (hb hby d1_18) rfl rfl (q := 20) rfl ?_
  refine s_iload X hx (hb hby d1_20) rfl (q := 22) rfl ?_
  refine s_aloadN X hx (hb hby d1_22) rfl rfl (q := 23) rfl ?_
  refine s_iloadN X hx (hb hby d1_23) rfl (q := 24) rfl ?_
  refine s_iload X hx (hb hby d1_24) rfl (q := 26) rfl ?_
  refine s_iadd X hx (hb hby d1_26) (q := 27) rfl ?_
  show Go p e below _ T m 27 #[.val (.ref x0), .val (.ref x1), .val (.int (0 : Int32)), .val (.int (2 : Int32)), .val (.ref a1), .val (.int (0 : Int32))] [(.int (0 : Int32)), (.ref x0), (.int (0 : Int32)), (.ref a1)]
  refine s_iaload X hx hZ eT A_x0 (by decide) (i := 0) rfl (x := p0) rfl (hb hby d1_27) (q := 28) rfl ?_
  refine s_i2l X hx (hb hby d1_28) (q := 29) rfl ?_
  refine s_bipush X hx (z := (32 : Int32)) (hb hby d1_29) rfl (q := 31) rfl ?_
  refine s_lshl X hx (hb hby d1_31) (q := 32) rfl ?_
  refine s_aloadN X hx (hb hby d1_32) rfl rfl (q := 33) rfl ?_
  refine s_iloadN X hx (hb hby d1_33) rfl (q := 34) rfl ?_
  refine s_iload X hx (hb hby d1_34) rfl (q := 36) rfl ?_
  refine s_iadd X hx (hb hby d1_36) (q := 37) rfl ?_
  show Go p e below _ T m 37 #[.val (.ref x0), .val (.ref x1), .val (.int (0 : Int32)), .val (.int (2 : Int32)), .val (.ref a1), .val (.int (0 : Int32))] [(.int (0 : Int32)), (.ref x1), (.long (p0.toInt64 <<< ((32 : Int32) &&& 0x3f).toInt64)), (.int (0 : Int32)), (.ref a1)]
  refine s_iaload X hx hZ eT A_x1 (by decide) (i := 0) rfl (x := q0) rfl (hb hby d1_37) (q := 38) rfl ?_
  refine s_ldc X hx hZ hown (hw _ (List.mem_of_getElem? (i := 7) rfl)) (hb hby d1_38) (q := 40) rfl ?_
  refine s_ixor X hx (hb hby d1_40) (q := 41) rfl ?_
  refine s_i2l X hx (hb hby d1_41) (q := 42) rfl ?_
  refine s_ldc2 X hx hZ hown (hw _ (List.mem_of_getElem? (i := 8) rfl)) (hb hby d1_42) (q := 45) rfl ?_
  refine s_land X hx (hb hby d1_45) (q := 46) rfl ?_
  refine s_lor X hx (hb hby d1_46) (q := 47) rfl ?_
  refine s_lastore X hx hZ eT A_a1 N g_a1 (by decide) (i := 0) rfl (Nat.le_of_ble_eq_true rfl) (vs := [((p0.toInt64 <<< ((32 : Int32) &&& 0x3f).toInt64) ||| ((q0 ^^^ (-2147483648 : Int32)).toInt64 &&& (4294967295 : Int64))), 0]) rfl (hb hby d1_47) (q := 48) rfl ?_
  intro T h3 _ X N eT W A_a1'
  have A_x0 := A_x0.other W ne_x0_a1
  have A_x1 := A_x1.other W ne_x1_a1
  have K := K.wr W (Or.inr sk_a1)
  have sz : n0 ≤ h3.size := by rw [W.size]; exact sz
  have A_a1 := A_a1'
  refine s_iinc X hx (w := (1 : Int32)) (hb hby d1_48) rfl rfl (L' := #[.val (.ref x0), .val (.ref x1), .val (.int (0 : Int32)), .val (.int (2 : Int32)), .val (.ref a1), .val (.int (1 : Int32))]) rfl (q := 51) rfl ?_
  refine s_goto X hx (hb hby d1_51) (q1 := 10) (by decide) (by decide) ?_
  refine s_iload X hx (hb hby d1_10) rfl (q := 12) rfl ?_
  refine s_aload X hx (hb hby d1_12) rfl rfl (q := 14) rfl ?_
  refine s_lenJ X hx hZ eT (z := (2 : Int32)) A_a1 rfl (hb hby d1_14) (q := 15) rfl ?_
  refine f_icmp_ge X hx (hb hby d1_15) (q1 := 54) (by decide) (by decide) (q := 18) rfl (fun hq => absurd (by decide : (1 : Int32) < (2 : Int32)) hq) (fun _ => ?_)
  refine s_aload X hx (hb hby d1_18) rfl rfl (q := 20) rfl ?_
  refine s_iload X hx (hb hby d1_20) rfl (q := 22) rfl ?_
  refine s_aloadN X hx (hb hby d1_22) rfl rfl (q := 23) rfl ?_
  refine s_iloadN X hx (hb hby d1_23) rfl (q := 24) rfl ?_
  refine s_iload X hx (hb hby d1_24) rfl (q := 26) rfl ?_
  refine s_iadd X hx (hb hby d1_26) (q := 27) rfl ?_
  show Go p e below _ T m 27 #[.val (.ref x0), .val (.ref x1), .val (.int (0 : Int32)), .val (.int (2 : Int32)), .val (.ref a1), .val (.int (1 : Int32))] [(.int (1 : Int32)), (.ref x0), (.int (1 : Int32)), (.ref a1)]
  refine s_iaload X hx hZ eT A_x0 (by decide) (i := 1) rfl (x := p1) rfl (hb hby d1_27) (q := 28) rfl ?_
  refine s_i2l X hx (hb hby d1_28) (q := 29) rfl ?_
  refine s_bipush X hx (z := (32 : Int32)) (hb hby d1_29) rfl (q := 31) rfl ?_
  refine s_lshl X hx (hb hby d1_31) (q := 32) rfl ?_
  refine s_aloadN X hx (hb hby d1_32) rfl rfl (q := 33) rfl ?_
  refine s_iloadN X hx (hb hby d1_33) rfl (q := 34) rfl ?_
  refine s_iload X hx (hb hby d1_34) rfl (q := 36) rfl ?_
  refine s_iadd X hx (hb hby d1_36) (q := 37) rfl ?_
  show Go p e below _ T m 37 #[.val (.ref x0), .val (.ref x1), .val (.int (0 : Int32)), .val (.int (2 : Int32)), .val (.ref a1), .val (.int (1 : Int32))] [(.int (1 : Int32)), (.ref x1), (.long (p1.toInt64 <<< ((32 : Int32) &&& 0x3f).toInt64)), (.int (1 : Int32)), (.ref a1)]
  refine s_iaload X hx hZ eT A_x1 (by decide) (i := 1) rfl (x := q1) rfl (hb hby d1_37) (q := 38) rfl ?_
  refine s_ldc X hx hZ hown (hw _ (List.mem_of_getElem? (i := 7) rfl)) (hb hby d1_38) (q := 40) rfl ?_
  refine s_ixor X hx (hb hby d1_40) (q := 41) rfl ?_
  refine s_i2l X hx (hb hby d1_41) (q := 42) rfl ?_
  refine s_ldc2 X hx hZ hown (hw _ (List.mem_of_getElem? (i := 8) rfl)) (hb hby d1_42) (q := 45) rfl ?_
  refine s_land X hx (hb hby d1_45) (q := 46) rfl ?_
  refine s_lor X hx (hb hby d1_46) (q := 47) rfl ?_
  refine s_lastore X hx hZ eT A_a1 N g_a1 (by decide) (i := 1) rfl (Nat.le_of_ble_eq_true rfl) (vs := [((p0.toInt64 <<< ((32 : Int32) &&& 0x3f).toInt64) ||| ((q0 ^^^ (-2147483648 : Int32)).toInt64 &&& (4294967295 : Int64))), ((p1.toInt64 <<< ((32 : Int32) &&& 0x3f).toInt64) ||| ((q1 ^^^ (-2147483648 : Int32)).toInt64 &&& (4294967295 : Int64)))]) rfl (hb hby d1_47) (q := 48) rfl ?_
  intro T h4 _ X N eT W A_a1'
  have A_x0 := A_x0.other W ne_x0_a1
  have A_x1 := A_x1.other W ne_x1_a1
  have K := K.wr W (Or.inr sk_a1)
  have sz : n0 ≤ h4.size := by rw [W.size]; exact sz
  have A_a1 := A_a1'
  refine s_iinc X hx (w := (2 : Int32)) (hb hby d1_48) rfl rfl (L' := #[.val (.ref x0), .val (.ref x1), .val (.int (0 : Int32)), .val (.int (2 : Int32)), .val (.ref a1), .val (.int (2 : Int32))]) rfl (q := 51) rfl ?_
  refine s_goto X hx (hb hby d1_51) (q1 := 10) (by decide) (by decide) ?_
  refine s_iload X hx (hb hby d1_10) rfl (q := 12) rfl ?_
  refine s_aload X hx (hb hby d1_12) rfl rfl (q := 14) rfl ?_
  refine s_lenJ X hx hZ eT (z := (2 : Int32)) A_a1 rfl (hb hby d1_14) (q := 15) rfl ?_
  refine f_icmp_ge X hx (hb hby d1_15) (q1 := 54) (by decide) (by decide) (q := 18) rfl (fun _ => ?_) (fun hq => absurd hq (by decide : ¬ (2 : Int32) < (2 : Int32)))
  refine s_aload X hx (hb hby d1_54) rfl rfl (q := 56) rfl ?_
  exact leafA X hx hlk hret rfl rfl (hb hby d1_56) (by decide) (by decide) (by rw [eT]; exact ⟨a1, rfl, N, K, sk_a1, A_a1⟩)
set_option maxRecDepth 65536 in
set_option maxHeartbeats 40000000 in
theorem rm1_11 (l : Launch) (Z : State) (a0 : Array Value) (hw : ∀ d ∈ tables_1, d.before a0 Z = true) (ws : List Jvm.Cond) (x0 : Addr) (x1 : Addr) (p0 p1 q0 q1 : Int32) (h0 : Heap) (n0 : Nat) (sz : n0 ≤ h0.size) (A_x0 : AI Z h0 x0 .int [p0, p1]) (A_x1 : AI Z h0 x1 .int [q0, q1]) :
    Ctr l (⟨"com/example/digitwise/digitwise/internal/PairRadixSort", "keys", "([I[III)[J"⟩ : MethodName) prog_13_method_6_code 6 (some (.array .long)) ws ({ frames := 0, cells := 1, slots := 2, locals := 0 } : Room) Z #[(.ref x0), (.ref x1), (.int (1 : Int32)), (.int (1 : Int32))] h0 (fun v h L => ∃ t, v = some (.ref t) ∧ Fr n0 L ∧ Keep h0 h [] ∧ h0.size ≤ t ∧ AJ Z h t []) 1 2 := by
  refine Ctr.mk pn_1 ?_
  intro p e s m below meth c T hx hby hml hown hnm hlk hret hZ X eT
  have N := Fr.nil n0
  refine enter (ef_1 m x0 x1 (1 : Int32) (1 : Int32)) ?_
  have K := Keep.refl h0 []
  refine s_iloadN X hx (hb hby d1_0) rfl (q := 1) rfl ?_
  refine s_iloadN X hx (hb hby d1_1) rfl (q := 2) rfl ?_
  refine s_isub X hx (hb hby d1_2) (q := 3) rfl ?_
  show Go p e below _ T m 3 #[.val (.ref x0), .val (.ref x1), .val (.int (1 : Int32)), .val (.int (1 : Int32)), .unset, .unset] [(.int (0 : Int32))]
  refine s_newJ X hx hZ (hw _ (List.mem_of_getElem? (i := 6) rfl)) eT (by decide) (cap := 0) (by decide) (by decide) (by decide) (by decide) (vs := []) rfl (hb hby d1_3) (q := 5) rfl ?_
  intro T h2 a1 X eT E ea A_a1
  have ne_x0_a1 : x0 ≠ a1 := by rw [ea]; exact Nat.ne_of_lt A_x0.lt
  have ne_x1_a1 : x1 ≠ a1 := by rw [ea]; exact Nat.ne_of_lt A_x1.lt
  have A_x0 := A_x0.ext E
  have A_x1 := A_x1.ext E
  have g_a1 : n0 ≤ a1 := by rw [ea]; exact sz
  have sk_a1 : h0.size ≤ a1 := by rw [ea]; exact K.1
  have K := K.ext E
  have sz : n0 ≤ h2.size := Nat.le_trans sz E.1
  refine s_astore X hx (hb hby d1_5) rfl (L' := #[.val (.ref x0), .val (.ref x1), .val (.int (1 : Int32)), .val (.int (1 : Int32)), .val (.ref a1), .unset]) rfl (q := 7) rfl ?_
  refine s_iconst X hx (z := (0 : Int32)) (hb hby d1_7) rfl (q := 8) rfl ?_
  refine s_istore X hx (hb hby d1_8) (L' := #[.val (.ref x0), .val (.ref x1), .val (.int (1 : Int32)), .val (.int (1 : Int32)), .val (.ref a1), .val (.int (0 : Int32))]) rfl (q := 10) rfl ?_
  refine s_iload X hx (hb hby d1_10) rfl (q := 12) rfl ?_
  refine s_aload X hx (hb hby d1_12) rfl rfl (q := 14) rfl ?_
  refine s_lenJ X hx hZ eT (z := (0 : Int32)) A_a1 rfl (hb hby d1_14) (q := 15) rfl ?_
  refine f_icmp_ge X hx (hb hby d1_15) (q1 := 54) (by decide) (by decide) (q := 18) rfl (fun _ => ?_) (fun hq => absurd hq (by decide : ¬ (0 : Int32) < (0 : Int32)))
  refine s_aload X hx (hb hby d1_54) rfl rfl (q := 56) rfl ?_
  exact leafA X hx hlk hret rfl rfl (hb hby d1_56) (by decide) (by decide) (by rw [eT]; exact ⟨a1, rfl, N, K, sk_a1, A_a1⟩)
set_option maxRecDepth 65536 in
set_option maxHeartbeats 40000000 in
theorem rm1_12 (l : Launch) (Z : State) (a0 : Array Value) (hw : ∀ d ∈ tables_1, d.before a0 Z = true) (ws : List Jvm.Cond) (x0 : Addr) (x1 : Addr) (p0 p1 q0 q1 : Int32) (h0 : Heap) (n0 : Nat) (sz : n0 ≤ h0.size) (A_x0 : AI Z h0 x0 .int [p0, p1]) (A_x1 : AI Z h0 x1 .int [q0, q1]) :
    Ctr l (⟨"com/example/digitwise/digitwise/internal/PairRadixSort", "keys", "([I[III)[J"⟩ : MethodName) prog_13_method_6_code 6 (some (.array .long)) ws ({ frames := 0, cells := 1, slots := 2, locals := 0 } : Room) Z #[(.ref x0), (.ref x1), (.int (1 : Int32)), (.int (2 : Int32))] h0 (fun v h L => ∃ t, v = some (.ref t) ∧ Fr n0 L ∧ Keep h0 h [] ∧ h0.size ≤ t ∧ AJ Z h t [KEY p1 q1]) 1 2 := by
  refine Ctr.mk pn_1 ?_
  intro p e s m below meth c T hx hby hml hown hnm hlk hret hZ X eT
  have N := Fr.nil n0
  refine enter (ef_1 m x0 x1 (1 : Int32) (2 : Int32)) ?_
  have K := Keep.refl h0 []
  refine s_iloadN X hx (hb hby d1_0) rfl (q := 1) rfl ?_
  refine s_iloadN X hx (hb hby d1_1) rfl (q := 2) rfl ?_
  refine s_isub X hx (hb hby d1_2) (q := 3) rfl ?_
  show Go p e below _ T m 3 #[.val (.ref x0), .val (.ref x1), .val (.int (1 : Int32)), .val (.int (2 : Int32)), .unset, .unset] [(.int (1 : Int32))]
  refine s_newJ X hx hZ (hw _ (List.mem_of_getElem? (i := 6) rfl)) eT (by decide) (cap := 1) (by decide) (by decide) (by decide) (by decide) (vs := [0]) rfl (hb hby d1_3) (q := 5) rfl ?_
  intro T h2 a1 X eT E ea A_a1
  have ne_x0_a1 : x0 ≠ a1 := by rw [ea]; exact Nat.ne_of_lt A_x0.lt
  have ne_x1_a1 : x1 ≠ a1 := by rw [ea]; exact Nat.ne_of_lt A_x1.lt
  have A_x0 := A_x0.ext E
  have A_x1 := A_x1.ext E
  have g_a1 : n0 ≤ a1 := by rw [ea]; exact sz
  have sk_a1 : h0.size ≤ a1 := by rw [ea]; exact K.1
  have K := K.ext E
  have sz : n0 ≤ h2.size := Nat.le_trans sz E.1
  refine s_astore X hx (hb hby d1_5) rfl (L' := #[.val (.ref x0), .val (.ref x1), .val (.int (1 : Int32)), .val (.int (2 : Int32)), .val (.ref a1), .unset]) rfl (q := 7) rfl ?_
  refine s_iconst X hx (z := (0 : Int32)) (hb hby d1_7) rfl (q := 8) rfl ?_
  refine s_istore X hx (hb hby d1_8) (L' := #[.val (.ref x0), .val (.ref x1), .val (.int (1 : Int32)), .val (.int (2 : Int32)), .val (.ref a1), .val (.int (0 : Int32))]) rfl (q := 10) rfl ?_
  refine s_iload X hx (hb hby d1_10) rfl (q := 12) rfl ?_
  refine s_aload X hx (hb hby d1_12) rfl rfl (q := 14) rfl ?_
  refine s_lenJ X hx hZ eT (z := (1 : Int32)) A_a1 rfl (hb hby d1_14) (q := 15) rfl ?_
  refine f_icmp_ge X hx (hb hby d1_15) (q1 := 54) (by decide) (by decide) (q := 18) rfl (fun hq => absurd (by decide : (0 : Int32) < (1 : Int32)) hq) (fun _ => ?_)
  refine s_aload X hx (hb hby d1_18) rfl rfl (q := 20) rfl ?_
  refine s_iload X hx (hb hby d1_20) rfl (q := 22) rfl ?_
  refine s_aloadN X hx (hb hby d1_22) rfl rfl (q := 23) rfl ?_
  refine s_iloadN X hx (hb hby d1_23) rfl (q := 24) rfl ?_
  refine s_iload X hx (hb hby d1_24) rfl (q := 26) rfl ?_
  refine s_iadd X hx (hb hby d1_26) (q := 27) rfl ?_
  show Go p e below _ T m 27 #[.val (.ref x0), .val (.ref x1), .val (.int (1 : Int32)), .val (.int (2 : Int32)), .val (.ref a1), .val (.int (0 : Int32))] [(.int (1 : Int32)), (.ref x0), (.int (0 : Int32)), (.ref a1)]
  refine s_iaload X hx hZ eT A_x0 (by decide) (i := 1) rfl (x := p1) rfl (hb hby d1_27) (q := 28) rfl ?_
  refine s_i2l X hx (hb hby d1_28) (q := 29) rfl ?_
  refine s_bipush X hx (z := (32 : Int32)) (hb hby d1_29) rfl (q := 31) rfl ?_
  refine s_lshl X hx (hb hby d1_31) (q := 32) rfl ?_
  refine s_aloadN X hx (hb hby d1_32) rfl rfl (q := 33) rfl ?_
  refine s_iloadN X hx (hb hby d1_33) rfl (q := 34) rfl ?_
  refine s_iload X hx (hb hby d1_34) rfl (q := 36) rfl ?_
  refine s_iadd X hx (hb hby d1_36) (q := 37) rfl ?_
  show Go p e below _ T m 37 #[.val (.ref x0), .val (.ref x1), .val (.int (1 : Int32)), .val (.int (2 : Int32)), .val (.ref a1), .val (.int (0 : Int32))] [(.int (1 : Int32)), (.ref x1), (.long (p1.toInt64 <<< ((32 : Int32) &&& 0x3f).toInt64)), (.int (0 : Int32)), (.ref a1)]
  refine s_iaload X hx hZ eT A_x1 (by decide) (i := 1) rfl (x := q1) rfl (hb hby d1_37) (q := 38) rfl ?_
  refine s_ldc X hx hZ hown (hw _ (List.mem_of_getElem? (i := 7) rfl)) (hb hby d1_38) (q := 40) rfl ?_
  refine s_ixor X hx (hb hby d1_40) (q := 41) rfl ?_
  refine s_i2l X hx (hb hby d1_41) (q := 42) rfl ?_
  refine s_ldc2 X hx hZ hown (hw _ (List.mem_of_getElem? (i := 8) rfl)) (hb hby d1_42) (q := 45) rfl ?_
  refine s_land X hx (hb hby d1_45) (q := 46) rfl ?_
  refine s_lor X hx (hb hby d1_46) (q := 47) rfl ?_
  refine s_lastore X hx hZ eT A_a1 N g_a1 (by decide) (i := 0) rfl (Nat.le_of_ble_eq_true rfl) (vs := [((p1.toInt64 <<< ((32 : Int32) &&& 0x3f).toInt64) ||| ((q1 ^^^ (-2147483648 : Int32)).toInt64 &&& (4294967295 : Int64)))]) rfl (hb hby d1_47) (q := 48) rfl ?_
  intro T h3 _ X N eT W A_a1'
  have A_x0 := A_x0.other W ne_x0_a1
  have A_x1 := A_x1.other W ne_x1_a1
  have K := K.wr W (Or.inr sk_a1)
  have sz : n0 ≤ h3.size := by rw [W.size]; exact sz
  have A_a1 := A_a1'
  refine s_iinc X hx (w := (1 : Int32)) (hb hby d1_48) rfl rfl (L' := #[.val (.ref x0), .val (.ref x1), .val (.int (1 : Int32)), .val (.int (2 : Int32)), .val (.ref a1), .val (.int (1 : Int32))]) rfl (q := 51) rfl ?_
  refine s_goto X hx (hb hby d1_51) (q1 := 10) (by decide) (by decide) ?_
  refine s_iload X hx (hb hby d1_10) rfl (q := 12) rfl ?_
  refine s_aload X hx (hb hby d1_12) rfl rfl (q := 14) rfl ?_
  refine s_lenJ X hx hZ eT (z := (1 : Int32)) A_a1 rfl (hb hby d1_14) (q := 15) rfl ?_
  refine f_icmp_ge X hx (hb hby d1_15) (q1 := 54) (by decide) (by decide) (q := 18) rfl (fun _ => ?_) (fun hq => absurd hq (by decide : ¬ (1 : Int32) < (1 : Int32)))
  refine s_aload X hx (hb hby d1_54) rfl rfl (q := 56) rfl ?_
  exact leafA X hx hlk hret rfl rfl (hb hby d1_56) (by decide) (by decide) (by rw [eT]; exact ⟨a1, rfl, N, K, sk_a1, A_a1⟩)
theorem own_low (q : Int32) : (q ^^^ (-2147483648 : Int32)) &&& 2147483647 = q &&& 2147483647 := by
  apply Int32.toBitVec_inj.mp
  simp only [Int32.toBitVec_and, Int32.toBitVec_xor]
  apply BitVec.eq_of_getLsbD_eq
  intro i hi
  have h : ∀ i : Fin 32, (((-2147483648 : Int32).toBitVec.getLsbD i.val) && ((2147483647 : Int32).toBitVec.getLsbD i.val)) = false := by decide
  have h' := h ⟨i, hi⟩
  simp only [BitVec.getLsbD_and, BitVec.getLsbD_xor]
  revert h'
  generalize ((-2147483648 : Int32).toBitVec.getLsbD i) = a
  generalize ((2147483647 : Int32).toBitVec.getLsbD i) = b
  generalize (q.toBitVec.getLsbD i) = d
  cases a <;> cases b <;> cases d <;> simp
theorem own_flip (q : Int32) : (q ^^^ (-2147483648 : Int32)).toInt % 4294967296 = q.toInt + 2147483648 := by
  have m1 := c_mask (q ^^^ (-2147483648 : Int32)) 2147483647 31 (by decide) (by decide)
  have m2 := c_mask q 2147483647 31 (by decide) (by decide)
  rw [own_low, m2] at m1
  have s := c_xorS q (-2147483648)
  have e : (-2147483648 : Int32).toInt = -2147483648 := by decide
  have r1 := rng32 q
  have r2 := rng32 (q ^^^ (-2147483648 : Int32))
  omega
theorem own_key (p q : Int32) : (KEY p q).toInt = p.toInt * 4294967296 + (q.toInt + 2147483648) := by
  unfold KEY
  have r1 := rng32 p
  have r2 := rng32 q
  have a1 := c_lshl p.toInt64 32 32 (by decide)
  have a2 := c_i2l p
  have a3 := rng64 (p.toInt64 <<< ((32 : Int32) &&& 0x3f).toInt64)
  have b1 := c_maskL ((q ^^^ (-2147483648 : Int32)).toInt64) 4294967295 32 (by decide) (by decide)
  rw [c_i2l] at b1
  have b2 := own_flip q
  have c1 := c_orL (p.toInt64 <<< ((32 : Int32) &&& 0x3f).toInt64) ((q ^^^ (-2147483648 : Int32)).toInt64 &&& (4294967295 : Int64)) 32 (by decide) 4294967296 (by decide) (by omega) (by omega) (by omega)
  have c2 := rng64 ((p.toInt64 <<< ((32 : Int32) &&& 0x3f).toInt64) ||| ((q ^^^ (-2147483648 : Int32)).toInt64 &&& (4294967295 : Int64)))
  have d1 : (p.toInt64 <<< ((32 : Int32) &&& 0x3f).toInt64).toInt = p.toInt * 4294967296 := by omega
  have d2 : ((q ^^^ (-2147483648 : Int32)).toInt64 &&& (4294967295 : Int64)).toInt = q.toInt + 2147483648 := by omega
  rw [d1, d2] at c1
  clear a1 a2 a3 b1 b2 d1 d2
  omega
theorem own_exp (p q : Int32) : KEY p q = F2 p q := by
  apply Int64.toInt_inj.mp
  rw [own_key]; unfold F2
  have r1 := rng32 p
  have r2 := rng32 q
  have e1 : (4294967296 : Int64).toInt = 4294967296 := by decide
  have e2 : (2147483648 : Int64).toInt = 2147483648 := by decide
  have a1 := c_lmul p.toInt64 4294967296
  have a2 := rng64 (p.toInt64 * 4294967296)
  have a3 := c_ladd q.toInt64 2147483648
  have a4 := rng64 (q.toInt64 + 2147483648)
  have a5 := c_ladd (p.toInt64 * 4294967296) (q.toInt64 + 2147483648)
  have a6 := rng64 (p.toInt64 * 4294967296 + (q.toInt64 + 2147483648))
  have c1 := c_i2l p
  have c2 := c_i2l q
  rw [e1, c1] at a1
  rw [e2, c2] at a3
  have d1 : (p.toInt64 * 4294967296).toInt = p.toInt * 4294967296 := by omega
  have d2 : (q.toInt64 + 2147483648).toInt = q.toInt + 2147483648 := by omega
  rw [d1, d2] at a5
  clear a1 a2 a3 a4 c1 c2 d1 d2
  omega
theorem own_less (p0 p1 q0 q1 : Int32) : (if KEY p0 q0 < KEY p1 q1 then (1 : Int32) else 0) = (if p0 < p1 then (1 : Int32) else (if p0 = p1 then (if q0 < q1 then (1 : Int32) else 0) else 0)) := by
  have a := own_key p0 q0; have b := own_key p1 q1
  have r1 := rng32 p0; have r2 := rng32 q0; have r3 := rng32 p1; have r4 := rng32 q1
  simp only [Int64.lt_iff_toInt_lt, Int32.lt_iff_toInt_lt, ← Int32.toInt_inj (x := p0)]
  (repeat' split) <;> first | rfl | (exfalso; omega)
theorem own_same (p0 p1 q0 q1 : Int32) : (if KEY p0 q0 = KEY p1 q1 then (1 : Int32) else 0) = (if p0 = p1 then (if q0 = q1 then (1 : Int32) else 0) else 0) := by
  have a := own_key p0 q0; have b := own_key p1 q1
  have r1 := rng32 p0; have r2 := rng32 q0; have r3 := rng32 p1; have r4 := rng32 q1
  simp only [← Int64.toInt_inj, ← Int32.toInt_inj (x := p0), ← Int32.toInt_inj (x := q0)]
  (repeat' split) <;> first | rfl | (exfalso; omega)
theorem own_r (x : Int32) : ((x &&& (2147483647 : Int32)) % (10 : Int32)) = 0 ∨ ((x &&& (2147483647 : Int32)) % (10 : Int32)) = 1 ∨ ((x &&& (2147483647 : Int32)) % (10 : Int32)) = 2 ∨ ((x &&& (2147483647 : Int32)) % (10 : Int32)) = 3 ∨ ((x &&& (2147483647 : Int32)) % (10 : Int32)) = 4 ∨ ((x &&& (2147483647 : Int32)) % (10 : Int32)) = 5 ∨ ((x &&& (2147483647 : Int32)) % (10 : Int32)) = 6 ∨ ((x &&& (2147483647 : Int32)) % (10 : Int32)) = 7 ∨ ((x &&& (2147483647 : Int32)) % (10 : Int32)) = 8 ∨ ((x &&& (2147483647 : Int32)) % (10 : Int32)) = 9 := by
  have h1 := c_and x 2147483647 (by decide)
  generalize x &&& (2147483647 : Int32) = y at *
  have h2 := (c_irem y 10 10 (by decide)).1 h1.1
  have hc : (y % (10 : Int32)).toInt = 0 ∨ (y % (10 : Int32)).toInt = 1 ∨ (y % (10 : Int32)).toInt = 2 ∨ (y % (10 : Int32)).toInt = 3 ∨ (y % (10 : Int32)).toInt = 4 ∨ (y % (10 : Int32)).toInt = 5 ∨ (y % (10 : Int32)).toInt = 6 ∨ (y % (10 : Int32)).toInt = 7 ∨ (y % (10 : Int32)).toInt = 8 ∨ (y % (10 : Int32)).toInt = 9 := by omega
  rcases hc with h | h | h | h | h | h | h | h | h | h
  · have := own_cs (0 : Int32) (by decide) h; simp [this]
  · have := own_cs (1 : Int32) (by decide) h; simp [this]
  · have := own_cs (2 : Int32) (by decide) h; simp [this]
  · have := own_cs (3 : Int32) (by decide) h; simp [this]
  · have := own_cs (4 : Int32) (by decide) h; simp [this]
  · have := own_cs (5 : Int32) (by decide) h; simp [this]
  · have := own_cs (6 : Int32) (by decide) h; simp [this]
  · have := own_cs (7 : Int32) (by decide) h; simp [this]
  · have := own_cs (8 : Int32) (by decide) h; simp [this]
  · have := own_cs (9 : Int32) (by decide) h; simp [this]
theorem pn_0 : plainFor x = true := plainFor_of_name (by first | (simp [plainName, overriddenIn]; done) | decide +kernel)
theorem ef_0 (m : MethodId) (x0 : Int32) (x1 : Int32) (x2 : Int32) (x3 : Int32) (x4 : Int32) : entryFrame m #[(.int x0), (.int x1), (.int x2), (.int x3), (.int x4)] maxLocals = mkF m 0 #[.val (.int x0), .val (.int x1), .val (.int x2), .val (.int x3), .val (.int x4), .unset, .unset, .unset, .unset, .unset, .unset, .unset, .unset, .unset, .unset, .unset] [] := by first | (simp [entryFrame, mkF, argsToLocals, Value.category, maxLocals]; done) | rfl
theorem pd0 : parseMethodDescriptor "([I[III)[J" = some ⟨[(.array .int), (.array .int), .int, .int], some (.array .long)⟩ := by decide +kernel
theorem pd1 : parseMethodDescriptor "(II)J" = some ⟨[.int, .int], some .long⟩ := by decide +kernel
def Q0 (h0 : Heap) (n0 : Nat) (v : Option Value) (h : Heap) (L : List Loc) : Prop := v = some (.int 1) ∧ Fr n0 L
set_option maxRecDepth 65536 in
set_option maxHeartbeats 40000000 in
theorem rm0 (l : Launch) (Z : State) (a0 : Array Value) (hw : ∀ d ∈ tables_1, d.before a0 Z = true) (ws : List Jvm.Cond) (x0 : Int32) (x1 : Int32) (x2 : Int32) (x3 : Int32) (x4 : Int32) (h0 : Heap) (n0 : Nat) (sz : n0 ≤ h0.size) :
    Ctr l x code maxLocals ret ws room_1 Z #[(.int x0), (.int x1), (.int x2), (.int x3), (.int x4)] h0 (Q0 h0 n0) 16 128 := by
  refine Ctr.mk pn_0 ?_
  intro p e s m below meth c T hx hby hml hown hnm hlk hret hZ X eT
  have N := Fr.nil n0
  refine enter (ef_0 m x0 x1 x2 x3 x4) ?_
  refine s_iload X hx (hb hby at_0) rfl (q := 2) rfl ?_
  refine s_ldc X hx hZ hown (hw _ (List.mem_of_getElem? (i := 0) rfl)) (hb hby at_2) (q := 4) rfl ?_
  refine s_iand X hx (hb hby at_4) (q := 5) rfl ?_
  refine s_bipush X hx (z := (10 : Int32)) (hb hby at_5) rfl (q := 7) rfl ?_
  refine s_irem X hx (hb hby at_7) (by decide) (q := 8) rfl ?_
  generalize hrr : ((x4 &&& (2147483647 : Int32)) % (10 : Int32)) = rr
  refine s_istore X hx (hb hby at_8) (L' := #[.val (.int x0), .val (.int x1), .val (.int x2), .val (.int x3), .val (.int x4), .val (.int rr), .unset, .unset, .unset, .unset, .unset, .unset, .unset, .unset, .unset, .unset]) rfl (q := 10) rfl ?_
  have hr10 := own_r x4
  rw [hrr] at hr10
  rcases hr10 with hcase | hcase | hcase | hcase | hcase | hcase | hcase | hcase | hcase | hcase
  · subst hcase
    refine s_iload X hx (hb hby at_10) rfl (q := 12) rfl ?_
    refine s_iconst X hx (z := (5 : Int32)) (hb hby at_12) rfl (q := 13) rfl ?_
    refine s_irem X hx (hb hby at_13) (by decide) (q := 14) rfl ?_
    show Go p e below _ T m 14 #[.val (.int x0), .val (.int x1), .val (.int x2), .val (.int x3), .val (.int x4), .val (.int (0 : Int32)), .unset, .unset, .unset, .unset, .unset, .unset, .unset, .unset, .unset, .unset] [(.int (0 : Int32))]
    refine s_istore X hx (hb hby at_14) (L' := #[.val (.int x0), .val (.int x1), .val (.int x2), .val (.int x3), .val (.int x4), .val (.int (0 : Int32)), .val (.int (0 : Int32)), .unset, .unset, .unset, .unset, .unset, .unset, .unset, .unset, .unset]) rfl (q := 16) rfl ?_
    refine s_iload X hx (hb hby at_16) rfl (q := 18) rfl ?_
    refine s_iconst X hx (z := (2 : Int32)) (hb hby at_18) rfl (q := 19) rfl ?_
    refine f_icmp_gt X hx (hb hby at_19) (q1 := 26) (by decide) (by decide) (q := 22) rfl (fun hq => absurd hq (by decide : ¬ (2 : Int32) < (0 : Int32))) (fun _ => ?_)
    refine s_iconst X hx (z := (0 : Int32)) (hb hby at_22) rfl (q := 23) rfl ?_
    refine s_goto X hx (hb hby at_23) (q1 := 27) (by decide) (by decide) ?_
    refine s_istore X hx (hb hby at_27) (L' := #[.val (.int x0), .val (.int x1), .val (.int x2), .val (.int x3), .val (.int x4), .val (.int (0 : Int32)), .val (.int (0 : Int32)), .val (.int (0 : Int32)), .unset, .unset, .unset, .unset, .unset, .unset, .unset, .unset]) rfl (q := 29) rfl ?_
    refine s_iload X hx (hb hby at_29) rfl (q := 31) rfl ?_
    refine f_if_ne X hx (hb hby at_31) (q1 := 38) (by decide) (by decide) (q := 34) rfl (fun hq => absurd (by decide : (0 : Int32) = 0) hq) (fun _ => ?_)
    refine s_iconst X hx (z := (0 : Int32)) (hb hby at_34) rfl (q := 35) rfl ?_
    refine s_goto X hx (hb hby at_35) (q1 := 55) (by decide) (by decide) ?_
    refine s_istore X hx (hb hby at_55) (L' := #[.val (.int x0), .val (.int x1), .val (.int x2), .val (.int x3), .val (.int x4), .val (.int (0 : Int32)), .val (.int (0 : Int32)), .val (.int (0 : Int32)), .val (.int (0 : Int32)), .unset, .unset, .unset, .unset, .unset, .unset, .unset]) rfl (q := 57) rfl ?_
    refine s_iconst X hx (z := (2 : Int32)) (hb hby at_57) rfl (q := 58) rfl ?_
    refine s_newI X hx hZ (hw _ (List.mem_of_getElem? (i := 1) rfl)) eT (by decide) (cap := 2) (by decide) (by decide) (by decide) (by decide) (ys := [0, 0]) rfl (hb hby at_58) (q := 60) rfl ?_
    intro T h2 a1 X eT E ea A_a1
    have g_a1 : n0 ≤ a1 := by rw [ea]; exact sz
    have sz : n0 ≤ h2.size := Nat.le_trans sz E.1
    refine s_astore X hx (hb hby at_60) rfl (L' := #[.val (.int x0), .val (.int x1), .val (.int x2), .val (.int x3), .val (.int x4), .val (.int (0 : Int32)), .val (.int (0 : Int32)), .val (.int (0 : Int32)), .val (.int (0 : Int32)), .val (.ref a1), .unset, .unset, .unset, .unset, .unset, .unset]) rfl (q := 62) rfl ?_
    refine s_aload X hx (hb hby at_62) rfl rfl (q := 64) rfl ?_
    refine s_iconst X hx (z := (0 : Int32)) (hb hby at_64) rfl (q := 65) rfl ?_
    refine s_iloadN X hx (hb hby at_65) rfl (q := 66) rfl ?_
    refine s_iastore X hx hZ eT A_a1 N g_a1 (by decide) (i := 0) rfl (Nat.le_of_ble_eq_true rfl) (ys := [x0, 0]) rfl (hb hby at_66) (q := 67) rfl ?_
    intro T h3 _ X N eT W A_a1'
    have sz : n0 ≤ h3.size := by rw [W.size]; exact sz
    have A_a1 := A_a1'
    refine s_aload X hx (hb hby at_67) rfl rfl (q := 69) rfl ?_
    refine s_iconst X hx (z := (1 : Int32)) (hb hby at_69) rfl (q := 70) rfl ?_
    refine s_iloadN X hx (hb hby at_70) rfl (q := 71) rfl ?_
    refine s_iastore X hx hZ eT A_a1 N g_a1 (by decide) (i := 1) rfl (Nat.le_of_ble_eq_true rfl) (ys := [x0, x1]) rfl (hb hby at_71) (q := 72) rfl ?_
    intro T h4 _ X N eT W A_a1'
    have sz : n0 ≤ h4.size := by rw [W.size]; exact sz
    have A_a1 := A_a1'
    refine s_iconst X hx (z := (2 : Int32)) (hb hby at_72) rfl (q := 73) rfl ?_
    refine s_newI X hx hZ (hw _ (List.mem_of_getElem? (i := 1) rfl)) eT (by decide) (cap := 2) (by decide) (by decide) (by decide) (by decide) (ys := [0, 0]) rfl (hb hby at_73) (q := 75) rfl ?_
    intro T h6 a5 X eT E ea A_a5
    have ne_a1_a5 : a1 ≠ a5 := by rw [ea]; exact Nat.ne_of_lt A_a1.lt
    have A_a1 := A_a1.ext E
    have g_a5 : n0 ≤ a5 := by rw [ea]; exact sz
    have sz : n0 ≤ h6.size := Nat.le_trans sz E.1
    refine s_astore X hx (hb hby at_75) rfl (L' := #[.val (.int x0), .val (.int x1), .val (.int x2), .val (.int x3), .val (.int x4), .val (.int (0 : Int32)), .val (.int (0 : Int32)), .val (.int (0 : Int32)), .val (.int (0 : Int32)), .val (.ref a1), .val (.ref a5), .unset, .unset, .unset, .unset, .unset]) rfl (q := 77) rfl ?_
    refine s_aload X hx (hb hby at_77) rfl rfl (q := 79) rfl ?_
    refine s_iconst X hx (z := (0 : Int32)) (hb hby at_79) rfl (q := 80) rfl ?_
    refine s_iloadN X hx (hb hby at_80) rfl (q := 81) rfl ?_
    refine s_iastore X hx hZ eT A_a5 N g_a5 (by decide) (i := 0) rfl (Nat.le_of_ble_eq_true rfl) (ys := [x2, 0]) rfl (hb hby at_81) (q := 82) rfl ?_
    intro T h7 _ X N eT W A_a5'
    have A_a1 := A_a1.other W ne_a1_a5
    have sz : n0 ≤ h7.size := by rw [W.size]; exact sz
    have A_a5 := A_a5'
    refine s_aload X hx (hb hby at_82) rfl rfl (q := 84) rfl ?_
    refine s_iconst X hx (z := (1 : Int32)) (hb hby at_84) rfl (q := 85) rfl ?_
    refine s_iloadN X hx (hb hby at_85) rfl (q := 86) rfl ?_
    refine s_iastore X hx hZ eT A_a5 N g_a5 (by decide) (i := 1) rfl (Nat.le_of_ble_eq_true rfl) (ys := [x2, x3]) rfl (hb hby at_86) (q := 87) rfl ?_
    intro T h8 _ X N eT W A_a5'
    have A_a1 := A_a1.other W ne_a1_a5
    have sz : n0 ≤ h8.size := by rw [W.size]; exact sz
    have A_a5 := A_a5'
    refine s_iload X hx (hb hby at_87) rfl (q := 89) rfl ?_
    refine s_iconst X hx (z := (5 : Int32)) (hb hby at_89) rfl (q := 90) rfl ?_
    refine f_icmp_lt X hx (hb hby at_90) (q1 := 98) (by decide) (by decide) (q := 93) rfl (fun _ => ?_) (fun hq => absurd (by decide : (0 : Int32) < (5 : Int32)) hq)
    refine s_aload X hx (hb hby at_98) rfl rfl (q := 100) rfl ?_
    refine s_astore X hx (hb hby at_100) rfl (L' := #[.val (.int x0), .val (.int x1), .val (.int x2), .val (.int x3), .val (.int x4), .val (.int (0 : Int32)), .val (.int (0 : Int32)), .val (.int (0 : Int32)), .val (.int (0 : Int32)), .val (.ref a1), .val (.ref a5), .val (.ref a5), .unset, .unset, .unset, .unset]) rfl (q := 102) rfl ?_
    refine s_aload X hx (hb hby at_102) rfl rfl (q := 104) rfl ?_
    refine s_aload X hx (hb hby at_104) rfl rfl (q := 106) rfl ?_
    refine s_iload X hx (hb hby at_106) rfl (q := 108) rfl ?_
    refine s_iload X hx (hb hby at_108) rfl (q := 110) rfl ?_
    refine callC X hx hZ hown (W := 0) (argsL := [(.ref a1), (.ref a5), (.int (0 : Int32)), (.int (0 : Int32))]) (rest := []) (hw _ (List.mem_of_getElem? (i := 2) rfl)) (hw _ (List.mem_of_getElem? (i := 3) rfl)) (hw _ (List.mem_of_getElem? (i := 4) rfl)) (hw _ (List.mem_of_getElem? (i := 5) rfl)) (by decide) (rm1_00 l Z a0 hw [] a1 a5 x0 x1 x2 x3 h8 n0 sz A_a1 A_a5) eT (by decide) (by decide) (by decide) (by decide) (by rw [hml]; rfl) pd0 rfl rfl (Nat.le_of_ble_eq_true rfl) (hb hby at_110) (q := 113) rfl ?_
    intro v T Lc hQ X
    obtain ⟨h9, eT⟩ : ∃ z, T.heap = z := ⟨_, rfl⟩
    try rw [eT] at hQ
    obtain ⟨t10, rfl, N', K', _, A_t10⟩ := hQ
    have N := Fr.app N N'
    have A_a1 := A_a1.keep K' nin0
    have A_a5 := A_a5.keep K' nin0
    have sz : n0 ≤ h9.size := Nat.le_trans sz K'.1
    refine s_astore X hx (hb hby at_113) rfl (L' := #[.val (.int x0), .val (.int x1), .val (.int x2), .val (.int x3), .val (.int x4), .val (.int (0 : Int32)), .val (.int (0 : Int32)), .val (.int (0 : Int32)), .val (.int (0 : Int32)), .val (.ref a1), .val (.ref a5), .val (.ref a5), .val (.ref t10), .unset, .unset, .unset]) rfl (q := 115) rfl ?_
    refine s_aload X hx (hb hby at_115) rfl rfl (q := 117) rfl ?_
    refine s_lenJ X hx hZ eT (z := (0 : Int32)) A_t10 rfl (hb hby at_117) (q := 118) rfl ?_
    refine s_iload X hx (hb hby at_118) rfl (q := 120) rfl ?_
    refine s_iload X hx (hb hby at_120) rfl (q := 122) rfl ?_
    refine s_isub X hx (hb hby at_122) (q := 123) rfl ?_
    show Go p e below _ T m 123 #[.val (.int x0), .val (.int x1), .val (.int x2), .val (.int x3), .val (.int x4), .val (.int (0 : Int32)), .val (.int (0 : Int32)), .val (.int (0 : Int32)), .val (.int (0 : Int32)), .val (.ref a1), .val (.ref a5), .val (.ref a5), .val (.ref t10), .unset, .unset, .unset] [(.int (0 : Int32)), (.int (0 : Int32))]
    refine f_icmp_eq X hx (hb hby at_123) (q1 := 128) (by decide) (by decide) (q := 126) rfl (fun _ => ?_) (fun hq => absurd (by decide : (0 : Int32) = (0 : Int32)) hq)
    refine s_iconst X hx (z := (1 : Int32)) (hb hby at_128) rfl (q := 129) rfl ?_
    refine s_istore X hx (hb hby at_129) (L' := #[.val (.int x0), .val (.int x1), .val (.int x2), .val (.int x3), .val (.int x4), .val (.int (0 : Int32)), .val (.int (0 : Int32)), .val (.int (0 : Int32)), .val (.int (0 : Int32)), .val (.ref a1), .val (.ref a5), .val (.ref a5), .val (.ref t10), .val (.int (1 : Int32)), .unset, .unset]) rfl (q := 131) rfl ?_
    refine s_aload X hx (hb hby at_131) rfl rfl (q := 133) rfl ?_
    refine s_lenJ X hx hZ eT (z := (0 : Int32)) A_t10 rfl (hb hby at_133) (q := 134) rfl ?_
    refine s_iconst X hx (z := (1 : Int32)) (hb hby at_134) rfl (q := 135) rfl ?_
    refine f_icmp_lt X hx (hb hby at_135) (q1 := 171) (by decide) (by decide) (q := 138) rfl (fun _ => ?_) (fun hq => absurd (by decide : (0 : Int32) < (1 : Int32)) hq)
    refine s_aload X hx (hb hby at_171) rfl rfl (q := 173) rfl ?_
    refine s_lenJ X hx hZ eT (z := (0 : Int32)) A_t10 rfl (hb hby at_173) (q := 174) rfl ?_
    refine s_iconst X hx (z := (2 : Int32)) (hb hby at_174) rfl (q := 175) rfl ?_
    refine f_icmp_ne X hx (hb hby at_175) (q1 := 334) (by decide) (by decide) (q := 178) rfl (fun _ => ?_) (fun hq => absurd hq (by decide : ¬ (0 : Int32) = (2 : Int32)))
    refine s_iload X hx (hb hby at_334) rfl (q := 336) rfl ?_
    exact leafN X hx hlk hret (by simp) (hb hby at_336) (by decide) (by decide) (z' := 1) rfl ⟨rfl, N⟩
  · subst hcase
    refine s_iload X hx (hb hby at_10) rfl (q := 12) rfl ?_
    refine s_iconst X hx (z := (5 : Int32)) (hb hby at_12) rfl (q := 13) rfl ?_
    refine s_irem X hx (hb hby at_13) (by decide) (q := 14) rfl ?_
    show Go p e below _ T m 14 #[.val (.int x0), .val (.int x1), .val (.int x2), .val (.int x3), .val (.int x4), .val (.int (1 : Int32)), .unset, .unset, .unset, .unset, .unset, .unset, .unset, .unset, .unset, .unset] [(.int (1 : Int32))]
    refine s_istore X hx (hb hby at_14) (L' := #[.val (.int x0), .val (.int x1), .val (.int x2), .val (.int x3), .val (.int x4), .val (.int (1 : Int32)), .val (.int (1 : Int32)), .unset, .unset, .unset, .unset, .unset, .unset, .unset, .unset, .unset]) rfl (q := 16) rfl ?_
    refine s_iload X hx (hb hby at_16) rfl (q := 18) rfl ?_
    refine s_iconst X hx (z := (2 : Int32)) (hb hby at_18) rfl (q := 19) rfl ?_
    refine f_icmp_gt X hx (hb hby at_19) (q1 := 26) (by decide) (by decide) (q := 22) rfl (fun hq => absurd hq (by decide : ¬ (2 : Int32) < (1 : Int32))) (fun _ => ?_)
    refine s_iconst X hx (z := (0 : Int32)) (hb hby at_22) rfl (q := 23) rfl ?_
    refine s_goto X hx (hb hby at_23) (q1 := 27) (by decide) (by decide) ?_
    refine s_istore X hx (hb hby at_27) (L' := #[.val (.int x0), .val (.int x1), .val (.int x2), .val (.int x3), .val (.int x4), .val (.int (1 : Int32)), .val (.int (1 : Int32)), .val (.int (0 : Int32)), .unset, .unset, .unset, .unset, .unset, .unset, .unset, .unset]) rfl (q := 29) rfl ?_
    refine s_iload X hx (hb hby at_29) rfl (q := 31) rfl ?_
    refine f_if_ne X hx (hb hby at_31) (q1 := 38) (by decide) (by decide) (q := 34) rfl (fun _ => ?_) (fun hq => absurd hq (by decide : ¬ (1 : Int32) = 0))
    refine s_iload X hx (hb hby at_38) rfl (q := 40) rfl ?_
    refine s_iconst X hx (z := (1 : Int32)) (hb hby at_40) rfl (q := 41) rfl ?_
    refine f_icmp_eq X hx (hb hby at_41) (q1 := 50) (by decide) (by decide) (q := 44) rfl (fun _ => ?_) (fun hq => absurd (by decide : (1 : Int32) = (1 : Int32)) hq)
    refine s_iconst X hx (z := (1 : Int32)) (hb hby at_50) rfl (q := 51) rfl ?_
    refine s_goto X hx (hb hby at_51) (q1 := 55) (by decide) (by decide) ?_
    refine s_istore X hx (hb hby at_55) (L' := #[.val (.int x0), .val (.int x1), .val (.int x2), .val (.int x3), .val (.int x4), .val (.int (1 : Int32)), .val (.int (1 : Int32)), .val (.int (0 : Int32)), .val (.int (1 : Int32)), .unset, .unset, .unset, .unset, .unset, .unset, .unset]) rfl (q := 57) rfl ?_
    refine s_iconst X hx (z := (2 : Int32)) (hb hby at_57) rfl (q := 58) rfl ?_
    refine s_newI X hx hZ (hw _ (List.mem_of_getElem? (i := 1) rfl)) eT (by decide) (cap := 2) (by decide) (by decide) (by decide) (by decide) (ys := [0, 0]) rfl (hb hby at_58) (q := 60) rfl ?_
    intro T h12 a11 X eT E ea A_a11
    have g_a11 : n0 ≤ a11 := by rw [ea]; exact sz
    have sz : n0 ≤ h12.size := Nat.le_trans sz E.1
    refine s_astore X hx (hb hby at_60) rfl (L' := #[.val (.int x0), .val (.int x1), .val (.int x2), .val (.int x3), .val (.int x4), .val (.int (1 : Int32)), .val (.int (1 : Int32)), .val (.int (0 : Int32)), .val (.int (1 : Int32)), .val (.ref a11), .unset, .unset, .unset, .unset, .unset, .unset]) rfl (q := 62) rfl ?_
    refine s_aload X hx (hb hby at_62) rfl rfl (q := 64) rfl ?_
    refine s_iconst X hx (z := (0 : Int32)) (hb hby at_64) rfl (q := 65) rfl ?_
    refine s_iloadN X hx (hb hby at_65) rfl (q := 66) rfl ?_
    refine s_iastore X hx hZ eT A_a11 N g_a11 (by decide) (i := 0) rfl (Nat.le_of_ble_eq_true rfl) (ys := [x0, 0]) rfl (hb hby at_66) (q := 67) rfl ?_
    intro T h13 _ X N eT W A_a11'
    have sz : n0 ≤ h13.size := by rw [W.size]; exact sz
    have A_a11 := A_a11'
    refine s_aload X hx (hb hby at_67) rfl rfl (q := 69) rfl ?_
    refine s_iconst X hx (z := (1 : Int32)) (hb hby at_69) rfl (q := 70) rfl ?_
    refine s_iloadN X hx (hb hby at_70) rfl (q := 71) rfl ?_
    refine s_iastore X hx hZ eT A_a11 N g_a11 (by decide) (i := 1) rfl (Nat.le_of_ble_eq_true rfl) (ys := [x0, x1]) rfl (hb hby at_71) (q := 72) rfl ?_
    intro T h14 _ X N eT W A_a11'
    have sz : n0 ≤ h14.size := by rw [W.size]; exact sz
    have A_a11 := A_a11'
    refine s_iconst X hx (z := (2 : Int32)) (hb hby at_72) rfl (q := 73) rfl ?_
    refine s_newI X hx hZ (hw _ (List.mem_of_getElem? (i := 1) rfl)) eT (by decide) (cap := 2) (by decide) (by decide) (by decide) (by decide) (ys := [0, 0]) rfl (hb hby at_73) (q := 75) rfl ?_
    intro T h16 a15 X eT E ea A_a15
    have ne_a11_a15 : a11 ≠ a15 := by rw [ea]; exact Nat.ne_of_lt A_a11.lt
    have A_a11 := A_a11.ext E
    have g_a15 : n0 ≤ a15 := by rw [ea]; exact sz
    have sz : n0 ≤ h16.size := Nat.le_trans sz E.1
    refine s_astore X hx (hb hby at_75) rfl (L' := #[.val (.int x0), .val (.int x1), .val (.int x2), .val (.int x3), .val (.int x4), .val (.int (1 : Int32)), .val (.int (1 : Int32)), .val (.int (0 : Int32)), .val (.int (1 : Int32)), .val (.ref a11), .val (.ref a15), .unset, .unset, .unset, .unset, .unset]) rfl (q := 77) rfl ?_
    refine s_aload X hx (hb hby at_77) rfl rfl (q := 79) rfl ?_
    refine s_iconst X hx (z := (0 : Int32)) (hb hby at_79) rfl (q := 80) rfl ?_
    refine s_iloadN X hx (hb hby at_80) rfl (q := 81) rfl ?_
    refine s_iastore X hx hZ eT A_a15 N g_a15 (by decide) (i := 0) rfl (Nat.le_of_ble_eq_true rfl) (ys := [x2, 0]) rfl (hb hby at_81) (q := 82) rfl ?_
    intro T h17 _ X N eT W A_a15'
    have A_a11 := A_a11.other W ne_a11_a15
    have sz : n0 ≤ h17.size := by rw [W.size]; exact sz
    have A_a15 := A_a15'
    refine s_aload X hx (hb hby at_82) rfl rfl (q := 84) rfl ?_
    refine s_iconst X hx (z := (1 : Int32)) (hb hby at_84) rfl (q := 85) rfl ?_
    refine s_iloadN X hx (hb hby at_85) rfl (q := 86) rfl ?_
    refine s_iastore X hx hZ eT A_a15 N g_a15 (by decide) (i := 1) rfl (Nat.le_of_ble_eq_true rfl) (ys := [x2, x3]) rfl (hb hby at_86) (q := 87) rfl ?_
    intro T h18 _ X N eT W A_a15'
    have A_a11 := A_a11.other W ne_a11_a15
    have sz : n0 ≤ h18.size := by rw [W.size]; exact sz
    have A_a15 := A_a15'
    refine s_iload X hx (hb hby at_87) rfl (q := 89) rfl ?_
    refine s_iconst X hx (z := (5 : Int32)) (hb hby at_89) rfl (q := 90) rfl ?_
    refine f_icmp_lt X hx (hb hby at_90) (q1 := 98) (by decide) (by decide) (q := 93) rfl (fun _ => ?_) (fun hq => absurd (by decide : (1 : Int32) < (5 : Int32)) hq)
    refine s_aload X hx (hb hby at_98) rfl rfl (q := 100) rfl ?_
    refine s_astore X hx (hb hby at_100) rfl (L' := #[.val (.int x0), .val (.int x1), .val (.int x2), .val (.int x3), .val (.int x4), .val (.int (1 : Int32)), .val (.int (1 : Int32)), .val (.int (0 : Int32)), .val (.int (1 : Int32)), .val (.ref a11), .val (.ref a15), .val (.ref a15), .unset, .unset, .unset, .unset]) rfl (q := 102) rfl ?_
    refine s_aload X hx (hb hby at_102) rfl rfl (q := 104) rfl ?_
    refine s_aload X hx (hb hby at_104) rfl rfl (q := 106) rfl ?_
    refine s_iload X hx (hb hby at_106) rfl (q := 108) rfl ?_
    refine s_iload X hx (hb hby at_108) rfl (q := 110) rfl ?_
    refine callC X hx hZ hown (W := 0) (argsL := [(.ref a11), (.ref a15), (.int (0 : Int32)), (.int (1 : Int32))]) (rest := []) (hw _ (List.mem_of_getElem? (i := 2) rfl)) (hw _ (List.mem_of_getElem? (i := 3) rfl)) (hw _ (List.mem_of_getElem? (i := 4) rfl)) (hw _ (List.mem_of_getElem? (i := 5) rfl)) (by decide) (rm1_01 l Z a0 hw [] a11 a15 x0 x1 x2 x3 h18 n0 sz A_a11 A_a15) eT (by decide) (by decide) (by decide) (by decide) (by rw [hml]; rfl) pd0 rfl rfl (Nat.le_of_ble_eq_true rfl) (hb hby at_110) (q := 113) rfl ?_
    intro v T Lc hQ X
    obtain ⟨h19, eT⟩ : ∃ z, T.heap = z := ⟨_, rfl⟩
    try rw [eT] at hQ
    obtain ⟨t20, rfl, N', K', _, A_t20⟩ := hQ
    have N := Fr.app N N'
    have A_a11 := A_a11.keep K' nin0
    have A_a15 := A_a15.keep K' nin0
    have sz : n0 ≤ h19.size := Nat.le_trans sz K'.1
    refine s_astore X hx (hb hby at_113) rfl (L' := #[.val (.int x0), .val (.int x1), .val (.int x2), .val (.int x3), .val (.int x4), .val (.int (1 : Int32)), .val (.int (1 : Int32)), .val (.int (0 : Int32)), .val (.int (1 : Int32)), .val (.ref a11), .val (.ref a15), .val (.ref a15), .val (.ref t20), .unset, .unset, .unset]) rfl (q := 115) rfl ?_
    refine s_aload X hx (hb hby at_115) rfl rfl (q := 117) rfl ?_
    refine s_lenJ X hx hZ eT (z := (1 : Int32)) A_t20 rfl (hb hby at_117) (q := 118) rfl ?_
    refine s_iload X hx (hb hby at_118) rfl (q := 120) rfl ?_
    refine s_iload X hx (hb hby at_120) rfl (q := 122) rfl ?_
    refine s_isub X hx (hb hby at_122) (q := 123) rfl ?_
    show Go p e below _ T m 123 #[.val (.int x0), .val (.int x1), .val (.int x2), .val (.int x3), .val (.int x4), .val (.int (1 : Int32)), .val (.int (1 : Int32)), .val (.int (0 : Int32)), .val (.int (1 : Int32)), .val (.ref a11), .val (.ref a15), .val (.ref a15), .val (.ref t20), .unset, .unset, .unset] [(.int (1 : Int32)), (.int (1 : Int32))]
    refine f_icmp_eq X hx (hb hby at_123) (q1 := 128) (by decide) (by decide) (q := 126) rfl (fun _ => ?_) (fun hq => absurd (by decide : (1 : Int32) = (1 : Int32)) hq)
    refine s_iconst X hx (z := (1 : Int32)) (hb hby at_128) rfl (q := 129) rfl ?_
    refine s_istore X hx (hb hby at_129) (L' := #[.val (.int x0), .val (.int x1), .val (.int x2), .val (.int x3), .val (.int x4), .val (.int (1 : Int32)), .val (.int (1 : Int32)), .val (.int (0 : Int32)), .val (.int (1 : Int32)), .val (.ref a11), .val (.ref a15), .val (.ref a15), .val (.ref t20), .val (.int (1 : Int32)), .unset, .unset]) rfl (q := 131) rfl ?_
    refine s_aload X hx (hb hby at_131) rfl rfl (q := 133) rfl ?_
    refine s_lenJ X hx hZ eT (z := (1 : Int32)) A_t20 rfl (hb hby at_133) (q := 134) rfl ?_
    refine s_iconst X hx (z := (1 : Int32)) (hb hby at_134) rfl (q := 135) rfl ?_
    refine f_icmp_lt X hx (hb hby at_135) (q1 := 171) (by decide) (by decide) (q := 138) rfl (fun hq => absurd hq (by decide : ¬ (1 : Int32) < (1 : Int32))) (fun _ => ?_)
    refine s_iload X hx (hb hby at_138) rfl (q := 140) rfl ?_
    refine f_if_eq X hx (hb hby at_140) (q1 := 168) (by decide) (by decide) (q := 143) rfl (fun hq => absurd hq (by decide : ¬ (1 : Int32) = 0)) (fun _ => ?_)
    refine s_aload X hx (hb hby at_143) rfl rfl (q := 145) rfl ?_
    refine s_iconst X hx (z := (0 : Int32)) (hb hby at_145) rfl (q := 146) rfl ?_
    refine s_laload X hx hZ eT A_t20 (by decide) (i := 0) rfl (x := (KEY x0 x2)) rfl (hb hby at_146) (q := 147) rfl ?_
    refine s_aload X hx (hb hby at_147) rfl rfl (q := 149) rfl ?_
    refine s_iload X hx (hb hby at_149) rfl (q := 151) rfl ?_
    refine s_iaload X hx hZ eT A_a11 (by decide) (i := 0) rfl (x := x0) rfl (hb hby at_151) (q := 152) rfl ?_
    refine s_aload X hx (hb hby at_152) rfl rfl (q := 154) rfl ?_
    refine s_iload X hx (hb hby at_154) rfl (q := 156) rfl ?_
    refine s_iaload X hx hZ eT A_a15 (by decide) (i := 0) rfl (x := x2) rfl (hb hby at_156) (q := 157) rfl ?_
    refine callP X hx hZ hown (W := 2) (argsL := [(.int x0), (.int x2)]) (rest := [(.long (KEY x0 x2))]) (hw _ (List.mem_of_getElem? (i := 9) rfl)) (hw _ (List.mem_of_getElem? (i := 10) rfl)) (hw _ (List.mem_of_getElem? (i := 11) rfl)) (hw _ (List.mem_of_getElem? (i := 12) rfl)) (by decide) (rm2 l Z a0 hw [] x0 x2 h19) rfl rfl eT (by decide) (by decide) (by decide) (by decide) (by rw [hml]; rfl) pd1 rfl rfl (Nat.le_of_ble_eq_true rfl) (hb hby at_157) (q := 160) rfl ?_
    intro T X eT
    refine s_lcmp X hx (hb hby at_160) (q := 161) rfl ?_
    refine f_lcmp_ne X hx (hb hby at_161) (q1 := 168) (by decide) (by decide) (q := 164) rfl (fun hq => absurd (own_exp _ _ : (KEY x0 x2) = (F2 x0 x2)) hq) (fun _ => ?_)
    refine s_iconst X hx (z := (1 : Int32)) (hb hby at_164) rfl (q := 165) rfl ?_
    refine s_goto X hx (hb hby at_165) (q1 := 169) (by decide) (by decide) ?_
    refine s_istore X hx (hb hby at_169) (L' := #[.val (.int x0), .val (.int x1), .val (.int x2), .val (.int x3), .val (.int x4), .val (.int (1 : Int32)), .val (.int (1 : Int32)), .val (.int (0 : Int32)), .val (.int (1 : Int32)), .val (.ref a11), .val (.ref a15), .val (.ref a15), .val (.ref t20), .val (.int (1 : Int32)), .unset, .unset]) rfl (q := 171) rfl ?_
    refine s_aload X hx (hb hby at_171) rfl rfl (q := 173) rfl ?_
    refine s_lenJ X hx hZ eT (z := (1 : Int32)) A_t20 rfl (hb hby at_173) (q := 174) rfl ?_
    refine s_iconst X hx (z := (2 : Int32)) (hb hby at_174) rfl (q := 175) rfl ?_
    refine f_icmp_ne X hx (hb hby at_175) (q1 := 334) (by decide) (by decide) (q := 178) rfl (fun _ => ?_) (fun hq => absurd hq (by decide : ¬ (1 : Int32) = (2 : Int32)))
    refine s_iload X hx (hb hby at_334) rfl (q := 336) rfl ?_
    exact leafN X hx hlk hret (by simp) (hb hby at_336) (by decide) (by decide) (z' := 1) rfl ⟨rfl, N⟩
  · subst hcase
    refine s_iload X hx (hb hby at_10) rfl (q := 12) rfl ?_
    refine s_iconst X hx (z := (5 : Int32)) (hb hby at_12) rfl (q := 13) rfl ?_
    refine s_irem X hx (hb hby at_13) (by decide) (q := 14) rfl ?_
    show Go p e below _ T m 14 #[.val (.int x0), .val (.int x1), .val (.int x2), .val (.int x3), .val (.int x4), .val (.int (2 : Int32)), .unset, .unset, .unset, .unset, .unset, .unset, .unset, .unset, .unset, .unset] [(.int (2 : Int32))]
    refine s_istore X hx (hb hby at_14) (L' := #[.val (.int x0), .val (.int x1), .val (.int x2), .val (.int x3), .val (.int x4), .val (.int (2 : Int32)), .val (.int (2 : Int32)), .unset, .unset, .unset, .unset, .unset, .unset, .unset, .unset, .unset]) rfl (q := 16) rfl ?_
    refine s_iload X hx (hb hby at_16) rfl (q := 18) rfl ?_
    refine s_iconst X hx (z := (2 : Int32)) (hb hby at_18) rfl (q := 19) rfl ?_
    refine f_icmp_gt X hx (hb hby at_19) (q1 := 26) (by decide) (by decide) (q := 22) rfl (fun hq => absurd hq (by decide : ¬ (2 : Int32) < (2 : Int32))) (fun _ => ?_)
    refine s_iconst X hx (z := (0 : Int32)) (hb hby at_22) rfl (q := 23) rfl ?_
    refine s_goto X hx (hb hby at_23) (q1 := 27) (by decide) (by decide) ?_
    refine s_istore X hx (hb hby at_27) (L' := #[.val (.int x0), .val (.int x1), .val (.int x2), .val (.int x3), .val (.int x4), .val (.int (2 : Int32)), .val (.int (2 : Int32)), .val (.int (0 : Int32)), .unset, .unset, .unset, .unset, .unset, .unset, .unset, .unset]) rfl (q := 29) rfl ?_
    refine s_iload X hx (hb hby at_29) rfl (q := 31) rfl ?_
    refine f_if_ne X hx (hb hby at_31) (q1 := 38) (by decide) (by decide) (q := 34) rfl (fun _ => ?_) (fun hq => absurd hq (by decide : ¬ (2 : Int32) = 0))
    refine s_iload X hx (hb hby at_38) rfl (q := 40) rfl ?_
    refine s_iconst X hx (z := (1 : Int32)) (hb hby at_40) rfl (q := 41) rfl ?_
    refine f_icmp_eq X hx (hb hby at_41) (q1 := 50) (by decide) (by decide) (q := 44) rfl (fun hq => absurd hq (by decide : ¬ (2 : Int32) = (1 : Int32))) (fun _ => ?_)
    refine s_iload X hx (hb hby at_44) rfl (q := 46) rfl ?_
    refine s_iconst X hx (z := (3 : Int32)) (hb hby at_46) rfl (q := 47) rfl ?_
    refine f_icmp_ne X hx (hb hby at_47) (q1 := 54) (by decide) (by decide) (q := 50) rfl (fun _ => ?_) (fun hq => absurd hq (by decide : ¬ (2 : Int32) = (3 : Int32)))
    refine s_iconst X hx (z := (2 : Int32)) (hb hby at_54) rfl (q := 55) rfl ?_
    refine s_istore X hx (hb hby at_55) (L' := #[.val (.int x0), .val (.int x1), .val (.int x2), .val (.int x3), .val (.int x4), .val (.int (2 : Int32)), .val (.int (2 : Int32)), .val (.int (0 : Int32)), .val (.int (2 : Int32)), .unset, .unset, .unset, .unset, .unset, .unset, .unset]) rfl (q := 57) rfl ?_
    refine s_iconst X hx (z := (2 : Int32)) (hb hby at_57) rfl (q := 58) rfl ?_
    refine s_newI X hx hZ (hw _ (List.mem_of_getElem? (i := 1) rfl)) eT (by decide) (cap := 2) (by decide) (by decide) (by decide) (by decide) (ys := [0, 0]) rfl (hb hby at_58) (q := 60) rfl ?_
    intro T h22 a21 X eT E ea A_a21
    have g_a21 : n0 ≤ a21 := by rw [ea]; exact sz
    have sz : n0 ≤ h22.size := Nat.le_trans sz E.1
    refine s_astore X hx (hb hby at_60) rfl (L' := #[.val (.int x0), .val (.int x1), .val (.int x2), .val (.int x3), .val (.int x4), .val (.int (2 : Int32)), .val (.int (2 : Int32)), .val (.int (0 : Int32)), .val (.int (2 : Int32)), .val (.ref a21), .unset, .unset, .unset, .unset, .unset, .unset]) rfl (q := 62) rfl ?_
    refine s_aload X hx (hb hby at_62) rfl rfl (q := 64) rfl ?_
    refine s_iconst X hx (z := (0 : Int32)) (hb hby at_64) rfl (q := 65) rfl ?_
    refine s_iloadN X hx (hb hby at_65) rfl (q := 66) rfl ?_
    refine s_iastore X hx hZ eT A_a21 N g_a21 (by decide) (i := 0) rfl (Nat.le_of_ble_eq_true rfl) (ys := [x0, 0]) rfl (hb hby at_66) (q := 67) rfl ?_
    intro T h23 _ X N eT W A_a21'
    have sz : n0 ≤ h23.size := by rw [W.size]; exact sz
    have A_a21 := A_a21'
    refine s_aload X hx (hb hby at_67) rfl rfl (q := 69) rfl ?_
    refine s_iconst X hx (z := (1 : Int32)) (hb hby at_69) rfl (q := 70) rfl ?_
    refine s_iloadN X hx (hb hby at_70) rfl (q := 71) rfl ?_
    refine s_iastore X hx hZ eT A_a21 N g_a21 (by decide) (i := 1) rfl (Nat.le_of_ble_eq_true rfl) (ys := [x0, x1]) rfl (hb hby at_71) (q := 72) rfl ?_
    intro T h24 _ X N eT W A_a21'
    have sz : n0 ≤ h24.size := by rw [W.size]; exact sz
    have A_a21 := A_a21'
    refine s_iconst X hx (z := (2 : Int32)) (hb hby at_72) rfl (q := 73) rfl ?_
    refine s_newI X hx hZ (hw _ (List.mem_of_getElem? (i := 1) rfl)) eT (by decide) (cap := 2) (by decide) (by decide) (by decide) (by decide) (ys := [0, 0]) rfl (hb hby at_73) (q := 75) rfl ?_
    intro T h26 a25 X eT E ea A_a25
    have ne_a21_a25 : a21 ≠ a25 := by rw [ea]; exact Nat.ne_of_lt A_a21.lt
    have A_a21 := A_a21.ext E
    have g_a25 : n0 ≤ a25 := by rw [ea]; exact sz
    have sz : n0 ≤ h26.size := Nat.le_trans sz E.1
    refine s_astore X hx (hb hby at_75) rfl (L' := #[.val (.int x0), .val (.int x1), .val (.int x2), .val (.int x3), .val (.int x4), .val (.int (2 : Int32)), .val (.int (2 : Int32)), .val (.int (0 : Int32)), .val (.int (2 : Int32)), .val (.ref a21), .val (.ref a25), .unset, .unset, .unset, .unset, .unset]) rfl (q := 77) rfl ?_
    refine s_aload X hx (hb hby at_77) rfl rfl (q := 79) rfl ?_
    refine s_iconst X hx (z := (0 : Int32)) (hb hby at_79) rfl (q := 80) rfl ?_
    refine s_iloadN X hx (hb hby at_80) rfl (q := 81) rfl ?_
    refine s_iastore X hx hZ eT A_a25 N g_a25 (by decide) (i := 0) rfl (Nat.le_of_ble_eq_true rfl) (ys := [x2, 0]) rfl (hb hby at_81) (q := 82) rfl ?_
    intro T h27 _ X N eT W A_a25'
    have A_a21 := A_a21.other W ne_a21_a25
    have sz : n0 ≤ h27.size := by rw [W.size]; exact sz
    have A_a25 := A_a25'
    refine s_aload X hx (hb hby at_82) rfl rfl (q := 84) rfl ?_
    refine s_iconst X hx (z := (1 : Int32)) (hb hby at_84) rfl (q := 85) rfl ?_
    refine s_iloadN X hx (hb hby at_85) rfl (q := 86) rfl ?_
    refine s_iastore X hx hZ eT A_a25 N g_a25 (by decide) (i := 1) rfl (Nat.le_of_ble_eq_true rfl) (ys := [x2, x3]) rfl (hb hby at_86) (q := 87) rfl ?_
    intro T h28 _ X N eT W A_a25'
    have A_a21 := A_a21.other W ne_a21_a25
    have sz : n0 ≤ h28.size := by rw [W.size]; exact sz
    have A_a25 := A_a25'
    refine s_iload X hx (hb hby at_87) rfl (q := 89) rfl ?_
    refine s_iconst X hx (z := (5 : Int32)) (hb hby at_89) rfl (q := 90) rfl ?_
    refine f_icmp_lt X hx (hb hby at_90) (q1 := 98) (by decide) (by decide) (q := 93) rfl (fun _ => ?_) (fun hq => absurd (by decide : (2 : Int32) < (5 : Int32)) hq)
    refine s_aload X hx (hb hby at_98) rfl rfl (q := 100) rfl ?_
    refine s_astore X hx (hb hby at_100) rfl (L' := #[.val (.int x0), .val (.int x1), .val (.int x2), .val (.int x3), .val (.int x4), .val (.int (2 : Int32)), .val (.int (2 : Int32)), .val (.int (0 : Int32)), .val (.int (2 : Int32)), .val (.ref a21), .val (.ref a25), .val (.ref a25), .unset, .unset, .unset, .unset]) rfl (q := 102) rfl ?_
    refine s_aload X hx (hb hby at_102) rfl rfl (q := 104) rfl ?_
    refine s_aload X hx (hb hby at_104) rfl rfl (q := 106) rfl ?_
    refine s_iload X hx (hb hby at_106) rfl (q := 108) rfl ?_
    refine s_iload X hx (hb hby at_108) rfl (q := 110) rfl ?_
    refine callC X hx hZ hown (W := 0) (argsL := [(.ref a21), (.ref a25), (.int (0 : Int32)), (.int (2 : Int32))]) (rest := []) (hw _ (List.mem_of_getElem? (i := 2) rfl)) (hw _ (List.mem_of_getElem? (i := 3) rfl)) (hw _ (List.mem_of_getElem? (i := 4) rfl)) (hw _ (List.mem_of_getElem? (i := 5) rfl)) (by decide) (rm1_02 l Z a0 hw [] a21 a25 x0 x1 x2 x3 h28 n0 sz A_a21 A_a25) eT (by decide) (by decide) (by decide) (by decide) (by rw [hml]; rfl) pd0 rfl rfl (Nat.le_of_ble_eq_true rfl) (hb hby at_110) (q := 113) rfl ?_
    intro v T Lc hQ X
    obtain ⟨h29, eT⟩ : ∃ z, T.heap = z := ⟨_, rfl⟩
    try rw [eT] at hQ
    obtain ⟨t30, rfl, N', K', _, A_t30⟩ := hQ
    have N := Fr.app N N'
    have A_a21 := A_a21.keep K' nin0
    have A_a25 := A_a25.keep K' nin0
    have sz : n0 ≤ h29.size := Nat.le_trans sz K'.1
    refine s_astore X hx (hb hby at_113) rfl (L' := #[.val (.int x0), .val (.int x1), .val (.int x2), .val (.int x3), .val (.int x4), .val (.int (2 : Int32)), .val (.int (2 : Int32)), .val (.int (0 : Int32)), .val (.int (2 : Int32)), .val (.ref a21), .val (.ref a25), .val (.ref a25), .val (.ref t30), .unset, .unset, .unset]) rfl (q := 115) rfl ?_
    refine s_aload X hx (hb hby at_115) rfl rfl (q := 117) rfl ?_
    refine s_lenJ X hx hZ eT (z := (2 : Int32)) A_t30 rfl (hb hby at_117) (q := 118) rfl ?_
    refine s_iload X hx (hb hby at_118) rfl (q := 120) rfl ?_
    refine s_iload X hx (hb hby at_120) rfl (q := 122) rfl ?_
    refine s_isub X hx (hb hby at_122) (q := 123) rfl ?_
    show Go p e below _ T m 123 #[.val (.int x0), .val (.int x1), .val (.int x2), .val (.int x3), .val (.int x4), .val (.int (2 : Int32)), .val (.int (2 : Int32)), .val (.int (0 : Int32)), .val (.int (2 : Int32)), .val (.ref a21), .val (.ref a25), .val (.ref a25), .val (.ref t30), .unset, .unset, .unset] [(.int (2 : Int32)), (.int (2 : Int32))]
    refine f_icmp_eq X hx (hb hby at_123) (q1 := 128) (by decide) (by decide) (q := 126) rfl (fun _ => ?_) (fun hq => absurd (by decide : (2 : Int32) = (2 : Int32)) hq)
    refine s_iconst X hx (z := (1 : Int32)) (hb hby at_128) rfl (q := 129) rfl ?_
    refine s_istore X hx (hb hby at_129) (L' := #[.val (.int x0), .val (.int x1), .val (.int x2), .val (.int x3), .val (.int x4), .val (.int (2 : Int32)), .val (.int (2 : Int32)), .val (.int (0 : Int32)), .val (.int (2 : Int32)), .val (.ref a21), .val (.ref a25), .val (.ref a25), .val (.ref t30), .val (.int (1 : Int32)), .unset, .unset]) rfl (q := 131) rfl ?_
    refine s_aload X hx (hb hby at_131) rfl rfl (q := 133) rfl ?_
    refine s_lenJ X hx hZ eT (z := (2 : Int32)) A_t30 rfl (hb hby at_133) (q := 134) rfl ?_
    refine s_iconst X hx (z := (1 : Int32)) (hb hby at_134) rfl (q := 135) rfl ?_
    refine f_icmp_lt X hx (hb hby at_135) (q1 := 171) (by decide) (by decide) (q := 138) rfl (fun hq => absurd hq (by decide : ¬ (2 : Int32) < (1 : Int32))) (fun _ => ?_)
    refine s_iload X hx (hb hby at_138) rfl (q := 140) rfl ?_
    refine f_if_eq X hx (hb hby at_140) (q1 := 168) (by decide) (by decide) (q := 143) rfl (fun hq => absurd hq (by decide : ¬ (1 : Int32) = 0)) (fun _ => ?_)
    refine s_aload X hx (hb hby at_143) rfl rfl (q := 145) rfl ?_
    refine s_iconst X hx (z := (0 : Int32)) (hb hby at_145) rfl (q := 146) rfl ?_
    refine s_laload X hx hZ eT A_t30 (by decide) (i := 0) rfl (x := (KEY x0 x2)) rfl (hb hby at_146) (q := 147) rfl ?_
    refine s_aload X hx (hb hby at_147) rfl rfl (q := 149) rfl ?_
    refine s_iload X hx (hb hby at_149) rfl (q := 151) rfl ?_
    refine s_iaload X hx hZ eT A_a21 (by decide) (i := 0) rfl (x := x0) rfl (hb hby at_151) (q := 152) rfl ?_
    refine s_aload X hx (hb hby at_152) rfl rfl (q := 154) rfl ?_
    refine s_iload X hx (hb hby at_154) rfl (q := 156) rfl ?_
    refine s_iaload X hx hZ eT A_a25 (by decide) (i := 0) rfl (x := x2) rfl (hb hby at_156) (q := 157) rfl ?_
    refine callP X hx hZ hown (W := 2) (argsL := [(.int x0), (.int x2)]) (rest := [(.long (KEY x0 x2))]) (hw _ (List.mem_of_getElem? (i := 9) rfl)) (hw _ (List.mem_of_getElem? (i := 10) rfl)) (hw _ (List.mem_of_getElem? (i := 11) rfl)) (hw _ (List.mem_of_getElem? (i := 12) rfl)) (by decide) (rm2 l Z a0 hw [] x0 x2 h29) rfl rfl eT (by decide) (by decide) (by decide) (by decide) (by rw [hml]; rfl) pd1 rfl rfl (Nat.le_of_ble_eq_true rfl) (hb hby at_157) (q := 160) rfl ?_
    intro T X eT
    refine s_lcmp X hx (hb hby at_160) (q := 161) rfl ?_
    refine f_lcmp_ne X hx (hb hby at_161) (q1 := 168) (by decide) (by decide) (q := 164) rfl (fun hq => absurd (own_exp _ _ : (KEY x0 x2) = (F2 x0 x2)) hq) (fun _ => ?_)
    refine s_iconst X hx (z := (1 : Int32)) (hb hby at_164) rfl (q := 165) rfl ?_
    refine s_goto X hx (hb hby at_165) (q1 := 169) (by decide) (by decide) ?_
    refine s_istore X hx (hb hby at_169) (L' := #[.val (.int x0), .val (.int x1), .val (.int x2), .val (.int x3), .val (.int x4), .val (.int (2 : Int32)), .val (.int (2 : Int32)), .val (.int (0 : Int32)), .val (.int (2 : Int32)), .val (.ref a21), .val (.ref a25), .val (.ref a25), .val (.ref t30), .val (.int (1 : Int32)), .unset, .unset]) rfl (q := 171) rfl ?_
    refine s_aload X hx (hb hby at_171) rfl rfl (q := 173) rfl ?_
    refine s_lenJ X hx hZ eT (z := (2 : Int32)) A_t30 rfl (hb hby at_173) (q := 174) rfl ?_
    refine s_iconst X hx (z := (2 : Int32)) (hb hby at_174) rfl (q := 175) rfl ?_
    refine f_icmp_ne X hx (hb hby at_175) (q1 := 334) (by decide) (by decide) (q := 178) rfl (fun hq => absurd (by decide : (2 : Int32) = (2 : Int32)) hq) (fun _ => ?_)
    refine s_iload X hx (hb hby at_178) rfl (q := 180) rfl ?_
    refine f_if_eq X hx (hb hby at_180) (q1 := 206) (by decide) (by decide) (q := 183) rfl (fun hq => absurd hq (by decide : ¬ (1 : Int32) = 0)) (fun _ => ?_)
    refine s_aload X hx (hb hby at_183) rfl rfl (q := 185) rfl ?_
    refine s_iconst X hx (z := (1 : Int32)) (hb hby at_185) rfl (q := 186) rfl ?_
    refine s_laload X hx hZ eT A_t30 (by decide) (i := 1) rfl (x := (KEY x1 x3)) rfl (hb hby at_186) (q := 187) rfl ?_
    refine s_aload X hx (hb hby at_187) rfl rfl (q := 189) rfl ?_
    refine s_iconst X hx (z := (1 : Int32)) (hb hby at_189) rfl (q := 190) rfl ?_
    refine s_iaload X hx hZ eT A_a21 (by decide) (i := 1) rfl (x := x1) rfl (hb hby at_190) (q := 191) rfl ?_
    refine s_aload X hx (hb hby at_191) rfl rfl (q := 193) rfl ?_
    refine s_iconst X hx (z := (1 : Int32)) (hb hby at_193) rfl (q := 194) rfl ?_
    refine s_iaload X hx hZ eT A_a25 (by decide) (i := 1) rfl (x := x3) rfl (hb hby at_194) (q := 195) rfl ?_
    refine callP X hx hZ hown (W := 2) (argsL := [(.int x1), (.int x3)]) (rest := [(.long (KEY x1 x3))]) (hw _ (List.mem_of_getElem? (i := 9) rfl)) (hw _ (List.mem_of_getElem? (i := 10) rfl)) (hw _ (List.mem_of_getElem? (i := 11) rfl)) (hw _ (List.mem_of_getElem? (i := 12) rfl)) (by decide) (rm2 l Z a0 hw [] x1 x3 h29) rfl rfl eT (by decide) (by decide) (by decide) (by decide) (by rw [hml]; rfl) pd1 rfl rfl (Nat.le_of_ble_eq_true rfl) (hb hby at_195) (q := 198) rfl ?_
    intro T X eT
    refine s_lcmp X hx (hb hby at_198) (q := 199) rfl ?_
    refine f_lcmp_ne X hx (hb hby at_199) (q1 := 206) (by decide) (by decide) (q := 202) rfl (fun hq => absurd (own_exp _ _ : (KEY x1 x3) = (F2 x1 x3)) hq) (fun _ => ?_)
    refine s_iconst X hx (z := (1 : Int32)) (hb hby at_202) rfl (q := 203) rfl ?_
    refine s_goto X hx (hb hby at_203) (q1 := 207) (by decide) (by decide) ?_
    refine s_istore X hx (hb hby at_207) (L' := #[.val (.int x0), .val (.int x1), .val (.int x2), .val (.int x3), .val (.int x4), .val (.int (2 : Int32)), .val (.int (2 : Int32)), .val (.int (0 : Int32)), .val (.int (2 : Int32)), .val (.ref a21), .val (.ref a25), .val (.ref a25), .val (.ref t30), .val (.int (1 : Int32)), .unset, .unset]) rfl (q := 209) rfl ?_
    refine s_aload X hx (hb hby at_209) rfl rfl (q := 211) rfl ?_
    refine s_iconst X hx (z := (0 : Int32)) (hb hby at_211) rfl (q := 212) rfl ?_
    refine s_iaload X hx hZ eT A_a21 (by decide) (i := 0) rfl (x := x0) rfl (hb hby at_212) (q := 213) rfl ?_
    refine s_aload X hx (hb hby at_213) rfl rfl (q := 215) rfl ?_
    refine s_iconst X hx (z := (1 : Int32)) (hb hby at_215) rfl (q := 216) rfl ?_
    refine s_iaload X hx hZ eT A_a21 (by decide) (i := 1) rfl (x := x1) rfl (hb hby at_216) (q := 217) rfl ?_
    refine jn (T2 := T) (pc2 := 247) (L2 := #[.val (.int x0), .val (.int x1), .val (.int x2), .val (.int x3), .val (.int x4), .val (.int (2 : Int32)), .val (.int (2 : Int32)), .val (.int (0 : Int32)), .val (.int (2 : Int32)), .val (.ref a21), .val (.ref a25), .val (.ref a25), .val (.ref t30), .val (.int (1 : Int32)), .unset, .unset]) (S2 := [(.int (if x0 < x1 then (1 : Int32) else (if x0 = x1 then (if x2 < x3 then (1 : Int32) else (0 : Int32)) else (0 : Int32))))]) (fun key217 => ?_) ?_
    · refine f_icmp_lt X hx (hb hby at_217) (q1 := 242) (by decide) (by decide) (q := 220) rfl (fun hc217 => ?_) (fun hc217 => ?_)
      · refine s_iconst X hx (z := (1 : Int32)) (hb hby at_242) rfl (q := 243) rfl ?_
        refine s_goto X hx (hb hby at_243) (q1 := 247) (by decide) (by decide) ?_
        simpa only [if_pos hc217] using key217
      refine s_aload X hx (hb hby at_220) rfl rfl (q := 222) rfl ?_
      refine s_iconst X hx (z := (0 : Int32)) (hb hby at_222) rfl (q := 223) rfl ?_
      refine s_iaload X hx hZ eT A_a21 (by decide) (i := 0) rfl (x := x0) rfl (hb hby at_223) (q := 224) rfl ?_
      refine s_aload X hx (hb hby at_224) rfl rfl (q := 226) rfl ?_
      refine s_iconst X hx (z := (1 : Int32)) (hb hby at_226) rfl (q := 227) rfl ?_
      refine s_iaload X hx hZ eT A_a21 (by decide) (i := 1) rfl (x := x1) rfl (hb hby at_227) (q := 228) rfl ?_
      refine f_icmp_ne X hx (hb hby at_228) (q1 := 246) (by decide) (by decide) (q := 231) rfl (fun hc228 => ?_) (fun hc228 => ?_)
      · refine s_iconst X hx (z := (0 : Int32)) (hb hby at_246) rfl (q := 247) rfl ?_
        simpa only [if_neg hc217, if_neg hc228] using key217
      refine s_aload X hx (hb hby at_231) rfl rfl (q := 233) rfl ?_
      refine s_iconst X hx (z := (0 : Int32)) (hb hby at_233) rfl (q := 234) rfl ?_
      refine s_iaload X hx hZ eT A_a25 (by decide) (i := 0) rfl (x := x2) rfl (hb hby at_234) (q := 235) rfl ?_
      refine s_aload X hx (hb hby at_235) rfl rfl (q := 237) rfl ?_
      refine s_iconst X hx (z := (1 : Int32)) (hb hby at_237) rfl (q := 238) rfl ?_
      refine s_iaload X hx hZ eT A_a25 (by decide) (i := 1) rfl (x := x3) rfl (hb hby at_238) (q := 239) rfl ?_
      refine f_icmp_ge X hx (hb hby at_239) (q1 := 246) (by decide) (by decide) (q := 242) rfl (fun hc239 => ?_) (fun hc239 => ?_)
      · refine s_iconst X hx (z := (0 : Int32)) (hb hby at_246) rfl (q := 247) rfl ?_
        simpa only [if_neg hc217, if_pos hc228, if_neg hc239] using key217
      refine s_iconst X hx (z := (1 : Int32)) (hb hby at_242) rfl (q := 243) rfl ?_
      refine s_goto X hx (hb hby at_243) (q1 := 247) (by decide) (by decide) ?_
      simpa only [if_neg hc217, if_pos hc228, if_pos hc239] using key217
    refine s_istore X hx (hb hby at_247) (L' := #[.val (.int x0), .val (.int x1), .val (.int x2), .val (.int x3), .val (.int x4), .val (.int (2 : Int32)), .val (.int (2 : Int32)), .val (.int (0 : Int32)), .val (.int (2 : Int32)), .val (.ref a21), .val (.ref a25), .val (.ref a25), .val (.ref t30), .val (.int (1 : Int32)), .val (.int (if x0 < x1 then (1 : Int32) else (if x0 = x1 then (if x2 < x3 then (1 : Int32) else (0 : Int32)) else (0 : Int32)))), .unset]) rfl (q := 249) rfl ?_
    refine s_aload X hx (hb hby at_249) rfl rfl (q := 251) rfl ?_
    refine s_iconst X hx (z := (0 : Int32)) (hb hby at_251) rfl (q := 252) rfl ?_
    refine s_iaload X hx hZ eT A_a21 (by decide) (i := 0) rfl (x := x0) rfl (hb hby at_252) (q := 253) rfl ?_
    refine s_aload X hx (hb hby at_253) rfl rfl (q := 255) rfl ?_
    refine s_iconst X hx (z := (1 : Int32)) (hb hby at_255) rfl (q := 256) rfl ?_
    refine s_iaload X hx hZ eT A_a21 (by decide) (i := 1) rfl (x := x1) rfl (hb hby at_256) (q := 257) rfl ?_
    refine jn (T2 := T) (pc2 := 276) (L2 := #[.val (.int x0), .val (.int x1), .val (.int x2), .val (.int x3), .val (.int x4), .val (.int (2 : Int32)), .val (.int (2 : Int32)), .val (.int (0 : Int32)), .val (.int (2 : Int32)), .val (.ref a21), .val (.ref a25), .val (.ref a25), .val (.ref t30), .val (.int (1 : Int32)), .val (.int (if x0 < x1 then (1 : Int32) else (if x0 = x1 then (if x2 < x3 then (1 : Int32) else (0 : Int32)) else (0 : Int32)))), .unset]) (S2 := [(.int (if x0 = x1 then (if x2 = x3 then (1 : Int32) else (0 : Int32)) else (0 : Int32)))]) (fun key257 => ?_) ?_
    · refine f_icmp_ne X hx (hb hby at_257) (q1 := 275) (by decide) (by decide) (q := 260) rfl (fun hc257 => ?_) (fun hc257 => ?_)
      · refine s_iconst X hx (z := (0 : Int32)) (hb hby at_275) rfl (q := 276) rfl ?_
        simpa only [if_neg hc257] using key257
      refine s_aload X hx (hb hby at_260) rfl rfl (q := 262) rfl ?_
      refine s_iconst X hx (z := (0 : Int32)) (hb hby at_262) rfl (q := 263) rfl ?_
      refine s_iaload X hx hZ eT A_a25 (by decide) (i := 0) rfl (x := x2) rfl (hb hby at_263) (q := 264) rfl ?_
      refine s_aload X hx (hb hby at_264) rfl rfl (q := 266) rfl ?_
      refine s_iconst X hx (z := (1 : Int32)) (hb hby at_266) rfl (q := 267) rfl ?_
      refine s_iaload X hx hZ eT A_a25 (by decide) (i := 1) rfl (x := x3) rfl (hb hby at_267) (q := 268) rfl ?_
      refine f_icmp_ne X hx (hb hby at_268) (q1 := 275) (by decide) (by decide) (q := 271) rfl (fun hc268 => ?_) (fun hc268 => ?_)
      · refine s_iconst X hx (z := (0 : Int32)) (hb hby at_275) rfl (q := 276) rfl ?_
        simpa only [if_pos hc257, if_neg hc268] using key257
      refine s_iconst X hx (z := (1 : Int32)) (hb hby at_271) rfl (q := 272) rfl ?_
      refine s_goto X hx (hb hby at_272) (q1 := 276) (by decide) (by decide) ?_
      simpa only [if_pos hc257, if_pos hc268] using key257
    refine s_istore X hx (hb hby at_276) (L' := #[.val (.int x0), .val (.int x1), .val (.int x2), .val (.int x3), .val (.int x4), .val (.int (2 : Int32)), .val (.int (2 : Int32)), .val (.int (0 : Int32)), .val (.int (2 : Int32)), .val (.ref a21), .val (.ref a25), .val (.ref a25), .val (.ref t30), .val (.int (1 : Int32)), .val (.int (if x0 < x1 then (1 : Int32) else (if x0 = x1 then (if x2 < x3 then (1 : Int32) else (0 : Int32)) else (0 : Int32)))), .val (.int (if x0 = x1 then (if x2 = x3 then (1 : Int32) else (0 : Int32)) else (0 : Int32)))]) rfl (q := 278) rfl ?_
    refine s_iload X hx (hb hby at_278) rfl (q := 280) rfl ?_
    refine f_if_eq X hx (hb hby at_280) (q1 := 331) (by decide) (by decide) (q := 283) rfl (fun hq => absurd hq (by decide : ¬ (1 : Int32) = 0)) (fun _ => ?_)
    refine s_aload X hx (hb hby at_283) rfl rfl (q := 285) rfl ?_
    refine s_iconst X hx (z := (0 : Int32)) (hb hby at_285) rfl (q := 286) rfl ?_
    refine s_laload X hx hZ eT A_t30 (by decide) (i := 0) rfl (x := (KEY x0 x2)) rfl (hb hby at_286) (q := 287) rfl ?_
    refine s_aload X hx (hb hby at_287) rfl rfl (q := 289) rfl ?_
    refine s_iconst X hx (z := (1 : Int32)) (hb hby at_289) rfl (q := 290) rfl ?_
    refine s_laload X hx hZ eT A_t30 (by decide) (i := 1) rfl (x := (KEY x1 x3)) rfl (hb hby at_290) (q := 291) rfl ?_
    refine s_lcmp X hx (hb hby at_291) (q := 292) rfl ?_
    refine jn (T2 := T) (pc2 := 300) (L2 := #[.val (.int x0), .val (.int x1), .val (.int x2), .val (.int x3), .val (.int x4), .val (.int (2 : Int32)), .val (.int (2 : Int32)), .val (.int (0 : Int32)), .val (.int (2 : Int32)), .val (.ref a21), .val (.ref a25), .val (.ref a25), .val (.ref t30), .val (.int (1 : Int32)), .val (.int (if x0 < x1 then (1 : Int32) else (if x0 = x1 then (if x2 < x3 then (1 : Int32) else (0 : Int32)) else (0 : Int32)))), .val (.int (if x0 = x1 then (if x2 = x3 then (1 : Int32) else (0 : Int32)) else (0 : Int32)))]) (S2 := [(.int (if (KEY x0 x2) < (KEY x1 x3) then (1 : Int32) else (0 : Int32)))]) (fun key292 => ?_) ?_
    · refine f_lcmp_ge X hx (hb hby at_292) (q1 := 299) (by decide) (by decide) (q := 295) rfl (fun hc292 => ?_) (fun hc292 => ?_)
      · refine s_iconst X hx (z := (0 : Int32)) (hb hby at_299) rfl (q := 300) rfl ?_
        simpa only [if_neg hc292] using key292
      refine s_iconst X hx (z := (1 : Int32)) (hb hby at_295) rfl (q := 296) rfl ?_
      refine s_goto X hx (hb hby at_296) (q1 := 300) (by decide) (by decide) ?_
      simpa only [if_pos hc292] using key292
    refine s_iload X hx (hb hby at_300) rfl (q := 302) rfl ?_
    refine f_icmp_ne X hx (hb hby at_302) (q1 := 331) (by decide) (by decide) (q := 305) rfl (fun hq => absurd (own_less _ _ _ _ : (if (KEY x0 x2) < (KEY x1 x3) then (1 : Int32) else (0 : Int32)) = (if x0 < x1 then (1 : Int32) else (if x0 = x1 then (if x2 < x3 then (1 : Int32) else (0 : Int32)) else (0 : Int32)))) hq) (fun _ => ?_)
    refine s_aload X hx (hb hby at_305) rfl rfl (q := 307) rfl ?_
    refine s_iconst X hx (z := (0 : Int32)) (hb hby at_307) rfl (q := 308) rfl ?_
    refine s_laload X hx hZ eT A_t30 (by decide) (i := 0) rfl (x := (KEY x0 x2)) rfl (hb hby at_308) (q := 309) rfl ?_
    refine s_aload X hx (hb hby at_309) rfl rfl (q := 311) rfl ?_
    refine s_iconst X hx (z := (1 : Int32)) (hb hby at_311) rfl (q := 312) rfl ?_
    refine s_laload X hx hZ eT A_t30 (by decide) (i := 1) rfl (x := (KEY x1 x3)) rfl (hb hby at_312) (q := 313) rfl ?_
    refine s_lcmp X hx (hb hby at_313) (q := 314) rfl ?_
    refine jn (T2 := T) (pc2 := 322) (L2 := #[.val (.int x0), .val (.int x1), .val (.int x2), .val (.int x3), .val (.int x4), .val (.int (2 : Int32)), .val (.int (2 : Int32)), .val (.int (0 : Int32)), .val (.int (2 : Int32)), .val (.ref a21), .val (.ref a25), .val (.ref a25), .val (.ref t30), .val (.int (1 : Int32)), .val (.int (if x0 < x1 then (1 : Int32) else (if x0 = x1 then (if x2 < x3 then (1 : Int32) else (0 : Int32)) else (0 : Int32)))), .val (.int (if x0 = x1 then (if x2 = x3 then (1 : Int32) else (0 : Int32)) else (0 : Int32)))]) (S2 := [(.int (if (KEY x0 x2) = (KEY x1 x3) then (1 : Int32) else (0 : Int32)))]) (fun key314 => ?_) ?_
    · refine f_lcmp_ne X hx (hb hby at_314) (q1 := 321) (by decide) (by decide) (q := 317) rfl (fun hc314 => ?_) (fun hc314 => ?_)
      · refine s_iconst X hx (z := (0 : Int32)) (hb hby at_321) rfl (q := 322) rfl ?_
        simpa only [if_neg hc314] using key314
      refine s_iconst X hx (z := (1 : Int32)) (hb hby at_317) rfl (q := 318) rfl ?_
      refine s_goto X hx (hb hby at_318) (q1 := 322) (by decide) (by decide) ?_
      simpa only [if_pos hc314] using key314
    refine s_iload X hx (hb hby at_322) rfl (q := 324) rfl ?_
    refine f_icmp_ne X hx (hb hby at_324) (q1 := 331) (by decide) (by decide) (q := 327) rfl (fun hq => absurd (own_same _ _ _ _ : (if (KEY x0 x2) = (KEY x1 x3) then (1 : Int32) else (0 : Int32)) = (if x0 = x1 then (if x2 = x3 then (1 : Int32) else (0 : Int32)) else (0 : Int32))) hq) (fun _ => ?_)
    refine s_iconst X hx (z := (1 : Int32)) (hb hby at_327) rfl (q := 328) rfl ?_
    refine s_goto X hx (hb hby at_328) (q1 := 332) (by decide) (by decide) ?_
    refine s_istore X hx (hb hby at_332) (L' := #[.val (.int x0), .val (.int x1), .val (.int x2), .val (.int x3), .val (.int x4), .val (.int (2 : Int32)), .val (.int (2 : Int32)), .val (.int (0 : Int32)), .val (.int (2 : Int32)), .val (.ref a21), .val (.ref a25), .val (.ref a25), .val (.ref t30), .val (.int (1 : Int32)), .val (.int (if x0 < x1 then (1 : Int32) else (if x0 = x1 then (if x2 < x3 then (1 : Int32) else (0 : Int32)) else (0 : Int32)))), .val (.int (if x0 = x1 then (if x2 = x3 then (1 : Int32) else (0 : Int32)) else (0 : Int32)))]) rfl (q := 334) rfl ?_
    refine s_iload X hx (hb hby at_334) rfl (q := 336) rfl ?_
    exact leafN X hx hlk hret (by simp) (hb hby at_336) (by decide) (by decide) (z' := 1) rfl ⟨rfl, N⟩
  · subst hcase
    refine s_iload X hx (hb hby at_10) rfl (q := 12) rfl ?_
    refine s_iconst X hx (z := (5 : Int32)) (hb hby at_12) rfl (q := 13) rfl ?_
    refine s_irem X hx (hb hby at_13) (by decide) (q := 14) rfl ?_
    show Go p e below _ T m 14 #[.val (.int x0), .val (.int x1), .val (.int x2), .val (.int x3), .val (.int x4), .val (.int (3 : Int32)), .unset, .unset, .unset, .unset, .unset, .unset, .unset, .unset, .unset, .unset] [(.int (3 : Int32))]
    refine s_istore X hx (hb hby at_14) (L' := #[.val (.int x0), .val (.int x1), .val (.int x2), .val (.int x3), .val (.int x4), .val (.int (3 : Int32)), .val (.int (3 : Int32)), .unset, .unset, .unset, .unset, .unset, .unset, .unset, .unset, .unset]) rfl (q := 16) rfl ?_
    refine s_iload X hx (hb hby at_16) rfl (q := 18) rfl ?_
    refine s_iconst X hx (z := (2 : Int32)) (hb hby at_18) rfl (q := 19) rfl ?_
    refine f_icmp_gt X hx (hb hby at_19) (q1 := 26) (by decide) (by decide) (q := 22) rfl (fun _ => ?_) (fun hq => absurd (by decide : (2 : Int32) < (3 : Int32)) hq)
    refine s_iconst X hx (z := (1 : Int32)) (hb hby at_26) rfl (q := 27) rfl ?_
    refine s_istore X hx (hb hby at_27) (L' := #[.val (.int x0), .val (.int x1), .val (.int x2), .val (.int x3), .val (.int x4), .val (.int (3 : Int32)), .val (.int (3 : Int32)), .val (.int (1 : Int32)), .unset, .unset, .unset, .unset, .unset, .unset, .unset, .unset]) rfl (q := 29) rfl ?_
    refine s_iload X hx (hb hby at_29) rfl (q := 31) rfl ?_
    refine f_if_ne X hx (hb hby at_31) (q1 := 38) (by decide) (by decide) (q := 34) rfl (fun _ => ?_) (fun hq => absurd hq (by decide : ¬ (3 : Int32) = 0))
    refine s_iload X hx (hb hby at_38) rfl (q := 40) rfl ?_
    refine s_iconst X hx (z := (1 : Int32)) (hb hby at_40) rfl (q := 41) rfl ?_
    refine f_icmp_eq X hx (hb hby at_41) (q1 := 50) (by decide) (by decide) (q := 44) rfl (fun hq => absurd hq (by decide : ¬ (3 : Int32) = (1 : Int32))) (fun _ => ?_)
    refine s_iload X hx (hb hby at_44) rfl (q := 46) rfl ?_
    refine s_iconst X hx (z := (3 : Int32)) (hb hby at_46) rfl (q := 47) rfl ?_
    refine f_icmp_ne X hx (hb hby at_47) (q1 := 54) (by decide) (by decide) (q := 50) rfl (fun hq => absurd (by decide : (3 : Int32) = (3 : Int32)) hq) (fun _ => ?_)
    refine s_iconst X hx (z := (1 : Int32)) (hb hby at_50) rfl (q := 51) rfl ?_
    refine s_goto X hx (hb hby at_51) (q1 := 55) (by decide) (by decide) ?_
    refine s_istore X hx (hb hby at_55) (L' := #[.val (.int x0), .val (.int x1), .val (.int x2), .val (.int x3), .val (.int x4), .val (.int (3 : Int32)), .val (.int (3 : Int32)), .val (.int (1 : Int32)), .val (.int (1 : Int32)), .unset, .unset, .unset, .unset, .unset, .unset, .unset]) rfl (q := 57) rfl ?_
    refine s_iconst X hx (z := (2 : Int32)) (hb hby at_57) rfl (q := 58) rfl ?_
    refine s_newI X hx hZ (hw _ (List.mem_of_getElem? (i := 1) rfl)) eT (by decide) (cap := 2) (by decide) (by decide) (by decide) (by decide) (ys := [0, 0]) rfl (hb hby at_58) (q := 60) rfl ?_
    intro T h32 a31 X eT E ea A_a31
    have g_a31 : n0 ≤ a31 := by rw [ea]; exact sz
    have sz : n0 ≤ h32.size := Nat.le_trans sz E.1
    refine s_astore X hx (hb hby at_60) rfl (L' := #[.val (.int x0), .val (.int x1), .val (.int x2), .val (.int x3), .val (.int x4), .val (.int (3 : Int32)), .val (.int (3 : Int32)), .val (.int (1 : Int32)), .val (.int (1 : Int32)), .val (.ref a31), .unset, .unset, .unset, .unset, .unset, .unset]) rfl (q := 62) rfl ?_
    refine s_aload X hx (hb hby at_62) rfl rfl (q := 64) rfl ?_
    refine s_iconst X hx (z := (0 : Int32)) (hb hby at_64) rfl (q := 65) rfl ?_
    refine s_iloadN X hx (hb hby at_65) rfl (q := 66) rfl ?_
    refine s_iastore X hx hZ eT A_a31 N g_a31 (by decide) (i := 0) rfl (Nat.le_of_ble_eq_true rfl) (ys := [x0, 0]) rfl (hb hby at_66) (q := 67) rfl ?_
    intro T h33 _ X N eT W A_a31'
    have sz : n0 ≤ h33.size := by rw [W.size]; exact sz
    have A_a31 := A_a31'
    refine s_aload X hx (hb hby at_67) rfl rfl (q := 69) rfl ?_
    refine s_iconst X hx (z := (1 : Int32)) (hb hby at_69) rfl (q := 70) rfl ?_
    refine s_iloadN X hx (hb hby at_70) rfl (q := 71) rfl ?_
    refine s_iastore X hx hZ eT A_a31 N g_a31 (by decide) (i := 1) rfl (Nat.le_of_ble_eq_true rfl) (ys := [x0, x1]) rfl (hb hby at_71) (q := 72) rfl ?_
    intro T h34 _ X N eT W A_a31'
    have sz : n0 ≤ h34.size := by rw [W.size]; exact sz
    have A_a31 := A_a31'
    refine s_iconst X hx (z := (2 : Int32)) (hb hby at_72) rfl (q := 73) rfl ?_
    refine s_newI X hx hZ (hw _ (List.mem_of_getElem? (i := 1) rfl)) eT (by decide) (cap := 2) (by decide) (by decide) (by decide) (by decide) (ys := [0, 0]) rfl (hb hby at_73) (q := 75) rfl ?_
    intro T h36 a35 X eT E ea A_a35
    have ne_a31_a35 : a31 ≠ a35 := by rw [ea]; exact Nat.ne_of_lt A_a31.lt
    have A_a31 := A_a31.ext E
    have g_a35 : n0 ≤ a35 := by rw [ea]; exact sz
    have sz : n0 ≤ h36.size := Nat.le_trans sz E.1
    refine s_astore X hx (hb hby at_75) rfl (L' := #[.val (.int x0), .val (.int x1), .val (.int x2), .val (.int x3), .val (.int x4), .val (.int (3 : Int32)), .val (.int (3 : Int32)), .val (.int (1 : Int32)), .val (.int (1 : Int32)), .val (.ref a31), .val (.ref a35), .unset, .unset, .unset, .unset, .unset]) rfl (q := 77) rfl ?_
    refine s_aload X hx (hb hby at_77) rfl rfl (q := 79) rfl ?_
    refine s_iconst X hx (z := (0 : Int32)) (hb hby at_79) rfl (q := 80) rfl ?_
    refine s_iloadN X hx (hb hby at_80) rfl (q := 81) rfl ?_
    refine s_iastore X hx hZ eT A_a35 N g_a35 (by decide) (i := 0) rfl (Nat.le_of_ble_eq_true rfl) (ys := [x2, 0]) rfl (hb hby at_81) (q := 82) rfl ?_
    intro T h37 _ X N eT W A_a35'
    have A_a31 := A_a31.other W ne_a31_a35
    have sz : n0 ≤ h37.size := by rw [W.size]; exact sz
    have A_a35 := A_a35'
    refine s_aload X hx (hb hby at_82) rfl rfl (q := 84) rfl ?_
    refine s_iconst X hx (z := (1 : Int32)) (hb hby at_84) rfl (q := 85) rfl ?_
    refine s_iloadN X hx (hb hby at_85) rfl (q := 86) rfl ?_
    refine s_iastore X hx hZ eT A_a35 N g_a35 (by decide) (i := 1) rfl (Nat.le_of_ble_eq_true rfl) (ys := [x2, x3]) rfl (hb hby at_86) (q := 87) rfl ?_
    intro T h38 _ X N eT W A_a35'
    have A_a31 := A_a31.other W ne_a31_a35
    have sz : n0 ≤ h38.size := by rw [W.size]; exact sz
    have A_a35 := A_a35'
    refine s_iload X hx (hb hby at_87) rfl (q := 89) rfl ?_
    refine s_iconst X hx (z := (5 : Int32)) (hb hby at_89) rfl (q := 90) rfl ?_
    refine f_icmp_lt X hx (hb hby at_90) (q1 := 98) (by decide) (by decide) (q := 93) rfl (fun _ => ?_) (fun hq => absurd (by decide : (3 : Int32) < (5 : Int32)) hq)
    refine s_aload X hx (hb hby at_98) rfl rfl (q := 100) rfl ?_
    refine s_astore X hx (hb hby at_100) rfl (L' := #[.val (.int x0), .val (.int x1), .val (.int x2), .val (.int x3), .val (.int x4), .val (.int (3 : Int32)), .val (.int (3 : Int32)), .val (.int (1 : Int32)), .val (.int (1 : Int32)), .val (.ref a31), .val (.ref a35), .val (.ref a35), .unset, .unset, .unset, .unset]) rfl (q := 102) rfl ?_
    refine s_aload X hx (hb hby at_102) rfl rfl (q := 104) rfl ?_
    refine s_aload X hx (hb hby at_104) rfl rfl (q := 106) rfl ?_
    refine s_iload X hx (hb hby at_106) rfl (q := 108) rfl ?_
    refine s_iload X hx (hb hby at_108) rfl (q := 110) rfl ?_
    refine callC X hx hZ hown (W := 0) (argsL := [(.ref a31), (.ref a35), (.int (1 : Int32)), (.int (1 : Int32))]) (rest := []) (hw _ (List.mem_of_getElem? (i := 2) rfl)) (hw _ (List.mem_of_getElem? (i := 3) rfl)) (hw _ (List.mem_of_getElem? (i := 4) rfl)) (hw _ (List.mem_of_getElem? (i := 5) rfl)) (by decide) (rm1_11 l Z a0 hw [] a31 a35 x0 x1 x2 x3 h38 n0 sz A_a31 A_a35) eT (by decide) (by decide) (by decide) (by decide) (by rw [hml]; rfl) pd0 rfl rfl (Nat.le_of_ble_eq_true rfl) (hb hby at_110) (q := 113) rfl ?_
    intro v T Lc hQ X
    obtain ⟨h39, eT⟩ : ∃ z, T.heap = z := ⟨_, rfl⟩
    try rw [eT] at hQ
    obtain ⟨t40, rfl, N', K', _, A_t40⟩ := hQ
    have N := Fr.app N N'
    have A_a31 := A_a31.keep K' nin0
    have A_a35 := A_a35.keep K' nin0
    have sz : n0 ≤ h39.size := Nat.le_trans sz K'.1
    refine s_astore X hx (hb hby at_113) rfl (L' := #[.val (.int x0), .val (.int x1), .val (.int x2), .val (.int x3), .val (.int x4), .val (.int (3 : Int32)), .val (.int (3 : Int32)), .val (.int (1 : Int32)), .val (.int (1 : Int32)), .val (.ref a31), .val (.ref a35), .val (.ref a35), .val (.ref t40), .unset, .unset, .unset]) rfl (q := 115) rfl ?_
    refine s_aload X hx (hb hby at_115) rfl rfl (q := 117) rfl ?_
    refine s_lenJ X hx hZ eT (z := (0 : Int32)) A_t40 rfl (hb hby at_117) (q := 118) rfl ?_
    refine s_iload X hx (hb hby at_118) rfl (q := 120) rfl ?_
    refine s_iload X hx (hb hby at_120) rfl (q := 122) rfl ?_
    refine s_isub X hx (hb hby at_122) (q := 123) rfl ?_
    show Go p e below _ T m 123 #[.val (.int x0), .val (.int x1), .val (.int x2), .val (.int x3), .val (.int x4), .val (.int (3 : Int32)), .val (.int (3 : Int32)), .val (.int (1 : Int32)), .val (.int (1 : Int32)), .val (.ref a31), .val (.ref a35), .val (.ref a35), .val (.ref t40), .unset, .unset, .unset] [(.int (0 : Int32)), (.int (0 : Int32))]
    refine f_icmp_eq X hx (hb hby at_123) (q1 := 128) (by decide) (by decide) (q := 126) rfl (fun _ => ?_) (fun hq => absurd (by decide : (0 : Int32) = (0 : Int32)) hq)
    refine s_iconst X hx (z := (1 : Int32)) (hb hby at_128) rfl (q := 129) rfl ?_
    refine s_istore X hx (hb hby at_129) (L' := #[.val (.int x0), .val (.int x1), .val (.int x2), .val (.int x3), .val (.int x4), .val (.int (3 : Int32)), .val (.int (3 : Int32)), .val (.int (1 : Int32)), .val (.int (1 : Int32)), .val (.ref a31), .val (.ref a35), .val (.ref a35), .val (.ref t40), .val (.int (1 : Int32)), .unset, .unset]) rfl (q := 131) rfl ?_
    refine s_aload X hx (hb hby at_131) rfl rfl (q := 133) rfl ?_
    refine s_lenJ X hx hZ eT (z := (0 : Int32)) A_t40 rfl (hb hby at_133) (q := 134) rfl ?_
    refine s_iconst X hx (z := (1 : Int32)) (hb hby at_134) rfl (q := 135) rfl ?_
    refine f_icmp_lt X hx (hb hby at_135) (q1 := 171) (by decide) (by decide) (q := 138) rfl (fun _ => ?_) (fun hq => absurd (by decide : (0 : Int32) < (1 : Int32)) hq)
    refine s_aload X hx (hb hby at_171) rfl rfl (q := 173) rfl ?_
    refine s_lenJ X hx hZ eT (z := (0 : Int32)) A_t40 rfl (hb hby at_173) (q := 174) rfl ?_
    refine s_iconst X hx (z := (2 : Int32)) (hb hby at_174) rfl (q := 175) rfl ?_
    refine f_icmp_ne X hx (hb hby at_175) (q1 := 334) (by decide) (by decide) (q := 178) rfl (fun _ => ?_) (fun hq => absurd hq (by decide : ¬ (0 : Int32) = (2 : Int32)))
    refine s_iload X hx (hb hby at_334) rfl (q := 336) rfl ?_
    exact leafN X hx hlk hret (by simp) (hb hby at_336) (by decide) (by decide) (z' := 1) rfl ⟨rfl, N⟩
  · subst hcase
    refine s_iload X hx (hb hby at_10) rfl (q := 12) rfl ?_
    refine s_iconst X hx (z := (5 : Int32)) (hb hby at_12) rfl (q := 13) rfl ?_
    refine s_irem X hx (hb hby at_13) (by decide) (q := 14) rfl ?_
    show Go p e below _ T m 14 #[.val (.int x0), .val (.int x1), .val (.int x2), .val (.int x3), .val (.int x4), .val (.int (4 : Int32)), .unset, .unset, .unset, .unset, .unset, .unset, .unset, .unset, .unset, .unset] [(.int (4 : Int32))]
    refine s_istore X hx (hb hby at_14) (L' := #[.val (.int x0), .val (.int x1), .val (.int x2), .val (.int x3), .val (.int x4), .val (.int (4 : Int32)), .val (.int (4 : Int32)), .unset, .unset, .unset, .unset, .unset, .unset, .unset, .unset, .unset]) rfl (q := 16) rfl ?_
    refine s_iload X hx (hb hby at_16) rfl (q := 18) rfl ?_
    refine s_iconst X hx (z := (2 : Int32)) (hb hby at_18) rfl (q := 19) rfl ?_
    refine f_icmp_gt X hx (hb hby at_19) (q1 := 26) (by decide) (by decide) (q := 22) rfl (fun _ => ?_) (fun hq => absurd (by decide : (2 : Int32) < (4 : Int32)) hq)
    refine s_iconst X hx (z := (1 : Int32)) (hb hby at_26) rfl (q := 27) rfl ?_
    refine s_istore X hx (hb hby at_27) (L' := #[.val (.int x0), .val (.int x1), .val (.int x2), .val (.int x3), .val (.int x4), .val (.int (4 : Int32)), .val (.int (4 : Int32)), .val (.int (1 : Int32)), .unset, .unset, .unset, .unset, .unset, .unset, .unset, .unset]) rfl (q := 29) rfl ?_
    refine s_iload X hx (hb hby at_29) rfl (q := 31) rfl ?_
    refine f_if_ne X hx (hb hby at_31) (q1 := 38) (by decide) (by decide) (q := 34) rfl (fun _ => ?_) (fun hq => absurd hq (by decide : ¬ (4 : Int32) = 0))
    refine s_iload X hx (hb hby at_38) rfl (q := 40) rfl ?_
    refine s_iconst X hx (z := (1 : Int32)) (hb hby at_40) rfl (q := 41) rfl ?_
    refine f_icmp_eq X hx (hb hby at_41) (q1 := 50) (by decide) (by decide) (q := 44) rfl (fun hq => absurd hq (by decide : ¬ (4 : Int32) = (1 : Int32))) (fun _ => ?_)
    refine s_iload X hx (hb hby at_44) rfl (q := 46) rfl ?_
    refine s_iconst X hx (z := (3 : Int32)) (hb hby at_46) rfl (q := 47) rfl ?_
    refine f_icmp_ne X hx (hb hby at_47) (q1 := 54) (by decide) (by decide) (q := 50) rfl (fun _ => ?_) (fun hq => absurd hq (by decide : ¬ (4 : Int32) = (3 : Int32)))
    refine s_iconst X hx (z := (2 : Int32)) (hb hby at_54) rfl (q := 55) rfl ?_
    refine s_istore X hx (hb hby at_55) (L' := #[.val (.int x0), .val (.int x1), .val (.int x2), .val (.int x3), .val (.int x4), .val (.int (4 : Int32)), .val (.int (4 : Int32)), .val (.int (1 : Int32)), .val (.int (2 : Int32)), .unset, .unset, .unset, .unset, .unset, .unset, .unset]) rfl (q := 57) rfl ?_
    refine s_iconst X hx (z := (2 : Int32)) (hb hby at_57) rfl (q := 58) rfl ?_
    refine s_newI X hx hZ (hw _ (List.mem_of_getElem? (i := 1) rfl)) eT (by decide) (cap := 2) (by decide) (by decide) (by decide) (by decide) (ys := [0, 0]) rfl (hb hby at_58) (q := 60) rfl ?_
    intro T h42 a41 X eT E ea A_a41
    have g_a41 : n0 ≤ a41 := by rw [ea]; exact sz
    have sz : n0 ≤ h42.size := Nat.le_trans sz E.1
    refine s_astore X hx (hb hby at_60) rfl (L' := #[.val (.int x0), .val (.int x1), .val (.int x2), .val (.int x3), .val (.int x4), .val (.int (4 : Int32)), .val (.int (4 : Int32)), .val (.int (1 : Int32)), .val (.int (2 : Int32)), .val (.ref a41), .unset, .unset, .unset, .unset, .unset, .unset]) rfl (q := 62) rfl ?_
    refine s_aload X hx (hb hby at_62) rfl rfl (q := 64) rfl ?_
    refine s_iconst X hx (z := (0 : Int32)) (hb hby at_64) rfl (q := 65) rfl ?_
    refine s_iloadN X hx (hb hby at_65) rfl (q := 66) rfl ?_
    refine s_iastore X hx hZ eT A_a41 N g_a41 (by decide) (i := 0) rfl (Nat.le_of_ble_eq_true rfl) (ys := [x0, 0]) rfl (hb hby at_66) (q := 67) rfl ?_
    intro T h43 _ X N eT W A_a41'
    have sz : n0 ≤ h43.size := by rw [W.size]; exact sz
    have A_a41 := A_a41'
    refine s_aload X hx (hb hby at_67) rfl rfl (q := 69) rfl ?_
    refine s_iconst X hx (z := (1 : Int32)) (hb hby at_69) rfl (q := 70) rfl ?_
    refine s_iloadN X hx (hb hby at_70) rfl (q := 71) rfl ?_
    refine s_iastore X hx hZ eT A_a41 N g_a41 (by decide) (i := 1) rfl (Nat.le_of_ble_eq_true rfl) (ys := [x0, x1]) rfl (hb hby at_71) (q := 72) rfl ?_
    intro T h44 _ X N eT W A_a41'
    have sz : n0 ≤ h44.size := by rw [W.size]; exact sz
    have A_a41 := A_a41'
    refine s_iconst X hx (z := (2 : Int32)) (hb hby at_72) rfl (q := 73) rfl ?_
    refine s_newI X hx hZ (hw _ (List.mem_of_getElem? (i := 1) rfl)) eT (by decide) (cap := 2) (by decide) (by decide) (by decide) (by decide) (ys := [0, 0]) rfl (hb hby at_73) (q := 75) rfl ?_
    intro T h46 a45 X eT E ea A_a45
    have ne_a41_a45 : a41 ≠ a45 := by rw [ea]; exact Nat.ne_of_lt A_a41.lt
    have A_a41 := A_a41.ext E
    have g_a45 : n0 ≤ a45 := by rw [ea]; exact sz
    have sz : n0 ≤ h46.size := Nat.le_trans sz E.1
    refine s_astore X hx (hb hby at_75) rfl (L' := #[.val (.int x0), .val (.int x1), .val (.int x2), .val (.int x3), .val (.int x4), .val (.int (4 : Int32)), .val (.int (4 : Int32)), .val (.int (1 : Int32)), .val (.int (2 : Int32)), .val (.ref a41), .val (.ref a45), .unset, .unset, .unset, .unset, .unset]) rfl (q := 77) rfl ?_
    refine s_aload X hx (hb hby at_77) rfl rfl (q := 79) rfl ?_
    refine s_iconst X hx (z := (0 : Int32)) (hb hby at_79) rfl (q := 80) rfl ?_
    refine s_iloadN X hx (hb hby at_80) rfl (q := 81) rfl ?_
    refine s_iastore X hx hZ eT A_a45 N g_a45 (by decide) (i := 0) rfl (Nat.le_of_ble_eq_true rfl) (ys := [x2, 0]) rfl (hb hby at_81) (q := 82) rfl ?_
    intro T h47 _ X N eT W A_a45'
    have A_a41 := A_a41.other W ne_a41_a45
    have sz : n0 ≤ h47.size := by rw [W.size]; exact sz
    have A_a45 := A_a45'
    refine s_aload X hx (hb hby at_82) rfl rfl (q := 84) rfl ?_
    refine s_iconst X hx (z := (1 : Int32)) (hb hby at_84) rfl (q := 85) rfl ?_
    refine s_iloadN X hx (hb hby at_85) rfl (q := 86) rfl ?_
    refine s_iastore X hx hZ eT A_a45 N g_a45 (by decide) (i := 1) rfl (Nat.le_of_ble_eq_true rfl) (ys := [x2, x3]) rfl (hb hby at_86) (q := 87) rfl ?_
    intro T h48 _ X N eT W A_a45'
    have A_a41 := A_a41.other W ne_a41_a45
    have sz : n0 ≤ h48.size := by rw [W.size]; exact sz
    have A_a45 := A_a45'
    refine s_iload X hx (hb hby at_87) rfl (q := 89) rfl ?_
    refine s_iconst X hx (z := (5 : Int32)) (hb hby at_89) rfl (q := 90) rfl ?_
    refine f_icmp_lt X hx (hb hby at_90) (q1 := 98) (by decide) (by decide) (q := 93) rfl (fun _ => ?_) (fun hq => absurd (by decide : (4 : Int32) < (5 : Int32)) hq)
    refine s_aload X hx (hb hby at_98) rfl rfl (q := 100) rfl ?_
    refine s_astore X hx (hb hby at_100) rfl (L' := #[.val (.int x0), .val (.int x1), .val (.int x2), .val (.int x3), .val (.int x4), .val (.int (4 : Int32)), .val (.int (4 : Int32)), .val (.int (1 : Int32)), .val (.int (2 : Int32)), .val (.ref a41), .val (.ref a45), .val (.ref a45), .unset, .unset, .unset, .unset]) rfl (q := 102) rfl ?_
    refine s_aload X hx (hb hby at_102) rfl rfl (q := 104) rfl ?_
    refine s_aload X hx (hb hby at_104) rfl rfl (q := 106) rfl ?_
    refine s_iload X hx (hb hby at_106) rfl (q := 108) rfl ?_
    refine s_iload X hx (hb hby at_108) rfl (q := 110) rfl ?_
    refine callC X hx hZ hown (W := 0) (argsL := [(.ref a41), (.ref a45), (.int (1 : Int32)), (.int (2 : Int32))]) (rest := []) (hw _ (List.mem_of_getElem? (i := 2) rfl)) (hw _ (List.mem_of_getElem? (i := 3) rfl)) (hw _ (List.mem_of_getElem? (i := 4) rfl)) (hw _ (List.mem_of_getElem? (i := 5) rfl)) (by decide) (rm1_12 l Z a0 hw [] a41 a45 x0 x1 x2 x3 h48 n0 sz A_a41 A_a45) eT (by decide) (by decide) (by decide) (by decide) (by rw [hml]; rfl) pd0 rfl rfl (Nat.le_of_ble_eq_true rfl) (hb hby at_110) (q := 113) rfl ?_
    intro v T Lc hQ X
    obtain ⟨h49, eT⟩ : ∃ z, T.heap = z := ⟨_, rfl⟩
    try rw [eT] at hQ
    obtain ⟨t50, rfl, N', K', _, A_t50⟩ := hQ
    have N := Fr.app N N'
    have A_a41 := A_a41.keep K' nin0
    have A_a45 := A_a45.keep K' nin0
    have sz : n0 ≤ h49.size := Nat.le_trans sz K'.1
    refine s_astore X hx (hb hby at_113) rfl (L' := #[.val (.int x0), .val (.int x1), .val (.int x2), .val (.int x3), .val (.int x4), .val (.int (4 : Int32)), .val (.int (4 : Int32)), .val (.int (1 : Int32)), .val (.int (2 : Int32)), .val (.ref a41), .val (.ref a45), .val (.ref a45), .val (.ref t50), .unset, .unset, .unset]) rfl (q := 115) rfl ?_
    refine s_aload X hx (hb hby at_115) rfl rfl (q := 117) rfl ?_
    refine s_lenJ X hx hZ eT (z := (1 : Int32)) A_t50 rfl (hb hby at_117) (q := 118) rfl ?_
    refine s_iload X hx (hb hby at_118) rfl (q := 120) rfl ?_
    refine s_iload X hx (hb hby at_120) rfl (q := 122) rfl ?_
    refine s_isub X hx (hb hby at_122) (q := 123) rfl ?_
    show Go p e below _ T m 123 #[.val (.int x0), .val (.int x1), .val (.int x2), .val (.int x3), .val (.int x4), .val (.int (4 : Int32)), .val (.int (4 : Int32)), .val (.int (1 : Int32)), .val (.int (2 : Int32)), .val (.ref a41), .val (.ref a45), .val (.ref a45), .val (.ref t50), .unset, .unset, .unset] [(.int (1 : Int32)), (.int (1 : Int32))]
    refine f_icmp_eq X hx (hb hby at_123) (q1 := 128) (by decide) (by decide) (q := 126) rfl (fun _ => ?_) (fun hq => absurd (by decide : (1 : Int32) = (1 : Int32)) hq)
    refine s_iconst X hx (z := (1 : Int32)) (hb hby at_128) rfl (q := 129) rfl ?_
    refine s_istore X hx (hb hby at_129) (L' := #[.val (.int x0), .val (.int x1), .val (.int x2), .val (.int x3), .val (.int x4), .val (.int (4 : Int32)), .val (.int (4 : Int32)), .val (.int (1 : Int32)), .val (.int (2 : Int32)), .val (.ref a41), .val (.ref a45), .val (.ref a45), .val (.ref t50), .val (.int (1 : Int32)), .unset, .unset]) rfl (q := 131) rfl ?_
    refine s_aload X hx (hb hby at_131) rfl rfl (q := 133) rfl ?_
    refine s_lenJ X hx hZ eT (z := (1 : Int32)) A_t50 rfl (hb hby at_133) (q := 134) rfl ?_
    refine s_iconst X hx (z := (1 : Int32)) (hb hby at_134) rfl (q := 135) rfl ?_
    refine f_icmp_lt X hx (hb hby at_135) (q1 := 171) (by decide) (by decide) (q := 138) rfl (fun hq => absurd hq (by decide : ¬ (1 : Int32) < (1 : Int32))) (fun _ => ?_)
    refine s_iload X hx (hb hby at_138) rfl (q := 140) rfl ?_
    refine f_if_eq X hx (hb hby at_140) (q1 := 168) (by decide) (by decide) (q := 143) rfl (fun hq => absurd hq (by decide : ¬ (1 : Int32) = 0)) (fun _ => ?_)
    refine s_aload X hx (hb hby at_143) rfl rfl (q := 145) rfl ?_
    refine s_iconst X hx (z := (0 : Int32)) (hb hby at_145) rfl (q := 146) rfl ?_
    refine s_laload X hx hZ eT A_t50 (by decide) (i := 0) rfl (x := (KEY x1 x3)) rfl (hb hby at_146) (q := 147) rfl ?_
    refine s_aload X hx (hb hby at_147) rfl rfl (q := 149) rfl ?_
    refine s_iload X hx (hb hby at_149) rfl (q := 151) rfl ?_
    refine s_iaload X hx hZ eT A_a41 (by decide) (i := 1) rfl (x := x1) rfl (hb hby at_151) (q := 152) rfl ?_
    refine s_aload X hx (hb hby at_152) rfl rfl (q := 154) rfl ?_
    refine s_iload X hx (hb hby at_154) rfl (q := 156) rfl ?_
    refine s_iaload X hx hZ eT A_a45 (by decide) (i := 1) rfl (x := x3) rfl (hb hby at_156) (q := 157) rfl ?_
    refine callP X hx hZ hown (W := 2) (argsL := [(.int x1), (.int x3)]) (rest := [(.long (KEY x1 x3))]) (hw _ (List.mem_of_getElem? (i := 9) rfl)) (hw _ (List.mem_of_getElem? (i := 10) rfl)) (hw _ (List.mem_of_getElem? (i := 11) rfl)) (hw _ (List.mem_of_getElem? (i := 12) rfl)) (by decide) (rm2 l Z a0 hw [] x1 x3 h49) rfl rfl eT (by decide) (by decide) (by decide) (by decide) (by rw [hml]; rfl) pd1 rfl rfl (Nat.le_of_ble_eq_true rfl) (hb hby at_157) (q := 160) rfl ?_
    intro T X eT
    refine s_lcmp X hx (hb hby at_160) (q := 161) rfl ?_
    refine f_lcmp_ne X hx (hb hby at_161) (q1 := 168) (by decide) (by decide) (q := 164) rfl (fun hq => absurd (own_exp _ _ : (KEY x1 x3) = (F2 x1 x3)) hq) (fun _ => ?_)
    refine s_iconst X hx (z := (1 : Int32)) (hb hby at_164) rfl (q := 165) rfl ?_
    refine s_goto X hx (hb hby at_165) (q1 := 169) (by decide) (by decide) ?_
    refine s_istore X hx (hb hby at_169) (L' := #[.val (.int x0), .val (.int x1), .val (.int x2), .val (.int x3), .val (.int x4), .val (.int (4 : Int32)), .val (.int (4 : Int32)), .val (.int (1 : Int32)), .val (.int (2 : Int32)), .val (.ref a41), .val (.ref a45), .val (.ref a45), .val (.ref t50), .val (.int (1 : Int32)), .unset, .unset]) rfl (q := 171) rfl ?_
    refine s_aload X hx (hb hby at_171) rfl rfl (q := 173) rfl ?_
    refine s_lenJ X hx hZ eT (z := (1 : Int32)) A_t50 rfl (hb hby at_173) (q := 174) rfl ?_
    refine s_iconst X hx (z := (2 : Int32)) (hb hby at_174) rfl (q := 175) rfl ?_
    refine f_icmp_ne X hx (hb hby at_175) (q1 := 334) (by decide) (by decide) (q := 178) rfl (fun _ => ?_) (fun hq => absurd hq (by decide : ¬ (1 : Int32) = (2 : Int32)))
    refine s_iload X hx (hb hby at_334) rfl (q := 336) rfl ?_
    exact leafN X hx hlk hret (by simp) (hb hby at_336) (by decide) (by decide) (z' := 1) rfl ⟨rfl, N⟩
  · subst hcase
    refine s_iload X hx (hb hby at_10) rfl (q := 12) rfl ?_
    refine s_iconst X hx (z := (5 : Int32)) (hb hby at_12) rfl (q := 13) rfl ?_
    refine s_irem X hx (hb hby at_13) (by decide) (q := 14) rfl ?_
    show Go p e below _ T m 14 #[.val (.int x0), .val (.int x1), .val (.int x2), .val (.int x3), .val (.int x4), .val (.int (5 : Int32)), .unset, .unset, .unset, .unset, .unset, .unset, .unset, .unset, .unset, .unset] [(.int (0 : Int32))]
    refine s_istore X hx (hb hby at_14) (L' := #[.val (.int x0), .val (.int x1), .val (.int x2), .val (.int x3), .val (.int x4), .val (.int (5 : Int32)), .val (.int (0 : Int32)), .unset, .unset, .unset, .unset, .unset, .unset, .unset, .unset, .unset]) rfl (q := 16) rfl ?_
    refine s_iload X hx (hb hby at_16) rfl (q := 18) rfl ?_
    refine s_iconst X hx (z := (2 : Int32)) (hb hby at_18) rfl (q := 19) rfl ?_
    refine f_icmp_gt X hx (hb hby at_19) (q1 := 26) (by decide) (by decide) (q := 22) rfl (fun hq => absurd hq (by decide : ¬ (2 : Int32) < (0 : Int32))) (fun _ => ?_)
    refine s_iconst X hx (z := (0 : Int32)) (hb hby at_22) rfl (q := 23) rfl ?_
    refine s_goto X hx (hb hby at_23) (q1 := 27) (by decide) (by decide) ?_
    refine s_istore X hx (hb hby at_27) (L' := #[.val (.int x0), .val (.int x1), .val (.int x2), .val (.int x3), .val (.int x4), .val (.int (5 : Int32)), .val (.int (0 : Int32)), .val (.int (0 : Int32)), .unset, .unset, .unset, .unset, .unset, .unset, .unset, .unset]) rfl (q := 29) rfl ?_
    refine s_iload X hx (hb hby at_29) rfl (q := 31) rfl ?_
    refine f_if_ne X hx (hb hby at_31) (q1 := 38) (by decide) (by decide) (q := 34) rfl (fun hq => absurd (by decide : (0 : Int32) = 0) hq) (fun _ => ?_)
    refine s_iconst X hx (z := (0 : Int32)) (hb hby at_34) rfl (q := 35) rfl ?_
    refine s_goto X hx (hb hby at_35) (q1 := 55) (by decide) (by decide) ?_
    refine s_istore X hx (hb hby at_55) (L' := #[.val (.int x0), .val (.int x1), .val (.int x2), .val (.int x3), .val (.int x4), .val (.int (5 : Int32)), .val (.int (0 : Int32)), .val (.int (0 : Int32)), .val (.int (0 : Int32)), .unset, .unset, .unset, .unset, .unset, .unset, .unset]) rfl (q := 57) rfl ?_
    refine s_iconst X hx (z := (2 : Int32)) (hb hby at_57) rfl (q := 58) rfl ?_
    refine s_newI X hx hZ (hw _ (List.mem_of_getElem? (i := 1) rfl)) eT (by decide) (cap := 2) (by decide) (by decide) (by decide) (by decide) (ys := [0, 0]) rfl (hb hby at_58) (q := 60) rfl ?_
    intro T h52 a51 X eT E ea A_a51
    have g_a51 : n0 ≤ a51 := by rw [ea]; exact sz
    have sz : n0 ≤ h52.size := Nat.le_trans sz E.1
    refine s_astore X hx (hb hby at_60) rfl (L' := #[.val (.int x0), .val (.int x1), .val (.int x2), .val (.int x3), .val (.int x4), .val (.int (5 : Int32)), .val (.int (0 : Int32)), .val (.int (0 : Int32)), .val (.int (0 : Int32)), .val (.ref a51), .unset, .unset, .unset, .unset, .unset, .unset]) rfl (q := 62) rfl ?_
    refine s_aload X hx (hb hby at_62) rfl rfl (q := 64) rfl ?_
    refine s_iconst X hx (z := (0 : Int32)) (hb hby at_64) rfl (q := 65) rfl ?_
    refine s_iloadN X hx (hb hby at_65) rfl (q := 66) rfl ?_
    refine s_iastore X hx hZ eT A_a51 N g_a51 (by decide) (i := 0) rfl (Nat.le_of_ble_eq_true rfl) (ys := [x0, 0]) rfl (hb hby at_66) (q := 67) rfl ?_
    intro T h53 _ X N eT W A_a51'
    have sz : n0 ≤ h53.size := by rw [W.size]; exact sz
    have A_a51 := A_a51'
    refine s_aload X hx (hb hby at_67) rfl rfl (q := 69) rfl ?_
    refine s_iconst X hx (z := (1 : Int32)) (hb hby at_69) rfl (q := 70) rfl ?_
    refine s_iloadN X hx (hb hby at_70) rfl (q := 71) rfl ?_
    refine s_iastore X hx hZ eT A_a51 N g_a51 (by decide) (i := 1) rfl (Nat.le_of_ble_eq_true rfl) (ys := [x0, x1]) rfl (hb hby at_71) (q := 72) rfl ?_
    intro T h54 _ X N eT W A_a51'
    have sz : n0 ≤ h54.size := by rw [W.size]; exact sz
    have A_a51 := A_a51'
    refine s_iconst X hx (z := (2 : Int32)) (hb hby at_72) rfl (q := 73) rfl ?_
    refine s_newI X hx hZ (hw _ (List.mem_of_getElem? (i := 1) rfl)) eT (by decide) (cap := 2) (by decide) (by decide) (by decide) (by decide) (ys := [0, 0]) rfl (hb hby at_73) (q := 75) rfl ?_
    intro T h56 a55 X eT E ea A_a55
    have ne_a51_a55 : a51 ≠ a55 := by rw [ea]; exact Nat.ne_of_lt A_a51.lt
    have A_a51 := A_a51.ext E
    have g_a55 : n0 ≤ a55 := by rw [ea]; exact sz
    have sz : n0 ≤ h56.size := Nat.le_trans sz E.1
    refine s_astore X hx (hb hby at_75) rfl (L' := #[.val (.int x0), .val (.int x1), .val (.int x2), .val (.int x3), .val (.int x4), .val (.int (5 : Int32)), .val (.int (0 : Int32)), .val (.int (0 : Int32)), .val (.int (0 : Int32)), .val (.ref a51), .val (.ref a55), .unset, .unset, .unset, .unset, .unset]) rfl (q := 77) rfl ?_
    refine s_aload X hx (hb hby at_77) rfl rfl (q := 79) rfl ?_
    refine s_iconst X hx (z := (0 : Int32)) (hb hby at_79) rfl (q := 80) rfl ?_
    refine s_iloadN X hx (hb hby at_80) rfl (q := 81) rfl ?_
    refine s_iastore X hx hZ eT A_a55 N g_a55 (by decide) (i := 0) rfl (Nat.le_of_ble_eq_true rfl) (ys := [x2, 0]) rfl (hb hby at_81) (q := 82) rfl ?_
    intro T h57 _ X N eT W A_a55'
    have A_a51 := A_a51.other W ne_a51_a55
    have sz : n0 ≤ h57.size := by rw [W.size]; exact sz
    have A_a55 := A_a55'
    refine s_aload X hx (hb hby at_82) rfl rfl (q := 84) rfl ?_
    refine s_iconst X hx (z := (1 : Int32)) (hb hby at_84) rfl (q := 85) rfl ?_
    refine s_iloadN X hx (hb hby at_85) rfl (q := 86) rfl ?_
    refine s_iastore X hx hZ eT A_a55 N g_a55 (by decide) (i := 1) rfl (Nat.le_of_ble_eq_true rfl) (ys := [x2, x3]) rfl (hb hby at_86) (q := 87) rfl ?_
    intro T h58 _ X N eT W A_a55'
    have A_a51 := A_a51.other W ne_a51_a55
    have sz : n0 ≤ h58.size := by rw [W.size]; exact sz
    have A_a55 := A_a55'
    refine s_iload X hx (hb hby at_87) rfl (q := 89) rfl ?_
    refine s_iconst X hx (z := (5 : Int32)) (hb hby at_89) rfl (q := 90) rfl ?_
    refine f_icmp_lt X hx (hb hby at_90) (q1 := 98) (by decide) (by decide) (q := 93) rfl (fun hq => absurd hq (by decide : ¬ (5 : Int32) < (5 : Int32))) (fun _ => ?_)
    refine s_aload X hx (hb hby at_93) rfl rfl (q := 95) rfl ?_
    refine s_goto X hx (hb hby at_95) (q1 := 100) (by decide) (by decide) ?_
    refine s_astore X hx (hb hby at_100) rfl (L' := #[.val (.int x0), .val (.int x1), .val (.int x2), .val (.int x3), .val (.int x4), .val (.int (5 : Int32)), .val (.int (0 : Int32)), .val (.int (0 : Int32)), .val (.int (0 : Int32)), .val (.ref a51), .val (.ref a55), .val (.ref a51), .unset, .unset, .unset, .unset]) rfl (q := 102) rfl ?_
    refine s_aload X hx (hb hby at_102) rfl rfl (q := 104) rfl ?_
    refine s_aload X hx (hb hby at_104) rfl rfl (q := 106) rfl ?_
    refine s_iload X hx (hb hby at_106) rfl (q := 108) rfl ?_
    refine s_iload X hx (hb hby at_108) rfl (q := 110) rfl ?_
    refine callC X hx hZ hown (W := 0) (argsL := [(.ref a51), (.ref a51), (.int (0 : Int32)), (.int (0 : Int32))]) (rest := []) (hw _ (List.mem_of_getElem? (i := 2) rfl)) (hw _ (List.mem_of_getElem? (i := 3) rfl)) (hw _ (List.mem_of_getElem? (i := 4) rfl)) (hw _ (List.mem_of_getElem? (i := 5) rfl)) (by decide) (rm1_00 l Z a0 hw [] a51 a51 x0 x1 x0 x1 h58 n0 sz A_a51 A_a51) eT (by decide) (by decide) (by decide) (by decide) (by rw [hml]; rfl) pd0 rfl rfl (Nat.le_of_ble_eq_true rfl) (hb hby at_110) (q := 113) rfl ?_
    intro v T Lc hQ X
    obtain ⟨h59, eT⟩ : ∃ z, T.heap = z := ⟨_, rfl⟩
    try rw [eT] at hQ
    obtain ⟨t60, rfl, N', K', _, A_t60⟩ := hQ
    have N := Fr.app N N'
    have A_a51 := A_a51.keep K' nin0
    have A_a55 := A_a55.keep K' nin0
    have sz : n0 ≤ h59.size := Nat.le_trans sz K'.1
    refine s_astore X hx (hb hby at_113) rfl (L' := #[.val (.int x0), .val (.int x1), .val (.int x2), .val (.int x3), .val (.int x4), .val (.int (5 : Int32)), .val (.int (0 : Int32)), .val (.int (0 : Int32)), .val (.int (0 : Int32)), .val (.ref a51), .val (.ref a55), .val (.ref a51), .val (.ref t60), .unset, .unset, .unset]) rfl (q := 115) rfl ?_
    refine s_aload X hx (hb hby at_115) rfl rfl (q := 117) rfl ?_
    refine s_lenJ X hx hZ eT (z := (0 : Int32)) A_t60 rfl (hb hby at_117) (q := 118) rfl ?_
    refine s_iload X hx (hb hby at_118) rfl (q := 120) rfl ?_
    refine s_iload X hx (hb hby at_120) rfl (q := 122) rfl ?_
    refine s_isub X hx (hb hby at_122) (q := 123) rfl ?_
    show Go p e below _ T m 123 #[.val (.int x0), .val (.int x1), .val (.int x2), .val (.int x3), .val (.int x4), .val (.int (5 : Int32)), .val (.int (0 : Int32)), .val (.int (0 : Int32)), .val (.int (0 : Int32)), .val (.ref a51), .val (.ref a55), .val (.ref a51), .val (.ref t60), .unset, .unset, .unset] [(.int (0 : Int32)), (.int (0 : Int32))]
    refine f_icmp_eq X hx (hb hby at_123) (q1 := 128) (by decide) (by decide) (q := 126) rfl (fun _ => ?_) (fun hq => absurd (by decide : (0 : Int32) = (0 : Int32)) hq)
    refine s_iconst X hx (z := (1 : Int32)) (hb hby at_128) rfl (q := 129) rfl ?_
    refine s_istore X hx (hb hby at_129) (L' := #[.val (.int x0), .val (.int x1), .val (.int x2), .val (.int x3), .val (.int x4), .val (.int (5 : Int32)), .val (.int (0 : Int32)), .val (.int (0 : Int32)), .val (.int (0 : Int32)), .val (.ref a51), .val (.ref a55), .val (.ref a51), .val (.ref t60), .val (.int (1 : Int32)), .unset, .unset]) rfl (q := 131) rfl ?_
    refine s_aload X hx (hb hby at_131) rfl rfl (q := 133) rfl ?_
    refine s_lenJ X hx hZ eT (z := (0 : Int32)) A_t60 rfl (hb hby at_133) (q := 134) rfl ?_
    refine s_iconst X hx (z := (1 : Int32)) (hb hby at_134) rfl (q := 135) rfl ?_
    refine f_icmp_lt X hx (hb hby at_135) (q1 := 171) (by decide) (by decide) (q := 138) rfl (fun _ => ?_) (fun hq => absurd (by decide : (0 : Int32) < (1 : Int32)) hq)
    refine s_aload X hx (hb hby at_171) rfl rfl (q := 173) rfl ?_
    refine s_lenJ X hx hZ eT (z := (0 : Int32)) A_t60 rfl (hb hby at_173) (q := 174) rfl ?_
    refine s_iconst X hx (z := (2 : Int32)) (hb hby at_174) rfl (q := 175) rfl ?_
    refine f_icmp_ne X hx (hb hby at_175) (q1 := 334) (by decide) (by decide) (q := 178) rfl (fun _ => ?_) (fun hq => absurd hq (by decide : ¬ (0 : Int32) = (2 : Int32)))
    refine s_iload X hx (hb hby at_334) rfl (q := 336) rfl ?_
    exact leafN X hx hlk hret (by simp) (hb hby at_336) (by decide) (by decide) (z' := 1) rfl ⟨rfl, N⟩
  · subst hcase
    refine s_iload X hx (hb hby at_10) rfl (q := 12) rfl ?_
    refine s_iconst X hx (z := (5 : Int32)) (hb hby at_12) rfl (q := 13) rfl ?_
    refine s_irem X hx (hb hby at_13) (by decide) (q := 14) rfl ?_
    show Go p e below _ T m 14 #[.val (.int x0), .val (.int x1), .val (.int x2), .val (.int x3), .val (.int x4), .val (.int (6 : Int32)), .unset, .unset, .unset, .unset, .unset, .unset, .unset, .unset, .unset, .unset] [(.int (1 : Int32))]
    refine s_istore X hx (hb hby at_14) (L' := #[.val (.int x0), .val (.int x1), .val (.int x2), .val (.int x3), .val (.int x4), .val (.int (6 : Int32)), .val (.int (1 : Int32)), .unset, .unset, .unset, .unset, .unset, .unset, .unset, .unset, .unset]) rfl (q := 16) rfl ?_
    refine s_iload X hx (hb hby at_16) rfl (q := 18) rfl ?_
    refine s_iconst X hx (z := (2 : Int32)) (hb hby at_18) rfl (q := 19) rfl ?_
    refine f_icmp_gt X hx (hb hby at_19) (q1 := 26) (by decide) (by decide) (q := 22) rfl (fun hq => absurd hq (by decide : ¬ (2 : Int32) < (1 : Int32))) (fun _ => ?_)
    refine s_iconst X hx (z := (0 : Int32)) (hb hby at_22) rfl (q := 23) rfl ?_
    refine s_goto X hx (hb hby at_23) (q1 := 27) (by decide) (by decide) ?_
    refine s_istore X hx (hb hby at_27) (L' := #[.val (.int x0), .val (.int x1), .val (.int x2), .val (.int x3), .val (.int x4), .val (.int (6 : Int32)), .val (.int (1 : Int32)), .val (.int (0 : Int32)), .unset, .unset, .unset, .unset, .unset, .unset, .unset, .unset]) rfl (q := 29) rfl ?_
    refine s_iload X hx (hb hby at_29) rfl (q := 31) rfl ?_
    refine f_if_ne X hx (hb hby at_31) (q1 := 38) (by decide) (by decide) (q := 34) rfl (fun _ => ?_) (fun hq => absurd hq (by decide : ¬ (1 : Int32) = 0))
    refine s_iload X hx (hb hby at_38) rfl (q := 40) rfl ?_
    refine s_iconst X hx (z := (1 : Int32)) (hb hby at_40) rfl (q := 41) rfl ?_
    refine f_icmp_eq X hx (hb hby at_41) (q1 := 50) (by decide) (by decide) (q := 44) rfl (fun _ => ?_) (fun hq => absurd (by decide : (1 : Int32) = (1 : Int32)) hq)
    refine s_iconst X hx (z := (1 : Int32)) (hb hby at_50) rfl (q := 51) rfl ?_
    refine s_goto X hx (hb hby at_51) (q1 := 55) (by decide) (by decide) ?_
    refine s_istore X hx (hb hby at_55) (L' := #[.val (.int x0), .val (.int x1), .val (.int x2), .val (.int x3), .val (.int x4), .val (.int (6 : Int32)), .val (.int (1 : Int32)), .val (.int (0 : Int32)), .val (.int (1 : Int32)), .unset, .unset, .unset, .unset, .unset, .unset, .unset]) rfl (q := 57) rfl ?_
    refine s_iconst X hx (z := (2 : Int32)) (hb hby at_57) rfl (q := 58) rfl ?_
    refine s_newI X hx hZ (hw _ (List.mem_of_getElem? (i := 1) rfl)) eT (by decide) (cap := 2) (by decide) (by decide) (by decide) (by decide) (ys := [0, 0]) rfl (hb hby at_58) (q := 60) rfl ?_
    intro T h62 a61 X eT E ea A_a61
    have g_a61 : n0 ≤ a61 := by rw [ea]; exact sz
    have sz : n0 ≤ h62.size := Nat.le_trans sz E.1
    refine s_astore X hx (hb hby at_60) rfl (L' := #[.val (.int x0), .val (.int x1), .val (.int x2), .val (.int x3), .val (.int x4), .val (.int (6 : Int32)), .val (.int (1 : Int32)), .val (.int (0 : Int32)), .val (.int (1 : Int32)), .val (.ref a61), .unset, .unset, .unset, .unset, .unset, .unset]) rfl (q := 62) rfl ?_
    refine s_aload X hx (hb hby at_62) rfl rfl (q := 64) rfl ?_
    refine s_iconst X hx (z := (0 : Int32)) (hb hby at_64) rfl (q := 65) rfl ?_
    refine s_iloadN X hx (hb hby at_65) rfl (q := 66) rfl ?_
    refine s_iastore X hx hZ eT A_a61 N g_a61 (by decide) (i := 0) rfl (Nat.le_of_ble_eq_true rfl) (ys := [x0, 0]) rfl (hb hby at_66) (q := 67) rfl ?_
    intro T h63 _ X N eT W A_a61'
    have sz : n0 ≤ h63.size := by rw [W.size]; exact sz
    have A_a61 := A_a61'
    refine s_aload X hx (hb hby at_67) rfl rfl (q := 69) rfl ?_
    refine s_iconst X hx (z := (1 : Int32)) (hb hby at_69) rfl (q := 70) rfl ?_
    refine s_iloadN X hx (hb hby at_70) rfl (q := 71) rfl ?_
    refine s_iastore X hx hZ eT A_a61 N g_a61 (by decide) (i := 1) rfl (Nat.le_of_ble_eq_true rfl) (ys := [x0, x1]) rfl (hb hby at_71) (q := 72) rfl ?_
    intro T h64 _ X N eT W A_a61'
    have sz : n0 ≤ h64.size := by rw [W.size]; exact sz
    have A_a61 := A_a61'
    refine s_iconst X hx (z := (2 : Int32)) (hb hby at_72) rfl (q := 73) rfl ?_
    refine s_newI X hx hZ (hw _ (List.mem_of_getElem? (i := 1) rfl)) eT (by decide) (cap := 2) (by decide) (by decide) (by decide) (by decide) (ys := [0, 0]) rfl (hb hby at_73) (q := 75) rfl ?_
    intro T h66 a65 X eT E ea A_a65
    have ne_a61_a65 : a61 ≠ a65 := by rw [ea]; exact Nat.ne_of_lt A_a61.lt
    have A_a61 := A_a61.ext E
    have g_a65 : n0 ≤ a65 := by rw [ea]; exact sz
    have sz : n0 ≤ h66.size := Nat.le_trans sz E.1
    refine s_astore X hx (hb hby at_75) rfl (L' := #[.val (.int x0), .val (.int x1), .val (.int x2), .val (.int x3), .val (.int x4), .val (.int (6 : Int32)), .val (.int (1 : Int32)), .val (.int (0 : Int32)), .val (.int (1 : Int32)), .val (.ref a61), .val (.ref a65), .unset, .unset, .unset, .unset, .unset]) rfl (q := 77) rfl ?_
    refine s_aload X hx (hb hby at_77) rfl rfl (q := 79) rfl ?_
    refine s_iconst X hx (z := (0 : Int32)) (hb hby at_79) rfl (q := 80) rfl ?_
    refine s_iloadN X hx (hb hby at_80) rfl (q := 81) rfl ?_
    refine s_iastore X hx hZ eT A_a65 N g_a65 (by decide) (i := 0) rfl (Nat.le_of_ble_eq_true rfl) (ys := [x2, 0]) rfl (hb hby at_81) (q := 82) rfl ?_
    intro T h67 _ X N eT W A_a65'
    have A_a61 := A_a61.other W ne_a61_a65
    have sz : n0 ≤ h67.size := by rw [W.size]; exact sz
    have A_a65 := A_a65'
    refine s_aload X hx (hb hby at_82) rfl rfl (q := 84) rfl ?_
    refine s_iconst X hx (z := (1 : Int32)) (hb hby at_84) rfl (q := 85) rfl ?_
    refine s_iloadN X hx (hb hby at_85) rfl (q := 86) rfl ?_
    refine s_iastore X hx hZ eT A_a65 N g_a65 (by decide) (i := 1) rfl (Nat.le_of_ble_eq_true rfl) (ys := [x2, x3]) rfl (hb hby at_86) (q := 87) rfl ?_
    intro T h68 _ X N eT W A_a65'
    have A_a61 := A_a61.other W ne_a61_a65
    have sz : n0 ≤ h68.size := by rw [W.size]; exact sz
    have A_a65 := A_a65'
    refine s_iload X hx (hb hby at_87) rfl (q := 89) rfl ?_
    refine s_iconst X hx (z := (5 : Int32)) (hb hby at_89) rfl (q := 90) rfl ?_
    refine f_icmp_lt X hx (hb hby at_90) (q1 := 98) (by decide) (by decide) (q := 93) rfl (fun hq => absurd hq (by decide : ¬ (6 : Int32) < (5 : Int32))) (fun _ => ?_)
    refine s_aload X hx (hb hby at_93) rfl rfl (q := 95) rfl ?_
    refine s_goto X hx (hb hby at_95) (q1 := 100) (by decide) (by decide) ?_
    refine s_astore X hx (hb hby at_100) rfl (L' := #[.val (.int x0), .val (.int x1), .val (.int x2), .val (.int x3), .val (.int x4), .val (.int (6 : Int32)), .val (.int (1 : Int32)), .val (.int (0 : Int32)), .val (.int (1 : Int32)), .val (.ref a61), .val (.ref a65), .val (.ref a61), .unset, .unset, .unset, .unset]) rfl (q := 102) rfl ?_
    refine s_aload X hx (hb hby at_102) rfl rfl (q := 104) rfl ?_
    refine s_aload X hx (hb hby at_104) rfl rfl (q := 106) rfl ?_
    refine s_iload X hx (hb hby at_106) rfl (q := 108) rfl ?_
    refine s_iload X hx (hb hby at_108) rfl (q := 110) rfl ?_
    refine callC X hx hZ hown (W := 0) (argsL := [(.ref a61), (.ref a61), (.int (0 : Int32)), (.int (1 : Int32))]) (rest := []) (hw _ (List.mem_of_getElem? (i := 2) rfl)) (hw _ (List.mem_of_getElem? (i := 3) rfl)) (hw _ (List.mem_of_getElem? (i := 4) rfl)) (hw _ (List.mem_of_getElem? (i := 5) rfl)) (by decide) (rm1_01 l Z a0 hw [] a61 a61 x0 x1 x0 x1 h68 n0 sz A_a61 A_a61) eT (by decide) (by decide) (by decide) (by decide) (by rw [hml]; rfl) pd0 rfl rfl (Nat.le_of_ble_eq_true rfl) (hb hby at_110) (q := 113) rfl ?_
    intro v T Lc hQ X
    obtain ⟨h69, eT⟩ : ∃ z, T.heap = z := ⟨_, rfl⟩
    try rw [eT] at hQ
    obtain ⟨t70, rfl, N', K', _, A_t70⟩ := hQ
    have N := Fr.app N N'
    have A_a61 := A_a61.keep K' nin0
    have A_a65 := A_a65.keep K' nin0
    have sz : n0 ≤ h69.size := Nat.le_trans sz K'.1
    refine s_astore X hx (hb hby at_113) rfl (L' := #[.val (.int x0), .val (.int x1), .val (.int x2), .val (.int x3), .val (.int x4), .val (.int (6 : Int32)), .val (.int (1 : Int32)), .val (.int (0 : Int32)), .val (.int (1 : Int32)), .val (.ref a61), .val (.ref a65), .val (.ref a61), .val (.ref t70), .unset, .unset, .unset]) rfl (q := 115) rfl ?_
    refine s_aload X hx (hb hby at_115) rfl rfl (q := 117) rfl ?_
    refine s_lenJ X hx hZ eT (z := (1 : Int32)) A_t70 rfl (hb hby at_117) (q := 118) rfl ?_
    refine s_iload X hx (hb hby at_118) rfl (q := 120) rfl ?_
    refine s_iload X hx (hb hby at_120) rfl (q := 122) rfl ?_
    refine s_isub X hx (hb hby at_122) (q := 123) rfl ?_
    show Go p e below _ T m 123 #[.val (.int x0), .val (.int x1), .val (.int x2), .val (.int x3), .val (.int x4), .val (.int (6 : Int32)), .val (.int (1 : Int32)), .val (.int (0 : Int32)), .val (.int (1 : Int32)), .val (.ref a61), .val (.ref a65), .val (.ref a61), .val (.ref t70), .unset, .unset, .unset] [(.int (1 : Int32)), (.int (1 : Int32))]
    refine f_icmp_eq X hx (hb hby at_123) (q1 := 128) (by decide) (by decide) (q := 126) rfl (fun _ => ?_) (fun hq => absurd (by decide : (1 : Int32) = (1 : Int32)) hq)
    refine s_iconst X hx (z := (1 : Int32)) (hb hby at_128) rfl (q := 129) rfl ?_
    refine s_istore X hx (hb hby at_129) (L' := #[.val (.int x0), .val (.int x1), .val (.int x2), .val (.int x3), .val (.int x4), .val (.int (6 : Int32)), .val (.int (1 : Int32)), .val (.int (0 : Int32)), .val (.int (1 : Int32)), .val (.ref a61), .val (.ref a65), .val (.ref a61), .val (.ref t70), .val (.int (1 : Int32)), .unset, .unset]) rfl (q := 131) rfl ?_
    refine s_aload X hx (hb hby at_131) rfl rfl (q := 133) rfl ?_
    refine s_lenJ X hx hZ eT (z := (1 : Int32)) A_t70 rfl (hb hby at_133) (q := 134) rfl ?_
    refine s_iconst X hx (z := (1 : Int32)) (hb hby at_134) rfl (q := 135) rfl ?_
    refine f_icmp_lt X hx (hb hby at_135) (q1 := 171) (by decide) (by decide) (q := 138) rfl (fun hq => absurd hq (by decide : ¬ (1 : Int32) < (1 : Int32))) (fun _ => ?_)
    refine s_iload X hx (hb hby at_138) rfl (q := 140) rfl ?_
    refine f_if_eq X hx (hb hby at_140) (q1 := 168) (by decide) (by decide) (q := 143) rfl (fun hq => absurd hq (by decide : ¬ (1 : Int32) = 0)) (fun _ => ?_)
    refine s_aload X hx (hb hby at_143) rfl rfl (q := 145) rfl ?_
    refine s_iconst X hx (z := (0 : Int32)) (hb hby at_145) rfl (q := 146) rfl ?_
    refine s_laload X hx hZ eT A_t70 (by decide) (i := 0) rfl (x := (KEY x0 x0)) rfl (hb hby at_146) (q := 147) rfl ?_
    refine s_aload X hx (hb hby at_147) rfl rfl (q := 149) rfl ?_
    refine s_iload X hx (hb hby at_149) rfl (q := 151) rfl ?_
    refine s_iaload X hx hZ eT A_a61 (by decide) (i := 0) rfl (x := x0) rfl (hb hby at_151) (q := 152) rfl ?_
    refine s_aload X hx (hb hby at_152) rfl rfl (q := 154) rfl ?_
    refine s_iload X hx (hb hby at_154) rfl (q := 156) rfl ?_
    refine s_iaload X hx hZ eT A_a61 (by decide) (i := 0) rfl (x := x0) rfl (hb hby at_156) (q := 157) rfl ?_
    refine callP X hx hZ hown (W := 2) (argsL := [(.int x0), (.int x0)]) (rest := [(.long (KEY x0 x0))]) (hw _ (List.mem_of_getElem? (i := 9) rfl)) (hw _ (List.mem_of_getElem? (i := 10) rfl)) (hw _ (List.mem_of_getElem? (i := 11) rfl)) (hw _ (List.mem_of_getElem? (i := 12) rfl)) (by decide) (rm2 l Z a0 hw [] x0 x0 h69) rfl rfl eT (by decide) (by decide) (by decide) (by decide) (by rw [hml]; rfl) pd1 rfl rfl (Nat.le_of_ble_eq_true rfl) (hb hby at_157) (q := 160) rfl ?_
    intro T X eT
    refine s_lcmp X hx (hb hby at_160) (q := 161) rfl ?_
    refine f_lcmp_ne X hx (hb hby at_161) (q1 := 168) (by decide) (by decide) (q := 164) rfl (fun hq => absurd (own_exp _ _ : (KEY x0 x0) = (F2 x0 x0)) hq) (fun _ => ?_)
    refine s_iconst X hx (z := (1 : Int32)) (hb hby at_164) rfl (q := 165) rfl ?_
    refine s_goto X hx (hb hby at_165) (q1 := 169) (by decide) (by decide) ?_
    refine s_istore X hx (hb hby at_169) (L' := #[.val (.int x0), .val (.int x1), .val (.int x2), .val (.int x3), .val (.int x4), .val (.int (6 : Int32)), .val (.int (1 : Int32)), .val (.int (0 : Int32)), .val (.int (1 : Int32)), .val (.ref a61), .val (.ref a65), .val (.ref a61), .val (.ref t70), .val (.int (1 : Int32)), .unset, .unset]) rfl (q := 171) rfl ?_
    refine s_aload X hx (hb hby at_171) rfl rfl (q := 173) rfl ?_
    refine s_lenJ X hx hZ eT (z := (1 : Int32)) A_t70 rfl (hb hby at_173) (q := 174) rfl ?_
    refine s_iconst X hx (z := (2 : Int32)) (hb hby at_174) rfl (q := 175) rfl ?_
    refine f_icmp_ne X hx (hb hby at_175) (q1 := 334) (by decide) (by decide) (q := 178) rfl (fun _ => ?_) (fun hq => absurd hq (by decide : ¬ (1 : Int32) = (2 : Int32)))
    refine s_iload X hx (hb hby at_334) rfl (q := 336) rfl ?_
    exact leafN X hx hlk hret (by simp) (hb hby at_336) (by decide) (by decide) (z' := 1) rfl ⟨rfl, N⟩
  · subst hcase
    refine s_iload X hx (hb hby at_10) rfl (q := 12) rfl ?_
    refine s_iconst X hx (z := (5 : Int32)) (hb hby at_12) rfl (q := 13) rfl ?_
    refine s_irem X hx (hb hby at_13) (by decide) (q := 14) rfl ?_
    show Go p e below _ T m 14 #[.val (.int x0), .val (.int x1), .val (.int x2), .val (.int x3), .val (.int x4), .val (.int (7 : Int32)), .unset, .unset, .unset, .unset, .unset, .unset, .unset, .unset, .unset, .unset] [(.int (2 : Int32))]
    refine s_istore X hx (hb hby at_14) (L' := #[.val (.int x0), .val (.int x1), .val (.int x2), .val (.int x3), .val (.int x4), .val (.int (7 : Int32)), .val (.int (2 : Int32)), .unset, .unset, .unset, .unset, .unset, .unset, .unset, .unset, .unset]) rfl (q := 16) rfl ?_
    refine s_iload X hx (hb hby at_16) rfl (q := 18) rfl ?_
    refine s_iconst X hx (z := (2 : Int32)) (hb hby at_18) rfl (q := 19) rfl ?_
    refine f_icmp_gt X hx (hb hby at_19) (q1 := 26) (by decide) (by decide) (q := 22) rfl (fun hq => absurd hq (by decide : ¬ (2 : Int32) < (2 : Int32))) (fun _ => ?_)
    refine s_iconst X hx (z := (0 : Int32)) (hb hby at_22) rfl (q := 23) rfl ?_
    refine s_goto X hx (hb hby at_23) (q1 := 27) (by decide) (by decide) ?_
    refine s_istore X hx (hb hby at_27) (L' := #[.val (.int x0), .val (.int x1), .val (.int x2), .val (.int x3), .val (.int x4), .val (.int (7 : Int32)), .val (.int (2 : Int32)), .val (.int (0 : Int32)), .unset, .unset, .unset, .unset, .unset, .unset, .unset, .unset]) rfl (q := 29) rfl ?_
    refine s_iload X hx (hb hby at_29) rfl (q := 31) rfl ?_
    refine f_if_ne X hx (hb hby at_31) (q1 := 38) (by decide) (by decide) (q := 34) rfl (fun _ => ?_) (fun hq => absurd hq (by decide : ¬ (2 : Int32) = 0))
    refine s_iload X hx (hb hby at_38) rfl (q := 40) rfl ?_
    refine s_iconst X hx (z := (1 : Int32)) (hb hby at_40) rfl (q := 41) rfl ?_
    refine f_icmp_eq X hx (hb hby at_41) (q1 := 50) (by decide) (by decide) (q := 44) rfl (fun hq => absurd hq (by decide : ¬ (2 : Int32) = (1 : Int32))) (fun _ => ?_)
    refine s_iload X hx (hb hby at_44) rfl (q := 46) rfl ?_
    refine s_iconst X hx (z := (3 : Int32)) (hb hby at_46) rfl (q := 47) rfl ?_
    refine f_icmp_ne X hx (hb hby at_47) (q1 := 54) (by decide) (by decide) (q := 50) rfl (fun _ => ?_) (fun hq => absurd hq (by decide : ¬ (2 : Int32) = (3 : Int32)))
    refine s_iconst X hx (z := (2 : Int32)) (hb hby at_54) rfl (q := 55) rfl ?_
    refine s_istore X hx (hb hby at_55) (L' := #[.val (.int x0), .val (.int x1), .val (.int x2), .val (.int x3), .val (.int x4), .val (.int (7 : Int32)), .val (.int (2 : Int32)), .val (.int (0 : Int32)), .val (.int (2 : Int32)), .unset, .unset, .unset, .unset, .unset, .unset, .unset]) rfl (q := 57) rfl ?_
    refine s_iconst X hx (z := (2 : Int32)) (hb hby at_57) rfl (q := 58) rfl ?_
    refine s_newI X hx hZ (hw _ (List.mem_of_getElem? (i := 1) rfl)) eT (by decide) (cap := 2) (by decide) (by decide) (by decide) (by decide) (ys := [0, 0]) rfl (hb hby at_58) (q := 60) rfl ?_
    intro T h72 a71 X eT E ea A_a71
    have g_a71 : n0 ≤ a71 := by rw [ea]; exact sz
    have sz : n0 ≤ h72.size := Nat.le_trans sz E.1
    refine s_astore X hx (hb hby at_60) rfl (L' := #[.val (.int x0), .val (.int x1), .val (.int x2), .val (.int x3), .val (.int x4), .val (.int (7 : Int32)), .val (.int (2 : Int32)), .val (.int (0 : Int32)), .val (.int (2 : Int32)), .val (.ref a71), .unset, .unset, .unset, .unset, .unset, .unset]) rfl (q := 62) rfl ?_
    refine s_aload X hx (hb hby at_62) rfl rfl (q := 64) rfl ?_
    refine s_iconst X hx (z := (0 : Int32)) (hb hby at_64) rfl (q := 65) rfl ?_
    refine s_iloadN X hx (hb hby at_65) rfl (q := 66) rfl ?_
    refine s_iastore X hx hZ eT A_a71 N g_a71 (by decide) (i := 0) rfl (Nat.le_of_ble_eq_true rfl) (ys := [x0, 0]) rfl (hb hby at_66) (q := 67) rfl ?_
    intro T h73 _ X N eT W A_a71'
    have sz : n0 ≤ h73.size := by rw [W.size]; exact sz
    have A_a71 := A_a71'
    refine s_aload X hx (hb hby at_67) rfl rfl (q := 69) rfl ?_
    refine s_iconst X hx (z := (1 : Int32)) (hb hby at_69) rfl (q := 70) rfl ?_
    refine s_iloadN X hx (hb hby at_70) rfl (q := 71) rfl ?_
    refine s_iastore X hx hZ eT A_a71 N g_a71 (by decide) (i := 1) rfl (Nat.le_of_ble_eq_true rfl) (ys := [x0, x1]) rfl (hb hby at_71) (q := 72) rfl ?_
    intro T h74 _ X N eT W A_a71'
    have sz : n0 ≤ h74.size := by rw [W.size]; exact sz
    have A_a71 := A_a71'
    refine s_iconst X hx (z := (2 : Int32)) (hb hby at_72) rfl (q := 73) rfl ?_
    refine s_newI X hx hZ (hw _ (List.mem_of_getElem? (i := 1) rfl)) eT (by decide) (cap := 2) (by decide) (by decide) (by decide) (by decide) (ys := [0, 0]) rfl (hb hby at_73) (q := 75) rfl ?_
    intro T h76 a75 X eT E ea A_a75
    have ne_a71_a75 : a71 ≠ a75 := by rw [ea]; exact Nat.ne_of_lt A_a71.lt
    have A_a71 := A_a71.ext E
    have g_a75 : n0 ≤ a75 := by rw [ea]; exact sz
    have sz : n0 ≤ h76.size := Nat.le_trans sz E.1
    refine s_astore X hx (hb hby at_75) rfl (L' := #[.val (.int x0), .val (.int x1), .val (.int x2), .val (.int x3), .val (.int x4), .val (.int (7 : Int32)), .val (.int (2 : Int32)), .val (.int (0 : Int32)), .val (.int (2 : Int32)), .val (.ref a71), .val (.ref a75), .unset, .unset, .unset, .unset, .unset]) rfl (q := 77) rfl ?_
    refine s_aload X hx (hb hby at_77) rfl rfl (q := 79) rfl ?_
    refine s_iconst X hx (z := (0 : Int32)) (hb hby at_79) rfl (q := 80) rfl ?_
    refine s_iloadN X hx (hb hby at_80) rfl (q := 81) rfl ?_
    refine s_iastore X hx hZ eT A_a75 N g_a75 (by decide) (i := 0) rfl (Nat.le_of_ble_eq_true rfl) (ys := [x2, 0]) rfl (hb hby at_81) (q := 82) rfl ?_
    intro T h77 _ X N eT W A_a75'
    have A_a71 := A_a71.other W ne_a71_a75
    have sz : n0 ≤ h77.size := by rw [W.size]; exact sz
    have A_a75 := A_a75'
    refine s_aload X hx (hb hby at_82) rfl rfl (q := 84) rfl ?_
    refine s_iconst X hx (z := (1 : Int32)) (hb hby at_84) rfl (q := 85) rfl ?_
    refine s_iloadN X hx (hb hby at_85) rfl (q := 86) rfl ?_
    refine s_iastore X hx hZ eT A_a75 N g_a75 (by decide) (i := 1) rfl (Nat.le_of_ble_eq_true rfl) (ys := [x2, x3]) rfl (hb hby at_86) (q := 87) rfl ?_
    intro T h78 _ X N eT W A_a75'
    have A_a71 := A_a71.other W ne_a71_a75
    have sz : n0 ≤ h78.size := by rw [W.size]; exact sz
    have A_a75 := A_a75'
    refine s_iload X hx (hb hby at_87) rfl (q := 89) rfl ?_
    refine s_iconst X hx (z := (5 : Int32)) (hb hby at_89) rfl (q := 90) rfl ?_
    refine f_icmp_lt X hx (hb hby at_90) (q1 := 98) (by decide) (by decide) (q := 93) rfl (fun hq => absurd hq (by decide : ¬ (7 : Int32) < (5 : Int32))) (fun _ => ?_)
    refine s_aload X hx (hb hby at_93) rfl rfl (q := 95) rfl ?_
    refine s_goto X hx (hb hby at_95) (q1 := 100) (by decide) (by decide) ?_
    refine s_astore X hx (hb hby at_100) rfl (L' := #[.val (.int x0), .val (.int x1), .val (.int x2), .val (.int x3), .val (.int x4), .val (.int (7 : Int32)), .val (.int (2 : Int32)), .val (.int (0 : Int32)), .val (.int (2 : Int32)), .val (.ref a71), .val (.ref a75), .val (.ref a71), .unset, .unset, .unset, .unset]) rfl (q := 102) rfl ?_
    refine s_aload X hx (hb hby at_102) rfl rfl (q := 104) rfl ?_
    refine s_aload X hx (hb hby at_104) rfl rfl (q := 106) rfl ?_
    refine s_iload X hx (hb hby at_106) rfl (q := 108) rfl ?_
    refine s_iload X hx (hb hby at_108) rfl (q := 110) rfl ?_
    refine callC X hx hZ hown (W := 0) (argsL := [(.ref a71), (.ref a71), (.int (0 : Int32)), (.int (2 : Int32))]) (rest := []) (hw _ (List.mem_of_getElem? (i := 2) rfl)) (hw _ (List.mem_of_getElem? (i := 3) rfl)) (hw _ (List.mem_of_getElem? (i := 4) rfl)) (hw _ (List.mem_of_getElem? (i := 5) rfl)) (by decide) (rm1_02 l Z a0 hw [] a71 a71 x0 x1 x0 x1 h78 n0 sz A_a71 A_a71) eT (by decide) (by decide) (by decide) (by decide) (by rw [hml]; rfl) pd0 rfl rfl (Nat.le_of_ble_eq_true rfl) (hb hby at_110) (q := 113) rfl ?_
    intro v T Lc hQ X
    obtain ⟨h79, eT⟩ : ∃ z, T.heap = z := ⟨_, rfl⟩
    try rw [eT] at hQ
    obtain ⟨t80, rfl, N', K', _, A_t80⟩ := hQ
    have N := Fr.app N N'
    have A_a71 := A_a71.keep K' nin0
    have A_a75 := A_a75.keep K' nin0
    have sz : n0 ≤ h79.size := Nat.le_trans sz K'.1
    refine s_astore X hx (hb hby at_113) rfl (L' := #[.val (.int x0), .val (.int x1), .val (.int x2), .val (.int x3), .val (.int x4), .val (.int (7 : Int32)), .val (.int (2 : Int32)), .val (.int (0 : Int32)), .val (.int (2 : Int32)), .val (.ref a71), .val (.ref a75), .val (.ref a71), .val (.ref t80), .unset, .unset, .unset]) rfl (q := 115) rfl ?_
    refine s_aload X hx (hb hby at_115) rfl rfl (q := 117) rfl ?_
    refine s_lenJ X hx hZ eT (z := (2 : Int32)) A_t80 rfl (hb hby at_117) (q := 118) rfl ?_
    refine s_iload X hx (hb hby at_118) rfl (q := 120) rfl ?_
    refine s_iload X hx (hb hby at_120) rfl (q := 122) rfl ?_
    refine s_isub X hx (hb hby at_122) (q := 123) rfl ?_
    show Go p e below _ T m 123 #[.val (.int x0), .val (.int x1), .val (.int x2), .val (.int x3), .val (.int x4), .val (.int (7 : Int32)), .val (.int (2 : Int32)), .val (.int (0 : Int32)), .val (.int (2 : Int32)), .val (.ref a71), .val (.ref a75), .val (.ref a71), .val (.ref t80), .unset, .unset, .unset] [(.int (2 : Int32)), (.int (2 : Int32))]
    refine f_icmp_eq X hx (hb hby at_123) (q1 := 128) (by decide) (by decide) (q := 126) rfl (fun _ => ?_) (fun hq => absurd (by decide : (2 : Int32) = (2 : Int32)) hq)
    refine s_iconst X hx (z := (1 : Int32)) (hb hby at_128) rfl (q := 129) rfl ?_
    refine s_istore X hx (hb hby at_129) (L' := #[.val (.int x0), .val (.int x1), .val (.int x2), .val (.int x3), .val (.int x4), .val (.int (7 : Int32)), .val (.int (2 : Int32)), .val (.int (0 : Int32)), .val (.int (2 : Int32)), .val (.ref a71), .val (.ref a75), .val (.ref a71), .val (.ref t80), .val (.int (1 : Int32)), .unset, .unset]) rfl (q := 131) rfl ?_
    refine s_aload X hx (hb hby at_131) rfl rfl (q := 133) rfl ?_
    refine s_lenJ X hx hZ eT (z := (2 : Int32)) A_t80 rfl (hb hby at_133) (q := 134) rfl ?_
    refine s_iconst X hx (z := (1 : Int32)) (hb hby at_134) rfl (q := 135) rfl ?_
    refine f_icmp_lt X hx (hb hby at_135) (q1 := 171) (by decide) (by decide) (q := 138) rfl (fun hq => absurd hq (by decide : ¬ (2 : Int32) < (1 : Int32))) (fun _ => ?_)
    refine s_iload X hx (hb hby at_138) rfl (q := 140) rfl ?_
    refine f_if_eq X hx (hb hby at_140) (q1 := 168) (by decide) (by decide) (q := 143) rfl (fun hq => absurd hq (by decide : ¬ (1 : Int32) = 0)) (fun _ => ?_)
    refine s_aload X hx (hb hby at_143) rfl rfl (q := 145) rfl ?_
    refine s_iconst X hx (z := (0 : Int32)) (hb hby at_145) rfl (q := 146) rfl ?_
    refine s_laload X hx hZ eT A_t80 (by decide) (i := 0) rfl (x := (KEY x0 x0)) rfl (hb hby at_146) (q := 147) rfl ?_
    refine s_aload X hx (hb hby at_147) rfl rfl (q := 149) rfl ?_
    refine s_iload X hx (hb hby at_149) rfl (q := 151) rfl ?_
    refine s_iaload X hx hZ eT A_a71 (by decide) (i := 0) rfl (x := x0) rfl (hb hby at_151) (q := 152) rfl ?_
    refine s_aload X hx (hb hby at_152) rfl rfl (q := 154) rfl ?_
    refine s_iload X hx (hb hby at_154) rfl (q := 156) rfl ?_
    refine s_iaload X hx hZ eT A_a71 (by decide) (i := 0) rfl (x := x0) rfl (hb hby at_156) (q := 157) rfl ?_
    refine callP X hx hZ hown (W := 2) (argsL := [(.int x0), (.int x0)]) (rest := [(.long (KEY x0 x0))]) (hw _ (List.mem_of_getElem? (i := 9) rfl)) (hw _ (List.mem_of_getElem? (i := 10) rfl)) (hw _ (List.mem_of_getElem? (i := 11) rfl)) (hw _ (List.mem_of_getElem? (i := 12) rfl)) (by decide) (rm2 l Z a0 hw [] x0 x0 h79) rfl rfl eT (by decide) (by decide) (by decide) (by decide) (by rw [hml]; rfl) pd1 rfl rfl (Nat.le_of_ble_eq_true rfl) (hb hby at_157) (q := 160) rfl ?_
    intro T X eT
    refine s_lcmp X hx (hb hby at_160) (q := 161) rfl ?_
    refine f_lcmp_ne X hx (hb hby at_161) (q1 := 168) (by decide) (by decide) (q := 164) rfl (fun hq => absurd (own_exp _ _ : (KEY x0 x0) = (F2 x0 x0)) hq) (fun _ => ?_)
    refine s_iconst X hx (z := (1 : Int32)) (hb hby at_164) rfl (q := 165) rfl ?_
    refine s_goto X hx (hb hby at_165) (q1 := 169) (by decide) (by decide) ?_
    refine s_istore X hx (hb hby at_169) (L' := #[.val (.int x0), .val (.int x1), .val (.int x2), .val (.int x3), .val (.int x4), .val (.int (7 : Int32)), .val (.int (2 : Int32)), .val (.int (0 : Int32)), .val (.int (2 : Int32)), .val (.ref a71), .val (.ref a75), .val (.ref a71), .val (.ref t80), .val (.int (1 : Int32)), .unset, .unset]) rfl (q := 171) rfl ?_
    refine s_aload X hx (hb hby at_171) rfl rfl (q := 173) rfl ?_
    refine s_lenJ X hx hZ eT (z := (2 : Int32)) A_t80 rfl (hb hby at_173) (q := 174) rfl ?_
    refine s_iconst X hx (z := (2 : Int32)) (hb hby at_174) rfl (q := 175) rfl ?_
    refine f_icmp_ne X hx (hb hby at_175) (q1 := 334) (by decide) (by decide) (q := 178) rfl (fun hq => absurd (by decide : (2 : Int32) = (2 : Int32)) hq) (fun _ => ?_)
    refine s_iload X hx (hb hby at_178) rfl (q := 180) rfl ?_
    refine f_if_eq X hx (hb hby at_180) (q1 := 206) (by decide) (by decide) (q := 183) rfl (fun hq => absurd hq (by decide : ¬ (1 : Int32) = 0)) (fun _ => ?_)
    refine s_aload X hx (hb hby at_183) rfl rfl (q := 185) rfl ?_
    refine s_iconst X hx (z := (1 : Int32)) (hb hby at_185) rfl (q := 186) rfl ?_
    refine s_laload X hx hZ eT A_t80 (by decide) (i := 1) rfl (x := (KEY x1 x1)) rfl (hb hby at_186) (q := 187) rfl ?_
    refine s_aload X hx (hb hby at_187) rfl rfl (q := 189) rfl ?_
    refine s_iconst X hx (z := (1 : Int32)) (hb hby at_189) rfl (q := 190) rfl ?_
    refine s_iaload X hx hZ eT A_a71 (by decide) (i := 1) rfl (x := x1) rfl (hb hby at_190) (q := 191) rfl ?_
    refine s_aload X hx (hb hby at_191) rfl rfl (q := 193) rfl ?_
    refine s_iconst X hx (z := (1 : Int32)) (hb hby at_193) rfl (q := 194) rfl ?_
    refine s_iaload X hx hZ eT A_a71 (by decide) (i := 1) rfl (x := x1) rfl (hb hby at_194) (q := 195) rfl ?_
    refine callP X hx hZ hown (W := 2) (argsL := [(.int x1), (.int x1)]) (rest := [(.long (KEY x1 x1))]) (hw _ (List.mem_of_getElem? (i := 9) rfl)) (hw _ (List.mem_of_getElem? (i := 10) rfl)) (hw _ (List.mem_of_getElem? (i := 11) rfl)) (hw _ (List.mem_of_getElem? (i := 12) rfl)) (by decide) (rm2 l Z a0 hw [] x1 x1 h79) rfl rfl eT (by decide) (by decide) (by decide) (by decide) (by rw [hml]; rfl) pd1 rfl rfl (Nat.le_of_ble_eq_true rfl) (hb hby at_195) (q := 198) rfl ?_
    intro T X eT
    refine s_lcmp X hx (hb hby at_198) (q := 199) rfl ?_
    refine f_lcmp_ne X hx (hb hby at_199) (q1 := 206) (by decide) (by decide) (q := 202) rfl (fun hq => absurd (own_exp _ _ : (KEY x1 x1) = (F2 x1 x1)) hq) (fun _ => ?_)
    refine s_iconst X hx (z := (1 : Int32)) (hb hby at_202) rfl (q := 203) rfl ?_
    refine s_goto X hx (hb hby at_203) (q1 := 207) (by decide) (by decide) ?_
    refine s_istore X hx (hb hby at_207) (L' := #[.val (.int x0), .val (.int x1), .val (.int x2), .val (.int x3), .val (.int x4), .val (.int (7 : Int32)), .val (.int (2 : Int32)), .val (.int (0 : Int32)), .val (.int (2 : Int32)), .val (.ref a71), .val (.ref a75), .val (.ref a71), .val (.ref t80), .val (.int (1 : Int32)), .unset, .unset]) rfl (q := 209) rfl ?_
    refine s_aload X hx (hb hby at_209) rfl rfl (q := 211) rfl ?_
    refine s_iconst X hx (z := (0 : Int32)) (hb hby at_211) rfl (q := 212) rfl ?_
    refine s_iaload X hx hZ eT A_a71 (by decide) (i := 0) rfl (x := x0) rfl (hb hby at_212) (q := 213) rfl ?_
    refine s_aload X hx (hb hby at_213) rfl rfl (q := 215) rfl ?_
    refine s_iconst X hx (z := (1 : Int32)) (hb hby at_215) rfl (q := 216) rfl ?_
    refine s_iaload X hx hZ eT A_a71 (by decide) (i := 1) rfl (x := x1) rfl (hb hby at_216) (q := 217) rfl ?_
    refine jn (T2 := T) (pc2 := 247) (L2 := #[.val (.int x0), .val (.int x1), .val (.int x2), .val (.int x3), .val (.int x4), .val (.int (7 : Int32)), .val (.int (2 : Int32)), .val (.int (0 : Int32)), .val (.int (2 : Int32)), .val (.ref a71), .val (.ref a75), .val (.ref a71), .val (.ref t80), .val (.int (1 : Int32)), .unset, .unset]) (S2 := [(.int (if x0 < x1 then (1 : Int32) else (if x0 = x1 then (if x0 < x1 then (1 : Int32) else (0 : Int32)) else (0 : Int32))))]) (fun key217 => ?_) ?_
    · refine f_icmp_lt X hx (hb hby at_217) (q1 := 242) (by decide) (by decide) (q := 220) rfl (fun hc217 => ?_) (fun hc217 => ?_)
      · refine s_iconst X hx (z := (1 : Int32)) (hb hby at_242) rfl (q := 243) rfl ?_
        refine s_goto X hx (hb hby at_243) (q1 := 247) (by decide) (by decide) ?_
        simpa only [if_pos hc217] using key217
      refine s_aload X hx (hb hby at_220) rfl rfl (q := 222) rfl ?_
      refine s_iconst X hx (z := (0 : Int32)) (hb hby at_222) rfl (q := 223) rfl ?_
      refine s_iaload X hx hZ eT A_a71 (by decide) (i := 0) rfl (x := x0) rfl (hb hby at_223) (q := 224) rfl ?_
      refine s_aload X hx (hb hby at_224) rfl rfl (q := 226) rfl ?_
      refine s_iconst X hx (z := (1 : Int32)) (hb hby at_226) rfl (q := 227) rfl ?_
      refine s_iaload X hx hZ eT A_a71 (by decide) (i := 1) rfl (x := x1) rfl (hb hby at_227) (q := 228) rfl ?_
      refine f_icmp_ne X hx (hb hby at_228) (q1 := 246) (by decide) (by decide) (q := 231) rfl (fun hc228 => ?_) (fun hc228 => ?_)
      · refine s_iconst X hx (z := (0 : Int32)) (hb hby at_246) rfl (q := 247) rfl ?_
        simpa only [if_neg hc217, if_neg hc228] using key217
      refine s_aload X hx (hb hby at_231) rfl rfl (q := 233) rfl ?_
      refine s_iconst X hx (z := (0 : Int32)) (hb hby at_233) rfl (q := 234) rfl ?_
      refine s_iaload X hx hZ eT A_a71 (by decide) (i := 0) rfl (x := x0) rfl (hb hby at_234) (q := 235) rfl ?_
      refine s_aload X hx (hb hby at_235) rfl rfl (q := 237) rfl ?_
      refine s_iconst X hx (z := (1 : Int32)) (hb hby at_237) rfl (q := 238) rfl ?_
      refine s_iaload X hx hZ eT A_a71 (by decide) (i := 1) rfl (x := x1) rfl (hb hby at_238) (q := 239) rfl ?_
      refine f_icmp_ge X hx (hb hby at_239) (q1 := 246) (by decide) (by decide) (q := 242) rfl (fun hc239 => ?_) (fun hc239 => ?_)
      · refine s_iconst X hx (z := (0 : Int32)) (hb hby at_246) rfl (q := 247) rfl ?_
        simpa only [if_neg hc217, if_pos hc228, if_neg hc239] using key217
      refine s_iconst X hx (z := (1 : Int32)) (hb hby at_242) rfl (q := 243) rfl ?_
      refine s_goto X hx (hb hby at_243) (q1 := 247) (by decide) (by decide) ?_
      exfalso; contradiction
    refine s_istore X hx (hb hby at_247) (L' := #[.val (.int x0), .val (.int x1), .val (.int x2), .val (.int x3), .val (.int x4), .val (.int (7 : Int32)), .val (.int (2 : Int32)), .val (.int (0 : Int32)), .val (.int (2 : Int32)), .val (.ref a71), .val (.ref a75), .val (.ref a71), .val (.ref t80), .val (.int (1 : Int32)), .val (.int (if x0 < x1 then (1 : Int32) else (if x0 = x1 then (if x0 < x1 then (1 : Int32) else (0 : Int32)) else (0 : Int32)))), .unset]) rfl (q := 249) rfl ?_
    refine s_aload X hx (hb hby at_249) rfl rfl (q := 251) rfl ?_
    refine s_iconst X hx (z := (0 : Int32)) (hb hby at_251) rfl (q := 252) rfl ?_
    refine s_iaload X hx hZ eT A_a71 (by decide) (i := 0) rfl (x := x0) rfl (hb hby at_252) (q := 253) rfl ?_
    refine s_aload X hx (hb hby at_253) rfl rfl (q := 255) rfl ?_
    refine s_iconst X hx (z := (1 : Int32)) (hb hby at_255) rfl (q := 256) rfl ?_
    refine s_iaload X hx hZ eT A_a71 (by decide) (i := 1) rfl (x := x1) rfl (hb hby at_256) (q := 257) rfl ?_
    refine jn (T2 := T) (pc2 := 276) (L2 := #[.val (.int x0), .val (.int x1), .val (.int x2), .val (.int x3), .val (.int x4), .val (.int (7 : Int32)), .val (.int (2 : Int32)), .val (.int (0 : Int32)), .val (.int (2 : Int32)), .val (.ref a71), .val (.ref a75), .val (.ref a71), .val (.ref t80), .val (.int (1 : Int32)), .val (.int (if x0 < x1 then (1 : Int32) else (if x0 = x1 then (if x0 < x1 then (1 : Int32) else (0 : Int32)) else (0 : Int32)))), .unset]) (S2 := [(.int (if x0 = x1 then (if x0 = x1 then (1 : Int32) else (0 : Int32)) else (0 : Int32)))]) (fun key257 => ?_) ?_
    · refine f_icmp_ne X hx (hb hby at_257) (q1 := 275) (by decide) (by decide) (q := 260) rfl (fun hc257 => ?_) (fun hc257 => ?_)
      · refine s_iconst X hx (z := (0 : Int32)) (hb hby at_275) rfl (q := 276) rfl ?_
        simpa only [if_neg hc257] using key257
      refine s_aload X hx (hb hby at_260) rfl rfl (q := 262) rfl ?_
      refine s_iconst X hx (z := (0 : Int32)) (hb hby at_262) rfl (q := 263) rfl ?_
      refine s_iaload X hx hZ eT A_a71 (by decide) (i := 0) rfl (x := x0) rfl (hb hby at_263) (q := 264) rfl ?_
      refine s_aload X hx (hb hby at_264) rfl rfl (q := 266) rfl ?_
      refine s_iconst X hx (z := (1 : Int32)) (hb hby at_266) rfl (q := 267) rfl ?_
      refine s_iaload X hx hZ eT A_a71 (by decide) (i := 1) rfl (x := x1) rfl (hb hby at_267) (q := 268) rfl ?_
      refine f_icmp_ne X hx (hb hby at_268) (q1 := 275) (by decide) (by decide) (q := 271) rfl (fun hc268 => ?_) (fun hc268 => ?_)
      · refine s_iconst X hx (z := (0 : Int32)) (hb hby at_275) rfl (q := 276) rfl ?_
        exfalso; contradiction
      refine s_iconst X hx (z := (1 : Int32)) (hb hby at_271) rfl (q := 272) rfl ?_
      refine s_goto X hx (hb hby at_272) (q1 := 276) (by decide) (by decide) ?_
      simpa only [if_pos hc257, if_pos hc268] using key257
    refine s_istore X hx (hb hby at_276) (L' := #[.val (.int x0), .val (.int x1), .val (.int x2), .val (.int x3), .val (.int x4), .val (.int (7 : Int32)), .val (.int (2 : Int32)), .val (.int (0 : Int32)), .val (.int (2 : Int32)), .val (.ref a71), .val (.ref a75), .val (.ref a71), .val (.ref t80), .val (.int (1 : Int32)), .val (.int (if x0 < x1 then (1 : Int32) else (if x0 = x1 then (if x0 < x1 then (1 : Int32) else (0 : Int32)) else (0 : Int32)))), .val (.int (if x0 = x1 then (if x0 = x1 then (1 : Int32) else (0 : Int32)) else (0 : Int32)))]) rfl (q := 278) rfl ?_
    refine s_iload X hx (hb hby at_278) rfl (q := 280) rfl ?_
    refine f_if_eq X hx (hb hby at_280) (q1 := 331) (by decide) (by decide) (q := 283) rfl (fun hq => absurd hq (by decide : ¬ (1 : Int32) = 0)) (fun _ => ?_)
    refine s_aload X hx (hb hby at_283) rfl rfl (q := 285) rfl ?_
    refine s_iconst X hx (z := (0 : Int32)) (hb hby at_285) rfl (q := 286) rfl ?_
    refine s_laload X hx hZ eT A_t80 (by decide) (i := 0) rfl (x := (KEY x0 x0)) rfl (hb hby at_286) (q := 287) rfl ?_
    refine s_aload X hx (hb hby at_287) rfl rfl (q := 289) rfl ?_
    refine s_iconst X hx (z := (1 : Int32)) (hb hby at_289) rfl (q := 290) rfl ?_
    refine s_laload X hx hZ eT A_t80 (by decide) (i := 1) rfl (x := (KEY x1 x1)) rfl (hb hby at_290) (q := 291) rfl ?_
    refine s_lcmp X hx (hb hby at_291) (q := 292) rfl ?_
    refine jn (T2 := T) (pc2 := 300) (L2 := #[.val (.int x0), .val (.int x1), .val (.int x2), .val (.int x3), .val (.int x4), .val (.int (7 : Int32)), .val (.int (2 : Int32)), .val (.int (0 : Int32)), .val (.int (2 : Int32)), .val (.ref a71), .val (.ref a75), .val (.ref a71), .val (.ref t80), .val (.int (1 : Int32)), .val (.int (if x0 < x1 then (1 : Int32) else (if x0 = x1 then (if x0 < x1 then (1 : Int32) else (0 : Int32)) else (0 : Int32)))), .val (.int (if x0 = x1 then (if x0 = x1 then (1 : Int32) else (0 : Int32)) else (0 : Int32)))]) (S2 := [(.int (if (KEY x0 x0) < (KEY x1 x1) then (1 : Int32) else (0 : Int32)))]) (fun key292 => ?_) ?_
    · refine f_lcmp_ge X hx (hb hby at_292) (q1 := 299) (by decide) (by decide) (q := 295) rfl (fun hc292 => ?_) (fun hc292 => ?_)
      · refine s_iconst X hx (z := (0 : Int32)) (hb hby at_299) rfl (q := 300) rfl ?_
        simpa only [if_neg hc292] using key292
      refine s_iconst X hx (z := (1 : Int32)) (hb hby at_295) rfl (q := 296) rfl ?_
      refine s_goto X hx (hb hby at_296) (q1 := 300) (by decide) (by decide) ?_
      simpa only [if_pos hc292] using key292
    refine s_iload X hx (hb hby at_300) rfl (q := 302) rfl ?_
    refine f_icmp_ne X hx (hb hby at_302) (q1 := 331) (by decide) (by decide) (q := 305) rfl (fun hq => absurd (own_less _ _ _ _ : (if (KEY x0 x0) < (KEY x1 x1) then (1 : Int32) else (0 : Int32)) = (if x0 < x1 then (1 : Int32) else (if x0 = x1 then (if x0 < x1 then (1 : Int32) else (0 : Int32)) else (0 : Int32)))) hq) (fun _ => ?_)
    refine s_aload X hx (hb hby at_305) rfl rfl (q := 307) rfl ?_
    refine s_iconst X hx (z := (0 : Int32)) (hb hby at_307) rfl (q := 308) rfl ?_
    refine s_laload X hx hZ eT A_t80 (by decide) (i := 0) rfl (x := (KEY x0 x0)) rfl (hb hby at_308) (q := 309) rfl ?_
    refine s_aload X hx (hb hby at_309) rfl rfl (q := 311) rfl ?_
    refine s_iconst X hx (z := (1 : Int32)) (hb hby at_311) rfl (q := 312) rfl ?_
    refine s_laload X hx hZ eT A_t80 (by decide) (i := 1) rfl (x := (KEY x1 x1)) rfl (hb hby at_312) (q := 313) rfl ?_
    refine s_lcmp X hx (hb hby at_313) (q := 314) rfl ?_
    refine jn (T2 := T) (pc2 := 322) (L2 := #[.val (.int x0), .val (.int x1), .val (.int x2), .val (.int x3), .val (.int x4), .val (.int (7 : Int32)), .val (.int (2 : Int32)), .val (.int (0 : Int32)), .val (.int (2 : Int32)), .val (.ref a71), .val (.ref a75), .val (.ref a71), .val (.ref t80), .val (.int (1 : Int32)), .val (.int (if x0 < x1 then (1 : Int32) else (if x0 = x1 then (if x0 < x1 then (1 : Int32) else (0 : Int32)) else (0 : Int32)))), .val (.int (if x0 = x1 then (if x0 = x1 then (1 : Int32) else (0 : Int32)) else (0 : Int32)))]) (S2 := [(.int (if (KEY x0 x0) = (KEY x1 x1) then (1 : Int32) else (0 : Int32)))]) (fun key314 => ?_) ?_
    · refine f_lcmp_ne X hx (hb hby at_314) (q1 := 321) (by decide) (by decide) (q := 317) rfl (fun hc314 => ?_) (fun hc314 => ?_)
      · refine s_iconst X hx (z := (0 : Int32)) (hb hby at_321) rfl (q := 322) rfl ?_
        simpa only [if_neg hc314] using key314
      refine s_iconst X hx (z := (1 : Int32)) (hb hby at_317) rfl (q := 318) rfl ?_
      refine s_goto X hx (hb hby at_318) (q1 := 322) (by decide) (by decide) ?_
      simpa only [if_pos hc314] using key314
    refine s_iload X hx (hb hby at_322) rfl (q := 324) rfl ?_
    refine f_icmp_ne X hx (hb hby at_324) (q1 := 331) (by decide) (by decide) (q := 327) rfl (fun hq => absurd (own_same _ _ _ _ : (if (KEY x0 x0) = (KEY x1 x1) then (1 : Int32) else (0 : Int32)) = (if x0 = x1 then (if x0 = x1 then (1 : Int32) else (0 : Int32)) else (0 : Int32))) hq) (fun _ => ?_)
    refine s_iconst X hx (z := (1 : Int32)) (hb hby at_327) rfl (q := 328) rfl ?_
    refine s_goto X hx (hb hby at_328) (q1 := 332) (by decide) (by decide) ?_
    refine s_istore X hx (hb hby at_332) (L' := #[.val (.int x0), .val (.int x1), .val (.int x2), .val (.int x3), .val (.int x4), .val (.int (7 : Int32)), .val (.int (2 : Int32)), .val (.int (0 : Int32)), .val (.int (2 : Int32)), .val (.ref a71), .val (.ref a75), .val (.ref a71), .val (.ref t80), .val (.int (1 : Int32)), .val (.int (if x0 < x1 then (1 : Int32) else (if x0 = x1 then (if x0 < x1 then (1 : Int32) else (0 : Int32)) else (0 : Int32)))), .val (.int (if x0 = x1 then (if x0 = x1 then (1 : Int32) else (0 : Int32)) else (0 : Int32)))]) rfl (q := 334) rfl ?_
    refine s_iload X hx (hb hby at_334) rfl (q := 336) rfl ?_
    exact leafN X hx hlk hret (by simp) (hb hby at_336) (by decide) (by decide) (z' := 1) rfl ⟨rfl, N⟩
  · subst hcase
    refine s_iload X hx (hb hby at_10) rfl (q := 12) rfl ?_
    refine s_iconst X hx (z := (5 : Int32)) (hb hby at_12) rfl (q := 13) rfl ?_
    refine s_irem X hx (hb hby at_13) (by decide) (q := 14) rfl ?_
    show Go p e below _ T m 14 #[.val (.int x0), .val (.int x1), .val (.int x2), .val (.int x3), .val (.int x4), .val (.int (8 : Int32)), .unset, .unset, .unset, .unset, .unset, .unset, .unset, .unset, .unset, .unset] [(.int (3 : Int32))]
    refine s_istore X hx (hb hby at_14) (L' := #[.val (.int x0), .val (.int x1), .val (.int x2), .val (.int x3), .val (.int x4), .val (.int (8 : Int32)), .val (.int (3 : Int32)), .unset, .unset, .unset, .unset, .unset, .unset, .unset, .unset, .unset]) rfl (q := 16) rfl ?_
    refine s_iload X hx (hb hby at_16) rfl (q := 18) rfl ?_
    refine s_iconst X hx (z := (2 : Int32)) (hb hby at_18) rfl (q := 19) rfl ?_
    refine f_icmp_gt X hx (hb hby at_19) (q1 := 26) (by decide) (by decide) (q := 22) rfl (fun _ => ?_) (fun hq => absurd (by decide : (2 : Int32) < (3 : Int32)) hq)
    refine s_iconst X hx (z := (1 : Int32)) (hb hby at_26) rfl (q := 27) rfl ?_
    refine s_istore X hx (hb hby at_27) (L' := #[.val (.int x0), .val (.int x1), .val (.int x2), .val (.int x3), .val (.int x4), .val (.int (8 : Int32)), .val (.int (3 : Int32)), .val (.int (1 : Int32)), .unset, .unset, .unset, .unset, .unset, .unset, .unset, .unset]) rfl (q := 29) rfl ?_
    refine s_iload X hx (hb hby at_29) rfl (q := 31) rfl ?_
    refine f_if_ne X hx (hb hby at_31) (q1 := 38) (by decide) (by decide) (q := 34) rfl (fun _ => ?_) (fun hq => absurd hq (by decide : ¬ (3 : Int32) = 0))
    refine s_iload X hx (hb hby at_38) rfl (q := 40) rfl ?_
    refine s_iconst X hx (z := (1 : Int32)) (hb hby at_40) rfl (q := 41) rfl ?_
    refine f_icmp_eq X hx (hb hby at_41) (q1 := 50) (by decide) (by decide) (q := 44) rfl (fun hq => absurd hq (by decide : ¬ (3 : Int32) = (1 : Int32))) (fun _ => ?_)
    refine s_iload X hx (hb hby at_44) rfl (q := 46) rfl ?_
    refine s_iconst X hx (z := (3 : Int32)) (hb hby at_46) rfl (q := 47) rfl ?_
    refine f_icmp_ne X hx (hb hby at_47) (q1 := 54) (by decide) (by decide) (q := 50) rfl (fun hq => absurd (by decide : (3 : Int32) = (3 : Int32)) hq) (fun _ => ?_)
    refine s_iconst X hx (z := (1 : Int32)) (hb hby at_50) rfl (q := 51) rfl ?_
    refine s_goto X hx (hb hby at_51) (q1 := 55) (by decide) (by decide) ?_
    refine s_istore X hx (hb hby at_55) (L' := #[.val (.int x0), .val (.int x1), .val (.int x2), .val (.int x3), .val (.int x4), .val (.int (8 : Int32)), .val (.int (3 : Int32)), .val (.int (1 : Int32)), .val (.int (1 : Int32)), .unset, .unset, .unset, .unset, .unset, .unset, .unset]) rfl (q := 57) rfl ?_
    refine s_iconst X hx (z := (2 : Int32)) (hb hby at_57) rfl (q := 58) rfl ?_
    refine s_newI X hx hZ (hw _ (List.mem_of_getElem? (i := 1) rfl)) eT (by decide) (cap := 2) (by decide) (by decide) (by decide) (by decide) (ys := [0, 0]) rfl (hb hby at_58) (q := 60) rfl ?_
    intro T h82 a81 X eT E ea A_a81
    have g_a81 : n0 ≤ a81 := by rw [ea]; exact sz
    have sz : n0 ≤ h82.size := Nat.le_trans sz E.1
    refine s_astore X hx (hb hby at_60) rfl (L' := #[.val (.int x0), .val (.int x1), .val (.int x2), .val (.int x3), .val (.int x4), .val (.int (8 : Int32)), .val (.int (3 : Int32)), .val (.int (1 : Int32)), .val (.int (1 : Int32)), .val (.ref a81), .unset, .unset, .unset, .unset, .unset, .unset]) rfl (q := 62) rfl ?_
    refine s_aload X hx (hb hby at_62) rfl rfl (q := 64) rfl ?_
    refine s_iconst X hx (z := (0 : Int32)) (hb hby at_64) rfl (q := 65) rfl ?_
    refine s_iloadN X hx (hb hby at_65) rfl (q := 66) rfl ?_
    refine s_iastore X hx hZ eT A_a81 N g_a81 (by decide) (i := 0) rfl (Nat.le_of_ble_eq_true rfl) (ys := [x0, 0]) rfl (hb hby at_66) (q := 67) rfl ?_
    intro T h83 _ X N eT W A_a81'
    have sz : n0 ≤ h83.size := by rw [W.size]; exact sz
    have A_a81 := A_a81'
    refine s_aload X hx (hb hby at_67) rfl rfl (q := 69) rfl ?_
    refine s_iconst X hx (z := (1 : Int32)) (hb hby at_69) rfl (q := 70) rfl ?_
    refine s_iloadN X hx (hb hby at_70) rfl (q := 71) rfl ?_
    refine s_iastore X hx hZ eT A_a81 N g_a81 (by decide) (i := 1) rfl (Nat.le_of_ble_eq_true rfl) (ys := [x0, x1]) rfl (hb hby at_71) (q := 72) rfl ?_
    intro T h84 _ X N eT W A_a81'
    have sz : n0 ≤ h84.size := by rw [W.size]; exact sz
    have A_a81 := A_a81'
    refine s_iconst X hx (z := (2 : Int32)) (hb hby at_72) rfl (q := 73) rfl ?_
    refine s_newI X hx hZ (hw _ (List.mem_of_getElem? (i := 1) rfl)) eT (by decide) (cap := 2) (by decide) (by decide) (by decide) (by decide) (ys := [0, 0]) rfl (hb hby at_73) (q := 75) rfl ?_
    intro T h86 a85 X eT E ea A_a85
    have ne_a81_a85 : a81 ≠ a85 := by rw [ea]; exact Nat.ne_of_lt A_a81.lt
    have A_a81 := A_a81.ext E
    have g_a85 : n0 ≤ a85 := by rw [ea]; exact sz
    have sz : n0 ≤ h86.size := Nat.le_trans sz E.1
    refine s_astore X hx (hb hby at_75) rfl (L' := #[.val (.int x0), .val (.int x1), .val (.int x2), .val (.int x3), .val (.int x4), .val (.int (8 : Int32)), .val (.int (3 : Int32)), .val (.int (1 : Int32)), .val (.int (1 : Int32)), .val (.ref a81), .val (.ref a85), .unset, .unset, .unset, .unset, .unset]) rfl (q := 77) rfl ?_
    refine s_aload X hx (hb hby at_77) rfl rfl (q := 79) rfl ?_
    refine s_iconst X hx (z := (0 : Int32)) (hb hby at_79) rfl (q := 80) rfl ?_
    refine s_iloadN X hx (hb hby at_80) rfl (q := 81) rfl ?_
    refine s_iastore X hx hZ eT A_a85 N g_a85 (by decide) (i := 0) rfl (Nat.le_of_ble_eq_true rfl) (ys := [x2, 0]) rfl (hb hby at_81) (q := 82) rfl ?_
    intro T h87 _ X N eT W A_a85'
    have A_a81 := A_a81.other W ne_a81_a85
    have sz : n0 ≤ h87.size := by rw [W.size]; exact sz
    have A_a85 := A_a85'
    refine s_aload X hx (hb hby at_82) rfl rfl (q := 84) rfl ?_
    refine s_iconst X hx (z := (1 : Int32)) (hb hby at_84) rfl (q := 85) rfl ?_
    refine s_iloadN X hx (hb hby at_85) rfl (q := 86) rfl ?_
    refine s_iastore X hx hZ eT A_a85 N g_a85 (by decide) (i := 1) rfl (Nat.le_of_ble_eq_true rfl) (ys := [x2, x3]) rfl (hb hby at_86) (q := 87) rfl ?_
    intro T h88 _ X N eT W A_a85'
    have A_a81 := A_a81.other W ne_a81_a85
    have sz : n0 ≤ h88.size := by rw [W.size]; exact sz
    have A_a85 := A_a85'
    refine s_iload X hx (hb hby at_87) rfl (q := 89) rfl ?_
    refine s_iconst X hx (z := (5 : Int32)) (hb hby at_89) rfl (q := 90) rfl ?_
    refine f_icmp_lt X hx (hb hby at_90) (q1 := 98) (by decide) (by decide) (q := 93) rfl (fun hq => absurd hq (by decide : ¬ (8 : Int32) < (5 : Int32))) (fun _ => ?_)
    refine s_aload X hx (hb hby at_93) rfl rfl (q := 95) rfl ?_
    refine s_goto X hx (hb hby at_95) (q1 := 100) (by decide) (by decide) ?_
    refine s_astore X hx (hb hby at_100) rfl (L' := #[.val (.int x0), .val (.int x1), .val (.int x2), .val (.int x3), .val (.int x4), .val (.int (8 : Int32)), .val (.int (3 : Int32)), .val (.int (1 : Int32)), .val (.int (1 : Int32)), .val (.ref a81), .val (.ref a85), .val (.ref a81), .unset, .unset, .unset, .unset]) rfl (q := 102) rfl ?_
    refine s_aload X hx (hb hby at_102) rfl rfl (q := 104) rfl ?_
    refine s_aload X hx (hb hby at_104) rfl rfl (q := 106) rfl ?_
    refine s_iload X hx (hb hby at_106) rfl (q := 108) rfl ?_
    refine s_iload X hx (hb hby at_108) rfl (q := 110) rfl ?_
    refine callC X hx hZ hown (W := 0) (argsL := [(.ref a81), (.ref a81), (.int (1 : Int32)), (.int (1 : Int32))]) (rest := []) (hw _ (List.mem_of_getElem? (i := 2) rfl)) (hw _ (List.mem_of_getElem? (i := 3) rfl)) (hw _ (List.mem_of_getElem? (i := 4) rfl)) (hw _ (List.mem_of_getElem? (i := 5) rfl)) (by decide) (rm1_11 l Z a0 hw [] a81 a81 x0 x1 x0 x1 h88 n0 sz A_a81 A_a81) eT (by decide) (by decide) (by decide) (by decide) (by rw [hml]; rfl) pd0 rfl rfl (Nat.le_of_ble_eq_true rfl) (hb hby at_110) (q := 113) rfl ?_
    intro v T Lc hQ X
    obtain ⟨h89, eT⟩ : ∃ z, T.heap = z := ⟨_, rfl⟩
    try rw [eT] at hQ
    obtain ⟨t90, rfl, N', K', _, A_t90⟩ := hQ
    have N := Fr.app N N'
    have A_a81 := A_a81.keep K' nin0
    have A_a85 := A_a85.keep K' nin0
    have sz : n0 ≤ h89.size := Nat.le_trans sz K'.1
    refine s_astore X hx (hb hby at_113) rfl (L' := #[.val (.int x0), .val (.int x1), .val (.int x2), .val (.int x3), .val (.int x4), .val (.int (8 : Int32)), .val (.int (3 : Int32)), .val (.int (1 : Int32)), .val (.int (1 : Int32)), .val (.ref a81), .val (.ref a85), .val (.ref a81), .val (.ref t90), .unset, .unset, .unset]) rfl (q := 115) rfl ?_
    refine s_aload X hx (hb hby at_115) rfl rfl (q := 117) rfl ?_
    refine s_lenJ X hx hZ eT (z := (0 : Int32)) A_t90 rfl (hb hby at_117) (q := 118) rfl ?_
    refine s_iload X hx (hb hby at_118) rfl (q := 120) rfl ?_
    refine s_iload X hx (hb hby at_120) rfl (q := 122) rfl ?_
    refine s_isub X hx (hb hby at_122) (q := 123) rfl ?_
    show Go p e below _ T m 123 #[.val (.int x0), .val (.int x1), .val (.int x2), .val (.int x3), .val (.int x4), .val (.int (8 : Int32)), .val (.int (3 : Int32)), .val (.int (1 : Int32)), .val (.int (1 : Int32)), .val (.ref a81), .val (.ref a85), .val (.ref a81), .val (.ref t90), .unset, .unset, .unset] [(.int (0 : Int32)), (.int (0 : Int32))]
    refine f_icmp_eq X hx (hb hby at_123) (q1 := 128) (by decide) (by decide) (q := 126) rfl (fun _ => ?_) (fun hq => absurd (by decide : (0 : Int32) = (0 : Int32)) hq)
    refine s_iconst X hx (z := (1 : Int32)) (hb hby at_128) rfl (q := 129) rfl ?_
    refine s_istore X hx (hb hby at_129) (L' := #[.val (.int x0), .val (.int x1), .val (.int x2), .val (.int x3), .val (.int x4), .val (.int (8 : Int32)), .val (.int (3 : Int32)), .val (.int (1 : Int32)), .val (.int (1 : Int32)), .val (.ref a81), .val (.ref a85), .val (.ref a81), .val (.ref t90), .val (.int (1 : Int32)), .unset, .unset]) rfl (q := 131) rfl ?_
    refine s_aload X hx (hb hby at_131) rfl rfl (q := 133) rfl ?_
    refine s_lenJ X hx hZ eT (z := (0 : Int32)) A_t90 rfl (hb hby at_133) (q := 134) rfl ?_
    refine s_iconst X hx (z := (1 : Int32)) (hb hby at_134) rfl (q := 135) rfl ?_
    refine f_icmp_lt X hx (hb hby at_135) (q1 := 171) (by decide) (by decide) (q := 138) rfl (fun _ => ?_) (fun hq => absurd (by decide : (0 : Int32) < (1 : Int32)) hq)
    refine s_aload X hx (hb hby at_171) rfl rfl (q := 173) rfl ?_
    refine s_lenJ X hx hZ eT (z := (0 : Int32)) A_t90 rfl (hb hby at_173) (q := 174) rfl ?_
    refine s_iconst X hx (z := (2 : Int32)) (hb hby at_174) rfl (q := 175) rfl ?_
    refine f_icmp_ne X hx (hb hby at_175) (q1 := 334) (by decide) (by decide) (q := 178) rfl (fun _ => ?_) (fun hq => absurd hq (by decide : ¬ (0 : Int32) = (2 : Int32)))
    refine s_iload X hx (hb hby at_334) rfl (q := 336) rfl ?_
    exact leafN X hx hlk hret (by simp) (hb hby at_336) (by decide) (by decide) (z' := 1) rfl ⟨rfl, N⟩
  · subst hcase
    refine s_iload X hx (hb hby at_10) rfl (q := 12) rfl ?_
    refine s_iconst X hx (z := (5 : Int32)) (hb hby at_12) rfl (q := 13) rfl ?_
    refine s_irem X hx (hb hby at_13) (by decide) (q := 14) rfl ?_
    show Go p e below _ T m 14 #[.val (.int x0), .val (.int x1), .val (.int x2), .val (.int x3), .val (.int x4), .val (.int (9 : Int32)), .unset, .unset, .unset, .unset, .unset, .unset, .unset, .unset, .unset, .unset] [(.int (4 : Int32))]
    refine s_istore X hx (hb hby at_14) (L' := #[.val (.int x0), .val (.int x1), .val (.int x2), .val (.int x3), .val (.int x4), .val (.int (9 : Int32)), .val (.int (4 : Int32)), .unset, .unset, .unset, .unset, .unset, .unset, .unset, .unset, .unset]) rfl (q := 16) rfl ?_
    refine s_iload X hx (hb hby at_16) rfl (q := 18) rfl ?_
    refine s_iconst X hx (z := (2 : Int32)) (hb hby at_18) rfl (q := 19) rfl ?_
    refine f_icmp_gt X hx (hb hby at_19) (q1 := 26) (by decide) (by decide) (q := 22) rfl (fun _ => ?_) (fun hq => absurd (by decide : (2 : Int32) < (4 : Int32)) hq)
    refine s_iconst X hx (z := (1 : Int32)) (hb hby at_26) rfl (q := 27) rfl ?_
    refine s_istore X hx (hb hby at_27) (L' := #[.val (.int x0), .val (.int x1), .val (.int x2), .val (.int x3), .val (.int x4), .val (.int (9 : Int32)), .val (.int (4 : Int32)), .val (.int (1 : Int32)), .unset, .unset, .unset, .unset, .unset, .unset, .unset, .unset]) rfl (q := 29) rfl ?_
    refine s_iload X hx (hb hby at_29) rfl (q := 31) rfl ?_
    refine f_if_ne X hx (hb hby at_31) (q1 := 38) (by decide) (by decide) (q := 34) rfl (fun _ => ?_) (fun hq => absurd hq (by decide : ¬ (4 : Int32) = 0))
    refine s_iload X hx (hb hby at_38) rfl (q := 40) rfl ?_
    refine s_iconst X hx (z := (1 : Int32)) (hb hby at_40) rfl (q := 41) rfl ?_
    refine f_icmp_eq X hx (hb hby at_41) (q1 := 50) (by decide) (by decide) (q := 44) rfl (fun hq => absurd hq (by decide : ¬ (4 : Int32) = (1 : Int32))) (fun _ => ?_)
    refine s_iload X hx (hb hby at_44) rfl (q := 46) rfl ?_
    refine s_iconst X hx (z := (3 : Int32)) (hb hby at_46) rfl (q := 47) rfl ?_
    refine f_icmp_ne X hx (hb hby at_47) (q1 := 54) (by decide) (by decide) (q := 50) rfl (fun _ => ?_) (fun hq => absurd hq (by decide : ¬ (4 : Int32) = (3 : Int32)))
    refine s_iconst X hx (z := (2 : Int32)) (hb hby at_54) rfl (q := 55) rfl ?_
    refine s_istore X hx (hb hby at_55) (L' := #[.val (.int x0), .val (.int x1), .val (.int x2), .val (.int x3), .val (.int x4), .val (.int (9 : Int32)), .val (.int (4 : Int32)), .val (.int (1 : Int32)), .val (.int (2 : Int32)), .unset, .unset, .unset, .unset, .unset, .unset, .unset]) rfl (q := 57) rfl ?_
    refine s_iconst X hx (z := (2 : Int32)) (hb hby at_57) rfl (q := 58) rfl ?_
    refine s_newI X hx hZ (hw _ (List.mem_of_getElem? (i := 1) rfl)) eT (by decide) (cap := 2) (by decide) (by decide) (by decide) (by decide) (ys := [0, 0]) rfl (hb hby at_58) (q := 60) rfl ?_
    intro T h92 a91 X eT E ea A_a91
    have g_a91 : n0 ≤ a91 := by rw [ea]; exact sz
    have sz : n0 ≤ h92.size := Nat.le_trans sz E.1
    refine s_astore X hx (hb hby at_60) rfl (L' := #[.val (.int x0), .val (.int x1), .val (.int x2), .val (.int x3), .val (.int x4), .val (.int (9 : Int32)), .val (.int (4 : Int32)), .val (.int (1 : Int32)), .val (.int (2 : Int32)), .val (.ref a91), .unset, .unset, .unset, .unset, .unset, .unset]) rfl (q := 62) rfl ?_
    refine s_aload X hx (hb hby at_62) rfl rfl (q := 64) rfl ?_
    refine s_iconst X hx (z := (0 : Int32)) (hb hby at_64) rfl (q := 65) rfl ?_
    refine s_iloadN X hx (hb hby at_65) rfl (q := 66) rfl ?_
    refine s_iastore X hx hZ eT A_a91 N g_a91 (by decide) (i := 0) rfl (Nat.le_of_ble_eq_true rfl) (ys := [x0, 0]) rfl (hb hby at_66) (q := 67) rfl ?_
    intro T h93 _ X N eT W A_a91'
    have sz : n0 ≤ h93.size := by rw [W.size]; exact sz
    have A_a91 := A_a91'
    refine s_aload X hx (hb hby at_67) rfl rfl (q := 69) rfl ?_
    refine s_iconst X hx (z := (1 : Int32)) (hb hby at_69) rfl (q := 70) rfl ?_
    refine s_iloadN X hx (hb hby at_70) rfl (q := 71) rfl ?_
    refine s_iastore X hx hZ eT A_a91 N g_a91 (by decide) (i := 1) rfl (Nat.le_of_ble_eq_true rfl) (ys := [x0, x1]) rfl (hb hby at_71) (q := 72) rfl ?_
    intro T h94 _ X N eT W A_a91'
    have sz : n0 ≤ h94.size := by rw [W.size]; exact sz
    have A_a91 := A_a91'
    refine s_iconst X hx (z := (2 : Int32)) (hb hby at_72) rfl (q := 73) rfl ?_
    refine s_newI X hx hZ (hw _ (List.mem_of_getElem? (i := 1) rfl)) eT (by decide) (cap := 2) (by decide) (by decide) (by decide) (by decide) (ys := [0, 0]) rfl (hb hby at_73) (q := 75) rfl ?_
    intro T h96 a95 X eT E ea A_a95
    have ne_a91_a95 : a91 ≠ a95 := by rw [ea]; exact Nat.ne_of_lt A_a91.lt
    have A_a91 := A_a91.ext E
    have g_a95 : n0 ≤ a95 := by rw [ea]; exact sz
    have sz : n0 ≤ h96.size := Nat.le_trans sz E.1
    refine s_astore X hx (hb hby at_75) rfl (L' := #[.val (.int x0), .val (.int x1), .val (.int x2), .val (.int x3), .val (.int x4), .val (.int (9 : Int32)), .val (.int (4 : Int32)), .val (.int (1 : Int32)), .val (.int (2 : Int32)), .val (.ref a91), .val (.ref a95), .unset, .unset, .unset, .unset, .unset]) rfl (q := 77) rfl ?_
    refine s_aload X hx (hb hby at_77) rfl rfl (q := 79) rfl ?_
    refine s_iconst X hx (z := (0 : Int32)) (hb hby at_79) rfl (q := 80) rfl ?_
    refine s_iloadN X hx (hb hby at_80) rfl (q := 81) rfl ?_
    refine s_iastore X hx hZ eT A_a95 N g_a95 (by decide) (i := 0) rfl (Nat.le_of_ble_eq_true rfl) (ys := [x2, 0]) rfl (hb hby at_81) (q := 82) rfl ?_
    intro T h97 _ X N eT W A_a95'
    have A_a91 := A_a91.other W ne_a91_a95
    have sz : n0 ≤ h97.size := by rw [W.size]; exact sz
    have A_a95 := A_a95'
    refine s_aload X hx (hb hby at_82) rfl rfl (q := 84) rfl ?_
    refine s_iconst X hx (z := (1 : Int32)) (hb hby at_84) rfl (q := 85) rfl ?_
    refine s_iloadN X hx (hb hby at_85) rfl (q := 86) rfl ?_
    refine s_iastore X hx hZ eT A_a95 N g_a95 (by decide) (i := 1) rfl (Nat.le_of_ble_eq_true rfl) (ys := [x2, x3]) rfl (hb hby at_86) (q := 87) rfl ?_
    intro T h98 _ X N eT W A_a95'
    have A_a91 := A_a91.other W ne_a91_a95
    have sz : n0 ≤ h98.size := by rw [W.size]; exact sz
    have A_a95 := A_a95'
    refine s_iload X hx (hb hby at_87) rfl (q := 89) rfl ?_
    refine s_iconst X hx (z := (5 : Int32)) (hb hby at_89) rfl (q := 90) rfl ?_
    refine f_icmp_lt X hx (hb hby at_90) (q1 := 98) (by decide) (by decide) (q := 93) rfl (fun hq => absurd hq (by decide : ¬ (9 : Int32) < (5 : Int32))) (fun _ => ?_)
    refine s_aload X hx (hb hby at_93) rfl rfl (q := 95) rfl ?_
    refine s_goto X hx (hb hby at_95) (q1 := 100) (by decide) (by decide) ?_
    refine s_astore X hx (hb hby at_100) rfl (L' := #[.val (.int x0), .val (.int x1), .val (.int x2), .val (.int x3), .val (.int x4), .val (.int (9 : Int32)), .val (.int (4 : Int32)), .val (.int (1 : Int32)), .val (.int (2 : Int32)), .val (.ref a91), .val (.ref a95), .val (.ref a91), .unset, .unset, .unset, .unset]) rfl (q := 102) rfl ?_
    refine s_aload X hx (hb hby at_102) rfl rfl (q := 104) rfl ?_
    refine s_aload X hx (hb hby at_104) rfl rfl (q := 106) rfl ?_
    refine s_iload X hx (hb hby at_106) rfl (q := 108) rfl ?_
    refine s_iload X hx (hb hby at_108) rfl (q := 110) rfl ?_
    refine callC X hx hZ hown (W := 0) (argsL := [(.ref a91), (.ref a91), (.int (1 : Int32)), (.int (2 : Int32))]) (rest := []) (hw _ (List.mem_of_getElem? (i := 2) rfl)) (hw _ (List.mem_of_getElem? (i := 3) rfl)) (hw _ (List.mem_of_getElem? (i := 4) rfl)) (hw _ (List.mem_of_getElem? (i := 5) rfl)) (by decide) (rm1_12 l Z a0 hw [] a91 a91 x0 x1 x0 x1 h98 n0 sz A_a91 A_a91) eT (by decide) (by decide) (by decide) (by decide) (by rw [hml]; rfl) pd0 rfl rfl (Nat.le_of_ble_eq_true rfl) (hb hby at_110) (q := 113) rfl ?_
    intro v T Lc hQ X
    obtain ⟨h99, eT⟩ : ∃ z, T.heap = z := ⟨_, rfl⟩
    try rw [eT] at hQ
    obtain ⟨t100, rfl, N', K', _, A_t100⟩ := hQ
    have N := Fr.app N N'
    have A_a91 := A_a91.keep K' nin0
    have A_a95 := A_a95.keep K' nin0
    have sz : n0 ≤ h99.size := Nat.le_trans sz K'.1
    refine s_astore X hx (hb hby at_113) rfl (L' := #[.val (.int x0), .val (.int x1), .val (.int x2), .val (.int x3), .val (.int x4), .val (.int (9 : Int32)), .val (.int (4 : Int32)), .val (.int (1 : Int32)), .val (.int (2 : Int32)), .val (.ref a91), .val (.ref a95), .val (.ref a91), .val (.ref t100), .unset, .unset, .unset]) rfl (q := 115) rfl ?_
    refine s_aload X hx (hb hby at_115) rfl rfl (q := 117) rfl ?_
    refine s_lenJ X hx hZ eT (z := (1 : Int32)) A_t100 rfl (hb hby at_117) (q := 118) rfl ?_
    refine s_iload X hx (hb hby at_118) rfl (q := 120) rfl ?_
    refine s_iload X hx (hb hby at_120) rfl (q := 122) rfl ?_
    refine s_isub X hx (hb hby at_122) (q := 123) rfl ?_
    show Go p e below _ T m 123 #[.val (.int x0), .val (.int x1), .val (.int x2), .val (.int x3), .val (.int x4), .val (.int (9 : Int32)), .val (.int (4 : Int32)), .val (.int (1 : Int32)), .val (.int (2 : Int32)), .val (.ref a91), .val (.ref a95), .val (.ref a91), .val (.ref t100), .unset, .unset, .unset] [(.int (1 : Int32)), (.int (1 : Int32))]
    refine f_icmp_eq X hx (hb hby at_123) (q1 := 128) (by decide) (by decide) (q := 126) rfl (fun _ => ?_) (fun hq => absurd (by decide : (1 : Int32) = (1 : Int32)) hq)
    refine s_iconst X hx (z := (1 : Int32)) (hb hby at_128) rfl (q := 129) rfl ?_
    refine s_istore X hx (hb hby at_129) (L' := #[.val (.int x0), .val (.int x1), .val (.int x2), .val (.int x3), .val (.int x4), .val (.int (9 : Int32)), .val (.int (4 : Int32)), .val (.int (1 : Int32)), .val (.int (2 : Int32)), .val (.ref a91), .val (.ref a95), .val (.ref a91), .val (.ref t100), .val (.int (1 : Int32)), .unset, .unset]) rfl (q := 131) rfl ?_
    refine s_aload X hx (hb hby at_131) rfl rfl (q := 133) rfl ?_
    refine s_lenJ X hx hZ eT (z := (1 : Int32)) A_t100 rfl (hb hby at_133) (q := 134) rfl ?_
    refine s_iconst X hx (z := (1 : Int32)) (hb hby at_134) rfl (q := 135) rfl ?_
    refine f_icmp_lt X hx (hb hby at_135) (q1 := 171) (by decide) (by decide) (q := 138) rfl (fun hq => absurd hq (by decide : ¬ (1 : Int32) < (1 : Int32))) (fun _ => ?_)
    refine s_iload X hx (hb hby at_138) rfl (q := 140) rfl ?_
    refine f_if_eq X hx (hb hby at_140) (q1 := 168) (by decide) (by decide) (q := 143) rfl (fun hq => absurd hq (by decide : ¬ (1 : Int32) = 0)) (fun _ => ?_)
    refine s_aload X hx (hb hby at_143) rfl rfl (q := 145) rfl ?_
    refine s_iconst X hx (z := (0 : Int32)) (hb hby at_145) rfl (q := 146) rfl ?_
    refine s_laload X hx hZ eT A_t100 (by decide) (i := 0) rfl (x := (KEY x1 x1)) rfl (hb hby at_146) (q := 147) rfl ?_
    refine s_aload X hx (hb hby at_147) rfl rfl (q := 149) rfl ?_
    refine s_iload X hx (hb hby at_149) rfl (q := 151) rfl ?_
    refine s_iaload X hx hZ eT A_a91 (by decide) (i := 1) rfl (x := x1) rfl (hb hby at_151) (q := 152) rfl ?_
    refine s_aload X hx (hb hby at_152) rfl rfl (q := 154) rfl ?_
    refine s_iload X hx (hb hby at_154) rfl (q := 156) rfl ?_
    refine s_iaload X hx hZ eT A_a91 (by decide) (i := 1) rfl (x := x1) rfl (hb hby at_156) (q := 157) rfl ?_
    refine callP X hx hZ hown (W := 2) (argsL := [(.int x1), (.int x1)]) (rest := [(.long (KEY x1 x1))]) (hw _ (List.mem_of_getElem? (i := 9) rfl)) (hw _ (List.mem_of_getElem? (i := 10) rfl)) (hw _ (List.mem_of_getElem? (i := 11) rfl)) (hw _ (List.mem_of_getElem? (i := 12) rfl)) (by decide) (rm2 l Z a0 hw [] x1 x1 h99) rfl rfl eT (by decide) (by decide) (by decide) (by decide) (by rw [hml]; rfl) pd1 rfl rfl (Nat.le_of_ble_eq_true rfl) (hb hby at_157) (q := 160) rfl ?_
    intro T X eT
    refine s_lcmp X hx (hb hby at_160) (q := 161) rfl ?_
    refine f_lcmp_ne X hx (hb hby at_161) (q1 := 168) (by decide) (by decide) (q := 164) rfl (fun hq => absurd (own_exp _ _ : (KEY x1 x1) = (F2 x1 x1)) hq) (fun _ => ?_)
    refine s_iconst X hx (z := (1 : Int32)) (hb hby at_164) rfl (q := 165) rfl ?_
    refine s_goto X hx (hb hby at_165) (q1 := 169) (by decide) (by decide) ?_
    refine s_istore X hx (hb hby at_169) (L' := #[.val (.int x0), .val (.int x1), .val (.int x2), .val (.int x3), .val (.int x4), .val (.int (9 : Int32)), .val (.int (4 : Int32)), .val (.int (1 : Int32)), .val (.int (2 : Int32)), .val (.ref a91), .val (.ref a95), .val (.ref a91), .val (.ref t100), .val (.int (1 : Int32)), .unset, .unset]) rfl (q := 171) rfl ?_
    refine s_aload X hx (hb hby at_171) rfl rfl (q := 173) rfl ?_
    refine s_lenJ X hx hZ eT (z := (1 : Int32)) A_t100 rfl (hb hby at_173) (q := 174) rfl ?_
    refine s_iconst X hx (z := (2 : Int32)) (hb hby at_174) rfl (q := 175) rfl ?_
    refine f_icmp_ne X hx (hb hby at_175) (q1 := 334) (by decide) (by decide) (q := 178) rfl (fun _ => ?_) (fun hq => absurd hq (by decide : ¬ (1 : Int32) = (2 : Int32)))
    refine s_iload X hx (hb hby at_334) rfl (q := 336) rfl ?_
    exact leafN X hx hlk hret (by simp) (hb hby at_336) (by decide) (by decide) (z' := 1) rfl ⟨rfl, N⟩
set_option maxRecDepth 65536 in
set_option maxHeartbeats 40000000 in
theorem comes_1 {Post : Tables → Env → Array Value → State → Outcome → State → Prop} (hpost : ∀ tb e args s v u, (limb_1_1.after args s (.returned v) u = true ∧ limb_1_2.after args s (.returned v) u = true ∧ True) → FrameEnd s (.returned v) u (Jvm.fieldLocs frame_1_writes args s ++ Jvm.arrayLocs frame_1_arrays args s ++ Jvm.staticLocs frame_1_statics s) 16 128 → Post tb e args s (.returned v) u) :
    ArmFor flags0 classFile x code maxLocals ret World_1 tables_1 room_1 Calls_1 rest_1 Pre_1 Post := by
  intro l hfl _ _ p e ha hc hk s m args below hf hA hF happ hP
  obtain ⟨hcalls, hrest, hpre⟩ := hP
  obtain ⟨-, -, -, hnamed, -, -, -, hat⟩ := (Spec.applies_iff hf).mp happ
  obtain ⟨hg, hn⟩ := and_e (Cond.before_iff.mp (show (Jvm.Cond.and given_1 narrow_1).before args s = true from hpre))
  obtain ⟨g1, g2⟩ := and_e hg
  obtain ⟨g3, g4⟩ := and_e g2
  obtain ⟨g5, g6⟩ := and_e g4
  obtain ⟨g7, g8⟩ := and_e g6
  obtain ⟨g9, g10⟩ := and_e g8
  obtain ⟨w0, w1, w2, w3, w4, rfl⟩ : ∃ w0 w1 w2 w3 w4 : Value, args = #[w0, w1, w2, w3, w4] := by
    have hs : args.size = 5 := by simpa [Cond.value, given_1] using g1
    obtain ⟨L⟩ := args
    match L, hs with
    | [w0, w1, w2, w3, w4], _ => exact ⟨w0, w1, w2, w3, w4, rfl⟩
  have hw := fun d (hd : d ∈ tables_1) => atoms_spec (ws := Jvm.Cond.code x code maxLocals ret :: tables_1) hat d (List.mem_cons_of_mem _ hd)
  obtain ⟨i0, ei0⟩ := is_v g3
  obtain rfl : w0 = (.int i0) := Option.some.inj ei0
  obtain ⟨i1, ei1⟩ := is_v g5
  obtain rfl : w1 = (.int i1) := Option.some.inj ei1
  obtain ⟨i2, ei2⟩ := is_v g7
  obtain rfl : w2 = (.int i2) := Option.some.inj ei2
  obtain ⟨i3, ei3⟩ := is_v g9
  obtain rfl : w3 = (.int i3) := Option.some.inj ei3
  obtain ⟨i4, ei4⟩ := is_v g10
  obtain rfl : w4 = (.int i4) := Option.some.inj ei4
  obtain ⟨n, o, h1, h2, h3, _, L, rfl, ⟨rfl, N⟩, hq⟩ := rm0 l s _ hw tables_1 i0 i1 i2 i3 i4 s.heap s.heap.size (Nat.le_refl _) p e ha hc hk s m _ below hf ((Spec.applies_iff_loose hf).mp happ).1 ⟨rfl, State.Warmed39.refl s, rfl⟩ trivial
  refine ⟨n, _, h1, h2, h3, hpost _ _ _ _ _ _ ⟨Cond.after_iff.mpr rfl, Cond.after_iff.mpr (eq_i res_at (Term.int_eval (1)) rfl), trivial⟩ ⟨hq.1, hq.2.1, (hq.2.2.sift fun y hy => Or.inr (N y hy)).mono (by decide) (by decide)⟩⟩
theorem main_1_1 : Claimed_1_1 := comes_1 fun _ _ _ _ _ _ h hF => ⟨h.1, hF⟩
theorem main_1_2 : Claimed_1_2 := comes_1 fun _ _ _ _ _ _ h hF => ⟨h.2.1, hF⟩
end Jvm.Pilot.@@N@@
namespace Jvm.Pilot.@@N@@
open Jvm Jvm.ClassFile Sem Op Lib Jvm.Free Jvm.Stand Jvm.Pilot.@@N@@.Jvm.D
/-! MADE BY PROGRAM (witnessworld.py) out of the Statement's table words and the real class files: 11 classes; the members and pool entries that the words name. The judged class is class 1, her method 2. -/
namespace start1
open Jvm.ClassFile
def u (s : String) : CpInfo := .utf8 (stringToUtf16 s)
/-- a pool by its gaps: so many unusable entries, then the entry; so many at the end -/
def gap : Nat → List CpInfo → List CpInfo
  | 0, r => r
  | n + 1, r => .unusable :: gap n r
def poolList (es : List (Nat × CpInfo)) (last : Nat) : List CpInfo := es.foldr (fun e r => gap e.1 (e.2 :: r)) (gap last [])
def pool (es : List (Nat × CpInfo)) (last : Nat) : Array CpInfo := ⟨poolList es last⟩
def fileOf (pool : Array CpInfo) (this : Nat) (attrs : Array Attribute := #[]) (ms : Array MethodInfo := #[]) (fl : Nat := 33) (sup : Nat := 0) (ifs : Array Nat := #[]) (fds : Array FieldInfo := #[]) : ClassFile where
  minorVersion := 0
  majorVersion := 65
  constantPool := pool
  accessFlags := fl
  thisClass := this
  superClass := sup
  interfaces := ifs
  fields := fds
  methods := ms
  attributes := attrs
def plain (name : String) (sup : Option ClassId) : Class where
  name := name
  kind := .ordinary
  loader := none
  accessFlags := 33
  super := sup
  interfaces := #[]
  cf := none
  fields := #[]
  methods := #[]
  instanceTypes := #[]
  staticTypes := #[]
  resolved := #[]
  callSites := []
  init := .initialized
  statics := none
  mirror := none

def pool0 : Array CpInfo := pool [(5, u "<init>"), (0, u "()V"), (1, .class_ 10), (1, u "java/lang/Object")] 113

def k0m0 : Method := { name := "<init>", desc := "()V", sig := { parameters := [], returnType := none }, accessFlags := 1, code := none }
/-- java/lang/Object -/
def k0 : Class := { plain "java/lang/Object" none with
  accessFlags := 33
  interfaces := #[]
  cf := some (fileOf pool0 8 #[] #[{ accessFlags := 1, nameIndex := 5, descriptorIndex := 6, attributes := #[] }] 33 0 #[] #[])
  fields := #[]
  methods := #[k0m0]
  instanceTypes := #[]
  staticTypes := #[]
  resolved := Array.replicate 124 none
  statics := none }

def pool1 : Array CpInfo := pool [(2, .class_ 4), (1, u "java/lang/Object"), (0, u "<init>"), (0, u "()V"), (0, .long 4294967296), (1, .long 2147483648), (1, .integer 2147483647), (0, .methodref 13 14), (0, .class_ 15), (0, .nameAndType 16 17), (0, u "com/example/digitwise/digitwise/internal/PairRadixSort"), (0, u "keys"), (0, u "([I[III)[J"), (0, .methodref 19 20), (0, .class_ 21), (0, .nameAndType 22 23), (0, u "com/example/digitwise/digitwise/internal/PairRadixSortKeysPinLaw"), (0, u "expected"), (0, u "(II)J"), (2, u "law"), (0, u "(IIIII)Z")] 7

def k1m0 : Method := { name := "<init>", desc := "()V", sig := { parameters := [], returnType := none }, accessFlags := 2, code := none }
def k1c1 : Code := { maxStack := 6, maxLocals := 2, code := method_2_code, exceptionTable := #[], attributes := #[] }
def k1m1 : Method := { name := "expected", desc := "(II)J", sig := { parameters := [.int, .int], returnType := some .long }, accessFlags := 10, code := some k1c1 }
def k1c2 : Code := { maxStack := 5, maxLocals := 16, code := code, exceptionTable := #[], attributes := #[] }
def k1m2 : Method := { name := "law", desc := "(IIIII)Z", sig := { parameters := [.int, .int, .int, .int, .int], returnType := some .boolean }, accessFlags := 9, code := some k1c2 }
/-- com/example/digitwise/digitwise/internal/PairRadixSortKeysPinLaw -/
def k1 : Class := { plain "com/example/digitwise/digitwise/internal/PairRadixSortKeysPinLaw" (some 0) with
  accessFlags := 49
  interfaces := #[]
  cf := some (fileOf pool1 19 #[] #[{ accessFlags := 2, nameIndex := 5, descriptorIndex := 6, attributes := #[] }, { accessFlags := 10, nameIndex := 22, descriptorIndex := 23, attributes := #[] }, { accessFlags := 9, nameIndex := 26, descriptorIndex := 27, attributes := #[] }] 49 2 #[] #[])
  fields := #[]
  methods := #[k1m0, k1m1, k1m2]
  instanceTypes := #[]
  staticTypes := #[]
  resolved := Array.replicate 35 none
  statics := none }

def pool2 : Array CpInfo := pool [(6, .class_ 8), (1, u "java/lang/Object"), (0, u "<init>"), (0, u "()V"), (6, .class_ 19), (1, u "com/example/digitwise/digitwise/internal/PairRadixSort"), (7, .integer 2147483648), (0, .long 4294967295), (35, .class_ 65), (0, u "com/example/digitwise/digitwise/internal/PairRadixSort$Split"), (87, u "INSERTION_SORT_THRESHOLD"), (0, u "I"), (2, u "MAX_DIGIT_BITS"), (1, u "SPLIT_THRESHOLD"), (0, u "CHUNK_LENGTH"), (0, u "SIGN"), (0, u "J"), (6, u "keys"), (0, u "([I[III)[J")] 13

def k2m0 : Method := { name := "<init>", desc := "()V", sig := { parameters := [], returnType := none }, accessFlags := 2, code := none }
def k2c1 : Code := { maxStack := 8, maxLocals := 6, code := prog_13_method_6_code, exceptionTable := #[], attributes := #[] }
def k2m1 : Method := { name := "keys", desc := "([I[III)[J", sig := { parameters := [(.array .int), (.array .int), .int, .int], returnType := some (.array .long) }, accessFlags := 8, code := some k2c1 }
/-- com/example/digitwise/digitwise/internal/PairRadixSort -/
def k2 : Class := { plain "com/example/digitwise/digitwise/internal/PairRadixSort" (some 0) with
  accessFlags := 48
  interfaces := #[]
  cf := some (fileOf pool2 17 #[.nestMembers #[64]] #[{ accessFlags := 2, nameIndex := 9, descriptorIndex := 10, attributes := #[] }, { accessFlags := 8, nameIndex := 169, descriptorIndex := 170, attributes := #[] }] 48 6 #[] #[{ accessFlags := 26, nameIndex := 153, descriptorIndex := 154, attributes := #[] }, { accessFlags := 26, nameIndex := 157, descriptorIndex := 154, attributes := #[] }, { accessFlags := 26, nameIndex := 159, descriptorIndex := 154, attributes := #[] }, { accessFlags := 26, nameIndex := 160, descriptorIndex := 154, attributes := #[] }, { accessFlags := 26, nameIndex := 161, descriptorIndex := 162, attributes := #[] }])
  fields := #[{ name := "INSERTION_SORT_THRESHOLD", type := .int, accessFlags := 26, slot := 0, constantValue := 0 }, { name := "MAX_DIGIT_BITS", type := .int, accessFlags := 26, slot := 1, constantValue := 0 }, { name := "SPLIT_THRESHOLD", type := .int, accessFlags := 26, slot := 2, constantValue := 0 }, { name := "CHUNK_LENGTH", type := .int, accessFlags := 26, slot := 3, constantValue := 0 }, { name := "SIGN", type := .long, accessFlags := 26, slot := 4, constantValue := 0 }]
  methods := #[k2m0, k2m1]
  instanceTypes := #[]
  staticTypes := #[.int, .int, .int, .int, .long]
  resolved := Array.replicate 184 none
  statics := none }

def pool3 : Array CpInfo := pool [(1, u "java/lang/Cloneable"), (0, .class_ 1), (0, u "java/lang/Object"), (0, .class_ 3)] 3

/-- java/lang/Cloneable -/
def k3 : Class := { plain "java/lang/Cloneable" (some 0) with
  accessFlags := 1537
  interfaces := #[]
  cf := some (fileOf pool3 2 #[] #[] 1537 4 #[] #[])
  fields := #[]
  methods := #[]
  instanceTypes := #[]
  staticTypes := #[]
  resolved := Array.replicate 8 none
  statics := none }

def pool4 : Array CpInfo := pool [(1, u "java/io/Serializable"), (0, .class_ 1), (0, u "java/lang/Object"), (0, .class_ 3)] 3

/-- java/io/Serializable -/
def k4 : Class := { plain "java/io/Serializable" (some 0) with
  accessFlags := 1537
  interfaces := #[]
  cf := some (fileOf pool4 2 #[] #[] 1537 4 #[] #[])
  fields := #[]
  methods := #[]
  instanceTypes := #[]
  staticTypes := #[]
  resolved := Array.replicate 8 none
  statics := none }

/-- the primitive byte -/
def k5 : Class := { plain "byte" none with kind := .primitive 'B', accessFlags := 0x411 }
/-- [B -/
def k6 : Class := { plain "[B" (some 0) with kind := .array 5 .byte, interfaces := #[3, 4], accessFlags := 1041 }

/-- the primitive int -/
def k7 : Class := { plain "int" none with kind := .primitive 'I', accessFlags := 0x411 }
/-- [I -/
def k8 : Class := { plain "[I" (some 0) with kind := .array 7 .int, interfaces := #[3, 4], accessFlags := 1041 }

/-- the primitive long -/
def k9 : Class := { plain "long" none with kind := .primitive 'J', accessFlags := 0x411 }
/-- [J -/
def k10 : Class := { plain "[J" (some 0) with kind := .array 9 .long, interfaces := #[3, 4], accessFlags := 1041 }

def heap : Heap := #[]
def classes : Array Class := #[k0, k1, k2, k3, k4, k5, k6, k7, k8, k9, k10]
def interned : List (Array UInt16 × Addr) := []
def slotsUsed : Nat := 0
def theMethod : MethodId := ⟨1, 2⟩
def args0 : Array Value := #[.int 5, .int 7, .int 20, .int 3, .int 2]
def aboutOver (below : List Frame) : State where
  vm := { classes := classes, interned := interned.toArray }
  heap := heap
  slotsUsed := slotsUsed
  threads := #[{ frames := .invoking theMethod args0 :: below }]
def below0 : List Frame := [.native { method := ⟨0, 0⟩, args := #[] }]
def about1 : State := aboutOver below0
def p0 : Program := .bare "" "" ""
def e0 : Env := launch0.env 0 0 0
theorem w_frames : about1.frames = Frame.invoking theMethod args0 :: below0 := rfl
set_option maxRecDepth 65536 in
theorem w_args : argsFit about1.vm theMethod args0 = true := by decide +kernel
set_option maxRecDepth 65536 in
theorem w_heap : heapFits about1 = true := by decide +kernel
set_option maxRecDepth 65536 in
theorem w_runnable : about1.curStatus? = some .runnable := by decide +kernel
set_option maxRecDepth 65536 in
theorem w_alone : about1.alone = true := by decide +kernel
set_option maxRecDepth 65536 in
theorem w_named : about1.methodNamed? x = some theMethod := by decide +kernel
set_option maxRecDepth 65536 in
theorem w_hears : about1.hears theMethod below0 = true := by decide +kernel
set_option maxRecDepth 65536 in
theorem w_ripe : about1.ripe theMethod args0 below0 = true := by decide +kernel
theorem w_running : about1.status = .running := rfl
set_option maxRecDepth 65536 in
theorem w_room : about1.hasRoom e0.platform room_1 = true :=
  launch0.hasRoom_least _ room_1 (by decide +kernel) (by decide +kernel) (by decide +kernel) (by decide +kernel) (by decide +kernel) (by decide +kernel)
theorem allAtoms_all (ts : List Jvm.Cond) (a : Array Jvm.Value) (st : Jvm.State) : (allAtoms ts).before a st = ts.all (fun c => c.before a st) := by
  induction ts with
  | nil => rfl
  | cons c t ih =>
    show (Jvm.Cond.and c (allAtoms t)).before a st = _
    rw [Jvm.Cond.before_and, ih, List.all_cons]
def words1 : List Jvm.Cond := Jvm.Cond.code x code maxLocals ret :: tables_1
/-- a 'code' word, met by the world's own term for the bytes: nothing is compared byte by byte -/
theorem code_word {y : MethodName} {bytes : ByteArray} {mx : Nat} {rt : Option FieldType} {a : Array Value} {s : State} {m : MethodId} {meth : Method} {c : Code} (h1 : s.methodNamed? y = some m) (h2 : s.vm.method? m = some meth) (h3 : meth.code = some c) (h4 : c.code = bytes)
    (h5 : (c.maxLocals == mx && c.exceptionTable.isEmpty && decide (c.maxStack ≤ mostOperands) && decide (meth.sig.returnType = rt) && !meth.locks && decide (parseMethodDescriptor y.desc = some meth.sig)) = true) : (Jvm.Cond.code y bytes mx rt).before a s = true := by
  simp only [Bool.and_eq_true, beq_iff_eq, Bool.not_eq_true', decide_eq_true_eq] at h5
  obtain ⟨⟨⟨⟨⟨g1, g2⟩, g3⟩, g4⟩, g5⟩, g6⟩ := h5
  simp [Cond.before, Cond.holds, Cond.value, h1, h2, h3, h4, g1, g2, g3, g4, g5, g6]
def isCode : Jvm.Cond → Bool
  | .code _ _ _ _ => true
  | _ => false
theorem all_split {L : List Jvm.Cond} {P : Jvm.Cond → Bool} (h1 : L.all (fun c => isCode c || P c) = true) (h2 : ∀ c ∈ L.filter isCode, P c = true) : L.all P = true := by
  refine List.all_eq_true.mpr fun c hc => ?_
  have h := List.all_eq_true.mp h1 c hc
  rcases Bool.eq_false_or_eq_true (isCode c) with hi | hi
  · exact h2 c (List.mem_filter.mpr ⟨hc, hi⟩)
  · simpa [hi] using h
set_option maxRecDepth 65536 in
theorem w_c0 : (Jvm.Cond.code x code maxLocals ret).before args0 about1 = true := code_word (m := ⟨1, 2⟩) (meth := k1m2) (c := k1c2) (by decide +kernel) rfl rfl rfl (by decide +kernel)
set_option maxRecDepth 65536 in
theorem w_c1 : (Jvm.Cond.code ({ cls := "com/example/digitwise/digitwise/internal/PairRadixSort", name := "keys", desc := "([I[III)[J" } : Jvm.MethodName) prog_13_method_6_code (6 : Nat) (Option.some (Jvm.ClassFile.FieldType.array Jvm.ClassFile.FieldType.long))).before args0 about1 = true := code_word (m := ⟨2, 1⟩) (meth := k2m1) (c := k2c1) (by decide +kernel) rfl rfl rfl (by decide +kernel)
set_option maxRecDepth 65536 in
theorem w_c2 : (Jvm.Cond.code ({ cls := "com/example/digitwise/digitwise/internal/PairRadixSortKeysPinLaw", name := "expected", desc := "(II)J" } : Jvm.MethodName) method_2_code (2 : Nat) (Option.some Jvm.ClassFile.FieldType.long)).before args0 about1 = true := code_word (m := ⟨1, 1⟩) (meth := k1m1) (c := k1c1) (by decide +kernel) rfl rfl rfl (by decide +kernel)
def codes1 : List Jvm.Cond := [Jvm.Cond.code x code maxLocals ret, Jvm.Cond.code ({ cls := "com/example/digitwise/digitwise/internal/PairRadixSort", name := "keys", desc := "([I[III)[J" } : Jvm.MethodName) prog_13_method_6_code (6 : Nat) (Option.some (Jvm.ClassFile.FieldType.array Jvm.ClassFile.FieldType.long)), Jvm.Cond.code ({ cls := "com/example/digitwise/digitwise/internal/PairRadixSortKeysPinLaw", name := "expected", desc := "(II)J" } : Jvm.MethodName) method_2_code (2 : Nat) (Option.some Jvm.ClassFile.FieldType.long)]
set_option maxRecDepth 65536 in
theorem codes_eq : words1.filter isCode = codes1 := rfl
theorem w_codes : ∀ c ∈ words1.filter isCode, c.before args0 about1 = true := by
  rw [codes_eq]
  intro c hc
  simp only [codes1, List.mem_cons, List.not_mem_nil, or_false] at hc
  rcases hc with rfl | rfl | rfl
  · exact w_c0
  · exact w_c1
  · exact w_c2
set_option maxRecDepth 65536 in
theorem w_t1 : words1.all (fun c => isCode c || c.before args0 about1) = true := by decide +kernel
theorem w_tables : (allAtoms (Jvm.Cond.code x code maxLocals ret :: tables_1)).before args0 about1 = true := by
  rw [allAtoms_all]
  show words1.all (fun c => c.before args0 about1) = true
  refine all_split ?_ w_codes
  rw [w_t1]
set_option maxRecDepth 65536 in
theorem w_case : (Jvm.Cond.and given_1 narrow_1).before args0 about1 = true := by decide +kernel
theorem w_applies : (headSpec (Jvm.Cond.code x code maxLocals ret :: tables_1) room_1).applies x e0.platform about1 = true :=
  (Spec.applies_iff w_frames).mpr ⟨w_running, w_runnable, w_alone, w_named, w_hears, w_ripe, w_room, w_tables⟩
theorem atStart : AtStart classFile x code maxLocals ret World_1 tables_1 room_1 Calls_1 rest_1 Pre_1 launch0 p0 e0 about1 theMethod args0 below0 :=
  ⟨lists_1, trivial, launch0.admits_env _ _ _, launch0.least_env, fairChoices_fair.cas, fairChoices_fair.clock, w_frames, w_args, w_heap, w_applies, trivial, trivial, w_case⟩
end start1
theorem witness_1 : WitnessClaimed_1 := ⟨start1.p0, start1.e0, start1.about1, start1.theMethod, start1.args0, start1.below0, start1.atStart⟩
end Jvm.Pilot.@@N@@
