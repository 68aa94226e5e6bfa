import JvmDerived
import JvmDerived.Pilot.@@N@@Statement
import JvmDerived.Pilot.@@N@@Code
set_option linter.unusedVariables false
set_option linter.unusedSimpArgs false
namespace Jvm.RoadKit
open Sem ClassFile Op Lib Jvm.Stand Jvm.Free Jvm.LawKit
section New
variable {p : Program} {l : Launch} {e : Env} {R : Room} {s : State} {m : MethodId} {args : Array Value} {below : List Frame} {meth : Method} {c : Code} {T : State} {locs : List Loc} {cells slots : Nat}
theorem retI (X : Stand p l e R s m args below meth c T locs cells slots) (hx : p.tables.exec = Jvm.exec) {pc : Nat} {Ls : Array Slot} {z : Int32} {rest : List Value} (hret : meth.sig.returnType = some .int) (hd : decode c.code pc = .ok (.ireturn, 1)) {fs : List Frame}
    (hl : ∀ (f : JFrame) (acts : List Action), f.method = m → f.locked = none → f.entered = [] → (doReturn e (T.setTop f) acts (some (.int z))).1 = T.setFrames fs) : Steps p.tables e below (T.setTop (mkF m pc Ls (.int z :: rest))) (T.setFrames fs) := by
  have hm' : T.vm.method? m = some meth := X.method'
  have hn : narrow .int (.int z) = .int z := rfl
  show Steps p.tables e below (T.setTop { method := m, pc := pc, locals := Ls, stack := _ :: rest, locked := none }) _
  jvm_step X.here [X.here.top, hx, hd, hm', hret, hn]
  first | (intro acts; rw [hl _ acts rfl rfl rfl]) | rw [hl _ _ rfl rfl rfl]
  exact Steps.refl _
end New
end Jvm.RoadKit
namespace Jvm.Pilot.@@N@@
open Jvm Jvm.ClassFile Sem Op Lib Jvm.Free Jvm.Stand Jvm.LawKit Jvm.RoadKit Bundle Jvm.Pilot.@@N@@.Jvm.D
section Kit
variable {p : Program} {l : Launch} {e : Env} {R : Room} {s : State} {m : MethodId} {args : Array Value} {below : List Frame} {meth : Method} {c : Code} {T : State} {locs : List Loc} {cells slots : Nat} {G : State → Prop} {L L' : Array Slot} {S : List Value} {pc q q1 : Nat}
/-- from this frame the run comes to a state of which G holds -/
def Go (p : Program) (e : Env) (below : List Frame) (G : State → Prop) (T : State) (m : MethodId) (pc : Nat) (L : Array Slot) (S : List Value) : Prop := ∃ t, Steps p.tables e below (T.setTop (mkF m pc L S)) t ∧ G t
theorem Go.st {T' : State} {m' : MethodId} {pc' : Nat} {S' : List Value} (h : ∀ t, Steps p.tables e below (T'.setTop (mkF m' pc' L' S')) t → Steps p.tables e below (T.setTop (mkF m pc L S)) t) (k : Go p e below G T' m' pc' L' S') : Go p e below G T m pc L S := by
  obtain ⟨t, h1, h2⟩ := k; exact ⟨t, h t h1, h2⟩
theorem jn {T2 : State} {pc2 : Nat} {L2 : Array Slot} {S2 : List Value} (k : Go p e below G T2 m pc2 L2 S2 → Go p e below G T m pc L S) (K : Go p e below G T2 m pc2 L2 S2) : Go p e below G T m pc L S := k K
/-- what a body that returns leaves -/
def Gl (s : State) (below : List Frame) (Q : Option Value → Heap → List Loc → Prop) (C N : Nat) (t : State) : Prop := ∃ o, t.status = .running ∧ Ended t below o ∧ ∃ v L, o = .returned v ∧ Q v t.heap L ∧ FrameEnd s o t L C N
/-- a contract -/
def Ctr (l : Launch) (y : MethodName) (code : ByteArray) (ml : Nat) (ret : Option FieldType) (ws : List Jvm.Cond) (rm : Room) (Z : State) (as' : Array Value) (h0 : Heap) (Q : Option Value → Heap → List Loc → Prop) (C N : Nat) : Prop :=
  MetFree l y (head1 (Jvm.Cond.code y code ml ret :: ws) rm) (fun a U => a = as' ∧ Z.Warmed39 U.vm ∧ U.heap = h0) (fun _ _ _ _ _ => True) (fun _ U o U' => ∃ v L, o = .returned v ∧ Q v U'.heap L ∧ FrameEnd U o U' L C N)
theorem Ctr.mk {y : MethodName} {code : ByteArray} {ml : Nat} {ret : Option FieldType} {ws : List Jvm.Cond} {rm : Room} {Z : State} {as' : Array Value} {h0 : Heap} {Q : Option Value → Heap → List Loc → Prop} {C N : Nat} (hp : plainFor y = true)
    (body : ∀ (p : Program) (e : Env) (s : State) (m : MethodId) (below : List Frame) (meth : Method) (c : Code) (T : State), p.tables.exec = Jvm.exec → c.code = code → c.maxLocals = ml → s.vm.findClass y.cls = some m.cls → meth.name = y.name → meth.locks = false → meth.sig.returnType = ret → Z.Warmed39 s.vm → Stand p l e rm s m as' below meth c T [] 0 0 → T.heap = h0 → ∃ t, Steps p.tables e below (T.setTop (entryFrame m as' ml)) t ∧ Gl s below Q C N t) : Ctr l y code ml ret ws rm Z as' h0 Q C N := by
  refine MetFree.of_bodySF hp hisR ?_
  intro p e s m args below meth c s₁ Bd hml0 hP hK
  obtain ⟨rfl, hZ, hh⟩ := hP
  obtain ⟨t, h1, o, h2, h3, h4⟩ := body p e s m below meth c s₁ Bd.exec Bd.bytes hml0 (findClass_of_methodNamed Bd.named) (name_of_methodNamed Bd.named Bd.method).1 Bd.notSynchronized Bd.returns hZ (Stand.of_body Bd) (by rw [← hh, Bd.state]; rfl)
  exact ⟨t, o, h1, h2, h3, h4⟩
theorem enter {as' : Array Value} {ml : Nat} (q : entryFrame m as' ml = mkF m 0 L []) (k : Go p e below G T m 0 L []) : ∃ t, Steps p.tables e below (T.setTop (entryFrame m as' ml)) t ∧ G t := by
  rw [q]; exact k
theorem s_iloadN (X : Stand p l e R s m args below meth c T locs cells slots) (hx : p.tables.exec = Jvm.exec) {k : Fin 4} {v : Int32} (hd : decode c.code pc = .ok (.iload_n k, 1)) (hl : L[k.val]? = some (.val (.int v))) (hq : pc + 1 = q) (K : Go p e below G T m q L (.int v :: S)) : Go p e below G T m pc L S := by
  subst hq; exact Go.st (fun t k => XS.iloadN X.here hx rfl hd hl k) K
theorem s_iload (X : Stand p l e R s m args below meth c T locs cells slots) (hx : p.tables.exec = Jvm.exec) {k : Nat} {v : Int32} (hd : decode c.code pc = .ok (.iload k, 2)) (hl : L[k]? = some (.val (.int v))) (hq : pc + 2 = q) (K : Go p e below G T m q L (.int v :: S)) : Go p e below G T m pc L S := by
  subst hq; exact Go.st (fun t k => XS.iload X.here hx rfl hd hl k) K
theorem s_lloadN (X : Stand p l e R s m args below meth c T locs cells slots) (hx : p.tables.exec = Jvm.exec) {k : Fin 4} {v : Int64} (hd : decode c.code pc = .ok (.lload_n k, 1)) (hl : L[k.val]? = some (.val (.long v))) (hq : pc + 1 = q) (K : Go p e below G T m q L (.long v :: S)) : Go p e below G T m pc L S := by
  subst hq; exact Go.st (fun t k => XS.lloadN X.here hx rfl hd hl k) K
theorem s_lload (X : Stand p l e R s m args below meth c T locs cells slots) (hx : p.tables.exec = Jvm.exec) {k : Nat} {v : Int64} (hd : decode c.code pc = .ok (.lload k, 2)) (hl : L[k]? = some (.val (.long v))) (hq : pc + 2 = q) (K : Go p e below G T m q L (.long v :: S)) : Go p e below G T m pc L S := by
  subst hq; exact Go.st (fun t k => XS.lload X.here hx rfl hd hl k) K
theorem s_aloadN (X : Stand p l e R s m args below meth c T locs cells slots) (hx : p.tables.exec = Jvm.exec) {k : Fin 4} {v : Value} (hd : decode c.code pc = .ok (.aload_n k, 1)) (hl : L[k.val]? = some (.val v)) (hv : v.isRef = true) (hq : pc + 1 = q) (K : Go p e below G T m q L (v :: S)) : Go p e below G T m pc L S := by
  subst hq; exact Go.st (fun t k => XS.aloadN X.here hx rfl hd hl hv k) K
theorem s_aload (X : Stand p l e R s m args below meth c T locs cells slots) (hx : p.tables.exec = Jvm.exec) {k : Nat} {v : Value} (hd : decode c.code pc = .ok (.aload k, 2)) (hl : L[k]? = some (.val v)) (hv : v.isRef = true) (hq : pc + 2 = q) (K : Go p e below G T m q L (v :: S)) : Go p e below G T m pc L S := by
  subst hq; exact Go.st (fun t k => XS.aload X.here hx rfl hd hl hv k) K
theorem s_istoreN (X : Stand p l e R s m args below meth c T locs cells slots) (hx : p.tables.exec = Jvm.exec) {k : Fin 4} {x : Int32} (hd : decode c.code pc = .ok (.istore_n k, 1)) (hl : storeLocals L k.val (.int x) = some L') (hq : pc + 1 = q) (K : Go p e below G T m q L' S) : Go p e below G T m pc L (.int x :: S) := by
  subst hq; exact Go.st (fun t k => XS.istoreN X.here hx rfl hd rfl hl k) K
theorem s_istore (X : Stand p l e R s m args below meth c T locs cells slots) (hx : p.tables.exec = Jvm.exec) {k : Nat} {x : Int32} (hd : decode c.code pc = .ok (.istore k, 2)) (hl : storeLocals L k (.int x) = some L') (hq : pc + 2 = q) (K : Go p e below G T m q L' S) : Go p e below G T m pc L (.int x :: S) := by
  subst hq; exact Go.st (fun t k => XS.istore X.here hx rfl hd rfl hl k) K
theorem s_lstoreN (X : Stand p l e R s m args below meth c T locs cells slots) (hx : p.tables.exec = Jvm.exec) {k : Fin 4} {x : Int64} (hd : decode c.code pc = .ok (.lstore_n k, 1)) (hl : storeLocals L k.val (.long x) = some L') (hq : pc + 1 = q) (K : Go p e below G T m q L' S) : Go p e below G T m pc L (.long x :: S) := by
  subst hq; exact Go.st (fun t k => XS.lstoreN X.here hx rfl hd rfl hl k) K
theorem s_lstore (X : Stand p l e R s m args below meth c T locs cells slots) (hx : p.tables.exec = Jvm.exec) {k : Nat} {x : Int64} (hd : decode c.code pc = .ok (.lstore k, 2)) (hl : storeLocals L k (.long x) = some L') (hq : pc + 2 = q) (K : Go p e below G T m q L' S) : Go p e below G T m pc L (.long x :: S) := by
  subst hq; exact Go.st (fun t k => XS.lstore X.here hx rfl hd rfl hl k) K
theorem s_astoreN (X : Stand p l e R s m args below meth c T locs cells slots) (hx : p.tables.exec = Jvm.exec) {k : Fin 4} {x : Value} (hd : decode c.code pc = .ok (.astore_n k, 1)) (hv : x.isRef = true) (hl : storeLocals L k.val x = some L') (hq : pc + 1 = q) (K : Go p e below G T m q L' S) : Go p e below G T m pc L (x :: S) := by
  subst hq; exact Go.st (fun t k => XS.astoreN X.here hx rfl hd rfl hv hl k) K
theorem s_astore (X : Stand p l e R s m args below meth c T locs cells slots) (hx : p.tables.exec = Jvm.exec) {k : Nat} {x : Value} (hd : decode c.code pc = .ok (.astore k, 2)) (hv : x.isRef = true) (hl : storeLocals L k x = some L') (hq : pc + 2 = q) (K : Go p e below G T m q L' S) : Go p e below G T m pc L (x :: S) := by
  subst hq; exact Go.st (fun t k => XS.astore X.here hx rfl hd rfl hv hl k) K
theorem s_iconst (X : Stand p l e R s m args below meth c T locs cells slots) (hx : p.tables.exec = Jvm.exec) {i : Int} {z : Int32} (hd : decode c.code pc = .ok (.iconst i, 1)) (hz : Int32.ofInt i = z) (hq : pc + 1 = q) (K : Go p e below G T m q L (.int z :: S)) : Go p e below G T m pc L S := by
  subst hq hz; exact Go.st (fun t k => XS.iconst X.here hx rfl hd k) K
theorem s_bipush (X : Stand p l e R s m args below meth c T locs cells slots) (hx : p.tables.exec = Jvm.exec) {i : Int} {z : Int32} (hd : decode c.code pc = .ok (.bipush i, 2)) (hz : (Int8.ofInt i).toInt32 = z) (hq : pc + 2 = q) (K : Go p e below G T m q L (.int z :: S)) : Go p e below G T m pc L S := by
  subst hq hz; exact Go.st (fun t k => XS.bipush X.here hx rfl hd k) K
theorem s_sipush (X : Stand p l e R s m args below meth c T locs cells slots) (hx : p.tables.exec = Jvm.exec) {i : Int} {z : Int32} (hd : decode c.code pc = .ok (.sipush i, 3)) (hz : (Int16.ofInt i).toInt32 = z) (hq : pc + 3 = q) (K : Go p e below G T m q L (.int z :: S)) : Go p e below G T m pc L S := by
  subst hq hz; exact Go.st (fun t k => XS.sipush X.here hx rfl hd k) K
theorem s_lconst (X : Stand p l e R s m args below meth c T locs cells slots) (hx : p.tables.exec = Jvm.exec) {i : Fin 2} {z : Int64} (hd : decode c.code pc = .ok (.lconst i, 1)) (hz : Int64.ofNat i.val = z) (hq : pc + 1 = q) (K : Go p e below G T m q L (.long z :: S)) : Go p e below G T m pc L S := by
  subst hq hz; exact Go.st (fun t k => XS.lconst X.here hx rfl hd k) K
theorem s_aconst_null (X : Stand p l e R s m args below meth c T locs cells slots) (hx : p.tables.exec = Jvm.exec)  (hd : decode c.code pc = .ok (.aconst_null, 1))  (hq : pc + 1 = q) (K : Go p e below G T m q L (.null :: S)) : Go p e below G T m pc L S := by
  subst hq; exact Go.st (fun t k => XS.aconstNull X.here hx rfl hd k) K
theorem s_iadd (X : Stand p l e R s m args below meth c T locs cells slots) (hx : p.tables.exec = Jvm.exec) {x y : Int32} (hd : decode c.code pc = .ok (.iadd, 1))  (hq : pc + 1 = q) (K : Go p e below G T m q L (.int (x + y) :: S)) : Go p e below G T m pc L (.int y :: .int x :: S) := by
  subst hq; exact Go.st (fun t k => XS.iadd X.here hx rfl hd rfl k) K
theorem s_isub (X : Stand p l e R s m args below meth c T locs cells slots) (hx : p.tables.exec = Jvm.exec) {x y : Int32} (hd : decode c.code pc = .ok (.isub, 1))  (hq : pc + 1 = q) (K : Go p e below G T m q L (.int (x - y) :: S)) : Go p e below G T m pc L (.int y :: .int x :: S) := by
  subst hq; exact Go.st (fun t k => XS.isub X.here hx rfl hd rfl k) K
theorem s_imul (X : Stand p l e R s m args below meth c T locs cells slots) (hx : p.tables.exec = Jvm.exec) {x y : Int32} (hd : decode c.code pc = .ok (.imul, 1))  (hq : pc + 1 = q) (K : Go p e below G T m q L (.int (x * y) :: S)) : Go p e below G T m pc L (.int y :: .int x :: S) := by
  subst hq; exact Go.st (fun t k => XS.imul X.here hx rfl hd rfl k) K
theorem s_iand (X : Stand p l e R s m args below meth c T locs cells slots) (hx : p.tables.exec = Jvm.exec) {x y : Int32} (hd : decode c.code pc = .ok (.iand, 1))  (hq : pc + 1 = q) (K : Go p e below G T m q L (.int (x &&& y) :: S)) : Go p e below G T m pc L (.int y :: .int x :: S) := by
  subst hq; exact Go.st (fun t k => XS.iand X.here hx rfl hd rfl k) K
theorem s_ior (X : Stand p l e R s m args below meth c T locs cells slots) (hx : p.tables.exec = Jvm.exec) {x y : Int32} (hd : decode c.code pc = .ok (.ior, 1))  (hq : pc + 1 = q) (K : Go p e below G T m q L (.int (x ||| y) :: S)) : Go p e below G T m pc L (.int y :: .int x :: S) := by
  subst hq; exact Go.st (fun t k => XS.ior X.here hx rfl hd rfl k) K
theorem s_ixor (X : Stand p l e R s m args below meth c T locs cells slots) (hx : p.tables.exec = Jvm.exec) {x y : Int32} (hd : decode c.code pc = .ok (.ixor, 1))  (hq : pc + 1 = q) (K : Go p e below G T m q L (.int (x ^^^ y) :: S)) : Go p e below G T m pc L (.int y :: .int x :: S) := by
  subst hq; exact Go.st (fun t k => XS.ixor X.here hx rfl hd rfl k) K
theorem s_ladd (X : Stand p l e R s m args below meth c T locs cells slots) (hx : p.tables.exec = Jvm.exec) {x y : Int64} (hd : decode c.code pc = .ok (.ladd, 1))  (hq : pc + 1 = q) (K : Go p e below G T m q L (.long (x + y) :: S)) : Go p e below G T m pc L (.long y :: .long x :: S) := by
  subst hq; exact Go.st (fun t k => XS.ladd X.here hx rfl hd rfl k) K
theorem s_lsub (X : Stand p l e R s m args below meth c T locs cells slots) (hx : p.tables.exec = Jvm.exec) {x y : Int64} (hd : decode c.code pc = .ok (.lsub, 1))  (hq : pc + 1 = q) (K : Go p e below G T m q L (.long (x - y) :: S)) : Go p e below G T m pc L (.long y :: .long x :: S) := by
  subst hq; exact Go.st (fun t k => XS.lsub X.here hx rfl hd rfl k) K
theorem s_lmul (X : Stand p l e R s m args below meth c T locs cells slots) (hx : p.tables.exec = Jvm.exec) {x y : Int64} (hd : decode c.code pc = .ok (.lmul, 1))  (hq : pc + 1 = q) (K : Go p e below G T m q L (.long (x * y) :: S)) : Go p e below G T m pc L (.long y :: .long x :: S) := by
  subst hq; exact Go.st (fun t k => XS.lmul X.here hx rfl hd rfl k) K
theorem s_land (X : Stand p l e R s m args below meth c T locs cells slots) (hx : p.tables.exec = Jvm.exec) {x y : Int64} (hd : decode c.code pc = .ok (.land, 1))  (hq : pc + 1 = q) (K : Go p e below G T m q L (.long (x &&& y) :: S)) : Go p e below G T m pc L (.long y :: .long x :: S) := by
  subst hq; exact Go.st (fun t k => XS.land X.here hx rfl hd rfl k) K
theorem s_lor (X : Stand p l e R s m args below meth c T locs cells slots) (hx : p.tables.exec = Jvm.exec) {x y : Int64} (hd : decode c.code pc = .ok (.lor, 1))  (hq : pc + 1 = q) (K : Go p e below G T m q L (.long (x ||| y) :: S)) : Go p e below G T m pc L (.long y :: .long x :: S) := by
  subst hq; exact Go.st (fun t k => XS.lor X.here hx rfl hd rfl k) K
theorem s_lxor (X : Stand p l e R s m args below meth c T locs cells slots) (hx : p.tables.exec = Jvm.exec) {x y : Int64} (hd : decode c.code pc = .ok (.lxor, 1))  (hq : pc + 1 = q) (K : Go p e below G T m q L (.long (x ^^^ y) :: S)) : Go p e below G T m pc L (.long y :: .long x :: S) := by
  subst hq; exact Go.st (fun t k => XS.lxor X.here hx rfl hd rfl k) K
theorem s_ishl (X : Stand p l e R s m args below meth c T locs cells slots) (hx : p.tables.exec = Jvm.exec) {x y : Int32} (hd : decode c.code pc = .ok (.ishl, 1))  (hq : pc + 1 = q) (K : Go p e below G T m q L (.int (x <<< (y &&& 31)) :: S)) : Go p e below G T m pc L (.int y :: .int x :: S) := by
  subst hq; exact Go.st (fun t k => XS.ishl X.here hx rfl hd rfl k) K
theorem s_ishr (X : Stand p l e R s m args below meth c T locs cells slots) (hx : p.tables.exec = Jvm.exec) {x y : Int32} (hd : decode c.code pc = .ok (.ishr, 1))  (hq : pc + 1 = q) (K : Go p e below G T m q L (.int (x >>> (y &&& 31)) :: S)) : Go p e below G T m pc L (.int y :: .int x :: S) := by
  subst hq; exact Go.st (fun t k => XS.ishr X.here hx rfl hd rfl k) K
theorem s_iushr (X : Stand p l e R s m args below meth c T locs cells slots) (hx : p.tables.exec = Jvm.exec) {x y : Int32} (hd : decode c.code pc = .ok (.iushr, 1))  (hq : pc + 1 = q) (K : Go p e below G T m q L (.int ((x.toUInt32 >>> (y &&& 31).toUInt32).toInt32) :: S)) : Go p e below G T m pc L (.int y :: .int x :: S) := by
  subst hq; exact Go.st (fun t k => XS.iushr X.here hx rfl hd rfl k) K
theorem s_lshl (X : Stand p l e R s m args below meth c T locs cells slots) (hx : p.tables.exec = Jvm.exec) {x : Int64} {y : Int32} (hd : decode c.code pc = .ok (.lshl, 1))  (hq : pc + 1 = q) (K : Go p e below G T m q L (.long (x <<< (y &&& 0x3f).toInt64) :: S)) : Go p e below G T m pc L (.int y :: .long x :: S) := by
  subst hq; exact Go.st (fun t k => XS.lshl X.here hx rfl hd rfl k) K
theorem s_lshr (X : Stand p l e R s m args below meth c T locs cells slots) (hx : p.tables.exec = Jvm.exec) {x : Int64} {y : Int32} (hd : decode c.code pc = .ok (.lshr, 1))  (hq : pc + 1 = q) (K : Go p e below G T m q L (.long (x >>> (y &&& 0x3f).toInt64) :: S)) : Go p e below G T m pc L (.int y :: .long x :: S) := by
  subst hq; exact Go.st (fun t k => XS.lshr X.here hx rfl hd rfl k) K
theorem s_lushr (X : Stand p l e R s m args below meth c T locs cells slots) (hx : p.tables.exec = Jvm.exec) {x : Int64} {y : Int32} (hd : decode c.code pc = .ok (.lushr, 1))  (hq : pc + 1 = q) (K : Go p e below G T m q L (.long ((x.toUInt64 >>> (y &&& 0x3f).toInt64.toUInt64).toInt64) :: S)) : Go p e below G T m pc L (.int y :: .long x :: S) := by
  subst hq; exact Go.st (fun t k => XS.lushr X.here hx rfl hd rfl k) K
theorem s_idiv (X : Stand p l e R s m args below meth c T locs cells slots) (hx : p.tables.exec = Jvm.exec) {x y : Int32} (hd : decode c.code pc = .ok (.idiv, 1)) (hy : y ≠ 0) (hq : pc + 1 = q) (K : Go p e below G T m q L (.int (x / y) :: S)) : Go p e below G T m pc L (.int y :: .int x :: S) := by
  subst hq; exact Go.st (fun t k => XS.idiv X.here hx rfl hd rfl hy k) K
theorem s_ldiv (X : Stand p l e R s m args below meth c T locs cells slots) (hx : p.tables.exec = Jvm.exec) {x y : Int64} (hd : decode c.code pc = .ok (.ldiv, 1)) (hy : y ≠ 0) (hq : pc + 1 = q) (K : Go p e below G T m q L (.long (x / y) :: S)) : Go p e below G T m pc L (.long y :: .long x :: S) := by
  subst hq; exact Go.st (fun t k => XS.ldiv X.here hx rfl hd rfl hy k) K
theorem s_ineg (X : Stand p l e R s m args below meth c T locs cells slots) (hx : p.tables.exec = Jvm.exec) {x : Int32} (hd : decode c.code pc = .ok (.ineg, 1))  (hq : pc + 1 = q) (K : Go p e below G T m q L (.int (-x) :: S)) : Go p e below G T m pc L (.int x :: S) := by
  subst hq; exact Go.st (fun t k => XS.ineg X.here hx rfl hd rfl k) K
theorem s_lneg (X : Stand p l e R s m args below meth c T locs cells slots) (hx : p.tables.exec = Jvm.exec) {x : Int64} (hd : decode c.code pc = .ok (.lneg, 1))  (hq : pc + 1 = q) (K : Go p e below G T m q L (.long (-x) :: S)) : Go p e below G T m pc L (.long x :: S) := by
  subst hq; exact Go.st (fun t k => XS.lneg X.here hx rfl hd rfl k) K
theorem s_i2l (X : Stand p l e R s m args below meth c T locs cells slots) (hx : p.tables.exec = Jvm.exec) {x : Int32} (hd : decode c.code pc = .ok (.i2l, 1))  (hq : pc + 1 = q) (K : Go p e below G T m q L (.long x.toInt64 :: S)) : Go p e below G T m pc L (.int x :: S) := by
  subst hq; exact Go.st (fun t k => XS.i2l X.here hx rfl hd rfl k) K
theorem s_l2i (X : Stand p l e R s m args below meth c T locs cells slots) (hx : p.tables.exec = Jvm.exec) {x : Int64} (hd : decode c.code pc = .ok (.l2i, 1))  (hq : pc + 1 = q) (K : Go p e below G T m q L (.int x.toInt32 :: S)) : Go p e below G T m pc L (.long x :: S) := by
  subst hq; exact Go.st (fun t k => XS.l2i X.here hx rfl hd rfl k) K
theorem s_i2b (X : Stand p l e R s m args below meth c T locs cells slots) (hx : p.tables.exec = Jvm.exec) {x : Int32} (hd : decode c.code pc = .ok (.i2b, 1))  (hq : pc + 1 = q) (K : Go p e below G T m q L (.int x.toInt8.toInt32 :: S)) : Go p e below G T m pc L (.int x :: S) := by
  subst hq; exact Go.st (fun t k => XS.i2b X.here hx rfl hd rfl k) K
theorem s_i2c (X : Stand p l e R s m args below meth c T locs cells slots) (hx : p.tables.exec = Jvm.exec) {x : Int32} (hd : decode c.code pc = .ok (.i2c, 1))  (hq : pc + 1 = q) (K : Go p e below G T m q L (.int x.toUInt32.toUInt16.toUInt32.toInt32 :: S)) : Go p e below G T m pc L (.int x :: S) := by
  subst hq; exact Go.st (fun t k => XS.i2c X.here hx rfl hd rfl k) K
theorem s_i2s (X : Stand p l e R s m args below meth c T locs cells slots) (hx : p.tables.exec = Jvm.exec) {x : Int32} (hd : decode c.code pc = .ok (.i2s, 1))  (hq : pc + 1 = q) (K : Go p e below G T m q L (.int x.toInt16.toInt32 :: S)) : Go p e below G T m pc L (.int x :: S) := by
  subst hq; exact Go.st (fun t k => XS.i2s X.here hx rfl hd rfl k) K
theorem s_lcmp (X : Stand p l e R s m args below meth c T locs cells slots) (hx : p.tables.exec = Jvm.exec) {x y : Int64} (hd : decode c.code pc = .ok (.lcmp, 1))  (hq : pc + 1 = q) (K : Go p e below G T m q L (.int (lcmpW x y) :: S)) : Go p e below G T m pc L (.long y :: .long x :: S) := by
  subst hq; exact Go.st (fun t k => XS.lcmp X.here hx rfl hd rfl k) K
theorem s_iinc (X : Stand p l e R s m args below meth c T locs cells slots) (hx : p.tables.exec = Jvm.exec) {k : Nat} {cst : Int} {x w : Int32} (hd : decode c.code pc = .ok (.iinc k cst, 3)) (hl : L[k]? = some (.val (.int x))) (hw : x + Int32.ofInt cst = w) (hl' : storeLocals L k (.int w) = some L') (hq : pc + 3 = q) (K : Go p e below G T m q L' S) : Go p e below G T m pc L S := by
  subst hq hw; exact Go.st (fun t k => XS.iinc X.here hx rfl hd hl hl' k) K
theorem s_dup (X : Stand p l e R s m args below meth c T locs cells slots) (hx : p.tables.exec = Jvm.exec) {x : Value} (hd : decode c.code pc = .ok (.dup, 1)) (hc : x.category = 1) (hq : pc + 1 = q) (K : Go p e below G T m q L (x :: x :: S)) : Go p e below G T m pc L (x :: S) := by
  subst hq; exact Go.st (fun t k => XS.dup X.here hx rfl hd rfl hc k) K
theorem s_dup_x1 (X : Stand p l e R s m args below meth c T locs cells slots) (hx : p.tables.exec = Jvm.exec) {x y : Value} (hd : decode c.code pc = .ok (.dup_x1, 1)) (hc : x.category = 1) (hc' : y.category = 1) (hq : pc + 1 = q) (K : Go p e below G T m q L (x :: y :: x :: S)) : Go p e below G T m pc L (x :: y :: S) := by
  subst hq; exact Go.st (fun t k => XS.dupX1 X.here hx rfl hd rfl hc hc' k) K
theorem s_dup2 (X : Stand p l e R s m args below meth c T locs cells slots) (hx : p.tables.exec = Jvm.exec) {x y : Value} (hd : decode c.code pc = .ok (.dup2, 1)) (hc : x.category = 1) (hc' : y.category = 1) (hq : pc + 1 = q) (K : Go p e below G T m q L (x :: y :: x :: y :: S)) : Go p e below G T m pc L (x :: y :: S) := by
  subst hq; exact Go.st (fun t k => Jvm.Free.XT.dup2 X.here hx rfl hd rfl hc hc' k) K
theorem s_dup2L (X : Stand p l e R s m args below meth c T locs cells slots) (hx : p.tables.exec = Jvm.exec) {x : Int64} (hd : decode c.code pc = .ok (.dup2, 1))  (hq : pc + 1 = q) (K : Go p e below G T m q L (.long x :: .long x :: S)) : Go p e below G T m pc L (.long x :: S) := by
  subst hq; exact Go.st (fun t k => Jvm.Free.XT.dup2L X.here hx rfl hd rfl k) K
theorem s_pop (X : Stand p l e R s m args below meth c T locs cells slots) (hx : p.tables.exec = Jvm.exec) {x : Value} (hd : decode c.code pc = .ok (.pop, 1)) (hc : x.category = 1) (hq : pc + 1 = q) (K : Go p e below G T m q L S) : Go p e below G T m pc L (x :: S) := by
  subst hq; exact Go.st (fun t k => XS.pop X.here hx rfl hd rfl hc k) K
theorem s_goto (X : Stand p l e R s m args below meth c T locs cells slots) (hx : p.tables.exec = Jvm.exec) {o : Int} (hd : decode c.code pc = .ok (.goto o, 3)) (ho : 0 ≤ (pc : Int) + o) (hp : ((pc : Int) + o).toNat = q1) (K : Go p e below G T m q1 L S) : Go p e below G T m pc L S := Go.st (fun t k => XS.goto X.here hx rfl rfl hd ho hp k) K
theorem f_icmp_lt (X : Stand p l e R s m args below meth c T locs cells slots) (hx : p.tables.exec = Jvm.exec) {x y : Int32} {o : Int} (hd : decode c.code pc = .ok (.if_icmp .lt o, 3)) (ho : 0 ≤ (pc : Int) + o) (hp : ((pc : Int) + o).toNat = q1) (hq : pc + 3 = q) (ky : x < y → Go p e below G T m q1 L S) (kn : ¬ x < y → Go p e below G T m q L S) : Go p e below G T m pc L (.int y :: .int x :: S) := by
  subst hq
  by_cases h : x < y
  · exact Go.st (fun t k => XS.icmpYes X.here hx rfl rfl hd rfl (tlt h).1 ho hp k) (ky h)
  · exact Go.st (fun t k => XS.icmpNo X.here hx rfl hd rfl (flt h).1 k) (kn h)
theorem f_if_lt (X : Stand p l e R s m args below meth c T locs cells slots) (hx : p.tables.exec = Jvm.exec) {x : Int32} {o : Int} (hd : decode c.code pc = .ok (.ifCond .lt o, 3)) (ho : 0 ≤ (pc : Int) + o) (hp : ((pc : Int) + o).toNat = q1) (hq : pc + 3 = q) (ky : x < 0 → Go p e below G T m q1 L S) (kn : ¬ x < 0 → Go p e below G T m q L S) : Go p e below G T m pc L (.int x :: S) := by
  subst hq
  by_cases h : x < 0
  · exact Go.st (fun t k => XS.ifYes X.here hx rfl rfl hd rfl ((if0 _ _).trans (tlt h).1) ho hp k) (ky h)
  · exact Go.st (fun t k => XS.ifNo X.here hx rfl hd rfl ((if0 _ _).trans (flt h).1) k) (kn h)
theorem f_lcmp_lt (X : Stand p l e R s m args below meth c T locs cells slots) (hx : p.tables.exec = Jvm.exec) {x y : Int64} {o : Int} (hd : decode c.code pc = .ok (.ifCond .lt o, 3)) (ho : 0 ≤ (pc : Int) + o) (hp : ((pc : Int) + o).toNat = q1) (hq : pc + 3 = q) (ky : x < y → Go p e below G T m q1 L S) (kn : ¬ x < y → Go p e below G T m q L S) : Go p e below G T m pc L (.int (lcmpW x y) :: S) :=
  f_if_lt X hx hd ho hp hq (fun h => ky ((lw_lt x y).mp h)) (fun h => kn (fun g => h ((lw_lt x y).mpr g)))
theorem f_icmp_ge (X : Stand p l e R s m args below meth c T locs cells slots) (hx : p.tables.exec = Jvm.exec) {x y : Int32} {o : Int} (hd : decode c.code pc = .ok (.if_icmp .ge o, 3)) (ho : 0 ≤ (pc : Int) + o) (hp : ((pc : Int) + o).toNat = q1) (hq : pc + 3 = q) (ky : ¬ x < y → Go p e below G T m q1 L S) (kn : x < y → Go p e below G T m q L S) : Go p e below G T m pc L (.int y :: .int x :: S) := by
  subst hq
  by_cases h : x < y
  · exact Go.st (fun t k => XS.icmpNo X.here hx rfl hd rfl (tlt h).2.1 k) (kn h)
  · exact Go.st (fun t k => XS.icmpYes X.here hx rfl rfl hd rfl (flt h).2.1 ho hp k) (ky h)
theorem f_if_ge (X : Stand p l e R s m args below meth c T locs cells slots) (hx : p.tables.exec = Jvm.exec) {x : Int32} {o : Int} (hd : decode c.code pc = .ok (.ifCond .ge o, 3)) (ho : 0 ≤ (pc : Int) + o) (hp : ((pc : Int) + o).toNat = q1) (hq : pc + 3 = q) (ky : ¬ x < 0 → Go p e below G T m q1 L S) (kn : x < 0 → Go p e below G T m q L S) : Go p e below G T m pc L (.int x :: S) := by
  subst hq
  by_cases h : x < 0
  · exact Go.st (fun t k => XS.ifNo X.here hx rfl hd rfl ((if0 _ _).trans (tlt h).2.1) k) (kn h)
  · exact Go.st (fun t k => XS.ifYes X.here hx rfl rfl hd rfl ((if0 _ _).trans (flt h).2.1) ho hp k) (ky h)
theorem f_lcmp_ge (X : Stand p l e R s m args below meth c T locs cells slots) (hx : p.tables.exec = Jvm.exec) {x y : Int64} {o : Int} (hd : decode c.code pc = .ok (.ifCond .ge o, 3)) (ho : 0 ≤ (pc : Int) + o) (hp : ((pc : Int) + o).toNat = q1) (hq : pc + 3 = q) (ky : ¬ x < y → Go p e below G T m q1 L S) (kn : x < y → Go p e below G T m q L S) : Go p e below G T m pc L (.int (lcmpW x y) :: S) :=
  f_if_ge X hx hd ho hp hq (fun h => ky (fun g => h ((lw_lt x y).mpr g))) (fun h => kn ((lw_lt x y).mp h))
theorem f_icmp_gt (X : Stand p l e R s m args below meth c T locs cells slots) (hx : p.tables.exec = Jvm.exec) {x y : Int32} {o : Int} (hd : decode c.code pc = .ok (.if_icmp .gt o, 3)) (ho : 0 ≤ (pc : Int) + o) (hp : ((pc : Int) + o).toNat = q1) (hq : pc + 3 = q) (ky : y < x → Go p e below G T m q1 L S) (kn : ¬ y < x → Go p e below G T m q L S) : Go p e below G T m pc L (.int y :: .int x :: S) := by
  subst hq
  by_cases h : y < x
  · exact Go.st (fun t k => XS.icmpYes X.here hx rfl rfl hd rfl (tlt h).2.2.1 ho hp k) (ky h)
  · exact Go.st (fun t k => XS.icmpNo X.here hx rfl hd rfl (flt h).2.2.1 k) (kn h)
theorem f_if_gt (X : Stand p l e R s m args below meth c T locs cells slots) (hx : p.tables.exec = Jvm.exec) {x : Int32} {o : Int} (hd : decode c.code pc = .ok (.ifCond .gt o, 3)) (ho : 0 ≤ (pc : Int) + o) (hp : ((pc : Int) + o).toNat = q1) (hq : pc + 3 = q) (ky : 0 < x → Go p e below G T m q1 L S) (kn : ¬ 0 < x → Go p e below G T m q L S) : Go p e below G T m pc L (.int x :: S) := by
  subst hq
  by_cases h : 0 < x
  · exact Go.st (fun t k => XS.ifYes X.here hx rfl rfl hd rfl ((if0 _ _).trans (tlt h).2.2.1) ho hp k) (ky h)
  · exact Go.st (fun t k => XS.ifNo X.here hx rfl hd rfl ((if0 _ _).trans (flt h).2.2.1) k) (kn h)
theorem f_lcmp_gt (X : Stand p l e R s m args below meth c T locs cells slots) (hx : p.tables.exec = Jvm.exec) {x y : Int64} {o : Int} (hd : decode c.code pc = .ok (.ifCond .gt o, 3)) (ho : 0 ≤ (pc : Int) + o) (hp : ((pc : Int) + o).toNat = q1) (hq : pc + 3 = q) (ky : y < x → Go p e below G T m q1 L S) (kn : ¬ y < x → Go p e below G T m q L S) : Go p e below G T m pc L (.int (lcmpW x y) :: S) :=
  f_if_gt X hx hd ho hp hq (fun h => ky ((lw_gt x y).mp h)) (fun h => kn (fun g => h ((lw_gt x y).mpr g)))
theorem f_icmp_le (X : Stand p l e R s m args below meth c T locs cells slots) (hx : p.tables.exec = Jvm.exec) {x y : Int32} {o : Int} (hd : decode c.code pc = .ok (.if_icmp .le o, 3)) (ho : 0 ≤ (pc : Int) + o) (hp : ((pc : Int) + o).toNat = q1) (hq : pc + 3 = q) (ky : ¬ y < x → Go p e below G T m q1 L S) (kn : y < x → Go p e below G T m q L S) : Go p e below G T m pc L (.int y :: .int x :: S) := by
  subst hq
  by_cases h : y < x
  · exact Go.st (fun t k => XS.icmpNo X.here hx rfl hd rfl (tlt h).2.2.2 k) (kn h)
  · exact Go.st (fun t k => XS.icmpYes X.here hx rfl rfl hd rfl (flt h).2.2.2 ho hp k) (ky h)
theorem f_if_le (X : Stand p l e R s m args below meth c T locs cells slots) (hx : p.tables.exec = Jvm.exec) {x : Int32} {o : Int} (hd : decode c.code pc = .ok (.ifCond .le o, 3)) (ho : 0 ≤ (pc : Int) + o) (hp : ((pc : Int) + o).toNat = q1) (hq : pc + 3 = q) (ky : ¬ 0 < x → Go p e below G T m q1 L S) (kn : 0 < x → Go p e below G T m q L S) : Go p e below G T m pc L (.int x :: S) := by
  subst hq
  by_cases h : 0 < x
  · exact Go.st (fun t k => XS.ifNo X.here hx rfl hd rfl ((if0 _ _).trans (tlt h).2.2.2) k) (kn h)
  · exact Go.st (fun t k => XS.ifYes X.here hx rfl rfl hd rfl ((if0 _ _).trans (flt h).2.2.2) ho hp k) (ky h)
theorem f_lcmp_le (X : Stand p l e R s m args below meth c T locs cells slots) (hx : p.tables.exec = Jvm.exec) {x y : Int64} {o : Int} (hd : decode c.code pc = .ok (.ifCond .le o, 3)) (ho : 0 ≤ (pc : Int) + o) (hp : ((pc : Int) + o).toNat = q1) (hq : pc + 3 = q) (ky : ¬ y < x → Go p e below G T m q1 L S) (kn : y < x → Go p e below G T m q L S) : Go p e below G T m pc L (.int (lcmpW x y) :: S) :=
  f_if_le X hx hd ho hp hq (fun h => ky (fun g => h ((lw_gt x y).mpr g))) (fun h => kn ((lw_gt x y).mp h))
theorem f_icmp_eq (X : Stand p l e R s m args below meth c T locs cells slots) (hx : p.tables.exec = Jvm.exec) {x y : Int32} {o : Int} (hd : decode c.code pc = .ok (.if_icmp .eq o, 3)) (ho : 0 ≤ (pc : Int) + o) (hp : ((pc : Int) + o).toNat = q1) (hq : pc + 3 = q) (ky : x = y → Go p e below G T m q1 L S) (kn : ¬ x = y → Go p e below G T m q L S) : Go p e below G T m pc L (.int y :: .int x :: S) := by
  subst hq
  by_cases h : x = y
  · exact Go.st (fun t k => XS.icmpYes X.here hx rfl rfl hd rfl (teq h).1 ho hp k) (ky h)
  · exact Go.st (fun t k => XS.icmpNo X.here hx rfl hd rfl (feq h).1 k) (kn h)
theorem f_if_eq (X : Stand p l e R s m args below meth c T locs cells slots) (hx : p.tables.exec = Jvm.exec) {x : Int32} {o : Int} (hd : decode c.code pc = .ok (.ifCond .eq o, 3)) (ho : 0 ≤ (pc : Int) + o) (hp : ((pc : Int) + o).toNat = q1) (hq : pc + 3 = q) (ky : x = 0 → Go p e below G T m q1 L S) (kn : ¬ x = 0 → Go p e below G T m q L S) : Go p e below G T m pc L (.int x :: S) := by
  subst hq
  by_cases h : x = 0
  · exact Go.st (fun t k => XS.ifYes X.here hx rfl rfl hd rfl ((if0 _ _).trans (teq h).1) ho hp k) (ky h)
  · exact Go.st (fun t k => XS.ifNo X.here hx rfl hd rfl ((if0 _ _).trans (feq h).1) k) (kn h)
theorem f_lcmp_eq (X : Stand p l e R s m args below meth c T locs cells slots) (hx : p.tables.exec = Jvm.exec) {x y : Int64} {o : Int} (hd : decode c.code pc = .ok (.ifCond .eq o, 3)) (ho : 0 ≤ (pc : Int) + o) (hp : ((pc : Int) + o).toNat = q1) (hq : pc + 3 = q) (ky : x = y → Go p e below G T m q1 L S) (kn : ¬ x = y → Go p e below G T m q L S) : Go p e below G T m pc L (.int (lcmpW x y) :: S) :=
  f_if_eq X hx hd ho hp hq (fun h => ky ((lw_eq x y).mp h)) (fun h => kn (fun g => h ((lw_eq x y).mpr g)))
theorem f_icmp_ne (X : Stand p l e R s m args below meth c T locs cells slots) (hx : p.tables.exec = Jvm.exec) {x y : Int32} {o : Int} (hd : decode c.code pc = .ok (.if_icmp .ne o, 3)) (ho : 0 ≤ (pc : Int) + o) (hp : ((pc : Int) + o).toNat = q1) (hq : pc + 3 = q) (ky : ¬ x = y → Go p e below G T m q1 L S) (kn : x = y → Go p e below G T m q L S) : Go p e below G T m pc L (.int y :: .int x :: S) := by
  subst hq
  by_cases h : x = y
  · exact Go.st (fun t k => XS.icmpNo X.here hx rfl hd rfl (teq h).2 k) (kn h)
  · exact Go.st (fun t k => XS.icmpYes X.here hx rfl rfl hd rfl (feq h).2 ho hp k) (ky h)
theorem f_if_ne (X : Stand p l e R s m args below meth c T locs cells slots) (hx : p.tables.exec = Jvm.exec) {x : Int32} {o : Int} (hd : decode c.code pc = .ok (.ifCond .ne o, 3)) (ho : 0 ≤ (pc : Int) + o) (hp : ((pc : Int) + o).toNat = q1) (hq : pc + 3 = q) (ky : ¬ x = 0 → Go p e below G T m q1 L S) (kn : x = 0 → Go p e below G T m q L S) : Go p e below G T m pc L (.int x :: S) := by
  subst hq
  by_cases h : x = 0
  · exact Go.st (fun t k => XS.ifNo X.here hx rfl hd rfl ((if0 _ _).trans (teq h).2) k) (kn h)
  · exact Go.st (fun t k => XS.ifYes X.here hx rfl rfl hd rfl ((if0 _ _).trans (feq h).2) ho hp k) (ky h)
theorem f_lcmp_ne (X : Stand p l e R s m args below meth c T locs cells slots) (hx : p.tables.exec = Jvm.exec) {x y : Int64} {o : Int} (hd : decode c.code pc = .ok (.ifCond .ne o, 3)) (ho : 0 ≤ (pc : Int) + o) (hp : ((pc : Int) + o).toNat = q1) (hq : pc + 3 = q) (ky : ¬ x = y → Go p e below G T m q1 L S) (kn : x = y → Go p e below G T m q L S) : Go p e below G T m pc L (.int (lcmpW x y) :: S) :=
  f_if_ne X hx hd ho hp hq (fun h => ky (fun g => h ((lw_eq x y).mpr g))) (fun h => kn ((lw_eq x y).mp h))
theorem s_ifnullYes (X : Stand p l e R s m args below meth c T locs cells slots) (hx : p.tables.exec = Jvm.exec) {o : Int} (hd : decode c.code pc = .ok (.ifnull o, 3)) (ho : 0 ≤ (pc : Int) + o) (hp : ((pc : Int) + o).toNat = q1) (K : Go p e below G T m q1 L S) : Go p e below G T m pc L (.null :: S) := Go.st (fun t k => XS.ifnullYes X.here hx rfl rfl hd rfl ho hp k) K
theorem s_ifnullNo (X : Stand p l e R s m args below meth c T locs cells slots) (hx : p.tables.exec = Jvm.exec) {o : Int} {b : Addr} (hd : decode c.code pc = .ok (.ifnull o, 3))  (hq : pc + 3 = q) (K : Go p e below G T m q L S) : Go p e below G T m pc L (.ref b :: S) := by
  subst hq; exact Go.st (fun t k => XS.ifnullNo X.here hx rfl hd rfl k) K
theorem s_ifnonnullYes (X : Stand p l e R s m args below meth c T locs cells slots) (hx : p.tables.exec = Jvm.exec) {o : Int} {b : Addr} (hd : decode c.code pc = .ok (.ifnonnull o, 3)) (ho : 0 ≤ (pc : Int) + o) (hp : ((pc : Int) + o).toNat = q1) (K : Go p e below G T m q1 L S) : Go p e below G T m pc L (.ref b :: S) := Go.st (fun t k => XS.ifnonnullYes X.here hx rfl rfl hd rfl ho hp k) K
theorem s_ifnonnullNo (X : Stand p l e R s m args below meth c T locs cells slots) (hx : p.tables.exec = Jvm.exec) {o : Int} (hd : decode c.code pc = .ok (.ifnonnull o, 3))  (hq : pc + 3 = q) (K : Go p e below G T m q L S) : Go p e below G T m pc L (.null :: S) := by
  subst hq; exact Go.st (fun t k => XS.ifnonnullNo X.here hx rfl hd rfl k) K
variable {Z : State} {a0 : Array Value} {h h' : Heap} {a b : Addr} {own C O n d : String} {v : Value} {n0 : Nat}
theorem s_ldc (X : Stand p l e R s m args below meth c T locs cells slots) (hx : p.tables.exec = Jvm.exec) (hZ : Z.Warmed39 s.vm) (hown : s.vm.findClass own = some m.cls) {index : Nat} {z : Int32} (w : (Jvm.Cond.constant own index z).before a0 Z = true) (hd : decode c.code pc = .ok (.ldc index, 2)) (hq : pc + 2 = q) (K : Go p e below G T m q L (.int z :: S)) : Go p e below G T m pc L S := by
  subst hq; exact Go.st (fun t k => X.ldcInt hx hown (mvT hZ w) (g := mkF m pc L S) rfl hd t k) K
theorem s_ldcw (X : Stand p l e R s m args below meth c T locs cells slots) (hx : p.tables.exec = Jvm.exec) (hZ : Z.Warmed39 s.vm) (hown : s.vm.findClass own = some m.cls) {index : Nat} {z : Int32} (w : (Jvm.Cond.constant own index z).before a0 Z = true) (hd : decode c.code pc = .ok (.ldc_w index, 3)) (hq : pc + 3 = q) (K : Go p e below G T m q L (.int z :: S)) : Go p e below G T m pc L S := by
  subst hq; exact Go.st (fun t k => X.ldcwInt hx hown (mvT hZ w) (g := mkF m pc L S) rfl hd t k) K
theorem s_ldc2 (X : Stand p l e R s m args below meth c T locs cells slots) (hx : p.tables.exec = Jvm.exec) (hZ : Z.Warmed39 s.vm) (hown : s.vm.findClass own = some m.cls) {index : Nat} {z : Int64} (w : (Jvm.Cond.constantLong own index z).before a0 Z = true) (hd : decode c.code pc = .ok (.ldc2_w index, 3)) (hq : pc + 3 = q) (K : Go p e below G T m q L (.long z :: S)) : Go p e below G T m pc L S := by
  subst hq; exact Go.st (fun t k => X.ldc2Long hx hown (mvT hZ w) (g := mkF m pc L S) rfl hd t k) K
theorem s_lrem (X : Stand p l e R s m args below meth c T locs cells slots) (hx : p.tables.exec = Jvm.exec) {x y : Int64} (hd : decode c.code pc = .ok (.lrem, 1)) (hy : y ≠ 0) (hq : pc + 1 = q) (K : Go p e below G T m q L (.long (x % y) :: S)) : Go p e below G T m pc L (.long y :: .long x :: S) := by
  subst hq; rw [← lrem_mod] at K; exact Go.st (fun t k => XS.lrem X.here hx rfl hd rfl hy k) K
theorem irem_mod (x y : Int32) : x - (x / y) * y = x % y := by
  apply Int32.toInt_inj.mp
  have h1 := Int32.le_toInt (x % y)
  have h2 := Int32.toInt_lt (x % y)
  rw [Int32.toInt_sub, Int32.toInt_mul, Int32.toInt_div, Int.bmod_mul_bmod, Int.sub_bmod_bmod, Int.mul_comm (x.toInt.tdiv y.toInt), ← Int.tmod_def, ← Int32.toInt_mod]
  exact Int.bmod_eq_of_le_mul_two (by omega) (by omega)
theorem s_irem (X : Stand p l e R s m args below meth c T locs cells slots) (hx : p.tables.exec = Jvm.exec) {x y : Int32} (hd : decode c.code pc = .ok (.irem, 1)) (hy : y ≠ 0) (hq : pc + 1 = q) (K : Go p e below G T m q L (.int (x % y) :: S)) : Go p e below G T m pc L (.int y :: .int x :: S) := by
  subst hq; rw [← irem_mod] at K; exact Go.st (fun t k => XS.irem X.here hx rfl hd rfl hy k) K
theorem leafI (X : Stand p l e R s m args below meth c T locs cells slots) (hx : p.tables.exec = Jvm.exec) {z : Int32} {Q : Option Value → Heap → List Loc → Prop} {C N : Nat} (hlk : meth.locks = false) (hret : meth.sig.returnType = some .int) (hd : decode c.code pc = .ok (.ireturn, 1)) (hc : cells ≤ C) (hn : slots ≤ N) (hQ : Q (some (.int z)) T.heap locs) : Go p e below (Gl s below Q C N) T m pc L (.int z :: S) := by
  obtain ⟨fs, hr, hrun, hended, hW, hsame⟩ := X.leave (v := some (.int z)) (fun h => by rw [hret] at h; cases h) hlk
  exact ⟨_, retI X hx hret hd hr, _, hrun, hended, _, _, rfl, hQ, ⟨_, rfl⟩, hW, hsame.mono hc hn⟩
theorem leafN (X : Stand p l e R s m args below meth c T locs cells slots) (hx : p.tables.exec = Jvm.exec) {t : FieldType} {z z' : Int32} {Q : Option Value → Heap → List Loc → Prop} {C N : Nat} (hlk : meth.locks = false) (hret : meth.sig.returnType = some t) (ht : t = .boolean ∨ t = .byte ∨ t = .char ∨ t = .short) (hd : decode c.code pc = .ok (.ireturn, 1)) (hc : cells ≤ C) (hn : slots ≤ N) (hz : nar t z = z') (hQ : Q (some (.int z')) T.heap locs) : Go p e below (Gl s below Q C N) T m pc L (.int z :: S) := by
  subst hz
  obtain ⟨fs, hr, hrun, hended, hW, hsame⟩ := X.leave (v := some (.int (nar t z))) (fun h => by rw [hret] at h; cases h) hlk
  exact ⟨_, retN X hx hret ht hd hr, _, hrun, hended, _, _, rfl, hQ, ⟨_, rfl⟩, hW, hsame.mono hc hn⟩
theorem leafJ (X : Stand p l e R s m args below meth c T locs cells slots) (hx : p.tables.exec = Jvm.exec) {z : Int64} {Q : Option Value → Heap → List Loc → Prop} {C N : Nat} (hlk : meth.locks = false) (hret : meth.sig.returnType = some .long) (hd : decode c.code pc = .ok (.lreturn, 1)) (hc : cells ≤ C) (hn : slots ≤ N) (hQ : Q (some (.long z)) T.heap locs) : Go p e below (Gl s below Q C N) T m pc L (.long z :: S) := by
  obtain ⟨fs, hr, hrun, hended, hW, hsame⟩ := X.leave (v := some (.long z)) (fun h => by rw [hret] at h; cases h) hlk
  refine ⟨_, ?_, _, hrun, hended, _, _, rfl, hQ, ⟨_, rfl⟩, hW, hsame.mono hc hn⟩
  show Steps p.tables e below (T.setTop { method := m, pc := pc, locals := L, stack := .long z :: S, locked := none }) _
  jvm_step X.here [X.here.top, hx, hd, X.method', hret, narrow]
  first | (intro acts; rw [hr _ acts rfl rfl rfl]) | rw [hr _ _ rfl rfl rfl]
  exact Steps.refl _
theorem leafA (X : Stand p l e R s m args below meth c T locs cells slots) (hx : p.tables.exec = Jvm.exec) {v : Value} {t : FieldType} {Q : Option Value → Heap → List Loc → Prop} {C N : Nat} (hlk : meth.locks = false) (hret : meth.sig.returnType = some t) (ht : t.isReference = true) (hv : v.isRef = true) (hd : decode c.code pc = .ok (.areturn, 1)) (hc : cells ≤ C) (hn : slots ≤ N) (hQ : Q (some v) T.heap locs) : Go p e below (Gl s below Q C N) T m pc L (v :: S) := by
  obtain ⟨fs, hr, hrun, hended, hW, hsame⟩ := X.leave (v := some v) (fun h => by rw [hret] at h; cases h) hlk
  refine ⟨_, ?_, _, hrun, hended, _, _, rfl, hQ, ⟨_, rfl⟩, hW, hsame.mono hc hn⟩
  show Steps p.tables e below (T.setTop { method := m, pc := pc, locals := L, stack := v :: S, locked := none }) _
  jvm_step X.here [X.here.top, hx, hd, X.method', hret, hv, ht]
  first | (intro acts; rw [hr _ acts rfl rfl rfl]) | rw [hr _ _ rfl rfl rfl]
  exact Steps.refl _
theorem leafV (X : Stand p l e R s m args below meth c T locs cells slots) (hx : p.tables.exec = Jvm.exec) {Q : Option Value → Heap → List Loc → Prop} {C N : Nat} (hlk : meth.locks = false) (hret : meth.sig.returnType = none) (hd : decode c.code pc = .ok (.return_, 1)) (hc : cells ≤ C) (hn : slots ≤ N) (hQ : Q none T.heap locs) : Go p e below (Gl s below Q C N) T m pc L [] := by
  obtain ⟨fs, hr, hrun, hended, hW, hsame⟩ := X.leave (v := none) (fun _ => rfl) hlk
  exact ⟨_, X.returnOut hx hret hd hr, _, hrun, hended, _, _, rfl, hQ, ⟨_, rfl⟩, hW, hsame.mono hc hn⟩
/-- a call by a contract -/
theorem callC (X : Stand p l e R s m args below meth c T locs cells slots) (hx : p.tables.exec = Jvm.exec) (hZ : Z.Warmed39 s.vm) (hown : s.vm.findClass own = some m.cls) {index : Nat} {y : MethodName} {bytes : ByteArray} {maxL : Nat} {ret : Option FieldType} {rm : Room} {Q : Option Value → Heap → List Loc → Prop} {W : Nat} {argsL rest : List Value}
    (w1 : (Jvm.Cond.methodLink own index y).before a0 Z = true) (w2 : (Jvm.Cond.static y).before a0 Z = true) (w3 : (Jvm.Cond.initialized y.cls).before a0 Z = true) (w4 : (Jvm.Cond.code y bytes maxL ret).before a0 Z = true) (hy : y.cls ≠ "java/lang/invoke/MethodHandle" ∧ y.cls ≠ "java/lang/invoke/VarHandle")
    (K : Ctr l y bytes maxL ret [] rm Z argsL.toArray h Q rm.cells rm.slots) (eT : T.heap = h) (hf : rm.frames + 1 ≤ R.frames) (hl : W + (maxL + 11) + rm.locals ≤ R.locals) (hc : cells + rm.cells ≤ R.cells) (hn : slots + rm.slots ≤ R.slots) (hsize : L.size = c.maxLocals)
    {ps : List FieldType} {r : Option FieldType} (hlen : parseMethodDescriptor y.desc = some ⟨ps, r⟩) (hl2 : argsL.length = ps.length) (hS : S = argsL.reverse ++ rest) (hW : (rest.map fun v => v.category).sum ≤ W) (hd : decode c.code pc = .ok (.invokestatic index, 3)) (hq : pc + 3 = q)
    (k : ∀ (v : Option Value) (T' : State) (Lc : List Loc), Q v T'.heap Lc → Stand p l e R s m args below meth c T' (locs ++ Lc) (cells + rm.cells) (slots + rm.slots) → Go p e below G T' m q L (v.toList ++ rest)) : Go p e below G T m pc L S := by
  subst hq hS
  obtain ⟨v, _, ⟨T', L', k', n'⟩, -, X', ⟨Lc, hQ, l1, y1, z1⟩, st⟩ := Jvm.LawKit.callS X hx (y := y) hown (mvT hZ w1) (mvT hZ w2) (mvT hZ w3) (mvT hZ w4) hy (backOf (W := W) K hZ w4 w3 hf hl) (g := mkF m pc L (argsL.reverse ++ rest)) rfl hsize (argsL := argsL) (rest := rest) (lenOf hlen hl2) rfl (by show 2 * 0 + _ ≤ _; omega) hd (fun _ _ => ⟨rfl, eT, hc, hn⟩)
  dsimp only [Pt.U, Pt.locs, Pt.cells, Pt.slots] at X' l1 y1 z1 st hQ
  subst l1 y1 z1
  exact Go.st st (k v T' Lc hQ X')
/-- what a pure body leaves -/
def PQ (w : Value) (h0 : Heap) (v : Option Value) (h : Heap) (L : List Loc) : Prop := v = some w ∧ h = h0 ∧ L = []
theorem callP (X : Stand p l e R s m args below meth c T locs cells slots) (hx : p.tables.exec = Jvm.exec) (hZ : Z.Warmed39 s.vm) (hown : s.vm.findClass own = some m.cls) {index : Nat} {y : MethodName} {bytes : ByteArray} {maxL : Nat} {ret : Option FieldType} {rm : Room} {w : Value} {W : Nat} {argsL rest : List Value}
    (w1 : (Jvm.Cond.methodLink own index y).before a0 Z = true) (w2 : (Jvm.Cond.static y).before a0 Z = true) (w3 : (Jvm.Cond.initialized y.cls).before a0 Z = true) (w4 : (Jvm.Cond.code y bytes maxL ret).before a0 Z = true) (hy : y.cls ≠ "java/lang/invoke/MethodHandle" ∧ y.cls ≠ "java/lang/invoke/VarHandle")
    (K : Ctr l y bytes maxL ret [] rm Z argsL.toArray h (PQ w h) 0 0) (hrc : rm.cells = 0) (hrs : rm.slots = 0) (eT : T.heap = h) (hf : rm.frames + 1 ≤ R.frames) (hl : W + (maxL + 11) + rm.locals ≤ R.locals) (hc : cells ≤ R.cells) (hn : slots ≤ R.slots) (hsize : L.size = c.maxLocals)
    {ps : List FieldType} {r : Option FieldType} (hlen : parseMethodDescriptor y.desc = some ⟨ps, r⟩) (hl2 : argsL.length = ps.length) (hS : S = argsL.reverse ++ rest) (hW : (rest.map fun v => v.category).sum ≤ W) (hd : decode c.code pc = .ok (.invokestatic index, 3)) (hq : pc + 3 = q)
    (k : ∀ (T' : State), Stand p l e R s m args below meth c T' locs cells slots → T'.heap = h → Go p e below G T' m q L (w :: rest)) : Go p e below G T m pc L S := by
  refine callC X hx hZ hown w1 w2 w3 w4 hy (rm := rm) (Q := PQ w h) (by rw [hrc, hrs]; exact K) eT hf hl (by rw [hrc]; exact hc) (by rw [hrs]; exact hn) hsize hlen hl2 hS hW hd hq ?_
  rintro v T' Lc ⟨rfl, e', rfl⟩ X'
  rw [List.append_nil, hrc, hrs] at X'
  exact k T' X' e'
theorem callV (X : Stand p l e R s m args below meth c T locs cells slots) (hx : p.tables.exec = Jvm.exec) (hZ : Z.Warmed39 s.vm) (hown : s.vm.findClass own = some m.cls) {index : Nat} {y : MethodName} {bytes : ByteArray} {maxL : Nat} {ret : Option FieldType} {rm : Room} {Q : Option Value → Heap → List Loc → Prop} {W : Nat} {argsL rest : List Value}
    (w1 : (Jvm.Cond.methodLink own index y).before a0 Z = true) (w2 : (Jvm.Cond.declares y).before a0 Z = true) (w3 : (Jvm.Cond.selects y.cls y y).before a0 Z = true) (w5 : (Jvm.Cond.instanceMethod y).before a0 Z = true) (w6 : (Jvm.Cond.initialized y.cls).before a0 Z = true) (w4 : (Jvm.Cond.code y bytes maxL ret).before a0 Z = true) (hy : y.cls ≠ "java/lang/invoke/MethodHandle" ∧ y.cls ≠ "java/lang/invoke/VarHandle")
    (A : Exa Z h a y.cls) (K : Ctr l y bytes maxL ret [] rm Z (.ref a :: argsL).toArray h Q rm.cells rm.slots) (eT : T.heap = h) (hf : rm.frames + 1 ≤ R.frames) (hl : W + (maxL + 11) + rm.locals ≤ R.locals) (hc : cells + rm.cells ≤ R.cells) (hn : slots + rm.slots ≤ R.slots) (hsize : L.size = c.maxLocals)
    {ps : List FieldType} {r : Option FieldType} (hlen : parseMethodDescriptor y.desc = some ⟨ps, r⟩) (hl2 : argsL.length = ps.length) (hS : S = argsL.reverse ++ .ref a :: rest) (hW : (rest.map fun v => v.category).sum ≤ W) (hd : decode c.code pc = .ok (.invokevirtual index, 3)) (hq : pc + 3 = q)
    (k : ∀ (v : Option Value) (T' : State) (Lc : List Loc), Q v T'.heap Lc → Stand p l e R s m args below meth c T' (locs ++ Lc) (cells + rm.cells) (slots + rm.slots) → Go p e below G T' m q L (v.toList ++ rest)) : Go p e below G T m pc L S := by
  subst hq hS
  obtain ⟨cq, kq, qa, qb, qc⟩ := isOf hZ eT A
  obtain ⟨v, _, ⟨T', L', k', n'⟩, -, X', ⟨Lc, hQ, l1, y1, z1⟩, st⟩ := X.virtualBack hx (y := y) (z := y) hown (mvT hZ w1) (mvT hZ w2) (notFace_of_selects (args := #[]) (mvT hZ w3)) (mvT hZ w3) (mvT hZ w5) hy (backOf (W := W) K hZ w4 w6 hf hl) qa qc (g := mkF m pc L (argsL.reverse ++ .ref a :: rest)) rfl hsize (Steps.refl _) (argsL := argsL) (rest := rest) (lenOf hlen hl2) rfl (by show 2 * 0 + _ ≤ _; omega) hd (fun _ _ => ⟨rfl, eT, hc, hn⟩)
  dsimp only [Pt.U, Pt.locs, Pt.cells, Pt.slots] at X' l1 y1 z1 st hQ
  subst l1 y1 z1
  exact Go.st (fun t h => st.trans h) (k v T' Lc hQ X')
theorem callI (X : Stand p l e R s m args below meth c T locs cells slots) (hx : p.tables.exec = Jvm.exec) (hZ : Z.Warmed39 s.vm) (hown : s.vm.findClass own = some m.cls) {index : Nat} {y : MethodName} {bytes : ByteArray} {maxL : Nat} {rm : Room} {Q : Option Value → Heap → List Loc → Prop} {W : Nat} {argsL rest : List Value} (hyn : y.name = "<init>")
    (w1 : (Jvm.Cond.methodLink own index y).before a0 Z = true) (w5 : (Jvm.Cond.instanceMethod y).before a0 Z = true) (w6 : (Jvm.Cond.initialized y.cls).before a0 Z = true) (w4 : (Jvm.Cond.code y bytes maxL none).before a0 Z = true) (hy : y.cls ≠ "java/lang/invoke/MethodHandle" ∧ y.cls ≠ "java/lang/invoke/VarHandle")
    (K : Ctr l y bytes maxL none [] rm Z (.ref a :: argsL).toArray h Q rm.cells rm.slots) (eT : T.heap = h) (hf : rm.frames + 1 ≤ R.frames) (hl : W + (maxL + 11) + rm.locals ≤ R.locals) (hc : cells + rm.cells ≤ R.cells) (hn : slots + rm.slots ≤ R.slots) (hsize : L.size = c.maxLocals)
    {ps : List FieldType} {r : Option FieldType} (hlen : parseMethodDescriptor y.desc = some ⟨ps, r⟩) (hl2 : argsL.length = ps.length) (hS : S = argsL.reverse ++ .ref a :: rest) (hW : (rest.map fun v => v.category).sum ≤ W) (hd : decode c.code pc = .ok (.invokespecial index, 3)) (hq : pc + 3 = q)
    (k : ∀ (v : Option Value) (T' : State) (Lc : List Loc), Q v T'.heap Lc → Stand p l e R s m args below meth c T' (locs ++ Lc) (cells + rm.cells) (slots + rm.slots) → Go p e below G T' m q L (v.toList ++ rest)) : Go p e below G T m pc L S := by
  subst hq hS
  obtain ⟨v, _, ⟨T', L', k', n'⟩, -, X', ⟨Lc, hQ, l1, y1, z1⟩, st⟩ := X.specialBack hx (y := y) hyn hown (mvT hZ w1) (mvT hZ w5) (mvT hZ w4) hy (backOf (W := W) K hZ w4 w6 hf hl) (g := mkF m pc L (argsL.reverse ++ .ref a :: rest)) rfl hsize (Steps.refl _) (a := a) (argsL := argsL) (rest := rest) (lenOf hlen hl2) rfl (by show 2 * 0 + _ ≤ _; omega) hd (fun _ _ => ⟨rfl, eT, hc, hn⟩)
  dsimp only [Pt.U, Pt.locs, Pt.cells, Pt.slots] at X' l1 y1 z1 st hQ
  subst l1 y1 z1
  exact Go.st (fun t h => st.trans h) (k v T' Lc hQ X')
theorem s_initO (X : Stand p l e R s m args below meth c T locs cells slots) (hx : p.tables.exec = Jvm.exec) (hZ : Z.Warmed39 s.vm) (hown : s.vm.findClass own = some m.cls) {index : Nat} {W : Nat} (w1 : (Jvm.Cond.methodLink own index Lib.objectInit).before a0 Z = true) (w2 : (Jvm.Cond.instanceMethod Lib.objectInit).before a0 Z = true)
    (w3 : (Jvm.Cond.code Lib.objectInit ⟨#[0xb1]⟩ 1 none).before a0 Z = true) (eT : T.heap = h) (hsize : L.size = c.maxLocals) (hf : 1 ≤ R.frames) (hW : (S.map fun v => v.category).sum ≤ W) (hl : W + 12 ≤ R.locals) (hd : decode c.code pc = .ok (.invokespecial index, 3)) (hq : pc + 3 = q)
    (k : ∀ T', Stand p l e R s m args below meth c T' locs cells slots → T'.heap = h → Go p e below G T' m q L S) : Go p e below G T m pc L (.ref a :: S) := by
  subst hq
  obtain ⟨T', X', e', st⟩ := initO X hx hZ hown w1 w2 w3 eT (g := mkF m pc L (.ref a :: S)) rfl hsize rfl hd hf (W := W) (by show 2 * 0 + _ ≤ _; omega) hl
  exact Go.st st (k T' X' e')
theorem s_getF (X : Stand p l e R s m args below meth c T locs cells slots) (hx : p.tables.exec = Jvm.exec) (hZ : Z.Warmed39 s.vm) (hown : s.vm.findClass own = some m.cls) {index : Nat} (w : (Jvm.Cond.fieldLink own index O n d).before a0 Z = true) (eT : T.heap = h) (F : Fld Z h a O n d v) (hd : decode c.code pc = .ok (.getfield index, 3)) (hq : pc + 3 = q)
    (k : ∀ T', Stand p l e R s m args below meth c T' locs cells slots → T'.heap = h → Go p e below G T' m q L (v :: S)) : Go p e below G T m pc L (.ref a :: S) := by
  subst hq
  obtain ⟨T', X', e', st⟩ := getF X hx hZ hown (host := "") (Or.inl w) Via.refl eT F (g := mkF m pc L (.ref a :: S)) rfl rfl hd
  exact Go.st st (k T' X' e')
theorem s_putF (X : Stand p l e R s m args below meth c T locs cells slots) (hx : p.tables.exec = Jvm.exec) (hZ : Z.Warmed39 s.vm) (hown : s.vm.findClass own = some m.cls) {index kk : Nat} {ty : FieldType} {v old : Value} (w : (Jvm.Cond.fieldLink own index O n d).before a0 Z = true) (eT : T.heap = h) (F : Fld Z h a O n d old) (E : Exa Z h a C)
    (Ly : (Jvm.Cond.lays C O n d).before a0 Z = true ∨ ((Jvm.Cond.laysFinal C O n d).before a0 Z = true ∧ own = O ∧ meth.name = "<init>")) (wi : (Jvm.Cond.instantiable C kk).before a0 Z = true) (hty : parseFieldDescriptor d = some ty) (hn : narrow ty v = v) (hfit : fits ty v = true) (N : Fr n0 locs) (hg : n0 ≤ a) (hd : decode c.code pc = .ok (.putfield index, 3)) (hq : pc + 3 = q)
    (k : ∀ (T' : State) (h' : Heap) (locs' : List Loc), Stand p l e R s m args below meth c T' locs' cells slots → Fr n0 locs' → T'.heap = h' → Wr h h' a (Jvm.RoadKit.slotOf Z O n d) v → Fld Z h' a O n d v → Go p e below G T' m q L S) : Go p e below G T m pc L (v :: .ref a :: S) := by
  subst hq
  obtain ⟨T', h', X', e', W, st⟩ := putF X hx hZ hown (host := "") (Or.inl w) Via.refl eT F E Ly wi hty hn hfit (g := mkF m pc L (v :: .ref a :: S)) rfl rfl hd
  exact Go.st st (k T' h' _ X' (Fr.snoc X' N hg) e' W (F.same W))
theorem s_new (X : Stand p l e R s m args below meth c T locs cells slots) (hx : p.tables.exec = Jvm.exec) (hZ : Z.Warmed39 s.vm) (hown : s.vm.findClass own = some m.cls) {index kk : Nat} (w : (Jvm.Cond.classLink own index C).before a0 Z = true) (wi : (Jvm.Cond.instantiable C kk).before a0 Z = true) (wz : (Jvm.Cond.initialized C).before a0 Z = true) (eT : T.heap = h)
    (hc : cells + 1 ≤ R.cells) (hl : slots + kk ≤ R.slots) (hd : decode c.code pc = .ok (.new index, 3)) (hq : pc + 3 = q)
    (k : ∀ (T' : State) (h' : Heap) (a : Addr), Stand p l e R s m args below meth c T' locs (cells + 1) (slots + kk) → T'.heap = h' → Ext h h' → a = h.size → Exa Z h' a C → (∀ (O nm d : String) (ty : FieldType), Laid Z a0 C O nm d → parseFieldDescriptor d = some ty → Fld Z h' a O nm d (defaultValue ty)) → Go p e below G T' m q L (.ref a :: S)) : Go p e below G T m pc L S := by
  subst hq
  obtain ⟨T', h', X', e', E, A, D, -, st⟩ := newO X hx hZ hown w wi wz eT (g := mkF m pc L S) rfl hd hc hl
  exact Go.st st (k T' h' _ X' e' E rfl A (fun _ _ _ _ L1 q1 => D L1 q1))
/-- an array of ints (bytes, chars ..) by its list -/
def AI (Z : State) (h : Heap) (a : Addr) (ty : FieldType) (xs : List Int32) : Prop := ∃ cl : Cell, Arr Z h a cl ty ∧ cl.slots.toList = xs.map Value.int ∧ xs.length < 2147483648
def AJ (Z : State) (h : Heap) (a : Addr) (xs : List Int64) : Prop := ∃ cl : Cell, Arr Z h a cl .long ∧ cl.slots.toList = xs.map Value.long ∧ xs.length < 2147483648
variable {ty : FieldType} {xs ys : List Int32} {us vs : List Int64} {w : Value} {sl : Nat} {ws : List Addr}
theorem AI.lt (A : AI Z h a ty xs) : a < h.size := by obtain ⟨c, A, -⟩ := A; exact A.lt
theorem AJ.lt (A : AJ Z h a us) : a < h.size := by obtain ⟨c, A, -⟩ := A; exact A.lt
theorem AI.ext (A : AI Z h a ty xs) (E : Ext h h') : AI Z h' a ty xs := by obtain ⟨c, A, r⟩ := A; exact ⟨c, A.ext E, r⟩
theorem AJ.ext (A : AJ Z h a us) (E : Ext h h') : AJ Z h' a us := by obtain ⟨c, A, r⟩ := A; exact ⟨c, A.ext E, r⟩
theorem AI.other (A : AI Z h a ty xs) (W : Wr h h' b sl w) (q : a ≠ b) : AI Z h' a ty xs := by obtain ⟨c, A, r⟩ := A; exact ⟨c, A.other W q, r⟩
theorem AJ.other (A : AJ Z h a us) (W : Wr h h' b sl w) (q : a ≠ b) : AJ Z h' a us := by obtain ⟨c, A, r⟩ := A; exact ⟨c, A.other W q, r⟩
theorem AI.keep (A : AI Z h a ty xs) (K : Keep h h' ws) (q : a ∉ ws) : AI Z h' a ty xs := by obtain ⟨c, A, r⟩ := A; exact ⟨c, ⟨K.2.1 a c A.1 q, A.2⟩, r⟩
theorem AJ.keep (A : AJ Z h a us) (K : Keep h h' ws) (q : a ∉ ws) : AJ Z h' a us := by obtain ⟨c, A, r⟩ := A; exact ⟨c, ⟨K.2.1 a c A.1 q, A.2⟩, r⟩
theorem set_list (cl : Cell) (i : Nat) (v : Value) : (cl.setSlot i v).slots.toList = cl.slots.toList.set i v := by
  show (cl.slots.setIfInBounds i v).toList = _
  exact Array.toList_setIfInBounds ..
theorem AI.same (A : AI Z h a ty xs) {i : Nat} {x : Int32} (W : Wr h h' a i (.int x)) : AI Z h' a ty (xs.set i x) := by
  obtain ⟨c, A, e, n⟩ := A
  exact ⟨_, A.same W, by rw [set_list, e, List.map_set], by rw [List.length_set]; exact n⟩
theorem AJ.same (A : AJ Z h a us) {i : Nat} {x : Int64} (W : Wr h h' a i (.long x)) : AJ Z h' a (us.set i x) := by
  obtain ⟨c, A, e, n⟩ := A
  exact ⟨_, A.same W, by rw [set_list, e, List.map_set], by rw [List.length_set]; exact n⟩
theorem own_size {cl : Cell} {α : Type} {zs : List α} {f : α → Value} (e : cl.slots.toList = zs.map f) : cl.slots.size = zs.length := by
  rw [← Array.length_toList, e, List.length_map]
theorem own_at {cl : Cell} {α : Type} {zs : List α} {f : α → Value} (e : cl.slots.toList = zs.map f) {i : Nat} {x : α} (q : zs[i]? = some x) : cl.slots[i]? = some (f x) := by
  rw [← Array.getElem?_toList, e, List.getElem?_map, q]; rfl
theorem own_in {cl : Cell} {α : Type} {zs : List α} {f : α → Value} (e : cl.slots.toList = zs.map f) {j : Int32} (hj : ¬ j < 0) (q : j.toNatClampNeg < zs.length) : ¬ (j < 0 ∨ cl.slots.size ≤ j.toNatClampNeg) := by
  rw [own_size e]; intro h; rcases h with h | h
  · exact hj h
  · omega
theorem own_inl {α : Type} {zs : List α} {i : Nat} {x : α} (q : zs[i]? = some x) : i < zs.length := (List.getElem?_eq_some_iff.mp q).1
theorem s_iaload (X : Stand p l e R s m args below meth c T locs cells slots) (hx : p.tables.exec = Jvm.exec) (hZ : Z.Warmed39 s.vm) (eT : T.heap = h) {j : Int32} {x : Int32} (A : AI Z h a .int xs) (hj : ¬ j < 0) {i : Nat} (hji : j.toNatClampNeg = i) (hv : xs[i]? = some x) (hd : decode c.code pc = .ok (.iaload, 1)) (hq : pc + 1 = q) (K : Go p e below G T m q L (.int x :: S)) : Go p e below G T m pc L (.int j :: .ref a :: S) := by
  subst hq hji; obtain ⟨cl, Ar, ex, -⟩ := A
  exact Go.st (fun t k => X.iaload hx (j := j) (v := .int x) (by rw [eT]; exact Ar.1) (State.isArrayOf_alike hZ.alike Ar.2.1) Ar.2.2 (own_in ex hj (own_inl hv)) (own_at ex hv) (g := mkF m pc L (.int j :: .ref a :: S)) rfl rfl hd t k) K
theorem s_caload (X : Stand p l e R s m args below meth c T locs cells slots) (hx : p.tables.exec = Jvm.exec) (hZ : Z.Warmed39 s.vm) (eT : T.heap = h) {j : Int32} {x : Int32} (A : AI Z h a .char xs) (hj : ¬ j < 0) {i : Nat} (hji : j.toNatClampNeg = i) (hv : xs[i]? = some x) (hd : decode c.code pc = .ok (.caload, 1)) (hq : pc + 1 = q) (K : Go p e below G T m q L (.int x :: S)) : Go p e below G T m pc L (.int j :: .ref a :: S) := by
  subst hq hji; obtain ⟨cl, Ar, ex, -⟩ := A
  exact Go.st (fun t k => X.caload hx (j := j) (v := .int x) (by rw [eT]; exact Ar.1) (State.isArrayOf_alike hZ.alike Ar.2.1) Ar.2.2 (own_in ex hj (own_inl hv)) (own_at ex hv) (g := mkF m pc L (.int j :: .ref a :: S)) rfl rfl hd t k) K
theorem s_baload (X : Stand p l e R s m args below meth c T locs cells slots) (hx : p.tables.exec = Jvm.exec) (hZ : Z.Warmed39 s.vm) (eT : T.heap = h) {j : Int32} {x : Int32} (A : AI Z h a .byte xs) (hj : ¬ j < 0) {i : Nat} (hji : j.toNatClampNeg = i) (hv : xs[i]? = some x) (hd : decode c.code pc = .ok (.baload, 1)) (hq : pc + 1 = q) (K : Go p e below G T m q L (.int x :: S)) : Go p e below G T m pc L (.int j :: .ref a :: S) := by
  subst hq hji; obtain ⟨cl, Ar, ex, -⟩ := A
  exact Go.st (fun t k => X.baloadBytes hx (j := j) (v := .int x) (by rw [eT]; exact Ar.1) (State.isArrayOf_alike hZ.alike Ar.2.1) Ar.2.2 (own_in ex hj (own_inl hv)) (own_at ex hv) (g := mkF m pc L (.int j :: .ref a :: S)) rfl rfl hd t k) K
theorem s_laload (X : Stand p l e R s m args below meth c T locs cells slots) (hx : p.tables.exec = Jvm.exec) (hZ : Z.Warmed39 s.vm) (eT : T.heap = h) {j : Int32} {x : Int64} (A : AJ Z h a us) (hj : ¬ j < 0) {i : Nat} (hji : j.toNatClampNeg = i) (hv : us[i]? = some x) (hd : decode c.code pc = .ok (.laload, 1)) (hq : pc + 1 = q) (K : Go p e below G T m q L (.long x :: S)) : Go p e below G T m pc L (.int j :: .ref a :: S) := by
  subst hq hji; obtain ⟨cl, Ar, ex, -⟩ := A
  exact Go.st (fun t k => X.laload hx (j := j) (v := .long x) (by rw [eT]; exact Ar.1) (State.isArrayOf_alike hZ.alike Ar.2.1) Ar.2.2 (own_in ex hj (own_inl hv)) (own_at ex hv) (g := mkF m pc L (.int j :: .ref a :: S)) rfl rfl hd t k) K
theorem s_iastore (X : Stand p l e R s m args below meth c T locs cells slots) (hx : p.tables.exec = Jvm.exec) (hZ : Z.Warmed39 s.vm) (eT : T.heap = h) {j : Int32} {x : Int32} (A : AI Z h a .int xs) (N : Fr n0 locs) (hg : n0 ≤ a) (hj : ¬ j < 0) {i : Nat} (hji : j.toNatClampNeg = i) (hi : i < xs.length) (hs : xs.set i x = ys) (hd : decode c.code pc = .ok (.iastore, 1)) (hq : pc + 1 = q)
    (k : ∀ (T' : State) (h' : Heap) (locs' : List Loc), Stand p l e R s m args below meth c T' locs' cells slots → Fr n0 locs' → T'.heap = h' → Wr h h' a i (.int x) → AI Z h' a .int ys → Go p e below G T' m q L S) : Go p e below G T m pc L (.int x :: .int j :: .ref a :: S) := by
  subst hq hs hji; have A0 := A; obtain ⟨cl, Ar, ex, -⟩ := A
  obtain ⟨T', h', X', e', W, st⟩ := Jvm.RoadKit.stI X hx hZ eT Ar (j := j) (own_in ex hj hi) (g := mkF m pc L (.int x :: .int j :: .ref a :: S)) rfl rfl hd
  exact Go.st st (k T' h' _ X' (Fr.snoc X' N hg) e' W (A0.same W))
theorem s_castore (X : Stand p l e R s m args below meth c T locs cells slots) (hx : p.tables.exec = Jvm.exec) (hZ : Z.Warmed39 s.vm) (eT : T.heap = h) {j : Int32} {x : Int32} (A : AI Z h a .char xs) (N : Fr n0 locs) (hg : n0 ≤ a) (hj : ¬ j < 0) {i : Nat} (hji : j.toNatClampNeg = i) (hi : i < xs.length) (hs : xs.set i (nar .char x) = ys) (hd : decode c.code pc = .ok (.castore, 1)) (hq : pc + 1 = q)
    (k : ∀ (T' : State) (h' : Heap) (locs' : List Loc), Stand p l e R s m args below meth c T' locs' cells slots → Fr n0 locs' → T'.heap = h' → Wr h h' a i (.int (nar .char x)) → AI Z h' a .char ys → Go p e below G T' m q L S) : Go p e below G T m pc L (.int x :: .int j :: .ref a :: S) := by
  subst hq hs hji; have A0 := A; obtain ⟨cl, Ar, ex, -⟩ := A
  obtain ⟨T', h', X', e', W, st⟩ := stC X hx hZ eT Ar (j := j) (own_in ex hj hi) (g := mkF m pc L (.int x :: .int j :: .ref a :: S)) rfl rfl hd
  exact Go.st st (k T' h' _ X' (Fr.snoc X' N hg) e' W (A0.same W))
theorem s_bastore (X : Stand p l e R s m args below meth c T locs cells slots) (hx : p.tables.exec = Jvm.exec) (hZ : Z.Warmed39 s.vm) (eT : T.heap = h) {j : Int32} {x : Int32} (A : AI Z h a .byte xs) (N : Fr n0 locs) (hg : n0 ≤ a) (hj : ¬ j < 0) {i : Nat} (hji : j.toNatClampNeg = i) (hi : i < xs.length) (hs : xs.set i (nar .byte x) = ys) (hd : decode c.code pc = .ok (.bastore, 1)) (hq : pc + 1 = q)
    (k : ∀ (T' : State) (h' : Heap) (locs' : List Loc), Stand p l e R s m args below meth c T' locs' cells slots → Fr n0 locs' → T'.heap = h' → Wr h h' a i (.int (nar .byte x)) → AI Z h' a .byte ys → Go p e below G T' m q L S) : Go p e below G T m pc L (.int x :: .int j :: .ref a :: S) := by
  subst hq hs hji; have A0 := A; obtain ⟨cl, Ar, ex, -⟩ := A
  obtain ⟨T', h', X', e', W, st⟩ := stB X hx hZ eT Ar (j := j) (own_in ex hj hi) (g := mkF m pc L (.int x :: .int j :: .ref a :: S)) rfl rfl hd
  exact Go.st st (k T' h' _ X' (Fr.snoc X' N hg) e' W (A0.same W))
theorem s_lastore (X : Stand p l e R s m args below meth c T locs cells slots) (hx : p.tables.exec = Jvm.exec) (hZ : Z.Warmed39 s.vm) (eT : T.heap = h) {j : Int32} {x : Int64} (A : AJ Z h a us) (N : Fr n0 locs) (hg : n0 ≤ a) (hj : ¬ j < 0) {i : Nat} (hji : j.toNatClampNeg = i) (hi : i < us.length) (hs : us.set i x = vs) (hd : decode c.code pc = .ok (.lastore, 1)) (hq : pc + 1 = q)
    (k : ∀ (T' : State) (h' : Heap) (locs' : List Loc), Stand p l e R s m args below meth c T' locs' cells slots → Fr n0 locs' → T'.heap = h' → Wr h h' a i (.long x) → AJ Z h' a vs → Go p e below G T' m q L S) : Go p e below G T m pc L (.long x :: .int j :: .ref a :: S) := by
  subst hq hs hji; have A0 := A; obtain ⟨cl, Ar, ex, -⟩ := A
  obtain ⟨T', h', X', e', W, st⟩ := Jvm.RoadKit.stJ X hx hZ eT Ar (j := j) (own_in ex hj hi) (g := mkF m pc L (.long x :: .int j :: .ref a :: S)) rfl rfl hd
  exact Go.st st (k T' h' _ X' (Fr.snoc X' N hg) e' W (A0.same W))
theorem s_newI (X : Stand p l e R s m args below meth c T locs cells slots) (hx : p.tables.exec = Jvm.exec) (hZ : Z.Warmed39 s.vm) (w : (Jvm.Cond.arrayClass .int).before a0 Z = true) (eT : T.heap = h) {z : Int32} (hz : ¬ z < 0) {cap : Nat} (hcap : z.toNatClampNeg ≤ cap) (hb8 : cap * 8 ≤ 536870912) (hc : cells + 1 ≤ R.cells) (hl : slots + cap ≤ R.slots) (hs : List.replicate z.toNatClampNeg 0 = ys) (hd : decode c.code pc = .ok (.newarray .int, 2)) (hq : pc + 2 = q)
    (k : ∀ (T' : State) (h' : Heap) (a : Addr), Stand p l e R s m args below meth c T' locs (cells + 1) (slots + cap) → T'.heap = h' → Ext h h' → a = h.size → AI Z h' a .int ys → Go p e below G T' m q L (.ref a :: S)) : Go p e below G T m pc L (.int z :: S) := by
  subst hq hs
  obtain ⟨T', h', cA, X', e', E, A, st⟩ := newP X hx hZ (aty := .int) w eT (g := mkF m pc L (.int z :: S)) rfl hd rfl hz (cap := cap) hcap hb8 hc hl
  refine Go.st st (k T' h' _ X' e' E rfl ⟨_, A, ?_, ?_⟩)
  · simp [newA, defaultValue, newarray.typeOf]
  · rw [List.length_replicate]; have := z.toInt_lt; simp only [Int32.toNatClampNeg]; omega
theorem s_newC (X : Stand p l e R s m args below meth c T locs cells slots) (hx : p.tables.exec = Jvm.exec) (hZ : Z.Warmed39 s.vm) (w : (Jvm.Cond.arrayClass .char).before a0 Z = true) (eT : T.heap = h) {z : Int32} (hz : ¬ z < 0) {cap : Nat} (hcap : z.toNatClampNeg ≤ cap) (hb8 : cap * 8 ≤ 536870912) (hc : cells + 1 ≤ R.cells) (hl : slots + cap ≤ R.slots) (hs : List.replicate z.toNatClampNeg 0 = ys) (hd : decode c.code pc = .ok (.newarray .char, 2)) (hq : pc + 2 = q)
    (k : ∀ (T' : State) (h' : Heap) (a : Addr), Stand p l e R s m args below meth c T' locs (cells + 1) (slots + cap) → T'.heap = h' → Ext h h' → a = h.size → AI Z h' a .char ys → Go p e below G T' m q L (.ref a :: S)) : Go p e below G T m pc L (.int z :: S) := by
  subst hq hs
  obtain ⟨T', h', cA, X', e', E, A, st⟩ := newP X hx hZ (aty := .char) w eT (g := mkF m pc L (.int z :: S)) rfl hd rfl hz (cap := cap) hcap hb8 hc hl
  refine Go.st st (k T' h' _ X' e' E rfl ⟨_, A, ?_, ?_⟩)
  · simp [newA, defaultValue, newarray.typeOf]
  · rw [List.length_replicate]; have := z.toInt_lt; simp only [Int32.toNatClampNeg]; omega
theorem s_newB (X : Stand p l e R s m args below meth c T locs cells slots) (hx : p.tables.exec = Jvm.exec) (hZ : Z.Warmed39 s.vm) (w : (Jvm.Cond.arrayClass .byte).before a0 Z = true) (eT : T.heap = h) {z : Int32} (hz : ¬ z < 0) {cap : Nat} (hcap : z.toNatClampNeg ≤ cap) (hb8 : cap * 8 ≤ 536870912) (hc : cells + 1 ≤ R.cells) (hl : slots + cap ≤ R.slots) (hs : List.replicate z.toNatClampNeg 0 = ys) (hd : decode c.code pc = .ok (.newarray .byte, 2)) (hq : pc + 2 = q)
    (k : ∀ (T' : State) (h' : Heap) (a : Addr), Stand p l e R s m args below meth c T' locs (cells + 1) (slots + cap) → T'.heap = h' → Ext h h' → a = h.size → AI Z h' a .byte ys → Go p e below G T' m q L (.ref a :: S)) : Go p e below G T m pc L (.int z :: S) := by
  subst hq hs
  obtain ⟨T', h', cA, X', e', E, A, st⟩ := newP X hx hZ (aty := .byte) w eT (g := mkF m pc L (.int z :: S)) rfl hd rfl hz (cap := cap) hcap hb8 hc hl
  refine Go.st st (k T' h' _ X' e' E rfl ⟨_, A, ?_, ?_⟩)
  · simp [newA, defaultValue, newarray.typeOf]
  · rw [List.length_replicate]; have := z.toInt_lt; simp only [Int32.toNatClampNeg]; omega
theorem s_newJ (X : Stand p l e R s m args below meth c T locs cells slots) (hx : p.tables.exec = Jvm.exec) (hZ : Z.Warmed39 s.vm) (w : (Jvm.Cond.arrayClass .long).before a0 Z = true) (eT : T.heap = h) {z : Int32} (hz : ¬ z < 0) {cap : Nat} (hcap : z.toNatClampNeg ≤ cap) (hb8 : cap * 8 ≤ 536870912) (hc : cells + 1 ≤ R.cells) (hl : slots + cap ≤ R.slots) (hs : List.replicate z.toNatClampNeg 0 = vs) (hd : decode c.code pc = .ok (.newarray .long, 2)) (hq : pc + 2 = q)
    (k : ∀ (T' : State) (h' : Heap) (a : Addr), Stand p l e R s m args below meth c T' locs (cells + 1) (slots + cap) → T'.heap = h' → Ext h h' → a = h.size → AJ Z h' a vs → Go p e below G T' m q L (.ref a :: S)) : Go p e below G T m pc L (.int z :: S) := by
  subst hq hs
  obtain ⟨T', h', cA, X', e', E, A, st⟩ := newP X hx hZ (aty := .long) w eT (g := mkF m pc L (.int z :: S)) rfl hd rfl hz (cap := cap) hcap hb8 hc hl
  refine Go.st st (k T' h' _ X' e' E rfl ⟨_, A, ?_, ?_⟩)
  · simp [newA, defaultValue, newarray.typeOf]
  · rw [List.length_replicate]; have := z.toInt_lt; simp only [Int32.toNatClampNeg]; omega
theorem s_lenI (X : Stand p l e R s m args below meth c T locs cells slots) (hx : p.tables.exec = Jvm.exec) (hZ : Z.Warmed39 s.vm) (eT : T.heap = h) {z : Int32} (A : AI Z h a ty xs) (hz : xs.length.toInt32 = z) (hd : decode c.code pc = .ok (.arraylength, 1)) (hq : pc + 1 = q) (K : Go p e below G T m q L (.int z :: S)) : Go p e below G T m pc L (.ref a :: S) := by
  subst hq hz; obtain ⟨cl, Ar, ex, -⟩ := A
  rw [← own_size ex] at K
  exact Go.st (fun t k => X.arraylength hx (by rw [eT]; exact Ar.1) (State.isArrayOf_alike hZ.alike Ar.2.1) (g := mkF m pc L (.ref a :: S)) rfl rfl hd t k) K
theorem s_lenJ (X : Stand p l e R s m args below meth c T locs cells slots) (hx : p.tables.exec = Jvm.exec) (hZ : Z.Warmed39 s.vm) (eT : T.heap = h) {z : Int32} (A : AJ Z h a us) (hz : us.length.toInt32 = z) (hd : decode c.code pc = .ok (.arraylength, 1)) (hq : pc + 1 = q) (K : Go p e below G T m q L (.int z :: S)) : Go p e below G T m pc L (.ref a :: S) := by
  subst hq hz; obtain ⟨cl, Ar, ex, -⟩ := A
  rw [← own_size ex] at K
  exact Go.st (fun t k => X.arraylength hx (by rw [eT]; exact Ar.1) (State.isArrayOf_alike hZ.alike Ar.2.1) (g := mkF m pc L (.ref a :: S)) rfl rfl hd t k) K
theorem own_mask_nn (x m : Int32) (h0 : 0 ≤ m.toInt) : ¬ (x &&& m) < 0 := by
  have := c_and x m h0; rw [Int32.lt_iff_toInt_lt]; show ¬ (x &&& m).toInt < 0; omega
theorem own_mask_ix (x m : Int32) {N : Nat} (h0 : 0 ≤ m.toInt) (h : m.toInt < N) : (x &&& m).toNatClampNeg < N := by
  have := c_and x m h0; simp only [Int32.toNatClampNeg]; omega
theorem own_idx {k n : Int32} {N : Nat} (h0 : ¬ k < 0) (h : k < n) (hn : n.toInt = N) : k.toNatClampNeg < N := by
  have e0 : (0 : Int32).toInt = 0 := rfl
  simp only [Int32.lt_iff_toInt_lt, Int32.toNatClampNeg] at *; omega
theorem own_lt {x b : Int32} {k : Int} (hb : b.toInt = k) (h : x.toInt < k) : x < b := by rw [Int32.lt_iff_toInt_lt, hb]; exact h
theorem own_nlt {x b : Int32} {k : Int} (hb : b.toInt = k) (h : k ≤ x.toInt) : ¬ x < b := by rw [Int32.lt_iff_toInt_lt, hb]; omega
theorem own_gt {x b : Int32} {k : Int} (hb : b.toInt = k) (h : k < x.toInt) : b < x := by rw [Int32.lt_iff_toInt_lt, hb]; exact h
theorem own_ngt {x b : Int32} {k : Int} (hb : b.toInt = k) (h : x.toInt ≤ k) : ¬ b < x := by rw [Int32.lt_iff_toInt_lt, hb]; omega
theorem own_eqi {x b : Int32} {k : Int} (hb : b.toInt = k) (h : x.toInt = k) : x = b := Int32.toInt_inj.mp (h.trans hb.symm)
theorem own_nei {x b : Int32} {k : Int} (hb : b.toInt = k) (h : x.toInt ≠ k) : ¬ x = b := fun q => h (by rw [q, hb])
end Kit
theorem d1_0 : decode prog_19_method_9_code 0 = .ok (.iload_n 0, 1) := by decide +kernel
theorem d1_1 : decode prog_19_method_9_code 1 = .ok (.bipush 9, 2) := by decide +kernel
theorem d1_3 : decode prog_19_method_9_code 3 = .ok (.if_icmp .eq 56, 3) := by decide +kernel
theorem d1_6 : decode prog_19_method_9_code 6 = .ok (.iload_n 0, 1) := by decide +kernel
theorem d1_7 : decode prog_19_method_9_code 7 = .ok (.bipush 10, 2) := by decide +kernel
theorem d1_9 : decode prog_19_method_9_code 9 = .ok (.if_icmp .eq 50, 3) := by decide +kernel
theorem d1_12 : decode prog_19_method_9_code 12 = .ok (.iload_n 0, 1) := by decide +kernel
theorem d1_13 : decode prog_19_method_9_code 13 = .ok (.bipush 13, 2) := by decide +kernel
theorem d1_15 : decode prog_19_method_9_code 15 = .ok (.if_icmp .eq 44, 3) := by decide +kernel
theorem d1_18 : decode prog_19_method_9_code 18 = .ok (.iload_n 0, 1) := by decide +kernel
theorem d1_19 : decode prog_19_method_9_code 19 = .ok (.bipush 32, 2) := by decide +kernel
theorem d1_21 : decode prog_19_method_9_code 21 = .ok (.if_icmp .lt 10, 3) := by decide +kernel
theorem d1_24 : decode prog_19_method_9_code 24 = .ok (.iload_n 0, 1) := by decide +kernel
theorem d1_25 : decode prog_19_method_9_code 25 = .ok (.ldc_w 276, 3) := by decide +kernel
theorem d1_28 : decode prog_19_method_9_code 28 = .ok (.if_icmp .le 31, 3) := by decide +kernel
theorem d1_31 : decode prog_19_method_9_code 31 = .ok (.iload_n 0, 1) := by decide +kernel
theorem d1_32 : decode prog_19_method_9_code 32 = .ok (.ldc_w 277, 3) := by decide +kernel
theorem d1_35 : decode prog_19_method_9_code 35 = .ok (.if_icmp .lt 10, 3) := by decide +kernel
theorem d1_38 : decode prog_19_method_9_code 38 = .ok (.iload_n 0, 1) := by decide +kernel
theorem d1_39 : decode prog_19_method_9_code 39 = .ok (.ldc_w 278, 3) := by decide +kernel
theorem d1_42 : decode prog_19_method_9_code 42 = .ok (.if_icmp .le 17, 3) := by decide +kernel
theorem d1_45 : decode prog_19_method_9_code 45 = .ok (.iload_n 0, 1) := by decide +kernel
theorem d1_46 : decode prog_19_method_9_code 46 = .ok (.ldc_w 279, 3) := by decide +kernel
theorem d1_49 : decode prog_19_method_9_code 49 = .ok (.if_icmp .lt 14, 3) := by decide +kernel
theorem d1_52 : decode prog_19_method_9_code 52 = .ok (.iload_n 0, 1) := by decide +kernel
theorem d1_53 : decode prog_19_method_9_code 53 = .ok (.ldc_w 257, 3) := by decide +kernel
theorem d1_56 : decode prog_19_method_9_code 56 = .ok (.if_icmp .gt 7, 3) := by decide +kernel
theorem d1_59 : decode prog_19_method_9_code 59 = .ok (.iconst 1, 1) := by decide +kernel
theorem d1_60 : decode prog_19_method_9_code 60 = .ok (.goto 4, 3) := by decide +kernel
theorem d1_63 : decode prog_19_method_9_code 63 = .ok (.iconst 0, 1) := by decide +kernel
theorem d1_64 : decode prog_19_method_9_code 64 = .ok (.ireturn, 1) := by decide +kernel
theorem pn_1 : plainFor (⟨"com/example/libhedge/libhedge/automaton/ShortestValue", "isXmlChar", "(I)Z"⟩ : MethodName) = true := plainFor_of_name (by first | (simp [plainName, overriddenIn]; done) | decide +kernel)
theorem ef_1 (m : MethodId) (x0 : Int32) : entryFrame m #[(.int x0)] 1 = mkF m 0 #[.val (.int x0)] [] := by first | (simp [entryFrame, mkF, argsToLocals, Value.category]; done) | rfl
def F1 (x0 : Int32) : Int32 := (if x0 = (9 : Int32) then (1 : Int32) else (if x0 = (10 : Int32) then (1 : Int32) else (if x0 = (13 : Int32) then (1 : Int32) else (if x0 < (32 : Int32) then (if x0 < (57344 : Int32) then (if x0 < (65536 : Int32) then (0 : Int32) else (if (1114111 : Int32) < x0 then (0 : Int32) else (1 : Int32))) else (if (65533 : Int32) < x0 then (if x0 < (65536 : Int32) then (0 : Int32) else (if (1114111 : Int32) < x0 then (0 : Int32) else (1 : Int32))) else (1 : Int32))) else (if (55295 : Int32) < x0 then (if x0 < (57344 : Int32) then (if x0 < (65536 : Int32) then (0 : Int32) else (if (1114111 : Int32) < x0 then (0 : Int32) else (1 : Int32))) else (if (65533 : Int32) < x0 then (if x0 < (65536 : Int32) then (0 : Int32) else (if (1114111 : Int32) < x0 then (0 : Int32) else (1 : Int32))) else (1 : Int32))) else (1 : Int32))))))
set_option maxRecDepth 65536 in
set_option maxHeartbeats 40000000 in
theorem rm1 (l : Launch) (Z : State) (a0 : Array Value) (hw : ∀ d ∈ tables_1, d.before a0 Z = true) (ws : List Jvm.Cond) (x0 : Int32)  (h0 : Heap) :
    Ctr l (⟨"com/example/libhedge/libhedge/automaton/ShortestValue", "isXmlChar", "(I)Z"⟩ : MethodName) prog_19_method_9_code 1 (some .boolean) ws ({ frames := 0, cells := 0, slots := 0, locals := 0 } : Room) Z #[(.int x0)] h0 (PQ (.int (F1 x0)) h0) 0 0 := by
  refine Ctr.mk pn_1 ?_
  intro p e s m below meth c T hx hby hml hown hnm hlk hret hZ X eT
  refine enter (ef_1 m x0) ?_
  obtain ⟨res, hres⟩ : ∃ r, r = F1 x0 := ⟨_, rfl⟩
  rw [← hres]
  refine s_iloadN X hx (hb hby d1_0) rfl (q := 1) rfl ?_
  refine s_bipush X hx (z := (9 : Int32)) (hb hby d1_1) rfl (q := 3) rfl ?_
  refine f_icmp_eq X hx (hb hby d1_3) (q1 := 59) (by decide) (by decide) (q := 6) rfl (fun hc3 => ?_) (fun hc3 => ?_)
  · refine s_iconst X hx (z := (1 : Int32)) (hb hby d1_59) rfl (q := 60) rfl ?_
    refine s_goto X hx (hb hby d1_60) (q1 := 64) (by decide) (by decide) ?_
    exact leafN X hx hlk hret (by simp) (hb hby d1_64) (Nat.le_refl _) (Nat.le_refl _) (z' := (1 : Int32)) rfl ⟨congrArg (fun z => some (Value.int z)) (hres.trans (by unfold F1; rw [if_pos hc3])).symm, eT, rfl⟩
  refine s_iloadN X hx (hb hby d1_6) rfl (q := 7) rfl ?_
  refine s_bipush X hx (z := (10 : Int32)) (hb hby d1_7) rfl (q := 9) rfl ?_
  refine f_icmp_eq X hx (hb hby d1_9) (q1 := 59) (by decide) (by decide) (q := 12) rfl (fun hc9 => ?_) (fun hc9 => ?_)
  · refine s_iconst X hx (z := (1 : Int32)) (hb hby d1_59) rfl (q := 60) rfl ?_
    refine s_goto X hx (hb hby d1_60) (q1 := 64) (by decide) (by decide) ?_
    exact leafN X hx hlk hret (by simp) (hb hby d1_64) (Nat.le_refl _) (Nat.le_refl _) (z' := (1 : Int32)) rfl ⟨congrArg (fun z => some (Value.int z)) (hres.trans (by unfold F1; rw [if_neg hc3, if_pos hc9])).symm, eT, rfl⟩
  refine s_iloadN X hx (hb hby d1_12) rfl (q := 13) rfl ?_
  refine s_bipush X hx (z := (13 : Int32)) (hb hby d1_13) rfl (q := 15) rfl ?_
  refine f_icmp_eq X hx (hb hby d1_15) (q1 := 59) (by decide) (by decide) (q := 18) rfl (fun hc15 => ?_) (fun hc15 => ?_)
  · refine s_iconst X hx (z := (1 : Int32)) (hb hby d1_59) rfl (q := 60) rfl ?_
    refine s_goto X hx (hb hby d1_60) (q1 := 64) (by decide) (by decide) ?_
    exact leafN X hx hlk hret (by simp) (hb hby d1_64) (Nat.le_refl _) (Nat.le_refl _) (z' := (1 : Int32)) rfl ⟨congrArg (fun z => some (Value.int z)) (hres.trans (by unfold F1; rw [if_neg hc3, if_neg hc9, if_pos hc15])).symm, eT, rfl⟩
  refine s_iloadN X hx (hb hby d1_18) rfl (q := 19) rfl ?_
  refine s_bipush X hx (z := (32 : Int32)) (hb hby d1_19) rfl (q := 21) rfl ?_
  refine f_icmp_lt X hx (hb hby d1_21) (q1 := 31) (by decide) (by decide) (q := 24) rfl (fun hc21 => ?_) (fun hc21 => ?_)
  · refine s_iloadN X hx (hb hby d1_31) rfl (q := 32) rfl ?_
    refine s_ldcw X hx hZ hown (hw _ (List.mem_of_getElem? (i := 23) rfl)) (hb hby d1_32) (q := 35) rfl ?_
    refine f_icmp_lt X hx (hb hby d1_35) (q1 := 45) (by decide) (by decide) (q := 38) rfl (fun hc35 => ?_) (fun hc35 => ?_)
    · refine s_iloadN X hx (hb hby d1_45) rfl (q := 46) rfl ?_
      refine s_ldcw X hx hZ hown (hw _ (List.mem_of_getElem? (i := 24) rfl)) (hb hby d1_46) (q := 49) rfl ?_
      refine f_icmp_lt X hx (hb hby d1_49) (q1 := 63) (by decide) (by decide) (q := 52) rfl (fun hc49 => ?_) (fun hc49 => ?_)
      · refine s_iconst X hx (z := (0 : Int32)) (hb hby d1_63) rfl (q := 64) rfl ?_
        exact leafN X hx hlk hret (by simp) (hb hby d1_64) (Nat.le_refl _) (Nat.le_refl _) (z' := (0 : Int32)) rfl ⟨congrArg (fun z => some (Value.int z)) (hres.trans (by unfold F1; rw [if_neg hc3, if_neg hc9, if_neg hc15, if_pos hc21, if_pos hc35, if_pos hc49])).symm, eT, rfl⟩
      refine s_iloadN X hx (hb hby d1_52) rfl (q := 53) rfl ?_
      refine s_ldcw X hx hZ hown (hw _ (List.mem_of_getElem? (i := 31) rfl)) (hb hby d1_53) (q := 56) rfl ?_
      refine f_icmp_gt X hx (hb hby d1_56) (q1 := 63) (by decide) (by decide) (q := 59) rfl (fun hc56 => ?_) (fun hc56 => ?_)
      · refine s_iconst X hx (z := (0 : Int32)) (hb hby d1_63) rfl (q := 64) rfl ?_
        exact leafN X hx hlk hret (by simp) (hb hby d1_64) (Nat.le_refl _) (Nat.le_refl _) (z' := (0 : Int32)) rfl ⟨congrArg (fun z => some (Value.int z)) (hres.trans (by unfold F1; rw [if_neg hc3, if_neg hc9, if_neg hc15, if_pos hc21, if_pos hc35, if_neg hc49, if_pos hc56])).symm, eT, rfl⟩
      refine s_iconst X hx (z := (1 : Int32)) (hb hby d1_59) rfl (q := 60) rfl ?_
      refine s_goto X hx (hb hby d1_60) (q1 := 64) (by decide) (by decide) ?_
      exact leafN X hx hlk hret (by simp) (hb hby d1_64) (Nat.le_refl _) (Nat.le_refl _) (z' := (1 : Int32)) rfl ⟨congrArg (fun z => some (Value.int z)) (hres.trans (by unfold F1; rw [if_neg hc3, if_neg hc9, if_neg hc15, if_pos hc21, if_pos hc35, if_neg hc49, if_neg hc56])).symm, eT, rfl⟩
    refine s_iloadN X hx (hb hby d1_38) rfl (q := 39) rfl ?_
    refine s_ldcw X hx hZ hown (hw _ (List.mem_of_getElem? (i := 30) rfl)) (hb hby d1_39) (q := 42) rfl ?_
    refine f_icmp_le X hx (hb hby d1_42) (q1 := 59) (by decide) (by decide) (q := 45) rfl (fun hc42 => ?_) (fun hc42 => ?_)
    · refine s_iconst X hx (z := (1 : Int32)) (hb hby d1_59) rfl (q := 60) rfl ?_
      refine s_goto X hx (hb hby d1_60) (q1 := 64) (by decide) (by decide) ?_
      exact leafN X hx hlk hret (by simp) (hb hby d1_64) (Nat.le_refl _) (Nat.le_refl _) (z' := (1 : Int32)) rfl ⟨congrArg (fun z => some (Value.int z)) (hres.trans (by unfold F1; rw [if_neg hc3, if_neg hc9, if_neg hc15, if_pos hc21, if_neg hc35, if_neg hc42])).symm, eT, rfl⟩
    refine s_iloadN X hx (hb hby d1_45) rfl (q := 46) rfl ?_
    refine s_ldcw X hx hZ hown (hw _ (List.mem_of_getElem? (i := 24) rfl)) (hb hby d1_46) (q := 49) rfl ?_
    refine f_icmp_lt X hx (hb hby d1_49) (q1 := 63) (by decide) (by decide) (q := 52) rfl (fun hc49 => ?_) (fun hc49 => ?_)
    · refine s_iconst X hx (z := (0 : Int32)) (hb hby d1_63) rfl (q := 64) rfl ?_
      exact leafN X hx hlk hret (by simp) (hb hby d1_64) (Nat.le_refl _) (Nat.le_refl _) (z' := (0 : Int32)) rfl ⟨congrArg (fun z => some (Value.int z)) (hres.trans (by unfold F1; rw [if_neg hc3, if_neg hc9, if_neg hc15, if_pos hc21, if_neg hc35, if_pos hc42, if_pos hc49])).symm, eT, rfl⟩
    refine s_iloadN X hx (hb hby d1_52) rfl (q := 53) rfl ?_
    refine s_ldcw X hx hZ hown (hw _ (List.mem_of_getElem? (i := 31) rfl)) (hb hby d1_53) (q := 56) rfl ?_
    refine f_icmp_gt X hx (hb hby d1_56) (q1 := 63) (by decide) (by decide) (q := 59) rfl (fun hc56 => ?_) (fun hc56 => ?_)
    · refine s_iconst X hx (z := (0 : Int32)) (hb hby d1_63) rfl (q := 64) rfl ?_
      exact leafN X hx hlk hret (by simp) (hb hby d1_64) (Nat.le_refl _) (Nat.le_refl _) (z' := (0 : Int32)) rfl ⟨congrArg (fun z => some (Value.int z)) (hres.trans (by unfold F1; rw [if_neg hc3, if_neg hc9, if_neg hc15, if_pos hc21, if_neg hc35, if_pos hc42, if_neg hc49, if_pos hc56])).symm, eT, rfl⟩
    refine s_iconst X hx (z := (1 : Int32)) (hb hby d1_59) rfl (q := 60) rfl ?_
    refine s_goto X hx (hb hby d1_60) (q1 := 64) (by decide) (by decide) ?_
    exact leafN X hx hlk hret (by simp) (hb hby d1_64) (Nat.le_refl _) (Nat.le_refl _) (z' := (1 : Int32)) rfl ⟨congrArg (fun z => some (Value.int z)) (hres.trans (by unfold F1; rw [if_neg hc3, if_neg hc9, if_neg hc15, if_pos hc21, if_neg hc35, if_pos hc42, if_neg hc49, if_neg hc56])).symm, eT, rfl⟩
  refine s_iloadN X hx (hb hby d1_24) rfl (q := 25) rfl ?_
  refine s_ldcw X hx hZ hown (hw _ (List.mem_of_getElem? (i := 29) rfl)) (hb hby d1_25) (q := 28) rfl ?_
  refine f_icmp_le X hx (hb hby d1_28) (q1 := 59) (by decide) (by decide) (q := 31) rfl (fun hc28 => ?_) (fun hc28 => ?_)
  · refine s_iconst X hx (z := (1 : Int32)) (hb hby d1_59) rfl (q := 60) rfl ?_
    refine s_goto X hx (hb hby d1_60) (q1 := 64) (by decide) (by decide) ?_
    exact leafN X hx hlk hret (by simp) (hb hby d1_64) (Nat.le_refl _) (Nat.le_refl _) (z' := (1 : Int32)) rfl ⟨congrArg (fun z => some (Value.int z)) (hres.trans (by unfold F1; rw [if_neg hc3, if_neg hc9, if_neg hc15, if_neg hc21, if_neg hc28])).symm, eT, rfl⟩
  refine s_iloadN X hx (hb hby d1_31) rfl (q := 32) rfl ?_
  refine s_ldcw X hx hZ hown (hw _ (List.mem_of_getElem? (i := 23) rfl)) (hb hby d1_32) (q := 35) rfl ?_
  refine f_icmp_lt X hx (hb hby d1_35) (q1 := 45) (by decide) (by decide) (q := 38) rfl (fun hc35 => ?_) (fun hc35 => ?_)
  · refine s_iloadN X hx (hb hby d1_45) rfl (q := 46) rfl ?_
    refine s_ldcw X hx hZ hown (hw _ (List.mem_of_getElem? (i := 24) rfl)) (hb hby d1_46) (q := 49) rfl ?_
    refine f_icmp_lt X hx (hb hby d1_49) (q1 := 63) (by decide) (by decide) (q := 52) rfl (fun hc49 => ?_) (fun hc49 => ?_)
    · refine s_iconst X hx (z := (0 : Int32)) (hb hby d1_63) rfl (q := 64) rfl ?_
      exact leafN X hx hlk hret (by simp) (hb hby d1_64) (Nat.le_refl _) (Nat.le_refl _) (z' := (0 : Int32)) rfl ⟨congrArg (fun z => some (Value.int z)) (hres.trans (by unfold F1; rw [if_neg hc3, if_neg hc9, if_neg hc15, if_neg hc21, if_pos hc28, if_pos hc35, if_pos hc49])).symm, eT, rfl⟩
    refine s_iloadN X hx (hb hby d1_52) rfl (q := 53) rfl ?_
    refine s_ldcw X hx hZ hown (hw _ (List.mem_of_getElem? (i := 31) rfl)) (hb hby d1_53) (q := 56) rfl ?_
    refine f_icmp_gt X hx (hb hby d1_56) (q1 := 63) (by decide) (by decide) (q := 59) rfl (fun hc56 => ?_) (fun hc56 => ?_)
    · refine s_iconst X hx (z := (0 : Int32)) (hb hby d1_63) rfl (q := 64) rfl ?_
      exact leafN X hx hlk hret (by simp) (hb hby d1_64) (Nat.le_refl _) (Nat.le_refl _) (z' := (0 : Int32)) rfl ⟨congrArg (fun z => some (Value.int z)) (hres.trans (by unfold F1; rw [if_neg hc3, if_neg hc9, if_neg hc15, if_neg hc21, if_pos hc28, if_pos hc35, if_neg hc49, if_pos hc56])).symm, eT, rfl⟩
    refine s_iconst X hx (z := (1 : Int32)) (hb hby d1_59) rfl (q := 60) rfl ?_
    refine s_goto X hx (hb hby d1_60) (q1 := 64) (by decide) (by decide) ?_
    exact leafN X hx hlk hret (by simp) (hb hby d1_64) (Nat.le_refl _) (Nat.le_refl _) (z' := (1 : Int32)) rfl ⟨congrArg (fun z => some (Value.int z)) (hres.trans (by unfold F1; rw [if_neg hc3, if_neg hc9, if_neg hc15, if_neg hc21, if_pos hc28, if_pos hc35, if_neg hc49, if_neg hc56])).symm, eT, rfl⟩
  refine s_iloadN X hx (hb hby d1_38) rfl (q := 39) rfl ?_
  refine s_ldcw X hx hZ hown (hw _ (List.mem_of_getElem? (i := 30) rfl)) (hb hby d1_39) (q := 42) rfl ?_
  refine f_icmp_le X hx (hb hby d1_42) (q1 := 59) (by decide) (by decide) (q := 45) rfl (fun hc42 => ?_) (fun hc42 => ?_)
  · refine s_iconst X hx (z := (1 : Int32)) (hb hby d1_59) rfl (q := 60) rfl ?_
    refine s_goto X hx (hb hby d1_60) (q1 := 64) (by decide) (by decide) ?_
    exact leafN X hx hlk hret (by simp) (hb hby d1_64) (Nat.le_refl _) (Nat.le_refl _) (z' := (1 : Int32)) rfl ⟨congrArg (fun z => some (Value.int z)) (hres.trans (by unfold F1; rw [if_neg hc3, if_neg hc9, if_neg hc15, if_neg hc21, if_pos hc28, if_neg hc35, if_neg hc42])).symm, eT, rfl⟩
  refine s_iloadN X hx (hb hby d1_45) rfl (q := 46) rfl ?_
  refine s_ldcw X hx hZ hown (hw _ (List.mem_of_getElem? (i := 24) rfl)) (hb hby d1_46) (q := 49) rfl ?_
  refine f_icmp_lt X hx (hb hby d1_49) (q1 := 63) (by decide) (by decide) (q := 52) rfl (fun hc49 => ?_) (fun hc49 => ?_)
  · refine s_iconst X hx (z := (0 : Int32)) (hb hby d1_63) rfl (q := 64) rfl ?_
    exact leafN X hx hlk hret (by simp) (hb hby d1_64) (Nat.le_refl _) (Nat.le_refl _) (z' := (0 : Int32)) rfl ⟨congrArg (fun z => some (Value.int z)) (hres.trans (by unfold F1; rw [if_neg hc3, if_neg hc9, if_neg hc15, if_neg hc21, if_pos hc28, if_neg hc35, if_pos hc42, if_pos hc49])).symm, eT, rfl⟩
  refine s_iloadN X hx (hb hby d1_52) rfl (q := 53) rfl ?_
  refine s_ldcw X hx hZ hown (hw _ (List.mem_of_getElem? (i := 31) rfl)) (hb hby d1_53) (q := 56) rfl ?_
  refine f_icmp_gt X hx (hb hby d1_56) (q1 := 63) (by decide) (by decide) (q := 59) rfl (fun hc56 => ?_) (fun hc56 => ?_)
  · refine s_iconst X hx (z := (0 : Int32)) (hb hby d1_63) rfl (q := 64) rfl ?_
    exact leafN X hx hlk hret (by simp) (hb hby d1_64) (Nat.le_refl _) (Nat.le_refl _) (z' := (0 : Int32)) rfl ⟨congrArg (fun z => some (Value.int z)) (hres.trans (by unfold F1; rw [if_neg hc3, if_neg hc9, if_neg hc15, if_neg hc21, if_pos hc28, if_neg hc35, if_pos hc42, if_neg hc49, if_pos hc56])).symm, eT, rfl⟩
  refine s_iconst X hx (z := (1 : Int32)) (hb hby d1_59) rfl (q := 60) rfl ?_
  refine s_goto X hx (hb hby d1_60) (q1 := 64) (by decide) (by decide) ?_
  exact leafN X hx hlk hret (by simp) (hb hby d1_64) (Nat.le_refl _) (Nat.le_refl _) (z' := (1 : Int32)) rfl ⟨congrArg (fun z => some (Value.int z)) (hres.trans (by unfold F1; rw [if_neg hc3, if_neg hc9, if_neg hc15, if_neg hc21, if_pos hc28, if_neg hc35, if_pos hc42, if_neg hc49, if_neg hc56])).symm, eT, rfl⟩
theorem d2_0 : decode method_2_code 0 = .ok (.iload_n 0, 1) := by decide +kernel
theorem d2_1 : decode method_2_code 1 = .ok (.ifCond .lt 13, 3) := by decide +kernel
theorem d2_4 : decode method_2_code 4 = .ok (.iload_n 0, 1) := by decide +kernel
theorem d2_5 : decode method_2_code 5 = .ok (.ldc 7, 2) := by decide +kernel
theorem d2_7 : decode method_2_code 7 = .ok (.if_icmp .gt 7, 3) := by decide +kernel
theorem d2_10 : decode method_2_code 10 = .ok (.iconst 1, 1) := by decide +kernel
theorem d2_11 : decode method_2_code 11 = .ok (.goto 4, 3) := by decide +kernel
theorem d2_14 : decode method_2_code 14 = .ok (.iconst 0, 1) := by decide +kernel
theorem d2_15 : decode method_2_code 15 = .ok (.istore_n 1, 1) := by decide +kernel
theorem d2_16 : decode method_2_code 16 = .ok (.iload_n 0, 1) := by decide +kernel
theorem d2_17 : decode method_2_code 17 = .ok (.bipush 32, 2) := by decide +kernel
theorem d2_19 : decode method_2_code 19 = .ok (.if_icmp .ge 25, 3) := by decide +kernel
theorem d2_22 : decode method_2_code 22 = .ok (.iload_n 0, 1) := by decide +kernel
theorem d2_23 : decode method_2_code 23 = .ok (.bipush 9, 2) := by decide +kernel
theorem d2_25 : decode method_2_code 25 = .ok (.if_icmp .eq 19, 3) := by decide +kernel
theorem d2_28 : decode method_2_code 28 = .ok (.iload_n 0, 1) := by decide +kernel
theorem d2_29 : decode method_2_code 29 = .ok (.bipush 10, 2) := by decide +kernel
theorem d2_31 : decode method_2_code 31 = .ok (.if_icmp .eq 13, 3) := by decide +kernel
theorem d2_34 : decode method_2_code 34 = .ok (.iload_n 0, 1) := by decide +kernel
theorem d2_35 : decode method_2_code 35 = .ok (.bipush 13, 2) := by decide +kernel
theorem d2_37 : decode method_2_code 37 = .ok (.if_icmp .eq 7, 3) := by decide +kernel
theorem d2_40 : decode method_2_code 40 = .ok (.iconst 1, 1) := by decide +kernel
theorem d2_41 : decode method_2_code 41 = .ok (.goto 4, 3) := by decide +kernel
theorem d2_44 : decode method_2_code 44 = .ok (.iconst 0, 1) := by decide +kernel
theorem d2_45 : decode method_2_code 45 = .ok (.istore_n 2, 1) := by decide +kernel
theorem d2_46 : decode method_2_code 46 = .ok (.iload_n 0, 1) := by decide +kernel
theorem d2_47 : decode method_2_code 47 = .ok (.ldc 8, 2) := by decide +kernel
theorem d2_49 : decode method_2_code 49 = .ok (.if_icmp .lt 13, 3) := by decide +kernel
theorem d2_52 : decode method_2_code 52 = .ok (.iload_n 0, 1) := by decide +kernel
theorem d2_53 : decode method_2_code 53 = .ok (.ldc 9, 2) := by decide +kernel
theorem d2_55 : decode method_2_code 55 = .ok (.if_icmp .gt 7, 3) := by decide +kernel
theorem d2_58 : decode method_2_code 58 = .ok (.iconst 1, 1) := by decide +kernel
theorem d2_59 : decode method_2_code 59 = .ok (.goto 4, 3) := by decide +kernel
theorem d2_62 : decode method_2_code 62 = .ok (.iconst 0, 1) := by decide +kernel
theorem d2_63 : decode method_2_code 63 = .ok (.istore_n 3, 1) := by decide +kernel
theorem d2_64 : decode method_2_code 64 = .ok (.iload_n 0, 1) := by decide +kernel
theorem d2_65 : decode method_2_code 65 = .ok (.ldc 10, 2) := by decide +kernel
theorem d2_67 : decode method_2_code 67 = .ok (.if_icmp .eq 9, 3) := by decide +kernel
theorem d2_70 : decode method_2_code 70 = .ok (.iload_n 0, 1) := by decide +kernel
theorem d2_71 : decode method_2_code 71 = .ok (.ldc 11, 2) := by decide +kernel
theorem d2_73 : decode method_2_code 73 = .ok (.if_icmp .ne 7, 3) := by decide +kernel
theorem d2_76 : decode method_2_code 76 = .ok (.iconst 1, 1) := by decide +kernel
theorem d2_77 : decode method_2_code 77 = .ok (.goto 4, 3) := by decide +kernel
theorem d2_80 : decode method_2_code 80 = .ok (.iconst 0, 1) := by decide +kernel
theorem d2_81 : decode method_2_code 81 = .ok (.istore 4, 2) := by decide +kernel
theorem d2_83 : decode method_2_code 83 = .ok (.iload_n 1, 1) := by decide +kernel
theorem d2_84 : decode method_2_code 84 = .ok (.ifCond .eq 20, 3) := by decide +kernel
theorem d2_87 : decode method_2_code 87 = .ok (.iload_n 2, 1) := by decide +kernel
theorem d2_88 : decode method_2_code 88 = .ok (.ifCond .ne 16, 3) := by decide +kernel
theorem d2_91 : decode method_2_code 91 = .ok (.iload_n 3, 1) := by decide +kernel
theorem d2_92 : decode method_2_code 92 = .ok (.ifCond .ne 12, 3) := by decide +kernel
theorem d2_95 : decode method_2_code 95 = .ok (.iload 4, 2) := by decide +kernel
theorem d2_97 : decode method_2_code 97 = .ok (.ifCond .ne 7, 3) := by decide +kernel
theorem d2_100 : decode method_2_code 100 = .ok (.iconst 1, 1) := by decide +kernel
theorem d2_101 : decode method_2_code 101 = .ok (.goto 4, 3) := by decide +kernel
theorem d2_104 : decode method_2_code 104 = .ok (.iconst 0, 1) := by decide +kernel
theorem d2_105 : decode method_2_code 105 = .ok (.ireturn, 1) := by decide +kernel
theorem pn_2 : plainFor (⟨"com/example/libhedge/libhedge/automaton/ShortestValueIsXmlCharPinLaw", "reference", "(I)Z"⟩ : MethodName) = true := plainFor_of_name (by first | (simp [plainName, overriddenIn]; done) | decide +kernel)
theorem ef_2 (m : MethodId) (x0 : Int32) : entryFrame m #[(.int x0)] 5 = mkF m 0 #[.val (.int x0), .unset, .unset, .unset, .unset] [] := by first | (simp [entryFrame, mkF, argsToLocals, Value.category]; done) | rfl
def F2 (x0 : Int32) : Int32 := (if (if x0 < 0 then (0 : Int32) else (if (1114111 : Int32) < x0 then (0 : Int32) else (1 : Int32))) = 0 then (0 : Int32) else (if (if x0 < (32 : Int32) then (if x0 = (9 : Int32) then (0 : Int32) else (if x0 = (10 : Int32) then (0 : Int32) else (if x0 = (13 : Int32) then (0 : Int32) else (1 : Int32)))) else (0 : Int32)) = 0 then (if (if x0 < (55296 : Int32) then (0 : Int32) else (if (57343 : Int32) < x0 then (0 : Int32) else (1 : Int32))) = 0 then (if (if x0 = (65534 : Int32) then (1 : Int32) else (if x0 = (65535 : Int32) then (1 : Int32) else (0 : Int32))) = 0 then (1 : Int32) else (0 : Int32)) else (0 : Int32)) else (0 : Int32)))
set_option maxRecDepth 65536 in
set_option maxHeartbeats 40000000 in
theorem rm2 (l : Launch) (Z : State) (a0 : Array Value) (hw : ∀ d ∈ tables_1, d.before a0 Z = true) (ws : List Jvm.Cond) (x0 : Int32)  (h0 : Heap) :
    Ctr l (⟨"com/example/libhedge/libhedge/automaton/ShortestValueIsXmlCharPinLaw", "reference", "(I)Z"⟩ : MethodName) method_2_code 5 (some .boolean) ws ({ frames := 0, cells := 0, slots := 0, locals := 0 } : Room) Z #[(.int x0)] h0 (PQ (.int (F2 x0)) h0) 0 0 := by
  refine Ctr.mk pn_2 ?_
  intro p e s m below meth c T hx hby hml hown hnm hlk hret hZ X eT
  refine enter (ef_2 m x0) ?_
  obtain ⟨res, hres⟩ : ∃ r, r = F2 x0 := ⟨_, rfl⟩
  rw [← hres]
  refine s_iloadN X hx (hb hby d2_0) rfl (q := 1) rfl ?_
  refine jn (T2 := T) (pc2 := 15) (L2 := #[.val (.int x0), .unset, .unset, .unset, .unset]) (S2 := [(.int (if x0 < 0 then (0 : Int32) else (if (1114111 : Int32) < x0 then (0 : Int32) else (1 : Int32))))]) (fun key1 => ?_) ?_
  · refine f_if_lt X hx (hb hby d2_1) (q1 := 14) (by decide) (by decide) (q := 4) rfl (fun hc1 => ?_) (fun hc1 => ?_)
    · refine s_iconst X hx (z := (0 : Int32)) (hb hby d2_14) rfl (q := 15) rfl ?_
      simpa only [if_pos hc1] using key1
    refine s_iloadN X hx (hb hby d2_4) rfl (q := 5) rfl ?_
    refine s_ldc X hx hZ hown (hw _ (List.mem_of_getElem? (i := 11) rfl)) (hb hby d2_5) (q := 7) rfl ?_
    refine f_icmp_gt X hx (hb hby d2_7) (q1 := 14) (by decide) (by decide) (q := 10) rfl (fun hc7 => ?_) (fun hc7 => ?_)
    · refine s_iconst X hx (z := (0 : Int32)) (hb hby d2_14) rfl (q := 15) rfl ?_
      simpa only [if_neg hc1, if_pos hc7] using key1
    refine s_iconst X hx (z := (1 : Int32)) (hb hby d2_10) rfl (q := 11) rfl ?_
    refine s_goto X hx (hb hby d2_11) (q1 := 15) (by decide) (by decide) ?_
    simpa only [if_neg hc1, if_neg hc7] using key1
  refine s_istoreN X hx (hb hby d2_15) (L' := #[.val (.int x0), .val (.int (if x0 < 0 then (0 : Int32) else (if (1114111 : Int32) < x0 then (0 : Int32) else (1 : Int32)))), .unset, .unset, .unset]) rfl (q := 16) rfl ?_
  refine s_iloadN X hx (hb hby d2_16) rfl (q := 17) rfl ?_
  refine s_bipush X hx (z := (32 : Int32)) (hb hby d2_17) rfl (q := 19) rfl ?_
  refine jn (T2 := T) (pc2 := 45) (L2 := #[.val (.int x0), .val (.int (if x0 < 0 then (0 : Int32) else (if (1114111 : Int32) < x0 then (0 : Int32) else (1 : Int32)))), .unset, .unset, .unset]) (S2 := [(.int (if x0 < (32 : Int32) then (if x0 = (9 : Int32) then (0 : Int32) else (if x0 = (10 : Int32) then (0 : Int32) else (if x0 = (13 : Int32) then (0 : Int32) else (1 : Int32)))) else (0 : Int32)))]) (fun key19 => ?_) ?_
  · refine f_icmp_ge X hx (hb hby d2_19) (q1 := 44) (by decide) (by decide) (q := 22) rfl (fun hc19 => ?_) (fun hc19 => ?_)
    · refine s_iconst X hx (z := (0 : Int32)) (hb hby d2_44) rfl (q := 45) rfl ?_
      simpa only [if_neg hc19] using key19
    refine s_iloadN X hx (hb hby d2_22) rfl (q := 23) rfl ?_
    refine s_bipush X hx (z := (9 : Int32)) (hb hby d2_23) rfl (q := 25) rfl ?_
    refine f_icmp_eq X hx (hb hby d2_25) (q1 := 44) (by decide) (by decide) (q := 28) rfl (fun hc25 => ?_) (fun hc25 => ?_)
    · refine s_iconst X hx (z := (0 : Int32)) (hb hby d2_44) rfl (q := 45) rfl ?_
      simpa only [if_pos hc19, if_pos hc25] using key19
    refine s_iloadN X hx (hb hby d2_28) rfl (q := 29) rfl ?_
    refine s_bipush X hx (z := (10 : Int32)) (hb hby d2_29) rfl (q := 31) rfl ?_
    refine f_icmp_eq X hx (hb hby d2_31) (q1 := 44) (by decide) (by decide) (q := 34) rfl (fun hc31 => ?_) (fun hc31 => ?_)
    · refine s_iconst X hx (z := (0 : Int32)) (hb hby d2_44) rfl (q := 45) rfl ?_
      simpa only [if_pos hc19, if_neg hc25, if_pos hc31] using key19
    refine s_iloadN X hx (hb hby d2_34) rfl (q := 35) rfl ?_
    refine s_bipush X hx (z := (13 : Int32)) (hb hby d2_35) rfl (q := 37) rfl ?_
    refine f_icmp_eq X hx (hb hby d2_37) (q1 := 44) (by decide) (by decide) (q := 40) rfl (fun hc37 => ?_) (fun hc37 => ?_)
    · refine s_iconst X hx (z := (0 : Int32)) (hb hby d2_44) rfl (q := 45) rfl ?_
      simpa only [if_pos hc19, if_neg hc25, if_neg hc31, if_pos hc37] using key19
    refine s_iconst X hx (z := (1 : Int32)) (hb hby d2_40) rfl (q := 41) rfl ?_
    refine s_goto X hx (hb hby d2_41) (q1 := 45) (by decide) (by decide) ?_
    simpa only [if_pos hc19, if_neg hc25, if_neg hc31, if_neg hc37] using key19
  refine s_istoreN X hx (hb hby d2_45) (L' := #[.val (.int x0), .val (.int (if x0 < 0 then (0 : Int32) else (if (1114111 : Int32) < x0 then (0 : Int32) else (1 : Int32)))), .val (.int (if x0 < (32 : Int32) then (if x0 = (9 : Int32) then (0 : Int32) else (if x0 = (10 : Int32) then (0 : Int32) else (if x0 = (13 : Int32) then (0 : Int32) else (1 : Int32)))) else (0 : Int32))), .unset, .unset]) rfl (q := 46) rfl ?_
  refine s_iloadN X hx (hb hby d2_46) rfl (q := 47) rfl ?_
  refine s_ldc X hx hZ hown (hw _ (List.mem_of_getElem? (i := 2) rfl)) (hb hby d2_47) (q := 49) rfl ?_
  refine jn (T2 := T) (pc2 := 63) (L2 := #[.val (.int x0), .val (.int (if x0 < 0 then (0 : Int32) else (if (1114111 : Int32) < x0 then (0 : Int32) else (1 : Int32)))), .val (.int (if x0 < (32 : Int32) then (if x0 = (9 : Int32) then (0 : Int32) else (if x0 = (10 : Int32) then (0 : Int32) else (if x0 = (13 : Int32) then (0 : Int32) else (1 : Int32)))) else (0 : Int32))), .unset, .unset]) (S2 := [(.int (if x0 < (55296 : Int32) then (0 : Int32) else (if (57343 : Int32) < x0 then (0 : Int32) else (1 : Int32))))]) (fun key49 => ?_) ?_
  · refine f_icmp_lt X hx (hb hby d2_49) (q1 := 62) (by decide) (by decide) (q := 52) rfl (fun hc49 => ?_) (fun hc49 => ?_)
    · refine s_iconst X hx (z := (0 : Int32)) (hb hby d2_62) rfl (q := 63) rfl ?_
      simpa only [if_pos hc49] using key49
    refine s_iloadN X hx (hb hby d2_52) rfl (q := 53) rfl ?_
    refine s_ldc X hx hZ hown (hw _ (List.mem_of_getElem? (i := 5) rfl)) (hb hby d2_53) (q := 55) rfl ?_
    refine f_icmp_gt X hx (hb hby d2_55) (q1 := 62) (by decide) (by decide) (q := 58) rfl (fun hc55 => ?_) (fun hc55 => ?_)
    · refine s_iconst X hx (z := (0 : Int32)) (hb hby d2_62) rfl (q := 63) rfl ?_
      simpa only [if_neg hc49, if_pos hc55] using key49
    refine s_iconst X hx (z := (1 : Int32)) (hb hby d2_58) rfl (q := 59) rfl ?_
    refine s_goto X hx (hb hby d2_59) (q1 := 63) (by decide) (by decide) ?_
    simpa only [if_neg hc49, if_neg hc55] using key49
  refine s_istoreN X hx (hb hby d2_63) (L' := #[.val (.int x0), .val (.int (if x0 < 0 then (0 : Int32) else (if (1114111 : Int32) < x0 then (0 : Int32) else (1 : Int32)))), .val (.int (if x0 < (32 : Int32) then (if x0 = (9 : Int32) then (0 : Int32) else (if x0 = (10 : Int32) then (0 : Int32) else (if x0 = (13 : Int32) then (0 : Int32) else (1 : Int32)))) else (0 : Int32))), .val (.int (if x0 < (55296 : Int32) then (0 : Int32) else (if (57343 : Int32) < x0 then (0 : Int32) else (1 : Int32)))), .unset]) rfl (q := 64) rfl ?_
  refine s_iloadN X hx (hb hby d2_64) rfl (q := 65) rfl ?_
  refine s_ldc X hx hZ hown (hw _ (List.mem_of_getElem? (i := 8) rfl)) (hb hby d2_65) (q := 67) rfl ?_
  refine jn (T2 := T) (pc2 := 81) (L2 := #[.val (.int x0), .val (.int (if x0 < 0 then (0 : Int32) else (if (1114111 : Int32) < x0 then (0 : Int32) else (1 : Int32)))), .val (.int (if x0 < (32 : Int32) then (if x0 = (9 : Int32) then (0 : Int32) else (if x0 = (10 : Int32) then (0 : Int32) else (if x0 = (13 : Int32) then (0 : Int32) else (1 : Int32)))) else (0 : Int32))), .val (.int (if x0 < (55296 : Int32) then (0 : Int32) else (if (57343 : Int32) < x0 then (0 : Int32) else (1 : Int32)))), .unset]) (S2 := [(.int (if x0 = (65534 : Int32) then (1 : Int32) else (if x0 = (65535 : Int32) then (1 : Int32) else (0 : Int32))))]) (fun key67 => ?_) ?_
  · refine f_icmp_eq X hx (hb hby d2_67) (q1 := 76) (by decide) (by decide) (q := 70) rfl (fun hc67 => ?_) (fun hc67 => ?_)
    · refine s_iconst X hx (z := (1 : Int32)) (hb hby d2_76) rfl (q := 77) rfl ?_
      refine s_goto X hx (hb hby d2_77) (q1 := 81) (by decide) (by decide) ?_
      simpa only [if_pos hc67] using key67
    refine s_iloadN X hx (hb hby d2_70) rfl (q := 71) rfl ?_
    refine s_ldc X hx hZ hown (hw _ (List.mem_of_getElem? (i := 9) rfl)) (hb hby d2_71) (q := 73) rfl ?_
    refine f_icmp_ne X hx (hb hby d2_73) (q1 := 80) (by decide) (by decide) (q := 76) rfl (fun hc73 => ?_) (fun hc73 => ?_)
    · refine s_iconst X hx (z := (0 : Int32)) (hb hby d2_80) rfl (q := 81) rfl ?_
      simpa only [if_neg hc67, if_neg hc73] using key67
    refine s_iconst X hx (z := (1 : Int32)) (hb hby d2_76) rfl (q := 77) rfl ?_
    refine s_goto X hx (hb hby d2_77) (q1 := 81) (by decide) (by decide) ?_
    simpa only [if_neg hc67, if_pos hc73] using key67
  refine s_istore X hx (hb hby d2_81) (L' := #[.val (.int x0), .val (.int (if x0 < 0 then (0 : Int32) else (if (1114111 : Int32) < x0 then (0 : Int32) else (1 : Int32)))), .val (.int (if x0 < (32 : Int32) then (if x0 = (9 : Int32) then (0 : Int32) else (if x0 = (10 : Int32) then (0 : Int32) else (if x0 = (13 : Int32) then (0 : Int32) else (1 : Int32)))) else (0 : Int32))), .val (.int (if x0 < (55296 : Int32) then (0 : Int32) else (if (57343 : Int32) < x0 then (0 : Int32) else (1 : Int32)))), .val (.int (if x0 = (65534 : Int32) then (1 : Int32) else (if x0 = (65535 : Int32) then (1 : Int32) else (0 : Int32))))]) rfl (q := 83) rfl ?_
  refine s_iloadN X hx (hb hby d2_83) rfl (q := 84) rfl ?_
  refine f_if_eq X hx (hb hby d2_84) (q1 := 104) (by decide) (by decide) (q := 87) rfl (fun hc84 => ?_) (fun hc84 => ?_)
  · refine s_iconst X hx (z := (0 : Int32)) (hb hby d2_104) rfl (q := 105) rfl ?_
    exact leafN X hx hlk hret (by simp) (hb hby d2_105) (Nat.le_refl _) (Nat.le_refl _) (z' := (0 : Int32)) rfl ⟨congrArg (fun z => some (Value.int z)) (hres.trans (by unfold F2; rw [if_pos hc84])).symm, eT, rfl⟩
  refine s_iloadN X hx (hb hby d2_87) rfl (q := 88) rfl ?_
  refine f_if_ne X hx (hb hby d2_88) (q1 := 104) (by decide) (by decide) (q := 91) rfl (fun hc88 => ?_) (fun hc88 => ?_)
  · refine s_iconst X hx (z := (0 : Int32)) (hb hby d2_104) rfl (q := 105) rfl ?_
    exact leafN X hx hlk hret (by simp) (hb hby d2_105) (Nat.le_refl _) (Nat.le_refl _) (z' := (0 : Int32)) rfl ⟨congrArg (fun z => some (Value.int z)) (hres.trans (by unfold F2; rw [if_neg hc84, if_neg hc88])).symm, eT, rfl⟩
  refine s_iloadN X hx (hb hby d2_91) rfl (q := 92) rfl ?_
  refine f_if_ne X hx (hb hby d2_92) (q1 := 104) (by decide) (by decide) (q := 95) rfl (fun hc92 => ?_) (fun hc92 => ?_)
  · refine s_iconst X hx (z := (0 : Int32)) (hb hby d2_104) rfl (q := 105) rfl ?_
    exact leafN X hx hlk hret (by simp) (hb hby d2_105) (Nat.le_refl _) (Nat.le_refl _) (z' := (0 : Int32)) rfl ⟨congrArg (fun z => some (Value.int z)) (hres.trans (by unfold F2; rw [if_neg hc84, if_pos hc88, if_neg hc92])).symm, eT, rfl⟩
  refine s_iload X hx (hb hby d2_95) rfl (q := 97) rfl ?_
  refine f_if_ne X hx (hb hby d2_97) (q1 := 104) (by decide) (by decide) (q := 100) rfl (fun hc97 => ?_) (fun hc97 => ?_)
  · refine s_iconst X hx (z := (0 : Int32)) (hb hby d2_104) rfl (q := 105) rfl ?_
    exact leafN X hx hlk hret (by simp) (hb hby d2_105) (Nat.le_refl _) (Nat.le_refl _) (z' := (0 : Int32)) rfl ⟨congrArg (fun z => some (Value.int z)) (hres.trans (by unfold F2; rw [if_neg hc84, if_pos hc88, if_pos hc92, if_neg hc97])).symm, eT, rfl⟩
  refine s_iconst X hx (z := (1 : Int32)) (hb hby d2_100) rfl (q := 101) rfl ?_
  refine s_goto X hx (hb hby d2_101) (q1 := 105) (by decide) (by decide) ?_
  exact leafN X hx hlk hret (by simp) (hb hby d2_105) (Nat.le_refl _) (Nat.le_refl _) (z' := (1 : Int32)) rfl ⟨congrArg (fun z => some (Value.int z)) (hres.trans (by unfold F2; rw [if_neg hc84, if_pos hc88, if_pos hc92, if_pos hc97])).symm, eT, rfl⟩
theorem own_eq (x : Int32) : F1 x = F2 x := by
  generalize hz : x.toInt = z
  have hsp : z < 0 ∨ (0 ≤ z ∧ z < 9) ∨ (9 ≤ z ∧ z < 10) ∨ (10 ≤ z ∧ z < 11) ∨ (11 ≤ z ∧ z < 13) ∨ (13 ≤ z ∧ z < 14) ∨ (14 ≤ z ∧ z < 32) ∨ (32 ≤ z ∧ z < 55296) ∨ (55296 ≤ z ∧ z < 57344) ∨ (57344 ≤ z ∧ z < 65534) ∨ (65534 ≤ z ∧ z < 65535) ∨ (65535 ≤ z ∧ z < 65536) ∨ (65536 ≤ z ∧ z < 1114112) ∨ 1114112 ≤ z := by omega
  rcases hsp with h | h | h | h | h | h | h | h | h | h | h | h | h | h
  · have a0 := own_lt (x := x) (b := (0 : Int32)) (k := 0) (by decide) (by omega)
    have a1 := own_nei (x := x) (b := (9 : Int32)) (k := 9) (by decide) (by omega)
    have a2 := own_nei (x := x) (b := (10 : Int32)) (k := 10) (by decide) (by omega)
    have a3 := own_nei (x := x) (b := (13 : Int32)) (k := 13) (by decide) (by omega)
    have a4 := own_lt (x := x) (b := (32 : Int32)) (k := 32) (by decide) (by omega)
    have a5 := own_ngt (x := x) (b := (55295 : Int32)) (k := 55295) (by decide) (by omega)
    have a6 := own_lt (x := x) (b := (55296 : Int32)) (k := 55296) (by decide) (by omega)
    have a7 := own_ngt (x := x) (b := (57343 : Int32)) (k := 57343) (by decide) (by omega)
    have a8 := own_lt (x := x) (b := (57344 : Int32)) (k := 57344) (by decide) (by omega)
    have a9 := own_ngt (x := x) (b := (65533 : Int32)) (k := 65533) (by decide) (by omega)
    have a10 := own_nei (x := x) (b := (65534 : Int32)) (k := 65534) (by decide) (by omega)
    have a11 := own_nei (x := x) (b := (65535 : Int32)) (k := 65535) (by decide) (by omega)
    have a12 := own_lt (x := x) (b := (65536 : Int32)) (k := 65536) (by decide) (by omega)
    have a13 := own_ngt (x := x) (b := (1114111 : Int32)) (k := 1114111) (by decide) (by omega)
    simp only [F1, F2, if_pos a0, if_neg a1, if_neg a2, if_neg a3, if_pos a4, if_neg a5, if_pos a6, if_neg a7, if_pos a8, if_neg a9, if_neg a10, if_neg a11, if_pos a12, if_neg a13]
    try decide
  · have a0 := own_nlt (x := x) (b := (0 : Int32)) (k := 0) (by decide) (by omega)
    have a1 := own_nei (x := x) (b := (9 : Int32)) (k := 9) (by decide) (by omega)
    have a2 := own_nei (x := x) (b := (10 : Int32)) (k := 10) (by decide) (by omega)
    have a3 := own_nei (x := x) (b := (13 : Int32)) (k := 13) (by decide) (by omega)
    have a4 := own_lt (x := x) (b := (32 : Int32)) (k := 32) (by decide) (by omega)
    have a5 := own_ngt (x := x) (b := (55295 : Int32)) (k := 55295) (by decide) (by omega)
    have a6 := own_lt (x := x) (b := (55296 : Int32)) (k := 55296) (by decide) (by omega)
    have a7 := own_ngt (x := x) (b := (57343 : Int32)) (k := 57343) (by decide) (by omega)
    have a8 := own_lt (x := x) (b := (57344 : Int32)) (k := 57344) (by decide) (by omega)
    have a9 := own_ngt (x := x) (b := (65533 : Int32)) (k := 65533) (by decide) (by omega)
    have a10 := own_nei (x := x) (b := (65534 : Int32)) (k := 65534) (by decide) (by omega)
    have a11 := own_nei (x := x) (b := (65535 : Int32)) (k := 65535) (by decide) (by omega)
    have a12 := own_lt (x := x) (b := (65536 : Int32)) (k := 65536) (by decide) (by omega)
    have a13 := own_ngt (x := x) (b := (1114111 : Int32)) (k := 1114111) (by decide) (by omega)
    simp only [F1, F2, if_neg a0, if_neg a1, if_neg a2, if_neg a3, if_pos a4, if_neg a5, if_pos a6, if_neg a7, if_pos a8, if_neg a9, if_neg a10, if_neg a11, if_pos a12, if_neg a13]
    try decide
  · have a0 := own_nlt (x := x) (b := (0 : Int32)) (k := 0) (by decide) (by omega)
    have a1 := own_eqi (x := x) (b := (9 : Int32)) (k := 9) (by decide) (by omega)
    have a2 := own_nei (x := x) (b := (10 : Int32)) (k := 10) (by decide) (by omega)
    have a3 := own_nei (x := x) (b := (13 : Int32)) (k := 13) (by decide) (by omega)
    have a4 := own_lt (x := x) (b := (32 : Int32)) (k := 32) (by decide) (by omega)
    have a5 := own_ngt (x := x) (b := (55295 : Int32)) (k := 55295) (by decide) (by omega)
    have a6 := own_lt (x := x) (b := (55296 : Int32)) (k := 55296) (by decide) (by omega)
    have a7 := own_ngt (x := x) (b := (57343 : Int32)) (k := 57343) (by decide) (by omega)
    have a8 := own_lt (x := x) (b := (57344 : Int32)) (k := 57344) (by decide) (by omega)
    have a9 := own_ngt (x := x) (b := (65533 : Int32)) (k := 65533) (by decide) (by omega)
    have a10 := own_nei (x := x) (b := (65534 : Int32)) (k := 65534) (by decide) (by omega)
    have a11 := own_nei (x := x) (b := (65535 : Int32)) (k := 65535) (by decide) (by omega)
    have a12 := own_lt (x := x) (b := (65536 : Int32)) (k := 65536) (by decide) (by omega)
    have a13 := own_ngt (x := x) (b := (1114111 : Int32)) (k := 1114111) (by decide) (by omega)
    simp only [F1, F2, if_neg a0, if_pos a1, if_neg a2, if_neg a3, if_pos a4, if_neg a5, if_pos a6, if_neg a7, if_pos a8, if_neg a9, if_neg a10, if_neg a11, if_pos a12, if_neg a13]
    try decide
  · have a0 := own_nlt (x := x) (b := (0 : Int32)) (k := 0) (by decide) (by omega)
    have a1 := own_nei (x := x) (b := (9 : Int32)) (k := 9) (by decide) (by omega)
    have a2 := own_eqi (x := x) (b := (10 : Int32)) (k := 10) (by decide) (by omega)
    have a3 := own_nei (x := x) (b := (13 : Int32)) (k := 13) (by decide) (by omega)
    have a4 := own_lt (x := x) (b := (32 : Int32)) (k := 32) (by decide) (by omega)
    have a5 := own_ngt (x := x) (b := (55295 : Int32)) (k := 55295) (by decide) (by omega)
    have a6 := own_lt (x := x) (b := (55296 : Int32)) (k := 55296) (by decide) (by omega)
    have a7 := own_ngt (x := x) (b := (57343 : Int32)) (k := 57343) (by decide) (by omega)
    have a8 := own_lt (x := x) (b := (57344 : Int32)) (k := 57344) (by decide) (by omega)
    have a9 := own_ngt (x := x) (b := (65533 : Int32)) (k := 65533) (by decide) (by omega)
    have a10 := own_nei (x := x) (b := (65534 : Int32)) (k := 65534) (by decide) (by omega)
    have a11 := own_nei (x := x) (b := (65535 : Int32)) (k := 65535) (by decide) (by omega)
    have a12 := own_lt (x := x) (b := (65536 : Int32)) (k := 65536) (by decide) (by omega)
    have a13 := own_ngt (x := x) (b := (1114111 : Int32)) (k := 1114111) (by decide) (by omega)
    simp only [F1, F2, if_neg a0, if_neg a1, if_pos a2, if_neg a3, if_pos a4, if_neg a5, if_pos a6, if_neg a7, if_pos a8, if_neg a9, if_neg a10, if_neg a11, if_pos a12, if_neg a13]
    try decide
  · have a0 := own_nlt (x := x) (b := (0 : Int32)) (k := 0) (by decide) (by omega)
    have a1 := own_nei (x := x) (b := (9 : Int32)) (k := 9) (by decide) (by omega)
    have a2 := own_nei (x := x) (b := (10 : Int32)) (k := 10) (by decide) (by omega)
    have a3 := own_nei (x := x) (b := (13 : Int32)) (k := 13) (by decide) (by omega)
    have a4 := own_lt (x := x) (b := (32 : Int32)) (k := 32) (by decide) (by omega)
    have a5 := own_ngt (x := x) (b := (55295 : Int32)) (k := 55295) (by decide) (by omega)
    have a6 := own_lt (x := x) (b := (55296 : Int32)) (k := 55296) (by decide) (by omega)
    have a7 := own_ngt (x := x) (b := (57343 : Int32)) (k := 57343) (by decide) (by omega)
    have a8 := own_lt (x := x) (b := (57344 : Int32)) (k := 57344) (by decide) (by omega)
    have a9 := own_ngt (x := x) (b := (65533 : Int32)) (k := 65533) (by decide) (by omega)
    have a10 := own_nei (x := x) (b := (65534 : Int32)) (k := 65534) (by decide) (by omega)
    have a11 := own_nei (x := x) (b := (65535 : Int32)) (k := 65535) (by decide) (by omega)
    have a12 := own_lt (x := x) (b := (65536 : Int32)) (k := 65536) (by decide) (by omega)
    have a13 := own_ngt (x := x) (b := (1114111 : Int32)) (k := 1114111) (by decide) (by omega)
    simp only [F1, F2, if_neg a0, if_neg a1, if_neg a2, if_neg a3, if_pos a4, if_neg a5, if_pos a6, if_neg a7, if_pos a8, if_neg a9, if_neg a10, if_neg a11, if_pos a12, if_neg a13]
    try decide
  · have a0 := own_nlt (x := x) (b := (0 : Int32)) (k := 0) (by decide) (by omega)
    have a1 := own_nei (x := x) (b := (9 : Int32)) (k := 9) (by decide) (by omega)
    have a2 := own_nei (x := x) (b := (10 : Int32)) (k := 10) (by decide) (by omega)
    have a3 := own_eqi (x := x) (b := (13 : Int32)) (k := 13) (by decide) (by omega)
    have a4 := own_lt (x := x) (b := (32 : Int32)) (k := 32) (by decide) (by omega)
    have a5 := own_ngt (x := x) (b := (55295 : Int32)) (k := 55295) (by decide) (by omega)
    have a6 := own_lt (x := x) (b := (55296 : Int32)) (k := 55296) (by decide) (by omega)
    have a7 := own_ngt (x := x) (b := (57343 : Int32)) (k := 57343) (by decide) (by omega)
    have a8 := own_lt (x := x) (b := (57344 : Int32)) (k := 57344) (by decide) (by omega)
    have a9 := own_ngt (x := x) (b := (65533 : Int32)) (k := 65533) (by decide) (by omega)
    have a10 := own_nei (x := x) (b := (65534 : Int32)) (k := 65534) (by decide) (by omega)
    have a11 := own_nei (x := x) (b := (65535 : Int32)) (k := 65535) (by decide) (by omega)
    have a12 := own_lt (x := x) (b := (65536 : Int32)) (k := 65536) (by decide) (by omega)
    have a13 := own_ngt (x := x) (b := (1114111 : Int32)) (k := 1114111) (by decide) (by omega)
    simp only [F1, F2, if_neg a0, if_neg a1, if_neg a2, if_pos a3, if_pos a4, if_neg a5, if_pos a6, if_neg a7, if_pos a8, if_neg a9, if_neg a10, if_neg a11, if_pos a12, if_neg a13]
    try decide
  · have a0 := own_nlt (x := x) (b := (0 : Int32)) (k := 0) (by decide) (by omega)
    have a1 := own_nei (x := x) (b := (9 : Int32)) (k := 9) (by decide) (by omega)
    have a2 := own_nei (x := x) (b := (10 : Int32)) (k := 10) (by decide) (by omega)
    have a3 := own_nei (x := x) (b := (13 : Int32)) (k := 13) (by decide) (by omega)
    have a4 := own_lt (x := x) (b := (32 : Int32)) (k := 32) (by decide) (by omega)
    have a5 := own_ngt (x := x) (b := (55295 : Int32)) (k := 55295) (by decide) (by omega)
    have a6 := own_lt (x := x) (b := (55296 : Int32)) (k := 55296) (by decide) (by omega)
    have a7 := own_ngt (x := x) (b := (57343 : Int32)) (k := 57343) (by decide) (by omega)
    have a8 := own_lt (x := x) (b := (57344 : Int32)) (k := 57344) (by decide) (by omega)
    have a9 := own_ngt (x := x) (b := (65533 : Int32)) (k := 65533) (by decide) (by omega)
    have a10 := own_nei (x := x) (b := (65534 : Int32)) (k := 65534) (by decide) (by omega)
    have a11 := own_nei (x := x) (b := (65535 : Int32)) (k := 65535) (by decide) (by omega)
    have a12 := own_lt (x := x) (b := (65536 : Int32)) (k := 65536) (by decide) (by omega)
    have a13 := own_ngt (x := x) (b := (1114111 : Int32)) (k := 1114111) (by decide) (by omega)
    simp only [F1, F2, if_neg a0, if_neg a1, if_neg a2, if_neg a3, if_pos a4, if_neg a5, if_pos a6, if_neg a7, if_pos a8, if_neg a9, if_neg a10, if_neg a11, if_pos a12, if_neg a13]
    try decide
  · have a0 := own_nlt (x := x) (b := (0 : Int32)) (k := 0) (by decide) (by omega)
    have a1 := own_nei (x := x) (b := (9 : Int32)) (k := 9) (by decide) (by omega)
    have a2 := own_nei (x := x) (b := (10 : Int32)) (k := 10) (by decide) (by omega)
    have a3 := own_nei (x := x) (b := (13 : Int32)) (k := 13) (by decide) (by omega)
    have a4 := own_nlt (x := x) (b := (32 : Int32)) (k := 32) (by decide) (by omega)
    have a5 := own_ngt (x := x) (b := (55295 : Int32)) (k := 55295) (by decide) (by omega)
    have a6 := own_lt (x := x) (b := (55296 : Int32)) (k := 55296) (by decide) (by omega)
    have a7 := own_ngt (x := x) (b := (57343 : Int32)) (k := 57343) (by decide) (by omega)
    have a8 := own_lt (x := x) (b := (57344 : Int32)) (k := 57344) (by decide) (by omega)
    have a9 := own_ngt (x := x) (b := (65533 : Int32)) (k := 65533) (by decide) (by omega)
    have a10 := own_nei (x := x) (b := (65534 : Int32)) (k := 65534) (by decide) (by omega)
    have a11 := own_nei (x := x) (b := (65535 : Int32)) (k := 65535) (by decide) (by omega)
    have a12 := own_lt (x := x) (b := (65536 : Int32)) (k := 65536) (by decide) (by omega)
    have a13 := own_ngt (x := x) (b := (1114111 : Int32)) (k := 1114111) (by decide) (by omega)
    simp only [F1, F2, if_neg a0, if_neg a1, if_neg a2, if_neg a3, if_neg a4, if_neg a5, if_pos a6, if_neg a7, if_pos a8, if_neg a9, if_neg a10, if_neg a11, if_pos a12, if_neg a13]
    try decide
  · have a0 := own_nlt (x := x) (b := (0 : Int32)) (k := 0) (by decide) (by omega)
    have a1 := own_nei (x := x) (b := (9 : Int32)) (k := 9) (by decide) (by omega)
    have a2 := own_nei (x := x) (b := (10 : Int32)) (k := 10) (by decide) (by omega)
    have a3 := own_nei (x := x) (b := (13 : Int32)) (k := 13) (by decide) (by omega)
    have a4 := own_nlt (x := x) (b := (32 : Int32)) (k := 32) (by decide) (by omega)
    have a5 := own_gt (x := x) (b := (55295 : Int32)) (k := 55295) (by decide) (by omega)
    have a6 := own_nlt (x := x) (b := (55296 : Int32)) (k := 55296) (by decide) (by omega)
    have a7 := own_ngt (x := x) (b := (57343 : Int32)) (k := 57343) (by decide) (by omega)
    have a8 := own_lt (x := x) (b := (57344 : Int32)) (k := 57344) (by decide) (by omega)
    have a9 := own_ngt (x := x) (b := (65533 : Int32)) (k := 65533) (by decide) (by omega)
    have a10 := own_nei (x := x) (b := (65534 : Int32)) (k := 65534) (by decide) (by omega)
    have a11 := own_nei (x := x) (b := (65535 : Int32)) (k := 65535) (by decide) (by omega)
    have a12 := own_lt (x := x) (b := (65536 : Int32)) (k := 65536) (by decide) (by omega)
    have a13 := own_ngt (x := x) (b := (1114111 : Int32)) (k := 1114111) (by decide) (by omega)
    simp only [F1, F2, if_neg a0, if_neg a1, if_neg a2, if_neg a3, if_neg a4, if_pos a5, if_neg a6, if_neg a7, if_pos a8, if_neg a9, if_neg a10, if_neg a11, if_pos a12, if_neg a13]
    try decide
  · have a0 := own_nlt (x := x) (b := (0 : Int32)) (k := 0) (by decide) (by omega)
    have a1 := own_nei (x := x) (b := (9 : Int32)) (k := 9) (by decide) (by omega)
    have a2 := own_nei (x := x) (b := (10 : Int32)) (k := 10) (by decide) (by omega)
    have a3 := own_nei (x := x) (b := (13 : Int32)) (k := 13) (by decide) (by omega)
    have a4 := own_nlt (x := x) (b := (32 : Int32)) (k := 32) (by decide) (by omega)
    have a5 := own_gt (x := x) (b := (55295 : Int32)) (k := 55295) (by decide) (by omega)
    have a6 := own_nlt (x := x) (b := (55296 : Int32)) (k := 55296) (by decide) (by omega)
    have a7 := own_gt (x := x) (b := (57343 : Int32)) (k := 57343) (by decide) (by omega)
    have a8 := own_nlt (x := x) (b := (57344 : Int32)) (k := 57344) (by decide) (by omega)
    have a9 := own_ngt (x := x) (b := (65533 : Int32)) (k := 65533) (by decide) (by omega)
    have a10 := own_nei (x := x) (b := (65534 : Int32)) (k := 65534) (by decide) (by omega)
    have a11 := own_nei (x := x) (b := (65535 : Int32)) (k := 65535) (by decide) (by omega)
    have a12 := own_lt (x := x) (b := (65536 : Int32)) (k := 65536) (by decide) (by omega)
    have a13 := own_ngt (x := x) (b := (1114111 : Int32)) (k := 1114111) (by decide) (by omega)
    simp only [F1, F2, if_neg a0, if_neg a1, if_neg a2, if_neg a3, if_neg a4, if_pos a5, if_neg a6, if_pos a7, if_neg a8, if_neg a9, if_neg a10, if_neg a11, if_pos a12, if_neg a13]
    try decide
  · have a0 := own_nlt (x := x) (b := (0 : Int32)) (k := 0) (by decide) (by omega)
    have a1 := own_nei (x := x) (b := (9 : Int32)) (k := 9) (by decide) (by omega)
    have a2 := own_nei (x := x) (b := (10 : Int32)) (k := 10) (by decide) (by omega)
    have a3 := own_nei (x := x) (b := (13 : Int32)) (k := 13) (by decide) (by omega)
    have a4 := own_nlt (x := x) (b := (32 : Int32)) (k := 32) (by decide) (by omega)
    have a5 := own_gt (x := x) (b := (55295 : Int32)) (k := 55295) (by decide) (by omega)
    have a6 := own_nlt (x := x) (b := (55296 : Int32)) (k := 55296) (by decide) (by omega)
    have a7 := own_gt (x := x) (b := (57343 : Int32)) (k := 57343) (by decide) (by omega)
    have a8 := own_nlt (x := x) (b := (57344 : Int32)) (k := 57344) (by decide) (by omega)
    have a9 := own_gt (x := x) (b := (65533 : Int32)) (k := 65533) (by decide) (by omega)
    have a10 := own_eqi (x := x) (b := (65534 : Int32)) (k := 65534) (by decide) (by omega)
    have a11 := own_nei (x := x) (b := (65535 : Int32)) (k := 65535) (by decide) (by omega)
    have a12 := own_lt (x := x) (b := (65536 : Int32)) (k := 65536) (by decide) (by omega)
    have a13 := own_ngt (x := x) (b := (1114111 : Int32)) (k := 1114111) (by decide) (by omega)
    simp only [F1, F2, if_neg a0, if_neg a1, if_neg a2, if_neg a3, if_neg a4, if_pos a5, if_neg a6, if_pos a7, if_neg a8, if_pos a9, if_pos a10, if_neg a11, if_pos a12, if_neg a13]
    try decide
  · have a0 := own_nlt (x := x) (b := (0 : Int32)) (k := 0) (by decide) (by omega)
    have a1 := own_nei (x := x) (b := (9 : Int32)) (k := 9) (by decide) (by omega)
    have a2 := own_nei (x := x) (b := (10 : Int32)) (k := 10) (by decide) (by omega)
    have a3 := own_nei (x := x) (b := (13 : Int32)) (k := 13) (by decide) (by omega)
    have a4 := own_nlt (x := x) (b := (32 : Int32)) (k := 32) (by decide) (by omega)
    have a5 := own_gt (x := x) (b := (55295 : Int32)) (k := 55295) (by decide) (by omega)
    have a6 := own_nlt (x := x) (b := (55296 : Int32)) (k := 55296) (by decide) (by omega)
    have a7 := own_gt (x := x) (b := (57343 : Int32)) (k := 57343) (by decide) (by omega)
    have a8 := own_nlt (x := x) (b := (57344 : Int32)) (k := 57344) (by decide) (by omega)
    have a9 := own_gt (x := x) (b := (65533 : Int32)) (k := 65533) (by decide) (by omega)
    have a10 := own_nei (x := x) (b := (65534 : Int32)) (k := 65534) (by decide) (by omega)
    have a11 := own_eqi (x := x) (b := (65535 : Int32)) (k := 65535) (by decide) (by omega)
    have a12 := own_lt (x := x) (b := (65536 : Int32)) (k := 65536) (by decide) (by omega)
    have a13 := own_ngt (x := x) (b := (1114111 : Int32)) (k := 1114111) (by decide) (by omega)
    simp only [F1, F2, if_neg a0, if_neg a1, if_neg a2, if_neg a3, if_neg a4, if_pos a5, if_neg a6, if_pos a7, if_neg a8, if_pos a9, if_neg a10, if_pos a11, if_pos a12, if_neg a13]
    try decide
  · have a0 := own_nlt (x := x) (b := (0 : Int32)) (k := 0) (by decide) (by omega)
    have a1 := own_nei (x := x) (b := (9 : Int32)) (k := 9) (by decide) (by omega)
    have a2 := own_nei (x := x) (b := (10 : Int32)) (k := 10) (by decide) (by omega)
    have a3 := own_nei (x := x) (b := (13 : Int32)) (k := 13) (by decide) (by omega)
    have a4 := own_nlt (x := x) (b := (32 : Int32)) (k := 32) (by decide) (by omega)
    have a5 := own_gt (x := x) (b := (55295 : Int32)) (k := 55295) (by decide) (by omega)
    have a6 := own_nlt (x := x) (b := (55296 : Int32)) (k := 55296) (by decide) (by omega)
    have a7 := own_gt (x := x) (b := (57343 : Int32)) (k := 57343) (by decide) (by omega)
    have a8 := own_nlt (x := x) (b := (57344 : Int32)) (k := 57344) (by decide) (by omega)
    have a9 := own_gt (x := x) (b := (65533 : Int32)) (k := 65533) (by decide) (by omega)
    have a10 := own_nei (x := x) (b := (65534 : Int32)) (k := 65534) (by decide) (by omega)
    have a11 := own_nei (x := x) (b := (65535 : Int32)) (k := 65535) (by decide) (by omega)
    have a12 := own_nlt (x := x) (b := (65536 : Int32)) (k := 65536) (by decide) (by omega)
    have a13 := own_ngt (x := x) (b := (1114111 : Int32)) (k := 1114111) (by decide) (by omega)
    simp only [F1, F2, if_neg a0, if_neg a1, if_neg a2, if_neg a3, if_neg a4, if_pos a5, if_neg a6, if_pos a7, if_neg a8, if_pos a9, if_neg a10, if_neg a11, if_neg a12, if_neg a13]
    try decide
  · have a0 := own_nlt (x := x) (b := (0 : Int32)) (k := 0) (by decide) (by omega)
    have a1 := own_nei (x := x) (b := (9 : Int32)) (k := 9) (by decide) (by omega)
    have a2 := own_nei (x := x) (b := (10 : Int32)) (k := 10) (by decide) (by omega)
    have a3 := own_nei (x := x) (b := (13 : Int32)) (k := 13) (by decide) (by omega)
    have a4 := own_nlt (x := x) (b := (32 : Int32)) (k := 32) (by decide) (by omega)
    have a5 := own_gt (x := x) (b := (55295 : Int32)) (k := 55295) (by decide) (by omega)
    have a6 := own_nlt (x := x) (b := (55296 : Int32)) (k := 55296) (by decide) (by omega)
    have a7 := own_gt (x := x) (b := (57343 : Int32)) (k := 57343) (by decide) (by omega)
    have a8 := own_nlt (x := x) (b := (57344 : Int32)) (k := 57344) (by decide) (by omega)
    have a9 := own_gt (x := x) (b := (65533 : Int32)) (k := 65533) (by decide) (by omega)
    have a10 := own_nei (x := x) (b := (65534 : Int32)) (k := 65534) (by decide) (by omega)
    have a11 := own_nei (x := x) (b := (65535 : Int32)) (k := 65535) (by decide) (by omega)
    have a12 := own_nlt (x := x) (b := (65536 : Int32)) (k := 65536) (by decide) (by omega)
    have a13 := own_gt (x := x) (b := (1114111 : Int32)) (k := 1114111) (by decide) (by omega)
    simp only [F1, F2, if_neg a0, if_neg a1, if_neg a2, if_neg a3, if_neg a4, if_pos a5, if_neg a6, if_pos a7, if_neg a8, if_pos a9, if_neg a10, if_neg a11, if_neg a12, if_pos a13]
    try decide
theorem pn_0 : plainFor x = true := plainFor_of_name (by first | (simp [plainName, overriddenIn]; done) | decide +kernel)
theorem ef_0 (m : MethodId) (x0 : Int32) (x1 : Int32) : entryFrame m #[(.int x0), (.int x1)] maxLocals = mkF m 0 #[.val (.int x0), .val (.int x1), .unset, .unset] [] := by first | (simp [entryFrame, mkF, argsToLocals, Value.category, maxLocals]; done) | rfl
theorem pd0 : parseMethodDescriptor "(I)Z" = some ⟨[.int], some .boolean⟩ := by decide +kernel
def Q0 (h0 : Heap) (n0 : Nat) (v : Option Value) (h : Heap) (L : List Loc) : Prop := v = some (.int 1) ∧ Fr n0 L
set_option maxRecDepth 65536 in
set_option maxHeartbeats 40000000 in
theorem rm0 (l : Launch) (Z : State) (a0 : Array Value) (hw : ∀ d ∈ tables_1, d.before a0 Z = true) (ws : List Jvm.Cond) (x0 : Int32) (x1 : Int32) (h0 : Heap) (n0 : Nat) (sz : n0 ≤ h0.size) :
    Ctr l x code maxLocals ret ws room_1 Z #[(.int x0), (.int x1)] h0 (Q0 h0 n0) 16 128 := by
  refine Ctr.mk pn_0 ?_
  intro p e s m below meth c T hx hby hml hown hnm hlk hret hZ X eT
  have N := Fr.nil n0
  refine enter (ef_0 m x0 x1) ?_
  refine s_bipush X hx (z := (32 : Int32)) (hb hby at_0) rfl (q := 2) rfl ?_
  refine s_newI X hx hZ (hw _ (List.mem_of_getElem? (i := 0) rfl)) eT (by decide) (cap := 32) (by decide) (by decide) (by decide) (by decide) (ys := [0, 0, 0, 0, 0, 0, 0, 0, 0, 0, 0, 0, 0, 0, 0, 0, 0, 0, 0, 0, 0, 0, 0, 0, 0, 0, 0, 0, 0, 0, 0, 0]) rfl (hb hby at_2) (q := 4) rfl ?_
  intro T h2 a1 X eT E ea A_a1
  have g_a1 : n0 ≤ a1 := by rw [ea]; exact sz
  have sz : n0 ≤ h2.size := Nat.le_trans sz E.1
  refine s_dup X hx (hb hby at_4) rfl (q := 5) rfl ?_
  refine s_iconst X hx (z := (0 : Int32)) (hb hby at_5) rfl (q := 6) rfl ?_
  refine s_iconst X hx (z := (-1 : Int32)) (hb hby at_6) rfl (q := 7) rfl ?_
  refine s_iastore X hx hZ eT A_a1 N g_a1 (by decide) (i := 0) rfl (Nat.le_of_ble_eq_true rfl) (ys := [(-1 : Int32), 0, 0, 0, 0, 0, 0, 0, 0, 0, 0, 0, 0, 0, 0, 0, 0, 0, 0, 0, 0, 0, 0, 0, 0, 0, 0, 0, 0, 0, 0, 0]) rfl (hb hby at_7) (q := 8) rfl ?_
  intro T h3 _ X N eT W A_a1'
  have sz : n0 ≤ h3.size := by rw [W.size]; exact sz
  have A_a1 := A_a1'
  refine s_dup X hx (hb hby at_8) rfl (q := 9) rfl ?_
  refine s_iconst X hx (z := (1 : Int32)) (hb hby at_9) rfl (q := 10) rfl ?_
  refine s_iconst X hx (z := (0 : Int32)) (hb hby at_10) rfl (q := 11) rfl ?_
  refine s_iastore X hx hZ eT A_a1 N g_a1 (by decide) (i := 1) rfl (Nat.le_of_ble_eq_true rfl) (ys := [(-1 : Int32), (0 : Int32), 0, 0, 0, 0, 0, 0, 0, 0, 0, 0, 0, 0, 0, 0, 0, 0, 0, 0, 0, 0, 0, 0, 0, 0, 0, 0, 0, 0, 0, 0]) rfl (hb hby at_11) (q := 12) rfl ?_
  intro T h4 _ X N eT W A_a1'
  have sz : n0 ≤ h4.size := by rw [W.size]; exact sz
  have A_a1 := A_a1'
  refine s_dup X hx (hb hby at_12) rfl (q := 13) rfl ?_
  refine s_iconst X hx (z := (2 : Int32)) (hb hby at_13) rfl (q := 14) rfl ?_
  refine s_bipush X hx (z := (8 : Int32)) (hb hby at_14) rfl (q := 16) rfl ?_
  refine s_iastore X hx hZ eT A_a1 N g_a1 (by decide) (i := 2) rfl (Nat.le_of_ble_eq_true rfl) (ys := [(-1 : Int32), (0 : Int32), (8 : Int32), 0, 0, 0, 0, 0, 0, 0, 0, 0, 0, 0, 0, 0, 0, 0, 0, 0, 0, 0, 0, 0, 0, 0, 0, 0, 0, 0, 0, 0]) rfl (hb hby at_16) (q := 17) rfl ?_
  intro T h5 _ X N eT W A_a1'
  have sz : n0 ≤ h5.size := by rw [W.size]; exact sz
  have A_a1 := A_a1'
  refine s_dup X hx (hb hby at_17) rfl (q := 18) rfl ?_
  refine s_iconst X hx (z := (3 : Int32)) (hb hby at_18) rfl (q := 19) rfl ?_
  refine s_bipush X hx (z := (9 : Int32)) (hb hby at_19) rfl (q := 21) rfl ?_
  refine s_iastore X hx hZ eT A_a1 N g_a1 (by decide) (i := 3) rfl (Nat.le_of_ble_eq_true rfl) (ys := [(-1 : Int32), (0 : Int32), (8 : Int32), (9 : Int32), 0, 0, 0, 0, 0, 0, 0, 0, 0, 0, 0, 0, 0, 0, 0, 0, 0, 0, 0, 0, 0, 0, 0, 0, 0, 0, 0, 0]) rfl (hb hby at_21) (q := 22) rfl ?_
  intro T h6 _ X N eT W A_a1'
  have sz : n0 ≤ h6.size := by rw [W.size]; exact sz
  have A_a1 := A_a1'
  refine s_dup X hx (hb hby at_22) rfl (q := 23) rfl ?_
  refine s_iconst X hx (z := (4 : Int32)) (hb hby at_23) rfl (q := 24) rfl ?_
  refine s_bipush X hx (z := (10 : Int32)) (hb hby at_24) rfl (q := 26) rfl ?_
  refine s_iastore X hx hZ eT A_a1 N g_a1 (by decide) (i := 4) rfl (Nat.le_of_ble_eq_true rfl) (ys := [(-1 : Int32), (0 : Int32), (8 : Int32), (9 : Int32), (10 : Int32), 0, 0, 0, 0, 0, 0, 0, 0, 0, 0, 0, 0, 0, 0, 0, 0, 0, 0, 0, 0, 0, 0, 0, 0, 0, 0, 0]) rfl (hb hby at_26) (q := 27) rfl ?_
  intro T h7 _ X N eT W A_a1'
  have sz : n0 ≤ h7.size := by rw [W.size]; exact sz
  have A_a1 := A_a1'
  refine s_dup X hx (hb hby at_27) rfl (q := 28) rfl ?_
  refine s_iconst X hx (z := (5 : Int32)) (hb hby at_28) rfl (q := 29) rfl ?_
  refine s_bipush X hx (z := (11 : Int32)) (hb hby at_29) rfl (q := 31) rfl ?_
  refine s_iastore X hx hZ eT A_a1 N g_a1 (by decide) (i := 5) rfl (Nat.le_of_ble_eq_true rfl) (ys := [(-1 : Int32), (0 : Int32), (8 : Int32), (9 : Int32), (10 : Int32), (11 : Int32), 0, 0, 0, 0, 0, 0, 0, 0, 0, 0, 0, 0, 0, 0, 0, 0, 0, 0, 0, 0, 0, 0, 0, 0, 0, 0]) rfl (hb hby at_31) (q := 32) rfl ?_
  intro T h8 _ X N eT W A_a1'
  have sz : n0 ≤ h8.size := by rw [W.size]; exact sz
  have A_a1 := A_a1'
  refine s_dup X hx (hb hby at_32) rfl (q := 33) rfl ?_
  refine s_bipush X hx (z := (6 : Int32)) (hb hby at_33) rfl (q := 35) rfl ?_
  refine s_bipush X hx (z := (12 : Int32)) (hb hby at_35) rfl (q := 37) rfl ?_
  refine s_iastore X hx hZ eT A_a1 N g_a1 (by decide) (i := 6) rfl (Nat.le_of_ble_eq_true rfl) (ys := [(-1 : Int32), (0 : Int32), (8 : Int32), (9 : Int32), (10 : Int32), (11 : Int32), (12 : Int32), 0, 0, 0, 0, 0, 0, 0, 0, 0, 0, 0, 0, 0, 0, 0, 0, 0, 0, 0, 0, 0, 0, 0, 0, 0]) rfl (hb hby at_37) (q := 38) rfl ?_
  intro T h9 _ X N eT W A_a1'
  have sz : n0 ≤ h9.size := by rw [W.size]; exact sz
  have A_a1 := A_a1'
  refine s_dup X hx (hb hby at_38) rfl (q := 39) rfl ?_
  refine s_bipush X hx (z := (7 : Int32)) (hb hby at_39) rfl (q := 41) rfl ?_
  refine s_bipush X hx (z := (13 : Int32)) (hb hby at_41) rfl (q := 43) rfl ?_
  refine s_iastore X hx hZ eT A_a1 N g_a1 (by decide) (i := 7) rfl (Nat.le_of_ble_eq_true rfl) (ys := [(-1 : Int32), (0 : Int32), (8 : Int32), (9 : Int32), (10 : Int32), (11 : Int32), (12 : Int32), (13 : Int32), 0, 0, 0, 0, 0, 0, 0, 0, 0, 0, 0, 0, 0, 0, 0, 0, 0, 0, 0, 0, 0, 0, 0, 0]) rfl (hb hby at_43) (q := 44) rfl ?_
  intro T h10 _ X N eT W A_a1'
  have sz : n0 ≤ h10.size := by rw [W.size]; exact sz
  have A_a1 := A_a1'
  refine s_dup X hx (hb hby at_44) rfl (q := 45) rfl ?_
  refine s_bipush X hx (z := (8 : Int32)) (hb hby at_45) rfl (q := 47) rfl ?_
  refine s_bipush X hx (z := (14 : Int32)) (hb hby at_47) rfl (q := 49) rfl ?_
  refine s_iastore X hx hZ eT A_a1 N g_a1 (by decide) (i := 8) rfl (Nat.le_of_ble_eq_true rfl) (ys := [(-1 : Int32), (0 : Int32), (8 : Int32), (9 : Int32), (10 : Int32), (11 : Int32), (12 : Int32), (13 : Int32), (14 : Int32), 0, 0, 0, 0, 0, 0, 0, 0, 0, 0, 0, 0, 0, 0, 0, 0, 0, 0, 0, 0, 0, 0, 0]) rfl (hb hby at_49) (q := 50) rfl ?_
  intro T h11 _ X N eT W A_a1'
  have sz : n0 ≤ h11.size := by rw [W.size]; exact sz
  have A_a1 := A_a1'
  refine s_dup X hx (hb hby at_50) rfl (q := 51) rfl ?_
  refine s_bipush X hx (z := (9 : Int32)) (hb hby at_51) rfl (q := 53) rfl ?_
  refine s_bipush X hx (z := (31 : Int32)) (hb hby at_53) rfl (q := 55) rfl ?_
  refine s_iastore X hx hZ eT A_a1 N g_a1 (by decide) (i := 9) rfl (Nat.le_of_ble_eq_true rfl) (ys := [(-1 : Int32), (0 : Int32), (8 : Int32), (9 : Int32), (10 : Int32), (11 : Int32), (12 : Int32), (13 : Int32), (14 : Int32), (31 : Int32), 0, 0, 0, 0, 0, 0, 0, 0, 0, 0, 0, 0, 0, 0, 0, 0, 0, 0, 0, 0, 0, 0]) rfl (hb hby at_55) (q := 56) rfl ?_
  intro T h12 _ X N eT W A_a1'
  have sz : n0 ≤ h12.size := by rw [W.size]; exact sz
  have A_a1 := A_a1'
  refine s_dup X hx (hb hby at_56) rfl (q := 57) rfl ?_
  refine s_bipush X hx (z := (10 : Int32)) (hb hby at_57) rfl (q := 59) rfl ?_
  refine s_bipush X hx (z := (32 : Int32)) (hb hby at_59) rfl (q := 61) rfl ?_
  refine s_iastore X hx hZ eT A_a1 N g_a1 (by decide) (i := 10) rfl (Nat.le_of_ble_eq_true rfl) (ys := [(-1 : Int32), (0 : Int32), (8 : Int32), (9 : Int32), (10 : Int32), (11 : Int32), (12 : Int32), (13 : Int32), (14 : Int32), (31 : Int32), (32 : Int32), 0, 0, 0, 0, 0, 0, 0, 0, 0, 0, 0, 0, 0, 0, 0, 0, 0, 0, 0, 0, 0]) rfl (hb hby at_61) (q := 62) rfl ?_
  intro T h13 _ X N eT W A_a1'
  have sz : n0 ≤ h13.size := by rw [W.size]; exact sz
  have A_a1 := A_a1'
  refine s_dup X hx (hb hby at_62) rfl (q := 63) rfl ?_
  refine s_bipush X hx (z := (11 : Int32)) (hb hby at_63) rfl (q := 65) rfl ?_
  refine s_bipush X hx (z := (127 : Int32)) (hb hby at_65) rfl (q := 67) rfl ?_
  refine s_iastore X hx hZ eT A_a1 N g_a1 (by decide) (i := 11) rfl (Nat.le_of_ble_eq_true rfl) (ys := [(-1 : Int32), (0 : Int32), (8 : Int32), (9 : Int32), (10 : Int32), (11 : Int32), (12 : Int32), (13 : Int32), (14 : Int32), (31 : Int32), (32 : Int32), (127 : Int32), 0, 0, 0, 0, 0, 0, 0, 0, 0, 0, 0, 0, 0, 0, 0, 0, 0, 0, 0, 0]) rfl (hb hby at_67) (q := 68) rfl ?_
  intro T h14 _ X N eT W A_a1'
  have sz : n0 ≤ h14.size := by rw [W.size]; exact sz
  have A_a1 := A_a1'
  refine s_dup X hx (hb hby at_68) rfl (q := 69) rfl ?_
  refine s_bipush X hx (z := (12 : Int32)) (hb hby at_69) rfl (q := 71) rfl ?_
  refine s_ldc X hx hZ hown (hw _ (List.mem_of_getElem? (i := 1) rfl)) (hb hby at_71) (q := 73) rfl ?_
  refine s_iastore X hx hZ eT A_a1 N g_a1 (by decide) (i := 12) rfl (Nat.le_of_ble_eq_true rfl) (ys := [(-1 : Int32), (0 : Int32), (8 : Int32), (9 : Int32), (10 : Int32), (11 : Int32), (12 : Int32), (13 : Int32), (14 : Int32), (31 : Int32), (32 : Int32), (127 : Int32), (55295 : Int32), 0, 0, 0, 0, 0, 0, 0, 0, 0, 0, 0, 0, 0, 0, 0, 0, 0, 0, 0]) rfl (hb hby at_73) (q := 74) rfl ?_
  intro T h15 _ X N eT W A_a1'
  have sz : n0 ≤ h15.size := by rw [W.size]; exact sz
  have A_a1 := A_a1'
  refine s_dup X hx (hb hby at_74) rfl (q := 75) rfl ?_
  refine s_bipush X hx (z := (13 : Int32)) (hb hby at_75) rfl (q := 77) rfl ?_
  refine s_ldc X hx hZ hown (hw _ (List.mem_of_getElem? (i := 2) rfl)) (hb hby at_77) (q := 79) rfl ?_
  refine s_iastore X hx hZ eT A_a1 N g_a1 (by decide) (i := 13) rfl (Nat.le_of_ble_eq_true rfl) (ys := [(-1 : Int32), (0 : Int32), (8 : Int32), (9 : Int32), (10 : Int32), (11 : Int32), (12 : Int32), (13 : Int32), (14 : Int32), (31 : Int32), (32 : Int32), (127 : Int32), (55295 : Int32), (55296 : Int32), 0, 0, 0, 0, 0, 0, 0, 0, 0, 0, 0, 0, 0, 0, 0, 0, 0, 0]) rfl (hb hby at_79) (q := 80) rfl ?_
  intro T h16 _ X N eT W A_a1'
  have sz : n0 ≤ h16.size := by rw [W.size]; exact sz
  have A_a1 := A_a1'
  refine s_dup X hx (hb hby at_80) rfl (q := 81) rfl ?_
  refine s_bipush X hx (z := (14 : Int32)) (hb hby at_81) rfl (q := 83) rfl ?_
  refine s_ldc X hx hZ hown (hw _ (List.mem_of_getElem? (i := 3) rfl)) (hb hby at_83) (q := 85) rfl ?_
  refine s_iastore X hx hZ eT A_a1 N g_a1 (by decide) (i := 14) rfl (Nat.le_of_ble_eq_true rfl) (ys := [(-1 : Int32), (0 : Int32), (8 : Int32), (9 : Int32), (10 : Int32), (11 : Int32), (12 : Int32), (13 : Int32), (14 : Int32), (31 : Int32), (32 : Int32), (127 : Int32), (55295 : Int32), (55296 : Int32), (56319 : Int32), 0, 0, 0, 0, 0, 0, 0, 0, 0, 0, 0, 0, 0, 0, 0, 0, 0]) rfl (hb hby at_85) (q := 86) rfl ?_
  intro T h17 _ X N eT W A_a1'
  have sz : n0 ≤ h17.size := by rw [W.size]; exact sz
  have A_a1 := A_a1'
  refine s_dup X hx (hb hby at_86) rfl (q := 87) rfl ?_
  refine s_bipush X hx (z := (15 : Int32)) (hb hby at_87) rfl (q := 89) rfl ?_
  refine s_ldc X hx hZ hown (hw _ (List.mem_of_getElem? (i := 4) rfl)) (hb hby at_89) (q := 91) rfl ?_
  refine s_iastore X hx hZ eT A_a1 N g_a1 (by decide) (i := 15) rfl (Nat.le_of_ble_eq_true rfl) (ys := [(-1 : Int32), (0 : Int32), (8 : Int32), (9 : Int32), (10 : Int32), (11 : Int32), (12 : Int32), (13 : Int32), (14 : Int32), (31 : Int32), (32 : Int32), (127 : Int32), (55295 : Int32), (55296 : Int32), (56319 : Int32), (56320 : Int32), 0, 0, 0, 0, 0, 0, 0, 0, 0, 0, 0, 0, 0, 0, 0, 0]) rfl (hb hby at_91) (q := 92) rfl ?_
  intro T h18 _ X N eT W A_a1'
  have sz : n0 ≤ h18.size := by rw [W.size]; exact sz
  have A_a1 := A_a1'
  refine s_dup X hx (hb hby at_92) rfl (q := 93) rfl ?_
  refine s_bipush X hx (z := (16 : Int32)) (hb hby at_93) rfl (q := 95) rfl ?_
  refine s_ldc X hx hZ hown (hw _ (List.mem_of_getElem? (i := 5) rfl)) (hb hby at_95) (q := 97) rfl ?_
  refine s_iastore X hx hZ eT A_a1 N g_a1 (by decide) (i := 16) rfl (Nat.le_of_ble_eq_true rfl) (ys := [(-1 : Int32), (0 : Int32), (8 : Int32), (9 : Int32), (10 : Int32), (11 : Int32), (12 : Int32), (13 : Int32), (14 : Int32), (31 : Int32), (32 : Int32), (127 : Int32), (55295 : Int32), (55296 : Int32), (56319 : Int32), (56320 : Int32), (57343 : Int32), 0, 0, 0, 0, 0, 0, 0, 0, 0, 0, 0, 0, 0, 0, 0]) rfl (hb hby at_97) (q := 98) rfl ?_
  intro T h19 _ X N eT W A_a1'
  have sz : n0 ≤ h19.size := by rw [W.size]; exact sz
  have A_a1 := A_a1'
  refine s_dup X hx (hb hby at_98) rfl (q := 99) rfl ?_
  refine s_bipush X hx (z := (17 : Int32)) (hb hby at_99) rfl (q := 101) rfl ?_
  refine s_ldc X hx hZ hown (hw _ (List.mem_of_getElem? (i := 6) rfl)) (hb hby at_101) (q := 103) rfl ?_
  refine s_iastore X hx hZ eT A_a1 N g_a1 (by decide) (i := 17) rfl (Nat.le_of_ble_eq_true rfl) (ys := [(-1 : Int32), (0 : Int32), (8 : Int32), (9 : Int32), (10 : Int32), (11 : Int32), (12 : Int32), (13 : Int32), (14 : Int32), (31 : Int32), (32 : Int32), (127 : Int32), (55295 : Int32), (55296 : Int32), (56319 : Int32), (56320 : Int32), (57343 : Int32), (57344 : Int32), 0, 0, 0, 0, 0, 0, 0, 0, 0, 0, 0, 0, 0, 0]) rfl (hb hby at_103) (q := 104) rfl ?_
  intro T h20 _ X N eT W A_a1'
  have sz : n0 ≤ h20.size := by rw [W.size]; exact sz
  have A_a1 := A_a1'
  refine s_dup X hx (hb hby at_104) rfl (q := 105) rfl ?_
  refine s_bipush X hx (z := (18 : Int32)) (hb hby at_105) rfl (q := 107) rfl ?_
  refine s_ldc X hx hZ hown (hw _ (List.mem_of_getElem? (i := 7) rfl)) (hb hby at_107) (q := 109) rfl ?_
  refine s_iastore X hx hZ eT A_a1 N g_a1 (by decide) (i := 18) rfl (Nat.le_of_ble_eq_true rfl) (ys := [(-1 : Int32), (0 : Int32), (8 : Int32), (9 : Int32), (10 : Int32), (11 : Int32), (12 : Int32), (13 : Int32), (14 : Int32), (31 : Int32), (32 : Int32), (127 : Int32), (55295 : Int32), (55296 : Int32), (56319 : Int32), (56320 : Int32), (57343 : Int32), (57344 : Int32), (65533 : Int32), 0, 0, 0, 0, 0, 0, 0, 0, 0, 0, 0, 0, 0]) rfl (hb hby at_109) (q := 110) rfl ?_
  intro T h21 _ X N eT W A_a1'
  have sz : n0 ≤ h21.size := by rw [W.size]; exact sz
  have A_a1 := A_a1'
  refine s_dup X hx (hb hby at_110) rfl (q := 111) rfl ?_
  refine s_bipush X hx (z := (19 : Int32)) (hb hby at_111) rfl (q := 113) rfl ?_
  refine s_ldc X hx hZ hown (hw _ (List.mem_of_getElem? (i := 8) rfl)) (hb hby at_113) (q := 115) rfl ?_
  refine s_iastore X hx hZ eT A_a1 N g_a1 (by decide) (i := 19) rfl (Nat.le_of_ble_eq_true rfl) (ys := [(-1 : Int32), (0 : Int32), (8 : Int32), (9 : Int32), (10 : Int32), (11 : Int32), (12 : Int32), (13 : Int32), (14 : Int32), (31 : Int32), (32 : Int32), (127 : Int32), (55295 : Int32), (55296 : Int32), (56319 : Int32), (56320 : Int32), (57343 : Int32), (57344 : Int32), (65533 : Int32), (65534 : Int32), 0, 0, 0, 0, 0, 0, 0, 0, 0, 0, 0, 0]) rfl (hb hby at_115) (q := 116) rfl ?_
  intro T h22 _ X N eT W A_a1'
  have sz : n0 ≤ h22.size := by rw [W.size]; exact sz
  have A_a1 := A_a1'
  refine s_dup X hx (hb hby at_116) rfl (q := 117) rfl ?_
  refine s_bipush X hx (z := (20 : Int32)) (hb hby at_117) rfl (q := 119) rfl ?_
  refine s_ldc X hx hZ hown (hw _ (List.mem_of_getElem? (i := 9) rfl)) (hb hby at_119) (q := 121) rfl ?_
  refine s_iastore X hx hZ eT A_a1 N g_a1 (by decide) (i := 20) rfl (Nat.le_of_ble_eq_true rfl) (ys := [(-1 : Int32), (0 : Int32), (8 : Int32), (9 : Int32), (10 : Int32), (11 : Int32), (12 : Int32), (13 : Int32), (14 : Int32), (31 : Int32), (32 : Int32), (127 : Int32), (55295 : Int32), (55296 : Int32), (56319 : Int32), (56320 : Int32), (57343 : Int32), (57344 : Int32), (65533 : Int32), (65534 : Int32), (65535 : Int32), 0, 0, 0, 0, 0, 0, 0, 0, 0, 0, 0]) rfl (hb hby at_121) (q := 122) rfl ?_
  intro T h23 _ X N eT W A_a1'
  have sz : n0 ≤ h23.size := by rw [W.size]; exact sz
  have A_a1 := A_a1'
  refine s_dup X hx (hb hby at_122) rfl (q := 123) rfl ?_
  refine s_bipush X hx (z := (21 : Int32)) (hb hby at_123) rfl (q := 125) rfl ?_
  refine s_ldc X hx hZ hown (hw _ (List.mem_of_getElem? (i := 10) rfl)) (hb hby at_125) (q := 127) rfl ?_
  refine s_iastore X hx hZ eT A_a1 N g_a1 (by decide) (i := 21) rfl (Nat.le_of_ble_eq_true rfl) (ys := [(-1 : Int32), (0 : Int32), (8 : Int32), (9 : Int32), (10 : Int32), (11 : Int32), (12 : Int32), (13 : Int32), (14 : Int32), (31 : Int32), (32 : Int32), (127 : Int32), (55295 : Int32), (55296 : Int32), (56319 : Int32), (56320 : Int32), (57343 : Int32), (57344 : Int32), (65533 : Int32), (65534 : Int32), (65535 : Int32), (65536 : Int32), 0, 0, 0, 0, 0, 0, 0, 0, 0, 0]) rfl (hb hby at_127) (q := 128) rfl ?_
  intro T h24 _ X N eT W A_a1'
  have sz : n0 ≤ h24.size := by rw [W.size]; exact sz
  have A_a1 := A_a1'
  refine s_dup X hx (hb hby at_128) rfl (q := 129) rfl ?_
  refine s_bipush X hx (z := (22 : Int32)) (hb hby at_129) rfl (q := 131) rfl ?_
  refine s_ldc X hx hZ hown (hw _ (List.mem_of_getElem? (i := 11) rfl)) (hb hby at_131) (q := 133) rfl ?_
  refine s_iastore X hx hZ eT A_a1 N g_a1 (by decide) (i := 22) rfl (Nat.le_of_ble_eq_true rfl) (ys := [(-1 : Int32), (0 : Int32), (8 : Int32), (9 : Int32), (10 : Int32), (11 : Int32), (12 : Int32), (13 : Int32), (14 : Int32), (31 : Int32), (32 : Int32), (127 : Int32), (55295 : Int32), (55296 : Int32), (56319 : Int32), (56320 : Int32), (57343 : Int32), (57344 : Int32), (65533 : Int32), (65534 : Int32), (65535 : Int32), (65536 : Int32), (1114111 : Int32), 0, 0, 0, 0, 0, 0, 0, 0, 0]) rfl (hb hby at_133) (q := 134) rfl ?_
  intro T h25 _ X N eT W A_a1'
  have sz : n0 ≤ h25.size := by rw [W.size]; exact sz
  have A_a1 := A_a1'
  refine s_dup X hx (hb hby at_134) rfl (q := 135) rfl ?_
  refine s_bipush X hx (z := (23 : Int32)) (hb hby at_135) rfl (q := 137) rfl ?_
  refine s_ldc X hx hZ hown (hw _ (List.mem_of_getElem? (i := 12) rfl)) (hb hby at_137) (q := 139) rfl ?_
  refine s_iastore X hx hZ eT A_a1 N g_a1 (by decide) (i := 23) rfl (Nat.le_of_ble_eq_true rfl) (ys := [(-1 : Int32), (0 : Int32), (8 : Int32), (9 : Int32), (10 : Int32), (11 : Int32), (12 : Int32), (13 : Int32), (14 : Int32), (31 : Int32), (32 : Int32), (127 : Int32), (55295 : Int32), (55296 : Int32), (56319 : Int32), (56320 : Int32), (57343 : Int32), (57344 : Int32), (65533 : Int32), (65534 : Int32), (65535 : Int32), (65536 : Int32), (1114111 : Int32), (1114112 : Int32), 0, 0, 0, 0, 0, 0, 0, 0]) rfl (hb hby at_139) (q := 140) rfl ?_
  intro T h26 _ X N eT W A_a1'
  have sz : n0 ≤ h26.size := by rw [W.size]; exact sz
  have A_a1 := A_a1'
  refine s_dup X hx (hb hby at_140) rfl (q := 141) rfl ?_
  refine s_bipush X hx (z := (24 : Int32)) (hb hby at_141) rfl (q := 143) rfl ?_
  refine s_ldc X hx hZ hown (hw _ (List.mem_of_getElem? (i := 13) rfl)) (hb hby at_143) (q := 145) rfl ?_
  refine s_iastore X hx hZ eT A_a1 N g_a1 (by decide) (i := 24) rfl (Nat.le_of_ble_eq_true rfl) (ys := [(-1 : Int32), (0 : Int32), (8 : Int32), (9 : Int32), (10 : Int32), (11 : Int32), (12 : Int32), (13 : Int32), (14 : Int32), (31 : Int32), (32 : Int32), (127 : Int32), (55295 : Int32), (55296 : Int32), (56319 : Int32), (56320 : Int32), (57343 : Int32), (57344 : Int32), (65533 : Int32), (65534 : Int32), (65535 : Int32), (65536 : Int32), (1114111 : Int32), (1114112 : Int32), (-2147483648 : Int32), 0, 0, 0, 0, 0, 0, 0]) rfl (hb hby at_145) (q := 146) rfl ?_
  intro T h27 _ X N eT W A_a1'
  have sz : n0 ≤ h27.size := by rw [W.size]; exact sz
  have A_a1 := A_a1'
  refine s_dup X hx (hb hby at_146) rfl (q := 147) rfl ?_
  refine s_bipush X hx (z := (25 : Int32)) (hb hby at_147) rfl (q := 149) rfl ?_
  refine s_ldc X hx hZ hown (hw _ (List.mem_of_getElem? (i := 14) rfl)) (hb hby at_149) (q := 151) rfl ?_
  refine s_iastore X hx hZ eT A_a1 N g_a1 (by decide) (i := 25) rfl (Nat.le_of_ble_eq_true rfl) (ys := [(-1 : Int32), (0 : Int32), (8 : Int32), (9 : Int32), (10 : Int32), (11 : Int32), (12 : Int32), (13 : Int32), (14 : Int32), (31 : Int32), (32 : Int32), (127 : Int32), (55295 : Int32), (55296 : Int32), (56319 : Int32), (56320 : Int32), (57343 : Int32), (57344 : Int32), (65533 : Int32), (65534 : Int32), (65535 : Int32), (65536 : Int32), (1114111 : Int32), (1114112 : Int32), (-2147483648 : Int32), (2147483647 : Int32), 0, 0, 0, 0, 0, 0]) rfl (hb hby at_151) (q := 152) rfl ?_
  intro T h28 _ X N eT W A_a1'
  have sz : n0 ≤ h28.size := by rw [W.size]; exact sz
  have A_a1 := A_a1'
  refine s_dup X hx (hb hby at_152) rfl (q := 153) rfl ?_
  refine s_bipush X hx (z := (26 : Int32)) (hb hby at_153) rfl (q := 155) rfl ?_
  refine s_sipush X hx (z := (133 : Int32)) (hb hby at_155) rfl (q := 158) rfl ?_
  refine s_iastore X hx hZ eT A_a1 N g_a1 (by decide) (i := 26) rfl (Nat.le_of_ble_eq_true rfl) (ys := [(-1 : Int32), (0 : Int32), (8 : Int32), (9 : Int32), (10 : Int32), (11 : Int32), (12 : Int32), (13 : Int32), (14 : Int32), (31 : Int32), (32 : Int32), (127 : Int32), (55295 : Int32), (55296 : Int32), (56319 : Int32), (56320 : Int32), (57343 : Int32), (57344 : Int32), (65533 : Int32), (65534 : Int32), (65535 : Int32), (65536 : Int32), (1114111 : Int32), (1114112 : Int32), (-2147483648 : Int32), (2147483647 : Int32), (133 : Int32), 0, 0, 0, 0, 0]) rfl (hb hby at_158) (q := 159) rfl ?_
  intro T h29 _ X N eT W A_a1'
  have sz : n0 ≤ h29.size := by rw [W.size]; exact sz
  have A_a1 := A_a1'
  refine s_dup X hx (hb hby at_159) rfl (q := 160) rfl ?_
  refine s_bipush X hx (z := (27 : Int32)) (hb hby at_160) rfl (q := 162) rfl ?_
  refine s_sipush X hx (z := (8232 : Int32)) (hb hby at_162) rfl (q := 165) rfl ?_
  refine s_iastore X hx hZ eT A_a1 N g_a1 (by decide) (i := 27) rfl (Nat.le_of_ble_eq_true rfl) (ys := [(-1 : Int32), (0 : Int32), (8 : Int32), (9 : Int32), (10 : Int32), (11 : Int32), (12 : Int32), (13 : Int32), (14 : Int32), (31 : Int32), (32 : Int32), (127 : Int32), (55295 : Int32), (55296 : Int32), (56319 : Int32), (56320 : Int32), (57343 : Int32), (57344 : Int32), (65533 : Int32), (65534 : Int32), (65535 : Int32), (65536 : Int32), (1114111 : Int32), (1114112 : Int32), (-2147483648 : Int32), (2147483647 : Int32), (133 : Int32), (8232 : Int32), 0, 0, 0, 0]) rfl (hb hby at_165) (q := 166) rfl ?_
  intro T h30 _ X N eT W A_a1'
  have sz : n0 ≤ h30.size := by rw [W.size]; exact sz
  have A_a1 := A_a1'
  refine s_dup X hx (hb hby at_166) rfl (q := 167) rfl ?_
  refine s_bipush X hx (z := (28 : Int32)) (hb hby at_167) rfl (q := 169) rfl ?_
  refine s_ldc X hx hZ hown (hw _ (List.mem_of_getElem? (i := 15) rfl)) (hb hby at_169) (q := 171) rfl ?_
  refine s_iastore X hx hZ eT A_a1 N g_a1 (by decide) (i := 28) rfl (Nat.le_of_ble_eq_true rfl) (ys := [(-1 : Int32), (0 : Int32), (8 : Int32), (9 : Int32), (10 : Int32), (11 : Int32), (12 : Int32), (13 : Int32), (14 : Int32), (31 : Int32), (32 : Int32), (127 : Int32), (55295 : Int32), (55296 : Int32), (56319 : Int32), (56320 : Int32), (57343 : Int32), (57344 : Int32), (65533 : Int32), (65534 : Int32), (65535 : Int32), (65536 : Int32), (1114111 : Int32), (1114112 : Int32), (-2147483648 : Int32), (2147483647 : Int32), (133 : Int32), (8232 : Int32), (65279 : Int32), 0, 0, 0]) rfl (hb hby at_171) (q := 172) rfl ?_
  intro T h31 _ X N eT W A_a1'
  have sz : n0 ≤ h31.size := by rw [W.size]; exact sz
  have A_a1 := A_a1'
  refine s_dup X hx (hb hby at_172) rfl (q := 173) rfl ?_
  refine s_bipush X hx (z := (29 : Int32)) (hb hby at_173) rfl (q := 175) rfl ?_
  refine s_ldc X hx hZ hown (hw _ (List.mem_of_getElem? (i := 16) rfl)) (hb hby at_175) (q := 177) rfl ?_
  refine s_iastore X hx hZ eT A_a1 N g_a1 (by decide) (i := 29) rfl (Nat.le_of_ble_eq_true rfl) (ys := [(-1 : Int32), (0 : Int32), (8 : Int32), (9 : Int32), (10 : Int32), (11 : Int32), (12 : Int32), (13 : Int32), (14 : Int32), (31 : Int32), (32 : Int32), (127 : Int32), (55295 : Int32), (55296 : Int32), (56319 : Int32), (56320 : Int32), (57343 : Int32), (57344 : Int32), (65533 : Int32), (65534 : Int32), (65535 : Int32), (65536 : Int32), (1114111 : Int32), (1114112 : Int32), (-2147483648 : Int32), (2147483647 : Int32), (133 : Int32), (8232 : Int32), (65279 : Int32), (131071 : Int32), 0, 0]) rfl (hb hby at_177) (q := 178) rfl ?_
  intro T h32 _ X N eT W A_a1'
  have sz : n0 ≤ h32.size := by rw [W.size]; exact sz
  have A_a1 := A_a1'
  refine s_dup X hx (hb hby at_178) rfl (q := 179) rfl ?_
  refine s_bipush X hx (z := (30 : Int32)) (hb hby at_179) rfl (q := 181) rfl ?_
  refine s_ldc X hx hZ hown (hw _ (List.mem_of_getElem? (i := 17) rfl)) (hb hby at_181) (q := 183) rfl ?_
  refine s_iastore X hx hZ eT A_a1 N g_a1 (by decide) (i := 30) rfl (Nat.le_of_ble_eq_true rfl) (ys := [(-1 : Int32), (0 : Int32), (8 : Int32), (9 : Int32), (10 : Int32), (11 : Int32), (12 : Int32), (13 : Int32), (14 : Int32), (31 : Int32), (32 : Int32), (127 : Int32), (55295 : Int32), (55296 : Int32), (56319 : Int32), (56320 : Int32), (57343 : Int32), (57344 : Int32), (65533 : Int32), (65534 : Int32), (65535 : Int32), (65536 : Int32), (1114111 : Int32), (1114112 : Int32), (-2147483648 : Int32), (2147483647 : Int32), (133 : Int32), (8232 : Int32), (65279 : Int32), (131071 : Int32), (983039 : Int32), 0]) rfl (hb hby at_183) (q := 184) rfl ?_
  intro T h33 _ X N eT W A_a1'
  have sz : n0 ≤ h33.size := by rw [W.size]; exact sz
  have A_a1 := A_a1'
  refine s_dup X hx (hb hby at_184) rfl (q := 185) rfl ?_
  refine s_bipush X hx (z := (31 : Int32)) (hb hby at_185) rfl (q := 187) rfl ?_
  refine s_ldc X hx hZ hown (hw _ (List.mem_of_getElem? (i := 18) rfl)) (hb hby at_187) (q := 189) rfl ?_
  refine s_iastore X hx hZ eT A_a1 N g_a1 (by decide) (i := 31) rfl (Nat.le_of_ble_eq_true rfl) (ys := [(-1 : Int32), (0 : Int32), (8 : Int32), (9 : Int32), (10 : Int32), (11 : Int32), (12 : Int32), (13 : Int32), (14 : Int32), (31 : Int32), (32 : Int32), (127 : Int32), (55295 : Int32), (55296 : Int32), (56319 : Int32), (56320 : Int32), (57343 : Int32), (57344 : Int32), (65533 : Int32), (65534 : Int32), (65535 : Int32), (65536 : Int32), (1114111 : Int32), (1114112 : Int32), (-2147483648 : Int32), (2147483647 : Int32), (133 : Int32), (8232 : Int32), (65279 : Int32), (131071 : Int32), (983039 : Int32), (-65536 : Int32)]) rfl (hb hby at_189) (q := 190) rfl ?_
  intro T h34 _ X N eT W A_a1'
  have sz : n0 ≤ h34.size := by rw [W.size]; exact sz
  have A_a1 := A_a1'
  refine s_astoreN X hx (hb hby at_190) rfl (L' := #[.val (.int x0), .val (.int x1), .val (.ref a1), .unset]) rfl (q := 191) rfl ?_
  refine s_iloadN X hx (hb hby at_191) rfl (q := 192) rfl ?_
  refine s_iconst X hx (z := (1 : Int32)) (hb hby at_192) rfl (q := 193) rfl ?_
  refine s_iand X hx (hb hby at_193) (q := 194) rfl ?_
  refine f_if_ne X hx (hb hby at_194) (q1 := 202) (by decide) (by decide) (q := 197) rfl (fun hc194 => ?_) (fun hc194 => ?_)
  · refine s_aloadN X hx (hb hby at_202) rfl rfl (q := 203) rfl ?_
    refine s_iloadN X hx (hb hby at_203) rfl (q := 204) rfl ?_
    refine s_iconst X hx (z := (1 : Int32)) (hb hby at_204) rfl (q := 205) rfl ?_
    refine s_iushr X hx (hb hby at_205) (q := 206) rfl ?_
    refine s_bipush X hx (z := (31 : Int32)) (hb hby at_206) rfl (q := 208) rfl ?_
    refine s_iand X hx (hb hby at_208) (q := 209) rfl ?_
    obtain ⟨xv, hxv⟩ : ∃ z, ([(-1 : Int32), (0 : Int32), (8 : Int32), (9 : Int32), (10 : Int32), (11 : Int32), (12 : Int32), (13 : Int32), (14 : Int32), (31 : Int32), (32 : Int32), (127 : Int32), (55295 : Int32), (55296 : Int32), (56319 : Int32), (56320 : Int32), (57343 : Int32), (57344 : Int32), (65533 : Int32), (65534 : Int32), (65535 : Int32), (65536 : Int32), (1114111 : Int32), (1114112 : Int32), (-2147483648 : Int32), (2147483647 : Int32), (133 : Int32), (8232 : Int32), (65279 : Int32), (131071 : Int32), (983039 : Int32), (-65536 : Int32)] : List Int32)[((((x1.toUInt32 >>> ((1 : Int32) &&& 31).toUInt32).toInt32) &&& (31 : Int32))).toNatClampNeg]? = some z := ⟨_, List.getElem?_eq_getElem (own_mask_ix _ _ (by decide) (by decide))⟩
    refine s_iaload X hx hZ eT A_a1 (own_mask_nn _ _ (by decide)) (i := _) rfl (x := xv) hxv (hb hby at_209) (q := 210) rfl ?_
    refine s_iloadN X hx (hb hby at_210) rfl (q := 211) rfl ?_
    refine s_bipush X hx (z := (6 : Int32)) (hb hby at_211) rfl (q := 213) rfl ?_
    refine s_iushr X hx (hb hby at_213) (q := 214) rfl ?_
    refine s_iconst X hx (z := (3 : Int32)) (hb hby at_214) rfl (q := 215) rfl ?_
    refine s_irem X hx (hb hby at_215) (by decide) (q := 216) rfl ?_
    refine s_iadd X hx (hb hby at_216) (q := 217) rfl ?_
    refine s_iconst X hx (z := (1 : Int32)) (hb hby at_217) rfl (q := 218) rfl ?_
    refine s_isub X hx (hb hby at_218) (q := 219) rfl ?_
    generalize hcc : ((xv + (((x1.toUInt32 >>> ((6 : Int32) &&& 31).toUInt32).toInt32) % (3 : Int32))) - (1 : Int32)) = cc
    refine s_istoreN X hx (hb hby at_219) (L' := #[.val (.int x0), .val (.int x1), .val (.ref a1), .val (.int cc)]) rfl (q := 220) rfl ?_
    refine s_iloadN X hx (hb hby at_220) rfl (q := 221) rfl ?_
    refine callP X hx hZ hown (W := 0) (argsL := [(.int cc)]) (rest := []) (hw _ (List.mem_of_getElem? (i := 19) rfl)) (hw _ (List.mem_of_getElem? (i := 20) rfl)) (hw _ (List.mem_of_getElem? (i := 21) rfl)) (hw _ (List.mem_of_getElem? (i := 22) rfl)) (by decide) (rm1 l Z a0 hw [] cc h34) rfl rfl eT (by decide) (by decide) (by decide) (by decide) (by rw [hml]; rfl) pd0 rfl rfl (Nat.le_of_ble_eq_true rfl) (hb hby at_221) (q := 224) rfl ?_
    intro T X eT
    refine s_iloadN X hx (hb hby at_224) rfl (q := 225) rfl ?_
    refine callP X hx hZ hown (W := 1) (argsL := [(.int cc)]) (rest := [(.int (F1 cc))]) (hw _ (List.mem_of_getElem? (i := 25) rfl)) (hw _ (List.mem_of_getElem? (i := 26) rfl)) (hw _ (List.mem_of_getElem? (i := 27) rfl)) (hw _ (List.mem_of_getElem? (i := 28) rfl)) (by decide) (rm2 l Z a0 hw [] cc h34) rfl rfl eT (by decide) (by decide) (by decide) (by decide) (by rw [hml]; rfl) pd0 rfl rfl (Nat.le_of_ble_eq_true rfl) (hb hby at_225) (q := 228) rfl ?_
    intro T X eT
    refine f_icmp_ne X hx (hb hby at_228) (q1 := 235) (by decide) (by decide) (q := 231) rfl (fun hc228 => ?_) (fun hc228 => ?_)
    · refine s_iconst X hx (z := (0 : Int32)) (hb hby at_235) rfl (q := 236) rfl ?_
      exact absurd (own_eq _) hc228
    refine s_iconst X hx (z := (1 : Int32)) (hb hby at_231) rfl (q := 232) rfl ?_
    refine s_goto X hx (hb hby at_232) (q1 := 236) (by decide) (by decide) ?_
    exact leafN X hx hlk hret (by simp) (hb hby at_236) (by decide) (by decide) (z' := 1) rfl ⟨rfl, N⟩
  refine s_iloadN X hx (hb hby at_197) rfl (q := 198) rfl ?_
  refine s_istoreN X hx (hb hby at_198) (L' := #[.val (.int x0), .val (.int x1), .val (.ref a1), .val (.int x0)]) rfl (q := 199) rfl ?_
  refine s_goto X hx (hb hby at_199) (q1 := 220) (by decide) (by decide) ?_
  refine s_iloadN X hx (hb hby at_220) rfl (q := 221) rfl ?_
  refine callP X hx hZ hown (W := 0) (argsL := [(.int x0)]) (rest := []) (hw _ (List.mem_of_getElem? (i := 19) rfl)) (hw _ (List.mem_of_getElem? (i := 20) rfl)) (hw _ (List.mem_of_getElem? (i := 21) rfl)) (hw _ (List.mem_of_getElem? (i := 22) rfl)) (by decide) (rm1 l Z a0 hw [] x0 h34) rfl rfl eT (by decide) (by decide) (by decide) (by decide) (by rw [hml]; rfl) pd0 rfl rfl (Nat.le_of_ble_eq_true rfl) (hb hby at_221) (q := 224) rfl ?_
  intro T X eT
  refine s_iloadN X hx (hb hby at_224) rfl (q := 225) rfl ?_
  refine callP X hx hZ hown (W := 1) (argsL := [(.int x0)]) (rest := [(.int (F1 x0))]) (hw _ (List.mem_of_getElem? (i := 25) rfl)) (hw _ (List.mem_of_getElem? (i := 26) rfl)) (hw _ (List.mem_of_getElem? (i := 27) rfl)) (hw _ (List.mem_of_getElem? (i := 28) rfl)) (by decide) (rm2 l Z a0 hw [] x0 h34) rfl rfl eT (by decide) (by decide) (by decide) (by decide) (by rw [hml]; rfl) pd0 rfl rfl (Nat.le_of_ble_eq_true rfl) (hb hby at_225) (q := 228) rfl ?_
  intro T X eT
  refine f_icmp_ne X hx (hb hby at_228) (q1 := 235) (by decide) (by decide) (q := 231) rfl (fun hc228 => ?_) (fun hc228 => ?_)
  · refine s_iconst X hx (z := (0 : Int32)) (hb hby at_235) rfl (q := 236) rfl ?_
    exact absurd (own_eq _) hc228
  refine s_iconst X hx (z := (1 : Int32)) (hb hby at_231) rfl (q := 232) rfl ?_
  refine s_goto X hx (hb hby at_232) (q1 := 236) (by decide) (by decide) ?_
  exact leafN X hx hlk hret (by simp) (hb hby at_236) (by decide) (by decide) (z' := 1) rfl ⟨rfl, N⟩
set_option maxRecDepth 65536 in
set_option maxHeartbeats 40000000 in
theorem comes_1 {Post : Tables → Env → Array Value → State → Outcome → State → Prop} (hpost : ∀ tb e args s v u, (limb_1_1.after args s (.returned v) u = true ∧ limb_1_2.after args s (.returned v) u = true ∧ True) → FrameEnd s (.returned v) u (Jvm.fieldLocs frame_1_writes args s ++ Jvm.arrayLocs frame_1_arrays args s ++ Jvm.staticLocs frame_1_statics s) 16 128 → Post tb e args s (.returned v) u) :
    ArmFor flags0 classFile x code maxLocals ret World_1 tables_1 room_1 Calls_1 rest_1 Pre_1 Post := by
  intro l hfl _ _ p e ha hc hk s m args below hf hA hF happ hP
  obtain ⟨hcalls, hrest, hpre⟩ := hP
  obtain ⟨-, -, -, hnamed, -, -, -, hat⟩ := (Spec.applies_iff hf).mp happ
  obtain ⟨hg, hn⟩ := and_e (Cond.before_iff.mp (show (Jvm.Cond.and given_1 narrow_1).before args s = true from hpre))
  obtain ⟨g1, g2⟩ := and_e hg
  obtain ⟨g3, g4⟩ := and_e g2
  obtain ⟨w0, w1, rfl⟩ : ∃ w0 w1 : Value, args = #[w0, w1] := by
    have hs : args.size = 2 := by simpa [Cond.value, given_1] using g1
    obtain ⟨L⟩ := args
    match L, hs with
    | [w0, w1], _ => exact ⟨w0, w1, rfl⟩
  have hw := fun d (hd : d ∈ tables_1) => atoms_spec (ws := Jvm.Cond.code x code maxLocals ret :: tables_1) hat d (List.mem_cons_of_mem _ hd)
  obtain ⟨i0, ei0⟩ := is_v g3
  obtain rfl : w0 = (.int i0) := Option.some.inj ei0
  obtain ⟨i1, ei1⟩ := is_v g4
  obtain rfl : w1 = (.int i1) := Option.some.inj ei1
  obtain ⟨n, o, h1, h2, h3, _, L, rfl, ⟨rfl, N⟩, hq⟩ := rm0 l s _ hw tables_1 i0 i1 s.heap s.heap.size (Nat.le_refl _) p e ha hc hk s m _ below hf ((Spec.applies_iff_loose hf).mp happ).1 ⟨rfl, State.Warmed39.refl s, rfl⟩ trivial
  refine ⟨n, _, h1, h2, h3, hpost _ _ _ _ _ _ ⟨Cond.after_iff.mpr rfl, Cond.after_iff.mpr (eq_i res_at (Term.int_eval (1)) rfl), trivial⟩ ⟨hq.1, hq.2.1, (hq.2.2.sift fun y hy => Or.inr (N y hy)).mono (by decide) (by decide)⟩⟩
theorem main_1_1 : Claimed_1_1 := comes_1 fun _ _ _ _ _ _ h hF => ⟨h.1, hF⟩
theorem main_1_2 : Claimed_1_2 := comes_1 fun _ _ _ _ _ _ h hF => ⟨h.2.1, hF⟩
end Jvm.Pilot.@@N@@
namespace Jvm.Pilot.@@N@@
open Jvm Jvm.ClassFile Sem Op Lib Jvm.Free Jvm.Stand Jvm.Pilot.@@N@@.Jvm.D
/-! MADE BY PROGRAM (witnessworld.py) out of the Statement's table words and the real class files: 9 classes; the members and pool entries that the words name. The judged class is class 1, her method 2. -/
namespace start1
open Jvm.ClassFile
def u (s : String) : CpInfo := .utf8 (stringToUtf16 s)
/-- a pool by its gaps: so many unusable entries, then the entry; so many at the end -/
def gap : Nat → List CpInfo → List CpInfo
  | 0, r => r
  | n + 1, r => .unusable :: gap n r
def poolList (es : List (Nat × CpInfo)) (last : Nat) : List CpInfo := es.foldr (fun e r => gap e.1 (e.2 :: r)) (gap last [])
def pool (es : List (Nat × CpInfo)) (last : Nat) : Array CpInfo := ⟨poolList es last⟩
def fileOf (pool : Array CpInfo) (this : Nat) (attrs : Array Attribute := #[]) (ms : Array MethodInfo := #[]) (fl : Nat := 33) (sup : Nat := 0) (ifs : Array Nat := #[]) (fds : Array FieldInfo := #[]) : ClassFile where
  minorVersion := 0
  majorVersion := 65
  constantPool := pool
  accessFlags := fl
  thisClass := this
  superClass := sup
  interfaces := ifs
  fields := fds
  methods := ms
  attributes := attrs
def plain (name : String) (sup : Option ClassId) : Class where
  name := name
  kind := .ordinary
  loader := none
  accessFlags := 33
  super := sup
  interfaces := #[]
  cf := none
  fields := #[]
  methods := #[]
  instanceTypes := #[]
  staticTypes := #[]
  resolved := #[]
  callSites := []
  init := .initialized
  statics := none
  mirror := none

def pool0 : Array CpInfo := pool [(5, u "<init>"), (0, u "()V"), (1, .class_ 10), (1, u "java/lang/Object")] 113

def k0m0 : Method := { name := "<init>", desc := "()V", sig := { parameters := [], returnType := none }, accessFlags := 1, code := none }
/-- java/lang/Object -/
def k0 : Class := { plain "java/lang/Object" none with
  accessFlags := 33
  interfaces := #[]
  cf := some (fileOf pool0 8 #[] #[{ accessFlags := 1, nameIndex := 5, descriptorIndex := 6, attributes := #[] }] 33 0 #[] #[])
  fields := #[]
  methods := #[k0m0]
  instanceTypes := #[]
  staticTypes := #[]
  resolved := Array.replicate 124 none
  statics := none }

def pool1 : Array CpInfo := pool [(2, .class_ 4), (1, u "java/lang/Object"), (0, u "<init>"), (0, u "()V"), (0, .integer 1114111), (0, .integer 55296), (0, .integer 57343), (0, .integer 65534), (0, .integer 65535), (0, .integer 55295), (0, .integer 56319), (0, .integer 56320), (0, .integer 57344), (0, .integer 65533), (0, .integer 65536), (0, .integer 1114112), (2, .integer 2147483648), (0, .integer 2147483647), (0, .integer 65279), (0, .integer 131071), (0, .integer 983039), (0, .integer 4294901760), (0, .methodref 28 29), (0, .class_ 30), (0, .nameAndType 31 32), (0, u "com/example/libhedge/libhedge/automaton/ShortestValue"), (0, u "isXmlChar"), (0, u "(I)Z"), (0, .methodref 34 35), (0, .class_ 36), (0, .nameAndType 37 32), (0, u "com/example/libhedge/libhedge/automaton/ShortestValueIsXmlCharPinLaw"), (0, u "reference"), (3, u "law"), (0, u "(II)Z")] 4

def k1m0 : Method := { name := "<init>", desc := "()V", sig := { parameters := [], returnType := none }, accessFlags := 1, code := none }
def k1c1 : Code := { maxStack := 2, maxLocals := 5, code := method_2_code, exceptionTable := #[], attributes := #[] }
def k1m1 : Method := { name := "reference", desc := "(I)Z", sig := { parameters := [.int], returnType := some .boolean }, accessFlags := 10, code := some k1c1 }
def k1c2 : Code := { maxStack := 4, maxLocals := 4, code := code, exceptionTable := #[], attributes := #[] }
def k1m2 : Method := { name := "law", desc := "(II)Z", sig := { parameters := [.int, .int], returnType := some .boolean }, accessFlags := 9, code := some k1c2 }
/-- com/example/libhedge/libhedge/automaton/ShortestValueIsXmlCharPinLaw -/
def k1 : Class := { plain "com/example/libhedge/libhedge/automaton/ShortestValueIsXmlCharPinLaw" (some 0) with
  accessFlags := 49
  interfaces := #[]
  cf := some (fileOf pool1 34 #[] #[{ accessFlags := 1, nameIndex := 5, descriptorIndex := 6, attributes := #[] }, { accessFlags := 10, nameIndex := 37, descriptorIndex := 32, attributes := #[] }, { accessFlags := 9, nameIndex := 41, descriptorIndex := 42, attributes := #[] }] 49 2 #[] #[])
  fields := #[]
  methods := #[k1m0, k1m1, k1m2]
  instanceTypes := #[]
  staticTypes := #[]
  resolved := Array.replicate 47 none
  statics := none }

def pool2 : Array CpInfo := pool [(2, .class_ 4), (1, u "java/lang/Object"), (32, .class_ 39), (1, u "com/example/libhedge/libhedge/automaton/ShortestValue"), (0, u "numbers"), (0, u "[I"), (6, u "negated"), (0, u "[Z"), (25, u "[Lcom/example/libhedge/libhedge/automaton/ValueLanguage$Basic;"), (2, u "basics"), (7, .class_ 87), (0, u "com/example/libhedge/libhedge/automaton/ShortestValue$Tuple"), (71, .class_ 160), (0, u "com/example/libhedge/libhedge/automaton/ShortestValue$Step"), (15, u "(I)Z"), (21, u "ORDER"), (0, u "Ljava/util/Comparator;"), (57, .integer 1114111), (2, u "isXmlChar"), (15, .integer 55295), (0, .integer 57344), (0, .integer 65533), (0, .integer 65536), (46, u "FIRST"), (0, u "Ljava/lang/String;")] 91

def k2c0 : Code := { maxStack := 2, maxLocals := 1, code := prog_19_method_9_code, exceptionTable := #[], attributes := #[] }
def k2m0 : Method := { name := "isXmlChar", desc := "(I)Z", sig := { parameters := [.int], returnType := some .boolean }, accessFlags := 8, code := some k2c0 }
/-- com/example/libhedge/libhedge/automaton/ShortestValue -/
def k2 : Class := { plain "com/example/libhedge/libhedge/automaton/ShortestValue" (some 0) with
  accessFlags := 32
  interfaces := #[]
  cf := some (fileOf pool2 37 #[.nestMembers #[159, 86]] #[{ accessFlags := 8, nameIndex := 260, descriptorIndex := 176, attributes := #[] }] 32 2 #[] #[{ accessFlags := 26, nameIndex := 326, descriptorIndex := 327, attributes := #[] }, { accessFlags := 26, nameIndex := 198, descriptorIndex := 199, attributes := #[] }, { accessFlags := 18, nameIndex := 78, descriptorIndex := 75, attributes := #[] }, { accessFlags := 18, nameIndex := 40, descriptorIndex := 41, attributes := #[] }, { accessFlags := 18, nameIndex := 48, descriptorIndex := 49, attributes := #[] }])
  fields := #[{ name := "FIRST", type := (.object "java/lang/String"), accessFlags := 26, slot := 0, constantValue := 0 }, { name := "ORDER", type := (.object "java/util/Comparator"), accessFlags := 26, slot := 1, constantValue := 0 }, { name := "basics", type := (.array (.object "com/example/libhedge/libhedge/automaton/ValueLanguage$Basic")), accessFlags := 18, slot := 0, constantValue := 0 }, { name := "numbers", type := (.array .int), accessFlags := 18, slot := 1, constantValue := 0 }, { name := "negated", type := (.array .boolean), accessFlags := 18, slot := 2, constantValue := 0 }]
  methods := #[k2m0]
  instanceTypes := #[(.array (.object "com/example/libhedge/libhedge/automaton/ValueLanguage$Basic")), (.array .int), (.array .boolean)]
  staticTypes := #[(.object "java/lang/String"), (.object "java/util/Comparator")]
  resolved := Array.replicate 419 none
  statics := none }

def pool3 : Array CpInfo := pool [(1, u "java/lang/Cloneable"), (0, .class_ 1), (0, u "java/lang/Object"), (0, .class_ 3)] 3

/-- java/lang/Cloneable -/
def k3 : Class := { plain "java/lang/Cloneable" (some 0) with
  accessFlags := 1537
  interfaces := #[]
  cf := some (fileOf pool3 2 #[] #[] 1537 4 #[] #[])
  fields := #[]
  methods := #[]
  instanceTypes := #[]
  staticTypes := #[]
  resolved := Array.replicate 8 none
  statics := none }

def pool4 : Array CpInfo := pool [(1, u "java/io/Serializable"), (0, .class_ 1), (0, u "java/lang/Object"), (0, .class_ 3)] 3

/-- java/io/Serializable -/
def k4 : Class := { plain "java/io/Serializable" (some 0) with
  accessFlags := 1537
  interfaces := #[]
  cf := some (fileOf pool4 2 #[] #[] 1537 4 #[] #[])
  fields := #[]
  methods := #[]
  instanceTypes := #[]
  staticTypes := #[]
  resolved := Array.replicate 8 none
  statics := none }

/-- the primitive byte -/
def k5 : Class := { plain "byte" none with kind := .primitive 'B', accessFlags := 0x411 }
/-- [B -/
def k6 : Class := { plain "[B" (some 0) with kind := .array 5 .byte, interfaces := #[3, 4], accessFlags := 1041 }

/-- the primitive int -/
def k7 : Class := { plain "int" none with kind := .primitive 'I', accessFlags := 0x411 }
/-- [I -/
def k8 : Class := { plain "[I" (some 0) with kind := .array 7 .int, interfaces := #[3, 4], accessFlags := 1041 }

def heap : Heap := #[]
def classes : Array Class := #[k0, k1, k2, k3, k4, k5, k6, k7, k8]
def interned : List (Array UInt16 × Addr) := []
def slotsUsed : Nat := 0
def theMethod : MethodId := ⟨1, 2⟩
def args0 : Array Value := #[.int 5, .int 7]
def aboutOver (below : List Frame) : State where
  vm := { classes := classes, interned := interned.toArray }
  heap := heap
  slotsUsed := slotsUsed
  threads := #[{ frames := .invoking theMethod args0 :: below }]
def below0 : List Frame := [.native { method := ⟨0, 0⟩, args := #[] }]
def about1 : State := aboutOver below0
def p0 : Program := .bare "" "" ""
def e0 : Env := launch0.env 0 0 0
theorem w_frames : about1.frames = Frame.invoking theMethod args0 :: below0 := rfl
set_option maxRecDepth 65536 in
theorem w_args : argsFit about1.vm theMethod args0 = true := by decide +kernel
set_option maxRecDepth 65536 in
theorem w_heap : heapFits about1 = true := by decide +kernel
set_option maxRecDepth 65536 in
theorem w_runnable : about1.curStatus? = some .runnable := by decide +kernel
set_option maxRecDepth 65536 in
theorem w_alone : about1.alone = true := by decide +kernel
set_option maxRecDepth 65536 in
theorem w_named : about1.methodNamed? x = some theMethod := by decide +kernel
set_option maxRecDepth 65536 in
theorem w_hears : about1.hears theMethod below0 = true := by decide +kernel
set_option maxRecDepth 65536 in
theorem w_ripe : about1.ripe theMethod args0 below0 = true := by decide +kernel
theorem w_running : about1.status = .running := rfl
set_option maxRecDepth 65536 in
theorem w_room : about1.hasRoom e0.platform room_1 = true :=
  launch0.hasRoom_least _ room_1 (by decide +kernel) (by decide +kernel) (by decide +kernel) (by decide +kernel) (by decide +kernel) (by decide +kernel)
theorem allAtoms_all (ts : List Jvm.Cond) (a : Array Jvm.Value) (st : Jvm.State) : (allAtoms ts).before a st = ts.all (fun c => c.before a st) := by
  induction ts with
  | nil => rfl
  | cons c t ih =>
    show (Jvm.Cond.and c (allAtoms t)).before a st = _
    rw [Jvm.Cond.before_and, ih, List.all_cons]
def words1 : List Jvm.Cond := Jvm.Cond.code x code maxLocals ret :: tables_1
/-- a 'code' word, met by the world's own term for the bytes: nothing is compared byte by byte -/
theorem code_word {y : MethodName} {bytes : ByteArray} {mx : Nat} {rt : Option FieldType} {a : Array Value} {s : State} {m : MethodId} {meth : Method} {c : Code} (h1 : s.methodNamed? y = some m) (h2 : s.vm.method? m = some meth) (h3 : meth.code = some c) (h4 : c.code = bytes)
    (h5 : (c.maxLocals == mx && c.exceptionTable.isEmpty && decide (c.maxStack ≤ mostOperands) && decide (meth.sig.returnType = rt) && !meth.locks && decide (parseMethodDescriptor y.desc = some meth.sig)) = true) : (Jvm.Cond.code y bytes mx rt).before a s = true := by
  simp only [Bool.and_eq_true, beq_iff_eq, Bool.not_eq_true', decide_eq_true_eq] at h5
  obtain ⟨⟨⟨⟨⟨g1, g2⟩, g3⟩, g4⟩, g5⟩, g6⟩ := h5
  simp [Cond.before, Cond.holds, Cond.value, h1, h2, h3, h4, g1, g2, g3, g4, g5, g6]
def isCode : Jvm.Cond → Bool
  | .code _ _ _ _ => true
  | _ => false
theorem all_split {L : List Jvm.Cond} {P : Jvm.Cond → Bool} (h1 : L.all (fun c => isCode c || P c) = true) (h2 : ∀ c ∈ L.filter isCode, P c = true) : L.all P = true := by
  refine List.all_eq_true.mpr fun c hc => ?_
  have h := List.all_eq_true.mp h1 c hc
  rcases Bool.eq_false_or_eq_true (isCode c) with hi | hi
  · exact h2 c (List.mem_filter.mpr ⟨hc, hi⟩)
  · simpa [hi] using h
set_option maxRecDepth 65536 in
theorem w_c0 : (Jvm.Cond.code x code maxLocals ret).before args0 about1 = true := code_word (m := ⟨1, 2⟩) (meth := k1m2) (c := k1c2) (by decide +kernel) rfl rfl rfl (by decide +kernel)
set_option maxRecDepth 65536 in
theorem w_c1 : (Jvm.Cond.code ({ cls := "com/example/libhedge/libhedge/automaton/ShortestValue", name := "isXmlChar", desc := "(I)Z" } : Jvm.MethodName) prog_19_method_9_code (1 : Nat) (Option.some Jvm.ClassFile.FieldType.boolean)).before args0 about1 = true := code_word (m := ⟨2, 0⟩) (meth := k2m0) (c := k2c0) (by decide +kernel) rfl rfl rfl (by decide +kernel)
set_option maxRecDepth 65536 in
theorem w_c2 : (Jvm.Cond.code ({ cls := "com/example/libhedge/libhedge/automaton/ShortestValueIsXmlCharPinLaw", name := "reference", desc := "(I)Z" } : Jvm.MethodName) method_2_code (5 : Nat) (Option.some Jvm.ClassFile.FieldType.boolean)).before args0 about1 = true := code_word (m := ⟨1, 1⟩) (meth := k1m1) (c := k1c1) (by decide +kernel) rfl rfl rfl (by decide +kernel)
def codes1 : List Jvm.Cond := [Jvm.Cond.code x code maxLocals ret, Jvm.Cond.code ({ cls := "com/example/libhedge/libhedge/automaton/ShortestValue", name := "isXmlChar", desc := "(I)Z" } : Jvm.MethodName) prog_19_method_9_code (1 : Nat) (Option.some Jvm.ClassFile.FieldType.boolean), Jvm.Cond.code ({ cls := "com/example/libhedge/libhedge/automaton/ShortestValueIsXmlCharPinLaw", name := "reference", desc := "(I)Z" } : Jvm.MethodName) method_2_code (5 : Nat) (Option.some Jvm.ClassFile.FieldType.boolean)]
set_option maxRecDepth 65536 in
theorem codes_eq : words1.filter isCode = codes1 := rfl
theorem w_codes : ∀ c ∈ words1.filter isCode, c.before args0 about1 = true := by
  rw [codes_eq]
  intro c hc
  simp only [codes1, List.mem_cons, List.not_mem_nil, or_false] at hc
  rcases hc with rfl | rfl | rfl
  · exact w_c0
  · exact w_c1
  · exact w_c2
set_option maxRecDepth 65536 in
theorem w_t1 : (words1.take 24).all (fun c => isCode c || c.before args0 about1) = true := by decide +kernel
set_option maxRecDepth 65536 in
theorem w_t2 : (words1.drop 24).all (fun c => isCode c || c.before args0 about1) = true := by decide +kernel
theorem w_tables : (allAtoms (Jvm.Cond.code x code maxLocals ret :: tables_1)).before args0 about1 = true := by
  rw [allAtoms_all]
  show words1.all (fun c => c.before args0 about1) = true
  refine all_split ?_ w_codes
  rw [← List.take_append_drop 24 words1, List.all_append, w_t1, w_t2]
  rfl
set_option maxRecDepth 65536 in
theorem w_case : (Jvm.Cond.and given_1 narrow_1).before args0 about1 = true := by decide +kernel
theorem w_applies : (headSpec (Jvm.Cond.code x code maxLocals ret :: tables_1) room_1).applies x e0.platform about1 = true :=
  (Spec.applies_iff w_frames).mpr ⟨w_running, w_runnable, w_alone, w_named, w_hears, w_ripe, w_room, w_tables⟩
theorem atStart : AtStart classFile x code maxLocals ret World_1 tables_1 room_1 Calls_1 rest_1 Pre_1 launch0 p0 e0 about1 theMethod args0 below0 :=
  ⟨lists_1, trivial, launch0.admits_env _ _ _, launch0.least_env, fairChoices_fair.cas, fairChoices_fair.clock, w_frames, w_args, w_heap, w_applies, trivial, trivial, w_case⟩
end start1
theorem witness_1 : WitnessClaimed_1 := ⟨start1.p0, start1.e0, start1.about1, start1.theMethod, start1.args0, start1.below0, start1.atStart⟩
end Jvm.Pilot.@@N@@
