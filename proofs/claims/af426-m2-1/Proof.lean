import JvmDerived
import JvmDerived.Pilot.@@N@@Statement
import JvmDerived.Pilot.@@N@@Code
set_option linter.unusedVariables false
set_option linter.unusedSimpArgs false
namespace Jvm.RoadKit
open Sem ClassFile Op Lib Jvm.Stand Jvm.Free Jvm.LawKit
section New
variable {p : Program} {l : Launch} {e : Env} {R : Room} {s : State} {m : MethodId} {args : Array Value} {below : List Frame} {meth : Method} {c : Code} {T : State} {locs : List Loc} {cells slots : Nat}
theorem retI (X : Stand p l e R s m args below meth c T locs cells slots) (hx : p.tables.exec = Jvm.exec) {pc : Nat} {Ls : Array Slot} {z : Int32} {rest : List Value} (hret : meth.sig.returnType = some .int) (hd : decode c.code pc = .ok (.ireturn, 1)) {fs : List Frame}
    (hl : ∀ (f : JFrame) (acts : List Action), f.method = m → f.locked = none → f.entered = [] → (doReturn e (T.setTop f) acts (some (.int z))).1 = T.setFrames fs) : Steps p.tables e below (T.setTop (mkF m pc Ls (.int z :: rest))) (T.setFrames fs) := by
  have hm' : T.vm.method? m = some meth := X.method'
  have hn : narrow .int (.int z) = .int z := rfl
  show Steps p.tables e below (T.setTop { method := m, pc := pc, locals := Ls, stack := _ :: rest, locked := none }) _
  jvm_step X.here [X.here.top, hx, hd, hm', hret, hn]
  first | (intro acts; rw [hl _ acts rfl rfl rfl]) | rw [hl _ _ rfl rfl rfl]
  exact Steps.refl _
end New
end Jvm.RoadKit
namespace Jvm.Pilot.@@N@@
open Jvm Jvm.ClassFile Sem Op Lib Jvm.Free Jvm.Stand Jvm.LawKit Jvm.RoadKit Bundle Jvm.Pilot.@@N@@.Jvm.D
section Kit
variable {p : Program} {l : Launch} {e : Env} {R : Room} {s : State} {m : MethodId} {args : Array Value} {below : List Frame} {meth : Method} {c : Code} {T : State} {locs : List Loc} {cells slots : Nat} {G : State → Prop} {L L' : Array Slot} {S : List Value} {pc q q1 : Nat}
/-- from this frame the run comes to a state of which G holds -/
def Go (p : Program) (e : Env) (below : List Frame) (G : State → Prop) (T : State) (m : MethodId) (pc : Nat) (L : Array Slot) (S : List Value) : Prop := ∃ t, Steps p.tables e below (T.setTop (mkF m pc L S)) t ∧ G t
theorem Go.st {T' : State} {m' : MethodId} {pc' : Nat} {S' : List Value} (h : ∀ t, Steps p.tables e below (T'.setTop (mkF m' pc' L' S')) t → Steps p.tables e below (T.setTop (mkF m pc L S)) t) (k : Go p e below G T' m' pc' L' S') : Go p e below G T m pc L S := by
  obtain ⟨t, h1, h2⟩ := k; exact ⟨t, h t h1, h2⟩
theorem jn {T2 : State} {pc2 : Nat} {L2 : Array Slot} {S2 : List Value} (k : Go p e below G T2 m pc2 L2 S2 → Go p e below G T m pc L S) (K : Go p e below G T2 m pc2 L2 S2) : Go p e below G T m pc L S := k K
/-- what a body that returns leaves -/
def Gl (s : State) (below : List Frame) (Q : Option Value → Heap → List Loc → Prop) (C N : Nat) (t : State) : Prop := ∃ o, t.status = .running ∧ Ended t below o ∧ ∃ v L, o = .returned v ∧ Q v t.heap L ∧ FrameEnd s o t L C N
/-- a contract -/
def Ctr (l : Launch) (y : MethodName) (code : ByteArray) (ml : Nat) (ret : Option FieldType) (ws : List Jvm.Cond) (rm : Room) (Z : State) (as' : Array Value) (h0 : Heap) (Q : Option Value → Heap → List Loc → Prop) (C N : Nat) : Prop :=
  MetFree l y (head1 (Jvm.Cond.code y code ml ret :: ws) rm) (fun a U => a = as' ∧ Z.Warmed39 U.vm ∧ U.heap = h0) (fun _ _ _ _ _ => True) (fun _ U o U' => ∃ v L, o = .returned v ∧ Q v U'.heap L ∧ FrameEnd U o U' L C N)
theorem Ctr.mk {y : MethodName} {code : ByteArray} {ml : Nat} {ret : Option FieldType} {ws : List Jvm.Cond} {rm : Room} {Z : State} {as' : Array Value} {h0 : Heap} {Q : Option Value → Heap → List Loc → Prop} {C N : Nat} (hp : plainFor y = true)
    (body : ∀ (p : Program) (e : Env) (s : State) (m : MethodId) (below : List Frame) (meth : Method) (c : Code) (T : State), p.tables.exec = Jvm.exec → c.code = code → c.maxLocals = ml → s.vm.findClass y.cls = some m.cls → meth.name = y.name → meth.locks = false → meth.sig.returnType = ret → Z.Warmed39 s.vm → Stand p l e rm s m as' below meth c T [] 0 0 → T.heap = h0 → ∃ t, Steps p.tables e below (T.setTop (entryFrame m as' ml)) t ∧ Gl s below Q C N t) : Ctr l y code ml ret ws rm Z as' h0 Q C N := by
  refine MetFree.of_bodySF hp hisR ?_
  intro p e s m args below meth c s₁ Bd hml0 hP hK
  obtain ⟨rfl, hZ, hh⟩ := hP
  obtain ⟨t, h1, o, h2, h3, h4⟩ := body p e s m below meth c s₁ Bd.exec Bd.bytes hml0 (findClass_of_methodNamed Bd.named) (name_of_methodNamed Bd.named Bd.method).1 Bd.notSynchronized Bd.returns hZ (Stand.of_body Bd) (by rw [← hh, Bd.state]; rfl)
  exact ⟨t, o, h1, h2, h3, h4⟩
theorem enter {as' : Array Value} {ml : Nat} (q : entryFrame m as' ml = mkF m 0 L []) (k : Go p e below G T m 0 L []) : ∃ t, Steps p.tables e below (T.setTop (entryFrame m as' ml)) t ∧ G t := by
  rw [q]; exact k
theorem s_iloadN (X : Stand p l e R s m args below meth c T locs cells slots) (hx : p.tables.exec = Jvm.exec) {k : Fin 4} {v : Int32} (hd : decode c.code pc = .ok (.iload_n k, 1)) (hl : L[k.val]? = some (.val (.int v))) (hq : pc + 1 = q) (K : Go p e below G T m q L (.int v :: S)) : Go p e below G T m pc L S := by
  subst hq; exact Go.st (fun t k => XS.iloadN X.here hx rfl hd hl k) K
theorem s_iload (X : Stand p l e R s m args below meth c T locs cells slots) (hx : p.tables.exec = Jvm.exec) {k : Nat} {v : Int32} (hd : decode c.code pc = .ok (.iload k, 2)) (hl : L[k]? = some (.val (.int v))) (hq : pc + 2 = q) (K : Go p e below G T m q L (.int v :: S)) : Go p e below G T m pc L S := by
  subst hq; exact Go.st (fun t k => XS.iload X.here hx rfl hd hl k) K
theorem s_lloadN (X : Stand p l e R s m args below meth c T locs cells slots) (hx : p.tables.exec = Jvm.exec) {k : Fin 4} {v : Int64} (hd : decode c.code pc = .ok (.lload_n k, 1)) (hl : L[k.val]? = some (.val (.long v))) (hq : pc + 1 = q) (K : Go p e below G T m q L (.long v :: S)) : Go p e below G T m pc L S := by
  subst hq; exact Go.st (fun t k => XS.lloadN X.here hx rfl hd hl k) K
theorem s_lload (X : Stand p l e R s m args below meth c T locs cells slots) (hx : p.tables.exec = Jvm.exec) {k : Nat} {v : Int64} (hd : decode c.code pc = .ok (.lload k, 2)) (hl : L[k]? = some (.val (.long v))) (hq : pc + 2 = q) (K : Go p e below G T m q L (.long v :: S)) : Go p e below G T m pc L S := by
  subst hq; exact Go.st (fun t k => XS.lload X.here hx rfl hd hl k) K
theorem s_aloadN (X : Stand p l e R s m args below meth c T locs cells slots) (hx : p.tables.exec = Jvm.exec) {k : Fin 4} {v : Value} (hd : decode c.code pc = .ok (.aload_n k, 1)) (hl : L[k.val]? = some (.val v)) (hv : v.isRef = true) (hq : pc + 1 = q) (K : Go p e below G T m q L (v :: S)) : Go p e below G T m pc L S := by
  subst hq; exact Go.st (fun t k => XS.aloadN X.here hx rfl hd hl hv k) K
theorem s_aload (X : Stand p l e R s m args below meth c T locs cells slots) (hx : p.tables.exec = Jvm.exec) {k : Nat} {v : Value} (hd : decode c.code pc = .ok (.aload k, 2)) (hl : L[k]? = some (.val v)) (hv : v.isRef = true) (hq : pc + 2 = q) (K : Go p e below G T m q L (v :: S)) : Go p e below G T m pc L S := by
  subst hq; exact Go.st (fun t k => XS.aload X.here hx rfl hd hl hv k) K
theorem s_istoreN (X : Stand p l e R s m args below meth c T locs cells slots) (hx : p.tables.exec = Jvm.exec) {k : Fin 4} {x : Int32} (hd : decode c.code pc = .ok (.istore_n k, 1)) (hl : storeLocals L k.val (.int x) = some L') (hq : pc + 1 = q) (K : Go p e below G T m q L' S) : Go p e below G T m pc L (.int x :: S) := by
  subst hq; exact Go.st (fun t k => XS.istoreN X.here hx rfl hd rfl hl k) K
theorem s_istore (X : Stand p l e R s m args below meth c T locs cells slots) (hx : p.tables.exec = Jvm.exec) {k : Nat} {x : Int32} (hd : decode c.code pc = .ok (.istore k, 2)) (hl : storeLocals L k (.int x) = some L') (hq : pc + 2 = q) (K : Go p e below G T m q L' S) : Go p e below G T m pc L (.int x :: S) := by
  subst hq; exact Go.st (fun t k => XS.istore X.here hx rfl hd rfl hl k) K
theorem s_lstoreN (X : Stand p l e R s m args below meth c T locs cells slots) (hx : p.tables.exec = Jvm.exec) {k : Fin 4} {x : Int64} (hd : decode c.code pc = .ok (.lstore_n k, 1)) (hl : storeLocals L k.val (.long x) = some L') (hq : pc + 1 = q) (K : Go p e below G T m q L' S) : Go p e below G T m pc L (.long x :: S) := by
  subst hq; exact Go.st (fun t k => XS.lstoreN X.here hx rfl hd rfl hl k) K
theorem s_lstore (X : Stand p l e R s m args below meth c T locs cells slots) (hx : p.tables.exec = Jvm.exec) {k : Nat} {x : Int64} (hd : decode c.code pc = .ok (.lstore k, 2)) (hl : storeLocals L k (.long x) = some L') (hq : pc + 2 = q) (K : Go p e below G T m q L' S) : Go p e below G T m pc L (.long x :: S) := by
  subst hq; exact Go.st (fun t k => XS.lstore X.here hx rfl hd rfl hl k) K
theorem s_astoreN (X : Stand p l e R s m args below meth c T locs cells slots) (hx : p.tables.exec = Jvm.exec) {k : Fin 4} {x : Value} (hd : decode c.code pc = .ok (.astore_n k, 1)) (hv : x.isRef = true) (hl : storeLocals L k.val x = some L') (hq : pc + 1 = q) (K : Go p e below G T m q L' S) : Go p e below G T m pc L (x :: S) := by
  subst hq; exact Go.st (fun t k => XS.astoreN X.here hx rfl hd rfl hv hl k) K
theorem s_astore (X : Stand p l e R s m args below meth c T locs cells slots) (hx : p.tables.exec = Jvm.exec) {k : Nat} {x : Value} (hd : decode c.code pc = .ok (.astore k, 2)) (hv : x.isRef = true) (hl : storeLocals L k x = some L') (hq : pc + 2 = q) (K : Go p e below G T m q L' S) : Go p e below G T m pc L (x :: S) := by
  subst hq; exact Go.st (fun t k => XS.astore X.here hx rfl hd rfl hv hl k) K
theorem s_iconst (X : Stand p l e R s m args below meth c T locs cells slots) (hx : p.tables.exec = Jvm.exec) {i : Int} {z : Int32} (hd : decode c.code pc = .ok (.iconst i, 1)) (hz : Int32.ofInt i = z) (hq : pc + 1 = q) (K : Go p e below G T m q L (.int z :: S)) : Go p e below G T m pc L S := by
  subst hq hz; exact Go.st (fun t k => XS.iconst X.here hx rfl hd k) K
theorem s_bipush (X : Stand p l e R s m args below meth c T locs cells slots) (hx : p.tables.exec = Jvm.exec) {i : Int} {z : Int32} (hd : decode c.code pc = .ok (.bipush i, 2)) (hz : (Int8.ofInt i).toInt32 = z) (hq : pc + 2 = q) (K : Go p e below G T m q L (.int z :: S)) : Go p e below G T m pc L S := by
  subst hq hz; exact Go.st (fun t k => XS.bipush X.here hx rfl hd k) K
theorem s_sipush (X : Stand p l e R s m args below meth c T locs cells slots) (hx : p.tables.exec = Jvm.exec) {i : Int} {z : Int32} (hd : decode c.code pc = .ok (.sipush i, 3)) (hz : (Int16.ofInt i).toInt32 = z) (hq : pc + 3 = q) (K : Go p e below G T m q L (.int z :: S)) : Go p e below G T m pc L S := by
  subst hq hz; exact Go.st (fun t k => XS.sipush X.here hx rfl hd k) K
theorem s_lconst (X : Stand p l e R s m args below meth c T locs cells slots) (hx : p.tables.exec = Jvm.exec) {i : Fin 2} {z : Int64} (hd : decode c.code pc = .ok (.lconst i, 1)) (hz : Int64.ofNat i.val = z) (hq : pc + 1 = q) (K : Go p e below G T m q L (.long z :: S)) : Go p e below G T m pc L S := by
  subst hq hz; exact Go.st (fun t k => XS.lconst X.here hx rfl hd k) K
theorem s_aconst_null (X : Stand p l e R s m args below meth c T locs cells slots) (hx : p.tables.exec = Jvm.exec)  (hd : decode c.code pc = .ok (.aconst_null, 1))  (hq : pc + 1 = q) (K : Go p e below G T m q L (.null :: S)) : Go p e below G T m pc L S := by
  subst hq; exact Go.st (fun t k => XS.aconstNull X.here hx rfl hd k) K
theorem s_iadd (X : Stand p l e R s m args below meth c T locs cells slots) (hx : p.tables.exec = Jvm.exec) {x y : Int32} (hd : decode c.code pc = .ok (.iadd, 1))  (hq : pc + 1 = q) (K : Go p e below G T m q L (.int (x + y) :: S)) : Go p e below G T m pc L (.int y :: .int x :: S) := by
  subst hq; exact Go.st (fun t k => XS.iadd X.here hx rfl hd rfl k) K
theorem s_isub (X : Stand p l e R s m args below meth c T locs cells slots) (hx : p.tables.exec = Jvm.exec) {x y : Int32} (hd : decode c.code pc = .ok (.isub, 1))  (hq : pc + 1 = q) (K : Go p e below G T m q L (.int (x - y) :: S)) : Go p e below G T m pc L (.int y :: .int x :: S) := by
  subst hq; exact Go.st (fun t k => XS.isub X.here hx rfl hd rfl k) K
theorem s_imul (X : Stand p l e R s m args below meth c T locs cells slots) (hx : p.tables.exec = Jvm.exec) {x y : Int32} (hd : decode c.code pc = .ok (.imul, 1))  (hq : pc + 1 = q) (K : Go p e below G T m q L (.int (x * y) :: S)) : Go p e below G T m pc L (.int y :: .int x :: S) := by
  subst hq; exact Go.st (fun t k => XS.imul X.here hx rfl hd rfl k) K
theorem s_iand (X : Stand p l e R s m args below meth c T locs cells slots) (hx : p.tables.exec = Jvm.exec) {x y : Int32} (hd : decode c.code pc = .ok (.iand, 1))  (hq : pc + 1 = q) (K : Go p e below G T m q L (.int (x &&& y) :: S)) : Go p e below G T m pc L (.int y :: .int x :: S) := by
  subst hq; exact Go.st (fun t k => XS.iand X.here hx rfl hd rfl k) K
theorem s_ior (X : Stand p l e R s m args below meth c T locs cells slots) (hx : p.tables.exec = Jvm.exec) {x y : Int32} (hd : decode c.code pc = .ok (.ior, 1))  (hq : pc + 1 = q) (K : Go p e below G T m q L (.int (x ||| y) :: S)) : Go p e below G T m pc L (.int y :: .int x :: S) := by
  subst hq; exact Go.st (fun t k => XS.ior X.here hx rfl hd rfl k) K
theorem s_ixor (X : Stand p l e R s m args below meth c T locs cells slots) (hx : p.tables.exec = Jvm.exec) {x y : Int32} (hd : decode c.code pc = .ok (.ixor, 1))  (hq : pc + 1 = q) (K : Go p e below G T m q L (.int (x ^^^ y) :: S)) : Go p e below G T m pc L (.int y :: .int x :: S) := by
  subst hq; exact Go.st (fun t k => XS.ixor X.here hx rfl hd rfl k) K
theorem s_ladd (X : Stand p l e R s m args below meth c T locs cells slots) (hx : p.tables.exec = Jvm.exec) {x y : Int64} (hd : decode c.code pc = .ok (.ladd, 1))  (hq : pc + 1 = q) (K : Go p e below G T m q L (.long (x + y) :: S)) : Go p e below G T m pc L (.long y :: .long x :: S) := by
  subst hq; exact Go.st (fun t k => XS.ladd X.here hx rfl hd rfl k) K
theorem s_lsub (X : Stand p l e R s m args below meth c T locs cells slots) (hx : p.tables.exec = Jvm.exec) {x y : Int64} (hd : decode c.code pc = .ok (.lsub, 1))  (hq : pc + 1 = q) (K : Go p e below G T m q L (.long (x - y) :: S)) : Go p e below G T m pc L (.long y :: .long x :: S) := by
  subst hq; exact Go.st (fun t k => XS.lsub X.here hx rfl hd rfl k) K
theorem s_lmul (X : Stand p l e R s m args below meth c T locs cells slots) (hx : p.tables.exec = Jvm.exec) {x y : Int64} (hd : decode c.code pc = .ok (.lmul, 1))  (hq : pc + 1 = q) (K : Go p e below G T m q L (.long (x * y) :: S)) : Go p e below G T m pc L (.long y :: .long x :: S) := by
  subst hq; exact Go.st (fun t k => XS.lmul X.here hx rfl hd rfl k) K
theorem s_land (X : Stand p l e R s m args below meth c T locs cells slots) (hx : p.tables.exec = Jvm.exec) {x y : Int64} (hd : decode c.code pc = .ok (.land, 1))  (hq : pc + 1 = q) (K : Go p e below G T m q L (.long (x &&& y) :: S)) : Go p e below G T m pc L (.long y :: .long x :: S) := by
  subst hq; exact Go.st (fun t k => XS.land X.here hx rfl hd rfl k) K
theorem s_lor (X : Stand p l e R s m args below meth c T locs cells slots) (hx : p.tables.exec = Jvm.exec) {x y : Int64} (hd : decode c.code pc = .ok (.lor, 1))  (hq : pc + 1 = q) (K : Go p e below G T m q L (.long (x ||| y) :: S)) : Go p e below G T m pc L (.long y :: .long x :: S) := by
  subst hq; exact Go.st (fun t k => XS.lor X.here hx rfl hd rfl k) K
theorem s_lxor (X : Stand p l e R s m args below meth c T locs cells slots) (hx : p.tables.exec = Jvm.exec) {x y : Int64} (hd : decode c.code pc = .ok (.lxor, 1))  (hq : pc + 1 = q) (K : Go p e below G T m q L (.long (x ^^^ y) :: S)) : Go p e below G T m pc L (.long y :: .long x :: S) := by
  subst hq; exact Go.st (fun t k => XS.lxor X.here hx rfl hd rfl k) K
theorem s_ishl (X : Stand p l e R s m args below meth c T locs cells slots) (hx : p.tables.exec = Jvm.exec) {x y : Int32} (hd : decode c.code pc = .ok (.ishl, 1))  (hq : pc + 1 = q) (K : Go p e below G T m q L (.int (x <<< (y &&& 31)) :: S)) : Go p e below G T m pc L (.int y :: .int x :: S) := by
  subst hq; exact Go.st (fun t k => XS.ishl X.here hx rfl hd rfl k) K
theorem s_ishr (X : Stand p l e R s m args below meth c T locs cells slots) (hx : p.tables.exec = Jvm.exec) {x y : Int32} (hd : decode c.code pc = .ok (.ishr, 1))  (hq : pc + 1 = q) (K : Go p e below G T m q L (.int (x >>> (y &&& 31)) :: S)) : Go p e below G T m pc L (.int y :: .int x :: S) := by
  subst hq; exact Go.st (fun t k => XS.ishr X.here hx rfl hd rfl k) K
theorem s_iushr (X : Stand p l e R s m args below meth c T locs cells slots) (hx : p.tables.exec = Jvm.exec) {x y : Int32} (hd : decode c.code pc = .ok (.iushr, 1))  (hq : pc + 1 = q) (K : Go p e below G T m q L (.int ((x.toUInt32 >>> (y &&& 31).toUInt32).toInt32) :: S)) : Go p e below G T m pc L (.int y :: .int x :: S) := by
  subst hq; exact Go.st (fun t k => XS.iushr X.here hx rfl hd rfl k) K
theorem s_lshl (X : Stand p l e R s m args below meth c T locs cells slots) (hx : p.tables.exec = Jvm.exec) {x : Int64} {y : Int32} (hd : decode c.code pc = .ok (.lshl, 1))  (hq : pc + 1 = q) (K : Go p e below G T m q L (.long (x <<< (y &&& 0x3f).toInt64) :: S)) : Go p e below G T m pc L (.int y :: .long x :: S) := by
  subst hq; exact Go.st (fun t k => XS.lshl X.here hx rfl hd rfl k) K
theorem s_lshr (X : Stand p l e R s m args below meth c T locs cells slots) (hx : p.tables.exec = Jvm.exec) {x : Int64} {y : Int32} (hd : decode c.code pc = .ok (.lshr, 1))  (hq : pc + 1 = q) (K : Go p e below G T m q L (.long (x >>> (y &&& 0x3f).toInt64) :: S)) : Go p e below G T m pc L (.int y :: .long x :: S) := by
  subst hq; exact Go.st (fun t k => XS.lshr X.here hx rfl hd rfl k) K
theorem s_lushr (X : Stand p l e R s m args below meth c T locs cells slots) (hx : p.tables.exec = Jvm.exec) {x : Int64} {y : Int32} (hd : decode c.code pc = .ok (.lushr, 1))  (hq : pc + 1 = q) (K : Go p e below G T m q L (.long ((x.toUInt64 >>> (y &&& 0x3f).toInt64.toUInt64).toInt64) :: S)) : Go p e below G T m pc L (.int y :: .long x :: S) := by
  subst hq; exact Go.st (fun t k => XS.lushr X.here hx rfl hd rfl k) K
theorem s_idiv (X : Stand p l e R s m args below meth c T locs cells slots) (hx : p.tables.exec = Jvm.exec) {x y : Int32} (hd : decode c.code pc = .ok (.idiv, 1)) (hy : y ≠ 0) (hq : pc + 1 = q) (K : Go p e below G T m q L (.int (x / y) :: S)) : Go p e below G T m pc L (.int y :: .int x :: S) := by
  subst hq; exact Go.st (fun t k => XS.idiv X.here hx rfl hd rfl hy k) K
theorem s_ldiv (X : Stand p l e R s m args below meth c T locs cells slots) (hx : p.tables.exec = Jvm.exec) {x y : Int64} (hd : decode c.code pc = .ok (.ldiv, 1)) (hy : y ≠ 0) (hq : pc + 1 = q) (K : Go p e below G T m q L (.long (x / y) :: S)) : Go p e below G T m pc L (.long y :: .long x :: S) := by
  subst hq; exact Go.st (fun t k => XS.ldiv X.here hx rfl hd rfl hy k) K
theorem s_ineg (X : Stand p l e R s m args below meth c T locs cells slots) (hx : p.tables.exec = Jvm.exec) {x : Int32} (hd : decode c.code pc = .ok (.ineg, 1))  (hq : pc + 1 = q) (K : Go p e below G T m q L (.int (-x) :: S)) : Go p e below G T m pc L (.int x :: S) := by
  subst hq; exact Go.st (fun t k => XS.ineg X.here hx rfl hd rfl k) K
theorem s_lneg (X : Stand p l e R s m args below meth c T locs cells slots) (hx : p.tables.exec = Jvm.exec) {x : Int64} (hd : decode c.code pc = .ok (.lneg, 1))  (hq : pc + 1 = q) (K : Go p e below G T m q L (.long (-x) :: S)) : Go p e below G T m pc L (.long x :: S) := by
  subst hq; exact Go.st (fun t k => XS.lneg X.here hx rfl hd rfl k) K
theorem s_i2l (X : Stand p l e R s m args below meth c T locs cells slots) (hx : p.tables.exec = Jvm.exec) {x : Int32} (hd : decode c.code pc = .ok (.i2l, 1))  (hq : pc + 1 = q) (K : Go p e below G T m q L (.long x.toInt64 :: S)) : Go p e below G T m pc L (.int x :: S) := by
  subst hq; exact Go.st (fun t k => XS.i2l X.here hx rfl hd rfl k) K
theorem s_l2i (X : Stand p l e R s m args below meth c T locs cells slots) (hx : p.tables.exec = Jvm.exec) {x : Int64} (hd : decode c.code pc = .ok (.l2i, 1))  (hq : pc + 1 = q) (K : Go p e below G T m q L (.int x.toInt32 :: S)) : Go p e below G T m pc L (.long x :: S) := by
  subst hq; exact Go.st (fun t k => XS.l2i X.here hx rfl hd rfl k) K
theorem s_i2b (X : Stand p l e R s m args below meth c T locs cells slots) (hx : p.tables.exec = Jvm.exec) {x : Int32} (hd : decode c.code pc = .ok (.i2b, 1))  (hq : pc + 1 = q) (K : Go p e below G T m q L (.int x.toInt8.toInt32 :: S)) : Go p e below G T m pc L (.int x :: S) := by
  subst hq; exact Go.st (fun t k => XS.i2b X.here hx rfl hd rfl k) K
theorem s_i2c (X : Stand p l e R s m args below meth c T locs cells slots) (hx : p.tables.exec = Jvm.exec) {x : Int32} (hd : decode c.code pc = .ok (.i2c, 1))  (hq : pc + 1 = q) (K : Go p e below G T m q L (.int x.toUInt32.toUInt16.toUInt32.toInt32 :: S)) : Go p e below G T m pc L (.int x :: S) := by
  subst hq; exact Go.st (fun t k => XS.i2c X.here hx rfl hd rfl k) K
theorem s_i2s (X : Stand p l e R s m args below meth c T locs cells slots) (hx : p.tables.exec = Jvm.exec) {x : Int32} (hd : decode c.code pc = .ok (.i2s, 1))  (hq : pc + 1 = q) (K : Go p e below G T m q L (.int x.toInt16.toInt32 :: S)) : Go p e below G T m pc L (.int x :: S) := by
  subst hq; exact Go.st (fun t k => XS.i2s X.here hx rfl hd rfl k) K
theorem s_lcmp (X : Stand p l e R s m args below meth c T locs cells slots) (hx : p.tables.exec = Jvm.exec) {x y : Int64} (hd : decode c.code pc = .ok (.lcmp, 1))  (hq : pc + 1 = q) (K : Go p e below G T m q L (.int (lcmpW x y) :: S)) : Go p e below G T m pc L (.long y :: .long x :: S) := by
  subst hq; exact Go.st (fun t k => XS.lcmp X.here hx rfl hd rfl k) K
theorem s_iinc (X : Stand p l e R s m args below meth c T locs cells slots) (hx : p.tables.exec = Jvm.exec) {k : Nat} {cst : Int} {x w : Int32} (hd : decode c.code pc = .ok (.iinc k cst, 3)) (hl : L[k]? = some (.val (.int x))) (hw : x + Int32.ofInt cst = w) (hl' : storeLocals L k (.int w) = some L') (hq : pc + 3 = q) (K : Go p e below G T m q L' S) : Go p e below G T m pc L S := by
  subst hq hw; exact Go.st (fun t k => XS.iinc X.here hx rfl hd hl hl' k) K
theorem s_dup (X : Stand p l e R s m args below meth c T locs cells slots) (hx : p.tables.exec = Jvm.exec) {x : Value} (hd : decode c.code pc = .ok (.dup, 1)) (hc : x.category = 1) (hq : pc + 1 = q) (K : Go p e below G T m q L (x :: x :: S)) : Go p e below G T m pc L (x :: S) := by
  subst hq; exact Go.st (fun t k => XS.dup X.here hx rfl hd rfl hc k) K
theorem s_dup_x1 (X : Stand p l e R s m args below meth c T locs cells slots) (hx : p.tables.exec = Jvm.exec) {x y : Value} (hd : decode c.code pc = .ok (.dup_x1, 1)) (hc : x.category = 1) (hc' : y.category = 1) (hq : pc + 1 = q) (K : Go p e below G T m q L (x :: y :: x :: S)) : Go p e below G T m pc L (x :: y :: S) := by
  subst hq; exact Go.st (fun t k => XS.dupX1 X.here hx rfl hd rfl hc hc' k) K
theorem s_dup2 (X : Stand p l e R s m args below meth c T locs cells slots) (hx : p.tables.exec = Jvm.exec) {x y : Value} (hd : decode c.code pc = .ok (.dup2, 1)) (hc : x.category = 1) (hc' : y.category = 1) (hq : pc + 1 = q) (K : Go p e below G T m q L (x :: y :: x :: y :: S)) : Go p e below G T m pc L (x :: y :: S) := by
  subst hq; exact Go.st (fun t k => Jvm.Free.XT.dup2 X.here hx rfl hd rfl hc hc' k) K
theorem s_dup2L (X : Stand p l e R s m args below meth c T locs cells slots) (hx : p.tables.exec = Jvm.exec) {x : Int64} (hd : decode c.code pc = .ok (.dup2, 1))  (hq : pc + 1 = q) (K : Go p e below G T m q L (.long x :: .long x :: S)) : Go p e below G T m pc L (.long x :: S) := by
  subst hq; exact Go.st (fun t k => Jvm.Free.XT.dup2L X.here hx rfl hd rfl k) K
theorem s_pop (X : Stand p l e R s m args below meth c T locs cells slots) (hx : p.tables.exec = Jvm.exec) {x : Value} (hd : decode c.code pc = .ok (.pop, 1)) (hc : x.category = 1) (hq : pc + 1 = q) (K : Go p e below G T m q L S) : Go p e below G T m pc L (x :: S) := by
  subst hq; exact Go.st (fun t k => XS.pop X.here hx rfl hd rfl hc k) K
theorem s_goto (X : Stand p l e R s m args below meth c T locs cells slots) (hx : p.tables.exec = Jvm.exec) {o : Int} (hd : decode c.code pc = .ok (.goto o, 3)) (ho : 0 ≤ (pc : Int) + o) (hp : ((pc : Int) + o).toNat = q1) (K : Go p e below G T m q1 L S) : Go p e below G T m pc L S := Go.st (fun t k => XS.goto X.here hx rfl rfl hd ho hp k) K
theorem f_icmp_lt (X : Stand p l e R s m args below meth c T locs cells slots) (hx : p.tables.exec = Jvm.exec) {x y : Int32} {o : Int} (hd : decode c.code pc = .ok (.if_icmp .lt o, 3)) (ho : 0 ≤ (pc : Int) + o) (hp : ((pc : Int) + o).toNat = q1) (hq : pc + 3 = q) (ky : x < y → Go p e below G T m q1 L S) (kn : ¬ x < y → Go p e below G T m q L S) : Go p e below G T m pc L (.int y :: .int x :: S) := by
  subst hq
  by_cases h : x < y
  · exact Go.st (fun t k => XS.icmpYes X.here hx rfl rfl hd rfl (tlt h).1 ho hp k) (ky h)
  · exact Go.st (fun t k => XS.icmpNo X.here hx rfl hd rfl (flt h).1 k) (kn h)
theorem f_if_lt (X : Stand p l e R s m args below meth c T locs cells slots) (hx : p.tables.exec = Jvm.exec) {x : Int32} {o : Int} (hd : decode c.code pc = .ok (.ifCond .lt o, 3)) (ho : 0 ≤ (pc : Int) + o) (hp : ((pc : Int) + o).toNat = q1) (hq : pc + 3 = q) (ky : x < 0 → Go p e below G T m q1 L S) (kn : ¬ x < 0 → Go p e below G T m q L S) : Go p e below G T m pc L (.int x :: S) := by
  subst hq
  by_cases h : x < 0
  · exact Go.st (fun t k => XS.ifYes X.here hx rfl rfl hd rfl ((if0 _ _).trans (tlt h).1) ho hp k) (ky h)
  · exact Go.st (fun t k => XS.ifNo X.here hx rfl hd rfl ((if0 _ _).trans (flt h).1) k) (kn h)
theorem f_lcmp_lt (X : Stand p l e R s m args below meth c T locs cells slots) (hx : p.tables.exec = Jvm.exec) {x y : Int64} {o : Int} (hd : decode c.code pc = .ok (.ifCond .lt o, 3)) (ho : 0 ≤ (pc : Int) + o) (hp : ((pc : Int) + o).toNat = q1) (hq : pc + 3 = q) (ky : x < y → Go p e below G T m q1 L S) (kn : ¬ x < y → Go p e below G T m q L S) : Go p e below G T m pc L (.int (lcmpW x y) :: S) :=
  f_if_lt X hx hd ho hp hq (fun h => ky ((lw_lt x y).mp h)) (fun h => kn (fun g => h ((lw_lt x y).mpr g)))
theorem f_icmp_ge (X : Stand p l e R s m args below meth c T locs cells slots) (hx : p.tables.exec = Jvm.exec) {x y : Int32} {o : Int} (hd : decode c.code pc = .ok (.if_icmp .ge o, 3)) (ho : 0 ≤ (pc : Int) + o) (hp : ((pc : Int) + o).toNat = q1) (hq : pc + 3 = q) (ky : ¬ x < y → Go p e below G T m q1 L S) (kn : x < y → Go p e below G T m q L S) : Go p e below G T m pc L (.int y :: .int x :: S) := by
  subst hq
  by_cases h : x < y
  · exact Go.st (fun t k => XS.icmpNo X.here hx rfl hd rfl (tlt h).2.1 k) (kn h)
  · exact Go.st (fun t k => XS.icmpYes X.here hx rfl rfl hd rfl (flt h).2.1 ho hp k) (ky h)
theorem f_if_ge (X : Stand p l e R s m args below meth c T locs cells slots) (hx : p.tables.exec = Jvm.exec) {x : Int32} {o : Int} (hd : decode c.code pc = .ok (.ifCond .ge o, 3)) (ho : 0 ≤ (pc : Int) + o) (hp : ((pc : Int) + o).toNat = q1) (hq : pc + 3 = q) (ky : ¬ x < 0 → Go p e below G T m q1 L S) (kn : x < 0 → Go p e below G T m q L S) : Go p e below G T m pc L (.int x :: S) := by
  subst hq
  by_cases h : x < 0
  · exact Go.st (fun t k => XS.ifNo X.here hx rfl hd rfl ((if0 _ _).trans (tlt h).2.1) k) (kn h)
  · exact Go.st (fun t k => XS.ifYes X.here hx rfl rfl hd rfl ((if0 _ _).trans (flt h).2.1) ho hp k) (ky h)
theorem f_lcmp_ge (X : Stand p l e R s m args below meth c T locs cells slots) (hx : p.tables.exec = Jvm.exec) {x y : Int64} {o : Int} (hd : decode c.code pc = .ok (.ifCond .ge o, 3)) (ho : 0 ≤ (pc : Int) + o) (hp : ((pc : Int) + o).toNat = q1) (hq : pc + 3 = q) (ky : ¬ x < y → Go p e below G T m q1 L S) (kn : x < y → Go p e below G T m q L S) : Go p e below G T m pc L (.int (lcmpW x y) :: S) :=
  f_if_ge X hx hd ho hp hq (fun h => ky (fun g => h ((lw_lt x y).mpr g))) (fun h => kn ((lw_lt x y).mp h))
theorem f_icmp_gt (X : Stand p l e R s m args below meth c T locs cells slots) (hx : p.tables.exec = Jvm.exec) {x y : Int32} {o : Int} (hd : decode c.code pc = .ok (.if_icmp .gt o, 3)) (ho : 0 ≤ (pc : Int) + o) (hp : ((pc : Int) + o).toNat = q1) (hq : pc + 3 = q) (ky : y < x → Go p e below G T m q1 L S) (kn : ¬ y < x → Go p e below G T m q L S) : Go p e below G T m pc L (.int y :: .int x :: S) := by
  subst hq
  by_cases h : y < x
  · exact Go.st (fun t k => XS.icmpYes X.here hx rfl rfl hd rfl (tlt h).2.2.1 ho hp k) (ky h)
  · exact Go.st (fun t k => XS.icmpNo X.here hx rfl hd rfl (flt h).2.2.1 k) (kn h)
theorem f_if_gt (X : Stand p l e R s m args below meth c T locs cells slots) (hx : p.tables.exec = Jvm.exec) {x : Int32} {o : Int} (hd : decode c.code pc = .ok (.ifCond .gt o, 3)) (ho : 0 ≤ (pc : Int) + o) (hp : ((pc : Int) + o).toNat = q1) (hq : pc + 3 = q) (ky : 0 < x → Go p e below G T m q1 L S) (kn : ¬ 0 < x → Go p e below G T m q L S) : Go p e below G T m pc L (.int x :: S) := by
  subst hq
  by_cases h : 0 < x
  · exact Go.st (fun t k => XS.ifYes X.here hx rfl rfl hd rfl ((if0 _ _).trans (tlt h).2.2.1) ho hp k) (ky h)
  · exact Go.st (fun t k => XS.ifNo X.here hx rfl hd rfl ((if0 _ _).trans (flt h).2.2.1) k) (kn h)
theorem f_lcmp_gt (X : Stand p l e R s m args below meth c T locs cells slots) (hx : p.tables.exec = Jvm.exec) {x y : Int64} {o : Int} (hd : decode c.code pc = .ok (.ifCond .gt o, 3)) (ho : 0 ≤ (pc : Int) + o) (hp : ((pc : Int) + o).toNat = q1) (hq : pc + 3 = q) (ky : y < x → Go p e below G T m q1 L S) (kn : ¬ y < x → Go p e below G T m q L S) : Go p e below G T m pc L (.int (lcmpW x y) :: S) :=
  f_if_gt X hx hd ho hp hq (fun h => ky ((lw_gt x y).mp h)) (fun h => kn (fun g => h ((lw_gt x y).mpr g)))
theorem f_icmp_le (X : Stand p l e R s m args below meth c T locs cells slots) (hx : p.tables.exec = Jvm.exec) {x y : Int32} {o : Int} (hd : decode c.code pc = .ok (.if_icmp .le o, 3)) (ho : 0 ≤ (pc : Int) + o) (hp : ((pc : Int) + o).toNat = q1) (hq : pc + 3 = q) (ky : ¬ y < x → Go p e below G T m q1 L S) (kn : y < x → Go p e below G T m q L S) : Go p e below G T m pc L (.int y :: .int x :: S) := by
  subst hq
  by_cases h : y < x
  · exact Go.st (fun t k => XS.icmpNo X.here hx rfl hd rfl (tlt h).2.2.2 k) (kn h)
  · exact Go.st (fun t k => XS.icmpYes X.here hx rfl rfl hd rfl (flt h).2.2.2 ho hp k) (ky h)
theorem f_if_le (X : Stand p l e R s m args below meth c T locs cells slots) (hx : p.tables.exec = Jvm.exec) {x : Int32} {o : Int} (hd : decode c.code pc = .ok (.ifCond .le o, 3)) (ho : 0 ≤ (pc : Int) + o) (hp : ((pc : Int) + o).toNat = q1) (hq : pc + 3 = q) (ky : ¬ 0 < x → Go p e below G T m q1 L S) (kn : 0 < x → Go p e below G T m q L S) : Go p e below G T m pc L (.int x :: S) := by
  subst hq
  by_cases h : 0 < x
  · exact Go.st (fun t k => XS.ifNo X.here hx rfl hd rfl ((if0 _ _).trans (tlt h).2.2.2) k) (kn h)
  · exact Go.st (fun t k => XS.ifYes X.here hx rfl rfl hd rfl ((if0 _ _).trans (flt h).2.2.2) ho hp k) (ky h)
theorem f_lcmp_le (X : Stand p l e R s m args below meth c T locs cells slots) (hx : p.tables.exec = Jvm.exec) {x y : Int64} {o : Int} (hd : decode c.code pc = .ok (.ifCond .le o, 3)) (ho : 0 ≤ (pc : Int) + o) (hp : ((pc : Int) + o).toNat = q1) (hq : pc + 3 = q) (ky : ¬ y < x → Go p e below G T m q1 L S) (kn : y < x → Go p e below G T m q L S) : Go p e below G T m pc L (.int (lcmpW x y) :: S) :=
  f_if_le X hx hd ho hp hq (fun h => ky (fun g => h ((lw_gt x y).mpr g))) (fun h => kn ((lw_gt x y).mp h))
theorem f_icmp_eq (X : Stand p l e R s m args below meth c T locs cells slots) (hx : p.tables.exec = Jvm.exec) {x y : Int32} {o : Int} (hd : decode c.code pc = .ok (.if_icmp .eq o, 3)) (ho : 0 ≤ (pc : Int) + o) (hp : ((pc : Int) + o).toNat = q1) (hq : pc + 3 = q) (ky : x = y → Go p e below G T m q1 L S) (kn : ¬ x = y → Go p e below G T m q L S) : Go p e below G T m pc L (.int y :: .int x :: S) := by
  subst hq
  by_cases h : x = y
  · exact Go.st (fun t k => XS.icmpYes X.here hx rfl rfl hd rfl (teq h).1 ho hp k) (ky h)
  · exact Go.st (fun t k => XS.icmpNo X.here hx rfl hd rfl (feq h).1 k) (kn h)
theorem f_if_eq (X : Stand p l e R s m args below meth c T locs cells slots) (hx : p.tables.exec = Jvm.exec) {x : Int32} {o : Int} (hd : decode c.code pc = .ok (.ifCond .eq o, 3)) (ho : 0 ≤ (pc : Int) + o) (hp : ((pc : Int) + o).toNat = q1) (hq : pc + 3 = q) (ky : x = 0 → Go p e below G T m q1 L S) (kn : ¬ x = 0 → Go p e below G T m q L S) : Go p e below G T m pc L (.int x :: S) := by
  subst hq
  by_cases h : x = 0
  · exact Go.st (fun t k => XS.ifYes X.here hx rfl rfl hd rfl ((if0 _ _).trans (teq h).1) ho hp k) (ky h)
  · exact Go.st (fun t k => XS.ifNo X.here hx rfl hd rfl ((if0 _ _).trans (feq h).1) k) (kn h)
theorem f_lcmp_eq (X : Stand p l e R s m args below meth c T locs cells slots) (hx : p.tables.exec = Jvm.exec) {x y : Int64} {o : Int} (hd : decode c.code pc = .ok (.ifCond .eq o, 3)) (ho : 0 ≤ (pc : Int) + o) (hp : ((pc : Int) + o).toNat = q1) (hq : pc + 3 = q) (ky : x = y → Go p e below G T m q1 L S) (kn : ¬ x = y → Go p e below G T m q L S) : Go p e below G T m pc L (.int (lcmpW x y) :: S) :=
  f_if_eq X hx hd ho hp hq (fun h => ky ((lw_eq x y).mp h)) (fun h => kn (fun g => h ((lw_eq x y).mpr g)))
theorem f_icmp_ne (X : Stand p l e R s m args below meth c T locs cells slots) (hx : p.tables.exec = Jvm.exec) {x y : Int32} {o : Int} (hd : decode c.code pc = .ok (.if_icmp .ne o, 3)) (ho : 0 ≤ (pc : Int) + o) (hp : ((pc : Int) + o).toNat = q1) (hq : pc + 3 = q) (ky : ¬ x = y → Go p e below G T m q1 L S) (kn : x = y → Go p e below G T m q L S) : Go p e below G T m pc L (.int y :: .int x :: S) := by
  subst hq
  by_cases h : x = y
  · exact Go.st (fun t k => XS.icmpNo X.here hx rfl hd rfl (teq h).2 k) (kn h)
  · exact Go.st (fun t k => XS.icmpYes X.here hx rfl rfl hd rfl (feq h).2 ho hp k) (ky h)
theorem f_if_ne (X : Stand p l e R s m args below meth c T locs cells slots) (hx : p.tables.exec = Jvm.exec) {x : Int32} {o : Int} (hd : decode c.code pc = .ok (.ifCond .ne o, 3)) (ho : 0 ≤ (pc : Int) + o) (hp : ((pc : Int) + o).toNat = q1) (hq : pc + 3 = q) (ky : ¬ x = 0 → Go p e below G T m q1 L S) (kn : x = 0 → Go p e below G T m q L S) : Go p e below G T m pc L (.int x :: S) := by
  subst hq
  by_cases h : x = 0
  · exact Go.st (fun t k => XS.ifNo X.here hx rfl hd rfl ((if0 _ _).trans (teq h).2) k) (kn h)
  · exact Go.st (fun t k => XS.ifYes X.here hx rfl rfl hd rfl ((if0 _ _).trans (feq h).2) ho hp k) (ky h)
theorem f_lcmp_ne (X : Stand p l e R s m args below meth c T locs cells slots) (hx : p.tables.exec = Jvm.exec) {x y : Int64} {o : Int} (hd : decode c.code pc = .ok (.ifCond .ne o, 3)) (ho : 0 ≤ (pc : Int) + o) (hp : ((pc : Int) + o).toNat = q1) (hq : pc + 3 = q) (ky : ¬ x = y → Go p e below G T m q1 L S) (kn : x = y → Go p e below G T m q L S) : Go p e below G T m pc L (.int (lcmpW x y) :: S) :=
  f_if_ne X hx hd ho hp hq (fun h => ky (fun g => h ((lw_eq x y).mpr g))) (fun h => kn ((lw_eq x y).mp h))
theorem s_ifnullYes (X : Stand p l e R s m args below meth c T locs cells slots) (hx : p.tables.exec = Jvm.exec) {o : Int} (hd : decode c.code pc = .ok (.ifnull o, 3)) (ho : 0 ≤ (pc : Int) + o) (hp : ((pc : Int) + o).toNat = q1) (K : Go p e below G T m q1 L S) : Go p e below G T m pc L (.null :: S) := Go.st (fun t k => XS.ifnullYes X.here hx rfl rfl hd rfl ho hp k) K
theorem s_ifnullNo (X : Stand p l e R s m args below meth c T locs cells slots) (hx : p.tables.exec = Jvm.exec) {o : Int} {b : Addr} (hd : decode c.code pc = .ok (.ifnull o, 3))  (hq : pc + 3 = q) (K : Go p e below G T m q L S) : Go p e below G T m pc L (.ref b :: S) := by
  subst hq; exact Go.st (fun t k => XS.ifnullNo X.here hx rfl hd rfl k) K
theorem s_ifnonnullYes (X : Stand p l e R s m args below meth c T locs cells slots) (hx : p.tables.exec = Jvm.exec) {o : Int} {b : Addr} (hd : decode c.code pc = .ok (.ifnonnull o, 3)) (ho : 0 ≤ (pc : Int) + o) (hp : ((pc : Int) + o).toNat = q1) (K : Go p e below G T m q1 L S) : Go p e below G T m pc L (.ref b :: S) := Go.st (fun t k => XS.ifnonnullYes X.here hx rfl rfl hd rfl ho hp k) K
theorem s_ifnonnullNo (X : Stand p l e R s m args below meth c T locs cells slots) (hx : p.tables.exec = Jvm.exec) {o : Int} (hd : decode c.code pc = .ok (.ifnonnull o, 3))  (hq : pc + 3 = q) (K : Go p e below G T m q L S) : Go p e below G T m pc L (.null :: S) := by
  subst hq; exact Go.st (fun t k => XS.ifnonnullNo X.here hx rfl hd rfl k) K
theorem s_acmp (X : Stand p l e R s m args below meth c T locs cells slots) (hx : p.tables.exec = Jvm.exec) {cd : ClassFile.ACond} {x y : Value} {o : Int} {same : Bool} (hd : decode c.code pc = .ok (.if_acmp cd o, 3)) (h1 : x.isRef = true) (h2 : y.isRef = true) (hs : decide (x = y) = same) (ho : 0 ≤ (pc : Int) + o) (hp : q1 = if acV cd same = true then ((pc : Int) + o).toNat else pc + 3) (K : Go p e below G T m q1 L S) : Go p e below G T m pc L (y :: x :: S) := Go.st (fun t k => Jvm.RoadKit.acmp (g := mkF m pc L (y :: x :: S)) X hx rfl h1 h2 rfl hd rfl hs ho hp k) K
variable {Z : State} {a0 : Array Value} {h h' : Heap} {a b : Addr} {own C O n d : String} {v : Value} {n0 : Nat}
theorem s_ldc (X : Stand p l e R s m args below meth c T locs cells slots) (hx : p.tables.exec = Jvm.exec) (hZ : Z.Warmed39 s.vm) (hown : s.vm.findClass own = some m.cls) {index : Nat} {z : Int32} (w : (Jvm.Cond.constant own index z).before a0 Z = true) (hd : decode c.code pc = .ok (.ldc index, 2)) (hq : pc + 2 = q) (K : Go p e below G T m q L (.int z :: S)) : Go p e below G T m pc L S := by
  subst hq; exact Go.st (fun t k => X.ldcInt hx hown (mvT hZ w) (g := mkF m pc L S) rfl hd t k) K
theorem s_ldcw (X : Stand p l e R s m args below meth c T locs cells slots) (hx : p.tables.exec = Jvm.exec) (hZ : Z.Warmed39 s.vm) (hown : s.vm.findClass own = some m.cls) {index : Nat} {z : Int32} (w : (Jvm.Cond.constant own index z).before a0 Z = true) (hd : decode c.code pc = .ok (.ldc_w index, 3)) (hq : pc + 3 = q) (K : Go p e below G T m q L (.int z :: S)) : Go p e below G T m pc L S := by
  subst hq; exact Go.st (fun t k => X.ldcwInt hx hown (mvT hZ w) (g := mkF m pc L S) rfl hd t k) K
theorem s_ldc2 (X : Stand p l e R s m args below meth c T locs cells slots) (hx : p.tables.exec = Jvm.exec) (hZ : Z.Warmed39 s.vm) (hown : s.vm.findClass own = some m.cls) {index : Nat} {z : Int64} (w : (Jvm.Cond.constantLong own index z).before a0 Z = true) (hd : decode c.code pc = .ok (.ldc2_w index, 3)) (hq : pc + 3 = q) (K : Go p e below G T m q L (.long z :: S)) : Go p e below G T m pc L S := by
  subst hq; exact Go.st (fun t k => X.ldc2Long hx hown (mvT hZ w) (g := mkF m pc L S) rfl hd t k) K
theorem s_lrem (X : Stand p l e R s m args below meth c T locs cells slots) (hx : p.tables.exec = Jvm.exec) {x y : Int64} (hd : decode c.code pc = .ok (.lrem, 1)) (hy : y ≠ 0) (hq : pc + 1 = q) (K : Go p e below G T m q L (.long (x % y) :: S)) : Go p e below G T m pc L (.long y :: .long x :: S) := by
  subst hq; rw [← lrem_mod] at K; exact Go.st (fun t k => XS.lrem X.here hx rfl hd rfl hy k) K
theorem irem_mod (x y : Int32) : x - (x / y) * y = x % y := by
  apply Int32.toInt_inj.mp
  have h1 := Int32.le_toInt (x % y)
  have h2 := Int32.toInt_lt (x % y)
  rw [Int32.toInt_sub, Int32.toInt_mul, Int32.toInt_div, Int.bmod_mul_bmod, Int.sub_bmod_bmod, Int.mul_comm (x.toInt.tdiv y.toInt), ← Int.tmod_def, ← Int32.toInt_mod]
  exact Int.bmod_eq_of_le_mul_two (by omega) (by omega)
theorem s_irem (X : Stand p l e R s m args below meth c T locs cells slots) (hx : p.tables.exec = Jvm.exec) {x y : Int32} (hd : decode c.code pc = .ok (.irem, 1)) (hy : y ≠ 0) (hq : pc + 1 = q) (K : Go p e below G T m q L (.int (x % y) :: S)) : Go p e below G T m pc L (.int y :: .int x :: S) := by
  subst hq; rw [← irem_mod] at K; exact Go.st (fun t k => XS.irem X.here hx rfl hd rfl hy k) K
theorem leafI (X : Stand p l e R s m args below meth c T locs cells slots) (hx : p.tables.exec = Jvm.exec) {z : Int32} {Q : Option Value → Heap → List Loc → Prop} {C N : Nat} (hlk : meth.locks = false) (hret : meth.sig.returnType = some .int) (hd : decode c.code pc = .ok (.ireturn, 1)) (hc : cells ≤ C) (hn : slots ≤ N) (hQ : Q (some (.int z)) T.heap locs) : Go p e below (Gl s below Q C N) T m pc L (.int z :: S) := by
  obtain ⟨fs, hr, hrun, hended, hW, hsame⟩ := X.leave (v := some (.int z)) (fun h => by rw [hret] at h; cases h) hlk
  exact ⟨_, retI X hx hret hd hr, _, hrun, hended, _, _, rfl, hQ, ⟨_, rfl⟩, hW, hsame.mono hc hn⟩
theorem leafN (X : Stand p l e R s m args below meth c T locs cells slots) (hx : p.tables.exec = Jvm.exec) {t : FieldType} {z z' : Int32} {Q : Option Value → Heap → List Loc → Prop} {C N : Nat} (hlk : meth.locks = false) (hret : meth.sig.returnType = some t) (ht : t = .boolean ∨ t = .byte ∨ t = .char ∨ t = .short) (hd : decode c.code pc = .ok (.ireturn, 1)) (hc : cells ≤ C) (hn : slots ≤ N) (hz : nar t z = z') (hQ : Q (some (.int z')) T.heap locs) : Go p e below (Gl s below Q C N) T m pc L (.int z :: S) := by
  subst hz
  obtain ⟨fs, hr, hrun, hended, hW, hsame⟩ := X.leave (v := some (.int (nar t z))) (fun h => by rw [hret] at h; cases h) hlk
  exact ⟨_, retN X hx hret ht hd hr, _, hrun, hended, _, _, rfl, hQ, ⟨_, rfl⟩, hW, hsame.mono hc hn⟩
theorem leafJ (X : Stand p l e R s m args below meth c T locs cells slots) (hx : p.tables.exec = Jvm.exec) {z : Int64} {Q : Option Value → Heap → List Loc → Prop} {C N : Nat} (hlk : meth.locks = false) (hret : meth.sig.returnType = some .long) (hd : decode c.code pc = .ok (.lreturn, 1)) (hc : cells ≤ C) (hn : slots ≤ N) (hQ : Q (some (.long z)) T.heap locs) : Go p e below (Gl s below Q C N) T m pc L (.long z :: S) := by
  obtain ⟨fs, hr, hrun, hended, hW, hsame⟩ := X.leave (v := some (.long z)) (fun h => by rw [hret] at h; cases h) hlk
  refine ⟨_, ?_, _, hrun, hended, _, _, rfl, hQ, ⟨_, rfl⟩, hW, hsame.mono hc hn⟩
  show Steps p.tables e below (T.setTop { method := m, pc := pc, locals := L, stack := .long z :: S, locked := none }) _
  jvm_step X.here [X.here.top, hx, hd, X.method', hret, narrow]
  first | (intro acts; rw [hr _ acts rfl rfl rfl]) | rw [hr _ _ rfl rfl rfl]
  exact Steps.refl _
theorem leafA (X : Stand p l e R s m args below meth c T locs cells slots) (hx : p.tables.exec = Jvm.exec) {v : Value} {t : FieldType} {Q : Option Value → Heap → List Loc → Prop} {C N : Nat} (hlk : meth.locks = false) (hret : meth.sig.returnType = some t) (ht : t.isReference = true) (hv : v.isRef = true) (hd : decode c.code pc = .ok (.areturn, 1)) (hc : cells ≤ C) (hn : slots ≤ N) (hQ : Q (some v) T.heap locs) : Go p e below (Gl s below Q C N) T m pc L (v :: S) := by
  obtain ⟨fs, hr, hrun, hended, hW, hsame⟩ := X.leave (v := some v) (fun h => by rw [hret] at h; cases h) hlk
  refine ⟨_, ?_, _, hrun, hended, _, _, rfl, hQ, ⟨_, rfl⟩, hW, hsame.mono hc hn⟩
  show Steps p.tables e below (T.setTop { method := m, pc := pc, locals := L, stack := v :: S, locked := none }) _
  jvm_step X.here [X.here.top, hx, hd, X.method', hret, hv, ht]
  first | (intro acts; rw [hr _ acts rfl rfl rfl]) | rw [hr _ _ rfl rfl rfl]
  exact Steps.refl _
theorem leafV (X : Stand p l e R s m args below meth c T locs cells slots) (hx : p.tables.exec = Jvm.exec) {Q : Option Value → Heap → List Loc → Prop} {C N : Nat} (hlk : meth.locks = false) (hret : meth.sig.returnType = none) (hd : decode c.code pc = .ok (.return_, 1)) (hc : cells ≤ C) (hn : slots ≤ N) (hQ : Q none T.heap locs) : Go p e below (Gl s below Q C N) T m pc L [] := by
  obtain ⟨fs, hr, hrun, hended, hW, hsame⟩ := X.leave (v := none) (fun _ => rfl) hlk
  exact ⟨_, X.returnOut hx hret hd hr, _, hrun, hended, _, _, rfl, hQ, ⟨_, rfl⟩, hW, hsame.mono hc hn⟩
/-- a call by a contract -/
theorem callC (X : Stand p l e R s m args below meth c T locs cells slots) (hx : p.tables.exec = Jvm.exec) (hZ : Z.Warmed39 s.vm) (hown : s.vm.findClass own = some m.cls) {index : Nat} {y : MethodName} {bytes : ByteArray} {maxL : Nat} {ret : Option FieldType} {rm : Room} {Q : Option Value → Heap → List Loc → Prop} {W : Nat} {argsL rest : List Value}
    (w1 : (Jvm.Cond.methodLink own index y).before a0 Z = true) (w2 : (Jvm.Cond.static y).before a0 Z = true) (w3 : (Jvm.Cond.initialized y.cls).before a0 Z = true) (w4 : (Jvm.Cond.code y bytes maxL ret).before a0 Z = true) (hy : y.cls ≠ "java/lang/invoke/MethodHandle" ∧ y.cls ≠ "java/lang/invoke/VarHandle")
    (K : Ctr l y bytes maxL ret [] rm Z argsL.toArray h Q rm.cells rm.slots) (eT : T.heap = h) (hf : rm.frames + 1 ≤ R.frames) (hl : W + (maxL + 11) + rm.locals ≤ R.locals) (hc : cells + rm.cells ≤ R.cells) (hn : slots + rm.slots ≤ R.slots) (hsize : L.size = c.maxLocals)
    {ps : List FieldType} {r : Option FieldType} (hlen : parseMethodDescriptor y.desc = some ⟨ps, r⟩) (hl2 : argsL.length = ps.length) (hS : S = argsL.reverse ++ rest) (hW : (rest.map fun v => v.category).sum ≤ W) (hd : decode c.code pc = .ok (.invokestatic index, 3)) (hq : pc + 3 = q)
    (k : ∀ (v : Option Value) (T' : State) (Lc : List Loc), Q v T'.heap Lc → Stand p l e R s m args below meth c T' (locs ++ Lc) (cells + rm.cells) (slots + rm.slots) → Go p e below G T' m q L (v.toList ++ rest)) : Go p e below G T m pc L S := by
  subst hq hS
  obtain ⟨v, _, ⟨T', L', k', n'⟩, -, X', ⟨Lc, hQ, l1, y1, z1⟩, st⟩ := Jvm.LawKit.callS X hx (y := y) hown (mvT hZ w1) (mvT hZ w2) (mvT hZ w3) (mvT hZ w4) hy (backOf (W := W) K hZ w4 w3 hf hl) (g := mkF m pc L (argsL.reverse ++ rest)) rfl hsize (argsL := argsL) (rest := rest) (lenOf hlen hl2) rfl (by show 2 * 0 + _ ≤ _; omega) hd (fun _ _ => ⟨rfl, eT, hc, hn⟩)
  dsimp only [Pt.U, Pt.locs, Pt.cells, Pt.slots] at X' l1 y1 z1 st hQ
  subst l1 y1 z1
  exact Go.st st (k v T' Lc hQ X')
/-- what a pure body leaves -/
def PQ (w : Value) (h0 : Heap) (v : Option Value) (h : Heap) (L : List Loc) : Prop := v = some w ∧ h = h0 ∧ L = []
theorem callP (X : Stand p l e R s m args below meth c T locs cells slots) (hx : p.tables.exec = Jvm.exec) (hZ : Z.Warmed39 s.vm) (hown : s.vm.findClass own = some m.cls) {index : Nat} {y : MethodName} {bytes : ByteArray} {maxL : Nat} {ret : Option FieldType} {rm : Room} {w : Value} {W : Nat} {argsL rest : List Value}
    (w1 : (Jvm.Cond.methodLink own index y).before a0 Z = true) (w2 : (Jvm.Cond.static y).before a0 Z = true) (w3 : (Jvm.Cond.initialized y.cls).before a0 Z = true) (w4 : (Jvm.Cond.code y bytes maxL ret).before a0 Z = true) (hy : y.cls ≠ "java/lang/invoke/MethodHandle" ∧ y.cls ≠ "java/lang/invoke/VarHandle")
    (K : Ctr l y bytes maxL ret [] rm Z argsL.toArray h (PQ w h) 0 0) (hrc : rm.cells = 0) (hrs : rm.slots = 0) (eT : T.heap = h) (hf : rm.frames + 1 ≤ R.frames) (hl : W + (maxL + 11) + rm.locals ≤ R.locals) (hc : cells ≤ R.cells) (hn : slots ≤ R.slots) (hsize : L.size = c.maxLocals)
    {ps : List FieldType} {r : Option FieldType} (hlen : parseMethodDescriptor y.desc = some ⟨ps, r⟩) (hl2 : argsL.length = ps.length) (hS : S = argsL.reverse ++ rest) (hW : (rest.map fun v => v.category).sum ≤ W) (hd : decode c.code pc = .ok (.invokestatic index, 3)) (hq : pc + 3 = q)
    (k : ∀ (T' : State), Stand p l e R s m args below meth c T' locs cells slots → T'.heap = h → Go p e below G T' m q L (w :: rest)) : Go p e below G T m pc L S := by
  refine callC X hx hZ hown w1 w2 w3 w4 hy (rm := rm) (Q := PQ w h) (by rw [hrc, hrs]; exact K) eT hf hl (by rw [hrc]; exact hc) (by rw [hrs]; exact hn) hsize hlen hl2 hS hW hd hq ?_
  rintro v T' Lc ⟨rfl, e', rfl⟩ X'
  rw [List.append_nil, hrc, hrs] at X'
  exact k T' X' e'
theorem callV (X : Stand p l e R s m args below meth c T locs cells slots) (hx : p.tables.exec = Jvm.exec) (hZ : Z.Warmed39 s.vm) (hown : s.vm.findClass own = some m.cls) {index : Nat} {y : MethodName} {bytes : ByteArray} {maxL : Nat} {ret : Option FieldType} {rm : Room} {Q : Option Value → Heap → List Loc → Prop} {W : Nat} {argsL rest : List Value}
    (w1 : (Jvm.Cond.methodLink own index y).before a0 Z = true) (w2 : (Jvm.Cond.declares y).before a0 Z = true) (w3 : (Jvm.Cond.selects y.cls y y).before a0 Z = true) (w5 : (Jvm.Cond.instanceMethod y).before a0 Z = true) (w6 : (Jvm.Cond.initialized y.cls).before a0 Z = true) (w4 : (Jvm.Cond.code y bytes maxL ret).before a0 Z = true) (hy : y.cls ≠ "java/lang/invoke/MethodHandle" ∧ y.cls ≠ "java/lang/invoke/VarHandle")
    (A : Exa Z h a y.cls) (K : Ctr l y bytes maxL ret [] rm Z (.ref a :: argsL).toArray h Q rm.cells rm.slots) (eT : T.heap = h) (hf : rm.frames + 1 ≤ R.frames) (hl : W + (maxL + 11) + rm.locals ≤ R.locals) (hc : cells + rm.cells ≤ R.cells) (hn : slots + rm.slots ≤ R.slots) (hsize : L.size = c.maxLocals)
    {ps : List FieldType} {r : Option FieldType} (hlen : parseMethodDescriptor y.desc = some ⟨ps, r⟩) (hl2 : argsL.length = ps.length) (hS : S = argsL.reverse ++ .ref a :: rest) (hW : (rest.map fun v => v.category).sum ≤ W) (hd : decode c.code pc = .ok (.invokevirtual index, 3)) (hq : pc + 3 = q)
    (k : ∀ (v : Option Value) (T' : State) (Lc : List Loc), Q v T'.heap Lc → Stand p l e R s m args below meth c T' (locs ++ Lc) (cells + rm.cells) (slots + rm.slots) → Go p e below G T' m q L (v.toList ++ rest)) : Go p e below G T m pc L S := by
  subst hq hS
  obtain ⟨cq, kq, qa, qb, qc⟩ := isOf hZ eT A
  obtain ⟨v, _, ⟨T', L', k', n'⟩, -, X', ⟨Lc, hQ, l1, y1, z1⟩, st⟩ := X.virtualBack hx (y := y) (z := y) hown (mvT hZ w1) (mvT hZ w2) (notFace_of_selects (args := #[]) (mvT hZ w3)) (mvT hZ w3) (mvT hZ w5) hy (backOf (W := W) K hZ w4 w6 hf hl) qa qc (g := mkF m pc L (argsL.reverse ++ .ref a :: rest)) rfl hsize (Steps.refl _) (argsL := argsL) (rest := rest) (lenOf hlen hl2) rfl (by show 2 * 0 + _ ≤ _; omega) hd (fun _ _ => ⟨rfl, eT, hc, hn⟩)
  dsimp only [Pt.U, Pt.locs, Pt.cells, Pt.slots] at X' l1 y1 z1 st hQ
  subst l1 y1 z1
  exact Go.st (fun t h => st.trans h) (k v T' Lc hQ X')
theorem callI (X : Stand p l e R s m args below meth c T locs cells slots) (hx : p.tables.exec = Jvm.exec) (hZ : Z.Warmed39 s.vm) (hown : s.vm.findClass own = some m.cls) {index : Nat} {y : MethodName} {bytes : ByteArray} {maxL : Nat} {rm : Room} {Q : Option Value → Heap → List Loc → Prop} {W : Nat} {argsL rest : List Value} (hyn : y.name = "<init>")
    (w1 : (Jvm.Cond.methodLink own index y).before a0 Z = true) (w5 : (Jvm.Cond.instanceMethod y).before a0 Z = true) (w6 : (Jvm.Cond.initialized y.cls).before a0 Z = true) (w4 : (Jvm.Cond.code y bytes maxL none).before a0 Z = true) (hy : y.cls ≠ "java/lang/invoke/MethodHandle" ∧ y.cls ≠ "java/lang/invoke/VarHandle")
    (K : Ctr l y bytes maxL none [] rm Z (.ref a :: argsL).toArray h Q rm.cells rm.slots) (eT : T.heap = h) (hf : rm.frames + 1 ≤ R.frames) (hl : W + (maxL + 11) + rm.locals ≤ R.locals) (hc : cells + rm.cells ≤ R.cells) (hn : slots + rm.slots ≤ R.slots) (hsize : L.size = c.maxLocals)
    {ps : List FieldType} {r : Option FieldType} (hlen : parseMethodDescriptor y.desc = some ⟨ps, r⟩) (hl2 : argsL.length = ps.length) (hS : S = argsL.reverse ++ .ref a :: rest) (hW : (rest.map fun v => v.category).sum ≤ W) (hd : decode c.code pc = .ok (.invokespecial index, 3)) (hq : pc + 3 = q)
    (k : ∀ (v : Option Value) (T' : State) (Lc : List Loc), Q v T'.heap Lc → Stand p l e R s m args below meth c T' (locs ++ Lc) (cells + rm.cells) (slots + rm.slots) → Go p e below G T' m q L (v.toList ++ rest)) : Go p e below G T m pc L S := by
  subst hq hS
  obtain ⟨v, _, ⟨T', L', k', n'⟩, -, X', ⟨Lc, hQ, l1, y1, z1⟩, st⟩ := X.specialBack hx (y := y) hyn hown (mvT hZ w1) (mvT hZ w5) (mvT hZ w4) hy (backOf (W := W) K hZ w4 w6 hf hl) (g := mkF m pc L (argsL.reverse ++ .ref a :: rest)) rfl hsize (Steps.refl _) (a := a) (argsL := argsL) (rest := rest) (lenOf hlen hl2) rfl (by show 2 * 0 + _ ≤ _; omega) hd (fun _ _ => ⟨rfl, eT, hc, hn⟩)
  dsimp only [Pt.U, Pt.locs, Pt.cells, Pt.slots] at X' l1 y1 z1 st hQ
  subst l1 y1 z1
  exact Go.st (fun t h => st.trans h) (k v T' Lc hQ X')
theorem s_initO (X : Stand p l e R s m args below meth c T locs cells slots) (hx : p.tables.exec = Jvm.exec) (hZ : Z.Warmed39 s.vm) (hown : s.vm.findClass own = some m.cls) {index : Nat} {W : Nat} (w1 : (Jvm.Cond.methodLink own index Lib.objectInit).before a0 Z = true) (w2 : (Jvm.Cond.instanceMethod Lib.objectInit).before a0 Z = true)
    (w3 : (Jvm.Cond.code Lib.objectInit ⟨#[0xb1]⟩ 1 none).before a0 Z = true) (eT : T.heap = h) (hsize : L.size = c.maxLocals) (hf : 1 ≤ R.frames) (hW : (S.map fun v => v.category).sum ≤ W) (hl : W + 12 ≤ R.locals) (hd : decode c.code pc = .ok (.invokespecial index, 3)) (hq : pc + 3 = q)
    (k : ∀ T', Stand p l e R s m args below meth c T' locs cells slots → T'.heap = h → Go p e below G T' m q L S) : Go p e below G T m pc L (.ref a :: S) := by
  subst hq
  obtain ⟨T', X', e', st⟩ := initO X hx hZ hown w1 w2 w3 eT (g := mkF m pc L (.ref a :: S)) rfl hsize rfl hd hf (W := W) (by show 2 * 0 + _ ≤ _; omega) hl
  exact Go.st st (k T' X' e')
theorem s_getF (X : Stand p l e R s m args below meth c T locs cells slots) (hx : p.tables.exec = Jvm.exec) (hZ : Z.Warmed39 s.vm) (hown : s.vm.findClass own = some m.cls) {index : Nat} (w : (Jvm.Cond.fieldLink own index O n d).before a0 Z = true) (eT : T.heap = h) (F : Fld Z h a O n d v) (hd : decode c.code pc = .ok (.getfield index, 3)) (hq : pc + 3 = q)
    (k : ∀ T', Stand p l e R s m args below meth c T' locs cells slots → T'.heap = h → Go p e below G T' m q L (v :: S)) : Go p e below G T m pc L (.ref a :: S) := by
  subst hq
  obtain ⟨T', X', e', st⟩ := getF X hx hZ hown (host := "") (Or.inl w) Via.refl eT F (g := mkF m pc L (.ref a :: S)) rfl rfl hd
  exact Go.st st (k T' X' e')
theorem s_putF (X : Stand p l e R s m args below meth c T locs cells slots) (hx : p.tables.exec = Jvm.exec) (hZ : Z.Warmed39 s.vm) (hown : s.vm.findClass own = some m.cls) {index kk : Nat} {ty : FieldType} {v old : Value} (w : (Jvm.Cond.fieldLink own index O n d).before a0 Z = true) (eT : T.heap = h) (F : Fld Z h a O n d old) (E : Exa Z h a C)
    (Ly : (Jvm.Cond.lays C O n d).before a0 Z = true ∨ ((Jvm.Cond.laysFinal C O n d).before a0 Z = true ∧ own = O ∧ meth.name = "<init>")) (wi : (Jvm.Cond.instantiable C kk).before a0 Z = true) (hty : parseFieldDescriptor d = some ty) (hn : narrow ty v = v) (hfit : fits ty v = true) (N : Fr n0 locs) (hg : n0 ≤ a) (hd : decode c.code pc = .ok (.putfield index, 3)) (hq : pc + 3 = q)
    (k : ∀ (T' : State) (h' : Heap) (locs' : List Loc), Stand p l e R s m args below meth c T' locs' cells slots → Fr n0 locs' → T'.heap = h' → Wr h h' a (Jvm.RoadKit.slotOf Z O n d) v → Fld Z h' a O n d v → Go p e below G T' m q L S) : Go p e below G T m pc L (v :: .ref a :: S) := by
  subst hq
  obtain ⟨T', h', X', e', W, st⟩ := putF X hx hZ hown (host := "") (Or.inl w) Via.refl eT F E Ly wi hty hn hfit (g := mkF m pc L (v :: .ref a :: S)) rfl rfl hd
  exact Go.st st (k T' h' _ X' (Fr.snoc X' N hg) e' W (F.same W))
theorem s_new (X : Stand p l e R s m args below meth c T locs cells slots) (hx : p.tables.exec = Jvm.exec) (hZ : Z.Warmed39 s.vm) (hown : s.vm.findClass own = some m.cls) {index kk : Nat} (w : (Jvm.Cond.classLink own index C).before a0 Z = true) (wi : (Jvm.Cond.instantiable C kk).before a0 Z = true) (wz : (Jvm.Cond.initialized C).before a0 Z = true) (eT : T.heap = h)
    (hc : cells + 1 ≤ R.cells) (hl : slots + kk ≤ R.slots) (hd : decode c.code pc = .ok (.new index, 3)) (hq : pc + 3 = q)
    (k : ∀ (T' : State) (h' : Heap) (a : Addr), Stand p l e R s m args below meth c T' locs (cells + 1) (slots + kk) → T'.heap = h' → Ext h h' → a = h.size → Exa Z h' a C → (∀ (O nm d : String) (ty : FieldType), Laid Z a0 C O nm d → parseFieldDescriptor d = some ty → Fld Z h' a O nm d (defaultValue ty)) → Go p e below G T' m q L (.ref a :: S)) : Go p e below G T m pc L S := by
  subst hq
  obtain ⟨T', h', X', e', E, A, D, -, st⟩ := newO X hx hZ hown w wi wz eT (g := mkF m pc L S) rfl hd hc hl
  exact Go.st st (k T' h' _ X' e' E rfl A (fun _ _ _ _ L1 q1 => D L1 q1))
/-- an array of ints (bytes, chars ..) by its list -/
def AI (Z : State) (h : Heap) (a : Addr) (ty : FieldType) (xs : List Int32) : Prop := ∃ cl : Cell, Arr Z h a cl ty ∧ cl.slots.toList = xs.map Value.int ∧ xs.length < 2147483648
def AJ (Z : State) (h : Heap) (a : Addr) (xs : List Int64) : Prop := ∃ cl : Cell, Arr Z h a cl .long ∧ cl.slots.toList = xs.map Value.long ∧ xs.length < 2147483648
variable {ty : FieldType} {xs ys : List Int32} {us vs : List Int64} {w : Value} {sl : Nat} {ws : List Addr}
theorem AI.lt (A : AI Z h a ty xs) : a < h.size := by obtain ⟨c, A, -⟩ := A; exact A.lt
theorem AJ.lt (A : AJ Z h a us) : a < h.size := by obtain ⟨c, A, -⟩ := A; exact A.lt
theorem AI.ext (A : AI Z h a ty xs) (E : Ext h h') : AI Z h' a ty xs := by obtain ⟨c, A, r⟩ := A; exact ⟨c, A.ext E, r⟩
theorem AJ.ext (A : AJ Z h a us) (E : Ext h h') : AJ Z h' a us := by obtain ⟨c, A, r⟩ := A; exact ⟨c, A.ext E, r⟩
theorem AI.other (A : AI Z h a ty xs) (W : Wr h h' b sl w) (q : a ≠ b) : AI Z h' a ty xs := by obtain ⟨c, A, r⟩ := A; exact ⟨c, A.other W q, r⟩
theorem AJ.other (A : AJ Z h a us) (W : Wr h h' b sl w) (q : a ≠ b) : AJ Z h' a us := by obtain ⟨c, A, r⟩ := A; exact ⟨c, A.other W q, r⟩
theorem AI.keep (A : AI Z h a ty xs) (K : Keep h h' ws) (q : a ∉ ws) : AI Z h' a ty xs := by obtain ⟨c, A, r⟩ := A; exact ⟨c, ⟨K.2.1 a c A.1 q, A.2⟩, r⟩
theorem AJ.keep (A : AJ Z h a us) (K : Keep h h' ws) (q : a ∉ ws) : AJ Z h' a us := by obtain ⟨c, A, r⟩ := A; exact ⟨c, ⟨K.2.1 a c A.1 q, A.2⟩, r⟩
theorem set_list (cl : Cell) (i : Nat) (v : Value) : (cl.setSlot i v).slots.toList = cl.slots.toList.set i v := by
  show (cl.slots.setIfInBounds i v).toList = _
  exact Array.toList_setIfInBounds ..
theorem AI.same (A : AI Z h a ty xs) {i : Nat} {x : Int32} (W : Wr h h' a i (.int x)) : AI Z h' a ty (xs.set i x) := by
  obtain ⟨c, A, e, n⟩ := A
  exact ⟨_, A.same W, by rw [set_list, e, List.map_set], by rw [List.length_set]; exact n⟩
theorem AJ.same (A : AJ Z h a us) {i : Nat} {x : Int64} (W : Wr h h' a i (.long x)) : AJ Z h' a (us.set i x) := by
  obtain ⟨c, A, e, n⟩ := A
  exact ⟨_, A.same W, by rw [set_list, e, List.map_set], by rw [List.length_set]; exact n⟩
theorem own_size {cl : Cell} {α : Type} {zs : List α} {f : α → Value} (e : cl.slots.toList = zs.map f) : cl.slots.size = zs.length := by
  rw [← Array.length_toList, e, List.length_map]
theorem own_at {cl : Cell} {α : Type} {zs : List α} {f : α → Value} (e : cl.slots.toList = zs.map f) {i : Nat} {x : α} (q : zs[i]? = some x) : cl.slots[i]? = some (f x) := by
  rw [← Array.getElem?_toList, e, List.getElem?_map, q]; rfl
theorem own_in {cl : Cell} {α : Type} {zs : List α} {f : α → Value} (e : cl.slots.toList = zs.map f) {j : Int32} (hj : ¬ j < 0) (q : j.toNatClampNeg < zs.length) : ¬ (j < 0 ∨ cl.slots.size ≤ j.toNatClampNeg) := by
  rw [own_size e]; intro h; rcases h with h | h
  · exact hj h
  · omega
theorem own_inl {α : Type} {zs : List α} {i : Nat} {x : α} (q : zs[i]? = some x) : i < zs.length := (List.getElem?_eq_some_iff.mp q).1
theorem s_iaload (X : Stand p l e R s m args below meth c T locs cells slots) (hx : p.tables.exec = Jvm.exec) (hZ : Z.Warmed39 s.vm) (eT : T.heap = h) {j : Int32} {x : Int32} (A : AI Z h a .int xs) (hj : ¬ j < 0) {i : Nat} (hji : j.toNatClampNeg = i) (hv : xs[i]? = some x) (hd : decode c.code pc = .ok (.iaload, 1)) (hq : pc + 1 = q) (K : Go p e below G T m q L (.int x :: S)) : Go p e below G T m pc L (.int j :: .ref a :: S) := by
  subst hq hji; obtain ⟨cl, Ar, ex, -⟩ := A
  exact Go.st (fun t k => X.iaload hx (j := j) (v := .int x) (by rw [eT]; exact Ar.1) (State.isArrayOf_alike hZ.alike Ar.2.1) Ar.2.2 (own_in ex hj (own_inl hv)) (own_at ex hv) (g := mkF m pc L (.int j :: .ref a :: S)) rfl rfl hd t k) K
theorem s_caload (X : Stand p l e R s m args below meth c T locs cells slots) (hx : p.tables.exec = Jvm.exec) (hZ : Z.Warmed39 s.vm) (eT : T.heap = h) {j : Int32} {x : Int32} (A : AI Z h a .char xs) (hj : ¬ j < 0) {i : Nat} (hji : j.toNatClampNeg = i) (hv : xs[i]? = some x) (hd : decode c.code pc = .ok (.caload, 1)) (hq : pc + 1 = q) (K : Go p e below G T m q L (.int x :: S)) : Go p e below G T m pc L (.int j :: .ref a :: S) := by
  subst hq hji; obtain ⟨cl, Ar, ex, -⟩ := A
  exact Go.st (fun t k => X.caload hx (j := j) (v := .int x) (by rw [eT]; exact Ar.1) (State.isArrayOf_alike hZ.alike Ar.2.1) Ar.2.2 (own_in ex hj (own_inl hv)) (own_at ex hv) (g := mkF m pc L (.int j :: .ref a :: S)) rfl rfl hd t k) K
theorem s_baload (X : Stand p l e R s m args below meth c T locs cells slots) (hx : p.tables.exec = Jvm.exec) (hZ : Z.Warmed39 s.vm) (eT : T.heap = h) {j : Int32} {x : Int32} (A : AI Z h a .byte xs) (hj : ¬ j < 0) {i : Nat} (hji : j.toNatClampNeg = i) (hv : xs[i]? = some x) (hd : decode c.code pc = .ok (.baload, 1)) (hq : pc + 1 = q) (K : Go p e below G T m q L (.int x :: S)) : Go p e below G T m pc L (.int j :: .ref a :: S) := by
  subst hq hji; obtain ⟨cl, Ar, ex, -⟩ := A
  exact Go.st (fun t k => X.baloadBytes hx (j := j) (v := .int x) (by rw [eT]; exact Ar.1) (State.isArrayOf_alike hZ.alike Ar.2.1) Ar.2.2 (own_in ex hj (own_inl hv)) (own_at ex hv) (g := mkF m pc L (.int j :: .ref a :: S)) rfl rfl hd t k) K
theorem s_laload (X : Stand p l e R s m args below meth c T locs cells slots) (hx : p.tables.exec = Jvm.exec) (hZ : Z.Warmed39 s.vm) (eT : T.heap = h) {j : Int32} {x : Int64} (A : AJ Z h a us) (hj : ¬ j < 0) {i : Nat} (hji : j.toNatClampNeg = i) (hv : us[i]? = some x) (hd : decode c.code pc = .ok (.laload, 1)) (hq : pc + 1 = q) (K : Go p e below G T m q L (.long x :: S)) : Go p e below G T m pc L (.int j :: .ref a :: S) := by
  subst hq hji; obtain ⟨cl, Ar, ex, -⟩ := A
  exact Go.st (fun t k => X.laload hx (j := j) (v := .long x) (by rw [eT]; exact Ar.1) (State.isArrayOf_alike hZ.alike Ar.2.1) Ar.2.2 (own_in ex hj (own_inl hv)) (own_at ex hv) (g := mkF m pc L (.int j :: .ref a :: S)) rfl rfl hd t k) K
theorem s_iastore (X : Stand p l e R s m args below meth c T locs cells slots) (hx : p.tables.exec = Jvm.exec) (hZ : Z.Warmed39 s.vm) (eT : T.heap = h) {j : Int32} {x : Int32} (A : AI Z h a .int xs) (N : Fr n0 locs) (hg : n0 ≤ a) (hj : ¬ j < 0) {i : Nat} (hji : j.toNatClampNeg = i) (hi : i < xs.length) (hs : xs.set i x = ys) (hd : decode c.code pc = .ok (.iastore, 1)) (hq : pc + 1 = q)
    (k : ∀ (T' : State) (h' : Heap) (locs' : List Loc), Stand p l e R s m args below meth c T' locs' cells slots → Fr n0 locs' → T'.heap = h' → Wr h h' a i (.int x) → AI Z h' a .int ys → Go p e below G T' m q L S) : Go p e below G T m pc L (.int x :: .int j :: .ref a :: S) := by
  subst hq hs hji; have A0 := A; obtain ⟨cl, Ar, ex, -⟩ := A
  obtain ⟨T', h', X', e', W, st⟩ := Jvm.RoadKit.stI X hx hZ eT Ar (j := j) (own_in ex hj hi) (g := mkF m pc L (.int x :: .int j :: .ref a :: S)) rfl rfl hd
  exact Go.st st (k T' h' _ X' (Fr.snoc X' N hg) e' W (A0.same W))
theorem s_castore (X : Stand p l e R s m args below meth c T locs cells slots) (hx : p.tables.exec = Jvm.exec) (hZ : Z.Warmed39 s.vm) (eT : T.heap = h) {j : Int32} {x : Int32} (A : AI Z h a .char xs) (N : Fr n0 locs) (hg : n0 ≤ a) (hj : ¬ j < 0) {i : Nat} (hji : j.toNatClampNeg = i) (hi : i < xs.length) (hs : xs.set i (nar .char x) = ys) (hd : decode c.code pc = .ok (.castore, 1)) (hq : pc + 1 = q)
    (k : ∀ (T' : State) (h' : Heap) (locs' : List Loc), Stand p l e R s m args below meth c T' locs' cells slots → Fr n0 locs' → T'.heap = h' → Wr h h' a i (.int (nar .char x)) → AI Z h' a .char ys → Go p e below G T' m q L S) : Go p e below G T m pc L (.int x :: .int j :: .ref a :: S) := by
  subst hq hs hji; have A0 := A; obtain ⟨cl, Ar, ex, -⟩ := A
  obtain ⟨T', h', X', e', W, st⟩ := stC X hx hZ eT Ar (j := j) (own_in ex hj hi) (g := mkF m pc L (.int x :: .int j :: .ref a :: S)) rfl rfl hd
  exact Go.st st (k T' h' _ X' (Fr.snoc X' N hg) e' W (A0.same W))
theorem s_bastore (X : Stand p l e R s m args below meth c T locs cells slots) (hx : p.tables.exec = Jvm.exec) (hZ : Z.Warmed39 s.vm) (eT : T.heap = h) {j : Int32} {x : Int32} (A : AI Z h a .byte xs) (N : Fr n0 locs) (hg : n0 ≤ a) (hj : ¬ j < 0) {i : Nat} (hji : j.toNatClampNeg = i) (hi : i < xs.length) (hs : xs.set i (nar .byte x) = ys) (hd : decode c.code pc = .ok (.bastore, 1)) (hq : pc + 1 = q)
    (k : ∀ (T' : State) (h' : Heap) (locs' : List Loc), Stand p l e R s m args below meth c T' locs' cells slots → Fr n0 locs' → T'.heap = h' → Wr h h' a i (.int (nar .byte x)) → AI Z h' a .byte ys → Go p e below G T' m q L S) : Go p e below G T m pc L (.int x :: .int j :: .ref a :: S) := by
  subst hq hs hji; have A0 := A; obtain ⟨cl, Ar, ex, -⟩ := A
  obtain ⟨T', h', X', e', W, st⟩ := stB X hx hZ eT Ar (j := j) (own_in ex hj hi) (g := mkF m pc L (.int x :: .int j :: .ref a :: S)) rfl rfl hd
  exact Go.st st (k T' h' _ X' (Fr.snoc X' N hg) e' W (A0.same W))
theorem s_lastore (X : Stand p l e R s m args below meth c T locs cells slots) (hx : p.tables.exec = Jvm.exec) (hZ : Z.Warmed39 s.vm) (eT : T.heap = h) {j : Int32} {x : Int64} (A : AJ Z h a us) (N : Fr n0 locs) (hg : n0 ≤ a) (hj : ¬ j < 0) {i : Nat} (hji : j.toNatClampNeg = i) (hi : i < us.length) (hs : us.set i x = vs) (hd : decode c.code pc = .ok (.lastore, 1)) (hq : pc + 1 = q)
    (k : ∀ (T' : State) (h' : Heap) (locs' : List Loc), Stand p l e R s m args below meth c T' locs' cells slots → Fr n0 locs' → T'.heap = h' → Wr h h' a i (.long x) → AJ Z h' a vs → Go p e below G T' m q L S) : Go p e below G T m pc L (.long x :: .int j :: .ref a :: S) := by
  subst hq hs hji; have A0 := A; obtain ⟨cl, Ar, ex, -⟩ := A
  obtain ⟨T', h', X', e', W, st⟩ := Jvm.RoadKit.stJ X hx hZ eT Ar (j := j) (own_in ex hj hi) (g := mkF m pc L (.long x :: .int j :: .ref a :: S)) rfl rfl hd
  exact Go.st st (k T' h' _ X' (Fr.snoc X' N hg) e' W (A0.same W))
theorem s_newI (X : Stand p l e R s m args below meth c T locs cells slots) (hx : p.tables.exec = Jvm.exec) (hZ : Z.Warmed39 s.vm) (w : (Jvm.Cond.arrayClass .int).before a0 Z = true) (eT : T.heap = h) {z : Int32} (hz : ¬ z < 0) {cap : Nat} (hcap : z.toNatClampNeg ≤ cap) (hb8 : cap * 8 ≤ 536870912) (hc : cells + 1 ≤ R.cells) (hl : slots + cap ≤ R.slots) (hs : List.replicate z.toNatClampNeg 0 = ys) (hd : decode c.code pc = .ok (.newarray .int, 2)) (hq : pc + 2 = q)
    (k : ∀ (T' : State) (h' : Heap) (a : Addr), Stand p l e R s m args below meth c T' locs (cells + 1) (slots + cap) → T'.heap = h' → Ext h h' → a = h.size → AI Z h' a .int ys → Go p e below G T' m q L (.ref a :: S)) : Go p e below G T m pc L (.int z :: S) := by
  subst hq hs
  obtain ⟨T', h', cA, X', e', E, A, st⟩ := newP X hx hZ (aty := .int) w eT (g := mkF m pc L (.int z :: S)) rfl hd rfl hz (cap := cap) hcap hb8 hc hl
  refine Go.st st (k T' h' _ X' e' E rfl ⟨_, A, ?_, ?_⟩)
  · simp [newA, defaultValue, newarray.typeOf]
  · rw [List.length_replicate]; have := z.toInt_lt; simp only [Int32.toNatClampNeg]; omega
theorem s_newC (X : Stand p l e R s m args below meth c T locs cells slots) (hx : p.tables.exec = Jvm.exec) (hZ : Z.Warmed39 s.vm) (w : (Jvm.Cond.arrayClass .char).before a0 Z = true) (eT : T.heap = h) {z : Int32} (hz : ¬ z < 0) {cap : Nat} (hcap : z.toNatClampNeg ≤ cap) (hb8 : cap * 8 ≤ 536870912) (hc : cells + 1 ≤ R.cells) (hl : slots + cap ≤ R.slots) (hs : List.replicate z.toNatClampNeg 0 = ys) (hd : decode c.code pc = .ok (.newarray .char, 2)) (hq : pc + 2 = q)
    (k : ∀ (T' : State) (h' : Heap) (a : Addr), Stand p l e R s m args below meth c T' locs (cells + 1) (slots + cap) → T'.heap = h' → Ext h h' → a = h.size → AI Z h' a .char ys → Go p e below G T' m q L (.ref a :: S)) : Go p e below G T m pc L (.int z :: S) := by
  subst hq hs
  obtain ⟨T', h', cA, X', e', E, A, st⟩ := newP X hx hZ (aty := .char) w eT (g := mkF m pc L (.int z :: S)) rfl hd rfl hz (cap := cap) hcap hb8 hc hl
  refine Go.st st (k T' h' _ X' e' E rfl ⟨_, A, ?_, ?_⟩)
  · simp [newA, defaultValue, newarray.typeOf]
  · rw [List.length_replicate]; have := z.toInt_lt; simp only [Int32.toNatClampNeg]; omega
theorem s_newB (X : Stand p l e R s m args below meth c T locs cells slots) (hx : p.tables.exec = Jvm.exec) (hZ : Z.Warmed39 s.vm) (w : (Jvm.Cond.arrayClass .byte).before a0 Z = true) (eT : T.heap = h) {z : Int32} (hz : ¬ z < 0) {cap : Nat} (hcap : z.toNatClampNeg ≤ cap) (hb8 : cap * 8 ≤ 536870912) (hc : cells + 1 ≤ R.cells) (hl : slots + cap ≤ R.slots) (hs : List.replicate z.toNatClampNeg 0 = ys) (hd : decode c.code pc = .ok (.newarray .byte, 2)) (hq : pc + 2 = q)
    (k : ∀ (T' : State) (h' : Heap) (a : Addr), Stand p l e R s m args below meth c T' locs (cells + 1) (slots + cap) → T'.heap = h' → Ext h h' → a = h.size → AI Z h' a .byte ys → Go p e below G T' m q L (.ref a :: S)) : Go p e below G T m pc L (.int z :: S) := by
  subst hq hs
  obtain ⟨T', h', cA, X', e', E, A, st⟩ := newP X hx hZ (aty := .byte) w eT (g := mkF m pc L (.int z :: S)) rfl hd rfl hz (cap := cap) hcap hb8 hc hl
  refine Go.st st (k T' h' _ X' e' E rfl ⟨_, A, ?_, ?_⟩)
  · simp [newA, defaultValue, newarray.typeOf]
  · rw [List.length_replicate]; have := z.toInt_lt; simp only [Int32.toNatClampNeg]; omega
theorem s_newJ (X : Stand p l e R s m args below meth c T locs cells slots) (hx : p.tables.exec = Jvm.exec) (hZ : Z.Warmed39 s.vm) (w : (Jvm.Cond.arrayClass .long).before a0 Z = true) (eT : T.heap = h) {z : Int32} (hz : ¬ z < 0) {cap : Nat} (hcap : z.toNatClampNeg ≤ cap) (hb8 : cap * 8 ≤ 536870912) (hc : cells + 1 ≤ R.cells) (hl : slots + cap ≤ R.slots) (hs : List.replicate z.toNatClampNeg 0 = vs) (hd : decode c.code pc = .ok (.newarray .long, 2)) (hq : pc + 2 = q)
    (k : ∀ (T' : State) (h' : Heap) (a : Addr), Stand p l e R s m args below meth c T' locs (cells + 1) (slots + cap) → T'.heap = h' → Ext h h' → a = h.size → AJ Z h' a vs → Go p e below G T' m q L (.ref a :: S)) : Go p e below G T m pc L (.int z :: S) := by
  subst hq hs
  obtain ⟨T', h', cA, X', e', E, A, st⟩ := newP X hx hZ (aty := .long) w eT (g := mkF m pc L (.int z :: S)) rfl hd rfl hz (cap := cap) hcap hb8 hc hl
  refine Go.st st (k T' h' _ X' e' E rfl ⟨_, A, ?_, ?_⟩)
  · simp [newA, defaultValue, newarray.typeOf]
  · rw [List.length_replicate]; have := z.toInt_lt; simp only [Int32.toNatClampNeg]; omega
theorem s_lenI (X : Stand p l e R s m args below meth c T locs cells slots) (hx : p.tables.exec = Jvm.exec) (hZ : Z.Warmed39 s.vm) (eT : T.heap = h) {z : Int32} (A : AI Z h a ty xs) (hz : xs.length.toInt32 = z) (hd : decode c.code pc = .ok (.arraylength, 1)) (hq : pc + 1 = q) (K : Go p e below G T m q L (.int z :: S)) : Go p e below G T m pc L (.ref a :: S) := by
  subst hq hz; obtain ⟨cl, Ar, ex, -⟩ := A
  rw [← own_size ex] at K
  exact Go.st (fun t k => X.arraylength hx (by rw [eT]; exact Ar.1) (State.isArrayOf_alike hZ.alike Ar.2.1) (g := mkF m pc L (.ref a :: S)) rfl rfl hd t k) K
theorem s_lenJ (X : Stand p l e R s m args below meth c T locs cells slots) (hx : p.tables.exec = Jvm.exec) (hZ : Z.Warmed39 s.vm) (eT : T.heap = h) {z : Int32} (A : AJ Z h a us) (hz : us.length.toInt32 = z) (hd : decode c.code pc = .ok (.arraylength, 1)) (hq : pc + 1 = q) (K : Go p e below G T m q L (.int z :: S)) : Go p e below G T m pc L (.ref a :: S) := by
  subst hq hz; obtain ⟨cl, Ar, ex, -⟩ := A
  rw [← own_size ex] at K
  exact Go.st (fun t k => X.arraylength hx (by rw [eT]; exact Ar.1) (State.isArrayOf_alike hZ.alike Ar.2.1) (g := mkF m pc L (.ref a :: S)) rfl rfl hd t k) K
theorem own_mask_nn (x m : Int32) (h0 : 0 ≤ m.toInt) : ¬ (x &&& m) < 0 := by
  have := c_and x m h0; rw [Int32.lt_iff_toInt_lt]; show ¬ (x &&& m).toInt < 0; omega
theorem own_mask_ix (x m : Int32) {N : Nat} (h0 : 0 ≤ m.toInt) (h : m.toInt < N) : (x &&& m).toNatClampNeg < N := by
  have := c_and x m h0; simp only [Int32.toNatClampNeg]; omega
theorem own_idx {k n : Int32} {N : Nat} (h0 : ¬ k < 0) (h : k < n) (hn : n.toInt = N) : k.toNatClampNeg < N := by
  have e0 : (0 : Int32).toInt = 0 := rfl
  simp only [Int32.lt_iff_toInt_lt, Int32.toNatClampNeg] at *; omega
theorem own_cs {x : Int32} {k : Int} (b : Int32) (hb : b.toInt = k) (h : x.toInt = k) : x = b := Int32.toInt_inj.mp (h.trans hb.symm)
theorem own_lt {x b : Int32} {k : Int} (hb : b.toInt = k) (h : x.toInt < k) : x < b := by rw [Int32.lt_iff_toInt_lt, hb]; exact h
theorem own_nlt {x b : Int32} {k : Int} (hb : b.toInt = k) (h : k ≤ x.toInt) : ¬ x < b := by rw [Int32.lt_iff_toInt_lt, hb]; omega
theorem own_gt {x b : Int32} {k : Int} (hb : b.toInt = k) (h : k < x.toInt) : b < x := by rw [Int32.lt_iff_toInt_lt, hb]; exact h
theorem own_ngt {x b : Int32} {k : Int} (hb : b.toInt = k) (h : x.toInt ≤ k) : ¬ b < x := by rw [Int32.lt_iff_toInt_lt, hb]; omega
theorem own_eqi {x b : Int32} {k : Int} (hb : b.toInt = k) (h : x.toInt = k) : x = b := Int32.toInt_inj.mp (h.trans hb.symm)
theorem own_nei {x b : Int32} {k : Int} (hb : b.toInt = k) (h : x.toInt ≠ k) : ¬ x = b := fun q => h (by rw [q, hb])
end Kit
/-- the byte of a number -/
def bb (n : Nat) : Int32 := (Int8.ofNat n).toInt32
theorem bb_bv {x : Int8} {n : Nat} (h : x.toBitVec.toNat = n % 256) : x.toInt32 = bb n := by
  have : x = Int8.ofNat n := Int8.toBitVec_inj.mp (BitVec.eq_of_toNat_eq (by rw [h]; show _ = (BitVec.ofNat 8 n).toNat; rw [BitVec.toNat_ofNat]))
  rw [this]; rfl
theorem bb_mod (n : Nat) : bb (n % 256) = bb n := by
  have h : Int8.ofNat (n % 256) = Int8.ofNat n := Int8.toBitVec_inj.mp (BitVec.eq_of_toNat_eq (by show (BitVec.ofNat 8 _).toNat = (BitVec.ofNat 8 _).toNat; simp))
  unfold bb; rw [h]
theorem bb_and (n : Nat) : (bb n) &&& 255 = Int32.ofNat (n % 256) := by
  rw [← bb_mod]
  have h : ∀ k : Fin 256, (bb k.val) &&& 255 = Int32.ofNat k.val := by decide +kernel
  exact h ⟨n % 256, Nat.mod_lt _ (by decide)⟩
theorem own_amt : ∀ s : Fin 64, ((Int32.ofNat s.val) &&& 0x3f).toInt64.toUInt64 = UInt64.ofNat s.val := by decide +kernel
theorem own_q64 (s : Nat) (h : s < 64) : (Int32.ofNat s).toBitVec.toNat % 64 = s := by
  show (BitVec.ofNat 32 s).toNat % 64 = s
  rw [BitVec.toNat_ofNat]; omega
theorem own_shrb (P : Int64) (s : Nat) (h : s < 64) : (((P.toUInt64 >>> ((Int32.ofNat s) &&& 0x3f).toInt64.toUInt64).toInt64)).toBitVec = P.toBitVec >>> s := by
  have e := own_amt ⟨s, h⟩
  rw [show ((Int32.ofNat s) &&& 0x3f).toInt64.toUInt64 = UInt64.ofNat s from e]
  show (P.toUInt64 >>> UInt64.ofNat s).toBitVec = _
  rw [UInt64.toBitVec_shiftRight, BitVec.ushiftRight_eq']
  show P.toBitVec >>> _ = _
  congr 1
  rw [BitVec.toNat_umod]
  show (BitVec.ofNat 64 s).toNat % 64 = s
  rw [BitVec.toNat_ofNat]; omega
theorem own_shlb (x : Int64) (q : Int32) (k : Nat) (hk : q.toBitVec.toNat % 64 = k) : (x <<< (q &&& 0x3f).toInt64).toBitVec = x.toBitVec <<< k := by
  have h := sm64 q k hk
  show x.toBitVec <<< ((q &&& 0x3f).toInt64.toBitVec.smod 64) = _
  rw [h.1, BitVec.shiftLeft_eq', smod64 k h.2]
theorem own_low8 (X : Int64) : X.toInt32.toInt8.toBitVec.toNat = X.toBitVec.toNat % 256 := by
  show ((X.toBitVec.signExtend 32).signExtend 8).toNat = _
  rw [BitVec.signExtend_eq_setWidth_of_le _ (by decide), BitVec.signExtend_eq_setWidth_of_le _ (by decide), BitVec.toNat_setWidth, BitVec.toNat_setWidth]
  omega
theorem own_nar (x : Int8) : nar .byte x.toInt32 = x.toInt32 := by
  show x.toInt32.toInt8.toInt32 = _
  rw [Int8.toInt8_toInt32]
theorem own_BY (P : Int64) (V s : Nat) (hP : P.toBitVec = BitVec.ofNat 64 V) (hs : s + 8 ≤ 64) : nar .byte ((((P.toUInt64 >>> ((Int32.ofNat s) &&& 0x3f).toInt64.toUInt64).toInt64)).toInt32.toInt8.toInt32) = bb (V >>> s) := by
  rw [own_nar]
  apply bb_bv
  rw [own_low8, own_shrb P s (by omega), BitVec.toNat_ushiftRight, hP, BitVec.toNat_ofNat]
  show (V % 2 ^ 64) >>> s % 2 ^ 8 = V >>> s % 2 ^ 8
  apply Nat.eq_of_testBit_eq
  intro i
  simp only [Nat.testBit_mod_two_pow, Nat.testBit_shiftRight]
  by_cases hi : i < 8
  · have : s + i < 64 := by omega
    simp [hi, this]
  · simp [hi]
theorem own_BYL (P : Int64) (V : Nat) (q : Int32) (k : Nat) (hP : P.toBitVec = BitVec.ofNat 64 V) (hk : q.toBitVec.toNat % 64 = k) : nar .byte ((P <<< (q &&& 0x3f).toInt64).toInt32.toInt8.toInt32) = bb (V <<< k) := by
  rw [own_nar]
  apply bb_bv
  rw [own_low8, own_shlb P q k hk, BitVec.toNat_shiftLeft, hP, BitVec.toNat_ofNat]
  show (V % 2 ^ 64) <<< k % 2 ^ 64 % 2 ^ 8 = V <<< k % 2 ^ 8
  apply Nat.eq_of_testBit_eq
  intro i
  simp only [Nat.testBit_mod_two_pow, Nat.testBit_shiftLeft]
  by_cases hi : i < 8
  · have h1 : i < 64 := by omega
    have h2 : i - k < 64 := by omega
    simp [hi, h1, h2]
  · simp [hi]
theorem own_i2l (v : Nat) (h : v < 2 ^ 31) : (Int32.ofNat v).toInt64.toBitVec = BitVec.ofNat 64 v := by
  apply BitVec.eq_of_toInt_eq
  show ((Int32.ofNat v).toInt64).toInt = _
  rw [c_i2l, Int32.toInt_ofNat_small (by omega), BitVec.toInt_eq_toNat_cond, BitVec.toNat_ofNat]
  rw [Nat.mod_eq_of_lt (by omega), if_pos (by omega)]
theorem own_app (P : Int64) (V c v : Nat) (hP : P.toBitVec = BitVec.ofNat 64 V) (hc : c < 64) (hv : v < 2 ^ 31) : ((P <<< ((Int32.ofNat c) &&& 0x3f).toInt64) ||| (Int32.ofNat v).toInt64).toBitVec = BitVec.ofNat 64 (V <<< c ||| v) := by
  rw [Int64.toBitVec_or, own_shlb P _ c (own_q64 c hc), own_i2l v hv, hP]
  apply BitVec.eq_of_toNat_eq
  rw [BitVec.toNat_or, BitVec.toNat_shiftLeft, BitVec.toNat_ofNat, BitVec.toNat_ofNat, BitVec.toNat_ofNat]
  apply Nat.eq_of_testBit_eq
  intro i
  simp only [Nat.testBit_mod_two_pow, Nat.testBit_shiftLeft, Nat.testBit_or]
  by_cases hi : i < 64
  · have h2 : i - c < 64 := by omega
    simp [hi, h2]
  · simp [hi]
/-- the stream V of T bits: its whole bytes, then zeros -/
def sb (V T i : Nat) : Int32 := if 8 * (i + 1) ≤ T then bb (V >>> (T - 8 * (i + 1))) else 0
def ML (L : Nat) (f : Nat → Int32) : List Int32 := (List.range L).map f
theorem ML_len (L : Nat) (f : Nat → Int32) : (ML L f).length = L := by simp [ML]
theorem ML_at (L : Nat) (f : Nat → Int32) {i : Nat} (h : i < L) : (ML L f)[i]? = some (f i) := by
  unfold ML; rw [List.getElem?_map, List.getElem?_range h]; rfl
theorem ML_eq {L : Nat} {f g : Nat → Int32} (h : ∀ i, i < L → f i = g i) : ML L f = ML L g := by
  unfold ML; apply List.map_congr_left; intro i hi; exact h i (List.mem_range.mp hi)
theorem ML_set {L : Nat} {f g : Nat → Int32} {k : Nat} {v : Int32} (h : ∀ i, i < L → g i = if i = k then v else f i) : (ML L f).set k v = ML L g := by
  apply List.ext_getElem?
  intro i
  by_cases hi : i < L
  · rw [ML_at L g hi, h i hi]
    by_cases e : i = k
    · subst e; rw [List.getElem?_set_self (by rw [ML_len]; exact hi), if_pos rfl]
    · rw [List.getElem?_set_ne (Ne.symm e), ML_at L f hi, if_neg e]
  · rw [List.getElem?_eq_none (by rw [List.length_set, ML_len]; omega), List.getElem?_eq_none (by rw [ML_len]; omega)]
theorem ML_zero (L : Nat) : List.replicate L (0 : Int32) = ML L (sb 0 0) := by
  apply List.ext_getElem?
  intro i
  by_cases hi : i < L
  · rw [ML_at L _ hi, List.getElem?_replicate, if_pos hi]; unfold sb; rw [if_neg (by omega)]
  · rw [List.getElem?_eq_none (by simpa using hi), List.getElem?_eq_none (by rw [ML_len]; omega)]
theorem sb_old (V T c v i : Nat) (hv : v < 2 ^ c) (h : 8 * (i + 1) ≤ T) : sb (V <<< c ||| v) (T + c) i = sb V T i := by
  unfold sb
  rw [if_pos h, if_pos (by omega)]
  congr 1
  rw [show T + c - 8 * (i + 1) = c + (T - 8 * (i + 1)) by omega, Nat.shiftRight_add]
  congr 1
  apply Nat.eq_of_testBit_eq
  intro j
  rw [Nat.testBit_shiftRight, Nat.testBit_or, Nat.testBit_shiftLeft, Nat.testBit_lt_two_pow (Nat.lt_of_lt_of_le hv (Nat.pow_le_pow_right (by decide) (Nat.le_add_right c j)))]
  simp
theorem o_lt {a b : Nat} (ha : a < 2147483648) (hb : b < 2147483648) : (Int32.ofNat a < Int32.ofNat b) ↔ a < b := by
  rw [Int32.lt_iff_toInt_lt, Int32.toInt_ofNat_small (by omega), Int32.toInt_ofNat_small (by omega)]; omega
theorem o_sub {a b : Nat} (ha : a < 2147483648) (h : b ≤ a) : Int32.ofNat a - Int32.ofNat b = Int32.ofNat (a - b) := by
  apply Int32.toInt_inj.mp
  have q := c_isub (Int32.ofNat a) (Int32.ofNat b); have r := rng32 (Int32.ofNat a - Int32.ofNat b)
  rw [Int32.toInt_ofNat_small (by omega), Int32.toInt_ofNat_small (by omega)] at q
  rw [Int32.toInt_ofNat_small (by omega)]; omega
theorem o_add {a b : Nat} (h : a + b < 2147483648) : Int32.ofNat a + Int32.ofNat b = Int32.ofNat (a + b) := by
  apply Int32.toInt_inj.mp
  have q := c_iadd (Int32.ofNat a) (Int32.ofNat b); have r := rng32 (Int32.ofNat a + Int32.ofNat b)
  rw [Int32.toInt_ofNat_small (by omega), Int32.toInt_ofNat_small (by omega)] at q
  rw [Int32.toInt_ofNat_small (by omega)]; omega
theorem o_nn {a : Nat} (ha : a < 2147483648) : ¬ Int32.ofNat a < 0 := by
  rw [Int32.lt_iff_toInt_lt, Int32.toInt_ofNat_small (by omega)]; show ¬ (a : Int) < 0; omega
theorem o_nat {a : Nat} (ha : a < 2147483648) : (Int32.ofNat a).toNatClampNeg = a := by
  simp only [Int32.toNatClampNeg, Int32.toInt_ofNat_small ha]; rfl
def wf (f : Nat → Int32) (V T a b i : Nat) : Int32 := if a ≤ i ∧ i < b then sb V T i else f i
theorem own_w0 (L : Nat) (f : Nat → Int32) (V T a : Nat) : ML L (wf f V T a (a + 0)) = ML L f := ML_eq fun i _ => by unfold wf; rw [if_neg (by omega)]
theorem own_s8 (a j : Nat) (h : 8 * (j + 1) ≤ a) (ha : a < 100000) : Int32.ofNat (a - 8 * j) - (8 : Int32) = Int32.ofNat (a - 8 * (j + 1)) := by
  rw [show (8 : Int32) = Int32.ofNat 8 from rfl, o_sub (by omega) (by omega)]; congr 1
theorem own_inc (a j : Nat) (h : a + j < 100000) : Int32.ofNat (a + j) + (1 : Int32) = Int32.ofNat (a + (j + 1)) := by
  rw [show (1 : Int32) = Int32.ofNat 1 from rfl, o_add (by omega)]; rfl
theorem own_wset (L : Nat) (f : Nat → Int32) (V T c j : Nat) (p1 : Int64) (hP : p1.toBitVec = BitVec.ofNat 64 V) (hc : c ≤ 24) (hj : 8 * (j + 1) ≤ T % 8 + c) : (ML L (wf f V (T + c) (T / 8) (T / 8 + j))).set (T / 8 + j) (nar .byte ((((p1.toUInt64 >>> ((Int32.ofNat (T % 8 + c - 8 * (j + 1))) &&& 0x3f).toInt64.toUInt64).toInt64)).toInt32.toInt8.toInt32)) = ML L (wf f V (T + c) (T / 8) (T / 8 + (j + 1))) := by
  apply ML_set
  intro i hi
  rw [own_BY p1 V _ hP (by omega)]
  unfold wf
  by_cases e : i = T / 8 + j
  · subst e
    rw [if_pos (by omega), if_pos rfl]
    unfold sb
    rw [if_pos (by omega)]
    congr 2
    omega
  · rw [if_neg e]
    by_cases h : T / 8 ≤ i ∧ i < T / 8 + j
    · rw [if_pos h, if_pos (by omega)]
    · rw [if_neg h, if_neg (by omega)]
theorem own_wsb (L V T c v : Nat) (hv : v < 2 ^ c) : ML L (wf (sb V T) (V <<< c ||| v) (T + c) (T / 8) ((T + c) / 8)) = ML L (sb (V <<< c ||| v) (T + c)) := by
  apply ML_eq
  intro i _
  unfold wf
  by_cases h : T / 8 ≤ i ∧ i < (T + c) / 8
  · rw [if_pos h]
  · rw [if_neg h]
    by_cases h2 : i < T / 8
    · rw [sb_old V T c v i hv (by omega)]
    · unfold sb; rw [if_neg (by omega), if_neg (by omega)]
/-- the finished stream -/
def fb (V T i : Nat) : Int32 := if 8 * i < T then bb ((V <<< (8 * (i + 1))) >>> T) else 0
theorem own_slr (V a b : Nat) (h : a ≤ b) : (V <<< a) >>> b = V >>> (b - a) := by
  apply Nat.eq_of_testBit_eq; intro i
  simp only [Nat.testBit_shiftRight, Nat.testBit_shiftLeft]
  rw [show b + i - a = b - a + i by omega]; simp; omega
theorem own_srl (V a b : Nat) (h : b ≤ a) : (V <<< a) >>> b = V <<< (a - b) := by
  apply Nat.eq_of_testBit_eq; intro i
  simp only [Nat.testBit_shiftRight, Nat.testBit_shiftLeft]
  rw [show b + i - a = i - (a - b) by omega]
  by_cases q : a - b ≤ i
  · simp [q, show a ≤ b + i by omega]
  · simp [q, show ¬ a ≤ b + i by omega]
theorem own_fb0 (L V T : Nat) (h : T % 8 = 0) : ML L (sb V T) = ML L (fb V T) := ML_eq fun i _ => by
  unfold sb fb
  by_cases q : 8 * (i + 1) ≤ T
  · rw [if_pos q, if_pos (by omega), own_slr _ _ _ q]
  · rw [if_neg q, if_neg (by omega)]
theorem own_fb1 (L V T : Nat) (h : T % 8 ≠ 0) : ML L (fun i => if i = T / 8 then bb (V <<< (8 - T % 8)) else sb V T i) = ML L (fb V T) := ML_eq fun i _ => by
  show (if i = T / 8 then _ else _) = _
  unfold sb fb
  by_cases e : i = T / 8
  · rw [if_pos e, if_pos (by omega), own_srl _ _ _ (by omega)]
    congr 2; omega
  · rw [if_neg e]
    by_cases q : 8 * (i + 1) ≤ T
    · rw [if_pos q, if_pos (by omega), own_slr _ _ _ q]
    · rw [if_neg q, if_neg (by omega)]
theorem own_fset (L : Nat) (f : Nat → Int32) (V nx pb : Nat) (pp : Int64) (hP : pp.toBitVec = BitVec.ofNat 64 V) (hp : 0 < pb) (hp8 : pb < 8) : (ML L f).set nx (nar .byte ((pp <<< (((8 : Int32) - Int32.ofNat pb) &&& 0x3f).toInt64).toInt32.toInt8.toInt32)) = ML L (fun i => if i = nx then bb (V <<< (8 - pb)) else f i) := by
  apply ML_set
  intro i _
  rw [own_BYL pp V _ (8 - pb) hP (by rw [show (8 : Int32) = Int32.ofNat 8 from rfl, o_sub (by omega) (by omega)]; exact own_q64 _ (by omega))]
theorem own_cnt (y ca : Int32) (hy : 0 ≤ y.toInt) (h : (y % (25 : Int32)) = ca) : ∃ n : Nat, n ≤ 24 ∧ ca = Int32.ofNat n := by
  have h2 := (c_irem y 25 25 (by decide)).1 hy
  rw [h] at h2
  refine ⟨ca.toInt.toNat, by omega, ?_⟩
  apply Int32.toInt_inj.mp
  rw [Int32.toInt_ofNat_small (by omega)]; omega
theorem own_val (x : Int32) (n : Nat) (va : Int32) (hn : n ≤ 24) (h : (x &&& (((1 : Int32) <<< ((Int32.ofNat n) &&& 31)) - (1 : Int32))) = va) : ∃ v : Nat, v < 2 ^ n ∧ v < 16777216 ∧ va = Int32.ofNat v := by
  have hq : (Int32.ofNat n).toBitVec.toNat % 32 = n := by
    show (BitVec.ofNat 32 n).toNat % 32 = n
    rw [BitVec.toNat_ofNat]; omega
  have hp : 2 ^ n ≤ 2 ^ 24 := Nat.pow_le_pow_right (by decide) hn
  have hp1 : 1 ≤ 2 ^ n := Nat.one_le_two_pow
  have a1 := c_ishl 1 (Int32.ofNat n) n hq
  have a2 := rng32 ((1 : Int32) <<< ((Int32.ofNat n) &&& 31))
  have e1 : (1 : Int32).toInt = 1 := by decide
  rw [e1] at a1
  have b1 := c_isub ((1 : Int32) <<< ((Int32.ofNat n) &&& 31)) 1
  have b2 := rng32 (((1 : Int32) <<< ((Int32.ofNat n) &&& 31)) - 1)
  rw [e1] at b1
  have hm : (((1 : Int32) <<< ((Int32.ofNat n) &&& 31)) - (1 : Int32)).toInt = (2 ^ n : Nat) - 1 := by omega
  generalize ((1 : Int32) <<< ((Int32.ofNat n) &&& 31)) - (1 : Int32) = m at *
  have hm2 : m.toBitVec.toNat = 2 ^ n - 1 := by
    have e : m.toBitVec.toInt = m.toInt := rfl
    rw [BitVec.toInt_eq_toNat_cond, hm] at e
    have := m.toBitVec.isLt
    split at e <;> omega
  have c1 := c_mask x m n (by omega) hm2
  rw [h] at c1
  have d1 := Int.emod_nonneg x.toInt (show ((2 ^ n : Nat) : Int) ≠ 0 by omega)
  have d2 := Int.emod_lt_of_pos x.toInt (show (0 : Int) < ((2 ^ n : Nat) : Int) by omega)
  refine ⟨va.toInt.toNat, by omega, by omega, ?_⟩
  apply Int32.toInt_inj.mp
  rw [Int32.toInt_ofNat_small (by omega)]; omega
theorem o_div8 (a : Nat) (h : a < 100000) : Int32.ofNat a / (8 : Int32) = Int32.ofNat (a / 8) := by
  apply Int32.toInt_inj.mp
  have q := (c_idiv (Int32.ofNat a) 8 8 (by decide) (by decide)).1 (by rw [Int32.toInt_ofNat_small (by omega)]; omega)
  rw [q, Int32.toInt_ofNat_small (by omega), Int32.toInt_ofNat_small (by omega)]; omega
theorem own_or_lt {V c v T : Nat} (hV : V < 2 ^ T) (hv : v < 2 ^ c) : V <<< c ||| v < 2 ^ (T + c) := by
  apply Nat.or_lt_two_pow
  · rw [Nat.shiftLeft_eq, Nat.pow_add]; exact Nat.mul_lt_mul_of_pos_right hV (Nat.two_pow_pos c)
  · exact Nat.lt_of_lt_of_le hv (Nat.pow_le_pow_right (by decide) (by omega))
theorem o_mul {a b : Nat} (h : a * b < 2147483648) (ha : a < 2147483648) (hb : b < 2147483648) : Int32.ofNat a * Int32.ofNat b = Int32.ofNat (a * b) := by
  apply Int32.toInt_inj.mp
  have q := c_imul (Int32.ofNat a) (Int32.ofNat b); have r := rng32 (Int32.ofNat a * Int32.ofNat b)
  rw [Int32.toInt_ofNat_small ha, Int32.toInt_ofNat_small hb, ← Int.natCast_mul] at q
  rw [Int32.toInt_ofNat_small h]; omega
theorem own_pad (T : Nat) (h : T < 1000) : (8 : Int32) * Int32.ofNat ((T + 7) / 8) - Int32.ofNat T = Int32.ofNat (8 * ((T + 7) / 8) - T) := by
  rw [show (8 : Int32) = Int32.ofNat 8 from rfl, o_mul (by omega) (by omega) (by omega), o_sub (by omega) (by omega)]
theorem own_ofs (V k : Nat) : (BitVec.ofNat 64 V) <<< k = BitVec.ofNat 64 (V <<< k) := by
  apply BitVec.eq_of_toNat_eq
  rw [BitVec.toNat_shiftLeft, BitVec.toNat_ofNat, BitVec.toNat_ofNat]
  apply Nat.eq_of_testBit_eq
  intro i
  simp only [Nat.testBit_mod_two_pow, Nat.testBit_shiftLeft]
  by_cases hi : i < 64
  · have h2 : i - k < 64 := by omega
    simp [hi, h2]
  · simp [hi]
theorem own_and255 (X : Int32) (m : Nat) (h : X.toBitVec = BitVec.ofNat 32 m) : X &&& (255 : Int32) = Int32.ofNat (m % 256) := by
  apply Int32.toBitVec_inj.mp
  rw [Int32.toBitVec_and, h]
  apply BitVec.eq_of_toNat_eq
  show (BitVec.ofNat 32 m &&& (255 : Int32).toBitVec).toNat = (BitVec.ofNat 32 (m % 256)).toNat
  rw [BitVec.toNat_and, BitVec.toNat_ofNat, BitVec.toNat_ofNat, show (255 : Int32).toBitVec.toNat = 2 ^ 8 - 1 from by decide, Nat.and_two_pow_sub_one_eq_mod]
  omega
theorem own_shl32 (v k : Nat) (h : k < 32) : ((Int32.ofNat v) <<< ((Int32.ofNat k) &&& 31)).toBitVec = BitVec.ofNat 32 (v <<< k) := by
  have hq : (Int32.ofNat k).toBitVec.toNat % 32 = k := by
    show (BitVec.ofNat 32 k).toNat % 32 = k
    rw [BitVec.toNat_ofNat]; omega
  show (BitVec.ofNat 32 v) <<< (((Int32.ofNat k) &&& 31).toBitVec.smod 32) = _
  rw [BitVec.shiftLeft_eq', sm32 _ k hq]
  apply BitVec.eq_of_toNat_eq
  rw [BitVec.toNat_shiftLeft, BitVec.toNat_ofNat, BitVec.toNat_ofNat]
  apply Nat.eq_of_testBit_eq
  intro i
  simp only [Nat.testBit_mod_two_pow, Nat.testBit_shiftLeft]
  by_cases hi : i < 32
  · have h2 : i - k < 32 := by omega
    simp [hi, h2]
  · simp [hi]
theorem own_amt32 : ∀ s : Fin 32, ((Int32.ofNat s.val) &&& 31).toUInt32 = UInt32.ofNat s.val := by decide +kernel
theorem own_shr32 (v k : Nat) (hv : v < 16777216) (h : k < 32) : (((Int32.ofNat v).toUInt32 >>> ((Int32.ofNat k) &&& 31).toUInt32).toInt32).toBitVec = BitVec.ofNat 32 (v >>> k) := by
  rw [show ((Int32.ofNat k) &&& 31).toUInt32 = UInt32.ofNat k from own_amt32 ⟨k, h⟩]
  show ((Int32.ofNat v).toUInt32 >>> UInt32.ofNat k).toBitVec = _
  rw [UInt32.toBitVec_shiftRight, BitVec.ushiftRight_eq']
  show (BitVec.ofNat 32 v) >>> _ = _
  have e : ((UInt32.ofNat k).toBitVec % 32).toNat = k := by
    rw [BitVec.toNat_umod]
    show (BitVec.ofNat 32 k).toNat % 32 = k
    rw [BitVec.toNat_ofNat]; omega
  rw [e]
  apply BitVec.eq_of_toNat_eq
  rw [BitVec.toNat_ushiftRight, BitVec.toNat_ofNat, BitVec.toNat_ofNat]
  have : v >>> k ≤ v := Nat.shiftRight_le _ _
  rw [Nat.mod_eq_of_lt (by omega), Nat.mod_eq_of_lt (by omega)]
theorem own_m255 (x ka : Int32) (h : (x &&& (255 : Int32)) = ka) : ∃ n : Nat, n ≤ 255 ∧ ka = Int32.ofNat n := by
  have a := c_and x 255 (by decide)
  rw [h] at a
  have e : (255 : Int32).toInt = 255 := by decide
  refine ⟨ka.toInt.toNat, by omega, ?_⟩
  apply Int32.toInt_inj.mp
  rw [Int32.toInt_ofNat_small (by omega)]; omega
theorem own_b32 (X : Int32) (m : Nat) (h : X.toBitVec = BitVec.ofNat 32 m) : X.toInt8.toInt32 = bb m := by
  apply bb_bv
  show (X.toBitVec.signExtend 8).toNat = _
  rw [BitVec.signExtend_eq_setWidth_of_le _ (by decide), BitVec.toNat_setWidth, h, BitVec.toNat_ofNat]
  omega
theorem own_hi (f : Nat → Int32) (v nb : Nat) (hv : v < 16777216) (h8 : 8 ≤ nb) (hn : nb ≤ 24) : wf f (0 <<< nb ||| v) (0 + nb) (0 / 8) ((0 + nb) / 8) 0 = (((Int32.ofNat v).toUInt32 >>> ((Int32.ofNat nb - (8 : Int32)) &&& 31).toUInt32).toInt32).toInt8.toInt32 := by
  rw [show (8 : Int32) = Int32.ofNat 8 from rfl, o_sub (by omega) h8, own_b32 _ _ (own_shr32 v _ hv (by omega))]
  unfold wf sb
  rw [if_pos (by omega), if_pos (by omega)]
  congr 1
  rw [show 0 + nb - 8 * (0 + 1) = nb - 8 from by omega]; simp
theorem own_lo (v nb : Nat) (h0 : 0 < nb) (hn : nb < 8) : bb ((0 <<< nb ||| v) <<< (8 - (0 + nb) % 8)) = ((Int32.ofNat v) <<< (((8 : Int32) - Int32.ofNat nb) &&& 31)).toInt8.toInt32 := by
  rw [show (8 : Int32) = Int32.ofNat 8 from rfl, o_sub (by omega) (by omega), own_b32 _ _ (own_shl32 v _ (by omega))]
  congr 1
  rw [show 8 - (0 + nb) % 8 = 8 - nb from by omega]; simp
theorem d1_0 : decode prog_9_method_1_code 0 = .ok (.aload_n 0, 1) := by decide +kernel
theorem d1_1 : decode prog_9_method_1_code 1 = .ok (.invokespecial 3, 3) := by decide +kernel
theorem d1_4 : decode prog_9_method_1_code 4 = .ok (.aload_n 0, 1) := by decide +kernel
theorem d1_5 : decode prog_9_method_1_code 5 = .ok (.iconst 0, 1) := by decide +kernel
theorem d1_6 : decode prog_9_method_1_code 6 = .ok (.newarray .byte, 2) := by decide +kernel
theorem d1_8 : decode prog_9_method_1_code 8 = .ok (.putfield 9, 3) := by decide +kernel
theorem d1_11 : decode prog_9_method_1_code 11 = .ok (.aload_n 0, 1) := by decide +kernel
theorem d1_12 : decode prog_9_method_1_code 12 = .ok (.sipush 256, 3) := by decide +kernel
theorem d1_15 : decode prog_9_method_1_code 15 = .ok (.newarray .int, 2) := by decide +kernel
theorem d1_17 : decode prog_9_method_1_code 17 = .ok (.putfield 15, 3) := by decide +kernel
theorem d1_20 : decode prog_9_method_1_code 20 = .ok (.return_, 1) := by decide +kernel
theorem pn_1 : plainFor (⟨"com/example/tallytree/tallytree/BitWriter", "<init>", "()V"⟩ : MethodName) = true := plainFor_of_name (by first | (simp [plainName, overriddenIn]; done) | decide +kernel)
theorem ef_1 (m : MethodId) (x0 : Addr) : entryFrame m #[(.ref x0)] 1 = mkF m 0 #[.val (.ref x0)] [] := by first | (simp [entryFrame, mkF, argsToLocals, Value.category]; done) | rfl
set_option maxRecDepth 65536 in
set_option maxHeartbeats 40000000 in
theorem rm1 (l : Launch) (Z : State) (a0 : Array Value) (hw : ∀ d ∈ tables_1, d.before a0 Z = true) (ws : List Jvm.Cond) (x0 : Addr)  (h0 : Heap) (n0 : Nat) (sz : n0 ≤ h0.size) (F_x0_bytes : Fld Z h0 x0 "com/example/tallytree/tallytree/BitWriter" "bytes" "[B" .null) (F_x0_next : Fld Z h0 x0 "com/example/tallytree/tallytree/BitWriter" "next" "I" (.int (0 : Int32))) (F_x0_pending : Fld Z h0 x0 "com/example/tallytree/tallytree/BitWriter" "pending" "J" (.long (0 : Int64))) (F_x0_pendingBits : Fld Z h0 x0 "com/example/tallytree/tallytree/BitWriter" "pendingBits" "I" (.int (0 : Int32))) (E_x0 : Exa Z h0 x0 "com/example/tallytree/tallytree/BitWriter") (g_x0 : n0 ≤ x0) (F_x0_entries : Fld Z h0 x0 "com/example/tallytree/tallytree/BitWriter" "entries" "[I" .null) :
    Ctr l (⟨"com/example/tallytree/tallytree/BitWriter", "<init>", "()V"⟩ : MethodName) prog_9_method_1_code 1 none ws ({ frames := 1, cells := 2, slots := 256, locals := 12 } : Room) Z #[(.ref x0)] h0 (fun v h L => v = none ∧ Fr n0 L ∧ Keep h0 h [x0] ∧ ∃ t, h0.size ≤ t ∧ Fld Z h x0 "com/example/tallytree/tallytree/BitWriter" "bytes" "[B" (.ref t) ∧ Fld Z h x0 "com/example/tallytree/tallytree/BitWriter" "next" "I" (.int (0 : Int32)) ∧ Fld Z h x0 "com/example/tallytree/tallytree/BitWriter" "pending" "J" (.long (0 : Int64)) ∧ Fld Z h x0 "com/example/tallytree/tallytree/BitWriter" "pendingBits" "I" (.int (0 : Int32)) ∧ AI Z h t .byte []) 2 256 := by
  refine Ctr.mk pn_1 ?_
  intro p e s m below meth c T hx hby hml hown hnm hlk hret hZ X eT
  have N := Fr.nil n0
  refine enter (ef_1 m x0) ?_
  have K := Keep.refl h0 [x0]
  refine s_aloadN X hx (hb hby d1_0) rfl rfl (q := 1) rfl ?_
  refine s_initO X hx hZ hown (W := 0) (hw _ (List.mem_of_getElem? (i := 6) rfl)) (hw _ (List.mem_of_getElem? (i := 7) rfl)) (hw _ (List.mem_of_getElem? (i := 8) rfl)) eT (by rw [hml]; rfl) (by decide) (Nat.le_of_ble_eq_true rfl) (by decide) (hb hby d1_1) (q := 4) rfl ?_
  intro T X eT
  refine s_aloadN X hx (hb hby d1_4) rfl rfl (q := 5) rfl ?_
  refine s_iconst X hx (z := (0 : Int32)) (hb hby d1_5) rfl (q := 6) rfl ?_
  refine s_newB X hx hZ (hw _ (List.mem_of_getElem? (i := 9) rfl)) eT (by decide) (cap := 0) (by decide) (by decide) (by decide) (by decide) (ys := []) rfl (hb hby d1_6) (q := 8) rfl ?_
  intro T h2 a1 X eT E ea A_a1
  have ne_x0_a1 : x0 ≠ a1 := by rw [ea]; exact Nat.ne_of_lt E_x0.lt
  have E_x0 := E_x0.ext E
  have F_x0_bytes := F_x0_bytes.ext E
  have F_x0_next := F_x0_next.ext E
  have F_x0_pending := F_x0_pending.ext E
  have F_x0_pendingBits := F_x0_pendingBits.ext E
  have F_x0_entries := F_x0_entries.ext E
  have g_a1 : n0 ≤ a1 := by rw [ea]; exact sz
  have sk_a1 : h0.size ≤ a1 := by rw [ea]; exact K.1
  have K := K.ext E
  have sz : n0 ≤ h2.size := Nat.le_trans sz E.1
  refine s_putF X hx hZ hown (hw _ (List.mem_of_getElem? (i := 10) rfl)) eT F_x0_bytes E_x0 (Or.inl (hw _ (List.mem_of_getElem? (i := 11) rfl))) (hw _ (List.mem_of_getElem? (i := 1) rfl)) (ty := (.array .byte)) (by decide) rfl rfl N g_x0 (hb hby d1_8) (q := 11) rfl ?_
  intro T h3 _ X N eT W F_x0_bytes'
  have E_x0 := E_x0.wr W
  have F_x0_next := F_x0_next.other W (Or.inr (slot_ne (Or.inl (hw _ (List.mem_of_getElem? (i := 21) rfl))) (Or.inl (hw _ (List.mem_of_getElem? (i := 11) rfl))) (by decide) (t := .int) (t' := (.array .byte)) (by decide) (by decide)))
  have F_x0_pending := F_x0_pending.other W (Or.inr (slot_ne (Or.inl (hw _ (List.mem_of_getElem? (i := 23) rfl))) (Or.inl (hw _ (List.mem_of_getElem? (i := 11) rfl))) (by decide) (t := .long) (t' := (.array .byte)) (by decide) (by decide)))
  have F_x0_pendingBits := F_x0_pendingBits.other W (Or.inr (slot_ne (Or.inl (hw _ (List.mem_of_getElem? (i := 25) rfl))) (Or.inl (hw _ (List.mem_of_getElem? (i := 11) rfl))) (by decide) (t := .int) (t' := (.array .byte)) (by decide) (by decide)))
  have F_x0_entries := F_x0_entries.other W (Or.inr (slot_ne (Or.inr (hw _ (List.mem_of_getElem? (i := 14) rfl))) (Or.inl (hw _ (List.mem_of_getElem? (i := 11) rfl))) (by decide) (t := (.array .int)) (t' := (.array .byte)) (by decide) (by decide)))
  have A_a1 := A_a1.other W (Ne.symm ne_x0_a1)
  have K := K.wr W (Or.inl (List.mem_of_getElem? (i := 0) rfl))
  have sz : n0 ≤ h3.size := by rw [W.size]; exact sz
  have F_x0_bytes := F_x0_bytes'
  refine s_aloadN X hx (hb hby d1_11) rfl rfl (q := 12) rfl ?_
  refine s_sipush X hx (z := (256 : Int32)) (hb hby d1_12) rfl (q := 15) rfl ?_
  refine s_newI X hx hZ (hw _ (List.mem_of_getElem? (i := 12) rfl)) eT (by decide) (cap := 256) (by decide) (by decide) (by decide) (by decide) (ys := (List.replicate 256 0)) rfl (hb hby d1_15) (q := 17) rfl ?_
  intro T h5 a4 X eT E ea A_a4
  have ne_x0_a4 : x0 ≠ a4 := by rw [ea]; exact Nat.ne_of_lt E_x0.lt
  have ne_a1_a4 : a1 ≠ a4 := by rw [ea]; exact Nat.ne_of_lt A_a1.lt
  have E_x0 := E_x0.ext E
  have F_x0_bytes := F_x0_bytes.ext E
  have F_x0_next := F_x0_next.ext E
  have F_x0_pending := F_x0_pending.ext E
  have F_x0_pendingBits := F_x0_pendingBits.ext E
  have F_x0_entries := F_x0_entries.ext E
  have A_a1 := A_a1.ext E
  have g_a4 : n0 ≤ a4 := by rw [ea]; exact sz
  have sk_a4 : h0.size ≤ a4 := by rw [ea]; exact K.1
  have K := K.ext E
  have sz : n0 ≤ h5.size := Nat.le_trans sz E.1
  refine s_putF X hx hZ hown (hw _ (List.mem_of_getElem? (i := 13) rfl)) eT F_x0_entries E_x0 (Or.inr ⟨(hw _ (List.mem_of_getElem? (i := 14) rfl)), rfl, hnm⟩) (hw _ (List.mem_of_getElem? (i := 1) rfl)) (ty := (.array .int)) (by decide) rfl rfl N g_x0 (hb hby d1_17) (q := 20) rfl ?_
  intro T h6 _ X N eT W F_x0_entries'
  have E_x0 := E_x0.wr W
  have F_x0_bytes := F_x0_bytes.other W (Or.inr (slot_ne (Or.inl (hw _ (List.mem_of_getElem? (i := 11) rfl))) (Or.inr (hw _ (List.mem_of_getElem? (i := 14) rfl))) (by decide) (t := (.array .byte)) (t' := (.array .int)) (by decide) (by decide)))
  have F_x0_next := F_x0_next.other W (Or.inr (slot_ne (Or.inl (hw _ (List.mem_of_getElem? (i := 21) rfl))) (Or.inr (hw _ (List.mem_of_getElem? (i := 14) rfl))) (by decide) (t := .int) (t' := (.array .int)) (by decide) (by decide)))
  have F_x0_pending := F_x0_pending.other W (Or.inr (slot_ne (Or.inl (hw _ (List.mem_of_getElem? (i := 23) rfl))) (Or.inr (hw _ (List.mem_of_getElem? (i := 14) rfl))) (by decide) (t := .long) (t' := (.array .int)) (by decide) (by decide)))
  have F_x0_pendingBits := F_x0_pendingBits.other W (Or.inr (slot_ne (Or.inl (hw _ (List.mem_of_getElem? (i := 25) rfl))) (Or.inr (hw _ (List.mem_of_getElem? (i := 14) rfl))) (by decide) (t := .int) (t' := (.array .int)) (by decide) (by decide)))
  have A_a1 := A_a1.other W (Ne.symm ne_x0_a1)
  have A_a4 := A_a4.other W (Ne.symm ne_x0_a4)
  have K := K.wr W (Or.inl (List.mem_of_getElem? (i := 0) rfl))
  have sz : n0 ≤ h6.size := by rw [W.size]; exact sz
  have F_x0_entries := F_x0_entries'
  exact leafV X hx hlk hret (hb hby d1_20) (by decide) (by decide) (by rw [eT]; exact ⟨rfl, N, K, _, sk_a1, F_x0_bytes, F_x0_next, F_x0_pending, F_x0_pendingBits, A_a1⟩)
theorem own_p8 (cp : Nat) (h : cp ≤ 255) : Int32.ofNat cp + (8 : Int32) = Int32.ofNat (cp + 8) := by
  rw [show (8 : Int32) = Int32.ofNat 8 from rfl, o_add (by omega)]
theorem d3_0 : decode prog_9_method_2_code 0 = .ok (.aload_n 0, 1) := by decide +kernel
theorem d3_1 : decode prog_9_method_2_code 1 = .ok (.getfield 9, 3) := by decide +kernel
theorem d3_4 : decode prog_9_method_2_code 4 = .ok (.arraylength, 1) := by decide +kernel
theorem d3_5 : decode prog_9_method_2_code 5 = .ok (.iload_n 1, 1) := by decide +kernel
theorem d3_6 : decode prog_9_method_2_code 6 = .ok (.bipush 8, 2) := by decide +kernel
theorem d3_8 : decode prog_9_method_2_code 8 = .ok (.iadd, 1) := by decide +kernel
theorem d3_9 : decode prog_9_method_2_code 9 = .ok (.if_icmp .ge 13, 3) := by decide +kernel
theorem d3_12 : decode prog_9_method_2_code 12 = .ok (.aload_n 0, 1) := by decide +kernel
theorem d3_13 : decode prog_9_method_2_code 13 = .ok (.iload_n 1, 1) := by decide +kernel
theorem d3_14 : decode prog_9_method_2_code 14 = .ok (.bipush 8, 2) := by decide +kernel
theorem d3_16 : decode prog_9_method_2_code 16 = .ok (.iadd, 1) := by decide +kernel
theorem d3_17 : decode prog_9_method_2_code 17 = .ok (.newarray .byte, 2) := by decide +kernel
theorem d3_19 : decode prog_9_method_2_code 19 = .ok (.putfield 9, 3) := by decide +kernel
theorem d3_22 : decode prog_9_method_2_code 22 = .ok (.aload_n 0, 1) := by decide +kernel
theorem d3_23 : decode prog_9_method_2_code 23 = .ok (.iconst 0, 1) := by decide +kernel
theorem d3_24 : decode prog_9_method_2_code 24 = .ok (.putfield 21, 3) := by decide +kernel
theorem d3_27 : decode prog_9_method_2_code 27 = .ok (.aload_n 0, 1) := by decide +kernel
theorem d3_28 : decode prog_9_method_2_code 28 = .ok (.lconst 0, 1) := by decide +kernel
theorem d3_29 : decode prog_9_method_2_code 29 = .ok (.putfield 25, 3) := by decide +kernel
theorem d3_32 : decode prog_9_method_2_code 32 = .ok (.aload_n 0, 1) := by decide +kernel
theorem d3_33 : decode prog_9_method_2_code 33 = .ok (.iconst 0, 1) := by decide +kernel
theorem d3_34 : decode prog_9_method_2_code 34 = .ok (.putfield 29, 3) := by decide +kernel
theorem d3_37 : decode prog_9_method_2_code 37 = .ok (.return_, 1) := by decide +kernel
theorem pn_3 : plainFor (⟨"com/example/tallytree/tallytree/BitWriter", "reset", "(I)V"⟩ : MethodName) = true := plainFor_of_name (by first | (simp [plainName, overriddenIn]; done) | decide +kernel)
theorem ef_3 (m : MethodId) (x0 : Addr) (x1 : Int32) : entryFrame m #[(.ref x0), (.int x1)] 2 = mkF m 0 #[.val (.ref x0), .val (.int x1)] [] := by first | (simp [entryFrame, mkF, argsToLocals, Value.category]; done) | rfl
set_option maxRecDepth 65536 in
set_option maxHeartbeats 40000000 in
theorem rm3_new (l : Launch) (Z : State) (a0 : Array Value) (hw : ∀ d ∈ tables_1, d.before a0 Z = true) (ws : List Jvm.Cond) (x0 : Addr) (t : Addr) (xs : List Int32) (cp : Nat) (nx pb : Int32) (pp : Int64) (h0 : Heap) (n0 : Nat) (sz : n0 ≤ h0.size) (F_x0_bytes : Fld Z h0 x0 "com/example/tallytree/tallytree/BitWriter" "bytes" "[B" (.ref t)) (F_x0_next : Fld Z h0 x0 "com/example/tallytree/tallytree/BitWriter" "next" "I" (.int nx)) (F_x0_pending : Fld Z h0 x0 "com/example/tallytree/tallytree/BitWriter" "pending" "J" (.long pp)) (F_x0_pendingBits : Fld Z h0 x0 "com/example/tallytree/tallytree/BitWriter" "pendingBits" "I" (.int pb)) (E_x0 : Exa Z h0 x0 "com/example/tallytree/tallytree/BitWriter") (g_x0 : n0 ≤ x0) (A_t : AI Z h0 t .byte xs) (g_t : n0 ≤ t) (ne_x0_t : x0 ≠ t) (hcp : cp ≤ 255) (hxl : xs.length < 1000) (hlt : xs.length < cp + 8) :
    Ctr l (⟨"com/example/tallytree/tallytree/BitWriter", "reset", "(I)V"⟩ : MethodName) prog_9_method_2_code 2 none ws ({ frames := 0, cells := 1, slots := 263, locals := 0 } : Room) Z #[(.ref x0), (.int (Int32.ofNat cp))] h0 (fun v h L => v = none ∧ Fr n0 L ∧ Keep h0 h [x0] ∧ ∃ t', h0.size ≤ t' ∧ Fld Z h x0 "com/example/tallytree/tallytree/BitWriter" "bytes" "[B" (.ref t') ∧ Fld Z h x0 "com/example/tallytree/tallytree/BitWriter" "next" "I" (.int (0 : Int32)) ∧ Fld Z h x0 "com/example/tallytree/tallytree/BitWriter" "pending" "J" (.long (0 : Int64)) ∧ Fld Z h x0 "com/example/tallytree/tallytree/BitWriter" "pendingBits" "I" (.int (0 : Int32)) ∧ AI Z h t' .byte (ML (cp + 8) (sb 0 0))) 1 263 := by
  refine Ctr.mk pn_3 ?_
  intro p e s m below meth c T hx hby hml hown hnm hlk hret hZ X eT
  have N := Fr.nil n0
  refine enter (ef_3 m x0 (Int32.ofNat cp)) ?_
  have K := Keep.refl h0 [x0]
  refine s_aloadN X hx (hb hby d3_0) rfl rfl (q := 1) rfl ?_
  refine s_getF X hx hZ hown (hw _ (List.mem_of_getElem? (i := 10) rfl)) eT F_x0_bytes (hb hby d3_1) (q := 4) rfl ?_
  intro T X eT
  refine s_lenI X hx hZ eT (z := (Int32.ofNat xs.length)) A_t rfl (hb hby d3_4) (q := 5) rfl ?_
  refine s_iloadN X hx (hb hby d3_5) rfl (q := 6) rfl ?_
  refine s_bipush X hx (z := (8 : Int32)) (hb hby d3_6) rfl (q := 8) rfl ?_
  refine s_iadd X hx (hb hby d3_8) (q := 9) rfl ?_
  rw [own_p8 cp hcp]
  refine f_icmp_ge X hx (hb hby d3_9) (q1 := 22) (by decide) (by decide) (q := 12) rfl (fun hq => absurd ((o_lt (by omega) (by omega)).mpr hlt : (Int32.ofNat xs.length) < (Int32.ofNat (cp + 8))) hq) (fun _ => ?_)
  refine s_aloadN X hx (hb hby d3_12) rfl rfl (q := 13) rfl ?_
  refine s_iloadN X hx (hb hby d3_13) rfl (q := 14) rfl ?_
  refine s_bipush X hx (z := (8 : Int32)) (hb hby d3_14) rfl (q := 16) rfl ?_
  refine s_iadd X hx (hb hby d3_16) (q := 17) rfl ?_
  rw [own_p8 cp hcp]
  refine s_newB X hx hZ (hw _ (List.mem_of_getElem? (i := 9) rfl)) eT (o_nn (by omega)) (cap := 263) (by rw [o_nat (by omega)]; omega) (by decide) (by decide) (by decide) (ys := (ML (cp + 8) (sb 0 0))) (by rw [o_nat (by omega)]; exact ML_zero _) (hb hby d3_17) (q := 19) rfl ?_
  intro T h2 a1 X eT E ea A_a1
  have ne_x0_a1 : x0 ≠ a1 := by rw [ea]; exact Nat.ne_of_lt E_x0.lt
  have ne_t_a1 : t ≠ a1 := by rw [ea]; exact Nat.ne_of_lt A_t.lt
  have E_x0 := E_x0.ext E
  have F_x0_bytes := F_x0_bytes.ext E
  have F_x0_next := F_x0_next.ext E
  have F_x0_pending := F_x0_pending.ext E
  have F_x0_pendingBits := F_x0_pendingBits.ext E
  have A_t := A_t.ext E
  have g_a1 : n0 ≤ a1 := by rw [ea]; exact sz
  have sk_a1 : h0.size ≤ a1 := by rw [ea]; exact K.1
  have K := K.ext E
  have sz : n0 ≤ h2.size := Nat.le_trans sz E.1
  refine s_putF X hx hZ hown (hw _ (List.mem_of_getElem? (i := 10) rfl)) eT F_x0_bytes E_x0 (Or.inl (hw _ (List.mem_of_getElem? (i := 11) rfl))) (hw _ (List.mem_of_getElem? (i := 1) rfl)) (ty := (.array .byte)) (by decide) rfl rfl N g_x0 (hb hby d3_19) (q := 22) rfl ?_
  intro T h3 _ X N eT W F_x0_bytes'
  have E_x0 := E_x0.wr W
  have F_x0_next := F_x0_next.other W (Or.inr (slot_ne (Or.inl (hw _ (List.mem_of_getElem? (i := 21) rfl))) (Or.inl (hw _ (List.mem_of_getElem? (i := 11) rfl))) (by decide) (t := .int) (t' := (.array .byte)) (by decide) (by decide)))
  have F_x0_pending := F_x0_pending.other W (Or.inr (slot_ne (Or.inl (hw _ (List.mem_of_getElem? (i := 23) rfl))) (Or.inl (hw _ (List.mem_of_getElem? (i := 11) rfl))) (by decide) (t := .long) (t' := (.array .byte)) (by decide) (by decide)))
  have F_x0_pendingBits := F_x0_pendingBits.other W (Or.inr (slot_ne (Or.inl (hw _ (List.mem_of_getElem? (i := 25) rfl))) (Or.inl (hw _ (List.mem_of_getElem? (i := 11) rfl))) (by decide) (t := .int) (t' := (.array .byte)) (by decide) (by decide)))
  have A_t := A_t.other W (Ne.symm ne_x0_t)
  have A_a1 := A_a1.other W (Ne.symm ne_x0_a1)
  have K := K.wr W (Or.inl (List.mem_of_getElem? (i := 0) rfl))
  have sz : n0 ≤ h3.size := by rw [W.size]; exact sz
  have F_x0_bytes := F_x0_bytes'
  refine s_aloadN X hx (hb hby d3_22) rfl rfl (q := 23) rfl ?_
  refine s_iconst X hx (z := (0 : Int32)) (hb hby d3_23) rfl (q := 24) rfl ?_
  refine s_putF X hx hZ hown (hw _ (List.mem_of_getElem? (i := 20) rfl)) eT F_x0_next E_x0 (Or.inl (hw _ (List.mem_of_getElem? (i := 21) rfl))) (hw _ (List.mem_of_getElem? (i := 1) rfl)) (ty := .int) (by decide) rfl rfl N g_x0 (hb hby d3_24) (q := 27) rfl ?_
  intro T h4 _ X N eT W F_x0_next'
  have E_x0 := E_x0.wr W
  have F_x0_bytes := F_x0_bytes.other W (Or.inr (slot_ne (Or.inl (hw _ (List.mem_of_getElem? (i := 11) rfl))) (Or.inl (hw _ (List.mem_of_getElem? (i := 21) rfl))) (by decide) (t := (.array .byte)) (t' := .int) (by decide) (by decide)))
  have F_x0_pending := F_x0_pending.other W (Or.inr (slot_ne (Or.inl (hw _ (List.mem_of_getElem? (i := 23) rfl))) (Or.inl (hw _ (List.mem_of_getElem? (i := 21) rfl))) (by decide) (t := .long) (t' := .int) (by decide) (by decide)))
  have F_x0_pendingBits := F_x0_pendingBits.other W (Or.inr (slot_ne (Or.inl (hw _ (List.mem_of_getElem? (i := 25) rfl))) (Or.inl (hw _ (List.mem_of_getElem? (i := 21) rfl))) (by decide) (t := .int) (t' := .int) (by decide) (by decide)))
  have A_t := A_t.other W (Ne.symm ne_x0_t)
  have A_a1 := A_a1.other W (Ne.symm ne_x0_a1)
  have K := K.wr W (Or.inl (List.mem_of_getElem? (i := 0) rfl))
  have sz : n0 ≤ h4.size := by rw [W.size]; exact sz
  have F_x0_next := F_x0_next'
  refine s_aloadN X hx (hb hby d3_27) rfl rfl (q := 28) rfl ?_
  refine s_lconst X hx (z := (0 : Int64)) (hb hby d3_28) rfl (q := 29) rfl ?_
  refine s_putF X hx hZ hown (hw _ (List.mem_of_getElem? (i := 22) rfl)) eT F_x0_pending E_x0 (Or.inl (hw _ (List.mem_of_getElem? (i := 23) rfl))) (hw _ (List.mem_of_getElem? (i := 1) rfl)) (ty := .long) (by decide) rfl rfl N g_x0 (hb hby d3_29) (q := 32) rfl ?_
  intro T h5 _ X N eT W F_x0_pending'
  have E_x0 := E_x0.wr W
  have F_x0_bytes := F_x0_bytes.other W (Or.inr (slot_ne (Or.inl (hw _ (List.mem_of_getElem? (i := 11) rfl))) (Or.inl (hw _ (List.mem_of_getElem? (i := 23) rfl))) (by decide) (t := (.array .byte)) (t' := .long) (by decide) (by decide)))
  have F_x0_next := F_x0_next.other W (Or.inr (slot_ne (Or.inl (hw _ (List.mem_of_getElem? (i := 21) rfl))) (Or.inl (hw _ (List.mem_of_getElem? (i := 23) rfl))) (by decide) (t := .int) (t' := .long) (by decide) (by decide)))
  have F_x0_pendingBits := F_x0_pendingBits.other W (Or.inr (slot_ne (Or.inl (hw _ (List.mem_of_getElem? (i := 25) rfl))) (Or.inl (hw _ (List.mem_of_getElem? (i := 23) rfl))) (by decide) (t := .int) (t' := .long) (by decide) (by decide)))
  have A_t := A_t.other W (Ne.symm ne_x0_t)
  have A_a1 := A_a1.other W (Ne.symm ne_x0_a1)
  have K := K.wr W (Or.inl (List.mem_of_getElem? (i := 0) rfl))
  have sz : n0 ≤ h5.size := by rw [W.size]; exact sz
  have F_x0_pending := F_x0_pending'
  refine s_aloadN X hx (hb hby d3_32) rfl rfl (q := 33) rfl ?_
  refine s_iconst X hx (z := (0 : Int32)) (hb hby d3_33) rfl (q := 34) rfl ?_
  refine s_putF X hx hZ hown (hw _ (List.mem_of_getElem? (i := 24) rfl)) eT F_x0_pendingBits E_x0 (Or.inl (hw _ (List.mem_of_getElem? (i := 25) rfl))) (hw _ (List.mem_of_getElem? (i := 1) rfl)) (ty := .int) (by decide) rfl rfl N g_x0 (hb hby d3_34) (q := 37) rfl ?_
  intro T h6 _ X N eT W F_x0_pendingBits'
  have E_x0 := E_x0.wr W
  have F_x0_bytes := F_x0_bytes.other W (Or.inr (slot_ne (Or.inl (hw _ (List.mem_of_getElem? (i := 11) rfl))) (Or.inl (hw _ (List.mem_of_getElem? (i := 25) rfl))) (by decide) (t := (.array .byte)) (t' := .int) (by decide) (by decide)))
  have F_x0_next := F_x0_next.other W (Or.inr (slot_ne (Or.inl (hw _ (List.mem_of_getElem? (i := 21) rfl))) (Or.inl (hw _ (List.mem_of_getElem? (i := 25) rfl))) (by decide) (t := .int) (t' := .int) (by decide) (by decide)))
  have F_x0_pending := F_x0_pending.other W (Or.inr (slot_ne (Or.inl (hw _ (List.mem_of_getElem? (i := 23) rfl))) (Or.inl (hw _ (List.mem_of_getElem? (i := 25) rfl))) (by decide) (t := .long) (t' := .int) (by decide) (by decide)))
  have A_t := A_t.other W (Ne.symm ne_x0_t)
  have A_a1 := A_a1.other W (Ne.symm ne_x0_a1)
  have K := K.wr W (Or.inl (List.mem_of_getElem? (i := 0) rfl))
  have sz : n0 ≤ h6.size := by rw [W.size]; exact sz
  have F_x0_pendingBits := F_x0_pendingBits'
  exact leafV X hx hlk hret (hb hby d3_37) (by decide) (by decide) (by rw [eT]; exact ⟨rfl, N, K, _, sk_a1, F_x0_bytes, F_x0_next, F_x0_pending, F_x0_pendingBits, A_a1⟩)
set_option maxRecDepth 65536 in
set_option maxHeartbeats 40000000 in
theorem rm3_old (l : Launch) (Z : State) (a0 : Array Value) (hw : ∀ d ∈ tables_1, d.before a0 Z = true) (ws : List Jvm.Cond) (x0 : Addr) (t : Addr) (xs : List Int32) (cp : Nat) (nx pb : Int32) (pp : Int64) (h0 : Heap) (n0 : Nat) (sz : n0 ≤ h0.size) (F_x0_bytes : Fld Z h0 x0 "com/example/tallytree/tallytree/BitWriter" "bytes" "[B" (.ref t)) (F_x0_next : Fld Z h0 x0 "com/example/tallytree/tallytree/BitWriter" "next" "I" (.int nx)) (F_x0_pending : Fld Z h0 x0 "com/example/tallytree/tallytree/BitWriter" "pending" "J" (.long pp)) (F_x0_pendingBits : Fld Z h0 x0 "com/example/tallytree/tallytree/BitWriter" "pendingBits" "I" (.int pb)) (E_x0 : Exa Z h0 x0 "com/example/tallytree/tallytree/BitWriter") (g_x0 : n0 ≤ x0) (A_t : AI Z h0 t .byte xs) (g_t : n0 ≤ t) (ne_x0_t : x0 ≠ t) (hcp : cp ≤ 255) (hxl : xs.length < 1000) (hlt : ¬ xs.length < cp + 8) :
    Ctr l (⟨"com/example/tallytree/tallytree/BitWriter", "reset", "(I)V"⟩ : MethodName) prog_9_method_2_code 2 none ws ({ frames := 0, cells := 1, slots := 263, locals := 0 } : Room) Z #[(.ref x0), (.int (Int32.ofNat cp))] h0 (fun v h L => v = none ∧ Fr n0 L ∧ Keep h0 h [x0] ∧ Fld Z h x0 "com/example/tallytree/tallytree/BitWriter" "bytes" "[B" (.ref t) ∧ Fld Z h x0 "com/example/tallytree/tallytree/BitWriter" "next" "I" (.int (0 : Int32)) ∧ Fld Z h x0 "com/example/tallytree/tallytree/BitWriter" "pending" "J" (.long (0 : Int64)) ∧ Fld Z h x0 "com/example/tallytree/tallytree/BitWriter" "pendingBits" "I" (.int (0 : Int32))) 1 263 := by
  refine Ctr.mk pn_3 ?_
  intro p e s m below meth c T hx hby hml hown hnm hlk hret hZ X eT
  have N := Fr.nil n0
  refine enter (ef_3 m x0 (Int32.ofNat cp)) ?_
  have K := Keep.refl h0 [x0]
  refine s_aloadN X hx (hb hby d3_0) rfl rfl (q := 1) rfl ?_
  refine s_getF X hx hZ hown (hw _ (List.mem_of_getElem? (i := 10) rfl)) eT F_x0_bytes (hb hby d3_1) (q := 4) rfl ?_
  intro T X eT
  refine s_lenI X hx hZ eT (z := (Int32.ofNat xs.length)) A_t rfl (hb hby d3_4) (q := 5) rfl ?_
  refine s_iloadN X hx (hb hby d3_5) rfl (q := 6) rfl ?_
  refine s_bipush X hx (z := (8 : Int32)) (hb hby d3_6) rfl (q := 8) rfl ?_
  refine s_iadd X hx (hb hby d3_8) (q := 9) rfl ?_
  rw [own_p8 cp hcp]
  refine f_icmp_ge X hx (hb hby d3_9) (q1 := 22) (by decide) (by decide) (q := 12) rfl (fun _ => ?_) (fun hq => absurd hq (fun q => hlt ((o_lt (by omega) (by omega)).mp q) : ¬ (Int32.ofNat xs.length) < (Int32.ofNat (cp + 8))))
  refine s_aloadN X hx (hb hby d3_22) rfl rfl (q := 23) rfl ?_
  refine s_iconst X hx (z := (0 : Int32)) (hb hby d3_23) rfl (q := 24) rfl ?_
  refine s_putF X hx hZ hown (hw _ (List.mem_of_getElem? (i := 20) rfl)) eT F_x0_next E_x0 (Or.inl (hw _ (List.mem_of_getElem? (i := 21) rfl))) (hw _ (List.mem_of_getElem? (i := 1) rfl)) (ty := .int) (by decide) rfl rfl N g_x0 (hb hby d3_24) (q := 27) rfl ?_
  intro T h1 _ X N eT W F_x0_next'
  have E_x0 := E_x0.wr W
  have F_x0_bytes := F_x0_bytes.other W (Or.inr (slot_ne (Or.inl (hw _ (List.mem_of_getElem? (i := 11) rfl))) (Or.inl (hw _ (List.mem_of_getElem? (i := 21) rfl))) (by decide) (t := (.array .byte)) (t' := .int) (by decide) (by decide)))
  have F_x0_pending := F_x0_pending.other W (Or.inr (slot_ne (Or.inl (hw _ (List.mem_of_getElem? (i := 23) rfl))) (Or.inl (hw _ (List.mem_of_getElem? (i := 21) rfl))) (by decide) (t := .long) (t' := .int) (by decide) (by decide)))
  have F_x0_pendingBits := F_x0_pendingBits.other W (Or.inr (slot_ne (Or.inl (hw _ (List.mem_of_getElem? (i := 25) rfl))) (Or.inl (hw _ (List.mem_of_getElem? (i := 21) rfl))) (by decide) (t := .int) (t' := .int) (by decide) (by decide)))
  have A_t := A_t.other W (Ne.symm ne_x0_t)
  have K := K.wr W (Or.inl (List.mem_of_getElem? (i := 0) rfl))
  have sz : n0 ≤ h1.size := by rw [W.size]; exact sz
  have F_x0_next := F_x0_next'
  refine s_aloadN X hx (hb hby d3_27) rfl rfl (q := 28) rfl ?_
  refine s_lconst X hx (z := (0 : Int64)) (hb hby d3_28) rfl (q := 29) rfl ?_
  refine s_putF X hx hZ hown (hw _ (List.mem_of_getElem? (i := 22) rfl)) eT F_x0_pending E_x0 (Or.inl (hw _ (List.mem_of_getElem? (i := 23) rfl))) (hw _ (List.mem_of_getElem? (i := 1) rfl)) (ty := .long) (by decide) rfl rfl N g_x0 (hb hby d3_29) (q := 32) rfl ?_
  intro T h2 _ X N eT W F_x0_pending'
  have E_x0 := E_x0.wr W
  have F_x0_bytes := F_x0_bytes.other W (Or.inr (slot_ne (Or.inl (hw _ (List.mem_of_getElem? (i := 11) rfl))) (Or.inl (hw _ (List.mem_of_getElem? (i := 23) rfl))) (by decide) (t := (.array .byte)) (t' := .long) (by decide) (by decide)))
  have F_x0_next := F_x0_next.other W (Or.inr (slot_ne (Or.inl (hw _ (List.mem_of_getElem? (i := 21) rfl))) (Or.inl (hw _ (List.mem_of_getElem? (i := 23) rfl))) (by decide) (t := .int) (t' := .long) (by decide) (by decide)))
  have F_x0_pendingBits := F_x0_pendingBits.other W (Or.inr (slot_ne (Or.inl (hw _ (List.mem_of_getElem? (i := 25) rfl))) (Or.inl (hw _ (List.mem_of_getElem? (i := 23) rfl))) (by decide) (t := .int) (t' := .long) (by decide) (by decide)))
  have A_t := A_t.other W (Ne.symm ne_x0_t)
  have K := K.wr W (Or.inl (List.mem_of_getElem? (i := 0) rfl))
  have sz : n0 ≤ h2.size := by rw [W.size]; exact sz
  have F_x0_pending := F_x0_pending'
  refine s_aloadN X hx (hb hby d3_32) rfl rfl (q := 33) rfl ?_
  refine s_iconst X hx (z := (0 : Int32)) (hb hby d3_33) rfl (q := 34) rfl ?_
  refine s_putF X hx hZ hown (hw _ (List.mem_of_getElem? (i := 24) rfl)) eT F_x0_pendingBits E_x0 (Or.inl (hw _ (List.mem_of_getElem? (i := 25) rfl))) (hw _ (List.mem_of_getElem? (i := 1) rfl)) (ty := .int) (by decide) rfl rfl N g_x0 (hb hby d3_34) (q := 37) rfl ?_
  intro T h3 _ X N eT W F_x0_pendingBits'
  have E_x0 := E_x0.wr W
  have F_x0_bytes := F_x0_bytes.other W (Or.inr (slot_ne (Or.inl (hw _ (List.mem_of_getElem? (i := 11) rfl))) (Or.inl (hw _ (List.mem_of_getElem? (i := 25) rfl))) (by decide) (t := (.array .byte)) (t' := .int) (by decide) (by decide)))
  have F_x0_next := F_x0_next.other W (Or.inr (slot_ne (Or.inl (hw _ (List.mem_of_getElem? (i := 21) rfl))) (Or.inl (hw _ (List.mem_of_getElem? (i := 25) rfl))) (by decide) (t := .int) (t' := .int) (by decide) (by decide)))
  have F_x0_pending := F_x0_pending.other W (Or.inr (slot_ne (Or.inl (hw _ (List.mem_of_getElem? (i := 23) rfl))) (Or.inl (hw _ (List.mem_of_getElem? (i := 25) rfl))) (by decide) (t := .long) (t' := .int) (by decide) (by decide)))
  have A_t := A_t.other W (Ne.symm ne_x0_t)
  have K := K.wr W (Or.inl (List.mem_of_getElem? (i := 0) rfl))
  have sz : n0 ≤ h3.size := by rw [W.size]; exact sz
  have F_x0_pendingBits := F_x0_pendingBits'
  exact leafV X hx hlk hret (hb hby d3_37) (by decide) (by decide) (by rw [eT]; exact ⟨rfl, N, K, F_x0_bytes, F_x0_next, F_x0_pending, F_x0_pendingBits⟩)
def QW (Z : State) (x0 t : Addr) (bv bt cn vn ll : Nat) (ff : Nat → Int32) (h0 : Heap) (n0 : Nat) (v : Option Value) (h : Heap) (L : List Loc) : Prop := v = none ∧ Fr n0 L ∧ Keep h0 h [x0, t] ∧ Fld Z h x0 "com/example/tallytree/tallytree/BitWriter" "bytes" "[B" (.ref t) ∧ Fld Z h x0 "com/example/tallytree/tallytree/BitWriter" "next" "I" (.int (Int32.ofNat ((bt + cn) / 8))) ∧ (∃ p1 : Int64, p1.toBitVec = BitVec.ofNat 64 (bv <<< cn ||| vn) ∧ Fld Z h x0 "com/example/tallytree/tallytree/BitWriter" "pending" "J" (.long p1)) ∧ Fld Z h x0 "com/example/tallytree/tallytree/BitWriter" "pendingBits" "I" (.int (Int32.ofNat ((bt + cn) % 8))) ∧ AI Z h t .byte (ML ll (wf ff (bv <<< cn ||| vn) (bt + cn) (bt / 8) ((bt + cn) / 8)))
theorem d4_0 : decode prog_9_method_3_code 0 = .ok (.aload_n 0, 1) := by decide +kernel
theorem d4_1 : decode prog_9_method_3_code 1 = .ok (.aload_n 0, 1) := by decide +kernel
theorem d4_2 : decode prog_9_method_3_code 2 = .ok (.getfield 25, 3) := by decide +kernel
theorem d4_5 : decode prog_9_method_3_code 5 = .ok (.iload_n 2, 1) := by decide +kernel
theorem d4_6 : decode prog_9_method_3_code 6 = .ok (.lshl, 1) := by decide +kernel
theorem d4_7 : decode prog_9_method_3_code 7 = .ok (.iload_n 1, 1) := by decide +kernel
theorem d4_8 : decode prog_9_method_3_code 8 = .ok (.i2l, 1) := by decide +kernel
theorem d4_9 : decode prog_9_method_3_code 9 = .ok (.lor, 1) := by decide +kernel
theorem d4_10 : decode prog_9_method_3_code 10 = .ok (.putfield 25, 3) := by decide +kernel
theorem d4_13 : decode prog_9_method_3_code 13 = .ok (.aload_n 0, 1) := by decide +kernel
theorem d4_14 : decode prog_9_method_3_code 14 = .ok (.dup, 1) := by decide +kernel
theorem d4_15 : decode prog_9_method_3_code 15 = .ok (.getfield 29, 3) := by decide +kernel
theorem d4_18 : decode prog_9_method_3_code 18 = .ok (.iload_n 2, 1) := by decide +kernel
theorem d4_19 : decode prog_9_method_3_code 19 = .ok (.iadd, 1) := by decide +kernel
theorem d4_20 : decode prog_9_method_3_code 20 = .ok (.putfield 29, 3) := by decide +kernel
theorem d4_23 : decode prog_9_method_3_code 23 = .ok (.aload_n 0, 1) := by decide +kernel
theorem d4_24 : decode prog_9_method_3_code 24 = .ok (.getfield 29, 3) := by decide +kernel
theorem d4_27 : decode prog_9_method_3_code 27 = .ok (.bipush 8, 2) := by decide +kernel
theorem d4_29 : decode prog_9_method_3_code 29 = .ok (.if_icmp .lt 44, 3) := by decide +kernel
theorem d4_32 : decode prog_9_method_3_code 32 = .ok (.aload_n 0, 1) := by decide +kernel
theorem d4_33 : decode prog_9_method_3_code 33 = .ok (.dup, 1) := by decide +kernel
theorem d4_34 : decode prog_9_method_3_code 34 = .ok (.getfield 29, 3) := by decide +kernel
theorem d4_37 : decode prog_9_method_3_code 37 = .ok (.bipush 8, 2) := by decide +kernel
theorem d4_39 : decode prog_9_method_3_code 39 = .ok (.isub, 1) := by decide +kernel
theorem d4_40 : decode prog_9_method_3_code 40 = .ok (.putfield 29, 3) := by decide +kernel
theorem d4_43 : decode prog_9_method_3_code 43 = .ok (.aload_n 0, 1) := by decide +kernel
theorem d4_44 : decode prog_9_method_3_code 44 = .ok (.getfield 9, 3) := by decide +kernel
theorem d4_47 : decode prog_9_method_3_code 47 = .ok (.aload_n 0, 1) := by decide +kernel
theorem d4_48 : decode prog_9_method_3_code 48 = .ok (.dup, 1) := by decide +kernel
theorem d4_49 : decode prog_9_method_3_code 49 = .ok (.getfield 21, 3) := by decide +kernel
theorem d4_52 : decode prog_9_method_3_code 52 = .ok (.dup_x1, 1) := by decide +kernel
theorem d4_53 : decode prog_9_method_3_code 53 = .ok (.iconst 1, 1) := by decide +kernel
theorem d4_54 : decode prog_9_method_3_code 54 = .ok (.iadd, 1) := by decide +kernel
theorem d4_55 : decode prog_9_method_3_code 55 = .ok (.putfield 21, 3) := by decide +kernel
theorem d4_58 : decode prog_9_method_3_code 58 = .ok (.aload_n 0, 1) := by decide +kernel
theorem d4_59 : decode prog_9_method_3_code 59 = .ok (.getfield 25, 3) := by decide +kernel
theorem d4_62 : decode prog_9_method_3_code 62 = .ok (.aload_n 0, 1) := by decide +kernel
theorem d4_63 : decode prog_9_method_3_code 63 = .ok (.getfield 29, 3) := by decide +kernel
theorem d4_66 : decode prog_9_method_3_code 66 = .ok (.lushr, 1) := by decide +kernel
theorem d4_67 : decode prog_9_method_3_code 67 = .ok (.l2i, 1) := by decide +kernel
theorem d4_68 : decode prog_9_method_3_code 68 = .ok (.i2b, 1) := by decide +kernel
theorem d4_69 : decode prog_9_method_3_code 69 = .ok (.bastore, 1) := by decide +kernel
theorem d4_70 : decode prog_9_method_3_code 70 = .ok (.goto (-47), 3) := by decide +kernel
theorem d4_73 : decode prog_9_method_3_code 73 = .ok (.return_, 1) := by decide +kernel
theorem pn_4 : plainFor (⟨"com/example/tallytree/tallytree/BitWriter", "write", "(II)V"⟩ : MethodName) = true := plainFor_of_name (by first | (simp [plainName, overriddenIn]; done) | decide +kernel)
theorem ef_4 (m : MethodId) (x0 : Addr) (x1 : Int32) (x2 : Int32) : entryFrame m #[(.ref x0), (.int x1), (.int x2)] 3 = mkF m 0 #[.val (.ref x0), .val (.int x1), .val (.int x2)] [] := by first | (simp [entryFrame, mkF, argsToLocals, Value.category]; done) | rfl
set_option maxRecDepth 65536 in
set_option maxHeartbeats 40000000 in
theorem rm4 (l : Launch) (Z : State) (a0 : Array Value) (hw : ∀ d ∈ tables_1, d.before a0 Z = true) (ws : List Jvm.Cond) (x0 : Addr) (t : Addr) (bv bt cn vn ll : Nat) (ff : Nat → Int32) (pp : Int64) (h0 : Heap) (n0 : Nat) (sz : n0 ≤ h0.size) (F_x0_bytes : Fld Z h0 x0 "com/example/tallytree/tallytree/BitWriter" "bytes" "[B" (.ref t)) (F_x0_next : Fld Z h0 x0 "com/example/tallytree/tallytree/BitWriter" "next" "I" (.int (Int32.ofNat (bt / 8)))) (F_x0_pending : Fld Z h0 x0 "com/example/tallytree/tallytree/BitWriter" "pending" "J" (.long pp)) (F_x0_pendingBits : Fld Z h0 x0 "com/example/tallytree/tallytree/BitWriter" "pendingBits" "I" (.int (Int32.ofNat (bt % 8)))) (E_x0 : Exa Z h0 x0 "com/example/tallytree/tallytree/BitWriter") (g_x0 : n0 ≤ x0) (A_t : AI Z h0 t .byte (ML ll ff)) (g_t : n0 ≤ t) (ne_x0_t : x0 ≠ t) (hpp : pp.toBitVec = BitVec.ofNat 64 bv) (hcn : cn ≤ 24) (hvn : vn < 16777216) (hll : (bt + cn) / 8 ≤ ll) (hl9 : ll < 1000) :
    Ctr l (⟨"com/example/tallytree/tallytree/BitWriter", "write", "(II)V"⟩ : MethodName) prog_9_method_3_code 3 none ws ({ frames := 0, cells := 0, slots := 0, locals := 0 } : Room) Z #[(.ref x0), (.int (Int32.ofNat vn)), (.int (Int32.ofNat cn))] h0 (QW Z x0 t bv bt cn vn ll ff h0 n0) 0 0 := by
  refine Ctr.mk pn_4 ?_
  intro p e s m below meth c T hx hby hml hown hnm hlk hret hZ X eT
  have N := Fr.nil n0
  refine enter (ef_4 m x0 (Int32.ofNat vn) (Int32.ofNat cn)) ?_
  have K := Keep.refl h0 [x0, t]
  refine s_aloadN X hx (hb hby d4_0) rfl rfl (q := 1) rfl ?_
  refine s_aloadN X hx (hb hby d4_1) rfl rfl (q := 2) rfl ?_
  refine s_getF X hx hZ hown (hw _ (List.mem_of_getElem? (i := 22) rfl)) eT F_x0_pending (hb hby d4_2) (q := 5) rfl ?_
  intro T X eT
  refine s_iloadN X hx (hb hby d4_5) rfl (q := 6) rfl ?_
  refine s_lshl X hx (hb hby d4_6) (q := 7) rfl ?_
  refine s_iloadN X hx (hb hby d4_7) rfl (q := 8) rfl ?_
  refine s_i2l X hx (hb hby d4_8) (q := 9) rfl ?_
  refine s_lor X hx (hb hby d4_9) (q := 10) rfl ?_
  generalize hp1' : ((pp <<< ((Int32.ofNat cn) &&& 0x3f).toInt64) ||| (Int32.ofNat vn).toInt64) = p1
  refine s_putF X hx hZ hown (hw _ (List.mem_of_getElem? (i := 22) rfl)) eT F_x0_pending E_x0 (Or.inl (hw _ (List.mem_of_getElem? (i := 23) rfl))) (hw _ (List.mem_of_getElem? (i := 1) rfl)) (ty := .long) (by decide) rfl rfl N g_x0 (hb hby d4_10) (q := 13) rfl ?_
  intro T h1 _ X N eT W F_x0_pending'
  have E_x0 := E_x0.wr W
  have F_x0_bytes := F_x0_bytes.other W (Or.inr (slot_ne (Or.inl (hw _ (List.mem_of_getElem? (i := 11) rfl))) (Or.inl (hw _ (List.mem_of_getElem? (i := 23) rfl))) (by decide) (t := (.array .byte)) (t' := .long) (by decide) (by decide)))
  have F_x0_next := F_x0_next.other W (Or.inr (slot_ne (Or.inl (hw _ (List.mem_of_getElem? (i := 21) rfl))) (Or.inl (hw _ (List.mem_of_getElem? (i := 23) rfl))) (by decide) (t := .int) (t' := .long) (by decide) (by decide)))
  have F_x0_pendingBits := F_x0_pendingBits.other W (Or.inr (slot_ne (Or.inl (hw _ (List.mem_of_getElem? (i := 25) rfl))) (Or.inl (hw _ (List.mem_of_getElem? (i := 23) rfl))) (by decide) (t := .int) (t' := .long) (by decide) (by decide)))
  have A_t := A_t.other W (Ne.symm ne_x0_t)
  have K := K.wr W (Or.inl (List.mem_of_getElem? (i := 0) rfl))
  have sz : n0 ≤ h1.size := by rw [W.size]; exact sz
  have F_x0_pending := F_x0_pending'
  have hp1 : p1.toBitVec = BitVec.ofNat 64 (bv <<< cn ||| vn) := by rw [← hp1']; exact own_app pp bv cn vn hpp (by omega) (by omega)
  refine s_aloadN X hx (hb hby d4_13) rfl rfl (q := 14) rfl ?_
  refine s_dup X hx (hb hby d4_14) rfl (q := 15) rfl ?_
  refine s_getF X hx hZ hown (hw _ (List.mem_of_getElem? (i := 24) rfl)) eT F_x0_pendingBits (hb hby d4_15) (q := 18) rfl ?_
  intro T X eT
  refine s_iloadN X hx (hb hby d4_18) rfl (q := 19) rfl ?_
  refine s_iadd X hx (hb hby d4_19) (q := 20) rfl ?_
  rw [o_add (by omega)]
  refine s_putF X hx hZ hown (hw _ (List.mem_of_getElem? (i := 24) rfl)) eT F_x0_pendingBits E_x0 (Or.inl (hw _ (List.mem_of_getElem? (i := 25) rfl))) (hw _ (List.mem_of_getElem? (i := 1) rfl)) (ty := .int) (by decide) rfl rfl N g_x0 (hb hby d4_20) (q := 23) rfl ?_
  intro T h2 _ X N eT W F_x0_pendingBits'
  have E_x0 := E_x0.wr W
  have F_x0_bytes := F_x0_bytes.other W (Or.inr (slot_ne (Or.inl (hw _ (List.mem_of_getElem? (i := 11) rfl))) (Or.inl (hw _ (List.mem_of_getElem? (i := 25) rfl))) (by decide) (t := (.array .byte)) (t' := .int) (by decide) (by decide)))
  have F_x0_next := F_x0_next.other W (Or.inr (slot_ne (Or.inl (hw _ (List.mem_of_getElem? (i := 21) rfl))) (Or.inl (hw _ (List.mem_of_getElem? (i := 25) rfl))) (by decide) (t := .int) (t' := .int) (by decide) (by decide)))
  have F_x0_pending := F_x0_pending.other W (Or.inr (slot_ne (Or.inl (hw _ (List.mem_of_getElem? (i := 23) rfl))) (Or.inl (hw _ (List.mem_of_getElem? (i := 25) rfl))) (by decide) (t := .long) (t' := .int) (by decide) (by decide)))
  have A_t := A_t.other W (Ne.symm ne_x0_t)
  have K := K.wr W (Or.inl (List.mem_of_getElem? (i := 0) rfl))
  have sz : n0 ≤ h2.size := by rw [W.size]; exact sz
  have F_x0_pendingBits := F_x0_pendingBits'
  have lp : ∀ (k j : Nat) (T : State) (hh : Heap) (locs : List Loc), j + k = (bt % 8 + cn) / 8 → Stand p l e ({ frames := 0, cells := 0, slots := 0, locals := 0 } : Room) s m #[(.ref x0), (.int (Int32.ofNat vn)), (.int (Int32.ofNat cn))] below meth c T locs 0 0 → T.heap = hh → Fr n0 locs → n0 ≤ hh.size → Keep h0 hh [x0, t] → Exa Z hh x0 "com/example/tallytree/tallytree/BitWriter" → Fld Z hh x0 "com/example/tallytree/tallytree/BitWriter" "bytes" "[B" (.ref t) → Fld Z hh x0 "com/example/tallytree/tallytree/BitWriter" "next" "I" (.int (Int32.ofNat (bt / 8 + j))) → Fld Z hh x0 "com/example/tallytree/tallytree/BitWriter" "pending" "J" (.long p1) → Fld Z hh x0 "com/example/tallytree/tallytree/BitWriter" "pendingBits" "I" (.int (Int32.ofNat (bt % 8 + cn - 8 * j))) → AI Z hh t .byte (ML ll (wf ff (bv <<< cn ||| vn) (bt + cn) (bt / 8) (bt / 8 + j))) → Go p e below (Gl s below (QW Z x0 t bv bt cn vn ll ff h0 n0) 0 0) T m 23 #[.val (.ref x0), .val (.int (Int32.ofNat vn)), .val (.int (Int32.ofNat cn))] [] := by
    intro k
    induction k with
    | zero =>
      intro j T hh locs hjk X eT N sz K E_x0 F_x0_bytes F_x0_next F_x0_pending F_x0_pendingBits A_t
      refine s_aloadN X hx (hb hby d4_23) rfl rfl (q := 24) rfl ?_
      refine s_getF X hx hZ hown (hw _ (List.mem_of_getElem? (i := 24) rfl)) eT F_x0_pendingBits (hb hby d4_24) (q := 27) rfl ?_
      intro T X eT
      refine s_bipush X hx (z := (8 : Int32)) (hb hby d4_27) rfl (q := 29) rfl ?_
      refine f_icmp_lt X hx (hb hby d4_29) (q1 := 73) (by decide) (by decide) (q := 32) rfl (fun _ => ?_) (fun hq => absurd ((o_lt (b := 8) (by omega) (by omega)).mpr (by omega) : (Int32.ofNat (bt % 8 + cn - 8 * j)) < (8 : Int32)) hq)
      rw [show bt / 8 + j = (bt + cn) / 8 from by omega] at F_x0_next A_t
      rw [show bt % 8 + cn - 8 * j = (bt + cn) % 8 from by omega] at F_x0_pendingBits
      exact leafV X hx hlk hret (hb hby d4_73) (by decide) (by decide) (by rw [eT]; exact ⟨rfl, N, K, F_x0_bytes, F_x0_next, ⟨p1, hp1, F_x0_pending⟩, F_x0_pendingBits, A_t⟩)
    | succ k ih =>
      intro j T hh locs hjk X eT N sz K E_x0 F_x0_bytes F_x0_next F_x0_pending F_x0_pendingBits A_t
      refine s_aloadN X hx (hb hby d4_23) rfl rfl (q := 24) rfl ?_
      refine s_getF X hx hZ hown (hw _ (List.mem_of_getElem? (i := 24) rfl)) eT F_x0_pendingBits (hb hby d4_24) (q := 27) rfl ?_
      intro T X eT
      refine s_bipush X hx (z := (8 : Int32)) (hb hby d4_27) rfl (q := 29) rfl ?_
      refine f_icmp_lt X hx (hb hby d4_29) (q1 := 73) (by decide) (by decide) (q := 32) rfl (fun hq => absurd hq (fun q => absurd ((o_lt (b := 8) (by omega) (by omega)).mp q) (by omega) : ¬ (Int32.ofNat (bt % 8 + cn - 8 * j)) < (8 : Int32))) (fun _ => ?_)
      refine s_aloadN X hx (hb hby d4_32) rfl rfl (q := 33) rfl ?_
      refine s_dup X hx (hb hby d4_33) rfl (q := 34) rfl ?_
      refine s_getF X hx hZ hown (hw _ (List.mem_of_getElem? (i := 24) rfl)) eT F_x0_pendingBits (hb hby d4_34) (q := 37) rfl ?_
      intro T X eT
      refine s_bipush X hx (z := (8 : Int32)) (hb hby d4_37) rfl (q := 39) rfl ?_
      refine s_isub X hx (hb hby d4_39) (q := 40) rfl ?_
      rw [own_s8 _ j (by omega) (by omega)]
      refine s_putF X hx hZ hown (hw _ (List.mem_of_getElem? (i := 24) rfl)) eT F_x0_pendingBits E_x0 (Or.inl (hw _ (List.mem_of_getElem? (i := 25) rfl))) (hw _ (List.mem_of_getElem? (i := 1) rfl)) (ty := .int) (by decide) rfl rfl N g_x0 (hb hby d4_40) (q := 43) rfl ?_
      intro T h3 _ X N eT W F_x0_pendingBits'
      have E_x0 := E_x0.wr W
      have F_x0_bytes := F_x0_bytes.other W (Or.inr (slot_ne (Or.inl (hw _ (List.mem_of_getElem? (i := 11) rfl))) (Or.inl (hw _ (List.mem_of_getElem? (i := 25) rfl))) (by decide) (t := (.array .byte)) (t' := .int) (by decide) (by decide)))
      have F_x0_next := F_x0_next.other W (Or.inr (slot_ne (Or.inl (hw _ (List.mem_of_getElem? (i := 21) rfl))) (Or.inl (hw _ (List.mem_of_getElem? (i := 25) rfl))) (by decide) (t := .int) (t' := .int) (by decide) (by decide)))
      have F_x0_pending := F_x0_pending.other W (Or.inr (slot_ne (Or.inl (hw _ (List.mem_of_getElem? (i := 23) rfl))) (Or.inl (hw _ (List.mem_of_getElem? (i := 25) rfl))) (by decide) (t := .long) (t' := .int) (by decide) (by decide)))
      have A_t := A_t.other W (Ne.symm ne_x0_t)
      have K := K.wr W (Or.inl (List.mem_of_getElem? (i := 0) rfl))
      have sz : n0 ≤ h3.size := by rw [W.size]; exact sz
      have F_x0_pendingBits := F_x0_pendingBits'
      refine s_aloadN X hx (hb hby d4_43) rfl rfl (q := 44) rfl ?_
      refine s_getF X hx hZ hown (hw _ (List.mem_of_getElem? (i := 10) rfl)) eT F_x0_bytes (hb hby d4_44) (q := 47) rfl ?_
      intro T X eT
      refine s_aloadN X hx (hb hby d4_47) rfl rfl (q := 48) rfl ?_
      refine s_dup X hx (hb hby d4_48) rfl (q := 49) rfl ?_
      refine s_getF X hx hZ hown (hw _ (List.mem_of_getElem? (i := 20) rfl)) eT F_x0_next (hb hby d4_49) (q := 52) rfl ?_
      intro T X eT
      refine s_dup_x1 X hx (hb hby d4_52) rfl rfl (q := 53) rfl ?_
      refine s_iconst X hx (z := (1 : Int32)) (hb hby d4_53) rfl (q := 54) rfl ?_
      refine s_iadd X hx (hb hby d4_54) (q := 55) rfl ?_
      rw [own_inc _ j (by omega)]
      refine s_putF X hx hZ hown (hw _ (List.mem_of_getElem? (i := 20) rfl)) eT F_x0_next E_x0 (Or.inl (hw _ (List.mem_of_getElem? (i := 21) rfl))) (hw _ (List.mem_of_getElem? (i := 1) rfl)) (ty := .int) (by decide) rfl rfl N g_x0 (hb hby d4_55) (q := 58) rfl ?_
      intro T h4 _ X N eT W F_x0_next'
      have E_x0 := E_x0.wr W
      have F_x0_bytes := F_x0_bytes.other W (Or.inr (slot_ne (Or.inl (hw _ (List.mem_of_getElem? (i := 11) rfl))) (Or.inl (hw _ (List.mem_of_getElem? (i := 21) rfl))) (by decide) (t := (.array .byte)) (t' := .int) (by decide) (by decide)))
      have F_x0_pending := F_x0_pending.other W (Or.inr (slot_ne (Or.inl (hw _ (List.mem_of_getElem? (i := 23) rfl))) (Or.inl (hw _ (List.mem_of_getElem? (i := 21) rfl))) (by decide) (t := .long) (t' := .int) (by decide) (by decide)))
      have F_x0_pendingBits := F_x0_pendingBits.other W (Or.inr (slot_ne (Or.inl (hw _ (List.mem_of_getElem? (i := 25) rfl))) (Or.inl (hw _ (List.mem_of_getElem? (i := 21) rfl))) (by decide) (t := .int) (t' := .int) (by decide) (by decide)))
      have A_t := A_t.other W (Ne.symm ne_x0_t)
      have K := K.wr W (Or.inl (List.mem_of_getElem? (i := 0) rfl))
      have sz : n0 ≤ h4.size := by rw [W.size]; exact sz
      have F_x0_next := F_x0_next'
      refine s_aloadN X hx (hb hby d4_58) rfl rfl (q := 59) rfl ?_
      refine s_getF X hx hZ hown (hw _ (List.mem_of_getElem? (i := 22) rfl)) eT F_x0_pending (hb hby d4_59) (q := 62) rfl ?_
      intro T X eT
      refine s_aloadN X hx (hb hby d4_62) rfl rfl (q := 63) rfl ?_
      refine s_getF X hx hZ hown (hw _ (List.mem_of_getElem? (i := 24) rfl)) eT F_x0_pendingBits (hb hby d4_63) (q := 66) rfl ?_
      intro T X eT
      refine s_lushr X hx (hb hby d4_66) (q := 67) rfl ?_
      refine s_l2i X hx (hb hby d4_67) (q := 68) rfl ?_
      refine s_i2b X hx (hb hby d4_68) (q := 69) rfl ?_
      refine s_bastore X hx hZ eT A_t N g_t (o_nn (by omega)) (i := bt / 8 + j) (o_nat (by omega)) (by rw [ML_len]; omega) (ys := ML ll (wf ff (bv <<< cn ||| vn) (bt + cn) (bt / 8) (bt / 8 + (j + 1)))) (own_wset ll ff _ bt cn j p1 hp1 hcn (by omega)) (hb hby d4_69) (q := 70) rfl ?_
      intro T h5 _ X N eT W A_t'
      have E_x0 := E_x0.wr W
      have F_x0_bytes := F_x0_bytes.other W (Or.inl ne_x0_t)
      have F_x0_next := F_x0_next.other W (Or.inl ne_x0_t)
      have F_x0_pending := F_x0_pending.other W (Or.inl ne_x0_t)
      have F_x0_pendingBits := F_x0_pendingBits.other W (Or.inl ne_x0_t)
      have K := K.wr W (Or.inl (List.mem_of_getElem? (i := 1) rfl))
      have sz : n0 ≤ h5.size := by rw [W.size]; exact sz
      have A_t := A_t'
      refine s_goto X hx (hb hby d4_70) (q1 := 23) (by decide) (by decide) ?_
      exact ih (j + 1) _ _ _ (by omega) X eT N sz K E_x0 F_x0_bytes F_x0_next F_x0_pending F_x0_pendingBits A_t
  rw [← own_w0 ll ff (bv <<< cn ||| vn) (bt + cn) (bt / 8)] at A_t
  exact lp _ 0 _ _ _ (Nat.zero_add _) X eT N sz K E_x0 F_x0_bytes F_x0_next F_x0_pending F_x0_pendingBits A_t
theorem d8_0 : decode prog_9_method_5_code 0 = .ok (.aload_n 0, 1) := by decide +kernel
theorem d8_1 : decode prog_9_method_5_code 1 = .ok (.getfield 29, 3) := by decide +kernel
theorem d8_4 : decode prog_9_method_5_code 4 = .ok (.bipush 8, 2) := by decide +kernel
theorem d8_6 : decode prog_9_method_5_code 6 = .ok (.if_icmp .lt 44, 3) := by decide +kernel
theorem d8_9 : decode prog_9_method_5_code 9 = .ok (.aload_n 0, 1) := by decide +kernel
theorem d8_10 : decode prog_9_method_5_code 10 = .ok (.dup, 1) := by decide +kernel
theorem d8_11 : decode prog_9_method_5_code 11 = .ok (.getfield 29, 3) := by decide +kernel
theorem d8_14 : decode prog_9_method_5_code 14 = .ok (.bipush 8, 2) := by decide +kernel
theorem d8_16 : decode prog_9_method_5_code 16 = .ok (.isub, 1) := by decide +kernel
theorem d8_17 : decode prog_9_method_5_code 17 = .ok (.putfield 29, 3) := by decide +kernel
theorem d8_20 : decode prog_9_method_5_code 20 = .ok (.aload_n 0, 1) := by decide +kernel
theorem d8_21 : decode prog_9_method_5_code 21 = .ok (.getfield 9, 3) := by decide +kernel
theorem d8_24 : decode prog_9_method_5_code 24 = .ok (.aload_n 0, 1) := by decide +kernel
theorem d8_25 : decode prog_9_method_5_code 25 = .ok (.dup, 1) := by decide +kernel
theorem d8_26 : decode prog_9_method_5_code 26 = .ok (.getfield 21, 3) := by decide +kernel
theorem d8_29 : decode prog_9_method_5_code 29 = .ok (.dup_x1, 1) := by decide +kernel
theorem d8_30 : decode prog_9_method_5_code 30 = .ok (.iconst 1, 1) := by decide +kernel
theorem d8_31 : decode prog_9_method_5_code 31 = .ok (.iadd, 1) := by decide +kernel
theorem d8_32 : decode prog_9_method_5_code 32 = .ok (.putfield 21, 3) := by decide +kernel
theorem d8_35 : decode prog_9_method_5_code 35 = .ok (.aload_n 0, 1) := by decide +kernel
theorem d8_36 : decode prog_9_method_5_code 36 = .ok (.getfield 25, 3) := by decide +kernel
theorem d8_39 : decode prog_9_method_5_code 39 = .ok (.aload_n 0, 1) := by decide +kernel
theorem d8_40 : decode prog_9_method_5_code 40 = .ok (.getfield 29, 3) := by decide +kernel
theorem d8_43 : decode prog_9_method_5_code 43 = .ok (.lushr, 1) := by decide +kernel
theorem d8_44 : decode prog_9_method_5_code 44 = .ok (.l2i, 1) := by decide +kernel
theorem d8_45 : decode prog_9_method_5_code 45 = .ok (.i2b, 1) := by decide +kernel
theorem d8_46 : decode prog_9_method_5_code 46 = .ok (.bastore, 1) := by decide +kernel
theorem d8_47 : decode prog_9_method_5_code 47 = .ok (.goto (-47), 3) := by decide +kernel
theorem d8_50 : decode prog_9_method_5_code 50 = .ok (.aload_n 0, 1) := by decide +kernel
theorem d8_51 : decode prog_9_method_5_code 51 = .ok (.getfield 29, 3) := by decide +kernel
theorem d8_54 : decode prog_9_method_5_code 54 = .ok (.ifCond .le 33, 3) := by decide +kernel
theorem d8_57 : decode prog_9_method_5_code 57 = .ok (.aload_n 0, 1) := by decide +kernel
theorem d8_58 : decode prog_9_method_5_code 58 = .ok (.getfield 9, 3) := by decide +kernel
theorem d8_61 : decode prog_9_method_5_code 61 = .ok (.aload_n 0, 1) := by decide +kernel
theorem d8_62 : decode prog_9_method_5_code 62 = .ok (.dup, 1) := by decide +kernel
theorem d8_63 : decode prog_9_method_5_code 63 = .ok (.getfield 21, 3) := by decide +kernel
theorem d8_66 : decode prog_9_method_5_code 66 = .ok (.dup_x1, 1) := by decide +kernel
theorem d8_67 : decode prog_9_method_5_code 67 = .ok (.iconst 1, 1) := by decide +kernel
theorem d8_68 : decode prog_9_method_5_code 68 = .ok (.iadd, 1) := by decide +kernel
theorem d8_69 : decode prog_9_method_5_code 69 = .ok (.putfield 21, 3) := by decide +kernel
theorem d8_72 : decode prog_9_method_5_code 72 = .ok (.aload_n 0, 1) := by decide +kernel
theorem d8_73 : decode prog_9_method_5_code 73 = .ok (.getfield 25, 3) := by decide +kernel
theorem d8_76 : decode prog_9_method_5_code 76 = .ok (.bipush 8, 2) := by decide +kernel
theorem d8_78 : decode prog_9_method_5_code 78 = .ok (.aload_n 0, 1) := by decide +kernel
theorem d8_79 : decode prog_9_method_5_code 79 = .ok (.getfield 29, 3) := by decide +kernel
theorem d8_82 : decode prog_9_method_5_code 82 = .ok (.isub, 1) := by decide +kernel
theorem d8_83 : decode prog_9_method_5_code 83 = .ok (.lshl, 1) := by decide +kernel
theorem d8_84 : decode prog_9_method_5_code 84 = .ok (.l2i, 1) := by decide +kernel
theorem d8_85 : decode prog_9_method_5_code 85 = .ok (.i2b, 1) := by decide +kernel
theorem d8_86 : decode prog_9_method_5_code 86 = .ok (.bastore, 1) := by decide +kernel
theorem d8_87 : decode prog_9_method_5_code 87 = .ok (.aload_n 0, 1) := by decide +kernel
theorem d8_88 : decode prog_9_method_5_code 88 = .ok (.lconst 0, 1) := by decide +kernel
theorem d8_89 : decode prog_9_method_5_code 89 = .ok (.putfield 25, 3) := by decide +kernel
theorem d8_92 : decode prog_9_method_5_code 92 = .ok (.aload_n 0, 1) := by decide +kernel
theorem d8_93 : decode prog_9_method_5_code 93 = .ok (.iconst 0, 1) := by decide +kernel
theorem d8_94 : decode prog_9_method_5_code 94 = .ok (.putfield 29, 3) := by decide +kernel
theorem d8_97 : decode prog_9_method_5_code 97 = .ok (.aload_n 0, 1) := by decide +kernel
theorem d8_98 : decode prog_9_method_5_code 98 = .ok (.getfield 21, 3) := by decide +kernel
theorem d8_101 : decode prog_9_method_5_code 101 = .ok (.ireturn, 1) := by decide +kernel
theorem pn_8 : plainFor (⟨"com/example/tallytree/tallytree/BitWriter", "finish", "()I"⟩ : MethodName) = true := plainFor_of_name (by first | (simp [plainName, overriddenIn]; done) | decide +kernel)
theorem ef_8 (m : MethodId) (x0 : Addr) : entryFrame m #[(.ref x0)] 1 = mkF m 0 #[.val (.ref x0)] [] := by first | (simp [entryFrame, mkF, argsToLocals, Value.category]; done) | rfl
set_option maxRecDepth 65536 in
set_option maxHeartbeats 40000000 in
theorem rm8_0 (l : Launch) (Z : State) (a0 : Array Value) (hw : ∀ d ∈ tables_1, d.before a0 Z = true) (ws : List Jvm.Cond) (x0 : Addr) (t : Addr) (nx : Int32) (pp : Int64) (h0 : Heap) (n0 : Nat) (sz : n0 ≤ h0.size) (F_x0_bytes : Fld Z h0 x0 "com/example/tallytree/tallytree/BitWriter" "bytes" "[B" (.ref t)) (F_x0_next : Fld Z h0 x0 "com/example/tallytree/tallytree/BitWriter" "next" "I" (.int nx)) (F_x0_pending : Fld Z h0 x0 "com/example/tallytree/tallytree/BitWriter" "pending" "J" (.long pp)) (F_x0_pendingBits : Fld Z h0 x0 "com/example/tallytree/tallytree/BitWriter" "pendingBits" "I" (.int (0 : Int32))) (E_x0 : Exa Z h0 x0 "com/example/tallytree/tallytree/BitWriter") (g_x0 : n0 ≤ x0) :
    Ctr l (⟨"com/example/tallytree/tallytree/BitWriter", "finish", "()I"⟩ : MethodName) prog_9_method_5_code 1 (some .int) ws ({ frames := 0, cells := 0, slots := 0, locals := 0 } : Room) Z #[(.ref x0)] h0 (fun v h L => v = some (.int nx) ∧ Fr n0 L ∧ Keep h0 h [x0] ∧ Fld Z h x0 "com/example/tallytree/tallytree/BitWriter" "bytes" "[B" (.ref t) ∧ Fld Z h x0 "com/example/tallytree/tallytree/BitWriter" "next" "I" (.int nx) ∧ Fld Z h x0 "com/example/tallytree/tallytree/BitWriter" "pending" "J" (.long (0 : Int64)) ∧ Fld Z h x0 "com/example/tallytree/tallytree/BitWriter" "pendingBits" "I" (.int (0 : Int32))) 0 0 := by
  refine Ctr.mk pn_8 ?_
  intro p e s m below meth c T hx hby hml hown hnm hlk hret hZ X eT
  have N := Fr.nil n0
  refine enter (ef_8 m x0) ?_
  have K := Keep.refl h0 [x0]
  refine s_aloadN X hx (hb hby d8_0) rfl rfl (q := 1) rfl ?_
  refine s_getF X hx hZ hown (hw _ (List.mem_of_getElem? (i := 24) rfl)) eT F_x0_pendingBits (hb hby d8_1) (q := 4) rfl ?_
  intro T X eT
  refine s_bipush X hx (z := (8 : Int32)) (hb hby d8_4) rfl (q := 6) rfl ?_
  refine f_icmp_lt X hx (hb hby d8_6) (q1 := 50) (by decide) (by decide) (q := 9) rfl (fun _ => ?_) (fun hq => absurd (by decide : (0 : Int32) < (8 : Int32)) hq)
  refine s_aloadN X hx (hb hby d8_50) rfl rfl (q := 51) rfl ?_
  refine s_getF X hx hZ hown (hw _ (List.mem_of_getElem? (i := 24) rfl)) eT F_x0_pendingBits (hb hby d8_51) (q := 54) rfl ?_
  intro T X eT
  refine f_if_le X hx (hb hby d8_54) (q1 := 87) (by decide) (by decide) (q := 57) rfl (fun _ => ?_) (fun hq => absurd hq (by decide : ¬ 0 < (0 : Int32)))
  refine s_aloadN X hx (hb hby d8_87) rfl rfl (q := 88) rfl ?_
  refine s_lconst X hx (z := (0 : Int64)) (hb hby d8_88) rfl (q := 89) rfl ?_
  refine s_putF X hx hZ hown (hw _ (List.mem_of_getElem? (i := 22) rfl)) eT F_x0_pending E_x0 (Or.inl (hw _ (List.mem_of_getElem? (i := 23) rfl))) (hw _ (List.mem_of_getElem? (i := 1) rfl)) (ty := .long) (by decide) rfl rfl N g_x0 (hb hby d8_89) (q := 92) rfl ?_
  intro T h1 _ X N eT W F_x0_pending'
  have E_x0 := E_x0.wr W
  have F_x0_bytes := F_x0_bytes.other W (Or.inr (slot_ne (Or.inl (hw _ (List.mem_of_getElem? (i := 11) rfl))) (Or.inl (hw _ (List.mem_of_getElem? (i := 23) rfl))) (by decide) (t := (.array .byte)) (t' := .long) (by decide) (by decide)))
  have F_x0_next := F_x0_next.other W (Or.inr (slot_ne (Or.inl (hw _ (List.mem_of_getElem? (i := 21) rfl))) (Or.inl (hw _ (List.mem_of_getElem? (i := 23) rfl))) (by decide) (t := .int) (t' := .long) (by decide) (by decide)))
  have F_x0_pendingBits := F_x0_pendingBits.other W (Or.inr (slot_ne (Or.inl (hw _ (List.mem_of_getElem? (i := 25) rfl))) (Or.inl (hw _ (List.mem_of_getElem? (i := 23) rfl))) (by decide) (t := .int) (t' := .long) (by decide) (by decide)))
  have K := K.wr W (Or.inl (List.mem_of_getElem? (i := 0) rfl))
  have sz : n0 ≤ h1.size := by rw [W.size]; exact sz
  have F_x0_pending := F_x0_pending'
  refine s_aloadN X hx (hb hby d8_92) rfl rfl (q := 93) rfl ?_
  refine s_iconst X hx (z := (0 : Int32)) (hb hby d8_93) rfl (q := 94) rfl ?_
  refine s_putF X hx hZ hown (hw _ (List.mem_of_getElem? (i := 24) rfl)) eT F_x0_pendingBits E_x0 (Or.inl (hw _ (List.mem_of_getElem? (i := 25) rfl))) (hw _ (List.mem_of_getElem? (i := 1) rfl)) (ty := .int) (by decide) rfl rfl N g_x0 (hb hby d8_94) (q := 97) rfl ?_
  intro T h2 _ X N eT W F_x0_pendingBits'
  have E_x0 := E_x0.wr W
  have F_x0_bytes := F_x0_bytes.other W (Or.inr (slot_ne (Or.inl (hw _ (List.mem_of_getElem? (i := 11) rfl))) (Or.inl (hw _ (List.mem_of_getElem? (i := 25) rfl))) (by decide) (t := (.array .byte)) (t' := .int) (by decide) (by decide)))
  have F_x0_next := F_x0_next.other W (Or.inr (slot_ne (Or.inl (hw _ (List.mem_of_getElem? (i := 21) rfl))) (Or.inl (hw _ (List.mem_of_getElem? (i := 25) rfl))) (by decide) (t := .int) (t' := .int) (by decide) (by decide)))
  have F_x0_pending := F_x0_pending.other W (Or.inr (slot_ne (Or.inl (hw _ (List.mem_of_getElem? (i := 23) rfl))) (Or.inl (hw _ (List.mem_of_getElem? (i := 25) rfl))) (by decide) (t := .long) (t' := .int) (by decide) (by decide)))
  have K := K.wr W (Or.inl (List.mem_of_getElem? (i := 0) rfl))
  have sz : n0 ≤ h2.size := by rw [W.size]; exact sz
  have F_x0_pendingBits := F_x0_pendingBits'
  refine s_aloadN X hx (hb hby d8_97) rfl rfl (q := 98) rfl ?_
  refine s_getF X hx hZ hown (hw _ (List.mem_of_getElem? (i := 20) rfl)) eT F_x0_next (hb hby d8_98) (q := 101) rfl ?_
  intro T X eT
  exact leafI X hx hlk hret (hb hby d8_101) (by decide) (by decide) (by rw [eT]; exact ⟨rfl, N, K, F_x0_bytes, F_x0_next, F_x0_pending, F_x0_pendingBits⟩)
set_option maxRecDepth 65536 in
set_option maxHeartbeats 40000000 in
theorem rm8_1 (l : Launch) (Z : State) (a0 : Array Value) (hw : ∀ d ∈ tables_1, d.before a0 Z = true) (ws : List Jvm.Cond) (x0 : Addr) (t : Addr) (bv nx pb ll : Nat) (ff : Nat → Int32) (pp : Int64) (h0 : Heap) (n0 : Nat) (sz : n0 ≤ h0.size) (F_x0_bytes : Fld Z h0 x0 "com/example/tallytree/tallytree/BitWriter" "bytes" "[B" (.ref t)) (F_x0_next : Fld Z h0 x0 "com/example/tallytree/tallytree/BitWriter" "next" "I" (.int (Int32.ofNat nx))) (F_x0_pending : Fld Z h0 x0 "com/example/tallytree/tallytree/BitWriter" "pending" "J" (.long pp)) (F_x0_pendingBits : Fld Z h0 x0 "com/example/tallytree/tallytree/BitWriter" "pendingBits" "I" (.int (Int32.ofNat pb))) (E_x0 : Exa Z h0 x0 "com/example/tallytree/tallytree/BitWriter") (g_x0 : n0 ≤ x0) (A_t : AI Z h0 t .byte (ML ll ff)) (g_t : n0 ≤ t) (ne_x0_t : x0 ≠ t) (hpp : pp.toBitVec = BitVec.ofNat 64 bv) (hp0 : 0 < pb) (hp8 : pb < 8) (hnl : nx < ll) (hl9 : ll < 1000) :
    Ctr l (⟨"com/example/tallytree/tallytree/BitWriter", "finish", "()I"⟩ : MethodName) prog_9_method_5_code 1 (some .int) ws ({ frames := 0, cells := 0, slots := 0, locals := 0 } : Room) Z #[(.ref x0)] h0 (fun v h L => v = some (.int (Int32.ofNat (nx + (0 + 1)))) ∧ Fr n0 L ∧ Keep h0 h [x0, t] ∧ Fld Z h x0 "com/example/tallytree/tallytree/BitWriter" "bytes" "[B" (.ref t) ∧ Fld Z h x0 "com/example/tallytree/tallytree/BitWriter" "next" "I" (.int (Int32.ofNat (nx + (0 + 1)))) ∧ Fld Z h x0 "com/example/tallytree/tallytree/BitWriter" "pending" "J" (.long (0 : Int64)) ∧ Fld Z h x0 "com/example/tallytree/tallytree/BitWriter" "pendingBits" "I" (.int (0 : Int32)) ∧ AI Z h t .byte (ML ll (fun i => if i = nx then bb (bv <<< (8 - pb)) else ff i))) 0 0 := by
  refine Ctr.mk pn_8 ?_
  intro p e s m below meth c T hx hby hml hown hnm hlk hret hZ X eT
  have N := Fr.nil n0
  refine enter (ef_8 m x0) ?_
  have K := Keep.refl h0 [x0, t]
  refine s_aloadN X hx (hb hby d8_0) rfl rfl (q := 1) rfl ?_
  refine s_getF X hx hZ hown (hw _ (List.mem_of_getElem? (i := 24) rfl)) eT F_x0_pendingBits (hb hby d8_1) (q := 4) rfl ?_
  intro T X eT
  refine s_bipush X hx (z := (8 : Int32)) (hb hby d8_4) rfl (q := 6) rfl ?_
  refine f_icmp_lt X hx (hb hby d8_6) (q1 := 50) (by decide) (by decide) (q := 9) rfl (fun _ => ?_) (fun hq => absurd ((o_lt (b := 8) (by omega) (by omega)).mpr hp8 : (Int32.ofNat pb) < (8 : Int32)) hq)
  refine s_aloadN X hx (hb hby d8_50) rfl rfl (q := 51) rfl ?_
  refine s_getF X hx hZ hown (hw _ (List.mem_of_getElem? (i := 24) rfl)) eT F_x0_pendingBits (hb hby d8_51) (q := 54) rfl ?_
  intro T X eT
  refine f_if_le X hx (hb hby d8_54) (q1 := 87) (by decide) (by decide) (q := 57) rfl (fun hq => absurd ((o_lt (a := 0) (by omega) (by omega)).mpr hp0 : 0 < (Int32.ofNat pb)) hq) (fun _ => ?_)
  refine s_aloadN X hx (hb hby d8_57) rfl rfl (q := 58) rfl ?_
  refine s_getF X hx hZ hown (hw _ (List.mem_of_getElem? (i := 10) rfl)) eT F_x0_bytes (hb hby d8_58) (q := 61) rfl ?_
  intro T X eT
  refine s_aloadN X hx (hb hby d8_61) rfl rfl (q := 62) rfl ?_
  refine s_dup X hx (hb hby d8_62) rfl (q := 63) rfl ?_
  refine s_getF X hx hZ hown (hw _ (List.mem_of_getElem? (i := 20) rfl)) eT F_x0_next (hb hby d8_63) (q := 66) rfl ?_
  intro T X eT
  refine s_dup_x1 X hx (hb hby d8_66) rfl rfl (q := 67) rfl ?_
  refine s_iconst X hx (z := (1 : Int32)) (hb hby d8_67) rfl (q := 68) rfl ?_
  refine s_iadd X hx (hb hby d8_68) (q := 69) rfl ?_
  rw [show Int32.ofNat nx + (1 : Int32) = Int32.ofNat (nx + (0 + 1)) from own_inc nx 0 (by omega)]
  refine s_putF X hx hZ hown (hw _ (List.mem_of_getElem? (i := 20) rfl)) eT F_x0_next E_x0 (Or.inl (hw _ (List.mem_of_getElem? (i := 21) rfl))) (hw _ (List.mem_of_getElem? (i := 1) rfl)) (ty := .int) (by decide) rfl rfl N g_x0 (hb hby d8_69) (q := 72) rfl ?_
  intro T h1 _ X N eT W F_x0_next'
  have E_x0 := E_x0.wr W
  have F_x0_bytes := F_x0_bytes.other W (Or.inr (slot_ne (Or.inl (hw _ (List.mem_of_getElem? (i := 11) rfl))) (Or.inl (hw _ (List.mem_of_getElem? (i := 21) rfl))) (by decide) (t := (.array .byte)) (t' := .int) (by decide) (by decide)))
  have F_x0_pending := F_x0_pending.other W (Or.inr (slot_ne (Or.inl (hw _ (List.mem_of_getElem? (i := 23) rfl))) (Or.inl (hw _ (List.mem_of_getElem? (i := 21) rfl))) (by decide) (t := .long) (t' := .int) (by decide) (by decide)))
  have F_x0_pendingBits := F_x0_pendingBits.other W (Or.inr (slot_ne (Or.inl (hw _ (List.mem_of_getElem? (i := 25) rfl))) (Or.inl (hw _ (List.mem_of_getElem? (i := 21) rfl))) (by decide) (t := .int) (t' := .int) (by decide) (by decide)))
  have A_t := A_t.other W (Ne.symm ne_x0_t)
  have K := K.wr W (Or.inl (List.mem_of_getElem? (i := 0) rfl))
  have sz : n0 ≤ h1.size := by rw [W.size]; exact sz
  have F_x0_next := F_x0_next'
  refine s_aloadN X hx (hb hby d8_72) rfl rfl (q := 73) rfl ?_
  refine s_getF X hx hZ hown (hw _ (List.mem_of_getElem? (i := 22) rfl)) eT F_x0_pending (hb hby d8_73) (q := 76) rfl ?_
  intro T X eT
  refine s_bipush X hx (z := (8 : Int32)) (hb hby d8_76) rfl (q := 78) rfl ?_
  refine s_aloadN X hx (hb hby d8_78) rfl rfl (q := 79) rfl ?_
  refine s_getF X hx hZ hown (hw _ (List.mem_of_getElem? (i := 24) rfl)) eT F_x0_pendingBits (hb hby d8_79) (q := 82) rfl ?_
  intro T X eT
  refine s_isub X hx (hb hby d8_82) (q := 83) rfl ?_
  refine s_lshl X hx (hb hby d8_83) (q := 84) rfl ?_
  refine s_l2i X hx (hb hby d8_84) (q := 85) rfl ?_
  refine s_i2b X hx (hb hby d8_85) (q := 86) rfl ?_
  refine s_bastore X hx hZ eT A_t N g_t (o_nn (by omega)) (i := nx) (o_nat (by omega)) (by rw [ML_len]; exact hnl) (ys := ML ll (fun i => if i = nx then bb (bv <<< (8 - pb)) else ff i)) (own_fset ll ff bv nx pb pp hpp hp0 hp8) (hb hby d8_86) (q := 87) rfl ?_
  intro T h2 _ X N eT W A_t'
  have E_x0 := E_x0.wr W
  have F_x0_bytes := F_x0_bytes.other W (Or.inl ne_x0_t)
  have F_x0_next := F_x0_next.other W (Or.inl ne_x0_t)
  have F_x0_pending := F_x0_pending.other W (Or.inl ne_x0_t)
  have F_x0_pendingBits := F_x0_pendingBits.other W (Or.inl ne_x0_t)
  have K := K.wr W (Or.inl (List.mem_of_getElem? (i := 1) rfl))
  have sz : n0 ≤ h2.size := by rw [W.size]; exact sz
  have A_t := A_t'
  refine s_aloadN X hx (hb hby d8_87) rfl rfl (q := 88) rfl ?_
  refine s_lconst X hx (z := (0 : Int64)) (hb hby d8_88) rfl (q := 89) rfl ?_
  refine s_putF X hx hZ hown (hw _ (List.mem_of_getElem? (i := 22) rfl)) eT F_x0_pending E_x0 (Or.inl (hw _ (List.mem_of_getElem? (i := 23) rfl))) (hw _ (List.mem_of_getElem? (i := 1) rfl)) (ty := .long) (by decide) rfl rfl N g_x0 (hb hby d8_89) (q := 92) rfl ?_
  intro T h3 _ X N eT W F_x0_pending'
  have E_x0 := E_x0.wr W
  have F_x0_bytes := F_x0_bytes.other W (Or.inr (slot_ne (Or.inl (hw _ (List.mem_of_getElem? (i := 11) rfl))) (Or.inl (hw _ (List.mem_of_getElem? (i := 23) rfl))) (by decide) (t := (.array .byte)) (t' := .long) (by decide) (by decide)))
  have F_x0_next := F_x0_next.other W (Or.inr (slot_ne (Or.inl (hw _ (List.mem_of_getElem? (i := 21) rfl))) (Or.inl (hw _ (List.mem_of_getElem? (i := 23) rfl))) (by decide) (t := .int) (t' := .long) (by decide) (by decide)))
  have F_x0_pendingBits := F_x0_pendingBits.other W (Or.inr (slot_ne (Or.inl (hw _ (List.mem_of_getElem? (i := 25) rfl))) (Or.inl (hw _ (List.mem_of_getElem? (i := 23) rfl))) (by decide) (t := .int) (t' := .long) (by decide) (by decide)))
  have A_t := A_t.other W (Ne.symm ne_x0_t)
  have K := K.wr W (Or.inl (List.mem_of_getElem? (i := 0) rfl))
  have sz : n0 ≤ h3.size := by rw [W.size]; exact sz
  have F_x0_pending := F_x0_pending'
  refine s_aloadN X hx (hb hby d8_92) rfl rfl (q := 93) rfl ?_
  refine s_iconst X hx (z := (0 : Int32)) (hb hby d8_93) rfl (q := 94) rfl ?_
  refine s_putF X hx hZ hown (hw _ (List.mem_of_getElem? (i := 24) rfl)) eT F_x0_pendingBits E_x0 (Or.inl (hw _ (List.mem_of_getElem? (i := 25) rfl))) (hw _ (List.mem_of_getElem? (i := 1) rfl)) (ty := .int) (by decide) rfl rfl N g_x0 (hb hby d8_94) (q := 97) rfl ?_
  intro T h4 _ X N eT W F_x0_pendingBits'
  have E_x0 := E_x0.wr W
  have F_x0_bytes := F_x0_bytes.other W (Or.inr (slot_ne (Or.inl (hw _ (List.mem_of_getElem? (i := 11) rfl))) (Or.inl (hw _ (List.mem_of_getElem? (i := 25) rfl))) (by decide) (t := (.array .byte)) (t' := .int) (by decide) (by decide)))
  have F_x0_next := F_x0_next.other W (Or.inr (slot_ne (Or.inl (hw _ (List.mem_of_getElem? (i := 21) rfl))) (Or.inl (hw _ (List.mem_of_getElem? (i := 25) rfl))) (by decide) (t := .int) (t' := .int) (by decide) (by decide)))
  have F_x0_pending := F_x0_pending.other W (Or.inr (slot_ne (Or.inl (hw _ (List.mem_of_getElem? (i := 23) rfl))) (Or.inl (hw _ (List.mem_of_getElem? (i := 25) rfl))) (by decide) (t := .long) (t' := .int) (by decide) (by decide)))
  have A_t := A_t.other W (Ne.symm ne_x0_t)
  have K := K.wr W (Or.inl (List.mem_of_getElem? (i := 0) rfl))
  have sz : n0 ≤ h4.size := by rw [W.size]; exact sz
  have F_x0_pendingBits := F_x0_pendingBits'
  refine s_aloadN X hx (hb hby d8_97) rfl rfl (q := 98) rfl ?_
  refine s_getF X hx hZ hown (hw _ (List.mem_of_getElem? (i := 20) rfl)) eT F_x0_next (hb hby d8_98) (q := 101) rfl ?_
  intro T X eT
  exact leafI X hx hlk hret (hb hby d8_101) (by decide) (by decide) (by rw [eT]; exact ⟨rfl, N, K, F_x0_bytes, F_x0_next, F_x0_pending, F_x0_pendingBits, A_t⟩)
theorem d5_0 : decode prog_9_method_6_code 0 = .ok (.aload_n 0, 1) := by decide +kernel
theorem d5_1 : decode prog_9_method_6_code 1 = .ok (.getfield 9, 3) := by decide +kernel
theorem d5_4 : decode prog_9_method_6_code 4 = .ok (.areturn, 1) := by decide +kernel
theorem pn_5 : plainFor (⟨"com/example/tallytree/tallytree/BitWriter", "bytes", "()[B"⟩ : MethodName) = true := plainFor_of_name (by first | (simp [plainName, overriddenIn]; done) | decide +kernel)
theorem ef_5 (m : MethodId) (x0 : Addr) : entryFrame m #[(.ref x0)] 1 = mkF m 0 #[.val (.ref x0)] [] := by first | (simp [entryFrame, mkF, argsToLocals, Value.category]; done) | rfl
set_option maxRecDepth 65536 in
set_option maxHeartbeats 40000000 in
theorem rm5 (l : Launch) (Z : State) (a0 : Array Value) (hw : ∀ d ∈ tables_1, d.before a0 Z = true) (ws : List Jvm.Cond) (x0 : Addr) (t : Addr) (h0 : Heap) (n0 : Nat) (sz : n0 ≤ h0.size) (F_x0_bytes : Fld Z h0 x0 "com/example/tallytree/tallytree/BitWriter" "bytes" "[B" (.ref t)) :
    Ctr l (⟨"com/example/tallytree/tallytree/BitWriter", "bytes", "()[B"⟩ : MethodName) prog_9_method_6_code 1 (some (.array .byte)) ws ({ frames := 0, cells := 0, slots := 0, locals := 0 } : Room) Z #[(.ref x0)] h0 (fun v h L => v = some (.ref t) ∧ h = h0 ∧ Fr n0 L) 0 0 := by
  refine Ctr.mk pn_5 ?_
  intro p e s m below meth c T hx hby hml hown hnm hlk hret hZ X eT
  have N := Fr.nil n0
  refine enter (ef_5 m x0) ?_
  refine s_aloadN X hx (hb hby d5_0) rfl rfl (q := 1) rfl ?_
  refine s_getF X hx hZ hown (hw _ (List.mem_of_getElem? (i := 10) rfl)) eT F_x0_bytes (hb hby d5_1) (q := 4) rfl ?_
  intro T X eT
  exact leafA X hx hlk hret rfl rfl (hb hby d5_4) (by decide) (by decide) ⟨rfl, eT, N⟩
theorem d9_0 : decode method_5_code 0 = .ok (.iload_n 1, 1) := by decide +kernel
theorem d9_1 : decode method_5_code 1 = .ok (.iload_n 2, 1) := by decide +kernel
theorem d9_2 : decode method_5_code 2 = .ok (.iadd, 1) := by decide +kernel
theorem d9_3 : decode method_5_code 3 = .ok (.bipush 8, 2) := by decide +kernel
theorem d9_5 : decode method_5_code 5 = .ok (.isub, 1) := by decide +kernel
theorem d9_6 : decode method_5_code 6 = .ok (.bipush 8, 2) := by decide +kernel
theorem d9_8 : decode method_5_code 8 = .ok (.iload_n 3, 1) := by decide +kernel
theorem d9_9 : decode method_5_code 9 = .ok (.imul, 1) := by decide +kernel
theorem d9_10 : decode method_5_code 10 = .ok (.isub, 1) := by decide +kernel
theorem d9_11 : decode method_5_code 11 = .ok (.istore 4, 2) := by decide +kernel
theorem d9_13 : decode method_5_code 13 = .ok (.iload 4, 2) := by decide +kernel
theorem d9_15 : decode method_5_code 15 = .ok (.bipush 32, 2) := by decide +kernel
theorem d9_17 : decode method_5_code 17 = .ok (.if_icmp .lt 5, 3) := by decide +kernel
theorem d9_20 : decode method_5_code 20 = .ok (.iconst 0, 1) := by decide +kernel
theorem d9_21 : decode method_5_code 21 = .ok (.ireturn, 1) := by decide +kernel
theorem d9_22 : decode method_5_code 22 = .ok (.iload 4, 2) := by decide +kernel
theorem d9_24 : decode method_5_code 24 = .ok (.bipush (-8), 2) := by decide +kernel
theorem d9_26 : decode method_5_code 26 = .ok (.if_icmp .gt 5, 3) := by decide +kernel
theorem d9_29 : decode method_5_code 29 = .ok (.iconst 0, 1) := by decide +kernel
theorem d9_30 : decode method_5_code 30 = .ok (.ireturn, 1) := by decide +kernel
theorem d9_31 : decode method_5_code 31 = .ok (.iload 4, 2) := by decide +kernel
theorem d9_33 : decode method_5_code 33 = .ok (.ifCond .lt 12, 3) := by decide +kernel
theorem d9_36 : decode method_5_code 36 = .ok (.iload_n 0, 1) := by decide +kernel
theorem d9_37 : decode method_5_code 37 = .ok (.iload 4, 2) := by decide +kernel
theorem d9_39 : decode method_5_code 39 = .ok (.iushr, 1) := by decide +kernel
theorem d9_40 : decode method_5_code 40 = .ok (.sipush 255, 3) := by decide +kernel
theorem d9_43 : decode method_5_code 43 = .ok (.iand, 1) := by decide +kernel
theorem d9_44 : decode method_5_code 44 = .ok (.ireturn, 1) := by decide +kernel
theorem d9_45 : decode method_5_code 45 = .ok (.iload_n 0, 1) := by decide +kernel
theorem d9_46 : decode method_5_code 46 = .ok (.iload 4, 2) := by decide +kernel
theorem d9_48 : decode method_5_code 48 = .ok (.ineg, 1) := by decide +kernel
theorem d9_49 : decode method_5_code 49 = .ok (.ishl, 1) := by decide +kernel
theorem d9_50 : decode method_5_code 50 = .ok (.sipush 255, 3) := by decide +kernel
theorem d9_53 : decode method_5_code 53 = .ok (.iand, 1) := by decide +kernel
theorem d9_54 : decode method_5_code 54 = .ok (.ireturn, 1) := by decide +kernel
theorem pn_9 : plainFor (⟨"com/example/tallytree/tallytree/BitWriterWritePinLaw", "part", "(IIII)I"⟩ : MethodName) = true := plainFor_of_name (by first | (simp [plainName, overriddenIn]; done) | decide +kernel)
theorem ef_9 (m : MethodId) (x0 : Int32) (x1 : Int32) (x2 : Int32) (x3 : Int32) : entryFrame m #[(.int x0), (.int x1), (.int x2), (.int x3)] 5 = mkF m 0 #[.val (.int x0), .val (.int x1), .val (.int x2), .val (.int x3), .unset] [] := by first | (simp [entryFrame, mkF, argsToLocals, Value.category]; done) | rfl
def F9 (x0 : Int32) (x1 : Int32) (x2 : Int32) (x3 : Int32) : Int32 := (if (((x1 + x2) - (8 : Int32)) - ((8 : Int32) * x3)) < (32 : Int32) then (if (-8 : Int32) < (((x1 + x2) - (8 : Int32)) - ((8 : Int32) * x3)) then (if (((x1 + x2) - (8 : Int32)) - ((8 : Int32) * x3)) < 0 then ((x0 <<< ((-(((x1 + x2) - (8 : Int32)) - ((8 : Int32) * x3))) &&& 31)) &&& (255 : Int32)) else (((x0.toUInt32 >>> ((((x1 + x2) - (8 : Int32)) - ((8 : Int32) * x3)) &&& 31).toUInt32).toInt32) &&& (255 : Int32))) else (0 : Int32)) else (0 : Int32))
set_option maxRecDepth 65536 in
set_option maxHeartbeats 40000000 in
theorem rm9 (l : Launch) (Z : State) (a0 : Array Value) (hw : ∀ d ∈ tables_1, d.before a0 Z = true) (ws : List Jvm.Cond) (x0 : Int32) (x1 : Int32) (x2 : Int32) (x3 : Int32)  (h0 : Heap) :
    Ctr l (⟨"com/example/tallytree/tallytree/BitWriterWritePinLaw", "part", "(IIII)I"⟩ : MethodName) method_5_code 5 (some .int) ws ({ frames := 0, cells := 0, slots := 0, locals := 0 } : Room) Z #[(.int x0), (.int x1), (.int x2), (.int x3)] h0 (PQ (.int (F9 x0 x1 x2 x3)) h0) 0 0 := by
  refine Ctr.mk pn_9 ?_
  intro p e s m below meth c T hx hby hml hown hnm hlk hret hZ X eT
  refine enter (ef_9 m x0 x1 x2 x3) ?_
  obtain ⟨res, hres⟩ : ∃ r, r = F9 x0 x1 x2 x3 := ⟨_, rfl⟩
  rw [← hres]
  refine s_iloadN X hx (hb hby d9_0) rfl (q := 1) rfl ?_
  refine s_iloadN X hx (hb hby d9_1) rfl (q := 2) rfl ?_
  refine s_iadd X hx (hb hby d9_2) (q := 3) rfl ?_
  refine s_bipush X hx (z := (8 : Int32)) (hb hby d9_3) rfl (q := 5) rfl ?_
  refine s_isub X hx (hb hby d9_5) (q := 6) rfl ?_
  refine s_bipush X hx (z := (8 : Int32)) (hb hby d9_6) rfl (q := 8) rfl ?_
  refine s_iloadN X hx (hb hby d9_8) rfl (q := 9) rfl ?_
  refine s_imul X hx (hb hby d9_9) (q := 10) rfl ?_
  refine s_isub X hx (hb hby d9_10) (q := 11) rfl ?_
  refine s_istore X hx (hb hby d9_11) (L' := #[.val (.int x0), .val (.int x1), .val (.int x2), .val (.int x3), .val (.int (((x1 + x2) - (8 : Int32)) - ((8 : Int32) * x3)))]) rfl (q := 13) rfl ?_
  refine s_iload X hx (hb hby d9_13) rfl (q := 15) rfl ?_
  refine s_bipush X hx (z := (32 : Int32)) (hb hby d9_15) rfl (q := 17) rfl ?_
  refine f_icmp_lt X hx (hb hby d9_17) (q1 := 22) (by decide) (by decide) (q := 20) rfl (fun hc17 => ?_) (fun hc17 => ?_)
  · refine s_iload X hx (hb hby d9_22) rfl (q := 24) rfl ?_
    refine s_bipush X hx (z := (-8 : Int32)) (hb hby d9_24) rfl (q := 26) rfl ?_
    refine f_icmp_gt X hx (hb hby d9_26) (q1 := 31) (by decide) (by decide) (q := 29) rfl (fun hc26 => ?_) (fun hc26 => ?_)
    · refine s_iload X hx (hb hby d9_31) rfl (q := 33) rfl ?_
      refine f_if_lt X hx (hb hby d9_33) (q1 := 45) (by decide) (by decide) (q := 36) rfl (fun hc33 => ?_) (fun hc33 => ?_)
      · refine s_iloadN X hx (hb hby d9_45) rfl (q := 46) rfl ?_
        refine s_iload X hx (hb hby d9_46) rfl (q := 48) rfl ?_
        refine s_ineg X hx (hb hby d9_48) (q := 49) rfl ?_
        refine s_ishl X hx (hb hby d9_49) (q := 50) rfl ?_
        refine s_sipush X hx (z := (255 : Int32)) (hb hby d9_50) rfl (q := 53) rfl ?_
        refine s_iand X hx (hb hby d9_53) (q := 54) rfl ?_
        exact leafI X hx hlk hret (hb hby d9_54) (Nat.le_refl _) (Nat.le_refl _) ⟨congrArg (fun z => some (Value.int z)) (hres.trans (by unfold F9; rw [if_pos hc17, if_pos hc26, if_pos hc33])).symm, eT, rfl⟩
      refine s_iloadN X hx (hb hby d9_36) rfl (q := 37) rfl ?_
      refine s_iload X hx (hb hby d9_37) rfl (q := 39) rfl ?_
      refine s_iushr X hx (hb hby d9_39) (q := 40) rfl ?_
      refine s_sipush X hx (z := (255 : Int32)) (hb hby d9_40) rfl (q := 43) rfl ?_
      refine s_iand X hx (hb hby d9_43) (q := 44) rfl ?_
      exact leafI X hx hlk hret (hb hby d9_44) (Nat.le_refl _) (Nat.le_refl _) ⟨congrArg (fun z => some (Value.int z)) (hres.trans (by unfold F9; rw [if_pos hc17, if_pos hc26, if_neg hc33])).symm, eT, rfl⟩
    refine s_iconst X hx (z := (0 : Int32)) (hb hby d9_29) rfl (q := 30) rfl ?_
    exact leafI X hx hlk hret (hb hby d9_30) (Nat.le_refl _) (Nat.le_refl _) ⟨congrArg (fun z => some (Value.int z)) (hres.trans (by unfold F9; rw [if_pos hc17, if_neg hc26])).symm, eT, rfl⟩
  refine s_iconst X hx (z := (0 : Int32)) (hb hby d9_20) rfl (q := 21) rfl ?_
  exact leafI X hx hlk hret (hb hby d9_21) (Nat.le_refl _) (Nat.le_refl _) ⟨congrArg (fun z => some (Value.int z)) (hres.trans (by unfold F9; rw [if_neg hc17])).symm, eT, rfl⟩
theorem d7_0 : decode method_4_code 0 = .ok (.iconst 0, 1) := by decide +kernel
theorem d7_1 : decode method_4_code 1 = .ok (.istore 9, 2) := by decide +kernel
theorem d7_3 : decode method_4_code 3 = .ok (.iload_n 1, 1) := by decide +kernel
theorem d7_4 : decode method_4_code 4 = .ok (.iload_n 2, 1) := by decide +kernel
theorem d7_5 : decode method_4_code 5 = .ok (.if_icmp .ge 38, 3) := by decide +kernel
theorem d7_8 : decode method_4_code 8 = .ok (.iload_n 3, 1) := by decide +kernel
theorem d7_9 : decode method_4_code 9 = .ok (.iconst 0, 1) := by decide +kernel
theorem d7_10 : decode method_4_code 10 = .ok (.iload 4, 2) := by decide +kernel
theorem d7_12 : decode method_4_code 12 = .ok (.iload_n 1, 1) := by decide +kernel
theorem d7_13 : decode method_4_code 13 = .ok (.invokestatic 36, 3) := by decide +kernel
theorem d7_16 : decode method_4_code 16 = .ok (.iload 5, 2) := by decide +kernel
theorem d7_18 : decode method_4_code 18 = .ok (.iload 4, 2) := by decide +kernel
theorem d7_20 : decode method_4_code 20 = .ok (.iload 6, 2) := by decide +kernel
theorem d7_22 : decode method_4_code 22 = .ok (.iload_n 1, 1) := by decide +kernel
theorem d7_23 : decode method_4_code 23 = .ok (.invokestatic 36, 3) := by decide +kernel
theorem d7_26 : decode method_4_code 26 = .ok (.ior, 1) := by decide +kernel
theorem d7_27 : decode method_4_code 27 = .ok (.iload 7, 2) := by decide +kernel
theorem d7_29 : decode method_4_code 29 = .ok (.iload 4, 2) := by decide +kernel
theorem d7_31 : decode method_4_code 31 = .ok (.iload 6, 2) := by decide +kernel
theorem d7_33 : decode method_4_code 33 = .ok (.iadd, 1) := by decide +kernel
theorem d7_34 : decode method_4_code 34 = .ok (.iload 8, 2) := by decide +kernel
theorem d7_36 : decode method_4_code 36 = .ok (.iload_n 1, 1) := by decide +kernel
theorem d7_37 : decode method_4_code 37 = .ok (.invokestatic 36, 3) := by decide +kernel
theorem d7_40 : decode method_4_code 40 = .ok (.ior, 1) := by decide +kernel
theorem d7_41 : decode method_4_code 41 = .ok (.istore 9, 2) := by decide +kernel
theorem d7_43 : decode method_4_code 43 = .ok (.aload_n 0, 1) := by decide +kernel
theorem d7_44 : decode method_4_code 44 = .ok (.iload_n 1, 1) := by decide +kernel
theorem d7_45 : decode method_4_code 45 = .ok (.baload, 1) := by decide +kernel
theorem d7_46 : decode method_4_code 46 = .ok (.sipush 255, 3) := by decide +kernel
theorem d7_49 : decode method_4_code 49 = .ok (.iand, 1) := by decide +kernel
theorem d7_50 : decode method_4_code 50 = .ok (.iload 9, 2) := by decide +kernel
theorem d7_52 : decode method_4_code 52 = .ok (.if_icmp .ne 7, 3) := by decide +kernel
theorem d7_55 : decode method_4_code 55 = .ok (.iconst 1, 1) := by decide +kernel
theorem d7_56 : decode method_4_code 56 = .ok (.goto 4, 3) := by decide +kernel
theorem d7_59 : decode method_4_code 59 = .ok (.iconst 0, 1) := by decide +kernel
theorem d7_60 : decode method_4_code 60 = .ok (.ireturn, 1) := by decide +kernel
theorem pn_7 : plainFor (⟨"com/example/tallytree/tallytree/BitWriterWritePinLaw", "one", "([BIIIIIIII)Z"⟩ : MethodName) = true := plainFor_of_name (by first | (simp [plainName, overriddenIn]; done) | decide +kernel)
theorem ef_7 (m : MethodId) (x0 : Addr) (x1 : Int32) (x2 : Int32) (x3 : Int32) (x4 : Int32) (x5 : Int32) (x6 : Int32) (x7 : Int32) (x8 : Int32) : entryFrame m #[(.ref x0), (.int x1), (.int x2), (.int x3), (.int x4), (.int x5), (.int x6), (.int x7), (.int x8)] 10 = mkF m 0 #[.val (.ref x0), .val (.int x1), .val (.int x2), .val (.int x3), .val (.int x4), .val (.int x5), .val (.int x6), .val (.int x7), .val (.int x8), .unset] [] := by first | (simp [entryFrame, mkF, argsToLocals, Value.category]; done) | rfl
theorem pd0 : parseMethodDescriptor "(IIII)I" = some ⟨[.int, .int, .int, .int], some .int⟩ := by decide +kernel
def F7 (x1 : Int32) (x2 : Int32) (x3 : Int32) (x4 : Int32) (x5 : Int32) (x6 : Int32) (x7 : Int32) (x8 : Int32) (y : Int32) : Int32 := (if x1 < x2 then (if (y &&& (255 : Int32)) = (((F9 x3 (0 : Int32) x4 x1) ||| (F9 x5 x4 x6 x1)) ||| (F9 x7 (x4 + x6) x8 x1)) then (1 : Int32) else (0 : Int32)) else (if (y &&& (255 : Int32)) = (0 : Int32) then (1 : Int32) else (0 : Int32)))
set_option maxRecDepth 65536 in
set_option maxHeartbeats 40000000 in
theorem rm7 (l : Launch) (Z : State) (a0 : Array Value) (hw : ∀ d ∈ tables_1, d.before a0 Z = true) (ws : List Jvm.Cond) (x0 : Addr) (x1 : Int32) (x2 : Int32) (x3 : Int32) (x4 : Int32) (x5 : Int32) (x6 : Int32) (x7 : Int32) (x8 : Int32) (xs : List Int32) (y : Int32) (h0 : Heap) (A_x0 : AI Z h0 x0 .byte xs) (hk0 : ¬ x1 < 0) (hy : xs[x1.toNatClampNeg]? = some y) :
    Ctr l (⟨"com/example/tallytree/tallytree/BitWriterWritePinLaw", "one", "([BIIIIIIII)Z"⟩ : MethodName) method_4_code 10 (some .boolean) ws ({ frames := 1, cells := 0, slots := 0, locals := 17 } : Room) Z #[(.ref x0), (.int x1), (.int x2), (.int x3), (.int x4), (.int x5), (.int x6), (.int x7), (.int x8)] h0 (PQ (.int (F7 x1 x2 x3 x4 x5 x6 x7 x8 y)) h0) 0 0 := by
  refine Ctr.mk pn_7 ?_
  intro p e s m below meth c T hx hby hml hown hnm hlk hret hZ X eT
  refine enter (ef_7 m x0 x1 x2 x3 x4 x5 x6 x7 x8) ?_
  obtain ⟨res, hres⟩ : ∃ r, r = F7 x1 x2 x3 x4 x5 x6 x7 x8 y := ⟨_, rfl⟩
  rw [← hres]
  refine s_iconst X hx (z := (0 : Int32)) (hb hby d7_0) rfl (q := 1) rfl ?_
  refine s_istore X hx (hb hby d7_1) (L' := #[.val (.ref x0), .val (.int x1), .val (.int x2), .val (.int x3), .val (.int x4), .val (.int x5), .val (.int x6), .val (.int x7), .val (.int x8), .val (.int (0 : Int32))]) rfl (q := 3) rfl ?_
  refine s_iloadN X hx (hb hby d7_3) rfl (q := 4) rfl ?_
  refine s_iloadN X hx (hb hby d7_4) rfl (q := 5) rfl ?_
  refine f_icmp_ge X hx (hb hby d7_5) (q1 := 43) (by decide) (by decide) (q := 8) rfl (fun hc5 => ?_) (fun hc5 => ?_)
  · refine s_aloadN X hx (hb hby d7_43) rfl rfl (q := 44) rfl ?_
    refine s_iloadN X hx (hb hby d7_44) rfl (q := 45) rfl ?_
    refine s_baload X hx hZ eT A_x0 hk0 (i := x1.toNatClampNeg) rfl (x := y) hy (hb hby d7_45) (q := 46) rfl ?_
    refine s_sipush X hx (z := (255 : Int32)) (hb hby d7_46) rfl (q := 49) rfl ?_
    refine s_iand X hx (hb hby d7_49) (q := 50) rfl ?_
    refine s_iload X hx (hb hby d7_50) rfl (q := 52) rfl ?_
    refine f_icmp_ne X hx (hb hby d7_52) (q1 := 59) (by decide) (by decide) (q := 55) rfl (fun hc52 => ?_) (fun hc52 => ?_)
    · refine s_iconst X hx (z := (0 : Int32)) (hb hby d7_59) rfl (q := 60) rfl ?_
      exact leafN X hx hlk hret (by simp) (hb hby d7_60) (Nat.le_refl _) (Nat.le_refl _) (z' := (0 : Int32)) rfl ⟨congrArg (fun z => some (Value.int z)) (hres.trans (by unfold F7; rw [if_neg hc5, if_neg hc52])).symm, eT, rfl⟩
    refine s_iconst X hx (z := (1 : Int32)) (hb hby d7_55) rfl (q := 56) rfl ?_
    refine s_goto X hx (hb hby d7_56) (q1 := 60) (by decide) (by decide) ?_
    exact leafN X hx hlk hret (by simp) (hb hby d7_60) (Nat.le_refl _) (Nat.le_refl _) (z' := (1 : Int32)) rfl ⟨congrArg (fun z => some (Value.int z)) (hres.trans (by unfold F7; rw [if_neg hc5, if_pos hc52])).symm, eT, rfl⟩
  refine s_iloadN X hx (hb hby d7_8) rfl (q := 9) rfl ?_
  refine s_iconst X hx (z := (0 : Int32)) (hb hby d7_9) rfl (q := 10) rfl ?_
  refine s_iload X hx (hb hby d7_10) rfl (q := 12) rfl ?_
  refine s_iloadN X hx (hb hby d7_12) rfl (q := 13) rfl ?_
  refine callP X hx hZ hown (W := 0) (argsL := [(.int x3), (.int (0 : Int32)), (.int x4), (.int x1)]) (rest := []) (hw _ (List.mem_of_getElem? (i := 48) rfl)) (hw _ (List.mem_of_getElem? (i := 49) rfl)) (hw _ (List.mem_of_getElem? (i := 38) rfl)) (hw _ (List.mem_of_getElem? (i := 50) rfl)) (by decide) (rm9 l Z a0 hw [] x3 (0 : Int32) x4 x1 h0) rfl rfl eT (by decide) (by decide) (by decide) (by decide) (by rw [hml]; rfl) pd0 rfl rfl (Nat.le_of_ble_eq_true rfl) (hb hby d7_13) (q := 16) rfl ?_
  intro T X eT
  refine s_iload X hx (hb hby d7_16) rfl (q := 18) rfl ?_
  refine s_iload X hx (hb hby d7_18) rfl (q := 20) rfl ?_
  refine s_iload X hx (hb hby d7_20) rfl (q := 22) rfl ?_
  refine s_iloadN X hx (hb hby d7_22) rfl (q := 23) rfl ?_
  refine callP X hx hZ hown (W := 1) (argsL := [(.int x5), (.int x4), (.int x6), (.int x1)]) (rest := [(.int (F9 x3 (0 : Int32) x4 x1))]) (hw _ (List.mem_of_getElem? (i := 48) rfl)) (hw _ (List.mem_of_getElem? (i := 49) rfl)) (hw _ (List.mem_of_getElem? (i := 38) rfl)) (hw _ (List.mem_of_getElem? (i := 50) rfl)) (by decide) (rm9 l Z a0 hw [] x5 x4 x6 x1 h0) rfl rfl eT (by decide) (by decide) (by decide) (by decide) (by rw [hml]; rfl) pd0 rfl rfl (Nat.le_of_ble_eq_true rfl) (hb hby d7_23) (q := 26) rfl ?_
  intro T X eT
  refine s_ior X hx (hb hby d7_26) (q := 27) rfl ?_
  refine s_iload X hx (hb hby d7_27) rfl (q := 29) rfl ?_
  refine s_iload X hx (hb hby d7_29) rfl (q := 31) rfl ?_
  refine s_iload X hx (hb hby d7_31) rfl (q := 33) rfl ?_
  refine s_iadd X hx (hb hby d7_33) (q := 34) rfl ?_
  refine s_iload X hx (hb hby d7_34) rfl (q := 36) rfl ?_
  refine s_iloadN X hx (hb hby d7_36) rfl (q := 37) rfl ?_
  refine callP X hx hZ hown (W := 1) (argsL := [(.int x7), (.int (x4 + x6)), (.int x8), (.int x1)]) (rest := [(.int ((F9 x3 (0 : Int32) x4 x1) ||| (F9 x5 x4 x6 x1)))]) (hw _ (List.mem_of_getElem? (i := 48) rfl)) (hw _ (List.mem_of_getElem? (i := 49) rfl)) (hw _ (List.mem_of_getElem? (i := 38) rfl)) (hw _ (List.mem_of_getElem? (i := 50) rfl)) (by decide) (rm9 l Z a0 hw [] x7 (x4 + x6) x8 x1 h0) rfl rfl eT (by decide) (by decide) (by decide) (by decide) (by rw [hml]; rfl) pd0 rfl rfl (Nat.le_of_ble_eq_true rfl) (hb hby d7_37) (q := 40) rfl ?_
  intro T X eT
  refine s_ior X hx (hb hby d7_40) (q := 41) rfl ?_
  refine s_istore X hx (hb hby d7_41) (L' := #[.val (.ref x0), .val (.int x1), .val (.int x2), .val (.int x3), .val (.int x4), .val (.int x5), .val (.int x6), .val (.int x7), .val (.int x8), .val (.int (((F9 x3 (0 : Int32) x4 x1) ||| (F9 x5 x4 x6 x1)) ||| (F9 x7 (x4 + x6) x8 x1)))]) rfl (q := 43) rfl ?_
  refine s_aloadN X hx (hb hby d7_43) rfl rfl (q := 44) rfl ?_
  refine s_iloadN X hx (hb hby d7_44) rfl (q := 45) rfl ?_
  refine s_baload X hx hZ eT A_x0 hk0 (i := x1.toNatClampNeg) rfl (x := y) hy (hb hby d7_45) (q := 46) rfl ?_
  refine s_sipush X hx (z := (255 : Int32)) (hb hby d7_46) rfl (q := 49) rfl ?_
  refine s_iand X hx (hb hby d7_49) (q := 50) rfl ?_
  refine s_iload X hx (hb hby d7_50) rfl (q := 52) rfl ?_
  refine f_icmp_ne X hx (hb hby d7_52) (q1 := 59) (by decide) (by decide) (q := 55) rfl (fun hc52 => ?_) (fun hc52 => ?_)
  · refine s_iconst X hx (z := (0 : Int32)) (hb hby d7_59) rfl (q := 60) rfl ?_
    exact leafN X hx hlk hret (by simp) (hb hby d7_60) (Nat.le_refl _) (Nat.le_refl _) (z' := (0 : Int32)) rfl ⟨congrArg (fun z => some (Value.int z)) (hres.trans (by unfold F7; rw [if_pos hc5, if_neg hc52])).symm, eT, rfl⟩
  refine s_iconst X hx (z := (1 : Int32)) (hb hby d7_55) rfl (q := 56) rfl ?_
  refine s_goto X hx (hb hby d7_56) (q1 := 60) (by decide) (by decide) ?_
  exact leafN X hx hlk hret (by simp) (hb hby d7_60) (Nat.le_refl _) (Nat.le_refl _) (z' := (1 : Int32)) rfl ⟨congrArg (fun z => some (Value.int z)) (hres.trans (by unfold F7; rw [if_pos hc5, if_pos hc52])).symm, eT, rfl⟩
theorem d6_0 : decode method_3_code 0 = .ok (.aload_n 0, 1) := by decide +kernel
theorem d6_1 : decode method_3_code 1 = .ok (.arraylength, 1) := by decide +kernel
theorem d6_2 : decode method_3_code 2 = .ok (.bipush 9, 2) := by decide +kernel
theorem d6_4 : decode method_3_code 4 = .ok (.if_icmp .ge 5, 3) := by decide +kernel
theorem d6_7 : decode method_3_code 7 = .ok (.iconst 0, 1) := by decide +kernel
theorem d6_8 : decode method_3_code 8 = .ok (.ireturn, 1) := by decide +kernel
theorem d6_9 : decode method_3_code 9 = .ok (.aload_n 0, 1) := by decide +kernel
theorem d6_10 : decode method_3_code 10 = .ok (.iconst 0, 1) := by decide +kernel
theorem d6_11 : decode method_3_code 11 = .ok (.iload_n 1, 1) := by decide +kernel
theorem d6_12 : decode method_3_code 12 = .ok (.iload_n 2, 1) := by decide +kernel
theorem d6_13 : decode method_3_code 13 = .ok (.iload_n 3, 1) := by decide +kernel
theorem d6_14 : decode method_3_code 14 = .ok (.iload 4, 2) := by decide +kernel
theorem d6_16 : decode method_3_code 16 = .ok (.iload 5, 2) := by decide +kernel
theorem d6_18 : decode method_3_code 18 = .ok (.iload 6, 2) := by decide +kernel
theorem d6_20 : decode method_3_code 20 = .ok (.iload 7, 2) := by decide +kernel
theorem d6_22 : decode method_3_code 22 = .ok (.invokestatic 32, 3) := by decide +kernel
theorem d6_25 : decode method_3_code 25 = .ok (.ifCond .eq 162, 3) := by decide +kernel
theorem d6_28 : decode method_3_code 28 = .ok (.aload_n 0, 1) := by decide +kernel
theorem d6_29 : decode method_3_code 29 = .ok (.iconst 1, 1) := by decide +kernel
theorem d6_30 : decode method_3_code 30 = .ok (.iload_n 1, 1) := by decide +kernel
theorem d6_31 : decode method_3_code 31 = .ok (.iload_n 2, 1) := by decide +kernel
theorem d6_32 : decode method_3_code 32 = .ok (.iload_n 3, 1) := by decide +kernel
theorem d6_33 : decode method_3_code 33 = .ok (.iload 4, 2) := by decide +kernel
theorem d6_35 : decode method_3_code 35 = .ok (.iload 5, 2) := by decide +kernel
theorem d6_37 : decode method_3_code 37 = .ok (.iload 6, 2) := by decide +kernel
theorem d6_39 : decode method_3_code 39 = .ok (.iload 7, 2) := by decide +kernel
theorem d6_41 : decode method_3_code 41 = .ok (.invokestatic 32, 3) := by decide +kernel
theorem d6_44 : decode method_3_code 44 = .ok (.ifCond .eq 143, 3) := by decide +kernel
theorem d6_47 : decode method_3_code 47 = .ok (.aload_n 0, 1) := by decide +kernel
theorem d6_48 : decode method_3_code 48 = .ok (.iconst 2, 1) := by decide +kernel
theorem d6_49 : decode method_3_code 49 = .ok (.iload_n 1, 1) := by decide +kernel
theorem d6_50 : decode method_3_code 50 = .ok (.iload_n 2, 1) := by decide +kernel
theorem d6_51 : decode method_3_code 51 = .ok (.iload_n 3, 1) := by decide +kernel
theorem d6_52 : decode method_3_code 52 = .ok (.iload 4, 2) := by decide +kernel
theorem d6_54 : decode method_3_code 54 = .ok (.iload 5, 2) := by decide +kernel
theorem d6_56 : decode method_3_code 56 = .ok (.iload 6, 2) := by decide +kernel
theorem d6_58 : decode method_3_code 58 = .ok (.iload 7, 2) := by decide +kernel
theorem d6_60 : decode method_3_code 60 = .ok (.invokestatic 32, 3) := by decide +kernel
theorem d6_63 : decode method_3_code 63 = .ok (.ifCond .eq 124, 3) := by decide +kernel
theorem d6_66 : decode method_3_code 66 = .ok (.aload_n 0, 1) := by decide +kernel
theorem d6_67 : decode method_3_code 67 = .ok (.iconst 3, 1) := by decide +kernel
theorem d6_68 : decode method_3_code 68 = .ok (.iload_n 1, 1) := by decide +kernel
theorem d6_69 : decode method_3_code 69 = .ok (.iload_n 2, 1) := by decide +kernel
theorem d6_70 : decode method_3_code 70 = .ok (.iload_n 3, 1) := by decide +kernel
theorem d6_71 : decode method_3_code 71 = .ok (.iload 4, 2) := by decide +kernel
theorem d6_73 : decode method_3_code 73 = .ok (.iload 5, 2) := by decide +kernel
theorem d6_75 : decode method_3_code 75 = .ok (.iload 6, 2) := by decide +kernel
theorem d6_77 : decode method_3_code 77 = .ok (.iload 7, 2) := by decide +kernel
theorem d6_79 : decode method_3_code 79 = .ok (.invokestatic 32, 3) := by decide +kernel
theorem d6_82 : decode method_3_code 82 = .ok (.ifCond .eq 105, 3) := by decide +kernel
theorem d6_85 : decode method_3_code 85 = .ok (.aload_n 0, 1) := by decide +kernel
theorem d6_86 : decode method_3_code 86 = .ok (.iconst 4, 1) := by decide +kernel
theorem d6_87 : decode method_3_code 87 = .ok (.iload_n 1, 1) := by decide +kernel
theorem d6_88 : decode method_3_code 88 = .ok (.iload_n 2, 1) := by decide +kernel
theorem d6_89 : decode method_3_code 89 = .ok (.iload_n 3, 1) := by decide +kernel
theorem d6_90 : decode method_3_code 90 = .ok (.iload 4, 2) := by decide +kernel
theorem d6_92 : decode method_3_code 92 = .ok (.iload 5, 2) := by decide +kernel
theorem d6_94 : decode method_3_code 94 = .ok (.iload 6, 2) := by decide +kernel
theorem d6_96 : decode method_3_code 96 = .ok (.iload 7, 2) := by decide +kernel
theorem d6_98 : decode method_3_code 98 = .ok (.invokestatic 32, 3) := by decide +kernel
theorem d6_101 : decode method_3_code 101 = .ok (.ifCond .eq 86, 3) := by decide +kernel
theorem d6_104 : decode method_3_code 104 = .ok (.aload_n 0, 1) := by decide +kernel
theorem d6_105 : decode method_3_code 105 = .ok (.iconst 5, 1) := by decide +kernel
theorem d6_106 : decode method_3_code 106 = .ok (.iload_n 1, 1) := by decide +kernel
theorem d6_107 : decode method_3_code 107 = .ok (.iload_n 2, 1) := by decide +kernel
theorem d6_108 : decode method_3_code 108 = .ok (.iload_n 3, 1) := by decide +kernel
theorem d6_109 : decode method_3_code 109 = .ok (.iload 4, 2) := by decide +kernel
theorem d6_111 : decode method_3_code 111 = .ok (.iload 5, 2) := by decide +kernel
theorem d6_113 : decode method_3_code 113 = .ok (.iload 6, 2) := by decide +kernel
theorem d6_115 : decode method_3_code 115 = .ok (.iload 7, 2) := by decide +kernel
theorem d6_117 : decode method_3_code 117 = .ok (.invokestatic 32, 3) := by decide +kernel
theorem d6_120 : decode method_3_code 120 = .ok (.ifCond .eq 67, 3) := by decide +kernel
theorem d6_123 : decode method_3_code 123 = .ok (.aload_n 0, 1) := by decide +kernel
theorem d6_124 : decode method_3_code 124 = .ok (.bipush 6, 2) := by decide +kernel
theorem d6_126 : decode method_3_code 126 = .ok (.iload_n 1, 1) := by decide +kernel
theorem d6_127 : decode method_3_code 127 = .ok (.iload_n 2, 1) := by decide +kernel
theorem d6_128 : decode method_3_code 128 = .ok (.iload_n 3, 1) := by decide +kernel
theorem d6_129 : decode method_3_code 129 = .ok (.iload 4, 2) := by decide +kernel
theorem d6_131 : decode method_3_code 131 = .ok (.iload 5, 2) := by decide +kernel
theorem d6_133 : decode method_3_code 133 = .ok (.iload 6, 2) := by decide +kernel
theorem d6_135 : decode method_3_code 135 = .ok (.iload 7, 2) := by decide +kernel
theorem d6_137 : decode method_3_code 137 = .ok (.invokestatic 32, 3) := by decide +kernel
theorem d6_140 : decode method_3_code 140 = .ok (.ifCond .eq 47, 3) := by decide +kernel
theorem d6_143 : decode method_3_code 143 = .ok (.aload_n 0, 1) := by decide +kernel
theorem d6_144 : decode method_3_code 144 = .ok (.bipush 7, 2) := by decide +kernel
theorem d6_146 : decode method_3_code 146 = .ok (.iload_n 1, 1) := by decide +kernel
theorem d6_147 : decode method_3_code 147 = .ok (.iload_n 2, 1) := by decide +kernel
theorem d6_148 : decode method_3_code 148 = .ok (.iload_n 3, 1) := by decide +kernel
theorem d6_149 : decode method_3_code 149 = .ok (.iload 4, 2) := by decide +kernel
theorem d6_151 : decode method_3_code 151 = .ok (.iload 5, 2) := by decide +kernel
theorem d6_153 : decode method_3_code 153 = .ok (.iload 6, 2) := by decide +kernel
theorem d6_155 : decode method_3_code 155 = .ok (.iload 7, 2) := by decide +kernel
theorem d6_157 : decode method_3_code 157 = .ok (.invokestatic 32, 3) := by decide +kernel
theorem d6_160 : decode method_3_code 160 = .ok (.ifCond .eq 27, 3) := by decide +kernel
theorem d6_163 : decode method_3_code 163 = .ok (.aload_n 0, 1) := by decide +kernel
theorem d6_164 : decode method_3_code 164 = .ok (.bipush 8, 2) := by decide +kernel
theorem d6_166 : decode method_3_code 166 = .ok (.iload_n 1, 1) := by decide +kernel
theorem d6_167 : decode method_3_code 167 = .ok (.iload_n 2, 1) := by decide +kernel
theorem d6_168 : decode method_3_code 168 = .ok (.iload_n 3, 1) := by decide +kernel
theorem d6_169 : decode method_3_code 169 = .ok (.iload 4, 2) := by decide +kernel
theorem d6_171 : decode method_3_code 171 = .ok (.iload 5, 2) := by decide +kernel
theorem d6_173 : decode method_3_code 173 = .ok (.iload 6, 2) := by decide +kernel
theorem d6_175 : decode method_3_code 175 = .ok (.iload 7, 2) := by decide +kernel
theorem d6_177 : decode method_3_code 177 = .ok (.invokestatic 32, 3) := by decide +kernel
theorem d6_180 : decode method_3_code 180 = .ok (.ifCond .eq 7, 3) := by decide +kernel
theorem d6_183 : decode method_3_code 183 = .ok (.iconst 1, 1) := by decide +kernel
theorem d6_184 : decode method_3_code 184 = .ok (.goto 4, 3) := by decide +kernel
theorem d6_187 : decode method_3_code 187 = .ok (.iconst 0, 1) := by decide +kernel
theorem d6_188 : decode method_3_code 188 = .ok (.ireturn, 1) := by decide +kernel
theorem pn_6 : plainFor (⟨"com/example/tallytree/tallytree/BitWriterWritePinLaw", "all", "([BIIIIIII)Z"⟩ : MethodName) = true := plainFor_of_name (by first | (simp [plainName, overriddenIn]; done) | decide +kernel)
theorem ef_6 (m : MethodId) (x0 : Addr) (x1 : Int32) (x2 : Int32) (x3 : Int32) (x4 : Int32) (x5 : Int32) (x6 : Int32) (x7 : Int32) : entryFrame m #[(.ref x0), (.int x1), (.int x2), (.int x3), (.int x4), (.int x5), (.int x6), (.int x7)] 8 = mkF m 0 #[.val (.ref x0), .val (.int x1), .val (.int x2), .val (.int x3), .val (.int x4), .val (.int x5), .val (.int x6), .val (.int x7)] [] := by first | (simp [entryFrame, mkF, argsToLocals, Value.category]; done) | rfl
theorem pd1 : parseMethodDescriptor "([BIIIIIIII)Z" = some ⟨[(.array .byte), .int, .int, .int, .int, .int, .int, .int, .int], some .boolean⟩ := by decide +kernel
def F6 (x1 : Int32) (x2 : Int32) (x3 : Int32) (x4 : Int32) (x5 : Int32) (x6 : Int32) (x7 : Int32) (ff : Nat → Int32) : Int32 := (if (F7 (0 : Int32) x1 x2 x3 x4 x5 x6 x7 (ff 0)) = 0 then (0 : Int32) else (if (F7 (1 : Int32) x1 x2 x3 x4 x5 x6 x7 (ff 1)) = 0 then (0 : Int32) else (if (F7 (2 : Int32) x1 x2 x3 x4 x5 x6 x7 (ff 2)) = 0 then (0 : Int32) else (if (F7 (3 : Int32) x1 x2 x3 x4 x5 x6 x7 (ff 3)) = 0 then (0 : Int32) else (if (F7 (4 : Int32) x1 x2 x3 x4 x5 x6 x7 (ff 4)) = 0 then (0 : Int32) else (if (F7 (5 : Int32) x1 x2 x3 x4 x5 x6 x7 (ff 5)) = 0 then (0 : Int32) else (if (F7 (6 : Int32) x1 x2 x3 x4 x5 x6 x7 (ff 6)) = 0 then (0 : Int32) else (if (F7 (7 : Int32) x1 x2 x3 x4 x5 x6 x7 (ff 7)) = 0 then (0 : Int32) else (if (F7 (8 : Int32) x1 x2 x3 x4 x5 x6 x7 (ff 8)) = 0 then (0 : Int32) else (1 : Int32))))))))))
set_option maxRecDepth 65536 in
set_option maxHeartbeats 40000000 in
theorem rm6 (l : Launch) (Z : State) (a0 : Array Value) (hw : ∀ d ∈ tables_1, d.before a0 Z = true) (ws : List Jvm.Cond) (x0 : Addr) (x1 : Int32) (x2 : Int32) (x3 : Int32) (x4 : Int32) (x5 : Int32) (x6 : Int32) (x7 : Int32) (ff : Nat → Int32) (h0 : Heap) (A_x0 : AI Z h0 x0 .byte (ML 17 ff)) :
    Ctr l (⟨"com/example/tallytree/tallytree/BitWriterWritePinLaw", "all", "([BIIIIIII)Z"⟩ : MethodName) method_3_code 8 (some .boolean) ws ({ frames := 2, cells := 0, slots := 0, locals := 38 } : Room) Z #[(.ref x0), (.int x1), (.int x2), (.int x3), (.int x4), (.int x5), (.int x6), (.int x7)] h0 (PQ (.int (F6 x1 x2 x3 x4 x5 x6 x7 ff)) h0) 0 0 := by
  refine Ctr.mk pn_6 ?_
  intro p e s m below meth c T hx hby hml hown hnm hlk hret hZ X eT
  refine enter (ef_6 m x0 x1 x2 x3 x4 x5 x6 x7) ?_
  obtain ⟨res, hres⟩ : ∃ r, r = F6 x1 x2 x3 x4 x5 x6 x7 ff := ⟨_, rfl⟩
  rw [← hres]
  refine s_aloadN X hx (hb hby d6_0) rfl rfl (q := 1) rfl ?_
  refine s_lenI X hx hZ eT (z := (17 : Int32)) A_x0 (by rw [ML_len]; rfl) (hb hby d6_1) (q := 2) rfl ?_
  refine s_bipush X hx (z := (9 : Int32)) (hb hby d6_2) rfl (q := 4) rfl ?_
  refine f_icmp_ge X hx (hb hby d6_4) (q1 := 9) (by decide) (by decide) (q := 7) rfl (fun _ => ?_) (fun hq => absurd hq (by decide : ¬ (17 : Int32) < (9 : Int32)))
  refine s_aloadN X hx (hb hby d6_9) rfl rfl (q := 10) rfl ?_
  refine s_iconst X hx (z := (0 : Int32)) (hb hby d6_10) rfl (q := 11) rfl ?_
  refine s_iloadN X hx (hb hby d6_11) rfl (q := 12) rfl ?_
  refine s_iloadN X hx (hb hby d6_12) rfl (q := 13) rfl ?_
  refine s_iloadN X hx (hb hby d6_13) rfl (q := 14) rfl ?_
  refine s_iload X hx (hb hby d6_14) rfl (q := 16) rfl ?_
  refine s_iload X hx (hb hby d6_16) rfl (q := 18) rfl ?_
  refine s_iload X hx (hb hby d6_18) rfl (q := 20) rfl ?_
  refine s_iload X hx (hb hby d6_20) rfl (q := 22) rfl ?_
  refine callP X hx hZ hown (W := 0) (argsL := [(.ref x0), (.int (0 : Int32)), (.int x1), (.int x2), (.int x3), (.int x4), (.int x5), (.int x6), (.int x7)]) (rest := []) (hw _ (List.mem_of_getElem? (i := 40) rfl)) (hw _ (List.mem_of_getElem? (i := 41) rfl)) (hw _ (List.mem_of_getElem? (i := 38) rfl)) (hw _ (List.mem_of_getElem? (i := 42) rfl)) (by decide) (rm7 l Z a0 hw [] x0 (0 : Int32) x1 x2 x3 x4 x5 x6 x7 (ML 17 ff) (ff 0) h0 A_x0 (by decide) (ML_at _ _ (i := 0) (by decide))) rfl rfl eT (by decide) (by decide) (by decide) (by decide) (by rw [hml]; rfl) pd1 rfl rfl (Nat.le_of_ble_eq_true rfl) (hb hby d6_22) (q := 25) rfl ?_
  intro T X eT
  refine f_if_eq X hx (hb hby d6_25) (q1 := 187) (by decide) (by decide) (q := 28) rfl (fun hc25 => ?_) (fun hc25 => ?_)
  · refine s_iconst X hx (z := (0 : Int32)) (hb hby d6_187) rfl (q := 188) rfl ?_
    exact leafN X hx hlk hret (by simp) (hb hby d6_188) (Nat.le_refl _) (Nat.le_refl _) (z' := (0 : Int32)) rfl ⟨congrArg (fun z => some (Value.int z)) (hres.trans (by unfold F6; rw [if_pos hc25])).symm, eT, rfl⟩
  refine s_aloadN X hx (hb hby d6_28) rfl rfl (q := 29) rfl ?_
  refine s_iconst X hx (z := (1 : Int32)) (hb hby d6_29) rfl (q := 30) rfl ?_
  refine s_iloadN X hx (hb hby d6_30) rfl (q := 31) rfl ?_
  refine s_iloadN X hx (hb hby d6_31) rfl (q := 32) rfl ?_
  refine s_iloadN X hx (hb hby d6_32) rfl (q := 33) rfl ?_
  refine s_iload X hx (hb hby d6_33) rfl (q := 35) rfl ?_
  refine s_iload X hx (hb hby d6_35) rfl (q := 37) rfl ?_
  refine s_iload X hx (hb hby d6_37) rfl (q := 39) rfl ?_
  refine s_iload X hx (hb hby d6_39) rfl (q := 41) rfl ?_
  refine callP X hx hZ hown (W := 0) (argsL := [(.ref x0), (.int (1 : Int32)), (.int x1), (.int x2), (.int x3), (.int x4), (.int x5), (.int x6), (.int x7)]) (rest := []) (hw _ (List.mem_of_getElem? (i := 40) rfl)) (hw _ (List.mem_of_getElem? (i := 41) rfl)) (hw _ (List.mem_of_getElem? (i := 38) rfl)) (hw _ (List.mem_of_getElem? (i := 42) rfl)) (by decide) (rm7 l Z a0 hw [] x0 (1 : Int32) x1 x2 x3 x4 x5 x6 x7 (ML 17 ff) (ff 1) h0 A_x0 (by decide) (ML_at _ _ (i := 1) (by decide))) rfl rfl eT (by decide) (by decide) (by decide) (by decide) (by rw [hml]; rfl) pd1 rfl rfl (Nat.le_of_ble_eq_true rfl) (hb hby d6_41) (q := 44) rfl ?_
  intro T X eT
  refine f_if_eq X hx (hb hby d6_44) (q1 := 187) (by decide) (by decide) (q := 47) rfl (fun hc44 => ?_) (fun hc44 => ?_)
  · refine s_iconst X hx (z := (0 : Int32)) (hb hby d6_187) rfl (q := 188) rfl ?_
    exact leafN X hx hlk hret (by simp) (hb hby d6_188) (Nat.le_refl _) (Nat.le_refl _) (z' := (0 : Int32)) rfl ⟨congrArg (fun z => some (Value.int z)) (hres.trans (by unfold F6; rw [if_neg hc25, if_pos hc44])).symm, eT, rfl⟩
  refine s_aloadN X hx (hb hby d6_47) rfl rfl (q := 48) rfl ?_
  refine s_iconst X hx (z := (2 : Int32)) (hb hby d6_48) rfl (q := 49) rfl ?_
  refine s_iloadN X hx (hb hby d6_49) rfl (q := 50) rfl ?_
  refine s_iloadN X hx (hb hby d6_50) rfl (q := 51) rfl ?_
  refine s_iloadN X hx (hb hby d6_51) rfl (q := 52) rfl ?_
  refine s_iload X hx (hb hby d6_52) rfl (q := 54) rfl ?_
  refine s_iload X hx (hb hby d6_54) rfl (q := 56) rfl ?_
  refine s_iload X hx (hb hby d6_56) rfl (q := 58) rfl ?_
  refine s_iload X hx (hb hby d6_58) rfl (q := 60) rfl ?_
  refine callP X hx hZ hown (W := 0) (argsL := [(.ref x0), (.int (2 : Int32)), (.int x1), (.int x2), (.int x3), (.int x4), (.int x5), (.int x6), (.int x7)]) (rest := []) (hw _ (List.mem_of_getElem? (i := 40) rfl)) (hw _ (List.mem_of_getElem? (i := 41) rfl)) (hw _ (List.mem_of_getElem? (i := 38) rfl)) (hw _ (List.mem_of_getElem? (i := 42) rfl)) (by decide) (rm7 l Z a0 hw [] x0 (2 : Int32) x1 x2 x3 x4 x5 x6 x7 (ML 17 ff) (ff 2) h0 A_x0 (by decide) (ML_at _ _ (i := 2) (by decide))) rfl rfl eT (by decide) (by decide) (by decide) (by decide) (by rw [hml]; rfl) pd1 rfl rfl (Nat.le_of_ble_eq_true rfl) (hb hby d6_60) (q := 63) rfl ?_
  intro T X eT
  refine f_if_eq X hx (hb hby d6_63) (q1 := 187) (by decide) (by decide) (q := 66) rfl (fun hc63 => ?_) (fun hc63 => ?_)
  · refine s_iconst X hx (z := (0 : Int32)) (hb hby d6_187) rfl (q := 188) rfl ?_
    exact leafN X hx hlk hret (by simp) (hb hby d6_188) (Nat.le_refl _) (Nat.le_refl _) (z' := (0 : Int32)) rfl ⟨congrArg (fun z => some (Value.int z)) (hres.trans (by unfold F6; rw [if_neg hc25, if_neg hc44, if_pos hc63])).symm, eT, rfl⟩
  refine s_aloadN X hx (hb hby d6_66) rfl rfl (q := 67) rfl ?_
  refine s_iconst X hx (z := (3 : Int32)) (hb hby d6_67) rfl (q := 68) rfl ?_
  refine s_iloadN X hx (hb hby d6_68) rfl (q := 69) rfl ?_
  refine s_iloadN X hx (hb hby d6_69) rfl (q := 70) rfl ?_
  refine s_iloadN X hx (hb hby d6_70) rfl (q := 71) rfl ?_
  refine s_iload X hx (hb hby d6_71) rfl (q := 73) rfl ?_
  refine s_iload X hx (hb hby d6_73) rfl (q := 75) rfl ?_
  refine s_iload X hx (hb hby d6_75) rfl (q := 77) rfl ?_
  refine s_iload X hx (hb hby d6_77) rfl (q := 79) rfl ?_
  refine callP X hx hZ hown (W := 0) (argsL := [(.ref x0), (.int (3 : Int32)), (.int x1), (.int x2), (.int x3), (.int x4), (.int x5), (.int x6), (.int x7)]) (rest := []) (hw _ (List.mem_of_getElem? (i := 40) rfl)) (hw _ (List.mem_of_getElem? (i := 41) rfl)) (hw _ (List.mem_of_getElem? (i := 38) rfl)) (hw _ (List.mem_of_getElem? (i := 42) rfl)) (by decide) (rm7 l Z a0 hw [] x0 (3 : Int32) x1 x2 x3 x4 x5 x6 x7 (ML 17 ff) (ff 3) h0 A_x0 (by decide) (ML_at _ _ (i := 3) (by decide))) rfl rfl eT (by decide) (by decide) (by decide) (by decide) (by rw [hml]; rfl) pd1 rfl rfl (Nat.le_of_ble_eq_true rfl) (hb hby d6_79) (q := 82) rfl ?_
  intro T X eT
  refine f_if_eq X hx (hb hby d6_82) (q1 := 187) (by decide) (by decide) (q := 85) rfl (fun hc82 => ?_) (fun hc82 => ?_)
  · refine s_iconst X hx (z := (0 : Int32)) (hb hby d6_187) rfl (q := 188) rfl ?_
    exact leafN X hx hlk hret (by simp) (hb hby d6_188) (Nat.le_refl _) (Nat.le_refl _) (z' := (0 : Int32)) rfl ⟨congrArg (fun z => some (Value.int z)) (hres.trans (by unfold F6; rw [if_neg hc25, if_neg hc44, if_neg hc63, if_pos hc82])).symm, eT, rfl⟩
  refine s_aloadN X hx (hb hby d6_85) rfl rfl (q := 86) rfl ?_
  refine s_iconst X hx (z := (4 : Int32)) (hb hby d6_86) rfl (q := 87) rfl ?_
  refine s_iloadN X hx (hb hby d6_87) rfl (q := 88) rfl ?_
  refine s_iloadN X hx (hb hby d6_88) rfl (q := 89) rfl ?_
  refine s_iloadN X hx (hb hby d6_89) rfl (q := 90) rfl ?_
  refine s_iload X hx (hb hby d6_90) rfl (q := 92) rfl ?_
  refine s_iload X hx (hb hby d6_92) rfl (q := 94) rfl ?_
  refine s_iload X hx (hb hby d6_94) rfl (q := 96) rfl ?_
  refine s_iload X hx (hb hby d6_96) rfl (q := 98) rfl ?_
  refine callP X hx hZ hown (W := 0) (argsL := [(.ref x0), (.int (4 : Int32)), (.int x1), (.int x2), (.int x3), (.int x4), (.int x5), (.int x6), (.int x7)]) (rest := []) (hw _ (List.mem_of_getElem? (i := 40) rfl)) (hw _ (List.mem_of_getElem? (i := 41) rfl)) (hw _ (List.mem_of_getElem? (i := 38) rfl)) (hw _ (List.mem_of_getElem? (i := 42) rfl)) (by decide) (rm7 l Z a0 hw [] x0 (4 : Int32) x1 x2 x3 x4 x5 x6 x7 (ML 17 ff) (ff 4) h0 A_x0 (by decide) (ML_at _ _ (i := 4) (by decide))) rfl rfl eT (by decide) (by decide) (by decide) (by decide) (by rw [hml]; rfl) pd1 rfl rfl (Nat.le_of_ble_eq_true rfl) (hb hby d6_98) (q := 101) rfl ?_
  intro T X eT
  refine f_if_eq X hx (hb hby d6_101) (q1 := 187) (by decide) (by decide) (q := 104) rfl (fun hc101 => ?_) (fun hc101 => ?_)
  · refine s_iconst X hx (z := (0 : Int32)) (hb hby d6_187) rfl (q := 188) rfl ?_
    exact leafN X hx hlk hret (by simp) (hb hby d6_188) (Nat.le_refl _) (Nat.le_refl _) (z' := (0 : Int32)) rfl ⟨congrArg (fun z => some (Value.int z)) (hres.trans (by unfold F6; rw [if_neg hc25, if_neg hc44, if_neg hc63, if_neg hc82, if_pos hc101])).symm, eT, rfl⟩
  refine s_aloadN X hx (hb hby d6_104) rfl rfl (q := 105) rfl ?_
  refine s_iconst X hx (z := (5 : Int32)) (hb hby d6_105) rfl (q := 106) rfl ?_
  refine s_iloadN X hx (hb hby d6_106) rfl (q := 107) rfl ?_
  refine s_iloadN X hx (hb hby d6_107) rfl (q := 108) rfl ?_
  refine s_iloadN X hx (hb hby d6_108) rfl (q := 109) rfl ?_
  refine s_iload X hx (hb hby d6_109) rfl (q := 111) rfl ?_
  refine s_iload X hx (hb hby d6_111) rfl (q := 113) rfl ?_
  refine s_iload X hx (hb hby d6_113) rfl (q := 115) rfl ?_
  refine s_iload X hx (hb hby d6_115) rfl (q := 117) rfl ?_
  refine callP X hx hZ hown (W := 0) (argsL := [(.ref x0), (.int (5 : Int32)), (.int x1), (.int x2), (.int x3), (.int x4), (.int x5), (.int x6), (.int x7)]) (rest := []) (hw _ (List.mem_of_getElem? (i := 40) rfl)) (hw _ (List.mem_of_getElem? (i := 41) rfl)) (hw _ (List.mem_of_getElem? (i := 38) rfl)) (hw _ (List.mem_of_getElem? (i := 42) rfl)) (by decide) (rm7 l Z a0 hw [] x0 (5 : Int32) x1 x2 x3 x4 x5 x6 x7 (ML 17 ff) (ff 5) h0 A_x0 (by decide) (ML_at _ _ (i := 5) (by decide))) rfl rfl eT (by decide) (by decide) (by decide) (by decide) (by rw [hml]; rfl) pd1 rfl rfl (Nat.le_of_ble_eq_true rfl) (hb hby d6_117) (q := 120) rfl ?_
  intro T X eT
  refine f_if_eq X hx (hb hby d6_120) (q1 := 187) (by decide) (by decide) (q := 123) rfl (fun hc120 => ?_) (fun hc120 => ?_)
  · refine s_iconst X hx (z := (0 : Int32)) (hb hby d6_187) rfl (q := 188) rfl ?_
    exact leafN X hx hlk hret (by simp) (hb hby d6_188) (Nat.le_refl _) (Nat.le_refl _) (z' := (0 : Int32)) rfl ⟨congrArg (fun z => some (Value.int z)) (hres.trans (by unfold F6; rw [if_neg hc25, if_neg hc44, if_neg hc63, if_neg hc82, if_neg hc101, if_pos hc120])).symm, eT, rfl⟩
  refine s_aloadN X hx (hb hby d6_123) rfl rfl (q := 124) rfl ?_
  refine s_bipush X hx (z := (6 : Int32)) (hb hby d6_124) rfl (q := 126) rfl ?_
  refine s_iloadN X hx (hb hby d6_126) rfl (q := 127) rfl ?_
  refine s_iloadN X hx (hb hby d6_127) rfl (q := 128) rfl ?_
  refine s_iloadN X hx (hb hby d6_128) rfl (q := 129) rfl ?_
  refine s_iload X hx (hb hby d6_129) rfl (q := 131) rfl ?_
  refine s_iload X hx (hb hby d6_131) rfl (q := 133) rfl ?_
  refine s_iload X hx (hb hby d6_133) rfl (q := 135) rfl ?_
  refine s_iload X hx (hb hby d6_135) rfl (q := 137) rfl ?_
  refine callP X hx hZ hown (W := 0) (argsL := [(.ref x0), (.int (6 : Int32)), (.int x1), (.int x2), (.int x3), (.int x4), (.int x5), (.int x6), (.int x7)]) (rest := []) (hw _ (List.mem_of_getElem? (i := 40) rfl)) (hw _ (List.mem_of_getElem? (i := 41) rfl)) (hw _ (List.mem_of_getElem? (i := 38) rfl)) (hw _ (List.mem_of_getElem? (i := 42) rfl)) (by decide) (rm7 l Z a0 hw [] x0 (6 : Int32) x1 x2 x3 x4 x5 x6 x7 (ML 17 ff) (ff 6) h0 A_x0 (by decide) (ML_at _ _ (i := 6) (by decide))) rfl rfl eT (by decide) (by decide) (by decide) (by decide) (by rw [hml]; rfl) pd1 rfl rfl (Nat.le_of_ble_eq_true rfl) (hb hby d6_137) (q := 140) rfl ?_
  intro T X eT
  refine f_if_eq X hx (hb hby d6_140) (q1 := 187) (by decide) (by decide) (q := 143) rfl (fun hc140 => ?_) (fun hc140 => ?_)
  · refine s_iconst X hx (z := (0 : Int32)) (hb hby d6_187) rfl (q := 188) rfl ?_
    exact leafN X hx hlk hret (by simp) (hb hby d6_188) (Nat.le_refl _) (Nat.le_refl _) (z' := (0 : Int32)) rfl ⟨congrArg (fun z => some (Value.int z)) (hres.trans (by unfold F6; rw [if_neg hc25, if_neg hc44, if_neg hc63, if_neg hc82, if_neg hc101, if_neg hc120, if_pos hc140])).symm, eT, rfl⟩
  refine s_aloadN X hx (hb hby d6_143) rfl rfl (q := 144) rfl ?_
  refine s_bipush X hx (z := (7 : Int32)) (hb hby d6_144) rfl (q := 146) rfl ?_
  refine s_iloadN X hx (hb hby d6_146) rfl (q := 147) rfl ?_
  refine s_iloadN X hx (hb hby d6_147) rfl (q := 148) rfl ?_
  refine s_iloadN X hx (hb hby d6_148) rfl (q := 149) rfl ?_
  refine s_iload X hx (hb hby d6_149) rfl (q := 151) rfl ?_
  refine s_iload X hx (hb hby d6_151) rfl (q := 153) rfl ?_
  refine s_iload X hx (hb hby d6_153) rfl (q := 155) rfl ?_
  refine s_iload X hx (hb hby d6_155) rfl (q := 157) rfl ?_
  refine callP X hx hZ hown (W := 0) (argsL := [(.ref x0), (.int (7 : Int32)), (.int x1), (.int x2), (.int x3), (.int x4), (.int x5), (.int x6), (.int x7)]) (rest := []) (hw _ (List.mem_of_getElem? (i := 40) rfl)) (hw _ (List.mem_of_getElem? (i := 41) rfl)) (hw _ (List.mem_of_getElem? (i := 38) rfl)) (hw _ (List.mem_of_getElem? (i := 42) rfl)) (by decide) (rm7 l Z a0 hw [] x0 (7 : Int32) x1 x2 x3 x4 x5 x6 x7 (ML 17 ff) (ff 7) h0 A_x0 (by decide) (ML_at _ _ (i := 7) (by decide))) rfl rfl eT (by decide) (by decide) (by decide) (by decide) (by rw [hml]; rfl) pd1 rfl rfl (Nat.le_of_ble_eq_true rfl) (hb hby d6_157) (q := 160) rfl ?_
  intro T X eT
  refine f_if_eq X hx (hb hby d6_160) (q1 := 187) (by decide) (by decide) (q := 163) rfl (fun hc160 => ?_) (fun hc160 => ?_)
  · refine s_iconst X hx (z := (0 : Int32)) (hb hby d6_187) rfl (q := 188) rfl ?_
    exact leafN X hx hlk hret (by simp) (hb hby d6_188) (Nat.le_refl _) (Nat.le_refl _) (z' := (0 : Int32)) rfl ⟨congrArg (fun z => some (Value.int z)) (hres.trans (by unfold F6; rw [if_neg hc25, if_neg hc44, if_neg hc63, if_neg hc82, if_neg hc101, if_neg hc120, if_neg hc140, if_pos hc160])).symm, eT, rfl⟩
  refine s_aloadN X hx (hb hby d6_163) rfl rfl (q := 164) rfl ?_
  refine s_bipush X hx (z := (8 : Int32)) (hb hby d6_164) rfl (q := 166) rfl ?_
  refine s_iloadN X hx (hb hby d6_166) rfl (q := 167) rfl ?_
  refine s_iloadN X hx (hb hby d6_167) rfl (q := 168) rfl ?_
  refine s_iloadN X hx (hb hby d6_168) rfl (q := 169) rfl ?_
  refine s_iload X hx (hb hby d6_169) rfl (q := 171) rfl ?_
  refine s_iload X hx (hb hby d6_171) rfl (q := 173) rfl ?_
  refine s_iload X hx (hb hby d6_173) rfl (q := 175) rfl ?_
  refine s_iload X hx (hb hby d6_175) rfl (q := 177) rfl ?_
  refine callP X hx hZ hown (W := 0) (argsL := [(.ref x0), (.int (8 : Int32)), (.int x1), (.int x2), (.int x3), (.int x4), (.int x5), (.int x6), (.int x7)]) (rest := []) (hw _ (List.mem_of_getElem? (i := 40) rfl)) (hw _ (List.mem_of_getElem? (i := 41) rfl)) (hw _ (List.mem_of_getElem? (i := 38) rfl)) (hw _ (List.mem_of_getElem? (i := 42) rfl)) (by decide) (rm7 l Z a0 hw [] x0 (8 : Int32) x1 x2 x3 x4 x5 x6 x7 (ML 17 ff) (ff 8) h0 A_x0 (by decide) (ML_at _ _ (i := 8) (by decide))) rfl rfl eT (by decide) (by decide) (by decide) (by decide) (by rw [hml]; rfl) pd1 rfl rfl (Nat.le_of_ble_eq_true rfl) (hb hby d6_177) (q := 180) rfl ?_
  intro T X eT
  refine f_if_eq X hx (hb hby d6_180) (q1 := 187) (by decide) (by decide) (q := 183) rfl (fun hc180 => ?_) (fun hc180 => ?_)
  · refine s_iconst X hx (z := (0 : Int32)) (hb hby d6_187) rfl (q := 188) rfl ?_
    exact leafN X hx hlk hret (by simp) (hb hby d6_188) (Nat.le_refl _) (Nat.le_refl _) (z' := (0 : Int32)) rfl ⟨congrArg (fun z => some (Value.int z)) (hres.trans (by unfold F6; rw [if_neg hc25, if_neg hc44, if_neg hc63, if_neg hc82, if_neg hc101, if_neg hc120, if_neg hc140, if_neg hc160, if_pos hc180])).symm, eT, rfl⟩
  refine s_iconst X hx (z := (1 : Int32)) (hb hby d6_183) rfl (q := 184) rfl ?_
  refine s_goto X hx (hb hby d6_184) (q1 := 188) (by decide) (by decide) ?_
  exact leafN X hx hlk hret (by simp) (hb hby d6_188) (Nat.le_refl _) (Nat.le_refl _) (z' := (1 : Int32)) rfl ⟨congrArg (fun z => some (Value.int z)) (hres.trans (by unfold F6; rw [if_neg hc25, if_neg hc44, if_neg hc63, if_neg hc82, if_neg hc101, if_neg hc120, if_neg hc140, if_neg hc160, if_neg hc180])).symm, eT, rfl⟩
theorem own_part (v s k c : Nat) (hv : v < 2 ^ c) (hv' : v < 16777216) (hc : c ≤ 24) (hs : s ≤ 48) (hk : k ≤ 8) : F9 (Int32.ofNat v) (Int32.ofNat s) (Int32.ofNat c) (Int32.ofNat k) = Int32.ofNat (((v <<< (8 * (k + 1))) >>> (s + c)) % 256) := by
  unfold F9
  have e8 : (8 : Int32) = Int32.ofNat 8 := rfl
  have d0 : (Int32.ofNat s + Int32.ofNat c) = Int32.ofNat (s + c) := o_add (by omega)
  have d1 : (8 : Int32) * Int32.ofNat k = Int32.ofNat (8 * k) := by rw [e8, o_mul (by omega) (by omega) (by omega)]
  rw [d0, d1]
  have t1 := c_isub (Int32.ofNat (s + c)) 8
  have t2 := rng32 (Int32.ofNat (s + c) - 8)
  have t3 := c_isub (Int32.ofNat (s + c) - 8) (Int32.ofNat (8 * k))
  have t4 := rng32 (Int32.ofNat (s + c) - 8 - Int32.ofNat (8 * k))
  rw [Int32.toInt_ofNat_small (by omega)] at t1
  rw [Int32.toInt_ofNat_small (by omega)] at t3
  have e8' : (8 : Int32).toInt = 8 := by decide
  have hd : (Int32.ofNat (s + c) - 8 - Int32.ofNat (8 * k)).toInt = (s + c : Int) - 8 - 8 * k := by omega
  generalize Int32.ofNat (s + c) - 8 - Int32.ofNat (8 * k) = d at *
  have e32 : (32 : Int32).toInt = 32 := by decide
  have em8 : (-8 : Int32).toInt = -8 := by decide
  have e0 : (0 : Int32).toInt = 0 := by decide
  have z0 : Int32.ofNat 0 = 0 := rfl
  by_cases h1 : d < 32
  · rw [if_pos h1]
    rw [Int32.lt_iff_toInt_lt] at h1
    by_cases h2 : (-8 : Int32) < d
    · rw [if_pos h2]
      rw [Int32.lt_iff_toInt_lt] at h2
      by_cases h3 : d < 0
      · rw [if_pos h3]
        rw [Int32.lt_iff_toInt_lt] at h3
        have hn : -d = Int32.ofNat (8 * (k + 1) - (s + c)) := by
          apply Int32.toInt_inj.mp
          have q := c_ineg d; have r := rng32 (-d)
          rw [Int32.toInt_ofNat_small (by omega)]; omega
        rw [hn, own_and255 _ _ (own_shl32 v _ (by omega)), own_srl _ _ _ (by omega)]
      · rw [if_neg h3]
        rw [Int32.lt_iff_toInt_lt] at h3
        have hn : d = Int32.ofNat (s + c - 8 * (k + 1)) := by
          apply Int32.toInt_inj.mp
          rw [Int32.toInt_ofNat_small (by omega)]; omega
        rw [hn, own_and255 _ _ (own_shr32 v _ hv' (by omega)), own_slr _ _ _ (by omega)]
    · rw [if_neg h2]
      rw [Int32.lt_iff_toInt_lt] at h2
      rw [own_srl _ _ _ (by omega), ← z0]
      congr 1
      symm
      show _ % 2 ^ 8 = 0
      apply Nat.eq_of_testBit_eq
      intro i
      simp only [Nat.testBit_mod_two_pow, Nat.testBit_shiftLeft, Nat.zero_testBit]
      by_cases hi : i < 8
      · have : ¬ (8 * (k + 1) - (s + c) ≤ i) := by omega
        simp [hi, this]
      · simp [hi]
  · rw [if_neg h1]
    rw [Int32.lt_iff_toInt_lt] at h1
    rw [own_slr _ _ _ (by omega), ← z0]
    congr 1
    have : v >>> (s + c - 8 * (k + 1)) = 0 := by
      rw [Nat.shiftRight_eq_div_pow]
      apply Nat.div_eq_of_lt
      exact Nat.lt_of_lt_of_le hv (Nat.pow_le_pow_right (by decide) (by omega))
    rw [this]
theorem o_or {a b : Nat} (ha : a < 256) (hb : b < 256) : Int32.ofNat a ||| Int32.ofNat b = Int32.ofNat (a ||| b) := by
  apply Int32.toBitVec_inj.mp
  rw [Int32.toBitVec_or]
  apply BitVec.eq_of_toNat_eq
  show ((BitVec.ofNat 32 a) ||| (BitVec.ofNat 32 b)).toNat = (BitVec.ofNat 32 (a ||| b)).toNat
  have hab : a ||| b < 2 ^ 8 := Nat.or_lt_two_pow ha hb
  rw [BitVec.toNat_or, BitVec.toNat_ofNat, BitVec.toNat_ofNat, BitVec.toNat_ofNat, Nat.mod_eq_of_lt (by omega), Nat.mod_eq_of_lt (by omega), Nat.mod_eq_of_lt (by omega)]
theorem own_byte (v1 v2 v3 na nb nd S : Nat) (h2 : v2 < 2 ^ nb) (h3 : v3 < 2 ^ nd) : (((((0 <<< na ||| v1) <<< nb ||| v2) <<< nd ||| v3) <<< S) >>> (((0 + na) + nb) + nd)) % 256 = (((v1 <<< S) >>> (0 + na)) % 256) ||| (((v2 <<< S) >>> (na + nb)) % 256) ||| (((v3 <<< S) >>> (na + nb + nd)) % 256) := by
  show _ % 2 ^ 8 = (_ % 2 ^ 8) ||| (_ % 2 ^ 8) ||| (_ % 2 ^ 8)
  apply Nat.eq_of_testBit_eq
  intro i
  simp only [Nat.testBit_mod_two_pow, Nat.testBit_shiftLeft, Nat.testBit_shiftRight, Nat.testBit_or, Nat.zero_testBit, Nat.zero_shiftLeft, Bool.and_false, Bool.false_or]
  by_cases hi : i < 8
  · simp only [hi, decide_true, Bool.true_and]
    by_cases q3 : S ≤ 0 + na + nb + nd + i
    · have r3 : S ≤ na + nb + nd + i := by omega
      have e3 : na + nb + nd + i - S = 0 + na + nb + nd + i - S := by omega
      simp only [q3, r3, e3, decide_true, Bool.true_and]
      by_cases q2 : S ≤ na + nb + i
      · have a2 : nd ≤ 0 + na + nb + nd + i - S := by omega
        have e2 : 0 + na + nb + nd + i - S - nd = na + nb + i - S := by omega
        simp only [q2, a2, e2, decide_true, Bool.true_and]
        by_cases q1 : S ≤ 0 + na + i
        · have a1 : nb ≤ na + nb + i - S := by omega
          have e1 : na + nb + i - S - nb = 0 + na + i - S := by omega
          simp only [q1, a1, e1, decide_true, Bool.true_and]
        · have a1 : ¬ nb ≤ na + nb + i - S := by omega
          simp only [q1, a1, decide_false, Bool.false_and, Bool.false_or]
      · have a2 : ¬ nd ≤ 0 + na + nb + nd + i - S := by omega
        have q1 : ¬ S ≤ 0 + na + i := by omega
        simp only [q2, a2, q1, decide_false, Bool.false_and, Bool.false_or]
    · have r3 : ¬ S ≤ na + nb + nd + i := by omega
      have r2 : ¬ S ≤ na + nb + i := by omega
      have r1 : ¬ S ≤ 0 + na + i := by omega
      simp only [q3, r3, r2, r1, decide_false, Bool.false_and, Bool.or_false]
  · simp only [hi, decide_false, Bool.false_and, Bool.or_false]
theorem own_fb255 (V T k : Nat) : fb V T k &&& (255 : Int32) = Int32.ofNat (((V <<< (8 * (k + 1))) >>> T) % 256) := by
  unfold fb
  by_cases h : 8 * k < T
  · rw [if_pos h, bb_and]
  · rw [if_neg h]
    have z : ((V <<< (8 * (k + 1))) >>> T) % 256 = 0 := by
      rw [own_srl _ _ _ (by omega)]
      show _ % 2 ^ 8 = 0
      apply Nat.eq_of_testBit_eq
      intro i
      simp only [Nat.testBit_mod_two_pow, Nat.testBit_shiftLeft, Nat.zero_testBit]
      by_cases hi : i < 8
      · have : ¬ (8 * (k + 1) - T ≤ i) := by omega
        simp [hi, this]
      · simp [hi]
    rw [z]; decide
theorem own_one (v1 v2 v3 na nb nd k lim : Nat) (y : Int32) (h1 : v1 < 2 ^ na) (h2 : v2 < 2 ^ nb) (h3 : v3 < 2 ^ nd) (h1' : v1 < 16777216) (h2' : v2 < 16777216) (h3' : v3 < 16777216) (hna : na ≤ 24) (hnb : nb ≤ 24) (hnd : nd ≤ 24) (hk : k ≤ 8) (hl : lim < 1000)
    (hy : k < lim → y &&& (255 : Int32) = Int32.ofNat ((((((0 <<< na ||| v1) <<< nb ||| v2) <<< nd ||| v3) <<< (8 * (k + 1))) >>> (((0 + na) + nb) + nd)) % 256)) (hz : ¬ k < lim → y = 0) : F7 (Int32.ofNat k) (Int32.ofNat lim) (Int32.ofNat v1) (Int32.ofNat na) (Int32.ofNat v2) (Int32.ofNat nb) (Int32.ofNat v3) (Int32.ofNat nd) y = 1 := by
  unfold F7
  by_cases h : k < lim
  · rw [if_pos ((o_lt (by omega) (by omega)).mpr h), o_add (by omega)]
    have p1 := own_part v1 0 k na h1 h1' hna (by omega) hk
    rw [show (0 : Int32) = Int32.ofNat 0 from rfl, p1, own_part v2 na k nb h2 h2' hnb (by omega) hk, own_part v3 (na + nb) k nd h3 h3' hnd (by omega) hk]
    have g1 : ((v1 <<< (8 * (k + 1))) >>> (0 + na)) % 256 < 256 := Nat.mod_lt _ (by decide)
    have g2 : ((v2 <<< (8 * (k + 1))) >>> (na + nb)) % 256 < 256 := Nat.mod_lt _ (by decide)
    have g3 : ((v3 <<< (8 * (k + 1))) >>> (na + nb + nd)) % 256 < 256 := Nat.mod_lt _ (by decide)
    rw [o_or g1 g2, o_or (Nat.or_lt_two_pow (n := 8) g1 g2) g3]
    rw [hy h, own_byte v1 v2 v3 na nb nd _ h2 h3, if_pos rfl]
  · rw [if_neg (fun q => h ((o_lt (by omega) (by omega)).mp q)), hz h]
    decide
theorem own_all (lim a b d e f g : Int32) (ff : Nat → Int32) (h : ∀ k : Nat, k ≤ 8 → F7 (Int32.ofNat k) lim a b d e f g (ff k) = 1) : F6 lim a b d e f g ff = 1 := by
  have nz : ∀ k : Nat, k ≤ 8 → ¬ F7 (Int32.ofNat k) lim a b d e f g (ff k) = 0 := fun k hk q => absurd ((h k hk).symm.trans q) (by decide)
  unfold F6
  rw [if_neg (show ¬ F7 (0 : Int32) lim a b d e f g (ff 0) = 0 from nz 0 (by decide)), if_neg (show ¬ F7 (1 : Int32) lim a b d e f g (ff 1) = 0 from nz 1 (by decide)), if_neg (show ¬ F7 (2 : Int32) lim a b d e f g (ff 2) = 0 from nz 2 (by decide)), if_neg (show ¬ F7 (3 : Int32) lim a b d e f g (ff 3) = 0 from nz 3 (by decide)), if_neg (show ¬ F7 (4 : Int32) lim a b d e f g (ff 4) = 0 from nz 4 (by decide)), if_neg (show ¬ F7 (5 : Int32) lim a b d e f g (ff 5) = 0 from nz 5 (by decide)), if_neg (show ¬ F7 (6 : Int32) lim a b d e f g (ff 6) = 0 from nz 6 (by decide)), if_neg (show ¬ F7 (7 : Int32) lim a b d e f g (ff 7) = 0 from nz 7 (by decide)), if_neg (show ¬ F7 (8 : Int32) lim a b d e f g (ff 8) = 0 from nz 8 (by decide))]
theorem pn_0 : plainFor x = true := plainFor_of_name (by first | (simp [plainName, overriddenIn]; done) | decide +kernel)
theorem ef_0 (m : MethodId) (x0 : Int32) (x1 : Int32) (x2 : Int32) (x3 : Int32) : entryFrame m #[(.int x0), (.int x1), (.int x2), (.int x3)] maxLocals = mkF m 0 #[.val (.int x0), .val (.int x1), .val (.int x2), .val (.int x3), .unset, .unset, .unset, .unset, .unset, .unset, .unset, .unset, .unset, .unset, .unset, .unset, .unset] [] := by first | (simp [entryFrame, mkF, argsToLocals, Value.category, maxLocals]; done) | rfl
theorem pd2 : parseMethodDescriptor "()V" = some ⟨[], none⟩ := by decide +kernel
theorem pd3 : parseMethodDescriptor "(I)V" = some ⟨[.int], none⟩ := by decide +kernel
theorem pd4 : parseMethodDescriptor "(II)V" = some ⟨[.int, .int], none⟩ := by decide +kernel
theorem pd5 : parseMethodDescriptor "()[B" = some ⟨[], some (.array .byte)⟩ := by decide +kernel
theorem pd6 : parseMethodDescriptor "([BIIIIIII)Z" = some ⟨[(.array .byte), .int, .int, .int, .int, .int, .int, .int], some .boolean⟩ := by decide +kernel
theorem pd7 : parseMethodDescriptor "()I" = some ⟨[], some .int⟩ := by decide +kernel
def Q0 (h0 : Heap) (n0 : Nat) (v : Option Value) (h : Heap) (L : List Loc) : Prop := v = some (.int 1) ∧ Fr n0 L
set_option maxRecDepth 65536 in
set_option maxHeartbeats 40000000 in
theorem rm0 (l : Launch) (Z : State) (a0 : Array Value) (hw : ∀ d ∈ tables_1, d.before a0 Z = true) (ws : List Jvm.Cond) (x0 : Int32) (x1 : Int32) (x2 : Int32) (x3 : Int32) (h0 : Heap) (n0 : Nat) (sz : n0 ≤ h0.size) :
    Ctr l x code maxLocals ret ws room_1 Z #[(.int x0), (.int x1), (.int x2), (.int x3)] h0 (Q0 h0 n0) 16 640 := by
  refine Ctr.mk pn_0 ?_
  intro p e s m below meth c T hx hby hml hown hnm hlk hret hZ X eT
  have N := Fr.nil n0
  refine enter (ef_0 m x0 x1 x2 x3) ?_
  refine s_iloadN X hx (hb hby at_0) rfl (q := 1) rfl ?_
  refine s_bipush X hx (z := (31 : Int32)) (hb hby at_1) rfl (q := 3) rfl ?_
  refine s_iand X hx (hb hby at_3) (q := 4) rfl ?_
  refine s_bipush X hx (z := (25 : Int32)) (hb hby at_4) rfl (q := 6) rfl ?_
  refine s_irem X hx (hb hby at_6) (by decide) (q := 7) rfl ?_
  generalize hca : ((x3 &&& (31 : Int32)) % (25 : Int32)) = ca
  refine s_istore X hx (hb hby at_7) (L' := #[.val (.int x0), .val (.int x1), .val (.int x2), .val (.int x3), .val (.int ca), .unset, .unset, .unset, .unset, .unset, .unset, .unset, .unset, .unset, .unset, .unset, .unset]) rfl (q := 9) rfl ?_
  obtain ⟨na, hna, rfl⟩ := own_cnt _ ca (c_and _ 31 (by decide)).1 hca
  refine s_iloadN X hx (hb hby at_9) rfl (q := 10) rfl ?_
  refine s_iconst X hx (z := (5 : Int32)) (hb hby at_10) rfl (q := 11) rfl ?_
  refine s_iushr X hx (hb hby at_11) (q := 12) rfl ?_
  refine s_bipush X hx (z := (31 : Int32)) (hb hby at_12) rfl (q := 14) rfl ?_
  refine s_iand X hx (hb hby at_14) (q := 15) rfl ?_
  refine s_bipush X hx (z := (25 : Int32)) (hb hby at_15) rfl (q := 17) rfl ?_
  refine s_irem X hx (hb hby at_17) (by decide) (q := 18) rfl ?_
  generalize hcb : ((((x3.toUInt32 >>> ((5 : Int32) &&& 31).toUInt32).toInt32) &&& (31 : Int32)) % (25 : Int32)) = cb
  refine s_istore X hx (hb hby at_18) (L' := #[.val (.int x0), .val (.int x1), .val (.int x2), .val (.int x3), .val (.int (Int32.ofNat na)), .val (.int cb), .unset, .unset, .unset, .unset, .unset, .unset, .unset, .unset, .unset, .unset, .unset]) rfl (q := 20) rfl ?_
  obtain ⟨nb, hnb, rfl⟩ := own_cnt _ cb (c_and _ 31 (by decide)).1 hcb
  refine s_iloadN X hx (hb hby at_20) rfl (q := 21) rfl ?_
  refine s_bipush X hx (z := (10 : Int32)) (hb hby at_21) rfl (q := 23) rfl ?_
  refine s_iushr X hx (hb hby at_23) (q := 24) rfl ?_
  refine s_bipush X hx (z := (31 : Int32)) (hb hby at_24) rfl (q := 26) rfl ?_
  refine s_iand X hx (hb hby at_26) (q := 27) rfl ?_
  refine s_bipush X hx (z := (25 : Int32)) (hb hby at_27) rfl (q := 29) rfl ?_
  refine s_irem X hx (hb hby at_29) (by decide) (q := 30) rfl ?_
  generalize hcd : ((((x3.toUInt32 >>> ((10 : Int32) &&& 31).toUInt32).toInt32) &&& (31 : Int32)) % (25 : Int32)) = cd
  refine s_istore X hx (hb hby at_30) (L' := #[.val (.int x0), .val (.int x1), .val (.int x2), .val (.int x3), .val (.int (Int32.ofNat na)), .val (.int (Int32.ofNat nb)), .val (.int cd), .unset, .unset, .unset, .unset, .unset, .unset, .unset, .unset, .unset, .unset]) rfl (q := 32) rfl ?_
  obtain ⟨nd, hnd, rfl⟩ := own_cnt _ cd (c_and _ 31 (by decide)).1 hcd
  refine s_iloadN X hx (hb hby at_32) rfl (q := 33) rfl ?_
  refine s_iconst X hx (z := (1 : Int32)) (hb hby at_33) rfl (q := 34) rfl ?_
  refine s_iload X hx (hb hby at_34) rfl (q := 36) rfl ?_
  refine s_ishl X hx (hb hby at_36) (q := 37) rfl ?_
  refine s_iconst X hx (z := (1 : Int32)) (hb hby at_37) rfl (q := 38) rfl ?_
  refine s_isub X hx (hb hby at_38) (q := 39) rfl ?_
  refine s_iand X hx (hb hby at_39) (q := 40) rfl ?_
  generalize hva : (x0 &&& (((1 : Int32) <<< ((Int32.ofNat na) &&& 31)) - (1 : Int32))) = va
  refine s_istore X hx (hb hby at_40) (L' := #[.val (.int x0), .val (.int x1), .val (.int x2), .val (.int x3), .val (.int (Int32.ofNat na)), .val (.int (Int32.ofNat nb)), .val (.int (Int32.ofNat nd)), .val (.int va), .unset, .unset, .unset, .unset, .unset, .unset, .unset, .unset, .unset]) rfl (q := 42) rfl ?_
  obtain ⟨v1, hv1, hv1', rfl⟩ := own_val x0 na va hna hva
  refine s_iloadN X hx (hb hby at_42) rfl (q := 43) rfl ?_
  refine s_iconst X hx (z := (1 : Int32)) (hb hby at_43) rfl (q := 44) rfl ?_
  refine s_iload X hx (hb hby at_44) rfl (q := 46) rfl ?_
  refine s_ishl X hx (hb hby at_46) (q := 47) rfl ?_
  refine s_iconst X hx (z := (1 : Int32)) (hb hby at_47) rfl (q := 48) rfl ?_
  refine s_isub X hx (hb hby at_48) (q := 49) rfl ?_
  refine s_iand X hx (hb hby at_49) (q := 50) rfl ?_
  generalize hvb : (x1 &&& (((1 : Int32) <<< ((Int32.ofNat nb) &&& 31)) - (1 : Int32))) = vb
  refine s_istore X hx (hb hby at_50) (L' := #[.val (.int x0), .val (.int x1), .val (.int x2), .val (.int x3), .val (.int (Int32.ofNat na)), .val (.int (Int32.ofNat nb)), .val (.int (Int32.ofNat nd)), .val (.int (Int32.ofNat v1)), .val (.int vb), .unset, .unset, .unset, .unset, .unset, .unset, .unset, .unset]) rfl (q := 52) rfl ?_
  obtain ⟨v2, hv2, hv2', rfl⟩ := own_val x1 nb vb hnb hvb
  refine s_iloadN X hx (hb hby at_52) rfl (q := 53) rfl ?_
  refine s_iconst X hx (z := (1 : Int32)) (hb hby at_53) rfl (q := 54) rfl ?_
  refine s_iload X hx (hb hby at_54) rfl (q := 56) rfl ?_
  refine s_ishl X hx (hb hby at_56) (q := 57) rfl ?_
  refine s_iconst X hx (z := (1 : Int32)) (hb hby at_57) rfl (q := 58) rfl ?_
  refine s_isub X hx (hb hby at_58) (q := 59) rfl ?_
  refine s_iand X hx (hb hby at_59) (q := 60) rfl ?_
  generalize hvd : (x2 &&& (((1 : Int32) <<< ((Int32.ofNat nd) &&& 31)) - (1 : Int32))) = vd
  refine s_istore X hx (hb hby at_60) (L' := #[.val (.int x0), .val (.int x1), .val (.int x2), .val (.int x3), .val (.int (Int32.ofNat na)), .val (.int (Int32.ofNat nb)), .val (.int (Int32.ofNat nd)), .val (.int (Int32.ofNat v1)), .val (.int (Int32.ofNat v2)), .val (.int vd), .unset, .unset, .unset, .unset, .unset, .unset, .unset]) rfl (q := 62) rfl ?_
  obtain ⟨v3, hv3, hv3', rfl⟩ := own_val x2 nd vd hnd hvd
  refine s_iload X hx (hb hby at_62) rfl (q := 64) rfl ?_
  refine s_iload X hx (hb hby at_64) rfl (q := 66) rfl ?_
  refine s_iadd X hx (hb hby at_66) (q := 67) rfl ?_
  refine s_iload X hx (hb hby at_67) rfl (q := 69) rfl ?_
  refine s_iadd X hx (hb hby at_69) (q := 70) rfl ?_
  rw [o_add (by omega), o_add (by omega), show na + nb + nd = 0 + na + nb + nd from by omega]
  refine s_istore X hx (hb hby at_70) (L' := #[.val (.int x0), .val (.int x1), .val (.int x2), .val (.int x3), .val (.int (Int32.ofNat na)), .val (.int (Int32.ofNat nb)), .val (.int (Int32.ofNat nd)), .val (.int (Int32.ofNat v1)), .val (.int (Int32.ofNat v2)), .val (.int (Int32.ofNat v3)), .val (.int (Int32.ofNat (((0 + na) + nb) + nd))), .unset, .unset, .unset, .unset, .unset, .unset]) rfl (q := 72) rfl ?_
  refine s_new X hx hZ hown (hw _ (List.mem_of_getElem? (i := 0) rfl)) (hw _ (List.mem_of_getElem? (i := 1) rfl)) (hw _ (List.mem_of_getElem? (i := 2) rfl)) eT (by decide) (by decide) (hb hby at_72) (q := 75) rfl ?_
  intro T h2 a1 X eT E ea E_a1' Df
  have g_a1 : n0 ≤ a1 := by rw [ea]; exact sz
  have sz : n0 ≤ h2.size := Nat.le_trans sz E.1
  have E_a1 := E_a1'
  have F_a1_bytes : Fld Z h2 a1 "com/example/tallytree/tallytree/BitWriter" "bytes" "[B" .null := Df _ _ _ (.array .byte) (Or.inl (hw _ (List.mem_of_getElem? (i := 11) rfl))) (by decide)
  have F_a1_entries : Fld Z h2 a1 "com/example/tallytree/tallytree/BitWriter" "entries" "[I" .null := Df _ _ _ (.array .int) (Or.inr (hw _ (List.mem_of_getElem? (i := 14) rfl))) (by decide)
  have F_a1_next : Fld Z h2 a1 "com/example/tallytree/tallytree/BitWriter" "next" "I" (.int (0 : Int32)) := Df _ _ _ .int (Or.inl (hw _ (List.mem_of_getElem? (i := 21) rfl))) (by decide)
  have F_a1_pending : Fld Z h2 a1 "com/example/tallytree/tallytree/BitWriter" "pending" "J" (.long (0 : Int64)) := Df _ _ _ .long (Or.inl (hw _ (List.mem_of_getElem? (i := 23) rfl))) (by decide)
  have F_a1_pendingBits : Fld Z h2 a1 "com/example/tallytree/tallytree/BitWriter" "pendingBits" "I" (.int (0 : Int32)) := Df _ _ _ .int (Or.inl (hw _ (List.mem_of_getElem? (i := 25) rfl))) (by decide)
  refine s_dup X hx (hb hby at_75) rfl (q := 76) rfl ?_
  refine callI X hx hZ hown (W := 1) (argsL := []) (rest := [(.ref a1)]) rfl (hw _ (List.mem_of_getElem? (i := 3) rfl)) (hw _ (List.mem_of_getElem? (i := 4) rfl)) (hw _ (List.mem_of_getElem? (i := 2) rfl)) (hw _ (List.mem_of_getElem? (i := 5) rfl)) (by decide) (rm1 l Z a0 hw [] a1 h2 n0 sz F_a1_bytes F_a1_next F_a1_pending F_a1_pendingBits E_a1 g_a1 F_a1_entries) eT (by decide) (by decide) (by decide) (by decide) (by rw [hml]; rfl) pd2 rfl rfl (Nat.le_of_ble_eq_true rfl) (hb hby at_76) (q := 79) rfl ?_
  intro v T Lc hQ X
  obtain ⟨h3, eT⟩ : ∃ z, T.heap = z := ⟨_, rfl⟩
  try rw [eT] at hQ
  obtain ⟨rfl, N', K', t4, st_t4, F_a1_bytes', F_a1_next', F_a1_pending', F_a1_pendingBits', A_t4⟩ := hQ
  have N := Fr.app N N'
  have g_t4 : n0 ≤ t4 := Nat.le_trans sz st_t4
  have ne_a1_t4 : a1 ≠ t4 := Nat.ne_of_lt (Nat.lt_of_lt_of_le E_a1.lt st_t4)
  have E_a1 := E_a1.keep K'
  have sz : n0 ≤ h3.size := Nat.le_trans sz K'.1
  have F_a1_bytes := F_a1_bytes'
  have F_a1_next := F_a1_next'
  have F_a1_pending := F_a1_pending'
  have F_a1_pendingBits := F_a1_pendingBits'
  refine s_astore X hx (hb hby at_79) rfl (L' := #[.val (.int x0), .val (.int x1), .val (.int x2), .val (.int x3), .val (.int (Int32.ofNat na)), .val (.int (Int32.ofNat nb)), .val (.int (Int32.ofNat nd)), .val (.int (Int32.ofNat v1)), .val (.int (Int32.ofNat v2)), .val (.int (Int32.ofNat v3)), .val (.int (Int32.ofNat (((0 + na) + nb) + nd))), .val (.ref a1), .unset, .unset, .unset, .unset, .unset]) rfl (q := 81) rfl ?_
  refine s_aload X hx (hb hby at_81) rfl rfl (q := 83) rfl ?_
  refine s_bipush X hx (z := (9 : Int32)) (hb hby at_83) rfl (q := 85) rfl ?_
  refine callV X hx hZ hown (W := 0) (argsL := [(.int (9 : Int32))]) (rest := []) (hw _ (List.mem_of_getElem? (i := 15) rfl)) (hw _ (List.mem_of_getElem? (i := 16) rfl)) (hw _ (List.mem_of_getElem? (i := 18) rfl)) (hw _ (List.mem_of_getElem? (i := 17) rfl)) (hw _ (List.mem_of_getElem? (i := 2) rfl)) (hw _ (List.mem_of_getElem? (i := 19) rfl)) (by decide) E_a1 (rm3_new l Z a0 hw [] a1 t4 [] 9 (0 : Int32) (0 : Int32) (0 : Int64) h3 n0 sz F_a1_bytes F_a1_next F_a1_pending F_a1_pendingBits E_a1 g_a1 A_t4 g_t4 ne_a1_t4 (by decide) (by decide) (by decide)) eT (by decide) (by decide) (by decide) (by decide) (by rw [hml]; rfl) pd3 rfl rfl (Nat.le_of_ble_eq_true rfl) (hb hby at_85) (q := 88) rfl ?_
  intro v T Lc hQ X
  obtain ⟨h5, eT⟩ : ∃ z, T.heap = z := ⟨_, rfl⟩
  try rw [eT] at hQ
  obtain ⟨rfl, N', K', t6, st_t6, F_a1_bytes', F_a1_next', F_a1_pending', F_a1_pendingBits', A_t6⟩ := hQ
  have N := Fr.app N N'
  have g_t6 : n0 ≤ t6 := Nat.le_trans sz st_t6
  have ne_a1_t6 : a1 ≠ t6 := Nat.ne_of_lt (Nat.lt_of_lt_of_le E_a1.lt st_t6)
  have ne_t4_t6 : t4 ≠ t6 := Nat.ne_of_lt (Nat.lt_of_lt_of_le A_t4.lt st_t6)
  have E_a1 := E_a1.keep K'
  have A_t4 := A_t4.keep K' (ninS (Ne.symm ne_a1_t4) nin0)
  have sz : n0 ≤ h5.size := Nat.le_trans sz K'.1
  have F_a1_bytes := F_a1_bytes'
  have F_a1_next := F_a1_next'
  have F_a1_pending := F_a1_pending'
  have F_a1_pendingBits := F_a1_pendingBits'
  refine s_aload X hx (hb hby at_88) rfl rfl (q := 90) rfl ?_
  refine s_iload X hx (hb hby at_90) rfl (q := 92) rfl ?_
  refine s_iload X hx (hb hby at_92) rfl (q := 94) rfl ?_
  refine callV X hx hZ hown (W := 0) (argsL := [(.int (Int32.ofNat v1)), (.int (Int32.ofNat na))]) (rest := []) (hw _ (List.mem_of_getElem? (i := 26) rfl)) (hw _ (List.mem_of_getElem? (i := 27) rfl)) (hw _ (List.mem_of_getElem? (i := 29) rfl)) (hw _ (List.mem_of_getElem? (i := 28) rfl)) (hw _ (List.mem_of_getElem? (i := 2) rfl)) (hw _ (List.mem_of_getElem? (i := 30) rfl)) (by decide) E_a1 (rm4 l Z a0 hw [] a1 t6 0 0 na v1 (9 + 8) (sb 0 0) (0 : Int64) h5 n0 sz F_a1_bytes F_a1_next F_a1_pending F_a1_pendingBits E_a1 g_a1 A_t6 g_t6 ne_a1_t6 rfl hna hv1' (by omega) (by decide)) eT (by decide) (by decide) (by decide) (by decide) (by rw [hml]; rfl) pd4 rfl rfl (Nat.le_of_ble_eq_true rfl) (hb hby at_94) (q := 97) rfl ?_
  intro v T Lc hQ X
  obtain ⟨h7, eT⟩ : ∃ z, T.heap = z := ⟨_, rfl⟩
  try rw [eT] at hQ
  obtain ⟨rfl, N', K', F_a1_bytes', F_a1_next', ⟨pp8, hb_pp8, F_a1_pending'⟩, F_a1_pendingBits', A_t6'⟩ := hQ
  have N := Fr.app N N'
  have E_a1 := E_a1.keep K'
  have A_t4 := A_t4.keep K' (ninS (Ne.symm ne_a1_t4) (ninS ne_t4_t6 nin0))
  have sz : n0 ≤ h7.size := Nat.le_trans sz K'.1
  rw [own_wsb _ _ _ _ _ hv1] at A_t6'
  have A_t6 := A_t6'
  have F_a1_bytes := F_a1_bytes'
  have F_a1_next := F_a1_next'
  have F_a1_pending := F_a1_pending'
  have F_a1_pendingBits := F_a1_pendingBits'
  refine s_aload X hx (hb hby at_97) rfl rfl (q := 99) rfl ?_
  refine s_iload X hx (hb hby at_99) rfl (q := 101) rfl ?_
  refine s_iload X hx (hb hby at_101) rfl (q := 103) rfl ?_
  refine callV X hx hZ hown (W := 0) (argsL := [(.int (Int32.ofNat v2)), (.int (Int32.ofNat nb))]) (rest := []) (hw _ (List.mem_of_getElem? (i := 26) rfl)) (hw _ (List.mem_of_getElem? (i := 27) rfl)) (hw _ (List.mem_of_getElem? (i := 29) rfl)) (hw _ (List.mem_of_getElem? (i := 28) rfl)) (hw _ (List.mem_of_getElem? (i := 2) rfl)) (hw _ (List.mem_of_getElem? (i := 30) rfl)) (by decide) E_a1 (rm4 l Z a0 hw [] a1 t6 (0 <<< na ||| v1) (0 + na) nb v2 (9 + 8) (sb (0 <<< na ||| v1) (0 + na)) pp8 h7 n0 sz F_a1_bytes F_a1_next F_a1_pending F_a1_pendingBits E_a1 g_a1 A_t6 g_t6 ne_a1_t6 hb_pp8 hnb hv2' (by omega) (by decide)) eT (by decide) (by decide) (by decide) (by decide) (by rw [hml]; rfl) pd4 rfl rfl (Nat.le_of_ble_eq_true rfl) (hb hby at_103) (q := 106) rfl ?_
  intro v T Lc hQ X
  obtain ⟨h9, eT⟩ : ∃ z, T.heap = z := ⟨_, rfl⟩
  try rw [eT] at hQ
  obtain ⟨rfl, N', K', F_a1_bytes', F_a1_next', ⟨pp10, hb_pp10, F_a1_pending'⟩, F_a1_pendingBits', A_t6'⟩ := hQ
  have N := Fr.app N N'
  have E_a1 := E_a1.keep K'
  have A_t4 := A_t4.keep K' (ninS (Ne.symm ne_a1_t4) (ninS ne_t4_t6 nin0))
  have sz : n0 ≤ h9.size := Nat.le_trans sz K'.1
  rw [own_wsb _ _ _ _ _ hv2] at A_t6'
  have A_t6 := A_t6'
  have F_a1_bytes := F_a1_bytes'
  have F_a1_next := F_a1_next'
  have F_a1_pending := F_a1_pending'
  have F_a1_pendingBits := F_a1_pendingBits'
  refine s_aload X hx (hb hby at_106) rfl rfl (q := 108) rfl ?_
  refine s_iload X hx (hb hby at_108) rfl (q := 110) rfl ?_
  refine s_iload X hx (hb hby at_110) rfl (q := 112) rfl ?_
  refine callV X hx hZ hown (W := 0) (argsL := [(.int (Int32.ofNat v3)), (.int (Int32.ofNat nd))]) (rest := []) (hw _ (List.mem_of_getElem? (i := 26) rfl)) (hw _ (List.mem_of_getElem? (i := 27) rfl)) (hw _ (List.mem_of_getElem? (i := 29) rfl)) (hw _ (List.mem_of_getElem? (i := 28) rfl)) (hw _ (List.mem_of_getElem? (i := 2) rfl)) (hw _ (List.mem_of_getElem? (i := 30) rfl)) (by decide) E_a1 (rm4 l Z a0 hw [] a1 t6 ((0 <<< na ||| v1) <<< nb ||| v2) ((0 + na) + nb) nd v3 (9 + 8) (sb ((0 <<< na ||| v1) <<< nb ||| v2) ((0 + na) + nb)) pp10 h9 n0 sz F_a1_bytes F_a1_next F_a1_pending F_a1_pendingBits E_a1 g_a1 A_t6 g_t6 ne_a1_t6 hb_pp10 hnd hv3' (by omega) (by decide)) eT (by decide) (by decide) (by decide) (by decide) (by rw [hml]; rfl) pd4 rfl rfl (Nat.le_of_ble_eq_true rfl) (hb hby at_112) (q := 115) rfl ?_
  intro v T Lc hQ X
  obtain ⟨h11, eT⟩ : ∃ z, T.heap = z := ⟨_, rfl⟩
  try rw [eT] at hQ
  obtain ⟨rfl, N', K', F_a1_bytes', F_a1_next', ⟨pp12, hb_pp12, F_a1_pending'⟩, F_a1_pendingBits', A_t6'⟩ := hQ
  have N := Fr.app N N'
  have E_a1 := E_a1.keep K'
  have A_t4 := A_t4.keep K' (ninS (Ne.symm ne_a1_t4) (ninS ne_t4_t6 nin0))
  have sz : n0 ≤ h11.size := Nat.le_trans sz K'.1
  rw [own_wsb _ _ _ _ _ hv3] at A_t6'
  have A_t6 := A_t6'
  have F_a1_bytes := F_a1_bytes'
  have F_a1_next := F_a1_next'
  have F_a1_pending := F_a1_pending'
  have F_a1_pendingBits := F_a1_pendingBits'
  refine s_aload X hx (hb hby at_115) rfl rfl (q := 117) rfl ?_
  refine callV X hx hZ hown (W := 0) (argsL := []) (rest := []) (hw _ (List.mem_of_getElem? (i := 31) rfl)) (hw _ (List.mem_of_getElem? (i := 32) rfl)) (hw _ (List.mem_of_getElem? (i := 34) rfl)) (hw _ (List.mem_of_getElem? (i := 33) rfl)) (hw _ (List.mem_of_getElem? (i := 2) rfl)) (hw _ (List.mem_of_getElem? (i := 35) rfl)) (by decide) E_a1 (rm5 l Z a0 hw [] a1 t6 h11 n0 sz F_a1_bytes) eT (by decide) (by decide) (by decide) (by decide) (by rw [hml]; rfl) pd5 rfl rfl (Nat.le_of_ble_eq_true rfl) (hb hby at_117) (q := 120) rfl ?_
  intro v T Lc hQ X
  obtain ⟨rfl, eT, N'⟩ := hQ
  have N := Fr.app N N'
  refine s_astore X hx (hb hby at_120) rfl (L' := #[.val (.int x0), .val (.int x1), .val (.int x2), .val (.int x3), .val (.int (Int32.ofNat na)), .val (.int (Int32.ofNat nb)), .val (.int (Int32.ofNat nd)), .val (.int (Int32.ofNat v1)), .val (.int (Int32.ofNat v2)), .val (.int (Int32.ofNat v3)), .val (.int (Int32.ofNat (((0 + na) + nb) + nd))), .val (.ref a1), .val (.ref t6), .unset, .unset, .unset, .unset]) rfl (q := 122) rfl ?_
  refine s_aload X hx (hb hby at_122) rfl rfl (q := 124) rfl ?_
  refine s_iload X hx (hb hby at_124) rfl (q := 126) rfl ?_
  refine s_bipush X hx (z := (8 : Int32)) (hb hby at_126) rfl (q := 128) rfl ?_
  refine s_idiv X hx (hb hby at_128) (by decide) (q := 129) rfl ?_
  rw [o_div8 _ (by omega)]
  refine s_iload X hx (hb hby at_129) rfl (q := 131) rfl ?_
  refine s_iload X hx (hb hby at_131) rfl (q := 133) rfl ?_
  refine s_iload X hx (hb hby at_133) rfl (q := 135) rfl ?_
  refine s_iload X hx (hb hby at_135) rfl (q := 137) rfl ?_
  refine s_iload X hx (hb hby at_137) rfl (q := 139) rfl ?_
  refine s_iload X hx (hb hby at_139) rfl (q := 141) rfl ?_
  refine callP X hx hZ hown (W := 0) (argsL := [(.ref t6), (.int (Int32.ofNat ((((0 + na) + nb) + nd) / 8))), (.int (Int32.ofNat v1)), (.int (Int32.ofNat na)), (.int (Int32.ofNat v2)), (.int (Int32.ofNat nb)), (.int (Int32.ofNat v3)), (.int (Int32.ofNat nd))]) (rest := []) (hw _ (List.mem_of_getElem? (i := 36) rfl)) (hw _ (List.mem_of_getElem? (i := 37) rfl)) (hw _ (List.mem_of_getElem? (i := 38) rfl)) (hw _ (List.mem_of_getElem? (i := 39) rfl)) (by decide) (rm6 l Z a0 hw [] t6 (Int32.ofNat ((((0 + na) + nb) + nd) / 8)) (Int32.ofNat v1) (Int32.ofNat na) (Int32.ofNat v2) (Int32.ofNat nb) (Int32.ofNat v3) (Int32.ofNat nd) (sb (((0 <<< na ||| v1) <<< nb ||| v2) <<< nd ||| v3) (((0 + na) + nb) + nd)) h11 A_t6) rfl rfl eT (by decide) (by decide) (by decide) (by decide) (by rw [hml]; rfl) pd6 rfl rfl (Nat.le_of_ble_eq_true rfl) (hb hby at_141) (q := 144) rfl ?_
  intro T X eT
  generalize heg : (F6 (Int32.ofNat ((((0 + na) + nb) + nd) / 8)) (Int32.ofNat v1) (Int32.ofNat na) (Int32.ofNat v2) (Int32.ofNat nb) (Int32.ofNat v3) (Int32.ofNat nd) (sb (((0 <<< na ||| v1) <<< nb ||| v2) <<< nd ||| v3) (((0 + na) + nb) + nd))) = eg
  refine s_istore X hx (hb hby at_144) (L' := #[.val (.int x0), .val (.int x1), .val (.int x2), .val (.int x3), .val (.int (Int32.ofNat na)), .val (.int (Int32.ofNat nb)), .val (.int (Int32.ofNat nd)), .val (.int (Int32.ofNat v1)), .val (.int (Int32.ofNat v2)), .val (.int (Int32.ofNat v3)), .val (.int (Int32.ofNat (((0 + na) + nb) + nd))), .val (.ref a1), .val (.ref t6), .val (.int eg), .unset, .unset, .unset]) rfl (q := 146) rfl ?_
  have hg1 : eg = 1 := heg.symm.trans (own_all _ _ _ _ _ _ _ _ (fun k hk => own_one v1 v2 v3 na nb nd k ((((0 + na) + nb) + nd) / 8) _ hv1 hv2 hv3 hv1' hv2' hv3' hna hnb hnd hk (by omega) (fun q => by unfold sb; rw [if_pos (by omega), bb_and, own_slr _ _ _ (by omega)]) (fun q => by unfold sb; rw [if_neg (by omega)])))
  refine s_aload X hx (hb hby at_146) rfl rfl (q := 148) rfl ?_
  by_cases hz : (((0 + na) + nb) + nd) % 8 = 0
  · rw [hz] at F_a1_pendingBits
    refine callV X hx hZ hown (W := 0) (argsL := []) (rest := []) (hw _ (List.mem_of_getElem? (i := 43) rfl)) (hw _ (List.mem_of_getElem? (i := 44) rfl)) (hw _ (List.mem_of_getElem? (i := 46) rfl)) (hw _ (List.mem_of_getElem? (i := 45) rfl)) (hw _ (List.mem_of_getElem? (i := 2) rfl)) (hw _ (List.mem_of_getElem? (i := 47) rfl)) (by decide) E_a1 (rm8_0 l Z a0 hw [] a1 t6 (Int32.ofNat ((((0 + na) + nb) + nd) / 8)) pp12 h11 n0 sz F_a1_bytes F_a1_next F_a1_pending F_a1_pendingBits E_a1 g_a1) eT (by decide) (by decide) (by decide) (by decide) (by rw [hml]; rfl) pd7 rfl rfl (Nat.le_of_ble_eq_true rfl) (hb hby at_148) (q := 151) rfl ?_
    intro v T Lc hQ X
    obtain ⟨h13, eT⟩ : ∃ z, T.heap = z := ⟨_, rfl⟩
    try rw [eT] at hQ
    obtain ⟨rfl, N', K', F_a1_bytes', F_a1_next', F_a1_pending', F_a1_pendingBits'⟩ := hQ
    have N := Fr.app N N'
    have E_a1 := E_a1.keep K'
    have A_t4 := A_t4.keep K' (ninS (Ne.symm ne_a1_t4) nin0)
    have A_t6 := A_t6.keep K' (ninS (Ne.symm ne_a1_t6) nin0)
    have sz : n0 ≤ h13.size := Nat.le_trans sz K'.1
    have F_a1_bytes := F_a1_bytes'
    have F_a1_next := F_a1_next'
    have F_a1_pending := F_a1_pending'
    have F_a1_pendingBits := F_a1_pendingBits'
    rw [own_fb0 _ _ _ hz] at A_t6
    rw [show (((0 + na) + nb) + nd) / 8 = (((((0 + na) + nb) + nd) + 7) / 8) from by omega] at F_a1_next ⊢
    refine s_istore X hx (hb hby at_151) (L' := #[.val (.int x0), .val (.int x1), .val (.int x2), .val (.int x3), .val (.int (Int32.ofNat na)), .val (.int (Int32.ofNat nb)), .val (.int (Int32.ofNat nd)), .val (.int (Int32.ofNat v1)), .val (.int (Int32.ofNat v2)), .val (.int (Int32.ofNat v3)), .val (.int (Int32.ofNat (((0 + na) + nb) + nd))), .val (.ref a1), .val (.ref t6), .val (.int eg), .val (.int (Int32.ofNat (((((0 + na) + nb) + nd) + 7) / 8))), .unset, .unset]) rfl (q := 153) rfl ?_
    refine s_aload X hx (hb hby at_153) rfl rfl (q := 155) rfl ?_
    refine callV X hx hZ hown (W := 0) (argsL := []) (rest := []) (hw _ (List.mem_of_getElem? (i := 31) rfl)) (hw _ (List.mem_of_getElem? (i := 32) rfl)) (hw _ (List.mem_of_getElem? (i := 34) rfl)) (hw _ (List.mem_of_getElem? (i := 33) rfl)) (hw _ (List.mem_of_getElem? (i := 2) rfl)) (hw _ (List.mem_of_getElem? (i := 35) rfl)) (by decide) E_a1 (rm5 l Z a0 hw [] a1 t6 h13 n0 sz F_a1_bytes) eT (by decide) (by decide) (by decide) (by decide) (by rw [hml]; rfl) pd5 rfl rfl (Nat.le_of_ble_eq_true rfl) (hb hby at_155) (q := 158) rfl ?_
    intro v T Lc hQ X
    obtain ⟨rfl, eT, N'⟩ := hQ
    have N := Fr.app N N'
    refine s_astore X hx (hb hby at_158) rfl (L' := #[.val (.int x0), .val (.int x1), .val (.int x2), .val (.int x3), .val (.int (Int32.ofNat na)), .val (.int (Int32.ofNat nb)), .val (.int (Int32.ofNat nd)), .val (.int (Int32.ofNat v1)), .val (.int (Int32.ofNat v2)), .val (.int (Int32.ofNat v3)), .val (.int (Int32.ofNat (((0 + na) + nb) + nd))), .val (.ref a1), .val (.ref t6), .val (.int eg), .val (.int (Int32.ofNat (((((0 + na) + nb) + nd) + 7) / 8))), .val (.ref t6), .unset]) rfl (q := 160) rfl ?_
    refine s_aload X hx (hb hby at_160) rfl rfl (q := 162) rfl ?_
    refine s_bipush X hx (z := (9 : Int32)) (hb hby at_162) rfl (q := 164) rfl ?_
    refine s_iload X hx (hb hby at_164) rfl (q := 166) rfl ?_
    refine s_iload X hx (hb hby at_166) rfl (q := 168) rfl ?_
    refine s_iload X hx (hb hby at_168) rfl (q := 170) rfl ?_
    refine s_iload X hx (hb hby at_170) rfl (q := 172) rfl ?_
    refine s_iload X hx (hb hby at_172) rfl (q := 174) rfl ?_
    refine s_iload X hx (hb hby at_174) rfl (q := 176) rfl ?_
    refine callP X hx hZ hown (W := 0) (argsL := [(.ref t6), (.int (9 : Int32)), (.int (Int32.ofNat v1)), (.int (Int32.ofNat na)), (.int (Int32.ofNat v2)), (.int (Int32.ofNat nb)), (.int (Int32.ofNat v3)), (.int (Int32.ofNat nd))]) (rest := []) (hw _ (List.mem_of_getElem? (i := 36) rfl)) (hw _ (List.mem_of_getElem? (i := 37) rfl)) (hw _ (List.mem_of_getElem? (i := 38) rfl)) (hw _ (List.mem_of_getElem? (i := 39) rfl)) (by decide) (rm6 l Z a0 hw [] t6 (9 : Int32) (Int32.ofNat v1) (Int32.ofNat na) (Int32.ofNat v2) (Int32.ofNat nb) (Int32.ofNat v3) (Int32.ofNat nd) (fb (((0 <<< na ||| v1) <<< nb ||| v2) <<< nd ||| v3) (((0 + na) + nb) + nd)) h13 A_t6) rfl rfl eT (by decide) (by decide) (by decide) (by decide) (by rw [hml]; rfl) pd6 rfl rfl (Nat.le_of_ble_eq_true rfl) (hb hby at_176) (q := 179) rfl ?_
    intro T X eT
    generalize hdn : (F6 (9 : Int32) (Int32.ofNat v1) (Int32.ofNat na) (Int32.ofNat v2) (Int32.ofNat nb) (Int32.ofNat v3) (Int32.ofNat nd) (fb (((0 <<< na ||| v1) <<< nb ||| v2) <<< nd ||| v3) (((0 + na) + nb) + nd))) = dn
    refine s_istore X hx (hb hby at_179) (L' := #[.val (.int x0), .val (.int x1), .val (.int x2), .val (.int x3), .val (.int (Int32.ofNat na)), .val (.int (Int32.ofNat nb)), .val (.int (Int32.ofNat nd)), .val (.int (Int32.ofNat v1)), .val (.int (Int32.ofNat v2)), .val (.int (Int32.ofNat v3)), .val (.int (Int32.ofNat (((0 + na) + nb) + nd))), .val (.ref a1), .val (.ref t6), .val (.int eg), .val (.int (Int32.ofNat (((((0 + na) + nb) + nd) + 7) / 8))), .val (.ref t6), .val (.int dn)]) rfl (q := 181) rfl ?_
    have hg2 : dn = 1 := hdn.symm.trans (own_all _ _ _ _ _ _ _ _ (fun k hk => own_one v1 v2 v3 na nb nd k 9 _ hv1 hv2 hv3 hv1' hv2' hv3' hna hnb hnd hk (by omega) (fun q => own_fb255 _ _ k) (fun q => absurd (Nat.lt_succ_of_le hk) q)))
    refine s_iload X hx (hb hby at_181) rfl (q := 183) rfl ?_
    refine f_if_eq X hx (hb hby at_183) (q1 := 208) (by decide) (by decide) (q := 186) rfl (fun hq => absurd hq (by rw [hg1]; decide : ¬ eg = 0)) (fun _ => ?_)
    refine s_iload X hx (hb hby at_186) rfl (q := 188) rfl ?_
    refine f_if_eq X hx (hb hby at_188) (q1 := 208) (by decide) (by decide) (q := 191) rfl (fun hq => absurd hq (by rw [hg2]; decide : ¬ dn = 0)) (fun _ => ?_)
    refine s_iload X hx (hb hby at_191) rfl (q := 193) rfl ?_
    refine s_iload X hx (hb hby at_193) rfl (q := 195) rfl ?_
    refine s_bipush X hx (z := (7 : Int32)) (hb hby at_195) rfl (q := 197) rfl ?_
    refine s_iadd X hx (hb hby at_197) (q := 198) rfl ?_
    rw [show (7 : Int32) = Int32.ofNat 7 from rfl, o_add (by omega)]
    refine s_bipush X hx (z := (8 : Int32)) (hb hby at_198) rfl (q := 200) rfl ?_
    refine s_idiv X hx (hb hby at_200) (by decide) (q := 201) rfl ?_
    rw [o_div8 _ (by omega)]
    refine f_icmp_ne X hx (hb hby at_201) (q1 := 208) (by decide) (by decide) (q := 204) rfl (fun hq => absurd (rfl : (Int32.ofNat (((((0 + na) + nb) + nd) + 7) / 8)) = (Int32.ofNat (((((0 + na) + nb) + nd) + 7) / 8))) hq) (fun _ => ?_)
    refine s_iconst X hx (z := (1 : Int32)) (hb hby at_204) rfl (q := 205) rfl ?_
    refine s_goto X hx (hb hby at_205) (q1 := 209) (by decide) (by decide) ?_
    exact leafN X hx hlk hret (by simp) (hb hby at_209) (by decide) (by decide) (z' := 1) rfl ⟨rfl, N⟩
  · have hz' := hz
    refine callV X hx hZ hown (W := 0) (argsL := []) (rest := []) (hw _ (List.mem_of_getElem? (i := 43) rfl)) (hw _ (List.mem_of_getElem? (i := 44) rfl)) (hw _ (List.mem_of_getElem? (i := 46) rfl)) (hw _ (List.mem_of_getElem? (i := 45) rfl)) (hw _ (List.mem_of_getElem? (i := 2) rfl)) (hw _ (List.mem_of_getElem? (i := 47) rfl)) (by decide) E_a1 (rm8_1 l Z a0 hw [] a1 t6 (((0 <<< na ||| v1) <<< nb ||| v2) <<< nd ||| v3) ((((0 + na) + nb) + nd) / 8) ((((0 + na) + nb) + nd) % 8) (9 + 8) (sb (((0 <<< na ||| v1) <<< nb ||| v2) <<< nd ||| v3) (((0 + na) + nb) + nd)) pp12 h11 n0 sz F_a1_bytes F_a1_next F_a1_pending F_a1_pendingBits E_a1 g_a1 A_t6 g_t6 ne_a1_t6 hb_pp12 (Nat.pos_of_ne_zero hz) (by omega) (by omega) (by omega)) eT (by decide) (by decide) (by decide) (by decide) (by rw [hml]; rfl) pd7 rfl rfl (Nat.le_of_ble_eq_true rfl) (hb hby at_148) (q := 151) rfl ?_
    intro v T Lc hQ X
    obtain ⟨h14, eT⟩ : ∃ z, T.heap = z := ⟨_, rfl⟩
    try rw [eT] at hQ
    obtain ⟨rfl, N', K', F_a1_bytes', F_a1_next', F_a1_pending', F_a1_pendingBits', A_t6'⟩ := hQ
    have N := Fr.app N N'
    have E_a1 := E_a1.keep K'
    have A_t4 := A_t4.keep K' (ninS (Ne.symm ne_a1_t4) (ninS ne_t4_t6 nin0))
    have sz : n0 ≤ h14.size := Nat.le_trans sz K'.1
    have A_t6 := A_t6'
    have F_a1_bytes := F_a1_bytes'
    have F_a1_next := F_a1_next'
    have F_a1_pending := F_a1_pending'
    have F_a1_pendingBits := F_a1_pendingBits'
    rw [own_fb1 _ _ _ hz] at A_t6
    rw [show (((0 + na) + nb) + nd) / 8 + (0 + 1) = (((((0 + na) + nb) + nd) + 7) / 8) from by omega] at F_a1_next ⊢
    refine s_istore X hx (hb hby at_151) (L' := #[.val (.int x0), .val (.int x1), .val (.int x2), .val (.int x3), .val (.int (Int32.ofNat na)), .val (.int (Int32.ofNat nb)), .val (.int (Int32.ofNat nd)), .val (.int (Int32.ofNat v1)), .val (.int (Int32.ofNat v2)), .val (.int (Int32.ofNat v3)), .val (.int (Int32.ofNat (((0 + na) + nb) + nd))), .val (.ref a1), .val (.ref t6), .val (.int eg), .val (.int (Int32.ofNat (((((0 + na) + nb) + nd) + 7) / 8))), .unset, .unset]) rfl (q := 153) rfl ?_
    refine s_aload X hx (hb hby at_153) rfl rfl (q := 155) rfl ?_
    refine callV X hx hZ hown (W := 0) (argsL := []) (rest := []) (hw _ (List.mem_of_getElem? (i := 31) rfl)) (hw _ (List.mem_of_getElem? (i := 32) rfl)) (hw _ (List.mem_of_getElem? (i := 34) rfl)) (hw _ (List.mem_of_getElem? (i := 33) rfl)) (hw _ (List.mem_of_getElem? (i := 2) rfl)) (hw _ (List.mem_of_getElem? (i := 35) rfl)) (by decide) E_a1 (rm5 l Z a0 hw [] a1 t6 h14 n0 sz F_a1_bytes) eT (by decide) (by decide) (by decide) (by decide) (by rw [hml]; rfl) pd5 rfl rfl (Nat.le_of_ble_eq_true rfl) (hb hby at_155) (q := 158) rfl ?_
    intro v T Lc hQ X
    obtain ⟨rfl, eT, N'⟩ := hQ
    have N := Fr.app N N'
    refine s_astore X hx (hb hby at_158) rfl (L' := #[.val (.int x0), .val (.int x1), .val (.int x2), .val (.int x3), .val (.int (Int32.ofNat na)), .val (.int (Int32.ofNat nb)), .val (.int (Int32.ofNat nd)), .val (.int (Int32.ofNat v1)), .val (.int (Int32.ofNat v2)), .val (.int (Int32.ofNat v3)), .val (.int (Int32.ofNat (((0 + na) + nb) + nd))), .val (.ref a1), .val (.ref t6), .val (.int eg), .val (.int (Int32.ofNat (((((0 + na) + nb) + nd) + 7) / 8))), .val (.ref t6), .unset]) rfl (q := 160) rfl ?_
    refine s_aload X hx (hb hby at_160) rfl rfl (q := 162) rfl ?_
    refine s_bipush X hx (z := (9 : Int32)) (hb hby at_162) rfl (q := 164) rfl ?_
    refine s_iload X hx (hb hby at_164) rfl (q := 166) rfl ?_
    refine s_iload X hx (hb hby at_166) rfl (q := 168) rfl ?_
    refine s_iload X hx (hb hby at_168) rfl (q := 170) rfl ?_
    refine s_iload X hx (hb hby at_170) rfl (q := 172) rfl ?_
    refine s_iload X hx (hb hby at_172) rfl (q := 174) rfl ?_
    refine s_iload X hx (hb hby at_174) rfl (q := 176) rfl ?_
    refine callP X hx hZ hown (W := 0) (argsL := [(.ref t6), (.int (9 : Int32)), (.int (Int32.ofNat v1)), (.int (Int32.ofNat na)), (.int (Int32.ofNat v2)), (.int (Int32.ofNat nb)), (.int (Int32.ofNat v3)), (.int (Int32.ofNat nd))]) (rest := []) (hw _ (List.mem_of_getElem? (i := 36) rfl)) (hw _ (List.mem_of_getElem? (i := 37) rfl)) (hw _ (List.mem_of_getElem? (i := 38) rfl)) (hw _ (List.mem_of_getElem? (i := 39) rfl)) (by decide) (rm6 l Z a0 hw [] t6 (9 : Int32) (Int32.ofNat v1) (Int32.ofNat na) (Int32.ofNat v2) (Int32.ofNat nb) (Int32.ofNat v3) (Int32.ofNat nd) (fb (((0 <<< na ||| v1) <<< nb ||| v2) <<< nd ||| v3) (((0 + na) + nb) + nd)) h14 A_t6) rfl rfl eT (by decide) (by decide) (by decide) (by decide) (by rw [hml]; rfl) pd6 rfl rfl (Nat.le_of_ble_eq_true rfl) (hb hby at_176) (q := 179) rfl ?_
    intro T X eT
    generalize hdn : (F6 (9 : Int32) (Int32.ofNat v1) (Int32.ofNat na) (Int32.ofNat v2) (Int32.ofNat nb) (Int32.ofNat v3) (Int32.ofNat nd) (fb (((0 <<< na ||| v1) <<< nb ||| v2) <<< nd ||| v3) (((0 + na) + nb) + nd))) = dn
    refine s_istore X hx (hb hby at_179) (L' := #[.val (.int x0), .val (.int x1), .val (.int x2), .val (.int x3), .val (.int (Int32.ofNat na)), .val (.int (Int32.ofNat nb)), .val (.int (Int32.ofNat nd)), .val (.int (Int32.ofNat v1)), .val (.int (Int32.ofNat v2)), .val (.int (Int32.ofNat v3)), .val (.int (Int32.ofNat (((0 + na) + nb) + nd))), .val (.ref a1), .val (.ref t6), .val (.int eg), .val (.int (Int32.ofNat (((((0 + na) + nb) + nd) + 7) / 8))), .val (.ref t6), .val (.int dn)]) rfl (q := 181) rfl ?_
    have hg2 : dn = 1 := hdn.symm.trans (own_all _ _ _ _ _ _ _ _ (fun k hk => own_one v1 v2 v3 na nb nd k 9 _ hv1 hv2 hv3 hv1' hv2' hv3' hna hnb hnd hk (by omega) (fun q => own_fb255 _ _ k) (fun q => absurd (Nat.lt_succ_of_le hk) q)))
    refine s_iload X hx (hb hby at_181) rfl (q := 183) rfl ?_
    refine f_if_eq X hx (hb hby at_183) (q1 := 208) (by decide) (by decide) (q := 186) rfl (fun hq => absurd hq (by rw [hg1]; decide : ¬ eg = 0)) (fun _ => ?_)
    refine s_iload X hx (hb hby at_186) rfl (q := 188) rfl ?_
    refine f_if_eq X hx (hb hby at_188) (q1 := 208) (by decide) (by decide) (q := 191) rfl (fun hq => absurd hq (by rw [hg2]; decide : ¬ dn = 0)) (fun _ => ?_)
    refine s_iload X hx (hb hby at_191) rfl (q := 193) rfl ?_
    refine s_iload X hx (hb hby at_193) rfl (q := 195) rfl ?_
    refine s_bipush X hx (z := (7 : Int32)) (hb hby at_195) rfl (q := 197) rfl ?_
    refine s_iadd X hx (hb hby at_197) (q := 198) rfl ?_
    rw [show (7 : Int32) = Int32.ofNat 7 from rfl, o_add (by omega)]
    refine s_bipush X hx (z := (8 : Int32)) (hb hby at_198) rfl (q := 200) rfl ?_
    refine s_idiv X hx (hb hby at_200) (by decide) (q := 201) rfl ?_
    rw [o_div8 _ (by omega)]
    refine f_icmp_ne X hx (hb hby at_201) (q1 := 208) (by decide) (by decide) (q := 204) rfl (fun hq => absurd (rfl : (Int32.ofNat (((((0 + na) + nb) + nd) + 7) / 8)) = (Int32.ofNat (((((0 + na) + nb) + nd) + 7) / 8))) hq) (fun _ => ?_)
    refine s_iconst X hx (z := (1 : Int32)) (hb hby at_204) rfl (q := 205) rfl ?_
    refine s_goto X hx (hb hby at_205) (q1 := 209) (by decide) (by decide) ?_
    exact leafN X hx hlk hret (by simp) (hb hby at_209) (by decide) (by decide) (z' := 1) rfl ⟨rfl, N⟩
set_option maxRecDepth 65536 in
set_option maxHeartbeats 40000000 in
theorem comes_1 {Post : Tables → Env → Array Value → State → Outcome → State → Prop} (hpost : ∀ tb e args s v u, (limb_1_1.after args s (.returned v) u = true ∧ limb_1_2.after args s (.returned v) u = true ∧ True) → FrameEnd s (.returned v) u (Jvm.fieldLocs frame_1_writes args s ++ Jvm.arrayLocs frame_1_arrays args s ++ Jvm.staticLocs frame_1_statics s) 16 640 → Post tb e args s (.returned v) u) :
    ArmFor flags0 classFile x code maxLocals ret World_1 tables_1 room_1 Calls_1 rest_1 Pre_1 Post := by
  intro l hfl _ _ p e ha hc hk s m args below hf hA hF happ hP
  obtain ⟨hcalls, hrest, hpre⟩ := hP
  obtain ⟨-, -, -, hnamed, -, -, -, hat⟩ := (Spec.applies_iff hf).mp happ
  obtain ⟨hg, hn⟩ := and_e (Cond.before_iff.mp (show (Jvm.Cond.and given_1 narrow_1).before args s = true from hpre))
  obtain ⟨g1, g2⟩ := and_e hg
  obtain ⟨g3, g4⟩ := and_e g2
  obtain ⟨g5, g6⟩ := and_e g4
  obtain ⟨g7, g8⟩ := and_e g6
  obtain ⟨w0, w1, w2, w3, rfl⟩ : ∃ w0 w1 w2 w3 : Value, args = #[w0, w1, w2, w3] := by
    have hs : args.size = 4 := by simpa [Cond.value, given_1] using g1
    obtain ⟨L⟩ := args
    match L, hs with
    | [w0, w1, w2, w3], _ => exact ⟨w0, w1, w2, w3, rfl⟩
  have hw := fun d (hd : d ∈ tables_1) => atoms_spec (ws := Jvm.Cond.code x code maxLocals ret :: tables_1) hat d (List.mem_cons_of_mem _ hd)
  obtain ⟨i0, ei0⟩ := is_v g3
  obtain rfl : w0 = (.int i0) := Option.some.inj ei0
  obtain ⟨i1, ei1⟩ := is_v g5
  obtain rfl : w1 = (.int i1) := Option.some.inj ei1
  obtain ⟨i2, ei2⟩ := is_v g7
  obtain rfl : w2 = (.int i2) := Option.some.inj ei2
  obtain ⟨i3, ei3⟩ := is_v g8
  obtain rfl : w3 = (.int i3) := Option.some.inj ei3
  obtain ⟨n, o, h1, h2, h3, _, L, rfl, ⟨rfl, N⟩, hq⟩ := rm0 l s _ hw tables_1 i0 i1 i2 i3 s.heap s.heap.size (Nat.le_refl _) p e ha hc hk s m _ below hf ((Spec.applies_iff_loose hf).mp happ).1 ⟨rfl, State.Warmed39.refl s, rfl⟩ trivial
  refine ⟨n, _, h1, h2, h3, hpost _ _ _ _ _ _ ⟨Cond.after_iff.mpr rfl, Cond.after_iff.mpr (eq_i res_at (Term.int_eval (1)) rfl), trivial⟩ ⟨hq.1, hq.2.1, (hq.2.2.sift fun y hy => Or.inr (N y hy)).mono (by decide) (by decide)⟩⟩
theorem main_1_1 : Claimed_1_1 := comes_1 fun _ _ _ _ _ _ h hF => ⟨h.1, hF⟩
theorem main_1_2 : Claimed_1_2 := comes_1 fun _ _ _ _ _ _ h hF => ⟨h.2.1, hF⟩
end Jvm.Pilot.@@N@@
namespace Jvm.Pilot.@@N@@
open Jvm Jvm.ClassFile Sem Op Lib Jvm.Free Jvm.Stand Jvm.Pilot.@@N@@.Jvm.D
/-! MADE BY PROGRAM (witnessworld.py) out of the Statement's table words and the real class files: 9 classes; the members and pool entries that the words name. The judged class is class 1, her method 1. -/
namespace start1
open Jvm.ClassFile
def u (s : String) : CpInfo := .utf8 (stringToUtf16 s)
/-- a pool by its gaps: so many unusable entries, then the entry; so many at the end -/
def gap : Nat → List CpInfo → List CpInfo
  | 0, r => r
  | n + 1, r => .unusable :: gap n r
def poolList (es : List (Nat × CpInfo)) (last : Nat) : List CpInfo := es.foldr (fun e r => gap e.1 (e.2 :: r)) (gap last [])
def pool (es : List (Nat × CpInfo)) (last : Nat) : Array CpInfo := ⟨poolList es last⟩
def fileOf (pool : Array CpInfo) (this : Nat) (attrs : Array Attribute := #[]) (ms : Array MethodInfo := #[]) (fl : Nat := 33) (sup : Nat := 0) (ifs : Array Nat := #[]) (fds : Array FieldInfo := #[]) : ClassFile where
  minorVersion := 0
  majorVersion := 65
  constantPool := pool
  accessFlags := fl
  thisClass := this
  superClass := sup
  interfaces := ifs
  fields := fds
  methods := ms
  attributes := attrs
def plain (name : String) (sup : Option ClassId) : Class where
  name := name
  kind := .ordinary
  loader := none
  accessFlags := 33
  super := sup
  interfaces := #[]
  cf := none
  fields := #[]
  methods := #[]
  instanceTypes := #[]
  staticTypes := #[]
  resolved := #[]
  callSites := []
  init := .initialized
  statics := none
  mirror := none

def pool0 : Array CpInfo := pool [(5, u "<init>"), (0, u "()V"), (1, .class_ 10), (1, u "java/lang/Object")] 113

def k0c0 : Code := { maxStack := 0, maxLocals := 1, code := object_method_1_code, exceptionTable := #[], attributes := #[] }
def k0m0 : Method := { name := "<init>", desc := "()V", sig := { parameters := [], returnType := none }, accessFlags := 1, code := some k0c0 }
/-- java/lang/Object -/
def k0 : Class := { plain "java/lang/Object" none with
  accessFlags := 33
  interfaces := #[]
  cf := some (fileOf pool0 8 #[] #[{ accessFlags := 1, nameIndex := 5, descriptorIndex := 6, attributes := #[] }] 33 0 #[] #[])
  fields := #[]
  methods := #[k0m0]
  instanceTypes := #[]
  staticTypes := #[]
  resolved := Array.replicate 124 none
  statics := none }

def pool1 : Array CpInfo := pool [(2, .class_ 4), (0, .nameAndType 5 6), (0, u "java/lang/Object"), (0, u "<init>"), (0, u "()V"), (0, .class_ 8), (0, u "com/example/tallytree/tallytree/BitWriter"), (0, .methodref 7 3), (0, .methodref 7 11), (0, .nameAndType 12 13), (0, u "reset"), (0, u "(I)V"), (0, .methodref 7 15), (0, .nameAndType 16 17), (0, u "write"), (0, u "(II)V"), (0, .methodref 7 19), (0, .nameAndType 20 21), (0, u "bytes"), (0, u "()[B"), (0, .methodref 23 24), (0, .class_ 25), (0, .nameAndType 26 27), (0, u "com/example/tallytree/tallytree/BitWriterWritePinLaw"), (0, u "all"), (0, u "([BIIIIIII)Z"), (0, .methodref 7 29), (0, .nameAndType 30 31), (0, u "finish"), (0, u "()I"), (0, .methodref 23 33), (0, .nameAndType 34 35), (0, u "one"), (0, u "([BIIIIIIII)Z"), (0, .methodref 23 37), (0, .nameAndType 38 39), (0, u "part"), (0, u "(IIII)I"), (2, u "law"), (0, u "(IIII)Z")] 5

def k1m0 : Method := { name := "<init>", desc := "()V", sig := { parameters := [], returnType := none }, accessFlags := 2, code := none }
def k1c1 : Code := { maxStack := 8, maxLocals := 17, code := code, exceptionTable := #[], attributes := #[] }
def k1m1 : Method := { name := "law", desc := "(IIII)Z", sig := { parameters := [.int, .int, .int, .int], returnType := some .boolean }, accessFlags := 9, code := some k1c1 }
def k1c2 : Code := { maxStack := 9, maxLocals := 8, code := method_3_code, exceptionTable := #[], attributes := #[] }
def k1m2 : Method := { name := "all", desc := "([BIIIIIII)Z", sig := { parameters := [(.array .byte), .int, .int, .int, .int, .int, .int, .int], returnType := some .boolean }, accessFlags := 10, code := some k1c2 }
def k1c3 : Code := { maxStack := 5, maxLocals := 10, code := method_4_code, exceptionTable := #[], attributes := #[] }
def k1m3 : Method := { name := "one", desc := "([BIIIIIIII)Z", sig := { parameters := [(.array .byte), .int, .int, .int, .int, .int, .int, .int, .int], returnType := some .boolean }, accessFlags := 10, code := some k1c3 }
def k1c4 : Code := { maxStack := 3, maxLocals := 5, code := method_5_code, exceptionTable := #[], attributes := #[] }
def k1m4 : Method := { name := "part", desc := "(IIII)I", sig := { parameters := [.int, .int, .int, .int], returnType := some .int }, accessFlags := 10, code := some k1c4 }
/-- com/example/tallytree/tallytree/BitWriterWritePinLaw -/
def k1 : Class := { plain "com/example/tallytree/tallytree/BitWriterWritePinLaw" (some 0) with
  accessFlags := 49
  interfaces := #[]
  cf := some (fileOf pool1 23 #[] #[{ accessFlags := 2, nameIndex := 5, descriptorIndex := 6, attributes := #[] }, { accessFlags := 9, nameIndex := 42, descriptorIndex := 43, attributes := #[] }, { accessFlags := 10, nameIndex := 26, descriptorIndex := 27, attributes := #[] }, { accessFlags := 10, nameIndex := 34, descriptorIndex := 35, attributes := #[] }, { accessFlags := 10, nameIndex := 38, descriptorIndex := 39, attributes := #[] }] 49 2 #[] #[])
  fields := #[]
  methods := #[k1m0, k1m1, k1m2, k1m3, k1m4]
  instanceTypes := #[]
  staticTypes := #[]
  resolved := Array.replicate 49 none
  statics := none }

def pool2 : Array CpInfo := pool [(1, .class_ 2), (0, u "com/example/tallytree/tallytree/BitWriter"), (0, .methodref 4 5), (0, .class_ 6), (0, .nameAndType 7 8), (0, u "java/lang/Object"), (0, u "<init>"), (0, u "()V"), (0, .fieldref 1 10), (0, .nameAndType 11 12), (0, u "bytes"), (0, u "[B"), (2, .fieldref 1 16), (0, .nameAndType 17 18), (0, u "entries"), (0, u "[I"), (2, .fieldref 1 22), (0, .nameAndType 23 24), (0, u "next"), (0, u "I"), (0, .fieldref 1 26), (0, .nameAndType 27 28), (0, u "pending"), (0, u "J"), (0, .fieldref 1 30), (0, .nameAndType 31 24), (0, u "pendingBits"), (13, u "BIG_ENDIAN_LONG"), (0, u "Ljava/lang/invoke/VarHandle;"), (20, u "CODEWORDS_PER_STORE"), (2, u "LENGTH_BITS"), (1, u "LENGTH_MASK"), (3, u "reset"), (0, u "(I)V"), (1, u "write"), (0, u "(II)V"), (4, u "finish"), (0, u "()I"), (0, u "()[B")] 3

def k2c0 : Code := { maxStack := 2, maxLocals := 1, code := prog_9_method_1_code, exceptionTable := #[], attributes := #[] }
def k2m0 : Method := { name := "<init>", desc := "()V", sig := { parameters := [], returnType := none }, accessFlags := 0, code := some k2c0 }
def k2c1 : Code := { maxStack := 3, maxLocals := 2, code := prog_9_method_2_code, exceptionTable := #[], attributes := #[] }
def k2m1 : Method := { name := "reset", desc := "(I)V", sig := { parameters := [.int], returnType := none }, accessFlags := 0, code := some k2c1 }
def k2c2 : Code := { maxStack := 5, maxLocals := 3, code := prog_9_method_3_code, exceptionTable := #[], attributes := #[] }
def k2m2 : Method := { name := "write", desc := "(II)V", sig := { parameters := [.int, .int], returnType := none }, accessFlags := 0, code := some k2c2 }
def k2c3 : Code := { maxStack := 6, maxLocals := 1, code := prog_9_method_5_code, exceptionTable := #[], attributes := #[] }
def k2m3 : Method := { name := "finish", desc := "()I", sig := { parameters := [], returnType := some .int }, accessFlags := 0, code := some k2c3 }
def k2c4 : Code := { maxStack := 1, maxLocals := 1, code := prog_9_method_6_code, exceptionTable := #[], attributes := #[] }
def k2m4 : Method := { name := "bytes", desc := "()[B", sig := { parameters := [], returnType := some (.array .byte) }, accessFlags := 0, code := some k2c4 }
/-- com/example/tallytree/tallytree/BitWriter -/
def k2 : Class := { plain "com/example/tallytree/tallytree/BitWriter" (some 0) with
  accessFlags := 48
  interfaces := #[]
  cf := some (fileOf pool2 1 #[] #[{ accessFlags := 0, nameIndex := 7, descriptorIndex := 8, attributes := #[] }, { accessFlags := 0, nameIndex := 76, descriptorIndex := 77, attributes := #[] }, { accessFlags := 0, nameIndex := 79, descriptorIndex := 80, attributes := #[] }, { accessFlags := 0, nameIndex := 85, descriptorIndex := 86, attributes := #[] }, { accessFlags := 0, nameIndex := 11, descriptorIndex := 87, attributes := #[] }] 48 4 #[] #[{ accessFlags := 26, nameIndex := 45, descriptorIndex := 46, attributes := #[] }, { accessFlags := 26, nameIndex := 67, descriptorIndex := 24, attributes := #[] }, { accessFlags := 26, nameIndex := 70, descriptorIndex := 24, attributes := #[] }, { accessFlags := 26, nameIndex := 72, descriptorIndex := 24, attributes := #[] }, { accessFlags := 2, nameIndex := 11, descriptorIndex := 12, attributes := #[] }, { accessFlags := 2, nameIndex := 23, descriptorIndex := 24, attributes := #[] }, { accessFlags := 2, nameIndex := 27, descriptorIndex := 28, attributes := #[] }, { accessFlags := 2, nameIndex := 31, descriptorIndex := 24, attributes := #[] }, { accessFlags := 18, nameIndex := 17, descriptorIndex := 18, attributes := #[] }])
  fields := #[{ name := "BIG_ENDIAN_LONG", type := (.object "java/lang/invoke/VarHandle"), accessFlags := 26, slot := 0, constantValue := 0 }, { name := "CODEWORDS_PER_STORE", type := .int, accessFlags := 26, slot := 1, constantValue := 0 }, { name := "LENGTH_BITS", type := .int, accessFlags := 26, slot := 2, constantValue := 0 }, { name := "LENGTH_MASK", type := .int, accessFlags := 26, slot := 3, constantValue := 0 }, { name := "bytes", type := (.array .byte), accessFlags := 2, slot := 0, constantValue := 0 }, { name := "next", type := .int, accessFlags := 2, slot := 1, constantValue := 0 }, { name := "pending", type := .long, accessFlags := 2, slot := 2, constantValue := 0 }, { name := "pendingBits", type := .int, accessFlags := 2, slot := 3, constantValue := 0 }, { name := "entries", type := (.array .int), accessFlags := 18, slot := 4, constantValue := 0 }]
  methods := #[k2m0, k2m1, k2m2, k2m3, k2m4]
  instanceTypes := #[(.array .byte), .int, .long, .int, (.array .int)]
  staticTypes := #[(.object "java/lang/invoke/VarHandle"), .int, .int, .int]
  resolved := Array.replicate 91 none
  statics := none }

def pool3 : Array CpInfo := pool [(1, u "java/lang/Cloneable"), (0, .class_ 1), (0, u "java/lang/Object"), (0, .class_ 3)] 3

/-- java/lang/Cloneable -/
def k3 : Class := { plain "java/lang/Cloneable" (some 0) with
  accessFlags := 1537
  interfaces := #[]
  cf := some (fileOf pool3 2 #[] #[] 1537 4 #[] #[])
  fields := #[]
  methods := #[]
  instanceTypes := #[]
  staticTypes := #[]
  resolved := Array.replicate 8 none
  statics := none }

def pool4 : Array CpInfo := pool [(1, u "java/io/Serializable"), (0, .class_ 1), (0, u "java/lang/Object"), (0, .class_ 3)] 3

/-- java/io/Serializable -/
def k4 : Class := { plain "java/io/Serializable" (some 0) with
  accessFlags := 1537
  interfaces := #[]
  cf := some (fileOf pool4 2 #[] #[] 1537 4 #[] #[])
  fields := #[]
  methods := #[]
  instanceTypes := #[]
  staticTypes := #[]
  resolved := Array.replicate 8 none
  statics := none }

/-- the primitive byte -/
def k5 : Class := { plain "byte" none with kind := .primitive 'B', accessFlags := 0x411 }
/-- [B -/
def k6 : Class := { plain "[B" (some 0) with kind := .array 5 .byte, interfaces := #[3, 4], accessFlags := 1041 }

/-- the primitive int -/
def k7 : Class := { plain "int" none with kind := .primitive 'I', accessFlags := 0x411 }
/-- [I -/
def k8 : Class := { plain "[I" (some 0) with kind := .array 7 .int, interfaces := #[3, 4], accessFlags := 1041 }

def heap : Heap := #[]
def classes : Array Class := #[k0, k1, k2, k3, k4, k5, k6, k7, k8]
def interned : List (Array UInt16 × Addr) := []
def slotsUsed : Nat := 0
def theMethod : MethodId := ⟨1, 1⟩
def args0 : Array Value := #[.int 5, .int 7, .int 20, .int 9]
def aboutOver (below : List Frame) : State where
  vm := { classes := classes, interned := interned.toArray }
  heap := heap
  slotsUsed := slotsUsed
  threads := #[{ frames := .invoking theMethod args0 :: below }]
def below0 : List Frame := [.native { method := ⟨0, 0⟩, args := #[] }]
def about1 : State := aboutOver below0
def p0 : Program := .bare "" "" ""
def e0 : Env := launch0.env 0 0 0
theorem w_frames : about1.frames = Frame.invoking theMethod args0 :: below0 := rfl
set_option maxRecDepth 65536 in
theorem w_args : argsFit about1.vm theMethod args0 = true := by decide +kernel
set_option maxRecDepth 65536 in
theorem w_heap : heapFits about1 = true := by decide +kernel
set_option maxRecDepth 65536 in
theorem w_runnable : about1.curStatus? = some .runnable := by decide +kernel
set_option maxRecDepth 65536 in
theorem w_alone : about1.alone = true := by decide +kernel
set_option maxRecDepth 65536 in
theorem w_named : about1.methodNamed? x = some theMethod := by decide +kernel
set_option maxRecDepth 65536 in
theorem w_hears : about1.hears theMethod below0 = true := by decide +kernel
set_option maxRecDepth 65536 in
theorem w_ripe : about1.ripe theMethod args0 below0 = true := by decide +kernel
theorem w_running : about1.status = .running := rfl
set_option maxRecDepth 65536 in
theorem w_room : about1.hasRoom e0.platform room_1 = true :=
  launch0.hasRoom_least _ room_1 (by decide +kernel) (by decide +kernel) (by decide +kernel) (by decide +kernel) (by decide +kernel) (by decide +kernel)
theorem allAtoms_all (ts : List Jvm.Cond) (a : Array Jvm.Value) (st : Jvm.State) : (allAtoms ts).before a st = ts.all (fun c => c.before a st) := by
  induction ts with
  | nil => rfl
  | cons c t ih =>
    show (Jvm.Cond.and c (allAtoms t)).before a st = _
    rw [Jvm.Cond.before_and, ih, List.all_cons]
def words1 : List Jvm.Cond := Jvm.Cond.code x code maxLocals ret :: tables_1
/-- a 'code' word, met by the world's own term for the bytes: nothing is compared byte by byte -/
theorem code_word {y : MethodName} {bytes : ByteArray} {mx : Nat} {rt : Option FieldType} {a : Array Value} {s : State} {m : MethodId} {meth : Method} {c : Code} (h1 : s.methodNamed? y = some m) (h2 : s.vm.method? m = some meth) (h3 : meth.code = some c) (h4 : c.code = bytes)
    (h5 : (c.maxLocals == mx && c.exceptionTable.isEmpty && decide (c.maxStack ≤ mostOperands) && decide (meth.sig.returnType = rt) && !meth.locks && decide (parseMethodDescriptor y.desc = some meth.sig)) = true) : (Jvm.Cond.code y bytes mx rt).before a s = true := by
  simp only [Bool.and_eq_true, beq_iff_eq, Bool.not_eq_true', decide_eq_true_eq] at h5
  obtain ⟨⟨⟨⟨⟨g1, g2⟩, g3⟩, g4⟩, g5⟩, g6⟩ := h5
  simp [Cond.before, Cond.holds, Cond.value, h1, h2, h3, h4, g1, g2, g3, g4, g5, g6]
def isCode : Jvm.Cond → Bool
  | .code _ _ _ _ => true
  | _ => false
theorem all_split {L : List Jvm.Cond} {P : Jvm.Cond → Bool} (h1 : L.all (fun c => isCode c || P c) = true) (h2 : ∀ c ∈ L.filter isCode, P c = true) : L.all P = true := by
  refine List.all_eq_true.mpr fun c hc => ?_
  have h := List.all_eq_true.mp h1 c hc
  rcases Bool.eq_false_or_eq_true (isCode c) with hi | hi
  · exact h2 c (List.mem_filter.mpr ⟨hc, hi⟩)
  · simpa [hi] using h
set_option maxRecDepth 65536 in
theorem w_c0 : (Jvm.Cond.code x code maxLocals ret).before args0 about1 = true := code_word (m := ⟨1, 1⟩) (meth := k1m1) (c := k1c1) (by decide +kernel) rfl rfl rfl (by decide +kernel)
set_option maxRecDepth 65536 in
theorem w_c1 : (Jvm.Cond.code ({ cls := "com/example/tallytree/tallytree/BitWriter", name := "<init>", desc := "()V" } : Jvm.MethodName) prog_9_method_1_code (1 : Nat) (Option.none : Option Jvm.ClassFile.FieldType)).before args0 about1 = true := code_word (m := ⟨2, 0⟩) (meth := k2m0) (c := k2c0) (by decide +kernel) rfl rfl rfl (by decide +kernel)
set_option maxRecDepth 65536 in
theorem w_c2 : (Jvm.Cond.code ({ cls := "java/lang/Object", name := "<init>", desc := "()V" } : Jvm.MethodName) object_method_1_code (1 : Nat) (Option.none : Option Jvm.ClassFile.FieldType)).before args0 about1 = true := code_word (m := ⟨0, 0⟩) (meth := k0m0) (c := k0c0) (by decide +kernel) rfl rfl rfl (by decide +kernel)
set_option maxRecDepth 65536 in
theorem w_c3 : (Jvm.Cond.code ({ cls := "com/example/tallytree/tallytree/BitWriter", name := "reset", desc := "(I)V" } : Jvm.MethodName) prog_9_method_2_code (2 : Nat) (Option.none : Option Jvm.ClassFile.FieldType)).before args0 about1 = true := code_word (m := ⟨2, 1⟩) (meth := k2m1) (c := k2c1) (by decide +kernel) rfl rfl rfl (by decide +kernel)
set_option maxRecDepth 65536 in
theorem w_c4 : (Jvm.Cond.code ({ cls := "com/example/tallytree/tallytree/BitWriter", name := "write", desc := "(II)V" } : Jvm.MethodName) prog_9_method_3_code (3 : Nat) (Option.none : Option Jvm.ClassFile.FieldType)).before args0 about1 = true := code_word (m := ⟨2, 2⟩) (meth := k2m2) (c := k2c2) (by decide +kernel) rfl rfl rfl (by decide +kernel)
set_option maxRecDepth 65536 in
theorem w_c5 : (Jvm.Cond.code ({ cls := "com/example/tallytree/tallytree/BitWriter", name := "bytes", desc := "()[B" } : Jvm.MethodName) prog_9_method_6_code (1 : Nat) (Option.some (Jvm.ClassFile.FieldType.array Jvm.ClassFile.FieldType.byte))).before args0 about1 = true := code_word (m := ⟨2, 4⟩) (meth := k2m4) (c := k2c4) (by decide +kernel) rfl rfl rfl (by decide +kernel)
set_option maxRecDepth 65536 in
theorem w_c6 : (Jvm.Cond.code ({ cls := "com/example/tallytree/tallytree/BitWriterWritePinLaw", name := "all", desc := "([BIIIIIII)Z" } : Jvm.MethodName) method_3_code (8 : Nat) (Option.some Jvm.ClassFile.FieldType.boolean)).before args0 about1 = true := code_word (m := ⟨1, 2⟩) (meth := k1m2) (c := k1c2) (by decide +kernel) rfl rfl rfl (by decide +kernel)
set_option maxRecDepth 65536 in
theorem w_c7 : (Jvm.Cond.code ({ cls := "com/example/tallytree/tallytree/BitWriterWritePinLaw", name := "one", desc := "([BIIIIIIII)Z" } : Jvm.MethodName) method_4_code (10 : Nat) (Option.some Jvm.ClassFile.FieldType.boolean)).before args0 about1 = true := code_word (m := ⟨1, 3⟩) (meth := k1m3) (c := k1c3) (by decide +kernel) rfl rfl rfl (by decide +kernel)
set_option maxRecDepth 65536 in
theorem w_c8 : (Jvm.Cond.code ({ cls := "com/example/tallytree/tallytree/BitWriter", name := "finish", desc := "()I" } : Jvm.MethodName) prog_9_method_5_code (1 : Nat) (Option.some Jvm.ClassFile.FieldType.int)).before args0 about1 = true := code_word (m := ⟨2, 3⟩) (meth := k2m3) (c := k2c3) (by decide +kernel) rfl rfl rfl (by decide +kernel)
set_option maxRecDepth 65536 in
theorem w_c9 : (Jvm.Cond.code ({ cls := "com/example/tallytree/tallytree/BitWriterWritePinLaw", name := "part", desc := "(IIII)I" } : Jvm.MethodName) method_5_code (5 : Nat) (Option.some Jvm.ClassFile.FieldType.int)).before args0 about1 = true := code_word (m := ⟨1, 4⟩) (meth := k1m4) (c := k1c4) (by decide +kernel) rfl rfl rfl (by decide +kernel)
def codes1 : List Jvm.Cond := [Jvm.Cond.code x code maxLocals ret, Jvm.Cond.code ({ cls := "com/example/tallytree/tallytree/BitWriter", name := "<init>", desc := "()V" } : Jvm.MethodName) prog_9_method_1_code (1 : Nat) (Option.none : Option Jvm.ClassFile.FieldType), Jvm.Cond.code ({ cls := "java/lang/Object", name := "<init>", desc := "()V" } : Jvm.MethodName) object_method_1_code (1 : Nat) (Option.none : Option Jvm.ClassFile.FieldType), Jvm.Cond.code ({ cls := "com/example/tallytree/tallytree/BitWriter", name := "reset", desc := "(I)V" } : Jvm.MethodName) prog_9_method_2_code (2 : Nat) (Option.none : Option Jvm.ClassFile.FieldType), Jvm.Cond.code ({ cls := "com/example/tallytree/tallytree/BitWriter", name := "write", desc := "(II)V" } : Jvm.MethodName) prog_9_method_3_code (3 : Nat) (Option.none : Option Jvm.ClassFile.FieldType), Jvm.Cond.code ({ cls := "com/example/tallytree/tallytree/BitWriter", name := "bytes", desc := "()[B" } : Jvm.MethodName) prog_9_method_6_code (1 : Nat) (Option.some (Jvm.ClassFile.FieldType.array Jvm.ClassFile.FieldType.byte)), Jvm.Cond.code ({ cls := "com/example/tallytree/tallytree/BitWriterWritePinLaw", name := "all", desc := "([BIIIIIII)Z" } : Jvm.MethodName) method_3_code (8 : Nat) (Option.some Jvm.ClassFile.FieldType.boolean), Jvm.Cond.code ({ cls := "com/example/tallytree/tallytree/BitWriterWritePinLaw", name := "one", desc := "([BIIIIIIII)Z" } : Jvm.MethodName) method_4_code (10 : Nat) (Option.some Jvm.ClassFile.FieldType.boolean), Jvm.Cond.code ({ cls := "com/example/tallytree/tallytree/BitWriter", name := "finish", desc := "()I" } : Jvm.MethodName) prog_9_method_5_code (1 : Nat) (Option.some Jvm.ClassFile.FieldType.int), Jvm.Cond.code ({ cls := "com/example/tallytree/tallytree/BitWriterWritePinLaw", name := "part", desc := "(IIII)I" } : Jvm.MethodName) method_5_code (5 : Nat) (Option.some Jvm.ClassFile.FieldType.int)]
set_option maxRecDepth 65536 in
theorem codes_eq : words1.filter isCode = codes1 := rfl
theorem w_codes : ∀ c ∈ words1.filter isCode, c.before args0 about1 = true := by
  rw [codes_eq]
  intro c hc
  simp only [codes1, List.mem_cons, List.not_mem_nil, or_false] at hc
  rcases hc with rfl | rfl | rfl | rfl | rfl | rfl | rfl | rfl | rfl | rfl
  · exact w_c0
  · exact w_c1
  · exact w_c2
  · exact w_c3
  · exact w_c4
  · exact w_c5
  · exact w_c6
  · exact w_c7
  · exact w_c8
  · exact w_c9
set_option maxRecDepth 65536 in
theorem w_t1 : (words1.take 24).all (fun c => isCode c || c.before args0 about1) = true := by decide +kernel
set_option maxRecDepth 65536 in
theorem w_t2 : ((words1.drop 24).take 24).all (fun c => isCode c || c.before args0 about1) = true := by decide +kernel
set_option maxRecDepth 65536 in
theorem w_t3 : ((words1.drop 24).drop 24).all (fun c => isCode c || c.before args0 about1) = true := by decide +kernel
theorem w_tables : (allAtoms (Jvm.Cond.code x code maxLocals ret :: tables_1)).before args0 about1 = true := by
  rw [allAtoms_all]
  show words1.all (fun c => c.before args0 about1) = true
  refine all_split ?_ w_codes
  rw [← List.take_append_drop 24 words1, List.all_append, w_t1, ← List.take_append_drop 24 (words1.drop 24), List.all_append, w_t2, w_t3]
  rfl
set_option maxRecDepth 65536 in
theorem w_case : (Jvm.Cond.and given_1 narrow_1).before args0 about1 = true := by decide +kernel
theorem w_applies : (headSpec (Jvm.Cond.code x code maxLocals ret :: tables_1) room_1).applies x e0.platform about1 = true :=
  (Spec.applies_iff w_frames).mpr ⟨w_running, w_runnable, w_alone, w_named, w_hears, w_ripe, w_room, w_tables⟩
theorem atStart : AtStart classFile x code maxLocals ret World_1 tables_1 room_1 Calls_1 rest_1 Pre_1 launch0 p0 e0 about1 theMethod args0 below0 :=
  ⟨lists_1, trivial, launch0.admits_env _ _ _, launch0.least_env, fairChoices_fair.cas, fairChoices_fair.clock, w_frames, w_args, w_heap, w_applies, trivial, trivial, w_case⟩
end start1
theorem witness_1 : WitnessClaimed_1 := ⟨start1.p0, start1.e0, start1.about1, start1.theMethod, start1.args0, start1.below0, start1.atStart⟩
end Jvm.Pilot.@@N@@
