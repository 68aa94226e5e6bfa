import JvmDerived
import JvmDerived.Pilot.@@N@@Statement
import JvmDerived.Pilot.@@N@@Code
set_option linter.unusedVariables false
set_option linter.unusedSimpArgs false
namespace Jvm.RoadKit
open Sem ClassFile Op Lib Jvm.Stand Jvm.Free Jvm.LawKit
section New
variable {p : Program} {l : Launch} {e : Env} {R : Room} {s : State} {m : MethodId} {args : Array Value} {below : List Frame} {meth : Method} {c : Code} {T : State} {locs : List Loc} {cells slots : Nat}
theorem retI (X : Stand p l e R s m args below meth c T locs cells slots) (hx : p.tables.exec = Jvm.exec) {pc : Nat} {Ls : Array Slot} {z : Int32} {rest : List Value} (hret : meth.sig.returnType = some .int) (hd : decode c.code pc = .ok (.ireturn, 1)) {fs : List Frame}
    (hl : ∀ (f : JFrame) (acts : List Action), f.method = m → f.locked = none → f.entered = [] → (doReturn e (T.setTop f) acts (some (.int z))).1 = T.setFrames fs) : Steps p.tables e below (T.setTop (mkF m pc Ls (.int z :: rest))) (T.setFrames fs) := by
  have hm' : T.vm.method? m = some meth := X.method'
  have hn : narrow .int (.int z) = .int z := rfl
  show Steps p.tables e below (T.setTop { method := m, pc := pc, locals := Ls, stack := _ :: rest, locked := none }) _
  jvm_step X.here [X.here.top, hx, hd, hm', hret, hn]
  first | (intro acts; rw [hl _ acts rfl rfl rfl]) | rw [hl _ _ rfl rfl rfl]
  exact Steps.refl _
end New
end Jvm.RoadKit
namespace Jvm.Pilot.@@N@@
open Jvm Jvm.ClassFile Sem Op Lib Jvm.Free Jvm.Stand Jvm.LawKit Jvm.RoadKit Bundle Jvm.Pilot.@@N@@.Jvm.D
section Kit
variable {p : Program} {l : Launch} {e : Env} {R : Room} {s : State} {m : MethodId} {args : Array Value} {below : List Frame} {meth : Method} {c : Code} {T : State} {locs : List Loc} {cells slots : Nat} {G : State → Prop} {L L' : Array Slot} {S : List Value} {pc q q1 : Nat}
/-- from this frame the run comes to a state of which G holds -/
def Go (p : Program) (e : Env) (below : List Frame) (G : State → Prop) (T : State) (m : MethodId) (pc : Nat) (L : Array Slot) (S : List Value) : Prop := ∃ t, Steps p.tables e below (T.setTop (mkF m pc L S)) t ∧ G t
theorem Go.st {T' : State} {m' : MethodId} {pc' : Nat} {S' : List Value} (h : ∀ t, Steps p.tables e below (T'.setTop (mkF m' pc' L' S')) t → Steps p.tables e below (T.setTop (mkF m pc L S)) t) (k : Go p e below G T' m' pc' L' S') : Go p e below G T m pc L S := by
  obtain ⟨t, h1, h2⟩ := k; exact ⟨t, h t h1, h2⟩
theorem jn {T2 : State} {pc2 : Nat} {L2 : Array Slot} {S2 : List Value} (k : Go p e below G T2 m pc2 L2 S2 → Go p e below G T m pc L S) (K : Go p e below G T2 m pc2 L2 S2) : Go p e below G T m pc L S := k K
/-- what a body that returns leaves -/
def Gl (s : State) (below : List Frame) (Q : Option Value → Heap → List Loc → Prop) (C N : Nat) (t : State) : Prop := ∃ o, t.status = .running ∧ Ended t below o ∧ ∃ v L, o = .returned v ∧ Q v t.heap L ∧ FrameEnd s o t L C N
/-- a contract -/
def Ctr (l : Launch) (y : MethodName) (code : ByteArray) (ml : Nat) (ret : Option FieldType) (ws : List Jvm.Cond) (rm : Room) (Z : State) (as' : Array Value) (h0 : Heap) (Q : Option Value → Heap → List Loc → Prop) (C N : Nat) : Prop :=
  MetFree l y (head1 (Jvm.Cond.code y code ml ret :: ws) rm) (fun a U => a = as' ∧ Z.Warmed39 U.vm ∧ U.heap = h0) (fun _ _ _ _ _ => True) (fun _ U o U' => ∃ v L, o = .returned v ∧ Q v U'.heap L ∧ FrameEnd U o U' L C N)
theorem Ctr.mk {y : MethodName} {code : ByteArray} {ml : Nat} {ret : Option FieldType} {ws : List Jvm.Cond} {rm : Room} {Z : State} {as' : Array Value} {h0 : Heap} {Q : Option Value → Heap → List Loc → Prop} {C N : Nat} (hp : plainFor y = true)
    (body : ∀ (p : Program) (e : Env) (s : State) (m : MethodId) (below : List Frame) (meth : Method) (c : Code) (T : State), p.tables.exec = Jvm.exec → c.code = code → c.maxLocals = ml → s.vm.findClass y.cls = some m.cls → meth.name = y.name → meth.locks = false → meth.sig.returnType = ret → Z.Warmed39 s.vm → Stand p l e rm s m as' below meth c T [] 0 0 → T.heap = h0 → ∃ t, Steps p.tables e below (T.setTop (entryFrame m as' ml)) t ∧ Gl s below Q C N t) : Ctr l y code ml ret ws rm Z as' h0 Q C N := by
  refine MetFree.of_bodySF hp hisR ?_
  intro p e s m args below meth c s₁ Bd hml0 hP hK
  obtain ⟨rfl, hZ, hh⟩ := hP
  obtain ⟨t, h1, o, h2, h3, h4⟩ := body p e s m below meth c s₁ Bd.exec Bd.bytes hml0 (findClass_of_methodNamed Bd.named) (name_of_methodNamed Bd.named Bd.method).1 Bd.notSynchronized Bd.returns hZ (Stand.of_body Bd) (by rw [← hh, Bd.state]; rfl)
  exact ⟨t, o, h1, h2, h3, h4⟩
theorem enter {as' : Array Value} {ml : Nat} (q : entryFrame m as' ml = mkF m 0 L []) (k : Go p e below G T m 0 L []) : ∃ t, Steps p.tables e below (T.setTop (entryFrame m as' ml)) t ∧ G t := by
  rw [q]; exact k
theorem s_iloadN (X : Stand p l e R s m args below meth c T locs cells slots) (hx : p.tables.exec = Jvm.exec) {k : Fin 4} {v : Int32} (hd : decode c.code pc = .ok (.iload_n k, 1)) (hl : L[k.val]? = some (.val (.int v))) (hq : pc + 1 = q) (K : Go p e below G T m q L (.int v :: S)) : Go p e below G T m pc L S := by
  subst hq; exact Go.st (fun t k => XS.iloadN X.here hx rfl hd hl k) K
theorem s_iload (X : Stand p l e R s m args below meth c T locs cells slots) (hx : p.tables.exec = Jvm.exec) {k : Nat} {v : Int32} (hd : decode c.code pc = .ok (.iload k, 2)) (hl : L[k]? = some (.val (.int v))) (hq : pc + 2 = q) (K : Go p e below G T m q L (.int v :: S)) : Go p e below G T m pc L S := by
  subst hq; exact Go.st (fun t k => XS.iload X.here hx rfl hd hl k) K
theorem s_lloadN (X : Stand p l e R s m args below meth c T locs cells slots) (hx : p.tables.exec = Jvm.exec) {k : Fin 4} {v : Int64} (hd : decode c.code pc = .ok (.lload_n k, 1)) (hl : L[k.val]? = some (.val (.long v))) (hq : pc + 1 = q) (K : Go p e below G T m q L (.long v :: S)) : Go p e below G T m pc L S := by
  subst hq; exact Go.st (fun t k => XS.lloadN X.here hx rfl hd hl k) K
theorem s_lload (X : Stand p l e R s m args below meth c T locs cells slots) (hx : p.tables.exec = Jvm.exec) {k : Nat} {v : Int64} (hd : decode c.code pc = .ok (.lload k, 2)) (hl : L[k]? = some (.val (.long v))) (hq : pc + 2 = q) (K : Go p e below G T m q L (.long v :: S)) : Go p e below G T m pc L S := by
  subst hq; exact Go.st (fun t k => XS.lload X.here hx rfl hd hl k) K
theorem s_aloadN (X : Stand p l e R s m args below meth c T locs cells slots) (hx : p.tables.exec = Jvm.exec) {k : Fin 4} {v : Value} (hd : decode c.code pc = .ok (.aload_n k, 1)) (hl : L[k.val]? = some (.val v)) (hv : v.isRef = true) (hq : pc + 1 = q) (K : Go p e below G T m q L (v :: S)) : Go p e below G T m pc L S := by
  subst hq; exact Go.st (fun t k => XS.aloadN X.here hx rfl hd hl hv k) K
theorem s_aload (X : Stand p l e R s m args below meth c T locs cells slots) (hx : p.tables.exec = Jvm.exec) {k : Nat} {v : Value} (hd : decode c.code pc = .ok (.aload k, 2)) (hl : L[k]? = some (.val v)) (hv : v.isRef = true) (hq : pc + 2 = q) (K : Go p e below G T m q L (v :: S)) : Go p e below G T m pc L S := by
  subst hq; exact Go.st (fun t k => XS.aload X.here hx rfl hd hl hv k) K
theorem s_istoreN (X : Stand p l e R s m args below meth c T locs cells slots) (hx : p.tables.exec = Jvm.exec) {k : Fin 4} {x : Int32} (hd : decode c.code pc = .ok (.istore_n k, 1)) (hl : storeLocals L k.val (.int x) = some L') (hq : pc + 1 = q) (K : Go p e below G T m q L' S) : Go p e below G T m pc L (.int x :: S) := by
  subst hq; exact Go.st (fun t k => XS.istoreN X.here hx rfl hd rfl hl k) K
theorem s_istore (X : Stand p l e R s m args below meth c T locs cells slots) (hx : p.tables.exec = Jvm.exec) {k : Nat} {x : Int32} (hd : decode c.code pc = .ok (.istore k, 2)) (hl : storeLocals L k (.int x) = some L') (hq : pc + 2 = q) (K : Go p e below G T m q L' S) : Go p e below G T m pc L (.int x :: S) := by
  subst hq; exact Go.st (fun t k => XS.istore X.here hx rfl hd rfl hl k) K
theorem s_lstoreN (X : Stand p l e R s m args below meth c T locs cells slots) (hx : p.tables.exec = Jvm.exec) {k : Fin 4} {x : Int64} (hd : decode c.code pc = .ok (.lstore_n k, 1)) (hl : storeLocals L k.val (.long x) = some L') (hq : pc + 1 = q) (K : Go p e below G T m q L' S) : Go p e below G T m pc L (.long x :: S) := by
  subst hq; exact Go.st (fun t k => XS.lstoreN X.here hx rfl hd rfl hl k) K
theorem s_lstore (X : Stand p l e R s m args below meth c T locs cells slots) (hx : p.tables.exec = Jvm.exec) {k : Nat} {x : Int64} (hd : decode c.code pc = .ok (.lstore k, 2)) (hl : storeLocals L k (.long x) = some L') (hq : pc + 2 = q) (K : Go p e below G T m q L' S) : Go p e below G T m pc L (.long x :: S) := by
  subst hq; exact Go.st (fun t k => XS.lstore X.here hx rfl hd rfl hl k) K
theorem s_astoreN (X : Stand p l e R s m args below meth c T locs cells slots) (hx : p.tables.exec = Jvm.exec) {k : Fin 4} {x : Value} (hd : decode c.code pc = .ok (.astore_n k, 1)) (hv : x.isRef = true) (hl : storeLocals L k.val x = some L') (hq : pc + 1 = q) (K : Go p e below G T m q L' S) : Go p e below G T m pc L (x :: S) := by
  subst hq; exact Go.st (fun t k => XS.astoreN X.here hx rfl hd rfl hv hl k) K
theorem s_astore (X : Stand p l e R s m args below meth c T locs cells slots) (hx : p.tables.exec = Jvm.exec) {k : Nat} {x : Value} (hd : decode c.code pc = .ok (.astore k, 2)) (hv : x.isRef = true) (hl : storeLocals L k x = some L') (hq : pc + 2 = q) (K : Go p e below G T m q L' S) : Go p e below G T m pc L (x :: S) := by
  subst hq; exact Go.st (fun t k => XS.astore X.here hx rfl hd rfl hv hl k) K
theorem s_iconst (X : Stand p l e R s m args below meth c T locs cells slots) (hx : p.tables.exec = Jvm.exec) {i : Int} {z : Int32} (hd : decode c.code pc = .ok (.iconst i, 1)) (hz : Int32.ofInt i = z) (hq : pc + 1 = q) (K : Go p e below G T m q L (.int z :: S)) : Go p e below G T m pc L S := by
  subst hq hz; exact Go.st (fun t k => XS.iconst X.here hx rfl hd k) K
theorem s_bipush (X : Stand p l e R s m args below meth c T locs cells slots) (hx : p.tables.exec = Jvm.exec) {i : Int} {z : Int32} (hd : decode c.code pc = .ok (.bipush i, 2)) (hz : (Int8.ofInt i).toInt32 = z) (hq : pc + 2 = q) (K : Go p e below G T m q L (.int z :: S)) : Go p e below G T m pc L S := by
  subst hq hz; exact Go.st (fun t k => XS.bipush X.here hx rfl hd k) K
theorem s_sipush (X : Stand p l e R s m args below meth c T locs cells slots) (hx : p.tables.exec = Jvm.exec) {i : Int} {z : Int32} (hd : decode c.code pc = .ok (.sipush i, 3)) (hz : (Int16.ofInt i).toInt32 = z) (hq : pc + 3 = q) (K : Go p e below G T m q L (.int z :: S)) : Go p e below G T m pc L S := by
  subst hq hz; exact Go.st (fun t k => XS.sipush X.here hx rfl hd k) K
theorem s_lconst (X : Stand p l e R s m args below meth c T locs cells slots) (hx : p.tables.exec = Jvm.exec) {i : Fin 2} {z : Int64} (hd : decode c.code pc = .ok (.lconst i, 1)) (hz : Int64.ofNat i.val = z) (hq : pc + 1 = q) (K : Go p e below G T m q L (.long z :: S)) : Go p e below G T m pc L S := by
  subst hq hz; exact Go.st (fun t k => XS.lconst X.here hx rfl hd k) K
theorem s_aconst_null (X : Stand p l e R s m args below meth c T locs cells slots) (hx : p.tables.exec = Jvm.exec)  (hd : decode c.code pc = .ok (.aconst_null, 1))  (hq : pc + 1 = q) (K : Go p e below G T m q L (.null :: S)) : Go p e below G T m pc L S := by
  subst hq; exact Go.st (fun t k => XS.aconstNull X.here hx rfl hd k) K
theorem s_iadd (X : Stand p l e R s m args below meth c T locs cells slots) (hx : p.tables.exec = Jvm.exec) {x y : Int32} (hd : decode c.code pc = .ok (.iadd, 1))  (hq : pc + 1 = q) (K : Go p e below G T m q L (.int (x + y) :: S)) : Go p e below G T m pc L (.int y :: .int x :: S) := by
  subst hq; exact Go.st (fun t k => XS.iadd X.here hx rfl hd rfl k) K
theorem s_isub (X : Stand p l e R s m args below meth c T locs cells slots) (hx : p.tables.exec = Jvm.exec) {x y : Int32} (hd : decode c.code pc = .ok (.isub, 1))  (hq : pc + 1 = q) (K : Go p e below G T m q L (.int (x - y) :: S)) : Go p e below G T m pc L (.int y :: .int x :: S) := by
  subst hq; exact Go.st (fun t k => XS.isub X.here hx rfl hd rfl k) K
theorem s_imul (X : Stand p l e R s m args below meth c T locs cells slots) (hx : p.tables.exec = Jvm.exec) {x y : Int32} (hd : decode c.code pc = .ok (.imul, 1))  (hq : pc + 1 = q) (K : Go p e below G T m q L (.int (x * y) :: S)) : Go p e below G T m pc L (.int y :: .int x :: S) := by
  subst hq; exact Go.st (fun t k => XS.imul X.here hx rfl hd rfl k) K
theorem s_iand (X : Stand p l e R s m args below meth c T locs cells slots) (hx : p.tables.exec = Jvm.exec) {x y : Int32} (hd : decode c.code pc = .ok (.iand, 1))  (hq : pc + 1 = q) (K : Go p e below G T m q L (.int (x &&& y) :: S)) : Go p e below G T m pc L (.int y :: .int x :: S) := by
  subst hq; exact Go.st (fun t k => XS.iand X.here hx rfl hd rfl k) K
theorem s_ior (X : Stand p l e R s m args below meth c T locs cells slots) (hx : p.tables.exec = Jvm.exec) {x y : Int32} (hd : decode c.code pc = .ok (.ior, 1))  (hq : pc + 1 = q) (K : Go p e below G T m q L (.int (x ||| y) :: S)) : Go p e below G T m pc L (.int y :: .int x :: S) := by
  subst hq; exact Go.st (fun t k => XS.ior X.here hx rfl hd rfl k) K
theorem s_ixor (X : Stand p l e R s m args below meth c T locs cells slots) (hx : p.tables.exec = Jvm.exec) {x y : Int32} (hd : decode c.code pc = .ok (.ixor, 1))  (hq : pc + 1 = q) (K : Go p e below G T m q L (.int (x ^^^ y) :: S)) : Go p e below G T m pc L (.int y :: .int x :: S) := by
  subst hq; exact Go.st (fun t k => XS.ixor X.here hx rfl hd rfl k) K
theorem s_ladd (X : Stand p l e R s m args below meth c T locs cells slots) (hx : p.tables.exec = Jvm.exec) {x y : Int64} (hd : decode c.code pc = .ok (.ladd, 1))  (hq : pc + 1 = q) (K : Go p e below G T m q L (.long (x + y) :: S)) : Go p e below G T m pc L (.long y :: .long x :: S) := by
  subst hq; exact Go.st (fun t k => XS.ladd X.here hx rfl hd rfl k) K
theorem s_lsub (X : Stand p l e R s m args below meth c T locs cells slots) (hx : p.tables.exec = Jvm.exec) {x y : Int64} (hd : decode c.code pc = .ok (.lsub, 1))  (hq : pc + 1 = q) (K : Go p e below G T m q L (.long (x - y) :: S)) : Go p e below G T m pc L (.long y :: .long x :: S) := by
  subst hq; exact Go.st (fun t k => XS.lsub X.here hx rfl hd rfl k) K
theorem s_lmul (X : Stand p l e R s m args below meth c T locs cells slots) (hx : p.tables.exec = Jvm.exec) {x y : Int64} (hd : decode c.code pc = .ok (.lmul, 1))  (hq : pc + 1 = q) (K : Go p e below G T m q L (.long (x * y) :: S)) : Go p e below G T m pc L (.long y :: .long x :: S) := by
  subst hq; exact Go.st (fun t k => XS.lmul X.here hx rfl hd rfl k) K
theorem s_land (X : Stand p l e R s m args below meth c T locs cells slots) (hx : p.tables.exec = Jvm.exec) {x y : Int64} (hd : decode c.code pc = .ok (.land, 1))  (hq : pc + 1 = q) (K : Go p e below G T m q L (.long (x &&& y) :: S)) : Go p e below G T m pc L (.long y :: .long x :: S) := by
  subst hq; exact Go.st (fun t k => XS.land X.here hx rfl hd rfl k) K
theorem s_lor (X : Stand p l e R s m args below meth c T locs cells slots) (hx : p.tables.exec = Jvm.exec) {x y : Int64} (hd : decode c.code pc = .ok (.lor, 1))  (hq : pc + 1 = q) (K : Go p e below G T m q L (.long (x ||| y) :: S)) : Go p e below G T m pc L (.long y :: .long x :: S) := by
  subst hq; exact Go.st (fun t k => XS.lor X.here hx rfl hd rfl k) K
theorem s_lxor (X : Stand p l e R s m args below meth c T locs cells slots) (hx : p.tables.exec = Jvm.exec) {x y : Int64} (hd : decode c.code pc = .ok (.lxor, 1))  (hq : pc + 1 = q) (K : Go p e below G T m q L (.long (x ^^^ y) :: S)) : Go p e below G T m pc L (.long y :: .long x :: S) := by
  subst hq; exact Go.st (fun t k => XS.lxor X.here hx rfl hd rfl k) K
theorem s_ishl (X : Stand p l e R s m args below meth c T locs cells slots) (hx : p.tables.exec = Jvm.exec) {x y : Int32} (hd : decode c.code pc = .ok (.ishl, 1))  (hq : pc + 1 = q) (K : Go p e below G T m q L (.int (x <<< (y &&& 31)) :: S)) : Go p e below G T m pc L (.int y :: .int x :: S) := by
  subst hq; exact Go.st (fun t k => XS.ishl X.here hx rfl hd rfl k) K
theorem s_ishr (X : Stand p l e R s m args below meth c T locs cells slots) (hx : p.tables.exec = Jvm.exec) {x y : Int32} (hd : decode c.code pc = .ok (.ishr, 1))  (hq : pc + 1 = q) (K : Go p e below G T m q L (.int (x >>> (y &&& 31)) :: S)) : Go p e below G T m pc L (.int y :: .int x :: S) := by
  subst hq; exact Go.st (fun t k => XS.ishr X.here hx rfl hd rfl k) K
theorem s_iushr (X : Stand p l e R s m args below meth c T locs cells slots) (hx : p.tables.exec = Jvm.exec) {x y : Int32} (hd : decode c.code pc = .ok (.iushr, 1))  (hq : pc + 1 = q) (K : Go p e below G T m q L (.int ((x.toUInt32 >>> (y &&& 31).toUInt32).toInt32) :: S)) : Go p e below G T m pc L (.int y :: .int x :: S) := by
  subst hq; exact Go.st (fun t k => XS.iushr X.here hx rfl hd rfl k) K
theorem s_lshl (X : Stand p l e R s m args below meth c T locs cells slots) (hx : p.tables.exec = Jvm.exec) {x : Int64} {y : Int32} (hd : decode c.code pc = .ok (.lshl, 1))  (hq : pc + 1 = q) (K : Go p e below G T m q L (.long (x <<< (y &&& 0x3f).toInt64) :: S)) : Go p e below G T m pc L (.int y :: .long x :: S) := by
  subst hq; exact Go.st (fun t k => XS.lshl X.here hx rfl hd rfl k) K
theorem s_lshr (X : Stand p l e R s m args below meth c T locs cells slots) (hx : p.tables.exec = Jvm.exec) {x : Int64} {y : Int32} (hd : decode c.code pc = .ok (.lshr, 1))  (hq : pc + 1 = q) (K : Go p e below G T m q L (.long (x >>> (y &&& 0x3f).toInt64) :: S)) : Go p e below G T m pc L (.int y :: .long x :: S) := by
  subst hq; exact Go.st (fun t k => XS.lshr X.here hx rfl hd rfl k) K
theorem s_lushr (X : Stand p l e R s m args below meth c T locs cells slots) (hx : p.tables.exec = Jvm.exec) {x : Int64} {y : Int32} (hd : decode c.code pc = .ok (.lushr, 1))  (hq : pc + 1 = q) (K : Go p e below G T m q L (.long ((x.toUInt64 >>> (y &&& 0x3f).toInt64.toUInt64).toInt64) :: S)) : Go p e below G T m pc L (.int y :: .long x :: S) := by
  subst hq; exact Go.st (fun t k => XS.lushr X.here hx rfl hd rfl k) K
theorem s_idiv (X : Stand p l e R s m args below meth c T locs cells slots) (hx : p.tables.exec = Jvm.exec) {x y : Int32} (hd : decode c.code pc = .ok (.idiv, 1)) (hy : y ≠ 0) (hq : pc + 1 = q) (K : Go p e below G T m q L (.int (x / y) :: S)) : Go p e below G T m pc L (.int y :: .int x :: S) := by
  subst hq; exact Go.st (fun t k => XS.idiv X.here hx rfl hd rfl hy k) K
theorem s_ldiv (X : Stand p l e R s m args below meth c T locs cells slots) (hx : p.tables.exec = Jvm.exec) {x y : Int64} (hd : decode c.code pc = .ok (.ldiv, 1)) (hy : y ≠ 0) (hq : pc + 1 = q) (K : Go p e below G T m q L (.long (x / y) :: S)) : Go p e below G T m pc L (.long y :: .long x :: S) := by
  subst hq; exact Go.st (fun t k => XS.ldiv X.here hx rfl hd rfl hy k) K
theorem s_ineg (X : Stand p l e R s m args below meth c T locs cells slots) (hx : p.tables.exec = Jvm.exec) {x : Int32} (hd : decode c.code pc = .ok (.ineg, 1))  (hq : pc + 1 = q) (K : Go p e below G T m q L (.int (-x) :: S)) : Go p e below G T m pc L (.int x :: S) := by
  subst hq; exact Go.st (fun t k => XS.ineg X.here hx rfl hd rfl k) K
theorem s_lneg (X : Stand p l e R s m args below meth c T locs cells slots) (hx : p.tables.exec = Jvm.exec) {x : Int64} (hd : decode c.code pc = .ok (.lneg, 1))  (hq : pc + 1 = q) (K : Go p e below G T m q L (.long (-x) :: S)) : Go p e below G T m pc L (.long x :: S) := by
  subst hq; exact Go.st (fun t k => XS.lneg X.here hx rfl hd rfl k) K
theorem s_i2l (X : Stand p l e R s m args below meth c T locs cells slots) (hx : p.tables.exec = Jvm.exec) {x : Int32} (hd : decode c.code pc = .ok (.i2l, 1))  (hq : pc + 1 = q) (K : Go p e below G T m q L (.long x.toInt64 :: S)) : Go p e below G T m pc L (.int x :: S) := by
  subst hq; exact Go.st (fun t k => XS.i2l X.here hx rfl hd rfl k) K
theorem s_l2i (X : Stand p l e R s m args below meth c T locs cells slots) (hx : p.tables.exec = Jvm.exec) {x : Int64} (hd : decode c.code pc = .ok (.l2i, 1))  (hq : pc + 1 = q) (K : Go p e below G T m q L (.int x.toInt32 :: S)) : Go p e below G T m pc L (.long x :: S) := by
  subst hq; exact Go.st (fun t k => XS.l2i X.here hx rfl hd rfl k) K
theorem s_i2b (X : Stand p l e R s m args below meth c T locs cells slots) (hx : p.tables.exec = Jvm.exec) {x : Int32} (hd : decode c.code pc = .ok (.i2b, 1))  (hq : pc + 1 = q) (K : Go p e below G T m q L (.int x.toInt8.toInt32 :: S)) : Go p e below G T m pc L (.int x :: S) := by
  subst hq; exact Go.st (fun t k => XS.i2b X.here hx rfl hd rfl k) K
theorem s_i2c (X : Stand p l e R s m args below meth c T locs cells slots) (hx : p.tables.exec = Jvm.exec) {x : Int32} (hd : decode c.code pc = .ok (.i2c, 1))  (hq : pc + 1 = q) (K : Go p e below G T m q L (.int x.toUInt32.toUInt16.toUInt32.toInt32 :: S)) : Go p e below G T m pc L (.int x :: S) := by
  subst hq; exact Go.st (fun t k => XS.i2c X.here hx rfl hd rfl k) K
theorem s_i2s (X : Stand p l e R s m args below meth c T locs cells slots) (hx : p.tables.exec = Jvm.exec) {x : Int32} (hd : decode c.code pc = .ok (.i2s, 1))  (hq : pc + 1 = q) (K : Go p e below G T m q L (.int x.toInt16.toInt32 :: S)) : Go p e below G T m pc L (.int x :: S) := by
  subst hq; exact Go.st (fun t k => XS.i2s X.here hx rfl hd rfl k) K
theorem s_lcmp (X : Stand p l e R s m args below meth c T locs cells slots) (hx : p.tables.exec = Jvm.exec) {x y : Int64} (hd : decode c.code pc = .ok (.lcmp, 1))  (hq : pc + 1 = q) (K : Go p e below G T m q L (.int (lcmpW x y) :: S)) : Go p e below G T m pc L (.long y :: .long x :: S) := by
  subst hq; exact Go.st (fun t k => XS.lcmp X.here hx rfl hd rfl k) K
theorem s_iinc (X : Stand p l e R s m args below meth c T locs cells slots) (hx : p.tables.exec = Jvm.exec) {k : Nat} {cst : Int} {x w : Int32} (hd : decode c.code pc = .ok (.iinc k cst, 3)) (hl : L[k]? = some (.val (.int x))) (hw : x + Int32.ofInt cst = w) (hl' : storeLocals L k (.int w) = some L') (hq : pc + 3 = q) (K : Go p e below G T m q L' S) : Go p e below G T m pc L S := by
  subst hq hw; exact Go.st (fun t k => XS.iinc X.here hx rfl hd hl hl' k) K
theorem s_dup (X : Stand p l e R s m args below meth c T locs cells slots) (hx : p.tables.exec = Jvm.exec) {x : Value} (hd : decode c.code pc = .ok (.dup, 1)) (hc : x.category = 1) (hq : pc + 1 = q) (K : Go p e below G T m q L (x :: x :: S)) : Go p e below G T m pc L (x :: S) := by
  subst hq; exact Go.st (fun t k => XS.dup X.here hx rfl hd rfl hc k) K
theorem s_dup_x1 (X : Stand p l e R s m args below meth c T locs cells slots) (hx : p.tables.exec = Jvm.exec) {x y : Value} (hd : decode c.code pc = .ok (.dup_x1, 1)) (hc : x.category = 1) (hc' : y.category = 1) (hq : pc + 1 = q) (K : Go p e below G T m q L (x :: y :: x :: S)) : Go p e below G T m pc L (x :: y :: S) := by
  subst hq; exact Go.st (fun t k => XS.dupX1 X.here hx rfl hd rfl hc hc' k) K
theorem s_dup2 (X : Stand p l e R s m args below meth c T locs cells slots) (hx : p.tables.exec = Jvm.exec) {x y : Value} (hd : decode c.code pc = .ok (.dup2, 1)) (hc : x.category = 1) (hc' : y.category = 1) (hq : pc + 1 = q) (K : Go p e below G T m q L (x :: y :: x :: y :: S)) : Go p e below G T m pc L (x :: y :: S) := by
  subst hq; exact Go.st (fun t k => Jvm.Free.XT.dup2 X.here hx rfl hd rfl hc hc' k) K
theorem s_dup2L (X : Stand p l e R s m args below meth c T locs cells slots) (hx : p.tables.exec = Jvm.exec) {x : Int64} (hd : decode c.code pc = .ok (.dup2, 1))  (hq : pc + 1 = q) (K : Go p e below G T m q L (.long x :: .long x :: S)) : Go p e below G T m pc L (.long x :: S) := by
  subst hq; exact Go.st (fun t k => Jvm.Free.XT.dup2L X.here hx rfl hd rfl k) K
theorem s_pop (X : Stand p l e R s m args below meth c T locs cells slots) (hx : p.tables.exec = Jvm.exec) {x : Value} (hd : decode c.code pc = .ok (.pop, 1)) (hc : x.category = 1) (hq : pc + 1 = q) (K : Go p e below G T m q L S) : Go p e below G T m pc L (x :: S) := by
  subst hq; exact Go.st (fun t k => XS.pop X.here hx rfl hd rfl hc k) K
theorem s_goto (X : Stand p l e R s m args below meth c T locs cells slots) (hx : p.tables.exec = Jvm.exec) {o : Int} (hd : decode c.code pc = .ok (.goto o, 3)) (ho : 0 ≤ (pc : Int) + o) (hp : ((pc : Int) + o).toNat = q1) (K : Go p e below G T m q1 L S) : Go p e below G T m pc L S := Go.st (fun t k => XS.goto X.here hx rfl rfl hd ho hp k) K
theorem f_icmp_lt (X : Stand p l e R s m args below meth c T locs cells slots) (hx : p.tables.exec = Jvm.exec) {x y : Int32} {o : Int} (hd : decode c.code pc = .ok (.if_icmp .lt o, 3)) (ho : 0 ≤ (pc : Int) + o) (hp : ((pc : Int) + o).toNat = q1) (hq : pc + 3 = q) (ky : x < y → Go p e below G T m q1 L S) (kn : ¬ x < y → Go p e below G T m q L S) : Go p e below G T m pc L (.int y :: .int x :: S) := by
  subst hq
  by_cases h : x < y
  · exact Go.st (fun t k => XS.icmpYes X.here hx rfl rfl hd rfl (tlt h).1 ho hp k) (ky h)
  · exact Go.st (fun t k => XS.icmpNo X.here hx rfl hd rfl (flt h).1 k) (kn h)
theorem f_if_lt (X : Stand p l e R s m args below meth c T locs cells slots) (hx : p.tables.exec = Jvm.exec) {x : Int32} {o : Int} (hd : decode c.code pc = .ok (.ifCond .lt o, 3)) (ho : 0 ≤ (pc : Int) + o) (hp : ((pc : Int) + o).toNat = q1) (hq : pc + 3 = q) (ky : x < 0 → Go p e below G T m q1 L S) (kn : ¬ x < 0 → Go p e below G T m q L S) : Go p e below G T m pc L (.int x :: S) := by
  subst hq
  by_cases h : x < 0
  · exact Go.st (fun t k => XS.ifYes X.here hx rfl rfl hd rfl ((if0 _ _).trans (tlt h).1) ho hp k) (ky h)
  · exact Go.st (fun t k => XS.ifNo X.here hx rfl hd rfl ((if0 _ _).trans (flt h).1) k) (kn h)
theorem f_lcmp_lt (X : Stand p l e R s m args below meth c T locs cells slots) (hx : p.tables.exec = Jvm.exec) {x y : Int64} {o : Int} (hd : decode c.code pc = .ok (.ifCond .lt o, 3)) (ho : 0 ≤ (pc : Int) + o) (hp : ((pc : Int) + o).toNat = q1) (hq : pc + 3 = q) (ky : x < y → Go p e below G T m q1 L S) (kn : ¬ x < y → Go p e below G T m q L S) : Go p e below G T m pc L (.int (lcmpW x y) :: S) :=
  f_if_lt X hx hd ho hp hq (fun h => ky ((lw_lt x y).mp h)) (fun h => kn (fun g => h ((lw_lt x y).mpr g)))
theorem f_icmp_ge (X : Stand p l e R s m args below meth c T locs cells slots) (hx : p.tables.exec = Jvm.exec) {x y : Int32} {o : Int} (hd : decode c.code pc = .ok (.if_icmp .ge o, 3)) (ho : 0 ≤ (pc : Int) + o) (hp : ((pc : Int) + o).toNat = q1) (hq : pc + 3 = q) (ky : ¬ x < y → Go p e below G T m q1 L S) (kn : x < y → Go p e below G T m q L S) : Go p e below G T m pc L (.int y :: .int x :: S) := by
  subst hq
  by_cases h : x < y
  · exact Go.st (fun t k => XS.icmpNo X.here hx rfl hd rfl (tlt h).2.1 k) (kn h)
  · exact Go.st (fun t k => XS.icmpYes X.here hx rfl rfl hd rfl (flt h).2.1 ho hp k) (ky h)
theorem f_if_ge (X : Stand p l e R s m args below meth c T locs cells slots) (hx : p.tables.exec = Jvm.exec) {x : Int32} {o : Int} (hd : decode c.code pc = .ok (.ifCond .ge o, 3)) (ho : 0 ≤ (pc : Int) + o) (hp : ((pc : Int) + o).toNat = q1) (hq : pc + 3 = q) (ky : ¬ x < 0 → Go p e below G T m q1 L S) (kn : x < 0 → Go p e below G T m q L S) : Go p e below G T m pc L (.int x :: S) := by
  subst hq
  by_cases h : x < 0
  · exact Go.st (fun t k => XS.ifNo X.here hx rfl hd rfl ((if0 _ _).trans (tlt h).2.1) k) (kn h)
  · exact Go.st (fun t k => XS.ifYes X.here hx rfl rfl hd rfl ((if0 _ _).trans (flt h).2.1) ho hp k) (ky h)
theorem f_lcmp_ge (X : Stand p l e R s m args below meth c T locs cells slots) (hx : p.tables.exec = Jvm.exec) {x y : Int64} {o : Int} (hd : decode c.code pc = .ok (.ifCond .ge o, 3)) (ho : 0 ≤ (pc : Int) + o) (hp : ((pc : Int) + o).toNat = q1) (hq : pc + 3 = q) (ky : ¬ x < y → Go p e below G T m q1 L S) (kn : x < y → Go p e below G T m q L S) : Go p e below G T m pc L (.int (lcmpW x y) :: S) :=
  f_if_ge X hx hd ho hp hq (fun h => ky (fun g => h ((lw_lt x y).mpr g))) (fun h => kn ((lw_lt x y).mp h))
theorem f_icmp_gt (X : Stand p l e R s m args below meth c T locs cells slots) (hx : p.tables.exec = Jvm.exec) {x y : Int32} {o : Int} (hd : decode c.code pc = .ok (.if_icmp .gt o, 3)) (ho : 0 ≤ (pc : Int) + o) (hp : ((pc : Int) + o).toNat = q1) (hq : pc + 3 = q) (ky : y < x → Go p e below G T m q1 L S) (kn : ¬ y < x → Go p e below G T m q L S) : Go p e below G T m pc L (.int y :: .int x :: S) := by
  subst hq
  by_cases h : y < x
  · exact Go.st (fun t k => XS.icmpYes X.here hx rfl rfl hd rfl (tlt h).2.2.1 ho hp k) (ky h)
  · exact Go.st (fun t k => XS.icmpNo X.here hx rfl hd rfl (flt h).2.2.1 k) (kn h)
theorem f_if_gt (X : Stand p l e R s m args below meth c T locs cells slots) (hx : p.tables.exec = Jvm.exec) {x : Int32} {o : Int} (hd : decode c.code pc = .ok (.ifCond .gt o, 3)) (ho : 0 ≤ (pc : Int) + o) (hp : ((pc : Int) + o).toNat = q1) (hq : pc + 3 = q) (ky : 0 < x → Go p e below G T m q1 L S) (kn : ¬ 0 < x → Go p e below G T m q L S) : Go p e below G T m pc L (.int x :: S) := by
  subst hq
  by_cases h : 0 < x
  · exact Go.st (fun t k => XS.ifYes X.here hx rfl rfl hd rfl ((if0 _ _).trans (tlt h).2.2.1) ho hp k) (ky h)
  · exact Go.st (fun t k => XS.ifNo X.here hx rfl hd rfl ((if0 _ _).trans (flt h).2.2.1) k) (kn h)
theorem f_lcmp_gt (X : Stand p l e R s m args below meth c T locs cells slots) (hx : p.tables.exec = Jvm.exec) {x y : Int64} {o : Int} (hd : decode c.code pc = .ok (.ifCond .gt o, 3)) (ho : 0 ≤ (pc : Int) + o) (hp : ((pc : Int) + o).toNat = q1) (hq : pc + 3 = q) (ky : y < x → Go p e below G T m q1 L S) (kn : ¬ y < x → Go p e below G T m q L S) : Go p e below G T m pc L (.int (lcmpW x y) :: S) :=
  f_if_gt X hx hd ho hp hq (fun h => ky ((lw_gt x y).mp h)) (fun h => kn (fun g => h ((lw_gt x y).mpr g)))
theorem f_icmp_le (X : Stand p l e R s m args below meth c T locs cells slots) (hx : p.tables.exec = Jvm.exec) {x y : Int32} {o : Int} (hd : decode c.code pc = .ok (.if_icmp .le o, 3)) (ho : 0 ≤ (pc : Int) + o) (hp : ((pc : Int) + o).toNat = q1) (hq : pc + 3 = q) (ky : ¬ y < x → Go p e below G T m q1 L S) (kn : y < x → Go p e below G T m q L S) : Go p e below G T m pc L (.int y :: .int x :: S) := by
  subst hq
  by_cases h : y < x
  · exact Go.st (fun t k => XS.icmpNo X.here hx rfl hd rfl (tlt h).2.2.2 k) (kn h)
  · exact Go.st (fun t k => XS.icmpYes X.here hx rfl rfl hd rfl (flt h).2.2.2 ho hp k) (ky h)
theorem f_if_le (X : Stand p l e R s m args below meth c T locs cells slots) (hx : p.tables.exec = Jvm.exec) {x : Int32} {o : Int} (hd : decode c.code pc = .ok (.ifCond .le o, 3)) (ho : 0 ≤ (pc : Int) + o) (hp : ((pc : Int) + o).toNat = q1) (hq : pc + 3 = q) (ky : ¬ 0 < x → Go p e below G T m q1 L S) (kn : 0 < x → Go p e below G T m q L S) : Go p e below G T m pc L (.int x :: S) := by
  subst hq
  by_cases h : 0 < x
  · exact Go.st (fun t k => XS.ifNo X.here hx rfl hd rfl ((if0 _ _).trans (tlt h).2.2.2) k) (kn h)
  · exact Go.st (fun t k => XS.ifYes X.here hx rfl rfl hd rfl ((if0 _ _).trans (flt h).2.2.2) ho hp k) (ky h)
theorem f_lcmp_le (X : Stand p l e R s m args below meth c T locs cells slots) (hx : p.tables.exec = Jvm.exec) {x y : Int64} {o : Int} (hd : decode c.code pc = .ok (.ifCond .le o, 3)) (ho : 0 ≤ (pc : Int) + o) (hp : ((pc : Int) + o).toNat = q1) (hq : pc + 3 = q) (ky : ¬ y < x → Go p e below G T m q1 L S) (kn : y < x → Go p e below G T m q L S) : Go p e below G T m pc L (.int (lcmpW x y) :: S) :=
  f_if_le X hx hd ho hp hq (fun h => ky (fun g => h ((lw_gt x y).mpr g))) (fun h => kn ((lw_gt x y).mp h))
theorem f_icmp_eq (X : Stand p l e R s m args below meth c T locs cells slots) (hx : p.tables.exec = Jvm.exec) {x y : Int32} {o : Int} (hd : decode c.code pc = .ok (.if_icmp .eq o, 3)) (ho : 0 ≤ (pc : Int) + o) (hp : ((pc : Int) + o).toNat = q1) (hq : pc + 3 = q) (ky : x = y → Go p e below G T m q1 L S) (kn : ¬ x = y → Go p e below G T m q L S) : Go p e below G T m pc L (.int y :: .int x :: S) := by
  subst hq
  by_cases h : x = y
  · exact Go.st (fun t k => XS.icmpYes X.here hx rfl rfl hd rfl (teq h).1 ho hp k) (ky h)
  · exact Go.st (fun t k => XS.icmpNo X.here hx rfl hd rfl (feq h).1 k) (kn h)
theorem f_if_eq (X : Stand p l e R s m args below meth c T locs cells slots) (hx : p.tables.exec = Jvm.exec) {x : Int32} {o : Int} (hd : decode c.code pc = .ok (.ifCond .eq o, 3)) (ho : 0 ≤ (pc : Int) + o) (hp : ((pc : Int) + o).toNat = q1) (hq : pc + 3 = q) (ky : x = 0 → Go p e below G T m q1 L S) (kn : ¬ x = 0 → Go p e below G T m q L S) : Go p e below G T m pc L (.int x :: S) := by
  subst hq
  by_cases h : x = 0
  · exact Go.st (fun t k => XS.ifYes X.here hx rfl rfl hd rfl ((if0 _ _).trans (teq h).1) ho hp k) (ky h)
  · exact Go.st (fun t k => XS.ifNo X.here hx rfl hd rfl ((if0 _ _).trans (feq h).1) k) (kn h)
theorem f_lcmp_eq (X : Stand p l e R s m args below meth c T locs cells slots) (hx : p.tables.exec = Jvm.exec) {x y : Int64} {o : Int} (hd : decode c.code pc = .ok (.ifCond .eq o, 3)) (ho : 0 ≤ (pc : Int) + o) (hp : ((pc : Int) + o).toNat = q1) (hq : pc + 3 = q) (ky : x = y → Go p e below G T m q1 L S) (kn : ¬ x = y → Go p e below G T m q L S) : Go p e below G T m pc L (.int (lcmpW x y) :: S) :=
  f_if_eq X hx hd ho hp hq (fun h => ky ((lw_eq x y).mp h)) (fun h => kn (fun g => h ((lw_eq x y).mpr g)))
theorem f_icmp_ne (X : Stand p l e R s m args below meth c T locs cells slots) (hx : p.tables.exec = Jvm.exec) {x y : Int32} {o : Int} (hd : decode c.code pc = .ok (.if_icmp .ne o, 3)) (ho : 0 ≤ (pc : Int) + o) (hp : ((pc : Int) + o).toNat = q1) (hq : pc + 3 = q) (ky : ¬ x = y → Go p e below G T m q1 L S) (kn : x = y → Go p e below G T m q L S) : Go p e below G T m pc L (.int y :: .int x :: S) := by
  subst hq
  by_cases h : x = y
  · exact Go.st (fun t k => XS.icmpNo X.here hx rfl hd rfl (teq h).2 k) (kn h)
  · exact Go.st (fun t k => XS.icmpYes X.here hx rfl rfl hd rfl (feq h).2 ho hp k) (ky h)
theorem f_if_ne (X : Stand p l e R s m args below meth c T locs cells slots) (hx : p.tables.exec = Jvm.exec) {x : Int32} {o : Int} (hd : decode c.code pc = .ok (.ifCond .ne o, 3)) (ho : 0 ≤ (pc : Int) + o) (hp : ((pc : Int) + o).toNat = q1) (hq : pc + 3 = q) (ky : ¬ x = 0 → Go p e below G T m q1 L S) (kn : x = 0 → Go p e below G T m q L S) : Go p e below G T m pc L (.int x :: S) := by
  subst hq
  by_cases h : x = 0
  · exact Go.st (fun t k => XS.ifNo X.here hx rfl hd rfl ((if0 _ _).trans (teq h).2) k) (kn h)
  · exact Go.st (fun t k => XS.ifYes X.here hx rfl rfl hd rfl ((if0 _ _).trans (feq h).2) ho hp k) (ky h)
theorem f_lcmp_ne (X : Stand p l e R s m args below meth c T locs cells slots) (hx : p.tables.exec = Jvm.exec) {x y : Int64} {o : Int} (hd : decode c.code pc = .ok (.ifCond .ne o, 3)) (ho : 0 ≤ (pc : Int) + o) (hp : ((pc : Int) + o).toNat = q1) (hq : pc + 3 = q) (ky : ¬ x = y → Go p e below G T m q1 L S) (kn : x = y → Go p e below G T m q L S) : Go p e below G T m pc L (.int (lcmpW x y) :: S) :=
  f_if_ne X hx hd ho hp hq (fun h => ky (fun g => h ((lw_eq x y).mpr g))) (fun h => kn ((lw_eq x y).mp h))
theorem s_ifnullYes (X : Stand p l e R s m args below meth c T locs cells slots) (hx : p.tables.exec = Jvm.exec) {o : Int} (hd : decode c.code pc = .ok (.ifnull o, 3)) (ho : 0 ≤ (pc : Int) + o) (hp : ((pc : Int) + o).toNat = q1) (K : Go p e below G T m q1 L S) : Go p e below G T m pc L (.null :: S) := Go.st (fun t k => XS.ifnullYes X.here hx rfl rfl hd rfl ho hp k) K
theorem s_ifnullNo (X : Stand p l e R s m args below meth c T locs cells slots) (hx : p.tables.exec = Jvm.exec) {o : Int} {b : Addr} (hd : decode c.code pc = .ok (.ifnull o, 3))  (hq : pc + 3 = q) (K : Go p e below G T m q L S) : Go p e below G T m pc L (.ref b :: S) := by
  subst hq; exact Go.st (fun t k => XS.ifnullNo X.here hx rfl hd rfl k) K
theorem s_ifnonnullYes (X : Stand p l e R s m args below meth c T locs cells slots) (hx : p.tables.exec = Jvm.exec) {o : Int} {b : Addr} (hd : decode c.code pc = .ok (.ifnonnull o, 3)) (ho : 0 ≤ (pc : Int) + o) (hp : ((pc : Int) + o).toNat = q1) (K : Go p e below G T m q1 L S) : Go p e below G T m pc L (.ref b :: S) := Go.st (fun t k => XS.ifnonnullYes X.here hx rfl rfl hd rfl ho hp k) K
theorem s_ifnonnullNo (X : Stand p l e R s m args below meth c T locs cells slots) (hx : p.tables.exec = Jvm.exec) {o : Int} (hd : decode c.code pc = .ok (.ifnonnull o, 3))  (hq : pc + 3 = q) (K : Go p e below G T m q L S) : Go p e below G T m pc L (.null :: S) := by
  subst hq; exact Go.st (fun t k => XS.ifnonnullNo X.here hx rfl hd rfl k) K
theorem s_acmp (X : Stand p l e R s m args below meth c T locs cells slots) (hx : p.tables.exec = Jvm.exec) {cd : ClassFile.ACond} {x y : Value} {o : Int} {same : Bool} (hd : decode c.code pc = .ok (.if_acmp cd o, 3)) (h1 : x.isRef = true) (h2 : y.isRef = true) (hs : decide (x = y) = same) (ho : 0 ≤ (pc : Int) + o) (hp : q1 = if acV cd same = true then ((pc : Int) + o).toNat else pc + 3) (K : Go p e below G T m q1 L S) : Go p e below G T m pc L (y :: x :: S) := Go.st (fun t k => Jvm.RoadKit.acmp (g := mkF m pc L (y :: x :: S)) X hx rfl h1 h2 rfl hd rfl hs ho hp k) K
variable {Z : State} {a0 : Array Value} {h h' : Heap} {a b : Addr} {own C O n d : String} {v : Value} {n0 : Nat}
theorem s_ldc (X : Stand p l e R s m args below meth c T locs cells slots) (hx : p.tables.exec = Jvm.exec) (hZ : Z.Warmed39 s.vm) (hown : s.vm.findClass own = some m.cls) {index : Nat} {z : Int32} (w : (Jvm.Cond.constant own index z).before a0 Z = true) (hd : decode c.code pc = .ok (.ldc index, 2)) (hq : pc + 2 = q) (K : Go p e below G T m q L (.int z :: S)) : Go p e below G T m pc L S := by
  subst hq; exact Go.st (fun t k => X.ldcInt hx hown (mvT hZ w) (g := mkF m pc L S) rfl hd t k) K
theorem s_ldcw (X : Stand p l e R s m args below meth c T locs cells slots) (hx : p.tables.exec = Jvm.exec) (hZ : Z.Warmed39 s.vm) (hown : s.vm.findClass own = some m.cls) {index : Nat} {z : Int32} (w : (Jvm.Cond.constant own index z).before a0 Z = true) (hd : decode c.code pc = .ok (.ldc_w index, 3)) (hq : pc + 3 = q) (K : Go p e below G T m q L (.int z :: S)) : Go p e below G T m pc L S := by
  subst hq; exact Go.st (fun t k => X.ldcwInt hx hown (mvT hZ w) (g := mkF m pc L S) rfl hd t k) K
theorem s_ldc2 (X : Stand p l e R s m args below meth c T locs cells slots) (hx : p.tables.exec = Jvm.exec) (hZ : Z.Warmed39 s.vm) (hown : s.vm.findClass own = some m.cls) {index : Nat} {z : Int64} (w : (Jvm.Cond.constantLong own index z).before a0 Z = true) (hd : decode c.code pc = .ok (.ldc2_w index, 3)) (hq : pc + 3 = q) (K : Go p e below G T m q L (.long z :: S)) : Go p e below G T m pc L S := by
  subst hq; exact Go.st (fun t k => X.ldc2Long hx hown (mvT hZ w) (g := mkF m pc L S) rfl hd t k) K
theorem s_lrem (X : Stand p l e R s m args below meth c T locs cells slots) (hx : p.tables.exec = Jvm.exec) {x y : Int64} (hd : decode c.code pc = .ok (.lrem, 1)) (hy : y ≠ 0) (hq : pc + 1 = q) (K : Go p e below G T m q L (.long (x % y) :: S)) : Go p e below G T m pc L (.long y :: .long x :: S) := by
  subst hq; rw [← lrem_mod] at K; exact Go.st (fun t k => XS.lrem X.here hx rfl hd rfl hy k) K
theorem irem_mod (x y : Int32) : x - (x / y) * y = x % y := by
  apply Int32.toInt_inj.mp
  have h1 := Int32.le_toInt (x % y)
  have h2 := Int32.toInt_lt (x % y)
  rw [Int32.toInt_sub, Int32.toInt_mul, Int32.toInt_div, Int.bmod_mul_bmod, Int.sub_bmod_bmod, Int.mul_comm (x.toInt.tdiv y.toInt), ← Int.tmod_def, ← Int32.toInt_mod]
  exact Int.bmod_eq_of_le_mul_two (by omega) (by omega)
theorem s_irem (X : Stand p l e R s m args below meth c T locs cells slots) (hx : p.tables.exec = Jvm.exec) {x y : Int32} (hd : decode c.code pc = .ok (.irem, 1)) (hy : y ≠ 0) (hq : pc + 1 = q) (K : Go p e below G T m q L (.int (x % y) :: S)) : Go p e below G T m pc L (.int y :: .int x :: S) := by
  subst hq; rw [← irem_mod] at K; exact Go.st (fun t k => XS.irem X.here hx rfl hd rfl hy k) K
theorem leafI (X : Stand p l e R s m args below meth c T locs cells slots) (hx : p.tables.exec = Jvm.exec) {z : Int32} {Q : Option Value → Heap → List Loc → Prop} {C N : Nat} (hlk : meth.locks = false) (hret : meth.sig.returnType = some .int) (hd : decode c.code pc = .ok (.ireturn, 1)) (hc : cells ≤ C) (hn : slots ≤ N) (hQ : Q (some (.int z)) T.heap locs) : Go p e below (Gl s below Q C N) T m pc L (.int z :: S) := by
  obtain ⟨fs, hr, hrun, hended, hW, hsame⟩ := X.leave (v := some (.int z)) (fun h => by rw [hret] at h; cases h) hlk
  exact ⟨_, retI X hx hret hd hr, _, hrun, hended, _, _, rfl, hQ, ⟨_, rfl⟩, hW, hsame.mono hc hn⟩
theorem leafN (X : Stand p l e R s m args below meth c T locs cells slots) (hx : p.tables.exec = Jvm.exec) {t : FieldType} {z z' : Int32} {Q : Option Value → Heap → List Loc → Prop} {C N : Nat} (hlk : meth.locks = false) (hret : meth.sig.returnType = some t) (ht : t = .boolean ∨ t = .byte ∨ t = .char ∨ t = .short) (hd : decode c.code pc = .ok (.ireturn, 1)) (hc : cells ≤ C) (hn : slots ≤ N) (hz : nar t z = z') (hQ : Q (some (.int z')) T.heap locs) : Go p e below (Gl s below Q C N) T m pc L (.int z :: S) := by
  subst hz
  obtain ⟨fs, hr, hrun, hended, hW, hsame⟩ := X.leave (v := some (.int (nar t z))) (fun h => by rw [hret] at h; cases h) hlk
  exact ⟨_, retN X hx hret ht hd hr, _, hrun, hended, _, _, rfl, hQ, ⟨_, rfl⟩, hW, hsame.mono hc hn⟩
theorem leafJ (X : Stand p l e R s m args below meth c T locs cells slots) (hx : p.tables.exec = Jvm.exec) {z : Int64} {Q : Option Value → Heap → List Loc → Prop} {C N : Nat} (hlk : meth.locks = false) (hret : meth.sig.returnType = some .long) (hd : decode c.code pc = .ok (.lreturn, 1)) (hc : cells ≤ C) (hn : slots ≤ N) (hQ : Q (some (.long z)) T.heap locs) : Go p e below (Gl s below Q C N) T m pc L (.long z :: S) := by
  obtain ⟨fs, hr, hrun, hended, hW, hsame⟩ := X.leave (v := some (.long z)) (fun h => by rw [hret] at h; cases h) hlk
  refine ⟨_, ?_, _, hrun, hended, _, _, rfl, hQ, ⟨_, rfl⟩, hW, hsame.mono hc hn⟩
  show Steps p.tables e below (T.setTop { method := m, pc := pc, locals := L, stack := .long z :: S, locked := none }) _
  jvm_step X.here [X.here.top, hx, hd, X.method', hret, narrow]
  first | (intro acts; rw [hr _ acts rfl rfl rfl]) | rw [hr _ _ rfl rfl rfl]
  exact Steps.refl _
theorem leafA (X : Stand p l e R s m args below meth c T locs cells slots) (hx : p.tables.exec = Jvm.exec) {v : Value} {t : FieldType} {Q : Option Value → Heap → List Loc → Prop} {C N : Nat} (hlk : meth.locks = false) (hret : meth.sig.returnType = some t) (ht : t.isReference = true) (hv : v.isRef = true) (hd : decode c.code pc = .ok (.areturn, 1)) (hc : cells ≤ C) (hn : slots ≤ N) (hQ : Q (some v) T.heap locs) : Go p e below (Gl s below Q C N) T m pc L (v :: S) := by
  obtain ⟨fs, hr, hrun, hended, hW, hsame⟩ := X.leave (v := some v) (fun h => by rw [hret] at h; cases h) hlk
  refine ⟨_, ?_, _, hrun, hended, _, _, rfl, hQ, ⟨_, rfl⟩, hW, hsame.mono hc hn⟩
  show Steps p.tables e below (T.setTop { method := m, pc := pc, locals := L, stack := v :: S, locked := none }) _
  jvm_step X.here [X.here.top, hx, hd, X.method', hret, hv, ht]
  first | (intro acts; rw [hr _ acts rfl rfl rfl]) | rw [hr _ _ rfl rfl rfl]
  exact Steps.refl _
theorem leafV (X : Stand p l e R s m args below meth c T locs cells slots) (hx : p.tables.exec = Jvm.exec) {Q : Option Value → Heap → List Loc → Prop} {C N : Nat} (hlk : meth.locks = false) (hret : meth.sig.returnType = none) (hd : decode c.code pc = .ok (.return_, 1)) (hc : cells ≤ C) (hn : slots ≤ N) (hQ : Q none T.heap locs) : Go p e below (Gl s below Q C N) T m pc L [] := by
  obtain ⟨fs, hr, hrun, hended, hW, hsame⟩ := X.leave (v := none) (fun _ => rfl) hlk
  exact ⟨_, X.returnOut hx hret hd hr, _, hrun, hended, _, _, rfl, hQ, ⟨_, rfl⟩, hW, hsame.mono hc hn⟩
/-- a call by a contract -/
theorem callC (X : Stand p l e R s m args below meth c T locs cells slots) (hx : p.tables.exec = Jvm.exec) (hZ : Z.Warmed39 s.vm) (hown : s.vm.findClass own = some m.cls) {index : Nat} {y : MethodName} {bytes : ByteArray} {maxL : Nat} {ret : Option FieldType} {rm : Room} {Q : Option Value → Heap → List Loc → Prop} {W : Nat} {argsL rest : List Value}
    (w1 : (Jvm.Cond.methodLink own index y).before a0 Z = true) (w2 : (Jvm.Cond.static y).before a0 Z = true) (w3 : (Jvm.Cond.initialized y.cls).before a0 Z = true) (w4 : (Jvm.Cond.code y bytes maxL ret).before a0 Z = true) (hy : y.cls ≠ "java/lang/invoke/MethodHandle" ∧ y.cls ≠ "java/lang/invoke/VarHandle")
    (K : Ctr l y bytes maxL ret [] rm Z argsL.toArray h Q rm.cells rm.slots) (eT : T.heap = h) (hf : rm.frames + 1 ≤ R.frames) (hl : W + (maxL + 11) + rm.locals ≤ R.locals) (hc : cells + rm.cells ≤ R.cells) (hn : slots + rm.slots ≤ R.slots) (hsize : L.size = c.maxLocals)
    {ps : List FieldType} {r : Option FieldType} (hlen : parseMethodDescriptor y.desc = some ⟨ps, r⟩) (hl2 : argsL.length = ps.length) (hS : S = argsL.reverse ++ rest) (hW : (rest.map fun v => v.category).sum ≤ W) (hd : decode c.code pc = .ok (.invokestatic index, 3)) (hq : pc + 3 = q)
    (k : ∀ (v : Option Value) (T' : State) (Lc : List Loc), Q v T'.heap Lc → Stand p l e R s m args below meth c T' (locs ++ Lc) (cells + rm.cells) (slots + rm.slots) → Go p e below G T' m q L (v.toList ++ rest)) : Go p e below G T m pc L S := by
  subst hq hS
  obtain ⟨v, _, ⟨T', L', k', n'⟩, -, X', ⟨Lc, hQ, l1, y1, z1⟩, st⟩ := Jvm.LawKit.callS X hx (y := y) hown (mvT hZ w1) (mvT hZ w2) (mvT hZ w3) (mvT hZ w4) hy (backOf (W := W) K hZ w4 w3 hf hl) (g := mkF m pc L (argsL.reverse ++ rest)) rfl hsize (argsL := argsL) (rest := rest) (lenOf hlen hl2) rfl (by show 2 * 0 + _ ≤ _; omega) hd (fun _ _ => ⟨rfl, eT, hc, hn⟩)
  dsimp only [Pt.U, Pt.locs, Pt.cells, Pt.slots] at X' l1 y1 z1 st hQ
  subst l1 y1 z1
  exact Go.st st (k v T' Lc hQ X')
/-- what a pure body leaves -/
def PQ (w : Value) (h0 : Heap) (v : Option Value) (h : Heap) (L : List Loc) : Prop := v = some w ∧ h = h0 ∧ L = []
theorem callP (X : Stand p l e R s m args below meth c T locs cells slots) (hx : p.tables.exec = Jvm.exec) (hZ : Z.Warmed39 s.vm) (hown : s.vm.findClass own = some m.cls) {index : Nat} {y : MethodName} {bytes : ByteArray} {maxL : Nat} {ret : Option FieldType} {rm : Room} {w : Value} {W : Nat} {argsL rest : List Value}
    (w1 : (Jvm.Cond.methodLink own index y).before a0 Z = true) (w2 : (Jvm.Cond.static y).before a0 Z = true) (w3 : (Jvm.Cond.initialized y.cls).before a0 Z = true) (w4 : (Jvm.Cond.code y bytes maxL ret).before a0 Z = true) (hy : y.cls ≠ "java/lang/invoke/MethodHandle" ∧ y.cls ≠ "java/lang/invoke/VarHandle")
    (K : Ctr l y bytes maxL ret [] rm Z argsL.toArray h (PQ w h) 0 0) (hrc : rm.cells = 0) (hrs : rm.slots = 0) (eT : T.heap = h) (hf : rm.frames + 1 ≤ R.frames) (hl : W + (maxL + 11) + rm.locals ≤ R.locals) (hc : cells ≤ R.cells) (hn : slots ≤ R.slots) (hsize : L.size = c.maxLocals)
    {ps : List FieldType} {r : Option FieldType} (hlen : parseMethodDescriptor y.desc = some ⟨ps, r⟩) (hl2 : argsL.length = ps.length) (hS : S = argsL.reverse ++ rest) (hW : (rest.map fun v => v.category).sum ≤ W) (hd : decode c.code pc = .ok (.invokestatic index, 3)) (hq : pc + 3 = q)
    (k : ∀ (T' : State), Stand p l e R s m args below meth c T' locs cells slots → T'.heap = h → Go p e below G T' m q L (w :: rest)) : Go p e below G T m pc L S := by
  refine callC X hx hZ hown w1 w2 w3 w4 hy (rm := rm) (Q := PQ w h) (by rw [hrc, hrs]; exact K) eT hf hl (by rw [hrc]; exact hc) (by rw [hrs]; exact hn) hsize hlen hl2 hS hW hd hq ?_
  rintro v T' Lc ⟨rfl, e', rfl⟩ X'
  rw [List.append_nil, hrc, hrs] at X'
  exact k T' X' e'
theorem callV (X : Stand p l e R s m args below meth c T locs cells slots) (hx : p.tables.exec = Jvm.exec) (hZ : Z.Warmed39 s.vm) (hown : s.vm.findClass own = some m.cls) {index : Nat} {y : MethodName} {bytes : ByteArray} {maxL : Nat} {ret : Option FieldType} {rm : Room} {Q : Option Value → Heap → List Loc → Prop} {W : Nat} {argsL rest : List Value}
    (w1 : (Jvm.Cond.methodLink own index y).before a0 Z = true) (w2 : (Jvm.Cond.declares y).before a0 Z = true) (w3 : (Jvm.Cond.selects y.cls y y).before a0 Z = true) (w5 : (Jvm.Cond.instanceMethod y).before a0 Z = true) (w6 : (Jvm.Cond.initialized y.cls).before a0 Z = true) (w4 : (Jvm.Cond.code y bytes maxL ret).before a0 Z = true) (hy : y.cls ≠ "java/lang/invoke/MethodHandle" ∧ y.cls ≠ "java/lang/invoke/VarHandle")
    (A : Exa Z h a y.cls) (K : Ctr l y bytes maxL ret [] rm Z (.ref a :: argsL).toArray h Q rm.cells rm.slots) (eT : T.heap = h) (hf : rm.frames + 1 ≤ R.frames) (hl : W + (maxL + 11) + rm.locals ≤ R.locals) (hc : cells + rm.cells ≤ R.cells) (hn : slots + rm.slots ≤ R.slots) (hsize : L.size = c.maxLocals)
    {ps : List FieldType} {r : Option FieldType} (hlen : parseMethodDescriptor y.desc = some ⟨ps, r⟩) (hl2 : argsL.length = ps.length) (hS : S = argsL.reverse ++ .ref a :: rest) (hW : (rest.map fun v => v.category).sum ≤ W) (hd : decode c.code pc = .ok (.invokevirtual index, 3)) (hq : pc + 3 = q)
    (k : ∀ (v : Option Value) (T' : State) (Lc : List Loc), Q v T'.heap Lc → Stand p l e R s m args below meth c T' (locs ++ Lc) (cells + rm.cells) (slots + rm.slots) → Go p e below G T' m q L (v.toList ++ rest)) : Go p e below G T m pc L S := by
  subst hq hS
  obtain ⟨cq, kq, qa, qb, qc⟩ := isOf hZ eT A
  obtain ⟨v, _, ⟨T', L', k', n'⟩, -, X', ⟨Lc, hQ, l1, y1, z1⟩, st⟩ := X.virtualBack hx (y := y) (z := y) hown (mvT hZ w1) (mvT hZ w2) (notFace_of_selects (args := #[]) (mvT hZ w3)) (mvT hZ w3) (mvT hZ w5) hy (backOf (W := W) K hZ w4 w6 hf hl) qa qc (g := mkF m pc L (argsL.reverse ++ .ref a :: rest)) rfl hsize (Steps.refl _) (argsL := argsL) (rest := rest) (lenOf hlen hl2) rfl (by show 2 * 0 + _ ≤ _; omega) hd (fun _ _ => ⟨rfl, eT, hc, hn⟩)
  dsimp only [Pt.U, Pt.locs, Pt.cells, Pt.slots] at X' l1 y1 z1 st hQ
  subst l1 y1 z1
  exact Go.st (fun t h => st.trans h) (k v T' Lc hQ X')
theorem callI (X : Stand p l e R s m args below meth c T locs cells slots) (hx : p.tables.exec = Jvm.exec) (hZ : Z.Warmed39 s.vm) (hown : s.vm.findClass own = some m.cls) {index : Nat} {y : MethodName} {bytes : ByteArray} {maxL : Nat} {rm : Room} {Q : Option Value → Heap → List Loc → Prop} {W : Nat} {argsL rest : List Value} (hyn : y.name = "<init>")
    (w1 : (Jvm.Cond.methodLink own index y).before a0 Z = true) (w5 : (Jvm.Cond.instanceMethod y).before a0 Z = true) (w6 : (Jvm.Cond.initialized y.cls).before a0 Z = true) (w4 : (Jvm.Cond.code y bytes maxL none).before a0 Z = true) (hy : y.cls ≠ "java/lang/invoke/MethodHandle" ∧ y.cls ≠ "java/lang/invoke/VarHandle")
    (K : Ctr l y bytes maxL none [] rm Z (.ref a :: argsL).toArray h Q rm.cells rm.slots) (eT : T.heap = h) (hf : rm.frames + 1 ≤ R.frames) (hl : W + (maxL + 11) + rm.locals ≤ R.locals) (hc : cells + rm.cells ≤ R.cells) (hn : slots + rm.slots ≤ R.slots) (hsize : L.size = c.maxLocals)
    {ps : List FieldType} {r : Option FieldType} (hlen : parseMethodDescriptor y.desc = some ⟨ps, r⟩) (hl2 : argsL.length = ps.length) (hS : S = argsL.reverse ++ .ref a :: rest) (hW : (rest.map fun v => v.category).sum ≤ W) (hd : decode c.code pc = .ok (.invokespecial index, 3)) (hq : pc + 3 = q)
    (k : ∀ (v : Option Value) (T' : State) (Lc : List Loc), Q v T'.heap Lc → Stand p l e R s m args below meth c T' (locs ++ Lc) (cells + rm.cells) (slots + rm.slots) → Go p e below G T' m q L (v.toList ++ rest)) : Go p e below G T m pc L S := by
  subst hq hS
  obtain ⟨v, _, ⟨T', L', k', n'⟩, -, X', ⟨Lc, hQ, l1, y1, z1⟩, st⟩ := X.specialBack hx (y := y) hyn hown (mvT hZ w1) (mvT hZ w5) (mvT hZ w4) hy (backOf (W := W) K hZ w4 w6 hf hl) (g := mkF m pc L (argsL.reverse ++ .ref a :: rest)) rfl hsize (Steps.refl _) (a := a) (argsL := argsL) (rest := rest) (lenOf hlen hl2) rfl (by show 2 * 0 + _ ≤ _; omega) hd (fun _ _ => ⟨rfl, eT, hc, hn⟩)
  dsimp only [Pt.U, Pt.locs, Pt.cells, Pt.slots] at X' l1 y1 z1 st hQ
  subst l1 y1 z1
  exact Go.st (fun t h => st.trans h) (k v T' Lc hQ X')
theorem s_initO (X : Stand p l e R s m args below meth c T locs cells slots) (hx : p.tables.exec = Jvm.exec) (hZ : Z.Warmed39 s.vm) (hown : s.vm.findClass own = some m.cls) {index : Nat} {W : Nat} (w1 : (Jvm.Cond.methodLink own index Lib.objectInit).before a0 Z = true) (w2 : (Jvm.Cond.instanceMethod Lib.objectInit).before a0 Z = true)
    (w3 : (Jvm.Cond.code Lib.objectInit ⟨#[0xb1]⟩ 1 none).before a0 Z = true) (eT : T.heap = h) (hsize : L.size = c.maxLocals) (hf : 1 ≤ R.frames) (hW : (S.map fun v => v.category).sum ≤ W) (hl : W + 12 ≤ R.locals) (hd : decode c.code pc = .ok (.invokespecial index, 3)) (hq : pc + 3 = q)
    (k : ∀ T', Stand p l e R s m args below meth c T' locs cells slots → T'.heap = h → Go p e below G T' m q L S) : Go p e below G T m pc L (.ref a :: S) := by
  subst hq
  obtain ⟨T', X', e', st⟩ := initO X hx hZ hown w1 w2 w3 eT (g := mkF m pc L (.ref a :: S)) rfl hsize rfl hd hf (W := W) (by show 2 * 0 + _ ≤ _; omega) hl
  exact Go.st st (k T' X' e')
theorem s_getF (X : Stand p l e R s m args below meth c T locs cells slots) (hx : p.tables.exec = Jvm.exec) (hZ : Z.Warmed39 s.vm) (hown : s.vm.findClass own = some m.cls) {index : Nat} (w : (Jvm.Cond.fieldLink own index O n d).before a0 Z = true) (eT : T.heap = h) (F : Fld Z h a O n d v) (hd : decode c.code pc = .ok (.getfield index, 3)) (hq : pc + 3 = q)
    (k : ∀ T', Stand p l e R s m args below meth c T' locs cells slots → T'.heap = h → Go p e below G T' m q L (v :: S)) : Go p e below G T m pc L (.ref a :: S) := by
  subst hq
  obtain ⟨T', X', e', st⟩ := getF X hx hZ hown (host := "") (Or.inl w) Via.refl eT F (g := mkF m pc L (.ref a :: S)) rfl rfl hd
  exact Go.st st (k T' X' e')
theorem s_putF (X : Stand p l e R s m args below meth c T locs cells slots) (hx : p.tables.exec = Jvm.exec) (hZ : Z.Warmed39 s.vm) (hown : s.vm.findClass own = some m.cls) {index kk : Nat} {ty : FieldType} {v old : Value} (w : (Jvm.Cond.fieldLink own index O n d).before a0 Z = true) (eT : T.heap = h) (F : Fld Z h a O n d old) (E : Exa Z h a C)
    (Ly : (Jvm.Cond.lays C O n d).before a0 Z = true ∨ ((Jvm.Cond.laysFinal C O n d).before a0 Z = true ∧ own = O ∧ meth.name = "<init>")) (wi : (Jvm.Cond.instantiable C kk).before a0 Z = true) (hty : parseFieldDescriptor d = some ty) (hn : narrow ty v = v) (hfit : fits ty v = true) (N : Fr n0 locs) (hg : n0 ≤ a) (hd : decode c.code pc = .ok (.putfield index, 3)) (hq : pc + 3 = q)
    (k : ∀ (T' : State) (h' : Heap) (locs' : List Loc), Stand p l e R s m args below meth c T' locs' cells slots → Fr n0 locs' → T'.heap = h' → Wr h h' a (Jvm.RoadKit.slotOf Z O n d) v → Fld Z h' a O n d v → Go p e below G T' m q L S) : Go p e below G T m pc L (v :: .ref a :: S) := by
  subst hq
  obtain ⟨T', h', X', e', W, st⟩ := putF X hx hZ hown (host := "") (Or.inl w) Via.refl eT F E Ly wi hty hn hfit (g := mkF m pc L (v :: .ref a :: S)) rfl rfl hd
  exact Go.st st (k T' h' _ X' (Fr.snoc X' N hg) e' W (F.same W))
theorem s_new (X : Stand p l e R s m args below meth c T locs cells slots) (hx : p.tables.exec = Jvm.exec) (hZ : Z.Warmed39 s.vm) (hown : s.vm.findClass own = some m.cls) {index kk : Nat} (w : (Jvm.Cond.classLink own index C).before a0 Z = true) (wi : (Jvm.Cond.instantiable C kk).before a0 Z = true) (wz : (Jvm.Cond.initialized C).before a0 Z = true) (eT : T.heap = h)
    (hc : cells + 1 ≤ R.cells) (hl : slots + kk ≤ R.slots) (hd : decode c.code pc = .ok (.new index, 3)) (hq : pc + 3 = q)
    (k : ∀ (T' : State) (h' : Heap) (a : Addr), Stand p l e R s m args below meth c T' locs (cells + 1) (slots + kk) → T'.heap = h' → Ext h h' → a = h.size → Exa Z h' a C → (∀ (O nm d : String) (ty : FieldType), Laid Z a0 C O nm d → parseFieldDescriptor d = some ty → Fld Z h' a O nm d (defaultValue ty)) → Go p e below G T' m q L (.ref a :: S)) : Go p e below G T m pc L S := by
  subst hq
  obtain ⟨T', h', X', e', E, A, D, -, st⟩ := newO X hx hZ hown w wi wz eT (g := mkF m pc L S) rfl hd hc hl
  exact Go.st st (k T' h' _ X' e' E rfl A (fun _ _ _ _ L1 q1 => D L1 q1))
/-- an array of ints (bytes, chars ..) by its list -/
def AI (Z : State) (h : Heap) (a : Addr) (ty : FieldType) (xs : List Int32) : Prop := ∃ cl : Cell, Arr Z h a cl ty ∧ cl.slots.toList = xs.map Value.int ∧ xs.length < 2147483648
def AJ (Z : State) (h : Heap) (a : Addr) (xs : List Int64) : Prop := ∃ cl : Cell, Arr Z h a cl .long ∧ cl.slots.toList = xs.map Value.long ∧ xs.length < 2147483648
variable {ty : FieldType} {xs ys : List Int32} {us vs : List Int64} {w : Value} {sl : Nat} {ws : List Addr}
theorem AI.lt (A : AI Z h a ty xs) : a < h.size := by obtain ⟨c, A, -⟩ := A; exact A.lt
theorem AJ.lt (A : AJ Z h a us) : a < h.size := by obtain ⟨c, A, -⟩ := A; exact A.lt
theorem AI.ext (A : AI Z h a ty xs) (E : Ext h h') : AI Z h' a ty xs := by obtain ⟨c, A, r⟩ := A; exact ⟨c, A.ext E, r⟩
theorem AJ.ext (A : AJ Z h a us) (E : Ext h h') : AJ Z h' a us := by obtain ⟨c, A, r⟩ := A; exact ⟨c, A.ext E, r⟩
theorem AI.other (A : AI Z h a ty xs) (W : Wr h h' b sl w) (q : a ≠ b) : AI Z h' a ty xs := by obtain ⟨c, A, r⟩ := A; exact ⟨c, A.other W q, r⟩
theorem AJ.other (A : AJ Z h a us) (W : Wr h h' b sl w) (q : a ≠ b) : AJ Z h' a us := by obtain ⟨c, A, r⟩ := A; exact ⟨c, A.other W q, r⟩
theorem AI.keep (A : AI Z h a ty xs) (K : Keep h h' ws) (q : a ∉ ws) : AI Z h' a ty xs := by obtain ⟨c, A, r⟩ := A; exact ⟨c, ⟨K.2.1 a c A.1 q, A.2⟩, r⟩
theorem AJ.keep (A : AJ Z h a us) (K : Keep h h' ws) (q : a ∉ ws) : AJ Z h' a us := by obtain ⟨c, A, r⟩ := A; exact ⟨c, ⟨K.2.1 a c A.1 q, A.2⟩, r⟩
theorem set_list (cl : Cell) (i : Nat) (v : Value) : (cl.setSlot i v).slots.toList = cl.slots.toList.set i v := by
  show (cl.slots.setIfInBounds i v).toList = _
  exact Array.toList_setIfInBounds ..
theorem AI.same (A : AI Z h a ty xs) {i : Nat} {x : Int32} (W : Wr h h' a i (.int x)) : AI Z h' a ty (xs.set i x) := by
  obtain ⟨c, A, e, n⟩ := A
  exact ⟨_, A.same W, by rw [set_list, e, List.map_set], by rw [List.length_set]; exact n⟩
theorem AJ.same (A : AJ Z h a us) {i : Nat} {x : Int64} (W : Wr h h' a i (.long x)) : AJ Z h' a (us.set i x) := by
  obtain ⟨c, A, e, n⟩ := A
  exact ⟨_, A.same W, by rw [set_list, e, List.map_set], by rw [List.length_set]; exact n⟩
theorem own_size {cl : Cell} {α : Type} {zs : List α} {f : α → Value} (e : cl.slots.toList = zs.map f) : cl.slots.size = zs.length := by
  rw [← Array.length_toList, e, List.length_map]
theorem own_at {cl : Cell} {α : Type} {zs : List α} {f : α → Value} (e : cl.slots.toList = zs.map f) {i : Nat} {x : α} (q : zs[i]? = some x) : cl.slots[i]? = some (f x) := by
  rw [← Array.getElem?_toList, e, List.getElem?_map, q]; rfl
theorem own_in {cl : Cell} {α : Type} {zs : List α} {f : α → Value} (e : cl.slots.toList = zs.map f) {j : Int32} (hj : ¬ j < 0) (q : j.toNatClampNeg < zs.length) : ¬ (j < 0 ∨ cl.slots.size ≤ j.toNatClampNeg) := by
  rw [own_size e]; intro h; rcases h with h | h
  · exact hj h
  · omega
theorem own_inl {α : Type} {zs : List α} {i : Nat} {x : α} (q : zs[i]? = some x) : i < zs.length := (List.getElem?_eq_some_iff.mp q).1
theorem s_iaload (X : Stand p l e R s m args below meth c T locs cells slots) (hx : p.tables.exec = Jvm.exec) (hZ : Z.Warmed39 s.vm) (eT : T.heap = h) {j : Int32} {x : Int32} (A : AI Z h a .int xs) (hj : ¬ j < 0) {i : Nat} (hji : j.toNatClampNeg = i) (hv : xs[i]? = some x) (hd : decode c.code pc = .ok (.iaload, 1)) (hq : pc + 1 = q) (K : Go p e below G T m q L (.int x :: S)) : Go p e below G T m pc L (.int j :: .ref a :: S) := by
  subst hq hji; obtain ⟨cl, Ar, ex, -⟩ := A
  exact Go.st (fun t k => X.iaload hx (j := j) (v := .int x) (by rw [eT]; exact Ar.1) (State.isArrayOf_alike hZ.alike Ar.2.1) Ar.2.2 (own_in ex hj (own_inl hv)) (own_at ex hv) (g := mkF m pc L (.int j :: .ref a :: S)) rfl rfl hd t k) K
theorem s_caload (X : Stand p l e R s m args below meth c T locs cells slots) (hx : p.tables.exec = Jvm.exec) (hZ : Z.Warmed39 s.vm) (eT : T.heap = h) {j : Int32} {x : Int32} (A : AI Z h a .char xs) (hj : ¬ j < 0) {i : Nat} (hji : j.toNatClampNeg = i) (hv : xs[i]? = some x) (hd : decode c.code pc = .ok (.caload, 1)) (hq : pc + 1 = q) (K : Go p e below G T m q L (.int x :: S)) : Go p e below G T m pc L (.int j :: .ref a :: S) := by
  subst hq hji; obtain ⟨cl, Ar, ex, -⟩ := A
  exact Go.st (fun t k => X.caload hx (j := j) (v := .int x) (by rw [eT]; exact Ar.1) (State.isArrayOf_alike hZ.alike Ar.2.1) Ar.2.2 (own_in ex hj (own_inl hv)) (own_at ex hv) (g := mkF m pc L (.int j :: .ref a :: S)) rfl rfl hd t k) K
theorem s_baload (X : Stand p l e R s m args below meth c T locs cells slots) (hx : p.tables.exec = Jvm.exec) (hZ : Z.Warmed39 s.vm) (eT : T.heap = h) {j : Int32} {x : Int32} (A : AI Z h a .byte xs) (hj : ¬ j < 0) {i : Nat} (hji : j.toNatClampNeg = i) (hv : xs[i]? = some x) (hd : decode c.code pc = .ok (.baload, 1)) (hq : pc + 1 = q) (K : Go p e below G T m q L (.int x :: S)) : Go p e below G T m pc L (.int j :: .ref a :: S) := by
  subst hq hji; obtain ⟨cl, Ar, ex, -⟩ := A
  exact Go.st (fun t k => X.baloadBytes hx (j := j) (v := .int x) (by rw [eT]; exact Ar.1) (State.isArrayOf_alike hZ.alike Ar.2.1) Ar.2.2 (own_in ex hj (own_inl hv)) (own_at ex hv) (g := mkF m pc L (.int j :: .ref a :: S)) rfl rfl hd t k) K
theorem s_laload (X : Stand p l e R s m args below meth c T locs cells slots) (hx : p.tables.exec = Jvm.exec) (hZ : Z.Warmed39 s.vm) (eT : T.heap = h) {j : Int32} {x : Int64} (A : AJ Z h a us) (hj : ¬ j < 0) {i : Nat} (hji : j.toNatClampNeg = i) (hv : us[i]? = some x) (hd : decode c.code pc = .ok (.laload, 1)) (hq : pc + 1 = q) (K : Go p e below G T m q L (.long x :: S)) : Go p e below G T m pc L (.int j :: .ref a :: S) := by
  subst hq hji; obtain ⟨cl, Ar, ex, -⟩ := A
  exact Go.st (fun t k => X.laload hx (j := j) (v := .long x) (by rw [eT]; exact Ar.1) (State.isArrayOf_alike hZ.alike Ar.2.1) Ar.2.2 (own_in ex hj (own_inl hv)) (own_at ex hv) (g := mkF m pc L (.int j :: .ref a :: S)) rfl rfl hd t k) K
theorem s_iastore (X : Stand p l e R s m args below meth c T locs cells slots) (hx : p.tables.exec = Jvm.exec) (hZ : Z.Warmed39 s.vm) (eT : T.heap = h) {j : Int32} {x : Int32} (A : AI Z h a .int xs) (N : Fr n0 locs) (hg : n0 ≤ a) (hj : ¬ j < 0) {i : Nat} (hji : j.toNatClampNeg = i) (hi : i < xs.length) (hs : xs.set i x = ys) (hd : decode c.code pc = .ok (.iastore, 1)) (hq : pc + 1 = q)
    (k : ∀ (T' : State) (h' : Heap) (locs' : List Loc), Stand p l e R s m args below meth c T' locs' cells slots → Fr n0 locs' → T'.heap = h' → Wr h h' a i (.int x) → AI Z h' a .int ys → Go p e below G T' m q L S) : Go p e below G T m pc L (.int x :: .int j :: .ref a :: S) := by
  subst hq hs hji; have A0 := A; obtain ⟨cl, Ar, ex, -⟩ := A
  obtain ⟨T', h', X', e', W, st⟩ := Jvm.RoadKit.stI X hx hZ eT Ar (j := j) (own_in ex hj hi) (g := mkF m pc L (.int x :: .int j :: .ref a :: S)) rfl rfl hd
  exact Go.st st (k T' h' _ X' (Fr.snoc X' N hg) e' W (A0.same W))
theorem s_castore (X : Stand p l e R s m args below meth c T locs cells slots) (hx : p.tables.exec = Jvm.exec) (hZ : Z.Warmed39 s.vm) (eT : T.heap = h) {j : Int32} {x : Int32} (A : AI Z h a .char xs) (N : Fr n0 locs) (hg : n0 ≤ a) (hj : ¬ j < 0) {i : Nat} (hji : j.toNatClampNeg = i) (hi : i < xs.length) (hs : xs.set i (nar .char x) = ys) (hd : decode c.code pc = .ok (.castore, 1)) (hq : pc + 1 = q)
    (k : ∀ (T' : State) (h' : Heap) (locs' : List Loc), Stand p l e R s m args below meth c T' locs' cells slots → Fr n0 locs' → T'.heap = h' → Wr h h' a i (.int (nar .char x)) → AI Z h' a .char ys → Go p e below G T' m q L S) : Go p e below G T m pc L (.int x :: .int j :: .ref a :: S) := by
  subst hq hs hji; have A0 := A; obtain ⟨cl, Ar, ex, -⟩ := A
  obtain ⟨T', h', X', e', W, st⟩ := stC X hx hZ eT Ar (j := j) (own_in ex hj hi) (g := mkF m pc L (.int x :: .int j :: .ref a :: S)) rfl rfl hd
  exact Go.st st (k T' h' _ X' (Fr.snoc X' N hg) e' W (A0.same W))
theorem s_bastore (X : Stand p l e R s m args below meth c T locs cells slots) (hx : p.tables.exec = Jvm.exec) (hZ : Z.Warmed39 s.vm) (eT : T.heap = h) {j : Int32} {x : Int32} (A : AI Z h a .byte xs) (N : Fr n0 locs) (hg : n0 ≤ a) (hj : ¬ j < 0) {i : Nat} (hji : j.toNatClampNeg = i) (hi : i < xs.length) (hs : xs.set i (nar .byte x) = ys) (hd : decode c.code pc = .ok (.bastore, 1)) (hq : pc + 1 = q)
    (k : ∀ (T' : State) (h' : Heap) (locs' : List Loc), Stand p l e R s m args below meth c T' locs' cells slots → Fr n0 locs' → T'.heap = h' → Wr h h' a i (.int (nar .byte x)) → AI Z h' a .byte ys → Go p e below G T' m q L S) : Go p e below G T m pc L (.int x :: .int j :: .ref a :: S) := by
  subst hq hs hji; have A0 := A; obtain ⟨cl, Ar, ex, -⟩ := A
  obtain ⟨T', h', X', e', W, st⟩ := stB X hx hZ eT Ar (j := j) (own_in ex hj hi) (g := mkF m pc L (.int x :: .int j :: .ref a :: S)) rfl rfl hd
  exact Go.st st (k T' h' _ X' (Fr.snoc X' N hg) e' W (A0.same W))
theorem s_lastore (X : Stand p l e R s m args below meth c T locs cells slots) (hx : p.tables.exec = Jvm.exec) (hZ : Z.Warmed39 s.vm) (eT : T.heap = h) {j : Int32} {x : Int64} (A : AJ Z h a us) (N : Fr n0 locs) (hg : n0 ≤ a) (hj : ¬ j < 0) {i : Nat} (hji : j.toNatClampNeg = i) (hi : i < us.length) (hs : us.set i x = vs) (hd : decode c.code pc = .ok (.lastore, 1)) (hq : pc + 1 = q)
    (k : ∀ (T' : State) (h' : Heap) (locs' : List Loc), Stand p l e R s m args below meth c T' locs' cells slots → Fr n0 locs' → T'.heap = h' → Wr h h' a i (.long x) → AJ Z h' a vs → Go p e below G T' m q L S) : Go p e below G T m pc L (.long x :: .int j :: .ref a :: S) := by
  subst hq hs hji; have A0 := A; obtain ⟨cl, Ar, ex, -⟩ := A
  obtain ⟨T', h', X', e', W, st⟩ := Jvm.RoadKit.stJ X hx hZ eT Ar (j := j) (own_in ex hj hi) (g := mkF m pc L (.long x :: .int j :: .ref a :: S)) rfl rfl hd
  exact Go.st st (k T' h' _ X' (Fr.snoc X' N hg) e' W (A0.same W))
theorem s_newI (X : Stand p l e R s m args below meth c T locs cells slots) (hx : p.tables.exec = Jvm.exec) (hZ : Z.Warmed39 s.vm) (w : (Jvm.Cond.arrayClass .int).before a0 Z = true) (eT : T.heap = h) {z : Int32} (hz : ¬ z < 0) {cap : Nat} (hcap : z.toNatClampNeg ≤ cap) (hb8 : cap * 8 ≤ 536870912) (hc : cells + 1 ≤ R.cells) (hl : slots + cap ≤ R.slots) (hs : List.replicate z.toNatClampNeg 0 = ys) (hd : decode c.code pc = .ok (.newarray .int, 2)) (hq : pc + 2 = q)
    (k : ∀ (T' : State) (h' : Heap) (a : Addr), Stand p l e R s m args below meth c T' locs (cells + 1) (slots + cap) → T'.heap = h' → Ext h h' → a = h.size → AI Z h' a .int ys → Go p e below G T' m q L (.ref a :: S)) : Go p e below G T m pc L (.int z :: S) := by
  subst hq hs
  obtain ⟨T', h', cA, X', e', E, A, st⟩ := newP X hx hZ (aty := .int) w eT (g := mkF m pc L (.int z :: S)) rfl hd rfl hz (cap := cap) hcap hb8 hc hl
  refine Go.st st (k T' h' _ X' e' E rfl ⟨_, A, ?_, ?_⟩)
  · simp [newA, defaultValue, newarray.typeOf]
  · rw [List.length_replicate]; have := z.toInt_lt; simp only [Int32.toNatClampNeg]; omega
theorem s_newC (X : Stand p l e R s m args below meth c T locs cells slots) (hx : p.tables.exec = Jvm.exec) (hZ : Z.Warmed39 s.vm) (w : (Jvm.Cond.arrayClass .char).before a0 Z = true) (eT : T.heap = h) {z : Int32} (hz : ¬ z < 0) {cap : Nat} (hcap : z.toNatClampNeg ≤ cap) (hb8 : cap * 8 ≤ 536870912) (hc : cells + 1 ≤ R.cells) (hl : slots + cap ≤ R.slots) (hs : List.replicate z.toNatClampNeg 0 = ys) (hd : decode c.code pc = .ok (.newarray .char, 2)) (hq : pc + 2 = q)
    (k : ∀ (T' : State) (h' : Heap) (a : Addr), Stand p l e R s m args below meth c T' locs (cells + 1) (slots + cap) → T'.heap = h' → Ext h h' → a = h.size → AI Z h' a .char ys → Go p e below G T' m q L (.ref a :: S)) : Go p e below G T m pc L (.int z :: S) := by
  subst hq hs
  obtain ⟨T', h', cA, X', e', E, A, st⟩ := newP X hx hZ (aty := .char) w eT (g := mkF m pc L (.int z :: S)) rfl hd rfl hz (cap := cap) hcap hb8 hc hl
  refine Go.st st (k T' h' _ X' e' E rfl ⟨_, A, ?_, ?_⟩)
  · simp [newA, defaultValue, newarray.typeOf]
  · rw [List.length_replicate]; have := z.toInt_lt; simp only [Int32.toNatClampNeg]; omega
theorem s_newB (X : Stand p l e R s m args below meth c T locs cells slots) (hx : p.tables.exec = Jvm.exec) (hZ : Z.Warmed39 s.vm) (w : (Jvm.Cond.arrayClass .byte).before a0 Z = true) (eT : T.heap = h) {z : Int32} (hz : ¬ z < 0) {cap : Nat} (hcap : z.toNatClampNeg ≤ cap) (hb8 : cap * 8 ≤ 536870912) (hc : cells + 1 ≤ R.cells) (hl : slots + cap ≤ R.slots) (hs : List.replicate z.toNatClampNeg 0 = ys) (hd : decode c.code pc = .ok (.newarray .byte, 2)) (hq : pc + 2 = q)
    (k : ∀ (T' : State) (h' : Heap) (a : Addr), Stand p l e R s m args below meth c T' locs (cells + 1) (slots + cap) → T'.heap = h' → Ext h h' → a = h.size → AI Z h' a .byte ys → Go p e below G T' m q L (.ref a :: S)) : Go p e below G T m pc L (.int z :: S) := by
  subst hq hs
  obtain ⟨T', h', cA, X', e', E, A, st⟩ := newP X hx hZ (aty := .byte) w eT (g := mkF m pc L (.int z :: S)) rfl hd rfl hz (cap := cap) hcap hb8 hc hl
  refine Go.st st (k T' h' _ X' e' E rfl ⟨_, A, ?_, ?_⟩)
  · simp [newA, defaultValue, newarray.typeOf]
  · rw [List.length_replicate]; have := z.toInt_lt; simp only [Int32.toNatClampNeg]; omega
theorem s_newJ (X : Stand p l e R s m args below meth c T locs cells slots) (hx : p.tables.exec = Jvm.exec) (hZ : Z.Warmed39 s.vm) (w : (Jvm.Cond.arrayClass .long).before a0 Z = true) (eT : T.heap = h) {z : Int32} (hz : ¬ z < 0) {cap : Nat} (hcap : z.toNatClampNeg ≤ cap) (hb8 : cap * 8 ≤ 536870912) (hc : cells + 1 ≤ R.cells) (hl : slots + cap ≤ R.slots) (hs : List.replicate z.toNatClampNeg 0 = vs) (hd : decode c.code pc = .ok (.newarray .long, 2)) (hq : pc + 2 = q)
    (k : ∀ (T' : State) (h' : Heap) (a : Addr), Stand p l e R s m args below meth c T' locs (cells + 1) (slots + cap) → T'.heap = h' → Ext h h' → a = h.size → AJ Z h' a vs → Go p e below G T' m q L (.ref a :: S)) : Go p e below G T m pc L (.int z :: S) := by
  subst hq hs
  obtain ⟨T', h', cA, X', e', E, A, st⟩ := newP X hx hZ (aty := .long) w eT (g := mkF m pc L (.int z :: S)) rfl hd rfl hz (cap := cap) hcap hb8 hc hl
  refine Go.st st (k T' h' _ X' e' E rfl ⟨_, A, ?_, ?_⟩)
  · simp [newA, defaultValue, newarray.typeOf]
  · rw [List.length_replicate]; have := z.toInt_lt; simp only [Int32.toNatClampNeg]; omega
theorem s_lenI (X : Stand p l e R s m args below meth c T locs cells slots) (hx : p.tables.exec = Jvm.exec) (hZ : Z.Warmed39 s.vm) (eT : T.heap = h) {z : Int32} (A : AI Z h a ty xs) (hz : xs.length.toInt32 = z) (hd : decode c.code pc = .ok (.arraylength, 1)) (hq : pc + 1 = q) (K : Go p e below G T m q L (.int z :: S)) : Go p e below G T m pc L (.ref a :: S) := by
  subst hq hz; obtain ⟨cl, Ar, ex, -⟩ := A
  rw [← own_size ex] at K
  exact Go.st (fun t k => X.arraylength hx (by rw [eT]; exact Ar.1) (State.isArrayOf_alike hZ.alike Ar.2.1) (g := mkF m pc L (.ref a :: S)) rfl rfl hd t k) K
theorem s_lenJ (X : Stand p l e R s m args below meth c T locs cells slots) (hx : p.tables.exec = Jvm.exec) (hZ : Z.Warmed39 s.vm) (eT : T.heap = h) {z : Int32} (A : AJ Z h a us) (hz : us.length.toInt32 = z) (hd : decode c.code pc = .ok (.arraylength, 1)) (hq : pc + 1 = q) (K : Go p e below G T m q L (.int z :: S)) : Go p e below G T m pc L (.ref a :: S) := by
  subst hq hz; obtain ⟨cl, Ar, ex, -⟩ := A
  rw [← own_size ex] at K
  exact Go.st (fun t k => X.arraylength hx (by rw [eT]; exact Ar.1) (State.isArrayOf_alike hZ.alike Ar.2.1) (g := mkF m pc L (.ref a :: S)) rfl rfl hd t k) K
theorem own_mask_nn (x m : Int32) (h0 : 0 ≤ m.toInt) : ¬ (x &&& m) < 0 := by
  have := c_and x m h0; rw [Int32.lt_iff_toInt_lt]; show ¬ (x &&& m).toInt < 0; omega
theorem own_mask_ix (x m : Int32) {N : Nat} (h0 : 0 ≤ m.toInt) (h : m.toInt < N) : (x &&& m).toNatClampNeg < N := by
  have := c_and x m h0; simp only [Int32.toNatClampNeg]; omega
theorem own_idx {k n : Int32} {N : Nat} (h0 : ¬ k < 0) (h : k < n) (hn : n.toInt = N) : k.toNatClampNeg < N := by
  have e0 : (0 : Int32).toInt = 0 := rfl
  simp only [Int32.lt_iff_toInt_lt, Int32.toNatClampNeg] at *; omega
theorem own_cs {x : Int32} {k : Int} (b : Int32) (hb : b.toInt = k) (h : x.toInt = k) : x = b := Int32.toInt_inj.mp (h.trans hb.symm)
theorem own_lt {x b : Int32} {k : Int} (hb : b.toInt = k) (h : x.toInt < k) : x < b := by rw [Int32.lt_iff_toInt_lt, hb]; exact h
theorem own_nlt {x b : Int32} {k : Int} (hb : b.toInt = k) (h : k ≤ x.toInt) : ¬ x < b := by rw [Int32.lt_iff_toInt_lt, hb]; omega
theorem own_gt {x b : Int32} {k : Int} (hb : b.toInt = k) (h : k < x.toInt) : b < x := by rw [Int32.lt_iff_toInt_lt, hb]; exact h
theorem own_ngt {x b : Int32} {k : Int} (hb : b.toInt = k) (h : x.toInt ≤ k) : ¬ b < x := by rw [Int32.lt_iff_toInt_lt, hb]; omega
theorem own_eqi {x b : Int32} {k : Int} (hb : b.toInt = k) (h : x.toInt = k) : x = b := Int32.toInt_inj.mp (h.trans hb.symm)
theorem own_nei {x b : Int32} {k : Int} (hb : b.toInt = k) (h : x.toInt ≠ k) : ¬ x = b := fun q => h (by rw [q, hb])
end Kit
/-- the byte of a number -/
def bb (n : Nat) : Int32 := (Int8.ofNat n).toInt32
theorem bb_bv {x : Int8} {n : Nat} (h : x.toBitVec.toNat = n % 256) : x.toInt32 = bb n := by
  have : x = Int8.ofNat n := Int8.toBitVec_inj.mp (BitVec.eq_of_toNat_eq (by rw [h]; show _ = (BitVec.ofNat 8 n).toNat; rw [BitVec.toNat_ofNat]))
  rw [this]; rfl
theorem bb_mod (n : Nat) : bb (n % 256) = bb n := by
  have h : Int8.ofNat (n % 256) = Int8.ofNat n := Int8.toBitVec_inj.mp (BitVec.eq_of_toNat_eq (by show (BitVec.ofNat 8 _).toNat = (BitVec.ofNat 8 _).toNat; simp))
  unfold bb; rw [h]
theorem bb_and (n : Nat) : (bb n) &&& 255 = Int32.ofNat (n % 256) := by
  rw [← bb_mod]
  have h : ∀ k : Fin 256, (bb k.val) &&& 255 = Int32.ofNat k.val := by decide +kernel
  exact h ⟨n % 256, Nat.mod_lt _ (by decide)⟩
theorem own_amt : ∀ s : Fin 64, ((Int32.ofNat s.val) &&& 0x3f).toInt64.toUInt64 = UInt64.ofNat s.val := by decide +kernel
theorem own_q64 (s : Nat) (h : s < 64) : (Int32.ofNat s).toBitVec.toNat % 64 = s := by
  show (BitVec.ofNat 32 s).toNat % 64 = s
  rw [BitVec.toNat_ofNat]; omega
theorem own_shrb (P : Int64) (s : Nat) (h : s < 64) : (((P.toUInt64 >>> ((Int32.ofNat s) &&& 0x3f).toInt64.toUInt64).toInt64)).toBitVec = P.toBitVec >>> s := by
  have e := own_amt ⟨s, h⟩
  rw [show ((Int32.ofNat s) &&& 0x3f).toInt64.toUInt64 = UInt64.ofNat s from e]
  show (P.toUInt64 >>> UInt64.ofNat s).toBitVec = _
  rw [UInt64.toBitVec_shiftRight, BitVec.ushiftRight_eq']
  show P.toBitVec >>> _ = _
  congr 1
  rw [BitVec.toNat_umod]
  show (BitVec.ofNat 64 s).toNat % 64 = s
  rw [BitVec.toNat_ofNat]; omega
theorem own_shlb (x : Int64) (q : Int32) (k : Nat) (hk : q.toBitVec.toNat % 64 = k) : (x <<< (q &&& 0x3f).toInt64).toBitVec = x.toBitVec <<< k := by
  have h := sm64 q k hk
  show x.toBitVec <<< ((q &&& 0x3f).toInt64.toBitVec.smod 64) = _
  rw [h.1, BitVec.shiftLeft_eq', smod64 k h.2]
theorem own_low8 (X : Int64) : X.toInt32.toInt8.toBitVec.toNat = X.toBitVec.toNat % 256 := by
  show ((X.toBitVec.signExtend 32).signExtend 8).toNat = _
  rw [BitVec.signExtend_eq_setWidth_of_le _ (by decide), BitVec.signExtend_eq_setWidth_of_le _ (by decide), BitVec.toNat_setWidth, BitVec.toNat_setWidth]
  omega
theorem own_nar (x : Int8) : nar .byte x.toInt32 = x.toInt32 := by
  show x.toInt32.toInt8.toInt32 = _
  rw [Int8.toInt8_toInt32]
theorem own_BY (P : Int64) (V s : Nat) (hP : P.toBitVec = BitVec.ofNat 64 V) (hs : s + 8 ≤ 64) : nar .byte ((((P.toUInt64 >>> ((Int32.ofNat s) &&& 0x3f).toInt64.toUInt64).toInt64)).toInt32.toInt8.toInt32) = bb (V >>> s) := by
  rw [own_nar]
  apply bb_bv
  rw [own_low8, own_shrb P s (by omega), BitVec.toNat_ushiftRight, hP, BitVec.toNat_ofNat]
  show (V % 2 ^ 64) >>> s % 2 ^ 8 = V >>> s % 2 ^ 8
  apply Nat.eq_of_testBit_eq
  intro i
  simp only [Nat.testBit_mod_two_pow, Nat.testBit_shiftRight]
  by_cases hi : i < 8
  · have : s + i < 64 := by omega
    simp [hi, this]
  · simp [hi]
theorem own_BYL (P : Int64) (V : Nat) (q : Int32) (k : Nat) (hP : P.toBitVec = BitVec.ofNat 64 V) (hk : q.toBitVec.toNat % 64 = k) : nar .byte ((P <<< (q &&& 0x3f).toInt64).toInt32.toInt8.toInt32) = bb (V <<< k) := by
  rw [own_nar]
  apply bb_bv
  rw [own_low8, own_shlb P q k hk, BitVec.toNat_shiftLeft, hP, BitVec.toNat_ofNat]
  show (V % 2 ^ 64) <<< k % 2 ^ 64 % 2 ^ 8 = V <<< k % 2 ^ 8
  apply Nat.eq_of_testBit_eq
  intro i
  simp only [Nat.testBit_mod_two_pow, Nat.testBit_shiftLeft]
  by_cases hi : i < 8
  · have h1 : i < 64 := by omega
    have h2 : i - k < 64 := by omega
    simp [hi, h1, h2]
  · simp [hi]
theorem own_i2l (v : Nat) (h : v < 2 ^ 31) : (Int32.ofNat v).toInt64.toBitVec = BitVec.ofNat 64 v := by
  apply BitVec.eq_of_toInt_eq
  show ((Int32.ofNat v).toInt64).toInt = _
  rw [c_i2l, Int32.toInt_ofNat_small (by omega), BitVec.toInt_eq_toNat_cond, BitVec.toNat_ofNat]
  rw [Nat.mod_eq_of_lt (by omega), if_pos (by omega)]
theorem own_app (P : Int64) (V c v : Nat) (hP : P.toBitVec = BitVec.ofNat 64 V) (hc : c < 64) (hv : v < 2 ^ 31) : ((P <<< ((Int32.ofNat c) &&& 0x3f).toInt64) ||| (Int32.ofNat v).toInt64).toBitVec = BitVec.ofNat 64 (V <<< c ||| v) := by
  rw [Int64.toBitVec_or, own_shlb P _ c (own_q64 c hc), own_i2l v hv, hP]
  apply BitVec.eq_of_toNat_eq
  rw [BitVec.toNat_or, BitVec.toNat_shiftLeft, BitVec.toNat_ofNat, BitVec.toNat_ofNat, BitVec.toNat_ofNat]
  apply Nat.eq_of_testBit_eq
  intro i
  simp only [Nat.testBit_mod_two_pow, Nat.testBit_shiftLeft, Nat.testBit_or]
  by_cases hi : i < 64
  · have h2 : i - c < 64 := by omega
    simp [hi, h2]
  · simp [hi]
/-- the stream V of T bits: its whole bytes, then zeros -/
def sb (V T i : Nat) : Int32 := if 8 * (i + 1) ≤ T then bb (V >>> (T - 8 * (i + 1))) else 0
def ML (L : Nat) (f : Nat → Int32) : List Int32 := (List.range L).map f
theorem ML_len (L : Nat) (f : Nat → Int32) : (ML L f).length = L := by simp [ML]
theorem ML_at (L : Nat) (f : Nat → Int32) {i : Nat} (h : i < L) : (ML L f)[i]? = some (f i) := by
  unfold ML; rw [List.getElem?_map, List.getElem?_range h]; rfl
theorem ML_eq {L : Nat} {f g : Nat → Int32} (h : ∀ i, i < L → f i = g i) : ML L f = ML L g := by
  unfold ML; apply List.map_congr_left; intro i hi; exact h i (List.mem_range.mp hi)
theorem ML_set {L : Nat} {f g : Nat → Int32} {k : Nat} {v : Int32} (h : ∀ i, i < L → g i = if i = k then v else f i) : (ML L f).set k v = ML L g := by
  apply List.ext_getElem?
  intro i
  by_cases hi : i < L
  · rw [ML_at L g hi, h i hi]
    by_cases e : i = k
    · subst e; rw [List.getElem?_set_self (by rw [ML_len]; exact hi), if_pos rfl]
    · rw [List.getElem?_set_ne (Ne.symm e), ML_at L f hi, if_neg e]
  · rw [List.getElem?_eq_none (by rw [List.length_set, ML_len]; omega), List.getElem?_eq_none (by rw [ML_len]; omega)]
theorem ML_zero (L : Nat) : List.replicate L (0 : Int32) = ML L (sb 0 0) := by
  apply List.ext_getElem?
  intro i
  by_cases hi : i < L
  · rw [ML_at L _ hi, List.getElem?_replicate, if_pos hi]; unfold sb; rw [if_neg (by omega)]
  · rw [List.getElem?_eq_none (by simpa using hi), List.getElem?_eq_none (by rw [ML_len]; omega)]
theorem sb_old (V T c v i : Nat) (hv : v < 2 ^ c) (h : 8 * (i + 1) ≤ T) : sb (V <<< c ||| v) (T + c) i = sb V T i := by
  unfold sb
  rw [if_pos h, if_pos (by omega)]
  congr 1
  rw [show T + c - 8 * (i + 1) = c + (T - 8 * (i + 1)) by omega, Nat.shiftRight_add]
  congr 1
  apply Nat.eq_of_testBit_eq
  intro j
  rw [Nat.testBit_shiftRight, Nat.testBit_or, Nat.testBit_shiftLeft, Nat.testBit_lt_two_pow (Nat.lt_of_lt_of_le hv (Nat.pow_le_pow_right (by decide) (Nat.le_add_right c j)))]
  simp
theorem o_lt {a b : Nat} (ha : a < 2147483648) (hb : b < 2147483648) : (Int32.ofNat a < Int32.ofNat b) ↔ a < b := by
  rw [Int32.lt_iff_toInt_lt, Int32.toInt_ofNat_small (by omega), Int32.toInt_ofNat_small (by omega)]; omega
theorem o_sub {a b : Nat} (ha : a < 2147483648) (h : b ≤ a) : Int32.ofNat a - Int32.ofNat b = Int32.ofNat (a - b) := by
  apply Int32.toInt_inj.mp
  have q := c_isub (Int32.ofNat a) (Int32.ofNat b); have r := rng32 (Int32.ofNat a - Int32.ofNat b)
  rw [Int32.toInt_ofNat_small (by omega), Int32.toInt_ofNat_small (by omega)] at q
  rw [Int32.toInt_ofNat_small (by omega)]; omega
theorem o_add {a b : Nat} (h : a + b < 2147483648) : Int32.ofNat a + Int32.ofNat b = Int32.ofNat (a + b) := by
  apply Int32.toInt_inj.mp
  have q := c_iadd (Int32.ofNat a) (Int32.ofNat b); have r := rng32 (Int32.ofNat a + Int32.ofNat b)
  rw [Int32.toInt_ofNat_small (by omega), Int32.toInt_ofNat_small (by omega)] at q
  rw [Int32.toInt_ofNat_small (by omega)]; omega
theorem o_nn {a : Nat} (ha : a < 2147483648) : ¬ Int32.ofNat a < 0 := by
  rw [Int32.lt_iff_toInt_lt, Int32.toInt_ofNat_small (by omega)]; show ¬ (a : Int) < 0; omega
theorem o_nat {a : Nat} (ha : a < 2147483648) : (Int32.ofNat a).toNatClampNeg = a := by
  simp only [Int32.toNatClampNeg, Int32.toInt_ofNat_small ha]; rfl
def wf (f : Nat → Int32) (V T a b i : Nat) : Int32 := if a ≤ i ∧ i < b then sb V T i else f i
theorem own_w0 (L : Nat) (f : Nat → Int32) (V T a : Nat) : ML L (wf f V T a (a + 0)) = ML L f := ML_eq fun i _ => by unfold wf; rw [if_neg (by omega)]
theorem own_s8 (a j : Nat) (h : 8 * (j + 1) ≤ a) (ha : a < 100000) : Int32.ofNat (a - 8 * j) - (8 : Int32) = Int32.ofNat (a - 8 * (j + 1)) := by
  rw [show (8 : Int32) = Int32.ofNat 8 from rfl, o_sub (by omega) (by omega)]; congr 1
theorem own_inc (a j : Nat) (h : a + j < 100000) : Int32.ofNat (a + j) + (1 : Int32) = Int32.ofNat (a + (j + 1)) := by
  rw [show (1 : Int32) = Int32.ofNat 1 from rfl, o_add (by omega)]; rfl
theorem own_wset (L : Nat) (f : Nat → Int32) (V T c j : Nat) (p1 : Int64) (hP : p1.toBitVec = BitVec.ofNat 64 V) (hc : c ≤ 24) (hj : 8 * (j + 1) ≤ T % 8 + c) : (ML L (wf f V (T + c) (T / 8) (T / 8 + j))).set (T / 8 + j) (nar .byte ((((p1.toUInt64 >>> ((Int32.ofNat (T % 8 + c - 8 * (j + 1))) &&& 0x3f).toInt64.toUInt64).toInt64)).toInt32.toInt8.toInt32)) = ML L (wf f V (T + c) (T / 8) (T / 8 + (j + 1))) := by
  apply ML_set
  intro i hi
  rw [own_BY p1 V _ hP (by omega)]
  unfold wf
  by_cases e : i = T / 8 + j
  · subst e
    rw [if_pos (by omega), if_pos rfl]
    unfold sb
    rw [if_pos (by omega)]
    congr 2
    omega
  · rw [if_neg e]
    by_cases h : T / 8 ≤ i ∧ i < T / 8 + j
    · rw [if_pos h, if_pos (by omega)]
    · rw [if_neg h, if_neg (by omega)]
theorem own_wsb (L V T c v : Nat) (hv : v < 2 ^ c) : ML L (wf (sb V T) (V <<< c ||| v) (T + c) (T / 8) ((T + c) / 8)) = ML L (sb (V <<< c ||| v) (T + c)) := by
  apply ML_eq
  intro i _
  unfold wf
  by_cases h : T / 8 ≤ i ∧ i < (T + c) / 8
  · rw [if_pos h]
  · rw [if_neg h]
    by_cases h2 : i < T / 8
    · rw [sb_old V T c v i hv (by omega)]
    · unfold sb; rw [if_neg (by omega), if_neg (by omega)]
/-- the finished stream -/
def fb (V T i : Nat) : Int32 := if 8 * i < T then bb ((V <<< (8 * (i + 1))) >>> T) else 0
theorem own_slr (V a b : Nat) (h : a ≤ b) : (V <<< a) >>> b = V >>> (b - a) := by
  apply Nat.eq_of_testBit_eq; intro i
  simp only [Nat.testBit_shiftRight, Nat.testBit_shiftLeft]
  rw [show b + i - a = b - a + i by omega]; simp; omega
theorem own_srl (V a b : Nat) (h : b ≤ a) : (V <<< a) >>> b = V <<< (a - b) := by
  apply Nat.eq_of_testBit_eq; intro i
  simp only [Nat.testBit_shiftRight, Nat.testBit_shiftLeft]
  rw [show b + i - a = i - (a - b) by omega]
  by_cases q : a - b ≤ i
  · simp [q, show a ≤ b + i by omega]
  · simp [q, show ¬ a ≤ b + i by omega]
theorem own_fb0 (L V T : Nat) (h : T % 8 = 0) : ML L (sb V T) = ML L (fb V T) := ML_eq fun i _ => by
  unfold sb fb
  by_cases q : 8 * (i + 1) ≤ T
  · rw [if_pos q, if_pos (by omega), own_slr _ _ _ q]
  · rw [if_neg q, if_neg (by omega)]
theorem own_fb1 (L V T : Nat) (h : T % 8 ≠ 0) : ML L (fun i => if i = T / 8 then bb (V <<< (8 - T % 8)) else sb V T i) = ML L (fb V T) := ML_eq fun i _ => by
  show (if i = T / 8 then _ else _) = _
  unfold sb fb
  by_cases e : i = T / 8
  · rw [if_pos e, if_pos (by omega), own_srl _ _ _ (by omega)]
    congr 2; omega
  · rw [if_neg e]
    by_cases q : 8 * (i + 1) ≤ T
    · rw [if_pos q, if_pos (by omega), own_slr _ _ _ q]
    · rw [if_neg q, if_neg (by omega)]
theorem own_fset (L : Nat) (f : Nat → Int32) (V nx pb : Nat) (pp : Int64) (hP : pp.toBitVec = BitVec.ofNat 64 V) (hp : 0 < pb) (hp8 : pb < 8) : (ML L f).set nx (nar .byte ((pp <<< (((8 : Int32) - Int32.ofNat pb) &&& 0x3f).toInt64).toInt32.toInt8.toInt32)) = ML L (fun i => if i = nx then bb (V <<< (8 - pb)) else f i) := by
  apply ML_set
  intro i _
  rw [own_BYL pp V _ (8 - pb) hP (by rw [show (8 : Int32) = Int32.ofNat 8 from rfl, o_sub (by omega) (by omega)]; exact own_q64 _ (by omega))]
theorem own_cnt (y ca : Int32) (hy : 0 ≤ y.toInt) (h : (y % (25 : Int32)) = ca) : ∃ n : Nat, n ≤ 24 ∧ ca = Int32.ofNat n := by
  have h2 := (c_irem y 25 25 (by decide)).1 hy
  rw [h] at h2
  refine ⟨ca.toInt.toNat, by omega, ?_⟩
  apply Int32.toInt_inj.mp
  rw [Int32.toInt_ofNat_small (by omega)]; omega
theorem own_val (x : Int32) (n : Nat) (va : Int32) (hn : n ≤ 24) (h : (x &&& (((1 : Int32) <<< ((Int32.ofNat n) &&& 31)) - (1 : Int32))) = va) : ∃ v : Nat, v < 2 ^ n ∧ v < 16777216 ∧ va = Int32.ofNat v := by
  have hq : (Int32.ofNat n).toBitVec.toNat % 32 = n := by
    show (BitVec.ofNat 32 n).toNat % 32 = n
    rw [BitVec.toNat_ofNat]; omega
  have hp : 2 ^ n ≤ 2 ^ 24 := Nat.pow_le_pow_right (by decide) hn
  have hp1 : 1 ≤ 2 ^ n := Nat.one_le_two_pow
  have a1 := c_ishl 1 (Int32.ofNat n) n hq
  have a2 := rng32 ((1 : Int32) <<< ((Int32.ofNat n) &&& 31))
  have e1 : (1 : Int32).toInt = 1 := by decide
  rw [e1] at a1
  have b1 := c_isub ((1 : Int32) <<< ((Int32.ofNat n) &&& 31)) 1
  have b2 := rng32 (((1 : Int32) <<< ((Int32.ofNat n) &&& 31)) - 1)
  rw [e1] at b1
  have hm : (((1 : Int32) <<< ((Int32.ofNat n) &&& 31)) - (1 : Int32)).toInt = (2 ^ n : Nat) - 1 := by omega
  generalize ((1 : Int32) <<< ((Int32.ofNat n) &&& 31)) - (1 : Int32) = m at *
  have hm2 : m.toBitVec.toNat = 2 ^ n - 1 := by
    have e : m.toBitVec.toInt = m.toInt := rfl
    rw [BitVec.toInt_eq_toNat_cond, hm] at e
    have := m.toBitVec.isLt
    split at e <;> omega
  have c1 := c_mask x m n (by omega) hm2
  rw [h] at c1
  have d1 := Int.emod_nonneg x.toInt (show ((2 ^ n : Nat) : Int) ≠ 0 by omega)
  have d2 := Int.emod_lt_of_pos x.toInt (show (0 : Int) < ((2 ^ n : Nat) : Int) by omega)
  refine ⟨va.toInt.toNat, by omega, by omega, ?_⟩
  apply Int32.toInt_inj.mp
  rw [Int32.toInt_ofNat_small (by omega)]; omega
theorem o_div8 (a : Nat) (h : a < 100000) : Int32.ofNat a / (8 : Int32) = Int32.ofNat (a / 8) := by
  apply Int32.toInt_inj.mp
  have q := (c_idiv (Int32.ofNat a) 8 8 (by decide) (by decide)).1 (by rw [Int32.toInt_ofNat_small (by omega)]; omega)
  rw [q, Int32.toInt_ofNat_small (by omega), Int32.toInt_ofNat_small (by omega)]; omega
theorem own_or_lt {V c v T : Nat} (hV : V < 2 ^ T) (hv : v < 2 ^ c) : V <<< c ||| v < 2 ^ (T + c) := by
  apply Nat.or_lt_two_pow
  · rw [Nat.shiftLeft_eq, Nat.pow_add]; exact Nat.mul_lt_mul_of_pos_right hV (Nat.two_pow_pos c)
  · exact Nat.lt_of_lt_of_le hv (Nat.pow_le_pow_right (by decide) (by omega))
theorem o_mul {a b : Nat} (h : a * b < 2147483648) (ha : a < 2147483648) (hb : b < 2147483648) : Int32.ofNat a * Int32.ofNat b = Int32.ofNat (a * b) := by
  apply Int32.toInt_inj.mp
  have q := c_imul (Int32.ofNat a) (Int32.ofNat b); have r := rng32 (Int32.ofNat a * Int32.ofNat b)
  rw [Int32.toInt_ofNat_small ha, Int32.toInt_ofNat_small hb, ← Int.natCast_mul] at q
  rw [Int32.toInt_ofNat_small h]; omega
theorem own_pad (T : Nat) (h : T < 1000) : (8 : Int32) * Int32.ofNat ((T + 7) / 8) - Int32.ofNat T = Int32.ofNat (8 * ((T + 7) / 8) - T) := by
  rw [show (8 : Int32) = Int32.ofNat 8 from rfl, o_mul (by omega) (by omega) (by omega), o_sub (by omega) (by omega)]
theorem own_ofs (V k : Nat) : (BitVec.ofNat 64 V) <<< k = BitVec.ofNat 64 (V <<< k) := by
  apply BitVec.eq_of_toNat_eq
  rw [BitVec.toNat_shiftLeft, BitVec.toNat_ofNat, BitVec.toNat_ofNat]
  apply Nat.eq_of_testBit_eq
  intro i
  simp only [Nat.testBit_mod_two_pow, Nat.testBit_shiftLeft]
  by_cases hi : i < 64
  · have h2 : i - k < 64 := by omega
    simp [hi, h2]
  · simp [hi]
theorem own_and255 (X : Int32) (m : Nat) (h : X.toBitVec = BitVec.ofNat 32 m) : X &&& (255 : Int32) = Int32.ofNat (m % 256) := by
  apply Int32.toBitVec_inj.mp
  rw [Int32.toBitVec_and, h]
  apply BitVec.eq_of_toNat_eq
  show (BitVec.ofNat 32 m &&& (255 : Int32).toBitVec).toNat = (BitVec.ofNat 32 (m % 256)).toNat
  rw [BitVec.toNat_and, BitVec.toNat_ofNat, BitVec.toNat_ofNat, show (255 : Int32).toBitVec.toNat = 2 ^ 8 - 1 from by decide, Nat.and_two_pow_sub_one_eq_mod]
  omega
theorem own_shl32 (v k : Nat) (h : k < 32) : ((Int32.ofNat v) <<< ((Int32.ofNat k) &&& 31)).toBitVec = BitVec.ofNat 32 (v <<< k) := by
  have hq : (Int32.ofNat k).toBitVec.toNat % 32 = k := by
    show (BitVec.ofNat 32 k).toNat % 32 = k
    rw [BitVec.toNat_ofNat]; omega
  show (BitVec.ofNat 32 v) <<< (((Int32.ofNat k) &&& 31).toBitVec.smod 32) = _
  rw [BitVec.shiftLeft_eq', sm32 _ k hq]
  apply BitVec.eq_of_toNat_eq
  rw [BitVec.toNat_shiftLeft, BitVec.toNat_ofNat, BitVec.toNat_ofNat]
  apply Nat.eq_of_testBit_eq
  intro i
  simp only [Nat.testBit_mod_two_pow, Nat.testBit_shiftLeft]
  by_cases hi : i < 32
  · have h2 : i - k < 32 := by omega
    simp [hi, h2]
  · simp [hi]
theorem own_amt32 : ∀ s : Fin 32, ((Int32.ofNat s.val) &&& 31).toUInt32 = UInt32.ofNat s.val := by decide +kernel
theorem own_shr32 (v k : Nat) (hv : v < 16777216) (h : k < 32) : (((Int32.ofNat v).toUInt32 >>> ((Int32.ofNat k) &&& 31).toUInt32).toInt32).toBitVec = BitVec.ofNat 32 (v >>> k) := by
  rw [show ((Int32.ofNat k) &&& 31).toUInt32 = UInt32.ofNat k from own_amt32 ⟨k, h⟩]
  show ((Int32.ofNat v).toUInt32 >>> UInt32.ofNat k).toBitVec = _
  rw [UInt32.toBitVec_shiftRight, BitVec.ushiftRight_eq']
  show (BitVec.ofNat 32 v) >>> _ = _
  have e : ((UInt32.ofNat k).toBitVec % 32).toNat = k := by
    rw [BitVec.toNat_umod]
    show (BitVec.ofNat 32 k).toNat % 32 = k
    rw [BitVec.toNat_ofNat]; omega
  rw [e]
  apply BitVec.eq_of_toNat_eq
  rw [BitVec.toNat_ushiftRight, BitVec.toNat_ofNat, BitVec.toNat_ofNat]
  have : v >>> k ≤ v := Nat.shiftRight_le _ _
  rw [Nat.mod_eq_of_lt (by omega), Nat.mod_eq_of_lt (by omega)]
theorem own_m255 (x ka : Int32) (h : (x &&& (255 : Int32)) = ka) : ∃ n : Nat, n ≤ 255 ∧ ka = Int32.ofNat n := by
  have a := c_and x 255 (by decide)
  rw [h] at a
  have e : (255 : Int32).toInt = 255 := by decide
  refine ⟨ka.toInt.toNat, by omega, ?_⟩
  apply Int32.toInt_inj.mp
  rw [Int32.toInt_ofNat_small (by omega)]; omega
theorem own_b32 (X : Int32) (m : Nat) (h : X.toBitVec = BitVec.ofNat 32 m) : X.toInt8.toInt32 = bb m := by
  apply bb_bv
  show (X.toBitVec.signExtend 8).toNat = _
  rw [BitVec.signExtend_eq_setWidth_of_le _ (by decide), BitVec.toNat_setWidth, h, BitVec.toNat_ofNat]
  omega
theorem own_hi (f : Nat → Int32) (v nb : Nat) (hv : v < 16777216) (h8 : 8 ≤ nb) (hn : nb ≤ 24) : wf f (0 <<< nb ||| v) (0 + nb) (0 / 8) ((0 + nb) / 8) 0 = (((Int32.ofNat v).toUInt32 >>> ((Int32.ofNat nb - (8 : Int32)) &&& 31).toUInt32).toInt32).toInt8.toInt32 := by
  rw [show (8 : Int32) = Int32.ofNat 8 from rfl, o_sub (by omega) h8, own_b32 _ _ (own_shr32 v _ hv (by omega))]
  unfold wf sb
  rw [if_pos (by omega), if_pos (by omega)]
  congr 1
  rw [show 0 + nb - 8 * (0 + 1) = nb - 8 from by omega]; simp
theorem own_lo (v nb : Nat) (h0 : 0 < nb) (hn : nb < 8) : bb ((0 <<< nb ||| v) <<< (8 - (0 + nb) % 8)) = ((Int32.ofNat v) <<< (((8 : Int32) - Int32.ofNat nb) &&& 31)).toInt8.toInt32 := by
  rw [show (8 : Int32) = Int32.ofNat 8 from rfl, o_sub (by omega) (by omega), own_b32 _ _ (own_shl32 v _ (by omega))]
  congr 1
  rw [show 8 - (0 + nb) % 8 = 8 - nb from by omega]; simp
theorem d1_0 : decode prog_9_method_1_code 0 = .ok (.aload_n 0, 1) := by decide +kernel
theorem d1_1 : decode prog_9_method_1_code 1 = .ok (.invokespecial 3, 3) := by decide +kernel
theorem d1_4 : decode prog_9_method_1_code 4 = .ok (.aload_n 0, 1) := by decide +kernel
theorem d1_5 : decode prog_9_method_1_code 5 = .ok (.iconst 0, 1) := by decide +kernel
theorem d1_6 : decode prog_9_method_1_code 6 = .ok (.newarray .byte, 2) := by decide +kernel
theorem d1_8 : decode prog_9_method_1_code 8 = .ok (.putfield 9, 3) := by decide +kernel
theorem d1_11 : decode prog_9_method_1_code 11 = .ok (.aload_n 0, 1) := by decide +kernel
theorem d1_12 : decode prog_9_method_1_code 12 = .ok (.sipush 256, 3) := by decide +kernel
theorem d1_15 : decode prog_9_method_1_code 15 = .ok (.newarray .int, 2) := by decide +kernel
theorem d1_17 : decode prog_9_method_1_code 17 = .ok (.putfield 15, 3) := by decide +kernel
theorem d1_20 : decode prog_9_method_1_code 20 = .ok (.return_, 1) := by decide +kernel
theorem pn_1 : plainFor (⟨"com/example/tallytree/tallytree/BitWriter", "<init>", "()V"⟩ : MethodName) = true := plainFor_of_name (by first | (simp [plainName, overriddenIn]; done) | decide +kernel)
theorem ef_1 (m : MethodId) (x0 : Addr) : entryFrame m #[(.ref x0)] 1 = mkF m 0 #[.val (.ref x0)] [] := by first | (simp [entryFrame, mkF, argsToLocals, Value.category]; done) | rfl
set_option maxRecDepth 65536 in
set_option maxHeartbeats 40000000 in
theorem rm1 (l : Launch) (Z : State) (a0 : Array Value) (hw : ∀ d ∈ tables_1, d.before a0 Z = true) (ws : List Jvm.Cond) (x0 : Addr)  (h0 : Heap) (n0 : Nat) (sz : n0 ≤ h0.size) (F_x0_bytes : Fld Z h0 x0 "com/example/tallytree/tallytree/BitWriter" "bytes" "[B" .null) (F_x0_next : Fld Z h0 x0 "com/example/tallytree/tallytree/BitWriter" "next" "I" (.int (0 : Int32))) (F_x0_pending : Fld Z h0 x0 "com/example/tallytree/tallytree/BitWriter" "pending" "J" (.long (0 : Int64))) (F_x0_pendingBits : Fld Z h0 x0 "com/example/tallytree/tallytree/BitWriter" "pendingBits" "I" (.int (0 : Int32))) (E_x0 : Exa Z h0 x0 "com/example/tallytree/tallytree/BitWriter") (g_x0 : n0 ≤ x0) (F_x0_entries : Fld Z h0 x0 "com/example/tallytree/tallytree/BitWriter" "entries" "[I" .null) :
    Ctr l (⟨"com/example/tallytree/tallytree/BitWriter", "<init>", "()V"⟩ : MethodName) prog_9_method_1_code 1 none ws ({ frames := 1, cells := 2, slots := 256, locals := 12 } : Room) Z #[(.ref x0)] h0 (fun v h L => v = none ∧ Fr n0 L ∧ Keep h0 h [x0] ∧ ∃ t, h0.size ≤ t ∧ Fld Z h x0 "com/example/tallytree/tallytree/BitWriter" "bytes" "[B" (.ref t) ∧ Fld Z h x0 "com/example/tallytree/tallytree/BitWriter" "next" "I" (.int (0 : Int32)) ∧ Fld Z h x0 "com/example/tallytree/tallytree/BitWriter" "pending" "J" (.long (0 : Int64)) ∧ Fld Z h x0 "com/example/tallytree/tallytree/BitWriter" "pendingBits" "I" (.int (0 : Int32)) ∧ AI Z h t .byte []) 2 256 := by
  refine Ctr.mk pn_1 ?_
  intro p e s m below meth c T hx hby hml hown hnm hlk hret hZ X eT
  have N := Fr.nil n0
  refine enter (ef_1 m x0) ?_
  have K := Keep.refl h0 [x0]
  refine s_aloadN X hx (hb hby d1_0) rfl rfl (q := 1) rfl ?_
  refine s_initO X hx hZ hown (W := 0) (hw _ (List.mem_of_getElem? (i := 7) rfl)) (hw _ (List.mem_of_getElem? (i := 8) rfl)) (hw _ (List.mem_of_getElem? (i := 9) rfl)) eT (by rw [hml]; rfl) (by decide) (Nat.le_of_ble_eq_true rfl) (by decide) (hb hby d1_1) (q := 4) rfl ?_
  intro T X eT
  refine s_aloadN X hx (hb hby d1_4) rfl rfl (q := 5) rfl ?_
  refine s_iconst X hx (z := (0 : Int32)) (hb hby d1_5) rfl (q := 6) rfl ?_
  refine s_newB X hx hZ (hw _ (List.mem_of_getElem? (i := 10) rfl)) eT (by decide) (cap := 0) (by decide) (by decide) (by decide) (by decide) (ys := []) rfl (hb hby d1_6) (q := 8) rfl ?_
  intro T h2 a1 X eT E ea A_a1
  have ne_x0_a1 : x0 ≠ a1 := by rw [ea]; exact Nat.ne_of_lt E_x0.lt
  have E_x0 := E_x0.ext E
  have F_x0_bytes := F_x0_bytes.ext E
  have F_x0_next := F_x0_next.ext E
  have F_x0_pending := F_x0_pending.ext E
  have F_x0_pendingBits := F_x0_pendingBits.ext E
  have F_x0_entries := F_x0_entries.ext E
  have g_a1 : n0 ≤ a1 := by rw [ea]; exact sz
  have sk_a1 : h0.size ≤ a1 := by rw [ea]; exact K.1
  have K := K.ext E
  have sz : n0 ≤ h2.size := Nat.le_trans sz E.1
  refine s_putF X hx hZ hown (hw _ (List.mem_of_getElem? (i := 11) rfl)) eT F_x0_bytes E_x0 (Or.inl (hw _ (List.mem_of_getElem? (i := 12) rfl))) (hw _ (List.mem_of_getElem? (i := 2) rfl)) (ty := (.array .byte)) (by decide) rfl rfl N g_x0 (hb hby d1_8) (q := 11) rfl ?_
  intro T h3 _ X N eT W F_x0_bytes'
  have E_x0 := E_x0.wr W
  have F_x0_next := F_x0_next.other W (Or.inr (slot_ne (Or.inl (hw _ (List.mem_of_getElem? (i := 22) rfl))) (Or.inl (hw _ (List.mem_of_getElem? (i := 12) rfl))) (by decide) (t := .int) (t' := (.array .byte)) (by decide) (by decide)))
  have F_x0_pending := F_x0_pending.other W (Or.inr (slot_ne (Or.inl (hw _ (List.mem_of_getElem? (i := 24) rfl))) (Or.inl (hw _ (List.mem_of_getElem? (i := 12) rfl))) (by decide) (t := .long) (t' := (.array .byte)) (by decide) (by decide)))
  have F_x0_pendingBits := F_x0_pendingBits.other W (Or.inr (slot_ne (Or.inl (hw _ (List.mem_of_getElem? (i := 26) rfl))) (Or.inl (hw _ (List.mem_of_getElem? (i := 12) rfl))) (by decide) (t := .int) (t' := (.array .byte)) (by decide) (by decide)))
  have F_x0_entries := F_x0_entries.other W (Or.inr (slot_ne (Or.inr (hw _ (List.mem_of_getElem? (i := 15) rfl))) (Or.inl (hw _ (List.mem_of_getElem? (i := 12) rfl))) (by decide) (t := (.array .int)) (t' := (.array .byte)) (by decide) (by decide)))
  have A_a1 := A_a1.other W (Ne.symm ne_x0_a1)
  have K := K.wr W (Or.inl (List.mem_of_getElem? (i := 0) rfl))
  have sz : n0 ≤ h3.size := by rw [W.size]; exact sz
  have F_x0_bytes := F_x0_bytes'
  refine s_aloadN X hx (hb hby d1_11) rfl rfl (q := 12) rfl ?_
  refine s_sipush X hx (z := (256 : Int32)) (hb hby d1_12) rfl (q := 15) rfl ?_
  refine s_newI X hx hZ (hw _ (List.mem_of_getElem? (i := 13) rfl)) eT (by decide) (cap := 256) (by decide) (by decide) (by decide) (by decide) (ys := (List.replicate 256 0)) rfl (hb hby d1_15) (q := 17) rfl ?_
  intro T h5 a4 X eT E ea A_a4
  have ne_x0_a4 : x0 ≠ a4 := by rw [ea]; exact Nat.ne_of_lt E_x0.lt
  have ne_a1_a4 : a1 ≠ a4 := by rw [ea]; exact Nat.ne_of_lt A_a1.lt
  have E_x0 := E_x0.ext E
  have F_x0_bytes := F_x0_bytes.ext E
  have F_x0_next := F_x0_next.ext E
  have F_x0_pending := F_x0_pending.ext E
  have F_x0_pendingBits := F_x0_pendingBits.ext E
  have F_x0_entries := F_x0_entries.ext E
  have A_a1 := A_a1.ext E
  have g_a4 : n0 ≤ a4 := by rw [ea]; exact sz
  have sk_a4 : h0.size ≤ a4 := by rw [ea]; exact K.1
  have K := K.ext E
  have sz : n0 ≤ h5.size := Nat.le_trans sz E.1
  refine s_putF X hx hZ hown (hw _ (List.mem_of_getElem? (i := 14) rfl)) eT F_x0_entries E_x0 (Or.inr ⟨(hw _ (List.mem_of_getElem? (i := 15) rfl)), rfl, hnm⟩) (hw _ (List.mem_of_getElem? (i := 2) rfl)) (ty := (.array .int)) (by decide) rfl rfl N g_x0 (hb hby d1_17) (q := 20) rfl ?_
  intro T h6 _ X N eT W F_x0_entries'
  have E_x0 := E_x0.wr W
  have F_x0_bytes := F_x0_bytes.other W (Or.inr (slot_ne (Or.inl (hw _ (List.mem_of_getElem? (i := 12) rfl))) (Or.inr (hw _ (List.mem_of_getElem? (i := 15) rfl))) (by decide) (t := (.array .byte)) (t' := (.array .int)) (by decide) (by decide)))
  have F_x0_next := F_x0_next.other W (Or.inr (slot_ne (Or.inl (hw _ (List.mem_of_getElem? (i := 22) rfl))) (Or.inr (hw _ (List.mem_of_getElem? (i := 15) rfl))) (by decide) (t := .int) (t' := (.array .int)) (by decide) (by decide)))
  have F_x0_pending := F_x0_pending.other W (Or.inr (slot_ne (Or.inl (hw _ (List.mem_of_getElem? (i := 24) rfl))) (Or.inr (hw _ (List.mem_of_getElem? (i := 15) rfl))) (by decide) (t := .long) (t' := (.array .int)) (by decide) (by decide)))
  have F_x0_pendingBits := F_x0_pendingBits.other W (Or.inr (slot_ne (Or.inl (hw _ (List.mem_of_getElem? (i := 26) rfl))) (Or.inr (hw _ (List.mem_of_getElem? (i := 15) rfl))) (by decide) (t := .int) (t' := (.array .int)) (by decide) (by decide)))
  have A_a1 := A_a1.other W (Ne.symm ne_x0_a1)
  have A_a4 := A_a4.other W (Ne.symm ne_x0_a4)
  have K := K.wr W (Or.inl (List.mem_of_getElem? (i := 0) rfl))
  have sz : n0 ≤ h6.size := by rw [W.size]; exact sz
  have F_x0_entries := F_x0_entries'
  exact leafV X hx hlk hret (hb hby d1_20) (by decide) (by decide) (by rw [eT]; exact ⟨rfl, N, K, _, sk_a1, F_x0_bytes, F_x0_next, F_x0_pending, F_x0_pendingBits, A_a1⟩)
theorem own_p8 (cp : Nat) (h : cp ≤ 255) : Int32.ofNat cp + (8 : Int32) = Int32.ofNat (cp + 8) := by
  rw [show (8 : Int32) = Int32.ofNat 8 from rfl, o_add (by omega)]
theorem d3_0 : decode prog_9_method_2_code 0 = .ok (.aload_n 0, 1) := by decide +kernel
theorem d3_1 : decode prog_9_method_2_code 1 = .ok (.getfield 9, 3) := by decide +kernel
theorem d3_4 : decode prog_9_method_2_code 4 = .ok (.arraylength, 1) := by decide +kernel
theorem d3_5 : decode prog_9_method_2_code 5 = .ok (.iload_n 1, 1) := by decide +kernel
theorem d3_6 : decode prog_9_method_2_code 6 = .ok (.bipush 8, 2) := by decide +kernel
theorem d3_8 : decode prog_9_method_2_code 8 = .ok (.iadd, 1) := by decide +kernel
theorem d3_9 : decode prog_9_method_2_code 9 = .ok (.if_icmp .ge 13, 3) := by decide +kernel
theorem d3_12 : decode prog_9_method_2_code 12 = .ok (.aload_n 0, 1) := by decide +kernel
theorem d3_13 : decode prog_9_method_2_code 13 = .ok (.iload_n 1, 1) := by decide +kernel
theorem d3_14 : decode prog_9_method_2_code 14 = .ok (.bipush 8, 2) := by decide +kernel
theorem d3_16 : decode prog_9_method_2_code 16 = .ok (.iadd, 1) := by decide +kernel
theorem d3_17 : decode prog_9_method_2_code 17 = .ok (.newarray .byte, 2) := by decide +kernel
theorem d3_19 : decode prog_9_method_2_code 19 = .ok (.putfield 9, 3) := by decide +kernel
theorem d3_22 : decode prog_9_method_2_code 22 = .ok (.aload_n 0, 1) := by decide +kernel
theorem d3_23 : decode prog_9_method_2_code 23 = .ok (.iconst 0, 1) := by decide +kernel
theorem d3_24 : decode prog_9_method_2_code 24 = .ok (.putfield 21, 3) := by decide +kernel
theorem d3_27 : decode prog_9_method_2_code 27 = .ok (.aload_n 0, 1) := by decide +kernel
theorem d3_28 : decode prog_9_method_2_code 28 = .ok (.lconst 0, 1) := by decide +kernel
theorem d3_29 : decode prog_9_method_2_code 29 = .ok (.putfield 25, 3) := by decide +kernel
theorem d3_32 : decode prog_9_method_2_code 32 = .ok (.aload_n 0, 1) := by decide +kernel
theorem d3_33 : decode prog_9_method_2_code 33 = .ok (.iconst 0, 1) := by decide +kernel
theorem d3_34 : decode prog_9_method_2_code 34 = .ok (.putfield 29, 3) := by decide +kernel
theorem d3_37 : decode prog_9_method_2_code 37 = .ok (.return_, 1) := by decide +kernel
theorem pn_3 : plainFor (⟨"com/example/tallytree/tallytree/BitWriter", "reset", "(I)V"⟩ : MethodName) = true := plainFor_of_name (by first | (simp [plainName, overriddenIn]; done) | decide +kernel)
theorem ef_3 (m : MethodId) (x0 : Addr) (x1 : Int32) : entryFrame m #[(.ref x0), (.int x1)] 2 = mkF m 0 #[.val (.ref x0), .val (.int x1)] [] := by first | (simp [entryFrame, mkF, argsToLocals, Value.category]; done) | rfl
set_option maxRecDepth 65536 in
set_option maxHeartbeats 40000000 in
theorem rm3_new (l : Launch) (Z : State) (a0 : Array Value) (hw : ∀ d ∈ tables_1, d.before a0 Z = true) (ws : List Jvm.Cond) (x0 : Addr) (t : Addr) (xs : List Int32) (cp : Nat) (nx pb : Int32) (pp : Int64) (h0 : Heap) (n0 : Nat) (sz : n0 ≤ h0.size) (F_x0_bytes : Fld Z h0 x0 "com/example/tallytree/tallytree/BitWriter" "bytes" "[B" (.ref t)) (F_x0_next : Fld Z h0 x0 "com/example/tallytree/tallytree/BitWriter" "next" "I" (.int nx)) (F_x0_pending : Fld Z h0 x0 "com/example/tallytree/tallytree/BitWriter" "pending" "J" (.long pp)) (F_x0_pendingBits : Fld Z h0 x0 "com/example/tallytree/tallytree/BitWriter" "pendingBits" "I" (.int pb)) (E_x0 : Exa Z h0 x0 "com/example/tallytree/tallytree/BitWriter") (g_x0 : n0 ≤ x0) (A_t : AI Z h0 t .byte xs) (g_t : n0 ≤ t) (ne_x0_t : x0 ≠ t) (hcp : cp ≤ 255) (hxl : xs.length < 1000) (hlt : xs.length < cp + 8) :
    Ctr l (⟨"com/example/tallytree/tallytree/BitWriter", "reset", "(I)V"⟩ : MethodName) prog_9_method_2_code 2 none ws ({ frames := 0, cells := 1, slots := 263, locals := 0 } : Room) Z #[(.ref x0), (.int (Int32.ofNat cp))] h0 (fun v h L => v = none ∧ Fr n0 L ∧ Keep h0 h [x0] ∧ ∃ t', h0.size ≤ t' ∧ Fld Z h x0 "com/example/tallytree/tallytree/BitWriter" "bytes" "[B" (.ref t') ∧ Fld Z h x0 "com/example/tallytree/tallytree/BitWriter" "next" "I" (.int (0 : Int32)) ∧ Fld Z h x0 "com/example/tallytree/tallytree/BitWriter" "pending" "J" (.long (0 : Int64)) ∧ Fld Z h x0 "com/example/tallytree/tallytree/BitWriter" "pendingBits" "I" (.int (0 : Int32)) ∧ AI Z h t' .byte (ML (cp + 8) (sb 0 0))) 1 263 := by
  refine Ctr.mk pn_3 ?_
  intro p e s m below meth c T hx hby hml hown hnm hlk hret hZ X eT
  have N := Fr.nil n0
  refine enter (ef_3 m x0 (Int32.ofNat cp)) ?_
  have K := Keep.refl h0 [x0]
  refine s_aloadN X hx (hb hby d3_0) rfl rfl (q := 1) rfl ?_
  refine s_getF X hx hZ hown (hw _ (List.mem_of_getElem? (i := 11) rfl)) eT F_x0_bytes (hb hby d3_1) (q := 4) rfl ?_
  intro T X eT
  refine s_lenI X hx hZ eT (z := (Int32.ofNat xs.length)) A_t rfl (hb hby d3_4) (q := 5) rfl ?_
  refine s_iloadN X hx (hb hby d3_5) rfl (q := 6) rfl ?_
  refine s_bipush X hx (z := (8 : Int32)) (hb hby d3_6) rfl (q := 8) rfl ?_
  refine s_iadd X hx (hb hby d3_8) (q := 9) rfl ?_
  rw [own_p8 cp hcp]
  refine f_icmp_ge X hx (hb hby d3_9) (q1 := 22) (by decide) (by decide) (q := 12) rfl (fun hq => absurd ((o_lt (by omega) (by omega)).mpr hlt : (Int32.ofNat xs.length) < (Int32.ofNat (cp + 8))) hq) (fun _ => ?_)
  refine s_aloadN X hx (hb hby d3_12) rfl rfl (q := 13) rfl ?_
  refine s_iloadN X hx (hb hby d3_13) rfl (q := 14) rfl ?_
  refine s_bipush X hx (z := (8 : Int32)) (hb hby d3_14) rfl (q := 16) rfl ?_
  refine s_iadd X hx (hb hby d3_16) (q := 17) rfl ?_
  rw [own_p8 cp hcp]
  refine s_newB X hx hZ (hw _ (List.mem_of_getElem? (i := 10) rfl)) eT (o_nn (by omega)) (cap := 263) (by rw [o_nat (by omega)]; omega) (by decide) (by decide) (by decide) (ys := (ML (cp + 8) (sb 0 0))) (by rw [o_nat (by omega)]; exact ML_zero _) (hb hby d3_17) (q := 19) rfl ?_
  intro T h2 a1 X eT E ea A_a1
  have ne_x0_a1 : x0 ≠ a1 := by rw [ea]; exact Nat.ne_of_lt E_x0.lt
  have ne_t_a1 : t ≠ a1 := by rw [ea]; exact Nat.ne_of_lt A_t.lt
  have E_x0 := E_x0.ext E
  have F_x0_bytes := F_x0_bytes.ext E
  have F_x0_next := F_x0_next.ext E
  have F_x0_pending := F_x0_pending.ext E
  have F_x0_pendingBits := F_x0_pendingBits.ext E
  have A_t := A_t.ext E
  have g_a1 : n0 ≤ a1 := by rw [ea]; exact sz
  have sk_a1 : h0.size ≤ a1 := by rw [ea]; exact K.1
  have K := K.ext E
  have sz : n0 ≤ h2.size := Nat.le_trans sz E.1
  refine s_putF X hx hZ hown (hw _ (List.mem_of_getElem? (i := 11) rfl)) eT F_x0_bytes E_x0 (Or.inl (hw _ (List.mem_of_getElem? (i := 12) rfl))) (hw _ (List.mem_of_getElem? (i := 2) rfl)) (ty := (.array .byte)) (by decide) rfl rfl N g_x0 (hb hby d3_19) (q := 22) rfl ?_
  intro T h3 _ X N eT W F_x0_bytes'
  have E_x0 := E_x0.wr W
  have F_x0_next := F_x0_next.other W (Or.inr (slot_ne (Or.inl (hw _ (List.mem_of_getElem? (i := 22) rfl))) (Or.inl (hw _ (List.mem_of_getElem? (i := 12) rfl))) (by decide) (t := .int) (t' := (.array .byte)) (by decide) (by decide)))
  have F_x0_pending := F_x0_pending.other W (Or.inr (slot_ne (Or.inl (hw _ (List.mem_of_getElem? (i := 24) rfl))) (Or.inl (hw _ (List.mem_of_getElem? (i := 12) rfl))) (by decide) (t := .long) (t' := (.array .byte)) (by decide) (by decide)))
  have F_x0_pendingBits := F_x0_pendingBits.other W (Or.inr (slot_ne (Or.inl (hw _ (List.mem_of_getElem? (i := 26) rfl))) (Or.inl (hw _ (List.mem_of_getElem? (i := 12) rfl))) (by decide) (t := .int) (t' := (.array .byte)) (by decide) (by decide)))
  have A_t := A_t.other W (Ne.symm ne_x0_t)
  have A_a1 := A_a1.other W (Ne.symm ne_x0_a1)
  have K := K.wr W (Or.inl (List.mem_of_getElem? (i := 0) rfl))
  have sz : n0 ≤ h3.size := by rw [W.size]; exact sz
  have F_x0_bytes := F_x0_bytes'
  refine s_aloadN X hx (hb hby d3_22) rfl rfl (q := 23) rfl ?_
  refine s_iconst X hx (z := (0 : Int32)) (hb hby d3_23) rfl (q := 24) rfl ?_
  refine s_putF X hx hZ hown (hw _ (List.mem_of_getElem? (i := 21) rfl)) eT F_x0_next E_x0 (Or.inl (hw _ (List.mem_of_getElem? (i := 22) rfl))) (hw _ (List.mem_of_getElem? (i := 2) rfl)) (ty := .int) (by decide) rfl rfl N g_x0 (hb hby d3_24) (q := 27) rfl ?_
  intro T h4 _ X N eT W F_x0_next'
  have E_x0 := E_x0.wr W
  have F_x0_bytes := F_x0_bytes.other W (Or.inr (slot_ne (Or.inl (hw _ (List.mem_of_getElem? (i := 12) rfl))) (Or.inl (hw _ (List.mem_of_getElem? (i := 22) rfl))) (by decide) (t := (.array .byte)) (t' := .int) (by decide) (by decide)))
  have F_x0_pending := F_x0_pending.other W (Or.inr (slot_ne (Or.inl (hw _ (List.mem_of_getElem? (i := 24) rfl))) (Or.inl (hw _ (List.mem_of_getElem? (i := 22) rfl))) (by decide) (t := .long) (t' := .int) (by decide) (by decide)))
  have F_x0_pendingBits := F_x0_pendingBits.other W (Or.inr (slot_ne (Or.inl (hw _ (List.mem_of_getElem? (i := 26) rfl))) (Or.inl (hw _ (List.mem_of_getElem? (i := 22) rfl))) (by decide) (t := .int) (t' := .int) (by decide) (by decide)))
  have A_t := A_t.other W (Ne.symm ne_x0_t)
  have A_a1 := A_a1.other W (Ne.symm ne_x0_a1)
  have K := K.wr W (Or.inl (List.mem_of_getElem? (i := 0) rfl))
  have sz : n0 ≤ h4.size := by rw [W.size]; exact sz
  have F_x0_next := F_x0_next'
  refine s_aloadN X hx (hb hby d3_27) rfl rfl (q := 28) rfl ?_
  refine s_lconst X hx (z := (0 : Int64)) (hb hby d3_28) rfl (q := 29) rfl ?_
  refine s_putF X hx hZ hown (hw _ (List.mem_of_getElem? (i := 23) rfl)) eT F_x0_pending E_x0 (Or.inl (hw _ (List.mem_of_getElem? (i := 24) rfl))) (hw _ (List.mem_of_getElem? (i := 2) rfl)) (ty := .long) (by decide) rfl rfl N g_x0 (hb hby d3_29) (q := 32) rfl ?_
  intro T h5 _ X N eT W F_x0_pending'
  have E_x0 := E_x0.wr W
  have F_x0_bytes := F_x0_bytes.other W (Or.inr (slot_ne (Or.inl (hw _ (List.mem_of_getElem? (i := 12) rfl))) (Or.inl (hw _ (List.mem_of_getElem? (i := 24) rfl))) (by decide) (t := (.array .byte)) (t' := .long) (by decide) (by decide)))
  have F_x0_next := F_x0_next.other W (Or.inr (slot_ne (Or.inl (hw _ (List.mem_of_getElem? (i := 22) rfl))) (Or.inl (hw _ (List.mem_of_getElem? (i := 24) rfl))) (by decide) (t := .int) (t' := .long) (by decide) (by decide)))
  have F_x0_pendingBits := F_x0_pendingBits.other W (Or.inr (slot_ne (Or.inl (hw _ (List.mem_of_getElem? (i := 26) rfl))) (Or.inl (hw _ (List.mem_of_getElem? (i := 24) rfl))) (by decide) (t := .int) (t' := .long) (by decide) (by decide)))
  have A_t := A_t.other W (Ne.symm ne_x0_t)
  have A_a1 := A_a1.other W (Ne.symm ne_x0_a1)
  have K := K.wr W (Or.inl (List.mem_of_getElem? (i := 0) rfl))
  have sz : n0 ≤ h5.size := by rw [W.size]; exact sz
  have F_x0_pending := F_x0_pending'
  refine s_aloadN X hx (hb hby d3_32) rfl rfl (q := 33) rfl ?_
  refine s_iconst X hx (z := (0 : Int32)) (hb hby d3_33) rfl (q := 34) rfl ?_
  refine s_putF X hx hZ hown (hw _ (List.mem_of_getElem? (i := 25) rfl)) eT F_x0_pendingBits E_x0 (Or.inl (hw _ (List.mem_of_getElem? (i := 26) rfl))) (hw _ (List.mem_of_getElem? (i := 2) rfl)) (ty := .int) (by decide) rfl rfl N g_x0 (hb hby d3_34) (q := 37) rfl ?_
  intro T h6 _ X N eT W F_x0_pendingBits'
  have E_x0 := E_x0.wr W
  have F_x0_bytes := F_x0_bytes.other W (Or.inr (slot_ne (Or.inl (hw _ (List.mem_of_getElem? (i := 12) rfl))) (Or.inl (hw _ (List.mem_of_getElem? (i := 26) rfl))) (by decide) (t := (.array .byte)) (t' := .int) (by decide) (by decide)))
  have F_x0_next := F_x0_next.other W (Or.inr (slot_ne (Or.inl (hw _ (List.mem_of_getElem? (i := 22) rfl))) (Or.inl (hw _ (List.mem_of_getElem? (i := 26) rfl))) (by decide) (t := .int) (t' := .int) (by decide) (by decide)))
  have F_x0_pending := F_x0_pending.other W (Or.inr (slot_ne (Or.inl (hw _ (List.mem_of_getElem? (i := 24) rfl))) (Or.inl (hw _ (List.mem_of_getElem? (i := 26) rfl))) (by decide) (t := .long) (t' := .int) (by decide) (by decide)))
  have A_t := A_t.other W (Ne.symm ne_x0_t)
  have A_a1 := A_a1.other W (Ne.symm ne_x0_a1)
  have K := K.wr W (Or.inl (List.mem_of_getElem? (i := 0) rfl))
  have sz : n0 ≤ h6.size := by rw [W.size]; exact sz
  have F_x0_pendingBits := F_x0_pendingBits'
  exact leafV X hx hlk hret (hb hby d3_37) (by decide) (by decide) (by rw [eT]; exact ⟨rfl, N, K, _, sk_a1, F_x0_bytes, F_x0_next, F_x0_pending, F_x0_pendingBits, A_a1⟩)
set_option maxRecDepth 65536 in
set_option maxHeartbeats 40000000 in
theorem rm3_old (l : Launch) (Z : State) (a0 : Array Value) (hw : ∀ d ∈ tables_1, d.before a0 Z = true) (ws : List Jvm.Cond) (x0 : Addr) (t : Addr) (xs : List Int32) (cp : Nat) (nx pb : Int32) (pp : Int64) (h0 : Heap) (n0 : Nat) (sz : n0 ≤ h0.size) (F_x0_bytes : Fld Z h0 x0 "com/example/tallytree/tallytree/BitWriter" "bytes" "[B" (.ref t)) (F_x0_next : Fld Z h0 x0 "com/example/tallytree/tallytree/BitWriter" "next" "I" (.int nx)) (F_x0_pending : Fld Z h0 x0 "com/example/tallytree/tallytree/BitWriter" "pending" "J" (.long pp)) (F_x0_pendingBits : Fld Z h0 x0 "com/example/tallytree/tallytree/BitWriter" "pendingBits" "I" (.int pb)) (E_x0 : Exa Z h0 x0 "com/example/tallytree/tallytree/BitWriter") (g_x0 : n0 ≤ x0) (A_t : AI Z h0 t .byte xs) (g_t : n0 ≤ t) (ne_x0_t : x0 ≠ t) (hcp : cp ≤ 255) (hxl : xs.length < 1000) (hlt : ¬ xs.length < cp + 8) :
    Ctr l (⟨"com/example/tallytree/tallytree/BitWriter", "reset", "(I)V"⟩ : MethodName) prog_9_method_2_code 2 none ws ({ frames := 0, cells := 1, slots := 263, locals := 0 } : Room) Z #[(.ref x0), (.int (Int32.ofNat cp))] h0 (fun v h L => v = none ∧ Fr n0 L ∧ Keep h0 h [x0] ∧ Fld Z h x0 "com/example/tallytree/tallytree/BitWriter" "bytes" "[B" (.ref t) ∧ Fld Z h x0 "com/example/tallytree/tallytree/BitWriter" "next" "I" (.int (0 : Int32)) ∧ Fld Z h x0 "com/example/tallytree/tallytree/BitWriter" "pending" "J" (.long (0 : Int64)) ∧ Fld Z h x0 "com/example/tallytree/tallytree/BitWriter" "pendingBits" "I" (.int (0 : Int32))) 1 263 := by
  refine Ctr.mk pn_3 ?_
  intro p e s m below meth c T hx hby hml hown hnm hlk hret hZ X eT
  have N := Fr.nil n0
  refine enter (ef_3 m x0 (Int32.ofNat cp)) ?_
  have K := Keep.refl h0 [x0]
  refine s_aloadN X hx (hb hby d3_0) rfl rfl (q := 1) rfl ?_
  refine s_getF X hx hZ hown (hw _ (List.mem_of_getElem? (i := 11) rfl)) eT F_x0_bytes (hb hby d3_1) (q := 4) rfl ?_
  intro T X eT
  refine s_lenI X hx hZ eT (z := (Int32.ofNat xs.length)) A_t rfl (hb hby d3_4) (q := 5) rfl ?_
  refine s_iloadN X hx (hb hby d3_5) rfl (q := 6) rfl ?_
  refine s_bipush X hx (z := (8 : Int32)) (hb hby d3_6) rfl (q := 8) rfl ?_
  refine s_iadd X hx (hb hby d3_8) (q := 9) rfl ?_
  rw [own_p8 cp hcp]
  refine f_icmp_ge X hx (hb hby d3_9) (q1 := 22) (by decide) (by decide) (q := 12) rfl (fun _ => ?_) (fun hq => absurd hq (fun q => hlt ((o_lt (by omega) (by omega)).mp q) : ¬ (Int32.ofNat xs.length) < (Int32.ofNat (cp + 8))))
  refine s_aloadN X hx (hb hby d3_22) rfl rfl (q := 23) rfl ?_
  refine s_iconst X hx (z := (0 : Int32)) (hb hby d3_23) rfl (q := 24) rfl ?_
  refine s_putF X hx hZ hown (hw _ (List.mem_of_getElem? (i := 21) rfl)) eT F_x0_next E_x0 (Or.inl (hw _ (List.mem_of_getElem? (i := 22) rfl))) (hw _ (List.mem_of_getElem? (i := 2) rfl)) (ty := .int) (by decide) rfl rfl N g_x0 (hb hby d3_24) (q := 27) rfl ?_
  intro T h1 _ X N eT W F_x0_next'
  have E_x0 := E_x0.wr W
  have F_x0_bytes := F_x0_bytes.other W (Or.inr (slot_ne (Or.inl (hw _ (List.mem_of_getElem? (i := 12) rfl))) (Or.inl (hw _ (List.mem_of_getElem? (i := 22) rfl))) (by decide) (t := (.array .byte)) (t' := .int) (by decide) (by decide)))
  have F_x0_pending := F_x0_pending.other W (Or.inr (slot_ne (Or.inl (hw _ (List.mem_of_getElem? (i := 24) rfl))) (Or.inl (hw _ (List.mem_of_getElem? (i := 22) rfl))) (by decide) (t := .long) (t' := .int) (by decide) (by decide)))
  have F_x0_pendingBits := F_x0_pendingBits.other W (Or.inr (slot_ne (Or.inl (hw _ (List.mem_of_getElem? (i := 26) rfl))) (Or.inl (hw _ (List.mem_of_getElem? (i := 22) rfl))) (by decide) (t := .int) (t' := .int) (by decide) (by decide)))
  have A_t := A_t.other W (Ne.symm ne_x0_t)
  have K := K.wr W (Or.inl (List.mem_of_getElem? (i := 0) rfl))
  have sz : n0 ≤ h1.size := by rw [W.size]; exact sz
  have F_x0_next := F_x0_next'
  refine s_aloadN X hx (hb hby d3_27) rfl rfl (q := 28) rfl ?_
  refine s_lconst X hx (z := (0 : Int64)) (hb hby d3_28) rfl (q := 29) rfl ?_
  refine s_putF X hx hZ hown (hw _ (List.mem_of_getElem? (i := 23) rfl)) eT F_x0_pending E_x0 (Or.inl (hw _ (List.mem_of_getElem? (i := 24) rfl))) (hw _ (List.mem_of_getElem? (i := 2) rfl)) (ty := .long) (by decide) rfl rfl N g_x0 (hb hby d3_29) (q := 32) rfl ?_
  intro T h2 _ X N eT W F_x0_pending'
  have E_x0 := E_x0.wr W
  have F_x0_bytes := F_x0_bytes.other W (Or.inr (slot_ne (Or.inl (hw _ (List.mem_of_getElem? (i := 12) rfl))) (Or.inl (hw _ (List.mem_of_getElem? (i := 24) rfl))) (by decide) (t := (.array .byte)) (t' := .long) (by decide) (by decide)))
  have F_x0_next := F_x0_next.other W (Or.inr (slot_ne (Or.inl (hw _ (List.mem_of_getElem? (i := 22) rfl))) (Or.inl (hw _ (List.mem_of_getElem? (i := 24) rfl))) (by decide) (t := .int) (t' := .long) (by decide) (by decide)))
  have F_x0_pendingBits := F_x0_pendingBits.other W (Or.inr (slot_ne (Or.inl (hw _ (List.mem_of_getElem? (i := 26) rfl))) (Or.inl (hw _ (List.mem_of_getElem? (i := 24) rfl))) (by decide) (t := .int) (t' := .long) (by decide) (by decide)))
  have A_t := A_t.other W (Ne.symm ne_x0_t)
  have K := K.wr W (Or.inl (List.mem_of_getElem? (i := 0) rfl))
  have sz : n0 ≤ h2.size := by rw [W.size]; exact sz
  have F_x0_pending := F_x0_pending'
  refine s_aloadN X hx (hb hby d3_32) rfl rfl (q := 33) rfl ?_
  refine s_iconst X hx (z := (0 : Int32)) (hb hby d3_33) rfl (q := 34) rfl ?_
  refine s_putF X hx hZ hown (hw _ (List.mem_of_getElem? (i := 25) rfl)) eT F_x0_pendingBits E_x0 (Or.inl (hw _ (List.mem_of_getElem? (i := 26) rfl))) (hw _ (List.mem_of_getElem? (i := 2) rfl)) (ty := .int) (by decide) rfl rfl N g_x0 (hb hby d3_34) (q := 37) rfl ?_
  intro T h3 _ X N eT W F_x0_pendingBits'
  have E_x0 := E_x0.wr W
  have F_x0_bytes := F_x0_bytes.other W (Or.inr (slot_ne (Or.inl (hw _ (List.mem_of_getElem? (i := 12) rfl))) (Or.inl (hw _ (List.mem_of_getElem? (i := 26) rfl))) (by decide) (t := (.array .byte)) (t' := .int) (by decide) (by decide)))
  have F_x0_next := F_x0_next.other W (Or.inr (slot_ne (Or.inl (hw _ (List.mem_of_getElem? (i := 22) rfl))) (Or.inl (hw _ (List.mem_of_getElem? (i := 26) rfl))) (by decide) (t := .int) (t' := .int) (by decide) (by decide)))
  have F_x0_pending := F_x0_pending.other W (Or.inr (slot_ne (Or.inl (hw _ (List.mem_of_getElem? (i := 24) rfl))) (Or.inl (hw _ (List.mem_of_getElem? (i := 26) rfl))) (by decide) (t := .long) (t' := .int) (by decide) (by decide)))
  have A_t := A_t.other W (Ne.symm ne_x0_t)
  have K := K.wr W (Or.inl (List.mem_of_getElem? (i := 0) rfl))
  have sz : n0 ≤ h3.size := by rw [W.size]; exact sz
  have F_x0_pendingBits := F_x0_pendingBits'
  exact leafV X hx hlk hret (hb hby d3_37) (by decide) (by decide) (by rw [eT]; exact ⟨rfl, N, K, F_x0_bytes, F_x0_next, F_x0_pending, F_x0_pendingBits⟩)
def QW (Z : State) (x0 t : Addr) (bv bt cn vn ll : Nat) (ff : Nat → Int32) (h0 : Heap) (n0 : Nat) (v : Option Value) (h : Heap) (L : List Loc) : Prop := v = none ∧ Fr n0 L ∧ Keep h0 h [x0, t] ∧ Fld Z h x0 "com/example/tallytree/tallytree/BitWriter" "bytes" "[B" (.ref t) ∧ Fld Z h x0 "com/example/tallytree/tallytree/BitWriter" "next" "I" (.int (Int32.ofNat ((bt + cn) / 8))) ∧ (∃ p1 : Int64, p1.toBitVec = BitVec.ofNat 64 (bv <<< cn ||| vn) ∧ Fld Z h x0 "com/example/tallytree/tallytree/BitWriter" "pending" "J" (.long p1)) ∧ Fld Z h x0 "com/example/tallytree/tallytree/BitWriter" "pendingBits" "I" (.int (Int32.ofNat ((bt + cn) % 8))) ∧ AI Z h t .byte (ML ll (wf ff (bv <<< cn ||| vn) (bt + cn) (bt / 8) ((bt + cn) / 8)))
theorem d5_0 : decode prog_9_method_3_code 0 = .ok (.aload_n 0, 1) := by decide +kernel
theorem d5_1 : decode prog_9_method_3_code 1 = .ok (.aload_n 0, 1) := by decide +kernel
theorem d5_2 : decode prog_9_method_3_code 2 = .ok (.getfield 25, 3) := by decide +kernel
theorem d5_5 : decode prog_9_method_3_code 5 = .ok (.iload_n 2, 1) := by decide +kernel
theorem d5_6 : decode prog_9_method_3_code 6 = .ok (.lshl, 1) := by decide +kernel
theorem d5_7 : decode prog_9_method_3_code 7 = .ok (.iload_n 1, 1) := by decide +kernel
theorem d5_8 : decode prog_9_method_3_code 8 = .ok (.i2l, 1) := by decide +kernel
theorem d5_9 : decode prog_9_method_3_code 9 = .ok (.lor, 1) := by decide +kernel
theorem d5_10 : decode prog_9_method_3_code 10 = .ok (.putfield 25, 3) := by decide +kernel
theorem d5_13 : decode prog_9_method_3_code 13 = .ok (.aload_n 0, 1) := by decide +kernel
theorem d5_14 : decode prog_9_method_3_code 14 = .ok (.dup, 1) := by decide +kernel
theorem d5_15 : decode prog_9_method_3_code 15 = .ok (.getfield 29, 3) := by decide +kernel
theorem d5_18 : decode prog_9_method_3_code 18 = .ok (.iload_n 2, 1) := by decide +kernel
theorem d5_19 : decode prog_9_method_3_code 19 = .ok (.iadd, 1) := by decide +kernel
theorem d5_20 : decode prog_9_method_3_code 20 = .ok (.putfield 29, 3) := by decide +kernel
theorem d5_23 : decode prog_9_method_3_code 23 = .ok (.aload_n 0, 1) := by decide +kernel
theorem d5_24 : decode prog_9_method_3_code 24 = .ok (.getfield 29, 3) := by decide +kernel
theorem d5_27 : decode prog_9_method_3_code 27 = .ok (.bipush 8, 2) := by decide +kernel
theorem d5_29 : decode prog_9_method_3_code 29 = .ok (.if_icmp .lt 44, 3) := by decide +kernel
theorem d5_32 : decode prog_9_method_3_code 32 = .ok (.aload_n 0, 1) := by decide +kernel
theorem d5_33 : decode prog_9_method_3_code 33 = .ok (.dup, 1) := by decide +kernel
theorem d5_34 : decode prog_9_method_3_code 34 = .ok (.getfield 29, 3) := by decide +kernel
theorem d5_37 : decode prog_9_method_3_code 37 = .ok (.bipush 8, 2) := by decide +kernel
theorem d5_39 : decode prog_9_method_3_code 39 = .ok (.isub, 1) := by decide +kernel
theorem d5_40 : decode prog_9_method_3_code 40 = .ok (.putfield 29, 3) := by decide +kernel
theorem d5_43 : decode prog_9_method_3_code 43 = .ok (.aload_n 0, 1) := by decide +kernel
theorem d5_44 : decode prog_9_method_3_code 44 = .ok (.getfield 9, 3) := by decide +kernel
theorem d5_47 : decode prog_9_method_3_code 47 = .ok (.aload_n 0, 1) := by decide +kernel
theorem d5_48 : decode prog_9_method_3_code 48 = .ok (.dup, 1) := by decide +kernel
theorem d5_49 : decode prog_9_method_3_code 49 = .ok (.getfield 21, 3) := by decide +kernel
theorem d5_52 : decode prog_9_method_3_code 52 = .ok (.dup_x1, 1) := by decide +kernel
theorem d5_53 : decode prog_9_method_3_code 53 = .ok (.iconst 1, 1) := by decide +kernel
theorem d5_54 : decode prog_9_method_3_code 54 = .ok (.iadd, 1) := by decide +kernel
theorem d5_55 : decode prog_9_method_3_code 55 = .ok (.putfield 21, 3) := by decide +kernel
theorem d5_58 : decode prog_9_method_3_code 58 = .ok (.aload_n 0, 1) := by decide +kernel
theorem d5_59 : decode prog_9_method_3_code 59 = .ok (.getfield 25, 3) := by decide +kernel
theorem d5_62 : decode prog_9_method_3_code 62 = .ok (.aload_n 0, 1) := by decide +kernel
theorem d5_63 : decode prog_9_method_3_code 63 = .ok (.getfield 29, 3) := by decide +kernel
theorem d5_66 : decode prog_9_method_3_code 66 = .ok (.lushr, 1) := by decide +kernel
theorem d5_67 : decode prog_9_method_3_code 67 = .ok (.l2i, 1) := by decide +kernel
theorem d5_68 : decode prog_9_method_3_code 68 = .ok (.i2b, 1) := by decide +kernel
theorem d5_69 : decode prog_9_method_3_code 69 = .ok (.bastore, 1) := by decide +kernel
theorem d5_70 : decode prog_9_method_3_code 70 = .ok (.goto (-47), 3) := by decide +kernel
theorem d5_73 : decode prog_9_method_3_code 73 = .ok (.return_, 1) := by decide +kernel
theorem pn_5 : plainFor (⟨"com/example/tallytree/tallytree/BitWriter", "write", "(II)V"⟩ : MethodName) = true := plainFor_of_name (by first | (simp [plainName, overriddenIn]; done) | decide +kernel)
theorem ef_5 (m : MethodId) (x0 : Addr) (x1 : Int32) (x2 : Int32) : entryFrame m #[(.ref x0), (.int x1), (.int x2)] 3 = mkF m 0 #[.val (.ref x0), .val (.int x1), .val (.int x2)] [] := by first | (simp [entryFrame, mkF, argsToLocals, Value.category]; done) | rfl
set_option maxRecDepth 65536 in
set_option maxHeartbeats 40000000 in
theorem rm5 (l : Launch) (Z : State) (a0 : Array Value) (hw : ∀ d ∈ tables_1, d.before a0 Z = true) (ws : List Jvm.Cond) (x0 : Addr) (t : Addr) (bv bt cn vn ll : Nat) (ff : Nat → Int32) (pp : Int64) (h0 : Heap) (n0 : Nat) (sz : n0 ≤ h0.size) (F_x0_bytes : Fld Z h0 x0 "com/example/tallytree/tallytree/BitWriter" "bytes" "[B" (.ref t)) (F_x0_next : Fld Z h0 x0 "com/example/tallytree/tallytree/BitWriter" "next" "I" (.int (Int32.ofNat (bt / 8)))) (F_x0_pending : Fld Z h0 x0 "com/example/tallytree/tallytree/BitWriter" "pending" "J" (.long pp)) (F_x0_pendingBits : Fld Z h0 x0 "com/example/tallytree/tallytree/BitWriter" "pendingBits" "I" (.int (Int32.ofNat (bt % 8)))) (E_x0 : Exa Z h0 x0 "com/example/tallytree/tallytree/BitWriter") (g_x0 : n0 ≤ x0) (A_t : AI Z h0 t .byte (ML ll ff)) (g_t : n0 ≤ t) (ne_x0_t : x0 ≠ t) (hpp : pp.toBitVec = BitVec.ofNat 64 bv) (hcn : cn ≤ 24) (hvn : vn < 16777216) (hll : (bt + cn) / 8 ≤ ll) (hl9 : ll < 1000) :
    Ctr l (⟨"com/example/tallytree/tallytree/BitWriter", "write", "(II)V"⟩ : MethodName) prog_9_method_3_code 3 none ws ({ frames := 0, cells := 0, slots := 0, locals := 0 } : Room) Z #[(.ref x0), (.int (Int32.ofNat vn)), (.int (Int32.ofNat cn))] h0 (QW Z x0 t bv bt cn vn ll ff h0 n0) 0 0 := by
  refine Ctr.mk pn_5 ?_
  intro p e s m below meth c T hx hby hml hown hnm hlk hret hZ X eT
  have N := Fr.nil n0
  refine enter (ef_5 m x0 (Int32.ofNat vn) (Int32.ofNat cn)) ?_
  have K := Keep.refl h0 [x0, t]
  refine s_aloadN X hx (hb hby d5_0) rfl rfl (q := 1) rfl ?_
  refine s_aloadN X hx (hb hby d5_1) rfl rfl (q := 2) rfl ?_
  refine s_getF X hx hZ hown (hw _ (List.mem_of_getElem? (i := 23) rfl)) eT F_x0_pending (hb hby d5_2) (q := 5) rfl ?_
  intro T X eT
  refine s_iloadN X hx (hb hby d5_5) rfl (q := 6) rfl ?_
  refine s_lshl X hx (hb hby d5_6) (q := 7) rfl ?_
  refine s_iloadN X hx (hb hby d5_7) rfl (q := 8) rfl ?_
  refine s_i2l X hx (hb hby d5_8) (q := 9) rfl ?_
  refine s_lor X hx (hb hby d5_9) (q := 10) rfl ?_
  generalize hp1' : ((pp <<< ((Int32.ofNat cn) &&& 0x3f).toInt64) ||| (Int32.ofNat vn).toInt64) = p1
  refine s_putF X hx hZ hown (hw _ (List.mem_of_getElem? (i := 23) rfl)) eT F_x0_pending E_x0 (Or.inl (hw _ (List.mem_of_getElem? (i := 24) rfl))) (hw _ (List.mem_of_getElem? (i := 2) rfl)) (ty := .long) (by decide) rfl rfl N g_x0 (hb hby d5_10) (q := 13) rfl ?_
  intro T h1 _ X N eT W F_x0_pending'
  have E_x0 := E_x0.wr W
  have F_x0_bytes := F_x0_bytes.other W (Or.inr (slot_ne (Or.inl (hw _ (List.mem_of_getElem? (i := 12) rfl))) (Or.inl (hw _ (List.mem_of_getElem? (i := 24) rfl))) (by decide) (t := (.array .byte)) (t' := .long) (by decide) (by decide)))
  have F_x0_next := F_x0_next.other W (Or.inr (slot_ne (Or.inl (hw _ (List.mem_of_getElem? (i := 22) rfl))) (Or.inl (hw _ (List.mem_of_getElem? (i := 24) rfl))) (by decide) (t := .int) (t' := .long) (by decide) (by decide)))
  have F_x0_pendingBits := F_x0_pendingBits.other W (Or.inr (slot_ne (Or.inl (hw _ (List.mem_of_getElem? (i := 26) rfl))) (Or.inl (hw _ (List.mem_of_getElem? (i := 24) rfl))) (by decide) (t := .int) (t' := .long) (by decide) (by decide)))
  have A_t := A_t.other W (Ne.symm ne_x0_t)
  have K := K.wr W (Or.inl (List.mem_of_getElem? (i := 0) rfl))
  have sz : n0 ≤ h1.size := by rw [W.size]; exact sz
  have F_x0_pending := F_x0_pending'
  have hp1 : p1.toBitVec = BitVec.ofNat 64 (bv <<< cn ||| vn) := by rw [← hp1']; exact own_app pp bv cn vn hpp (by omega) (by omega)
  refine s_aloadN X hx (hb hby d5_13) rfl rfl (q := 14) rfl ?_
  refine s_dup X hx (hb hby d5_14) rfl (q := 15) rfl ?_
  refine s_getF X hx hZ hown (hw _ (List.mem_of_getElem? (i := 25) rfl)) eT F_x0_pendingBits (hb hby d5_15) (q := 18) rfl ?_
  intro T X eT
  refine s_iloadN X hx (hb hby d5_18) rfl (q := 19) rfl ?_
  refine s_iadd X hx (hb hby d5_19) (q := 20) rfl ?_
  rw [o_add (by omega)]
  refine s_putF X hx hZ hown (hw _ (List.mem_of_getElem? (i := 25) rfl)) eT F_x0_pendingBits E_x0 (Or.inl (hw _ (List.mem_of_getElem? (i := 26) rfl))) (hw _ (List.mem_of_getElem? (i := 2) rfl)) (ty := .int) (by decide) rfl rfl N g_x0 (hb hby d5_20) (q := 23) rfl ?_
  intro T h2 _ X N eT W F_x0_pendingBits'
  have E_x0 := E_x0.wr W
  have F_x0_bytes := F_x0_bytes.other W (Or.inr (slot_ne (Or.inl (hw _ (List.mem_of_getElem? (i := 12) rfl))) (Or.inl (hw _ (List.mem_of_getElem? (i := 26) rfl))) (by decide) (t := (.array .byte)) (t' := .int) (by decide) (by decide)))
  have F_x0_next := F_x0_next.other W (Or.inr (slot_ne (Or.inl (hw _ (List.mem_of_getElem? (i := 22) rfl))) (Or.inl (hw _ (List.mem_of_getElem? (i := 26) rfl))) (by decide) (t := .int) (t' := .int) (by decide) (by decide)))
  have F_x0_pending := F_x0_pending.other W (Or.inr (slot_ne (Or.inl (hw _ (List.mem_of_getElem? (i := 24) rfl))) (Or.inl (hw _ (List.mem_of_getElem? (i := 26) rfl))) (by decide) (t := .long) (t' := .int) (by decide) (by decide)))
  have A_t := A_t.other W (Ne.symm ne_x0_t)
  have K := K.wr W (Or.inl (List.mem_of_getElem? (i := 0) rfl))
  have sz : n0 ≤ h2.size := by rw [W.size]; exact sz
  have F_x0_pendingBits := F_x0_pendingBits'
  have lp : ∀ (k j : Nat) (T : State) (hh : Heap) (locs : List Loc), j + k = (bt % 8 + cn) / 8 → Stand p l e ({ frames := 0, cells := 0, slots := 0, locals := 0 } : Room) s m #[(.ref x0), (.int (Int32.ofNat vn)), (.int (Int32.ofNat cn))] below meth c T locs 0 0 → T.heap = hh → Fr n0 locs → n0 ≤ hh.size → Keep h0 hh [x0, t] → Exa Z hh x0 "com/example/tallytree/tallytree/BitWriter" → Fld Z hh x0 "com/example/tallytree/tallytree/BitWriter" "bytes" "[B" (.ref t) → Fld Z hh x0 "com/example/tallytree/tallytree/BitWriter" "next" "I" (.int (Int32.ofNat (bt / 8 + j))) → Fld Z hh x0 "com/example/tallytree/tallytree/BitWriter" "pending" "J" (.long p1) → Fld Z hh x0 "com/example/tallytree/tallytree/BitWriter" "pendingBits" "I" (.int (Int32.ofNat (bt % 8 + cn - 8 * j))) → AI Z hh t .byte (ML ll (wf ff (bv <<< cn ||| vn) (bt + cn) (bt / 8) (bt / 8 + j))) → Go p e below (Gl s below (QW Z x0 t bv bt cn vn ll ff h0 n0) 0 0) T m 23 #[.val (.ref x0), .val (.int (Int32.ofNat vn)), .val (.int (Int32.ofNat cn))] [] := by
    intro k
    induction k with
    | zero =>
      intro j T hh locs hjk X eT N sz K E_x0 F_x0_bytes F_x0_next F_x0_pending F_x0_pendingBits A_t
      refine s_aloadN X hx (hb hby d5_23) rfl rfl (q := 24) rfl ?_
      refine s_getF X hx hZ hown (hw _ (List.mem_of_getElem? (i := 25) rfl)) eT F_x0_pendingBits (hb hby d5_24) (q := 27) rfl ?_
      intro T X eT
      refine s_bipush X hx (z := (8 : Int32)) (hb hby d5_27) rfl (q := 29) rfl ?_
      refine f_icmp_lt X hx (hb hby d5_29) (q1 := 73) (by decide) (by decide) (q := 32) rfl (fun _ => ?_) (fun hq => absurd ((o_lt (b := 8) (by omega) (by omega)).mpr (by omega) : (Int32.ofNat (bt % 8 + cn - 8 * j)) < (8 : Int32)) hq)
      rw [show bt / 8 + j = (bt + cn) / 8 from by omega] at F_x0_next A_t
      rw [show bt % 8 + cn - 8 * j = (bt + cn) % 8 from by omega] at F_x0_pendingBits
      exact leafV X hx hlk hret (hb hby d5_73) (by decide) (by decide) (by rw [eT]; exact ⟨rfl, N, K, F_x0_bytes, F_x0_next, ⟨p1, hp1, F_x0_pending⟩, F_x0_pendingBits, A_t⟩)
    | succ k ih =>
      intro j T hh locs hjk X eT N sz K E_x0 F_x0_bytes F_x0_next F_x0_pending F_x0_pendingBits A_t
      refine s_aloadN X hx (hb hby d5_23) rfl rfl (q := 24) rfl ?_
      refine s_getF X hx hZ hown (hw _ (List.mem_of_getElem? (i := 25) rfl)) eT F_x0_pendingBits (hb hby d5_24) (q := 27) rfl ?_
      intro T X eT
      refine s_bipush X hx (z := (8 : Int32)) (hb hby d5_27) rfl (q := 29) rfl ?_
      refine f_icmp_lt X hx (hb hby d5_29) (q1 := 73) (by decide) (by decide) (q := 32) rfl (fun hq => absurd hq (fun q => absurd ((o_lt (b := 8) (by omega) (by omega)).mp q) (by omega) : ¬ (Int32.ofNat (bt % 8 + cn - 8 * j)) < (8 : Int32))) (fun _ => ?_)
      refine s_aloadN X hx (hb hby d5_32) rfl rfl (q := 33) rfl ?_
      refine s_dup X hx (hb hby d5_33) rfl (q := 34) rfl ?_
      refine s_getF X hx hZ hown (hw _ (List.mem_of_getElem? (i := 25) rfl)) eT F_x0_pendingBits (hb hby d5_34) (q := 37) rfl ?_
      intro T X eT
      refine s_bipush X hx (z := (8 : Int32)) (hb hby d5_37) rfl (q := 39) rfl ?_
      refine s_isub X hx (hb hby d5_39) (q := 40) rfl ?_
      rw [own_s8 _ j (by omega) (by omega)]
      refine s_putF X hx hZ hown (hw _ (List.mem_of_getElem? (i := 25) rfl)) eT F_x0_pendingBits E_x0 (Or.inl (hw _ (List.mem_of_getElem? (i := 26) rfl))) (hw _ (List.mem_of_getElem? (i := 2) rfl)) (ty := .int) (by decide) rfl rfl N g_x0 (hb hby d5_40) (q := 43) rfl ?_
      intro T h3 _ X N eT W F_x0_pendingBits'
      have E_x0 := E_x0.wr W
      have F_x0_bytes := F_x0_bytes.other W (Or.inr (slot_ne (Or.inl (hw _ (List.mem_of_getElem? (i := 12) rfl))) (Or.inl (hw _ (List.mem_of_getElem? (i := 26) rfl))) (by decide) (t := (.array .byte)) (t' := .int) (by decide) (by decide)))
      have F_x0_next := F_x0_next.other W (Or.inr (slot_ne (Or.inl (hw _ (List.mem_of_getElem? (i := 22) rfl))) (Or.inl (hw _ (List.mem_of_getElem? (i := 26) rfl))) (by decide) (t := .int) (t' := .int) (by decide) (by decide)))
      have F_x0_pending := F_x0_pending.other W (Or.inr (slot_ne (Or.inl (hw _ (List.mem_of_getElem? (i := 24) rfl))) (Or.inl (hw _ (List.mem_of_getElem? (i := 26) rfl))) (by decide) (t := .long) (t' := .int) (by decide) (by decide)))
      have A_t := A_t.other W (Ne.symm ne_x0_t)
      have K := K.wr W (Or.inl (List.mem_of_getElem? (i := 0) rfl))
      have sz : n0 ≤ h3.size := by rw [W.size]; exact sz
      have F_x0_pendingBits := F_x0_pendingBits'
      refine s_aloadN X hx (hb hby d5_43) rfl rfl (q := 44) rfl ?_
      refine s_getF X hx hZ hown (hw _ (List.mem_of_getElem? (i := 11) rfl)) eT F_x0_bytes (hb hby d5_44) (q := 47) rfl ?_
      intro T X eT
      refine s_aloadN X hx (hb hby d5_47) rfl rfl (q := 48) rfl ?_
      refine s_dup X hx (hb hby d5_48) rfl (q := 49) rfl ?_
      refine s_getF X hx hZ hown (hw _ (List.mem_of_getElem? (i := 21) rfl)) eT F_x0_next (hb hby d5_49) (q := 52) rfl ?_
      intro T X eT
      refine s_dup_x1 X hx (hb hby d5_52) rfl rfl (q := 53) rfl ?_
      refine s_iconst X hx (z := (1 : Int32)) (hb hby d5_53) rfl (q := 54) rfl ?_
      refine s_iadd X hx (hb hby d5_54) (q := 55) rfl ?_
      rw [own_inc _ j (by omega)]
      refine s_putF X hx hZ hown (hw _ (List.mem_of_getElem? (i := 21) rfl)) eT F_x0_next E_x0 (Or.inl (hw _ (List.mem_of_getElem? (i := 22) rfl))) (hw _ (List.mem_of_getElem? (i := 2) rfl)) (ty := .int) (by decide) rfl rfl N g_x0 (hb hby d5_55) (q := 58) rfl ?_
      intro T h4 _ X N eT W F_x0_next'
      have E_x0 := E_x0.wr W
      have F_x0_bytes := F_x0_bytes.other W (Or.inr (slot_ne (Or.inl (hw _ (List.mem_of_getElem? (i := 12) rfl))) (Or.inl (hw _ (List.mem_of_getElem? (i := 22) rfl))) (by decide) (t := (.array .byte)) (t' := .int) (by decide) (by decide)))
      have F_x0_pending := F_x0_pending.other W (Or.inr (slot_ne (Or.inl (hw _ (List.mem_of_getElem? (i := 24) rfl))) (Or.inl (hw _ (List.mem_of_getElem? (i := 22) rfl))) (by decide) (t := .long) (t' := .int) (by decide) (by decide)))
      have F_x0_pendingBits := F_x0_pendingBits.other W (Or.inr (slot_ne (Or.inl (hw _ (List.mem_of_getElem? (i := 26) rfl))) (Or.inl (hw _ (List.mem_of_getElem? (i := 22) rfl))) (by decide) (t := .int) (t' := .int) (by decide) (by decide)))
      have A_t := A_t.other W (Ne.symm ne_x0_t)
      have K := K.wr W (Or.inl (List.mem_of_getElem? (i := 0) rfl))
      have sz : n0 ≤ h4.size := by rw [W.size]; exact sz
      have F_x0_next := F_x0_next'
      refine s_aloadN X hx (hb hby d5_58) rfl rfl (q := 59) rfl ?_
      refine s_getF X hx hZ hown (hw _ (List.mem_of_getElem? (i := 23) rfl)) eT F_x0_pending (hb hby d5_59) (q := 62) rfl ?_
      intro T X eT
      refine s_aloadN X hx (hb hby d5_62) rfl rfl (q := 63) rfl ?_
      refine s_getF X hx hZ hown (hw _ (List.mem_of_getElem? (i := 25) rfl)) eT F_x0_pendingBits (hb hby d5_63) (q := 66) rfl ?_
      intro T X eT
      refine s_lushr X hx (hb hby d5_66) (q := 67) rfl ?_
      refine s_l2i X hx (hb hby d5_67) (q := 68) rfl ?_
      refine s_i2b X hx (hb hby d5_68) (q := 69) rfl ?_
      refine s_bastore X hx hZ eT A_t N g_t (o_nn (by omega)) (i := bt / 8 + j) (o_nat (by omega)) (by rw [ML_len]; omega) (ys := ML ll (wf ff (bv <<< cn ||| vn) (bt + cn) (bt / 8) (bt / 8 + (j + 1)))) (own_wset ll ff _ bt cn j p1 hp1 hcn (by omega)) (hb hby d5_69) (q := 70) rfl ?_
      intro T h5 _ X N eT W A_t'
      have E_x0 := E_x0.wr W
      have F_x0_bytes := F_x0_bytes.other W (Or.inl ne_x0_t)
      have F_x0_next := F_x0_next.other W (Or.inl ne_x0_t)
      have F_x0_pending := F_x0_pending.other W (Or.inl ne_x0_t)
      have F_x0_pendingBits := F_x0_pendingBits.other W (Or.inl ne_x0_t)
      have K := K.wr W (Or.inl (List.mem_of_getElem? (i := 1) rfl))
      have sz : n0 ≤ h5.size := by rw [W.size]; exact sz
      have A_t := A_t'
      refine s_goto X hx (hb hby d5_70) (q1 := 23) (by decide) (by decide) ?_
      exact ih (j + 1) _ _ _ (by omega) X eT N sz K E_x0 F_x0_bytes F_x0_next F_x0_pending F_x0_pendingBits A_t
  rw [← own_w0 ll ff (bv <<< cn ||| vn) (bt + cn) (bt / 8)] at A_t
  exact lp _ 0 _ _ _ (Nat.zero_add _) X eT N sz K E_x0 F_x0_bytes F_x0_next F_x0_pending F_x0_pendingBits A_t
theorem d6_0 : decode prog_9_method_5_code 0 = .ok (.aload_n 0, 1) := by decide +kernel
theorem d6_1 : decode prog_9_method_5_code 1 = .ok (.getfield 29, 3) := by decide +kernel
theorem d6_4 : decode prog_9_method_5_code 4 = .ok (.bipush 8, 2) := by decide +kernel
theorem d6_6 : decode prog_9_method_5_code 6 = .ok (.if_icmp .lt 44, 3) := by decide +kernel
theorem d6_9 : decode prog_9_method_5_code 9 = .ok (.aload_n 0, 1) := by decide +kernel
theorem d6_10 : decode prog_9_method_5_code 10 = .ok (.dup, 1) := by decide +kernel
theorem d6_11 : decode prog_9_method_5_code 11 = .ok (.getfield 29, 3) := by decide +kernel
theorem d6_14 : decode prog_9_method_5_code 14 = .ok (.bipush 8, 2) := by decide +kernel
theorem d6_16 : decode prog_9_method_5_code 16 = .ok (.isub, 1) := by decide +kernel
theorem d6_17 : decode prog_9_method_5_code 17 = .ok (.putfield 29, 3) := by decide +kernel
theorem d6_20 : decode prog_9_method_5_code 20 = .ok (.aload_n 0, 1) := by decide +kernel
theorem d6_21 : decode prog_9_method_5_code 21 = .ok (.getfield 9, 3) := by decide +kernel
theorem d6_24 : decode prog_9_method_5_code 24 = .ok (.aload_n 0, 1) := by decide +kernel
theorem d6_25 : decode prog_9_method_5_code 25 = .ok (.dup, 1) := by decide +kernel
theorem d6_26 : decode prog_9_method_5_code 26 = .ok (.getfield 21, 3) := by decide +kernel
theorem d6_29 : decode prog_9_method_5_code 29 = .ok (.dup_x1, 1) := by decide +kernel
theorem d6_30 : decode prog_9_method_5_code 30 = .ok (.iconst 1, 1) := by decide +kernel
theorem d6_31 : decode prog_9_method_5_code 31 = .ok (.iadd, 1) := by decide +kernel
theorem d6_32 : decode prog_9_method_5_code 32 = .ok (.putfield 21, 3) := by decide +kernel
theorem d6_35 : decode prog_9_method_5_code 35 = .ok (.aload_n 0, 1) := by decide +kernel
theorem d6_36 : decode prog_9_method_5_code 36 = .ok (.getfield 25, 3) := by decide +kernel
theorem d6_39 : decode prog_9_method_5_code 39 = .ok (.aload_n 0, 1) := by decide +kernel
theorem d6_40 : decode prog_9_method_5_code 40 = .ok (.getfield 29, 3) := by decide +kernel
theorem d6_43 : decode prog_9_method_5_code 43 = .ok (.lushr, 1) := by decide +kernel
theorem d6_44 : decode prog_9_method_5_code 44 = .ok (.l2i, 1) := by decide +kernel
theorem d6_45 : decode prog_9_method_5_code 45 = .ok (.i2b, 1) := by decide +kernel
theorem d6_46 : decode prog_9_method_5_code 46 = .ok (.bastore, 1) := by decide +kernel
theorem d6_47 : decode prog_9_method_5_code 47 = .ok (.goto (-47), 3) := by decide +kernel
theorem d6_50 : decode prog_9_method_5_code 50 = .ok (.aload_n 0, 1) := by decide +kernel
theorem d6_51 : decode prog_9_method_5_code 51 = .ok (.getfield 29, 3) := by decide +kernel
theorem d6_54 : decode prog_9_method_5_code 54 = .ok (.ifCond .le 33, 3) := by decide +kernel
theorem d6_57 : decode prog_9_method_5_code 57 = .ok (.aload_n 0, 1) := by decide +kernel
theorem d6_58 : decode prog_9_method_5_code 58 = .ok (.getfield 9, 3) := by decide +kernel
theorem d6_61 : decode prog_9_method_5_code 61 = .ok (.aload_n 0, 1) := by decide +kernel
theorem d6_62 : decode prog_9_method_5_code 62 = .ok (.dup, 1) := by decide +kernel
theorem d6_63 : decode prog_9_method_5_code 63 = .ok (.getfield 21, 3) := by decide +kernel
theorem d6_66 : decode prog_9_method_5_code 66 = .ok (.dup_x1, 1) := by decide +kernel
theorem d6_67 : decode prog_9_method_5_code 67 = .ok (.iconst 1, 1) := by decide +kernel
theorem d6_68 : decode prog_9_method_5_code 68 = .ok (.iadd, 1) := by decide +kernel
theorem d6_69 : decode prog_9_method_5_code 69 = .ok (.putfield 21, 3) := by decide +kernel
theorem d6_72 : decode prog_9_method_5_code 72 = .ok (.aload_n 0, 1) := by decide +kernel
theorem d6_73 : decode prog_9_method_5_code 73 = .ok (.getfield 25, 3) := by decide +kernel
theorem d6_76 : decode prog_9_method_5_code 76 = .ok (.bipush 8, 2) := by decide +kernel
theorem d6_78 : decode prog_9_method_5_code 78 = .ok (.aload_n 0, 1) := by decide +kernel
theorem d6_79 : decode prog_9_method_5_code 79 = .ok (.getfield 29, 3) := by decide +kernel
theorem d6_82 : decode prog_9_method_5_code 82 = .ok (.isub, 1) := by decide +kernel
theorem d6_83 : decode prog_9_method_5_code 83 = .ok (.lshl, 1) := by decide +kernel
theorem d6_84 : decode prog_9_method_5_code 84 = .ok (.l2i, 1) := by decide +kernel
theorem d6_85 : decode prog_9_method_5_code 85 = .ok (.i2b, 1) := by decide +kernel
theorem d6_86 : decode prog_9_method_5_code 86 = .ok (.bastore, 1) := by decide +kernel
theorem d6_87 : decode prog_9_method_5_code 87 = .ok (.aload_n 0, 1) := by decide +kernel
theorem d6_88 : decode prog_9_method_5_code 88 = .ok (.lconst 0, 1) := by decide +kernel
theorem d6_89 : decode prog_9_method_5_code 89 = .ok (.putfield 25, 3) := by decide +kernel
theorem d6_92 : decode prog_9_method_5_code 92 = .ok (.aload_n 0, 1) := by decide +kernel
theorem d6_93 : decode prog_9_method_5_code 93 = .ok (.iconst 0, 1) := by decide +kernel
theorem d6_94 : decode prog_9_method_5_code 94 = .ok (.putfield 29, 3) := by decide +kernel
theorem d6_97 : decode prog_9_method_5_code 97 = .ok (.aload_n 0, 1) := by decide +kernel
theorem d6_98 : decode prog_9_method_5_code 98 = .ok (.getfield 21, 3) := by decide +kernel
theorem d6_101 : decode prog_9_method_5_code 101 = .ok (.ireturn, 1) := by decide +kernel
theorem pn_6 : plainFor (⟨"com/example/tallytree/tallytree/BitWriter", "finish", "()I"⟩ : MethodName) = true := plainFor_of_name (by first | (simp [plainName, overriddenIn]; done) | decide +kernel)
theorem ef_6 (m : MethodId) (x0 : Addr) : entryFrame m #[(.ref x0)] 1 = mkF m 0 #[.val (.ref x0)] [] := by first | (simp [entryFrame, mkF, argsToLocals, Value.category]; done) | rfl
set_option maxRecDepth 65536 in
set_option maxHeartbeats 40000000 in
theorem rm6_0 (l : Launch) (Z : State) (a0 : Array Value) (hw : ∀ d ∈ tables_1, d.before a0 Z = true) (ws : List Jvm.Cond) (x0 : Addr) (t : Addr) (nx : Int32) (pp : Int64) (h0 : Heap) (n0 : Nat) (sz : n0 ≤ h0.size) (F_x0_bytes : Fld Z h0 x0 "com/example/tallytree/tallytree/BitWriter" "bytes" "[B" (.ref t)) (F_x0_next : Fld Z h0 x0 "com/example/tallytree/tallytree/BitWriter" "next" "I" (.int nx)) (F_x0_pending : Fld Z h0 x0 "com/example/tallytree/tallytree/BitWriter" "pending" "J" (.long pp)) (F_x0_pendingBits : Fld Z h0 x0 "com/example/tallytree/tallytree/BitWriter" "pendingBits" "I" (.int (0 : Int32))) (E_x0 : Exa Z h0 x0 "com/example/tallytree/tallytree/BitWriter") (g_x0 : n0 ≤ x0) :
    Ctr l (⟨"com/example/tallytree/tallytree/BitWriter", "finish", "()I"⟩ : MethodName) prog_9_method_5_code 1 (some .int) ws ({ frames := 0, cells := 0, slots := 0, locals := 0 } : Room) Z #[(.ref x0)] h0 (fun v h L => v = some (.int nx) ∧ Fr n0 L ∧ Keep h0 h [x0] ∧ Fld Z h x0 "com/example/tallytree/tallytree/BitWriter" "bytes" "[B" (.ref t) ∧ Fld Z h x0 "com/example/tallytree/tallytree/BitWriter" "next" "I" (.int nx) ∧ Fld Z h x0 "com/example/tallytree/tallytree/BitWriter" "pending" "J" (.long (0 : Int64)) ∧ Fld Z h x0 "com/example/tallytree/tallytree/BitWriter" "pendingBits" "I" (.int (0 : Int32))) 0 0 := by
  refine Ctr.mk pn_6 ?_
  intro p e s m below meth c T hx hby hml hown hnm hlk hret hZ X eT
  have N := Fr.nil n0
  refine enter (ef_6 m x0) ?_
  have K := Keep.refl h0 [x0]
  refine s_aloadN X hx (hb hby d6_0) rfl rfl (q := 1) rfl ?_
  refine s_getF X hx hZ hown (hw _ (List.mem_of_getElem? (i := 25) rfl)) eT F_x0_pendingBits (hb hby d6_1) (q := 4) rfl ?_
  intro T X eT
  refine s_bipush X hx (z := (8 : Int32)) (hb hby d6_4) rfl (q := 6) rfl ?_
  refine f_icmp_lt X hx (hb hby d6_6) (q1 := 50) (by decide) (by decide) (q := 9) rfl (fun _ => ?_) (fun hq => absurd (by decide : (0 : Int32) < (8 : Int32)) hq)
  refine s_aloadN X hx (hb hby d6_50) rfl rfl (q := 51) rfl ?_
  refine s_getF X hx hZ hown (hw _ (List.mem_of_getElem? (i := 25) rfl)) eT F_x0_pendingBits (hb hby d6_51) (q := 54) rfl ?_
  intro T X eT
  refine f_if_le X hx (hb hby d6_54) (q1 := 87) (by decide) (by decide) (q := 57) rfl (fun _ => ?_) (fun hq => absurd hq (by decide : ¬ 0 < (0 : Int32)))
  refine s_aloadN X hx (hb hby d6_87) rfl rfl (q := 88) rfl ?_
  refine s_lconst X hx (z := (0 : Int64)) (hb hby d6_88) rfl (q := 89) rfl ?_
  refine s_putF X hx hZ hown (hw _ (List.mem_of_getElem? (i := 23) rfl)) eT F_x0_pending E_x0 (Or.inl (hw _ (List.mem_of_getElem? (i := 24) rfl))) (hw _ (List.mem_of_getElem? (i := 2) rfl)) (ty := .long) (by decide) rfl rfl N g_x0 (hb hby d6_89) (q := 92) rfl ?_
  intro T h1 _ X N eT W F_x0_pending'
  have E_x0 := E_x0.wr W
  have F_x0_bytes := F_x0_bytes.other W (Or.inr (slot_ne (Or.inl (hw _ (List.mem_of_getElem? (i := 12) rfl))) (Or.inl (hw _ (List.mem_of_getElem? (i := 24) rfl))) (by decide) (t := (.array .byte)) (t' := .long) (by decide) (by decide)))
  have F_x0_next := F_x0_next.other W (Or.inr (slot_ne (Or.inl (hw _ (List.mem_of_getElem? (i := 22) rfl))) (Or.inl (hw _ (List.mem_of_getElem? (i := 24) rfl))) (by decide) (t := .int) (t' := .long) (by decide) (by decide)))
  have F_x0_pendingBits := F_x0_pendingBits.other W (Or.inr (slot_ne (Or.inl (hw _ (List.mem_of_getElem? (i := 26) rfl))) (Or.inl (hw _ (List.mem_of_getElem? (i := 24) rfl))) (by decide) (t := .int) (t' := .long) (by decide) (by decide)))
  have K := K.wr W (Or.inl (List.mem_of_getElem? (i := 0) rfl))
  have sz : n0 ≤ h1.size := by rw [W.size]; exact sz
  have F_x0_pending := F_x0_pending'
  refine s_aloadN X hx (hb hby d6_92) rfl rfl (q := 93) rfl ?_
  refine s_iconst X hx (z := (0 : Int32)) (hb hby d6_93) rfl (q := 94) rfl ?_
  refine s_putF X hx hZ hown (hw _ (List.mem_of_getElem? (i := 25) rfl)) eT F_x0_pendingBits E_x0 (Or.inl (hw _ (List.mem_of_getElem? (i := 26) rfl))) (hw _ (List.mem_of_getElem? (i := 2) rfl)) (ty := .int) (by decide) rfl rfl N g_x0 (hb hby d6_94) (q := 97) rfl ?_
  intro T h2 _ X N eT W F_x0_pendingBits'
  have E_x0 := E_x0.wr W
  have F_x0_bytes := F_x0_bytes.other W (Or.inr (slot_ne (Or.inl (hw _ (List.mem_of_getElem? (i := 12) rfl))) (Or.inl (hw _ (List.mem_of_getElem? (i := 26) rfl))) (by decide) (t := (.array .byte)) (t' := .int) (by decide) (by decide)))
  have F_x0_next := F_x0_next.other W (Or.inr (slot_ne (Or.inl (hw _ (List.mem_of_getElem? (i := 22) rfl))) (Or.inl (hw _ (List.mem_of_getElem? (i := 26) rfl))) (by decide) (t := .int) (t' := .int) (by decide) (by decide)))
  have F_x0_pending := F_x0_pending.other W (Or.inr (slot_ne (Or.inl (hw _ (List.mem_of_getElem? (i := 24) rfl))) (Or.inl (hw _ (List.mem_of_getElem? (i := 26) rfl))) (by decide) (t := .long) (t' := .int) (by decide) (by decide)))
  have K := K.wr W (Or.inl (List.mem_of_getElem? (i := 0) rfl))
  have sz : n0 ≤ h2.size := by rw [W.size]; exact sz
  have F_x0_pendingBits := F_x0_pendingBits'
  refine s_aloadN X hx (hb hby d6_97) rfl rfl (q := 98) rfl ?_
  refine s_getF X hx hZ hown (hw _ (List.mem_of_getElem? (i := 21) rfl)) eT F_x0_next (hb hby d6_98) (q := 101) rfl ?_
  intro T X eT
  exact leafI X hx hlk hret (hb hby d6_101) (by decide) (by decide) (by rw [eT]; exact ⟨rfl, N, K, F_x0_bytes, F_x0_next, F_x0_pending, F_x0_pendingBits⟩)
set_option maxRecDepth 65536 in
set_option maxHeartbeats 40000000 in
theorem rm6_1 (l : Launch) (Z : State) (a0 : Array Value) (hw : ∀ d ∈ tables_1, d.before a0 Z = true) (ws : List Jvm.Cond) (x0 : Addr) (t : Addr) (bv nx pb ll : Nat) (ff : Nat → Int32) (pp : Int64) (h0 : Heap) (n0 : Nat) (sz : n0 ≤ h0.size) (F_x0_bytes : Fld Z h0 x0 "com/example/tallytree/tallytree/BitWriter" "bytes" "[B" (.ref t)) (F_x0_next : Fld Z h0 x0 "com/example/tallytree/tallytree/BitWriter" "next" "I" (.int (Int32.ofNat nx))) (F_x0_pending : Fld Z h0 x0 "com/example/tallytree/tallytree/BitWriter" "pending" "J" (.long pp)) (F_x0_pendingBits : Fld Z h0 x0 "com/example/tallytree/tallytree/BitWriter" "pendingBits" "I" (.int (Int32.ofNat pb))) (E_x0 : Exa Z h0 x0 "com/example/tallytree/tallytree/BitWriter") (g_x0 : n0 ≤ x0) (A_t : AI Z h0 t .byte (ML ll ff)) (g_t : n0 ≤ t) (ne_x0_t : x0 ≠ t) (hpp : pp.toBitVec = BitVec.ofNat 64 bv) (hp0 : 0 < pb) (hp8 : pb < 8) (hnl : nx < ll) (hl9 : ll < 1000) :
    Ctr l (⟨"com/example/tallytree/tallytree/BitWriter", "finish", "()I"⟩ : MethodName) prog_9_method_5_code 1 (some .int) ws ({ frames := 0, cells := 0, slots := 0, locals := 0 } : Room) Z #[(.ref x0)] h0 (fun v h L => v = some (.int (Int32.ofNat (nx + (0 + 1)))) ∧ Fr n0 L ∧ Keep h0 h [x0, t] ∧ Fld Z h x0 "com/example/tallytree/tallytree/BitWriter" "bytes" "[B" (.ref t) ∧ Fld Z h x0 "com/example/tallytree/tallytree/BitWriter" "next" "I" (.int (Int32.ofNat (nx + (0 + 1)))) ∧ Fld Z h x0 "com/example/tallytree/tallytree/BitWriter" "pending" "J" (.long (0 : Int64)) ∧ Fld Z h x0 "com/example/tallytree/tallytree/BitWriter" "pendingBits" "I" (.int (0 : Int32)) ∧ AI Z h t .byte (ML ll (fun i => if i = nx then bb (bv <<< (8 - pb)) else ff i))) 0 0 := by
  refine Ctr.mk pn_6 ?_
  intro p e s m below meth c T hx hby hml hown hnm hlk hret hZ X eT
  have N := Fr.nil n0
  refine enter (ef_6 m x0) ?_
  have K := Keep.refl h0 [x0, t]
  refine s_aloadN X hx (hb hby d6_0) rfl rfl (q := 1) rfl ?_
  refine s_getF X hx hZ hown (hw _ (List.mem_of_getElem? (i := 25) rfl)) eT F_x0_pendingBits (hb hby d6_1) (q := 4) rfl ?_
  intro T X eT
  refine s_bipush X hx (z := (8 : Int32)) (hb hby d6_4) rfl (q := 6) rfl ?_
  refine f_icmp_lt X hx (hb hby d6_6) (q1 := 50) (by decide) (by decide) (q := 9) rfl (fun _ => ?_) (fun hq => absurd ((o_lt (b := 8) (by omega) (by omega)).mpr hp8 : (Int32.ofNat pb) < (8 : Int32)) hq)
  refine s_aloadN X hx (hb hby d6_50) rfl rfl (q := 51) rfl ?_
  refine s_getF X hx hZ hown (hw _ (List.mem_of_getElem? (i := 25) rfl)) eT F_x0_pendingBits (hb hby d6_51) (q := 54) rfl ?_
  intro T X eT
  refine f_if_le X hx (hb hby d6_54) (q1 := 87) (by decide) (by decide) (q := 57) rfl (fun hq => absurd ((o_lt (a := 0) (by omega) (by omega)).mpr hp0 : 0 < (Int32.ofNat pb)) hq) (fun _ => ?_)
  refine s_aloadN X hx (hb hby d6_57) rfl rfl (q := 58) rfl ?_
  refine s_getF X hx hZ hown (hw _ (List.mem_of_getElem? (i := 11) rfl)) eT F_x0_bytes (hb hby d6_58) (q := 61) rfl ?_
  intro T X eT
  refine s_aloadN X hx (hb hby d6_61) rfl rfl (q := 62) rfl ?_
  refine s_dup X hx (hb hby d6_62) rfl (q := 63) rfl ?_
  refine s_getF X hx hZ hown (hw _ (List.mem_of_getElem? (i := 21) rfl)) eT F_x0_next (hb hby d6_63) (q := 66) rfl ?_
  intro T X eT
  refine s_dup_x1 X hx (hb hby d6_66) rfl rfl (q := 67) rfl ?_
  refine s_iconst X hx (z := (1 : Int32)) (hb hby d6_67) rfl (q := 68) rfl ?_
  refine s_iadd X hx (hb hby d6_68) (q := 69) rfl ?_
  rw [show Int32.ofNat nx + (1 : Int32) = Int32.ofNat (nx + (0 + 1)) from own_inc nx 0 (by omega)]
  refine s_putF X hx hZ hown (hw _ (List.mem_of_getElem? (i := 21) rfl)) eT F_x0_next E_x0 (Or.inl (hw _ (List.mem_of_getElem? (i := 22) rfl))) (hw _ (List.mem_of_getElem? (i := 2) rfl)) (ty := .int) (by decide) rfl rfl N g_x0 (hb hby d6_69) (q := 72) rfl ?_
  intro T h1 _ X N eT W F_x0_next'
  have E_x0 := E_x0.wr W
  have F_x0_bytes := F_x0_bytes.other W (Or.inr (slot_ne (Or.inl (hw _ (List.mem_of_getElem? (i := 12) rfl))) (Or.inl (hw _ (List.mem_of_getElem? (i := 22) rfl))) (by decide) (t := (.array .byte)) (t' := .int) (by decide) (by decide)))
  have F_x0_pending := F_x0_pending.other W (Or.inr (slot_ne (Or.inl (hw _ (List.mem_of_getElem? (i := 24) rfl))) (Or.inl (hw _ (List.mem_of_getElem? (i := 22) rfl))) (by decide) (t := .long) (t' := .int) (by decide) (by decide)))
  have F_x0_pendingBits := F_x0_pendingBits.other W (Or.inr (slot_ne (Or.inl (hw _ (List.mem_of_getElem? (i := 26) rfl))) (Or.inl (hw _ (List.mem_of_getElem? (i := 22) rfl))) (by decide) (t := .int) (t' := .int) (by decide) (by decide)))
  have A_t := A_t.other W (Ne.symm ne_x0_t)
  have K := K.wr W (Or.inl (List.mem_of_getElem? (i := 0) rfl))
  have sz : n0 ≤ h1.size := by rw [W.size]; exact sz
  have F_x0_next := F_x0_next'
  refine s_aloadN X hx (hb hby d6_72) rfl rfl (q := 73) rfl ?_
  refine s_getF X hx hZ hown (hw _ (List.mem_of_getElem? (i := 23) rfl)) eT F_x0_pending (hb hby d6_73) (q := 76) rfl ?_
  intro T X eT
  refine s_bipush X hx (z := (8 : Int32)) (hb hby d6_76) rfl (q := 78) rfl ?_
  refine s_aloadN X hx (hb hby d6_78) rfl rfl (q := 79) rfl ?_
  refine s_getF X hx hZ hown (hw _ (List.mem_of_getElem? (i := 25) rfl)) eT F_x0_pendingBits (hb hby d6_79) (q := 82) rfl ?_
  intro T X eT
  refine s_isub X hx (hb hby d6_82) (q := 83) rfl ?_
  refine s_lshl X hx (hb hby d6_83) (q := 84) rfl ?_
  refine s_l2i X hx (hb hby d6_84) (q := 85) rfl ?_
  refine s_i2b X hx (hb hby d6_85) (q := 86) rfl ?_
  refine s_bastore X hx hZ eT A_t N g_t (o_nn (by omega)) (i := nx) (o_nat (by omega)) (by rw [ML_len]; exact hnl) (ys := ML ll (fun i => if i = nx then bb (bv <<< (8 - pb)) else ff i)) (own_fset ll ff bv nx pb pp hpp hp0 hp8) (hb hby d6_86) (q := 87) rfl ?_
  intro T h2 _ X N eT W A_t'
  have E_x0 := E_x0.wr W
  have F_x0_bytes := F_x0_bytes.other W (Or.inl ne_x0_t)
  have F_x0_next := F_x0_next.other W (Or.inl ne_x0_t)
  have F_x0_pending := F_x0_pending.other W (Or.inl ne_x0_t)
  have F_x0_pendingBits := F_x0_pendingBits.other W (Or.inl ne_x0_t)
  have K := K.wr W (Or.inl (List.mem_of_getElem? (i := 1) rfl))
  have sz : n0 ≤ h2.size := by rw [W.size]; exact sz
  have A_t := A_t'
  refine s_aloadN X hx (hb hby d6_87) rfl rfl (q := 88) rfl ?_
  refine s_lconst X hx (z := (0 : Int64)) (hb hby d6_88) rfl (q := 89) rfl ?_
  refine s_putF X hx hZ hown (hw _ (List.mem_of_getElem? (i := 23) rfl)) eT F_x0_pending E_x0 (Or.inl (hw _ (List.mem_of_getElem? (i := 24) rfl))) (hw _ (List.mem_of_getElem? (i := 2) rfl)) (ty := .long) (by decide) rfl rfl N g_x0 (hb hby d6_89) (q := 92) rfl ?_
  intro T h3 _ X N eT W F_x0_pending'
  have E_x0 := E_x0.wr W
  have F_x0_bytes := F_x0_bytes.other W (Or.inr (slot_ne (Or.inl (hw _ (List.mem_of_getElem? (i := 12) rfl))) (Or.inl (hw _ (List.mem_of_getElem? (i := 24) rfl))) (by decide) (t := (.array .byte)) (t' := .long) (by decide) (by decide)))
  have F_x0_next := F_x0_next.other W (Or.inr (slot_ne (Or.inl (hw _ (List.mem_of_getElem? (i := 22) rfl))) (Or.inl (hw _ (List.mem_of_getElem? (i := 24) rfl))) (by decide) (t := .int) (t' := .long) (by decide) (by decide)))
  have F_x0_pendingBits := F_x0_pendingBits.other W (Or.inr (slot_ne (Or.inl (hw _ (List.mem_of_getElem? (i := 26) rfl))) (Or.inl (hw _ (List.mem_of_getElem? (i := 24) rfl))) (by decide) (t := .int) (t' := .long) (by decide) (by decide)))
  have A_t := A_t.other W (Ne.symm ne_x0_t)
  have K := K.wr W (Or.inl (List.mem_of_getElem? (i := 0) rfl))
  have sz : n0 ≤ h3.size := by rw [W.size]; exact sz
  have F_x0_pending := F_x0_pending'
  refine s_aloadN X hx (hb hby d6_92) rfl rfl (q := 93) rfl ?_
  refine s_iconst X hx (z := (0 : Int32)) (hb hby d6_93) rfl (q := 94) rfl ?_
  refine s_putF X hx hZ hown (hw _ (List.mem_of_getElem? (i := 25) rfl)) eT F_x0_pendingBits E_x0 (Or.inl (hw _ (List.mem_of_getElem? (i := 26) rfl))) (hw _ (List.mem_of_getElem? (i := 2) rfl)) (ty := .int) (by decide) rfl rfl N g_x0 (hb hby d6_94) (q := 97) rfl ?_
  intro T h4 _ X N eT W F_x0_pendingBits'
  have E_x0 := E_x0.wr W
  have F_x0_bytes := F_x0_bytes.other W (Or.inr (slot_ne (Or.inl (hw _ (List.mem_of_getElem? (i := 12) rfl))) (Or.inl (hw _ (List.mem_of_getElem? (i := 26) rfl))) (by decide) (t := (.array .byte)) (t' := .int) (by decide) (by decide)))
  have F_x0_next := F_x0_next.other W (Or.inr (slot_ne (Or.inl (hw _ (List.mem_of_getElem? (i := 22) rfl))) (Or.inl (hw _ (List.mem_of_getElem? (i := 26) rfl))) (by decide) (t := .int) (t' := .int) (by decide) (by decide)))
  have F_x0_pending := F_x0_pending.other W (Or.inr (slot_ne (Or.inl (hw _ (List.mem_of_getElem? (i := 24) rfl))) (Or.inl (hw _ (List.mem_of_getElem? (i := 26) rfl))) (by decide) (t := .long) (t' := .int) (by decide) (by decide)))
  have A_t := A_t.other W (Ne.symm ne_x0_t)
  have K := K.wr W (Or.inl (List.mem_of_getElem? (i := 0) rfl))
  have sz : n0 ≤ h4.size := by rw [W.size]; exact sz
  have F_x0_pendingBits := F_x0_pendingBits'
  refine s_aloadN X hx (hb hby d6_97) rfl rfl (q := 98) rfl ?_
  refine s_getF X hx hZ hown (hw _ (List.mem_of_getElem? (i := 21) rfl)) eT F_x0_next (hb hby d6_98) (q := 101) rfl ?_
  intro T X eT
  exact leafI X hx hlk hret (hb hby d6_101) (by decide) (by decide) (by rw [eT]; exact ⟨rfl, N, K, F_x0_bytes, F_x0_next, F_x0_pending, F_x0_pendingBits, A_t⟩)
theorem d4_0 : decode prog_9_method_6_code 0 = .ok (.aload_n 0, 1) := by decide +kernel
theorem d4_1 : decode prog_9_method_6_code 1 = .ok (.getfield 9, 3) := by decide +kernel
theorem d4_4 : decode prog_9_method_6_code 4 = .ok (.areturn, 1) := by decide +kernel
theorem pn_4 : plainFor (⟨"com/example/tallytree/tallytree/BitWriter", "bytes", "()[B"⟩ : MethodName) = true := plainFor_of_name (by first | (simp [plainName, overriddenIn]; done) | decide +kernel)
theorem ef_4 (m : MethodId) (x0 : Addr) : entryFrame m #[(.ref x0)] 1 = mkF m 0 #[.val (.ref x0)] [] := by first | (simp [entryFrame, mkF, argsToLocals, Value.category]; done) | rfl
set_option maxRecDepth 65536 in
set_option maxHeartbeats 40000000 in
theorem rm4 (l : Launch) (Z : State) (a0 : Array Value) (hw : ∀ d ∈ tables_1, d.before a0 Z = true) (ws : List Jvm.Cond) (x0 : Addr) (t : Addr) (h0 : Heap) (n0 : Nat) (sz : n0 ≤ h0.size) (F_x0_bytes : Fld Z h0 x0 "com/example/tallytree/tallytree/BitWriter" "bytes" "[B" (.ref t)) :
    Ctr l (⟨"com/example/tallytree/tallytree/BitWriter", "bytes", "()[B"⟩ : MethodName) prog_9_method_6_code 1 (some (.array .byte)) ws ({ frames := 0, cells := 0, slots := 0, locals := 0 } : Room) Z #[(.ref x0)] h0 (fun v h L => v = some (.ref t) ∧ h = h0 ∧ Fr n0 L) 0 0 := by
  refine Ctr.mk pn_4 ?_
  intro p e s m below meth c T hx hby hml hown hnm hlk hret hZ X eT
  have N := Fr.nil n0
  refine enter (ef_4 m x0) ?_
  refine s_aloadN X hx (hb hby d4_0) rfl rfl (q := 1) rfl ?_
  refine s_getF X hx hZ hown (hw _ (List.mem_of_getElem? (i := 11) rfl)) eT F_x0_bytes (hb hby d4_1) (q := 4) rfl ?_
  intro T X eT
  exact leafA X hx hlk hret rfl rfl (hb hby d4_4) (by decide) (by decide) ⟨rfl, eT, N⟩
theorem pn_0 : plainFor x = true := plainFor_of_name (by first | (simp [plainName, overriddenIn]; done) | decide +kernel)
theorem ef_0 (m : MethodId) (x0 : Int32) (x1 : Int32) (x2 : Int32) (x3 : Int32) (x4 : Int32) (x5 : Int32) : entryFrame m #[(.int x0), (.int x1), (.int x2), (.int x3), (.int x4), (.int x5)] maxLocals = mkF m 0 #[.val (.int x0), .val (.int x1), .val (.int x2), .val (.int x3), .val (.int x4), .val (.int x5), .unset, .unset, .unset, .unset, .unset, .unset, .unset, .unset, .unset, .unset, .unset, .unset] [] := by first | (simp [entryFrame, mkF, argsToLocals, Value.category, maxLocals]; done) | rfl
theorem pd0 : parseMethodDescriptor "()V" = some ⟨[], none⟩ := by decide +kernel
theorem pd1 : parseMethodDescriptor "(I)V" = some ⟨[.int], none⟩ := by decide +kernel
theorem pd2 : parseMethodDescriptor "()[B" = some ⟨[], some (.array .byte)⟩ := by decide +kernel
theorem pd3 : parseMethodDescriptor "(II)V" = some ⟨[.int, .int], none⟩ := by decide +kernel
theorem pd4 : parseMethodDescriptor "()I" = some ⟨[], some .int⟩ := by decide +kernel
def Q0 (h0 : Heap) (n0 : Nat) (v : Option Value) (h : Heap) (L : List Loc) : Prop := v = some (.int 1) ∧ Fr n0 L
set_option maxRecDepth 65536 in
set_option maxHeartbeats 40000000 in
theorem rm0 (l : Launch) (Z : State) (a0 : Array Value) (hw : ∀ d ∈ tables_1, d.before a0 Z = true) (ws : List Jvm.Cond) (x0 : Int32) (x1 : Int32) (x2 : Int32) (x3 : Int32) (x4 : Int32) (x5 : Int32) (h0 : Heap) (n0 : Nat) (sz : n0 ≤ h0.size) :
    Ctr l x code maxLocals ret ws room_1 Z #[(.int x0), (.int x1), (.int x2), (.int x3), (.int x4), (.int x5)] h0 (Q0 h0 n0) 24 1664 := by
  refine Ctr.mk pn_0 ?_
  intro p e s m below meth c T hx hby hml hown hnm hlk hret hZ X eT
  have N := Fr.nil n0
  refine enter (ef_0 m x0 x1 x2 x3 x4 x5) ?_
  refine s_iloadN X hx (hb hby at_0) rfl (q := 1) rfl ?_
  refine s_sipush X hx (z := (255 : Int32)) (hb hby at_1) rfl (q := 4) rfl ?_
  refine s_iand X hx (hb hby at_4) (q := 5) rfl ?_
  generalize hka : (x0 &&& (255 : Int32)) = ka
  refine s_istore X hx (hb hby at_5) (L' := #[.val (.int x0), .val (.int x1), .val (.int x2), .val (.int x3), .val (.int x4), .val (.int x5), .val (.int ka), .unset, .unset, .unset, .unset, .unset, .unset, .unset, .unset, .unset, .unset, .unset]) rfl (q := 7) rfl ?_
  obtain ⟨k1, hk1, rfl⟩ := own_m255 x0 ka hka
  refine s_iloadN X hx (hb hby at_7) rfl (q := 8) rfl ?_
  refine s_sipush X hx (z := (255 : Int32)) (hb hby at_8) rfl (q := 11) rfl ?_
  refine s_iand X hx (hb hby at_11) (q := 12) rfl ?_
  generalize hkb : (x1 &&& (255 : Int32)) = kb
  refine s_istore X hx (hb hby at_12) (L' := #[.val (.int x0), .val (.int x1), .val (.int x2), .val (.int x3), .val (.int x4), .val (.int x5), .val (.int (Int32.ofNat k1)), .val (.int kb), .unset, .unset, .unset, .unset, .unset, .unset, .unset, .unset, .unset, .unset]) rfl (q := 14) rfl ?_
  obtain ⟨k2, hk2, rfl⟩ := own_m255 x1 kb hkb
  refine s_iloadN X hx (hb hby at_14) rfl (q := 15) rfl ?_
  refine s_ldc X hx hZ hown (hw _ (List.mem_of_getElem? (i := 0) rfl)) (hb hby at_15) (q := 17) rfl ?_
  refine s_iand X hx (hb hby at_17) (q := 18) rfl ?_
  refine s_bipush X hx (z := (25 : Int32)) (hb hby at_18) rfl (q := 20) rfl ?_
  refine s_irem X hx (hb hby at_20) (by decide) (q := 21) rfl ?_
  generalize hca : ((x3 &&& (2147483647 : Int32)) % (25 : Int32)) = ca
  refine s_istore X hx (hb hby at_21) (L' := #[.val (.int x0), .val (.int x1), .val (.int x2), .val (.int x3), .val (.int x4), .val (.int x5), .val (.int (Int32.ofNat k1)), .val (.int (Int32.ofNat k2)), .val (.int ca), .unset, .unset, .unset, .unset, .unset, .unset, .unset, .unset, .unset]) rfl (q := 23) rfl ?_
  obtain ⟨na, hna, rfl⟩ := own_cnt _ ca (c_and x3 2147483647 (by decide)).1 hca
  refine s_iloadN X hx (hb hby at_23) rfl (q := 24) rfl ?_
  refine s_iconst X hx (z := (1 : Int32)) (hb hby at_24) rfl (q := 25) rfl ?_
  refine s_iload X hx (hb hby at_25) rfl (q := 27) rfl ?_
  refine s_ishl X hx (hb hby at_27) (q := 28) rfl ?_
  refine s_iconst X hx (z := (1 : Int32)) (hb hby at_28) rfl (q := 29) rfl ?_
  refine s_isub X hx (hb hby at_29) (q := 30) rfl ?_
  refine s_iand X hx (hb hby at_30) (q := 31) rfl ?_
  generalize hva : (x2 &&& (((1 : Int32) <<< ((Int32.ofNat na) &&& 31)) - (1 : Int32))) = va
  refine s_istore X hx (hb hby at_31) (L' := #[.val (.int x0), .val (.int x1), .val (.int x2), .val (.int x3), .val (.int x4), .val (.int x5), .val (.int (Int32.ofNat k1)), .val (.int (Int32.ofNat k2)), .val (.int (Int32.ofNat na)), .val (.int va), .unset, .unset, .unset, .unset, .unset, .unset, .unset, .unset]) rfl (q := 33) rfl ?_
  obtain ⟨v1, hv1, hv1', rfl⟩ := own_val x2 na va hna hva
  refine s_iload X hx (hb hby at_33) rfl (q := 35) rfl ?_
  refine s_ldc X hx hZ hown (hw _ (List.mem_of_getElem? (i := 0) rfl)) (hb hby at_35) (q := 37) rfl ?_
  refine s_iand X hx (hb hby at_37) (q := 38) rfl ?_
  refine s_bipush X hx (z := (25 : Int32)) (hb hby at_38) rfl (q := 40) rfl ?_
  refine s_irem X hx (hb hby at_40) (by decide) (q := 41) rfl ?_
  generalize hcb : ((x5 &&& (2147483647 : Int32)) % (25 : Int32)) = cb
  refine s_istore X hx (hb hby at_41) (L' := #[.val (.int x0), .val (.int x1), .val (.int x2), .val (.int x3), .val (.int x4), .val (.int x5), .val (.int (Int32.ofNat k1)), .val (.int (Int32.ofNat k2)), .val (.int (Int32.ofNat na)), .val (.int (Int32.ofNat v1)), .val (.int cb), .unset, .unset, .unset, .unset, .unset, .unset, .unset]) rfl (q := 43) rfl ?_
  obtain ⟨nb, hnb, rfl⟩ := own_cnt _ cb (c_and x5 2147483647 (by decide)).1 hcb
  refine s_iload X hx (hb hby at_43) rfl (q := 45) rfl ?_
  refine s_iconst X hx (z := (1 : Int32)) (hb hby at_45) rfl (q := 46) rfl ?_
  refine s_iload X hx (hb hby at_46) rfl (q := 48) rfl ?_
  refine s_ishl X hx (hb hby at_48) (q := 49) rfl ?_
  refine s_iconst X hx (z := (1 : Int32)) (hb hby at_49) rfl (q := 50) rfl ?_
  refine s_isub X hx (hb hby at_50) (q := 51) rfl ?_
  refine s_iand X hx (hb hby at_51) (q := 52) rfl ?_
  generalize hvb : (x4 &&& (((1 : Int32) <<< ((Int32.ofNat nb) &&& 31)) - (1 : Int32))) = vb
  refine s_istore X hx (hb hby at_52) (L' := #[.val (.int x0), .val (.int x1), .val (.int x2), .val (.int x3), .val (.int x4), .val (.int x5), .val (.int (Int32.ofNat k1)), .val (.int (Int32.ofNat k2)), .val (.int (Int32.ofNat na)), .val (.int (Int32.ofNat v1)), .val (.int (Int32.ofNat nb)), .val (.int vb), .unset, .unset, .unset, .unset, .unset, .unset]) rfl (q := 54) rfl ?_
  obtain ⟨v2, hv2, hv2', rfl⟩ := own_val x4 nb vb hnb hvb
  refine s_new X hx hZ hown (hw _ (List.mem_of_getElem? (i := 1) rfl)) (hw _ (List.mem_of_getElem? (i := 2) rfl)) (hw _ (List.mem_of_getElem? (i := 3) rfl)) eT (by decide) (by decide) (hb hby at_54) (q := 57) rfl ?_
  intro T h2 a1 X eT E ea E_a1' Df
  have g_a1 : n0 ≤ a1 := by rw [ea]; exact sz
  have sz : n0 ≤ h2.size := Nat.le_trans sz E.1
  have E_a1 := E_a1'
  have F_a1_bytes : Fld Z h2 a1 "com/example/tallytree/tallytree/BitWriter" "bytes" "[B" .null := Df _ _ _ (.array .byte) (Or.inl (hw _ (List.mem_of_getElem? (i := 12) rfl))) (by decide)
  have F_a1_entries : Fld Z h2 a1 "com/example/tallytree/tallytree/BitWriter" "entries" "[I" .null := Df _ _ _ (.array .int) (Or.inr (hw _ (List.mem_of_getElem? (i := 15) rfl))) (by decide)
  have F_a1_next : Fld Z h2 a1 "com/example/tallytree/tallytree/BitWriter" "next" "I" (.int (0 : Int32)) := Df _ _ _ .int (Or.inl (hw _ (List.mem_of_getElem? (i := 22) rfl))) (by decide)
  have F_a1_pending : Fld Z h2 a1 "com/example/tallytree/tallytree/BitWriter" "pending" "J" (.long (0 : Int64)) := Df _ _ _ .long (Or.inl (hw _ (List.mem_of_getElem? (i := 24) rfl))) (by decide)
  have F_a1_pendingBits : Fld Z h2 a1 "com/example/tallytree/tallytree/BitWriter" "pendingBits" "I" (.int (0 : Int32)) := Df _ _ _ .int (Or.inl (hw _ (List.mem_of_getElem? (i := 26) rfl))) (by decide)
  refine s_dup X hx (hb hby at_57) rfl (q := 58) rfl ?_
  refine callI X hx hZ hown (W := 1) (argsL := []) (rest := [(.ref a1)]) rfl (hw _ (List.mem_of_getElem? (i := 4) rfl)) (hw _ (List.mem_of_getElem? (i := 5) rfl)) (hw _ (List.mem_of_getElem? (i := 3) rfl)) (hw _ (List.mem_of_getElem? (i := 6) rfl)) (by decide) (rm1 l Z a0 hw [] a1 h2 n0 sz F_a1_bytes F_a1_next F_a1_pending F_a1_pendingBits E_a1 g_a1 F_a1_entries) eT (by decide) (by decide) (by decide) (by decide) (by rw [hml]; rfl) pd0 rfl rfl (Nat.le_of_ble_eq_true rfl) (hb hby at_58) (q := 61) rfl ?_
  intro v T Lc hQ X
  obtain ⟨h3, eT⟩ : ∃ z, T.heap = z := ⟨_, rfl⟩
  try rw [eT] at hQ
  obtain ⟨rfl, N', K', t4, st_t4, F_a1_bytes', F_a1_next', F_a1_pending', F_a1_pendingBits', A_t4⟩ := hQ
  have N := Fr.app N N'
  have g_t4 : n0 ≤ t4 := Nat.le_trans sz st_t4
  have ne_a1_t4 : a1 ≠ t4 := Nat.ne_of_lt (Nat.lt_of_lt_of_le E_a1.lt st_t4)
  have E_a1 := E_a1.keep K'
  have sz : n0 ≤ h3.size := Nat.le_trans sz K'.1
  have F_a1_bytes := F_a1_bytes'
  have F_a1_next := F_a1_next'
  have F_a1_pending := F_a1_pending'
  have F_a1_pendingBits := F_a1_pendingBits'
  refine s_astore X hx (hb hby at_61) rfl (L' := #[.val (.int x0), .val (.int x1), .val (.int x2), .val (.int x3), .val (.int x4), .val (.int x5), .val (.int (Int32.ofNat k1)), .val (.int (Int32.ofNat k2)), .val (.int (Int32.ofNat na)), .val (.int (Int32.ofNat v1)), .val (.int (Int32.ofNat nb)), .val (.int (Int32.ofNat v2)), .val (.ref a1), .unset, .unset, .unset, .unset, .unset]) rfl (q := 63) rfl ?_
  refine s_aload X hx (hb hby at_63) rfl rfl (q := 65) rfl ?_
  refine s_iload X hx (hb hby at_65) rfl (q := 67) rfl ?_
  refine callV X hx hZ hown (W := 0) (argsL := [(.int (Int32.ofNat k1))]) (rest := []) (hw _ (List.mem_of_getElem? (i := 16) rfl)) (hw _ (List.mem_of_getElem? (i := 17) rfl)) (hw _ (List.mem_of_getElem? (i := 19) rfl)) (hw _ (List.mem_of_getElem? (i := 18) rfl)) (hw _ (List.mem_of_getElem? (i := 3) rfl)) (hw _ (List.mem_of_getElem? (i := 20) rfl)) (by decide) E_a1 (rm3_new l Z a0 hw [] a1 t4 [] k1 (0 : Int32) (0 : Int32) (0 : Int64) h3 n0 sz F_a1_bytes F_a1_next F_a1_pending F_a1_pendingBits E_a1 g_a1 A_t4 g_t4 ne_a1_t4 hk1 (by decide) (by simp)) eT (by decide) (by decide) (by decide) (by decide) (by rw [hml]; rfl) pd1 rfl rfl (Nat.le_of_ble_eq_true rfl) (hb hby at_67) (q := 70) rfl ?_
  intro v T Lc hQ X
  obtain ⟨h5, eT⟩ : ∃ z, T.heap = z := ⟨_, rfl⟩
  try rw [eT] at hQ
  obtain ⟨rfl, N', K', t6, st_t6, F_a1_bytes', F_a1_next', F_a1_pending', F_a1_pendingBits', A_t6⟩ := hQ
  have N := Fr.app N N'
  have g_t6 : n0 ≤ t6 := Nat.le_trans sz st_t6
  have ne_a1_t6 : a1 ≠ t6 := Nat.ne_of_lt (Nat.lt_of_lt_of_le E_a1.lt st_t6)
  have ne_t4_t6 : t4 ≠ t6 := Nat.ne_of_lt (Nat.lt_of_lt_of_le A_t4.lt st_t6)
  have E_a1 := E_a1.keep K'
  have A_t4 := A_t4.keep K' (ninS (Ne.symm ne_a1_t4) nin0)
  have sz : n0 ≤ h5.size := Nat.le_trans sz K'.1
  have F_a1_bytes := F_a1_bytes'
  have F_a1_next := F_a1_next'
  have F_a1_pending := F_a1_pending'
  have F_a1_pendingBits := F_a1_pendingBits'
  refine s_aload X hx (hb hby at_70) rfl rfl (q := 72) rfl ?_
  refine callV X hx hZ hown (W := 0) (argsL := []) (rest := []) (hw _ (List.mem_of_getElem? (i := 27) rfl)) (hw _ (List.mem_of_getElem? (i := 28) rfl)) (hw _ (List.mem_of_getElem? (i := 30) rfl)) (hw _ (List.mem_of_getElem? (i := 29) rfl)) (hw _ (List.mem_of_getElem? (i := 3) rfl)) (hw _ (List.mem_of_getElem? (i := 31) rfl)) (by decide) E_a1 (rm4 l Z a0 hw [] a1 t6 h5 n0 sz F_a1_bytes) eT (by decide) (by decide) (by decide) (by decide) (by rw [hml]; rfl) pd2 rfl rfl (Nat.le_of_ble_eq_true rfl) (hb hby at_72) (q := 75) rfl ?_
  intro v T Lc hQ X
  obtain ⟨rfl, eT, N'⟩ := hQ
  have N := Fr.app N N'
  refine s_astore X hx (hb hby at_75) rfl (L' := #[.val (.int x0), .val (.int x1), .val (.int x2), .val (.int x3), .val (.int x4), .val (.int x5), .val (.int (Int32.ofNat k1)), .val (.int (Int32.ofNat k2)), .val (.int (Int32.ofNat na)), .val (.int (Int32.ofNat v1)), .val (.int (Int32.ofNat nb)), .val (.int (Int32.ofNat v2)), .val (.ref a1), .val (.ref t6), .unset, .unset, .unset, .unset]) rfl (q := 77) rfl ?_
  refine s_aload X hx (hb hby at_77) rfl rfl (q := 79) rfl ?_
  refine s_lenI X hx hZ eT (z := (Int32.ofNat (k1 + 8))) A_t6 (by rw [ML_len]) (hb hby at_79) (q := 80) rfl ?_
  refine s_iload X hx (hb hby at_80) rfl (q := 82) rfl ?_
  refine s_bipush X hx (z := (8 : Int32)) (hb hby at_82) rfl (q := 84) rfl ?_
  refine s_iadd X hx (hb hby at_84) (q := 85) rfl ?_
  rw [own_p8 k1 hk1]
  refine f_icmp_ne X hx (hb hby at_85) (q1 := 92) (by decide) (by decide) (q := 88) rfl (fun hq => absurd (rfl : (Int32.ofNat (k1 + 8)) = (Int32.ofNat (k1 + 8))) hq) (fun _ => ?_)
  refine s_iconst X hx (z := (1 : Int32)) (hb hby at_88) rfl (q := 89) rfl ?_
  refine s_goto X hx (hb hby at_89) (q1 := 93) (by decide) (by decide) ?_
  refine s_istore X hx (hb hby at_93) (L' := #[.val (.int x0), .val (.int x1), .val (.int x2), .val (.int x3), .val (.int x4), .val (.int x5), .val (.int (Int32.ofNat k1)), .val (.int (Int32.ofNat k2)), .val (.int (Int32.ofNat na)), .val (.int (Int32.ofNat v1)), .val (.int (Int32.ofNat nb)), .val (.int (Int32.ofNat v2)), .val (.ref a1), .val (.ref t6), .val (.int (1 : Int32)), .unset, .unset, .unset]) rfl (q := 95) rfl ?_
  refine s_aload X hx (hb hby at_95) rfl rfl (q := 97) rfl ?_
  refine s_iload X hx (hb hby at_97) rfl (q := 99) rfl ?_
  refine s_iload X hx (hb hby at_99) rfl (q := 101) rfl ?_
  refine callV X hx hZ hown (W := 0) (argsL := [(.int (Int32.ofNat v1)), (.int (Int32.ofNat na))]) (rest := []) (hw _ (List.mem_of_getElem? (i := 32) rfl)) (hw _ (List.mem_of_getElem? (i := 33) rfl)) (hw _ (List.mem_of_getElem? (i := 35) rfl)) (hw _ (List.mem_of_getElem? (i := 34) rfl)) (hw _ (List.mem_of_getElem? (i := 3) rfl)) (hw _ (List.mem_of_getElem? (i := 36) rfl)) (by decide) E_a1 (rm5 l Z a0 hw [] a1 t6 0 0 na v1 (k1 + 8) (sb 0 0) (0 : Int64) h5 n0 sz F_a1_bytes F_a1_next F_a1_pending F_a1_pendingBits E_a1 g_a1 A_t6 g_t6 ne_a1_t6 rfl hna hv1' (by omega) (by omega)) eT (by decide) (by decide) (by decide) (by decide) (by rw [hml]; rfl) pd3 rfl rfl (Nat.le_of_ble_eq_true rfl) (hb hby at_101) (q := 104) rfl ?_
  intro v T Lc hQ X
  obtain ⟨h7, eT⟩ : ∃ z, T.heap = z := ⟨_, rfl⟩
  try rw [eT] at hQ
  obtain ⟨rfl, N', K', F_a1_bytes', F_a1_next', ⟨pp8, hb_pp8, F_a1_pending'⟩, F_a1_pendingBits', A_t6'⟩ := hQ
  have N := Fr.app N N'
  have E_a1 := E_a1.keep K'
  have A_t4 := A_t4.keep K' (ninS (Ne.symm ne_a1_t4) (ninS ne_t4_t6 nin0))
  have sz : n0 ≤ h7.size := Nat.le_trans sz K'.1
  have A_t6 := A_t6'
  have F_a1_bytes := F_a1_bytes'
  have F_a1_next := F_a1_next'
  have F_a1_pending := F_a1_pending'
  have F_a1_pendingBits := F_a1_pendingBits'
  refine s_aload X hx (hb hby at_104) rfl rfl (q := 106) rfl ?_
  refine s_iload X hx (hb hby at_106) rfl (q := 108) rfl ?_
  by_cases hr : k1 + 8 < k2 + 8
  · refine callV X hx hZ hown (W := 0) (argsL := [(.int (Int32.ofNat k2))]) (rest := []) (hw _ (List.mem_of_getElem? (i := 16) rfl)) (hw _ (List.mem_of_getElem? (i := 17) rfl)) (hw _ (List.mem_of_getElem? (i := 19) rfl)) (hw _ (List.mem_of_getElem? (i := 18) rfl)) (hw _ (List.mem_of_getElem? (i := 3) rfl)) (hw _ (List.mem_of_getElem? (i := 20) rfl)) (by decide) E_a1 (rm3_new l Z a0 hw [] a1 t6 (ML (k1 + 8) (wf (sb 0 0) (0 <<< na ||| v1) (0 + na) (0 / 8) ((0 + na) / 8))) k2 (Int32.ofNat ((0 + na) / 8)) (Int32.ofNat ((0 + na) % 8)) pp8 h7 n0 sz F_a1_bytes F_a1_next F_a1_pending F_a1_pendingBits E_a1 g_a1 A_t6 g_t6 ne_a1_t6 hk2 (by rw [ML_len]; omega) (by rw [ML_len]; exact hr)) eT (by decide) (by decide) (by decide) (by decide) (by rw [hml]; rfl) pd1 rfl rfl (Nat.le_of_ble_eq_true rfl) (hb hby at_108) (q := 111) rfl ?_
    intro v T Lc hQ X
    obtain ⟨h9, eT⟩ : ∃ z, T.heap = z := ⟨_, rfl⟩
    try rw [eT] at hQ
    obtain ⟨rfl, N', K', t10, st_t10, F_a1_bytes', F_a1_next', F_a1_pending', F_a1_pendingBits', A_t10⟩ := hQ
    have N := Fr.app N N'
    have g_t10 : n0 ≤ t10 := Nat.le_trans sz st_t10
    have ne_a1_t10 : a1 ≠ t10 := Nat.ne_of_lt (Nat.lt_of_lt_of_le E_a1.lt st_t10)
    have ne_t4_t10 : t4 ≠ t10 := Nat.ne_of_lt (Nat.lt_of_lt_of_le A_t4.lt st_t10)
    have ne_t6_t10 : t6 ≠ t10 := Nat.ne_of_lt (Nat.lt_of_lt_of_le A_t6.lt st_t10)
    have E_a1 := E_a1.keep K'
    have A_t4 := A_t4.keep K' (ninS (Ne.symm ne_a1_t4) nin0)
    have A_t6 := A_t6.keep K' (ninS (Ne.symm ne_a1_t6) nin0)
    have sz : n0 ≤ h9.size := Nat.le_trans sz K'.1
    have F_a1_bytes := F_a1_bytes'
    have F_a1_next := F_a1_next'
    have F_a1_pending := F_a1_pending'
    have F_a1_pendingBits := F_a1_pendingBits'
    refine s_aload X hx (hb hby at_111) rfl rfl (q := 113) rfl ?_
    refine callV X hx hZ hown (W := 0) (argsL := []) (rest := []) (hw _ (List.mem_of_getElem? (i := 27) rfl)) (hw _ (List.mem_of_getElem? (i := 28) rfl)) (hw _ (List.mem_of_getElem? (i := 30) rfl)) (hw _ (List.mem_of_getElem? (i := 29) rfl)) (hw _ (List.mem_of_getElem? (i := 3) rfl)) (hw _ (List.mem_of_getElem? (i := 31) rfl)) (by decide) E_a1 (rm4 l Z a0 hw [] a1 t10 h9 n0 sz F_a1_bytes) eT (by decide) (by decide) (by decide) (by decide) (by rw [hml]; rfl) pd2 rfl rfl (Nat.le_of_ble_eq_true rfl) (hb hby at_113) (q := 116) rfl ?_
    intro v T Lc hQ X
    obtain ⟨rfl, eT, N'⟩ := hQ
    have N := Fr.app N N'
    refine s_astore X hx (hb hby at_116) rfl (L' := #[.val (.int x0), .val (.int x1), .val (.int x2), .val (.int x3), .val (.int x4), .val (.int x5), .val (.int (Int32.ofNat k1)), .val (.int (Int32.ofNat k2)), .val (.int (Int32.ofNat na)), .val (.int (Int32.ofNat v1)), .val (.int (Int32.ofNat nb)), .val (.int (Int32.ofNat v2)), .val (.ref a1), .val (.ref t6), .val (.int (1 : Int32)), .val (.ref t10), .unset, .unset]) rfl (q := 118) rfl ?_
    refine s_aload X hx (hb hby at_118) rfl rfl (q := 120) rfl ?_
    refine s_lenI X hx hZ eT (z := (Int32.ofNat (k1 + 8))) A_t6 (by rw [ML_len]) (hb hby at_120) (q := 121) rfl ?_
    refine s_iload X hx (hb hby at_121) rfl (q := 123) rfl ?_
    refine s_bipush X hx (z := (8 : Int32)) (hb hby at_123) rfl (q := 125) rfl ?_
    refine s_iadd X hx (hb hby at_125) (q := 126) rfl ?_
    rw [own_p8 k2 hk2]
    refine f_icmp_lt X hx (hb hby at_126) (q1 := 151) (by decide) (by decide) (q := 129) rfl (fun _ => ?_) (fun hq => absurd ((o_lt (by omega) (by omega)).mpr hr : (Int32.ofNat (k1 + 8)) < (Int32.ofNat (k2 + 8))) hq)
    refine s_iload X hx (hb hby at_151) rfl (q := 153) rfl ?_
    refine f_if_eq X hx (hb hby at_153) (q1 := 178) (by decide) (by decide) (q := 156) rfl (fun hq => absurd hq (by decide : ¬ (1 : Int32) = 0)) (fun _ => ?_)
    refine s_aload X hx (hb hby at_156) rfl rfl (q := 158) rfl ?_
    refine s_aload X hx (hb hby at_158) rfl rfl (q := 160) rfl ?_
    refine s_acmp X hx (q1 := 163) (same := false) (hb hby at_160) rfl rfl (decide_eq_false fun q => (Ne.symm ne_t6_t10) (Value.ref.inj q)) (by decide) (by decide) ?_
    refine s_aload X hx (hb hby at_163) rfl rfl (q := 165) rfl ?_
    refine s_lenI X hx hZ eT (z := (Int32.ofNat (k2 + 8))) A_t10 (by rw [ML_len]) (hb hby at_165) (q := 166) rfl ?_
    refine s_iload X hx (hb hby at_166) rfl (q := 168) rfl ?_
    refine s_bipush X hx (z := (8 : Int32)) (hb hby at_168) rfl (q := 170) rfl ?_
    refine s_iadd X hx (hb hby at_170) (q := 171) rfl ?_
    rw [own_p8 k2 hk2]
    refine f_icmp_ne X hx (hb hby at_171) (q1 := 178) (by decide) (by decide) (q := 174) rfl (fun hq => absurd (rfl : (Int32.ofNat (k2 + 8)) = (Int32.ofNat (k2 + 8))) hq) (fun _ => ?_)
    refine s_iconst X hx (z := (1 : Int32)) (hb hby at_174) rfl (q := 175) rfl ?_
    refine s_goto X hx (hb hby at_175) (q1 := 179) (by decide) (by decide) ?_
    refine s_istore X hx (hb hby at_179) (L' := #[.val (.int x0), .val (.int x1), .val (.int x2), .val (.int x3), .val (.int x4), .val (.int x5), .val (.int (Int32.ofNat k1)), .val (.int (Int32.ofNat k2)), .val (.int (Int32.ofNat na)), .val (.int (Int32.ofNat v1)), .val (.int (Int32.ofNat nb)), .val (.int (Int32.ofNat v2)), .val (.ref a1), .val (.ref t6), .val (.int (1 : Int32)), .val (.ref t10), .unset, .unset]) rfl (q := 181) rfl ?_
    refine s_aload X hx (hb hby at_181) rfl rfl (q := 183) rfl ?_
    refine s_iload X hx (hb hby at_183) rfl (q := 185) rfl ?_
    refine s_iload X hx (hb hby at_185) rfl (q := 187) rfl ?_
    refine callV X hx hZ hown (W := 0) (argsL := [(.int (Int32.ofNat v2)), (.int (Int32.ofNat nb))]) (rest := []) (hw _ (List.mem_of_getElem? (i := 32) rfl)) (hw _ (List.mem_of_getElem? (i := 33) rfl)) (hw _ (List.mem_of_getElem? (i := 35) rfl)) (hw _ (List.mem_of_getElem? (i := 34) rfl)) (hw _ (List.mem_of_getElem? (i := 3) rfl)) (hw _ (List.mem_of_getElem? (i := 36) rfl)) (by decide) E_a1 (rm5 l Z a0 hw [] a1 t10 0 0 nb v2 (k2 + 8) (sb 0 0) (0 : Int64) h9 n0 sz F_a1_bytes F_a1_next F_a1_pending F_a1_pendingBits E_a1 g_a1 A_t10 g_t10 ne_a1_t10 rfl hnb hv2' (by omega) (by omega)) eT (by decide) (by decide) (by decide) (by decide) (by rw [hml]; rfl) pd3 rfl rfl (Nat.le_of_ble_eq_true rfl) (hb hby at_187) (q := 190) rfl ?_
    intro v T Lc hQ X
    obtain ⟨h11, eT⟩ : ∃ z, T.heap = z := ⟨_, rfl⟩
    try rw [eT] at hQ
    obtain ⟨rfl, N', K', F_a1_bytes', F_a1_next', ⟨pp12, hb_pp12, F_a1_pending'⟩, F_a1_pendingBits', A_t10'⟩ := hQ
    have N := Fr.app N N'
    have E_a1 := E_a1.keep K'
    have A_t4 := A_t4.keep K' (ninS (Ne.symm ne_a1_t4) (ninS ne_t4_t10 nin0))
    have A_t6 := A_t6.keep K' (ninS (Ne.symm ne_a1_t6) (ninS ne_t6_t10 nin0))
    have sz : n0 ≤ h11.size := Nat.le_trans sz K'.1
    have A_t10 := A_t10'
    have F_a1_bytes := F_a1_bytes'
    have F_a1_next := F_a1_next'
    have F_a1_pending := F_a1_pending'
    have F_a1_pendingBits := F_a1_pendingBits'
    refine s_aload X hx (hb hby at_190) rfl rfl (q := 192) rfl ?_
    by_cases hz : (0 + nb) % 8 = 0
    · rw [hz] at F_a1_pendingBits
      refine callV X hx hZ hown (W := 0) (argsL := []) (rest := []) (hw _ (List.mem_of_getElem? (i := 37) rfl)) (hw _ (List.mem_of_getElem? (i := 38) rfl)) (hw _ (List.mem_of_getElem? (i := 40) rfl)) (hw _ (List.mem_of_getElem? (i := 39) rfl)) (hw _ (List.mem_of_getElem? (i := 3) rfl)) (hw _ (List.mem_of_getElem? (i := 41) rfl)) (by decide) E_a1 (rm6_0 l Z a0 hw [] a1 t10 (Int32.ofNat ((0 + nb) / 8)) pp12 h11 n0 sz F_a1_bytes F_a1_next F_a1_pending F_a1_pendingBits E_a1 g_a1) eT (by decide) (by decide) (by decide) (by decide) (by rw [hml]; rfl) pd4 rfl rfl (Nat.le_of_ble_eq_true rfl) (hb hby at_192) (q := 195) rfl ?_
      intro v T Lc hQ X
      obtain ⟨h13, eT⟩ : ∃ z, T.heap = z := ⟨_, rfl⟩
      try rw [eT] at hQ
      obtain ⟨rfl, N', K', F_a1_bytes', F_a1_next', F_a1_pending', F_a1_pendingBits'⟩ := hQ
      have N := Fr.app N N'
      have E_a1 := E_a1.keep K'
      have A_t4 := A_t4.keep K' (ninS (Ne.symm ne_a1_t4) nin0)
      have A_t6 := A_t6.keep K' (ninS (Ne.symm ne_a1_t6) nin0)
      have A_t10 := A_t10.keep K' (ninS (Ne.symm ne_a1_t10) nin0)
      have sz : n0 ≤ h13.size := Nat.le_trans sz K'.1
      have F_a1_bytes := F_a1_bytes'
      have F_a1_next := F_a1_next'
      have F_a1_pending := F_a1_pending'
      have F_a1_pendingBits := F_a1_pendingBits'
      rw [show (0 + nb) / 8 = (((0 + nb) + 7) / 8) from by omega]
      refine s_istore X hx (hb hby at_195) (L' := #[.val (.int x0), .val (.int x1), .val (.int x2), .val (.int x3), .val (.int x4), .val (.int x5), .val (.int (Int32.ofNat k1)), .val (.int (Int32.ofNat k2)), .val (.int (Int32.ofNat na)), .val (.int (Int32.ofNat v1)), .val (.int (Int32.ofNat nb)), .val (.int (Int32.ofNat v2)), .val (.ref a1), .val (.ref t6), .val (.int (1 : Int32)), .val (.ref t10), .val (.int (Int32.ofNat (((0 + nb) + 7) / 8))), .unset]) rfl (q := 197) rfl ?_
      refine s_iload X hx (hb hby at_197) rfl (q := 199) rfl ?_
      refine f_if_eq X hx (hb hby at_199) (q1 := 219) (by decide) (by decide) (q := 202) rfl (fun hq => absurd hq (by decide : ¬ (1 : Int32) = 0)) (fun _ => ?_)
      refine s_iload X hx (hb hby at_202) rfl (q := 204) rfl ?_
      refine s_iload X hx (hb hby at_204) rfl (q := 206) rfl ?_
      refine s_bipush X hx (z := (7 : Int32)) (hb hby at_206) rfl (q := 208) rfl ?_
      refine s_iadd X hx (hb hby at_208) (q := 209) rfl ?_
      rw [show (7 : Int32) = Int32.ofNat 7 from rfl, o_add (by omega), show nb + 7 = 0 + nb + 7 from by omega]
      refine s_bipush X hx (z := (8 : Int32)) (hb hby at_209) rfl (q := 211) rfl ?_
      refine s_idiv X hx (hb hby at_211) (by decide) (q := 212) rfl ?_
      rw [o_div8 _ (by omega)]
      refine f_icmp_ne X hx (hb hby at_212) (q1 := 219) (by decide) (by decide) (q := 215) rfl (fun hq => absurd (rfl : (Int32.ofNat (((0 + nb) + 7) / 8)) = (Int32.ofNat (((0 + nb) + 7) / 8))) hq) (fun _ => ?_)
      refine s_iconst X hx (z := (1 : Int32)) (hb hby at_215) rfl (q := 216) rfl ?_
      refine s_goto X hx (hb hby at_216) (q1 := 220) (by decide) (by decide) ?_
      refine s_istore X hx (hb hby at_220) (L' := #[.val (.int x0), .val (.int x1), .val (.int x2), .val (.int x3), .val (.int x4), .val (.int x5), .val (.int (Int32.ofNat k1)), .val (.int (Int32.ofNat k2)), .val (.int (Int32.ofNat na)), .val (.int (Int32.ofNat v1)), .val (.int (Int32.ofNat nb)), .val (.int (Int32.ofNat v2)), .val (.ref a1), .val (.ref t6), .val (.int (1 : Int32)), .val (.ref t10), .val (.int (Int32.ofNat (((0 + nb) + 7) / 8))), .unset]) rfl (q := 222) rfl ?_
      refine s_aload X hx (hb hby at_222) rfl rfl (q := 224) rfl ?_
      refine callV X hx hZ hown (W := 0) (argsL := []) (rest := []) (hw _ (List.mem_of_getElem? (i := 27) rfl)) (hw _ (List.mem_of_getElem? (i := 28) rfl)) (hw _ (List.mem_of_getElem? (i := 30) rfl)) (hw _ (List.mem_of_getElem? (i := 29) rfl)) (hw _ (List.mem_of_getElem? (i := 3) rfl)) (hw _ (List.mem_of_getElem? (i := 31) rfl)) (by decide) E_a1 (rm4 l Z a0 hw [] a1 t10 h13 n0 sz F_a1_bytes) eT (by decide) (by decide) (by decide) (by decide) (by rw [hml]; rfl) pd2 rfl rfl (Nat.le_of_ble_eq_true rfl) (hb hby at_224) (q := 227) rfl ?_
      intro v T Lc hQ X
      obtain ⟨rfl, eT, N'⟩ := hQ
      have N := Fr.app N N'
      refine s_astore X hx (hb hby at_227) rfl (L' := #[.val (.int x0), .val (.int x1), .val (.int x2), .val (.int x3), .val (.int x4), .val (.int x5), .val (.int (Int32.ofNat k1)), .val (.int (Int32.ofNat k2)), .val (.int (Int32.ofNat na)), .val (.int (Int32.ofNat v1)), .val (.int (Int32.ofNat nb)), .val (.int (Int32.ofNat v2)), .val (.ref a1), .val (.ref t6), .val (.int (1 : Int32)), .val (.ref t10), .val (.int (Int32.ofNat (((0 + nb) + 7) / 8))), .val (.ref t10)]) rfl (q := 229) rfl ?_
      refine s_iload X hx (hb hby at_229) rfl (q := 231) rfl ?_
      refine s_bipush X hx (z := (8 : Int32)) (hb hby at_231) rfl (q := 233) rfl ?_
      refine f_icmp_lt X hx (hb hby at_233) (q1 := 267) (by decide) (by decide) (q := 236) rfl (fun hc233 => ?_) (fun hc233 => ?_)
      · refine s_iload X hx (hb hby at_267) rfl (q := 269) rfl ?_
        refine f_if_le X hx (hb hby at_269) (q1 := 300) (by decide) (by decide) (q := 272) rfl (fun hc269 => ?_) (fun hc269 => ?_)
        · refine s_iload X hx (hb hby at_300) rfl (q := 302) rfl ?_
          exact leafN X hx hlk hret (by simp) (hb hby at_302) (by decide) (by decide) (z' := 1) rfl ⟨rfl, N⟩
        have h8 : nb < 8 := (o_lt (b := 8) (by omega) (by omega)).mp hc233
        have h00 : 0 < nb := (o_lt (a := 0) (by omega) (by omega)).mp hc269
        exfalso; omega
      have h8 : 8 ≤ nb := Nat.le_of_not_lt fun q => hc233 ((o_lt (b := 8) (by omega) (by omega)).mpr q)
      refine s_iload X hx (hb hby at_236) rfl (q := 238) rfl ?_
      refine f_if_eq X hx (hb hby at_238) (q1 := 261) (by decide) (by decide) (q := 241) rfl (fun hq => absurd hq (by decide : ¬ (1 : Int32) = 0)) (fun _ => ?_)
      refine s_aload X hx (hb hby at_241) rfl rfl (q := 243) rfl ?_
      refine s_iconst X hx (z := (0 : Int32)) (hb hby at_243) rfl (q := 244) rfl ?_
      refine s_baload X hx hZ eT A_t10 (by decide) (i := 0) rfl (x := ((wf (sb 0 0) (0 <<< nb ||| v2) (0 + nb) (0 / 8) ((0 + nb) / 8)) 0)) (ML_at _ _ (by omega)) (hb hby at_244) (q := 245) rfl ?_
      refine s_iload X hx (hb hby at_245) rfl (q := 247) rfl ?_
      refine s_iload X hx (hb hby at_247) rfl (q := 249) rfl ?_
      refine s_bipush X hx (z := (8 : Int32)) (hb hby at_249) rfl (q := 251) rfl ?_
      refine s_isub X hx (hb hby at_251) (q := 252) rfl ?_
      refine s_iushr X hx (hb hby at_252) (q := 253) rfl ?_
      refine s_i2b X hx (hb hby at_253) (q := 254) rfl ?_
      refine f_icmp_ne X hx (hb hby at_254) (q1 := 261) (by decide) (by decide) (q := 257) rfl (fun hq => absurd (own_hi _ v2 nb hv2' h8 hnb : ((wf (sb 0 0) (0 <<< nb ||| v2) (0 + nb) (0 / 8) ((0 + nb) / 8)) 0) = (((Int32.ofNat v2).toUInt32 >>> (((Int32.ofNat nb) - (8 : Int32)) &&& 31).toUInt32).toInt32).toInt8.toInt32) hq) (fun _ => ?_)
      refine s_iconst X hx (z := (1 : Int32)) (hb hby at_257) rfl (q := 258) rfl ?_
      refine s_goto X hx (hb hby at_258) (q1 := 262) (by decide) (by decide) ?_
      refine s_istore X hx (hb hby at_262) (L' := #[.val (.int x0), .val (.int x1), .val (.int x2), .val (.int x3), .val (.int x4), .val (.int x5), .val (.int (Int32.ofNat k1)), .val (.int (Int32.ofNat k2)), .val (.int (Int32.ofNat na)), .val (.int (Int32.ofNat v1)), .val (.int (Int32.ofNat nb)), .val (.int (Int32.ofNat v2)), .val (.ref a1), .val (.ref t6), .val (.int (1 : Int32)), .val (.ref t10), .val (.int (Int32.ofNat (((0 + nb) + 7) / 8))), .val (.ref t10)]) rfl (q := 264) rfl ?_
      refine s_goto X hx (hb hby at_264) (q1 := 300) (by decide) (by decide) ?_
      refine s_iload X hx (hb hby at_300) rfl (q := 302) rfl ?_
      exact leafN X hx hlk hret (by simp) (hb hby at_302) (by decide) (by decide) (z' := 1) rfl ⟨rfl, N⟩
    · have hz' := hz
      refine callV X hx hZ hown (W := 0) (argsL := []) (rest := []) (hw _ (List.mem_of_getElem? (i := 37) rfl)) (hw _ (List.mem_of_getElem? (i := 38) rfl)) (hw _ (List.mem_of_getElem? (i := 40) rfl)) (hw _ (List.mem_of_getElem? (i := 39) rfl)) (hw _ (List.mem_of_getElem? (i := 3) rfl)) (hw _ (List.mem_of_getElem? (i := 41) rfl)) (by decide) E_a1 (rm6_1 l Z a0 hw [] a1 t10 (0 <<< nb ||| v2) ((0 + nb) / 8) ((0 + nb) % 8) (k2 + 8) (wf (sb 0 0) (0 <<< nb ||| v2) (0 + nb) (0 / 8) ((0 + nb) / 8)) pp12 h11 n0 sz F_a1_bytes F_a1_next F_a1_pending F_a1_pendingBits E_a1 g_a1 A_t10 g_t10 ne_a1_t10 hb_pp12 (Nat.pos_of_ne_zero hz) (by omega) (by omega) (by omega)) eT (by decide) (by decide) (by decide) (by decide) (by rw [hml]; rfl) pd4 rfl rfl (Nat.le_of_ble_eq_true rfl) (hb hby at_192) (q := 195) rfl ?_
      intro v T Lc hQ X
      obtain ⟨h14, eT⟩ : ∃ z, T.heap = z := ⟨_, rfl⟩
      try rw [eT] at hQ
      obtain ⟨rfl, N', K', F_a1_bytes', F_a1_next', F_a1_pending', F_a1_pendingBits', A_t10'⟩ := hQ
      have N := Fr.app N N'
      have E_a1 := E_a1.keep K'
      have A_t4 := A_t4.keep K' (ninS (Ne.symm ne_a1_t4) (ninS ne_t4_t10 nin0))
      have A_t6 := A_t6.keep K' (ninS (Ne.symm ne_a1_t6) (ninS ne_t6_t10 nin0))
      have sz : n0 ≤ h14.size := Nat.le_trans sz K'.1
      have A_t10 := A_t10'
      have F_a1_bytes := F_a1_bytes'
      have F_a1_next := F_a1_next'
      have F_a1_pending := F_a1_pending'
      have F_a1_pendingBits := F_a1_pendingBits'
      rw [show (0 + nb) / 8 + (0 + 1) = (((0 + nb) + 7) / 8) from by omega]
      refine s_istore X hx (hb hby at_195) (L' := #[.val (.int x0), .val (.int x1), .val (.int x2), .val (.int x3), .val (.int x4), .val (.int x5), .val (.int (Int32.ofNat k1)), .val (.int (Int32.ofNat k2)), .val (.int (Int32.ofNat na)), .val (.int (Int32.ofNat v1)), .val (.int (Int32.ofNat nb)), .val (.int (Int32.ofNat v2)), .val (.ref a1), .val (.ref t6), .val (.int (1 : Int32)), .val (.ref t10), .val (.int (Int32.ofNat (((0 + nb) + 7) / 8))), .unset]) rfl (q := 197) rfl ?_
      refine s_iload X hx (hb hby at_197) rfl (q := 199) rfl ?_
      refine f_if_eq X hx (hb hby at_199) (q1 := 219) (by decide) (by decide) (q := 202) rfl (fun hq => absurd hq (by decide : ¬ (1 : Int32) = 0)) (fun _ => ?_)
      refine s_iload X hx (hb hby at_202) rfl (q := 204) rfl ?_
      refine s_iload X hx (hb hby at_204) rfl (q := 206) rfl ?_
      refine s_bipush X hx (z := (7 : Int32)) (hb hby at_206) rfl (q := 208) rfl ?_
      refine s_iadd X hx (hb hby at_208) (q := 209) rfl ?_
      rw [show (7 : Int32) = Int32.ofNat 7 from rfl, o_add (by omega), show nb + 7 = 0 + nb + 7 from by omega]
      refine s_bipush X hx (z := (8 : Int32)) (hb hby at_209) rfl (q := 211) rfl ?_
      refine s_idiv X hx (hb hby at_211) (by decide) (q := 212) rfl ?_
      rw [o_div8 _ (by omega)]
      refine f_icmp_ne X hx (hb hby at_212) (q1 := 219) (by decide) (by decide) (q := 215) rfl (fun hq => absurd (rfl : (Int32.ofNat (((0 + nb) + 7) / 8)) = (Int32.ofNat (((0 + nb) + 7) / 8))) hq) (fun _ => ?_)
      refine s_iconst X hx (z := (1 : Int32)) (hb hby at_215) rfl (q := 216) rfl ?_
      refine s_goto X hx (hb hby at_216) (q1 := 220) (by decide) (by decide) ?_
      refine s_istore X hx (hb hby at_220) (L' := #[.val (.int x0), .val (.int x1), .val (.int x2), .val (.int x3), .val (.int x4), .val (.int x5), .val (.int (Int32.ofNat k1)), .val (.int (Int32.ofNat k2)), .val (.int (Int32.ofNat na)), .val (.int (Int32.ofNat v1)), .val (.int (Int32.ofNat nb)), .val (.int (Int32.ofNat v2)), .val (.ref a1), .val (.ref t6), .val (.int (1 : Int32)), .val (.ref t10), .val (.int (Int32.ofNat (((0 + nb) + 7) / 8))), .unset]) rfl (q := 222) rfl ?_
      refine s_aload X hx (hb hby at_222) rfl rfl (q := 224) rfl ?_
      refine callV X hx hZ hown (W := 0) (argsL := []) (rest := []) (hw _ (List.mem_of_getElem? (i := 27) rfl)) (hw _ (List.mem_of_getElem? (i := 28) rfl)) (hw _ (List.mem_of_getElem? (i := 30) rfl)) (hw _ (List.mem_of_getElem? (i := 29) rfl)) (hw _ (List.mem_of_getElem? (i := 3) rfl)) (hw _ (List.mem_of_getElem? (i := 31) rfl)) (by decide) E_a1 (rm4 l Z a0 hw [] a1 t10 h14 n0 sz F_a1_bytes) eT (by decide) (by decide) (by decide) (by decide) (by rw [hml]; rfl) pd2 rfl rfl (Nat.le_of_ble_eq_true rfl) (hb hby at_224) (q := 227) rfl ?_
      intro v T Lc hQ X
      obtain ⟨rfl, eT, N'⟩ := hQ
      have N := Fr.app N N'
      refine s_astore X hx (hb hby at_227) rfl (L' := #[.val (.int x0), .val (.int x1), .val (.int x2), .val (.int x3), .val (.int x4), .val (.int x5), .val (.int (Int32.ofNat k1)), .val (.int (Int32.ofNat k2)), .val (.int (Int32.ofNat na)), .val (.int (Int32.ofNat v1)), .val (.int (Int32.ofNat nb)), .val (.int (Int32.ofNat v2)), .val (.ref a1), .val (.ref t6), .val (.int (1 : Int32)), .val (.ref t10), .val (.int (Int32.ofNat (((0 + nb) + 7) / 8))), .val (.ref t10)]) rfl (q := 229) rfl ?_
      refine s_iload X hx (hb hby at_229) rfl (q := 231) rfl ?_
      refine s_bipush X hx (z := (8 : Int32)) (hb hby at_231) rfl (q := 233) rfl ?_
      refine f_icmp_lt X hx (hb hby at_233) (q1 := 267) (by decide) (by decide) (q := 236) rfl (fun hc233 => ?_) (fun hc233 => ?_)
      · refine s_iload X hx (hb hby at_267) rfl (q := 269) rfl ?_
        refine f_if_le X hx (hb hby at_269) (q1 := 300) (by decide) (by decide) (q := 272) rfl (fun hc269 => ?_) (fun hc269 => ?_)
        · refine s_iload X hx (hb hby at_300) rfl (q := 302) rfl ?_
          exact leafN X hx hlk hret (by simp) (hb hby at_302) (by decide) (by decide) (z' := 1) rfl ⟨rfl, N⟩
        have h8 : nb < 8 := (o_lt (b := 8) (by omega) (by omega)).mp hc233
        have h00 : 0 < nb := (o_lt (a := 0) (by omega) (by omega)).mp hc269
        refine s_iload X hx (hb hby at_272) rfl (q := 274) rfl ?_
        refine f_if_eq X hx (hb hby at_274) (q1 := 297) (by decide) (by decide) (q := 277) rfl (fun hq => absurd hq (by decide : ¬ (1 : Int32) = 0)) (fun _ => ?_)
        refine s_aload X hx (hb hby at_277) rfl rfl (q := 279) rfl ?_
        refine s_iconst X hx (z := (0 : Int32)) (hb hby at_279) rfl (q := 280) rfl ?_
        refine s_baload X hx hZ eT A_t10 (by decide) (i := 0) rfl (x := ((fun i => if i = (0 + nb) / 8 then bb ((0 <<< nb ||| v2) <<< (8 - (0 + nb) % 8)) else (wf (sb 0 0) (0 <<< nb ||| v2) (0 + nb) (0 / 8) ((0 + nb) / 8)) i) 0)) (ML_at _ _ (by omega)) (hb hby at_280) (q := 281) rfl ?_
        refine s_iload X hx (hb hby at_281) rfl (q := 283) rfl ?_
        refine s_bipush X hx (z := (8 : Int32)) (hb hby at_283) rfl (q := 285) rfl ?_
        refine s_iload X hx (hb hby at_285) rfl (q := 287) rfl ?_
        refine s_isub X hx (hb hby at_287) (q := 288) rfl ?_
        refine s_ishl X hx (hb hby at_288) (q := 289) rfl ?_
        refine s_i2b X hx (hb hby at_289) (q := 290) rfl ?_
        refine f_icmp_ne X hx (hb hby at_290) (q1 := 297) (by decide) (by decide) (q := 293) rfl (fun hq => absurd ((if_pos (by omega)).trans (own_lo v2 nb h00 h8) : ((fun i => if i = (0 + nb) / 8 then bb ((0 <<< nb ||| v2) <<< (8 - (0 + nb) % 8)) else (wf (sb 0 0) (0 <<< nb ||| v2) (0 + nb) (0 / 8) ((0 + nb) / 8)) i) 0) = ((Int32.ofNat v2) <<< (((8 : Int32) - (Int32.ofNat nb)) &&& 31)).toInt8.toInt32) hq) (fun _ => ?_)
        refine s_iconst X hx (z := (1 : Int32)) (hb hby at_293) rfl (q := 294) rfl ?_
        refine s_goto X hx (hb hby at_294) (q1 := 298) (by decide) (by decide) ?_
        refine s_istore X hx (hb hby at_298) (L' := #[.val (.int x0), .val (.int x1), .val (.int x2), .val (.int x3), .val (.int x4), .val (.int x5), .val (.int (Int32.ofNat k1)), .val (.int (Int32.ofNat k2)), .val (.int (Int32.ofNat na)), .val (.int (Int32.ofNat v1)), .val (.int (Int32.ofNat nb)), .val (.int (Int32.ofNat v2)), .val (.ref a1), .val (.ref t6), .val (.int (1 : Int32)), .val (.ref t10), .val (.int (Int32.ofNat (((0 + nb) + 7) / 8))), .val (.ref t10)]) rfl (q := 300) rfl ?_
        refine s_iload X hx (hb hby at_300) rfl (q := 302) rfl ?_
        exact leafN X hx hlk hret (by simp) (hb hby at_302) (by decide) (by decide) (z' := 1) rfl ⟨rfl, N⟩
      have h8 : 8 ≤ nb := Nat.le_of_not_lt fun q => hc233 ((o_lt (b := 8) (by omega) (by omega)).mpr q)
      refine s_iload X hx (hb hby at_236) rfl (q := 238) rfl ?_
      refine f_if_eq X hx (hb hby at_238) (q1 := 261) (by decide) (by decide) (q := 241) rfl (fun hq => absurd hq (by decide : ¬ (1 : Int32) = 0)) (fun _ => ?_)
      refine s_aload X hx (hb hby at_241) rfl rfl (q := 243) rfl ?_
      refine s_iconst X hx (z := (0 : Int32)) (hb hby at_243) rfl (q := 244) rfl ?_
      refine s_baload X hx hZ eT A_t10 (by decide) (i := 0) rfl (x := ((fun i => if i = (0 + nb) / 8 then bb ((0 <<< nb ||| v2) <<< (8 - (0 + nb) % 8)) else (wf (sb 0 0) (0 <<< nb ||| v2) (0 + nb) (0 / 8) ((0 + nb) / 8)) i) 0)) (ML_at _ _ (by omega)) (hb hby at_244) (q := 245) rfl ?_
      refine s_iload X hx (hb hby at_245) rfl (q := 247) rfl ?_
      refine s_iload X hx (hb hby at_247) rfl (q := 249) rfl ?_
      refine s_bipush X hx (z := (8 : Int32)) (hb hby at_249) rfl (q := 251) rfl ?_
      refine s_isub X hx (hb hby at_251) (q := 252) rfl ?_
      refine s_iushr X hx (hb hby at_252) (q := 253) rfl ?_
      refine s_i2b X hx (hb hby at_253) (q := 254) rfl ?_
      refine f_icmp_ne X hx (hb hby at_254) (q1 := 261) (by decide) (by decide) (q := 257) rfl (fun hq => absurd ((if_neg (by omega)).trans (own_hi _ v2 nb hv2' h8 hnb) : ((fun i => if i = (0 + nb) / 8 then bb ((0 <<< nb ||| v2) <<< (8 - (0 + nb) % 8)) else (wf (sb 0 0) (0 <<< nb ||| v2) (0 + nb) (0 / 8) ((0 + nb) / 8)) i) 0) = (((Int32.ofNat v2).toUInt32 >>> (((Int32.ofNat nb) - (8 : Int32)) &&& 31).toUInt32).toInt32).toInt8.toInt32) hq) (fun _ => ?_)
      refine s_iconst X hx (z := (1 : Int32)) (hb hby at_257) rfl (q := 258) rfl ?_
      refine s_goto X hx (hb hby at_258) (q1 := 262) (by decide) (by decide) ?_
      refine s_istore X hx (hb hby at_262) (L' := #[.val (.int x0), .val (.int x1), .val (.int x2), .val (.int x3), .val (.int x4), .val (.int x5), .val (.int (Int32.ofNat k1)), .val (.int (Int32.ofNat k2)), .val (.int (Int32.ofNat na)), .val (.int (Int32.ofNat v1)), .val (.int (Int32.ofNat nb)), .val (.int (Int32.ofNat v2)), .val (.ref a1), .val (.ref t6), .val (.int (1 : Int32)), .val (.ref t10), .val (.int (Int32.ofNat (((0 + nb) + 7) / 8))), .val (.ref t10)]) rfl (q := 264) rfl ?_
      refine s_goto X hx (hb hby at_264) (q1 := 300) (by decide) (by decide) ?_
      refine s_iload X hx (hb hby at_300) rfl (q := 302) rfl ?_
      exact leafN X hx hlk hret (by simp) (hb hby at_302) (by decide) (by decide) (z' := 1) rfl ⟨rfl, N⟩
  · refine callV X hx hZ hown (W := 0) (argsL := [(.int (Int32.ofNat k2))]) (rest := []) (hw _ (List.mem_of_getElem? (i := 16) rfl)) (hw _ (List.mem_of_getElem? (i := 17) rfl)) (hw _ (List.mem_of_getElem? (i := 19) rfl)) (hw _ (List.mem_of_getElem? (i := 18) rfl)) (hw _ (List.mem_of_getElem? (i := 3) rfl)) (hw _ (List.mem_of_getElem? (i := 20) rfl)) (by decide) E_a1 (rm3_old l Z a0 hw [] a1 t6 (ML (k1 + 8) (wf (sb 0 0) (0 <<< na ||| v1) (0 + na) (0 / 8) ((0 + na) / 8))) k2 (Int32.ofNat ((0 + na) / 8)) (Int32.ofNat ((0 + na) % 8)) pp8 h7 n0 sz F_a1_bytes F_a1_next F_a1_pending F_a1_pendingBits E_a1 g_a1 A_t6 g_t6 ne_a1_t6 hk2 (by rw [ML_len]; omega) (by rw [ML_len]; exact hr)) eT (by decide) (by decide) (by decide) (by decide) (by rw [hml]; rfl) pd1 rfl rfl (Nat.le_of_ble_eq_true rfl) (hb hby at_108) (q := 111) rfl ?_
    intro v T Lc hQ X
    obtain ⟨h15, eT⟩ : ∃ z, T.heap = z := ⟨_, rfl⟩
    try rw [eT] at hQ
    obtain ⟨rfl, N', K', F_a1_bytes', F_a1_next', F_a1_pending', F_a1_pendingBits'⟩ := hQ
    have N := Fr.app N N'
    have E_a1 := E_a1.keep K'
    have A_t4 := A_t4.keep K' (ninS (Ne.symm ne_a1_t4) nin0)
    have A_t6 := A_t6.keep K' (ninS (Ne.symm ne_a1_t6) nin0)
    have sz : n0 ≤ h15.size := Nat.le_trans sz K'.1
    have F_a1_bytes := F_a1_bytes'
    have F_a1_next := F_a1_next'
    have F_a1_pending := F_a1_pending'
    have F_a1_pendingBits := F_a1_pendingBits'
    refine s_aload X hx (hb hby at_111) rfl rfl (q := 113) rfl ?_
    refine callV X hx hZ hown (W := 0) (argsL := []) (rest := []) (hw _ (List.mem_of_getElem? (i := 27) rfl)) (hw _ (List.mem_of_getElem? (i := 28) rfl)) (hw _ (List.mem_of_getElem? (i := 30) rfl)) (hw _ (List.mem_of_getElem? (i := 29) rfl)) (hw _ (List.mem_of_getElem? (i := 3) rfl)) (hw _ (List.mem_of_getElem? (i := 31) rfl)) (by decide) E_a1 (rm4 l Z a0 hw [] a1 t6 h15 n0 sz F_a1_bytes) eT (by decide) (by decide) (by decide) (by decide) (by rw [hml]; rfl) pd2 rfl rfl (Nat.le_of_ble_eq_true rfl) (hb hby at_113) (q := 116) rfl ?_
    intro v T Lc hQ X
    obtain ⟨rfl, eT, N'⟩ := hQ
    have N := Fr.app N N'
    refine s_astore X hx (hb hby at_116) rfl (L' := #[.val (.int x0), .val (.int x1), .val (.int x2), .val (.int x3), .val (.int x4), .val (.int x5), .val (.int (Int32.ofNat k1)), .val (.int (Int32.ofNat k2)), .val (.int (Int32.ofNat na)), .val (.int (Int32.ofNat v1)), .val (.int (Int32.ofNat nb)), .val (.int (Int32.ofNat v2)), .val (.ref a1), .val (.ref t6), .val (.int (1 : Int32)), .val (.ref t6), .unset, .unset]) rfl (q := 118) rfl ?_
    refine s_aload X hx (hb hby at_118) rfl rfl (q := 120) rfl ?_
    refine s_lenI X hx hZ eT (z := (Int32.ofNat (k1 + 8))) A_t6 (by rw [ML_len]) (hb hby at_120) (q := 121) rfl ?_
    refine s_iload X hx (hb hby at_121) rfl (q := 123) rfl ?_
    refine s_bipush X hx (z := (8 : Int32)) (hb hby at_123) rfl (q := 125) rfl ?_
    refine s_iadd X hx (hb hby at_125) (q := 126) rfl ?_
    rw [own_p8 k2 hk2]
    refine f_icmp_lt X hx (hb hby at_126) (q1 := 151) (by decide) (by decide) (q := 129) rfl (fun hq => absurd hq (fun q => hr ((o_lt (by omega) (by omega)).mp q) : ¬ (Int32.ofNat (k1 + 8)) < (Int32.ofNat (k2 + 8)))) (fun _ => ?_)
    refine s_iload X hx (hb hby at_129) rfl (q := 131) rfl ?_
    refine f_if_eq X hx (hb hby at_131) (q1 := 145) (by decide) (by decide) (q := 134) rfl (fun hq => absurd hq (by decide : ¬ (1 : Int32) = 0)) (fun _ => ?_)
    refine s_aload X hx (hb hby at_134) rfl rfl (q := 136) rfl ?_
    refine s_aload X hx (hb hby at_136) rfl rfl (q := 138) rfl ?_
    refine s_acmp X hx (q1 := 141) (same := true) (hb hby at_138) rfl rfl (decide_eq_true rfl) (by decide) (by decide) ?_
    refine s_iconst X hx (z := (1 : Int32)) (hb hby at_141) rfl (q := 142) rfl ?_
    refine s_goto X hx (hb hby at_142) (q1 := 146) (by decide) (by decide) ?_
    refine s_istore X hx (hb hby at_146) (L' := #[.val (.int x0), .val (.int x1), .val (.int x2), .val (.int x3), .val (.int x4), .val (.int x5), .val (.int (Int32.ofNat k1)), .val (.int (Int32.ofNat k2)), .val (.int (Int32.ofNat na)), .val (.int (Int32.ofNat v1)), .val (.int (Int32.ofNat nb)), .val (.int (Int32.ofNat v2)), .val (.ref a1), .val (.ref t6), .val (.int (1 : Int32)), .val (.ref t6), .unset, .unset]) rfl (q := 148) rfl ?_
    refine s_goto X hx (hb hby at_148) (q1 := 181) (by decide) (by decide) ?_
    refine s_aload X hx (hb hby at_181) rfl rfl (q := 183) rfl ?_
    refine s_iload X hx (hb hby at_183) rfl (q := 185) rfl ?_
    refine s_iload X hx (hb hby at_185) rfl (q := 187) rfl ?_
    refine callV X hx hZ hown (W := 0) (argsL := [(.int (Int32.ofNat v2)), (.int (Int32.ofNat nb))]) (rest := []) (hw _ (List.mem_of_getElem? (i := 32) rfl)) (hw _ (List.mem_of_getElem? (i := 33) rfl)) (hw _ (List.mem_of_getElem? (i := 35) rfl)) (hw _ (List.mem_of_getElem? (i := 34) rfl)) (hw _ (List.mem_of_getElem? (i := 3) rfl)) (hw _ (List.mem_of_getElem? (i := 36) rfl)) (by decide) E_a1 (rm5 l Z a0 hw [] a1 t6 0 0 nb v2 (k1 + 8) (wf (sb 0 0) (0 <<< na ||| v1) (0 + na) (0 / 8) ((0 + na) / 8)) (0 : Int64) h15 n0 sz F_a1_bytes F_a1_next F_a1_pending F_a1_pendingBits E_a1 g_a1 A_t6 g_t6 ne_a1_t6 rfl hnb hv2' (by omega) (by omega)) eT (by decide) (by decide) (by decide) (by decide) (by rw [hml]; rfl) pd3 rfl rfl (Nat.le_of_ble_eq_true rfl) (hb hby at_187) (q := 190) rfl ?_
    intro v T Lc hQ X
    obtain ⟨h16, eT⟩ : ∃ z, T.heap = z := ⟨_, rfl⟩
    try rw [eT] at hQ
    obtain ⟨rfl, N', K', F_a1_bytes', F_a1_next', ⟨pp17, hb_pp17, F_a1_pending'⟩, F_a1_pendingBits', A_t6'⟩ := hQ
    have N := Fr.app N N'
    have E_a1 := E_a1.keep K'
    have A_t4 := A_t4.keep K' (ninS (Ne.symm ne_a1_t4) (ninS ne_t4_t6 nin0))
    have sz : n0 ≤ h16.size := Nat.le_trans sz K'.1
    have A_t6 := A_t6'
    have F_a1_bytes := F_a1_bytes'
    have F_a1_next := F_a1_next'
    have F_a1_pending := F_a1_pending'
    have F_a1_pendingBits := F_a1_pendingBits'
    refine s_aload X hx (hb hby at_190) rfl rfl (q := 192) rfl ?_
    by_cases hz : (0 + nb) % 8 = 0
    · rw [hz] at F_a1_pendingBits
      refine callV X hx hZ hown (W := 0) (argsL := []) (rest := []) (hw _ (List.mem_of_getElem? (i := 37) rfl)) (hw _ (List.mem_of_getElem? (i := 38) rfl)) (hw _ (List.mem_of_getElem? (i := 40) rfl)) (hw _ (List.mem_of_getElem? (i := 39) rfl)) (hw _ (List.mem_of_getElem? (i := 3) rfl)) (hw _ (List.mem_of_getElem? (i := 41) rfl)) (by decide) E_a1 (rm6_0 l Z a0 hw [] a1 t6 (Int32.ofNat ((0 + nb) / 8)) pp17 h16 n0 sz F_a1_bytes F_a1_next F_a1_pending F_a1_pendingBits E_a1 g_a1) eT (by decide) (by decide) (by decide) (by decide) (by rw [hml]; rfl) pd4 rfl rfl (Nat.le_of_ble_eq_true rfl) (hb hby at_192) (q := 195) rfl ?_
      intro v T Lc hQ X
      obtain ⟨h18, eT⟩ : ∃ z, T.heap = z := ⟨_, rfl⟩
      try rw [eT] at hQ
      obtain ⟨rfl, N', K', F_a1_bytes', F_a1_next', F_a1_pending', F_a1_pendingBits'⟩ := hQ
      have N := Fr.app N N'
      have E_a1 := E_a1.keep K'
      have A_t4 := A_t4.keep K' (ninS (Ne.symm ne_a1_t4) nin0)
      have A_t6 := A_t6.keep K' (ninS (Ne.symm ne_a1_t6) nin0)
      have sz : n0 ≤ h18.size := Nat.le_trans sz K'.1
      have F_a1_bytes := F_a1_bytes'
      have F_a1_next := F_a1_next'
      have F_a1_pending := F_a1_pending'
      have F_a1_pendingBits := F_a1_pendingBits'
      rw [show (0 + nb) / 8 = (((0 + nb) + 7) / 8) from by omega]
      refine s_istore X hx (hb hby at_195) (L' := #[.val (.int x0), .val (.int x1), .val (.int x2), .val (.int x3), .val (.int x4), .val (.int x5), .val (.int (Int32.ofNat k1)), .val (.int (Int32.ofNat k2)), .val (.int (Int32.ofNat na)), .val (.int (Int32.ofNat v1)), .val (.int (Int32.ofNat nb)), .val (.int (Int32.ofNat v2)), .val (.ref a1), .val (.ref t6), .val (.int (1 : Int32)), .val (.ref t6), .val (.int (Int32.ofNat (((0 + nb) + 7) / 8))), .unset]) rfl (q := 197) rfl ?_
      refine s_iload X hx (hb hby at_197) rfl (q := 199) rfl ?_
      refine f_if_eq X hx (hb hby at_199) (q1 := 219) (by decide) (by decide) (q := 202) rfl (fun hq => absurd hq (by decide : ¬ (1 : Int32) = 0)) (fun _ => ?_)
      refine s_iload X hx (hb hby at_202) rfl (q := 204) rfl ?_
      refine s_iload X hx (hb hby at_204) rfl (q := 206) rfl ?_
      refine s_bipush X hx (z := (7 : Int32)) (hb hby at_206) rfl (q := 208) rfl ?_
      refine s_iadd X hx (hb hby at_208) (q := 209) rfl ?_
      rw [show (7 : Int32) = Int32.ofNat 7 from rfl, o_add (by omega), show nb + 7 = 0 + nb + 7 from by omega]
      refine s_bipush X hx (z := (8 : Int32)) (hb hby at_209) rfl (q := 211) rfl ?_
      refine s_idiv X hx (hb hby at_211) (by decide) (q := 212) rfl ?_
      rw [o_div8 _ (by omega)]
      refine f_icmp_ne X hx (hb hby at_212) (q1 := 219) (by decide) (by decide) (q := 215) rfl (fun hq => absurd (rfl : (Int32.ofNat (((0 + nb) + 7) / 8)) = (Int32.ofNat (((0 + nb) + 7) / 8))) hq) (fun _ => ?_)
      refine s_iconst X hx (z := (1 : Int32)) (hb hby at_215) rfl (q := 216) rfl ?_
      refine s_goto X hx (hb hby at_216) (q1 := 220) (by decide) (by decide) ?_
      refine s_istore X hx (hb hby at_220) (L' := #[.val (.int x0), .val (.int x1), .val (.int x2), .val (.int x3), .val (.int x4), .val (.int x5), .val (.int (Int32.ofNat k1)), .val (.int (Int32.ofNat k2)), .val (.int (Int32.ofNat na)), .val (.int (Int32.ofNat v1)), .val (.int (Int32.ofNat nb)), .val (.int (Int32.ofNat v2)), .val (.ref a1), .val (.ref t6), .val (.int (1 : Int32)), .val (.ref t6), .val (.int (Int32.ofNat (((0 + nb) + 7) / 8))), .unset]) rfl (q := 222) rfl ?_
      refine s_aload X hx (hb hby at_222) rfl rfl (q := 224) rfl ?_
      refine callV X hx hZ hown (W := 0) (argsL := []) (rest := []) (hw _ (List.mem_of_getElem? (i := 27) rfl)) (hw _ (List.mem_of_getElem? (i := 28) rfl)) (hw _ (List.mem_of_getElem? (i := 30) rfl)) (hw _ (List.mem_of_getElem? (i := 29) rfl)) (hw _ (List.mem_of_getElem? (i := 3) rfl)) (hw _ (List.mem_of_getElem? (i := 31) rfl)) (by decide) E_a1 (rm4 l Z a0 hw [] a1 t6 h18 n0 sz F_a1_bytes) eT (by decide) (by decide) (by decide) (by decide) (by rw [hml]; rfl) pd2 rfl rfl (Nat.le_of_ble_eq_true rfl) (hb hby at_224) (q := 227) rfl ?_
      intro v T Lc hQ X
      obtain ⟨rfl, eT, N'⟩ := hQ
      have N := Fr.app N N'
      refine s_astore X hx (hb hby at_227) rfl (L' := #[.val (.int x0), .val (.int x1), .val (.int x2), .val (.int x3), .val (.int x4), .val (.int x5), .val (.int (Int32.ofNat k1)), .val (.int (Int32.ofNat k2)), .val (.int (Int32.ofNat na)), .val (.int (Int32.ofNat v1)), .val (.int (Int32.ofNat nb)), .val (.int (Int32.ofNat v2)), .val (.ref a1), .val (.ref t6), .val (.int (1 : Int32)), .val (.ref t6), .val (.int (Int32.ofNat (((0 + nb) + 7) / 8))), .val (.ref t6)]) rfl (q := 229) rfl ?_
      refine s_iload X hx (hb hby at_229) rfl (q := 231) rfl ?_
      refine s_bipush X hx (z := (8 : Int32)) (hb hby at_231) rfl (q := 233) rfl ?_
      refine f_icmp_lt X hx (hb hby at_233) (q1 := 267) (by decide) (by decide) (q := 236) rfl (fun hc233 => ?_) (fun hc233 => ?_)
      · refine s_iload X hx (hb hby at_267) rfl (q := 269) rfl ?_
        refine f_if_le X hx (hb hby at_269) (q1 := 300) (by decide) (by decide) (q := 272) rfl (fun hc269 => ?_) (fun hc269 => ?_)
        · refine s_iload X hx (hb hby at_300) rfl (q := 302) rfl ?_
          exact leafN X hx hlk hret (by simp) (hb hby at_302) (by decide) (by decide) (z' := 1) rfl ⟨rfl, N⟩
        have h8 : nb < 8 := (o_lt (b := 8) (by omega) (by omega)).mp hc233
        have h00 : 0 < nb := (o_lt (a := 0) (by omega) (by omega)).mp hc269
        exfalso; omega
      have h8 : 8 ≤ nb := Nat.le_of_not_lt fun q => hc233 ((o_lt (b := 8) (by omega) (by omega)).mpr q)
      refine s_iload X hx (hb hby at_236) rfl (q := 238) rfl ?_
      refine f_if_eq X hx (hb hby at_238) (q1 := 261) (by decide) (by decide) (q := 241) rfl (fun hq => absurd hq (by decide : ¬ (1 : Int32) = 0)) (fun _ => ?_)
      refine s_aload X hx (hb hby at_241) rfl rfl (q := 243) rfl ?_
      refine s_iconst X hx (z := (0 : Int32)) (hb hby at_243) rfl (q := 244) rfl ?_
      refine s_baload X hx hZ eT A_t6 (by decide) (i := 0) rfl (x := ((wf (wf (sb 0 0) (0 <<< na ||| v1) (0 + na) (0 / 8) ((0 + na) / 8)) (0 <<< nb ||| v2) (0 + nb) (0 / 8) ((0 + nb) / 8)) 0)) (ML_at _ _ (by omega)) (hb hby at_244) (q := 245) rfl ?_
      refine s_iload X hx (hb hby at_245) rfl (q := 247) rfl ?_
      refine s_iload X hx (hb hby at_247) rfl (q := 249) rfl ?_
      refine s_bipush X hx (z := (8 : Int32)) (hb hby at_249) rfl (q := 251) rfl ?_
      refine s_isub X hx (hb hby at_251) (q := 252) rfl ?_
      refine s_iushr X hx (hb hby at_252) (q := 253) rfl ?_
      refine s_i2b X hx (hb hby at_253) (q := 254) rfl ?_
      refine f_icmp_ne X hx (hb hby at_254) (q1 := 261) (by decide) (by decide) (q := 257) rfl (fun hq => absurd (own_hi _ v2 nb hv2' h8 hnb : ((wf (wf (sb 0 0) (0 <<< na ||| v1) (0 + na) (0 / 8) ((0 + na) / 8)) (0 <<< nb ||| v2) (0 + nb) (0 / 8) ((0 + nb) / 8)) 0) = (((Int32.ofNat v2).toUInt32 >>> (((Int32.ofNat nb) - (8 : Int32)) &&& 31).toUInt32).toInt32).toInt8.toInt32) hq) (fun _ => ?_)
      refine s_iconst X hx (z := (1 : Int32)) (hb hby at_257) rfl (q := 258) rfl ?_
      refine s_goto X hx (hb hby at_258) (q1 := 262) (by decide) (by decide) ?_
      refine s_istore X hx (hb hby at_262) (L' := #[.val (.int x0), .val (.int x1), .val (.int x2), .val (.int x3), .val (.int x4), .val (.int x5), .val (.int (Int32.ofNat k1)), .val (.int (Int32.ofNat k2)), .val (.int (Int32.ofNat na)), .val (.int (Int32.ofNat v1)), .val (.int (Int32.ofNat nb)), .val (.int (Int32.ofNat v2)), .val (.ref a1), .val (.ref t6), .val (.int (1 : Int32)), .val (.ref t6), .val (.int (Int32.ofNat (((0 + nb) + 7) / 8))), .val (.ref t6)]) rfl (q := 264) rfl ?_
      refine s_goto X hx (hb hby at_264) (q1 := 300) (by decide) (by decide) ?_
      refine s_iload X hx (hb hby at_300) rfl (q := 302) rfl ?_
      exact leafN X hx hlk hret (by simp) (hb hby at_302) (by decide) (by decide) (z' := 1) rfl ⟨rfl, N⟩
    · have hz' := hz
      refine callV X hx hZ hown (W := 0) (argsL := []) (rest := []) (hw _ (List.mem_of_getElem? (i := 37) rfl)) (hw _ (List.mem_of_getElem? (i := 38) rfl)) (hw _ (List.mem_of_getElem? (i := 40) rfl)) (hw _ (List.mem_of_getElem? (i := 39) rfl)) (hw _ (List.mem_of_getElem? (i := 3) rfl)) (hw _ (List.mem_of_getElem? (i := 41) rfl)) (by decide) E_a1 (rm6_1 l Z a0 hw [] a1 t6 (0 <<< nb ||| v2) ((0 + nb) / 8) ((0 + nb) % 8) (k1 + 8) (wf (wf (sb 0 0) (0 <<< na ||| v1) (0 + na) (0 / 8) ((0 + na) / 8)) (0 <<< nb ||| v2) (0 + nb) (0 / 8) ((0 + nb) / 8)) pp17 h16 n0 sz F_a1_bytes F_a1_next F_a1_pending F_a1_pendingBits E_a1 g_a1 A_t6 g_t6 ne_a1_t6 hb_pp17 (Nat.pos_of_ne_zero hz) (by omega) (by omega) (by omega)) eT (by decide) (by decide) (by decide) (by decide) (by rw [hml]; rfl) pd4 rfl rfl (Nat.le_of_ble_eq_true rfl) (hb hby at_192) (q := 195) rfl ?_
      intro v T Lc hQ X
      obtain ⟨h19, eT⟩ : ∃ z, T.heap = z := ⟨_, rfl⟩
      try rw [eT] at hQ
      obtain ⟨rfl, N', K', F_a1_bytes', F_a1_next', F_a1_pending', F_a1_pendingBits', A_t6'⟩ := hQ
      have N := Fr.app N N'
      have E_a1 := E_a1.keep K'
      have A_t4 := A_t4.keep K' (ninS (Ne.symm ne_a1_t4) (ninS ne_t4_t6 nin0))
      have sz : n0 ≤ h19.size := Nat.le_trans sz K'.1
      have A_t6 := A_t6'
      have F_a1_bytes := F_a1_bytes'
      have F_a1_next := F_a1_next'
      have F_a1_pending := F_a1_pending'
      have F_a1_pendingBits := F_a1_pendingBits'
      rw [show (0 + nb) / 8 + (0 + 1) = (((0 + nb) + 7) / 8) from by omega]
      refine s_istore X hx (hb hby at_195) (L' := #[.val (.int x0), .val (.int x1), .val (.int x2), .val (.int x3), .val (.int x4), .val (.int x5), .val (.int (Int32.ofNat k1)), .val (.int (Int32.ofNat k2)), .val (.int (Int32.ofNat na)), .val (.int (Int32.ofNat v1)), .val (.int (Int32.ofNat nb)), .val (.int (Int32.ofNat v2)), .val (.ref a1), .val (.ref t6), .val (.int (1 : Int32)), .val (.ref t6), .val (.int (Int32.ofNat (((0 + nb) + 7) / 8))), .unset]) rfl (q := 197) rfl ?_
      refine s_iload X hx (hb hby at_197) rfl (q := 199) rfl ?_
      refine f_if_eq X hx (hb hby at_199) (q1 := 219) (by decide) (by decide) (q := 202) rfl (fun hq => absurd hq (by decide : ¬ (1 : Int32) = 0)) (fun _ => ?_)
      refine s_iload X hx (hb hby at_202) rfl (q := 204) rfl ?_
      refine s_iload X hx (hb hby at_204) rfl (q := 206) rfl ?_
      refine s_bipush X hx (z := (7 : Int32)) (hb hby at_206) rfl (q := 208) rfl ?_
      refine s_iadd X hx (hb hby at_208) (q := 209) rfl ?_
      rw [show (7 : Int32) = Int32.ofNat 7 from rfl, o_add (by omega), show nb + 7 = 0 + nb + 7 from by omega]
      refine s_bipush X hx (z := (8 : Int32)) (hb hby at_209) rfl (q := 211) rfl ?_
      refine s_idiv X hx (hb hby at_211) (by decide) (q := 212) rfl ?_
      rw [o_div8 _ (by omega)]
      refine f_icmp_ne X hx (hb hby at_212) (q1 := 219) (by decide) (by decide) (q := 215) rfl (fun hq => absurd (rfl : (Int32.ofNat (((0 + nb) + 7) / 8)) = (Int32.ofNat (((0 + nb) + 7) / 8))) hq) (fun _ => ?_)
      refine s_iconst X hx (z := (1 : Int32)) (hb hby at_215) rfl (q := 216) rfl ?_
      refine s_goto X hx (hb hby at_216) (q1 := 220) (by decide) (by decide) ?_
      refine s_istore X hx (hb hby at_220) (L' := #[.val (.int x0), .val (.int x1), .val (.int x2), .val (.int x3), .val (.int x4), .val (.int x5), .val (.int (Int32.ofNat k1)), .val (.int (Int32.ofNat k2)), .val (.int (Int32.ofNat na)), .val (.int (Int32.ofNat v1)), .val (.int (Int32.ofNat nb)), .val (.int (Int32.ofNat v2)), .val (.ref a1), .val (.ref t6), .val (.int (1 : Int32)), .val (.ref t6), .val (.int (Int32.ofNat (((0 + nb) + 7) / 8))), .unset]) rfl (q := 222) rfl ?_
      refine s_aload X hx (hb hby at_222) rfl rfl (q := 224) rfl ?_
      refine callV X hx hZ hown (W := 0) (argsL := []) (rest := []) (hw _ (List.mem_of_getElem? (i := 27) rfl)) (hw _ (List.mem_of_getElem? (i := 28) rfl)) (hw _ (List.mem_of_getElem? (i := 30) rfl)) (hw _ (List.mem_of_getElem? (i := 29) rfl)) (hw _ (List.mem_of_getElem? (i := 3) rfl)) (hw _ (List.mem_of_getElem? (i := 31) rfl)) (by decide) E_a1 (rm4 l Z a0 hw [] a1 t6 h19 n0 sz F_a1_bytes) eT (by decide) (by decide) (by decide) (by decide) (by rw [hml]; rfl) pd2 rfl rfl (Nat.le_of_ble_eq_true rfl) (hb hby at_224) (q := 227) rfl ?_
      intro v T Lc hQ X
      obtain ⟨rfl, eT, N'⟩ := hQ
      have N := Fr.app N N'
      refine s_astore X hx (hb hby at_227) rfl (L' := #[.val (.int x0), .val (.int x1), .val (.int x2), .val (.int x3), .val (.int x4), .val (.int x5), .val (.int (Int32.ofNat k1)), .val (.int (Int32.ofNat k2)), .val (.int (Int32.ofNat na)), .val (.int (Int32.ofNat v1)), .val (.int (Int32.ofNat nb)), .val (.int (Int32.ofNat v2)), .val (.ref a1), .val (.ref t6), .val (.int (1 : Int32)), .val (.ref t6), .val (.int (Int32.ofNat (((0 + nb) + 7) / 8))), .val (.ref t6)]) rfl (q := 229) rfl ?_
      refine s_iload X hx (hb hby at_229) rfl (q := 231) rfl ?_
      refine s_bipush X hx (z := (8 : Int32)) (hb hby at_231) rfl (q := 233) rfl ?_
      refine f_icmp_lt X hx (hb hby at_233) (q1 := 267) (by decide) (by decide) (q := 236) rfl (fun hc233 => ?_) (fun hc233 => ?_)
      · refine s_iload X hx (hb hby at_267) rfl (q := 269) rfl ?_
        refine f_if_le X hx (hb hby at_269) (q1 := 300) (by decide) (by decide) (q := 272) rfl (fun hc269 => ?_) (fun hc269 => ?_)
        · refine s_iload X hx (hb hby at_300) rfl (q := 302) rfl ?_
          exact leafN X hx hlk hret (by simp) (hb hby at_302) (by decide) (by decide) (z' := 1) rfl ⟨rfl, N⟩
        have h8 : nb < 8 := (o_lt (b := 8) (by omega) (by omega)).mp hc233
        have h00 : 0 < nb := (o_lt (a := 0) (by omega) (by omega)).mp hc269
        refine s_iload X hx (hb hby at_272) rfl (q := 274) rfl ?_
        refine f_if_eq X hx (hb hby at_274) (q1 := 297) (by decide) (by decide) (q := 277) rfl (fun hq => absurd hq (by decide : ¬ (1 : Int32) = 0)) (fun _ => ?_)
        refine s_aload X hx (hb hby at_277) rfl rfl (q := 279) rfl ?_
        refine s_iconst X hx (z := (0 : Int32)) (hb hby at_279) rfl (q := 280) rfl ?_
        refine s_baload X hx hZ eT A_t6 (by decide) (i := 0) rfl (x := ((fun i => if i = (0 + nb) / 8 then bb ((0 <<< nb ||| v2) <<< (8 - (0 + nb) % 8)) else (wf (wf (sb 0 0) (0 <<< na ||| v1) (0 + na) (0 / 8) ((0 + na) / 8)) (0 <<< nb ||| v2) (0 + nb) (0 / 8) ((0 + nb) / 8)) i) 0)) (ML_at _ _ (by omega)) (hb hby at_280) (q := 281) rfl ?_
        refine s_iload X hx (hb hby at_281) rfl (q := 283) rfl ?_
        refine s_bipush X hx (z := (8 : Int32)) (hb hby at_283) rfl (q := 285) rfl ?_
        refine s_iload X hx (hb hby at_285) rfl (q := 287) rfl ?_
        refine s_isub X hx (hb hby at_287) (q := 288) rfl ?_
        refine s_ishl X hx (hb hby at_288) (q := 289) rfl ?_
        refine s_i2b X hx (hb hby at_289) (q := 290) rfl ?_
        refine f_icmp_ne X hx (hb hby at_290) (q1 := 297) (by decide) (by decide) (q := 293) rfl (fun hq => absurd ((if_pos (by omega)).trans (own_lo v2 nb h00 h8) : ((fun i => if i = (0 + nb) / 8 then bb ((0 <<< nb ||| v2) <<< (8 - (0 + nb) % 8)) else (wf (wf (sb 0 0) (0 <<< na ||| v1) (0 + na) (0 / 8) ((0 + na) / 8)) (0 <<< nb ||| v2) (0 + nb) (0 / 8) ((0 + nb) / 8)) i) 0) = ((Int32.ofNat v2) <<< (((8 : Int32) - (Int32.ofNat nb)) &&& 31)).toInt8.toInt32) hq) (fun _ => ?_)
        refine s_iconst X hx (z := (1 : Int32)) (hb hby at_293) rfl (q := 294) rfl ?_
        refine s_goto X hx (hb hby at_294) (q1 := 298) (by decide) (by decide) ?_
        refine s_istore X hx (hb hby at_298) (L' := #[.val (.int x0), .val (.int x1), .val (.int x2), .val (.int x3), .val (.int x4), .val (.int x5), .val (.int (Int32.ofNat k1)), .val (.int (Int32.ofNat k2)), .val (.int (Int32.ofNat na)), .val (.int (Int32.ofNat v1)), .val (.int (Int32.ofNat nb)), .val (.int (Int32.ofNat v2)), .val (.ref a1), .val (.ref t6), .val (.int (1 : Int32)), .val (.ref t6), .val (.int (Int32.ofNat (((0 + nb) + 7) / 8))), .val (.ref t6)]) rfl (q := 300) rfl ?_
        refine s_iload X hx (hb hby at_300) rfl (q := 302) rfl ?_
        exact leafN X hx hlk hret (by simp) (hb hby at_302) (by decide) (by decide) (z' := 1) rfl ⟨rfl, N⟩
      have h8 : 8 ≤ nb := Nat.le_of_not_lt fun q => hc233 ((o_lt (b := 8) (by omega) (by omega)).mpr q)
      refine s_iload X hx (hb hby at_236) rfl (q := 238) rfl ?_
      refine f_if_eq X hx (hb hby at_238) (q1 := 261) (by decide) (by decide) (q := 241) rfl (fun hq => absurd hq (by decide : ¬ (1 : Int32) = 0)) (fun _ => ?_)
      refine s_aload X hx (hb hby at_241) rfl rfl (q := 243) rfl ?_
      refine s_iconst X hx (z := (0 : Int32)) (hb hby at_243) rfl (q := 244) rfl ?_
      refine s_baload X hx hZ eT A_t6 (by decide) (i := 0) rfl (x := ((fun i => if i = (0 + nb) / 8 then bb ((0 <<< nb ||| v2) <<< (8 - (0 + nb) % 8)) else (wf (wf (sb 0 0) (0 <<< na ||| v1) (0 + na) (0 / 8) ((0 + na) / 8)) (0 <<< nb ||| v2) (0 + nb) (0 / 8) ((0 + nb) / 8)) i) 0)) (ML_at _ _ (by omega)) (hb hby at_244) (q := 245) rfl ?_
      refine s_iload X hx (hb hby at_245) rfl (q := 247) rfl ?_
      refine s_iload X hx (hb hby at_247) rfl (q := 249) rfl ?_
      refine s_bipush X hx (z := (8 : Int32)) (hb hby at_249) rfl (q := 251) rfl ?_
      refine s_isub X hx (hb hby at_251) (q := 252) rfl ?_
      refine s_iushr X hx (hb hby at_252) (q := 253) rfl ?_
      refine s_i2b X hx (hb hby at_253) (q := 254) rfl ?_
      refine f_icmp_ne X hx (hb hby at_254) (q1 := 261) (by decide) (by decide) (q := 257) rfl (fun hq => absurd ((if_neg (by omega)).trans (own_hi _ v2 nb hv2' h8 hnb) : ((fun i => if i = (0 + nb) / 8 then bb ((0 <<< nb ||| v2) <<< (8 - (0 + nb) % 8)) else (wf (wf (sb 0 0) (0 <<< na ||| v1) (0 + na) (0 / 8) ((0 + na) / 8)) (0 <<< nb ||| v2) (0 + nb) (0 / 8) ((0 + nb) / 8)) i) 0) = (((Int32.ofNat v2).toUInt32 >>> (((Int32.ofNat nb) - (8 : Int32)) &&& 31).toUInt32).toInt32).toInt8.toInt32) hq) (fun _ => ?_)
      refine s_iconst X hx (z := (1 : Int32)) (hb hby at_257) rfl (q := 258) rfl ?_
      refine s_goto X hx (hb hby at_258) (q1 := 262) (by decide) (by decide) ?_
      refine s_istore X hx (hb hby at_262) (L' := #[.val (.int x0), .val (.int x1), .val (.int x2), .val (.int x3), .val (.int x4), .val (.int x5), .val (.int (Int32.ofNat k1)), .val (.int (Int32.ofNat k2)), .val (.int (Int32.ofNat na)), .val (.int (Int32.ofNat v1)), .val (.int (Int32.ofNat nb)), .val (.int (Int32.ofNat v2)), .val (.ref a1), .val (.ref t6), .val (.int (1 : Int32)), .val (.ref t6), .val (.int (Int32.ofNat (((0 + nb) + 7) / 8))), .val (.ref t6)]) rfl (q := 264) rfl ?_
      refine s_goto X hx (hb hby at_264) (q1 := 300) (by decide) (by decide) ?_
      refine s_iload X hx (hb hby at_300) rfl (q := 302) rfl ?_
      exact leafN X hx hlk hret (by simp) (hb hby at_302) (by decide) (by decide) (z' := 1) rfl ⟨rfl, N⟩
set_option maxRecDepth 65536 in
set_option maxHeartbeats 40000000 in
theorem comes_1 {Post : Tables → Env → Array Value → State → Outcome → State → Prop} (hpost : ∀ tb e args s v u, (limb_1_1.after args s (.returned v) u = true ∧ limb_1_2.after args s (.returned v) u = true ∧ True) → FrameEnd s (.returned v) u (Jvm.fieldLocs frame_1_writes args s ++ Jvm.arrayLocs frame_1_arrays args s ++ Jvm.staticLocs frame_1_statics s) 24 1664 → Post tb e args s (.returned v) u) :
    ArmFor flags0 classFile x code maxLocals ret World_1 tables_1 room_1 Calls_1 rest_1 Pre_1 Post := by
  intro l hfl _ _ p e ha hc hk s m args below hf hA hF happ hP
  obtain ⟨hcalls, hrest, hpre⟩ := hP
  obtain ⟨-, -, -, hnamed, -, -, -, hat⟩ := (Spec.applies_iff hf).mp happ
  obtain ⟨hg, hn⟩ := and_e (Cond.before_iff.mp (show (Jvm.Cond.and given_1 narrow_1).before args s = true from hpre))
  obtain ⟨g1, g2⟩ := and_e hg
  obtain ⟨g3, g4⟩ := and_e g2
  obtain ⟨g5, g6⟩ := and_e g4
  obtain ⟨g7, g8⟩ := and_e g6
  obtain ⟨g9, g10⟩ := and_e g8
  obtain ⟨g11, g12⟩ := and_e g10
  obtain ⟨w0, w1, w2, w3, w4, w5, rfl⟩ : ∃ w0 w1 w2 w3 w4 w5 : Value, args = #[w0, w1, w2, w3, w4, w5] := by
    have hs : args.size = 6 := by simpa [Cond.value, given_1] using g1
    obtain ⟨L⟩ := args
    match L, hs with
    | [w0, w1, w2, w3, w4, w5], _ => exact ⟨w0, w1, w2, w3, w4, w5, rfl⟩
  have hw := fun d (hd : d ∈ tables_1) => atoms_spec (ws := Jvm.Cond.code x code maxLocals ret :: tables_1) hat d (List.mem_cons_of_mem _ hd)
  obtain ⟨i0, ei0⟩ := is_v g3
  obtain rfl : w0 = (.int i0) := Option.some.inj ei0
  obtain ⟨i1, ei1⟩ := is_v g5
  obtain rfl : w1 = (.int i1) := Option.some.inj ei1
  obtain ⟨i2, ei2⟩ := is_v g7
  obtain rfl : w2 = (.int i2) := Option.some.inj ei2
  obtain ⟨i3, ei3⟩ := is_v g9
  obtain rfl : w3 = (.int i3) := Option.some.inj ei3
  obtain ⟨i4, ei4⟩ := is_v g11
  obtain rfl : w4 = (.int i4) := Option.some.inj ei4
  obtain ⟨i5, ei5⟩ := is_v g12
  obtain rfl : w5 = (.int i5) := Option.some.inj ei5
  obtain ⟨n, o, h1, h2, h3, _, L, rfl, ⟨rfl, N⟩, hq⟩ := rm0 l s _ hw tables_1 i0 i1 i2 i3 i4 i5 s.heap s.heap.size (Nat.le_refl _) p e ha hc hk s m _ below hf ((Spec.applies_iff_loose hf).mp happ).1 ⟨rfl, State.Warmed39.refl s, rfl⟩ trivial
  refine ⟨n, _, h1, h2, h3, hpost _ _ _ _ _ _ ⟨Cond.after_iff.mpr rfl, Cond.after_iff.mpr (eq_i res_at (Term.int_eval (1)) rfl), trivial⟩ ⟨hq.1, hq.2.1, (hq.2.2.sift fun y hy => Or.inr (N y hy)).mono (by decide) (by decide)⟩⟩
theorem main_1_1 : Claimed_1_1 := comes_1 fun _ _ _ _ _ _ h hF => ⟨h.1, hF⟩
theorem main_1_2 : Claimed_1_2 := comes_1 fun _ _ _ _ _ _ h hF => ⟨h.2.1, hF⟩
end Jvm.Pilot.@@N@@
namespace Jvm.Pilot.@@N@@
open Jvm Jvm.ClassFile Sem Op Lib Jvm.Free Jvm.Stand Jvm.Pilot.@@N@@.Jvm.D
/-! MADE BY PROGRAM (witnessworld.py) out of the Statement's table words and the real class files: 9 classes; the members and pool entries that the words name. The judged class is class 1, her method 1. -/
namespace start1
open Jvm.ClassFile
def u (s : String) : CpInfo := .utf8 (stringToUtf16 s)
/-- a pool by its gaps: so many unusable entries, then the entry; so many at the end -/
def gap : Nat → List CpInfo → List CpInfo
  | 0, r => r
  | n + 1, r => .unusable :: gap n r
def poolList (es : List (Nat × CpInfo)) (last : Nat) : List CpInfo := es.foldr (fun e r => gap e.1 (e.2 :: r)) (gap last [])
def pool (es : List (Nat × CpInfo)) (last : Nat) : Array CpInfo := ⟨poolList es last⟩
def fileOf (pool : Array CpInfo) (this : Nat) (attrs : Array Attribute := #[]) (ms : Array MethodInfo := #[]) (fl : Nat := 33) (sup : Nat := 0) (ifs : Array Nat := #[]) (fds : Array FieldInfo := #[]) : ClassFile where
  minorVersion := 0
  majorVersion := 65
  constantPool := pool
  accessFlags := fl
  thisClass := this
  superClass := sup
  interfaces := ifs
  fields := fds
  methods := ms
  attributes := attrs
def plain (name : String) (sup : Option ClassId) : Class where
  name := name
  kind := .ordinary
  loader := none
  accessFlags := 33
  super := sup
  interfaces := #[]
  cf := none
  fields := #[]
  methods := #[]
  instanceTypes := #[]
  staticTypes := #[]
  resolved := #[]
  callSites := []
  init := .initialized
  statics := none
  mirror := none

def pool0 : Array CpInfo := pool [(5, u "<init>"), (0, u "()V"), (1, .class_ 10), (1, u "java/lang/Object")] 113

def k0c0 : Code := { maxStack := 0, maxLocals := 1, code := object_method_1_code, exceptionTable := #[], attributes := #[] }
def k0m0 : Method := { name := "<init>", desc := "()V", sig := { parameters := [], returnType := none }, accessFlags := 1, code := some k0c0 }
/-- java/lang/Object -/
def k0 : Class := { plain "java/lang/Object" none with
  accessFlags := 33
  interfaces := #[]
  cf := some (fileOf pool0 8 #[] #[{ accessFlags := 1, nameIndex := 5, descriptorIndex := 6, attributes := #[] }] 33 0 #[] #[])
  fields := #[]
  methods := #[k0m0]
  instanceTypes := #[]
  staticTypes := #[]
  resolved := Array.replicate 124 none
  statics := none }

def pool1 : Array CpInfo := pool [(2, .class_ 4), (0, .nameAndType 5 6), (0, u "java/lang/Object"), (0, u "<init>"), (0, u "()V"), (0, .integer 2147483647), (0, .class_ 9), (0, u "com/example/tallytree/tallytree/BitWriter"), (0, .methodref 8 3), (0, .methodref 8 12), (0, .nameAndType 13 14), (0, u "reset"), (0, u "(I)V"), (0, .methodref 8 16), (0, .nameAndType 17 18), (0, u "bytes"), (0, u "()[B"), (0, .methodref 8 20), (0, .nameAndType 21 22), (0, u "write"), (0, u "(II)V"), (0, .methodref 8 24), (0, .nameAndType 25 26), (0, u "finish"), (0, u "()I"), (0, .class_ 28), (0, u "com/example/tallytree/tallytree/BitWriterResetPinLaw"), (2, u "law"), (0, u "(IIIIII)Z")] 5

def k1m0 : Method := { name := "<init>", desc := "()V", sig := { parameters := [], returnType := none }, accessFlags := 1, code := none }
def k1c1 : Code := { maxStack := 4, maxLocals := 18, code := code, exceptionTable := #[], attributes := #[] }
def k1m1 : Method := { name := "law", desc := "(IIIIII)Z", sig := { parameters := [.int, .int, .int, .int, .int, .int], returnType := some .boolean }, accessFlags := 9, code := some k1c1 }
/-- com/example/tallytree/tallytree/BitWriterResetPinLaw -/
def k1 : Class := { plain "com/example/tallytree/tallytree/BitWriterResetPinLaw" (some 0) with
  accessFlags := 49
  interfaces := #[]
  cf := some (fileOf pool1 27 #[] #[{ accessFlags := 1, nameIndex := 5, descriptorIndex := 6, attributes := #[] }, { accessFlags := 9, nameIndex := 31, descriptorIndex := 32, attributes := #[] }] 49 2 #[] #[])
  fields := #[]
  methods := #[k1m0, k1m1]
  instanceTypes := #[]
  staticTypes := #[]
  resolved := Array.replicate 38 none
  statics := none }

def pool2 : Array CpInfo := pool [(1, .class_ 2), (0, u "com/example/tallytree/tallytree/BitWriter"), (0, .methodref 4 5), (0, .class_ 6), (0, .nameAndType 7 8), (0, u "java/lang/Object"), (0, u "<init>"), (0, u "()V"), (0, .fieldref 1 10), (0, .nameAndType 11 12), (0, u "bytes"), (0, u "[B"), (2, .fieldref 1 16), (0, .nameAndType 17 18), (0, u "entries"), (0, u "[I"), (2, .fieldref 1 22), (0, .nameAndType 23 24), (0, u "next"), (0, u "I"), (0, .fieldref 1 26), (0, .nameAndType 27 28), (0, u "pending"), (0, u "J"), (0, .fieldref 1 30), (0, .nameAndType 31 24), (0, u "pendingBits"), (13, u "BIG_ENDIAN_LONG"), (0, u "Ljava/lang/invoke/VarHandle;"), (20, u "CODEWORDS_PER_STORE"), (2, u "LENGTH_BITS"), (1, u "LENGTH_MASK"), (3, u "reset"), (0, u "(I)V"), (1, u "write"), (0, u "(II)V"), (4, u "finish"), (0, u "()I"), (0, u "()[B")] 3

def k2c0 : Code := { maxStack := 2, maxLocals := 1, code := prog_9_method_1_code, exceptionTable := #[], attributes := #[] }
def k2m0 : Method := { name := "<init>", desc := "()V", sig := { parameters := [], returnType := none }, accessFlags := 0, code := some k2c0 }
def k2c1 : Code := { maxStack := 3, maxLocals := 2, code := prog_9_method_2_code, exceptionTable := #[], attributes := #[] }
def k2m1 : Method := { name := "reset", desc := "(I)V", sig := { parameters := [.int], returnType := none }, accessFlags := 0, code := some k2c1 }
def k2c2 : Code := { maxStack := 5, maxLocals := 3, code := prog_9_method_3_code, exceptionTable := #[], attributes := #[] }
def k2m2 : Method := { name := "write", desc := "(II)V", sig := { parameters := [.int, .int], returnType := none }, accessFlags := 0, code := some k2c2 }
def k2c3 : Code := { maxStack := 6, maxLocals := 1, code := prog_9_method_5_code, exceptionTable := #[], attributes := #[] }
def k2m3 : Method := { name := "finish", desc := "()I", sig := { parameters := [], returnType := some .int }, accessFlags := 0, code := some k2c3 }
def k2c4 : Code := { maxStack := 1, maxLocals := 1, code := prog_9_method_6_code, exceptionTable := #[], attributes := #[] }
def k2m4 : Method := { name := "bytes", desc := "()[B", sig := { parameters := [], returnType := some (.array .byte) }, accessFlags := 0, code := some k2c4 }
/-- com/example/tallytree/tallytree/BitWriter -/
def k2 : Class := { plain "com/example/tallytree/tallytree/BitWriter" (some 0) with
  accessFlags := 48
  interfaces := #[]
  cf := some (fileOf pool2 1 #[] #[{ accessFlags := 0, nameIndex := 7, descriptorIndex := 8, attributes := #[] }, { accessFlags := 0, nameIndex := 76, descriptorIndex := 77, attributes := #[] }, { accessFlags := 0, nameIndex := 79, descriptorIndex := 80, attributes := #[] }, { accessFlags := 0, nameIndex := 85, descriptorIndex := 86, attributes := #[] }, { accessFlags := 0, nameIndex := 11, descriptorIndex := 87, attributes := #[] }] 48 4 #[] #[{ accessFlags := 26, nameIndex := 45, descriptorIndex := 46, attributes := #[] }, { accessFlags := 26, nameIndex := 67, descriptorIndex := 24, attributes := #[] }, { accessFlags := 26, nameIndex := 70, descriptorIndex := 24, attributes := #[] }, { accessFlags := 26, nameIndex := 72, descriptorIndex := 24, attributes := #[] }, { accessFlags := 2, nameIndex := 11, descriptorIndex := 12, attributes := #[] }, { accessFlags := 2, nameIndex := 23, descriptorIndex := 24, attributes := #[] }, { accessFlags := 2, nameIndex := 27, descriptorIndex := 28, attributes := #[] }, { accessFlags := 2, nameIndex := 31, descriptorIndex := 24, attributes := #[] }, { accessFlags := 18, nameIndex := 17, descriptorIndex := 18, attributes := #[] }])
  fields := #[{ name := "BIG_ENDIAN_LONG", type := (.object "java/lang/invoke/VarHandle"), accessFlags := 26, slot := 0, constantValue := 0 }, { name := "CODEWORDS_PER_STORE", type := .int, accessFlags := 26, slot := 1, constantValue := 0 }, { name := "LENGTH_BITS", type := .int, accessFlags := 26, slot := 2, constantValue := 0 }, { name := "LENGTH_MASK", type := .int, accessFlags := 26, slot := 3, constantValue := 0 }, { name := "bytes", type := (.array .byte), accessFlags := 2, slot := 0, constantValue := 0 }, { name := "next", type := .int, accessFlags := 2, slot := 1, constantValue := 0 }, { name := "pending", type := .long, accessFlags := 2, slot := 2, constantValue := 0 }, { name := "pendingBits", type := .int, accessFlags := 2, slot := 3, constantValue := 0 }, { name := "entries", type := (.array .int), accessFlags := 18, slot := 4, constantValue := 0 }]
  methods := #[k2m0, k2m1, k2m2, k2m3, k2m4]
  instanceTypes := #[(.array .byte), .int, .long, .int, (.array .int)]
  staticTypes := #[(.object "java/lang/invoke/VarHandle"), .int, .int, .int]
  resolved := Array.replicate 91 none
  statics := none }

def pool3 : Array CpInfo := pool [(1, u "java/lang/Cloneable"), (0, .class_ 1), (0, u "java/lang/Object"), (0, .class_ 3)] 3

/-- java/lang/Cloneable -/
def k3 : Class := { plain "java/lang/Cloneable" (some 0) with
  accessFlags := 1537
  interfaces := #[]
  cf := some (fileOf pool3 2 #[] #[] 1537 4 #[] #[])
  fields := #[]
  methods := #[]
  instanceTypes := #[]
  staticTypes := #[]
  resolved := Array.replicate 8 none
  statics := none }

def pool4 : Array CpInfo := pool [(1, u "java/io/Serializable"), (0, .class_ 1), (0, u "java/lang/Object"), (0, .class_ 3)] 3

/-- java/io/Serializable -/
def k4 : Class := { plain "java/io/Serializable" (some 0) with
  accessFlags := 1537
  interfaces := #[]
  cf := some (fileOf pool4 2 #[] #[] 1537 4 #[] #[])
  fields := #[]
  methods := #[]
  instanceTypes := #[]
  staticTypes := #[]
  resolved := Array.replicate 8 none
  statics := none }

/-- the primitive byte -/
def k5 : Class := { plain "byte" none with kind := .primitive 'B', accessFlags := 0x411 }
/-- [B -/
def k6 : Class := { plain "[B" (some 0) with kind := .array 5 .byte, interfaces := #[3, 4], accessFlags := 1041 }

/-- the primitive int -/
def k7 : Class := { plain "int" none with kind := .primitive 'I', accessFlags := 0x411 }
/-- [I -/
def k8 : Class := { plain "[I" (some 0) with kind := .array 7 .int, interfaces := #[3, 4], accessFlags := 1041 }

def heap : Heap := #[]
def classes : Array Class := #[k0, k1, k2, k3, k4, k5, k6, k7, k8]
def interned : List (Array UInt16 × Addr) := []
def slotsUsed : Nat := 0
def theMethod : MethodId := ⟨1, 1⟩
def args0 : Array Value := #[.int 5, .int 7, .int 20, .int 9, .int 3, .int 11]
def aboutOver (below : List Frame) : State where
  vm := { classes := classes, interned := interned.toArray }
  heap := heap
  slotsUsed := slotsUsed
  threads := #[{ frames := .invoking theMethod args0 :: below }]
def below0 : List Frame := [.native { method := ⟨0, 0⟩, args := #[] }]
def about1 : State := aboutOver below0
def p0 : Program := .bare "" "" ""
def e0 : Env := launch0.env 0 0 0
theorem w_frames : about1.frames = Frame.invoking theMethod args0 :: below0 := rfl
set_option maxRecDepth 65536 in
theorem w_args : argsFit about1.vm theMethod args0 = true := by decide +kernel
set_option maxRecDepth 65536 in
theorem w_heap : heapFits about1 = true := by decide +kernel
set_option maxRecDepth 65536 in
theorem w_runnable : about1.curStatus? = some .runnable := by decide +kernel
set_option maxRecDepth 65536 in
theorem w_alone : about1.alone = true := by decide +kernel
set_option maxRecDepth 65536 in
theorem w_named : about1.methodNamed? x = some theMethod := by decide +kernel
set_option maxRecDepth 65536 in
theorem w_hears : about1.hears theMethod below0 = true := by decide +kernel
set_option maxRecDepth 65536 in
theorem w_ripe : about1.ripe theMethod args0 below0 = true := by decide +kernel
theorem w_running : about1.status = .running := rfl
set_option maxRecDepth 65536 in
theorem w_room : about1.hasRoom e0.platform room_1 = true :=
  launch0.hasRoom_least _ room_1 (by decide +kernel) (by decide +kernel) (by decide +kernel) (by decide +kernel) (by decide +kernel) (by decide +kernel)
theorem allAtoms_all (ts : List Jvm.Cond) (a : Array Jvm.Value) (st : Jvm.State) : (allAtoms ts).before a st = ts.all (fun c => c.before a st) := by
  induction ts with
  | nil => rfl
  | cons c t ih =>
    show (Jvm.Cond.and c (allAtoms t)).before a st = _
    rw [Jvm.Cond.before_and, ih, List.all_cons]
def words1 : List Jvm.Cond := Jvm.Cond.code x code maxLocals ret :: tables_1
/-- a 'code' word, met by the world's own term for the bytes: nothing is compared byte by byte -/
theorem code_word {y : MethodName} {bytes : ByteArray} {mx : Nat} {rt : Option FieldType} {a : Array Value} {s : State} {m : MethodId} {meth : Method} {c : Code} (h1 : s.methodNamed? y = some m) (h2 : s.vm.method? m = some meth) (h3 : meth.code = some c) (h4 : c.code = bytes)
    (h5 : (c.maxLocals == mx && c.exceptionTable.isEmpty && decide (c.maxStack ≤ mostOperands) && decide (meth.sig.returnType = rt) && !meth.locks && decide (parseMethodDescriptor y.desc = some meth.sig)) = true) : (Jvm.Cond.code y bytes mx rt).before a s = true := by
  simp only [Bool.and_eq_true, beq_iff_eq, Bool.not_eq_true', decide_eq_true_eq] at h5
  obtain ⟨⟨⟨⟨⟨g1, g2⟩, g3⟩, g4⟩, g5⟩, g6⟩ := h5
  simp [Cond.before, Cond.holds, Cond.value, h1, h2, h3, h4, g1, g2, g3, g4, g5, g6]
def isCode : Jvm.Cond → Bool
  | .code _ _ _ _ => true
  | _ => false
theorem all_split {L : List Jvm.Cond} {P : Jvm.Cond → Bool} (h1 : L.all (fun c => isCode c || P c) = true) (h2 : ∀ c ∈ L.filter isCode, P c = true) : L.all P = true := by
  refine List.all_eq_true.mpr fun c hc => ?_
  have h := List.all_eq_true.mp h1 c hc
  rcases Bool.eq_false_or_eq_true (isCode c) with hi | hi
  · exact h2 c (List.mem_filter.mpr ⟨hc, hi⟩)
  · simpa [hi] using h
set_option maxRecDepth 65536 in
theorem w_c0 : (Jvm.Cond.code x code maxLocals ret).before args0 about1 = true := code_word (m := ⟨1, 1⟩) (meth := k1m1) (c := k1c1) (by decide +kernel) rfl rfl rfl (by decide +kernel)
set_option maxRecDepth 65536 in
theorem w_c1 : (Jvm.Cond.code ({ cls := "com/example/tallytree/tallytree/BitWriter", name := "<init>", desc := "()V" } : Jvm.MethodName) prog_9_method_1_code (1 : Nat) (Option.none : Option Jvm.ClassFile.FieldType)).before args0 about1 = true := code_word (m := ⟨2, 0⟩) (meth := k2m0) (c := k2c0) (by decide +kernel) rfl rfl rfl (by decide +kernel)
set_option maxRecDepth 65536 in
theorem w_c2 : (Jvm.Cond.code ({ cls := "java/lang/Object", name := "<init>", desc := "()V" } : Jvm.MethodName) object_method_1_code (1 : Nat) (Option.none : Option Jvm.ClassFile.FieldType)).before args0 about1 = true := code_word (m := ⟨0, 0⟩) (meth := k0m0) (c := k0c0) (by decide +kernel) rfl rfl rfl (by decide +kernel)
set_option maxRecDepth 65536 in
theorem w_c3 : (Jvm.Cond.code ({ cls := "com/example/tallytree/tallytree/BitWriter", name := "reset", desc := "(I)V" } : Jvm.MethodName) prog_9_method_2_code (2 : Nat) (Option.none : Option Jvm.ClassFile.FieldType)).before args0 about1 = true := code_word (m := ⟨2, 1⟩) (meth := k2m1) (c := k2c1) (by decide +kernel) rfl rfl rfl (by decide +kernel)
set_option maxRecDepth 65536 in
theorem w_c4 : (Jvm.Cond.code ({ cls := "com/example/tallytree/tallytree/BitWriter", name := "bytes", desc := "()[B" } : Jvm.MethodName) prog_9_method_6_code (1 : Nat) (Option.some (Jvm.ClassFile.FieldType.array Jvm.ClassFile.FieldType.byte))).before args0 about1 = true := code_word (m := ⟨2, 4⟩) (meth := k2m4) (c := k2c4) (by decide +kernel) rfl rfl rfl (by decide +kernel)
set_option maxRecDepth 65536 in
theorem w_c5 : (Jvm.Cond.code ({ cls := "com/example/tallytree/tallytree/BitWriter", name := "write", desc := "(II)V" } : Jvm.MethodName) prog_9_method_3_code (3 : Nat) (Option.none : Option Jvm.ClassFile.FieldType)).before args0 about1 = true := code_word (m := ⟨2, 2⟩) (meth := k2m2) (c := k2c2) (by decide +kernel) rfl rfl rfl (by decide +kernel)
set_option maxRecDepth 65536 in
theorem w_c6 : (Jvm.Cond.code ({ cls := "com/example/tallytree/tallytree/BitWriter", name := "finish", desc := "()I" } : Jvm.MethodName) prog_9_method_5_code (1 : Nat) (Option.some Jvm.ClassFile.FieldType.int)).before args0 about1 = true := code_word (m := ⟨2, 3⟩) (meth := k2m3) (c := k2c3) (by decide +kernel) rfl rfl rfl (by decide +kernel)
def codes1 : List Jvm.Cond := [Jvm.Cond.code x code maxLocals ret, Jvm.Cond.code ({ cls := "com/example/tallytree/tallytree/BitWriter", name := "<init>", desc := "()V" } : Jvm.MethodName) prog_9_method_1_code (1 : Nat) (Option.none : Option Jvm.ClassFile.FieldType), Jvm.Cond.code ({ cls := "java/lang/Object", name := "<init>", desc := "()V" } : Jvm.MethodName) object_method_1_code (1 : Nat) (Option.none : Option Jvm.ClassFile.FieldType), Jvm.Cond.code ({ cls := "com/example/tallytree/tallytree/BitWriter", name := "reset", desc := "(I)V" } : Jvm.MethodName) prog_9_method_2_code (2 : Nat) (Option.none : Option Jvm.ClassFile.FieldType), Jvm.Cond.code ({ cls := "com/example/tallytree/tallytree/BitWriter", name := "bytes", desc := "()[B" } : Jvm.MethodName) prog_9_method_6_code (1 : Nat) (Option.some (Jvm.ClassFile.FieldType.array Jvm.ClassFile.FieldType.byte)), Jvm.Cond.code ({ cls := "com/example/tallytree/tallytree/BitWriter", name := "write", desc := "(II)V" } : Jvm.MethodName) prog_9_method_3_code (3 : Nat) (Option.none : Option Jvm.ClassFile.FieldType), Jvm.Cond.code ({ cls := "com/example/tallytree/tallytree/BitWriter", name := "finish", desc := "()I" } : Jvm.MethodName) prog_9_method_5_code (1 : Nat) (Option.some Jvm.ClassFile.FieldType.int)]
set_option maxRecDepth 65536 in
theorem codes_eq : words1.filter isCode = codes1 := rfl
theorem w_codes : ∀ c ∈ words1.filter isCode, c.before args0 about1 = true := by
  rw [codes_eq]
  intro c hc
  simp only [codes1, List.mem_cons, List.not_mem_nil, or_false] at hc
  rcases hc with rfl | rfl | rfl | rfl | rfl | rfl | rfl
  · exact w_c0
  · exact w_c1
  · exact w_c2
  · exact w_c3
  · exact w_c4
  · exact w_c5
  · exact w_c6
set_option maxRecDepth 65536 in
theorem w_t1 : (words1.take 24).all (fun c => isCode c || c.before args0 about1) = true := by decide +kernel
set_option maxRecDepth 65536 in
theorem w_t2 : (words1.drop 24).all (fun c => isCode c || c.before args0 about1) = true := by decide +kernel
theorem w_tables : (allAtoms (Jvm.Cond.code x code maxLocals ret :: tables_1)).before args0 about1 = true := by
  rw [allAtoms_all]
  show words1.all (fun c => c.before args0 about1) = true
  refine all_split ?_ w_codes
  rw [← List.take_append_drop 24 words1, List.all_append, w_t1, w_t2]
  rfl
set_option maxRecDepth 65536 in
theorem w_case : (Jvm.Cond.and given_1 narrow_1).before args0 about1 = true := by decide +kernel
theorem w_applies : (headSpec (Jvm.Cond.code x code maxLocals ret :: tables_1) room_1).applies x e0.platform about1 = true :=
  (Spec.applies_iff w_frames).mpr ⟨w_running, w_runnable, w_alone, w_named, w_hears, w_ripe, w_room, w_tables⟩
theorem atStart : AtStart classFile x code maxLocals ret World_1 tables_1 room_1 Calls_1 rest_1 Pre_1 launch0 p0 e0 about1 theMethod args0 below0 :=
  ⟨lists_1, trivial, launch0.admits_env _ _ _, launch0.least_env, fairChoices_fair.cas, fairChoices_fair.clock, w_frames, w_args, w_heap, w_applies, trivial, trivial, w_case⟩
end start1
theorem witness_1 : WitnessClaimed_1 := ⟨start1.p0, start1.e0, start1.about1, start1.theMethod, start1.args0, start1.below0, start1.atStart⟩
end Jvm.Pilot.@@N@@
