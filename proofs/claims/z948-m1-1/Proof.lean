import JvmDerived
import JvmDerived.Pilot.@@N@@Statement
import JvmDerived.Pilot.@@N@@Code
set_option linter.unusedVariables false
set_option linter.unusedSimpArgs false
@@BLOCK:LamKit.lean.txt@@
namespace Jvm.Pilot.@@N@@
open Jvm Jvm.ClassFile Sem Op Lib Jvm.Free Jvm.Stand Jvm.LawKit Jvm.RoadKit Bundle Jvm.Pilot.@@N@@.Jvm.D
section OwnKit
variable {p : Program} {l : Launch} {e : Env} {R : Room} {s : State} {m : MethodId} {args : Array Value} {below : List Frame} {meth : Method} {c : Code} {T : State} {locs : List Loc} {cells slots : Nat} {Z : State} {a0 : Array Value} {h : Heap} {n0 kc ks : Nat} {FE : Outcome → State → List Loc → Prop} {Q : Option Value → Heap → Prop} {pc pc' : Nat} {Ls Ls' : Array Slot} {st : List Value}
/-- from the state S the run comes back to its caller with what Q says, having written nothing below n0 -/
def Goes (p : Program) (e : Env) (below : List Frame) (FE : Outcome → State → List Loc → Prop) (n0 : Nat) (Q : Option Value → Heap → Prop) (S : State) : Prop :=
  ∃ s₂ o, Steps p.tables e below S s₂ ∧ s₂.status = .running ∧ Ended s₂ below o ∧ ∃ v L, o = .returned v ∧ (Fr n0 L ∧ Q v s₂.heap) ∧ FE o s₂ L
/-- the contract of a body -/
def Meets (l : Launch) (y : MethodName) (bytes : ByteArray) (maxL : Nat) (ret : Option FieldType) (ws : List Jvm.Cond) (rm : Room) (kc ks : Nat) (Z : State) (as' : Array Value) (h : Heap) (n0 : Nat) (Q : Option Value → Heap → Prop) : Prop :=
  MetFree l y (head1 (Jvm.Cond.code y bytes maxL ret :: ws) rm) (fun a U => a = as' ∧ Z.Warmed39 U.vm ∧ U.heap = h) (fun _ _ _ _ _ => True) (fun _ U o U' => ∃ v L, o = .returned v ∧ (Fr n0 L ∧ Q v U'.heap) ∧ FrameEnd U o U' L kc ks)
theorem Goes.via {S S' : State} (f : ∀ t, Steps p.tables e below S' t → Steps p.tables e below S t) (g : Goes p e below FE n0 Q S') : Goes p e below FE n0 Q S := by
  obtain ⟨s₂, o, k, r⟩ := g
  exact ⟨s₂, o, f _ k, r⟩
theorem Goes.ret {S : State} {v : Option Value} (X : Stand p l e R s m args below meth c T locs cells slots) (N : Fr n0 locs) (hlk : meth.locks = false) (hv : meth.sig.returnType = none → v = none) (hc : cells ≤ kc) (hs : slots ≤ ks) (hq : Q v T.heap)
    (f : ∀ fs, (∀ (f : JFrame) (acts : List Action), f.method = m → f.locked = none → f.entered = [] → (doReturn e (T.setTop f) acts v).1 = T.setFrames fs) → Steps p.tables e below S (T.setFrames fs)) : Goes p e below (fun o t L => FrameEnd s o t L kc ks) n0 Q S := by
  obtain ⟨fs, hr, hrun, hended, hW, hsame⟩ := X.leave hv hlk
  exact ⟨_, _, f fs hr, hrun, hended, _, _, rfl, ⟨N, hq⟩, ⟨_, rfl⟩, hW, hsame.mono hc hs⟩
theorem own_sz (O : Old Z n0 h) : n0 ≤ h.size := O.1 ▸ O.2.1
theorem Meets.of {y : MethodName} {bytes : ByteArray} {maxL : Nat} {ret : Option FieldType} {ws : List Jvm.Cond} {rm : Room} {as' : Array Value} (hx : plainFor y = true) {F : MethodId → JFrame} (hF : ∀ m, entryFrame m as' maxL = F m)
    (body : ∀ p e s m below meth c T, p.tables.exec = Jvm.exec → c.code = bytes → c.maxLocals = maxL → s.vm.findClass y.cls = some m.cls → meth.name = y.name → meth.sig.returnType = ret → meth.locks = false → Z.Warmed39 s.vm →
      Stand p l e rm s m as' below meth c T [] 0 0 → T.heap = h → Goes p e below (fun o t L => FrameEnd s o t L kc ks) n0 Q (T.setTop (F m))) :
    Meets l y bytes maxL ret ws rm kc ks Z as' h n0 Q := by
  refine MetFree.of_bodySF hx hisR ?_
  intro p e s m args below meth c s₁ Bd hml hP hK
  obtain ⟨rfl, hZ, hh⟩ := hP
  have X0 : Stand p l e rm s m args below meth c s₁ [] 0 0 := Stand.of_body Bd
  have e0 : s₁.heap = h := by rw [← hh, Bd.state]; rfl
  obtain ⟨s₂, o, k, r⟩ := body p e s m below meth c s₁ Bd.exec Bd.bytes hml (findClass_of_methodNamed Bd.named) (name_of_methodNamed Bd.named Bd.method).1 Bd.returns Bd.notSynchronized hZ X0 e0
  exact ⟨s₂, o, castTop (hF m) k, r⟩
theorem own_iloadN (X : Stand p l e R s m args below meth c T locs cells slots) (hx : p.tables.exec = Jvm.exec) {k : Fin 4} {v : Int32} (hd : decode c.code pc = .ok (.iload_n k, 1)) (hl : Ls[k.val]? = some (.val (.int v)))
    (g : Goes p e below FE n0 Q (T.setTop (mkF m (pc + 1) Ls (.int v :: st)))) : Goes p e below FE n0 Q (T.setTop (mkF m pc Ls st)) :=
  Goes.via (fun _ k => XS.iloadN X.here hx rfl hd hl k) g
theorem own_iload (X : Stand p l e R s m args below meth c T locs cells slots) (hx : p.tables.exec = Jvm.exec) {k : Nat} {v : Int32} (hd : decode c.code pc = .ok (.iload k, 2)) (hl : Ls[k]? = some (.val (.int v)))
    (g : Goes p e below FE n0 Q (T.setTop (mkF m (pc + 2) Ls (.int v :: st)))) : Goes p e below FE n0 Q (T.setTop (mkF m pc Ls st)) :=
  Goes.via (fun _ k => XS.iload X.here hx rfl hd hl k) g
theorem own_istoreN (X : Stand p l e R s m args below meth c T locs cells slots) (hx : p.tables.exec = Jvm.exec) {k : Fin 4} {x : Int32} (hd : decode c.code pc = .ok (.istore_n k, 1)) (hl : storeLocals Ls k.val (.int x) = some Ls')
    (g : Goes p e below FE n0 Q (T.setTop (mkF m (pc + 1) Ls' st))) : Goes p e below FE n0 Q (T.setTop (mkF m pc Ls (.int x :: st))) :=
  Goes.via (fun _ k => XS.istoreN X.here hx rfl hd rfl hl k) g
theorem own_istore (X : Stand p l e R s m args below meth c T locs cells slots) (hx : p.tables.exec = Jvm.exec) {k : Nat} {x : Int32} (hd : decode c.code pc = .ok (.istore k, 2)) (hl : storeLocals Ls k (.int x) = some Ls')
    (g : Goes p e below FE n0 Q (T.setTop (mkF m (pc + 2) Ls' st))) : Goes p e below FE n0 Q (T.setTop (mkF m pc Ls (.int x :: st))) :=
  Goes.via (fun _ k => XS.istore X.here hx rfl hd rfl hl k) g
theorem own_lloadN (X : Stand p l e R s m args below meth c T locs cells slots) (hx : p.tables.exec = Jvm.exec) {k : Fin 4} {v : Int64} (hd : decode c.code pc = .ok (.lload_n k, 1)) (hl : Ls[k.val]? = some (.val (.long v)))
    (g : Goes p e below FE n0 Q (T.setTop (mkF m (pc + 1) Ls (.long v :: st)))) : Goes p e below FE n0 Q (T.setTop (mkF m pc Ls st)) :=
  Goes.via (fun _ k => XS.lloadN X.here hx rfl hd hl k) g
theorem own_lload (X : Stand p l e R s m args below meth c T locs cells slots) (hx : p.tables.exec = Jvm.exec) {k : Nat} {v : Int64} (hd : decode c.code pc = .ok (.lload k, 2)) (hl : Ls[k]? = some (.val (.long v)))
    (g : Goes p e below FE n0 Q (T.setTop (mkF m (pc + 2) Ls (.long v :: st)))) : Goes p e below FE n0 Q (T.setTop (mkF m pc Ls st)) :=
  Goes.via (fun _ k => XS.lload X.here hx rfl hd hl k) g
theorem own_lstoreN (X : Stand p l e R s m args below meth c T locs cells slots) (hx : p.tables.exec = Jvm.exec) {k : Fin 4} {x : Int64} (hd : decode c.code pc = .ok (.lstore_n k, 1)) (hl : storeLocals Ls k.val (.long x) = some Ls')
    (g : Goes p e below FE n0 Q (T.setTop (mkF m (pc + 1) Ls' st))) : Goes p e below FE n0 Q (T.setTop (mkF m pc Ls (.long x :: st))) :=
  Goes.via (fun _ k => XS.lstoreN X.here hx rfl hd rfl hl k) g
theorem own_lstore (X : Stand p l e R s m args below meth c T locs cells slots) (hx : p.tables.exec = Jvm.exec) {k : Nat} {x : Int64} (hd : decode c.code pc = .ok (.lstore k, 2)) (hl : storeLocals Ls k (.long x) = some Ls')
    (g : Goes p e below FE n0 Q (T.setTop (mkF m (pc + 2) Ls' st))) : Goes p e below FE n0 Q (T.setTop (mkF m pc Ls (.long x :: st))) :=
  Goes.via (fun _ k => XS.lstore X.here hx rfl hd rfl hl k) g
theorem own_aloadN (X : Stand p l e R s m args below meth c T locs cells slots) (hx : p.tables.exec = Jvm.exec) {k : Fin 4} {v : Value} (hd : decode c.code pc = .ok (.aload_n k, 1)) (hl : Ls[k.val]? = some (.val v)) (hv : v.isRef = true)
    (g : Goes p e below FE n0 Q (T.setTop (mkF m (pc + 1) Ls (v :: st)))) : Goes p e below FE n0 Q (T.setTop (mkF m pc Ls st)) :=
  Goes.via (fun _ k => XS.aloadN X.here hx rfl hd hl hv k) g
theorem own_aload (X : Stand p l e R s m args below meth c T locs cells slots) (hx : p.tables.exec = Jvm.exec) {k : Nat} {v : Value} (hd : decode c.code pc = .ok (.aload k, 2)) (hl : Ls[k]? = some (.val v)) (hv : v.isRef = true)
    (g : Goes p e below FE n0 Q (T.setTop (mkF m (pc + 2) Ls (v :: st)))) : Goes p e below FE n0 Q (T.setTop (mkF m pc Ls st)) :=
  Goes.via (fun _ k => XS.aload X.here hx rfl hd hl hv k) g
theorem own_astoreN (X : Stand p l e R s m args below meth c T locs cells slots) (hx : p.tables.exec = Jvm.exec) {k : Fin 4} {x : Value} (hd : decode c.code pc = .ok (.astore_n k, 1)) (hv : x.isRef = true) (hl : storeLocals Ls k.val x = some Ls')
    (g : Goes p e below FE n0 Q (T.setTop (mkF m (pc + 1) Ls' st))) : Goes p e below FE n0 Q (T.setTop (mkF m pc Ls (x :: st))) :=
  Goes.via (fun _ k => XS.astoreN X.here hx rfl hd rfl hv hl k) g
theorem own_astore (X : Stand p l e R s m args below meth c T locs cells slots) (hx : p.tables.exec = Jvm.exec) {k : Nat} {x : Value} (hd : decode c.code pc = .ok (.astore k, 2)) (hv : x.isRef = true) (hl : storeLocals Ls k x = some Ls')
    (g : Goes p e below FE n0 Q (T.setTop (mkF m (pc + 2) Ls' st))) : Goes p e below FE n0 Q (T.setTop (mkF m pc Ls (x :: st))) :=
  Goes.via (fun _ k => XS.astore X.here hx rfl hd rfl hv hl k) g
theorem own_iconst (X : Stand p l e R s m args below meth c T locs cells slots) (hx : p.tables.exec = Jvm.exec) {i : Int} {v : Int32} (hd : decode c.code pc = .ok (.iconst i, 1)) (hv : Int32.ofInt i = v)
    (g : Goes p e below FE n0 Q (T.setTop (mkF m (pc + 1) Ls (.int v :: st)))) : Goes p e below FE n0 Q (T.setTop (mkF m pc Ls st)) := by
  subst hv
  exact Goes.via (fun _ k => XS.iconst X.here hx rfl hd k) g
theorem own_bipush (X : Stand p l e R s m args below meth c T locs cells slots) (hx : p.tables.exec = Jvm.exec) {i : Int} {v : Int32} (hd : decode c.code pc = .ok (.bipush i, 2)) (hv : (Int8.ofInt i).toInt32 = v)
    (g : Goes p e below FE n0 Q (T.setTop (mkF m (pc + 2) Ls (.int v :: st)))) : Goes p e below FE n0 Q (T.setTop (mkF m pc Ls st)) := by
  subst hv
  exact Goes.via (fun _ k => XS.bipush X.here hx rfl hd k) g
theorem own_sipush (X : Stand p l e R s m args below meth c T locs cells slots) (hx : p.tables.exec = Jvm.exec) {i : Int} {v : Int32} (hd : decode c.code pc = .ok (.sipush i, 3)) (hv : (Int16.ofInt i).toInt32 = v)
    (g : Goes p e below FE n0 Q (T.setTop (mkF m (pc + 3) Ls (.int v :: st)))) : Goes p e below FE n0 Q (T.setTop (mkF m pc Ls st)) := by
  subst hv
  exact Goes.via (fun _ k => XS.sipush X.here hx rfl hd k) g
theorem own_lconst (X : Stand p l e R s m args below meth c T locs cells slots) (hx : p.tables.exec = Jvm.exec) {i : Fin 2} {v : Int64} (hd : decode c.code pc = .ok (.lconst i, 1)) (hv : Int64.ofNat i = v)
    (g : Goes p e below FE n0 Q (T.setTop (mkF m (pc + 1) Ls (.long v :: st)))) : Goes p e below FE n0 Q (T.setTop (mkF m pc Ls st)) := by
  subst hv
  exact Goes.via (fun _ k => XS.lconst X.here hx rfl hd k) g
theorem own_aconst_null (X : Stand p l e R s m args below meth c T locs cells slots) (hx : p.tables.exec = Jvm.exec)  (hd : decode c.code pc = .ok (.aconst_null, 1))
    (g : Goes p e below FE n0 Q (T.setTop (mkF m (pc + 1) Ls (.null :: st)))) : Goes p e below FE n0 Q (T.setTop (mkF m pc Ls st)) :=
  Goes.via (fun _ k => XS.aconstNull X.here hx rfl hd k) g
theorem own_iadd (X : Stand p l e R s m args below meth c T locs cells slots) (hx : p.tables.exec = Jvm.exec) {x y : Int32} (hd : decode c.code pc = .ok (.iadd, 1))
    (g : Goes p e below FE n0 Q (T.setTop (mkF m (pc + 1) Ls (.int (x + y) :: st)))) : Goes p e below FE n0 Q (T.setTop (mkF m pc Ls (.int y :: .int x :: st))) :=
  Goes.via (fun _ k => XS.iadd X.here hx rfl hd rfl k) g
theorem own_isub (X : Stand p l e R s m args below meth c T locs cells slots) (hx : p.tables.exec = Jvm.exec) {x y : Int32} (hd : decode c.code pc = .ok (.isub, 1))
    (g : Goes p e below FE n0 Q (T.setTop (mkF m (pc + 1) Ls (.int (x - y) :: st)))) : Goes p e below FE n0 Q (T.setTop (mkF m pc Ls (.int y :: .int x :: st))) :=
  Goes.via (fun _ k => XS.isub X.here hx rfl hd rfl k) g
theorem own_imul (X : Stand p l e R s m args below meth c T locs cells slots) (hx : p.tables.exec = Jvm.exec) {x y : Int32} (hd : decode c.code pc = .ok (.imul, 1))
    (g : Goes p e below FE n0 Q (T.setTop (mkF m (pc + 1) Ls (.int (x * y) :: st)))) : Goes p e below FE n0 Q (T.setTop (mkF m pc Ls (.int y :: .int x :: st))) :=
  Goes.via (fun _ k => XS.imul X.here hx rfl hd rfl k) g
theorem own_iand (X : Stand p l e R s m args below meth c T locs cells slots) (hx : p.tables.exec = Jvm.exec) {x y : Int32} (hd : decode c.code pc = .ok (.iand, 1))
    (g : Goes p e below FE n0 Q (T.setTop (mkF m (pc + 1) Ls (.int (x &&& y) :: st)))) : Goes p e below FE n0 Q (T.setTop (mkF m pc Ls (.int y :: .int x :: st))) :=
  Goes.via (fun _ k => XS.iand X.here hx rfl hd rfl k) g
theorem own_ior (X : Stand p l e R s m args below meth c T locs cells slots) (hx : p.tables.exec = Jvm.exec) {x y : Int32} (hd : decode c.code pc = .ok (.ior, 1))
    (g : Goes p e below FE n0 Q (T.setTop (mkF m (pc + 1) Ls (.int (x ||| y) :: st)))) : Goes p e below FE n0 Q (T.setTop (mkF m pc Ls (.int y :: .int x :: st))) :=
  Goes.via (fun _ k => XS.ior X.here hx rfl hd rfl k) g
theorem own_ixor (X : Stand p l e R s m args below meth c T locs cells slots) (hx : p.tables.exec = Jvm.exec) {x y : Int32} (hd : decode c.code pc = .ok (.ixor, 1))
    (g : Goes p e below FE n0 Q (T.setTop (mkF m (pc + 1) Ls (.int (x ^^^ y) :: st)))) : Goes p e below FE n0 Q (T.setTop (mkF m pc Ls (.int y :: .int x :: st))) :=
  Goes.via (fun _ k => XS.ixor X.here hx rfl hd rfl k) g
theorem own_idiv (X : Stand p l e R s m args below meth c T locs cells slots) (hx : p.tables.exec = Jvm.exec) {x y : Int32} (hd : decode c.code pc = .ok (.idiv, 1)) (hy : y ≠ 0)
    (g : Goes p e below FE n0 Q (T.setTop (mkF m (pc + 1) Ls (.int (x / y) :: st)))) : Goes p e below FE n0 Q (T.setTop (mkF m pc Ls (.int y :: .int x :: st))) :=
  Goes.via (fun _ k => XS.idiv X.here hx rfl hd rfl hy k) g
theorem own_ineg (X : Stand p l e R s m args below meth c T locs cells slots) (hx : p.tables.exec = Jvm.exec) {x : Int32} (hd : decode c.code pc = .ok (.ineg, 1))
    (g : Goes p e below FE n0 Q (T.setTop (mkF m (pc + 1) Ls (.int (-x) :: st)))) : Goes p e below FE n0 Q (T.setTop (mkF m pc Ls (.int x :: st))) :=
  Goes.via (fun _ k => XS.ineg X.here hx rfl hd rfl k) g
theorem own_ladd (X : Stand p l e R s m args below meth c T locs cells slots) (hx : p.tables.exec = Jvm.exec) {x y : Int64} (hd : decode c.code pc = .ok (.ladd, 1))
    (g : Goes p e below FE n0 Q (T.setTop (mkF m (pc + 1) Ls (.long (x + y) :: st)))) : Goes p e below FE n0 Q (T.setTop (mkF m pc Ls (.long y :: .long x :: st))) :=
  Goes.via (fun _ k => XS.ladd X.here hx rfl hd rfl k) g
theorem own_lsub (X : Stand p l e R s m args below meth c T locs cells slots) (hx : p.tables.exec = Jvm.exec) {x y : Int64} (hd : decode c.code pc = .ok (.lsub, 1))
    (g : Goes p e below FE n0 Q (T.setTop (mkF m (pc + 1) Ls (.long (x - y) :: st)))) : Goes p e below FE n0 Q (T.setTop (mkF m pc Ls (.long y :: .long x :: st))) :=
  Goes.via (fun _ k => XS.lsub X.here hx rfl hd rfl k) g
theorem own_lmul (X : Stand p l e R s m args below meth c T locs cells slots) (hx : p.tables.exec = Jvm.exec) {x y : Int64} (hd : decode c.code pc = .ok (.lmul, 1))
    (g : Goes p e below FE n0 Q (T.setTop (mkF m (pc + 1) Ls (.long (x * y) :: st)))) : Goes p e below FE n0 Q (T.setTop (mkF m pc Ls (.long y :: .long x :: st))) :=
  Goes.via (fun _ k => XS.lmul X.here hx rfl hd rfl k) g
theorem own_land (X : Stand p l e R s m args below meth c T locs cells slots) (hx : p.tables.exec = Jvm.exec) {x y : Int64} (hd : decode c.code pc = .ok (.land, 1))
    (g : Goes p e below FE n0 Q (T.setTop (mkF m (pc + 1) Ls (.long (x &&& y) :: st)))) : Goes p e below FE n0 Q (T.setTop (mkF m pc Ls (.long y :: .long x :: st))) :=
  Goes.via (fun _ k => XS.land X.here hx rfl hd rfl k) g
theorem own_lor (X : Stand p l e R s m args below meth c T locs cells slots) (hx : p.tables.exec = Jvm.exec) {x y : Int64} (hd : decode c.code pc = .ok (.lor, 1))
    (g : Goes p e below FE n0 Q (T.setTop (mkF m (pc + 1) Ls (.long (x ||| y) :: st)))) : Goes p e below FE n0 Q (T.setTop (mkF m pc Ls (.long y :: .long x :: st))) :=
  Goes.via (fun _ k => XS.lor X.here hx rfl hd rfl k) g
theorem own_lxor (X : Stand p l e R s m args below meth c T locs cells slots) (hx : p.tables.exec = Jvm.exec) {x y : Int64} (hd : decode c.code pc = .ok (.lxor, 1))
    (g : Goes p e below FE n0 Q (T.setTop (mkF m (pc + 1) Ls (.long (x ^^^ y) :: st)))) : Goes p e below FE n0 Q (T.setTop (mkF m pc Ls (.long y :: .long x :: st))) :=
  Goes.via (fun _ k => XS.lxor X.here hx rfl hd rfl k) g
theorem own_ldiv (X : Stand p l e R s m args below meth c T locs cells slots) (hx : p.tables.exec = Jvm.exec) {x y : Int64} (hd : decode c.code pc = .ok (.ldiv, 1)) (hy : y ≠ 0)
    (g : Goes p e below FE n0 Q (T.setTop (mkF m (pc + 1) Ls (.long (x / y) :: st)))) : Goes p e below FE n0 Q (T.setTop (mkF m pc Ls (.long y :: .long x :: st))) :=
  Goes.via (fun _ k => XS.ldiv X.here hx rfl hd rfl hy k) g
theorem own_lneg (X : Stand p l e R s m args below meth c T locs cells slots) (hx : p.tables.exec = Jvm.exec) {x : Int64} (hd : decode c.code pc = .ok (.lneg, 1))
    (g : Goes p e below FE n0 Q (T.setTop (mkF m (pc + 1) Ls (.long (-x) :: st)))) : Goes p e below FE n0 Q (T.setTop (mkF m pc Ls (.long x :: st))) :=
  Goes.via (fun _ k => XS.lneg X.here hx rfl hd rfl k) g
theorem own_irem (X : Stand p l e R s m args below meth c T locs cells slots) (hx : p.tables.exec = Jvm.exec) {x y : Int32} (hd : decode c.code pc = .ok (.irem, 1)) (hy : y ≠ 0)
    (g : Goes p e below FE n0 Q (T.setTop (mkF m (pc + 1) Ls (.int (x % y) :: st)))) : Goes p e below FE n0 Q (T.setTop (mkF m pc Ls (.int y :: .int x :: st))) :=
  Goes.via (fun _ k => iremM (g := mkF m pc Ls (.int y :: .int x :: st)) X hx rfl hd rfl hy k) g
theorem own_lrem (X : Stand p l e R s m args below meth c T locs cells slots) (hx : p.tables.exec = Jvm.exec) {x y : Int64} (hd : decode c.code pc = .ok (.lrem, 1)) (hy : y ≠ 0)
    (g : Goes p e below FE n0 Q (T.setTop (mkF m (pc + 1) Ls (.long (x % y) :: st)))) : Goes p e below FE n0 Q (T.setTop (mkF m pc Ls (.long y :: .long x :: st))) := by
  rw [← lrem_mod] at g
  exact Goes.via (fun _ k => XS.lrem X.here hx rfl hd rfl hy k) g
theorem own_ishl (X : Stand p l e R s m args below meth c T locs cells slots) (hx : p.tables.exec = Jvm.exec) {x y : Int32} (hd : decode c.code pc = .ok (.ishl, 1))
    (g : Goes p e below FE n0 Q (T.setTop (mkF m (pc + 1) Ls (.int (x <<< (y &&& 31)) :: st)))) : Goes p e below FE n0 Q (T.setTop (mkF m pc Ls (.int y :: .int x :: st))) :=
  Goes.via (fun _ k => XS.ishl X.here hx rfl hd rfl k) g
theorem own_ishr (X : Stand p l e R s m args below meth c T locs cells slots) (hx : p.tables.exec = Jvm.exec) {x y : Int32} (hd : decode c.code pc = .ok (.ishr, 1))
    (g : Goes p e below FE n0 Q (T.setTop (mkF m (pc + 1) Ls (.int (x >>> (y &&& 31)) :: st)))) : Goes p e below FE n0 Q (T.setTop (mkF m pc Ls (.int y :: .int x :: st))) :=
  Goes.via (fun _ k => XS.ishr X.here hx rfl hd rfl k) g
theorem own_iushr (X : Stand p l e R s m args below meth c T locs cells slots) (hx : p.tables.exec = Jvm.exec) {x y : Int32} (hd : decode c.code pc = .ok (.iushr, 1))
    (g : Goes p e below FE n0 Q (T.setTop (mkF m (pc + 1) Ls (.int ((x.toUInt32 >>> (y &&& 31).toUInt32).toInt32) :: st)))) : Goes p e below FE n0 Q (T.setTop (mkF m pc Ls (.int y :: .int x :: st))) :=
  Goes.via (fun _ k => XS.iushr X.here hx rfl hd rfl k) g
theorem own_lshl (X : Stand p l e R s m args below meth c T locs cells slots) (hx : p.tables.exec = Jvm.exec) {x : Int64} {y : Int32} (hd : decode c.code pc = .ok (.lshl, 1))
    (g : Goes p e below FE n0 Q (T.setTop (mkF m (pc + 1) Ls (.long (x <<< (y &&& 0x3f).toInt64) :: st)))) : Goes p e below FE n0 Q (T.setTop (mkF m pc Ls (.int y :: .long x :: st))) :=
  Goes.via (fun _ k => by jvm_step X.here [X.here.top, hx, hd]; first | exact k | simpa [mkF] using k) g
theorem own_lshr (X : Stand p l e R s m args below meth c T locs cells slots) (hx : p.tables.exec = Jvm.exec) {x : Int64} {y : Int32} (hd : decode c.code pc = .ok (.lshr, 1))
    (g : Goes p e below FE n0 Q (T.setTop (mkF m (pc + 1) Ls (.long (x >>> (y &&& 0x3f).toInt64) :: st)))) : Goes p e below FE n0 Q (T.setTop (mkF m pc Ls (.int y :: .long x :: st))) :=
  Goes.via (fun _ k => by jvm_step X.here [X.here.top, hx, hd]; first | exact k | simpa [mkF] using k) g
theorem own_lushr (X : Stand p l e R s m args below meth c T locs cells slots) (hx : p.tables.exec = Jvm.exec) {x : Int64} {y : Int32} (hd : decode c.code pc = .ok (.lushr, 1))
    (g : Goes p e below FE n0 Q (T.setTop (mkF m (pc + 1) Ls (.long ((x.toUInt64 >>> (y &&& 0x3f).toInt64.toUInt64).toInt64) :: st)))) : Goes p e below FE n0 Q (T.setTop (mkF m pc Ls (.int y :: .long x :: st))) :=
  Goes.via (fun _ k => by jvm_step X.here [X.here.top, hx, hd]; first | exact k | simpa [mkF] using k) g
theorem own_i2l (X : Stand p l e R s m args below meth c T locs cells slots) (hx : p.tables.exec = Jvm.exec) {x : Int32} (hd : decode c.code pc = .ok (.i2l, 1))
    (g : Goes p e below FE n0 Q (T.setTop (mkF m (pc + 1) Ls (.long (x.toInt64) :: st)))) : Goes p e below FE n0 Q (T.setTop (mkF m pc Ls (.int x :: st))) :=
  Goes.via (fun _ k => XS.i2l X.here hx rfl hd rfl k) g
theorem own_l2i (X : Stand p l e R s m args below meth c T locs cells slots) (hx : p.tables.exec = Jvm.exec) {x : Int64} (hd : decode c.code pc = .ok (.l2i, 1))
    (g : Goes p e below FE n0 Q (T.setTop (mkF m (pc + 1) Ls (.int (x.toInt32) :: st)))) : Goes p e below FE n0 Q (T.setTop (mkF m pc Ls (.long x :: st))) :=
  Goes.via (fun _ k => XS.l2i X.here hx rfl hd rfl k) g
theorem own_i2b (X : Stand p l e R s m args below meth c T locs cells slots) (hx : p.tables.exec = Jvm.exec) {x : Int32} (hd : decode c.code pc = .ok (.i2b, 1))
    (g : Goes p e below FE n0 Q (T.setTop (mkF m (pc + 1) Ls (.int (x.toInt8.toInt32) :: st)))) : Goes p e below FE n0 Q (T.setTop (mkF m pc Ls (.int x :: st))) :=
  Goes.via (fun _ k => XS.i2b X.here hx rfl hd rfl k) g
theorem own_i2s (X : Stand p l e R s m args below meth c T locs cells slots) (hx : p.tables.exec = Jvm.exec) {x : Int32} (hd : decode c.code pc = .ok (.i2s, 1))
    (g : Goes p e below FE n0 Q (T.setTop (mkF m (pc + 1) Ls (.int (x.toInt16.toInt32) :: st)))) : Goes p e below FE n0 Q (T.setTop (mkF m pc Ls (.int x :: st))) :=
  Goes.via (fun _ k => XS.i2s X.here hx rfl hd rfl k) g
theorem own_i2c (X : Stand p l e R s m args below meth c T locs cells slots) (hx : p.tables.exec = Jvm.exec) {x : Int32} (hd : decode c.code pc = .ok (.i2c, 1))
    (g : Goes p e below FE n0 Q (T.setTop (mkF m (pc + 1) Ls (.int (x.toUInt32.toUInt16.toUInt32.toInt32) :: st)))) : Goes p e below FE n0 Q (T.setTop (mkF m pc Ls (.int x :: st))) :=
  Goes.via (fun _ k => XS.i2c X.here hx rfl hd rfl k) g
theorem own_lcmp (X : Stand p l e R s m args below meth c T locs cells slots) (hx : p.tables.exec = Jvm.exec) {x y : Int64} (hd : decode c.code pc = .ok (.lcmp, 1))
    (g : Goes p e below FE n0 Q (T.setTop (mkF m (pc + 1) Ls (.int (lcmpW x y) :: st)))) : Goes p e below FE n0 Q (T.setTop (mkF m pc Ls (.long y :: .long x :: st))) :=
  Goes.via (fun _ k => XS.lcmp X.here hx rfl hd rfl k) g
theorem own_dup (X : Stand p l e R s m args below meth c T locs cells slots) (hx : p.tables.exec = Jvm.exec) {x : Value} (hd : decode c.code pc = .ok (.dup, 1)) (hc : x.category = 1)
    (g : Goes p e below FE n0 Q (T.setTop (mkF m (pc + 1) Ls (x :: x :: st)))) : Goes p e below FE n0 Q (T.setTop (mkF m pc Ls (x :: st))) :=
  Goes.via (fun _ k => XS.dup X.here hx rfl hd rfl hc k) g
theorem own_pop (X : Stand p l e R s m args below meth c T locs cells slots) (hx : p.tables.exec = Jvm.exec) {x : Value} (hd : decode c.code pc = .ok (.pop, 1)) (hc : x.category = 1)
    (g : Goes p e below FE n0 Q (T.setTop (mkF m (pc + 1) Ls st))) : Goes p e below FE n0 Q (T.setTop (mkF m pc Ls (x :: st))) :=
  Goes.via (fun _ k => XS.pop X.here hx rfl hd rfl hc k) g
theorem own_dup_x1 (X : Stand p l e R s m args below meth c T locs cells slots) (hx : p.tables.exec = Jvm.exec) {x y : Value} (hd : decode c.code pc = .ok (.dup_x1, 1)) (hc : x.category = 1) (hc' : y.category = 1)
    (g : Goes p e below FE n0 Q (T.setTop (mkF m (pc + 1) Ls (x :: y :: x :: st)))) : Goes p e below FE n0 Q (T.setTop (mkF m pc Ls (x :: y :: st))) :=
  Goes.via (fun _ k => XS.dupX1 X.here hx rfl hd rfl hc hc' k) g
theorem own_dup2 (X : Stand p l e R s m args below meth c T locs cells slots) (hx : p.tables.exec = Jvm.exec) {x y : Value} (hd : decode c.code pc = .ok (.dup2, 1)) (hc : x.category = 1) (hc' : y.category = 1)
    (g : Goes p e below FE n0 Q (T.setTop (mkF m (pc + 1) Ls (x :: y :: x :: y :: st)))) : Goes p e below FE n0 Q (T.setTop (mkF m pc Ls (x :: y :: st))) :=
  Goes.via (fun _ k => Jvm.Free.XT.dup2 X.here hx rfl hd rfl hc hc' k) g
theorem own_iinc (X : Stand p l e R s m args below meth c T locs cells slots) (hx : p.tables.exec = Jvm.exec) {k : Nat} {cst : Int} {x : Int32} (hd : decode c.code pc = .ok (.iinc k cst, 3)) (hl : Ls[k]? = some (.val (.int x))) (hl' : storeLocals Ls k (.int (x + Int32.ofInt cst)) = some Ls')
    (g : Goes p e below FE n0 Q (T.setTop (mkF m (pc + 3) Ls' st))) : Goes p e below FE n0 Q (T.setTop (mkF m pc Ls st)) :=
  Goes.via (fun _ k => XS.iinc X.here hx rfl hd hl hl' k) g
theorem own_goto (X : Stand p l e R s m args below meth c T locs cells slots) (hx : p.tables.exec = Jvm.exec) {o : Int} (hd : decode c.code pc = .ok (.goto o, 3)) (ho : 0 ≤ (pc : Int) + o) (hp : ((pc : Int) + o).toNat = pc')
    (g : Goes p e below FE n0 Q (T.setTop (mkF m pc' Ls st))) : Goes p e below FE n0 Q (T.setTop (mkF m pc Ls st)) :=
  Goes.via (fun _ k => XS.goto X.here hx rfl rfl hd ho hp k) g
theorem own_ifYes (X : Stand p l e R s m args below meth c T locs cells slots) (hx : p.tables.exec = Jvm.exec) {cd : ClassFile.Cond} {o : Int} {x : Int32} (hd : decode c.code pc = .ok (.ifCond cd o, 3)) (hc : ifCond.holds cd x = true) (ho : 0 ≤ (pc : Int) + o) (hp : ((pc : Int) + o).toNat = pc')
    (g : Goes p e below FE n0 Q (T.setTop (mkF m pc' Ls st))) : Goes p e below FE n0 Q (T.setTop (mkF m pc Ls (.int x :: st))) :=
  Goes.via (fun _ k => XS.ifYes X.here hx rfl rfl hd rfl hc ho hp k) g
theorem own_ifNo (X : Stand p l e R s m args below meth c T locs cells slots) (hx : p.tables.exec = Jvm.exec) {cd : ClassFile.Cond} {o : Int} {x : Int32} (hd : decode c.code pc = .ok (.ifCond cd o, 3)) (hc : ifCond.holds cd x = false)
    (g : Goes p e below FE n0 Q (T.setTop (mkF m (pc + 3) Ls st))) : Goes p e below FE n0 Q (T.setTop (mkF m pc Ls (.int x :: st))) :=
  Goes.via (fun _ k => XS.ifNo X.here hx rfl hd rfl hc k) g
theorem own_icmpYes (X : Stand p l e R s m args below meth c T locs cells slots) (hx : p.tables.exec = Jvm.exec) {cd : ClassFile.Cond} {o : Int} {x y : Int32} (hd : decode c.code pc = .ok (.if_icmp cd o, 3)) (hc : if_icmp.holds cd x y = true) (ho : 0 ≤ (pc : Int) + o) (hp : ((pc : Int) + o).toNat = pc')
    (g : Goes p e below FE n0 Q (T.setTop (mkF m pc' Ls st))) : Goes p e below FE n0 Q (T.setTop (mkF m pc Ls (.int y :: .int x :: st))) :=
  Goes.via (fun _ k => XS.icmpYes X.here hx rfl rfl hd rfl hc ho hp k) g
theorem own_icmpNo (X : Stand p l e R s m args below meth c T locs cells slots) (hx : p.tables.exec = Jvm.exec) {cd : ClassFile.Cond} {o : Int} {x y : Int32} (hd : decode c.code pc = .ok (.if_icmp cd o, 3)) (hc : if_icmp.holds cd x y = false)
    (g : Goes p e below FE n0 Q (T.setTop (mkF m (pc + 3) Ls st))) : Goes p e below FE n0 Q (T.setTop (mkF m pc Ls (.int y :: .int x :: st))) :=
  Goes.via (fun _ k => XS.icmpNo X.here hx rfl hd rfl hc k) g
theorem own_ifnullYes (X : Stand p l e R s m args below meth c T locs cells slots) (hx : p.tables.exec = Jvm.exec) {o : Int} (hd : decode c.code pc = .ok (.ifnull o, 3)) (ho : 0 ≤ (pc : Int) + o) (hp : ((pc : Int) + o).toNat = pc')
    (g : Goes p e below FE n0 Q (T.setTop (mkF m pc' Ls st))) : Goes p e below FE n0 Q (T.setTop (mkF m pc Ls (.null :: st))) :=
  Goes.via (fun _ k => XS.ifnullYes X.here hx rfl rfl hd rfl ho hp k) g
theorem own_ifnullNo (X : Stand p l e R s m args below meth c T locs cells slots) (hx : p.tables.exec = Jvm.exec) {o : Int} {b : Addr} (hd : decode c.code pc = .ok (.ifnull o, 3))
    (g : Goes p e below FE n0 Q (T.setTop (mkF m (pc + 3) Ls st))) : Goes p e below FE n0 Q (T.setTop (mkF m pc Ls (.ref b :: st))) :=
  Goes.via (fun _ k => XS.ifnullNo X.here hx rfl hd rfl k) g
theorem own_ifnonnullYes (X : Stand p l e R s m args below meth c T locs cells slots) (hx : p.tables.exec = Jvm.exec) {o : Int} {b : Addr} (hd : decode c.code pc = .ok (.ifnonnull o, 3)) (ho : 0 ≤ (pc : Int) + o) (hp : ((pc : Int) + o).toNat = pc')
    (g : Goes p e below FE n0 Q (T.setTop (mkF m pc' Ls st))) : Goes p e below FE n0 Q (T.setTop (mkF m pc Ls (.ref b :: st))) :=
  Goes.via (fun _ k => XS.ifnonnullYes X.here hx rfl rfl hd rfl ho hp k) g
theorem own_ifnonnullNo (X : Stand p l e R s m args below meth c T locs cells slots) (hx : p.tables.exec = Jvm.exec) {o : Int} (hd : decode c.code pc = .ok (.ifnonnull o, 3))
    (g : Goes p e below FE n0 Q (T.setTop (mkF m (pc + 3) Ls st))) : Goes p e below FE n0 Q (T.setTop (mkF m pc Ls (.null :: st))) :=
  Goes.via (fun _ k => XS.ifnonnullNo X.here hx rfl hd rfl k) g
theorem own_acmp (X : Stand p l e R s m args below meth c T locs cells slots) (hx : p.tables.exec = Jvm.exec) {cd : ACond} {x y : Value} {o : Int} {same : Bool} (h1 : x.isRef = true) (h2 : y.isRef = true) (hd : decode c.code pc = .ok (.if_acmp cd o, 3)) (hq : decide (x = y) = same) (ho : 0 ≤ (pc : Int) + o) (hp : pc' = if acV cd same = true then ((pc : Int) + o).toNat else pc + 3)
    (g : Goes p e below FE n0 Q (T.setTop (mkF m pc' Ls st))) : Goes p e below FE n0 Q (T.setTop (mkF m pc Ls (y :: x :: st))) :=
  Goes.via (fun _ k => Jvm.RoadKit.acmp (g := mkF m pc Ls (y :: x :: st)) X hx rfl h1 h2 rfl hd rfl hq ho hp k) g
theorem own_tswIn (X : Stand p l e R s m args below meth c T locs cells slots) (hx : p.tables.exec = Jvm.exec) {dflt low high : Int} {offs : Array Int} {len : Nat} {o : Int} {i : Int32} (hd : decode c.code pc = .ok (.tableswitch dflt low high offs, len)) (hin : ¬ (i.toInt < low ∨ i.toInt > high)) (hoff : offs[(i.toInt - low).toNat]? = some o) (ho : 0 ≤ (pc : Int) + o) (hp : ((pc : Int) + o).toNat = pc')
    (g : Goes p e below FE n0 Q (T.setTop (mkF m pc' Ls st))) : Goes p e below FE n0 Q (T.setTop (mkF m pc Ls (.int i :: st))) :=
  Goes.via (fun _ k => XS.tswIn X.here hx rfl rfl hd rfl hin hoff ho hp k) g
theorem own_tswOut (X : Stand p l e R s m args below meth c T locs cells slots) (hx : p.tables.exec = Jvm.exec) {dflt low high : Int} {offs : Array Int} {len : Nat} {i : Int32} (hd : decode c.code pc = .ok (.tableswitch dflt low high offs, len)) (hout : i.toInt < low ∨ i.toInt > high) (ho : 0 ≤ (pc : Int) + dflt) (hp : ((pc : Int) + dflt).toNat = pc')
    (g : Goes p e below FE n0 Q (T.setTop (mkF m pc' Ls st))) : Goes p e below FE n0 Q (T.setTop (mkF m pc Ls (.int i :: st))) :=
  Goes.via (fun _ k => XS.tswOut X.here hx rfl rfl hd rfl hout ho hp k) g
theorem own_ldcInt (X : Stand p l e R s m args below meth c T locs cells slots) (hx : p.tables.exec = Jvm.exec) (hZ : Z.Warmed39 s.vm) {own : String} {index : Nat} (hown : s.vm.findClass own = some m.cls) {v : Int32} (w : (Jvm.Cond.constant own index v).before a0 Z = true) (hd : decode c.code pc = .ok (.ldc index, 2))
    (g : Goes p e below FE n0 Q (T.setTop (mkF m (pc + 2) Ls (.int v :: st)))) : Goes p e below FE n0 Q (T.setTop (mkF m pc Ls st)) :=
  Goes.via (X.ldcInt hx hown (mvT hZ w) (g := mkF m pc Ls st) rfl hd) g
theorem own_ldcwInt (X : Stand p l e R s m args below meth c T locs cells slots) (hx : p.tables.exec = Jvm.exec) (hZ : Z.Warmed39 s.vm) {own : String} {index : Nat} (hown : s.vm.findClass own = some m.cls) {v : Int32} (w : (Jvm.Cond.constant own index v).before a0 Z = true) (hd : decode c.code pc = .ok (.ldc_w index, 3))
    (g : Goes p e below FE n0 Q (T.setTop (mkF m (pc + 3) Ls (.int v :: st)))) : Goes p e below FE n0 Q (T.setTop (mkF m pc Ls st)) :=
  Goes.via (X.ldcwInt hx hown (mvT hZ w) (g := mkF m pc Ls st) rfl hd) g
theorem own_ldc2Long (X : Stand p l e R s m args below meth c T locs cells slots) (hx : p.tables.exec = Jvm.exec) (hZ : Z.Warmed39 s.vm) {own : String} {index : Nat} (hown : s.vm.findClass own = some m.cls) {v : Int64} (w : (Jvm.Cond.constantLong own index v).before a0 Z = true) (hd : decode c.code pc = .ok (.ldc2_w index, 3))
    (g : Goes p e below FE n0 Q (T.setTop (mkF m (pc + 3) Ls (.long v :: st)))) : Goes p e below FE n0 Q (T.setTop (mkF m pc Ls st)) :=
  Goes.via (X.ldc2Long hx hown (mvT hZ w) (g := mkF m pc Ls st) rfl hd) g
theorem own_getF (X : Stand p l e R s m args below meth c T locs cells slots) (hx : p.tables.exec = Jvm.exec) (hZ : Z.Warmed39 s.vm) {own : String} {index : Nat} (hown : s.vm.findClass own = some m.cls) {R0 O n d host : String} (w : ((Jvm.Cond.fieldLink own index R0 n d).before a0 Z = true ∨ (Jvm.Cond.fieldLinkNest own index R0 n d host).before a0 Z = true)) (via : Via Z R0 O n d) (eT : T.heap = h) {a : Addr} {v : Value} (F : Fld Z h a O n d v) (hd : decode c.code pc = .ok (.getfield index, 3))
    (k : ∀ T', Stand p l e R s m args below meth c T' locs cells slots → T'.heap = h → Goes p e below FE n0 Q (T'.setTop (mkF m (pc + 3) Ls (v :: st)))) : Goes p e below FE n0 Q (T.setTop (mkF m pc Ls (.ref a :: st))) := by
  obtain ⟨T', X', e', st'⟩ := getF X hx hZ hown w via eT F (g := mkF m pc Ls (.ref a :: st)) rfl rfl hd
  exact Goes.via st' (k T' X' e')
theorem own_getS (X : Stand p l e R s m args below meth c T locs cells slots) (hx : p.tables.exec = Jvm.exec) (hZ : Z.Warmed39 s.vm) {own : String} {index : Nat} (hown : s.vm.findClass own = some m.cls) {R0 O n d host : String} (w : ((Jvm.Cond.fieldLink own index R0 n d).before a0 Z = true ∨ (Jvm.Cond.fieldLinkNest own index R0 n d host).before a0 Z = true)) (via : Via Z R0 O n d) (eT : T.heap = h) {v : Value} (F : Sta Z h O n d v) (hd : decode c.code pc = .ok (.getstatic index, 3))
    (k : ∀ T', Stand p l e R s m args below meth c T' locs cells slots → T'.heap = h → Goes p e below FE n0 Q (T'.setTop (mkF m (pc + 3) Ls (v :: st)))) : Goes p e below FE n0 Q (T.setTop (mkF m pc Ls st)) := by
  obtain ⟨T', X', e', st'⟩ := getS2 X hx hZ hown w via eT F (g := mkF m pc Ls st) rfl hd
  exact Goes.via st' (k T' X' e')
theorem own_initO (X : Stand p l e R s m args below meth c T locs cells slots) (hx : p.tables.exec = Jvm.exec) (hZ : Z.Warmed39 s.vm) {own : String} {index : Nat} (hown : s.vm.findClass own = some m.cls) (w1 : (Jvm.Cond.methodLink own index Lib.objectInit).before a0 Z = true) (w2 : (Jvm.Cond.instanceMethod Lib.objectInit).before a0 Z = true) (w3 : (Jvm.Cond.code Lib.objectInit ⟨#[0xb1]⟩ 1 none).before a0 Z = true) (eT : T.heap = h) (hsize : Ls.size = c.maxLocals) {a : Addr} (hd : decode c.code pc = .ok (.invokespecial index, 3)) (hf : 1 ≤ R.frames) {W : Nat} (hW : (st.map fun v => v.category).sum ≤ W) (hl : W + 12 ≤ R.locals)
    (k : ∀ T', Stand p l e R s m args below meth c T' locs cells slots → T'.heap = h → Goes p e below FE n0 Q (T'.setTop (mkF m (pc + 3) Ls st))) : Goes p e below FE n0 Q (T.setTop (mkF m pc Ls (.ref a :: st))) := by
  obtain ⟨T', X', e', st'⟩ := initO X hx hZ hown w1 w2 w3 eT (g := mkF m pc Ls (.ref a :: st)) rfl hsize rfl hd hf (W := W) (by show 2 * 0 + _ ≤ _; omega) hl
  exact Goes.via st' (k T' X' e')
theorem own_new (X : Stand p l e R s m args below meth c T locs cells slots) (hx : p.tables.exec = Jvm.exec) (hZ : Z.Warmed39 s.vm) {own : String} {index : Nat} (hown : s.vm.findClass own = some m.cls) {C : String} {nn : Nat} (w : (Jvm.Cond.classLink own index C).before a0 Z = true) (wi : (Jvm.Cond.instantiable C nn).before a0 Z = true) (wz : (Jvm.Cond.initialized C).before a0 Z = true) (eT : T.heap = h) (hd : decode c.code pc = .ok (.new index, 3)) (hc : cells + 1 ≤ R.cells) (hl : slots + nn ≤ R.slots)
    (k : ∀ T' h' b, b = h.size → Stand p l e R s m args below meth c T' locs (cells + 1) (slots + nn) → T'.heap = h' → Ext h h' → Exa Z h' b C → (∀ {O nm d : String} {ty : FieldType}, Laid Z a0 C O nm d → parseFieldDescriptor d = some ty → Fld Z h' b O nm d (defaultValue ty)) → Goes p e below FE n0 Q (T'.setTop (mkF m (pc + 3) Ls (.ref b :: st)))) : Goes p e below FE n0 Q (T.setTop (mkF m pc Ls st)) := by
  obtain ⟨T', h', X', e', E', A', D', -, st'⟩ := newO X hx hZ hown w wi wz eT (g := mkF m pc Ls st) rfl hd hc hl
  exact Goes.via st' (k T' h' _ rfl X' e' E' A' D')
theorem own_putF (X : Stand p l e R s m args below meth c T locs cells slots) (hx : p.tables.exec = Jvm.exec) (hZ : Z.Warmed39 s.vm) {own : String} {index : Nat} (hown : s.vm.findClass own = some m.cls) {R0 O n d host C : String} {kk : Nat} {ty : FieldType} (N : Fr n0 locs) (w : ((Jvm.Cond.fieldLink own index R0 n d).before a0 Z = true ∨ (Jvm.Cond.fieldLinkNest own index R0 n d host).before a0 Z = true)) (via : Via Z R0 O n d) (eT : T.heap = h) {a : Addr} {v old : Value} (F : Fld Z h a O n d old) (E : Exa Z h a C) (L : (Jvm.Cond.lays C O n d).before a0 Z = true ∨ ((Jvm.Cond.laysFinal C O n d).before a0 Z = true ∧ own = O ∧ meth.name = "<init>")) (wi : (Jvm.Cond.instantiable C kk).before a0 Z = true) (hty : parseFieldDescriptor d = some ty) (hn : narrow ty v = v) (hf : fits ty v = true) (hge : n0 ≤ a) (hd : decode c.code pc = .ok (.putfield index, 3))
    (k : ∀ T' h' locs', Stand p l e R s m args below meth c T' locs' cells slots → T'.heap = h' → Fr n0 locs' → Wr h h' a (RoadKit.slotOf Z O n d) v → Goes p e below FE n0 Q (T'.setTop (mkF m (pc + 3) Ls st))) : Goes p e below FE n0 Q (T.setTop (mkF m pc Ls (v :: .ref a :: st))) := by
  obtain ⟨T', h', X', e', W', st'⟩ := putF X hx hZ hown w via eT F E L wi hty hn hf (g := mkF m pc Ls (v :: .ref a :: st)) rfl rfl hd
  exact Goes.via st' (k T' h' _ X' e' (Fr.snoc X' N hge) W')
theorem own_castY (X : Stand p l e R s m args below meth c T locs cells slots) (hx : p.tables.exec = Jvm.exec) (hZ : Z.Warmed39 s.vm) {own : String} {index : Nat} (hown : s.vm.findClass own = some m.cls) {K : String} (w : (Jvm.Cond.classLink own index K).before a0 Z = true) (eT : T.heap = h) {a : Addr} (F : Ins Z h a K true) (hd : decode c.code pc = .ok (.checkcast index, 3))
    (k : ∀ T', Stand p l e R s m args below meth c T' locs cells slots → T'.heap = h → Goes p e below FE n0 Q (T'.setTop (mkF m (pc + 3) Ls (.ref a :: st)))) : Goes p e below FE n0 Q (T.setTop (mkF m pc Ls (.ref a :: st))) := by
  obtain ⟨T', X', e', st'⟩ := castY X hx hZ hown w eT F (g := mkF m pc Ls (.ref a :: st)) rfl rfl hd
  exact Goes.via st' (k T' X' e')
theorem own_castNull (X : Stand p l e R s m args below meth c T locs cells slots) (hx : p.tables.exec = Jvm.exec) {index : Nat} (hd : decode c.code pc = .ok (.checkcast index, 3))
    (g : Goes p e below FE n0 Q (T.setTop (mkF m (pc + 3) Ls (.null :: st)))) : Goes p e below FE n0 Q (T.setTop (mkF m pc Ls (.null :: st))) :=
  Goes.via (X.checkcastNull hx (g := mkF m pc Ls (.null :: st)) rfl rfl hd) g
theorem own_instNull (X : Stand p l e R s m args below meth c T locs cells slots) (hx : p.tables.exec = Jvm.exec) {index : Nat} (hd : decode c.code pc = .ok (.instanceof index, 3))
    (g : Goes p e below FE n0 Q (T.setTop (mkF m (pc + 3) Ls (.int 0 :: st)))) : Goes p e below FE n0 Q (T.setTop (mkF m pc Ls (.null :: st))) :=
  Goes.via (X.instanceofNull hx (g := mkF m pc Ls (.null :: st)) rfl rfl hd) g
theorem own_instY (X : Stand p l e R s m args below meth c T locs cells slots) (hx : p.tables.exec = Jvm.exec) (hZ : Z.Warmed39 s.vm) {own : String} {index : Nat} (hown : s.vm.findClass own = some m.cls) {K : String} (w : (Jvm.Cond.classLink own index K).before a0 Z = true) (eT : T.heap = h) {a : Addr} (F : Ins Z h a K true) (hd : decode c.code pc = .ok (.instanceof index, 3))
    (k : ∀ T', Stand p l e R s m args below meth c T' locs cells slots → T'.heap = h → Goes p e below FE n0 Q (T'.setTop (mkF m (pc + 3) Ls (.int 1 :: st)))) : Goes p e below FE n0 Q (T.setTop (mkF m pc Ls (.ref a :: st))) := by
  obtain ⟨T', X', e', st'⟩ := instY X hx hZ hown w eT F (g := mkF m pc Ls (.ref a :: st)) rfl rfl hd
  exact Goes.via st' (k T' X' e')
theorem own_instN (X : Stand p l e R s m args below meth c T locs cells slots) (hx : p.tables.exec = Jvm.exec) (hZ : Z.Warmed39 s.vm) {own : String} {index : Nat} (hown : s.vm.findClass own = some m.cls) {K C : String} (w : (Jvm.Cond.classLink own index K).before a0 Z = true) (eT : T.heap = h) {a : Addr} (E : Exa Z h a C) (F : ∃ c t, Z.vm.findClass C = some c ∧ Z.vm.findClass K = some t ∧ Z.vm.assignable c t = false) (hd : decode c.code pc = .ok (.instanceof index, 3))
    (k : ∀ T', Stand p l e R s m args below meth c T' locs cells slots → T'.heap = h → Goes p e below FE n0 Q (T'.setTop (mkF m (pc + 3) Ls (.int 0 :: st)))) : Goes p e below FE n0 Q (T.setTop (mkF m pc Ls (.ref a :: st))) := by
  obtain ⟨T', X', e', st'⟩ := instNo X hx hZ hown w eT E F (g := mkF m pc Ls (.ref a :: st)) rfl rfl hd
  exact Goes.via st' (k T' X' e')
theorem own_lsw (X : Stand p l e R s m args below meth c T locs cells slots) (hx : p.tables.exec = Jvm.exec) {dflt : Int} {prs : Array (Int × Int)} {len : Nat} {o kk : Int} {i : Int32} (hd : decode c.code pc = .ok (.lookupswitch dflt prs, len)) (hso : (prs.toList.zip (prs.toList.drop 1)).all (fun (a, next) => a.1 < next.1) = true) (hf : prs.find? (·.1 == i.toInt) = some (kk, o)) (ho : 0 ≤ (pc : Int) + o) (hp : ((pc : Int) + o).toNat = pc')
    (g : Goes p e below FE n0 Q (T.setTop (mkF m pc' Ls st))) : Goes p e below FE n0 Q (T.setTop (mkF m pc Ls (.int i :: st))) := by
  subst hp
  exact Goes.via (X.lookupswitchHit hx (g := mkF m pc Ls (.int i :: st)) rfl rfl hd hso hf ho) g
theorem own_clone (X : Stand p l e R s m args below meth c T locs cells slots) (hx : p.tables.exec = Jvm.exec) (hZ : Z.Warmed39 s.vm) {own : String} {index : Nat} (hown : s.vm.findClass own = some m.cls) {ad : String} (w1 : (Jvm.Cond.methodLink own index ⟨ad, "clone", "()Ljava/lang/Object;"⟩).before a0 Z = true) (w2 : (Jvm.Cond.sameMethod ad "java/lang/Object" "clone" "()Ljava/lang/Object;").before a0 Z = true) (w3 : (Jvm.Cond.native ⟨"java/lang/Object", "clone", "()Ljava/lang/Object;"⟩).before a0 Z = true) (w4 : (Jvm.Cond.instanceMethod ⟨"java/lang/Object", "clone", "()Ljava/lang/Object;"⟩).before a0 Z = true) (w5 : (Jvm.Cond.selects ad ⟨ad, "clone", "()Ljava/lang/Object;"⟩ ⟨"java/lang/Object", "clone", "()Ljava/lang/Object;"⟩).before a0 Z = true) (w6 : (Jvm.Cond.castable ad "java/lang/Cloneable").before a0 Z = true) (eT : T.heap = h) {a : Addr} {k : ClassId} {ty : FieldType} {z : Int32} {vs : List Value} {dv : Value} (F : Arv Z h a k ty z vs dv) (E : Exa Z h a ad) (hsize : Ls.size = c.maxLocals) (hd : decode c.code pc = .ok (.invokevirtual index, 3)) (hf : 1 ≤ R.frames) {W cap : Nat} (hW : (st.map fun v => v.category).sum ≤ W) (hl : W + 14 ≤ R.locals) (hcap : z.toNatClampNeg ≤ cap) (hc : cells + 1 ≤ R.cells) (hsl : slots + cap ≤ R.slots)
    (k : ∀ T' h' b, b = h.size → Stand p l e R s m args below meth c T' locs (cells + 1) (slots + cap) → T'.heap = h' → Ext h h' → Arv Z h' b k ty z vs dv → Exa Z h' b ad → Goes p e below FE n0 Q (T'.setTop (mkF m (pc + 3) Ls (.ref b :: st)))) : Goes p e below FE n0 Q (T.setTop (mkF m pc Ls (.ref a :: st))) := by
  obtain ⟨T', h', X', e', E', A', Ex', st'⟩ := cloneH X hx hZ hown w1 w2 w3 w4 w5 w6 eT F.arh E (g := mkF m pc Ls (.ref a :: st)) rfl hsize rfl hd hf (W := W) (cap := cap) (by show 2 * 0 + _ ≤ _; omega) hl hcap hc hsl
  exact Goes.via st' (k T' h' _ rfl X' e' E' A' Ex')
theorem own_iaload (X : Stand p l e R s m args below meth c T locs cells slots) (hx : p.tables.exec = Jvm.exec) (hZ : Z.Warmed39 s.vm) (eT : T.heap = h) {a : Addr} {k : ClassId} {z j : Int32} {vs : List Value} {dv v : Value} (F : Arv Z h a k .int z vs dv) (hj : ¬ j < 0 ∧ j < z) (hv : vs.getD j.toNatClampNeg dv = v) (hd : decode c.code pc = .ok (.iaload, 1))
    (g : Goes p e below FE n0 Q (T.setTop (mkF m (pc + 1) Ls (v :: st)))) : Goes p e below FE n0 Q (T.setTop (mkF m pc Ls (.int j :: .ref a :: st))) := by
  obtain ⟨cl, A, -, S, -, H, -⟩ := F
  exact Goes.via (fun t k => X.iaload hx (j := j) (v := v) (by rw [eT]; exact A.1) (State.isArrayOf_alike hZ.alike A.2.1) A.2.2 (inb_of S hj) (H.at (inb_of S hj) hv) (g := mkF m pc Ls (.int j :: .ref a :: st)) rfl rfl hd t k) g
theorem own_laload (X : Stand p l e R s m args below meth c T locs cells slots) (hx : p.tables.exec = Jvm.exec) (hZ : Z.Warmed39 s.vm) (eT : T.heap = h) {a : Addr} {k : ClassId} {z j : Int32} {vs : List Value} {dv v : Value} (F : Arv Z h a k .long z vs dv) (hj : ¬ j < 0 ∧ j < z) (hv : vs.getD j.toNatClampNeg dv = v) (hd : decode c.code pc = .ok (.laload, 1))
    (g : Goes p e below FE n0 Q (T.setTop (mkF m (pc + 1) Ls (v :: st)))) : Goes p e below FE n0 Q (T.setTop (mkF m pc Ls (.int j :: .ref a :: st))) := by
  obtain ⟨cl, A, -, S, -, H, -⟩ := F
  exact Goes.via (fun t k => X.laload hx (j := j) (v := v) (by rw [eT]; exact A.1) (State.isArrayOf_alike hZ.alike A.2.1) A.2.2 (inb_of S hj) (H.at (inb_of S hj) hv) (g := mkF m pc Ls (.int j :: .ref a :: st)) rfl rfl hd t k) g
theorem own_caload (X : Stand p l e R s m args below meth c T locs cells slots) (hx : p.tables.exec = Jvm.exec) (hZ : Z.Warmed39 s.vm) (eT : T.heap = h) {a : Addr} {k : ClassId} {z j : Int32} {vs : List Value} {dv v : Value} (F : Arv Z h a k .char z vs dv) (hj : ¬ j < 0 ∧ j < z) (hv : vs.getD j.toNatClampNeg dv = v) (hd : decode c.code pc = .ok (.caload, 1))
    (g : Goes p e below FE n0 Q (T.setTop (mkF m (pc + 1) Ls (v :: st)))) : Goes p e below FE n0 Q (T.setTop (mkF m pc Ls (.int j :: .ref a :: st))) := by
  obtain ⟨cl, A, -, S, -, H, -⟩ := F
  exact Goes.via (fun t k => X.caload hx (j := j) (v := v) (by rw [eT]; exact A.1) (State.isArrayOf_alike hZ.alike A.2.1) A.2.2 (inb_of S hj) (H.at (inb_of S hj) hv) (g := mkF m pc Ls (.int j :: .ref a :: st)) rfl rfl hd t k) g
theorem own_baload (X : Stand p l e R s m args below meth c T locs cells slots) (hx : p.tables.exec = Jvm.exec) (hZ : Z.Warmed39 s.vm) (eT : T.heap = h) {a : Addr} {k : ClassId} {z j : Int32} {vs : List Value} {dv v : Value} (F : Arv Z h a k .byte z vs dv) (hj : ¬ j < 0 ∧ j < z) (hv : vs.getD j.toNatClampNeg dv = v) (hd : decode c.code pc = .ok (.baload, 1))
    (g : Goes p e below FE n0 Q (T.setTop (mkF m (pc + 1) Ls (v :: st)))) : Goes p e below FE n0 Q (T.setTop (mkF m pc Ls (.int j :: .ref a :: st))) := by
  obtain ⟨cl, A, -, S, -, H, -⟩ := F
  exact Goes.via (fun t k => X.baloadBytes hx (j := j) (v := v) (by rw [eT]; exact A.1) (State.isArrayOf_alike hZ.alike A.2.1) A.2.2 (inb_of S hj) (H.at (inb_of S hj) hv) (g := mkF m pc Ls (.int j :: .ref a :: st)) rfl rfl hd t k) g
theorem own_aaload (X : Stand p l e R s m args below meth c T locs cells slots) (hx : p.tables.exec = Jvm.exec) (hZ : Z.Warmed39 s.vm) (eT : T.heap = h) {a : Addr} {k : ClassId} {ty : FieldType} {z j : Int32} {vs : List Value} {dv v : Value} (F : Arv Z h a k ty z vs dv) (hty : ty.isReference = true) (hj : ¬ j < 0 ∧ j < z) (hv : vs.getD j.toNatClampNeg dv = v) (hd : decode c.code pc = .ok (.aaload, 1))
    (g : Goes p e below FE n0 Q (T.setTop (mkF m (pc + 1) Ls (v :: st)))) : Goes p e below FE n0 Q (T.setTop (mkF m pc Ls (.int j :: .ref a :: st))) := by
  obtain ⟨cl, A, -, S, -, H, -⟩ := F
  exact Goes.via (fun t k => X.aaload hx (j := j) (v := v) (by rw [eT]; exact A.1) (State.isArrayOf_alike hZ.alike A.2.1) hty A.2.2 (inb_of S hj) (H.at (inb_of S hj) hv) (g := mkF m pc Ls (.int j :: .ref a :: st)) rfl rfl hd t k) g
theorem own_aaloadC (X : Stand p l e R s m args below meth c T locs cells slots) (hx : p.tables.exec = Jvm.exec) (hZ : Z.Warmed39 s.vm) (eT : T.heap = h) {a : Addr} {cl : Cell} {ty : FieldType} {j : Int32} {v : Value} (A : Arr Z h a cl ty) (hty : ty.isReference = true) (hj : ¬ (j < 0 ∨ cl.slots.size ≤ j.toNatClampNeg)) (hv : cl.slots[j.toNatClampNeg]? = some v) (hd : decode c.code pc = .ok (.aaload, 1))
    (g : Goes p e below FE n0 Q (T.setTop (mkF m (pc + 1) Ls (v :: st)))) : Goes p e below FE n0 Q (T.setTop (mkF m pc Ls (.int j :: .ref a :: st))) :=
  Goes.via (fun t k => X.aaload hx (j := j) (v := v) (by rw [eT]; exact A.1) (State.isArrayOf_alike hZ.alike A.2.1) hty A.2.2 hj hv (g := mkF m pc Ls (.int j :: .ref a :: st)) rfl rfl hd t k) g
theorem own_alen (X : Stand p l e R s m args below meth c T locs cells slots) (hx : p.tables.exec = Jvm.exec) (hZ : Z.Warmed39 s.vm) (eT : T.heap = h) {a : Addr} {k : ClassId} {ty : FieldType} {z : Int32} {vs : List Value} {dv : Value} (F : Arv Z h a k ty z vs dv) (hd : decode c.code pc = .ok (.arraylength, 1))
    (g : Goes p e below FE n0 Q (T.setTop (mkF m (pc + 1) Ls (.int z :: st)))) : Goes p e below FE n0 Q (T.setTop (mkF m pc Ls (.ref a :: st))) := by
  obtain ⟨cl, A, -, S, hz, -, -⟩ := F
  rw [← len_of S hz] at g
  exact Goes.via (fun t k => X.arraylength hx (by rw [eT]; exact A.1) (State.isArrayOf_alike hZ.alike A.2.1) (g := mkF m pc Ls (.ref a :: st)) rfl rfl hd t k) g
theorem own_newP (X : Stand p l e R s m args below meth c T locs cells slots) (hx : p.tables.exec = Jvm.exec) (hZ : Z.Warmed39 s.vm) {aty : ArrayType} (w : (Jvm.Cond.arrayClass (newarray.typeOf aty)).before a0 Z = true) (eT : T.heap = h) {n : Int32} (hd : decode c.code pc = .ok (.newarray aty, 2)) (hn : ¬ n < 0) {cap : Nat} (hcap : n.toNatClampNeg ≤ cap) (hb : cap * 8 ≤ 536870912) (hc : cells + 1 ≤ R.cells) (hl : slots + cap ≤ R.slots)
    (k : ∀ T' h' b cA, b = h.size → Stand p l e R s m args below meth c T' locs (cells + 1) (slots + cap) → T'.heap = h' → Ext h h' → Arv Z h' b cA (newarray.typeOf aty) n [] (defaultValue (newarray.typeOf aty)) → Goes p e below FE n0 Q (T'.setTop (mkF m (pc + 2) Ls (.ref b :: st)))) : Goes p e below FE n0 Q (T.setTop (mkF m pc Ls (.int n :: st))) := by
  obtain ⟨T', h', cA, X', e', E', A', st'⟩ := newP X hx hZ w eT (g := mkF m pc Ls (.int n :: st)) rfl hd rfl hn hcap hb hc hl
  exact Goes.via st' (k T' h' _ cA rfl X' e' E' (Arv.new A' hn))
theorem own_newR (X : Stand p l e R s m args below meth c T locs cells slots) (hx : p.tables.exec = Jvm.exec) (hZ : Z.Warmed39 s.vm) {own : String} {index : Nat} (hown : s.vm.findClass own = some m.cls) {C : String} (w1 : (Jvm.Cond.classLink own index C).before a0 Z = true) (w2 : (Jvm.Cond.arrayOver (.object C)).before a0 Z = true) (eT : T.heap = h) {n : Int32} (hd : decode c.code pc = .ok (.anewarray index, 3)) (hn : ¬ n < 0) {cap : Nat} (hcap : n.toNatClampNeg ≤ cap) (hb : cap * 8 ≤ 536870912) (hc : cells + 1 ≤ R.cells) (hl : slots + cap ≤ R.slots)
    (k : ∀ T' h' b cA, b = h.size → Stand p l e R s m args below meth c T' locs (cells + 1) (slots + cap) → T'.heap = h' → Ext h h' → Arv Z h' b cA (.object C) n [] .null → Ovr Z cA C → Goes p e below FE n0 Q (T'.setTop (mkF m (pc + 3) Ls (.ref b :: st)))) : Goes p e below FE n0 Q (T.setTop (mkF m pc Ls (.int n :: st))) := by
  obtain ⟨T', h', cA, X', e', E', A', O', st'⟩ := newR X hx hZ hown w1 w2 eT (g := mkF m pc Ls (.int n :: st)) rfl hd rfl hn hcap hb hc hl
  exact Goes.via st' (k T' h' _ cA rfl X' e' E' (Arv.new A' hn) O')
theorem own_newPE (X : Stand p l e R s m args below meth c T locs cells slots) (hx : p.tables.exec = Jvm.exec) (hZ : Z.Warmed39 s.vm) {aty : ArrayType} (w : (Jvm.Cond.arrayClass (newarray.typeOf aty)).before a0 Z = true) (eT : T.heap = h) {n : Int32} {ad : String} (had : "[" ++ (newarray.typeOf aty).toString = ad) (hd : decode c.code pc = .ok (.newarray aty, 2)) (hn : ¬ n < 0) {cap : Nat} (hcap : n.toNatClampNeg ≤ cap) (hb : cap * 8 ≤ 536870912) (hc : cells + 1 ≤ R.cells) (hl : slots + cap ≤ R.slots)
    (k : ∀ T' h' b cA, b = h.size → Stand p l e R s m args below meth c T' locs (cells + 1) (slots + cap) → T'.heap = h' → Ext h h' → Arv Z h' b cA (newarray.typeOf aty) n [] (defaultValue (newarray.typeOf aty)) → Exa Z h' b ad → Goes p e below FE n0 Q (T'.setTop (mkF m (pc + 2) Ls (.ref b :: st)))) : Goes p e below FE n0 Q (T.setTop (mkF m pc Ls (.int n :: st))) := by
  obtain ⟨T', h', cA, X', e', E', A', Ex', st'⟩ := newPE X hx hZ w eT (g := mkF m pc Ls (.int n :: st)) rfl hd rfl hn hcap hb hc hl had
  exact Goes.via st' (k T' h' _ cA rfl X' e' E' (Arv.new A' hn) Ex')
theorem own_newRE (X : Stand p l e R s m args below meth c T locs cells slots) (hx : p.tables.exec = Jvm.exec) (hZ : Z.Warmed39 s.vm) {own : String} {index : Nat} (hown : s.vm.findClass own = some m.cls) {C ad : String} (had : "[" ++ (FieldType.object C).toString = ad) (w1 : (Jvm.Cond.classLink own index C).before a0 Z = true) (w2 : (Jvm.Cond.arrayOver (.object C)).before a0 Z = true) (eT : T.heap = h) {n : Int32} (hd : decode c.code pc = .ok (.anewarray index, 3)) (hn : ¬ n < 0) {cap : Nat} (hcap : n.toNatClampNeg ≤ cap) (hb : cap * 8 ≤ 536870912) (hc : cells + 1 ≤ R.cells) (hl : slots + cap ≤ R.slots)
    (k : ∀ T' h' b cA, b = h.size → Stand p l e R s m args below meth c T' locs (cells + 1) (slots + cap) → T'.heap = h' → Ext h h' → Arv Z h' b cA (.object C) n [] .null → Ovr Z cA C → Exa Z h' b ad → Goes p e below FE n0 Q (T'.setTop (mkF m (pc + 3) Ls (.ref b :: st)))) : Goes p e below FE n0 Q (T.setTop (mkF m pc Ls (.int n :: st))) := by
  obtain ⟨T', h', cA, X', e', E', A', Ex', O', st'⟩ := newRE X hx hZ hown w1 w2 eT (g := mkF m pc Ls (.int n :: st)) rfl hd rfl hn hcap hb hc hl had
  exact Goes.via st' (k T' h' _ cA rfl X' e' E' (Arv.new A' hn) O' Ex')
theorem own_newRA (X : Stand p l e R s m args below meth c T locs cells slots) (hx : p.tables.exec = Jvm.exec) (hZ : Z.Warmed39 s.vm) {own : String} {index : Nat} (hown : s.vm.findClass own = some m.cls) {C ad : String} {ty : FieldType} (hC : (FieldType.array ty).toString = C) (had : "[" ++ C = ad) (w1 : (Jvm.Cond.classLink own index C).before a0 Z = true) (w2 : (Jvm.Cond.arrayOver (.array ty)).before a0 Z = true) (eT : T.heap = h) {n : Int32} (hd : decode c.code pc = .ok (.anewarray index, 3)) (hn : ¬ n < 0) {cap : Nat} (hcap : n.toNatClampNeg ≤ cap) (hb : cap * 8 ≤ 536870912) (hc : cells + 1 ≤ R.cells) (hl : slots + cap ≤ R.slots)
    (k : ∀ T' h' b cA, b = h.size → Stand p l e R s m args below meth c T' locs (cells + 1) (slots + cap) → T'.heap = h' → Ext h h' → Arv Z h' b cA (.array ty) n [] .null → OvrA Z cA ty C → Goes p e below FE n0 Q (T'.setTop (mkF m (pc + 3) Ls (.ref b :: st)))) : Goes p e below FE n0 Q (T.setTop (mkF m pc Ls (.int n :: st))) := by
  obtain ⟨T', h', cA, X', e', E', A', Ex', O', st'⟩ := newRA X hx hZ hown hC w1 w2 eT (g := mkF m pc Ls (.int n :: st)) rfl hd rfl hn hcap hb hc hl had
  exact Goes.via st' (k T' h' _ cA rfl X' e' E' (Arv.new A' hn) O')
theorem own_iastore (X : Stand p l e R s m args below meth c T locs cells slots) (hx : p.tables.exec = Jvm.exec) (hZ : Z.Warmed39 s.vm) (N : Fr n0 locs) (eT : T.heap = h) {a : Addr} {k : ClassId} {z j : Int32} {vs : List Value} {dv : Value} {x : Int32} (F : Arv Z h a k .int z vs dv) (hj : ¬ j < 0 ∧ j < z) {i : Nat} (hi : j.toNatClampNeg = i) (hlen : i < vs.length) (hge : n0 ≤ a) (hd : decode c.code pc = .ok (.iastore, 1))
    (k : ∀ T' h' locs', Stand p l e R s m args below meth c T' locs' cells slots → T'.heap = h' → Fr n0 locs' → Wr h h' a j.toNatClampNeg (.int x) → Arv Z h' a k .int z (vs.set i (.int x)) dv → Goes p e below FE n0 Q (T'.setTop (mkF m (pc + 1) Ls st))) : Goes p e below FE n0 Q (T.setTop (mkF m pc Ls (.int x :: .int j :: .ref a :: st))) := by
  obtain ⟨cl, A, q1, S, q3, H, G⟩ := F
  obtain ⟨T', h', X', e', W', st'⟩ := stI X hx hZ eT A (j := j) (inb_of S hj) (g := mkF m pc Ls (.int x :: .int j :: .ref a :: st)) rfl rfl hd
  exact Goes.via st' (k T' h' _ X' e' (Fr.snoc X' N hge) W' (Arv.set A q1 S q3 H G rfl W' i hi hlen))
theorem own_lastore (X : Stand p l e R s m args below meth c T locs cells slots) (hx : p.tables.exec = Jvm.exec) (hZ : Z.Warmed39 s.vm) (N : Fr n0 locs) (eT : T.heap = h) {a : Addr} {k : ClassId} {z j : Int32} {vs : List Value} {dv : Value} {x : Int64} (F : Arv Z h a k .long z vs dv) (hj : ¬ j < 0 ∧ j < z) {i : Nat} (hi : j.toNatClampNeg = i) (hlen : i < vs.length) (hge : n0 ≤ a) (hd : decode c.code pc = .ok (.lastore, 1))
    (k : ∀ T' h' locs', Stand p l e R s m args below meth c T' locs' cells slots → T'.heap = h' → Fr n0 locs' → Wr h h' a j.toNatClampNeg (.long x) → Arv Z h' a k .long z (vs.set i (.long x)) dv → Goes p e below FE n0 Q (T'.setTop (mkF m (pc + 1) Ls st))) : Goes p e below FE n0 Q (T.setTop (mkF m pc Ls (.long x :: .int j :: .ref a :: st))) := by
  obtain ⟨cl, A, q1, S, q3, H, G⟩ := F
  obtain ⟨T', h', X', e', W', st'⟩ := stJ X hx hZ eT A (j := j) (inb_of S hj) (g := mkF m pc Ls (.long x :: .int j :: .ref a :: st)) rfl rfl hd
  exact Goes.via st' (k T' h' _ X' e' (Fr.snoc X' N hge) W' (Arv.set A q1 S q3 H G rfl W' i hi hlen))
theorem own_castore (X : Stand p l e R s m args below meth c T locs cells slots) (hx : p.tables.exec = Jvm.exec) (hZ : Z.Warmed39 s.vm) (N : Fr n0 locs) (eT : T.heap = h) {a : Addr} {k : ClassId} {z j : Int32} {vs : List Value} {dv : Value} {x : Int32} (F : Arv Z h a k .char z vs dv) (hj : ¬ j < 0 ∧ j < z) {i : Nat} (hi : j.toNatClampNeg = i) (hlen : i < vs.length) (hge : n0 ≤ a) (hd : decode c.code pc = .ok (.castore, 1))
    (k : ∀ T' h' locs', Stand p l e R s m args below meth c T' locs' cells slots → T'.heap = h' → Fr n0 locs' → Wr h h' a j.toNatClampNeg (.int (nar .char x)) → Arv Z h' a k .char z (vs.set i (.int (nar .char x))) dv → Goes p e below FE n0 Q (T'.setTop (mkF m (pc + 1) Ls st))) : Goes p e below FE n0 Q (T.setTop (mkF m pc Ls (.int x :: .int j :: .ref a :: st))) := by
  obtain ⟨cl, A, q1, S, q3, H, G⟩ := F
  obtain ⟨T', h', X', e', W', st'⟩ := stC X hx hZ eT A (j := j) (inb_of S hj) (g := mkF m pc Ls (.int x :: .int j :: .ref a :: st)) rfl rfl hd
  exact Goes.via st' (k T' h' _ X' e' (Fr.snoc X' N hge) W' (Arv.set A q1 S q3 H G (fits_nar_char _) W' i hi hlen))
theorem own_bastore (X : Stand p l e R s m args below meth c T locs cells slots) (hx : p.tables.exec = Jvm.exec) (hZ : Z.Warmed39 s.vm) (N : Fr n0 locs) (eT : T.heap = h) {a : Addr} {k : ClassId} {z j : Int32} {vs : List Value} {dv : Value} {x : Int32} (F : Arv Z h a k .byte z vs dv) (hj : ¬ j < 0 ∧ j < z) {i : Nat} (hi : j.toNatClampNeg = i) (hlen : i < vs.length) (hge : n0 ≤ a) (hd : decode c.code pc = .ok (.bastore, 1))
    (k : ∀ T' h' locs', Stand p l e R s m args below meth c T' locs' cells slots → T'.heap = h' → Fr n0 locs' → Wr h h' a j.toNatClampNeg (.int (x.toInt8.toInt32)) → Arv Z h' a k .byte z (vs.set i (.int (x.toInt8.toInt32))) dv → Goes p e below FE n0 Q (T'.setTop (mkF m (pc + 1) Ls st))) : Goes p e below FE n0 Q (T.setTop (mkF m pc Ls (.int x :: .int j :: .ref a :: st))) := by
  obtain ⟨cl, A, q1, S, q3, H, G⟩ := F
  obtain ⟨T', h', X', e', W', st'⟩ := stB X hx hZ eT A (j := j) (inb_of S hj) (g := mkF m pc Ls (.int x :: .int j :: .ref a :: st)) rfl rfl hd
  exact Goes.via st' (k T' h' _ X' e' (Fr.snoc X' N hge) W' (Arv.set A q1 S q3 H G (fits_nar_byte _) W' i hi hlen))
theorem own_aastore (X : Stand p l e R s m args below meth c T locs cells slots) (hx : p.tables.exec = Jvm.exec) (hZ : Z.Warmed39 s.vm) (N : Fr n0 locs) (eT : T.heap = h) {a : Addr} {k : ClassId} {ty : FieldType} {z j : Int32} {vs : List Value} {dv v : Value} (F : Arv Z h a k ty z vs dv) (hty : ty.isReference = true) (hfit : fits ty v = true) (hj : ¬ j < 0 ∧ j < z) {i : Nat} (hi : j.toNatClampNeg = i) (hlen : i < vs.length) (hge : n0 ≤ a) (hst : ∀ cl, Arr Z h a cl ty → cl.cls = k → Sto Z h a v) (hd : decode c.code pc = .ok (.aastore, 1))
    (k : ∀ T' h' locs', Stand p l e R s m args below meth c T' locs' cells slots → T'.heap = h' → Fr n0 locs' → Wr h h' a j.toNatClampNeg v → Arv Z h' a k ty z (vs.set i v) dv → Goes p e below FE n0 Q (T'.setTop (mkF m (pc + 1) Ls st))) : Goes p e below FE n0 Q (T.setTop (mkF m pc Ls (v :: .int j :: .ref a :: st))) := by
  obtain ⟨cl, A, q1, S, q3, H, G⟩ := F
  obtain ⟨T', h', X', e', W', st'⟩ := stR X hx hZ eT A (j := j) (inb_of S hj) hty (hst cl A q1) (g := mkF m pc Ls (v :: .int j :: .ref a :: st)) rfl rfl hd
  exact Goes.via st' (k T' h' _ X' e' (Fr.snoc X' N hge) W' (Arv.set A q1 S q3 H G hfit W' i hi hlen))
theorem own_selfsel {y : MethodName} {nn : Nat} (wi : (Jvm.Cond.instantiable y.cls nn).before a0 Z = true) (w2 : (Jvm.Cond.instanceMethod y).before a0 Z = true) (w6 : (Jvm.Cond.privateMethod y).before a0 Z = true) (hy : y.cls ≠ "java/lang/invoke/MethodHandle" ∧ y.cls ≠ "java/lang/invoke/VarHandle") : (Jvm.Cond.selects y.cls y y).before a0 Z = true := by
  obtain ⟨c, k, h1, h2, -, h4, -⟩ := Cond.instantiable_spec wi
  exact selects_self_of_private h1 h2 (by rw [Bool.or_eq_false_iff] at h4; exact h4.1) (Cond.privateMethod_at w6) w2 hy
theorem own_callS (X : Stand p l e R s m args below meth c T locs cells slots) (hx : p.tables.exec = Jvm.exec) (hZ : Z.Warmed39 s.vm) {own : String} {index : Nat} (hown : s.vm.findClass own = some m.cls) {y : MethodName} {bytes : ByteArray} {maxL : Nat} {ret : Option FieldType} {rm : Room} {W : Nat} {Q' : Option Value → Heap → Prop} (w1 : (Jvm.Cond.methodLink own index y).before a0 Z = true) (w2 : (Jvm.Cond.static y).before a0 Z = true) (w3 : (Jvm.Cond.initialized y.cls).before a0 Z = true) (w4 : (Jvm.Cond.code y bytes maxL ret).before a0 Z = true) (hy : y.cls ≠ "java/lang/invoke/MethodHandle" ∧ y.cls ≠ "java/lang/invoke/VarHandle") (hf : rm.frames + 1 ≤ R.frames) (hl : W + (maxL + 11) + rm.locals ≤ R.locals) (N : Fr n0 locs) (eT : T.heap = h) (hsize : Ls.size = c.maxLocals) {argsL rest : List Value} (hlen : ∀ sig, parseMethodDescriptor y.desc = some sig → argsL.length = sig.parameters.length) (hW : (rest.map fun v => v.category).sum ≤ W) (hc : cells + rm.cells ≤ R.cells) (hs : slots + rm.slots ≤ R.slots) (M : Meets l y bytes maxL ret [] rm rm.cells rm.slots Z argsL.toArray h n0 Q') (hst : st = argsL.reverse ++ rest) (hd : decode c.code pc = .ok (.invokestatic index, 3))
    (k : ∀ v T' locs', Stand p l e R s m args below meth c T' locs' (cells + rm.cells) (slots + rm.slots) → Fr n0 locs' → Q' v T'.heap → Goes p e below FE n0 Q (T'.setTop (mkF m (pc + 3) Ls (v.toList ++ rest)))) : Goes p e below FE n0 Q (T.setTop (mkF m pc Ls st)) := by
  subst hst
  obtain ⟨v, _, ⟨T', L', k', n'⟩, -, X', ⟨Lc, hQ, l1, l2, l3⟩, st'⟩ := Jvm.LawKit.callS X hx (y := y) hown (mvT hZ w1) (mvT hZ w2) (mvT hZ w3) (mvT hZ w4) hy (backOf (W := W) (Q := fun v h L => Fr n0 L ∧ Q' v h) M hZ w4 w3 hf hl) (g := mkF m pc Ls (argsL.reverse ++ rest)) rfl hsize (argsL := argsL) (rest := rest) hlen rfl (by show 2 * 0 + _ ≤ _; omega) hd (fun _ _ => ⟨rfl, eT, hc, hs⟩)
  dsimp only [Pt.U, Pt.locs, Pt.cells, Pt.slots] at X' l1 l2 l3 st' hQ
  subst l1 l2 l3
  exact Goes.via st' (k v T' _ X' (Fr.app N hQ.1) hQ.2)
theorem own_special (X : Stand p l e R s m args below meth c T locs cells slots) (hx : p.tables.exec = Jvm.exec) (hZ : Z.Warmed39 s.vm) {own : String} {index : Nat} (hown : s.vm.findClass own = some m.cls) {y : MethodName} {bytes : ByteArray} {maxL : Nat} {rm : Room} {W : Nat} {Q' : Option Value → Heap → Prop} (hy1 : y.name = "<init>") (w1 : (Jvm.Cond.methodLink own index y).before a0 Z = true) (w2 : (Jvm.Cond.instanceMethod y).before a0 Z = true) (w3 : (Jvm.Cond.initialized y.cls).before a0 Z = true) (w4 : (Jvm.Cond.code y bytes maxL none).before a0 Z = true) {a : Addr} (hy : y.cls ≠ "java/lang/invoke/MethodHandle" ∧ y.cls ≠ "java/lang/invoke/VarHandle") (hf : rm.frames + 1 ≤ R.frames) (hl : W + (maxL + 11) + rm.locals ≤ R.locals) (N : Fr n0 locs) (eT : T.heap = h) (hsize : Ls.size = c.maxLocals) {argsL rest : List Value} (hlen : ∀ sig, parseMethodDescriptor y.desc = some sig → argsL.length = sig.parameters.length) (hW : (rest.map fun v => v.category).sum ≤ W) (hc : cells + rm.cells ≤ R.cells) (hs : slots + rm.slots ≤ R.slots) (M : Meets l y bytes maxL none [] rm rm.cells rm.slots Z (.ref a :: argsL).toArray h n0 Q') (hst : st = argsL.reverse ++ .ref a :: rest) (hd : decode c.code pc = .ok (.invokespecial index, 3))
    (k : ∀ v T' locs', Stand p l e R s m args below meth c T' locs' (cells + rm.cells) (slots + rm.slots) → Fr n0 locs' → Q' v T'.heap → Goes p e below FE n0 Q (T'.setTop (mkF m (pc + 3) Ls (v.toList ++ rest)))) : Goes p e below FE n0 Q (T.setTop (mkF m pc Ls st)) := by
  subst hst
  obtain ⟨v, _, ⟨T', L', k', n'⟩, -, X', ⟨Lc, hQ, l1, l2, l3⟩, st'⟩ := X.specialBack hx (y := y) hy1 hown (mvT hZ w1) (mvT hZ w2) (mvT hZ w4) hy (backOf (W := W) (Q := fun v h L => Fr n0 L ∧ Q' v h) M hZ w4 w3 hf hl) (g := mkF m pc Ls (argsL.reverse ++ .ref a :: rest)) rfl hsize (Steps.refl _) (a := a) (argsL := argsL) (rest := rest) hlen rfl (by show 2 * 0 + _ ≤ _; omega) hd (fun _ _ => ⟨rfl, eT, hc, hs⟩)
  dsimp only [Pt.U, Pt.locs, Pt.cells, Pt.slots] at X' l1 l2 l3 st' hQ
  subst l1 l2 l3
  exact Goes.via (fun _ k => st'.trans k) (k v T' _ X' (Fr.app N hQ.1) hQ.2)
theorem own_specialNest (X : Stand p l e R s m args below meth c T locs cells slots) (hx : p.tables.exec = Jvm.exec) (hZ : Z.Warmed39 s.vm) {own : String} {index : Nat} (hown : s.vm.findClass own = some m.cls) {y : MethodName} {bytes : ByteArray} {maxL : Nat} {rm : Room} {W : Nat} {Q' : Option Value → Heap → Prop} {host : String} (hy1 : y.name = "<init>") (w1 : (Jvm.Cond.methodLinkNest own index y host).before a0 Z = true) (w2 : (Jvm.Cond.instanceMethod y).before a0 Z = true) (w3 : (Jvm.Cond.initialized y.cls).before a0 Z = true) (w4 : (Jvm.Cond.code y bytes maxL none).before a0 Z = true) {a : Addr} (hy : y.cls ≠ "java/lang/invoke/MethodHandle" ∧ y.cls ≠ "java/lang/invoke/VarHandle") (hf : rm.frames + 1 ≤ R.frames) (hl : W + (maxL + 11) + rm.locals ≤ R.locals) (N : Fr n0 locs) (eT : T.heap = h) (hsize : Ls.size = c.maxLocals) {argsL rest : List Value} (hlen : ∀ sig, parseMethodDescriptor y.desc = some sig → argsL.length = sig.parameters.length) (hW : (rest.map fun v => v.category).sum ≤ W) (hc : cells + rm.cells ≤ R.cells) (hs : slots + rm.slots ≤ R.slots) (M : Meets l y bytes maxL none [] rm rm.cells rm.slots Z (.ref a :: argsL).toArray h n0 Q') (hst : st = argsL.reverse ++ .ref a :: rest) (hd : decode c.code pc = .ok (.invokespecial index, 3))
    (k : ∀ v T' locs', Stand p l e R s m args below meth c T' locs' (cells + rm.cells) (slots + rm.slots) → Fr n0 locs' → Q' v T'.heap → Goes p e below FE n0 Q (T'.setTop (mkF m (pc + 3) Ls (v.toList ++ rest)))) : Goes p e below FE n0 Q (T.setTop (mkF m pc Ls st)) := by
  subst hst
  obtain ⟨v, _, ⟨T', L', k', n'⟩, -, X', ⟨Lc, hQ, l1, l2, l3⟩, st'⟩ := X.specialBackNest hx (y := y) hy1 hown (Cond.methodLinkNest_wide hZ w1 :) (mvT hZ w2) (mvT hZ w4) hy (backOf (W := W) (Q := fun v h L => Fr n0 L ∧ Q' v h) M hZ w4 w3 hf hl) (g := mkF m pc Ls (argsL.reverse ++ .ref a :: rest)) rfl hsize (Steps.refl _) (a := a) (argsL := argsL) (rest := rest) hlen rfl (by show 2 * 0 + _ ≤ _; omega) hd (fun _ _ => ⟨rfl, eT, hc, hs⟩)
  dsimp only [Pt.U, Pt.locs, Pt.cells, Pt.slots] at X' l1 l2 l3 st' hQ
  subst l1 l2 l3
  exact Goes.via (fun _ k => st'.trans k) (k v T' _ X' (Fr.app N hQ.1) hQ.2)
theorem own_virtual (X : Stand p l e R s m args below meth c T locs cells slots) (hx : p.tables.exec = Jvm.exec) (hZ : Z.Warmed39 s.vm) {own : String} {index : Nat} (hown : s.vm.findClass own = some m.cls) {y : MethodName} {bytes : ByteArray} {maxL : Nat} {ret : Option FieldType} {rm : Room} {W : Nat} {Q' : Option Value → Heap → Prop} {z : MethodName} {C : String} (w1 : (Jvm.Cond.methodLink own index y).before a0 Z = true) (w2 : (Jvm.Cond.declares y).before a0 Z = true) (hnf : NotFace s y) (w5 : (Jvm.Cond.selects C y z).before a0 Z = true) (w6 : (Jvm.Cond.instanceMethod z).before a0 Z = true) (w3 : (Jvm.Cond.initialized z.cls).before a0 Z = true) (w4 : (Jvm.Cond.code z bytes maxL ret).before a0 Z = true) {a : Addr} (E : Exa Z h a C) (hy : y.cls ≠ "java/lang/invoke/MethodHandle" ∧ y.cls ≠ "java/lang/invoke/VarHandle") (hf : rm.frames + 1 ≤ R.frames) (hl : W + (maxL + 11) + rm.locals ≤ R.locals) (N : Fr n0 locs) (eT : T.heap = h) (hsize : Ls.size = c.maxLocals) {argsL rest : List Value} (hlen : ∀ sig, parseMethodDescriptor y.desc = some sig → argsL.length = sig.parameters.length) (hW : (rest.map fun v => v.category).sum ≤ W) (hc : cells + rm.cells ≤ R.cells) (hs : slots + rm.slots ≤ R.slots) (M : Meets l z bytes maxL ret [] rm rm.cells rm.slots Z (.ref a :: argsL).toArray h n0 Q') (hst : st = argsL.reverse ++ .ref a :: rest) (hd : decode c.code pc = .ok (.invokevirtual index, 3))
    (k : ∀ v T' locs', Stand p l e R s m args below meth c T' locs' (cells + rm.cells) (slots + rm.slots) → Fr n0 locs' → Q' v T'.heap → Goes p e below FE n0 Q (T'.setTop (mkF m (pc + 3) Ls (v.toList ++ rest)))) : Goes p e below FE n0 Q (T.setTop (mkF m pc Ls st)) := by
  subst hst
  obtain ⟨cq, kq, qa, qb, qc⟩ := isOf hZ eT E
  obtain ⟨v, _, ⟨T', L', k', n'⟩, -, X', ⟨Lc, hQ, l1, l2, l3⟩, st'⟩ := X.virtualBack hx (y := y) (z := z) hown (mvT hZ w1) (mvT hZ w2) hnf (mvT hZ w5) (mvT hZ w6) hy (backOf (W := W) (Q := fun v h L => Fr n0 L ∧ Q' v h) M hZ w4 w3 hf hl) qa qc (g := mkF m pc Ls (argsL.reverse ++ .ref a :: rest)) rfl hsize (Steps.refl _) (argsL := argsL) (rest := rest) hlen rfl (by show 2 * 0 + _ ≤ _; omega) hd (fun _ _ => ⟨rfl, eT, hc, hs⟩)
  dsimp only [Pt.U, Pt.locs, Pt.cells, Pt.slots] at X' l1 l2 l3 st' hQ
  subst l1 l2 l3
  exact Goes.via (fun _ k => st'.trans k) (k v T' _ X' (Fr.app N hQ.1) hQ.2)
theorem own_private (X : Stand p l e R s m args below meth c T locs cells slots) (hx : p.tables.exec = Jvm.exec) (hZ : Z.Warmed39 s.vm) {own : String} {index : Nat} (hown : s.vm.findClass own = some m.cls) {y : MethodName} {bytes : ByteArray} {maxL : Nat} {ret : Option FieldType} {rm : Room} {W : Nat} {Q' : Option Value → Heap → Prop} (w1 : (Jvm.Cond.methodLink own index y).before a0 Z = true) (w2 : (Jvm.Cond.instanceMethod y).before a0 Z = true) {nn : Nat} (w5 : (Jvm.Cond.instantiable y.cls nn).before a0 Z = true) (w6 : (Jvm.Cond.privateMethod y).before a0 Z = true) (w3 : (Jvm.Cond.initialized y.cls).before a0 Z = true) (w4 : (Jvm.Cond.code y bytes maxL ret).before a0 Z = true) {a : Addr} {C : String} (E : Exa Z h a C) (hy : y.cls ≠ "java/lang/invoke/MethodHandle" ∧ y.cls ≠ "java/lang/invoke/VarHandle") (hf : rm.frames + 1 ≤ R.frames) (hl : W + (maxL + 11) + rm.locals ≤ R.locals) (N : Fr n0 locs) (eT : T.heap = h) (hsize : Ls.size = c.maxLocals) {argsL rest : List Value} (hlen : ∀ sig, parseMethodDescriptor y.desc = some sig → argsL.length = sig.parameters.length) (hW : (rest.map fun v => v.category).sum ≤ W) (hc : cells + rm.cells ≤ R.cells) (hs : slots + rm.slots ≤ R.slots) (M : Meets l y bytes maxL ret [] rm rm.cells rm.slots Z (.ref a :: argsL).toArray h n0 Q') (hst : st = argsL.reverse ++ .ref a :: rest) (hd : decode c.code pc = .ok (.invokevirtual index, 3))
    (k : ∀ v T' locs', Stand p l e R s m args below meth c T' locs' (cells + rm.cells) (slots + rm.slots) → Fr n0 locs' → Q' v T'.heap → Goes p e below FE n0 Q (T'.setTop (mkF m (pc + 3) Ls (v.toList ++ rest)))) : Goes p e below FE n0 Q (T.setTop (mkF m pc Ls st)) := by
  subst hst
  obtain ⟨cq, qa, qb⟩ := E.cell
  obtain ⟨v, _, ⟨T', L', k', n'⟩, -, X', ⟨Lc, hQ, l1, l2, l3⟩, st'⟩ := X.privateBack hx (y := y) hown (mvT hZ w1) (mvT hZ w2) (mvT hZ (own_selfsel w5 w2 w6 hy)) (Cond.privateMethod_at (mvP hZ w6 (args := #[]))) (mvT hZ w4) hy (backOf (W := W) (Q := fun v h L => Fr n0 L ∧ Q' v h) M hZ w4 w3 hf hl) (g := mkF m pc Ls (argsL.reverse ++ .ref a :: rest)) rfl hsize (Steps.refl _) (a := a) (by rw [eT]; exact qa) qb (argsL := argsL) (rest := rest) hlen rfl (by show 2 * 0 + _ ≤ _; omega) hd (fun _ _ => ⟨rfl, eT, hc, hs⟩)
  dsimp only [Pt.U, Pt.locs, Pt.cells, Pt.slots] at X' l1 l2 l3 st' hQ
  subst l1 l2 l3
  exact Goes.via (fun _ k => st'.trans k) (k v T' _ X' (Fr.app N hQ.1) hQ.2)
theorem own_virtualUp (X : Stand p l e R s m args below meth c T locs cells slots) (hx : p.tables.exec = Jvm.exec) (hZ : Z.Warmed39 s.vm) {own : String} {index : Nat} (hown : s.vm.findClass own = some m.cls) {y : MethodName} {bytes : ByteArray} {maxL : Nat} {ret : Option FieldType} {rm : Room} {W : Nat} {Q' : Option Value → Heap → Prop} {z : MethodName} {C owner : String} (w1 : (Jvm.Cond.methodLink own index y).before a0 Z = true) (w2 : (Jvm.Cond.sameMethod y.cls owner y.name y.desc).before a0 Z = true) (w7 : (Jvm.Cond.declares ⟨owner, y.name, y.desc⟩).before a0 Z = true) (w5 : (Jvm.Cond.selects C y z).before a0 Z = true) (w6 : (Jvm.Cond.instanceMethod z).before a0 Z = true) (w3 : (Jvm.Cond.initialized z.cls).before a0 Z = true) (w4 : (Jvm.Cond.code z bytes maxL ret).before a0 Z = true) {a : Addr} (E : Exa Z h a C) (hy : owner ≠ "java/lang/invoke/MethodHandle" ∧ owner ≠ "java/lang/invoke/VarHandle") (hf : rm.frames + 1 ≤ R.frames) (hl : W + (maxL + 11) + rm.locals ≤ R.locals) (N : Fr n0 locs) (eT : T.heap = h) (hsize : Ls.size = c.maxLocals) {argsL rest : List Value} (hlen : ∀ sig, parseMethodDescriptor y.desc = some sig → argsL.length = sig.parameters.length) (hW : (rest.map fun v => v.category).sum ≤ W) (hc : cells + rm.cells ≤ R.cells) (hs : slots + rm.slots ≤ R.slots) (M : Meets l z bytes maxL ret [] rm rm.cells rm.slots Z (.ref a :: argsL).toArray h n0 Q') (hst : st = argsL.reverse ++ .ref a :: rest) (hd : decode c.code pc = .ok (.invokevirtual index, 3))
    (k : ∀ v T' locs', Stand p l e R s m args below meth c T' locs' (cells + rm.cells) (slots + rm.slots) → Fr n0 locs' → Q' v T'.heap → Goes p e below FE n0 Q (T'.setTop (mkF m (pc + 3) Ls (v.toList ++ rest)))) : Goes p e below FE n0 Q (T.setTop (mkF m pc Ls st)) := by
  subst hst
  obtain ⟨cq, kq, qa, qb, qc⟩ := isOf hZ eT E
  obtain ⟨v, _, ⟨T', L', k', n'⟩, -, X', ⟨Lc, hQ, l1, l2, l3⟩, st'⟩ := X.virtualBackUp hx (x := y) (y := z) hown (mvT hZ w1) (mvT hZ w2) (mvT hZ w7 (by simp [Cond.onTables, Cond.keepsFace, Cond.keeps, Cond.steady, Cond.faceAtom, hy.1, hy.2])) hy (mvT hZ w5) (mvT hZ w6) (backOf (W := W) (Q := fun v h L => Fr n0 L ∧ Q' v h) M hZ w4 w3 hf hl) qa qc (g := mkF m pc Ls (argsL.reverse ++ .ref a :: rest)) rfl hsize (Steps.refl _) (argsL := argsL) (rest := rest) hlen rfl (by show 2 * 0 + _ ≤ _; omega) hd (fun _ _ => ⟨rfl, eT, hc, hs⟩)
  dsimp only [Pt.U, Pt.locs, Pt.cells, Pt.slots] at X' l1 l2 l3 st' hQ
  subst l1 l2 l3
  exact Goes.via (fun _ k => st'.trans k) (k v T' _ X' (Fr.app N hQ.1) hQ.2)
theorem own_iface (X : Stand p l e R s m args below meth c T locs cells slots) (hx : p.tables.exec = Jvm.exec) (hZ : Z.Warmed39 s.vm) {own : String} {index : Nat} (hown : s.vm.findClass own = some m.cls) {y : MethodName} {bytes : ByteArray} {maxL : Nat} {ret : Option FieldType} {rm : Room} {W : Nat} {Q' : Option Value → Heap → Prop} {z : MethodName} {C : String} {count : Nat} (w1 : (Jvm.Cond.methodLink own index y).before a0 Z = true) (w2 : (Jvm.Cond.declares y).before a0 Z = true) (w7 : (Jvm.Cond.interfaceMethod y.cls y.cls y.name y.desc).before a0 Z = true) (w5 : (Jvm.Cond.selects C y z).before a0 Z = true) (w6 : (Jvm.Cond.instanceMethod z).before a0 Z = true) (w8 : (Jvm.Cond.publicMethod z).before a0 Z = true) (w9 : (Jvm.Cond.unhidden C y.name y.desc).before a0 Z = true) (wc : (Jvm.Cond.castable C y.cls).before a0 Z = true) (w3 : (Jvm.Cond.initialized z.cls).before a0 Z = true) (w4 : (Jvm.Cond.code z bytes maxL ret).before a0 Z = true) {a : Addr} (E : Exa Z h a C) (hy : y.cls ≠ "java/lang/invoke/MethodHandle" ∧ y.cls ≠ "java/lang/invoke/VarHandle") (hf : rm.frames + 1 ≤ R.frames) (hl : W + (maxL + 11) + rm.locals ≤ R.locals) (N : Fr n0 locs) (eT : T.heap = h) (hsize : Ls.size = c.maxLocals) {argsL rest : List Value} (hlen : ∀ sig, parseMethodDescriptor y.desc = some sig → argsL.length = sig.parameters.length) (hW : (rest.map fun v => v.category).sum ≤ W) (hc : cells + rm.cells ≤ R.cells) (hs : slots + rm.slots ≤ R.slots) (M : Meets l z bytes maxL ret [] rm rm.cells rm.slots Z (.ref a :: argsL).toArray h n0 Q') (hst : st = argsL.reverse ++ .ref a :: rest) (hd : decode c.code pc = .ok (.invokeinterface index count, 5))
    (k : ∀ v T' locs', Stand p l e R s m args below meth c T' locs' (cells + rm.cells) (slots + rm.slots) → Fr n0 locs' → Q' v T'.heap → Goes p e below FE n0 Q (T'.setTop (mkF m (pc + 5) Ls (v.toList ++ rest)))) : Goes p e below FE n0 Q (T.setTop (mkF m pc Ls st)) := by
  subst hst
  obtain ⟨cq, kq, qa, qb, qc⟩ := isOf hZ eT E
  obtain ⟨v, _, ⟨T', L', k', n'⟩, -, X', ⟨Lc, hQ, l1, l2, l3⟩, st'⟩ := X.interfaceBack hx (xi := y) (y := z) hown (mvT hZ w1) (mvT hZ w2) (mvT hZ w7 (by simp [Cond.onTables, Cond.keepsFace, Cond.keeps, Cond.steady, Cond.faceAtom, hy.1, hy.2])) (mvT hZ w5) (mvT hZ w6) (mvT hZ w8) (mvT hZ w9) (mvT hZ wc) hy (backOf (W := W) (Q := fun v h L => Fr n0 L ∧ Q' v h) M hZ w4 w3 hf hl) qa qb qc (g := mkF m pc Ls (argsL.reverse ++ .ref a :: rest)) rfl hsize (Steps.refl _) (argsL := argsL) (rest := rest) hlen rfl (by show 2 * 0 + _ ≤ _; omega) hd (fun _ _ => ⟨rfl, eT, hc, hs⟩)
  dsimp only [Pt.U, Pt.locs, Pt.cells, Pt.slots] at X' l1 l2 l3 st' hQ
  subst l1 l2 l3
  exact Goes.via (fun _ k => st'.trans k) (k v T' _ X' (Fr.app N hQ.1) hQ.2)
theorem own_gcls (X : Stand p l e R s m args below meth c T locs cells slots) (hx : p.tables.exec = Jvm.exec) (hZ : Z.Warmed39 s.vm) {own : String} {index : Nat} (hown : s.vm.findClass own = some m.cls) {C : String} (w1 : (Jvm.Cond.methodLink own index ⟨"java/lang/Object", "getClass", "()Ljava/lang/Class;"⟩).before a0 Z = true) (w2 : (Jvm.Cond.declares ⟨"java/lang/Object", "getClass", "()Ljava/lang/Class;"⟩).before a0 Z = true) (w3 : (Jvm.Cond.noSuperclass "java/lang/Object").before a0 Z = true) (w4 : (Jvm.Cond.selects C ⟨"java/lang/Object", "getClass", "()Ljava/lang/Class;"⟩ ⟨"java/lang/Object", "getClass", "()Ljava/lang/Class;"⟩).before a0 Z = true) (w5 : (Jvm.Cond.instanceMethod ⟨"java/lang/Object", "getClass", "()Ljava/lang/Class;"⟩).before a0 Z = true) (w6 : (Jvm.Cond.native ⟨"java/lang/Object", "getClass", "()Ljava/lang/Class;"⟩).before a0 Z = true) (eT : T.heap = h) {a mr : Addr} (E : Exa Z h a C) (M : ∃ (c : ClassId) (k : Class), Z.vm.findClass C = some c ∧ Z.vm.classes[c]? = some k ∧ k.mirror = some mr) (hsize : Ls.size = c.maxLocals) (hd : decode c.code pc = .ok (.invokevirtual index, 3)) (hf : 1 ≤ R.frames) {W : Nat} (hW : (st.map fun v => v.category).sum ≤ W) (hl : W + 14 ≤ R.locals)
    (k : ∀ T', Stand p l e R s m args below meth c T' locs cells slots → T'.heap = h → Goes p e below FE n0 Q (T'.setTop (mkF m (pc + 3) Ls (.ref mr :: st)))) : Goes p e below FE n0 Q (T.setTop (mkF m pc Ls (.ref a :: st))) := by
  obtain ⟨cB, kB, i1, i2, i3⟩ := isOf hZ eT E
  obtain ⟨cc, kc, m1, m2, m3⟩ := M
  rw [hZ.alike.findClass] at i1
  cases i1.symm.trans m1
  obtain ⟨k', q, ek⟩ := hZ.alike.2.2 _ _ m2
  obtain ⟨vm', X', st'⟩ := X.getClassOf hx hown (mvT hZ w1) (mvT hZ w2) (nf_top (args := #[]) (mvT hZ w3)) (mvT hZ w4) (mvT hZ w5) (mvT hZ w6) (by rw [hZ.alike.findClass]; exact m1) i3 q (by rw [ek]; exact m3) (g := mkF m pc Ls (.ref a :: st)) rfl hsize rfl hd hf (by show 2 * 0 + _ + (1 + 2 + 11) ≤ _; omega)
  exact Goes.via st' (k _ X' eT)
theorem own_ldcMir (X : Stand p l e R s m args below meth c T locs cells slots) (hx : p.tables.exec = Jvm.exec) (hZ : Z.Warmed39 s.vm) {own : String} {index : Nat} (hown : s.vm.findClass own = some m.cls) {C : String} (w : (Jvm.Cond.classLink own index C).before a0 Z = true) (eT : T.heap = h) {mr : Addr} (M : ∃ (c : ClassId) (k : Class), Z.vm.findClass C = some c ∧ Z.vm.classes[c]? = some k ∧ k.mirror = some mr) (hd : decode c.code pc = .ok (.ldc index, 2))
    (k : ∀ T', Stand p l e R s m args below meth c T' locs cells slots → T'.heap = h → Goes p e below FE n0 Q (T'.setTop (mkF m (pc + 2) Ls (.ref mr :: st)))) : Goes p e below FE n0 Q (T.setTop (mkF m pc Ls st)) := by
  obtain ⟨cc, kc, m1, m2, m3⟩ := M
  obtain ⟨k', q, ek⟩ := hZ.alike.2.2 _ _ m2
  have hf' : s.vm.findClass C = some cc := by rw [hZ.alike.findClass]; exact m1
  obtain ⟨vm', X', st'⟩ := X.ldcMirror hx hown (mv hZ w) (a := mr) (by
    have hm : k'.mirror = some mr := by first | (rw [ek]; exact m3) | (rw [← ek]; exact m3) | (have := congrArg Class.mirror ek; simp at this; rw [← this]; exact m3) | (have := congrArg Class.mirror ek; simp at this; rw [this]; exact m3)
    show ((s.vm.findClass C).bind fun c => (s.vm.classes[c]?).bind fun k => k.mirror.bind fun a => some (Value.ref a)) = some (.ref mr)
    rw [hf']
    show ((s.vm.classes[cc]?).bind fun k => k.mirror.bind fun a => some (Value.ref a)) = some (.ref mr)
    rw [q]
    show (k'.mirror.bind fun a => some (Value.ref a)) = some (.ref mr)
    rw [hm]
    rfl) (g := mkF m pc Ls st) rfl hd
  exact Goes.via st' (k _ X' eT)
theorem own_cpA (X : Stand p l e R s m args below meth c T locs cells slots) (hx : p.tables.exec = Jvm.exec) (hZ : Z.Warmed39 s.vm) {own : String} {index : Nat} (hown : s.vm.findClass own = some m.cls) (w1 : (Jvm.Cond.methodLink own index Jvm.Stand.acN).before a0 Z = true) (w2 : (Jvm.Cond.native Jvm.Stand.acN).before a0 Z = true) (w3 : (Jvm.Cond.static Jvm.Stand.acN).before a0 Z = true) (w4 : (Jvm.Cond.initialized "java/lang/System").before a0 Z = true) (eT : T.heap = h) {a b : Addr} {k k' : ClassId} {ty ty' : FieldType} {z z' sp dp nn : Int32} {vs vd us vr : List Value} {dv dd : Value} (A : Arv Z h a k ty z vs dv) (B : Arv Z h b k' ty' z' vd dd) (hty : (ty = ty' ∧ refKind ty = false) ∨ (refKind ty = true ∧ refKind ty' = true ∧ StoL Z h b us)) (h1 : ¬ sp < 0) (h2 : ¬ dp < 0) (h3 : ¬ nn < 0) (h4 : sp.toNatClampNeg + nn.toNatClampNeg ≤ z.toNatClampNeg) (h5 : dp.toNatClampNeg + nn.toNatClampNeg ≤ z'.toNatClampNeg) (hus : us = (List.range nn.toNatClampNeg).map fun i => vs.getD (sp.toNatClampNeg + i) dv) (hl : dp.toNatClampNeg + nn.toNatClampNeg ≤ vd.length) (hvr : vd.take dp.toNatClampNeg ++ us ++ vd.drop (dp.toNatClampNeg + nn.toNatClampNeg) = vr) (N : Fr n0 locs) (ge : n0 ≤ b) (hsize : Ls.size = c.maxLocals) (hd : decode c.code pc = .ok (.invokestatic index, 3)) (hf : 1 ≤ R.frames) {W : Nat} (hW : (st.map fun v => v.category).sum ≤ W) (hlo : W + 18 ≤ R.locals)
    (k : ∀ T' h' locs', Stand p l e R s m args below meth c T' locs' cells slots → T'.heap = h' → Fr n0 locs' → Keep h h' [b] → Arv Z h' b k' ty' z' vr dd → Goes p e below FE n0 Q (T'.setTop (mkF m (pc + 3) Ls st))) : Goes p e below FE n0 Q (T.setTop (mkF m pc Ls (.int nn :: .int dp :: .ref b :: .int sp :: .ref a :: st))) := by
  subst hvr
  obtain ⟨T', h', L, X', e', N', K', V', st'⟩ := cpA X hx hZ hown w1 w2 w3 w4 eT A B hty h1 h2 h3 h4 h5 hus hl N ge (g := mkF m pc Ls (.int nn :: .int dp :: .ref b :: .int sp :: .ref a :: st)) rfl hsize rfl hd hf (W := W) (by show 2 * 0 + _ ≤ _; omega) hlo
  exact Goes.via st' (k T' h' L X' e' N' K' V')
theorem own_retN (X : Stand p l e R s m args below meth c T locs cells slots) (hx : p.tables.exec = Jvm.exec) {t : FieldType} {z : Int32} (N : Fr n0 locs) (hlk : meth.locks = false) (hc : cells ≤ kc) (hs : slots ≤ ks) (hret : meth.sig.returnType = some t) (ht : t = .boolean ∨ t = .byte ∨ t = .char ∨ t = .short) (hd : decode c.code pc = .ok (.ireturn, 1)) (hq : Q (some (.int (nar t z))) T.heap) : Goes p e below (fun o t L => FrameEnd s o t L kc ks) n0 Q (T.setTop (mkF m pc Ls (.int z :: st))) :=
  Goes.ret X N hlk (fun h => by rw [hret] at h; cases h) hc hs hq (fun fs hr => retN X hx hret ht hd hr)
theorem own_retI (X : Stand p l e R s m args below meth c T locs cells slots) (hx : p.tables.exec = Jvm.exec) {z : Int32} (N : Fr n0 locs) (hlk : meth.locks = false) (hc : cells ≤ kc) (hs : slots ≤ ks) (hret : meth.sig.returnType = some .int) (hd : decode c.code pc = .ok (.ireturn, 1)) (hq : Q (some (.int z)) T.heap) : Goes p e below (fun o t L => FrameEnd s o t L kc ks) n0 Q (T.setTop (mkF m pc Ls (.int z :: st))) :=
  Goes.ret X N hlk (fun h => by rw [hret] at h; cases h) hc hs hq (fun fs hr => retOut X hx hret rfl (Or.inl ⟨rfl, Or.inl rfl, _, rfl⟩) hd hr)
theorem own_retJ (X : Stand p l e R s m args below meth c T locs cells slots) (hx : p.tables.exec = Jvm.exec) {z : Int64} (N : Fr n0 locs) (hlk : meth.locks = false) (hc : cells ≤ kc) (hs : slots ≤ ks) (hret : meth.sig.returnType = some .long) (hd : decode c.code pc = .ok (.lreturn, 1)) (hq : Q (some (.long z)) T.heap) : Goes p e below (fun o t L => FrameEnd s o t L kc ks) n0 Q (T.setTop (mkF m pc Ls (.long z :: st))) :=
  Goes.ret X N hlk (fun h => by rw [hret] at h; cases h) hc hs hq (fun fs hr => retOut X hx hret rfl (Or.inr (Or.inl ⟨rfl, rfl, _, rfl⟩)) hd hr)
theorem own_retR (X : Stand p l e R s m args below meth c T locs cells slots) (hx : p.tables.exec = Jvm.exec) {v : Value} {t : FieldType} (N : Fr n0 locs) (hlk : meth.locks = false) (hc : cells ≤ kc) (hs : slots ≤ ks) (hret : meth.sig.returnType = some t) (ht : t.isReference = true) (hv : v.isRef = true) (hn : narrow t v = v) (hd : decode c.code pc = .ok (.areturn, 1)) (hq : Q (some v) T.heap) : Goes p e below (fun o t L => FrameEnd s o t L kc ks) n0 Q (T.setTop (mkF m pc Ls (v :: st))) :=
  Goes.ret X N hlk (fun h => by rw [hret] at h; cases h) hc hs hq (fun fs hr => retOut X hx hret hn (Or.inr (Or.inr (Or.inr (Or.inr ⟨rfl, ht, hv⟩)))) hd hr)
theorem own_retV (X : Stand p l e R s m args below meth c T locs cells slots) (hx : p.tables.exec = Jvm.exec) (N : Fr n0 locs) (hlk : meth.locks = false) (hc : cells ≤ kc) (hs : slots ≤ ks) (hret : meth.sig.returnType = none) (hd : decode c.code pc = .ok (.return_, 1)) (hq : Q none T.heap) : Goes p e below (fun o t L => FrameEnd s o t L kc ks) n0 Q (T.setTop (mkF m pc Ls [])) :=
  Goes.ret X N hlk (fun _ => rfl) hc hs hq (fun fs hr => X.returnOut hx hret hd hr)
theorem own_bz {P : Prop} [Decidable P] (h : ¬ P) : (if P then (1 : Int32) else (0 : Int32)) = (0 : Int32) := if_neg h
theorem own_bnz {P : Prop} [Decidable P] (h : ¬ ¬ P) : ¬ ((if P then (1 : Int32) else (0 : Int32)) = (0 : Int32)) := by rw [if_pos (Classical.not_not.mp h)]; decide
theorem own_nb (P : Prop) [Decidable P] : narrow .boolean (.int (if P then (1 : Int32) else (0 : Int32))) = (.int (if P then (1 : Int32) else (0 : Int32))) ∧ fits .boolean (.int (if P then (1 : Int32) else (0 : Int32))) = true := by
  by_cases h : P
  · rw [if_pos h]; exact ⟨rfl, rfl⟩
  · rw [if_neg h]; exact ⟨rfl, rfl⟩
theorem own_narb (P : Prop) [Decidable P] : nar .boolean (if P then (1 : Int32) else (0 : Int32)) = (if P then (1 : Int32) else (0 : Int32)) := by
  by_cases h : P
  · rw [if_pos h]; rfl
  · rw [if_neg h]; rfl
theorem own_eq {args : Array Value} {s s' : State} {o : Option Outcome} {idx : List Nat} {a b : Term} {v : Value} (h : (Jvm.Cond.eq a b).value args s o s' idx = some true) (hb : b.eval args s o idx s' = some v) : a.eval args s o idx s' = some v := by
  simp only [Cond.value, hb] at h
  cases ha : a.eval args s o idx s' with
  | none => simp [ha] at h
  | some w => rw [ha] at h; cases w <;> cases v <;> simp_all
theorem own_len {args : Array Value} {t : Term} {a : Addr} {cl : Cell} {ty : FieldType} {z : Int32} (ev : t.eval args Z none [] Z = some (.ref a)) (A : Arr Z Z.heap a cl ty) (hl : (Term.length t).eval args Z none [] Z = some (.int z)) : cl.slots.size < 2 ^ 31 ∧ cl.slots.size.toInt32 = z := by
  have ha : Z.arrayAt? a = some cl := A.fin (Vm.Alike.refl _)
  by_cases q : cl.slots.size < 2 ^ 31
  · have h2 := (len_f ev ha q).symm.trans hl
    exact ⟨q, by cases h2; rfl⟩
  · simp [Term.eval, ev, ha, q] at hl
theorem own_arr {args : Array Value} {t : Term} {a : Addr} {cl : Cell} {ty : FieldType} {z : Int32} {vs : List Value} {dv : Value} (hf : Fit Z) (ev : t.eval args Z none [] Z = some (.ref a)) (A : Arr Z Z.heap a cl ty) (hl : (Term.length t).eval args Z none [] Z = some (.int z)) (hz : ¬ z < 0) (hn : z.toNatClampNeg = vs.length) (H : HasL cl 0 vs) : Arv Z Z.heap a cl.cls ty z vs dv :=
  Arv.start hf A (own_len ev A hl).1 (own_len ev A hl).2 hz hn H
theorem own_fold {f : Nat → Option Bool} : ∀ (L : List Nat) (acc : Option Bool), L.foldl (fun acc i => match acc with | some true => f i | x => x) acc = some true → acc = some true ∧ ∀ i ∈ L, f i = some true
  | [], acc, h => ⟨h, fun _ q => nomatch q⟩
  | i :: L, acc, h => by
    obtain ⟨h1, h2⟩ := own_fold L _ h
    have h3 : acc = some true := by rcases acc with _ | (_ | _) <;> simp_all
    subst h3
    exact ⟨rfl, fun j hj => by rcases List.mem_cons.mp hj with rfl | q; exact h1; exact h2 j q⟩
theorem own_all {args : Array Value} {first s : State} {o : Option Outcome} {idx : List Nat} {t : Term} {c : Jvm.Cond} {a : Addr} {cell : Cell} (h : (Jvm.Cond.all t c).value args first o s idx = some true) (ev : t.eval args first o idx s = some (.ref a)) (ha : s.arrayAt? a = some cell) : ∀ i, i < cell.slots.size → c.value args first o s (i :: idx) = some true := by
  intro i hi
  simp only [Cond.value, ev, ha] at h
  exact (own_fold _ _ h).2 i (List.mem_range.mpr hi)
theorem own_exaI {args : Array Value} {t : Term} {C : String} {idx : List Nat} (h : (Jvm.Cond.exactly t C).value args Z none Z idx = some true) : ∃ b, t.eval args Z none idx Z = some (.ref b) ∧ Exa Z Z.heap b C := by
  obtain ⟨a, c, cell, k, e1, e2, e3, e4, e5, e6, e7⟩ := Cond.exactly_spec (beq_iff_eq.mpr h : (Jvm.Cond.exactly t C).holds args Z none Z idx = true)
  subst e6
  exact ⟨a, e1, cell, k, e3, e2, e4, e5, e7⟩
theorem own_NSroot {O K : String} {nn : Nat} (w : (Jvm.Cond.noSuperclass O).before a0 Z = true) (wi : (Jvm.Cond.instantiable K nn).before a0 Z = true) (hn : O ≠ K) : NS Z O K := by
  obtain ⟨c, k, h1, h2, h3, -, -⟩ := Cond.noSuperclass_spec w
  obtain ⟨t, kt, g1, -⟩ := Cond.instantiable_spec wi
  have ne := ids_ne h1 g1 hn
  refine ⟨c, t, h1, g1, fun fuel => ?_⟩
  cases fuel with
  | zero => rfl
  | succ f => simp [Vm.isSubclassAux, ne, h2, h3]
theorem own_NSno {C S K : String} {nn : Nat} (w : (Jvm.Cond.superclass C S).before a0 Z = true) (wi : (Jvm.Cond.instantiable K nn).before a0 Z = true) (n : NS Z C K) (hn : C ≠ K) : ∃ c t, Z.vm.findClass C = some c ∧ Z.vm.findClass K = some t ∧ Z.vm.assignable c t = false := by
  obtain ⟨c, t, h0, g0, n3⟩ := n
  obtain ⟨p, k, kp, h1, h2, h3, h4, h5, -, h7⟩ := Cond.superclass_spec h0 w
  obtain ⟨t', k', g1, g2, g5, g7, -⟩ := Cond.instantiable_spec wi
  cases g0.symm.trans g1
  rw [Bool.or_eq_false_iff] at g7
  have ne := ids_ne h0 g0 hn
  refine ⟨c, t, h0, g0, ?_⟩
  show Z.vm.assignableAux (255 + 1) c t = false
  simp [Vm.assignableAux, ne, h2, g2, h5, g5, g7.1, Vm.isSubclass, n3]
end OwnKit
def Start (Z : State)  : Prop :=
  True
theorem own_w {Z : State} {a0 : Array Value} (hw : ∀ d ∈ tables_1, d.before a0 Z = true) (i : Nat) {d : Jvm.Cond} (h : tables_1[i]? = some d) : d.before a0 Z = true := hw d (List.mem_of_getElem? h)
section OwnRef
variable {p : Program} {l : Launch} {e : Env} {R : Room} {s : State} {m : MethodId} {args : Array Value} {below : List Frame} {meth : Method} {c : Code} {T : State} {locs : List Loc} {cells slots : Nat} {Z : State} {a0 : Array Value} {h : Heap} {n0 : Nat} {FE : Outcome → State → List Loc → Prop} {Q : Option Value → Heap → Prop} {pc : Nat} {Ls : Array Slot} {st : List Value}
theorem own_getFR (X : Stand p l e R s m args below meth c T locs cells slots) (hx : p.tables.exec = Jvm.exec) (hZ : Z.Warmed39 s.vm) {own : String} {index : Nat} (hown : s.vm.findClass own = some m.cls) {O n d : String} (w : (Jvm.Cond.fieldRef own index O n d).before a0 Z = true) (eT : T.heap = h) {a : Addr} {v : Value} (F : Fld Z h a O n d v) (hd : decode c.code pc = .ok (.getfield index, 3))
    (g : Goes p e below FE n0 Q (T.setTop (mkF m (pc + 3) Ls (v :: st)))) : Goes p e below FE n0 Q (T.setTop (mkF m pc Ls (.ref a :: st))) := by
  have hU : Z.Warmed39 T.vm := wtrans hZ X.warmed
  obtain ⟨cell, cf, k, i, f, h1, h2, h3, h4, -, -, h7⟩ := F
  have wT : (Jvm.Cond.fieldRef own index O n d).before a0 (Z.setVm T.vm) = true := Cond.fieldRef_warmed39 hU w
  have hT : (Z.setVm T.vm).vm.findClass own = some m.cls := by
    show T.vm.findClass own = some m.cls
    rw [X.warmed.alike.findClass]; exact hown
  obtain ⟨c', k', i', f', q1, q2⟩ := Cond.fieldRef_spec hT wT
  obtain ⟨k'', q3, -⟩ := State.fieldFound?_setVm (s := Z) hU.alike h2
  have q4 := q1.symm.trans q3
  simp only [Option.some.injEq, Prod.mk.injEq] at q4
  obtain ⟨rfl, -, -, rfl⟩ := q4
  exact Goes.via (fun t k => (Jvm.Stand.getfieldR X hx (g := mkF m pc Ls (.ref a :: st)) rfl q2 h3 rfl (by rw [eT]; exact h1) h4 h7 hd (Steps.refl _)).trans k) g
theorem own_ready (e : Env) (hZ : Z.Warmed39 s.vm) {own : String} {index : Nat} (hown : s.vm.findClass own = some m.cls) {y : MethodName} (w : (Jvm.Cond.methodRef own index y).before a0 Z = true) (hy : y.cls ≠ "java/lang/invoke/MethodHandle" ∧ y.cls ≠ "java/lang/invoke/VarHandle") (U : State) (r : MethodId) (hW : s.WarmedH U.vm) (hn : s.methodNamed? y = some r) :
    namesResolved U.vm m.cls index r.cls ∧ U.vm.methodReady m.cls index r := by
  have hU : Z.Warmed39 U.vm := wtrans hZ hW
  have n1 : (Z.setVm s.vm).methodNamed? y = some r := hn
  rw [State.methodNamed?_setVm hZ.alike] at n1
  have wU : (Jvm.Cond.methodRef own index y).before a0 (Z.setVm U.vm) = true := Cond.methodRef_warmed39 hU n1 hy w
  have hT : (Z.setVm U.vm).vm.findClass own = some m.cls := by
    show U.vm.findClass own = some m.cls
    rw [hW.alike.findClass]; exact hown
  have n2 : (Z.setVm U.vm).methodNamed? y = some r := by rw [State.methodNamed?_setVm hU.alike]; exact n1
  obtain ⟨m', c', q1, q2, q3, q4⟩ := Cond.methodRef_named e hT wU
  cases (State.methodFound?_of_named n2 hy).symm.trans q1
  cases (findClass_of_methodNamed n2).symm.trans q3
  exact ⟨q4, q2⟩
theorem own_specialR (X : Stand p l e R s m args below meth c T locs cells slots) (hx : p.tables.exec = Jvm.exec) (hZ : Z.Warmed39 s.vm) {own : String} {index : Nat} (hown : s.vm.findClass own = some m.cls) {y : MethodName} {bytes : ByteArray} {maxL : Nat} {rm : Room} {W : Nat} {Q' : Option Value → Heap → Prop} (hy1 : y.name = "<init>") (w1 : (Jvm.Cond.methodRef own index y).before a0 Z = true) (w2 : (Jvm.Cond.instanceMethod y).before a0 Z = true) (w3 : (Jvm.Cond.initialized y.cls).before a0 Z = true) (w4 : (Jvm.Cond.code y bytes maxL none).before a0 Z = true) {a : Addr} (hy : y.cls ≠ "java/lang/invoke/MethodHandle" ∧ y.cls ≠ "java/lang/invoke/VarHandle") (hf : rm.frames + 1 ≤ R.frames) (hl : W + (maxL + 11) + rm.locals ≤ R.locals) (N : Fr n0 locs) (eT : T.heap = h) (hsize : Ls.size = c.maxLocals) {argsL rest : List Value} (hlen : ∀ sig, parseMethodDescriptor y.desc = some sig → argsL.length = sig.parameters.length) (hW : (rest.map fun v => v.category).sum ≤ W) (hc : cells + rm.cells ≤ R.cells) (hs : slots + rm.slots ≤ R.slots) (M : Meets l y bytes maxL none [] rm rm.cells rm.slots Z (.ref a :: argsL).toArray h n0 Q') (hst : st = argsL.reverse ++ .ref a :: rest) (hd : decode c.code pc = .ok (.invokespecial index, 3))
    (k : ∀ v T' locs', Stand p l e R s m args below meth c T' locs' (cells + rm.cells) (slots + rm.slots) → Fr n0 locs' → Q' v T'.heap → Goes p e below FE n0 Q (T'.setTop (mkF m (pc + 3) Ls (v.toList ++ rest)))) : Goes p e below FE n0 Q (T.setTop (mkF m pc Ls st)) := by
  subst hst
  obtain ⟨v, _, ⟨T', L', k', n'⟩, -, X', ⟨Lc, hQ, l1, l2, l3⟩, st'⟩ := (Jvm.Free.SCall.of_ready hx hy1 (mvT hZ w2) (mvT hZ w4) (own_ready e hZ hown w1 hy)) X (backOf (W := W) (Q := fun v h L => Fr n0 L ∧ Q' v h) M hZ w4 w3 hf hl) (g := mkF m pc Ls (argsL.reverse ++ .ref a :: rest)) rfl hsize (Steps.refl _) (a := a) (argsL := argsL) (rest := rest) hlen rfl (by show 2 * 0 + _ ≤ _; omega) hd (fun _ _ => ⟨rfl, eT, hc, hs⟩)
  dsimp only [Pt.U, Pt.locs, Pt.cells, Pt.slots] at X' l1 l2 l3 st' hQ
  subst l1 l2 l3
  exact Goes.via (fun _ k => st'.trans k) (k v T' _ X' (Fr.app N hQ.1) hQ.2)
theorem own_newRAE (X : Stand p l e R s m args below meth c T locs cells slots) (hx : p.tables.exec = Jvm.exec) (hZ : Z.Warmed39 s.vm) {own : String} {index : Nat} (hown : s.vm.findClass own = some m.cls) {C ad : String} {ty : FieldType} (hC : (FieldType.array ty).toString = C) (had : "[" ++ C = ad) (w1 : (Jvm.Cond.classLink own index C).before a0 Z = true) (w2 : (Jvm.Cond.arrayOver (.array ty)).before a0 Z = true) (eT : T.heap = h) {n : Int32} (hd : decode c.code pc = .ok (.anewarray index, 3)) (hn : ¬ n < 0) {cap : Nat} (hcap : n.toNatClampNeg ≤ cap) (hb : cap * 8 ≤ 536870912) (hc : cells + 1 ≤ R.cells) (hl : slots + cap ≤ R.slots)
    (k : ∀ T' h' b cA, b = h.size → Stand p l e R s m args below meth c T' locs (cells + 1) (slots + cap) → T'.heap = h' → Ext h h' → Arv Z h' b cA (.array ty) n [] .null → OvrA Z cA ty C → Exa Z h' b ad → Goes p e below FE n0 Q (T'.setTop (mkF m (pc + 3) Ls (.ref b :: st)))) : Goes p e below FE n0 Q (T.setTop (mkF m pc Ls (.int n :: st))) := by
  obtain ⟨T', h', cA, X', e', E', A', Ex', O', st'⟩ := newRA X hx hZ hown hC w1 w2 eT (g := mkF m pc Ls (.int n :: st)) rfl hd rfl hn hcap hb hc hl had
  exact Goes.via st' (k T' h' _ cA rfl X' e' E' (Arv.new A' hn) O' Ex')
theorem own_privR (Y : Stand p l e R s m args below meth c T locs cells slots) (hexec : p.tables.exec = Jvm.exec) {g : JFrame} (hg : g.method = m) (hsize : g.locals.size = c.maxLocals) {index a : Nat} {y : MethodName} {r : MethodId} {kr : Class} {methr : Method} {cell : Cell} {argsL rest : List Value} (hnr : namesResolved T.vm m.cls index r.cls) (hr : T.vm.methodReady m.cls index r) (hkr : T.vm.classes[r.cls]? = some kr) (hitf : kr.isInterface = false) (hmr : T.vm.method? r = some methr) (hpoly : signaturePolymorphic kr methr = false) (hstatic : methr.isStatic = false) (hlen : argsL.length = methr.sig.parameters.length) (hstack : g.stack = argsL.reverse ++ .ref a :: rest) (hcell : T.heap[a]? = some cell) (hobj : ∀ q, cell.vm ≠ .statics q) (hsel : selectMethod e.platform T.vm cell.cls r = .method r) (habs : methr.isAbstract = false) (hnamed : T.methodNamed? y = some r)
    {W : Nat} {Pre : Pt → Array Value → Prop} {Post : Pt → Array Value → Option Value → Pt → Prop} (hK : Back l R p e below s args y 3 W Pre Post) (hW : 2 * g.monitorRoom + (rest.map fun v => v.category).sum ≤ W) (hpre : Pre ⟨T, locs, cells, slots⟩ (.ref a :: argsL).toArray) (hdg : decode c.code g.pc = .ok (.invokevirtual index, 3)) :
    ∃ (v : Option Value) (B : Pt), Stand p l e R s m args below meth c B.U B.locs B.cells B.slots ∧ Post ⟨T, locs, cells, slots⟩ (.ref a :: argsL).toArray v B ∧ Steps p.tables e below (T.setTop g) (B.U.setTop { g with pc := g.pc + 3, stack := v.toList ++ rest }) := by
  subst hg
  obtain ⟨v, B, Y', hpost, hsteps⟩ := hK g.method meth c ⟨T, locs, cells, slots⟩ { g with stack := rest } (.invokevirtual index) r (.ref a :: argsL).toArray Y rfl hsize hdg hW hnamed hpre
  refine ⟨v, B, Y', hpost, Steps.trans ?_ hsteps⟩
  jvm_step Y.here [hexec, hdg, invokevirtual.wp_named (e := e) (s := T) (r := r) (m := r) (c' := r.cls) (k := kr) (k' := kr) (mk := kr) (rmeth := methr) (meth := methr) (a := a) (args := argsL) (rest := rest) (cell := cell) (f := g) Y.here.top hnr hkr hitf hr hkr hmr hpoly hstatic hlen hstack hcell hobj hsel hmr habs hkr hitf]
  intro acts
  rw [doInvoke_state]
  exact Steps.refl _
theorem own_privateR (X : Stand p l e R s m args below meth c T locs cells slots) (hx : p.tables.exec = Jvm.exec) (hZ : Z.Warmed39 s.vm) {own : String} {index : Nat} (hown : s.vm.findClass own = some m.cls) {y : MethodName} {bytes : ByteArray} {maxL : Nat} {ret : Option FieldType} {rm : Room} {W : Nat} {Q' : Option Value → Heap → Prop} (w1 : (Jvm.Cond.methodRef own index y).before a0 Z = true) (w2 : (Jvm.Cond.instanceMethod y).before a0 Z = true) {nn : Nat} (w5 : (Jvm.Cond.instantiable y.cls nn).before a0 Z = true) (w6 : (Jvm.Cond.privateMethod y).before a0 Z = true) (w3 : (Jvm.Cond.initialized y.cls).before a0 Z = true) (w4 : (Jvm.Cond.code y bytes maxL ret).before a0 Z = true) {a : Addr} {C : String} (E : Exa Z h a C) (hy : y.cls ≠ "java/lang/invoke/MethodHandle" ∧ y.cls ≠ "java/lang/invoke/VarHandle") (hf : rm.frames + 1 ≤ R.frames) (hl : W + (maxL + 11) + rm.locals ≤ R.locals) (N : Fr n0 locs) (eT : T.heap = h) (hsize : Ls.size = c.maxLocals) {argsL rest : List Value} (hlen : ∀ sig, parseMethodDescriptor y.desc = some sig → argsL.length = sig.parameters.length) (hW : (rest.map fun v => v.category).sum ≤ W) (hc : cells + rm.cells ≤ R.cells) (hs : slots + rm.slots ≤ R.slots) (M : Meets l y bytes maxL ret [] rm rm.cells rm.slots Z (.ref a :: argsL).toArray h n0 Q') (hst : st = argsL.reverse ++ .ref a :: rest) (hd : decode c.code pc = .ok (.invokevirtual index, 3))
    (k : ∀ v T' locs', Stand p l e R s m args below meth c T' locs' (cells + rm.cells) (slots + rm.slots) → Fr n0 locs' → Q' v T'.heap → Goes p e below FE n0 Q (T'.setTop (mkF m (pc + 3) Ls (v.toList ++ rest)))) : Goes p e below FE n0 Q (T.setTop (mkF m pc Ls st)) := by
  subst hst
  obtain ⟨cq, qa, qb⟩ := E.cell
  have hinst : (Jvm.Cond.instanceMethod y).before args s = true := mvT hZ w2
  have hcode : (Jvm.Cond.code y bytes maxL ret).before args s = true := mvT hZ w4
  have hsel : (Jvm.Cond.selects y.cls y y).before args s = true := mvT hZ (own_selfsel w5 w2 w6 hy)
  have hpriv : s.PrivateAt y := Cond.privateMethod_at (mvP hZ w6 (args := #[]))
  obtain ⟨mk, methM, hnamed, hmethM, hstM, habM⟩ := Cond.instanceMethod_spec hinst
  obtain ⟨methM', cM, hmethM', -, -, -, -, -, -, hsigM⟩ := Cond.code_spec hnamed hcode
  cases hmethM.symm.trans hmethM'
  obtain ⟨c2, r2, m2, -, -, q3, -, kP, hkP, hkPi⟩ := Cond.selects_spec hsel
  cases hnamed.symm.trans q3
  have hselP : selectMethod e.platform s.vm cq.cls mk = .method mk := selectMethod_private hmethM (hpriv mk methM hnamed hmethM)
  have K : Back l R p e below s args y 3 W _ _ := backOf (W := W) (Q := fun v h L => Fr n0 L ∧ Q' v h) M hZ w4 w3 hf hl
  obtain ⟨hnr, hr⟩ := own_ready e hZ hown w1 hy T mk X.warmed hnamed
  have hA := X.warmed.alike
  obtain ⟨kP', hkP', heP⟩ := hA.2.2 _ _ hkP
  have hmT : T.vm.method? mk = some methM := by rw [hA.method?]; exact hmethM
  have hitf : kP'.isInterface = false := by
    have q : kP'.isInterface = kP.isInterface := by rw [heP]; rfl
    rw [q]; exact hkPi
  have hselT : selectMethod e.platform T.vm cq.cls mk = .method mk := by rw [hA.selectMethod]; exact hselP
  have hpoly : signaturePolymorphic kP' methM = false := by
    obtain ⟨kN, hkN, hname⟩ := className_of_methodNamed hnamed
    cases hkP.symm.trans hkN
    have hn' : kP'.name = y.cls := by rw [heP]; exact hname
    exact signaturePolymorphic_of_name (by rw [hn']; exact hy) methM
  obtain ⟨v, ⟨T', L', k', n'⟩, X', ⟨Lc, hQ, l1, l2, l3⟩, st'⟩ := own_privR X hx (g := mkF m pc Ls (argsL.reverse ++ .ref a :: rest)) rfl hsize (argsL := argsL) (rest := rest) hnr hr hkP' hitf hmT hpoly hstM (hlen _ hsigM) rfl (by rw [eT]; exact qa) qb hselT habM (X.named hnamed) K (by show 2 * 0 + _ ≤ _; omega) ⟨rfl, eT, hc, hs⟩ hd
  dsimp only [Pt.U, Pt.locs, Pt.cells, Pt.slots] at X' l1 l2 l3 st' hQ
  subst l1 l2 l3
  exact Goes.via (fun _ k => st'.trans k) (k v T' _ X' (Fr.app N hQ.1) hQ.2)
theorem own_privateNest (X : Stand p l e R s m args below meth c T locs cells slots) (hx : p.tables.exec = Jvm.exec) (hZ : Z.Warmed39 s.vm) {own : String} {index : Nat} (hown : s.vm.findClass own = some m.cls) {host : String} {y : MethodName} {bytes : ByteArray} {maxL : Nat} {ret : Option FieldType} {rm : Room} {W : Nat} {Q' : Option Value → Heap → Prop} (w1 : (Jvm.Cond.methodLinkNest own index y host).before a0 Z = true) (w2 : (Jvm.Cond.instanceMethod y).before a0 Z = true) {nn : Nat} (w5 : (Jvm.Cond.instantiable y.cls nn).before a0 Z = true) (w6 : (Jvm.Cond.privateMethod y).before a0 Z = true) (w3 : (Jvm.Cond.initialized y.cls).before a0 Z = true) (w4 : (Jvm.Cond.code y bytes maxL ret).before a0 Z = true) {a : Addr} {C : String} (E : Exa Z h a C) (hy : y.cls ≠ "java/lang/invoke/MethodHandle" ∧ y.cls ≠ "java/lang/invoke/VarHandle") (hf : rm.frames + 1 ≤ R.frames) (hl : W + (maxL + 11) + rm.locals ≤ R.locals) (N : Fr n0 locs) (eT : T.heap = h) (hsize : Ls.size = c.maxLocals) {argsL rest : List Value} (hlen : ∀ sig, parseMethodDescriptor y.desc = some sig → argsL.length = sig.parameters.length) (hW : (rest.map fun v => v.category).sum ≤ W) (hc : cells + rm.cells ≤ R.cells) (hs : slots + rm.slots ≤ R.slots) (M : Meets l y bytes maxL ret [] rm rm.cells rm.slots Z (.ref a :: argsL).toArray h n0 Q') (hst : st = argsL.reverse ++ .ref a :: rest) (hd : decode c.code pc = .ok (.invokevirtual index, 3))
    (k : ∀ v T' locs', Stand p l e R s m args below meth c T' locs' (cells + rm.cells) (slots + rm.slots) → Fr n0 locs' → Q' v T'.heap → Goes p e below FE n0 Q (T'.setTop (mkF m (pc + 3) Ls (v.toList ++ rest)))) : Goes p e below FE n0 Q (T.setTop (mkF m pc Ls st)) := by
  subst hst
  obtain ⟨cq, qa, qb⟩ := E.cell
  have hinst : (Jvm.Cond.instanceMethod y).before args s = true := mvT hZ w2
  have hcode : (Jvm.Cond.code y bytes maxL ret).before args s = true := mvT hZ w4
  have hsel : (Jvm.Cond.selects y.cls y y).before args s = true := mvT hZ (own_selfsel w5 w2 w6 hy)
  have hpriv : s.PrivateAt y := Cond.privateMethod_at (mvP hZ w6 (args := #[]))
  obtain ⟨mk, methM, hnamed, hmethM, hstM, habM⟩ := Cond.instanceMethod_spec hinst
  obtain ⟨methM', cM, hmethM', -, -, -, -, -, -, hsigM⟩ := Cond.code_spec hnamed hcode
  cases hmethM.symm.trans hmethM'
  obtain ⟨c2, r2, m2, -, -, q3, -, kP, hkP, hkPi⟩ := Cond.selects_spec hsel
  cases hnamed.symm.trans q3
  have hselP : selectMethod e.platform s.vm cq.cls mk = .method mk := selectMethod_private hmethM (hpriv mk methM hnamed hmethM)
  have K : Back l R p e below s args y 3 W _ _ := backOf (W := W) (Q := fun v h L => Fr n0 L ∧ Q' v h) M hZ w4 w3 hf hl
  obtain ⟨vm₁, X₁, hstep₁⟩ := X.invokevirtualNest hx hown (Cond.methodLinkNest_wide hZ w1 :) hnamed hmethM hstM hkP hkPi hy (a := a) (cell := cq) (by rw [eT]; exact qa) qb hselP hmethM habM hkP hkPi (g := mkF m pc Ls (argsL.reverse ++ .ref a :: rest)) rfl (argsL := argsL) (rest := rest) (hlen _ hsigM) rfl hd
  obtain ⟨v, ⟨T', L', k', n'⟩, X', ⟨Lc, hQ, l1, l2, l3⟩, st'⟩ := K m meth c ⟨T.setVm vm₁, locs, cells, slots⟩ { mkF m pc Ls (argsL.reverse ++ .ref a :: rest) with stack := rest } (.invokevirtual index) mk (.ref a :: argsL).toArray X₁ rfl hsize hd (by show 2 * 0 + (rest.map fun v => v.category).sum ≤ W; omega) (X₁.named hnamed) ⟨rfl, eT, hc, hs⟩
  dsimp only [Pt.U, Pt.locs, Pt.cells, Pt.slots] at X' l1 l2 l3 st' hQ
  subst l1 l2 l3
  exact Goes.via (fun _ k => hstep₁ _ fun acts => by rw [doInvoke_state]; exact st'.trans k) (k v T' _ X' (Fr.app N hQ.1) hQ.2)
theorem own_callSNest (X : Stand p l e R s m args below meth c T locs cells slots) (hx : p.tables.exec = Jvm.exec) (hZ : Z.Warmed39 s.vm) {own : String} {index : Nat} (hown : s.vm.findClass own = some m.cls) {host : String} {y : MethodName} {bytes : ByteArray} {maxL : Nat} {ret : Option FieldType} {rm : Room} {W : Nat} {Q' : Option Value → Heap → Prop} (w1 : (Jvm.Cond.methodLinkNest own index y host).before a0 Z = true) (w2 : (Jvm.Cond.static y).before a0 Z = true) (w3 : (Jvm.Cond.initialized y.cls).before a0 Z = true) (w4 : (Jvm.Cond.code y bytes maxL ret).before a0 Z = true) (hy : y.cls ≠ "java/lang/invoke/MethodHandle" ∧ y.cls ≠ "java/lang/invoke/VarHandle") (hf : rm.frames + 1 ≤ R.frames) (hl : W + (maxL + 11) + rm.locals ≤ R.locals) (N : Fr n0 locs) (eT : T.heap = h) (hsize : Ls.size = c.maxLocals) {argsL rest : List Value} (hlen : ∀ sig, parseMethodDescriptor y.desc = some sig → argsL.length = sig.parameters.length) (hW : (rest.map fun v => v.category).sum ≤ W) (hc : cells + rm.cells ≤ R.cells) (hs : slots + rm.slots ≤ R.slots) (M : Meets l y bytes maxL ret [] rm rm.cells rm.slots Z argsL.toArray h n0 Q') (hst : st = argsL.reverse ++ rest) (hd : decode c.code pc = .ok (.invokestatic index, 3))
    (k : ∀ v T' locs', Stand p l e R s m args below meth c T' locs' (cells + rm.cells) (slots + rm.slots) → Fr n0 locs' → Q' v T'.heap → Goes p e below FE n0 Q (T'.setTop (mkF m (pc + 3) Ls (v.toList ++ rest)))) : Goes p e below FE n0 Q (T.setTop (mkF m pc Ls st)) := by
  subst hst
  have hcode : (Jvm.Cond.code y bytes maxL ret).before args s = true := mvT hZ w4
  have hstat : (Jvm.Cond.static y).before args s = true := mvT hZ w2
  have hinit : (Jvm.Cond.initialized y.cls).before args s = true := mvT hZ w3
  obtain ⟨mk, hnamed⟩ := Cond.code_named hcode
  obtain ⟨methM, cM, hmethM, -, -, -, -, -, -, hsigM⟩ := Cond.code_spec hnamed hcode
  have hstatic : methM.isStatic = true := Cond.static_spec hnamed hmethM hstat
  obtain ⟨kP, hkP, -⟩ := className_of_methodNamed hnamed
  have hinitP : kP.init = .initialized := Cond.initialized_spec (findClass_of_methodNamed hnamed) hkP hinit
  have K : Back l R p e below s args y 3 W _ _ := backOf (W := W) (Q := fun v h L => Fr n0 L ∧ Q' v h) M hZ w4 w3 hf hl
  obtain ⟨vm₁, X₁, hstep₁⟩ := X.invokestaticNest hx hown (Cond.methodLinkNest_wide hZ w1 :) hnamed hmethM hstatic hkP hinitP hy (g := mkF m pc Ls (argsL.reverse ++ rest)) rfl (argsL := argsL) (rest := rest) (hlen _ hsigM) rfl hd
  obtain ⟨v, ⟨T', L', k', n'⟩, X', ⟨Lc, hQ, l1, l2, l3⟩, st'⟩ := K m meth c ⟨T.setVm vm₁, locs, cells, slots⟩ { mkF m pc Ls (argsL.reverse ++ rest) with stack := rest } (.invokestatic index) mk argsL.toArray X₁ rfl hsize hd (by show 2 * 0 + (rest.map fun v => v.category).sum ≤ W; omega) (X₁.named hnamed) ⟨rfl, eT, hc, hs⟩
  dsimp only [Pt.U, Pt.locs, Pt.cells, Pt.slots] at X' l1 l2 l3 st' hQ
  subst l1 l2 l3
  exact Goes.via (fun _ k => hstep₁ _ fun acts => by rw [doInvoke_state]; exact st'.trans k) (k v T' _ X' (Fr.app N hQ.1) hQ.2)
theorem Meets.ofN {kc ks : Nat} {y : MethodName} {bytes : ByteArray} {maxL : Nat} {ret : Option FieldType} {ws : List Jvm.Cond} {rm : Room} {as' : Array Value} (hx : plainFor y = true) {F : MethodId → JFrame} (hF : ∀ m, entryFrame m as' maxL = F m)
    (body : ∀ p e s m below meth c T, p.tables.exec = Jvm.exec → c.code = bytes → c.maxLocals = maxL → s.vm.findClass y.cls = some m.cls → meth.name = y.name → meth.sig.returnType = ret → meth.locks = false → Z.Warmed39 s.vm → s.methodNamed? y = some m →
      Stand p l e rm s m as' below meth c T [] 0 0 → T.heap = h → Goes p e below (fun o t L => FrameEnd s o t L kc ks) n0 Q (T.setTop (F m))) :
    Meets l y bytes maxL ret ws rm kc ks Z as' h n0 Q := by
  refine MetFree.of_bodySF hx hisR ?_
  intro p e s m args below meth c s₁ Bd hml hP hK
  obtain ⟨rfl, hZ, hh⟩ := hP
  have X0 : Stand p l e rm s m args below meth c s₁ [] 0 0 := Stand.of_body Bd
  have e0 : s₁.heap = h := by rw [← hh, Bd.state]; rfl
  obtain ⟨s₂, o, k, r⟩ := body p e s m below meth c s₁ Bd.exec Bd.bytes hml (findClass_of_methodNamed Bd.named) (name_of_methodNamed Bd.named Bd.method).1 Bd.returns Bd.notSynchronized hZ Bd.named X0 e0
  exact ⟨s₂, o, castTop (hF m) k, r⟩
theorem own_mrd {vm' : Vm} (hW : Z.Warmed39 vm') {cu i : Nat} {r : MethodId} (q : Z.vm.methodReady cu i r) : vm'.methodReady cu i r := by
  obtain ⟨k, h1, h2⟩ := q
  obtain ⟨k', h1', -, -, hres, -⟩ := hW.2.2.2 _ _ h1
  rcases hres i with q | ⟨q, -⟩
  · exact ⟨k', h1', q.trans h2⟩
  · rw [h2] at q; cases q
theorem own_crd {vm' : Vm} (hW : Z.Warmed39 vm') {cu i : Nat} {r : ClassId} (q : Z.vm.classReady cu i r) : vm'.classReady cu i r := by
  obtain ⟨k, h1, h2⟩ := q
  obtain ⟨k', h1', -, -, hres, -⟩ := hW.2.2.2 _ _ h1
  rcases hres i with q | ⟨q, -⟩
  · exact ⟨k', h1', q.trans h2⟩
  · rw [h2] at q; cases q
theorem own_frd {vm' : Vm} (hW : Z.Warmed39 vm') {cu i : Nat} {cF : ClassId} {f : Field} (q : Z.vm.fieldReady cu i cF f) : vm'.fieldReady cu i cF f := by
  obtain ⟨k, j, kc, h1, h2, h3, h4⟩ := q
  obtain ⟨k', h1', -, -, hres, -⟩ := hW.2.2.2 _ _ h1
  obtain ⟨kc', h3', e3, -⟩ := hW.2.2.2 _ _ h3
  rcases hres i with q | ⟨q, -⟩
  · exact ⟨k', j, kc', h1', q.trans h2, h3', by rw [e3]; exact h4⟩
  · rw [h2] at q; cases q
theorem own_fnx {A B : State} (hA : A.vm.Alike B.vm) {xi : MethodName} {cF : ClassId} {mk : MethodId} (q : Jvm.Free.HMW.FnX xi cF mk A) : Jvm.Free.HMW.FnX xi cF mk B := by
  obtain ⟨kF, methK, h1, h2, h3, h4, h5⟩ := q
  obtain ⟨kF', h1', -⟩ := hA.2.2 _ _ h1
  refine ⟨kF', methK, h1', by rw [hA.method?]; exact h2, h3, h4, fun r0 r q1 q2 => ?_⟩
  have q1' : A.methodNamed? xi = some r0 := by
    have q : (A.setVm B.vm).methodNamed? xi = some r0 := q1
    rw [State.methodNamed?_setVm hA] at q; exact q
  rw [hA.method?] at q2
  obtain ⟨a1, a2, a3⟩ := h5 r0 r q1' q2
  exact ⟨by rw [hA.assignable]; exact a1, by rw [hA.selectMethod]; exact a2, by simp only [hA.superclasses, hA.declaredIn]; exact a3⟩
end OwnRef
section OwnLam
variable {p : Program} {l : Launch} {e : Env} {R : Room} {s : State} {m : MethodId} {args : Array Value} {below : List Frame} {meth : Method} {c : Code} {T : State} {locs : List Loc} {cells slots : Nat} {Z : State} {a0 : Array Value} {h : Heap} {n0 : Nat} {FE : Outcome → State → List Loc → Prop} {Q : Option Value → Heap → Prop} {pc : Nat} {Ls : Array Slot} {st : List Value}
def own_sig : Jvm.Lambda.Shape := (Jvm.Lambda.Shape.mk "java/lang/Iterable" "iterator" (Jvm.ClassFile.MethodDescriptor.mk ([] : List Jvm.ClassFile.FieldType) (Option.some (Jvm.ClassFile.FieldType.object "java/util/Iterator"))) ([(Jvm.ClassFile.FieldType.object "com/example/contention/contention/KeyTree"), (Jvm.ClassFile.FieldType.array Jvm.ClassFile.FieldType.byte), Jvm.ClassFile.FieldType.boolean] : List Jvm.ClassFile.FieldType) (5 : Nat) "com/example/contention/contention/KeyTree" "lambda$from$0" (Jvm.ClassFile.MethodDescriptor.mk ([(Jvm.ClassFile.FieldType.array Jvm.ClassFile.FieldType.byte), Jvm.ClassFile.FieldType.boolean] : List Jvm.ClassFile.FieldType) (Option.some (Jvm.ClassFile.FieldType.object "java/util/Iterator"))) false (Jvm.ClassFile.MethodDescriptor.mk ([] : List Jvm.ClassFile.FieldType) (Option.some (Jvm.ClassFile.FieldType.object "java/util/Iterator"))))
def own_fx : MethodName := ⟨"com/example/contention/contention/KeyTree", "from", "([BZ)Ljava/lang/Iterable;"⟩
def own_xi : MethodName := ⟨"java/lang/Iterable", "iterator", "()Ljava/util/Iterator;"⟩
def own_ly : MethodName := ⟨"com/example/contention/contention/KeyTree", "lambda$from$0", "([BZ)Ljava/util/Iterator;"⟩
def own_fcode : ByteArray := ⟨#[0x2a, 0xb4, 0x00, 0x13, 0x2a, 0xb4, 0x00, 0x15, 0x2a, 0xb4, 0x00, 0x17, 0xb6, 0x00, 0x1f, 0xb0]⟩
theorem own_f0 : decode own_fcode 0 = .ok (.aload_n 0, 1) := by decide +kernel
theorem own_f1 : decode own_fcode 1 = .ok (.getfield 19, 3) := by decide +kernel
theorem own_f4 : decode own_fcode 4 = .ok (.aload_n 0, 1) := by decide +kernel
theorem own_f5 : decode own_fcode 5 = .ok (.getfield 21, 3) := by decide +kernel
theorem own_f8 : decode own_fcode 8 = .ok (.aload_n 0, 1) := by decide +kernel
theorem own_f9 : decode own_fcode 9 = .ok (.getfield 23, 3) := by decide +kernel
theorem own_f12 : decode own_fcode 12 = .ok (.invokevirtual 31, 3) := by decide +kernel
theorem own_f15 : decode own_fcode 15 = .ok (.areturn, 1) := by decide +kernel
theorem own_fwd : Jvm.LamKit.fwdOK own_sig "com/example/contention/contention/KeyTree" own_fcode 1 (some (.object "java/util/Iterator")) 31 27 = true := by decide +kernel
theorem own_cap0 : Jvm.LamKit.capOK own_sig "com/example/contention/contention/KeyTree" 19 0 = true := by decide +kernel
theorem own_cap1 : Jvm.LamKit.capOK own_sig "com/example/contention/contention/KeyTree" 21 1 = true := by decide +kernel
theorem own_cap2 : Jvm.LamKit.capOK own_sig "com/example/contention/contention/KeyTree" 23 2 = true := by decide +kernel
/-- an object of the class that the site's rule has made, with what it holds -/
def LamO (Z : State) (h : Heap) (b : Addr) (vs : List Value) : Prop :=
  ∃ (cK : ClassId) (one : Option Addr) (cell : Cell), Z.lambdaAt? own_fx 3 58 own_sig = some (cK, one) ∧ h[b]? = some cell ∧ cell.cls = cK ∧ cell.vm = .none ∧ cell.slots = vs.toArray
theorem own_madeZ {cK : ClassId} {one : Option Addr} (w : Z.lambdaAt? own_fx 3 58 own_sig = some (cK, one)) :
    ∃ d dk, Z.vm.classes[d]? = some dk ∧ dk.name = "com/example/contention/contention/KeyTree" ∧ Jvm.Lambda.isMade { classPath := fun _ => none } Z.vm d own_sig cK = true ∧ Z.lambdaCallable own_sig cK = true := by
  obtain ⟨mD, kD, cfD, i0, p0, lk, hmD, hkD, -, -, -, -, hmade, hcan, -⟩ := State.lambdaAt?_spec w
  obtain ⟨kD', hkD', hnameD⟩ := className_of_methodNamed hmD
  cases hkD.symm.trans hkD'
  exact ⟨_, kD, hkD, hnameD, hmade, hcan⟩
set_option maxHeartbeats 4000000 in
theorem own_lamMake (X : Stand p l e R s m args below meth c T locs cells slots) (hx : p.tables.exec = Jvm.exec) (hZ : Z.Warmed39 s.vm) (hNm : s.methodNamed? own_fx = some m) (w : (Jvm.Cond.lambdaSite own_fx 3 58 own_sig).before a0 Z = true) (wO : (Jvm.Cond.instantiable "java/lang/Object" 0).before a0 Z = true) (eT : T.heap = h) (hsize : Ls.size = c.maxLocals) {a b : Addr} (hd : decode c.code 3 = .ok (.invokedynamic 58, 5)) (hl : 3 + 3072 ≤ R.locals) (hc : cells + 1 ≤ R.cells) (hs : slots + 3 ≤ R.slots)
    (k : ∀ T' h' o, o = h.size → Stand p l e R s m args below meth c T' locs (cells + 1) (slots + 3) → T'.heap = h' → Ext h h' → LamO Z h' o [.ref a, .ref b, .int 1] → Goes p e below FE n0 Q (T'.setTop (mkF m (3 + 5) Ls [.ref o]))) :
    Goes p e below FE n0 Q (T.setTop (mkF m 3 Ls [.int 1, .ref b, .ref a])) := by
  obtain ⟨cK, one, hat⟩ := Cond.lambdaSite_spec w
  obtain ⟨mD, kD, cfD, i0, p0, lk, hmD, hkD, hcfD, hsh, -, hfind, hmade, hcan, hlk⟩ := State.lambdaAt?_spec hat
  have hNZ : Z.methodNamed? own_fx = some m := by
    have q : (Z.setVm s.vm).methodNamed? own_fx = some m := hNm
    rw [State.methodNamed?_setVm hZ.alike] at q; exact q
  cases hNZ.symm.trans hmD
  obtain ⟨kD', hkD', hnameD⟩ := className_of_methodNamed hNZ
  cases hkD.symm.trans hkD'
  rcases hlk with ⟨_, _, -, -, hc0, -⟩ | ⟨rfl, rfl, -⟩
  · exact absurd hc0 (by decide)
  obtain ⟨bs, nt, desc, site, h1, h2, h3, h4⟩ := Jvm.Lambda.shapeOf?_site hsh
  obtain ⟨kc, f, hkc, hkind, hty, -⟩ := Jvm.LamKit.made_cap own_cap0 hkD hnameD hmade (Jvm.LamKit.noFields wO (State.WarmedH.refl Z))
  obtain ⟨kS, hkS, heS⟩ := hZ.alike.2.2 _ _ hkD
  obtain ⟨kc', hkc', hec⟩ := hZ.alike.2.2 _ _ hkc
  have hty' : kc'.instanceTypes = own_sig.captured.toArray := by rw [hec]; exact hty
  have hkind' : kc'.kind = .ordinary := by rw [hec]; exact hkind
  have hz' : ((kc'.instanceTypes.toList.zip [Value.ref a, Value.ref b, Value.int 1]).map fun (t, v) => narrow t v) = [Value.ref a, Value.ref b, Value.int 1] := by rw [hty']; first | rfl | (simp [own_sig, narrow]; done)
  have hfits : ∀ i v, ((kc'.instanceTypes.toList.zip [Value.ref a, Value.ref b, Value.int 1]).map fun (t, v) => narrow t v).toArray[i]? = some v → s.fitsSlot cK .none i v = true := fun i v hv => by
    rw [hz'] at hv
    rcases i with _ | _ | _ | i
    · simp at hv; subst hv; simp [State.fitsSlot, State.slotType?, hkc', hkind', hty', own_sig, fits]
    · simp at hv; subst hv; simp [State.fitsSlot, State.slotType?, hkc', hkind', hty', own_sig, fits]
    · simp at hv; subst hv; simp [State.fitsSlot, State.slotType?, hkc', hkind', hty', own_sig, fits]
    · simp at hv
  have q := X.lambdaMakes hx (g := mkF m 3 Ls [.int 1, .ref b, .ref a]) rfl hsize hd (vals := [Value.ref a, Value.ref b, Value.int 1]) (rest := []) hkS (by rw [heS]; exact hfind) (by rw [heS]; exact hcfD) h1 h2 (Jvm.ClassFile.parseLong_of_parse h3) (by rw [h4]; rfl) rfl hkc' (by rw [X.admits.platform]; show 2 * 0 + (1 + (1 + (1 + 0))) + 3072 ≤ R.locals; omega) hc (by rw [hz']; exact hs) hfits
  rw [hz'] at q
  subst eT
  exact Goes.via q.2 (k _ _ T.heap.size rfl (by simpa using q.1) rfl ⟨by show T.heap.size ≤ (T.heap.push _).size; simp, fun x cx hx => by rw [State.heap_pushCell_of_lt _ _ (Array.getElem?_eq_some_iff.mp hx).1]; exact hx⟩ ⟨cK, none, _, hat, State.heap_pushCell_size _ _, rfl, rfl, rfl⟩)
theorem own_lamAt (hadm : l.admits e) {V : State} (hV : Z.Warmed39 V.vm) {cK : ClassId} {one : Option Addr} (hat : Z.lambdaAt? own_fx 3 58 own_sig = some (cK, one)) (wO : (Jvm.Cond.instantiable "java/lang/Object" 0).before a0 Z = true) {bytes : ByteArray} {maxL nn : Nat} {ret : Option FieldType} (t1 : (Jvm.Cond.code own_ly bytes maxL ret).before a0 Z = true) (t2 : (Jvm.Cond.instanceMethod own_ly).before a0 Z = true) (t5 : (Jvm.Cond.instantiable own_ly.cls nn).before a0 Z = true) (t6 : (Jvm.Cond.privateMethod own_ly).before a0 Z = true) :
    ∃ methk ck cB, V.vm.method? ⟨cK, 1⟩ = some methk ∧ methk.code = some ck ∧ ck.code = own_fcode ∧ ck.maxLocals = 1 ∧ methk.locks = false ∧ methk.sig.returnType = some (.object "java/util/Iterator") ∧ V.plainMethod ⟨cK, 1⟩ ∧ Z.vm.findClass "com/example/contention/contention/KeyTree" = some cB ∧ Jvm.Free.Fw.VirtualAt e V cK 31 own_ly cB 2 ∧
      (∃ f, V.vm.fieldReady cK 19 cK f ∧ f.isStatic = false ∧ f.slot = 0) ∧ (∃ f, V.vm.fieldReady cK 21 cK f ∧ f.isStatic = false ∧ f.slot = 1) ∧ (∃ f, V.vm.fieldReady cK 23 cK f ∧ f.isStatic = false ∧ f.slot = 2) := by
  obtain ⟨d, dk, hd0, hdn, hmade, -⟩ := own_madeZ hat
  obtain ⟨kK, tk, file, methk, ck, toy, t, nt, hkK, hpn, hfile, hidx, hnt, hmk, hck, hbytes, hml, hlk, -, hretk, htoy, htk, hlook, hready, hclsR⟩ := Jvm.LamKit.made_static own_fwd hd0 hdn hmade
  have hO := Jvm.LamKit.noFields wO (State.WarmedH.refl Z)
  obtain ⟨-, g0, -, -, -, r0, s0, i0⟩ := Jvm.LamKit.made_cap own_cap0 hd0 hdn hmade hO
  obtain ⟨-, g1, -, -, -, r1, s1, i1⟩ := Jvm.LamKit.made_cap own_cap1 hd0 hdn hmade hO
  obtain ⟨-, g2, -, -, -, r2, s2, i2⟩ := Jvm.LamKit.made_cap own_cap2 hd0 hdn hmade hO
  obtain ⟨kV, hkV, heV⟩ := hV.alike.2.2 _ _ hkK
  obtain ⟨tV, htV, hetV⟩ := hV.alike.2.2 _ _ htk
  have hyp : own_ly.cls ≠ "java/lang/invoke/MethodHandle" ∧ own_ly.cls ≠ "java/lang/invoke/VarHandle" := by decide
  obtain ⟨tN, hnN⟩ := Cond.code_named t1
  have et : t = tN := Except.ok.inj (hlook.symm.trans (Jvm.Free.Fw.look_of_named hnN hyp _ _ htoy htk))
  subst et
  obtain ⟨cI, kI, j1, j2, -, j4, -⟩ := Cond.instantiable_spec t5
  cases htoy.symm.trans j1
  cases htk.symm.trans j2
  have hitf : tV.isInterface = false := by
    have q : tV.isInterface = tk.isInterface := by rw [hetV]; rfl
    rw [q]; exact (Bool.or_eq_false_iff.mp j4).1
  have hnV : V.methodNamed? own_ly = some t := by
    have q : (Z.setVm V.vm).methodNamed? own_ly = some t := by rw [State.methodNamed?_setVm hV.alike]; exact hnN
    exact q
  refine ⟨methk, ck, toy, by rw [hV.alike.method?]; exact hmk, hck, hbytes, hml, hlk, hretk, State.plainMethod.of_name (fun k' hk' => by cases hkV.symm.trans hk'; rw [heV]; exact hpn), htoy, ?_, ⟨g0, own_frd hV r0, s0, i0⟩, ⟨g1, own_frd hV r1, s1, i1⟩, ⟨g2, own_frd hV r2, s2, i2⟩⟩
  exact Jvm.Free.Fw.VirtualAt.of_made hadm (y := own_ly) (ci := 27) (nt := nt) hkV (by rw [heV]; exact hfile) hidx (own_mrd hV hready) (own_crd hV hclsR) (by rw [hV.alike.findClass]; exact htoy) htV hitf hnV hyp (mvT hV t1) (mvT hV t2) (mvT hV (own_selfsel t5 t2 t6 hyp)) (sig := ⟨[.array .byte, .boolean], some (.object "java/util/Iterator")⟩) (by decide +kernel) rfl
set_option maxHeartbeats 4000000 in
theorem own_lamBack (hx : p.tables.exec = Jvm.exec) (hadm : l.admits e) (hZ : Z.Warmed39 s.vm) {cK : ClassId} {one : Option Addr} (hat : Z.lambdaAt? own_fx 3 58 own_sig = some (cK, one)) (wO : (Jvm.Cond.instantiable "java/lang/Object" 0).before a0 Z = true) {bytes : ByteArray} {maxL nn W : Nat} {ret : Option FieldType} {rm : Room} {Q' : Option Value → Heap → Prop} (t1 : (Jvm.Cond.code own_ly bytes maxL ret).before a0 Z = true) (t2 : (Jvm.Cond.instanceMethod own_ly).before a0 Z = true) (t5 : (Jvm.Cond.instantiable own_ly.cls nn).before a0 Z = true) (t6 : (Jvm.Cond.privateMethod own_ly).before a0 Z = true) (t3 : (Jvm.Cond.initialized own_ly.cls).before a0 Z = true)
    (hf : rm.frames + 1 + 1 ≤ R.frames) (hl : W + (1 + 11) + (maxL + 11 + rm.locals) ≤ R.locals) {b a a2 : Addr} {cell : Cell} (hcell : h[b]? = some cell) (hvm : cell.vm = .none) (hslots : cell.slots = [Value.ref a, Value.ref a2, Value.int 1].toArray) (E : Exa Z h a "com/example/contention/contention/KeyTree") (M : Meets l own_ly bytes maxL ret [] rm rm.cells rm.slots Z #[.ref a, .ref a2, .int 1] h n0 Q') (hq : ∀ v h', Q' v h' → ∃ o, v = some (.ref o)) :
    BackW l R p e below s args (fun _ m' => m' = ⟨cK, 1⟩) 5 W (fun A v => v = #[.ref b] ∧ A.U.heap = h ∧ A.cells + rm.cells ≤ R.cells ∧ A.slots + rm.slots ≤ R.slots) (fun A _ v B => ∃ L, (Fr n0 L ∧ Q' v B.U.heap) ∧ B.locs = A.locs ++ L ∧ B.cells = A.cells + rm.cells ∧ B.slots = A.slots + rm.slots) := by
  intro m' meth' c' A gj ig mk av X hg hsize hdg hW hwho hpre
  obtain ⟨U, L, cc, nn'⟩ := A
  dsimp only [Pt.U, Pt.locs, Pt.cells, Pt.slots] at X hpre hwho ⊢
  obtain ⟨rfl, hheap, hcl, hsl⟩ := hpre
  subst hwho
  have hU : Z.Warmed39 U.vm := wtrans hZ X.warmed
  obtain ⟨methk, ck, cB, hmk, hck, hbytes, hml, hlk, hretk, hpk, hcB, -⟩ := own_lamAt hadm hU hat wO t1 t2 t5 t6
  obtain ⟨cr, kr0, hcr, hcrf, -, hcrs, -⟩ := E
  have hcrc : cr.cls = cB := Option.some.inj (hcrf.symm.trans hcB)
  have hcro : ∀ q, cr.vm ≠ .statics q := fun q z => by rw [z] at hcrs; cases hcrs
  obtain ⟨v, T', U₁, L₁, c₁, n₁, X', ⟨hF1, hQ1, rfl, rfl⟩, hh, -, -, steps⟩ := X.through hg hsize hdg #[.ref b] (R' := { frames := rm.frames + 1, cells := rm.cells, slots := rm.slots, locals := maxL + 11 + rm.locals }) hmk hck hlk hpk hf (by rw [hml]; dsimp only; omega) hcl hsl
    (Φ := fun v U₁ L₁ c₁ n₁ => Fr n0 L₁ ∧ Q' v U₁.heap ∧ c₁ = rm.cells ∧ n₁ = rm.slots)
    (fun U₀ hU₀ Y₀ => by
      have hvm0 : U₀.vm = U.vm := by rw [hU₀]; rfl
      have hhp : U₀.heap = h := by rw [hU₀]; exact hheap
      have hU0 : Z.Warmed39 U₀.vm := by rw [hvm0]; exact hU
      have hZ' : Z.Warmed39 (U.calling gj ⟨cK, 1⟩ #[.ref b]).vm := hU
      obtain ⟨-, -, cB', -, -, -, -, -, -, -, hcB', ⟨r, t, kr, kt, methr, metht, q1, q2, q3, q4, q5, q6, q7, q8, q9, q10, q11, q12, q13⟩, ⟨f0, a0', b0, c0⟩, ⟨f1, a1', b1, c1⟩, ⟨f2, a2', b2, c2⟩⟩ := own_lamAt hadm hU0 hat wO t1 t2 t5 t6
      cases hcB.symm.trans hcB'
      have e0 : decode ck.code 0 = .ok (.aload_n 0, 1) := by rw [hbytes]; exact own_f0
      have e1 : decode ck.code 1 = .ok (.getfield 19, 3) := by rw [hbytes]; exact own_f1
      have e4 : decode ck.code 4 = .ok (.aload_n 0, 1) := by rw [hbytes]; exact own_f4
      have e5 : decode ck.code 5 = .ok (.getfield 21, 3) := by rw [hbytes]; exact own_f5
      have e8 : decode ck.code 8 = .ok (.aload_n 0, 1) := by rw [hbytes]; exact own_f8
      have e9 : decode ck.code 9 = .ok (.getfield 23, 3) := by rw [hbytes]; exact own_f9
      have e12 : decode ck.code 12 = .ok (.invokevirtual 31, 3) := by rw [hbytes]; exact own_f12
      have e15 : decode ck.code 15 = .ok (.areturn, 1) := by rw [hbytes]; exact own_f15
      rw [hml]
      show ∃ v U₁ L₁ c₁ n₁, _ ∧ _ ∧ _ ∧ ∀ fs, _ → Steps p.tables e (.java gj :: below) (U₀.setTop { method := ⟨cK, 1⟩, pc := 0, locals := #[.val (.ref b)], stack := [], locked := none }) _
      have k0 : Steps p.tables e (.java gj :: below) (U₀.setTop { method := ⟨cK, 1⟩, pc := 0, locals := #[.val (.ref b)], stack := [], locked := none }) (U₀.setTop { method := ⟨cK, 1⟩, pc := 1, locals := #[.val (.ref b)], stack := [.ref b], locked := none }) := by
        jvm_step Y₀.here [hx, e0, Value.isRef]
        exact Steps.refl _
      have k1 := Y₀.getfieldR hx (g := { method := ⟨cK, 1⟩, pc := 1, locals := #[.val (.ref b)], stack := [.ref b], locked := none }) rfl (index := 19) (cF := cK) (a := b) (field := f0) (cell := cell) (v := .ref a) (rest := []) a0' b0 rfl (by rw [hhp]; exact hcell) (by rw [hvm]; decide) (by rw [c0, hslots]; rfl) e1 k0
      have k2 : Steps p.tables e (.java gj :: below) (U₀.setTop { method := ⟨cK, 1⟩, pc := 0, locals := #[.val (.ref b)], stack := [], locked := none }) (U₀.setTop { method := ⟨cK, 1⟩, pc := 5, locals := #[.val (.ref b)], stack := [.ref b, .ref a], locked := none }) := by
        refine k1.trans ?_
        jvm_step Y₀.here [hx, e4, Value.isRef]
        exact Steps.refl _
      have k3 := Y₀.getfieldR hx (g := { method := ⟨cK, 1⟩, pc := 5, locals := #[.val (.ref b)], stack := [.ref b, .ref a], locked := none }) rfl (index := 21) (cF := cK) (a := b) (field := f1) (cell := cell) (v := .ref a2) (rest := [.ref a]) a1' b1 rfl (by rw [hhp]; exact hcell) (by rw [hvm]; decide) (by rw [c1, hslots]; rfl) e5 k2
      have k4 : Steps p.tables e (.java gj :: below) (U₀.setTop { method := ⟨cK, 1⟩, pc := 0, locals := #[.val (.ref b)], stack := [], locked := none }) (U₀.setTop { method := ⟨cK, 1⟩, pc := 9, locals := #[.val (.ref b)], stack := [.ref b, .ref a2, .ref a], locked := none }) := by
        refine k3.trans ?_
        jvm_step Y₀.here [hx, e8, Value.isRef]
        exact Steps.refl _
      have k5 := Y₀.getfieldR hx (g := { method := ⟨cK, 1⟩, pc := 9, locals := #[.val (.ref b)], stack := [.ref b, .ref a2, .ref a], locked := none }) rfl (index := 23) (cF := cK) (a := b) (field := f2) (cell := cell) (v := .int 1) (rest := [.ref a2, .ref a]) a2' b2 rfl (by rw [hhp]; exact hcell) (by rw [hvm]; decide) (by rw [c2, hslots]; rfl) e9 k4
      have K : Back l { frames := rm.frames + 1, cells := rm.cells, slots := rm.slots, locals := maxL + 11 + rm.locals } p e (.java gj :: below) (U.calling gj ⟨cK, 1⟩ #[.ref b]) #[.ref b] own_ly 3 0 _ _ := backOf (W := 0) (Q := fun v h L => Fr n0 L ∧ Q' v h) M hZ' t1 t3 (Nat.le_refl _) (by show 0 + (maxL + 11) + rm.locals ≤ maxL + 11 + rm.locals; omega)
      obtain ⟨v, ⟨U₁, L₁, c₁, n₁⟩, Y₁, ⟨Lc, hQ, l1, l2, l3⟩, kE⟩ := Y₀.virtualR hx (g := { method := ⟨cK, 1⟩, pc := 12, locals := #[.val (.ref b)], stack := [.int 1, .ref a2, .ref a], locked := none }) rfl (by rw [hml]; rfl) (index := 31) (a := a) (y := own_ly) (cell := cr) (argsL := [.ref a2, .int 1]) (rest := []) q1 q2 q3 q4 q5 q6 q7.symm rfl (by rw [hhp]; exact hcr) hcro (by rw [hcrc]; exact q8) q9 q10 q11 q12 q13
        K (by show 2 * 0 + 0 ≤ 0; decide) ⟨rfl, hhp, by show 0 + rm.cells ≤ rm.cells; omega, by show 0 + rm.slots ≤ rm.slots; omega⟩ e12 k5
      dsimp only [Pt.U, Pt.locs, Pt.cells, Pt.slots] at Y₁ l1 l2 l3 hQ kE
      simp only [List.nil_append, Nat.zero_add] at l1 l2 l3
      subst l1 l2 l3
      obtain ⟨o, rfl⟩ := hq _ _ hQ.2
      exact ⟨some (.ref o), U₁, _, _, _, Y₁, (fun z => by rw [hretk] at z; cases z), ⟨hQ.1, hQ.2, rfl, rfl⟩, fun fs hleave => kE.trans (Y₁.areturnOut hx (w := .ref o) rfl hretk rfl e15 hleave)⟩)
  exact ⟨v, ⟨T', L ++ L₁, cc + rm.cells, nn' + rm.slots⟩, X', ⟨L₁, ⟨hF1, by show Q' v T'.heap; rw [hh]; exact hQ1⟩, rfl, rfl, rfl⟩, steps⟩
theorem own_lamCall (X : Stand p l e R s m args below meth c T locs cells slots) (hx : p.tables.exec = Jvm.exec) (hZ : Z.Warmed39 s.vm) {own : String} {index count : Nat} (hown : s.vm.findClass own = some m.cls) (w1 : (Jvm.Cond.methodLink own index own_xi).before a0 Z = true) (w2 : (Jvm.Cond.declares own_xi).before a0 Z = true) (w7 : (Jvm.Cond.interfaceMethod own_xi.cls own_xi.cls own_xi.name own_xi.desc).before a0 Z = true) (wO : (Jvm.Cond.instantiable "java/lang/Object" 0).before a0 Z = true) {bytes : ByteArray} {maxL nn W : Nat} {ret : Option FieldType} {rm : Room} {Q' : Option Value → Heap → Prop} (t1 : (Jvm.Cond.code own_ly bytes maxL ret).before a0 Z = true) (t2 : (Jvm.Cond.instanceMethod own_ly).before a0 Z = true) (t5 : (Jvm.Cond.instantiable own_ly.cls nn).before a0 Z = true) (t6 : (Jvm.Cond.privateMethod own_ly).before a0 Z = true) (t3 : (Jvm.Cond.initialized own_ly.cls).before a0 Z = true)
    (hf : rm.frames + 1 + 1 ≤ R.frames) (hl : W + (1 + 11) + (maxL + 11 + rm.locals) ≤ R.locals) (N : Fr n0 locs) (eT : T.heap = h) (hsize : Ls.size = c.maxLocals) (hW : (st.map fun v => v.category).sum ≤ W) (hc : cells + rm.cells ≤ R.cells) (hs : slots + rm.slots ≤ R.slots) {b a a2 : Addr} (F : LamO Z h b [.ref a, .ref a2, .int 1]) (E : Exa Z h a "com/example/contention/contention/KeyTree") (M : Meets l own_ly bytes maxL ret [] rm rm.cells rm.slots Z #[.ref a, .ref a2, .int 1] h n0 Q') (hq : ∀ v h', Q' v h' → ∃ o, v = some (.ref o)) (hd : decode c.code pc = .ok (.invokeinterface index count, 5))
    (k : ∀ v T' locs', Stand p l e R s m args below meth c T' locs' (cells + rm.cells) (slots + rm.slots) → Fr n0 locs' → Q' v T'.heap → Goes p e below FE n0 Q (T'.setTop (mkF m (pc + 5) Ls (v.toList ++ st)))) : Goes p e below FE n0 Q (T.setTop (mkF m pc Ls (.ref b :: st))) := by
  obtain ⟨cK, one, cell, hat, hcell, hcls, hvm, hslots⟩ := F
  obtain ⟨d, dk, hd0, hdn, hmade, hcan⟩ := own_madeZ hat
  obtain ⟨kK, tk, file, methk, ck, toy, t, nt, hkK, -, -, -, -, hmk, -, -, -, -, hfl, -⟩ := Jvm.LamKit.made_static own_fwd hd0 hdn hmade
  have fZ : Jvm.Free.HMW.FnX own_xi cK ⟨cK, 1⟩ Z := Jvm.Free.HMW.FnX.of_site hmade hcan rfl rfl (by decide +kernel) w7 hkK hmk hfl
  have fS : Jvm.Free.HMW.FnX own_xi cK ⟨cK, 1⟩ s := own_fnx hZ.alike fZ
  have K := own_lamBack (below := below) (args := args) (R := R) (W := W) hx X.admits hZ hat wO t1 t2 t5 t6 t3 hf hl hcell hvm hslots E M hq
  have ws : ∀ w ∈ Jvm.Free.Fn.fnW own index own_xi, w.before args s = true := fun w hw => by
    simp only [Jvm.Free.Fn.fnW, List.mem_cons, List.not_mem_nil, or_false] at hw
    rcases hw with rfl | rfl | rfl
    · exact mvT hZ w1
    · exact mvT hZ w2
    · exact mvT hZ w7 (by first | rfl | decide | simp [Cond.onTables, Cond.keepsFace, Cond.keeps, Cond.steady, Cond.faceAtom, own_xi])
  obtain ⟨v, _, ⟨T', L', k', n'⟩, -, X', ⟨Lc, hQ, l1, l2, l3⟩, st'⟩ := X.fnAt hx (own := own) (index := index) (count := count) (xi := own_xi) hown ws (by decide) fS K (fun _ _ => rfl) (b := b) ⟨cell, by rw [eT]; exact hcell, hcls, by rw [hvm]; rfl⟩ (g := mkF m pc Ls (.ref b :: st)) rfl hsize (Steps.refl _) (argsL := []) (rest := st) (fun sig z => by cases (by decide +kernel : parseMethodDescriptor own_xi.desc = some ⟨[], some (.object "java/util/Iterator")⟩).symm.trans z; rfl) rfl (by show 2 * 0 + _ ≤ _; omega) hd (fun _ _ => ⟨rfl, eT, hc, hs⟩)
  dsimp only [Pt.U, Pt.locs, Pt.cells, Pt.slots] at X' l1 l2 l3 st' hQ
  subst l1 l2 l3
  exact Goes.via (fun _ k => st'.trans k) (k v T' _ X' (Fr.app N hQ.1) hQ.2)
end OwnLam
abbrev cN : String := "com/example/contention/contention/KeyTree$Node"
abbrev cW : String := "com/example/contention/contention/KeyTree$Walk"
abbrev cT : String := "com/example/contention/contention/KeyTree"
abbrev cL : String := "com/example/contention/contention/KeyTreePublishPinLaw"
abbrev dN : String := "Lcom/example/contention/contention/KeyTree$Node;"
abbrev dA : String := "[Lcom/example/contention/contention/KeyTree$Node;"
abbrev y1 : MethodName := (⟨"com/example/contention/contention/KeyTree", "<init>", "()V"⟩ : MethodName)
abbrev y2 : MethodName := (⟨"java/lang/Object", "<init>", "()V"⟩ : MethodName)
abbrev y3 : MethodName := (⟨"com/example/contention/contention/KeyTree$Node", "<init>", "(JZ)V"⟩ : MethodName)
abbrev y4 : MethodName := (⟨"com/example/contention/contention/KeyTree", "add", "([B)Z"⟩ : MethodName)
abbrev y5 : MethodName := (⟨"com/example/contention/contention/KeyTree", "owned", "(Lcom/example/contention/contention/KeyTree$Node;)Lcom/example/contention/contention/KeyTree$Node;"⟩ : MethodName)
abbrev y6 : MethodName := (⟨"com/example/contention/contention/KeyTree$Node", "<init>", "(JLcom/example/contention/contention/KeyTree$Node;)V"⟩ : MethodName)
abbrev y7 : MethodName := (⟨"com/example/contention/contention/KeyTree", "insert", "(Lcom/example/contention/contention/KeyTree$Node;[B)Lcom/example/contention/contention/KeyTree$Node;"⟩ : MethodName)
abbrev y8 : MethodName := (⟨"com/example/contention/contention/KeyTree$Node", "isLeaf", "()Z"⟩ : MethodName)
abbrev y9 : MethodName := (⟨"com/example/contention/contention/KeyTree", "lowerBound", "(Lcom/example/contention/contention/KeyTree$Node;[B)I"⟩ : MethodName)
abbrev y10 : MethodName := (⟨"com/example/contention/contention/KeyTree", "putOrSplit", "(Lcom/example/contention/contention/KeyTree$Node;I[BLcom/example/contention/contention/KeyTree$Node;)Lcom/example/contention/contention/KeyTree$Node;"⟩ : MethodName)
abbrev y11 : MethodName := (⟨"com/example/contention/contention/KeyTree$Node", "put", "(I[BLcom/example/contention/contention/KeyTree$Node;)V"⟩ : MethodName)
abbrev y12 : MethodName := (⟨"com/example/contention/contention/KeyTreePublishPinLaw", "seen", "(Lcom/example/contention/contention/KeyTree;)I"⟩ : MethodName)
abbrev y13 : MethodName := (⟨"com/example/contention/contention/KeyTree", "from", "([BZ)Ljava/lang/Iterable;"⟩ : MethodName)
abbrev y14 : MethodName := (⟨"com/example/contention/contention/KeyTree", "lambda$from$0", "([BZ)Ljava/util/Iterator;"⟩ : MethodName)
abbrev y15 : MethodName := (⟨"com/example/contention/contention/KeyTree$Walk", "<init>", "(Lcom/example/contention/contention/KeyTree$Node;[BZ)V"⟩ : MethodName)
abbrev y16 : MethodName := (⟨"com/example/contention/contention/KeyTree$Walk", "settle", "()V"⟩ : MethodName)
abbrev y17 : MethodName := (⟨"com/example/contention/contention/KeyTree$Walk", "hasNext", "()Z"⟩ : MethodName)
abbrev y18 : MethodName := (⟨"java/util/Arrays", "compareUnsigned", "([B[B)I"⟩ : MethodName)
abbrev y19 : MethodName := (⟨"java/lang/Math", "min", "(II)I"⟩ : MethodName)
abbrev y20 : MethodName := (⟨"jdk/internal/util/ArraysSupport", "mismatch", "([B[BI)I"⟩ : MethodName)
abbrev y21 : MethodName := (⟨"java/lang/Byte", "compareUnsigned", "(BB)I"⟩ : MethodName)
abbrev y22 : MethodName := (⟨"java/lang/Byte", "toUnsignedInt", "(B)I"⟩ : MethodName)
abbrev y23 : MethodName := (⟨"com/example/contention/contention/KeyTree", "remove", "([B)Z"⟩ : MethodName)
abbrev y24 : MethodName := (⟨"com/example/contention/contention/KeyTree", "delete", "(Lcom/example/contention/contention/KeyTree$Node;[B)V"⟩ : MethodName)
abbrev y25 : MethodName := (⟨"java/util/Arrays", "equals", "([B[B)Z"⟩ : MethodName)
abbrev y26 : MethodName := (⟨"com/example/contention/contention/KeyTree$Node", "removeAt", "(I)V"⟩ : MethodName)
abbrev y27 : MethodName := (⟨"com/example/contention/contention/KeyTree$Node", "dropRange", "(II)V"⟩ : MethodName)
abbrev y28 : MethodName := (⟨"java/util/Arrays", "fill", "([Ljava/lang/Object;IILjava/lang/Object;)V"⟩ : MethodName)
abbrev y29 : MethodName := (⟨"java/util/Arrays", "rangeCheck", "(III)V"⟩ : MethodName)
abbrev y30 : MethodName := (⟨"com/example/contention/contention/KeyTree", "publish", "()V"⟩ : MethodName)
abbrev y31 : MethodName := (⟨"com/example/contention/contention/KeyTreePublishPinLaw", "one", "(I)I"⟩ : MethodName)
abbrev y32 : MethodName := (⟨"com/example/contention/contention/KeyTree$Walk", "next", "()Ljava/lang/Object;"⟩ : MethodName)
abbrev y33 : MethodName := (⟨"com/example/contention/contention/KeyTree$Walk", "next", "()[B"⟩ : MethodName)
abbrev y34 : MethodName := (⟨"com/example/contention/contention/KeyTreePublishPinLaw", "code", "([B)I"⟩ : MethodName)
abbrev y35 : MethodName := (⟨"java/lang/Math", "max", "(II)I"⟩ : MethodName)
abbrev y36 : MethodName := (⟨"com/example/contention/contention/KeyTreePublishPinLaw", "two", "(II)I"⟩ : MethodName)
theorem own_xt (a : Int32) : (((a.toInt8.toInt32).toInt8.toInt32) &&& (255 : Int32)).toInt = (a &&& (255 : Int32)).toInt := by
  have h1 := c_i2b a
  have h2 := c_i2b (a.toInt8.toInt32)
  have e1 := c_mask ((a.toInt8.toInt32).toInt8.toInt32) 255 8 (by decide) (by decide)
  have e2 := c_mask a 255 8 (by decide) (by decide)
  rw [e1, e2]
  simp only [Nat.reducePow]
  omega
theorem own_ux (a : Int32) : (((a.toInt8.toInt32).toInt8.toInt32) &&& (255 : Int32)) = (a &&& (255 : Int32)) := Int32.toInt_inj.mp (own_xt a)
theorem own_ur (x : Int32) : 0 ≤ (x &&& (255 : Int32)).toInt ∧ (x &&& (255 : Int32)).toInt ≤ 255 := by
  have e := c_mask x 255 8 (by decide) (by decide)
  simp only [Nat.reducePow] at e
  omega
theorem own_unn (x : Int32) : ¬ ((x &&& (255 : Int32)) < (0 : Int32)) := by
  have e := own_ur x
  have z : (0 : Int32).toInt = 0 := by decide
  rw [Int32.lt_iff_toInt_lt, z]
  omega
theorem own_lts (x y : Int32) : ((x &&& (255 : Int32)) - (y &&& (255 : Int32))) < (0 : Int32) ↔ (x &&& (255 : Int32)).toInt < (y &&& (255 : Int32)).toInt := by
  have z : (0 : Int32).toInt = 0 := by decide
  have a := own_ur x
  have b := own_ur y
  have c := c_isub (x &&& (255 : Int32)) (y &&& (255 : Int32))
  have d := rng32 ((x &&& (255 : Int32)) - (y &&& (255 : Int32)))
  rw [Int32.lt_iff_toInt_lt, z]
  omega
theorem own_xx {a b : Int32} (h : (a &&& (255 : Int32)) = (b &&& (255 : Int32))) : ((a.toInt8.toInt32).toInt8.toInt32) = ((b.toInt8.toInt32).toInt8.toInt32) := by
  have h1 := c_i2b a
  have h2 := c_i2b (a.toInt8.toInt32)
  have h3 := c_i2b b
  have h4 := c_i2b (b.toInt8.toInt32)
  have e1 := c_mask a 255 8 (by decide) (by decide)
  have e2 := c_mask b 255 8 (by decide) (by decide)
  have e3 := congrArg Int32.toInt h
  rw [e1, e2] at e3
  simp only [Nat.reducePow] at e3
  apply Int32.toInt_inj.mp
  omega
theorem own_tri (a b : Int32) : ((a &&& (255 : Int32)) = (b &&& (255 : Int32)) ∧ ((a.toInt8.toInt32).toInt8.toInt32) = ((b.toInt8.toInt32).toInt8.toInt32)) ∨ (¬ ((a &&& (255 : Int32)) = (b &&& (255 : Int32))) ∧ ¬ (((a.toInt8.toInt32).toInt8.toInt32) = ((b.toInt8.toInt32).toInt8.toInt32)) ∧ ¬ (((b.toInt8.toInt32).toInt8.toInt32) = ((a.toInt8.toInt32).toInt8.toInt32)) ∧ (a &&& (255 : Int32)) < (b &&& (255 : Int32)) ∧ ¬ ((b &&& (255 : Int32)) < (a &&& (255 : Int32))) ∧ ((((a.toInt8.toInt32).toInt8.toInt32) &&& (255 : Int32)) - (((b.toInt8.toInt32).toInt8.toInt32) &&& (255 : Int32))) < (0 : Int32) ∧ ¬ (((((b.toInt8.toInt32).toInt8.toInt32) &&& (255 : Int32)) - (((a.toInt8.toInt32).toInt8.toInt32) &&& (255 : Int32))) < (0 : Int32))) ∨ (¬ ((a &&& (255 : Int32)) = (b &&& (255 : Int32))) ∧ ¬ (((a.toInt8.toInt32).toInt8.toInt32) = ((b.toInt8.toInt32).toInt8.toInt32)) ∧ ¬ (((b.toInt8.toInt32).toInt8.toInt32) = ((a.toInt8.toInt32).toInt8.toInt32)) ∧ (b &&& (255 : Int32)) < (a &&& (255 : Int32)) ∧ ¬ ((a &&& (255 : Int32)) < (b &&& (255 : Int32))) ∧ ¬ (((((a.toInt8.toInt32).toInt8.toInt32) &&& (255 : Int32)) - (((b.toInt8.toInt32).toInt8.toInt32) &&& (255 : Int32))) < (0 : Int32)) ∧ ((((b.toInt8.toInt32).toInt8.toInt32) &&& (255 : Int32)) - (((a.toInt8.toInt32).toInt8.toInt32) &&& (255 : Int32))) < (0 : Int32)) := by
  by_cases h : (a &&& (255 : Int32)) = (b &&& (255 : Int32))
  · exact Or.inl ⟨h, own_xx h⟩
  · have hx : ¬ (((a.toInt8.toInt32).toInt8.toInt32) = ((b.toInt8.toInt32).toInt8.toInt32)) := fun q => h (by rw [← own_ux a, ← own_ux b, q])
    have hy : ¬ (((b.toInt8.toInt32).toInt8.toInt32) = ((a.toInt8.toInt32).toInt8.toInt32)) := fun q => hx q.symm
    have ht : (a &&& (255 : Int32)).toInt ≠ (b &&& (255 : Int32)).toInt := fun q => h (Int32.toInt_inj.mp q)
    rw [own_lts, own_lts, own_xt, own_xt, Int32.lt_iff_toInt_lt, Int32.lt_iff_toInt_lt]
    by_cases g : (a &&& (255 : Int32)).toInt < (b &&& (255 : Int32)).toInt
    · exact Or.inr (Or.inl ⟨h, hx, hy, g, by omega, g, by omega⟩)
    · exact Or.inr (Or.inr ⟨h, hx, hy, by omega, g, g, by omega⟩)
theorem d22_0 : decode jdk_2056_method_24_code 0 = .ok (.iload_n 0, 1) := by decide +kernel
theorem d22_1 : decode jdk_2056_method_24_code 1 = .ok (.sipush 255, 3) := by decide +kernel
theorem d22_4 : decode jdk_2056_method_24_code 4 = .ok (.iand, 1) := by decide +kernel
theorem d22_5 : decode jdk_2056_method_24_code 5 = .ok (.ireturn, 1) := by decide +kernel
theorem pn_0 : plainName "java/lang/Byte" = true := by first | (simp [plainName, overriddenIn]; done) | decide +kernel
def Q22 (Z : State) (p1 : Int32) (h0 : Heap) (n0 : Nat) (v : Option Value) (h : Heap) : Prop :=
  (v = some (.int (p1 &&& (255 : Int32))) ∧ h = h0)
theorem ef_22 (m : MethodId) (p1 : Int32) : entryFrame m #[(.int p1)] 1 = mkF m 0 #[.val (.int p1)] [] := by first | (simp [entryFrame, mkF, argsToLocals, Value.category]; done) | rfl
set_option maxRecDepth 65536 in
set_option maxHeartbeats 40000000 in
theorem rm22 (l : Launch) (Z : State) (a0 : Array Value) (hw : ∀ d ∈ tables_1, d.before a0 Z = true) (ws : List Jvm.Cond) (p1 : Int32) (h0 : Heap) (n0 : Nat) (O0 : Old Z n0 h0) :
    Meets l y22 jdk_2056_method_24_code 1 (some .int) ws ({ frames := 0, cells := 0, slots := 0, locals := 0 } : Room) ({ frames := 0, cells := 0, slots := 0, locals := 0 } : Room).cells ({ frames := 0, cells := 0, slots := 0, locals := 0 } : Room).slots Z #[(.int p1)] h0 n0 (Q22 Z p1 h0 n0) := by
  refine Meets.of (F := fun m => mkF m 0 #[.val (.int p1)] []) (plainFor_of_name pn_0) (fun m => ef_22 m p1) ?_
  intro p e s m below meth c T0 hx hby hml hown0 hnm hret hlk hZ X0 e0
  have hown : s.vm.findClass "java/lang/Byte" = some m.cls := hown0
  have N0 := Fr.nil n0
  show Goes _ _ _ _ _ _ (T0.setTop (mkF m 0 #[.val (.int p1)] []))
  refine own_iloadN X0 hx (hb hby d22_0) rfl ?_
  refine own_sipush X0 hx (v := (255 : Int32)) (hb hby d22_1) rfl ?_
  refine own_iand X0 hx (hb hby d22_4) ?_
  show Goes _ _ _ _ _ _ (T0.setTop (mkF m 5 #[.val (.int p1)] [(.int (p1 &&& (255 : Int32)))]))
  exact own_retI X0 hx N0 hlk (by decide) (by decide) hret (hb hby d22_5) (by rw [e0]; exact ⟨rfl, rfl⟩)
theorem d21_0 : decode jdk_2056_method_23_code 0 = .ok (.iload_n 0, 1) := by decide +kernel
theorem d21_1 : decode jdk_2056_method_23_code 1 = .ok (.invokestatic 116, 3) := by decide +kernel
theorem pd_0 : parseMethodDescriptor "(B)I" = some ⟨[.byte], some .int⟩ := by decide +kernel
theorem d21_4 : decode jdk_2056_method_23_code 4 = .ok (.iload_n 1, 1) := by decide +kernel
theorem d21_5 : decode jdk_2056_method_23_code 5 = .ok (.invokestatic 116, 3) := by decide +kernel
theorem d21_8 : decode jdk_2056_method_23_code 8 = .ok (.isub, 1) := by decide +kernel
theorem d21_9 : decode jdk_2056_method_23_code 9 = .ok (.ireturn, 1) := by decide +kernel
def Q21 (Z : State) (p1 : Int32) (p2 : Int32) (h0 : Heap) (n0 : Nat) (v : Option Value) (h : Heap) : Prop :=
  (v = some (.int ((p1 &&& (255 : Int32)) - (p2 &&& (255 : Int32)))) ∧ h = h0)
theorem ef_21 (m : MethodId) (p1 : Int32) (p2 : Int32) : entryFrame m #[(.int p1), (.int p2)] 2 = mkF m 0 #[.val (.int p1), .val (.int p2)] [] := by first | (simp [entryFrame, mkF, argsToLocals, Value.category]; done) | rfl
set_option maxRecDepth 65536 in
set_option maxHeartbeats 40000000 in
theorem rm21 (l : Launch) (Z : State) (a0 : Array Value) (hw : ∀ d ∈ tables_1, d.before a0 Z = true) (ws : List Jvm.Cond) (p1 : Int32) (p2 : Int32) (h0 : Heap) (n0 : Nat) (O0 : Old Z n0 h0) :
    Meets l y21 jdk_2056_method_23_code 2 (some .int) ws ({ frames := 1, cells := 0, slots := 0, locals := 13 } : Room) ({ frames := 1, cells := 0, slots := 0, locals := 13 } : Room).cells ({ frames := 1, cells := 0, slots := 0, locals := 13 } : Room).slots Z #[(.int p1), (.int p2)] h0 n0 (Q21 Z p1 p2 h0 n0) := by
  refine Meets.of (F := fun m => mkF m 0 #[.val (.int p1), .val (.int p2)] []) (plainFor_of_name pn_0) (fun m => ef_21 m p1 p2) ?_
  intro p e s m below meth c T0 hx hby hml hown0 hnm hret hlk hZ X0 e0
  have hown : s.vm.findClass "java/lang/Byte" = some m.cls := hown0
  have N0 := Fr.nil n0
  show Goes _ _ _ _ _ _ (T0.setTop (mkF m 0 #[.val (.int p1), .val (.int p2)] []))
  refine own_iloadN X0 hx (hb hby d21_0) rfl ?_
  refine own_callS X0 hx hZ hown (y := y22) (own_w hw 152 rfl) (own_w hw 153 rfl) (own_w hw 150 rfl) (own_w hw 154 rfl) (by decide) (W := 0) (by decide) (by decide) N0 e0 (by rw [hml]; rfl) (argsL := [(.int p1)]) (rest := []) (lenOf pd_0 rfl) (Nat.le_of_eq rfl) (by decide) (by decide) (rm22 l Z a0 hw [] p1 h0 n0 O0) rfl (hb hby d21_1) ?_
  intro v1 T1 lc1 X1 N1 hQ1
  obtain ⟨rfl, e1⟩ := hQ1
  refine own_iloadN X1 hx (hb hby d21_4) rfl ?_
  refine own_callS X1 hx hZ hown (y := y22) (own_w hw 152 rfl) (own_w hw 153 rfl) (own_w hw 150 rfl) (own_w hw 154 rfl) (by decide) (W := 1) (by decide) (by decide) N1 e1 (by rw [hml]; rfl) (argsL := [(.int p2)]) (rest := [(.int (p1 &&& (255 : Int32)))]) (lenOf pd_0 rfl) (Nat.le_of_eq rfl) (by decide) (by decide) (rm22 l Z a0 hw [] p2 h0 n0 O0) rfl (hb hby d21_5) ?_
  intro v2 T2 lc2 X2 N2 hQ2
  obtain ⟨rfl, e2⟩ := hQ2
  refine own_isub X2 hx (hb hby d21_8) ?_
  show Goes _ _ _ _ _ _ (T2.setTop (mkF m 9 #[.val (.int p1), .val (.int p2)] [(.int ((p1 &&& (255 : Int32)) - (p2 &&& (255 : Int32))))]))
  exact own_retI X2 hx N2 hlk (by decide) (by decide) hret (hb hby d21_9) (by rw [e2]; exact ⟨rfl, rfl⟩)
theorem d19_0 : decode jdk_29_method_69_code 0 = .ok (.iload_n 0, 1) := by decide +kernel
theorem d19_1 : decode jdk_29_method_69_code 1 = .ok (.iload_n 1, 1) := by decide +kernel
theorem d19_2 : decode jdk_29_method_69_code 2 = .ok (.if_icmp .gt 7, 3) := by decide +kernel
theorem d19_5 : decode jdk_29_method_69_code 5 = .ok (.iload_n 0, 1) := by decide +kernel
theorem d19_6 : decode jdk_29_method_69_code 6 = .ok (.goto 4, 3) := by decide +kernel
theorem d19_10 : decode jdk_29_method_69_code 10 = .ok (.ireturn, 1) := by decide +kernel
def Q1911 (Z : State) (h0 : Heap) (n0 : Nat) (v : Option Value) (h : Heap) : Prop :=
  (v = some (.int (1 : Int32)) ∧ h = h0)
theorem ef_1911 (m : MethodId) : entryFrame m #[(.int (1 : Int32)), (.int (1 : Int32))] 2 = mkF m 0 #[.val (.int (1 : Int32)), .val (.int (1 : Int32))] [] := by first | (simp [entryFrame, mkF, argsToLocals, Value.category]; done) | rfl
set_option maxRecDepth 65536 in
set_option maxHeartbeats 40000000 in
theorem rm1911 (l : Launch) (Z : State) (a0 : Array Value) (hw : ∀ d ∈ tables_1, d.before a0 Z = true) (ws : List Jvm.Cond) (h0 : Heap) (n0 : Nat) (O0 : Old Z n0 h0) :
    Meets l y19 jdk_29_method_69_code 2 (some .int) ws ({ frames := 0, cells := 0, slots := 0, locals := 0 } : Room) ({ frames := 0, cells := 0, slots := 0, locals := 0 } : Room).cells ({ frames := 0, cells := 0, slots := 0, locals := 0 } : Room).slots Z #[(.int (1 : Int32)), (.int (1 : Int32))] h0 n0 (Q1911 Z h0 n0) := by
  refine Meets.of (F := fun m => mkF m 0 #[.val (.int (1 : Int32)), .val (.int (1 : Int32))] []) (Jvm.Free.JP.mathPlain rfl (by decide +kernel)) (fun m => ef_1911 m) ?_
  intro p e s m below meth c T0 hx hby hml hown0 hnm hret hlk hZ X0 e0
  have hown : s.vm.findClass "java/lang/Math" = some m.cls := hown0
  have N0 := Fr.nil n0
  show Goes _ _ _ _ _ _ (T0.setTop (mkF m 0 #[.val (.int (1 : Int32)), .val (.int (1 : Int32))] []))
  refine own_iloadN X0 hx (hb hby d19_0) rfl ?_
  refine own_iloadN X0 hx (hb hby d19_1) rfl ?_
  refine own_icmpNo X0 hx (hb hby d19_2) (flt (by decide : ¬ ((1 : Int32) < (1 : Int32)))).2.2.1 ?_
  refine own_iloadN X0 hx (hb hby d19_5) rfl ?_
  refine own_goto X0 hx (pc' := 10) (hb hby d19_6) (by decide) (by decide) ?_
  show Goes _ _ _ _ _ _ (T0.setTop (mkF m 10 #[.val (.int (1 : Int32)), .val (.int (1 : Int32))] [(.int (1 : Int32))]))
  exact own_retI X0 hx N0 hlk (by decide) (by decide) hret (hb hby d19_10) (by rw [e0]; exact ⟨rfl, rfl⟩)
theorem d19_9 : decode jdk_29_method_69_code 9 = .ok (.iload_n 1, 1) := by decide +kernel
def Q1910 (Z : State) (h0 : Heap) (n0 : Nat) (v : Option Value) (h : Heap) : Prop :=
  (v = some (.int (0 : Int32)) ∧ h = h0)
theorem ef_1910 (m : MethodId) : entryFrame m #[(.int (1 : Int32)), (.int (0 : Int32))] 2 = mkF m 0 #[.val (.int (1 : Int32)), .val (.int (0 : Int32))] [] := by first | (simp [entryFrame, mkF, argsToLocals, Value.category]; done) | rfl
set_option maxRecDepth 65536 in
set_option maxHeartbeats 40000000 in
theorem rm1910 (l : Launch) (Z : State) (a0 : Array Value) (hw : ∀ d ∈ tables_1, d.before a0 Z = true) (ws : List Jvm.Cond) (h0 : Heap) (n0 : Nat) (O0 : Old Z n0 h0) :
    Meets l y19 jdk_29_method_69_code 2 (some .int) ws ({ frames := 0, cells := 0, slots := 0, locals := 0 } : Room) ({ frames := 0, cells := 0, slots := 0, locals := 0 } : Room).cells ({ frames := 0, cells := 0, slots := 0, locals := 0 } : Room).slots Z #[(.int (1 : Int32)), (.int (0 : Int32))] h0 n0 (Q1910 Z h0 n0) := by
  refine Meets.of (F := fun m => mkF m 0 #[.val (.int (1 : Int32)), .val (.int (0 : Int32))] []) (Jvm.Free.JP.mathPlain rfl (by decide +kernel)) (fun m => ef_1910 m) ?_
  intro p e s m below meth c T0 hx hby hml hown0 hnm hret hlk hZ X0 e0
  have hown : s.vm.findClass "java/lang/Math" = some m.cls := hown0
  have N0 := Fr.nil n0
  show Goes _ _ _ _ _ _ (T0.setTop (mkF m 0 #[.val (.int (1 : Int32)), .val (.int (0 : Int32))] []))
  refine own_iloadN X0 hx (hb hby d19_0) rfl ?_
  refine own_iloadN X0 hx (hb hby d19_1) rfl ?_
  refine own_icmpYes X0 hx (pc' := 9) (hb hby d19_2) (tlt (by decide : (0 : Int32) < (1 : Int32))).2.2.1 (by decide) (by decide) ?_
  refine own_iloadN X0 hx (hb hby d19_9) rfl ?_
  show Goes _ _ _ _ _ _ (T0.setTop (mkF m 10 #[.val (.int (1 : Int32)), .val (.int (0 : Int32))] [(.int (0 : Int32))]))
  exact own_retI X0 hx N0 hlk (by decide) (by decide) hret (hb hby d19_10) (by rw [e0]; exact ⟨rfl, rfl⟩)
def Q19l (Z : State) (p1 : Int32) (p2 : Int32) (h0 : Heap) (n0 : Nat) (v : Option Value) (h : Heap) : Prop :=
  (v = some (.int p1) ∧ h = h0)
theorem ef_19l (m : MethodId) (p1 : Int32) (p2 : Int32) : entryFrame m #[(.int p1), (.int p2)] 2 = mkF m 0 #[.val (.int p1), .val (.int p2)] [] := by first | (simp [entryFrame, mkF, argsToLocals, Value.category]; done) | rfl
set_option maxRecDepth 65536 in
set_option maxHeartbeats 40000000 in
theorem rm19l (l : Launch) (Z : State) (a0 : Array Value) (hw : ∀ d ∈ tables_1, d.before a0 Z = true) (ws : List Jvm.Cond) (p1 : Int32) (p2 : Int32) (h0 : Heap) (n0 : Nat) (O0 : Old Z n0 h0) (hpl : ¬ (p2 < p1)) :
    Meets l y19 jdk_29_method_69_code 2 (some .int) ws ({ frames := 0, cells := 0, slots := 0, locals := 0 } : Room) ({ frames := 0, cells := 0, slots := 0, locals := 0 } : Room).cells ({ frames := 0, cells := 0, slots := 0, locals := 0 } : Room).slots Z #[(.int p1), (.int p2)] h0 n0 (Q19l Z p1 p2 h0 n0) := by
  refine Meets.of (F := fun m => mkF m 0 #[.val (.int p1), .val (.int p2)] []) (Jvm.Free.JP.mathPlain rfl (by decide +kernel)) (fun m => ef_19l m p1 p2) ?_
  intro p e s m below meth c T0 hx hby hml hown0 hnm hret hlk hZ X0 e0
  have hown : s.vm.findClass "java/lang/Math" = some m.cls := hown0
  have N0 := Fr.nil n0
  show Goes _ _ _ _ _ _ (T0.setTop (mkF m 0 #[.val (.int p1), .val (.int p2)] []))
  refine own_iloadN X0 hx (hb hby d19_0) rfl ?_
  refine own_iloadN X0 hx (hb hby d19_1) rfl ?_
  refine own_icmpNo X0 hx (hb hby d19_2) (flt (hpl : ¬ (p2 < p1))).2.2.1 ?_
  refine own_iloadN X0 hx (hb hby d19_5) rfl ?_
  refine own_goto X0 hx (pc' := 10) (hb hby d19_6) (by decide) (by decide) ?_
  show Goes _ _ _ _ _ _ (T0.setTop (mkF m 10 #[.val (.int p1), .val (.int p2)] [(.int p1)]))
  exact own_retI X0 hx N0 hlk (by decide) (by decide) hret (hb hby d19_10) (by rw [e0]; exact ⟨rfl, rfl⟩)
def Q19g (Z : State) (p1 : Int32) (p2 : Int32) (h0 : Heap) (n0 : Nat) (v : Option Value) (h : Heap) : Prop :=
  (v = some (.int p2) ∧ h = h0)
theorem ef_19g (m : MethodId) (p1 : Int32) (p2 : Int32) : entryFrame m #[(.int p1), (.int p2)] 2 = mkF m 0 #[.val (.int p1), .val (.int p2)] [] := by first | (simp [entryFrame, mkF, argsToLocals, Value.category]; done) | rfl
set_option maxRecDepth 65536 in
set_option maxHeartbeats 40000000 in
theorem rm19g (l : Launch) (Z : State) (a0 : Array Value) (hw : ∀ d ∈ tables_1, d.before a0 Z = true) (ws : List Jvm.Cond) (p1 : Int32) (p2 : Int32) (h0 : Heap) (n0 : Nat) (O0 : Old Z n0 h0) (hpl : p2 < p1) :
    Meets l y19 jdk_29_method_69_code 2 (some .int) ws ({ frames := 0, cells := 0, slots := 0, locals := 0 } : Room) ({ frames := 0, cells := 0, slots := 0, locals := 0 } : Room).cells ({ frames := 0, cells := 0, slots := 0, locals := 0 } : Room).slots Z #[(.int p1), (.int p2)] h0 n0 (Q19g Z p1 p2 h0 n0) := by
  refine Meets.of (F := fun m => mkF m 0 #[.val (.int p1), .val (.int p2)] []) (Jvm.Free.JP.mathPlain rfl (by decide +kernel)) (fun m => ef_19g m p1 p2) ?_
  intro p e s m below meth c T0 hx hby hml hown0 hnm hret hlk hZ X0 e0
  have hown : s.vm.findClass "java/lang/Math" = some m.cls := hown0
  have N0 := Fr.nil n0
  show Goes _ _ _ _ _ _ (T0.setTop (mkF m 0 #[.val (.int p1), .val (.int p2)] []))
  refine own_iloadN X0 hx (hb hby d19_0) rfl ?_
  refine own_iloadN X0 hx (hb hby d19_1) rfl ?_
  refine own_icmpYes X0 hx (pc' := 9) (hb hby d19_2) (tlt (hpl : p2 < p1)).2.2.1 (by decide) (by decide) ?_
  refine own_iloadN X0 hx (hb hby d19_9) rfl ?_
  show Goes _ _ _ _ _ _ (T0.setTop (mkF m 10 #[.val (.int p1), .val (.int p2)] [(.int p2)]))
  exact own_retI X0 hx N0 hlk (by decide) (by decide) hret (hb hby d19_10) (by rw [e0]; exact ⟨rfl, rfl⟩)
theorem d35_0 : decode jdk_29_method_65_code 0 = .ok (.iload_n 0, 1) := by decide +kernel
theorem d35_1 : decode jdk_29_method_65_code 1 = .ok (.iload_n 1, 1) := by decide +kernel
theorem d35_2 : decode jdk_29_method_65_code 2 = .ok (.if_icmp .lt 7, 3) := by decide +kernel
theorem d35_9 : decode jdk_29_method_65_code 9 = .ok (.iload_n 1, 1) := by decide +kernel
theorem d35_10 : decode jdk_29_method_65_code 10 = .ok (.ireturn, 1) := by decide +kernel
def Q35l (Z : State) (p1 : Int32) (p2 : Int32) (h0 : Heap) (n0 : Nat) (v : Option Value) (h : Heap) : Prop :=
  (v = some (.int p2) ∧ h = h0)
theorem ef_35l (m : MethodId) (p1 : Int32) (p2 : Int32) : entryFrame m #[(.int p1), (.int p2)] 2 = mkF m 0 #[.val (.int p1), .val (.int p2)] [] := by first | (simp [entryFrame, mkF, argsToLocals, Value.category]; done) | rfl
set_option maxRecDepth 65536 in
set_option maxHeartbeats 40000000 in
theorem rm35l (l : Launch) (Z : State) (a0 : Array Value) (hw : ∀ d ∈ tables_1, d.before a0 Z = true) (ws : List Jvm.Cond) (p1 : Int32) (p2 : Int32) (h0 : Heap) (n0 : Nat) (O0 : Old Z n0 h0) (hpl : p1 < p2) :
    Meets l y35 jdk_29_method_65_code 2 (some .int) ws ({ frames := 0, cells := 0, slots := 0, locals := 0 } : Room) ({ frames := 0, cells := 0, slots := 0, locals := 0 } : Room).cells ({ frames := 0, cells := 0, slots := 0, locals := 0 } : Room).slots Z #[(.int p1), (.int p2)] h0 n0 (Q35l Z p1 p2 h0 n0) := by
  refine Meets.of (F := fun m => mkF m 0 #[.val (.int p1), .val (.int p2)] []) (Jvm.Free.JP.mathPlain rfl (by decide +kernel)) (fun m => ef_35l m p1 p2) ?_
  intro p e s m below meth c T0 hx hby hml hown0 hnm hret hlk hZ X0 e0
  have hown : s.vm.findClass "java/lang/Math" = some m.cls := hown0
  have N0 := Fr.nil n0
  show Goes _ _ _ _ _ _ (T0.setTop (mkF m 0 #[.val (.int p1), .val (.int p2)] []))
  refine own_iloadN X0 hx (hb hby d35_0) rfl ?_
  refine own_iloadN X0 hx (hb hby d35_1) rfl ?_
  refine own_icmpYes X0 hx (pc' := 9) (hb hby d35_2) (tlt (hpl : p1 < p2)).1 (by decide) (by decide) ?_
  refine own_iloadN X0 hx (hb hby d35_9) rfl ?_
  show Goes _ _ _ _ _ _ (T0.setTop (mkF m 10 #[.val (.int p1), .val (.int p2)] [(.int p2)]))
  exact own_retI X0 hx N0 hlk (by decide) (by decide) hret (hb hby d35_10) (by rw [e0]; exact ⟨rfl, rfl⟩)
theorem d35_5 : decode jdk_29_method_65_code 5 = .ok (.iload_n 0, 1) := by decide +kernel
theorem d35_6 : decode jdk_29_method_65_code 6 = .ok (.goto 4, 3) := by decide +kernel
def Q35g (Z : State) (p1 : Int32) (p2 : Int32) (h0 : Heap) (n0 : Nat) (v : Option Value) (h : Heap) : Prop :=
  (v = some (.int p1) ∧ h = h0)
theorem ef_35g (m : MethodId) (p1 : Int32) (p2 : Int32) : entryFrame m #[(.int p1), (.int p2)] 2 = mkF m 0 #[.val (.int p1), .val (.int p2)] [] := by first | (simp [entryFrame, mkF, argsToLocals, Value.category]; done) | rfl
set_option maxRecDepth 65536 in
set_option maxHeartbeats 40000000 in
theorem rm35g (l : Launch) (Z : State) (a0 : Array Value) (hw : ∀ d ∈ tables_1, d.before a0 Z = true) (ws : List Jvm.Cond) (p1 : Int32) (p2 : Int32) (h0 : Heap) (n0 : Nat) (O0 : Old Z n0 h0) (hpl : ¬ (p1 < p2)) :
    Meets l y35 jdk_29_method_65_code 2 (some .int) ws ({ frames := 0, cells := 0, slots := 0, locals := 0 } : Room) ({ frames := 0, cells := 0, slots := 0, locals := 0 } : Room).cells ({ frames := 0, cells := 0, slots := 0, locals := 0 } : Room).slots Z #[(.int p1), (.int p2)] h0 n0 (Q35g Z p1 p2 h0 n0) := by
  refine Meets.of (F := fun m => mkF m 0 #[.val (.int p1), .val (.int p2)] []) (Jvm.Free.JP.mathPlain rfl (by decide +kernel)) (fun m => ef_35g m p1 p2) ?_
  intro p e s m below meth c T0 hx hby hml hown0 hnm hret hlk hZ X0 e0
  have hown : s.vm.findClass "java/lang/Math" = some m.cls := hown0
  have N0 := Fr.nil n0
  show Goes _ _ _ _ _ _ (T0.setTop (mkF m 0 #[.val (.int p1), .val (.int p2)] []))
  refine own_iloadN X0 hx (hb hby d35_0) rfl ?_
  refine own_iloadN X0 hx (hb hby d35_1) rfl ?_
  refine own_icmpNo X0 hx (hb hby d35_2) (flt (hpl : ¬ (p1 < p2))).1 ?_
  refine own_iloadN X0 hx (hb hby d35_5) rfl ?_
  refine own_goto X0 hx (pc' := 10) (hb hby d35_6) (by decide) (by decide) ?_
  show Goes _ _ _ _ _ _ (T0.setTop (mkF m 10 #[.val (.int p1), .val (.int p2)] [(.int p1)]))
  exact own_retI X0 hx N0 hlk (by decide) (by decide) hret (hb hby d35_10) (by rw [e0]; exact ⟨rfl, rfl⟩)
theorem d20_0 : decode jdk_48_method_13_code 0 = .ok (.iconst 0, 1) := by decide +kernel
theorem d20_1 : decode jdk_48_method_13_code 1 = .ok (.istore_n 3, 1) := by decide +kernel
theorem d20_2 : decode jdk_48_method_13_code 2 = .ok (.iload_n 2, 1) := by decide +kernel
theorem d20_3 : decode jdk_48_method_13_code 3 = .ok (.bipush 7, 2) := by decide +kernel
theorem d20_5 : decode jdk_48_method_13_code 5 = .ok (.if_icmp .le 44, 3) := by decide +kernel
theorem d20_49 : decode jdk_48_method_13_code 49 = .ok (.iload_n 3, 1) := by decide +kernel
theorem d20_50 : decode jdk_48_method_13_code 50 = .ok (.iload_n 2, 1) := by decide +kernel
theorem d20_51 : decode jdk_48_method_13_code 51 = .ok (.if_icmp .ge 20, 3) := by decide +kernel
theorem d20_54 : decode jdk_48_method_13_code 54 = .ok (.aload_n 0, 1) := by decide +kernel
theorem d20_55 : decode jdk_48_method_13_code 55 = .ok (.iload_n 3, 1) := by decide +kernel
theorem d20_56 : decode jdk_48_method_13_code 56 = .ok (.baload, 1) := by decide +kernel
theorem d20_57 : decode jdk_48_method_13_code 57 = .ok (.aload_n 1, 1) := by decide +kernel
theorem d20_58 : decode jdk_48_method_13_code 58 = .ok (.iload_n 3, 1) := by decide +kernel
theorem d20_59 : decode jdk_48_method_13_code 59 = .ok (.baload, 1) := by decide +kernel
theorem d20_60 : decode jdk_48_method_13_code 60 = .ok (.if_icmp .eq 5, 3) := by decide +kernel
theorem d20_65 : decode jdk_48_method_13_code 65 = .ok (.iinc 3 1, 3) := by decide +kernel
theorem d20_68 : decode jdk_48_method_13_code 68 = .ok (.goto (-19), 3) := by decide +kernel
theorem d20_71 : decode jdk_48_method_13_code 71 = .ok (.iconst (-1), 1) := by decide +kernel
theorem d20_72 : decode jdk_48_method_13_code 72 = .ok (.ireturn, 1) := by decide +kernel
theorem pn_1 : plainName "jdk/internal/util/ArraysSupport" = true := by first | (simp [plainName, overriddenIn]; done) | decide +kernel
def Q20e (Z : State) (a1 : Addr) (a2 : Addr) (k1 : ClassId) (k2 : ClassId) (x : Int32) (y : Int32) (h0 : Heap) (n0 : Nat) (v : Option Value) (h : Heap) : Prop :=
  (v = some (.int (-1 : Int32)) ∧ h = h0)
theorem ef_20e (m : MethodId) (a1 : Addr) (a2 : Addr) : entryFrame m #[(.ref a1), (.ref a2), (.int (1 : Int32))] 4 = mkF m 0 #[.val (.ref a1), .val (.ref a2), .val (.int (1 : Int32)), .unset] [] := by first | (simp [entryFrame, mkF, argsToLocals, Value.category]; done) | rfl
set_option maxRecDepth 65536 in
set_option maxHeartbeats 40000000 in
theorem rm20e (l : Launch) (Z : State) (a0 : Array Value) (hw : ∀ d ∈ tables_1, d.before a0 Z = true) (ws : List Jvm.Cond) (a1 : Addr) (a2 : Addr) (k1 : ClassId) (k2 : ClassId) (x : Int32) (y : Int32) (h0 : Heap) (n0 : Nat) (O0 : Old Z n0 h0) (f0 : Arv Z h0 a1 k1 .byte (1 : Int32) [(.int x)] (.int (0 : Int32))) (f1 : Arv Z h0 a2 k2 .byte (1 : Int32) [(.int y)] (.int (0 : Int32))) (hxy : x = y) :
    Meets l y20 jdk_48_method_13_code 4 (some .int) ws ({ frames := 0, cells := 0, slots := 0, locals := 0 } : Room) ({ frames := 0, cells := 0, slots := 0, locals := 0 } : Room).cells ({ frames := 0, cells := 0, slots := 0, locals := 0 } : Room).slots Z #[(.ref a1), (.ref a2), (.int (1 : Int32))] h0 n0 (Q20e Z a1 a2 k1 k2 x y h0 n0) := by
  refine Meets.of (F := fun m => mkF m 0 #[.val (.ref a1), .val (.ref a2), .val (.int (1 : Int32)), .unset] []) (plainFor_of_name pn_1) (fun m => ef_20e m a1 a2) ?_
  intro p e s m below meth c T0 hx hby hml hown0 hnm hret hlk hZ X0 e0
  have hown : s.vm.findClass "jdk/internal/util/ArraysSupport" = some m.cls := hown0
  have N0 := Fr.nil n0
  show Goes _ _ _ _ _ _ (T0.setTop (mkF m 0 #[.val (.ref a1), .val (.ref a2), .val (.int (1 : Int32)), .unset] []))
  refine own_iconst X0 hx (v := (0 : Int32)) (hb hby d20_0) rfl ?_
  refine own_istoreN X0 hx (Ls' := #[.val (.ref a1), .val (.ref a2), .val (.int (1 : Int32)), .val (.int (0 : Int32))]) (hb hby d20_1) rfl ?_
  refine own_iloadN X0 hx (hb hby d20_2) rfl ?_
  refine own_bipush X0 hx (v := (7 : Int32)) (hb hby d20_3) rfl ?_
  refine own_icmpYes X0 hx (pc' := 49) (hb hby d20_5) (flt (by decide : ¬ ((7 : Int32) < (1 : Int32)))).2.2.2 (by decide) (by decide) ?_
  refine own_iloadN X0 hx (hb hby d20_49) rfl ?_
  refine own_iloadN X0 hx (hb hby d20_50) rfl ?_
  refine own_icmpNo X0 hx (hb hby d20_51) (tlt (by decide : (0 : Int32) < (1 : Int32))).2.1 ?_
  refine own_aloadN X0 hx (hb hby d20_54) rfl rfl ?_
  refine own_iloadN X0 hx (hb hby d20_55) rfl ?_
  refine own_baload X0 hx hZ e0 f0 ⟨by decide, by decide⟩ (v := (.int x)) rfl (hb hby d20_56) ?_
  refine own_aloadN X0 hx (hb hby d20_57) rfl rfl ?_
  refine own_iloadN X0 hx (hb hby d20_58) rfl ?_
  refine own_baload X0 hx hZ e0 f1 ⟨by decide, by decide⟩ (v := (.int y)) rfl (hb hby d20_59) ?_
  refine own_icmpYes X0 hx (pc' := 65) (hb hby d20_60) (teq (hxy : x = y)).1 (by decide) (by decide) ?_
  refine own_iinc X0 hx (Ls' := #[.val (.ref a1), .val (.ref a2), .val (.int (1 : Int32)), .val (.int ((0 : Int32) + (1 : Int32)))]) (hb hby d20_65) rfl rfl ?_
  refine own_goto X0 hx (pc' := 49) (hb hby d20_68) (by decide) (by decide) ?_
  refine own_iloadN X0 hx (hb hby d20_49) rfl ?_
  refine own_iloadN X0 hx (hb hby d20_50) rfl ?_
  refine own_icmpYes X0 hx (pc' := 71) (hb hby d20_51) (flt (by decide : ¬ (((0 : Int32) + (1 : Int32)) < (1 : Int32)))).2.1 (by decide) (by decide) ?_
  refine own_iconst X0 hx (v := (-1 : Int32)) (hb hby d20_71) rfl ?_
  show Goes _ _ _ _ _ _ (T0.setTop (mkF m 72 #[.val (.ref a1), .val (.ref a2), .val (.int (1 : Int32)), .val (.int ((0 : Int32) + (1 : Int32)))] [(.int (-1 : Int32))]))
  exact own_retI X0 hx N0 hlk (by decide) (by decide) hret (hb hby d20_72) (by rw [e0]; exact ⟨rfl, rfl⟩)
theorem d20_63 : decode jdk_48_method_13_code 63 = .ok (.iload_n 3, 1) := by decide +kernel
theorem d20_64 : decode jdk_48_method_13_code 64 = .ok (.ireturn, 1) := by decide +kernel
def Q20d (Z : State) (a1 : Addr) (a2 : Addr) (k1 : ClassId) (k2 : ClassId) (x : Int32) (y : Int32) (h0 : Heap) (n0 : Nat) (v : Option Value) (h : Heap) : Prop :=
  (v = some (.int (0 : Int32)) ∧ h = h0)
theorem ef_20d (m : MethodId) (a1 : Addr) (a2 : Addr) : entryFrame m #[(.ref a1), (.ref a2), (.int (1 : Int32))] 4 = mkF m 0 #[.val (.ref a1), .val (.ref a2), .val (.int (1 : Int32)), .unset] [] := by first | (simp [entryFrame, mkF, argsToLocals, Value.category]; done) | rfl
set_option maxRecDepth 65536 in
set_option maxHeartbeats 40000000 in
theorem rm20d (l : Launch) (Z : State) (a0 : Array Value) (hw : ∀ d ∈ tables_1, d.before a0 Z = true) (ws : List Jvm.Cond) (a1 : Addr) (a2 : Addr) (k1 : ClassId) (k2 : ClassId) (x : Int32) (y : Int32) (h0 : Heap) (n0 : Nat) (O0 : Old Z n0 h0) (f0 : Arv Z h0 a1 k1 .byte (1 : Int32) [(.int x)] (.int (0 : Int32))) (f1 : Arv Z h0 a2 k2 .byte (1 : Int32) [(.int y)] (.int (0 : Int32))) (hxy : ¬ (x = y)) :
    Meets l y20 jdk_48_method_13_code 4 (some .int) ws ({ frames := 0, cells := 0, slots := 0, locals := 0 } : Room) ({ frames := 0, cells := 0, slots := 0, locals := 0 } : Room).cells ({ frames := 0, cells := 0, slots := 0, locals := 0 } : Room).slots Z #[(.ref a1), (.ref a2), (.int (1 : Int32))] h0 n0 (Q20d Z a1 a2 k1 k2 x y h0 n0) := by
  refine Meets.of (F := fun m => mkF m 0 #[.val (.ref a1), .val (.ref a2), .val (.int (1 : Int32)), .unset] []) (plainFor_of_name pn_1) (fun m => ef_20d m a1 a2) ?_
  intro p e s m below meth c T0 hx hby hml hown0 hnm hret hlk hZ X0 e0
  have hown : s.vm.findClass "jdk/internal/util/ArraysSupport" = some m.cls := hown0
  have N0 := Fr.nil n0
  show Goes _ _ _ _ _ _ (T0.setTop (mkF m 0 #[.val (.ref a1), .val (.ref a2), .val (.int (1 : Int32)), .unset] []))
  refine own_iconst X0 hx (v := (0 : Int32)) (hb hby d20_0) rfl ?_
  refine own_istoreN X0 hx (Ls' := #[.val (.ref a1), .val (.ref a2), .val (.int (1 : Int32)), .val (.int (0 : Int32))]) (hb hby d20_1) rfl ?_
  refine own_iloadN X0 hx (hb hby d20_2) rfl ?_
  refine own_bipush X0 hx (v := (7 : Int32)) (hb hby d20_3) rfl ?_
  refine own_icmpYes X0 hx (pc' := 49) (hb hby d20_5) (flt (by decide : ¬ ((7 : Int32) < (1 : Int32)))).2.2.2 (by decide) (by decide) ?_
  refine own_iloadN X0 hx (hb hby d20_49) rfl ?_
  refine own_iloadN X0 hx (hb hby d20_50) rfl ?_
  refine own_icmpNo X0 hx (hb hby d20_51) (tlt (by decide : (0 : Int32) < (1 : Int32))).2.1 ?_
  refine own_aloadN X0 hx (hb hby d20_54) rfl rfl ?_
  refine own_iloadN X0 hx (hb hby d20_55) rfl ?_
  refine own_baload X0 hx hZ e0 f0 ⟨by decide, by decide⟩ (v := (.int x)) rfl (hb hby d20_56) ?_
  refine own_aloadN X0 hx (hb hby d20_57) rfl rfl ?_
  refine own_iloadN X0 hx (hb hby d20_58) rfl ?_
  refine own_baload X0 hx hZ e0 f1 ⟨by decide, by decide⟩ (v := (.int y)) rfl (hb hby d20_59) ?_
  refine own_icmpNo X0 hx (hb hby d20_60) (feq (hxy : ¬ (x = y))).1 ?_
  refine own_iloadN X0 hx (hb hby d20_63) rfl ?_
  show Goes _ _ _ _ _ _ (T0.setTop (mkF m 64 #[.val (.ref a1), .val (.ref a2), .val (.int (1 : Int32)), .val (.int (0 : Int32))] [(.int (0 : Int32))]))
  exact own_retI X0 hx N0 hlk (by decide) (by decide) hret (hb hby d20_64) (by rw [e0]; exact ⟨rfl, rfl⟩)
def Q200 (Z : State) (a1 : Addr) (a2 : Addr) (k1 : ClassId) (k2 : ClassId) (x : Int32) (h0 : Heap) (n0 : Nat) (v : Option Value) (h : Heap) : Prop :=
  (v = some (.int (-1 : Int32)) ∧ h = h0)
theorem ef_200 (m : MethodId) (a1 : Addr) (a2 : Addr) : entryFrame m #[(.ref a1), (.ref a2), (.int (0 : Int32))] 4 = mkF m 0 #[.val (.ref a1), .val (.ref a2), .val (.int (0 : Int32)), .unset] [] := by first | (simp [entryFrame, mkF, argsToLocals, Value.category]; done) | rfl
set_option maxRecDepth 65536 in
set_option maxHeartbeats 40000000 in
theorem rm200 (l : Launch) (Z : State) (a0 : Array Value) (hw : ∀ d ∈ tables_1, d.before a0 Z = true) (ws : List Jvm.Cond) (a1 : Addr) (a2 : Addr) (k1 : ClassId) (k2 : ClassId) (x : Int32) (h0 : Heap) (n0 : Nat) (O0 : Old Z n0 h0) (f0 : Arv Z h0 a1 k1 .byte (1 : Int32) [(.int x)] (.int (0 : Int32))) (f1 : Arv Z h0 a2 k2 .byte (0 : Int32) [] (.int (0 : Int32))) :
    Meets l y20 jdk_48_method_13_code 4 (some .int) ws ({ frames := 0, cells := 0, slots := 0, locals := 0 } : Room) ({ frames := 0, cells := 0, slots := 0, locals := 0 } : Room).cells ({ frames := 0, cells := 0, slots := 0, locals := 0 } : Room).slots Z #[(.ref a1), (.ref a2), (.int (0 : Int32))] h0 n0 (Q200 Z a1 a2 k1 k2 x h0 n0) := by
  refine Meets.of (F := fun m => mkF m 0 #[.val (.ref a1), .val (.ref a2), .val (.int (0 : Int32)), .unset] []) (plainFor_of_name pn_1) (fun m => ef_200 m a1 a2) ?_
  intro p e s m below meth c T0 hx hby hml hown0 hnm hret hlk hZ X0 e0
  have hown : s.vm.findClass "jdk/internal/util/ArraysSupport" = some m.cls := hown0
  have N0 := Fr.nil n0
  show Goes _ _ _ _ _ _ (T0.setTop (mkF m 0 #[.val (.ref a1), .val (.ref a2), .val (.int (0 : Int32)), .unset] []))
  refine own_iconst X0 hx (v := (0 : Int32)) (hb hby d20_0) rfl ?_
  refine own_istoreN X0 hx (Ls' := #[.val (.ref a1), .val (.ref a2), .val (.int (0 : Int32)), .val (.int (0 : Int32))]) (hb hby d20_1) rfl ?_
  refine own_iloadN X0 hx (hb hby d20_2) rfl ?_
  refine own_bipush X0 hx (v := (7 : Int32)) (hb hby d20_3) rfl ?_
  refine own_icmpYes X0 hx (pc' := 49) (hb hby d20_5) (flt (by decide : ¬ ((7 : Int32) < (0 : Int32)))).2.2.2 (by decide) (by decide) ?_
  refine own_iloadN X0 hx (hb hby d20_49) rfl ?_
  refine own_iloadN X0 hx (hb hby d20_50) rfl ?_
  refine own_icmpYes X0 hx (pc' := 71) (hb hby d20_51) (flt (by decide : ¬ ((0 : Int32) < (0 : Int32)))).2.1 (by decide) (by decide) ?_
  refine own_iconst X0 hx (v := (-1 : Int32)) (hb hby d20_71) rfl ?_
  show Goes _ _ _ _ _ _ (T0.setTop (mkF m 72 #[.val (.ref a1), .val (.ref a2), .val (.int (0 : Int32)), .val (.int (0 : Int32))] [(.int (-1 : Int32))]))
  exact own_retI X0 hx N0 hlk (by decide) (by decide) hret (hb hby d20_72) (by rw [e0]; exact ⟨rfl, rfl⟩)
theorem d18_0 : decode jdk_65_method_201_code 0 = .ok (.aload_n 0, 1) := by decide +kernel
theorem d18_1 : decode jdk_65_method_201_code 1 = .ok (.aload_n 1, 1) := by decide +kernel
theorem d18_2 : decode jdk_65_method_201_code 2 = .ok (.if_acmp .ne 5, 3) := by decide +kernel
theorem d18_5 : decode jdk_65_method_201_code 5 = .ok (.iconst 0, 1) := by decide +kernel
theorem d18_6 : decode jdk_65_method_201_code 6 = .ok (.ireturn, 1) := by decide +kernel
theorem pn_2 : plainName "java/util/Arrays" = true := by first | (simp [plainName, overriddenIn]; done) | decide +kernel
def Q18s (Z : State) (a1 : Addr) (a1 : Addr) (h0 : Heap) (n0 : Nat) (v : Option Value) (h : Heap) : Prop :=
  (v = some (.int (0 : Int32)) ∧ h = h0)
theorem ef_18s (m : MethodId) (a1 : Addr) (a1 : Addr) : entryFrame m #[(.ref a1), (.ref a1)] 3 = mkF m 0 #[.val (.ref a1), .val (.ref a1), .unset] [] := by first | (simp [entryFrame, mkF, argsToLocals, Value.category]; done) | rfl
set_option maxRecDepth 65536 in
set_option maxHeartbeats 40000000 in
theorem rm18s (l : Launch) (Z : State) (a0 : Array Value) (hw : ∀ d ∈ tables_1, d.before a0 Z = true) (ws : List Jvm.Cond) (a1 : Addr) (a1 : Addr) (h0 : Heap) (n0 : Nat) (O0 : Old Z n0 h0) :
    Meets l y18 jdk_65_method_201_code 3 (some .int) ws ({ frames := 0, cells := 0, slots := 0, locals := 0 } : Room) ({ frames := 0, cells := 0, slots := 0, locals := 0 } : Room).cells ({ frames := 0, cells := 0, slots := 0, locals := 0 } : Room).slots Z #[(.ref a1), (.ref a1)] h0 n0 (Q18s Z a1 a1 h0 n0) := by
  refine Meets.of (F := fun m => mkF m 0 #[.val (.ref a1), .val (.ref a1), .unset] []) (plainFor_of_name pn_2) (fun m => ef_18s m a1 a1) ?_
  intro p e s m below meth c T0 hx hby hml hown0 hnm hret hlk hZ X0 e0
  have hown : s.vm.findClass "java/util/Arrays" = some m.cls := hown0
  have N0 := Fr.nil n0
  show Goes _ _ _ _ _ _ (T0.setTop (mkF m 0 #[.val (.ref a1), .val (.ref a1), .unset] []))
  refine own_aloadN X0 hx (hb hby d18_0) rfl rfl ?_
  refine own_aloadN X0 hx (hb hby d18_1) rfl rfl ?_
  refine own_acmp X0 hx rfl rfl (same := true) (pc' := 5) (hb hby d18_2) (decide_eq_true rfl) (by decide) (by decide) ?_
  refine own_iconst X0 hx (v := (0 : Int32)) (hb hby d18_5) rfl ?_
  show Goes _ _ _ _ _ _ (T0.setTop (mkF m 6 #[.val (.ref a1), .val (.ref a1), .unset] [(.int (0 : Int32))]))
  exact own_retI X0 hx N0 hlk (by decide) (by decide) hret (hb hby d18_6) (by rw [e0]; exact ⟨rfl, rfl⟩)
theorem d18_7 : decode jdk_65_method_201_code 7 = .ok (.aload_n 0, 1) := by decide +kernel
theorem d18_8 : decode jdk_65_method_201_code 8 = .ok (.ifnull 7, 3) := by decide +kernel
theorem d18_11 : decode jdk_65_method_201_code 11 = .ok (.aload_n 1, 1) := by decide +kernel
theorem d18_12 : decode jdk_65_method_201_code 12 = .ok (.ifnonnull 13, 3) := by decide +kernel
theorem d18_25 : decode jdk_65_method_201_code 25 = .ok (.aload_n 0, 1) := by decide +kernel
theorem d18_26 : decode jdk_65_method_201_code 26 = .ok (.aload_n 1, 1) := by decide +kernel
theorem d18_27 : decode jdk_65_method_201_code 27 = .ok (.aload_n 0, 1) := by decide +kernel
theorem d18_28 : decode jdk_65_method_201_code 28 = .ok (.arraylength, 1) := by decide +kernel
theorem d18_29 : decode jdk_65_method_201_code 29 = .ok (.aload_n 1, 1) := by decide +kernel
theorem d18_30 : decode jdk_65_method_201_code 30 = .ok (.arraylength, 1) := by decide +kernel
theorem d18_31 : decode jdk_65_method_201_code 31 = .ok (.invokestatic 304, 3) := by decide +kernel
theorem pd_1 : parseMethodDescriptor "(II)I" = some ⟨[.int, .int], some .int⟩ := by decide +kernel
theorem d18_34 : decode jdk_65_method_201_code 34 = .ok (.invokestatic 272, 3) := by decide +kernel
theorem pd_2 : parseMethodDescriptor "([B[BI)I" = some ⟨[(.array .byte), (.array .byte), .int], some .int⟩ := by decide +kernel
theorem d18_37 : decode jdk_65_method_201_code 37 = .ok (.istore_n 2, 1) := by decide +kernel
theorem d18_38 : decode jdk_65_method_201_code 38 = .ok (.iload_n 2, 1) := by decide +kernel
theorem d18_39 : decode jdk_65_method_201_code 39 = .ok (.ifCond .lt 13, 3) := by decide +kernel
theorem d18_52 : decode jdk_65_method_201_code 52 = .ok (.aload_n 0, 1) := by decide +kernel
theorem d18_53 : decode jdk_65_method_201_code 53 = .ok (.arraylength, 1) := by decide +kernel
theorem d18_54 : decode jdk_65_method_201_code 54 = .ok (.aload_n 1, 1) := by decide +kernel
theorem d18_55 : decode jdk_65_method_201_code 55 = .ok (.arraylength, 1) := by decide +kernel
theorem d18_56 : decode jdk_65_method_201_code 56 = .ok (.isub, 1) := by decide +kernel
theorem d18_57 : decode jdk_65_method_201_code 57 = .ok (.ireturn, 1) := by decide +kernel
def Q18e (Z : State) (a1 : Addr) (a2 : Addr) (k1 : ClassId) (k2 : ClassId) (x : Int32) (y : Int32) (h0 : Heap) (n0 : Nat) (v : Option Value) (h : Heap) : Prop :=
  (v = some (.int (0 : Int32)) ∧ h = h0)
theorem ef_18e (m : MethodId) (a1 : Addr) (a2 : Addr) : entryFrame m #[(.ref a1), (.ref a2)] 3 = mkF m 0 #[.val (.ref a1), .val (.ref a2), .unset] [] := by first | (simp [entryFrame, mkF, argsToLocals, Value.category]; done) | rfl
set_option maxRecDepth 65536 in
set_option maxHeartbeats 40000000 in
theorem rm18e (l : Launch) (Z : State) (a0 : Array Value) (hw : ∀ d ∈ tables_1, d.before a0 Z = true) (ws : List Jvm.Cond) (a1 : Addr) (a2 : Addr) (k1 : ClassId) (k2 : ClassId) (x : Int32) (y : Int32) (h0 : Heap) (n0 : Nat) (O0 : Old Z n0 h0) (f0 : Arv Z h0 a1 k1 .byte (1 : Int32) [(.int x)] (.int (0 : Int32))) (f1 : Arv Z h0 a2 k2 .byte (1 : Int32) [(.int y)] (.int (0 : Int32))) (f2 : a1 ≠ a2) (hxy : x = y) :
    Meets l y18 jdk_65_method_201_code 3 (some .int) ws ({ frames := 1, cells := 0, slots := 0, locals := 15 } : Room) ({ frames := 1, cells := 0, slots := 0, locals := 15 } : Room).cells ({ frames := 1, cells := 0, slots := 0, locals := 15 } : Room).slots Z #[(.ref a1), (.ref a2)] h0 n0 (Q18e Z a1 a2 k1 k2 x y h0 n0) := by
  refine Meets.of (F := fun m => mkF m 0 #[.val (.ref a1), .val (.ref a2), .unset] []) (plainFor_of_name pn_2) (fun m => ef_18e m a1 a2) ?_
  intro p e s m below meth c T0 hx hby hml hown0 hnm hret hlk hZ X0 e0
  have hown : s.vm.findClass "java/util/Arrays" = some m.cls := hown0
  have N0 := Fr.nil n0
  show Goes _ _ _ _ _ _ (T0.setTop (mkF m 0 #[.val (.ref a1), .val (.ref a2), .unset] []))
  refine own_aloadN X0 hx (hb hby d18_0) rfl rfl ?_
  refine own_aloadN X0 hx (hb hby d18_1) rfl rfl ?_
  refine own_acmp X0 hx rfl rfl (same := false) (pc' := 7) (hb hby d18_2) (decide_eq_false fun q => f2 (Value.ref.inj q)) (by decide) (by decide) ?_
  refine own_aloadN X0 hx (hb hby d18_7) rfl rfl ?_
  refine own_ifnullNo X0 hx (hb hby d18_8) ?_
  refine own_aloadN X0 hx (hb hby d18_11) rfl rfl ?_
  refine own_ifnonnullYes X0 hx (pc' := 25) (hb hby d18_12) (by decide) (by decide) ?_
  refine own_aloadN X0 hx (hb hby d18_25) rfl rfl ?_
  refine own_aloadN X0 hx (hb hby d18_26) rfl rfl ?_
  refine own_aloadN X0 hx (hb hby d18_27) rfl rfl ?_
  refine own_alen X0 hx hZ e0 f0 (hb hby d18_28) ?_
  refine own_aloadN X0 hx (hb hby d18_29) rfl rfl ?_
  refine own_alen X0 hx hZ e0 f1 (hb hby d18_30) ?_
  refine own_callS X0 hx hZ hown (y := y19) (own_w hw 140 rfl) (own_w hw 141 rfl) (own_w hw 142 rfl) (own_w hw 143 rfl) (by decide) (W := 2) (by decide) (by decide) N0 e0 (by rw [hml]; rfl) (argsL := [(.int (1 : Int32)), (.int (1 : Int32))]) (rest := [(.ref a2), (.ref a1)]) (lenOf pd_1 rfl) (Nat.le_of_eq rfl) (by decide) (by decide) (rm1911 l Z a0 hw [] h0 n0 O0) rfl (hb hby d18_31) ?_
  intro v1 T1 lc1 X1 N1 hQ1
  obtain ⟨rfl, e1⟩ := hQ1
  refine own_callS X1 hx hZ hown (y := y20) (own_w hw 144 rfl) (own_w hw 145 rfl) (own_w hw 146 rfl) (own_w hw 147 rfl) (by decide) (W := 0) (by decide) (by decide) N1 e1 (by rw [hml]; rfl) (argsL := [(.ref a1), (.ref a2), (.int (1 : Int32))]) (rest := []) (lenOf pd_2 rfl) (Nat.le_of_eq rfl) (by decide) (by decide) (rm20e l Z a0 hw [] a1 a2 k1 k2 x y h0 n0 O0 f0 f1 hxy) rfl (hb hby d18_34) ?_
  intro v2 T2 lc2 X2 N2 hQ2
  obtain ⟨rfl, e2⟩ := hQ2
  refine own_istoreN X2 hx (Ls' := #[.val (.ref a1), .val (.ref a2), .val (.int (-1 : Int32))]) (hb hby d18_37) rfl ?_
  refine own_iloadN X2 hx (hb hby d18_38) rfl ?_
  refine own_ifYes X2 hx (pc' := 52) (hb hby d18_39) ((if0 _ _).trans (tlt (by decide : (-1 : Int32) < (0 : Int32))).1) (by decide) (by decide) ?_
  refine own_aloadN X2 hx (hb hby d18_52) rfl rfl ?_
  refine own_alen X2 hx hZ e2 f0 (hb hby d18_53) ?_
  refine own_aloadN X2 hx (hb hby d18_54) rfl rfl ?_
  refine own_alen X2 hx hZ e2 f1 (hb hby d18_55) ?_
  refine own_isub X2 hx (hb hby d18_56) ?_
  rw [show ((1 : Int32) - (1 : Int32)) = (0 : Int32) by decide]
  show Goes _ _ _ _ _ _ (T2.setTop (mkF m 57 #[.val (.ref a1), .val (.ref a2), .val (.int (-1 : Int32))] [(.int (0 : Int32))]))
  exact own_retI X2 hx N2 hlk (by decide) (by decide) hret (hb hby d18_57) (by rw [e2]; exact ⟨(congrArg (fun z => some (Value.int z)) (by decide)), rfl⟩)
theorem d18_42 : decode jdk_65_method_201_code 42 = .ok (.aload_n 0, 1) := by decide +kernel
theorem d18_43 : decode jdk_65_method_201_code 43 = .ok (.iload_n 2, 1) := by decide +kernel
theorem d18_44 : decode jdk_65_method_201_code 44 = .ok (.baload, 1) := by decide +kernel
theorem d18_45 : decode jdk_65_method_201_code 45 = .ok (.aload_n 1, 1) := by decide +kernel
theorem d18_46 : decode jdk_65_method_201_code 46 = .ok (.iload_n 2, 1) := by decide +kernel
theorem d18_47 : decode jdk_65_method_201_code 47 = .ok (.baload, 1) := by decide +kernel
theorem d18_48 : decode jdk_65_method_201_code 48 = .ok (.invokestatic 686, 3) := by decide +kernel
theorem pd_3 : parseMethodDescriptor "(BB)I" = some ⟨[.byte, .byte], some .int⟩ := by decide +kernel
theorem d18_51 : decode jdk_65_method_201_code 51 = .ok (.ireturn, 1) := by decide +kernel
def Q18d (Z : State) (a1 : Addr) (a2 : Addr) (k1 : ClassId) (k2 : ClassId) (x : Int32) (y : Int32) (h0 : Heap) (n0 : Nat) (v : Option Value) (h : Heap) : Prop :=
  (v = some (.int ((x &&& (255 : Int32)) - (y &&& (255 : Int32)))) ∧ h = h0)
theorem ef_18d (m : MethodId) (a1 : Addr) (a2 : Addr) : entryFrame m #[(.ref a1), (.ref a2)] 3 = mkF m 0 #[.val (.ref a1), .val (.ref a2), .unset] [] := by first | (simp [entryFrame, mkF, argsToLocals, Value.category]; done) | rfl
set_option maxRecDepth 65536 in
set_option maxHeartbeats 40000000 in
theorem rm18d (l : Launch) (Z : State) (a0 : Array Value) (hw : ∀ d ∈ tables_1, d.before a0 Z = true) (ws : List Jvm.Cond) (a1 : Addr) (a2 : Addr) (k1 : ClassId) (k2 : ClassId) (x : Int32) (y : Int32) (h0 : Heap) (n0 : Nat) (O0 : Old Z n0 h0) (f0 : Arv Z h0 a1 k1 .byte (1 : Int32) [(.int x)] (.int (0 : Int32))) (f1 : Arv Z h0 a2 k2 .byte (1 : Int32) [(.int y)] (.int (0 : Int32))) (f2 : a1 ≠ a2) (hxy : ¬ (x = y)) :
    Meets l y18 jdk_65_method_201_code 3 (some .int) ws ({ frames := 2, cells := 0, slots := 0, locals := 26 } : Room) ({ frames := 2, cells := 0, slots := 0, locals := 26 } : Room).cells ({ frames := 2, cells := 0, slots := 0, locals := 26 } : Room).slots Z #[(.ref a1), (.ref a2)] h0 n0 (Q18d Z a1 a2 k1 k2 x y h0 n0) := by
  refine Meets.of (F := fun m => mkF m 0 #[.val (.ref a1), .val (.ref a2), .unset] []) (plainFor_of_name pn_2) (fun m => ef_18d m a1 a2) ?_
  intro p e s m below meth c T0 hx hby hml hown0 hnm hret hlk hZ X0 e0
  have hown : s.vm.findClass "java/util/Arrays" = some m.cls := hown0
  have N0 := Fr.nil n0
  show Goes _ _ _ _ _ _ (T0.setTop (mkF m 0 #[.val (.ref a1), .val (.ref a2), .unset] []))
  refine own_aloadN X0 hx (hb hby d18_0) rfl rfl ?_
  refine own_aloadN X0 hx (hb hby d18_1) rfl rfl ?_
  refine own_acmp X0 hx rfl rfl (same := false) (pc' := 7) (hb hby d18_2) (decide_eq_false fun q => f2 (Value.ref.inj q)) (by decide) (by decide) ?_
  refine own_aloadN X0 hx (hb hby d18_7) rfl rfl ?_
  refine own_ifnullNo X0 hx (hb hby d18_8) ?_
  refine own_aloadN X0 hx (hb hby d18_11) rfl rfl ?_
  refine own_ifnonnullYes X0 hx (pc' := 25) (hb hby d18_12) (by decide) (by decide) ?_
  refine own_aloadN X0 hx (hb hby d18_25) rfl rfl ?_
  refine own_aloadN X0 hx (hb hby d18_26) rfl rfl ?_
  refine own_aloadN X0 hx (hb hby d18_27) rfl rfl ?_
  refine own_alen X0 hx hZ e0 f0 (hb hby d18_28) ?_
  refine own_aloadN X0 hx (hb hby d18_29) rfl rfl ?_
  refine own_alen X0 hx hZ e0 f1 (hb hby d18_30) ?_
  refine own_callS X0 hx hZ hown (y := y19) (own_w hw 140 rfl) (own_w hw 141 rfl) (own_w hw 142 rfl) (own_w hw 143 rfl) (by decide) (W := 2) (by decide) (by decide) N0 e0 (by rw [hml]; rfl) (argsL := [(.int (1 : Int32)), (.int (1 : Int32))]) (rest := [(.ref a2), (.ref a1)]) (lenOf pd_1 rfl) (Nat.le_of_eq rfl) (by decide) (by decide) (rm1911 l Z a0 hw [] h0 n0 O0) rfl (hb hby d18_31) ?_
  intro v1 T1 lc1 X1 N1 hQ1
  obtain ⟨rfl, e1⟩ := hQ1
  refine own_callS X1 hx hZ hown (y := y20) (own_w hw 144 rfl) (own_w hw 145 rfl) (own_w hw 146 rfl) (own_w hw 147 rfl) (by decide) (W := 0) (by decide) (by decide) N1 e1 (by rw [hml]; rfl) (argsL := [(.ref a1), (.ref a2), (.int (1 : Int32))]) (rest := []) (lenOf pd_2 rfl) (Nat.le_of_eq rfl) (by decide) (by decide) (rm20d l Z a0 hw [] a1 a2 k1 k2 x y h0 n0 O0 f0 f1 hxy) rfl (hb hby d18_34) ?_
  intro v2 T2 lc2 X2 N2 hQ2
  obtain ⟨rfl, e2⟩ := hQ2
  refine own_istoreN X2 hx (Ls' := #[.val (.ref a1), .val (.ref a2), .val (.int (0 : Int32))]) (hb hby d18_37) rfl ?_
  refine own_iloadN X2 hx (hb hby d18_38) rfl ?_
  refine own_ifNo X2 hx (hb hby d18_39) ((if0 _ _).trans (flt (by decide : ¬ ((0 : Int32) < (0 : Int32)))).1) ?_
  refine own_aloadN X2 hx (hb hby d18_42) rfl rfl ?_
  refine own_iloadN X2 hx (hb hby d18_43) rfl ?_
  refine own_baload X2 hx hZ e2 f0 ⟨by decide, by decide⟩ (v := (.int x)) rfl (hb hby d18_44) ?_
  refine own_aloadN X2 hx (hb hby d18_45) rfl rfl ?_
  refine own_iloadN X2 hx (hb hby d18_46) rfl ?_
  refine own_baload X2 hx hZ e2 f1 ⟨by decide, by decide⟩ (v := (.int y)) rfl (hb hby d18_47) ?_
  refine own_callS X2 hx hZ hown (y := y21) (own_w hw 148 rfl) (own_w hw 149 rfl) (own_w hw 150 rfl) (own_w hw 151 rfl) (by decide) (W := 0) (by decide) (by decide) N2 e2 (by rw [hml]; rfl) (argsL := [(.int x), (.int y)]) (rest := []) (lenOf pd_3 rfl) (Nat.le_of_eq rfl) (by decide) (by decide) (rm21 l Z a0 hw [] x y h0 n0 O0) rfl (hb hby d18_48) ?_
  intro v3 T3 lc3 X3 N3 hQ3
  obtain ⟨rfl, e3⟩ := hQ3
  show Goes _ _ _ _ _ _ (T3.setTop (mkF m 51 #[.val (.ref a1), .val (.ref a2), .val (.int (0 : Int32))] [(.int ((x &&& (255 : Int32)) - (y &&& (255 : Int32))))]))
  exact own_retI X3 hx N3 hlk (by decide) (by decide) hret (hb hby d18_51) (by rw [e3]; exact ⟨rfl, rfl⟩)
def Q180 (Z : State) (a1 : Addr) (a2 : Addr) (k1 : ClassId) (k2 : ClassId) (x : Int32) (h0 : Heap) (n0 : Nat) (v : Option Value) (h : Heap) : Prop :=
  (v = some (.int (1 : Int32)) ∧ h = h0)
theorem ef_180 (m : MethodId) (a1 : Addr) (a2 : Addr) : entryFrame m #[(.ref a1), (.ref a2)] 3 = mkF m 0 #[.val (.ref a1), .val (.ref a2), .unset] [] := by first | (simp [entryFrame, mkF, argsToLocals, Value.category]; done) | rfl
set_option maxRecDepth 65536 in
set_option maxHeartbeats 40000000 in
theorem rm180 (l : Launch) (Z : State) (a0 : Array Value) (hw : ∀ d ∈ tables_1, d.before a0 Z = true) (ws : List Jvm.Cond) (a1 : Addr) (a2 : Addr) (k1 : ClassId) (k2 : ClassId) (x : Int32) (h0 : Heap) (n0 : Nat) (O0 : Old Z n0 h0) (f0 : Arv Z h0 a1 k1 .byte (1 : Int32) [(.int x)] (.int (0 : Int32))) (f1 : Arv Z h0 a2 k2 .byte (0 : Int32) [] (.int (0 : Int32))) (f2 : a1 ≠ a2) :
    Meets l y18 jdk_65_method_201_code 3 (some .int) ws ({ frames := 1, cells := 0, slots := 0, locals := 15 } : Room) ({ frames := 1, cells := 0, slots := 0, locals := 15 } : Room).cells ({ frames := 1, cells := 0, slots := 0, locals := 15 } : Room).slots Z #[(.ref a1), (.ref a2)] h0 n0 (Q180 Z a1 a2 k1 k2 x h0 n0) := by
  refine Meets.of (F := fun m => mkF m 0 #[.val (.ref a1), .val (.ref a2), .unset] []) (plainFor_of_name pn_2) (fun m => ef_180 m a1 a2) ?_
  intro p e s m below meth c T0 hx hby hml hown0 hnm hret hlk hZ X0 e0
  have hown : s.vm.findClass "java/util/Arrays" = some m.cls := hown0
  have N0 := Fr.nil n0
  show Goes _ _ _ _ _ _ (T0.setTop (mkF m 0 #[.val (.ref a1), .val (.ref a2), .unset] []))
  refine own_aloadN X0 hx (hb hby d18_0) rfl rfl ?_
  refine own_aloadN X0 hx (hb hby d18_1) rfl rfl ?_
  refine own_acmp X0 hx rfl rfl (same := false) (pc' := 7) (hb hby d18_2) (decide_eq_false fun q => f2 (Value.ref.inj q)) (by decide) (by decide) ?_
  refine own_aloadN X0 hx (hb hby d18_7) rfl rfl ?_
  refine own_ifnullNo X0 hx (hb hby d18_8) ?_
  refine own_aloadN X0 hx (hb hby d18_11) rfl rfl ?_
  refine own_ifnonnullYes X0 hx (pc' := 25) (hb hby d18_12) (by decide) (by decide) ?_
  refine own_aloadN X0 hx (hb hby d18_25) rfl rfl ?_
  refine own_aloadN X0 hx (hb hby d18_26) rfl rfl ?_
  refine own_aloadN X0 hx (hb hby d18_27) rfl rfl ?_
  refine own_alen X0 hx hZ e0 f0 (hb hby d18_28) ?_
  refine own_aloadN X0 hx (hb hby d18_29) rfl rfl ?_
  refine own_alen X0 hx hZ e0 f1 (hb hby d18_30) ?_
  refine own_callS X0 hx hZ hown (y := y19) (own_w hw 140 rfl) (own_w hw 141 rfl) (own_w hw 142 rfl) (own_w hw 143 rfl) (by decide) (W := 2) (by decide) (by decide) N0 e0 (by rw [hml]; rfl) (argsL := [(.int (1 : Int32)), (.int (0 : Int32))]) (rest := [(.ref a2), (.ref a1)]) (lenOf pd_1 rfl) (Nat.le_of_eq rfl) (by decide) (by decide) (rm1910 l Z a0 hw [] h0 n0 O0) rfl (hb hby d18_31) ?_
  intro v1 T1 lc1 X1 N1 hQ1
  obtain ⟨rfl, e1⟩ := hQ1
  refine own_callS X1 hx hZ hown (y := y20) (own_w hw 144 rfl) (own_w hw 145 rfl) (own_w hw 146 rfl) (own_w hw 147 rfl) (by decide) (W := 0) (by decide) (by decide) N1 e1 (by rw [hml]; rfl) (argsL := [(.ref a1), (.ref a2), (.int (0 : Int32))]) (rest := []) (lenOf pd_2 rfl) (Nat.le_of_eq rfl) (by decide) (by decide) (rm200 l Z a0 hw [] a1 a2 k1 k2 x h0 n0 O0 f0 f1) rfl (hb hby d18_34) ?_
  intro v2 T2 lc2 X2 N2 hQ2
  obtain ⟨rfl, e2⟩ := hQ2
  refine own_istoreN X2 hx (Ls' := #[.val (.ref a1), .val (.ref a2), .val (.int (-1 : Int32))]) (hb hby d18_37) rfl ?_
  refine own_iloadN X2 hx (hb hby d18_38) rfl ?_
  refine own_ifYes X2 hx (pc' := 52) (hb hby d18_39) ((if0 _ _).trans (tlt (by decide : (-1 : Int32) < (0 : Int32))).1) (by decide) (by decide) ?_
  refine own_aloadN X2 hx (hb hby d18_52) rfl rfl ?_
  refine own_alen X2 hx hZ e2 f0 (hb hby d18_53) ?_
  refine own_aloadN X2 hx (hb hby d18_54) rfl rfl ?_
  refine own_alen X2 hx hZ e2 f1 (hb hby d18_55) ?_
  refine own_isub X2 hx (hb hby d18_56) ?_
  rw [show ((1 : Int32) - (0 : Int32)) = (1 : Int32) by decide]
  show Goes _ _ _ _ _ _ (T2.setTop (mkF m 57 #[.val (.ref a1), .val (.ref a2), .val (.int (-1 : Int32))] [(.int (1 : Int32))]))
  exact own_retI X2 hx N2 hlk (by decide) (by decide) hret (hb hby d18_57) (by rw [e2]; exact ⟨(congrArg (fun z => some (Value.int z)) (by decide)), rfl⟩)
theorem d25_0 : decode jdk_65_method_89_code 0 = .ok (.aload_n 0, 1) := by decide +kernel
theorem d25_1 : decode jdk_65_method_89_code 1 = .ok (.aload_n 1, 1) := by decide +kernel
theorem d25_2 : decode jdk_65_method_89_code 2 = .ok (.if_acmp .ne 5, 3) := by decide +kernel
theorem d25_5 : decode jdk_65_method_89_code 5 = .ok (.iconst 1, 1) := by decide +kernel
theorem d25_6 : decode jdk_65_method_89_code 6 = .ok (.ireturn, 1) := by decide +kernel
def Q25s (Z : State) (a1 : Addr) (a1 : Addr) (h0 : Heap) (n0 : Nat) (v : Option Value) (h : Heap) : Prop :=
  (v = some (.int (1 : Int32)) ∧ h = h0)
theorem ef_25s (m : MethodId) (a1 : Addr) (a1 : Addr) : entryFrame m #[(.ref a1), (.ref a1)] 3 = mkF m 0 #[.val (.ref a1), .val (.ref a1), .unset] [] := by first | (simp [entryFrame, mkF, argsToLocals, Value.category]; done) | rfl
set_option maxRecDepth 65536 in
set_option maxHeartbeats 40000000 in
theorem rm25s (l : Launch) (Z : State) (a0 : Array Value) (hw : ∀ d ∈ tables_1, d.before a0 Z = true) (ws : List Jvm.Cond) (a1 : Addr) (a1 : Addr) (h0 : Heap) (n0 : Nat) (O0 : Old Z n0 h0) :
    Meets l y25 jdk_65_method_89_code 3 (some .boolean) ws ({ frames := 0, cells := 0, slots := 0, locals := 0 } : Room) ({ frames := 0, cells := 0, slots := 0, locals := 0 } : Room).cells ({ frames := 0, cells := 0, slots := 0, locals := 0 } : Room).slots Z #[(.ref a1), (.ref a1)] h0 n0 (Q25s Z a1 a1 h0 n0) := by
  refine Meets.of (F := fun m => mkF m 0 #[.val (.ref a1), .val (.ref a1), .unset] []) (plainFor_of_name pn_2) (fun m => ef_25s m a1 a1) ?_
  intro p e s m below meth c T0 hx hby hml hown0 hnm hret hlk hZ X0 e0
  have hown : s.vm.findClass "java/util/Arrays" = some m.cls := hown0
  have N0 := Fr.nil n0
  show Goes _ _ _ _ _ _ (T0.setTop (mkF m 0 #[.val (.ref a1), .val (.ref a1), .unset] []))
  refine own_aloadN X0 hx (hb hby d25_0) rfl rfl ?_
  refine own_aloadN X0 hx (hb hby d25_1) rfl rfl ?_
  refine own_acmp X0 hx rfl rfl (same := true) (pc' := 5) (hb hby d25_2) (decide_eq_true rfl) (by decide) (by decide) ?_
  refine own_iconst X0 hx (v := (1 : Int32)) (hb hby d25_5) rfl ?_
  show Goes _ _ _ _ _ _ (T0.setTop (mkF m 6 #[.val (.ref a1), .val (.ref a1), .unset] [(.int (1 : Int32))]))
  exact own_retN X0 hx (t := .boolean) N0 hlk (by decide) (by decide) hret (by simp) (hb hby d25_6) (by rw [e0]; exact ⟨rfl, rfl⟩)
theorem d25_7 : decode jdk_65_method_89_code 7 = .ok (.aload_n 0, 1) := by decide +kernel
theorem d25_8 : decode jdk_65_method_89_code 8 = .ok (.ifnull 7, 3) := by decide +kernel
theorem d25_11 : decode jdk_65_method_89_code 11 = .ok (.aload_n 1, 1) := by decide +kernel
theorem d25_12 : decode jdk_65_method_89_code 12 = .ok (.ifnonnull 5, 3) := by decide +kernel
theorem d25_17 : decode jdk_65_method_89_code 17 = .ok (.aload_n 0, 1) := by decide +kernel
theorem d25_18 : decode jdk_65_method_89_code 18 = .ok (.arraylength, 1) := by decide +kernel
theorem d25_19 : decode jdk_65_method_89_code 19 = .ok (.istore_n 2, 1) := by decide +kernel
theorem d25_20 : decode jdk_65_method_89_code 20 = .ok (.aload_n 1, 1) := by decide +kernel
theorem d25_21 : decode jdk_65_method_89_code 21 = .ok (.arraylength, 1) := by decide +kernel
theorem d25_22 : decode jdk_65_method_89_code 22 = .ok (.iload_n 2, 1) := by decide +kernel
theorem d25_23 : decode jdk_65_method_89_code 23 = .ok (.if_icmp .eq 5, 3) := by decide +kernel
theorem d25_28 : decode jdk_65_method_89_code 28 = .ok (.aload_n 0, 1) := by decide +kernel
theorem d25_29 : decode jdk_65_method_89_code 29 = .ok (.aload_n 1, 1) := by decide +kernel
theorem d25_30 : decode jdk_65_method_89_code 30 = .ok (.iload_n 2, 1) := by decide +kernel
theorem d25_31 : decode jdk_65_method_89_code 31 = .ok (.invokestatic 272, 3) := by decide +kernel
theorem d25_34 : decode jdk_65_method_89_code 34 = .ok (.ifCond .ge 7, 3) := by decide +kernel
theorem d25_37 : decode jdk_65_method_89_code 37 = .ok (.iconst 1, 1) := by decide +kernel
theorem d25_38 : decode jdk_65_method_89_code 38 = .ok (.goto 4, 3) := by decide +kernel
theorem d25_42 : decode jdk_65_method_89_code 42 = .ok (.ireturn, 1) := by decide +kernel
def Q25e (Z : State) (a1 : Addr) (a2 : Addr) (k1 : ClassId) (k2 : ClassId) (x : Int32) (y : Int32) (h0 : Heap) (n0 : Nat) (v : Option Value) (h : Heap) : Prop :=
  (v = some (.int (1 : Int32)) ∧ h = h0)
theorem ef_25e (m : MethodId) (a1 : Addr) (a2 : Addr) : entryFrame m #[(.ref a1), (.ref a2)] 3 = mkF m 0 #[.val (.ref a1), .val (.ref a2), .unset] [] := by first | (simp [entryFrame, mkF, argsToLocals, Value.category]; done) | rfl
set_option maxRecDepth 65536 in
set_option maxHeartbeats 40000000 in
theorem rm25e (l : Launch) (Z : State) (a0 : Array Value) (hw : ∀ d ∈ tables_1, d.before a0 Z = true) (ws : List Jvm.Cond) (a1 : Addr) (a2 : Addr) (k1 : ClassId) (k2 : ClassId) (x : Int32) (y : Int32) (h0 : Heap) (n0 : Nat) (O0 : Old Z n0 h0) (f0 : Arv Z h0 a1 k1 .byte (1 : Int32) [(.int x)] (.int (0 : Int32))) (f1 : Arv Z h0 a2 k2 .byte (1 : Int32) [(.int y)] (.int (0 : Int32))) (f2 : a1 ≠ a2) (hxy : x = y) :
    Meets l y25 jdk_65_method_89_code 3 (some .boolean) ws ({ frames := 1, cells := 0, slots := 0, locals := 15 } : Room) ({ frames := 1, cells := 0, slots := 0, locals := 15 } : Room).cells ({ frames := 1, cells := 0, slots := 0, locals := 15 } : Room).slots Z #[(.ref a1), (.ref a2)] h0 n0 (Q25e Z a1 a2 k1 k2 x y h0 n0) := by
  refine Meets.of (F := fun m => mkF m 0 #[.val (.ref a1), .val (.ref a2), .unset] []) (plainFor_of_name pn_2) (fun m => ef_25e m a1 a2) ?_
  intro p e s m below meth c T0 hx hby hml hown0 hnm hret hlk hZ X0 e0
  have hown : s.vm.findClass "java/util/Arrays" = some m.cls := hown0
  have N0 := Fr.nil n0
  show Goes _ _ _ _ _ _ (T0.setTop (mkF m 0 #[.val (.ref a1), .val (.ref a2), .unset] []))
  refine own_aloadN X0 hx (hb hby d25_0) rfl rfl ?_
  refine own_aloadN X0 hx (hb hby d25_1) rfl rfl ?_
  refine own_acmp X0 hx rfl rfl (same := false) (pc' := 7) (hb hby d25_2) (decide_eq_false fun q => f2 (Value.ref.inj q)) (by decide) (by decide) ?_
  refine own_aloadN X0 hx (hb hby d25_7) rfl rfl ?_
  refine own_ifnullNo X0 hx (hb hby d25_8) ?_
  refine own_aloadN X0 hx (hb hby d25_11) rfl rfl ?_
  refine own_ifnonnullYes X0 hx (pc' := 17) (hb hby d25_12) (by decide) (by decide) ?_
  refine own_aloadN X0 hx (hb hby d25_17) rfl rfl ?_
  refine own_alen X0 hx hZ e0 f0 (hb hby d25_18) ?_
  refine own_istoreN X0 hx (Ls' := #[.val (.ref a1), .val (.ref a2), .val (.int (1 : Int32))]) (hb hby d25_19) rfl ?_
  refine own_aloadN X0 hx (hb hby d25_20) rfl rfl ?_
  refine own_alen X0 hx hZ e0 f1 (hb hby d25_21) ?_
  refine own_iloadN X0 hx (hb hby d25_22) rfl ?_
  refine own_icmpYes X0 hx (pc' := 28) (hb hby d25_23) (teq (by decide : (1 : Int32) = (1 : Int32))).1 (by decide) (by decide) ?_
  refine own_aloadN X0 hx (hb hby d25_28) rfl rfl ?_
  refine own_aloadN X0 hx (hb hby d25_29) rfl rfl ?_
  refine own_iloadN X0 hx (hb hby d25_30) rfl ?_
  refine own_callS X0 hx hZ hown (y := y20) (own_w hw 144 rfl) (own_w hw 145 rfl) (own_w hw 146 rfl) (own_w hw 147 rfl) (by decide) (W := 0) (by decide) (by decide) N0 e0 (by rw [hml]; rfl) (argsL := [(.ref a1), (.ref a2), (.int (1 : Int32))]) (rest := []) (lenOf pd_2 rfl) (Nat.le_of_eq rfl) (by decide) (by decide) (rm20e l Z a0 hw [] a1 a2 k1 k2 x y h0 n0 O0 f0 f1 hxy) rfl (hb hby d25_31) ?_
  intro v1 T1 lc1 X1 N1 hQ1
  obtain ⟨rfl, e1⟩ := hQ1
  refine own_ifNo X1 hx (hb hby d25_34) ((if0 _ _).trans (tlt (by decide : (-1 : Int32) < (0 : Int32))).2.1) ?_
  refine own_iconst X1 hx (v := (1 : Int32)) (hb hby d25_37) rfl ?_
  refine own_goto X1 hx (pc' := 42) (hb hby d25_38) (by decide) (by decide) ?_
  show Goes _ _ _ _ _ _ (T1.setTop (mkF m 42 #[.val (.ref a1), .val (.ref a2), .val (.int (1 : Int32))] [(.int (1 : Int32))]))
  exact own_retN X1 hx (t := .boolean) N1 hlk (by decide) (by decide) hret (by simp) (hb hby d25_42) (by rw [e1]; exact ⟨rfl, rfl⟩)
theorem d25_41 : decode jdk_65_method_89_code 41 = .ok (.iconst 0, 1) := by decide +kernel
def Q25d (Z : State) (a1 : Addr) (a2 : Addr) (k1 : ClassId) (k2 : ClassId) (x : Int32) (y : Int32) (h0 : Heap) (n0 : Nat) (v : Option Value) (h : Heap) : Prop :=
  (v = some (.int (0 : Int32)) ∧ h = h0)
theorem ef_25d (m : MethodId) (a1 : Addr) (a2 : Addr) : entryFrame m #[(.ref a1), (.ref a2)] 3 = mkF m 0 #[.val (.ref a1), .val (.ref a2), .unset] [] := by first | (simp [entryFrame, mkF, argsToLocals, Value.category]; done) | rfl
set_option maxRecDepth 65536 in
set_option maxHeartbeats 40000000 in
theorem rm25d (l : Launch) (Z : State) (a0 : Array Value) (hw : ∀ d ∈ tables_1, d.before a0 Z = true) (ws : List Jvm.Cond) (a1 : Addr) (a2 : Addr) (k1 : ClassId) (k2 : ClassId) (x : Int32) (y : Int32) (h0 : Heap) (n0 : Nat) (O0 : Old Z n0 h0) (f0 : Arv Z h0 a1 k1 .byte (1 : Int32) [(.int x)] (.int (0 : Int32))) (f1 : Arv Z h0 a2 k2 .byte (1 : Int32) [(.int y)] (.int (0 : Int32))) (f2 : a1 ≠ a2) (hxy : ¬ (x = y)) :
    Meets l y25 jdk_65_method_89_code 3 (some .boolean) ws ({ frames := 1, cells := 0, slots := 0, locals := 15 } : Room) ({ frames := 1, cells := 0, slots := 0, locals := 15 } : Room).cells ({ frames := 1, cells := 0, slots := 0, locals := 15 } : Room).slots Z #[(.ref a1), (.ref a2)] h0 n0 (Q25d Z a1 a2 k1 k2 x y h0 n0) := by
  refine Meets.of (F := fun m => mkF m 0 #[.val (.ref a1), .val (.ref a2), .unset] []) (plainFor_of_name pn_2) (fun m => ef_25d m a1 a2) ?_
  intro p e s m below meth c T0 hx hby hml hown0 hnm hret hlk hZ X0 e0
  have hown : s.vm.findClass "java/util/Arrays" = some m.cls := hown0
  have N0 := Fr.nil n0
  show Goes _ _ _ _ _ _ (T0.setTop (mkF m 0 #[.val (.ref a1), .val (.ref a2), .unset] []))
  refine own_aloadN X0 hx (hb hby d25_0) rfl rfl ?_
  refine own_aloadN X0 hx (hb hby d25_1) rfl rfl ?_
  refine own_acmp X0 hx rfl rfl (same := false) (pc' := 7) (hb hby d25_2) (decide_eq_false fun q => f2 (Value.ref.inj q)) (by decide) (by decide) ?_
  refine own_aloadN X0 hx (hb hby d25_7) rfl rfl ?_
  refine own_ifnullNo X0 hx (hb hby d25_8) ?_
  refine own_aloadN X0 hx (hb hby d25_11) rfl rfl ?_
  refine own_ifnonnullYes X0 hx (pc' := 17) (hb hby d25_12) (by decide) (by decide) ?_
  refine own_aloadN X0 hx (hb hby d25_17) rfl rfl ?_
  refine own_alen X0 hx hZ e0 f0 (hb hby d25_18) ?_
  refine own_istoreN X0 hx (Ls' := #[.val (.ref a1), .val (.ref a2), .val (.int (1 : Int32))]) (hb hby d25_19) rfl ?_
  refine own_aloadN X0 hx (hb hby d25_20) rfl rfl ?_
  refine own_alen X0 hx hZ e0 f1 (hb hby d25_21) ?_
  refine own_iloadN X0 hx (hb hby d25_22) rfl ?_
  refine own_icmpYes X0 hx (pc' := 28) (hb hby d25_23) (teq (by decide : (1 : Int32) = (1 : Int32))).1 (by decide) (by decide) ?_
  refine own_aloadN X0 hx (hb hby d25_28) rfl rfl ?_
  refine own_aloadN X0 hx (hb hby d25_29) rfl rfl ?_
  refine own_iloadN X0 hx (hb hby d25_30) rfl ?_
  refine own_callS X0 hx hZ hown (y := y20) (own_w hw 144 rfl) (own_w hw 145 rfl) (own_w hw 146 rfl) (own_w hw 147 rfl) (by decide) (W := 0) (by decide) (by decide) N0 e0 (by rw [hml]; rfl) (argsL := [(.ref a1), (.ref a2), (.int (1 : Int32))]) (rest := []) (lenOf pd_2 rfl) (Nat.le_of_eq rfl) (by decide) (by decide) (rm20d l Z a0 hw [] a1 a2 k1 k2 x y h0 n0 O0 f0 f1 hxy) rfl (hb hby d25_31) ?_
  intro v1 T1 lc1 X1 N1 hQ1
  obtain ⟨rfl, e1⟩ := hQ1
  refine own_ifYes X1 hx (pc' := 41) (hb hby d25_34) ((if0 _ _).trans (flt (by decide : ¬ ((0 : Int32) < (0 : Int32)))).2.1) (by decide) (by decide) ?_
  refine own_iconst X1 hx (v := (0 : Int32)) (hb hby d25_41) rfl ?_
  show Goes _ _ _ _ _ _ (T1.setTop (mkF m 42 #[.val (.ref a1), .val (.ref a2), .val (.int (1 : Int32))] [(.int (0 : Int32))]))
  exact own_retN X1 hx (t := .boolean) N1 hlk (by decide) (by decide) hret (by simp) (hb hby d25_42) (by rw [e1]; exact ⟨rfl, rfl⟩)
theorem d34_0 : decode method_5_code 0 = .ok (.aload_n 0, 1) := by decide +kernel
theorem d34_1 : decode method_5_code 1 = .ok (.ifnull 9, 3) := by decide +kernel
theorem d34_4 : decode method_5_code 4 = .ok (.aload_n 0, 1) := by decide +kernel
theorem d34_5 : decode method_5_code 5 = .ok (.arraylength, 1) := by decide +kernel
theorem d34_6 : decode method_5_code 6 = .ok (.iconst 1, 1) := by decide +kernel
theorem d34_7 : decode method_5_code 7 = .ok (.if_icmp .eq 5, 3) := by decide +kernel
theorem d34_12 : decode method_5_code 12 = .ok (.aload_n 0, 1) := by decide +kernel
theorem d34_13 : decode method_5_code 13 = .ok (.iconst 0, 1) := by decide +kernel
theorem d34_14 : decode method_5_code 14 = .ok (.baload, 1) := by decide +kernel
theorem d34_15 : decode method_5_code 15 = .ok (.sipush 255, 3) := by decide +kernel
theorem d34_18 : decode method_5_code 18 = .ok (.iand, 1) := by decide +kernel
theorem d34_19 : decode method_5_code 19 = .ok (.ireturn, 1) := by decide +kernel
theorem pn_3 : plainName "com/example/contention/contention/KeyTreePublishPinLaw" = true := by first | (simp [plainName, overriddenIn]; done) | decide +kernel
def Q34 (Z : State) (a1 : Addr) (k : ClassId) (x : Int32) (h0 : Heap) (n0 : Nat) (v : Option Value) (h : Heap) : Prop :=
  (v = some (.int (x &&& (255 : Int32))) ∧ h = h0)
theorem ef_34 (m : MethodId) (a1 : Addr) : entryFrame m #[(.ref a1)] 1 = mkF m 0 #[.val (.ref a1)] [] := by first | (simp [entryFrame, mkF, argsToLocals, Value.category]; done) | rfl
set_option maxRecDepth 65536 in
set_option maxHeartbeats 40000000 in
theorem rm34 (l : Launch) (Z : State) (a0 : Array Value) (hw : ∀ d ∈ tables_1, d.before a0 Z = true) (ws : List Jvm.Cond) (a1 : Addr) (k : ClassId) (x : Int32) (h0 : Heap) (n0 : Nat) (O0 : Old Z n0 h0) (f0 : Arv Z h0 a1 k .byte (1 : Int32) [(.int x)] (.int (0 : Int32))) :
    Meets l y34 method_5_code 1 (some .int) ws ({ frames := 0, cells := 0, slots := 0, locals := 0 } : Room) ({ frames := 0, cells := 0, slots := 0, locals := 0 } : Room).cells ({ frames := 0, cells := 0, slots := 0, locals := 0 } : Room).slots Z #[(.ref a1)] h0 n0 (Q34 Z a1 k x h0 n0) := by
  refine Meets.of (F := fun m => mkF m 0 #[.val (.ref a1)] []) (plainFor_of_name pn_3) (fun m => ef_34 m a1) ?_
  intro p e s m below meth c T0 hx hby hml hown0 hnm hret hlk hZ X0 e0
  have hown : s.vm.findClass cL = some m.cls := hown0
  have N0 := Fr.nil n0
  show Goes _ _ _ _ _ _ (T0.setTop (mkF m 0 #[.val (.ref a1)] []))
  refine own_aloadN X0 hx (hb hby d34_0) rfl rfl ?_
  refine own_ifnullNo X0 hx (hb hby d34_1) ?_
  refine own_aloadN X0 hx (hb hby d34_4) rfl rfl ?_
  refine own_alen X0 hx hZ e0 f0 (hb hby d34_5) ?_
  refine own_iconst X0 hx (v := (1 : Int32)) (hb hby d34_6) rfl ?_
  refine own_icmpYes X0 hx (pc' := 12) (hb hby d34_7) (teq (by decide : (1 : Int32) = (1 : Int32))).1 (by decide) (by decide) ?_
  refine own_aloadN X0 hx (hb hby d34_12) rfl rfl ?_
  refine own_iconst X0 hx (v := (0 : Int32)) (hb hby d34_13) rfl ?_
  refine own_baload X0 hx hZ e0 f0 ⟨by decide, by decide⟩ (v := (.int x)) rfl (hb hby d34_14) ?_
  refine own_sipush X0 hx (v := (255 : Int32)) (hb hby d34_15) rfl ?_
  refine own_iand X0 hx (hb hby d34_18) ?_
  show Goes _ _ _ _ _ _ (T0.setTop (mkF m 19 #[.val (.ref a1)] [(.int (x &&& (255 : Int32)))]))
  exact own_retI X0 hx N0 hlk (by decide) (by decide) hret (hb hby d34_19) (by rw [e0]; exact ⟨rfl, rfl⟩)
theorem d31_0 : decode method_3_code 0 = .ok (.iload_n 0, 1) := by decide +kernel
theorem d31_1 : decode method_3_code 1 = .ok (.iconst 1, 1) := by decide +kernel
theorem d31_2 : decode method_3_code 2 = .ok (.iadd, 1) := by decide +kernel
theorem d31_3 : decode method_3_code 3 = .ok (.sipush 512, 3) := by decide +kernel
theorem d31_6 : decode method_3_code 6 = .ok (.imul, 1) := by decide +kernel
theorem d31_7 : decode method_3_code 7 = .ok (.ireturn, 1) := by decide +kernel
def Q31 (Z : State) (p1 : Int32) (h0 : Heap) (n0 : Nat) (v : Option Value) (h : Heap) : Prop :=
  (v = some (.int ((p1 + (1 : Int32)) * (512 : Int32))) ∧ h = h0)
theorem ef_31 (m : MethodId) (p1 : Int32) : entryFrame m #[(.int p1)] 1 = mkF m 0 #[.val (.int p1)] [] := by first | (simp [entryFrame, mkF, argsToLocals, Value.category]; done) | rfl
set_option maxRecDepth 65536 in
set_option maxHeartbeats 40000000 in
theorem rm31 (l : Launch) (Z : State) (a0 : Array Value) (hw : ∀ d ∈ tables_1, d.before a0 Z = true) (ws : List Jvm.Cond) (p1 : Int32) (h0 : Heap) (n0 : Nat) (O0 : Old Z n0 h0) :
    Meets l y31 method_3_code 1 (some .int) ws ({ frames := 0, cells := 0, slots := 0, locals := 0 } : Room) ({ frames := 0, cells := 0, slots := 0, locals := 0 } : Room).cells ({ frames := 0, cells := 0, slots := 0, locals := 0 } : Room).slots Z #[(.int p1)] h0 n0 (Q31 Z p1 h0 n0) := by
  refine Meets.of (F := fun m => mkF m 0 #[.val (.int p1)] []) (plainFor_of_name pn_3) (fun m => ef_31 m p1) ?_
  intro p e s m below meth c T0 hx hby hml hown0 hnm hret hlk hZ X0 e0
  have hown : s.vm.findClass cL = some m.cls := hown0
  have N0 := Fr.nil n0
  show Goes _ _ _ _ _ _ (T0.setTop (mkF m 0 #[.val (.int p1)] []))
  refine own_iloadN X0 hx (hb hby d31_0) rfl ?_
  refine own_iconst X0 hx (v := (1 : Int32)) (hb hby d31_1) rfl ?_
  refine own_iadd X0 hx (hb hby d31_2) ?_
  refine own_sipush X0 hx (v := (512 : Int32)) (hb hby d31_3) rfl ?_
  refine own_imul X0 hx (hb hby d31_6) ?_
  show Goes _ _ _ _ _ _ (T0.setTop (mkF m 7 #[.val (.int p1)] [(.int ((p1 + (1 : Int32)) * (512 : Int32)))]))
  exact own_retI X0 hx N0 hlk (by decide) (by decide) hret (hb hby d31_7) (by rw [e0]; exact ⟨rfl, rfl⟩)
theorem d36_0 : decode method_4_code 0 = .ok (.iload_n 0, 1) := by decide +kernel
theorem d36_1 : decode method_4_code 1 = .ok (.iconst 1, 1) := by decide +kernel
theorem d36_2 : decode method_4_code 2 = .ok (.iadd, 1) := by decide +kernel
theorem d36_3 : decode method_4_code 3 = .ok (.sipush 512, 3) := by decide +kernel
theorem d36_6 : decode method_4_code 6 = .ok (.imul, 1) := by decide +kernel
theorem d36_7 : decode method_4_code 7 = .ok (.iload_n 1, 1) := by decide +kernel
theorem d36_8 : decode method_4_code 8 = .ok (.iconst 1, 1) := by decide +kernel
theorem d36_9 : decode method_4_code 9 = .ok (.iadd, 1) := by decide +kernel
theorem d36_10 : decode method_4_code 10 = .ok (.iadd, 1) := by decide +kernel
theorem d36_11 : decode method_4_code 11 = .ok (.ireturn, 1) := by decide +kernel
def Q36 (Z : State) (p1 : Int32) (p2 : Int32) (h0 : Heap) (n0 : Nat) (v : Option Value) (h : Heap) : Prop :=
  (v = some (.int (((p1 + (1 : Int32)) * (512 : Int32)) + (p2 + (1 : Int32)))) ∧ h = h0)
theorem ef_36 (m : MethodId) (p1 : Int32) (p2 : Int32) : entryFrame m #[(.int p1), (.int p2)] 2 = mkF m 0 #[.val (.int p1), .val (.int p2)] [] := by first | (simp [entryFrame, mkF, argsToLocals, Value.category]; done) | rfl
set_option maxRecDepth 65536 in
set_option maxHeartbeats 40000000 in
theorem rm36 (l : Launch) (Z : State) (a0 : Array Value) (hw : ∀ d ∈ tables_1, d.before a0 Z = true) (ws : List Jvm.Cond) (p1 : Int32) (p2 : Int32) (h0 : Heap) (n0 : Nat) (O0 : Old Z n0 h0) :
    Meets l y36 method_4_code 2 (some .int) ws ({ frames := 0, cells := 0, slots := 0, locals := 0 } : Room) ({ frames := 0, cells := 0, slots := 0, locals := 0 } : Room).cells ({ frames := 0, cells := 0, slots := 0, locals := 0 } : Room).slots Z #[(.int p1), (.int p2)] h0 n0 (Q36 Z p1 p2 h0 n0) := by
  refine Meets.of (F := fun m => mkF m 0 #[.val (.int p1), .val (.int p2)] []) (plainFor_of_name pn_3) (fun m => ef_36 m p1 p2) ?_
  intro p e s m below meth c T0 hx hby hml hown0 hnm hret hlk hZ X0 e0
  have hown : s.vm.findClass cL = some m.cls := hown0
  have N0 := Fr.nil n0
  show Goes _ _ _ _ _ _ (T0.setTop (mkF m 0 #[.val (.int p1), .val (.int p2)] []))
  refine own_iloadN X0 hx (hb hby d36_0) rfl ?_
  refine own_iconst X0 hx (v := (1 : Int32)) (hb hby d36_1) rfl ?_
  refine own_iadd X0 hx (hb hby d36_2) ?_
  refine own_sipush X0 hx (v := (512 : Int32)) (hb hby d36_3) rfl ?_
  refine own_imul X0 hx (hb hby d36_6) ?_
  refine own_iloadN X0 hx (hb hby d36_7) rfl ?_
  refine own_iconst X0 hx (v := (1 : Int32)) (hb hby d36_8) rfl ?_
  refine own_iadd X0 hx (hb hby d36_9) ?_
  refine own_iadd X0 hx (hb hby d36_10) ?_
  show Goes _ _ _ _ _ _ (T0.setTop (mkF m 11 #[.val (.int p1), .val (.int p2)] [(.int (((p1 + (1 : Int32)) * (512 : Int32)) + (p2 + (1 : Int32))))]))
  exact own_retI X0 hx N0 hlk (by decide) (by decide) hret (hb hby d36_11) (by rw [e0]; exact ⟨rfl, rfl⟩)
theorem d3_0 : decode prog_36_method_1_code 0 = .ok (.aload_n 0, 1) := by decide +kernel
theorem d3_1 : decode prog_36_method_1_code 1 = .ok (.invokespecial 3, 3) := by decide +kernel
theorem d3_4 : decode prog_36_method_1_code 4 = .ok (.aload_n 0, 1) := by decide +kernel
theorem d3_5 : decode prog_36_method_1_code 5 = .ok (.lload_n 1, 1) := by decide +kernel
theorem d3_6 : decode prog_36_method_1_code 6 = .ok (.putfield 9, 3) := by decide +kernel
theorem d3_9 : decode prog_36_method_1_code 9 = .ok (.aload_n 0, 1) := by decide +kernel
theorem d3_10 : decode prog_36_method_1_code 10 = .ok (.bipush 64, 2) := by decide +kernel
theorem d3_12 : decode prog_36_method_1_code 12 = .ok (.anewarray 15, 3) := by decide +kernel
theorem d3_15 : decode prog_36_method_1_code 15 = .ok (.putfield 17, 3) := by decide +kernel
theorem d3_18 : decode prog_36_method_1_code 18 = .ok (.aload_n 0, 1) := by decide +kernel
theorem d3_19 : decode prog_36_method_1_code 19 = .ok (.iload_n 3, 1) := by decide +kernel
theorem d3_20 : decode prog_36_method_1_code 20 = .ok (.ifCond .eq 7, 3) := by decide +kernel
theorem d3_23 : decode prog_36_method_1_code 23 = .ok (.aconst_null, 1) := by decide +kernel
theorem d3_24 : decode prog_36_method_1_code 24 = .ok (.goto 8, 3) := by decide +kernel
theorem d3_32 : decode prog_36_method_1_code 32 = .ok (.putfield 21, 3) := by decide +kernel
theorem d3_35 : decode prog_36_method_1_code 35 = .ok (.return_, 1) := by decide +kernel
theorem pn_4 : plainName "com/example/contention/contention/KeyTree$Node" = true := by first | (simp [plainName, overriddenIn]; done) | decide +kernel
def Q3 (Z : State) (a1 : Addr) (q2 : Int64) (h0 : Heap) (n0 : Nat) (v : Option Value) (h : Heap) : Prop :=
  (∃ (kr : Addr) (kk : ClassId), v = none ∧ Keep h0 h [a1] ∧ Exa Z h a1 cN ∧ Fld Z h a1 cN "edit" "J" (.long q2) ∧ Fld Z h a1 cN "keys" "[[B" (.ref kr) ∧ Fld Z h a1 cN "children" dA .null ∧ Fld Z h a1 cN "size" "I" (.int (0 : Int32)) ∧ Exa Z h kr "[[B" ∧ Arv Z h kr kk (.array .byte) (64 : Int32) [.null, .null, .null] .null ∧ h0.size ≤ kr ∧ OvrA Z kk .byte "[B")
theorem ef_3 (m : MethodId) (a1 : Addr) (q2 : Int64) : entryFrame m #[(.ref a1), (.long q2), (.int (1 : Int32))] 4 = mkF m 0 #[.val (.ref a1), .val (.long q2), .second, .val (.int (1 : Int32))] [] := by first | (simp [entryFrame, mkF, argsToLocals, Value.category]; done) | rfl
set_option maxRecDepth 65536 in
set_option maxHeartbeats 40000000 in
theorem rm3 (l : Launch) (Z : State) (a0 : Array Value) (hw : ∀ d ∈ tables_1, d.before a0 Z = true) (ws : List Jvm.Cond) (a1 : Addr) (q2 : Int64) (h0 : Heap) (n0 : Nat) (O0 : Old Z n0 h0) (f0 : Exa Z h0 a1 cN) (f1 : Fld Z h0 a1 cN "edit" "J" (.long (0 : Int64))) (f2 : Fld Z h0 a1 cN "keys" "[[B" .null) (f3 : Fld Z h0 a1 cN "children" dA .null) (f4 : Fld Z h0 a1 cN "size" "I" (.int (0 : Int32))) (f5 : n0 ≤ a1) :
    Meets l y3 prog_36_method_1_code 4 none ws ({ frames := 1, cells := 1, slots := 64, locals := 12 } : Room) ({ frames := 1, cells := 1, slots := 64, locals := 12 } : Room).cells ({ frames := 1, cells := 1, slots := 64, locals := 12 } : Room).slots Z #[(.ref a1), (.long q2), (.int (1 : Int32))] h0 n0 (Q3 Z a1 q2 h0 n0) := by
  refine Meets.of (F := fun m => mkF m 0 #[.val (.ref a1), .val (.long q2), .second, .val (.int (1 : Int32))] []) (plainFor_of_name pn_4) (fun m => ef_3 m a1 q2) ?_
  intro p e s m below meth c T0 hx hby hml hown0 hnm hret hlk hZ X0 e0
  have hown : s.vm.findClass cN = some m.cls := hown0
  have N0 := Fr.nil n0
  have KC0 := Keep.refl h0 [a1]
  show Goes _ _ _ _ _ _ (T0.setTop (mkF m 0 #[.val (.ref a1), .val (.long q2), .second, .val (.int (1 : Int32))] []))
  refine own_aloadN X0 hx (hb hby d3_0) rfl rfl ?_
  refine own_initO X0 hx hZ hown (own_w hw 18 rfl) (own_w hw 8 rfl) (own_w hw 9 rfl) e0 (by rw [hml]; rfl) (hb hby d3_1) (by decide) (W := 0) (Nat.le_of_eq rfl) (by decide) (fun T1 X1 e1 => ?_)
  refine own_aloadN X1 hx (hb hby d3_4) rfl rfl ?_
  refine own_lloadN X1 hx (hb hby d3_5) rfl ?_
  refine own_putF X1 hx hZ hown N0 (host := "") (Or.inl (own_w hw 19 rfl)) Via.refl e1 f1 f0 (Or.inr ⟨(own_w hw 20 rfl), rfl, hnm⟩) (own_w hw 13 rfl) (ty := .long) (by decide) rfl rfl f5 (hb hby d3_6) (fun T2 h2 lc2 X2 e2 N2 W2 => ?_)
  have E3_a1 := f0.wr W2
  have F3_edit_a1 := f1.same W2
  have F3_keys_a1 := f2.other W2 (Or.inr (slot_ne (Or.inr (own_w hw 24 rfl)) (Or.inr (own_w hw 20 rfl)) (by decide) (t := (.array (.array .byte))) (t' := .long) (by decide) (by decide)))
  have F3_children_a1 := f3.other W2 (Or.inr (slot_ne (Or.inr (own_w hw 26 rfl)) (Or.inr (own_w hw 20 rfl)) (by decide) (t := (.array (.object cN))) (t' := .long) (by decide) (by decide)))
  have F3_size_a1 := f4.other W2 (Or.inr (slot_ne (Or.inl (own_w hw 56 rfl)) (Or.inr (own_w hw 20 rfl)) (by decide) (t := .int) (t' := .long) (by decide) (by decide)))
  have O3 := O0.wr W2 f5
  have KC3 := KC0.wr W2 (Or.inl (List.mem_of_getElem? (i := 0) rfl))
  refine own_aloadN X2 hx (hb hby d3_9) rfl rfl ?_
  refine own_bipush X2 hx (v := (64 : Int32)) (hb hby d3_10) rfl ?_
  refine own_newRAE X2 hx hZ hown (C := "[B") (ad := "[[B") (ty := .byte) (by decide +kernel) (by decide +kernel) (own_w hw 21 rfl) (own_w hw 22 rfl) e2 (hb hby d3_12) (by decide) (cap := 64) (by decide) (by decide) (by decide) (by decide) (fun T4 h4 b4 k4 g4 X4 e4 E4 A4 O4_ B4 => ?_)
  have ne_a1_b4 : a1 ≠ b4 := Nat.ne_of_lt (Nat.lt_of_lt_of_le E3_a1.lt (Nat.le_of_eq g4.symm))
  have ge_b4 : n0 ≤ b4 := Nat.le_trans (own_sz O3) (Nat.le_of_eq g4.symm)
  have sz_b4 : h0.size ≤ b4 := Nat.le_trans KC3.1 (Nat.le_of_eq g4.symm)
  have E5_a1 := E3_a1.ext E4
  have F5_edit_a1 := F3_edit_a1.ext E4
  have F5_keys_a1 := F3_keys_a1.ext E4
  have F5_children_a1 := F3_children_a1.ext E4
  have F5_size_a1 := F3_size_a1.ext E4
  have O5 := O3.ext E4
  have KC5 := KC3.ext E4
  have V4 : Arv Z h4 b4 k4 (.array .byte) (64 : Int32) [.null, .null, .null] .null := A4.pad (pad_rep [] .null 3)
  refine own_putF X4 hx hZ hown N2 (host := "") (Or.inl (own_w hw 23 rfl)) Via.refl e4 F5_keys_a1 E5_a1 (Or.inr ⟨(own_w hw 24 rfl), rfl, hnm⟩) (own_w hw 13 rfl) (ty := (.array (.array .byte))) (by decide) rfl rfl f5 (hb hby d3_15) (fun T6 h6 lc6 X6 e6 N6 W6 => ?_)
  have E7_a1 := E5_a1.wr W6
  have E7_b4 := B4.wr W6
  have F7_edit_a1 := F5_edit_a1.other W6 (Or.inr (slot_ne (Or.inr (own_w hw 20 rfl)) (Or.inr (own_w hw 24 rfl)) (by decide) (t := .long) (t' := (.array (.array .byte))) (by decide) (by decide)))
  have F7_keys_a1 := F5_keys_a1.same W6
  have F7_children_a1 := F5_children_a1.other W6 (Or.inr (slot_ne (Or.inr (own_w hw 26 rfl)) (Or.inr (own_w hw 24 rfl)) (by decide) (t := (.array (.object cN))) (t' := (.array (.array .byte))) (by decide) (by decide)))
  have F7_size_a1 := F5_size_a1.other W6 (Or.inr (slot_ne (Or.inl (own_w hw 56 rfl)) (Or.inr (own_w hw 24 rfl)) (by decide) (t := .int) (t' := (.array (.array .byte))) (by decide) (by decide)))
  have A7_b4 := V4.other W6 (Ne.symm ne_a1_b4)
  have O7 := O5.wr W6 f5
  have KC7 := KC5.wr W6 (Or.inl (List.mem_of_getElem? (i := 0) rfl))
  refine own_aloadN X6 hx (hb hby d3_18) rfl rfl ?_
  refine own_iloadN X6 hx (hb hby d3_19) rfl ?_
  refine own_ifNo X6 hx (hb hby d3_20) ((if0 _ _).trans (feq (by decide : ¬ ((1 : Int32) = (0 : Int32)))).1) ?_
  refine own_aconst_null X6 hx (hb hby d3_23) ?_
  refine own_goto X6 hx (pc' := 32) (hb hby d3_24) (by decide) (by decide) ?_
  refine own_putF X6 hx hZ hown N6 (host := "") (Or.inl (own_w hw 25 rfl)) Via.refl e6 F7_children_a1 E7_a1 (Or.inr ⟨(own_w hw 26 rfl), rfl, hnm⟩) (own_w hw 13 rfl) (ty := (.array (.object cN))) (by decide) rfl rfl f5 (hb hby d3_32) (fun T8 h8 lc8 X8 e8 N8 W8 => ?_)
  have E9_a1 := E7_a1.wr W8
  have E9_b4 := E7_b4.wr W8
  have F9_edit_a1 := F7_edit_a1.other W8 (Or.inr (slot_ne (Or.inr (own_w hw 20 rfl)) (Or.inr (own_w hw 26 rfl)) (by decide) (t := .long) (t' := (.array (.object cN))) (by decide) (by decide)))
  have F9_keys_a1 := F7_keys_a1.other W8 (Or.inr (slot_ne (Or.inr (own_w hw 24 rfl)) (Or.inr (own_w hw 26 rfl)) (by decide) (t := (.array (.array .byte))) (t' := (.array (.object cN))) (by decide) (by decide)))
  have F9_children_a1 := F7_children_a1.same W8
  have F9_size_a1 := F7_size_a1.other W8 (Or.inr (slot_ne (Or.inl (own_w hw 56 rfl)) (Or.inr (own_w hw 26 rfl)) (by decide) (t := .int) (t' := (.array (.object cN))) (by decide) (by decide)))
  have A9_b4 := A7_b4.other W8 (Ne.symm ne_a1_b4)
  have O9 := O7.wr W8 f5
  have KC9 := KC7.wr W8 (Or.inl (List.mem_of_getElem? (i := 0) rfl))
  show Goes _ _ _ _ _ _ (T8.setTop (mkF m 35 #[.val (.ref a1), .val (.long q2), .second, .val (.int (1 : Int32))] []))
  exact own_retV X8 hx N8 hlk (by decide) (by decide) hret (hb hby d3_35) (by rw [e8]; exact ⟨b4, k4, rfl, KC9, E9_a1, F9_edit_a1, F9_keys_a1, F9_children_a1, F9_size_a1, E9_b4, A9_b4, sz_b4, O4_⟩)
theorem d1_0 : decode prog_35_method_1_code 0 = .ok (.aload_n 0, 1) := by decide +kernel
theorem d1_1 : decode prog_35_method_1_code 1 = .ok (.invokespecial 3, 3) := by decide +kernel
theorem d1_4 : decode prog_35_method_1_code 4 = .ok (.aload_n 0, 1) := by decide +kernel
theorem d1_5 : decode prog_35_method_1_code 5 = .ok (.lconst 1, 1) := by decide +kernel
theorem d1_6 : decode prog_35_method_1_code 6 = .ok (.putfield 9, 3) := by decide +kernel
theorem d1_9 : decode prog_35_method_1_code 9 = .ok (.aload_n 0, 1) := by decide +kernel
theorem d1_10 : decode prog_35_method_1_code 10 = .ok (.new 13, 3) := by decide +kernel
theorem d1_13 : decode prog_35_method_1_code 13 = .ok (.dup, 1) := by decide +kernel
theorem d1_14 : decode prog_35_method_1_code 14 = .ok (.lconst 0, 1) := by decide +kernel
theorem d1_15 : decode prog_35_method_1_code 15 = .ok (.iconst 1, 1) := by decide +kernel
theorem d1_16 : decode prog_35_method_1_code 16 = .ok (.invokespecial 15, 3) := by decide +kernel
theorem pd_4 : parseMethodDescriptor "(JZ)V" = some ⟨[.long, .boolean], none⟩ := by decide +kernel
theorem d1_19 : decode prog_35_method_1_code 19 = .ok (.putfield 18, 3) := by decide +kernel
theorem d1_22 : decode prog_35_method_1_code 22 = .ok (.aload_n 0, 1) := by decide +kernel
theorem d1_23 : decode prog_35_method_1_code 23 = .ok (.aload_n 0, 1) := by decide +kernel
theorem d1_24 : decode prog_35_method_1_code 24 = .ok (.getfield 18, 3) := by decide +kernel
theorem d1_27 : decode prog_35_method_1_code 27 = .ok (.putfield 22, 3) := by decide +kernel
theorem d1_30 : decode prog_35_method_1_code 30 = .ok (.return_, 1) := by decide +kernel
theorem pn_5 : plainName "com/example/contention/contention/KeyTree" = true := by first | (simp [plainName, overriddenIn]; done) | decide +kernel
def Q1 (Z : State) (a1 : Addr) (h0 : Heap) (n0 : Nat) (v : Option Value) (h : Heap) : Prop :=
  (∃ (n : Addr) (kr : Addr) (kk : ClassId), v = none ∧ Keep h0 h [a1] ∧ Exa Z h a1 cT ∧ Fld Z h a1 cT "edit" "J" (.long (1 : Int64)) ∧ Fld Z h a1 cT "root" dN (.ref n) ∧ Fld Z h a1 cT "draft" dN (.ref n) ∧ Fld Z h a1 cT "size" "I" (.int (0 : Int32)) ∧ Exa Z h n cN ∧ Fld Z h n cN "edit" "J" (.long (0 : Int64)) ∧ Fld Z h n cN "keys" "[[B" (.ref kr) ∧ Fld Z h n cN "children" dA .null ∧ Fld Z h n cN "size" "I" (.int (0 : Int32)) ∧ Exa Z h kr "[[B" ∧ Arv Z h kr kk (.array .byte) (64 : Int32) [.null, .null, .null] .null ∧ h0.size ≤ n ∧ h0.size ≤ kr ∧ OvrA Z kk .byte "[B")
theorem ef_1 (m : MethodId) (a1 : Addr) : entryFrame m #[(.ref a1)] 1 = mkF m 0 #[.val (.ref a1)] [] := by first | (simp [entryFrame, mkF, argsToLocals, Value.category]; done) | rfl
set_option maxRecDepth 65536 in
set_option maxHeartbeats 40000000 in
theorem rm1 (l : Launch) (Z : State) (a0 : Array Value) (hw : ∀ d ∈ tables_1, d.before a0 Z = true) (ws : List Jvm.Cond) (a1 : Addr) (h0 : Heap) (n0 : Nat) (O0 : Old Z n0 h0) (f0 : Exa Z h0 a1 cT) (f1 : Fld Z h0 a1 cT "edit" "J" (.long (0 : Int64))) (f2 : Fld Z h0 a1 cT "root" dN .null) (f3 : Fld Z h0 a1 cT "draft" dN .null) (f4 : Fld Z h0 a1 cT "size" "I" (.int (0 : Int32))) (f5 : n0 ≤ a1) :
    Meets l y1 prog_35_method_1_code 1 none ws ({ frames := 2, cells := 2, slots := 68, locals := 29 } : Room) ({ frames := 2, cells := 2, slots := 68, locals := 29 } : Room).cells ({ frames := 2, cells := 2, slots := 68, locals := 29 } : Room).slots Z #[(.ref a1)] h0 n0 (Q1 Z a1 h0 n0) := by
  refine Meets.of (F := fun m => mkF m 0 #[.val (.ref a1)] []) (plainFor_of_name pn_5) (fun m => ef_1 m a1) ?_
  intro p e s m below meth c T0 hx hby hml hown0 hnm hret hlk hZ X0 e0
  have hown : s.vm.findClass cT = some m.cls := hown0
  have N0 := Fr.nil n0
  have KC0 := Keep.refl h0 [a1]
  show Goes _ _ _ _ _ _ (T0.setTop (mkF m 0 #[.val (.ref a1)] []))
  refine own_aloadN X0 hx (hb hby d1_0) rfl rfl ?_
  refine own_initO X0 hx hZ hown (own_w hw 7 rfl) (own_w hw 8 rfl) (own_w hw 9 rfl) e0 (by rw [hml]; rfl) (hb hby d1_1) (by decide) (W := 0) (Nat.le_of_eq rfl) (by decide) (fun T1 X1 e1 => ?_)
  refine own_aloadN X1 hx (hb hby d1_4) rfl rfl ?_
  refine own_lconst X1 hx (v := (1 : Int64)) (hb hby d1_5) rfl ?_
  refine own_putF X1 hx hZ hown N0 (host := "") (Or.inl (own_w hw 10 rfl)) Via.refl e1 f1 f0 (Or.inl (own_w hw 11 rfl)) (own_w hw 2 rfl) (ty := .long) (by decide) rfl rfl f5 (hb hby d1_6) (fun T2 h2 lc2 X2 e2 N2 W2 => ?_)
  have E3_a1 := f0.wr W2
  have F3_edit_a1 := f1.same W2
  have F3_root_a1 := f2.other W2 (Or.inr (slot_ne (Or.inl (own_w hw 28 rfl)) (Or.inl (own_w hw 11 rfl)) (by decide) (t := (.object cN)) (t' := .long) (by decide) (by decide)))
  have F3_draft_a1 := f3.other W2 (Or.inr (slot_ne (Or.inl (own_w hw 30 rfl)) (Or.inl (own_w hw 11 rfl)) (by decide) (t := (.object cN)) (t' := .long) (by decide) (by decide)))
  have F3_size_a1 := f4.other W2 (Or.inr (slot_ne (Or.inl (own_w hw 37 rfl)) (Or.inl (own_w hw 11 rfl)) (by decide) (t := .int) (t' := .long) (by decide) (by decide)))
  have O3 := O0.wr W2 f5
  have KC3 := KC0.wr W2 (Or.inl (List.mem_of_getElem? (i := 0) rfl))
  refine own_aloadN X2 hx (hb hby d1_9) rfl rfl ?_
  refine own_new X2 hx hZ hown (own_w hw 12 rfl) (own_w hw 13 rfl) (own_w hw 14 rfl) e2 (hb hby d1_10) (by decide) (by decide) (fun T4 h4 b4 g4 X4 e4 E4 A4 D4 => ?_)
  have ne_a1_b4 : a1 ≠ b4 := Nat.ne_of_lt (Nat.lt_of_lt_of_le E3_a1.lt (Nat.le_of_eq g4.symm))
  have ge_b4 : n0 ≤ b4 := Nat.le_trans (own_sz O3) (Nat.le_of_eq g4.symm)
  have sz_b4 : h0.size ≤ b4 := Nat.le_trans KC3.1 (Nat.le_of_eq g4.symm)
  have E5_a1 := E3_a1.ext E4
  have F5_edit_a1 := F3_edit_a1.ext E4
  have F5_root_a1 := F3_root_a1.ext E4
  have F5_draft_a1 := F3_draft_a1.ext E4
  have F5_size_a1 := F3_size_a1.ext E4
  have O5 := O3.ext E4
  have KC5 := KC3.ext E4
  have F4_edit_b4 : Fld Z h4 b4 cN "edit" "J" (.long (0 : Int64)) := D4 (Or.inr (own_w hw 20 rfl)) (ty := .long) (by decide)
  have F4_keys_b4 : Fld Z h4 b4 cN "keys" "[[B" .null := D4 (Or.inr (own_w hw 24 rfl)) (ty := (.array (.array .byte))) (by decide)
  have F4_children_b4 : Fld Z h4 b4 cN "children" dA .null := D4 (Or.inr (own_w hw 26 rfl)) (ty := (.array (.object cN))) (by decide)
  have F4_size_b4 : Fld Z h4 b4 cN "size" "I" (.int (0 : Int32)) := D4 (Or.inl (own_w hw 56 rfl)) (ty := .int) (by decide)
  refine own_dup X4 hx (hb hby d1_13) rfl ?_
  refine own_lconst X4 hx (v := (0 : Int64)) (hb hby d1_14) rfl ?_
  refine own_iconst X4 hx (v := (1 : Int32)) (hb hby d1_15) rfl ?_
  refine own_specialR X4 hx hZ hown (y := y3) rfl (own_w hw 15 rfl) (own_w hw 16 rfl) (own_w hw 14 rfl) (own_w hw 17 rfl) (a := b4) (by decide) (W := 2) (by decide) (by decide) N2 e4 (by rw [hml]; rfl) (argsL := [(.long (0 : Int64)), (.int (1 : Int32))]) (rest := [(.ref b4), (.ref a1)]) (lenOf pd_4 rfl) (Nat.le_of_eq rfl) (by decide) (by decide) (rm3 l Z a0 hw [] b4 (0 : Int64) h4 n0 O5 A4 F4_edit_b4 F4_keys_b4 F4_children_b4 F4_size_b4 ge_b4) rfl (hb hby d1_16) ?_
  intro v6 T6 lc6 X6 N6 hQ6
  obtain ⟨kr_6, kk_6, rfl, K6, r6_0, r6_1, r6_2, r6_3, r6_4, r6_5, r6_6, r6_7, r6_8⟩ := hQ6
  have E7_a1 := E5_a1.keep K6
  have F7_edit_a1 := F5_edit_a1.keep K6 (ninS ne_a1_b4 nin0)
  have F7_root_a1 := F5_root_a1.keep K6 (ninS ne_a1_b4 nin0)
  have F7_draft_a1 := F5_draft_a1.keep K6 (ninS ne_a1_b4 nin0)
  have F7_size_a1 := F5_size_a1.keep K6 (ninS ne_a1_b4 nin0)
  have O7 := O5.keep K6 (allS ge_b4 all0)
  have KC7 := KC5.trans K6 (allS (Or.inr sz_b4) all0)
  have ne_a1_kr_6 : a1 ≠ kr_6 := Nat.ne_of_lt (Nat.lt_of_lt_of_le E5_a1.lt r6_7)
  have ge_kr_6 : n0 ≤ kr_6 := Nat.le_trans (own_sz O5) r6_7
  have sz_kr_6 : h0.size ≤ kr_6 := Nat.le_trans KC5.1 r6_7
  refine own_putF X6 hx hZ hown N6 (host := "") (Or.inl (own_w hw 27 rfl)) Via.refl rfl F7_root_a1 E7_a1 (Or.inl (own_w hw 28 rfl)) (own_w hw 2 rfl) (ty := (.object cN)) (by decide) rfl rfl f5 (hb hby d1_19) (fun T8 h8 lc8 X8 e8 N8 W8 => ?_)
  have E9_a1 := E7_a1.wr W8
  have E9_b4 := r6_0.wr W8
  have E9_kr_6 := r6_5.wr W8
  have F9_edit_a1 := F7_edit_a1.other W8 (Or.inr (slot_ne (Or.inl (own_w hw 11 rfl)) (Or.inl (own_w hw 28 rfl)) (by decide) (t := .long) (t' := (.object cN)) (by decide) (by decide)))
  have F9_root_a1 := F7_root_a1.same W8
  have F9_draft_a1 := F7_draft_a1.other W8 (Or.inr (slot_ne (Or.inl (own_w hw 30 rfl)) (Or.inl (own_w hw 28 rfl)) (by decide) (t := (.object cN)) (t' := (.object cN)) (by decide) (by decide)))
  have F9_size_a1 := F7_size_a1.other W8 (Or.inr (slot_ne (Or.inl (own_w hw 37 rfl)) (Or.inl (own_w hw 28 rfl)) (by decide) (t := .int) (t' := (.object cN)) (by decide) (by decide)))
  have F9_edit_b4 := r6_1.other W8 (Or.inl (Ne.symm ne_a1_b4))
  have F9_keys_b4 := r6_2.other W8 (Or.inl (Ne.symm ne_a1_b4))
  have F9_children_b4 := r6_3.other W8 (Or.inl (Ne.symm ne_a1_b4))
  have F9_size_b4 := r6_4.other W8 (Or.inl (Ne.symm ne_a1_b4))
  have A9_kr_6 := r6_6.other W8 (Ne.symm ne_a1_kr_6)
  have O9 := O7.wr W8 f5
  have KC9 := KC7.wr W8 (Or.inl (List.mem_of_getElem? (i := 0) rfl))
  refine own_aloadN X8 hx (hb hby d1_22) rfl rfl ?_
  refine own_aloadN X8 hx (hb hby d1_23) rfl rfl ?_
  refine own_getF X8 hx hZ hown (host := "") (Or.inl (own_w hw 27 rfl)) Via.refl e8 F9_root_a1 (hb hby d1_24) (fun T10 X10 e10 => ?_)
  refine own_putF X10 hx hZ hown N8 (host := "") (Or.inl (own_w hw 29 rfl)) Via.refl e10 F9_draft_a1 E9_a1 (Or.inl (own_w hw 30 rfl)) (own_w hw 2 rfl) (ty := (.object cN)) (by decide) rfl rfl f5 (hb hby d1_27) (fun T11 h11 lc11 X11 e11 N11 W11 => ?_)
  have E12_a1 := E9_a1.wr W11
  have E12_b4 := E9_b4.wr W11
  have E12_kr_6 := E9_kr_6.wr W11
  have F12_edit_a1 := F9_edit_a1.other W11 (Or.inr (slot_ne (Or.inl (own_w hw 11 rfl)) (Or.inl (own_w hw 30 rfl)) (by decide) (t := .long) (t' := (.object cN)) (by decide) (by decide)))
  have F12_root_a1 := F9_root_a1.other W11 (Or.inr (slot_ne (Or.inl (own_w hw 28 rfl)) (Or.inl (own_w hw 30 rfl)) (by decide) (t := (.object cN)) (t' := (.object cN)) (by decide) (by decide)))
  have F12_draft_a1 := F9_draft_a1.same W11
  have F12_size_a1 := F9_size_a1.other W11 (Or.inr (slot_ne (Or.inl (own_w hw 37 rfl)) (Or.inl (own_w hw 30 rfl)) (by decide) (t := .int) (t' := (.object cN)) (by decide) (by decide)))
  have F12_edit_b4 := F9_edit_b4.other W11 (Or.inl (Ne.symm ne_a1_b4))
  have F12_keys_b4 := F9_keys_b4.other W11 (Or.inl (Ne.symm ne_a1_b4))
  have F12_children_b4 := F9_children_b4.other W11 (Or.inl (Ne.symm ne_a1_b4))
  have F12_size_b4 := F9_size_b4.other W11 (Or.inl (Ne.symm ne_a1_b4))
  have A12_kr_6 := A9_kr_6.other W11 (Ne.symm ne_a1_kr_6)
  have O12 := O9.wr W11 f5
  have KC12 := KC9.wr W11 (Or.inl (List.mem_of_getElem? (i := 0) rfl))
  show Goes _ _ _ _ _ _ (T11.setTop (mkF m 30 #[.val (.ref a1)] []))
  exact own_retV X11 hx N11 hlk (by decide) (by decide) hret (hb hby d1_30) (by rw [e11]; exact ⟨b4, kr_6, kk_6, rfl, KC12, E12_a1, F12_edit_a1, F12_root_a1, F12_draft_a1, F12_size_a1, E12_b4, F12_edit_b4, F12_keys_b4, F12_children_b4, F12_size_b4, E12_kr_6, A12_kr_6, sz_b4, sz_kr_6, r6_8⟩)
theorem d6_0 : decode prog_36_method_2_code 0 = .ok (.aload_n 0, 1) := by decide +kernel
theorem d6_1 : decode prog_36_method_2_code 1 = .ok (.invokespecial 3, 3) := by decide +kernel
theorem d6_4 : decode prog_36_method_2_code 4 = .ok (.aload_n 0, 1) := by decide +kernel
theorem d6_5 : decode prog_36_method_2_code 5 = .ok (.lload_n 1, 1) := by decide +kernel
theorem d6_6 : decode prog_36_method_2_code 6 = .ok (.putfield 9, 3) := by decide +kernel
theorem d6_9 : decode prog_36_method_2_code 9 = .ok (.aload_n 0, 1) := by decide +kernel
theorem d6_10 : decode prog_36_method_2_code 10 = .ok (.aload_n 3, 1) := by decide +kernel
theorem d6_11 : decode prog_36_method_2_code 11 = .ok (.getfield 17, 3) := by decide +kernel
theorem d6_14 : decode prog_36_method_2_code 14 = .ok (.invokevirtual 25, 3) := by decide +kernel
theorem d6_17 : decode prog_36_method_2_code 17 = .ok (.checkcast 26, 3) := by decide +kernel
theorem d6_20 : decode prog_36_method_2_code 20 = .ok (.putfield 17, 3) := by decide +kernel
theorem d6_23 : decode prog_36_method_2_code 23 = .ok (.aload_n 0, 1) := by decide +kernel
theorem d6_24 : decode prog_36_method_2_code 24 = .ok (.aload_n 3, 1) := by decide +kernel
theorem d6_25 : decode prog_36_method_2_code 25 = .ok (.getfield 21, 3) := by decide +kernel
theorem d6_28 : decode prog_36_method_2_code 28 = .ok (.ifnonnull 7, 3) := by decide +kernel
theorem d6_31 : decode prog_36_method_2_code 31 = .ok (.aconst_null, 1) := by decide +kernel
theorem d6_32 : decode prog_36_method_2_code 32 = .ok (.goto 13, 3) := by decide +kernel
theorem d6_45 : decode prog_36_method_2_code 45 = .ok (.putfield 21, 3) := by decide +kernel
theorem d6_48 : decode prog_36_method_2_code 48 = .ok (.aload_n 0, 1) := by decide +kernel
theorem d6_49 : decode prog_36_method_2_code 49 = .ok (.aload_n 3, 1) := by decide +kernel
theorem d6_50 : decode prog_36_method_2_code 50 = .ok (.getfield 32, 3) := by decide +kernel
theorem d6_53 : decode prog_36_method_2_code 53 = .ok (.putfield 32, 3) := by decide +kernel
theorem d6_56 : decode prog_36_method_2_code 56 = .ok (.return_, 1) := by decide +kernel
def Q6 (Z : State) (a1 : Addr) (q2 : Int64) (a3 : Addr) (en : Int64) (kr : Addr) (kk : ClassId) (v0 : Value) (v1 : Value) (v2 : Value) (ns : Int32) (h0 : Heap) (n0 : Nat) (v : Option Value) (h : Heap) : Prop :=
  (∃ (kr2 : Addr), v = none ∧ Keep h0 h [a1] ∧ Exa Z h a1 cN ∧ Fld Z h a1 cN "edit" "J" (.long q2) ∧ Fld Z h a1 cN "keys" "[[B" (.ref kr2) ∧ Fld Z h a1 cN "children" dA .null ∧ Fld Z h a1 cN "size" "I" (.int ns) ∧ Exa Z h kr2 "[[B" ∧ Arv Z h kr2 kk (.array .byte) (64 : Int32) [v0, v1, v2] .null ∧ h0.size ≤ kr2)
theorem ef_6 (m : MethodId) (a1 : Addr) (q2 : Int64) (a3 : Addr) : entryFrame m #[(.ref a1), (.long q2), (.ref a3)] 4 = mkF m 0 #[.val (.ref a1), .val (.long q2), .second, .val (.ref a3)] [] := by first | (simp [entryFrame, mkF, argsToLocals, Value.category]; done) | rfl
set_option maxRecDepth 65536 in
set_option maxHeartbeats 40000000 in
theorem rm6 (l : Launch) (Z : State) (a0 : Array Value) (hw : ∀ d ∈ tables_1, d.before a0 Z = true) (ws : List Jvm.Cond) (a1 : Addr) (q2 : Int64) (a3 : Addr) (en : Int64) (kr : Addr) (kk : ClassId) (v0 : Value) (v1 : Value) (v2 : Value) (ns : Int32) (h0 : Heap) (n0 : Nat) (O0 : Old Z n0 h0) (f0 : Exa Z h0 a1 cN) (f1 : Fld Z h0 a1 cN "edit" "J" (.long (0 : Int64))) (f2 : Fld Z h0 a1 cN "keys" "[[B" .null) (f3 : Fld Z h0 a1 cN "children" dA .null) (f4 : Fld Z h0 a1 cN "size" "I" (.int (0 : Int32))) (f5 : n0 ≤ a1) (f6 : Exa Z h0 a3 cN) (f7 : Fld Z h0 a3 cN "edit" "J" (.long en)) (f8 : Fld Z h0 a3 cN "keys" "[[B" (.ref kr)) (f9 : Fld Z h0 a3 cN "children" dA .null) (f10 : Fld Z h0 a3 cN "size" "I" (.int ns)) (f11 : Exa Z h0 kr "[[B") (f12 : Arv Z h0 kr kk (.array .byte) (64 : Int32) [v0, v1, v2] .null) (f13 : a3 ≠ a1) :
    Meets l y6 prog_36_method_2_code 4 none ws ({ frames := 1, cells := 1, slots := 64, locals := 15 } : Room) ({ frames := 1, cells := 1, slots := 64, locals := 15 } : Room).cells ({ frames := 1, cells := 1, slots := 64, locals := 15 } : Room).slots Z #[(.ref a1), (.long q2), (.ref a3)] h0 n0 (Q6 Z a1 q2 a3 en kr kk v0 v1 v2 ns h0 n0) := by
  refine Meets.of (F := fun m => mkF m 0 #[.val (.ref a1), .val (.long q2), .second, .val (.ref a3)] []) (plainFor_of_name pn_4) (fun m => ef_6 m a1 q2 a3) ?_
  intro p e s m below meth c T0 hx hby hml hown0 hnm hret hlk hZ X0 e0
  have hown : s.vm.findClass cN = some m.cls := hown0
  have N0 := Fr.nil n0
  have KC0 := Keep.refl h0 [a1]
  show Goes _ _ _ _ _ _ (T0.setTop (mkF m 0 #[.val (.ref a1), .val (.long q2), .second, .val (.ref a3)] []))
  refine own_aloadN X0 hx (hb hby d6_0) rfl rfl ?_
  refine own_initO X0 hx hZ hown (own_w hw 18 rfl) (own_w hw 8 rfl) (own_w hw 9 rfl) e0 (by rw [hml]; rfl) (hb hby d6_1) (by decide) (W := 0) (Nat.le_of_eq rfl) (by decide) (fun T1 X1 e1 => ?_)
  refine own_aloadN X1 hx (hb hby d6_4) rfl rfl ?_
  refine own_lloadN X1 hx (hb hby d6_5) rfl ?_
  refine own_putF X1 hx hZ hown N0 (host := "") (Or.inl (own_w hw 19 rfl)) Via.refl e1 f1 f0 (Or.inr ⟨(own_w hw 20 rfl), rfl, hnm⟩) (own_w hw 13 rfl) (ty := .long) (by decide) rfl rfl f5 (hb hby d6_6) (fun T2 h2 lc2 X2 e2 N2 W2 => ?_)
  have E3_a1 := f0.wr W2
  have E3_kr := f11.wr W2
  have F3_edit_a1 := f1.same W2
  have F3_keys_a1 := f2.other W2 (Or.inr (slot_ne (Or.inr (own_w hw 24 rfl)) (Or.inr (own_w hw 20 rfl)) (by decide) (t := (.array (.array .byte))) (t' := .long) (by decide) (by decide)))
  have F3_children_a1 := f3.other W2 (Or.inr (slot_ne (Or.inr (own_w hw 26 rfl)) (Or.inr (own_w hw 20 rfl)) (by decide) (t := (.array (.object cN))) (t' := .long) (by decide) (by decide)))
  have F3_size_a1 := f4.other W2 (Or.inr (slot_ne (Or.inl (own_w hw 56 rfl)) (Or.inr (own_w hw 20 rfl)) (by decide) (t := .int) (t' := .long) (by decide) (by decide)))
  have F3_keys_a3 := f8.other W2 (Or.inl f13)
  have F3_children_a3 := f9.other W2 (Or.inl f13)
  have F3_size_a3 := f10.other W2 (Or.inl f13)
  have A3_kr := f12.other W2 (ne_exa f11 f0 (by decide))
  have O3 := O0.wr W2 f5
  have KC3 := KC0.wr W2 (Or.inl (List.mem_of_getElem? (i := 0) rfl))
  refine own_aloadN X2 hx (hb hby d6_9) rfl rfl ?_
  refine own_aloadN X2 hx (hb hby d6_10) rfl rfl ?_
  refine own_getF X2 hx hZ hown (host := "") (Or.inl (own_w hw 23 rfl)) Via.refl e2 F3_keys_a3 (hb hby d6_11) (fun T4 X4 e4 => ?_)
  refine own_clone X4 hx hZ hown (own_w hw 46 rfl) (own_w hw 47 rfl) (own_w hw 51 rfl) (own_w hw 49 rfl) (own_w hw 50 rfl) (own_w hw 52 rfl) e4 A3_kr E3_kr (by rw [hml]; rfl) (hb hby d6_14) (by decide) (W := 1) (cap := 64) (Nat.le_of_eq rfl) (by decide) (by decide) (by decide) (by decide) (fun T5 h5 b5 g5 X5 e5 E5 V5 A5 => ?_)
  have ne_a1_b5 : a1 ≠ b5 := Nat.ne_of_lt (Nat.lt_of_lt_of_le E3_a1.lt (Nat.le_of_eq g5.symm))
  have ge_b5 : n0 ≤ b5 := Nat.le_trans (own_sz O3) (Nat.le_of_eq g5.symm)
  have sz_b5 : h0.size ≤ b5 := Nat.le_trans KC3.1 (Nat.le_of_eq g5.symm)
  have E6_a1 := E3_a1.ext E5
  have F6_edit_a1 := F3_edit_a1.ext E5
  have F6_keys_a1 := F3_keys_a1.ext E5
  have F6_children_a1 := F3_children_a1.ext E5
  have F6_size_a1 := F3_size_a1.ext E5
  have F6_children_a3 := F3_children_a3.ext E5
  have F6_size_a3 := F3_size_a3.ext E5
  have O6 := O3.ext E5
  have KC6 := KC3.ext E5
  refine own_castY X5 hx hZ hown (own_w hw 53 rfl) e5 (Ins.self A5) (hb hby d6_17) (fun T7 X7 e7 => ?_)
  refine own_putF X7 hx hZ hown N2 (host := "") (Or.inl (own_w hw 23 rfl)) Via.refl e7 F6_keys_a1 E6_a1 (Or.inr ⟨(own_w hw 24 rfl), rfl, hnm⟩) (own_w hw 13 rfl) (ty := (.array (.array .byte))) (by decide) rfl rfl f5 (hb hby d6_20) (fun T8 h8 lc8 X8 e8 N8 W8 => ?_)
  have E9_a1 := E6_a1.wr W8
  have E9_b5 := A5.wr W8
  have F9_edit_a1 := F6_edit_a1.other W8 (Or.inr (slot_ne (Or.inr (own_w hw 20 rfl)) (Or.inr (own_w hw 24 rfl)) (by decide) (t := .long) (t' := (.array (.array .byte))) (by decide) (by decide)))
  have F9_keys_a1 := F6_keys_a1.same W8
  have F9_children_a1 := F6_children_a1.other W8 (Or.inr (slot_ne (Or.inr (own_w hw 26 rfl)) (Or.inr (own_w hw 24 rfl)) (by decide) (t := (.array (.object cN))) (t' := (.array (.array .byte))) (by decide) (by decide)))
  have F9_size_a1 := F6_size_a1.other W8 (Or.inr (slot_ne (Or.inl (own_w hw 56 rfl)) (Or.inr (own_w hw 24 rfl)) (by decide) (t := .int) (t' := (.array (.array .byte))) (by decide) (by decide)))
  have F9_children_a3 := F6_children_a3.other W8 (Or.inl f13)
  have F9_size_a3 := F6_size_a3.other W8 (Or.inl f13)
  have A9_b5 := V5.other W8 (Ne.symm ne_a1_b5)
  have O9 := O6.wr W8 f5
  have KC9 := KC6.wr W8 (Or.inl (List.mem_of_getElem? (i := 0) rfl))
  refine own_aloadN X8 hx (hb hby d6_23) rfl rfl ?_
  refine own_aloadN X8 hx (hb hby d6_24) rfl rfl ?_
  refine own_getF X8 hx hZ hown (host := "") (Or.inl (own_w hw 25 rfl)) Via.refl e8 F9_children_a3 (hb hby d6_25) (fun T10 X10 e10 => ?_)
  refine own_ifnonnullNo X10 hx (hb hby d6_28) ?_
  refine own_aconst_null X10 hx (hb hby d6_31) ?_
  refine own_goto X10 hx (pc' := 45) (hb hby d6_32) (by decide) (by decide) ?_
  refine own_putF X10 hx hZ hown N8 (host := "") (Or.inl (own_w hw 25 rfl)) Via.refl e10 F9_children_a1 E9_a1 (Or.inr ⟨(own_w hw 26 rfl), rfl, hnm⟩) (own_w hw 13 rfl) (ty := (.array (.object cN))) (by decide) rfl rfl f5 (hb hby d6_45) (fun T11 h11 lc11 X11 e11 N11 W11 => ?_)
  have E12_a1 := E9_a1.wr W11
  have E12_b5 := E9_b5.wr W11
  have F12_edit_a1 := F9_edit_a1.other W11 (Or.inr (slot_ne (Or.inr (own_w hw 20 rfl)) (Or.inr (own_w hw 26 rfl)) (by decide) (t := .long) (t' := (.array (.object cN))) (by decide) (by decide)))
  have F12_keys_a1 := F9_keys_a1.other W11 (Or.inr (slot_ne (Or.inr (own_w hw 24 rfl)) (Or.inr (own_w hw 26 rfl)) (by decide) (t := (.array (.array .byte))) (t' := (.array (.object cN))) (by decide) (by decide)))
  have F12_children_a1 := F9_children_a1.same W11
  have F12_size_a1 := F9_size_a1.other W11 (Or.inr (slot_ne (Or.inl (own_w hw 56 rfl)) (Or.inr (own_w hw 26 rfl)) (by decide) (t := .int) (t' := (.array (.object cN))) (by decide) (by decide)))
  have F12_size_a3 := F9_size_a3.other W11 (Or.inl f13)
  have A12_b5 := A9_b5.other W11 (Ne.symm ne_a1_b5)
  have O12 := O9.wr W11 f5
  have KC12 := KC9.wr W11 (Or.inl (List.mem_of_getElem? (i := 0) rfl))
  refine own_aloadN X11 hx (hb hby d6_48) rfl rfl ?_
  refine own_aloadN X11 hx (hb hby d6_49) rfl rfl ?_
  refine own_getF X11 hx hZ hown (host := "") (Or.inl (own_w hw 55 rfl)) Via.refl e11 F12_size_a3 (hb hby d6_50) (fun T13 X13 e13 => ?_)
  refine own_putF X13 hx hZ hown N11 (host := "") (Or.inl (own_w hw 55 rfl)) Via.refl e13 F12_size_a1 E12_a1 (Or.inl (own_w hw 56 rfl)) (own_w hw 13 rfl) (ty := .int) (by decide) rfl rfl f5 (hb hby d6_53) (fun T14 h14 lc14 X14 e14 N14 W14 => ?_)
  have E15_a1 := E12_a1.wr W14
  have E15_b5 := E12_b5.wr W14
  have F15_edit_a1 := F12_edit_a1.other W14 (Or.inr (slot_ne (Or.inr (own_w hw 20 rfl)) (Or.inl (own_w hw 56 rfl)) (by decide) (t := .long) (t' := .int) (by decide) (by decide)))
  have F15_keys_a1 := F12_keys_a1.other W14 (Or.inr (slot_ne (Or.inr (own_w hw 24 rfl)) (Or.inl (own_w hw 56 rfl)) (by decide) (t := (.array (.array .byte))) (t' := .int) (by decide) (by decide)))
  have F15_children_a1 := F12_children_a1.other W14 (Or.inr (slot_ne (Or.inr (own_w hw 26 rfl)) (Or.inl (own_w hw 56 rfl)) (by decide) (t := (.array (.object cN))) (t' := .int) (by decide) (by decide)))
  have F15_size_a1 := F12_size_a1.same W14
  have A15_b5 := A12_b5.other W14 (Ne.symm ne_a1_b5)
  have O15 := O12.wr W14 f5
  have KC15 := KC12.wr W14 (Or.inl (List.mem_of_getElem? (i := 0) rfl))
  show Goes _ _ _ _ _ _ (T14.setTop (mkF m 56 #[.val (.ref a1), .val (.long q2), .second, .val (.ref a3)] []))
  exact own_retV X14 hx N14 hlk (by decide) (by decide) hret (hb hby d6_56) (by rw [e14]; exact ⟨b5, rfl, KC15, E15_a1, F15_edit_a1, F15_keys_a1, F15_children_a1, F15_size_a1, E15_b5, A15_b5, sz_b5⟩)
theorem d5_0 : decode prog_35_method_10_code 0 = .ok (.aload_n 1, 1) := by decide +kernel
theorem d5_1 : decode prog_35_method_10_code 1 = .ok (.getfield 68, 3) := by decide +kernel
theorem d5_4 : decode prog_35_method_10_code 4 = .ok (.aload_n 0, 1) := by decide +kernel
theorem d5_5 : decode prog_35_method_10_code 5 = .ok (.getfield 9, 3) := by decide +kernel
theorem d5_8 : decode prog_35_method_10_code 8 = .ok (.lcmp, 1) := by decide +kernel
theorem d5_9 : decode prog_35_method_10_code 9 = .ok (.ifCond .ne 7, 3) := by decide +kernel
theorem d5_12 : decode prog_35_method_10_code 12 = .ok (.aload_n 1, 1) := by decide +kernel
theorem d5_13 : decode prog_35_method_10_code 13 = .ok (.goto 15, 3) := by decide +kernel
theorem d5_28 : decode prog_35_method_10_code 28 = .ok (.areturn, 1) := by decide +kernel
def Q5s (Z : State) (a1 : Addr) (a2 : Addr) (ed : Int64) (h0 : Heap) (n0 : Nat) (v : Option Value) (h : Heap) : Prop :=
  (v = some (.ref a2) ∧ h = h0)
theorem ef_5s (m : MethodId) (a1 : Addr) (a2 : Addr) : entryFrame m #[(.ref a1), (.ref a2)] 2 = mkF m 0 #[.val (.ref a1), .val (.ref a2)] [] := by first | (simp [entryFrame, mkF, argsToLocals, Value.category]; done) | rfl
set_option maxRecDepth 65536 in
set_option maxHeartbeats 40000000 in
theorem rm5s (l : Launch) (Z : State) (a0 : Array Value) (hw : ∀ d ∈ tables_1, d.before a0 Z = true) (ws : List Jvm.Cond) (a1 : Addr) (a2 : Addr) (ed : Int64) (h0 : Heap) (n0 : Nat) (O0 : Old Z n0 h0) (f0 : Fld Z h0 a1 cT "edit" "J" (.long ed)) (f1 : Fld Z h0 a2 cN "edit" "J" (.long ed)) :
    Meets l y5 prog_35_method_10_code 2 (some (.object cN)) ws ({ frames := 0, cells := 0, slots := 0, locals := 0 } : Room) ({ frames := 0, cells := 0, slots := 0, locals := 0 } : Room).cells ({ frames := 0, cells := 0, slots := 0, locals := 0 } : Room).slots Z #[(.ref a1), (.ref a2)] h0 n0 (Q5s Z a1 a2 ed h0 n0) := by
  refine Meets.of (F := fun m => mkF m 0 #[.val (.ref a1), .val (.ref a2)] []) (plainFor_of_name pn_5) (fun m => ef_5s m a1 a2) ?_
  intro p e s m below meth c T0 hx hby hml hown0 hnm hret hlk hZ X0 e0
  have hown : s.vm.findClass cT = some m.cls := hown0
  have N0 := Fr.nil n0
  show Goes _ _ _ _ _ _ (T0.setTop (mkF m 0 #[.val (.ref a1), .val (.ref a2)] []))
  refine own_aloadN X0 hx (hb hby d5_0) rfl rfl ?_
  refine own_getFR X0 hx hZ hown (own_w hw 42 rfl) e0 f1 (hb hby d5_1) ?_
  refine own_aloadN X0 hx (hb hby d5_4) rfl rfl ?_
  refine own_getF X0 hx hZ hown (host := "") (Or.inl (own_w hw 10 rfl)) Via.refl e0 f0 (hb hby d5_5) (fun T1 X1 e1 => ?_)
  refine own_lcmp X1 hx (hb hby d5_8) ?_
  refine own_ifNo X1 hx (hb hby d5_9) ((if0 _ _).trans (teq (((lw_eq _ _).mpr rfl) : (lcmpW ed ed) = (0 : Int32))).2) ?_
  refine own_aloadN X1 hx (hb hby d5_12) rfl rfl ?_
  refine own_goto X1 hx (pc' := 28) (hb hby d5_13) (by decide) (by decide) ?_
  show Goes _ _ _ _ _ _ (T1.setTop (mkF m 28 #[.val (.ref a1), .val (.ref a2)] [(.ref a2)]))
  exact own_retR X1 hx N0 hlk (by decide) (by decide) hret rfl rfl rfl (hb hby d5_28) (by rw [e1]; exact ⟨rfl, rfl⟩)
theorem d5_16 : decode prog_35_method_10_code 16 = .ok (.new 13, 3) := by decide +kernel
theorem d5_19 : decode prog_35_method_10_code 19 = .ok (.dup, 1) := by decide +kernel
theorem d5_20 : decode prog_35_method_10_code 20 = .ok (.aload_n 0, 1) := by decide +kernel
theorem d5_21 : decode prog_35_method_10_code 21 = .ok (.getfield 9, 3) := by decide +kernel
theorem d5_24 : decode prog_35_method_10_code 24 = .ok (.aload_n 1, 1) := by decide +kernel
theorem d5_25 : decode prog_35_method_10_code 25 = .ok (.invokespecial 69, 3) := by decide +kernel
theorem pd_5 : parseMethodDescriptor "(JLcom/example/contention/contention/KeyTree$Node;)V" = some ⟨[.long, (.object cN)], none⟩ := by decide +kernel
def Q5c (Z : State) (a1 : Addr) (a2 : Addr) (ed : Int64) (en : Int64) (kr : Addr) (kk : ClassId) (v0 : Value) (v1 : Value) (v2 : Value) (ns : Int32) (h0 : Heap) (n0 : Nat) (v : Option Value) (h : Heap) : Prop :=
  (∃ (b : Addr) (kr2 : Addr), v = some (.ref b) ∧ Keep h0 h [] ∧ Exa Z h b cN ∧ Fld Z h b cN "edit" "J" (.long ed) ∧ Fld Z h b cN "keys" "[[B" (.ref kr2) ∧ Fld Z h b cN "children" dA .null ∧ Fld Z h b cN "size" "I" (.int ns) ∧ Exa Z h kr2 "[[B" ∧ Arv Z h kr2 kk (.array .byte) (64 : Int32) [v0, v1, v2] .null ∧ h0.size ≤ b ∧ h0.size ≤ kr2)
theorem ef_5c (m : MethodId) (a1 : Addr) (a2 : Addr) : entryFrame m #[(.ref a1), (.ref a2)] 2 = mkF m 0 #[.val (.ref a1), .val (.ref a2)] [] := by first | (simp [entryFrame, mkF, argsToLocals, Value.category]; done) | rfl
set_option maxRecDepth 65536 in
set_option maxHeartbeats 40000000 in
theorem rm5c (l : Launch) (Z : State) (a0 : Array Value) (hw : ∀ d ∈ tables_1, d.before a0 Z = true) (ws : List Jvm.Cond) (a1 : Addr) (a2 : Addr) (ed : Int64) (en : Int64) (kr : Addr) (kk : ClassId) (v0 : Value) (v1 : Value) (v2 : Value) (ns : Int32) (h0 : Heap) (n0 : Nat) (O0 : Old Z n0 h0) (f0 : Fld Z h0 a1 cT "edit" "J" (.long ed)) (f1 : Exa Z h0 a2 cN) (f2 : Fld Z h0 a2 cN "edit" "J" (.long en)) (f3 : Fld Z h0 a2 cN "keys" "[[B" (.ref kr)) (f4 : Fld Z h0 a2 cN "children" dA .null) (f5 : Fld Z h0 a2 cN "size" "I" (.int ns)) (f6 : Exa Z h0 kr "[[B") (f7 : Arv Z h0 kr kk (.array .byte) (64 : Int32) [v0, v1, v2] .null) (hne : ¬ (en = ed)) :
    Meets l y5 prog_35_method_10_code 2 (some (.object cN)) ws ({ frames := 2, cells := 2, slots := 68, locals := 31 } : Room) ({ frames := 2, cells := 2, slots := 68, locals := 31 } : Room).cells ({ frames := 2, cells := 2, slots := 68, locals := 31 } : Room).slots Z #[(.ref a1), (.ref a2)] h0 n0 (Q5c Z a1 a2 ed en kr kk v0 v1 v2 ns h0 n0) := by
  refine Meets.of (F := fun m => mkF m 0 #[.val (.ref a1), .val (.ref a2)] []) (plainFor_of_name pn_5) (fun m => ef_5c m a1 a2) ?_
  intro p e s m below meth c T0 hx hby hml hown0 hnm hret hlk hZ X0 e0
  have hown : s.vm.findClass cT = some m.cls := hown0
  have N0 := Fr.nil n0
  have KC0 := Keep.refl h0 []
  show Goes _ _ _ _ _ _ (T0.setTop (mkF m 0 #[.val (.ref a1), .val (.ref a2)] []))
  refine own_aloadN X0 hx (hb hby d5_0) rfl rfl ?_
  refine own_getFR X0 hx hZ hown (own_w hw 42 rfl) e0 f2 (hb hby d5_1) ?_
  refine own_aloadN X0 hx (hb hby d5_4) rfl rfl ?_
  refine own_getF X0 hx hZ hown (host := "") (Or.inl (own_w hw 10 rfl)) Via.refl e0 f0 (hb hby d5_5) (fun T1 X1 e1 => ?_)
  refine own_lcmp X1 hx (hb hby d5_8) ?_
  refine own_ifYes X1 hx (pc' := 16) (hb hby d5_9) ((if0 _ _).trans (feq ((fun q => hne ((lw_eq _ _).mp q)) : ¬ ((lcmpW en ed) = (0 : Int32)))).2) (by decide) (by decide) ?_
  refine own_new X1 hx hZ hown (own_w hw 12 rfl) (own_w hw 13 rfl) (own_w hw 14 rfl) e1 (hb hby d5_16) (by decide) (by decide) (fun T2 h2 b2 g2 X2 e2 E2 A2 D2 => ?_)
  have ne_a2_b2 : a2 ≠ b2 := Nat.ne_of_lt (Nat.lt_of_lt_of_le f1.lt (Nat.le_of_eq g2.symm))
  have ge_b2 : n0 ≤ b2 := Nat.le_trans (own_sz O0) (Nat.le_of_eq g2.symm)
  have sz_b2 : h0.size ≤ b2 := Nat.le_trans KC0.1 (Nat.le_of_eq g2.symm)
  have E3_a2 := f1.ext E2
  have E3_kr := f6.ext E2
  have F3_edit_a1 := f0.ext E2
  have F3_edit_a2 := f2.ext E2
  have F3_keys_a2 := f3.ext E2
  have F3_children_a2 := f4.ext E2
  have F3_size_a2 := f5.ext E2
  have A3_kr := f7.ext E2
  have O3 := O0.ext E2
  have KC3 := KC0.ext E2
  have F2_edit_b2 : Fld Z h2 b2 cN "edit" "J" (.long (0 : Int64)) := D2 (Or.inr (own_w hw 20 rfl)) (ty := .long) (by decide)
  have F2_keys_b2 : Fld Z h2 b2 cN "keys" "[[B" .null := D2 (Or.inr (own_w hw 24 rfl)) (ty := (.array (.array .byte))) (by decide)
  have F2_children_b2 : Fld Z h2 b2 cN "children" dA .null := D2 (Or.inr (own_w hw 26 rfl)) (ty := (.array (.object cN))) (by decide)
  have F2_size_b2 : Fld Z h2 b2 cN "size" "I" (.int (0 : Int32)) := D2 (Or.inl (own_w hw 56 rfl)) (ty := .int) (by decide)
  refine own_dup X2 hx (hb hby d5_19) rfl ?_
  refine own_aloadN X2 hx (hb hby d5_20) rfl rfl ?_
  refine own_getF X2 hx hZ hown (host := "") (Or.inl (own_w hw 10 rfl)) Via.refl e2 F3_edit_a1 (hb hby d5_21) (fun T4 X4 e4 => ?_)
  refine own_aloadN X4 hx (hb hby d5_24) rfl rfl ?_
  refine own_specialR X4 hx hZ hown (y := y6) rfl (own_w hw 43 rfl) (own_w hw 44 rfl) (own_w hw 14 rfl) (own_w hw 45 rfl) (a := b2) (by decide) (W := 1) (by decide) (by decide) N0 e4 (by rw [hml]; rfl) (argsL := [(.long ed), (.ref a2)]) (rest := [(.ref b2)]) (lenOf pd_5 rfl) (Nat.le_of_eq rfl) (by decide) (by decide) (rm6 l Z a0 hw [] b2 ed a2 en kr kk (v0) (v1) (v2) ns h2 n0 O3 A2 F2_edit_b2 F2_keys_b2 F2_children_b2 F2_size_b2 ge_b2 E3_a2 F3_edit_a2 F3_keys_a2 F3_children_a2 F3_size_a2 E3_kr A3_kr ne_a2_b2) rfl (hb hby d5_25) ?_
  intro v5 T5 lc5 X5 N5 hQ5
  obtain ⟨kr2_5, rfl, K5, r5_0, r5_1, r5_2, r5_3, r5_4, r5_5, r5_6, r5_7⟩ := hQ5
  have O6 := O3.keep K5 (allS ge_b2 all0)
  have KC6 := KC3.trans K5 (allS (Or.inr sz_b2) all0)
  have ge_kr2_5 : n0 ≤ kr2_5 := Nat.le_trans (own_sz O3) r5_7
  have sz_kr2_5 : h0.size ≤ kr2_5 := Nat.le_trans KC3.1 r5_7
  show Goes _ _ _ _ _ _ (T5.setTop (mkF m 28 #[.val (.ref a1), .val (.ref a2)] [(.ref b2)]))
  exact own_retR X5 hx N5 hlk (by decide) (by decide) hret rfl rfl rfl (hb hby d5_28) (⟨b2, kr2_5, rfl, KC6, r5_0, r5_1, r5_2, r5_3, r5_4, r5_5, r5_6, sz_b2, sz_kr2_5⟩)
theorem d8_0 : decode prog_36_method_3_code 0 = .ok (.aload_n 0, 1) := by decide +kernel
theorem d8_1 : decode prog_36_method_3_code 1 = .ok (.getfield 21, 3) := by decide +kernel
theorem d8_4 : decode prog_36_method_3_code 4 = .ok (.ifnonnull 7, 3) := by decide +kernel
theorem d8_7 : decode prog_36_method_3_code 7 = .ok (.iconst 1, 1) := by decide +kernel
theorem d8_8 : decode prog_36_method_3_code 8 = .ok (.goto 4, 3) := by decide +kernel
theorem d8_12 : decode prog_36_method_3_code 12 = .ok (.ireturn, 1) := by decide +kernel
def Q8 (Z : State) (a1 : Addr) (h0 : Heap) (n0 : Nat) (v : Option Value) (h : Heap) : Prop :=
  (v = some (.int (1 : Int32)) ∧ h = h0)
theorem ef_8 (m : MethodId) (a1 : Addr) : entryFrame m #[(.ref a1)] 1 = mkF m 0 #[.val (.ref a1)] [] := by first | (simp [entryFrame, mkF, argsToLocals, Value.category]; done) | rfl
set_option maxRecDepth 65536 in
set_option maxHeartbeats 40000000 in
theorem rm8 (l : Launch) (Z : State) (a0 : Array Value) (hw : ∀ d ∈ tables_1, d.before a0 Z = true) (ws : List Jvm.Cond) (a1 : Addr) (h0 : Heap) (n0 : Nat) (O0 : Old Z n0 h0) (f0 : Fld Z h0 a1 cN "children" dA .null) :
    Meets l y8 prog_36_method_3_code 1 (some .boolean) ws ({ frames := 0, cells := 0, slots := 0, locals := 0 } : Room) ({ frames := 0, cells := 0, slots := 0, locals := 0 } : Room).cells ({ frames := 0, cells := 0, slots := 0, locals := 0 } : Room).slots Z #[(.ref a1)] h0 n0 (Q8 Z a1 h0 n0) := by
  refine Meets.of (F := fun m => mkF m 0 #[.val (.ref a1)] []) (plainFor_of_name pn_4) (fun m => ef_8 m a1) ?_
  intro p e s m below meth c T0 hx hby hml hown0 hnm hret hlk hZ X0 e0
  have hown : s.vm.findClass cN = some m.cls := hown0
  have N0 := Fr.nil n0
  show Goes _ _ _ _ _ _ (T0.setTop (mkF m 0 #[.val (.ref a1)] []))
  refine own_aloadN X0 hx (hb hby d8_0) rfl rfl ?_
  refine own_getF X0 hx hZ hown (host := "") (Or.inl (own_w hw 25 rfl)) Via.refl e0 f0 (hb hby d8_1) (fun T1 X1 e1 => ?_)
  refine own_ifnonnullNo X1 hx (hb hby d8_4) ?_
  refine own_iconst X1 hx (v := (1 : Int32)) (hb hby d8_7) rfl ?_
  refine own_goto X1 hx (pc' := 12) (hb hby d8_8) (by decide) (by decide) ?_
  show Goes _ _ _ _ _ _ (T1.setTop (mkF m 12 #[.val (.ref a1)] [(.int (1 : Int32))]))
  exact own_retN X1 hx (t := .boolean) N0 hlk (by decide) (by decide) hret (by simp) (hb hby d8_12) (by rw [e1]; exact ⟨rfl, rfl⟩)
theorem d9_0 : decode prog_35_method_8_code 0 = .ok (.iconst 0, 1) := by decide +kernel
theorem d9_1 : decode prog_35_method_8_code 1 = .ok (.istore_n 2, 1) := by decide +kernel
theorem d9_2 : decode prog_35_method_8_code 2 = .ok (.aload_n 0, 1) := by decide +kernel
theorem d9_3 : decode prog_35_method_8_code 3 = .ok (.getfield 53, 3) := by decide +kernel
theorem d9_6 : decode prog_35_method_8_code 6 = .ok (.istore_n 3, 1) := by decide +kernel
theorem d9_7 : decode prog_35_method_8_code 7 = .ok (.iload_n 2, 1) := by decide +kernel
theorem d9_8 : decode prog_35_method_8_code 8 = .ok (.iload_n 3, 1) := by decide +kernel
theorem d9_9 : decode prog_35_method_8_code 9 = .ok (.if_icmp .ge 38, 3) := by decide +kernel
theorem d9_47 : decode prog_35_method_8_code 47 = .ok (.iload_n 2, 1) := by decide +kernel
theorem d9_48 : decode prog_35_method_8_code 48 = .ok (.ireturn, 1) := by decide +kernel
def Q90 (Z : State) (a1 : Addr) (a2 : Addr) (kr : Addr) (kk : ClassId) (h0 : Heap) (n0 : Nat) (v : Option Value) (h : Heap) : Prop :=
  (v = some (.int (0 : Int32)) ∧ h = h0)
theorem ef_90 (m : MethodId) (a1 : Addr) (a2 : Addr) : entryFrame m #[(.ref a1), (.ref a2)] 5 = mkF m 0 #[.val (.ref a1), .val (.ref a2), .unset, .unset, .unset] [] := by first | (simp [entryFrame, mkF, argsToLocals, Value.category]; done) | rfl
set_option maxRecDepth 65536 in
set_option maxHeartbeats 40000000 in
theorem rm90 (l : Launch) (Z : State) (a0 : Array Value) (hw : ∀ d ∈ tables_1, d.before a0 Z = true) (ws : List Jvm.Cond) (a1 : Addr) (a2 : Addr) (kr : Addr) (kk : ClassId) (h0 : Heap) (n0 : Nat) (O0 : Old Z n0 h0) (f0 : Fld Z h0 a1 cN "keys" "[[B" (.ref kr)) (f1 : Fld Z h0 a1 cN "size" "I" (.int (0 : Int32))) (f2 : Arv Z h0 kr kk (.array .byte) (64 : Int32) [.null, .null, .null] .null) :
    Meets l y9 prog_35_method_8_code 5 (some .int) ws ({ frames := 0, cells := 0, slots := 0, locals := 0 } : Room) ({ frames := 0, cells := 0, slots := 0, locals := 0 } : Room).cells ({ frames := 0, cells := 0, slots := 0, locals := 0 } : Room).slots Z #[(.ref a1), (.ref a2)] h0 n0 (Q90 Z a1 a2 kr kk h0 n0) := by
  refine Meets.of (F := fun m => mkF m 0 #[.val (.ref a1), .val (.ref a2), .unset, .unset, .unset] []) (plainFor_of_name pn_5) (fun m => ef_90 m a1 a2) ?_
  intro p e s m below meth c T0 hx hby hml hown0 hnm hret hlk hZ X0 e0
  have hown : s.vm.findClass cT = some m.cls := hown0
  have N0 := Fr.nil n0
  show Goes _ _ _ _ _ _ (T0.setTop (mkF m 0 #[.val (.ref a1), .val (.ref a2), .unset, .unset, .unset] []))
  refine own_iconst X0 hx (v := (0 : Int32)) (hb hby d9_0) rfl ?_
  refine own_istoreN X0 hx (Ls' := #[.val (.ref a1), .val (.ref a2), .val (.int (0 : Int32)), .unset, .unset]) (hb hby d9_1) rfl ?_
  refine own_aloadN X0 hx (hb hby d9_2) rfl rfl ?_
  refine own_getFR X0 hx hZ hown (own_w hw 68 rfl) e0 f1 (hb hby d9_3) ?_
  refine own_istoreN X0 hx (Ls' := #[.val (.ref a1), .val (.ref a2), .val (.int (0 : Int32)), .val (.int (0 : Int32)), .unset]) (hb hby d9_6) rfl ?_
  refine own_iloadN X0 hx (hb hby d9_7) rfl ?_
  refine own_iloadN X0 hx (hb hby d9_8) rfl ?_
  refine own_icmpYes X0 hx (pc' := 47) (hb hby d9_9) (flt (by decide : ¬ ((0 : Int32) < (0 : Int32)))).2.1 (by decide) (by decide) ?_
  refine own_iloadN X0 hx (hb hby d9_47) rfl ?_
  show Goes _ _ _ _ _ _ (T0.setTop (mkF m 48 #[.val (.ref a1), .val (.ref a2), .val (.int (0 : Int32)), .val (.int (0 : Int32)), .unset] [(.int (0 : Int32))]))
  exact own_retI X0 hx N0 hlk (by decide) (by decide) hret (hb hby d9_48) (by rw [e0]; exact ⟨(congrArg (fun z => some (Value.int z)) (by decide)), rfl⟩)
theorem d9_12 : decode prog_35_method_8_code 12 = .ok (.iload_n 2, 1) := by decide +kernel
theorem d9_13 : decode prog_35_method_8_code 13 = .ok (.iload_n 3, 1) := by decide +kernel
theorem d9_14 : decode prog_35_method_8_code 14 = .ok (.iadd, 1) := by decide +kernel
theorem d9_15 : decode prog_35_method_8_code 15 = .ok (.iconst 1, 1) := by decide +kernel
theorem d9_16 : decode prog_35_method_8_code 16 = .ok (.iushr, 1) := by decide +kernel
theorem d9_17 : decode prog_35_method_8_code 17 = .ok (.istore 4, 2) := by decide +kernel
theorem d9_19 : decode prog_35_method_8_code 19 = .ok (.aload_n 0, 1) := by decide +kernel
theorem d9_20 : decode prog_35_method_8_code 20 = .ok (.getfield 41, 3) := by decide +kernel
theorem d9_23 : decode prog_35_method_8_code 23 = .ok (.iload 4, 2) := by decide +kernel
theorem d9_25 : decode prog_35_method_8_code 25 = .ok (.aaload, 1) := by decide +kernel
theorem d9_26 : decode prog_35_method_8_code 26 = .ok (.aload_n 1, 1) := by decide +kernel
theorem d9_27 : decode prog_35_method_8_code 27 = .ok (.invokestatic 62, 3) := by decide +kernel
theorem pd_6 : parseMethodDescriptor "([B[B)I" = some ⟨[(.array .byte), (.array .byte)], some .int⟩ := by decide +kernel
theorem d9_30 : decode prog_35_method_8_code 30 = .ok (.ifCond .ge 11, 3) := by decide +kernel
theorem d9_41 : decode prog_35_method_8_code 41 = .ok (.iload 4, 2) := by decide +kernel
theorem d9_43 : decode prog_35_method_8_code 43 = .ok (.istore_n 3, 1) := by decide +kernel
theorem d9_44 : decode prog_35_method_8_code 44 = .ok (.goto (-37), 3) := by decide +kernel
def Q91s (Z : State) (a1 : Addr) (a2 : Addr) (kr : Addr) (kk : ClassId) (h0 : Heap) (n0 : Nat) (v : Option Value) (h : Heap) : Prop :=
  (v = some (.int (0 : Int32)) ∧ h = h0)
theorem ef_91s (m : MethodId) (a1 : Addr) (a2 : Addr) : entryFrame m #[(.ref a1), (.ref a2)] 5 = mkF m 0 #[.val (.ref a1), .val (.ref a2), .unset, .unset, .unset] [] := by first | (simp [entryFrame, mkF, argsToLocals, Value.category]; done) | rfl
set_option maxRecDepth 65536 in
set_option maxHeartbeats 40000000 in
theorem rm91s (l : Launch) (Z : State) (a0 : Array Value) (hw : ∀ d ∈ tables_1, d.before a0 Z = true) (ws : List Jvm.Cond) (a1 : Addr) (a2 : Addr) (kr : Addr) (kk : ClassId) (h0 : Heap) (n0 : Nat) (O0 : Old Z n0 h0) (f0 : Fld Z h0 a1 cN "keys" "[[B" (.ref kr)) (f1 : Fld Z h0 a1 cN "size" "I" (.int (1 : Int32))) (f2 : Arv Z h0 kr kk (.array .byte) (64 : Int32) [(.ref a2), .null, .null] .null) :
    Meets l y9 prog_35_method_8_code 5 (some .int) ws ({ frames := 1, cells := 0, slots := 0, locals := 14 } : Room) ({ frames := 1, cells := 0, slots := 0, locals := 14 } : Room).cells ({ frames := 1, cells := 0, slots := 0, locals := 14 } : Room).slots Z #[(.ref a1), (.ref a2)] h0 n0 (Q91s Z a1 a2 kr kk h0 n0) := by
  refine Meets.of (F := fun m => mkF m 0 #[.val (.ref a1), .val (.ref a2), .unset, .unset, .unset] []) (plainFor_of_name pn_5) (fun m => ef_91s m a1 a2) ?_
  intro p e s m below meth c T0 hx hby hml hown0 hnm hret hlk hZ X0 e0
  have hown : s.vm.findClass cT = some m.cls := hown0
  have N0 := Fr.nil n0
  show Goes _ _ _ _ _ _ (T0.setTop (mkF m 0 #[.val (.ref a1), .val (.ref a2), .unset, .unset, .unset] []))
  refine own_iconst X0 hx (v := (0 : Int32)) (hb hby d9_0) rfl ?_
  refine own_istoreN X0 hx (Ls' := #[.val (.ref a1), .val (.ref a2), .val (.int (0 : Int32)), .unset, .unset]) (hb hby d9_1) rfl ?_
  refine own_aloadN X0 hx (hb hby d9_2) rfl rfl ?_
  refine own_getFR X0 hx hZ hown (own_w hw 68 rfl) e0 f1 (hb hby d9_3) ?_
  refine own_istoreN X0 hx (Ls' := #[.val (.ref a1), .val (.ref a2), .val (.int (0 : Int32)), .val (.int (1 : Int32)), .unset]) (hb hby d9_6) rfl ?_
  refine own_iloadN X0 hx (hb hby d9_7) rfl ?_
  refine own_iloadN X0 hx (hb hby d9_8) rfl ?_
  refine own_icmpNo X0 hx (hb hby d9_9) (tlt (by decide : (0 : Int32) < (1 : Int32))).2.1 ?_
  refine own_iloadN X0 hx (hb hby d9_12) rfl ?_
  refine own_iloadN X0 hx (hb hby d9_13) rfl ?_
  refine own_iadd X0 hx (hb hby d9_14) ?_
  rw [show ((0 : Int32) + (1 : Int32)) = (1 : Int32) by decide]
  refine own_iconst X0 hx (v := (1 : Int32)) (hb hby d9_15) rfl ?_
  refine own_iushr X0 hx (hb hby d9_16) ?_
  show Goes _ _ _ _ _ _ (T0.setTop (mkF m 17 #[.val (.ref a1), .val (.ref a2), .val (.int (0 : Int32)), .val (.int (1 : Int32)), .unset] [(.int (((1 : Int32).toUInt32 >>> ((1 : Int32) &&& 31).toUInt32).toInt32))]))
  rw [show (((1 : Int32).toUInt32 >>> ((1 : Int32) &&& 31).toUInt32).toInt32) = (0 : Int32) by decide]
  refine own_istore X0 hx (Ls' := #[.val (.ref a1), .val (.ref a2), .val (.int (0 : Int32)), .val (.int (1 : Int32)), .val (.int (0 : Int32))]) (hb hby d9_17) rfl ?_
  refine own_aloadN X0 hx (hb hby d9_19) rfl rfl ?_
  refine own_getFR X0 hx hZ hown (own_w hw 135 rfl) e0 f0 (hb hby d9_20) ?_
  refine own_iload X0 hx (hb hby d9_23) rfl ?_
  refine own_aaload X0 hx hZ e0 f2 rfl ⟨by decide, by decide⟩ (v := (.ref a2)) rfl (hb hby d9_25) ?_
  refine own_aloadN X0 hx (hb hby d9_26) rfl rfl ?_
  refine own_callS X0 hx hZ hown (y := y18) (own_w hw 136 rfl) (own_w hw 137 rfl) (own_w hw 138 rfl) (own_w hw 139 rfl) (by decide) (W := 0) (by decide) (by decide) N0 e0 (by rw [hml]; rfl) (argsL := [(.ref a2), (.ref a2)]) (rest := []) (lenOf pd_6 rfl) (Nat.le_of_eq rfl) (by decide) (by decide) (rm18s l Z a0 hw [] a2 a2 h0 n0 O0) rfl (hb hby d9_27) ?_
  intro v1 T1 lc1 X1 N1 hQ1
  obtain ⟨rfl, e1⟩ := hQ1
  refine own_ifYes X1 hx (pc' := 41) (hb hby d9_30) ((if0 _ _).trans (flt (by decide : ¬ ((0 : Int32) < (0 : Int32)))).2.1) (by decide) (by decide) ?_
  refine own_iload X1 hx (hb hby d9_41) rfl ?_
  refine own_istoreN X1 hx (Ls' := #[.val (.ref a1), .val (.ref a2), .val (.int (0 : Int32)), .val (.int (0 : Int32)), .val (.int (0 : Int32))]) (hb hby d9_43) rfl ?_
  refine own_goto X1 hx (pc' := 7) (hb hby d9_44) (by decide) (by decide) ?_
  refine own_iloadN X1 hx (hb hby d9_7) rfl ?_
  refine own_iloadN X1 hx (hb hby d9_8) rfl ?_
  refine own_icmpYes X1 hx (pc' := 47) (hb hby d9_9) (flt (by decide : ¬ ((0 : Int32) < (0 : Int32)))).2.1 (by decide) (by decide) ?_
  refine own_iloadN X1 hx (hb hby d9_47) rfl ?_
  show Goes _ _ _ _ _ _ (T1.setTop (mkF m 48 #[.val (.ref a1), .val (.ref a2), .val (.int (0 : Int32)), .val (.int (0 : Int32)), .val (.int (0 : Int32))] [(.int (0 : Int32))]))
  exact own_retI X1 hx N1 hlk (by decide) (by decide) hret (hb hby d9_48) (by rw [e1]; exact ⟨(congrArg (fun z => some (Value.int z)) (by decide)), rfl⟩)
theorem d9_33 : decode prog_35_method_8_code 33 = .ok (.iload 4, 2) := by decide +kernel
theorem d9_35 : decode prog_35_method_8_code 35 = .ok (.iconst 1, 1) := by decide +kernel
theorem d9_36 : decode prog_35_method_8_code 36 = .ok (.iadd, 1) := by decide +kernel
theorem d9_37 : decode prog_35_method_8_code 37 = .ok (.istore_n 2, 1) := by decide +kernel
theorem d9_38 : decode prog_35_method_8_code 38 = .ok (.goto 6, 3) := by decide +kernel
def Q91l (Z : State) (a1 : Addr) (a2 : Addr) (kr : Addr) (kk : ClassId) (k0 : Addr) (x : Int32) (y : Int32) (c0 : ClassId) (c1 : ClassId) (h0 : Heap) (n0 : Nat) (v : Option Value) (h : Heap) : Prop :=
  (v = some (.int (1 : Int32)) ∧ h = h0)
theorem ef_91l (m : MethodId) (a1 : Addr) (a2 : Addr) : entryFrame m #[(.ref a1), (.ref a2)] 5 = mkF m 0 #[.val (.ref a1), .val (.ref a2), .unset, .unset, .unset] [] := by first | (simp [entryFrame, mkF, argsToLocals, Value.category]; done) | rfl
set_option maxRecDepth 65536 in
set_option maxHeartbeats 40000000 in
theorem rm91l (l : Launch) (Z : State) (a0 : Array Value) (hw : ∀ d ∈ tables_1, d.before a0 Z = true) (ws : List Jvm.Cond) (a1 : Addr) (a2 : Addr) (kr : Addr) (kk : ClassId) (k0 : Addr) (x : Int32) (y : Int32) (c0 : ClassId) (c1 : ClassId) (h0 : Heap) (n0 : Nat) (O0 : Old Z n0 h0) (f0 : Fld Z h0 a1 cN "keys" "[[B" (.ref kr)) (f1 : Fld Z h0 a1 cN "size" "I" (.int (1 : Int32))) (f2 : Arv Z h0 kr kk (.array .byte) (64 : Int32) [(.ref k0), .null, .null] .null) (f3 : Arv Z h0 k0 c0 .byte (1 : Int32) [(.int x)] (.int (0 : Int32))) (f4 : Arv Z h0 a2 c1 .byte (1 : Int32) [(.int y)] (.int (0 : Int32))) (f5 : k0 ≠ a2) (hxy : ¬ (x = y)) (hlt : ((x &&& (255 : Int32)) - (y &&& (255 : Int32))) < (0 : Int32)) :
    Meets l y9 prog_35_method_8_code 5 (some .int) ws ({ frames := 3, cells := 0, slots := 0, locals := 40 } : Room) ({ frames := 3, cells := 0, slots := 0, locals := 40 } : Room).cells ({ frames := 3, cells := 0, slots := 0, locals := 40 } : Room).slots Z #[(.ref a1), (.ref a2)] h0 n0 (Q91l Z a1 a2 kr kk k0 x y c0 c1 h0 n0) := by
  refine Meets.of (F := fun m => mkF m 0 #[.val (.ref a1), .val (.ref a2), .unset, .unset, .unset] []) (plainFor_of_name pn_5) (fun m => ef_91l m a1 a2) ?_
  intro p e s m below meth c T0 hx hby hml hown0 hnm hret hlk hZ X0 e0
  have hown : s.vm.findClass cT = some m.cls := hown0
  have N0 := Fr.nil n0
  show Goes _ _ _ _ _ _ (T0.setTop (mkF m 0 #[.val (.ref a1), .val (.ref a2), .unset, .unset, .unset] []))
  refine own_iconst X0 hx (v := (0 : Int32)) (hb hby d9_0) rfl ?_
  refine own_istoreN X0 hx (Ls' := #[.val (.ref a1), .val (.ref a2), .val (.int (0 : Int32)), .unset, .unset]) (hb hby d9_1) rfl ?_
  refine own_aloadN X0 hx (hb hby d9_2) rfl rfl ?_
  refine own_getFR X0 hx hZ hown (own_w hw 68 rfl) e0 f1 (hb hby d9_3) ?_
  refine own_istoreN X0 hx (Ls' := #[.val (.ref a1), .val (.ref a2), .val (.int (0 : Int32)), .val (.int (1 : Int32)), .unset]) (hb hby d9_6) rfl ?_
  refine own_iloadN X0 hx (hb hby d9_7) rfl ?_
  refine own_iloadN X0 hx (hb hby d9_8) rfl ?_
  refine own_icmpNo X0 hx (hb hby d9_9) (tlt (by decide : (0 : Int32) < (1 : Int32))).2.1 ?_
  refine own_iloadN X0 hx (hb hby d9_12) rfl ?_
  refine own_iloadN X0 hx (hb hby d9_13) rfl ?_
  refine own_iadd X0 hx (hb hby d9_14) ?_
  rw [show ((0 : Int32) + (1 : Int32)) = (1 : Int32) by decide]
  refine own_iconst X0 hx (v := (1 : Int32)) (hb hby d9_15) rfl ?_
  refine own_iushr X0 hx (hb hby d9_16) ?_
  show Goes _ _ _ _ _ _ (T0.setTop (mkF m 17 #[.val (.ref a1), .val (.ref a2), .val (.int (0 : Int32)), .val (.int (1 : Int32)), .unset] [(.int (((1 : Int32).toUInt32 >>> ((1 : Int32) &&& 31).toUInt32).toInt32))]))
  rw [show (((1 : Int32).toUInt32 >>> ((1 : Int32) &&& 31).toUInt32).toInt32) = (0 : Int32) by decide]
  refine own_istore X0 hx (Ls' := #[.val (.ref a1), .val (.ref a2), .val (.int (0 : Int32)), .val (.int (1 : Int32)), .val (.int (0 : Int32))]) (hb hby d9_17) rfl ?_
  refine own_aloadN X0 hx (hb hby d9_19) rfl rfl ?_
  refine own_getFR X0 hx hZ hown (own_w hw 135 rfl) e0 f0 (hb hby d9_20) ?_
  refine own_iload X0 hx (hb hby d9_23) rfl ?_
  refine own_aaload X0 hx hZ e0 f2 rfl ⟨by decide, by decide⟩ (v := (.ref k0)) rfl (hb hby d9_25) ?_
  refine own_aloadN X0 hx (hb hby d9_26) rfl rfl ?_
  refine own_callS X0 hx hZ hown (y := y18) (own_w hw 136 rfl) (own_w hw 137 rfl) (own_w hw 138 rfl) (own_w hw 139 rfl) (by decide) (W := 0) (by decide) (by decide) N0 e0 (by rw [hml]; rfl) (argsL := [(.ref k0), (.ref a2)]) (rest := []) (lenOf pd_6 rfl) (Nat.le_of_eq rfl) (by decide) (by decide) (rm18d l Z a0 hw [] k0 a2 c0 c1 x y h0 n0 O0 f3 f4 f5 hxy) rfl (hb hby d9_27) ?_
  intro v1 T1 lc1 X1 N1 hQ1
  obtain ⟨rfl, e1⟩ := hQ1
  refine own_ifNo X1 hx (hb hby d9_30) ((if0 _ _).trans (tlt (hlt : ((x &&& (255 : Int32)) - (y &&& (255 : Int32))) < (0 : Int32))).2.1) ?_
  refine own_iload X1 hx (hb hby d9_33) rfl ?_
  refine own_iconst X1 hx (v := (1 : Int32)) (hb hby d9_35) rfl ?_
  refine own_iadd X1 hx (hb hby d9_36) ?_
  rw [show ((0 : Int32) + (1 : Int32)) = (1 : Int32) by decide]
  refine own_istoreN X1 hx (Ls' := #[.val (.ref a1), .val (.ref a2), .val (.int (1 : Int32)), .val (.int (1 : Int32)), .val (.int (0 : Int32))]) (hb hby d9_37) rfl ?_
  refine own_goto X1 hx (pc' := 44) (hb hby d9_38) (by decide) (by decide) ?_
  refine own_goto X1 hx (pc' := 7) (hb hby d9_44) (by decide) (by decide) ?_
  refine own_iloadN X1 hx (hb hby d9_7) rfl ?_
  refine own_iloadN X1 hx (hb hby d9_8) rfl ?_
  refine own_icmpYes X1 hx (pc' := 47) (hb hby d9_9) (flt (by decide : ¬ ((1 : Int32) < (1 : Int32)))).2.1 (by decide) (by decide) ?_
  refine own_iloadN X1 hx (hb hby d9_47) rfl ?_
  show Goes _ _ _ _ _ _ (T1.setTop (mkF m 48 #[.val (.ref a1), .val (.ref a2), .val (.int (1 : Int32)), .val (.int (1 : Int32)), .val (.int (0 : Int32))] [(.int (1 : Int32))]))
  exact own_retI X1 hx N1 hlk (by decide) (by decide) hret (hb hby d9_48) (by rw [e1]; exact ⟨(congrArg (fun z => some (Value.int z)) (by decide)), rfl⟩)
def Q91g (Z : State) (a1 : Addr) (a2 : Addr) (kr : Addr) (kk : ClassId) (k0 : Addr) (x : Int32) (y : Int32) (c0 : ClassId) (c1 : ClassId) (h0 : Heap) (n0 : Nat) (v : Option Value) (h : Heap) : Prop :=
  (v = some (.int (0 : Int32)) ∧ h = h0)
theorem ef_91g (m : MethodId) (a1 : Addr) (a2 : Addr) : entryFrame m #[(.ref a1), (.ref a2)] 5 = mkF m 0 #[.val (.ref a1), .val (.ref a2), .unset, .unset, .unset] [] := by first | (simp [entryFrame, mkF, argsToLocals, Value.category]; done) | rfl
set_option maxRecDepth 65536 in
set_option maxHeartbeats 40000000 in
theorem rm91g (l : Launch) (Z : State) (a0 : Array Value) (hw : ∀ d ∈ tables_1, d.before a0 Z = true) (ws : List Jvm.Cond) (a1 : Addr) (a2 : Addr) (kr : Addr) (kk : ClassId) (k0 : Addr) (x : Int32) (y : Int32) (c0 : ClassId) (c1 : ClassId) (h0 : Heap) (n0 : Nat) (O0 : Old Z n0 h0) (f0 : Fld Z h0 a1 cN "keys" "[[B" (.ref kr)) (f1 : Fld Z h0 a1 cN "size" "I" (.int (1 : Int32))) (f2 : Arv Z h0 kr kk (.array .byte) (64 : Int32) [(.ref k0), .null, .null] .null) (f3 : Arv Z h0 k0 c0 .byte (1 : Int32) [(.int x)] (.int (0 : Int32))) (f4 : Arv Z h0 a2 c1 .byte (1 : Int32) [(.int y)] (.int (0 : Int32))) (f5 : k0 ≠ a2) (hxy : ¬ (x = y)) (hlt : ¬ (((x &&& (255 : Int32)) - (y &&& (255 : Int32))) < (0 : Int32))) :
    Meets l y9 prog_35_method_8_code 5 (some .int) ws ({ frames := 3, cells := 0, slots := 0, locals := 40 } : Room) ({ frames := 3, cells := 0, slots := 0, locals := 40 } : Room).cells ({ frames := 3, cells := 0, slots := 0, locals := 40 } : Room).slots Z #[(.ref a1), (.ref a2)] h0 n0 (Q91g Z a1 a2 kr kk k0 x y c0 c1 h0 n0) := by
  refine Meets.of (F := fun m => mkF m 0 #[.val (.ref a1), .val (.ref a2), .unset, .unset, .unset] []) (plainFor_of_name pn_5) (fun m => ef_91g m a1 a2) ?_
  intro p e s m below meth c T0 hx hby hml hown0 hnm hret hlk hZ X0 e0
  have hown : s.vm.findClass cT = some m.cls := hown0
  have N0 := Fr.nil n0
  show Goes _ _ _ _ _ _ (T0.setTop (mkF m 0 #[.val (.ref a1), .val (.ref a2), .unset, .unset, .unset] []))
  refine own_iconst X0 hx (v := (0 : Int32)) (hb hby d9_0) rfl ?_
  refine own_istoreN X0 hx (Ls' := #[.val (.ref a1), .val (.ref a2), .val (.int (0 : Int32)), .unset, .unset]) (hb hby d9_1) rfl ?_
  refine own_aloadN X0 hx (hb hby d9_2) rfl rfl ?_
  refine own_getFR X0 hx hZ hown (own_w hw 68 rfl) e0 f1 (hb hby d9_3) ?_
  refine own_istoreN X0 hx (Ls' := #[.val (.ref a1), .val (.ref a2), .val (.int (0 : Int32)), .val (.int (1 : Int32)), .unset]) (hb hby d9_6) rfl ?_
  refine own_iloadN X0 hx (hb hby d9_7) rfl ?_
  refine own_iloadN X0 hx (hb hby d9_8) rfl ?_
  refine own_icmpNo X0 hx (hb hby d9_9) (tlt (by decide : (0 : Int32) < (1 : Int32))).2.1 ?_
  refine own_iloadN X0 hx (hb hby d9_12) rfl ?_
  refine own_iloadN X0 hx (hb hby d9_13) rfl ?_
  refine own_iadd X0 hx (hb hby d9_14) ?_
  rw [show ((0 : Int32) + (1 : Int32)) = (1 : Int32) by decide]
  refine own_iconst X0 hx (v := (1 : Int32)) (hb hby d9_15) rfl ?_
  refine own_iushr X0 hx (hb hby d9_16) ?_
  show Goes _ _ _ _ _ _ (T0.setTop (mkF m 17 #[.val (.ref a1), .val (.ref a2), .val (.int (0 : Int32)), .val (.int (1 : Int32)), .unset] [(.int (((1 : Int32).toUInt32 >>> ((1 : Int32) &&& 31).toUInt32).toInt32))]))
  rw [show (((1 : Int32).toUInt32 >>> ((1 : Int32) &&& 31).toUInt32).toInt32) = (0 : Int32) by decide]
  refine own_istore X0 hx (Ls' := #[.val (.ref a1), .val (.ref a2), .val (.int (0 : Int32)), .val (.int (1 : Int32)), .val (.int (0 : Int32))]) (hb hby d9_17) rfl ?_
  refine own_aloadN X0 hx (hb hby d9_19) rfl rfl ?_
  refine own_getFR X0 hx hZ hown (own_w hw 135 rfl) e0 f0 (hb hby d9_20) ?_
  refine own_iload X0 hx (hb hby d9_23) rfl ?_
  refine own_aaload X0 hx hZ e0 f2 rfl ⟨by decide, by decide⟩ (v := (.ref k0)) rfl (hb hby d9_25) ?_
  refine own_aloadN X0 hx (hb hby d9_26) rfl rfl ?_
  refine own_callS X0 hx hZ hown (y := y18) (own_w hw 136 rfl) (own_w hw 137 rfl) (own_w hw 138 rfl) (own_w hw 139 rfl) (by decide) (W := 0) (by decide) (by decide) N0 e0 (by rw [hml]; rfl) (argsL := [(.ref k0), (.ref a2)]) (rest := []) (lenOf pd_6 rfl) (Nat.le_of_eq rfl) (by decide) (by decide) (rm18d l Z a0 hw [] k0 a2 c0 c1 x y h0 n0 O0 f3 f4 f5 hxy) rfl (hb hby d9_27) ?_
  intro v1 T1 lc1 X1 N1 hQ1
  obtain ⟨rfl, e1⟩ := hQ1
  refine own_ifYes X1 hx (pc' := 41) (hb hby d9_30) ((if0 _ _).trans (flt (hlt : ¬ (((x &&& (255 : Int32)) - (y &&& (255 : Int32))) < (0 : Int32)))).2.1) (by decide) (by decide) ?_
  refine own_iload X1 hx (hb hby d9_41) rfl ?_
  refine own_istoreN X1 hx (Ls' := #[.val (.ref a1), .val (.ref a2), .val (.int (0 : Int32)), .val (.int (0 : Int32)), .val (.int (0 : Int32))]) (hb hby d9_43) rfl ?_
  refine own_goto X1 hx (pc' := 7) (hb hby d9_44) (by decide) (by decide) ?_
  refine own_iloadN X1 hx (hb hby d9_7) rfl ?_
  refine own_iloadN X1 hx (hb hby d9_8) rfl ?_
  refine own_icmpYes X1 hx (pc' := 47) (hb hby d9_9) (flt (by decide : ¬ ((0 : Int32) < (0 : Int32)))).2.1 (by decide) (by decide) ?_
  refine own_iloadN X1 hx (hb hby d9_47) rfl ?_
  show Goes _ _ _ _ _ _ (T1.setTop (mkF m 48 #[.val (.ref a1), .val (.ref a2), .val (.int (0 : Int32)), .val (.int (0 : Int32)), .val (.int (0 : Int32))] [(.int (0 : Int32))]))
  exact own_retI X1 hx N1 hlk (by decide) (by decide) hret (hb hby d9_48) (by rw [e1]; exact ⟨(congrArg (fun z => some (Value.int z)) (by decide)), rfl⟩)
def Q91e (Z : State) (a1 : Addr) (a2 : Addr) (kr : Addr) (kk : ClassId) (k0 : Addr) (x : Int32) (y : Int32) (c0 : ClassId) (c1 : ClassId) (h0 : Heap) (n0 : Nat) (v : Option Value) (h : Heap) : Prop :=
  (v = some (.int (0 : Int32)) ∧ h = h0)
theorem ef_91e (m : MethodId) (a1 : Addr) (a2 : Addr) : entryFrame m #[(.ref a1), (.ref a2)] 5 = mkF m 0 #[.val (.ref a1), .val (.ref a2), .unset, .unset, .unset] [] := by first | (simp [entryFrame, mkF, argsToLocals, Value.category]; done) | rfl
set_option maxRecDepth 65536 in
set_option maxHeartbeats 40000000 in
theorem rm91e (l : Launch) (Z : State) (a0 : Array Value) (hw : ∀ d ∈ tables_1, d.before a0 Z = true) (ws : List Jvm.Cond) (a1 : Addr) (a2 : Addr) (kr : Addr) (kk : ClassId) (k0 : Addr) (x : Int32) (y : Int32) (c0 : ClassId) (c1 : ClassId) (h0 : Heap) (n0 : Nat) (O0 : Old Z n0 h0) (f0 : Fld Z h0 a1 cN "keys" "[[B" (.ref kr)) (f1 : Fld Z h0 a1 cN "size" "I" (.int (1 : Int32))) (f2 : Arv Z h0 kr kk (.array .byte) (64 : Int32) [(.ref k0), .null, .null] .null) (f3 : Arv Z h0 k0 c0 .byte (1 : Int32) [(.int x)] (.int (0 : Int32))) (f4 : Arv Z h0 a2 c1 .byte (1 : Int32) [(.int y)] (.int (0 : Int32))) (f5 : k0 ≠ a2) (hxy : x = y) :
    Meets l y9 prog_35_method_8_code 5 (some .int) ws ({ frames := 2, cells := 0, slots := 0, locals := 29 } : Room) ({ frames := 2, cells := 0, slots := 0, locals := 29 } : Room).cells ({ frames := 2, cells := 0, slots := 0, locals := 29 } : Room).slots Z #[(.ref a1), (.ref a2)] h0 n0 (Q91e Z a1 a2 kr kk k0 x y c0 c1 h0 n0) := by
  refine Meets.of (F := fun m => mkF m 0 #[.val (.ref a1), .val (.ref a2), .unset, .unset, .unset] []) (plainFor_of_name pn_5) (fun m => ef_91e m a1 a2) ?_
  intro p e s m below meth c T0 hx hby hml hown0 hnm hret hlk hZ X0 e0
  have hown : s.vm.findClass cT = some m.cls := hown0
  have N0 := Fr.nil n0
  show Goes _ _ _ _ _ _ (T0.setTop (mkF m 0 #[.val (.ref a1), .val (.ref a2), .unset, .unset, .unset] []))
  refine own_iconst X0 hx (v := (0 : Int32)) (hb hby d9_0) rfl ?_
  refine own_istoreN X0 hx (Ls' := #[.val (.ref a1), .val (.ref a2), .val (.int (0 : Int32)), .unset, .unset]) (hb hby d9_1) rfl ?_
  refine own_aloadN X0 hx (hb hby d9_2) rfl rfl ?_
  refine own_getFR X0 hx hZ hown (own_w hw 68 rfl) e0 f1 (hb hby d9_3) ?_
  refine own_istoreN X0 hx (Ls' := #[.val (.ref a1), .val (.ref a2), .val (.int (0 : Int32)), .val (.int (1 : Int32)), .unset]) (hb hby d9_6) rfl ?_
  refine own_iloadN X0 hx (hb hby d9_7) rfl ?_
  refine own_iloadN X0 hx (hb hby d9_8) rfl ?_
  refine own_icmpNo X0 hx (hb hby d9_9) (tlt (by decide : (0 : Int32) < (1 : Int32))).2.1 ?_
  refine own_iloadN X0 hx (hb hby d9_12) rfl ?_
  refine own_iloadN X0 hx (hb hby d9_13) rfl ?_
  refine own_iadd X0 hx (hb hby d9_14) ?_
  rw [show ((0 : Int32) + (1 : Int32)) = (1 : Int32) by decide]
  refine own_iconst X0 hx (v := (1 : Int32)) (hb hby d9_15) rfl ?_
  refine own_iushr X0 hx (hb hby d9_16) ?_
  show Goes _ _ _ _ _ _ (T0.setTop (mkF m 17 #[.val (.ref a1), .val (.ref a2), .val (.int (0 : Int32)), .val (.int (1 : Int32)), .unset] [(.int (((1 : Int32).toUInt32 >>> ((1 : Int32) &&& 31).toUInt32).toInt32))]))
  rw [show (((1 : Int32).toUInt32 >>> ((1 : Int32) &&& 31).toUInt32).toInt32) = (0 : Int32) by decide]
  refine own_istore X0 hx (Ls' := #[.val (.ref a1), .val (.ref a2), .val (.int (0 : Int32)), .val (.int (1 : Int32)), .val (.int (0 : Int32))]) (hb hby d9_17) rfl ?_
  refine own_aloadN X0 hx (hb hby d9_19) rfl rfl ?_
  refine own_getFR X0 hx hZ hown (own_w hw 135 rfl) e0 f0 (hb hby d9_20) ?_
  refine own_iload X0 hx (hb hby d9_23) rfl ?_
  refine own_aaload X0 hx hZ e0 f2 rfl ⟨by decide, by decide⟩ (v := (.ref k0)) rfl (hb hby d9_25) ?_
  refine own_aloadN X0 hx (hb hby d9_26) rfl rfl ?_
  refine own_callS X0 hx hZ hown (y := y18) (own_w hw 136 rfl) (own_w hw 137 rfl) (own_w hw 138 rfl) (own_w hw 139 rfl) (by decide) (W := 0) (by decide) (by decide) N0 e0 (by rw [hml]; rfl) (argsL := [(.ref k0), (.ref a2)]) (rest := []) (lenOf pd_6 rfl) (Nat.le_of_eq rfl) (by decide) (by decide) (rm18e l Z a0 hw [] k0 a2 c0 c1 x y h0 n0 O0 f3 f4 f5 hxy) rfl (hb hby d9_27) ?_
  intro v1 T1 lc1 X1 N1 hQ1
  obtain ⟨rfl, e1⟩ := hQ1
  refine own_ifYes X1 hx (pc' := 41) (hb hby d9_30) ((if0 _ _).trans (flt (by decide : ¬ ((0 : Int32) < (0 : Int32)))).2.1) (by decide) (by decide) ?_
  refine own_iload X1 hx (hb hby d9_41) rfl ?_
  refine own_istoreN X1 hx (Ls' := #[.val (.ref a1), .val (.ref a2), .val (.int (0 : Int32)), .val (.int (0 : Int32)), .val (.int (0 : Int32))]) (hb hby d9_43) rfl ?_
  refine own_goto X1 hx (pc' := 7) (hb hby d9_44) (by decide) (by decide) ?_
  refine own_iloadN X1 hx (hb hby d9_7) rfl ?_
  refine own_iloadN X1 hx (hb hby d9_8) rfl ?_
  refine own_icmpYes X1 hx (pc' := 47) (hb hby d9_9) (flt (by decide : ¬ ((0 : Int32) < (0 : Int32)))).2.1 (by decide) (by decide) ?_
  refine own_iloadN X1 hx (hb hby d9_47) rfl ?_
  show Goes _ _ _ _ _ _ (T1.setTop (mkF m 48 #[.val (.ref a1), .val (.ref a2), .val (.int (0 : Int32)), .val (.int (0 : Int32)), .val (.int (0 : Int32))] [(.int (0 : Int32))]))
  exact own_retI X1 hx N1 hlk (by decide) (by decide) hret (hb hby d9_48) (by rw [e1]; exact ⟨(congrArg (fun z => some (Value.int z)) (by decide)), rfl⟩)
def Q910 (Z : State) (a1 : Addr) (a2 : Addr) (kr : Addr) (kk : ClassId) (k0 : Addr) (x : Int32) (c0 : ClassId) (c1 : ClassId) (h0 : Heap) (n0 : Nat) (v : Option Value) (h : Heap) : Prop :=
  (v = some (.int (0 : Int32)) ∧ h = h0)
theorem ef_910 (m : MethodId) (a1 : Addr) (a2 : Addr) : entryFrame m #[(.ref a1), (.ref a2)] 5 = mkF m 0 #[.val (.ref a1), .val (.ref a2), .unset, .unset, .unset] [] := by first | (simp [entryFrame, mkF, argsToLocals, Value.category]; done) | rfl
set_option maxRecDepth 65536 in
set_option maxHeartbeats 40000000 in
theorem rm910 (l : Launch) (Z : State) (a0 : Array Value) (hw : ∀ d ∈ tables_1, d.before a0 Z = true) (ws : List Jvm.Cond) (a1 : Addr) (a2 : Addr) (kr : Addr) (kk : ClassId) (k0 : Addr) (x : Int32) (c0 : ClassId) (c1 : ClassId) (h0 : Heap) (n0 : Nat) (O0 : Old Z n0 h0) (f0 : Fld Z h0 a1 cN "keys" "[[B" (.ref kr)) (f1 : Fld Z h0 a1 cN "size" "I" (.int (1 : Int32))) (f2 : Arv Z h0 kr kk (.array .byte) (64 : Int32) [(.ref k0), .null, .null] .null) (f3 : Arv Z h0 k0 c0 .byte (1 : Int32) [(.int x)] (.int (0 : Int32))) (f4 : Arv Z h0 a2 c1 .byte (0 : Int32) [] (.int (0 : Int32))) (f5 : k0 ≠ a2) :
    Meets l y9 prog_35_method_8_code 5 (some .int) ws ({ frames := 2, cells := 0, slots := 0, locals := 29 } : Room) ({ frames := 2, cells := 0, slots := 0, locals := 29 } : Room).cells ({ frames := 2, cells := 0, slots := 0, locals := 29 } : Room).slots Z #[(.ref a1), (.ref a2)] h0 n0 (Q910 Z a1 a2 kr kk k0 x c0 c1 h0 n0) := by
  refine Meets.of (F := fun m => mkF m 0 #[.val (.ref a1), .val (.ref a2), .unset, .unset, .unset] []) (plainFor_of_name pn_5) (fun m => ef_910 m a1 a2) ?_
  intro p e s m below meth c T0 hx hby hml hown0 hnm hret hlk hZ X0 e0
  have hown : s.vm.findClass cT = some m.cls := hown0
  have N0 := Fr.nil n0
  show Goes _ _ _ _ _ _ (T0.setTop (mkF m 0 #[.val (.ref a1), .val (.ref a2), .unset, .unset, .unset] []))
  refine own_iconst X0 hx (v := (0 : Int32)) (hb hby d9_0) rfl ?_
  refine own_istoreN X0 hx (Ls' := #[.val (.ref a1), .val (.ref a2), .val (.int (0 : Int32)), .unset, .unset]) (hb hby d9_1) rfl ?_
  refine own_aloadN X0 hx (hb hby d9_2) rfl rfl ?_
  refine own_getFR X0 hx hZ hown (own_w hw 68 rfl) e0 f1 (hb hby d9_3) ?_
  refine own_istoreN X0 hx (Ls' := #[.val (.ref a1), .val (.ref a2), .val (.int (0 : Int32)), .val (.int (1 : Int32)), .unset]) (hb hby d9_6) rfl ?_
  refine own_iloadN X0 hx (hb hby d9_7) rfl ?_
  refine own_iloadN X0 hx (hb hby d9_8) rfl ?_
  refine own_icmpNo X0 hx (hb hby d9_9) (tlt (by decide : (0 : Int32) < (1 : Int32))).2.1 ?_
  refine own_iloadN X0 hx (hb hby d9_12) rfl ?_
  refine own_iloadN X0 hx (hb hby d9_13) rfl ?_
  refine own_iadd X0 hx (hb hby d9_14) ?_
  rw [show ((0 : Int32) + (1 : Int32)) = (1 : Int32) by decide]
  refine own_iconst X0 hx (v := (1 : Int32)) (hb hby d9_15) rfl ?_
  refine own_iushr X0 hx (hb hby d9_16) ?_
  show Goes _ _ _ _ _ _ (T0.setTop (mkF m 17 #[.val (.ref a1), .val (.ref a2), .val (.int (0 : Int32)), .val (.int (1 : Int32)), .unset] [(.int (((1 : Int32).toUInt32 >>> ((1 : Int32) &&& 31).toUInt32).toInt32))]))
  rw [show (((1 : Int32).toUInt32 >>> ((1 : Int32) &&& 31).toUInt32).toInt32) = (0 : Int32) by decide]
  refine own_istore X0 hx (Ls' := #[.val (.ref a1), .val (.ref a2), .val (.int (0 : Int32)), .val (.int (1 : Int32)), .val (.int (0 : Int32))]) (hb hby d9_17) rfl ?_
  refine own_aloadN X0 hx (hb hby d9_19) rfl rfl ?_
  refine own_getFR X0 hx hZ hown (own_w hw 135 rfl) e0 f0 (hb hby d9_20) ?_
  refine own_iload X0 hx (hb hby d9_23) rfl ?_
  refine own_aaload X0 hx hZ e0 f2 rfl ⟨by decide, by decide⟩ (v := (.ref k0)) rfl (hb hby d9_25) ?_
  refine own_aloadN X0 hx (hb hby d9_26) rfl rfl ?_
  refine own_callS X0 hx hZ hown (y := y18) (own_w hw 136 rfl) (own_w hw 137 rfl) (own_w hw 138 rfl) (own_w hw 139 rfl) (by decide) (W := 0) (by decide) (by decide) N0 e0 (by rw [hml]; rfl) (argsL := [(.ref k0), (.ref a2)]) (rest := []) (lenOf pd_6 rfl) (Nat.le_of_eq rfl) (by decide) (by decide) (rm180 l Z a0 hw [] k0 a2 c0 c1 x h0 n0 O0 f3 f4 f5) rfl (hb hby d9_27) ?_
  intro v1 T1 lc1 X1 N1 hQ1
  obtain ⟨rfl, e1⟩ := hQ1
  refine own_ifYes X1 hx (pc' := 41) (hb hby d9_30) ((if0 _ _).trans (flt (by decide : ¬ ((1 : Int32) < (0 : Int32)))).2.1) (by decide) (by decide) ?_
  refine own_iload X1 hx (hb hby d9_41) rfl ?_
  refine own_istoreN X1 hx (Ls' := #[.val (.ref a1), .val (.ref a2), .val (.int (0 : Int32)), .val (.int (0 : Int32)), .val (.int (0 : Int32))]) (hb hby d9_43) rfl ?_
  refine own_goto X1 hx (pc' := 7) (hb hby d9_44) (by decide) (by decide) ?_
  refine own_iloadN X1 hx (hb hby d9_7) rfl ?_
  refine own_iloadN X1 hx (hb hby d9_8) rfl ?_
  refine own_icmpYes X1 hx (pc' := 47) (hb hby d9_9) (flt (by decide : ¬ ((0 : Int32) < (0 : Int32)))).2.1 (by decide) (by decide) ?_
  refine own_iloadN X1 hx (hb hby d9_47) rfl ?_
  show Goes _ _ _ _ _ _ (T1.setTop (mkF m 48 #[.val (.ref a1), .val (.ref a2), .val (.int (0 : Int32)), .val (.int (0 : Int32)), .val (.int (0 : Int32))] [(.int (0 : Int32))]))
  exact own_retI X1 hx N1 hlk (by decide) (by decide) hret (hb hby d9_48) (by rw [e1]; exact ⟨(congrArg (fun z => some (Value.int z)) (by decide)), rfl⟩)
def Q920 (Z : State) (a1 : Addr) (a2 : Addr) (kr : Addr) (kk : ClassId) (k0 : Addr) (k1 : Addr) (x : Int32) (y : Int32) (c0 : ClassId) (c1 : ClassId) (c2 : ClassId) (h0 : Heap) (n0 : Nat) (v : Option Value) (h : Heap) : Prop :=
  (v = some (.int (0 : Int32)) ∧ h = h0)
theorem ef_920 (m : MethodId) (a1 : Addr) (a2 : Addr) : entryFrame m #[(.ref a1), (.ref a2)] 5 = mkF m 0 #[.val (.ref a1), .val (.ref a2), .unset, .unset, .unset] [] := by first | (simp [entryFrame, mkF, argsToLocals, Value.category]; done) | rfl
set_option maxRecDepth 65536 in
set_option maxHeartbeats 40000000 in
theorem rm920 (l : Launch) (Z : State) (a0 : Array Value) (hw : ∀ d ∈ tables_1, d.before a0 Z = true) (ws : List Jvm.Cond) (a1 : Addr) (a2 : Addr) (kr : Addr) (kk : ClassId) (k0 : Addr) (k1 : Addr) (x : Int32) (y : Int32) (c0 : ClassId) (c1 : ClassId) (c2 : ClassId) (h0 : Heap) (n0 : Nat) (O0 : Old Z n0 h0) (f0 : Fld Z h0 a1 cN "keys" "[[B" (.ref kr)) (f1 : Fld Z h0 a1 cN "size" "I" (.int (2 : Int32))) (f2 : Arv Z h0 kr kk (.array .byte) (64 : Int32) [(.ref k0), (.ref k1), .null] .null) (f3 : Arv Z h0 k0 c0 .byte (1 : Int32) [(.int x)] (.int (0 : Int32))) (f4 : Arv Z h0 k1 c1 .byte (1 : Int32) [(.int y)] (.int (0 : Int32))) (f5 : Arv Z h0 a2 c2 .byte (0 : Int32) [] (.int (0 : Int32))) (f6 : k0 ≠ a2) (f7 : k1 ≠ a2) :
    Meets l y9 prog_35_method_8_code 5 (some .int) ws ({ frames := 2, cells := 0, slots := 0, locals := 29 } : Room) ({ frames := 2, cells := 0, slots := 0, locals := 29 } : Room).cells ({ frames := 2, cells := 0, slots := 0, locals := 29 } : Room).slots Z #[(.ref a1), (.ref a2)] h0 n0 (Q920 Z a1 a2 kr kk k0 k1 x y c0 c1 c2 h0 n0) := by
  refine Meets.of (F := fun m => mkF m 0 #[.val (.ref a1), .val (.ref a2), .unset, .unset, .unset] []) (plainFor_of_name pn_5) (fun m => ef_920 m a1 a2) ?_
  intro p e s m below meth c T0 hx hby hml hown0 hnm hret hlk hZ X0 e0
  have hown : s.vm.findClass cT = some m.cls := hown0
  have N0 := Fr.nil n0
  show Goes _ _ _ _ _ _ (T0.setTop (mkF m 0 #[.val (.ref a1), .val (.ref a2), .unset, .unset, .unset] []))
  refine own_iconst X0 hx (v := (0 : Int32)) (hb hby d9_0) rfl ?_
  refine own_istoreN X0 hx (Ls' := #[.val (.ref a1), .val (.ref a2), .val (.int (0 : Int32)), .unset, .unset]) (hb hby d9_1) rfl ?_
  refine own_aloadN X0 hx (hb hby d9_2) rfl rfl ?_
  refine own_getFR X0 hx hZ hown (own_w hw 68 rfl) e0 f1 (hb hby d9_3) ?_
  refine own_istoreN X0 hx (Ls' := #[.val (.ref a1), .val (.ref a2), .val (.int (0 : Int32)), .val (.int (2 : Int32)), .unset]) (hb hby d9_6) rfl ?_
  refine own_iloadN X0 hx (hb hby d9_7) rfl ?_
  refine own_iloadN X0 hx (hb hby d9_8) rfl ?_
  refine own_icmpNo X0 hx (hb hby d9_9) (tlt (by decide : (0 : Int32) < (2 : Int32))).2.1 ?_
  refine own_iloadN X0 hx (hb hby d9_12) rfl ?_
  refine own_iloadN X0 hx (hb hby d9_13) rfl ?_
  refine own_iadd X0 hx (hb hby d9_14) ?_
  rw [show ((0 : Int32) + (2 : Int32)) = (2 : Int32) by decide]
  refine own_iconst X0 hx (v := (1 : Int32)) (hb hby d9_15) rfl ?_
  refine own_iushr X0 hx (hb hby d9_16) ?_
  show Goes _ _ _ _ _ _ (T0.setTop (mkF m 17 #[.val (.ref a1), .val (.ref a2), .val (.int (0 : Int32)), .val (.int (2 : Int32)), .unset] [(.int (((2 : Int32).toUInt32 >>> ((1 : Int32) &&& 31).toUInt32).toInt32))]))
  rw [show (((2 : Int32).toUInt32 >>> ((1 : Int32) &&& 31).toUInt32).toInt32) = (1 : Int32) by decide]
  refine own_istore X0 hx (Ls' := #[.val (.ref a1), .val (.ref a2), .val (.int (0 : Int32)), .val (.int (2 : Int32)), .val (.int (1 : Int32))]) (hb hby d9_17) rfl ?_
  refine own_aloadN X0 hx (hb hby d9_19) rfl rfl ?_
  refine own_getFR X0 hx hZ hown (own_w hw 135 rfl) e0 f0 (hb hby d9_20) ?_
  refine own_iload X0 hx (hb hby d9_23) rfl ?_
  refine own_aaload X0 hx hZ e0 f2 rfl ⟨by decide, by decide⟩ (v := (.ref k1)) rfl (hb hby d9_25) ?_
  refine own_aloadN X0 hx (hb hby d9_26) rfl rfl ?_
  refine own_callS X0 hx hZ hown (y := y18) (own_w hw 136 rfl) (own_w hw 137 rfl) (own_w hw 138 rfl) (own_w hw 139 rfl) (by decide) (W := 0) (by decide) (by decide) N0 e0 (by rw [hml]; rfl) (argsL := [(.ref k1), (.ref a2)]) (rest := []) (lenOf pd_6 rfl) (Nat.le_of_eq rfl) (by decide) (by decide) (rm180 l Z a0 hw [] k1 a2 c1 c2 y h0 n0 O0 f4 f5 f7) rfl (hb hby d9_27) ?_
  intro v1 T1 lc1 X1 N1 hQ1
  obtain ⟨rfl, e1⟩ := hQ1
  refine own_ifYes X1 hx (pc' := 41) (hb hby d9_30) ((if0 _ _).trans (flt (by decide : ¬ ((1 : Int32) < (0 : Int32)))).2.1) (by decide) (by decide) ?_
  refine own_iload X1 hx (hb hby d9_41) rfl ?_
  refine own_istoreN X1 hx (Ls' := #[.val (.ref a1), .val (.ref a2), .val (.int (0 : Int32)), .val (.int (1 : Int32)), .val (.int (1 : Int32))]) (hb hby d9_43) rfl ?_
  refine own_goto X1 hx (pc' := 7) (hb hby d9_44) (by decide) (by decide) ?_
  refine own_iloadN X1 hx (hb hby d9_7) rfl ?_
  refine own_iloadN X1 hx (hb hby d9_8) rfl ?_
  refine own_icmpNo X1 hx (hb hby d9_9) (tlt (by decide : (0 : Int32) < (1 : Int32))).2.1 ?_
  refine own_iloadN X1 hx (hb hby d9_12) rfl ?_
  refine own_iloadN X1 hx (hb hby d9_13) rfl ?_
  refine own_iadd X1 hx (hb hby d9_14) ?_
  rw [show ((0 : Int32) + (1 : Int32)) = (1 : Int32) by decide]
  refine own_iconst X1 hx (v := (1 : Int32)) (hb hby d9_15) rfl ?_
  refine own_iushr X1 hx (hb hby d9_16) ?_
  show Goes _ _ _ _ _ _ (T1.setTop (mkF m 17 #[.val (.ref a1), .val (.ref a2), .val (.int (0 : Int32)), .val (.int (1 : Int32)), .val (.int (1 : Int32))] [(.int (((1 : Int32).toUInt32 >>> ((1 : Int32) &&& 31).toUInt32).toInt32))]))
  rw [show (((1 : Int32).toUInt32 >>> ((1 : Int32) &&& 31).toUInt32).toInt32) = (0 : Int32) by decide]
  refine own_istore X1 hx (Ls' := #[.val (.ref a1), .val (.ref a2), .val (.int (0 : Int32)), .val (.int (1 : Int32)), .val (.int (0 : Int32))]) (hb hby d9_17) rfl ?_
  refine own_aloadN X1 hx (hb hby d9_19) rfl rfl ?_
  refine own_getFR X1 hx hZ hown (own_w hw 135 rfl) e1 f0 (hb hby d9_20) ?_
  refine own_iload X1 hx (hb hby d9_23) rfl ?_
  refine own_aaload X1 hx hZ e1 f2 rfl ⟨by decide, by decide⟩ (v := (.ref k0)) rfl (hb hby d9_25) ?_
  refine own_aloadN X1 hx (hb hby d9_26) rfl rfl ?_
  refine own_callS X1 hx hZ hown (y := y18) (own_w hw 136 rfl) (own_w hw 137 rfl) (own_w hw 138 rfl) (own_w hw 139 rfl) (by decide) (W := 0) (by decide) (by decide) N1 e1 (by rw [hml]; rfl) (argsL := [(.ref k0), (.ref a2)]) (rest := []) (lenOf pd_6 rfl) (Nat.le_of_eq rfl) (by decide) (by decide) (rm180 l Z a0 hw [] k0 a2 c0 c2 x h0 n0 O0 f3 f5 f6) rfl (hb hby d9_27) ?_
  intro v2 T2 lc2 X2 N2 hQ2
  obtain ⟨rfl, e2⟩ := hQ2
  refine own_ifYes X2 hx (pc' := 41) (hb hby d9_30) ((if0 _ _).trans (flt (by decide : ¬ ((1 : Int32) < (0 : Int32)))).2.1) (by decide) (by decide) ?_
  refine own_iload X2 hx (hb hby d9_41) rfl ?_
  refine own_istoreN X2 hx (Ls' := #[.val (.ref a1), .val (.ref a2), .val (.int (0 : Int32)), .val (.int (0 : Int32)), .val (.int (0 : Int32))]) (hb hby d9_43) rfl ?_
  refine own_goto X2 hx (pc' := 7) (hb hby d9_44) (by decide) (by decide) ?_
  refine own_iloadN X2 hx (hb hby d9_7) rfl ?_
  refine own_iloadN X2 hx (hb hby d9_8) rfl ?_
  refine own_icmpYes X2 hx (pc' := 47) (hb hby d9_9) (flt (by decide : ¬ ((0 : Int32) < (0 : Int32)))).2.1 (by decide) (by decide) ?_
  refine own_iloadN X2 hx (hb hby d9_47) rfl ?_
  show Goes _ _ _ _ _ _ (T2.setTop (mkF m 48 #[.val (.ref a1), .val (.ref a2), .val (.int (0 : Int32)), .val (.int (0 : Int32)), .val (.int (0 : Int32))] [(.int (0 : Int32))]))
  exact own_retI X2 hx N2 hlk (by decide) (by decide) hret (hb hby d9_48) (by rw [e2]; exact ⟨(congrArg (fun z => some (Value.int z)) (by decide)), rfl⟩)
def Q92s (Z : State) (a1 : Addr) (a2 : Addr) (kr : Addr) (kk : ClassId) (k1 : Addr) (x : Int32) (y : Int32) (c0 : ClassId) (c1 : ClassId) (h0 : Heap) (n0 : Nat) (v : Option Value) (h : Heap) : Prop :=
  (v = some (.int (0 : Int32)) ∧ h = h0)
theorem ef_92s (m : MethodId) (a1 : Addr) (a2 : Addr) : entryFrame m #[(.ref a1), (.ref a2)] 5 = mkF m 0 #[.val (.ref a1), .val (.ref a2), .unset, .unset, .unset] [] := by first | (simp [entryFrame, mkF, argsToLocals, Value.category]; done) | rfl
set_option maxRecDepth 65536 in
set_option maxHeartbeats 40000000 in
theorem rm92s (l : Launch) (Z : State) (a0 : Array Value) (hw : ∀ d ∈ tables_1, d.before a0 Z = true) (ws : List Jvm.Cond) (a1 : Addr) (a2 : Addr) (kr : Addr) (kk : ClassId) (k1 : Addr) (x : Int32) (y : Int32) (c0 : ClassId) (c1 : ClassId) (h0 : Heap) (n0 : Nat) (O0 : Old Z n0 h0) (f0 : Fld Z h0 a1 cN "keys" "[[B" (.ref kr)) (f1 : Fld Z h0 a1 cN "size" "I" (.int (2 : Int32))) (f2 : Arv Z h0 kr kk (.array .byte) (64 : Int32) [(.ref a2), (.ref k1), .null] .null) (f3 : Arv Z h0 a2 c0 .byte (1 : Int32) [(.int x)] (.int (0 : Int32))) (f4 : Arv Z h0 k1 c1 .byte (1 : Int32) [(.int y)] (.int (0 : Int32))) (f5 : k1 ≠ a2) (hyx : ¬ (y = x)) (hlt : ¬ (((y &&& (255 : Int32)) - (x &&& (255 : Int32))) < (0 : Int32))) :
    Meets l y9 prog_35_method_8_code 5 (some .int) ws ({ frames := 3, cells := 0, slots := 0, locals := 40 } : Room) ({ frames := 3, cells := 0, slots := 0, locals := 40 } : Room).cells ({ frames := 3, cells := 0, slots := 0, locals := 40 } : Room).slots Z #[(.ref a1), (.ref a2)] h0 n0 (Q92s Z a1 a2 kr kk k1 x y c0 c1 h0 n0) := by
  refine Meets.of (F := fun m => mkF m 0 #[.val (.ref a1), .val (.ref a2), .unset, .unset, .unset] []) (plainFor_of_name pn_5) (fun m => ef_92s m a1 a2) ?_
  intro p e s m below meth c T0 hx hby hml hown0 hnm hret hlk hZ X0 e0
  have hown : s.vm.findClass cT = some m.cls := hown0
  have N0 := Fr.nil n0
  show Goes _ _ _ _ _ _ (T0.setTop (mkF m 0 #[.val (.ref a1), .val (.ref a2), .unset, .unset, .unset] []))
  refine own_iconst X0 hx (v := (0 : Int32)) (hb hby d9_0) rfl ?_
  refine own_istoreN X0 hx (Ls' := #[.val (.ref a1), .val (.ref a2), .val (.int (0 : Int32)), .unset, .unset]) (hb hby d9_1) rfl ?_
  refine own_aloadN X0 hx (hb hby d9_2) rfl rfl ?_
  refine own_getFR X0 hx hZ hown (own_w hw 68 rfl) e0 f1 (hb hby d9_3) ?_
  refine own_istoreN X0 hx (Ls' := #[.val (.ref a1), .val (.ref a2), .val (.int (0 : Int32)), .val (.int (2 : Int32)), .unset]) (hb hby d9_6) rfl ?_
  refine own_iloadN X0 hx (hb hby d9_7) rfl ?_
  refine own_iloadN X0 hx (hb hby d9_8) rfl ?_
  refine own_icmpNo X0 hx (hb hby d9_9) (tlt (by decide : (0 : Int32) < (2 : Int32))).2.1 ?_
  refine own_iloadN X0 hx (hb hby d9_12) rfl ?_
  refine own_iloadN X0 hx (hb hby d9_13) rfl ?_
  refine own_iadd X0 hx (hb hby d9_14) ?_
  rw [show ((0 : Int32) + (2 : Int32)) = (2 : Int32) by decide]
  refine own_iconst X0 hx (v := (1 : Int32)) (hb hby d9_15) rfl ?_
  refine own_iushr X0 hx (hb hby d9_16) ?_
  show Goes _ _ _ _ _ _ (T0.setTop (mkF m 17 #[.val (.ref a1), .val (.ref a2), .val (.int (0 : Int32)), .val (.int (2 : Int32)), .unset] [(.int (((2 : Int32).toUInt32 >>> ((1 : Int32) &&& 31).toUInt32).toInt32))]))
  rw [show (((2 : Int32).toUInt32 >>> ((1 : Int32) &&& 31).toUInt32).toInt32) = (1 : Int32) by decide]
  refine own_istore X0 hx (Ls' := #[.val (.ref a1), .val (.ref a2), .val (.int (0 : Int32)), .val (.int (2 : Int32)), .val (.int (1 : Int32))]) (hb hby d9_17) rfl ?_
  refine own_aloadN X0 hx (hb hby d9_19) rfl rfl ?_
  refine own_getFR X0 hx hZ hown (own_w hw 135 rfl) e0 f0 (hb hby d9_20) ?_
  refine own_iload X0 hx (hb hby d9_23) rfl ?_
  refine own_aaload X0 hx hZ e0 f2 rfl ⟨by decide, by decide⟩ (v := (.ref k1)) rfl (hb hby d9_25) ?_
  refine own_aloadN X0 hx (hb hby d9_26) rfl rfl ?_
  refine own_callS X0 hx hZ hown (y := y18) (own_w hw 136 rfl) (own_w hw 137 rfl) (own_w hw 138 rfl) (own_w hw 139 rfl) (by decide) (W := 0) (by decide) (by decide) N0 e0 (by rw [hml]; rfl) (argsL := [(.ref k1), (.ref a2)]) (rest := []) (lenOf pd_6 rfl) (Nat.le_of_eq rfl) (by decide) (by decide) (rm18d l Z a0 hw [] k1 a2 c1 c0 y x h0 n0 O0 f4 f3 f5 hyx) rfl (hb hby d9_27) ?_
  intro v1 T1 lc1 X1 N1 hQ1
  obtain ⟨rfl, e1⟩ := hQ1
  refine own_ifYes X1 hx (pc' := 41) (hb hby d9_30) ((if0 _ _).trans (flt (hlt : ¬ (((y &&& (255 : Int32)) - (x &&& (255 : Int32))) < (0 : Int32)))).2.1) (by decide) (by decide) ?_
  refine own_iload X1 hx (hb hby d9_41) rfl ?_
  refine own_istoreN X1 hx (Ls' := #[.val (.ref a1), .val (.ref a2), .val (.int (0 : Int32)), .val (.int (1 : Int32)), .val (.int (1 : Int32))]) (hb hby d9_43) rfl ?_
  refine own_goto X1 hx (pc' := 7) (hb hby d9_44) (by decide) (by decide) ?_
  refine own_iloadN X1 hx (hb hby d9_7) rfl ?_
  refine own_iloadN X1 hx (hb hby d9_8) rfl ?_
  refine own_icmpNo X1 hx (hb hby d9_9) (tlt (by decide : (0 : Int32) < (1 : Int32))).2.1 ?_
  refine own_iloadN X1 hx (hb hby d9_12) rfl ?_
  refine own_iloadN X1 hx (hb hby d9_13) rfl ?_
  refine own_iadd X1 hx (hb hby d9_14) ?_
  rw [show ((0 : Int32) + (1 : Int32)) = (1 : Int32) by decide]
  refine own_iconst X1 hx (v := (1 : Int32)) (hb hby d9_15) rfl ?_
  refine own_iushr X1 hx (hb hby d9_16) ?_
  show Goes _ _ _ _ _ _ (T1.setTop (mkF m 17 #[.val (.ref a1), .val (.ref a2), .val (.int (0 : Int32)), .val (.int (1 : Int32)), .val (.int (1 : Int32))] [(.int (((1 : Int32).toUInt32 >>> ((1 : Int32) &&& 31).toUInt32).toInt32))]))
  rw [show (((1 : Int32).toUInt32 >>> ((1 : Int32) &&& 31).toUInt32).toInt32) = (0 : Int32) by decide]
  refine own_istore X1 hx (Ls' := #[.val (.ref a1), .val (.ref a2), .val (.int (0 : Int32)), .val (.int (1 : Int32)), .val (.int (0 : Int32))]) (hb hby d9_17) rfl ?_
  refine own_aloadN X1 hx (hb hby d9_19) rfl rfl ?_
  refine own_getFR X1 hx hZ hown (own_w hw 135 rfl) e1 f0 (hb hby d9_20) ?_
  refine own_iload X1 hx (hb hby d9_23) rfl ?_
  refine own_aaload X1 hx hZ e1 f2 rfl ⟨by decide, by decide⟩ (v := (.ref a2)) rfl (hb hby d9_25) ?_
  refine own_aloadN X1 hx (hb hby d9_26) rfl rfl ?_
  refine own_callS X1 hx hZ hown (y := y18) (own_w hw 136 rfl) (own_w hw 137 rfl) (own_w hw 138 rfl) (own_w hw 139 rfl) (by decide) (W := 0) (by decide) (by decide) N1 e1 (by rw [hml]; rfl) (argsL := [(.ref a2), (.ref a2)]) (rest := []) (lenOf pd_6 rfl) (Nat.le_of_eq rfl) (by decide) (by decide) (rm18s l Z a0 hw [] a2 a2 h0 n0 O0) rfl (hb hby d9_27) ?_
  intro v2 T2 lc2 X2 N2 hQ2
  obtain ⟨rfl, e2⟩ := hQ2
  refine own_ifYes X2 hx (pc' := 41) (hb hby d9_30) ((if0 _ _).trans (flt (by decide : ¬ ((0 : Int32) < (0 : Int32)))).2.1) (by decide) (by decide) ?_
  refine own_iload X2 hx (hb hby d9_41) rfl ?_
  refine own_istoreN X2 hx (Ls' := #[.val (.ref a1), .val (.ref a2), .val (.int (0 : Int32)), .val (.int (0 : Int32)), .val (.int (0 : Int32))]) (hb hby d9_43) rfl ?_
  refine own_goto X2 hx (pc' := 7) (hb hby d9_44) (by decide) (by decide) ?_
  refine own_iloadN X2 hx (hb hby d9_7) rfl ?_
  refine own_iloadN X2 hx (hb hby d9_8) rfl ?_
  refine own_icmpYes X2 hx (pc' := 47) (hb hby d9_9) (flt (by decide : ¬ ((0 : Int32) < (0 : Int32)))).2.1 (by decide) (by decide) ?_
  refine own_iloadN X2 hx (hb hby d9_47) rfl ?_
  show Goes _ _ _ _ _ _ (T2.setTop (mkF m 48 #[.val (.ref a1), .val (.ref a2), .val (.int (0 : Int32)), .val (.int (0 : Int32)), .val (.int (0 : Int32))] [(.int (0 : Int32))]))
  exact own_retI X2 hx N2 hlk (by decide) (by decide) hret (hb hby d9_48) (by rw [e2]; exact ⟨(congrArg (fun z => some (Value.int z)) (by decide)), rfl⟩)
def Q92t (Z : State) (a1 : Addr) (a2 : Addr) (kr : Addr) (kk : ClassId) (k0 : Addr) (x : Int32) (y : Int32) (c0 : ClassId) (c1 : ClassId) (h0 : Heap) (n0 : Nat) (v : Option Value) (h : Heap) : Prop :=
  (v = some (.int (1 : Int32)) ∧ h = h0)
theorem ef_92t (m : MethodId) (a1 : Addr) (a2 : Addr) : entryFrame m #[(.ref a1), (.ref a2)] 5 = mkF m 0 #[.val (.ref a1), .val (.ref a2), .unset, .unset, .unset] [] := by first | (simp [entryFrame, mkF, argsToLocals, Value.category]; done) | rfl
set_option maxRecDepth 65536 in
set_option maxHeartbeats 40000000 in
theorem rm92t (l : Launch) (Z : State) (a0 : Array Value) (hw : ∀ d ∈ tables_1, d.before a0 Z = true) (ws : List Jvm.Cond) (a1 : Addr) (a2 : Addr) (kr : Addr) (kk : ClassId) (k0 : Addr) (x : Int32) (y : Int32) (c0 : ClassId) (c1 : ClassId) (h0 : Heap) (n0 : Nat) (O0 : Old Z n0 h0) (f0 : Fld Z h0 a1 cN "keys" "[[B" (.ref kr)) (f1 : Fld Z h0 a1 cN "size" "I" (.int (2 : Int32))) (f2 : Arv Z h0 kr kk (.array .byte) (64 : Int32) [(.ref k0), (.ref a2), .null] .null) (f3 : Arv Z h0 a2 c0 .byte (1 : Int32) [(.int x)] (.int (0 : Int32))) (f4 : Arv Z h0 k0 c1 .byte (1 : Int32) [(.int y)] (.int (0 : Int32))) (f5 : k0 ≠ a2) (hyx : ¬ (y = x)) (hlt : ((y &&& (255 : Int32)) - (x &&& (255 : Int32))) < (0 : Int32)) :
    Meets l y9 prog_35_method_8_code 5 (some .int) ws ({ frames := 3, cells := 0, slots := 0, locals := 40 } : Room) ({ frames := 3, cells := 0, slots := 0, locals := 40 } : Room).cells ({ frames := 3, cells := 0, slots := 0, locals := 40 } : Room).slots Z #[(.ref a1), (.ref a2)] h0 n0 (Q92t Z a1 a2 kr kk k0 x y c0 c1 h0 n0) := by
  refine Meets.of (F := fun m => mkF m 0 #[.val (.ref a1), .val (.ref a2), .unset, .unset, .unset] []) (plainFor_of_name pn_5) (fun m => ef_92t m a1 a2) ?_
  intro p e s m below meth c T0 hx hby hml hown0 hnm hret hlk hZ X0 e0
  have hown : s.vm.findClass cT = some m.cls := hown0
  have N0 := Fr.nil n0
  show Goes _ _ _ _ _ _ (T0.setTop (mkF m 0 #[.val (.ref a1), .val (.ref a2), .unset, .unset, .unset] []))
  refine own_iconst X0 hx (v := (0 : Int32)) (hb hby d9_0) rfl ?_
  refine own_istoreN X0 hx (Ls' := #[.val (.ref a1), .val (.ref a2), .val (.int (0 : Int32)), .unset, .unset]) (hb hby d9_1) rfl ?_
  refine own_aloadN X0 hx (hb hby d9_2) rfl rfl ?_
  refine own_getFR X0 hx hZ hown (own_w hw 68 rfl) e0 f1 (hb hby d9_3) ?_
  refine own_istoreN X0 hx (Ls' := #[.val (.ref a1), .val (.ref a2), .val (.int (0 : Int32)), .val (.int (2 : Int32)), .unset]) (hb hby d9_6) rfl ?_
  refine own_iloadN X0 hx (hb hby d9_7) rfl ?_
  refine own_iloadN X0 hx (hb hby d9_8) rfl ?_
  refine own_icmpNo X0 hx (hb hby d9_9) (tlt (by decide : (0 : Int32) < (2 : Int32))).2.1 ?_
  refine own_iloadN X0 hx (hb hby d9_12) rfl ?_
  refine own_iloadN X0 hx (hb hby d9_13) rfl ?_
  refine own_iadd X0 hx (hb hby d9_14) ?_
  rw [show ((0 : Int32) + (2 : Int32)) = (2 : Int32) by decide]
  refine own_iconst X0 hx (v := (1 : Int32)) (hb hby d9_15) rfl ?_
  refine own_iushr X0 hx (hb hby d9_16) ?_
  show Goes _ _ _ _ _ _ (T0.setTop (mkF m 17 #[.val (.ref a1), .val (.ref a2), .val (.int (0 : Int32)), .val (.int (2 : Int32)), .unset] [(.int (((2 : Int32).toUInt32 >>> ((1 : Int32) &&& 31).toUInt32).toInt32))]))
  rw [show (((2 : Int32).toUInt32 >>> ((1 : Int32) &&& 31).toUInt32).toInt32) = (1 : Int32) by decide]
  refine own_istore X0 hx (Ls' := #[.val (.ref a1), .val (.ref a2), .val (.int (0 : Int32)), .val (.int (2 : Int32)), .val (.int (1 : Int32))]) (hb hby d9_17) rfl ?_
  refine own_aloadN X0 hx (hb hby d9_19) rfl rfl ?_
  refine own_getFR X0 hx hZ hown (own_w hw 135 rfl) e0 f0 (hb hby d9_20) ?_
  refine own_iload X0 hx (hb hby d9_23) rfl ?_
  refine own_aaload X0 hx hZ e0 f2 rfl ⟨by decide, by decide⟩ (v := (.ref a2)) rfl (hb hby d9_25) ?_
  refine own_aloadN X0 hx (hb hby d9_26) rfl rfl ?_
  refine own_callS X0 hx hZ hown (y := y18) (own_w hw 136 rfl) (own_w hw 137 rfl) (own_w hw 138 rfl) (own_w hw 139 rfl) (by decide) (W := 0) (by decide) (by decide) N0 e0 (by rw [hml]; rfl) (argsL := [(.ref a2), (.ref a2)]) (rest := []) (lenOf pd_6 rfl) (Nat.le_of_eq rfl) (by decide) (by decide) (rm18s l Z a0 hw [] a2 a2 h0 n0 O0) rfl (hb hby d9_27) ?_
  intro v1 T1 lc1 X1 N1 hQ1
  obtain ⟨rfl, e1⟩ := hQ1
  refine own_ifYes X1 hx (pc' := 41) (hb hby d9_30) ((if0 _ _).trans (flt (by decide : ¬ ((0 : Int32) < (0 : Int32)))).2.1) (by decide) (by decide) ?_
  refine own_iload X1 hx (hb hby d9_41) rfl ?_
  refine own_istoreN X1 hx (Ls' := #[.val (.ref a1), .val (.ref a2), .val (.int (0 : Int32)), .val (.int (1 : Int32)), .val (.int (1 : Int32))]) (hb hby d9_43) rfl ?_
  refine own_goto X1 hx (pc' := 7) (hb hby d9_44) (by decide) (by decide) ?_
  refine own_iloadN X1 hx (hb hby d9_7) rfl ?_
  refine own_iloadN X1 hx (hb hby d9_8) rfl ?_
  refine own_icmpNo X1 hx (hb hby d9_9) (tlt (by decide : (0 : Int32) < (1 : Int32))).2.1 ?_
  refine own_iloadN X1 hx (hb hby d9_12) rfl ?_
  refine own_iloadN X1 hx (hb hby d9_13) rfl ?_
  refine own_iadd X1 hx (hb hby d9_14) ?_
  rw [show ((0 : Int32) + (1 : Int32)) = (1 : Int32) by decide]
  refine own_iconst X1 hx (v := (1 : Int32)) (hb hby d9_15) rfl ?_
  refine own_iushr X1 hx (hb hby d9_16) ?_
  show Goes _ _ _ _ _ _ (T1.setTop (mkF m 17 #[.val (.ref a1), .val (.ref a2), .val (.int (0 : Int32)), .val (.int (1 : Int32)), .val (.int (1 : Int32))] [(.int (((1 : Int32).toUInt32 >>> ((1 : Int32) &&& 31).toUInt32).toInt32))]))
  rw [show (((1 : Int32).toUInt32 >>> ((1 : Int32) &&& 31).toUInt32).toInt32) = (0 : Int32) by decide]
  refine own_istore X1 hx (Ls' := #[.val (.ref a1), .val (.ref a2), .val (.int (0 : Int32)), .val (.int (1 : Int32)), .val (.int (0 : Int32))]) (hb hby d9_17) rfl ?_
  refine own_aloadN X1 hx (hb hby d9_19) rfl rfl ?_
  refine own_getFR X1 hx hZ hown (own_w hw 135 rfl) e1 f0 (hb hby d9_20) ?_
  refine own_iload X1 hx (hb hby d9_23) rfl ?_
  refine own_aaload X1 hx hZ e1 f2 rfl ⟨by decide, by decide⟩ (v := (.ref k0)) rfl (hb hby d9_25) ?_
  refine own_aloadN X1 hx (hb hby d9_26) rfl rfl ?_
  refine own_callS X1 hx hZ hown (y := y18) (own_w hw 136 rfl) (own_w hw 137 rfl) (own_w hw 138 rfl) (own_w hw 139 rfl) (by decide) (W := 0) (by decide) (by decide) N1 e1 (by rw [hml]; rfl) (argsL := [(.ref k0), (.ref a2)]) (rest := []) (lenOf pd_6 rfl) (Nat.le_of_eq rfl) (by decide) (by decide) (rm18d l Z a0 hw [] k0 a2 c1 c0 y x h0 n0 O0 f4 f3 f5 hyx) rfl (hb hby d9_27) ?_
  intro v2 T2 lc2 X2 N2 hQ2
  obtain ⟨rfl, e2⟩ := hQ2
  refine own_ifNo X2 hx (hb hby d9_30) ((if0 _ _).trans (tlt (hlt : ((y &&& (255 : Int32)) - (x &&& (255 : Int32))) < (0 : Int32))).2.1) ?_
  refine own_iload X2 hx (hb hby d9_33) rfl ?_
  refine own_iconst X2 hx (v := (1 : Int32)) (hb hby d9_35) rfl ?_
  refine own_iadd X2 hx (hb hby d9_36) ?_
  rw [show ((0 : Int32) + (1 : Int32)) = (1 : Int32) by decide]
  refine own_istoreN X2 hx (Ls' := #[.val (.ref a1), .val (.ref a2), .val (.int (1 : Int32)), .val (.int (1 : Int32)), .val (.int (0 : Int32))]) (hb hby d9_37) rfl ?_
  refine own_goto X2 hx (pc' := 44) (hb hby d9_38) (by decide) (by decide) ?_
  refine own_goto X2 hx (pc' := 7) (hb hby d9_44) (by decide) (by decide) ?_
  refine own_iloadN X2 hx (hb hby d9_7) rfl ?_
  refine own_iloadN X2 hx (hb hby d9_8) rfl ?_
  refine own_icmpYes X2 hx (pc' := 47) (hb hby d9_9) (flt (by decide : ¬ ((1 : Int32) < (1 : Int32)))).2.1 (by decide) (by decide) ?_
  refine own_iloadN X2 hx (hb hby d9_47) rfl ?_
  show Goes _ _ _ _ _ _ (T2.setTop (mkF m 48 #[.val (.ref a1), .val (.ref a2), .val (.int (1 : Int32)), .val (.int (1 : Int32)), .val (.int (0 : Int32))] [(.int (1 : Int32))]))
  exact own_retI X2 hx N2 hlk (by decide) (by decide) hret (hb hby d9_48) (by rw [e2]; exact ⟨(congrArg (fun z => some (Value.int z)) (by decide)), rfl⟩)
theorem d11_0 : decode prog_36_method_4_code 0 = .ok (.aload_n 0, 1) := by decide +kernel
theorem d11_1 : decode prog_36_method_4_code 1 = .ok (.getfield 17, 3) := by decide +kernel
theorem d11_4 : decode prog_36_method_4_code 4 = .ok (.iload_n 1, 1) := by decide +kernel
theorem d11_5 : decode prog_36_method_4_code 5 = .ok (.aload_n 0, 1) := by decide +kernel
theorem d11_6 : decode prog_36_method_4_code 6 = .ok (.getfield 17, 3) := by decide +kernel
theorem d11_9 : decode prog_36_method_4_code 9 = .ok (.iload_n 1, 1) := by decide +kernel
theorem d11_10 : decode prog_36_method_4_code 10 = .ok (.iconst 1, 1) := by decide +kernel
theorem d11_11 : decode prog_36_method_4_code 11 = .ok (.iadd, 1) := by decide +kernel
theorem d11_12 : decode prog_36_method_4_code 12 = .ok (.aload_n 0, 1) := by decide +kernel
theorem d11_13 : decode prog_36_method_4_code 13 = .ok (.getfield 32, 3) := by decide +kernel
theorem d11_16 : decode prog_36_method_4_code 16 = .ok (.iload_n 1, 1) := by decide +kernel
theorem d11_17 : decode prog_36_method_4_code 17 = .ok (.isub, 1) := by decide +kernel
theorem d11_18 : decode prog_36_method_4_code 18 = .ok (.invokestatic 36, 3) := by decide +kernel
theorem d11_21 : decode prog_36_method_4_code 21 = .ok (.aload_n 0, 1) := by decide +kernel
theorem d11_22 : decode prog_36_method_4_code 22 = .ok (.getfield 17, 3) := by decide +kernel
theorem d11_25 : decode prog_36_method_4_code 25 = .ok (.iload_n 1, 1) := by decide +kernel
theorem d11_26 : decode prog_36_method_4_code 26 = .ok (.aload_n 2, 1) := by decide +kernel
theorem d11_27 : decode prog_36_method_4_code 27 = .ok (.aastore, 1) := by decide +kernel
theorem d11_28 : decode prog_36_method_4_code 28 = .ok (.aload_n 0, 1) := by decide +kernel
theorem d11_29 : decode prog_36_method_4_code 29 = .ok (.getfield 21, 3) := by decide +kernel
theorem d11_32 : decode prog_36_method_4_code 32 = .ok (.ifnull 31, 3) := by decide +kernel
theorem d11_63 : decode prog_36_method_4_code 63 = .ok (.aload_n 0, 1) := by decide +kernel
theorem d11_64 : decode prog_36_method_4_code 64 = .ok (.dup, 1) := by decide +kernel
theorem d11_65 : decode prog_36_method_4_code 65 = .ok (.getfield 32, 3) := by decide +kernel
theorem d11_68 : decode prog_36_method_4_code 68 = .ok (.iconst 1, 1) := by decide +kernel
theorem d11_69 : decode prog_36_method_4_code 69 = .ok (.iadd, 1) := by decide +kernel
theorem d11_70 : decode prog_36_method_4_code 70 = .ok (.putfield 32, 3) := by decide +kernel
theorem d11_73 : decode prog_36_method_4_code 73 = .ok (.return_, 1) := by decide +kernel
def Q1100 (Z : State) (a1 : Addr) (a3 : Addr) (ed : Int64) (kr : Addr) (kk : ClassId) (h0 : Heap) (n0 : Nat) (v : Option Value) (h : Heap) : Prop :=
  (v = none ∧ Keep h0 h [a1, kr] ∧ Exa Z h a1 cN ∧ Fld Z h a1 cN "edit" "J" (.long ed) ∧ Fld Z h a1 cN "keys" "[[B" (.ref kr) ∧ Fld Z h a1 cN "children" dA .null ∧ Fld Z h a1 cN "size" "I" (.int (1 : Int32)) ∧ Exa Z h kr "[[B" ∧ Arv Z h kr kk (.array .byte) (64 : Int32) [(.ref a3), .null, .null] .null)
theorem ef_1100 (m : MethodId) (a1 : Addr) (a3 : Addr) : entryFrame m #[(.ref a1), (.int (0 : Int32)), (.ref a3), .null] 4 = mkF m 0 #[.val (.ref a1), .val (.int (0 : Int32)), .val (.ref a3), .val .null] [] := by first | (simp [entryFrame, mkF, argsToLocals, Value.category]; done) | rfl
set_option maxRecDepth 65536 in
set_option maxHeartbeats 40000000 in
theorem rm1100 (l : Launch) (Z : State) (a0 : Array Value) (hw : ∀ d ∈ tables_1, d.before a0 Z = true) (ws : List Jvm.Cond) (a1 : Addr) (a3 : Addr) (ed : Int64) (kr : Addr) (kk : ClassId) (h0 : Heap) (n0 : Nat) (O0 : Old Z n0 h0) (f0 : Exa Z h0 a1 cN) (f1 : Fld Z h0 a1 cN "edit" "J" (.long ed)) (f2 : Fld Z h0 a1 cN "keys" "[[B" (.ref kr)) (f3 : Fld Z h0 a1 cN "children" dA .null) (f4 : Fld Z h0 a1 cN "size" "I" (.int (0 : Int32))) (f5 : Exa Z h0 kr "[[B") (f6 : Arv Z h0 kr kk (.array .byte) (64 : Int32) [.null, .null, .null] .null) (hov : OvrA Z kk .byte "[B") (f8 : Exa Z h0 a3 "[B") (f9 : n0 ≤ a1) (f10 : n0 ≤ kr) :
    Meets l y11 prog_36_method_4_code 4 none ws ({ frames := 1, cells := 0, slots := 0, locals := 18 } : Room) ({ frames := 1, cells := 0, slots := 0, locals := 18 } : Room).cells ({ frames := 1, cells := 0, slots := 0, locals := 18 } : Room).slots Z #[(.ref a1), (.int (0 : Int32)), (.ref a3), .null] h0 n0 (Q1100 Z a1 a3 ed kr kk h0 n0) := by
  refine Meets.of (F := fun m => mkF m 0 #[.val (.ref a1), .val (.int (0 : Int32)), .val (.ref a3), .val .null] []) (plainFor_of_name pn_4) (fun m => ef_1100 m a1 a3) ?_
  intro p e s m below meth c T0 hx hby hml hown0 hnm hret hlk hZ X0 e0
  have hown : s.vm.findClass cN = some m.cls := hown0
  have N0 := Fr.nil n0
  have KC0 := Keep.refl h0 [a1, kr]
  show Goes _ _ _ _ _ _ (T0.setTop (mkF m 0 #[.val (.ref a1), .val (.int (0 : Int32)), .val (.ref a3), .val .null] []))
  refine own_aloadN X0 hx (hb hby d11_0) rfl rfl ?_
  refine own_getF X0 hx hZ hown (host := "") (Or.inl (own_w hw 23 rfl)) Via.refl e0 f2 (hb hby d11_1) (fun T1 X1 e1 => ?_)
  refine own_iloadN X1 hx (hb hby d11_4) rfl ?_
  refine own_aloadN X1 hx (hb hby d11_5) rfl rfl ?_
  refine own_getF X1 hx hZ hown (host := "") (Or.inl (own_w hw 23 rfl)) Via.refl e1 f2 (hb hby d11_6) (fun T2 X2 e2 => ?_)
  refine own_iloadN X2 hx (hb hby d11_9) rfl ?_
  refine own_iconst X2 hx (v := (1 : Int32)) (hb hby d11_10) rfl ?_
  refine own_iadd X2 hx (hb hby d11_11) ?_
  rw [show ((0 : Int32) + (1 : Int32)) = (1 : Int32) by decide]
  refine own_aloadN X2 hx (hb hby d11_12) rfl rfl ?_
  refine own_getF X2 hx hZ hown (host := "") (Or.inl (own_w hw 55 rfl)) Via.refl e2 f4 (hb hby d11_13) (fun T3 X3 e3 => ?_)
  refine own_iloadN X3 hx (hb hby d11_16) rfl ?_
  refine own_isub X3 hx (hb hby d11_17) ?_
  rw [show ((0 : Int32) - (0 : Int32)) = (0 : Int32) by decide]
  obtain ⟨cl4, Ar4, q4, -⟩ := id f6
  refine own_cpA X3 hx hZ hown (own_w hw 77 rfl) (own_w hw 80 rfl) (own_w hw 78 rfl) (own_w hw 79 rfl) e3 f6 f6 (us := []) (vr := [.null, .null, .null]) (Or.inr ⟨rfl, rfl, trivial⟩) (by decide) (by decide) (by decide) (by decide) (by decide) rfl (Nat.le_of_ble_eq_true rfl) rfl N0 f10 (by rw [hml]; rfl) (hb hby d11_18) (by decide) (W := 0) (Nat.le_of_eq rfl) (by decide) (fun T4 h4 lc4 X4 e4 N4 K4 V4 => ?_)
  have E5_a1 := f0.keep K4
  have E5_kr := f5.keep K4
  have E5_a3 := f8.keep K4
  have F5_edit_a1 := f1.keep K4 (ninS (ne_exa f0 f5 (by decide)) nin0)
  have F5_keys_a1 := f2.keep K4 (ninS (ne_exa f0 f5 (by decide)) nin0)
  have F5_children_a1 := f3.keep K4 (ninS (ne_exa f0 f5 (by decide)) nin0)
  have F5_size_a1 := f4.keep K4 (ninS (ne_exa f0 f5 (by decide)) nin0)
  have O5 := O0.keep K4 (allS f10 all0)
  have KC5 := KC0.trans K4 (allS (Or.inl (List.mem_of_getElem? (i := 1) rfl)) all0)
  refine own_aloadN X4 hx (hb hby d11_21) rfl rfl ?_
  refine own_getF X4 hx hZ hown (host := "") (Or.inl (own_w hw 23 rfl)) Via.refl e4 F5_keys_a1 (hb hby d11_22) (fun T6 X6 e6 => ?_)
  refine own_iloadN X6 hx (hb hby d11_25) rfl ?_
  refine own_aloadN X6 hx (hb hby d11_26) rfl rfl ?_
  refine own_aastore X6 hx hZ N4 e6 V4 rfl rfl ⟨by decide, by decide⟩ (i := 0) rfl (by first | decide | (simp; done)) f10 (fun _ Ar q => Sto.ofVA Ar q hov (Ins.self E5_a3)) (hb hby d11_27) (fun T7 h7 lc7 X7 e7 N7 W7 V7 => ?_)
  have E8_a1 := E5_a1.wr W7
  have E8_kr := E5_kr.wr W7
  have F8_edit_a1 := F5_edit_a1.other W7 (Or.inl (ne_exa E5_a1 E5_kr (by decide)))
  have F8_keys_a1 := F5_keys_a1.other W7 (Or.inl (ne_exa E5_a1 E5_kr (by decide)))
  have F8_children_a1 := F5_children_a1.other W7 (Or.inl (ne_exa E5_a1 E5_kr (by decide)))
  have F8_size_a1 := F5_size_a1.other W7 (Or.inl (ne_exa E5_a1 E5_kr (by decide)))
  have O8 := O5.wr W7 f10
  have KC8 := KC5.wr W7 (Or.inl (List.mem_of_getElem? (i := 1) rfl))
  have V7' : Arv Z h7 kr kk (.array .byte) (64 : Int32) [(.ref a3), .null, .null] .null := V7
  refine own_aloadN X7 hx (hb hby d11_28) rfl rfl ?_
  refine own_getF X7 hx hZ hown (host := "") (Or.inl (own_w hw 25 rfl)) Via.refl e7 F8_children_a1 (hb hby d11_29) (fun T9 X9 e9 => ?_)
  refine own_ifnullYes X9 hx (pc' := 63) (hb hby d11_32) (by decide) (by decide) ?_
  refine own_aloadN X9 hx (hb hby d11_63) rfl rfl ?_
  refine own_dup X9 hx (hb hby d11_64) rfl ?_
  refine own_getF X9 hx hZ hown (host := "") (Or.inl (own_w hw 55 rfl)) Via.refl e9 F8_size_a1 (hb hby d11_65) (fun T10 X10 e10 => ?_)
  refine own_iconst X10 hx (v := (1 : Int32)) (hb hby d11_68) rfl ?_
  refine own_iadd X10 hx (hb hby d11_69) ?_
  rw [show ((0 : Int32) + (1 : Int32)) = (1 : Int32) by decide]
  refine own_putF X10 hx hZ hown N7 (host := "") (Or.inl (own_w hw 55 rfl)) Via.refl e10 F8_size_a1 E8_a1 (Or.inl (own_w hw 56 rfl)) (own_w hw 13 rfl) (ty := .int) (by decide) rfl rfl f9 (hb hby d11_70) (fun T11 h11 lc11 X11 e11 N11 W11 => ?_)
  have E12_a1 := E8_a1.wr W11
  have E12_kr := E8_kr.wr W11
  have F12_edit_a1 := F8_edit_a1.other W11 (Or.inr (slot_ne (Or.inr (own_w hw 20 rfl)) (Or.inl (own_w hw 56 rfl)) (by decide) (t := .long) (t' := .int) (by decide) (by decide)))
  have F12_keys_a1 := F8_keys_a1.other W11 (Or.inr (slot_ne (Or.inr (own_w hw 24 rfl)) (Or.inl (own_w hw 56 rfl)) (by decide) (t := (.array (.array .byte))) (t' := .int) (by decide) (by decide)))
  have F12_children_a1 := F8_children_a1.other W11 (Or.inr (slot_ne (Or.inr (own_w hw 26 rfl)) (Or.inl (own_w hw 56 rfl)) (by decide) (t := (.array (.object cN))) (t' := .int) (by decide) (by decide)))
  have F12_size_a1 := F8_size_a1.same W11
  have A12_kr := V7'.other W11 (ne_exa E8_kr E8_a1 (by decide))
  have O12 := O8.wr W11 f9
  have KC12 := KC8.wr W11 (Or.inl (List.mem_of_getElem? (i := 0) rfl))
  show Goes _ _ _ _ _ _ (T11.setTop (mkF m 73 #[.val (.ref a1), .val (.int (0 : Int32)), .val (.ref a3), .val .null] []))
  exact own_retV X11 hx N11 hlk (by decide) (by decide) hret (hb hby d11_73) (by rw [e11]; exact ⟨rfl, KC12, E12_a1, F12_edit_a1, F12_keys_a1, F12_children_a1, F12_size_a1, E12_kr, A12_kr⟩)
theorem d10_0 : decode prog_35_method_12_code 0 = .ok (.aload_n 1, 1) := by decide +kernel
theorem d10_1 : decode prog_35_method_12_code 1 = .ok (.getfield 53, 3) := by decide +kernel
theorem d10_4 : decode prog_35_method_12_code 4 = .ok (.bipush 64, 2) := by decide +kernel
theorem d10_6 : decode prog_35_method_12_code 6 = .ok (.if_icmp .ge 13, 3) := by decide +kernel
theorem d10_9 : decode prog_35_method_12_code 9 = .ok (.aload_n 1, 1) := by decide +kernel
theorem d10_10 : decode prog_35_method_12_code 10 = .ok (.iload_n 2, 1) := by decide +kernel
theorem d10_11 : decode prog_35_method_12_code 11 = .ok (.aload_n 3, 1) := by decide +kernel
theorem d10_12 : decode prog_35_method_12_code 12 = .ok (.aload 4, 2) := by decide +kernel
theorem d10_14 : decode prog_35_method_12_code 14 = .ok (.invokevirtual 37, 3) := by decide +kernel
theorem pd_7 : parseMethodDescriptor "(I[BLcom/example/contention/contention/KeyTree$Node;)V" = some ⟨[.int, (.array .byte), (.object cN)], none⟩ := by decide +kernel
theorem d10_17 : decode prog_35_method_12_code 17 = .ok (.aconst_null, 1) := by decide +kernel
theorem d10_18 : decode prog_35_method_12_code 18 = .ok (.areturn, 1) := by decide +kernel
def Q1000 (Z : State) (a1 : Addr) (a2 : Addr) (a4 : Addr) (ed : Int64) (kr : Addr) (kk : ClassId) (h0 : Heap) (n0 : Nat) (v : Option Value) (h : Heap) : Prop :=
  (v = some .null ∧ Keep h0 h [a2, kr] ∧ Exa Z h a2 cN ∧ Fld Z h a2 cN "edit" "J" (.long ed) ∧ Fld Z h a2 cN "keys" "[[B" (.ref kr) ∧ Fld Z h a2 cN "children" dA .null ∧ Fld Z h a2 cN "size" "I" (.int (1 : Int32)) ∧ Exa Z h kr "[[B" ∧ Arv Z h kr kk (.array .byte) (64 : Int32) [(.ref a4), .null, .null] .null)
theorem ef_1000 (m : MethodId) (a1 : Addr) (a2 : Addr) (a4 : Addr) : entryFrame m #[(.ref a1), (.ref a2), (.int (0 : Int32)), (.ref a4), .null] 7 = mkF m 0 #[.val (.ref a1), .val (.ref a2), .val (.int (0 : Int32)), .val (.ref a4), .val .null, .unset, .unset] [] := by first | (simp [entryFrame, mkF, argsToLocals, Value.category]; done) | rfl
set_option maxRecDepth 65536 in
set_option maxHeartbeats 40000000 in
theorem rm1000 (l : Launch) (Z : State) (a0 : Array Value) (hw : ∀ d ∈ tables_1, d.before a0 Z = true) (ws : List Jvm.Cond) (a1 : Addr) (a2 : Addr) (a4 : Addr) (ed : Int64) (kr : Addr) (kk : ClassId) (h0 : Heap) (n0 : Nat) (O0 : Old Z n0 h0) (f0 : Exa Z h0 a2 cN) (f1 : Fld Z h0 a2 cN "edit" "J" (.long ed)) (f2 : Fld Z h0 a2 cN "keys" "[[B" (.ref kr)) (f3 : Fld Z h0 a2 cN "children" dA .null) (f4 : Fld Z h0 a2 cN "size" "I" (.int (0 : Int32))) (f5 : Exa Z h0 kr "[[B") (f6 : Arv Z h0 kr kk (.array .byte) (64 : Int32) [.null, .null, .null] .null) (hov : OvrA Z kk .byte "[B") (f8 : Exa Z h0 a4 "[B") (f9 : n0 ≤ a2) (f10 : n0 ≤ kr) :
    Meets l y10 prog_35_method_12_code 7 (some (.object cN)) ws ({ frames := 2, cells := 0, slots := 0, locals := 33 } : Room) ({ frames := 2, cells := 0, slots := 0, locals := 33 } : Room).cells ({ frames := 2, cells := 0, slots := 0, locals := 33 } : Room).slots Z #[(.ref a1), (.ref a2), (.int (0 : Int32)), (.ref a4), .null] h0 n0 (Q1000 Z a1 a2 a4 ed kr kk h0 n0) := by
  refine Meets.of (F := fun m => mkF m 0 #[.val (.ref a1), .val (.ref a2), .val (.int (0 : Int32)), .val (.ref a4), .val .null, .unset, .unset] []) (plainFor_of_name pn_5) (fun m => ef_1000 m a1 a2 a4) ?_
  intro p e s m below meth c T0 hx hby hml hown0 hnm hret hlk hZ X0 e0
  have hown : s.vm.findClass cT = some m.cls := hown0
  have N0 := Fr.nil n0
  have KC0 := Keep.refl h0 [a2, kr]
  show Goes _ _ _ _ _ _ (T0.setTop (mkF m 0 #[.val (.ref a1), .val (.ref a2), .val (.int (0 : Int32)), .val (.ref a4), .val .null, .unset, .unset] []))
  refine own_aloadN X0 hx (hb hby d10_0) rfl rfl ?_
  refine own_getFR X0 hx hZ hown (own_w hw 68 rfl) e0 f4 (hb hby d10_1) ?_
  refine own_bipush X0 hx (v := (64 : Int32)) (hb hby d10_4) rfl ?_
  refine own_icmpNo X0 hx (hb hby d10_6) (tlt (by decide : (0 : Int32) < (64 : Int32))).2.1 ?_
  refine own_aloadN X0 hx (hb hby d10_9) rfl rfl ?_
  refine own_iloadN X0 hx (hb hby d10_10) rfl ?_
  refine own_aloadN X0 hx (hb hby d10_11) rfl rfl ?_
  refine own_aload X0 hx (hb hby d10_12) rfl rfl ?_
  refine own_privateR X0 hx hZ hown (y := y11) (own_w hw 73 rfl) (own_w hw 74 rfl) (own_w hw 13 rfl) (own_w hw 75 rfl) (own_w hw 14 rfl) (own_w hw 76 rfl) (a := a2) f0 (by decide) (W := 0) (by decide) (by decide) N0 e0 (by rw [hml]; rfl) (argsL := [(.int (0 : Int32)), (.ref a4), .null]) (rest := []) (lenOf pd_7 rfl) (Nat.le_of_eq rfl) (by decide) (by decide) (rm1100 l Z a0 hw [] a2 a4 ed kr kk h0 n0 O0 f0 f1 f2 f3 f4 f5 f6 hov f8 f9 f10) rfl (hb hby d10_14) ?_
  intro v1 T1 lc1 X1 N1 hQ1
  obtain ⟨rfl, K1, r1_0, r1_1, r1_2, r1_3, r1_4, r1_5, r1_6⟩ := hQ1
  have O2 := O0.keep K1 (allS f9 (allS f10 all0))
  have KC2 := KC0.trans K1 (allS (Or.inl (List.mem_of_getElem? (i := 0) rfl)) (allS (Or.inl (List.mem_of_getElem? (i := 1) rfl)) all0))
  refine own_aconst_null X1 hx (hb hby d10_17) ?_
  show Goes _ _ _ _ _ _ (T1.setTop (mkF m 18 #[.val (.ref a1), .val (.ref a2), .val (.int (0 : Int32)), .val (.ref a4), .val .null, .unset, .unset] [.null]))
  exact own_retR X1 hx N1 hlk (by decide) (by decide) hret rfl rfl rfl (hb hby d10_18) (⟨rfl, KC2, r1_0, r1_1, r1_2, r1_3, r1_4, r1_5, r1_6⟩)
def Q1110 (Z : State) (a1 : Addr) (a3 : Addr) (ed : Int64) (kr : Addr) (kk : ClassId) (k0 : Addr) (h0 : Heap) (n0 : Nat) (v : Option Value) (h : Heap) : Prop :=
  (v = none ∧ Keep h0 h [a1, kr] ∧ Exa Z h a1 cN ∧ Fld Z h a1 cN "edit" "J" (.long ed) ∧ Fld Z h a1 cN "keys" "[[B" (.ref kr) ∧ Fld Z h a1 cN "children" dA .null ∧ Fld Z h a1 cN "size" "I" (.int (2 : Int32)) ∧ Exa Z h kr "[[B" ∧ Arv Z h kr kk (.array .byte) (64 : Int32) [(.ref a3), (.ref k0), .null] .null)
theorem ef_1110 (m : MethodId) (a1 : Addr) (a3 : Addr) : entryFrame m #[(.ref a1), (.int (0 : Int32)), (.ref a3), .null] 4 = mkF m 0 #[.val (.ref a1), .val (.int (0 : Int32)), .val (.ref a3), .val .null] [] := by first | (simp [entryFrame, mkF, argsToLocals, Value.category]; done) | rfl
set_option maxRecDepth 65536 in
set_option maxHeartbeats 40000000 in
theorem rm1110 (l : Launch) (Z : State) (a0 : Array Value) (hw : ∀ d ∈ tables_1, d.before a0 Z = true) (ws : List Jvm.Cond) (a1 : Addr) (a3 : Addr) (ed : Int64) (kr : Addr) (kk : ClassId) (k0 : Addr) (h0 : Heap) (n0 : Nat) (O0 : Old Z n0 h0) (f0 : Exa Z h0 a1 cN) (f1 : Fld Z h0 a1 cN "edit" "J" (.long ed)) (f2 : Fld Z h0 a1 cN "keys" "[[B" (.ref kr)) (f3 : Fld Z h0 a1 cN "children" dA .null) (f4 : Fld Z h0 a1 cN "size" "I" (.int (1 : Int32))) (f5 : Exa Z h0 kr "[[B") (f6 : Arv Z h0 kr kk (.array .byte) (64 : Int32) [(.ref k0), .null, .null] .null) (hov : OvrA Z kk .byte "[B") (f8 : Exa Z h0 a3 "[B") (f9 : n0 ≤ a1) (f10 : n0 ≤ kr) (f11 : Exa Z h0 k0 "[B") :
    Meets l y11 prog_36_method_4_code 4 none ws ({ frames := 1, cells := 0, slots := 0, locals := 18 } : Room) ({ frames := 1, cells := 0, slots := 0, locals := 18 } : Room).cells ({ frames := 1, cells := 0, slots := 0, locals := 18 } : Room).slots Z #[(.ref a1), (.int (0 : Int32)), (.ref a3), .null] h0 n0 (Q1110 Z a1 a3 ed kr kk k0 h0 n0) := by
  refine Meets.of (F := fun m => mkF m 0 #[.val (.ref a1), .val (.int (0 : Int32)), .val (.ref a3), .val .null] []) (plainFor_of_name pn_4) (fun m => ef_1110 m a1 a3) ?_
  intro p e s m below meth c T0 hx hby hml hown0 hnm hret hlk hZ X0 e0
  have hown : s.vm.findClass cN = some m.cls := hown0
  have N0 := Fr.nil n0
  have KC0 := Keep.refl h0 [a1, kr]
  show Goes _ _ _ _ _ _ (T0.setTop (mkF m 0 #[.val (.ref a1), .val (.int (0 : Int32)), .val (.ref a3), .val .null] []))
  refine own_aloadN X0 hx (hb hby d11_0) rfl rfl ?_
  refine own_getF X0 hx hZ hown (host := "") (Or.inl (own_w hw 23 rfl)) Via.refl e0 f2 (hb hby d11_1) (fun T1 X1 e1 => ?_)
  refine own_iloadN X1 hx (hb hby d11_4) rfl ?_
  refine own_aloadN X1 hx (hb hby d11_5) rfl rfl ?_
  refine own_getF X1 hx hZ hown (host := "") (Or.inl (own_w hw 23 rfl)) Via.refl e1 f2 (hb hby d11_6) (fun T2 X2 e2 => ?_)
  refine own_iloadN X2 hx (hb hby d11_9) rfl ?_
  refine own_iconst X2 hx (v := (1 : Int32)) (hb hby d11_10) rfl ?_
  refine own_iadd X2 hx (hb hby d11_11) ?_
  rw [show ((0 : Int32) + (1 : Int32)) = (1 : Int32) by decide]
  refine own_aloadN X2 hx (hb hby d11_12) rfl rfl ?_
  refine own_getF X2 hx hZ hown (host := "") (Or.inl (own_w hw 55 rfl)) Via.refl e2 f4 (hb hby d11_13) (fun T3 X3 e3 => ?_)
  refine own_iloadN X3 hx (hb hby d11_16) rfl ?_
  refine own_isub X3 hx (hb hby d11_17) ?_
  rw [show ((1 : Int32) - (0 : Int32)) = (1 : Int32) by decide]
  obtain ⟨cl4, Ar4, q4, -⟩ := id f6
  refine own_cpA X3 hx hZ hown (own_w hw 77 rfl) (own_w hw 80 rfl) (own_w hw 78 rfl) (own_w hw 79 rfl) e3 f6 f6 (us := [(.ref k0)]) (vr := [(.ref k0), (.ref k0), .null]) (Or.inr ⟨rfl, rfl, ⟨(Sto.ofVA Ar4 q4 hov (Ins.self f11)), trivial⟩⟩) (by decide) (by decide) (by decide) (by decide) (by decide) rfl (Nat.le_of_ble_eq_true rfl) rfl N0 f10 (by rw [hml]; rfl) (hb hby d11_18) (by decide) (W := 0) (Nat.le_of_eq rfl) (by decide) (fun T4 h4 lc4 X4 e4 N4 K4 V4 => ?_)
  have E5_a1 := f0.keep K4
  have E5_kr := f5.keep K4
  have E5_a3 := f8.keep K4
  have F5_edit_a1 := f1.keep K4 (ninS (ne_exa f0 f5 (by decide)) nin0)
  have F5_keys_a1 := f2.keep K4 (ninS (ne_exa f0 f5 (by decide)) nin0)
  have F5_children_a1 := f3.keep K4 (ninS (ne_exa f0 f5 (by decide)) nin0)
  have F5_size_a1 := f4.keep K4 (ninS (ne_exa f0 f5 (by decide)) nin0)
  have O5 := O0.keep K4 (allS f10 all0)
  have KC5 := KC0.trans K4 (allS (Or.inl (List.mem_of_getElem? (i := 1) rfl)) all0)
  refine own_aloadN X4 hx (hb hby d11_21) rfl rfl ?_
  refine own_getF X4 hx hZ hown (host := "") (Or.inl (own_w hw 23 rfl)) Via.refl e4 F5_keys_a1 (hb hby d11_22) (fun T6 X6 e6 => ?_)
  refine own_iloadN X6 hx (hb hby d11_25) rfl ?_
  refine own_aloadN X6 hx (hb hby d11_26) rfl rfl ?_
  refine own_aastore X6 hx hZ N4 e6 V4 rfl rfl ⟨by decide, by decide⟩ (i := 0) rfl (by first | decide | (simp; done)) f10 (fun _ Ar q => Sto.ofVA Ar q hov (Ins.self E5_a3)) (hb hby d11_27) (fun T7 h7 lc7 X7 e7 N7 W7 V7 => ?_)
  have E8_a1 := E5_a1.wr W7
  have E8_kr := E5_kr.wr W7
  have F8_edit_a1 := F5_edit_a1.other W7 (Or.inl (ne_exa E5_a1 E5_kr (by decide)))
  have F8_keys_a1 := F5_keys_a1.other W7 (Or.inl (ne_exa E5_a1 E5_kr (by decide)))
  have F8_children_a1 := F5_children_a1.other W7 (Or.inl (ne_exa E5_a1 E5_kr (by decide)))
  have F8_size_a1 := F5_size_a1.other W7 (Or.inl (ne_exa E5_a1 E5_kr (by decide)))
  have O8 := O5.wr W7 f10
  have KC8 := KC5.wr W7 (Or.inl (List.mem_of_getElem? (i := 1) rfl))
  have V7' : Arv Z h7 kr kk (.array .byte) (64 : Int32) [(.ref a3), (.ref k0), .null] .null := V7
  refine own_aloadN X7 hx (hb hby d11_28) rfl rfl ?_
  refine own_getF X7 hx hZ hown (host := "") (Or.inl (own_w hw 25 rfl)) Via.refl e7 F8_children_a1 (hb hby d11_29) (fun T9 X9 e9 => ?_)
  refine own_ifnullYes X9 hx (pc' := 63) (hb hby d11_32) (by decide) (by decide) ?_
  refine own_aloadN X9 hx (hb hby d11_63) rfl rfl ?_
  refine own_dup X9 hx (hb hby d11_64) rfl ?_
  refine own_getF X9 hx hZ hown (host := "") (Or.inl (own_w hw 55 rfl)) Via.refl e9 F8_size_a1 (hb hby d11_65) (fun T10 X10 e10 => ?_)
  refine own_iconst X10 hx (v := (1 : Int32)) (hb hby d11_68) rfl ?_
  refine own_iadd X10 hx (hb hby d11_69) ?_
  rw [show ((1 : Int32) + (1 : Int32)) = (2 : Int32) by decide]
  refine own_putF X10 hx hZ hown N7 (host := "") (Or.inl (own_w hw 55 rfl)) Via.refl e10 F8_size_a1 E8_a1 (Or.inl (own_w hw 56 rfl)) (own_w hw 13 rfl) (ty := .int) (by decide) rfl rfl f9 (hb hby d11_70) (fun T11 h11 lc11 X11 e11 N11 W11 => ?_)
  have E12_a1 := E8_a1.wr W11
  have E12_kr := E8_kr.wr W11
  have F12_edit_a1 := F8_edit_a1.other W11 (Or.inr (slot_ne (Or.inr (own_w hw 20 rfl)) (Or.inl (own_w hw 56 rfl)) (by decide) (t := .long) (t' := .int) (by decide) (by decide)))
  have F12_keys_a1 := F8_keys_a1.other W11 (Or.inr (slot_ne (Or.inr (own_w hw 24 rfl)) (Or.inl (own_w hw 56 rfl)) (by decide) (t := (.array (.array .byte))) (t' := .int) (by decide) (by decide)))
  have F12_children_a1 := F8_children_a1.other W11 (Or.inr (slot_ne (Or.inr (own_w hw 26 rfl)) (Or.inl (own_w hw 56 rfl)) (by decide) (t := (.array (.object cN))) (t' := .int) (by decide) (by decide)))
  have F12_size_a1 := F8_size_a1.same W11
  have A12_kr := V7'.other W11 (ne_exa E8_kr E8_a1 (by decide))
  have O12 := O8.wr W11 f9
  have KC12 := KC8.wr W11 (Or.inl (List.mem_of_getElem? (i := 0) rfl))
  show Goes _ _ _ _ _ _ (T11.setTop (mkF m 73 #[.val (.ref a1), .val (.int (0 : Int32)), .val (.ref a3), .val .null] []))
  exact own_retV X11 hx N11 hlk (by decide) (by decide) hret (hb hby d11_73) (by rw [e11]; exact ⟨rfl, KC12, E12_a1, F12_edit_a1, F12_keys_a1, F12_children_a1, F12_size_a1, E12_kr, A12_kr⟩)
def Q1010 (Z : State) (a1 : Addr) (a2 : Addr) (a4 : Addr) (ed : Int64) (kr : Addr) (kk : ClassId) (k0 : Addr) (h0 : Heap) (n0 : Nat) (v : Option Value) (h : Heap) : Prop :=
  (v = some .null ∧ Keep h0 h [a2, kr] ∧ Exa Z h a2 cN ∧ Fld Z h a2 cN "edit" "J" (.long ed) ∧ Fld Z h a2 cN "keys" "[[B" (.ref kr) ∧ Fld Z h a2 cN "children" dA .null ∧ Fld Z h a2 cN "size" "I" (.int (2 : Int32)) ∧ Exa Z h kr "[[B" ∧ Arv Z h kr kk (.array .byte) (64 : Int32) [(.ref a4), (.ref k0), .null] .null)
theorem ef_1010 (m : MethodId) (a1 : Addr) (a2 : Addr) (a4 : Addr) : entryFrame m #[(.ref a1), (.ref a2), (.int (0 : Int32)), (.ref a4), .null] 7 = mkF m 0 #[.val (.ref a1), .val (.ref a2), .val (.int (0 : Int32)), .val (.ref a4), .val .null, .unset, .unset] [] := by first | (simp [entryFrame, mkF, argsToLocals, Value.category]; done) | rfl
set_option maxRecDepth 65536 in
set_option maxHeartbeats 40000000 in
theorem rm1010 (l : Launch) (Z : State) (a0 : Array Value) (hw : ∀ d ∈ tables_1, d.before a0 Z = true) (ws : List Jvm.Cond) (a1 : Addr) (a2 : Addr) (a4 : Addr) (ed : Int64) (kr : Addr) (kk : ClassId) (k0 : Addr) (h0 : Heap) (n0 : Nat) (O0 : Old Z n0 h0) (f0 : Exa Z h0 a2 cN) (f1 : Fld Z h0 a2 cN "edit" "J" (.long ed)) (f2 : Fld Z h0 a2 cN "keys" "[[B" (.ref kr)) (f3 : Fld Z h0 a2 cN "children" dA .null) (f4 : Fld Z h0 a2 cN "size" "I" (.int (1 : Int32))) (f5 : Exa Z h0 kr "[[B") (f6 : Arv Z h0 kr kk (.array .byte) (64 : Int32) [(.ref k0), .null, .null] .null) (hov : OvrA Z kk .byte "[B") (f8 : Exa Z h0 a4 "[B") (f9 : n0 ≤ a2) (f10 : n0 ≤ kr) (f11 : Exa Z h0 k0 "[B") :
    Meets l y10 prog_35_method_12_code 7 (some (.object cN)) ws ({ frames := 2, cells := 0, slots := 0, locals := 33 } : Room) ({ frames := 2, cells := 0, slots := 0, locals := 33 } : Room).cells ({ frames := 2, cells := 0, slots := 0, locals := 33 } : Room).slots Z #[(.ref a1), (.ref a2), (.int (0 : Int32)), (.ref a4), .null] h0 n0 (Q1010 Z a1 a2 a4 ed kr kk k0 h0 n0) := by
  refine Meets.of (F := fun m => mkF m 0 #[.val (.ref a1), .val (.ref a2), .val (.int (0 : Int32)), .val (.ref a4), .val .null, .unset, .unset] []) (plainFor_of_name pn_5) (fun m => ef_1010 m a1 a2 a4) ?_
  intro p e s m below meth c T0 hx hby hml hown0 hnm hret hlk hZ X0 e0
  have hown : s.vm.findClass cT = some m.cls := hown0
  have N0 := Fr.nil n0
  have KC0 := Keep.refl h0 [a2, kr]
  show Goes _ _ _ _ _ _ (T0.setTop (mkF m 0 #[.val (.ref a1), .val (.ref a2), .val (.int (0 : Int32)), .val (.ref a4), .val .null, .unset, .unset] []))
  refine own_aloadN X0 hx (hb hby d10_0) rfl rfl ?_
  refine own_getFR X0 hx hZ hown (own_w hw 68 rfl) e0 f4 (hb hby d10_1) ?_
  refine own_bipush X0 hx (v := (64 : Int32)) (hb hby d10_4) rfl ?_
  refine own_icmpNo X0 hx (hb hby d10_6) (tlt (by decide : (1 : Int32) < (64 : Int32))).2.1 ?_
  refine own_aloadN X0 hx (hb hby d10_9) rfl rfl ?_
  refine own_iloadN X0 hx (hb hby d10_10) rfl ?_
  refine own_aloadN X0 hx (hb hby d10_11) rfl rfl ?_
  refine own_aload X0 hx (hb hby d10_12) rfl rfl ?_
  refine own_privateR X0 hx hZ hown (y := y11) (own_w hw 73 rfl) (own_w hw 74 rfl) (own_w hw 13 rfl) (own_w hw 75 rfl) (own_w hw 14 rfl) (own_w hw 76 rfl) (a := a2) f0 (by decide) (W := 0) (by decide) (by decide) N0 e0 (by rw [hml]; rfl) (argsL := [(.int (0 : Int32)), (.ref a4), .null]) (rest := []) (lenOf pd_7 rfl) (Nat.le_of_eq rfl) (by decide) (by decide) (rm1110 l Z a0 hw [] a2 a4 ed kr kk k0 h0 n0 O0 f0 f1 f2 f3 f4 f5 f6 hov f8 f9 f10 f11) rfl (hb hby d10_14) ?_
  intro v1 T1 lc1 X1 N1 hQ1
  obtain ⟨rfl, K1, r1_0, r1_1, r1_2, r1_3, r1_4, r1_5, r1_6⟩ := hQ1
  have O2 := O0.keep K1 (allS f9 (allS f10 all0))
  have KC2 := KC0.trans K1 (allS (Or.inl (List.mem_of_getElem? (i := 0) rfl)) (allS (Or.inl (List.mem_of_getElem? (i := 1) rfl)) all0))
  refine own_aconst_null X1 hx (hb hby d10_17) ?_
  show Goes _ _ _ _ _ _ (T1.setTop (mkF m 18 #[.val (.ref a1), .val (.ref a2), .val (.int (0 : Int32)), .val (.ref a4), .val .null, .unset, .unset] [.null]))
  exact own_retR X1 hx N1 hlk (by decide) (by decide) hret rfl rfl rfl (hb hby d10_18) (⟨rfl, KC2, r1_0, r1_1, r1_2, r1_3, r1_4, r1_5, r1_6⟩)
def Q1111 (Z : State) (a1 : Addr) (a3 : Addr) (ed : Int64) (kr : Addr) (kk : ClassId) (k0 : Addr) (h0 : Heap) (n0 : Nat) (v : Option Value) (h : Heap) : Prop :=
  (v = none ∧ Keep h0 h [a1, kr] ∧ Exa Z h a1 cN ∧ Fld Z h a1 cN "edit" "J" (.long ed) ∧ Fld Z h a1 cN "keys" "[[B" (.ref kr) ∧ Fld Z h a1 cN "children" dA .null ∧ Fld Z h a1 cN "size" "I" (.int (2 : Int32)) ∧ Exa Z h kr "[[B" ∧ Arv Z h kr kk (.array .byte) (64 : Int32) [(.ref k0), (.ref a3), .null] .null)
theorem ef_1111 (m : MethodId) (a1 : Addr) (a3 : Addr) : entryFrame m #[(.ref a1), (.int (1 : Int32)), (.ref a3), .null] 4 = mkF m 0 #[.val (.ref a1), .val (.int (1 : Int32)), .val (.ref a3), .val .null] [] := by first | (simp [entryFrame, mkF, argsToLocals, Value.category]; done) | rfl
set_option maxRecDepth 65536 in
set_option maxHeartbeats 40000000 in
theorem rm1111 (l : Launch) (Z : State) (a0 : Array Value) (hw : ∀ d ∈ tables_1, d.before a0 Z = true) (ws : List Jvm.Cond) (a1 : Addr) (a3 : Addr) (ed : Int64) (kr : Addr) (kk : ClassId) (k0 : Addr) (h0 : Heap) (n0 : Nat) (O0 : Old Z n0 h0) (f0 : Exa Z h0 a1 cN) (f1 : Fld Z h0 a1 cN "edit" "J" (.long ed)) (f2 : Fld Z h0 a1 cN "keys" "[[B" (.ref kr)) (f3 : Fld Z h0 a1 cN "children" dA .null) (f4 : Fld Z h0 a1 cN "size" "I" (.int (1 : Int32))) (f5 : Exa Z h0 kr "[[B") (f6 : Arv Z h0 kr kk (.array .byte) (64 : Int32) [(.ref k0), .null, .null] .null) (hov : OvrA Z kk .byte "[B") (f8 : Exa Z h0 a3 "[B") (f9 : n0 ≤ a1) (f10 : n0 ≤ kr) (f11 : Exa Z h0 k0 "[B") :
    Meets l y11 prog_36_method_4_code 4 none ws ({ frames := 1, cells := 0, slots := 0, locals := 18 } : Room) ({ frames := 1, cells := 0, slots := 0, locals := 18 } : Room).cells ({ frames := 1, cells := 0, slots := 0, locals := 18 } : Room).slots Z #[(.ref a1), (.int (1 : Int32)), (.ref a3), .null] h0 n0 (Q1111 Z a1 a3 ed kr kk k0 h0 n0) := by
  refine Meets.of (F := fun m => mkF m 0 #[.val (.ref a1), .val (.int (1 : Int32)), .val (.ref a3), .val .null] []) (plainFor_of_name pn_4) (fun m => ef_1111 m a1 a3) ?_
  intro p e s m below meth c T0 hx hby hml hown0 hnm hret hlk hZ X0 e0
  have hown : s.vm.findClass cN = some m.cls := hown0
  have N0 := Fr.nil n0
  have KC0 := Keep.refl h0 [a1, kr]
  show Goes _ _ _ _ _ _ (T0.setTop (mkF m 0 #[.val (.ref a1), .val (.int (1 : Int32)), .val (.ref a3), .val .null] []))
  refine own_aloadN X0 hx (hb hby d11_0) rfl rfl ?_
  refine own_getF X0 hx hZ hown (host := "") (Or.inl (own_w hw 23 rfl)) Via.refl e0 f2 (hb hby d11_1) (fun T1 X1 e1 => ?_)
  refine own_iloadN X1 hx (hb hby d11_4) rfl ?_
  refine own_aloadN X1 hx (hb hby d11_5) rfl rfl ?_
  refine own_getF X1 hx hZ hown (host := "") (Or.inl (own_w hw 23 rfl)) Via.refl e1 f2 (hb hby d11_6) (fun T2 X2 e2 => ?_)
  refine own_iloadN X2 hx (hb hby d11_9) rfl ?_
  refine own_iconst X2 hx (v := (1 : Int32)) (hb hby d11_10) rfl ?_
  refine own_iadd X2 hx (hb hby d11_11) ?_
  rw [show ((1 : Int32) + (1 : Int32)) = (2 : Int32) by decide]
  refine own_aloadN X2 hx (hb hby d11_12) rfl rfl ?_
  refine own_getF X2 hx hZ hown (host := "") (Or.inl (own_w hw 55 rfl)) Via.refl e2 f4 (hb hby d11_13) (fun T3 X3 e3 => ?_)
  refine own_iloadN X3 hx (hb hby d11_16) rfl ?_
  refine own_isub X3 hx (hb hby d11_17) ?_
  rw [show ((1 : Int32) - (1 : Int32)) = (0 : Int32) by decide]
  obtain ⟨cl4, Ar4, q4, -⟩ := id f6
  refine own_cpA X3 hx hZ hown (own_w hw 77 rfl) (own_w hw 80 rfl) (own_w hw 78 rfl) (own_w hw 79 rfl) e3 f6 f6 (us := []) (vr := [(.ref k0), .null, .null]) (Or.inr ⟨rfl, rfl, trivial⟩) (by decide) (by decide) (by decide) (by decide) (by decide) rfl (Nat.le_of_ble_eq_true rfl) rfl N0 f10 (by rw [hml]; rfl) (hb hby d11_18) (by decide) (W := 0) (Nat.le_of_eq rfl) (by decide) (fun T4 h4 lc4 X4 e4 N4 K4 V4 => ?_)
  have E5_a1 := f0.keep K4
  have E5_kr := f5.keep K4
  have E5_a3 := f8.keep K4
  have F5_edit_a1 := f1.keep K4 (ninS (ne_exa f0 f5 (by decide)) nin0)
  have F5_keys_a1 := f2.keep K4 (ninS (ne_exa f0 f5 (by decide)) nin0)
  have F5_children_a1 := f3.keep K4 (ninS (ne_exa f0 f5 (by decide)) nin0)
  have F5_size_a1 := f4.keep K4 (ninS (ne_exa f0 f5 (by decide)) nin0)
  have O5 := O0.keep K4 (allS f10 all0)
  have KC5 := KC0.trans K4 (allS (Or.inl (List.mem_of_getElem? (i := 1) rfl)) all0)
  refine own_aloadN X4 hx (hb hby d11_21) rfl rfl ?_
  refine own_getF X4 hx hZ hown (host := "") (Or.inl (own_w hw 23 rfl)) Via.refl e4 F5_keys_a1 (hb hby d11_22) (fun T6 X6 e6 => ?_)
  refine own_iloadN X6 hx (hb hby d11_25) rfl ?_
  refine own_aloadN X6 hx (hb hby d11_26) rfl rfl ?_
  refine own_aastore X6 hx hZ N4 e6 V4 rfl rfl ⟨by decide, by decide⟩ (i := 1) rfl (by first | decide | (simp; done)) f10 (fun _ Ar q => Sto.ofVA Ar q hov (Ins.self E5_a3)) (hb hby d11_27) (fun T7 h7 lc7 X7 e7 N7 W7 V7 => ?_)
  have E8_a1 := E5_a1.wr W7
  have E8_kr := E5_kr.wr W7
  have F8_edit_a1 := F5_edit_a1.other W7 (Or.inl (ne_exa E5_a1 E5_kr (by decide)))
  have F8_keys_a1 := F5_keys_a1.other W7 (Or.inl (ne_exa E5_a1 E5_kr (by decide)))
  have F8_children_a1 := F5_children_a1.other W7 (Or.inl (ne_exa E5_a1 E5_kr (by decide)))
  have F8_size_a1 := F5_size_a1.other W7 (Or.inl (ne_exa E5_a1 E5_kr (by decide)))
  have O8 := O5.wr W7 f10
  have KC8 := KC5.wr W7 (Or.inl (List.mem_of_getElem? (i := 1) rfl))
  have V7' : Arv Z h7 kr kk (.array .byte) (64 : Int32) [(.ref k0), (.ref a3), .null] .null := V7
  refine own_aloadN X7 hx (hb hby d11_28) rfl rfl ?_
  refine own_getF X7 hx hZ hown (host := "") (Or.inl (own_w hw 25 rfl)) Via.refl e7 F8_children_a1 (hb hby d11_29) (fun T9 X9 e9 => ?_)
  refine own_ifnullYes X9 hx (pc' := 63) (hb hby d11_32) (by decide) (by decide) ?_
  refine own_aloadN X9 hx (hb hby d11_63) rfl rfl ?_
  refine own_dup X9 hx (hb hby d11_64) rfl ?_
  refine own_getF X9 hx hZ hown (host := "") (Or.inl (own_w hw 55 rfl)) Via.refl e9 F8_size_a1 (hb hby d11_65) (fun T10 X10 e10 => ?_)
  refine own_iconst X10 hx (v := (1 : Int32)) (hb hby d11_68) rfl ?_
  refine own_iadd X10 hx (hb hby d11_69) ?_
  rw [show ((1 : Int32) + (1 : Int32)) = (2 : Int32) by decide]
  refine own_putF X10 hx hZ hown N7 (host := "") (Or.inl (own_w hw 55 rfl)) Via.refl e10 F8_size_a1 E8_a1 (Or.inl (own_w hw 56 rfl)) (own_w hw 13 rfl) (ty := .int) (by decide) rfl rfl f9 (hb hby d11_70) (fun T11 h11 lc11 X11 e11 N11 W11 => ?_)
  have E12_a1 := E8_a1.wr W11
  have E12_kr := E8_kr.wr W11
  have F12_edit_a1 := F8_edit_a1.other W11 (Or.inr (slot_ne (Or.inr (own_w hw 20 rfl)) (Or.inl (own_w hw 56 rfl)) (by decide) (t := .long) (t' := .int) (by decide) (by decide)))
  have F12_keys_a1 := F8_keys_a1.other W11 (Or.inr (slot_ne (Or.inr (own_w hw 24 rfl)) (Or.inl (own_w hw 56 rfl)) (by decide) (t := (.array (.array .byte))) (t' := .int) (by decide) (by decide)))
  have F12_children_a1 := F8_children_a1.other W11 (Or.inr (slot_ne (Or.inr (own_w hw 26 rfl)) (Or.inl (own_w hw 56 rfl)) (by decide) (t := (.array (.object cN))) (t' := .int) (by decide) (by decide)))
  have F12_size_a1 := F8_size_a1.same W11
  have A12_kr := V7'.other W11 (ne_exa E8_kr E8_a1 (by decide))
  have O12 := O8.wr W11 f9
  have KC12 := KC8.wr W11 (Or.inl (List.mem_of_getElem? (i := 0) rfl))
  show Goes _ _ _ _ _ _ (T11.setTop (mkF m 73 #[.val (.ref a1), .val (.int (1 : Int32)), .val (.ref a3), .val .null] []))
  exact own_retV X11 hx N11 hlk (by decide) (by decide) hret (hb hby d11_73) (by rw [e11]; exact ⟨rfl, KC12, E12_a1, F12_edit_a1, F12_keys_a1, F12_children_a1, F12_size_a1, E12_kr, A12_kr⟩)
def Q1011 (Z : State) (a1 : Addr) (a2 : Addr) (a4 : Addr) (ed : Int64) (kr : Addr) (kk : ClassId) (k0 : Addr) (h0 : Heap) (n0 : Nat) (v : Option Value) (h : Heap) : Prop :=
  (v = some .null ∧ Keep h0 h [a2, kr] ∧ Exa Z h a2 cN ∧ Fld Z h a2 cN "edit" "J" (.long ed) ∧ Fld Z h a2 cN "keys" "[[B" (.ref kr) ∧ Fld Z h a2 cN "children" dA .null ∧ Fld Z h a2 cN "size" "I" (.int (2 : Int32)) ∧ Exa Z h kr "[[B" ∧ Arv Z h kr kk (.array .byte) (64 : Int32) [(.ref k0), (.ref a4), .null] .null)
theorem ef_1011 (m : MethodId) (a1 : Addr) (a2 : Addr) (a4 : Addr) : entryFrame m #[(.ref a1), (.ref a2), (.int (1 : Int32)), (.ref a4), .null] 7 = mkF m 0 #[.val (.ref a1), .val (.ref a2), .val (.int (1 : Int32)), .val (.ref a4), .val .null, .unset, .unset] [] := by first | (simp [entryFrame, mkF, argsToLocals, Value.category]; done) | rfl
set_option maxRecDepth 65536 in
set_option maxHeartbeats 40000000 in
theorem rm1011 (l : Launch) (Z : State) (a0 : Array Value) (hw : ∀ d ∈ tables_1, d.before a0 Z = true) (ws : List Jvm.Cond) (a1 : Addr) (a2 : Addr) (a4 : Addr) (ed : Int64) (kr : Addr) (kk : ClassId) (k0 : Addr) (h0 : Heap) (n0 : Nat) (O0 : Old Z n0 h0) (f0 : Exa Z h0 a2 cN) (f1 : Fld Z h0 a2 cN "edit" "J" (.long ed)) (f2 : Fld Z h0 a2 cN "keys" "[[B" (.ref kr)) (f3 : Fld Z h0 a2 cN "children" dA .null) (f4 : Fld Z h0 a2 cN "size" "I" (.int (1 : Int32))) (f5 : Exa Z h0 kr "[[B") (f6 : Arv Z h0 kr kk (.array .byte) (64 : Int32) [(.ref k0), .null, .null] .null) (hov : OvrA Z kk .byte "[B") (f8 : Exa Z h0 a4 "[B") (f9 : n0 ≤ a2) (f10 : n0 ≤ kr) (f11 : Exa Z h0 k0 "[B") :
    Meets l y10 prog_35_method_12_code 7 (some (.object cN)) ws ({ frames := 2, cells := 0, slots := 0, locals := 33 } : Room) ({ frames := 2, cells := 0, slots := 0, locals := 33 } : Room).cells ({ frames := 2, cells := 0, slots := 0, locals := 33 } : Room).slots Z #[(.ref a1), (.ref a2), (.int (1 : Int32)), (.ref a4), .null] h0 n0 (Q1011 Z a1 a2 a4 ed kr kk k0 h0 n0) := by
  refine Meets.of (F := fun m => mkF m 0 #[.val (.ref a1), .val (.ref a2), .val (.int (1 : Int32)), .val (.ref a4), .val .null, .unset, .unset] []) (plainFor_of_name pn_5) (fun m => ef_1011 m a1 a2 a4) ?_
  intro p e s m below meth c T0 hx hby hml hown0 hnm hret hlk hZ X0 e0
  have hown : s.vm.findClass cT = some m.cls := hown0
  have N0 := Fr.nil n0
  have KC0 := Keep.refl h0 [a2, kr]
  show Goes _ _ _ _ _ _ (T0.setTop (mkF m 0 #[.val (.ref a1), .val (.ref a2), .val (.int (1 : Int32)), .val (.ref a4), .val .null, .unset, .unset] []))
  refine own_aloadN X0 hx (hb hby d10_0) rfl rfl ?_
  refine own_getFR X0 hx hZ hown (own_w hw 68 rfl) e0 f4 (hb hby d10_1) ?_
  refine own_bipush X0 hx (v := (64 : Int32)) (hb hby d10_4) rfl ?_
  refine own_icmpNo X0 hx (hb hby d10_6) (tlt (by decide : (1 : Int32) < (64 : Int32))).2.1 ?_
  refine own_aloadN X0 hx (hb hby d10_9) rfl rfl ?_
  refine own_iloadN X0 hx (hb hby d10_10) rfl ?_
  refine own_aloadN X0 hx (hb hby d10_11) rfl rfl ?_
  refine own_aload X0 hx (hb hby d10_12) rfl rfl ?_
  refine own_privateR X0 hx hZ hown (y := y11) (own_w hw 73 rfl) (own_w hw 74 rfl) (own_w hw 13 rfl) (own_w hw 75 rfl) (own_w hw 14 rfl) (own_w hw 76 rfl) (a := a2) f0 (by decide) (W := 0) (by decide) (by decide) N0 e0 (by rw [hml]; rfl) (argsL := [(.int (1 : Int32)), (.ref a4), .null]) (rest := []) (lenOf pd_7 rfl) (Nat.le_of_eq rfl) (by decide) (by decide) (rm1111 l Z a0 hw [] a2 a4 ed kr kk k0 h0 n0 O0 f0 f1 f2 f3 f4 f5 f6 hov f8 f9 f10 f11) rfl (hb hby d10_14) ?_
  intro v1 T1 lc1 X1 N1 hQ1
  obtain ⟨rfl, K1, r1_0, r1_1, r1_2, r1_3, r1_4, r1_5, r1_6⟩ := hQ1
  have O2 := O0.keep K1 (allS f9 (allS f10 all0))
  have KC2 := KC0.trans K1 (allS (Or.inl (List.mem_of_getElem? (i := 0) rfl)) (allS (Or.inl (List.mem_of_getElem? (i := 1) rfl)) all0))
  refine own_aconst_null X1 hx (hb hby d10_17) ?_
  show Goes _ _ _ _ _ _ (T1.setTop (mkF m 18 #[.val (.ref a1), .val (.ref a2), .val (.int (1 : Int32)), .val (.ref a4), .val .null, .unset, .unset] [.null]))
  exact own_retR X1 hx N1 hlk (by decide) (by decide) hret rfl rfl rfl (hb hby d10_18) (⟨rfl, KC2, r1_0, r1_1, r1_2, r1_3, r1_4, r1_5, r1_6⟩)
theorem d7_0 : decode prog_35_method_11_code 0 = .ok (.aload_n 1, 1) := by decide +kernel
theorem d7_1 : decode prog_35_method_11_code 1 = .ok (.invokevirtual 49, 3) := by decide +kernel
theorem pd_8 : parseMethodDescriptor "()Z" = some ⟨[], some .boolean⟩ := by decide +kernel
theorem d7_4 : decode prog_35_method_11_code 4 = .ok (.ifCond .eq 51, 3) := by decide +kernel
theorem d7_7 : decode prog_35_method_11_code 7 = .ok (.aload_n 1, 1) := by decide +kernel
theorem d7_8 : decode prog_35_method_11_code 8 = .ok (.aload_n 2, 1) := by decide +kernel
theorem d7_9 : decode prog_35_method_11_code 9 = .ok (.invokestatic 72, 3) := by decide +kernel
theorem pd_9 : parseMethodDescriptor "(Lcom/example/contention/contention/KeyTree$Node;[B)I" = some ⟨[(.object cN), (.array .byte)], some .int⟩ := by decide +kernel
theorem d7_12 : decode prog_35_method_11_code 12 = .ok (.istore_n 3, 1) := by decide +kernel
theorem d7_13 : decode prog_35_method_11_code 13 = .ok (.iload_n 3, 1) := by decide +kernel
theorem d7_14 : decode prog_35_method_11_code 14 = .ok (.aload_n 1, 1) := by decide +kernel
theorem d7_15 : decode prog_35_method_11_code 15 = .ok (.getfield 53, 3) := by decide +kernel
theorem d7_18 : decode prog_35_method_11_code 18 = .ok (.if_icmp .ge 18, 3) := by decide +kernel
theorem d7_36 : decode prog_35_method_11_code 36 = .ok (.aload_n 0, 1) := by decide +kernel
theorem d7_37 : decode prog_35_method_11_code 37 = .ok (.dup, 1) := by decide +kernel
theorem d7_38 : decode prog_35_method_11_code 38 = .ok (.getfield 25, 3) := by decide +kernel
theorem d7_41 : decode prog_35_method_11_code 41 = .ok (.iconst 1, 1) := by decide +kernel
theorem d7_42 : decode prog_35_method_11_code 42 = .ok (.iadd, 1) := by decide +kernel
theorem d7_43 : decode prog_35_method_11_code 43 = .ok (.putfield 25, 3) := by decide +kernel
theorem d7_46 : decode prog_35_method_11_code 46 = .ok (.aload_n 0, 1) := by decide +kernel
theorem d7_47 : decode prog_35_method_11_code 47 = .ok (.aload_n 1, 1) := by decide +kernel
theorem d7_48 : decode prog_35_method_11_code 48 = .ok (.iload_n 3, 1) := by decide +kernel
theorem d7_49 : decode prog_35_method_11_code 49 = .ok (.aload_n 2, 1) := by decide +kernel
theorem d7_50 : decode prog_35_method_11_code 50 = .ok (.aconst_null, 1) := by decide +kernel
theorem d7_51 : decode prog_35_method_11_code 51 = .ok (.invokevirtual 80, 3) := by decide +kernel
theorem pd_10 : parseMethodDescriptor "(Lcom/example/contention/contention/KeyTree$Node;I[BLcom/example/contention/contention/KeyTree$Node;)Lcom/example/contention/contention/KeyTree$Node;" = some ⟨[(.object cN), .int, (.array .byte), (.object cN)], some (.object cN)⟩ := by decide +kernel
theorem d7_54 : decode prog_35_method_11_code 54 = .ok (.areturn, 1) := by decide +kernel
def Q70 (Z : State) (a1 : Addr) (a2 : Addr) (a3 : Addr) (te : Int64) (r : Addr) (d : Addr) (sz : Int32) (ed : Int64) (kr : Addr) (kk : ClassId) (h0 : Heap) (n0 : Nat) (v : Option Value) (h : Heap) : Prop :=
  (v = some .null ∧ Keep h0 h [a1, a2, kr] ∧ Exa Z h a1 cT ∧ Fld Z h a1 cT "edit" "J" (.long te) ∧ Fld Z h a1 cT "root" dN (.ref r) ∧ Fld Z h a1 cT "draft" dN (.ref d) ∧ Fld Z h a1 cT "size" "I" (.int (sz + (1 : Int32))) ∧ Exa Z h a2 cN ∧ Fld Z h a2 cN "edit" "J" (.long ed) ∧ Fld Z h a2 cN "keys" "[[B" (.ref kr) ∧ Fld Z h a2 cN "children" dA .null ∧ Fld Z h a2 cN "size" "I" (.int (1 : Int32)) ∧ Exa Z h kr "[[B" ∧ Arv Z h kr kk (.array .byte) (64 : Int32) [(.ref a3), .null, .null] .null)
theorem ef_70 (m : MethodId) (a1 : Addr) (a2 : Addr) (a3 : Addr) : entryFrame m #[(.ref a1), (.ref a2), (.ref a3)] 6 = mkF m 0 #[.val (.ref a1), .val (.ref a2), .val (.ref a3), .unset, .unset, .unset] [] := by first | (simp [entryFrame, mkF, argsToLocals, Value.category]; done) | rfl
set_option maxRecDepth 65536 in
set_option maxHeartbeats 40000000 in
theorem rm70 (l : Launch) (Z : State) (a0 : Array Value) (hw : ∀ d ∈ tables_1, d.before a0 Z = true) (ws : List Jvm.Cond) (a1 : Addr) (a2 : Addr) (a3 : Addr) (te : Int64) (r : Addr) (d : Addr) (sz : Int32) (ed : Int64) (kr : Addr) (kk : ClassId) (h0 : Heap) (n0 : Nat) (O0 : Old Z n0 h0) (f0 : Exa Z h0 a1 cT) (f1 : Fld Z h0 a1 cT "edit" "J" (.long te)) (f2 : Fld Z h0 a1 cT "root" dN (.ref r)) (f3 : Fld Z h0 a1 cT "draft" dN (.ref d)) (f4 : Fld Z h0 a1 cT "size" "I" (.int sz)) (f5 : Exa Z h0 a2 cN) (f6 : Fld Z h0 a2 cN "edit" "J" (.long ed)) (f7 : Fld Z h0 a2 cN "keys" "[[B" (.ref kr)) (f8 : Fld Z h0 a2 cN "children" dA .null) (f9 : Fld Z h0 a2 cN "size" "I" (.int (0 : Int32))) (f10 : Exa Z h0 kr "[[B") (f11 : Arv Z h0 kr kk (.array .byte) (64 : Int32) [.null, .null, .null] .null) (hov : OvrA Z kk .byte "[B") (f13 : n0 ≤ a1) (f14 : n0 ≤ a2) (f15 : n0 ≤ kr) (f16 : Exa Z h0 a3 "[B") :
    Meets l y7 prog_35_method_11_code 6 (some (.object cN)) ws ({ frames := 3, cells := 0, slots := 0, locals := 51 } : Room) ({ frames := 3, cells := 0, slots := 0, locals := 51 } : Room).cells ({ frames := 3, cells := 0, slots := 0, locals := 51 } : Room).slots Z #[(.ref a1), (.ref a2), (.ref a3)] h0 n0 (Q70 Z a1 a2 a3 te r d sz ed kr kk h0 n0) := by
  refine Meets.of (F := fun m => mkF m 0 #[.val (.ref a1), .val (.ref a2), .val (.ref a3), .unset, .unset, .unset] []) (plainFor_of_name pn_5) (fun m => ef_70 m a1 a2 a3) ?_
  intro p e s m below meth c T0 hx hby hml hown0 hnm hret hlk hZ X0 e0
  have hown : s.vm.findClass cT = some m.cls := hown0
  have N0 := Fr.nil n0
  have KC0 := Keep.refl h0 [a1, a2, kr]
  show Goes _ _ _ _ _ _ (T0.setTop (mkF m 0 #[.val (.ref a1), .val (.ref a2), .val (.ref a3), .unset, .unset, .unset] []))
  refine own_aloadN X0 hx (hb hby d7_0) rfl rfl ?_
  refine own_privateR X0 hx hZ hown (y := y8) (own_w hw 61 rfl) (own_w hw 62 rfl) (own_w hw 13 rfl) (own_w hw 63 rfl) (own_w hw 14 rfl) (own_w hw 64 rfl) (a := a2) f5 (by decide) (W := 0) (by decide) (by decide) N0 e0 (by rw [hml]; rfl) (argsL := []) (rest := []) (lenOf pd_8 rfl) (Nat.le_of_eq rfl) (by decide) (by decide) (rm8 l Z a0 hw [] a2 h0 n0 O0 f8) rfl (hb hby d7_1) ?_
  intro v1 T1 lc1 X1 N1 hQ1
  obtain ⟨rfl, e1⟩ := hQ1
  refine own_ifNo X1 hx (hb hby d7_4) ((if0 _ _).trans (feq (by decide : ¬ ((1 : Int32) = (0 : Int32)))).1) ?_
  refine own_aloadN X1 hx (hb hby d7_7) rfl rfl ?_
  refine own_aloadN X1 hx (hb hby d7_8) rfl rfl ?_
  refine own_callS X1 hx hZ hown (y := y9) (own_w hw 65 rfl) (own_w hw 66 rfl) (own_w hw 3 rfl) (own_w hw 67 rfl) (by decide) (W := 0) (by decide) (by decide) N1 e1 (by rw [hml]; rfl) (argsL := [(.ref a2), (.ref a3)]) (rest := []) (lenOf pd_9 rfl) (Nat.le_of_eq rfl) (by decide) (by decide) (rm90 l Z a0 hw [] a2 a3 kr kk h0 n0 O0 f7 f9 f11) rfl (hb hby d7_9) ?_
  intro v2 T2 lc2 X2 N2 hQ2
  obtain ⟨rfl, e2⟩ := hQ2
  refine own_istoreN X2 hx (Ls' := #[.val (.ref a1), .val (.ref a2), .val (.ref a3), .val (.int (0 : Int32)), .unset, .unset]) (hb hby d7_12) rfl ?_
  refine own_iloadN X2 hx (hb hby d7_13) rfl ?_
  refine own_aloadN X2 hx (hb hby d7_14) rfl rfl ?_
  refine own_getFR X2 hx hZ hown (own_w hw 68 rfl) e2 f9 (hb hby d7_15) ?_
  refine own_icmpYes X2 hx (pc' := 36) (hb hby d7_18) (flt (by decide : ¬ ((0 : Int32) < (0 : Int32)))).2.1 (by decide) (by decide) ?_
  refine own_aloadN X2 hx (hb hby d7_36) rfl rfl ?_
  refine own_dup X2 hx (hb hby d7_37) rfl ?_
  refine own_getF X2 hx hZ hown (host := "") (Or.inl (own_w hw 36 rfl)) Via.refl e2 f4 (hb hby d7_38) (fun T3 X3 e3 => ?_)
  refine own_iconst X3 hx (v := (1 : Int32)) (hb hby d7_41) rfl ?_
  refine own_iadd X3 hx (hb hby d7_42) ?_
  refine own_putF X3 hx hZ hown N2 (host := "") (Or.inl (own_w hw 36 rfl)) Via.refl e3 f4 f0 (Or.inl (own_w hw 37 rfl)) (own_w hw 2 rfl) (ty := .int) (by decide) rfl rfl f13 (hb hby d7_43) (fun T4 h4 lc4 X4 e4 N4 W4 => ?_)
  have E5_a1 := f0.wr W4
  have E5_a2 := f5.wr W4
  have E5_kr := f10.wr W4
  have E5_a3 := f16.wr W4
  have F5_edit_a1 := f1.other W4 (Or.inr (slot_ne (Or.inl (own_w hw 11 rfl)) (Or.inl (own_w hw 37 rfl)) (by decide) (t := .long) (t' := .int) (by decide) (by decide)))
  have F5_root_a1 := f2.other W4 (Or.inr (slot_ne (Or.inl (own_w hw 28 rfl)) (Or.inl (own_w hw 37 rfl)) (by decide) (t := (.object cN)) (t' := .int) (by decide) (by decide)))
  have F5_draft_a1 := f3.other W4 (Or.inr (slot_ne (Or.inl (own_w hw 30 rfl)) (Or.inl (own_w hw 37 rfl)) (by decide) (t := (.object cN)) (t' := .int) (by decide) (by decide)))
  have F5_size_a1 := f4.same W4
  have F5_edit_a2 := f6.other W4 (Or.inl (ne_exa f5 f0 (by decide)))
  have F5_keys_a2 := f7.other W4 (Or.inl (ne_exa f5 f0 (by decide)))
  have F5_children_a2 := f8.other W4 (Or.inl (ne_exa f5 f0 (by decide)))
  have F5_size_a2 := f9.other W4 (Or.inl (ne_exa f5 f0 (by decide)))
  have A5_kr := f11.other W4 (ne_exa f10 f0 (by decide))
  have O5 := O0.wr W4 f13
  have KC5 := KC0.wr W4 (Or.inl (List.mem_of_getElem? (i := 0) rfl))
  refine own_aloadN X4 hx (hb hby d7_46) rfl rfl ?_
  refine own_aloadN X4 hx (hb hby d7_47) rfl rfl ?_
  refine own_iloadN X4 hx (hb hby d7_48) rfl ?_
  refine own_aloadN X4 hx (hb hby d7_49) rfl rfl ?_
  refine own_aconst_null X4 hx (hb hby d7_50) ?_
  refine own_private X4 hx hZ hown (y := y10) (own_w hw 69 rfl) (own_w hw 70 rfl) (own_w hw 2 rfl) (own_w hw 71 rfl) (own_w hw 3 rfl) (own_w hw 72 rfl) (a := a1) E5_a1 (by decide) (W := 0) (by decide) (by decide) N4 e4 (by rw [hml]; rfl) (argsL := [(.ref a2), (.int (0 : Int32)), (.ref a3), .null]) (rest := []) (lenOf pd_10 rfl) (Nat.le_of_eq rfl) (by decide) (by decide) (rm1000 l Z a0 hw [] a1 a2 a3 ed kr kk h4 n0 O5 E5_a2 F5_edit_a2 F5_keys_a2 F5_children_a2 F5_size_a2 E5_kr A5_kr hov E5_a3 f14 f15) rfl (hb hby d7_51) ?_
  intro v6 T6 lc6 X6 N6 hQ6
  obtain ⟨rfl, K6, r6_0, r6_1, r6_2, r6_3, r6_4, r6_5, r6_6⟩ := hQ6
  have E7_a1 := E5_a1.keep K6
  have F7_edit_a1 := F5_edit_a1.keep K6 (ninS (ne_exa E5_a1 E5_a2 (by decide)) (ninS (ne_exa E5_a1 E5_kr (by decide)) nin0))
  have F7_root_a1 := F5_root_a1.keep K6 (ninS (ne_exa E5_a1 E5_a2 (by decide)) (ninS (ne_exa E5_a1 E5_kr (by decide)) nin0))
  have F7_draft_a1 := F5_draft_a1.keep K6 (ninS (ne_exa E5_a1 E5_a2 (by decide)) (ninS (ne_exa E5_a1 E5_kr (by decide)) nin0))
  have F7_size_a1 := F5_size_a1.keep K6 (ninS (ne_exa E5_a1 E5_a2 (by decide)) (ninS (ne_exa E5_a1 E5_kr (by decide)) nin0))
  have O7 := O5.keep K6 (allS f14 (allS f15 all0))
  have KC7 := KC5.trans K6 (allS (Or.inl (List.mem_of_getElem? (i := 1) rfl)) (allS (Or.inl (List.mem_of_getElem? (i := 2) rfl)) all0))
  show Goes _ _ _ _ _ _ (T6.setTop (mkF m 54 #[.val (.ref a1), .val (.ref a2), .val (.ref a3), .val (.int (0 : Int32)), .unset, .unset] [.null]))
  exact own_retR X6 hx N6 hlk (by decide) (by decide) hret rfl rfl rfl (hb hby d7_54) (⟨rfl, KC7, E7_a1, F7_edit_a1, F7_root_a1, F7_draft_a1, F7_size_a1, r6_0, r6_1, r6_2, r6_3, r6_4, r6_5, r6_6⟩)
theorem d7_21 : decode prog_35_method_11_code 21 = .ok (.aload_n 1, 1) := by decide +kernel
theorem d7_22 : decode prog_35_method_11_code 22 = .ok (.getfield 41, 3) := by decide +kernel
theorem d7_25 : decode prog_35_method_11_code 25 = .ok (.iload_n 3, 1) := by decide +kernel
theorem d7_26 : decode prog_35_method_11_code 26 = .ok (.aaload, 1) := by decide +kernel
theorem d7_27 : decode prog_35_method_11_code 27 = .ok (.aload_n 2, 1) := by decide +kernel
theorem d7_28 : decode prog_35_method_11_code 28 = .ok (.invokestatic 76, 3) := by decide +kernel
theorem pd_11 : parseMethodDescriptor "([B[B)Z" = some ⟨[(.array .byte), (.array .byte)], some .boolean⟩ := by decide +kernel
theorem d7_31 : decode prog_35_method_11_code 31 = .ok (.ifCond .eq 5, 3) := by decide +kernel
theorem d7_34 : decode prog_35_method_11_code 34 = .ok (.aconst_null, 1) := by decide +kernel
theorem d7_35 : decode prog_35_method_11_code 35 = .ok (.areturn, 1) := by decide +kernel
def Q71e (Z : State) (a1 : Addr) (a2 : Addr) (a3 : Addr) (te : Int64) (r : Addr) (d : Addr) (sz : Int32) (ed : Int64) (kr : Addr) (kk : ClassId) (k0 : Addr) (x : Int32) (y : Int32) (c0 : ClassId) (c1 : ClassId) (h0 : Heap) (n0 : Nat) (v : Option Value) (h : Heap) : Prop :=
  (v = some .null ∧ h = h0)
theorem ef_71e (m : MethodId) (a1 : Addr) (a2 : Addr) (a3 : Addr) : entryFrame m #[(.ref a1), (.ref a2), (.ref a3)] 6 = mkF m 0 #[.val (.ref a1), .val (.ref a2), .val (.ref a3), .unset, .unset, .unset] [] := by first | (simp [entryFrame, mkF, argsToLocals, Value.category]; done) | rfl
set_option maxRecDepth 65536 in
set_option maxHeartbeats 40000000 in
theorem rm71e (l : Launch) (Z : State) (a0 : Array Value) (hw : ∀ d ∈ tables_1, d.before a0 Z = true) (ws : List Jvm.Cond) (a1 : Addr) (a2 : Addr) (a3 : Addr) (te : Int64) (r : Addr) (d : Addr) (sz : Int32) (ed : Int64) (kr : Addr) (kk : ClassId) (k0 : Addr) (x : Int32) (y : Int32) (c0 : ClassId) (c1 : ClassId) (h0 : Heap) (n0 : Nat) (O0 : Old Z n0 h0) (f0 : Exa Z h0 a1 cT) (f1 : Fld Z h0 a1 cT "edit" "J" (.long te)) (f2 : Fld Z h0 a1 cT "root" dN (.ref r)) (f3 : Fld Z h0 a1 cT "draft" dN (.ref d)) (f4 : Fld Z h0 a1 cT "size" "I" (.int sz)) (f5 : Exa Z h0 a2 cN) (f6 : Fld Z h0 a2 cN "edit" "J" (.long ed)) (f7 : Fld Z h0 a2 cN "keys" "[[B" (.ref kr)) (f8 : Fld Z h0 a2 cN "children" dA .null) (f9 : Fld Z h0 a2 cN "size" "I" (.int (1 : Int32))) (f10 : Exa Z h0 kr "[[B") (f11 : Arv Z h0 kr kk (.array .byte) (64 : Int32) [(.ref k0), .null, .null] .null) (hov : OvrA Z kk .byte "[B") (f13 : n0 ≤ a1) (f14 : n0 ≤ a2) (f15 : n0 ≤ kr) (f16 : Exa Z h0 a3 "[B") (f17 : Exa Z h0 k0 "[B") (f18 : Arv Z h0 k0 c0 .byte (1 : Int32) [(.int x)] (.int (0 : Int32))) (f19 : Arv Z h0 a3 c1 .byte (1 : Int32) [(.int y)] (.int (0 : Int32))) (f20 : k0 ≠ a3) (hxy : x = y) :
    Meets l y7 prog_35_method_11_code 6 (some (.object cN)) ws ({ frames := 3, cells := 0, slots := 0, locals := 45 } : Room) ({ frames := 3, cells := 0, slots := 0, locals := 45 } : Room).cells ({ frames := 3, cells := 0, slots := 0, locals := 45 } : Room).slots Z #[(.ref a1), (.ref a2), (.ref a3)] h0 n0 (Q71e Z a1 a2 a3 te r d sz ed kr kk k0 x y c0 c1 h0 n0) := by
  refine Meets.of (F := fun m => mkF m 0 #[.val (.ref a1), .val (.ref a2), .val (.ref a3), .unset, .unset, .unset] []) (plainFor_of_name pn_5) (fun m => ef_71e m a1 a2 a3) ?_
  intro p e s m below meth c T0 hx hby hml hown0 hnm hret hlk hZ X0 e0
  have hown : s.vm.findClass cT = some m.cls := hown0
  have N0 := Fr.nil n0
  show Goes _ _ _ _ _ _ (T0.setTop (mkF m 0 #[.val (.ref a1), .val (.ref a2), .val (.ref a3), .unset, .unset, .unset] []))
  refine own_aloadN X0 hx (hb hby d7_0) rfl rfl ?_
  refine own_privateR X0 hx hZ hown (y := y8) (own_w hw 61 rfl) (own_w hw 62 rfl) (own_w hw 13 rfl) (own_w hw 63 rfl) (own_w hw 14 rfl) (own_w hw 64 rfl) (a := a2) f5 (by decide) (W := 0) (by decide) (by decide) N0 e0 (by rw [hml]; rfl) (argsL := []) (rest := []) (lenOf pd_8 rfl) (Nat.le_of_eq rfl) (by decide) (by decide) (rm8 l Z a0 hw [] a2 h0 n0 O0 f8) rfl (hb hby d7_1) ?_
  intro v1 T1 lc1 X1 N1 hQ1
  obtain ⟨rfl, e1⟩ := hQ1
  refine own_ifNo X1 hx (hb hby d7_4) ((if0 _ _).trans (feq (by decide : ¬ ((1 : Int32) = (0 : Int32)))).1) ?_
  refine own_aloadN X1 hx (hb hby d7_7) rfl rfl ?_
  refine own_aloadN X1 hx (hb hby d7_8) rfl rfl ?_
  refine own_callS X1 hx hZ hown (y := y9) (own_w hw 65 rfl) (own_w hw 66 rfl) (own_w hw 3 rfl) (own_w hw 67 rfl) (by decide) (W := 0) (by decide) (by decide) N1 e1 (by rw [hml]; rfl) (argsL := [(.ref a2), (.ref a3)]) (rest := []) (lenOf pd_9 rfl) (Nat.le_of_eq rfl) (by decide) (by decide) (rm91e l Z a0 hw [] a2 a3 kr kk k0 x y c0 c1 h0 n0 O0 f7 f9 f11 f18 f19 f20 hxy) rfl (hb hby d7_9) ?_
  intro v2 T2 lc2 X2 N2 hQ2
  obtain ⟨rfl, e2⟩ := hQ2
  refine own_istoreN X2 hx (Ls' := #[.val (.ref a1), .val (.ref a2), .val (.ref a3), .val (.int (0 : Int32)), .unset, .unset]) (hb hby d7_12) rfl ?_
  refine own_iloadN X2 hx (hb hby d7_13) rfl ?_
  refine own_aloadN X2 hx (hb hby d7_14) rfl rfl ?_
  refine own_getFR X2 hx hZ hown (own_w hw 68 rfl) e2 f9 (hb hby d7_15) ?_
  refine own_icmpNo X2 hx (hb hby d7_18) (tlt (by decide : (0 : Int32) < (1 : Int32))).2.1 ?_
  refine own_aloadN X2 hx (hb hby d7_21) rfl rfl ?_
  refine own_getFR X2 hx hZ hown (own_w hw 135 rfl) e2 f7 (hb hby d7_22) ?_
  refine own_iloadN X2 hx (hb hby d7_25) rfl ?_
  refine own_aaload X2 hx hZ e2 f11 rfl ⟨by decide, by decide⟩ (v := (.ref k0)) rfl (hb hby d7_26) ?_
  refine own_aloadN X2 hx (hb hby d7_27) rfl rfl ?_
  refine own_callS X2 hx hZ hown (y := y25) (own_w hw 164 rfl) (own_w hw 165 rfl) (own_w hw 138 rfl) (own_w hw 166 rfl) (by decide) (W := 0) (by decide) (by decide) N2 e2 (by rw [hml]; rfl) (argsL := [(.ref k0), (.ref a3)]) (rest := []) (lenOf pd_11 rfl) (Nat.le_of_eq rfl) (by decide) (by decide) (rm25e l Z a0 hw [] k0 a3 c0 c1 x y h0 n0 O0 f18 f19 f20 hxy) rfl (hb hby d7_28) ?_
  intro v3 T3 lc3 X3 N3 hQ3
  obtain ⟨rfl, e3⟩ := hQ3
  refine own_ifNo X3 hx (hb hby d7_31) ((if0 _ _).trans (feq (by decide : ¬ ((1 : Int32) = (0 : Int32)))).1) ?_
  refine own_aconst_null X3 hx (hb hby d7_34) ?_
  show Goes _ _ _ _ _ _ (T3.setTop (mkF m 35 #[.val (.ref a1), .val (.ref a2), .val (.ref a3), .val (.int (0 : Int32)), .unset, .unset] [.null]))
  exact own_retR X3 hx N3 hlk (by decide) (by decide) hret rfl rfl rfl (hb hby d7_35) (by rw [e3]; exact ⟨rfl, rfl⟩)
def Q71l (Z : State) (a1 : Addr) (a2 : Addr) (a3 : Addr) (te : Int64) (r : Addr) (d : Addr) (sz : Int32) (ed : Int64) (kr : Addr) (kk : ClassId) (k0 : Addr) (x : Int32) (y : Int32) (c0 : ClassId) (c1 : ClassId) (h0 : Heap) (n0 : Nat) (v : Option Value) (h : Heap) : Prop :=
  (v = some .null ∧ Keep h0 h [a1, a2, kr] ∧ Exa Z h a1 cT ∧ Fld Z h a1 cT "edit" "J" (.long te) ∧ Fld Z h a1 cT "root" dN (.ref r) ∧ Fld Z h a1 cT "draft" dN (.ref d) ∧ Fld Z h a1 cT "size" "I" (.int (sz + (1 : Int32))) ∧ Exa Z h a2 cN ∧ Fld Z h a2 cN "edit" "J" (.long ed) ∧ Fld Z h a2 cN "keys" "[[B" (.ref kr) ∧ Fld Z h a2 cN "children" dA .null ∧ Fld Z h a2 cN "size" "I" (.int (2 : Int32)) ∧ Exa Z h kr "[[B" ∧ Arv Z h kr kk (.array .byte) (64 : Int32) [(.ref k0), (.ref a3), .null] .null)
theorem ef_71l (m : MethodId) (a1 : Addr) (a2 : Addr) (a3 : Addr) : entryFrame m #[(.ref a1), (.ref a2), (.ref a3)] 6 = mkF m 0 #[.val (.ref a1), .val (.ref a2), .val (.ref a3), .unset, .unset, .unset] [] := by first | (simp [entryFrame, mkF, argsToLocals, Value.category]; done) | rfl
set_option maxRecDepth 65536 in
set_option maxHeartbeats 40000000 in
theorem rm71l (l : Launch) (Z : State) (a0 : Array Value) (hw : ∀ d ∈ tables_1, d.before a0 Z = true) (ws : List Jvm.Cond) (a1 : Addr) (a2 : Addr) (a3 : Addr) (te : Int64) (r : Addr) (d : Addr) (sz : Int32) (ed : Int64) (kr : Addr) (kk : ClassId) (k0 : Addr) (x : Int32) (y : Int32) (c0 : ClassId) (c1 : ClassId) (h0 : Heap) (n0 : Nat) (O0 : Old Z n0 h0) (f0 : Exa Z h0 a1 cT) (f1 : Fld Z h0 a1 cT "edit" "J" (.long te)) (f2 : Fld Z h0 a1 cT "root" dN (.ref r)) (f3 : Fld Z h0 a1 cT "draft" dN (.ref d)) (f4 : Fld Z h0 a1 cT "size" "I" (.int sz)) (f5 : Exa Z h0 a2 cN) (f6 : Fld Z h0 a2 cN "edit" "J" (.long ed)) (f7 : Fld Z h0 a2 cN "keys" "[[B" (.ref kr)) (f8 : Fld Z h0 a2 cN "children" dA .null) (f9 : Fld Z h0 a2 cN "size" "I" (.int (1 : Int32))) (f10 : Exa Z h0 kr "[[B") (f11 : Arv Z h0 kr kk (.array .byte) (64 : Int32) [(.ref k0), .null, .null] .null) (hov : OvrA Z kk .byte "[B") (f13 : n0 ≤ a1) (f14 : n0 ≤ a2) (f15 : n0 ≤ kr) (f16 : Exa Z h0 a3 "[B") (f17 : Exa Z h0 k0 "[B") (f18 : Arv Z h0 k0 c0 .byte (1 : Int32) [(.int x)] (.int (0 : Int32))) (f19 : Arv Z h0 a3 c1 .byte (1 : Int32) [(.int y)] (.int (0 : Int32))) (f20 : k0 ≠ a3) (hxy : ¬ (x = y)) (hlt : ((x &&& (255 : Int32)) - (y &&& (255 : Int32))) < (0 : Int32)) :
    Meets l y7 prog_35_method_11_code 6 (some (.object cN)) ws ({ frames := 4, cells := 0, slots := 0, locals := 56 } : Room) ({ frames := 4, cells := 0, slots := 0, locals := 56 } : Room).cells ({ frames := 4, cells := 0, slots := 0, locals := 56 } : Room).slots Z #[(.ref a1), (.ref a2), (.ref a3)] h0 n0 (Q71l Z a1 a2 a3 te r d sz ed kr kk k0 x y c0 c1 h0 n0) := by
  refine Meets.of (F := fun m => mkF m 0 #[.val (.ref a1), .val (.ref a2), .val (.ref a3), .unset, .unset, .unset] []) (plainFor_of_name pn_5) (fun m => ef_71l m a1 a2 a3) ?_
  intro p e s m below meth c T0 hx hby hml hown0 hnm hret hlk hZ X0 e0
  have hown : s.vm.findClass cT = some m.cls := hown0
  have N0 := Fr.nil n0
  have KC0 := Keep.refl h0 [a1, a2, kr]
  show Goes _ _ _ _ _ _ (T0.setTop (mkF m 0 #[.val (.ref a1), .val (.ref a2), .val (.ref a3), .unset, .unset, .unset] []))
  refine own_aloadN X0 hx (hb hby d7_0) rfl rfl ?_
  refine own_privateR X0 hx hZ hown (y := y8) (own_w hw 61 rfl) (own_w hw 62 rfl) (own_w hw 13 rfl) (own_w hw 63 rfl) (own_w hw 14 rfl) (own_w hw 64 rfl) (a := a2) f5 (by decide) (W := 0) (by decide) (by decide) N0 e0 (by rw [hml]; rfl) (argsL := []) (rest := []) (lenOf pd_8 rfl) (Nat.le_of_eq rfl) (by decide) (by decide) (rm8 l Z a0 hw [] a2 h0 n0 O0 f8) rfl (hb hby d7_1) ?_
  intro v1 T1 lc1 X1 N1 hQ1
  obtain ⟨rfl, e1⟩ := hQ1
  refine own_ifNo X1 hx (hb hby d7_4) ((if0 _ _).trans (feq (by decide : ¬ ((1 : Int32) = (0 : Int32)))).1) ?_
  refine own_aloadN X1 hx (hb hby d7_7) rfl rfl ?_
  refine own_aloadN X1 hx (hb hby d7_8) rfl rfl ?_
  refine own_callS X1 hx hZ hown (y := y9) (own_w hw 65 rfl) (own_w hw 66 rfl) (own_w hw 3 rfl) (own_w hw 67 rfl) (by decide) (W := 0) (by decide) (by decide) N1 e1 (by rw [hml]; rfl) (argsL := [(.ref a2), (.ref a3)]) (rest := []) (lenOf pd_9 rfl) (Nat.le_of_eq rfl) (by decide) (by decide) (rm91l l Z a0 hw [] a2 a3 kr kk k0 x y c0 c1 h0 n0 O0 f7 f9 f11 f18 f19 f20 hxy hlt) rfl (hb hby d7_9) ?_
  intro v2 T2 lc2 X2 N2 hQ2
  obtain ⟨rfl, e2⟩ := hQ2
  refine own_istoreN X2 hx (Ls' := #[.val (.ref a1), .val (.ref a2), .val (.ref a3), .val (.int (1 : Int32)), .unset, .unset]) (hb hby d7_12) rfl ?_
  refine own_iloadN X2 hx (hb hby d7_13) rfl ?_
  refine own_aloadN X2 hx (hb hby d7_14) rfl rfl ?_
  refine own_getFR X2 hx hZ hown (own_w hw 68 rfl) e2 f9 (hb hby d7_15) ?_
  refine own_icmpYes X2 hx (pc' := 36) (hb hby d7_18) (flt (by decide : ¬ ((1 : Int32) < (1 : Int32)))).2.1 (by decide) (by decide) ?_
  refine own_aloadN X2 hx (hb hby d7_36) rfl rfl ?_
  refine own_dup X2 hx (hb hby d7_37) rfl ?_
  refine own_getF X2 hx hZ hown (host := "") (Or.inl (own_w hw 36 rfl)) Via.refl e2 f4 (hb hby d7_38) (fun T3 X3 e3 => ?_)
  refine own_iconst X3 hx (v := (1 : Int32)) (hb hby d7_41) rfl ?_
  refine own_iadd X3 hx (hb hby d7_42) ?_
  refine own_putF X3 hx hZ hown N2 (host := "") (Or.inl (own_w hw 36 rfl)) Via.refl e3 f4 f0 (Or.inl (own_w hw 37 rfl)) (own_w hw 2 rfl) (ty := .int) (by decide) rfl rfl f13 (hb hby d7_43) (fun T4 h4 lc4 X4 e4 N4 W4 => ?_)
  have E5_a1 := f0.wr W4
  have E5_a2 := f5.wr W4
  have E5_kr := f10.wr W4
  have E5_a3 := f16.wr W4
  have E5_k0 := f17.wr W4
  have F5_edit_a1 := f1.other W4 (Or.inr (slot_ne (Or.inl (own_w hw 11 rfl)) (Or.inl (own_w hw 37 rfl)) (by decide) (t := .long) (t' := .int) (by decide) (by decide)))
  have F5_root_a1 := f2.other W4 (Or.inr (slot_ne (Or.inl (own_w hw 28 rfl)) (Or.inl (own_w hw 37 rfl)) (by decide) (t := (.object cN)) (t' := .int) (by decide) (by decide)))
  have F5_draft_a1 := f3.other W4 (Or.inr (slot_ne (Or.inl (own_w hw 30 rfl)) (Or.inl (own_w hw 37 rfl)) (by decide) (t := (.object cN)) (t' := .int) (by decide) (by decide)))
  have F5_size_a1 := f4.same W4
  have F5_edit_a2 := f6.other W4 (Or.inl (ne_exa f5 f0 (by decide)))
  have F5_keys_a2 := f7.other W4 (Or.inl (ne_exa f5 f0 (by decide)))
  have F5_children_a2 := f8.other W4 (Or.inl (ne_exa f5 f0 (by decide)))
  have F5_size_a2 := f9.other W4 (Or.inl (ne_exa f5 f0 (by decide)))
  have A5_kr := f11.other W4 (ne_exa f10 f0 (by decide))
  have O5 := O0.wr W4 f13
  have KC5 := KC0.wr W4 (Or.inl (List.mem_of_getElem? (i := 0) rfl))
  refine own_aloadN X4 hx (hb hby d7_46) rfl rfl ?_
  refine own_aloadN X4 hx (hb hby d7_47) rfl rfl ?_
  refine own_iloadN X4 hx (hb hby d7_48) rfl ?_
  refine own_aloadN X4 hx (hb hby d7_49) rfl rfl ?_
  refine own_aconst_null X4 hx (hb hby d7_50) ?_
  refine own_private X4 hx hZ hown (y := y10) (own_w hw 69 rfl) (own_w hw 70 rfl) (own_w hw 2 rfl) (own_w hw 71 rfl) (own_w hw 3 rfl) (own_w hw 72 rfl) (a := a1) E5_a1 (by decide) (W := 0) (by decide) (by decide) N4 e4 (by rw [hml]; rfl) (argsL := [(.ref a2), (.int (1 : Int32)), (.ref a3), .null]) (rest := []) (lenOf pd_10 rfl) (Nat.le_of_eq rfl) (by decide) (by decide) (rm1011 l Z a0 hw [] a1 a2 a3 ed kr kk k0 h4 n0 O5 E5_a2 F5_edit_a2 F5_keys_a2 F5_children_a2 F5_size_a2 E5_kr A5_kr hov E5_a3 f14 f15 E5_k0) rfl (hb hby d7_51) ?_
  intro v6 T6 lc6 X6 N6 hQ6
  obtain ⟨rfl, K6, r6_0, r6_1, r6_2, r6_3, r6_4, r6_5, r6_6⟩ := hQ6
  have E7_a1 := E5_a1.keep K6
  have F7_edit_a1 := F5_edit_a1.keep K6 (ninS (ne_exa E5_a1 E5_a2 (by decide)) (ninS (ne_exa E5_a1 E5_kr (by decide)) nin0))
  have F7_root_a1 := F5_root_a1.keep K6 (ninS (ne_exa E5_a1 E5_a2 (by decide)) (ninS (ne_exa E5_a1 E5_kr (by decide)) nin0))
  have F7_draft_a1 := F5_draft_a1.keep K6 (ninS (ne_exa E5_a1 E5_a2 (by decide)) (ninS (ne_exa E5_a1 E5_kr (by decide)) nin0))
  have F7_size_a1 := F5_size_a1.keep K6 (ninS (ne_exa E5_a1 E5_a2 (by decide)) (ninS (ne_exa E5_a1 E5_kr (by decide)) nin0))
  have O7 := O5.keep K6 (allS f14 (allS f15 all0))
  have KC7 := KC5.trans K6 (allS (Or.inl (List.mem_of_getElem? (i := 1) rfl)) (allS (Or.inl (List.mem_of_getElem? (i := 2) rfl)) all0))
  show Goes _ _ _ _ _ _ (T6.setTop (mkF m 54 #[.val (.ref a1), .val (.ref a2), .val (.ref a3), .val (.int (1 : Int32)), .unset, .unset] [.null]))
  exact own_retR X6 hx N6 hlk (by decide) (by decide) hret rfl rfl rfl (hb hby d7_54) (⟨rfl, KC7, E7_a1, F7_edit_a1, F7_root_a1, F7_draft_a1, F7_size_a1, r6_0, r6_1, r6_2, r6_3, r6_4, r6_5, r6_6⟩)
def Q71g (Z : State) (a1 : Addr) (a2 : Addr) (a3 : Addr) (te : Int64) (r : Addr) (d : Addr) (sz : Int32) (ed : Int64) (kr : Addr) (kk : ClassId) (k0 : Addr) (x : Int32) (y : Int32) (c0 : ClassId) (c1 : ClassId) (h0 : Heap) (n0 : Nat) (v : Option Value) (h : Heap) : Prop :=
  (v = some .null ∧ Keep h0 h [a1, a2, kr] ∧ Exa Z h a1 cT ∧ Fld Z h a1 cT "edit" "J" (.long te) ∧ Fld Z h a1 cT "root" dN (.ref r) ∧ Fld Z h a1 cT "draft" dN (.ref d) ∧ Fld Z h a1 cT "size" "I" (.int (sz + (1 : Int32))) ∧ Exa Z h a2 cN ∧ Fld Z h a2 cN "edit" "J" (.long ed) ∧ Fld Z h a2 cN "keys" "[[B" (.ref kr) ∧ Fld Z h a2 cN "children" dA .null ∧ Fld Z h a2 cN "size" "I" (.int (2 : Int32)) ∧ Exa Z h kr "[[B" ∧ Arv Z h kr kk (.array .byte) (64 : Int32) [(.ref a3), (.ref k0), .null] .null)
theorem ef_71g (m : MethodId) (a1 : Addr) (a2 : Addr) (a3 : Addr) : entryFrame m #[(.ref a1), (.ref a2), (.ref a3)] 6 = mkF m 0 #[.val (.ref a1), .val (.ref a2), .val (.ref a3), .unset, .unset, .unset] [] := by first | (simp [entryFrame, mkF, argsToLocals, Value.category]; done) | rfl
set_option maxRecDepth 65536 in
set_option maxHeartbeats 40000000 in
theorem rm71g (l : Launch) (Z : State) (a0 : Array Value) (hw : ∀ d ∈ tables_1, d.before a0 Z = true) (ws : List Jvm.Cond) (a1 : Addr) (a2 : Addr) (a3 : Addr) (te : Int64) (r : Addr) (d : Addr) (sz : Int32) (ed : Int64) (kr : Addr) (kk : ClassId) (k0 : Addr) (x : Int32) (y : Int32) (c0 : ClassId) (c1 : ClassId) (h0 : Heap) (n0 : Nat) (O0 : Old Z n0 h0) (f0 : Exa Z h0 a1 cT) (f1 : Fld Z h0 a1 cT "edit" "J" (.long te)) (f2 : Fld Z h0 a1 cT "root" dN (.ref r)) (f3 : Fld Z h0 a1 cT "draft" dN (.ref d)) (f4 : Fld Z h0 a1 cT "size" "I" (.int sz)) (f5 : Exa Z h0 a2 cN) (f6 : Fld Z h0 a2 cN "edit" "J" (.long ed)) (f7 : Fld Z h0 a2 cN "keys" "[[B" (.ref kr)) (f8 : Fld Z h0 a2 cN "children" dA .null) (f9 : Fld Z h0 a2 cN "size" "I" (.int (1 : Int32))) (f10 : Exa Z h0 kr "[[B") (f11 : Arv Z h0 kr kk (.array .byte) (64 : Int32) [(.ref k0), .null, .null] .null) (hov : OvrA Z kk .byte "[B") (f13 : n0 ≤ a1) (f14 : n0 ≤ a2) (f15 : n0 ≤ kr) (f16 : Exa Z h0 a3 "[B") (f17 : Exa Z h0 k0 "[B") (f18 : Arv Z h0 k0 c0 .byte (1 : Int32) [(.int x)] (.int (0 : Int32))) (f19 : Arv Z h0 a3 c1 .byte (1 : Int32) [(.int y)] (.int (0 : Int32))) (f20 : k0 ≠ a3) (hxy : ¬ (x = y)) (hlt : ¬ (((x &&& (255 : Int32)) - (y &&& (255 : Int32))) < (0 : Int32))) :
    Meets l y7 prog_35_method_11_code 6 (some (.object cN)) ws ({ frames := 4, cells := 0, slots := 0, locals := 56 } : Room) ({ frames := 4, cells := 0, slots := 0, locals := 56 } : Room).cells ({ frames := 4, cells := 0, slots := 0, locals := 56 } : Room).slots Z #[(.ref a1), (.ref a2), (.ref a3)] h0 n0 (Q71g Z a1 a2 a3 te r d sz ed kr kk k0 x y c0 c1 h0 n0) := by
  refine Meets.of (F := fun m => mkF m 0 #[.val (.ref a1), .val (.ref a2), .val (.ref a3), .unset, .unset, .unset] []) (plainFor_of_name pn_5) (fun m => ef_71g m a1 a2 a3) ?_
  intro p e s m below meth c T0 hx hby hml hown0 hnm hret hlk hZ X0 e0
  have hown : s.vm.findClass cT = some m.cls := hown0
  have N0 := Fr.nil n0
  have KC0 := Keep.refl h0 [a1, a2, kr]
  show Goes _ _ _ _ _ _ (T0.setTop (mkF m 0 #[.val (.ref a1), .val (.ref a2), .val (.ref a3), .unset, .unset, .unset] []))
  refine own_aloadN X0 hx (hb hby d7_0) rfl rfl ?_
  refine own_privateR X0 hx hZ hown (y := y8) (own_w hw 61 rfl) (own_w hw 62 rfl) (own_w hw 13 rfl) (own_w hw 63 rfl) (own_w hw 14 rfl) (own_w hw 64 rfl) (a := a2) f5 (by decide) (W := 0) (by decide) (by decide) N0 e0 (by rw [hml]; rfl) (argsL := []) (rest := []) (lenOf pd_8 rfl) (Nat.le_of_eq rfl) (by decide) (by decide) (rm8 l Z a0 hw [] a2 h0 n0 O0 f8) rfl (hb hby d7_1) ?_
  intro v1 T1 lc1 X1 N1 hQ1
  obtain ⟨rfl, e1⟩ := hQ1
  refine own_ifNo X1 hx (hb hby d7_4) ((if0 _ _).trans (feq (by decide : ¬ ((1 : Int32) = (0 : Int32)))).1) ?_
  refine own_aloadN X1 hx (hb hby d7_7) rfl rfl ?_
  refine own_aloadN X1 hx (hb hby d7_8) rfl rfl ?_
  refine own_callS X1 hx hZ hown (y := y9) (own_w hw 65 rfl) (own_w hw 66 rfl) (own_w hw 3 rfl) (own_w hw 67 rfl) (by decide) (W := 0) (by decide) (by decide) N1 e1 (by rw [hml]; rfl) (argsL := [(.ref a2), (.ref a3)]) (rest := []) (lenOf pd_9 rfl) (Nat.le_of_eq rfl) (by decide) (by decide) (rm91g l Z a0 hw [] a2 a3 kr kk k0 x y c0 c1 h0 n0 O0 f7 f9 f11 f18 f19 f20 hxy hlt) rfl (hb hby d7_9) ?_
  intro v2 T2 lc2 X2 N2 hQ2
  obtain ⟨rfl, e2⟩ := hQ2
  refine own_istoreN X2 hx (Ls' := #[.val (.ref a1), .val (.ref a2), .val (.ref a3), .val (.int (0 : Int32)), .unset, .unset]) (hb hby d7_12) rfl ?_
  refine own_iloadN X2 hx (hb hby d7_13) rfl ?_
  refine own_aloadN X2 hx (hb hby d7_14) rfl rfl ?_
  refine own_getFR X2 hx hZ hown (own_w hw 68 rfl) e2 f9 (hb hby d7_15) ?_
  refine own_icmpNo X2 hx (hb hby d7_18) (tlt (by decide : (0 : Int32) < (1 : Int32))).2.1 ?_
  refine own_aloadN X2 hx (hb hby d7_21) rfl rfl ?_
  refine own_getFR X2 hx hZ hown (own_w hw 135 rfl) e2 f7 (hb hby d7_22) ?_
  refine own_iloadN X2 hx (hb hby d7_25) rfl ?_
  refine own_aaload X2 hx hZ e2 f11 rfl ⟨by decide, by decide⟩ (v := (.ref k0)) rfl (hb hby d7_26) ?_
  refine own_aloadN X2 hx (hb hby d7_27) rfl rfl ?_
  refine own_callS X2 hx hZ hown (y := y25) (own_w hw 164 rfl) (own_w hw 165 rfl) (own_w hw 138 rfl) (own_w hw 166 rfl) (by decide) (W := 0) (by decide) (by decide) N2 e2 (by rw [hml]; rfl) (argsL := [(.ref k0), (.ref a3)]) (rest := []) (lenOf pd_11 rfl) (Nat.le_of_eq rfl) (by decide) (by decide) (rm25d l Z a0 hw [] k0 a3 c0 c1 x y h0 n0 O0 f18 f19 f20 hxy) rfl (hb hby d7_28) ?_
  intro v3 T3 lc3 X3 N3 hQ3
  obtain ⟨rfl, e3⟩ := hQ3
  refine own_ifYes X3 hx (pc' := 36) (hb hby d7_31) ((if0 _ _).trans (teq (by decide : (0 : Int32) = (0 : Int32))).1) (by decide) (by decide) ?_
  refine own_aloadN X3 hx (hb hby d7_36) rfl rfl ?_
  refine own_dup X3 hx (hb hby d7_37) rfl ?_
  refine own_getF X3 hx hZ hown (host := "") (Or.inl (own_w hw 36 rfl)) Via.refl e3 f4 (hb hby d7_38) (fun T4 X4 e4 => ?_)
  refine own_iconst X4 hx (v := (1 : Int32)) (hb hby d7_41) rfl ?_
  refine own_iadd X4 hx (hb hby d7_42) ?_
  refine own_putF X4 hx hZ hown N3 (host := "") (Or.inl (own_w hw 36 rfl)) Via.refl e4 f4 f0 (Or.inl (own_w hw 37 rfl)) (own_w hw 2 rfl) (ty := .int) (by decide) rfl rfl f13 (hb hby d7_43) (fun T5 h5 lc5 X5 e5 N5 W5 => ?_)
  have E6_a1 := f0.wr W5
  have E6_a2 := f5.wr W5
  have E6_kr := f10.wr W5
  have E6_a3 := f16.wr W5
  have E6_k0 := f17.wr W5
  have F6_edit_a1 := f1.other W5 (Or.inr (slot_ne (Or.inl (own_w hw 11 rfl)) (Or.inl (own_w hw 37 rfl)) (by decide) (t := .long) (t' := .int) (by decide) (by decide)))
  have F6_root_a1 := f2.other W5 (Or.inr (slot_ne (Or.inl (own_w hw 28 rfl)) (Or.inl (own_w hw 37 rfl)) (by decide) (t := (.object cN)) (t' := .int) (by decide) (by decide)))
  have F6_draft_a1 := f3.other W5 (Or.inr (slot_ne (Or.inl (own_w hw 30 rfl)) (Or.inl (own_w hw 37 rfl)) (by decide) (t := (.object cN)) (t' := .int) (by decide) (by decide)))
  have F6_size_a1 := f4.same W5
  have F6_edit_a2 := f6.other W5 (Or.inl (ne_exa f5 f0 (by decide)))
  have F6_keys_a2 := f7.other W5 (Or.inl (ne_exa f5 f0 (by decide)))
  have F6_children_a2 := f8.other W5 (Or.inl (ne_exa f5 f0 (by decide)))
  have F6_size_a2 := f9.other W5 (Or.inl (ne_exa f5 f0 (by decide)))
  have A6_kr := f11.other W5 (ne_exa f10 f0 (by decide))
  have O6 := O0.wr W5 f13
  have KC6 := KC0.wr W5 (Or.inl (List.mem_of_getElem? (i := 0) rfl))
  refine own_aloadN X5 hx (hb hby d7_46) rfl rfl ?_
  refine own_aloadN X5 hx (hb hby d7_47) rfl rfl ?_
  refine own_iloadN X5 hx (hb hby d7_48) rfl ?_
  refine own_aloadN X5 hx (hb hby d7_49) rfl rfl ?_
  refine own_aconst_null X5 hx (hb hby d7_50) ?_
  refine own_private X5 hx hZ hown (y := y10) (own_w hw 69 rfl) (own_w hw 70 rfl) (own_w hw 2 rfl) (own_w hw 71 rfl) (own_w hw 3 rfl) (own_w hw 72 rfl) (a := a1) E6_a1 (by decide) (W := 0) (by decide) (by decide) N5 e5 (by rw [hml]; rfl) (argsL := [(.ref a2), (.int (0 : Int32)), (.ref a3), .null]) (rest := []) (lenOf pd_10 rfl) (Nat.le_of_eq rfl) (by decide) (by decide) (rm1010 l Z a0 hw [] a1 a2 a3 ed kr kk k0 h5 n0 O6 E6_a2 F6_edit_a2 F6_keys_a2 F6_children_a2 F6_size_a2 E6_kr A6_kr hov E6_a3 f14 f15 E6_k0) rfl (hb hby d7_51) ?_
  intro v7 T7 lc7 X7 N7 hQ7
  obtain ⟨rfl, K7, r7_0, r7_1, r7_2, r7_3, r7_4, r7_5, r7_6⟩ := hQ7
  have E8_a1 := E6_a1.keep K7
  have F8_edit_a1 := F6_edit_a1.keep K7 (ninS (ne_exa E6_a1 E6_a2 (by decide)) (ninS (ne_exa E6_a1 E6_kr (by decide)) nin0))
  have F8_root_a1 := F6_root_a1.keep K7 (ninS (ne_exa E6_a1 E6_a2 (by decide)) (ninS (ne_exa E6_a1 E6_kr (by decide)) nin0))
  have F8_draft_a1 := F6_draft_a1.keep K7 (ninS (ne_exa E6_a1 E6_a2 (by decide)) (ninS (ne_exa E6_a1 E6_kr (by decide)) nin0))
  have F8_size_a1 := F6_size_a1.keep K7 (ninS (ne_exa E6_a1 E6_a2 (by decide)) (ninS (ne_exa E6_a1 E6_kr (by decide)) nin0))
  have O8 := O6.keep K7 (allS f14 (allS f15 all0))
  have KC8 := KC6.trans K7 (allS (Or.inl (List.mem_of_getElem? (i := 1) rfl)) (allS (Or.inl (List.mem_of_getElem? (i := 2) rfl)) all0))
  show Goes _ _ _ _ _ _ (T7.setTop (mkF m 54 #[.val (.ref a1), .val (.ref a2), .val (.ref a3), .val (.int (0 : Int32)), .unset, .unset] [.null]))
  exact own_retR X7 hx N7 hlk (by decide) (by decide) hret rfl rfl rfl (hb hby d7_54) (⟨rfl, KC8, E8_a1, F8_edit_a1, F8_root_a1, F8_draft_a1, F8_size_a1, r7_0, r7_1, r7_2, r7_3, r7_4, r7_5, r7_6⟩)
theorem d4_0 : decode prog_35_method_4_code 0 = .ok (.aload_n 0, 1) := by decide +kernel
theorem d4_1 : decode prog_35_method_4_code 1 = .ok (.getfield 25, 3) := by decide +kernel
theorem d4_4 : decode prog_35_method_4_code 4 = .ok (.istore_n 2, 1) := by decide +kernel
theorem d4_5 : decode prog_35_method_4_code 5 = .ok (.aload_n 0, 1) := by decide +kernel
theorem d4_6 : decode prog_35_method_4_code 6 = .ok (.aload_n 0, 1) := by decide +kernel
theorem d4_7 : decode prog_35_method_4_code 7 = .ok (.aload_n 0, 1) := by decide +kernel
theorem d4_8 : decode prog_35_method_4_code 8 = .ok (.getfield 22, 3) := by decide +kernel
theorem d4_11 : decode prog_35_method_4_code 11 = .ok (.invokevirtual 29, 3) := by decide +kernel
theorem pd_12 : parseMethodDescriptor "(Lcom/example/contention/contention/KeyTree$Node;)Lcom/example/contention/contention/KeyTree$Node;" = some ⟨[(.object cN)], some (.object cN)⟩ := by decide +kernel
theorem d4_14 : decode prog_35_method_4_code 14 = .ok (.putfield 22, 3) := by decide +kernel
theorem d4_17 : decode prog_35_method_4_code 17 = .ok (.aload_n 0, 1) := by decide +kernel
theorem d4_18 : decode prog_35_method_4_code 18 = .ok (.aload_n 0, 1) := by decide +kernel
theorem d4_19 : decode prog_35_method_4_code 19 = .ok (.getfield 22, 3) := by decide +kernel
theorem d4_22 : decode prog_35_method_4_code 22 = .ok (.aload_n 1, 1) := by decide +kernel
theorem d4_23 : decode prog_35_method_4_code 23 = .ok (.invokevirtual 33, 3) := by decide +kernel
theorem pd_13 : parseMethodDescriptor "(Lcom/example/contention/contention/KeyTree$Node;[B)Lcom/example/contention/contention/KeyTree$Node;" = some ⟨[(.object cN), (.array .byte)], some (.object cN)⟩ := by decide +kernel
theorem d4_26 : decode prog_35_method_4_code 26 = .ok (.astore_n 3, 1) := by decide +kernel
theorem d4_27 : decode prog_35_method_4_code 27 = .ok (.aload_n 3, 1) := by decide +kernel
theorem d4_28 : decode prog_35_method_4_code 28 = .ok (.ifnull 47, 3) := by decide +kernel
theorem d4_75 : decode prog_35_method_4_code 75 = .ok (.aload_n 0, 1) := by decide +kernel
theorem d4_76 : decode prog_35_method_4_code 76 = .ok (.getfield 25, 3) := by decide +kernel
theorem d4_79 : decode prog_35_method_4_code 79 = .ok (.iload_n 2, 1) := by decide +kernel
theorem d4_80 : decode prog_35_method_4_code 80 = .ok (.if_icmp .le 7, 3) := by decide +kernel
theorem d4_83 : decode prog_35_method_4_code 83 = .ok (.iconst 1, 1) := by decide +kernel
theorem d4_84 : decode prog_35_method_4_code 84 = .ok (.goto 4, 3) := by decide +kernel
theorem d4_88 : decode prog_35_method_4_code 88 = .ok (.ireturn, 1) := by decide +kernel
theorem d4_87 : decode prog_35_method_4_code 87 = .ok (.iconst 0, 1) := by decide +kernel
def Q40 (Z : State) (a1 : Addr) (a2 : Addr) (te : Int64) (n : Addr) (sz : Int32) (en : Int64) (kr : Addr) (kk : ClassId) (h0 : Heap) (n0 : Nat) (v : Option Value) (h : Heap) : Prop :=
  (∃ (w : Int32) (b : Addr) (kr2 : Addr), v = some (.int w) ∧ Keep h0 h [a1] ∧ Exa Z h a1 cT ∧ Fld Z h a1 cT "edit" "J" (.long te) ∧ Fld Z h a1 cT "root" dN (.ref n) ∧ Fld Z h a1 cT "draft" dN (.ref b) ∧ Fld Z h a1 cT "size" "I" (.int (sz + (1 : Int32))) ∧ Exa Z h b cN ∧ Fld Z h b cN "edit" "J" (.long te) ∧ Fld Z h b cN "keys" "[[B" (.ref kr2) ∧ Fld Z h b cN "children" dA .null ∧ Fld Z h b cN "size" "I" (.int (1 : Int32)) ∧ Exa Z h kr2 "[[B" ∧ Arv Z h kr2 kk (.array .byte) (64 : Int32) [(.ref a2), .null, .null] .null ∧ h0.size ≤ b ∧ h0.size ≤ kr2)
theorem ef_40 (m : MethodId) (a1 : Addr) (a2 : Addr) : entryFrame m #[(.ref a1), (.ref a2)] 5 = mkF m 0 #[.val (.ref a1), .val (.ref a2), .unset, .unset, .unset] [] := by first | (simp [entryFrame, mkF, argsToLocals, Value.category]; done) | rfl
set_option maxRecDepth 65536 in
set_option maxHeartbeats 40000000 in
theorem rm40 (l : Launch) (Z : State) (a0 : Array Value) (hw : ∀ d ∈ tables_1, d.before a0 Z = true) (ws : List Jvm.Cond) (a1 : Addr) (a2 : Addr) (te : Int64) (n : Addr) (sz : Int32) (en : Int64) (kr : Addr) (kk : ClassId) (h0 : Heap) (n0 : Nat) (O0 : Old Z n0 h0) (f0 : Exa Z h0 a1 cT) (f1 : Fld Z h0 a1 cT "edit" "J" (.long te)) (f2 : Fld Z h0 a1 cT "root" dN (.ref n)) (f3 : Fld Z h0 a1 cT "draft" dN (.ref n)) (f4 : Fld Z h0 a1 cT "size" "I" (.int sz)) (f5 : Exa Z h0 n cN) (f6 : Fld Z h0 n cN "edit" "J" (.long en)) (f7 : Fld Z h0 n cN "keys" "[[B" (.ref kr)) (f8 : Fld Z h0 n cN "children" dA .null) (f9 : Fld Z h0 n cN "size" "I" (.int (0 : Int32))) (f10 : Exa Z h0 kr "[[B") (f11 : Arv Z h0 kr kk (.array .byte) (64 : Int32) [.null, .null, .null] .null) (hov : OvrA Z kk .byte "[B") (f13 : Exa Z h0 a2 "[B") (f14 : n0 ≤ a1) (hne : ¬ (en = te)) :
    Meets l y4 prog_35_method_4_code 5 (some .boolean) ws ({ frames := 4, cells := 2, slots := 68, locals := 68 } : Room) ({ frames := 4, cells := 2, slots := 68, locals := 68 } : Room).cells ({ frames := 4, cells := 2, slots := 68, locals := 68 } : Room).slots Z #[(.ref a1), (.ref a2)] h0 n0 (Q40 Z a1 a2 te n sz en kr kk h0 n0) := by
  refine Meets.of (F := fun m => mkF m 0 #[.val (.ref a1), .val (.ref a2), .unset, .unset, .unset] []) (plainFor_of_name pn_5) (fun m => ef_40 m a1 a2) ?_
  intro p e s m below meth c T0 hx hby hml hown0 hnm hret hlk hZ X0 e0
  have hown : s.vm.findClass cT = some m.cls := hown0
  have N0 := Fr.nil n0
  have KC0 := Keep.refl h0 [a1]
  show Goes _ _ _ _ _ _ (T0.setTop (mkF m 0 #[.val (.ref a1), .val (.ref a2), .unset, .unset, .unset] []))
  refine own_aloadN X0 hx (hb hby d4_0) rfl rfl ?_
  refine own_getF X0 hx hZ hown (host := "") (Or.inl (own_w hw 36 rfl)) Via.refl e0 f4 (hb hby d4_1) (fun T1 X1 e1 => ?_)
  refine own_istoreN X1 hx (Ls' := #[.val (.ref a1), .val (.ref a2), .val (.int sz), .unset, .unset]) (hb hby d4_4) rfl ?_
  refine own_aloadN X1 hx (hb hby d4_5) rfl rfl ?_
  refine own_aloadN X1 hx (hb hby d4_6) rfl rfl ?_
  refine own_aloadN X1 hx (hb hby d4_7) rfl rfl ?_
  refine own_getF X1 hx hZ hown (host := "") (Or.inl (own_w hw 29 rfl)) Via.refl e1 f3 (hb hby d4_8) (fun T2 X2 e2 => ?_)
  refine own_private X2 hx hZ hown (y := y5) (own_w hw 38 rfl) (own_w hw 39 rfl) (own_w hw 2 rfl) (own_w hw 40 rfl) (own_w hw 3 rfl) (own_w hw 41 rfl) (a := a1) f0 (by decide) (W := 1) (by decide) (by decide) N0 e2 (by rw [hml]; rfl) (argsL := [(.ref n)]) (rest := [(.ref a1)]) (lenOf pd_12 rfl) (Nat.le_of_eq rfl) (by decide) (by decide) (rm5c l Z a0 hw [] a1 n te en kr kk (.null) (.null) (.null) (0 : Int32) h0 n0 O0 f1 f5 f6 f7 f8 f9 f10 f11 hne) rfl (hb hby d4_11) ?_
  intro v3 T3 lc3 X3 N3 hQ3
  obtain ⟨b_3, kr2_3, rfl, K3, r3_0, r3_1, r3_2, r3_3, r3_4, r3_5, r3_6, r3_7, r3_8⟩ := hQ3
  have E4_a1 := f0.keep K3
  have E4_a2 := f13.keep K3
  have F4_edit_a1 := f1.keep K3 nin0
  have F4_root_a1 := f2.keep K3 nin0
  have F4_draft_a1 := f3.keep K3 nin0
  have F4_size_a1 := f4.keep K3 nin0
  have O4 := O0.keep K3 all0
  have KC4 := KC0.trans K3 all0
  have ne_a1_b_3 : a1 ≠ b_3 := Nat.ne_of_lt (Nat.lt_of_lt_of_le f0.lt r3_7)
  have ge_b_3 : n0 ≤ b_3 := Nat.le_trans (own_sz O0) r3_7
  have sz_b_3 : h0.size ≤ b_3 := Nat.le_trans KC0.1 r3_7
  have ne_a1_kr2_3 : a1 ≠ kr2_3 := Nat.ne_of_lt (Nat.lt_of_lt_of_le f0.lt r3_8)
  have ge_kr2_3 : n0 ≤ kr2_3 := Nat.le_trans (own_sz O0) r3_8
  have sz_kr2_3 : h0.size ≤ kr2_3 := Nat.le_trans KC0.1 r3_8
  refine own_putF X3 hx hZ hown N3 (host := "") (Or.inl (own_w hw 29 rfl)) Via.refl rfl F4_draft_a1 E4_a1 (Or.inl (own_w hw 30 rfl)) (own_w hw 2 rfl) (ty := (.object cN)) (by decide) rfl rfl f14 (hb hby d4_14) (fun T5 h5 lc5 X5 e5 N5 W5 => ?_)
  have E6_a1 := E4_a1.wr W5
  have E6_a2 := E4_a2.wr W5
  have E6_b_3 := r3_0.wr W5
  have E6_kr2_3 := r3_5.wr W5
  have F6_edit_a1 := F4_edit_a1.other W5 (Or.inr (slot_ne (Or.inl (own_w hw 11 rfl)) (Or.inl (own_w hw 30 rfl)) (by decide) (t := .long) (t' := (.object cN)) (by decide) (by decide)))
  have F6_root_a1 := F4_root_a1.other W5 (Or.inr (slot_ne (Or.inl (own_w hw 28 rfl)) (Or.inl (own_w hw 30 rfl)) (by decide) (t := (.object cN)) (t' := (.object cN)) (by decide) (by decide)))
  have F6_draft_a1 := F4_draft_a1.same W5
  have F6_size_a1 := F4_size_a1.other W5 (Or.inr (slot_ne (Or.inl (own_w hw 37 rfl)) (Or.inl (own_w hw 30 rfl)) (by decide) (t := .int) (t' := (.object cN)) (by decide) (by decide)))
  have F6_edit_b_3 := r3_1.other W5 (Or.inl (Ne.symm ne_a1_b_3))
  have F6_keys_b_3 := r3_2.other W5 (Or.inl (Ne.symm ne_a1_b_3))
  have F6_children_b_3 := r3_3.other W5 (Or.inl (Ne.symm ne_a1_b_3))
  have F6_size_b_3 := r3_4.other W5 (Or.inl (Ne.symm ne_a1_b_3))
  have A6_kr2_3 := r3_6.other W5 (Ne.symm ne_a1_kr2_3)
  have O6 := O4.wr W5 f14
  have KC6 := KC4.wr W5 (Or.inl (List.mem_of_getElem? (i := 0) rfl))
  refine own_aloadN X5 hx (hb hby d4_17) rfl rfl ?_
  refine own_aloadN X5 hx (hb hby d4_18) rfl rfl ?_
  refine own_getF X5 hx hZ hown (host := "") (Or.inl (own_w hw 29 rfl)) Via.refl e5 F6_draft_a1 (hb hby d4_19) (fun T7 X7 e7 => ?_)
  refine own_aloadN X7 hx (hb hby d4_22) rfl rfl ?_
  refine own_private X7 hx hZ hown (y := y7) (own_w hw 57 rfl) (own_w hw 58 rfl) (own_w hw 2 rfl) (own_w hw 59 rfl) (own_w hw 3 rfl) (own_w hw 60 rfl) (a := a1) E6_a1 (by decide) (W := 0) (by decide) (by decide) N5 e7 (by rw [hml]; rfl) (argsL := [(.ref b_3), (.ref a2)]) (rest := []) (lenOf pd_13 rfl) (Nat.le_of_eq rfl) (by decide) (by decide) (rm70 l Z a0 hw [] a1 b_3 a2 te n b_3 sz te kr2_3 kk h5 n0 O6 E6_a1 F6_edit_a1 F6_root_a1 F6_draft_a1 F6_size_a1 E6_b_3 F6_edit_b_3 F6_keys_b_3 F6_children_b_3 F6_size_b_3 E6_kr2_3 A6_kr2_3 hov f14 ge_b_3 ge_kr2_3 E6_a2) rfl (hb hby d4_23) ?_
  intro v8 T8 lc8 X8 N8 hQ8
  obtain ⟨rfl, K8, r8_0, r8_1, r8_2, r8_3, r8_4, r8_5, r8_6, r8_7, r8_8, r8_9, r8_10, r8_11⟩ := hQ8
  have O9 := O6.keep K8 (allS f14 (allS ge_b_3 (allS ge_kr2_3 all0)))
  have KC9 := KC6.trans K8 (allS (Or.inl (List.mem_of_getElem? (i := 0) rfl)) (allS (Or.inr sz_b_3) (allS (Or.inr sz_kr2_3) all0)))
  refine own_astoreN X8 hx (Ls' := #[.val (.ref a1), .val (.ref a2), .val (.int sz), .val .null, .unset]) (hb hby d4_26) rfl rfl ?_
  refine own_aloadN X8 hx (hb hby d4_27) rfl rfl ?_
  refine own_ifnullYes X8 hx (pc' := 75) (hb hby d4_28) (by decide) (by decide) ?_
  refine own_aloadN X8 hx (hb hby d4_75) rfl rfl ?_
  refine own_getF X8 hx hZ hown (host := "") (Or.inl (own_w hw 36 rfl)) Via.refl rfl r8_4 (hb hby d4_76) (fun T10 X10 e10 => ?_)
  refine own_iloadN X10 hx (hb hby d4_79) rfl ?_
  by_cases hc80_11 : sz < (sz + (1 : Int32))
  ·
    refine own_icmpNo X10 hx (hb hby d4_80) (tlt (hc80_11 : sz < (sz + (1 : Int32)))).2.2.2 ?_
    refine own_iconst X10 hx (v := (1 : Int32)) (hb hby d4_83) rfl ?_
    refine own_goto X10 hx (pc' := 88) (hb hby d4_84) (by decide) (by decide) ?_
    show Goes _ _ _ _ _ _ (T10.setTop (mkF m 88 #[.val (.ref a1), .val (.ref a2), .val (.int sz), .val .null, .unset] [(.int (1 : Int32))]))
    exact own_retN X10 hx (t := .boolean) N8 hlk (by decide) (by decide) hret (by simp) (hb hby d4_88) (by rw [e10]; exact ⟨(1 : Int32), b_3, kr2_3, rfl, KC9, r8_0, r8_1, r8_2, r8_3, r8_4, r8_5, r8_6, r8_7, r8_8, r8_9, r8_10, r8_11, sz_b_3, sz_kr2_3⟩)
  ·
    refine own_icmpYes X10 hx (pc' := 87) (hb hby d4_80) (flt (hc80_11 : ¬ (sz < (sz + (1 : Int32))))).2.2.2 (by decide) (by decide) ?_
    refine own_iconst X10 hx (v := (0 : Int32)) (hb hby d4_87) rfl ?_
    show Goes _ _ _ _ _ _ (T10.setTop (mkF m 88 #[.val (.ref a1), .val (.ref a2), .val (.int sz), .val .null, .unset] [(.int (0 : Int32))]))
    exact own_retN X10 hx (t := .boolean) N8 hlk (by decide) (by decide) hret (by simp) (hb hby d4_88) (by rw [e10]; exact ⟨(0 : Int32), b_3, kr2_3, rfl, KC9, r8_0, r8_1, r8_2, r8_3, r8_4, r8_5, r8_6, r8_7, r8_8, r8_9, r8_10, r8_11, sz_b_3, sz_kr2_3⟩)
def Q4Ae (Z : State) (a1 : Addr) (a2 : Addr) (te : Int64) (r : Addr) (d : Addr) (sz : Int32) (kr : Addr) (kk : ClassId) (k0 : Addr) (x : Int32) (y : Int32) (c0 : ClassId) (c1 : ClassId) (h0 : Heap) (n0 : Nat) (v : Option Value) (h : Heap) : Prop :=
  (∃ (w : Int32), v = some (.int w) ∧ Keep h0 h [a1] ∧ Exa Z h a1 cT ∧ Fld Z h a1 cT "edit" "J" (.long te) ∧ Fld Z h a1 cT "root" dN (.ref r) ∧ Fld Z h a1 cT "draft" dN (.ref d) ∧ Fld Z h a1 cT "size" "I" (.int sz))
theorem ef_4Ae (m : MethodId) (a1 : Addr) (a2 : Addr) : entryFrame m #[(.ref a1), (.ref a2)] 5 = mkF m 0 #[.val (.ref a1), .val (.ref a2), .unset, .unset, .unset] [] := by first | (simp [entryFrame, mkF, argsToLocals, Value.category]; done) | rfl
set_option maxRecDepth 65536 in
set_option maxHeartbeats 40000000 in
theorem rm4Ae (l : Launch) (Z : State) (a0 : Array Value) (hw : ∀ d ∈ tables_1, d.before a0 Z = true) (ws : List Jvm.Cond) (a1 : Addr) (a2 : Addr) (te : Int64) (r : Addr) (d : Addr) (sz : Int32) (kr : Addr) (kk : ClassId) (k0 : Addr) (x : Int32) (y : Int32) (c0 : ClassId) (c1 : ClassId) (h0 : Heap) (n0 : Nat) (O0 : Old Z n0 h0) (f0 : Exa Z h0 a1 cT) (f1 : Fld Z h0 a1 cT "edit" "J" (.long te)) (f2 : Fld Z h0 a1 cT "root" dN (.ref r)) (f3 : Fld Z h0 a1 cT "draft" dN (.ref d)) (f4 : Fld Z h0 a1 cT "size" "I" (.int sz)) (f5 : Exa Z h0 d cN) (f6 : Fld Z h0 d cN "edit" "J" (.long te)) (f7 : Fld Z h0 d cN "keys" "[[B" (.ref kr)) (f8 : Fld Z h0 d cN "children" dA .null) (f9 : Fld Z h0 d cN "size" "I" (.int (1 : Int32))) (f10 : Exa Z h0 kr "[[B") (f11 : Arv Z h0 kr kk (.array .byte) (64 : Int32) [(.ref k0), .null, .null] .null) (hov : OvrA Z kk .byte "[B") (f13 : n0 ≤ a1) (f14 : n0 ≤ d) (f15 : n0 ≤ kr) (f16 : Exa Z h0 a2 "[B") (f17 : Exa Z h0 k0 "[B") (f18 : Arv Z h0 k0 c0 .byte (1 : Int32) [(.int x)] (.int (0 : Int32))) (f19 : Arv Z h0 a2 c1 .byte (1 : Int32) [(.int y)] (.int (0 : Int32))) (f20 : k0 ≠ a2) (hxy : x = y) :
    Meets l y4 prog_35_method_4_code 5 (some .boolean) ws ({ frames := 4, cells := 0, slots := 0, locals := 62 } : Room) ({ frames := 4, cells := 0, slots := 0, locals := 62 } : Room).cells ({ frames := 4, cells := 0, slots := 0, locals := 62 } : Room).slots Z #[(.ref a1), (.ref a2)] h0 n0 (Q4Ae Z a1 a2 te r d sz kr kk k0 x y c0 c1 h0 n0) := by
  refine Meets.of (F := fun m => mkF m 0 #[.val (.ref a1), .val (.ref a2), .unset, .unset, .unset] []) (plainFor_of_name pn_5) (fun m => ef_4Ae m a1 a2) ?_
  intro p e s m below meth c T0 hx hby hml hown0 hnm hret hlk hZ X0 e0
  have hown : s.vm.findClass cT = some m.cls := hown0
  have N0 := Fr.nil n0
  have KC0 := Keep.refl h0 [a1]
  show Goes _ _ _ _ _ _ (T0.setTop (mkF m 0 #[.val (.ref a1), .val (.ref a2), .unset, .unset, .unset] []))
  refine own_aloadN X0 hx (hb hby d4_0) rfl rfl ?_
  refine own_getF X0 hx hZ hown (host := "") (Or.inl (own_w hw 36 rfl)) Via.refl e0 f4 (hb hby d4_1) (fun T1 X1 e1 => ?_)
  refine own_istoreN X1 hx (Ls' := #[.val (.ref a1), .val (.ref a2), .val (.int sz), .unset, .unset]) (hb hby d4_4) rfl ?_
  refine own_aloadN X1 hx (hb hby d4_5) rfl rfl ?_
  refine own_aloadN X1 hx (hb hby d4_6) rfl rfl ?_
  refine own_aloadN X1 hx (hb hby d4_7) rfl rfl ?_
  refine own_getF X1 hx hZ hown (host := "") (Or.inl (own_w hw 29 rfl)) Via.refl e1 f3 (hb hby d4_8) (fun T2 X2 e2 => ?_)
  refine own_private X2 hx hZ hown (y := y5) (own_w hw 38 rfl) (own_w hw 39 rfl) (own_w hw 2 rfl) (own_w hw 40 rfl) (own_w hw 3 rfl) (own_w hw 41 rfl) (a := a1) f0 (by decide) (W := 1) (by decide) (by decide) N0 e2 (by rw [hml]; rfl) (argsL := [(.ref d)]) (rest := [(.ref a1)]) (lenOf pd_12 rfl) (Nat.le_of_eq rfl) (by decide) (by decide) (rm5s l Z a0 hw [] a1 d te h0 n0 O0 f1 f6) rfl (hb hby d4_11) ?_
  intro v3 T3 lc3 X3 N3 hQ3
  obtain ⟨rfl, e3⟩ := hQ3
  refine own_putF X3 hx hZ hown N3 (host := "") (Or.inl (own_w hw 29 rfl)) Via.refl e3 f3 f0 (Or.inl (own_w hw 30 rfl)) (own_w hw 2 rfl) (ty := (.object cN)) (by decide) rfl rfl f13 (hb hby d4_14) (fun T4 h4 lc4 X4 e4 N4 W4 => ?_)
  have E5_a1 := f0.wr W4
  have E5_d := f5.wr W4
  have E5_kr := f10.wr W4
  have E5_a2 := f16.wr W4
  have E5_k0 := f17.wr W4
  have F5_edit_a1 := f1.other W4 (Or.inr (slot_ne (Or.inl (own_w hw 11 rfl)) (Or.inl (own_w hw 30 rfl)) (by decide) (t := .long) (t' := (.object cN)) (by decide) (by decide)))
  have F5_root_a1 := f2.other W4 (Or.inr (slot_ne (Or.inl (own_w hw 28 rfl)) (Or.inl (own_w hw 30 rfl)) (by decide) (t := (.object cN)) (t' := (.object cN)) (by decide) (by decide)))
  have F5_draft_a1 := f3.same W4
  have F5_size_a1 := f4.other W4 (Or.inr (slot_ne (Or.inl (own_w hw 37 rfl)) (Or.inl (own_w hw 30 rfl)) (by decide) (t := .int) (t' := (.object cN)) (by decide) (by decide)))
  have F5_edit_d := f6.other W4 (Or.inl (ne_exa f5 f0 (by decide)))
  have F5_keys_d := f7.other W4 (Or.inl (ne_exa f5 f0 (by decide)))
  have F5_children_d := f8.other W4 (Or.inl (ne_exa f5 f0 (by decide)))
  have F5_size_d := f9.other W4 (Or.inl (ne_exa f5 f0 (by decide)))
  have A5_kr := f11.other W4 (ne_exa f10 f0 (by decide))
  have A5_k0 := f18.other W4 (ne_exa f17 f0 (by decide))
  have A5_a2 := f19.other W4 (ne_exa f16 f0 (by decide))
  have O5 := O0.wr W4 f13
  have KC5 := KC0.wr W4 (Or.inl (List.mem_of_getElem? (i := 0) rfl))
  refine own_aloadN X4 hx (hb hby d4_17) rfl rfl ?_
  refine own_aloadN X4 hx (hb hby d4_18) rfl rfl ?_
  refine own_getF X4 hx hZ hown (host := "") (Or.inl (own_w hw 29 rfl)) Via.refl e4 F5_draft_a1 (hb hby d4_19) (fun T6 X6 e6 => ?_)
  refine own_aloadN X6 hx (hb hby d4_22) rfl rfl ?_
  refine own_private X6 hx hZ hown (y := y7) (own_w hw 57 rfl) (own_w hw 58 rfl) (own_w hw 2 rfl) (own_w hw 59 rfl) (own_w hw 3 rfl) (own_w hw 60 rfl) (a := a1) E5_a1 (by decide) (W := 0) (by decide) (by decide) N4 e6 (by rw [hml]; rfl) (argsL := [(.ref d), (.ref a2)]) (rest := []) (lenOf pd_13 rfl) (Nat.le_of_eq rfl) (by decide) (by decide) (rm71e l Z a0 hw [] a1 d a2 te r d sz te kr kk k0 x y c0 c1 h4 n0 O5 E5_a1 F5_edit_a1 F5_root_a1 F5_draft_a1 F5_size_a1 E5_d F5_edit_d F5_keys_d F5_children_d F5_size_d E5_kr A5_kr hov f13 f14 f15 E5_a2 E5_k0 A5_k0 A5_a2 f20 hxy) rfl (hb hby d4_23) ?_
  intro v7 T7 lc7 X7 N7 hQ7
  obtain ⟨rfl, e7⟩ := hQ7
  refine own_astoreN X7 hx (Ls' := #[.val (.ref a1), .val (.ref a2), .val (.int sz), .val .null, .unset]) (hb hby d4_26) rfl rfl ?_
  refine own_aloadN X7 hx (hb hby d4_27) rfl rfl ?_
  refine own_ifnullYes X7 hx (pc' := 75) (hb hby d4_28) (by decide) (by decide) ?_
  refine own_aloadN X7 hx (hb hby d4_75) rfl rfl ?_
  refine own_getF X7 hx hZ hown (host := "") (Or.inl (own_w hw 36 rfl)) Via.refl e7 F5_size_a1 (hb hby d4_76) (fun T8 X8 e8 => ?_)
  refine own_iloadN X8 hx (hb hby d4_79) rfl ?_
  by_cases hc80_9 : sz < sz
  ·
    refine own_icmpNo X8 hx (hb hby d4_80) (tlt (hc80_9 : sz < sz)).2.2.2 ?_
    refine own_iconst X8 hx (v := (1 : Int32)) (hb hby d4_83) rfl ?_
    refine own_goto X8 hx (pc' := 88) (hb hby d4_84) (by decide) (by decide) ?_
    show Goes _ _ _ _ _ _ (T8.setTop (mkF m 88 #[.val (.ref a1), .val (.ref a2), .val (.int sz), .val .null, .unset] [(.int (1 : Int32))]))
    exact own_retN X8 hx (t := .boolean) N7 hlk (by decide) (by decide) hret (by simp) (hb hby d4_88) (by rw [e8]; exact ⟨(1 : Int32), rfl, KC5, E5_a1, F5_edit_a1, F5_root_a1, F5_draft_a1, F5_size_a1⟩)
  ·
    refine own_icmpYes X8 hx (pc' := 87) (hb hby d4_80) (flt (hc80_9 : ¬ (sz < sz))).2.2.2 (by decide) (by decide) ?_
    refine own_iconst X8 hx (v := (0 : Int32)) (hb hby d4_87) rfl ?_
    show Goes _ _ _ _ _ _ (T8.setTop (mkF m 88 #[.val (.ref a1), .val (.ref a2), .val (.int sz), .val .null, .unset] [(.int (0 : Int32))]))
    exact own_retN X8 hx (t := .boolean) N7 hlk (by decide) (by decide) hret (by simp) (hb hby d4_88) (by rw [e8]; exact ⟨(0 : Int32), rfl, KC5, E5_a1, F5_edit_a1, F5_root_a1, F5_draft_a1, F5_size_a1⟩)
def Q4Be (Z : State) (a1 : Addr) (a2 : Addr) (te : Int64) (d : Addr) (sz : Int32) (en : Int64) (kr : Addr) (kk : ClassId) (k0 : Addr) (x : Int32) (y : Int32) (c0 : ClassId) (c1 : ClassId) (h0 : Heap) (n0 : Nat) (v : Option Value) (h : Heap) : Prop :=
  (∃ (w : Int32) (b : Addr) (kr2 : Addr), v = some (.int w) ∧ Keep h0 h [a1] ∧ Exa Z h a1 cT ∧ Fld Z h a1 cT "edit" "J" (.long te) ∧ Fld Z h a1 cT "root" dN (.ref d) ∧ Fld Z h a1 cT "draft" dN (.ref b) ∧ Fld Z h a1 cT "size" "I" (.int sz) ∧ Exa Z h b cN ∧ Fld Z h b cN "edit" "J" (.long te) ∧ Fld Z h b cN "keys" "[[B" (.ref kr2) ∧ Fld Z h b cN "children" dA .null ∧ Fld Z h b cN "size" "I" (.int (1 : Int32)) ∧ Exa Z h kr2 "[[B" ∧ Arv Z h kr2 kk (.array .byte) (64 : Int32) [(.ref k0), .null, .null] .null ∧ h0.size ≤ b ∧ h0.size ≤ kr2)
theorem ef_4Be (m : MethodId) (a1 : Addr) (a2 : Addr) : entryFrame m #[(.ref a1), (.ref a2)] 5 = mkF m 0 #[.val (.ref a1), .val (.ref a2), .unset, .unset, .unset] [] := by first | (simp [entryFrame, mkF, argsToLocals, Value.category]; done) | rfl
set_option maxRecDepth 65536 in
set_option maxHeartbeats 40000000 in
theorem rm4Be (l : Launch) (Z : State) (a0 : Array Value) (hw : ∀ d ∈ tables_1, d.before a0 Z = true) (ws : List Jvm.Cond) (a1 : Addr) (a2 : Addr) (te : Int64) (d : Addr) (sz : Int32) (en : Int64) (kr : Addr) (kk : ClassId) (k0 : Addr) (x : Int32) (y : Int32) (c0 : ClassId) (c1 : ClassId) (h0 : Heap) (n0 : Nat) (O0 : Old Z n0 h0) (f0 : Exa Z h0 a1 cT) (f1 : Fld Z h0 a1 cT "edit" "J" (.long te)) (f2 : Fld Z h0 a1 cT "root" dN (.ref d)) (f3 : Fld Z h0 a1 cT "draft" dN (.ref d)) (f4 : Fld Z h0 a1 cT "size" "I" (.int sz)) (f5 : Exa Z h0 d cN) (f6 : Fld Z h0 d cN "edit" "J" (.long en)) (f7 : Fld Z h0 d cN "keys" "[[B" (.ref kr)) (f8 : Fld Z h0 d cN "children" dA .null) (f9 : Fld Z h0 d cN "size" "I" (.int (1 : Int32))) (f10 : Exa Z h0 kr "[[B") (f11 : Arv Z h0 kr kk (.array .byte) (64 : Int32) [(.ref k0), .null, .null] .null) (hov : OvrA Z kk .byte "[B") (f13 : n0 ≤ a1) (hne : ¬ (en = te)) (f15 : Exa Z h0 a2 "[B") (f16 : Exa Z h0 k0 "[B") (f17 : Arv Z h0 k0 c0 .byte (1 : Int32) [(.int x)] (.int (0 : Int32))) (f18 : Arv Z h0 a2 c1 .byte (1 : Int32) [(.int y)] (.int (0 : Int32))) (f19 : k0 ≠ a2) (hxy : x = y) :
    Meets l y4 prog_35_method_4_code 5 (some .boolean) ws ({ frames := 4, cells := 2, slots := 68, locals := 62 } : Room) ({ frames := 4, cells := 2, slots := 68, locals := 62 } : Room).cells ({ frames := 4, cells := 2, slots := 68, locals := 62 } : Room).slots Z #[(.ref a1), (.ref a2)] h0 n0 (Q4Be Z a1 a2 te d sz en kr kk k0 x y c0 c1 h0 n0) := by
  refine Meets.of (F := fun m => mkF m 0 #[.val (.ref a1), .val (.ref a2), .unset, .unset, .unset] []) (plainFor_of_name pn_5) (fun m => ef_4Be m a1 a2) ?_
  intro p e s m below meth c T0 hx hby hml hown0 hnm hret hlk hZ X0 e0
  have hown : s.vm.findClass cT = some m.cls := hown0
  have N0 := Fr.nil n0
  have KC0 := Keep.refl h0 [a1]
  show Goes _ _ _ _ _ _ (T0.setTop (mkF m 0 #[.val (.ref a1), .val (.ref a2), .unset, .unset, .unset] []))
  refine own_aloadN X0 hx (hb hby d4_0) rfl rfl ?_
  refine own_getF X0 hx hZ hown (host := "") (Or.inl (own_w hw 36 rfl)) Via.refl e0 f4 (hb hby d4_1) (fun T1 X1 e1 => ?_)
  refine own_istoreN X1 hx (Ls' := #[.val (.ref a1), .val (.ref a2), .val (.int sz), .unset, .unset]) (hb hby d4_4) rfl ?_
  refine own_aloadN X1 hx (hb hby d4_5) rfl rfl ?_
  refine own_aloadN X1 hx (hb hby d4_6) rfl rfl ?_
  refine own_aloadN X1 hx (hb hby d4_7) rfl rfl ?_
  refine own_getF X1 hx hZ hown (host := "") (Or.inl (own_w hw 29 rfl)) Via.refl e1 f3 (hb hby d4_8) (fun T2 X2 e2 => ?_)
  refine own_private X2 hx hZ hown (y := y5) (own_w hw 38 rfl) (own_w hw 39 rfl) (own_w hw 2 rfl) (own_w hw 40 rfl) (own_w hw 3 rfl) (own_w hw 41 rfl) (a := a1) f0 (by decide) (W := 1) (by decide) (by decide) N0 e2 (by rw [hml]; rfl) (argsL := [(.ref d)]) (rest := [(.ref a1)]) (lenOf pd_12 rfl) (Nat.le_of_eq rfl) (by decide) (by decide) (rm5c l Z a0 hw [] a1 d te en kr kk (.ref k0) (.null) (.null) (1 : Int32) h0 n0 O0 f1 f5 f6 f7 f8 f9 f10 f11 hne) rfl (hb hby d4_11) ?_
  intro v3 T3 lc3 X3 N3 hQ3
  obtain ⟨b_3, kr2_3, rfl, K3, r3_0, r3_1, r3_2, r3_3, r3_4, r3_5, r3_6, r3_7, r3_8⟩ := hQ3
  have E4_a1 := f0.keep K3
  have E4_a2 := f15.keep K3
  have E4_k0 := f16.keep K3
  have F4_edit_a1 := f1.keep K3 nin0
  have F4_root_a1 := f2.keep K3 nin0
  have F4_draft_a1 := f3.keep K3 nin0
  have F4_size_a1 := f4.keep K3 nin0
  have A4_k0 := f17.keep K3 nin0
  have A4_a2 := f18.keep K3 nin0
  have O4 := O0.keep K3 all0
  have KC4 := KC0.trans K3 all0
  have ne_a1_b_3 : a1 ≠ b_3 := Nat.ne_of_lt (Nat.lt_of_lt_of_le f0.lt r3_7)
  have ge_b_3 : n0 ≤ b_3 := Nat.le_trans (own_sz O0) r3_7
  have sz_b_3 : h0.size ≤ b_3 := Nat.le_trans KC0.1 r3_7
  have ne_a1_kr2_3 : a1 ≠ kr2_3 := Nat.ne_of_lt (Nat.lt_of_lt_of_le f0.lt r3_8)
  have ge_kr2_3 : n0 ≤ kr2_3 := Nat.le_trans (own_sz O0) r3_8
  have sz_kr2_3 : h0.size ≤ kr2_3 := Nat.le_trans KC0.1 r3_8
  refine own_putF X3 hx hZ hown N3 (host := "") (Or.inl (own_w hw 29 rfl)) Via.refl rfl F4_draft_a1 E4_a1 (Or.inl (own_w hw 30 rfl)) (own_w hw 2 rfl) (ty := (.object cN)) (by decide) rfl rfl f13 (hb hby d4_14) (fun T5 h5 lc5 X5 e5 N5 W5 => ?_)
  have E6_a1 := E4_a1.wr W5
  have E6_a2 := E4_a2.wr W5
  have E6_k0 := E4_k0.wr W5
  have E6_b_3 := r3_0.wr W5
  have E6_kr2_3 := r3_5.wr W5
  have F6_edit_a1 := F4_edit_a1.other W5 (Or.inr (slot_ne (Or.inl (own_w hw 11 rfl)) (Or.inl (own_w hw 30 rfl)) (by decide) (t := .long) (t' := (.object cN)) (by decide) (by decide)))
  have F6_root_a1 := F4_root_a1.other W5 (Or.inr (slot_ne (Or.inl (own_w hw 28 rfl)) (Or.inl (own_w hw 30 rfl)) (by decide) (t := (.object cN)) (t' := (.object cN)) (by decide) (by decide)))
  have F6_draft_a1 := F4_draft_a1.same W5
  have F6_size_a1 := F4_size_a1.other W5 (Or.inr (slot_ne (Or.inl (own_w hw 37 rfl)) (Or.inl (own_w hw 30 rfl)) (by decide) (t := .int) (t' := (.object cN)) (by decide) (by decide)))
  have F6_edit_b_3 := r3_1.other W5 (Or.inl (Ne.symm ne_a1_b_3))
  have F6_keys_b_3 := r3_2.other W5 (Or.inl (Ne.symm ne_a1_b_3))
  have F6_children_b_3 := r3_3.other W5 (Or.inl (Ne.symm ne_a1_b_3))
  have F6_size_b_3 := r3_4.other W5 (Or.inl (Ne.symm ne_a1_b_3))
  have A6_k0 := A4_k0.other W5 (ne_exa E4_k0 E4_a1 (by decide))
  have A6_a2 := A4_a2.other W5 (ne_exa E4_a2 E4_a1 (by decide))
  have A6_kr2_3 := r3_6.other W5 (Ne.symm ne_a1_kr2_3)
  have O6 := O4.wr W5 f13
  have KC6 := KC4.wr W5 (Or.inl (List.mem_of_getElem? (i := 0) rfl))
  refine own_aloadN X5 hx (hb hby d4_17) rfl rfl ?_
  refine own_aloadN X5 hx (hb hby d4_18) rfl rfl ?_
  refine own_getF X5 hx hZ hown (host := "") (Or.inl (own_w hw 29 rfl)) Via.refl e5 F6_draft_a1 (hb hby d4_19) (fun T7 X7 e7 => ?_)
  refine own_aloadN X7 hx (hb hby d4_22) rfl rfl ?_
  refine own_private X7 hx hZ hown (y := y7) (own_w hw 57 rfl) (own_w hw 58 rfl) (own_w hw 2 rfl) (own_w hw 59 rfl) (own_w hw 3 rfl) (own_w hw 60 rfl) (a := a1) E6_a1 (by decide) (W := 0) (by decide) (by decide) N5 e7 (by rw [hml]; rfl) (argsL := [(.ref b_3), (.ref a2)]) (rest := []) (lenOf pd_13 rfl) (Nat.le_of_eq rfl) (by decide) (by decide) (rm71e l Z a0 hw [] a1 b_3 a2 te d b_3 sz te kr2_3 kk k0 x y c0 c1 h5 n0 O6 E6_a1 F6_edit_a1 F6_root_a1 F6_draft_a1 F6_size_a1 E6_b_3 F6_edit_b_3 F6_keys_b_3 F6_children_b_3 F6_size_b_3 E6_kr2_3 A6_kr2_3 hov f13 ge_b_3 ge_kr2_3 E6_a2 E6_k0 A6_k0 A6_a2 f19 hxy) rfl (hb hby d4_23) ?_
  intro v8 T8 lc8 X8 N8 hQ8
  obtain ⟨rfl, e8⟩ := hQ8
  refine own_astoreN X8 hx (Ls' := #[.val (.ref a1), .val (.ref a2), .val (.int sz), .val .null, .unset]) (hb hby d4_26) rfl rfl ?_
  refine own_aloadN X8 hx (hb hby d4_27) rfl rfl ?_
  refine own_ifnullYes X8 hx (pc' := 75) (hb hby d4_28) (by decide) (by decide) ?_
  refine own_aloadN X8 hx (hb hby d4_75) rfl rfl ?_
  refine own_getF X8 hx hZ hown (host := "") (Or.inl (own_w hw 36 rfl)) Via.refl e8 F6_size_a1 (hb hby d4_76) (fun T9 X9 e9 => ?_)
  refine own_iloadN X9 hx (hb hby d4_79) rfl ?_
  by_cases hc80_10 : sz < sz
  ·
    refine own_icmpNo X9 hx (hb hby d4_80) (tlt (hc80_10 : sz < sz)).2.2.2 ?_
    refine own_iconst X9 hx (v := (1 : Int32)) (hb hby d4_83) rfl ?_
    refine own_goto X9 hx (pc' := 88) (hb hby d4_84) (by decide) (by decide) ?_
    show Goes _ _ _ _ _ _ (T9.setTop (mkF m 88 #[.val (.ref a1), .val (.ref a2), .val (.int sz), .val .null, .unset] [(.int (1 : Int32))]))
    exact own_retN X9 hx (t := .boolean) N8 hlk (by decide) (by decide) hret (by simp) (hb hby d4_88) (by rw [e9]; exact ⟨(1 : Int32), b_3, kr2_3, rfl, KC6, E6_a1, F6_edit_a1, F6_root_a1, F6_draft_a1, F6_size_a1, E6_b_3, F6_edit_b_3, F6_keys_b_3, F6_children_b_3, F6_size_b_3, E6_kr2_3, A6_kr2_3, sz_b_3, sz_kr2_3⟩)
  ·
    refine own_icmpYes X9 hx (pc' := 87) (hb hby d4_80) (flt (hc80_10 : ¬ (sz < sz))).2.2.2 (by decide) (by decide) ?_
    refine own_iconst X9 hx (v := (0 : Int32)) (hb hby d4_87) rfl ?_
    show Goes _ _ _ _ _ _ (T9.setTop (mkF m 88 #[.val (.ref a1), .val (.ref a2), .val (.int sz), .val .null, .unset] [(.int (0 : Int32))]))
    exact own_retN X9 hx (t := .boolean) N8 hlk (by decide) (by decide) hret (by simp) (hb hby d4_88) (by rw [e9]; exact ⟨(0 : Int32), b_3, kr2_3, rfl, KC6, E6_a1, F6_edit_a1, F6_root_a1, F6_draft_a1, F6_size_a1, E6_b_3, F6_edit_b_3, F6_keys_b_3, F6_children_b_3, F6_size_b_3, E6_kr2_3, A6_kr2_3, sz_b_3, sz_kr2_3⟩)
def Q4Al (Z : State) (a1 : Addr) (a2 : Addr) (te : Int64) (r : Addr) (d : Addr) (sz : Int32) (kr : Addr) (kk : ClassId) (k0 : Addr) (x : Int32) (y : Int32) (c0 : ClassId) (c1 : ClassId) (h0 : Heap) (n0 : Nat) (v : Option Value) (h : Heap) : Prop :=
  (∃ (w : Int32), v = some (.int w) ∧ Keep h0 h [a1, d, kr] ∧ Exa Z h a1 cT ∧ Fld Z h a1 cT "edit" "J" (.long te) ∧ Fld Z h a1 cT "root" dN (.ref r) ∧ Fld Z h a1 cT "draft" dN (.ref d) ∧ Fld Z h a1 cT "size" "I" (.int (sz + (1 : Int32))) ∧ Exa Z h d cN ∧ Fld Z h d cN "edit" "J" (.long te) ∧ Fld Z h d cN "keys" "[[B" (.ref kr) ∧ Fld Z h d cN "children" dA .null ∧ Fld Z h d cN "size" "I" (.int (2 : Int32)) ∧ Exa Z h kr "[[B" ∧ Arv Z h kr kk (.array .byte) (64 : Int32) [(.ref k0), (.ref a2), .null] .null)
theorem ef_4Al (m : MethodId) (a1 : Addr) (a2 : Addr) : entryFrame m #[(.ref a1), (.ref a2)] 5 = mkF m 0 #[.val (.ref a1), .val (.ref a2), .unset, .unset, .unset] [] := by first | (simp [entryFrame, mkF, argsToLocals, Value.category]; done) | rfl
set_option maxRecDepth 65536 in
set_option maxHeartbeats 40000000 in
theorem rm4Al (l : Launch) (Z : State) (a0 : Array Value) (hw : ∀ d ∈ tables_1, d.before a0 Z = true) (ws : List Jvm.Cond) (a1 : Addr) (a2 : Addr) (te : Int64) (r : Addr) (d : Addr) (sz : Int32) (kr : Addr) (kk : ClassId) (k0 : Addr) (x : Int32) (y : Int32) (c0 : ClassId) (c1 : ClassId) (h0 : Heap) (n0 : Nat) (O0 : Old Z n0 h0) (f0 : Exa Z h0 a1 cT) (f1 : Fld Z h0 a1 cT "edit" "J" (.long te)) (f2 : Fld Z h0 a1 cT "root" dN (.ref r)) (f3 : Fld Z h0 a1 cT "draft" dN (.ref d)) (f4 : Fld Z h0 a1 cT "size" "I" (.int sz)) (f5 : Exa Z h0 d cN) (f6 : Fld Z h0 d cN "edit" "J" (.long te)) (f7 : Fld Z h0 d cN "keys" "[[B" (.ref kr)) (f8 : Fld Z h0 d cN "children" dA .null) (f9 : Fld Z h0 d cN "size" "I" (.int (1 : Int32))) (f10 : Exa Z h0 kr "[[B") (f11 : Arv Z h0 kr kk (.array .byte) (64 : Int32) [(.ref k0), .null, .null] .null) (hov : OvrA Z kk .byte "[B") (f13 : n0 ≤ a1) (f14 : n0 ≤ d) (f15 : n0 ≤ kr) (f16 : Exa Z h0 a2 "[B") (f17 : Exa Z h0 k0 "[B") (f18 : Arv Z h0 k0 c0 .byte (1 : Int32) [(.int x)] (.int (0 : Int32))) (f19 : Arv Z h0 a2 c1 .byte (1 : Int32) [(.int y)] (.int (0 : Int32))) (f20 : k0 ≠ a2) (hxy : ¬ (x = y)) (hlt : ((x &&& (255 : Int32)) - (y &&& (255 : Int32))) < (0 : Int32)) :
    Meets l y4 prog_35_method_4_code 5 (some .boolean) ws ({ frames := 5, cells := 0, slots := 0, locals := 73 } : Room) ({ frames := 5, cells := 0, slots := 0, locals := 73 } : Room).cells ({ frames := 5, cells := 0, slots := 0, locals := 73 } : Room).slots Z #[(.ref a1), (.ref a2)] h0 n0 (Q4Al Z a1 a2 te r d sz kr kk k0 x y c0 c1 h0 n0) := by
  refine Meets.of (F := fun m => mkF m 0 #[.val (.ref a1), .val (.ref a2), .unset, .unset, .unset] []) (plainFor_of_name pn_5) (fun m => ef_4Al m a1 a2) ?_
  intro p e s m below meth c T0 hx hby hml hown0 hnm hret hlk hZ X0 e0
  have hown : s.vm.findClass cT = some m.cls := hown0
  have N0 := Fr.nil n0
  have KC0 := Keep.refl h0 [a1, d, kr]
  show Goes _ _ _ _ _ _ (T0.setTop (mkF m 0 #[.val (.ref a1), .val (.ref a2), .unset, .unset, .unset] []))
  refine own_aloadN X0 hx (hb hby d4_0) rfl rfl ?_
  refine own_getF X0 hx hZ hown (host := "") (Or.inl (own_w hw 36 rfl)) Via.refl e0 f4 (hb hby d4_1) (fun T1 X1 e1 => ?_)
  refine own_istoreN X1 hx (Ls' := #[.val (.ref a1), .val (.ref a2), .val (.int sz), .unset, .unset]) (hb hby d4_4) rfl ?_
  refine own_aloadN X1 hx (hb hby d4_5) rfl rfl ?_
  refine own_aloadN X1 hx (hb hby d4_6) rfl rfl ?_
  refine own_aloadN X1 hx (hb hby d4_7) rfl rfl ?_
  refine own_getF X1 hx hZ hown (host := "") (Or.inl (own_w hw 29 rfl)) Via.refl e1 f3 (hb hby d4_8) (fun T2 X2 e2 => ?_)
  refine own_private X2 hx hZ hown (y := y5) (own_w hw 38 rfl) (own_w hw 39 rfl) (own_w hw 2 rfl) (own_w hw 40 rfl) (own_w hw 3 rfl) (own_w hw 41 rfl) (a := a1) f0 (by decide) (W := 1) (by decide) (by decide) N0 e2 (by rw [hml]; rfl) (argsL := [(.ref d)]) (rest := [(.ref a1)]) (lenOf pd_12 rfl) (Nat.le_of_eq rfl) (by decide) (by decide) (rm5s l Z a0 hw [] a1 d te h0 n0 O0 f1 f6) rfl (hb hby d4_11) ?_
  intro v3 T3 lc3 X3 N3 hQ3
  obtain ⟨rfl, e3⟩ := hQ3
  refine own_putF X3 hx hZ hown N3 (host := "") (Or.inl (own_w hw 29 rfl)) Via.refl e3 f3 f0 (Or.inl (own_w hw 30 rfl)) (own_w hw 2 rfl) (ty := (.object cN)) (by decide) rfl rfl f13 (hb hby d4_14) (fun T4 h4 lc4 X4 e4 N4 W4 => ?_)
  have E5_a1 := f0.wr W4
  have E5_d := f5.wr W4
  have E5_kr := f10.wr W4
  have E5_a2 := f16.wr W4
  have E5_k0 := f17.wr W4
  have F5_edit_a1 := f1.other W4 (Or.inr (slot_ne (Or.inl (own_w hw 11 rfl)) (Or.inl (own_w hw 30 rfl)) (by decide) (t := .long) (t' := (.object cN)) (by decide) (by decide)))
  have F5_root_a1 := f2.other W4 (Or.inr (slot_ne (Or.inl (own_w hw 28 rfl)) (Or.inl (own_w hw 30 rfl)) (by decide) (t := (.object cN)) (t' := (.object cN)) (by decide) (by decide)))
  have F5_draft_a1 := f3.same W4
  have F5_size_a1 := f4.other W4 (Or.inr (slot_ne (Or.inl (own_w hw 37 rfl)) (Or.inl (own_w hw 30 rfl)) (by decide) (t := .int) (t' := (.object cN)) (by decide) (by decide)))
  have F5_edit_d := f6.other W4 (Or.inl (ne_exa f5 f0 (by decide)))
  have F5_keys_d := f7.other W4 (Or.inl (ne_exa f5 f0 (by decide)))
  have F5_children_d := f8.other W4 (Or.inl (ne_exa f5 f0 (by decide)))
  have F5_size_d := f9.other W4 (Or.inl (ne_exa f5 f0 (by decide)))
  have A5_kr := f11.other W4 (ne_exa f10 f0 (by decide))
  have A5_k0 := f18.other W4 (ne_exa f17 f0 (by decide))
  have A5_a2 := f19.other W4 (ne_exa f16 f0 (by decide))
  have O5 := O0.wr W4 f13
  have KC5 := KC0.wr W4 (Or.inl (List.mem_of_getElem? (i := 0) rfl))
  refine own_aloadN X4 hx (hb hby d4_17) rfl rfl ?_
  refine own_aloadN X4 hx (hb hby d4_18) rfl rfl ?_
  refine own_getF X4 hx hZ hown (host := "") (Or.inl (own_w hw 29 rfl)) Via.refl e4 F5_draft_a1 (hb hby d4_19) (fun T6 X6 e6 => ?_)
  refine own_aloadN X6 hx (hb hby d4_22) rfl rfl ?_
  refine own_private X6 hx hZ hown (y := y7) (own_w hw 57 rfl) (own_w hw 58 rfl) (own_w hw 2 rfl) (own_w hw 59 rfl) (own_w hw 3 rfl) (own_w hw 60 rfl) (a := a1) E5_a1 (by decide) (W := 0) (by decide) (by decide) N4 e6 (by rw [hml]; rfl) (argsL := [(.ref d), (.ref a2)]) (rest := []) (lenOf pd_13 rfl) (Nat.le_of_eq rfl) (by decide) (by decide) (rm71l l Z a0 hw [] a1 d a2 te r d sz te kr kk k0 x y c0 c1 h4 n0 O5 E5_a1 F5_edit_a1 F5_root_a1 F5_draft_a1 F5_size_a1 E5_d F5_edit_d F5_keys_d F5_children_d F5_size_d E5_kr A5_kr hov f13 f14 f15 E5_a2 E5_k0 A5_k0 A5_a2 f20 hxy hlt) rfl (hb hby d4_23) ?_
  intro v7 T7 lc7 X7 N7 hQ7
  obtain ⟨rfl, K7, r7_0, r7_1, r7_2, r7_3, r7_4, r7_5, r7_6, r7_7, r7_8, r7_9, r7_10, r7_11⟩ := hQ7
  have O8 := O5.keep K7 (allS f13 (allS f14 (allS f15 all0)))
  have KC8 := KC5.trans K7 (allS (Or.inl (List.mem_of_getElem? (i := 0) rfl)) (allS (Or.inl (List.mem_of_getElem? (i := 1) rfl)) (allS (Or.inl (List.mem_of_getElem? (i := 2) rfl)) all0)))
  refine own_astoreN X7 hx (Ls' := #[.val (.ref a1), .val (.ref a2), .val (.int sz), .val .null, .unset]) (hb hby d4_26) rfl rfl ?_
  refine own_aloadN X7 hx (hb hby d4_27) rfl rfl ?_
  refine own_ifnullYes X7 hx (pc' := 75) (hb hby d4_28) (by decide) (by decide) ?_
  refine own_aloadN X7 hx (hb hby d4_75) rfl rfl ?_
  refine own_getF X7 hx hZ hown (host := "") (Or.inl (own_w hw 36 rfl)) Via.refl rfl r7_4 (hb hby d4_76) (fun T9 X9 e9 => ?_)
  refine own_iloadN X9 hx (hb hby d4_79) rfl ?_
  by_cases hc80_10 : sz < (sz + (1 : Int32))
  ·
    refine own_icmpNo X9 hx (hb hby d4_80) (tlt (hc80_10 : sz < (sz + (1 : Int32)))).2.2.2 ?_
    refine own_iconst X9 hx (v := (1 : Int32)) (hb hby d4_83) rfl ?_
    refine own_goto X9 hx (pc' := 88) (hb hby d4_84) (by decide) (by decide) ?_
    show Goes _ _ _ _ _ _ (T9.setTop (mkF m 88 #[.val (.ref a1), .val (.ref a2), .val (.int sz), .val .null, .unset] [(.int (1 : Int32))]))
    exact own_retN X9 hx (t := .boolean) N7 hlk (by decide) (by decide) hret (by simp) (hb hby d4_88) (by rw [e9]; exact ⟨(1 : Int32), rfl, KC8, r7_0, r7_1, r7_2, r7_3, r7_4, r7_5, r7_6, r7_7, r7_8, r7_9, r7_10, r7_11⟩)
  ·
    refine own_icmpYes X9 hx (pc' := 87) (hb hby d4_80) (flt (hc80_10 : ¬ (sz < (sz + (1 : Int32))))).2.2.2 (by decide) (by decide) ?_
    refine own_iconst X9 hx (v := (0 : Int32)) (hb hby d4_87) rfl ?_
    show Goes _ _ _ _ _ _ (T9.setTop (mkF m 88 #[.val (.ref a1), .val (.ref a2), .val (.int sz), .val .null, .unset] [(.int (0 : Int32))]))
    exact own_retN X9 hx (t := .boolean) N7 hlk (by decide) (by decide) hret (by simp) (hb hby d4_88) (by rw [e9]; exact ⟨(0 : Int32), rfl, KC8, r7_0, r7_1, r7_2, r7_3, r7_4, r7_5, r7_6, r7_7, r7_8, r7_9, r7_10, r7_11⟩)
def Q4Bl (Z : State) (a1 : Addr) (a2 : Addr) (te : Int64) (d : Addr) (sz : Int32) (en : Int64) (kr : Addr) (kk : ClassId) (k0 : Addr) (x : Int32) (y : Int32) (c0 : ClassId) (c1 : ClassId) (h0 : Heap) (n0 : Nat) (v : Option Value) (h : Heap) : Prop :=
  (∃ (w : Int32) (b : Addr) (kr2 : Addr), v = some (.int w) ∧ Keep h0 h [a1] ∧ Exa Z h a1 cT ∧ Fld Z h a1 cT "edit" "J" (.long te) ∧ Fld Z h a1 cT "root" dN (.ref d) ∧ Fld Z h a1 cT "draft" dN (.ref b) ∧ Fld Z h a1 cT "size" "I" (.int (sz + (1 : Int32))) ∧ Exa Z h b cN ∧ Fld Z h b cN "edit" "J" (.long te) ∧ Fld Z h b cN "keys" "[[B" (.ref kr2) ∧ Fld Z h b cN "children" dA .null ∧ Fld Z h b cN "size" "I" (.int (2 : Int32)) ∧ Exa Z h kr2 "[[B" ∧ Arv Z h kr2 kk (.array .byte) (64 : Int32) [(.ref k0), (.ref a2), .null] .null ∧ h0.size ≤ b ∧ h0.size ≤ kr2)
theorem ef_4Bl (m : MethodId) (a1 : Addr) (a2 : Addr) : entryFrame m #[(.ref a1), (.ref a2)] 5 = mkF m 0 #[.val (.ref a1), .val (.ref a2), .unset, .unset, .unset] [] := by first | (simp [entryFrame, mkF, argsToLocals, Value.category]; done) | rfl
set_option maxRecDepth 65536 in
set_option maxHeartbeats 40000000 in
theorem rm4Bl (l : Launch) (Z : State) (a0 : Array Value) (hw : ∀ d ∈ tables_1, d.before a0 Z = true) (ws : List Jvm.Cond) (a1 : Addr) (a2 : Addr) (te : Int64) (d : Addr) (sz : Int32) (en : Int64) (kr : Addr) (kk : ClassId) (k0 : Addr) (x : Int32) (y : Int32) (c0 : ClassId) (c1 : ClassId) (h0 : Heap) (n0 : Nat) (O0 : Old Z n0 h0) (f0 : Exa Z h0 a1 cT) (f1 : Fld Z h0 a1 cT "edit" "J" (.long te)) (f2 : Fld Z h0 a1 cT "root" dN (.ref d)) (f3 : Fld Z h0 a1 cT "draft" dN (.ref d)) (f4 : Fld Z h0 a1 cT "size" "I" (.int sz)) (f5 : Exa Z h0 d cN) (f6 : Fld Z h0 d cN "edit" "J" (.long en)) (f7 : Fld Z h0 d cN "keys" "[[B" (.ref kr)) (f8 : Fld Z h0 d cN "children" dA .null) (f9 : Fld Z h0 d cN "size" "I" (.int (1 : Int32))) (f10 : Exa Z h0 kr "[[B") (f11 : Arv Z h0 kr kk (.array .byte) (64 : Int32) [(.ref k0), .null, .null] .null) (hov : OvrA Z kk .byte "[B") (f13 : n0 ≤ a1) (hne : ¬ (en = te)) (f15 : Exa Z h0 a2 "[B") (f16 : Exa Z h0 k0 "[B") (f17 : Arv Z h0 k0 c0 .byte (1 : Int32) [(.int x)] (.int (0 : Int32))) (f18 : Arv Z h0 a2 c1 .byte (1 : Int32) [(.int y)] (.int (0 : Int32))) (f19 : k0 ≠ a2) (hxy : ¬ (x = y)) (hlt : ((x &&& (255 : Int32)) - (y &&& (255 : Int32))) < (0 : Int32)) :
    Meets l y4 prog_35_method_4_code 5 (some .boolean) ws ({ frames := 5, cells := 2, slots := 68, locals := 73 } : Room) ({ frames := 5, cells := 2, slots := 68, locals := 73 } : Room).cells ({ frames := 5, cells := 2, slots := 68, locals := 73 } : Room).slots Z #[(.ref a1), (.ref a2)] h0 n0 (Q4Bl Z a1 a2 te d sz en kr kk k0 x y c0 c1 h0 n0) := by
  refine Meets.of (F := fun m => mkF m 0 #[.val (.ref a1), .val (.ref a2), .unset, .unset, .unset] []) (plainFor_of_name pn_5) (fun m => ef_4Bl m a1 a2) ?_
  intro p e s m below meth c T0 hx hby hml hown0 hnm hret hlk hZ X0 e0
  have hown : s.vm.findClass cT = some m.cls := hown0
  have N0 := Fr.nil n0
  have KC0 := Keep.refl h0 [a1]
  show Goes _ _ _ _ _ _ (T0.setTop (mkF m 0 #[.val (.ref a1), .val (.ref a2), .unset, .unset, .unset] []))
  refine own_aloadN X0 hx (hb hby d4_0) rfl rfl ?_
  refine own_getF X0 hx hZ hown (host := "") (Or.inl (own_w hw 36 rfl)) Via.refl e0 f4 (hb hby d4_1) (fun T1 X1 e1 => ?_)
  refine own_istoreN X1 hx (Ls' := #[.val (.ref a1), .val (.ref a2), .val (.int sz), .unset, .unset]) (hb hby d4_4) rfl ?_
  refine own_aloadN X1 hx (hb hby d4_5) rfl rfl ?_
  refine own_aloadN X1 hx (hb hby d4_6) rfl rfl ?_
  refine own_aloadN X1 hx (hb hby d4_7) rfl rfl ?_
  refine own_getF X1 hx hZ hown (host := "") (Or.inl (own_w hw 29 rfl)) Via.refl e1 f3 (hb hby d4_8) (fun T2 X2 e2 => ?_)
  refine own_private X2 hx hZ hown (y := y5) (own_w hw 38 rfl) (own_w hw 39 rfl) (own_w hw 2 rfl) (own_w hw 40 rfl) (own_w hw 3 rfl) (own_w hw 41 rfl) (a := a1) f0 (by decide) (W := 1) (by decide) (by decide) N0 e2 (by rw [hml]; rfl) (argsL := [(.ref d)]) (rest := [(.ref a1)]) (lenOf pd_12 rfl) (Nat.le_of_eq rfl) (by decide) (by decide) (rm5c l Z a0 hw [] a1 d te en kr kk (.ref k0) (.null) (.null) (1 : Int32) h0 n0 O0 f1 f5 f6 f7 f8 f9 f10 f11 hne) rfl (hb hby d4_11) ?_
  intro v3 T3 lc3 X3 N3 hQ3
  obtain ⟨b_3, kr2_3, rfl, K3, r3_0, r3_1, r3_2, r3_3, r3_4, r3_5, r3_6, r3_7, r3_8⟩ := hQ3
  have E4_a1 := f0.keep K3
  have E4_a2 := f15.keep K3
  have E4_k0 := f16.keep K3
  have F4_edit_a1 := f1.keep K3 nin0
  have F4_root_a1 := f2.keep K3 nin0
  have F4_draft_a1 := f3.keep K3 nin0
  have F4_size_a1 := f4.keep K3 nin0
  have A4_k0 := f17.keep K3 nin0
  have A4_a2 := f18.keep K3 nin0
  have O4 := O0.keep K3 all0
  have KC4 := KC0.trans K3 all0
  have ne_a1_b_3 : a1 ≠ b_3 := Nat.ne_of_lt (Nat.lt_of_lt_of_le f0.lt r3_7)
  have ge_b_3 : n0 ≤ b_3 := Nat.le_trans (own_sz O0) r3_7
  have sz_b_3 : h0.size ≤ b_3 := Nat.le_trans KC0.1 r3_7
  have ne_a1_kr2_3 : a1 ≠ kr2_3 := Nat.ne_of_lt (Nat.lt_of_lt_of_le f0.lt r3_8)
  have ge_kr2_3 : n0 ≤ kr2_3 := Nat.le_trans (own_sz O0) r3_8
  have sz_kr2_3 : h0.size ≤ kr2_3 := Nat.le_trans KC0.1 r3_8
  refine own_putF X3 hx hZ hown N3 (host := "") (Or.inl (own_w hw 29 rfl)) Via.refl rfl F4_draft_a1 E4_a1 (Or.inl (own_w hw 30 rfl)) (own_w hw 2 rfl) (ty := (.object cN)) (by decide) rfl rfl f13 (hb hby d4_14) (fun T5 h5 lc5 X5 e5 N5 W5 => ?_)
  have E6_a1 := E4_a1.wr W5
  have E6_a2 := E4_a2.wr W5
  have E6_k0 := E4_k0.wr W5
  have E6_b_3 := r3_0.wr W5
  have E6_kr2_3 := r3_5.wr W5
  have F6_edit_a1 := F4_edit_a1.other W5 (Or.inr (slot_ne (Or.inl (own_w hw 11 rfl)) (Or.inl (own_w hw 30 rfl)) (by decide) (t := .long) (t' := (.object cN)) (by decide) (by decide)))
  have F6_root_a1 := F4_root_a1.other W5 (Or.inr (slot_ne (Or.inl (own_w hw 28 rfl)) (Or.inl (own_w hw 30 rfl)) (by decide) (t := (.object cN)) (t' := (.object cN)) (by decide) (by decide)))
  have F6_draft_a1 := F4_draft_a1.same W5
  have F6_size_a1 := F4_size_a1.other W5 (Or.inr (slot_ne (Or.inl (own_w hw 37 rfl)) (Or.inl (own_w hw 30 rfl)) (by decide) (t := .int) (t' := (.object cN)) (by decide) (by decide)))
  have F6_edit_b_3 := r3_1.other W5 (Or.inl (Ne.symm ne_a1_b_3))
  have F6_keys_b_3 := r3_2.other W5 (Or.inl (Ne.symm ne_a1_b_3))
  have F6_children_b_3 := r3_3.other W5 (Or.inl (Ne.symm ne_a1_b_3))
  have F6_size_b_3 := r3_4.other W5 (Or.inl (Ne.symm ne_a1_b_3))
  have A6_k0 := A4_k0.other W5 (ne_exa E4_k0 E4_a1 (by decide))
  have A6_a2 := A4_a2.other W5 (ne_exa E4_a2 E4_a1 (by decide))
  have A6_kr2_3 := r3_6.other W5 (Ne.symm ne_a1_kr2_3)
  have O6 := O4.wr W5 f13
  have KC6 := KC4.wr W5 (Or.inl (List.mem_of_getElem? (i := 0) rfl))
  refine own_aloadN X5 hx (hb hby d4_17) rfl rfl ?_
  refine own_aloadN X5 hx (hb hby d4_18) rfl rfl ?_
  refine own_getF X5 hx hZ hown (host := "") (Or.inl (own_w hw 29 rfl)) Via.refl e5 F6_draft_a1 (hb hby d4_19) (fun T7 X7 e7 => ?_)
  refine own_aloadN X7 hx (hb hby d4_22) rfl rfl ?_
  refine own_private X7 hx hZ hown (y := y7) (own_w hw 57 rfl) (own_w hw 58 rfl) (own_w hw 2 rfl) (own_w hw 59 rfl) (own_w hw 3 rfl) (own_w hw 60 rfl) (a := a1) E6_a1 (by decide) (W := 0) (by decide) (by decide) N5 e7 (by rw [hml]; rfl) (argsL := [(.ref b_3), (.ref a2)]) (rest := []) (lenOf pd_13 rfl) (Nat.le_of_eq rfl) (by decide) (by decide) (rm71l l Z a0 hw [] a1 b_3 a2 te d b_3 sz te kr2_3 kk k0 x y c0 c1 h5 n0 O6 E6_a1 F6_edit_a1 F6_root_a1 F6_draft_a1 F6_size_a1 E6_b_3 F6_edit_b_3 F6_keys_b_3 F6_children_b_3 F6_size_b_3 E6_kr2_3 A6_kr2_3 hov f13 ge_b_3 ge_kr2_3 E6_a2 E6_k0 A6_k0 A6_a2 f19 hxy hlt) rfl (hb hby d4_23) ?_
  intro v8 T8 lc8 X8 N8 hQ8
  obtain ⟨rfl, K8, r8_0, r8_1, r8_2, r8_3, r8_4, r8_5, r8_6, r8_7, r8_8, r8_9, r8_10, r8_11⟩ := hQ8
  have O9 := O6.keep K8 (allS f13 (allS ge_b_3 (allS ge_kr2_3 all0)))
  have KC9 := KC6.trans K8 (allS (Or.inl (List.mem_of_getElem? (i := 0) rfl)) (allS (Or.inr sz_b_3) (allS (Or.inr sz_kr2_3) all0)))
  refine own_astoreN X8 hx (Ls' := #[.val (.ref a1), .val (.ref a2), .val (.int sz), .val .null, .unset]) (hb hby d4_26) rfl rfl ?_
  refine own_aloadN X8 hx (hb hby d4_27) rfl rfl ?_
  refine own_ifnullYes X8 hx (pc' := 75) (hb hby d4_28) (by decide) (by decide) ?_
  refine own_aloadN X8 hx (hb hby d4_75) rfl rfl ?_
  refine own_getF X8 hx hZ hown (host := "") (Or.inl (own_w hw 36 rfl)) Via.refl rfl r8_4 (hb hby d4_76) (fun T10 X10 e10 => ?_)
  refine own_iloadN X10 hx (hb hby d4_79) rfl ?_
  by_cases hc80_11 : sz < (sz + (1 : Int32))
  ·
    refine own_icmpNo X10 hx (hb hby d4_80) (tlt (hc80_11 : sz < (sz + (1 : Int32)))).2.2.2 ?_
    refine own_iconst X10 hx (v := (1 : Int32)) (hb hby d4_83) rfl ?_
    refine own_goto X10 hx (pc' := 88) (hb hby d4_84) (by decide) (by decide) ?_
    show Goes _ _ _ _ _ _ (T10.setTop (mkF m 88 #[.val (.ref a1), .val (.ref a2), .val (.int sz), .val .null, .unset] [(.int (1 : Int32))]))
    exact own_retN X10 hx (t := .boolean) N8 hlk (by decide) (by decide) hret (by simp) (hb hby d4_88) (by rw [e10]; exact ⟨(1 : Int32), b_3, kr2_3, rfl, KC9, r8_0, r8_1, r8_2, r8_3, r8_4, r8_5, r8_6, r8_7, r8_8, r8_9, r8_10, r8_11, sz_b_3, sz_kr2_3⟩)
  ·
    refine own_icmpYes X10 hx (pc' := 87) (hb hby d4_80) (flt (hc80_11 : ¬ (sz < (sz + (1 : Int32))))).2.2.2 (by decide) (by decide) ?_
    refine own_iconst X10 hx (v := (0 : Int32)) (hb hby d4_87) rfl ?_
    show Goes _ _ _ _ _ _ (T10.setTop (mkF m 88 #[.val (.ref a1), .val (.ref a2), .val (.int sz), .val .null, .unset] [(.int (0 : Int32))]))
    exact own_retN X10 hx (t := .boolean) N8 hlk (by decide) (by decide) hret (by simp) (hb hby d4_88) (by rw [e10]; exact ⟨(0 : Int32), b_3, kr2_3, rfl, KC9, r8_0, r8_1, r8_2, r8_3, r8_4, r8_5, r8_6, r8_7, r8_8, r8_9, r8_10, r8_11, sz_b_3, sz_kr2_3⟩)
def Q4Ag (Z : State) (a1 : Addr) (a2 : Addr) (te : Int64) (r : Addr) (d : Addr) (sz : Int32) (kr : Addr) (kk : ClassId) (k0 : Addr) (x : Int32) (y : Int32) (c0 : ClassId) (c1 : ClassId) (h0 : Heap) (n0 : Nat) (v : Option Value) (h : Heap) : Prop :=
  (∃ (w : Int32), v = some (.int w) ∧ Keep h0 h [a1, d, kr] ∧ Exa Z h a1 cT ∧ Fld Z h a1 cT "edit" "J" (.long te) ∧ Fld Z h a1 cT "root" dN (.ref r) ∧ Fld Z h a1 cT "draft" dN (.ref d) ∧ Fld Z h a1 cT "size" "I" (.int (sz + (1 : Int32))) ∧ Exa Z h d cN ∧ Fld Z h d cN "edit" "J" (.long te) ∧ Fld Z h d cN "keys" "[[B" (.ref kr) ∧ Fld Z h d cN "children" dA .null ∧ Fld Z h d cN "size" "I" (.int (2 : Int32)) ∧ Exa Z h kr "[[B" ∧ Arv Z h kr kk (.array .byte) (64 : Int32) [(.ref a2), (.ref k0), .null] .null)
theorem ef_4Ag (m : MethodId) (a1 : Addr) (a2 : Addr) : entryFrame m #[(.ref a1), (.ref a2)] 5 = mkF m 0 #[.val (.ref a1), .val (.ref a2), .unset, .unset, .unset] [] := by first | (simp [entryFrame, mkF, argsToLocals, Value.category]; done) | rfl
set_option maxRecDepth 65536 in
set_option maxHeartbeats 40000000 in
theorem rm4Ag (l : Launch) (Z : State) (a0 : Array Value) (hw : ∀ d ∈ tables_1, d.before a0 Z = true) (ws : List Jvm.Cond) (a1 : Addr) (a2 : Addr) (te : Int64) (r : Addr) (d : Addr) (sz : Int32) (kr : Addr) (kk : ClassId) (k0 : Addr) (x : Int32) (y : Int32) (c0 : ClassId) (c1 : ClassId) (h0 : Heap) (n0 : Nat) (O0 : Old Z n0 h0) (f0 : Exa Z h0 a1 cT) (f1 : Fld Z h0 a1 cT "edit" "J" (.long te)) (f2 : Fld Z h0 a1 cT "root" dN (.ref r)) (f3 : Fld Z h0 a1 cT "draft" dN (.ref d)) (f4 : Fld Z h0 a1 cT "size" "I" (.int sz)) (f5 : Exa Z h0 d cN) (f6 : Fld Z h0 d cN "edit" "J" (.long te)) (f7 : Fld Z h0 d cN "keys" "[[B" (.ref kr)) (f8 : Fld Z h0 d cN "children" dA .null) (f9 : Fld Z h0 d cN "size" "I" (.int (1 : Int32))) (f10 : Exa Z h0 kr "[[B") (f11 : Arv Z h0 kr kk (.array .byte) (64 : Int32) [(.ref k0), .null, .null] .null) (hov : OvrA Z kk .byte "[B") (f13 : n0 ≤ a1) (f14 : n0 ≤ d) (f15 : n0 ≤ kr) (f16 : Exa Z h0 a2 "[B") (f17 : Exa Z h0 k0 "[B") (f18 : Arv Z h0 k0 c0 .byte (1 : Int32) [(.int x)] (.int (0 : Int32))) (f19 : Arv Z h0 a2 c1 .byte (1 : Int32) [(.int y)] (.int (0 : Int32))) (f20 : k0 ≠ a2) (hxy : ¬ (x = y)) (hlt : ¬ (((x &&& (255 : Int32)) - (y &&& (255 : Int32))) < (0 : Int32))) :
    Meets l y4 prog_35_method_4_code 5 (some .boolean) ws ({ frames := 5, cells := 0, slots := 0, locals := 73 } : Room) ({ frames := 5, cells := 0, slots := 0, locals := 73 } : Room).cells ({ frames := 5, cells := 0, slots := 0, locals := 73 } : Room).slots Z #[(.ref a1), (.ref a2)] h0 n0 (Q4Ag Z a1 a2 te r d sz kr kk k0 x y c0 c1 h0 n0) := by
  refine Meets.of (F := fun m => mkF m 0 #[.val (.ref a1), .val (.ref a2), .unset, .unset, .unset] []) (plainFor_of_name pn_5) (fun m => ef_4Ag m a1 a2) ?_
  intro p e s m below meth c T0 hx hby hml hown0 hnm hret hlk hZ X0 e0
  have hown : s.vm.findClass cT = some m.cls := hown0
  have N0 := Fr.nil n0
  have KC0 := Keep.refl h0 [a1, d, kr]
  show Goes _ _ _ _ _ _ (T0.setTop (mkF m 0 #[.val (.ref a1), .val (.ref a2), .unset, .unset, .unset] []))
  refine own_aloadN X0 hx (hb hby d4_0) rfl rfl ?_
  refine own_getF X0 hx hZ hown (host := "") (Or.inl (own_w hw 36 rfl)) Via.refl e0 f4 (hb hby d4_1) (fun T1 X1 e1 => ?_)
  refine own_istoreN X1 hx (Ls' := #[.val (.ref a1), .val (.ref a2), .val (.int sz), .unset, .unset]) (hb hby d4_4) rfl ?_
  refine own_aloadN X1 hx (hb hby d4_5) rfl rfl ?_
  refine own_aloadN X1 hx (hb hby d4_6) rfl rfl ?_
  refine own_aloadN X1 hx (hb hby d4_7) rfl rfl ?_
  refine own_getF X1 hx hZ hown (host := "") (Or.inl (own_w hw 29 rfl)) Via.refl e1 f3 (hb hby d4_8) (fun T2 X2 e2 => ?_)
  refine own_private X2 hx hZ hown (y := y5) (own_w hw 38 rfl) (own_w hw 39 rfl) (own_w hw 2 rfl) (own_w hw 40 rfl) (own_w hw 3 rfl) (own_w hw 41 rfl) (a := a1) f0 (by decide) (W := 1) (by decide) (by decide) N0 e2 (by rw [hml]; rfl) (argsL := [(.ref d)]) (rest := [(.ref a1)]) (lenOf pd_12 rfl) (Nat.le_of_eq rfl) (by decide) (by decide) (rm5s l Z a0 hw [] a1 d te h0 n0 O0 f1 f6) rfl (hb hby d4_11) ?_
  intro v3 T3 lc3 X3 N3 hQ3
  obtain ⟨rfl, e3⟩ := hQ3
  refine own_putF X3 hx hZ hown N3 (host := "") (Or.inl (own_w hw 29 rfl)) Via.refl e3 f3 f0 (Or.inl (own_w hw 30 rfl)) (own_w hw 2 rfl) (ty := (.object cN)) (by decide) rfl rfl f13 (hb hby d4_14) (fun T4 h4 lc4 X4 e4 N4 W4 => ?_)
  have E5_a1 := f0.wr W4
  have E5_d := f5.wr W4
  have E5_kr := f10.wr W4
  have E5_a2 := f16.wr W4
  have E5_k0 := f17.wr W4
  have F5_edit_a1 := f1.other W4 (Or.inr (slot_ne (Or.inl (own_w hw 11 rfl)) (Or.inl (own_w hw 30 rfl)) (by decide) (t := .long) (t' := (.object cN)) (by decide) (by decide)))
  have F5_root_a1 := f2.other W4 (Or.inr (slot_ne (Or.inl (own_w hw 28 rfl)) (Or.inl (own_w hw 30 rfl)) (by decide) (t := (.object cN)) (t' := (.object cN)) (by decide) (by decide)))
  have F5_draft_a1 := f3.same W4
  have F5_size_a1 := f4.other W4 (Or.inr (slot_ne (Or.inl (own_w hw 37 rfl)) (Or.inl (own_w hw 30 rfl)) (by decide) (t := .int) (t' := (.object cN)) (by decide) (by decide)))
  have F5_edit_d := f6.other W4 (Or.inl (ne_exa f5 f0 (by decide)))
  have F5_keys_d := f7.other W4 (Or.inl (ne_exa f5 f0 (by decide)))
  have F5_children_d := f8.other W4 (Or.inl (ne_exa f5 f0 (by decide)))
  have F5_size_d := f9.other W4 (Or.inl (ne_exa f5 f0 (by decide)))
  have A5_kr := f11.other W4 (ne_exa f10 f0 (by decide))
  have A5_k0 := f18.other W4 (ne_exa f17 f0 (by decide))
  have A5_a2 := f19.other W4 (ne_exa f16 f0 (by decide))
  have O5 := O0.wr W4 f13
  have KC5 := KC0.wr W4 (Or.inl (List.mem_of_getElem? (i := 0) rfl))
  refine own_aloadN X4 hx (hb hby d4_17) rfl rfl ?_
  refine own_aloadN X4 hx (hb hby d4_18) rfl rfl ?_
  refine own_getF X4 hx hZ hown (host := "") (Or.inl (own_w hw 29 rfl)) Via.refl e4 F5_draft_a1 (hb hby d4_19) (fun T6 X6 e6 => ?_)
  refine own_aloadN X6 hx (hb hby d4_22) rfl rfl ?_
  refine own_private X6 hx hZ hown (y := y7) (own_w hw 57 rfl) (own_w hw 58 rfl) (own_w hw 2 rfl) (own_w hw 59 rfl) (own_w hw 3 rfl) (own_w hw 60 rfl) (a := a1) E5_a1 (by decide) (W := 0) (by decide) (by decide) N4 e6 (by rw [hml]; rfl) (argsL := [(.ref d), (.ref a2)]) (rest := []) (lenOf pd_13 rfl) (Nat.le_of_eq rfl) (by decide) (by decide) (rm71g l Z a0 hw [] a1 d a2 te r d sz te kr kk k0 x y c0 c1 h4 n0 O5 E5_a1 F5_edit_a1 F5_root_a1 F5_draft_a1 F5_size_a1 E5_d F5_edit_d F5_keys_d F5_children_d F5_size_d E5_kr A5_kr hov f13 f14 f15 E5_a2 E5_k0 A5_k0 A5_a2 f20 hxy hlt) rfl (hb hby d4_23) ?_
  intro v7 T7 lc7 X7 N7 hQ7
  obtain ⟨rfl, K7, r7_0, r7_1, r7_2, r7_3, r7_4, r7_5, r7_6, r7_7, r7_8, r7_9, r7_10, r7_11⟩ := hQ7
  have O8 := O5.keep K7 (allS f13 (allS f14 (allS f15 all0)))
  have KC8 := KC5.trans K7 (allS (Or.inl (List.mem_of_getElem? (i := 0) rfl)) (allS (Or.inl (List.mem_of_getElem? (i := 1) rfl)) (allS (Or.inl (List.mem_of_getElem? (i := 2) rfl)) all0)))
  refine own_astoreN X7 hx (Ls' := #[.val (.ref a1), .val (.ref a2), .val (.int sz), .val .null, .unset]) (hb hby d4_26) rfl rfl ?_
  refine own_aloadN X7 hx (hb hby d4_27) rfl rfl ?_
  refine own_ifnullYes X7 hx (pc' := 75) (hb hby d4_28) (by decide) (by decide) ?_
  refine own_aloadN X7 hx (hb hby d4_75) rfl rfl ?_
  refine own_getF X7 hx hZ hown (host := "") (Or.inl (own_w hw 36 rfl)) Via.refl rfl r7_4 (hb hby d4_76) (fun T9 X9 e9 => ?_)
  refine own_iloadN X9 hx (hb hby d4_79) rfl ?_
  by_cases hc80_10 : sz < (sz + (1 : Int32))
  ·
    refine own_icmpNo X9 hx (hb hby d4_80) (tlt (hc80_10 : sz < (sz + (1 : Int32)))).2.2.2 ?_
    refine own_iconst X9 hx (v := (1 : Int32)) (hb hby d4_83) rfl ?_
    refine own_goto X9 hx (pc' := 88) (hb hby d4_84) (by decide) (by decide) ?_
    show Goes _ _ _ _ _ _ (T9.setTop (mkF m 88 #[.val (.ref a1), .val (.ref a2), .val (.int sz), .val .null, .unset] [(.int (1 : Int32))]))
    exact own_retN X9 hx (t := .boolean) N7 hlk (by decide) (by decide) hret (by simp) (hb hby d4_88) (by rw [e9]; exact ⟨(1 : Int32), rfl, KC8, r7_0, r7_1, r7_2, r7_3, r7_4, r7_5, r7_6, r7_7, r7_8, r7_9, r7_10, r7_11⟩)
  ·
    refine own_icmpYes X9 hx (pc' := 87) (hb hby d4_80) (flt (hc80_10 : ¬ (sz < (sz + (1 : Int32))))).2.2.2 (by decide) (by decide) ?_
    refine own_iconst X9 hx (v := (0 : Int32)) (hb hby d4_87) rfl ?_
    show Goes _ _ _ _ _ _ (T9.setTop (mkF m 88 #[.val (.ref a1), .val (.ref a2), .val (.int sz), .val .null, .unset] [(.int (0 : Int32))]))
    exact own_retN X9 hx (t := .boolean) N7 hlk (by decide) (by decide) hret (by simp) (hb hby d4_88) (by rw [e9]; exact ⟨(0 : Int32), rfl, KC8, r7_0, r7_1, r7_2, r7_3, r7_4, r7_5, r7_6, r7_7, r7_8, r7_9, r7_10, r7_11⟩)
def Q4Bg (Z : State) (a1 : Addr) (a2 : Addr) (te : Int64) (d : Addr) (sz : Int32) (en : Int64) (kr : Addr) (kk : ClassId) (k0 : Addr) (x : Int32) (y : Int32) (c0 : ClassId) (c1 : ClassId) (h0 : Heap) (n0 : Nat) (v : Option Value) (h : Heap) : Prop :=
  (∃ (w : Int32) (b : Addr) (kr2 : Addr), v = some (.int w) ∧ Keep h0 h [a1] ∧ Exa Z h a1 cT ∧ Fld Z h a1 cT "edit" "J" (.long te) ∧ Fld Z h a1 cT "root" dN (.ref d) ∧ Fld Z h a1 cT "draft" dN (.ref b) ∧ Fld Z h a1 cT "size" "I" (.int (sz + (1 : Int32))) ∧ Exa Z h b cN ∧ Fld Z h b cN "edit" "J" (.long te) ∧ Fld Z h b cN "keys" "[[B" (.ref kr2) ∧ Fld Z h b cN "children" dA .null ∧ Fld Z h b cN "size" "I" (.int (2 : Int32)) ∧ Exa Z h kr2 "[[B" ∧ Arv Z h kr2 kk (.array .byte) (64 : Int32) [(.ref a2), (.ref k0), .null] .null ∧ h0.size ≤ b ∧ h0.size ≤ kr2)
theorem ef_4Bg (m : MethodId) (a1 : Addr) (a2 : Addr) : entryFrame m #[(.ref a1), (.ref a2)] 5 = mkF m 0 #[.val (.ref a1), .val (.ref a2), .unset, .unset, .unset] [] := by first | (simp [entryFrame, mkF, argsToLocals, Value.category]; done) | rfl
set_option maxRecDepth 65536 in
set_option maxHeartbeats 40000000 in
theorem rm4Bg (l : Launch) (Z : State) (a0 : Array Value) (hw : ∀ d ∈ tables_1, d.before a0 Z = true) (ws : List Jvm.Cond) (a1 : Addr) (a2 : Addr) (te : Int64) (d : Addr) (sz : Int32) (en : Int64) (kr : Addr) (kk : ClassId) (k0 : Addr) (x : Int32) (y : Int32) (c0 : ClassId) (c1 : ClassId) (h0 : Heap) (n0 : Nat) (O0 : Old Z n0 h0) (f0 : Exa Z h0 a1 cT) (f1 : Fld Z h0 a1 cT "edit" "J" (.long te)) (f2 : Fld Z h0 a1 cT "root" dN (.ref d)) (f3 : Fld Z h0 a1 cT "draft" dN (.ref d)) (f4 : Fld Z h0 a1 cT "size" "I" (.int sz)) (f5 : Exa Z h0 d cN) (f6 : Fld Z h0 d cN "edit" "J" (.long en)) (f7 : Fld Z h0 d cN "keys" "[[B" (.ref kr)) (f8 : Fld Z h0 d cN "children" dA .null) (f9 : Fld Z h0 d cN "size" "I" (.int (1 : Int32))) (f10 : Exa Z h0 kr "[[B") (f11 : Arv Z h0 kr kk (.array .byte) (64 : Int32) [(.ref k0), .null, .null] .null) (hov : OvrA Z kk .byte "[B") (f13 : n0 ≤ a1) (hne : ¬ (en = te)) (f15 : Exa Z h0 a2 "[B") (f16 : Exa Z h0 k0 "[B") (f17 : Arv Z h0 k0 c0 .byte (1 : Int32) [(.int x)] (.int (0 : Int32))) (f18 : Arv Z h0 a2 c1 .byte (1 : Int32) [(.int y)] (.int (0 : Int32))) (f19 : k0 ≠ a2) (hxy : ¬ (x = y)) (hlt : ¬ (((x &&& (255 : Int32)) - (y &&& (255 : Int32))) < (0 : Int32))) :
    Meets l y4 prog_35_method_4_code 5 (some .boolean) ws ({ frames := 5, cells := 2, slots := 68, locals := 73 } : Room) ({ frames := 5, cells := 2, slots := 68, locals := 73 } : Room).cells ({ frames := 5, cells := 2, slots := 68, locals := 73 } : Room).slots Z #[(.ref a1), (.ref a2)] h0 n0 (Q4Bg Z a1 a2 te d sz en kr kk k0 x y c0 c1 h0 n0) := by
  refine Meets.of (F := fun m => mkF m 0 #[.val (.ref a1), .val (.ref a2), .unset, .unset, .unset] []) (plainFor_of_name pn_5) (fun m => ef_4Bg m a1 a2) ?_
  intro p e s m below meth c T0 hx hby hml hown0 hnm hret hlk hZ X0 e0
  have hown : s.vm.findClass cT = some m.cls := hown0
  have N0 := Fr.nil n0
  have KC0 := Keep.refl h0 [a1]
  show Goes _ _ _ _ _ _ (T0.setTop (mkF m 0 #[.val (.ref a1), .val (.ref a2), .unset, .unset, .unset] []))
  refine own_aloadN X0 hx (hb hby d4_0) rfl rfl ?_
  refine own_getF X0 hx hZ hown (host := "") (Or.inl (own_w hw 36 rfl)) Via.refl e0 f4 (hb hby d4_1) (fun T1 X1 e1 => ?_)
  refine own_istoreN X1 hx (Ls' := #[.val (.ref a1), .val (.ref a2), .val (.int sz), .unset, .unset]) (hb hby d4_4) rfl ?_
  refine own_aloadN X1 hx (hb hby d4_5) rfl rfl ?_
  refine own_aloadN X1 hx (hb hby d4_6) rfl rfl ?_
  refine own_aloadN X1 hx (hb hby d4_7) rfl rfl ?_
  refine own_getF X1 hx hZ hown (host := "") (Or.inl (own_w hw 29 rfl)) Via.refl e1 f3 (hb hby d4_8) (fun T2 X2 e2 => ?_)
  refine own_private X2 hx hZ hown (y := y5) (own_w hw 38 rfl) (own_w hw 39 rfl) (own_w hw 2 rfl) (own_w hw 40 rfl) (own_w hw 3 rfl) (own_w hw 41 rfl) (a := a1) f0 (by decide) (W := 1) (by decide) (by decide) N0 e2 (by rw [hml]; rfl) (argsL := [(.ref d)]) (rest := [(.ref a1)]) (lenOf pd_12 rfl) (Nat.le_of_eq rfl) (by decide) (by decide) (rm5c l Z a0 hw [] a1 d te en kr kk (.ref k0) (.null) (.null) (1 : Int32) h0 n0 O0 f1 f5 f6 f7 f8 f9 f10 f11 hne) rfl (hb hby d4_11) ?_
  intro v3 T3 lc3 X3 N3 hQ3
  obtain ⟨b_3, kr2_3, rfl, K3, r3_0, r3_1, r3_2, r3_3, r3_4, r3_5, r3_6, r3_7, r3_8⟩ := hQ3
  have E4_a1 := f0.keep K3
  have E4_a2 := f15.keep K3
  have E4_k0 := f16.keep K3
  have F4_edit_a1 := f1.keep K3 nin0
  have F4_root_a1 := f2.keep K3 nin0
  have F4_draft_a1 := f3.keep K3 nin0
  have F4_size_a1 := f4.keep K3 nin0
  have A4_k0 := f17.keep K3 nin0
  have A4_a2 := f18.keep K3 nin0
  have O4 := O0.keep K3 all0
  have KC4 := KC0.trans K3 all0
  have ne_a1_b_3 : a1 ≠ b_3 := Nat.ne_of_lt (Nat.lt_of_lt_of_le f0.lt r3_7)
  have ge_b_3 : n0 ≤ b_3 := Nat.le_trans (own_sz O0) r3_7
  have sz_b_3 : h0.size ≤ b_3 := Nat.le_trans KC0.1 r3_7
  have ne_a1_kr2_3 : a1 ≠ kr2_3 := Nat.ne_of_lt (Nat.lt_of_lt_of_le f0.lt r3_8)
  have ge_kr2_3 : n0 ≤ kr2_3 := Nat.le_trans (own_sz O0) r3_8
  have sz_kr2_3 : h0.size ≤ kr2_3 := Nat.le_trans KC0.1 r3_8
  refine own_putF X3 hx hZ hown N3 (host := "") (Or.inl (own_w hw 29 rfl)) Via.refl rfl F4_draft_a1 E4_a1 (Or.inl (own_w hw 30 rfl)) (own_w hw 2 rfl) (ty := (.object cN)) (by decide) rfl rfl f13 (hb hby d4_14) (fun T5 h5 lc5 X5 e5 N5 W5 => ?_)
  have E6_a1 := E4_a1.wr W5
  have E6_a2 := E4_a2.wr W5
  have E6_k0 := E4_k0.wr W5
  have E6_b_3 := r3_0.wr W5
  have E6_kr2_3 := r3_5.wr W5
  have F6_edit_a1 := F4_edit_a1.other W5 (Or.inr (slot_ne (Or.inl (own_w hw 11 rfl)) (Or.inl (own_w hw 30 rfl)) (by decide) (t := .long) (t' := (.object cN)) (by decide) (by decide)))
  have F6_root_a1 := F4_root_a1.other W5 (Or.inr (slot_ne (Or.inl (own_w hw 28 rfl)) (Or.inl (own_w hw 30 rfl)) (by decide) (t := (.object cN)) (t' := (.object cN)) (by decide) (by decide)))
  have F6_draft_a1 := F4_draft_a1.same W5
  have F6_size_a1 := F4_size_a1.other W5 (Or.inr (slot_ne (Or.inl (own_w hw 37 rfl)) (Or.inl (own_w hw 30 rfl)) (by decide) (t := .int) (t' := (.object cN)) (by decide) (by decide)))
  have F6_edit_b_3 := r3_1.other W5 (Or.inl (Ne.symm ne_a1_b_3))
  have F6_keys_b_3 := r3_2.other W5 (Or.inl (Ne.symm ne_a1_b_3))
  have F6_children_b_3 := r3_3.other W5 (Or.inl (Ne.symm ne_a1_b_3))
  have F6_size_b_3 := r3_4.other W5 (Or.inl (Ne.symm ne_a1_b_3))
  have A6_k0 := A4_k0.other W5 (ne_exa E4_k0 E4_a1 (by decide))
  have A6_a2 := A4_a2.other W5 (ne_exa E4_a2 E4_a1 (by decide))
  have A6_kr2_3 := r3_6.other W5 (Ne.symm ne_a1_kr2_3)
  have O6 := O4.wr W5 f13
  have KC6 := KC4.wr W5 (Or.inl (List.mem_of_getElem? (i := 0) rfl))
  refine own_aloadN X5 hx (hb hby d4_17) rfl rfl ?_
  refine own_aloadN X5 hx (hb hby d4_18) rfl rfl ?_
  refine own_getF X5 hx hZ hown (host := "") (Or.inl (own_w hw 29 rfl)) Via.refl e5 F6_draft_a1 (hb hby d4_19) (fun T7 X7 e7 => ?_)
  refine own_aloadN X7 hx (hb hby d4_22) rfl rfl ?_
  refine own_private X7 hx hZ hown (y := y7) (own_w hw 57 rfl) (own_w hw 58 rfl) (own_w hw 2 rfl) (own_w hw 59 rfl) (own_w hw 3 rfl) (own_w hw 60 rfl) (a := a1) E6_a1 (by decide) (W := 0) (by decide) (by decide) N5 e7 (by rw [hml]; rfl) (argsL := [(.ref b_3), (.ref a2)]) (rest := []) (lenOf pd_13 rfl) (Nat.le_of_eq rfl) (by decide) (by decide) (rm71g l Z a0 hw [] a1 b_3 a2 te d b_3 sz te kr2_3 kk k0 x y c0 c1 h5 n0 O6 E6_a1 F6_edit_a1 F6_root_a1 F6_draft_a1 F6_size_a1 E6_b_3 F6_edit_b_3 F6_keys_b_3 F6_children_b_3 F6_size_b_3 E6_kr2_3 A6_kr2_3 hov f13 ge_b_3 ge_kr2_3 E6_a2 E6_k0 A6_k0 A6_a2 f19 hxy hlt) rfl (hb hby d4_23) ?_
  intro v8 T8 lc8 X8 N8 hQ8
  obtain ⟨rfl, K8, r8_0, r8_1, r8_2, r8_3, r8_4, r8_5, r8_6, r8_7, r8_8, r8_9, r8_10, r8_11⟩ := hQ8
  have O9 := O6.keep K8 (allS f13 (allS ge_b_3 (allS ge_kr2_3 all0)))
  have KC9 := KC6.trans K8 (allS (Or.inl (List.mem_of_getElem? (i := 0) rfl)) (allS (Or.inr sz_b_3) (allS (Or.inr sz_kr2_3) all0)))
  refine own_astoreN X8 hx (Ls' := #[.val (.ref a1), .val (.ref a2), .val (.int sz), .val .null, .unset]) (hb hby d4_26) rfl rfl ?_
  refine own_aloadN X8 hx (hb hby d4_27) rfl rfl ?_
  refine own_ifnullYes X8 hx (pc' := 75) (hb hby d4_28) (by decide) (by decide) ?_
  refine own_aloadN X8 hx (hb hby d4_75) rfl rfl ?_
  refine own_getF X8 hx hZ hown (host := "") (Or.inl (own_w hw 36 rfl)) Via.refl rfl r8_4 (hb hby d4_76) (fun T10 X10 e10 => ?_)
  refine own_iloadN X10 hx (hb hby d4_79) rfl ?_
  by_cases hc80_11 : sz < (sz + (1 : Int32))
  ·
    refine own_icmpNo X10 hx (hb hby d4_80) (tlt (hc80_11 : sz < (sz + (1 : Int32)))).2.2.2 ?_
    refine own_iconst X10 hx (v := (1 : Int32)) (hb hby d4_83) rfl ?_
    refine own_goto X10 hx (pc' := 88) (hb hby d4_84) (by decide) (by decide) ?_
    show Goes _ _ _ _ _ _ (T10.setTop (mkF m 88 #[.val (.ref a1), .val (.ref a2), .val (.int sz), .val .null, .unset] [(.int (1 : Int32))]))
    exact own_retN X10 hx (t := .boolean) N8 hlk (by decide) (by decide) hret (by simp) (hb hby d4_88) (by rw [e10]; exact ⟨(1 : Int32), b_3, kr2_3, rfl, KC9, r8_0, r8_1, r8_2, r8_3, r8_4, r8_5, r8_6, r8_7, r8_8, r8_9, r8_10, r8_11, sz_b_3, sz_kr2_3⟩)
  ·
    refine own_icmpYes X10 hx (pc' := 87) (hb hby d4_80) (flt (hc80_11 : ¬ (sz < (sz + (1 : Int32))))).2.2.2 (by decide) (by decide) ?_
    refine own_iconst X10 hx (v := (0 : Int32)) (hb hby d4_87) rfl ?_
    show Goes _ _ _ _ _ _ (T10.setTop (mkF m 88 #[.val (.ref a1), .val (.ref a2), .val (.int sz), .val .null, .unset] [(.int (0 : Int32))]))
    exact own_retN X10 hx (t := .boolean) N8 hlk (by decide) (by decide) hret (by simp) (hb hby d4_88) (by rw [e10]; exact ⟨(0 : Int32), b_3, kr2_3, rfl, KC9, r8_0, r8_1, r8_2, r8_3, r8_4, r8_5, r8_6, r8_7, r8_8, r8_9, r8_10, r8_11, sz_b_3, sz_kr2_3⟩)
theorem d29_0 : decode jdk_65_method_30_code 0 = .ok (.iload_n 1, 1) := by decide +kernel
theorem d29_1 : decode jdk_65_method_30_code 1 = .ok (.iload_n 2, 1) := by decide +kernel
theorem d29_2 : decode jdk_65_method_30_code 2 = .ok (.if_icmp .le 44, 3) := by decide +kernel
theorem d29_46 : decode jdk_65_method_30_code 46 = .ok (.iload_n 1, 1) := by decide +kernel
theorem d29_47 : decode jdk_65_method_30_code 47 = .ok (.ifCond .ge 12, 3) := by decide +kernel
theorem d29_59 : decode jdk_65_method_30_code 59 = .ok (.iload_n 2, 1) := by decide +kernel
theorem d29_60 : decode jdk_65_method_30_code 60 = .ok (.iload_n 0, 1) := by decide +kernel
theorem d29_61 : decode jdk_65_method_30_code 61 = .ok (.if_icmp .le 12, 3) := by decide +kernel
theorem d29_73 : decode jdk_65_method_30_code 73 = .ok (.return_, 1) := by decide +kernel
def Q2901 (Z : State) (h0 : Heap) (n0 : Nat) (v : Option Value) (h : Heap) : Prop :=
  (v = none ∧ h = h0)
theorem ef_2901 (m : MethodId) : entryFrame m #[(.int (64 : Int32)), (.int (0 : Int32)), (.int (1 : Int32))] 3 = mkF m 0 #[.val (.int (64 : Int32)), .val (.int (0 : Int32)), .val (.int (1 : Int32))] [] := by first | (simp [entryFrame, mkF, argsToLocals, Value.category]; done) | rfl
set_option maxRecDepth 65536 in
set_option maxHeartbeats 40000000 in
theorem rm2901 (l : Launch) (Z : State) (a0 : Array Value) (hw : ∀ d ∈ tables_1, d.before a0 Z = true) (ws : List Jvm.Cond) (h0 : Heap) (n0 : Nat) (O0 : Old Z n0 h0) :
    Meets l y29 jdk_65_method_30_code 3 none ws ({ frames := 0, cells := 0, slots := 0, locals := 0 } : Room) ({ frames := 0, cells := 0, slots := 0, locals := 0 } : Room).cells ({ frames := 0, cells := 0, slots := 0, locals := 0 } : Room).slots Z #[(.int (64 : Int32)), (.int (0 : Int32)), (.int (1 : Int32))] h0 n0 (Q2901 Z h0 n0) := by
  refine Meets.of (F := fun m => mkF m 0 #[.val (.int (64 : Int32)), .val (.int (0 : Int32)), .val (.int (1 : Int32))] []) (plainFor_of_name pn_2) (fun m => ef_2901 m) ?_
  intro p e s m below meth c T0 hx hby hml hown0 hnm hret hlk hZ X0 e0
  have hown : s.vm.findClass "java/util/Arrays" = some m.cls := hown0
  have N0 := Fr.nil n0
  show Goes _ _ _ _ _ _ (T0.setTop (mkF m 0 #[.val (.int (64 : Int32)), .val (.int (0 : Int32)), .val (.int (1 : Int32))] []))
  refine own_iloadN X0 hx (hb hby d29_0) rfl ?_
  refine own_iloadN X0 hx (hb hby d29_1) rfl ?_
  refine own_icmpYes X0 hx (pc' := 46) (hb hby d29_2) (flt (by decide : ¬ ((1 : Int32) < (0 : Int32)))).2.2.2 (by decide) (by decide) ?_
  refine own_iloadN X0 hx (hb hby d29_46) rfl ?_
  refine own_ifYes X0 hx (pc' := 59) (hb hby d29_47) ((if0 _ _).trans (flt (by decide : ¬ ((0 : Int32) < (0 : Int32)))).2.1) (by decide) (by decide) ?_
  refine own_iloadN X0 hx (hb hby d29_59) rfl ?_
  refine own_iloadN X0 hx (hb hby d29_60) rfl ?_
  refine own_icmpYes X0 hx (pc' := 73) (hb hby d29_61) (flt (by decide : ¬ ((64 : Int32) < (1 : Int32)))).2.2.2 (by decide) (by decide) ?_
  show Goes _ _ _ _ _ _ (T0.setTop (mkF m 73 #[.val (.int (64 : Int32)), .val (.int (0 : Int32)), .val (.int (1 : Int32))] []))
  exact own_retV X0 hx N0 hlk (by decide) (by decide) hret (hb hby d29_73) (by rw [e0]; exact ⟨rfl, rfl⟩)
theorem d28_0 : decode jdk_65_method_118_code 0 = .ok (.aload_n 0, 1) := by decide +kernel
theorem d28_1 : decode jdk_65_method_118_code 1 = .ok (.arraylength, 1) := by decide +kernel
theorem d28_2 : decode jdk_65_method_118_code 2 = .ok (.iload_n 1, 1) := by decide +kernel
theorem d28_3 : decode jdk_65_method_118_code 3 = .ok (.iload_n 2, 1) := by decide +kernel
theorem d28_4 : decode jdk_65_method_118_code 4 = .ok (.invokestatic 13, 3) := by decide +kernel
theorem pd_14 : parseMethodDescriptor "(III)V" = some ⟨[.int, .int, .int], none⟩ := by decide +kernel
theorem d28_7 : decode jdk_65_method_118_code 7 = .ok (.iload_n 1, 1) := by decide +kernel
theorem d28_8 : decode jdk_65_method_118_code 8 = .ok (.istore 4, 2) := by decide +kernel
theorem d28_10 : decode jdk_65_method_118_code 10 = .ok (.iload 4, 2) := by decide +kernel
theorem d28_12 : decode jdk_65_method_118_code 12 = .ok (.iload_n 2, 1) := by decide +kernel
theorem d28_13 : decode jdk_65_method_118_code 13 = .ok (.if_icmp .ge 14, 3) := by decide +kernel
theorem d28_16 : decode jdk_65_method_118_code 16 = .ok (.aload_n 0, 1) := by decide +kernel
theorem d28_17 : decode jdk_65_method_118_code 17 = .ok (.iload 4, 2) := by decide +kernel
theorem d28_19 : decode jdk_65_method_118_code 19 = .ok (.aload_n 3, 1) := by decide +kernel
theorem d28_20 : decode jdk_65_method_118_code 20 = .ok (.aastore, 1) := by decide +kernel
theorem d28_21 : decode jdk_65_method_118_code 21 = .ok (.iinc 4 1, 3) := by decide +kernel
theorem d28_24 : decode jdk_65_method_118_code 24 = .ok (.goto (-14), 3) := by decide +kernel
theorem d28_27 : decode jdk_65_method_118_code 27 = .ok (.return_, 1) := by decide +kernel
def Q2801 (Z : State) (a1 : Addr) (kk : ClassId) (v0 : Value) (v1 : Value) (v2 : Value) (h0 : Heap) (n0 : Nat) (v : Option Value) (h : Heap) : Prop :=
  (v = none ∧ Keep h0 h [a1] ∧ Arv Z h a1 kk (.array .byte) (64 : Int32) [.null, v1, v2] .null)
theorem ef_2801 (m : MethodId) (a1 : Addr) : entryFrame m #[(.ref a1), (.int (0 : Int32)), (.int (1 : Int32)), .null] 5 = mkF m 0 #[.val (.ref a1), .val (.int (0 : Int32)), .val (.int (1 : Int32)), .val .null, .unset] [] := by first | (simp [entryFrame, mkF, argsToLocals, Value.category]; done) | rfl
set_option maxRecDepth 65536 in
set_option maxHeartbeats 40000000 in
theorem rm2801 (l : Launch) (Z : State) (a0 : Array Value) (hw : ∀ d ∈ tables_1, d.before a0 Z = true) (ws : List Jvm.Cond) (a1 : Addr) (kk : ClassId) (v0 : Value) (v1 : Value) (v2 : Value) (h0 : Heap) (n0 : Nat) (O0 : Old Z n0 h0) (f0 : Arv Z h0 a1 kk (.array .byte) (64 : Int32) [v0, v1, v2] .null) (f1 : n0 ≤ a1) :
    Meets l y28 jdk_65_method_118_code 5 none ws ({ frames := 1, cells := 0, slots := 0, locals := 14 } : Room) ({ frames := 1, cells := 0, slots := 0, locals := 14 } : Room).cells ({ frames := 1, cells := 0, slots := 0, locals := 14 } : Room).slots Z #[(.ref a1), (.int (0 : Int32)), (.int (1 : Int32)), .null] h0 n0 (Q2801 Z a1 kk v0 v1 v2 h0 n0) := by
  refine Meets.of (F := fun m => mkF m 0 #[.val (.ref a1), .val (.int (0 : Int32)), .val (.int (1 : Int32)), .val .null, .unset] []) (plainFor_of_name pn_2) (fun m => ef_2801 m a1) ?_
  intro p e s m below meth c T0 hx hby hml hown0 hnm hret hlk hZ X0 e0
  have hown : s.vm.findClass "java/util/Arrays" = some m.cls := hown0
  have N0 := Fr.nil n0
  have KC0 := Keep.refl h0 [a1]
  show Goes _ _ _ _ _ _ (T0.setTop (mkF m 0 #[.val (.ref a1), .val (.int (0 : Int32)), .val (.int (1 : Int32)), .val .null, .unset] []))
  refine own_aloadN X0 hx (hb hby d28_0) rfl rfl ?_
  refine own_alen X0 hx hZ e0 f0 (hb hby d28_1) ?_
  refine own_iloadN X0 hx (hb hby d28_2) rfl ?_
  refine own_iloadN X0 hx (hb hby d28_3) rfl ?_
  refine own_callS X0 hx hZ hown (y := y29) (own_w hw 178 rfl) (own_w hw 179 rfl) (own_w hw 138 rfl) (own_w hw 180 rfl) (by decide) (W := 0) (by decide) (by decide) N0 e0 (by rw [hml]; rfl) (argsL := [(.int (64 : Int32)), (.int (0 : Int32)), (.int (1 : Int32))]) (rest := []) (lenOf pd_14 rfl) (Nat.le_of_eq rfl) (by decide) (by decide) (rm2901 l Z a0 hw [] h0 n0 O0) rfl (hb hby d28_4) ?_
  intro v1 T1 lc1 X1 N1 hQ1
  obtain ⟨rfl, e1⟩ := hQ1
  refine own_iloadN X1 hx (hb hby d28_7) rfl ?_
  refine own_istore X1 hx (Ls' := #[.val (.ref a1), .val (.int (0 : Int32)), .val (.int (1 : Int32)), .val .null, .val (.int (0 : Int32))]) (hb hby d28_8) rfl ?_
  refine own_iload X1 hx (hb hby d28_10) rfl ?_
  refine own_iloadN X1 hx (hb hby d28_12) rfl ?_
  refine own_icmpNo X1 hx (hb hby d28_13) (tlt (by decide : (0 : Int32) < (1 : Int32))).2.1 ?_
  refine own_aloadN X1 hx (hb hby d28_16) rfl rfl ?_
  refine own_iload X1 hx (hb hby d28_17) rfl ?_
  refine own_aloadN X1 hx (hb hby d28_19) rfl rfl ?_
  refine own_aastore X1 hx hZ N1 e1 f0 rfl rfl ⟨by decide, by decide⟩ (i := 0) rfl (by first | decide | (simp; done)) f1 (fun _ _ _ => Or.inl rfl) (hb hby d28_20) (fun T2 h2 lc2 X2 e2 N2 W2 V2 => ?_)
  have O3 := O0.wr W2 f1
  have KC3 := KC0.wr W2 (Or.inl (List.mem_of_getElem? (i := 0) rfl))
  have V2' : Arv Z h2 a1 kk (.array .byte) (64 : Int32) [.null, v1, v2] .null := V2
  refine own_iinc X2 hx (Ls' := #[.val (.ref a1), .val (.int (0 : Int32)), .val (.int (1 : Int32)), .val .null, .val (.int ((0 : Int32) + (1 : Int32)))]) (hb hby d28_21) rfl rfl ?_
  refine own_goto X2 hx (pc' := 10) (hb hby d28_24) (by decide) (by decide) ?_
  refine own_iload X2 hx (hb hby d28_10) rfl ?_
  refine own_iloadN X2 hx (hb hby d28_12) rfl ?_
  refine own_icmpYes X2 hx (pc' := 27) (hb hby d28_13) (flt (by decide : ¬ (((0 : Int32) + (1 : Int32)) < (1 : Int32)))).2.1 (by decide) (by decide) ?_
  show Goes _ _ _ _ _ _ (T2.setTop (mkF m 27 #[.val (.ref a1), .val (.int (0 : Int32)), .val (.int (1 : Int32)), .val .null, .val (.int ((0 : Int32) + (1 : Int32)))] []))
  exact own_retV X2 hx N2 hlk (by decide) (by decide) hret (hb hby d28_27) (by rw [e2]; exact ⟨rfl, KC3, V2'⟩)
def Q2912 (Z : State) (h0 : Heap) (n0 : Nat) (v : Option Value) (h : Heap) : Prop :=
  (v = none ∧ h = h0)
theorem ef_2912 (m : MethodId) : entryFrame m #[(.int (64 : Int32)), (.int (1 : Int32)), (.int (2 : Int32))] 3 = mkF m 0 #[.val (.int (64 : Int32)), .val (.int (1 : Int32)), .val (.int (2 : Int32))] [] := by first | (simp [entryFrame, mkF, argsToLocals, Value.category]; done) | rfl
set_option maxRecDepth 65536 in
set_option maxHeartbeats 40000000 in
theorem rm2912 (l : Launch) (Z : State) (a0 : Array Value) (hw : ∀ d ∈ tables_1, d.before a0 Z = true) (ws : List Jvm.Cond) (h0 : Heap) (n0 : Nat) (O0 : Old Z n0 h0) :
    Meets l y29 jdk_65_method_30_code 3 none ws ({ frames := 0, cells := 0, slots := 0, locals := 0 } : Room) ({ frames := 0, cells := 0, slots := 0, locals := 0 } : Room).cells ({ frames := 0, cells := 0, slots := 0, locals := 0 } : Room).slots Z #[(.int (64 : Int32)), (.int (1 : Int32)), (.int (2 : Int32))] h0 n0 (Q2912 Z h0 n0) := by
  refine Meets.of (F := fun m => mkF m 0 #[.val (.int (64 : Int32)), .val (.int (1 : Int32)), .val (.int (2 : Int32))] []) (plainFor_of_name pn_2) (fun m => ef_2912 m) ?_
  intro p e s m below meth c T0 hx hby hml hown0 hnm hret hlk hZ X0 e0
  have hown : s.vm.findClass "java/util/Arrays" = some m.cls := hown0
  have N0 := Fr.nil n0
  show Goes _ _ _ _ _ _ (T0.setTop (mkF m 0 #[.val (.int (64 : Int32)), .val (.int (1 : Int32)), .val (.int (2 : Int32))] []))
  refine own_iloadN X0 hx (hb hby d29_0) rfl ?_
  refine own_iloadN X0 hx (hb hby d29_1) rfl ?_
  refine own_icmpYes X0 hx (pc' := 46) (hb hby d29_2) (flt (by decide : ¬ ((2 : Int32) < (1 : Int32)))).2.2.2 (by decide) (by decide) ?_
  refine own_iloadN X0 hx (hb hby d29_46) rfl ?_
  refine own_ifYes X0 hx (pc' := 59) (hb hby d29_47) ((if0 _ _).trans (flt (by decide : ¬ ((1 : Int32) < (0 : Int32)))).2.1) (by decide) (by decide) ?_
  refine own_iloadN X0 hx (hb hby d29_59) rfl ?_
  refine own_iloadN X0 hx (hb hby d29_60) rfl ?_
  refine own_icmpYes X0 hx (pc' := 73) (hb hby d29_61) (flt (by decide : ¬ ((64 : Int32) < (2 : Int32)))).2.2.2 (by decide) (by decide) ?_
  show Goes _ _ _ _ _ _ (T0.setTop (mkF m 73 #[.val (.int (64 : Int32)), .val (.int (1 : Int32)), .val (.int (2 : Int32))] []))
  exact own_retV X0 hx N0 hlk (by decide) (by decide) hret (hb hby d29_73) (by rw [e0]; exact ⟨rfl, rfl⟩)
def Q2812 (Z : State) (a1 : Addr) (kk : ClassId) (v0 : Value) (v1 : Value) (v2 : Value) (h0 : Heap) (n0 : Nat) (v : Option Value) (h : Heap) : Prop :=
  (v = none ∧ Keep h0 h [a1] ∧ Arv Z h a1 kk (.array .byte) (64 : Int32) [v0, .null, v2] .null)
theorem ef_2812 (m : MethodId) (a1 : Addr) : entryFrame m #[(.ref a1), (.int (1 : Int32)), (.int (2 : Int32)), .null] 5 = mkF m 0 #[.val (.ref a1), .val (.int (1 : Int32)), .val (.int (2 : Int32)), .val .null, .unset] [] := by first | (simp [entryFrame, mkF, argsToLocals, Value.category]; done) | rfl
set_option maxRecDepth 65536 in
set_option maxHeartbeats 40000000 in
theorem rm2812 (l : Launch) (Z : State) (a0 : Array Value) (hw : ∀ d ∈ tables_1, d.before a0 Z = true) (ws : List Jvm.Cond) (a1 : Addr) (kk : ClassId) (v0 : Value) (v1 : Value) (v2 : Value) (h0 : Heap) (n0 : Nat) (O0 : Old Z n0 h0) (f0 : Arv Z h0 a1 kk (.array .byte) (64 : Int32) [v0, v1, v2] .null) (f1 : n0 ≤ a1) :
    Meets l y28 jdk_65_method_118_code 5 none ws ({ frames := 1, cells := 0, slots := 0, locals := 14 } : Room) ({ frames := 1, cells := 0, slots := 0, locals := 14 } : Room).cells ({ frames := 1, cells := 0, slots := 0, locals := 14 } : Room).slots Z #[(.ref a1), (.int (1 : Int32)), (.int (2 : Int32)), .null] h0 n0 (Q2812 Z a1 kk v0 v1 v2 h0 n0) := by
  refine Meets.of (F := fun m => mkF m 0 #[.val (.ref a1), .val (.int (1 : Int32)), .val (.int (2 : Int32)), .val .null, .unset] []) (plainFor_of_name pn_2) (fun m => ef_2812 m a1) ?_
  intro p e s m below meth c T0 hx hby hml hown0 hnm hret hlk hZ X0 e0
  have hown : s.vm.findClass "java/util/Arrays" = some m.cls := hown0
  have N0 := Fr.nil n0
  have KC0 := Keep.refl h0 [a1]
  show Goes _ _ _ _ _ _ (T0.setTop (mkF m 0 #[.val (.ref a1), .val (.int (1 : Int32)), .val (.int (2 : Int32)), .val .null, .unset] []))
  refine own_aloadN X0 hx (hb hby d28_0) rfl rfl ?_
  refine own_alen X0 hx hZ e0 f0 (hb hby d28_1) ?_
  refine own_iloadN X0 hx (hb hby d28_2) rfl ?_
  refine own_iloadN X0 hx (hb hby d28_3) rfl ?_
  refine own_callS X0 hx hZ hown (y := y29) (own_w hw 178 rfl) (own_w hw 179 rfl) (own_w hw 138 rfl) (own_w hw 180 rfl) (by decide) (W := 0) (by decide) (by decide) N0 e0 (by rw [hml]; rfl) (argsL := [(.int (64 : Int32)), (.int (1 : Int32)), (.int (2 : Int32))]) (rest := []) (lenOf pd_14 rfl) (Nat.le_of_eq rfl) (by decide) (by decide) (rm2912 l Z a0 hw [] h0 n0 O0) rfl (hb hby d28_4) ?_
  intro v1 T1 lc1 X1 N1 hQ1
  obtain ⟨rfl, e1⟩ := hQ1
  refine own_iloadN X1 hx (hb hby d28_7) rfl ?_
  refine own_istore X1 hx (Ls' := #[.val (.ref a1), .val (.int (1 : Int32)), .val (.int (2 : Int32)), .val .null, .val (.int (1 : Int32))]) (hb hby d28_8) rfl ?_
  refine own_iload X1 hx (hb hby d28_10) rfl ?_
  refine own_iloadN X1 hx (hb hby d28_12) rfl ?_
  refine own_icmpNo X1 hx (hb hby d28_13) (tlt (by decide : (1 : Int32) < (2 : Int32))).2.1 ?_
  refine own_aloadN X1 hx (hb hby d28_16) rfl rfl ?_
  refine own_iload X1 hx (hb hby d28_17) rfl ?_
  refine own_aloadN X1 hx (hb hby d28_19) rfl rfl ?_
  refine own_aastore X1 hx hZ N1 e1 f0 rfl rfl ⟨by decide, by decide⟩ (i := 1) rfl (by first | decide | (simp; done)) f1 (fun _ _ _ => Or.inl rfl) (hb hby d28_20) (fun T2 h2 lc2 X2 e2 N2 W2 V2 => ?_)
  have O3 := O0.wr W2 f1
  have KC3 := KC0.wr W2 (Or.inl (List.mem_of_getElem? (i := 0) rfl))
  have V2' : Arv Z h2 a1 kk (.array .byte) (64 : Int32) [v0, .null, v2] .null := V2
  refine own_iinc X2 hx (Ls' := #[.val (.ref a1), .val (.int (1 : Int32)), .val (.int (2 : Int32)), .val .null, .val (.int ((1 : Int32) + (1 : Int32)))]) (hb hby d28_21) rfl rfl ?_
  refine own_goto X2 hx (pc' := 10) (hb hby d28_24) (by decide) (by decide) ?_
  refine own_iload X2 hx (hb hby d28_10) rfl ?_
  refine own_iloadN X2 hx (hb hby d28_12) rfl ?_
  refine own_icmpYes X2 hx (pc' := 27) (hb hby d28_13) (flt (by decide : ¬ (((1 : Int32) + (1 : Int32)) < (2 : Int32)))).2.1 (by decide) (by decide) ?_
  show Goes _ _ _ _ _ _ (T2.setTop (mkF m 27 #[.val (.ref a1), .val (.int (1 : Int32)), .val (.int (2 : Int32)), .val .null, .val (.int ((1 : Int32) + (1 : Int32)))] []))
  exact own_retV X2 hx N2 hlk (by decide) (by decide) hret (hb hby d28_27) (by rw [e2]; exact ⟨rfl, KC3, V2'⟩)
theorem d27_0 : decode prog_36_method_6_code 0 = .ok (.aload_n 0, 1) := by decide +kernel
theorem d27_1 : decode prog_36_method_6_code 1 = .ok (.getfield 32, 3) := by decide +kernel
theorem d27_4 : decode prog_36_method_6_code 4 = .ok (.iload_n 1, 1) := by decide +kernel
theorem d27_5 : decode prog_36_method_6_code 5 = .ok (.isub, 1) := by decide +kernel
theorem d27_6 : decode prog_36_method_6_code 6 = .ok (.iload_n 2, 1) := by decide +kernel
theorem d27_7 : decode prog_36_method_6_code 7 = .ok (.isub, 1) := by decide +kernel
theorem d27_8 : decode prog_36_method_6_code 8 = .ok (.istore_n 3, 1) := by decide +kernel
theorem d27_9 : decode prog_36_method_6_code 9 = .ok (.aload_n 0, 1) := by decide +kernel
theorem d27_10 : decode prog_36_method_6_code 10 = .ok (.getfield 17, 3) := by decide +kernel
theorem d27_13 : decode prog_36_method_6_code 13 = .ok (.iload_n 1, 1) := by decide +kernel
theorem d27_14 : decode prog_36_method_6_code 14 = .ok (.iload_n 2, 1) := by decide +kernel
theorem d27_15 : decode prog_36_method_6_code 15 = .ok (.iadd, 1) := by decide +kernel
theorem d27_16 : decode prog_36_method_6_code 16 = .ok (.aload_n 0, 1) := by decide +kernel
theorem d27_17 : decode prog_36_method_6_code 17 = .ok (.getfield 17, 3) := by decide +kernel
theorem d27_20 : decode prog_36_method_6_code 20 = .ok (.iload_n 1, 1) := by decide +kernel
theorem d27_21 : decode prog_36_method_6_code 21 = .ok (.iload_n 3, 1) := by decide +kernel
theorem d27_22 : decode prog_36_method_6_code 22 = .ok (.invokestatic 36, 3) := by decide +kernel
theorem d27_25 : decode prog_36_method_6_code 25 = .ok (.aload_n 0, 1) := by decide +kernel
theorem d27_26 : decode prog_36_method_6_code 26 = .ok (.getfield 17, 3) := by decide +kernel
theorem d27_29 : decode prog_36_method_6_code 29 = .ok (.aload_n 0, 1) := by decide +kernel
theorem d27_30 : decode prog_36_method_6_code 30 = .ok (.getfield 32, 3) := by decide +kernel
theorem d27_33 : decode prog_36_method_6_code 33 = .ok (.iload_n 2, 1) := by decide +kernel
theorem d27_34 : decode prog_36_method_6_code 34 = .ok (.isub, 1) := by decide +kernel
theorem d27_35 : decode prog_36_method_6_code 35 = .ok (.aload_n 0, 1) := by decide +kernel
theorem d27_36 : decode prog_36_method_6_code 36 = .ok (.getfield 32, 3) := by decide +kernel
theorem d27_39 : decode prog_36_method_6_code 39 = .ok (.aconst_null, 1) := by decide +kernel
theorem d27_40 : decode prog_36_method_6_code 40 = .ok (.invokestatic 46, 3) := by decide +kernel
theorem pd_15 : parseMethodDescriptor "([Ljava/lang/Object;IILjava/lang/Object;)V" = some ⟨[(.array (.object "java/lang/Object")), .int, .int, (.object "java/lang/Object")], none⟩ := by decide +kernel
theorem d27_43 : decode prog_36_method_6_code 43 = .ok (.aload_n 0, 1) := by decide +kernel
theorem d27_44 : decode prog_36_method_6_code 44 = .ok (.getfield 21, 3) := by decide +kernel
theorem d27_47 : decode prog_36_method_6_code 47 = .ok (.ifnull 37, 3) := by decide +kernel
theorem d27_84 : decode prog_36_method_6_code 84 = .ok (.aload_n 0, 1) := by decide +kernel
theorem d27_85 : decode prog_36_method_6_code 85 = .ok (.dup, 1) := by decide +kernel
theorem d27_86 : decode prog_36_method_6_code 86 = .ok (.getfield 32, 3) := by decide +kernel
theorem d27_89 : decode prog_36_method_6_code 89 = .ok (.iload_n 2, 1) := by decide +kernel
theorem d27_90 : decode prog_36_method_6_code 90 = .ok (.isub, 1) := by decide +kernel
theorem d27_91 : decode prog_36_method_6_code 91 = .ok (.putfield 32, 3) := by decide +kernel
theorem d27_94 : decode prog_36_method_6_code 94 = .ok (.return_, 1) := by decide +kernel
def Q2710 (Z : State) (a1 : Addr) (ed : Int64) (kr : Addr) (kk : ClassId) (k0 : Addr) (h0 : Heap) (n0 : Nat) (v : Option Value) (h : Heap) : Prop :=
  (v = none ∧ Keep h0 h [a1, kr] ∧ Exa Z h a1 cN ∧ Fld Z h a1 cN "edit" "J" (.long ed) ∧ Fld Z h a1 cN "keys" "[[B" (.ref kr) ∧ Fld Z h a1 cN "children" dA .null ∧ Fld Z h a1 cN "size" "I" (.int (0 : Int32)) ∧ Exa Z h kr "[[B" ∧ Arv Z h kr kk (.array .byte) (64 : Int32) [.null, .null, .null] .null)
theorem ef_2710 (m : MethodId) (a1 : Addr) : entryFrame m #[(.ref a1), (.int (0 : Int32)), (.int (1 : Int32))] 4 = mkF m 0 #[.val (.ref a1), .val (.int (0 : Int32)), .val (.int (1 : Int32)), .unset] [] := by first | (simp [entryFrame, mkF, argsToLocals, Value.category]; done) | rfl
set_option maxRecDepth 65536 in
set_option maxHeartbeats 40000000 in
theorem rm2710 (l : Launch) (Z : State) (a0 : Array Value) (hw : ∀ d ∈ tables_1, d.before a0 Z = true) (ws : List Jvm.Cond) (a1 : Addr) (ed : Int64) (kr : Addr) (kk : ClassId) (k0 : Addr) (h0 : Heap) (n0 : Nat) (O0 : Old Z n0 h0) (f0 : Exa Z h0 a1 cN) (f1 : Fld Z h0 a1 cN "edit" "J" (.long ed)) (f2 : Fld Z h0 a1 cN "keys" "[[B" (.ref kr)) (f3 : Fld Z h0 a1 cN "children" dA .null) (f4 : Fld Z h0 a1 cN "size" "I" (.int (1 : Int32))) (f5 : Exa Z h0 kr "[[B") (f6 : Arv Z h0 kr kk (.array .byte) (64 : Int32) [(.ref k0), .null, .null] .null) (hov : OvrA Z kk .byte "[B") (f8 : n0 ≤ a1) (f9 : n0 ≤ kr) (f10 : Exa Z h0 k0 "[B") :
    Meets l y27 prog_36_method_6_code 4 none ws ({ frames := 2, cells := 0, slots := 0, locals := 30 } : Room) ({ frames := 2, cells := 0, slots := 0, locals := 30 } : Room).cells ({ frames := 2, cells := 0, slots := 0, locals := 30 } : Room).slots Z #[(.ref a1), (.int (0 : Int32)), (.int (1 : Int32))] h0 n0 (Q2710 Z a1 ed kr kk k0 h0 n0) := by
  refine Meets.of (F := fun m => mkF m 0 #[.val (.ref a1), .val (.int (0 : Int32)), .val (.int (1 : Int32)), .unset] []) (plainFor_of_name pn_4) (fun m => ef_2710 m a1) ?_
  intro p e s m below meth c T0 hx hby hml hown0 hnm hret hlk hZ X0 e0
  have hown : s.vm.findClass cN = some m.cls := hown0
  have N0 := Fr.nil n0
  have KC0 := Keep.refl h0 [a1, kr]
  show Goes _ _ _ _ _ _ (T0.setTop (mkF m 0 #[.val (.ref a1), .val (.int (0 : Int32)), .val (.int (1 : Int32)), .unset] []))
  refine own_aloadN X0 hx (hb hby d27_0) rfl rfl ?_
  refine own_getF X0 hx hZ hown (host := "") (Or.inl (own_w hw 55 rfl)) Via.refl e0 f4 (hb hby d27_1) (fun T1 X1 e1 => ?_)
  refine own_iloadN X1 hx (hb hby d27_4) rfl ?_
  refine own_isub X1 hx (hb hby d27_5) ?_
  rw [show ((1 : Int32) - (0 : Int32)) = (1 : Int32) by decide]
  refine own_iloadN X1 hx (hb hby d27_6) rfl ?_
  refine own_isub X1 hx (hb hby d27_7) ?_
  rw [show ((1 : Int32) - (1 : Int32)) = (0 : Int32) by decide]
  refine own_istoreN X1 hx (Ls' := #[.val (.ref a1), .val (.int (0 : Int32)), .val (.int (1 : Int32)), .val (.int (0 : Int32))]) (hb hby d27_8) rfl ?_
  refine own_aloadN X1 hx (hb hby d27_9) rfl rfl ?_
  refine own_getF X1 hx hZ hown (host := "") (Or.inl (own_w hw 23 rfl)) Via.refl e1 f2 (hb hby d27_10) (fun T2 X2 e2 => ?_)
  refine own_iloadN X2 hx (hb hby d27_13) rfl ?_
  refine own_iloadN X2 hx (hb hby d27_14) rfl ?_
  refine own_iadd X2 hx (hb hby d27_15) ?_
  rw [show ((0 : Int32) + (1 : Int32)) = (1 : Int32) by decide]
  refine own_aloadN X2 hx (hb hby d27_16) rfl rfl ?_
  refine own_getF X2 hx hZ hown (host := "") (Or.inl (own_w hw 23 rfl)) Via.refl e2 f2 (hb hby d27_17) (fun T3 X3 e3 => ?_)
  refine own_iloadN X3 hx (hb hby d27_20) rfl ?_
  refine own_iloadN X3 hx (hb hby d27_21) rfl ?_
  obtain ⟨cl4, Ar4, q4, -⟩ := id f6
  refine own_cpA X3 hx hZ hown (own_w hw 77 rfl) (own_w hw 80 rfl) (own_w hw 78 rfl) (own_w hw 79 rfl) e3 f6 f6 (us := []) (vr := [(.ref k0), .null, .null]) (Or.inr ⟨rfl, rfl, trivial⟩) (by decide) (by decide) (by decide) (by decide) (by decide) rfl (Nat.le_of_ble_eq_true rfl) rfl N0 f9 (by rw [hml]; rfl) (hb hby d27_22) (by decide) (W := 0) (Nat.le_of_eq rfl) (by decide) (fun T4 h4 lc4 X4 e4 N4 K4 V4 => ?_)
  have E5_a1 := f0.keep K4
  have E5_kr := f5.keep K4
  have F5_edit_a1 := f1.keep K4 (ninS (ne_exa f0 f5 (by decide)) nin0)
  have F5_keys_a1 := f2.keep K4 (ninS (ne_exa f0 f5 (by decide)) nin0)
  have F5_children_a1 := f3.keep K4 (ninS (ne_exa f0 f5 (by decide)) nin0)
  have F5_size_a1 := f4.keep K4 (ninS (ne_exa f0 f5 (by decide)) nin0)
  have O5 := O0.keep K4 (allS f9 all0)
  have KC5 := KC0.trans K4 (allS (Or.inl (List.mem_of_getElem? (i := 1) rfl)) all0)
  refine own_aloadN X4 hx (hb hby d27_25) rfl rfl ?_
  refine own_getF X4 hx hZ hown (host := "") (Or.inl (own_w hw 23 rfl)) Via.refl e4 F5_keys_a1 (hb hby d27_26) (fun T6 X6 e6 => ?_)
  refine own_aloadN X6 hx (hb hby d27_29) rfl rfl ?_
  refine own_getF X6 hx hZ hown (host := "") (Or.inl (own_w hw 55 rfl)) Via.refl e6 F5_size_a1 (hb hby d27_30) (fun T7 X7 e7 => ?_)
  refine own_iloadN X7 hx (hb hby d27_33) rfl ?_
  refine own_isub X7 hx (hb hby d27_34) ?_
  rw [show ((1 : Int32) - (1 : Int32)) = (0 : Int32) by decide]
  refine own_aloadN X7 hx (hb hby d27_35) rfl rfl ?_
  refine own_getF X7 hx hZ hown (host := "") (Or.inl (own_w hw 55 rfl)) Via.refl e7 F5_size_a1 (hb hby d27_36) (fun T8 X8 e8 => ?_)
  refine own_aconst_null X8 hx (hb hby d27_39) ?_
  refine own_callS X8 hx hZ hown (y := y28) (own_w hw 175 rfl) (own_w hw 176 rfl) (own_w hw 138 rfl) (own_w hw 177 rfl) (by decide) (W := 0) (by decide) (by decide) N4 e8 (by rw [hml]; rfl) (argsL := [(.ref kr), (.int (0 : Int32)), (.int (1 : Int32)), .null]) (rest := []) (lenOf pd_15 rfl) (Nat.le_of_eq rfl) (by decide) (by decide) (rm2801 l Z a0 hw [] kr kk (.ref k0) (.null) (.null) h4 n0 O5 V4 f9) rfl (hb hby d27_40) ?_
  intro v9 T9 lc9 X9 N9 hQ9
  obtain ⟨rfl, K9, r9_0⟩ := hQ9
  have E10_a1 := E5_a1.keep K9
  have E10_kr := E5_kr.keep K9
  have F10_edit_a1 := F5_edit_a1.keep K9 (ninS (ne_exa E5_a1 E5_kr (by decide)) nin0)
  have F10_keys_a1 := F5_keys_a1.keep K9 (ninS (ne_exa E5_a1 E5_kr (by decide)) nin0)
  have F10_children_a1 := F5_children_a1.keep K9 (ninS (ne_exa E5_a1 E5_kr (by decide)) nin0)
  have F10_size_a1 := F5_size_a1.keep K9 (ninS (ne_exa E5_a1 E5_kr (by decide)) nin0)
  have O10 := O5.keep K9 (allS f9 all0)
  have KC10 := KC5.trans K9 (allS (Or.inl (List.mem_of_getElem? (i := 1) rfl)) all0)
  refine own_aloadN X9 hx (hb hby d27_43) rfl rfl ?_
  refine own_getF X9 hx hZ hown (host := "") (Or.inl (own_w hw 25 rfl)) Via.refl rfl F10_children_a1 (hb hby d27_44) (fun T11 X11 e11 => ?_)
  refine own_ifnullYes X11 hx (pc' := 84) (hb hby d27_47) (by decide) (by decide) ?_
  refine own_aloadN X11 hx (hb hby d27_84) rfl rfl ?_
  refine own_dup X11 hx (hb hby d27_85) rfl ?_
  refine own_getF X11 hx hZ hown (host := "") (Or.inl (own_w hw 55 rfl)) Via.refl e11 F10_size_a1 (hb hby d27_86) (fun T12 X12 e12 => ?_)
  refine own_iloadN X12 hx (hb hby d27_89) rfl ?_
  refine own_isub X12 hx (hb hby d27_90) ?_
  rw [show ((1 : Int32) - (1 : Int32)) = (0 : Int32) by decide]
  refine own_putF X12 hx hZ hown N9 (host := "") (Or.inl (own_w hw 55 rfl)) Via.refl e12 F10_size_a1 E10_a1 (Or.inl (own_w hw 56 rfl)) (own_w hw 13 rfl) (ty := .int) (by decide) rfl rfl f8 (hb hby d27_91) (fun T13 h13 lc13 X13 e13 N13 W13 => ?_)
  have E14_a1 := E10_a1.wr W13
  have E14_kr := E10_kr.wr W13
  have F14_edit_a1 := F10_edit_a1.other W13 (Or.inr (slot_ne (Or.inr (own_w hw 20 rfl)) (Or.inl (own_w hw 56 rfl)) (by decide) (t := .long) (t' := .int) (by decide) (by decide)))
  have F14_keys_a1 := F10_keys_a1.other W13 (Or.inr (slot_ne (Or.inr (own_w hw 24 rfl)) (Or.inl (own_w hw 56 rfl)) (by decide) (t := (.array (.array .byte))) (t' := .int) (by decide) (by decide)))
  have F14_children_a1 := F10_children_a1.other W13 (Or.inr (slot_ne (Or.inr (own_w hw 26 rfl)) (Or.inl (own_w hw 56 rfl)) (by decide) (t := (.array (.object cN))) (t' := .int) (by decide) (by decide)))
  have F14_size_a1 := F10_size_a1.same W13
  have A14_kr := r9_0.other W13 (ne_exa E10_kr E10_a1 (by decide))
  have O14 := O10.wr W13 f8
  have KC14 := KC10.wr W13 (Or.inl (List.mem_of_getElem? (i := 0) rfl))
  show Goes _ _ _ _ _ _ (T13.setTop (mkF m 94 #[.val (.ref a1), .val (.int (0 : Int32)), .val (.int (1 : Int32)), .val (.int (0 : Int32))] []))
  exact own_retV X13 hx N13 hlk (by decide) (by decide) hret (hb hby d27_94) (by rw [e13]; exact ⟨rfl, KC14, E14_a1, F14_edit_a1, F14_keys_a1, F14_children_a1, F14_size_a1, E14_kr, A14_kr⟩)
theorem d26_0 : decode prog_36_method_5_code 0 = .ok (.aload_n 0, 1) := by decide +kernel
theorem d26_1 : decode prog_36_method_5_code 1 = .ok (.iload_n 1, 1) := by decide +kernel
theorem d26_2 : decode prog_36_method_5_code 2 = .ok (.iconst 1, 1) := by decide +kernel
theorem d26_3 : decode prog_36_method_5_code 3 = .ok (.invokevirtual 42, 3) := by decide +kernel
theorem pd_16 : parseMethodDescriptor "(II)V" = some ⟨[.int, .int], none⟩ := by decide +kernel
theorem d26_6 : decode prog_36_method_5_code 6 = .ok (.return_, 1) := by decide +kernel
def Q2610 (Z : State) (a1 : Addr) (ed : Int64) (kr : Addr) (kk : ClassId) (k0 : Addr) (h0 : Heap) (n0 : Nat) (v : Option Value) (h : Heap) : Prop :=
  (v = none ∧ Keep h0 h [a1, kr] ∧ Exa Z h a1 cN ∧ Fld Z h a1 cN "edit" "J" (.long ed) ∧ Fld Z h a1 cN "keys" "[[B" (.ref kr) ∧ Fld Z h a1 cN "children" dA .null ∧ Fld Z h a1 cN "size" "I" (.int (0 : Int32)) ∧ Exa Z h kr "[[B" ∧ Arv Z h kr kk (.array .byte) (64 : Int32) [.null, .null, .null] .null)
theorem ef_2610 (m : MethodId) (a1 : Addr) : entryFrame m #[(.ref a1), (.int (0 : Int32))] 2 = mkF m 0 #[.val (.ref a1), .val (.int (0 : Int32))] [] := by first | (simp [entryFrame, mkF, argsToLocals, Value.category]; done) | rfl
set_option maxRecDepth 65536 in
set_option maxHeartbeats 40000000 in
theorem rm2610 (l : Launch) (Z : State) (a0 : Array Value) (hw : ∀ d ∈ tables_1, d.before a0 Z = true) (ws : List Jvm.Cond) (a1 : Addr) (ed : Int64) (kr : Addr) (kk : ClassId) (k0 : Addr) (h0 : Heap) (n0 : Nat) (O0 : Old Z n0 h0) (f0 : Exa Z h0 a1 cN) (f1 : Fld Z h0 a1 cN "edit" "J" (.long ed)) (f2 : Fld Z h0 a1 cN "keys" "[[B" (.ref kr)) (f3 : Fld Z h0 a1 cN "children" dA .null) (f4 : Fld Z h0 a1 cN "size" "I" (.int (1 : Int32))) (f5 : Exa Z h0 kr "[[B") (f6 : Arv Z h0 kr kk (.array .byte) (64 : Int32) [(.ref k0), .null, .null] .null) (hov : OvrA Z kk .byte "[B") (f8 : n0 ≤ a1) (f9 : n0 ≤ kr) (f10 : Exa Z h0 k0 "[B") :
    Meets l y26 prog_36_method_5_code 2 none ws ({ frames := 3, cells := 0, slots := 0, locals := 45 } : Room) ({ frames := 3, cells := 0, slots := 0, locals := 45 } : Room).cells ({ frames := 3, cells := 0, slots := 0, locals := 45 } : Room).slots Z #[(.ref a1), (.int (0 : Int32))] h0 n0 (Q2610 Z a1 ed kr kk k0 h0 n0) := by
  refine Meets.of (F := fun m => mkF m 0 #[.val (.ref a1), .val (.int (0 : Int32))] []) (plainFor_of_name pn_4) (fun m => ef_2610 m a1) ?_
  intro p e s m below meth c T0 hx hby hml hown0 hnm hret hlk hZ X0 e0
  have hown : s.vm.findClass cN = some m.cls := hown0
  have N0 := Fr.nil n0
  have KC0 := Keep.refl h0 [a1, kr]
  show Goes _ _ _ _ _ _ (T0.setTop (mkF m 0 #[.val (.ref a1), .val (.int (0 : Int32))] []))
  refine own_aloadN X0 hx (hb hby d26_0) rfl rfl ?_
  refine own_iloadN X0 hx (hb hby d26_1) rfl ?_
  refine own_iconst X0 hx (v := (1 : Int32)) (hb hby d26_2) rfl ?_
  refine own_private X0 hx hZ hown (y := y27) (own_w hw 171 rfl) (own_w hw 172 rfl) (own_w hw 13 rfl) (own_w hw 173 rfl) (own_w hw 14 rfl) (own_w hw 174 rfl) (a := a1) f0 (by decide) (W := 0) (by decide) (by decide) N0 e0 (by rw [hml]; rfl) (argsL := [(.int (0 : Int32)), (.int (1 : Int32))]) (rest := []) (lenOf pd_16 rfl) (Nat.le_of_eq rfl) (by decide) (by decide) (rm2710 l Z a0 hw [] a1 ed kr kk k0 h0 n0 O0 f0 f1 f2 f3 f4 f5 f6 hov f8 f9 f10) rfl (hb hby d26_3) ?_
  intro v1 T1 lc1 X1 N1 hQ1
  obtain ⟨rfl, K1, r1_0, r1_1, r1_2, r1_3, r1_4, r1_5, r1_6⟩ := hQ1
  have O2 := O0.keep K1 (allS f8 (allS f9 all0))
  have KC2 := KC0.trans K1 (allS (Or.inl (List.mem_of_getElem? (i := 0) rfl)) (allS (Or.inl (List.mem_of_getElem? (i := 1) rfl)) all0))
  show Goes _ _ _ _ _ _ (T1.setTop (mkF m 6 #[.val (.ref a1), .val (.int (0 : Int32))] []))
  exact own_retV X1 hx N1 hlk (by decide) (by decide) hret (hb hby d26_6) (⟨rfl, KC2, r1_0, r1_1, r1_2, r1_3, r1_4, r1_5, r1_6⟩)
def Q2720 (Z : State) (a1 : Addr) (ed : Int64) (kr : Addr) (kk : ClassId) (k0 : Addr) (k1 : Addr) (h0 : Heap) (n0 : Nat) (v : Option Value) (h : Heap) : Prop :=
  (v = none ∧ Keep h0 h [a1, kr] ∧ Exa Z h a1 cN ∧ Fld Z h a1 cN "edit" "J" (.long ed) ∧ Fld Z h a1 cN "keys" "[[B" (.ref kr) ∧ Fld Z h a1 cN "children" dA .null ∧ Fld Z h a1 cN "size" "I" (.int (1 : Int32)) ∧ Exa Z h kr "[[B" ∧ Arv Z h kr kk (.array .byte) (64 : Int32) [(.ref k1), .null, .null] .null)
theorem ef_2720 (m : MethodId) (a1 : Addr) : entryFrame m #[(.ref a1), (.int (0 : Int32)), (.int (1 : Int32))] 4 = mkF m 0 #[.val (.ref a1), .val (.int (0 : Int32)), .val (.int (1 : Int32)), .unset] [] := by first | (simp [entryFrame, mkF, argsToLocals, Value.category]; done) | rfl
set_option maxRecDepth 65536 in
set_option maxHeartbeats 40000000 in
theorem rm2720 (l : Launch) (Z : State) (a0 : Array Value) (hw : ∀ d ∈ tables_1, d.before a0 Z = true) (ws : List Jvm.Cond) (a1 : Addr) (ed : Int64) (kr : Addr) (kk : ClassId) (k0 : Addr) (k1 : Addr) (h0 : Heap) (n0 : Nat) (O0 : Old Z n0 h0) (f0 : Exa Z h0 a1 cN) (f1 : Fld Z h0 a1 cN "edit" "J" (.long ed)) (f2 : Fld Z h0 a1 cN "keys" "[[B" (.ref kr)) (f3 : Fld Z h0 a1 cN "children" dA .null) (f4 : Fld Z h0 a1 cN "size" "I" (.int (2 : Int32))) (f5 : Exa Z h0 kr "[[B") (f6 : Arv Z h0 kr kk (.array .byte) (64 : Int32) [(.ref k0), (.ref k1), .null] .null) (hov : OvrA Z kk .byte "[B") (f8 : n0 ≤ a1) (f9 : n0 ≤ kr) (f10 : Exa Z h0 k0 "[B") (f11 : Exa Z h0 k1 "[B") :
    Meets l y27 prog_36_method_6_code 4 none ws ({ frames := 2, cells := 0, slots := 0, locals := 30 } : Room) ({ frames := 2, cells := 0, slots := 0, locals := 30 } : Room).cells ({ frames := 2, cells := 0, slots := 0, locals := 30 } : Room).slots Z #[(.ref a1), (.int (0 : Int32)), (.int (1 : Int32))] h0 n0 (Q2720 Z a1 ed kr kk k0 k1 h0 n0) := by
  refine Meets.of (F := fun m => mkF m 0 #[.val (.ref a1), .val (.int (0 : Int32)), .val (.int (1 : Int32)), .unset] []) (plainFor_of_name pn_4) (fun m => ef_2720 m a1) ?_
  intro p e s m below meth c T0 hx hby hml hown0 hnm hret hlk hZ X0 e0
  have hown : s.vm.findClass cN = some m.cls := hown0
  have N0 := Fr.nil n0
  have KC0 := Keep.refl h0 [a1, kr]
  show Goes _ _ _ _ _ _ (T0.setTop (mkF m 0 #[.val (.ref a1), .val (.int (0 : Int32)), .val (.int (1 : Int32)), .unset] []))
  refine own_aloadN X0 hx (hb hby d27_0) rfl rfl ?_
  refine own_getF X0 hx hZ hown (host := "") (Or.inl (own_w hw 55 rfl)) Via.refl e0 f4 (hb hby d27_1) (fun T1 X1 e1 => ?_)
  refine own_iloadN X1 hx (hb hby d27_4) rfl ?_
  refine own_isub X1 hx (hb hby d27_5) ?_
  rw [show ((2 : Int32) - (0 : Int32)) = (2 : Int32) by decide]
  refine own_iloadN X1 hx (hb hby d27_6) rfl ?_
  refine own_isub X1 hx (hb hby d27_7) ?_
  rw [show ((2 : Int32) - (1 : Int32)) = (1 : Int32) by decide]
  refine own_istoreN X1 hx (Ls' := #[.val (.ref a1), .val (.int (0 : Int32)), .val (.int (1 : Int32)), .val (.int (1 : Int32))]) (hb hby d27_8) rfl ?_
  refine own_aloadN X1 hx (hb hby d27_9) rfl rfl ?_
  refine own_getF X1 hx hZ hown (host := "") (Or.inl (own_w hw 23 rfl)) Via.refl e1 f2 (hb hby d27_10) (fun T2 X2 e2 => ?_)
  refine own_iloadN X2 hx (hb hby d27_13) rfl ?_
  refine own_iloadN X2 hx (hb hby d27_14) rfl ?_
  refine own_iadd X2 hx (hb hby d27_15) ?_
  rw [show ((0 : Int32) + (1 : Int32)) = (1 : Int32) by decide]
  refine own_aloadN X2 hx (hb hby d27_16) rfl rfl ?_
  refine own_getF X2 hx hZ hown (host := "") (Or.inl (own_w hw 23 rfl)) Via.refl e2 f2 (hb hby d27_17) (fun T3 X3 e3 => ?_)
  refine own_iloadN X3 hx (hb hby d27_20) rfl ?_
  refine own_iloadN X3 hx (hb hby d27_21) rfl ?_
  obtain ⟨cl4, Ar4, q4, -⟩ := id f6
  refine own_cpA X3 hx hZ hown (own_w hw 77 rfl) (own_w hw 80 rfl) (own_w hw 78 rfl) (own_w hw 79 rfl) e3 f6 f6 (us := [(.ref k1)]) (vr := [(.ref k1), (.ref k1), .null]) (Or.inr ⟨rfl, rfl, ⟨(Sto.ofVA Ar4 q4 hov (Ins.self f11)), trivial⟩⟩) (by decide) (by decide) (by decide) (by decide) (by decide) rfl (Nat.le_of_ble_eq_true rfl) rfl N0 f9 (by rw [hml]; rfl) (hb hby d27_22) (by decide) (W := 0) (Nat.le_of_eq rfl) (by decide) (fun T4 h4 lc4 X4 e4 N4 K4 V4 => ?_)
  have E5_a1 := f0.keep K4
  have E5_kr := f5.keep K4
  have F5_edit_a1 := f1.keep K4 (ninS (ne_exa f0 f5 (by decide)) nin0)
  have F5_keys_a1 := f2.keep K4 (ninS (ne_exa f0 f5 (by decide)) nin0)
  have F5_children_a1 := f3.keep K4 (ninS (ne_exa f0 f5 (by decide)) nin0)
  have F5_size_a1 := f4.keep K4 (ninS (ne_exa f0 f5 (by decide)) nin0)
  have O5 := O0.keep K4 (allS f9 all0)
  have KC5 := KC0.trans K4 (allS (Or.inl (List.mem_of_getElem? (i := 1) rfl)) all0)
  refine own_aloadN X4 hx (hb hby d27_25) rfl rfl ?_
  refine own_getF X4 hx hZ hown (host := "") (Or.inl (own_w hw 23 rfl)) Via.refl e4 F5_keys_a1 (hb hby d27_26) (fun T6 X6 e6 => ?_)
  refine own_aloadN X6 hx (hb hby d27_29) rfl rfl ?_
  refine own_getF X6 hx hZ hown (host := "") (Or.inl (own_w hw 55 rfl)) Via.refl e6 F5_size_a1 (hb hby d27_30) (fun T7 X7 e7 => ?_)
  refine own_iloadN X7 hx (hb hby d27_33) rfl ?_
  refine own_isub X7 hx (hb hby d27_34) ?_
  rw [show ((2 : Int32) - (1 : Int32)) = (1 : Int32) by decide]
  refine own_aloadN X7 hx (hb hby d27_35) rfl rfl ?_
  refine own_getF X7 hx hZ hown (host := "") (Or.inl (own_w hw 55 rfl)) Via.refl e7 F5_size_a1 (hb hby d27_36) (fun T8 X8 e8 => ?_)
  refine own_aconst_null X8 hx (hb hby d27_39) ?_
  refine own_callS X8 hx hZ hown (y := y28) (own_w hw 175 rfl) (own_w hw 176 rfl) (own_w hw 138 rfl) (own_w hw 177 rfl) (by decide) (W := 0) (by decide) (by decide) N4 e8 (by rw [hml]; rfl) (argsL := [(.ref kr), (.int (1 : Int32)), (.int (2 : Int32)), .null]) (rest := []) (lenOf pd_15 rfl) (Nat.le_of_eq rfl) (by decide) (by decide) (rm2812 l Z a0 hw [] kr kk (.ref k1) (.ref k1) (.null) h4 n0 O5 V4 f9) rfl (hb hby d27_40) ?_
  intro v9 T9 lc9 X9 N9 hQ9
  obtain ⟨rfl, K9, r9_0⟩ := hQ9
  have E10_a1 := E5_a1.keep K9
  have E10_kr := E5_kr.keep K9
  have F10_edit_a1 := F5_edit_a1.keep K9 (ninS (ne_exa E5_a1 E5_kr (by decide)) nin0)
  have F10_keys_a1 := F5_keys_a1.keep K9 (ninS (ne_exa E5_a1 E5_kr (by decide)) nin0)
  have F10_children_a1 := F5_children_a1.keep K9 (ninS (ne_exa E5_a1 E5_kr (by decide)) nin0)
  have F10_size_a1 := F5_size_a1.keep K9 (ninS (ne_exa E5_a1 E5_kr (by decide)) nin0)
  have O10 := O5.keep K9 (allS f9 all0)
  have KC10 := KC5.trans K9 (allS (Or.inl (List.mem_of_getElem? (i := 1) rfl)) all0)
  refine own_aloadN X9 hx (hb hby d27_43) rfl rfl ?_
  refine own_getF X9 hx hZ hown (host := "") (Or.inl (own_w hw 25 rfl)) Via.refl rfl F10_children_a1 (hb hby d27_44) (fun T11 X11 e11 => ?_)
  refine own_ifnullYes X11 hx (pc' := 84) (hb hby d27_47) (by decide) (by decide) ?_
  refine own_aloadN X11 hx (hb hby d27_84) rfl rfl ?_
  refine own_dup X11 hx (hb hby d27_85) rfl ?_
  refine own_getF X11 hx hZ hown (host := "") (Or.inl (own_w hw 55 rfl)) Via.refl e11 F10_size_a1 (hb hby d27_86) (fun T12 X12 e12 => ?_)
  refine own_iloadN X12 hx (hb hby d27_89) rfl ?_
  refine own_isub X12 hx (hb hby d27_90) ?_
  rw [show ((2 : Int32) - (1 : Int32)) = (1 : Int32) by decide]
  refine own_putF X12 hx hZ hown N9 (host := "") (Or.inl (own_w hw 55 rfl)) Via.refl e12 F10_size_a1 E10_a1 (Or.inl (own_w hw 56 rfl)) (own_w hw 13 rfl) (ty := .int) (by decide) rfl rfl f8 (hb hby d27_91) (fun T13 h13 lc13 X13 e13 N13 W13 => ?_)
  have E14_a1 := E10_a1.wr W13
  have E14_kr := E10_kr.wr W13
  have F14_edit_a1 := F10_edit_a1.other W13 (Or.inr (slot_ne (Or.inr (own_w hw 20 rfl)) (Or.inl (own_w hw 56 rfl)) (by decide) (t := .long) (t' := .int) (by decide) (by decide)))
  have F14_keys_a1 := F10_keys_a1.other W13 (Or.inr (slot_ne (Or.inr (own_w hw 24 rfl)) (Or.inl (own_w hw 56 rfl)) (by decide) (t := (.array (.array .byte))) (t' := .int) (by decide) (by decide)))
  have F14_children_a1 := F10_children_a1.other W13 (Or.inr (slot_ne (Or.inr (own_w hw 26 rfl)) (Or.inl (own_w hw 56 rfl)) (by decide) (t := (.array (.object cN))) (t' := .int) (by decide) (by decide)))
  have F14_size_a1 := F10_size_a1.same W13
  have A14_kr := r9_0.other W13 (ne_exa E10_kr E10_a1 (by decide))
  have O14 := O10.wr W13 f8
  have KC14 := KC10.wr W13 (Or.inl (List.mem_of_getElem? (i := 0) rfl))
  show Goes _ _ _ _ _ _ (T13.setTop (mkF m 94 #[.val (.ref a1), .val (.int (0 : Int32)), .val (.int (1 : Int32)), .val (.int (1 : Int32))] []))
  exact own_retV X13 hx N13 hlk (by decide) (by decide) hret (hb hby d27_94) (by rw [e13]; exact ⟨rfl, KC14, E14_a1, F14_edit_a1, F14_keys_a1, F14_children_a1, F14_size_a1, E14_kr, A14_kr⟩)
def Q2620 (Z : State) (a1 : Addr) (ed : Int64) (kr : Addr) (kk : ClassId) (k0 : Addr) (k1 : Addr) (h0 : Heap) (n0 : Nat) (v : Option Value) (h : Heap) : Prop :=
  (v = none ∧ Keep h0 h [a1, kr] ∧ Exa Z h a1 cN ∧ Fld Z h a1 cN "edit" "J" (.long ed) ∧ Fld Z h a1 cN "keys" "[[B" (.ref kr) ∧ Fld Z h a1 cN "children" dA .null ∧ Fld Z h a1 cN "size" "I" (.int (1 : Int32)) ∧ Exa Z h kr "[[B" ∧ Arv Z h kr kk (.array .byte) (64 : Int32) [(.ref k1), .null, .null] .null)
theorem ef_2620 (m : MethodId) (a1 : Addr) : entryFrame m #[(.ref a1), (.int (0 : Int32))] 2 = mkF m 0 #[.val (.ref a1), .val (.int (0 : Int32))] [] := by first | (simp [entryFrame, mkF, argsToLocals, Value.category]; done) | rfl
set_option maxRecDepth 65536 in
set_option maxHeartbeats 40000000 in
theorem rm2620 (l : Launch) (Z : State) (a0 : Array Value) (hw : ∀ d ∈ tables_1, d.before a0 Z = true) (ws : List Jvm.Cond) (a1 : Addr) (ed : Int64) (kr : Addr) (kk : ClassId) (k0 : Addr) (k1 : Addr) (h0 : Heap) (n0 : Nat) (O0 : Old Z n0 h0) (f0 : Exa Z h0 a1 cN) (f1 : Fld Z h0 a1 cN "edit" "J" (.long ed)) (f2 : Fld Z h0 a1 cN "keys" "[[B" (.ref kr)) (f3 : Fld Z h0 a1 cN "children" dA .null) (f4 : Fld Z h0 a1 cN "size" "I" (.int (2 : Int32))) (f5 : Exa Z h0 kr "[[B") (f6 : Arv Z h0 kr kk (.array .byte) (64 : Int32) [(.ref k0), (.ref k1), .null] .null) (hov : OvrA Z kk .byte "[B") (f8 : n0 ≤ a1) (f9 : n0 ≤ kr) (f10 : Exa Z h0 k0 "[B") (f11 : Exa Z h0 k1 "[B") :
    Meets l y26 prog_36_method_5_code 2 none ws ({ frames := 3, cells := 0, slots := 0, locals := 45 } : Room) ({ frames := 3, cells := 0, slots := 0, locals := 45 } : Room).cells ({ frames := 3, cells := 0, slots := 0, locals := 45 } : Room).slots Z #[(.ref a1), (.int (0 : Int32))] h0 n0 (Q2620 Z a1 ed kr kk k0 k1 h0 n0) := by
  refine Meets.of (F := fun m => mkF m 0 #[.val (.ref a1), .val (.int (0 : Int32))] []) (plainFor_of_name pn_4) (fun m => ef_2620 m a1) ?_
  intro p e s m below meth c T0 hx hby hml hown0 hnm hret hlk hZ X0 e0
  have hown : s.vm.findClass cN = some m.cls := hown0
  have N0 := Fr.nil n0
  have KC0 := Keep.refl h0 [a1, kr]
  show Goes _ _ _ _ _ _ (T0.setTop (mkF m 0 #[.val (.ref a1), .val (.int (0 : Int32))] []))
  refine own_aloadN X0 hx (hb hby d26_0) rfl rfl ?_
  refine own_iloadN X0 hx (hb hby d26_1) rfl ?_
  refine own_iconst X0 hx (v := (1 : Int32)) (hb hby d26_2) rfl ?_
  refine own_private X0 hx hZ hown (y := y27) (own_w hw 171 rfl) (own_w hw 172 rfl) (own_w hw 13 rfl) (own_w hw 173 rfl) (own_w hw 14 rfl) (own_w hw 174 rfl) (a := a1) f0 (by decide) (W := 0) (by decide) (by decide) N0 e0 (by rw [hml]; rfl) (argsL := [(.int (0 : Int32)), (.int (1 : Int32))]) (rest := []) (lenOf pd_16 rfl) (Nat.le_of_eq rfl) (by decide) (by decide) (rm2720 l Z a0 hw [] a1 ed kr kk k0 k1 h0 n0 O0 f0 f1 f2 f3 f4 f5 f6 hov f8 f9 f10 f11) rfl (hb hby d26_3) ?_
  intro v1 T1 lc1 X1 N1 hQ1
  obtain ⟨rfl, K1, r1_0, r1_1, r1_2, r1_3, r1_4, r1_5, r1_6⟩ := hQ1
  have O2 := O0.keep K1 (allS f8 (allS f9 all0))
  have KC2 := KC0.trans K1 (allS (Or.inl (List.mem_of_getElem? (i := 0) rfl)) (allS (Or.inl (List.mem_of_getElem? (i := 1) rfl)) all0))
  show Goes _ _ _ _ _ _ (T1.setTop (mkF m 6 #[.val (.ref a1), .val (.int (0 : Int32))] []))
  exact own_retV X1 hx N1 hlk (by decide) (by decide) hret (hb hby d26_6) (⟨rfl, KC2, r1_0, r1_1, r1_2, r1_3, r1_4, r1_5, r1_6⟩)
def Q2721 (Z : State) (a1 : Addr) (ed : Int64) (kr : Addr) (kk : ClassId) (k0 : Addr) (k1 : Addr) (h0 : Heap) (n0 : Nat) (v : Option Value) (h : Heap) : Prop :=
  (v = none ∧ Keep h0 h [a1, kr] ∧ Exa Z h a1 cN ∧ Fld Z h a1 cN "edit" "J" (.long ed) ∧ Fld Z h a1 cN "keys" "[[B" (.ref kr) ∧ Fld Z h a1 cN "children" dA .null ∧ Fld Z h a1 cN "size" "I" (.int (1 : Int32)) ∧ Exa Z h kr "[[B" ∧ Arv Z h kr kk (.array .byte) (64 : Int32) [(.ref k0), .null, .null] .null)
theorem ef_2721 (m : MethodId) (a1 : Addr) : entryFrame m #[(.ref a1), (.int (1 : Int32)), (.int (1 : Int32))] 4 = mkF m 0 #[.val (.ref a1), .val (.int (1 : Int32)), .val (.int (1 : Int32)), .unset] [] := by first | (simp [entryFrame, mkF, argsToLocals, Value.category]; done) | rfl
set_option maxRecDepth 65536 in
set_option maxHeartbeats 40000000 in
theorem rm2721 (l : Launch) (Z : State) (a0 : Array Value) (hw : ∀ d ∈ tables_1, d.before a0 Z = true) (ws : List Jvm.Cond) (a1 : Addr) (ed : Int64) (kr : Addr) (kk : ClassId) (k0 : Addr) (k1 : Addr) (h0 : Heap) (n0 : Nat) (O0 : Old Z n0 h0) (f0 : Exa Z h0 a1 cN) (f1 : Fld Z h0 a1 cN "edit" "J" (.long ed)) (f2 : Fld Z h0 a1 cN "keys" "[[B" (.ref kr)) (f3 : Fld Z h0 a1 cN "children" dA .null) (f4 : Fld Z h0 a1 cN "size" "I" (.int (2 : Int32))) (f5 : Exa Z h0 kr "[[B") (f6 : Arv Z h0 kr kk (.array .byte) (64 : Int32) [(.ref k0), (.ref k1), .null] .null) (hov : OvrA Z kk .byte "[B") (f8 : n0 ≤ a1) (f9 : n0 ≤ kr) (f10 : Exa Z h0 k0 "[B") (f11 : Exa Z h0 k1 "[B") :
    Meets l y27 prog_36_method_6_code 4 none ws ({ frames := 2, cells := 0, slots := 0, locals := 30 } : Room) ({ frames := 2, cells := 0, slots := 0, locals := 30 } : Room).cells ({ frames := 2, cells := 0, slots := 0, locals := 30 } : Room).slots Z #[(.ref a1), (.int (1 : Int32)), (.int (1 : Int32))] h0 n0 (Q2721 Z a1 ed kr kk k0 k1 h0 n0) := by
  refine Meets.of (F := fun m => mkF m 0 #[.val (.ref a1), .val (.int (1 : Int32)), .val (.int (1 : Int32)), .unset] []) (plainFor_of_name pn_4) (fun m => ef_2721 m a1) ?_
  intro p e s m below meth c T0 hx hby hml hown0 hnm hret hlk hZ X0 e0
  have hown : s.vm.findClass cN = some m.cls := hown0
  have N0 := Fr.nil n0
  have KC0 := Keep.refl h0 [a1, kr]
  show Goes _ _ _ _ _ _ (T0.setTop (mkF m 0 #[.val (.ref a1), .val (.int (1 : Int32)), .val (.int (1 : Int32)), .unset] []))
  refine own_aloadN X0 hx (hb hby d27_0) rfl rfl ?_
  refine own_getF X0 hx hZ hown (host := "") (Or.inl (own_w hw 55 rfl)) Via.refl e0 f4 (hb hby d27_1) (fun T1 X1 e1 => ?_)
  refine own_iloadN X1 hx (hb hby d27_4) rfl ?_
  refine own_isub X1 hx (hb hby d27_5) ?_
  rw [show ((2 : Int32) - (1 : Int32)) = (1 : Int32) by decide]
  refine own_iloadN X1 hx (hb hby d27_6) rfl ?_
  refine own_isub X1 hx (hb hby d27_7) ?_
  rw [show ((1 : Int32) - (1 : Int32)) = (0 : Int32) by decide]
  refine own_istoreN X1 hx (Ls' := #[.val (.ref a1), .val (.int (1 : Int32)), .val (.int (1 : Int32)), .val (.int (0 : Int32))]) (hb hby d27_8) rfl ?_
  refine own_aloadN X1 hx (hb hby d27_9) rfl rfl ?_
  refine own_getF X1 hx hZ hown (host := "") (Or.inl (own_w hw 23 rfl)) Via.refl e1 f2 (hb hby d27_10) (fun T2 X2 e2 => ?_)
  refine own_iloadN X2 hx (hb hby d27_13) rfl ?_
  refine own_iloadN X2 hx (hb hby d27_14) rfl ?_
  refine own_iadd X2 hx (hb hby d27_15) ?_
  rw [show ((1 : Int32) + (1 : Int32)) = (2 : Int32) by decide]
  refine own_aloadN X2 hx (hb hby d27_16) rfl rfl ?_
  refine own_getF X2 hx hZ hown (host := "") (Or.inl (own_w hw 23 rfl)) Via.refl e2 f2 (hb hby d27_17) (fun T3 X3 e3 => ?_)
  refine own_iloadN X3 hx (hb hby d27_20) rfl ?_
  refine own_iloadN X3 hx (hb hby d27_21) rfl ?_
  obtain ⟨cl4, Ar4, q4, -⟩ := id f6
  refine own_cpA X3 hx hZ hown (own_w hw 77 rfl) (own_w hw 80 rfl) (own_w hw 78 rfl) (own_w hw 79 rfl) e3 f6 f6 (us := []) (vr := [(.ref k0), (.ref k1), .null]) (Or.inr ⟨rfl, rfl, trivial⟩) (by decide) (by decide) (by decide) (by decide) (by decide) rfl (Nat.le_of_ble_eq_true rfl) rfl N0 f9 (by rw [hml]; rfl) (hb hby d27_22) (by decide) (W := 0) (Nat.le_of_eq rfl) (by decide) (fun T4 h4 lc4 X4 e4 N4 K4 V4 => ?_)
  have E5_a1 := f0.keep K4
  have E5_kr := f5.keep K4
  have F5_edit_a1 := f1.keep K4 (ninS (ne_exa f0 f5 (by decide)) nin0)
  have F5_keys_a1 := f2.keep K4 (ninS (ne_exa f0 f5 (by decide)) nin0)
  have F5_children_a1 := f3.keep K4 (ninS (ne_exa f0 f5 (by decide)) nin0)
  have F5_size_a1 := f4.keep K4 (ninS (ne_exa f0 f5 (by decide)) nin0)
  have O5 := O0.keep K4 (allS f9 all0)
  have KC5 := KC0.trans K4 (allS (Or.inl (List.mem_of_getElem? (i := 1) rfl)) all0)
  refine own_aloadN X4 hx (hb hby d27_25) rfl rfl ?_
  refine own_getF X4 hx hZ hown (host := "") (Or.inl (own_w hw 23 rfl)) Via.refl e4 F5_keys_a1 (hb hby d27_26) (fun T6 X6 e6 => ?_)
  refine own_aloadN X6 hx (hb hby d27_29) rfl rfl ?_
  refine own_getF X6 hx hZ hown (host := "") (Or.inl (own_w hw 55 rfl)) Via.refl e6 F5_size_a1 (hb hby d27_30) (fun T7 X7 e7 => ?_)
  refine own_iloadN X7 hx (hb hby d27_33) rfl ?_
  refine own_isub X7 hx (hb hby d27_34) ?_
  rw [show ((2 : Int32) - (1 : Int32)) = (1 : Int32) by decide]
  refine own_aloadN X7 hx (hb hby d27_35) rfl rfl ?_
  refine own_getF X7 hx hZ hown (host := "") (Or.inl (own_w hw 55 rfl)) Via.refl e7 F5_size_a1 (hb hby d27_36) (fun T8 X8 e8 => ?_)
  refine own_aconst_null X8 hx (hb hby d27_39) ?_
  refine own_callS X8 hx hZ hown (y := y28) (own_w hw 175 rfl) (own_w hw 176 rfl) (own_w hw 138 rfl) (own_w hw 177 rfl) (by decide) (W := 0) (by decide) (by decide) N4 e8 (by rw [hml]; rfl) (argsL := [(.ref kr), (.int (1 : Int32)), (.int (2 : Int32)), .null]) (rest := []) (lenOf pd_15 rfl) (Nat.le_of_eq rfl) (by decide) (by decide) (rm2812 l Z a0 hw [] kr kk (.ref k0) (.ref k1) (.null) h4 n0 O5 V4 f9) rfl (hb hby d27_40) ?_
  intro v9 T9 lc9 X9 N9 hQ9
  obtain ⟨rfl, K9, r9_0⟩ := hQ9
  have E10_a1 := E5_a1.keep K9
  have E10_kr := E5_kr.keep K9
  have F10_edit_a1 := F5_edit_a1.keep K9 (ninS (ne_exa E5_a1 E5_kr (by decide)) nin0)
  have F10_keys_a1 := F5_keys_a1.keep K9 (ninS (ne_exa E5_a1 E5_kr (by decide)) nin0)
  have F10_children_a1 := F5_children_a1.keep K9 (ninS (ne_exa E5_a1 E5_kr (by decide)) nin0)
  have F10_size_a1 := F5_size_a1.keep K9 (ninS (ne_exa E5_a1 E5_kr (by decide)) nin0)
  have O10 := O5.keep K9 (allS f9 all0)
  have KC10 := KC5.trans K9 (allS (Or.inl (List.mem_of_getElem? (i := 1) rfl)) all0)
  refine own_aloadN X9 hx (hb hby d27_43) rfl rfl ?_
  refine own_getF X9 hx hZ hown (host := "") (Or.inl (own_w hw 25 rfl)) Via.refl rfl F10_children_a1 (hb hby d27_44) (fun T11 X11 e11 => ?_)
  refine own_ifnullYes X11 hx (pc' := 84) (hb hby d27_47) (by decide) (by decide) ?_
  refine own_aloadN X11 hx (hb hby d27_84) rfl rfl ?_
  refine own_dup X11 hx (hb hby d27_85) rfl ?_
  refine own_getF X11 hx hZ hown (host := "") (Or.inl (own_w hw 55 rfl)) Via.refl e11 F10_size_a1 (hb hby d27_86) (fun T12 X12 e12 => ?_)
  refine own_iloadN X12 hx (hb hby d27_89) rfl ?_
  refine own_isub X12 hx (hb hby d27_90) ?_
  rw [show ((2 : Int32) - (1 : Int32)) = (1 : Int32) by decide]
  refine own_putF X12 hx hZ hown N9 (host := "") (Or.inl (own_w hw 55 rfl)) Via.refl e12 F10_size_a1 E10_a1 (Or.inl (own_w hw 56 rfl)) (own_w hw 13 rfl) (ty := .int) (by decide) rfl rfl f8 (hb hby d27_91) (fun T13 h13 lc13 X13 e13 N13 W13 => ?_)
  have E14_a1 := E10_a1.wr W13
  have E14_kr := E10_kr.wr W13
  have F14_edit_a1 := F10_edit_a1.other W13 (Or.inr (slot_ne (Or.inr (own_w hw 20 rfl)) (Or.inl (own_w hw 56 rfl)) (by decide) (t := .long) (t' := .int) (by decide) (by decide)))
  have F14_keys_a1 := F10_keys_a1.other W13 (Or.inr (slot_ne (Or.inr (own_w hw 24 rfl)) (Or.inl (own_w hw 56 rfl)) (by decide) (t := (.array (.array .byte))) (t' := .int) (by decide) (by decide)))
  have F14_children_a1 := F10_children_a1.other W13 (Or.inr (slot_ne (Or.inr (own_w hw 26 rfl)) (Or.inl (own_w hw 56 rfl)) (by decide) (t := (.array (.object cN))) (t' := .int) (by decide) (by decide)))
  have F14_size_a1 := F10_size_a1.same W13
  have A14_kr := r9_0.other W13 (ne_exa E10_kr E10_a1 (by decide))
  have O14 := O10.wr W13 f8
  have KC14 := KC10.wr W13 (Or.inl (List.mem_of_getElem? (i := 0) rfl))
  show Goes _ _ _ _ _ _ (T13.setTop (mkF m 94 #[.val (.ref a1), .val (.int (1 : Int32)), .val (.int (1 : Int32)), .val (.int (0 : Int32))] []))
  exact own_retV X13 hx N13 hlk (by decide) (by decide) hret (hb hby d27_94) (by rw [e13]; exact ⟨rfl, KC14, E14_a1, F14_edit_a1, F14_keys_a1, F14_children_a1, F14_size_a1, E14_kr, A14_kr⟩)
def Q2621 (Z : State) (a1 : Addr) (ed : Int64) (kr : Addr) (kk : ClassId) (k0 : Addr) (k1 : Addr) (h0 : Heap) (n0 : Nat) (v : Option Value) (h : Heap) : Prop :=
  (v = none ∧ Keep h0 h [a1, kr] ∧ Exa Z h a1 cN ∧ Fld Z h a1 cN "edit" "J" (.long ed) ∧ Fld Z h a1 cN "keys" "[[B" (.ref kr) ∧ Fld Z h a1 cN "children" dA .null ∧ Fld Z h a1 cN "size" "I" (.int (1 : Int32)) ∧ Exa Z h kr "[[B" ∧ Arv Z h kr kk (.array .byte) (64 : Int32) [(.ref k0), .null, .null] .null)
theorem ef_2621 (m : MethodId) (a1 : Addr) : entryFrame m #[(.ref a1), (.int (1 : Int32))] 2 = mkF m 0 #[.val (.ref a1), .val (.int (1 : Int32))] [] := by first | (simp [entryFrame, mkF, argsToLocals, Value.category]; done) | rfl
set_option maxRecDepth 65536 in
set_option maxHeartbeats 40000000 in
theorem rm2621 (l : Launch) (Z : State) (a0 : Array Value) (hw : ∀ d ∈ tables_1, d.before a0 Z = true) (ws : List Jvm.Cond) (a1 : Addr) (ed : Int64) (kr : Addr) (kk : ClassId) (k0 : Addr) (k1 : Addr) (h0 : Heap) (n0 : Nat) (O0 : Old Z n0 h0) (f0 : Exa Z h0 a1 cN) (f1 : Fld Z h0 a1 cN "edit" "J" (.long ed)) (f2 : Fld Z h0 a1 cN "keys" "[[B" (.ref kr)) (f3 : Fld Z h0 a1 cN "children" dA .null) (f4 : Fld Z h0 a1 cN "size" "I" (.int (2 : Int32))) (f5 : Exa Z h0 kr "[[B") (f6 : Arv Z h0 kr kk (.array .byte) (64 : Int32) [(.ref k0), (.ref k1), .null] .null) (hov : OvrA Z kk .byte "[B") (f8 : n0 ≤ a1) (f9 : n0 ≤ kr) (f10 : Exa Z h0 k0 "[B") (f11 : Exa Z h0 k1 "[B") :
    Meets l y26 prog_36_method_5_code 2 none ws ({ frames := 3, cells := 0, slots := 0, locals := 45 } : Room) ({ frames := 3, cells := 0, slots := 0, locals := 45 } : Room).cells ({ frames := 3, cells := 0, slots := 0, locals := 45 } : Room).slots Z #[(.ref a1), (.int (1 : Int32))] h0 n0 (Q2621 Z a1 ed kr kk k0 k1 h0 n0) := by
  refine Meets.of (F := fun m => mkF m 0 #[.val (.ref a1), .val (.int (1 : Int32))] []) (plainFor_of_name pn_4) (fun m => ef_2621 m a1) ?_
  intro p e s m below meth c T0 hx hby hml hown0 hnm hret hlk hZ X0 e0
  have hown : s.vm.findClass cN = some m.cls := hown0
  have N0 := Fr.nil n0
  have KC0 := Keep.refl h0 [a1, kr]
  show Goes _ _ _ _ _ _ (T0.setTop (mkF m 0 #[.val (.ref a1), .val (.int (1 : Int32))] []))
  refine own_aloadN X0 hx (hb hby d26_0) rfl rfl ?_
  refine own_iloadN X0 hx (hb hby d26_1) rfl ?_
  refine own_iconst X0 hx (v := (1 : Int32)) (hb hby d26_2) rfl ?_
  refine own_private X0 hx hZ hown (y := y27) (own_w hw 171 rfl) (own_w hw 172 rfl) (own_w hw 13 rfl) (own_w hw 173 rfl) (own_w hw 14 rfl) (own_w hw 174 rfl) (a := a1) f0 (by decide) (W := 0) (by decide) (by decide) N0 e0 (by rw [hml]; rfl) (argsL := [(.int (1 : Int32)), (.int (1 : Int32))]) (rest := []) (lenOf pd_16 rfl) (Nat.le_of_eq rfl) (by decide) (by decide) (rm2721 l Z a0 hw [] a1 ed kr kk k0 k1 h0 n0 O0 f0 f1 f2 f3 f4 f5 f6 hov f8 f9 f10 f11) rfl (hb hby d26_3) ?_
  intro v1 T1 lc1 X1 N1 hQ1
  obtain ⟨rfl, K1, r1_0, r1_1, r1_2, r1_3, r1_4, r1_5, r1_6⟩ := hQ1
  have O2 := O0.keep K1 (allS f8 (allS f9 all0))
  have KC2 := KC0.trans K1 (allS (Or.inl (List.mem_of_getElem? (i := 0) rfl)) (allS (Or.inl (List.mem_of_getElem? (i := 1) rfl)) all0))
  show Goes _ _ _ _ _ _ (T1.setTop (mkF m 6 #[.val (.ref a1), .val (.int (1 : Int32))] []))
  exact own_retV X1 hx N1 hlk (by decide) (by decide) hret (hb hby d26_6) (⟨rfl, KC2, r1_0, r1_1, r1_2, r1_3, r1_4, r1_5, r1_6⟩)
theorem d24_0 : decode prog_35_method_13_code 0 = .ok (.aload_n 1, 1) := by decide +kernel
theorem d24_1 : decode prog_35_method_13_code 1 = .ok (.invokevirtual 49, 3) := by decide +kernel
theorem d24_4 : decode prog_35_method_13_code 4 = .ok (.ifCond .eq 46, 3) := by decide +kernel
theorem d24_7 : decode prog_35_method_13_code 7 = .ok (.aload_n 1, 1) := by decide +kernel
theorem d24_8 : decode prog_35_method_13_code 8 = .ok (.aload_n 2, 1) := by decide +kernel
theorem d24_9 : decode prog_35_method_13_code 9 = .ok (.invokestatic 72, 3) := by decide +kernel
theorem d24_12 : decode prog_35_method_13_code 12 = .ok (.istore_n 3, 1) := by decide +kernel
theorem d24_13 : decode prog_35_method_13_code 13 = .ok (.iload_n 3, 1) := by decide +kernel
theorem d24_14 : decode prog_35_method_13_code 14 = .ok (.aload_n 1, 1) := by decide +kernel
theorem d24_15 : decode prog_35_method_13_code 15 = .ok (.getfield 53, 3) := by decide +kernel
theorem d24_18 : decode prog_35_method_13_code 18 = .ok (.if_icmp .ge 31, 3) := by decide +kernel
theorem d24_21 : decode prog_35_method_13_code 21 = .ok (.aload_n 1, 1) := by decide +kernel
theorem d24_22 : decode prog_35_method_13_code 22 = .ok (.getfield 41, 3) := by decide +kernel
theorem d24_25 : decode prog_35_method_13_code 25 = .ok (.iload_n 3, 1) := by decide +kernel
theorem d24_26 : decode prog_35_method_13_code 26 = .ok (.aaload, 1) := by decide +kernel
theorem d24_27 : decode prog_35_method_13_code 27 = .ok (.aload_n 2, 1) := by decide +kernel
theorem d24_28 : decode prog_35_method_13_code 28 = .ok (.invokestatic 76, 3) := by decide +kernel
theorem d24_31 : decode prog_35_method_13_code 31 = .ok (.ifCond .eq 18, 3) := by decide +kernel
theorem d24_34 : decode prog_35_method_13_code 34 = .ok (.aload_n 1, 1) := by decide +kernel
theorem d24_35 : decode prog_35_method_13_code 35 = .ok (.iload_n 3, 1) := by decide +kernel
theorem d24_36 : decode prog_35_method_13_code 36 = .ok (.invokevirtual 95, 3) := by decide +kernel
theorem pd_17 : parseMethodDescriptor "(I)V" = some ⟨[.int], none⟩ := by decide +kernel
theorem d24_39 : decode prog_35_method_13_code 39 = .ok (.aload_n 0, 1) := by decide +kernel
theorem d24_40 : decode prog_35_method_13_code 40 = .ok (.dup, 1) := by decide +kernel
theorem d24_41 : decode prog_35_method_13_code 41 = .ok (.getfield 25, 3) := by decide +kernel
theorem d24_44 : decode prog_35_method_13_code 44 = .ok (.iconst 1, 1) := by decide +kernel
theorem d24_45 : decode prog_35_method_13_code 45 = .ok (.isub, 1) := by decide +kernel
theorem d24_46 : decode prog_35_method_13_code 46 = .ok (.putfield 25, 3) := by decide +kernel
theorem d24_49 : decode prog_35_method_13_code 49 = .ok (.return_, 1) := by decide +kernel
def Q241s (Z : State) (a1 : Addr) (a2 : Addr) (a3 : Addr) (te : Int64) (r : Addr) (d : Addr) (sz : Int32) (ed : Int64) (kr : Addr) (kk : ClassId) (h0 : Heap) (n0 : Nat) (v : Option Value) (h : Heap) : Prop :=
  (v = none ∧ Keep h0 h [a1, a2, kr] ∧ Exa Z h a1 cT ∧ Fld Z h a1 cT "edit" "J" (.long te) ∧ Fld Z h a1 cT "root" dN (.ref r) ∧ Fld Z h a1 cT "draft" dN (.ref d) ∧ Fld Z h a1 cT "size" "I" (.int (sz - (1 : Int32))) ∧ Exa Z h a2 cN ∧ Fld Z h a2 cN "edit" "J" (.long ed) ∧ Fld Z h a2 cN "keys" "[[B" (.ref kr) ∧ Fld Z h a2 cN "children" dA .null ∧ Fld Z h a2 cN "size" "I" (.int (0 : Int32)) ∧ Exa Z h kr "[[B" ∧ Arv Z h kr kk (.array .byte) (64 : Int32) [.null, .null, .null] .null)
theorem ef_241s (m : MethodId) (a1 : Addr) (a2 : Addr) (a3 : Addr) : entryFrame m #[(.ref a1), (.ref a2), (.ref a3)] 5 = mkF m 0 #[.val (.ref a1), .val (.ref a2), .val (.ref a3), .unset, .unset] [] := by first | (simp [entryFrame, mkF, argsToLocals, Value.category]; done) | rfl
set_option maxRecDepth 65536 in
set_option maxHeartbeats 40000000 in
theorem rm241s (l : Launch) (Z : State) (a0 : Array Value) (hw : ∀ d ∈ tables_1, d.before a0 Z = true) (ws : List Jvm.Cond) (a1 : Addr) (a2 : Addr) (a3 : Addr) (te : Int64) (r : Addr) (d : Addr) (sz : Int32) (ed : Int64) (kr : Addr) (kk : ClassId) (h0 : Heap) (n0 : Nat) (O0 : Old Z n0 h0) (f0 : Exa Z h0 a1 cT) (f1 : Fld Z h0 a1 cT "edit" "J" (.long te)) (f2 : Fld Z h0 a1 cT "root" dN (.ref r)) (f3 : Fld Z h0 a1 cT "draft" dN (.ref d)) (f4 : Fld Z h0 a1 cT "size" "I" (.int sz)) (f5 : Exa Z h0 a2 cN) (f6 : Fld Z h0 a2 cN "edit" "J" (.long ed)) (f7 : Fld Z h0 a2 cN "keys" "[[B" (.ref kr)) (f8 : Fld Z h0 a2 cN "children" dA .null) (f9 : Fld Z h0 a2 cN "size" "I" (.int (1 : Int32))) (f10 : Exa Z h0 kr "[[B") (f11 : Arv Z h0 kr kk (.array .byte) (64 : Int32) [(.ref a3), .null, .null] .null) (hov : OvrA Z kk .byte "[B") (f13 : n0 ≤ a1) (f14 : n0 ≤ a2) (f15 : n0 ≤ kr) (f16 : Exa Z h0 a3 "[B") :
    Meets l y24 prog_35_method_13_code 5 none ws ({ frames := 4, cells := 0, slots := 0, locals := 58 } : Room) ({ frames := 4, cells := 0, slots := 0, locals := 58 } : Room).cells ({ frames := 4, cells := 0, slots := 0, locals := 58 } : Room).slots Z #[(.ref a1), (.ref a2), (.ref a3)] h0 n0 (Q241s Z a1 a2 a3 te r d sz ed kr kk h0 n0) := by
  refine Meets.of (F := fun m => mkF m 0 #[.val (.ref a1), .val (.ref a2), .val (.ref a3), .unset, .unset] []) (plainFor_of_name pn_5) (fun m => ef_241s m a1 a2 a3) ?_
  intro p e s m below meth c T0 hx hby hml hown0 hnm hret hlk hZ X0 e0
  have hown : s.vm.findClass cT = some m.cls := hown0
  have N0 := Fr.nil n0
  have KC0 := Keep.refl h0 [a1, a2, kr]
  show Goes _ _ _ _ _ _ (T0.setTop (mkF m 0 #[.val (.ref a1), .val (.ref a2), .val (.ref a3), .unset, .unset] []))
  refine own_aloadN X0 hx (hb hby d24_0) rfl rfl ?_
  refine own_privateR X0 hx hZ hown (y := y8) (own_w hw 61 rfl) (own_w hw 62 rfl) (own_w hw 13 rfl) (own_w hw 63 rfl) (own_w hw 14 rfl) (own_w hw 64 rfl) (a := a2) f5 (by decide) (W := 0) (by decide) (by decide) N0 e0 (by rw [hml]; rfl) (argsL := []) (rest := []) (lenOf pd_8 rfl) (Nat.le_of_eq rfl) (by decide) (by decide) (rm8 l Z a0 hw [] a2 h0 n0 O0 f8) rfl (hb hby d24_1) ?_
  intro v1 T1 lc1 X1 N1 hQ1
  obtain ⟨rfl, e1⟩ := hQ1
  refine own_ifNo X1 hx (hb hby d24_4) ((if0 _ _).trans (feq (by decide : ¬ ((1 : Int32) = (0 : Int32)))).1) ?_
  refine own_aloadN X1 hx (hb hby d24_7) rfl rfl ?_
  refine own_aloadN X1 hx (hb hby d24_8) rfl rfl ?_
  refine own_callS X1 hx hZ hown (y := y9) (own_w hw 65 rfl) (own_w hw 66 rfl) (own_w hw 3 rfl) (own_w hw 67 rfl) (by decide) (W := 0) (by decide) (by decide) N1 e1 (by rw [hml]; rfl) (argsL := [(.ref a2), (.ref a3)]) (rest := []) (lenOf pd_9 rfl) (Nat.le_of_eq rfl) (by decide) (by decide) (rm91s l Z a0 hw [] a2 a3 kr kk h0 n0 O0 f7 f9 f11) rfl (hb hby d24_9) ?_
  intro v2 T2 lc2 X2 N2 hQ2
  obtain ⟨rfl, e2⟩ := hQ2
  refine own_istoreN X2 hx (Ls' := #[.val (.ref a1), .val (.ref a2), .val (.ref a3), .val (.int (0 : Int32)), .unset]) (hb hby d24_12) rfl ?_
  refine own_iloadN X2 hx (hb hby d24_13) rfl ?_
  refine own_aloadN X2 hx (hb hby d24_14) rfl rfl ?_
  refine own_getFR X2 hx hZ hown (own_w hw 68 rfl) e2 f9 (hb hby d24_15) ?_
  refine own_icmpNo X2 hx (hb hby d24_18) (tlt (by decide : (0 : Int32) < (1 : Int32))).2.1 ?_
  refine own_aloadN X2 hx (hb hby d24_21) rfl rfl ?_
  refine own_getFR X2 hx hZ hown (own_w hw 135 rfl) e2 f7 (hb hby d24_22) ?_
  refine own_iloadN X2 hx (hb hby d24_25) rfl ?_
  refine own_aaload X2 hx hZ e2 f11 rfl ⟨by decide, by decide⟩ (v := (.ref a3)) rfl (hb hby d24_26) ?_
  refine own_aloadN X2 hx (hb hby d24_27) rfl rfl ?_
  refine own_callS X2 hx hZ hown (y := y25) (own_w hw 164 rfl) (own_w hw 165 rfl) (own_w hw 138 rfl) (own_w hw 166 rfl) (by decide) (W := 0) (by decide) (by decide) N2 e2 (by rw [hml]; rfl) (argsL := [(.ref a3), (.ref a3)]) (rest := []) (lenOf pd_11 rfl) (Nat.le_of_eq rfl) (by decide) (by decide) (rm25s l Z a0 hw [] a3 a3 h0 n0 O0) rfl (hb hby d24_28) ?_
  intro v3 T3 lc3 X3 N3 hQ3
  obtain ⟨rfl, e3⟩ := hQ3
  refine own_ifNo X3 hx (hb hby d24_31) ((if0 _ _).trans (feq (by decide : ¬ ((1 : Int32) = (0 : Int32)))).1) ?_
  refine own_aloadN X3 hx (hb hby d24_34) rfl rfl ?_
  refine own_iloadN X3 hx (hb hby d24_35) rfl ?_
  refine own_privateR X3 hx hZ hown (y := y26) (own_w hw 167 rfl) (own_w hw 168 rfl) (own_w hw 13 rfl) (own_w hw 169 rfl) (own_w hw 14 rfl) (own_w hw 170 rfl) (a := a2) f5 (by decide) (W := 0) (by decide) (by decide) N3 e3 (by rw [hml]; rfl) (argsL := [(.int (0 : Int32))]) (rest := []) (lenOf pd_17 rfl) (Nat.le_of_eq rfl) (by decide) (by decide) (rm2610 l Z a0 hw [] a2 ed kr kk a3 h0 n0 O0 f5 f6 f7 f8 f9 f10 f11 hov f14 f15 f16) rfl (hb hby d24_36) ?_
  intro v4 T4 lc4 X4 N4 hQ4
  obtain ⟨rfl, K4, r4_0, r4_1, r4_2, r4_3, r4_4, r4_5, r4_6⟩ := hQ4
  have E5_a1 := f0.keep K4
  have F5_edit_a1 := f1.keep K4 (ninS (ne_exa f0 f5 (by decide)) (ninS (ne_exa f0 f10 (by decide)) nin0))
  have F5_root_a1 := f2.keep K4 (ninS (ne_exa f0 f5 (by decide)) (ninS (ne_exa f0 f10 (by decide)) nin0))
  have F5_draft_a1 := f3.keep K4 (ninS (ne_exa f0 f5 (by decide)) (ninS (ne_exa f0 f10 (by decide)) nin0))
  have F5_size_a1 := f4.keep K4 (ninS (ne_exa f0 f5 (by decide)) (ninS (ne_exa f0 f10 (by decide)) nin0))
  have O5 := O0.keep K4 (allS f14 (allS f15 all0))
  have KC5 := KC0.trans K4 (allS (Or.inl (List.mem_of_getElem? (i := 1) rfl)) (allS (Or.inl (List.mem_of_getElem? (i := 2) rfl)) all0))
  refine own_aloadN X4 hx (hb hby d24_39) rfl rfl ?_
  refine own_dup X4 hx (hb hby d24_40) rfl ?_
  refine own_getF X4 hx hZ hown (host := "") (Or.inl (own_w hw 36 rfl)) Via.refl rfl F5_size_a1 (hb hby d24_41) (fun T6 X6 e6 => ?_)
  refine own_iconst X6 hx (v := (1 : Int32)) (hb hby d24_44) rfl ?_
  refine own_isub X6 hx (hb hby d24_45) ?_
  refine own_putF X6 hx hZ hown N4 (host := "") (Or.inl (own_w hw 36 rfl)) Via.refl e6 F5_size_a1 E5_a1 (Or.inl (own_w hw 37 rfl)) (own_w hw 2 rfl) (ty := .int) (by decide) rfl rfl f13 (hb hby d24_46) (fun T7 h7 lc7 X7 e7 N7 W7 => ?_)
  have E8_a1 := E5_a1.wr W7
  have E8_a2 := r4_0.wr W7
  have E8_kr := r4_5.wr W7
  have F8_edit_a1 := F5_edit_a1.other W7 (Or.inr (slot_ne (Or.inl (own_w hw 11 rfl)) (Or.inl (own_w hw 37 rfl)) (by decide) (t := .long) (t' := .int) (by decide) (by decide)))
  have F8_root_a1 := F5_root_a1.other W7 (Or.inr (slot_ne (Or.inl (own_w hw 28 rfl)) (Or.inl (own_w hw 37 rfl)) (by decide) (t := (.object cN)) (t' := .int) (by decide) (by decide)))
  have F8_draft_a1 := F5_draft_a1.other W7 (Or.inr (slot_ne (Or.inl (own_w hw 30 rfl)) (Or.inl (own_w hw 37 rfl)) (by decide) (t := (.object cN)) (t' := .int) (by decide) (by decide)))
  have F8_size_a1 := F5_size_a1.same W7
  have F8_edit_a2 := r4_1.other W7 (Or.inl (ne_exa r4_0 E5_a1 (by decide)))
  have F8_keys_a2 := r4_2.other W7 (Or.inl (ne_exa r4_0 E5_a1 (by decide)))
  have F8_children_a2 := r4_3.other W7 (Or.inl (ne_exa r4_0 E5_a1 (by decide)))
  have F8_size_a2 := r4_4.other W7 (Or.inl (ne_exa r4_0 E5_a1 (by decide)))
  have A8_kr := r4_6.other W7 (ne_exa r4_5 E5_a1 (by decide))
  have O8 := O5.wr W7 f13
  have KC8 := KC5.wr W7 (Or.inl (List.mem_of_getElem? (i := 0) rfl))
  show Goes _ _ _ _ _ _ (T7.setTop (mkF m 49 #[.val (.ref a1), .val (.ref a2), .val (.ref a3), .val (.int (0 : Int32)), .unset] []))
  exact own_retV X7 hx N7 hlk (by decide) (by decide) hret (hb hby d24_49) (by rw [e7]; exact ⟨rfl, KC8, E8_a1, F8_edit_a1, F8_root_a1, F8_draft_a1, F8_size_a1, E8_a2, F8_edit_a2, F8_keys_a2, F8_children_a2, F8_size_a2, E8_kr, A8_kr⟩)
theorem d23_0 : decode prog_35_method_5_code 0 = .ok (.aload_n 0, 1) := by decide +kernel
theorem d23_1 : decode prog_35_method_5_code 1 = .ok (.getfield 25, 3) := by decide +kernel
theorem d23_4 : decode prog_35_method_5_code 4 = .ok (.istore_n 2, 1) := by decide +kernel
theorem d23_5 : decode prog_35_method_5_code 5 = .ok (.aload_n 0, 1) := by decide +kernel
theorem d23_6 : decode prog_35_method_5_code 6 = .ok (.aload_n 0, 1) := by decide +kernel
theorem d23_7 : decode prog_35_method_5_code 7 = .ok (.aload_n 0, 1) := by decide +kernel
theorem d23_8 : decode prog_35_method_5_code 8 = .ok (.getfield 22, 3) := by decide +kernel
theorem d23_11 : decode prog_35_method_5_code 11 = .ok (.invokevirtual 29, 3) := by decide +kernel
theorem d23_14 : decode prog_35_method_5_code 14 = .ok (.putfield 22, 3) := by decide +kernel
theorem d23_17 : decode prog_35_method_5_code 17 = .ok (.aload_n 0, 1) := by decide +kernel
theorem d23_18 : decode prog_35_method_5_code 18 = .ok (.aload_n 0, 1) := by decide +kernel
theorem d23_19 : decode prog_35_method_5_code 19 = .ok (.getfield 22, 3) := by decide +kernel
theorem d23_22 : decode prog_35_method_5_code 22 = .ok (.aload_n 1, 1) := by decide +kernel
theorem d23_23 : decode prog_35_method_5_code 23 = .ok (.invokevirtual 45, 3) := by decide +kernel
theorem pd_18 : parseMethodDescriptor "(Lcom/example/contention/contention/KeyTree$Node;[B)V" = some ⟨[(.object cN), (.array .byte)], none⟩ := by decide +kernel
theorem d23_26 : decode prog_35_method_5_code 26 = .ok (.aload_n 0, 1) := by decide +kernel
theorem d23_27 : decode prog_35_method_5_code 27 = .ok (.getfield 22, 3) := by decide +kernel
theorem d23_30 : decode prog_35_method_5_code 30 = .ok (.invokevirtual 49, 3) := by decide +kernel
theorem d23_33 : decode prog_35_method_5_code 33 = .ok (.ifCond .ne 30, 3) := by decide +kernel
theorem d23_63 : decode prog_35_method_5_code 63 = .ok (.aload_n 0, 1) := by decide +kernel
theorem d23_64 : decode prog_35_method_5_code 64 = .ok (.getfield 25, 3) := by decide +kernel
theorem d23_67 : decode prog_35_method_5_code 67 = .ok (.iload_n 2, 1) := by decide +kernel
theorem d23_68 : decode prog_35_method_5_code 68 = .ok (.if_icmp .ge 7, 3) := by decide +kernel
theorem d23_71 : decode prog_35_method_5_code 71 = .ok (.iconst 1, 1) := by decide +kernel
theorem d23_72 : decode prog_35_method_5_code 72 = .ok (.goto 4, 3) := by decide +kernel
theorem d23_76 : decode prog_35_method_5_code 76 = .ok (.ireturn, 1) := by decide +kernel
theorem d23_75 : decode prog_35_method_5_code 75 = .ok (.iconst 0, 1) := by decide +kernel
def Q231s (Z : State) (a1 : Addr) (a2 : Addr) (te : Int64) (r : Addr) (d : Addr) (sz : Int32) (kr : Addr) (kk : ClassId) (h0 : Heap) (n0 : Nat) (v : Option Value) (h : Heap) : Prop :=
  (∃ (w : Int32), v = some (.int w) ∧ Keep h0 h [a1, d, kr] ∧ Exa Z h a1 cT ∧ Fld Z h a1 cT "edit" "J" (.long te) ∧ Fld Z h a1 cT "root" dN (.ref r) ∧ Fld Z h a1 cT "draft" dN (.ref d) ∧ Fld Z h a1 cT "size" "I" (.int (sz - (1 : Int32))) ∧ Exa Z h d cN ∧ Fld Z h d cN "edit" "J" (.long te) ∧ Fld Z h d cN "keys" "[[B" (.ref kr) ∧ Fld Z h d cN "children" dA .null ∧ Fld Z h d cN "size" "I" (.int (0 : Int32)) ∧ Exa Z h kr "[[B" ∧ Arv Z h kr kk (.array .byte) (64 : Int32) [.null, .null, .null] .null)
theorem ef_231s (m : MethodId) (a1 : Addr) (a2 : Addr) : entryFrame m #[(.ref a1), (.ref a2)] 3 = mkF m 0 #[.val (.ref a1), .val (.ref a2), .unset] [] := by first | (simp [entryFrame, mkF, argsToLocals, Value.category]; done) | rfl
set_option maxRecDepth 65536 in
set_option maxHeartbeats 40000000 in
theorem rm231s (l : Launch) (Z : State) (a0 : Array Value) (hw : ∀ d ∈ tables_1, d.before a0 Z = true) (ws : List Jvm.Cond) (a1 : Addr) (a2 : Addr) (te : Int64) (r : Addr) (d : Addr) (sz : Int32) (kr : Addr) (kk : ClassId) (h0 : Heap) (n0 : Nat) (O0 : Old Z n0 h0) (f0 : Exa Z h0 a1 cT) (f1 : Fld Z h0 a1 cT "edit" "J" (.long te)) (f2 : Fld Z h0 a1 cT "root" dN (.ref r)) (f3 : Fld Z h0 a1 cT "draft" dN (.ref d)) (f4 : Fld Z h0 a1 cT "size" "I" (.int sz)) (f5 : Exa Z h0 d cN) (f6 : Fld Z h0 d cN "edit" "J" (.long te)) (f7 : Fld Z h0 d cN "keys" "[[B" (.ref kr)) (f8 : Fld Z h0 d cN "children" dA .null) (f9 : Fld Z h0 d cN "size" "I" (.int (1 : Int32))) (f10 : Exa Z h0 kr "[[B") (f11 : Arv Z h0 kr kk (.array .byte) (64 : Int32) [(.ref a2), .null, .null] .null) (hov : OvrA Z kk .byte "[B") (f13 : n0 ≤ a1) (f14 : n0 ≤ d) (f15 : n0 ≤ kr) (f16 : Exa Z h0 a2 "[B") :
    Meets l y23 prog_35_method_5_code 3 (some .boolean) ws ({ frames := 5, cells := 0, slots := 0, locals := 74 } : Room) ({ frames := 5, cells := 0, slots := 0, locals := 74 } : Room).cells ({ frames := 5, cells := 0, slots := 0, locals := 74 } : Room).slots Z #[(.ref a1), (.ref a2)] h0 n0 (Q231s Z a1 a2 te r d sz kr kk h0 n0) := by
  refine Meets.of (F := fun m => mkF m 0 #[.val (.ref a1), .val (.ref a2), .unset] []) (plainFor_of_name pn_5) (fun m => ef_231s m a1 a2) ?_
  intro p e s m below meth c T0 hx hby hml hown0 hnm hret hlk hZ X0 e0
  have hown : s.vm.findClass cT = some m.cls := hown0
  have N0 := Fr.nil n0
  have KC0 := Keep.refl h0 [a1, d, kr]
  show Goes _ _ _ _ _ _ (T0.setTop (mkF m 0 #[.val (.ref a1), .val (.ref a2), .unset] []))
  refine own_aloadN X0 hx (hb hby d23_0) rfl rfl ?_
  refine own_getF X0 hx hZ hown (host := "") (Or.inl (own_w hw 36 rfl)) Via.refl e0 f4 (hb hby d23_1) (fun T1 X1 e1 => ?_)
  refine own_istoreN X1 hx (Ls' := #[.val (.ref a1), .val (.ref a2), .val (.int sz)]) (hb hby d23_4) rfl ?_
  refine own_aloadN X1 hx (hb hby d23_5) rfl rfl ?_
  refine own_aloadN X1 hx (hb hby d23_6) rfl rfl ?_
  refine own_aloadN X1 hx (hb hby d23_7) rfl rfl ?_
  refine own_getF X1 hx hZ hown (host := "") (Or.inl (own_w hw 29 rfl)) Via.refl e1 f3 (hb hby d23_8) (fun T2 X2 e2 => ?_)
  refine own_private X2 hx hZ hown (y := y5) (own_w hw 38 rfl) (own_w hw 39 rfl) (own_w hw 2 rfl) (own_w hw 40 rfl) (own_w hw 3 rfl) (own_w hw 41 rfl) (a := a1) f0 (by decide) (W := 1) (by decide) (by decide) N0 e2 (by rw [hml]; rfl) (argsL := [(.ref d)]) (rest := [(.ref a1)]) (lenOf pd_12 rfl) (Nat.le_of_eq rfl) (by decide) (by decide) (rm5s l Z a0 hw [] a1 d te h0 n0 O0 f1 f6) rfl (hb hby d23_11) ?_
  intro v3 T3 lc3 X3 N3 hQ3
  obtain ⟨rfl, e3⟩ := hQ3
  refine own_putF X3 hx hZ hown N3 (host := "") (Or.inl (own_w hw 29 rfl)) Via.refl e3 f3 f0 (Or.inl (own_w hw 30 rfl)) (own_w hw 2 rfl) (ty := (.object cN)) (by decide) rfl rfl f13 (hb hby d23_14) (fun T4 h4 lc4 X4 e4 N4 W4 => ?_)
  have E5_a1 := f0.wr W4
  have E5_d := f5.wr W4
  have E5_kr := f10.wr W4
  have E5_a2 := f16.wr W4
  have F5_edit_a1 := f1.other W4 (Or.inr (slot_ne (Or.inl (own_w hw 11 rfl)) (Or.inl (own_w hw 30 rfl)) (by decide) (t := .long) (t' := (.object cN)) (by decide) (by decide)))
  have F5_root_a1 := f2.other W4 (Or.inr (slot_ne (Or.inl (own_w hw 28 rfl)) (Or.inl (own_w hw 30 rfl)) (by decide) (t := (.object cN)) (t' := (.object cN)) (by decide) (by decide)))
  have F5_draft_a1 := f3.same W4
  have F5_size_a1 := f4.other W4 (Or.inr (slot_ne (Or.inl (own_w hw 37 rfl)) (Or.inl (own_w hw 30 rfl)) (by decide) (t := .int) (t' := (.object cN)) (by decide) (by decide)))
  have F5_edit_d := f6.other W4 (Or.inl (ne_exa f5 f0 (by decide)))
  have F5_keys_d := f7.other W4 (Or.inl (ne_exa f5 f0 (by decide)))
  have F5_children_d := f8.other W4 (Or.inl (ne_exa f5 f0 (by decide)))
  have F5_size_d := f9.other W4 (Or.inl (ne_exa f5 f0 (by decide)))
  have A5_kr := f11.other W4 (ne_exa f10 f0 (by decide))
  have O5 := O0.wr W4 f13
  have KC5 := KC0.wr W4 (Or.inl (List.mem_of_getElem? (i := 0) rfl))
  refine own_aloadN X4 hx (hb hby d23_17) rfl rfl ?_
  refine own_aloadN X4 hx (hb hby d23_18) rfl rfl ?_
  refine own_getF X4 hx hZ hown (host := "") (Or.inl (own_w hw 29 rfl)) Via.refl e4 F5_draft_a1 (hb hby d23_19) (fun T6 X6 e6 => ?_)
  refine own_aloadN X6 hx (hb hby d23_22) rfl rfl ?_
  refine own_private X6 hx hZ hown (y := y24) (own_w hw 160 rfl) (own_w hw 161 rfl) (own_w hw 2 rfl) (own_w hw 162 rfl) (own_w hw 3 rfl) (own_w hw 163 rfl) (a := a1) E5_a1 (by decide) (W := 0) (by decide) (by decide) N4 e6 (by rw [hml]; rfl) (argsL := [(.ref d), (.ref a2)]) (rest := []) (lenOf pd_18 rfl) (Nat.le_of_eq rfl) (by decide) (by decide) (rm241s l Z a0 hw [] a1 d a2 te r d sz te kr kk h4 n0 O5 E5_a1 F5_edit_a1 F5_root_a1 F5_draft_a1 F5_size_a1 E5_d F5_edit_d F5_keys_d F5_children_d F5_size_d E5_kr A5_kr hov f13 f14 f15 E5_a2) rfl (hb hby d23_23) ?_
  intro v7 T7 lc7 X7 N7 hQ7
  obtain ⟨rfl, K7, r7_0, r7_1, r7_2, r7_3, r7_4, r7_5, r7_6, r7_7, r7_8, r7_9, r7_10, r7_11⟩ := hQ7
  have O8 := O5.keep K7 (allS f13 (allS f14 (allS f15 all0)))
  have KC8 := KC5.trans K7 (allS (Or.inl (List.mem_of_getElem? (i := 0) rfl)) (allS (Or.inl (List.mem_of_getElem? (i := 1) rfl)) (allS (Or.inl (List.mem_of_getElem? (i := 2) rfl)) all0)))
  refine own_aloadN X7 hx (hb hby d23_26) rfl rfl ?_
  refine own_getF X7 hx hZ hown (host := "") (Or.inl (own_w hw 29 rfl)) Via.refl rfl r7_3 (hb hby d23_27) (fun T9 X9 e9 => ?_)
  refine own_privateR X9 hx hZ hown (y := y8) (own_w hw 61 rfl) (own_w hw 62 rfl) (own_w hw 13 rfl) (own_w hw 63 rfl) (own_w hw 14 rfl) (own_w hw 64 rfl) (a := d) r7_5 (by decide) (W := 0) (by decide) (by decide) N7 e9 (by rw [hml]; rfl) (argsL := []) (rest := []) (lenOf pd_8 rfl) (Nat.le_of_eq rfl) (by decide) (by decide) (rm8 l Z a0 hw [] d T7.heap n0 O8 r7_8) rfl (hb hby d23_30) ?_
  intro v10 T10 lc10 X10 N10 hQ10
  obtain ⟨rfl, e10⟩ := hQ10
  refine own_ifYes X10 hx (pc' := 63) (hb hby d23_33) ((if0 _ _).trans (feq (by decide : ¬ ((1 : Int32) = (0 : Int32)))).2) (by decide) (by decide) ?_
  refine own_aloadN X10 hx (hb hby d23_63) rfl rfl ?_
  refine own_getF X10 hx hZ hown (host := "") (Or.inl (own_w hw 36 rfl)) Via.refl e10 r7_4 (hb hby d23_64) (fun T11 X11 e11 => ?_)
  refine own_iloadN X11 hx (hb hby d23_67) rfl ?_
  by_cases hc68_12 : (sz - (1 : Int32)) < sz
  ·
    refine own_icmpNo X11 hx (hb hby d23_68) (tlt (hc68_12 : (sz - (1 : Int32)) < sz)).2.1 ?_
    refine own_iconst X11 hx (v := (1 : Int32)) (hb hby d23_71) rfl ?_
    refine own_goto X11 hx (pc' := 76) (hb hby d23_72) (by decide) (by decide) ?_
    show Goes _ _ _ _ _ _ (T11.setTop (mkF m 76 #[.val (.ref a1), .val (.ref a2), .val (.int sz)] [(.int (1 : Int32))]))
    exact own_retN X11 hx (t := .boolean) N10 hlk (by decide) (by decide) hret (by simp) (hb hby d23_76) (by rw [e11]; exact ⟨(1 : Int32), rfl, KC8, r7_0, r7_1, r7_2, r7_3, r7_4, r7_5, r7_6, r7_7, r7_8, r7_9, r7_10, r7_11⟩)
  ·
    refine own_icmpYes X11 hx (pc' := 75) (hb hby d23_68) (flt (hc68_12 : ¬ ((sz - (1 : Int32)) < sz))).2.1 (by decide) (by decide) ?_
    refine own_iconst X11 hx (v := (0 : Int32)) (hb hby d23_75) rfl ?_
    show Goes _ _ _ _ _ _ (T11.setTop (mkF m 76 #[.val (.ref a1), .val (.ref a2), .val (.int sz)] [(.int (0 : Int32))]))
    exact own_retN X11 hx (t := .boolean) N10 hlk (by decide) (by decide) hret (by simp) (hb hby d23_76) (by rw [e11]; exact ⟨(0 : Int32), rfl, KC8, r7_0, r7_1, r7_2, r7_3, r7_4, r7_5, r7_6, r7_7, r7_8, r7_9, r7_10, r7_11⟩)
def Q242s (Z : State) (a1 : Addr) (a2 : Addr) (a3 : Addr) (te : Int64) (r : Addr) (d : Addr) (sz : Int32) (ed : Int64) (kr : Addr) (kk : ClassId) (k1 : Addr) (x : Int32) (y : Int32) (c0 : ClassId) (c1 : ClassId) (h0 : Heap) (n0 : Nat) (v : Option Value) (h : Heap) : Prop :=
  (v = none ∧ Keep h0 h [a1, a2, kr] ∧ Exa Z h a1 cT ∧ Fld Z h a1 cT "edit" "J" (.long te) ∧ Fld Z h a1 cT "root" dN (.ref r) ∧ Fld Z h a1 cT "draft" dN (.ref d) ∧ Fld Z h a1 cT "size" "I" (.int (sz - (1 : Int32))) ∧ Exa Z h a2 cN ∧ Fld Z h a2 cN "edit" "J" (.long ed) ∧ Fld Z h a2 cN "keys" "[[B" (.ref kr) ∧ Fld Z h a2 cN "children" dA .null ∧ Fld Z h a2 cN "size" "I" (.int (1 : Int32)) ∧ Exa Z h kr "[[B" ∧ Arv Z h kr kk (.array .byte) (64 : Int32) [(.ref k1), .null, .null] .null)
theorem ef_242s (m : MethodId) (a1 : Addr) (a2 : Addr) (a3 : Addr) : entryFrame m #[(.ref a1), (.ref a2), (.ref a3)] 5 = mkF m 0 #[.val (.ref a1), .val (.ref a2), .val (.ref a3), .unset, .unset] [] := by first | (simp [entryFrame, mkF, argsToLocals, Value.category]; done) | rfl
set_option maxRecDepth 65536 in
set_option maxHeartbeats 40000000 in
theorem rm242s (l : Launch) (Z : State) (a0 : Array Value) (hw : ∀ d ∈ tables_1, d.before a0 Z = true) (ws : List Jvm.Cond) (a1 : Addr) (a2 : Addr) (a3 : Addr) (te : Int64) (r : Addr) (d : Addr) (sz : Int32) (ed : Int64) (kr : Addr) (kk : ClassId) (k1 : Addr) (x : Int32) (y : Int32) (c0 : ClassId) (c1 : ClassId) (h0 : Heap) (n0 : Nat) (O0 : Old Z n0 h0) (f0 : Exa Z h0 a1 cT) (f1 : Fld Z h0 a1 cT "edit" "J" (.long te)) (f2 : Fld Z h0 a1 cT "root" dN (.ref r)) (f3 : Fld Z h0 a1 cT "draft" dN (.ref d)) (f4 : Fld Z h0 a1 cT "size" "I" (.int sz)) (f5 : Exa Z h0 a2 cN) (f6 : Fld Z h0 a2 cN "edit" "J" (.long ed)) (f7 : Fld Z h0 a2 cN "keys" "[[B" (.ref kr)) (f8 : Fld Z h0 a2 cN "children" dA .null) (f9 : Fld Z h0 a2 cN "size" "I" (.int (2 : Int32))) (f10 : Exa Z h0 kr "[[B") (f11 : Arv Z h0 kr kk (.array .byte) (64 : Int32) [(.ref a3), (.ref k1), .null] .null) (hov : OvrA Z kk .byte "[B") (f13 : n0 ≤ a1) (f14 : n0 ≤ a2) (f15 : n0 ≤ kr) (f16 : Exa Z h0 a3 "[B") (f17 : Exa Z h0 k1 "[B") (f18 : Arv Z h0 a3 c0 .byte (1 : Int32) [(.int x)] (.int (0 : Int32))) (f19 : Arv Z h0 k1 c1 .byte (1 : Int32) [(.int y)] (.int (0 : Int32))) (f20 : k1 ≠ a3) (hyx : ¬ (y = x)) (hlt : ¬ (((y &&& (255 : Int32)) - (x &&& (255 : Int32))) < (0 : Int32))) :
    Meets l y24 prog_35_method_13_code 5 none ws ({ frames := 4, cells := 0, slots := 0, locals := 58 } : Room) ({ frames := 4, cells := 0, slots := 0, locals := 58 } : Room).cells ({ frames := 4, cells := 0, slots := 0, locals := 58 } : Room).slots Z #[(.ref a1), (.ref a2), (.ref a3)] h0 n0 (Q242s Z a1 a2 a3 te r d sz ed kr kk k1 x y c0 c1 h0 n0) := by
  refine Meets.of (F := fun m => mkF m 0 #[.val (.ref a1), .val (.ref a2), .val (.ref a3), .unset, .unset] []) (plainFor_of_name pn_5) (fun m => ef_242s m a1 a2 a3) ?_
  intro p e s m below meth c T0 hx hby hml hown0 hnm hret hlk hZ X0 e0
  have hown : s.vm.findClass cT = some m.cls := hown0
  have N0 := Fr.nil n0
  have KC0 := Keep.refl h0 [a1, a2, kr]
  show Goes _ _ _ _ _ _ (T0.setTop (mkF m 0 #[.val (.ref a1), .val (.ref a2), .val (.ref a3), .unset, .unset] []))
  refine own_aloadN X0 hx (hb hby d24_0) rfl rfl ?_
  refine own_privateR X0 hx hZ hown (y := y8) (own_w hw 61 rfl) (own_w hw 62 rfl) (own_w hw 13 rfl) (own_w hw 63 rfl) (own_w hw 14 rfl) (own_w hw 64 rfl) (a := a2) f5 (by decide) (W := 0) (by decide) (by decide) N0 e0 (by rw [hml]; rfl) (argsL := []) (rest := []) (lenOf pd_8 rfl) (Nat.le_of_eq rfl) (by decide) (by decide) (rm8 l Z a0 hw [] a2 h0 n0 O0 f8) rfl (hb hby d24_1) ?_
  intro v1 T1 lc1 X1 N1 hQ1
  obtain ⟨rfl, e1⟩ := hQ1
  refine own_ifNo X1 hx (hb hby d24_4) ((if0 _ _).trans (feq (by decide : ¬ ((1 : Int32) = (0 : Int32)))).1) ?_
  refine own_aloadN X1 hx (hb hby d24_7) rfl rfl ?_
  refine own_aloadN X1 hx (hb hby d24_8) rfl rfl ?_
  refine own_callS X1 hx hZ hown (y := y9) (own_w hw 65 rfl) (own_w hw 66 rfl) (own_w hw 3 rfl) (own_w hw 67 rfl) (by decide) (W := 0) (by decide) (by decide) N1 e1 (by rw [hml]; rfl) (argsL := [(.ref a2), (.ref a3)]) (rest := []) (lenOf pd_9 rfl) (Nat.le_of_eq rfl) (by decide) (by decide) (rm92s l Z a0 hw [] a2 a3 kr kk k1 x y c0 c1 h0 n0 O0 f7 f9 f11 f18 f19 f20 hyx hlt) rfl (hb hby d24_9) ?_
  intro v2 T2 lc2 X2 N2 hQ2
  obtain ⟨rfl, e2⟩ := hQ2
  refine own_istoreN X2 hx (Ls' := #[.val (.ref a1), .val (.ref a2), .val (.ref a3), .val (.int (0 : Int32)), .unset]) (hb hby d24_12) rfl ?_
  refine own_iloadN X2 hx (hb hby d24_13) rfl ?_
  refine own_aloadN X2 hx (hb hby d24_14) rfl rfl ?_
  refine own_getFR X2 hx hZ hown (own_w hw 68 rfl) e2 f9 (hb hby d24_15) ?_
  refine own_icmpNo X2 hx (hb hby d24_18) (tlt (by decide : (0 : Int32) < (2 : Int32))).2.1 ?_
  refine own_aloadN X2 hx (hb hby d24_21) rfl rfl ?_
  refine own_getFR X2 hx hZ hown (own_w hw 135 rfl) e2 f7 (hb hby d24_22) ?_
  refine own_iloadN X2 hx (hb hby d24_25) rfl ?_
  refine own_aaload X2 hx hZ e2 f11 rfl ⟨by decide, by decide⟩ (v := (.ref a3)) rfl (hb hby d24_26) ?_
  refine own_aloadN X2 hx (hb hby d24_27) rfl rfl ?_
  refine own_callS X2 hx hZ hown (y := y25) (own_w hw 164 rfl) (own_w hw 165 rfl) (own_w hw 138 rfl) (own_w hw 166 rfl) (by decide) (W := 0) (by decide) (by decide) N2 e2 (by rw [hml]; rfl) (argsL := [(.ref a3), (.ref a3)]) (rest := []) (lenOf pd_11 rfl) (Nat.le_of_eq rfl) (by decide) (by decide) (rm25s l Z a0 hw [] a3 a3 h0 n0 O0) rfl (hb hby d24_28) ?_
  intro v3 T3 lc3 X3 N3 hQ3
  obtain ⟨rfl, e3⟩ := hQ3
  refine own_ifNo X3 hx (hb hby d24_31) ((if0 _ _).trans (feq (by decide : ¬ ((1 : Int32) = (0 : Int32)))).1) ?_
  refine own_aloadN X3 hx (hb hby d24_34) rfl rfl ?_
  refine own_iloadN X3 hx (hb hby d24_35) rfl ?_
  refine own_privateR X3 hx hZ hown (y := y26) (own_w hw 167 rfl) (own_w hw 168 rfl) (own_w hw 13 rfl) (own_w hw 169 rfl) (own_w hw 14 rfl) (own_w hw 170 rfl) (a := a2) f5 (by decide) (W := 0) (by decide) (by decide) N3 e3 (by rw [hml]; rfl) (argsL := [(.int (0 : Int32))]) (rest := []) (lenOf pd_17 rfl) (Nat.le_of_eq rfl) (by decide) (by decide) (rm2620 l Z a0 hw [] a2 ed kr kk a3 k1 h0 n0 O0 f5 f6 f7 f8 f9 f10 f11 hov f14 f15 f16 f17) rfl (hb hby d24_36) ?_
  intro v4 T4 lc4 X4 N4 hQ4
  obtain ⟨rfl, K4, r4_0, r4_1, r4_2, r4_3, r4_4, r4_5, r4_6⟩ := hQ4
  have E5_a1 := f0.keep K4
  have F5_edit_a1 := f1.keep K4 (ninS (ne_exa f0 f5 (by decide)) (ninS (ne_exa f0 f10 (by decide)) nin0))
  have F5_root_a1 := f2.keep K4 (ninS (ne_exa f0 f5 (by decide)) (ninS (ne_exa f0 f10 (by decide)) nin0))
  have F5_draft_a1 := f3.keep K4 (ninS (ne_exa f0 f5 (by decide)) (ninS (ne_exa f0 f10 (by decide)) nin0))
  have F5_size_a1 := f4.keep K4 (ninS (ne_exa f0 f5 (by decide)) (ninS (ne_exa f0 f10 (by decide)) nin0))
  have O5 := O0.keep K4 (allS f14 (allS f15 all0))
  have KC5 := KC0.trans K4 (allS (Or.inl (List.mem_of_getElem? (i := 1) rfl)) (allS (Or.inl (List.mem_of_getElem? (i := 2) rfl)) all0))
  refine own_aloadN X4 hx (hb hby d24_39) rfl rfl ?_
  refine own_dup X4 hx (hb hby d24_40) rfl ?_
  refine own_getF X4 hx hZ hown (host := "") (Or.inl (own_w hw 36 rfl)) Via.refl rfl F5_size_a1 (hb hby d24_41) (fun T6 X6 e6 => ?_)
  refine own_iconst X6 hx (v := (1 : Int32)) (hb hby d24_44) rfl ?_
  refine own_isub X6 hx (hb hby d24_45) ?_
  refine own_putF X6 hx hZ hown N4 (host := "") (Or.inl (own_w hw 36 rfl)) Via.refl e6 F5_size_a1 E5_a1 (Or.inl (own_w hw 37 rfl)) (own_w hw 2 rfl) (ty := .int) (by decide) rfl rfl f13 (hb hby d24_46) (fun T7 h7 lc7 X7 e7 N7 W7 => ?_)
  have E8_a1 := E5_a1.wr W7
  have E8_a2 := r4_0.wr W7
  have E8_kr := r4_5.wr W7
  have F8_edit_a1 := F5_edit_a1.other W7 (Or.inr (slot_ne (Or.inl (own_w hw 11 rfl)) (Or.inl (own_w hw 37 rfl)) (by decide) (t := .long) (t' := .int) (by decide) (by decide)))
  have F8_root_a1 := F5_root_a1.other W7 (Or.inr (slot_ne (Or.inl (own_w hw 28 rfl)) (Or.inl (own_w hw 37 rfl)) (by decide) (t := (.object cN)) (t' := .int) (by decide) (by decide)))
  have F8_draft_a1 := F5_draft_a1.other W7 (Or.inr (slot_ne (Or.inl (own_w hw 30 rfl)) (Or.inl (own_w hw 37 rfl)) (by decide) (t := (.object cN)) (t' := .int) (by decide) (by decide)))
  have F8_size_a1 := F5_size_a1.same W7
  have F8_edit_a2 := r4_1.other W7 (Or.inl (ne_exa r4_0 E5_a1 (by decide)))
  have F8_keys_a2 := r4_2.other W7 (Or.inl (ne_exa r4_0 E5_a1 (by decide)))
  have F8_children_a2 := r4_3.other W7 (Or.inl (ne_exa r4_0 E5_a1 (by decide)))
  have F8_size_a2 := r4_4.other W7 (Or.inl (ne_exa r4_0 E5_a1 (by decide)))
  have A8_kr := r4_6.other W7 (ne_exa r4_5 E5_a1 (by decide))
  have O8 := O5.wr W7 f13
  have KC8 := KC5.wr W7 (Or.inl (List.mem_of_getElem? (i := 0) rfl))
  show Goes _ _ _ _ _ _ (T7.setTop (mkF m 49 #[.val (.ref a1), .val (.ref a2), .val (.ref a3), .val (.int (0 : Int32)), .unset] []))
  exact own_retV X7 hx N7 hlk (by decide) (by decide) hret (hb hby d24_49) (by rw [e7]; exact ⟨rfl, KC8, E8_a1, F8_edit_a1, F8_root_a1, F8_draft_a1, F8_size_a1, E8_a2, F8_edit_a2, F8_keys_a2, F8_children_a2, F8_size_a2, E8_kr, A8_kr⟩)
def Q232s (Z : State) (a1 : Addr) (a2 : Addr) (te : Int64) (r : Addr) (d : Addr) (sz : Int32) (kr : Addr) (kk : ClassId) (k1 : Addr) (x : Int32) (y : Int32) (c0 : ClassId) (c1 : ClassId) (h0 : Heap) (n0 : Nat) (v : Option Value) (h : Heap) : Prop :=
  (∃ (w : Int32), v = some (.int w) ∧ Keep h0 h [a1, d, kr] ∧ Exa Z h a1 cT ∧ Fld Z h a1 cT "edit" "J" (.long te) ∧ Fld Z h a1 cT "root" dN (.ref r) ∧ Fld Z h a1 cT "draft" dN (.ref d) ∧ Fld Z h a1 cT "size" "I" (.int (sz - (1 : Int32))) ∧ Exa Z h d cN ∧ Fld Z h d cN "edit" "J" (.long te) ∧ Fld Z h d cN "keys" "[[B" (.ref kr) ∧ Fld Z h d cN "children" dA .null ∧ Fld Z h d cN "size" "I" (.int (1 : Int32)) ∧ Exa Z h kr "[[B" ∧ Arv Z h kr kk (.array .byte) (64 : Int32) [(.ref k1), .null, .null] .null)
theorem ef_232s (m : MethodId) (a1 : Addr) (a2 : Addr) : entryFrame m #[(.ref a1), (.ref a2)] 3 = mkF m 0 #[.val (.ref a1), .val (.ref a2), .unset] [] := by first | (simp [entryFrame, mkF, argsToLocals, Value.category]; done) | rfl
set_option maxRecDepth 65536 in
set_option maxHeartbeats 40000000 in
theorem rm232s (l : Launch) (Z : State) (a0 : Array Value) (hw : ∀ d ∈ tables_1, d.before a0 Z = true) (ws : List Jvm.Cond) (a1 : Addr) (a2 : Addr) (te : Int64) (r : Addr) (d : Addr) (sz : Int32) (kr : Addr) (kk : ClassId) (k1 : Addr) (x : Int32) (y : Int32) (c0 : ClassId) (c1 : ClassId) (h0 : Heap) (n0 : Nat) (O0 : Old Z n0 h0) (f0 : Exa Z h0 a1 cT) (f1 : Fld Z h0 a1 cT "edit" "J" (.long te)) (f2 : Fld Z h0 a1 cT "root" dN (.ref r)) (f3 : Fld Z h0 a1 cT "draft" dN (.ref d)) (f4 : Fld Z h0 a1 cT "size" "I" (.int sz)) (f5 : Exa Z h0 d cN) (f6 : Fld Z h0 d cN "edit" "J" (.long te)) (f7 : Fld Z h0 d cN "keys" "[[B" (.ref kr)) (f8 : Fld Z h0 d cN "children" dA .null) (f9 : Fld Z h0 d cN "size" "I" (.int (2 : Int32))) (f10 : Exa Z h0 kr "[[B") (f11 : Arv Z h0 kr kk (.array .byte) (64 : Int32) [(.ref a2), (.ref k1), .null] .null) (hov : OvrA Z kk .byte "[B") (f13 : n0 ≤ a1) (f14 : n0 ≤ d) (f15 : n0 ≤ kr) (f16 : Exa Z h0 a2 "[B") (f17 : Exa Z h0 k1 "[B") (f18 : Arv Z h0 a2 c0 .byte (1 : Int32) [(.int x)] (.int (0 : Int32))) (f19 : Arv Z h0 k1 c1 .byte (1 : Int32) [(.int y)] (.int (0 : Int32))) (f20 : k1 ≠ a2) (hyx : ¬ (y = x)) (hlt : ¬ (((y &&& (255 : Int32)) - (x &&& (255 : Int32))) < (0 : Int32))) :
    Meets l y23 prog_35_method_5_code 3 (some .boolean) ws ({ frames := 5, cells := 0, slots := 0, locals := 74 } : Room) ({ frames := 5, cells := 0, slots := 0, locals := 74 } : Room).cells ({ frames := 5, cells := 0, slots := 0, locals := 74 } : Room).slots Z #[(.ref a1), (.ref a2)] h0 n0 (Q232s Z a1 a2 te r d sz kr kk k1 x y c0 c1 h0 n0) := by
  refine Meets.of (F := fun m => mkF m 0 #[.val (.ref a1), .val (.ref a2), .unset] []) (plainFor_of_name pn_5) (fun m => ef_232s m a1 a2) ?_
  intro p e s m below meth c T0 hx hby hml hown0 hnm hret hlk hZ X0 e0
  have hown : s.vm.findClass cT = some m.cls := hown0
  have N0 := Fr.nil n0
  have KC0 := Keep.refl h0 [a1, d, kr]
  show Goes _ _ _ _ _ _ (T0.setTop (mkF m 0 #[.val (.ref a1), .val (.ref a2), .unset] []))
  refine own_aloadN X0 hx (hb hby d23_0) rfl rfl ?_
  refine own_getF X0 hx hZ hown (host := "") (Or.inl (own_w hw 36 rfl)) Via.refl e0 f4 (hb hby d23_1) (fun T1 X1 e1 => ?_)
  refine own_istoreN X1 hx (Ls' := #[.val (.ref a1), .val (.ref a2), .val (.int sz)]) (hb hby d23_4) rfl ?_
  refine own_aloadN X1 hx (hb hby d23_5) rfl rfl ?_
  refine own_aloadN X1 hx (hb hby d23_6) rfl rfl ?_
  refine own_aloadN X1 hx (hb hby d23_7) rfl rfl ?_
  refine own_getF X1 hx hZ hown (host := "") (Or.inl (own_w hw 29 rfl)) Via.refl e1 f3 (hb hby d23_8) (fun T2 X2 e2 => ?_)
  refine own_private X2 hx hZ hown (y := y5) (own_w hw 38 rfl) (own_w hw 39 rfl) (own_w hw 2 rfl) (own_w hw 40 rfl) (own_w hw 3 rfl) (own_w hw 41 rfl) (a := a1) f0 (by decide) (W := 1) (by decide) (by decide) N0 e2 (by rw [hml]; rfl) (argsL := [(.ref d)]) (rest := [(.ref a1)]) (lenOf pd_12 rfl) (Nat.le_of_eq rfl) (by decide) (by decide) (rm5s l Z a0 hw [] a1 d te h0 n0 O0 f1 f6) rfl (hb hby d23_11) ?_
  intro v3 T3 lc3 X3 N3 hQ3
  obtain ⟨rfl, e3⟩ := hQ3
  refine own_putF X3 hx hZ hown N3 (host := "") (Or.inl (own_w hw 29 rfl)) Via.refl e3 f3 f0 (Or.inl (own_w hw 30 rfl)) (own_w hw 2 rfl) (ty := (.object cN)) (by decide) rfl rfl f13 (hb hby d23_14) (fun T4 h4 lc4 X4 e4 N4 W4 => ?_)
  have E5_a1 := f0.wr W4
  have E5_d := f5.wr W4
  have E5_kr := f10.wr W4
  have E5_a2 := f16.wr W4
  have E5_k1 := f17.wr W4
  have F5_edit_a1 := f1.other W4 (Or.inr (slot_ne (Or.inl (own_w hw 11 rfl)) (Or.inl (own_w hw 30 rfl)) (by decide) (t := .long) (t' := (.object cN)) (by decide) (by decide)))
  have F5_root_a1 := f2.other W4 (Or.inr (slot_ne (Or.inl (own_w hw 28 rfl)) (Or.inl (own_w hw 30 rfl)) (by decide) (t := (.object cN)) (t' := (.object cN)) (by decide) (by decide)))
  have F5_draft_a1 := f3.same W4
  have F5_size_a1 := f4.other W4 (Or.inr (slot_ne (Or.inl (own_w hw 37 rfl)) (Or.inl (own_w hw 30 rfl)) (by decide) (t := .int) (t' := (.object cN)) (by decide) (by decide)))
  have F5_edit_d := f6.other W4 (Or.inl (ne_exa f5 f0 (by decide)))
  have F5_keys_d := f7.other W4 (Or.inl (ne_exa f5 f0 (by decide)))
  have F5_children_d := f8.other W4 (Or.inl (ne_exa f5 f0 (by decide)))
  have F5_size_d := f9.other W4 (Or.inl (ne_exa f5 f0 (by decide)))
  have A5_kr := f11.other W4 (ne_exa f10 f0 (by decide))
  have A5_a2 := f18.other W4 (ne_exa f16 f0 (by decide))
  have A5_k1 := f19.other W4 (ne_exa f17 f0 (by decide))
  have O5 := O0.wr W4 f13
  have KC5 := KC0.wr W4 (Or.inl (List.mem_of_getElem? (i := 0) rfl))
  refine own_aloadN X4 hx (hb hby d23_17) rfl rfl ?_
  refine own_aloadN X4 hx (hb hby d23_18) rfl rfl ?_
  refine own_getF X4 hx hZ hown (host := "") (Or.inl (own_w hw 29 rfl)) Via.refl e4 F5_draft_a1 (hb hby d23_19) (fun T6 X6 e6 => ?_)
  refine own_aloadN X6 hx (hb hby d23_22) rfl rfl ?_
  refine own_private X6 hx hZ hown (y := y24) (own_w hw 160 rfl) (own_w hw 161 rfl) (own_w hw 2 rfl) (own_w hw 162 rfl) (own_w hw 3 rfl) (own_w hw 163 rfl) (a := a1) E5_a1 (by decide) (W := 0) (by decide) (by decide) N4 e6 (by rw [hml]; rfl) (argsL := [(.ref d), (.ref a2)]) (rest := []) (lenOf pd_18 rfl) (Nat.le_of_eq rfl) (by decide) (by decide) (rm242s l Z a0 hw [] a1 d a2 te r d sz te kr kk k1 x y c0 c1 h4 n0 O5 E5_a1 F5_edit_a1 F5_root_a1 F5_draft_a1 F5_size_a1 E5_d F5_edit_d F5_keys_d F5_children_d F5_size_d E5_kr A5_kr hov f13 f14 f15 E5_a2 E5_k1 A5_a2 A5_k1 f20 hyx hlt) rfl (hb hby d23_23) ?_
  intro v7 T7 lc7 X7 N7 hQ7
  obtain ⟨rfl, K7, r7_0, r7_1, r7_2, r7_3, r7_4, r7_5, r7_6, r7_7, r7_8, r7_9, r7_10, r7_11⟩ := hQ7
  have O8 := O5.keep K7 (allS f13 (allS f14 (allS f15 all0)))
  have KC8 := KC5.trans K7 (allS (Or.inl (List.mem_of_getElem? (i := 0) rfl)) (allS (Or.inl (List.mem_of_getElem? (i := 1) rfl)) (allS (Or.inl (List.mem_of_getElem? (i := 2) rfl)) all0)))
  refine own_aloadN X7 hx (hb hby d23_26) rfl rfl ?_
  refine own_getF X7 hx hZ hown (host := "") (Or.inl (own_w hw 29 rfl)) Via.refl rfl r7_3 (hb hby d23_27) (fun T9 X9 e9 => ?_)
  refine own_privateR X9 hx hZ hown (y := y8) (own_w hw 61 rfl) (own_w hw 62 rfl) (own_w hw 13 rfl) (own_w hw 63 rfl) (own_w hw 14 rfl) (own_w hw 64 rfl) (a := d) r7_5 (by decide) (W := 0) (by decide) (by decide) N7 e9 (by rw [hml]; rfl) (argsL := []) (rest := []) (lenOf pd_8 rfl) (Nat.le_of_eq rfl) (by decide) (by decide) (rm8 l Z a0 hw [] d T7.heap n0 O8 r7_8) rfl (hb hby d23_30) ?_
  intro v10 T10 lc10 X10 N10 hQ10
  obtain ⟨rfl, e10⟩ := hQ10
  refine own_ifYes X10 hx (pc' := 63) (hb hby d23_33) ((if0 _ _).trans (feq (by decide : ¬ ((1 : Int32) = (0 : Int32)))).2) (by decide) (by decide) ?_
  refine own_aloadN X10 hx (hb hby d23_63) rfl rfl ?_
  refine own_getF X10 hx hZ hown (host := "") (Or.inl (own_w hw 36 rfl)) Via.refl e10 r7_4 (hb hby d23_64) (fun T11 X11 e11 => ?_)
  refine own_iloadN X11 hx (hb hby d23_67) rfl ?_
  by_cases hc68_12 : (sz - (1 : Int32)) < sz
  ·
    refine own_icmpNo X11 hx (hb hby d23_68) (tlt (hc68_12 : (sz - (1 : Int32)) < sz)).2.1 ?_
    refine own_iconst X11 hx (v := (1 : Int32)) (hb hby d23_71) rfl ?_
    refine own_goto X11 hx (pc' := 76) (hb hby d23_72) (by decide) (by decide) ?_
    show Goes _ _ _ _ _ _ (T11.setTop (mkF m 76 #[.val (.ref a1), .val (.ref a2), .val (.int sz)] [(.int (1 : Int32))]))
    exact own_retN X11 hx (t := .boolean) N10 hlk (by decide) (by decide) hret (by simp) (hb hby d23_76) (by rw [e11]; exact ⟨(1 : Int32), rfl, KC8, r7_0, r7_1, r7_2, r7_3, r7_4, r7_5, r7_6, r7_7, r7_8, r7_9, r7_10, r7_11⟩)
  ·
    refine own_icmpYes X11 hx (pc' := 75) (hb hby d23_68) (flt (hc68_12 : ¬ ((sz - (1 : Int32)) < sz))).2.1 (by decide) (by decide) ?_
    refine own_iconst X11 hx (v := (0 : Int32)) (hb hby d23_75) rfl ?_
    show Goes _ _ _ _ _ _ (T11.setTop (mkF m 76 #[.val (.ref a1), .val (.ref a2), .val (.int sz)] [(.int (0 : Int32))]))
    exact own_retN X11 hx (t := .boolean) N10 hlk (by decide) (by decide) hret (by simp) (hb hby d23_76) (by rw [e11]; exact ⟨(0 : Int32), rfl, KC8, r7_0, r7_1, r7_2, r7_3, r7_4, r7_5, r7_6, r7_7, r7_8, r7_9, r7_10, r7_11⟩)
def Q242t (Z : State) (a1 : Addr) (a2 : Addr) (a3 : Addr) (te : Int64) (r : Addr) (d : Addr) (sz : Int32) (ed : Int64) (kr : Addr) (kk : ClassId) (k0 : Addr) (x : Int32) (y : Int32) (c0 : ClassId) (c1 : ClassId) (h0 : Heap) (n0 : Nat) (v : Option Value) (h : Heap) : Prop :=
  (v = none ∧ Keep h0 h [a1, a2, kr] ∧ Exa Z h a1 cT ∧ Fld Z h a1 cT "edit" "J" (.long te) ∧ Fld Z h a1 cT "root" dN (.ref r) ∧ Fld Z h a1 cT "draft" dN (.ref d) ∧ Fld Z h a1 cT "size" "I" (.int (sz - (1 : Int32))) ∧ Exa Z h a2 cN ∧ Fld Z h a2 cN "edit" "J" (.long ed) ∧ Fld Z h a2 cN "keys" "[[B" (.ref kr) ∧ Fld Z h a2 cN "children" dA .null ∧ Fld Z h a2 cN "size" "I" (.int (1 : Int32)) ∧ Exa Z h kr "[[B" ∧ Arv Z h kr kk (.array .byte) (64 : Int32) [(.ref k0), .null, .null] .null)
theorem ef_242t (m : MethodId) (a1 : Addr) (a2 : Addr) (a3 : Addr) : entryFrame m #[(.ref a1), (.ref a2), (.ref a3)] 5 = mkF m 0 #[.val (.ref a1), .val (.ref a2), .val (.ref a3), .unset, .unset] [] := by first | (simp [entryFrame, mkF, argsToLocals, Value.category]; done) | rfl
set_option maxRecDepth 65536 in
set_option maxHeartbeats 40000000 in
theorem rm242t (l : Launch) (Z : State) (a0 : Array Value) (hw : ∀ d ∈ tables_1, d.before a0 Z = true) (ws : List Jvm.Cond) (a1 : Addr) (a2 : Addr) (a3 : Addr) (te : Int64) (r : Addr) (d : Addr) (sz : Int32) (ed : Int64) (kr : Addr) (kk : ClassId) (k0 : Addr) (x : Int32) (y : Int32) (c0 : ClassId) (c1 : ClassId) (h0 : Heap) (n0 : Nat) (O0 : Old Z n0 h0) (f0 : Exa Z h0 a1 cT) (f1 : Fld Z h0 a1 cT "edit" "J" (.long te)) (f2 : Fld Z h0 a1 cT "root" dN (.ref r)) (f3 : Fld Z h0 a1 cT "draft" dN (.ref d)) (f4 : Fld Z h0 a1 cT "size" "I" (.int sz)) (f5 : Exa Z h0 a2 cN) (f6 : Fld Z h0 a2 cN "edit" "J" (.long ed)) (f7 : Fld Z h0 a2 cN "keys" "[[B" (.ref kr)) (f8 : Fld Z h0 a2 cN "children" dA .null) (f9 : Fld Z h0 a2 cN "size" "I" (.int (2 : Int32))) (f10 : Exa Z h0 kr "[[B") (f11 : Arv Z h0 kr kk (.array .byte) (64 : Int32) [(.ref k0), (.ref a3), .null] .null) (hov : OvrA Z kk .byte "[B") (f13 : n0 ≤ a1) (f14 : n0 ≤ a2) (f15 : n0 ≤ kr) (f16 : Exa Z h0 a3 "[B") (f17 : Exa Z h0 k0 "[B") (f18 : Arv Z h0 a3 c0 .byte (1 : Int32) [(.int x)] (.int (0 : Int32))) (f19 : Arv Z h0 k0 c1 .byte (1 : Int32) [(.int y)] (.int (0 : Int32))) (f20 : k0 ≠ a3) (hyx : ¬ (y = x)) (hlt : ((y &&& (255 : Int32)) - (x &&& (255 : Int32))) < (0 : Int32)) :
    Meets l y24 prog_35_method_13_code 5 none ws ({ frames := 4, cells := 0, slots := 0, locals := 58 } : Room) ({ frames := 4, cells := 0, slots := 0, locals := 58 } : Room).cells ({ frames := 4, cells := 0, slots := 0, locals := 58 } : Room).slots Z #[(.ref a1), (.ref a2), (.ref a3)] h0 n0 (Q242t Z a1 a2 a3 te r d sz ed kr kk k0 x y c0 c1 h0 n0) := by
  refine Meets.of (F := fun m => mkF m 0 #[.val (.ref a1), .val (.ref a2), .val (.ref a3), .unset, .unset] []) (plainFor_of_name pn_5) (fun m => ef_242t m a1 a2 a3) ?_
  intro p e s m below meth c T0 hx hby hml hown0 hnm hret hlk hZ X0 e0
  have hown : s.vm.findClass cT = some m.cls := hown0
  have N0 := Fr.nil n0
  have KC0 := Keep.refl h0 [a1, a2, kr]
  show Goes _ _ _ _ _ _ (T0.setTop (mkF m 0 #[.val (.ref a1), .val (.ref a2), .val (.ref a3), .unset, .unset] []))
  refine own_aloadN X0 hx (hb hby d24_0) rfl rfl ?_
  refine own_privateR X0 hx hZ hown (y := y8) (own_w hw 61 rfl) (own_w hw 62 rfl) (own_w hw 13 rfl) (own_w hw 63 rfl) (own_w hw 14 rfl) (own_w hw 64 rfl) (a := a2) f5 (by decide) (W := 0) (by decide) (by decide) N0 e0 (by rw [hml]; rfl) (argsL := []) (rest := []) (lenOf pd_8 rfl) (Nat.le_of_eq rfl) (by decide) (by decide) (rm8 l Z a0 hw [] a2 h0 n0 O0 f8) rfl (hb hby d24_1) ?_
  intro v1 T1 lc1 X1 N1 hQ1
  obtain ⟨rfl, e1⟩ := hQ1
  refine own_ifNo X1 hx (hb hby d24_4) ((if0 _ _).trans (feq (by decide : ¬ ((1 : Int32) = (0 : Int32)))).1) ?_
  refine own_aloadN X1 hx (hb hby d24_7) rfl rfl ?_
  refine own_aloadN X1 hx (hb hby d24_8) rfl rfl ?_
  refine own_callS X1 hx hZ hown (y := y9) (own_w hw 65 rfl) (own_w hw 66 rfl) (own_w hw 3 rfl) (own_w hw 67 rfl) (by decide) (W := 0) (by decide) (by decide) N1 e1 (by rw [hml]; rfl) (argsL := [(.ref a2), (.ref a3)]) (rest := []) (lenOf pd_9 rfl) (Nat.le_of_eq rfl) (by decide) (by decide) (rm92t l Z a0 hw [] a2 a3 kr kk k0 x y c0 c1 h0 n0 O0 f7 f9 f11 f18 f19 f20 hyx hlt) rfl (hb hby d24_9) ?_
  intro v2 T2 lc2 X2 N2 hQ2
  obtain ⟨rfl, e2⟩ := hQ2
  refine own_istoreN X2 hx (Ls' := #[.val (.ref a1), .val (.ref a2), .val (.ref a3), .val (.int (1 : Int32)), .unset]) (hb hby d24_12) rfl ?_
  refine own_iloadN X2 hx (hb hby d24_13) rfl ?_
  refine own_aloadN X2 hx (hb hby d24_14) rfl rfl ?_
  refine own_getFR X2 hx hZ hown (own_w hw 68 rfl) e2 f9 (hb hby d24_15) ?_
  refine own_icmpNo X2 hx (hb hby d24_18) (tlt (by decide : (1 : Int32) < (2 : Int32))).2.1 ?_
  refine own_aloadN X2 hx (hb hby d24_21) rfl rfl ?_
  refine own_getFR X2 hx hZ hown (own_w hw 135 rfl) e2 f7 (hb hby d24_22) ?_
  refine own_iloadN X2 hx (hb hby d24_25) rfl ?_
  refine own_aaload X2 hx hZ e2 f11 rfl ⟨by decide, by decide⟩ (v := (.ref a3)) rfl (hb hby d24_26) ?_
  refine own_aloadN X2 hx (hb hby d24_27) rfl rfl ?_
  refine own_callS X2 hx hZ hown (y := y25) (own_w hw 164 rfl) (own_w hw 165 rfl) (own_w hw 138 rfl) (own_w hw 166 rfl) (by decide) (W := 0) (by decide) (by decide) N2 e2 (by rw [hml]; rfl) (argsL := [(.ref a3), (.ref a3)]) (rest := []) (lenOf pd_11 rfl) (Nat.le_of_eq rfl) (by decide) (by decide) (rm25s l Z a0 hw [] a3 a3 h0 n0 O0) rfl (hb hby d24_28) ?_
  intro v3 T3 lc3 X3 N3 hQ3
  obtain ⟨rfl, e3⟩ := hQ3
  refine own_ifNo X3 hx (hb hby d24_31) ((if0 _ _).trans (feq (by decide : ¬ ((1 : Int32) = (0 : Int32)))).1) ?_
  refine own_aloadN X3 hx (hb hby d24_34) rfl rfl ?_
  refine own_iloadN X3 hx (hb hby d24_35) rfl ?_
  refine own_privateR X3 hx hZ hown (y := y26) (own_w hw 167 rfl) (own_w hw 168 rfl) (own_w hw 13 rfl) (own_w hw 169 rfl) (own_w hw 14 rfl) (own_w hw 170 rfl) (a := a2) f5 (by decide) (W := 0) (by decide) (by decide) N3 e3 (by rw [hml]; rfl) (argsL := [(.int (1 : Int32))]) (rest := []) (lenOf pd_17 rfl) (Nat.le_of_eq rfl) (by decide) (by decide) (rm2621 l Z a0 hw [] a2 ed kr kk k0 a3 h0 n0 O0 f5 f6 f7 f8 f9 f10 f11 hov f14 f15 f17 f16) rfl (hb hby d24_36) ?_
  intro v4 T4 lc4 X4 N4 hQ4
  obtain ⟨rfl, K4, r4_0, r4_1, r4_2, r4_3, r4_4, r4_5, r4_6⟩ := hQ4
  have E5_a1 := f0.keep K4
  have F5_edit_a1 := f1.keep K4 (ninS (ne_exa f0 f5 (by decide)) (ninS (ne_exa f0 f10 (by decide)) nin0))
  have F5_root_a1 := f2.keep K4 (ninS (ne_exa f0 f5 (by decide)) (ninS (ne_exa f0 f10 (by decide)) nin0))
  have F5_draft_a1 := f3.keep K4 (ninS (ne_exa f0 f5 (by decide)) (ninS (ne_exa f0 f10 (by decide)) nin0))
  have F5_size_a1 := f4.keep K4 (ninS (ne_exa f0 f5 (by decide)) (ninS (ne_exa f0 f10 (by decide)) nin0))
  have O5 := O0.keep K4 (allS f14 (allS f15 all0))
  have KC5 := KC0.trans K4 (allS (Or.inl (List.mem_of_getElem? (i := 1) rfl)) (allS (Or.inl (List.mem_of_getElem? (i := 2) rfl)) all0))
  refine own_aloadN X4 hx (hb hby d24_39) rfl rfl ?_
  refine own_dup X4 hx (hb hby d24_40) rfl ?_
  refine own_getF X4 hx hZ hown (host := "") (Or.inl (own_w hw 36 rfl)) Via.refl rfl F5_size_a1 (hb hby d24_41) (fun T6 X6 e6 => ?_)
  refine own_iconst X6 hx (v := (1 : Int32)) (hb hby d24_44) rfl ?_
  refine own_isub X6 hx (hb hby d24_45) ?_
  refine own_putF X6 hx hZ hown N4 (host := "") (Or.inl (own_w hw 36 rfl)) Via.refl e6 F5_size_a1 E5_a1 (Or.inl (own_w hw 37 rfl)) (own_w hw 2 rfl) (ty := .int) (by decide) rfl rfl f13 (hb hby d24_46) (fun T7 h7 lc7 X7 e7 N7 W7 => ?_)
  have E8_a1 := E5_a1.wr W7
  have E8_a2 := r4_0.wr W7
  have E8_kr := r4_5.wr W7
  have F8_edit_a1 := F5_edit_a1.other W7 (Or.inr (slot_ne (Or.inl (own_w hw 11 rfl)) (Or.inl (own_w hw 37 rfl)) (by decide) (t := .long) (t' := .int) (by decide) (by decide)))
  have F8_root_a1 := F5_root_a1.other W7 (Or.inr (slot_ne (Or.inl (own_w hw 28 rfl)) (Or.inl (own_w hw 37 rfl)) (by decide) (t := (.object cN)) (t' := .int) (by decide) (by decide)))
  have F8_draft_a1 := F5_draft_a1.other W7 (Or.inr (slot_ne (Or.inl (own_w hw 30 rfl)) (Or.inl (own_w hw 37 rfl)) (by decide) (t := (.object cN)) (t' := .int) (by decide) (by decide)))
  have F8_size_a1 := F5_size_a1.same W7
  have F8_edit_a2 := r4_1.other W7 (Or.inl (ne_exa r4_0 E5_a1 (by decide)))
  have F8_keys_a2 := r4_2.other W7 (Or.inl (ne_exa r4_0 E5_a1 (by decide)))
  have F8_children_a2 := r4_3.other W7 (Or.inl (ne_exa r4_0 E5_a1 (by decide)))
  have F8_size_a2 := r4_4.other W7 (Or.inl (ne_exa r4_0 E5_a1 (by decide)))
  have A8_kr := r4_6.other W7 (ne_exa r4_5 E5_a1 (by decide))
  have O8 := O5.wr W7 f13
  have KC8 := KC5.wr W7 (Or.inl (List.mem_of_getElem? (i := 0) rfl))
  show Goes _ _ _ _ _ _ (T7.setTop (mkF m 49 #[.val (.ref a1), .val (.ref a2), .val (.ref a3), .val (.int (1 : Int32)), .unset] []))
  exact own_retV X7 hx N7 hlk (by decide) (by decide) hret (hb hby d24_49) (by rw [e7]; exact ⟨rfl, KC8, E8_a1, F8_edit_a1, F8_root_a1, F8_draft_a1, F8_size_a1, E8_a2, F8_edit_a2, F8_keys_a2, F8_children_a2, F8_size_a2, E8_kr, A8_kr⟩)
def Q232t (Z : State) (a1 : Addr) (a2 : Addr) (te : Int64) (r : Addr) (d : Addr) (sz : Int32) (kr : Addr) (kk : ClassId) (k0 : Addr) (x : Int32) (y : Int32) (c0 : ClassId) (c1 : ClassId) (h0 : Heap) (n0 : Nat) (v : Option Value) (h : Heap) : Prop :=
  (∃ (w : Int32), v = some (.int w) ∧ Keep h0 h [a1, d, kr] ∧ Exa Z h a1 cT ∧ Fld Z h a1 cT "edit" "J" (.long te) ∧ Fld Z h a1 cT "root" dN (.ref r) ∧ Fld Z h a1 cT "draft" dN (.ref d) ∧ Fld Z h a1 cT "size" "I" (.int (sz - (1 : Int32))) ∧ Exa Z h d cN ∧ Fld Z h d cN "edit" "J" (.long te) ∧ Fld Z h d cN "keys" "[[B" (.ref kr) ∧ Fld Z h d cN "children" dA .null ∧ Fld Z h d cN "size" "I" (.int (1 : Int32)) ∧ Exa Z h kr "[[B" ∧ Arv Z h kr kk (.array .byte) (64 : Int32) [(.ref k0), .null, .null] .null)
theorem ef_232t (m : MethodId) (a1 : Addr) (a2 : Addr) : entryFrame m #[(.ref a1), (.ref a2)] 3 = mkF m 0 #[.val (.ref a1), .val (.ref a2), .unset] [] := by first | (simp [entryFrame, mkF, argsToLocals, Value.category]; done) | rfl
set_option maxRecDepth 65536 in
set_option maxHeartbeats 40000000 in
theorem rm232t (l : Launch) (Z : State) (a0 : Array Value) (hw : ∀ d ∈ tables_1, d.before a0 Z = true) (ws : List Jvm.Cond) (a1 : Addr) (a2 : Addr) (te : Int64) (r : Addr) (d : Addr) (sz : Int32) (kr : Addr) (kk : ClassId) (k0 : Addr) (x : Int32) (y : Int32) (c0 : ClassId) (c1 : ClassId) (h0 : Heap) (n0 : Nat) (O0 : Old Z n0 h0) (f0 : Exa Z h0 a1 cT) (f1 : Fld Z h0 a1 cT "edit" "J" (.long te)) (f2 : Fld Z h0 a1 cT "root" dN (.ref r)) (f3 : Fld Z h0 a1 cT "draft" dN (.ref d)) (f4 : Fld Z h0 a1 cT "size" "I" (.int sz)) (f5 : Exa Z h0 d cN) (f6 : Fld Z h0 d cN "edit" "J" (.long te)) (f7 : Fld Z h0 d cN "keys" "[[B" (.ref kr)) (f8 : Fld Z h0 d cN "children" dA .null) (f9 : Fld Z h0 d cN "size" "I" (.int (2 : Int32))) (f10 : Exa Z h0 kr "[[B") (f11 : Arv Z h0 kr kk (.array .byte) (64 : Int32) [(.ref k0), (.ref a2), .null] .null) (hov : OvrA Z kk .byte "[B") (f13 : n0 ≤ a1) (f14 : n0 ≤ d) (f15 : n0 ≤ kr) (f16 : Exa Z h0 a2 "[B") (f17 : Exa Z h0 k0 "[B") (f18 : Arv Z h0 a2 c0 .byte (1 : Int32) [(.int x)] (.int (0 : Int32))) (f19 : Arv Z h0 k0 c1 .byte (1 : Int32) [(.int y)] (.int (0 : Int32))) (f20 : k0 ≠ a2) (hyx : ¬ (y = x)) (hlt : ((y &&& (255 : Int32)) - (x &&& (255 : Int32))) < (0 : Int32)) :
    Meets l y23 prog_35_method_5_code 3 (some .boolean) ws ({ frames := 5, cells := 0, slots := 0, locals := 74 } : Room) ({ frames := 5, cells := 0, slots := 0, locals := 74 } : Room).cells ({ frames := 5, cells := 0, slots := 0, locals := 74 } : Room).slots Z #[(.ref a1), (.ref a2)] h0 n0 (Q232t Z a1 a2 te r d sz kr kk k0 x y c0 c1 h0 n0) := by
  refine Meets.of (F := fun m => mkF m 0 #[.val (.ref a1), .val (.ref a2), .unset] []) (plainFor_of_name pn_5) (fun m => ef_232t m a1 a2) ?_
  intro p e s m below meth c T0 hx hby hml hown0 hnm hret hlk hZ X0 e0
  have hown : s.vm.findClass cT = some m.cls := hown0
  have N0 := Fr.nil n0
  have KC0 := Keep.refl h0 [a1, d, kr]
  show Goes _ _ _ _ _ _ (T0.setTop (mkF m 0 #[.val (.ref a1), .val (.ref a2), .unset] []))
  refine own_aloadN X0 hx (hb hby d23_0) rfl rfl ?_
  refine own_getF X0 hx hZ hown (host := "") (Or.inl (own_w hw 36 rfl)) Via.refl e0 f4 (hb hby d23_1) (fun T1 X1 e1 => ?_)
  refine own_istoreN X1 hx (Ls' := #[.val (.ref a1), .val (.ref a2), .val (.int sz)]) (hb hby d23_4) rfl ?_
  refine own_aloadN X1 hx (hb hby d23_5) rfl rfl ?_
  refine own_aloadN X1 hx (hb hby d23_6) rfl rfl ?_
  refine own_aloadN X1 hx (hb hby d23_7) rfl rfl ?_
  refine own_getF X1 hx hZ hown (host := "") (Or.inl (own_w hw 29 rfl)) Via.refl e1 f3 (hb hby d23_8) (fun T2 X2 e2 => ?_)
  refine own_private X2 hx hZ hown (y := y5) (own_w hw 38 rfl) (own_w hw 39 rfl) (own_w hw 2 rfl) (own_w hw 40 rfl) (own_w hw 3 rfl) (own_w hw 41 rfl) (a := a1) f0 (by decide) (W := 1) (by decide) (by decide) N0 e2 (by rw [hml]; rfl) (argsL := [(.ref d)]) (rest := [(.ref a1)]) (lenOf pd_12 rfl) (Nat.le_of_eq rfl) (by decide) (by decide) (rm5s l Z a0 hw [] a1 d te h0 n0 O0 f1 f6) rfl (hb hby d23_11) ?_
  intro v3 T3 lc3 X3 N3 hQ3
  obtain ⟨rfl, e3⟩ := hQ3
  refine own_putF X3 hx hZ hown N3 (host := "") (Or.inl (own_w hw 29 rfl)) Via.refl e3 f3 f0 (Or.inl (own_w hw 30 rfl)) (own_w hw 2 rfl) (ty := (.object cN)) (by decide) rfl rfl f13 (hb hby d23_14) (fun T4 h4 lc4 X4 e4 N4 W4 => ?_)
  have E5_a1 := f0.wr W4
  have E5_d := f5.wr W4
  have E5_kr := f10.wr W4
  have E5_a2 := f16.wr W4
  have E5_k0 := f17.wr W4
  have F5_edit_a1 := f1.other W4 (Or.inr (slot_ne (Or.inl (own_w hw 11 rfl)) (Or.inl (own_w hw 30 rfl)) (by decide) (t := .long) (t' := (.object cN)) (by decide) (by decide)))
  have F5_root_a1 := f2.other W4 (Or.inr (slot_ne (Or.inl (own_w hw 28 rfl)) (Or.inl (own_w hw 30 rfl)) (by decide) (t := (.object cN)) (t' := (.object cN)) (by decide) (by decide)))
  have F5_draft_a1 := f3.same W4
  have F5_size_a1 := f4.other W4 (Or.inr (slot_ne (Or.inl (own_w hw 37 rfl)) (Or.inl (own_w hw 30 rfl)) (by decide) (t := .int) (t' := (.object cN)) (by decide) (by decide)))
  have F5_edit_d := f6.other W4 (Or.inl (ne_exa f5 f0 (by decide)))
  have F5_keys_d := f7.other W4 (Or.inl (ne_exa f5 f0 (by decide)))
  have F5_children_d := f8.other W4 (Or.inl (ne_exa f5 f0 (by decide)))
  have F5_size_d := f9.other W4 (Or.inl (ne_exa f5 f0 (by decide)))
  have A5_kr := f11.other W4 (ne_exa f10 f0 (by decide))
  have A5_a2 := f18.other W4 (ne_exa f16 f0 (by decide))
  have A5_k0 := f19.other W4 (ne_exa f17 f0 (by decide))
  have O5 := O0.wr W4 f13
  have KC5 := KC0.wr W4 (Or.inl (List.mem_of_getElem? (i := 0) rfl))
  refine own_aloadN X4 hx (hb hby d23_17) rfl rfl ?_
  refine own_aloadN X4 hx (hb hby d23_18) rfl rfl ?_
  refine own_getF X4 hx hZ hown (host := "") (Or.inl (own_w hw 29 rfl)) Via.refl e4 F5_draft_a1 (hb hby d23_19) (fun T6 X6 e6 => ?_)
  refine own_aloadN X6 hx (hb hby d23_22) rfl rfl ?_
  refine own_private X6 hx hZ hown (y := y24) (own_w hw 160 rfl) (own_w hw 161 rfl) (own_w hw 2 rfl) (own_w hw 162 rfl) (own_w hw 3 rfl) (own_w hw 163 rfl) (a := a1) E5_a1 (by decide) (W := 0) (by decide) (by decide) N4 e6 (by rw [hml]; rfl) (argsL := [(.ref d), (.ref a2)]) (rest := []) (lenOf pd_18 rfl) (Nat.le_of_eq rfl) (by decide) (by decide) (rm242t l Z a0 hw [] a1 d a2 te r d sz te kr kk k0 x y c0 c1 h4 n0 O5 E5_a1 F5_edit_a1 F5_root_a1 F5_draft_a1 F5_size_a1 E5_d F5_edit_d F5_keys_d F5_children_d F5_size_d E5_kr A5_kr hov f13 f14 f15 E5_a2 E5_k0 A5_a2 A5_k0 f20 hyx hlt) rfl (hb hby d23_23) ?_
  intro v7 T7 lc7 X7 N7 hQ7
  obtain ⟨rfl, K7, r7_0, r7_1, r7_2, r7_3, r7_4, r7_5, r7_6, r7_7, r7_8, r7_9, r7_10, r7_11⟩ := hQ7
  have O8 := O5.keep K7 (allS f13 (allS f14 (allS f15 all0)))
  have KC8 := KC5.trans K7 (allS (Or.inl (List.mem_of_getElem? (i := 0) rfl)) (allS (Or.inl (List.mem_of_getElem? (i := 1) rfl)) (allS (Or.inl (List.mem_of_getElem? (i := 2) rfl)) all0)))
  refine own_aloadN X7 hx (hb hby d23_26) rfl rfl ?_
  refine own_getF X7 hx hZ hown (host := "") (Or.inl (own_w hw 29 rfl)) Via.refl rfl r7_3 (hb hby d23_27) (fun T9 X9 e9 => ?_)
  refine own_privateR X9 hx hZ hown (y := y8) (own_w hw 61 rfl) (own_w hw 62 rfl) (own_w hw 13 rfl) (own_w hw 63 rfl) (own_w hw 14 rfl) (own_w hw 64 rfl) (a := d) r7_5 (by decide) (W := 0) (by decide) (by decide) N7 e9 (by rw [hml]; rfl) (argsL := []) (rest := []) (lenOf pd_8 rfl) (Nat.le_of_eq rfl) (by decide) (by decide) (rm8 l Z a0 hw [] d T7.heap n0 O8 r7_8) rfl (hb hby d23_30) ?_
  intro v10 T10 lc10 X10 N10 hQ10
  obtain ⟨rfl, e10⟩ := hQ10
  refine own_ifYes X10 hx (pc' := 63) (hb hby d23_33) ((if0 _ _).trans (feq (by decide : ¬ ((1 : Int32) = (0 : Int32)))).2) (by decide) (by decide) ?_
  refine own_aloadN X10 hx (hb hby d23_63) rfl rfl ?_
  refine own_getF X10 hx hZ hown (host := "") (Or.inl (own_w hw 36 rfl)) Via.refl e10 r7_4 (hb hby d23_64) (fun T11 X11 e11 => ?_)
  refine own_iloadN X11 hx (hb hby d23_67) rfl ?_
  by_cases hc68_12 : (sz - (1 : Int32)) < sz
  ·
    refine own_icmpNo X11 hx (hb hby d23_68) (tlt (hc68_12 : (sz - (1 : Int32)) < sz)).2.1 ?_
    refine own_iconst X11 hx (v := (1 : Int32)) (hb hby d23_71) rfl ?_
    refine own_goto X11 hx (pc' := 76) (hb hby d23_72) (by decide) (by decide) ?_
    show Goes _ _ _ _ _ _ (T11.setTop (mkF m 76 #[.val (.ref a1), .val (.ref a2), .val (.int sz)] [(.int (1 : Int32))]))
    exact own_retN X11 hx (t := .boolean) N10 hlk (by decide) (by decide) hret (by simp) (hb hby d23_76) (by rw [e11]; exact ⟨(1 : Int32), rfl, KC8, r7_0, r7_1, r7_2, r7_3, r7_4, r7_5, r7_6, r7_7, r7_8, r7_9, r7_10, r7_11⟩)
  ·
    refine own_icmpYes X11 hx (pc' := 75) (hb hby d23_68) (flt (hc68_12 : ¬ ((sz - (1 : Int32)) < sz))).2.1 (by decide) (by decide) ?_
    refine own_iconst X11 hx (v := (0 : Int32)) (hb hby d23_75) rfl ?_
    show Goes _ _ _ _ _ _ (T11.setTop (mkF m 76 #[.val (.ref a1), .val (.ref a2), .val (.int sz)] [(.int (0 : Int32))]))
    exact own_retN X11 hx (t := .boolean) N10 hlk (by decide) (by decide) hret (by simp) (hb hby d23_76) (by rw [e11]; exact ⟨(0 : Int32), rfl, KC8, r7_0, r7_1, r7_2, r7_3, r7_4, r7_5, r7_6, r7_7, r7_8, r7_9, r7_10, r7_11⟩)
theorem d30_0 : decode prog_35_method_6_code 0 = .ok (.aload_n 0, 1) := by decide +kernel
theorem d30_1 : decode prog_35_method_6_code 1 = .ok (.getfield 22, 3) := by decide +kernel
theorem d30_4 : decode prog_35_method_6_code 4 = .ok (.aload_n 0, 1) := by decide +kernel
theorem d30_5 : decode prog_35_method_6_code 5 = .ok (.getfield 18, 3) := by decide +kernel
theorem d30_8 : decode prog_35_method_6_code 8 = .ok (.if_acmp .eq 21, 3) := by decide +kernel
theorem d30_11 : decode prog_35_method_6_code 11 = .ok (.aload_n 0, 1) := by decide +kernel
theorem d30_12 : decode prog_35_method_6_code 12 = .ok (.aload_n 0, 1) := by decide +kernel
theorem d30_13 : decode prog_35_method_6_code 13 = .ok (.getfield 22, 3) := by decide +kernel
theorem d30_16 : decode prog_35_method_6_code 16 = .ok (.putfield 18, 3) := by decide +kernel
theorem d30_19 : decode prog_35_method_6_code 19 = .ok (.aload_n 0, 1) := by decide +kernel
theorem d30_20 : decode prog_35_method_6_code 20 = .ok (.dup, 1) := by decide +kernel
theorem d30_21 : decode prog_35_method_6_code 21 = .ok (.getfield 9, 3) := by decide +kernel
theorem d30_24 : decode prog_35_method_6_code 24 = .ok (.lconst 1, 1) := by decide +kernel
theorem d30_25 : decode prog_35_method_6_code 25 = .ok (.ladd, 1) := by decide +kernel
theorem d30_26 : decode prog_35_method_6_code 26 = .ok (.putfield 9, 3) := by decide +kernel
theorem d30_29 : decode prog_35_method_6_code 29 = .ok (.return_, 1) := by decide +kernel
def Q30n (Z : State) (a1 : Addr) (te : Int64) (r : Addr) (d : Addr) (sz : Int32) (h0 : Heap) (n0 : Nat) (v : Option Value) (h : Heap) : Prop :=
  (v = none ∧ Keep h0 h [a1] ∧ Exa Z h a1 cT ∧ Fld Z h a1 cT "edit" "J" (.long (te + (1 : Int64))) ∧ Fld Z h a1 cT "root" dN (.ref d) ∧ Fld Z h a1 cT "draft" dN (.ref d) ∧ Fld Z h a1 cT "size" "I" (.int sz))
theorem ef_30n (m : MethodId) (a1 : Addr) : entryFrame m #[(.ref a1)] 1 = mkF m 0 #[.val (.ref a1)] [] := by first | (simp [entryFrame, mkF, argsToLocals, Value.category]; done) | rfl
set_option maxRecDepth 65536 in
set_option maxHeartbeats 40000000 in
theorem rm30n (l : Launch) (Z : State) (a0 : Array Value) (hw : ∀ d ∈ tables_1, d.before a0 Z = true) (ws : List Jvm.Cond) (a1 : Addr) (te : Int64) (r : Addr) (d : Addr) (sz : Int32) (h0 : Heap) (n0 : Nat) (O0 : Old Z n0 h0) (f0 : Exa Z h0 a1 cT) (f1 : Fld Z h0 a1 cT "edit" "J" (.long te)) (f2 : Fld Z h0 a1 cT "root" dN (.ref r)) (f3 : Fld Z h0 a1 cT "draft" dN (.ref d)) (f4 : Fld Z h0 a1 cT "size" "I" (.int sz)) (f5 : d ≠ r) (f6 : n0 ≤ a1) :
    Meets l y30 prog_35_method_6_code 1 none ws ({ frames := 0, cells := 0, slots := 0, locals := 0 } : Room) ({ frames := 0, cells := 0, slots := 0, locals := 0 } : Room).cells ({ frames := 0, cells := 0, slots := 0, locals := 0 } : Room).slots Z #[(.ref a1)] h0 n0 (Q30n Z a1 te r d sz h0 n0) := by
  refine Meets.of (F := fun m => mkF m 0 #[.val (.ref a1)] []) (plainFor_of_name pn_5) (fun m => ef_30n m a1) ?_
  intro p e s m below meth c T0 hx hby hml hown0 hnm hret hlk hZ X0 e0
  have hown : s.vm.findClass cT = some m.cls := hown0
  have N0 := Fr.nil n0
  have KC0 := Keep.refl h0 [a1]
  show Goes _ _ _ _ _ _ (T0.setTop (mkF m 0 #[.val (.ref a1)] []))
  refine own_aloadN X0 hx (hb hby d30_0) rfl rfl ?_
  refine own_getF X0 hx hZ hown (host := "") (Or.inl (own_w hw 29 rfl)) Via.refl e0 f3 (hb hby d30_1) (fun T1 X1 e1 => ?_)
  refine own_aloadN X1 hx (hb hby d30_4) rfl rfl ?_
  refine own_getF X1 hx hZ hown (host := "") (Or.inl (own_w hw 27 rfl)) Via.refl e1 f2 (hb hby d30_5) (fun T2 X2 e2 => ?_)
  refine own_acmp X2 hx rfl rfl (same := false) (pc' := 11) (hb hby d30_8) (decide_eq_false fun q => f5 (Value.ref.inj q)) (by decide) (by decide) ?_
  refine own_aloadN X2 hx (hb hby d30_11) rfl rfl ?_
  refine own_aloadN X2 hx (hb hby d30_12) rfl rfl ?_
  refine own_getF X2 hx hZ hown (host := "") (Or.inl (own_w hw 29 rfl)) Via.refl e2 f3 (hb hby d30_13) (fun T3 X3 e3 => ?_)
  refine own_putF X3 hx hZ hown N0 (host := "") (Or.inl (own_w hw 27 rfl)) Via.refl e3 f2 f0 (Or.inl (own_w hw 28 rfl)) (own_w hw 2 rfl) (ty := (.object cN)) (by decide) rfl rfl f6 (hb hby d30_16) (fun T4 h4 lc4 X4 e4 N4 W4 => ?_)
  have E5_a1 := f0.wr W4
  have F5_edit_a1 := f1.other W4 (Or.inr (slot_ne (Or.inl (own_w hw 11 rfl)) (Or.inl (own_w hw 28 rfl)) (by decide) (t := .long) (t' := (.object cN)) (by decide) (by decide)))
  have F5_root_a1 := f2.same W4
  have F5_draft_a1 := f3.other W4 (Or.inr (slot_ne (Or.inl (own_w hw 30 rfl)) (Or.inl (own_w hw 28 rfl)) (by decide) (t := (.object cN)) (t' := (.object cN)) (by decide) (by decide)))
  have F5_size_a1 := f4.other W4 (Or.inr (slot_ne (Or.inl (own_w hw 37 rfl)) (Or.inl (own_w hw 28 rfl)) (by decide) (t := .int) (t' := (.object cN)) (by decide) (by decide)))
  have O5 := O0.wr W4 f6
  have KC5 := KC0.wr W4 (Or.inl (List.mem_of_getElem? (i := 0) rfl))
  refine own_aloadN X4 hx (hb hby d30_19) rfl rfl ?_
  refine own_dup X4 hx (hb hby d30_20) rfl ?_
  refine own_getF X4 hx hZ hown (host := "") (Or.inl (own_w hw 10 rfl)) Via.refl e4 F5_edit_a1 (hb hby d30_21) (fun T6 X6 e6 => ?_)
  refine own_lconst X6 hx (v := (1 : Int64)) (hb hby d30_24) rfl ?_
  refine own_ladd X6 hx (hb hby d30_25) ?_
  refine own_putF X6 hx hZ hown N4 (host := "") (Or.inl (own_w hw 10 rfl)) Via.refl e6 F5_edit_a1 E5_a1 (Or.inl (own_w hw 11 rfl)) (own_w hw 2 rfl) (ty := .long) (by decide) rfl rfl f6 (hb hby d30_26) (fun T7 h7 lc7 X7 e7 N7 W7 => ?_)
  have E8_a1 := E5_a1.wr W7
  have F8_edit_a1 := F5_edit_a1.same W7
  have F8_root_a1 := F5_root_a1.other W7 (Or.inr (slot_ne (Or.inl (own_w hw 28 rfl)) (Or.inl (own_w hw 11 rfl)) (by decide) (t := (.object cN)) (t' := .long) (by decide) (by decide)))
  have F8_draft_a1 := F5_draft_a1.other W7 (Or.inr (slot_ne (Or.inl (own_w hw 30 rfl)) (Or.inl (own_w hw 11 rfl)) (by decide) (t := (.object cN)) (t' := .long) (by decide) (by decide)))
  have F8_size_a1 := F5_size_a1.other W7 (Or.inr (slot_ne (Or.inl (own_w hw 37 rfl)) (Or.inl (own_w hw 11 rfl)) (by decide) (t := .int) (t' := .long) (by decide) (by decide)))
  have O8 := O5.wr W7 f6
  have KC8 := KC5.wr W7 (Or.inl (List.mem_of_getElem? (i := 0) rfl))
  show Goes _ _ _ _ _ _ (T7.setTop (mkF m 29 #[.val (.ref a1)] []))
  exact own_retV X7 hx N7 hlk (by decide) (by decide) hret (hb hby d30_29) (by rw [e7]; exact ⟨rfl, KC8, E8_a1, F8_edit_a1, F8_root_a1, F8_draft_a1, F8_size_a1⟩)
def Q30s (Z : State) (a1 : Addr) (te : Int64) (r : Addr) (sz : Int32) (h0 : Heap) (n0 : Nat) (v : Option Value) (h : Heap) : Prop :=
  (v = none ∧ h = h0)
theorem ef_30s (m : MethodId) (a1 : Addr) : entryFrame m #[(.ref a1)] 1 = mkF m 0 #[.val (.ref a1)] [] := by first | (simp [entryFrame, mkF, argsToLocals, Value.category]; done) | rfl
set_option maxRecDepth 65536 in
set_option maxHeartbeats 40000000 in
theorem rm30s (l : Launch) (Z : State) (a0 : Array Value) (hw : ∀ d ∈ tables_1, d.before a0 Z = true) (ws : List Jvm.Cond) (a1 : Addr) (te : Int64) (r : Addr) (sz : Int32) (h0 : Heap) (n0 : Nat) (O0 : Old Z n0 h0) (f0 : Exa Z h0 a1 cT) (f1 : Fld Z h0 a1 cT "edit" "J" (.long te)) (f2 : Fld Z h0 a1 cT "root" dN (.ref r)) (f3 : Fld Z h0 a1 cT "draft" dN (.ref r)) (f4 : Fld Z h0 a1 cT "size" "I" (.int sz)) :
    Meets l y30 prog_35_method_6_code 1 none ws ({ frames := 0, cells := 0, slots := 0, locals := 0 } : Room) ({ frames := 0, cells := 0, slots := 0, locals := 0 } : Room).cells ({ frames := 0, cells := 0, slots := 0, locals := 0 } : Room).slots Z #[(.ref a1)] h0 n0 (Q30s Z a1 te r sz h0 n0) := by
  refine Meets.of (F := fun m => mkF m 0 #[.val (.ref a1)] []) (plainFor_of_name pn_5) (fun m => ef_30s m a1) ?_
  intro p e s m below meth c T0 hx hby hml hown0 hnm hret hlk hZ X0 e0
  have hown : s.vm.findClass cT = some m.cls := hown0
  have N0 := Fr.nil n0
  show Goes _ _ _ _ _ _ (T0.setTop (mkF m 0 #[.val (.ref a1)] []))
  refine own_aloadN X0 hx (hb hby d30_0) rfl rfl ?_
  refine own_getF X0 hx hZ hown (host := "") (Or.inl (own_w hw 29 rfl)) Via.refl e0 f3 (hb hby d30_1) (fun T1 X1 e1 => ?_)
  refine own_aloadN X1 hx (hb hby d30_4) rfl rfl ?_
  refine own_getF X1 hx hZ hown (host := "") (Or.inl (own_w hw 27 rfl)) Via.refl e1 f2 (hb hby d30_5) (fun T2 X2 e2 => ?_)
  refine own_acmp X2 hx rfl rfl (same := true) (pc' := 29) (hb hby d30_8) (decide_eq_true rfl) (by decide) (by decide) ?_
  show Goes _ _ _ _ _ _ (T2.setTop (mkF m 29 #[.val (.ref a1)] []))
  exact own_retV X2 hx N0 hlk (by decide) (by decide) hret (hb hby d30_29) (by rw [e2]; exact ⟨rfl, rfl⟩)
theorem d16_0 : decode prog_37_method_4_code 0 = .ok (.aload_n 0, 1) := by decide +kernel
theorem d16_1 : decode prog_37_method_4_code 1 = .ok (.getfield 32, 3) := by decide +kernel
theorem d16_4 : decode prog_37_method_4_code 4 = .ok (.ifnull 145, 3) := by decide +kernel
theorem d16_7 : decode prog_37_method_4_code 7 = .ok (.aload_n 0, 1) := by decide +kernel
theorem d16_8 : decode prog_37_method_4_code 8 = .ok (.getfield 39, 3) := by decide +kernel
theorem d16_11 : decode prog_37_method_4_code 11 = .ok (.aload_n 0, 1) := by decide +kernel
theorem d16_12 : decode prog_37_method_4_code 12 = .ok (.getfield 32, 3) := by decide +kernel
theorem d16_15 : decode prog_37_method_4_code 15 = .ok (.getfield 43, 3) := by decide +kernel
theorem d16_18 : decode prog_37_method_4_code 18 = .ok (.if_icmp .ne 131, 3) := by decide +kernel
theorem d16_21 : decode prog_37_method_4_code 21 = .ok (.aload_n 0, 1) := by decide +kernel
theorem d16_22 : decode prog_37_method_4_code 22 = .ok (.getfield 17, 3) := by decide +kernel
theorem d16_25 : decode prog_37_method_4_code 25 = .ok (.arraylength, 1) := by decide +kernel
theorem d16_26 : decode prog_37_method_4_code 26 = .ok (.iconst 1, 1) := by decide +kernel
theorem d16_27 : decode prog_37_method_4_code 27 = .ok (.isub, 1) := by decide +kernel
theorem d16_28 : decode prog_37_method_4_code 28 = .ok (.istore_n 1, 1) := by decide +kernel
theorem d16_29 : decode prog_37_method_4_code 29 = .ok (.iload_n 1, 1) := by decide +kernel
theorem d16_30 : decode prog_37_method_4_code 30 = .ok (.ifCond .lt 29, 3) := by decide +kernel
theorem d16_59 : decode prog_37_method_4_code 59 = .ok (.iload_n 1, 1) := by decide +kernel
theorem d16_60 : decode prog_37_method_4_code 60 = .ok (.ifCond .ge 9, 3) := by decide +kernel
theorem d16_63 : decode prog_37_method_4_code 63 = .ok (.aload_n 0, 1) := by decide +kernel
theorem d16_64 : decode prog_37_method_4_code 64 = .ok (.aconst_null, 1) := by decide +kernel
theorem d16_65 : decode prog_37_method_4_code 65 = .ok (.putfield 32, 3) := by decide +kernel
theorem d16_68 : decode prog_37_method_4_code 68 = .ok (.return_, 1) := by decide +kernel
theorem pn_6 : plainName "com/example/contention/contention/KeyTree$Walk" = true := by first | (simp [plainName, overriddenIn]; done) | decide +kernel
def Q16e (Z : State) (a1 : Addr) (pa : Addr) (kp : ClassId) (lf : Addr) (nx : Int32) (h0 : Heap) (n0 : Nat) (v : Option Value) (h : Heap) : Prop :=
  (v = none ∧ Keep h0 h [a1] ∧ Fld Z h a1 cW "path" dA (.ref pa) ∧ Fld Z h a1 cW "leaf" dN .null ∧ Fld Z h a1 cW "next" "I" (.int nx))
theorem ef_16e (m : MethodId) (a1 : Addr) : entryFrame m #[(.ref a1)] 4 = mkF m 0 #[.val (.ref a1), .unset, .unset, .unset] [] := by first | (simp [entryFrame, mkF, argsToLocals, Value.category]; done) | rfl
set_option maxRecDepth 65536 in
set_option maxHeartbeats 40000000 in
theorem rm16e (l : Launch) (Z : State) (a0 : Array Value) (hw : ∀ d ∈ tables_1, d.before a0 Z = true) (ws : List Jvm.Cond) (a1 : Addr) (pa : Addr) (kp : ClassId) (lf : Addr) (nx : Int32) (h0 : Heap) (n0 : Nat) (O0 : Old Z n0 h0) (f0 : Exa Z h0 a1 cW) (f1 : Fld Z h0 a1 cW "path" dA (.ref pa)) (f2 : Fld Z h0 a1 cW "leaf" dN (.ref lf)) (f3 : Fld Z h0 a1 cW "next" "I" (.int nx)) (f4 : Arv Z h0 pa kp (.object cN) (0 : Int32) [] .null) (f5 : Fld Z h0 lf cN "size" "I" (.int nx)) (f6 : Exa Z h0 lf cN) (f7 : n0 ≤ a1) :
    Meets l y16 prog_37_method_4_code 4 none ws ({ frames := 0, cells := 0, slots := 0, locals := 0 } : Room) ({ frames := 0, cells := 0, slots := 0, locals := 0 } : Room).cells ({ frames := 0, cells := 0, slots := 0, locals := 0 } : Room).slots Z #[(.ref a1)] h0 n0 (Q16e Z a1 pa kp lf nx h0 n0) := by
  refine Meets.of (F := fun m => mkF m 0 #[.val (.ref a1), .unset, .unset, .unset] []) (plainFor_of_name pn_6) (fun m => ef_16e m a1) ?_
  intro p e s m below meth c T0 hx hby hml hown0 hnm hret hlk hZ X0 e0
  have hown : s.vm.findClass cW = some m.cls := hown0
  have N0 := Fr.nil n0
  have KC0 := Keep.refl h0 [a1]
  show Goes _ _ _ _ _ _ (T0.setTop (mkF m 0 #[.val (.ref a1), .unset, .unset, .unset] []))
  refine own_aloadN X0 hx (hb hby d16_0) rfl rfl ?_
  refine own_getF X0 hx hZ hown (host := "") (Or.inl (own_w hw 116 rfl)) Via.refl e0 f2 (hb hby d16_1) (fun T1 X1 e1 => ?_)
  refine own_ifnullNo X1 hx (hb hby d16_4) ?_
  refine own_aloadN X1 hx (hb hby d16_7) rfl rfl ?_
  refine own_getF X1 hx hZ hown (host := "") (Or.inl (own_w hw 119 rfl)) Via.refl e1 f3 (hb hby d16_8) (fun T2 X2 e2 => ?_)
  refine own_aloadN X2 hx (hb hby d16_11) rfl rfl ?_
  refine own_getF X2 hx hZ hown (host := "") (Or.inl (own_w hw 116 rfl)) Via.refl e2 f2 (hb hby d16_12) (fun T3 X3 e3 => ?_)
  refine own_getF X3 hx hZ hown (Or.inr (own_w hw 125 rfl)) Via.refl e3 f5 (hb hby d16_15) (fun T4 X4 e4 => ?_)
  refine own_icmpNo X4 hx (hb hby d16_18) (teq (rfl : nx = nx)).2 ?_
  refine own_aloadN X4 hx (hb hby d16_21) rfl rfl ?_
  refine own_getF X4 hx hZ hown (host := "") (Or.inl (own_w hw 111 rfl)) Via.refl e4 f1 (hb hby d16_22) (fun T5 X5 e5 => ?_)
  refine own_alen X5 hx hZ e5 f4 (hb hby d16_25) ?_
  refine own_iconst X5 hx (v := (1 : Int32)) (hb hby d16_26) rfl ?_
  refine own_isub X5 hx (hb hby d16_27) ?_
  rw [show ((0 : Int32) - (1 : Int32)) = (-1 : Int32) by decide]
  refine own_istoreN X5 hx (Ls' := #[.val (.ref a1), .val (.int (-1 : Int32)), .unset, .unset]) (hb hby d16_28) rfl ?_
  refine own_iloadN X5 hx (hb hby d16_29) rfl ?_
  refine own_ifYes X5 hx (pc' := 59) (hb hby d16_30) ((if0 _ _).trans (tlt (by decide : (-1 : Int32) < (0 : Int32))).1) (by decide) (by decide) ?_
  refine own_iloadN X5 hx (hb hby d16_59) rfl ?_
  refine own_ifNo X5 hx (hb hby d16_60) ((if0 _ _).trans (tlt (by decide : (-1 : Int32) < (0 : Int32))).2.1) ?_
  refine own_aloadN X5 hx (hb hby d16_63) rfl rfl ?_
  refine own_aconst_null X5 hx (hb hby d16_64) ?_
  refine own_putF X5 hx hZ hown N0 (host := "") (Or.inl (own_w hw 116 rfl)) Via.refl e5 f2 f0 (Or.inl (own_w hw 117 rfl)) (own_w hw 102 rfl) (ty := (.object cN)) (by decide) rfl rfl f7 (hb hby d16_65) (fun T6 h6 lc6 X6 e6 N6 W6 => ?_)
  have F7_path_a1 := f1.other W6 (Or.inr (slot_ne (Or.inr (own_w hw 112 rfl)) (Or.inl (own_w hw 117 rfl)) (by decide) (t := (.array (.object cN))) (t' := (.object cN)) (by decide) (by decide)))
  have F7_leaf_a1 := f2.same W6
  have F7_next_a1 := f3.other W6 (Or.inr (slot_ne (Or.inl (own_w hw 120 rfl)) (Or.inl (own_w hw 117 rfl)) (by decide) (t := .int) (t' := (.object cN)) (by decide) (by decide)))
  have O7 := O0.wr W6 f7
  have KC7 := KC0.wr W6 (Or.inl (List.mem_of_getElem? (i := 0) rfl))
  show Goes _ _ _ _ _ _ (T6.setTop (mkF m 68 #[.val (.ref a1), .val (.int (-1 : Int32)), .unset, .unset] []))
  exact own_retV X6 hx N6 hlk (by decide) (by decide) hret (hb hby d16_68) (by rw [e6]; exact ⟨rfl, KC7, F7_path_a1, F7_leaf_a1, F7_next_a1⟩)
theorem d16_149 : decode prog_37_method_4_code 149 = .ok (.return_, 1) := by decide +kernel
def Q16n (Z : State) (a1 : Addr) (lf : Addr) (nx : Int32) (sz : Int32) (h0 : Heap) (n0 : Nat) (v : Option Value) (h : Heap) : Prop :=
  (v = none ∧ h = h0)
theorem ef_16n (m : MethodId) (a1 : Addr) : entryFrame m #[(.ref a1)] 4 = mkF m 0 #[.val (.ref a1), .unset, .unset, .unset] [] := by first | (simp [entryFrame, mkF, argsToLocals, Value.category]; done) | rfl
set_option maxRecDepth 65536 in
set_option maxHeartbeats 40000000 in
theorem rm16n (l : Launch) (Z : State) (a0 : Array Value) (hw : ∀ d ∈ tables_1, d.before a0 Z = true) (ws : List Jvm.Cond) (a1 : Addr) (lf : Addr) (nx : Int32) (sz : Int32) (h0 : Heap) (n0 : Nat) (O0 : Old Z n0 h0) (f0 : Fld Z h0 a1 cW "leaf" dN (.ref lf)) (f1 : Fld Z h0 a1 cW "next" "I" (.int nx)) (f2 : Fld Z h0 lf cN "size" "I" (.int sz)) (hns : ¬ (nx = sz)) :
    Meets l y16 prog_37_method_4_code 4 none ws ({ frames := 0, cells := 0, slots := 0, locals := 0 } : Room) ({ frames := 0, cells := 0, slots := 0, locals := 0 } : Room).cells ({ frames := 0, cells := 0, slots := 0, locals := 0 } : Room).slots Z #[(.ref a1)] h0 n0 (Q16n Z a1 lf nx sz h0 n0) := by
  refine Meets.of (F := fun m => mkF m 0 #[.val (.ref a1), .unset, .unset, .unset] []) (plainFor_of_name pn_6) (fun m => ef_16n m a1) ?_
  intro p e s m below meth c T0 hx hby hml hown0 hnm hret hlk hZ X0 e0
  have hown : s.vm.findClass cW = some m.cls := hown0
  have N0 := Fr.nil n0
  show Goes _ _ _ _ _ _ (T0.setTop (mkF m 0 #[.val (.ref a1), .unset, .unset, .unset] []))
  refine own_aloadN X0 hx (hb hby d16_0) rfl rfl ?_
  refine own_getF X0 hx hZ hown (host := "") (Or.inl (own_w hw 116 rfl)) Via.refl e0 f0 (hb hby d16_1) (fun T1 X1 e1 => ?_)
  refine own_ifnullNo X1 hx (hb hby d16_4) ?_
  refine own_aloadN X1 hx (hb hby d16_7) rfl rfl ?_
  refine own_getF X1 hx hZ hown (host := "") (Or.inl (own_w hw 119 rfl)) Via.refl e1 f1 (hb hby d16_8) (fun T2 X2 e2 => ?_)
  refine own_aloadN X2 hx (hb hby d16_11) rfl rfl ?_
  refine own_getF X2 hx hZ hown (host := "") (Or.inl (own_w hw 116 rfl)) Via.refl e2 f0 (hb hby d16_12) (fun T3 X3 e3 => ?_)
  refine own_getF X3 hx hZ hown (Or.inr (own_w hw 125 rfl)) Via.refl e3 f2 (hb hby d16_15) (fun T4 X4 e4 => ?_)
  refine own_icmpYes X4 hx (pc' := 149) (hb hby d16_18) (feq (hns : ¬ (nx = sz))).2 (by decide) (by decide) ?_
  show Goes _ _ _ _ _ _ (T4.setTop (mkF m 149 #[.val (.ref a1), .unset, .unset, .unset] []))
  exact own_retV X4 hx N0 hlk (by decide) (by decide) hret (hb hby d16_149) (by rw [e4]; exact ⟨rfl, rfl⟩)
theorem d17_0 : decode prog_37_method_2_code 0 = .ok (.aload_n 0, 1) := by decide +kernel
theorem d17_1 : decode prog_37_method_2_code 1 = .ok (.getfield 32, 3) := by decide +kernel
theorem d17_4 : decode prog_37_method_2_code 4 = .ok (.ifnull 7, 3) := by decide +kernel
theorem d17_11 : decode prog_37_method_2_code 11 = .ok (.iconst 0, 1) := by decide +kernel
theorem d17_12 : decode prog_37_method_2_code 12 = .ok (.ireturn, 1) := by decide +kernel
def Q17n (Z : State) (a1 : Addr) (h0 : Heap) (n0 : Nat) (v : Option Value) (h : Heap) : Prop :=
  (v = some (.int (0 : Int32)) ∧ h = h0)
theorem ef_17n (m : MethodId) (a1 : Addr) : entryFrame m #[(.ref a1)] 1 = mkF m 0 #[.val (.ref a1)] [] := by first | (simp [entryFrame, mkF, argsToLocals, Value.category]; done) | rfl
set_option maxRecDepth 65536 in
set_option maxHeartbeats 40000000 in
theorem rm17n (l : Launch) (Z : State) (a0 : Array Value) (hw : ∀ d ∈ tables_1, d.before a0 Z = true) (ws : List Jvm.Cond) (a1 : Addr) (h0 : Heap) (n0 : Nat) (O0 : Old Z n0 h0) (f0 : Fld Z h0 a1 cW "leaf" dN .null) :
    Meets l y17 prog_37_method_2_code 1 (some .boolean) ws ({ frames := 0, cells := 0, slots := 0, locals := 0 } : Room) ({ frames := 0, cells := 0, slots := 0, locals := 0 } : Room).cells ({ frames := 0, cells := 0, slots := 0, locals := 0 } : Room).slots Z #[(.ref a1)] h0 n0 (Q17n Z a1 h0 n0) := by
  refine Meets.of (F := fun m => mkF m 0 #[.val (.ref a1)] []) (plainFor_of_name pn_6) (fun m => ef_17n m a1) ?_
  intro p e s m below meth c T0 hx hby hml hown0 hnm hret hlk hZ X0 e0
  have hown : s.vm.findClass cW = some m.cls := hown0
  have N0 := Fr.nil n0
  show Goes _ _ _ _ _ _ (T0.setTop (mkF m 0 #[.val (.ref a1)] []))
  refine own_aloadN X0 hx (hb hby d17_0) rfl rfl ?_
  refine own_getF X0 hx hZ hown (host := "") (Or.inl (own_w hw 116 rfl)) Via.refl e0 f0 (hb hby d17_1) (fun T1 X1 e1 => ?_)
  refine own_ifnullYes X1 hx (pc' := 11) (hb hby d17_4) (by decide) (by decide) ?_
  refine own_iconst X1 hx (v := (0 : Int32)) (hb hby d17_11) rfl ?_
  show Goes _ _ _ _ _ _ (T1.setTop (mkF m 12 #[.val (.ref a1)] [(.int (0 : Int32))]))
  exact own_retN X1 hx (t := .boolean) N0 hlk (by decide) (by decide) hret (by simp) (hb hby d17_12) (by rw [e1]; exact ⟨rfl, rfl⟩)
theorem d17_7 : decode prog_37_method_2_code 7 = .ok (.iconst 1, 1) := by decide +kernel
theorem d17_8 : decode prog_37_method_2_code 8 = .ok (.goto 4, 3) := by decide +kernel
def Q17y (Z : State) (a1 : Addr) (lf : Addr) (h0 : Heap) (n0 : Nat) (v : Option Value) (h : Heap) : Prop :=
  (v = some (.int (1 : Int32)) ∧ h = h0)
theorem ef_17y (m : MethodId) (a1 : Addr) : entryFrame m #[(.ref a1)] 1 = mkF m 0 #[.val (.ref a1)] [] := by first | (simp [entryFrame, mkF, argsToLocals, Value.category]; done) | rfl
set_option maxRecDepth 65536 in
set_option maxHeartbeats 40000000 in
theorem rm17y (l : Launch) (Z : State) (a0 : Array Value) (hw : ∀ d ∈ tables_1, d.before a0 Z = true) (ws : List Jvm.Cond) (a1 : Addr) (lf : Addr) (h0 : Heap) (n0 : Nat) (O0 : Old Z n0 h0) (f0 : Fld Z h0 a1 cW "leaf" dN (.ref lf)) :
    Meets l y17 prog_37_method_2_code 1 (some .boolean) ws ({ frames := 0, cells := 0, slots := 0, locals := 0 } : Room) ({ frames := 0, cells := 0, slots := 0, locals := 0 } : Room).cells ({ frames := 0, cells := 0, slots := 0, locals := 0 } : Room).slots Z #[(.ref a1)] h0 n0 (Q17y Z a1 lf h0 n0) := by
  refine Meets.of (F := fun m => mkF m 0 #[.val (.ref a1)] []) (plainFor_of_name pn_6) (fun m => ef_17y m a1) ?_
  intro p e s m below meth c T0 hx hby hml hown0 hnm hret hlk hZ X0 e0
  have hown : s.vm.findClass cW = some m.cls := hown0
  have N0 := Fr.nil n0
  show Goes _ _ _ _ _ _ (T0.setTop (mkF m 0 #[.val (.ref a1)] []))
  refine own_aloadN X0 hx (hb hby d17_0) rfl rfl ?_
  refine own_getF X0 hx hZ hown (host := "") (Or.inl (own_w hw 116 rfl)) Via.refl e0 f0 (hb hby d17_1) (fun T1 X1 e1 => ?_)
  refine own_ifnullNo X1 hx (hb hby d17_4) ?_
  refine own_iconst X1 hx (v := (1 : Int32)) (hb hby d17_7) rfl ?_
  refine own_goto X1 hx (pc' := 12) (hb hby d17_8) (by decide) (by decide) ?_
  show Goes _ _ _ _ _ _ (T1.setTop (mkF m 12 #[.val (.ref a1)] [(.int (1 : Int32))]))
  exact own_retN X1 hx (t := .boolean) N0 hlk (by decide) (by decide) hret (by simp) (hb hby d17_12) (by rw [e1]; exact ⟨rfl, rfl⟩)
theorem d15_0 : decode prog_37_method_1_code 0 = .ok (.aload_n 0, 1) := by decide +kernel
theorem d15_1 : decode prog_37_method_1_code 1 = .ok (.invokespecial 1, 3) := by decide +kernel
theorem d15_4 : decode prog_37_method_1_code 4 = .ok (.iconst 0, 1) := by decide +kernel
theorem d15_5 : decode prog_37_method_1_code 5 = .ok (.istore 4, 2) := by decide +kernel
theorem d15_7 : decode prog_37_method_1_code 7 = .ok (.aload_n 1, 1) := by decide +kernel
theorem d15_8 : decode prog_37_method_1_code 8 = .ok (.astore 5, 2) := by decide +kernel
theorem d15_10 : decode prog_37_method_1_code 10 = .ok (.aload 5, 2) := by decide +kernel
theorem d15_12 : decode prog_37_method_1_code 12 = .ok (.invokevirtual 7, 3) := by decide +kernel
theorem d15_15 : decode prog_37_method_1_code 15 = .ok (.ifCond .ne 18, 3) := by decide +kernel
theorem d15_33 : decode prog_37_method_1_code 33 = .ok (.aload_n 0, 1) := by decide +kernel
theorem d15_34 : decode prog_37_method_1_code 34 = .ok (.iload 4, 2) := by decide +kernel
theorem d15_36 : decode prog_37_method_1_code 36 = .ok (.anewarray 8, 3) := by decide +kernel
theorem d15_39 : decode prog_37_method_1_code 39 = .ok (.putfield 17, 3) := by decide +kernel
theorem d15_42 : decode prog_37_method_1_code 42 = .ok (.aload_n 0, 1) := by decide +kernel
theorem d15_43 : decode prog_37_method_1_code 43 = .ok (.iload 4, 2) := by decide +kernel
theorem d15_45 : decode prog_37_method_1_code 45 = .ok (.newarray .int, 2) := by decide +kernel
theorem d15_47 : decode prog_37_method_1_code 47 = .ok (.putfield 22, 3) := by decide +kernel
theorem d15_50 : decode prog_37_method_1_code 50 = .ok (.aload_n 1, 1) := by decide +kernel
theorem d15_51 : decode prog_37_method_1_code 51 = .ok (.astore 5, 2) := by decide +kernel
theorem d15_53 : decode prog_37_method_1_code 53 = .ok (.iconst 0, 1) := by decide +kernel
theorem d15_54 : decode prog_37_method_1_code 54 = .ok (.istore 6, 2) := by decide +kernel
theorem d15_56 : decode prog_37_method_1_code 56 = .ok (.iload 6, 2) := by decide +kernel
theorem d15_58 : decode prog_37_method_1_code 58 = .ok (.iload 4, 2) := by decide +kernel
theorem d15_60 : decode prog_37_method_1_code 60 = .ok (.if_icmp .ge 46, 3) := by decide +kernel
theorem d15_106 : decode prog_37_method_1_code 106 = .ok (.aload_n 0, 1) := by decide +kernel
theorem d15_107 : decode prog_37_method_1_code 107 = .ok (.aload 5, 2) := by decide +kernel
theorem d15_109 : decode prog_37_method_1_code 109 = .ok (.putfield 32, 3) := by decide +kernel
theorem d15_112 : decode prog_37_method_1_code 112 = .ok (.aload_n 0, 1) := by decide +kernel
theorem d15_113 : decode prog_37_method_1_code 113 = .ok (.aload 5, 2) := by decide +kernel
theorem d15_115 : decode prog_37_method_1_code 115 = .ok (.aload_n 2, 1) := by decide +kernel
theorem d15_116 : decode prog_37_method_1_code 116 = .ok (.invokestatic 36, 3) := by decide +kernel
theorem d15_119 : decode prog_37_method_1_code 119 = .ok (.putfield 39, 3) := by decide +kernel
theorem d15_122 : decode prog_37_method_1_code 122 = .ok (.iload_n 3, 1) := by decide +kernel
theorem d15_123 : decode prog_37_method_1_code 123 = .ok (.ifCond .ne 46, 3) := by decide +kernel
theorem d15_169 : decode prog_37_method_1_code 169 = .ok (.aload_n 0, 1) := by decide +kernel
theorem d15_170 : decode prog_37_method_1_code 170 = .ok (.invokevirtual 56, 3) := by decide +kernel
theorem pd_19 : parseMethodDescriptor "()V" = some ⟨[], none⟩ := by decide +kernel
theorem d15_173 : decode prog_37_method_1_code 173 = .ok (.return_, 1) := by decide +kernel
def Q150 (Z : State) (a1 : Addr) (a2 : Addr) (a3 : Addr) (kr : Addr) (kk : ClassId) (cz : ClassId) (h0 : Heap) (n0 : Nat) (v : Option Value) (h : Heap) : Prop :=
  (∃ (pa : Addr) (kp : ClassId), v = none ∧ Keep h0 h [a1] ∧ Exa Z h a1 cW ∧ Fld Z h a1 cW "path" dA (.ref pa) ∧ Fld Z h a1 cW "leaf" dN .null ∧ Fld Z h a1 cW "next" "I" (.int (0 : Int32)) ∧ Arv Z h pa kp (.object cN) (0 : Int32) [] .null)
theorem ef_150 (m : MethodId) (a1 : Addr) (a2 : Addr) (a3 : Addr) : entryFrame m #[(.ref a1), (.ref a2), (.ref a3), (.int (1 : Int32))] 7 = mkF m 0 #[.val (.ref a1), .val (.ref a2), .val (.ref a3), .val (.int (1 : Int32)), .unset, .unset, .unset] [] := by first | (simp [entryFrame, mkF, argsToLocals, Value.category]; done) | rfl
set_option maxRecDepth 65536 in
set_option maxHeartbeats 40000000 in
theorem rm150 (l : Launch) (Z : State) (a0 : Array Value) (hw : ∀ d ∈ tables_1, d.before a0 Z = true) (ws : List Jvm.Cond) (a1 : Addr) (a2 : Addr) (a3 : Addr) (kr : Addr) (kk : ClassId) (cz : ClassId) (h0 : Heap) (n0 : Nat) (O0 : Old Z n0 h0) (f0 : Exa Z h0 a1 cW) (f1 : Fld Z h0 a1 cW "path" dA .null) (f2 : Fld Z h0 a1 cW "at" "[I" .null) (f3 : Fld Z h0 a1 cW "leaf" dN .null) (f4 : Fld Z h0 a1 cW "next" "I" (.int (0 : Int32))) (f5 : n0 ≤ a1) (f6 : Exa Z h0 a2 cN) (f7 : Fld Z h0 a2 cN "keys" "[[B" (.ref kr)) (f8 : Fld Z h0 a2 cN "children" dA .null) (f9 : Fld Z h0 a2 cN "size" "I" (.int (0 : Int32))) (f10 : Arv Z h0 kr kk (.array .byte) (64 : Int32) [.null, .null, .null] .null) (f11 : Arv Z h0 a3 cz .byte (0 : Int32) [] (.int (0 : Int32))) :
    Meets l y15 prog_37_method_1_code 7 none ws ({ frames := 1, cells := 2, slots := 0, locals := 17 } : Room) ({ frames := 1, cells := 2, slots := 0, locals := 17 } : Room).cells ({ frames := 1, cells := 2, slots := 0, locals := 17 } : Room).slots Z #[(.ref a1), (.ref a2), (.ref a3), (.int (1 : Int32))] h0 n0 (Q150 Z a1 a2 a3 kr kk cz h0 n0) := by
  refine Meets.of (F := fun m => mkF m 0 #[.val (.ref a1), .val (.ref a2), .val (.ref a3), .val (.int (1 : Int32)), .unset, .unset, .unset] []) (plainFor_of_name pn_6) (fun m => ef_150 m a1 a2 a3) ?_
  intro p e s m below meth c T0 hx hby hml hown0 hnm hret hlk hZ X0 e0
  have hown : s.vm.findClass cW = some m.cls := hown0
  have N0 := Fr.nil n0
  have KC0 := Keep.refl h0 [a1]
  show Goes _ _ _ _ _ _ (T0.setTop (mkF m 0 #[.val (.ref a1), .val (.ref a2), .val (.ref a3), .val (.int (1 : Int32)), .unset, .unset, .unset] []))
  refine own_aloadN X0 hx (hb hby d15_0) rfl rfl ?_
  refine own_initO X0 hx hZ hown (own_w hw 107 rfl) (own_w hw 8 rfl) (own_w hw 9 rfl) e0 (by rw [hml]; rfl) (hb hby d15_1) (by decide) (W := 0) (Nat.le_of_eq rfl) (by decide) (fun T1 X1 e1 => ?_)
  refine own_iconst X1 hx (v := (0 : Int32)) (hb hby d15_4) rfl ?_
  refine own_istore X1 hx (Ls' := #[.val (.ref a1), .val (.ref a2), .val (.ref a3), .val (.int (1 : Int32)), .val (.int (0 : Int32)), .unset, .unset]) (hb hby d15_5) rfl ?_
  refine own_aloadN X1 hx (hb hby d15_7) rfl rfl ?_
  refine own_astore X1 hx (Ls' := #[.val (.ref a1), .val (.ref a2), .val (.ref a3), .val (.int (1 : Int32)), .val (.int (0 : Int32)), .val (.ref a2), .unset]) (hb hby d15_8) rfl rfl ?_
  refine own_aload X1 hx (hb hby d15_10) rfl rfl ?_
  refine own_privateNest X1 hx hZ hown (y := y8) (own_w hw 108 rfl) (own_w hw 62 rfl) (own_w hw 13 rfl) (own_w hw 63 rfl) (own_w hw 14 rfl) (own_w hw 64 rfl) (a := a2) f6 (by decide) (W := 0) (by decide) (by decide) N0 e1 (by rw [hml]; rfl) (argsL := []) (rest := []) (lenOf pd_8 rfl) (Nat.le_of_eq rfl) (by decide) (by decide) (rm8 l Z a0 hw [] a2 h0 n0 O0 f8) rfl (hb hby d15_12) ?_
  intro v2 T2 lc2 X2 N2 hQ2
  obtain ⟨rfl, e2⟩ := hQ2
  refine own_ifYes X2 hx (pc' := 33) (hb hby d15_15) ((if0 _ _).trans (feq (by decide : ¬ ((1 : Int32) = (0 : Int32)))).2) (by decide) (by decide) ?_
  refine own_aloadN X2 hx (hb hby d15_33) rfl rfl ?_
  refine own_iload X2 hx (hb hby d15_34) rfl ?_
  refine own_newR X2 hx hZ hown (own_w hw 109 rfl) (own_w hw 110 rfl) e2 (hb hby d15_36) (by decide) (cap := 0) (by decide) (by decide) (by decide) (by decide) (fun T3 h3 b3 k3 g3 X3 e3 E3 A3 O3_ => ?_)
  have ne_a1_b3 : a1 ≠ b3 := Nat.ne_of_lt (Nat.lt_of_lt_of_le f0.lt (Nat.le_of_eq g3.symm))
  have ge_b3 : n0 ≤ b3 := Nat.le_trans (own_sz O0) (Nat.le_of_eq g3.symm)
  have sz_b3 : h0.size ≤ b3 := Nat.le_trans KC0.1 (Nat.le_of_eq g3.symm)
  have E4_a1 := f0.ext E3
  have E4_a2 := f6.ext E3
  have F4_path_a1 := f1.ext E3
  have F4_at_a1 := f2.ext E3
  have F4_leaf_a1 := f3.ext E3
  have F4_next_a1 := f4.ext E3
  have F4_keys_a2 := f7.ext E3
  have F4_size_a2 := f9.ext E3
  have A4_kr := f10.ext E3
  have O4 := O0.ext E3
  have KC4 := KC0.ext E3
  have V3 : Arv Z h3 b3 k3 (.object cN) (0 : Int32) [] .null := A3
  refine own_putF X3 hx hZ hown N2 (host := "") (Or.inl (own_w hw 111 rfl)) Via.refl e3 F4_path_a1 E4_a1 (Or.inr ⟨(own_w hw 112 rfl), rfl, hnm⟩) (own_w hw 102 rfl) (ty := (.array (.object cN))) (by decide) rfl rfl f5 (hb hby d15_39) (fun T5 h5 lc5 X5 e5 N5 W5 => ?_)
  have E6_a1 := E4_a1.wr W5
  have E6_a2 := E4_a2.wr W5
  have F6_path_a1 := F4_path_a1.same W5
  have F6_at_a1 := F4_at_a1.other W5 (Or.inr (slot_ne (Or.inr (own_w hw 115 rfl)) (Or.inr (own_w hw 112 rfl)) (by decide) (t := (.array .int)) (t' := (.array (.object cN))) (by decide) (by decide)))
  have F6_leaf_a1 := F4_leaf_a1.other W5 (Or.inr (slot_ne (Or.inl (own_w hw 117 rfl)) (Or.inr (own_w hw 112 rfl)) (by decide) (t := (.object cN)) (t' := (.array (.object cN))) (by decide) (by decide)))
  have F6_next_a1 := F4_next_a1.other W5 (Or.inr (slot_ne (Or.inl (own_w hw 120 rfl)) (Or.inr (own_w hw 112 rfl)) (by decide) (t := .int) (t' := (.array (.object cN))) (by decide) (by decide)))
  have F6_keys_a2 := F4_keys_a2.other W5 (Or.inl (ne_exa E4_a2 E4_a1 (by decide)))
  have F6_size_a2 := F4_size_a2.other W5 (Or.inl (ne_exa E4_a2 E4_a1 (by decide)))
  have A6_kr := A4_kr.other W5 (Ne.symm (Exa.neArv E4_a1 A4_kr (own_w hw 102 rfl)))
  have A6_b3 := V3.other W5 (Ne.symm ne_a1_b3)
  have O6 := O4.wr W5 f5
  have KC6 := KC4.wr W5 (Or.inl (List.mem_of_getElem? (i := 0) rfl))
  refine own_aloadN X5 hx (hb hby d15_42) rfl rfl ?_
  refine own_iload X5 hx (hb hby d15_43) rfl ?_
  refine own_newP X5 hx hZ (own_w hw 113 rfl) e5 (hb hby d15_45) (by decide) (cap := 0) (by decide) (by decide) (by decide) (by decide) (fun T7 h7 b7 k7 g7 X7 e7 E7 A7 => ?_)
  have ge_b7 : n0 ≤ b7 := Nat.le_trans (own_sz O6) (Nat.le_of_eq g7.symm)
  have sz_b7 : h0.size ≤ b7 := Nat.le_trans KC6.1 (Nat.le_of_eq g7.symm)
  have E8_a1 := E6_a1.ext E7
  have E8_a2 := E6_a2.ext E7
  have F8_path_a1 := F6_path_a1.ext E7
  have F8_at_a1 := F6_at_a1.ext E7
  have F8_leaf_a1 := F6_leaf_a1.ext E7
  have F8_next_a1 := F6_next_a1.ext E7
  have F8_keys_a2 := F6_keys_a2.ext E7
  have F8_size_a2 := F6_size_a2.ext E7
  have A8_kr := A6_kr.ext E7
  have A8_b3 := A6_b3.ext E7
  have O8 := O6.ext E7
  have KC8 := KC6.ext E7
  have V7 : Arv Z h7 b7 k7 .int (0 : Int32) [] (.int (0 : Int32)) := A7
  refine own_putF X7 hx hZ hown N5 (host := "") (Or.inl (own_w hw 114 rfl)) Via.refl e7 F8_at_a1 E8_a1 (Or.inr ⟨(own_w hw 115 rfl), rfl, hnm⟩) (own_w hw 102 rfl) (ty := (.array .int)) (by decide) rfl rfl f5 (hb hby d15_47) (fun T9 h9 lc9 X9 e9 N9 W9 => ?_)
  have E10_a1 := E8_a1.wr W9
  have E10_a2 := E8_a2.wr W9
  have F10_path_a1 := F8_path_a1.other W9 (Or.inr (slot_ne (Or.inr (own_w hw 112 rfl)) (Or.inr (own_w hw 115 rfl)) (by decide) (t := (.array (.object cN))) (t' := (.array .int)) (by decide) (by decide)))
  have F10_leaf_a1 := F8_leaf_a1.other W9 (Or.inr (slot_ne (Or.inl (own_w hw 117 rfl)) (Or.inr (own_w hw 115 rfl)) (by decide) (t := (.object cN)) (t' := (.array .int)) (by decide) (by decide)))
  have F10_next_a1 := F8_next_a1.other W9 (Or.inr (slot_ne (Or.inl (own_w hw 120 rfl)) (Or.inr (own_w hw 115 rfl)) (by decide) (t := .int) (t' := (.array .int)) (by decide) (by decide)))
  have F10_keys_a2 := F8_keys_a2.other W9 (Or.inl (ne_exa E8_a2 E8_a1 (by decide)))
  have F10_size_a2 := F8_size_a2.other W9 (Or.inl (ne_exa E8_a2 E8_a1 (by decide)))
  have A10_kr := A8_kr.other W9 (Ne.symm (Exa.neArv E8_a1 A8_kr (own_w hw 102 rfl)))
  have A10_b3 := A8_b3.other W9 (Ne.symm ne_a1_b3)
  have O10 := O8.wr W9 f5
  have KC10 := KC8.wr W9 (Or.inl (List.mem_of_getElem? (i := 0) rfl))
  refine own_aloadN X9 hx (hb hby d15_50) rfl rfl ?_
  refine own_astore X9 hx (Ls' := #[.val (.ref a1), .val (.ref a2), .val (.ref a3), .val (.int (1 : Int32)), .val (.int (0 : Int32)), .val (.ref a2), .unset]) (hb hby d15_51) rfl rfl ?_
  refine own_iconst X9 hx (v := (0 : Int32)) (hb hby d15_53) rfl ?_
  refine own_istore X9 hx (Ls' := #[.val (.ref a1), .val (.ref a2), .val (.ref a3), .val (.int (1 : Int32)), .val (.int (0 : Int32)), .val (.ref a2), .val (.int (0 : Int32))]) (hb hby d15_54) rfl ?_
  refine own_iload X9 hx (hb hby d15_56) rfl ?_
  refine own_iload X9 hx (hb hby d15_58) rfl ?_
  refine own_icmpYes X9 hx (pc' := 106) (hb hby d15_60) (flt (by decide : ¬ ((0 : Int32) < (0 : Int32)))).2.1 (by decide) (by decide) ?_
  refine own_aloadN X9 hx (hb hby d15_106) rfl rfl ?_
  refine own_aload X9 hx (hb hby d15_107) rfl rfl ?_
  refine own_putF X9 hx hZ hown N9 (host := "") (Or.inl (own_w hw 116 rfl)) Via.refl e9 F10_leaf_a1 E10_a1 (Or.inl (own_w hw 117 rfl)) (own_w hw 102 rfl) (ty := (.object cN)) (by decide) rfl rfl f5 (hb hby d15_109) (fun T11 h11 lc11 X11 e11 N11 W11 => ?_)
  have E12_a1 := E10_a1.wr W11
  have E12_a2 := E10_a2.wr W11
  have F12_path_a1 := F10_path_a1.other W11 (Or.inr (slot_ne (Or.inr (own_w hw 112 rfl)) (Or.inl (own_w hw 117 rfl)) (by decide) (t := (.array (.object cN))) (t' := (.object cN)) (by decide) (by decide)))
  have F12_leaf_a1 := F10_leaf_a1.same W11
  have F12_next_a1 := F10_next_a1.other W11 (Or.inr (slot_ne (Or.inl (own_w hw 120 rfl)) (Or.inl (own_w hw 117 rfl)) (by decide) (t := .int) (t' := (.object cN)) (by decide) (by decide)))
  have F12_keys_a2 := F10_keys_a2.other W11 (Or.inl (ne_exa E10_a2 E10_a1 (by decide)))
  have F12_size_a2 := F10_size_a2.other W11 (Or.inl (ne_exa E10_a2 E10_a1 (by decide)))
  have A12_kr := A10_kr.other W11 (Ne.symm (Exa.neArv E10_a1 A10_kr (own_w hw 102 rfl)))
  have A12_b3 := A10_b3.other W11 (Ne.symm ne_a1_b3)
  have O12 := O10.wr W11 f5
  have KC12 := KC10.wr W11 (Or.inl (List.mem_of_getElem? (i := 0) rfl))
  refine own_aloadN X11 hx (hb hby d15_112) rfl rfl ?_
  refine own_aload X11 hx (hb hby d15_113) rfl rfl ?_
  refine own_aloadN X11 hx (hb hby d15_115) rfl rfl ?_
  refine own_callSNest X11 hx hZ hown (y := y9) (own_w hw 118 rfl) (own_w hw 66 rfl) (own_w hw 3 rfl) (own_w hw 67 rfl) (by decide) (W := 1) (by decide) (by decide) N11 e11 (by rw [hml]; rfl) (argsL := [(.ref a2), (.ref a3)]) (rest := [(.ref a1)]) (lenOf pd_9 rfl) (Nat.le_of_eq rfl) (by decide) (by decide) (rm90 l Z a0 hw [] a2 a3 kr kk h11 n0 O12 F12_keys_a2 F12_size_a2 A12_kr) rfl (hb hby d15_116) ?_
  intro v13 T13 lc13 X13 N13 hQ13
  obtain ⟨rfl, e13⟩ := hQ13
  refine own_putF X13 hx hZ hown N13 (host := "") (Or.inl (own_w hw 119 rfl)) Via.refl e13 F12_next_a1 E12_a1 (Or.inl (own_w hw 120 rfl)) (own_w hw 102 rfl) (ty := .int) (by decide) rfl rfl f5 (hb hby d15_119) (fun T14 h14 lc14 X14 e14 N14 W14 => ?_)
  have E15_a1 := E12_a1.wr W14
  have E15_a2 := E12_a2.wr W14
  have F15_path_a1 := F12_path_a1.other W14 (Or.inr (slot_ne (Or.inr (own_w hw 112 rfl)) (Or.inl (own_w hw 120 rfl)) (by decide) (t := (.array (.object cN))) (t' := .int) (by decide) (by decide)))
  have F15_leaf_a1 := F12_leaf_a1.other W14 (Or.inr (slot_ne (Or.inl (own_w hw 117 rfl)) (Or.inl (own_w hw 120 rfl)) (by decide) (t := (.object cN)) (t' := .int) (by decide) (by decide)))
  have F15_next_a1 := F12_next_a1.same W14
  have F15_size_a2 := F12_size_a2.other W14 (Or.inl (ne_exa E12_a2 E12_a1 (by decide)))
  have A15_b3 := A12_b3.other W14 (Ne.symm ne_a1_b3)
  have O15 := O12.wr W14 f5
  have KC15 := KC12.wr W14 (Or.inl (List.mem_of_getElem? (i := 0) rfl))
  refine own_iloadN X14 hx (hb hby d15_122) rfl ?_
  refine own_ifYes X14 hx (pc' := 169) (hb hby d15_123) ((if0 _ _).trans (feq (by decide : ¬ ((1 : Int32) = (0 : Int32)))).2) (by decide) (by decide) ?_
  refine own_aloadN X14 hx (hb hby d15_169) rfl rfl ?_
  refine own_private X14 hx hZ hown (y := y16) (own_w hw 121 rfl) (own_w hw 122 rfl) (own_w hw 102 rfl) (own_w hw 123 rfl) (own_w hw 103 rfl) (own_w hw 124 rfl) (a := a1) E15_a1 (by decide) (W := 0) (by decide) (by decide) N14 e14 (by rw [hml]; rfl) (argsL := []) (rest := []) (lenOf pd_19 rfl) (Nat.le_of_eq rfl) (by decide) (by decide) (rm16e l Z a0 hw [] a1 b3 k3 a2 (0 : Int32) h14 n0 O15 E15_a1 F15_path_a1 F15_leaf_a1 F15_next_a1 A15_b3 F15_size_a2 E15_a2 f5) rfl (hb hby d15_170) ?_
  intro v16 T16 lc16 X16 N16 hQ16
  obtain ⟨rfl, K16, r16_0, r16_1, r16_2⟩ := hQ16
  have E17_a1 := E15_a1.keep K16
  have A17_b3 := A15_b3.keep K16 (ninS (Ne.symm ne_a1_b3) nin0)
  have O17 := O15.keep K16 (allS f5 all0)
  have KC17 := KC15.trans K16 (allS (Or.inl (List.mem_of_getElem? (i := 0) rfl)) all0)
  show Goes _ _ _ _ _ _ (T16.setTop (mkF m 173 #[.val (.ref a1), .val (.ref a2), .val (.ref a3), .val (.int (1 : Int32)), .val (.int (0 : Int32)), .val (.ref a2), .val (.int (0 : Int32))] []))
  exact own_retV X16 hx N16 hlk (by decide) (by decide) hret (hb hby d15_173) (⟨b3, k3, rfl, KC17, E17_a1, r16_0, r16_1, r16_2, A17_b3⟩)
theorem d14_0 : decode prog_35_method_15_code 0 = .ok (.new 103, 3) := by decide +kernel
theorem d14_3 : decode prog_35_method_15_code 3 = .ok (.dup, 1) := by decide +kernel
theorem d14_4 : decode prog_35_method_15_code 4 = .ok (.aload_n 0, 1) := by decide +kernel
theorem d14_5 : decode prog_35_method_15_code 5 = .ok (.getfield 18, 3) := by decide +kernel
theorem d14_8 : decode prog_35_method_15_code 8 = .ok (.aload_n 1, 1) := by decide +kernel
theorem d14_9 : decode prog_35_method_15_code 9 = .ok (.iload_n 2, 1) := by decide +kernel
theorem d14_10 : decode prog_35_method_15_code 10 = .ok (.invokespecial 105, 3) := by decide +kernel
theorem pd_20 : parseMethodDescriptor "(Lcom/example/contention/contention/KeyTree$Node;[BZ)V" = some ⟨[(.object cN), (.array .byte), .boolean], none⟩ := by decide +kernel
theorem d14_13 : decode prog_35_method_15_code 13 = .ok (.areturn, 1) := by decide +kernel
def Q140 (Z : State) (a1 : Addr) (a2 : Addr) (nd : Addr) (kr : Addr) (kk : ClassId) (cz : ClassId) (h0 : Heap) (n0 : Nat) (v : Option Value) (h : Heap) : Prop :=
  (∃ (wk : Addr) (pa : Addr) (kp : ClassId), v = some (.ref wk) ∧ Keep h0 h [] ∧ Exa Z h wk cW ∧ Fld Z h wk cW "path" dA (.ref pa) ∧ Fld Z h wk cW "leaf" dN .null ∧ Fld Z h wk cW "next" "I" (.int (0 : Int32)) ∧ Arv Z h pa kp (.object cN) (0 : Int32) [] .null ∧ h0.size ≤ wk)
theorem ef_140 (m : MethodId) (a1 : Addr) (a2 : Addr) : entryFrame m #[(.ref a1), (.ref a2), (.int (1 : Int32))] 3 = mkF m 0 #[.val (.ref a1), .val (.ref a2), .val (.int (1 : Int32))] [] := by first | (simp [entryFrame, mkF, argsToLocals, Value.category]; done) | rfl
set_option maxRecDepth 65536 in
set_option maxHeartbeats 40000000 in
theorem rm140 (l : Launch) (Z : State) (a0 : Array Value) (hw : ∀ d ∈ tables_1, d.before a0 Z = true) (ws : List Jvm.Cond) (a1 : Addr) (a2 : Addr) (nd : Addr) (kr : Addr) (kk : ClassId) (cz : ClassId) (h0 : Heap) (n0 : Nat) (O0 : Old Z n0 h0) (f0 : Fld Z h0 a1 cT "root" dN (.ref nd)) (f1 : Exa Z h0 nd cN) (f2 : Fld Z h0 nd cN "keys" "[[B" (.ref kr)) (f3 : Fld Z h0 nd cN "children" dA .null) (f4 : Fld Z h0 nd cN "size" "I" (.int (0 : Int32))) (f5 : Arv Z h0 kr kk (.array .byte) (64 : Int32) [.null, .null, .null] .null) (f6 : Arv Z h0 a2 cz .byte (0 : Int32) [] (.int (0 : Int32))) :
    Meets l y14 prog_35_method_15_code 3 (some (.object "java/util/Iterator")) ws ({ frames := 2, cells := 3, slots := 4, locals := 36 } : Room) ({ frames := 2, cells := 3, slots := 4, locals := 36 } : Room).cells ({ frames := 2, cells := 3, slots := 4, locals := 36 } : Room).slots Z #[(.ref a1), (.ref a2), (.int (1 : Int32))] h0 n0 (Q140 Z a1 a2 nd kr kk cz h0 n0) := by
  refine Meets.of (F := fun m => mkF m 0 #[.val (.ref a1), .val (.ref a2), .val (.int (1 : Int32))] []) (plainFor_of_name pn_5) (fun m => ef_140 m a1 a2) ?_
  intro p e s m below meth c T0 hx hby hml hown0 hnm hret hlk hZ X0 e0
  have hown : s.vm.findClass cT = some m.cls := hown0
  have N0 := Fr.nil n0
  have KC0 := Keep.refl h0 []
  show Goes _ _ _ _ _ _ (T0.setTop (mkF m 0 #[.val (.ref a1), .val (.ref a2), .val (.int (1 : Int32))] []))
  refine own_new X0 hx hZ hown (own_w hw 101 rfl) (own_w hw 102 rfl) (own_w hw 103 rfl) e0 (hb hby d14_0) (by decide) (by decide) (fun T1 h1 b1 g1 X1 e1 E1 A1 D1 => ?_)
  have ge_b1 : n0 ≤ b1 := Nat.le_trans (own_sz O0) (Nat.le_of_eq g1.symm)
  have sz_b1 : h0.size ≤ b1 := Nat.le_trans KC0.1 (Nat.le_of_eq g1.symm)
  have E2_nd := f1.ext E1
  have F2_root_a1 := f0.ext E1
  have F2_keys_nd := f2.ext E1
  have F2_children_nd := f3.ext E1
  have F2_size_nd := f4.ext E1
  have A2_kr := f5.ext E1
  have A2_a2 := f6.ext E1
  have O2 := O0.ext E1
  have KC2 := KC0.ext E1
  have F1_path_b1 : Fld Z h1 b1 cW "path" dA .null := D1 (Or.inr (own_w hw 112 rfl)) (ty := (.array (.object cN))) (by decide)
  have F1_at_b1 : Fld Z h1 b1 cW "at" "[I" .null := D1 (Or.inr (own_w hw 115 rfl)) (ty := (.array .int)) (by decide)
  have F1_leaf_b1 : Fld Z h1 b1 cW "leaf" dN .null := D1 (Or.inl (own_w hw 117 rfl)) (ty := (.object cN)) (by decide)
  have F1_next_b1 : Fld Z h1 b1 cW "next" "I" (.int (0 : Int32)) := D1 (Or.inl (own_w hw 120 rfl)) (ty := .int) (by decide)
  refine own_dup X1 hx (hb hby d14_3) rfl ?_
  refine own_aloadN X1 hx (hb hby d14_4) rfl rfl ?_
  refine own_getF X1 hx hZ hown (host := "") (Or.inl (own_w hw 27 rfl)) Via.refl e1 F2_root_a1 (hb hby d14_5) (fun T3 X3 e3 => ?_)
  refine own_aloadN X3 hx (hb hby d14_8) rfl rfl ?_
  refine own_iloadN X3 hx (hb hby d14_9) rfl ?_
  refine own_specialR X3 hx hZ hown (y := y15) rfl (own_w hw 104 rfl) (own_w hw 105 rfl) (own_w hw 103 rfl) (own_w hw 106 rfl) (a := b1) (by decide) (W := 1) (by decide) (by decide) N0 e3 (by rw [hml]; rfl) (argsL := [(.ref nd), (.ref a2), (.int (1 : Int32))]) (rest := [(.ref b1)]) (lenOf pd_20 rfl) (Nat.le_of_eq rfl) (by decide) (by decide) (rm150 l Z a0 hw [] b1 nd a2 kr kk cz h1 n0 O2 A1 F1_path_b1 F1_at_b1 F1_leaf_b1 F1_next_b1 ge_b1 E2_nd F2_keys_nd F2_children_nd F2_size_nd A2_kr A2_a2) rfl (hb hby d14_10) ?_
  intro v4 T4 lc4 X4 N4 hQ4
  obtain ⟨pa_4, kp_4, rfl, K4, r4_0, r4_1, r4_2, r4_3, r4_4⟩ := hQ4
  have O5 := O2.keep K4 (allS ge_b1 all0)
  have KC5 := KC2.trans K4 (allS (Or.inr sz_b1) all0)
  show Goes _ _ _ _ _ _ (T4.setTop (mkF m 13 #[.val (.ref a1), .val (.ref a2), .val (.int (1 : Int32))] [(.ref b1)]))
  exact own_retR X4 hx N4 hlk (by decide) (by decide) hret rfl rfl rfl (hb hby d14_13) (⟨b1, pa_4, kp_4, rfl, KC5, r4_0, r4_1, r4_2, r4_3, r4_4, sz_b1⟩)
def Q151 (Z : State) (a1 : Addr) (a2 : Addr) (a3 : Addr) (kr : Addr) (k0 : Addr) (kk : ClassId) (cz : ClassId) (x : Int32) (c0 : ClassId) (h0 : Heap) (n0 : Nat) (v : Option Value) (h : Heap) : Prop :=
  (∃ (pa : Addr) (kp : ClassId), v = none ∧ Keep h0 h [a1] ∧ Exa Z h a1 cW ∧ Fld Z h a1 cW "path" dA (.ref pa) ∧ Fld Z h a1 cW "leaf" dN (.ref a2) ∧ Fld Z h a1 cW "next" "I" (.int (0 : Int32)) ∧ Arv Z h pa kp (.object cN) (0 : Int32) [] .null)
theorem ef_151 (m : MethodId) (a1 : Addr) (a2 : Addr) (a3 : Addr) : entryFrame m #[(.ref a1), (.ref a2), (.ref a3), (.int (1 : Int32))] 7 = mkF m 0 #[.val (.ref a1), .val (.ref a2), .val (.ref a3), .val (.int (1 : Int32)), .unset, .unset, .unset] [] := by first | (simp [entryFrame, mkF, argsToLocals, Value.category]; done) | rfl
set_option maxRecDepth 65536 in
set_option maxHeartbeats 40000000 in
theorem rm151 (l : Launch) (Z : State) (a0 : Array Value) (hw : ∀ d ∈ tables_1, d.before a0 Z = true) (ws : List Jvm.Cond) (a1 : Addr) (a2 : Addr) (a3 : Addr) (kr : Addr) (k0 : Addr) (kk : ClassId) (cz : ClassId) (x : Int32) (c0 : ClassId) (h0 : Heap) (n0 : Nat) (O0 : Old Z n0 h0) (f0 : Exa Z h0 a1 cW) (f1 : Fld Z h0 a1 cW "path" dA .null) (f2 : Fld Z h0 a1 cW "at" "[I" .null) (f3 : Fld Z h0 a1 cW "leaf" dN .null) (f4 : Fld Z h0 a1 cW "next" "I" (.int (0 : Int32))) (f5 : n0 ≤ a1) (f6 : Exa Z h0 a2 cN) (f7 : Fld Z h0 a2 cN "keys" "[[B" (.ref kr)) (f8 : Fld Z h0 a2 cN "children" dA .null) (f9 : Fld Z h0 a2 cN "size" "I" (.int (1 : Int32))) (f10 : Arv Z h0 kr kk (.array .byte) (64 : Int32) [(.ref k0), .null, .null] .null) (f11 : Arv Z h0 k0 c0 .byte (1 : Int32) [(.int x)] (.int (0 : Int32))) (f12 : Arv Z h0 a3 cz .byte (0 : Int32) [] (.int (0 : Int32))) (f13 : k0 ≠ a3) :
    Meets l y15 prog_37_method_1_code 7 none ws ({ frames := 3, cells := 2, slots := 0, locals := 46 } : Room) ({ frames := 3, cells := 2, slots := 0, locals := 46 } : Room).cells ({ frames := 3, cells := 2, slots := 0, locals := 46 } : Room).slots Z #[(.ref a1), (.ref a2), (.ref a3), (.int (1 : Int32))] h0 n0 (Q151 Z a1 a2 a3 kr k0 kk cz x c0 h0 n0) := by
  refine Meets.of (F := fun m => mkF m 0 #[.val (.ref a1), .val (.ref a2), .val (.ref a3), .val (.int (1 : Int32)), .unset, .unset, .unset] []) (plainFor_of_name pn_6) (fun m => ef_151 m a1 a2 a3) ?_
  intro p e s m below meth c T0 hx hby hml hown0 hnm hret hlk hZ X0 e0
  have hown : s.vm.findClass cW = some m.cls := hown0
  have N0 := Fr.nil n0
  have KC0 := Keep.refl h0 [a1]
  show Goes _ _ _ _ _ _ (T0.setTop (mkF m 0 #[.val (.ref a1), .val (.ref a2), .val (.ref a3), .val (.int (1 : Int32)), .unset, .unset, .unset] []))
  refine own_aloadN X0 hx (hb hby d15_0) rfl rfl ?_
  refine own_initO X0 hx hZ hown (own_w hw 107 rfl) (own_w hw 8 rfl) (own_w hw 9 rfl) e0 (by rw [hml]; rfl) (hb hby d15_1) (by decide) (W := 0) (Nat.le_of_eq rfl) (by decide) (fun T1 X1 e1 => ?_)
  refine own_iconst X1 hx (v := (0 : Int32)) (hb hby d15_4) rfl ?_
  refine own_istore X1 hx (Ls' := #[.val (.ref a1), .val (.ref a2), .val (.ref a3), .val (.int (1 : Int32)), .val (.int (0 : Int32)), .unset, .unset]) (hb hby d15_5) rfl ?_
  refine own_aloadN X1 hx (hb hby d15_7) rfl rfl ?_
  refine own_astore X1 hx (Ls' := #[.val (.ref a1), .val (.ref a2), .val (.ref a3), .val (.int (1 : Int32)), .val (.int (0 : Int32)), .val (.ref a2), .unset]) (hb hby d15_8) rfl rfl ?_
  refine own_aload X1 hx (hb hby d15_10) rfl rfl ?_
  refine own_privateNest X1 hx hZ hown (y := y8) (own_w hw 108 rfl) (own_w hw 62 rfl) (own_w hw 13 rfl) (own_w hw 63 rfl) (own_w hw 14 rfl) (own_w hw 64 rfl) (a := a2) f6 (by decide) (W := 0) (by decide) (by decide) N0 e1 (by rw [hml]; rfl) (argsL := []) (rest := []) (lenOf pd_8 rfl) (Nat.le_of_eq rfl) (by decide) (by decide) (rm8 l Z a0 hw [] a2 h0 n0 O0 f8) rfl (hb hby d15_12) ?_
  intro v2 T2 lc2 X2 N2 hQ2
  obtain ⟨rfl, e2⟩ := hQ2
  refine own_ifYes X2 hx (pc' := 33) (hb hby d15_15) ((if0 _ _).trans (feq (by decide : ¬ ((1 : Int32) = (0 : Int32)))).2) (by decide) (by decide) ?_
  refine own_aloadN X2 hx (hb hby d15_33) rfl rfl ?_
  refine own_iload X2 hx (hb hby d15_34) rfl ?_
  refine own_newR X2 hx hZ hown (own_w hw 109 rfl) (own_w hw 110 rfl) e2 (hb hby d15_36) (by decide) (cap := 0) (by decide) (by decide) (by decide) (by decide) (fun T3 h3 b3 k3 g3 X3 e3 E3 A3 O3_ => ?_)
  have ne_a1_b3 : a1 ≠ b3 := Nat.ne_of_lt (Nat.lt_of_lt_of_le f0.lt (Nat.le_of_eq g3.symm))
  have ge_b3 : n0 ≤ b3 := Nat.le_trans (own_sz O0) (Nat.le_of_eq g3.symm)
  have sz_b3 : h0.size ≤ b3 := Nat.le_trans KC0.1 (Nat.le_of_eq g3.symm)
  have E4_a1 := f0.ext E3
  have E4_a2 := f6.ext E3
  have F4_path_a1 := f1.ext E3
  have F4_at_a1 := f2.ext E3
  have F4_leaf_a1 := f3.ext E3
  have F4_next_a1 := f4.ext E3
  have F4_keys_a2 := f7.ext E3
  have F4_size_a2 := f9.ext E3
  have A4_kr := f10.ext E3
  have A4_k0 := f11.ext E3
  have A4_a3 := f12.ext E3
  have O4 := O0.ext E3
  have KC4 := KC0.ext E3
  have V3 : Arv Z h3 b3 k3 (.object cN) (0 : Int32) [] .null := A3
  refine own_putF X3 hx hZ hown N2 (host := "") (Or.inl (own_w hw 111 rfl)) Via.refl e3 F4_path_a1 E4_a1 (Or.inr ⟨(own_w hw 112 rfl), rfl, hnm⟩) (own_w hw 102 rfl) (ty := (.array (.object cN))) (by decide) rfl rfl f5 (hb hby d15_39) (fun T5 h5 lc5 X5 e5 N5 W5 => ?_)
  have E6_a1 := E4_a1.wr W5
  have E6_a2 := E4_a2.wr W5
  have F6_path_a1 := F4_path_a1.same W5
  have F6_at_a1 := F4_at_a1.other W5 (Or.inr (slot_ne (Or.inr (own_w hw 115 rfl)) (Or.inr (own_w hw 112 rfl)) (by decide) (t := (.array .int)) (t' := (.array (.object cN))) (by decide) (by decide)))
  have F6_leaf_a1 := F4_leaf_a1.other W5 (Or.inr (slot_ne (Or.inl (own_w hw 117 rfl)) (Or.inr (own_w hw 112 rfl)) (by decide) (t := (.object cN)) (t' := (.array (.object cN))) (by decide) (by decide)))
  have F6_next_a1 := F4_next_a1.other W5 (Or.inr (slot_ne (Or.inl (own_w hw 120 rfl)) (Or.inr (own_w hw 112 rfl)) (by decide) (t := .int) (t' := (.array (.object cN))) (by decide) (by decide)))
  have F6_keys_a2 := F4_keys_a2.other W5 (Or.inl (ne_exa E4_a2 E4_a1 (by decide)))
  have F6_size_a2 := F4_size_a2.other W5 (Or.inl (ne_exa E4_a2 E4_a1 (by decide)))
  have A6_kr := A4_kr.other W5 (Ne.symm (Exa.neArv E4_a1 A4_kr (own_w hw 102 rfl)))
  have A6_k0 := A4_k0.other W5 (Ne.symm (Exa.neArv E4_a1 A4_k0 (own_w hw 102 rfl)))
  have A6_a3 := A4_a3.other W5 (Ne.symm (Exa.neArv E4_a1 A4_a3 (own_w hw 102 rfl)))
  have A6_b3 := V3.other W5 (Ne.symm ne_a1_b3)
  have O6 := O4.wr W5 f5
  have KC6 := KC4.wr W5 (Or.inl (List.mem_of_getElem? (i := 0) rfl))
  refine own_aloadN X5 hx (hb hby d15_42) rfl rfl ?_
  refine own_iload X5 hx (hb hby d15_43) rfl ?_
  refine own_newP X5 hx hZ (own_w hw 113 rfl) e5 (hb hby d15_45) (by decide) (cap := 0) (by decide) (by decide) (by decide) (by decide) (fun T7 h7 b7 k7 g7 X7 e7 E7 A7 => ?_)
  have ge_b7 : n0 ≤ b7 := Nat.le_trans (own_sz O6) (Nat.le_of_eq g7.symm)
  have sz_b7 : h0.size ≤ b7 := Nat.le_trans KC6.1 (Nat.le_of_eq g7.symm)
  have E8_a1 := E6_a1.ext E7
  have E8_a2 := E6_a2.ext E7
  have F8_path_a1 := F6_path_a1.ext E7
  have F8_at_a1 := F6_at_a1.ext E7
  have F8_leaf_a1 := F6_leaf_a1.ext E7
  have F8_next_a1 := F6_next_a1.ext E7
  have F8_keys_a2 := F6_keys_a2.ext E7
  have F8_size_a2 := F6_size_a2.ext E7
  have A8_kr := A6_kr.ext E7
  have A8_k0 := A6_k0.ext E7
  have A8_a3 := A6_a3.ext E7
  have A8_b3 := A6_b3.ext E7
  have O8 := O6.ext E7
  have KC8 := KC6.ext E7
  have V7 : Arv Z h7 b7 k7 .int (0 : Int32) [] (.int (0 : Int32)) := A7
  refine own_putF X7 hx hZ hown N5 (host := "") (Or.inl (own_w hw 114 rfl)) Via.refl e7 F8_at_a1 E8_a1 (Or.inr ⟨(own_w hw 115 rfl), rfl, hnm⟩) (own_w hw 102 rfl) (ty := (.array .int)) (by decide) rfl rfl f5 (hb hby d15_47) (fun T9 h9 lc9 X9 e9 N9 W9 => ?_)
  have E10_a1 := E8_a1.wr W9
  have E10_a2 := E8_a2.wr W9
  have F10_path_a1 := F8_path_a1.other W9 (Or.inr (slot_ne (Or.inr (own_w hw 112 rfl)) (Or.inr (own_w hw 115 rfl)) (by decide) (t := (.array (.object cN))) (t' := (.array .int)) (by decide) (by decide)))
  have F10_leaf_a1 := F8_leaf_a1.other W9 (Or.inr (slot_ne (Or.inl (own_w hw 117 rfl)) (Or.inr (own_w hw 115 rfl)) (by decide) (t := (.object cN)) (t' := (.array .int)) (by decide) (by decide)))
  have F10_next_a1 := F8_next_a1.other W9 (Or.inr (slot_ne (Or.inl (own_w hw 120 rfl)) (Or.inr (own_w hw 115 rfl)) (by decide) (t := .int) (t' := (.array .int)) (by decide) (by decide)))
  have F10_keys_a2 := F8_keys_a2.other W9 (Or.inl (ne_exa E8_a2 E8_a1 (by decide)))
  have F10_size_a2 := F8_size_a2.other W9 (Or.inl (ne_exa E8_a2 E8_a1 (by decide)))
  have A10_kr := A8_kr.other W9 (Ne.symm (Exa.neArv E8_a1 A8_kr (own_w hw 102 rfl)))
  have A10_k0 := A8_k0.other W9 (Ne.symm (Exa.neArv E8_a1 A8_k0 (own_w hw 102 rfl)))
  have A10_a3 := A8_a3.other W9 (Ne.symm (Exa.neArv E8_a1 A8_a3 (own_w hw 102 rfl)))
  have A10_b3 := A8_b3.other W9 (Ne.symm ne_a1_b3)
  have O10 := O8.wr W9 f5
  have KC10 := KC8.wr W9 (Or.inl (List.mem_of_getElem? (i := 0) rfl))
  refine own_aloadN X9 hx (hb hby d15_50) rfl rfl ?_
  refine own_astore X9 hx (Ls' := #[.val (.ref a1), .val (.ref a2), .val (.ref a3), .val (.int (1 : Int32)), .val (.int (0 : Int32)), .val (.ref a2), .unset]) (hb hby d15_51) rfl rfl ?_
  refine own_iconst X9 hx (v := (0 : Int32)) (hb hby d15_53) rfl ?_
  refine own_istore X9 hx (Ls' := #[.val (.ref a1), .val (.ref a2), .val (.ref a3), .val (.int (1 : Int32)), .val (.int (0 : Int32)), .val (.ref a2), .val (.int (0 : Int32))]) (hb hby d15_54) rfl ?_
  refine own_iload X9 hx (hb hby d15_56) rfl ?_
  refine own_iload X9 hx (hb hby d15_58) rfl ?_
  refine own_icmpYes X9 hx (pc' := 106) (hb hby d15_60) (flt (by decide : ¬ ((0 : Int32) < (0 : Int32)))).2.1 (by decide) (by decide) ?_
  refine own_aloadN X9 hx (hb hby d15_106) rfl rfl ?_
  refine own_aload X9 hx (hb hby d15_107) rfl rfl ?_
  refine own_putF X9 hx hZ hown N9 (host := "") (Or.inl (own_w hw 116 rfl)) Via.refl e9 F10_leaf_a1 E10_a1 (Or.inl (own_w hw 117 rfl)) (own_w hw 102 rfl) (ty := (.object cN)) (by decide) rfl rfl f5 (hb hby d15_109) (fun T11 h11 lc11 X11 e11 N11 W11 => ?_)
  have E12_a1 := E10_a1.wr W11
  have E12_a2 := E10_a2.wr W11
  have F12_path_a1 := F10_path_a1.other W11 (Or.inr (slot_ne (Or.inr (own_w hw 112 rfl)) (Or.inl (own_w hw 117 rfl)) (by decide) (t := (.array (.object cN))) (t' := (.object cN)) (by decide) (by decide)))
  have F12_leaf_a1 := F10_leaf_a1.same W11
  have F12_next_a1 := F10_next_a1.other W11 (Or.inr (slot_ne (Or.inl (own_w hw 120 rfl)) (Or.inl (own_w hw 117 rfl)) (by decide) (t := .int) (t' := (.object cN)) (by decide) (by decide)))
  have F12_keys_a2 := F10_keys_a2.other W11 (Or.inl (ne_exa E10_a2 E10_a1 (by decide)))
  have F12_size_a2 := F10_size_a2.other W11 (Or.inl (ne_exa E10_a2 E10_a1 (by decide)))
  have A12_kr := A10_kr.other W11 (Ne.symm (Exa.neArv E10_a1 A10_kr (own_w hw 102 rfl)))
  have A12_k0 := A10_k0.other W11 (Ne.symm (Exa.neArv E10_a1 A10_k0 (own_w hw 102 rfl)))
  have A12_a3 := A10_a3.other W11 (Ne.symm (Exa.neArv E10_a1 A10_a3 (own_w hw 102 rfl)))
  have A12_b3 := A10_b3.other W11 (Ne.symm ne_a1_b3)
  have O12 := O10.wr W11 f5
  have KC12 := KC10.wr W11 (Or.inl (List.mem_of_getElem? (i := 0) rfl))
  refine own_aloadN X11 hx (hb hby d15_112) rfl rfl ?_
  refine own_aload X11 hx (hb hby d15_113) rfl rfl ?_
  refine own_aloadN X11 hx (hb hby d15_115) rfl rfl ?_
  refine own_callSNest X11 hx hZ hown (y := y9) (own_w hw 118 rfl) (own_w hw 66 rfl) (own_w hw 3 rfl) (own_w hw 67 rfl) (by decide) (W := 1) (by decide) (by decide) N11 e11 (by rw [hml]; rfl) (argsL := [(.ref a2), (.ref a3)]) (rest := [(.ref a1)]) (lenOf pd_9 rfl) (Nat.le_of_eq rfl) (by decide) (by decide) (rm910 l Z a0 hw [] a2 a3 kr kk k0 x c0 cz h11 n0 O12 F12_keys_a2 F12_size_a2 A12_kr A12_k0 A12_a3 f13) rfl (hb hby d15_116) ?_
  intro v13 T13 lc13 X13 N13 hQ13
  obtain ⟨rfl, e13⟩ := hQ13
  refine own_putF X13 hx hZ hown N13 (host := "") (Or.inl (own_w hw 119 rfl)) Via.refl e13 F12_next_a1 E12_a1 (Or.inl (own_w hw 120 rfl)) (own_w hw 102 rfl) (ty := .int) (by decide) rfl rfl f5 (hb hby d15_119) (fun T14 h14 lc14 X14 e14 N14 W14 => ?_)
  have E15_a1 := E12_a1.wr W14
  have F15_path_a1 := F12_path_a1.other W14 (Or.inr (slot_ne (Or.inr (own_w hw 112 rfl)) (Or.inl (own_w hw 120 rfl)) (by decide) (t := (.array (.object cN))) (t' := .int) (by decide) (by decide)))
  have F15_leaf_a1 := F12_leaf_a1.other W14 (Or.inr (slot_ne (Or.inl (own_w hw 117 rfl)) (Or.inl (own_w hw 120 rfl)) (by decide) (t := (.object cN)) (t' := .int) (by decide) (by decide)))
  have F15_next_a1 := F12_next_a1.same W14
  have F15_size_a2 := F12_size_a2.other W14 (Or.inl (ne_exa E12_a2 E12_a1 (by decide)))
  have A15_b3 := A12_b3.other W14 (Ne.symm ne_a1_b3)
  have O15 := O12.wr W14 f5
  have KC15 := KC12.wr W14 (Or.inl (List.mem_of_getElem? (i := 0) rfl))
  refine own_iloadN X14 hx (hb hby d15_122) rfl ?_
  refine own_ifYes X14 hx (pc' := 169) (hb hby d15_123) ((if0 _ _).trans (feq (by decide : ¬ ((1 : Int32) = (0 : Int32)))).2) (by decide) (by decide) ?_
  refine own_aloadN X14 hx (hb hby d15_169) rfl rfl ?_
  refine own_private X14 hx hZ hown (y := y16) (own_w hw 121 rfl) (own_w hw 122 rfl) (own_w hw 102 rfl) (own_w hw 123 rfl) (own_w hw 103 rfl) (own_w hw 124 rfl) (a := a1) E15_a1 (by decide) (W := 0) (by decide) (by decide) N14 e14 (by rw [hml]; rfl) (argsL := []) (rest := []) (lenOf pd_19 rfl) (Nat.le_of_eq rfl) (by decide) (by decide) (rm16n l Z a0 hw [] a1 a2 (0 : Int32) (1 : Int32) h14 n0 O15 F15_leaf_a1 F15_next_a1 F15_size_a2 (by first | assumption | decide | exact ⟨rfl, rfl⟩)) rfl (hb hby d15_170) ?_
  intro v16 T16 lc16 X16 N16 hQ16
  obtain ⟨rfl, e16⟩ := hQ16
  show Goes _ _ _ _ _ _ (T16.setTop (mkF m 173 #[.val (.ref a1), .val (.ref a2), .val (.ref a3), .val (.int (1 : Int32)), .val (.int (0 : Int32)), .val (.ref a2), .val (.int (0 : Int32))] []))
  exact own_retV X16 hx N16 hlk (by decide) (by decide) hret (hb hby d15_173) (by rw [e16]; exact ⟨b3, k3, rfl, KC15, E15_a1, F15_path_a1, F15_leaf_a1, F15_next_a1, A15_b3⟩)
def Q141 (Z : State) (a1 : Addr) (a2 : Addr) (nd : Addr) (kr : Addr) (k0 : Addr) (kk : ClassId) (cz : ClassId) (x : Int32) (c0 : ClassId) (h0 : Heap) (n0 : Nat) (v : Option Value) (h : Heap) : Prop :=
  (∃ (wk : Addr) (pa : Addr) (kp : ClassId), v = some (.ref wk) ∧ Keep h0 h [] ∧ Exa Z h wk cW ∧ Fld Z h wk cW "path" dA (.ref pa) ∧ Fld Z h wk cW "leaf" dN (.ref nd) ∧ Fld Z h wk cW "next" "I" (.int (0 : Int32)) ∧ Arv Z h pa kp (.object cN) (0 : Int32) [] .null ∧ h0.size ≤ wk)
theorem ef_141 (m : MethodId) (a1 : Addr) (a2 : Addr) : entryFrame m #[(.ref a1), (.ref a2), (.int (1 : Int32))] 3 = mkF m 0 #[.val (.ref a1), .val (.ref a2), .val (.int (1 : Int32))] [] := by first | (simp [entryFrame, mkF, argsToLocals, Value.category]; done) | rfl
set_option maxRecDepth 65536 in
set_option maxHeartbeats 40000000 in
theorem rm141 (l : Launch) (Z : State) (a0 : Array Value) (hw : ∀ d ∈ tables_1, d.before a0 Z = true) (ws : List Jvm.Cond) (a1 : Addr) (a2 : Addr) (nd : Addr) (kr : Addr) (k0 : Addr) (kk : ClassId) (cz : ClassId) (x : Int32) (c0 : ClassId) (h0 : Heap) (n0 : Nat) (O0 : Old Z n0 h0) (f0 : Fld Z h0 a1 cT "root" dN (.ref nd)) (f1 : Exa Z h0 nd cN) (f2 : Fld Z h0 nd cN "keys" "[[B" (.ref kr)) (f3 : Fld Z h0 nd cN "children" dA .null) (f4 : Fld Z h0 nd cN "size" "I" (.int (1 : Int32))) (f5 : Arv Z h0 kr kk (.array .byte) (64 : Int32) [(.ref k0), .null, .null] .null) (f6 : Arv Z h0 k0 c0 .byte (1 : Int32) [(.int x)] (.int (0 : Int32))) (f7 : Arv Z h0 a2 cz .byte (0 : Int32) [] (.int (0 : Int32))) (f8 : k0 ≠ a2) :
    Meets l y14 prog_35_method_15_code 3 (some (.object "java/util/Iterator")) ws ({ frames := 4, cells := 3, slots := 4, locals := 65 } : Room) ({ frames := 4, cells := 3, slots := 4, locals := 65 } : Room).cells ({ frames := 4, cells := 3, slots := 4, locals := 65 } : Room).slots Z #[(.ref a1), (.ref a2), (.int (1 : Int32))] h0 n0 (Q141 Z a1 a2 nd kr k0 kk cz x c0 h0 n0) := by
  refine Meets.of (F := fun m => mkF m 0 #[.val (.ref a1), .val (.ref a2), .val (.int (1 : Int32))] []) (plainFor_of_name pn_5) (fun m => ef_141 m a1 a2) ?_
  intro p e s m below meth c T0 hx hby hml hown0 hnm hret hlk hZ X0 e0
  have hown : s.vm.findClass cT = some m.cls := hown0
  have N0 := Fr.nil n0
  have KC0 := Keep.refl h0 []
  show Goes _ _ _ _ _ _ (T0.setTop (mkF m 0 #[.val (.ref a1), .val (.ref a2), .val (.int (1 : Int32))] []))
  refine own_new X0 hx hZ hown (own_w hw 101 rfl) (own_w hw 102 rfl) (own_w hw 103 rfl) e0 (hb hby d14_0) (by decide) (by decide) (fun T1 h1 b1 g1 X1 e1 E1 A1 D1 => ?_)
  have ge_b1 : n0 ≤ b1 := Nat.le_trans (own_sz O0) (Nat.le_of_eq g1.symm)
  have sz_b1 : h0.size ≤ b1 := Nat.le_trans KC0.1 (Nat.le_of_eq g1.symm)
  have E2_nd := f1.ext E1
  have F2_root_a1 := f0.ext E1
  have F2_keys_nd := f2.ext E1
  have F2_children_nd := f3.ext E1
  have F2_size_nd := f4.ext E1
  have A2_kr := f5.ext E1
  have A2_k0 := f6.ext E1
  have A2_a2 := f7.ext E1
  have O2 := O0.ext E1
  have KC2 := KC0.ext E1
  have F1_path_b1 : Fld Z h1 b1 cW "path" dA .null := D1 (Or.inr (own_w hw 112 rfl)) (ty := (.array (.object cN))) (by decide)
  have F1_at_b1 : Fld Z h1 b1 cW "at" "[I" .null := D1 (Or.inr (own_w hw 115 rfl)) (ty := (.array .int)) (by decide)
  have F1_leaf_b1 : Fld Z h1 b1 cW "leaf" dN .null := D1 (Or.inl (own_w hw 117 rfl)) (ty := (.object cN)) (by decide)
  have F1_next_b1 : Fld Z h1 b1 cW "next" "I" (.int (0 : Int32)) := D1 (Or.inl (own_w hw 120 rfl)) (ty := .int) (by decide)
  refine own_dup X1 hx (hb hby d14_3) rfl ?_
  refine own_aloadN X1 hx (hb hby d14_4) rfl rfl ?_
  refine own_getF X1 hx hZ hown (host := "") (Or.inl (own_w hw 27 rfl)) Via.refl e1 F2_root_a1 (hb hby d14_5) (fun T3 X3 e3 => ?_)
  refine own_aloadN X3 hx (hb hby d14_8) rfl rfl ?_
  refine own_iloadN X3 hx (hb hby d14_9) rfl ?_
  refine own_specialR X3 hx hZ hown (y := y15) rfl (own_w hw 104 rfl) (own_w hw 105 rfl) (own_w hw 103 rfl) (own_w hw 106 rfl) (a := b1) (by decide) (W := 1) (by decide) (by decide) N0 e3 (by rw [hml]; rfl) (argsL := [(.ref nd), (.ref a2), (.int (1 : Int32))]) (rest := [(.ref b1)]) (lenOf pd_20 rfl) (Nat.le_of_eq rfl) (by decide) (by decide) (rm151 l Z a0 hw [] b1 nd a2 kr k0 kk cz x c0 h1 n0 O2 A1 F1_path_b1 F1_at_b1 F1_leaf_b1 F1_next_b1 ge_b1 E2_nd F2_keys_nd F2_children_nd F2_size_nd A2_kr A2_k0 A2_a2 f8) rfl (hb hby d14_10) ?_
  intro v4 T4 lc4 X4 N4 hQ4
  obtain ⟨pa_4, kp_4, rfl, K4, r4_0, r4_1, r4_2, r4_3, r4_4⟩ := hQ4
  have O5 := O2.keep K4 (allS ge_b1 all0)
  have KC5 := KC2.trans K4 (allS (Or.inr sz_b1) all0)
  show Goes _ _ _ _ _ _ (T4.setTop (mkF m 13 #[.val (.ref a1), .val (.ref a2), .val (.int (1 : Int32))] [(.ref b1)]))
  exact own_retR X4 hx N4 hlk (by decide) (by decide) hret rfl rfl rfl (hb hby d14_13) (⟨b1, pa_4, kp_4, rfl, KC5, r4_0, r4_1, r4_2, r4_3, r4_4, sz_b1⟩)
def Q152 (Z : State) (a1 : Addr) (a2 : Addr) (a3 : Addr) (kr : Addr) (k0 : Addr) (k1 : Addr) (kk : ClassId) (cz : ClassId) (x : Int32) (y : Int32) (c0 : ClassId) (c1 : ClassId) (h0 : Heap) (n0 : Nat) (v : Option Value) (h : Heap) : Prop :=
  (∃ (pa : Addr) (kp : ClassId), v = none ∧ Keep h0 h [a1] ∧ Exa Z h a1 cW ∧ Fld Z h a1 cW "path" dA (.ref pa) ∧ Fld Z h a1 cW "leaf" dN (.ref a2) ∧ Fld Z h a1 cW "next" "I" (.int (0 : Int32)) ∧ Arv Z h pa kp (.object cN) (0 : Int32) [] .null)
theorem ef_152 (m : MethodId) (a1 : Addr) (a2 : Addr) (a3 : Addr) : entryFrame m #[(.ref a1), (.ref a2), (.ref a3), (.int (1 : Int32))] 7 = mkF m 0 #[.val (.ref a1), .val (.ref a2), .val (.ref a3), .val (.int (1 : Int32)), .unset, .unset, .unset] [] := by first | (simp [entryFrame, mkF, argsToLocals, Value.category]; done) | rfl
set_option maxRecDepth 65536 in
set_option maxHeartbeats 40000000 in
theorem rm152 (l : Launch) (Z : State) (a0 : Array Value) (hw : ∀ d ∈ tables_1, d.before a0 Z = true) (ws : List Jvm.Cond) (a1 : Addr) (a2 : Addr) (a3 : Addr) (kr : Addr) (k0 : Addr) (k1 : Addr) (kk : ClassId) (cz : ClassId) (x : Int32) (y : Int32) (c0 : ClassId) (c1 : ClassId) (h0 : Heap) (n0 : Nat) (O0 : Old Z n0 h0) (f0 : Exa Z h0 a1 cW) (f1 : Fld Z h0 a1 cW "path" dA .null) (f2 : Fld Z h0 a1 cW "at" "[I" .null) (f3 : Fld Z h0 a1 cW "leaf" dN .null) (f4 : Fld Z h0 a1 cW "next" "I" (.int (0 : Int32))) (f5 : n0 ≤ a1) (f6 : Exa Z h0 a2 cN) (f7 : Fld Z h0 a2 cN "keys" "[[B" (.ref kr)) (f8 : Fld Z h0 a2 cN "children" dA .null) (f9 : Fld Z h0 a2 cN "size" "I" (.int (2 : Int32))) (f10 : Arv Z h0 kr kk (.array .byte) (64 : Int32) [(.ref k0), (.ref k1), .null] .null) (f11 : Arv Z h0 k0 c0 .byte (1 : Int32) [(.int x)] (.int (0 : Int32))) (f12 : Arv Z h0 k1 c1 .byte (1 : Int32) [(.int y)] (.int (0 : Int32))) (f13 : Arv Z h0 a3 cz .byte (0 : Int32) [] (.int (0 : Int32))) (f14 : k0 ≠ a3) (f15 : k1 ≠ a3) :
    Meets l y15 prog_37_method_1_code 7 none ws ({ frames := 3, cells := 2, slots := 0, locals := 46 } : Room) ({ frames := 3, cells := 2, slots := 0, locals := 46 } : Room).cells ({ frames := 3, cells := 2, slots := 0, locals := 46 } : Room).slots Z #[(.ref a1), (.ref a2), (.ref a3), (.int (1 : Int32))] h0 n0 (Q152 Z a1 a2 a3 kr k0 k1 kk cz x y c0 c1 h0 n0) := by
  refine Meets.of (F := fun m => mkF m 0 #[.val (.ref a1), .val (.ref a2), .val (.ref a3), .val (.int (1 : Int32)), .unset, .unset, .unset] []) (plainFor_of_name pn_6) (fun m => ef_152 m a1 a2 a3) ?_
  intro p e s m below meth c T0 hx hby hml hown0 hnm hret hlk hZ X0 e0
  have hown : s.vm.findClass cW = some m.cls := hown0
  have N0 := Fr.nil n0
  have KC0 := Keep.refl h0 [a1]
  show Goes _ _ _ _ _ _ (T0.setTop (mkF m 0 #[.val (.ref a1), .val (.ref a2), .val (.ref a3), .val (.int (1 : Int32)), .unset, .unset, .unset] []))
  refine own_aloadN X0 hx (hb hby d15_0) rfl rfl ?_
  refine own_initO X0 hx hZ hown (own_w hw 107 rfl) (own_w hw 8 rfl) (own_w hw 9 rfl) e0 (by rw [hml]; rfl) (hb hby d15_1) (by decide) (W := 0) (Nat.le_of_eq rfl) (by decide) (fun T1 X1 e1 => ?_)
  refine own_iconst X1 hx (v := (0 : Int32)) (hb hby d15_4) rfl ?_
  refine own_istore X1 hx (Ls' := #[.val (.ref a1), .val (.ref a2), .val (.ref a3), .val (.int (1 : Int32)), .val (.int (0 : Int32)), .unset, .unset]) (hb hby d15_5) rfl ?_
  refine own_aloadN X1 hx (hb hby d15_7) rfl rfl ?_
  refine own_astore X1 hx (Ls' := #[.val (.ref a1), .val (.ref a2), .val (.ref a3), .val (.int (1 : Int32)), .val (.int (0 : Int32)), .val (.ref a2), .unset]) (hb hby d15_8) rfl rfl ?_
  refine own_aload X1 hx (hb hby d15_10) rfl rfl ?_
  refine own_privateNest X1 hx hZ hown (y := y8) (own_w hw 108 rfl) (own_w hw 62 rfl) (own_w hw 13 rfl) (own_w hw 63 rfl) (own_w hw 14 rfl) (own_w hw 64 rfl) (a := a2) f6 (by decide) (W := 0) (by decide) (by decide) N0 e1 (by rw [hml]; rfl) (argsL := []) (rest := []) (lenOf pd_8 rfl) (Nat.le_of_eq rfl) (by decide) (by decide) (rm8 l Z a0 hw [] a2 h0 n0 O0 f8) rfl (hb hby d15_12) ?_
  intro v2 T2 lc2 X2 N2 hQ2
  obtain ⟨rfl, e2⟩ := hQ2
  refine own_ifYes X2 hx (pc' := 33) (hb hby d15_15) ((if0 _ _).trans (feq (by decide : ¬ ((1 : Int32) = (0 : Int32)))).2) (by decide) (by decide) ?_
  refine own_aloadN X2 hx (hb hby d15_33) rfl rfl ?_
  refine own_iload X2 hx (hb hby d15_34) rfl ?_
  refine own_newR X2 hx hZ hown (own_w hw 109 rfl) (own_w hw 110 rfl) e2 (hb hby d15_36) (by decide) (cap := 0) (by decide) (by decide) (by decide) (by decide) (fun T3 h3 b3 k3 g3 X3 e3 E3 A3 O3_ => ?_)
  have ne_a1_b3 : a1 ≠ b3 := Nat.ne_of_lt (Nat.lt_of_lt_of_le f0.lt (Nat.le_of_eq g3.symm))
  have ge_b3 : n0 ≤ b3 := Nat.le_trans (own_sz O0) (Nat.le_of_eq g3.symm)
  have sz_b3 : h0.size ≤ b3 := Nat.le_trans KC0.1 (Nat.le_of_eq g3.symm)
  have E4_a1 := f0.ext E3
  have E4_a2 := f6.ext E3
  have F4_path_a1 := f1.ext E3
  have F4_at_a1 := f2.ext E3
  have F4_leaf_a1 := f3.ext E3
  have F4_next_a1 := f4.ext E3
  have F4_keys_a2 := f7.ext E3
  have F4_size_a2 := f9.ext E3
  have A4_kr := f10.ext E3
  have A4_k0 := f11.ext E3
  have A4_k1 := f12.ext E3
  have A4_a3 := f13.ext E3
  have O4 := O0.ext E3
  have KC4 := KC0.ext E3
  have V3 : Arv Z h3 b3 k3 (.object cN) (0 : Int32) [] .null := A3
  refine own_putF X3 hx hZ hown N2 (host := "") (Or.inl (own_w hw 111 rfl)) Via.refl e3 F4_path_a1 E4_a1 (Or.inr ⟨(own_w hw 112 rfl), rfl, hnm⟩) (own_w hw 102 rfl) (ty := (.array (.object cN))) (by decide) rfl rfl f5 (hb hby d15_39) (fun T5 h5 lc5 X5 e5 N5 W5 => ?_)
  have E6_a1 := E4_a1.wr W5
  have E6_a2 := E4_a2.wr W5
  have F6_path_a1 := F4_path_a1.same W5
  have F6_at_a1 := F4_at_a1.other W5 (Or.inr (slot_ne (Or.inr (own_w hw 115 rfl)) (Or.inr (own_w hw 112 rfl)) (by decide) (t := (.array .int)) (t' := (.array (.object cN))) (by decide) (by decide)))
  have F6_leaf_a1 := F4_leaf_a1.other W5 (Or.inr (slot_ne (Or.inl (own_w hw 117 rfl)) (Or.inr (own_w hw 112 rfl)) (by decide) (t := (.object cN)) (t' := (.array (.object cN))) (by decide) (by decide)))
  have F6_next_a1 := F4_next_a1.other W5 (Or.inr (slot_ne (Or.inl (own_w hw 120 rfl)) (Or.inr (own_w hw 112 rfl)) (by decide) (t := .int) (t' := (.array (.object cN))) (by decide) (by decide)))
  have F6_keys_a2 := F4_keys_a2.other W5 (Or.inl (ne_exa E4_a2 E4_a1 (by decide)))
  have F6_size_a2 := F4_size_a2.other W5 (Or.inl (ne_exa E4_a2 E4_a1 (by decide)))
  have A6_kr := A4_kr.other W5 (Ne.symm (Exa.neArv E4_a1 A4_kr (own_w hw 102 rfl)))
  have A6_k0 := A4_k0.other W5 (Ne.symm (Exa.neArv E4_a1 A4_k0 (own_w hw 102 rfl)))
  have A6_k1 := A4_k1.other W5 (Ne.symm (Exa.neArv E4_a1 A4_k1 (own_w hw 102 rfl)))
  have A6_a3 := A4_a3.other W5 (Ne.symm (Exa.neArv E4_a1 A4_a3 (own_w hw 102 rfl)))
  have A6_b3 := V3.other W5 (Ne.symm ne_a1_b3)
  have O6 := O4.wr W5 f5
  have KC6 := KC4.wr W5 (Or.inl (List.mem_of_getElem? (i := 0) rfl))
  refine own_aloadN X5 hx (hb hby d15_42) rfl rfl ?_
  refine own_iload X5 hx (hb hby d15_43) rfl ?_
  refine own_newP X5 hx hZ (own_w hw 113 rfl) e5 (hb hby d15_45) (by decide) (cap := 0) (by decide) (by decide) (by decide) (by decide) (fun T7 h7 b7 k7 g7 X7 e7 E7 A7 => ?_)
  have ge_b7 : n0 ≤ b7 := Nat.le_trans (own_sz O6) (Nat.le_of_eq g7.symm)
  have sz_b7 : h0.size ≤ b7 := Nat.le_trans KC6.1 (Nat.le_of_eq g7.symm)
  have E8_a1 := E6_a1.ext E7
  have E8_a2 := E6_a2.ext E7
  have F8_path_a1 := F6_path_a1.ext E7
  have F8_at_a1 := F6_at_a1.ext E7
  have F8_leaf_a1 := F6_leaf_a1.ext E7
  have F8_next_a1 := F6_next_a1.ext E7
  have F8_keys_a2 := F6_keys_a2.ext E7
  have F8_size_a2 := F6_size_a2.ext E7
  have A8_kr := A6_kr.ext E7
  have A8_k0 := A6_k0.ext E7
  have A8_k1 := A6_k1.ext E7
  have A8_a3 := A6_a3.ext E7
  have A8_b3 := A6_b3.ext E7
  have O8 := O6.ext E7
  have KC8 := KC6.ext E7
  have V7 : Arv Z h7 b7 k7 .int (0 : Int32) [] (.int (0 : Int32)) := A7
  refine own_putF X7 hx hZ hown N5 (host := "") (Or.inl (own_w hw 114 rfl)) Via.refl e7 F8_at_a1 E8_a1 (Or.inr ⟨(own_w hw 115 rfl), rfl, hnm⟩) (own_w hw 102 rfl) (ty := (.array .int)) (by decide) rfl rfl f5 (hb hby d15_47) (fun T9 h9 lc9 X9 e9 N9 W9 => ?_)
  have E10_a1 := E8_a1.wr W9
  have E10_a2 := E8_a2.wr W9
  have F10_path_a1 := F8_path_a1.other W9 (Or.inr (slot_ne (Or.inr (own_w hw 112 rfl)) (Or.inr (own_w hw 115 rfl)) (by decide) (t := (.array (.object cN))) (t' := (.array .int)) (by decide) (by decide)))
  have F10_leaf_a1 := F8_leaf_a1.other W9 (Or.inr (slot_ne (Or.inl (own_w hw 117 rfl)) (Or.inr (own_w hw 115 rfl)) (by decide) (t := (.object cN)) (t' := (.array .int)) (by decide) (by decide)))
  have F10_next_a1 := F8_next_a1.other W9 (Or.inr (slot_ne (Or.inl (own_w hw 120 rfl)) (Or.inr (own_w hw 115 rfl)) (by decide) (t := .int) (t' := (.array .int)) (by decide) (by decide)))
  have F10_keys_a2 := F8_keys_a2.other W9 (Or.inl (ne_exa E8_a2 E8_a1 (by decide)))
  have F10_size_a2 := F8_size_a2.other W9 (Or.inl (ne_exa E8_a2 E8_a1 (by decide)))
  have A10_kr := A8_kr.other W9 (Ne.symm (Exa.neArv E8_a1 A8_kr (own_w hw 102 rfl)))
  have A10_k0 := A8_k0.other W9 (Ne.symm (Exa.neArv E8_a1 A8_k0 (own_w hw 102 rfl)))
  have A10_k1 := A8_k1.other W9 (Ne.symm (Exa.neArv E8_a1 A8_k1 (own_w hw 102 rfl)))
  have A10_a3 := A8_a3.other W9 (Ne.symm (Exa.neArv E8_a1 A8_a3 (own_w hw 102 rfl)))
  have A10_b3 := A8_b3.other W9 (Ne.symm ne_a1_b3)
  have O10 := O8.wr W9 f5
  have KC10 := KC8.wr W9 (Or.inl (List.mem_of_getElem? (i := 0) rfl))
  refine own_aloadN X9 hx (hb hby d15_50) rfl rfl ?_
  refine own_astore X9 hx (Ls' := #[.val (.ref a1), .val (.ref a2), .val (.ref a3), .val (.int (1 : Int32)), .val (.int (0 : Int32)), .val (.ref a2), .unset]) (hb hby d15_51) rfl rfl ?_
  refine own_iconst X9 hx (v := (0 : Int32)) (hb hby d15_53) rfl ?_
  refine own_istore X9 hx (Ls' := #[.val (.ref a1), .val (.ref a2), .val (.ref a3), .val (.int (1 : Int32)), .val (.int (0 : Int32)), .val (.ref a2), .val (.int (0 : Int32))]) (hb hby d15_54) rfl ?_
  refine own_iload X9 hx (hb hby d15_56) rfl ?_
  refine own_iload X9 hx (hb hby d15_58) rfl ?_
  refine own_icmpYes X9 hx (pc' := 106) (hb hby d15_60) (flt (by decide : ¬ ((0 : Int32) < (0 : Int32)))).2.1 (by decide) (by decide) ?_
  refine own_aloadN X9 hx (hb hby d15_106) rfl rfl ?_
  refine own_aload X9 hx (hb hby d15_107) rfl rfl ?_
  refine own_putF X9 hx hZ hown N9 (host := "") (Or.inl (own_w hw 116 rfl)) Via.refl e9 F10_leaf_a1 E10_a1 (Or.inl (own_w hw 117 rfl)) (own_w hw 102 rfl) (ty := (.object cN)) (by decide) rfl rfl f5 (hb hby d15_109) (fun T11 h11 lc11 X11 e11 N11 W11 => ?_)
  have E12_a1 := E10_a1.wr W11
  have E12_a2 := E10_a2.wr W11
  have F12_path_a1 := F10_path_a1.other W11 (Or.inr (slot_ne (Or.inr (own_w hw 112 rfl)) (Or.inl (own_w hw 117 rfl)) (by decide) (t := (.array (.object cN))) (t' := (.object cN)) (by decide) (by decide)))
  have F12_leaf_a1 := F10_leaf_a1.same W11
  have F12_next_a1 := F10_next_a1.other W11 (Or.inr (slot_ne (Or.inl (own_w hw 120 rfl)) (Or.inl (own_w hw 117 rfl)) (by decide) (t := .int) (t' := (.object cN)) (by decide) (by decide)))
  have F12_keys_a2 := F10_keys_a2.other W11 (Or.inl (ne_exa E10_a2 E10_a1 (by decide)))
  have F12_size_a2 := F10_size_a2.other W11 (Or.inl (ne_exa E10_a2 E10_a1 (by decide)))
  have A12_kr := A10_kr.other W11 (Ne.symm (Exa.neArv E10_a1 A10_kr (own_w hw 102 rfl)))
  have A12_k0 := A10_k0.other W11 (Ne.symm (Exa.neArv E10_a1 A10_k0 (own_w hw 102 rfl)))
  have A12_k1 := A10_k1.other W11 (Ne.symm (Exa.neArv E10_a1 A10_k1 (own_w hw 102 rfl)))
  have A12_a3 := A10_a3.other W11 (Ne.symm (Exa.neArv E10_a1 A10_a3 (own_w hw 102 rfl)))
  have A12_b3 := A10_b3.other W11 (Ne.symm ne_a1_b3)
  have O12 := O10.wr W11 f5
  have KC12 := KC10.wr W11 (Or.inl (List.mem_of_getElem? (i := 0) rfl))
  refine own_aloadN X11 hx (hb hby d15_112) rfl rfl ?_
  refine own_aload X11 hx (hb hby d15_113) rfl rfl ?_
  refine own_aloadN X11 hx (hb hby d15_115) rfl rfl ?_
  refine own_callSNest X11 hx hZ hown (y := y9) (own_w hw 118 rfl) (own_w hw 66 rfl) (own_w hw 3 rfl) (own_w hw 67 rfl) (by decide) (W := 1) (by decide) (by decide) N11 e11 (by rw [hml]; rfl) (argsL := [(.ref a2), (.ref a3)]) (rest := [(.ref a1)]) (lenOf pd_9 rfl) (Nat.le_of_eq rfl) (by decide) (by decide) (rm920 l Z a0 hw [] a2 a3 kr kk k0 k1 x y c0 c1 cz h11 n0 O12 F12_keys_a2 F12_size_a2 A12_kr A12_k0 A12_k1 A12_a3 f14 f15) rfl (hb hby d15_116) ?_
  intro v13 T13 lc13 X13 N13 hQ13
  obtain ⟨rfl, e13⟩ := hQ13
  refine own_putF X13 hx hZ hown N13 (host := "") (Or.inl (own_w hw 119 rfl)) Via.refl e13 F12_next_a1 E12_a1 (Or.inl (own_w hw 120 rfl)) (own_w hw 102 rfl) (ty := .int) (by decide) rfl rfl f5 (hb hby d15_119) (fun T14 h14 lc14 X14 e14 N14 W14 => ?_)
  have E15_a1 := E12_a1.wr W14
  have F15_path_a1 := F12_path_a1.other W14 (Or.inr (slot_ne (Or.inr (own_w hw 112 rfl)) (Or.inl (own_w hw 120 rfl)) (by decide) (t := (.array (.object cN))) (t' := .int) (by decide) (by decide)))
  have F15_leaf_a1 := F12_leaf_a1.other W14 (Or.inr (slot_ne (Or.inl (own_w hw 117 rfl)) (Or.inl (own_w hw 120 rfl)) (by decide) (t := (.object cN)) (t' := .int) (by decide) (by decide)))
  have F15_next_a1 := F12_next_a1.same W14
  have F15_size_a2 := F12_size_a2.other W14 (Or.inl (ne_exa E12_a2 E12_a1 (by decide)))
  have A15_b3 := A12_b3.other W14 (Ne.symm ne_a1_b3)
  have O15 := O12.wr W14 f5
  have KC15 := KC12.wr W14 (Or.inl (List.mem_of_getElem? (i := 0) rfl))
  refine own_iloadN X14 hx (hb hby d15_122) rfl ?_
  refine own_ifYes X14 hx (pc' := 169) (hb hby d15_123) ((if0 _ _).trans (feq (by decide : ¬ ((1 : Int32) = (0 : Int32)))).2) (by decide) (by decide) ?_
  refine own_aloadN X14 hx (hb hby d15_169) rfl rfl ?_
  refine own_private X14 hx hZ hown (y := y16) (own_w hw 121 rfl) (own_w hw 122 rfl) (own_w hw 102 rfl) (own_w hw 123 rfl) (own_w hw 103 rfl) (own_w hw 124 rfl) (a := a1) E15_a1 (by decide) (W := 0) (by decide) (by decide) N14 e14 (by rw [hml]; rfl) (argsL := []) (rest := []) (lenOf pd_19 rfl) (Nat.le_of_eq rfl) (by decide) (by decide) (rm16n l Z a0 hw [] a1 a2 (0 : Int32) (2 : Int32) h14 n0 O15 F15_leaf_a1 F15_next_a1 F15_size_a2 (by first | assumption | decide | exact ⟨rfl, rfl⟩)) rfl (hb hby d15_170) ?_
  intro v16 T16 lc16 X16 N16 hQ16
  obtain ⟨rfl, e16⟩ := hQ16
  show Goes _ _ _ _ _ _ (T16.setTop (mkF m 173 #[.val (.ref a1), .val (.ref a2), .val (.ref a3), .val (.int (1 : Int32)), .val (.int (0 : Int32)), .val (.ref a2), .val (.int (0 : Int32))] []))
  exact own_retV X16 hx N16 hlk (by decide) (by decide) hret (hb hby d15_173) (by rw [e16]; exact ⟨b3, k3, rfl, KC15, E15_a1, F15_path_a1, F15_leaf_a1, F15_next_a1, A15_b3⟩)
def Q142 (Z : State) (a1 : Addr) (a2 : Addr) (nd : Addr) (kr : Addr) (k0 : Addr) (k1 : Addr) (kk : ClassId) (cz : ClassId) (x : Int32) (y : Int32) (c0 : ClassId) (c1 : ClassId) (h0 : Heap) (n0 : Nat) (v : Option Value) (h : Heap) : Prop :=
  (∃ (wk : Addr) (pa : Addr) (kp : ClassId), v = some (.ref wk) ∧ Keep h0 h [] ∧ Exa Z h wk cW ∧ Fld Z h wk cW "path" dA (.ref pa) ∧ Fld Z h wk cW "leaf" dN (.ref nd) ∧ Fld Z h wk cW "next" "I" (.int (0 : Int32)) ∧ Arv Z h pa kp (.object cN) (0 : Int32) [] .null ∧ h0.size ≤ wk)
theorem ef_142 (m : MethodId) (a1 : Addr) (a2 : Addr) : entryFrame m #[(.ref a1), (.ref a2), (.int (1 : Int32))] 3 = mkF m 0 #[.val (.ref a1), .val (.ref a2), .val (.int (1 : Int32))] [] := by first | (simp [entryFrame, mkF, argsToLocals, Value.category]; done) | rfl
set_option maxRecDepth 65536 in
set_option maxHeartbeats 40000000 in
theorem rm142 (l : Launch) (Z : State) (a0 : Array Value) (hw : ∀ d ∈ tables_1, d.before a0 Z = true) (ws : List Jvm.Cond) (a1 : Addr) (a2 : Addr) (nd : Addr) (kr : Addr) (k0 : Addr) (k1 : Addr) (kk : ClassId) (cz : ClassId) (x : Int32) (y : Int32) (c0 : ClassId) (c1 : ClassId) (h0 : Heap) (n0 : Nat) (O0 : Old Z n0 h0) (f0 : Fld Z h0 a1 cT "root" dN (.ref nd)) (f1 : Exa Z h0 nd cN) (f2 : Fld Z h0 nd cN "keys" "[[B" (.ref kr)) (f3 : Fld Z h0 nd cN "children" dA .null) (f4 : Fld Z h0 nd cN "size" "I" (.int (2 : Int32))) (f5 : Arv Z h0 kr kk (.array .byte) (64 : Int32) [(.ref k0), (.ref k1), .null] .null) (f6 : Arv Z h0 k0 c0 .byte (1 : Int32) [(.int x)] (.int (0 : Int32))) (f7 : Arv Z h0 k1 c1 .byte (1 : Int32) [(.int y)] (.int (0 : Int32))) (f8 : Arv Z h0 a2 cz .byte (0 : Int32) [] (.int (0 : Int32))) (f9 : k0 ≠ a2) (f10 : k1 ≠ a2) :
    Meets l y14 prog_35_method_15_code 3 (some (.object "java/util/Iterator")) ws ({ frames := 4, cells := 3, slots := 4, locals := 65 } : Room) ({ frames := 4, cells := 3, slots := 4, locals := 65 } : Room).cells ({ frames := 4, cells := 3, slots := 4, locals := 65 } : Room).slots Z #[(.ref a1), (.ref a2), (.int (1 : Int32))] h0 n0 (Q142 Z a1 a2 nd kr k0 k1 kk cz x y c0 c1 h0 n0) := by
  refine Meets.of (F := fun m => mkF m 0 #[.val (.ref a1), .val (.ref a2), .val (.int (1 : Int32))] []) (plainFor_of_name pn_5) (fun m => ef_142 m a1 a2) ?_
  intro p e s m below meth c T0 hx hby hml hown0 hnm hret hlk hZ X0 e0
  have hown : s.vm.findClass cT = some m.cls := hown0
  have N0 := Fr.nil n0
  have KC0 := Keep.refl h0 []
  show Goes _ _ _ _ _ _ (T0.setTop (mkF m 0 #[.val (.ref a1), .val (.ref a2), .val (.int (1 : Int32))] []))
  refine own_new X0 hx hZ hown (own_w hw 101 rfl) (own_w hw 102 rfl) (own_w hw 103 rfl) e0 (hb hby d14_0) (by decide) (by decide) (fun T1 h1 b1 g1 X1 e1 E1 A1 D1 => ?_)
  have ge_b1 : n0 ≤ b1 := Nat.le_trans (own_sz O0) (Nat.le_of_eq g1.symm)
  have sz_b1 : h0.size ≤ b1 := Nat.le_trans KC0.1 (Nat.le_of_eq g1.symm)
  have E2_nd := f1.ext E1
  have F2_root_a1 := f0.ext E1
  have F2_keys_nd := f2.ext E1
  have F2_children_nd := f3.ext E1
  have F2_size_nd := f4.ext E1
  have A2_kr := f5.ext E1
  have A2_k0 := f6.ext E1
  have A2_k1 := f7.ext E1
  have A2_a2 := f8.ext E1
  have O2 := O0.ext E1
  have KC2 := KC0.ext E1
  have F1_path_b1 : Fld Z h1 b1 cW "path" dA .null := D1 (Or.inr (own_w hw 112 rfl)) (ty := (.array (.object cN))) (by decide)
  have F1_at_b1 : Fld Z h1 b1 cW "at" "[I" .null := D1 (Or.inr (own_w hw 115 rfl)) (ty := (.array .int)) (by decide)
  have F1_leaf_b1 : Fld Z h1 b1 cW "leaf" dN .null := D1 (Or.inl (own_w hw 117 rfl)) (ty := (.object cN)) (by decide)
  have F1_next_b1 : Fld Z h1 b1 cW "next" "I" (.int (0 : Int32)) := D1 (Or.inl (own_w hw 120 rfl)) (ty := .int) (by decide)
  refine own_dup X1 hx (hb hby d14_3) rfl ?_
  refine own_aloadN X1 hx (hb hby d14_4) rfl rfl ?_
  refine own_getF X1 hx hZ hown (host := "") (Or.inl (own_w hw 27 rfl)) Via.refl e1 F2_root_a1 (hb hby d14_5) (fun T3 X3 e3 => ?_)
  refine own_aloadN X3 hx (hb hby d14_8) rfl rfl ?_
  refine own_iloadN X3 hx (hb hby d14_9) rfl ?_
  refine own_specialR X3 hx hZ hown (y := y15) rfl (own_w hw 104 rfl) (own_w hw 105 rfl) (own_w hw 103 rfl) (own_w hw 106 rfl) (a := b1) (by decide) (W := 1) (by decide) (by decide) N0 e3 (by rw [hml]; rfl) (argsL := [(.ref nd), (.ref a2), (.int (1 : Int32))]) (rest := [(.ref b1)]) (lenOf pd_20 rfl) (Nat.le_of_eq rfl) (by decide) (by decide) (rm152 l Z a0 hw [] b1 nd a2 kr k0 k1 kk cz x y c0 c1 h1 n0 O2 A1 F1_path_b1 F1_at_b1 F1_leaf_b1 F1_next_b1 ge_b1 E2_nd F2_keys_nd F2_children_nd F2_size_nd A2_kr A2_k0 A2_k1 A2_a2 f9 f10) rfl (hb hby d14_10) ?_
  intro v4 T4 lc4 X4 N4 hQ4
  obtain ⟨pa_4, kp_4, rfl, K4, r4_0, r4_1, r4_2, r4_3, r4_4⟩ := hQ4
  have O5 := O2.keep K4 (allS ge_b1 all0)
  have KC5 := KC2.trans K4 (allS (Or.inr sz_b1) all0)
  show Goes _ _ _ _ _ _ (T4.setTop (mkF m 13 #[.val (.ref a1), .val (.ref a2), .val (.int (1 : Int32))] [(.ref b1)]))
  exact own_retR X4 hx N4 hlk (by decide) (by decide) hret rfl rfl rfl (hb hby d14_13) (⟨b1, pa_4, kp_4, rfl, KC5, r4_0, r4_1, r4_2, r4_3, r4_4, sz_b1⟩)
theorem d33_0 : decode prog_37_method_3_code 0 = .ok (.aload_n 0, 1) := by decide +kernel
theorem d33_1 : decode prog_37_method_3_code 1 = .ok (.getfield 32, 3) := by decide +kernel
theorem d33_4 : decode prog_37_method_3_code 4 = .ok (.ifnonnull 11, 3) := by decide +kernel
theorem d33_15 : decode prog_37_method_3_code 15 = .ok (.aload_n 0, 1) := by decide +kernel
theorem d33_16 : decode prog_37_method_3_code 16 = .ok (.getfield 32, 3) := by decide +kernel
theorem d33_19 : decode prog_37_method_3_code 19 = .ok (.getfield 46, 3) := by decide +kernel
theorem d33_22 : decode prog_37_method_3_code 22 = .ok (.aload_n 0, 1) := by decide +kernel
theorem d33_23 : decode prog_37_method_3_code 23 = .ok (.dup, 1) := by decide +kernel
theorem d33_24 : decode prog_37_method_3_code 24 = .ok (.getfield 39, 3) := by decide +kernel
theorem d33_27 : decode prog_37_method_3_code 27 = .ok (.dup_x1, 1) := by decide +kernel
theorem d33_28 : decode prog_37_method_3_code 28 = .ok (.iconst 1, 1) := by decide +kernel
theorem d33_29 : decode prog_37_method_3_code 29 = .ok (.iadd, 1) := by decide +kernel
theorem d33_30 : decode prog_37_method_3_code 30 = .ok (.putfield 39, 3) := by decide +kernel
theorem d33_33 : decode prog_37_method_3_code 33 = .ok (.aaload, 1) := by decide +kernel
theorem d33_34 : decode prog_37_method_3_code 34 = .ok (.astore_n 1, 1) := by decide +kernel
theorem d33_35 : decode prog_37_method_3_code 35 = .ok (.aload_n 0, 1) := by decide +kernel
theorem d33_36 : decode prog_37_method_3_code 36 = .ok (.invokevirtual 56, 3) := by decide +kernel
theorem d33_39 : decode prog_37_method_3_code 39 = .ok (.aload_n 1, 1) := by decide +kernel
theorem d33_40 : decode prog_37_method_3_code 40 = .ok (.areturn, 1) := by decide +kernel
def Q331 (Z : State) (a1 : Addr) (pa : Addr) (kp : ClassId) (lf : Addr) (kr : Addr) (k0 : Addr) (kk : ClassId) (h0 : Heap) (n0 : Nat) (v : Option Value) (h : Heap) : Prop :=
  (v = some (.ref k0) ∧ Keep h0 h [a1] ∧ Fld Z h a1 cW "path" dA (.ref pa) ∧ Fld Z h a1 cW "leaf" dN .null ∧ Fld Z h a1 cW "next" "I" (.int (1 : Int32)))
theorem ef_331 (m : MethodId) (a1 : Addr) : entryFrame m #[(.ref a1)] 2 = mkF m 0 #[.val (.ref a1), .unset] [] := by first | (simp [entryFrame, mkF, argsToLocals, Value.category]; done) | rfl
set_option maxRecDepth 65536 in
set_option maxHeartbeats 40000000 in
theorem rm331 (l : Launch) (Z : State) (a0 : Array Value) (hw : ∀ d ∈ tables_1, d.before a0 Z = true) (ws : List Jvm.Cond) (a1 : Addr) (pa : Addr) (kp : ClassId) (lf : Addr) (kr : Addr) (k0 : Addr) (kk : ClassId) (h0 : Heap) (n0 : Nat) (O0 : Old Z n0 h0) (f0 : Exa Z h0 a1 cW) (f1 : Fld Z h0 a1 cW "path" dA (.ref pa)) (f2 : Fld Z h0 a1 cW "leaf" dN (.ref lf)) (f3 : Fld Z h0 a1 cW "next" "I" (.int (0 : Int32))) (f4 : Arv Z h0 pa kp (.object cN) (0 : Int32) [] .null) (f5 : Exa Z h0 lf cN) (f6 : Fld Z h0 lf cN "keys" "[[B" (.ref kr)) (f7 : Fld Z h0 lf cN "children" dA .null) (f8 : Fld Z h0 lf cN "size" "I" (.int (1 : Int32))) (f9 : Arv Z h0 kr kk (.array .byte) (64 : Int32) [(.ref k0), .null, .null] .null) (f10 : n0 ≤ a1) :
    Meets l y33 prog_37_method_3_code 2 (some (.array .byte)) ws ({ frames := 1, cells := 0, slots := 0, locals := 15 } : Room) ({ frames := 1, cells := 0, slots := 0, locals := 15 } : Room).cells ({ frames := 1, cells := 0, slots := 0, locals := 15 } : Room).slots Z #[(.ref a1)] h0 n0 (Q331 Z a1 pa kp lf kr k0 kk h0 n0) := by
  refine Meets.of (F := fun m => mkF m 0 #[.val (.ref a1), .unset] []) (plainFor_of_name pn_6) (fun m => ef_331 m a1) ?_
  intro p e s m below meth c T0 hx hby hml hown0 hnm hret hlk hZ X0 e0
  have hown : s.vm.findClass cW = some m.cls := hown0
  have N0 := Fr.nil n0
  have KC0 := Keep.refl h0 [a1]
  show Goes _ _ _ _ _ _ (T0.setTop (mkF m 0 #[.val (.ref a1), .unset] []))
  refine own_aloadN X0 hx (hb hby d33_0) rfl rfl ?_
  refine own_getF X0 hx hZ hown (host := "") (Or.inl (own_w hw 116 rfl)) Via.refl e0 f2 (hb hby d33_1) (fun T1 X1 e1 => ?_)
  refine own_ifnonnullYes X1 hx (pc' := 15) (hb hby d33_4) (by decide) (by decide) ?_
  refine own_aloadN X1 hx (hb hby d33_15) rfl rfl ?_
  refine own_getF X1 hx hZ hown (host := "") (Or.inl (own_w hw 116 rfl)) Via.refl e1 f2 (hb hby d33_16) (fun T2 X2 e2 => ?_)
  refine own_getF X2 hx hZ hown (Or.inr (own_w hw 202 rfl)) Via.refl e2 f6 (hb hby d33_19) (fun T3 X3 e3 => ?_)
  refine own_aloadN X3 hx (hb hby d33_22) rfl rfl ?_
  refine own_dup X3 hx (hb hby d33_23) rfl ?_
  refine own_getF X3 hx hZ hown (host := "") (Or.inl (own_w hw 119 rfl)) Via.refl e3 f3 (hb hby d33_24) (fun T4 X4 e4 => ?_)
  refine own_dup_x1 X4 hx (hb hby d33_27) rfl rfl ?_
  refine own_iconst X4 hx (v := (1 : Int32)) (hb hby d33_28) rfl ?_
  refine own_iadd X4 hx (hb hby d33_29) ?_
  rw [show ((0 : Int32) + (1 : Int32)) = (1 : Int32) by decide]
  refine own_putF X4 hx hZ hown N0 (host := "") (Or.inl (own_w hw 119 rfl)) Via.refl e4 f3 f0 (Or.inl (own_w hw 120 rfl)) (own_w hw 102 rfl) (ty := .int) (by decide) rfl rfl f10 (hb hby d33_30) (fun T5 h5 lc5 X5 e5 N5 W5 => ?_)
  have E6_a1 := f0.wr W5
  have E6_lf := f5.wr W5
  have F6_path_a1 := f1.other W5 (Or.inr (slot_ne (Or.inr (own_w hw 112 rfl)) (Or.inl (own_w hw 120 rfl)) (by decide) (t := (.array (.object cN))) (t' := .int) (by decide) (by decide)))
  have F6_leaf_a1 := f2.other W5 (Or.inr (slot_ne (Or.inl (own_w hw 117 rfl)) (Or.inl (own_w hw 120 rfl)) (by decide) (t := (.object cN)) (t' := .int) (by decide) (by decide)))
  have F6_next_a1 := f3.same W5
  have F6_size_lf := f8.other W5 (Or.inl (ne_exa f5 f0 (by decide)))
  have A6_pa := f4.other W5 (Ne.symm (Exa.neArv f0 f4 (own_w hw 102 rfl)))
  have A6_kr := f9.other W5 (Ne.symm (Exa.neArv f0 f9 (own_w hw 102 rfl)))
  have O6 := O0.wr W5 f10
  have KC6 := KC0.wr W5 (Or.inl (List.mem_of_getElem? (i := 0) rfl))
  refine own_aaload X5 hx hZ e5 A6_kr rfl ⟨by decide, by decide⟩ (v := (.ref k0)) rfl (hb hby d33_33) ?_
  refine own_astoreN X5 hx (Ls' := #[.val (.ref a1), .val (.ref k0)]) (hb hby d33_34) rfl rfl ?_
  refine own_aloadN X5 hx (hb hby d33_35) rfl rfl ?_
  refine own_private X5 hx hZ hown (y := y16) (own_w hw 121 rfl) (own_w hw 122 rfl) (own_w hw 102 rfl) (own_w hw 123 rfl) (own_w hw 103 rfl) (own_w hw 124 rfl) (a := a1) E6_a1 (by decide) (W := 0) (by decide) (by decide) N5 e5 (by rw [hml]; rfl) (argsL := []) (rest := []) (lenOf pd_19 rfl) (Nat.le_of_eq rfl) (by decide) (by decide) (rm16e l Z a0 hw [] a1 pa kp lf (1 : Int32) h5 n0 O6 E6_a1 F6_path_a1 F6_leaf_a1 F6_next_a1 A6_pa F6_size_lf E6_lf f10) rfl (hb hby d33_36) ?_
  intro v7 T7 lc7 X7 N7 hQ7
  obtain ⟨rfl, K7, r7_0, r7_1, r7_2⟩ := hQ7
  have O8 := O6.keep K7 (allS f10 all0)
  have KC8 := KC6.trans K7 (allS (Or.inl (List.mem_of_getElem? (i := 0) rfl)) all0)
  refine own_aloadN X7 hx (hb hby d33_39) rfl rfl ?_
  show Goes _ _ _ _ _ _ (T7.setTop (mkF m 40 #[.val (.ref a1), .val (.ref k0)] [(.ref k0)]))
  exact own_retR X7 hx N7 hlk (by decide) (by decide) hret rfl rfl rfl (hb hby d33_40) (⟨rfl, KC8, r7_0, r7_1, r7_2⟩)
theorem d32_0 : decode prog_37_method_5_code 0 = .ok (.aload_n 0, 1) := by decide +kernel
theorem d32_1 : decode prog_37_method_5_code 1 = .ok (.invokevirtual 62, 3) := by decide +kernel
theorem pd_21 : parseMethodDescriptor "()[B" = some ⟨[], some (.array .byte)⟩ := by decide +kernel
theorem d32_4 : decode prog_37_method_5_code 4 = .ok (.areturn, 1) := by decide +kernel
def Q321 (Z : State) (a1 : Addr) (pa : Addr) (kp : ClassId) (lf : Addr) (kr : Addr) (k0 : Addr) (kk : ClassId) (h0 : Heap) (n0 : Nat) (v : Option Value) (h : Heap) : Prop :=
  (v = some (.ref k0) ∧ Keep h0 h [a1] ∧ Fld Z h a1 cW "path" dA (.ref pa) ∧ Fld Z h a1 cW "leaf" dN .null ∧ Fld Z h a1 cW "next" "I" (.int (1 : Int32)))
theorem ef_321 (m : MethodId) (a1 : Addr) : entryFrame m #[(.ref a1)] 1 = mkF m 0 #[.val (.ref a1)] [] := by first | (simp [entryFrame, mkF, argsToLocals, Value.category]; done) | rfl
set_option maxRecDepth 65536 in
set_option maxHeartbeats 40000000 in
theorem rm321 (l : Launch) (Z : State) (a0 : Array Value) (hw : ∀ d ∈ tables_1, d.before a0 Z = true) (ws : List Jvm.Cond) (a1 : Addr) (pa : Addr) (kp : ClassId) (lf : Addr) (kr : Addr) (k0 : Addr) (kk : ClassId) (h0 : Heap) (n0 : Nat) (O0 : Old Z n0 h0) (f0 : Exa Z h0 a1 cW) (f1 : Fld Z h0 a1 cW "path" dA (.ref pa)) (f2 : Fld Z h0 a1 cW "leaf" dN (.ref lf)) (f3 : Fld Z h0 a1 cW "next" "I" (.int (0 : Int32))) (f4 : Arv Z h0 pa kp (.object cN) (0 : Int32) [] .null) (f5 : Exa Z h0 lf cN) (f6 : Fld Z h0 lf cN "keys" "[[B" (.ref kr)) (f7 : Fld Z h0 lf cN "children" dA .null) (f8 : Fld Z h0 lf cN "size" "I" (.int (1 : Int32))) (f9 : Arv Z h0 kr kk (.array .byte) (64 : Int32) [(.ref k0), .null, .null] .null) (f10 : n0 ≤ a1) :
    Meets l y32 prog_37_method_5_code 1 (some (.object "java/lang/Object")) ws ({ frames := 2, cells := 0, slots := 0, locals := 28 } : Room) ({ frames := 2, cells := 0, slots := 0, locals := 28 } : Room).cells ({ frames := 2, cells := 0, slots := 0, locals := 28 } : Room).slots Z #[(.ref a1)] h0 n0 (Q321 Z a1 pa kp lf kr k0 kk h0 n0) := by
  refine Meets.of (F := fun m => mkF m 0 #[.val (.ref a1)] []) (plainFor_of_name pn_6) (fun m => ef_321 m a1) ?_
  intro p e s m below meth c T0 hx hby hml hown0 hnm hret hlk hZ X0 e0
  have hown : s.vm.findClass cW = some m.cls := hown0
  have N0 := Fr.nil n0
  have KC0 := Keep.refl h0 [a1]
  show Goes _ _ _ _ _ _ (T0.setTop (mkF m 0 #[.val (.ref a1)] []))
  refine own_aloadN X0 hx (hb hby d32_0) rfl rfl ?_
  refine own_virtual X0 hx hZ hown (y := y33) (z := y33) (own_w hw 197 rfl) (own_w hw 198 rfl) (notFace_of_selects (args := #[]) (mvT hZ (own_w hw 200 rfl))) (own_w hw 200 rfl) (own_w hw 199 rfl) (own_w hw 103 rfl) (own_w hw 201 rfl) (a := a1) f0 (by decide) (W := 0) (by decide) (by decide) N0 e0 (by rw [hml]; rfl) (argsL := []) (rest := []) (lenOf pd_21 rfl) (Nat.le_of_eq rfl) (by decide) (by decide) (rm331 l Z a0 hw [] a1 pa kp lf kr k0 kk h0 n0 O0 f0 f1 f2 f3 f4 f5 f6 f7 f8 f9 f10) rfl (hb hby d32_1) ?_
  intro v1 T1 lc1 X1 N1 hQ1
  obtain ⟨rfl, K1, r1_0, r1_1, r1_2⟩ := hQ1
  have O2 := O0.keep K1 (allS f10 all0)
  have KC2 := KC0.trans K1 (allS (Or.inl (List.mem_of_getElem? (i := 0) rfl)) all0)
  show Goes _ _ _ _ _ _ (T1.setTop (mkF m 4 #[.val (.ref a1)] [(.ref k0)]))
  exact own_retR X1 hx N1 hlk (by decide) (by decide) hret rfl rfl rfl (hb hby d32_4) (⟨rfl, KC2, r1_0, r1_1, r1_2⟩)
def Q3320 (Z : State) (a1 : Addr) (pa : Addr) (kp : ClassId) (lf : Addr) (kr : Addr) (k0 : Addr) (k1 : Addr) (kk : ClassId) (h0 : Heap) (n0 : Nat) (v : Option Value) (h : Heap) : Prop :=
  (v = some (.ref k0) ∧ Keep h0 h [a1] ∧ Fld Z h a1 cW "path" dA (.ref pa) ∧ Fld Z h a1 cW "leaf" dN (.ref lf) ∧ Fld Z h a1 cW "next" "I" (.int (1 : Int32)))
theorem ef_3320 (m : MethodId) (a1 : Addr) : entryFrame m #[(.ref a1)] 2 = mkF m 0 #[.val (.ref a1), .unset] [] := by first | (simp [entryFrame, mkF, argsToLocals, Value.category]; done) | rfl
set_option maxRecDepth 65536 in
set_option maxHeartbeats 40000000 in
theorem rm3320 (l : Launch) (Z : State) (a0 : Array Value) (hw : ∀ d ∈ tables_1, d.before a0 Z = true) (ws : List Jvm.Cond) (a1 : Addr) (pa : Addr) (kp : ClassId) (lf : Addr) (kr : Addr) (k0 : Addr) (k1 : Addr) (kk : ClassId) (h0 : Heap) (n0 : Nat) (O0 : Old Z n0 h0) (f0 : Exa Z h0 a1 cW) (f1 : Fld Z h0 a1 cW "path" dA (.ref pa)) (f2 : Fld Z h0 a1 cW "leaf" dN (.ref lf)) (f3 : Fld Z h0 a1 cW "next" "I" (.int (0 : Int32))) (f4 : Arv Z h0 pa kp (.object cN) (0 : Int32) [] .null) (f5 : Exa Z h0 lf cN) (f6 : Fld Z h0 lf cN "keys" "[[B" (.ref kr)) (f7 : Fld Z h0 lf cN "children" dA .null) (f8 : Fld Z h0 lf cN "size" "I" (.int (2 : Int32))) (f9 : Arv Z h0 kr kk (.array .byte) (64 : Int32) [(.ref k0), (.ref k1), .null] .null) (f10 : n0 ≤ a1) :
    Meets l y33 prog_37_method_3_code 2 (some (.array .byte)) ws ({ frames := 1, cells := 0, slots := 0, locals := 15 } : Room) ({ frames := 1, cells := 0, slots := 0, locals := 15 } : Room).cells ({ frames := 1, cells := 0, slots := 0, locals := 15 } : Room).slots Z #[(.ref a1)] h0 n0 (Q3320 Z a1 pa kp lf kr k0 k1 kk h0 n0) := by
  refine Meets.of (F := fun m => mkF m 0 #[.val (.ref a1), .unset] []) (plainFor_of_name pn_6) (fun m => ef_3320 m a1) ?_
  intro p e s m below meth c T0 hx hby hml hown0 hnm hret hlk hZ X0 e0
  have hown : s.vm.findClass cW = some m.cls := hown0
  have N0 := Fr.nil n0
  have KC0 := Keep.refl h0 [a1]
  show Goes _ _ _ _ _ _ (T0.setTop (mkF m 0 #[.val (.ref a1), .unset] []))
  refine own_aloadN X0 hx (hb hby d33_0) rfl rfl ?_
  refine own_getF X0 hx hZ hown (host := "") (Or.inl (own_w hw 116 rfl)) Via.refl e0 f2 (hb hby d33_1) (fun T1 X1 e1 => ?_)
  refine own_ifnonnullYes X1 hx (pc' := 15) (hb hby d33_4) (by decide) (by decide) ?_
  refine own_aloadN X1 hx (hb hby d33_15) rfl rfl ?_
  refine own_getF X1 hx hZ hown (host := "") (Or.inl (own_w hw 116 rfl)) Via.refl e1 f2 (hb hby d33_16) (fun T2 X2 e2 => ?_)
  refine own_getF X2 hx hZ hown (Or.inr (own_w hw 202 rfl)) Via.refl e2 f6 (hb hby d33_19) (fun T3 X3 e3 => ?_)
  refine own_aloadN X3 hx (hb hby d33_22) rfl rfl ?_
  refine own_dup X3 hx (hb hby d33_23) rfl ?_
  refine own_getF X3 hx hZ hown (host := "") (Or.inl (own_w hw 119 rfl)) Via.refl e3 f3 (hb hby d33_24) (fun T4 X4 e4 => ?_)
  refine own_dup_x1 X4 hx (hb hby d33_27) rfl rfl ?_
  refine own_iconst X4 hx (v := (1 : Int32)) (hb hby d33_28) rfl ?_
  refine own_iadd X4 hx (hb hby d33_29) ?_
  rw [show ((0 : Int32) + (1 : Int32)) = (1 : Int32) by decide]
  refine own_putF X4 hx hZ hown N0 (host := "") (Or.inl (own_w hw 119 rfl)) Via.refl e4 f3 f0 (Or.inl (own_w hw 120 rfl)) (own_w hw 102 rfl) (ty := .int) (by decide) rfl rfl f10 (hb hby d33_30) (fun T5 h5 lc5 X5 e5 N5 W5 => ?_)
  have E6_a1 := f0.wr W5
  have F6_path_a1 := f1.other W5 (Or.inr (slot_ne (Or.inr (own_w hw 112 rfl)) (Or.inl (own_w hw 120 rfl)) (by decide) (t := (.array (.object cN))) (t' := .int) (by decide) (by decide)))
  have F6_leaf_a1 := f2.other W5 (Or.inr (slot_ne (Or.inl (own_w hw 117 rfl)) (Or.inl (own_w hw 120 rfl)) (by decide) (t := (.object cN)) (t' := .int) (by decide) (by decide)))
  have F6_next_a1 := f3.same W5
  have F6_size_lf := f8.other W5 (Or.inl (ne_exa f5 f0 (by decide)))
  have A6_kr := f9.other W5 (Ne.symm (Exa.neArv f0 f9 (own_w hw 102 rfl)))
  have O6 := O0.wr W5 f10
  have KC6 := KC0.wr W5 (Or.inl (List.mem_of_getElem? (i := 0) rfl))
  refine own_aaload X5 hx hZ e5 A6_kr rfl ⟨by decide, by decide⟩ (v := (.ref k0)) rfl (hb hby d33_33) ?_
  refine own_astoreN X5 hx (Ls' := #[.val (.ref a1), .val (.ref k0)]) (hb hby d33_34) rfl rfl ?_
  refine own_aloadN X5 hx (hb hby d33_35) rfl rfl ?_
  refine own_private X5 hx hZ hown (y := y16) (own_w hw 121 rfl) (own_w hw 122 rfl) (own_w hw 102 rfl) (own_w hw 123 rfl) (own_w hw 103 rfl) (own_w hw 124 rfl) (a := a1) E6_a1 (by decide) (W := 0) (by decide) (by decide) N5 e5 (by rw [hml]; rfl) (argsL := []) (rest := []) (lenOf pd_19 rfl) (Nat.le_of_eq rfl) (by decide) (by decide) (rm16n l Z a0 hw [] a1 lf (1 : Int32) (2 : Int32) h5 n0 O6 F6_leaf_a1 F6_next_a1 F6_size_lf (by first | assumption | decide | exact ⟨rfl, rfl⟩)) rfl (hb hby d33_36) ?_
  intro v7 T7 lc7 X7 N7 hQ7
  obtain ⟨rfl, e7⟩ := hQ7
  refine own_aloadN X7 hx (hb hby d33_39) rfl rfl ?_
  show Goes _ _ _ _ _ _ (T7.setTop (mkF m 40 #[.val (.ref a1), .val (.ref k0)] [(.ref k0)]))
  exact own_retR X7 hx N7 hlk (by decide) (by decide) hret rfl rfl rfl (hb hby d33_40) (by rw [e7]; exact ⟨rfl, KC6, F6_path_a1, F6_leaf_a1, F6_next_a1⟩)
def Q3220 (Z : State) (a1 : Addr) (pa : Addr) (kp : ClassId) (lf : Addr) (kr : Addr) (k0 : Addr) (k1 : Addr) (kk : ClassId) (h0 : Heap) (n0 : Nat) (v : Option Value) (h : Heap) : Prop :=
  (v = some (.ref k0) ∧ Keep h0 h [a1] ∧ Fld Z h a1 cW "path" dA (.ref pa) ∧ Fld Z h a1 cW "leaf" dN (.ref lf) ∧ Fld Z h a1 cW "next" "I" (.int (1 : Int32)))
theorem ef_3220 (m : MethodId) (a1 : Addr) : entryFrame m #[(.ref a1)] 1 = mkF m 0 #[.val (.ref a1)] [] := by first | (simp [entryFrame, mkF, argsToLocals, Value.category]; done) | rfl
set_option maxRecDepth 65536 in
set_option maxHeartbeats 40000000 in
theorem rm3220 (l : Launch) (Z : State) (a0 : Array Value) (hw : ∀ d ∈ tables_1, d.before a0 Z = true) (ws : List Jvm.Cond) (a1 : Addr) (pa : Addr) (kp : ClassId) (lf : Addr) (kr : Addr) (k0 : Addr) (k1 : Addr) (kk : ClassId) (h0 : Heap) (n0 : Nat) (O0 : Old Z n0 h0) (f0 : Exa Z h0 a1 cW) (f1 : Fld Z h0 a1 cW "path" dA (.ref pa)) (f2 : Fld Z h0 a1 cW "leaf" dN (.ref lf)) (f3 : Fld Z h0 a1 cW "next" "I" (.int (0 : Int32))) (f4 : Arv Z h0 pa kp (.object cN) (0 : Int32) [] .null) (f5 : Exa Z h0 lf cN) (f6 : Fld Z h0 lf cN "keys" "[[B" (.ref kr)) (f7 : Fld Z h0 lf cN "children" dA .null) (f8 : Fld Z h0 lf cN "size" "I" (.int (2 : Int32))) (f9 : Arv Z h0 kr kk (.array .byte) (64 : Int32) [(.ref k0), (.ref k1), .null] .null) (f10 : n0 ≤ a1) :
    Meets l y32 prog_37_method_5_code 1 (some (.object "java/lang/Object")) ws ({ frames := 2, cells := 0, slots := 0, locals := 28 } : Room) ({ frames := 2, cells := 0, slots := 0, locals := 28 } : Room).cells ({ frames := 2, cells := 0, slots := 0, locals := 28 } : Room).slots Z #[(.ref a1)] h0 n0 (Q3220 Z a1 pa kp lf kr k0 k1 kk h0 n0) := by
  refine Meets.of (F := fun m => mkF m 0 #[.val (.ref a1)] []) (plainFor_of_name pn_6) (fun m => ef_3220 m a1) ?_
  intro p e s m below meth c T0 hx hby hml hown0 hnm hret hlk hZ X0 e0
  have hown : s.vm.findClass cW = some m.cls := hown0
  have N0 := Fr.nil n0
  have KC0 := Keep.refl h0 [a1]
  show Goes _ _ _ _ _ _ (T0.setTop (mkF m 0 #[.val (.ref a1)] []))
  refine own_aloadN X0 hx (hb hby d32_0) rfl rfl ?_
  refine own_virtual X0 hx hZ hown (y := y33) (z := y33) (own_w hw 197 rfl) (own_w hw 198 rfl) (notFace_of_selects (args := #[]) (mvT hZ (own_w hw 200 rfl))) (own_w hw 200 rfl) (own_w hw 199 rfl) (own_w hw 103 rfl) (own_w hw 201 rfl) (a := a1) f0 (by decide) (W := 0) (by decide) (by decide) N0 e0 (by rw [hml]; rfl) (argsL := []) (rest := []) (lenOf pd_21 rfl) (Nat.le_of_eq rfl) (by decide) (by decide) (rm3320 l Z a0 hw [] a1 pa kp lf kr k0 k1 kk h0 n0 O0 f0 f1 f2 f3 f4 f5 f6 f7 f8 f9 f10) rfl (hb hby d32_1) ?_
  intro v1 T1 lc1 X1 N1 hQ1
  obtain ⟨rfl, K1, r1_0, r1_1, r1_2⟩ := hQ1
  have O2 := O0.keep K1 (allS f10 all0)
  have KC2 := KC0.trans K1 (allS (Or.inl (List.mem_of_getElem? (i := 0) rfl)) all0)
  show Goes _ _ _ _ _ _ (T1.setTop (mkF m 4 #[.val (.ref a1)] [(.ref k0)]))
  exact own_retR X1 hx N1 hlk (by decide) (by decide) hret rfl rfl rfl (hb hby d32_4) (⟨rfl, KC2, r1_0, r1_1, r1_2⟩)
def Q3321 (Z : State) (a1 : Addr) (pa : Addr) (kp : ClassId) (lf : Addr) (kr : Addr) (k0 : Addr) (k1 : Addr) (kk : ClassId) (h0 : Heap) (n0 : Nat) (v : Option Value) (h : Heap) : Prop :=
  (v = some (.ref k1) ∧ Keep h0 h [a1] ∧ Fld Z h a1 cW "path" dA (.ref pa) ∧ Fld Z h a1 cW "leaf" dN .null ∧ Fld Z h a1 cW "next" "I" (.int (2 : Int32)))
theorem ef_3321 (m : MethodId) (a1 : Addr) : entryFrame m #[(.ref a1)] 2 = mkF m 0 #[.val (.ref a1), .unset] [] := by first | (simp [entryFrame, mkF, argsToLocals, Value.category]; done) | rfl
set_option maxRecDepth 65536 in
set_option maxHeartbeats 40000000 in
theorem rm3321 (l : Launch) (Z : State) (a0 : Array Value) (hw : ∀ d ∈ tables_1, d.before a0 Z = true) (ws : List Jvm.Cond) (a1 : Addr) (pa : Addr) (kp : ClassId) (lf : Addr) (kr : Addr) (k0 : Addr) (k1 : Addr) (kk : ClassId) (h0 : Heap) (n0 : Nat) (O0 : Old Z n0 h0) (f0 : Exa Z h0 a1 cW) (f1 : Fld Z h0 a1 cW "path" dA (.ref pa)) (f2 : Fld Z h0 a1 cW "leaf" dN (.ref lf)) (f3 : Fld Z h0 a1 cW "next" "I" (.int (1 : Int32))) (f4 : Arv Z h0 pa kp (.object cN) (0 : Int32) [] .null) (f5 : Exa Z h0 lf cN) (f6 : Fld Z h0 lf cN "keys" "[[B" (.ref kr)) (f7 : Fld Z h0 lf cN "children" dA .null) (f8 : Fld Z h0 lf cN "size" "I" (.int (2 : Int32))) (f9 : Arv Z h0 kr kk (.array .byte) (64 : Int32) [(.ref k0), (.ref k1), .null] .null) (f10 : n0 ≤ a1) :
    Meets l y33 prog_37_method_3_code 2 (some (.array .byte)) ws ({ frames := 1, cells := 0, slots := 0, locals := 15 } : Room) ({ frames := 1, cells := 0, slots := 0, locals := 15 } : Room).cells ({ frames := 1, cells := 0, slots := 0, locals := 15 } : Room).slots Z #[(.ref a1)] h0 n0 (Q3321 Z a1 pa kp lf kr k0 k1 kk h0 n0) := by
  refine Meets.of (F := fun m => mkF m 0 #[.val (.ref a1), .unset] []) (plainFor_of_name pn_6) (fun m => ef_3321 m a1) ?_
  intro p e s m below meth c T0 hx hby hml hown0 hnm hret hlk hZ X0 e0
  have hown : s.vm.findClass cW = some m.cls := hown0
  have N0 := Fr.nil n0
  have KC0 := Keep.refl h0 [a1]
  show Goes _ _ _ _ _ _ (T0.setTop (mkF m 0 #[.val (.ref a1), .unset] []))
  refine own_aloadN X0 hx (hb hby d33_0) rfl rfl ?_
  refine own_getF X0 hx hZ hown (host := "") (Or.inl (own_w hw 116 rfl)) Via.refl e0 f2 (hb hby d33_1) (fun T1 X1 e1 => ?_)
  refine own_ifnonnullYes X1 hx (pc' := 15) (hb hby d33_4) (by decide) (by decide) ?_
  refine own_aloadN X1 hx (hb hby d33_15) rfl rfl ?_
  refine own_getF X1 hx hZ hown (host := "") (Or.inl (own_w hw 116 rfl)) Via.refl e1 f2 (hb hby d33_16) (fun T2 X2 e2 => ?_)
  refine own_getF X2 hx hZ hown (Or.inr (own_w hw 202 rfl)) Via.refl e2 f6 (hb hby d33_19) (fun T3 X3 e3 => ?_)
  refine own_aloadN X3 hx (hb hby d33_22) rfl rfl ?_
  refine own_dup X3 hx (hb hby d33_23) rfl ?_
  refine own_getF X3 hx hZ hown (host := "") (Or.inl (own_w hw 119 rfl)) Via.refl e3 f3 (hb hby d33_24) (fun T4 X4 e4 => ?_)
  refine own_dup_x1 X4 hx (hb hby d33_27) rfl rfl ?_
  refine own_iconst X4 hx (v := (1 : Int32)) (hb hby d33_28) rfl ?_
  refine own_iadd X4 hx (hb hby d33_29) ?_
  rw [show ((1 : Int32) + (1 : Int32)) = (2 : Int32) by decide]
  refine own_putF X4 hx hZ hown N0 (host := "") (Or.inl (own_w hw 119 rfl)) Via.refl e4 f3 f0 (Or.inl (own_w hw 120 rfl)) (own_w hw 102 rfl) (ty := .int) (by decide) rfl rfl f10 (hb hby d33_30) (fun T5 h5 lc5 X5 e5 N5 W5 => ?_)
  have E6_a1 := f0.wr W5
  have E6_lf := f5.wr W5
  have F6_path_a1 := f1.other W5 (Or.inr (slot_ne (Or.inr (own_w hw 112 rfl)) (Or.inl (own_w hw 120 rfl)) (by decide) (t := (.array (.object cN))) (t' := .int) (by decide) (by decide)))
  have F6_leaf_a1 := f2.other W5 (Or.inr (slot_ne (Or.inl (own_w hw 117 rfl)) (Or.inl (own_w hw 120 rfl)) (by decide) (t := (.object cN)) (t' := .int) (by decide) (by decide)))
  have F6_next_a1 := f3.same W5
  have F6_size_lf := f8.other W5 (Or.inl (ne_exa f5 f0 (by decide)))
  have A6_pa := f4.other W5 (Ne.symm (Exa.neArv f0 f4 (own_w hw 102 rfl)))
  have A6_kr := f9.other W5 (Ne.symm (Exa.neArv f0 f9 (own_w hw 102 rfl)))
  have O6 := O0.wr W5 f10
  have KC6 := KC0.wr W5 (Or.inl (List.mem_of_getElem? (i := 0) rfl))
  refine own_aaload X5 hx hZ e5 A6_kr rfl ⟨by decide, by decide⟩ (v := (.ref k1)) rfl (hb hby d33_33) ?_
  refine own_astoreN X5 hx (Ls' := #[.val (.ref a1), .val (.ref k1)]) (hb hby d33_34) rfl rfl ?_
  refine own_aloadN X5 hx (hb hby d33_35) rfl rfl ?_
  refine own_private X5 hx hZ hown (y := y16) (own_w hw 121 rfl) (own_w hw 122 rfl) (own_w hw 102 rfl) (own_w hw 123 rfl) (own_w hw 103 rfl) (own_w hw 124 rfl) (a := a1) E6_a1 (by decide) (W := 0) (by decide) (by decide) N5 e5 (by rw [hml]; rfl) (argsL := []) (rest := []) (lenOf pd_19 rfl) (Nat.le_of_eq rfl) (by decide) (by decide) (rm16e l Z a0 hw [] a1 pa kp lf (2 : Int32) h5 n0 O6 E6_a1 F6_path_a1 F6_leaf_a1 F6_next_a1 A6_pa F6_size_lf E6_lf f10) rfl (hb hby d33_36) ?_
  intro v7 T7 lc7 X7 N7 hQ7
  obtain ⟨rfl, K7, r7_0, r7_1, r7_2⟩ := hQ7
  have O8 := O6.keep K7 (allS f10 all0)
  have KC8 := KC6.trans K7 (allS (Or.inl (List.mem_of_getElem? (i := 0) rfl)) all0)
  refine own_aloadN X7 hx (hb hby d33_39) rfl rfl ?_
  show Goes _ _ _ _ _ _ (T7.setTop (mkF m 40 #[.val (.ref a1), .val (.ref k1)] [(.ref k1)]))
  exact own_retR X7 hx N7 hlk (by decide) (by decide) hret rfl rfl rfl (hb hby d33_40) (⟨rfl, KC8, r7_0, r7_1, r7_2⟩)
def Q3221 (Z : State) (a1 : Addr) (pa : Addr) (kp : ClassId) (lf : Addr) (kr : Addr) (k0 : Addr) (k1 : Addr) (kk : ClassId) (h0 : Heap) (n0 : Nat) (v : Option Value) (h : Heap) : Prop :=
  (v = some (.ref k1) ∧ Keep h0 h [a1] ∧ Fld Z h a1 cW "path" dA (.ref pa) ∧ Fld Z h a1 cW "leaf" dN .null ∧ Fld Z h a1 cW "next" "I" (.int (2 : Int32)))
theorem ef_3221 (m : MethodId) (a1 : Addr) : entryFrame m #[(.ref a1)] 1 = mkF m 0 #[.val (.ref a1)] [] := by first | (simp [entryFrame, mkF, argsToLocals, Value.category]; done) | rfl
set_option maxRecDepth 65536 in
set_option maxHeartbeats 40000000 in
theorem rm3221 (l : Launch) (Z : State) (a0 : Array Value) (hw : ∀ d ∈ tables_1, d.before a0 Z = true) (ws : List Jvm.Cond) (a1 : Addr) (pa : Addr) (kp : ClassId) (lf : Addr) (kr : Addr) (k0 : Addr) (k1 : Addr) (kk : ClassId) (h0 : Heap) (n0 : Nat) (O0 : Old Z n0 h0) (f0 : Exa Z h0 a1 cW) (f1 : Fld Z h0 a1 cW "path" dA (.ref pa)) (f2 : Fld Z h0 a1 cW "leaf" dN (.ref lf)) (f3 : Fld Z h0 a1 cW "next" "I" (.int (1 : Int32))) (f4 : Arv Z h0 pa kp (.object cN) (0 : Int32) [] .null) (f5 : Exa Z h0 lf cN) (f6 : Fld Z h0 lf cN "keys" "[[B" (.ref kr)) (f7 : Fld Z h0 lf cN "children" dA .null) (f8 : Fld Z h0 lf cN "size" "I" (.int (2 : Int32))) (f9 : Arv Z h0 kr kk (.array .byte) (64 : Int32) [(.ref k0), (.ref k1), .null] .null) (f10 : n0 ≤ a1) :
    Meets l y32 prog_37_method_5_code 1 (some (.object "java/lang/Object")) ws ({ frames := 2, cells := 0, slots := 0, locals := 28 } : Room) ({ frames := 2, cells := 0, slots := 0, locals := 28 } : Room).cells ({ frames := 2, cells := 0, slots := 0, locals := 28 } : Room).slots Z #[(.ref a1)] h0 n0 (Q3221 Z a1 pa kp lf kr k0 k1 kk h0 n0) := by
  refine Meets.of (F := fun m => mkF m 0 #[.val (.ref a1)] []) (plainFor_of_name pn_6) (fun m => ef_3221 m a1) ?_
  intro p e s m below meth c T0 hx hby hml hown0 hnm hret hlk hZ X0 e0
  have hown : s.vm.findClass cW = some m.cls := hown0
  have N0 := Fr.nil n0
  have KC0 := Keep.refl h0 [a1]
  show Goes _ _ _ _ _ _ (T0.setTop (mkF m 0 #[.val (.ref a1)] []))
  refine own_aloadN X0 hx (hb hby d32_0) rfl rfl ?_
  refine own_virtual X0 hx hZ hown (y := y33) (z := y33) (own_w hw 197 rfl) (own_w hw 198 rfl) (notFace_of_selects (args := #[]) (mvT hZ (own_w hw 200 rfl))) (own_w hw 200 rfl) (own_w hw 199 rfl) (own_w hw 103 rfl) (own_w hw 201 rfl) (a := a1) f0 (by decide) (W := 0) (by decide) (by decide) N0 e0 (by rw [hml]; rfl) (argsL := []) (rest := []) (lenOf pd_21 rfl) (Nat.le_of_eq rfl) (by decide) (by decide) (rm3321 l Z a0 hw [] a1 pa kp lf kr k0 k1 kk h0 n0 O0 f0 f1 f2 f3 f4 f5 f6 f7 f8 f9 f10) rfl (hb hby d32_1) ?_
  intro v1 T1 lc1 X1 N1 hQ1
  obtain ⟨rfl, K1, r1_0, r1_1, r1_2⟩ := hQ1
  have O2 := O0.keep K1 (allS f10 all0)
  have KC2 := KC0.trans K1 (allS (Or.inl (List.mem_of_getElem? (i := 0) rfl)) all0)
  show Goes _ _ _ _ _ _ (T1.setTop (mkF m 4 #[.val (.ref a1)] [(.ref k1)]))
  exact own_retR X1 hx N1 hlk (by decide) (by decide) hret rfl rfl rfl (hb hby d32_4) (⟨rfl, KC2, r1_0, r1_1, r1_2⟩)
theorem d13_0 : decode prog_35_method_7_code 0 = .ok (.aload_n 0, 1) := by decide +kernel
theorem d13_1 : decode prog_35_method_7_code 1 = .ok (.aload_n 1, 1) := by decide +kernel
theorem d13_2 : decode prog_35_method_7_code 2 = .ok (.iload_n 2, 1) := by decide +kernel
theorem d13_3 : decode prog_35_method_7_code 3 = .ok (.invokedynamic 58, 5) := by decide +kernel
theorem d13_8 : decode prog_35_method_7_code 8 = .ok (.areturn, 1) := by decide +kernel
def Q13 (Z : State) (a1 : Addr) (a2 : Addr) (h0 : Heap) (n0 : Nat) (v : Option Value) (h : Heap) : Prop :=
  (∃ (b : Addr), v = some (.ref b) ∧ Keep h0 h [] ∧ LamO Z h b [(.ref a1), (.ref a2), (.int (1 : Int32))] ∧ h0.size ≤ b)
theorem ef_13 (m : MethodId) (a1 : Addr) (a2 : Addr) : entryFrame m #[(.ref a1), (.ref a2), (.int (1 : Int32))] 3 = mkF m 0 #[.val (.ref a1), .val (.ref a2), .val (.int (1 : Int32))] [] := by first | (simp [entryFrame, mkF, argsToLocals, Value.category]; done) | rfl
set_option maxRecDepth 65536 in
set_option maxHeartbeats 40000000 in
theorem rm13 (l : Launch) (Z : State) (a0 : Array Value) (hw : ∀ d ∈ tables_1, d.before a0 Z = true) (ws : List Jvm.Cond) (a1 : Addr) (a2 : Addr) (h0 : Heap) (n0 : Nat) (O0 : Old Z n0 h0) :
    Meets l y13 prog_35_method_7_code 3 (some (.object "java/lang/Iterable")) ws ({ frames := 0, cells := 1, slots := 3, locals := 3075 } : Room) ({ frames := 0, cells := 1, slots := 3, locals := 3075 } : Room).cells ({ frames := 0, cells := 1, slots := 3, locals := 3075 } : Room).slots Z #[(.ref a1), (.ref a2), (.int (1 : Int32))] h0 n0 (Q13 Z a1 a2 h0 n0) := by
  refine Meets.ofN (F := fun m => mkF m 0 #[.val (.ref a1), .val (.ref a2), .val (.int (1 : Int32))] []) (plainFor_of_name pn_5) (fun m => ef_13 m a1 a2) ?_
  intro p e s m below meth c T0 hx hby hml hown0 hnm hret hlk hZ hNm X0 e0
  have hown : s.vm.findClass cT = some m.cls := hown0
  have N0 := Fr.nil n0
  have KC0 := Keep.refl h0 []
  show Goes _ _ _ _ _ _ (T0.setTop (mkF m 0 #[.val (.ref a1), .val (.ref a2), .val (.int (1 : Int32))] []))
  refine own_aloadN X0 hx (hb hby d13_0) rfl rfl ?_
  refine own_aloadN X0 hx (hb hby d13_1) rfl rfl ?_
  refine own_iloadN X0 hx (hb hby d13_2) rfl ?_
  refine own_lamMake X0 hx hZ hNm (own_w hw 91 rfl) (own_w hw 94 rfl) e0 (by rw [hml]; rfl) (hb hby d13_3) (by decide) (by decide) (by decide) (fun T1 h1 b1 g1 X1 e1 E1 L1_ => ?_)
  have ge_b1 : n0 ≤ b1 := Nat.le_trans (own_sz O0) (Nat.le_of_eq g1.symm)
  have sz_b1 : h0.size ≤ b1 := Nat.le_trans KC0.1 (Nat.le_of_eq g1.symm)
  have O2 := O0.ext E1
  have KC2 := KC0.ext E1
  show Goes _ _ _ _ _ _ (T1.setTop (mkF m 8 #[.val (.ref a1), .val (.ref a2), .val (.int (1 : Int32))] [(.ref b1)]))
  exact own_retR X1 hx N0 hlk (by decide) (by decide) hret rfl rfl rfl (hb hby d13_8) (by rw [e1]; exact ⟨b1, rfl, KC2, L1_, sz_b1⟩)
theorem d12_0 : decode method_6_code 0 = .ok (.aload_n 0, 1) := by decide +kernel
theorem d12_1 : decode method_6_code 1 = .ok (.iconst 0, 1) := by decide +kernel
theorem d12_2 : decode method_6_code 2 = .ok (.newarray .byte, 2) := by decide +kernel
theorem d12_4 : decode method_6_code 4 = .ok (.iconst 1, 1) := by decide +kernel
theorem d12_5 : decode method_6_code 5 = .ok (.invokevirtual 42, 3) := by decide +kernel
theorem pd_22 : parseMethodDescriptor "([BZ)Ljava/lang/Iterable;" = some ⟨[(.array .byte), .boolean], some (.object "java/lang/Iterable")⟩ := by decide +kernel
theorem d12_8 : decode method_6_code 8 = .ok (.invokeinterface 46 1, 5) := by decide +kernel
theorem pd_23 : parseMethodDescriptor "()Ljava/util/Iterator;" = some ⟨[], some (.object "java/util/Iterator")⟩ := by decide +kernel
theorem d12_13 : decode method_6_code 13 = .ok (.astore_n 1, 1) := by decide +kernel
theorem d12_14 : decode method_6_code 14 = .ok (.aload_n 1, 1) := by decide +kernel
theorem d12_15 : decode method_6_code 15 = .ok (.invokeinterface 52 1, 5) := by decide +kernel
theorem d12_20 : decode method_6_code 20 = .ok (.ifCond .ne 5, 3) := by decide +kernel
theorem d12_23 : decode method_6_code 23 = .ok (.iconst 0, 1) := by decide +kernel
theorem d12_24 : decode method_6_code 24 = .ok (.ireturn, 1) := by decide +kernel
def Q120 (Z : State) (a1 : Addr) (nd : Addr) (kr : Addr) (kk : ClassId) (h0 : Heap) (n0 : Nat) (v : Option Value) (h : Heap) : Prop :=
  (v = some (.int (0 : Int32)) ∧ Keep h0 h [])
theorem ef_120 (m : MethodId) (a1 : Addr) : entryFrame m #[(.ref a1)] 4 = mkF m 0 #[.val (.ref a1), .unset, .unset, .unset] [] := by first | (simp [entryFrame, mkF, argsToLocals, Value.category]; done) | rfl
set_option maxRecDepth 65536 in
set_option maxHeartbeats 40000000 in
theorem rm120 (l : Launch) (Z : State) (a0 : Array Value) (hw : ∀ d ∈ tables_1, d.before a0 Z = true) (ws : List Jvm.Cond) (a1 : Addr) (nd : Addr) (kr : Addr) (kk : ClassId) (h0 : Heap) (n0 : Nat) (O0 : Old Z n0 h0) (f0 : Exa Z h0 a1 cT) (f1 : Fld Z h0 a1 cT "root" dN (.ref nd)) (f2 : Exa Z h0 nd cN) (f3 : Fld Z h0 nd cN "keys" "[[B" (.ref kr)) (f4 : Fld Z h0 nd cN "children" dA .null) (f5 : Fld Z h0 nd cN "size" "I" (.int (0 : Int32))) (f6 : Arv Z h0 kr kk (.array .byte) (64 : Int32) [.null, .null, .null] .null) :
    Meets l y12 method_6_code 4 (some .int) ws ({ frames := 4, cells := 5, slots := 7, locals := 3089 } : Room) ({ frames := 4, cells := 5, slots := 7, locals := 3089 } : Room).cells ({ frames := 4, cells := 5, slots := 7, locals := 3089 } : Room).slots Z #[(.ref a1)] h0 n0 (Q120 Z a1 nd kr kk h0 n0) := by
  refine Meets.of (F := fun m => mkF m 0 #[.val (.ref a1), .unset, .unset, .unset] []) (plainFor_of_name pn_3) (fun m => ef_120 m a1) ?_
  intro p e s m below meth c T0 hx hby hml hown0 hnm hret hlk hZ X0 e0
  have hown : s.vm.findClass cL = some m.cls := hown0
  have N0 := Fr.nil n0
  have KC0 := Keep.refl h0 []
  show Goes _ _ _ _ _ _ (T0.setTop (mkF m 0 #[.val (.ref a1), .unset, .unset, .unset] []))
  refine own_aloadN X0 hx (hb hby d12_0) rfl rfl ?_
  refine own_iconst X0 hx (v := (0 : Int32)) (hb hby d12_1) rfl ?_
  refine own_newP X0 hx hZ (own_w hw 0 rfl) e0 (hb hby d12_2) (by decide) (cap := 0) (by decide) (by decide) (by decide) (by decide) (fun T1 h1 b1 k1 g1 X1 e1 E1 A1 => ?_)
  have ge_b1 : n0 ≤ b1 := Nat.le_trans (own_sz O0) (Nat.le_of_eq g1.symm)
  have sz_b1 : h0.size ≤ b1 := Nat.le_trans KC0.1 (Nat.le_of_eq g1.symm)
  have E2_a1 := f0.ext E1
  have E2_nd := f2.ext E1
  have F2_root_a1 := f1.ext E1
  have F2_keys_nd := f3.ext E1
  have F2_children_nd := f4.ext E1
  have F2_size_nd := f5.ext E1
  have A2_kr := f6.ext E1
  have O2 := O0.ext E1
  have KC2 := KC0.ext E1
  have V1 : Arv Z h1 b1 k1 .byte (0 : Int32) [] (.int (0 : Int32)) := A1
  refine own_iconst X1 hx (v := (1 : Int32)) (hb hby d12_4) rfl ?_
  refine own_virtual X1 hx hZ hown (y := y13) (z := y13) (own_w hw 86 rfl) (own_w hw 87 rfl) (notFace_of_selects (args := #[]) (mvT hZ (own_w hw 89 rfl))) (own_w hw 89 rfl) (own_w hw 88 rfl) (own_w hw 3 rfl) (own_w hw 90 rfl) (a := a1) E2_a1 (by decide) (W := 0) (by decide) (by decide) N0 e1 (by rw [hml]; rfl) (argsL := [(.ref b1), (.int (1 : Int32))]) (rest := []) (lenOf pd_22 rfl) (Nat.le_of_eq rfl) (by decide) (by decide) (rm13 l Z a0 hw [] a1 b1 h1 n0 O2) rfl (hb hby d12_5) ?_
  intro v3 T3 lc3 X3 N3 hQ3
  obtain ⟨b_3, rfl, K3, r3_0, r3_1⟩ := hQ3
  have E4_a1 := E2_a1.keep K3
  have E4_nd := E2_nd.keep K3
  have F4_root_a1 := F2_root_a1.keep K3 nin0
  have F4_keys_nd := F2_keys_nd.keep K3 nin0
  have F4_children_nd := F2_children_nd.keep K3 nin0
  have F4_size_nd := F2_size_nd.keep K3 nin0
  have A4_kr := A2_kr.keep K3 nin0
  have A4_b1 := V1.keep K3 nin0
  have O4 := O2.keep K3 all0
  have KC4 := KC2.trans K3 all0
  have ge_b_3 : n0 ≤ b_3 := Nat.le_trans (own_sz O2) r3_1
  have sz_b_3 : h0.size ≤ b_3 := Nat.le_trans KC2.1 r3_1
  refine own_lamCall X3 hx hZ hown (own_w hw 95 rfl) (own_w hw 96 rfl) (own_w hw 97 rfl) (own_w hw 94 rfl) (own_w hw 100 rfl) (own_w hw 98 rfl) (own_w hw 2 rfl) (own_w hw 99 rfl) (own_w hw 3 rfl) (by decide) (W := 0) (by decide) N3 rfl (by rw [hml]; rfl) (Nat.le_of_eq rfl) (by decide) (by decide) r3_0 E4_a1 (rm140 l Z a0 hw [] a1 b1 nd kr kk k1 T3.heap n0 O4 F4_root_a1 E4_nd F4_keys_nd F4_children_nd F4_size_nd A4_kr A4_b1) (fun _ _ hz => by obtain ⟨_, _, _, q, -⟩ := hz; exact ⟨_, q⟩) (hb hby d12_8) ?_
  intro v5 T5 lc5 X5 N5 hQ5
  obtain ⟨wk_5, pa_5, kp_5, rfl, K5, r5_0, r5_1, r5_2, r5_3, r5_4, r5_5⟩ := hQ5
  have O6 := O4.keep K5 all0
  have KC6 := KC4.trans K5 all0
  have ge_wk_5 : n0 ≤ wk_5 := Nat.le_trans (own_sz O4) r5_5
  have sz_wk_5 : h0.size ≤ wk_5 := Nat.le_trans KC4.1 r5_5
  refine own_astoreN X5 hx (Ls' := #[.val (.ref a1), .val (.ref wk_5), .unset, .unset]) (hb hby d12_13) rfl rfl ?_
  refine own_aloadN X5 hx (hb hby d12_14) rfl rfl ?_
  refine own_iface X5 hx hZ hown (y := (⟨"java/util/Iterator", "hasNext", "()Z"⟩ : MethodName)) (z := y17) (own_w hw 126 rfl) (own_w hw 127 rfl) (own_w hw 128 rfl) (own_w hw 129 rfl) (own_w hw 130 rfl) (own_w hw 131 rfl) (own_w hw 132 rfl) (own_w hw 133 rfl) (own_w hw 103 rfl) (own_w hw 134 rfl) (a := wk_5) r5_0 (by decide) (W := 0) (by decide) (by decide) N5 rfl (by rw [hml]; rfl) (argsL := []) (rest := []) (lenOf pd_8 rfl) (Nat.le_of_eq rfl) (by decide) (by decide) (rm17n l Z a0 hw [] wk_5 T5.heap n0 O6 r5_2) rfl (hb hby d12_15) ?_
  intro v7 T7 lc7 X7 N7 hQ7
  obtain ⟨rfl, e7⟩ := hQ7
  refine own_ifNo X7 hx (hb hby d12_20) ((if0 _ _).trans (teq (by decide : (0 : Int32) = (0 : Int32))).2) ?_
  refine own_iconst X7 hx (v := (0 : Int32)) (hb hby d12_23) rfl ?_
  show Goes _ _ _ _ _ _ (T7.setTop (mkF m 24 #[.val (.ref a1), .val (.ref wk_5), .unset, .unset] [(.int (0 : Int32))]))
  exact own_retI X7 hx N7 hlk (by decide) (by decide) hret (hb hby d12_24) (by rw [e7]; exact ⟨rfl, KC6⟩)
theorem d12_25 : decode method_6_code 25 = .ok (.aload_n 1, 1) := by decide +kernel
theorem d12_26 : decode method_6_code 26 = .ok (.invokeinterface 58 1, 5) := by decide +kernel
theorem pd_24 : parseMethodDescriptor "()Ljava/lang/Object;" = some ⟨[], some (.object "java/lang/Object")⟩ := by decide +kernel
theorem d12_31 : decode method_6_code 31 = .ok (.checkcast 62, 3) := by decide +kernel
theorem d12_34 : decode method_6_code 34 = .ok (.invokestatic 64, 3) := by decide +kernel
theorem pd_25 : parseMethodDescriptor "([B)I" = some ⟨[(.array .byte)], some .int⟩ := by decide +kernel
theorem d12_37 : decode method_6_code 37 = .ok (.istore_n 2, 1) := by decide +kernel
theorem d12_38 : decode method_6_code 38 = .ok (.iload_n 2, 1) := by decide +kernel
theorem d12_39 : decode method_6_code 39 = .ok (.ifCond .ge 5, 3) := by decide +kernel
theorem d12_44 : decode method_6_code 44 = .ok (.aload_n 1, 1) := by decide +kernel
theorem d12_45 : decode method_6_code 45 = .ok (.invokeinterface 52 1, 5) := by decide +kernel
theorem d12_50 : decode method_6_code 50 = .ok (.ifCond .ne 8, 3) := by decide +kernel
theorem d12_53 : decode method_6_code 53 = .ok (.iload_n 2, 1) := by decide +kernel
theorem d12_54 : decode method_6_code 54 = .ok (.invokestatic 17, 3) := by decide +kernel
theorem pd_26 : parseMethodDescriptor "(I)I" = some ⟨[.int], some .int⟩ := by decide +kernel
theorem d12_57 : decode method_6_code 57 = .ok (.ireturn, 1) := by decide +kernel
def Q121 (Z : State) (a1 : Addr) (nd : Addr) (kr : Addr) (k0 : Addr) (kk : ClassId) (x : Int32) (c0 : ClassId) (h0 : Heap) (n0 : Nat) (v : Option Value) (h : Heap) : Prop :=
  (v = some (.int (((x &&& (255 : Int32)) + (1 : Int32)) * (512 : Int32))) ∧ Keep h0 h [])
theorem ef_121 (m : MethodId) (a1 : Addr) : entryFrame m #[(.ref a1)] 4 = mkF m 0 #[.val (.ref a1), .unset, .unset, .unset] [] := by first | (simp [entryFrame, mkF, argsToLocals, Value.category]; done) | rfl
set_option maxRecDepth 65536 in
set_option maxHeartbeats 40000000 in
theorem rm121 (l : Launch) (Z : State) (a0 : Array Value) (hw : ∀ d ∈ tables_1, d.before a0 Z = true) (ws : List Jvm.Cond) (a1 : Addr) (nd : Addr) (kr : Addr) (k0 : Addr) (kk : ClassId) (x : Int32) (c0 : ClassId) (h0 : Heap) (n0 : Nat) (O0 : Old Z n0 h0) (f0 : Exa Z h0 a1 cT) (f1 : Fld Z h0 a1 cT "root" dN (.ref nd)) (f2 : Exa Z h0 nd cN) (f3 : Fld Z h0 nd cN "keys" "[[B" (.ref kr)) (f4 : Fld Z h0 nd cN "children" dA .null) (f5 : Fld Z h0 nd cN "size" "I" (.int (1 : Int32))) (f6 : Arv Z h0 kr kk (.array .byte) (64 : Int32) [(.ref k0), .null, .null] .null) (f7 : Arv Z h0 k0 c0 .byte (1 : Int32) [(.int x)] (.int (0 : Int32))) (f8 : Exa Z h0 k0 "[B") :
    Meets l y12 method_6_code 4 (some .int) ws ({ frames := 6, cells := 5, slots := 7, locals := 3089 } : Room) ({ frames := 6, cells := 5, slots := 7, locals := 3089 } : Room).cells ({ frames := 6, cells := 5, slots := 7, locals := 3089 } : Room).slots Z #[(.ref a1)] h0 n0 (Q121 Z a1 nd kr k0 kk x c0 h0 n0) := by
  refine Meets.of (F := fun m => mkF m 0 #[.val (.ref a1), .unset, .unset, .unset] []) (plainFor_of_name pn_3) (fun m => ef_121 m a1) ?_
  intro p e s m below meth c T0 hx hby hml hown0 hnm hret hlk hZ X0 e0
  have hown : s.vm.findClass cL = some m.cls := hown0
  have N0 := Fr.nil n0
  have KC0 := Keep.refl h0 []
  show Goes _ _ _ _ _ _ (T0.setTop (mkF m 0 #[.val (.ref a1), .unset, .unset, .unset] []))
  refine own_aloadN X0 hx (hb hby d12_0) rfl rfl ?_
  refine own_iconst X0 hx (v := (0 : Int32)) (hb hby d12_1) rfl ?_
  refine own_newP X0 hx hZ (own_w hw 0 rfl) e0 (hb hby d12_2) (by decide) (cap := 0) (by decide) (by decide) (by decide) (by decide) (fun T1 h1 b1 k1 g1 X1 e1 E1 A1 => ?_)
  have ne_k0_b1 : k0 ≠ b1 := Nat.ne_of_lt (Nat.lt_of_lt_of_le f8.lt (Nat.le_of_eq g1.symm))
  have ge_b1 : n0 ≤ b1 := Nat.le_trans (own_sz O0) (Nat.le_of_eq g1.symm)
  have sz_b1 : h0.size ≤ b1 := Nat.le_trans KC0.1 (Nat.le_of_eq g1.symm)
  have E2_a1 := f0.ext E1
  have E2_nd := f2.ext E1
  have E2_k0 := f8.ext E1
  have F2_root_a1 := f1.ext E1
  have F2_keys_nd := f3.ext E1
  have F2_children_nd := f4.ext E1
  have F2_size_nd := f5.ext E1
  have A2_kr := f6.ext E1
  have A2_k0 := f7.ext E1
  have O2 := O0.ext E1
  have KC2 := KC0.ext E1
  have V1 : Arv Z h1 b1 k1 .byte (0 : Int32) [] (.int (0 : Int32)) := A1
  refine own_iconst X1 hx (v := (1 : Int32)) (hb hby d12_4) rfl ?_
  refine own_virtual X1 hx hZ hown (y := y13) (z := y13) (own_w hw 86 rfl) (own_w hw 87 rfl) (notFace_of_selects (args := #[]) (mvT hZ (own_w hw 89 rfl))) (own_w hw 89 rfl) (own_w hw 88 rfl) (own_w hw 3 rfl) (own_w hw 90 rfl) (a := a1) E2_a1 (by decide) (W := 0) (by decide) (by decide) N0 e1 (by rw [hml]; rfl) (argsL := [(.ref b1), (.int (1 : Int32))]) (rest := []) (lenOf pd_22 rfl) (Nat.le_of_eq rfl) (by decide) (by decide) (rm13 l Z a0 hw [] a1 b1 h1 n0 O2) rfl (hb hby d12_5) ?_
  intro v3 T3 lc3 X3 N3 hQ3
  obtain ⟨b_3, rfl, K3, r3_0, r3_1⟩ := hQ3
  have E4_a1 := E2_a1.keep K3
  have E4_nd := E2_nd.keep K3
  have E4_k0 := E2_k0.keep K3
  have F4_root_a1 := F2_root_a1.keep K3 nin0
  have F4_keys_nd := F2_keys_nd.keep K3 nin0
  have F4_children_nd := F2_children_nd.keep K3 nin0
  have F4_size_nd := F2_size_nd.keep K3 nin0
  have A4_kr := A2_kr.keep K3 nin0
  have A4_k0 := A2_k0.keep K3 nin0
  have A4_b1 := V1.keep K3 nin0
  have O4 := O2.keep K3 all0
  have KC4 := KC2.trans K3 all0
  have ge_b_3 : n0 ≤ b_3 := Nat.le_trans (own_sz O2) r3_1
  have sz_b_3 : h0.size ≤ b_3 := Nat.le_trans KC2.1 r3_1
  refine own_lamCall X3 hx hZ hown (own_w hw 95 rfl) (own_w hw 96 rfl) (own_w hw 97 rfl) (own_w hw 94 rfl) (own_w hw 100 rfl) (own_w hw 98 rfl) (own_w hw 2 rfl) (own_w hw 99 rfl) (own_w hw 3 rfl) (by decide) (W := 0) (by decide) N3 rfl (by rw [hml]; rfl) (Nat.le_of_eq rfl) (by decide) (by decide) r3_0 E4_a1 (rm141 l Z a0 hw [] a1 b1 nd kr k0 kk k1 x c0 T3.heap n0 O4 F4_root_a1 E4_nd F4_keys_nd F4_children_nd F4_size_nd A4_kr A4_k0 A4_b1 ne_k0_b1) (fun _ _ hz => by obtain ⟨_, _, _, q, -⟩ := hz; exact ⟨_, q⟩) (hb hby d12_8) ?_
  intro v5 T5 lc5 X5 N5 hQ5
  obtain ⟨wk_5, pa_5, kp_5, rfl, K5, r5_0, r5_1, r5_2, r5_3, r5_4, r5_5⟩ := hQ5
  have E6_nd := E4_nd.keep K5
  have E6_k0 := E4_k0.keep K5
  have F6_keys_nd := F4_keys_nd.keep K5 nin0
  have F6_children_nd := F4_children_nd.keep K5 nin0
  have F6_size_nd := F4_size_nd.keep K5 nin0
  have A6_kr := A4_kr.keep K5 nin0
  have A6_k0 := A4_k0.keep K5 nin0
  have O6 := O4.keep K5 all0
  have KC6 := KC4.trans K5 all0
  have ne_k0_wk_5 : k0 ≠ wk_5 := Nat.ne_of_lt (Nat.lt_of_lt_of_le E4_k0.lt r5_5)
  have ge_wk_5 : n0 ≤ wk_5 := Nat.le_trans (own_sz O4) r5_5
  have sz_wk_5 : h0.size ≤ wk_5 := Nat.le_trans KC4.1 r5_5
  refine own_astoreN X5 hx (Ls' := #[.val (.ref a1), .val (.ref wk_5), .unset, .unset]) (hb hby d12_13) rfl rfl ?_
  refine own_aloadN X5 hx (hb hby d12_14) rfl rfl ?_
  refine own_iface X5 hx hZ hown (y := (⟨"java/util/Iterator", "hasNext", "()Z"⟩ : MethodName)) (z := y17) (own_w hw 126 rfl) (own_w hw 127 rfl) (own_w hw 128 rfl) (own_w hw 129 rfl) (own_w hw 130 rfl) (own_w hw 131 rfl) (own_w hw 132 rfl) (own_w hw 133 rfl) (own_w hw 103 rfl) (own_w hw 134 rfl) (a := wk_5) r5_0 (by decide) (W := 0) (by decide) (by decide) N5 rfl (by rw [hml]; rfl) (argsL := []) (rest := []) (lenOf pd_8 rfl) (Nat.le_of_eq rfl) (by decide) (by decide) (rm17y l Z a0 hw [] wk_5 nd T5.heap n0 O6 r5_2) rfl (hb hby d12_15) ?_
  intro v7 T7 lc7 X7 N7 hQ7
  obtain ⟨rfl, e7⟩ := hQ7
  refine own_ifYes X7 hx (pc' := 25) (hb hby d12_20) ((if0 _ _).trans (feq (by decide : ¬ ((1 : Int32) = (0 : Int32)))).2) (by decide) (by decide) ?_
  refine own_aloadN X7 hx (hb hby d12_25) rfl rfl ?_
  refine own_iface X7 hx hZ hown (y := (⟨"java/util/Iterator", "next", "()Ljava/lang/Object;"⟩ : MethodName)) (z := y32) (own_w hw 189 rfl) (own_w hw 190 rfl) (own_w hw 191 rfl) (own_w hw 192 rfl) (own_w hw 193 rfl) (own_w hw 194 rfl) (own_w hw 195 rfl) (own_w hw 133 rfl) (own_w hw 103 rfl) (own_w hw 196 rfl) (a := wk_5) r5_0 (by decide) (W := 0) (by decide) (by decide) N7 e7 (by rw [hml]; rfl) (argsL := []) (rest := []) (lenOf pd_24 rfl) (Nat.le_of_eq rfl) (by decide) (by decide) (rm321 l Z a0 hw [] wk_5 pa_5 kp_5 nd kr k0 kk T5.heap n0 O6 r5_0 r5_1 r5_2 r5_3 r5_4 E6_nd F6_keys_nd F6_children_nd F6_size_nd A6_kr ge_wk_5) rfl (hb hby d12_26) ?_
  intro v8 T8 lc8 X8 N8 hQ8
  obtain ⟨rfl, K8, r8_0, r8_1, r8_2⟩ := hQ8
  have E9_k0 := E6_k0.keep K8
  have E9_wk_5 := r5_0.keep K8
  have A9_k0 := A6_k0.keep K8 (ninS ne_k0_wk_5 nin0)
  have O9 := O6.keep K8 (allS ge_wk_5 all0)
  have KC9 := KC6.trans K8 (allS (Or.inr sz_wk_5) all0)
  refine own_castY X8 hx hZ hown (own_w hw 203 rfl) rfl (Ins.self E9_k0) (hb hby d12_31) (fun T10 X10 e10 => ?_)
  refine own_callS X10 hx hZ hown (y := y34) (own_w hw 204 rfl) (own_w hw 205 rfl) (own_w hw 84 rfl) (own_w hw 206 rfl) (by decide) (W := 0) (by decide) (by decide) N8 e10 (by rw [hml]; rfl) (argsL := [(.ref k0)]) (rest := []) (lenOf pd_25 rfl) (Nat.le_of_eq rfl) (by decide) (by decide) (rm34 l Z a0 hw [] k0 c0 x T8.heap n0 O9 A9_k0) rfl (hb hby d12_34) ?_
  intro v11 T11 lc11 X11 N11 hQ11
  obtain ⟨rfl, e11⟩ := hQ11
  refine own_istoreN X11 hx (Ls' := #[.val (.ref a1), .val (.ref wk_5), .val (.int (x &&& (255 : Int32))), .unset]) (hb hby d12_37) rfl ?_
  refine own_iloadN X11 hx (hb hby d12_38) rfl ?_
  refine own_ifYes X11 hx (pc' := 44) (hb hby d12_39) ((if0 _ _).trans (flt ((own_unn _) : ¬ ((x &&& (255 : Int32)) < (0 : Int32)))).2.1) (by decide) (by decide) ?_
  refine own_aloadN X11 hx (hb hby d12_44) rfl rfl ?_
  refine own_iface X11 hx hZ hown (y := (⟨"java/util/Iterator", "hasNext", "()Z"⟩ : MethodName)) (z := y17) (own_w hw 126 rfl) (own_w hw 127 rfl) (own_w hw 128 rfl) (own_w hw 129 rfl) (own_w hw 130 rfl) (own_w hw 131 rfl) (own_w hw 132 rfl) (own_w hw 133 rfl) (own_w hw 103 rfl) (own_w hw 134 rfl) (a := wk_5) E9_wk_5 (by decide) (W := 0) (by decide) (by decide) N11 e11 (by rw [hml]; rfl) (argsL := []) (rest := []) (lenOf pd_8 rfl) (Nat.le_of_eq rfl) (by decide) (by decide) (rm17n l Z a0 hw [] wk_5 T8.heap n0 O9 r8_1) rfl (hb hby d12_45) ?_
  intro v12 T12 lc12 X12 N12 hQ12
  obtain ⟨rfl, e12⟩ := hQ12
  refine own_ifNo X12 hx (hb hby d12_50) ((if0 _ _).trans (teq (by decide : (0 : Int32) = (0 : Int32))).2) ?_
  refine own_iloadN X12 hx (hb hby d12_53) rfl ?_
  refine own_callS X12 hx hZ hown (y := y31) (own_w hw 186 rfl) (own_w hw 187 rfl) (own_w hw 84 rfl) (own_w hw 188 rfl) (by decide) (W := 0) (by decide) (by decide) N12 e12 (by rw [hml]; rfl) (argsL := [(.int (x &&& (255 : Int32)))]) (rest := []) (lenOf pd_26 rfl) (Nat.le_of_eq rfl) (by decide) (by decide) (rm31 l Z a0 hw [] (x &&& (255 : Int32)) T8.heap n0 O9) rfl (hb hby d12_54) ?_
  intro v13 T13 lc13 X13 N13 hQ13
  obtain ⟨rfl, e13⟩ := hQ13
  show Goes _ _ _ _ _ _ (T13.setTop (mkF m 57 #[.val (.ref a1), .val (.ref wk_5), .val (.int (x &&& (255 : Int32))), .unset] [(.int (((x &&& (255 : Int32)) + (1 : Int32)) * (512 : Int32)))]))
  exact own_retI X13 hx N13 hlk (by decide) (by decide) hret (hb hby d12_57) (by rw [e13]; exact ⟨rfl, KC9⟩)
theorem d12_58 : decode method_6_code 58 = .ok (.aload_n 1, 1) := by decide +kernel
theorem d12_59 : decode method_6_code 59 = .ok (.invokeinterface 58 1, 5) := by decide +kernel
theorem d12_64 : decode method_6_code 64 = .ok (.checkcast 62, 3) := by decide +kernel
theorem d12_67 : decode method_6_code 67 = .ok (.invokestatic 64, 3) := by decide +kernel
theorem d12_70 : decode method_6_code 70 = .ok (.istore_n 3, 1) := by decide +kernel
theorem d12_71 : decode method_6_code 71 = .ok (.iload_n 3, 1) := by decide +kernel
theorem d12_72 : decode method_6_code 72 = .ok (.ifCond .ge 5, 3) := by decide +kernel
theorem d12_77 : decode method_6_code 77 = .ok (.aload_n 1, 1) := by decide +kernel
theorem d12_78 : decode method_6_code 78 = .ok (.invokeinterface 52 1, 5) := by decide +kernel
theorem d12_83 : decode method_6_code 83 = .ok (.ifCond .eq 5, 3) := by decide +kernel
theorem d12_88 : decode method_6_code 88 = .ok (.iload_n 2, 1) := by decide +kernel
theorem d12_89 : decode method_6_code 89 = .ok (.iload_n 3, 1) := by decide +kernel
theorem d12_90 : decode method_6_code 90 = .ok (.invokestatic 39, 3) := by decide +kernel
theorem d12_93 : decode method_6_code 93 = .ok (.ireturn, 1) := by decide +kernel
def Q122 (Z : State) (a1 : Addr) (nd : Addr) (kr : Addr) (k0 : Addr) (k1 : Addr) (kk : ClassId) (x : Int32) (y : Int32) (c0 : ClassId) (c1 : ClassId) (h0 : Heap) (n0 : Nat) (v : Option Value) (h : Heap) : Prop :=
  (v = some (.int ((((x &&& (255 : Int32)) + (1 : Int32)) * (512 : Int32)) + ((y &&& (255 : Int32)) + (1 : Int32)))) ∧ Keep h0 h [])
theorem ef_122 (m : MethodId) (a1 : Addr) : entryFrame m #[(.ref a1)] 4 = mkF m 0 #[.val (.ref a1), .unset, .unset, .unset] [] := by first | (simp [entryFrame, mkF, argsToLocals, Value.category]; done) | rfl
set_option maxRecDepth 65536 in
set_option maxHeartbeats 40000000 in
theorem rm122 (l : Launch) (Z : State) (a0 : Array Value) (hw : ∀ d ∈ tables_1, d.before a0 Z = true) (ws : List Jvm.Cond) (a1 : Addr) (nd : Addr) (kr : Addr) (k0 : Addr) (k1 : Addr) (kk : ClassId) (x : Int32) (y : Int32) (c0 : ClassId) (c1 : ClassId) (h0 : Heap) (n0 : Nat) (O0 : Old Z n0 h0) (f0 : Exa Z h0 a1 cT) (f1 : Fld Z h0 a1 cT "root" dN (.ref nd)) (f2 : Exa Z h0 nd cN) (f3 : Fld Z h0 nd cN "keys" "[[B" (.ref kr)) (f4 : Fld Z h0 nd cN "children" dA .null) (f5 : Fld Z h0 nd cN "size" "I" (.int (2 : Int32))) (f6 : Arv Z h0 kr kk (.array .byte) (64 : Int32) [(.ref k0), (.ref k1), .null] .null) (f7 : Arv Z h0 k0 c0 .byte (1 : Int32) [(.int x)] (.int (0 : Int32))) (f8 : Arv Z h0 k1 c1 .byte (1 : Int32) [(.int y)] (.int (0 : Int32))) (f9 : Exa Z h0 k0 "[B") (f10 : Exa Z h0 k1 "[B") :
    Meets l y12 method_6_code 4 (some .int) ws ({ frames := 6, cells := 5, slots := 7, locals := 3089 } : Room) ({ frames := 6, cells := 5, slots := 7, locals := 3089 } : Room).cells ({ frames := 6, cells := 5, slots := 7, locals := 3089 } : Room).slots Z #[(.ref a1)] h0 n0 (Q122 Z a1 nd kr k0 k1 kk x y c0 c1 h0 n0) := by
  refine Meets.of (F := fun m => mkF m 0 #[.val (.ref a1), .unset, .unset, .unset] []) (plainFor_of_name pn_3) (fun m => ef_122 m a1) ?_
  intro p e s m below meth c T0 hx hby hml hown0 hnm hret hlk hZ X0 e0
  have hown : s.vm.findClass cL = some m.cls := hown0
  have N0 := Fr.nil n0
  have KC0 := Keep.refl h0 []
  show Goes _ _ _ _ _ _ (T0.setTop (mkF m 0 #[.val (.ref a1), .unset, .unset, .unset] []))
  refine own_aloadN X0 hx (hb hby d12_0) rfl rfl ?_
  refine own_iconst X0 hx (v := (0 : Int32)) (hb hby d12_1) rfl ?_
  refine own_newP X0 hx hZ (own_w hw 0 rfl) e0 (hb hby d12_2) (by decide) (cap := 0) (by decide) (by decide) (by decide) (by decide) (fun T2 h2 b2 k2 g2 X2 e2 E2 A2 => ?_)
  have ne_k1_b2 : k1 ≠ b2 := Nat.ne_of_lt (Nat.lt_of_lt_of_le f10.lt (Nat.le_of_eq g2.symm))
  have ne_k0_b2 : k0 ≠ b2 := Nat.ne_of_lt (Nat.lt_of_lt_of_le f9.lt (Nat.le_of_eq g2.symm))
  have ge_b2 : n0 ≤ b2 := Nat.le_trans (own_sz O0) (Nat.le_of_eq g2.symm)
  have sz_b2 : h0.size ≤ b2 := Nat.le_trans KC0.1 (Nat.le_of_eq g2.symm)
  have E3_a1 := f0.ext E2
  have E3_nd := f2.ext E2
  have E3_k0 := f9.ext E2
  have E3_k1 := f10.ext E2
  have F3_root_a1 := f1.ext E2
  have F3_keys_nd := f3.ext E2
  have F3_children_nd := f4.ext E2
  have F3_size_nd := f5.ext E2
  have A3_kr := f6.ext E2
  have A3_k0 := f7.ext E2
  have A3_k1 := f8.ext E2
  have O3 := O0.ext E2
  have KC3 := KC0.ext E2
  have V2 : Arv Z h2 b2 k2 .byte (0 : Int32) [] (.int (0 : Int32)) := A2
  refine own_iconst X2 hx (v := (1 : Int32)) (hb hby d12_4) rfl ?_
  refine own_virtual X2 hx hZ hown (y := y13) (z := y13) (own_w hw 86 rfl) (own_w hw 87 rfl) (notFace_of_selects (args := #[]) (mvT hZ (own_w hw 89 rfl))) (own_w hw 89 rfl) (own_w hw 88 rfl) (own_w hw 3 rfl) (own_w hw 90 rfl) (a := a1) E3_a1 (by decide) (W := 0) (by decide) (by decide) N0 e2 (by rw [hml]; rfl) (argsL := [(.ref b2), (.int (1 : Int32))]) (rest := []) (lenOf pd_22 rfl) (Nat.le_of_eq rfl) (by decide) (by decide) (rm13 l Z a0 hw [] a1 b2 h2 n0 O3) rfl (hb hby d12_5) ?_
  intro v4 T4 lc4 X4 N4 hQ4
  obtain ⟨b_4, rfl, K4, r4_0, r4_1⟩ := hQ4
  have E5_a1 := E3_a1.keep K4
  have E5_nd := E3_nd.keep K4
  have E5_k0 := E3_k0.keep K4
  have E5_k1 := E3_k1.keep K4
  have F5_root_a1 := F3_root_a1.keep K4 nin0
  have F5_keys_nd := F3_keys_nd.keep K4 nin0
  have F5_children_nd := F3_children_nd.keep K4 nin0
  have F5_size_nd := F3_size_nd.keep K4 nin0
  have A5_kr := A3_kr.keep K4 nin0
  have A5_k0 := A3_k0.keep K4 nin0
  have A5_k1 := A3_k1.keep K4 nin0
  have A5_b2 := V2.keep K4 nin0
  have O5 := O3.keep K4 all0
  have KC5 := KC3.trans K4 all0
  have ge_b_4 : n0 ≤ b_4 := Nat.le_trans (own_sz O3) r4_1
  have sz_b_4 : h0.size ≤ b_4 := Nat.le_trans KC3.1 r4_1
  refine own_lamCall X4 hx hZ hown (own_w hw 95 rfl) (own_w hw 96 rfl) (own_w hw 97 rfl) (own_w hw 94 rfl) (own_w hw 100 rfl) (own_w hw 98 rfl) (own_w hw 2 rfl) (own_w hw 99 rfl) (own_w hw 3 rfl) (by decide) (W := 0) (by decide) N4 rfl (by rw [hml]; rfl) (Nat.le_of_eq rfl) (by decide) (by decide) r4_0 E5_a1 (rm142 l Z a0 hw [] a1 b2 nd kr k0 k1 kk k2 x y c0 c1 T4.heap n0 O5 F5_root_a1 E5_nd F5_keys_nd F5_children_nd F5_size_nd A5_kr A5_k0 A5_k1 A5_b2 ne_k0_b2 ne_k1_b2) (fun _ _ hz => by obtain ⟨_, _, _, q, -⟩ := hz; exact ⟨_, q⟩) (hb hby d12_8) ?_
  intro v6 T6 lc6 X6 N6 hQ6
  obtain ⟨wk_6, pa_6, kp_6, rfl, K6, r6_0, r6_1, r6_2, r6_3, r6_4, r6_5⟩ := hQ6
  have E7_nd := E5_nd.keep K6
  have E7_k0 := E5_k0.keep K6
  have E7_k1 := E5_k1.keep K6
  have F7_keys_nd := F5_keys_nd.keep K6 nin0
  have F7_children_nd := F5_children_nd.keep K6 nin0
  have F7_size_nd := F5_size_nd.keep K6 nin0
  have A7_kr := A5_kr.keep K6 nin0
  have A7_k0 := A5_k0.keep K6 nin0
  have A7_k1 := A5_k1.keep K6 nin0
  have O7 := O5.keep K6 all0
  have KC7 := KC5.trans K6 all0
  have ne_k1_wk_6 : k1 ≠ wk_6 := Nat.ne_of_lt (Nat.lt_of_lt_of_le E5_k1.lt r6_5)
  have ne_nd_wk_6 : nd ≠ wk_6 := Nat.ne_of_lt (Nat.lt_of_lt_of_le E5_nd.lt r6_5)
  have ne_k0_wk_6 : k0 ≠ wk_6 := Nat.ne_of_lt (Nat.lt_of_lt_of_le E5_k0.lt r6_5)
  have ne_kr_wk_6 : kr ≠ wk_6 := Nat.ne_of_lt (Nat.lt_of_lt_of_le A5_kr.lt r6_5)
  have ge_wk_6 : n0 ≤ wk_6 := Nat.le_trans (own_sz O5) r6_5
  have sz_wk_6 : h0.size ≤ wk_6 := Nat.le_trans KC5.1 r6_5
  refine own_astoreN X6 hx (Ls' := #[.val (.ref a1), .val (.ref wk_6), .unset, .unset]) (hb hby d12_13) rfl rfl ?_
  refine own_aloadN X6 hx (hb hby d12_14) rfl rfl ?_
  refine own_iface X6 hx hZ hown (y := (⟨"java/util/Iterator", "hasNext", "()Z"⟩ : MethodName)) (z := y17) (own_w hw 126 rfl) (own_w hw 127 rfl) (own_w hw 128 rfl) (own_w hw 129 rfl) (own_w hw 130 rfl) (own_w hw 131 rfl) (own_w hw 132 rfl) (own_w hw 133 rfl) (own_w hw 103 rfl) (own_w hw 134 rfl) (a := wk_6) r6_0 (by decide) (W := 0) (by decide) (by decide) N6 rfl (by rw [hml]; rfl) (argsL := []) (rest := []) (lenOf pd_8 rfl) (Nat.le_of_eq rfl) (by decide) (by decide) (rm17y l Z a0 hw [] wk_6 nd T6.heap n0 O7 r6_2) rfl (hb hby d12_15) ?_
  intro v8 T8 lc8 X8 N8 hQ8
  obtain ⟨rfl, e8⟩ := hQ8
  refine own_ifYes X8 hx (pc' := 25) (hb hby d12_20) ((if0 _ _).trans (feq (by decide : ¬ ((1 : Int32) = (0 : Int32)))).2) (by decide) (by decide) ?_
  refine own_aloadN X8 hx (hb hby d12_25) rfl rfl ?_
  refine own_iface X8 hx hZ hown (y := (⟨"java/util/Iterator", "next", "()Ljava/lang/Object;"⟩ : MethodName)) (z := y32) (own_w hw 189 rfl) (own_w hw 190 rfl) (own_w hw 191 rfl) (own_w hw 192 rfl) (own_w hw 193 rfl) (own_w hw 194 rfl) (own_w hw 195 rfl) (own_w hw 133 rfl) (own_w hw 103 rfl) (own_w hw 196 rfl) (a := wk_6) r6_0 (by decide) (W := 0) (by decide) (by decide) N8 e8 (by rw [hml]; rfl) (argsL := []) (rest := []) (lenOf pd_24 rfl) (Nat.le_of_eq rfl) (by decide) (by decide) (rm3220 l Z a0 hw [] wk_6 pa_6 kp_6 nd kr k0 k1 kk T6.heap n0 O7 r6_0 r6_1 r6_2 r6_3 r6_4 E7_nd F7_keys_nd F7_children_nd F7_size_nd A7_kr ge_wk_6) rfl (hb hby d12_26) ?_
  intro v9 T9 lc9 X9 N9 hQ9
  obtain ⟨rfl, K9, r9_0, r9_1, r9_2⟩ := hQ9
  have E10_nd := E7_nd.keep K9
  have E10_k0 := E7_k0.keep K9
  have E10_k1 := E7_k1.keep K9
  have E10_wk_6 := r6_0.keep K9
  have F10_keys_nd := F7_keys_nd.keep K9 (ninS ne_nd_wk_6 nin0)
  have F10_children_nd := F7_children_nd.keep K9 (ninS ne_nd_wk_6 nin0)
  have F10_size_nd := F7_size_nd.keep K9 (ninS ne_nd_wk_6 nin0)
  have A10_kr := A7_kr.keep K9 (ninS ne_kr_wk_6 nin0)
  have A10_k0 := A7_k0.keep K9 (ninS ne_k0_wk_6 nin0)
  have A10_k1 := A7_k1.keep K9 (ninS ne_k1_wk_6 nin0)
  have A10_pa_6 := r6_4.keep K9 (ninS (Ne.symm (Exa.neArv r6_0 r6_4 (own_w hw 102 rfl))) nin0)
  have O10 := O7.keep K9 (allS ge_wk_6 all0)
  have KC10 := KC7.trans K9 (allS (Or.inr sz_wk_6) all0)
  refine own_castY X9 hx hZ hown (own_w hw 203 rfl) rfl (Ins.self E10_k0) (hb hby d12_31) (fun T11 X11 e11 => ?_)
  refine own_callS X11 hx hZ hown (y := y34) (own_w hw 204 rfl) (own_w hw 205 rfl) (own_w hw 84 rfl) (own_w hw 206 rfl) (by decide) (W := 0) (by decide) (by decide) N9 e11 (by rw [hml]; rfl) (argsL := [(.ref k0)]) (rest := []) (lenOf pd_25 rfl) (Nat.le_of_eq rfl) (by decide) (by decide) (rm34 l Z a0 hw [] k0 c0 x T9.heap n0 O10 A10_k0) rfl (hb hby d12_34) ?_
  intro v12 T12 lc12 X12 N12 hQ12
  obtain ⟨rfl, e12⟩ := hQ12
  refine own_istoreN X12 hx (Ls' := #[.val (.ref a1), .val (.ref wk_6), .val (.int (x &&& (255 : Int32))), .unset]) (hb hby d12_37) rfl ?_
  refine own_iloadN X12 hx (hb hby d12_38) rfl ?_
  refine own_ifYes X12 hx (pc' := 44) (hb hby d12_39) ((if0 _ _).trans (flt ((own_unn _) : ¬ ((x &&& (255 : Int32)) < (0 : Int32)))).2.1) (by decide) (by decide) ?_
  refine own_aloadN X12 hx (hb hby d12_44) rfl rfl ?_
  refine own_iface X12 hx hZ hown (y := (⟨"java/util/Iterator", "hasNext", "()Z"⟩ : MethodName)) (z := y17) (own_w hw 126 rfl) (own_w hw 127 rfl) (own_w hw 128 rfl) (own_w hw 129 rfl) (own_w hw 130 rfl) (own_w hw 131 rfl) (own_w hw 132 rfl) (own_w hw 133 rfl) (own_w hw 103 rfl) (own_w hw 134 rfl) (a := wk_6) E10_wk_6 (by decide) (W := 0) (by decide) (by decide) N12 e12 (by rw [hml]; rfl) (argsL := []) (rest := []) (lenOf pd_8 rfl) (Nat.le_of_eq rfl) (by decide) (by decide) (rm17y l Z a0 hw [] wk_6 nd T9.heap n0 O10 r9_1) rfl (hb hby d12_45) ?_
  intro v13 T13 lc13 X13 N13 hQ13
  obtain ⟨rfl, e13⟩ := hQ13
  refine own_ifYes X13 hx (pc' := 58) (hb hby d12_50) ((if0 _ _).trans (feq (by decide : ¬ ((1 : Int32) = (0 : Int32)))).2) (by decide) (by decide) ?_
  refine own_aloadN X13 hx (hb hby d12_58) rfl rfl ?_
  refine own_iface X13 hx hZ hown (y := (⟨"java/util/Iterator", "next", "()Ljava/lang/Object;"⟩ : MethodName)) (z := y32) (own_w hw 189 rfl) (own_w hw 190 rfl) (own_w hw 191 rfl) (own_w hw 192 rfl) (own_w hw 193 rfl) (own_w hw 194 rfl) (own_w hw 195 rfl) (own_w hw 133 rfl) (own_w hw 103 rfl) (own_w hw 196 rfl) (a := wk_6) E10_wk_6 (by decide) (W := 0) (by decide) (by decide) N13 e13 (by rw [hml]; rfl) (argsL := []) (rest := []) (lenOf pd_24 rfl) (Nat.le_of_eq rfl) (by decide) (by decide) (rm3221 l Z a0 hw [] wk_6 pa_6 kp_6 nd kr k0 k1 kk T9.heap n0 O10 E10_wk_6 r9_0 r9_1 r9_2 A10_pa_6 E10_nd F10_keys_nd F10_children_nd F10_size_nd A10_kr ge_wk_6) rfl (hb hby d12_59) ?_
  intro v14 T14 lc14 X14 N14 hQ14
  obtain ⟨rfl, K14, r14_0, r14_1, r14_2⟩ := hQ14
  have E15_k1 := E10_k1.keep K14
  have E15_wk_6 := E10_wk_6.keep K14
  have A15_k1 := A10_k1.keep K14 (ninS ne_k1_wk_6 nin0)
  have O15 := O10.keep K14 (allS ge_wk_6 all0)
  have KC15 := KC10.trans K14 (allS (Or.inr sz_wk_6) all0)
  refine own_castY X14 hx hZ hown (own_w hw 203 rfl) rfl (Ins.self E15_k1) (hb hby d12_64) (fun T16 X16 e16 => ?_)
  refine own_callS X16 hx hZ hown (y := y34) (own_w hw 204 rfl) (own_w hw 205 rfl) (own_w hw 84 rfl) (own_w hw 206 rfl) (by decide) (W := 0) (by decide) (by decide) N14 e16 (by rw [hml]; rfl) (argsL := [(.ref k1)]) (rest := []) (lenOf pd_25 rfl) (Nat.le_of_eq rfl) (by decide) (by decide) (rm34 l Z a0 hw [] k1 c1 y T14.heap n0 O15 A15_k1) rfl (hb hby d12_67) ?_
  intro v17 T17 lc17 X17 N17 hQ17
  obtain ⟨rfl, e17⟩ := hQ17
  refine own_istoreN X17 hx (Ls' := #[.val (.ref a1), .val (.ref wk_6), .val (.int (x &&& (255 : Int32))), .val (.int (y &&& (255 : Int32)))]) (hb hby d12_70) rfl ?_
  refine own_iloadN X17 hx (hb hby d12_71) rfl ?_
  refine own_ifYes X17 hx (pc' := 77) (hb hby d12_72) ((if0 _ _).trans (flt ((own_unn _) : ¬ ((y &&& (255 : Int32)) < (0 : Int32)))).2.1) (by decide) (by decide) ?_
  refine own_aloadN X17 hx (hb hby d12_77) rfl rfl ?_
  refine own_iface X17 hx hZ hown (y := (⟨"java/util/Iterator", "hasNext", "()Z"⟩ : MethodName)) (z := y17) (own_w hw 126 rfl) (own_w hw 127 rfl) (own_w hw 128 rfl) (own_w hw 129 rfl) (own_w hw 130 rfl) (own_w hw 131 rfl) (own_w hw 132 rfl) (own_w hw 133 rfl) (own_w hw 103 rfl) (own_w hw 134 rfl) (a := wk_6) E15_wk_6 (by decide) (W := 0) (by decide) (by decide) N17 e17 (by rw [hml]; rfl) (argsL := []) (rest := []) (lenOf pd_8 rfl) (Nat.le_of_eq rfl) (by decide) (by decide) (rm17n l Z a0 hw [] wk_6 T14.heap n0 O15 r14_1) rfl (hb hby d12_78) ?_
  intro v18 T18 lc18 X18 N18 hQ18
  obtain ⟨rfl, e18⟩ := hQ18
  refine own_ifYes X18 hx (pc' := 88) (hb hby d12_83) ((if0 _ _).trans (teq (by decide : (0 : Int32) = (0 : Int32))).1) (by decide) (by decide) ?_
  refine own_iloadN X18 hx (hb hby d12_88) rfl ?_
  refine own_iloadN X18 hx (hb hby d12_89) rfl ?_
  refine own_callS X18 hx hZ hown (y := y36) (own_w hw 211 rfl) (own_w hw 212 rfl) (own_w hw 84 rfl) (own_w hw 213 rfl) (by decide) (W := 0) (by decide) (by decide) N18 e18 (by rw [hml]; rfl) (argsL := [(.int (x &&& (255 : Int32))), (.int (y &&& (255 : Int32)))]) (rest := []) (lenOf pd_1 rfl) (Nat.le_of_eq rfl) (by decide) (by decide) (rm36 l Z a0 hw [] (x &&& (255 : Int32)) (y &&& (255 : Int32)) T14.heap n0 O15) rfl (hb hby d12_90) ?_
  intro v19 T19 lc19 X19 N19 hQ19
  obtain ⟨rfl, e19⟩ := hQ19
  show Goes _ _ _ _ _ _ (T19.setTop (mkF m 93 #[.val (.ref a1), .val (.ref wk_6), .val (.int (x &&& (255 : Int32))), .val (.int (y &&& (255 : Int32)))] [(.int ((((x &&& (255 : Int32)) + (1 : Int32)) * (512 : Int32)) + ((y &&& (255 : Int32)) + (1 : Int32))))]))
  exact own_retI X19 hx N19 hlk (by decide) (by decide) hret (hb hby d12_93) (by rw [e19]; exact ⟨rfl, KC15⟩)
theorem pd_27 : parseMethodDescriptor "([B)Z" = some ⟨[(.array .byte)], some .boolean⟩ := by decide +kernel
theorem pd_28 : parseMethodDescriptor "(Lcom/example/contention/contention/KeyTree;)I" = some ⟨[(.object cT)], some .int⟩ := by decide +kernel
def Q0 (Z : State) (p1 : Int32) (p2 : Int32) (p3 : Int32) (h0 : Heap) (n0 : Nat) (v : Option Value) (h : Heap) : Prop :=
  (v = some (.int (1 : Int32)))
theorem ef_0 (m : MethodId) (p1 : Int32) (p2 : Int32) (p3 : Int32) : entryFrame m #[(.int p1), (.int p2), (.int p3)] maxLocals = mkF m 0 #[.val (.int p1), .val (.int p2), .val (.int p3), .unset, .unset, .unset, .unset, .unset, .unset, .unset, .unset, .unset, .unset] [] := by first | (simp [entryFrame, mkF, argsToLocals, Value.category, maxLocals]; done) | rfl
set_option maxRecDepth 65536 in
set_option maxHeartbeats 40000000 in
theorem rm0 (l : Launch) (Z : State) (a0 : Array Value) (hw : ∀ d ∈ tables_1, d.before a0 Z = true) (ws : List Jvm.Cond) (p1 : Int32) (p2 : Int32) (p3 : Int32) (h0 : Heap) (n0 : Nat) (O0 : Old Z n0 h0) :
    Meets l x code maxLocals ret ws room_1 56 576 Z #[(.int p1), (.int p2), (.int p3)] h0 n0 (Q0 Z p1 p2 p3 h0 n0) := by
  refine Meets.of (F := fun m => mkF m 0 #[.val (.int p1), .val (.int p2), .val (.int p3), .unset, .unset, .unset, .unset, .unset, .unset, .unset, .unset, .unset, .unset] []) (plainFor_of_name pn_3) (fun m => ef_0 m p1 p2 p3) ?_
  intro p e s m below meth c T0 hx hby hml hown0 hnm hret hlk hZ X0 e0
  have hown : s.vm.findClass cL = some m.cls := hown0
  have N0 := Fr.nil n0
  show Goes _ _ _ _ _ _ (T0.setTop (mkF m 0 #[.val (.int p1), .val (.int p2), .val (.int p3), .unset, .unset, .unset, .unset, .unset, .unset, .unset, .unset, .unset, .unset] []))
  refine own_iloadN X0 hx (hb hby at_0) rfl ?_
  refine own_iconst X0 hx (v := (1 : Int32)) (hb hby at_1) rfl ?_
  refine own_iand X0 hx (hb hby at_2) ?_
  have jn11_2 : ∀ (T2 : State) (lc2 : List Loc) (X2 : Stand p l e room_1 s m #[(.int p1), (.int p2), (.int p3)] below meth c T2 lc2 0 0) (N2 : Fr n0 lc2) (e2 : T2.heap = h0) (w2 : Int32) (hj2 : True), Goes p e below (fun o t L => FrameEnd s o t L (56) (576)) n0 (Q0 Z p1 p2 p3 h0 n0) (T2.setTop (mkF m 11 #[.val (.int p1), .val (.int p2), .val (.int p3), .unset, .unset, .unset, .unset, .unset, .unset, .unset, .unset, .unset, .unset] [(.int w2)])) := by
    intro T2 lc2 X2 N2 e2 w2 hj2
    refine own_istoreN X2 hx (Ls' := #[.val (.int p1), .val (.int p2), .val (.int p3), .val (.int w2), .unset, .unset, .unset, .unset, .unset, .unset, .unset, .unset, .unset]) (hb hby at_11) rfl ?_
    refine own_iloadN X2 hx (hb hby at_12) rfl ?_
    refine own_iconst X2 hx (v := (2 : Int32)) (hb hby at_13) rfl ?_
    refine own_iand X2 hx (hb hby at_14) ?_
    have jn23_4 : ∀ (T4 : State) (lc4 : List Loc) (X4 : Stand p l e room_1 s m #[(.int p1), (.int p2), (.int p3)] below meth c T4 lc4 0 0) (N4 : Fr n0 lc4) (e4 : T4.heap = h0) (w4 : Int32) (hj4 : True), Goes p e below (fun o t L => FrameEnd s o t L (56) (576)) n0 (Q0 Z p1 p2 p3 h0 n0) (T4.setTop (mkF m 23 #[.val (.int p1), .val (.int p2), .val (.int p3), .val (.int w2), .unset, .unset, .unset, .unset, .unset, .unset, .unset, .unset, .unset] [(.int w4)])) := by
      intro T4 lc4 X4 N4 e4 w4 hj4
      refine own_istore X4 hx (Ls' := #[.val (.int p1), .val (.int p2), .val (.int p3), .val (.int w2), .val (.int w4), .unset, .unset, .unset, .unset, .unset, .unset, .unset, .unset]) (hb hby at_23) rfl ?_
      refine own_iloadN X4 hx (hb hby at_25) rfl ?_
      refine own_iconst X4 hx (v := (4 : Int32)) (hb hby at_26) rfl ?_
      refine own_iand X4 hx (hb hby at_27) ?_
      have jn36_6 : ∀ (T6 : State) (lc6 : List Loc) (X6 : Stand p l e room_1 s m #[(.int p1), (.int p2), (.int p3)] below meth c T6 lc6 0 0) (N6 : Fr n0 lc6) (e6 : T6.heap = h0) (w6 : Int32) (hj6 : True), Goes p e below (fun o t L => FrameEnd s o t L (56) (576)) n0 (Q0 Z p1 p2 p3 h0 n0) (T6.setTop (mkF m 36 #[.val (.int p1), .val (.int p2), .val (.int p3), .val (.int w2), .val (.int w4), .unset, .unset, .unset, .unset, .unset, .unset, .unset, .unset] [(.int w6)])) := by
        intro T6 lc6 X6 N6 e6 w6 hj6
        refine own_istore X6 hx (Ls' := #[.val (.int p1), .val (.int p2), .val (.int p3), .val (.int w2), .val (.int w4), .val (.int w6), .unset, .unset, .unset, .unset, .unset, .unset, .unset]) (hb hby at_36) rfl ?_
        refine own_iloadN X6 hx (hb hby at_38) rfl ?_
        refine own_sipush X6 hx (v := (255 : Int32)) (hb hby at_39) rfl ?_
        refine own_iand X6 hx (hb hby at_42) ?_
        refine own_istore X6 hx (Ls' := #[.val (.int p1), .val (.int p2), .val (.int p3), .val (.int w2), .val (.int w4), .val (.int w6), .val (.int (p1 &&& (255 : Int32))), .unset, .unset, .unset, .unset, .unset, .unset]) (hb hby at_43) rfl ?_
        refine own_iloadN X6 hx (hb hby at_45) rfl ?_
        refine own_sipush X6 hx (v := (255 : Int32)) (hb hby at_46) rfl ?_
        refine own_iand X6 hx (hb hby at_49) ?_
        refine own_istore X6 hx (Ls' := #[.val (.int p1), .val (.int p2), .val (.int p3), .val (.int w2), .val (.int w4), .val (.int w6), .val (.int (p1 &&& (255 : Int32))), .val (.int (p2 &&& (255 : Int32))), .unset, .unset, .unset, .unset, .unset]) (hb hby at_50) rfl ?_
        refine own_iconst X6 hx (v := (1 : Int32)) (hb hby at_52) rfl ?_
        refine own_newPE X6 hx hZ (own_w hw 0 rfl) e6 (ad := "[B") (by decide +kernel) (hb hby at_53) (by decide) (cap := 1) (by decide) (by decide) (by decide) (by decide) (fun T7 h7 b7 k7 g7 X7 e7 E7 A7 B7 => ?_)
        have ge_b7 : n0 ≤ b7 := Nat.le_trans (own_sz O0) (Nat.le_of_eq g7.symm)
        have O8 := O0.ext E7
        have V7 : Arv Z h7 b7 k7 .byte (1 : Int32) [(.int (0 : Int32))] (.int (0 : Int32)) := A7.pad (pad_rep [] (.int (0 : Int32)) 1)
        refine own_dup X7 hx (hb hby at_55) rfl ?_
        refine own_iconst X7 hx (v := (0 : Int32)) (hb hby at_56) rfl ?_
        refine own_iloadN X7 hx (hb hby at_57) rfl ?_
        refine own_i2b X7 hx (hb hby at_58) ?_
        refine own_bastore X7 hx hZ N6 e7 V7 ⟨by decide, by decide⟩ (i := 0) rfl (by first | decide | (simp; done)) ge_b7 (hb hby at_59) (fun T9 h9 lc9 X9 e9 N9 W9 V9 => ?_)
        have E10_b7 := B7.wr W9
        have O10 := O8.wr W9 ge_b7
        have V9' : Arv Z h9 b7 k7 .byte (1 : Int32) [(.int ((p1.toInt8.toInt32).toInt8.toInt32))] (.int (0 : Int32)) := V9
        refine own_astore X9 hx (Ls' := #[.val (.int p1), .val (.int p2), .val (.int p3), .val (.int w2), .val (.int w4), .val (.int w6), .val (.int (p1 &&& (255 : Int32))), .val (.int (p2 &&& (255 : Int32))), .val (.ref b7), .unset, .unset, .unset, .unset]) (hb hby at_60) rfl rfl ?_
        refine own_iconst X9 hx (v := (1 : Int32)) (hb hby at_62) rfl ?_
        refine own_newPE X9 hx hZ (own_w hw 0 rfl) e9 (ad := "[B") (by decide +kernel) (hb hby at_63) (by decide) (cap := 1) (by decide) (by decide) (by decide) (by decide) (fun T11 h11 b11 k11 g11 X11 e11 E11 A11 B11 => ?_)
        have ne_b7_b11 : b7 ≠ b11 := Nat.ne_of_lt (Nat.lt_of_lt_of_le E10_b7.lt (Nat.le_of_eq g11.symm))
        have ge_b11 : n0 ≤ b11 := Nat.le_trans (own_sz O10) (Nat.le_of_eq g11.symm)
        have E12_b7 := E10_b7.ext E11
        have A12_b7 := V9'.ext E11
        have O12 := O10.ext E11
        have V11 : Arv Z h11 b11 k11 .byte (1 : Int32) [(.int (0 : Int32))] (.int (0 : Int32)) := A11.pad (pad_rep [] (.int (0 : Int32)) 1)
        refine own_dup X11 hx (hb hby at_65) rfl ?_
        refine own_iconst X11 hx (v := (0 : Int32)) (hb hby at_66) rfl ?_
        refine own_iloadN X11 hx (hb hby at_67) rfl ?_
        refine own_i2b X11 hx (hb hby at_68) ?_
        refine own_bastore X11 hx hZ N9 e11 V11 ⟨by decide, by decide⟩ (i := 0) rfl (by first | decide | (simp; done)) ge_b11 (hb hby at_69) (fun T13 h13 lc13 X13 e13 N13 W13 V13 => ?_)
        have E14_b7 := E12_b7.wr W13
        have E14_b11 := B11.wr W13
        have A14_b7 := A12_b7.other W13 ne_b7_b11
        have O14 := O12.wr W13 ge_b11
        have V13' : Arv Z h13 b11 k11 .byte (1 : Int32) [(.int ((p2.toInt8.toInt32).toInt8.toInt32))] (.int (0 : Int32)) := V13
        refine own_astore X13 hx (Ls' := #[.val (.int p1), .val (.int p2), .val (.int p3), .val (.int w2), .val (.int w4), .val (.int w6), .val (.int (p1 &&& (255 : Int32))), .val (.int (p2 &&& (255 : Int32))), .val (.ref b7), .val (.ref b11), .unset, .unset, .unset]) (hb hby at_70) rfl rfl ?_
        refine own_new X13 hx hZ hown (own_w hw 1 rfl) (own_w hw 2 rfl) (own_w hw 3 rfl) e13 (hb hby at_72) (by decide) (by decide) (fun T15 h15 b15 g15 X15 e15 E15 A15 D15 => ?_)
        have ne_b11_b15 : b11 ≠ b15 := Nat.ne_of_lt (Nat.lt_of_lt_of_le E14_b11.lt (Nat.le_of_eq g15.symm))
        have ne_b7_b15 : b7 ≠ b15 := Nat.ne_of_lt (Nat.lt_of_lt_of_le E14_b7.lt (Nat.le_of_eq g15.symm))
        have ge_b15 : n0 ≤ b15 := Nat.le_trans (own_sz O14) (Nat.le_of_eq g15.symm)
        have E16_b7 := E14_b7.ext E15
        have E16_b11 := E14_b11.ext E15
        have A16_b7 := A14_b7.ext E15
        have A16_b11 := V13'.ext E15
        have O16 := O14.ext E15
        have F15_edit_b15 : Fld Z h15 b15 cT "edit" "J" (.long (0 : Int64)) := D15 (Or.inl (own_w hw 11 rfl)) (ty := .long) (by decide)
        have F15_root_b15 : Fld Z h15 b15 cT "root" dN .null := D15 (Or.inl (own_w hw 28 rfl)) (ty := (.object cN)) (by decide)
        have F15_draft_b15 : Fld Z h15 b15 cT "draft" dN .null := D15 (Or.inl (own_w hw 30 rfl)) (ty := (.object cN)) (by decide)
        have F15_size_b15 : Fld Z h15 b15 cT "size" "I" (.int (0 : Int32)) := D15 (Or.inl (own_w hw 37 rfl)) (ty := .int) (by decide)
        refine own_dup X15 hx (hb hby at_75) rfl ?_
        refine own_special X15 hx hZ hown (y := y1) rfl (own_w hw 4 rfl) (own_w hw 5 rfl) (own_w hw 3 rfl) (own_w hw 6 rfl) (a := b15) (by decide) (W := 1) (by decide) (by decide) N13 e15 (by rw [hml]; rfl) (argsL := []) (rest := [(.ref b15)]) (lenOf pd_19 rfl) (Nat.le_of_eq rfl) (by decide) (by decide) (rm1 l Z a0 hw [] b15 h15 n0 O16 A15 F15_edit_b15 F15_root_b15 F15_draft_b15 F15_size_b15 ge_b15) rfl (hb hby at_76) ?_
        intro v17 T17 lc17 X17 N17 hQ17
        obtain ⟨n_17, kr_17, kk_17, rfl, K17, r17_0, r17_1, r17_2, r17_3, r17_4, r17_5, r17_6, r17_7, r17_8, r17_9, r17_10, r17_11, r17_12, r17_13, r17_14⟩ := hQ17
        have E18_b7 := E16_b7.keep K17
        have E18_b11 := E16_b11.keep K17
        have A18_b7 := A16_b7.keep K17 (ninS ne_b7_b15 nin0)
        have A18_b11 := A16_b11.keep K17 (ninS ne_b11_b15 nin0)
        have O18 := O16.keep K17 (allS ge_b15 all0)
        have ne_b15_n_17 : b15 ≠ n_17 := Nat.ne_of_lt (Nat.lt_of_lt_of_le A15.lt r17_12)
        have ge_n_17 : n0 ≤ n_17 := Nat.le_trans (own_sz O16) r17_12
        have ne_b15_kr_17 : b15 ≠ kr_17 := Nat.ne_of_lt (Nat.lt_of_lt_of_le A15.lt r17_13)
        have ge_kr_17 : n0 ≤ kr_17 := Nat.le_trans (own_sz O16) r17_13
        refine own_astore X17 hx (Ls' := #[.val (.int p1), .val (.int p2), .val (.int p3), .val (.int w2), .val (.int w4), .val (.int w6), .val (.int (p1 &&& (255 : Int32))), .val (.int (p2 &&& (255 : Int32))), .val (.ref b7), .val (.ref b11), .val (.ref b15), .unset, .unset]) (hb hby at_79) rfl rfl ?_
        refine own_aload X17 hx (hb hby at_81) rfl rfl ?_
        refine own_aload X17 hx (hb hby at_83) rfl rfl ?_
        refine own_virtual X17 hx hZ hown (y := y4) (z := y4) (own_w hw 31 rfl) (own_w hw 32 rfl) (notFace_of_selects (args := #[]) (mvT hZ (own_w hw 34 rfl))) (own_w hw 34 rfl) (own_w hw 33 rfl) (own_w hw 3 rfl) (own_w hw 35 rfl) (a := b15) r17_0 (by decide) (W := 0) (by decide) (by decide) N17 rfl (by rw [hml]; rfl) (argsL := [(.ref b7)]) (rest := []) (lenOf pd_27 rfl) (Nat.le_of_eq rfl) (by decide) (by decide) (rm40 l Z a0 hw [] b15 b7 (1 : Int64) n_17 (0 : Int32) (0 : Int64) kr_17 kk_17 T17.heap n0 O18 r17_0 r17_1 r17_2 r17_3 r17_4 r17_5 r17_6 r17_7 r17_8 r17_9 r17_10 r17_11 r17_14 E18_b7 ge_b15 (by first | assumption | decide | exact ⟨rfl, rfl⟩)) rfl (hb hby at_85) ?_
        intro v19 T19 lc19 X19 N19 hQ19
        obtain ⟨w_19, b_19, kr2_19, rfl, K19, r19_0, r19_1, r19_2, r19_3, r19_4, r19_5, r19_6, r19_7, r19_8, r19_9, r19_10, r19_11, r19_12, r19_13⟩ := hQ19
        have E20_b7 := E18_b7.keep K19
        have E20_b11 := E18_b11.keep K19
        have E20_n_17 := r17_5.keep K19
        have F20_keys_n_17 := r17_7.keep K19 (ninS (Ne.symm ne_b15_n_17) nin0)
        have F20_children_n_17 := r17_8.keep K19 (ninS (Ne.symm ne_b15_n_17) nin0)
        have F20_size_n_17 := r17_9.keep K19 (ninS (Ne.symm ne_b15_n_17) nin0)
        have A20_b7 := A18_b7.keep K19 (ninS ne_b7_b15 nin0)
        have A20_b11 := A18_b11.keep K19 (ninS ne_b11_b15 nin0)
        have A20_kr_17 := r17_11.keep K19 (ninS (Ne.symm ne_b15_kr_17) nin0)
        have O20 := O18.keep K19 (allS ge_b15 all0)
        have ne_kr_17_b_19 : kr_17 ≠ b_19 := Nat.ne_of_lt (Nat.lt_of_lt_of_le r17_10.lt r19_12)
        have ne_n_17_b_19 : n_17 ≠ b_19 := Nat.ne_of_lt (Nat.lt_of_lt_of_le r17_5.lt r19_12)
        have ne_b15_b_19 : b15 ≠ b_19 := Nat.ne_of_lt (Nat.lt_of_lt_of_le r17_0.lt r19_12)
        have ne_b11_b_19 : b11 ≠ b_19 := Nat.ne_of_lt (Nat.lt_of_lt_of_le E18_b11.lt r19_12)
        have ne_b7_b_19 : b7 ≠ b_19 := Nat.ne_of_lt (Nat.lt_of_lt_of_le E18_b7.lt r19_12)
        have ge_b_19 : n0 ≤ b_19 := Nat.le_trans (own_sz O18) r19_12
        have ne_kr_17_kr2_19 : kr_17 ≠ kr2_19 := Nat.ne_of_lt (Nat.lt_of_lt_of_le r17_10.lt r19_13)
        have ne_n_17_kr2_19 : n_17 ≠ kr2_19 := Nat.ne_of_lt (Nat.lt_of_lt_of_le r17_5.lt r19_13)
        have ne_b15_kr2_19 : b15 ≠ kr2_19 := Nat.ne_of_lt (Nat.lt_of_lt_of_le r17_0.lt r19_13)
        have ne_b11_kr2_19 : b11 ≠ kr2_19 := Nat.ne_of_lt (Nat.lt_of_lt_of_le E18_b11.lt r19_13)
        have ne_b7_kr2_19 : b7 ≠ kr2_19 := Nat.ne_of_lt (Nat.lt_of_lt_of_le E18_b7.lt r19_13)
        have ge_kr2_19 : n0 ≤ kr2_19 := Nat.le_trans (own_sz O18) r19_13
        refine own_pop X19 hx (hb hby at_88) rfl ?_
        refine own_iloadN X19 hx (hb hby at_89) rfl ?_
        by_cases hc90_21 : w2 = (0 : Int32)
        ·
          refine own_ifYes X19 hx (pc' := 98) (hb hby at_90) ((if0 _ _).trans (teq (hc90_21 : w2 = (0 : Int32))).1) (by decide) (by decide) ?_
          refine own_iloadN X19 hx (hb hby at_98) rfl ?_
          refine own_ifYes X19 hx (pc' := 110) (hb hby at_99) ((if0 _ _).trans (teq (hc90_21 : w2 = (0 : Int32))).1) (by decide) (by decide) ?_
          refine own_iconst X19 hx (v := (0 : Int32)) (hb hby at_110) rfl ?_
          refine own_istore X19 hx (Ls' := #[.val (.int p1), .val (.int p2), .val (.int p3), .val (.int w2), .val (.int w4), .val (.int w6), .val (.int (p1 &&& (255 : Int32))), .val (.int (p2 &&& (255 : Int32))), .val (.ref b7), .val (.ref b11), .val (.ref b15), .val (.int (0 : Int32)), .unset]) (hb hby at_111) rfl ?_
          refine own_aload X19 hx (hb hby at_113) rfl rfl ?_
          refine own_callS X19 hx hZ hown (y := y12) (own_w hw 82 rfl) (own_w hw 83 rfl) (own_w hw 84 rfl) (own_w hw 85 rfl) (by decide) (W := 0) (by decide) (by decide) N19 rfl (by rw [hml]; rfl) (argsL := [(.ref b15)]) (rest := []) (lenOf pd_28 rfl) (Nat.le_of_eq rfl) (by decide) (by decide) (rm120 l Z a0 hw [] b15 n_17 kr_17 kk_17 T19.heap n0 O20 r19_0 r19_2 E20_n_17 F20_keys_n_17 F20_children_n_17 F20_size_n_17 A20_kr_17) rfl (hb hby at_115) ?_
          intro v22 T22 lc22 X22 N22 hQ22
          obtain ⟨rfl, K22⟩ := hQ22
          have E23_b7 := E20_b7.keep K22
          have E23_b11 := E20_b11.keep K22
          have E23_b15 := r19_0.keep K22
          have E23_n_17 := E20_n_17.keep K22
          have E23_b_19 := r19_5.keep K22
          have E23_kr2_19 := r19_10.keep K22
          have F23_keys_n_17 := F20_keys_n_17.keep K22 nin0
          have F23_children_n_17 := F20_children_n_17.keep K22 nin0
          have F23_size_n_17 := F20_size_n_17.keep K22 nin0
          have F23_edit_b15 := r19_1.keep K22 nin0
          have F23_root_b15 := r19_2.keep K22 nin0
          have F23_draft_b15 := r19_3.keep K22 nin0
          have F23_size_b15 := r19_4.keep K22 nin0
          have F23_edit_b_19 := r19_6.keep K22 nin0
          have F23_keys_b_19 := r19_7.keep K22 nin0
          have F23_children_b_19 := r19_8.keep K22 nin0
          have F23_size_b_19 := r19_9.keep K22 nin0
          have A23_b7 := A20_b7.keep K22 nin0
          have A23_b11 := A20_b11.keep K22 nin0
          have A23_kr_17 := A20_kr_17.keep K22 nin0
          have A23_kr2_19 := r19_11.keep K22 nin0
          have O23 := O20.keep K22 all0
          refine own_iload X22 hx (hb hby at_118) rfl ?_
          refine own_icmpYes X22 hx (pc' := 125) (hb hby at_120) (teq (by decide : (0 : Int32) = (0 : Int32))).1 (by decide) (by decide) ?_
          show Goes _ _ _ _ _ _ (T22.setTop (mkF m 125 #[.val (.int p1), .val (.int p2), .val (.int p3), .val (.int w2), .val (.int w4), .val (.int w6), .val (.int (p1 &&& (255 : Int32))), .val (.int (p2 &&& (255 : Int32))), .val (.ref b7), .val (.ref b11), .val (.ref b15), .val (.int (0 : Int32)), .unset] []))
          rcases own_tri p1 p2 with ⟨ho1, ho2⟩ | ⟨ho1, ho2, ho3, ho4, ho5, ho6, ho7⟩ | ⟨ho1, ho2, ho3, ho4, ho5, ho6, ho7⟩
          ·
            show Goes _ _ _ _ _ _ (T22.setTop (mkF m 125 #[.val (.int p1), .val (.int p2), .val (.int p3), .val (.int w2), .val (.int w4), .val (.int w6), .val (.int (p1 &&& (255 : Int32))), .val (.int (p2 &&& (255 : Int32))), .val (.ref b7), .val (.ref b11), .val (.ref b15), .val (.int (0 : Int32)), .unset] []))
            refine own_aload X22 hx (hb hby at_125) rfl rfl ?_
            refine own_aload X22 hx (hb hby at_127) rfl rfl ?_
            refine own_virtual X22 hx hZ hown (y := y4) (z := y4) (own_w hw 31 rfl) (own_w hw 32 rfl) (notFace_of_selects (args := #[]) (mvT hZ (own_w hw 34 rfl))) (own_w hw 34 rfl) (own_w hw 33 rfl) (own_w hw 3 rfl) (own_w hw 35 rfl) (a := b15) E23_b15 (by decide) (W := 0) (by decide) (by decide) N22 rfl (by rw [hml]; rfl) (argsL := [(.ref b11)]) (rest := []) (lenOf pd_27 rfl) (Nat.le_of_eq rfl) (by decide) (by decide) (rm4Ae l Z a0 hw [] b15 b11 (1 : Int64) n_17 b_19 ((0 : Int32) + (1 : Int32)) kr2_19 kk_17 b7 ((p1.toInt8.toInt32).toInt8.toInt32) ((p2.toInt8.toInt32).toInt8.toInt32) k7 k11 T22.heap n0 O23 E23_b15 F23_edit_b15 F23_root_b15 F23_draft_b15 F23_size_b15 E23_b_19 F23_edit_b_19 F23_keys_b_19 F23_children_b_19 F23_size_b_19 E23_kr2_19 A23_kr2_19 r17_14 ge_b15 ge_b_19 ge_kr2_19 E23_b11 E23_b7 A23_b7 A23_b11 ne_b7_b11 ho2) rfl (hb hby at_129) ?_
            intro v24 T24 lc24 X24 N24 hQ24
            obtain ⟨w_24, rfl, K24, r24_0, r24_1, r24_2, r24_3, r24_4⟩ := hQ24
            have E25_b7 := E23_b7.keep K24
            have E25_n_17 := E23_n_17.keep K24
            have E25_b_19 := E23_b_19.keep K24
            have E25_kr2_19 := E23_kr2_19.keep K24
            have F25_keys_n_17 := F23_keys_n_17.keep K24 (ninS (Ne.symm ne_b15_n_17) nin0)
            have F25_children_n_17 := F23_children_n_17.keep K24 (ninS (Ne.symm ne_b15_n_17) nin0)
            have F25_size_n_17 := F23_size_n_17.keep K24 (ninS (Ne.symm ne_b15_n_17) nin0)
            have F25_edit_b_19 := F23_edit_b_19.keep K24 (ninS (Ne.symm ne_b15_b_19) nin0)
            have F25_keys_b_19 := F23_keys_b_19.keep K24 (ninS (Ne.symm ne_b15_b_19) nin0)
            have F25_children_b_19 := F23_children_b_19.keep K24 (ninS (Ne.symm ne_b15_b_19) nin0)
            have F25_size_b_19 := F23_size_b_19.keep K24 (ninS (Ne.symm ne_b15_b_19) nin0)
            have A25_b7 := A23_b7.keep K24 (ninS ne_b7_b15 nin0)
            have A25_kr_17 := A23_kr_17.keep K24 (ninS (Ne.symm ne_b15_kr_17) nin0)
            have A25_kr2_19 := A23_kr2_19.keep K24 (ninS (Ne.symm ne_b15_kr2_19) nin0)
            have O25 := O23.keep K24 (allS ge_b15 all0)
            refine own_pop X24 hx (hb hby at_132) rfl ?_
            refine own_iload X24 hx (hb hby at_133) rfl ?_
            by_cases hc135_26 : w4 = (0 : Int32)
            ·
              refine own_ifYes X24 hx (pc' := 146) (hb hby at_135) ((if0 _ _).trans (teq (hc135_26 : w4 = (0 : Int32))).1) (by decide) (by decide) ?_
              refine own_aload X24 hx (hb hby at_146) rfl rfl ?_
              refine own_callS X24 hx hZ hown (y := y12) (own_w hw 82 rfl) (own_w hw 83 rfl) (own_w hw 84 rfl) (own_w hw 85 rfl) (by decide) (W := 0) (by decide) (by decide) N24 rfl (by rw [hml]; rfl) (argsL := [(.ref b15)]) (rest := []) (lenOf pd_28 rfl) (Nat.le_of_eq rfl) (by decide) (by decide) (rm120 l Z a0 hw [] b15 n_17 kr_17 kk_17 T24.heap n0 O25 r24_0 r24_2 E25_n_17 F25_keys_n_17 F25_children_n_17 F25_size_n_17 A25_kr_17) rfl (hb hby at_148) ?_
              intro v27 T27 lc27 X27 N27 hQ27
              obtain ⟨rfl, K27⟩ := hQ27
              have E28_b7 := E25_b7.keep K27
              have E28_b15 := r24_0.keep K27
              have E28_b_19 := E25_b_19.keep K27
              have F28_keys_b_19 := F25_keys_b_19.keep K27 nin0
              have F28_children_b_19 := F25_children_b_19.keep K27 nin0
              have F28_size_b_19 := F25_size_b_19.keep K27 nin0
              have F28_edit_b15 := r24_1.keep K27 nin0
              have F28_root_b15 := r24_2.keep K27 nin0
              have F28_draft_b15 := r24_3.keep K27 nin0
              have F28_size_b15 := r24_4.keep K27 nin0
              have A28_b7 := A25_b7.keep K27 nin0
              have A28_kr2_19 := A25_kr2_19.keep K27 nin0
              have O28 := O25.keep K27 all0
              refine own_iload X27 hx (hb hby at_151) rfl ?_
              refine own_icmpYes X27 hx (pc' := 158) (hb hby at_153) (teq (by decide : (0 : Int32) = (0 : Int32))).1 (by decide) (by decide) ?_
              refine own_aload X27 hx (hb hby at_158) rfl rfl ?_
              refine own_virtual X27 hx hZ hown (y := y30) (z := y30) (own_w hw 181 rfl) (own_w hw 182 rfl) (notFace_of_selects (args := #[]) (mvT hZ (own_w hw 184 rfl))) (own_w hw 184 rfl) (own_w hw 183 rfl) (own_w hw 3 rfl) (own_w hw 185 rfl) (a := b15) E28_b15 (by decide) (W := 0) (by decide) (by decide) N27 rfl (by rw [hml]; rfl) (argsL := []) (rest := []) (lenOf pd_19 rfl) (Nat.le_of_eq rfl) (by decide) (by decide) (rm30n l Z a0 hw [] b15 (1 : Int64) n_17 b_19 ((0 : Int32) + (1 : Int32)) T27.heap n0 O28 E28_b15 F28_edit_b15 F28_root_b15 F28_draft_b15 F28_size_b15 (Ne.symm ne_n_17_b_19) ge_b15) rfl (hb hby at_160) ?_
              intro v29 T29 lc29 X29 N29 hQ29
              obtain ⟨rfl, K29, r29_0, r29_1, r29_2, r29_3, r29_4⟩ := hQ29
              have E30_b7 := E28_b7.keep K29
              have E30_b_19 := E28_b_19.keep K29
              have F30_keys_b_19 := F28_keys_b_19.keep K29 (ninS (Ne.symm ne_b15_b_19) nin0)
              have F30_children_b_19 := F28_children_b_19.keep K29 (ninS (Ne.symm ne_b15_b_19) nin0)
              have F30_size_b_19 := F28_size_b_19.keep K29 (ninS (Ne.symm ne_b15_b_19) nin0)
              have A30_b7 := A28_b7.keep K29 (ninS ne_b7_b15 nin0)
              have A30_kr2_19 := A28_kr2_19.keep K29 (ninS (Ne.symm ne_b15_kr2_19) nin0)
              have O30 := O28.keep K29 (allS ge_b15 all0)
              show Goes _ _ _ _ _ _ (T29.setTop (mkF m 163 #[.val (.int p1), .val (.int p2), .val (.int p3), .val (.int w2), .val (.int w4), .val (.int w6), .val (.int (p1 &&& (255 : Int32))), .val (.int (p2 &&& (255 : Int32))), .val (.ref b7), .val (.ref b11), .val (.ref b15), .val (.int (0 : Int32)), .unset] []))
              have jn31 : ∀ (T31 : State) (lc31 : List Loc) (X31 : Stand p l e room_1 s m #[(.int p1), (.int p2), (.int p3)] below meth c T31 lc31 17 156) (N31 : Fr n0 lc31) (e31 : T31.heap = T29.heap), Goes p e below (fun o t L => FrameEnd s o t L (56) (576)) n0 (Q0 Z p1 p2 p3 h0 n0) (T31.setTop (mkF m 173 #[.val (.int p1), .val (.int p2), .val (.int p3), .val (.int w2), .val (.int w4), .val (.int w6), .val (.int (p1 &&& (255 : Int32))), .val (.int (p2 &&& (255 : Int32))), .val (.ref b7), .val (.ref b11), .val (.ref b15), .val (.int (0 : Int32)), .unset] [])) := by
                intro T31 lc31 X31 N31 e31
                refine own_iload X31 hx (hb hby at_173) rfl ?_
                refine own_ifYes X31 hx (pc' := 199) (hb hby at_175) ((if0 _ _).trans (teq (hc135_26 : w4 = (0 : Int32))).1) (by decide) (by decide) ?_
                refine own_iload X31 hx (hb hby at_199) rfl ?_
                refine own_iload X31 hx (hb hby at_201) rfl ?_
                refine own_icmpNo X31 hx (hb hby at_203) (teq (ho1 : (p1 &&& (255 : Int32)) = (p2 &&& (255 : Int32)))).2 ?_
                refine own_iload X31 hx (hb hby at_206) rfl ?_
                refine own_callS X31 hx hZ hown (y := y31) (own_w hw 186 rfl) (own_w hw 187 rfl) (own_w hw 84 rfl) (own_w hw 188 rfl) (by decide) (W := 0) (by decide) (by decide) N31 e31 (by rw [hml]; rfl) (argsL := [(.int (p1 &&& (255 : Int32)))]) (rest := []) (lenOf pd_26 rfl) (Nat.le_of_eq rfl) (by decide) (by decide) (rm31 l Z a0 hw [] (p1 &&& (255 : Int32)) T29.heap n0 O30) rfl (hb hby at_208) ?_
                intro v32 T32 lc32 X32 N32 hQ32
                obtain ⟨rfl, e32⟩ := hQ32
                refine own_istore X32 hx (Ls' := #[.val (.int p1), .val (.int p2), .val (.int p3), .val (.int w2), .val (.int w4), .val (.int w6), .val (.int (p1 &&& (255 : Int32))), .val (.int (p2 &&& (255 : Int32))), .val (.ref b7), .val (.ref b11), .val (.ref b15), .val (.int (0 : Int32)), .val (.int (((p1 &&& (255 : Int32)) + (1 : Int32)) * (512 : Int32)))]) (hb hby at_211) rfl ?_
                refine own_goto X32 hx (pc' := 235) (hb hby at_213) (by decide) (by decide) ?_
                refine own_aload X32 hx (hb hby at_235) rfl rfl ?_
                refine own_callS X32 hx hZ hown (y := y12) (own_w hw 82 rfl) (own_w hw 83 rfl) (own_w hw 84 rfl) (own_w hw 85 rfl) (by decide) (W := 0) (by decide) (by decide) N32 e32 (by rw [hml]; rfl) (argsL := [(.ref b15)]) (rest := []) (lenOf pd_28 rfl) (Nat.le_of_eq rfl) (by decide) (by decide) (rm121 l Z a0 hw [] b15 b_19 kr2_19 b7 kk_17 ((p1.toInt8.toInt32).toInt8.toInt32) k7 T29.heap n0 O30 r29_0 r29_2 E30_b_19 F30_keys_b_19 F30_children_b_19 F30_size_b_19 A30_kr2_19 A30_b7 E30_b7) rfl (hb hby at_237) ?_
                intro v33 T33 lc33 X33 N33 hQ33
                obtain ⟨rfl, K33⟩ := hQ33
                have O34 := O30.keep K33 all0
                refine own_iload X33 hx (hb hby at_240) rfl ?_
                refine own_icmpNo X33 hx (hb hby at_242) (teq ((by simp only [own_ux]) : (((((p1.toInt8.toInt32).toInt8.toInt32) &&& (255 : Int32)) + (1 : Int32)) * (512 : Int32)) = (((p1 &&& (255 : Int32)) + (1 : Int32)) * (512 : Int32)))).2 ?_
                refine own_iconst X33 hx (v := (1 : Int32)) (hb hby at_245) rfl ?_
                refine own_goto X33 hx (pc' := 250) (hb hby at_246) (by decide) (by decide) ?_
                show Goes _ _ _ _ _ _ (T33.setTop (mkF m 250 #[.val (.int p1), .val (.int p2), .val (.int p3), .val (.int w2), .val (.int w4), .val (.int w6), .val (.int (p1 &&& (255 : Int32))), .val (.int (p2 &&& (255 : Int32))), .val (.ref b7), .val (.ref b11), .val (.ref b15), .val (.int (0 : Int32)), .val (.int (((p1 &&& (255 : Int32)) + (1 : Int32)) * (512 : Int32)))] [(.int (1 : Int32))]))
                exact own_retN X33 hx (t := .boolean) N33 hlk (by decide) (by decide) hret (by simp) (hb hby at_250) (rfl)
              show Goes _ _ _ _ _ _ (T29.setTop (mkF m 163 #[.val (.int p1), .val (.int p2), .val (.int p3), .val (.int w2), .val (.int w4), .val (.int w6), .val (.int (p1 &&& (255 : Int32))), .val (.int (p2 &&& (255 : Int32))), .val (.ref b7), .val (.ref b11), .val (.ref b15), .val (.int (0 : Int32)), .unset] []))
              refine own_iload X29 hx (hb hby at_163) rfl ?_
              by_cases hc165_35 : w6 = (0 : Int32)
              ·
                refine own_ifYes X29 hx (pc' := 173) (hb hby at_165) ((if0 _ _).trans (teq (hc165_35 : w6 = (0 : Int32))).1) (by decide) (by decide) ?_
                show Goes _ _ _ _ _ _ (T29.setTop (mkF m 173 #[.val (.int p1), .val (.int p2), .val (.int p3), .val (.int w2), .val (.int w4), .val (.int w6), .val (.int (p1 &&& (255 : Int32))), .val (.int (p2 &&& (255 : Int32))), .val (.ref b7), .val (.ref b11), .val (.ref b15), .val (.int (0 : Int32)), .unset] []))
                exact jn31 T29 _ X29 N29 rfl
              ·
                refine own_ifNo X29 hx (hb hby at_165) ((if0 _ _).trans (feq (hc165_35 : ¬ (w6 = (0 : Int32)))).1) ?_
                refine own_aload X29 hx (hb hby at_168) rfl rfl ?_
                refine own_virtual X29 hx hZ hown (y := y30) (z := y30) (own_w hw 181 rfl) (own_w hw 182 rfl) (notFace_of_selects (args := #[]) (mvT hZ (own_w hw 184 rfl))) (own_w hw 184 rfl) (own_w hw 183 rfl) (own_w hw 3 rfl) (own_w hw 185 rfl) (a := b15) r29_0 (by decide) (W := 0) (by decide) (by decide) N29 rfl (by rw [hml]; rfl) (argsL := []) (rest := []) (lenOf pd_19 rfl) (Nat.le_of_eq rfl) (by decide) (by decide) (rm30s l Z a0 hw [] b15 ((1 : Int64) + (1 : Int64)) b_19 ((0 : Int32) + (1 : Int32)) T29.heap n0 O30 r29_0 r29_1 r29_2 r29_3 r29_4) rfl (hb hby at_170) ?_
                intro v36 T36 lc36 X36 N36 hQ36
                obtain ⟨rfl, e36⟩ := hQ36
                show Goes _ _ _ _ _ _ (T36.setTop (mkF m 173 #[.val (.int p1), .val (.int p2), .val (.int p3), .val (.int w2), .val (.int w4), .val (.int w6), .val (.int (p1 &&& (255 : Int32))), .val (.int (p2 &&& (255 : Int32))), .val (.ref b7), .val (.ref b11), .val (.ref b15), .val (.int (0 : Int32)), .unset] []))
                exact jn31 T36 _ X36 N36 e36
            ·
              refine own_ifNo X24 hx (hb hby at_135) ((if0 _ _).trans (feq (hc135_26 : ¬ (w4 = (0 : Int32)))).1) ?_
              refine own_aload X24 hx (hb hby at_138) rfl rfl ?_
              refine own_aload X24 hx (hb hby at_140) rfl rfl ?_
              refine own_virtual X24 hx hZ hown (y := y23) (z := y23) (own_w hw 155 rfl) (own_w hw 156 rfl) (notFace_of_selects (args := #[]) (mvT hZ (own_w hw 158 rfl))) (own_w hw 158 rfl) (own_w hw 157 rfl) (own_w hw 3 rfl) (own_w hw 159 rfl) (a := b15) r24_0 (by decide) (W := 0) (by decide) (by decide) N24 rfl (by rw [hml]; rfl) (argsL := [(.ref b7)]) (rest := []) (lenOf pd_27 rfl) (Nat.le_of_eq rfl) (by decide) (by decide) (rm231s l Z a0 hw [] b15 b7 (1 : Int64) n_17 b_19 ((0 : Int32) + (1 : Int32)) kr2_19 kk_17 T24.heap n0 O25 r24_0 r24_1 r24_2 r24_3 r24_4 E25_b_19 F25_edit_b_19 F25_keys_b_19 F25_children_b_19 F25_size_b_19 E25_kr2_19 A25_kr2_19 r17_14 ge_b15 ge_b_19 ge_kr2_19 E25_b7) rfl (hb hby at_142) ?_
              intro v37 T37 lc37 X37 N37 hQ37
              obtain ⟨w_37, rfl, K37, r37_0, r37_1, r37_2, r37_3, r37_4, r37_5, r37_6, r37_7, r37_8, r37_9, r37_10, r37_11⟩ := hQ37
              have E38_n_17 := E25_n_17.keep K37
              have F38_keys_n_17 := F25_keys_n_17.keep K37 (ninS (Ne.symm ne_b15_n_17) (ninS ne_n_17_b_19 (ninS ne_n_17_kr2_19 nin0)))
              have F38_children_n_17 := F25_children_n_17.keep K37 (ninS (Ne.symm ne_b15_n_17) (ninS ne_n_17_b_19 (ninS ne_n_17_kr2_19 nin0)))
              have F38_size_n_17 := F25_size_n_17.keep K37 (ninS (Ne.symm ne_b15_n_17) (ninS ne_n_17_b_19 (ninS ne_n_17_kr2_19 nin0)))
              have A38_kr_17 := A25_kr_17.keep K37 (ninS (Ne.symm ne_b15_kr_17) (ninS ne_kr_17_b_19 (ninS ne_kr_17_kr2_19 nin0)))
              have O38 := O25.keep K37 (allS ge_b15 (allS ge_b_19 (allS ge_kr2_19 all0)))
              refine own_pop X37 hx (hb hby at_145) rfl ?_
              refine own_aload X37 hx (hb hby at_146) rfl rfl ?_
              refine own_callS X37 hx hZ hown (y := y12) (own_w hw 82 rfl) (own_w hw 83 rfl) (own_w hw 84 rfl) (own_w hw 85 rfl) (by decide) (W := 0) (by decide) (by decide) N37 rfl (by rw [hml]; rfl) (argsL := [(.ref b15)]) (rest := []) (lenOf pd_28 rfl) (Nat.le_of_eq rfl) (by decide) (by decide) (rm120 l Z a0 hw [] b15 n_17 kr_17 kk_17 T37.heap n0 O38 r37_0 r37_2 E38_n_17 F38_keys_n_17 F38_children_n_17 F38_size_n_17 A38_kr_17) rfl (hb hby at_148) ?_
              intro v39 T39 lc39 X39 N39 hQ39
              obtain ⟨rfl, K39⟩ := hQ39
              have E40_b15 := r37_0.keep K39
              have E40_b_19 := r37_5.keep K39
              have F40_edit_b15 := r37_1.keep K39 nin0
              have F40_root_b15 := r37_2.keep K39 nin0
              have F40_draft_b15 := r37_3.keep K39 nin0
              have F40_size_b15 := r37_4.keep K39 nin0
              have F40_keys_b_19 := r37_7.keep K39 nin0
              have F40_children_b_19 := r37_8.keep K39 nin0
              have F40_size_b_19 := r37_9.keep K39 nin0
              have A40_kr2_19 := r37_11.keep K39 nin0
              have O40 := O38.keep K39 all0
              refine own_iload X39 hx (hb hby at_151) rfl ?_
              refine own_icmpYes X39 hx (pc' := 158) (hb hby at_153) (teq (by decide : (0 : Int32) = (0 : Int32))).1 (by decide) (by decide) ?_
              refine own_aload X39 hx (hb hby at_158) rfl rfl ?_
              refine own_virtual X39 hx hZ hown (y := y30) (z := y30) (own_w hw 181 rfl) (own_w hw 182 rfl) (notFace_of_selects (args := #[]) (mvT hZ (own_w hw 184 rfl))) (own_w hw 184 rfl) (own_w hw 183 rfl) (own_w hw 3 rfl) (own_w hw 185 rfl) (a := b15) E40_b15 (by decide) (W := 0) (by decide) (by decide) N39 rfl (by rw [hml]; rfl) (argsL := []) (rest := []) (lenOf pd_19 rfl) (Nat.le_of_eq rfl) (by decide) (by decide) (rm30n l Z a0 hw [] b15 (1 : Int64) n_17 b_19 (((0 : Int32) + (1 : Int32)) - (1 : Int32)) T39.heap n0 O40 E40_b15 F40_edit_b15 F40_root_b15 F40_draft_b15 F40_size_b15 (Ne.symm ne_n_17_b_19) ge_b15) rfl (hb hby at_160) ?_
              intro v41 T41 lc41 X41 N41 hQ41
              obtain ⟨rfl, K41, r41_0, r41_1, r41_2, r41_3, r41_4⟩ := hQ41
              have E42_b_19 := E40_b_19.keep K41
              have F42_keys_b_19 := F40_keys_b_19.keep K41 (ninS (Ne.symm ne_b15_b_19) nin0)
              have F42_children_b_19 := F40_children_b_19.keep K41 (ninS (Ne.symm ne_b15_b_19) nin0)
              have F42_size_b_19 := F40_size_b_19.keep K41 (ninS (Ne.symm ne_b15_b_19) nin0)
              have A42_kr2_19 := A40_kr2_19.keep K41 (ninS (Ne.symm ne_b15_kr2_19) nin0)
              have O42 := O40.keep K41 (allS ge_b15 all0)
              show Goes _ _ _ _ _ _ (T41.setTop (mkF m 163 #[.val (.int p1), .val (.int p2), .val (.int p3), .val (.int w2), .val (.int w4), .val (.int w6), .val (.int (p1 &&& (255 : Int32))), .val (.int (p2 &&& (255 : Int32))), .val (.ref b7), .val (.ref b11), .val (.ref b15), .val (.int (0 : Int32)), .unset] []))
              have jn43 : ∀ (T43 : State) (lc43 : List Loc) (X43 : Stand p l e room_1 s m #[(.int p1), (.int p2), (.int p3)] below meth c T43 lc43 17 156) (N43 : Fr n0 lc43) (e43 : T43.heap = T41.heap), Goes p e below (fun o t L => FrameEnd s o t L (56) (576)) n0 (Q0 Z p1 p2 p3 h0 n0) (T43.setTop (mkF m 173 #[.val (.int p1), .val (.int p2), .val (.int p3), .val (.int w2), .val (.int w4), .val (.int w6), .val (.int (p1 &&& (255 : Int32))), .val (.int (p2 &&& (255 : Int32))), .val (.ref b7), .val (.ref b11), .val (.ref b15), .val (.int (0 : Int32)), .unset] [])) := by
                intro T43 lc43 X43 N43 e43
                refine own_iload X43 hx (hb hby at_173) rfl ?_
                refine own_ifNo X43 hx (hb hby at_175) ((if0 _ _).trans (feq (hc135_26 : ¬ (w4 = (0 : Int32)))).1) ?_
                refine own_iload X43 hx (hb hby at_178) rfl ?_
                refine own_iload X43 hx (hb hby at_180) rfl ?_
                refine own_icmpNo X43 hx (hb hby at_182) (teq (ho1 : (p1 &&& (255 : Int32)) = (p2 &&& (255 : Int32)))).2 ?_
                refine own_iconst X43 hx (v := (0 : Int32)) (hb hby at_185) rfl ?_
                refine own_goto X43 hx (pc' := 194) (hb hby at_186) (by decide) (by decide) ?_
                refine own_istore X43 hx (Ls' := #[.val (.int p1), .val (.int p2), .val (.int p3), .val (.int w2), .val (.int w4), .val (.int w6), .val (.int (p1 &&& (255 : Int32))), .val (.int (p2 &&& (255 : Int32))), .val (.ref b7), .val (.ref b11), .val (.ref b15), .val (.int (0 : Int32)), .val (.int (0 : Int32))]) (hb hby at_194) rfl ?_
                refine own_goto X43 hx (pc' := 235) (hb hby at_196) (by decide) (by decide) ?_
                refine own_aload X43 hx (hb hby at_235) rfl rfl ?_
                refine own_callS X43 hx hZ hown (y := y12) (own_w hw 82 rfl) (own_w hw 83 rfl) (own_w hw 84 rfl) (own_w hw 85 rfl) (by decide) (W := 0) (by decide) (by decide) N43 e43 (by rw [hml]; rfl) (argsL := [(.ref b15)]) (rest := []) (lenOf pd_28 rfl) (Nat.le_of_eq rfl) (by decide) (by decide) (rm120 l Z a0 hw [] b15 b_19 kr2_19 kk_17 T41.heap n0 O42 r41_0 r41_2 E42_b_19 F42_keys_b_19 F42_children_b_19 F42_size_b_19 A42_kr2_19) rfl (hb hby at_237) ?_
                intro v44 T44 lc44 X44 N44 hQ44
                obtain ⟨rfl, K44⟩ := hQ44
                have O45 := O42.keep K44 all0
                refine own_iload X44 hx (hb hby at_240) rfl ?_
                refine own_icmpNo X44 hx (hb hby at_242) (teq (by decide : (0 : Int32) = (0 : Int32))).2 ?_
                refine own_iconst X44 hx (v := (1 : Int32)) (hb hby at_245) rfl ?_
                refine own_goto X44 hx (pc' := 250) (hb hby at_246) (by decide) (by decide) ?_
                show Goes _ _ _ _ _ _ (T44.setTop (mkF m 250 #[.val (.int p1), .val (.int p2), .val (.int p3), .val (.int w2), .val (.int w4), .val (.int w6), .val (.int (p1 &&& (255 : Int32))), .val (.int (p2 &&& (255 : Int32))), .val (.ref b7), .val (.ref b11), .val (.ref b15), .val (.int (0 : Int32)), .val (.int (0 : Int32))] [(.int (1 : Int32))]))
                exact own_retN X44 hx (t := .boolean) N44 hlk (by decide) (by decide) hret (by simp) (hb hby at_250) (rfl)
              show Goes _ _ _ _ _ _ (T41.setTop (mkF m 163 #[.val (.int p1), .val (.int p2), .val (.int p3), .val (.int w2), .val (.int w4), .val (.int w6), .val (.int (p1 &&& (255 : Int32))), .val (.int (p2 &&& (255 : Int32))), .val (.ref b7), .val (.ref b11), .val (.ref b15), .val (.int (0 : Int32)), .unset] []))
              refine own_iload X41 hx (hb hby at_163) rfl ?_
              by_cases hc165_46 : w6 = (0 : Int32)
              ·
                refine own_ifYes X41 hx (pc' := 173) (hb hby at_165) ((if0 _ _).trans (teq (hc165_46 : w6 = (0 : Int32))).1) (by decide) (by decide) ?_
                show Goes _ _ _ _ _ _ (T41.setTop (mkF m 173 #[.val (.int p1), .val (.int p2), .val (.int p3), .val (.int w2), .val (.int w4), .val (.int w6), .val (.int (p1 &&& (255 : Int32))), .val (.int (p2 &&& (255 : Int32))), .val (.ref b7), .val (.ref b11), .val (.ref b15), .val (.int (0 : Int32)), .unset] []))
                exact jn43 T41 _ X41 N41 rfl
              ·
                refine own_ifNo X41 hx (hb hby at_165) ((if0 _ _).trans (feq (hc165_46 : ¬ (w6 = (0 : Int32)))).1) ?_
                refine own_aload X41 hx (hb hby at_168) rfl rfl ?_
                refine own_virtual X41 hx hZ hown (y := y30) (z := y30) (own_w hw 181 rfl) (own_w hw 182 rfl) (notFace_of_selects (args := #[]) (mvT hZ (own_w hw 184 rfl))) (own_w hw 184 rfl) (own_w hw 183 rfl) (own_w hw 3 rfl) (own_w hw 185 rfl) (a := b15) r41_0 (by decide) (W := 0) (by decide) (by decide) N41 rfl (by rw [hml]; rfl) (argsL := []) (rest := []) (lenOf pd_19 rfl) (Nat.le_of_eq rfl) (by decide) (by decide) (rm30s l Z a0 hw [] b15 ((1 : Int64) + (1 : Int64)) b_19 (((0 : Int32) + (1 : Int32)) - (1 : Int32)) T41.heap n0 O42 r41_0 r41_1 r41_2 r41_3 r41_4) rfl (hb hby at_170) ?_
                intro v47 T47 lc47 X47 N47 hQ47
                obtain ⟨rfl, e47⟩ := hQ47
                show Goes _ _ _ _ _ _ (T47.setTop (mkF m 173 #[.val (.int p1), .val (.int p2), .val (.int p3), .val (.int w2), .val (.int w4), .val (.int w6), .val (.int (p1 &&& (255 : Int32))), .val (.int (p2 &&& (255 : Int32))), .val (.ref b7), .val (.ref b11), .val (.ref b15), .val (.int (0 : Int32)), .unset] []))
                exact jn43 T47 _ X47 N47 e47
          ·
            show Goes _ _ _ _ _ _ (T22.setTop (mkF m 125 #[.val (.int p1), .val (.int p2), .val (.int p3), .val (.int w2), .val (.int w4), .val (.int w6), .val (.int (p1 &&& (255 : Int32))), .val (.int (p2 &&& (255 : Int32))), .val (.ref b7), .val (.ref b11), .val (.ref b15), .val (.int (0 : Int32)), .unset] []))
            refine own_aload X22 hx (hb hby at_125) rfl rfl ?_
            refine own_aload X22 hx (hb hby at_127) rfl rfl ?_
            refine own_virtual X22 hx hZ hown (y := y4) (z := y4) (own_w hw 31 rfl) (own_w hw 32 rfl) (notFace_of_selects (args := #[]) (mvT hZ (own_w hw 34 rfl))) (own_w hw 34 rfl) (own_w hw 33 rfl) (own_w hw 3 rfl) (own_w hw 35 rfl) (a := b15) E23_b15 (by decide) (W := 0) (by decide) (by decide) N22 rfl (by rw [hml]; rfl) (argsL := [(.ref b11)]) (rest := []) (lenOf pd_27 rfl) (Nat.le_of_eq rfl) (by decide) (by decide) (rm4Al l Z a0 hw [] b15 b11 (1 : Int64) n_17 b_19 ((0 : Int32) + (1 : Int32)) kr2_19 kk_17 b7 ((p1.toInt8.toInt32).toInt8.toInt32) ((p2.toInt8.toInt32).toInt8.toInt32) k7 k11 T22.heap n0 O23 E23_b15 F23_edit_b15 F23_root_b15 F23_draft_b15 F23_size_b15 E23_b_19 F23_edit_b_19 F23_keys_b_19 F23_children_b_19 F23_size_b_19 E23_kr2_19 A23_kr2_19 r17_14 ge_b15 ge_b_19 ge_kr2_19 E23_b11 E23_b7 A23_b7 A23_b11 ne_b7_b11 ho2 ho6) rfl (hb hby at_129) ?_
            intro v48 T48 lc48 X48 N48 hQ48
            obtain ⟨w_48, rfl, K48, r48_0, r48_1, r48_2, r48_3, r48_4, r48_5, r48_6, r48_7, r48_8, r48_9, r48_10, r48_11⟩ := hQ48
            have E49_b7 := E23_b7.keep K48
            have E49_b11 := E23_b11.keep K48
            have E49_n_17 := E23_n_17.keep K48
            have F49_keys_n_17 := F23_keys_n_17.keep K48 (ninS (Ne.symm ne_b15_n_17) (ninS ne_n_17_b_19 (ninS ne_n_17_kr2_19 nin0)))
            have F49_children_n_17 := F23_children_n_17.keep K48 (ninS (Ne.symm ne_b15_n_17) (ninS ne_n_17_b_19 (ninS ne_n_17_kr2_19 nin0)))
            have F49_size_n_17 := F23_size_n_17.keep K48 (ninS (Ne.symm ne_b15_n_17) (ninS ne_n_17_b_19 (ninS ne_n_17_kr2_19 nin0)))
            have A49_b7 := A23_b7.keep K48 (ninS ne_b7_b15 (ninS ne_b7_b_19 (ninS ne_b7_kr2_19 nin0)))
            have A49_b11 := A23_b11.keep K48 (ninS ne_b11_b15 (ninS ne_b11_b_19 (ninS ne_b11_kr2_19 nin0)))
            have A49_kr_17 := A23_kr_17.keep K48 (ninS (Ne.symm ne_b15_kr_17) (ninS ne_kr_17_b_19 (ninS ne_kr_17_kr2_19 nin0)))
            have O49 := O23.keep K48 (allS ge_b15 (allS ge_b_19 (allS ge_kr2_19 all0)))
            refine own_pop X48 hx (hb hby at_132) rfl ?_
            refine own_iload X48 hx (hb hby at_133) rfl ?_
            by_cases hc135_50 : w4 = (0 : Int32)
            ·
              refine own_ifYes X48 hx (pc' := 146) (hb hby at_135) ((if0 _ _).trans (teq (hc135_50 : w4 = (0 : Int32))).1) (by decide) (by decide) ?_
              refine own_aload X48 hx (hb hby at_146) rfl rfl ?_
              refine own_callS X48 hx hZ hown (y := y12) (own_w hw 82 rfl) (own_w hw 83 rfl) (own_w hw 84 rfl) (own_w hw 85 rfl) (by decide) (W := 0) (by decide) (by decide) N48 rfl (by rw [hml]; rfl) (argsL := [(.ref b15)]) (rest := []) (lenOf pd_28 rfl) (Nat.le_of_eq rfl) (by decide) (by decide) (rm120 l Z a0 hw [] b15 n_17 kr_17 kk_17 T48.heap n0 O49 r48_0 r48_2 E49_n_17 F49_keys_n_17 F49_children_n_17 F49_size_n_17 A49_kr_17) rfl (hb hby at_148) ?_
              intro v51 T51 lc51 X51 N51 hQ51
              obtain ⟨rfl, K51⟩ := hQ51
              have E52_b7 := E49_b7.keep K51
              have E52_b11 := E49_b11.keep K51
              have E52_b15 := r48_0.keep K51
              have E52_b_19 := r48_5.keep K51
              have F52_edit_b15 := r48_1.keep K51 nin0
              have F52_root_b15 := r48_2.keep K51 nin0
              have F52_draft_b15 := r48_3.keep K51 nin0
              have F52_size_b15 := r48_4.keep K51 nin0
              have F52_keys_b_19 := r48_7.keep K51 nin0
              have F52_children_b_19 := r48_8.keep K51 nin0
              have F52_size_b_19 := r48_9.keep K51 nin0
              have A52_b7 := A49_b7.keep K51 nin0
              have A52_b11 := A49_b11.keep K51 nin0
              have A52_kr2_19 := r48_11.keep K51 nin0
              have O52 := O49.keep K51 all0
              refine own_iload X51 hx (hb hby at_151) rfl ?_
              refine own_icmpYes X51 hx (pc' := 158) (hb hby at_153) (teq (by decide : (0 : Int32) = (0 : Int32))).1 (by decide) (by decide) ?_
              refine own_aload X51 hx (hb hby at_158) rfl rfl ?_
              refine own_virtual X51 hx hZ hown (y := y30) (z := y30) (own_w hw 181 rfl) (own_w hw 182 rfl) (notFace_of_selects (args := #[]) (mvT hZ (own_w hw 184 rfl))) (own_w hw 184 rfl) (own_w hw 183 rfl) (own_w hw 3 rfl) (own_w hw 185 rfl) (a := b15) E52_b15 (by decide) (W := 0) (by decide) (by decide) N51 rfl (by rw [hml]; rfl) (argsL := []) (rest := []) (lenOf pd_19 rfl) (Nat.le_of_eq rfl) (by decide) (by decide) (rm30n l Z a0 hw [] b15 (1 : Int64) n_17 b_19 (((0 : Int32) + (1 : Int32)) + (1 : Int32)) T51.heap n0 O52 E52_b15 F52_edit_b15 F52_root_b15 F52_draft_b15 F52_size_b15 (Ne.symm ne_n_17_b_19) ge_b15) rfl (hb hby at_160) ?_
              intro v53 T53 lc53 X53 N53 hQ53
              obtain ⟨rfl, K53, r53_0, r53_1, r53_2, r53_3, r53_4⟩ := hQ53
              have E54_b7 := E52_b7.keep K53
              have E54_b11 := E52_b11.keep K53
              have E54_b_19 := E52_b_19.keep K53
              have F54_keys_b_19 := F52_keys_b_19.keep K53 (ninS (Ne.symm ne_b15_b_19) nin0)
              have F54_children_b_19 := F52_children_b_19.keep K53 (ninS (Ne.symm ne_b15_b_19) nin0)
              have F54_size_b_19 := F52_size_b_19.keep K53 (ninS (Ne.symm ne_b15_b_19) nin0)
              have A54_b7 := A52_b7.keep K53 (ninS ne_b7_b15 nin0)
              have A54_b11 := A52_b11.keep K53 (ninS ne_b11_b15 nin0)
              have A54_kr2_19 := A52_kr2_19.keep K53 (ninS (Ne.symm ne_b15_kr2_19) nin0)
              have O54 := O52.keep K53 (allS ge_b15 all0)
              show Goes _ _ _ _ _ _ (T53.setTop (mkF m 163 #[.val (.int p1), .val (.int p2), .val (.int p3), .val (.int w2), .val (.int w4), .val (.int w6), .val (.int (p1 &&& (255 : Int32))), .val (.int (p2 &&& (255 : Int32))), .val (.ref b7), .val (.ref b11), .val (.ref b15), .val (.int (0 : Int32)), .unset] []))
              have jn55 : ∀ (T55 : State) (lc55 : List Loc) (X55 : Stand p l e room_1 s m #[(.int p1), (.int p2), (.int p3)] below meth c T55 lc55 17 156) (N55 : Fr n0 lc55) (e55 : T55.heap = T53.heap), Goes p e below (fun o t L => FrameEnd s o t L (56) (576)) n0 (Q0 Z p1 p2 p3 h0 n0) (T55.setTop (mkF m 173 #[.val (.int p1), .val (.int p2), .val (.int p3), .val (.int w2), .val (.int w4), .val (.int w6), .val (.int (p1 &&& (255 : Int32))), .val (.int (p2 &&& (255 : Int32))), .val (.ref b7), .val (.ref b11), .val (.ref b15), .val (.int (0 : Int32)), .unset] [])) := by
                intro T55 lc55 X55 N55 e55
                refine own_iload X55 hx (hb hby at_173) rfl ?_
                refine own_ifYes X55 hx (pc' := 199) (hb hby at_175) ((if0 _ _).trans (teq (hc135_50 : w4 = (0 : Int32))).1) (by decide) (by decide) ?_
                refine own_iload X55 hx (hb hby at_199) rfl ?_
                refine own_iload X55 hx (hb hby at_201) rfl ?_
                refine own_icmpYes X55 hx (pc' := 216) (hb hby at_203) (feq (ho1 : ¬ ((p1 &&& (255 : Int32)) = (p2 &&& (255 : Int32))))).2 (by decide) (by decide) ?_
                refine own_iload X55 hx (hb hby at_216) rfl ?_
                refine own_iload X55 hx (hb hby at_218) rfl ?_
                refine own_callS X55 hx hZ hown (y := y19) (own_w hw 207 rfl) (own_w hw 141 rfl) (own_w hw 142 rfl) (own_w hw 143 rfl) (by decide) (W := 0) (by decide) (by decide) N55 e55 (by rw [hml]; rfl) (argsL := [(.int (p1 &&& (255 : Int32))), (.int (p2 &&& (255 : Int32)))]) (rest := []) (lenOf pd_1 rfl) (Nat.le_of_eq rfl) (by decide) (by decide) (rm19l l Z a0 hw [] (p1 &&& (255 : Int32)) (p2 &&& (255 : Int32)) T53.heap n0 O54 ho5) rfl (hb hby at_220) ?_
                intro v56 T56 lc56 X56 N56 hQ56
                obtain ⟨rfl, e56⟩ := hQ56
                refine own_iload X56 hx (hb hby at_223) rfl ?_
                refine own_iload X56 hx (hb hby at_225) rfl ?_
                refine own_callS X56 hx hZ hown (y := y35) (own_w hw 208 rfl) (own_w hw 209 rfl) (own_w hw 142 rfl) (own_w hw 210 rfl) (by decide) (W := 1) (by decide) (by decide) N56 e56 (by rw [hml]; rfl) (argsL := [(.int (p1 &&& (255 : Int32))), (.int (p2 &&& (255 : Int32)))]) (rest := [(.int (p1 &&& (255 : Int32)))]) (lenOf pd_1 rfl) (Nat.le_of_eq rfl) (by decide) (by decide) (rm35l l Z a0 hw [] (p1 &&& (255 : Int32)) (p2 &&& (255 : Int32)) T53.heap n0 O54 ho4) rfl (hb hby at_227) ?_
                intro v57 T57 lc57 X57 N57 hQ57
                obtain ⟨rfl, e57⟩ := hQ57
                refine own_callS X57 hx hZ hown (y := y36) (own_w hw 211 rfl) (own_w hw 212 rfl) (own_w hw 84 rfl) (own_w hw 213 rfl) (by decide) (W := 0) (by decide) (by decide) N57 e57 (by rw [hml]; rfl) (argsL := [(.int (p1 &&& (255 : Int32))), (.int (p2 &&& (255 : Int32)))]) (rest := []) (lenOf pd_1 rfl) (Nat.le_of_eq rfl) (by decide) (by decide) (rm36 l Z a0 hw [] (p1 &&& (255 : Int32)) (p2 &&& (255 : Int32)) T53.heap n0 O54) rfl (hb hby at_230) ?_
                intro v58 T58 lc58 X58 N58 hQ58
                obtain ⟨rfl, e58⟩ := hQ58
                refine own_istore X58 hx (Ls' := #[.val (.int p1), .val (.int p2), .val (.int p3), .val (.int w2), .val (.int w4), .val (.int w6), .val (.int (p1 &&& (255 : Int32))), .val (.int (p2 &&& (255 : Int32))), .val (.ref b7), .val (.ref b11), .val (.ref b15), .val (.int (0 : Int32)), .val (.int ((((p1 &&& (255 : Int32)) + (1 : Int32)) * (512 : Int32)) + ((p2 &&& (255 : Int32)) + (1 : Int32))))]) (hb hby at_233) rfl ?_
                refine own_aload X58 hx (hb hby at_235) rfl rfl ?_
                refine own_callS X58 hx hZ hown (y := y12) (own_w hw 82 rfl) (own_w hw 83 rfl) (own_w hw 84 rfl) (own_w hw 85 rfl) (by decide) (W := 0) (by decide) (by decide) N58 e58 (by rw [hml]; rfl) (argsL := [(.ref b15)]) (rest := []) (lenOf pd_28 rfl) (Nat.le_of_eq rfl) (by decide) (by decide) (rm122 l Z a0 hw [] b15 b_19 kr2_19 b7 b11 kk_17 ((p1.toInt8.toInt32).toInt8.toInt32) ((p2.toInt8.toInt32).toInt8.toInt32) k7 k11 T53.heap n0 O54 r53_0 r53_2 E54_b_19 F54_keys_b_19 F54_children_b_19 F54_size_b_19 A54_kr2_19 A54_b7 A54_b11 E54_b7 E54_b11) rfl (hb hby at_237) ?_
                intro v59 T59 lc59 X59 N59 hQ59
                obtain ⟨rfl, K59⟩ := hQ59
                have O60 := O54.keep K59 all0
                refine own_iload X59 hx (hb hby at_240) rfl ?_
                refine own_icmpNo X59 hx (hb hby at_242) (teq ((by simp only [own_ux]) : ((((((p1.toInt8.toInt32).toInt8.toInt32) &&& (255 : Int32)) + (1 : Int32)) * (512 : Int32)) + ((((p2.toInt8.toInt32).toInt8.toInt32) &&& (255 : Int32)) + (1 : Int32))) = ((((p1 &&& (255 : Int32)) + (1 : Int32)) * (512 : Int32)) + ((p2 &&& (255 : Int32)) + (1 : Int32))))).2 ?_
                refine own_iconst X59 hx (v := (1 : Int32)) (hb hby at_245) rfl ?_
                refine own_goto X59 hx (pc' := 250) (hb hby at_246) (by decide) (by decide) ?_
                show Goes _ _ _ _ _ _ (T59.setTop (mkF m 250 #[.val (.int p1), .val (.int p2), .val (.int p3), .val (.int w2), .val (.int w4), .val (.int w6), .val (.int (p1 &&& (255 : Int32))), .val (.int (p2 &&& (255 : Int32))), .val (.ref b7), .val (.ref b11), .val (.ref b15), .val (.int (0 : Int32)), .val (.int ((((p1 &&& (255 : Int32)) + (1 : Int32)) * (512 : Int32)) + ((p2 &&& (255 : Int32)) + (1 : Int32))))] [(.int (1 : Int32))]))
                exact own_retN X59 hx (t := .boolean) N59 hlk (by decide) (by decide) hret (by simp) (hb hby at_250) (rfl)
              show Goes _ _ _ _ _ _ (T53.setTop (mkF m 163 #[.val (.int p1), .val (.int p2), .val (.int p3), .val (.int w2), .val (.int w4), .val (.int w6), .val (.int (p1 &&& (255 : Int32))), .val (.int (p2 &&& (255 : Int32))), .val (.ref b7), .val (.ref b11), .val (.ref b15), .val (.int (0 : Int32)), .unset] []))
              refine own_iload X53 hx (hb hby at_163) rfl ?_
              by_cases hc165_61 : w6 = (0 : Int32)
              ·
                refine own_ifYes X53 hx (pc' := 173) (hb hby at_165) ((if0 _ _).trans (teq (hc165_61 : w6 = (0 : Int32))).1) (by decide) (by decide) ?_
                show Goes _ _ _ _ _ _ (T53.setTop (mkF m 173 #[.val (.int p1), .val (.int p2), .val (.int p3), .val (.int w2), .val (.int w4), .val (.int w6), .val (.int (p1 &&& (255 : Int32))), .val (.int (p2 &&& (255 : Int32))), .val (.ref b7), .val (.ref b11), .val (.ref b15), .val (.int (0 : Int32)), .unset] []))
                exact jn55 T53 _ X53 N53 rfl
              ·
                refine own_ifNo X53 hx (hb hby at_165) ((if0 _ _).trans (feq (hc165_61 : ¬ (w6 = (0 : Int32)))).1) ?_
                refine own_aload X53 hx (hb hby at_168) rfl rfl ?_
                refine own_virtual X53 hx hZ hown (y := y30) (z := y30) (own_w hw 181 rfl) (own_w hw 182 rfl) (notFace_of_selects (args := #[]) (mvT hZ (own_w hw 184 rfl))) (own_w hw 184 rfl) (own_w hw 183 rfl) (own_w hw 3 rfl) (own_w hw 185 rfl) (a := b15) r53_0 (by decide) (W := 0) (by decide) (by decide) N53 rfl (by rw [hml]; rfl) (argsL := []) (rest := []) (lenOf pd_19 rfl) (Nat.le_of_eq rfl) (by decide) (by decide) (rm30s l Z a0 hw [] b15 ((1 : Int64) + (1 : Int64)) b_19 (((0 : Int32) + (1 : Int32)) + (1 : Int32)) T53.heap n0 O54 r53_0 r53_1 r53_2 r53_3 r53_4) rfl (hb hby at_170) ?_
                intro v62 T62 lc62 X62 N62 hQ62
                obtain ⟨rfl, e62⟩ := hQ62
                show Goes _ _ _ _ _ _ (T62.setTop (mkF m 173 #[.val (.int p1), .val (.int p2), .val (.int p3), .val (.int w2), .val (.int w4), .val (.int w6), .val (.int (p1 &&& (255 : Int32))), .val (.int (p2 &&& (255 : Int32))), .val (.ref b7), .val (.ref b11), .val (.ref b15), .val (.int (0 : Int32)), .unset] []))
                exact jn55 T62 _ X62 N62 e62
            ·
              refine own_ifNo X48 hx (hb hby at_135) ((if0 _ _).trans (feq (hc135_50 : ¬ (w4 = (0 : Int32)))).1) ?_
              refine own_aload X48 hx (hb hby at_138) rfl rfl ?_
              refine own_aload X48 hx (hb hby at_140) rfl rfl ?_
              refine own_virtual X48 hx hZ hown (y := y23) (z := y23) (own_w hw 155 rfl) (own_w hw 156 rfl) (notFace_of_selects (args := #[]) (mvT hZ (own_w hw 158 rfl))) (own_w hw 158 rfl) (own_w hw 157 rfl) (own_w hw 3 rfl) (own_w hw 159 rfl) (a := b15) r48_0 (by decide) (W := 0) (by decide) (by decide) N48 rfl (by rw [hml]; rfl) (argsL := [(.ref b7)]) (rest := []) (lenOf pd_27 rfl) (Nat.le_of_eq rfl) (by decide) (by decide) (rm232s l Z a0 hw [] b15 b7 (1 : Int64) n_17 b_19 (((0 : Int32) + (1 : Int32)) + (1 : Int32)) kr2_19 kk_17 b11 ((p1.toInt8.toInt32).toInt8.toInt32) ((p2.toInt8.toInt32).toInt8.toInt32) k7 k11 T48.heap n0 O49 r48_0 r48_1 r48_2 r48_3 r48_4 r48_5 r48_6 r48_7 r48_8 r48_9 r48_10 r48_11 r17_14 ge_b15 ge_b_19 ge_kr2_19 E49_b7 E49_b11 A49_b7 A49_b11 (Ne.symm ne_b7_b11) ho3 ho7) rfl (hb hby at_142) ?_
              intro v63 T63 lc63 X63 N63 hQ63
              obtain ⟨w_63, rfl, K63, r63_0, r63_1, r63_2, r63_3, r63_4, r63_5, r63_6, r63_7, r63_8, r63_9, r63_10, r63_11⟩ := hQ63
              have E64_b11 := E49_b11.keep K63
              have E64_n_17 := E49_n_17.keep K63
              have F64_keys_n_17 := F49_keys_n_17.keep K63 (ninS (Ne.symm ne_b15_n_17) (ninS ne_n_17_b_19 (ninS ne_n_17_kr2_19 nin0)))
              have F64_children_n_17 := F49_children_n_17.keep K63 (ninS (Ne.symm ne_b15_n_17) (ninS ne_n_17_b_19 (ninS ne_n_17_kr2_19 nin0)))
              have F64_size_n_17 := F49_size_n_17.keep K63 (ninS (Ne.symm ne_b15_n_17) (ninS ne_n_17_b_19 (ninS ne_n_17_kr2_19 nin0)))
              have A64_b11 := A49_b11.keep K63 (ninS ne_b11_b15 (ninS ne_b11_b_19 (ninS ne_b11_kr2_19 nin0)))
              have A64_kr_17 := A49_kr_17.keep K63 (ninS (Ne.symm ne_b15_kr_17) (ninS ne_kr_17_b_19 (ninS ne_kr_17_kr2_19 nin0)))
              have O64 := O49.keep K63 (allS ge_b15 (allS ge_b_19 (allS ge_kr2_19 all0)))
              refine own_pop X63 hx (hb hby at_145) rfl ?_
              refine own_aload X63 hx (hb hby at_146) rfl rfl ?_
              refine own_callS X63 hx hZ hown (y := y12) (own_w hw 82 rfl) (own_w hw 83 rfl) (own_w hw 84 rfl) (own_w hw 85 rfl) (by decide) (W := 0) (by decide) (by decide) N63 rfl (by rw [hml]; rfl) (argsL := [(.ref b15)]) (rest := []) (lenOf pd_28 rfl) (Nat.le_of_eq rfl) (by decide) (by decide) (rm120 l Z a0 hw [] b15 n_17 kr_17 kk_17 T63.heap n0 O64 r63_0 r63_2 E64_n_17 F64_keys_n_17 F64_children_n_17 F64_size_n_17 A64_kr_17) rfl (hb hby at_148) ?_
              intro v65 T65 lc65 X65 N65 hQ65
              obtain ⟨rfl, K65⟩ := hQ65
              have E66_b11 := E64_b11.keep K65
              have E66_b15 := r63_0.keep K65
              have E66_b_19 := r63_5.keep K65
              have F66_edit_b15 := r63_1.keep K65 nin0
              have F66_root_b15 := r63_2.keep K65 nin0
              have F66_draft_b15 := r63_3.keep K65 nin0
              have F66_size_b15 := r63_4.keep K65 nin0
              have F66_keys_b_19 := r63_7.keep K65 nin0
              have F66_children_b_19 := r63_8.keep K65 nin0
              have F66_size_b_19 := r63_9.keep K65 nin0
              have A66_b11 := A64_b11.keep K65 nin0
              have A66_kr2_19 := r63_11.keep K65 nin0
              have O66 := O64.keep K65 all0
              refine own_iload X65 hx (hb hby at_151) rfl ?_
              refine own_icmpYes X65 hx (pc' := 158) (hb hby at_153) (teq (by decide : (0 : Int32) = (0 : Int32))).1 (by decide) (by decide) ?_
              refine own_aload X65 hx (hb hby at_158) rfl rfl ?_
              refine own_virtual X65 hx hZ hown (y := y30) (z := y30) (own_w hw 181 rfl) (own_w hw 182 rfl) (notFace_of_selects (args := #[]) (mvT hZ (own_w hw 184 rfl))) (own_w hw 184 rfl) (own_w hw 183 rfl) (own_w hw 3 rfl) (own_w hw 185 rfl) (a := b15) E66_b15 (by decide) (W := 0) (by decide) (by decide) N65 rfl (by rw [hml]; rfl) (argsL := []) (rest := []) (lenOf pd_19 rfl) (Nat.le_of_eq rfl) (by decide) (by decide) (rm30n l Z a0 hw [] b15 (1 : Int64) n_17 b_19 ((((0 : Int32) + (1 : Int32)) + (1 : Int32)) - (1 : Int32)) T65.heap n0 O66 E66_b15 F66_edit_b15 F66_root_b15 F66_draft_b15 F66_size_b15 (Ne.symm ne_n_17_b_19) ge_b15) rfl (hb hby at_160) ?_
              intro v67 T67 lc67 X67 N67 hQ67
              obtain ⟨rfl, K67, r67_0, r67_1, r67_2, r67_3, r67_4⟩ := hQ67
              have E68_b11 := E66_b11.keep K67
              have E68_b_19 := E66_b_19.keep K67
              have F68_keys_b_19 := F66_keys_b_19.keep K67 (ninS (Ne.symm ne_b15_b_19) nin0)
              have F68_children_b_19 := F66_children_b_19.keep K67 (ninS (Ne.symm ne_b15_b_19) nin0)
              have F68_size_b_19 := F66_size_b_19.keep K67 (ninS (Ne.symm ne_b15_b_19) nin0)
              have A68_b11 := A66_b11.keep K67 (ninS ne_b11_b15 nin0)
              have A68_kr2_19 := A66_kr2_19.keep K67 (ninS (Ne.symm ne_b15_kr2_19) nin0)
              have O68 := O66.keep K67 (allS ge_b15 all0)
              show Goes _ _ _ _ _ _ (T67.setTop (mkF m 163 #[.val (.int p1), .val (.int p2), .val (.int p3), .val (.int w2), .val (.int w4), .val (.int w6), .val (.int (p1 &&& (255 : Int32))), .val (.int (p2 &&& (255 : Int32))), .val (.ref b7), .val (.ref b11), .val (.ref b15), .val (.int (0 : Int32)), .unset] []))
              have jn69 : ∀ (T69 : State) (lc69 : List Loc) (X69 : Stand p l e room_1 s m #[(.int p1), (.int p2), (.int p3)] below meth c T69 lc69 17 156) (N69 : Fr n0 lc69) (e69 : T69.heap = T67.heap), Goes p e below (fun o t L => FrameEnd s o t L (56) (576)) n0 (Q0 Z p1 p2 p3 h0 n0) (T69.setTop (mkF m 173 #[.val (.int p1), .val (.int p2), .val (.int p3), .val (.int w2), .val (.int w4), .val (.int w6), .val (.int (p1 &&& (255 : Int32))), .val (.int (p2 &&& (255 : Int32))), .val (.ref b7), .val (.ref b11), .val (.ref b15), .val (.int (0 : Int32)), .unset] [])) := by
                intro T69 lc69 X69 N69 e69
                refine own_iload X69 hx (hb hby at_173) rfl ?_
                refine own_ifNo X69 hx (hb hby at_175) ((if0 _ _).trans (feq (hc135_50 : ¬ (w4 = (0 : Int32)))).1) ?_
                refine own_iload X69 hx (hb hby at_178) rfl ?_
                refine own_iload X69 hx (hb hby at_180) rfl ?_
                refine own_icmpYes X69 hx (pc' := 189) (hb hby at_182) (feq (ho1 : ¬ ((p1 &&& (255 : Int32)) = (p2 &&& (255 : Int32))))).2 (by decide) (by decide) ?_
                refine own_iload X69 hx (hb hby at_189) rfl ?_
                refine own_callS X69 hx hZ hown (y := y31) (own_w hw 186 rfl) (own_w hw 187 rfl) (own_w hw 84 rfl) (own_w hw 188 rfl) (by decide) (W := 0) (by decide) (by decide) N69 e69 (by rw [hml]; rfl) (argsL := [(.int (p2 &&& (255 : Int32)))]) (rest := []) (lenOf pd_26 rfl) (Nat.le_of_eq rfl) (by decide) (by decide) (rm31 l Z a0 hw [] (p2 &&& (255 : Int32)) T67.heap n0 O68) rfl (hb hby at_191) ?_
                intro v70 T70 lc70 X70 N70 hQ70
                obtain ⟨rfl, e70⟩ := hQ70
                refine own_istore X70 hx (Ls' := #[.val (.int p1), .val (.int p2), .val (.int p3), .val (.int w2), .val (.int w4), .val (.int w6), .val (.int (p1 &&& (255 : Int32))), .val (.int (p2 &&& (255 : Int32))), .val (.ref b7), .val (.ref b11), .val (.ref b15), .val (.int (0 : Int32)), .val (.int (((p2 &&& (255 : Int32)) + (1 : Int32)) * (512 : Int32)))]) (hb hby at_194) rfl ?_
                refine own_goto X70 hx (pc' := 235) (hb hby at_196) (by decide) (by decide) ?_
                refine own_aload X70 hx (hb hby at_235) rfl rfl ?_
                refine own_callS X70 hx hZ hown (y := y12) (own_w hw 82 rfl) (own_w hw 83 rfl) (own_w hw 84 rfl) (own_w hw 85 rfl) (by decide) (W := 0) (by decide) (by decide) N70 e70 (by rw [hml]; rfl) (argsL := [(.ref b15)]) (rest := []) (lenOf pd_28 rfl) (Nat.le_of_eq rfl) (by decide) (by decide) (rm121 l Z a0 hw [] b15 b_19 kr2_19 b11 kk_17 ((p2.toInt8.toInt32).toInt8.toInt32) k11 T67.heap n0 O68 r67_0 r67_2 E68_b_19 F68_keys_b_19 F68_children_b_19 F68_size_b_19 A68_kr2_19 A68_b11 E68_b11) rfl (hb hby at_237) ?_
                intro v71 T71 lc71 X71 N71 hQ71
                obtain ⟨rfl, K71⟩ := hQ71
                have O72 := O68.keep K71 all0
                refine own_iload X71 hx (hb hby at_240) rfl ?_
                refine own_icmpNo X71 hx (hb hby at_242) (teq ((by simp only [own_ux]) : (((((p2.toInt8.toInt32).toInt8.toInt32) &&& (255 : Int32)) + (1 : Int32)) * (512 : Int32)) = (((p2 &&& (255 : Int32)) + (1 : Int32)) * (512 : Int32)))).2 ?_
                refine own_iconst X71 hx (v := (1 : Int32)) (hb hby at_245) rfl ?_
                refine own_goto X71 hx (pc' := 250) (hb hby at_246) (by decide) (by decide) ?_
                show Goes _ _ _ _ _ _ (T71.setTop (mkF m 250 #[.val (.int p1), .val (.int p2), .val (.int p3), .val (.int w2), .val (.int w4), .val (.int w6), .val (.int (p1 &&& (255 : Int32))), .val (.int (p2 &&& (255 : Int32))), .val (.ref b7), .val (.ref b11), .val (.ref b15), .val (.int (0 : Int32)), .val (.int (((p2 &&& (255 : Int32)) + (1 : Int32)) * (512 : Int32)))] [(.int (1 : Int32))]))
                exact own_retN X71 hx (t := .boolean) N71 hlk (by decide) (by decide) hret (by simp) (hb hby at_250) (rfl)
              show Goes _ _ _ _ _ _ (T67.setTop (mkF m 163 #[.val (.int p1), .val (.int p2), .val (.int p3), .val (.int w2), .val (.int w4), .val (.int w6), .val (.int (p1 &&& (255 : Int32))), .val (.int (p2 &&& (255 : Int32))), .val (.ref b7), .val (.ref b11), .val (.ref b15), .val (.int (0 : Int32)), .unset] []))
              refine own_iload X67 hx (hb hby at_163) rfl ?_
              by_cases hc165_73 : w6 = (0 : Int32)
              ·
                refine own_ifYes X67 hx (pc' := 173) (hb hby at_165) ((if0 _ _).trans (teq (hc165_73 : w6 = (0 : Int32))).1) (by decide) (by decide) ?_
                show Goes _ _ _ _ _ _ (T67.setTop (mkF m 173 #[.val (.int p1), .val (.int p2), .val (.int p3), .val (.int w2), .val (.int w4), .val (.int w6), .val (.int (p1 &&& (255 : Int32))), .val (.int (p2 &&& (255 : Int32))), .val (.ref b7), .val (.ref b11), .val (.ref b15), .val (.int (0 : Int32)), .unset] []))
                exact jn69 T67 _ X67 N67 rfl
              ·
                refine own_ifNo X67 hx (hb hby at_165) ((if0 _ _).trans (feq (hc165_73 : ¬ (w6 = (0 : Int32)))).1) ?_
                refine own_aload X67 hx (hb hby at_168) rfl rfl ?_
                refine own_virtual X67 hx hZ hown (y := y30) (z := y30) (own_w hw 181 rfl) (own_w hw 182 rfl) (notFace_of_selects (args := #[]) (mvT hZ (own_w hw 184 rfl))) (own_w hw 184 rfl) (own_w hw 183 rfl) (own_w hw 3 rfl) (own_w hw 185 rfl) (a := b15) r67_0 (by decide) (W := 0) (by decide) (by decide) N67 rfl (by rw [hml]; rfl) (argsL := []) (rest := []) (lenOf pd_19 rfl) (Nat.le_of_eq rfl) (by decide) (by decide) (rm30s l Z a0 hw [] b15 ((1 : Int64) + (1 : Int64)) b_19 ((((0 : Int32) + (1 : Int32)) + (1 : Int32)) - (1 : Int32)) T67.heap n0 O68 r67_0 r67_1 r67_2 r67_3 r67_4) rfl (hb hby at_170) ?_
                intro v74 T74 lc74 X74 N74 hQ74
                obtain ⟨rfl, e74⟩ := hQ74
                show Goes _ _ _ _ _ _ (T74.setTop (mkF m 173 #[.val (.int p1), .val (.int p2), .val (.int p3), .val (.int w2), .val (.int w4), .val (.int w6), .val (.int (p1 &&& (255 : Int32))), .val (.int (p2 &&& (255 : Int32))), .val (.ref b7), .val (.ref b11), .val (.ref b15), .val (.int (0 : Int32)), .unset] []))
                exact jn69 T74 _ X74 N74 e74
          ·
            show Goes _ _ _ _ _ _ (T22.setTop (mkF m 125 #[.val (.int p1), .val (.int p2), .val (.int p3), .val (.int w2), .val (.int w4), .val (.int w6), .val (.int (p1 &&& (255 : Int32))), .val (.int (p2 &&& (255 : Int32))), .val (.ref b7), .val (.ref b11), .val (.ref b15), .val (.int (0 : Int32)), .unset] []))
            refine own_aload X22 hx (hb hby at_125) rfl rfl ?_
            refine own_aload X22 hx (hb hby at_127) rfl rfl ?_
            refine own_virtual X22 hx hZ hown (y := y4) (z := y4) (own_w hw 31 rfl) (own_w hw 32 rfl) (notFace_of_selects (args := #[]) (mvT hZ (own_w hw 34 rfl))) (own_w hw 34 rfl) (own_w hw 33 rfl) (own_w hw 3 rfl) (own_w hw 35 rfl) (a := b15) E23_b15 (by decide) (W := 0) (by decide) (by decide) N22 rfl (by rw [hml]; rfl) (argsL := [(.ref b11)]) (rest := []) (lenOf pd_27 rfl) (Nat.le_of_eq rfl) (by decide) (by decide) (rm4Ag l Z a0 hw [] b15 b11 (1 : Int64) n_17 b_19 ((0 : Int32) + (1 : Int32)) kr2_19 kk_17 b7 ((p1.toInt8.toInt32).toInt8.toInt32) ((p2.toInt8.toInt32).toInt8.toInt32) k7 k11 T22.heap n0 O23 E23_b15 F23_edit_b15 F23_root_b15 F23_draft_b15 F23_size_b15 E23_b_19 F23_edit_b_19 F23_keys_b_19 F23_children_b_19 F23_size_b_19 E23_kr2_19 A23_kr2_19 r17_14 ge_b15 ge_b_19 ge_kr2_19 E23_b11 E23_b7 A23_b7 A23_b11 ne_b7_b11 ho2 ho6) rfl (hb hby at_129) ?_
            intro v75 T75 lc75 X75 N75 hQ75
            obtain ⟨w_75, rfl, K75, r75_0, r75_1, r75_2, r75_3, r75_4, r75_5, r75_6, r75_7, r75_8, r75_9, r75_10, r75_11⟩ := hQ75
            have E76_b7 := E23_b7.keep K75
            have E76_b11 := E23_b11.keep K75
            have E76_n_17 := E23_n_17.keep K75
            have F76_keys_n_17 := F23_keys_n_17.keep K75 (ninS (Ne.symm ne_b15_n_17) (ninS ne_n_17_b_19 (ninS ne_n_17_kr2_19 nin0)))
            have F76_children_n_17 := F23_children_n_17.keep K75 (ninS (Ne.symm ne_b15_n_17) (ninS ne_n_17_b_19 (ninS ne_n_17_kr2_19 nin0)))
            have F76_size_n_17 := F23_size_n_17.keep K75 (ninS (Ne.symm ne_b15_n_17) (ninS ne_n_17_b_19 (ninS ne_n_17_kr2_19 nin0)))
            have A76_b7 := A23_b7.keep K75 (ninS ne_b7_b15 (ninS ne_b7_b_19 (ninS ne_b7_kr2_19 nin0)))
            have A76_b11 := A23_b11.keep K75 (ninS ne_b11_b15 (ninS ne_b11_b_19 (ninS ne_b11_kr2_19 nin0)))
            have A76_kr_17 := A23_kr_17.keep K75 (ninS (Ne.symm ne_b15_kr_17) (ninS ne_kr_17_b_19 (ninS ne_kr_17_kr2_19 nin0)))
            have O76 := O23.keep K75 (allS ge_b15 (allS ge_b_19 (allS ge_kr2_19 all0)))
            refine own_pop X75 hx (hb hby at_132) rfl ?_
            refine own_iload X75 hx (hb hby at_133) rfl ?_
            by_cases hc135_77 : w4 = (0 : Int32)
            ·
              refine own_ifYes X75 hx (pc' := 146) (hb hby at_135) ((if0 _ _).trans (teq (hc135_77 : w4 = (0 : Int32))).1) (by decide) (by decide) ?_
              refine own_aload X75 hx (hb hby at_146) rfl rfl ?_
              refine own_callS X75 hx hZ hown (y := y12) (own_w hw 82 rfl) (own_w hw 83 rfl) (own_w hw 84 rfl) (own_w hw 85 rfl) (by decide) (W := 0) (by decide) (by decide) N75 rfl (by rw [hml]; rfl) (argsL := [(.ref b15)]) (rest := []) (lenOf pd_28 rfl) (Nat.le_of_eq rfl) (by decide) (by decide) (rm120 l Z a0 hw [] b15 n_17 kr_17 kk_17 T75.heap n0 O76 r75_0 r75_2 E76_n_17 F76_keys_n_17 F76_children_n_17 F76_size_n_17 A76_kr_17) rfl (hb hby at_148) ?_
              intro v78 T78 lc78 X78 N78 hQ78
              obtain ⟨rfl, K78⟩ := hQ78
              have E79_b7 := E76_b7.keep K78
              have E79_b11 := E76_b11.keep K78
              have E79_b15 := r75_0.keep K78
              have E79_b_19 := r75_5.keep K78
              have F79_edit_b15 := r75_1.keep K78 nin0
              have F79_root_b15 := r75_2.keep K78 nin0
              have F79_draft_b15 := r75_3.keep K78 nin0
              have F79_size_b15 := r75_4.keep K78 nin0
              have F79_keys_b_19 := r75_7.keep K78 nin0
              have F79_children_b_19 := r75_8.keep K78 nin0
              have F79_size_b_19 := r75_9.keep K78 nin0
              have A79_b7 := A76_b7.keep K78 nin0
              have A79_b11 := A76_b11.keep K78 nin0
              have A79_kr2_19 := r75_11.keep K78 nin0
              have O79 := O76.keep K78 all0
              refine own_iload X78 hx (hb hby at_151) rfl ?_
              refine own_icmpYes X78 hx (pc' := 158) (hb hby at_153) (teq (by decide : (0 : Int32) = (0 : Int32))).1 (by decide) (by decide) ?_
              refine own_aload X78 hx (hb hby at_158) rfl rfl ?_
              refine own_virtual X78 hx hZ hown (y := y30) (z := y30) (own_w hw 181 rfl) (own_w hw 182 rfl) (notFace_of_selects (args := #[]) (mvT hZ (own_w hw 184 rfl))) (own_w hw 184 rfl) (own_w hw 183 rfl) (own_w hw 3 rfl) (own_w hw 185 rfl) (a := b15) E79_b15 (by decide) (W := 0) (by decide) (by decide) N78 rfl (by rw [hml]; rfl) (argsL := []) (rest := []) (lenOf pd_19 rfl) (Nat.le_of_eq rfl) (by decide) (by decide) (rm30n l Z a0 hw [] b15 (1 : Int64) n_17 b_19 (((0 : Int32) + (1 : Int32)) + (1 : Int32)) T78.heap n0 O79 E79_b15 F79_edit_b15 F79_root_b15 F79_draft_b15 F79_size_b15 (Ne.symm ne_n_17_b_19) ge_b15) rfl (hb hby at_160) ?_
              intro v80 T80 lc80 X80 N80 hQ80
              obtain ⟨rfl, K80, r80_0, r80_1, r80_2, r80_3, r80_4⟩ := hQ80
              have E81_b7 := E79_b7.keep K80
              have E81_b11 := E79_b11.keep K80
              have E81_b_19 := E79_b_19.keep K80
              have F81_keys_b_19 := F79_keys_b_19.keep K80 (ninS (Ne.symm ne_b15_b_19) nin0)
              have F81_children_b_19 := F79_children_b_19.keep K80 (ninS (Ne.symm ne_b15_b_19) nin0)
              have F81_size_b_19 := F79_size_b_19.keep K80 (ninS (Ne.symm ne_b15_b_19) nin0)
              have A81_b7 := A79_b7.keep K80 (ninS ne_b7_b15 nin0)
              have A81_b11 := A79_b11.keep K80 (ninS ne_b11_b15 nin0)
              have A81_kr2_19 := A79_kr2_19.keep K80 (ninS (Ne.symm ne_b15_kr2_19) nin0)
              have O81 := O79.keep K80 (allS ge_b15 all0)
              show Goes _ _ _ _ _ _ (T80.setTop (mkF m 163 #[.val (.int p1), .val (.int p2), .val (.int p3), .val (.int w2), .val (.int w4), .val (.int w6), .val (.int (p1 &&& (255 : Int32))), .val (.int (p2 &&& (255 : Int32))), .val (.ref b7), .val (.ref b11), .val (.ref b15), .val (.int (0 : Int32)), .unset] []))
              have jn82 : ∀ (T82 : State) (lc82 : List Loc) (X82 : Stand p l e room_1 s m #[(.int p1), (.int p2), (.int p3)] below meth c T82 lc82 17 156) (N82 : Fr n0 lc82) (e82 : T82.heap = T80.heap), Goes p e below (fun o t L => FrameEnd s o t L (56) (576)) n0 (Q0 Z p1 p2 p3 h0 n0) (T82.setTop (mkF m 173 #[.val (.int p1), .val (.int p2), .val (.int p3), .val (.int w2), .val (.int w4), .val (.int w6), .val (.int (p1 &&& (255 : Int32))), .val (.int (p2 &&& (255 : Int32))), .val (.ref b7), .val (.ref b11), .val (.ref b15), .val (.int (0 : Int32)), .unset] [])) := by
                intro T82 lc82 X82 N82 e82
                refine own_iload X82 hx (hb hby at_173) rfl ?_
                refine own_ifYes X82 hx (pc' := 199) (hb hby at_175) ((if0 _ _).trans (teq (hc135_77 : w4 = (0 : Int32))).1) (by decide) (by decide) ?_
                refine own_iload X82 hx (hb hby at_199) rfl ?_
                refine own_iload X82 hx (hb hby at_201) rfl ?_
                refine own_icmpYes X82 hx (pc' := 216) (hb hby at_203) (feq (ho1 : ¬ ((p1 &&& (255 : Int32)) = (p2 &&& (255 : Int32))))).2 (by decide) (by decide) ?_
                refine own_iload X82 hx (hb hby at_216) rfl ?_
                refine own_iload X82 hx (hb hby at_218) rfl ?_
                refine own_callS X82 hx hZ hown (y := y19) (own_w hw 207 rfl) (own_w hw 141 rfl) (own_w hw 142 rfl) (own_w hw 143 rfl) (by decide) (W := 0) (by decide) (by decide) N82 e82 (by rw [hml]; rfl) (argsL := [(.int (p1 &&& (255 : Int32))), (.int (p2 &&& (255 : Int32)))]) (rest := []) (lenOf pd_1 rfl) (Nat.le_of_eq rfl) (by decide) (by decide) (rm19g l Z a0 hw [] (p1 &&& (255 : Int32)) (p2 &&& (255 : Int32)) T80.heap n0 O81 ho4) rfl (hb hby at_220) ?_
                intro v83 T83 lc83 X83 N83 hQ83
                obtain ⟨rfl, e83⟩ := hQ83
                refine own_iload X83 hx (hb hby at_223) rfl ?_
                refine own_iload X83 hx (hb hby at_225) rfl ?_
                refine own_callS X83 hx hZ hown (y := y35) (own_w hw 208 rfl) (own_w hw 209 rfl) (own_w hw 142 rfl) (own_w hw 210 rfl) (by decide) (W := 1) (by decide) (by decide) N83 e83 (by rw [hml]; rfl) (argsL := [(.int (p1 &&& (255 : Int32))), (.int (p2 &&& (255 : Int32)))]) (rest := [(.int (p2 &&& (255 : Int32)))]) (lenOf pd_1 rfl) (Nat.le_of_eq rfl) (by decide) (by decide) (rm35g l Z a0 hw [] (p1 &&& (255 : Int32)) (p2 &&& (255 : Int32)) T80.heap n0 O81 ho5) rfl (hb hby at_227) ?_
                intro v84 T84 lc84 X84 N84 hQ84
                obtain ⟨rfl, e84⟩ := hQ84
                refine own_callS X84 hx hZ hown (y := y36) (own_w hw 211 rfl) (own_w hw 212 rfl) (own_w hw 84 rfl) (own_w hw 213 rfl) (by decide) (W := 0) (by decide) (by decide) N84 e84 (by rw [hml]; rfl) (argsL := [(.int (p2 &&& (255 : Int32))), (.int (p1 &&& (255 : Int32)))]) (rest := []) (lenOf pd_1 rfl) (Nat.le_of_eq rfl) (by decide) (by decide) (rm36 l Z a0 hw [] (p2 &&& (255 : Int32)) (p1 &&& (255 : Int32)) T80.heap n0 O81) rfl (hb hby at_230) ?_
                intro v85 T85 lc85 X85 N85 hQ85
                obtain ⟨rfl, e85⟩ := hQ85
                refine own_istore X85 hx (Ls' := #[.val (.int p1), .val (.int p2), .val (.int p3), .val (.int w2), .val (.int w4), .val (.int w6), .val (.int (p1 &&& (255 : Int32))), .val (.int (p2 &&& (255 : Int32))), .val (.ref b7), .val (.ref b11), .val (.ref b15), .val (.int (0 : Int32)), .val (.int ((((p2 &&& (255 : Int32)) + (1 : Int32)) * (512 : Int32)) + ((p1 &&& (255 : Int32)) + (1 : Int32))))]) (hb hby at_233) rfl ?_
                refine own_aload X85 hx (hb hby at_235) rfl rfl ?_
                refine own_callS X85 hx hZ hown (y := y12) (own_w hw 82 rfl) (own_w hw 83 rfl) (own_w hw 84 rfl) (own_w hw 85 rfl) (by decide) (W := 0) (by decide) (by decide) N85 e85 (by rw [hml]; rfl) (argsL := [(.ref b15)]) (rest := []) (lenOf pd_28 rfl) (Nat.le_of_eq rfl) (by decide) (by decide) (rm122 l Z a0 hw [] b15 b_19 kr2_19 b11 b7 kk_17 ((p2.toInt8.toInt32).toInt8.toInt32) ((p1.toInt8.toInt32).toInt8.toInt32) k11 k7 T80.heap n0 O81 r80_0 r80_2 E81_b_19 F81_keys_b_19 F81_children_b_19 F81_size_b_19 A81_kr2_19 A81_b11 A81_b7 E81_b11 E81_b7) rfl (hb hby at_237) ?_
                intro v86 T86 lc86 X86 N86 hQ86
                obtain ⟨rfl, K86⟩ := hQ86
                have O87 := O81.keep K86 all0
                refine own_iload X86 hx (hb hby at_240) rfl ?_
                refine own_icmpNo X86 hx (hb hby at_242) (teq ((by simp only [own_ux]) : ((((((p2.toInt8.toInt32).toInt8.toInt32) &&& (255 : Int32)) + (1 : Int32)) * (512 : Int32)) + ((((p1.toInt8.toInt32).toInt8.toInt32) &&& (255 : Int32)) + (1 : Int32))) = ((((p2 &&& (255 : Int32)) + (1 : Int32)) * (512 : Int32)) + ((p1 &&& (255 : Int32)) + (1 : Int32))))).2 ?_
                refine own_iconst X86 hx (v := (1 : Int32)) (hb hby at_245) rfl ?_
                refine own_goto X86 hx (pc' := 250) (hb hby at_246) (by decide) (by decide) ?_
                show Goes _ _ _ _ _ _ (T86.setTop (mkF m 250 #[.val (.int p1), .val (.int p2), .val (.int p3), .val (.int w2), .val (.int w4), .val (.int w6), .val (.int (p1 &&& (255 : Int32))), .val (.int (p2 &&& (255 : Int32))), .val (.ref b7), .val (.ref b11), .val (.ref b15), .val (.int (0 : Int32)), .val (.int ((((p2 &&& (255 : Int32)) + (1 : Int32)) * (512 : Int32)) + ((p1 &&& (255 : Int32)) + (1 : Int32))))] [(.int (1 : Int32))]))
                exact own_retN X86 hx (t := .boolean) N86 hlk (by decide) (by decide) hret (by simp) (hb hby at_250) (rfl)
              show Goes _ _ _ _ _ _ (T80.setTop (mkF m 163 #[.val (.int p1), .val (.int p2), .val (.int p3), .val (.int w2), .val (.int w4), .val (.int w6), .val (.int (p1 &&& (255 : Int32))), .val (.int (p2 &&& (255 : Int32))), .val (.ref b7), .val (.ref b11), .val (.ref b15), .val (.int (0 : Int32)), .unset] []))
              refine own_iload X80 hx (hb hby at_163) rfl ?_
              by_cases hc165_88 : w6 = (0 : Int32)
              ·
                refine own_ifYes X80 hx (pc' := 173) (hb hby at_165) ((if0 _ _).trans (teq (hc165_88 : w6 = (0 : Int32))).1) (by decide) (by decide) ?_
                show Goes _ _ _ _ _ _ (T80.setTop (mkF m 173 #[.val (.int p1), .val (.int p2), .val (.int p3), .val (.int w2), .val (.int w4), .val (.int w6), .val (.int (p1 &&& (255 : Int32))), .val (.int (p2 &&& (255 : Int32))), .val (.ref b7), .val (.ref b11), .val (.ref b15), .val (.int (0 : Int32)), .unset] []))
                exact jn82 T80 _ X80 N80 rfl
              ·
                refine own_ifNo X80 hx (hb hby at_165) ((if0 _ _).trans (feq (hc165_88 : ¬ (w6 = (0 : Int32)))).1) ?_
                refine own_aload X80 hx (hb hby at_168) rfl rfl ?_
                refine own_virtual X80 hx hZ hown (y := y30) (z := y30) (own_w hw 181 rfl) (own_w hw 182 rfl) (notFace_of_selects (args := #[]) (mvT hZ (own_w hw 184 rfl))) (own_w hw 184 rfl) (own_w hw 183 rfl) (own_w hw 3 rfl) (own_w hw 185 rfl) (a := b15) r80_0 (by decide) (W := 0) (by decide) (by decide) N80 rfl (by rw [hml]; rfl) (argsL := []) (rest := []) (lenOf pd_19 rfl) (Nat.le_of_eq rfl) (by decide) (by decide) (rm30s l Z a0 hw [] b15 ((1 : Int64) + (1 : Int64)) b_19 (((0 : Int32) + (1 : Int32)) + (1 : Int32)) T80.heap n0 O81 r80_0 r80_1 r80_2 r80_3 r80_4) rfl (hb hby at_170) ?_
                intro v89 T89 lc89 X89 N89 hQ89
                obtain ⟨rfl, e89⟩ := hQ89
                show Goes _ _ _ _ _ _ (T89.setTop (mkF m 173 #[.val (.int p1), .val (.int p2), .val (.int p3), .val (.int w2), .val (.int w4), .val (.int w6), .val (.int (p1 &&& (255 : Int32))), .val (.int (p2 &&& (255 : Int32))), .val (.ref b7), .val (.ref b11), .val (.ref b15), .val (.int (0 : Int32)), .unset] []))
                exact jn82 T89 _ X89 N89 e89
            ·
              refine own_ifNo X75 hx (hb hby at_135) ((if0 _ _).trans (feq (hc135_77 : ¬ (w4 = (0 : Int32)))).1) ?_
              refine own_aload X75 hx (hb hby at_138) rfl rfl ?_
              refine own_aload X75 hx (hb hby at_140) rfl rfl ?_
              refine own_virtual X75 hx hZ hown (y := y23) (z := y23) (own_w hw 155 rfl) (own_w hw 156 rfl) (notFace_of_selects (args := #[]) (mvT hZ (own_w hw 158 rfl))) (own_w hw 158 rfl) (own_w hw 157 rfl) (own_w hw 3 rfl) (own_w hw 159 rfl) (a := b15) r75_0 (by decide) (W := 0) (by decide) (by decide) N75 rfl (by rw [hml]; rfl) (argsL := [(.ref b7)]) (rest := []) (lenOf pd_27 rfl) (Nat.le_of_eq rfl) (by decide) (by decide) (rm232t l Z a0 hw [] b15 b7 (1 : Int64) n_17 b_19 (((0 : Int32) + (1 : Int32)) + (1 : Int32)) kr2_19 kk_17 b11 ((p1.toInt8.toInt32).toInt8.toInt32) ((p2.toInt8.toInt32).toInt8.toInt32) k7 k11 T75.heap n0 O76 r75_0 r75_1 r75_2 r75_3 r75_4 r75_5 r75_6 r75_7 r75_8 r75_9 r75_10 r75_11 r17_14 ge_b15 ge_b_19 ge_kr2_19 E76_b7 E76_b11 A76_b7 A76_b11 (Ne.symm ne_b7_b11) ho3 ho7) rfl (hb hby at_142) ?_
              intro v90 T90 lc90 X90 N90 hQ90
              obtain ⟨w_90, rfl, K90, r90_0, r90_1, r90_2, r90_3, r90_4, r90_5, r90_6, r90_7, r90_8, r90_9, r90_10, r90_11⟩ := hQ90
              have E91_b11 := E76_b11.keep K90
              have E91_n_17 := E76_n_17.keep K90
              have F91_keys_n_17 := F76_keys_n_17.keep K90 (ninS (Ne.symm ne_b15_n_17) (ninS ne_n_17_b_19 (ninS ne_n_17_kr2_19 nin0)))
              have F91_children_n_17 := F76_children_n_17.keep K90 (ninS (Ne.symm ne_b15_n_17) (ninS ne_n_17_b_19 (ninS ne_n_17_kr2_19 nin0)))
              have F91_size_n_17 := F76_size_n_17.keep K90 (ninS (Ne.symm ne_b15_n_17) (ninS ne_n_17_b_19 (ninS ne_n_17_kr2_19 nin0)))
              have A91_b11 := A76_b11.keep K90 (ninS ne_b11_b15 (ninS ne_b11_b_19 (ninS ne_b11_kr2_19 nin0)))
              have A91_kr_17 := A76_kr_17.keep K90 (ninS (Ne.symm ne_b15_kr_17) (ninS ne_kr_17_b_19 (ninS ne_kr_17_kr2_19 nin0)))
              have O91 := O76.keep K90 (allS ge_b15 (allS ge_b_19 (allS ge_kr2_19 all0)))
              refine own_pop X90 hx (hb hby at_145) rfl ?_
              refine own_aload X90 hx (hb hby at_146) rfl rfl ?_
              refine own_callS X90 hx hZ hown (y := y12) (own_w hw 82 rfl) (own_w hw 83 rfl) (own_w hw 84 rfl) (own_w hw 85 rfl) (by decide) (W := 0) (by decide) (by decide) N90 rfl (by rw [hml]; rfl) (argsL := [(.ref b15)]) (rest := []) (lenOf pd_28 rfl) (Nat.le_of_eq rfl) (by decide) (by decide) (rm120 l Z a0 hw [] b15 n_17 kr_17 kk_17 T90.heap n0 O91 r90_0 r90_2 E91_n_17 F91_keys_n_17 F91_children_n_17 F91_size_n_17 A91_kr_17) rfl (hb hby at_148) ?_
              intro v92 T92 lc92 X92 N92 hQ92
              obtain ⟨rfl, K92⟩ := hQ92
              have E93_b11 := E91_b11.keep K92
              have E93_b15 := r90_0.keep K92
              have E93_b_19 := r90_5.keep K92
              have F93_edit_b15 := r90_1.keep K92 nin0
              have F93_root_b15 := r90_2.keep K92 nin0
              have F93_draft_b15 := r90_3.keep K92 nin0
              have F93_size_b15 := r90_4.keep K92 nin0
              have F93_keys_b_19 := r90_7.keep K92 nin0
              have F93_children_b_19 := r90_8.keep K92 nin0
              have F93_size_b_19 := r90_9.keep K92 nin0
              have A93_b11 := A91_b11.keep K92 nin0
              have A93_kr2_19 := r90_11.keep K92 nin0
              have O93 := O91.keep K92 all0
              refine own_iload X92 hx (hb hby at_151) rfl ?_
              refine own_icmpYes X92 hx (pc' := 158) (hb hby at_153) (teq (by decide : (0 : Int32) = (0 : Int32))).1 (by decide) (by decide) ?_
              refine own_aload X92 hx (hb hby at_158) rfl rfl ?_
              refine own_virtual X92 hx hZ hown (y := y30) (z := y30) (own_w hw 181 rfl) (own_w hw 182 rfl) (notFace_of_selects (args := #[]) (mvT hZ (own_w hw 184 rfl))) (own_w hw 184 rfl) (own_w hw 183 rfl) (own_w hw 3 rfl) (own_w hw 185 rfl) (a := b15) E93_b15 (by decide) (W := 0) (by decide) (by decide) N92 rfl (by rw [hml]; rfl) (argsL := []) (rest := []) (lenOf pd_19 rfl) (Nat.le_of_eq rfl) (by decide) (by decide) (rm30n l Z a0 hw [] b15 (1 : Int64) n_17 b_19 ((((0 : Int32) + (1 : Int32)) + (1 : Int32)) - (1 : Int32)) T92.heap n0 O93 E93_b15 F93_edit_b15 F93_root_b15 F93_draft_b15 F93_size_b15 (Ne.symm ne_n_17_b_19) ge_b15) rfl (hb hby at_160) ?_
              intro v94 T94 lc94 X94 N94 hQ94
              obtain ⟨rfl, K94, r94_0, r94_1, r94_2, r94_3, r94_4⟩ := hQ94
              have E95_b11 := E93_b11.keep K94
              have E95_b_19 := E93_b_19.keep K94
              have F95_keys_b_19 := F93_keys_b_19.keep K94 (ninS (Ne.symm ne_b15_b_19) nin0)
              have F95_children_b_19 := F93_children_b_19.keep K94 (ninS (Ne.symm ne_b15_b_19) nin0)
              have F95_size_b_19 := F93_size_b_19.keep K94 (ninS (Ne.symm ne_b15_b_19) nin0)
              have A95_b11 := A93_b11.keep K94 (ninS ne_b11_b15 nin0)
              have A95_kr2_19 := A93_kr2_19.keep K94 (ninS (Ne.symm ne_b15_kr2_19) nin0)
              have O95 := O93.keep K94 (allS ge_b15 all0)
              show Goes _ _ _ _ _ _ (T94.setTop (mkF m 163 #[.val (.int p1), .val (.int p2), .val (.int p3), .val (.int w2), .val (.int w4), .val (.int w6), .val (.int (p1 &&& (255 : Int32))), .val (.int (p2 &&& (255 : Int32))), .val (.ref b7), .val (.ref b11), .val (.ref b15), .val (.int (0 : Int32)), .unset] []))
              have jn96 : ∀ (T96 : State) (lc96 : List Loc) (X96 : Stand p l e room_1 s m #[(.int p1), (.int p2), (.int p3)] below meth c T96 lc96 17 156) (N96 : Fr n0 lc96) (e96 : T96.heap = T94.heap), Goes p e below (fun o t L => FrameEnd s o t L (56) (576)) n0 (Q0 Z p1 p2 p3 h0 n0) (T96.setTop (mkF m 173 #[.val (.int p1), .val (.int p2), .val (.int p3), .val (.int w2), .val (.int w4), .val (.int w6), .val (.int (p1 &&& (255 : Int32))), .val (.int (p2 &&& (255 : Int32))), .val (.ref b7), .val (.ref b11), .val (.ref b15), .val (.int (0 : Int32)), .unset] [])) := by
                intro T96 lc96 X96 N96 e96
                refine own_iload X96 hx (hb hby at_173) rfl ?_
                refine own_ifNo X96 hx (hb hby at_175) ((if0 _ _).trans (feq (hc135_77 : ¬ (w4 = (0 : Int32)))).1) ?_
                refine own_iload X96 hx (hb hby at_178) rfl ?_
                refine own_iload X96 hx (hb hby at_180) rfl ?_
                refine own_icmpYes X96 hx (pc' := 189) (hb hby at_182) (feq (ho1 : ¬ ((p1 &&& (255 : Int32)) = (p2 &&& (255 : Int32))))).2 (by decide) (by decide) ?_
                refine own_iload X96 hx (hb hby at_189) rfl ?_
                refine own_callS X96 hx hZ hown (y := y31) (own_w hw 186 rfl) (own_w hw 187 rfl) (own_w hw 84 rfl) (own_w hw 188 rfl) (by decide) (W := 0) (by decide) (by decide) N96 e96 (by rw [hml]; rfl) (argsL := [(.int (p2 &&& (255 : Int32)))]) (rest := []) (lenOf pd_26 rfl) (Nat.le_of_eq rfl) (by decide) (by decide) (rm31 l Z a0 hw [] (p2 &&& (255 : Int32)) T94.heap n0 O95) rfl (hb hby at_191) ?_
                intro v97 T97 lc97 X97 N97 hQ97
                obtain ⟨rfl, e97⟩ := hQ97
                refine own_istore X97 hx (Ls' := #[.val (.int p1), .val (.int p2), .val (.int p3), .val (.int w2), .val (.int w4), .val (.int w6), .val (.int (p1 &&& (255 : Int32))), .val (.int (p2 &&& (255 : Int32))), .val (.ref b7), .val (.ref b11), .val (.ref b15), .val (.int (0 : Int32)), .val (.int (((p2 &&& (255 : Int32)) + (1 : Int32)) * (512 : Int32)))]) (hb hby at_194) rfl ?_
                refine own_goto X97 hx (pc' := 235) (hb hby at_196) (by decide) (by decide) ?_
                refine own_aload X97 hx (hb hby at_235) rfl rfl ?_
                refine own_callS X97 hx hZ hown (y := y12) (own_w hw 82 rfl) (own_w hw 83 rfl) (own_w hw 84 rfl) (own_w hw 85 rfl) (by decide) (W := 0) (by decide) (by decide) N97 e97 (by rw [hml]; rfl) (argsL := [(.ref b15)]) (rest := []) (lenOf pd_28 rfl) (Nat.le_of_eq rfl) (by decide) (by decide) (rm121 l Z a0 hw [] b15 b_19 kr2_19 b11 kk_17 ((p2.toInt8.toInt32).toInt8.toInt32) k11 T94.heap n0 O95 r94_0 r94_2 E95_b_19 F95_keys_b_19 F95_children_b_19 F95_size_b_19 A95_kr2_19 A95_b11 E95_b11) rfl (hb hby at_237) ?_
                intro v98 T98 lc98 X98 N98 hQ98
                obtain ⟨rfl, K98⟩ := hQ98
                have O99 := O95.keep K98 all0
                refine own_iload X98 hx (hb hby at_240) rfl ?_
                refine own_icmpNo X98 hx (hb hby at_242) (teq ((by simp only [own_ux]) : (((((p2.toInt8.toInt32).toInt8.toInt32) &&& (255 : Int32)) + (1 : Int32)) * (512 : Int32)) = (((p2 &&& (255 : Int32)) + (1 : Int32)) * (512 : Int32)))).2 ?_
                refine own_iconst X98 hx (v := (1 : Int32)) (hb hby at_245) rfl ?_
                refine own_goto X98 hx (pc' := 250) (hb hby at_246) (by decide) (by decide) ?_
                show Goes _ _ _ _ _ _ (T98.setTop (mkF m 250 #[.val (.int p1), .val (.int p2), .val (.int p3), .val (.int w2), .val (.int w4), .val (.int w6), .val (.int (p1 &&& (255 : Int32))), .val (.int (p2 &&& (255 : Int32))), .val (.ref b7), .val (.ref b11), .val (.ref b15), .val (.int (0 : Int32)), .val (.int (((p2 &&& (255 : Int32)) + (1 : Int32)) * (512 : Int32)))] [(.int (1 : Int32))]))
                exact own_retN X98 hx (t := .boolean) N98 hlk (by decide) (by decide) hret (by simp) (hb hby at_250) (rfl)
              show Goes _ _ _ _ _ _ (T94.setTop (mkF m 163 #[.val (.int p1), .val (.int p2), .val (.int p3), .val (.int w2), .val (.int w4), .val (.int w6), .val (.int (p1 &&& (255 : Int32))), .val (.int (p2 &&& (255 : Int32))), .val (.ref b7), .val (.ref b11), .val (.ref b15), .val (.int (0 : Int32)), .unset] []))
              refine own_iload X94 hx (hb hby at_163) rfl ?_
              by_cases hc165_100 : w6 = (0 : Int32)
              ·
                refine own_ifYes X94 hx (pc' := 173) (hb hby at_165) ((if0 _ _).trans (teq (hc165_100 : w6 = (0 : Int32))).1) (by decide) (by decide) ?_
                show Goes _ _ _ _ _ _ (T94.setTop (mkF m 173 #[.val (.int p1), .val (.int p2), .val (.int p3), .val (.int w2), .val (.int w4), .val (.int w6), .val (.int (p1 &&& (255 : Int32))), .val (.int (p2 &&& (255 : Int32))), .val (.ref b7), .val (.ref b11), .val (.ref b15), .val (.int (0 : Int32)), .unset] []))
                exact jn96 T94 _ X94 N94 rfl
              ·
                refine own_ifNo X94 hx (hb hby at_165) ((if0 _ _).trans (feq (hc165_100 : ¬ (w6 = (0 : Int32)))).1) ?_
                refine own_aload X94 hx (hb hby at_168) rfl rfl ?_
                refine own_virtual X94 hx hZ hown (y := y30) (z := y30) (own_w hw 181 rfl) (own_w hw 182 rfl) (notFace_of_selects (args := #[]) (mvT hZ (own_w hw 184 rfl))) (own_w hw 184 rfl) (own_w hw 183 rfl) (own_w hw 3 rfl) (own_w hw 185 rfl) (a := b15) r94_0 (by decide) (W := 0) (by decide) (by decide) N94 rfl (by rw [hml]; rfl) (argsL := []) (rest := []) (lenOf pd_19 rfl) (Nat.le_of_eq rfl) (by decide) (by decide) (rm30s l Z a0 hw [] b15 ((1 : Int64) + (1 : Int64)) b_19 ((((0 : Int32) + (1 : Int32)) + (1 : Int32)) - (1 : Int32)) T94.heap n0 O95 r94_0 r94_1 r94_2 r94_3 r94_4) rfl (hb hby at_170) ?_
                intro v101 T101 lc101 X101 N101 hQ101
                obtain ⟨rfl, e101⟩ := hQ101
                show Goes _ _ _ _ _ _ (T101.setTop (mkF m 173 #[.val (.int p1), .val (.int p2), .val (.int p3), .val (.int w2), .val (.int w4), .val (.int w6), .val (.int (p1 &&& (255 : Int32))), .val (.int (p2 &&& (255 : Int32))), .val (.ref b7), .val (.ref b11), .val (.ref b15), .val (.int (0 : Int32)), .unset] []))
                exact jn96 T101 _ X101 N101 e101
        ·
          refine own_ifNo X19 hx (hb hby at_90) ((if0 _ _).trans (feq (hc90_21 : ¬ (w2 = (0 : Int32)))).1) ?_
          refine own_aload X19 hx (hb hby at_93) rfl rfl ?_
          refine own_virtual X19 hx hZ hown (y := y30) (z := y30) (own_w hw 181 rfl) (own_w hw 182 rfl) (notFace_of_selects (args := #[]) (mvT hZ (own_w hw 184 rfl))) (own_w hw 184 rfl) (own_w hw 183 rfl) (own_w hw 3 rfl) (own_w hw 185 rfl) (a := b15) r19_0 (by decide) (W := 0) (by decide) (by decide) N19 rfl (by rw [hml]; rfl) (argsL := []) (rest := []) (lenOf pd_19 rfl) (Nat.le_of_eq rfl) (by decide) (by decide) (rm30n l Z a0 hw [] b15 (1 : Int64) n_17 b_19 ((0 : Int32) + (1 : Int32)) T19.heap n0 O20 r19_0 r19_1 r19_2 r19_3 r19_4 (Ne.symm ne_n_17_b_19) ge_b15) rfl (hb hby at_95) ?_
          intro v102 T102 lc102 X102 N102 hQ102
          obtain ⟨rfl, K102, r102_0, r102_1, r102_2, r102_3, r102_4⟩ := hQ102
          have E103_b7 := E20_b7.keep K102
          have E103_b11 := E20_b11.keep K102
          have E103_b_19 := r19_5.keep K102
          have E103_kr2_19 := r19_10.keep K102
          have F103_edit_b_19 := r19_6.keep K102 (ninS (Ne.symm ne_b15_b_19) nin0)
          have F103_keys_b_19 := r19_7.keep K102 (ninS (Ne.symm ne_b15_b_19) nin0)
          have F103_children_b_19 := r19_8.keep K102 (ninS (Ne.symm ne_b15_b_19) nin0)
          have F103_size_b_19 := r19_9.keep K102 (ninS (Ne.symm ne_b15_b_19) nin0)
          have A103_b7 := A20_b7.keep K102 (ninS ne_b7_b15 nin0)
          have A103_b11 := A20_b11.keep K102 (ninS ne_b11_b15 nin0)
          have A103_kr2_19 := r19_11.keep K102 (ninS (Ne.symm ne_b15_kr2_19) nin0)
          have O103 := O20.keep K102 (allS ge_b15 all0)
          refine own_iloadN X102 hx (hb hby at_98) rfl ?_
          refine own_ifNo X102 hx (hb hby at_99) ((if0 _ _).trans (feq (hc90_21 : ¬ (w2 = (0 : Int32)))).1) ?_
          refine own_iload X102 hx (hb hby at_102) rfl ?_
          refine own_callS X102 hx hZ hown (y := y31) (own_w hw 186 rfl) (own_w hw 187 rfl) (own_w hw 84 rfl) (own_w hw 188 rfl) (by decide) (W := 0) (by decide) (by decide) N102 rfl (by rw [hml]; rfl) (argsL := [(.int (p1 &&& (255 : Int32)))]) (rest := []) (lenOf pd_26 rfl) (Nat.le_of_eq rfl) (by decide) (by decide) (rm31 l Z a0 hw [] (p1 &&& (255 : Int32)) T102.heap n0 O103) rfl (hb hby at_104) ?_
          intro v104 T104 lc104 X104 N104 hQ104
          obtain ⟨rfl, e104⟩ := hQ104
          refine own_goto X104 hx (pc' := 111) (hb hby at_107) (by decide) (by decide) ?_
          refine own_istore X104 hx (Ls' := #[.val (.int p1), .val (.int p2), .val (.int p3), .val (.int w2), .val (.int w4), .val (.int w6), .val (.int (p1 &&& (255 : Int32))), .val (.int (p2 &&& (255 : Int32))), .val (.ref b7), .val (.ref b11), .val (.ref b15), .val (.int (((p1 &&& (255 : Int32)) + (1 : Int32)) * (512 : Int32))), .unset]) (hb hby at_111) rfl ?_
          refine own_aload X104 hx (hb hby at_113) rfl rfl ?_
          refine own_callS X104 hx hZ hown (y := y12) (own_w hw 82 rfl) (own_w hw 83 rfl) (own_w hw 84 rfl) (own_w hw 85 rfl) (by decide) (W := 0) (by decide) (by decide) N104 e104 (by rw [hml]; rfl) (argsL := [(.ref b15)]) (rest := []) (lenOf pd_28 rfl) (Nat.le_of_eq rfl) (by decide) (by decide) (rm121 l Z a0 hw [] b15 b_19 kr2_19 b7 kk_17 ((p1.toInt8.toInt32).toInt8.toInt32) k7 T102.heap n0 O103 r102_0 r102_2 E103_b_19 F103_keys_b_19 F103_children_b_19 F103_size_b_19 A103_kr2_19 A103_b7 E103_b7) rfl (hb hby at_115) ?_
          intro v105 T105 lc105 X105 N105 hQ105
          obtain ⟨rfl, K105⟩ := hQ105
          have E106_b7 := E103_b7.keep K105
          have E106_b11 := E103_b11.keep K105
          have E106_b15 := r102_0.keep K105
          have E106_b_19 := E103_b_19.keep K105
          have E106_kr2_19 := E103_kr2_19.keep K105
          have F106_edit_b_19 := F103_edit_b_19.keep K105 nin0
          have F106_keys_b_19 := F103_keys_b_19.keep K105 nin0
          have F106_children_b_19 := F103_children_b_19.keep K105 nin0
          have F106_size_b_19 := F103_size_b_19.keep K105 nin0
          have F106_edit_b15 := r102_1.keep K105 nin0
          have F106_root_b15 := r102_2.keep K105 nin0
          have F106_draft_b15 := r102_3.keep K105 nin0
          have F106_size_b15 := r102_4.keep K105 nin0
          have A106_b7 := A103_b7.keep K105 nin0
          have A106_b11 := A103_b11.keep K105 nin0
          have A106_kr2_19 := A103_kr2_19.keep K105 nin0
          have O106 := O103.keep K105 all0
          refine own_iload X105 hx (hb hby at_118) rfl ?_
          refine own_icmpYes X105 hx (pc' := 125) (hb hby at_120) (teq ((by simp only [own_ux]) : (((((p1.toInt8.toInt32).toInt8.toInt32) &&& (255 : Int32)) + (1 : Int32)) * (512 : Int32)) = (((p1 &&& (255 : Int32)) + (1 : Int32)) * (512 : Int32)))).1 (by decide) (by decide) ?_
          show Goes _ _ _ _ _ _ (T105.setTop (mkF m 125 #[.val (.int p1), .val (.int p2), .val (.int p3), .val (.int w2), .val (.int w4), .val (.int w6), .val (.int (p1 &&& (255 : Int32))), .val (.int (p2 &&& (255 : Int32))), .val (.ref b7), .val (.ref b11), .val (.ref b15), .val (.int (((p1 &&& (255 : Int32)) + (1 : Int32)) * (512 : Int32))), .unset] []))
          rcases own_tri p1 p2 with ⟨ho1, ho2⟩ | ⟨ho1, ho2, ho3, ho4, ho5, ho6, ho7⟩ | ⟨ho1, ho2, ho3, ho4, ho5, ho6, ho7⟩
          ·
            show Goes _ _ _ _ _ _ (T105.setTop (mkF m 125 #[.val (.int p1), .val (.int p2), .val (.int p3), .val (.int w2), .val (.int w4), .val (.int w6), .val (.int (p1 &&& (255 : Int32))), .val (.int (p2 &&& (255 : Int32))), .val (.ref b7), .val (.ref b11), .val (.ref b15), .val (.int (((p1 &&& (255 : Int32)) + (1 : Int32)) * (512 : Int32))), .unset] []))
            refine own_aload X105 hx (hb hby at_125) rfl rfl ?_
            refine own_aload X105 hx (hb hby at_127) rfl rfl ?_
            refine own_virtual X105 hx hZ hown (y := y4) (z := y4) (own_w hw 31 rfl) (own_w hw 32 rfl) (notFace_of_selects (args := #[]) (mvT hZ (own_w hw 34 rfl))) (own_w hw 34 rfl) (own_w hw 33 rfl) (own_w hw 3 rfl) (own_w hw 35 rfl) (a := b15) E106_b15 (by decide) (W := 0) (by decide) (by decide) N105 rfl (by rw [hml]; rfl) (argsL := [(.ref b11)]) (rest := []) (lenOf pd_27 rfl) (Nat.le_of_eq rfl) (by decide) (by decide) (rm4Be l Z a0 hw [] b15 b11 ((1 : Int64) + (1 : Int64)) b_19 ((0 : Int32) + (1 : Int32)) (1 : Int64) kr2_19 kk_17 b7 ((p1.toInt8.toInt32).toInt8.toInt32) ((p2.toInt8.toInt32).toInt8.toInt32) k7 k11 T105.heap n0 O106 E106_b15 F106_edit_b15 F106_root_b15 F106_draft_b15 F106_size_b15 E106_b_19 F106_edit_b_19 F106_keys_b_19 F106_children_b_19 F106_size_b_19 E106_kr2_19 A106_kr2_19 r17_14 ge_b15 (by first | assumption | decide | exact ⟨rfl, rfl⟩) E106_b11 E106_b7 A106_b7 A106_b11 ne_b7_b11 ho2) rfl (hb hby at_129) ?_
            intro v107 T107 lc107 X107 N107 hQ107
            obtain ⟨w_107, b_107, kr2_107, rfl, K107, r107_0, r107_1, r107_2, r107_3, r107_4, r107_5, r107_6, r107_7, r107_8, r107_9, r107_10, r107_11, r107_12, r107_13⟩ := hQ107
            have E108_b7 := E106_b7.keep K107
            have E108_b_19 := E106_b_19.keep K107
            have F108_keys_b_19 := F106_keys_b_19.keep K107 (ninS (Ne.symm ne_b15_b_19) nin0)
            have F108_children_b_19 := F106_children_b_19.keep K107 (ninS (Ne.symm ne_b15_b_19) nin0)
            have F108_size_b_19 := F106_size_b_19.keep K107 (ninS (Ne.symm ne_b15_b_19) nin0)
            have A108_b7 := A106_b7.keep K107 (ninS ne_b7_b15 nin0)
            have A108_kr2_19 := A106_kr2_19.keep K107 (ninS (Ne.symm ne_b15_kr2_19) nin0)
            have O108 := O106.keep K107 (allS ge_b15 all0)
            have ne_b_19_b_107 : b_19 ≠ b_107 := Nat.ne_of_lt (Nat.lt_of_lt_of_le E106_b_19.lt r107_12)
            have ne_kr2_19_b_107 : kr2_19 ≠ b_107 := Nat.ne_of_lt (Nat.lt_of_lt_of_le E106_kr2_19.lt r107_12)
            have ne_b15_b_107 : b15 ≠ b_107 := Nat.ne_of_lt (Nat.lt_of_lt_of_le E106_b15.lt r107_12)
            have ne_b7_b_107 : b7 ≠ b_107 := Nat.ne_of_lt (Nat.lt_of_lt_of_le E106_b7.lt r107_12)
            have ge_b_107 : n0 ≤ b_107 := Nat.le_trans (own_sz O106) r107_12
            have ne_b_19_kr2_107 : b_19 ≠ kr2_107 := Nat.ne_of_lt (Nat.lt_of_lt_of_le E106_b_19.lt r107_13)
            have ne_kr2_19_kr2_107 : kr2_19 ≠ kr2_107 := Nat.ne_of_lt (Nat.lt_of_lt_of_le E106_kr2_19.lt r107_13)
            have ne_b15_kr2_107 : b15 ≠ kr2_107 := Nat.ne_of_lt (Nat.lt_of_lt_of_le E106_b15.lt r107_13)
            have ne_b7_kr2_107 : b7 ≠ kr2_107 := Nat.ne_of_lt (Nat.lt_of_lt_of_le E106_b7.lt r107_13)
            have ge_kr2_107 : n0 ≤ kr2_107 := Nat.le_trans (own_sz O106) r107_13
            refine own_pop X107 hx (hb hby at_132) rfl ?_
            refine own_iload X107 hx (hb hby at_133) rfl ?_
            by_cases hc135_109 : w4 = (0 : Int32)
            ·
              refine own_ifYes X107 hx (pc' := 146) (hb hby at_135) ((if0 _ _).trans (teq (hc135_109 : w4 = (0 : Int32))).1) (by decide) (by decide) ?_
              refine own_aload X107 hx (hb hby at_146) rfl rfl ?_
              refine own_callS X107 hx hZ hown (y := y12) (own_w hw 82 rfl) (own_w hw 83 rfl) (own_w hw 84 rfl) (own_w hw 85 rfl) (by decide) (W := 0) (by decide) (by decide) N107 rfl (by rw [hml]; rfl) (argsL := [(.ref b15)]) (rest := []) (lenOf pd_28 rfl) (Nat.le_of_eq rfl) (by decide) (by decide) (rm121 l Z a0 hw [] b15 b_19 kr2_19 b7 kk_17 ((p1.toInt8.toInt32).toInt8.toInt32) k7 T107.heap n0 O108 r107_0 r107_2 E108_b_19 F108_keys_b_19 F108_children_b_19 F108_size_b_19 A108_kr2_19 A108_b7 E108_b7) rfl (hb hby at_148) ?_
              intro v110 T110 lc110 X110 N110 hQ110
              obtain ⟨rfl, K110⟩ := hQ110
              have E111_b7 := E108_b7.keep K110
              have E111_b15 := r107_0.keep K110
              have E111_b_107 := r107_5.keep K110
              have F111_edit_b15 := r107_1.keep K110 nin0
              have F111_root_b15 := r107_2.keep K110 nin0
              have F111_draft_b15 := r107_3.keep K110 nin0
              have F111_size_b15 := r107_4.keep K110 nin0
              have F111_keys_b_107 := r107_7.keep K110 nin0
              have F111_children_b_107 := r107_8.keep K110 nin0
              have F111_size_b_107 := r107_9.keep K110 nin0
              have A111_b7 := A108_b7.keep K110 nin0
              have A111_kr2_107 := r107_11.keep K110 nin0
              have O111 := O108.keep K110 all0
              refine own_iload X110 hx (hb hby at_151) rfl ?_
              refine own_icmpYes X110 hx (pc' := 158) (hb hby at_153) (teq ((by simp only [own_ux]) : (((((p1.toInt8.toInt32).toInt8.toInt32) &&& (255 : Int32)) + (1 : Int32)) * (512 : Int32)) = (((p1 &&& (255 : Int32)) + (1 : Int32)) * (512 : Int32)))).1 (by decide) (by decide) ?_
              refine own_aload X110 hx (hb hby at_158) rfl rfl ?_
              refine own_virtual X110 hx hZ hown (y := y30) (z := y30) (own_w hw 181 rfl) (own_w hw 182 rfl) (notFace_of_selects (args := #[]) (mvT hZ (own_w hw 184 rfl))) (own_w hw 184 rfl) (own_w hw 183 rfl) (own_w hw 3 rfl) (own_w hw 185 rfl) (a := b15) E111_b15 (by decide) (W := 0) (by decide) (by decide) N110 rfl (by rw [hml]; rfl) (argsL := []) (rest := []) (lenOf pd_19 rfl) (Nat.le_of_eq rfl) (by decide) (by decide) (rm30n l Z a0 hw [] b15 ((1 : Int64) + (1 : Int64)) b_19 b_107 ((0 : Int32) + (1 : Int32)) T110.heap n0 O111 E111_b15 F111_edit_b15 F111_root_b15 F111_draft_b15 F111_size_b15 (Ne.symm ne_b_19_b_107) ge_b15) rfl (hb hby at_160) ?_
              intro v112 T112 lc112 X112 N112 hQ112
              obtain ⟨rfl, K112, r112_0, r112_1, r112_2, r112_3, r112_4⟩ := hQ112
              have E113_b7 := E111_b7.keep K112
              have E113_b_107 := E111_b_107.keep K112
              have F113_keys_b_107 := F111_keys_b_107.keep K112 (ninS (Ne.symm ne_b15_b_107) nin0)
              have F113_children_b_107 := F111_children_b_107.keep K112 (ninS (Ne.symm ne_b15_b_107) nin0)
              have F113_size_b_107 := F111_size_b_107.keep K112 (ninS (Ne.symm ne_b15_b_107) nin0)
              have A113_b7 := A111_b7.keep K112 (ninS ne_b7_b15 nin0)
              have A113_kr2_107 := A111_kr2_107.keep K112 (ninS (Ne.symm ne_b15_kr2_107) nin0)
              have O113 := O111.keep K112 (allS ge_b15 all0)
              show Goes _ _ _ _ _ _ (T112.setTop (mkF m 163 #[.val (.int p1), .val (.int p2), .val (.int p3), .val (.int w2), .val (.int w4), .val (.int w6), .val (.int (p1 &&& (255 : Int32))), .val (.int (p2 &&& (255 : Int32))), .val (.ref b7), .val (.ref b11), .val (.ref b15), .val (.int (((p1 &&& (255 : Int32)) + (1 : Int32)) * (512 : Int32))), .unset] []))
              have jn114 : ∀ (T114 : State) (lc114 : List Loc) (X114 : Stand p l e room_1 s m #[(.int p1), (.int p2), (.int p3)] below meth c T114 lc114 19 224) (N114 : Fr n0 lc114) (e114 : T114.heap = T112.heap), Goes p e below (fun o t L => FrameEnd s o t L (56) (576)) n0 (Q0 Z p1 p2 p3 h0 n0) (T114.setTop (mkF m 173 #[.val (.int p1), .val (.int p2), .val (.int p3), .val (.int w2), .val (.int w4), .val (.int w6), .val (.int (p1 &&& (255 : Int32))), .val (.int (p2 &&& (255 : Int32))), .val (.ref b7), .val (.ref b11), .val (.ref b15), .val (.int (((p1 &&& (255 : Int32)) + (1 : Int32)) * (512 : Int32))), .unset] [])) := by
                intro T114 lc114 X114 N114 e114
                refine own_iload X114 hx (hb hby at_173) rfl ?_
                refine own_ifYes X114 hx (pc' := 199) (hb hby at_175) ((if0 _ _).trans (teq (hc135_109 : w4 = (0 : Int32))).1) (by decide) (by decide) ?_
                refine own_iload X114 hx (hb hby at_199) rfl ?_
                refine own_iload X114 hx (hb hby at_201) rfl ?_
                refine own_icmpNo X114 hx (hb hby at_203) (teq (ho1 : (p1 &&& (255 : Int32)) = (p2 &&& (255 : Int32)))).2 ?_
                refine own_iload X114 hx (hb hby at_206) rfl ?_
                refine own_callS X114 hx hZ hown (y := y31) (own_w hw 186 rfl) (own_w hw 187 rfl) (own_w hw 84 rfl) (own_w hw 188 rfl) (by decide) (W := 0) (by decide) (by decide) N114 e114 (by rw [hml]; rfl) (argsL := [(.int (p1 &&& (255 : Int32)))]) (rest := []) (lenOf pd_26 rfl) (Nat.le_of_eq rfl) (by decide) (by decide) (rm31 l Z a0 hw [] (p1 &&& (255 : Int32)) T112.heap n0 O113) rfl (hb hby at_208) ?_
                intro v115 T115 lc115 X115 N115 hQ115
                obtain ⟨rfl, e115⟩ := hQ115
                refine own_istore X115 hx (Ls' := #[.val (.int p1), .val (.int p2), .val (.int p3), .val (.int w2), .val (.int w4), .val (.int w6), .val (.int (p1 &&& (255 : Int32))), .val (.int (p2 &&& (255 : Int32))), .val (.ref b7), .val (.ref b11), .val (.ref b15), .val (.int (((p1 &&& (255 : Int32)) + (1 : Int32)) * (512 : Int32))), .val (.int (((p1 &&& (255 : Int32)) + (1 : Int32)) * (512 : Int32)))]) (hb hby at_211) rfl ?_
                refine own_goto X115 hx (pc' := 235) (hb hby at_213) (by decide) (by decide) ?_
                refine own_aload X115 hx (hb hby at_235) rfl rfl ?_
                refine own_callS X115 hx hZ hown (y := y12) (own_w hw 82 rfl) (own_w hw 83 rfl) (own_w hw 84 rfl) (own_w hw 85 rfl) (by decide) (W := 0) (by decide) (by decide) N115 e115 (by rw [hml]; rfl) (argsL := [(.ref b15)]) (rest := []) (lenOf pd_28 rfl) (Nat.le_of_eq rfl) (by decide) (by decide) (rm121 l Z a0 hw [] b15 b_107 kr2_107 b7 kk_17 ((p1.toInt8.toInt32).toInt8.toInt32) k7 T112.heap n0 O113 r112_0 r112_2 E113_b_107 F113_keys_b_107 F113_children_b_107 F113_size_b_107 A113_kr2_107 A113_b7 E113_b7) rfl (hb hby at_237) ?_
                intro v116 T116 lc116 X116 N116 hQ116
                obtain ⟨rfl, K116⟩ := hQ116
                have O117 := O113.keep K116 all0
                refine own_iload X116 hx (hb hby at_240) rfl ?_
                refine own_icmpNo X116 hx (hb hby at_242) (teq ((by simp only [own_ux]) : (((((p1.toInt8.toInt32).toInt8.toInt32) &&& (255 : Int32)) + (1 : Int32)) * (512 : Int32)) = (((p1 &&& (255 : Int32)) + (1 : Int32)) * (512 : Int32)))).2 ?_
                refine own_iconst X116 hx (v := (1 : Int32)) (hb hby at_245) rfl ?_
                refine own_goto X116 hx (pc' := 250) (hb hby at_246) (by decide) (by decide) ?_
                show Goes _ _ _ _ _ _ (T116.setTop (mkF m 250 #[.val (.int p1), .val (.int p2), .val (.int p3), .val (.int w2), .val (.int w4), .val (.int w6), .val (.int (p1 &&& (255 : Int32))), .val (.int (p2 &&& (255 : Int32))), .val (.ref b7), .val (.ref b11), .val (.ref b15), .val (.int (((p1 &&& (255 : Int32)) + (1 : Int32)) * (512 : Int32))), .val (.int (((p1 &&& (255 : Int32)) + (1 : Int32)) * (512 : Int32)))] [(.int (1 : Int32))]))
                exact own_retN X116 hx (t := .boolean) N116 hlk (by decide) (by decide) hret (by simp) (hb hby at_250) (rfl)
              show Goes _ _ _ _ _ _ (T112.setTop (mkF m 163 #[.val (.int p1), .val (.int p2), .val (.int p3), .val (.int w2), .val (.int w4), .val (.int w6), .val (.int (p1 &&& (255 : Int32))), .val (.int (p2 &&& (255 : Int32))), .val (.ref b7), .val (.ref b11), .val (.ref b15), .val (.int (((p1 &&& (255 : Int32)) + (1 : Int32)) * (512 : Int32))), .unset] []))
              refine own_iload X112 hx (hb hby at_163) rfl ?_
              by_cases hc165_118 : w6 = (0 : Int32)
              ·
                refine own_ifYes X112 hx (pc' := 173) (hb hby at_165) ((if0 _ _).trans (teq (hc165_118 : w6 = (0 : Int32))).1) (by decide) (by decide) ?_
                show Goes _ _ _ _ _ _ (T112.setTop (mkF m 173 #[.val (.int p1), .val (.int p2), .val (.int p3), .val (.int w2), .val (.int w4), .val (.int w6), .val (.int (p1 &&& (255 : Int32))), .val (.int (p2 &&& (255 : Int32))), .val (.ref b7), .val (.ref b11), .val (.ref b15), .val (.int (((p1 &&& (255 : Int32)) + (1 : Int32)) * (512 : Int32))), .unset] []))
                exact jn114 T112 _ X112 N112 rfl
              ·
                refine own_ifNo X112 hx (hb hby at_165) ((if0 _ _).trans (feq (hc165_118 : ¬ (w6 = (0 : Int32)))).1) ?_
                refine own_aload X112 hx (hb hby at_168) rfl rfl ?_
                refine own_virtual X112 hx hZ hown (y := y30) (z := y30) (own_w hw 181 rfl) (own_w hw 182 rfl) (notFace_of_selects (args := #[]) (mvT hZ (own_w hw 184 rfl))) (own_w hw 184 rfl) (own_w hw 183 rfl) (own_w hw 3 rfl) (own_w hw 185 rfl) (a := b15) r112_0 (by decide) (W := 0) (by decide) (by decide) N112 rfl (by rw [hml]; rfl) (argsL := []) (rest := []) (lenOf pd_19 rfl) (Nat.le_of_eq rfl) (by decide) (by decide) (rm30s l Z a0 hw [] b15 (((1 : Int64) + (1 : Int64)) + (1 : Int64)) b_107 ((0 : Int32) + (1 : Int32)) T112.heap n0 O113 r112_0 r112_1 r112_2 r112_3 r112_4) rfl (hb hby at_170) ?_
                intro v119 T119 lc119 X119 N119 hQ119
                obtain ⟨rfl, e119⟩ := hQ119
                show Goes _ _ _ _ _ _ (T119.setTop (mkF m 173 #[.val (.int p1), .val (.int p2), .val (.int p3), .val (.int w2), .val (.int w4), .val (.int w6), .val (.int (p1 &&& (255 : Int32))), .val (.int (p2 &&& (255 : Int32))), .val (.ref b7), .val (.ref b11), .val (.ref b15), .val (.int (((p1 &&& (255 : Int32)) + (1 : Int32)) * (512 : Int32))), .unset] []))
                exact jn114 T119 _ X119 N119 e119
            ·
              refine own_ifNo X107 hx (hb hby at_135) ((if0 _ _).trans (feq (hc135_109 : ¬ (w4 = (0 : Int32)))).1) ?_
              refine own_aload X107 hx (hb hby at_138) rfl rfl ?_
              refine own_aload X107 hx (hb hby at_140) rfl rfl ?_
              refine own_virtual X107 hx hZ hown (y := y23) (z := y23) (own_w hw 155 rfl) (own_w hw 156 rfl) (notFace_of_selects (args := #[]) (mvT hZ (own_w hw 158 rfl))) (own_w hw 158 rfl) (own_w hw 157 rfl) (own_w hw 3 rfl) (own_w hw 159 rfl) (a := b15) r107_0 (by decide) (W := 0) (by decide) (by decide) N107 rfl (by rw [hml]; rfl) (argsL := [(.ref b7)]) (rest := []) (lenOf pd_27 rfl) (Nat.le_of_eq rfl) (by decide) (by decide) (rm231s l Z a0 hw [] b15 b7 ((1 : Int64) + (1 : Int64)) b_19 b_107 ((0 : Int32) + (1 : Int32)) kr2_107 kk_17 T107.heap n0 O108 r107_0 r107_1 r107_2 r107_3 r107_4 r107_5 r107_6 r107_7 r107_8 r107_9 r107_10 r107_11 r17_14 ge_b15 ge_b_107 ge_kr2_107 E108_b7) rfl (hb hby at_142) ?_
              intro v120 T120 lc120 X120 N120 hQ120
              obtain ⟨w_120, rfl, K120, r120_0, r120_1, r120_2, r120_3, r120_4, r120_5, r120_6, r120_7, r120_8, r120_9, r120_10, r120_11⟩ := hQ120
              have E121_b7 := E108_b7.keep K120
              have E121_b_19 := E108_b_19.keep K120
              have F121_keys_b_19 := F108_keys_b_19.keep K120 (ninS (Ne.symm ne_b15_b_19) (ninS ne_b_19_b_107 (ninS ne_b_19_kr2_107 nin0)))
              have F121_children_b_19 := F108_children_b_19.keep K120 (ninS (Ne.symm ne_b15_b_19) (ninS ne_b_19_b_107 (ninS ne_b_19_kr2_107 nin0)))
              have F121_size_b_19 := F108_size_b_19.keep K120 (ninS (Ne.symm ne_b15_b_19) (ninS ne_b_19_b_107 (ninS ne_b_19_kr2_107 nin0)))
              have A121_b7 := A108_b7.keep K120 (ninS ne_b7_b15 (ninS ne_b7_b_107 (ninS ne_b7_kr2_107 nin0)))
              have A121_kr2_19 := A108_kr2_19.keep K120 (ninS (Ne.symm ne_b15_kr2_19) (ninS ne_kr2_19_b_107 (ninS ne_kr2_19_kr2_107 nin0)))
              have O121 := O108.keep K120 (allS ge_b15 (allS ge_b_107 (allS ge_kr2_107 all0)))
              refine own_pop X120 hx (hb hby at_145) rfl ?_
              refine own_aload X120 hx (hb hby at_146) rfl rfl ?_
              refine own_callS X120 hx hZ hown (y := y12) (own_w hw 82 rfl) (own_w hw 83 rfl) (own_w hw 84 rfl) (own_w hw 85 rfl) (by decide) (W := 0) (by decide) (by decide) N120 rfl (by rw [hml]; rfl) (argsL := [(.ref b15)]) (rest := []) (lenOf pd_28 rfl) (Nat.le_of_eq rfl) (by decide) (by decide) (rm121 l Z a0 hw [] b15 b_19 kr2_19 b7 kk_17 ((p1.toInt8.toInt32).toInt8.toInt32) k7 T120.heap n0 O121 r120_0 r120_2 E121_b_19 F121_keys_b_19 F121_children_b_19 F121_size_b_19 A121_kr2_19 A121_b7 E121_b7) rfl (hb hby at_148) ?_
              intro v122 T122 lc122 X122 N122 hQ122
              obtain ⟨rfl, K122⟩ := hQ122
              have E123_b15 := r120_0.keep K122
              have E123_b_107 := r120_5.keep K122
              have F123_edit_b15 := r120_1.keep K122 nin0
              have F123_root_b15 := r120_2.keep K122 nin0
              have F123_draft_b15 := r120_3.keep K122 nin0
              have F123_size_b15 := r120_4.keep K122 nin0
              have F123_keys_b_107 := r120_7.keep K122 nin0
              have F123_children_b_107 := r120_8.keep K122 nin0
              have F123_size_b_107 := r120_9.keep K122 nin0
              have A123_kr2_107 := r120_11.keep K122 nin0
              have O123 := O121.keep K122 all0
              refine own_iload X122 hx (hb hby at_151) rfl ?_
              refine own_icmpYes X122 hx (pc' := 158) (hb hby at_153) (teq ((by simp only [own_ux]) : (((((p1.toInt8.toInt32).toInt8.toInt32) &&& (255 : Int32)) + (1 : Int32)) * (512 : Int32)) = (((p1 &&& (255 : Int32)) + (1 : Int32)) * (512 : Int32)))).1 (by decide) (by decide) ?_
              refine own_aload X122 hx (hb hby at_158) rfl rfl ?_
              refine own_virtual X122 hx hZ hown (y := y30) (z := y30) (own_w hw 181 rfl) (own_w hw 182 rfl) (notFace_of_selects (args := #[]) (mvT hZ (own_w hw 184 rfl))) (own_w hw 184 rfl) (own_w hw 183 rfl) (own_w hw 3 rfl) (own_w hw 185 rfl) (a := b15) E123_b15 (by decide) (W := 0) (by decide) (by decide) N122 rfl (by rw [hml]; rfl) (argsL := []) (rest := []) (lenOf pd_19 rfl) (Nat.le_of_eq rfl) (by decide) (by decide) (rm30n l Z a0 hw [] b15 ((1 : Int64) + (1 : Int64)) b_19 b_107 (((0 : Int32) + (1 : Int32)) - (1 : Int32)) T122.heap n0 O123 E123_b15 F123_edit_b15 F123_root_b15 F123_draft_b15 F123_size_b15 (Ne.symm ne_b_19_b_107) ge_b15) rfl (hb hby at_160) ?_
              intro v124 T124 lc124 X124 N124 hQ124
              obtain ⟨rfl, K124, r124_0, r124_1, r124_2, r124_3, r124_4⟩ := hQ124
              have E125_b_107 := E123_b_107.keep K124
              have F125_keys_b_107 := F123_keys_b_107.keep K124 (ninS (Ne.symm ne_b15_b_107) nin0)
              have F125_children_b_107 := F123_children_b_107.keep K124 (ninS (Ne.symm ne_b15_b_107) nin0)
              have F125_size_b_107 := F123_size_b_107.keep K124 (ninS (Ne.symm ne_b15_b_107) nin0)
              have A125_kr2_107 := A123_kr2_107.keep K124 (ninS (Ne.symm ne_b15_kr2_107) nin0)
              have O125 := O123.keep K124 (allS ge_b15 all0)
              show Goes _ _ _ _ _ _ (T124.setTop (mkF m 163 #[.val (.int p1), .val (.int p2), .val (.int p3), .val (.int w2), .val (.int w4), .val (.int w6), .val (.int (p1 &&& (255 : Int32))), .val (.int (p2 &&& (255 : Int32))), .val (.ref b7), .val (.ref b11), .val (.ref b15), .val (.int (((p1 &&& (255 : Int32)) + (1 : Int32)) * (512 : Int32))), .unset] []))
              have jn126 : ∀ (T126 : State) (lc126 : List Loc) (X126 : Stand p l e room_1 s m #[(.int p1), (.int p2), (.int p3)] below meth c T126 lc126 19 224) (N126 : Fr n0 lc126) (e126 : T126.heap = T124.heap), Goes p e below (fun o t L => FrameEnd s o t L (56) (576)) n0 (Q0 Z p1 p2 p3 h0 n0) (T126.setTop (mkF m 173 #[.val (.int p1), .val (.int p2), .val (.int p3), .val (.int w2), .val (.int w4), .val (.int w6), .val (.int (p1 &&& (255 : Int32))), .val (.int (p2 &&& (255 : Int32))), .val (.ref b7), .val (.ref b11), .val (.ref b15), .val (.int (((p1 &&& (255 : Int32)) + (1 : Int32)) * (512 : Int32))), .unset] [])) := by
                intro T126 lc126 X126 N126 e126
                refine own_iload X126 hx (hb hby at_173) rfl ?_
                refine own_ifNo X126 hx (hb hby at_175) ((if0 _ _).trans (feq (hc135_109 : ¬ (w4 = (0 : Int32)))).1) ?_
                refine own_iload X126 hx (hb hby at_178) rfl ?_
                refine own_iload X126 hx (hb hby at_180) rfl ?_
                refine own_icmpNo X126 hx (hb hby at_182) (teq (ho1 : (p1 &&& (255 : Int32)) = (p2 &&& (255 : Int32)))).2 ?_
                refine own_iconst X126 hx (v := (0 : Int32)) (hb hby at_185) rfl ?_
                refine own_goto X126 hx (pc' := 194) (hb hby at_186) (by decide) (by decide) ?_
                refine own_istore X126 hx (Ls' := #[.val (.int p1), .val (.int p2), .val (.int p3), .val (.int w2), .val (.int w4), .val (.int w6), .val (.int (p1 &&& (255 : Int32))), .val (.int (p2 &&& (255 : Int32))), .val (.ref b7), .val (.ref b11), .val (.ref b15), .val (.int (((p1 &&& (255 : Int32)) + (1 : Int32)) * (512 : Int32))), .val (.int (0 : Int32))]) (hb hby at_194) rfl ?_
                refine own_goto X126 hx (pc' := 235) (hb hby at_196) (by decide) (by decide) ?_
                refine own_aload X126 hx (hb hby at_235) rfl rfl ?_
                refine own_callS X126 hx hZ hown (y := y12) (own_w hw 82 rfl) (own_w hw 83 rfl) (own_w hw 84 rfl) (own_w hw 85 rfl) (by decide) (W := 0) (by decide) (by decide) N126 e126 (by rw [hml]; rfl) (argsL := [(.ref b15)]) (rest := []) (lenOf pd_28 rfl) (Nat.le_of_eq rfl) (by decide) (by decide) (rm120 l Z a0 hw [] b15 b_107 kr2_107 kk_17 T124.heap n0 O125 r124_0 r124_2 E125_b_107 F125_keys_b_107 F125_children_b_107 F125_size_b_107 A125_kr2_107) rfl (hb hby at_237) ?_
                intro v127 T127 lc127 X127 N127 hQ127
                obtain ⟨rfl, K127⟩ := hQ127
                have O128 := O125.keep K127 all0
                refine own_iload X127 hx (hb hby at_240) rfl ?_
                refine own_icmpNo X127 hx (hb hby at_242) (teq (by decide : (0 : Int32) = (0 : Int32))).2 ?_
                refine own_iconst X127 hx (v := (1 : Int32)) (hb hby at_245) rfl ?_
                refine own_goto X127 hx (pc' := 250) (hb hby at_246) (by decide) (by decide) ?_
                show Goes _ _ _ _ _ _ (T127.setTop (mkF m 250 #[.val (.int p1), .val (.int p2), .val (.int p3), .val (.int w2), .val (.int w4), .val (.int w6), .val (.int (p1 &&& (255 : Int32))), .val (.int (p2 &&& (255 : Int32))), .val (.ref b7), .val (.ref b11), .val (.ref b15), .val (.int (((p1 &&& (255 : Int32)) + (1 : Int32)) * (512 : Int32))), .val (.int (0 : Int32))] [(.int (1 : Int32))]))
                exact own_retN X127 hx (t := .boolean) N127 hlk (by decide) (by decide) hret (by simp) (hb hby at_250) (rfl)
              show Goes _ _ _ _ _ _ (T124.setTop (mkF m 163 #[.val (.int p1), .val (.int p2), .val (.int p3), .val (.int w2), .val (.int w4), .val (.int w6), .val (.int (p1 &&& (255 : Int32))), .val (.int (p2 &&& (255 : Int32))), .val (.ref b7), .val (.ref b11), .val (.ref b15), .val (.int (((p1 &&& (255 : Int32)) + (1 : Int32)) * (512 : Int32))), .unset] []))
              refine own_iload X124 hx (hb hby at_163) rfl ?_
              by_cases hc165_129 : w6 = (0 : Int32)
              ·
                refine own_ifYes X124 hx (pc' := 173) (hb hby at_165) ((if0 _ _).trans (teq (hc165_129 : w6 = (0 : Int32))).1) (by decide) (by decide) ?_
                show Goes _ _ _ _ _ _ (T124.setTop (mkF m 173 #[.val (.int p1), .val (.int p2), .val (.int p3), .val (.int w2), .val (.int w4), .val (.int w6), .val (.int (p1 &&& (255 : Int32))), .val (.int (p2 &&& (255 : Int32))), .val (.ref b7), .val (.ref b11), .val (.ref b15), .val (.int (((p1 &&& (255 : Int32)) + (1 : Int32)) * (512 : Int32))), .unset] []))
                exact jn126 T124 _ X124 N124 rfl
              ·
                refine own_ifNo X124 hx (hb hby at_165) ((if0 _ _).trans (feq (hc165_129 : ¬ (w6 = (0 : Int32)))).1) ?_
                refine own_aload X124 hx (hb hby at_168) rfl rfl ?_
                refine own_virtual X124 hx hZ hown (y := y30) (z := y30) (own_w hw 181 rfl) (own_w hw 182 rfl) (notFace_of_selects (args := #[]) (mvT hZ (own_w hw 184 rfl))) (own_w hw 184 rfl) (own_w hw 183 rfl) (own_w hw 3 rfl) (own_w hw 185 rfl) (a := b15) r124_0 (by decide) (W := 0) (by decide) (by decide) N124 rfl (by rw [hml]; rfl) (argsL := []) (rest := []) (lenOf pd_19 rfl) (Nat.le_of_eq rfl) (by decide) (by decide) (rm30s l Z a0 hw [] b15 (((1 : Int64) + (1 : Int64)) + (1 : Int64)) b_107 (((0 : Int32) + (1 : Int32)) - (1 : Int32)) T124.heap n0 O125 r124_0 r124_1 r124_2 r124_3 r124_4) rfl (hb hby at_170) ?_
                intro v130 T130 lc130 X130 N130 hQ130
                obtain ⟨rfl, e130⟩ := hQ130
                show Goes _ _ _ _ _ _ (T130.setTop (mkF m 173 #[.val (.int p1), .val (.int p2), .val (.int p3), .val (.int w2), .val (.int w4), .val (.int w6), .val (.int (p1 &&& (255 : Int32))), .val (.int (p2 &&& (255 : Int32))), .val (.ref b7), .val (.ref b11), .val (.ref b15), .val (.int (((p1 &&& (255 : Int32)) + (1 : Int32)) * (512 : Int32))), .unset] []))
                exact jn126 T130 _ X130 N130 e130
          ·
            show Goes _ _ _ _ _ _ (T105.setTop (mkF m 125 #[.val (.int p1), .val (.int p2), .val (.int p3), .val (.int w2), .val (.int w4), .val (.int w6), .val (.int (p1 &&& (255 : Int32))), .val (.int (p2 &&& (255 : Int32))), .val (.ref b7), .val (.ref b11), .val (.ref b15), .val (.int (((p1 &&& (255 : Int32)) + (1 : Int32)) * (512 : Int32))), .unset] []))
            refine own_aload X105 hx (hb hby at_125) rfl rfl ?_
            refine own_aload X105 hx (hb hby at_127) rfl rfl ?_
            refine own_virtual X105 hx hZ hown (y := y4) (z := y4) (own_w hw 31 rfl) (own_w hw 32 rfl) (notFace_of_selects (args := #[]) (mvT hZ (own_w hw 34 rfl))) (own_w hw 34 rfl) (own_w hw 33 rfl) (own_w hw 3 rfl) (own_w hw 35 rfl) (a := b15) E106_b15 (by decide) (W := 0) (by decide) (by decide) N105 rfl (by rw [hml]; rfl) (argsL := [(.ref b11)]) (rest := []) (lenOf pd_27 rfl) (Nat.le_of_eq rfl) (by decide) (by decide) (rm4Bl l Z a0 hw [] b15 b11 ((1 : Int64) + (1 : Int64)) b_19 ((0 : Int32) + (1 : Int32)) (1 : Int64) kr2_19 kk_17 b7 ((p1.toInt8.toInt32).toInt8.toInt32) ((p2.toInt8.toInt32).toInt8.toInt32) k7 k11 T105.heap n0 O106 E106_b15 F106_edit_b15 F106_root_b15 F106_draft_b15 F106_size_b15 E106_b_19 F106_edit_b_19 F106_keys_b_19 F106_children_b_19 F106_size_b_19 E106_kr2_19 A106_kr2_19 r17_14 ge_b15 (by first | assumption | decide | exact ⟨rfl, rfl⟩) E106_b11 E106_b7 A106_b7 A106_b11 ne_b7_b11 ho2 ho6) rfl (hb hby at_129) ?_
            intro v131 T131 lc131 X131 N131 hQ131
            obtain ⟨w_131, b_131, kr2_131, rfl, K131, r131_0, r131_1, r131_2, r131_3, r131_4, r131_5, r131_6, r131_7, r131_8, r131_9, r131_10, r131_11, r131_12, r131_13⟩ := hQ131
            have E132_b7 := E106_b7.keep K131
            have E132_b11 := E106_b11.keep K131
            have E132_b_19 := E106_b_19.keep K131
            have F132_keys_b_19 := F106_keys_b_19.keep K131 (ninS (Ne.symm ne_b15_b_19) nin0)
            have F132_children_b_19 := F106_children_b_19.keep K131 (ninS (Ne.symm ne_b15_b_19) nin0)
            have F132_size_b_19 := F106_size_b_19.keep K131 (ninS (Ne.symm ne_b15_b_19) nin0)
            have A132_b7 := A106_b7.keep K131 (ninS ne_b7_b15 nin0)
            have A132_b11 := A106_b11.keep K131 (ninS ne_b11_b15 nin0)
            have A132_kr2_19 := A106_kr2_19.keep K131 (ninS (Ne.symm ne_b15_kr2_19) nin0)
            have O132 := O106.keep K131 (allS ge_b15 all0)
            have ne_b_19_b_131 : b_19 ≠ b_131 := Nat.ne_of_lt (Nat.lt_of_lt_of_le E106_b_19.lt r131_12)
            have ne_kr2_19_b_131 : kr2_19 ≠ b_131 := Nat.ne_of_lt (Nat.lt_of_lt_of_le E106_kr2_19.lt r131_12)
            have ne_b15_b_131 : b15 ≠ b_131 := Nat.ne_of_lt (Nat.lt_of_lt_of_le E106_b15.lt r131_12)
            have ne_b11_b_131 : b11 ≠ b_131 := Nat.ne_of_lt (Nat.lt_of_lt_of_le E106_b11.lt r131_12)
            have ne_b7_b_131 : b7 ≠ b_131 := Nat.ne_of_lt (Nat.lt_of_lt_of_le E106_b7.lt r131_12)
            have ge_b_131 : n0 ≤ b_131 := Nat.le_trans (own_sz O106) r131_12
            have ne_b_19_kr2_131 : b_19 ≠ kr2_131 := Nat.ne_of_lt (Nat.lt_of_lt_of_le E106_b_19.lt r131_13)
            have ne_kr2_19_kr2_131 : kr2_19 ≠ kr2_131 := Nat.ne_of_lt (Nat.lt_of_lt_of_le E106_kr2_19.lt r131_13)
            have ne_b15_kr2_131 : b15 ≠ kr2_131 := Nat.ne_of_lt (Nat.lt_of_lt_of_le E106_b15.lt r131_13)
            have ne_b11_kr2_131 : b11 ≠ kr2_131 := Nat.ne_of_lt (Nat.lt_of_lt_of_le E106_b11.lt r131_13)
            have ne_b7_kr2_131 : b7 ≠ kr2_131 := Nat.ne_of_lt (Nat.lt_of_lt_of_le E106_b7.lt r131_13)
            have ge_kr2_131 : n0 ≤ kr2_131 := Nat.le_trans (own_sz O106) r131_13
            refine own_pop X131 hx (hb hby at_132) rfl ?_
            refine own_iload X131 hx (hb hby at_133) rfl ?_
            by_cases hc135_133 : w4 = (0 : Int32)
            ·
              refine own_ifYes X131 hx (pc' := 146) (hb hby at_135) ((if0 _ _).trans (teq (hc135_133 : w4 = (0 : Int32))).1) (by decide) (by decide) ?_
              refine own_aload X131 hx (hb hby at_146) rfl rfl ?_
              refine own_callS X131 hx hZ hown (y := y12) (own_w hw 82 rfl) (own_w hw 83 rfl) (own_w hw 84 rfl) (own_w hw 85 rfl) (by decide) (W := 0) (by decide) (by decide) N131 rfl (by rw [hml]; rfl) (argsL := [(.ref b15)]) (rest := []) (lenOf pd_28 rfl) (Nat.le_of_eq rfl) (by decide) (by decide) (rm121 l Z a0 hw [] b15 b_19 kr2_19 b7 kk_17 ((p1.toInt8.toInt32).toInt8.toInt32) k7 T131.heap n0 O132 r131_0 r131_2 E132_b_19 F132_keys_b_19 F132_children_b_19 F132_size_b_19 A132_kr2_19 A132_b7 E132_b7) rfl (hb hby at_148) ?_
              intro v134 T134 lc134 X134 N134 hQ134
              obtain ⟨rfl, K134⟩ := hQ134
              have E135_b7 := E132_b7.keep K134
              have E135_b11 := E132_b11.keep K134
              have E135_b15 := r131_0.keep K134
              have E135_b_131 := r131_5.keep K134
              have F135_edit_b15 := r131_1.keep K134 nin0
              have F135_root_b15 := r131_2.keep K134 nin0
              have F135_draft_b15 := r131_3.keep K134 nin0
              have F135_size_b15 := r131_4.keep K134 nin0
              have F135_keys_b_131 := r131_7.keep K134 nin0
              have F135_children_b_131 := r131_8.keep K134 nin0
              have F135_size_b_131 := r131_9.keep K134 nin0
              have A135_b7 := A132_b7.keep K134 nin0
              have A135_b11 := A132_b11.keep K134 nin0
              have A135_kr2_131 := r131_11.keep K134 nin0
              have O135 := O132.keep K134 all0
              refine own_iload X134 hx (hb hby at_151) rfl ?_
              refine own_icmpYes X134 hx (pc' := 158) (hb hby at_153) (teq ((by simp only [own_ux]) : (((((p1.toInt8.toInt32).toInt8.toInt32) &&& (255 : Int32)) + (1 : Int32)) * (512 : Int32)) = (((p1 &&& (255 : Int32)) + (1 : Int32)) * (512 : Int32)))).1 (by decide) (by decide) ?_
              refine own_aload X134 hx (hb hby at_158) rfl rfl ?_
              refine own_virtual X134 hx hZ hown (y := y30) (z := y30) (own_w hw 181 rfl) (own_w hw 182 rfl) (notFace_of_selects (args := #[]) (mvT hZ (own_w hw 184 rfl))) (own_w hw 184 rfl) (own_w hw 183 rfl) (own_w hw 3 rfl) (own_w hw 185 rfl) (a := b15) E135_b15 (by decide) (W := 0) (by decide) (by decide) N134 rfl (by rw [hml]; rfl) (argsL := []) (rest := []) (lenOf pd_19 rfl) (Nat.le_of_eq rfl) (by decide) (by decide) (rm30n l Z a0 hw [] b15 ((1 : Int64) + (1 : Int64)) b_19 b_131 (((0 : Int32) + (1 : Int32)) + (1 : Int32)) T134.heap n0 O135 E135_b15 F135_edit_b15 F135_root_b15 F135_draft_b15 F135_size_b15 (Ne.symm ne_b_19_b_131) ge_b15) rfl (hb hby at_160) ?_
              intro v136 T136 lc136 X136 N136 hQ136
              obtain ⟨rfl, K136, r136_0, r136_1, r136_2, r136_3, r136_4⟩ := hQ136
              have E137_b7 := E135_b7.keep K136
              have E137_b11 := E135_b11.keep K136
              have E137_b_131 := E135_b_131.keep K136
              have F137_keys_b_131 := F135_keys_b_131.keep K136 (ninS (Ne.symm ne_b15_b_131) nin0)
              have F137_children_b_131 := F135_children_b_131.keep K136 (ninS (Ne.symm ne_b15_b_131) nin0)
              have F137_size_b_131 := F135_size_b_131.keep K136 (ninS (Ne.symm ne_b15_b_131) nin0)
              have A137_b7 := A135_b7.keep K136 (ninS ne_b7_b15 nin0)
              have A137_b11 := A135_b11.keep K136 (ninS ne_b11_b15 nin0)
              have A137_kr2_131 := A135_kr2_131.keep K136 (ninS (Ne.symm ne_b15_kr2_131) nin0)
              have O137 := O135.keep K136 (allS ge_b15 all0)
              show Goes _ _ _ _ _ _ (T136.setTop (mkF m 163 #[.val (.int p1), .val (.int p2), .val (.int p3), .val (.int w2), .val (.int w4), .val (.int w6), .val (.int (p1 &&& (255 : Int32))), .val (.int (p2 &&& (255 : Int32))), .val (.ref b7), .val (.ref b11), .val (.ref b15), .val (.int (((p1 &&& (255 : Int32)) + (1 : Int32)) * (512 : Int32))), .unset] []))
              have jn138 : ∀ (T138 : State) (lc138 : List Loc) (X138 : Stand p l e room_1 s m #[(.int p1), (.int p2), (.int p3)] below meth c T138 lc138 19 224) (N138 : Fr n0 lc138) (e138 : T138.heap = T136.heap), Goes p e below (fun o t L => FrameEnd s o t L (56) (576)) n0 (Q0 Z p1 p2 p3 h0 n0) (T138.setTop (mkF m 173 #[.val (.int p1), .val (.int p2), .val (.int p3), .val (.int w2), .val (.int w4), .val (.int w6), .val (.int (p1 &&& (255 : Int32))), .val (.int (p2 &&& (255 : Int32))), .val (.ref b7), .val (.ref b11), .val (.ref b15), .val (.int (((p1 &&& (255 : Int32)) + (1 : Int32)) * (512 : Int32))), .unset] [])) := by
                intro T138 lc138 X138 N138 e138
                refine own_iload X138 hx (hb hby at_173) rfl ?_
                refine own_ifYes X138 hx (pc' := 199) (hb hby at_175) ((if0 _ _).trans (teq (hc135_133 : w4 = (0 : Int32))).1) (by decide) (by decide) ?_
                refine own_iload X138 hx (hb hby at_199) rfl ?_
                refine own_iload X138 hx (hb hby at_201) rfl ?_
                refine own_icmpYes X138 hx (pc' := 216) (hb hby at_203) (feq (ho1 : ¬ ((p1 &&& (255 : Int32)) = (p2 &&& (255 : Int32))))).2 (by decide) (by decide) ?_
                refine own_iload X138 hx (hb hby at_216) rfl ?_
                refine own_iload X138 hx (hb hby at_218) rfl ?_
                refine own_callS X138 hx hZ hown (y := y19) (own_w hw 207 rfl) (own_w hw 141 rfl) (own_w hw 142 rfl) (own_w hw 143 rfl) (by decide) (W := 0) (by decide) (by decide) N138 e138 (by rw [hml]; rfl) (argsL := [(.int (p1 &&& (255 : Int32))), (.int (p2 &&& (255 : Int32)))]) (rest := []) (lenOf pd_1 rfl) (Nat.le_of_eq rfl) (by decide) (by decide) (rm19l l Z a0 hw [] (p1 &&& (255 : Int32)) (p2 &&& (255 : Int32)) T136.heap n0 O137 ho5) rfl (hb hby at_220) ?_
                intro v139 T139 lc139 X139 N139 hQ139
                obtain ⟨rfl, e139⟩ := hQ139
                refine own_iload X139 hx (hb hby at_223) rfl ?_
                refine own_iload X139 hx (hb hby at_225) rfl ?_
                refine own_callS X139 hx hZ hown (y := y35) (own_w hw 208 rfl) (own_w hw 209 rfl) (own_w hw 142 rfl) (own_w hw 210 rfl) (by decide) (W := 1) (by decide) (by decide) N139 e139 (by rw [hml]; rfl) (argsL := [(.int (p1 &&& (255 : Int32))), (.int (p2 &&& (255 : Int32)))]) (rest := [(.int (p1 &&& (255 : Int32)))]) (lenOf pd_1 rfl) (Nat.le_of_eq rfl) (by decide) (by decide) (rm35l l Z a0 hw [] (p1 &&& (255 : Int32)) (p2 &&& (255 : Int32)) T136.heap n0 O137 ho4) rfl (hb hby at_227) ?_
                intro v140 T140 lc140 X140 N140 hQ140
                obtain ⟨rfl, e140⟩ := hQ140
                refine own_callS X140 hx hZ hown (y := y36) (own_w hw 211 rfl) (own_w hw 212 rfl) (own_w hw 84 rfl) (own_w hw 213 rfl) (by decide) (W := 0) (by decide) (by decide) N140 e140 (by rw [hml]; rfl) (argsL := [(.int (p1 &&& (255 : Int32))), (.int (p2 &&& (255 : Int32)))]) (rest := []) (lenOf pd_1 rfl) (Nat.le_of_eq rfl) (by decide) (by decide) (rm36 l Z a0 hw [] (p1 &&& (255 : Int32)) (p2 &&& (255 : Int32)) T136.heap n0 O137) rfl (hb hby at_230) ?_
                intro v141 T141 lc141 X141 N141 hQ141
                obtain ⟨rfl, e141⟩ := hQ141
                refine own_istore X141 hx (Ls' := #[.val (.int p1), .val (.int p2), .val (.int p3), .val (.int w2), .val (.int w4), .val (.int w6), .val (.int (p1 &&& (255 : Int32))), .val (.int (p2 &&& (255 : Int32))), .val (.ref b7), .val (.ref b11), .val (.ref b15), .val (.int (((p1 &&& (255 : Int32)) + (1 : Int32)) * (512 : Int32))), .val (.int ((((p1 &&& (255 : Int32)) + (1 : Int32)) * (512 : Int32)) + ((p2 &&& (255 : Int32)) + (1 : Int32))))]) (hb hby at_233) rfl ?_
                refine own_aload X141 hx (hb hby at_235) rfl rfl ?_
                refine own_callS X141 hx hZ hown (y := y12) (own_w hw 82 rfl) (own_w hw 83 rfl) (own_w hw 84 rfl) (own_w hw 85 rfl) (by decide) (W := 0) (by decide) (by decide) N141 e141 (by rw [hml]; rfl) (argsL := [(.ref b15)]) (rest := []) (lenOf pd_28 rfl) (Nat.le_of_eq rfl) (by decide) (by decide) (rm122 l Z a0 hw [] b15 b_131 kr2_131 b7 b11 kk_17 ((p1.toInt8.toInt32).toInt8.toInt32) ((p2.toInt8.toInt32).toInt8.toInt32) k7 k11 T136.heap n0 O137 r136_0 r136_2 E137_b_131 F137_keys_b_131 F137_children_b_131 F137_size_b_131 A137_kr2_131 A137_b7 A137_b11 E137_b7 E137_b11) rfl (hb hby at_237) ?_
                intro v142 T142 lc142 X142 N142 hQ142
                obtain ⟨rfl, K142⟩ := hQ142
                have O143 := O137.keep K142 all0
                refine own_iload X142 hx (hb hby at_240) rfl ?_
                refine own_icmpNo X142 hx (hb hby at_242) (teq ((by simp only [own_ux]) : ((((((p1.toInt8.toInt32).toInt8.toInt32) &&& (255 : Int32)) + (1 : Int32)) * (512 : Int32)) + ((((p2.toInt8.toInt32).toInt8.toInt32) &&& (255 : Int32)) + (1 : Int32))) = ((((p1 &&& (255 : Int32)) + (1 : Int32)) * (512 : Int32)) + ((p2 &&& (255 : Int32)) + (1 : Int32))))).2 ?_
                refine own_iconst X142 hx (v := (1 : Int32)) (hb hby at_245) rfl ?_
                refine own_goto X142 hx (pc' := 250) (hb hby at_246) (by decide) (by decide) ?_
                show Goes _ _ _ _ _ _ (T142.setTop (mkF m 250 #[.val (.int p1), .val (.int p2), .val (.int p3), .val (.int w2), .val (.int w4), .val (.int w6), .val (.int (p1 &&& (255 : Int32))), .val (.int (p2 &&& (255 : Int32))), .val (.ref b7), .val (.ref b11), .val (.ref b15), .val (.int (((p1 &&& (255 : Int32)) + (1 : Int32)) * (512 : Int32))), .val (.int ((((p1 &&& (255 : Int32)) + (1 : Int32)) * (512 : Int32)) + ((p2 &&& (255 : Int32)) + (1 : Int32))))] [(.int (1 : Int32))]))
                exact own_retN X142 hx (t := .boolean) N142 hlk (by decide) (by decide) hret (by simp) (hb hby at_250) (rfl)
              show Goes _ _ _ _ _ _ (T136.setTop (mkF m 163 #[.val (.int p1), .val (.int p2), .val (.int p3), .val (.int w2), .val (.int w4), .val (.int w6), .val (.int (p1 &&& (255 : Int32))), .val (.int (p2 &&& (255 : Int32))), .val (.ref b7), .val (.ref b11), .val (.ref b15), .val (.int (((p1 &&& (255 : Int32)) + (1 : Int32)) * (512 : Int32))), .unset] []))
              refine own_iload X136 hx (hb hby at_163) rfl ?_
              by_cases hc165_144 : w6 = (0 : Int32)
              ·
                refine own_ifYes X136 hx (pc' := 173) (hb hby at_165) ((if0 _ _).trans (teq (hc165_144 : w6 = (0 : Int32))).1) (by decide) (by decide) ?_
                show Goes _ _ _ _ _ _ (T136.setTop (mkF m 173 #[.val (.int p1), .val (.int p2), .val (.int p3), .val (.int w2), .val (.int w4), .val (.int w6), .val (.int (p1 &&& (255 : Int32))), .val (.int (p2 &&& (255 : Int32))), .val (.ref b7), .val (.ref b11), .val (.ref b15), .val (.int (((p1 &&& (255 : Int32)) + (1 : Int32)) * (512 : Int32))), .unset] []))
                exact jn138 T136 _ X136 N136 rfl
              ·
                refine own_ifNo X136 hx (hb hby at_165) ((if0 _ _).trans (feq (hc165_144 : ¬ (w6 = (0 : Int32)))).1) ?_
                refine own_aload X136 hx (hb hby at_168) rfl rfl ?_
                refine own_virtual X136 hx hZ hown (y := y30) (z := y30) (own_w hw 181 rfl) (own_w hw 182 rfl) (notFace_of_selects (args := #[]) (mvT hZ (own_w hw 184 rfl))) (own_w hw 184 rfl) (own_w hw 183 rfl) (own_w hw 3 rfl) (own_w hw 185 rfl) (a := b15) r136_0 (by decide) (W := 0) (by decide) (by decide) N136 rfl (by rw [hml]; rfl) (argsL := []) (rest := []) (lenOf pd_19 rfl) (Nat.le_of_eq rfl) (by decide) (by decide) (rm30s l Z a0 hw [] b15 (((1 : Int64) + (1 : Int64)) + (1 : Int64)) b_131 (((0 : Int32) + (1 : Int32)) + (1 : Int32)) T136.heap n0 O137 r136_0 r136_1 r136_2 r136_3 r136_4) rfl (hb hby at_170) ?_
                intro v145 T145 lc145 X145 N145 hQ145
                obtain ⟨rfl, e145⟩ := hQ145
                show Goes _ _ _ _ _ _ (T145.setTop (mkF m 173 #[.val (.int p1), .val (.int p2), .val (.int p3), .val (.int w2), .val (.int w4), .val (.int w6), .val (.int (p1 &&& (255 : Int32))), .val (.int (p2 &&& (255 : Int32))), .val (.ref b7), .val (.ref b11), .val (.ref b15), .val (.int (((p1 &&& (255 : Int32)) + (1 : Int32)) * (512 : Int32))), .unset] []))
                exact jn138 T145 _ X145 N145 e145
            ·
              refine own_ifNo X131 hx (hb hby at_135) ((if0 _ _).trans (feq (hc135_133 : ¬ (w4 = (0 : Int32)))).1) ?_
              refine own_aload X131 hx (hb hby at_138) rfl rfl ?_
              refine own_aload X131 hx (hb hby at_140) rfl rfl ?_
              refine own_virtual X131 hx hZ hown (y := y23) (z := y23) (own_w hw 155 rfl) (own_w hw 156 rfl) (notFace_of_selects (args := #[]) (mvT hZ (own_w hw 158 rfl))) (own_w hw 158 rfl) (own_w hw 157 rfl) (own_w hw 3 rfl) (own_w hw 159 rfl) (a := b15) r131_0 (by decide) (W := 0) (by decide) (by decide) N131 rfl (by rw [hml]; rfl) (argsL := [(.ref b7)]) (rest := []) (lenOf pd_27 rfl) (Nat.le_of_eq rfl) (by decide) (by decide) (rm232s l Z a0 hw [] b15 b7 ((1 : Int64) + (1 : Int64)) b_19 b_131 (((0 : Int32) + (1 : Int32)) + (1 : Int32)) kr2_131 kk_17 b11 ((p1.toInt8.toInt32).toInt8.toInt32) ((p2.toInt8.toInt32).toInt8.toInt32) k7 k11 T131.heap n0 O132 r131_0 r131_1 r131_2 r131_3 r131_4 r131_5 r131_6 r131_7 r131_8 r131_9 r131_10 r131_11 r17_14 ge_b15 ge_b_131 ge_kr2_131 E132_b7 E132_b11 A132_b7 A132_b11 (Ne.symm ne_b7_b11) ho3 ho7) rfl (hb hby at_142) ?_
              intro v146 T146 lc146 X146 N146 hQ146
              obtain ⟨w_146, rfl, K146, r146_0, r146_1, r146_2, r146_3, r146_4, r146_5, r146_6, r146_7, r146_8, r146_9, r146_10, r146_11⟩ := hQ146
              have E147_b7 := E132_b7.keep K146
              have E147_b11 := E132_b11.keep K146
              have E147_b_19 := E132_b_19.keep K146
              have F147_keys_b_19 := F132_keys_b_19.keep K146 (ninS (Ne.symm ne_b15_b_19) (ninS ne_b_19_b_131 (ninS ne_b_19_kr2_131 nin0)))
              have F147_children_b_19 := F132_children_b_19.keep K146 (ninS (Ne.symm ne_b15_b_19) (ninS ne_b_19_b_131 (ninS ne_b_19_kr2_131 nin0)))
              have F147_size_b_19 := F132_size_b_19.keep K146 (ninS (Ne.symm ne_b15_b_19) (ninS ne_b_19_b_131 (ninS ne_b_19_kr2_131 nin0)))
              have A147_b7 := A132_b7.keep K146 (ninS ne_b7_b15 (ninS ne_b7_b_131 (ninS ne_b7_kr2_131 nin0)))
              have A147_b11 := A132_b11.keep K146 (ninS ne_b11_b15 (ninS ne_b11_b_131 (ninS ne_b11_kr2_131 nin0)))
              have A147_kr2_19 := A132_kr2_19.keep K146 (ninS (Ne.symm ne_b15_kr2_19) (ninS ne_kr2_19_b_131 (ninS ne_kr2_19_kr2_131 nin0)))
              have O147 := O132.keep K146 (allS ge_b15 (allS ge_b_131 (allS ge_kr2_131 all0)))
              refine own_pop X146 hx (hb hby at_145) rfl ?_
              refine own_aload X146 hx (hb hby at_146) rfl rfl ?_
              refine own_callS X146 hx hZ hown (y := y12) (own_w hw 82 rfl) (own_w hw 83 rfl) (own_w hw 84 rfl) (own_w hw 85 rfl) (by decide) (W := 0) (by decide) (by decide) N146 rfl (by rw [hml]; rfl) (argsL := [(.ref b15)]) (rest := []) (lenOf pd_28 rfl) (Nat.le_of_eq rfl) (by decide) (by decide) (rm121 l Z a0 hw [] b15 b_19 kr2_19 b7 kk_17 ((p1.toInt8.toInt32).toInt8.toInt32) k7 T146.heap n0 O147 r146_0 r146_2 E147_b_19 F147_keys_b_19 F147_children_b_19 F147_size_b_19 A147_kr2_19 A147_b7 E147_b7) rfl (hb hby at_148) ?_
              intro v148 T148 lc148 X148 N148 hQ148
              obtain ⟨rfl, K148⟩ := hQ148
              have E149_b11 := E147_b11.keep K148
              have E149_b15 := r146_0.keep K148
              have E149_b_131 := r146_5.keep K148
              have F149_edit_b15 := r146_1.keep K148 nin0
              have F149_root_b15 := r146_2.keep K148 nin0
              have F149_draft_b15 := r146_3.keep K148 nin0
              have F149_size_b15 := r146_4.keep K148 nin0
              have F149_keys_b_131 := r146_7.keep K148 nin0
              have F149_children_b_131 := r146_8.keep K148 nin0
              have F149_size_b_131 := r146_9.keep K148 nin0
              have A149_b11 := A147_b11.keep K148 nin0
              have A149_kr2_131 := r146_11.keep K148 nin0
              have O149 := O147.keep K148 all0
              refine own_iload X148 hx (hb hby at_151) rfl ?_
              refine own_icmpYes X148 hx (pc' := 158) (hb hby at_153) (teq ((by simp only [own_ux]) : (((((p1.toInt8.toInt32).toInt8.toInt32) &&& (255 : Int32)) + (1 : Int32)) * (512 : Int32)) = (((p1 &&& (255 : Int32)) + (1 : Int32)) * (512 : Int32)))).1 (by decide) (by decide) ?_
              refine own_aload X148 hx (hb hby at_158) rfl rfl ?_
              refine own_virtual X148 hx hZ hown (y := y30) (z := y30) (own_w hw 181 rfl) (own_w hw 182 rfl) (notFace_of_selects (args := #[]) (mvT hZ (own_w hw 184 rfl))) (own_w hw 184 rfl) (own_w hw 183 rfl) (own_w hw 3 rfl) (own_w hw 185 rfl) (a := b15) E149_b15 (by decide) (W := 0) (by decide) (by decide) N148 rfl (by rw [hml]; rfl) (argsL := []) (rest := []) (lenOf pd_19 rfl) (Nat.le_of_eq rfl) (by decide) (by decide) (rm30n l Z a0 hw [] b15 ((1 : Int64) + (1 : Int64)) b_19 b_131 ((((0 : Int32) + (1 : Int32)) + (1 : Int32)) - (1 : Int32)) T148.heap n0 O149 E149_b15 F149_edit_b15 F149_root_b15 F149_draft_b15 F149_size_b15 (Ne.symm ne_b_19_b_131) ge_b15) rfl (hb hby at_160) ?_
              intro v150 T150 lc150 X150 N150 hQ150
              obtain ⟨rfl, K150, r150_0, r150_1, r150_2, r150_3, r150_4⟩ := hQ150
              have E151_b11 := E149_b11.keep K150
              have E151_b_131 := E149_b_131.keep K150
              have F151_keys_b_131 := F149_keys_b_131.keep K150 (ninS (Ne.symm ne_b15_b_131) nin0)
              have F151_children_b_131 := F149_children_b_131.keep K150 (ninS (Ne.symm ne_b15_b_131) nin0)
              have F151_size_b_131 := F149_size_b_131.keep K150 (ninS (Ne.symm ne_b15_b_131) nin0)
              have A151_b11 := A149_b11.keep K150 (ninS ne_b11_b15 nin0)
              have A151_kr2_131 := A149_kr2_131.keep K150 (ninS (Ne.symm ne_b15_kr2_131) nin0)
              have O151 := O149.keep K150 (allS ge_b15 all0)
              show Goes _ _ _ _ _ _ (T150.setTop (mkF m 163 #[.val (.int p1), .val (.int p2), .val (.int p3), .val (.int w2), .val (.int w4), .val (.int w6), .val (.int (p1 &&& (255 : Int32))), .val (.int (p2 &&& (255 : Int32))), .val (.ref b7), .val (.ref b11), .val (.ref b15), .val (.int (((p1 &&& (255 : Int32)) + (1 : Int32)) * (512 : Int32))), .unset] []))
              have jn152 : ∀ (T152 : State) (lc152 : List Loc) (X152 : Stand p l e room_1 s m #[(.int p1), (.int p2), (.int p3)] below meth c T152 lc152 19 224) (N152 : Fr n0 lc152) (e152 : T152.heap = T150.heap), Goes p e below (fun o t L => FrameEnd s o t L (56) (576)) n0 (Q0 Z p1 p2 p3 h0 n0) (T152.setTop (mkF m 173 #[.val (.int p1), .val (.int p2), .val (.int p3), .val (.int w2), .val (.int w4), .val (.int w6), .val (.int (p1 &&& (255 : Int32))), .val (.int (p2 &&& (255 : Int32))), .val (.ref b7), .val (.ref b11), .val (.ref b15), .val (.int (((p1 &&& (255 : Int32)) + (1 : Int32)) * (512 : Int32))), .unset] [])) := by
                intro T152 lc152 X152 N152 e152
                refine own_iload X152 hx (hb hby at_173) rfl ?_
                refine own_ifNo X152 hx (hb hby at_175) ((if0 _ _).trans (feq (hc135_133 : ¬ (w4 = (0 : Int32)))).1) ?_
                refine own_iload X152 hx (hb hby at_178) rfl ?_
                refine own_iload X152 hx (hb hby at_180) rfl ?_
                refine own_icmpYes X152 hx (pc' := 189) (hb hby at_182) (feq (ho1 : ¬ ((p1 &&& (255 : Int32)) = (p2 &&& (255 : Int32))))).2 (by decide) (by decide) ?_
                refine own_iload X152 hx (hb hby at_189) rfl ?_
                refine own_callS X152 hx hZ hown (y := y31) (own_w hw 186 rfl) (own_w hw 187 rfl) (own_w hw 84 rfl) (own_w hw 188 rfl) (by decide) (W := 0) (by decide) (by decide) N152 e152 (by rw [hml]; rfl) (argsL := [(.int (p2 &&& (255 : Int32)))]) (rest := []) (lenOf pd_26 rfl) (Nat.le_of_eq rfl) (by decide) (by decide) (rm31 l Z a0 hw [] (p2 &&& (255 : Int32)) T150.heap n0 O151) rfl (hb hby at_191) ?_
                intro v153 T153 lc153 X153 N153 hQ153
                obtain ⟨rfl, e153⟩ := hQ153
                refine own_istore X153 hx (Ls' := #[.val (.int p1), .val (.int p2), .val (.int p3), .val (.int w2), .val (.int w4), .val (.int w6), .val (.int (p1 &&& (255 : Int32))), .val (.int (p2 &&& (255 : Int32))), .val (.ref b7), .val (.ref b11), .val (.ref b15), .val (.int (((p1 &&& (255 : Int32)) + (1 : Int32)) * (512 : Int32))), .val (.int (((p2 &&& (255 : Int32)) + (1 : Int32)) * (512 : Int32)))]) (hb hby at_194) rfl ?_
                refine own_goto X153 hx (pc' := 235) (hb hby at_196) (by decide) (by decide) ?_
                refine own_aload X153 hx (hb hby at_235) rfl rfl ?_
                refine own_callS X153 hx hZ hown (y := y12) (own_w hw 82 rfl) (own_w hw 83 rfl) (own_w hw 84 rfl) (own_w hw 85 rfl) (by decide) (W := 0) (by decide) (by decide) N153 e153 (by rw [hml]; rfl) (argsL := [(.ref b15)]) (rest := []) (lenOf pd_28 rfl) (Nat.le_of_eq rfl) (by decide) (by decide) (rm121 l Z a0 hw [] b15 b_131 kr2_131 b11 kk_17 ((p2.toInt8.toInt32).toInt8.toInt32) k11 T150.heap n0 O151 r150_0 r150_2 E151_b_131 F151_keys_b_131 F151_children_b_131 F151_size_b_131 A151_kr2_131 A151_b11 E151_b11) rfl (hb hby at_237) ?_
                intro v154 T154 lc154 X154 N154 hQ154
                obtain ⟨rfl, K154⟩ := hQ154
                have O155 := O151.keep K154 all0
                refine own_iload X154 hx (hb hby at_240) rfl ?_
                refine own_icmpNo X154 hx (hb hby at_242) (teq ((by simp only [own_ux]) : (((((p2.toInt8.toInt32).toInt8.toInt32) &&& (255 : Int32)) + (1 : Int32)) * (512 : Int32)) = (((p2 &&& (255 : Int32)) + (1 : Int32)) * (512 : Int32)))).2 ?_
                refine own_iconst X154 hx (v := (1 : Int32)) (hb hby at_245) rfl ?_
                refine own_goto X154 hx (pc' := 250) (hb hby at_246) (by decide) (by decide) ?_
                show Goes _ _ _ _ _ _ (T154.setTop (mkF m 250 #[.val (.int p1), .val (.int p2), .val (.int p3), .val (.int w2), .val (.int w4), .val (.int w6), .val (.int (p1 &&& (255 : Int32))), .val (.int (p2 &&& (255 : Int32))), .val (.ref b7), .val (.ref b11), .val (.ref b15), .val (.int (((p1 &&& (255 : Int32)) + (1 : Int32)) * (512 : Int32))), .val (.int (((p2 &&& (255 : Int32)) + (1 : Int32)) * (512 : Int32)))] [(.int (1 : Int32))]))
                exact own_retN X154 hx (t := .boolean) N154 hlk (by decide) (by decide) hret (by simp) (hb hby at_250) (rfl)
              show Goes _ _ _ _ _ _ (T150.setTop (mkF m 163 #[.val (.int p1), .val (.int p2), .val (.int p3), .val (.int w2), .val (.int w4), .val (.int w6), .val (.int (p1 &&& (255 : Int32))), .val (.int (p2 &&& (255 : Int32))), .val (.ref b7), .val (.ref b11), .val (.ref b15), .val (.int (((p1 &&& (255 : Int32)) + (1 : Int32)) * (512 : Int32))), .unset] []))
              refine own_iload X150 hx (hb hby at_163) rfl ?_
              by_cases hc165_156 : w6 = (0 : Int32)
              ·
                refine own_ifYes X150 hx (pc' := 173) (hb hby at_165) ((if0 _ _).trans (teq (hc165_156 : w6 = (0 : Int32))).1) (by decide) (by decide) ?_
                show Goes _ _ _ _ _ _ (T150.setTop (mkF m 173 #[.val (.int p1), .val (.int p2), .val (.int p3), .val (.int w2), .val (.int w4), .val (.int w6), .val (.int (p1 &&& (255 : Int32))), .val (.int (p2 &&& (255 : Int32))), .val (.ref b7), .val (.ref b11), .val (.ref b15), .val (.int (((p1 &&& (255 : Int32)) + (1 : Int32)) * (512 : Int32))), .unset] []))
                exact jn152 T150 _ X150 N150 rfl
              ·
                refine own_ifNo X150 hx (hb hby at_165) ((if0 _ _).trans (feq (hc165_156 : ¬ (w6 = (0 : Int32)))).1) ?_
                refine own_aload X150 hx (hb hby at_168) rfl rfl ?_
                refine own_virtual X150 hx hZ hown (y := y30) (z := y30) (own_w hw 181 rfl) (own_w hw 182 rfl) (notFace_of_selects (args := #[]) (mvT hZ (own_w hw 184 rfl))) (own_w hw 184 rfl) (own_w hw 183 rfl) (own_w hw 3 rfl) (own_w hw 185 rfl) (a := b15) r150_0 (by decide) (W := 0) (by decide) (by decide) N150 rfl (by rw [hml]; rfl) (argsL := []) (rest := []) (lenOf pd_19 rfl) (Nat.le_of_eq rfl) (by decide) (by decide) (rm30s l Z a0 hw [] b15 (((1 : Int64) + (1 : Int64)) + (1 : Int64)) b_131 ((((0 : Int32) + (1 : Int32)) + (1 : Int32)) - (1 : Int32)) T150.heap n0 O151 r150_0 r150_1 r150_2 r150_3 r150_4) rfl (hb hby at_170) ?_
                intro v157 T157 lc157 X157 N157 hQ157
                obtain ⟨rfl, e157⟩ := hQ157
                show Goes _ _ _ _ _ _ (T157.setTop (mkF m 173 #[.val (.int p1), .val (.int p2), .val (.int p3), .val (.int w2), .val (.int w4), .val (.int w6), .val (.int (p1 &&& (255 : Int32))), .val (.int (p2 &&& (255 : Int32))), .val (.ref b7), .val (.ref b11), .val (.ref b15), .val (.int (((p1 &&& (255 : Int32)) + (1 : Int32)) * (512 : Int32))), .unset] []))
                exact jn152 T157 _ X157 N157 e157
          ·
            show Goes _ _ _ _ _ _ (T105.setTop (mkF m 125 #[.val (.int p1), .val (.int p2), .val (.int p3), .val (.int w2), .val (.int w4), .val (.int w6), .val (.int (p1 &&& (255 : Int32))), .val (.int (p2 &&& (255 : Int32))), .val (.ref b7), .val (.ref b11), .val (.ref b15), .val (.int (((p1 &&& (255 : Int32)) + (1 : Int32)) * (512 : Int32))), .unset] []))
            refine own_aload X105 hx (hb hby at_125) rfl rfl ?_
            refine own_aload X105 hx (hb hby at_127) rfl rfl ?_
            refine own_virtual X105 hx hZ hown (y := y4) (z := y4) (own_w hw 31 rfl) (own_w hw 32 rfl) (notFace_of_selects (args := #[]) (mvT hZ (own_w hw 34 rfl))) (own_w hw 34 rfl) (own_w hw 33 rfl) (own_w hw 3 rfl) (own_w hw 35 rfl) (a := b15) E106_b15 (by decide) (W := 0) (by decide) (by decide) N105 rfl (by rw [hml]; rfl) (argsL := [(.ref b11)]) (rest := []) (lenOf pd_27 rfl) (Nat.le_of_eq rfl) (by decide) (by decide) (rm4Bg l Z a0 hw [] b15 b11 ((1 : Int64) + (1 : Int64)) b_19 ((0 : Int32) + (1 : Int32)) (1 : Int64) kr2_19 kk_17 b7 ((p1.toInt8.toInt32).toInt8.toInt32) ((p2.toInt8.toInt32).toInt8.toInt32) k7 k11 T105.heap n0 O106 E106_b15 F106_edit_b15 F106_root_b15 F106_draft_b15 F106_size_b15 E106_b_19 F106_edit_b_19 F106_keys_b_19 F106_children_b_19 F106_size_b_19 E106_kr2_19 A106_kr2_19 r17_14 ge_b15 (by first | assumption | decide | exact ⟨rfl, rfl⟩) E106_b11 E106_b7 A106_b7 A106_b11 ne_b7_b11 ho2 ho6) rfl (hb hby at_129) ?_
            intro v158 T158 lc158 X158 N158 hQ158
            obtain ⟨w_158, b_158, kr2_158, rfl, K158, r158_0, r158_1, r158_2, r158_3, r158_4, r158_5, r158_6, r158_7, r158_8, r158_9, r158_10, r158_11, r158_12, r158_13⟩ := hQ158
            have E159_b7 := E106_b7.keep K158
            have E159_b11 := E106_b11.keep K158
            have E159_b_19 := E106_b_19.keep K158
            have F159_keys_b_19 := F106_keys_b_19.keep K158 (ninS (Ne.symm ne_b15_b_19) nin0)
            have F159_children_b_19 := F106_children_b_19.keep K158 (ninS (Ne.symm ne_b15_b_19) nin0)
            have F159_size_b_19 := F106_size_b_19.keep K158 (ninS (Ne.symm ne_b15_b_19) nin0)
            have A159_b7 := A106_b7.keep K158 (ninS ne_b7_b15 nin0)
            have A159_b11 := A106_b11.keep K158 (ninS ne_b11_b15 nin0)
            have A159_kr2_19 := A106_kr2_19.keep K158 (ninS (Ne.symm ne_b15_kr2_19) nin0)
            have O159 := O106.keep K158 (allS ge_b15 all0)
            have ne_b_19_b_158 : b_19 ≠ b_158 := Nat.ne_of_lt (Nat.lt_of_lt_of_le E106_b_19.lt r158_12)
            have ne_kr2_19_b_158 : kr2_19 ≠ b_158 := Nat.ne_of_lt (Nat.lt_of_lt_of_le E106_kr2_19.lt r158_12)
            have ne_b15_b_158 : b15 ≠ b_158 := Nat.ne_of_lt (Nat.lt_of_lt_of_le E106_b15.lt r158_12)
            have ne_b11_b_158 : b11 ≠ b_158 := Nat.ne_of_lt (Nat.lt_of_lt_of_le E106_b11.lt r158_12)
            have ne_b7_b_158 : b7 ≠ b_158 := Nat.ne_of_lt (Nat.lt_of_lt_of_le E106_b7.lt r158_12)
            have ge_b_158 : n0 ≤ b_158 := Nat.le_trans (own_sz O106) r158_12
            have ne_b_19_kr2_158 : b_19 ≠ kr2_158 := Nat.ne_of_lt (Nat.lt_of_lt_of_le E106_b_19.lt r158_13)
            have ne_kr2_19_kr2_158 : kr2_19 ≠ kr2_158 := Nat.ne_of_lt (Nat.lt_of_lt_of_le E106_kr2_19.lt r158_13)
            have ne_b15_kr2_158 : b15 ≠ kr2_158 := Nat.ne_of_lt (Nat.lt_of_lt_of_le E106_b15.lt r158_13)
            have ne_b11_kr2_158 : b11 ≠ kr2_158 := Nat.ne_of_lt (Nat.lt_of_lt_of_le E106_b11.lt r158_13)
            have ne_b7_kr2_158 : b7 ≠ kr2_158 := Nat.ne_of_lt (Nat.lt_of_lt_of_le E106_b7.lt r158_13)
            have ge_kr2_158 : n0 ≤ kr2_158 := Nat.le_trans (own_sz O106) r158_13
            refine own_pop X158 hx (hb hby at_132) rfl ?_
            refine own_iload X158 hx (hb hby at_133) rfl ?_
            by_cases hc135_160 : w4 = (0 : Int32)
            ·
              refine own_ifYes X158 hx (pc' := 146) (hb hby at_135) ((if0 _ _).trans (teq (hc135_160 : w4 = (0 : Int32))).1) (by decide) (by decide) ?_
              refine own_aload X158 hx (hb hby at_146) rfl rfl ?_
              refine own_callS X158 hx hZ hown (y := y12) (own_w hw 82 rfl) (own_w hw 83 rfl) (own_w hw 84 rfl) (own_w hw 85 rfl) (by decide) (W := 0) (by decide) (by decide) N158 rfl (by rw [hml]; rfl) (argsL := [(.ref b15)]) (rest := []) (lenOf pd_28 rfl) (Nat.le_of_eq rfl) (by decide) (by decide) (rm121 l Z a0 hw [] b15 b_19 kr2_19 b7 kk_17 ((p1.toInt8.toInt32).toInt8.toInt32) k7 T158.heap n0 O159 r158_0 r158_2 E159_b_19 F159_keys_b_19 F159_children_b_19 F159_size_b_19 A159_kr2_19 A159_b7 E159_b7) rfl (hb hby at_148) ?_
              intro v161 T161 lc161 X161 N161 hQ161
              obtain ⟨rfl, K161⟩ := hQ161
              have E162_b7 := E159_b7.keep K161
              have E162_b11 := E159_b11.keep K161
              have E162_b15 := r158_0.keep K161
              have E162_b_158 := r158_5.keep K161
              have F162_edit_b15 := r158_1.keep K161 nin0
              have F162_root_b15 := r158_2.keep K161 nin0
              have F162_draft_b15 := r158_3.keep K161 nin0
              have F162_size_b15 := r158_4.keep K161 nin0
              have F162_keys_b_158 := r158_7.keep K161 nin0
              have F162_children_b_158 := r158_8.keep K161 nin0
              have F162_size_b_158 := r158_9.keep K161 nin0
              have A162_b7 := A159_b7.keep K161 nin0
              have A162_b11 := A159_b11.keep K161 nin0
              have A162_kr2_158 := r158_11.keep K161 nin0
              have O162 := O159.keep K161 all0
              refine own_iload X161 hx (hb hby at_151) rfl ?_
              refine own_icmpYes X161 hx (pc' := 158) (hb hby at_153) (teq ((by simp only [own_ux]) : (((((p1.toInt8.toInt32).toInt8.toInt32) &&& (255 : Int32)) + (1 : Int32)) * (512 : Int32)) = (((p1 &&& (255 : Int32)) + (1 : Int32)) * (512 : Int32)))).1 (by decide) (by decide) ?_
              refine own_aload X161 hx (hb hby at_158) rfl rfl ?_
              refine own_virtual X161 hx hZ hown (y := y30) (z := y30) (own_w hw 181 rfl) (own_w hw 182 rfl) (notFace_of_selects (args := #[]) (mvT hZ (own_w hw 184 rfl))) (own_w hw 184 rfl) (own_w hw 183 rfl) (own_w hw 3 rfl) (own_w hw 185 rfl) (a := b15) E162_b15 (by decide) (W := 0) (by decide) (by decide) N161 rfl (by rw [hml]; rfl) (argsL := []) (rest := []) (lenOf pd_19 rfl) (Nat.le_of_eq rfl) (by decide) (by decide) (rm30n l Z a0 hw [] b15 ((1 : Int64) + (1 : Int64)) b_19 b_158 (((0 : Int32) + (1 : Int32)) + (1 : Int32)) T161.heap n0 O162 E162_b15 F162_edit_b15 F162_root_b15 F162_draft_b15 F162_size_b15 (Ne.symm ne_b_19_b_158) ge_b15) rfl (hb hby at_160) ?_
              intro v163 T163 lc163 X163 N163 hQ163
              obtain ⟨rfl, K163, r163_0, r163_1, r163_2, r163_3, r163_4⟩ := hQ163
              have E164_b7 := E162_b7.keep K163
              have E164_b11 := E162_b11.keep K163
              have E164_b_158 := E162_b_158.keep K163
              have F164_keys_b_158 := F162_keys_b_158.keep K163 (ninS (Ne.symm ne_b15_b_158) nin0)
              have F164_children_b_158 := F162_children_b_158.keep K163 (ninS (Ne.symm ne_b15_b_158) nin0)
              have F164_size_b_158 := F162_size_b_158.keep K163 (ninS (Ne.symm ne_b15_b_158) nin0)
              have A164_b7 := A162_b7.keep K163 (ninS ne_b7_b15 nin0)
              have A164_b11 := A162_b11.keep K163 (ninS ne_b11_b15 nin0)
              have A164_kr2_158 := A162_kr2_158.keep K163 (ninS (Ne.symm ne_b15_kr2_158) nin0)
              have O164 := O162.keep K163 (allS ge_b15 all0)
              show Goes _ _ _ _ _ _ (T163.setTop (mkF m 163 #[.val (.int p1), .val (.int p2), .val (.int p3), .val (.int w2), .val (.int w4), .val (.int w6), .val (.int (p1 &&& (255 : Int32))), .val (.int (p2 &&& (255 : Int32))), .val (.ref b7), .val (.ref b11), .val (.ref b15), .val (.int (((p1 &&& (255 : Int32)) + (1 : Int32)) * (512 : Int32))), .unset] []))
              have jn165 : ∀ (T165 : State) (lc165 : List Loc) (X165 : Stand p l e room_1 s m #[(.int p1), (.int p2), (.int p3)] below meth c T165 lc165 19 224) (N165 : Fr n0 lc165) (e165 : T165.heap = T163.heap), Goes p e below (fun o t L => FrameEnd s o t L (56) (576)) n0 (Q0 Z p1 p2 p3 h0 n0) (T165.setTop (mkF m 173 #[.val (.int p1), .val (.int p2), .val (.int p3), .val (.int w2), .val (.int w4), .val (.int w6), .val (.int (p1 &&& (255 : Int32))), .val (.int (p2 &&& (255 : Int32))), .val (.ref b7), .val (.ref b11), .val (.ref b15), .val (.int (((p1 &&& (255 : Int32)) + (1 : Int32)) * (512 : Int32))), .unset] [])) := by
                intro T165 lc165 X165 N165 e165
                refine own_iload X165 hx (hb hby at_173) rfl ?_
                refine own_ifYes X165 hx (pc' := 199) (hb hby at_175) ((if0 _ _).trans (teq (hc135_160 : w4 = (0 : Int32))).1) (by decide) (by decide) ?_
                refine own_iload X165 hx (hb hby at_199) rfl ?_
                refine own_iload X165 hx (hb hby at_201) rfl ?_
                refine own_icmpYes X165 hx (pc' := 216) (hb hby at_203) (feq (ho1 : ¬ ((p1 &&& (255 : Int32)) = (p2 &&& (255 : Int32))))).2 (by decide) (by decide) ?_
                refine own_iload X165 hx (hb hby at_216) rfl ?_
                refine own_iload X165 hx (hb hby at_218) rfl ?_
                refine own_callS X165 hx hZ hown (y := y19) (own_w hw 207 rfl) (own_w hw 141 rfl) (own_w hw 142 rfl) (own_w hw 143 rfl) (by decide) (W := 0) (by decide) (by decide) N165 e165 (by rw [hml]; rfl) (argsL := [(.int (p1 &&& (255 : Int32))), (.int (p2 &&& (255 : Int32)))]) (rest := []) (lenOf pd_1 rfl) (Nat.le_of_eq rfl) (by decide) (by decide) (rm19g l Z a0 hw [] (p1 &&& (255 : Int32)) (p2 &&& (255 : Int32)) T163.heap n0 O164 ho4) rfl (hb hby at_220) ?_
                intro v166 T166 lc166 X166 N166 hQ166
                obtain ⟨rfl, e166⟩ := hQ166
                refine own_iload X166 hx (hb hby at_223) rfl ?_
                refine own_iload X166 hx (hb hby at_225) rfl ?_
                refine own_callS X166 hx hZ hown (y := y35) (own_w hw 208 rfl) (own_w hw 209 rfl) (own_w hw 142 rfl) (own_w hw 210 rfl) (by decide) (W := 1) (by decide) (by decide) N166 e166 (by rw [hml]; rfl) (argsL := [(.int (p1 &&& (255 : Int32))), (.int (p2 &&& (255 : Int32)))]) (rest := [(.int (p2 &&& (255 : Int32)))]) (lenOf pd_1 rfl) (Nat.le_of_eq rfl) (by decide) (by decide) (rm35g l Z a0 hw [] (p1 &&& (255 : Int32)) (p2 &&& (255 : Int32)) T163.heap n0 O164 ho5) rfl (hb hby at_227) ?_
                intro v167 T167 lc167 X167 N167 hQ167
                obtain ⟨rfl, e167⟩ := hQ167
                refine own_callS X167 hx hZ hown (y := y36) (own_w hw 211 rfl) (own_w hw 212 rfl) (own_w hw 84 rfl) (own_w hw 213 rfl) (by decide) (W := 0) (by decide) (by decide) N167 e167 (by rw [hml]; rfl) (argsL := [(.int (p2 &&& (255 : Int32))), (.int (p1 &&& (255 : Int32)))]) (rest := []) (lenOf pd_1 rfl) (Nat.le_of_eq rfl) (by decide) (by decide) (rm36 l Z a0 hw [] (p2 &&& (255 : Int32)) (p1 &&& (255 : Int32)) T163.heap n0 O164) rfl (hb hby at_230) ?_
                intro v168 T168 lc168 X168 N168 hQ168
                obtain ⟨rfl, e168⟩ := hQ168
                refine own_istore X168 hx (Ls' := #[.val (.int p1), .val (.int p2), .val (.int p3), .val (.int w2), .val (.int w4), .val (.int w6), .val (.int (p1 &&& (255 : Int32))), .val (.int (p2 &&& (255 : Int32))), .val (.ref b7), .val (.ref b11), .val (.ref b15), .val (.int (((p1 &&& (255 : Int32)) + (1 : Int32)) * (512 : Int32))), .val (.int ((((p2 &&& (255 : Int32)) + (1 : Int32)) * (512 : Int32)) + ((p1 &&& (255 : Int32)) + (1 : Int32))))]) (hb hby at_233) rfl ?_
                refine own_aload X168 hx (hb hby at_235) rfl rfl ?_
                refine own_callS X168 hx hZ hown (y := y12) (own_w hw 82 rfl) (own_w hw 83 rfl) (own_w hw 84 rfl) (own_w hw 85 rfl) (by decide) (W := 0) (by decide) (by decide) N168 e168 (by rw [hml]; rfl) (argsL := [(.ref b15)]) (rest := []) (lenOf pd_28 rfl) (Nat.le_of_eq rfl) (by decide) (by decide) (rm122 l Z a0 hw [] b15 b_158 kr2_158 b11 b7 kk_17 ((p2.toInt8.toInt32).toInt8.toInt32) ((p1.toInt8.toInt32).toInt8.toInt32) k11 k7 T163.heap n0 O164 r163_0 r163_2 E164_b_158 F164_keys_b_158 F164_children_b_158 F164_size_b_158 A164_kr2_158 A164_b11 A164_b7 E164_b11 E164_b7) rfl (hb hby at_237) ?_
                intro v169 T169 lc169 X169 N169 hQ169
                obtain ⟨rfl, K169⟩ := hQ169
                have O170 := O164.keep K169 all0
                refine own_iload X169 hx (hb hby at_240) rfl ?_
                refine own_icmpNo X169 hx (hb hby at_242) (teq ((by simp only [own_ux]) : ((((((p2.toInt8.toInt32).toInt8.toInt32) &&& (255 : Int32)) + (1 : Int32)) * (512 : Int32)) + ((((p1.toInt8.toInt32).toInt8.toInt32) &&& (255 : Int32)) + (1 : Int32))) = ((((p2 &&& (255 : Int32)) + (1 : Int32)) * (512 : Int32)) + ((p1 &&& (255 : Int32)) + (1 : Int32))))).2 ?_
                refine own_iconst X169 hx (v := (1 : Int32)) (hb hby at_245) rfl ?_
                refine own_goto X169 hx (pc' := 250) (hb hby at_246) (by decide) (by decide) ?_
                show Goes _ _ _ _ _ _ (T169.setTop (mkF m 250 #[.val (.int p1), .val (.int p2), .val (.int p3), .val (.int w2), .val (.int w4), .val (.int w6), .val (.int (p1 &&& (255 : Int32))), .val (.int (p2 &&& (255 : Int32))), .val (.ref b7), .val (.ref b11), .val (.ref b15), .val (.int (((p1 &&& (255 : Int32)) + (1 : Int32)) * (512 : Int32))), .val (.int ((((p2 &&& (255 : Int32)) + (1 : Int32)) * (512 : Int32)) + ((p1 &&& (255 : Int32)) + (1 : Int32))))] [(.int (1 : Int32))]))
                exact own_retN X169 hx (t := .boolean) N169 hlk (by decide) (by decide) hret (by simp) (hb hby at_250) (rfl)
              show Goes _ _ _ _ _ _ (T163.setTop (mkF m 163 #[.val (.int p1), .val (.int p2), .val (.int p3), .val (.int w2), .val (.int w4), .val (.int w6), .val (.int (p1 &&& (255 : Int32))), .val (.int (p2 &&& (255 : Int32))), .val (.ref b7), .val (.ref b11), .val (.ref b15), .val (.int (((p1 &&& (255 : Int32)) + (1 : Int32)) * (512 : Int32))), .unset] []))
              refine own_iload X163 hx (hb hby at_163) rfl ?_
              by_cases hc165_171 : w6 = (0 : Int32)
              ·
                refine own_ifYes X163 hx (pc' := 173) (hb hby at_165) ((if0 _ _).trans (teq (hc165_171 : w6 = (0 : Int32))).1) (by decide) (by decide) ?_
                show Goes _ _ _ _ _ _ (T163.setTop (mkF m 173 #[.val (.int p1), .val (.int p2), .val (.int p3), .val (.int w2), .val (.int w4), .val (.int w6), .val (.int (p1 &&& (255 : Int32))), .val (.int (p2 &&& (255 : Int32))), .val (.ref b7), .val (.ref b11), .val (.ref b15), .val (.int (((p1 &&& (255 : Int32)) + (1 : Int32)) * (512 : Int32))), .unset] []))
                exact jn165 T163 _ X163 N163 rfl
              ·
                refine own_ifNo X163 hx (hb hby at_165) ((if0 _ _).trans (feq (hc165_171 : ¬ (w6 = (0 : Int32)))).1) ?_
                refine own_aload X163 hx (hb hby at_168) rfl rfl ?_
                refine own_virtual X163 hx hZ hown (y := y30) (z := y30) (own_w hw 181 rfl) (own_w hw 182 rfl) (notFace_of_selects (args := #[]) (mvT hZ (own_w hw 184 rfl))) (own_w hw 184 rfl) (own_w hw 183 rfl) (own_w hw 3 rfl) (own_w hw 185 rfl) (a := b15) r163_0 (by decide) (W := 0) (by decide) (by decide) N163 rfl (by rw [hml]; rfl) (argsL := []) (rest := []) (lenOf pd_19 rfl) (Nat.le_of_eq rfl) (by decide) (by decide) (rm30s l Z a0 hw [] b15 (((1 : Int64) + (1 : Int64)) + (1 : Int64)) b_158 (((0 : Int32) + (1 : Int32)) + (1 : Int32)) T163.heap n0 O164 r163_0 r163_1 r163_2 r163_3 r163_4) rfl (hb hby at_170) ?_
                intro v172 T172 lc172 X172 N172 hQ172
                obtain ⟨rfl, e172⟩ := hQ172
                show Goes _ _ _ _ _ _ (T172.setTop (mkF m 173 #[.val (.int p1), .val (.int p2), .val (.int p3), .val (.int w2), .val (.int w4), .val (.int w6), .val (.int (p1 &&& (255 : Int32))), .val (.int (p2 &&& (255 : Int32))), .val (.ref b7), .val (.ref b11), .val (.ref b15), .val (.int (((p1 &&& (255 : Int32)) + (1 : Int32)) * (512 : Int32))), .unset] []))
                exact jn165 T172 _ X172 N172 e172
            ·
              refine own_ifNo X158 hx (hb hby at_135) ((if0 _ _).trans (feq (hc135_160 : ¬ (w4 = (0 : Int32)))).1) ?_
              refine own_aload X158 hx (hb hby at_138) rfl rfl ?_
              refine own_aload X158 hx (hb hby at_140) rfl rfl ?_
              refine own_virtual X158 hx hZ hown (y := y23) (z := y23) (own_w hw 155 rfl) (own_w hw 156 rfl) (notFace_of_selects (args := #[]) (mvT hZ (own_w hw 158 rfl))) (own_w hw 158 rfl) (own_w hw 157 rfl) (own_w hw 3 rfl) (own_w hw 159 rfl) (a := b15) r158_0 (by decide) (W := 0) (by decide) (by decide) N158 rfl (by rw [hml]; rfl) (argsL := [(.ref b7)]) (rest := []) (lenOf pd_27 rfl) (Nat.le_of_eq rfl) (by decide) (by decide) (rm232t l Z a0 hw [] b15 b7 ((1 : Int64) + (1 : Int64)) b_19 b_158 (((0 : Int32) + (1 : Int32)) + (1 : Int32)) kr2_158 kk_17 b11 ((p1.toInt8.toInt32).toInt8.toInt32) ((p2.toInt8.toInt32).toInt8.toInt32) k7 k11 T158.heap n0 O159 r158_0 r158_1 r158_2 r158_3 r158_4 r158_5 r158_6 r158_7 r158_8 r158_9 r158_10 r158_11 r17_14 ge_b15 ge_b_158 ge_kr2_158 E159_b7 E159_b11 A159_b7 A159_b11 (Ne.symm ne_b7_b11) ho3 ho7) rfl (hb hby at_142) ?_
              intro v173 T173 lc173 X173 N173 hQ173
              obtain ⟨w_173, rfl, K173, r173_0, r173_1, r173_2, r173_3, r173_4, r173_5, r173_6, r173_7, r173_8, r173_9, r173_10, r173_11⟩ := hQ173
              have E174_b7 := E159_b7.keep K173
              have E174_b11 := E159_b11.keep K173
              have E174_b_19 := E159_b_19.keep K173
              have F174_keys_b_19 := F159_keys_b_19.keep K173 (ninS (Ne.symm ne_b15_b_19) (ninS ne_b_19_b_158 (ninS ne_b_19_kr2_158 nin0)))
              have F174_children_b_19 := F159_children_b_19.keep K173 (ninS (Ne.symm ne_b15_b_19) (ninS ne_b_19_b_158 (ninS ne_b_19_kr2_158 nin0)))
              have F174_size_b_19 := F159_size_b_19.keep K173 (ninS (Ne.symm ne_b15_b_19) (ninS ne_b_19_b_158 (ninS ne_b_19_kr2_158 nin0)))
              have A174_b7 := A159_b7.keep K173 (ninS ne_b7_b15 (ninS ne_b7_b_158 (ninS ne_b7_kr2_158 nin0)))
              have A174_b11 := A159_b11.keep K173 (ninS ne_b11_b15 (ninS ne_b11_b_158 (ninS ne_b11_kr2_158 nin0)))
              have A174_kr2_19 := A159_kr2_19.keep K173 (ninS (Ne.symm ne_b15_kr2_19) (ninS ne_kr2_19_b_158 (ninS ne_kr2_19_kr2_158 nin0)))
              have O174 := O159.keep K173 (allS ge_b15 (allS ge_b_158 (allS ge_kr2_158 all0)))
              refine own_pop X173 hx (hb hby at_145) rfl ?_
              refine own_aload X173 hx (hb hby at_146) rfl rfl ?_
              refine own_callS X173 hx hZ hown (y := y12) (own_w hw 82 rfl) (own_w hw 83 rfl) (own_w hw 84 rfl) (own_w hw 85 rfl) (by decide) (W := 0) (by decide) (by decide) N173 rfl (by rw [hml]; rfl) (argsL := [(.ref b15)]) (rest := []) (lenOf pd_28 rfl) (Nat.le_of_eq rfl) (by decide) (by decide) (rm121 l Z a0 hw [] b15 b_19 kr2_19 b7 kk_17 ((p1.toInt8.toInt32).toInt8.toInt32) k7 T173.heap n0 O174 r173_0 r173_2 E174_b_19 F174_keys_b_19 F174_children_b_19 F174_size_b_19 A174_kr2_19 A174_b7 E174_b7) rfl (hb hby at_148) ?_
              intro v175 T175 lc175 X175 N175 hQ175
              obtain ⟨rfl, K175⟩ := hQ175
              have E176_b11 := E174_b11.keep K175
              have E176_b15 := r173_0.keep K175
              have E176_b_158 := r173_5.keep K175
              have F176_edit_b15 := r173_1.keep K175 nin0
              have F176_root_b15 := r173_2.keep K175 nin0
              have F176_draft_b15 := r173_3.keep K175 nin0
              have F176_size_b15 := r173_4.keep K175 nin0
              have F176_keys_b_158 := r173_7.keep K175 nin0
              have F176_children_b_158 := r173_8.keep K175 nin0
              have F176_size_b_158 := r173_9.keep K175 nin0
              have A176_b11 := A174_b11.keep K175 nin0
              have A176_kr2_158 := r173_11.keep K175 nin0
              have O176 := O174.keep K175 all0
              refine own_iload X175 hx (hb hby at_151) rfl ?_
              refine own_icmpYes X175 hx (pc' := 158) (hb hby at_153) (teq ((by simp only [own_ux]) : (((((p1.toInt8.toInt32).toInt8.toInt32) &&& (255 : Int32)) + (1 : Int32)) * (512 : Int32)) = (((p1 &&& (255 : Int32)) + (1 : Int32)) * (512 : Int32)))).1 (by decide) (by decide) ?_
              refine own_aload X175 hx (hb hby at_158) rfl rfl ?_
              refine own_virtual X175 hx hZ hown (y := y30) (z := y30) (own_w hw 181 rfl) (own_w hw 182 rfl) (notFace_of_selects (args := #[]) (mvT hZ (own_w hw 184 rfl))) (own_w hw 184 rfl) (own_w hw 183 rfl) (own_w hw 3 rfl) (own_w hw 185 rfl) (a := b15) E176_b15 (by decide) (W := 0) (by decide) (by decide) N175 rfl (by rw [hml]; rfl) (argsL := []) (rest := []) (lenOf pd_19 rfl) (Nat.le_of_eq rfl) (by decide) (by decide) (rm30n l Z a0 hw [] b15 ((1 : Int64) + (1 : Int64)) b_19 b_158 ((((0 : Int32) + (1 : Int32)) + (1 : Int32)) - (1 : Int32)) T175.heap n0 O176 E176_b15 F176_edit_b15 F176_root_b15 F176_draft_b15 F176_size_b15 (Ne.symm ne_b_19_b_158) ge_b15) rfl (hb hby at_160) ?_
              intro v177 T177 lc177 X177 N177 hQ177
              obtain ⟨rfl, K177, r177_0, r177_1, r177_2, r177_3, r177_4⟩ := hQ177
              have E178_b11 := E176_b11.keep K177
              have E178_b_158 := E176_b_158.keep K177
              have F178_keys_b_158 := F176_keys_b_158.keep K177 (ninS (Ne.symm ne_b15_b_158) nin0)
              have F178_children_b_158 := F176_children_b_158.keep K177 (ninS (Ne.symm ne_b15_b_158) nin0)
              have F178_size_b_158 := F176_size_b_158.keep K177 (ninS (Ne.symm ne_b15_b_158) nin0)
              have A178_b11 := A176_b11.keep K177 (ninS ne_b11_b15 nin0)
              have A178_kr2_158 := A176_kr2_158.keep K177 (ninS (Ne.symm ne_b15_kr2_158) nin0)
              have O178 := O176.keep K177 (allS ge_b15 all0)
              show Goes _ _ _ _ _ _ (T177.setTop (mkF m 163 #[.val (.int p1), .val (.int p2), .val (.int p3), .val (.int w2), .val (.int w4), .val (.int w6), .val (.int (p1 &&& (255 : Int32))), .val (.int (p2 &&& (255 : Int32))), .val (.ref b7), .val (.ref b11), .val (.ref b15), .val (.int (((p1 &&& (255 : Int32)) + (1 : Int32)) * (512 : Int32))), .unset] []))
              have jn179 : ∀ (T179 : State) (lc179 : List Loc) (X179 : Stand p l e room_1 s m #[(.int p1), (.int p2), (.int p3)] below meth c T179 lc179 19 224) (N179 : Fr n0 lc179) (e179 : T179.heap = T177.heap), Goes p e below (fun o t L => FrameEnd s o t L (56) (576)) n0 (Q0 Z p1 p2 p3 h0 n0) (T179.setTop (mkF m 173 #[.val (.int p1), .val (.int p2), .val (.int p3), .val (.int w2), .val (.int w4), .val (.int w6), .val (.int (p1 &&& (255 : Int32))), .val (.int (p2 &&& (255 : Int32))), .val (.ref b7), .val (.ref b11), .val (.ref b15), .val (.int (((p1 &&& (255 : Int32)) + (1 : Int32)) * (512 : Int32))), .unset] [])) := by
                intro T179 lc179 X179 N179 e179
                refine own_iload X179 hx (hb hby at_173) rfl ?_
                refine own_ifNo X179 hx (hb hby at_175) ((if0 _ _).trans (feq (hc135_160 : ¬ (w4 = (0 : Int32)))).1) ?_
                refine own_iload X179 hx (hb hby at_178) rfl ?_
                refine own_iload X179 hx (hb hby at_180) rfl ?_
                refine own_icmpYes X179 hx (pc' := 189) (hb hby at_182) (feq (ho1 : ¬ ((p1 &&& (255 : Int32)) = (p2 &&& (255 : Int32))))).2 (by decide) (by decide) ?_
                refine own_iload X179 hx (hb hby at_189) rfl ?_
                refine own_callS X179 hx hZ hown (y := y31) (own_w hw 186 rfl) (own_w hw 187 rfl) (own_w hw 84 rfl) (own_w hw 188 rfl) (by decide) (W := 0) (by decide) (by decide) N179 e179 (by rw [hml]; rfl) (argsL := [(.int (p2 &&& (255 : Int32)))]) (rest := []) (lenOf pd_26 rfl) (Nat.le_of_eq rfl) (by decide) (by decide) (rm31 l Z a0 hw [] (p2 &&& (255 : Int32)) T177.heap n0 O178) rfl (hb hby at_191) ?_
                intro v180 T180 lc180 X180 N180 hQ180
                obtain ⟨rfl, e180⟩ := hQ180
                refine own_istore X180 hx (Ls' := #[.val (.int p1), .val (.int p2), .val (.int p3), .val (.int w2), .val (.int w4), .val (.int w6), .val (.int (p1 &&& (255 : Int32))), .val (.int (p2 &&& (255 : Int32))), .val (.ref b7), .val (.ref b11), .val (.ref b15), .val (.int (((p1 &&& (255 : Int32)) + (1 : Int32)) * (512 : Int32))), .val (.int (((p2 &&& (255 : Int32)) + (1 : Int32)) * (512 : Int32)))]) (hb hby at_194) rfl ?_
                refine own_goto X180 hx (pc' := 235) (hb hby at_196) (by decide) (by decide) ?_
                refine own_aload X180 hx (hb hby at_235) rfl rfl ?_
                refine own_callS X180 hx hZ hown (y := y12) (own_w hw 82 rfl) (own_w hw 83 rfl) (own_w hw 84 rfl) (own_w hw 85 rfl) (by decide) (W := 0) (by decide) (by decide) N180 e180 (by rw [hml]; rfl) (argsL := [(.ref b15)]) (rest := []) (lenOf pd_28 rfl) (Nat.le_of_eq rfl) (by decide) (by decide) (rm121 l Z a0 hw [] b15 b_158 kr2_158 b11 kk_17 ((p2.toInt8.toInt32).toInt8.toInt32) k11 T177.heap n0 O178 r177_0 r177_2 E178_b_158 F178_keys_b_158 F178_children_b_158 F178_size_b_158 A178_kr2_158 A178_b11 E178_b11) rfl (hb hby at_237) ?_
                intro v181 T181 lc181 X181 N181 hQ181
                obtain ⟨rfl, K181⟩ := hQ181
                have O182 := O178.keep K181 all0
                refine own_iload X181 hx (hb hby at_240) rfl ?_
                refine own_icmpNo X181 hx (hb hby at_242) (teq ((by simp only [own_ux]) : (((((p2.toInt8.toInt32).toInt8.toInt32) &&& (255 : Int32)) + (1 : Int32)) * (512 : Int32)) = (((p2 &&& (255 : Int32)) + (1 : Int32)) * (512 : Int32)))).2 ?_
                refine own_iconst X181 hx (v := (1 : Int32)) (hb hby at_245) rfl ?_
                refine own_goto X181 hx (pc' := 250) (hb hby at_246) (by decide) (by decide) ?_
                show Goes _ _ _ _ _ _ (T181.setTop (mkF m 250 #[.val (.int p1), .val (.int p2), .val (.int p3), .val (.int w2), .val (.int w4), .val (.int w6), .val (.int (p1 &&& (255 : Int32))), .val (.int (p2 &&& (255 : Int32))), .val (.ref b7), .val (.ref b11), .val (.ref b15), .val (.int (((p1 &&& (255 : Int32)) + (1 : Int32)) * (512 : Int32))), .val (.int (((p2 &&& (255 : Int32)) + (1 : Int32)) * (512 : Int32)))] [(.int (1 : Int32))]))
                exact own_retN X181 hx (t := .boolean) N181 hlk (by decide) (by decide) hret (by simp) (hb hby at_250) (rfl)
              show Goes _ _ _ _ _ _ (T177.setTop (mkF m 163 #[.val (.int p1), .val (.int p2), .val (.int p3), .val (.int w2), .val (.int w4), .val (.int w6), .val (.int (p1 &&& (255 : Int32))), .val (.int (p2 &&& (255 : Int32))), .val (.ref b7), .val (.ref b11), .val (.ref b15), .val (.int (((p1 &&& (255 : Int32)) + (1 : Int32)) * (512 : Int32))), .unset] []))
              refine own_iload X177 hx (hb hby at_163) rfl ?_
              by_cases hc165_183 : w6 = (0 : Int32)
              ·
                refine own_ifYes X177 hx (pc' := 173) (hb hby at_165) ((if0 _ _).trans (teq (hc165_183 : w6 = (0 : Int32))).1) (by decide) (by decide) ?_
                show Goes _ _ _ _ _ _ (T177.setTop (mkF m 173 #[.val (.int p1), .val (.int p2), .val (.int p3), .val (.int w2), .val (.int w4), .val (.int w6), .val (.int (p1 &&& (255 : Int32))), .val (.int (p2 &&& (255 : Int32))), .val (.ref b7), .val (.ref b11), .val (.ref b15), .val (.int (((p1 &&& (255 : Int32)) + (1 : Int32)) * (512 : Int32))), .unset] []))
                exact jn179 T177 _ X177 N177 rfl
              ·
                refine own_ifNo X177 hx (hb hby at_165) ((if0 _ _).trans (feq (hc165_183 : ¬ (w6 = (0 : Int32)))).1) ?_
                refine own_aload X177 hx (hb hby at_168) rfl rfl ?_
                refine own_virtual X177 hx hZ hown (y := y30) (z := y30) (own_w hw 181 rfl) (own_w hw 182 rfl) (notFace_of_selects (args := #[]) (mvT hZ (own_w hw 184 rfl))) (own_w hw 184 rfl) (own_w hw 183 rfl) (own_w hw 3 rfl) (own_w hw 185 rfl) (a := b15) r177_0 (by decide) (W := 0) (by decide) (by decide) N177 rfl (by rw [hml]; rfl) (argsL := []) (rest := []) (lenOf pd_19 rfl) (Nat.le_of_eq rfl) (by decide) (by decide) (rm30s l Z a0 hw [] b15 (((1 : Int64) + (1 : Int64)) + (1 : Int64)) b_158 ((((0 : Int32) + (1 : Int32)) + (1 : Int32)) - (1 : Int32)) T177.heap n0 O178 r177_0 r177_1 r177_2 r177_3 r177_4) rfl (hb hby at_170) ?_
                intro v184 T184 lc184 X184 N184 hQ184
                obtain ⟨rfl, e184⟩ := hQ184
                show Goes _ _ _ _ _ _ (T184.setTop (mkF m 173 #[.val (.int p1), .val (.int p2), .val (.int p3), .val (.int w2), .val (.int w4), .val (.int w6), .val (.int (p1 &&& (255 : Int32))), .val (.int (p2 &&& (255 : Int32))), .val (.ref b7), .val (.ref b11), .val (.ref b15), .val (.int (((p1 &&& (255 : Int32)) + (1 : Int32)) * (512 : Int32))), .unset] []))
                exact jn179 T184 _ X184 N184 e184
      by_cases hc28_5 : (p3 &&& (4 : Int32)) = (0 : Int32)
      ·
        refine own_ifYes X4 hx (pc' := 35) (hb hby at_28) ((if0 _ _).trans (teq (hc28_5 : (p3 &&& (4 : Int32)) = (0 : Int32))).1) (by decide) (by decide) ?_
        refine own_iconst X4 hx (v := (0 : Int32)) (hb hby at_35) rfl ?_
        show Goes _ _ _ _ _ _ (T4.setTop (mkF m 36 #[.val (.int p1), .val (.int p2), .val (.int p3), .val (.int w2), .val (.int w4), .unset, .unset, .unset, .unset, .unset, .unset, .unset, .unset] [(.int (0 : Int32))]))
        exact jn36_6 T4 _ X4 N4 e4 (0 : Int32) trivial
      ·
        refine own_ifNo X4 hx (hb hby at_28) ((if0 _ _).trans (feq (hc28_5 : ¬ ((p3 &&& (4 : Int32)) = (0 : Int32)))).1) ?_
        refine own_iconst X4 hx (v := (1 : Int32)) (hb hby at_31) rfl ?_
        refine own_goto X4 hx (pc' := 36) (hb hby at_32) (by decide) (by decide) ?_
        show Goes _ _ _ _ _ _ (T4.setTop (mkF m 36 #[.val (.int p1), .val (.int p2), .val (.int p3), .val (.int w2), .val (.int w4), .unset, .unset, .unset, .unset, .unset, .unset, .unset, .unset] [(.int (1 : Int32))]))
        exact jn36_6 T4 _ X4 N4 e4 (1 : Int32) trivial
    by_cases hc15_3 : (p3 &&& (2 : Int32)) = (0 : Int32)
    ·
      refine own_ifYes X2 hx (pc' := 22) (hb hby at_15) ((if0 _ _).trans (teq (hc15_3 : (p3 &&& (2 : Int32)) = (0 : Int32))).1) (by decide) (by decide) ?_
      refine own_iconst X2 hx (v := (0 : Int32)) (hb hby at_22) rfl ?_
      show Goes _ _ _ _ _ _ (T2.setTop (mkF m 23 #[.val (.int p1), .val (.int p2), .val (.int p3), .val (.int w2), .unset, .unset, .unset, .unset, .unset, .unset, .unset, .unset, .unset] [(.int (0 : Int32))]))
      exact jn23_4 T2 _ X2 N2 e2 (0 : Int32) trivial
    ·
      refine own_ifNo X2 hx (hb hby at_15) ((if0 _ _).trans (feq (hc15_3 : ¬ ((p3 &&& (2 : Int32)) = (0 : Int32)))).1) ?_
      refine own_iconst X2 hx (v := (1 : Int32)) (hb hby at_18) rfl ?_
      refine own_goto X2 hx (pc' := 23) (hb hby at_19) (by decide) (by decide) ?_
      show Goes _ _ _ _ _ _ (T2.setTop (mkF m 23 #[.val (.int p1), .val (.int p2), .val (.int p3), .val (.int w2), .unset, .unset, .unset, .unset, .unset, .unset, .unset, .unset, .unset] [(.int (1 : Int32))]))
      exact jn23_4 T2 _ X2 N2 e2 (1 : Int32) trivial
  by_cases hc3_1 : (p3 &&& (1 : Int32)) = (0 : Int32)
  ·
    refine own_ifYes X0 hx (pc' := 10) (hb hby at_3) ((if0 _ _).trans (teq (hc3_1 : (p3 &&& (1 : Int32)) = (0 : Int32))).1) (by decide) (by decide) ?_
    refine own_iconst X0 hx (v := (0 : Int32)) (hb hby at_10) rfl ?_
    show Goes _ _ _ _ _ _ (T0.setTop (mkF m 11 #[.val (.int p1), .val (.int p2), .val (.int p3), .unset, .unset, .unset, .unset, .unset, .unset, .unset, .unset, .unset, .unset] [(.int (0 : Int32))]))
    exact jn11_2 T0 _ X0 N0 e0 (0 : Int32) trivial
  ·
    refine own_ifNo X0 hx (hb hby at_3) ((if0 _ _).trans (feq (hc3_1 : ¬ ((p3 &&& (1 : Int32)) = (0 : Int32)))).1) ?_
    refine own_iconst X0 hx (v := (1 : Int32)) (hb hby at_6) rfl ?_
    refine own_goto X0 hx (pc' := 11) (hb hby at_7) (by decide) (by decide) ?_
    show Goes _ _ _ _ _ _ (T0.setTop (mkF m 11 #[.val (.int p1), .val (.int p2), .val (.int p3), .unset, .unset, .unset, .unset, .unset, .unset, .unset, .unset, .unset, .unset] [(.int (1 : Int32))]))
    exact jn11_2 T0 _ X0 N0 e0 (1 : Int32) trivial
set_option maxRecDepth 65536 in
set_option maxHeartbeats 40000000 in
theorem comes_1 {Post : Tables → Env → Array Value → State → Outcome → State → Prop} (hpost : ∀ tb e args s v u, (limb_1_1.after args s (.returned v) u = true ∧ limb_1_2.after args s (.returned v) u = true ∧ True) → FrameEnd s (.returned v) u (Jvm.fieldLocs frame_1_writes args s ++ Jvm.arrayLocs frame_1_arrays args s ++ Jvm.staticLocs frame_1_statics s) 56 576 → Post tb e args s (.returned v) u) :
    ArmFor flags0 classFile x code maxLocals ret World_1 tables_1 room_1 Calls_1 rest_1 Pre_1 Post := by
  intro l hfl _ _ p e ha hc hk s m args below hf hA hF happ hP
  obtain ⟨hcalls, hrest, hpre⟩ := hP
  obtain ⟨-, -, -, hnamed, -, -, -, hat⟩ := (Spec.applies_iff hf).mp happ
  obtain ⟨hg, hn⟩ := and_e (Cond.before_iff.mp (show (Jvm.Cond.and given_1 narrow_1).before args s = true from hpre))
  obtain ⟨hg1a, hg1b⟩ := and_e hg
  obtain ⟨hg2a, hg2b⟩ := and_e hg1b
  obtain ⟨hg3a, hg3b⟩ := and_e hg2b
  obtain ⟨w0, w1, w2, rfl⟩ : ∃ w0 w1 w2 : Value, args = #[w0, w1, w2] := by
    have hs : args.size = 3 := by simpa [Cond.value, given_1] using hg1a
    obtain ⟨L⟩ := args
    match L, hs with
    | [w0, w1, w2], _ => exact ⟨w0, w1, w2, rfl⟩
  have hw := fun d (hd : d ∈ tables_1) => atoms_spec (ws := Jvm.Cond.code x code maxLocals ret :: tables_1) hat d (List.mem_cons_of_mem _ hd)
  have hfit : Fit s := fun {y c} hc i hi => by
    obtain ⟨ha, rfl⟩ := Array.getElem?_eq_some_iff.mp hc
    have q := List.all_eq_true.mp ((Array.all_eq_true_iff_forall_mem.mp hF) _ (Array.getElem_mem ha)) i (List.mem_range.mpr hi)
    simpa [Array.getElem?_eq_getElem hi] using q
  obtain ⟨i0, ei0⟩ := is_v hg2a
  obtain rfl : w0 = (.int i0) := Option.some.inj ei0
  obtain ⟨i1, ei1⟩ := is_v hg3a
  obtain rfl : w1 = (.int i1) := Option.some.inj ei1
  obtain ⟨i2, ei2⟩ := is_v hg3b
  obtain rfl : w2 = (.int i2) := Option.some.inj ei2
  obtain ⟨n, o, h1, h2, h3, v, L, rfl, ⟨N, hQ⟩, hq⟩ := rm0 l s _ hw tables_1 i0 i1 i2 s.heap s.heap.size (Old.start s) p e ha hc hk s m _ below hf ((Spec.applies_iff_loose hf).mp happ).1 ⟨rfl, State.Warmed39.refl s, rfl⟩ trivial
  have hv : v = some (.int (1 : Int32)) := hQ
  subst hv
  refine ⟨n, _, h1, h2, h3, hpost _ _ _ _ _ _ ⟨Cond.after_iff.mpr rfl, Cond.after_iff.mpr (eq_i res_at (Term.int_eval (1)) rfl), trivial⟩ ⟨hq.1, hq.2.1, hq.2.2.sift fun y hy => Or.inr (N y hy)⟩⟩
theorem main_1_1 : Claimed_1_1 := comes_1 fun _ _ _ _ _ _ h hF => ⟨h.1, Jvm.LamKit.wideOf hF⟩
theorem main_1_2 : Claimed_1_2 := comes_1 fun _ _ _ _ _ _ h hF => ⟨h.2.1, Jvm.LamKit.wideOf hF⟩
end Jvm.Pilot.@@N@@
namespace Jvm.Pilot.@@N@@
open Jvm Jvm.ClassFile Sem Op Lib Jvm.Free Jvm.Stand Jvm.Pilot.@@N@@.Jvm.D
/-! MADE BY PROGRAM (witnessworld.py) out of the Statement's table words and the real class files: 23 classes; the members and pool entries that the words name. The judged class is class 1, her method 1. -/
namespace start1
open Jvm.ClassFile
def u (s : String) : CpInfo := .utf8 (stringToUtf16 s)
/-- a pool by its gaps: so many unusable entries, then the entry; so many at the end -/
def gap : Nat → List CpInfo → List CpInfo
  | 0, r => r
  | n + 1, r => .unusable :: gap n r
def poolList (es : List (Nat × CpInfo)) (last : Nat) : List CpInfo := es.foldr (fun e r => gap e.1 (e.2 :: r)) (gap last [])
def pool (es : List (Nat × CpInfo)) (last : Nat) : Array CpInfo := ⟨poolList es last⟩
def fileOf (pool : Array CpInfo) (this : Nat) (attrs : Array Attribute := #[]) (ms : Array MethodInfo := #[]) (fl : Nat := 33) (sup : Nat := 0) (ifs : Array Nat := #[]) (fds : Array FieldInfo := #[]) : ClassFile where
  minorVersion := 0
  majorVersion := 65
  constantPool := pool
  accessFlags := fl
  thisClass := this
  superClass := sup
  interfaces := ifs
  fields := fds
  methods := ms
  attributes := attrs
def plain (name : String) (sup : Option ClassId) : Class where
  name := name
  kind := .ordinary
  loader := none
  accessFlags := 33
  super := sup
  interfaces := #[]
  cf := none
  fields := #[]
  methods := #[]
  instanceTypes := #[]
  staticTypes := #[]
  resolved := #[]
  callSites := []
  init := .initialized
  statics := none
  mirror := none

def pool0 : Array CpInfo := pool [(5, u "<init>"), (0, u "()V"), (1, .class_ 10), (1, u "java/lang/Object"), (85, u "clone"), (0, u "()Ljava/lang/Object;")] 26

def k0c0 : Code := { maxStack := 0, maxLocals := 1, code := object_method_1_code, exceptionTable := #[], attributes := #[] }
def k0m0 : Method := { name := "<init>", desc := "()V", sig := { parameters := [], returnType := none }, accessFlags := 1, code := some k0c0 }
def k0m1 : Method := { name := "clone", desc := "()Ljava/lang/Object;", sig := { parameters := [], returnType := some (.object "java/lang/Object") }, accessFlags := 260, code := none }
/-- java/lang/Object -/
def k0 : Class := { plain "java/lang/Object" none with
  accessFlags := 33
  interfaces := #[]
  cf := some (fileOf pool0 8 #[] #[{ accessFlags := 1, nameIndex := 5, descriptorIndex := 6, attributes := #[] }, { accessFlags := 260, nameIndex := 96, descriptorIndex := 97, attributes := #[] }] 33 0 #[] #[])
  fields := #[]
  methods := #[k0m0, k0m1]
  instanceTypes := #[]
  staticTypes := #[]
  resolved := Array.replicate 124 none
  statics := none }

def pool1 : Array CpInfo := pool [(2, .class_ 4), (0, .nameAndType 5 6), (0, u "java/lang/Object"), (0, u "<init>"), (0, u "()V"), (0, .class_ 8), (0, u "com/example/contention/contention/KeyTree"), (0, .methodref 7 3), (0, .methodref 7 11), (0, .nameAndType 12 13), (0, u "add"), (0, u "([B)Z"), (0, .methodref 7 15), (0, .nameAndType 16 6), (0, u "publish"), (0, .methodref 18 19), (0, .class_ 20), (0, .nameAndType 21 22), (0, u "com/example/contention/contention/KeyTreePublishPinLaw"), (0, u "one"), (0, u "(I)I"), (0, .methodref 18 24), (0, .nameAndType 25 26), (0, u "seen"), (0, u "(Lcom/example/contention/contention/KeyTree;)I"), (0, .methodref 7 28), (0, .nameAndType 29 13), (0, u "remove"), (0, .methodref 31 32), (0, .class_ 33), (0, .nameAndType 34 35), (0, u "java/lang/Math"), (0, u "min"), (0, u "(II)I"), (0, .methodref 31 37), (0, .nameAndType 38 35), (0, u "max"), (0, .methodref 18 40), (0, .nameAndType 41 35), (0, u "two"), (0, .methodref 7 43), (0, .nameAndType 44 45), (0, u "from"), (0, u "([BZ)Ljava/lang/Iterable;"), (0, .interfaceMethodref 47 48), (0, .class_ 49), (0, .nameAndType 50 51), (0, u "java/lang/Iterable"), (0, u "iterator"), (0, u "()Ljava/util/Iterator;"), (0, .interfaceMethodref 53 54), (0, .class_ 55), (0, .nameAndType 56 57), (0, u "java/util/Iterator"), (0, u "hasNext"), (0, u "()Z"), (0, .interfaceMethodref 53 59), (0, .nameAndType 60 61), (0, u "next"), (0, u "()Ljava/lang/Object;"), (0, .class_ 63), (0, u "[B"), (0, .methodref 18 65), (0, .nameAndType 66 67), (0, u "code"), (0, u "([B)I"), (2, u "law"), (0, u "(III)Z")] 3

def k1m0 : Method := { name := "<init>", desc := "()V", sig := { parameters := [], returnType := none }, accessFlags := 1, code := none }
def k1c1 : Code := { maxStack := 4, maxLocals := 13, code := code, exceptionTable := #[], attributes := #[] }
def k1m1 : Method := { name := "law", desc := "(III)Z", sig := { parameters := [.int, .int, .int], returnType := some .boolean }, accessFlags := 9, code := some k1c1 }
def k1c2 : Code := { maxStack := 2, maxLocals := 1, code := method_3_code, exceptionTable := #[], attributes := #[] }
def k1m2 : Method := { name := "one", desc := "(I)I", sig := { parameters := [.int], returnType := some .int }, accessFlags := 10, code := some k1c2 }
def k1c3 : Code := { maxStack := 3, maxLocals := 2, code := method_4_code, exceptionTable := #[], attributes := #[] }
def k1m3 : Method := { name := "two", desc := "(II)I", sig := { parameters := [.int, .int], returnType := some .int }, accessFlags := 10, code := some k1c3 }
def k1c4 : Code := { maxStack := 2, maxLocals := 1, code := method_5_code, exceptionTable := #[], attributes := #[] }
def k1m4 : Method := { name := "code", desc := "([B)I", sig := { parameters := [(.array .byte)], returnType := some .int }, accessFlags := 10, code := some k1c4 }
def k1c5 : Code := { maxStack := 3, maxLocals := 4, code := method_6_code, exceptionTable := #[], attributes := #[] }
def k1m5 : Method := { name := "seen", desc := "(Lcom/example/contention/contention/KeyTree;)I", sig := { parameters := [(.object "com/example/contention/contention/KeyTree")], returnType := some .int }, accessFlags := 10, code := some k1c5 }
/-- com/example/contention/contention/KeyTreePublishPinLaw -/
def k1 : Class := { plain "com/example/contention/contention/KeyTreePublishPinLaw" (some 0) with
  accessFlags := 49
  interfaces := #[]
  cf := some (fileOf pool1 18 #[] #[{ accessFlags := 1, nameIndex := 5, descriptorIndex := 6, attributes := #[] }, { accessFlags := 9, nameIndex := 70, descriptorIndex := 71, attributes := #[] }, { accessFlags := 10, nameIndex := 21, descriptorIndex := 22, attributes := #[] }, { accessFlags := 10, nameIndex := 41, descriptorIndex := 35, attributes := #[] }, { accessFlags := 10, nameIndex := 66, descriptorIndex := 67, attributes := #[] }, { accessFlags := 10, nameIndex := 25, descriptorIndex := 26, attributes := #[] }] 49 2 #[] #[])
  fields := #[]
  methods := #[k1m0, k1m1, k1m2, k1m3, k1m4, k1m5]
  instanceTypes := #[]
  staticTypes := #[]
  resolved := Array.replicate 75 none
  statics := none }

def pool2 : Array CpInfo := pool [(1, .class_ 2), (0, u "com/example/contention/contention/KeyTree"), (0, .methodref 4 5), (0, .class_ 6), (0, .nameAndType 7 8), (0, u "java/lang/Object"), (0, u "<init>"), (0, u "()V"), (0, .fieldref 1 10), (0, .nameAndType 11 12), (0, u "edit"), (0, u "J"), (0, .class_ 14), (0, u "com/example/contention/contention/KeyTree$Node"), (0, .methodref 13 16), (0, .nameAndType 7 17), (0, u "(JZ)V"), (0, .fieldref 1 19), (0, .nameAndType 20 21), (0, u "root"), (0, u "Lcom/example/contention/contention/KeyTree$Node;"), (0, .fieldref 1 23), (0, .nameAndType 24 21), (0, u "draft"), (0, .fieldref 1 26), (0, .nameAndType 27 28), (0, u "size"), (0, u "I"), (0, .methodref 1 30), (0, .nameAndType 31 32), (0, u "owned"), (0, u "(Lcom/example/contention/contention/KeyTree$Node;)Lcom/example/contention/contention/KeyTree$Node;"), (0, .methodref 1 34), (0, .nameAndType 35 36), (0, u "insert"), (0, u "(Lcom/example/contention/contention/KeyTree$Node;[B)Lcom/example/contention/contention/KeyTree$Node;"), (0, .methodref 13 38), (0, .nameAndType 39 40), (0, u "put"), (0, u "(I[BLcom/example/contention/contention/KeyTree$Node;)V"), (0, .fieldref 13 42), (0, .nameAndType 43 44), (0, u "keys"), (0, u "[[B"), (0, .methodref 1 46), (0, .nameAndType 47 48), (0, u "delete"), (0, u "(Lcom/example/contention/contention/KeyTree$Node;[B)V"), (0, .methodref 13 50), (0, .nameAndType 51 52), (0, u "isLeaf"), (0, u "()Z"), (0, .fieldref 13 26), (0, .fieldref 13 55), (0, .nameAndType 56 57), (0, u "children"), (0, u "[Lcom/example/contention/contention/KeyTree$Node;"), (0, .invokeDynamic 0 59), (0, .nameAndType 60 61), (0, u "iterator"), (0, u "(Lcom/example/contention/contention/KeyTree;[BZ)Ljava/lang/Iterable;"), (0, .methodref 63 64), (0, .class_ 65), (0, .nameAndType 66 67), (0, u "java/util/Arrays"), (0, u "compareUnsigned"), (0, u "([B[B)I"), (0, .fieldref 13 10), (0, .methodref 13 70), (0, .nameAndType 7 71), (0, u "(JLcom/example/contention/contention/KeyTree$Node;)V"), (0, .methodref 1 73), (0, .nameAndType 74 75), (0, u "lowerBound"), (0, u "(Lcom/example/contention/contention/KeyTree$Node;[B)I"), (0, .methodref 63 77), (0, .nameAndType 78 79), (0, u "equals"), (0, u "([B[B)Z"), (0, .methodref 1 81), (0, .nameAndType 82 83), (0, u "putOrSplit"), (0, u "(Lcom/example/contention/contention/KeyTree$Node;I[BLcom/example/contention/contention/KeyTree$Node;)Lcom/example/contention/contention/KeyTree$Node;"), (7, .methodref 13 92), (0, .nameAndType 93 94), (0, u "dropRange"), (0, u "(II)V"), (0, .methodref 13 96), (0, .nameAndType 97 98), (0, u "removeAt"), (0, u "(I)V"), (4, .class_ 104), (0, u "com/example/contention/contention/KeyTree$Walk"), (0, .methodref 103 106), (0, .nameAndType 7 107), (0, u "(Lcom/example/contention/contention/KeyTree$Node;[BZ)V"), (0, u "WIDTH"), (2, u "FEWEST"), (6, u "add"), (0, u "([B)Z"), (0, u "remove"), (0, u "publish"), (0, u "from"), (0, u "([BZ)Ljava/lang/Iterable;"), (2, u "lambda$from$0"), (0, u "([BZ)Ljava/util/Iterator;"), (4, .methodType 133), (0, u "()Ljava/util/Iterator;"), (0, .methodHandle 5 135), (0, .methodref 1 136), (0, .nameAndType 126 127), (0, .methodHandle 6 138), (0, .methodref 139 140), (0, .class_ 141), (0, .nameAndType 142 143), (0, u "java/lang/invoke/LambdaMetafactory"), (0, u "metafactory"), (0, u "(Ljava/lang/invoke/MethodHandles$Lookup;Ljava/lang/String;Ljava/lang/invoke/MethodType;Ljava/lang/invoke/MethodType;Ljava/lang/invoke/MethodHandle;Ljava/lang/invoke/MethodType;)Ljava/lang/invoke/CallSite;")] 8

def k2c0 : Code := { maxStack := 6, maxLocals := 1, code := prog_35_method_1_code, exceptionTable := #[], attributes := #[] }
def k2m0 : Method := { name := "<init>", desc := "()V", sig := { parameters := [], returnType := none }, accessFlags := 0, code := some k2c0 }
def k2c1 : Code := { maxStack := 5, maxLocals := 5, code := prog_35_method_4_code, exceptionTable := #[], attributes := #[] }
def k2m1 : Method := { name := "add", desc := "([B)Z", sig := { parameters := [(.array .byte)], returnType := some .boolean }, accessFlags := 0, code := some k2c1 }
def k2c2 : Code := { maxStack := 3, maxLocals := 3, code := prog_35_method_5_code, exceptionTable := #[], attributes := #[] }
def k2m2 : Method := { name := "remove", desc := "([B)Z", sig := { parameters := [(.array .byte)], returnType := some .boolean }, accessFlags := 0, code := some k2c2 }
def k2c3 : Code := { maxStack := 5, maxLocals := 1, code := prog_35_method_6_code, exceptionTable := #[], attributes := #[] }
def k2m3 : Method := { name := "publish", desc := "()V", sig := { parameters := [], returnType := none }, accessFlags := 0, code := some k2c3 }
def k2c4 : Code := { maxStack := 3, maxLocals := 3, code := prog_35_method_7_code, exceptionTable := #[], attributes := #[] }
def k2m4 : Method := { name := "from", desc := "([BZ)Ljava/lang/Iterable;", sig := { parameters := [(.array .byte), .boolean], returnType := some (.object "java/lang/Iterable") }, accessFlags := 0, code := some k2c4 }
def k2c5 : Code := { maxStack := 2, maxLocals := 5, code := prog_35_method_8_code, exceptionTable := #[], attributes := #[] }
def k2m5 : Method := { name := "lowerBound", desc := "(Lcom/example/contention/contention/KeyTree$Node;[B)I", sig := { parameters := [(.object "com/example/contention/contention/KeyTree$Node"), (.array .byte)], returnType := some .int }, accessFlags := 10, code := some k2c5 }
def k2c6 : Code := { maxStack := 5, maxLocals := 2, code := prog_35_method_10_code, exceptionTable := #[], attributes := #[] }
def k2m6 : Method := { name := "owned", desc := "(Lcom/example/contention/contention/KeyTree$Node;)Lcom/example/contention/contention/KeyTree$Node;", sig := { parameters := [(.object "com/example/contention/contention/KeyTree$Node")], returnType := some (.object "com/example/contention/contention/KeyTree$Node") }, accessFlags := 2, code := some k2c6 }
def k2c7 : Code := { maxStack := 5, maxLocals := 6, code := prog_35_method_11_code, exceptionTable := #[], attributes := #[] }
def k2m7 : Method := { name := "insert", desc := "(Lcom/example/contention/contention/KeyTree$Node;[B)Lcom/example/contention/contention/KeyTree$Node;", sig := { parameters := [(.object "com/example/contention/contention/KeyTree$Node"), (.array .byte)], returnType := some (.object "com/example/contention/contention/KeyTree$Node") }, accessFlags := 2, code := some k2c7 }
def k2c8 : Code := { maxStack := 5, maxLocals := 7, code := prog_35_method_12_code, exceptionTable := #[], attributes := #[] }
def k2m8 : Method := { name := "putOrSplit", desc := "(Lcom/example/contention/contention/KeyTree$Node;I[BLcom/example/contention/contention/KeyTree$Node;)Lcom/example/contention/contention/KeyTree$Node;", sig := { parameters := [(.object "com/example/contention/contention/KeyTree$Node"), .int, (.array .byte), (.object "com/example/contention/contention/KeyTree$Node")], returnType := some (.object "com/example/contention/contention/KeyTree$Node") }, accessFlags := 2, code := some k2c8 }
def k2c9 : Code := { maxStack := 3, maxLocals := 5, code := prog_35_method_13_code, exceptionTable := #[], attributes := #[] }
def k2m9 : Method := { name := "delete", desc := "(Lcom/example/contention/contention/KeyTree$Node;[B)V", sig := { parameters := [(.object "com/example/contention/contention/KeyTree$Node"), (.array .byte)], returnType := none }, accessFlags := 2, code := some k2c9 }
def k2c10 : Code := { maxStack := 5, maxLocals := 3, code := prog_35_method_15_code, exceptionTable := #[], attributes := #[] }
def k2m10 : Method := { name := "lambda$from$0", desc := "([BZ)Ljava/util/Iterator;", sig := { parameters := [(.array .byte), .boolean], returnType := some (.object "java/util/Iterator") }, accessFlags := 4098, code := some k2c10 }
/-- com/example/contention/contention/KeyTree -/
def res2 : Nat → Option Resolved
  | 13 => some (.cls 3)
  | 15 => some (.method ⟨3, 0⟩)
  | 37 => some (.method ⟨3, 3⟩)
  | 41 => some (.field 3 1)
  | 49 => some (.method ⟨3, 2⟩)
  | 53 => some (.field 3 3)
  | 54 => some (.field 3 2)
  | 68 => some (.field 3 0)
  | 69 => some (.method ⟨3, 1⟩)
  | 91 => some (.method ⟨3, 5⟩)
  | 95 => some (.method ⟨3, 4⟩)
  | 103 => some (.cls 8)
  | 105 => some (.method ⟨8, 0⟩)
  | _ => none
def k2 : Class := { plain "com/example/contention/contention/KeyTree" (some 0) with
  accessFlags := 48
  interfaces := #[]
  cf := some (fileOf pool2 1 #[.nestMembers #[103, 13], .bootstrapMethods #[⟨137, #[132, 134, 132]⟩]] #[{ accessFlags := 0, nameIndex := 7, descriptorIndex := 8, attributes := #[] }, { accessFlags := 0, nameIndex := 118, descriptorIndex := 119, attributes := #[] }, { accessFlags := 0, nameIndex := 120, descriptorIndex := 119, attributes := #[] }, { accessFlags := 0, nameIndex := 121, descriptorIndex := 8, attributes := #[] }, { accessFlags := 0, nameIndex := 122, descriptorIndex := 123, attributes := #[] }, { accessFlags := 10, nameIndex := 74, descriptorIndex := 75, attributes := #[] }, { accessFlags := 2, nameIndex := 31, descriptorIndex := 32, attributes := #[] }, { accessFlags := 2, nameIndex := 35, descriptorIndex := 36, attributes := #[] }, { accessFlags := 2, nameIndex := 82, descriptorIndex := 83, attributes := #[] }, { accessFlags := 2, nameIndex := 47, descriptorIndex := 48, attributes := #[] }, { accessFlags := 4098, nameIndex := 126, descriptorIndex := 127, attributes := #[] }] 48 4 #[] #[{ accessFlags := 24, nameIndex := 108, descriptorIndex := 28, attributes := #[] }, { accessFlags := 26, nameIndex := 111, descriptorIndex := 28, attributes := #[] }, { accessFlags := 66, nameIndex := 20, descriptorIndex := 21, attributes := #[] }, { accessFlags := 2, nameIndex := 24, descriptorIndex := 21, attributes := #[] }, { accessFlags := 2, nameIndex := 11, descriptorIndex := 12, attributes := #[] }, { accessFlags := 2, nameIndex := 27, descriptorIndex := 28, attributes := #[] }])
  fields := #[{ name := "WIDTH", type := .int, accessFlags := 24, slot := 0, constantValue := 0 }, { name := "FEWEST", type := .int, accessFlags := 26, slot := 1, constantValue := 0 }, { name := "root", type := (.object "com/example/contention/contention/KeyTree$Node"), accessFlags := 66, slot := 0, constantValue := 0 }, { name := "draft", type := (.object "com/example/contention/contention/KeyTree$Node"), accessFlags := 2, slot := 1, constantValue := 0 }, { name := "edit", type := .long, accessFlags := 2, slot := 2, constantValue := 0 }, { name := "size", type := .int, accessFlags := 2, slot := 3, constantValue := 0 }]
  methods := #[k2m0, k2m1, k2m2, k2m3, k2m4, k2m5, k2m6, k2m7, k2m8, k2m9, k2m10]
  instanceTypes := #[(.object "com/example/contention/contention/KeyTree$Node"), (.object "com/example/contention/contention/KeyTree$Node"), .long, .int]
  staticTypes := #[.int, .int]
  resolved := ((List.range 152).map res2).toArray
  callSites := [(4, 3, .makes 22)]
  statics := none }

def pool3 : Array CpInfo := pool [(1, .class_ 2), (0, u "com/example/contention/contention/KeyTree"), (0, .methodref 4 5), (0, .class_ 6), (0, .nameAndType 7 8), (0, u "java/lang/Object"), (0, u "<init>"), (0, u "()V"), (0, .fieldref 10 11), (0, .class_ 12), (0, .nameAndType 13 14), (0, u "com/example/contention/contention/KeyTree$Node"), (0, u "edit"), (0, u "J"), (0, .class_ 16), (0, u "[B"), (0, .fieldref 10 18), (0, .nameAndType 19 20), (0, u "keys"), (0, u "[[B"), (0, .fieldref 10 22), (0, .nameAndType 23 24), (0, u "children"), (0, u "[Lcom/example/contention/contention/KeyTree$Node;"), (0, .methodref 26 27), (0, .class_ 20), (0, .nameAndType 28 29), (0, u "clone"), (0, u "()Ljava/lang/Object;"), (2, .fieldref 10 33), (0, .nameAndType 34 35), (0, u "size"), (0, u "I"), (0, .methodref 37 38), (0, .class_ 39), (0, .nameAndType 40 41), (0, u "java/lang/System"), (0, u "arraycopy"), (0, u "(Ljava/lang/Object;ILjava/lang/Object;II)V"), (0, .methodref 10 43), (0, .nameAndType 44 45), (0, u "dropRange"), (0, u "(II)V"), (0, .methodref 47 48), (0, .class_ 49), (0, .nameAndType 50 51), (0, u "java/util/Arrays"), (0, u "fill"), (0, u "([Ljava/lang/Object;IILjava/lang/Object;)V"), (0, u "(JZ)V"), (3, u "(JLcom/example/contention/contention/KeyTree$Node;)V"), (0, u "isLeaf"), (0, u "()Z"), (0, u "put"), (0, u "(I[BLcom/example/contention/contention/KeyTree$Node;)V"), (0, u "removeAt"), (0, u "(I)V")] 7

def k3c0 : Code := { maxStack := 3, maxLocals := 4, code := prog_36_method_1_code, exceptionTable := #[], attributes := #[] }
def k3m0 : Method := { name := "<init>", desc := "(JZ)V", sig := { parameters := [.long, .boolean], returnType := none }, accessFlags := 2, code := some k3c0 }
def k3c1 : Code := { maxStack := 3, maxLocals := 4, code := prog_36_method_2_code, exceptionTable := #[], attributes := #[] }
def k3m1 : Method := { name := "<init>", desc := "(JLcom/example/contention/contention/KeyTree$Node;)V", sig := { parameters := [.long, (.object "com/example/contention/contention/KeyTree$Node")], returnType := none }, accessFlags := 2, code := some k3c1 }
def k3c2 : Code := { maxStack := 1, maxLocals := 1, code := prog_36_method_3_code, exceptionTable := #[], attributes := #[] }
def k3m2 : Method := { name := "isLeaf", desc := "()Z", sig := { parameters := [], returnType := some .boolean }, accessFlags := 2, code := some k3c2 }
def k3c3 : Code := { maxStack := 6, maxLocals := 4, code := prog_36_method_4_code, exceptionTable := #[], attributes := #[] }
def k3m3 : Method := { name := "put", desc := "(I[BLcom/example/contention/contention/KeyTree$Node;)V", sig := { parameters := [.int, (.array .byte), (.object "com/example/contention/contention/KeyTree$Node")], returnType := none }, accessFlags := 2, code := some k3c3 }
def k3c4 : Code := { maxStack := 3, maxLocals := 2, code := prog_36_method_5_code, exceptionTable := #[], attributes := #[] }
def k3m4 : Method := { name := "removeAt", desc := "(I)V", sig := { parameters := [.int], returnType := none }, accessFlags := 2, code := some k3c4 }
def k3c5 : Code := { maxStack := 5, maxLocals := 4, code := prog_36_method_6_code, exceptionTable := #[], attributes := #[] }
def k3m5 : Method := { name := "dropRange", desc := "(II)V", sig := { parameters := [.int, .int], returnType := none }, accessFlags := 2, code := some k3c5 }
/-- com/example/contention/contention/KeyTree$Node -/
def k3 : Class := { plain "com/example/contention/contention/KeyTree$Node" (some 0) with
  accessFlags := 48
  interfaces := #[]
  cf := some (fileOf pool3 10 #[.nestHost 1] #[{ accessFlags := 2, nameIndex := 7, descriptorIndex := 52, attributes := #[] }, { accessFlags := 2, nameIndex := 7, descriptorIndex := 56, attributes := #[] }, { accessFlags := 2, nameIndex := 57, descriptorIndex := 58, attributes := #[] }, { accessFlags := 2, nameIndex := 59, descriptorIndex := 60, attributes := #[] }, { accessFlags := 2, nameIndex := 61, descriptorIndex := 62, attributes := #[] }, { accessFlags := 2, nameIndex := 44, descriptorIndex := 45, attributes := #[] }] 48 4 #[] #[{ accessFlags := 18, nameIndex := 13, descriptorIndex := 14, attributes := #[] }, { accessFlags := 18, nameIndex := 19, descriptorIndex := 20, attributes := #[] }, { accessFlags := 18, nameIndex := 23, descriptorIndex := 24, attributes := #[] }, { accessFlags := 2, nameIndex := 34, descriptorIndex := 35, attributes := #[] }])
  fields := #[{ name := "edit", type := .long, accessFlags := 18, slot := 0, constantValue := 0 }, { name := "keys", type := (.array (.array .byte)), accessFlags := 18, slot := 1, constantValue := 0 }, { name := "children", type := (.array (.object "com/example/contention/contention/KeyTree$Node")), accessFlags := 18, slot := 2, constantValue := 0 }, { name := "size", type := .int, accessFlags := 2, slot := 3, constantValue := 0 }]
  methods := #[k3m0, k3m1, k3m2, k3m3, k3m4, k3m5]
  instanceTypes := #[.long, (.array (.array .byte)), (.array (.object "com/example/contention/contention/KeyTree$Node")), .int]
  staticTypes := #[]
  resolved := Array.replicate 70 none
  statics := none }

def pool4 : Array CpInfo := pool [(1, .class_ 2), (0, u "java/lang/Cloneable"), (0, .class_ 4), (0, u "java/lang/Object")] 2

/-- java/lang/Cloneable -/
def k4 : Class := { plain "java/lang/Cloneable" (some 0) with
  accessFlags := 1537
  interfaces := #[]
  cf := some (fileOf pool4 1 #[] #[] 1537 3 #[] #[])
  fields := #[]
  methods := #[]
  instanceTypes := #[]
  staticTypes := #[]
  resolved := Array.replicate 7 none
  statics := none }

def pool5 : Array CpInfo := pool [(2, .class_ 4), (1, u "java/lang/Object"), (0, u "<init>"), (0, u "()V"), (1, .class_ 10), (1, u "java/lang/System"), (0, u "allowSecurityManager"), (0, u "I"), (16, u "cons"), (0, u "Ljava/io/Console;"), (77, .class_ 110), (1, u "java/lang/System$CallersHolder"), (43, u "initialErrStream"), (0, u "Ljava/io/PrintStream;"), (19, u "security"), (0, u "Ljava/lang/SecurityManager;"), (31, .class_ 209), (0, u "java/lang/System$1"), (7, u "props"), (0, u "Ljava/util/Properties;"), (2, u "lineSeparator"), (0, u "Ljava/lang/String;"), (96, .class_ 321), (1, u "java/lang/System$LoggerFinder"), (5, .class_ 328), (0, u "java/lang/System$Logger"), (67, u "err"), (2, u "out"), (91, u "notSupportedJnuEncoding"), (15, u "in"), (17, u "initialIn"), (0, u "Ljava/io/InputStream;"), (35, u "bootLayer"), (0, u "Ljava/lang/ModuleLayer;"), (99, .class_ 664), (0, u "java/lang/System$2"), (9, u "NEVER"), (2, u "MAYBE"), (49, u "arraycopy"), (0, u "(Ljava/lang/Object;ILjava/lang/Object;II)V"), (72, .class_ 802), (0, u "java/lang/System$Logger$Level")] 31

def k5m0 : Method := { name := "<init>", desc := "()V", sig := { parameters := [], returnType := none }, accessFlags := 2, code := none }
def k5m1 : Method := { name := "arraycopy", desc := "(Ljava/lang/Object;ILjava/lang/Object;II)V", sig := { parameters := [(.object "java/lang/Object"), .int, (.object "java/lang/Object"), .int, .int], returnType := none }, accessFlags := 265, code := none }
/-- java/lang/System -/
def k5 : Class := { plain "java/lang/System" (some 0) with
  accessFlags := 49
  interfaces := #[]
  cf := some (fileOf pool5 8 #[.nestMembers #[319, 327, 801, 108, 663, 208]] #[{ accessFlags := 2, nameIndex := 5, descriptorIndex := 6, attributes := #[] }, { accessFlags := 265, nameIndex := 727, descriptorIndex := 728, attributes := #[] }] 49 2 #[] #[{ accessFlags := 25, nameIndex := 507, descriptorIndex := 526, attributes := #[] }, { accessFlags := 25, nameIndex := 399, descriptorIndex := 155, attributes := #[] }, { accessFlags := 25, nameIndex := 396, descriptorIndex := 155, attributes := #[] }, { accessFlags := 10, nameIndex := 525, descriptorIndex := 526, attributes := #[] }, { accessFlags := 26, nameIndex := 674, descriptorIndex := 12, attributes := #[] }, { accessFlags := 26, nameIndex := 677, descriptorIndex := 12, attributes := #[] }, { accessFlags := 10, nameIndex := 11, descriptorIndex := 12, attributes := #[] }, { accessFlags := 74, nameIndex := 175, descriptorIndex := 176, attributes := #[] }, { accessFlags := 10, nameIndex := 491, descriptorIndex := 222, attributes := #[] }, { accessFlags := 74, nameIndex := 29, descriptorIndex := 30, attributes := #[] }, { accessFlags := 74, nameIndex := 154, descriptorIndex := 155, attributes := #[] }, { accessFlags := 10, nameIndex := 217, descriptorIndex := 218, attributes := #[] }, { accessFlags := 10, nameIndex := 221, descriptorIndex := 222, attributes := #[] }, { accessFlags := 8, nameIndex := 562, descriptorIndex := 563, attributes := #[] }])
  fields := #[{ name := "in", type := (.object "java/io/InputStream"), accessFlags := 25, slot := 0, constantValue := 0 }, { name := "out", type := (.object "java/io/PrintStream"), accessFlags := 25, slot := 1, constantValue := 0 }, { name := "err", type := (.object "java/io/PrintStream"), accessFlags := 25, slot := 2, constantValue := 0 }, { name := "initialIn", type := (.object "java/io/InputStream"), accessFlags := 10, slot := 3, constantValue := 0 }, { name := "NEVER", type := .int, accessFlags := 26, slot := 4, constantValue := 0 }, { name := "MAYBE", type := .int, accessFlags := 26, slot := 5, constantValue := 0 }, { name := "allowSecurityManager", type := .int, accessFlags := 10, slot := 6, constantValue := 0 }, { name := "security", type := (.object "java/lang/SecurityManager"), accessFlags := 74, slot := 7, constantValue := 0 }, { name := "notSupportedJnuEncoding", type := (.object "java/lang/String"), accessFlags := 10, slot := 8, constantValue := 0 }, { name := "cons", type := (.object "java/io/Console"), accessFlags := 74, slot := 9, constantValue := 0 }, { name := "initialErrStream", type := (.object "java/io/PrintStream"), accessFlags := 74, slot := 10, constantValue := 0 }, { name := "props", type := (.object "java/util/Properties"), accessFlags := 10, slot := 11, constantValue := 0 }, { name := "lineSeparator", type := (.object "java/lang/String"), accessFlags := 10, slot := 12, constantValue := 0 }, { name := "bootLayer", type := (.object "java/lang/ModuleLayer"), accessFlags := 8, slot := 13, constantValue := 0 }]
  methods := #[k5m0, k5m1]
  instanceTypes := #[]
  staticTypes := #[(.object "java/io/InputStream"), (.object "java/io/PrintStream"), (.object "java/io/PrintStream"), (.object "java/io/InputStream"), .int, .int, .int, (.object "java/lang/SecurityManager"), (.object "java/lang/String"), (.object "java/io/Console"), (.object "java/io/PrintStream"), (.object "java/util/Properties"), (.object "java/lang/String"), (.object "java/lang/ModuleLayer")]
  resolved := Array.replicate 834 none
  statics := none }

def pool6 : Array CpInfo := pool [(8, .class_ 10), (1, u "java/lang/Iterable"), (0, u "iterator"), (0, u "()Ljava/util/Iterator;"), (22, .class_ 36), (0, u "java/lang/Object")] 25

def k6m0 : Method := { name := "iterator", desc := "()Ljava/util/Iterator;", sig := { parameters := [], returnType := some (.object "java/util/Iterator") }, accessFlags := 1025, code := none }
/-- java/lang/Iterable -/
def k6 : Class := { plain "java/lang/Iterable" (some 0) with
  accessFlags := 1537
  interfaces := #[]
  cf := some (fileOf pool6 8 #[] #[{ accessFlags := 1025, nameIndex := 11, descriptorIndex := 12, attributes := #[] }] 1537 35 #[] #[])
  fields := #[]
  methods := #[k6m0]
  instanceTypes := #[]
  staticTypes := #[]
  resolved := Array.replicate 62 none
  statics := none }

def pool7 : Array CpInfo := pool [(16, .class_ 18), (1, u "java/util/Iterator"), (0, u "hasNext"), (0, u "()Z"), (2, u "next"), (0, u "()Ljava/lang/Object;"), (6, .class_ 32), (0, u "java/lang/Object")] 20

def k7m0 : Method := { name := "hasNext", desc := "()Z", sig := { parameters := [], returnType := some .boolean }, accessFlags := 1025, code := none }
def k7m1 : Method := { name := "next", desc := "()Ljava/lang/Object;", sig := { parameters := [], returnType := some (.object "java/lang/Object") }, accessFlags := 1025, code := none }
/-- java/util/Iterator -/
def k7 : Class := { plain "java/util/Iterator" (some 0) with
  accessFlags := 1537
  interfaces := #[]
  cf := some (fileOf pool7 16 #[] #[{ accessFlags := 1025, nameIndex := 19, descriptorIndex := 20, attributes := #[] }, { accessFlags := 1025, nameIndex := 23, descriptorIndex := 24, attributes := #[] }] 1537 31 #[] #[])
  fields := #[]
  methods := #[k7m0, k7m1]
  instanceTypes := #[]
  staticTypes := #[]
  resolved := Array.replicate 53 none
  statics := none }

def pool8 : Array CpInfo := pool [(1, .methodref 2 3), (0, .class_ 4), (0, .nameAndType 5 6), (0, u "java/lang/Object"), (0, u "<init>"), (0, u "()V"), (0, .methodref 8 9), (0, .class_ 10), (0, .nameAndType 11 12), (0, u "com/example/contention/contention/KeyTree$Node"), (0, u "isLeaf"), (0, u "()Z"), (0, .fieldref 8 14), (0, .nameAndType 15 16), (0, u "children"), (0, u "[Lcom/example/contention/contention/KeyTree$Node;"), (0, .fieldref 18 19), (0, .class_ 20), (0, .nameAndType 21 16), (0, u "com/example/contention/contention/KeyTree$Walk"), (0, u "path"), (0, .fieldref 18 23), (0, .nameAndType 24 25), (0, u "at"), (0, u "[I"), (1, .class_ 29), (1, u "com/example/contention/contention/KeyTree"), (1, u "(Lcom/example/contention/contention/KeyTree$Node;[B)I"), (0, .fieldref 18 33), (0, .nameAndType 34 35), (0, u "leaf"), (0, u "Lcom/example/contention/contention/KeyTree$Node;"), (0, .methodref 27 37), (0, .nameAndType 38 31), (0, u "lowerBound"), (0, .fieldref 18 40), (0, .nameAndType 41 42), (0, u "next"), (0, u "I"), (0, .fieldref 8 44), (0, .nameAndType 45 42), (0, u "size"), (0, .fieldref 8 47), (0, .nameAndType 48 49), (0, u "keys"), (0, u "[[B"), (0, .methodref 51 52), (0, .class_ 53), (0, .nameAndType 54 55), (0, u "java/util/Arrays"), (0, u "equals"), (0, u "([B[B)Z"), (0, .methodref 18 57), (0, .nameAndType 58 6), (0, u "settle"), (3, .methodref 18 63), (0, .nameAndType 41 64), (0, u "()[B"), (0, .class_ 66), (0, u "java/util/Iterator"), (0, u "(Lcom/example/contention/contention/KeyTree$Node;[BZ)V"), (5, u "hasNext"), (0, u "()Ljava/lang/Object;")] 8

def k8c0 : Code := { maxStack := 4, maxLocals := 7, code := prog_37_method_1_code, exceptionTable := #[], attributes := #[] }
def k8m0 : Method := { name := "<init>", desc := "(Lcom/example/contention/contention/KeyTree$Node;[BZ)V", sig := { parameters := [(.object "com/example/contention/contention/KeyTree$Node"), (.array .byte), .boolean], returnType := none }, accessFlags := 2, code := some k8c0 }
def k8c1 : Code := { maxStack := 1, maxLocals := 1, code := prog_37_method_2_code, exceptionTable := #[], attributes := #[] }
def k8m1 : Method := { name := "hasNext", desc := "()Z", sig := { parameters := [], returnType := some .boolean }, accessFlags := 1, code := some k8c1 }
def k8c2 : Code := { maxStack := 5, maxLocals := 2, code := prog_37_method_3_code, exceptionTable := #[], attributes := #[] }
def k8m2 : Method := { name := "next", desc := "()[B", sig := { parameters := [], returnType := some (.array .byte) }, accessFlags := 1, code := some k8c2 }
def k8c3 : Code := { maxStack := 4, maxLocals := 4, code := prog_37_method_4_code, exceptionTable := #[], attributes := #[] }
def k8m3 : Method := { name := "settle", desc := "()V", sig := { parameters := [], returnType := none }, accessFlags := 2, code := some k8c3 }
def k8c4 : Code := { maxStack := 1, maxLocals := 1, code := prog_37_method_5_code, exceptionTable := #[], attributes := #[] }
def k8m4 : Method := { name := "next", desc := "()Ljava/lang/Object;", sig := { parameters := [], returnType := some (.object "java/lang/Object") }, accessFlags := 4161, code := some k8c4 }
/-- com/example/contention/contention/KeyTree$Walk -/
def k8 : Class := { plain "com/example/contention/contention/KeyTree$Walk" (some 0) with
  accessFlags := 48
  interfaces := #[7]
  cf := some (fileOf pool8 18 #[.nestHost 27] #[{ accessFlags := 2, nameIndex := 5, descriptorIndex := 67, attributes := #[] }, { accessFlags := 1, nameIndex := 73, descriptorIndex := 12, attributes := #[] }, { accessFlags := 1, nameIndex := 41, descriptorIndex := 64, attributes := #[] }, { accessFlags := 2, nameIndex := 58, descriptorIndex := 6, attributes := #[] }, { accessFlags := 4161, nameIndex := 41, descriptorIndex := 74, attributes := #[] }] 48 2 #[65] #[{ accessFlags := 18, nameIndex := 21, descriptorIndex := 16, attributes := #[] }, { accessFlags := 18, nameIndex := 24, descriptorIndex := 25, attributes := #[] }, { accessFlags := 2, nameIndex := 34, descriptorIndex := 35, attributes := #[] }, { accessFlags := 2, nameIndex := 41, descriptorIndex := 42, attributes := #[] }])
  fields := #[{ name := "path", type := (.array (.object "com/example/contention/contention/KeyTree$Node")), accessFlags := 18, slot := 0, constantValue := 0 }, { name := "at", type := (.array .int), accessFlags := 18, slot := 1, constantValue := 0 }, { name := "leaf", type := (.object "com/example/contention/contention/KeyTree$Node"), accessFlags := 2, slot := 2, constantValue := 0 }, { name := "next", type := .int, accessFlags := 2, slot := 3, constantValue := 0 }]
  methods := #[k8m0, k8m1, k8m2, k8m3, k8m4]
  instanceTypes := #[(.array (.object "com/example/contention/contention/KeyTree$Node")), (.array .int), (.object "com/example/contention/contention/KeyTree$Node"), .int]
  staticTypes := #[]
  resolved := Array.replicate 83 none
  statics := none }

def pool9 : Array CpInfo := pool [(2, .class_ 4), (1, u "java/lang/Object"), (0, u "<init>"), (0, u "()V"), (6, .methodref 14 15), (0, .class_ 16), (0, .nameAndType 17 18), (0, u "java/util/Arrays"), (0, u "rangeCheck"), (0, u "(III)V"), (55, .class_ 76), (1, u "java/util/Arrays$NaturalOrder"), (36, .class_ 115), (1, u "java/util/Arrays$LegacyMergeSort"), (1, u "Z"), (128, .class_ 248), (1, u "jdk/internal/util/ArraysSupport"), (0, u "mismatch"), (22, .methodref 246 273), (0, .nameAndType 249 274), (0, u "([B[BI)I"), (23, u "equals"), (5, .methodref 305 306), (0, .class_ 307), (0, .nameAndType 308 309), (0, u "java/lang/Math"), (0, u "min"), (0, u "(II)I"), (65, .class_ 376), (0, u "java/util/Arrays$ArrayList"), (18, .class_ 397), (1, u "java/lang/Byte"), (47, u "$assertionsDisabled"), (9, u "([B[B)Z"), (229, u "(BB)I"), (0, .methodref 395 687), (0, .nameAndType 688 685), (0, u "compareUnsigned"), (26, u "MIN_ARRAY_SORT_GRAN"), (0, u "I"), (2, u "INSERTIONSORT_THRESHOLD"), (120, u "fill"), (18, u "([Ljava/lang/Object;IILjava/lang/Object;)V"), (76, u "([B[B)I"), (38, .class_ 976), (0, u "java/util/Arrays$ArrayItr")] 52

def k9m0 : Method := { name := "<init>", desc := "()V", sig := { parameters := [], returnType := none }, accessFlags := 2, code := none }
def k9c1 : Code := { maxStack := 4, maxLocals := 3, code := jdk_65_method_30_code, exceptionTable := #[], attributes := #[] }
def k9m1 : Method := { name := "rangeCheck", desc := "(III)V", sig := { parameters := [.int, .int, .int], returnType := none }, accessFlags := 8, code := some k9c1 }
def k9c2 : Code := { maxStack := 3, maxLocals := 3, code := jdk_65_method_89_code, exceptionTable := #[], attributes := #[] }
def k9m2 : Method := { name := "equals", desc := "([B[B)Z", sig := { parameters := [(.array .byte), (.array .byte)], returnType := some .boolean }, accessFlags := 9, code := some k9c2 }
def k9c3 : Code := { maxStack := 3, maxLocals := 5, code := jdk_65_method_118_code, exceptionTable := #[], attributes := #[] }
def k9m3 : Method := { name := "fill", desc := "([Ljava/lang/Object;IILjava/lang/Object;)V", sig := { parameters := [(.array (.object "java/lang/Object")), .int, .int, (.object "java/lang/Object")], returnType := none }, accessFlags := 9, code := some k9c3 }
def k9c4 : Code := { maxStack := 4, maxLocals := 3, code := jdk_65_method_201_code, exceptionTable := #[], attributes := #[] }
def k9m4 : Method := { name := "compareUnsigned", desc := "([B[B)I", sig := { parameters := [(.array .byte), (.array .byte)], returnType := some .int }, accessFlags := 9, code := some k9c4 }
/-- java/util/Arrays -/
def k9 : Class := { plain "java/util/Arrays" (some 0) with
  accessFlags := 49
  interfaces := #[]
  cf := some (fileOf pool9 14 #[.nestMembers #[975, 375, 113, 74]] #[{ accessFlags := 2, nameIndex := 5, descriptorIndex := 6, attributes := #[] }, { accessFlags := 8, nameIndex := 17, descriptorIndex := 18, attributes := #[] }, { accessFlags := 9, nameIndex := 298, descriptorIndex := 455, attributes := #[] }, { accessFlags := 9, nameIndex := 840, descriptorIndex := 859, attributes := #[] }, { accessFlags := 9, nameIndex := 688, descriptorIndex := 936, attributes := #[] }] 49 2 #[] #[{ accessFlags := 26, nameIndex := 715, descriptorIndex := 716, attributes := #[] }, { accessFlags := 26, nameIndex := 719, descriptorIndex := 716, attributes := #[] }, { accessFlags := 4120, nameIndex := 445, descriptorIndex := 117, attributes := #[] }])
  fields := #[{ name := "MIN_ARRAY_SORT_GRAN", type := .int, accessFlags := 26, slot := 0, constantValue := 0 }, { name := "INSERTIONSORT_THRESHOLD", type := .int, accessFlags := 26, slot := 1, constantValue := 0 }, { name := "$assertionsDisabled", type := .boolean, accessFlags := 4120, slot := 2, constantValue := 0 }]
  methods := #[k9m0, k9m1, k9m2, k9m3, k9m4]
  instanceTypes := #[]
  staticTypes := #[.int, .int, .boolean]
  resolved := Array.replicate 1029 none
  statics := none }

def pool10 : Array CpInfo := pool [(1, .class_ 2), (0, u "java/lang/Math"), (1, .class_ 6), (1, u "java/lang/Object"), (0, u "<init>"), (0, u "()V"), (89, .class_ 100), (1, u "java/lang/Math$RandomNumberGeneratorHolder"), (71, u "negativeZeroFloatBits"), (0, u "J"), (2, u "negativeZeroDoubleBits"), (21, u "max"), (2, u "min"), (43, u "$assertionsDisabled"), (0, u "Z"), (88, u "(II)I"), (2, u "twoToTheDoubleScaleDown"), (0, u "D"), (4, u "twoToTheDoubleScaleUp"), (9, u "E"), (3, u "PI"), (2, u "TAU"), (2, u "DEGREES_TO_RADIANS"), (0, u "RADIANS_TO_DEGREES")] 94

def k10m0 : Method := { name := "<init>", desc := "()V", sig := { parameters := [], returnType := none }, accessFlags := 2, code := none }
def k10c1 : Code := { maxStack := 2, maxLocals := 2, code := jdk_29_method_65_code, exceptionTable := #[], attributes := #[] }
def k10m1 : Method := { name := "max", desc := "(II)I", sig := { parameters := [.int, .int], returnType := some .int }, accessFlags := 9, code := some k10c1 }
def k10c2 : Code := { maxStack := 2, maxLocals := 2, code := jdk_29_method_69_code, exceptionTable := #[], attributes := #[] }
def k10m2 : Method := { name := "min", desc := "(II)I", sig := { parameters := [.int, .int], returnType := some .int }, accessFlags := 9, code := some k10c2 }
/-- java/lang/Math -/
def k10 : Class := { plain "java/lang/Math" (some 0) with
  accessFlags := 49
  interfaces := #[]
  cf := some (fileOf pool10 1 #[.nestMembers #[98]] #[{ accessFlags := 2, nameIndex := 7, descriptorIndex := 8, attributes := #[] }, { accessFlags := 9, nameIndex := 198, descriptorIndex := 335, attributes := #[] }, { accessFlags := 9, nameIndex := 201, descriptorIndex := 335, attributes := #[] }] 49 4 #[] #[{ accessFlags := 25, nameIndex := 354, descriptorIndex := 339, attributes := #[] }, { accessFlags := 25, nameIndex := 358, descriptorIndex := 339, attributes := #[] }, { accessFlags := 25, nameIndex := 361, descriptorIndex := 339, attributes := #[] }, { accessFlags := 26, nameIndex := 364, descriptorIndex := 339, attributes := #[] }, { accessFlags := 26, nameIndex := 365, descriptorIndex := 339, attributes := #[] }, { accessFlags := 26, nameIndex := 172, descriptorIndex := 173, attributes := #[] }, { accessFlags := 26, nameIndex := 176, descriptorIndex := 173, attributes := #[] }, { accessFlags := 8, nameIndex := 344, descriptorIndex := 339, attributes := #[] }, { accessFlags := 8, nameIndex := 338, descriptorIndex := 339, attributes := #[] }, { accessFlags := 4120, nameIndex := 245, descriptorIndex := 246, attributes := #[] }])
  fields := #[{ name := "E", type := .double, accessFlags := 25, slot := 0, constantValue := 0 }, { name := "PI", type := .double, accessFlags := 25, slot := 1, constantValue := 0 }, { name := "TAU", type := .double, accessFlags := 25, slot := 2, constantValue := 0 }, { name := "DEGREES_TO_RADIANS", type := .double, accessFlags := 26, slot := 3, constantValue := 0 }, { name := "RADIANS_TO_DEGREES", type := .double, accessFlags := 26, slot := 4, constantValue := 0 }, { name := "negativeZeroFloatBits", type := .long, accessFlags := 26, slot := 5, constantValue := 0 }, { name := "negativeZeroDoubleBits", type := .long, accessFlags := 26, slot := 6, constantValue := 0 }, { name := "twoToTheDoubleScaleUp", type := .double, accessFlags := 8, slot := 7, constantValue := 0 }, { name := "twoToTheDoubleScaleDown", type := .double, accessFlags := 8, slot := 8, constantValue := 0 }, { name := "$assertionsDisabled", type := .boolean, accessFlags := 4120, slot := 9, constantValue := 0 }]
  methods := #[k10m0, k10m1, k10m2]
  instanceTypes := #[]
  staticTypes := #[.double, .double, .double, .double, .double, .long, .long, .double, .double, .boolean]
  resolved := Array.replicate 460 none
  statics := none }

def pool11 : Array CpInfo := pool [(9, u "<init>"), (6, .class_ 18), (1, u "java/lang/Object"), (0, u "()V"), (1, .class_ 23), (1, u "jdk/internal/util/ArraysSupport"), (0, u "LOG2_ARRAY_LONG_INDEX_SCALE"), (0, u "I"), (2, u "U"), (0, u "Ljdk/internal/misc/Unsafe;"), (8, u "BIG_ENDIAN"), (0, u "Z"), (8, u "LOG2_BYTE_BIT_SIZE"), (4, u "LOG2_ARRAY_INT_INDEX_SCALE"), (54, u "JLA"), (0, u "Ljdk/internal/access/JavaLangAccess;"), (11, u "LOG2_ARRAY_BOOLEAN_INDEX_SCALE"), (9, u "LOG2_ARRAY_BYTE_INDEX_SCALE"), (5, u "LOG2_ARRAY_CHAR_INDEX_SCALE"), (5, u "LOG2_ARRAY_SHORT_INDEX_SCALE"), (5, u "mismatch"), (12, u "LOG2_ARRAY_FLOAT_INDEX_SCALE"), (24, u "LOG2_ARRAY_DOUBLE_INDEX_SCALE"), (89, u "T_BOOLEAN"), (2, u "T_CHAR"), (1, u "T_FLOAT"), (1, u "T_DOUBLE"), (1, u "T_BYTE"), (1, u "T_SHORT"), (1, u "T_INT"), (1, u "T_LONG"), (1, u "SOFT_MAX_ARRAY_LENGTH"), (41, u "([B[BI)I")] 41

def k11m0 : Method := { name := "<init>", desc := "()V", sig := { parameters := [], returnType := none }, accessFlags := 2, code := none }
def k11c1 : Code := { maxStack := 8, maxLocals := 4, code := jdk_48_method_13_code, exceptionTable := #[], attributes := #[] }
def k11m1 : Method := { name := "mismatch", desc := "([B[BI)I", sig := { parameters := [(.array .byte), (.array .byte), .int], returnType := some .int }, accessFlags := 9, code := some k11c1 }
/-- jdk/internal/util/ArraysSupport -/
def k11 : Class := { plain "jdk/internal/util/ArraysSupport" (some 0) with
  accessFlags := 33
  interfaces := #[]
  cf := some (fileOf pool11 21 #[] #[{ accessFlags := 2, nameIndex := 9, descriptorIndex := 19, attributes := #[] }, { accessFlags := 9, nameIndex := 149, descriptorIndex := 336, attributes := #[] }] 33 16 #[] #[{ accessFlags := 24, nameIndex := 28, descriptorIndex := 29, attributes := #[] }, { accessFlags := 26, nameIndex := 38, descriptorIndex := 39, attributes := #[] }, { accessFlags := 25, nameIndex := 121, descriptorIndex := 25, attributes := #[] }, { accessFlags := 25, nameIndex := 131, descriptorIndex := 25, attributes := #[] }, { accessFlags := 25, nameIndex := 137, descriptorIndex := 25, attributes := #[] }, { accessFlags := 25, nameIndex := 143, descriptorIndex := 25, attributes := #[] }, { accessFlags := 25, nameIndex := 53, descriptorIndex := 25, attributes := #[] }, { accessFlags := 25, nameIndex := 24, descriptorIndex := 25, attributes := #[] }, { accessFlags := 25, nameIndex := 162, descriptorIndex := 25, attributes := #[] }, { accessFlags := 25, nameIndex := 187, descriptorIndex := 25, attributes := #[] }, { accessFlags := 26, nameIndex := 48, descriptorIndex := 25, attributes := #[] }, { accessFlags := 25, nameIndex := 277, descriptorIndex := 25, attributes := #[] }, { accessFlags := 25, nameIndex := 280, descriptorIndex := 25, attributes := #[] }, { accessFlags := 25, nameIndex := 282, descriptorIndex := 25, attributes := #[] }, { accessFlags := 25, nameIndex := 284, descriptorIndex := 25, attributes := #[] }, { accessFlags := 25, nameIndex := 286, descriptorIndex := 25, attributes := #[] }, { accessFlags := 25, nameIndex := 288, descriptorIndex := 25, attributes := #[] }, { accessFlags := 25, nameIndex := 290, descriptorIndex := 25, attributes := #[] }, { accessFlags := 25, nameIndex := 292, descriptorIndex := 25, attributes := #[] }, { accessFlags := 26, nameIndex := 108, descriptorIndex := 109, attributes := #[] }, { accessFlags := 25, nameIndex := 294, descriptorIndex := 25, attributes := #[] }])
  fields := #[{ name := "U", type := (.object "jdk/internal/misc/Unsafe"), accessFlags := 24, slot := 0, constantValue := 0 }, { name := "BIG_ENDIAN", type := .boolean, accessFlags := 26, slot := 1, constantValue := 0 }, { name := "LOG2_ARRAY_BOOLEAN_INDEX_SCALE", type := .int, accessFlags := 25, slot := 2, constantValue := 0 }, { name := "LOG2_ARRAY_BYTE_INDEX_SCALE", type := .int, accessFlags := 25, slot := 3, constantValue := 0 }, { name := "LOG2_ARRAY_CHAR_INDEX_SCALE", type := .int, accessFlags := 25, slot := 4, constantValue := 0 }, { name := "LOG2_ARRAY_SHORT_INDEX_SCALE", type := .int, accessFlags := 25, slot := 5, constantValue := 0 }, { name := "LOG2_ARRAY_INT_INDEX_SCALE", type := .int, accessFlags := 25, slot := 6, constantValue := 0 }, { name := "LOG2_ARRAY_LONG_INDEX_SCALE", type := .int, accessFlags := 25, slot := 7, constantValue := 0 }, { name := "LOG2_ARRAY_FLOAT_INDEX_SCALE", type := .int, accessFlags := 25, slot := 8, constantValue := 0 }, { name := "LOG2_ARRAY_DOUBLE_INDEX_SCALE", type := .int, accessFlags := 25, slot := 9, constantValue := 0 }, { name := "LOG2_BYTE_BIT_SIZE", type := .int, accessFlags := 26, slot := 10, constantValue := 0 }, { name := "T_BOOLEAN", type := .int, accessFlags := 25, slot := 11, constantValue := 0 }, { name := "T_CHAR", type := .int, accessFlags := 25, slot := 12, constantValue := 0 }, { name := "T_FLOAT", type := .int, accessFlags := 25, slot := 13, constantValue := 0 }, { name := "T_DOUBLE", type := .int, accessFlags := 25, slot := 14, constantValue := 0 }, { name := "T_BYTE", type := .int, accessFlags := 25, slot := 15, constantValue := 0 }, { name := "T_SHORT", type := .int, accessFlags := 25, slot := 16, constantValue := 0 }, { name := "T_INT", type := .int, accessFlags := 25, slot := 17, constantValue := 0 }, { name := "T_LONG", type := .int, accessFlags := 25, slot := 18, constantValue := 0 }, { name := "JLA", type := (.object "jdk/internal/access/JavaLangAccess"), accessFlags := 26, slot := 19, constantValue := 0 }, { name := "SOFT_MAX_ARRAY_LENGTH", type := .int, accessFlags := 25, slot := 20, constantValue := 0 }]
  methods := #[k11m0, k11m1]
  instanceTypes := #[]
  staticTypes := #[(.object "jdk/internal/misc/Unsafe"), .boolean, .int, .int, .int, .int, .int, .int, .int, .int, .int, .int, .int, .int, .int, .int, .int, .int, .int, (.object "jdk/internal/access/JavaLangAccess"), .int]
  resolved := Array.replicate 378 none
  statics := none }

def pool12 : Array CpInfo := pool [(1, .class_ 2), (0, u "java/io/Serializable"), (0, .class_ 4), (0, u "java/lang/Object")] 2

/-- java/io/Serializable -/
def k12 : Class := { plain "java/io/Serializable" (some 0) with
  accessFlags := 1537
  interfaces := #[]
  cf := some (fileOf pool12 1 #[] #[] 1537 3 #[] #[])
  fields := #[]
  methods := #[]
  instanceTypes := #[]
  staticTypes := #[]
  resolved := Array.replicate 7 none
  statics := none }

def pool13 : Array CpInfo := pool [(2, .class_ 4), (1, u "java/lang/Object"), (0, u "<init>"), (0, u "()V"), (1, .class_ 10), (1, u "java/lang/Number"), (2, .class_ 14), (0, u "java/io/Serializable"), (0, u "serialVersionUID"), (0, u "J")] 20

def k13m0 : Method := { name := "<init>", desc := "()V", sig := { parameters := [], returnType := none }, accessFlags := 1, code := none }
/-- java/lang/Number -/
def k13 : Class := { plain "java/lang/Number" (some 0) with
  accessFlags := 1057
  interfaces := #[12]
  cf := some (fileOf pool13 8 #[] #[{ accessFlags := 1, nameIndex := 5, descriptorIndex := 6, attributes := #[] }] 1057 2 #[13] #[{ accessFlags := 26, nameIndex := 15, descriptorIndex := 16, attributes := #[] }])
  fields := #[{ name := "serialVersionUID", type := .long, accessFlags := 26, slot := 0, constantValue := 0 }]
  methods := #[k13m0]
  instanceTypes := #[]
  staticTypes := #[.long]
  resolved := Array.replicate 37 none
  statics := none }

def pool14 : Array CpInfo := pool [(1, .class_ 2), (0, u "java/lang/Comparable"), (0, .class_ 4), (0, u "java/lang/Object")] 7

/-- java/lang/Comparable -/
def k14 : Class := { plain "java/lang/Comparable" (some 0) with
  accessFlags := 1537
  interfaces := #[]
  cf := some (fileOf pool14 1 #[] #[] 1537 3 #[] #[])
  fields := #[]
  methods := #[]
  instanceTypes := #[]
  staticTypes := #[]
  resolved := Array.replicate 12 none
  statics := none }

def pool15 : Array CpInfo := pool [(1, .class_ 2), (0, u "java/lang/constant/Constable"), (0, .class_ 4), (0, u "java/lang/Object")] 6

/-- java/lang/constant/Constable -/
def k15 : Class := { plain "java/lang/constant/Constable" (some 0) with
  accessFlags := 1537
  interfaces := #[]
  cf := some (fileOf pool15 1 #[] #[] 1537 3 #[] #[])
  fields := #[]
  methods := #[]
  instanceTypes := #[]
  staticTypes := #[]
  resolved := Array.replicate 11 none
  statics := none }

def pool16 : Array CpInfo := pool [(1, .class_ 2), (0, u "java/lang/Byte"), (41, .class_ 46), (1, u "java/lang/Byte$ByteCache"), (51, .class_ 99), (0, u "java/lang/Number"), (2, u "value"), (0, u "B"), (3, u "(B)I"), (7, u "(BB)I"), (0, .methodref 1 117), (0, .nameAndType 118 107), (0, u "toUnsignedInt"), (16, u "TYPE"), (0, u "Ljava/lang/Class;"), (0, .class_ 138), (0, u "java/lang/Comparable"), (0, .class_ 140), (0, u "java/lang/constant/Constable"), (0, u "MIN_VALUE"), (2, u "MAX_VALUE"), (3, u "SIZE"), (0, u "I"), (1, u "BYTES"), (1, u "serialVersionUID"), (0, u "J"), (45, u "compareUnsigned")] 12

def k16c0 : Code := { maxStack := 2, maxLocals := 2, code := jdk_2056_method_23_code, exceptionTable := #[], attributes := #[] }
def k16m0 : Method := { name := "compareUnsigned", desc := "(BB)I", sig := { parameters := [.byte, .byte], returnType := some .int }, accessFlags := 9, code := some k16c0 }
def k16c1 : Code := { maxStack := 2, maxLocals := 1, code := jdk_2056_method_24_code, exceptionTable := #[], attributes := #[] }
def k16m1 : Method := { name := "toUnsignedInt", desc := "(B)I", sig := { parameters := [.byte], returnType := some .int }, accessFlags := 9, code := some k16c1 }
/-- java/lang/Byte -/
def k16 : Class := { plain "java/lang/Byte" (some 13) with
  accessFlags := 49
  interfaces := #[14, 15]
  cf := some (fileOf pool16 1 #[.nestMembers #[44]] #[{ accessFlags := 9, nameIndex := 200, descriptorIndex := 115, attributes := #[] }, { accessFlags := 9, nameIndex := 118, descriptorIndex := 107, attributes := #[] }] 49 98 #[137, 139] #[{ accessFlags := 25, nameIndex := 141, descriptorIndex := 103, attributes := #[] }, { accessFlags := 25, nameIndex := 144, descriptorIndex := 103, attributes := #[] }, { accessFlags := 25, nameIndex := 135, descriptorIndex := 136, attributes := #[] }, { accessFlags := 18, nameIndex := 102, descriptorIndex := 103, attributes := #[] }, { accessFlags := 25, nameIndex := 148, descriptorIndex := 149, attributes := #[] }, { accessFlags := 25, nameIndex := 151, descriptorIndex := 149, attributes := #[] }, { accessFlags := 26, nameIndex := 153, descriptorIndex := 154, attributes := #[] }])
  fields := #[{ name := "MIN_VALUE", type := .byte, accessFlags := 25, slot := 0, constantValue := 0 }, { name := "MAX_VALUE", type := .byte, accessFlags := 25, slot := 1, constantValue := 0 }, { name := "TYPE", type := (.object "java/lang/Class"), accessFlags := 25, slot := 2, constantValue := 0 }, { name := "value", type := .byte, accessFlags := 18, slot := 0, constantValue := 0 }, { name := "SIZE", type := .int, accessFlags := 25, slot := 3, constantValue := 0 }, { name := "BYTES", type := .int, accessFlags := 25, slot := 4, constantValue := 0 }, { name := "serialVersionUID", type := .long, accessFlags := 26, slot := 5, constantValue := 0 }]
  methods := #[k16m0, k16m1]
  instanceTypes := #[.byte]
  staticTypes := #[.byte, .byte, (.object "java/lang/Class"), .int, .int, .long]
  resolved := Array.replicate 213 none
  statics := none }

/-- the primitive byte -/
def k17 : Class := { plain "byte" none with kind := .primitive 'B', accessFlags := 0x411 }
/-- [B -/
def k18 : Class := { plain "[B" (some 0) with kind := .array 17 .byte, interfaces := #[4, 12], accessFlags := 1041 }

/-- the primitive int -/
def k19 : Class := { plain "int" none with kind := .primitive 'I', accessFlags := 0x411 }
/-- [I -/
def k20 : Class := { plain "[I" (some 0) with kind := .array 19 .int, interfaces := #[4, 12], accessFlags := 1041 }

/-- [Lcom/example/contention/contention/KeyTree$Node; -/
def k21 : Class := { plain "[Lcom/example/contention/contention/KeyTree$Node;" (some 0) with kind := .array 3 (.object "com/example/contention/contention/KeyTree$Node"), interfaces := #[4, 12], accessFlags := 1041 }

def classes0 : Array Class := #[k0, k1, k2, k3, k4, k5, k6, k7, k8, k9, k10, k11, k12, k13, k14, k15, k16, k17, k18, k19, k20, k21]
/-- the class that the rule has made for the site at 3 of com/example/contention/contention/KeyTree.from -/
def k22 : Class := Jvm.LamKit.madeRec { classes := classes0 } "com/example/contention/contention/KeyTree" (Jvm.Lambda.Shape.mk "java/lang/Iterable" "iterator" (Jvm.ClassFile.MethodDescriptor.mk ([] : List Jvm.ClassFile.FieldType) (Option.some (Jvm.ClassFile.FieldType.object "java/util/Iterator"))) ([(Jvm.ClassFile.FieldType.object "com/example/contention/contention/KeyTree"), (Jvm.ClassFile.FieldType.array Jvm.ClassFile.FieldType.byte), Jvm.ClassFile.FieldType.boolean] : List Jvm.ClassFile.FieldType) (5 : Nat) "com/example/contention/contention/KeyTree" "lambda$from$0" (Jvm.ClassFile.MethodDescriptor.mk ([(Jvm.ClassFile.FieldType.array Jvm.ClassFile.FieldType.byte), Jvm.ClassFile.FieldType.boolean] : List Jvm.ClassFile.FieldType) (Option.some (Jvm.ClassFile.FieldType.object "java/util/Iterator"))) false (Jvm.ClassFile.MethodDescriptor.mk ([] : List Jvm.ClassFile.FieldType) (Option.some (Jvm.ClassFile.FieldType.object "java/util/Iterator")))) 22

def heap : Heap := #[]
def k23 : Class := { plain "[[B" (some 0) with kind := .array 18 (.array .byte), interfaces := #[4, 12], accessFlags := 1041 }
def classes : Array Class := #[k0, k1, k2, k3, k4, k5, k6, k7, k8, k9, k10, k11, k12, k13, k14, k15, k16, k17, k18, k19, k20, k21, k22, k23]
def interned : List (Array UInt16 × Addr) := []
def slotsUsed : Nat := 0
def theMethod : MethodId := ⟨1, 1⟩
def args0 : Array Value := #[.int 5, .int 7, .int 3]
def aboutOver (below : List Frame) : State where
  vm := { classes := classes, interned := interned.toArray }
  heap := heap
  slotsUsed := slotsUsed
  threads := #[{ frames := .invoking theMethod args0 :: below }]
def below0 : List Frame := [.native { method := ⟨0, 0⟩, args := #[] }]
def about1 : State := aboutOver below0
def p0 : Program := .bare "" "" ""
def e0 : Env := launch0.env 0 0 0
theorem w_frames : about1.frames = Frame.invoking theMethod args0 :: below0 := rfl
set_option maxRecDepth 65536 in
theorem w_args : argsFit about1.vm theMethod args0 = true := by decide +kernel
set_option maxRecDepth 65536 in
theorem w_heap : heapFits about1 = true := by decide +kernel
set_option maxRecDepth 65536 in
theorem w_runnable : about1.curStatus? = some .runnable := by decide +kernel
set_option maxRecDepth 65536 in
theorem w_alone : about1.alone = true := by decide +kernel
set_option maxRecDepth 65536 in
theorem w_named : about1.methodNamed? x = some theMethod := by decide +kernel
set_option maxRecDepth 65536 in
theorem w_hears : about1.hears theMethod below0 = true := by decide +kernel
set_option maxRecDepth 65536 in
theorem w_ripe : about1.ripe theMethod args0 below0 = true := by decide +kernel
theorem w_running : about1.status = .running := rfl
set_option maxRecDepth 65536 in
theorem w_room : about1.hasRoom e0.platform room_1 = true :=
  launch0.hasRoom_least _ room_1 (by decide +kernel) (by decide +kernel) (by decide +kernel) (by decide +kernel) (by decide +kernel) (by decide +kernel)
theorem allAtoms_all (ts : List Jvm.Cond) (a : Array Jvm.Value) (st : Jvm.State) : (allAtoms ts).before a st = ts.all (fun c => c.before a st) := by
  induction ts with
  | nil => rfl
  | cons c t ih =>
    show (Jvm.Cond.and c (allAtoms t)).before a st = _
    rw [Jvm.Cond.before_and, ih, List.all_cons]
def words1 : List Jvm.Cond := Jvm.Cond.code x code maxLocals ret :: tables_1
/-- a 'code' word, met by the world's own term for the bytes: nothing is compared byte by byte -/
theorem code_word {y : MethodName} {bytes : ByteArray} {mx : Nat} {rt : Option FieldType} {a : Array Value} {s : State} {m : MethodId} {meth : Method} {c : Code} (h1 : s.methodNamed? y = some m) (h2 : s.vm.method? m = some meth) (h3 : meth.code = some c) (h4 : c.code = bytes)
    (h5 : (c.maxLocals == mx && c.exceptionTable.isEmpty && decide (c.maxStack ≤ mostOperands) && decide (meth.sig.returnType = rt) && !meth.locks && decide (parseMethodDescriptor y.desc = some meth.sig)) = true) : (Jvm.Cond.code y bytes mx rt).before a s = true := by
  simp only [Bool.and_eq_true, beq_iff_eq, Bool.not_eq_true', decide_eq_true_eq] at h5
  obtain ⟨⟨⟨⟨⟨g1, g2⟩, g3⟩, g4⟩, g5⟩, g6⟩ := h5
  simp [Cond.before, Cond.holds, Cond.value, h1, h2, h3, h4, g1, g2, g3, g4, g5, g6]
def isCode : Jvm.Cond → Bool
  | .code _ _ _ _ => true
  | _ => false
theorem all_split {L : List Jvm.Cond} {P : Jvm.Cond → Bool} (h1 : L.all (fun c => isCode c || P c) = true) (h2 : ∀ c ∈ L.filter isCode, P c = true) : L.all P = true := by
  refine List.all_eq_true.mpr fun c hc => ?_
  have h := List.all_eq_true.mp h1 c hc
  rcases Bool.eq_false_or_eq_true (isCode c) with hi | hi
  · exact h2 c (List.mem_filter.mpr ⟨hc, hi⟩)
  · simpa [hi] using h
set_option maxRecDepth 65536 in
theorem w_c0 : (Jvm.Cond.code x code maxLocals ret).before args0 about1 = true := code_word (m := ⟨1, 1⟩) (meth := k1m1) (c := k1c1) (by decide +kernel) rfl rfl rfl (by decide +kernel)
set_option maxRecDepth 65536 in
theorem w_c1 : (Jvm.Cond.code ({ cls := "com/example/contention/contention/KeyTree", name := "<init>", desc := "()V" } : Jvm.MethodName) prog_35_method_1_code (1 : Nat) (Option.none : Option Jvm.ClassFile.FieldType)).before args0 about1 = true := code_word (m := ⟨2, 0⟩) (meth := k2m0) (c := k2c0) (by decide +kernel) rfl rfl rfl (by decide +kernel)
set_option maxRecDepth 65536 in
theorem w_c2 : (Jvm.Cond.code ({ cls := "java/lang/Object", name := "<init>", desc := "()V" } : Jvm.MethodName) object_method_1_code (1 : Nat) (Option.none : Option Jvm.ClassFile.FieldType)).before args0 about1 = true := code_word (m := ⟨0, 0⟩) (meth := k0m0) (c := k0c0) (by decide +kernel) rfl rfl rfl (by decide +kernel)
set_option maxRecDepth 65536 in
theorem w_c3 : (Jvm.Cond.code ({ cls := "com/example/contention/contention/KeyTree$Node", name := "<init>", desc := "(JZ)V" } : Jvm.MethodName) prog_36_method_1_code (4 : Nat) (Option.none : Option Jvm.ClassFile.FieldType)).before args0 about1 = true := code_word (m := ⟨3, 0⟩) (meth := k3m0) (c := k3c0) (by decide +kernel) rfl rfl rfl (by decide +kernel)
set_option maxRecDepth 65536 in
theorem w_c4 : (Jvm.Cond.code ({ cls := "com/example/contention/contention/KeyTree", name := "add", desc := "([B)Z" } : Jvm.MethodName) prog_35_method_4_code (5 : Nat) (Option.some Jvm.ClassFile.FieldType.boolean)).before args0 about1 = true := code_word (m := ⟨2, 1⟩) (meth := k2m1) (c := k2c1) (by decide +kernel) rfl rfl rfl (by decide +kernel)
set_option maxRecDepth 65536 in
theorem w_c5 : (Jvm.Cond.code ({ cls := "com/example/contention/contention/KeyTree", name := "owned", desc := "(Lcom/example/contention/contention/KeyTree$Node;)Lcom/example/contention/contention/KeyTree$Node;" } : Jvm.MethodName) prog_35_method_10_code (2 : Nat) (Option.some (Jvm.ClassFile.FieldType.object "com/example/contention/contention/KeyTree$Node"))).before args0 about1 = true := code_word (m := ⟨2, 6⟩) (meth := k2m6) (c := k2c6) (by decide +kernel) rfl rfl rfl (by decide +kernel)
set_option maxRecDepth 65536 in
theorem w_c6 : (Jvm.Cond.code ({ cls := "com/example/contention/contention/KeyTree$Node", name := "<init>", desc := "(JLcom/example/contention/contention/KeyTree$Node;)V" } : Jvm.MethodName) prog_36_method_2_code (4 : Nat) (Option.none : Option Jvm.ClassFile.FieldType)).before args0 about1 = true := code_word (m := ⟨3, 1⟩) (meth := k3m1) (c := k3c1) (by decide +kernel) rfl rfl rfl (by decide +kernel)
set_option maxRecDepth 65536 in
theorem w_c7 : (Jvm.Cond.code ({ cls := "com/example/contention/contention/KeyTree", name := "insert", desc := "(Lcom/example/contention/contention/KeyTree$Node;[B)Lcom/example/contention/contention/KeyTree$Node;" } : Jvm.MethodName) prog_35_method_11_code (6 : Nat) (Option.some (Jvm.ClassFile.FieldType.object "com/example/contention/contention/KeyTree$Node"))).before args0 about1 = true := code_word (m := ⟨2, 7⟩) (meth := k2m7) (c := k2c7) (by decide +kernel) rfl rfl rfl (by decide +kernel)
set_option maxRecDepth 65536 in
theorem w_c8 : (Jvm.Cond.code ({ cls := "com/example/contention/contention/KeyTree$Node", name := "isLeaf", desc := "()Z" } : Jvm.MethodName) prog_36_method_3_code (1 : Nat) (Option.some Jvm.ClassFile.FieldType.boolean)).before args0 about1 = true := code_word (m := ⟨3, 2⟩) (meth := k3m2) (c := k3c2) (by decide +kernel) rfl rfl rfl (by decide +kernel)
set_option maxRecDepth 65536 in
theorem w_c9 : (Jvm.Cond.code ({ cls := "com/example/contention/contention/KeyTree", name := "lowerBound", desc := "(Lcom/example/contention/contention/KeyTree$Node;[B)I" } : Jvm.MethodName) prog_35_method_8_code (5 : Nat) (Option.some Jvm.ClassFile.FieldType.int)).before args0 about1 = true := code_word (m := ⟨2, 5⟩) (meth := k2m5) (c := k2c5) (by decide +kernel) rfl rfl rfl (by decide +kernel)
set_option maxRecDepth 65536 in
theorem w_c10 : (Jvm.Cond.code ({ cls := "com/example/contention/contention/KeyTree", name := "putOrSplit", desc := "(Lcom/example/contention/contention/KeyTree$Node;I[BLcom/example/contention/contention/KeyTree$Node;)Lcom/example/contention/contention/KeyTree$Node;" } : Jvm.MethodName) prog_35_method_12_code (7 : Nat) (Option.some (Jvm.ClassFile.FieldType.object "com/example/contention/contention/KeyTree$Node"))).before args0 about1 = true := code_word (m := ⟨2, 8⟩) (meth := k2m8) (c := k2c8) (by decide +kernel) rfl rfl rfl (by decide +kernel)
set_option maxRecDepth 65536 in
theorem w_c11 : (Jvm.Cond.code ({ cls := "com/example/contention/contention/KeyTree$Node", name := "put", desc := "(I[BLcom/example/contention/contention/KeyTree$Node;)V" } : Jvm.MethodName) prog_36_method_4_code (4 : Nat) (Option.none : Option Jvm.ClassFile.FieldType)).before args0 about1 = true := code_word (m := ⟨3, 3⟩) (meth := k3m3) (c := k3c3) (by decide +kernel) rfl rfl rfl (by decide +kernel)
set_option maxRecDepth 65536 in
theorem w_c12 : (Jvm.Cond.code ({ cls := "com/example/contention/contention/KeyTreePublishPinLaw", name := "seen", desc := "(Lcom/example/contention/contention/KeyTree;)I" } : Jvm.MethodName) method_6_code (4 : Nat) (Option.some Jvm.ClassFile.FieldType.int)).before args0 about1 = true := code_word (m := ⟨1, 5⟩) (meth := k1m5) (c := k1c5) (by decide +kernel) rfl rfl rfl (by decide +kernel)
set_option maxRecDepth 65536 in
theorem w_c13 : (Jvm.Cond.code ({ cls := "com/example/contention/contention/KeyTree", name := "from", desc := "([BZ)Ljava/lang/Iterable;" } : Jvm.MethodName) prog_35_method_7_code (3 : Nat) (Option.some (Jvm.ClassFile.FieldType.object "java/lang/Iterable"))).before args0 about1 = true := code_word (m := ⟨2, 4⟩) (meth := k2m4) (c := k2c4) (by decide +kernel) rfl rfl rfl (by decide +kernel)
set_option maxRecDepth 65536 in
theorem w_c14 : (Jvm.Cond.code ({ cls := "com/example/contention/contention/KeyTree", name := "lambda$from$0", desc := "([BZ)Ljava/util/Iterator;" } : Jvm.MethodName) prog_35_method_15_code (3 : Nat) (Option.some (Jvm.ClassFile.FieldType.object "java/util/Iterator"))).before args0 about1 = true := code_word (m := ⟨2, 10⟩) (meth := k2m10) (c := k2c10) (by decide +kernel) rfl rfl rfl (by decide +kernel)
set_option maxRecDepth 65536 in
theorem w_c15 : (Jvm.Cond.code ({ cls := "com/example/contention/contention/KeyTree$Walk", name := "<init>", desc := "(Lcom/example/contention/contention/KeyTree$Node;[BZ)V" } : Jvm.MethodName) prog_37_method_1_code (7 : Nat) (Option.none : Option Jvm.ClassFile.FieldType)).before args0 about1 = true := code_word (m := ⟨8, 0⟩) (meth := k8m0) (c := k8c0) (by decide +kernel) rfl rfl rfl (by decide +kernel)
set_option maxRecDepth 65536 in
theorem w_c16 : (Jvm.Cond.code ({ cls := "com/example/contention/contention/KeyTree$Walk", name := "settle", desc := "()V" } : Jvm.MethodName) prog_37_method_4_code (4 : Nat) (Option.none : Option Jvm.ClassFile.FieldType)).before args0 about1 = true := code_word (m := ⟨8, 3⟩) (meth := k8m3) (c := k8c3) (by decide +kernel) rfl rfl rfl (by decide +kernel)
set_option maxRecDepth 65536 in
theorem w_c17 : (Jvm.Cond.code ({ cls := "com/example/contention/contention/KeyTree$Walk", name := "hasNext", desc := "()Z" } : Jvm.MethodName) prog_37_method_2_code (1 : Nat) (Option.some Jvm.ClassFile.FieldType.boolean)).before args0 about1 = true := code_word (m := ⟨8, 1⟩) (meth := k8m1) (c := k8c1) (by decide +kernel) rfl rfl rfl (by decide +kernel)
set_option maxRecDepth 65536 in
theorem w_c18 : (Jvm.Cond.code ({ cls := "java/util/Arrays", name := "compareUnsigned", desc := "([B[B)I" } : Jvm.MethodName) jdk_65_method_201_code (3 : Nat) (Option.some Jvm.ClassFile.FieldType.int)).before args0 about1 = true := code_word (m := ⟨9, 4⟩) (meth := k9m4) (c := k9c4) (by decide +kernel) rfl rfl rfl (by decide +kernel)
set_option maxRecDepth 65536 in
theorem w_c19 : (Jvm.Cond.code ({ cls := "java/lang/Math", name := "min", desc := "(II)I" } : Jvm.MethodName) jdk_29_method_69_code (2 : Nat) (Option.some Jvm.ClassFile.FieldType.int)).before args0 about1 = true := code_word (m := ⟨10, 2⟩) (meth := k10m2) (c := k10c2) (by decide +kernel) rfl rfl rfl (by decide +kernel)
set_option maxRecDepth 65536 in
theorem w_c20 : (Jvm.Cond.code ({ cls := "jdk/internal/util/ArraysSupport", name := "mismatch", desc := "([B[BI)I" } : Jvm.MethodName) jdk_48_method_13_code (4 : Nat) (Option.some Jvm.ClassFile.FieldType.int)).before args0 about1 = true := code_word (m := ⟨11, 1⟩) (meth := k11m1) (c := k11c1) (by decide +kernel) rfl rfl rfl (by decide +kernel)
set_option maxRecDepth 65536 in
theorem w_c21 : (Jvm.Cond.code ({ cls := "java/lang/Byte", name := "compareUnsigned", desc := "(BB)I" } : Jvm.MethodName) jdk_2056_method_23_code (2 : Nat) (Option.some Jvm.ClassFile.FieldType.int)).before args0 about1 = true := code_word (m := ⟨16, 0⟩) (meth := k16m0) (c := k16c0) (by decide +kernel) rfl rfl rfl (by decide +kernel)
set_option maxRecDepth 65536 in
theorem w_c22 : (Jvm.Cond.code ({ cls := "java/lang/Byte", name := "toUnsignedInt", desc := "(B)I" } : Jvm.MethodName) jdk_2056_method_24_code (1 : Nat) (Option.some Jvm.ClassFile.FieldType.int)).before args0 about1 = true := code_word (m := ⟨16, 1⟩) (meth := k16m1) (c := k16c1) (by decide +kernel) rfl rfl rfl (by decide +kernel)
set_option maxRecDepth 65536 in
theorem w_c23 : (Jvm.Cond.code ({ cls := "com/example/contention/contention/KeyTree", name := "remove", desc := "([B)Z" } : Jvm.MethodName) prog_35_method_5_code (3 : Nat) (Option.some Jvm.ClassFile.FieldType.boolean)).before args0 about1 = true := code_word (m := ⟨2, 2⟩) (meth := k2m2) (c := k2c2) (by decide +kernel) rfl rfl rfl (by decide +kernel)
set_option maxRecDepth 65536 in
theorem w_c24 : (Jvm.Cond.code ({ cls := "com/example/contention/contention/KeyTree", name := "delete", desc := "(Lcom/example/contention/contention/KeyTree$Node;[B)V" } : Jvm.MethodName) prog_35_method_13_code (5 : Nat) (Option.none : Option Jvm.ClassFile.FieldType)).before args0 about1 = true := code_word (m := ⟨2, 9⟩) (meth := k2m9) (c := k2c9) (by decide +kernel) rfl rfl rfl (by decide +kernel)
set_option maxRecDepth 65536 in
theorem w_c25 : (Jvm.Cond.code ({ cls := "java/util/Arrays", name := "equals", desc := "([B[B)Z" } : Jvm.MethodName) jdk_65_method_89_code (3 : Nat) (Option.some Jvm.ClassFile.FieldType.boolean)).before args0 about1 = true := code_word (m := ⟨9, 2⟩) (meth := k9m2) (c := k9c2) (by decide +kernel) rfl rfl rfl (by decide +kernel)
set_option maxRecDepth 65536 in
theorem w_c26 : (Jvm.Cond.code ({ cls := "com/example/contention/contention/KeyTree$Node", name := "removeAt", desc := "(I)V" } : Jvm.MethodName) prog_36_method_5_code (2 : Nat) (Option.none : Option Jvm.ClassFile.FieldType)).before args0 about1 = true := code_word (m := ⟨3, 4⟩) (meth := k3m4) (c := k3c4) (by decide +kernel) rfl rfl rfl (by decide +kernel)
set_option maxRecDepth 65536 in
theorem w_c27 : (Jvm.Cond.code ({ cls := "com/example/contention/contention/KeyTree$Node", name := "dropRange", desc := "(II)V" } : Jvm.MethodName) prog_36_method_6_code (4 : Nat) (Option.none : Option Jvm.ClassFile.FieldType)).before args0 about1 = true := code_word (m := ⟨3, 5⟩) (meth := k3m5) (c := k3c5) (by decide +kernel) rfl rfl rfl (by decide +kernel)
set_option maxRecDepth 65536 in
theorem w_c28 : (Jvm.Cond.code ({ cls := "java/util/Arrays", name := "fill", desc := "([Ljava/lang/Object;IILjava/lang/Object;)V" } : Jvm.MethodName) jdk_65_method_118_code (5 : Nat) (Option.none : Option Jvm.ClassFile.FieldType)).before args0 about1 = true := code_word (m := ⟨9, 3⟩) (meth := k9m3) (c := k9c3) (by decide +kernel) rfl rfl rfl (by decide +kernel)
set_option maxRecDepth 65536 in
theorem w_c29 : (Jvm.Cond.code ({ cls := "java/util/Arrays", name := "rangeCheck", desc := "(III)V" } : Jvm.MethodName) jdk_65_method_30_code (3 : Nat) (Option.none : Option Jvm.ClassFile.FieldType)).before args0 about1 = true := code_word (m := ⟨9, 1⟩) (meth := k9m1) (c := k9c1) (by decide +kernel) rfl rfl rfl (by decide +kernel)
set_option maxRecDepth 65536 in
theorem w_c30 : (Jvm.Cond.code ({ cls := "com/example/contention/contention/KeyTree", name := "publish", desc := "()V" } : Jvm.MethodName) prog_35_method_6_code (1 : Nat) (Option.none : Option Jvm.ClassFile.FieldType)).before args0 about1 = true := code_word (m := ⟨2, 3⟩) (meth := k2m3) (c := k2c3) (by decide +kernel) rfl rfl rfl (by decide +kernel)
set_option maxRecDepth 65536 in
theorem w_c31 : (Jvm.Cond.code ({ cls := "com/example/contention/contention/KeyTreePublishPinLaw", name := "one", desc := "(I)I" } : Jvm.MethodName) method_3_code (1 : Nat) (Option.some Jvm.ClassFile.FieldType.int)).before args0 about1 = true := code_word (m := ⟨1, 2⟩) (meth := k1m2) (c := k1c2) (by decide +kernel) rfl rfl rfl (by decide +kernel)
set_option maxRecDepth 65536 in
theorem w_c32 : (Jvm.Cond.code ({ cls := "com/example/contention/contention/KeyTree$Walk", name := "next", desc := "()Ljava/lang/Object;" } : Jvm.MethodName) prog_37_method_5_code (1 : Nat) (Option.some (Jvm.ClassFile.FieldType.object "java/lang/Object"))).before args0 about1 = true := code_word (m := ⟨8, 4⟩) (meth := k8m4) (c := k8c4) (by decide +kernel) rfl rfl rfl (by decide +kernel)
set_option maxRecDepth 65536 in
theorem w_c33 : (Jvm.Cond.code ({ cls := "com/example/contention/contention/KeyTree$Walk", name := "next", desc := "()[B" } : Jvm.MethodName) prog_37_method_3_code (2 : Nat) (Option.some (Jvm.ClassFile.FieldType.array Jvm.ClassFile.FieldType.byte))).before args0 about1 = true := code_word (m := ⟨8, 2⟩) (meth := k8m2) (c := k8c2) (by decide +kernel) rfl rfl rfl (by decide +kernel)
set_option maxRecDepth 65536 in
theorem w_c34 : (Jvm.Cond.code ({ cls := "com/example/contention/contention/KeyTreePublishPinLaw", name := "code", desc := "([B)I" } : Jvm.MethodName) method_5_code (1 : Nat) (Option.some Jvm.ClassFile.FieldType.int)).before args0 about1 = true := code_word (m := ⟨1, 4⟩) (meth := k1m4) (c := k1c4) (by decide +kernel) rfl rfl rfl (by decide +kernel)
set_option maxRecDepth 65536 in
theorem w_c35 : (Jvm.Cond.code ({ cls := "java/lang/Math", name := "max", desc := "(II)I" } : Jvm.MethodName) jdk_29_method_65_code (2 : Nat) (Option.some Jvm.ClassFile.FieldType.int)).before args0 about1 = true := code_word (m := ⟨10, 1⟩) (meth := k10m1) (c := k10c1) (by decide +kernel) rfl rfl rfl (by decide +kernel)
set_option maxRecDepth 65536 in
theorem w_c36 : (Jvm.Cond.code ({ cls := "com/example/contention/contention/KeyTreePublishPinLaw", name := "two", desc := "(II)I" } : Jvm.MethodName) method_4_code (2 : Nat) (Option.some Jvm.ClassFile.FieldType.int)).before args0 about1 = true := code_word (m := ⟨1, 3⟩) (meth := k1m3) (c := k1c3) (by decide +kernel) rfl rfl rfl (by decide +kernel)
def codes1 : List Jvm.Cond := [Jvm.Cond.code x code maxLocals ret, Jvm.Cond.code ({ cls := "com/example/contention/contention/KeyTree", name := "<init>", desc := "()V" } : Jvm.MethodName) prog_35_method_1_code (1 : Nat) (Option.none : Option Jvm.ClassFile.FieldType), Jvm.Cond.code ({ cls := "java/lang/Object", name := "<init>", desc := "()V" } : Jvm.MethodName) object_method_1_code (1 : Nat) (Option.none : Option Jvm.ClassFile.FieldType), Jvm.Cond.code ({ cls := "com/example/contention/contention/KeyTree$Node", name := "<init>", desc := "(JZ)V" } : Jvm.MethodName) prog_36_method_1_code (4 : Nat) (Option.none : Option Jvm.ClassFile.FieldType), Jvm.Cond.code ({ cls := "com/example/contention/contention/KeyTree", name := "add", desc := "([B)Z" } : Jvm.MethodName) prog_35_method_4_code (5 : Nat) (Option.some Jvm.ClassFile.FieldType.boolean), Jvm.Cond.code ({ cls := "com/example/contention/contention/KeyTree", name := "owned", desc := "(Lcom/example/contention/contention/KeyTree$Node;)Lcom/example/contention/contention/KeyTree$Node;" } : Jvm.MethodName) prog_35_method_10_code (2 : Nat) (Option.some (Jvm.ClassFile.FieldType.object "com/example/contention/contention/KeyTree$Node")), Jvm.Cond.code ({ cls := "com/example/contention/contention/KeyTree$Node", name := "<init>", desc := "(JLcom/example/contention/contention/KeyTree$Node;)V" } : Jvm.MethodName) prog_36_method_2_code (4 : Nat) (Option.none : Option Jvm.ClassFile.FieldType), Jvm.Cond.code ({ cls := "com/example/contention/contention/KeyTree", name := "insert", desc := "(Lcom/example/contention/contention/KeyTree$Node;[B)Lcom/example/contention/contention/KeyTree$Node;" } : Jvm.MethodName) prog_35_method_11_code (6 : Nat) (Option.some (Jvm.ClassFile.FieldType.object "com/example/contention/contention/KeyTree$Node")), Jvm.Cond.code ({ cls := "com/example/contention/contention/KeyTree$Node", name := "isLeaf", desc := "()Z" } : Jvm.MethodName) prog_36_method_3_code (1 : Nat) (Option.some Jvm.ClassFile.FieldType.boolean), Jvm.Cond.code ({ cls := "com/example/contention/contention/KeyTree", name := "lowerBound", desc := "(Lcom/example/contention/contention/KeyTree$Node;[B)I" } : Jvm.MethodName) prog_35_method_8_code (5 : Nat) (Option.some Jvm.ClassFile.FieldType.int), Jvm.Cond.code ({ cls := "com/example/contention/contention/KeyTree", name := "putOrSplit", desc := "(Lcom/example/contention/contention/KeyTree$Node;I[BLcom/example/contention/contention/KeyTree$Node;)Lcom/example/contention/contention/KeyTree$Node;" } : Jvm.MethodName) prog_35_method_12_code (7 : Nat) (Option.some (Jvm.ClassFile.FieldType.object "com/example/contention/contention/KeyTree$Node")), Jvm.Cond.code ({ cls := "com/example/contention/contention/KeyTree$Node", name := "put", desc := "(I[BLcom/example/contention/contention/KeyTree$Node;)V" } : Jvm.MethodName) prog_36_method_4_code (4 : Nat) (Option.none : Option Jvm.ClassFile.FieldType), Jvm.Cond.code ({ cls := "com/example/contention/contention/KeyTreePublishPinLaw", name := "seen", desc := "(Lcom/example/contention/contention/KeyTree;)I" } : Jvm.MethodName) method_6_code (4 : Nat) (Option.some Jvm.ClassFile.FieldType.int), Jvm.Cond.code ({ cls := "com/example/contention/contention/KeyTree", name := "from", desc := "([BZ)Ljava/lang/Iterable;" } : Jvm.MethodName) prog_35_method_7_code (3 : Nat) (Option.some (Jvm.ClassFile.FieldType.object "java/lang/Iterable")), Jvm.Cond.code ({ cls := "com/example/contention/contention/KeyTree", name := "lambda$from$0", desc := "([BZ)Ljava/util/Iterator;" } : Jvm.MethodName) prog_35_method_15_code (3 : Nat) (Option.some (Jvm.ClassFile.FieldType.object "java/util/Iterator")), Jvm.Cond.code ({ cls := "com/example/contention/contention/KeyTree$Walk", name := "<init>", desc := "(Lcom/example/contention/contention/KeyTree$Node;[BZ)V" } : Jvm.MethodName) prog_37_method_1_code (7 : Nat) (Option.none : Option Jvm.ClassFile.FieldType), Jvm.Cond.code ({ cls := "com/example/contention/contention/KeyTree$Walk", name := "settle", desc := "()V" } : Jvm.MethodName) prog_37_method_4_code (4 : Nat) (Option.none : Option Jvm.ClassFile.FieldType), Jvm.Cond.code ({ cls := "com/example/contention/contention/KeyTree$Walk", name := "hasNext", desc := "()Z" } : Jvm.MethodName) prog_37_method_2_code (1 : Nat) (Option.some Jvm.ClassFile.FieldType.boolean), Jvm.Cond.code ({ cls := "java/util/Arrays", name := "compareUnsigned", desc := "([B[B)I" } : Jvm.MethodName) jdk_65_method_201_code (3 : Nat) (Option.some Jvm.ClassFile.FieldType.int), Jvm.Cond.code ({ cls := "java/lang/Math", name := "min", desc := "(II)I" } : Jvm.MethodName) jdk_29_method_69_code (2 : Nat) (Option.some Jvm.ClassFile.FieldType.int), Jvm.Cond.code ({ cls := "jdk/internal/util/ArraysSupport", name := "mismatch", desc := "([B[BI)I" } : Jvm.MethodName) jdk_48_method_13_code (4 : Nat) (Option.some Jvm.ClassFile.FieldType.int), Jvm.Cond.code ({ cls := "java/lang/Byte", name := "compareUnsigned", desc := "(BB)I" } : Jvm.MethodName) jdk_2056_method_23_code (2 : Nat) (Option.some Jvm.ClassFile.FieldType.int), Jvm.Cond.code ({ cls := "java/lang/Byte", name := "toUnsignedInt", desc := "(B)I" } : Jvm.MethodName) jdk_2056_method_24_code (1 : Nat) (Option.some Jvm.ClassFile.FieldType.int), Jvm.Cond.code ({ cls := "com/example/contention/contention/KeyTree", name := "remove", desc := "([B)Z" } : Jvm.MethodName) prog_35_method_5_code (3 : Nat) (Option.some Jvm.ClassFile.FieldType.boolean), Jvm.Cond.code ({ cls := "com/example/contention/contention/KeyTree", name := "delete", desc := "(Lcom/example/contention/contention/KeyTree$Node;[B)V" } : Jvm.MethodName) prog_35_method_13_code (5 : Nat) (Option.none : Option Jvm.ClassFile.FieldType), Jvm.Cond.code ({ cls := "java/util/Arrays", name := "equals", desc := "([B[B)Z" } : Jvm.MethodName) jdk_65_method_89_code (3 : Nat) (Option.some Jvm.ClassFile.FieldType.boolean), Jvm.Cond.code ({ cls := "com/example/contention/contention/KeyTree$Node", name := "removeAt", desc := "(I)V" } : Jvm.MethodName) prog_36_method_5_code (2 : Nat) (Option.none : Option Jvm.ClassFile.FieldType), Jvm.Cond.code ({ cls := "com/example/contention/contention/KeyTree$Node", name := "dropRange", desc := "(II)V" } : Jvm.MethodName) prog_36_method_6_code (4 : Nat) (Option.none : Option Jvm.ClassFile.FieldType), Jvm.Cond.code ({ cls := "java/util/Arrays", name := "fill", desc := "([Ljava/lang/Object;IILjava/lang/Object;)V" } : Jvm.MethodName) jdk_65_method_118_code (5 : Nat) (Option.none : Option Jvm.ClassFile.FieldType), Jvm.Cond.code ({ cls := "java/util/Arrays", name := "rangeCheck", desc := "(III)V" } : Jvm.MethodName) jdk_65_method_30_code (3 : Nat) (Option.none : Option Jvm.ClassFile.FieldType), Jvm.Cond.code ({ cls := "com/example/contention/contention/KeyTree", name := "publish", desc := "()V" } : Jvm.MethodName) prog_35_method_6_code (1 : Nat) (Option.none : Option Jvm.ClassFile.FieldType), Jvm.Cond.code ({ cls := "com/example/contention/contention/KeyTreePublishPinLaw", name := "one", desc := "(I)I" } : Jvm.MethodName) method_3_code (1 : Nat) (Option.some Jvm.ClassFile.FieldType.int), Jvm.Cond.code ({ cls := "com/example/contention/contention/KeyTree$Walk", name := "next", desc := "()Ljava/lang/Object;" } : Jvm.MethodName) prog_37_method_5_code (1 : Nat) (Option.some (Jvm.ClassFile.FieldType.object "java/lang/Object")), Jvm.Cond.code ({ cls := "com/example/contention/contention/KeyTree$Walk", name := "next", desc := "()[B" } : Jvm.MethodName) prog_37_method_3_code (2 : Nat) (Option.some (Jvm.ClassFile.FieldType.array Jvm.ClassFile.FieldType.byte)), Jvm.Cond.code ({ cls := "com/example/contention/contention/KeyTreePublishPinLaw", name := "code", desc := "([B)I" } : Jvm.MethodName) method_5_code (1 : Nat) (Option.some Jvm.ClassFile.FieldType.int), Jvm.Cond.code ({ cls := "java/lang/Math", name := "max", desc := "(II)I" } : Jvm.MethodName) jdk_29_method_65_code (2 : Nat) (Option.some Jvm.ClassFile.FieldType.int), Jvm.Cond.code ({ cls := "com/example/contention/contention/KeyTreePublishPinLaw", name := "two", desc := "(II)I" } : Jvm.MethodName) method_4_code (2 : Nat) (Option.some Jvm.ClassFile.FieldType.int)]
set_option maxRecDepth 65536 in
theorem codes_eq : words1.filter isCode = codes1 := rfl
theorem w_codes : ∀ c ∈ words1.filter isCode, c.before args0 about1 = true := by
  rw [codes_eq]
  intro c hc
  simp only [codes1, List.mem_cons, List.not_mem_nil, or_false] at hc
  rcases hc with rfl | rfl | rfl | rfl | rfl | rfl | rfl | rfl | rfl | rfl | rfl | rfl | rfl | rfl | rfl | rfl | rfl | rfl | rfl | rfl | rfl | rfl | rfl | rfl | rfl | rfl | rfl | rfl | rfl | rfl | rfl | rfl | rfl | rfl | rfl | rfl | rfl
  · exact w_c0
  · exact w_c1
  · exact w_c2
  · exact w_c3
  · exact w_c4
  · exact w_c5
  · exact w_c6
  · exact w_c7
  · exact w_c8
  · exact w_c9
  · exact w_c10
  · exact w_c11
  · exact w_c12
  · exact w_c13
  · exact w_c14
  · exact w_c15
  · exact w_c16
  · exact w_c17
  · exact w_c18
  · exact w_c19
  · exact w_c20
  · exact w_c21
  · exact w_c22
  · exact w_c23
  · exact w_c24
  · exact w_c25
  · exact w_c26
  · exact w_c27
  · exact w_c28
  · exact w_c29
  · exact w_c30
  · exact w_c31
  · exact w_c32
  · exact w_c33
  · exact w_c34
  · exact w_c35
  · exact w_c36
set_option maxRecDepth 65536 in
theorem w_t1 : (words1.take 24).all (fun c => isCode c || c.before args0 about1) = true := by decide +kernel
set_option maxRecDepth 65536 in
theorem w_t2 : ((words1.drop 24).take 24).all (fun c => isCode c || c.before args0 about1) = true := by decide +kernel
set_option maxRecDepth 65536 in
theorem w_t3 : (((words1.drop 24).drop 24).take 24).all (fun c => isCode c || c.before args0 about1) = true := by decide +kernel
set_option maxRecDepth 65536 in
theorem w_t4 : ((((words1.drop 24).drop 24).drop 24).take 24).all (fun c => isCode c || c.before args0 about1) = true := by decide +kernel
set_option maxRecDepth 65536 in
theorem w_t5 : (((((words1.drop 24).drop 24).drop 24).drop 24).take 24).all (fun c => isCode c || c.before args0 about1) = true := by decide +kernel
set_option maxRecDepth 65536 in
theorem w_t6 : ((((((words1.drop 24).drop 24).drop 24).drop 24).drop 24).take 24).all (fun c => isCode c || c.before args0 about1) = true := by decide +kernel
set_option maxRecDepth 65536 in
theorem w_t7 : (((((((words1.drop 24).drop 24).drop 24).drop 24).drop 24).drop 24).take 24).all (fun c => isCode c || c.before args0 about1) = true := by decide +kernel
set_option maxRecDepth 65536 in
theorem w_t8 : ((((((((words1.drop 24).drop 24).drop 24).drop 24).drop 24).drop 24).drop 24).take 24).all (fun c => isCode c || c.before args0 about1) = true := by decide +kernel
set_option maxRecDepth 65536 in
theorem w_t9 : (((((((((words1.drop 24).drop 24).drop 24).drop 24).drop 24).drop 24).drop 24).drop 24).take 24).all (fun c => isCode c || c.before args0 about1) = true := by decide +kernel
set_option maxRecDepth 65536 in
theorem w_t10 : (((((((((words1.drop 24).drop 24).drop 24).drop 24).drop 24).drop 24).drop 24).drop 24).drop 24).all (fun c => isCode c || c.before args0 about1) = true := by decide +kernel
theorem w_tables : (allAtoms (Jvm.Cond.code x code maxLocals ret :: tables_1)).before args0 about1 = true := by
  rw [allAtoms_all]
  show words1.all (fun c => c.before args0 about1) = true
  refine all_split ?_ w_codes
  rw [← List.take_append_drop 24 words1, List.all_append, w_t1, ← List.take_append_drop 24 (words1.drop 24), List.all_append, w_t2, ← List.take_append_drop 24 ((words1.drop 24).drop 24), List.all_append, w_t3, ← List.take_append_drop 24 (((words1.drop 24).drop 24).drop 24), List.all_append, w_t4, ← List.take_append_drop 24 ((((words1.drop 24).drop 24).drop 24).drop 24), List.all_append, w_t5, ← List.take_append_drop 24 (((((words1.drop 24).drop 24).drop 24).drop 24).drop 24), List.all_append, w_t6, ← List.take_append_drop 24 ((((((words1.drop 24).drop 24).drop 24).drop 24).drop 24).drop 24), List.all_append, w_t7, ← List.take_append_drop 24 (((((((words1.drop 24).drop 24).drop 24).drop 24).drop 24).drop 24).drop 24), List.all_append, w_t8, ← List.take_append_drop 24 ((((((((words1.drop 24).drop 24).drop 24).drop 24).drop 24).drop 24).drop 24).drop 24), List.all_append, w_t9, w_t10]
  rfl
set_option maxRecDepth 65536 in
theorem w_case : (Jvm.Cond.and given_1 narrow_1).before args0 about1 = true := by decide +kernel
theorem w_applies : (headSpec (Jvm.Cond.code x code maxLocals ret :: tables_1) room_1).applies x e0.platform about1 = true :=
  (Spec.applies_iff w_frames).mpr ⟨w_running, w_runnable, w_alone, w_named, w_hears, w_ripe, w_room, w_tables⟩
theorem atStart : AtStart classFile x code maxLocals ret World_1 tables_1 room_1 Calls_1 rest_1 Pre_1 launch0 p0 e0 about1 theMethod args0 below0 :=
  ⟨lists_1, trivial, launch0.admits_env _ _ _, launch0.least_env, fairChoices_fair.cas, fairChoices_fair.clock, w_frames, w_args, w_heap, w_applies, trivial, trivial, w_case⟩
end start1
theorem witness_1 : WitnessClaimed_1 := ⟨start1.p0, start1.e0, start1.about1, start1.theMethod, start1.args0, start1.below0, start1.atStart⟩
end Jvm.Pilot.@@N@@
