import JvmDerived
import JvmDerived.Pilot.@@N@@Statement
import JvmDerived.Pilot.@@N@@Code
set_option linter.unusedVariables false
set_option linter.unusedSimpArgs false
namespace Jvm.Pilot.@@N@@
open Jvm Jvm.ClassFile Sem Op Lib Jvm.Free Jvm.Stand Jvm.LawKit Jvm.RoadKit Bundle Jvm.Pilot.@@N@@.Jvm.D
section OwnKit
variable {p : Program} {l : Launch} {e : Env} {R : Room} {s : State} {m : MethodId} {args : Array Value} {below : List Frame} {meth : Method} {c : Code} {T : State} {locs : List Loc} {cells slots : Nat} {Z : State} {a0 : Array Value} {h : Heap} {n0 kc ks : Nat} {FE : Outcome → State → List Loc → Prop} {Q : Option Value → Heap → Prop} {pc pc' : Nat} {Ls Ls' : Array Slot} {st : List Value}
/-- from the state S the run comes back to its caller with what Q says, having written nothing below n0 -/
def Goes (p : Program) (e : Env) (below : List Frame) (FE : Outcome → State → List Loc → Prop) (n0 : Nat) (Q : Option Value → Heap → Prop) (S : State) : Prop :=
  ∃ s₂ o, Steps p.tables e below S s₂ ∧ s₂.status = .running ∧ Ended s₂ below o ∧ ∃ v L, o = .returned v ∧ (Fr n0 L ∧ Q v s₂.heap) ∧ FE o s₂ L
/-- the contract of a body -/
def Meets (l : Launch) (y : MethodName) (bytes : ByteArray) (maxL : Nat) (ret : Option FieldType) (ws : List Jvm.Cond) (rm : Room) (kc ks : Nat) (Z : State) (as' : Array Value) (h : Heap) (n0 : Nat) (Q : Option Value → Heap → Prop) : Prop :=
  MetFree l y (head1 (Jvm.Cond.code y bytes maxL ret :: ws) rm) (fun a U => a = as' ∧ Z.Warmed39 U.vm ∧ U.heap = h) (fun _ _ _ _ _ => True) (fun _ U o U' => ∃ v L, o = .returned v ∧ (Fr n0 L ∧ Q v U'.heap) ∧ FrameEnd U o U' L kc ks)
theorem Goes.via {S S' : State} (f : ∀ t, Steps p.tables e below S' t → Steps p.tables e below S t) (g : Goes p e below FE n0 Q S') : Goes p e below FE n0 Q S := by
  obtain ⟨s₂, o, k, r⟩ := g
  exact ⟨s₂, o, f _ k, r⟩
theorem Goes.ret {S : State} {v : Option Value} (X : Stand p l e R s m args below meth c T locs cells slots) (N : Fr n0 locs) (hlk : meth.locks = false) (hv : meth.sig.returnType = none → v = none) (hc : cells ≤ kc) (hs : slots ≤ ks) (hq : Q v T.heap)
    (f : ∀ fs, (∀ (f : JFrame) (acts : List Action), f.method = m → f.locked = none → f.entered = [] → (doReturn e (T.setTop f) acts v).1 = T.setFrames fs) → Steps p.tables e below S (T.setFrames fs)) : Goes p e below (fun o t L => FrameEnd s o t L kc ks) n0 Q S := by
  obtain ⟨fs, hr, hrun, hended, hW, hsame⟩ := X.leave hv hlk
  exact ⟨_, _, f fs hr, hrun, hended, _, _, rfl, ⟨N, hq⟩, ⟨_, rfl⟩, hW, hsame.mono hc hs⟩
theorem own_sz (O : Old Z n0 h) : n0 ≤ h.size := O.1 ▸ O.2.1
theorem Meets.of {y : MethodName} {bytes : ByteArray} {maxL : Nat} {ret : Option FieldType} {ws : List Jvm.Cond} {rm : Room} {as' : Array Value} (hx : plainFor y = true) {F : MethodId → JFrame} (hF : ∀ m, entryFrame m as' maxL = F m)
    (body : ∀ p e s m below meth c T, p.tables.exec = Jvm.exec → c.code = bytes → c.maxLocals = maxL → s.vm.findClass y.cls = some m.cls → meth.name = y.name → meth.sig.returnType = ret → meth.locks = false → Z.Warmed39 s.vm →
      Stand p l e rm s m as' below meth c T [] 0 0 → T.heap = h → Goes p e below (fun o t L => FrameEnd s o t L kc ks) n0 Q (T.setTop (F m))) :
    Meets l y bytes maxL ret ws rm kc ks Z as' h n0 Q := by
  refine MetFree.of_bodySF hx hisR ?_
  intro p e s m args below meth c s₁ Bd hml hP hK
  obtain ⟨rfl, hZ, hh⟩ := hP
  have X0 : Stand p l e rm s m args below meth c s₁ [] 0 0 := Stand.of_body Bd
  have e0 : s₁.heap = h := by rw [← hh, Bd.state]; rfl
  obtain ⟨s₂, o, k, r⟩ := body p e s m below meth c s₁ Bd.exec Bd.bytes hml (findClass_of_methodNamed Bd.named) (name_of_methodNamed Bd.named Bd.method).1 Bd.returns Bd.notSynchronized hZ X0 e0
  exact ⟨s₂, o, castTop (hF m) k, r⟩
theorem own_iloadN (X : Stand p l e R s m args below meth c T locs cells slots) (hx : p.tables.exec = Jvm.exec) {k : Fin 4} {v : Int32} (hd : decode c.code pc = .ok (.iload_n k, 1)) (hl : Ls[k.val]? = some (.val (.int v)))
    (g : Goes p e below FE n0 Q (T.setTop (mkF m (pc + 1) Ls (.int v :: st)))) : Goes p e below FE n0 Q (T.setTop (mkF m pc Ls st)) :=
  Goes.via (fun _ k => XS.iloadN X.here hx rfl hd hl k) g
theorem own_iload (X : Stand p l e R s m args below meth c T locs cells slots) (hx : p.tables.exec = Jvm.exec) {k : Nat} {v : Int32} (hd : decode c.code pc = .ok (.iload k, 2)) (hl : Ls[k]? = some (.val (.int v)))
    (g : Goes p e below FE n0 Q (T.setTop (mkF m (pc + 2) Ls (.int v :: st)))) : Goes p e below FE n0 Q (T.setTop (mkF m pc Ls st)) :=
  Goes.via (fun _ k => XS.iload X.here hx rfl hd hl k) g
theorem own_istoreN (X : Stand p l e R s m args below meth c T locs cells slots) (hx : p.tables.exec = Jvm.exec) {k : Fin 4} {x : Int32} (hd : decode c.code pc = .ok (.istore_n k, 1)) (hl : storeLocals Ls k.val (.int x) = some Ls')
    (g : Goes p e below FE n0 Q (T.setTop (mkF m (pc + 1) Ls' st))) : Goes p e below FE n0 Q (T.setTop (mkF m pc Ls (.int x :: st))) :=
  Goes.via (fun _ k => XS.istoreN X.here hx rfl hd rfl hl k) g
theorem own_istore (X : Stand p l e R s m args below meth c T locs cells slots) (hx : p.tables.exec = Jvm.exec) {k : Nat} {x : Int32} (hd : decode c.code pc = .ok (.istore k, 2)) (hl : storeLocals Ls k (.int x) = some Ls')
    (g : Goes p e below FE n0 Q (T.setTop (mkF m (pc + 2) Ls' st))) : Goes p e below FE n0 Q (T.setTop (mkF m pc Ls (.int x :: st))) :=
  Goes.via (fun _ k => XS.istore X.here hx rfl hd rfl hl k) g
theorem own_lloadN (X : Stand p l e R s m args below meth c T locs cells slots) (hx : p.tables.exec = Jvm.exec) {k : Fin 4} {v : Int64} (hd : decode c.code pc = .ok (.lload_n k, 1)) (hl : Ls[k.val]? = some (.val (.long v)))
    (g : Goes p e below FE n0 Q (T.setTop (mkF m (pc + 1) Ls (.long v :: st)))) : Goes p e below FE n0 Q (T.setTop (mkF m pc Ls st)) :=
  Goes.via (fun _ k => XS.lloadN X.here hx rfl hd hl k) g
theorem own_lload (X : Stand p l e R s m args below meth c T locs cells slots) (hx : p.tables.exec = Jvm.exec) {k : Nat} {v : Int64} (hd : decode c.code pc = .ok (.lload k, 2)) (hl : Ls[k]? = some (.val (.long v)))
    (g : Goes p e below FE n0 Q (T.setTop (mkF m (pc + 2) Ls (.long v :: st)))) : Goes p e below FE n0 Q (T.setTop (mkF m pc Ls st)) :=
  Goes.via (fun _ k => XS.lload X.here hx rfl hd hl k) g
theorem own_lstoreN (X : Stand p l e R s m args below meth c T locs cells slots) (hx : p.tables.exec = Jvm.exec) {k : Fin 4} {x : Int64} (hd : decode c.code pc = .ok (.lstore_n k, 1)) (hl : storeLocals Ls k.val (.long x) = some Ls')
    (g : Goes p e below FE n0 Q (T.setTop (mkF m (pc + 1) Ls' st))) : Goes p e below FE n0 Q (T.setTop (mkF m pc Ls (.long x :: st))) :=
  Goes.via (fun _ k => XS.lstoreN X.here hx rfl hd rfl hl k) g
theorem own_lstore (X : Stand p l e R s m args below meth c T locs cells slots) (hx : p.tables.exec = Jvm.exec) {k : Nat} {x : Int64} (hd : decode c.code pc = .ok (.lstore k, 2)) (hl : storeLocals Ls k (.long x) = some Ls')
    (g : Goes p e below FE n0 Q (T.setTop (mkF m (pc + 2) Ls' st))) : Goes p e below FE n0 Q (T.setTop (mkF m pc Ls (.long x :: st))) :=
  Goes.via (fun _ k => XS.lstore X.here hx rfl hd rfl hl k) g
theorem own_aloadN (X : Stand p l e R s m args below meth c T locs cells slots) (hx : p.tables.exec = Jvm.exec) {k : Fin 4} {v : Value} (hd : decode c.code pc = .ok (.aload_n k, 1)) (hl : Ls[k.val]? = some (.val v)) (hv : v.isRef = true)
    (g : Goes p e below FE n0 Q (T.setTop (mkF m (pc + 1) Ls (v :: st)))) : Goes p e below FE n0 Q (T.setTop (mkF m pc Ls st)) :=
  Goes.via (fun _ k => XS.aloadN X.here hx rfl hd hl hv k) g
theorem own_aload (X : Stand p l e R s m args below meth c T locs cells slots) (hx : p.tables.exec = Jvm.exec) {k : Nat} {v : Value} (hd : decode c.code pc = .ok (.aload k, 2)) (hl : Ls[k]? = some (.val v)) (hv : v.isRef = true)
    (g : Goes p e below FE n0 Q (T.setTop (mkF m (pc + 2) Ls (v :: st)))) : Goes p e below FE n0 Q (T.setTop (mkF m pc Ls st)) :=
  Goes.via (fun _ k => XS.aload X.here hx rfl hd hl hv k) g
theorem own_astoreN (X : Stand p l e R s m args below meth c T locs cells slots) (hx : p.tables.exec = Jvm.exec) {k : Fin 4} {x : Value} (hd : decode c.code pc = .ok (.astore_n k, 1)) (hv : x.isRef = true) (hl : storeLocals Ls k.val x = some Ls')
    (g : Goes p e below FE n0 Q (T.setTop (mkF m (pc + 1) Ls' st))) : Goes p e below FE n0 Q (T.setTop (mkF m pc Ls (x :: st))) :=
  Goes.via (fun _ k => XS.astoreN X.here hx rfl hd rfl hv hl k) g
theorem own_astore (X : Stand p l e R s m args below meth c T locs cells slots) (hx : p.tables.exec = Jvm.exec) {k : Nat} {x : Value} (hd : decode c.code pc = .ok (.astore k, 2)) (hv : x.isRef = true) (hl : storeLocals Ls k x = some Ls')
    (g : Goes p e below FE n0 Q (T.setTop (mkF m (pc + 2) Ls' st))) : Goes p e below FE n0 Q (T.setTop (mkF m pc Ls (x :: st))) :=
  Goes.via (fun _ k => XS.astore X.here hx rfl hd rfl hv hl k) g
theorem own_iconst (X : Stand p l e R s m args below meth c T locs cells slots) (hx : p.tables.exec = Jvm.exec) {i : Int} {v : Int32} (hd : decode c.code pc = .ok (.iconst i, 1)) (hv : Int32.ofInt i = v)
    (g : Goes p e below FE n0 Q (T.setTop (mkF m (pc + 1) Ls (.int v :: st)))) : Goes p e below FE n0 Q (T.setTop (mkF m pc Ls st)) := by
  subst hv
  exact Goes.via (fun _ k => XS.iconst X.here hx rfl hd k) g
theorem own_bipush (X : Stand p l e R s m args below meth c T locs cells slots) (hx : p.tables.exec = Jvm.exec) {i : Int} {v : Int32} (hd : decode c.code pc = .ok (.bipush i, 2)) (hv : (Int8.ofInt i).toInt32 = v)
    (g : Goes p e below FE n0 Q (T.setTop (mkF m (pc + 2) Ls (.int v :: st)))) : Goes p e below FE n0 Q (T.setTop (mkF m pc Ls st)) := by
  subst hv
  exact Goes.via (fun _ k => XS.bipush X.here hx rfl hd k) g
theorem own_sipush (X : Stand p l e R s m args below meth c T locs cells slots) (hx : p.tables.exec = Jvm.exec) {i : Int} {v : Int32} (hd : decode c.code pc = .ok (.sipush i, 3)) (hv : (Int16.ofInt i).toInt32 = v)
    (g : Goes p e below FE n0 Q (T.setTop (mkF m (pc + 3) Ls (.int v :: st)))) : Goes p e below FE n0 Q (T.setTop (mkF m pc Ls st)) := by
  subst hv
  exact Goes.via (fun _ k => XS.sipush X.here hx rfl hd k) g
theorem own_lconst (X : Stand p l e R s m args below meth c T locs cells slots) (hx : p.tables.exec = Jvm.exec) {i : Fin 2} {v : Int64} (hd : decode c.code pc = .ok (.lconst i, 1)) (hv : Int64.ofNat i = v)
    (g : Goes p e below FE n0 Q (T.setTop (mkF m (pc + 1) Ls (.long v :: st)))) : Goes p e below FE n0 Q (T.setTop (mkF m pc Ls st)) := by
  subst hv
  exact Goes.via (fun _ k => XS.lconst X.here hx rfl hd k) g
theorem own_aconst_null (X : Stand p l e R s m args below meth c T locs cells slots) (hx : p.tables.exec = Jvm.exec)  (hd : decode c.code pc = .ok (.aconst_null, 1))
    (g : Goes p e below FE n0 Q (T.setTop (mkF m (pc + 1) Ls (.null :: st)))) : Goes p e below FE n0 Q (T.setTop (mkF m pc Ls st)) :=
  Goes.via (fun _ k => XS.aconstNull X.here hx rfl hd k) g
theorem own_iadd (X : Stand p l e R s m args below meth c T locs cells slots) (hx : p.tables.exec = Jvm.exec) {x y : Int32} (hd : decode c.code pc = .ok (.iadd, 1))
    (g : Goes p e below FE n0 Q (T.setTop (mkF m (pc + 1) Ls (.int (x + y) :: st)))) : Goes p e below FE n0 Q (T.setTop (mkF m pc Ls (.int y :: .int x :: st))) :=
  Goes.via (fun _ k => XS.iadd X.here hx rfl hd rfl k) g
theorem own_isub (X : Stand p l e R s m args below meth c T locs cells slots) (hx : p.tables.exec = Jvm.exec) {x y : Int32} (hd : decode c.code pc = .ok (.isub, 1))
    (g : Goes p e below FE n0 Q (T.setTop (mkF m (pc + 1) Ls (.int (x - y) :: st)))) : Goes p e below FE n0 Q (T.setTop (mkF m pc Ls (.int y :: .int x :: st))) :=
  Goes.via (fun _ k => XS.isub X.here hx rfl hd rfl k) g
theorem own_imul (X : Stand p l e R s m args below meth c T locs cells slots) (hx : p.tables.exec = Jvm.exec) {x y : Int32} (hd : decode c.code pc = .ok (.imul, 1))
    (g : Goes p e below FE n0 Q (T.setTop (mkF m (pc + 1) Ls (.int (x * y) :: st)))) : Goes p e below FE n0 Q (T.setTop (mkF m pc Ls (.int y :: .int x :: st))) :=
  Goes.via (fun _ k => XS.imul X.here hx rfl hd rfl k) g
theorem own_iand (X : Stand p l e R s m args below meth c T locs cells slots) (hx : p.tables.exec = Jvm.exec) {x y : Int32} (hd : decode c.code pc = .ok (.iand, 1))
    (g : Goes p e below FE n0 Q (T.setTop (mkF m (pc + 1) Ls (.int (x &&& y) :: st)))) : Goes p e below FE n0 Q (T.setTop (mkF m pc Ls (.int y :: .int x :: st))) :=
  Goes.via (fun _ k => XS.iand X.here hx rfl hd rfl k) g
theorem own_ior (X : Stand p l e R s m args below meth c T locs cells slots) (hx : p.tables.exec = Jvm.exec) {x y : Int32} (hd : decode c.code pc = .ok (.ior, 1))
    (g : Goes p e below FE n0 Q (T.setTop (mkF m (pc + 1) Ls (.int (x ||| y) :: st)))) : Goes p e below FE n0 Q (T.setTop (mkF m pc Ls (.int y :: .int x :: st))) :=
  Goes.via (fun _ k => XS.ior X.here hx rfl hd rfl k) g
theorem own_ixor (X : Stand p l e R s m args below meth c T locs cells slots) (hx : p.tables.exec = Jvm.exec) {x y : Int32} (hd : decode c.code pc = .ok (.ixor, 1))
    (g : Goes p e below FE n0 Q (T.setTop (mkF m (pc + 1) Ls (.int (x ^^^ y) :: st)))) : Goes p e below FE n0 Q (T.setTop (mkF m pc Ls (.int y :: .int x :: st))) :=
  Goes.via (fun _ k => XS.ixor X.here hx rfl hd rfl k) g
theorem own_idiv (X : Stand p l e R s m args below meth c T locs cells slots) (hx : p.tables.exec = Jvm.exec) {x y : Int32} (hd : decode c.code pc = .ok (.idiv, 1)) (hy : y ≠ 0)
    (g : Goes p e below FE n0 Q (T.setTop (mkF m (pc + 1) Ls (.int (x / y) :: st)))) : Goes p e below FE n0 Q (T.setTop (mkF m pc Ls (.int y :: .int x :: st))) :=
  Goes.via (fun _ k => XS.idiv X.here hx rfl hd rfl hy k) g
theorem own_ineg (X : Stand p l e R s m args below meth c T locs cells slots) (hx : p.tables.exec = Jvm.exec) {x : Int32} (hd : decode c.code pc = .ok (.ineg, 1))
    (g : Goes p e below FE n0 Q (T.setTop (mkF m (pc + 1) Ls (.int (-x) :: st)))) : Goes p e below FE n0 Q (T.setTop (mkF m pc Ls (.int x :: st))) :=
  Goes.via (fun _ k => XS.ineg X.here hx rfl hd rfl k) g
theorem own_ladd (X : Stand p l e R s m args below meth c T locs cells slots) (hx : p.tables.exec = Jvm.exec) {x y : Int64} (hd : decode c.code pc = .ok (.ladd, 1))
    (g : Goes p e below FE n0 Q (T.setTop (mkF m (pc + 1) Ls (.long (x + y) :: st)))) : Goes p e below FE n0 Q (T.setTop (mkF m pc Ls (.long y :: .long x :: st))) :=
  Goes.via (fun _ k => XS.ladd X.here hx rfl hd rfl k) g
theorem own_lsub (X : Stand p l e R s m args below meth c T locs cells slots) (hx : p.tables.exec = Jvm.exec) {x y : Int64} (hd : decode c.code pc = .ok (.lsub, 1))
    (g : Goes p e below FE n0 Q (T.setTop (mkF m (pc + 1) Ls (.long (x - y) :: st)))) : Goes p e below FE n0 Q (T.setTop (mkF m pc Ls (.long y :: .long x :: st))) :=
  Goes.via (fun _ k => XS.lsub X.here hx rfl hd rfl k) g
theorem own_lmul (X : Stand p l e R s m args below meth c T locs cells slots) (hx : p.tables.exec = Jvm.exec) {x y : Int64} (hd : decode c.code pc = .ok (.lmul, 1))
    (g : Goes p e below FE n0 Q (T.setTop (mkF m (pc + 1) Ls (.long (x * y) :: st)))) : Goes p e below FE n0 Q (T.setTop (mkF m pc Ls (.long y :: .long x :: st))) :=
  Goes.via (fun _ k => XS.lmul X.here hx rfl hd rfl k) g
theorem own_land (X : Stand p l e R s m args below meth c T locs cells slots) (hx : p.tables.exec = Jvm.exec) {x y : Int64} (hd : decode c.code pc = .ok (.land, 1))
    (g : Goes p e below FE n0 Q (T.setTop (mkF m (pc + 1) Ls (.long (x &&& y) :: st)))) : Goes p e below FE n0 Q (T.setTop (mkF m pc Ls (.long y :: .long x :: st))) :=
  Goes.via (fun _ k => XS.land X.here hx rfl hd rfl k) g
theorem own_lor (X : Stand p l e R s m args below meth c T locs cells slots) (hx : p.tables.exec = Jvm.exec) {x y : Int64} (hd : decode c.code pc = .ok (.lor, 1))
    (g : Goes p e below FE n0 Q (T.setTop (mkF m (pc + 1) Ls (.long (x ||| y) :: st)))) : Goes p e below FE n0 Q (T.setTop (mkF m pc Ls (.long y :: .long x :: st))) :=
  Goes.via (fun _ k => XS.lor X.here hx rfl hd rfl k) g
theorem own_lxor (X : Stand p l e R s m args below meth c T locs cells slots) (hx : p.tables.exec = Jvm.exec) {x y : Int64} (hd : decode c.code pc = .ok (.lxor, 1))
    (g : Goes p e below FE n0 Q (T.setTop (mkF m (pc + 1) Ls (.long (x ^^^ y) :: st)))) : Goes p e below FE n0 Q (T.setTop (mkF m pc Ls (.long y :: .long x :: st))) :=
  Goes.via (fun _ k => XS.lxor X.here hx rfl hd rfl k) g
theorem own_ldiv (X : Stand p l e R s m args below meth c T locs cells slots) (hx : p.tables.exec = Jvm.exec) {x y : Int64} (hd : decode c.code pc = .ok (.ldiv, 1)) (hy : y ≠ 0)
    (g : Goes p e below FE n0 Q (T.setTop (mkF m (pc + 1) Ls (.long (x / y) :: st)))) : Goes p e below FE n0 Q (T.setTop (mkF m pc Ls (.long y :: .long x :: st))) :=
  Goes.via (fun _ k => XS.ldiv X.here hx rfl hd rfl hy k) g
theorem own_lneg (X : Stand p l e R s m args below meth c T locs cells slots) (hx : p.tables.exec = Jvm.exec) {x : Int64} (hd : decode c.code pc = .ok (.lneg, 1))
    (g : Goes p e below FE n0 Q (T.setTop (mkF m (pc + 1) Ls (.long (-x) :: st)))) : Goes p e below FE n0 Q (T.setTop (mkF m pc Ls (.long x :: st))) :=
  Goes.via (fun _ k => XS.lneg X.here hx rfl hd rfl k) g
theorem own_irem (X : Stand p l e R s m args below meth c T locs cells slots) (hx : p.tables.exec = Jvm.exec) {x y : Int32} (hd : decode c.code pc = .ok (.irem, 1)) (hy : y ≠ 0)
    (g : Goes p e below FE n0 Q (T.setTop (mkF m (pc + 1) Ls (.int (x % y) :: st)))) : Goes p e below FE n0 Q (T.setTop (mkF m pc Ls (.int y :: .int x :: st))) :=
  Goes.via (fun _ k => iremM (g := mkF m pc Ls (.int y :: .int x :: st)) X hx rfl hd rfl hy k) g
theorem own_lrem (X : Stand p l e R s m args below meth c T locs cells slots) (hx : p.tables.exec = Jvm.exec) {x y : Int64} (hd : decode c.code pc = .ok (.lrem, 1)) (hy : y ≠ 0)
    (g : Goes p e below FE n0 Q (T.setTop (mkF m (pc + 1) Ls (.long (x % y) :: st)))) : Goes p e below FE n0 Q (T.setTop (mkF m pc Ls (.long y :: .long x :: st))) := by
  rw [← lrem_mod] at g
  exact Goes.via (fun _ k => XS.lrem X.here hx rfl hd rfl hy k) g
theorem own_ishl (X : Stand p l e R s m args below meth c T locs cells slots) (hx : p.tables.exec = Jvm.exec) {x y : Int32} (hd : decode c.code pc = .ok (.ishl, 1))
    (g : Goes p e below FE n0 Q (T.setTop (mkF m (pc + 1) Ls (.int (x <<< (y &&& 31)) :: st)))) : Goes p e below FE n0 Q (T.setTop (mkF m pc Ls (.int y :: .int x :: st))) :=
  Goes.via (fun _ k => XS.ishl X.here hx rfl hd rfl k) g
theorem own_ishr (X : Stand p l e R s m args below meth c T locs cells slots) (hx : p.tables.exec = Jvm.exec) {x y : Int32} (hd : decode c.code pc = .ok (.ishr, 1))
    (g : Goes p e below FE n0 Q (T.setTop (mkF m (pc + 1) Ls (.int (x >>> (y &&& 31)) :: st)))) : Goes p e below FE n0 Q (T.setTop (mkF m pc Ls (.int y :: .int x :: st))) :=
  Goes.via (fun _ k => XS.ishr X.here hx rfl hd rfl k) g
theorem own_iushr (X : Stand p l e R s m args below meth c T locs cells slots) (hx : p.tables.exec = Jvm.exec) {x y : Int32} (hd : decode c.code pc = .ok (.iushr, 1))
    (g : Goes p e below FE n0 Q (T.setTop (mkF m (pc + 1) Ls (.int ((x.toUInt32 >>> (y &&& 31).toUInt32).toInt32) :: st)))) : Goes p e below FE n0 Q (T.setTop (mkF m pc Ls (.int y :: .int x :: st))) :=
  Goes.via (fun _ k => XS.iushr X.here hx rfl hd rfl k) g
theorem own_lshl (X : Stand p l e R s m args below meth c T locs cells slots) (hx : p.tables.exec = Jvm.exec) {x : Int64} {y : Int32} (hd : decode c.code pc = .ok (.lshl, 1))
    (g : Goes p e below FE n0 Q (T.setTop (mkF m (pc + 1) Ls (.long (x <<< (y &&& 0x3f).toInt64) :: st)))) : Goes p e below FE n0 Q (T.setTop (mkF m pc Ls (.int y :: .long x :: st))) :=
  Goes.via (fun _ k => by jvm_step X.here [X.here.top, hx, hd]; first | exact k | simpa [mkF] using k) g
theorem own_lshr (X : Stand p l e R s m args below meth c T locs cells slots) (hx : p.tables.exec = Jvm.exec) {x : Int64} {y : Int32} (hd : decode c.code pc = .ok (.lshr, 1))
    (g : Goes p e below FE n0 Q (T.setTop (mkF m (pc + 1) Ls (.long (x >>> (y &&& 0x3f).toInt64) :: st)))) : Goes p e below FE n0 Q (T.setTop (mkF m pc Ls (.int y :: .long x :: st))) :=
  Goes.via (fun _ k => by jvm_step X.here [X.here.top, hx, hd]; first | exact k | simpa [mkF] using k) g
theorem own_lushr (X : Stand p l e R s m args below meth c T locs cells slots) (hx : p.tables.exec = Jvm.exec) {x : Int64} {y : Int32} (hd : decode c.code pc = .ok (.lushr, 1))
    (g : Goes p e below FE n0 Q (T.setTop (mkF m (pc + 1) Ls (.long ((x.toUInt64 >>> (y &&& 0x3f).toInt64.toUInt64).toInt64) :: st)))) : Goes p e below FE n0 Q (T.setTop (mkF m pc Ls (.int y :: .long x :: st))) :=
  Goes.via (fun _ k => by jvm_step X.here [X.here.top, hx, hd]; first | exact k | simpa [mkF] using k) g
theorem own_i2l (X : Stand p l e R s m args below meth c T locs cells slots) (hx : p.tables.exec = Jvm.exec) {x : Int32} (hd : decode c.code pc = .ok (.i2l, 1))
    (g : Goes p e below FE n0 Q (T.setTop (mkF m (pc + 1) Ls (.long (x.toInt64) :: st)))) : Goes p e below FE n0 Q (T.setTop (mkF m pc Ls (.int x :: st))) :=
  Goes.via (fun _ k => XS.i2l X.here hx rfl hd rfl k) g
theorem own_l2i (X : Stand p l e R s m args below meth c T locs cells slots) (hx : p.tables.exec = Jvm.exec) {x : Int64} (hd : decode c.code pc = .ok (.l2i, 1))
    (g : Goes p e below FE n0 Q (T.setTop (mkF m (pc + 1) Ls (.int (x.toInt32) :: st)))) : Goes p e below FE n0 Q (T.setTop (mkF m pc Ls (.long x :: st))) :=
  Goes.via (fun _ k => XS.l2i X.here hx rfl hd rfl k) g
theorem own_i2b (X : Stand p l e R s m args below meth c T locs cells slots) (hx : p.tables.exec = Jvm.exec) {x : Int32} (hd : decode c.code pc = .ok (.i2b, 1))
    (g : Goes p e below FE n0 Q (T.setTop (mkF m (pc + 1) Ls (.int (x.toInt8.toInt32) :: st)))) : Goes p e below FE n0 Q (T.setTop (mkF m pc Ls (.int x :: st))) :=
  Goes.via (fun _ k => XS.i2b X.here hx rfl hd rfl k) g
theorem own_i2s (X : Stand p l e R s m args below meth c T locs cells slots) (hx : p.tables.exec = Jvm.exec) {x : Int32} (hd : decode c.code pc = .ok (.i2s, 1))
    (g : Goes p e below FE n0 Q (T.setTop (mkF m (pc + 1) Ls (.int (x.toInt16.toInt32) :: st)))) : Goes p e below FE n0 Q (T.setTop (mkF m pc Ls (.int x :: st))) :=
  Goes.via (fun _ k => XS.i2s X.here hx rfl hd rfl k) g
theorem own_i2c (X : Stand p l e R s m args below meth c T locs cells slots) (hx : p.tables.exec = Jvm.exec) {x : Int32} (hd : decode c.code pc = .ok (.i2c, 1))
    (g : Goes p e below FE n0 Q (T.setTop (mkF m (pc + 1) Ls (.int (x.toUInt32.toUInt16.toUInt32.toInt32) :: st)))) : Goes p e below FE n0 Q (T.setTop (mkF m pc Ls (.int x :: st))) :=
  Goes.via (fun _ k => XS.i2c X.here hx rfl hd rfl k) g
theorem own_lcmp (X : Stand p l e R s m args below meth c T locs cells slots) (hx : p.tables.exec = Jvm.exec) {x y : Int64} (hd : decode c.code pc = .ok (.lcmp, 1))
    (g : Goes p e below FE n0 Q (T.setTop (mkF m (pc + 1) Ls (.int (lcmpW x y) :: st)))) : Goes p e below FE n0 Q (T.setTop (mkF m pc Ls (.long y :: .long x :: st))) :=
  Goes.via (fun _ k => XS.lcmp X.here hx rfl hd rfl k) g
theorem own_dup (X : Stand p l e R s m args below meth c T locs cells slots) (hx : p.tables.exec = Jvm.exec) {x : Value} (hd : decode c.code pc = .ok (.dup, 1)) (hc : x.category = 1)
    (g : Goes p e below FE n0 Q (T.setTop (mkF m (pc + 1) Ls (x :: x :: st)))) : Goes p e below FE n0 Q (T.setTop (mkF m pc Ls (x :: st))) :=
  Goes.via (fun _ k => XS.dup X.here hx rfl hd rfl hc k) g
theorem own_pop (X : Stand p l e R s m args below meth c T locs cells slots) (hx : p.tables.exec = Jvm.exec) {x : Value} (hd : decode c.code pc = .ok (.pop, 1)) (hc : x.category = 1)
    (g : Goes p e below FE n0 Q (T.setTop (mkF m (pc + 1) Ls st))) : Goes p e below FE n0 Q (T.setTop (mkF m pc Ls (x :: st))) :=
  Goes.via (fun _ k => XS.pop X.here hx rfl hd rfl hc k) g
theorem own_dup_x1 (X : Stand p l e R s m args below meth c T locs cells slots) (hx : p.tables.exec = Jvm.exec) {x y : Value} (hd : decode c.code pc = .ok (.dup_x1, 1)) (hc : x.category = 1) (hc' : y.category = 1)
    (g : Goes p e below FE n0 Q (T.setTop (mkF m (pc + 1) Ls (x :: y :: x :: st)))) : Goes p e below FE n0 Q (T.setTop (mkF m pc Ls (x :: y :: st))) :=
  Goes.via (fun _ k => XS.dupX1 X.here hx rfl hd rfl hc hc' k) g
theorem own_dup2 (X : Stand p l e R s m args below meth c T locs cells slots) (hx : p.tables.exec = Jvm.exec) {x y : Value} (hd : decode c.code pc = .ok (.dup2, 1)) (hc : x.category = 1) (hc' : y.category = 1)
    (g : Goes p e below FE n0 Q (T.setTop (mkF m (pc + 1) Ls (x :: y :: x :: y :: st)))) : Goes p e below FE n0 Q (T.setTop (mkF m pc Ls (x :: y :: st))) :=
  Goes.via (fun _ k => Jvm.Free.XT.dup2 X.here hx rfl hd rfl hc hc' k) g
theorem own_iinc (X : Stand p l e R s m args below meth c T locs cells slots) (hx : p.tables.exec = Jvm.exec) {k : Nat} {cst : Int} {x : Int32} (hd : decode c.code pc = .ok (.iinc k cst, 3)) (hl : Ls[k]? = some (.val (.int x))) (hl' : storeLocals Ls k (.int (x + Int32.ofInt cst)) = some Ls')
    (g : Goes p e below FE n0 Q (T.setTop (mkF m (pc + 3) Ls' st))) : Goes p e below FE n0 Q (T.setTop (mkF m pc Ls st)) :=
  Goes.via (fun _ k => XS.iinc X.here hx rfl hd hl hl' k) g
theorem own_goto (X : Stand p l e R s m args below meth c T locs cells slots) (hx : p.tables.exec = Jvm.exec) {o : Int} (hd : decode c.code pc = .ok (.goto o, 3)) (ho : 0 ≤ (pc : Int) + o) (hp : ((pc : Int) + o).toNat = pc')
    (g : Goes p e below FE n0 Q (T.setTop (mkF m pc' Ls st))) : Goes p e below FE n0 Q (T.setTop (mkF m pc Ls st)) :=
  Goes.via (fun _ k => XS.goto X.here hx rfl rfl hd ho hp k) g
theorem own_ifYes (X : Stand p l e R s m args below meth c T locs cells slots) (hx : p.tables.exec = Jvm.exec) {cd : ClassFile.Cond} {o : Int} {x : Int32} (hd : decode c.code pc = .ok (.ifCond cd o, 3)) (hc : ifCond.holds cd x = true) (ho : 0 ≤ (pc : Int) + o) (hp : ((pc : Int) + o).toNat = pc')
    (g : Goes p e below FE n0 Q (T.setTop (mkF m pc' Ls st))) : Goes p e below FE n0 Q (T.setTop (mkF m pc Ls (.int x :: st))) :=
  Goes.via (fun _ k => XS.ifYes X.here hx rfl rfl hd rfl hc ho hp k) g
theorem own_ifNo (X : Stand p l e R s m args below meth c T locs cells slots) (hx : p.tables.exec = Jvm.exec) {cd : ClassFile.Cond} {o : Int} {x : Int32} (hd : decode c.code pc = .ok (.ifCond cd o, 3)) (hc : ifCond.holds cd x = false)
    (g : Goes p e below FE n0 Q (T.setTop (mkF m (pc + 3) Ls st))) : Goes p e below FE n0 Q (T.setTop (mkF m pc Ls (.int x :: st))) :=
  Goes.via (fun _ k => XS.ifNo X.here hx rfl hd rfl hc k) g
theorem own_icmpYes (X : Stand p l e R s m args below meth c T locs cells slots) (hx : p.tables.exec = Jvm.exec) {cd : ClassFile.Cond} {o : Int} {x y : Int32} (hd : decode c.code pc = .ok (.if_icmp cd o, 3)) (hc : if_icmp.holds cd x y = true) (ho : 0 ≤ (pc : Int) + o) (hp : ((pc : Int) + o).toNat = pc')
    (g : Goes p e below FE n0 Q (T.setTop (mkF m pc' Ls st))) : Goes p e below FE n0 Q (T.setTop (mkF m pc Ls (.int y :: .int x :: st))) :=
  Goes.via (fun _ k => XS.icmpYes X.here hx rfl rfl hd rfl hc ho hp k) g
theorem own_icmpNo (X : Stand p l e R s m args below meth c T locs cells slots) (hx : p.tables.exec = Jvm.exec) {cd : ClassFile.Cond} {o : Int} {x y : Int32} (hd : decode c.code pc = .ok (.if_icmp cd o, 3)) (hc : if_icmp.holds cd x y = false)
    (g : Goes p e below FE n0 Q (T.setTop (mkF m (pc + 3) Ls st))) : Goes p e below FE n0 Q (T.setTop (mkF m pc Ls (.int y :: .int x :: st))) :=
  Goes.via (fun _ k => XS.icmpNo X.here hx rfl hd rfl hc k) g
theorem own_ifnullYes (X : Stand p l e R s m args below meth c T locs cells slots) (hx : p.tables.exec = Jvm.exec) {o : Int} (hd : decode c.code pc = .ok (.ifnull o, 3)) (ho : 0 ≤ (pc : Int) + o) (hp : ((pc : Int) + o).toNat = pc')
    (g : Goes p e below FE n0 Q (T.setTop (mkF m pc' Ls st))) : Goes p e below FE n0 Q (T.setTop (mkF m pc Ls (.null :: st))) :=
  Goes.via (fun _ k => XS.ifnullYes X.here hx rfl rfl hd rfl ho hp k) g
theorem own_ifnullNo (X : Stand p l e R s m args below meth c T locs cells slots) (hx : p.tables.exec = Jvm.exec) {o : Int} {b : Addr} (hd : decode c.code pc = .ok (.ifnull o, 3))
    (g : Goes p e below FE n0 Q (T.setTop (mkF m (pc + 3) Ls st))) : Goes p e below FE n0 Q (T.setTop (mkF m pc Ls (.ref b :: st))) :=
  Goes.via (fun _ k => XS.ifnullNo X.here hx rfl hd rfl k) g
theorem own_ifnonnullYes (X : Stand p l e R s m args below meth c T locs cells slots) (hx : p.tables.exec = Jvm.exec) {o : Int} {b : Addr} (hd : decode c.code pc = .ok (.ifnonnull o, 3)) (ho : 0 ≤ (pc : Int) + o) (hp : ((pc : Int) + o).toNat = pc')
    (g : Goes p e below FE n0 Q (T.setTop (mkF m pc' Ls st))) : Goes p e below FE n0 Q (T.setTop (mkF m pc Ls (.ref b :: st))) :=
  Goes.via (fun _ k => XS.ifnonnullYes X.here hx rfl rfl hd rfl ho hp k) g
theorem own_ifnonnullNo (X : Stand p l e R s m args below meth c T locs cells slots) (hx : p.tables.exec = Jvm.exec) {o : Int} (hd : decode c.code pc = .ok (.ifnonnull o, 3))
    (g : Goes p e below FE n0 Q (T.setTop (mkF m (pc + 3) Ls st))) : Goes p e below FE n0 Q (T.setTop (mkF m pc Ls (.null :: st))) :=
  Goes.via (fun _ k => XS.ifnonnullNo X.here hx rfl hd rfl k) g
theorem own_acmp (X : Stand p l e R s m args below meth c T locs cells slots) (hx : p.tables.exec = Jvm.exec) {cd : ACond} {x y : Value} {o : Int} {same : Bool} (h1 : x.isRef = true) (h2 : y.isRef = true) (hd : decode c.code pc = .ok (.if_acmp cd o, 3)) (hq : decide (x = y) = same) (ho : 0 ≤ (pc : Int) + o) (hp : pc' = if acV cd same = true then ((pc : Int) + o).toNat else pc + 3)
    (g : Goes p e below FE n0 Q (T.setTop (mkF m pc' Ls st))) : Goes p e below FE n0 Q (T.setTop (mkF m pc Ls (y :: x :: st))) :=
  Goes.via (fun _ k => Jvm.RoadKit.acmp (g := mkF m pc Ls (y :: x :: st)) X hx rfl h1 h2 rfl hd rfl hq ho hp k) g
theorem own_tswIn (X : Stand p l e R s m args below meth c T locs cells slots) (hx : p.tables.exec = Jvm.exec) {dflt low high : Int} {offs : Array Int} {len : Nat} {o : Int} {i : Int32} (hd : decode c.code pc = .ok (.tableswitch dflt low high offs, len)) (hin : ¬ (i.toInt < low ∨ i.toInt > high)) (hoff : offs[(i.toInt - low).toNat]? = some o) (ho : 0 ≤ (pc : Int) + o) (hp : ((pc : Int) + o).toNat = pc')
    (g : Goes p e below FE n0 Q (T.setTop (mkF m pc' Ls st))) : Goes p e below FE n0 Q (T.setTop (mkF m pc Ls (.int i :: st))) :=
  Goes.via (fun _ k => XS.tswIn X.here hx rfl rfl hd rfl hin hoff ho hp k) g
theorem own_tswOut (X : Stand p l e R s m args below meth c T locs cells slots) (hx : p.tables.exec = Jvm.exec) {dflt low high : Int} {offs : Array Int} {len : Nat} {i : Int32} (hd : decode c.code pc = .ok (.tableswitch dflt low high offs, len)) (hout : i.toInt < low ∨ i.toInt > high) (ho : 0 ≤ (pc : Int) + dflt) (hp : ((pc : Int) + dflt).toNat = pc')
    (g : Goes p e below FE n0 Q (T.setTop (mkF m pc' Ls st))) : Goes p e below FE n0 Q (T.setTop (mkF m pc Ls (.int i :: st))) :=
  Goes.via (fun _ k => XS.tswOut X.here hx rfl rfl hd rfl hout ho hp k) g
theorem own_ldcInt (X : Stand p l e R s m args below meth c T locs cells slots) (hx : p.tables.exec = Jvm.exec) (hZ : Z.Warmed39 s.vm) {own : String} {index : Nat} (hown : s.vm.findClass own = some m.cls) {v : Int32} (w : (Jvm.Cond.constant own index v).before a0 Z = true) (hd : decode c.code pc = .ok (.ldc index, 2))
    (g : Goes p e below FE n0 Q (T.setTop (mkF m (pc + 2) Ls (.int v :: st)))) : Goes p e below FE n0 Q (T.setTop (mkF m pc Ls st)) :=
  Goes.via (X.ldcInt hx hown (mvT hZ w) (g := mkF m pc Ls st) rfl hd) g
theorem own_ldcwInt (X : Stand p l e R s m args below meth c T locs cells slots) (hx : p.tables.exec = Jvm.exec) (hZ : Z.Warmed39 s.vm) {own : String} {index : Nat} (hown : s.vm.findClass own = some m.cls) {v : Int32} (w : (Jvm.Cond.constant own index v).before a0 Z = true) (hd : decode c.code pc = .ok (.ldc_w index, 3))
    (g : Goes p e below FE n0 Q (T.setTop (mkF m (pc + 3) Ls (.int v :: st)))) : Goes p e below FE n0 Q (T.setTop (mkF m pc Ls st)) :=
  Goes.via (X.ldcwInt hx hown (mvT hZ w) (g := mkF m pc Ls st) rfl hd) g
theorem own_ldc2Long (X : Stand p l e R s m args below meth c T locs cells slots) (hx : p.tables.exec = Jvm.exec) (hZ : Z.Warmed39 s.vm) {own : String} {index : Nat} (hown : s.vm.findClass own = some m.cls) {v : Int64} (w : (Jvm.Cond.constantLong own index v).before a0 Z = true) (hd : decode c.code pc = .ok (.ldc2_w index, 3))
    (g : Goes p e below FE n0 Q (T.setTop (mkF m (pc + 3) Ls (.long v :: st)))) : Goes p e below FE n0 Q (T.setTop (mkF m pc Ls st)) :=
  Goes.via (X.ldc2Long hx hown (mvT hZ w) (g := mkF m pc Ls st) rfl hd) g
theorem own_getF (X : Stand p l e R s m args below meth c T locs cells slots) (hx : p.tables.exec = Jvm.exec) (hZ : Z.Warmed39 s.vm) {own : String} {index : Nat} (hown : s.vm.findClass own = some m.cls) {R0 O n d host : String} (w : ((Jvm.Cond.fieldLink own index R0 n d).before a0 Z = true ∨ (Jvm.Cond.fieldLinkNest own index R0 n d host).before a0 Z = true)) (via : Via Z R0 O n d) (eT : T.heap = h) {a : Addr} {v : Value} (F : Fld Z h a O n d v) (hd : decode c.code pc = .ok (.getfield index, 3))
    (k : ∀ T', Stand p l e R s m args below meth c T' locs cells slots → T'.heap = h → Goes p e below FE n0 Q (T'.setTop (mkF m (pc + 3) Ls (v :: st)))) : Goes p e below FE n0 Q (T.setTop (mkF m pc Ls (.ref a :: st))) := by
  obtain ⟨T', X', e', st'⟩ := getF X hx hZ hown w via eT F (g := mkF m pc Ls (.ref a :: st)) rfl rfl hd
  exact Goes.via st' (k T' X' e')
theorem own_getS (X : Stand p l e R s m args below meth c T locs cells slots) (hx : p.tables.exec = Jvm.exec) (hZ : Z.Warmed39 s.vm) {own : String} {index : Nat} (hown : s.vm.findClass own = some m.cls) {R0 O n d host : String} (w : ((Jvm.Cond.fieldLink own index R0 n d).before a0 Z = true ∨ (Jvm.Cond.fieldLinkNest own index R0 n d host).before a0 Z = true)) (via : Via Z R0 O n d) (eT : T.heap = h) {v : Value} (F : Sta Z h O n d v) (hd : decode c.code pc = .ok (.getstatic index, 3))
    (k : ∀ T', Stand p l e R s m args below meth c T' locs cells slots → T'.heap = h → Goes p e below FE n0 Q (T'.setTop (mkF m (pc + 3) Ls (v :: st)))) : Goes p e below FE n0 Q (T.setTop (mkF m pc Ls st)) := by
  obtain ⟨T', X', e', st'⟩ := getS2 X hx hZ hown w via eT F (g := mkF m pc Ls st) rfl hd
  exact Goes.via st' (k T' X' e')
theorem own_initO (X : Stand p l e R s m args below meth c T locs cells slots) (hx : p.tables.exec = Jvm.exec) (hZ : Z.Warmed39 s.vm) {own : String} {index : Nat} (hown : s.vm.findClass own = some m.cls) (w1 : (Jvm.Cond.methodLink own index Lib.objectInit).before a0 Z = true) (w2 : (Jvm.Cond.instanceMethod Lib.objectInit).before a0 Z = true) (w3 : (Jvm.Cond.code Lib.objectInit ⟨#[0xb1]⟩ 1 none).before a0 Z = true) (eT : T.heap = h) (hsize : Ls.size = c.maxLocals) {a : Addr} (hd : decode c.code pc = .ok (.invokespecial index, 3)) (hf : 1 ≤ R.frames) {W : Nat} (hW : (st.map fun v => v.category).sum ≤ W) (hl : W + 12 ≤ R.locals)
    (k : ∀ T', Stand p l e R s m args below meth c T' locs cells slots → T'.heap = h → Goes p e below FE n0 Q (T'.setTop (mkF m (pc + 3) Ls st))) : Goes p e below FE n0 Q (T.setTop (mkF m pc Ls (.ref a :: st))) := by
  obtain ⟨T', X', e', st'⟩ := initO X hx hZ hown w1 w2 w3 eT (g := mkF m pc Ls (.ref a :: st)) rfl hsize rfl hd hf (W := W) (by show 2 * 0 + _ ≤ _; omega) hl
  exact Goes.via st' (k T' X' e')
theorem own_new (X : Stand p l e R s m args below meth c T locs cells slots) (hx : p.tables.exec = Jvm.exec) (hZ : Z.Warmed39 s.vm) {own : String} {index : Nat} (hown : s.vm.findClass own = some m.cls) {C : String} {nn : Nat} (w : (Jvm.Cond.classLink own index C).before a0 Z = true) (wi : (Jvm.Cond.instantiable C nn).before a0 Z = true) (wz : (Jvm.Cond.initialized C).before a0 Z = true) (eT : T.heap = h) (hd : decode c.code pc = .ok (.new index, 3)) (hc : cells + 1 ≤ R.cells) (hl : slots + nn ≤ R.slots)
    (k : ∀ T' h' b, b = h.size → Stand p l e R s m args below meth c T' locs (cells + 1) (slots + nn) → T'.heap = h' → Ext h h' → Exa Z h' b C → (∀ {O nm d : String} {ty : FieldType}, Laid Z a0 C O nm d → parseFieldDescriptor d = some ty → Fld Z h' b O nm d (defaultValue ty)) → Goes p e below FE n0 Q (T'.setTop (mkF m (pc + 3) Ls (.ref b :: st)))) : Goes p e below FE n0 Q (T.setTop (mkF m pc Ls st)) := by
  obtain ⟨T', h', X', e', E', A', D', -, st'⟩ := newO X hx hZ hown w wi wz eT (g := mkF m pc Ls st) rfl hd hc hl
  exact Goes.via st' (k T' h' _ rfl X' e' E' A' D')
theorem own_putF (X : Stand p l e R s m args below meth c T locs cells slots) (hx : p.tables.exec = Jvm.exec) (hZ : Z.Warmed39 s.vm) {own : String} {index : Nat} (hown : s.vm.findClass own = some m.cls) {R0 O n d host C : String} {kk : Nat} {ty : FieldType} (N : Fr n0 locs) (w : ((Jvm.Cond.fieldLink own index R0 n d).before a0 Z = true ∨ (Jvm.Cond.fieldLinkNest own index R0 n d host).before a0 Z = true)) (via : Via Z R0 O n d) (eT : T.heap = h) {a : Addr} {v old : Value} (F : Fld Z h a O n d old) (E : Exa Z h a C) (L : (Jvm.Cond.lays C O n d).before a0 Z = true ∨ ((Jvm.Cond.laysFinal C O n d).before a0 Z = true ∧ own = O ∧ meth.name = "<init>")) (wi : (Jvm.Cond.instantiable C kk).before a0 Z = true) (hty : parseFieldDescriptor d = some ty) (hn : narrow ty v = v) (hf : fits ty v = true) (hge : n0 ≤ a) (hd : decode c.code pc = .ok (.putfield index, 3))
    (k : ∀ T' h' locs', Stand p l e R s m args below meth c T' locs' cells slots → T'.heap = h' → Fr n0 locs' → Wr h h' a (RoadKit.slotOf Z O n d) v → Goes p e below FE n0 Q (T'.setTop (mkF m (pc + 3) Ls st))) : Goes p e below FE n0 Q (T.setTop (mkF m pc Ls (v :: .ref a :: st))) := by
  obtain ⟨T', h', X', e', W', st'⟩ := putF X hx hZ hown w via eT F E L wi hty hn hf (g := mkF m pc Ls (v :: .ref a :: st)) rfl rfl hd
  exact Goes.via st' (k T' h' _ X' e' (Fr.snoc X' N hge) W')
theorem own_castY (X : Stand p l e R s m args below meth c T locs cells slots) (hx : p.tables.exec = Jvm.exec) (hZ : Z.Warmed39 s.vm) {own : String} {index : Nat} (hown : s.vm.findClass own = some m.cls) {K : String} (w : (Jvm.Cond.classLink own index K).before a0 Z = true) (eT : T.heap = h) {a : Addr} (F : Ins Z h a K true) (hd : decode c.code pc = .ok (.checkcast index, 3))
    (k : ∀ T', Stand p l e R s m args below meth c T' locs cells slots → T'.heap = h → Goes p e below FE n0 Q (T'.setTop (mkF m (pc + 3) Ls (.ref a :: st)))) : Goes p e below FE n0 Q (T.setTop (mkF m pc Ls (.ref a :: st))) := by
  obtain ⟨T', X', e', st'⟩ := castY X hx hZ hown w eT F (g := mkF m pc Ls (.ref a :: st)) rfl rfl hd
  exact Goes.via st' (k T' X' e')
theorem own_castNull (X : Stand p l e R s m args below meth c T locs cells slots) (hx : p.tables.exec = Jvm.exec) {index : Nat} (hd : decode c.code pc = .ok (.checkcast index, 3))
    (g : Goes p e below FE n0 Q (T.setTop (mkF m (pc + 3) Ls (.null :: st)))) : Goes p e below FE n0 Q (T.setTop (mkF m pc Ls (.null :: st))) :=
  Goes.via (X.checkcastNull hx (g := mkF m pc Ls (.null :: st)) rfl rfl hd) g
theorem own_instNull (X : Stand p l e R s m args below meth c T locs cells slots) (hx : p.tables.exec = Jvm.exec) {index : Nat} (hd : decode c.code pc = .ok (.instanceof index, 3))
    (g : Goes p e below FE n0 Q (T.setTop (mkF m (pc + 3) Ls (.int 0 :: st)))) : Goes p e below FE n0 Q (T.setTop (mkF m pc Ls (.null :: st))) :=
  Goes.via (X.instanceofNull hx (g := mkF m pc Ls (.null :: st)) rfl rfl hd) g
theorem own_instY (X : Stand p l e R s m args below meth c T locs cells slots) (hx : p.tables.exec = Jvm.exec) (hZ : Z.Warmed39 s.vm) {own : String} {index : Nat} (hown : s.vm.findClass own = some m.cls) {K : String} (w : (Jvm.Cond.classLink own index K).before a0 Z = true) (eT : T.heap = h) {a : Addr} (F : Ins Z h a K true) (hd : decode c.code pc = .ok (.instanceof index, 3))
    (k : ∀ T', Stand p l e R s m args below meth c T' locs cells slots → T'.heap = h → Goes p e below FE n0 Q (T'.setTop (mkF m (pc + 3) Ls (.int 1 :: st)))) : Goes p e below FE n0 Q (T.setTop (mkF m pc Ls (.ref a :: st))) := by
  obtain ⟨T', X', e', st'⟩ := instY X hx hZ hown w eT F (g := mkF m pc Ls (.ref a :: st)) rfl rfl hd
  exact Goes.via st' (k T' X' e')
theorem own_instN (X : Stand p l e R s m args below meth c T locs cells slots) (hx : p.tables.exec = Jvm.exec) (hZ : Z.Warmed39 s.vm) {own : String} {index : Nat} (hown : s.vm.findClass own = some m.cls) {K C : String} (w : (Jvm.Cond.classLink own index K).before a0 Z = true) (eT : T.heap = h) {a : Addr} (E : Exa Z h a C) (F : ∃ c t, Z.vm.findClass C = some c ∧ Z.vm.findClass K = some t ∧ Z.vm.assignable c t = false) (hd : decode c.code pc = .ok (.instanceof index, 3))
    (k : ∀ T', Stand p l e R s m args below meth c T' locs cells slots → T'.heap = h → Goes p e below FE n0 Q (T'.setTop (mkF m (pc + 3) Ls (.int 0 :: st)))) : Goes p e below FE n0 Q (T.setTop (mkF m pc Ls (.ref a :: st))) := by
  obtain ⟨T', X', e', st'⟩ := instNo X hx hZ hown w eT E F (g := mkF m pc Ls (.ref a :: st)) rfl rfl hd
  exact Goes.via st' (k T' X' e')
theorem own_lsw (X : Stand p l e R s m args below meth c T locs cells slots) (hx : p.tables.exec = Jvm.exec) {dflt : Int} {prs : Array (Int × Int)} {len : Nat} {o kk : Int} {i : Int32} (hd : decode c.code pc = .ok (.lookupswitch dflt prs, len)) (hso : (prs.toList.zip (prs.toList.drop 1)).all (fun (a, next) => a.1 < next.1) = true) (hf : prs.find? (·.1 == i.toInt) = some (kk, o)) (ho : 0 ≤ (pc : Int) + o) (hp : ((pc : Int) + o).toNat = pc')
    (g : Goes p e below FE n0 Q (T.setTop (mkF m pc' Ls st))) : Goes p e below FE n0 Q (T.setTop (mkF m pc Ls (.int i :: st))) := by
  subst hp
  exact Goes.via (X.lookupswitchHit hx (g := mkF m pc Ls (.int i :: st)) rfl rfl hd hso hf ho) g
theorem own_clone (X : Stand p l e R s m args below meth c T locs cells slots) (hx : p.tables.exec = Jvm.exec) (hZ : Z.Warmed39 s.vm) {own : String} {index : Nat} (hown : s.vm.findClass own = some m.cls) {ad : String} (w1 : (Jvm.Cond.methodLink own index ⟨ad, "clone", "()Ljava/lang/Object;"⟩).before a0 Z = true) (w2 : (Jvm.Cond.sameMethod ad "java/lang/Object" "clone" "()Ljava/lang/Object;").before a0 Z = true) (w3 : (Jvm.Cond.native ⟨"java/lang/Object", "clone", "()Ljava/lang/Object;"⟩).before a0 Z = true) (w4 : (Jvm.Cond.instanceMethod ⟨"java/lang/Object", "clone", "()Ljava/lang/Object;"⟩).before a0 Z = true) (w5 : (Jvm.Cond.selects ad ⟨ad, "clone", "()Ljava/lang/Object;"⟩ ⟨"java/lang/Object", "clone", "()Ljava/lang/Object;"⟩).before a0 Z = true) (w6 : (Jvm.Cond.castable ad "java/lang/Cloneable").before a0 Z = true) (eT : T.heap = h) {a : Addr} {k : ClassId} {ty : FieldType} {z : Int32} {vs : List Value} {dv : Value} (F : Arv Z h a k ty z vs dv) (E : Exa Z h a ad) (hsize : Ls.size = c.maxLocals) (hd : decode c.code pc = .ok (.invokevirtual index, 3)) (hf : 1 ≤ R.frames) {W cap : Nat} (hW : (st.map fun v => v.category).sum ≤ W) (hl : W + 14 ≤ R.locals) (hcap : z.toNatClampNeg ≤ cap) (hc : cells + 1 ≤ R.cells) (hsl : slots + cap ≤ R.slots)
    (k : ∀ T' h' b, b = h.size → Stand p l e R s m args below meth c T' locs (cells + 1) (slots + cap) → T'.heap = h' → Ext h h' → Arv Z h' b k ty z vs dv → Exa Z h' b ad → Goes p e below FE n0 Q (T'.setTop (mkF m (pc + 3) Ls (.ref b :: st)))) : Goes p e below FE n0 Q (T.setTop (mkF m pc Ls (.ref a :: st))) := by
  obtain ⟨T', h', X', e', E', A', Ex', st'⟩ := cloneH X hx hZ hown w1 w2 w3 w4 w5 w6 eT F.arh E (g := mkF m pc Ls (.ref a :: st)) rfl hsize rfl hd hf (W := W) (cap := cap) (by show 2 * 0 + _ ≤ _; omega) hl hcap hc hsl
  exact Goes.via st' (k T' h' _ rfl X' e' E' A' Ex')
theorem own_iaload (X : Stand p l e R s m args below meth c T locs cells slots) (hx : p.tables.exec = Jvm.exec) (hZ : Z.Warmed39 s.vm) (eT : T.heap = h) {a : Addr} {k : ClassId} {z j : Int32} {vs : List Value} {dv v : Value} (F : Arv Z h a k .int z vs dv) (hj : ¬ j < 0 ∧ j < z) (hv : vs.getD j.toNatClampNeg dv = v) (hd : decode c.code pc = .ok (.iaload, 1))
    (g : Goes p e below FE n0 Q (T.setTop (mkF m (pc + 1) Ls (v :: st)))) : Goes p e below FE n0 Q (T.setTop (mkF m pc Ls (.int j :: .ref a :: st))) := by
  obtain ⟨cl, A, -, S, -, H, -⟩ := F
  exact Goes.via (fun t k => X.iaload hx (j := j) (v := v) (by rw [eT]; exact A.1) (State.isArrayOf_alike hZ.alike A.2.1) A.2.2 (inb_of S hj) (H.at (inb_of S hj) hv) (g := mkF m pc Ls (.int j :: .ref a :: st)) rfl rfl hd t k) g
theorem own_laload (X : Stand p l e R s m args below meth c T locs cells slots) (hx : p.tables.exec = Jvm.exec) (hZ : Z.Warmed39 s.vm) (eT : T.heap = h) {a : Addr} {k : ClassId} {z j : Int32} {vs : List Value} {dv v : Value} (F : Arv Z h a k .long z vs dv) (hj : ¬ j < 0 ∧ j < z) (hv : vs.getD j.toNatClampNeg dv = v) (hd : decode c.code pc = .ok (.laload, 1))
    (g : Goes p e below FE n0 Q (T.setTop (mkF m (pc + 1) Ls (v :: st)))) : Goes p e below FE n0 Q (T.setTop (mkF m pc Ls (.int j :: .ref a :: st))) := by
  obtain ⟨cl, A, -, S, -, H, -⟩ := F
  exact Goes.via (fun t k => X.laload hx (j := j) (v := v) (by rw [eT]; exact A.1) (State.isArrayOf_alike hZ.alike A.2.1) A.2.2 (inb_of S hj) (H.at (inb_of S hj) hv) (g := mkF m pc Ls (.int j :: .ref a :: st)) rfl rfl hd t k) g
theorem own_caload (X : Stand p l e R s m args below meth c T locs cells slots) (hx : p.tables.exec = Jvm.exec) (hZ : Z.Warmed39 s.vm) (eT : T.heap = h) {a : Addr} {k : ClassId} {z j : Int32} {vs : List Value} {dv v : Value} (F : Arv Z h a k .char z vs dv) (hj : ¬ j < 0 ∧ j < z) (hv : vs.getD j.toNatClampNeg dv = v) (hd : decode c.code pc = .ok (.caload, 1))
    (g : Goes p e below FE n0 Q (T.setTop (mkF m (pc + 1) Ls (v :: st)))) : Goes p e below FE n0 Q (T.setTop (mkF m pc Ls (.int j :: .ref a :: st))) := by
  obtain ⟨cl, A, -, S, -, H, -⟩ := F
  exact Goes.via (fun t k => X.caload hx (j := j) (v := v) (by rw [eT]; exact A.1) (State.isArrayOf_alike hZ.alike A.2.1) A.2.2 (inb_of S hj) (H.at (inb_of S hj) hv) (g := mkF m pc Ls (.int j :: .ref a :: st)) rfl rfl hd t k) g
theorem own_baload (X : Stand p l e R s m args below meth c T locs cells slots) (hx : p.tables.exec = Jvm.exec) (hZ : Z.Warmed39 s.vm) (eT : T.heap = h) {a : Addr} {k : ClassId} {z j : Int32} {vs : List Value} {dv v : Value} (F : Arv Z h a k .byte z vs dv) (hj : ¬ j < 0 ∧ j < z) (hv : vs.getD j.toNatClampNeg dv = v) (hd : decode c.code pc = .ok (.baload, 1))
    (g : Goes p e below FE n0 Q (T.setTop (mkF m (pc + 1) Ls (v :: st)))) : Goes p e below FE n0 Q (T.setTop (mkF m pc Ls (.int j :: .ref a :: st))) := by
  obtain ⟨cl, A, -, S, -, H, -⟩ := F
  exact Goes.via (fun t k => X.baloadBytes hx (j := j) (v := v) (by rw [eT]; exact A.1) (State.isArrayOf_alike hZ.alike A.2.1) A.2.2 (inb_of S hj) (H.at (inb_of S hj) hv) (g := mkF m pc Ls (.int j :: .ref a :: st)) rfl rfl hd t k) g
theorem own_aaload (X : Stand p l e R s m args below meth c T locs cells slots) (hx : p.tables.exec = Jvm.exec) (hZ : Z.Warmed39 s.vm) (eT : T.heap = h) {a : Addr} {k : ClassId} {ty : FieldType} {z j : Int32} {vs : List Value} {dv v : Value} (F : Arv Z h a k ty z vs dv) (hty : ty.isReference = true) (hj : ¬ j < 0 ∧ j < z) (hv : vs.getD j.toNatClampNeg dv = v) (hd : decode c.code pc = .ok (.aaload, 1))
    (g : Goes p e below FE n0 Q (T.setTop (mkF m (pc + 1) Ls (v :: st)))) : Goes p e below FE n0 Q (T.setTop (mkF m pc Ls (.int j :: .ref a :: st))) := by
  obtain ⟨cl, A, -, S, -, H, -⟩ := F
  exact Goes.via (fun t k => X.aaload hx (j := j) (v := v) (by rw [eT]; exact A.1) (State.isArrayOf_alike hZ.alike A.2.1) hty A.2.2 (inb_of S hj) (H.at (inb_of S hj) hv) (g := mkF m pc Ls (.int j :: .ref a :: st)) rfl rfl hd t k) g
theorem own_aaloadC (X : Stand p l e R s m args below meth c T locs cells slots) (hx : p.tables.exec = Jvm.exec) (hZ : Z.Warmed39 s.vm) (eT : T.heap = h) {a : Addr} {cl : Cell} {ty : FieldType} {j : Int32} {v : Value} (A : Arr Z h a cl ty) (hty : ty.isReference = true) (hj : ¬ (j < 0 ∨ cl.slots.size ≤ j.toNatClampNeg)) (hv : cl.slots[j.toNatClampNeg]? = some v) (hd : decode c.code pc = .ok (.aaload, 1))
    (g : Goes p e below FE n0 Q (T.setTop (mkF m (pc + 1) Ls (v :: st)))) : Goes p e below FE n0 Q (T.setTop (mkF m pc Ls (.int j :: .ref a :: st))) :=
  Goes.via (fun t k => X.aaload hx (j := j) (v := v) (by rw [eT]; exact A.1) (State.isArrayOf_alike hZ.alike A.2.1) hty A.2.2 hj hv (g := mkF m pc Ls (.int j :: .ref a :: st)) rfl rfl hd t k) g
theorem own_alen (X : Stand p l e R s m args below meth c T locs cells slots) (hx : p.tables.exec = Jvm.exec) (hZ : Z.Warmed39 s.vm) (eT : T.heap = h) {a : Addr} {k : ClassId} {ty : FieldType} {z : Int32} {vs : List Value} {dv : Value} (F : Arv Z h a k ty z vs dv) (hd : decode c.code pc = .ok (.arraylength, 1))
    (g : Goes p e below FE n0 Q (T.setTop (mkF m (pc + 1) Ls (.int z :: st)))) : Goes p e below FE n0 Q (T.setTop (mkF m pc Ls (.ref a :: st))) := by
  obtain ⟨cl, A, -, S, hz, -, -⟩ := F
  rw [← len_of S hz] at g
  exact Goes.via (fun t k => X.arraylength hx (by rw [eT]; exact A.1) (State.isArrayOf_alike hZ.alike A.2.1) (g := mkF m pc Ls (.ref a :: st)) rfl rfl hd t k) g
theorem own_newP (X : Stand p l e R s m args below meth c T locs cells slots) (hx : p.tables.exec = Jvm.exec) (hZ : Z.Warmed39 s.vm) {aty : ArrayType} (w : (Jvm.Cond.arrayClass (newarray.typeOf aty)).before a0 Z = true) (eT : T.heap = h) {n : Int32} (hd : decode c.code pc = .ok (.newarray aty, 2)) (hn : ¬ n < 0) {cap : Nat} (hcap : n.toNatClampNeg ≤ cap) (hb : cap * 8 ≤ 536870912) (hc : cells + 1 ≤ R.cells) (hl : slots + cap ≤ R.slots)
    (k : ∀ T' h' b cA, b = h.size → Stand p l e R s m args below meth c T' locs (cells + 1) (slots + cap) → T'.heap = h' → Ext h h' → Arv Z h' b cA (newarray.typeOf aty) n [] (defaultValue (newarray.typeOf aty)) → Goes p e below FE n0 Q (T'.setTop (mkF m (pc + 2) Ls (.ref b :: st)))) : Goes p e below FE n0 Q (T.setTop (mkF m pc Ls (.int n :: st))) := by
  obtain ⟨T', h', cA, X', e', E', A', st'⟩ := newP X hx hZ w eT (g := mkF m pc Ls (.int n :: st)) rfl hd rfl hn hcap hb hc hl
  exact Goes.via st' (k T' h' _ cA rfl X' e' E' (Arv.new A' hn))
theorem own_newR (X : Stand p l e R s m args below meth c T locs cells slots) (hx : p.tables.exec = Jvm.exec) (hZ : Z.Warmed39 s.vm) {own : String} {index : Nat} (hown : s.vm.findClass own = some m.cls) {C : String} (w1 : (Jvm.Cond.classLink own index C).before a0 Z = true) (w2 : (Jvm.Cond.arrayOver (.object C)).before a0 Z = true) (eT : T.heap = h) {n : Int32} (hd : decode c.code pc = .ok (.anewarray index, 3)) (hn : ¬ n < 0) {cap : Nat} (hcap : n.toNatClampNeg ≤ cap) (hb : cap * 8 ≤ 536870912) (hc : cells + 1 ≤ R.cells) (hl : slots + cap ≤ R.slots)
    (k : ∀ T' h' b cA, b = h.size → Stand p l e R s m args below meth c T' locs (cells + 1) (slots + cap) → T'.heap = h' → Ext h h' → Arv Z h' b cA (.object C) n [] .null → Ovr Z cA C → Goes p e below FE n0 Q (T'.setTop (mkF m (pc + 3) Ls (.ref b :: st)))) : Goes p e below FE n0 Q (T.setTop (mkF m pc Ls (.int n :: st))) := by
  obtain ⟨T', h', cA, X', e', E', A', O', st'⟩ := newR X hx hZ hown w1 w2 eT (g := mkF m pc Ls (.int n :: st)) rfl hd rfl hn hcap hb hc hl
  exact Goes.via st' (k T' h' _ cA rfl X' e' E' (Arv.new A' hn) O')
theorem own_newPE (X : Stand p l e R s m args below meth c T locs cells slots) (hx : p.tables.exec = Jvm.exec) (hZ : Z.Warmed39 s.vm) {aty : ArrayType} (w : (Jvm.Cond.arrayClass (newarray.typeOf aty)).before a0 Z = true) (eT : T.heap = h) {n : Int32} {ad : String} (had : "[" ++ (newarray.typeOf aty).toString = ad) (hd : decode c.code pc = .ok (.newarray aty, 2)) (hn : ¬ n < 0) {cap : Nat} (hcap : n.toNatClampNeg ≤ cap) (hb : cap * 8 ≤ 536870912) (hc : cells + 1 ≤ R.cells) (hl : slots + cap ≤ R.slots)
    (k : ∀ T' h' b cA, b = h.size → Stand p l e R s m args below meth c T' locs (cells + 1) (slots + cap) → T'.heap = h' → Ext h h' → Arv Z h' b cA (newarray.typeOf aty) n [] (defaultValue (newarray.typeOf aty)) → Exa Z h' b ad → Goes p e below FE n0 Q (T'.setTop (mkF m (pc + 2) Ls (.ref b :: st)))) : Goes p e below FE n0 Q (T.setTop (mkF m pc Ls (.int n :: st))) := by
  obtain ⟨T', h', cA, X', e', E', A', Ex', st'⟩ := newPE X hx hZ w eT (g := mkF m pc Ls (.int n :: st)) rfl hd rfl hn hcap hb hc hl had
  exact Goes.via st' (k T' h' _ cA rfl X' e' E' (Arv.new A' hn) Ex')
theorem own_newRE (X : Stand p l e R s m args below meth c T locs cells slots) (hx : p.tables.exec = Jvm.exec) (hZ : Z.Warmed39 s.vm) {own : String} {index : Nat} (hown : s.vm.findClass own = some m.cls) {C ad : String} (had : "[" ++ (FieldType.object C).toString = ad) (w1 : (Jvm.Cond.classLink own index C).before a0 Z = true) (w2 : (Jvm.Cond.arrayOver (.object C)).before a0 Z = true) (eT : T.heap = h) {n : Int32} (hd : decode c.code pc = .ok (.anewarray index, 3)) (hn : ¬ n < 0) {cap : Nat} (hcap : n.toNatClampNeg ≤ cap) (hb : cap * 8 ≤ 536870912) (hc : cells + 1 ≤ R.cells) (hl : slots + cap ≤ R.slots)
    (k : ∀ T' h' b cA, b = h.size → Stand p l e R s m args below meth c T' locs (cells + 1) (slots + cap) → T'.heap = h' → Ext h h' → Arv Z h' b cA (.object C) n [] .null → Ovr Z cA C → Exa Z h' b ad → Goes p e below FE n0 Q (T'.setTop (mkF m (pc + 3) Ls (.ref b :: st)))) : Goes p e below FE n0 Q (T.setTop (mkF m pc Ls (.int n :: st))) := by
  obtain ⟨T', h', cA, X', e', E', A', Ex', O', st'⟩ := newRE X hx hZ hown w1 w2 eT (g := mkF m pc Ls (.int n :: st)) rfl hd rfl hn hcap hb hc hl had
  exact Goes.via st' (k T' h' _ cA rfl X' e' E' (Arv.new A' hn) O' Ex')
theorem own_newRA (X : Stand p l e R s m args below meth c T locs cells slots) (hx : p.tables.exec = Jvm.exec) (hZ : Z.Warmed39 s.vm) {own : String} {index : Nat} (hown : s.vm.findClass own = some m.cls) {C ad : String} {ty : FieldType} (hC : (FieldType.array ty).toString = C) (had : "[" ++ C = ad) (w1 : (Jvm.Cond.classLink own index C).before a0 Z = true) (w2 : (Jvm.Cond.arrayOver (.array ty)).before a0 Z = true) (eT : T.heap = h) {n : Int32} (hd : decode c.code pc = .ok (.anewarray index, 3)) (hn : ¬ n < 0) {cap : Nat} (hcap : n.toNatClampNeg ≤ cap) (hb : cap * 8 ≤ 536870912) (hc : cells + 1 ≤ R.cells) (hl : slots + cap ≤ R.slots)
    (k : ∀ T' h' b cA, b = h.size → Stand p l e R s m args below meth c T' locs (cells + 1) (slots + cap) → T'.heap = h' → Ext h h' → Arv Z h' b cA (.array ty) n [] .null → OvrA Z cA ty C → Goes p e below FE n0 Q (T'.setTop (mkF m (pc + 3) Ls (.ref b :: st)))) : Goes p e below FE n0 Q (T.setTop (mkF m pc Ls (.int n :: st))) := by
  obtain ⟨T', h', cA, X', e', E', A', Ex', O', st'⟩ := newRA X hx hZ hown hC w1 w2 eT (g := mkF m pc Ls (.int n :: st)) rfl hd rfl hn hcap hb hc hl had
  exact Goes.via st' (k T' h' _ cA rfl X' e' E' (Arv.new A' hn) O')
theorem own_iastore (X : Stand p l e R s m args below meth c T locs cells slots) (hx : p.tables.exec = Jvm.exec) (hZ : Z.Warmed39 s.vm) (N : Fr n0 locs) (eT : T.heap = h) {a : Addr} {k : ClassId} {z j : Int32} {vs : List Value} {dv : Value} {x : Int32} (F : Arv Z h a k .int z vs dv) (hj : ¬ j < 0 ∧ j < z) {i : Nat} (hi : j.toNatClampNeg = i) (hlen : i < vs.length) (hge : n0 ≤ a) (hd : decode c.code pc = .ok (.iastore, 1))
    (k : ∀ T' h' locs', Stand p l e R s m args below meth c T' locs' cells slots → T'.heap = h' → Fr n0 locs' → Wr h h' a j.toNatClampNeg (.int x) → Arv Z h' a k .int z (vs.set i (.int x)) dv → Goes p e below FE n0 Q (T'.setTop (mkF m (pc + 1) Ls st))) : Goes p e below FE n0 Q (T.setTop (mkF m pc Ls (.int x :: .int j :: .ref a :: st))) := by
  obtain ⟨cl, A, q1, S, q3, H, G⟩ := F
  obtain ⟨T', h', X', e', W', st'⟩ := stI X hx hZ eT A (j := j) (inb_of S hj) (g := mkF m pc Ls (.int x :: .int j :: .ref a :: st)) rfl rfl hd
  exact Goes.via st' (k T' h' _ X' e' (Fr.snoc X' N hge) W' (Arv.set A q1 S q3 H G rfl W' i hi hlen))
theorem own_lastore (X : Stand p l e R s m args below meth c T locs cells slots) (hx : p.tables.exec = Jvm.exec) (hZ : Z.Warmed39 s.vm) (N : Fr n0 locs) (eT : T.heap = h) {a : Addr} {k : ClassId} {z j : Int32} {vs : List Value} {dv : Value} {x : Int64} (F : Arv Z h a k .long z vs dv) (hj : ¬ j < 0 ∧ j < z) {i : Nat} (hi : j.toNatClampNeg = i) (hlen : i < vs.length) (hge : n0 ≤ a) (hd : decode c.code pc = .ok (.lastore, 1))
    (k : ∀ T' h' locs', Stand p l e R s m args below meth c T' locs' cells slots → T'.heap = h' → Fr n0 locs' → Wr h h' a j.toNatClampNeg (.long x) → Arv Z h' a k .long z (vs.set i (.long x)) dv → Goes p e below FE n0 Q (T'.setTop (mkF m (pc + 1) Ls st))) : Goes p e below FE n0 Q (T.setTop (mkF m pc Ls (.long x :: .int j :: .ref a :: st))) := by
  obtain ⟨cl, A, q1, S, q3, H, G⟩ := F
  obtain ⟨T', h', X', e', W', st'⟩ := stJ X hx hZ eT A (j := j) (inb_of S hj) (g := mkF m pc Ls (.long x :: .int j :: .ref a :: st)) rfl rfl hd
  exact Goes.via st' (k T' h' _ X' e' (Fr.snoc X' N hge) W' (Arv.set A q1 S q3 H G rfl W' i hi hlen))
theorem own_castore (X : Stand p l e R s m args below meth c T locs cells slots) (hx : p.tables.exec = Jvm.exec) (hZ : Z.Warmed39 s.vm) (N : Fr n0 locs) (eT : T.heap = h) {a : Addr} {k : ClassId} {z j : Int32} {vs : List Value} {dv : Value} {x : Int32} (F : Arv Z h a k .char z vs dv) (hj : ¬ j < 0 ∧ j < z) {i : Nat} (hi : j.toNatClampNeg = i) (hlen : i < vs.length) (hge : n0 ≤ a) (hd : decode c.code pc = .ok (.castore, 1))
    (k : ∀ T' h' locs', Stand p l e R s m args below meth c T' locs' cells slots → T'.heap = h' → Fr n0 locs' → Wr h h' a j.toNatClampNeg (.int (nar .char x)) → Arv Z h' a k .char z (vs.set i (.int (nar .char x))) dv → Goes p e below FE n0 Q (T'.setTop (mkF m (pc + 1) Ls st))) : Goes p e below FE n0 Q (T.setTop (mkF m pc Ls (.int x :: .int j :: .ref a :: st))) := by
  obtain ⟨cl, A, q1, S, q3, H, G⟩ := F
  obtain ⟨T', h', X', e', W', st'⟩ := stC X hx hZ eT A (j := j) (inb_of S hj) (g := mkF m pc Ls (.int x :: .int j :: .ref a :: st)) rfl rfl hd
  exact Goes.via st' (k T' h' _ X' e' (Fr.snoc X' N hge) W' (Arv.set A q1 S q3 H G (fits_nar_char _) W' i hi hlen))
theorem own_bastore (X : Stand p l e R s m args below meth c T locs cells slots) (hx : p.tables.exec = Jvm.exec) (hZ : Z.Warmed39 s.vm) (N : Fr n0 locs) (eT : T.heap = h) {a : Addr} {k : ClassId} {z j : Int32} {vs : List Value} {dv : Value} {x : Int32} (F : Arv Z h a k .byte z vs dv) (hj : ¬ j < 0 ∧ j < z) {i : Nat} (hi : j.toNatClampNeg = i) (hlen : i < vs.length) (hge : n0 ≤ a) (hd : decode c.code pc = .ok (.bastore, 1))
    (k : ∀ T' h' locs', Stand p l e R s m args below meth c T' locs' cells slots → T'.heap = h' → Fr n0 locs' → Wr h h' a j.toNatClampNeg (.int (x.toInt8.toInt32)) → Arv Z h' a k .byte z (vs.set i (.int (x.toInt8.toInt32))) dv → Goes p e below FE n0 Q (T'.setTop (mkF m (pc + 1) Ls st))) : Goes p e below FE n0 Q (T.setTop (mkF m pc Ls (.int x :: .int j :: .ref a :: st))) := by
  obtain ⟨cl, A, q1, S, q3, H, G⟩ := F
  obtain ⟨T', h', X', e', W', st'⟩ := stB X hx hZ eT A (j := j) (inb_of S hj) (g := mkF m pc Ls (.int x :: .int j :: .ref a :: st)) rfl rfl hd
  exact Goes.via st' (k T' h' _ X' e' (Fr.snoc X' N hge) W' (Arv.set A q1 S q3 H G (fits_nar_byte _) W' i hi hlen))
theorem own_aastore (X : Stand p l e R s m args below meth c T locs cells slots) (hx : p.tables.exec = Jvm.exec) (hZ : Z.Warmed39 s.vm) (N : Fr n0 locs) (eT : T.heap = h) {a : Addr} {k : ClassId} {ty : FieldType} {z j : Int32} {vs : List Value} {dv v : Value} (F : Arv Z h a k ty z vs dv) (hty : ty.isReference = true) (hfit : fits ty v = true) (hj : ¬ j < 0 ∧ j < z) {i : Nat} (hi : j.toNatClampNeg = i) (hlen : i < vs.length) (hge : n0 ≤ a) (hst : ∀ cl, Arr Z h a cl ty → cl.cls = k → Sto Z h a v) (hd : decode c.code pc = .ok (.aastore, 1))
    (k : ∀ T' h' locs', Stand p l e R s m args below meth c T' locs' cells slots → T'.heap = h' → Fr n0 locs' → Wr h h' a j.toNatClampNeg v → Arv Z h' a k ty z (vs.set i v) dv → Goes p e below FE n0 Q (T'.setTop (mkF m (pc + 1) Ls st))) : Goes p e below FE n0 Q (T.setTop (mkF m pc Ls (v :: .int j :: .ref a :: st))) := by
  obtain ⟨cl, A, q1, S, q3, H, G⟩ := F
  obtain ⟨T', h', X', e', W', st'⟩ := stR X hx hZ eT A (j := j) (inb_of S hj) hty (hst cl A q1) (g := mkF m pc Ls (v :: .int j :: .ref a :: st)) rfl rfl hd
  exact Goes.via st' (k T' h' _ X' e' (Fr.snoc X' N hge) W' (Arv.set A q1 S q3 H G hfit W' i hi hlen))
theorem own_selfsel {y : MethodName} {nn : Nat} (wi : (Jvm.Cond.instantiable y.cls nn).before a0 Z = true) (w2 : (Jvm.Cond.instanceMethod y).before a0 Z = true) (w6 : (Jvm.Cond.privateMethod y).before a0 Z = true) (hy : y.cls ≠ "java/lang/invoke/MethodHandle" ∧ y.cls ≠ "java/lang/invoke/VarHandle") : (Jvm.Cond.selects y.cls y y).before a0 Z = true := by
  obtain ⟨c, k, h1, h2, -, h4, -⟩ := Cond.instantiable_spec wi
  exact selects_self_of_private h1 h2 (by rw [Bool.or_eq_false_iff] at h4; exact h4.1) (Cond.privateMethod_at w6) w2 hy
theorem own_callS (X : Stand p l e R s m args below meth c T locs cells slots) (hx : p.tables.exec = Jvm.exec) (hZ : Z.Warmed39 s.vm) {own : String} {index : Nat} (hown : s.vm.findClass own = some m.cls) {y : MethodName} {bytes : ByteArray} {maxL : Nat} {ret : Option FieldType} {rm : Room} {W : Nat} {Q' : Option Value → Heap → Prop} (w1 : (Jvm.Cond.methodLink own index y).before a0 Z = true) (w2 : (Jvm.Cond.static y).before a0 Z = true) (w3 : (Jvm.Cond.initialized y.cls).before a0 Z = true) (w4 : (Jvm.Cond.code y bytes maxL ret).before a0 Z = true) (hy : y.cls ≠ "java/lang/invoke/MethodHandle" ∧ y.cls ≠ "java/lang/invoke/VarHandle") (hf : rm.frames + 1 ≤ R.frames) (hl : W + (maxL + 11) + rm.locals ≤ R.locals) (N : Fr n0 locs) (eT : T.heap = h) (hsize : Ls.size = c.maxLocals) {argsL rest : List Value} (hlen : ∀ sig, parseMethodDescriptor y.desc = some sig → argsL.length = sig.parameters.length) (hW : (rest.map fun v => v.category).sum ≤ W) (hc : cells + rm.cells ≤ R.cells) (hs : slots + rm.slots ≤ R.slots) (M : Meets l y bytes maxL ret [] rm rm.cells rm.slots Z argsL.toArray h n0 Q') (hst : st = argsL.reverse ++ rest) (hd : decode c.code pc = .ok (.invokestatic index, 3))
    (k : ∀ v T' locs', Stand p l e R s m args below meth c T' locs' (cells + rm.cells) (slots + rm.slots) → Fr n0 locs' → Q' v T'.heap → Goes p e below FE n0 Q (T'.setTop (mkF m (pc + 3) Ls (v.toList ++ rest)))) : Goes p e below FE n0 Q (T.setTop (mkF m pc Ls st)) := by
  subst hst
  obtain ⟨v, _, ⟨T', L', k', n'⟩, -, X', ⟨Lc, hQ, l1, l2, l3⟩, st'⟩ := Jvm.LawKit.callS X hx (y := y) hown (mvT hZ w1) (mvT hZ w2) (mvT hZ w3) (mvT hZ w4) hy (backOf (W := W) (Q := fun v h L => Fr n0 L ∧ Q' v h) M hZ w4 w3 hf hl) (g := mkF m pc Ls (argsL.reverse ++ rest)) rfl hsize (argsL := argsL) (rest := rest) hlen rfl (by show 2 * 0 + _ ≤ _; omega) hd (fun _ _ => ⟨rfl, eT, hc, hs⟩)
  dsimp only [Pt.U, Pt.locs, Pt.cells, Pt.slots] at X' l1 l2 l3 st' hQ
  subst l1 l2 l3
  exact Goes.via st' (k v T' _ X' (Fr.app N hQ.1) hQ.2)
theorem own_special (X : Stand p l e R s m args below meth c T locs cells slots) (hx : p.tables.exec = Jvm.exec) (hZ : Z.Warmed39 s.vm) {own : String} {index : Nat} (hown : s.vm.findClass own = some m.cls) {y : MethodName} {bytes : ByteArray} {maxL : Nat} {rm : Room} {W : Nat} {Q' : Option Value → Heap → Prop} (hy1 : y.name = "<init>") (w1 : (Jvm.Cond.methodLink own index y).before a0 Z = true) (w2 : (Jvm.Cond.instanceMethod y).before a0 Z = true) (w3 : (Jvm.Cond.initialized y.cls).before a0 Z = true) (w4 : (Jvm.Cond.code y bytes maxL none).before a0 Z = true) {a : Addr} (hy : y.cls ≠ "java/lang/invoke/MethodHandle" ∧ y.cls ≠ "java/lang/invoke/VarHandle") (hf : rm.frames + 1 ≤ R.frames) (hl : W + (maxL + 11) + rm.locals ≤ R.locals) (N : Fr n0 locs) (eT : T.heap = h) (hsize : Ls.size = c.maxLocals) {argsL rest : List Value} (hlen : ∀ sig, parseMethodDescriptor y.desc = some sig → argsL.length = sig.parameters.length) (hW : (rest.map fun v => v.category).sum ≤ W) (hc : cells + rm.cells ≤ R.cells) (hs : slots + rm.slots ≤ R.slots) (M : Meets l y bytes maxL none [] rm rm.cells rm.slots Z (.ref a :: argsL).toArray h n0 Q') (hst : st = argsL.reverse ++ .ref a :: rest) (hd : decode c.code pc = .ok (.invokespecial index, 3))
    (k : ∀ v T' locs', Stand p l e R s m args below meth c T' locs' (cells + rm.cells) (slots + rm.slots) → Fr n0 locs' → Q' v T'.heap → Goes p e below FE n0 Q (T'.setTop (mkF m (pc + 3) Ls (v.toList ++ rest)))) : Goes p e below FE n0 Q (T.setTop (mkF m pc Ls st)) := by
  subst hst
  obtain ⟨v, _, ⟨T', L', k', n'⟩, -, X', ⟨Lc, hQ, l1, l2, l3⟩, st'⟩ := X.specialBack hx (y := y) hy1 hown (mvT hZ w1) (mvT hZ w2) (mvT hZ w4) hy (backOf (W := W) (Q := fun v h L => Fr n0 L ∧ Q' v h) M hZ w4 w3 hf hl) (g := mkF m pc Ls (argsL.reverse ++ .ref a :: rest)) rfl hsize (Steps.refl _) (a := a) (argsL := argsL) (rest := rest) hlen rfl (by show 2 * 0 + _ ≤ _; omega) hd (fun _ _ => ⟨rfl, eT, hc, hs⟩)
  dsimp only [Pt.U, Pt.locs, Pt.cells, Pt.slots] at X' l1 l2 l3 st' hQ
  subst l1 l2 l3
  exact Goes.via (fun _ k => st'.trans k) (k v T' _ X' (Fr.app N hQ.1) hQ.2)
theorem own_specialNest (X : Stand p l e R s m args below meth c T locs cells slots) (hx : p.tables.exec = Jvm.exec) (hZ : Z.Warmed39 s.vm) {own : String} {index : Nat} (hown : s.vm.findClass own = some m.cls) {y : MethodName} {bytes : ByteArray} {maxL : Nat} {rm : Room} {W : Nat} {Q' : Option Value → Heap → Prop} {host : String} (hy1 : y.name = "<init>") (w1 : (Jvm.Cond.methodLinkNest own index y host).before a0 Z = true) (w2 : (Jvm.Cond.instanceMethod y).before a0 Z = true) (w3 : (Jvm.Cond.initialized y.cls).before a0 Z = true) (w4 : (Jvm.Cond.code y bytes maxL none).before a0 Z = true) {a : Addr} (hy : y.cls ≠ "java/lang/invoke/MethodHandle" ∧ y.cls ≠ "java/lang/invoke/VarHandle") (hf : rm.frames + 1 ≤ R.frames) (hl : W + (maxL + 11) + rm.locals ≤ R.locals) (N : Fr n0 locs) (eT : T.heap = h) (hsize : Ls.size = c.maxLocals) {argsL rest : List Value} (hlen : ∀ sig, parseMethodDescriptor y.desc = some sig → argsL.length = sig.parameters.length) (hW : (rest.map fun v => v.category).sum ≤ W) (hc : cells + rm.cells ≤ R.cells) (hs : slots + rm.slots ≤ R.slots) (M : Meets l y bytes maxL none [] rm rm.cells rm.slots Z (.ref a :: argsL).toArray h n0 Q') (hst : st = argsL.reverse ++ .ref a :: rest) (hd : decode c.code pc = .ok (.invokespecial index, 3))
    (k : ∀ v T' locs', Stand p l e R s m args below meth c T' locs' (cells + rm.cells) (slots + rm.slots) → Fr n0 locs' → Q' v T'.heap → Goes p e below FE n0 Q (T'.setTop (mkF m (pc + 3) Ls (v.toList ++ rest)))) : Goes p e below FE n0 Q (T.setTop (mkF m pc Ls st)) := by
  subst hst
  obtain ⟨v, _, ⟨T', L', k', n'⟩, -, X', ⟨Lc, hQ, l1, l2, l3⟩, st'⟩ := X.specialBackNest hx (y := y) hy1 hown (Cond.methodLinkNest_wide hZ w1 :) (mvT hZ w2) (mvT hZ w4) hy (backOf (W := W) (Q := fun v h L => Fr n0 L ∧ Q' v h) M hZ w4 w3 hf hl) (g := mkF m pc Ls (argsL.reverse ++ .ref a :: rest)) rfl hsize (Steps.refl _) (a := a) (argsL := argsL) (rest := rest) hlen rfl (by show 2 * 0 + _ ≤ _; omega) hd (fun _ _ => ⟨rfl, eT, hc, hs⟩)
  dsimp only [Pt.U, Pt.locs, Pt.cells, Pt.slots] at X' l1 l2 l3 st' hQ
  subst l1 l2 l3
  exact Goes.via (fun _ k => st'.trans k) (k v T' _ X' (Fr.app N hQ.1) hQ.2)
theorem own_virtual (X : Stand p l e R s m args below meth c T locs cells slots) (hx : p.tables.exec = Jvm.exec) (hZ : Z.Warmed39 s.vm) {own : String} {index : Nat} (hown : s.vm.findClass own = some m.cls) {y : MethodName} {bytes : ByteArray} {maxL : Nat} {ret : Option FieldType} {rm : Room} {W : Nat} {Q' : Option Value → Heap → Prop} {z : MethodName} {C : String} (w1 : (Jvm.Cond.methodLink own index y).before a0 Z = true) (w2 : (Jvm.Cond.declares y).before a0 Z = true) (hnf : NotFace s y) (w5 : (Jvm.Cond.selects C y z).before a0 Z = true) (w6 : (Jvm.Cond.instanceMethod z).before a0 Z = true) (w3 : (Jvm.Cond.initialized z.cls).before a0 Z = true) (w4 : (Jvm.Cond.code z bytes maxL ret).before a0 Z = true) {a : Addr} (E : Exa Z h a C) (hy : y.cls ≠ "java/lang/invoke/MethodHandle" ∧ y.cls ≠ "java/lang/invoke/VarHandle") (hf : rm.frames + 1 ≤ R.frames) (hl : W + (maxL + 11) + rm.locals ≤ R.locals) (N : Fr n0 locs) (eT : T.heap = h) (hsize : Ls.size = c.maxLocals) {argsL rest : List Value} (hlen : ∀ sig, parseMethodDescriptor y.desc = some sig → argsL.length = sig.parameters.length) (hW : (rest.map fun v => v.category).sum ≤ W) (hc : cells + rm.cells ≤ R.cells) (hs : slots + rm.slots ≤ R.slots) (M : Meets l z bytes maxL ret [] rm rm.cells rm.slots Z (.ref a :: argsL).toArray h n0 Q') (hst : st = argsL.reverse ++ .ref a :: rest) (hd : decode c.code pc = .ok (.invokevirtual index, 3))
    (k : ∀ v T' locs', Stand p l e R s m args below meth c T' locs' (cells + rm.cells) (slots + rm.slots) → Fr n0 locs' → Q' v T'.heap → Goes p e below FE n0 Q (T'.setTop (mkF m (pc + 3) Ls (v.toList ++ rest)))) : Goes p e below FE n0 Q (T.setTop (mkF m pc Ls st)) := by
  subst hst
  obtain ⟨cq, kq, qa, qb, qc⟩ := isOf hZ eT E
  obtain ⟨v, _, ⟨T', L', k', n'⟩, -, X', ⟨Lc, hQ, l1, l2, l3⟩, st'⟩ := X.virtualBack hx (y := y) (z := z) hown (mvT hZ w1) (mvT hZ w2) hnf (mvT hZ w5) (mvT hZ w6) hy (backOf (W := W) (Q := fun v h L => Fr n0 L ∧ Q' v h) M hZ w4 w3 hf hl) qa qc (g := mkF m pc Ls (argsL.reverse ++ .ref a :: rest)) rfl hsize (Steps.refl _) (argsL := argsL) (rest := rest) hlen rfl (by show 2 * 0 + _ ≤ _; omega) hd (fun _ _ => ⟨rfl, eT, hc, hs⟩)
  dsimp only [Pt.U, Pt.locs, Pt.cells, Pt.slots] at X' l1 l2 l3 st' hQ
  subst l1 l2 l3
  exact Goes.via (fun _ k => st'.trans k) (k v T' _ X' (Fr.app N hQ.1) hQ.2)
theorem own_private (X : Stand p l e R s m args below meth c T locs cells slots) (hx : p.tables.exec = Jvm.exec) (hZ : Z.Warmed39 s.vm) {own : String} {index : Nat} (hown : s.vm.findClass own = some m.cls) {y : MethodName} {bytes : ByteArray} {maxL : Nat} {ret : Option FieldType} {rm : Room} {W : Nat} {Q' : Option Value → Heap → Prop} (w1 : (Jvm.Cond.methodLink own index y).before a0 Z = true) (w2 : (Jvm.Cond.instanceMethod y).before a0 Z = true) {nn : Nat} (w5 : (Jvm.Cond.instantiable y.cls nn).before a0 Z = true) (w6 : (Jvm.Cond.privateMethod y).before a0 Z = true) (w3 : (Jvm.Cond.initialized y.cls).before a0 Z = true) (w4 : (Jvm.Cond.code y bytes maxL ret).before a0 Z = true) {a : Addr} {C : String} (E : Exa Z h a C) (hy : y.cls ≠ "java/lang/invoke/MethodHandle" ∧ y.cls ≠ "java/lang/invoke/VarHandle") (hf : rm.frames + 1 ≤ R.frames) (hl : W + (maxL + 11) + rm.locals ≤ R.locals) (N : Fr n0 locs) (eT : T.heap = h) (hsize : Ls.size = c.maxLocals) {argsL rest : List Value} (hlen : ∀ sig, parseMethodDescriptor y.desc = some sig → argsL.length = sig.parameters.length) (hW : (rest.map fun v => v.category).sum ≤ W) (hc : cells + rm.cells ≤ R.cells) (hs : slots + rm.slots ≤ R.slots) (M : Meets l y bytes maxL ret [] rm rm.cells rm.slots Z (.ref a :: argsL).toArray h n0 Q') (hst : st = argsL.reverse ++ .ref a :: rest) (hd : decode c.code pc = .ok (.invokevirtual index, 3))
    (k : ∀ v T' locs', Stand p l e R s m args below meth c T' locs' (cells + rm.cells) (slots + rm.slots) → Fr n0 locs' → Q' v T'.heap → Goes p e below FE n0 Q (T'.setTop (mkF m (pc + 3) Ls (v.toList ++ rest)))) : Goes p e below FE n0 Q (T.setTop (mkF m pc Ls st)) := by
  subst hst
  obtain ⟨cq, qa, qb⟩ := E.cell
  obtain ⟨v, _, ⟨T', L', k', n'⟩, -, X', ⟨Lc, hQ, l1, l2, l3⟩, st'⟩ := X.privateBack hx (y := y) hown (mvT hZ w1) (mvT hZ w2) (mvT hZ (own_selfsel w5 w2 w6 hy)) (Cond.privateMethod_at (mvP hZ w6 (args := #[]))) (mvT hZ w4) hy (backOf (W := W) (Q := fun v h L => Fr n0 L ∧ Q' v h) M hZ w4 w3 hf hl) (g := mkF m pc Ls (argsL.reverse ++ .ref a :: rest)) rfl hsize (Steps.refl _) (a := a) (by rw [eT]; exact qa) qb (argsL := argsL) (rest := rest) hlen rfl (by show 2 * 0 + _ ≤ _; omega) hd (fun _ _ => ⟨rfl, eT, hc, hs⟩)
  dsimp only [Pt.U, Pt.locs, Pt.cells, Pt.slots] at X' l1 l2 l3 st' hQ
  subst l1 l2 l3
  exact Goes.via (fun _ k => st'.trans k) (k v T' _ X' (Fr.app N hQ.1) hQ.2)
theorem own_virtualUp (X : Stand p l e R s m args below meth c T locs cells slots) (hx : p.tables.exec = Jvm.exec) (hZ : Z.Warmed39 s.vm) {own : String} {index : Nat} (hown : s.vm.findClass own = some m.cls) {y : MethodName} {bytes : ByteArray} {maxL : Nat} {ret : Option FieldType} {rm : Room} {W : Nat} {Q' : Option Value → Heap → Prop} {z : MethodName} {C owner : String} (w1 : (Jvm.Cond.methodLink own index y).before a0 Z = true) (w2 : (Jvm.Cond.sameMethod y.cls owner y.name y.desc).before a0 Z = true) (w7 : (Jvm.Cond.declares ⟨owner, y.name, y.desc⟩).before a0 Z = true) (w5 : (Jvm.Cond.selects C y z).before a0 Z = true) (w6 : (Jvm.Cond.instanceMethod z).before a0 Z = true) (w3 : (Jvm.Cond.initialized z.cls).before a0 Z = true) (w4 : (Jvm.Cond.code z bytes maxL ret).before a0 Z = true) {a : Addr} (E : Exa Z h a C) (hy : owner ≠ "java/lang/invoke/MethodHandle" ∧ owner ≠ "java/lang/invoke/VarHandle") (hf : rm.frames + 1 ≤ R.frames) (hl : W + (maxL + 11) + rm.locals ≤ R.locals) (N : Fr n0 locs) (eT : T.heap = h) (hsize : Ls.size = c.maxLocals) {argsL rest : List Value} (hlen : ∀ sig, parseMethodDescriptor y.desc = some sig → argsL.length = sig.parameters.length) (hW : (rest.map fun v => v.category).sum ≤ W) (hc : cells + rm.cells ≤ R.cells) (hs : slots + rm.slots ≤ R.slots) (M : Meets l z bytes maxL ret [] rm rm.cells rm.slots Z (.ref a :: argsL).toArray h n0 Q') (hst : st = argsL.reverse ++ .ref a :: rest) (hd : decode c.code pc = .ok (.invokevirtual index, 3))
    (k : ∀ v T' locs', Stand p l e R s m args below meth c T' locs' (cells + rm.cells) (slots + rm.slots) → Fr n0 locs' → Q' v T'.heap → Goes p e below FE n0 Q (T'.setTop (mkF m (pc + 3) Ls (v.toList ++ rest)))) : Goes p e below FE n0 Q (T.setTop (mkF m pc Ls st)) := by
  subst hst
  obtain ⟨cq, kq, qa, qb, qc⟩ := isOf hZ eT E
  obtain ⟨v, _, ⟨T', L', k', n'⟩, -, X', ⟨Lc, hQ, l1, l2, l3⟩, st'⟩ := X.virtualBackUp hx (x := y) (y := z) hown (mvT hZ w1) (mvT hZ w2) (mvT hZ w7 (by simp [Cond.onTables, Cond.keepsFace, Cond.keeps, Cond.steady, Cond.faceAtom, hy.1, hy.2])) hy (mvT hZ w5) (mvT hZ w6) (backOf (W := W) (Q := fun v h L => Fr n0 L ∧ Q' v h) M hZ w4 w3 hf hl) qa qc (g := mkF m pc Ls (argsL.reverse ++ .ref a :: rest)) rfl hsize (Steps.refl _) (argsL := argsL) (rest := rest) hlen rfl (by show 2 * 0 + _ ≤ _; omega) hd (fun _ _ => ⟨rfl, eT, hc, hs⟩)
  dsimp only [Pt.U, Pt.locs, Pt.cells, Pt.slots] at X' l1 l2 l3 st' hQ
  subst l1 l2 l3
  exact Goes.via (fun _ k => st'.trans k) (k v T' _ X' (Fr.app N hQ.1) hQ.2)
theorem own_iface (X : Stand p l e R s m args below meth c T locs cells slots) (hx : p.tables.exec = Jvm.exec) (hZ : Z.Warmed39 s.vm) {own : String} {index : Nat} (hown : s.vm.findClass own = some m.cls) {y : MethodName} {bytes : ByteArray} {maxL : Nat} {ret : Option FieldType} {rm : Room} {W : Nat} {Q' : Option Value → Heap → Prop} {z : MethodName} {C : String} {count : Nat} (w1 : (Jvm.Cond.methodLink own index y).before a0 Z = true) (w2 : (Jvm.Cond.declares y).before a0 Z = true) (w7 : (Jvm.Cond.interfaceMethod y.cls y.cls y.name y.desc).before a0 Z = true) (w5 : (Jvm.Cond.selects C y z).before a0 Z = true) (w6 : (Jvm.Cond.instanceMethod z).before a0 Z = true) (w8 : (Jvm.Cond.publicMethod z).before a0 Z = true) (w9 : (Jvm.Cond.unhidden C y.name y.desc).before a0 Z = true) (wc : (Jvm.Cond.castable C y.cls).before a0 Z = true) (w3 : (Jvm.Cond.initialized z.cls).before a0 Z = true) (w4 : (Jvm.Cond.code z bytes maxL ret).before a0 Z = true) {a : Addr} (E : Exa Z h a C) (hy : y.cls ≠ "java/lang/invoke/MethodHandle" ∧ y.cls ≠ "java/lang/invoke/VarHandle") (hf : rm.frames + 1 ≤ R.frames) (hl : W + (maxL + 11) + rm.locals ≤ R.locals) (N : Fr n0 locs) (eT : T.heap = h) (hsize : Ls.size = c.maxLocals) {argsL rest : List Value} (hlen : ∀ sig, parseMethodDescriptor y.desc = some sig → argsL.length = sig.parameters.length) (hW : (rest.map fun v => v.category).sum ≤ W) (hc : cells + rm.cells ≤ R.cells) (hs : slots + rm.slots ≤ R.slots) (M : Meets l z bytes maxL ret [] rm rm.cells rm.slots Z (.ref a :: argsL).toArray h n0 Q') (hst : st = argsL.reverse ++ .ref a :: rest) (hd : decode c.code pc = .ok (.invokeinterface index count, 5))
    (k : ∀ v T' locs', Stand p l e R s m args below meth c T' locs' (cells + rm.cells) (slots + rm.slots) → Fr n0 locs' → Q' v T'.heap → Goes p e below FE n0 Q (T'.setTop (mkF m (pc + 5) Ls (v.toList ++ rest)))) : Goes p e below FE n0 Q (T.setTop (mkF m pc Ls st)) := by
  subst hst
  obtain ⟨cq, kq, qa, qb, qc⟩ := isOf hZ eT E
  obtain ⟨v, _, ⟨T', L', k', n'⟩, -, X', ⟨Lc, hQ, l1, l2, l3⟩, st'⟩ := X.interfaceBack hx (xi := y) (y := z) hown (mvT hZ w1) (mvT hZ w2) (mvT hZ w7 (by simp [Cond.onTables, Cond.keepsFace, Cond.keeps, Cond.steady, Cond.faceAtom, hy.1, hy.2])) (mvT hZ w5) (mvT hZ w6) (mvT hZ w8) (mvT hZ w9) (mvT hZ wc) hy (backOf (W := W) (Q := fun v h L => Fr n0 L ∧ Q' v h) M hZ w4 w3 hf hl) qa qb qc (g := mkF m pc Ls (argsL.reverse ++ .ref a :: rest)) rfl hsize (Steps.refl _) (argsL := argsL) (rest := rest) hlen rfl (by show 2 * 0 + _ ≤ _; omega) hd (fun _ _ => ⟨rfl, eT, hc, hs⟩)
  dsimp only [Pt.U, Pt.locs, Pt.cells, Pt.slots] at X' l1 l2 l3 st' hQ
  subst l1 l2 l3
  exact Goes.via (fun _ k => st'.trans k) (k v T' _ X' (Fr.app N hQ.1) hQ.2)
theorem own_gcls (X : Stand p l e R s m args below meth c T locs cells slots) (hx : p.tables.exec = Jvm.exec) (hZ : Z.Warmed39 s.vm) {own : String} {index : Nat} (hown : s.vm.findClass own = some m.cls) {C : String} (w1 : (Jvm.Cond.methodLink own index ⟨"java/lang/Object", "getClass", "()Ljava/lang/Class;"⟩).before a0 Z = true) (w2 : (Jvm.Cond.declares ⟨"java/lang/Object", "getClass", "()Ljava/lang/Class;"⟩).before a0 Z = true) (w3 : (Jvm.Cond.noSuperclass "java/lang/Object").before a0 Z = true) (w4 : (Jvm.Cond.selects C ⟨"java/lang/Object", "getClass", "()Ljava/lang/Class;"⟩ ⟨"java/lang/Object", "getClass", "()Ljava/lang/Class;"⟩).before a0 Z = true) (w5 : (Jvm.Cond.instanceMethod ⟨"java/lang/Object", "getClass", "()Ljava/lang/Class;"⟩).before a0 Z = true) (w6 : (Jvm.Cond.native ⟨"java/lang/Object", "getClass", "()Ljava/lang/Class;"⟩).before a0 Z = true) (eT : T.heap = h) {a mr : Addr} (E : Exa Z h a C) (M : ∃ (c : ClassId) (k : Class), Z.vm.findClass C = some c ∧ Z.vm.classes[c]? = some k ∧ k.mirror = some mr) (hsize : Ls.size = c.maxLocals) (hd : decode c.code pc = .ok (.invokevirtual index, 3)) (hf : 1 ≤ R.frames) {W : Nat} (hW : (st.map fun v => v.category).sum ≤ W) (hl : W + 14 ≤ R.locals)
    (k : ∀ T', Stand p l e R s m args below meth c T' locs cells slots → T'.heap = h → Goes p e below FE n0 Q (T'.setTop (mkF m (pc + 3) Ls (.ref mr :: st)))) : Goes p e below FE n0 Q (T.setTop (mkF m pc Ls (.ref a :: st))) := by
  obtain ⟨cB, kB, i1, i2, i3⟩ := isOf hZ eT E
  obtain ⟨cc, kc, m1, m2, m3⟩ := M
  rw [hZ.alike.findClass] at i1
  cases i1.symm.trans m1
  obtain ⟨k', q, ek⟩ := hZ.alike.2.2 _ _ m2
  obtain ⟨vm', X', st'⟩ := X.getClassOf hx hown (mvT hZ w1) (mvT hZ w2) (nf_top (args := #[]) (mvT hZ w3)) (mvT hZ w4) (mvT hZ w5) (mvT hZ w6) (by rw [hZ.alike.findClass]; exact m1) i3 q (by rw [ek]; exact m3) (g := mkF m pc Ls (.ref a :: st)) rfl hsize rfl hd hf (by show 2 * 0 + _ + (1 + 2 + 11) ≤ _; omega)
  exact Goes.via st' (k _ X' eT)
theorem own_ldcMir (X : Stand p l e R s m args below meth c T locs cells slots) (hx : p.tables.exec = Jvm.exec) (hZ : Z.Warmed39 s.vm) {own : String} {index : Nat} (hown : s.vm.findClass own = some m.cls) {C : String} (w : (Jvm.Cond.classLink own index C).before a0 Z = true) (eT : T.heap = h) {mr : Addr} (M : ∃ (c : ClassId) (k : Class), Z.vm.findClass C = some c ∧ Z.vm.classes[c]? = some k ∧ k.mirror = some mr) (hd : decode c.code pc = .ok (.ldc index, 2))
    (k : ∀ T', Stand p l e R s m args below meth c T' locs cells slots → T'.heap = h → Goes p e below FE n0 Q (T'.setTop (mkF m (pc + 2) Ls (.ref mr :: st)))) : Goes p e below FE n0 Q (T.setTop (mkF m pc Ls st)) := by
  obtain ⟨cc, kc, m1, m2, m3⟩ := M
  obtain ⟨k', q, ek⟩ := hZ.alike.2.2 _ _ m2
  have hf' : s.vm.findClass C = some cc := by rw [hZ.alike.findClass]; exact m1
  obtain ⟨vm', X', st'⟩ := X.ldcMirror hx hown (mv hZ w) (a := mr) (by
    have hm : k'.mirror = some mr := by first | (rw [ek]; exact m3) | (rw [← ek]; exact m3) | (have := congrArg Class.mirror ek; simp at this; rw [← this]; exact m3) | (have := congrArg Class.mirror ek; simp at this; rw [this]; exact m3)
    show ((s.vm.findClass C).bind fun c => (s.vm.classes[c]?).bind fun k => k.mirror.bind fun a => some (Value.ref a)) = some (.ref mr)
    rw [hf']
    show ((s.vm.classes[cc]?).bind fun k => k.mirror.bind fun a => some (Value.ref a)) = some (.ref mr)
    rw [q]
    show (k'.mirror.bind fun a => some (Value.ref a)) = some (.ref mr)
    rw [hm]
    rfl) (g := mkF m pc Ls st) rfl hd
  exact Goes.via st' (k _ X' eT)
theorem own_cpA (X : Stand p l e R s m args below meth c T locs cells slots) (hx : p.tables.exec = Jvm.exec) (hZ : Z.Warmed39 s.vm) {own : String} {index : Nat} (hown : s.vm.findClass own = some m.cls) (w1 : (Jvm.Cond.methodLink own index Jvm.Stand.acN).before a0 Z = true) (w2 : (Jvm.Cond.native Jvm.Stand.acN).before a0 Z = true) (w3 : (Jvm.Cond.static Jvm.Stand.acN).before a0 Z = true) (w4 : (Jvm.Cond.initialized "java/lang/System").before a0 Z = true) (eT : T.heap = h) {a b : Addr} {k k' : ClassId} {ty ty' : FieldType} {z z' sp dp nn : Int32} {vs vd us vr : List Value} {dv dd : Value} (A : Arv Z h a k ty z vs dv) (B : Arv Z h b k' ty' z' vd dd) (hty : (ty = ty' ∧ refKind ty = false) ∨ (refKind ty = true ∧ refKind ty' = true ∧ StoL Z h b us)) (h1 : ¬ sp < 0) (h2 : ¬ dp < 0) (h3 : ¬ nn < 0) (h4 : sp.toNatClampNeg + nn.toNatClampNeg ≤ z.toNatClampNeg) (h5 : dp.toNatClampNeg + nn.toNatClampNeg ≤ z'.toNatClampNeg) (hus : us = (List.range nn.toNatClampNeg).map fun i => vs.getD (sp.toNatClampNeg + i) dv) (hl : dp.toNatClampNeg + nn.toNatClampNeg ≤ vd.length) (hvr : vd.take dp.toNatClampNeg ++ us ++ vd.drop (dp.toNatClampNeg + nn.toNatClampNeg) = vr) (N : Fr n0 locs) (ge : n0 ≤ b) (hsize : Ls.size = c.maxLocals) (hd : decode c.code pc = .ok (.invokestatic index, 3)) (hf : 1 ≤ R.frames) {W : Nat} (hW : (st.map fun v => v.category).sum ≤ W) (hlo : W + 18 ≤ R.locals)
    (k : ∀ T' h' locs', Stand p l e R s m args below meth c T' locs' cells slots → T'.heap = h' → Fr n0 locs' → Keep h h' [b] → Arv Z h' b k' ty' z' vr dd → Goes p e below FE n0 Q (T'.setTop (mkF m (pc + 3) Ls st))) : Goes p e below FE n0 Q (T.setTop (mkF m pc Ls (.int nn :: .int dp :: .ref b :: .int sp :: .ref a :: st))) := by
  subst hvr
  obtain ⟨T', h', L, X', e', N', K', V', st'⟩ := cpA X hx hZ hown w1 w2 w3 w4 eT A B hty h1 h2 h3 h4 h5 hus hl N ge (g := mkF m pc Ls (.int nn :: .int dp :: .ref b :: .int sp :: .ref a :: st)) rfl hsize rfl hd hf (W := W) (by show 2 * 0 + _ ≤ _; omega) hlo
  exact Goes.via st' (k T' h' L X' e' N' K' V')
theorem own_retN (X : Stand p l e R s m args below meth c T locs cells slots) (hx : p.tables.exec = Jvm.exec) {t : FieldType} {z : Int32} (N : Fr n0 locs) (hlk : meth.locks = false) (hc : cells ≤ kc) (hs : slots ≤ ks) (hret : meth.sig.returnType = some t) (ht : t = .boolean ∨ t = .byte ∨ t = .char ∨ t = .short) (hd : decode c.code pc = .ok (.ireturn, 1)) (hq : Q (some (.int (nar t z))) T.heap) : Goes p e below (fun o t L => FrameEnd s o t L kc ks) n0 Q (T.setTop (mkF m pc Ls (.int z :: st))) :=
  Goes.ret X N hlk (fun h => by rw [hret] at h; cases h) hc hs hq (fun fs hr => retN X hx hret ht hd hr)
theorem own_retI (X : Stand p l e R s m args below meth c T locs cells slots) (hx : p.tables.exec = Jvm.exec) {z : Int32} (N : Fr n0 locs) (hlk : meth.locks = false) (hc : cells ≤ kc) (hs : slots ≤ ks) (hret : meth.sig.returnType = some .int) (hd : decode c.code pc = .ok (.ireturn, 1)) (hq : Q (some (.int z)) T.heap) : Goes p e below (fun o t L => FrameEnd s o t L kc ks) n0 Q (T.setTop (mkF m pc Ls (.int z :: st))) :=
  Goes.ret X N hlk (fun h => by rw [hret] at h; cases h) hc hs hq (fun fs hr => retOut X hx hret rfl (Or.inl ⟨rfl, Or.inl rfl, _, rfl⟩) hd hr)
theorem own_retJ (X : Stand p l e R s m args below meth c T locs cells slots) (hx : p.tables.exec = Jvm.exec) {z : Int64} (N : Fr n0 locs) (hlk : meth.locks = false) (hc : cells ≤ kc) (hs : slots ≤ ks) (hret : meth.sig.returnType = some .long) (hd : decode c.code pc = .ok (.lreturn, 1)) (hq : Q (some (.long z)) T.heap) : Goes p e below (fun o t L => FrameEnd s o t L kc ks) n0 Q (T.setTop (mkF m pc Ls (.long z :: st))) :=
  Goes.ret X N hlk (fun h => by rw [hret] at h; cases h) hc hs hq (fun fs hr => retOut X hx hret rfl (Or.inr (Or.inl ⟨rfl, rfl, _, rfl⟩)) hd hr)
theorem own_retR (X : Stand p l e R s m args below meth c T locs cells slots) (hx : p.tables.exec = Jvm.exec) {v : Value} {t : FieldType} (N : Fr n0 locs) (hlk : meth.locks = false) (hc : cells ≤ kc) (hs : slots ≤ ks) (hret : meth.sig.returnType = some t) (ht : t.isReference = true) (hv : v.isRef = true) (hn : narrow t v = v) (hd : decode c.code pc = .ok (.areturn, 1)) (hq : Q (some v) T.heap) : Goes p e below (fun o t L => FrameEnd s o t L kc ks) n0 Q (T.setTop (mkF m pc Ls (v :: st))) :=
  Goes.ret X N hlk (fun h => by rw [hret] at h; cases h) hc hs hq (fun fs hr => retOut X hx hret hn (Or.inr (Or.inr (Or.inr (Or.inr ⟨rfl, ht, hv⟩)))) hd hr)
theorem own_retV (X : Stand p l e R s m args below meth c T locs cells slots) (hx : p.tables.exec = Jvm.exec) (N : Fr n0 locs) (hlk : meth.locks = false) (hc : cells ≤ kc) (hs : slots ≤ ks) (hret : meth.sig.returnType = none) (hd : decode c.code pc = .ok (.return_, 1)) (hq : Q none T.heap) : Goes p e below (fun o t L => FrameEnd s o t L kc ks) n0 Q (T.setTop (mkF m pc Ls [])) :=
  Goes.ret X N hlk (fun _ => rfl) hc hs hq (fun fs hr => X.returnOut hx hret hd hr)
theorem own_bz {P : Prop} [Decidable P] (h : ¬ P) : (if P then (1 : Int32) else (0 : Int32)) = (0 : Int32) := if_neg h
theorem own_bnz {P : Prop} [Decidable P] (h : ¬ ¬ P) : ¬ ((if P then (1 : Int32) else (0 : Int32)) = (0 : Int32)) := by rw [if_pos (Classical.not_not.mp h)]; decide
theorem own_nb (P : Prop) [Decidable P] : narrow .boolean (.int (if P then (1 : Int32) else (0 : Int32))) = (.int (if P then (1 : Int32) else (0 : Int32))) ∧ fits .boolean (.int (if P then (1 : Int32) else (0 : Int32))) = true := by
  by_cases h : P
  · rw [if_pos h]; exact ⟨rfl, rfl⟩
  · rw [if_neg h]; exact ⟨rfl, rfl⟩
theorem own_narb (P : Prop) [Decidable P] : nar .boolean (if P then (1 : Int32) else (0 : Int32)) = (if P then (1 : Int32) else (0 : Int32)) := by
  by_cases h : P
  · rw [if_pos h]; rfl
  · rw [if_neg h]; rfl
theorem own_eq {args : Array Value} {s s' : State} {o : Option Outcome} {idx : List Nat} {a b : Term} {v : Value} (h : (Jvm.Cond.eq a b).value args s o s' idx = some true) (hb : b.eval args s o idx s' = some v) : a.eval args s o idx s' = some v := by
  simp only [Cond.value, hb] at h
  cases ha : a.eval args s o idx s' with
  | none => simp [ha] at h
  | some w => rw [ha] at h; cases w <;> cases v <;> simp_all
theorem own_len {args : Array Value} {t : Term} {a : Addr} {cl : Cell} {ty : FieldType} {z : Int32} (ev : t.eval args Z none [] Z = some (.ref a)) (A : Arr Z Z.heap a cl ty) (hl : (Term.length t).eval args Z none [] Z = some (.int z)) : cl.slots.size < 2 ^ 31 ∧ cl.slots.size.toInt32 = z := by
  have ha : Z.arrayAt? a = some cl := A.fin (Vm.Alike.refl _)
  by_cases q : cl.slots.size < 2 ^ 31
  · have h2 := (len_f ev ha q).symm.trans hl
    exact ⟨q, by cases h2; rfl⟩
  · simp [Term.eval, ev, ha, q] at hl
theorem own_arr {args : Array Value} {t : Term} {a : Addr} {cl : Cell} {ty : FieldType} {z : Int32} {vs : List Value} {dv : Value} (hf : Fit Z) (ev : t.eval args Z none [] Z = some (.ref a)) (A : Arr Z Z.heap a cl ty) (hl : (Term.length t).eval args Z none [] Z = some (.int z)) (hz : ¬ z < 0) (hn : z.toNatClampNeg = vs.length) (H : HasL cl 0 vs) : Arv Z Z.heap a cl.cls ty z vs dv :=
  Arv.start hf A (own_len ev A hl).1 (own_len ev A hl).2 hz hn H
theorem own_fold {f : Nat → Option Bool} : ∀ (L : List Nat) (acc : Option Bool), L.foldl (fun acc i => match acc with | some true => f i | x => x) acc = some true → acc = some true ∧ ∀ i ∈ L, f i = some true
  | [], acc, h => ⟨h, fun _ q => nomatch q⟩
  | i :: L, acc, h => by
    obtain ⟨h1, h2⟩ := own_fold L _ h
    have h3 : acc = some true := by rcases acc with _ | (_ | _) <;> simp_all
    subst h3
    exact ⟨rfl, fun j hj => by rcases List.mem_cons.mp hj with rfl | q; exact h1; exact h2 j q⟩
theorem own_all {args : Array Value} {first s : State} {o : Option Outcome} {idx : List Nat} {t : Term} {c : Jvm.Cond} {a : Addr} {cell : Cell} (h : (Jvm.Cond.all t c).value args first o s idx = some true) (ev : t.eval args first o idx s = some (.ref a)) (ha : s.arrayAt? a = some cell) : ∀ i, i < cell.slots.size → c.value args first o s (i :: idx) = some true := by
  intro i hi
  simp only [Cond.value, ev, ha] at h
  exact (own_fold _ _ h).2 i (List.mem_range.mpr hi)
theorem own_exaI {args : Array Value} {t : Term} {C : String} {idx : List Nat} (h : (Jvm.Cond.exactly t C).value args Z none Z idx = some true) : ∃ b, t.eval args Z none idx Z = some (.ref b) ∧ Exa Z Z.heap b C := by
  obtain ⟨a, c, cell, k, e1, e2, e3, e4, e5, e6, e7⟩ := Cond.exactly_spec (beq_iff_eq.mpr h : (Jvm.Cond.exactly t C).holds args Z none Z idx = true)
  subst e6
  exact ⟨a, e1, cell, k, e3, e2, e4, e5, e7⟩
theorem own_NSroot {O K : String} {nn : Nat} (w : (Jvm.Cond.noSuperclass O).before a0 Z = true) (wi : (Jvm.Cond.instantiable K nn).before a0 Z = true) (hn : O ≠ K) : NS Z O K := by
  obtain ⟨c, k, h1, h2, h3, -, -⟩ := Cond.noSuperclass_spec w
  obtain ⟨t, kt, g1, -⟩ := Cond.instantiable_spec wi
  have ne := ids_ne h1 g1 hn
  refine ⟨c, t, h1, g1, fun fuel => ?_⟩
  cases fuel with
  | zero => rfl
  | succ f => simp [Vm.isSubclassAux, ne, h2, h3]
theorem own_NSno {C S K : String} {nn : Nat} (w : (Jvm.Cond.superclass C S).before a0 Z = true) (wi : (Jvm.Cond.instantiable K nn).before a0 Z = true) (n : NS Z C K) (hn : C ≠ K) : ∃ c t, Z.vm.findClass C = some c ∧ Z.vm.findClass K = some t ∧ Z.vm.assignable c t = false := by
  obtain ⟨c, t, h0, g0, n3⟩ := n
  obtain ⟨p, k, kp, h1, h2, h3, h4, h5, -, h7⟩ := Cond.superclass_spec h0 w
  obtain ⟨t', k', g1, g2, g5, g7, -⟩ := Cond.instantiable_spec wi
  cases g0.symm.trans g1
  rw [Bool.or_eq_false_iff] at g7
  have ne := ids_ne h0 g0 hn
  refine ⟨c, t, h0, g0, ?_⟩
  show Z.vm.assignableAux (255 + 1) c t = false
  simp [Vm.assignableAux, ne, h2, g2, h5, g5, g7.1, Vm.isSubclass, n3]
end OwnKit
def Start (Z : State) (w_EMPTY_ELEMENTDATA : Addr) (w_DEFAULTCAPACITY_EMPTY_ELEMENTDATA : Addr) (w_EMPTY : Addr) (w_EMPTY_LIST : Addr) (k_w_EMPTY_ELEMENTDATA : ClassId) (k_w_DEFAULTCAPACITY_EMPTY_ELEMENTDATA : ClassId) (w_mir : Addr) (w_els : Addr) (k_els : ClassId) : Prop :=
  Sta Z Z.heap "java/util/ArrayList" "EMPTY_ELEMENTDATA" "[Ljava/lang/Object;" (.ref w_EMPTY_ELEMENTDATA) ∧
  Exa Z Z.heap w_EMPTY_ELEMENTDATA "[Ljava/lang/Object;" ∧
  Sta Z Z.heap "java/util/ArrayList" "DEFAULTCAPACITY_EMPTY_ELEMENTDATA" "[Ljava/lang/Object;" (.ref w_DEFAULTCAPACITY_EMPTY_ELEMENTDATA) ∧
  Exa Z Z.heap w_DEFAULTCAPACITY_EMPTY_ELEMENTDATA "[Ljava/lang/Object;" ∧
  Sta Z Z.heap "java/util/ImmutableCollections" "EMPTY" "Ljava/lang/Object;" (.ref w_EMPTY) ∧
  Exa Z Z.heap w_EMPTY "java/lang/Object" ∧
  Sta Z Z.heap "java/util/ImmutableCollections" "EMPTY_LIST" "Ljava/util/ImmutableCollections$ListN;" (.ref w_EMPTY_LIST) ∧
  Exa Z Z.heap w_EMPTY_LIST "java/util/ImmutableCollections$ListN" ∧
  Arv Z Z.heap w_EMPTY_ELEMENTDATA k_w_EMPTY_ELEMENTDATA (.object "java/lang/Object") (0 : Int32) [] .null ∧
  Arv Z Z.heap w_DEFAULTCAPACITY_EMPTY_ELEMENTDATA k_w_DEFAULTCAPACITY_EMPTY_ELEMENTDATA (.object "java/lang/Object") (0 : Int32) [] .null ∧
  Sta Z Z.heap "java/util/ImmutableCollections" "$assertionsDisabled" "Z" (.int (1 : Int32)) ∧
  Fld Z Z.heap w_EMPTY_LIST "java/util/ImmutableCollections$ListN" "allowNulls" "Z" (.int (0 : Int32)) ∧
  (∃ (c : ClassId) (k : Class), Z.vm.findClass "[Ljava/lang/Object;" = some c ∧ Z.vm.classes[c]? = some k ∧ k.mirror = some w_mir) ∧
  Fld Z Z.heap w_EMPTY_LIST "java/util/ImmutableCollections$ListN" "elements" "[Ljava/lang/Object;" (.ref w_els) ∧
  Arv Z Z.heap w_els k_els (.object "java/lang/Object") (0 : Int32) [] .null ∧
  True
theorem d2_0 : decode jdk_30_method_1_code 0 = .ok (.aload_n 0, 1) := by decide +kernel
theorem d2_1 : decode jdk_30_method_1_code 1 = .ok (.invokespecial 1, 3) := by decide +kernel
theorem d2_4 : decode jdk_30_method_1_code 4 = .ok (.return_, 1) := by decide +kernel
theorem pn_0 : plainName "java/lang/Record" = true := by first | (simp [plainName, overriddenIn]; done) | decide +kernel
def Q2 (Z : State) (a1 : Addr) (h0 : Heap) (n0 : Nat) (v : Option Value) (h : Heap) : Prop :=
  (v = none ∧ h = h0)
theorem ef_2 (m : MethodId) (a1 : Addr) : entryFrame m #[(.ref a1)] 1 = mkF m 0 #[.val (.ref a1)] [] := by first | (simp [entryFrame, mkF, argsToLocals, Value.category]; done) | rfl
set_option maxRecDepth 65536 in
set_option maxHeartbeats 40000000 in
theorem rm2 (l : Launch) (Z : State) (a0 : Array Value) (hw : ∀ d ∈ tables_1, d.before a0 Z = true) (ws : List Jvm.Cond) (a1 : Addr) (h0 : Heap) (n0 : Nat) (O0 : Old Z n0 h0) :
    Meets l (⟨"java/lang/Record", "<init>", "()V"⟩ : MethodName) jdk_30_method_1_code 1 none ws ({ frames := 1, cells := 0, slots := 0, locals := 12 } : Room) ({ frames := 1, cells := 0, slots := 0, locals := 12 } : Room).cells ({ frames := 1, cells := 0, slots := 0, locals := 12 } : Room).slots Z #[(.ref a1)] h0 n0 (Q2 Z a1 h0 n0) := by
  refine Meets.of (F := fun m => mkF m 0 #[.val (.ref a1)] []) (plainFor_of_name pn_0) (fun m => ef_2 m a1) ?_
  intro p e s m below meth c T0 hx hby hml hown0 hnm hret hlk hZ X0 e0
  have hown : s.vm.findClass "java/lang/Record" = some m.cls := hown0
  have N0 := Fr.nil n0
  show Goes _ _ _ _ _ _ (T0.setTop (mkF m 0 #[.val (.ref a1)] []))
  refine own_aloadN X0 hx (hb hby d2_0) rfl rfl ?_
  refine own_initO X0 hx hZ hown (hw _ (List.mem_of_getElem? (i := 13) rfl)) (hw _ (List.mem_of_getElem? (i := 14) rfl)) (hw _ (List.mem_of_getElem? (i := 15) rfl)) e0 (by rw [hml]; rfl) (hb hby d2_1) (by decide) (W := 0) (Nat.le_of_eq rfl) (by decide) (fun T1 X1 e1 => ?_)
  show Goes _ _ _ _ _ _ (T1.setTop (mkF m 4 #[.val (.ref a1)] []))
  exact own_retV X1 hx N0 hlk (by decide) (by decide) hret (hb hby d2_4) (by rw [e1]; exact ⟨rfl, rfl⟩)
theorem d6_0 : decode jdk_22_method_1_code 0 = .ok (.aload_n 0, 1) := by decide +kernel
theorem d6_1 : decode jdk_22_method_1_code 1 = .ok (.invokespecial 1, 3) := by decide +kernel
theorem d6_4 : decode jdk_22_method_1_code 4 = .ok (.return_, 1) := by decide +kernel
theorem pn_1 : plainName "java/util/AbstractCollection" = true := by first | (simp [plainName, overriddenIn]; done) | decide +kernel
def Q6 (Z : State) (a1 : Addr) (h0 : Heap) (n0 : Nat) (v : Option Value) (h : Heap) : Prop :=
  (v = none ∧ h = h0)
theorem ef_6 (m : MethodId) (a1 : Addr) : entryFrame m #[(.ref a1)] 1 = mkF m 0 #[.val (.ref a1)] [] := by first | (simp [entryFrame, mkF, argsToLocals, Value.category]; done) | rfl
set_option maxRecDepth 65536 in
set_option maxHeartbeats 40000000 in
theorem rm6 (l : Launch) (Z : State) (a0 : Array Value) (hw : ∀ d ∈ tables_1, d.before a0 Z = true) (ws : List Jvm.Cond) (a1 : Addr) (h0 : Heap) (n0 : Nat) (O0 : Old Z n0 h0) :
    Meets l (⟨"java/util/AbstractCollection", "<init>", "()V"⟩ : MethodName) jdk_22_method_1_code 1 none ws ({ frames := 1, cells := 0, slots := 0, locals := 12 } : Room) ({ frames := 1, cells := 0, slots := 0, locals := 12 } : Room).cells ({ frames := 1, cells := 0, slots := 0, locals := 12 } : Room).slots Z #[(.ref a1)] h0 n0 (Q6 Z a1 h0 n0) := by
  refine Meets.of (F := fun m => mkF m 0 #[.val (.ref a1)] []) (plainFor_of_name pn_1) (fun m => ef_6 m a1) ?_
  intro p e s m below meth c T0 hx hby hml hown0 hnm hret hlk hZ X0 e0
  have hown : s.vm.findClass "java/util/AbstractCollection" = some m.cls := hown0
  have N0 := Fr.nil n0
  show Goes _ _ _ _ _ _ (T0.setTop (mkF m 0 #[.val (.ref a1)] []))
  refine own_aloadN X0 hx (hb hby d6_0) rfl rfl ?_
  refine own_initO X0 hx hZ hown (hw _ (List.mem_of_getElem? (i := 43) rfl)) (hw _ (List.mem_of_getElem? (i := 14) rfl)) (hw _ (List.mem_of_getElem? (i := 15) rfl)) e0 (by rw [hml]; rfl) (hb hby d6_1) (by decide) (W := 0) (Nat.le_of_eq rfl) (by decide) (fun T1 X1 e1 => ?_)
  show Goes _ _ _ _ _ _ (T1.setTop (mkF m 4 #[.val (.ref a1)] []))
  exact own_retV X1 hx N0 hlk (by decide) (by decide) hret (hb hby d6_4) (by rw [e1]; exact ⟨rfl, rfl⟩)
theorem d24_0 : decode jdk_47_method_1_code 0 = .ok (.aload_n 0, 1) := by decide +kernel
theorem d24_1 : decode jdk_47_method_1_code 1 = .ok (.invokespecial 1, 3) := by decide +kernel
theorem pd_0 : parseMethodDescriptor "()V" = some ⟨[], none⟩ := by decide +kernel
theorem d24_4 : decode jdk_47_method_1_code 4 = .ok (.return_, 1) := by decide +kernel
theorem pn_2 : plainName "java/util/ImmutableCollections$AbstractImmutableCollection" = true := by first | (simp [plainName, overriddenIn]; done) | decide +kernel
def Q24 (Z : State) (a1 : Addr) (h0 : Heap) (n0 : Nat) (v : Option Value) (h : Heap) : Prop :=
  (v = none ∧ h = h0)
theorem ef_24 (m : MethodId) (a1 : Addr) : entryFrame m #[(.ref a1)] 1 = mkF m 0 #[.val (.ref a1)] [] := by first | (simp [entryFrame, mkF, argsToLocals, Value.category]; done) | rfl
set_option maxRecDepth 65536 in
set_option maxHeartbeats 40000000 in
theorem rm24 (l : Launch) (Z : State) (a0 : Array Value) (hw : ∀ d ∈ tables_1, d.before a0 Z = true) (ws : List Jvm.Cond) (a1 : Addr) (h0 : Heap) (n0 : Nat) (O0 : Old Z n0 h0) :
    Meets l (⟨"java/util/ImmutableCollections$AbstractImmutableCollection", "<init>", "()V"⟩ : MethodName) jdk_47_method_1_code 1 none ws ({ frames := 2, cells := 0, slots := 0, locals := 24 } : Room) ({ frames := 2, cells := 0, slots := 0, locals := 24 } : Room).cells ({ frames := 2, cells := 0, slots := 0, locals := 24 } : Room).slots Z #[(.ref a1)] h0 n0 (Q24 Z a1 h0 n0) := by
  refine Meets.of (F := fun m => mkF m 0 #[.val (.ref a1)] []) (plainFor_of_name pn_2) (fun m => ef_24 m a1) ?_
  intro p e s m below meth c T0 hx hby hml hown0 hnm hret hlk hZ X0 e0
  have hown : s.vm.findClass "java/util/ImmutableCollections$AbstractImmutableCollection" = some m.cls := hown0
  have N0 := Fr.nil n0
  show Goes _ _ _ _ _ _ (T0.setTop (mkF m 0 #[.val (.ref a1)] []))
  refine own_aloadN X0 hx (hb hby d24_0) rfl rfl ?_
  refine own_special X0 hx hZ hown (y := (⟨"java/util/AbstractCollection", "<init>", "()V"⟩ : MethodName)) rfl (hw _ (List.mem_of_getElem? (i := 174) rfl)) (hw _ (List.mem_of_getElem? (i := 38) rfl)) (hw _ (List.mem_of_getElem? (i := 41) rfl)) (hw _ (List.mem_of_getElem? (i := 42) rfl)) (a := a1) (by decide) (W := 0) (by decide) (by decide) N0 e0 (by rw [hml]; rfl) (argsL := []) (rest := []) (lenOf pd_0 rfl) (Nat.le_of_eq rfl) (by decide) (by decide) (rm6 l Z a0 hw [] a1 h0 n0 O0) rfl (hb hby d24_1) ?_
  intro v1 T1 lc1 X1 N1 hQ1
  obtain ⟨rfl, e1⟩ := hQ1
  show Goes _ _ _ _ _ _ (T1.setTop (mkF m 4 #[.val (.ref a1)] []))
  exact own_retV X1 hx N1 hlk (by decide) (by decide) hret (hb hby d24_4) (by rw [e1]; exact ⟨rfl, rfl⟩)
theorem d23_0 : decode jdk_46_method_1_code 0 = .ok (.aload_n 0, 1) := by decide +kernel
theorem d23_1 : decode jdk_46_method_1_code 1 = .ok (.invokespecial 1, 3) := by decide +kernel
theorem d23_4 : decode jdk_46_method_1_code 4 = .ok (.return_, 1) := by decide +kernel
theorem pn_3 : plainName "java/util/ImmutableCollections$AbstractImmutableList" = true := by first | (simp [plainName, overriddenIn]; done) | decide +kernel
def Q23 (Z : State) (a1 : Addr) (h0 : Heap) (n0 : Nat) (v : Option Value) (h : Heap) : Prop :=
  (v = none ∧ h = h0)
theorem ef_23 (m : MethodId) (a1 : Addr) : entryFrame m #[(.ref a1)] 1 = mkF m 0 #[.val (.ref a1)] [] := by first | (simp [entryFrame, mkF, argsToLocals, Value.category]; done) | rfl
set_option maxRecDepth 65536 in
set_option maxHeartbeats 40000000 in
theorem rm23 (l : Launch) (Z : State) (a0 : Array Value) (hw : ∀ d ∈ tables_1, d.before a0 Z = true) (ws : List Jvm.Cond) (a1 : Addr) (h0 : Heap) (n0 : Nat) (O0 : Old Z n0 h0) :
    Meets l (⟨"java/util/ImmutableCollections$AbstractImmutableList", "<init>", "()V"⟩ : MethodName) jdk_46_method_1_code 1 none ws ({ frames := 3, cells := 0, slots := 0, locals := 36 } : Room) ({ frames := 3, cells := 0, slots := 0, locals := 36 } : Room).cells ({ frames := 3, cells := 0, slots := 0, locals := 36 } : Room).slots Z #[(.ref a1)] h0 n0 (Q23 Z a1 h0 n0) := by
  refine Meets.of (F := fun m => mkF m 0 #[.val (.ref a1)] []) (plainFor_of_name pn_3) (fun m => ef_23 m a1) ?_
  intro p e s m below meth c T0 hx hby hml hown0 hnm hret hlk hZ X0 e0
  have hown : s.vm.findClass "java/util/ImmutableCollections$AbstractImmutableList" = some m.cls := hown0
  have N0 := Fr.nil n0
  show Goes _ _ _ _ _ _ (T0.setTop (mkF m 0 #[.val (.ref a1)] []))
  refine own_aloadN X0 hx (hb hby d23_0) rfl rfl ?_
  refine own_special X0 hx hZ hown (y := (⟨"java/util/ImmutableCollections$AbstractImmutableCollection", "<init>", "()V"⟩ : MethodName)) rfl (hw _ (List.mem_of_getElem? (i := 168) rfl)) (hw _ (List.mem_of_getElem? (i := 169) rfl)) (hw _ (List.mem_of_getElem? (i := 172) rfl)) (hw _ (List.mem_of_getElem? (i := 173) rfl)) (a := a1) (by decide) (W := 0) (by decide) (by decide) N0 e0 (by rw [hml]; rfl) (argsL := []) (rest := []) (lenOf pd_0 rfl) (Nat.le_of_eq rfl) (by decide) (by decide) (rm24 l Z a0 hw [] a1 h0 n0 O0) rfl (hb hby d23_1) ?_
  intro v1 T1 lc1 X1 N1 hQ1
  obtain ⟨rfl, e1⟩ := hQ1
  show Goes _ _ _ _ _ _ (T1.setTop (mkF m 4 #[.val (.ref a1)] []))
  exact own_retV X1 hx N1 hlk (by decide) (by decide) hret (hb hby d23_4) (by rw [e1]; exact ⟨rfl, rfl⟩)
theorem d5_0 : decode jdk_39_method_1_code 0 = .ok (.aload_n 0, 1) := by decide +kernel
theorem d5_1 : decode jdk_39_method_1_code 1 = .ok (.invokespecial 1, 3) := by decide +kernel
theorem d5_4 : decode jdk_39_method_1_code 4 = .ok (.aload_n 0, 1) := by decide +kernel
theorem d5_5 : decode jdk_39_method_1_code 5 = .ok (.iconst 0, 1) := by decide +kernel
theorem d5_6 : decode jdk_39_method_1_code 6 = .ok (.putfield 7, 3) := by decide +kernel
theorem d5_9 : decode jdk_39_method_1_code 9 = .ok (.return_, 1) := by decide +kernel
theorem pn_4 : plainName "java/util/AbstractList" = true := by first | (simp [plainName, overriddenIn]; done) | decide +kernel
def Q5 (Z : State) (a1 : Addr) (u1 : Value) (u2 : Value) (h0 : Heap) (n0 : Nat) (v : Option Value) (h : Heap) : Prop :=
  (v = none ∧ Keep h0 h [a1] ∧ Exa Z h a1 "java/util/ArrayList" ∧ Fld Z h a1 "java/util/AbstractList" "modCount" "I" (.int (0 : Int32)) ∧ Fld Z h a1 "java/util/ArrayList" "elementData" "[Ljava/lang/Object;" u2 ∧ Fld Z h a1 "java/util/ArrayList" "size" "I" (.int (0 : Int32)))
theorem ef_5 (m : MethodId) (a1 : Addr) : entryFrame m #[(.ref a1)] 1 = mkF m 0 #[.val (.ref a1)] [] := by first | (simp [entryFrame, mkF, argsToLocals, Value.category]; done) | rfl
set_option maxRecDepth 65536 in
set_option maxHeartbeats 40000000 in
theorem rm5 (l : Launch) (Z : State) (a0 : Array Value) (hw : ∀ d ∈ tables_1, d.before a0 Z = true) (ws : List Jvm.Cond) (a1 : Addr) (u1 : Value) (u2 : Value) (h0 : Heap) (n0 : Nat) (O0 : Old Z n0 h0) (f0 : Exa Z h0 a1 "java/util/ArrayList") (f1 : Fld Z h0 a1 "java/util/AbstractList" "modCount" "I" u1) (f2 : Fld Z h0 a1 "java/util/ArrayList" "elementData" "[Ljava/lang/Object;" u2) (f3 : Fld Z h0 a1 "java/util/ArrayList" "size" "I" (.int (0 : Int32))) (f4 : n0 ≤ a1) :
    Meets l (⟨"java/util/AbstractList", "<init>", "()V"⟩ : MethodName) jdk_39_method_1_code 1 none ws ({ frames := 2, cells := 0, slots := 0, locals := 24 } : Room) ({ frames := 2, cells := 0, slots := 0, locals := 24 } : Room).cells ({ frames := 2, cells := 0, slots := 0, locals := 24 } : Room).slots Z #[(.ref a1)] h0 n0 (Q5 Z a1 u1 u2 h0 n0) := by
  refine Meets.of (F := fun m => mkF m 0 #[.val (.ref a1)] []) (plainFor_of_name pn_4) (fun m => ef_5 m a1) ?_
  intro p e s m below meth c T0 hx hby hml hown0 hnm hret hlk hZ X0 e0
  have hown : s.vm.findClass "java/util/AbstractList" = some m.cls := hown0
  have N0 := Fr.nil n0
  have KC0 := Keep.refl h0 [a1]
  show Goes _ _ _ _ _ _ (T0.setTop (mkF m 0 #[.val (.ref a1)] []))
  refine own_aloadN X0 hx (hb hby d5_0) rfl rfl ?_
  refine own_special X0 hx hZ hown (y := (⟨"java/util/AbstractCollection", "<init>", "()V"⟩ : MethodName)) rfl (hw _ (List.mem_of_getElem? (i := 37) rfl)) (hw _ (List.mem_of_getElem? (i := 38) rfl)) (hw _ (List.mem_of_getElem? (i := 41) rfl)) (hw _ (List.mem_of_getElem? (i := 42) rfl)) (a := a1) (by decide) (W := 0) (by decide) (by decide) N0 e0 (by rw [hml]; rfl) (argsL := []) (rest := []) (lenOf pd_0 rfl) (Nat.le_of_eq rfl) (by decide) (by decide) (rm6 l Z a0 hw [] a1 h0 n0 O0) rfl (hb hby d5_1) ?_
  intro v1 T1 lc1 X1 N1 hQ1
  obtain ⟨rfl, e1⟩ := hQ1
  refine own_aloadN X1 hx (hb hby d5_4) rfl rfl ?_
  refine own_iconst X1 hx (v := (0 : Int32)) (hb hby d5_5) rfl ?_
  refine own_putF X1 hx hZ hown N1 (host := "") (Or.inl (hw _ (List.mem_of_getElem? (i := 44) rfl))) Via.refl e1 f1 f0 (Or.inl (hw _ (List.mem_of_getElem? (i := 45) rfl))) (hw _ (List.mem_of_getElem? (i := 26) rfl)) (ty := .int) (by decide) rfl rfl f4 (hb hby d5_6) (fun T2 h2 lc2 X2 e2 N2 W2 => ?_)
  have E3_a1 := f0.wr W2
  have F3_modCount_a1 := f1.same W2
  have F3_elementData_a1 := f2.other W2 (Or.inr (slot_ne (Or.inl (hw _ (List.mem_of_getElem? (i := 48) rfl))) (Or.inl (hw _ (List.mem_of_getElem? (i := 45) rfl))) (by decide) (t := (.array (.object "java/lang/Object"))) (t' := .int) (by decide) (by decide)))
  have F3_size_a1 := f3.other W2 (Or.inr (slot_ne (Or.inl (hw _ (List.mem_of_getElem? (i := 57) rfl))) (Or.inl (hw _ (List.mem_of_getElem? (i := 45) rfl))) (by decide) (t := .int) (t' := .int) (by decide) (by decide)))
  have O3 := O0.wr W2 f4
  have KC3 := KC0.wr W2 (Or.inl (List.mem_of_getElem? (i := 0) rfl))
  show Goes _ _ _ _ _ _ (T2.setTop (mkF m 9 #[.val (.ref a1)] []))
  exact own_retV X2 hx N2 hlk (by decide) (by decide) hret (hb hby d5_9) (by rw [e2]; exact ⟨rfl, KC3, E3_a1, F3_modCount_a1, F3_elementData_a1, F3_size_a1⟩)
theorem d4_0 : decode jdk_38_method_2_code 0 = .ok (.aload_n 0, 1) := by decide +kernel
theorem d4_1 : decode jdk_38_method_2_code 1 = .ok (.invokespecial 1, 3) := by decide +kernel
theorem d4_4 : decode jdk_38_method_2_code 4 = .ok (.aload_n 0, 1) := by decide +kernel
theorem d4_5 : decode jdk_38_method_2_code 5 = .ok (.getstatic 39, 3) := by decide +kernel
theorem d4_8 : decode jdk_38_method_2_code 8 = .ok (.putfield 9, 3) := by decide +kernel
theorem d4_11 : decode jdk_38_method_2_code 11 = .ok (.return_, 1) := by decide +kernel
theorem pn_5 : plainName "java/util/ArrayList" = true := by first | (simp [plainName, overriddenIn]; done) | decide +kernel
def Q4 (Z : State) (a1 : Addr) (u1 : Value) (u2 : Value) (w_EMPTY_ELEMENTDATA : Addr) (w_DEFAULTCAPACITY_EMPTY_ELEMENTDATA : Addr) (w_EMPTY : Addr) (w_EMPTY_LIST : Addr) (k_w_EMPTY_ELEMENTDATA : ClassId) (k_w_DEFAULTCAPACITY_EMPTY_ELEMENTDATA : ClassId) (w_mir : Addr) (w_els : Addr) (k_els : ClassId) (h0 : Heap) (n0 : Nat) (v : Option Value) (h : Heap) : Prop :=
  (v = none ∧ Keep h0 h [a1] ∧ Exa Z h a1 "java/util/ArrayList" ∧ Fld Z h a1 "java/util/AbstractList" "modCount" "I" (.int (0 : Int32)) ∧ Fld Z h a1 "java/util/ArrayList" "elementData" "[Ljava/lang/Object;" (.ref w_DEFAULTCAPACITY_EMPTY_ELEMENTDATA) ∧ Fld Z h a1 "java/util/ArrayList" "size" "I" (.int (0 : Int32)))
theorem ef_4 (m : MethodId) (a1 : Addr) : entryFrame m #[(.ref a1)] 1 = mkF m 0 #[.val (.ref a1)] [] := by first | (simp [entryFrame, mkF, argsToLocals, Value.category]; done) | rfl
set_option maxRecDepth 65536 in
set_option maxHeartbeats 40000000 in
theorem rm4 (l : Launch) (Z : State) (a0 : Array Value) (hw : ∀ d ∈ tables_1, d.before a0 Z = true) (ws : List Jvm.Cond) (a1 : Addr) (u1 : Value) (u2 : Value) (w_EMPTY_ELEMENTDATA : Addr) (w_DEFAULTCAPACITY_EMPTY_ELEMENTDATA : Addr) (w_EMPTY : Addr) (w_EMPTY_LIST : Addr) (k_w_EMPTY_ELEMENTDATA : ClassId) (k_w_DEFAULTCAPACITY_EMPTY_ELEMENTDATA : ClassId) (w_mir : Addr) (w_els : Addr) (k_els : ClassId) (h0 : Heap) (n0 : Nat) (O0 : Old Z n0 h0) (SF : Start Z w_EMPTY_ELEMENTDATA w_DEFAULTCAPACITY_EMPTY_ELEMENTDATA w_EMPTY w_EMPTY_LIST k_w_EMPTY_ELEMENTDATA k_w_DEFAULTCAPACITY_EMPTY_ELEMENTDATA w_mir w_els k_els) (f0 : Exa Z h0 a1 "java/util/ArrayList") (f1 : Fld Z h0 a1 "java/util/AbstractList" "modCount" "I" u1) (f2 : Fld Z h0 a1 "java/util/ArrayList" "elementData" "[Ljava/lang/Object;" u2) (f3 : Fld Z h0 a1 "java/util/ArrayList" "size" "I" (.int (0 : Int32))) (f4 : n0 ≤ a1) :
    Meets l (⟨"java/util/ArrayList", "<init>", "()V"⟩ : MethodName) jdk_38_method_2_code 1 none ws ({ frames := 3, cells := 0, slots := 0, locals := 36 } : Room) ({ frames := 3, cells := 0, slots := 0, locals := 36 } : Room).cells ({ frames := 3, cells := 0, slots := 0, locals := 36 } : Room).slots Z #[(.ref a1)] h0 n0 (Q4 Z a1 u1 u2 w_EMPTY_ELEMENTDATA w_DEFAULTCAPACITY_EMPTY_ELEMENTDATA w_EMPTY w_EMPTY_LIST k_w_EMPTY_ELEMENTDATA k_w_DEFAULTCAPACITY_EMPTY_ELEMENTDATA w_mir w_els k_els h0 n0) := by
  refine Meets.of (F := fun m => mkF m 0 #[.val (.ref a1)] []) (plainFor_of_name pn_5) (fun m => ef_4 m a1) ?_
  intro p e s m below meth c T0 hx hby hml hown0 hnm hret hlk hZ X0 e0
  have hown : s.vm.findClass "java/util/ArrayList" = some m.cls := hown0
  have N0 := Fr.nil n0
  have KC0 := Keep.refl h0 [a1]
  obtain ⟨z0, z1, z2, z3, z4, z5, z6, z7, z8, z9, z10, z11, zm, z13, z14, -⟩ := SF
  show Goes _ _ _ _ _ _ (T0.setTop (mkF m 0 #[.val (.ref a1)] []))
  refine own_aloadN X0 hx (hb hby d4_0) rfl rfl ?_
  refine own_special X0 hx hZ hown (y := (⟨"java/util/AbstractList", "<init>", "()V"⟩ : MethodName)) rfl (hw _ (List.mem_of_getElem? (i := 31) rfl)) (hw _ (List.mem_of_getElem? (i := 32) rfl)) (hw _ (List.mem_of_getElem? (i := 35) rfl)) (hw _ (List.mem_of_getElem? (i := 36) rfl)) (a := a1) (by decide) (W := 0) (by decide) (by decide) N0 e0 (by rw [hml]; rfl) (argsL := []) (rest := []) (lenOf pd_0 rfl) (Nat.le_of_eq rfl) (by decide) (by decide) (rm5 l Z a0 hw [] a1 (u1) (u2) h0 n0 O0 f0 f1 f2 f3 f4) rfl (hb hby d4_1) ?_
  intro v1 T1 lc1 X1 N1 hQ1
  obtain ⟨rfl, K1, r1_0, r1_1, r1_2, r1_3⟩ := hQ1
  have O2 := O0.keep K1 (allS f4 all0)
  have KC2 := KC0.trans K1 (allS (Or.inl (List.mem_of_getElem? (i := 0) rfl)) all0)
  refine own_aloadN X1 hx (hb hby d4_4) rfl rfl ?_
  refine own_getS X1 hx hZ hown (host := "") (Or.inl (hw _ (List.mem_of_getElem? (i := 46) rfl))) Via.refl rfl (z2.ext O2.2) (hb hby d4_5) (fun T3 X3 e3 => ?_)
  refine own_putF X3 hx hZ hown N1 (host := "") (Or.inl (hw _ (List.mem_of_getElem? (i := 47) rfl))) Via.refl e3 r1_2 r1_0 (Or.inl (hw _ (List.mem_of_getElem? (i := 48) rfl))) (hw _ (List.mem_of_getElem? (i := 26) rfl)) (ty := (.array (.object "java/lang/Object"))) (by decide) rfl rfl f4 (hb hby d4_8) (fun T4 h4 lc4 X4 e4 N4 W4 => ?_)
  have E5_a1 := r1_0.wr W4
  have F5_modCount_a1 := r1_1.other W4 (Or.inr (slot_ne (Or.inl (hw _ (List.mem_of_getElem? (i := 45) rfl))) (Or.inl (hw _ (List.mem_of_getElem? (i := 48) rfl))) (by decide) (t := .int) (t' := (.array (.object "java/lang/Object"))) (by decide) (by decide)))
  have F5_elementData_a1 := r1_2.same W4
  have F5_size_a1 := r1_3.other W4 (Or.inr (slot_ne (Or.inl (hw _ (List.mem_of_getElem? (i := 57) rfl))) (Or.inl (hw _ (List.mem_of_getElem? (i := 48) rfl))) (by decide) (t := .int) (t' := (.array (.object "java/lang/Object"))) (by decide) (by decide)))
  have O5 := O2.wr W4 f4
  have KC5 := KC2.wr W4 (Or.inl (List.mem_of_getElem? (i := 0) rfl))
  show Goes _ _ _ _ _ _ (T4.setTop (mkF m 11 #[.val (.ref a1)] []))
  exact own_retV X4 hx N4 hlk (by decide) (by decide) hret (hb hby d4_11) (by rw [e4]; exact ⟨rfl, KC5, E5_a1, F5_modCount_a1, F5_elementData_a1, F5_size_a1⟩)
theorem d1_0 : decode prog_61_method_2_code 0 = .ok (.aload_n 0, 1) := by decide +kernel
theorem d1_1 : decode prog_61_method_2_code 1 = .ok (.invokespecial 1, 3) := by decide +kernel
theorem d1_4 : decode prog_61_method_2_code 4 = .ok (.aload_n 0, 1) := by decide +kernel
theorem d1_5 : decode prog_61_method_2_code 5 = .ok (.aload_n 1, 1) := by decide +kernel
theorem d1_6 : decode prog_61_method_2_code 6 = .ok (.putfield 7, 3) := by decide +kernel
theorem d1_9 : decode prog_61_method_2_code 9 = .ok (.aload_n 0, 1) := by decide +kernel
theorem d1_10 : decode prog_61_method_2_code 10 = .ok (.aload_n 2, 1) := by decide +kernel
theorem d1_11 : decode prog_61_method_2_code 11 = .ok (.putfield 13, 3) := by decide +kernel
theorem d1_14 : decode prog_61_method_2_code 14 = .ok (.aload_n 0, 1) := by decide +kernel
theorem d1_15 : decode prog_61_method_2_code 15 = .ok (.aload_n 3, 1) := by decide +kernel
theorem d1_16 : decode prog_61_method_2_code 16 = .ok (.putfield 16, 3) := by decide +kernel
theorem d1_19 : decode prog_61_method_2_code 19 = .ok (.aload_n 0, 1) := by decide +kernel
theorem d1_20 : decode prog_61_method_2_code 20 = .ok (.aload 4, 2) := by decide +kernel
theorem d1_22 : decode prog_61_method_2_code 22 = .ok (.putfield 20, 3) := by decide +kernel
theorem d1_25 : decode prog_61_method_2_code 25 = .ok (.return_, 1) := by decide +kernel
theorem pn_6 : plainName "com/example/gantry/gantry/resolver/LocalCopy" = true := by first | (simp [plainName, overriddenIn]; done) | decide +kernel
def Q1 (Z : State) (a1 : Addr) (u0 : Value) (u1 : Value) (u2 : Value) (u3 : Value) (h0 : Heap) (n0 : Nat) (v : Option Value) (h : Heap) : Prop :=
  (v = none ∧ Keep h0 h [a1] ∧ Exa Z h a1 "com/example/gantry/gantry/resolver/LocalCopy")
theorem ef_1 (m : MethodId) (a1 : Addr) : entryFrame m #[(.ref a1), .null, .null, .null, .null] 5 = mkF m 0 #[.val (.ref a1), .val .null, .val .null, .val .null, .val .null] [] := by first | (simp [entryFrame, mkF, argsToLocals, Value.category]; done) | rfl
set_option maxRecDepth 65536 in
set_option maxHeartbeats 40000000 in
theorem rm1 (l : Launch) (Z : State) (a0 : Array Value) (hw : ∀ d ∈ tables_1, d.before a0 Z = true) (ws : List Jvm.Cond) (a1 : Addr) (u0 : Value) (u1 : Value) (u2 : Value) (u3 : Value) (h0 : Heap) (n0 : Nat) (O0 : Old Z n0 h0) (f0 : Exa Z h0 a1 "com/example/gantry/gantry/resolver/LocalCopy") (f1 : Fld Z h0 a1 "com/example/gantry/gantry/resolver/LocalCopy" "location" "Ljava/net/URI;" u0) (f2 : Fld Z h0 a1 "com/example/gantry/gantry/resolver/LocalCopy" "retrievedFrom" "Ljava/net/URI;" u1) (f3 : Fld Z h0 a1 "com/example/gantry/gantry/resolver/LocalCopy" "file" "Ljava/nio/file/Path;" u2) (f4 : Fld Z h0 a1 "com/example/gantry/gantry/resolver/LocalCopy" "checkedSha256" "Ljava/util/Optional;" u3) (f5 : n0 ≤ a1) :
    Meets l (⟨"com/example/gantry/gantry/resolver/LocalCopy", "<init>", "(Ljava/net/URI;Ljava/net/URI;Ljava/nio/file/Path;Ljava/util/Optional;)V"⟩ : MethodName) prog_61_method_2_code 5 none ws ({ frames := 2, cells := 0, slots := 0, locals := 24 } : Room) ({ frames := 2, cells := 0, slots := 0, locals := 24 } : Room).cells ({ frames := 2, cells := 0, slots := 0, locals := 24 } : Room).slots Z #[(.ref a1), .null, .null, .null, .null] h0 n0 (Q1 Z a1 u0 u1 u2 u3 h0 n0) := by
  refine Meets.of (F := fun m => mkF m 0 #[.val (.ref a1), .val .null, .val .null, .val .null, .val .null] []) (plainFor_of_name pn_6) (fun m => ef_1 m a1) ?_
  intro p e s m below meth c T0 hx hby hml hown0 hnm hret hlk hZ X0 e0
  have hown : s.vm.findClass "com/example/gantry/gantry/resolver/LocalCopy" = some m.cls := hown0
  have N0 := Fr.nil n0
  have KC0 := Keep.refl h0 [a1]
  show Goes _ _ _ _ _ _ (T0.setTop (mkF m 0 #[.val (.ref a1), .val .null, .val .null, .val .null, .val .null] []))
  refine own_aloadN X0 hx (hb hby d1_0) rfl rfl ?_
  refine own_special X0 hx hZ hown (y := (⟨"java/lang/Record", "<init>", "()V"⟩ : MethodName)) rfl (hw _ (List.mem_of_getElem? (i := 8) rfl)) (hw _ (List.mem_of_getElem? (i := 9) rfl)) (hw _ (List.mem_of_getElem? (i := 11) rfl)) (hw _ (List.mem_of_getElem? (i := 12) rfl)) (a := a1) (by decide) (W := 0) (by decide) (by decide) N0 e0 (by rw [hml]; rfl) (argsL := []) (rest := []) (lenOf pd_0 rfl) (Nat.le_of_eq rfl) (by decide) (by decide) (rm2 l Z a0 hw [] a1 h0 n0 O0) rfl (hb hby d1_1) ?_
  intro v1 T1 lc1 X1 N1 hQ1
  obtain ⟨rfl, e1⟩ := hQ1
  refine own_aloadN X1 hx (hb hby d1_4) rfl rfl ?_
  refine own_aloadN X1 hx (hb hby d1_5) rfl rfl ?_
  refine own_putF X1 hx hZ hown N1 (host := "") (Or.inl (hw _ (List.mem_of_getElem? (i := 16) rfl))) Via.refl e1 f1 f0 (Or.inr ⟨(hw _ (List.mem_of_getElem? (i := 17) rfl)), rfl, hnm⟩) (hw _ (List.mem_of_getElem? (i := 3) rfl)) (ty := (.object "java/net/URI")) (by decide) rfl rfl f5 (hb hby d1_6) (fun T2 h2 lc2 X2 e2 N2 W2 => ?_)
  have E3_a1 := f0.wr W2
  have F3_retrievedFrom_a1 := f2.other W2 (Or.inr (slot_ne (Or.inr (hw _ (List.mem_of_getElem? (i := 19) rfl))) (Or.inr (hw _ (List.mem_of_getElem? (i := 17) rfl))) (by decide) (t := (.object "java/net/URI")) (t' := (.object "java/net/URI")) (by decide) (by decide)))
  have F3_file_a1 := f3.other W2 (Or.inr (slot_ne (Or.inr (hw _ (List.mem_of_getElem? (i := 21) rfl))) (Or.inr (hw _ (List.mem_of_getElem? (i := 17) rfl))) (by decide) (t := (.object "java/nio/file/Path")) (t' := (.object "java/net/URI")) (by decide) (by decide)))
  have F3_checkedSha256_a1 := f4.other W2 (Or.inr (slot_ne (Or.inr (hw _ (List.mem_of_getElem? (i := 23) rfl))) (Or.inr (hw _ (List.mem_of_getElem? (i := 17) rfl))) (by decide) (t := (.object "java/util/Optional")) (t' := (.object "java/net/URI")) (by decide) (by decide)))
  have O3 := O0.wr W2 f5
  have KC3 := KC0.wr W2 (Or.inl (List.mem_of_getElem? (i := 0) rfl))
  refine own_aloadN X2 hx (hb hby d1_9) rfl rfl ?_
  refine own_aloadN X2 hx (hb hby d1_10) rfl rfl ?_
  refine own_putF X2 hx hZ hown N2 (host := "") (Or.inl (hw _ (List.mem_of_getElem? (i := 18) rfl))) Via.refl e2 F3_retrievedFrom_a1 E3_a1 (Or.inr ⟨(hw _ (List.mem_of_getElem? (i := 19) rfl)), rfl, hnm⟩) (hw _ (List.mem_of_getElem? (i := 3) rfl)) (ty := (.object "java/net/URI")) (by decide) rfl rfl f5 (hb hby d1_11) (fun T4 h4 lc4 X4 e4 N4 W4 => ?_)
  have E5_a1 := E3_a1.wr W4
  have F5_file_a1 := F3_file_a1.other W4 (Or.inr (slot_ne (Or.inr (hw _ (List.mem_of_getElem? (i := 21) rfl))) (Or.inr (hw _ (List.mem_of_getElem? (i := 19) rfl))) (by decide) (t := (.object "java/nio/file/Path")) (t' := (.object "java/net/URI")) (by decide) (by decide)))
  have F5_checkedSha256_a1 := F3_checkedSha256_a1.other W4 (Or.inr (slot_ne (Or.inr (hw _ (List.mem_of_getElem? (i := 23) rfl))) (Or.inr (hw _ (List.mem_of_getElem? (i := 19) rfl))) (by decide) (t := (.object "java/util/Optional")) (t' := (.object "java/net/URI")) (by decide) (by decide)))
  have O5 := O3.wr W4 f5
  have KC5 := KC3.wr W4 (Or.inl (List.mem_of_getElem? (i := 0) rfl))
  refine own_aloadN X4 hx (hb hby d1_14) rfl rfl ?_
  refine own_aloadN X4 hx (hb hby d1_15) rfl rfl ?_
  refine own_putF X4 hx hZ hown N4 (host := "") (Or.inl (hw _ (List.mem_of_getElem? (i := 20) rfl))) Via.refl e4 F5_file_a1 E5_a1 (Or.inr ⟨(hw _ (List.mem_of_getElem? (i := 21) rfl)), rfl, hnm⟩) (hw _ (List.mem_of_getElem? (i := 3) rfl)) (ty := (.object "java/nio/file/Path")) (by decide) rfl rfl f5 (hb hby d1_16) (fun T6 h6 lc6 X6 e6 N6 W6 => ?_)
  have E7_a1 := E5_a1.wr W6
  have F7_checkedSha256_a1 := F5_checkedSha256_a1.other W6 (Or.inr (slot_ne (Or.inr (hw _ (List.mem_of_getElem? (i := 23) rfl))) (Or.inr (hw _ (List.mem_of_getElem? (i := 21) rfl))) (by decide) (t := (.object "java/util/Optional")) (t' := (.object "java/nio/file/Path")) (by decide) (by decide)))
  have O7 := O5.wr W6 f5
  have KC7 := KC5.wr W6 (Or.inl (List.mem_of_getElem? (i := 0) rfl))
  refine own_aloadN X6 hx (hb hby d1_19) rfl rfl ?_
  refine own_aload X6 hx (hb hby d1_20) rfl rfl ?_
  refine own_putF X6 hx hZ hown N6 (host := "") (Or.inl (hw _ (List.mem_of_getElem? (i := 22) rfl))) Via.refl e6 F7_checkedSha256_a1 E7_a1 (Or.inr ⟨(hw _ (List.mem_of_getElem? (i := 23) rfl)), rfl, hnm⟩) (hw _ (List.mem_of_getElem? (i := 3) rfl)) (ty := (.object "java/util/Optional")) (by decide) rfl rfl f5 (hb hby d1_22) (fun T8 h8 lc8 X8 e8 N8 W8 => ?_)
  have E9_a1 := E7_a1.wr W8
  have O9 := O7.wr W8 f5
  have KC9 := KC7.wr W8 (Or.inl (List.mem_of_getElem? (i := 0) rfl))
  show Goes _ _ _ _ _ _ (T8.setTop (mkF m 25 #[.val (.ref a1), .val .null, .val .null, .val .null, .val .null] []))
  exact own_retV X8 hx N8 hlk (by decide) (by decide) hret (hb hby d1_25) (by rw [e8]; exact ⟨rfl, KC9, E9_a1⟩)
theorem d12_0 : decode prog_67_method_1_code 0 = .ok (.aload_n 0, 1) := by decide +kernel
theorem d12_1 : decode prog_67_method_1_code 1 = .ok (.invokespecial 1, 3) := by decide +kernel
theorem d12_4 : decode prog_67_method_1_code 4 = .ok (.aload_n 0, 1) := by decide +kernel
theorem d12_5 : decode prog_67_method_1_code 5 = .ok (.aload_n 1, 1) := by decide +kernel
theorem d12_6 : decode prog_67_method_1_code 6 = .ok (.putfield 7, 3) := by decide +kernel
theorem d12_9 : decode prog_67_method_1_code 9 = .ok (.aload_n 0, 1) := by decide +kernel
theorem d12_10 : decode prog_67_method_1_code 10 = .ok (.aload_n 2, 1) := by decide +kernel
theorem d12_11 : decode prog_67_method_1_code 11 = .ok (.putfield 13, 3) := by decide +kernel
theorem d12_14 : decode prog_67_method_1_code 14 = .ok (.return_, 1) := by decide +kernel
theorem pn_7 : plainName "com/example/gantry/gantry/resolver/Resolution$Jar" = true := by first | (simp [plainName, overriddenIn]; done) | decide +kernel
def Q12 (Z : State) (a1 : Addr) (a3 : Addr) (u1 : Value) (u2 : Value) (h0 : Heap) (n0 : Nat) (v : Option Value) (h : Heap) : Prop :=
  (v = none ∧ Keep h0 h [a1] ∧ Exa Z h a1 "com/example/gantry/gantry/resolver/Resolution$Jar")
theorem ef_12 (m : MethodId) (a1 : Addr) (a3 : Addr) : entryFrame m #[(.ref a1), .null, (.ref a3)] 3 = mkF m 0 #[.val (.ref a1), .val .null, .val (.ref a3)] [] := by first | (simp [entryFrame, mkF, argsToLocals, Value.category]; done) | rfl
set_option maxRecDepth 65536 in
set_option maxHeartbeats 40000000 in
theorem rm12 (l : Launch) (Z : State) (a0 : Array Value) (hw : ∀ d ∈ tables_1, d.before a0 Z = true) (ws : List Jvm.Cond) (a1 : Addr) (a3 : Addr) (u1 : Value) (u2 : Value) (h0 : Heap) (n0 : Nat) (O0 : Old Z n0 h0) (f0 : Exa Z h0 a1 "com/example/gantry/gantry/resolver/Resolution$Jar") (f1 : Fld Z h0 a1 "com/example/gantry/gantry/resolver/Resolution$Jar" "location" "Ljava/net/URI;" u1) (f2 : Fld Z h0 a1 "com/example/gantry/gantry/resolver/Resolution$Jar" "namedBy" "Lcom/example/gantry/gantry/resolver/LocalCopy;" u2) (f3 : n0 ≤ a1) :
    Meets l (⟨"com/example/gantry/gantry/resolver/Resolution$Jar", "<init>", "(Ljava/net/URI;Lcom/example/gantry/gantry/resolver/LocalCopy;)V"⟩ : MethodName) prog_67_method_1_code 3 none ws ({ frames := 2, cells := 0, slots := 0, locals := 24 } : Room) ({ frames := 2, cells := 0, slots := 0, locals := 24 } : Room).cells ({ frames := 2, cells := 0, slots := 0, locals := 24 } : Room).slots Z #[(.ref a1), .null, (.ref a3)] h0 n0 (Q12 Z a1 a3 u1 u2 h0 n0) := by
  refine Meets.of (F := fun m => mkF m 0 #[.val (.ref a1), .val .null, .val (.ref a3)] []) (plainFor_of_name pn_7) (fun m => ef_12 m a1 a3) ?_
  intro p e s m below meth c T0 hx hby hml hown0 hnm hret hlk hZ X0 e0
  have hown : s.vm.findClass "com/example/gantry/gantry/resolver/Resolution$Jar" = some m.cls := hown0
  have N0 := Fr.nil n0
  have KC0 := Keep.refl h0 [a1]
  show Goes _ _ _ _ _ _ (T0.setTop (mkF m 0 #[.val (.ref a1), .val .null, .val (.ref a3)] []))
  refine own_aloadN X0 hx (hb hby d12_0) rfl rfl ?_
  refine own_special X0 hx hZ hown (y := (⟨"java/lang/Record", "<init>", "()V"⟩ : MethodName)) rfl (hw _ (List.mem_of_getElem? (i := 86) rfl)) (hw _ (List.mem_of_getElem? (i := 9) rfl)) (hw _ (List.mem_of_getElem? (i := 11) rfl)) (hw _ (List.mem_of_getElem? (i := 12) rfl)) (a := a1) (by decide) (W := 0) (by decide) (by decide) N0 e0 (by rw [hml]; rfl) (argsL := []) (rest := []) (lenOf pd_0 rfl) (Nat.le_of_eq rfl) (by decide) (by decide) (rm2 l Z a0 hw [] a1 h0 n0 O0) rfl (hb hby d12_1) ?_
  intro v1 T1 lc1 X1 N1 hQ1
  obtain ⟨rfl, e1⟩ := hQ1
  refine own_aloadN X1 hx (hb hby d12_4) rfl rfl ?_
  refine own_aloadN X1 hx (hb hby d12_5) rfl rfl ?_
  refine own_putF X1 hx hZ hown N1 (host := "") (Or.inl (hw _ (List.mem_of_getElem? (i := 87) rfl))) Via.refl e1 f1 f0 (Or.inr ⟨(hw _ (List.mem_of_getElem? (i := 88) rfl)), rfl, hnm⟩) (hw _ (List.mem_of_getElem? (i := 81) rfl)) (ty := (.object "java/net/URI")) (by decide) rfl rfl f3 (hb hby d12_6) (fun T2 h2 lc2 X2 e2 N2 W2 => ?_)
  have E3_a1 := f0.wr W2
  have F3_namedBy_a1 := f2.other W2 (Or.inr (slot_ne (Or.inr (hw _ (List.mem_of_getElem? (i := 90) rfl))) (Or.inr (hw _ (List.mem_of_getElem? (i := 88) rfl))) (by decide) (t := (.object "com/example/gantry/gantry/resolver/LocalCopy")) (t' := (.object "java/net/URI")) (by decide) (by decide)))
  have O3 := O0.wr W2 f3
  have KC3 := KC0.wr W2 (Or.inl (List.mem_of_getElem? (i := 0) rfl))
  refine own_aloadN X2 hx (hb hby d12_9) rfl rfl ?_
  refine own_aloadN X2 hx (hb hby d12_10) rfl rfl ?_
  refine own_putF X2 hx hZ hown N2 (host := "") (Or.inl (hw _ (List.mem_of_getElem? (i := 89) rfl))) Via.refl e2 F3_namedBy_a1 E3_a1 (Or.inr ⟨(hw _ (List.mem_of_getElem? (i := 90) rfl)), rfl, hnm⟩) (hw _ (List.mem_of_getElem? (i := 81) rfl)) (ty := (.object "com/example/gantry/gantry/resolver/LocalCopy")) (by decide) rfl rfl f3 (hb hby d12_11) (fun T4 h4 lc4 X4 e4 N4 W4 => ?_)
  have E5_a1 := E3_a1.wr W4
  have O5 := O3.wr W4 f3
  have KC5 := KC3.wr W4 (Or.inl (List.mem_of_getElem? (i := 0) rfl))
  show Goes _ _ _ _ _ _ (T4.setTop (mkF m 14 #[.val (.ref a1), .val .null, .val (.ref a3)] []))
  exact own_retV X4 hx N4 hlk (by decide) (by decide) hret (hb hby d12_14) (by rw [e4]; exact ⟨rfl, KC5, E5_a1⟩)
theorem d11_0 : decode jdk_29_method_65_code 0 = .ok (.iload_n 0, 1) := by decide +kernel
theorem d11_1 : decode jdk_29_method_65_code 1 = .ok (.iload_n 1, 1) := by decide +kernel
theorem d11_2 : decode jdk_29_method_65_code 2 = .ok (.if_icmp .lt 7, 3) := by decide +kernel
theorem d11_9 : decode jdk_29_method_65_code 9 = .ok (.iload_n 1, 1) := by decide +kernel
theorem d11_10 : decode jdk_29_method_65_code 10 = .ok (.ireturn, 1) := by decide +kernel
theorem d11_5 : decode jdk_29_method_65_code 5 = .ok (.iload_n 0, 1) := by decide +kernel
theorem d11_6 : decode jdk_29_method_65_code 6 = .ok (.goto 4, 3) := by decide +kernel
def Q11 (Z : State) (p1 : Int32) (p2 : Int32) (h0 : Heap) (n0 : Nat) (v : Option Value) (h : Heap) : Prop :=
  (v = some (.int p2) ∧ p1 < p2 ∧ h = h0) ∨
  (v = some (.int p1) ∧ ¬ (p1 < p2) ∧ h = h0)
theorem ef_11 (m : MethodId) (p1 : Int32) (p2 : Int32) : entryFrame m #[(.int p1), (.int p2)] 2 = mkF m 0 #[.val (.int p1), .val (.int p2)] [] := by first | (simp [entryFrame, mkF, argsToLocals, Value.category]; done) | rfl
set_option maxRecDepth 65536 in
set_option maxHeartbeats 40000000 in
theorem rm11 (l : Launch) (Z : State) (a0 : Array Value) (hw : ∀ d ∈ tables_1, d.before a0 Z = true) (ws : List Jvm.Cond) (p1 : Int32) (p2 : Int32) (h0 : Heap) (n0 : Nat) (O0 : Old Z n0 h0) :
    Meets l (⟨"java/lang/Math", "max", "(II)I"⟩ : MethodName) jdk_29_method_65_code 2 (some .int) ws ({ frames := 0, cells := 0, slots := 0, locals := 0 } : Room) ({ frames := 0, cells := 0, slots := 0, locals := 0 } : Room).cells ({ frames := 0, cells := 0, slots := 0, locals := 0 } : Room).slots Z #[(.int p1), (.int p2)] h0 n0 (Q11 Z p1 p2 h0 n0) := by
  refine Meets.of (F := fun m => mkF m 0 #[.val (.int p1), .val (.int p2)] []) (Jvm.Free.JP.mathPlain rfl (by decide +kernel)) (fun m => ef_11 m p1 p2) ?_
  intro p e s m below meth c T0 hx hby hml hown0 hnm hret hlk hZ X0 e0
  have hown : s.vm.findClass "java/lang/Math" = some m.cls := hown0
  have N0 := Fr.nil n0
  show Goes _ _ _ _ _ _ (T0.setTop (mkF m 0 #[.val (.int p1), .val (.int p2)] []))
  refine own_iloadN X0 hx (hb hby d11_0) rfl ?_
  refine own_iloadN X0 hx (hb hby d11_1) rfl ?_
  by_cases hc2_1 : p1 < p2
  ·
    refine own_icmpYes X0 hx (pc' := 9) (hb hby d11_2) (tlt (hc2_1 : p1 < p2)).1 (by decide) (by decide) ?_
    refine own_iloadN X0 hx (hb hby d11_9) rfl ?_
    show Goes _ _ _ _ _ _ (T0.setTop (mkF m 10 #[.val (.int p1), .val (.int p2)] [(.int p2)]))
    exact own_retI X0 hx N0 hlk (by decide) (by decide) hret (hb hby d11_10) (by rw [e0]; exact Or.inl ⟨rfl, hc2_1, rfl⟩)
  ·
    refine own_icmpNo X0 hx (hb hby d11_2) (flt (hc2_1 : ¬ (p1 < p2))).1 ?_
    refine own_iloadN X0 hx (hb hby d11_5) rfl ?_
    refine own_goto X0 hx (pc' := 10) (hb hby d11_6) (by decide) (by decide) ?_
    show Goes _ _ _ _ _ _ (T0.setTop (mkF m 10 #[.val (.int p1), .val (.int p2)] [(.int p1)]))
    exact own_retI X0 hx N0 hlk (by decide) (by decide) hret (hb hby d11_10) (by rw [e0]; exact Or.inr (⟨rfl, hc2_1, rfl⟩))
theorem d20_0 : decode jdk_29_method_69_code 0 = .ok (.iload_n 0, 1) := by decide +kernel
theorem d20_1 : decode jdk_29_method_69_code 1 = .ok (.iload_n 1, 1) := by decide +kernel
theorem d20_2 : decode jdk_29_method_69_code 2 = .ok (.if_icmp .gt 7, 3) := by decide +kernel
theorem d20_9 : decode jdk_29_method_69_code 9 = .ok (.iload_n 1, 1) := by decide +kernel
theorem d20_10 : decode jdk_29_method_69_code 10 = .ok (.ireturn, 1) := by decide +kernel
theorem d20_5 : decode jdk_29_method_69_code 5 = .ok (.iload_n 0, 1) := by decide +kernel
theorem d20_6 : decode jdk_29_method_69_code 6 = .ok (.goto 4, 3) := by decide +kernel
def Q20 (Z : State) (p1 : Int32) (p2 : Int32) (h0 : Heap) (n0 : Nat) (v : Option Value) (h : Heap) : Prop :=
  (v = some (.int p2) ∧ p2 < p1 ∧ h = h0) ∨
  (v = some (.int p1) ∧ ¬ (p2 < p1) ∧ h = h0)
theorem ef_20 (m : MethodId) (p1 : Int32) (p2 : Int32) : entryFrame m #[(.int p1), (.int p2)] 2 = mkF m 0 #[.val (.int p1), .val (.int p2)] [] := by first | (simp [entryFrame, mkF, argsToLocals, Value.category]; done) | rfl
set_option maxRecDepth 65536 in
set_option maxHeartbeats 40000000 in
theorem rm20 (l : Launch) (Z : State) (a0 : Array Value) (hw : ∀ d ∈ tables_1, d.before a0 Z = true) (ws : List Jvm.Cond) (p1 : Int32) (p2 : Int32) (h0 : Heap) (n0 : Nat) (O0 : Old Z n0 h0) :
    Meets l (⟨"java/lang/Math", "min", "(II)I"⟩ : MethodName) jdk_29_method_69_code 2 (some .int) ws ({ frames := 0, cells := 0, slots := 0, locals := 0 } : Room) ({ frames := 0, cells := 0, slots := 0, locals := 0 } : Room).cells ({ frames := 0, cells := 0, slots := 0, locals := 0 } : Room).slots Z #[(.int p1), (.int p2)] h0 n0 (Q20 Z p1 p2 h0 n0) := by
  refine Meets.of (F := fun m => mkF m 0 #[.val (.int p1), .val (.int p2)] []) (Jvm.Free.JP.mathPlain rfl (by decide +kernel)) (fun m => ef_20 m p1 p2) ?_
  intro p e s m below meth c T0 hx hby hml hown0 hnm hret hlk hZ X0 e0
  have hown : s.vm.findClass "java/lang/Math" = some m.cls := hown0
  have N0 := Fr.nil n0
  show Goes _ _ _ _ _ _ (T0.setTop (mkF m 0 #[.val (.int p1), .val (.int p2)] []))
  refine own_iloadN X0 hx (hb hby d20_0) rfl ?_
  refine own_iloadN X0 hx (hb hby d20_1) rfl ?_
  by_cases hc2_1 : p2 < p1
  ·
    refine own_icmpYes X0 hx (pc' := 9) (hb hby d20_2) (tlt (hc2_1 : p2 < p1)).2.2.1 (by decide) (by decide) ?_
    refine own_iloadN X0 hx (hb hby d20_9) rfl ?_
    show Goes _ _ _ _ _ _ (T0.setTop (mkF m 10 #[.val (.int p1), .val (.int p2)] [(.int p2)]))
    exact own_retI X0 hx N0 hlk (by decide) (by decide) hret (hb hby d20_10) (by rw [e0]; exact Or.inl ⟨rfl, hc2_1, rfl⟩)
  ·
    refine own_icmpNo X0 hx (hb hby d20_2) (flt (hc2_1 : ¬ (p2 < p1))).2.2.1 ?_
    refine own_iloadN X0 hx (hb hby d20_5) rfl ?_
    refine own_goto X0 hx (pc' := 10) (hb hby d20_6) (by decide) (by decide) ?_
    show Goes _ _ _ _ _ _ (T0.setTop (mkF m 10 #[.val (.int p1), .val (.int p2)] [(.int p1)]))
    exact own_retI X0 hx N0 hlk (by decide) (by decide) hret (hb hby d20_10) (by rw [e0]; exact Or.inr (⟨rfl, hc2_1, rfl⟩))
theorem d10_0 : decode jdk_38_method_6_code 0 = .ok (.aload_n 0, 1) := by decide +kernel
theorem d10_1 : decode jdk_38_method_6_code 1 = .ok (.getfield 9, 3) := by decide +kernel
theorem d10_4 : decode jdk_38_method_6_code 4 = .ok (.arraylength, 1) := by decide +kernel
theorem d10_5 : decode jdk_38_method_6_code 5 = .ok (.istore_n 2, 1) := by decide +kernel
theorem d10_6 : decode jdk_38_method_6_code 6 = .ok (.iload_n 2, 1) := by decide +kernel
theorem d10_7 : decode jdk_38_method_6_code 7 = .ok (.ifCond .gt 13, 3) := by decide +kernel
theorem d10_10 : decode jdk_38_method_6_code 10 = .ok (.aload_n 0, 1) := by decide +kernel
theorem d10_11 : decode jdk_38_method_6_code 11 = .ok (.getfield 9, 3) := by decide +kernel
theorem d10_14 : decode jdk_38_method_6_code 14 = .ok (.getstatic 39, 3) := by decide +kernel
theorem d10_17 : decode jdk_38_method_6_code 17 = .ok (.if_acmp .eq 28, 3) := by decide +kernel
theorem d10_45 : decode jdk_38_method_6_code 45 = .ok (.aload_n 0, 1) := by decide +kernel
theorem d10_46 : decode jdk_38_method_6_code 46 = .ok (.bipush 10, 2) := by decide +kernel
theorem d10_48 : decode jdk_38_method_6_code 48 = .ok (.iload_n 1, 1) := by decide +kernel
theorem d10_49 : decode jdk_38_method_6_code 49 = .ok (.invokestatic 79, 3) := by decide +kernel
theorem pd_1 : parseMethodDescriptor "(II)I" = some ⟨[.int, .int], some .int⟩ := by decide +kernel
theorem d10_52 : decode jdk_38_method_6_code 52 = .ok (.anewarray 7, 3) := by decide +kernel
theorem d10_55 : decode jdk_38_method_6_code 55 = .ok (.dup_x1, 1) := by decide +kernel
theorem d10_56 : decode jdk_38_method_6_code 56 = .ok (.putfield 9, 3) := by decide +kernel
theorem d10_59 : decode jdk_38_method_6_code 59 = .ok (.areturn, 1) := by decide +kernel
def Q10 (Z : State) (a1 : Addr) (mc : Int32) (w_EMPTY_ELEMENTDATA : Addr) (w_DEFAULTCAPACITY_EMPTY_ELEMENTDATA : Addr) (w_EMPTY : Addr) (w_EMPTY_LIST : Addr) (k_w_EMPTY_ELEMENTDATA : ClassId) (k_w_DEFAULTCAPACITY_EMPTY_ELEMENTDATA : ClassId) (w_mir : Addr) (w_els : Addr) (k_els : ClassId) (h0 : Heap) (n0 : Nat) (v : Option Value) (h : Heap) : Prop :=
  (∃ (b : Addr) (k : ClassId), v = some (.ref b) ∧ Keep h0 h [a1] ∧ Exa Z h a1 "java/util/ArrayList" ∧ Fld Z h a1 "java/util/AbstractList" "modCount" "I" (.int mc) ∧ Fld Z h a1 "java/util/ArrayList" "elementData" "[Ljava/lang/Object;" (.ref b) ∧ Fld Z h a1 "java/util/ArrayList" "size" "I" (.int (0 : Int32)) ∧ Arv Z h b k (.object "java/lang/Object") (10 : Int32) [.null, .null, .null, .null, .null, .null, .null, .null, .null, .null] .null ∧ Exa Z h b "[Ljava/lang/Object;" ∧ h0.size ≤ b ∧ Ovr Z k "java/lang/Object")
theorem ef_10 (m : MethodId) (a1 : Addr) : entryFrame m #[(.ref a1), (.int ((0 : Int32) + (1 : Int32)))] 4 = mkF m 0 #[.val (.ref a1), .val (.int ((0 : Int32) + (1 : Int32))), .unset, .unset] [] := by first | (simp [entryFrame, mkF, argsToLocals, Value.category]; done) | rfl
set_option maxRecDepth 65536 in
set_option maxHeartbeats 40000000 in
theorem rm10 (l : Launch) (Z : State) (a0 : Array Value) (hw : ∀ d ∈ tables_1, d.before a0 Z = true) (ws : List Jvm.Cond) (a1 : Addr) (mc : Int32) (w_EMPTY_ELEMENTDATA : Addr) (w_DEFAULTCAPACITY_EMPTY_ELEMENTDATA : Addr) (w_EMPTY : Addr) (w_EMPTY_LIST : Addr) (k_w_EMPTY_ELEMENTDATA : ClassId) (k_w_DEFAULTCAPACITY_EMPTY_ELEMENTDATA : ClassId) (w_mir : Addr) (w_els : Addr) (k_els : ClassId) (h0 : Heap) (n0 : Nat) (O0 : Old Z n0 h0) (SF : Start Z w_EMPTY_ELEMENTDATA w_DEFAULTCAPACITY_EMPTY_ELEMENTDATA w_EMPTY w_EMPTY_LIST k_w_EMPTY_ELEMENTDATA k_w_DEFAULTCAPACITY_EMPTY_ELEMENTDATA w_mir w_els k_els) (f0 : Exa Z h0 a1 "java/util/ArrayList") (f1 : Fld Z h0 a1 "java/util/AbstractList" "modCount" "I" (.int mc)) (f2 : Fld Z h0 a1 "java/util/ArrayList" "elementData" "[Ljava/lang/Object;" (.ref w_DEFAULTCAPACITY_EMPTY_ELEMENTDATA)) (f3 : Fld Z h0 a1 "java/util/ArrayList" "size" "I" (.int (0 : Int32))) (f4 : n0 ≤ a1) :
    Meets l (⟨"java/util/ArrayList", "grow", "(I)[Ljava/lang/Object;"⟩ : MethodName) jdk_38_method_6_code 4 (some (.array (.object "java/lang/Object"))) ws ({ frames := 1, cells := 1, slots := 10, locals := 14 } : Room) ({ frames := 1, cells := 1, slots := 10, locals := 14 } : Room).cells ({ frames := 1, cells := 1, slots := 10, locals := 14 } : Room).slots Z #[(.ref a1), (.int ((0 : Int32) + (1 : Int32)))] h0 n0 (Q10 Z a1 mc w_EMPTY_ELEMENTDATA w_DEFAULTCAPACITY_EMPTY_ELEMENTDATA w_EMPTY w_EMPTY_LIST k_w_EMPTY_ELEMENTDATA k_w_DEFAULTCAPACITY_EMPTY_ELEMENTDATA w_mir w_els k_els h0 n0) := by
  refine Meets.of (F := fun m => mkF m 0 #[.val (.ref a1), .val (.int ((0 : Int32) + (1 : Int32))), .unset, .unset] []) (plainFor_of_name pn_5) (fun m => ef_10 m a1) ?_
  intro p e s m below meth c T0 hx hby hml hown0 hnm hret hlk hZ X0 e0
  have hown : s.vm.findClass "java/util/ArrayList" = some m.cls := hown0
  have N0 := Fr.nil n0
  have KC0 := Keep.refl h0 [a1]
  obtain ⟨z0, z1, z2, z3, z4, z5, z6, z7, z8, z9, z10, z11, zm, z13, z14, -⟩ := SF
  show Goes _ _ _ _ _ _ (T0.setTop (mkF m 0 #[.val (.ref a1), .val (.int ((0 : Int32) + (1 : Int32))), .unset, .unset] []))
  refine own_aloadN X0 hx (hb hby d10_0) rfl rfl ?_
  refine own_getF X0 hx hZ hown (host := "") (Or.inl (hw _ (List.mem_of_getElem? (i := 47) rfl))) Via.refl e0 f2 (hb hby d10_1) (fun T1 X1 e1 => ?_)
  refine own_alen X1 hx hZ e1 (z9.ext O0.2) (hb hby d10_4) ?_
  refine own_istoreN X1 hx (Ls' := #[.val (.ref a1), .val (.int ((0 : Int32) + (1 : Int32))), .val (.int (0 : Int32)), .unset]) (hb hby d10_5) rfl ?_
  refine own_iloadN X1 hx (hb hby d10_6) rfl ?_
  show Goes _ _ _ _ _ _ (T1.setTop (mkF m 7 #[.val (.ref a1), .val (.int ((0 : Int32) + (1 : Int32))), .val (.int (0 : Int32)), .unset] [(.int (0 : Int32))]))
  refine own_ifNo X1 hx (hb hby d10_7) ((if0 _ _).trans (flt (by decide : ¬ ((0 : Int32) < (0 : Int32)))).2.2.1) ?_
  refine own_aloadN X1 hx (hb hby d10_10) rfl rfl ?_
  refine own_getF X1 hx hZ hown (host := "") (Or.inl (hw _ (List.mem_of_getElem? (i := 47) rfl))) Via.refl e1 f2 (hb hby d10_11) (fun T2 X2 e2 => ?_)
  refine own_getS X2 hx hZ hown (host := "") (Or.inl (hw _ (List.mem_of_getElem? (i := 46) rfl))) Via.refl e2 (z2.ext O0.2) (hb hby d10_14) (fun T3 X3 e3 => ?_)
  refine own_acmp X3 hx rfl rfl (same := true) (pc' := 45) (hb hby d10_17) (decide_eq_true rfl) (by decide) (by decide) ?_
  refine own_aloadN X3 hx (hb hby d10_45) rfl rfl ?_
  refine own_bipush X3 hx (v := (10 : Int32)) (hb hby d10_46) rfl ?_
  refine own_iloadN X3 hx (hb hby d10_48) rfl ?_
  show Goes _ _ _ _ _ _ (T3.setTop (mkF m 49 #[.val (.ref a1), .val (.int ((0 : Int32) + (1 : Int32))), .val (.int (0 : Int32)), .unset] [(.int ((0 : Int32) + (1 : Int32))), (.int (10 : Int32)), (.ref a1)]))
  refine own_callS X3 hx hZ hown (y := (⟨"java/lang/Math", "max", "(II)I"⟩ : MethodName)) (hw _ (List.mem_of_getElem? (i := 73) rfl)) (hw _ (List.mem_of_getElem? (i := 74) rfl)) (hw _ (List.mem_of_getElem? (i := 75) rfl)) (hw _ (List.mem_of_getElem? (i := 76) rfl)) (by decide) (W := 1) (by decide) (by decide) N0 e3 (by rw [hml]; rfl) (argsL := [(.int (10 : Int32)), (.int ((0 : Int32) + (1 : Int32)))]) (rest := [(.ref a1)]) (lenOf pd_1 rfl) (Nat.le_of_eq rfl) (by decide) (by decide) (rm11 l Z a0 hw [] (10 : Int32) ((0 : Int32) + (1 : Int32)) h0 n0 O0) rfl (hb hby d10_49) ?_
  intro v4 T4 lc4 X4 N4 hQ4
  rcases hQ4 with hQ4_0 | hQ4_1
  ·
    obtain ⟨rfl, hq4_0_0, e4⟩ := hQ4_0
    exact absurd hq4_0_0 (by decide)
  ·
    obtain ⟨rfl, hq4_1_0, e4⟩ := hQ4_1
    refine own_newRE X4 hx hZ hown (ad := "[Ljava/lang/Object;") (by decide +kernel) (hw _ (List.mem_of_getElem? (i := 77) rfl)) (hw _ (List.mem_of_getElem? (i := 78) rfl)) e4 (hb hby d10_52) (by decide) (cap := 10) (by decide) (by decide) (by decide) (by decide) (fun T5 h5 b5 k5 g5 X5 e5 E5 A5 O5_ B5 => ?_)
    have ne_a1_b5 : a1 ≠ b5 := Nat.ne_of_lt (Nat.lt_of_lt_of_le f0.lt (Nat.le_of_eq g5.symm))
    have ge_b5 : n0 ≤ b5 := Nat.le_trans (own_sz O0) (Nat.le_of_eq g5.symm)
    have sz_b5 : h0.size ≤ b5 := Nat.le_trans KC0.1 (Nat.le_of_eq g5.symm)
    have E6_a1 := f0.ext E5
    have F6_modCount_a1 := f1.ext E5
    have F6_elementData_a1 := f2.ext E5
    have F6_size_a1 := f3.ext E5
    have O6 := O0.ext E5
    have KC6 := KC0.ext E5
    have V5 : Arv Z h5 b5 k5 (.object "java/lang/Object") (10 : Int32) [.null, .null, .null, .null, .null, .null, .null, .null, .null, .null] .null := A5.pad (pad_rep [] .null 10)
    refine own_dup_x1 X5 hx (hb hby d10_55) rfl rfl ?_
    refine own_putF X5 hx hZ hown N4 (host := "") (Or.inl (hw _ (List.mem_of_getElem? (i := 47) rfl))) Via.refl e5 F6_elementData_a1 E6_a1 (Or.inl (hw _ (List.mem_of_getElem? (i := 48) rfl))) (hw _ (List.mem_of_getElem? (i := 26) rfl)) (ty := (.array (.object "java/lang/Object"))) (by decide) rfl rfl f4 (hb hby d10_56) (fun T7 h7 lc7 X7 e7 N7 W7 => ?_)
    have E8_a1 := E6_a1.wr W7
    have E8_b5 := B5.wr W7
    have F8_modCount_a1 := F6_modCount_a1.other W7 (Or.inr (slot_ne (Or.inl (hw _ (List.mem_of_getElem? (i := 45) rfl))) (Or.inl (hw _ (List.mem_of_getElem? (i := 48) rfl))) (by decide) (t := .int) (t' := (.array (.object "java/lang/Object"))) (by decide) (by decide)))
    have F8_elementData_a1 := F6_elementData_a1.same W7
    have F8_size_a1 := F6_size_a1.other W7 (Or.inr (slot_ne (Or.inl (hw _ (List.mem_of_getElem? (i := 57) rfl))) (Or.inl (hw _ (List.mem_of_getElem? (i := 48) rfl))) (by decide) (t := .int) (t' := (.array (.object "java/lang/Object"))) (by decide) (by decide)))
    have A8_b5 := V5.other W7 (Ne.symm ne_a1_b5)
    have O8 := O6.wr W7 f4
    have KC8 := KC6.wr W7 (Or.inl (List.mem_of_getElem? (i := 0) rfl))
    show Goes _ _ _ _ _ _ (T7.setTop (mkF m 59 #[.val (.ref a1), .val (.int ((0 : Int32) + (1 : Int32))), .val (.int (0 : Int32)), .unset] [(.ref b5)]))
    exact own_retR X7 hx N7 hlk (by decide) (by decide) hret rfl rfl rfl (hb hby d10_59) (by rw [e7]; exact ⟨b5, k5, rfl, KC8, E8_a1, F8_modCount_a1, F8_elementData_a1, F8_size_a1, A8_b5, E8_b5, sz_b5, O5_⟩)
theorem d9_0 : decode jdk_38_method_7_code 0 = .ok (.aload_n 0, 1) := by decide +kernel
theorem d9_1 : decode jdk_38_method_7_code 1 = .ok (.aload_n 0, 1) := by decide +kernel
theorem d9_2 : decode jdk_38_method_7_code 2 = .ok (.getfield 48, 3) := by decide +kernel
theorem d9_5 : decode jdk_38_method_7_code 5 = .ok (.iconst 1, 1) := by decide +kernel
theorem d9_6 : decode jdk_38_method_7_code 6 = .ok (.iadd, 1) := by decide +kernel
theorem d9_7 : decode jdk_38_method_7_code 7 = .ok (.invokevirtual 69, 3) := by decide +kernel
theorem pd_2 : parseMethodDescriptor "(I)[Ljava/lang/Object;" = some ⟨[.int], some (.array (.object "java/lang/Object"))⟩ := by decide +kernel
theorem d9_10 : decode jdk_38_method_7_code 10 = .ok (.areturn, 1) := by decide +kernel
def Q9 (Z : State) (a1 : Addr) (mc : Int32) (w_EMPTY_ELEMENTDATA : Addr) (w_DEFAULTCAPACITY_EMPTY_ELEMENTDATA : Addr) (w_EMPTY : Addr) (w_EMPTY_LIST : Addr) (k_w_EMPTY_ELEMENTDATA : ClassId) (k_w_DEFAULTCAPACITY_EMPTY_ELEMENTDATA : ClassId) (w_mir : Addr) (w_els : Addr) (k_els : ClassId) (h0 : Heap) (n0 : Nat) (v : Option Value) (h : Heap) : Prop :=
  (∃ (b : Addr) (k : ClassId), v = some (.ref b) ∧ Keep h0 h [a1] ∧ Exa Z h a1 "java/util/ArrayList" ∧ Fld Z h a1 "java/util/AbstractList" "modCount" "I" (.int mc) ∧ Fld Z h a1 "java/util/ArrayList" "elementData" "[Ljava/lang/Object;" (.ref b) ∧ Fld Z h a1 "java/util/ArrayList" "size" "I" (.int (0 : Int32)) ∧ Arv Z h b k (.object "java/lang/Object") (10 : Int32) [.null, .null, .null, .null, .null, .null, .null, .null, .null, .null] .null ∧ Exa Z h b "[Ljava/lang/Object;" ∧ h0.size ≤ b ∧ Ovr Z k "java/lang/Object")
theorem ef_9 (m : MethodId) (a1 : Addr) : entryFrame m #[(.ref a1)] 1 = mkF m 0 #[.val (.ref a1)] [] := by first | (simp [entryFrame, mkF, argsToLocals, Value.category]; done) | rfl
set_option maxRecDepth 65536 in
set_option maxHeartbeats 40000000 in
theorem rm9 (l : Launch) (Z : State) (a0 : Array Value) (hw : ∀ d ∈ tables_1, d.before a0 Z = true) (ws : List Jvm.Cond) (a1 : Addr) (mc : Int32) (w_EMPTY_ELEMENTDATA : Addr) (w_DEFAULTCAPACITY_EMPTY_ELEMENTDATA : Addr) (w_EMPTY : Addr) (w_EMPTY_LIST : Addr) (k_w_EMPTY_ELEMENTDATA : ClassId) (k_w_DEFAULTCAPACITY_EMPTY_ELEMENTDATA : ClassId) (w_mir : Addr) (w_els : Addr) (k_els : ClassId) (h0 : Heap) (n0 : Nat) (O0 : Old Z n0 h0) (SF : Start Z w_EMPTY_ELEMENTDATA w_DEFAULTCAPACITY_EMPTY_ELEMENTDATA w_EMPTY w_EMPTY_LIST k_w_EMPTY_ELEMENTDATA k_w_DEFAULTCAPACITY_EMPTY_ELEMENTDATA w_mir w_els k_els) (f0 : Exa Z h0 a1 "java/util/ArrayList") (f1 : Fld Z h0 a1 "java/util/AbstractList" "modCount" "I" (.int mc)) (f2 : Fld Z h0 a1 "java/util/ArrayList" "elementData" "[Ljava/lang/Object;" (.ref w_DEFAULTCAPACITY_EMPTY_ELEMENTDATA)) (f3 : Fld Z h0 a1 "java/util/ArrayList" "size" "I" (.int (0 : Int32))) (f4 : n0 ≤ a1) :
    Meets l (⟨"java/util/ArrayList", "grow", "()[Ljava/lang/Object;"⟩ : MethodName) jdk_38_method_7_code 1 (some (.array (.object "java/lang/Object"))) ws ({ frames := 2, cells := 1, slots := 10, locals := 29 } : Room) ({ frames := 2, cells := 1, slots := 10, locals := 29 } : Room).cells ({ frames := 2, cells := 1, slots := 10, locals := 29 } : Room).slots Z #[(.ref a1)] h0 n0 (Q9 Z a1 mc w_EMPTY_ELEMENTDATA w_DEFAULTCAPACITY_EMPTY_ELEMENTDATA w_EMPTY w_EMPTY_LIST k_w_EMPTY_ELEMENTDATA k_w_DEFAULTCAPACITY_EMPTY_ELEMENTDATA w_mir w_els k_els h0 n0) := by
  refine Meets.of (F := fun m => mkF m 0 #[.val (.ref a1)] []) (plainFor_of_name pn_5) (fun m => ef_9 m a1) ?_
  intro p e s m below meth c T0 hx hby hml hown0 hnm hret hlk hZ X0 e0
  have hown : s.vm.findClass "java/util/ArrayList" = some m.cls := hown0
  have N0 := Fr.nil n0
  have KC0 := Keep.refl h0 [a1]
  obtain ⟨z0, z1, z2, z3, z4, z5, z6, z7, z8, z9, z10, z11, zm, z13, z14, -⟩ := SF
  show Goes _ _ _ _ _ _ (T0.setTop (mkF m 0 #[.val (.ref a1)] []))
  refine own_aloadN X0 hx (hb hby d9_0) rfl rfl ?_
  refine own_aloadN X0 hx (hb hby d9_1) rfl rfl ?_
  refine own_getF X0 hx hZ hown (host := "") (Or.inl (hw _ (List.mem_of_getElem? (i := 56) rfl))) Via.refl e0 f3 (hb hby d9_2) (fun T1 X1 e1 => ?_)
  refine own_iconst X1 hx (v := (1 : Int32)) (hb hby d9_5) rfl ?_
  refine own_iadd X1 hx (hb hby d9_6) ?_
  refine own_private X1 hx hZ hown (y := (⟨"java/util/ArrayList", "grow", "(I)[Ljava/lang/Object;"⟩ : MethodName)) (hw _ (List.mem_of_getElem? (i := 68) rfl)) (hw _ (List.mem_of_getElem? (i := 69) rfl)) (hw _ (List.mem_of_getElem? (i := 26) rfl)) (hw _ (List.mem_of_getElem? (i := 70) rfl)) (hw _ (List.mem_of_getElem? (i := 27) rfl)) (hw _ (List.mem_of_getElem? (i := 72) rfl)) (a := a1) f0 (by decide) (W := 0) (by decide) (by decide) N0 e1 (by rw [hml]; rfl) (argsL := [(.int ((0 : Int32) + (1 : Int32)))]) (rest := []) (lenOf pd_2 rfl) (Nat.le_of_eq rfl) (by decide) (by decide) (rm10 l Z a0 hw [] a1 mc w_EMPTY_ELEMENTDATA w_DEFAULTCAPACITY_EMPTY_ELEMENTDATA w_EMPTY w_EMPTY_LIST k_w_EMPTY_ELEMENTDATA k_w_DEFAULTCAPACITY_EMPTY_ELEMENTDATA w_mir w_els k_els h0 n0 O0 ⟨z0, z1, z2, z3, z4, z5, z6, z7, z8, z9, z10, z11, zm, z13, z14, trivial⟩ f0 f1 f2 f3 f4) rfl (hb hby d9_7) ?_
  intro v2 T2 lc2 X2 N2 hQ2
  obtain ⟨b_2, k_2, rfl, K2, r2_0, r2_1, r2_2, r2_3, r2_4, r2_5, r2_6, r2_7⟩ := hQ2
  have O3 := O0.keep K2 (allS f4 all0)
  have KC3 := KC0.trans K2 (allS (Or.inl (List.mem_of_getElem? (i := 0) rfl)) all0)
  have ge_b_2 : n0 ≤ b_2 := Nat.le_trans (own_sz O0) r2_6
  have sz_b_2 : h0.size ≤ b_2 := Nat.le_trans KC0.1 r2_6
  show Goes _ _ _ _ _ _ (T2.setTop (mkF m 10 #[.val (.ref a1)] [(.ref b_2)]))
  exact own_retR X2 hx N2 hlk (by decide) (by decide) hret rfl rfl rfl (hb hby d9_10) (⟨b_2, k_2, rfl, KC3, r2_0, r2_1, r2_2, r2_3, r2_4, r2_5, sz_b_2, r2_7⟩)
theorem d8_0 : decode jdk_38_method_24_code 0 = .ok (.iload_n 3, 1) := by decide +kernel
theorem d8_1 : decode jdk_38_method_24_code 1 = .ok (.aload_n 2, 1) := by decide +kernel
theorem d8_2 : decode jdk_38_method_24_code 2 = .ok (.arraylength, 1) := by decide +kernel
theorem d8_3 : decode jdk_38_method_24_code 3 = .ok (.if_icmp .ne 8, 3) := by decide +kernel
theorem d8_6 : decode jdk_38_method_24_code 6 = .ok (.aload_n 0, 1) := by decide +kernel
theorem d8_7 : decode jdk_38_method_24_code 7 = .ok (.invokevirtual 129, 3) := by decide +kernel
theorem pd_3 : parseMethodDescriptor "()[Ljava/lang/Object;" = some ⟨[], some (.array (.object "java/lang/Object"))⟩ := by decide +kernel
theorem d8_10 : decode jdk_38_method_24_code 10 = .ok (.astore_n 2, 1) := by decide +kernel
theorem d8_11 : decode jdk_38_method_24_code 11 = .ok (.aload_n 2, 1) := by decide +kernel
theorem d8_12 : decode jdk_38_method_24_code 12 = .ok (.iload_n 3, 1) := by decide +kernel
theorem d8_13 : decode jdk_38_method_24_code 13 = .ok (.aload_n 1, 1) := by decide +kernel
theorem d8_14 : decode jdk_38_method_24_code 14 = .ok (.aastore, 1) := by decide +kernel
theorem d8_15 : decode jdk_38_method_24_code 15 = .ok (.aload_n 0, 1) := by decide +kernel
theorem d8_16 : decode jdk_38_method_24_code 16 = .ok (.iload_n 3, 1) := by decide +kernel
theorem d8_17 : decode jdk_38_method_24_code 17 = .ok (.iconst 1, 1) := by decide +kernel
theorem d8_18 : decode jdk_38_method_24_code 18 = .ok (.iadd, 1) := by decide +kernel
theorem d8_19 : decode jdk_38_method_24_code 19 = .ok (.putfield 48, 3) := by decide +kernel
theorem d8_22 : decode jdk_38_method_24_code 22 = .ok (.return_, 1) := by decide +kernel
def Q8gL (Z : State) (a1 : Addr) (a2 : Addr) (mc : Int32) (w_EMPTY_ELEMENTDATA : Addr) (w_DEFAULTCAPACITY_EMPTY_ELEMENTDATA : Addr) (w_EMPTY : Addr) (w_EMPTY_LIST : Addr) (k_w_EMPTY_ELEMENTDATA : ClassId) (k_w_DEFAULTCAPACITY_EMPTY_ELEMENTDATA : ClassId) (w_mir : Addr) (w_els : Addr) (k_els : ClassId) (h0 : Heap) (n0 : Nat) (v : Option Value) (h : Heap) : Prop :=
  (∃ (b : Addr) (k : ClassId), v = none ∧ Keep h0 h [a1] ∧ Exa Z h a1 "java/util/ArrayList" ∧ Fld Z h a1 "java/util/AbstractList" "modCount" "I" (.int mc) ∧ Fld Z h a1 "java/util/ArrayList" "elementData" "[Ljava/lang/Object;" (.ref b) ∧ Fld Z h a1 "java/util/ArrayList" "size" "I" (.int ((0 : Int32) + (1 : Int32))) ∧ Arv Z h b k (.object "java/lang/Object") (10 : Int32) [(.ref a2), .null, .null, .null, .null, .null, .null, .null, .null, .null] .null ∧ Exa Z h b "[Ljava/lang/Object;" ∧ h0.size ≤ b ∧ Ovr Z k "java/lang/Object")
theorem ef_8gL (m : MethodId) (a1 : Addr) (a2 : Addr) : entryFrame m #[(.ref a1), (.ref a2), (.ref w_DEFAULTCAPACITY_EMPTY_ELEMENTDATA), (.int (0 : Int32))] 4 = mkF m 0 #[.val (.ref a1), .val (.ref a2), .val (.ref w_DEFAULTCAPACITY_EMPTY_ELEMENTDATA), .val (.int (0 : Int32))] [] := by first | (simp [entryFrame, mkF, argsToLocals, Value.category]; done) | rfl
set_option maxRecDepth 65536 in
set_option maxHeartbeats 40000000 in
theorem rm8gL (l : Launch) (Z : State) (a0 : Array Value) (hw : ∀ d ∈ tables_1, d.before a0 Z = true) (ws : List Jvm.Cond) (a1 : Addr) (a2 : Addr) (mc : Int32) (w_EMPTY_ELEMENTDATA : Addr) (w_DEFAULTCAPACITY_EMPTY_ELEMENTDATA : Addr) (w_EMPTY : Addr) (w_EMPTY_LIST : Addr) (k_w_EMPTY_ELEMENTDATA : ClassId) (k_w_DEFAULTCAPACITY_EMPTY_ELEMENTDATA : ClassId) (w_mir : Addr) (w_els : Addr) (k_els : ClassId) (h0 : Heap) (n0 : Nat) (O0 : Old Z n0 h0) (SF : Start Z w_EMPTY_ELEMENTDATA w_DEFAULTCAPACITY_EMPTY_ELEMENTDATA w_EMPTY w_EMPTY_LIST k_w_EMPTY_ELEMENTDATA k_w_DEFAULTCAPACITY_EMPTY_ELEMENTDATA w_mir w_els k_els) (f0 : Exa Z h0 a1 "java/util/ArrayList") (f1 : Fld Z h0 a1 "java/util/AbstractList" "modCount" "I" (.int mc)) (f2 : Fld Z h0 a1 "java/util/ArrayList" "elementData" "[Ljava/lang/Object;" (.ref w_DEFAULTCAPACITY_EMPTY_ELEMENTDATA)) (f3 : Fld Z h0 a1 "java/util/ArrayList" "size" "I" (.int (0 : Int32))) (f4 : n0 ≤ a1) (f5 : Exa Z h0 a2 "com/example/gantry/gantry/resolver/LocalCopy") :
    Meets l (⟨"java/util/ArrayList", "add", "(Ljava/lang/Object;[Ljava/lang/Object;I)V"⟩ : MethodName) jdk_38_method_24_code 4 none ws ({ frames := 3, cells := 1, slots := 10, locals := 41 } : Room) ({ frames := 3, cells := 1, slots := 10, locals := 41 } : Room).cells ({ frames := 3, cells := 1, slots := 10, locals := 41 } : Room).slots Z #[(.ref a1), (.ref a2), (.ref w_DEFAULTCAPACITY_EMPTY_ELEMENTDATA), (.int (0 : Int32))] h0 n0 (Q8gL Z a1 a2 mc w_EMPTY_ELEMENTDATA w_DEFAULTCAPACITY_EMPTY_ELEMENTDATA w_EMPTY w_EMPTY_LIST k_w_EMPTY_ELEMENTDATA k_w_DEFAULTCAPACITY_EMPTY_ELEMENTDATA w_mir w_els k_els h0 n0) := by
  refine Meets.of (F := fun m => mkF m 0 #[.val (.ref a1), .val (.ref a2), .val (.ref w_DEFAULTCAPACITY_EMPTY_ELEMENTDATA), .val (.int (0 : Int32))] []) (plainFor_of_name pn_5) (fun m => ef_8gL m a1 a2) ?_
  intro p e s m below meth c T0 hx hby hml hown0 hnm hret hlk hZ X0 e0
  have hown : s.vm.findClass "java/util/ArrayList" = some m.cls := hown0
  have N0 := Fr.nil n0
  have KC0 := Keep.refl h0 [a1]
  obtain ⟨z0, z1, z2, z3, z4, z5, z6, z7, z8, z9, z10, z11, zm, z13, z14, -⟩ := SF
  show Goes _ _ _ _ _ _ (T0.setTop (mkF m 0 #[.val (.ref a1), .val (.ref a2), .val (.ref w_DEFAULTCAPACITY_EMPTY_ELEMENTDATA), .val (.int (0 : Int32))] []))
  refine own_iloadN X0 hx (hb hby d8_0) rfl ?_
  refine own_aloadN X0 hx (hb hby d8_1) rfl rfl ?_
  refine own_alen X0 hx hZ e0 (z9.ext O0.2) (hb hby d8_2) ?_
  refine own_icmpNo X0 hx (hb hby d8_3) (teq (by decide : (0 : Int32) = (0 : Int32))).2 ?_
  refine own_aloadN X0 hx (hb hby d8_6) rfl rfl ?_
  refine own_private X0 hx hZ hown (y := (⟨"java/util/ArrayList", "grow", "()[Ljava/lang/Object;"⟩ : MethodName)) (hw _ (List.mem_of_getElem? (i := 63) rfl)) (hw _ (List.mem_of_getElem? (i := 64) rfl)) (hw _ (List.mem_of_getElem? (i := 26) rfl)) (hw _ (List.mem_of_getElem? (i := 65) rfl)) (hw _ (List.mem_of_getElem? (i := 27) rfl)) (hw _ (List.mem_of_getElem? (i := 67) rfl)) (a := a1) f0 (by decide) (W := 0) (by decide) (by decide) N0 e0 (by rw [hml]; rfl) (argsL := []) (rest := []) (lenOf pd_3 rfl) (Nat.le_of_eq rfl) (by decide) (by decide) (rm9 l Z a0 hw [] a1 mc w_EMPTY_ELEMENTDATA w_DEFAULTCAPACITY_EMPTY_ELEMENTDATA w_EMPTY w_EMPTY_LIST k_w_EMPTY_ELEMENTDATA k_w_DEFAULTCAPACITY_EMPTY_ELEMENTDATA w_mir w_els k_els h0 n0 O0 ⟨z0, z1, z2, z3, z4, z5, z6, z7, z8, z9, z10, z11, zm, z13, z14, trivial⟩ f0 f1 f2 f3 f4) rfl (hb hby d8_7) ?_
  intro v1 T1 lc1 X1 N1 hQ1
  obtain ⟨b_1, k_1, rfl, K1, r1_0, r1_1, r1_2, r1_3, r1_4, r1_5, r1_6, r1_7⟩ := hQ1
  have E2_a2 := f5.keep K1
  have O2 := O0.keep K1 (allS f4 all0)
  have KC2 := KC0.trans K1 (allS (Or.inl (List.mem_of_getElem? (i := 0) rfl)) all0)
  have ne_a1_b_1 : a1 ≠ b_1 := Nat.ne_of_lt (Nat.lt_of_lt_of_le f0.lt r1_6)
  have ge_b_1 : n0 ≤ b_1 := Nat.le_trans (own_sz O0) r1_6
  have sz_b_1 : h0.size ≤ b_1 := Nat.le_trans KC0.1 r1_6
  refine own_astoreN X1 hx (Ls' := #[.val (.ref a1), .val (.ref a2), .val (.ref b_1), .val (.int (0 : Int32))]) (hb hby d8_10) rfl rfl ?_
  refine own_aloadN X1 hx (hb hby d8_11) rfl rfl ?_
  refine own_iloadN X1 hx (hb hby d8_12) rfl ?_
  show Goes _ _ _ _ _ _ (T1.setTop (mkF m 13 #[.val (.ref a1), .val (.ref a2), .val (.ref b_1), .val (.int (0 : Int32))] [(.int (0 : Int32)), (.ref b_1)]))
  refine own_aloadN X1 hx (hb hby d8_13) rfl rfl ?_
  refine own_aastore X1 hx hZ N1 rfl r1_4 rfl rfl ⟨by decide, by decide⟩ (i := 0) rfl (by first | decide | (simp; done)) ge_b_1 (fun _ Ar q => Sto.ofV Ar q r1_7 (Ins.of_exa E2_a2 (hw _ (List.mem_of_getElem? (i := 79) rfl)))) (hb hby d8_14) (fun T3 h3 lc3 X3 e3 N3 W3 V3 => ?_)
  have E4_a1 := r1_0.wr W3
  have E4_b_1 := r1_5.wr W3
  have F4_modCount_a1 := r1_1.other W3 (Or.inl ne_a1_b_1)
  have F4_elementData_a1 := r1_2.other W3 (Or.inl ne_a1_b_1)
  have F4_size_a1 := r1_3.other W3 (Or.inl ne_a1_b_1)
  have O4 := O2.wr W3 ge_b_1
  have KC4 := KC2.wr W3 (Or.inr sz_b_1)
  have V3' : Arv Z h3 b_1 k_1 (.object "java/lang/Object") (10 : Int32) [(.ref a2), .null, .null, .null, .null, .null, .null, .null, .null, .null] .null := V3
  refine own_aloadN X3 hx (hb hby d8_15) rfl rfl ?_
  refine own_iloadN X3 hx (hb hby d8_16) rfl ?_
  refine own_iconst X3 hx (v := (1 : Int32)) (hb hby d8_17) rfl ?_
  show Goes _ _ _ _ _ _ (T3.setTop (mkF m 18 #[.val (.ref a1), .val (.ref a2), .val (.ref b_1), .val (.int (0 : Int32))] [(.int (1 : Int32)), (.int (0 : Int32)), (.ref a1)]))
  refine own_iadd X3 hx (hb hby d8_18) ?_
  refine own_putF X3 hx hZ hown N3 (host := "") (Or.inl (hw _ (List.mem_of_getElem? (i := 56) rfl))) Via.refl e3 F4_size_a1 E4_a1 (Or.inl (hw _ (List.mem_of_getElem? (i := 57) rfl))) (hw _ (List.mem_of_getElem? (i := 26) rfl)) (ty := .int) (by decide) rfl rfl f4 (hb hby d8_19) (fun T5 h5 lc5 X5 e5 N5 W5 => ?_)
  have E6_a1 := E4_a1.wr W5
  have E6_b_1 := E4_b_1.wr W5
  have F6_modCount_a1 := F4_modCount_a1.other W5 (Or.inr (slot_ne (Or.inl (hw _ (List.mem_of_getElem? (i := 45) rfl))) (Or.inl (hw _ (List.mem_of_getElem? (i := 57) rfl))) (by decide) (t := .int) (t' := .int) (by decide) (by decide)))
  have F6_elementData_a1 := F4_elementData_a1.other W5 (Or.inr (slot_ne (Or.inl (hw _ (List.mem_of_getElem? (i := 48) rfl))) (Or.inl (hw _ (List.mem_of_getElem? (i := 57) rfl))) (by decide) (t := (.array (.object "java/lang/Object"))) (t' := .int) (by decide) (by decide)))
  have F6_size_a1 := F4_size_a1.same W5
  have A6_b_1 := V3'.other W5 (Ne.symm ne_a1_b_1)
  have O6 := O4.wr W5 f4
  have KC6 := KC4.wr W5 (Or.inl (List.mem_of_getElem? (i := 0) rfl))
  show Goes _ _ _ _ _ _ (T5.setTop (mkF m 22 #[.val (.ref a1), .val (.ref a2), .val (.ref b_1), .val (.int (0 : Int32))] []))
  exact own_retV X5 hx N5 hlk (by decide) (by decide) hret (hb hby d8_22) (by rw [e5]; exact ⟨b_1, k_1, rfl, KC6, E6_a1, F6_modCount_a1, F6_elementData_a1, F6_size_a1, A6_b_1, E6_b_1, sz_b_1, r1_7⟩)
theorem d7_0 : decode jdk_38_method_25_code 0 = .ok (.aload_n 0, 1) := by decide +kernel
theorem d7_1 : decode jdk_38_method_25_code 1 = .ok (.dup, 1) := by decide +kernel
theorem d7_2 : decode jdk_38_method_25_code 2 = .ok (.getfield 63, 3) := by decide +kernel
theorem d7_5 : decode jdk_38_method_25_code 5 = .ok (.iconst 1, 1) := by decide +kernel
theorem d7_6 : decode jdk_38_method_25_code 6 = .ok (.iadd, 1) := by decide +kernel
theorem d7_7 : decode jdk_38_method_25_code 7 = .ok (.putfield 63, 3) := by decide +kernel
theorem d7_10 : decode jdk_38_method_25_code 10 = .ok (.aload_n 0, 1) := by decide +kernel
theorem d7_11 : decode jdk_38_method_25_code 11 = .ok (.aload_n 1, 1) := by decide +kernel
theorem d7_12 : decode jdk_38_method_25_code 12 = .ok (.aload_n 0, 1) := by decide +kernel
theorem d7_13 : decode jdk_38_method_25_code 13 = .ok (.getfield 9, 3) := by decide +kernel
theorem d7_16 : decode jdk_38_method_25_code 16 = .ok (.aload_n 0, 1) := by decide +kernel
theorem d7_17 : decode jdk_38_method_25_code 17 = .ok (.getfield 48, 3) := by decide +kernel
theorem d7_20 : decode jdk_38_method_25_code 20 = .ok (.invokevirtual 131, 3) := by decide +kernel
theorem pd_4 : parseMethodDescriptor "(Ljava/lang/Object;[Ljava/lang/Object;I)V" = some ⟨[(.object "java/lang/Object"), (.array (.object "java/lang/Object")), .int], none⟩ := by decide +kernel
theorem d7_23 : decode jdk_38_method_25_code 23 = .ok (.iconst 1, 1) := by decide +kernel
theorem d7_24 : decode jdk_38_method_25_code 24 = .ok (.ireturn, 1) := by decide +kernel
def Q7gL (Z : State) (a1 : Addr) (a2 : Addr) (mc : Int32) (w_EMPTY_ELEMENTDATA : Addr) (w_DEFAULTCAPACITY_EMPTY_ELEMENTDATA : Addr) (w_EMPTY : Addr) (w_EMPTY_LIST : Addr) (k_w_EMPTY_ELEMENTDATA : ClassId) (k_w_DEFAULTCAPACITY_EMPTY_ELEMENTDATA : ClassId) (w_mir : Addr) (w_els : Addr) (k_els : ClassId) (h0 : Heap) (n0 : Nat) (v : Option Value) (h : Heap) : Prop :=
  (∃ (b : Addr) (k : ClassId), v = some (.int (1 : Int32)) ∧ Keep h0 h [a1] ∧ Exa Z h a1 "java/util/ArrayList" ∧ Fld Z h a1 "java/util/AbstractList" "modCount" "I" (.int (mc + (1 : Int32))) ∧ Fld Z h a1 "java/util/ArrayList" "elementData" "[Ljava/lang/Object;" (.ref b) ∧ Fld Z h a1 "java/util/ArrayList" "size" "I" (.int ((0 : Int32) + (1 : Int32))) ∧ Arv Z h b k (.object "java/lang/Object") (10 : Int32) [(.ref a2), .null, .null, .null, .null, .null, .null, .null, .null, .null] .null ∧ Exa Z h b "[Ljava/lang/Object;" ∧ h0.size ≤ b ∧ Ovr Z k "java/lang/Object")
theorem ef_7gL (m : MethodId) (a1 : Addr) (a2 : Addr) : entryFrame m #[(.ref a1), (.ref a2)] 2 = mkF m 0 #[.val (.ref a1), .val (.ref a2)] [] := by first | (simp [entryFrame, mkF, argsToLocals, Value.category]; done) | rfl
set_option maxRecDepth 65536 in
set_option maxHeartbeats 40000000 in
theorem rm7gL (l : Launch) (Z : State) (a0 : Array Value) (hw : ∀ d ∈ tables_1, d.before a0 Z = true) (ws : List Jvm.Cond) (a1 : Addr) (a2 : Addr) (mc : Int32) (w_EMPTY_ELEMENTDATA : Addr) (w_DEFAULTCAPACITY_EMPTY_ELEMENTDATA : Addr) (w_EMPTY : Addr) (w_EMPTY_LIST : Addr) (k_w_EMPTY_ELEMENTDATA : ClassId) (k_w_DEFAULTCAPACITY_EMPTY_ELEMENTDATA : ClassId) (w_mir : Addr) (w_els : Addr) (k_els : ClassId) (h0 : Heap) (n0 : Nat) (O0 : Old Z n0 h0) (SF : Start Z w_EMPTY_ELEMENTDATA w_DEFAULTCAPACITY_EMPTY_ELEMENTDATA w_EMPTY w_EMPTY_LIST k_w_EMPTY_ELEMENTDATA k_w_DEFAULTCAPACITY_EMPTY_ELEMENTDATA w_mir w_els k_els) (f0 : Exa Z h0 a1 "java/util/ArrayList") (f1 : Fld Z h0 a1 "java/util/AbstractList" "modCount" "I" (.int mc)) (f2 : Fld Z h0 a1 "java/util/ArrayList" "elementData" "[Ljava/lang/Object;" (.ref w_DEFAULTCAPACITY_EMPTY_ELEMENTDATA)) (f3 : Fld Z h0 a1 "java/util/ArrayList" "size" "I" (.int (0 : Int32))) (f4 : n0 ≤ a1) (f5 : Exa Z h0 a2 "com/example/gantry/gantry/resolver/LocalCopy") :
    Meets l (⟨"java/util/ArrayList", "add", "(Ljava/lang/Object;)Z"⟩ : MethodName) jdk_38_method_25_code 2 (some .boolean) ws ({ frames := 4, cells := 1, slots := 10, locals := 56 } : Room) ({ frames := 4, cells := 1, slots := 10, locals := 56 } : Room).cells ({ frames := 4, cells := 1, slots := 10, locals := 56 } : Room).slots Z #[(.ref a1), (.ref a2)] h0 n0 (Q7gL Z a1 a2 mc w_EMPTY_ELEMENTDATA w_DEFAULTCAPACITY_EMPTY_ELEMENTDATA w_EMPTY w_EMPTY_LIST k_w_EMPTY_ELEMENTDATA k_w_DEFAULTCAPACITY_EMPTY_ELEMENTDATA w_mir w_els k_els h0 n0) := by
  refine Meets.of (F := fun m => mkF m 0 #[.val (.ref a1), .val (.ref a2)] []) (plainFor_of_name pn_5) (fun m => ef_7gL m a1 a2) ?_
  intro p e s m below meth c T0 hx hby hml hown0 hnm hret hlk hZ X0 e0
  have hown : s.vm.findClass "java/util/ArrayList" = some m.cls := hown0
  have N0 := Fr.nil n0
  have KC0 := Keep.refl h0 [a1]
  obtain ⟨z0, z1, z2, z3, z4, z5, z6, z7, z8, z9, z10, z11, zm, z13, z14, -⟩ := SF
  show Goes _ _ _ _ _ _ (T0.setTop (mkF m 0 #[.val (.ref a1), .val (.ref a2)] []))
  refine own_aloadN X0 hx (hb hby d7_0) rfl rfl ?_
  refine own_dup X0 hx (hb hby d7_1) rfl ?_
  refine own_getF X0 hx hZ hown (host := "") (Or.inl (hw _ (List.mem_of_getElem? (i := 54) rfl))) (Via.of (hw _ (List.mem_of_getElem? (i := 55) rfl))) e0 f1 (hb hby d7_2) (fun T1 X1 e1 => ?_)
  refine own_iconst X1 hx (v := (1 : Int32)) (hb hby d7_5) rfl ?_
  refine own_iadd X1 hx (hb hby d7_6) ?_
  refine own_putF X1 hx hZ hown N0 (host := "") (Or.inl (hw _ (List.mem_of_getElem? (i := 54) rfl))) (Via.of (hw _ (List.mem_of_getElem? (i := 55) rfl))) e1 f1 f0 (Or.inl (hw _ (List.mem_of_getElem? (i := 45) rfl))) (hw _ (List.mem_of_getElem? (i := 26) rfl)) (ty := .int) (by decide) rfl rfl f4 (hb hby d7_7) (fun T2 h2 lc2 X2 e2 N2 W2 => ?_)
  have E3_a1 := f0.wr W2
  have E3_a2 := f5.wr W2
  have F3_modCount_a1 := f1.same W2
  have F3_elementData_a1 := f2.other W2 (Or.inr (slot_ne (Or.inl (hw _ (List.mem_of_getElem? (i := 48) rfl))) (Or.inl (hw _ (List.mem_of_getElem? (i := 45) rfl))) (by decide) (t := (.array (.object "java/lang/Object"))) (t' := .int) (by decide) (by decide)))
  have F3_size_a1 := f3.other W2 (Or.inr (slot_ne (Or.inl (hw _ (List.mem_of_getElem? (i := 57) rfl))) (Or.inl (hw _ (List.mem_of_getElem? (i := 45) rfl))) (by decide) (t := .int) (t' := .int) (by decide) (by decide)))
  have O3 := O0.wr W2 f4
  have KC3 := KC0.wr W2 (Or.inl (List.mem_of_getElem? (i := 0) rfl))
  refine own_aloadN X2 hx (hb hby d7_10) rfl rfl ?_
  refine own_aloadN X2 hx (hb hby d7_11) rfl rfl ?_
  refine own_aloadN X2 hx (hb hby d7_12) rfl rfl ?_
  show Goes _ _ _ _ _ _ (T2.setTop (mkF m 13 #[.val (.ref a1), .val (.ref a2)] [(.ref a1), (.ref a2), (.ref a1)]))
  refine own_getF X2 hx hZ hown (host := "") (Or.inl (hw _ (List.mem_of_getElem? (i := 47) rfl))) Via.refl e2 F3_elementData_a1 (hb hby d7_13) (fun T4 X4 e4 => ?_)
  refine own_aloadN X4 hx (hb hby d7_16) rfl rfl ?_
  refine own_getF X4 hx hZ hown (host := "") (Or.inl (hw _ (List.mem_of_getElem? (i := 56) rfl))) Via.refl e4 F3_size_a1 (hb hby d7_17) (fun T5 X5 e5 => ?_)
  refine own_private X5 hx hZ hown (y := (⟨"java/util/ArrayList", "add", "(Ljava/lang/Object;[Ljava/lang/Object;I)V"⟩ : MethodName)) (hw _ (List.mem_of_getElem? (i := 58) rfl)) (hw _ (List.mem_of_getElem? (i := 59) rfl)) (hw _ (List.mem_of_getElem? (i := 26) rfl)) (hw _ (List.mem_of_getElem? (i := 60) rfl)) (hw _ (List.mem_of_getElem? (i := 27) rfl)) (hw _ (List.mem_of_getElem? (i := 62) rfl)) (a := a1) E3_a1 (by decide) (W := 0) (by decide) (by decide) N2 e5 (by rw [hml]; rfl) (argsL := [(.ref a2), (.ref w_DEFAULTCAPACITY_EMPTY_ELEMENTDATA), (.int (0 : Int32))]) (rest := []) (lenOf pd_4 rfl) (Nat.le_of_eq rfl) (by decide) (by decide) (rm8gL l Z a0 hw [] a1 a2 (mc + (1 : Int32)) w_EMPTY_ELEMENTDATA w_DEFAULTCAPACITY_EMPTY_ELEMENTDATA w_EMPTY w_EMPTY_LIST k_w_EMPTY_ELEMENTDATA k_w_DEFAULTCAPACITY_EMPTY_ELEMENTDATA w_mir w_els k_els h2 n0 O3 ⟨z0, z1, z2, z3, z4, z5, z6, z7, z8, z9, z10, z11, zm, z13, z14, trivial⟩ E3_a1 F3_modCount_a1 F3_elementData_a1 F3_size_a1 f4 E3_a2) rfl (hb hby d7_20) ?_
  intro v6 T6 lc6 X6 N6 hQ6
  obtain ⟨b_6, k_6, rfl, K6, r6_0, r6_1, r6_2, r6_3, r6_4, r6_5, r6_6, r6_7⟩ := hQ6
  have O7 := O3.keep K6 (allS f4 all0)
  have KC7 := KC3.trans K6 (allS (Or.inl (List.mem_of_getElem? (i := 0) rfl)) all0)
  have ge_b_6 : n0 ≤ b_6 := Nat.le_trans (own_sz O3) r6_6
  have sz_b_6 : h0.size ≤ b_6 := Nat.le_trans KC3.1 r6_6
  refine own_iconst X6 hx (v := (1 : Int32)) (hb hby d7_23) rfl ?_
  show Goes _ _ _ _ _ _ (T6.setTop (mkF m 24 #[.val (.ref a1), .val (.ref a2)] [(.int (1 : Int32))]))
  exact own_retN X6 hx (t := .boolean) N6 hlk (by decide) (by decide) hret (by simp) (hb hby d7_24) (⟨b_6, k_6, rfl, KC7, r6_0, r6_1, r6_2, r6_3, r6_4, r6_5, sz_b_6, r6_7⟩)
def Q8gJ (Z : State) (a1 : Addr) (a2 : Addr) (mc : Int32) (w_EMPTY_ELEMENTDATA : Addr) (w_DEFAULTCAPACITY_EMPTY_ELEMENTDATA : Addr) (w_EMPTY : Addr) (w_EMPTY_LIST : Addr) (k_w_EMPTY_ELEMENTDATA : ClassId) (k_w_DEFAULTCAPACITY_EMPTY_ELEMENTDATA : ClassId) (w_mir : Addr) (w_els : Addr) (k_els : ClassId) (h0 : Heap) (n0 : Nat) (v : Option Value) (h : Heap) : Prop :=
  (∃ (b : Addr) (k : ClassId), v = none ∧ Keep h0 h [a1] ∧ Exa Z h a1 "java/util/ArrayList" ∧ Fld Z h a1 "java/util/AbstractList" "modCount" "I" (.int mc) ∧ Fld Z h a1 "java/util/ArrayList" "elementData" "[Ljava/lang/Object;" (.ref b) ∧ Fld Z h a1 "java/util/ArrayList" "size" "I" (.int ((0 : Int32) + (1 : Int32))) ∧ Arv Z h b k (.object "java/lang/Object") (10 : Int32) [(.ref a2), .null, .null, .null, .null, .null, .null, .null, .null, .null] .null ∧ Exa Z h b "[Ljava/lang/Object;" ∧ h0.size ≤ b ∧ Ovr Z k "java/lang/Object")
theorem ef_8gJ (m : MethodId) (a1 : Addr) (a2 : Addr) : entryFrame m #[(.ref a1), (.ref a2), (.ref w_DEFAULTCAPACITY_EMPTY_ELEMENTDATA), (.int (0 : Int32))] 4 = mkF m 0 #[.val (.ref a1), .val (.ref a2), .val (.ref w_DEFAULTCAPACITY_EMPTY_ELEMENTDATA), .val (.int (0 : Int32))] [] := by first | (simp [entryFrame, mkF, argsToLocals, Value.category]; done) | rfl
set_option maxRecDepth 65536 in
set_option maxHeartbeats 40000000 in
theorem rm8gJ (l : Launch) (Z : State) (a0 : Array Value) (hw : ∀ d ∈ tables_1, d.before a0 Z = true) (ws : List Jvm.Cond) (a1 : Addr) (a2 : Addr) (mc : Int32) (w_EMPTY_ELEMENTDATA : Addr) (w_DEFAULTCAPACITY_EMPTY_ELEMENTDATA : Addr) (w_EMPTY : Addr) (w_EMPTY_LIST : Addr) (k_w_EMPTY_ELEMENTDATA : ClassId) (k_w_DEFAULTCAPACITY_EMPTY_ELEMENTDATA : ClassId) (w_mir : Addr) (w_els : Addr) (k_els : ClassId) (h0 : Heap) (n0 : Nat) (O0 : Old Z n0 h0) (SF : Start Z w_EMPTY_ELEMENTDATA w_DEFAULTCAPACITY_EMPTY_ELEMENTDATA w_EMPTY w_EMPTY_LIST k_w_EMPTY_ELEMENTDATA k_w_DEFAULTCAPACITY_EMPTY_ELEMENTDATA w_mir w_els k_els) (f0 : Exa Z h0 a1 "java/util/ArrayList") (f1 : Fld Z h0 a1 "java/util/AbstractList" "modCount" "I" (.int mc)) (f2 : Fld Z h0 a1 "java/util/ArrayList" "elementData" "[Ljava/lang/Object;" (.ref w_DEFAULTCAPACITY_EMPTY_ELEMENTDATA)) (f3 : Fld Z h0 a1 "java/util/ArrayList" "size" "I" (.int (0 : Int32))) (f4 : n0 ≤ a1) (f5 : Exa Z h0 a2 "com/example/gantry/gantry/resolver/Resolution$Jar") :
    Meets l (⟨"java/util/ArrayList", "add", "(Ljava/lang/Object;[Ljava/lang/Object;I)V"⟩ : MethodName) jdk_38_method_24_code 4 none ws ({ frames := 3, cells := 1, slots := 10, locals := 41 } : Room) ({ frames := 3, cells := 1, slots := 10, locals := 41 } : Room).cells ({ frames := 3, cells := 1, slots := 10, locals := 41 } : Room).slots Z #[(.ref a1), (.ref a2), (.ref w_DEFAULTCAPACITY_EMPTY_ELEMENTDATA), (.int (0 : Int32))] h0 n0 (Q8gJ Z a1 a2 mc w_EMPTY_ELEMENTDATA w_DEFAULTCAPACITY_EMPTY_ELEMENTDATA w_EMPTY w_EMPTY_LIST k_w_EMPTY_ELEMENTDATA k_w_DEFAULTCAPACITY_EMPTY_ELEMENTDATA w_mir w_els k_els h0 n0) := by
  refine Meets.of (F := fun m => mkF m 0 #[.val (.ref a1), .val (.ref a2), .val (.ref w_DEFAULTCAPACITY_EMPTY_ELEMENTDATA), .val (.int (0 : Int32))] []) (plainFor_of_name pn_5) (fun m => ef_8gJ m a1 a2) ?_
  intro p e s m below meth c T0 hx hby hml hown0 hnm hret hlk hZ X0 e0
  have hown : s.vm.findClass "java/util/ArrayList" = some m.cls := hown0
  have N0 := Fr.nil n0
  have KC0 := Keep.refl h0 [a1]
  obtain ⟨z0, z1, z2, z3, z4, z5, z6, z7, z8, z9, z10, z11, zm, z13, z14, -⟩ := SF
  show Goes _ _ _ _ _ _ (T0.setTop (mkF m 0 #[.val (.ref a1), .val (.ref a2), .val (.ref w_DEFAULTCAPACITY_EMPTY_ELEMENTDATA), .val (.int (0 : Int32))] []))
  refine own_iloadN X0 hx (hb hby d8_0) rfl ?_
  refine own_aloadN X0 hx (hb hby d8_1) rfl rfl ?_
  refine own_alen X0 hx hZ e0 (z9.ext O0.2) (hb hby d8_2) ?_
  refine own_icmpNo X0 hx (hb hby d8_3) (teq (by decide : (0 : Int32) = (0 : Int32))).2 ?_
  refine own_aloadN X0 hx (hb hby d8_6) rfl rfl ?_
  refine own_private X0 hx hZ hown (y := (⟨"java/util/ArrayList", "grow", "()[Ljava/lang/Object;"⟩ : MethodName)) (hw _ (List.mem_of_getElem? (i := 63) rfl)) (hw _ (List.mem_of_getElem? (i := 64) rfl)) (hw _ (List.mem_of_getElem? (i := 26) rfl)) (hw _ (List.mem_of_getElem? (i := 65) rfl)) (hw _ (List.mem_of_getElem? (i := 27) rfl)) (hw _ (List.mem_of_getElem? (i := 67) rfl)) (a := a1) f0 (by decide) (W := 0) (by decide) (by decide) N0 e0 (by rw [hml]; rfl) (argsL := []) (rest := []) (lenOf pd_3 rfl) (Nat.le_of_eq rfl) (by decide) (by decide) (rm9 l Z a0 hw [] a1 mc w_EMPTY_ELEMENTDATA w_DEFAULTCAPACITY_EMPTY_ELEMENTDATA w_EMPTY w_EMPTY_LIST k_w_EMPTY_ELEMENTDATA k_w_DEFAULTCAPACITY_EMPTY_ELEMENTDATA w_mir w_els k_els h0 n0 O0 ⟨z0, z1, z2, z3, z4, z5, z6, z7, z8, z9, z10, z11, zm, z13, z14, trivial⟩ f0 f1 f2 f3 f4) rfl (hb hby d8_7) ?_
  intro v1 T1 lc1 X1 N1 hQ1
  obtain ⟨b_1, k_1, rfl, K1, r1_0, r1_1, r1_2, r1_3, r1_4, r1_5, r1_6, r1_7⟩ := hQ1
  have E2_a2 := f5.keep K1
  have O2 := O0.keep K1 (allS f4 all0)
  have KC2 := KC0.trans K1 (allS (Or.inl (List.mem_of_getElem? (i := 0) rfl)) all0)
  have ne_a1_b_1 : a1 ≠ b_1 := Nat.ne_of_lt (Nat.lt_of_lt_of_le f0.lt r1_6)
  have ge_b_1 : n0 ≤ b_1 := Nat.le_trans (own_sz O0) r1_6
  have sz_b_1 : h0.size ≤ b_1 := Nat.le_trans KC0.1 r1_6
  refine own_astoreN X1 hx (Ls' := #[.val (.ref a1), .val (.ref a2), .val (.ref b_1), .val (.int (0 : Int32))]) (hb hby d8_10) rfl rfl ?_
  refine own_aloadN X1 hx (hb hby d8_11) rfl rfl ?_
  refine own_iloadN X1 hx (hb hby d8_12) rfl ?_
  show Goes _ _ _ _ _ _ (T1.setTop (mkF m 13 #[.val (.ref a1), .val (.ref a2), .val (.ref b_1), .val (.int (0 : Int32))] [(.int (0 : Int32)), (.ref b_1)]))
  refine own_aloadN X1 hx (hb hby d8_13) rfl rfl ?_
  refine own_aastore X1 hx hZ N1 rfl r1_4 rfl rfl ⟨by decide, by decide⟩ (i := 0) rfl (by first | decide | (simp; done)) ge_b_1 (fun _ Ar q => Sto.ofV Ar q r1_7 (Ins.of_exa E2_a2 (hw _ (List.mem_of_getElem? (i := 91) rfl)))) (hb hby d8_14) (fun T3 h3 lc3 X3 e3 N3 W3 V3 => ?_)
  have E4_a1 := r1_0.wr W3
  have E4_b_1 := r1_5.wr W3
  have F4_modCount_a1 := r1_1.other W3 (Or.inl ne_a1_b_1)
  have F4_elementData_a1 := r1_2.other W3 (Or.inl ne_a1_b_1)
  have F4_size_a1 := r1_3.other W3 (Or.inl ne_a1_b_1)
  have O4 := O2.wr W3 ge_b_1
  have KC4 := KC2.wr W3 (Or.inr sz_b_1)
  have V3' : Arv Z h3 b_1 k_1 (.object "java/lang/Object") (10 : Int32) [(.ref a2), .null, .null, .null, .null, .null, .null, .null, .null, .null] .null := V3
  refine own_aloadN X3 hx (hb hby d8_15) rfl rfl ?_
  refine own_iloadN X3 hx (hb hby d8_16) rfl ?_
  refine own_iconst X3 hx (v := (1 : Int32)) (hb hby d8_17) rfl ?_
  show Goes _ _ _ _ _ _ (T3.setTop (mkF m 18 #[.val (.ref a1), .val (.ref a2), .val (.ref b_1), .val (.int (0 : Int32))] [(.int (1 : Int32)), (.int (0 : Int32)), (.ref a1)]))
  refine own_iadd X3 hx (hb hby d8_18) ?_
  refine own_putF X3 hx hZ hown N3 (host := "") (Or.inl (hw _ (List.mem_of_getElem? (i := 56) rfl))) Via.refl e3 F4_size_a1 E4_a1 (Or.inl (hw _ (List.mem_of_getElem? (i := 57) rfl))) (hw _ (List.mem_of_getElem? (i := 26) rfl)) (ty := .int) (by decide) rfl rfl f4 (hb hby d8_19) (fun T5 h5 lc5 X5 e5 N5 W5 => ?_)
  have E6_a1 := E4_a1.wr W5
  have E6_b_1 := E4_b_1.wr W5
  have F6_modCount_a1 := F4_modCount_a1.other W5 (Or.inr (slot_ne (Or.inl (hw _ (List.mem_of_getElem? (i := 45) rfl))) (Or.inl (hw _ (List.mem_of_getElem? (i := 57) rfl))) (by decide) (t := .int) (t' := .int) (by decide) (by decide)))
  have F6_elementData_a1 := F4_elementData_a1.other W5 (Or.inr (slot_ne (Or.inl (hw _ (List.mem_of_getElem? (i := 48) rfl))) (Or.inl (hw _ (List.mem_of_getElem? (i := 57) rfl))) (by decide) (t := (.array (.object "java/lang/Object"))) (t' := .int) (by decide) (by decide)))
  have F6_size_a1 := F4_size_a1.same W5
  have A6_b_1 := V3'.other W5 (Ne.symm ne_a1_b_1)
  have O6 := O4.wr W5 f4
  have KC6 := KC4.wr W5 (Or.inl (List.mem_of_getElem? (i := 0) rfl))
  show Goes _ _ _ _ _ _ (T5.setTop (mkF m 22 #[.val (.ref a1), .val (.ref a2), .val (.ref b_1), .val (.int (0 : Int32))] []))
  exact own_retV X5 hx N5 hlk (by decide) (by decide) hret (hb hby d8_22) (by rw [e5]; exact ⟨b_1, k_1, rfl, KC6, E6_a1, F6_modCount_a1, F6_elementData_a1, F6_size_a1, A6_b_1, E6_b_1, sz_b_1, r1_7⟩)
def Q7gJ (Z : State) (a1 : Addr) (a2 : Addr) (mc : Int32) (w_EMPTY_ELEMENTDATA : Addr) (w_DEFAULTCAPACITY_EMPTY_ELEMENTDATA : Addr) (w_EMPTY : Addr) (w_EMPTY_LIST : Addr) (k_w_EMPTY_ELEMENTDATA : ClassId) (k_w_DEFAULTCAPACITY_EMPTY_ELEMENTDATA : ClassId) (w_mir : Addr) (w_els : Addr) (k_els : ClassId) (h0 : Heap) (n0 : Nat) (v : Option Value) (h : Heap) : Prop :=
  (∃ (b : Addr) (k : ClassId), v = some (.int (1 : Int32)) ∧ Keep h0 h [a1] ∧ Exa Z h a1 "java/util/ArrayList" ∧ Fld Z h a1 "java/util/AbstractList" "modCount" "I" (.int (mc + (1 : Int32))) ∧ Fld Z h a1 "java/util/ArrayList" "elementData" "[Ljava/lang/Object;" (.ref b) ∧ Fld Z h a1 "java/util/ArrayList" "size" "I" (.int ((0 : Int32) + (1 : Int32))) ∧ Arv Z h b k (.object "java/lang/Object") (10 : Int32) [(.ref a2), .null, .null, .null, .null, .null, .null, .null, .null, .null] .null ∧ Exa Z h b "[Ljava/lang/Object;" ∧ h0.size ≤ b ∧ Ovr Z k "java/lang/Object")
theorem ef_7gJ (m : MethodId) (a1 : Addr) (a2 : Addr) : entryFrame m #[(.ref a1), (.ref a2)] 2 = mkF m 0 #[.val (.ref a1), .val (.ref a2)] [] := by first | (simp [entryFrame, mkF, argsToLocals, Value.category]; done) | rfl
set_option maxRecDepth 65536 in
set_option maxHeartbeats 40000000 in
theorem rm7gJ (l : Launch) (Z : State) (a0 : Array Value) (hw : ∀ d ∈ tables_1, d.before a0 Z = true) (ws : List Jvm.Cond) (a1 : Addr) (a2 : Addr) (mc : Int32) (w_EMPTY_ELEMENTDATA : Addr) (w_DEFAULTCAPACITY_EMPTY_ELEMENTDATA : Addr) (w_EMPTY : Addr) (w_EMPTY_LIST : Addr) (k_w_EMPTY_ELEMENTDATA : ClassId) (k_w_DEFAULTCAPACITY_EMPTY_ELEMENTDATA : ClassId) (w_mir : Addr) (w_els : Addr) (k_els : ClassId) (h0 : Heap) (n0 : Nat) (O0 : Old Z n0 h0) (SF : Start Z w_EMPTY_ELEMENTDATA w_DEFAULTCAPACITY_EMPTY_ELEMENTDATA w_EMPTY w_EMPTY_LIST k_w_EMPTY_ELEMENTDATA k_w_DEFAULTCAPACITY_EMPTY_ELEMENTDATA w_mir w_els k_els) (f0 : Exa Z h0 a1 "java/util/ArrayList") (f1 : Fld Z h0 a1 "java/util/AbstractList" "modCount" "I" (.int mc)) (f2 : Fld Z h0 a1 "java/util/ArrayList" "elementData" "[Ljava/lang/Object;" (.ref w_DEFAULTCAPACITY_EMPTY_ELEMENTDATA)) (f3 : Fld Z h0 a1 "java/util/ArrayList" "size" "I" (.int (0 : Int32))) (f4 : n0 ≤ a1) (f5 : Exa Z h0 a2 "com/example/gantry/gantry/resolver/Resolution$Jar") :
    Meets l (⟨"java/util/ArrayList", "add", "(Ljava/lang/Object;)Z"⟩ : MethodName) jdk_38_method_25_code 2 (some .boolean) ws ({ frames := 4, cells := 1, slots := 10, locals := 56 } : Room) ({ frames := 4, cells := 1, slots := 10, locals := 56 } : Room).cells ({ frames := 4, cells := 1, slots := 10, locals := 56 } : Room).slots Z #[(.ref a1), (.ref a2)] h0 n0 (Q7gJ Z a1 a2 mc w_EMPTY_ELEMENTDATA w_DEFAULTCAPACITY_EMPTY_ELEMENTDATA w_EMPTY w_EMPTY_LIST k_w_EMPTY_ELEMENTDATA k_w_DEFAULTCAPACITY_EMPTY_ELEMENTDATA w_mir w_els k_els h0 n0) := by
  refine Meets.of (F := fun m => mkF m 0 #[.val (.ref a1), .val (.ref a2)] []) (plainFor_of_name pn_5) (fun m => ef_7gJ m a1 a2) ?_
  intro p e s m below meth c T0 hx hby hml hown0 hnm hret hlk hZ X0 e0
  have hown : s.vm.findClass "java/util/ArrayList" = some m.cls := hown0
  have N0 := Fr.nil n0
  have KC0 := Keep.refl h0 [a1]
  obtain ⟨z0, z1, z2, z3, z4, z5, z6, z7, z8, z9, z10, z11, zm, z13, z14, -⟩ := SF
  show Goes _ _ _ _ _ _ (T0.setTop (mkF m 0 #[.val (.ref a1), .val (.ref a2)] []))
  refine own_aloadN X0 hx (hb hby d7_0) rfl rfl ?_
  refine own_dup X0 hx (hb hby d7_1) rfl ?_
  refine own_getF X0 hx hZ hown (host := "") (Or.inl (hw _ (List.mem_of_getElem? (i := 54) rfl))) (Via.of (hw _ (List.mem_of_getElem? (i := 55) rfl))) e0 f1 (hb hby d7_2) (fun T1 X1 e1 => ?_)
  refine own_iconst X1 hx (v := (1 : Int32)) (hb hby d7_5) rfl ?_
  refine own_iadd X1 hx (hb hby d7_6) ?_
  refine own_putF X1 hx hZ hown N0 (host := "") (Or.inl (hw _ (List.mem_of_getElem? (i := 54) rfl))) (Via.of (hw _ (List.mem_of_getElem? (i := 55) rfl))) e1 f1 f0 (Or.inl (hw _ (List.mem_of_getElem? (i := 45) rfl))) (hw _ (List.mem_of_getElem? (i := 26) rfl)) (ty := .int) (by decide) rfl rfl f4 (hb hby d7_7) (fun T2 h2 lc2 X2 e2 N2 W2 => ?_)
  have E3_a1 := f0.wr W2
  have E3_a2 := f5.wr W2
  have F3_modCount_a1 := f1.same W2
  have F3_elementData_a1 := f2.other W2 (Or.inr (slot_ne (Or.inl (hw _ (List.mem_of_getElem? (i := 48) rfl))) (Or.inl (hw _ (List.mem_of_getElem? (i := 45) rfl))) (by decide) (t := (.array (.object "java/lang/Object"))) (t' := .int) (by decide) (by decide)))
  have F3_size_a1 := f3.other W2 (Or.inr (slot_ne (Or.inl (hw _ (List.mem_of_getElem? (i := 57) rfl))) (Or.inl (hw _ (List.mem_of_getElem? (i := 45) rfl))) (by decide) (t := .int) (t' := .int) (by decide) (by decide)))
  have O3 := O0.wr W2 f4
  have KC3 := KC0.wr W2 (Or.inl (List.mem_of_getElem? (i := 0) rfl))
  refine own_aloadN X2 hx (hb hby d7_10) rfl rfl ?_
  refine own_aloadN X2 hx (hb hby d7_11) rfl rfl ?_
  refine own_aloadN X2 hx (hb hby d7_12) rfl rfl ?_
  show Goes _ _ _ _ _ _ (T2.setTop (mkF m 13 #[.val (.ref a1), .val (.ref a2)] [(.ref a1), (.ref a2), (.ref a1)]))
  refine own_getF X2 hx hZ hown (host := "") (Or.inl (hw _ (List.mem_of_getElem? (i := 47) rfl))) Via.refl e2 F3_elementData_a1 (hb hby d7_13) (fun T4 X4 e4 => ?_)
  refine own_aloadN X4 hx (hb hby d7_16) rfl rfl ?_
  refine own_getF X4 hx hZ hown (host := "") (Or.inl (hw _ (List.mem_of_getElem? (i := 56) rfl))) Via.refl e4 F3_size_a1 (hb hby d7_17) (fun T5 X5 e5 => ?_)
  refine own_private X5 hx hZ hown (y := (⟨"java/util/ArrayList", "add", "(Ljava/lang/Object;[Ljava/lang/Object;I)V"⟩ : MethodName)) (hw _ (List.mem_of_getElem? (i := 58) rfl)) (hw _ (List.mem_of_getElem? (i := 59) rfl)) (hw _ (List.mem_of_getElem? (i := 26) rfl)) (hw _ (List.mem_of_getElem? (i := 60) rfl)) (hw _ (List.mem_of_getElem? (i := 27) rfl)) (hw _ (List.mem_of_getElem? (i := 62) rfl)) (a := a1) E3_a1 (by decide) (W := 0) (by decide) (by decide) N2 e5 (by rw [hml]; rfl) (argsL := [(.ref a2), (.ref w_DEFAULTCAPACITY_EMPTY_ELEMENTDATA), (.int (0 : Int32))]) (rest := []) (lenOf pd_4 rfl) (Nat.le_of_eq rfl) (by decide) (by decide) (rm8gJ l Z a0 hw [] a1 a2 (mc + (1 : Int32)) w_EMPTY_ELEMENTDATA w_DEFAULTCAPACITY_EMPTY_ELEMENTDATA w_EMPTY w_EMPTY_LIST k_w_EMPTY_ELEMENTDATA k_w_DEFAULTCAPACITY_EMPTY_ELEMENTDATA w_mir w_els k_els h2 n0 O3 ⟨z0, z1, z2, z3, z4, z5, z6, z7, z8, z9, z10, z11, zm, z13, z14, trivial⟩ E3_a1 F3_modCount_a1 F3_elementData_a1 F3_size_a1 f4 E3_a2) rfl (hb hby d7_20) ?_
  intro v6 T6 lc6 X6 N6 hQ6
  obtain ⟨b_6, k_6, rfl, K6, r6_0, r6_1, r6_2, r6_3, r6_4, r6_5, r6_6, r6_7⟩ := hQ6
  have O7 := O3.keep K6 (allS f4 all0)
  have KC7 := KC3.trans K6 (allS (Or.inl (List.mem_of_getElem? (i := 0) rfl)) all0)
  have ge_b_6 : n0 ≤ b_6 := Nat.le_trans (own_sz O3) r6_6
  have sz_b_6 : h0.size ≤ b_6 := Nat.le_trans KC3.1 r6_6
  refine own_iconst X6 hx (v := (1 : Int32)) (hb hby d7_23) rfl ?_
  show Goes _ _ _ _ _ _ (T6.setTop (mkF m 24 #[.val (.ref a1), .val (.ref a2)] [(.int (1 : Int32))]))
  exact own_retN X6 hx (t := .boolean) N6 hlk (by decide) (by decide) hret (by simp) (hb hby d7_24) (⟨b_6, k_6, rfl, KC7, r6_0, r6_1, r6_2, r6_3, r6_4, r6_5, sz_b_6, r6_7⟩)
def Q8r1 (Z : State) (a1 : Addr) (a2 : Addr) (b : Addr) (mc : Int32) (k : ClassId) (x0 : Addr) (w_EMPTY_ELEMENTDATA : Addr) (w_DEFAULTCAPACITY_EMPTY_ELEMENTDATA : Addr) (w_EMPTY : Addr) (w_EMPTY_LIST : Addr) (k_w_EMPTY_ELEMENTDATA : ClassId) (k_w_DEFAULTCAPACITY_EMPTY_ELEMENTDATA : ClassId) (w_mir : Addr) (w_els : Addr) (k_els : ClassId) (h0 : Heap) (n0 : Nat) (v : Option Value) (h : Heap) : Prop :=
  (v = none ∧ Keep h0 h [a1, b] ∧ Exa Z h a1 "java/util/ArrayList" ∧ Fld Z h a1 "java/util/AbstractList" "modCount" "I" (.int mc) ∧ Fld Z h a1 "java/util/ArrayList" "elementData" "[Ljava/lang/Object;" (.ref b) ∧ Fld Z h a1 "java/util/ArrayList" "size" "I" (.int (((0 : Int32) + (1 : Int32)) + (1 : Int32))) ∧ Arv Z h b k (.object "java/lang/Object") (10 : Int32) [(.ref x0), (.ref a2), .null, .null, .null, .null, .null, .null, .null, .null] .null ∧ Exa Z h b "[Ljava/lang/Object;")
theorem ef_8r1 (m : MethodId) (a1 : Addr) (a2 : Addr) (b : Addr) : entryFrame m #[(.ref a1), (.ref a2), (.ref b), (.int ((0 : Int32) + (1 : Int32)))] 4 = mkF m 0 #[.val (.ref a1), .val (.ref a2), .val (.ref b), .val (.int ((0 : Int32) + (1 : Int32)))] [] := by first | (simp [entryFrame, mkF, argsToLocals, Value.category]; done) | rfl
set_option maxRecDepth 65536 in
set_option maxHeartbeats 40000000 in
theorem rm8r1 (l : Launch) (Z : State) (a0 : Array Value) (hw : ∀ d ∈ tables_1, d.before a0 Z = true) (ws : List Jvm.Cond) (a1 : Addr) (a2 : Addr) (b : Addr) (mc : Int32) (k : ClassId) (x0 : Addr) (w_EMPTY_ELEMENTDATA : Addr) (w_DEFAULTCAPACITY_EMPTY_ELEMENTDATA : Addr) (w_EMPTY : Addr) (w_EMPTY_LIST : Addr) (k_w_EMPTY_ELEMENTDATA : ClassId) (k_w_DEFAULTCAPACITY_EMPTY_ELEMENTDATA : ClassId) (w_mir : Addr) (w_els : Addr) (k_els : ClassId) (h0 : Heap) (n0 : Nat) (O0 : Old Z n0 h0) (SF : Start Z w_EMPTY_ELEMENTDATA w_DEFAULTCAPACITY_EMPTY_ELEMENTDATA w_EMPTY w_EMPTY_LIST k_w_EMPTY_ELEMENTDATA k_w_DEFAULTCAPACITY_EMPTY_ELEMENTDATA w_mir w_els k_els) (f0 : Exa Z h0 a1 "java/util/ArrayList") (f1 : Fld Z h0 a1 "java/util/AbstractList" "modCount" "I" (.int mc)) (f2 : Fld Z h0 a1 "java/util/ArrayList" "elementData" "[Ljava/lang/Object;" (.ref b)) (f3 : Fld Z h0 a1 "java/util/ArrayList" "size" "I" (.int ((0 : Int32) + (1 : Int32)))) (f4 : Arv Z h0 b k (.object "java/lang/Object") (10 : Int32) [(.ref x0), .null, .null, .null, .null, .null, .null, .null, .null, .null] .null) (f5 : Exa Z h0 b "[Ljava/lang/Object;") (f6 : n0 ≤ a1) (f7 : n0 ≤ b) (f8 : Ovr Z k "java/lang/Object") (f9 : Exa Z h0 a2 "com/example/gantry/gantry/resolver/LocalCopy") :
    Meets l (⟨"java/util/ArrayList", "add", "(Ljava/lang/Object;[Ljava/lang/Object;I)V"⟩ : MethodName) jdk_38_method_24_code 4 none ws ({ frames := 0, cells := 0, slots := 0, locals := 0 } : Room) ({ frames := 0, cells := 0, slots := 0, locals := 0 } : Room).cells ({ frames := 0, cells := 0, slots := 0, locals := 0 } : Room).slots Z #[(.ref a1), (.ref a2), (.ref b), (.int ((0 : Int32) + (1 : Int32)))] h0 n0 (Q8r1 Z a1 a2 b mc k x0 w_EMPTY_ELEMENTDATA w_DEFAULTCAPACITY_EMPTY_ELEMENTDATA w_EMPTY w_EMPTY_LIST k_w_EMPTY_ELEMENTDATA k_w_DEFAULTCAPACITY_EMPTY_ELEMENTDATA w_mir w_els k_els h0 n0) := by
  refine Meets.of (F := fun m => mkF m 0 #[.val (.ref a1), .val (.ref a2), .val (.ref b), .val (.int ((0 : Int32) + (1 : Int32)))] []) (plainFor_of_name pn_5) (fun m => ef_8r1 m a1 a2 b) ?_
  intro p e s m below meth c T0 hx hby hml hown0 hnm hret hlk hZ X0 e0
  have hown : s.vm.findClass "java/util/ArrayList" = some m.cls := hown0
  have N0 := Fr.nil n0
  have KC0 := Keep.refl h0 [a1, b]
  obtain ⟨z0, z1, z2, z3, z4, z5, z6, z7, z8, z9, z10, z11, zm, z13, z14, -⟩ := SF
  show Goes _ _ _ _ _ _ (T0.setTop (mkF m 0 #[.val (.ref a1), .val (.ref a2), .val (.ref b), .val (.int ((0 : Int32) + (1 : Int32)))] []))
  refine own_iloadN X0 hx (hb hby d8_0) rfl ?_
  refine own_aloadN X0 hx (hb hby d8_1) rfl rfl ?_
  refine own_alen X0 hx hZ e0 f4 (hb hby d8_2) ?_
  refine own_icmpYes X0 hx (pc' := 11) (hb hby d8_3) (feq (by decide : ¬ (((0 : Int32) + (1 : Int32)) = (10 : Int32)))).2 (by decide) (by decide) ?_
  refine own_aloadN X0 hx (hb hby d8_11) rfl rfl ?_
  refine own_iloadN X0 hx (hb hby d8_12) rfl ?_
  refine own_aloadN X0 hx (hb hby d8_13) rfl rfl ?_
  show Goes _ _ _ _ _ _ (T0.setTop (mkF m 14 #[.val (.ref a1), .val (.ref a2), .val (.ref b), .val (.int ((0 : Int32) + (1 : Int32)))] [(.ref a2), (.int ((0 : Int32) + (1 : Int32))), (.ref b)]))
  refine own_aastore X0 hx hZ N0 e0 f4 rfl rfl ⟨by decide, by decide⟩ (i := 1) rfl (by first | decide | (simp; done)) f7 (fun _ Ar q => Sto.ofV Ar q f8 (Ins.of_exa f9 (hw _ (List.mem_of_getElem? (i := 79) rfl)))) (hb hby d8_14) (fun T1 h1 lc1 X1 e1 N1 W1 V1 => ?_)
  have E2_a1 := f0.wr W1
  have E2_b := f5.wr W1
  have F2_modCount_a1 := f1.other W1 (Or.inl (ne_exa f0 f5 (by decide)))
  have F2_elementData_a1 := f2.other W1 (Or.inl (ne_exa f0 f5 (by decide)))
  have F2_size_a1 := f3.other W1 (Or.inl (ne_exa f0 f5 (by decide)))
  have O2 := O0.wr W1 f7
  have KC2 := KC0.wr W1 (Or.inl (List.mem_of_getElem? (i := 1) rfl))
  have V1' : Arv Z h1 b k (.object "java/lang/Object") (10 : Int32) [(.ref x0), (.ref a2), .null, .null, .null, .null, .null, .null, .null, .null] .null := V1
  refine own_aloadN X1 hx (hb hby d8_15) rfl rfl ?_
  refine own_iloadN X1 hx (hb hby d8_16) rfl ?_
  refine own_iconst X1 hx (v := (1 : Int32)) (hb hby d8_17) rfl ?_
  show Goes _ _ _ _ _ _ (T1.setTop (mkF m 18 #[.val (.ref a1), .val (.ref a2), .val (.ref b), .val (.int ((0 : Int32) + (1 : Int32)))] [(.int (1 : Int32)), (.int ((0 : Int32) + (1 : Int32))), (.ref a1)]))
  refine own_iadd X1 hx (hb hby d8_18) ?_
  refine own_putF X1 hx hZ hown N1 (host := "") (Or.inl (hw _ (List.mem_of_getElem? (i := 56) rfl))) Via.refl e1 F2_size_a1 E2_a1 (Or.inl (hw _ (List.mem_of_getElem? (i := 57) rfl))) (hw _ (List.mem_of_getElem? (i := 26) rfl)) (ty := .int) (by decide) rfl rfl f6 (hb hby d8_19) (fun T3 h3 lc3 X3 e3 N3 W3 => ?_)
  have E4_a1 := E2_a1.wr W3
  have E4_b := E2_b.wr W3
  have F4_modCount_a1 := F2_modCount_a1.other W3 (Or.inr (slot_ne (Or.inl (hw _ (List.mem_of_getElem? (i := 45) rfl))) (Or.inl (hw _ (List.mem_of_getElem? (i := 57) rfl))) (by decide) (t := .int) (t' := .int) (by decide) (by decide)))
  have F4_elementData_a1 := F2_elementData_a1.other W3 (Or.inr (slot_ne (Or.inl (hw _ (List.mem_of_getElem? (i := 48) rfl))) (Or.inl (hw _ (List.mem_of_getElem? (i := 57) rfl))) (by decide) (t := (.array (.object "java/lang/Object"))) (t' := .int) (by decide) (by decide)))
  have F4_size_a1 := F2_size_a1.same W3
  have A4_b := V1'.other W3 (ne_exa E2_b E2_a1 (by decide))
  have O4 := O2.wr W3 f6
  have KC4 := KC2.wr W3 (Or.inl (List.mem_of_getElem? (i := 0) rfl))
  show Goes _ _ _ _ _ _ (T3.setTop (mkF m 22 #[.val (.ref a1), .val (.ref a2), .val (.ref b), .val (.int ((0 : Int32) + (1 : Int32)))] []))
  exact own_retV X3 hx N3 hlk (by decide) (by decide) hret (hb hby d8_22) (by rw [e3]; exact ⟨rfl, KC4, E4_a1, F4_modCount_a1, F4_elementData_a1, F4_size_a1, A4_b, E4_b⟩)
def Q7r1 (Z : State) (a1 : Addr) (a2 : Addr) (mc : Int32) (b : Addr) (k : ClassId) (x0 : Addr) (w_EMPTY_ELEMENTDATA : Addr) (w_DEFAULTCAPACITY_EMPTY_ELEMENTDATA : Addr) (w_EMPTY : Addr) (w_EMPTY_LIST : Addr) (k_w_EMPTY_ELEMENTDATA : ClassId) (k_w_DEFAULTCAPACITY_EMPTY_ELEMENTDATA : ClassId) (w_mir : Addr) (w_els : Addr) (k_els : ClassId) (h0 : Heap) (n0 : Nat) (v : Option Value) (h : Heap) : Prop :=
  (v = some (.int (1 : Int32)) ∧ Keep h0 h [a1, b] ∧ Exa Z h a1 "java/util/ArrayList" ∧ Fld Z h a1 "java/util/AbstractList" "modCount" "I" (.int (mc + (1 : Int32))) ∧ Fld Z h a1 "java/util/ArrayList" "elementData" "[Ljava/lang/Object;" (.ref b) ∧ Fld Z h a1 "java/util/ArrayList" "size" "I" (.int (((0 : Int32) + (1 : Int32)) + (1 : Int32))) ∧ Arv Z h b k (.object "java/lang/Object") (10 : Int32) [(.ref x0), (.ref a2), .null, .null, .null, .null, .null, .null, .null, .null] .null ∧ Exa Z h b "[Ljava/lang/Object;")
theorem ef_7r1 (m : MethodId) (a1 : Addr) (a2 : Addr) : entryFrame m #[(.ref a1), (.ref a2)] 2 = mkF m 0 #[.val (.ref a1), .val (.ref a2)] [] := by first | (simp [entryFrame, mkF, argsToLocals, Value.category]; done) | rfl
set_option maxRecDepth 65536 in
set_option maxHeartbeats 40000000 in
theorem rm7r1 (l : Launch) (Z : State) (a0 : Array Value) (hw : ∀ d ∈ tables_1, d.before a0 Z = true) (ws : List Jvm.Cond) (a1 : Addr) (a2 : Addr) (mc : Int32) (b : Addr) (k : ClassId) (x0 : Addr) (w_EMPTY_ELEMENTDATA : Addr) (w_DEFAULTCAPACITY_EMPTY_ELEMENTDATA : Addr) (w_EMPTY : Addr) (w_EMPTY_LIST : Addr) (k_w_EMPTY_ELEMENTDATA : ClassId) (k_w_DEFAULTCAPACITY_EMPTY_ELEMENTDATA : ClassId) (w_mir : Addr) (w_els : Addr) (k_els : ClassId) (h0 : Heap) (n0 : Nat) (O0 : Old Z n0 h0) (SF : Start Z w_EMPTY_ELEMENTDATA w_DEFAULTCAPACITY_EMPTY_ELEMENTDATA w_EMPTY w_EMPTY_LIST k_w_EMPTY_ELEMENTDATA k_w_DEFAULTCAPACITY_EMPTY_ELEMENTDATA w_mir w_els k_els) (f0 : Exa Z h0 a1 "java/util/ArrayList") (f1 : Fld Z h0 a1 "java/util/AbstractList" "modCount" "I" (.int mc)) (f2 : Fld Z h0 a1 "java/util/ArrayList" "elementData" "[Ljava/lang/Object;" (.ref b)) (f3 : Fld Z h0 a1 "java/util/ArrayList" "size" "I" (.int ((0 : Int32) + (1 : Int32)))) (f4 : Arv Z h0 b k (.object "java/lang/Object") (10 : Int32) [(.ref x0), .null, .null, .null, .null, .null, .null, .null, .null, .null] .null) (f5 : Exa Z h0 b "[Ljava/lang/Object;") (f6 : n0 ≤ a1) (f7 : n0 ≤ b) (f8 : Ovr Z k "java/lang/Object") (f9 : Exa Z h0 a2 "com/example/gantry/gantry/resolver/LocalCopy") :
    Meets l (⟨"java/util/ArrayList", "add", "(Ljava/lang/Object;)Z"⟩ : MethodName) jdk_38_method_25_code 2 (some .boolean) ws ({ frames := 1, cells := 0, slots := 0, locals := 15 } : Room) ({ frames := 1, cells := 0, slots := 0, locals := 15 } : Room).cells ({ frames := 1, cells := 0, slots := 0, locals := 15 } : Room).slots Z #[(.ref a1), (.ref a2)] h0 n0 (Q7r1 Z a1 a2 mc b k x0 w_EMPTY_ELEMENTDATA w_DEFAULTCAPACITY_EMPTY_ELEMENTDATA w_EMPTY w_EMPTY_LIST k_w_EMPTY_ELEMENTDATA k_w_DEFAULTCAPACITY_EMPTY_ELEMENTDATA w_mir w_els k_els h0 n0) := by
  refine Meets.of (F := fun m => mkF m 0 #[.val (.ref a1), .val (.ref a2)] []) (plainFor_of_name pn_5) (fun m => ef_7r1 m a1 a2) ?_
  intro p e s m below meth c T0 hx hby hml hown0 hnm hret hlk hZ X0 e0
  have hown : s.vm.findClass "java/util/ArrayList" = some m.cls := hown0
  have N0 := Fr.nil n0
  have KC0 := Keep.refl h0 [a1, b]
  obtain ⟨z0, z1, z2, z3, z4, z5, z6, z7, z8, z9, z10, z11, zm, z13, z14, -⟩ := SF
  show Goes _ _ _ _ _ _ (T0.setTop (mkF m 0 #[.val (.ref a1), .val (.ref a2)] []))
  refine own_aloadN X0 hx (hb hby d7_0) rfl rfl ?_
  refine own_dup X0 hx (hb hby d7_1) rfl ?_
  refine own_getF X0 hx hZ hown (host := "") (Or.inl (hw _ (List.mem_of_getElem? (i := 54) rfl))) (Via.of (hw _ (List.mem_of_getElem? (i := 55) rfl))) e0 f1 (hb hby d7_2) (fun T1 X1 e1 => ?_)
  refine own_iconst X1 hx (v := (1 : Int32)) (hb hby d7_5) rfl ?_
  refine own_iadd X1 hx (hb hby d7_6) ?_
  refine own_putF X1 hx hZ hown N0 (host := "") (Or.inl (hw _ (List.mem_of_getElem? (i := 54) rfl))) (Via.of (hw _ (List.mem_of_getElem? (i := 55) rfl))) e1 f1 f0 (Or.inl (hw _ (List.mem_of_getElem? (i := 45) rfl))) (hw _ (List.mem_of_getElem? (i := 26) rfl)) (ty := .int) (by decide) rfl rfl f6 (hb hby d7_7) (fun T2 h2 lc2 X2 e2 N2 W2 => ?_)
  have E3_a1 := f0.wr W2
  have E3_b := f5.wr W2
  have E3_a2 := f9.wr W2
  have F3_modCount_a1 := f1.same W2
  have F3_elementData_a1 := f2.other W2 (Or.inr (slot_ne (Or.inl (hw _ (List.mem_of_getElem? (i := 48) rfl))) (Or.inl (hw _ (List.mem_of_getElem? (i := 45) rfl))) (by decide) (t := (.array (.object "java/lang/Object"))) (t' := .int) (by decide) (by decide)))
  have F3_size_a1 := f3.other W2 (Or.inr (slot_ne (Or.inl (hw _ (List.mem_of_getElem? (i := 57) rfl))) (Or.inl (hw _ (List.mem_of_getElem? (i := 45) rfl))) (by decide) (t := .int) (t' := .int) (by decide) (by decide)))
  have A3_b := f4.other W2 (ne_exa f5 f0 (by decide))
  have O3 := O0.wr W2 f6
  have KC3 := KC0.wr W2 (Or.inl (List.mem_of_getElem? (i := 0) rfl))
  refine own_aloadN X2 hx (hb hby d7_10) rfl rfl ?_
  refine own_aloadN X2 hx (hb hby d7_11) rfl rfl ?_
  refine own_aloadN X2 hx (hb hby d7_12) rfl rfl ?_
  show Goes _ _ _ _ _ _ (T2.setTop (mkF m 13 #[.val (.ref a1), .val (.ref a2)] [(.ref a1), (.ref a2), (.ref a1)]))
  refine own_getF X2 hx hZ hown (host := "") (Or.inl (hw _ (List.mem_of_getElem? (i := 47) rfl))) Via.refl e2 F3_elementData_a1 (hb hby d7_13) (fun T4 X4 e4 => ?_)
  refine own_aloadN X4 hx (hb hby d7_16) rfl rfl ?_
  refine own_getF X4 hx hZ hown (host := "") (Or.inl (hw _ (List.mem_of_getElem? (i := 56) rfl))) Via.refl e4 F3_size_a1 (hb hby d7_17) (fun T5 X5 e5 => ?_)
  refine own_private X5 hx hZ hown (y := (⟨"java/util/ArrayList", "add", "(Ljava/lang/Object;[Ljava/lang/Object;I)V"⟩ : MethodName)) (hw _ (List.mem_of_getElem? (i := 58) rfl)) (hw _ (List.mem_of_getElem? (i := 59) rfl)) (hw _ (List.mem_of_getElem? (i := 26) rfl)) (hw _ (List.mem_of_getElem? (i := 60) rfl)) (hw _ (List.mem_of_getElem? (i := 27) rfl)) (hw _ (List.mem_of_getElem? (i := 62) rfl)) (a := a1) E3_a1 (by decide) (W := 0) (by decide) (by decide) N2 e5 (by rw [hml]; rfl) (argsL := [(.ref a2), (.ref b), (.int ((0 : Int32) + (1 : Int32)))]) (rest := []) (lenOf pd_4 rfl) (Nat.le_of_eq rfl) (by decide) (by decide) (rm8r1 l Z a0 hw [] a1 a2 b (mc + (1 : Int32)) k x0 w_EMPTY_ELEMENTDATA w_DEFAULTCAPACITY_EMPTY_ELEMENTDATA w_EMPTY w_EMPTY_LIST k_w_EMPTY_ELEMENTDATA k_w_DEFAULTCAPACITY_EMPTY_ELEMENTDATA w_mir w_els k_els h2 n0 O3 ⟨z0, z1, z2, z3, z4, z5, z6, z7, z8, z9, z10, z11, zm, z13, z14, trivial⟩ E3_a1 F3_modCount_a1 F3_elementData_a1 F3_size_a1 A3_b E3_b f6 f7 f8 E3_a2) rfl (hb hby d7_20) ?_
  intro v6 T6 lc6 X6 N6 hQ6
  obtain ⟨rfl, K6, r6_0, r6_1, r6_2, r6_3, r6_4, r6_5⟩ := hQ6
  have O7 := O3.keep K6 (allS f6 (allS f7 all0))
  have KC7 := KC3.trans K6 (allS (Or.inl (List.mem_of_getElem? (i := 0) rfl)) (allS (Or.inl (List.mem_of_getElem? (i := 1) rfl)) all0))
  refine own_iconst X6 hx (v := (1 : Int32)) (hb hby d7_23) rfl ?_
  show Goes _ _ _ _ _ _ (T6.setTop (mkF m 24 #[.val (.ref a1), .val (.ref a2)] [(.int (1 : Int32))]))
  exact own_retN X6 hx (t := .boolean) N6 hlk (by decide) (by decide) hret (by simp) (hb hby d7_24) (⟨rfl, KC7, r6_0, r6_1, r6_2, r6_3, r6_4, r6_5⟩)
def Q8r2 (Z : State) (a1 : Addr) (a2 : Addr) (b : Addr) (mc : Int32) (k : ClassId) (x0 : Addr) (x1 : Addr) (w_EMPTY_ELEMENTDATA : Addr) (w_DEFAULTCAPACITY_EMPTY_ELEMENTDATA : Addr) (w_EMPTY : Addr) (w_EMPTY_LIST : Addr) (k_w_EMPTY_ELEMENTDATA : ClassId) (k_w_DEFAULTCAPACITY_EMPTY_ELEMENTDATA : ClassId) (w_mir : Addr) (w_els : Addr) (k_els : ClassId) (h0 : Heap) (n0 : Nat) (v : Option Value) (h : Heap) : Prop :=
  (v = none ∧ Keep h0 h [a1, b] ∧ Exa Z h a1 "java/util/ArrayList" ∧ Fld Z h a1 "java/util/AbstractList" "modCount" "I" (.int mc) ∧ Fld Z h a1 "java/util/ArrayList" "elementData" "[Ljava/lang/Object;" (.ref b) ∧ Fld Z h a1 "java/util/ArrayList" "size" "I" (.int ((((0 : Int32) + (1 : Int32)) + (1 : Int32)) + (1 : Int32))) ∧ Arv Z h b k (.object "java/lang/Object") (10 : Int32) [(.ref x0), (.ref x1), (.ref a2), .null, .null, .null, .null, .null, .null, .null] .null ∧ Exa Z h b "[Ljava/lang/Object;")
theorem ef_8r2 (m : MethodId) (a1 : Addr) (a2 : Addr) (b : Addr) : entryFrame m #[(.ref a1), (.ref a2), (.ref b), (.int (((0 : Int32) + (1 : Int32)) + (1 : Int32)))] 4 = mkF m 0 #[.val (.ref a1), .val (.ref a2), .val (.ref b), .val (.int (((0 : Int32) + (1 : Int32)) + (1 : Int32)))] [] := by first | (simp [entryFrame, mkF, argsToLocals, Value.category]; done) | rfl
set_option maxRecDepth 65536 in
set_option maxHeartbeats 40000000 in
theorem rm8r2 (l : Launch) (Z : State) (a0 : Array Value) (hw : ∀ d ∈ tables_1, d.before a0 Z = true) (ws : List Jvm.Cond) (a1 : Addr) (a2 : Addr) (b : Addr) (mc : Int32) (k : ClassId) (x0 : Addr) (x1 : Addr) (w_EMPTY_ELEMENTDATA : Addr) (w_DEFAULTCAPACITY_EMPTY_ELEMENTDATA : Addr) (w_EMPTY : Addr) (w_EMPTY_LIST : Addr) (k_w_EMPTY_ELEMENTDATA : ClassId) (k_w_DEFAULTCAPACITY_EMPTY_ELEMENTDATA : ClassId) (w_mir : Addr) (w_els : Addr) (k_els : ClassId) (h0 : Heap) (n0 : Nat) (O0 : Old Z n0 h0) (SF : Start Z w_EMPTY_ELEMENTDATA w_DEFAULTCAPACITY_EMPTY_ELEMENTDATA w_EMPTY w_EMPTY_LIST k_w_EMPTY_ELEMENTDATA k_w_DEFAULTCAPACITY_EMPTY_ELEMENTDATA w_mir w_els k_els) (f0 : Exa Z h0 a1 "java/util/ArrayList") (f1 : Fld Z h0 a1 "java/util/AbstractList" "modCount" "I" (.int mc)) (f2 : Fld Z h0 a1 "java/util/ArrayList" "elementData" "[Ljava/lang/Object;" (.ref b)) (f3 : Fld Z h0 a1 "java/util/ArrayList" "size" "I" (.int (((0 : Int32) + (1 : Int32)) + (1 : Int32)))) (f4 : Arv Z h0 b k (.object "java/lang/Object") (10 : Int32) [(.ref x0), (.ref x1), .null, .null, .null, .null, .null, .null, .null, .null] .null) (f5 : Exa Z h0 b "[Ljava/lang/Object;") (f6 : n0 ≤ a1) (f7 : n0 ≤ b) (f8 : Ovr Z k "java/lang/Object") (f9 : Exa Z h0 a2 "com/example/gantry/gantry/resolver/LocalCopy") :
    Meets l (⟨"java/util/ArrayList", "add", "(Ljava/lang/Object;[Ljava/lang/Object;I)V"⟩ : MethodName) jdk_38_method_24_code 4 none ws ({ frames := 0, cells := 0, slots := 0, locals := 0 } : Room) ({ frames := 0, cells := 0, slots := 0, locals := 0 } : Room).cells ({ frames := 0, cells := 0, slots := 0, locals := 0 } : Room).slots Z #[(.ref a1), (.ref a2), (.ref b), (.int (((0 : Int32) + (1 : Int32)) + (1 : Int32)))] h0 n0 (Q8r2 Z a1 a2 b mc k x0 x1 w_EMPTY_ELEMENTDATA w_DEFAULTCAPACITY_EMPTY_ELEMENTDATA w_EMPTY w_EMPTY_LIST k_w_EMPTY_ELEMENTDATA k_w_DEFAULTCAPACITY_EMPTY_ELEMENTDATA w_mir w_els k_els h0 n0) := by
  refine Meets.of (F := fun m => mkF m 0 #[.val (.ref a1), .val (.ref a2), .val (.ref b), .val (.int (((0 : Int32) + (1 : Int32)) + (1 : Int32)))] []) (plainFor_of_name pn_5) (fun m => ef_8r2 m a1 a2 b) ?_
  intro p e s m below meth c T0 hx hby hml hown0 hnm hret hlk hZ X0 e0
  have hown : s.vm.findClass "java/util/ArrayList" = some m.cls := hown0
  have N0 := Fr.nil n0
  have KC0 := Keep.refl h0 [a1, b]
  obtain ⟨z0, z1, z2, z3, z4, z5, z6, z7, z8, z9, z10, z11, zm, z13, z14, -⟩ := SF
  show Goes _ _ _ _ _ _ (T0.setTop (mkF m 0 #[.val (.ref a1), .val (.ref a2), .val (.ref b), .val (.int (((0 : Int32) + (1 : Int32)) + (1 : Int32)))] []))
  refine own_iloadN X0 hx (hb hby d8_0) rfl ?_
  refine own_aloadN X0 hx (hb hby d8_1) rfl rfl ?_
  refine own_alen X0 hx hZ e0 f4 (hb hby d8_2) ?_
  refine own_icmpYes X0 hx (pc' := 11) (hb hby d8_3) (feq (by decide : ¬ ((((0 : Int32) + (1 : Int32)) + (1 : Int32)) = (10 : Int32)))).2 (by decide) (by decide) ?_
  refine own_aloadN X0 hx (hb hby d8_11) rfl rfl ?_
  refine own_iloadN X0 hx (hb hby d8_12) rfl ?_
  refine own_aloadN X0 hx (hb hby d8_13) rfl rfl ?_
  show Goes _ _ _ _ _ _ (T0.setTop (mkF m 14 #[.val (.ref a1), .val (.ref a2), .val (.ref b), .val (.int (((0 : Int32) + (1 : Int32)) + (1 : Int32)))] [(.ref a2), (.int (((0 : Int32) + (1 : Int32)) + (1 : Int32))), (.ref b)]))
  refine own_aastore X0 hx hZ N0 e0 f4 rfl rfl ⟨by decide, by decide⟩ (i := 2) rfl (by first | decide | (simp; done)) f7 (fun _ Ar q => Sto.ofV Ar q f8 (Ins.of_exa f9 (hw _ (List.mem_of_getElem? (i := 79) rfl)))) (hb hby d8_14) (fun T1 h1 lc1 X1 e1 N1 W1 V1 => ?_)
  have E2_a1 := f0.wr W1
  have E2_b := f5.wr W1
  have F2_modCount_a1 := f1.other W1 (Or.inl (ne_exa f0 f5 (by decide)))
  have F2_elementData_a1 := f2.other W1 (Or.inl (ne_exa f0 f5 (by decide)))
  have F2_size_a1 := f3.other W1 (Or.inl (ne_exa f0 f5 (by decide)))
  have O2 := O0.wr W1 f7
  have KC2 := KC0.wr W1 (Or.inl (List.mem_of_getElem? (i := 1) rfl))
  have V1' : Arv Z h1 b k (.object "java/lang/Object") (10 : Int32) [(.ref x0), (.ref x1), (.ref a2), .null, .null, .null, .null, .null, .null, .null] .null := V1
  refine own_aloadN X1 hx (hb hby d8_15) rfl rfl ?_
  refine own_iloadN X1 hx (hb hby d8_16) rfl ?_
  refine own_iconst X1 hx (v := (1 : Int32)) (hb hby d8_17) rfl ?_
  show Goes _ _ _ _ _ _ (T1.setTop (mkF m 18 #[.val (.ref a1), .val (.ref a2), .val (.ref b), .val (.int (((0 : Int32) + (1 : Int32)) + (1 : Int32)))] [(.int (1 : Int32)), (.int (((0 : Int32) + (1 : Int32)) + (1 : Int32))), (.ref a1)]))
  refine own_iadd X1 hx (hb hby d8_18) ?_
  refine own_putF X1 hx hZ hown N1 (host := "") (Or.inl (hw _ (List.mem_of_getElem? (i := 56) rfl))) Via.refl e1 F2_size_a1 E2_a1 (Or.inl (hw _ (List.mem_of_getElem? (i := 57) rfl))) (hw _ (List.mem_of_getElem? (i := 26) rfl)) (ty := .int) (by decide) rfl rfl f6 (hb hby d8_19) (fun T3 h3 lc3 X3 e3 N3 W3 => ?_)
  have E4_a1 := E2_a1.wr W3
  have E4_b := E2_b.wr W3
  have F4_modCount_a1 := F2_modCount_a1.other W3 (Or.inr (slot_ne (Or.inl (hw _ (List.mem_of_getElem? (i := 45) rfl))) (Or.inl (hw _ (List.mem_of_getElem? (i := 57) rfl))) (by decide) (t := .int) (t' := .int) (by decide) (by decide)))
  have F4_elementData_a1 := F2_elementData_a1.other W3 (Or.inr (slot_ne (Or.inl (hw _ (List.mem_of_getElem? (i := 48) rfl))) (Or.inl (hw _ (List.mem_of_getElem? (i := 57) rfl))) (by decide) (t := (.array (.object "java/lang/Object"))) (t' := .int) (by decide) (by decide)))
  have F4_size_a1 := F2_size_a1.same W3
  have A4_b := V1'.other W3 (ne_exa E2_b E2_a1 (by decide))
  have O4 := O2.wr W3 f6
  have KC4 := KC2.wr W3 (Or.inl (List.mem_of_getElem? (i := 0) rfl))
  show Goes _ _ _ _ _ _ (T3.setTop (mkF m 22 #[.val (.ref a1), .val (.ref a2), .val (.ref b), .val (.int (((0 : Int32) + (1 : Int32)) + (1 : Int32)))] []))
  exact own_retV X3 hx N3 hlk (by decide) (by decide) hret (hb hby d8_22) (by rw [e3]; exact ⟨rfl, KC4, E4_a1, F4_modCount_a1, F4_elementData_a1, F4_size_a1, A4_b, E4_b⟩)
def Q7r2 (Z : State) (a1 : Addr) (a2 : Addr) (mc : Int32) (b : Addr) (k : ClassId) (x0 : Addr) (x1 : Addr) (w_EMPTY_ELEMENTDATA : Addr) (w_DEFAULTCAPACITY_EMPTY_ELEMENTDATA : Addr) (w_EMPTY : Addr) (w_EMPTY_LIST : Addr) (k_w_EMPTY_ELEMENTDATA : ClassId) (k_w_DEFAULTCAPACITY_EMPTY_ELEMENTDATA : ClassId) (w_mir : Addr) (w_els : Addr) (k_els : ClassId) (h0 : Heap) (n0 : Nat) (v : Option Value) (h : Heap) : Prop :=
  (v = some (.int (1 : Int32)) ∧ Keep h0 h [a1, b] ∧ Exa Z h a1 "java/util/ArrayList" ∧ Fld Z h a1 "java/util/AbstractList" "modCount" "I" (.int (mc + (1 : Int32))) ∧ Fld Z h a1 "java/util/ArrayList" "elementData" "[Ljava/lang/Object;" (.ref b) ∧ Fld Z h a1 "java/util/ArrayList" "size" "I" (.int ((((0 : Int32) + (1 : Int32)) + (1 : Int32)) + (1 : Int32))) ∧ Arv Z h b k (.object "java/lang/Object") (10 : Int32) [(.ref x0), (.ref x1), (.ref a2), .null, .null, .null, .null, .null, .null, .null] .null ∧ Exa Z h b "[Ljava/lang/Object;")
theorem ef_7r2 (m : MethodId) (a1 : Addr) (a2 : Addr) : entryFrame m #[(.ref a1), (.ref a2)] 2 = mkF m 0 #[.val (.ref a1), .val (.ref a2)] [] := by first | (simp [entryFrame, mkF, argsToLocals, Value.category]; done) | rfl
set_option maxRecDepth 65536 in
set_option maxHeartbeats 40000000 in
theorem rm7r2 (l : Launch) (Z : State) (a0 : Array Value) (hw : ∀ d ∈ tables_1, d.before a0 Z = true) (ws : List Jvm.Cond) (a1 : Addr) (a2 : Addr) (mc : Int32) (b : Addr) (k : ClassId) (x0 : Addr) (x1 : Addr) (w_EMPTY_ELEMENTDATA : Addr) (w_DEFAULTCAPACITY_EMPTY_ELEMENTDATA : Addr) (w_EMPTY : Addr) (w_EMPTY_LIST : Addr) (k_w_EMPTY_ELEMENTDATA : ClassId) (k_w_DEFAULTCAPACITY_EMPTY_ELEMENTDATA : ClassId) (w_mir : Addr) (w_els : Addr) (k_els : ClassId) (h0 : Heap) (n0 : Nat) (O0 : Old Z n0 h0) (SF : Start Z w_EMPTY_ELEMENTDATA w_DEFAULTCAPACITY_EMPTY_ELEMENTDATA w_EMPTY w_EMPTY_LIST k_w_EMPTY_ELEMENTDATA k_w_DEFAULTCAPACITY_EMPTY_ELEMENTDATA w_mir w_els k_els) (f0 : Exa Z h0 a1 "java/util/ArrayList") (f1 : Fld Z h0 a1 "java/util/AbstractList" "modCount" "I" (.int mc)) (f2 : Fld Z h0 a1 "java/util/ArrayList" "elementData" "[Ljava/lang/Object;" (.ref b)) (f3 : Fld Z h0 a1 "java/util/ArrayList" "size" "I" (.int (((0 : Int32) + (1 : Int32)) + (1 : Int32)))) (f4 : Arv Z h0 b k (.object "java/lang/Object") (10 : Int32) [(.ref x0), (.ref x1), .null, .null, .null, .null, .null, .null, .null, .null] .null) (f5 : Exa Z h0 b "[Ljava/lang/Object;") (f6 : n0 ≤ a1) (f7 : n0 ≤ b) (f8 : Ovr Z k "java/lang/Object") (f9 : Exa Z h0 a2 "com/example/gantry/gantry/resolver/LocalCopy") :
    Meets l (⟨"java/util/ArrayList", "add", "(Ljava/lang/Object;)Z"⟩ : MethodName) jdk_38_method_25_code 2 (some .boolean) ws ({ frames := 1, cells := 0, slots := 0, locals := 15 } : Room) ({ frames := 1, cells := 0, slots := 0, locals := 15 } : Room).cells ({ frames := 1, cells := 0, slots := 0, locals := 15 } : Room).slots Z #[(.ref a1), (.ref a2)] h0 n0 (Q7r2 Z a1 a2 mc b k x0 x1 w_EMPTY_ELEMENTDATA w_DEFAULTCAPACITY_EMPTY_ELEMENTDATA w_EMPTY w_EMPTY_LIST k_w_EMPTY_ELEMENTDATA k_w_DEFAULTCAPACITY_EMPTY_ELEMENTDATA w_mir w_els k_els h0 n0) := by
  refine Meets.of (F := fun m => mkF m 0 #[.val (.ref a1), .val (.ref a2)] []) (plainFor_of_name pn_5) (fun m => ef_7r2 m a1 a2) ?_
  intro p e s m below meth c T0 hx hby hml hown0 hnm hret hlk hZ X0 e0
  have hown : s.vm.findClass "java/util/ArrayList" = some m.cls := hown0
  have N0 := Fr.nil n0
  have KC0 := Keep.refl h0 [a1, b]
  obtain ⟨z0, z1, z2, z3, z4, z5, z6, z7, z8, z9, z10, z11, zm, z13, z14, -⟩ := SF
  show Goes _ _ _ _ _ _ (T0.setTop (mkF m 0 #[.val (.ref a1), .val (.ref a2)] []))
  refine own_aloadN X0 hx (hb hby d7_0) rfl rfl ?_
  refine own_dup X0 hx (hb hby d7_1) rfl ?_
  refine own_getF X0 hx hZ hown (host := "") (Or.inl (hw _ (List.mem_of_getElem? (i := 54) rfl))) (Via.of (hw _ (List.mem_of_getElem? (i := 55) rfl))) e0 f1 (hb hby d7_2) (fun T1 X1 e1 => ?_)
  refine own_iconst X1 hx (v := (1 : Int32)) (hb hby d7_5) rfl ?_
  refine own_iadd X1 hx (hb hby d7_6) ?_
  refine own_putF X1 hx hZ hown N0 (host := "") (Or.inl (hw _ (List.mem_of_getElem? (i := 54) rfl))) (Via.of (hw _ (List.mem_of_getElem? (i := 55) rfl))) e1 f1 f0 (Or.inl (hw _ (List.mem_of_getElem? (i := 45) rfl))) (hw _ (List.mem_of_getElem? (i := 26) rfl)) (ty := .int) (by decide) rfl rfl f6 (hb hby d7_7) (fun T2 h2 lc2 X2 e2 N2 W2 => ?_)
  have E3_a1 := f0.wr W2
  have E3_b := f5.wr W2
  have E3_a2 := f9.wr W2
  have F3_modCount_a1 := f1.same W2
  have F3_elementData_a1 := f2.other W2 (Or.inr (slot_ne (Or.inl (hw _ (List.mem_of_getElem? (i := 48) rfl))) (Or.inl (hw _ (List.mem_of_getElem? (i := 45) rfl))) (by decide) (t := (.array (.object "java/lang/Object"))) (t' := .int) (by decide) (by decide)))
  have F3_size_a1 := f3.other W2 (Or.inr (slot_ne (Or.inl (hw _ (List.mem_of_getElem? (i := 57) rfl))) (Or.inl (hw _ (List.mem_of_getElem? (i := 45) rfl))) (by decide) (t := .int) (t' := .int) (by decide) (by decide)))
  have A3_b := f4.other W2 (ne_exa f5 f0 (by decide))
  have O3 := O0.wr W2 f6
  have KC3 := KC0.wr W2 (Or.inl (List.mem_of_getElem? (i := 0) rfl))
  refine own_aloadN X2 hx (hb hby d7_10) rfl rfl ?_
  refine own_aloadN X2 hx (hb hby d7_11) rfl rfl ?_
  refine own_aloadN X2 hx (hb hby d7_12) rfl rfl ?_
  show Goes _ _ _ _ _ _ (T2.setTop (mkF m 13 #[.val (.ref a1), .val (.ref a2)] [(.ref a1), (.ref a2), (.ref a1)]))
  refine own_getF X2 hx hZ hown (host := "") (Or.inl (hw _ (List.mem_of_getElem? (i := 47) rfl))) Via.refl e2 F3_elementData_a1 (hb hby d7_13) (fun T4 X4 e4 => ?_)
  refine own_aloadN X4 hx (hb hby d7_16) rfl rfl ?_
  refine own_getF X4 hx hZ hown (host := "") (Or.inl (hw _ (List.mem_of_getElem? (i := 56) rfl))) Via.refl e4 F3_size_a1 (hb hby d7_17) (fun T5 X5 e5 => ?_)
  refine own_private X5 hx hZ hown (y := (⟨"java/util/ArrayList", "add", "(Ljava/lang/Object;[Ljava/lang/Object;I)V"⟩ : MethodName)) (hw _ (List.mem_of_getElem? (i := 58) rfl)) (hw _ (List.mem_of_getElem? (i := 59) rfl)) (hw _ (List.mem_of_getElem? (i := 26) rfl)) (hw _ (List.mem_of_getElem? (i := 60) rfl)) (hw _ (List.mem_of_getElem? (i := 27) rfl)) (hw _ (List.mem_of_getElem? (i := 62) rfl)) (a := a1) E3_a1 (by decide) (W := 0) (by decide) (by decide) N2 e5 (by rw [hml]; rfl) (argsL := [(.ref a2), (.ref b), (.int (((0 : Int32) + (1 : Int32)) + (1 : Int32)))]) (rest := []) (lenOf pd_4 rfl) (Nat.le_of_eq rfl) (by decide) (by decide) (rm8r2 l Z a0 hw [] a1 a2 b (mc + (1 : Int32)) k x0 x1 w_EMPTY_ELEMENTDATA w_DEFAULTCAPACITY_EMPTY_ELEMENTDATA w_EMPTY w_EMPTY_LIST k_w_EMPTY_ELEMENTDATA k_w_DEFAULTCAPACITY_EMPTY_ELEMENTDATA w_mir w_els k_els h2 n0 O3 ⟨z0, z1, z2, z3, z4, z5, z6, z7, z8, z9, z10, z11, zm, z13, z14, trivial⟩ E3_a1 F3_modCount_a1 F3_elementData_a1 F3_size_a1 A3_b E3_b f6 f7 f8 E3_a2) rfl (hb hby d7_20) ?_
  intro v6 T6 lc6 X6 N6 hQ6
  obtain ⟨rfl, K6, r6_0, r6_1, r6_2, r6_3, r6_4, r6_5⟩ := hQ6
  have O7 := O3.keep K6 (allS f6 (allS f7 all0))
  have KC7 := KC3.trans K6 (allS (Or.inl (List.mem_of_getElem? (i := 0) rfl)) (allS (Or.inl (List.mem_of_getElem? (i := 1) rfl)) all0))
  refine own_iconst X6 hx (v := (1 : Int32)) (hb hby d7_23) rfl ?_
  show Goes _ _ _ _ _ _ (T6.setTop (mkF m 24 #[.val (.ref a1), .val (.ref a2)] [(.int (1 : Int32))]))
  exact own_retN X6 hx (t := .boolean) N6 hlk (by decide) (by decide) hret (by simp) (hb hby d7_24) (⟨rfl, KC7, r6_0, r6_1, r6_2, r6_3, r6_4, r6_5⟩)
theorem d25_0 : decode jdk_31_method_10_code 0 = .ok (.aload_n 0, 1) := by decide +kernel
theorem d25_1 : decode jdk_31_method_10_code 1 = .ok (.ifnonnull 11, 3) := by decide +kernel
theorem d25_12 : decode jdk_31_method_10_code 12 = .ok (.aload_n 0, 1) := by decide +kernel
theorem d25_13 : decode jdk_31_method_10_code 13 = .ok (.areturn, 1) := by decide +kernel
theorem pn_8 : plainName "java/util/Objects" = true := by first | (simp [plainName, overriddenIn]; done) | decide +kernel
def Q25 (Z : State) (a1 : Addr) (h0 : Heap) (n0 : Nat) (v : Option Value) (h : Heap) : Prop :=
  (v = some (.ref a1) ∧ h = h0)
theorem ef_25 (m : MethodId) (a1 : Addr) : entryFrame m #[(.ref a1)] 1 = mkF m 0 #[.val (.ref a1)] [] := by first | (simp [entryFrame, mkF, argsToLocals, Value.category]; done) | rfl
set_option maxRecDepth 65536 in
set_option maxHeartbeats 40000000 in
theorem rm25 (l : Launch) (Z : State) (a0 : Array Value) (hw : ∀ d ∈ tables_1, d.before a0 Z = true) (ws : List Jvm.Cond) (a1 : Addr) (h0 : Heap) (n0 : Nat) (O0 : Old Z n0 h0) :
    Meets l (⟨"java/util/Objects", "requireNonNull", "(Ljava/lang/Object;)Ljava/lang/Object;"⟩ : MethodName) jdk_31_method_10_code 1 (some (.object "java/lang/Object")) ws ({ frames := 0, cells := 0, slots := 0, locals := 0 } : Room) ({ frames := 0, cells := 0, slots := 0, locals := 0 } : Room).cells ({ frames := 0, cells := 0, slots := 0, locals := 0 } : Room).slots Z #[(.ref a1)] h0 n0 (Q25 Z a1 h0 n0) := by
  refine Meets.of (F := fun m => mkF m 0 #[.val (.ref a1)] []) (plainFor_of_name pn_8) (fun m => ef_25 m a1) ?_
  intro p e s m below meth c T0 hx hby hml hown0 hnm hret hlk hZ X0 e0
  have hown : s.vm.findClass "java/util/Objects" = some m.cls := hown0
  have N0 := Fr.nil n0
  show Goes _ _ _ _ _ _ (T0.setTop (mkF m 0 #[.val (.ref a1)] []))
  refine own_aloadN X0 hx (hb hby d25_0) rfl rfl ?_
  refine own_ifnonnullYes X0 hx (pc' := 12) (hb hby d25_1) (by decide) (by decide) ?_
  refine own_aloadN X0 hx (hb hby d25_12) rfl rfl ?_
  show Goes _ _ _ _ _ _ (T0.setTop (mkF m 13 #[.val (.ref a1)] [(.ref a1)]))
  exact own_retR X0 hx N0 hlk (by decide) (by decide) hret rfl rfl rfl (hb hby d25_13) (by rw [e0]; exact ⟨rfl, rfl⟩)
theorem d19_0 : decode jdk_65_method_120_code 0 = .ok (.aload_n 2, 1) := by decide +kernel
theorem d19_1 : decode jdk_65_method_120_code 1 = .ok (.ldc 110, 2) := by decide +kernel
theorem d19_3 : decode jdk_65_method_120_code 3 = .ok (.if_acmp .ne 10, 3) := by decide +kernel
theorem d19_6 : decode jdk_65_method_120_code 6 = .ok (.iload_n 1, 1) := by decide +kernel
theorem d19_7 : decode jdk_65_method_120_code 7 = .ok (.anewarray 2, 3) := by decide +kernel
theorem d19_10 : decode jdk_65_method_120_code 10 = .ok (.goto 14, 3) := by decide +kernel
theorem d19_24 : decode jdk_65_method_120_code 24 = .ok (.astore_n 3, 1) := by decide +kernel
theorem d19_25 : decode jdk_65_method_120_code 25 = .ok (.aload_n 0, 1) := by decide +kernel
theorem d19_26 : decode jdk_65_method_120_code 26 = .ok (.iconst 0, 1) := by decide +kernel
theorem d19_27 : decode jdk_65_method_120_code 27 = .ok (.aload_n 3, 1) := by decide +kernel
theorem d19_28 : decode jdk_65_method_120_code 28 = .ok (.iconst 0, 1) := by decide +kernel
theorem d19_29 : decode jdk_65_method_120_code 29 = .ok (.aload_n 0, 1) := by decide +kernel
theorem d19_30 : decode jdk_65_method_120_code 30 = .ok (.arraylength, 1) := by decide +kernel
theorem d19_31 : decode jdk_65_method_120_code 31 = .ok (.iload_n 1, 1) := by decide +kernel
theorem d19_32 : decode jdk_65_method_120_code 32 = .ok (.invokestatic 304, 3) := by decide +kernel
theorem d19_35 : decode jdk_65_method_120_code 35 = .ok (.invokestatic 150, 3) := by decide +kernel
theorem d19_38 : decode jdk_65_method_120_code 38 = .ok (.aload_n 3, 1) := by decide +kernel
theorem d19_39 : decode jdk_65_method_120_code 39 = .ok (.areturn, 1) := by decide +kernel
theorem pn_9 : plainName "java/util/Arrays" = true := by first | (simp [plainName, overriddenIn]; done) | decide +kernel
def Q191 (Z : State) (a1 : Addr) (k : ClassId) (x0 : Addr) (w_EMPTY_ELEMENTDATA : Addr) (w_DEFAULTCAPACITY_EMPTY_ELEMENTDATA : Addr) (w_EMPTY : Addr) (w_EMPTY_LIST : Addr) (k_w_EMPTY_ELEMENTDATA : ClassId) (k_w_DEFAULTCAPACITY_EMPTY_ELEMENTDATA : ClassId) (w_mir : Addr) (w_els : Addr) (k_els : ClassId) (h0 : Heap) (n0 : Nat) (v : Option Value) (h : Heap) : Prop :=
  (∃ (b2 : Addr) (k2 : ClassId), v = some (.ref b2) ∧ Keep h0 h [] ∧ Arv Z h b2 k2 (.object "java/lang/Object") ((0 : Int32) + (1 : Int32)) [(.ref x0)] .null ∧ Exa Z h b2 "[Ljava/lang/Object;" ∧ h0.size ≤ b2)
theorem ef_191 (m : MethodId) (a1 : Addr) : entryFrame m #[(.ref a1), (.int ((0 : Int32) + (1 : Int32))), (.ref w_mir)] 4 = mkF m 0 #[.val (.ref a1), .val (.int ((0 : Int32) + (1 : Int32))), .val (.ref w_mir), .unset] [] := by first | (simp [entryFrame, mkF, argsToLocals, Value.category]; done) | rfl
set_option maxRecDepth 65536 in
set_option maxHeartbeats 40000000 in
theorem rm191 (l : Launch) (Z : State) (a0 : Array Value) (hw : ∀ d ∈ tables_1, d.before a0 Z = true) (ws : List Jvm.Cond) (a1 : Addr) (k : ClassId) (x0 : Addr) (w_EMPTY_ELEMENTDATA : Addr) (w_DEFAULTCAPACITY_EMPTY_ELEMENTDATA : Addr) (w_EMPTY : Addr) (w_EMPTY_LIST : Addr) (k_w_EMPTY_ELEMENTDATA : ClassId) (k_w_DEFAULTCAPACITY_EMPTY_ELEMENTDATA : ClassId) (w_mir : Addr) (w_els : Addr) (k_els : ClassId) (h0 : Heap) (n0 : Nat) (O0 : Old Z n0 h0) (SF : Start Z w_EMPTY_ELEMENTDATA w_DEFAULTCAPACITY_EMPTY_ELEMENTDATA w_EMPTY w_EMPTY_LIST k_w_EMPTY_ELEMENTDATA k_w_DEFAULTCAPACITY_EMPTY_ELEMENTDATA w_mir w_els k_els) (f0 : Arv Z h0 a1 k (.object "java/lang/Object") (10 : Int32) [(.ref x0), .null, .null, .null, .null, .null, .null, .null, .null, .null] .null) (f1 : Exa Z h0 a1 "[Ljava/lang/Object;") (f2 : Exa Z h0 x0 "com/example/gantry/gantry/resolver/LocalCopy") :
    Meets l (⟨"java/util/Arrays", "copyOf", "([Ljava/lang/Object;ILjava/lang/Class;)[Ljava/lang/Object;"⟩ : MethodName) jdk_65_method_120_code 4 (some (.array (.object "java/lang/Object"))) ws ({ frames := 1, cells := 1, slots := 1, locals := 18 } : Room) ({ frames := 1, cells := 1, slots := 1, locals := 18 } : Room).cells ({ frames := 1, cells := 1, slots := 1, locals := 18 } : Room).slots Z #[(.ref a1), (.int ((0 : Int32) + (1 : Int32))), (.ref w_mir)] h0 n0 (Q191 Z a1 k x0 w_EMPTY_ELEMENTDATA w_DEFAULTCAPACITY_EMPTY_ELEMENTDATA w_EMPTY w_EMPTY_LIST k_w_EMPTY_ELEMENTDATA k_w_DEFAULTCAPACITY_EMPTY_ELEMENTDATA w_mir w_els k_els h0 n0) := by
  refine Meets.of (F := fun m => mkF m 0 #[.val (.ref a1), .val (.int ((0 : Int32) + (1 : Int32))), .val (.ref w_mir), .unset] []) (plainFor_of_name pn_9) (fun m => ef_191 m a1) ?_
  intro p e s m below meth c T0 hx hby hml hown0 hnm hret hlk hZ X0 e0
  have hown : s.vm.findClass "java/util/Arrays" = some m.cls := hown0
  have N0 := Fr.nil n0
  have KC0 := Keep.refl h0 []
  obtain ⟨z0, z1, z2, z3, z4, z5, z6, z7, z8, z9, z10, z11, zm, z13, z14, -⟩ := SF
  show Goes _ _ _ _ _ _ (T0.setTop (mkF m 0 #[.val (.ref a1), .val (.int ((0 : Int32) + (1 : Int32))), .val (.ref w_mir), .unset] []))
  refine own_aloadN X0 hx (hb hby d19_0) rfl rfl ?_
  refine own_ldcMir X0 hx hZ hown (hw _ (List.mem_of_getElem? (i := 143) rfl)) e0 zm (hb hby d19_1) (fun T1 X1 e1 => ?_)
  refine own_acmp X1 hx rfl rfl (same := true) (pc' := 6) (hb hby d19_3) (decide_eq_true rfl) (by decide) (by decide) ?_
  refine own_iloadN X1 hx (hb hby d19_6) rfl ?_
  refine own_newRE X1 hx hZ hown (ad := "[Ljava/lang/Object;") (by decide +kernel) (hw _ (List.mem_of_getElem? (i := 144) rfl)) (hw _ (List.mem_of_getElem? (i := 78) rfl)) e1 (hb hby d19_7) (by decide) (cap := 1) (by decide) (by decide) (by decide) (by decide) (fun T2 h2 b2 k2 g2 X2 e2 E2 A2 O2_ B2 => ?_)
  have ge_b2 : n0 ≤ b2 := Nat.le_trans (own_sz O0) (Nat.le_of_eq g2.symm)
  have sz_b2 : h0.size ≤ b2 := Nat.le_trans KC0.1 (Nat.le_of_eq g2.symm)
  have E3_x0 := f2.ext E2
  have A3_a1 := f0.ext E2
  have O3 := O0.ext E2
  have KC3 := KC0.ext E2
  have V2 : Arv Z h2 b2 k2 (.object "java/lang/Object") ((0 : Int32) + (1 : Int32)) [.null] .null := A2.pad (pad_rep [] .null 1)
  refine own_goto X2 hx (pc' := 24) (hb hby d19_10) (by decide) (by decide) ?_
  refine own_astoreN X2 hx (Ls' := #[.val (.ref a1), .val (.int ((0 : Int32) + (1 : Int32))), .val (.ref w_mir), .val (.ref b2)]) (hb hby d19_24) rfl rfl ?_
  refine own_aloadN X2 hx (hb hby d19_25) rfl rfl ?_
  show Goes _ _ _ _ _ _ (T2.setTop (mkF m 26 #[.val (.ref a1), .val (.int ((0 : Int32) + (1 : Int32))), .val (.ref w_mir), .val (.ref b2)] [(.ref a1)]))
  refine own_iconst X2 hx (v := (0 : Int32)) (hb hby d19_26) rfl ?_
  refine own_aloadN X2 hx (hb hby d19_27) rfl rfl ?_
  refine own_iconst X2 hx (v := (0 : Int32)) (hb hby d19_28) rfl ?_
  refine own_aloadN X2 hx (hb hby d19_29) rfl rfl ?_
  refine own_alen X2 hx hZ e2 A3_a1 (hb hby d19_30) ?_
  refine own_iloadN X2 hx (hb hby d19_31) rfl ?_
  refine own_callS X2 hx hZ hown (y := (⟨"java/lang/Math", "min", "(II)I"⟩ : MethodName)) (hw _ (List.mem_of_getElem? (i := 145) rfl)) (hw _ (List.mem_of_getElem? (i := 146) rfl)) (hw _ (List.mem_of_getElem? (i := 75) rfl)) (hw _ (List.mem_of_getElem? (i := 147) rfl)) (by decide) (W := 4) (by decide) (by decide) N0 e2 (by rw [hml]; rfl) (argsL := [(.int (10 : Int32)), (.int ((0 : Int32) + (1 : Int32)))]) (rest := [(.int (0 : Int32)), (.ref b2), (.int (0 : Int32)), (.ref a1)]) (lenOf pd_1 rfl) (Nat.le_of_eq rfl) (by decide) (by decide) (rm20 l Z a0 hw [] (10 : Int32) ((0 : Int32) + (1 : Int32)) h2 n0 O3) rfl (hb hby d19_32) ?_
  intro v4 T4 lc4 X4 N4 hQ4
  rcases hQ4 with hQ4_0 | hQ4_1
  ·
    obtain ⟨rfl, hq4_0_0, e4⟩ := hQ4_0
    obtain ⟨cl5, Ar5, q5, -⟩ := id V2
    refine own_cpA X4 hx hZ hown (hw _ (List.mem_of_getElem? (i := 148) rfl)) (hw _ (List.mem_of_getElem? (i := 151) rfl)) (hw _ (List.mem_of_getElem? (i := 149) rfl)) (hw _ (List.mem_of_getElem? (i := 150) rfl)) e4 A3_a1 V2 (us := [(.ref x0)]) (vr := [(.ref x0)]) (Or.inr ⟨rfl, rfl, ⟨(Sto.ofV Ar5 q5 O2_ (Ins.of_exa E3_x0 (hw _ (List.mem_of_getElem? (i := 79) rfl)))), trivial⟩⟩) (by decide) (by decide) (by decide) (by decide) (by decide) rfl (Nat.le_of_ble_eq_true rfl) rfl N4 ge_b2 (by rw [hml]; rfl) (hb hby d19_35) (by decide) (W := 0) (Nat.le_of_eq rfl) (by decide) (fun T5 h5 lc5 X5 e5 N5 K5 V5 => ?_)
    have E6_b2 := B2.keep K5
    have O6 := O3.keep K5 (allS ge_b2 all0)
    have KC6 := KC3.trans K5 (allS (Or.inr sz_b2) all0)
    refine own_aloadN X5 hx (hb hby d19_38) rfl rfl ?_
    show Goes _ _ _ _ _ _ (T5.setTop (mkF m 39 #[.val (.ref a1), .val (.int ((0 : Int32) + (1 : Int32))), .val (.ref w_mir), .val (.ref b2)] [(.ref b2)]))
    exact own_retR X5 hx N5 hlk (by decide) (by decide) hret rfl rfl rfl (hb hby d19_39) (by rw [e5]; exact ⟨b2, k2, rfl, KC6, V5, E6_b2, sz_b2⟩)
  ·
    obtain ⟨rfl, hq4_1_0, e4⟩ := hQ4_1
    exact absurd (by decide) hq4_1_0
theorem d18_0 : decode jdk_65_method_119_code 0 = .ok (.aload_n 0, 1) := by decide +kernel
theorem d18_1 : decode jdk_65_method_119_code 1 = .ok (.iload_n 1, 1) := by decide +kernel
theorem d18_2 : decode jdk_65_method_119_code 2 = .ok (.aload_n 0, 1) := by decide +kernel
theorem d18_3 : decode jdk_65_method_119_code 3 = .ok (.invokevirtual 86, 3) := by decide +kernel
theorem d18_6 : decode jdk_65_method_119_code 6 = .ok (.invokestatic 300, 3) := by decide +kernel
theorem pd_5 : parseMethodDescriptor "([Ljava/lang/Object;ILjava/lang/Class;)[Ljava/lang/Object;" = some ⟨[(.array (.object "java/lang/Object")), .int, (.object "java/lang/Class")], some (.array (.object "java/lang/Object"))⟩ := by decide +kernel
theorem d18_9 : decode jdk_65_method_119_code 9 = .ok (.areturn, 1) := by decide +kernel
def Q181 (Z : State) (a1 : Addr) (k : ClassId) (x0 : Addr) (w_EMPTY_ELEMENTDATA : Addr) (w_DEFAULTCAPACITY_EMPTY_ELEMENTDATA : Addr) (w_EMPTY : Addr) (w_EMPTY_LIST : Addr) (k_w_EMPTY_ELEMENTDATA : ClassId) (k_w_DEFAULTCAPACITY_EMPTY_ELEMENTDATA : ClassId) (w_mir : Addr) (w_els : Addr) (k_els : ClassId) (h0 : Heap) (n0 : Nat) (v : Option Value) (h : Heap) : Prop :=
  (∃ (b2 : Addr) (k2 : ClassId), v = some (.ref b2) ∧ Keep h0 h [] ∧ Arv Z h b2 k2 (.object "java/lang/Object") ((0 : Int32) + (1 : Int32)) [(.ref x0)] .null ∧ Exa Z h b2 "[Ljava/lang/Object;" ∧ h0.size ≤ b2)
theorem ef_181 (m : MethodId) (a1 : Addr) : entryFrame m #[(.ref a1), (.int ((0 : Int32) + (1 : Int32)))] 2 = mkF m 0 #[.val (.ref a1), .val (.int ((0 : Int32) + (1 : Int32)))] [] := by first | (simp [entryFrame, mkF, argsToLocals, Value.category]; done) | rfl
set_option maxRecDepth 65536 in
set_option maxHeartbeats 40000000 in
theorem rm181 (l : Launch) (Z : State) (a0 : Array Value) (hw : ∀ d ∈ tables_1, d.before a0 Z = true) (ws : List Jvm.Cond) (a1 : Addr) (k : ClassId) (x0 : Addr) (w_EMPTY_ELEMENTDATA : Addr) (w_DEFAULTCAPACITY_EMPTY_ELEMENTDATA : Addr) (w_EMPTY : Addr) (w_EMPTY_LIST : Addr) (k_w_EMPTY_ELEMENTDATA : ClassId) (k_w_DEFAULTCAPACITY_EMPTY_ELEMENTDATA : ClassId) (w_mir : Addr) (w_els : Addr) (k_els : ClassId) (h0 : Heap) (n0 : Nat) (O0 : Old Z n0 h0) (SF : Start Z w_EMPTY_ELEMENTDATA w_DEFAULTCAPACITY_EMPTY_ELEMENTDATA w_EMPTY w_EMPTY_LIST k_w_EMPTY_ELEMENTDATA k_w_DEFAULTCAPACITY_EMPTY_ELEMENTDATA w_mir w_els k_els) (f0 : Arv Z h0 a1 k (.object "java/lang/Object") (10 : Int32) [(.ref x0), .null, .null, .null, .null, .null, .null, .null, .null, .null] .null) (f1 : Exa Z h0 a1 "[Ljava/lang/Object;") (f2 : Exa Z h0 x0 "com/example/gantry/gantry/resolver/LocalCopy") :
    Meets l (⟨"java/util/Arrays", "copyOf", "([Ljava/lang/Object;I)[Ljava/lang/Object;"⟩ : MethodName) jdk_65_method_119_code 2 (some (.array (.object "java/lang/Object"))) ws ({ frames := 2, cells := 1, slots := 1, locals := 33 } : Room) ({ frames := 2, cells := 1, slots := 1, locals := 33 } : Room).cells ({ frames := 2, cells := 1, slots := 1, locals := 33 } : Room).slots Z #[(.ref a1), (.int ((0 : Int32) + (1 : Int32)))] h0 n0 (Q181 Z a1 k x0 w_EMPTY_ELEMENTDATA w_DEFAULTCAPACITY_EMPTY_ELEMENTDATA w_EMPTY w_EMPTY_LIST k_w_EMPTY_ELEMENTDATA k_w_DEFAULTCAPACITY_EMPTY_ELEMENTDATA w_mir w_els k_els h0 n0) := by
  refine Meets.of (F := fun m => mkF m 0 #[.val (.ref a1), .val (.int ((0 : Int32) + (1 : Int32)))] []) (plainFor_of_name pn_9) (fun m => ef_181 m a1) ?_
  intro p e s m below meth c T0 hx hby hml hown0 hnm hret hlk hZ X0 e0
  have hown : s.vm.findClass "java/util/Arrays" = some m.cls := hown0
  have N0 := Fr.nil n0
  have KC0 := Keep.refl h0 []
  obtain ⟨z0, z1, z2, z3, z4, z5, z6, z7, z8, z9, z10, z11, zm, z13, z14, -⟩ := SF
  show Goes _ _ _ _ _ _ (T0.setTop (mkF m 0 #[.val (.ref a1), .val (.int ((0 : Int32) + (1 : Int32)))] []))
  refine own_aloadN X0 hx (hb hby d18_0) rfl rfl ?_
  refine own_iloadN X0 hx (hb hby d18_1) rfl ?_
  refine own_aloadN X0 hx (hb hby d18_2) rfl rfl ?_
  refine own_gcls X0 hx hZ hown (hw _ (List.mem_of_getElem? (i := 134) rfl)) (hw _ (List.mem_of_getElem? (i := 135) rfl)) (hw _ (List.mem_of_getElem? (i := 111) rfl)) (hw _ (List.mem_of_getElem? (i := 137) rfl)) (hw _ (List.mem_of_getElem? (i := 136) rfl)) (hw _ (List.mem_of_getElem? (i := 138) rfl)) e0 f1 zm (by rw [hml]; rfl) (hb hby d18_3) (by decide) (W := 2) (Nat.le_of_eq rfl) (by decide) (fun T1 X1 e1 => ?_)
  refine own_callS X1 hx hZ hown (y := (⟨"java/util/Arrays", "copyOf", "([Ljava/lang/Object;ILjava/lang/Class;)[Ljava/lang/Object;"⟩ : MethodName)) (hw _ (List.mem_of_getElem? (i := 140) rfl)) (hw _ (List.mem_of_getElem? (i := 141) rfl)) (hw _ (List.mem_of_getElem? (i := 132) rfl)) (hw _ (List.mem_of_getElem? (i := 142) rfl)) (by decide) (W := 0) (by decide) (by decide) N0 e1 (by rw [hml]; rfl) (argsL := [(.ref a1), (.int ((0 : Int32) + (1 : Int32))), (.ref w_mir)]) (rest := []) (lenOf pd_5 rfl) (Nat.le_of_eq rfl) (by decide) (by decide) (rm191 l Z a0 hw [] a1 k x0 w_EMPTY_ELEMENTDATA w_DEFAULTCAPACITY_EMPTY_ELEMENTDATA w_EMPTY w_EMPTY_LIST k_w_EMPTY_ELEMENTDATA k_w_DEFAULTCAPACITY_EMPTY_ELEMENTDATA w_mir w_els k_els h0 n0 O0 ⟨z0, z1, z2, z3, z4, z5, z6, z7, z8, z9, z10, z11, zm, z13, z14, trivial⟩ f0 f1 f2) rfl (hb hby d18_6) ?_
  intro v2 T2 lc2 X2 N2 hQ2
  obtain ⟨b2_2, k2_2, rfl, K2, r2_0, r2_1, r2_2⟩ := hQ2
  have O3 := O0.keep K2 all0
  have KC3 := KC0.trans K2 all0
  have ge_b2_2 : n0 ≤ b2_2 := Nat.le_trans (own_sz O0) r2_2
  have sz_b2_2 : h0.size ≤ b2_2 := Nat.le_trans KC0.1 r2_2
  show Goes _ _ _ _ _ _ (T2.setTop (mkF m 9 #[.val (.ref a1), .val (.int ((0 : Int32) + (1 : Int32)))] [(.ref b2_2)]))
  exact own_retR X2 hx N2 hlk (by decide) (by decide) hret rfl rfl rfl (hb hby d18_9) (⟨b2_2, k2_2, rfl, KC3, r2_0, r2_1, sz_b2_2⟩)
theorem d17_0 : decode jdk_38_method_16_code 0 = .ok (.aload_n 0, 1) := by decide +kernel
theorem d17_1 : decode jdk_38_method_16_code 1 = .ok (.getfield 9, 3) := by decide +kernel
theorem d17_4 : decode jdk_38_method_16_code 4 = .ok (.aload_n 0, 1) := by decide +kernel
theorem d17_5 : decode jdk_38_method_16_code 5 = .ok (.getfield 48, 3) := by decide +kernel
theorem d17_8 : decode jdk_38_method_16_code 8 = .ok (.invokestatic 66, 3) := by decide +kernel
theorem pd_6 : parseMethodDescriptor "([Ljava/lang/Object;I)[Ljava/lang/Object;" = some ⟨[(.array (.object "java/lang/Object")), .int], some (.array (.object "java/lang/Object"))⟩ := by decide +kernel
theorem d17_11 : decode jdk_38_method_16_code 11 = .ok (.areturn, 1) := by decide +kernel
def Q171 (Z : State) (a1 : Addr) (b : Addr) (k : ClassId) (x0 : Addr) (w_EMPTY_ELEMENTDATA : Addr) (w_DEFAULTCAPACITY_EMPTY_ELEMENTDATA : Addr) (w_EMPTY : Addr) (w_EMPTY_LIST : Addr) (k_w_EMPTY_ELEMENTDATA : ClassId) (k_w_DEFAULTCAPACITY_EMPTY_ELEMENTDATA : ClassId) (w_mir : Addr) (w_els : Addr) (k_els : ClassId) (h0 : Heap) (n0 : Nat) (v : Option Value) (h : Heap) : Prop :=
  (∃ (b2 : Addr) (k2 : ClassId), v = some (.ref b2) ∧ Keep h0 h [] ∧ Arv Z h b2 k2 (.object "java/lang/Object") ((0 : Int32) + (1 : Int32)) [(.ref x0)] .null ∧ Exa Z h b2 "[Ljava/lang/Object;" ∧ h0.size ≤ b2)
theorem ef_171 (m : MethodId) (a1 : Addr) : entryFrame m #[(.ref a1)] 1 = mkF m 0 #[.val (.ref a1)] [] := by first | (simp [entryFrame, mkF, argsToLocals, Value.category]; done) | rfl
set_option maxRecDepth 65536 in
set_option maxHeartbeats 40000000 in
theorem rm171 (l : Launch) (Z : State) (a0 : Array Value) (hw : ∀ d ∈ tables_1, d.before a0 Z = true) (ws : List Jvm.Cond) (a1 : Addr) (b : Addr) (k : ClassId) (x0 : Addr) (w_EMPTY_ELEMENTDATA : Addr) (w_DEFAULTCAPACITY_EMPTY_ELEMENTDATA : Addr) (w_EMPTY : Addr) (w_EMPTY_LIST : Addr) (k_w_EMPTY_ELEMENTDATA : ClassId) (k_w_DEFAULTCAPACITY_EMPTY_ELEMENTDATA : ClassId) (w_mir : Addr) (w_els : Addr) (k_els : ClassId) (h0 : Heap) (n0 : Nat) (O0 : Old Z n0 h0) (SF : Start Z w_EMPTY_ELEMENTDATA w_DEFAULTCAPACITY_EMPTY_ELEMENTDATA w_EMPTY w_EMPTY_LIST k_w_EMPTY_ELEMENTDATA k_w_DEFAULTCAPACITY_EMPTY_ELEMENTDATA w_mir w_els k_els) (f0 : Exa Z h0 a1 "java/util/ArrayList") (f1 : Fld Z h0 a1 "java/util/ArrayList" "elementData" "[Ljava/lang/Object;" (.ref b)) (f2 : Fld Z h0 a1 "java/util/ArrayList" "size" "I" (.int ((0 : Int32) + (1 : Int32)))) (f3 : Arv Z h0 b k (.object "java/lang/Object") (10 : Int32) [(.ref x0), .null, .null, .null, .null, .null, .null, .null, .null, .null] .null) (f4 : Exa Z h0 b "[Ljava/lang/Object;") (f5 : Exa Z h0 x0 "com/example/gantry/gantry/resolver/LocalCopy") :
    Meets l (⟨"java/util/ArrayList", "toArray", "()[Ljava/lang/Object;"⟩ : MethodName) jdk_38_method_16_code 1 (some (.array (.object "java/lang/Object"))) ws ({ frames := 3, cells := 1, slots := 1, locals := 46 } : Room) ({ frames := 3, cells := 1, slots := 1, locals := 46 } : Room).cells ({ frames := 3, cells := 1, slots := 1, locals := 46 } : Room).slots Z #[(.ref a1)] h0 n0 (Q171 Z a1 b k x0 w_EMPTY_ELEMENTDATA w_DEFAULTCAPACITY_EMPTY_ELEMENTDATA w_EMPTY w_EMPTY_LIST k_w_EMPTY_ELEMENTDATA k_w_DEFAULTCAPACITY_EMPTY_ELEMENTDATA w_mir w_els k_els h0 n0) := by
  refine Meets.of (F := fun m => mkF m 0 #[.val (.ref a1)] []) (plainFor_of_name pn_5) (fun m => ef_171 m a1) ?_
  intro p e s m below meth c T0 hx hby hml hown0 hnm hret hlk hZ X0 e0
  have hown : s.vm.findClass "java/util/ArrayList" = some m.cls := hown0
  have N0 := Fr.nil n0
  have KC0 := Keep.refl h0 []
  obtain ⟨z0, z1, z2, z3, z4, z5, z6, z7, z8, z9, z10, z11, zm, z13, z14, -⟩ := SF
  show Goes _ _ _ _ _ _ (T0.setTop (mkF m 0 #[.val (.ref a1)] []))
  refine own_aloadN X0 hx (hb hby d17_0) rfl rfl ?_
  refine own_getF X0 hx hZ hown (host := "") (Or.inl (hw _ (List.mem_of_getElem? (i := 47) rfl))) Via.refl e0 f1 (hb hby d17_1) (fun T1 X1 e1 => ?_)
  refine own_aloadN X1 hx (hb hby d17_4) rfl rfl ?_
  refine own_getF X1 hx hZ hown (host := "") (Or.inl (hw _ (List.mem_of_getElem? (i := 56) rfl))) Via.refl e1 f2 (hb hby d17_5) (fun T2 X2 e2 => ?_)
  refine own_callS X2 hx hZ hown (y := (⟨"java/util/Arrays", "copyOf", "([Ljava/lang/Object;I)[Ljava/lang/Object;"⟩ : MethodName)) (hw _ (List.mem_of_getElem? (i := 130) rfl)) (hw _ (List.mem_of_getElem? (i := 131) rfl)) (hw _ (List.mem_of_getElem? (i := 132) rfl)) (hw _ (List.mem_of_getElem? (i := 133) rfl)) (by decide) (W := 0) (by decide) (by decide) N0 e2 (by rw [hml]; rfl) (argsL := [(.ref b), (.int ((0 : Int32) + (1 : Int32)))]) (rest := []) (lenOf pd_6 rfl) (Nat.le_of_eq rfl) (by decide) (by decide) (rm181 l Z a0 hw [] b k x0 w_EMPTY_ELEMENTDATA w_DEFAULTCAPACITY_EMPTY_ELEMENTDATA w_EMPTY w_EMPTY_LIST k_w_EMPTY_ELEMENTDATA k_w_DEFAULTCAPACITY_EMPTY_ELEMENTDATA w_mir w_els k_els h0 n0 O0 ⟨z0, z1, z2, z3, z4, z5, z6, z7, z8, z9, z10, z11, zm, z13, z14, trivial⟩ f3 f4 f5) rfl (hb hby d17_8) ?_
  intro v3 T3 lc3 X3 N3 hQ3
  obtain ⟨b2_3, k2_3, rfl, K3, r3_0, r3_1, r3_2⟩ := hQ3
  have O4 := O0.keep K3 all0
  have KC4 := KC0.trans K3 all0
  have ge_b2_3 : n0 ≤ b2_3 := Nat.le_trans (own_sz O0) r3_2
  have sz_b2_3 : h0.size ≤ b2_3 := Nat.le_trans KC0.1 r3_2
  show Goes _ _ _ _ _ _ (T3.setTop (mkF m 11 #[.val (.ref a1)] [(.ref b2_3)]))
  exact own_retR X3 hx N3 hlk (by decide) (by decide) hret rfl rfl rfl (hb hby d17_11) (⟨b2_3, k2_3, rfl, KC4, r3_0, r3_1, sz_b2_3⟩)
theorem d22_0 : decode jdk_44_method_1_code 0 = .ok (.aload_n 0, 1) := by decide +kernel
theorem d22_1 : decode jdk_44_method_1_code 1 = .ok (.invokespecial 1, 3) := by decide +kernel
theorem d22_4 : decode jdk_44_method_1_code 4 = .ok (.aload_n 0, 1) := by decide +kernel
theorem d22_5 : decode jdk_44_method_1_code 5 = .ok (.aload_n 1, 1) := by decide +kernel
theorem d22_6 : decode jdk_44_method_1_code 6 = .ok (.invokestatic 7, 3) := by decide +kernel
theorem pd_7 : parseMethodDescriptor "(Ljava/lang/Object;)Ljava/lang/Object;" = some ⟨[(.object "java/lang/Object")], some (.object "java/lang/Object")⟩ := by decide +kernel
theorem d22_9 : decode jdk_44_method_1_code 9 = .ok (.putfield 13, 3) := by decide +kernel
theorem d22_12 : decode jdk_44_method_1_code 12 = .ok (.aload_n 0, 1) := by decide +kernel
theorem d22_13 : decode jdk_44_method_1_code 13 = .ok (.getstatic 19, 3) := by decide +kernel
theorem d22_16 : decode jdk_44_method_1_code 16 = .ok (.putfield 24, 3) := by decide +kernel
theorem d22_19 : decode jdk_44_method_1_code 19 = .ok (.return_, 1) := by decide +kernel
theorem pn_10 : plainName "java/util/ImmutableCollections$List12" = true := by first | (simp [plainName, overriddenIn]; done) | decide +kernel
def Q22 (Z : State) (a1 : Addr) (a2 : Addr) (u1 : Value) (u2 : Value) (w_EMPTY_ELEMENTDATA : Addr) (w_DEFAULTCAPACITY_EMPTY_ELEMENTDATA : Addr) (w_EMPTY : Addr) (w_EMPTY_LIST : Addr) (k_w_EMPTY_ELEMENTDATA : ClassId) (k_w_DEFAULTCAPACITY_EMPTY_ELEMENTDATA : ClassId) (w_mir : Addr) (w_els : Addr) (k_els : ClassId) (h0 : Heap) (n0 : Nat) (v : Option Value) (h : Heap) : Prop :=
  (v = none ∧ Keep h0 h [a1] ∧ Exa Z h a1 "java/util/ImmutableCollections$List12" ∧ Fld Z h a1 "java/util/ImmutableCollections$List12" "e0" "Ljava/lang/Object;" (.ref a2) ∧ Fld Z h a1 "java/util/ImmutableCollections$List12" "e1" "Ljava/lang/Object;" (.ref w_EMPTY))
theorem ef_22 (m : MethodId) (a1 : Addr) (a2 : Addr) : entryFrame m #[(.ref a1), (.ref a2)] 2 = mkF m 0 #[.val (.ref a1), .val (.ref a2)] [] := by first | (simp [entryFrame, mkF, argsToLocals, Value.category]; done) | rfl
set_option maxRecDepth 65536 in
set_option maxHeartbeats 40000000 in
theorem rm22 (l : Launch) (Z : State) (a0 : Array Value) (hw : ∀ d ∈ tables_1, d.before a0 Z = true) (ws : List Jvm.Cond) (a1 : Addr) (a2 : Addr) (u1 : Value) (u2 : Value) (w_EMPTY_ELEMENTDATA : Addr) (w_DEFAULTCAPACITY_EMPTY_ELEMENTDATA : Addr) (w_EMPTY : Addr) (w_EMPTY_LIST : Addr) (k_w_EMPTY_ELEMENTDATA : ClassId) (k_w_DEFAULTCAPACITY_EMPTY_ELEMENTDATA : ClassId) (w_mir : Addr) (w_els : Addr) (k_els : ClassId) (h0 : Heap) (n0 : Nat) (O0 : Old Z n0 h0) (SF : Start Z w_EMPTY_ELEMENTDATA w_DEFAULTCAPACITY_EMPTY_ELEMENTDATA w_EMPTY w_EMPTY_LIST k_w_EMPTY_ELEMENTDATA k_w_DEFAULTCAPACITY_EMPTY_ELEMENTDATA w_mir w_els k_els) (f0 : Exa Z h0 a1 "java/util/ImmutableCollections$List12") (f1 : Fld Z h0 a1 "java/util/ImmutableCollections$List12" "e0" "Ljava/lang/Object;" u1) (f2 : Fld Z h0 a1 "java/util/ImmutableCollections$List12" "e1" "Ljava/lang/Object;" u2) (f3 : n0 ≤ a1) :
    Meets l (⟨"java/util/ImmutableCollections$List12", "<init>", "(Ljava/lang/Object;)V"⟩ : MethodName) jdk_44_method_1_code 2 none ws ({ frames := 4, cells := 0, slots := 0, locals := 48 } : Room) ({ frames := 4, cells := 0, slots := 0, locals := 48 } : Room).cells ({ frames := 4, cells := 0, slots := 0, locals := 48 } : Room).slots Z #[(.ref a1), (.ref a2)] h0 n0 (Q22 Z a1 a2 u1 u2 w_EMPTY_ELEMENTDATA w_DEFAULTCAPACITY_EMPTY_ELEMENTDATA w_EMPTY w_EMPTY_LIST k_w_EMPTY_ELEMENTDATA k_w_DEFAULTCAPACITY_EMPTY_ELEMENTDATA w_mir w_els k_els h0 n0) := by
  refine Meets.of (F := fun m => mkF m 0 #[.val (.ref a1), .val (.ref a2)] []) (plainFor_of_name pn_10) (fun m => ef_22 m a1 a2) ?_
  intro p e s m below meth c T0 hx hby hml hown0 hnm hret hlk hZ X0 e0
  have hown : s.vm.findClass "java/util/ImmutableCollections$List12" = some m.cls := hown0
  have N0 := Fr.nil n0
  have KC0 := Keep.refl h0 [a1]
  obtain ⟨z0, z1, z2, z3, z4, z5, z6, z7, z8, z9, z10, z11, zm, z13, z14, -⟩ := SF
  show Goes _ _ _ _ _ _ (T0.setTop (mkF m 0 #[.val (.ref a1), .val (.ref a2)] []))
  refine own_aloadN X0 hx (hb hby d22_0) rfl rfl ?_
  refine own_special X0 hx hZ hown (y := (⟨"java/util/ImmutableCollections$AbstractImmutableList", "<init>", "()V"⟩ : MethodName)) rfl (hw _ (List.mem_of_getElem? (i := 162) rfl)) (hw _ (List.mem_of_getElem? (i := 163) rfl)) (hw _ (List.mem_of_getElem? (i := 166) rfl)) (hw _ (List.mem_of_getElem? (i := 167) rfl)) (a := a1) (by decide) (W := 0) (by decide) (by decide) N0 e0 (by rw [hml]; rfl) (argsL := []) (rest := []) (lenOf pd_0 rfl) (Nat.le_of_eq rfl) (by decide) (by decide) (rm23 l Z a0 hw [] a1 h0 n0 O0) rfl (hb hby d22_1) ?_
  intro v1 T1 lc1 X1 N1 hQ1
  obtain ⟨rfl, e1⟩ := hQ1
  refine own_aloadN X1 hx (hb hby d22_4) rfl rfl ?_
  refine own_aloadN X1 hx (hb hby d22_5) rfl rfl ?_
  refine own_callS X1 hx hZ hown (y := (⟨"java/util/Objects", "requireNonNull", "(Ljava/lang/Object;)Ljava/lang/Object;"⟩ : MethodName)) (hw _ (List.mem_of_getElem? (i := 176) rfl)) (hw _ (List.mem_of_getElem? (i := 177) rfl)) (hw _ (List.mem_of_getElem? (i := 178) rfl)) (hw _ (List.mem_of_getElem? (i := 179) rfl)) (by decide) (W := 1) (by decide) (by decide) N1 e1 (by rw [hml]; rfl) (argsL := [(.ref a2)]) (rest := [(.ref a1)]) (lenOf pd_7 rfl) (Nat.le_of_eq rfl) (by decide) (by decide) (rm25 l Z a0 hw [] a2 h0 n0 O0) rfl (hb hby d22_6) ?_
  intro v2 T2 lc2 X2 N2 hQ2
  obtain ⟨rfl, e2⟩ := hQ2
  refine own_putF X2 hx hZ hown N2 (host := "") (Or.inl (hw _ (List.mem_of_getElem? (i := 180) rfl))) Via.refl e2 f1 f0 (Or.inr ⟨(hw _ (List.mem_of_getElem? (i := 181) rfl)), rfl, hnm⟩) (hw _ (List.mem_of_getElem? (i := 156) rfl)) (ty := (.object "java/lang/Object")) (by decide) rfl rfl f3 (hb hby d22_9) (fun T3 h3 lc3 X3 e3 N3 W3 => ?_)
  have E4_a1 := f0.wr W3
  have F4_e0_a1 := f1.same W3
  have F4_e1_a1 := f2.other W3 (Or.inr (slot_ne (Or.inr (hw _ (List.mem_of_getElem? (i := 184) rfl))) (Or.inr (hw _ (List.mem_of_getElem? (i := 181) rfl))) (by decide) (t := (.object "java/lang/Object")) (t' := (.object "java/lang/Object")) (by decide) (by decide)))
  have O4 := O0.wr W3 f3
  have KC4 := KC0.wr W3 (Or.inl (List.mem_of_getElem? (i := 0) rfl))
  refine own_aloadN X3 hx (hb hby d22_12) rfl rfl ?_
  refine own_getS X3 hx hZ hown (Or.inr (hw _ (List.mem_of_getElem? (i := 182) rfl))) Via.refl e3 (z4.ext O4.2) (hb hby d22_13) (fun T5 X5 e5 => ?_)
  refine own_putF X5 hx hZ hown N3 (host := "") (Or.inl (hw _ (List.mem_of_getElem? (i := 183) rfl))) Via.refl e5 F4_e1_a1 E4_a1 (Or.inr ⟨(hw _ (List.mem_of_getElem? (i := 184) rfl)), rfl, hnm⟩) (hw _ (List.mem_of_getElem? (i := 156) rfl)) (ty := (.object "java/lang/Object")) (by decide) rfl rfl f3 (hb hby d22_16) (fun T6 h6 lc6 X6 e6 N6 W6 => ?_)
  have E7_a1 := E4_a1.wr W6
  have F7_e0_a1 := F4_e0_a1.other W6 (Or.inr (slot_ne (Or.inr (hw _ (List.mem_of_getElem? (i := 181) rfl))) (Or.inr (hw _ (List.mem_of_getElem? (i := 184) rfl))) (by decide) (t := (.object "java/lang/Object")) (t' := (.object "java/lang/Object")) (by decide) (by decide)))
  have F7_e1_a1 := F4_e1_a1.same W6
  have O7 := O4.wr W6 f3
  have KC7 := KC4.wr W6 (Or.inl (List.mem_of_getElem? (i := 0) rfl))
  show Goes _ _ _ _ _ _ (T6.setTop (mkF m 19 #[.val (.ref a1), .val (.ref a2)] []))
  exact own_retV X6 hx N6 hlk (by decide) (by decide) hret (hb hby d22_19) (by rw [e6]; exact ⟨rfl, KC7, E7_a1, F7_e0_a1, F7_e1_a1⟩)
theorem d21_0 : decode jdk_40_method_47_code 0 = .ok (.aload_n 0, 1) := by decide +kernel
theorem d21_1 : decode jdk_40_method_47_code 1 = .ok (.arraylength, 1) := by decide +kernel
theorem d21_2 : decode jdk_40_method_47_code 2 = .ok (.tableswitch 57 0 2 #[26, 32, 43], 26) := by decide +kernel
theorem d21_34 : decode jdk_40_method_47_code 34 = .ok (.new 96, 3) := by decide +kernel
theorem d21_37 : decode jdk_40_method_47_code 37 = .ok (.dup, 1) := by decide +kernel
theorem d21_38 : decode jdk_40_method_47_code 38 = .ok (.aload_n 0, 1) := by decide +kernel
theorem d21_39 : decode jdk_40_method_47_code 39 = .ok (.iconst 0, 1) := by decide +kernel
theorem d21_40 : decode jdk_40_method_47_code 40 = .ok (.aaload, 1) := by decide +kernel
theorem d21_41 : decode jdk_40_method_47_code 41 = .ok (.invokespecial 98, 3) := by decide +kernel
theorem pd_8 : parseMethodDescriptor "(Ljava/lang/Object;)V" = some ⟨[(.object "java/lang/Object")], none⟩ := by decide +kernel
theorem d21_44 : decode jdk_40_method_47_code 44 = .ok (.areturn, 1) := by decide +kernel
theorem pn_11 : plainName "java/util/List" = true := by first | (simp [plainName, overriddenIn]; done) | decide +kernel
def Q211 (Z : State) (a1 : Addr) (k : ClassId) (x0 : Addr) (w_EMPTY_ELEMENTDATA : Addr) (w_DEFAULTCAPACITY_EMPTY_ELEMENTDATA : Addr) (w_EMPTY : Addr) (w_EMPTY_LIST : Addr) (k_w_EMPTY_ELEMENTDATA : ClassId) (k_w_DEFAULTCAPACITY_EMPTY_ELEMENTDATA : ClassId) (w_mir : Addr) (w_els : Addr) (k_els : ClassId) (h0 : Heap) (n0 : Nat) (v : Option Value) (h : Heap) : Prop :=
  (∃ (t : Addr), v = some (.ref t) ∧ Keep h0 h [] ∧ Exa Z h t "java/util/ImmutableCollections$List12" ∧ Fld Z h t "java/util/ImmutableCollections$List12" "e0" "Ljava/lang/Object;" (.ref x0) ∧ Fld Z h t "java/util/ImmutableCollections$List12" "e1" "Ljava/lang/Object;" (.ref w_EMPTY) ∧ h0.size ≤ t)
theorem ef_211 (m : MethodId) (a1 : Addr) : entryFrame m #[(.ref a1)] 2 = mkF m 0 #[.val (.ref a1), .unset] [] := by first | (simp [entryFrame, mkF, argsToLocals, Value.category]; done) | rfl
set_option maxRecDepth 65536 in
set_option maxHeartbeats 40000000 in
theorem rm211 (l : Launch) (Z : State) (a0 : Array Value) (hw : ∀ d ∈ tables_1, d.before a0 Z = true) (ws : List Jvm.Cond) (a1 : Addr) (k : ClassId) (x0 : Addr) (w_EMPTY_ELEMENTDATA : Addr) (w_DEFAULTCAPACITY_EMPTY_ELEMENTDATA : Addr) (w_EMPTY : Addr) (w_EMPTY_LIST : Addr) (k_w_EMPTY_ELEMENTDATA : ClassId) (k_w_DEFAULTCAPACITY_EMPTY_ELEMENTDATA : ClassId) (w_mir : Addr) (w_els : Addr) (k_els : ClassId) (h0 : Heap) (n0 : Nat) (O0 : Old Z n0 h0) (SF : Start Z w_EMPTY_ELEMENTDATA w_DEFAULTCAPACITY_EMPTY_ELEMENTDATA w_EMPTY w_EMPTY_LIST k_w_EMPTY_ELEMENTDATA k_w_DEFAULTCAPACITY_EMPTY_ELEMENTDATA w_mir w_els k_els) (f0 : Arv Z h0 a1 k (.object "java/lang/Object") ((0 : Int32) + (1 : Int32)) [(.ref x0)] .null) (f1 : Exa Z h0 x0 "com/example/gantry/gantry/resolver/LocalCopy") :
    Meets l (⟨"java/util/List", "of", "([Ljava/lang/Object;)Ljava/util/List;"⟩ : MethodName) jdk_40_method_47_code 2 (some (.object "java/util/List")) ws ({ frames := 5, cells := 1, slots := 2, locals := 62 } : Room) ({ frames := 5, cells := 1, slots := 2, locals := 62 } : Room).cells ({ frames := 5, cells := 1, slots := 2, locals := 62 } : Room).slots Z #[(.ref a1)] h0 n0 (Q211 Z a1 k x0 w_EMPTY_ELEMENTDATA w_DEFAULTCAPACITY_EMPTY_ELEMENTDATA w_EMPTY w_EMPTY_LIST k_w_EMPTY_ELEMENTDATA k_w_DEFAULTCAPACITY_EMPTY_ELEMENTDATA w_mir w_els k_els h0 n0) := by
  refine Meets.of (F := fun m => mkF m 0 #[.val (.ref a1), .unset] []) (plainFor_of_name pn_11) (fun m => ef_211 m a1) ?_
  intro p e s m below meth c T0 hx hby hml hown0 hnm hret hlk hZ X0 e0
  have hown : s.vm.findClass "java/util/List" = some m.cls := hown0
  have N0 := Fr.nil n0
  have KC0 := Keep.refl h0 []
  obtain ⟨z0, z1, z2, z3, z4, z5, z6, z7, z8, z9, z10, z11, zm, z13, z14, -⟩ := SF
  show Goes _ _ _ _ _ _ (T0.setTop (mkF m 0 #[.val (.ref a1), .unset] []))
  refine own_aloadN X0 hx (hb hby d21_0) rfl rfl ?_
  refine own_alen X0 hx hZ e0 f0 (hb hby d21_1) ?_
  refine own_tswIn X0 hx (pc' := 34) (hb hby d21_2) (by decide) (o := 32) (by decide) (by decide) (by decide) ?_
  refine own_new X0 hx hZ hown (hw _ (List.mem_of_getElem? (i := 155) rfl)) (hw _ (List.mem_of_getElem? (i := 156) rfl)) (hw _ (List.mem_of_getElem? (i := 157) rfl)) e0 (hb hby d21_34) (by decide) (by decide) (fun T1 h1 b1 g1 X1 e1 E1 A1 D1 => ?_)
  have ge_b1 : n0 ≤ b1 := Nat.le_trans (own_sz O0) (Nat.le_of_eq g1.symm)
  have sz_b1 : h0.size ≤ b1 := Nat.le_trans KC0.1 (Nat.le_of_eq g1.symm)
  have A2_a1 := f0.ext E1
  have O2 := O0.ext E1
  have KC2 := KC0.ext E1
  have F1_e0_b1 : Fld Z h1 b1 "java/util/ImmutableCollections$List12" "e0" "Ljava/lang/Object;" .null := D1 (Or.inr (hw _ (List.mem_of_getElem? (i := 181) rfl))) (ty := (.object "java/lang/Object")) (by decide)
  have F1_e1_b1 : Fld Z h1 b1 "java/util/ImmutableCollections$List12" "e1" "Ljava/lang/Object;" .null := D1 (Or.inr (hw _ (List.mem_of_getElem? (i := 184) rfl))) (ty := (.object "java/lang/Object")) (by decide)
  refine own_dup X1 hx (hb hby d21_37) rfl ?_
  refine own_aloadN X1 hx (hb hby d21_38) rfl rfl ?_
  refine own_iconst X1 hx (v := (0 : Int32)) (hb hby d21_39) rfl ?_
  show Goes _ _ _ _ _ _ (T1.setTop (mkF m 40 #[.val (.ref a1), .unset] [(.int (0 : Int32)), (.ref a1), (.ref b1), (.ref b1)]))
  refine own_aaload X1 hx hZ e1 A2_a1 rfl ⟨by decide, by decide⟩ (v := (.ref x0)) rfl (hb hby d21_40) ?_
  refine own_special X1 hx hZ hown (y := (⟨"java/util/ImmutableCollections$List12", "<init>", "(Ljava/lang/Object;)V"⟩ : MethodName)) rfl (hw _ (List.mem_of_getElem? (i := 158) rfl)) (hw _ (List.mem_of_getElem? (i := 159) rfl)) (hw _ (List.mem_of_getElem? (i := 157) rfl)) (hw _ (List.mem_of_getElem? (i := 161) rfl)) (a := b1) (by decide) (W := 1) (by decide) (by decide) N0 e1 (by rw [hml]; rfl) (argsL := [(.ref x0)]) (rest := [(.ref b1)]) (lenOf pd_8 rfl) (Nat.le_of_eq rfl) (by decide) (by decide) (rm22 l Z a0 hw [] b1 x0 (.null) (.null) w_EMPTY_ELEMENTDATA w_DEFAULTCAPACITY_EMPTY_ELEMENTDATA w_EMPTY w_EMPTY_LIST k_w_EMPTY_ELEMENTDATA k_w_DEFAULTCAPACITY_EMPTY_ELEMENTDATA w_mir w_els k_els h1 n0 O2 ⟨z0, z1, z2, z3, z4, z5, z6, z7, z8, z9, z10, z11, zm, z13, z14, trivial⟩ A1 F1_e0_b1 F1_e1_b1 ge_b1) rfl (hb hby d21_41) ?_
  intro v3 T3 lc3 X3 N3 hQ3
  obtain ⟨rfl, K3, r3_0, r3_1, r3_2⟩ := hQ3
  have O4 := O2.keep K3 (allS ge_b1 all0)
  have KC4 := KC2.trans K3 (allS (Or.inr sz_b1) all0)
  show Goes _ _ _ _ _ _ (T3.setTop (mkF m 44 #[.val (.ref a1), .unset] [(.ref b1)]))
  exact own_retR X3 hx N3 hlk (by decide) (by decide) hret rfl rfl rfl (hb hby d21_44) (⟨b1, rfl, KC4, r3_0, r3_1, r3_2, sz_b1⟩)
theorem d16_0 : decode jdk_38_method_9_code 0 = .ok (.aload_n 0, 1) := by decide +kernel
theorem d16_1 : decode jdk_38_method_9_code 1 = .ok (.getfield 48, 3) := by decide +kernel
theorem d16_4 : decode jdk_38_method_9_code 4 = .ok (.ifCond .ne 7, 3) := by decide +kernel
theorem d16_7 : decode jdk_38_method_9_code 7 = .ok (.iconst 1, 1) := by decide +kernel
theorem d16_8 : decode jdk_38_method_9_code 8 = .ok (.goto 4, 3) := by decide +kernel
theorem d16_12 : decode jdk_38_method_9_code 12 = .ok (.ireturn, 1) := by decide +kernel
theorem d16_11 : decode jdk_38_method_9_code 11 = .ok (.iconst 0, 1) := by decide +kernel
def Q16 (Z : State) (a1 : Addr) (n : Int32) (h0 : Heap) (n0 : Nat) (v : Option Value) (h : Heap) : Prop :=
  (v = some (.int (if n = (0 : Int32) then (1 : Int32) else (0 : Int32))) ∧ h = h0)
theorem ef_16 (m : MethodId) (a1 : Addr) : entryFrame m #[(.ref a1)] 1 = mkF m 0 #[.val (.ref a1)] [] := by first | (simp [entryFrame, mkF, argsToLocals, Value.category]; done) | rfl
set_option maxRecDepth 65536 in
set_option maxHeartbeats 40000000 in
theorem rm16 (l : Launch) (Z : State) (a0 : Array Value) (hw : ∀ d ∈ tables_1, d.before a0 Z = true) (ws : List Jvm.Cond) (a1 : Addr) (n : Int32) (h0 : Heap) (n0 : Nat) (O0 : Old Z n0 h0) (f0 : Fld Z h0 a1 "java/util/ArrayList" "size" "I" (.int n)) :
    Meets l (⟨"java/util/ArrayList", "isEmpty", "()Z"⟩ : MethodName) jdk_38_method_9_code 1 (some .boolean) ws ({ frames := 0, cells := 0, slots := 0, locals := 0 } : Room) ({ frames := 0, cells := 0, slots := 0, locals := 0 } : Room).cells ({ frames := 0, cells := 0, slots := 0, locals := 0 } : Room).slots Z #[(.ref a1)] h0 n0 (Q16 Z a1 n h0 n0) := by
  refine Meets.of (F := fun m => mkF m 0 #[.val (.ref a1)] []) (plainFor_of_name pn_5) (fun m => ef_16 m a1) ?_
  intro p e s m below meth c T0 hx hby hml hown0 hnm hret hlk hZ X0 e0
  have hown : s.vm.findClass "java/util/ArrayList" = some m.cls := hown0
  have N0 := Fr.nil n0
  show Goes _ _ _ _ _ _ (T0.setTop (mkF m 0 #[.val (.ref a1)] []))
  refine own_aloadN X0 hx (hb hby d16_0) rfl rfl ?_
  refine own_getF X0 hx hZ hown (host := "") (Or.inl (hw _ (List.mem_of_getElem? (i := 56) rfl))) Via.refl e0 f0 (hb hby d16_1) (fun T1 X1 e1 => ?_)
  by_cases hc4_2 : n = (0 : Int32)
  ·
    refine own_ifNo X1 hx (hb hby d16_4) ((if0 _ _).trans (teq (hc4_2 : n = (0 : Int32))).2) ?_
    refine own_iconst X1 hx (v := (1 : Int32)) (hb hby d16_7) rfl ?_
    refine own_goto X1 hx (pc' := 12) (hb hby d16_8) (by decide) (by decide) ?_
    show Goes _ _ _ _ _ _ (T1.setTop (mkF m 12 #[.val (.ref a1)] [(.int (1 : Int32))]))
    exact own_retN X1 hx (t := .boolean) N0 hlk (by decide) (by decide) hret (by simp) (hb hby d16_12) (by rw [e1]; exact ⟨(by first | rfl | (rw [if_pos (by assumption)]; rfl) | (rw [if_neg (by assumption)]; rfl) | simp_all), rfl⟩)
  ·
    refine own_ifYes X1 hx (pc' := 11) (hb hby d16_4) ((if0 _ _).trans (feq (hc4_2 : ¬ (n = (0 : Int32)))).2) (by decide) (by decide) ?_
    refine own_iconst X1 hx (v := (0 : Int32)) (hb hby d16_11) rfl ?_
    show Goes _ _ _ _ _ _ (T1.setTop (mkF m 12 #[.val (.ref a1)] [(.int (0 : Int32))]))
    exact own_retN X1 hx (t := .boolean) N0 hlk (by decide) (by decide) hret (by simp) (hb hby d16_12) (by rw [e1]; exact ⟨(by first | rfl | (rw [if_pos (by assumption)]; rfl) | (rw [if_neg (by assumption)]; rfl) | simp_all), rfl⟩)
theorem d15_0 : decode jdk_56_method_3_code 0 = .ok (.aload_n 0, 1) := by decide +kernel
theorem d15_1 : decode jdk_56_method_3_code 1 = .ok (.instanceof 10, 3) := by decide +kernel
theorem d15_4 : decode jdk_56_method_3_code 4 = .ok (.ifCond .ne 22, 3) := by decide +kernel
theorem d15_7 : decode jdk_56_method_3_code 7 = .ok (.aload_n 0, 1) := by decide +kernel
theorem d15_8 : decode jdk_56_method_3_code 8 = .ok (.instanceof 12, 3) := by decide +kernel
theorem d15_11 : decode jdk_56_method_3_code 11 = .ok (.ifCond .eq 20, 3) := by decide +kernel
theorem d15_31 : decode jdk_56_method_3_code 31 = .ok (.aload_n 0, 1) := by decide +kernel
theorem d15_32 : decode jdk_56_method_3_code 32 = .ok (.invokeinterface 20 1, 5) := by decide +kernel
theorem pd_9 : parseMethodDescriptor "()Z" = some ⟨[], some .boolean⟩ := by decide +kernel
theorem d15_37 : decode jdk_56_method_3_code 37 = .ok (.ifCond .eq 7, 3) := by decide +kernel
theorem d15_44 : decode jdk_56_method_3_code 44 = .ok (.aload_n 0, 1) := by decide +kernel
theorem d15_45 : decode jdk_56_method_3_code 45 = .ok (.invokeinterface 30 1, 5) := by decide +kernel
theorem d15_50 : decode jdk_56_method_3_code 50 = .ok (.invokestatic 34, 3) := by decide +kernel
theorem pd_10 : parseMethodDescriptor "([Ljava/lang/Object;)Ljava/util/List;" = some ⟨[(.array (.object "java/lang/Object"))], some (.object "java/util/List")⟩ := by decide +kernel
theorem d15_53 : decode jdk_56_method_3_code 53 = .ok (.areturn, 1) := by decide +kernel
theorem pn_12 : plainName "java/util/ImmutableCollections" = true := by first | (simp [plainName, overriddenIn]; done) | decide +kernel
def Q151 (Z : State) (a1 : Addr) (b : Addr) (k : ClassId) (x0 : Addr) (w_EMPTY_ELEMENTDATA : Addr) (w_DEFAULTCAPACITY_EMPTY_ELEMENTDATA : Addr) (w_EMPTY : Addr) (w_EMPTY_LIST : Addr) (k_w_EMPTY_ELEMENTDATA : ClassId) (k_w_DEFAULTCAPACITY_EMPTY_ELEMENTDATA : ClassId) (w_mir : Addr) (w_els : Addr) (k_els : ClassId) (h0 : Heap) (n0 : Nat) (v : Option Value) (h : Heap) : Prop :=
  (∃ (t : Addr), v = some (.ref t) ∧ Keep h0 h [] ∧ Exa Z h t "java/util/ImmutableCollections$List12" ∧ Fld Z h t "java/util/ImmutableCollections$List12" "e0" "Ljava/lang/Object;" (.ref x0) ∧ Fld Z h t "java/util/ImmutableCollections$List12" "e1" "Ljava/lang/Object;" (.ref w_EMPTY) ∧ h0.size ≤ t)
theorem ef_151 (m : MethodId) (a1 : Addr) : entryFrame m #[(.ref a1)] 2 = mkF m 0 #[.val (.ref a1), .unset] [] := by first | (simp [entryFrame, mkF, argsToLocals, Value.category]; done) | rfl
set_option maxRecDepth 65536 in
set_option maxHeartbeats 40000000 in
theorem rm151 (l : Launch) (Z : State) (a0 : Array Value) (hw : ∀ d ∈ tables_1, d.before a0 Z = true) (ws : List Jvm.Cond) (a1 : Addr) (b : Addr) (k : ClassId) (x0 : Addr) (w_EMPTY_ELEMENTDATA : Addr) (w_DEFAULTCAPACITY_EMPTY_ELEMENTDATA : Addr) (w_EMPTY : Addr) (w_EMPTY_LIST : Addr) (k_w_EMPTY_ELEMENTDATA : ClassId) (k_w_DEFAULTCAPACITY_EMPTY_ELEMENTDATA : ClassId) (w_mir : Addr) (w_els : Addr) (k_els : ClassId) (h0 : Heap) (n0 : Nat) (O0 : Old Z n0 h0) (SF : Start Z w_EMPTY_ELEMENTDATA w_DEFAULTCAPACITY_EMPTY_ELEMENTDATA w_EMPTY w_EMPTY_LIST k_w_EMPTY_ELEMENTDATA k_w_DEFAULTCAPACITY_EMPTY_ELEMENTDATA w_mir w_els k_els) (f0 : Exa Z h0 a1 "java/util/ArrayList") (f1 : Fld Z h0 a1 "java/util/ArrayList" "elementData" "[Ljava/lang/Object;" (.ref b)) (f2 : Fld Z h0 a1 "java/util/ArrayList" "size" "I" (.int ((0 : Int32) + (1 : Int32)))) (f3 : Arv Z h0 b k (.object "java/lang/Object") (10 : Int32) [(.ref x0), .null, .null, .null, .null, .null, .null, .null, .null, .null] .null) (f4 : Exa Z h0 b "[Ljava/lang/Object;") (f5 : Exa Z h0 x0 "com/example/gantry/gantry/resolver/LocalCopy") :
    Meets l (⟨"java/util/ImmutableCollections", "listCopy", "(Ljava/util/Collection;)Ljava/util/List;"⟩ : MethodName) jdk_56_method_3_code 2 (some (.object "java/util/List")) ws ({ frames := 6, cells := 2, slots := 3, locals := 75 } : Room) ({ frames := 6, cells := 2, slots := 3, locals := 75 } : Room).cells ({ frames := 6, cells := 2, slots := 3, locals := 75 } : Room).slots Z #[(.ref a1)] h0 n0 (Q151 Z a1 b k x0 w_EMPTY_ELEMENTDATA w_DEFAULTCAPACITY_EMPTY_ELEMENTDATA w_EMPTY w_EMPTY_LIST k_w_EMPTY_ELEMENTDATA k_w_DEFAULTCAPACITY_EMPTY_ELEMENTDATA w_mir w_els k_els h0 n0) := by
  refine Meets.of (F := fun m => mkF m 0 #[.val (.ref a1), .unset] []) (plainFor_of_name pn_12) (fun m => ef_151 m a1) ?_
  intro p e s m below meth c T0 hx hby hml hown0 hnm hret hlk hZ X0 e0
  have hown : s.vm.findClass "java/util/ImmutableCollections" = some m.cls := hown0
  have N0 := Fr.nil n0
  have KC0 := Keep.refl h0 []
  obtain ⟨z0, z1, z2, z3, z4, z5, z6, z7, z8, z9, z10, z11, zm, z13, z14, -⟩ := SF
  show Goes _ _ _ _ _ _ (T0.setTop (mkF m 0 #[.val (.ref a1), .unset] []))
  refine own_aloadN X0 hx (hb hby d15_0) rfl rfl ?_
  refine own_instN X0 hx hZ hown (hw _ (List.mem_of_getElem? (i := 107) rfl)) e0 f0 (own_NSno (hw _ (List.mem_of_getElem? (i := 108) rfl)) (hw _ (List.mem_of_getElem? (i := 156) rfl)) (NS.step (hw _ (List.mem_of_getElem? (i := 108) rfl)) (NS.step (hw _ (List.mem_of_getElem? (i := 109) rfl)) (NS.step (hw _ (List.mem_of_getElem? (i := 110) rfl)) (own_NSroot (hw _ (List.mem_of_getElem? (i := 111) rfl)) (hw _ (List.mem_of_getElem? (i := 156) rfl)) (by decide)) (by decide)) (by decide)) (by decide)) (by decide)) (hb hby d15_1) (fun T1 X1 e1 => ?_)
  refine own_ifNo X1 hx (hb hby d15_4) ((if0 _ _).trans (teq (by decide : (0 : Int32) = (0 : Int32))).2) ?_
  refine own_aloadN X1 hx (hb hby d15_7) rfl rfl ?_
  refine own_instN X1 hx hZ hown (hw _ (List.mem_of_getElem? (i := 112) rfl)) e1 f0 (own_NSno (hw _ (List.mem_of_getElem? (i := 108) rfl)) (hw _ (List.mem_of_getElem? (i := 260) rfl)) (NS.step (hw _ (List.mem_of_getElem? (i := 108) rfl)) (NS.step (hw _ (List.mem_of_getElem? (i := 109) rfl)) (NS.step (hw _ (List.mem_of_getElem? (i := 110) rfl)) (own_NSroot (hw _ (List.mem_of_getElem? (i := 111) rfl)) (hw _ (List.mem_of_getElem? (i := 260) rfl)) (by decide)) (by decide)) (by decide)) (by decide)) (by decide)) (hb hby d15_8) (fun T2 X2 e2 => ?_)
  refine own_ifYes X2 hx (pc' := 31) (hb hby d15_11) ((if0 _ _).trans (teq (by decide : (0 : Int32) = (0 : Int32))).1) (by decide) (by decide) ?_
  refine own_aloadN X2 hx (hb hby d15_31) rfl rfl ?_
  refine own_iface X2 hx hZ hown (y := (⟨"java/util/Collection", "isEmpty", "()Z"⟩ : MethodName)) (z := (⟨"java/util/ArrayList", "isEmpty", "()Z"⟩ : MethodName)) (hw _ (List.mem_of_getElem? (i := 113) rfl)) (hw _ (List.mem_of_getElem? (i := 114) rfl)) (hw _ (List.mem_of_getElem? (i := 115) rfl)) (hw _ (List.mem_of_getElem? (i := 116) rfl)) (hw _ (List.mem_of_getElem? (i := 117) rfl)) (hw _ (List.mem_of_getElem? (i := 118) rfl)) (hw _ (List.mem_of_getElem? (i := 119) rfl)) (hw _ (List.mem_of_getElem? (i := 120) rfl)) (hw _ (List.mem_of_getElem? (i := 27) rfl)) (hw _ (List.mem_of_getElem? (i := 121) rfl)) (a := a1) f0 (by decide) (W := 0) (by decide) (by decide) N0 e2 (by rw [hml]; rfl) (argsL := []) (rest := []) (lenOf pd_9 rfl) (Nat.le_of_eq rfl) (by decide) (by decide) (rm16 l Z a0 hw [] a1 ((0 : Int32) + (1 : Int32)) h0 n0 O0 f2) rfl (hb hby d15_32) ?_
  intro v3 T3 lc3 X3 N3 hQ3
  obtain ⟨rfl, e3⟩ := hQ3
  refine own_ifYes X3 hx (pc' := 44) (hb hby d15_37) ((if0 _ _).trans (teq ((own_bz (by decide)) : (if ((0 : Int32) + (1 : Int32)) = (0 : Int32) then (1 : Int32) else (0 : Int32)) = (0 : Int32))).1) (by decide) (by decide) ?_
  refine own_aloadN X3 hx (hb hby d15_44) rfl rfl ?_
  refine own_iface X3 hx hZ hown (y := (⟨"java/util/Collection", "toArray", "()[Ljava/lang/Object;"⟩ : MethodName)) (z := (⟨"java/util/ArrayList", "toArray", "()[Ljava/lang/Object;"⟩ : MethodName)) (hw _ (List.mem_of_getElem? (i := 122) rfl)) (hw _ (List.mem_of_getElem? (i := 123) rfl)) (hw _ (List.mem_of_getElem? (i := 124) rfl)) (hw _ (List.mem_of_getElem? (i := 125) rfl)) (hw _ (List.mem_of_getElem? (i := 126) rfl)) (hw _ (List.mem_of_getElem? (i := 127) rfl)) (hw _ (List.mem_of_getElem? (i := 128) rfl)) (hw _ (List.mem_of_getElem? (i := 120) rfl)) (hw _ (List.mem_of_getElem? (i := 27) rfl)) (hw _ (List.mem_of_getElem? (i := 129) rfl)) (a := a1) f0 (by decide) (W := 0) (by decide) (by decide) N3 e3 (by rw [hml]; rfl) (argsL := []) (rest := []) (lenOf pd_3 rfl) (Nat.le_of_eq rfl) (by decide) (by decide) (rm171 l Z a0 hw [] a1 b k x0 w_EMPTY_ELEMENTDATA w_DEFAULTCAPACITY_EMPTY_ELEMENTDATA w_EMPTY w_EMPTY_LIST k_w_EMPTY_ELEMENTDATA k_w_DEFAULTCAPACITY_EMPTY_ELEMENTDATA w_mir w_els k_els h0 n0 O0 ⟨z0, z1, z2, z3, z4, z5, z6, z7, z8, z9, z10, z11, zm, z13, z14, trivial⟩ f0 f1 f2 f3 f4 f5) rfl (hb hby d15_45) ?_
  intro v4 T4 lc4 X4 N4 hQ4
  obtain ⟨b2_4, k2_4, rfl, K4, r4_0, r4_1, r4_2⟩ := hQ4
  have E5_x0 := f5.keep K4
  have O5 := O0.keep K4 all0
  have KC5 := KC0.trans K4 all0
  have ge_b2_4 : n0 ≤ b2_4 := Nat.le_trans (own_sz O0) r4_2
  have sz_b2_4 : h0.size ≤ b2_4 := Nat.le_trans KC0.1 r4_2
  refine own_callS X4 hx hZ hown (y := (⟨"java/util/List", "of", "([Ljava/lang/Object;)Ljava/util/List;"⟩ : MethodName)) (hw _ (List.mem_of_getElem? (i := 152) rfl)) (hw _ (List.mem_of_getElem? (i := 153) rfl)) (hw _ (List.mem_of_getElem? (i := 101) rfl)) (hw _ (List.mem_of_getElem? (i := 154) rfl)) (by decide) (W := 0) (by decide) (by decide) N4 rfl (by rw [hml]; rfl) (argsL := [(.ref b2_4)]) (rest := []) (lenOf pd_10 rfl) (Nat.le_of_eq rfl) (by decide) (by decide) (rm211 l Z a0 hw [] b2_4 k2_4 x0 w_EMPTY_ELEMENTDATA w_DEFAULTCAPACITY_EMPTY_ELEMENTDATA w_EMPTY w_EMPTY_LIST k_w_EMPTY_ELEMENTDATA k_w_DEFAULTCAPACITY_EMPTY_ELEMENTDATA w_mir w_els k_els T4.heap n0 O5 ⟨z0, z1, z2, z3, z4, z5, z6, z7, z8, z9, z10, z11, zm, z13, z14, trivial⟩ r4_0 E5_x0) rfl (hb hby d15_50) ?_
  intro v6 T6 lc6 X6 N6 hQ6
  obtain ⟨t_6, rfl, K6, r6_0, r6_1, r6_2, r6_3⟩ := hQ6
  have O7 := O5.keep K6 all0
  have KC7 := KC5.trans K6 all0
  have ge_t_6 : n0 ≤ t_6 := Nat.le_trans (own_sz O5) r6_3
  have sz_t_6 : h0.size ≤ t_6 := Nat.le_trans KC5.1 r6_3
  show Goes _ _ _ _ _ _ (T6.setTop (mkF m 53 #[.val (.ref a1), .unset] [(.ref t_6)]))
  exact own_retR X6 hx N6 hlk (by decide) (by decide) hret rfl rfl rfl (hb hby d15_53) (⟨t_6, rfl, KC7, r6_0, r6_1, r6_2, sz_t_6⟩)
theorem d14_0 : decode jdk_40_method_48_code 0 = .ok (.aload_n 0, 1) := by decide +kernel
theorem d14_1 : decode jdk_40_method_48_code 1 = .ok (.invokestatic 112, 3) := by decide +kernel
theorem pd_11 : parseMethodDescriptor "(Ljava/util/Collection;)Ljava/util/List;" = some ⟨[(.object "java/util/Collection")], some (.object "java/util/List")⟩ := by decide +kernel
theorem d14_4 : decode jdk_40_method_48_code 4 = .ok (.areturn, 1) := by decide +kernel
def Q141 (Z : State) (a1 : Addr) (b : Addr) (k : ClassId) (x0 : Addr) (w_EMPTY_ELEMENTDATA : Addr) (w_DEFAULTCAPACITY_EMPTY_ELEMENTDATA : Addr) (w_EMPTY : Addr) (w_EMPTY_LIST : Addr) (k_w_EMPTY_ELEMENTDATA : ClassId) (k_w_DEFAULTCAPACITY_EMPTY_ELEMENTDATA : ClassId) (w_mir : Addr) (w_els : Addr) (k_els : ClassId) (h0 : Heap) (n0 : Nat) (v : Option Value) (h : Heap) : Prop :=
  (∃ (t : Addr), v = some (.ref t) ∧ Keep h0 h [] ∧ Exa Z h t "java/util/ImmutableCollections$List12" ∧ Fld Z h t "java/util/ImmutableCollections$List12" "e0" "Ljava/lang/Object;" (.ref x0) ∧ Fld Z h t "java/util/ImmutableCollections$List12" "e1" "Ljava/lang/Object;" (.ref w_EMPTY) ∧ h0.size ≤ t)
theorem ef_141 (m : MethodId) (a1 : Addr) : entryFrame m #[(.ref a1)] 1 = mkF m 0 #[.val (.ref a1)] [] := by first | (simp [entryFrame, mkF, argsToLocals, Value.category]; done) | rfl
set_option maxRecDepth 65536 in
set_option maxHeartbeats 40000000 in
theorem rm141 (l : Launch) (Z : State) (a0 : Array Value) (hw : ∀ d ∈ tables_1, d.before a0 Z = true) (ws : List Jvm.Cond) (a1 : Addr) (b : Addr) (k : ClassId) (x0 : Addr) (w_EMPTY_ELEMENTDATA : Addr) (w_DEFAULTCAPACITY_EMPTY_ELEMENTDATA : Addr) (w_EMPTY : Addr) (w_EMPTY_LIST : Addr) (k_w_EMPTY_ELEMENTDATA : ClassId) (k_w_DEFAULTCAPACITY_EMPTY_ELEMENTDATA : ClassId) (w_mir : Addr) (w_els : Addr) (k_els : ClassId) (h0 : Heap) (n0 : Nat) (O0 : Old Z n0 h0) (SF : Start Z w_EMPTY_ELEMENTDATA w_DEFAULTCAPACITY_EMPTY_ELEMENTDATA w_EMPTY w_EMPTY_LIST k_w_EMPTY_ELEMENTDATA k_w_DEFAULTCAPACITY_EMPTY_ELEMENTDATA w_mir w_els k_els) (f0 : Exa Z h0 a1 "java/util/ArrayList") (f1 : Fld Z h0 a1 "java/util/ArrayList" "elementData" "[Ljava/lang/Object;" (.ref b)) (f2 : Fld Z h0 a1 "java/util/ArrayList" "size" "I" (.int ((0 : Int32) + (1 : Int32)))) (f3 : Arv Z h0 b k (.object "java/lang/Object") (10 : Int32) [(.ref x0), .null, .null, .null, .null, .null, .null, .null, .null, .null] .null) (f4 : Exa Z h0 b "[Ljava/lang/Object;") (f5 : Exa Z h0 x0 "com/example/gantry/gantry/resolver/LocalCopy") :
    Meets l (⟨"java/util/List", "copyOf", "(Ljava/util/Collection;)Ljava/util/List;"⟩ : MethodName) jdk_40_method_48_code 1 (some (.object "java/util/List")) ws ({ frames := 7, cells := 2, slots := 3, locals := 88 } : Room) ({ frames := 7, cells := 2, slots := 3, locals := 88 } : Room).cells ({ frames := 7, cells := 2, slots := 3, locals := 88 } : Room).slots Z #[(.ref a1)] h0 n0 (Q141 Z a1 b k x0 w_EMPTY_ELEMENTDATA w_DEFAULTCAPACITY_EMPTY_ELEMENTDATA w_EMPTY w_EMPTY_LIST k_w_EMPTY_ELEMENTDATA k_w_DEFAULTCAPACITY_EMPTY_ELEMENTDATA w_mir w_els k_els h0 n0) := by
  refine Meets.of (F := fun m => mkF m 0 #[.val (.ref a1)] []) (plainFor_of_name pn_11) (fun m => ef_141 m a1) ?_
  intro p e s m below meth c T0 hx hby hml hown0 hnm hret hlk hZ X0 e0
  have hown : s.vm.findClass "java/util/List" = some m.cls := hown0
  have N0 := Fr.nil n0
  have KC0 := Keep.refl h0 []
  obtain ⟨z0, z1, z2, z3, z4, z5, z6, z7, z8, z9, z10, z11, zm, z13, z14, -⟩ := SF
  show Goes _ _ _ _ _ _ (T0.setTop (mkF m 0 #[.val (.ref a1)] []))
  refine own_aloadN X0 hx (hb hby d14_0) rfl rfl ?_
  refine own_callS X0 hx hZ hown (y := (⟨"java/util/ImmutableCollections", "listCopy", "(Ljava/util/Collection;)Ljava/util/List;"⟩ : MethodName)) (hw _ (List.mem_of_getElem? (i := 103) rfl)) (hw _ (List.mem_of_getElem? (i := 104) rfl)) (hw _ (List.mem_of_getElem? (i := 105) rfl)) (hw _ (List.mem_of_getElem? (i := 106) rfl)) (by decide) (W := 0) (by decide) (by decide) N0 e0 (by rw [hml]; rfl) (argsL := [(.ref a1)]) (rest := []) (lenOf pd_11 rfl) (Nat.le_of_eq rfl) (by decide) (by decide) (rm151 l Z a0 hw [] a1 b k x0 w_EMPTY_ELEMENTDATA w_DEFAULTCAPACITY_EMPTY_ELEMENTDATA w_EMPTY w_EMPTY_LIST k_w_EMPTY_ELEMENTDATA k_w_DEFAULTCAPACITY_EMPTY_ELEMENTDATA w_mir w_els k_els h0 n0 O0 ⟨z0, z1, z2, z3, z4, z5, z6, z7, z8, z9, z10, z11, zm, z13, z14, trivial⟩ f0 f1 f2 f3 f4 f5) rfl (hb hby d14_1) ?_
  intro v1 T1 lc1 X1 N1 hQ1
  obtain ⟨t_1, rfl, K1, r1_0, r1_1, r1_2, r1_3⟩ := hQ1
  have O2 := O0.keep K1 all0
  have KC2 := KC0.trans K1 all0
  have ge_t_1 : n0 ≤ t_1 := Nat.le_trans (own_sz O0) r1_3
  have sz_t_1 : h0.size ≤ t_1 := Nat.le_trans KC0.1 r1_3
  show Goes _ _ _ _ _ _ (T1.setTop (mkF m 4 #[.val (.ref a1)] [(.ref t_1)]))
  exact own_retR X1 hx N1 hlk (by decide) (by decide) hret rfl rfl rfl (hb hby d14_4) (⟨t_1, rfl, KC2, r1_0, r1_1, r1_2, sz_t_1⟩)
def Q192 (Z : State) (a1 : Addr) (k : ClassId) (x0 : Addr) (x1 : Addr) (w_EMPTY_ELEMENTDATA : Addr) (w_DEFAULTCAPACITY_EMPTY_ELEMENTDATA : Addr) (w_EMPTY : Addr) (w_EMPTY_LIST : Addr) (k_w_EMPTY_ELEMENTDATA : ClassId) (k_w_DEFAULTCAPACITY_EMPTY_ELEMENTDATA : ClassId) (w_mir : Addr) (w_els : Addr) (k_els : ClassId) (h0 : Heap) (n0 : Nat) (v : Option Value) (h : Heap) : Prop :=
  (∃ (b2 : Addr) (k2 : ClassId), v = some (.ref b2) ∧ Keep h0 h [] ∧ Arv Z h b2 k2 (.object "java/lang/Object") (((0 : Int32) + (1 : Int32)) + (1 : Int32)) [(.ref x0), (.ref x1)] .null ∧ Exa Z h b2 "[Ljava/lang/Object;" ∧ h0.size ≤ b2)
theorem ef_192 (m : MethodId) (a1 : Addr) : entryFrame m #[(.ref a1), (.int (((0 : Int32) + (1 : Int32)) + (1 : Int32))), (.ref w_mir)] 4 = mkF m 0 #[.val (.ref a1), .val (.int (((0 : Int32) + (1 : Int32)) + (1 : Int32))), .val (.ref w_mir), .unset] [] := by first | (simp [entryFrame, mkF, argsToLocals, Value.category]; done) | rfl
set_option maxRecDepth 65536 in
set_option maxHeartbeats 40000000 in
theorem rm192 (l : Launch) (Z : State) (a0 : Array Value) (hw : ∀ d ∈ tables_1, d.before a0 Z = true) (ws : List Jvm.Cond) (a1 : Addr) (k : ClassId) (x0 : Addr) (x1 : Addr) (w_EMPTY_ELEMENTDATA : Addr) (w_DEFAULTCAPACITY_EMPTY_ELEMENTDATA : Addr) (w_EMPTY : Addr) (w_EMPTY_LIST : Addr) (k_w_EMPTY_ELEMENTDATA : ClassId) (k_w_DEFAULTCAPACITY_EMPTY_ELEMENTDATA : ClassId) (w_mir : Addr) (w_els : Addr) (k_els : ClassId) (h0 : Heap) (n0 : Nat) (O0 : Old Z n0 h0) (SF : Start Z w_EMPTY_ELEMENTDATA w_DEFAULTCAPACITY_EMPTY_ELEMENTDATA w_EMPTY w_EMPTY_LIST k_w_EMPTY_ELEMENTDATA k_w_DEFAULTCAPACITY_EMPTY_ELEMENTDATA w_mir w_els k_els) (f0 : Arv Z h0 a1 k (.object "java/lang/Object") (10 : Int32) [(.ref x0), (.ref x1), .null, .null, .null, .null, .null, .null, .null, .null] .null) (f1 : Exa Z h0 a1 "[Ljava/lang/Object;") (f2 : Exa Z h0 x0 "com/example/gantry/gantry/resolver/LocalCopy") (f3 : Exa Z h0 x1 "com/example/gantry/gantry/resolver/LocalCopy") :
    Meets l (⟨"java/util/Arrays", "copyOf", "([Ljava/lang/Object;ILjava/lang/Class;)[Ljava/lang/Object;"⟩ : MethodName) jdk_65_method_120_code 4 (some (.array (.object "java/lang/Object"))) ws ({ frames := 1, cells := 1, slots := 2, locals := 18 } : Room) ({ frames := 1, cells := 1, slots := 2, locals := 18 } : Room).cells ({ frames := 1, cells := 1, slots := 2, locals := 18 } : Room).slots Z #[(.ref a1), (.int (((0 : Int32) + (1 : Int32)) + (1 : Int32))), (.ref w_mir)] h0 n0 (Q192 Z a1 k x0 x1 w_EMPTY_ELEMENTDATA w_DEFAULTCAPACITY_EMPTY_ELEMENTDATA w_EMPTY w_EMPTY_LIST k_w_EMPTY_ELEMENTDATA k_w_DEFAULTCAPACITY_EMPTY_ELEMENTDATA w_mir w_els k_els h0 n0) := by
  refine Meets.of (F := fun m => mkF m 0 #[.val (.ref a1), .val (.int (((0 : Int32) + (1 : Int32)) + (1 : Int32))), .val (.ref w_mir), .unset] []) (plainFor_of_name pn_9) (fun m => ef_192 m a1) ?_
  intro p e s m below meth c T0 hx hby hml hown0 hnm hret hlk hZ X0 e0
  have hown : s.vm.findClass "java/util/Arrays" = some m.cls := hown0
  have N0 := Fr.nil n0
  have KC0 := Keep.refl h0 []
  obtain ⟨z0, z1, z2, z3, z4, z5, z6, z7, z8, z9, z10, z11, zm, z13, z14, -⟩ := SF
  show Goes _ _ _ _ _ _ (T0.setTop (mkF m 0 #[.val (.ref a1), .val (.int (((0 : Int32) + (1 : Int32)) + (1 : Int32))), .val (.ref w_mir), .unset] []))
  refine own_aloadN X0 hx (hb hby d19_0) rfl rfl ?_
  refine own_ldcMir X0 hx hZ hown (hw _ (List.mem_of_getElem? (i := 143) rfl)) e0 zm (hb hby d19_1) (fun T1 X1 e1 => ?_)
  refine own_acmp X1 hx rfl rfl (same := true) (pc' := 6) (hb hby d19_3) (decide_eq_true rfl) (by decide) (by decide) ?_
  refine own_iloadN X1 hx (hb hby d19_6) rfl ?_
  refine own_newRE X1 hx hZ hown (ad := "[Ljava/lang/Object;") (by decide +kernel) (hw _ (List.mem_of_getElem? (i := 144) rfl)) (hw _ (List.mem_of_getElem? (i := 78) rfl)) e1 (hb hby d19_7) (by decide) (cap := 2) (by decide) (by decide) (by decide) (by decide) (fun T2 h2 b2 k2 g2 X2 e2 E2 A2 O2_ B2 => ?_)
  have ge_b2 : n0 ≤ b2 := Nat.le_trans (own_sz O0) (Nat.le_of_eq g2.symm)
  have sz_b2 : h0.size ≤ b2 := Nat.le_trans KC0.1 (Nat.le_of_eq g2.symm)
  have E3_x0 := f2.ext E2
  have E3_x1 := f3.ext E2
  have A3_a1 := f0.ext E2
  have O3 := O0.ext E2
  have KC3 := KC0.ext E2
  have V2 : Arv Z h2 b2 k2 (.object "java/lang/Object") (((0 : Int32) + (1 : Int32)) + (1 : Int32)) [.null, .null] .null := A2.pad (pad_rep [] .null 2)
  refine own_goto X2 hx (pc' := 24) (hb hby d19_10) (by decide) (by decide) ?_
  refine own_astoreN X2 hx (Ls' := #[.val (.ref a1), .val (.int (((0 : Int32) + (1 : Int32)) + (1 : Int32))), .val (.ref w_mir), .val (.ref b2)]) (hb hby d19_24) rfl rfl ?_
  refine own_aloadN X2 hx (hb hby d19_25) rfl rfl ?_
  show Goes _ _ _ _ _ _ (T2.setTop (mkF m 26 #[.val (.ref a1), .val (.int (((0 : Int32) + (1 : Int32)) + (1 : Int32))), .val (.ref w_mir), .val (.ref b2)] [(.ref a1)]))
  refine own_iconst X2 hx (v := (0 : Int32)) (hb hby d19_26) rfl ?_
  refine own_aloadN X2 hx (hb hby d19_27) rfl rfl ?_
  refine own_iconst X2 hx (v := (0 : Int32)) (hb hby d19_28) rfl ?_
  refine own_aloadN X2 hx (hb hby d19_29) rfl rfl ?_
  refine own_alen X2 hx hZ e2 A3_a1 (hb hby d19_30) ?_
  refine own_iloadN X2 hx (hb hby d19_31) rfl ?_
  refine own_callS X2 hx hZ hown (y := (⟨"java/lang/Math", "min", "(II)I"⟩ : MethodName)) (hw _ (List.mem_of_getElem? (i := 145) rfl)) (hw _ (List.mem_of_getElem? (i := 146) rfl)) (hw _ (List.mem_of_getElem? (i := 75) rfl)) (hw _ (List.mem_of_getElem? (i := 147) rfl)) (by decide) (W := 4) (by decide) (by decide) N0 e2 (by rw [hml]; rfl) (argsL := [(.int (10 : Int32)), (.int (((0 : Int32) + (1 : Int32)) + (1 : Int32)))]) (rest := [(.int (0 : Int32)), (.ref b2), (.int (0 : Int32)), (.ref a1)]) (lenOf pd_1 rfl) (Nat.le_of_eq rfl) (by decide) (by decide) (rm20 l Z a0 hw [] (10 : Int32) (((0 : Int32) + (1 : Int32)) + (1 : Int32)) h2 n0 O3) rfl (hb hby d19_32) ?_
  intro v4 T4 lc4 X4 N4 hQ4
  rcases hQ4 with hQ4_0 | hQ4_1
  ·
    obtain ⟨rfl, hq4_0_0, e4⟩ := hQ4_0
    obtain ⟨cl5, Ar5, q5, -⟩ := id V2
    refine own_cpA X4 hx hZ hown (hw _ (List.mem_of_getElem? (i := 148) rfl)) (hw _ (List.mem_of_getElem? (i := 151) rfl)) (hw _ (List.mem_of_getElem? (i := 149) rfl)) (hw _ (List.mem_of_getElem? (i := 150) rfl)) e4 A3_a1 V2 (us := [(.ref x0), (.ref x1)]) (vr := [(.ref x0), (.ref x1)]) (Or.inr ⟨rfl, rfl, ⟨(Sto.ofV Ar5 q5 O2_ (Ins.of_exa E3_x0 (hw _ (List.mem_of_getElem? (i := 79) rfl)))), ⟨(Sto.ofV Ar5 q5 O2_ (Ins.of_exa E3_x1 (hw _ (List.mem_of_getElem? (i := 79) rfl)))), trivial⟩⟩⟩) (by decide) (by decide) (by decide) (by decide) (by decide) rfl (Nat.le_of_ble_eq_true rfl) rfl N4 ge_b2 (by rw [hml]; rfl) (hb hby d19_35) (by decide) (W := 0) (Nat.le_of_eq rfl) (by decide) (fun T5 h5 lc5 X5 e5 N5 K5 V5 => ?_)
    have E6_b2 := B2.keep K5
    have O6 := O3.keep K5 (allS ge_b2 all0)
    have KC6 := KC3.trans K5 (allS (Or.inr sz_b2) all0)
    refine own_aloadN X5 hx (hb hby d19_38) rfl rfl ?_
    show Goes _ _ _ _ _ _ (T5.setTop (mkF m 39 #[.val (.ref a1), .val (.int (((0 : Int32) + (1 : Int32)) + (1 : Int32))), .val (.ref w_mir), .val (.ref b2)] [(.ref b2)]))
    exact own_retR X5 hx N5 hlk (by decide) (by decide) hret rfl rfl rfl (hb hby d19_39) (by rw [e5]; exact ⟨b2, k2, rfl, KC6, V5, E6_b2, sz_b2⟩)
  ·
    obtain ⟨rfl, hq4_1_0, e4⟩ := hQ4_1
    exact absurd (by decide) hq4_1_0
def Q182 (Z : State) (a1 : Addr) (k : ClassId) (x0 : Addr) (x1 : Addr) (w_EMPTY_ELEMENTDATA : Addr) (w_DEFAULTCAPACITY_EMPTY_ELEMENTDATA : Addr) (w_EMPTY : Addr) (w_EMPTY_LIST : Addr) (k_w_EMPTY_ELEMENTDATA : ClassId) (k_w_DEFAULTCAPACITY_EMPTY_ELEMENTDATA : ClassId) (w_mir : Addr) (w_els : Addr) (k_els : ClassId) (h0 : Heap) (n0 : Nat) (v : Option Value) (h : Heap) : Prop :=
  (∃ (b2 : Addr) (k2 : ClassId), v = some (.ref b2) ∧ Keep h0 h [] ∧ Arv Z h b2 k2 (.object "java/lang/Object") (((0 : Int32) + (1 : Int32)) + (1 : Int32)) [(.ref x0), (.ref x1)] .null ∧ Exa Z h b2 "[Ljava/lang/Object;" ∧ h0.size ≤ b2)
theorem ef_182 (m : MethodId) (a1 : Addr) : entryFrame m #[(.ref a1), (.int (((0 : Int32) + (1 : Int32)) + (1 : Int32)))] 2 = mkF m 0 #[.val (.ref a1), .val (.int (((0 : Int32) + (1 : Int32)) + (1 : Int32)))] [] := by first | (simp [entryFrame, mkF, argsToLocals, Value.category]; done) | rfl
set_option maxRecDepth 65536 in
set_option maxHeartbeats 40000000 in
theorem rm182 (l : Launch) (Z : State) (a0 : Array Value) (hw : ∀ d ∈ tables_1, d.before a0 Z = true) (ws : List Jvm.Cond) (a1 : Addr) (k : ClassId) (x0 : Addr) (x1 : Addr) (w_EMPTY_ELEMENTDATA : Addr) (w_DEFAULTCAPACITY_EMPTY_ELEMENTDATA : Addr) (w_EMPTY : Addr) (w_EMPTY_LIST : Addr) (k_w_EMPTY_ELEMENTDATA : ClassId) (k_w_DEFAULTCAPACITY_EMPTY_ELEMENTDATA : ClassId) (w_mir : Addr) (w_els : Addr) (k_els : ClassId) (h0 : Heap) (n0 : Nat) (O0 : Old Z n0 h0) (SF : Start Z w_EMPTY_ELEMENTDATA w_DEFAULTCAPACITY_EMPTY_ELEMENTDATA w_EMPTY w_EMPTY_LIST k_w_EMPTY_ELEMENTDATA k_w_DEFAULTCAPACITY_EMPTY_ELEMENTDATA w_mir w_els k_els) (f0 : Arv Z h0 a1 k (.object "java/lang/Object") (10 : Int32) [(.ref x0), (.ref x1), .null, .null, .null, .null, .null, .null, .null, .null] .null) (f1 : Exa Z h0 a1 "[Ljava/lang/Object;") (f2 : Exa Z h0 x0 "com/example/gantry/gantry/resolver/LocalCopy") (f3 : Exa Z h0 x1 "com/example/gantry/gantry/resolver/LocalCopy") :
    Meets l (⟨"java/util/Arrays", "copyOf", "([Ljava/lang/Object;I)[Ljava/lang/Object;"⟩ : MethodName) jdk_65_method_119_code 2 (some (.array (.object "java/lang/Object"))) ws ({ frames := 2, cells := 1, slots := 2, locals := 33 } : Room) ({ frames := 2, cells := 1, slots := 2, locals := 33 } : Room).cells ({ frames := 2, cells := 1, slots := 2, locals := 33 } : Room).slots Z #[(.ref a1), (.int (((0 : Int32) + (1 : Int32)) + (1 : Int32)))] h0 n0 (Q182 Z a1 k x0 x1 w_EMPTY_ELEMENTDATA w_DEFAULTCAPACITY_EMPTY_ELEMENTDATA w_EMPTY w_EMPTY_LIST k_w_EMPTY_ELEMENTDATA k_w_DEFAULTCAPACITY_EMPTY_ELEMENTDATA w_mir w_els k_els h0 n0) := by
  refine Meets.of (F := fun m => mkF m 0 #[.val (.ref a1), .val (.int (((0 : Int32) + (1 : Int32)) + (1 : Int32)))] []) (plainFor_of_name pn_9) (fun m => ef_182 m a1) ?_
  intro p e s m below meth c T0 hx hby hml hown0 hnm hret hlk hZ X0 e0
  have hown : s.vm.findClass "java/util/Arrays" = some m.cls := hown0
  have N0 := Fr.nil n0
  have KC0 := Keep.refl h0 []
  obtain ⟨z0, z1, z2, z3, z4, z5, z6, z7, z8, z9, z10, z11, zm, z13, z14, -⟩ := SF
  show Goes _ _ _ _ _ _ (T0.setTop (mkF m 0 #[.val (.ref a1), .val (.int (((0 : Int32) + (1 : Int32)) + (1 : Int32)))] []))
  refine own_aloadN X0 hx (hb hby d18_0) rfl rfl ?_
  refine own_iloadN X0 hx (hb hby d18_1) rfl ?_
  refine own_aloadN X0 hx (hb hby d18_2) rfl rfl ?_
  refine own_gcls X0 hx hZ hown (hw _ (List.mem_of_getElem? (i := 134) rfl)) (hw _ (List.mem_of_getElem? (i := 135) rfl)) (hw _ (List.mem_of_getElem? (i := 111) rfl)) (hw _ (List.mem_of_getElem? (i := 137) rfl)) (hw _ (List.mem_of_getElem? (i := 136) rfl)) (hw _ (List.mem_of_getElem? (i := 138) rfl)) e0 f1 zm (by rw [hml]; rfl) (hb hby d18_3) (by decide) (W := 2) (Nat.le_of_eq rfl) (by decide) (fun T1 X1 e1 => ?_)
  refine own_callS X1 hx hZ hown (y := (⟨"java/util/Arrays", "copyOf", "([Ljava/lang/Object;ILjava/lang/Class;)[Ljava/lang/Object;"⟩ : MethodName)) (hw _ (List.mem_of_getElem? (i := 140) rfl)) (hw _ (List.mem_of_getElem? (i := 141) rfl)) (hw _ (List.mem_of_getElem? (i := 132) rfl)) (hw _ (List.mem_of_getElem? (i := 142) rfl)) (by decide) (W := 0) (by decide) (by decide) N0 e1 (by rw [hml]; rfl) (argsL := [(.ref a1), (.int (((0 : Int32) + (1 : Int32)) + (1 : Int32))), (.ref w_mir)]) (rest := []) (lenOf pd_5 rfl) (Nat.le_of_eq rfl) (by decide) (by decide) (rm192 l Z a0 hw [] a1 k x0 x1 w_EMPTY_ELEMENTDATA w_DEFAULTCAPACITY_EMPTY_ELEMENTDATA w_EMPTY w_EMPTY_LIST k_w_EMPTY_ELEMENTDATA k_w_DEFAULTCAPACITY_EMPTY_ELEMENTDATA w_mir w_els k_els h0 n0 O0 ⟨z0, z1, z2, z3, z4, z5, z6, z7, z8, z9, z10, z11, zm, z13, z14, trivial⟩ f0 f1 f2 f3) rfl (hb hby d18_6) ?_
  intro v2 T2 lc2 X2 N2 hQ2
  obtain ⟨b2_2, k2_2, rfl, K2, r2_0, r2_1, r2_2⟩ := hQ2
  have O3 := O0.keep K2 all0
  have KC3 := KC0.trans K2 all0
  have ge_b2_2 : n0 ≤ b2_2 := Nat.le_trans (own_sz O0) r2_2
  have sz_b2_2 : h0.size ≤ b2_2 := Nat.le_trans KC0.1 r2_2
  show Goes _ _ _ _ _ _ (T2.setTop (mkF m 9 #[.val (.ref a1), .val (.int (((0 : Int32) + (1 : Int32)) + (1 : Int32)))] [(.ref b2_2)]))
  exact own_retR X2 hx N2 hlk (by decide) (by decide) hret rfl rfl rfl (hb hby d18_9) (⟨b2_2, k2_2, rfl, KC3, r2_0, r2_1, sz_b2_2⟩)
def Q172 (Z : State) (a1 : Addr) (b : Addr) (k : ClassId) (x0 : Addr) (x1 : Addr) (w_EMPTY_ELEMENTDATA : Addr) (w_DEFAULTCAPACITY_EMPTY_ELEMENTDATA : Addr) (w_EMPTY : Addr) (w_EMPTY_LIST : Addr) (k_w_EMPTY_ELEMENTDATA : ClassId) (k_w_DEFAULTCAPACITY_EMPTY_ELEMENTDATA : ClassId) (w_mir : Addr) (w_els : Addr) (k_els : ClassId) (h0 : Heap) (n0 : Nat) (v : Option Value) (h : Heap) : Prop :=
  (∃ (b2 : Addr) (k2 : ClassId), v = some (.ref b2) ∧ Keep h0 h [] ∧ Arv Z h b2 k2 (.object "java/lang/Object") (((0 : Int32) + (1 : Int32)) + (1 : Int32)) [(.ref x0), (.ref x1)] .null ∧ Exa Z h b2 "[Ljava/lang/Object;" ∧ h0.size ≤ b2)
theorem ef_172 (m : MethodId) (a1 : Addr) : entryFrame m #[(.ref a1)] 1 = mkF m 0 #[.val (.ref a1)] [] := by first | (simp [entryFrame, mkF, argsToLocals, Value.category]; done) | rfl
set_option maxRecDepth 65536 in
set_option maxHeartbeats 40000000 in
theorem rm172 (l : Launch) (Z : State) (a0 : Array Value) (hw : ∀ d ∈ tables_1, d.before a0 Z = true) (ws : List Jvm.Cond) (a1 : Addr) (b : Addr) (k : ClassId) (x0 : Addr) (x1 : Addr) (w_EMPTY_ELEMENTDATA : Addr) (w_DEFAULTCAPACITY_EMPTY_ELEMENTDATA : Addr) (w_EMPTY : Addr) (w_EMPTY_LIST : Addr) (k_w_EMPTY_ELEMENTDATA : ClassId) (k_w_DEFAULTCAPACITY_EMPTY_ELEMENTDATA : ClassId) (w_mir : Addr) (w_els : Addr) (k_els : ClassId) (h0 : Heap) (n0 : Nat) (O0 : Old Z n0 h0) (SF : Start Z w_EMPTY_ELEMENTDATA w_DEFAULTCAPACITY_EMPTY_ELEMENTDATA w_EMPTY w_EMPTY_LIST k_w_EMPTY_ELEMENTDATA k_w_DEFAULTCAPACITY_EMPTY_ELEMENTDATA w_mir w_els k_els) (f0 : Exa Z h0 a1 "java/util/ArrayList") (f1 : Fld Z h0 a1 "java/util/ArrayList" "elementData" "[Ljava/lang/Object;" (.ref b)) (f2 : Fld Z h0 a1 "java/util/ArrayList" "size" "I" (.int (((0 : Int32) + (1 : Int32)) + (1 : Int32)))) (f3 : Arv Z h0 b k (.object "java/lang/Object") (10 : Int32) [(.ref x0), (.ref x1), .null, .null, .null, .null, .null, .null, .null, .null] .null) (f4 : Exa Z h0 b "[Ljava/lang/Object;") (f5 : Exa Z h0 x0 "com/example/gantry/gantry/resolver/LocalCopy") (f6 : Exa Z h0 x1 "com/example/gantry/gantry/resolver/LocalCopy") :
    Meets l (⟨"java/util/ArrayList", "toArray", "()[Ljava/lang/Object;"⟩ : MethodName) jdk_38_method_16_code 1 (some (.array (.object "java/lang/Object"))) ws ({ frames := 3, cells := 1, slots := 2, locals := 46 } : Room) ({ frames := 3, cells := 1, slots := 2, locals := 46 } : Room).cells ({ frames := 3, cells := 1, slots := 2, locals := 46 } : Room).slots Z #[(.ref a1)] h0 n0 (Q172 Z a1 b k x0 x1 w_EMPTY_ELEMENTDATA w_DEFAULTCAPACITY_EMPTY_ELEMENTDATA w_EMPTY w_EMPTY_LIST k_w_EMPTY_ELEMENTDATA k_w_DEFAULTCAPACITY_EMPTY_ELEMENTDATA w_mir w_els k_els h0 n0) := by
  refine Meets.of (F := fun m => mkF m 0 #[.val (.ref a1)] []) (plainFor_of_name pn_5) (fun m => ef_172 m a1) ?_
  intro p e s m below meth c T0 hx hby hml hown0 hnm hret hlk hZ X0 e0
  have hown : s.vm.findClass "java/util/ArrayList" = some m.cls := hown0
  have N0 := Fr.nil n0
  have KC0 := Keep.refl h0 []
  obtain ⟨z0, z1, z2, z3, z4, z5, z6, z7, z8, z9, z10, z11, zm, z13, z14, -⟩ := SF
  show Goes _ _ _ _ _ _ (T0.setTop (mkF m 0 #[.val (.ref a1)] []))
  refine own_aloadN X0 hx (hb hby d17_0) rfl rfl ?_
  refine own_getF X0 hx hZ hown (host := "") (Or.inl (hw _ (List.mem_of_getElem? (i := 47) rfl))) Via.refl e0 f1 (hb hby d17_1) (fun T1 X1 e1 => ?_)
  refine own_aloadN X1 hx (hb hby d17_4) rfl rfl ?_
  refine own_getF X1 hx hZ hown (host := "") (Or.inl (hw _ (List.mem_of_getElem? (i := 56) rfl))) Via.refl e1 f2 (hb hby d17_5) (fun T2 X2 e2 => ?_)
  refine own_callS X2 hx hZ hown (y := (⟨"java/util/Arrays", "copyOf", "([Ljava/lang/Object;I)[Ljava/lang/Object;"⟩ : MethodName)) (hw _ (List.mem_of_getElem? (i := 130) rfl)) (hw _ (List.mem_of_getElem? (i := 131) rfl)) (hw _ (List.mem_of_getElem? (i := 132) rfl)) (hw _ (List.mem_of_getElem? (i := 133) rfl)) (by decide) (W := 0) (by decide) (by decide) N0 e2 (by rw [hml]; rfl) (argsL := [(.ref b), (.int (((0 : Int32) + (1 : Int32)) + (1 : Int32)))]) (rest := []) (lenOf pd_6 rfl) (Nat.le_of_eq rfl) (by decide) (by decide) (rm182 l Z a0 hw [] b k x0 x1 w_EMPTY_ELEMENTDATA w_DEFAULTCAPACITY_EMPTY_ELEMENTDATA w_EMPTY w_EMPTY_LIST k_w_EMPTY_ELEMENTDATA k_w_DEFAULTCAPACITY_EMPTY_ELEMENTDATA w_mir w_els k_els h0 n0 O0 ⟨z0, z1, z2, z3, z4, z5, z6, z7, z8, z9, z10, z11, zm, z13, z14, trivial⟩ f3 f4 f5 f6) rfl (hb hby d17_8) ?_
  intro v3 T3 lc3 X3 N3 hQ3
  obtain ⟨b2_3, k2_3, rfl, K3, r3_0, r3_1, r3_2⟩ := hQ3
  have O4 := O0.keep K3 all0
  have KC4 := KC0.trans K3 all0
  have ge_b2_3 : n0 ≤ b2_3 := Nat.le_trans (own_sz O0) r3_2
  have sz_b2_3 : h0.size ≤ b2_3 := Nat.le_trans KC0.1 r3_2
  show Goes _ _ _ _ _ _ (T3.setTop (mkF m 11 #[.val (.ref a1)] [(.ref b2_3)]))
  exact own_retR X3 hx N3 hlk (by decide) (by decide) hret rfl rfl rfl (hb hby d17_11) (⟨b2_3, k2_3, rfl, KC4, r3_0, r3_1, sz_b2_3⟩)
theorem d34_0 : decode jdk_44_method_2_code 0 = .ok (.aload_n 0, 1) := by decide +kernel
theorem d34_1 : decode jdk_44_method_2_code 1 = .ok (.invokespecial 1, 3) := by decide +kernel
theorem d34_4 : decode jdk_44_method_2_code 4 = .ok (.aload_n 0, 1) := by decide +kernel
theorem d34_5 : decode jdk_44_method_2_code 5 = .ok (.aload_n 1, 1) := by decide +kernel
theorem d34_6 : decode jdk_44_method_2_code 6 = .ok (.invokestatic 7, 3) := by decide +kernel
theorem d34_9 : decode jdk_44_method_2_code 9 = .ok (.putfield 13, 3) := by decide +kernel
theorem d34_12 : decode jdk_44_method_2_code 12 = .ok (.aload_n 0, 1) := by decide +kernel
theorem d34_13 : decode jdk_44_method_2_code 13 = .ok (.aload_n 2, 1) := by decide +kernel
theorem d34_14 : decode jdk_44_method_2_code 14 = .ok (.invokestatic 7, 3) := by decide +kernel
theorem d34_17 : decode jdk_44_method_2_code 17 = .ok (.putfield 24, 3) := by decide +kernel
theorem d34_20 : decode jdk_44_method_2_code 20 = .ok (.return_, 1) := by decide +kernel
def Q34 (Z : State) (a1 : Addr) (a2 : Addr) (a3 : Addr) (u1 : Value) (u2 : Value) (w_EMPTY_ELEMENTDATA : Addr) (w_DEFAULTCAPACITY_EMPTY_ELEMENTDATA : Addr) (w_EMPTY : Addr) (w_EMPTY_LIST : Addr) (k_w_EMPTY_ELEMENTDATA : ClassId) (k_w_DEFAULTCAPACITY_EMPTY_ELEMENTDATA : ClassId) (w_mir : Addr) (w_els : Addr) (k_els : ClassId) (h0 : Heap) (n0 : Nat) (v : Option Value) (h : Heap) : Prop :=
  (v = none ∧ Keep h0 h [a1] ∧ Exa Z h a1 "java/util/ImmutableCollections$List12" ∧ Fld Z h a1 "java/util/ImmutableCollections$List12" "e0" "Ljava/lang/Object;" (.ref a2) ∧ Fld Z h a1 "java/util/ImmutableCollections$List12" "e1" "Ljava/lang/Object;" (.ref a3))
theorem ef_34 (m : MethodId) (a1 : Addr) (a2 : Addr) (a3 : Addr) : entryFrame m #[(.ref a1), (.ref a2), (.ref a3)] 3 = mkF m 0 #[.val (.ref a1), .val (.ref a2), .val (.ref a3)] [] := by first | (simp [entryFrame, mkF, argsToLocals, Value.category]; done) | rfl
set_option maxRecDepth 65536 in
set_option maxHeartbeats 40000000 in
theorem rm34 (l : Launch) (Z : State) (a0 : Array Value) (hw : ∀ d ∈ tables_1, d.before a0 Z = true) (ws : List Jvm.Cond) (a1 : Addr) (a2 : Addr) (a3 : Addr) (u1 : Value) (u2 : Value) (w_EMPTY_ELEMENTDATA : Addr) (w_DEFAULTCAPACITY_EMPTY_ELEMENTDATA : Addr) (w_EMPTY : Addr) (w_EMPTY_LIST : Addr) (k_w_EMPTY_ELEMENTDATA : ClassId) (k_w_DEFAULTCAPACITY_EMPTY_ELEMENTDATA : ClassId) (w_mir : Addr) (w_els : Addr) (k_els : ClassId) (h0 : Heap) (n0 : Nat) (O0 : Old Z n0 h0) (SF : Start Z w_EMPTY_ELEMENTDATA w_DEFAULTCAPACITY_EMPTY_ELEMENTDATA w_EMPTY w_EMPTY_LIST k_w_EMPTY_ELEMENTDATA k_w_DEFAULTCAPACITY_EMPTY_ELEMENTDATA w_mir w_els k_els) (f0 : Exa Z h0 a1 "java/util/ImmutableCollections$List12") (f1 : Fld Z h0 a1 "java/util/ImmutableCollections$List12" "e0" "Ljava/lang/Object;" u1) (f2 : Fld Z h0 a1 "java/util/ImmutableCollections$List12" "e1" "Ljava/lang/Object;" u2) (f3 : n0 ≤ a1) :
    Meets l (⟨"java/util/ImmutableCollections$List12", "<init>", "(Ljava/lang/Object;Ljava/lang/Object;)V"⟩ : MethodName) jdk_44_method_2_code 3 none ws ({ frames := 4, cells := 0, slots := 0, locals := 48 } : Room) ({ frames := 4, cells := 0, slots := 0, locals := 48 } : Room).cells ({ frames := 4, cells := 0, slots := 0, locals := 48 } : Room).slots Z #[(.ref a1), (.ref a2), (.ref a3)] h0 n0 (Q34 Z a1 a2 a3 u1 u2 w_EMPTY_ELEMENTDATA w_DEFAULTCAPACITY_EMPTY_ELEMENTDATA w_EMPTY w_EMPTY_LIST k_w_EMPTY_ELEMENTDATA k_w_DEFAULTCAPACITY_EMPTY_ELEMENTDATA w_mir w_els k_els h0 n0) := by
  refine Meets.of (F := fun m => mkF m 0 #[.val (.ref a1), .val (.ref a2), .val (.ref a3)] []) (plainFor_of_name pn_10) (fun m => ef_34 m a1 a2 a3) ?_
  intro p e s m below meth c T0 hx hby hml hown0 hnm hret hlk hZ X0 e0
  have hown : s.vm.findClass "java/util/ImmutableCollections$List12" = some m.cls := hown0
  have N0 := Fr.nil n0
  have KC0 := Keep.refl h0 [a1]
  obtain ⟨z0, z1, z2, z3, z4, z5, z6, z7, z8, z9, z10, z11, zm, z13, z14, -⟩ := SF
  show Goes _ _ _ _ _ _ (T0.setTop (mkF m 0 #[.val (.ref a1), .val (.ref a2), .val (.ref a3)] []))
  refine own_aloadN X0 hx (hb hby d34_0) rfl rfl ?_
  refine own_special X0 hx hZ hown (y := (⟨"java/util/ImmutableCollections$AbstractImmutableList", "<init>", "()V"⟩ : MethodName)) rfl (hw _ (List.mem_of_getElem? (i := 162) rfl)) (hw _ (List.mem_of_getElem? (i := 163) rfl)) (hw _ (List.mem_of_getElem? (i := 166) rfl)) (hw _ (List.mem_of_getElem? (i := 167) rfl)) (a := a1) (by decide) (W := 0) (by decide) (by decide) N0 e0 (by rw [hml]; rfl) (argsL := []) (rest := []) (lenOf pd_0 rfl) (Nat.le_of_eq rfl) (by decide) (by decide) (rm23 l Z a0 hw [] a1 h0 n0 O0) rfl (hb hby d34_1) ?_
  intro v1 T1 lc1 X1 N1 hQ1
  obtain ⟨rfl, e1⟩ := hQ1
  refine own_aloadN X1 hx (hb hby d34_4) rfl rfl ?_
  refine own_aloadN X1 hx (hb hby d34_5) rfl rfl ?_
  refine own_callS X1 hx hZ hown (y := (⟨"java/util/Objects", "requireNonNull", "(Ljava/lang/Object;)Ljava/lang/Object;"⟩ : MethodName)) (hw _ (List.mem_of_getElem? (i := 176) rfl)) (hw _ (List.mem_of_getElem? (i := 177) rfl)) (hw _ (List.mem_of_getElem? (i := 178) rfl)) (hw _ (List.mem_of_getElem? (i := 179) rfl)) (by decide) (W := 1) (by decide) (by decide) N1 e1 (by rw [hml]; rfl) (argsL := [(.ref a2)]) (rest := [(.ref a1)]) (lenOf pd_7 rfl) (Nat.le_of_eq rfl) (by decide) (by decide) (rm25 l Z a0 hw [] a2 h0 n0 O0) rfl (hb hby d34_6) ?_
  intro v2 T2 lc2 X2 N2 hQ2
  obtain ⟨rfl, e2⟩ := hQ2
  refine own_putF X2 hx hZ hown N2 (host := "") (Or.inl (hw _ (List.mem_of_getElem? (i := 180) rfl))) Via.refl e2 f1 f0 (Or.inr ⟨(hw _ (List.mem_of_getElem? (i := 181) rfl)), rfl, hnm⟩) (hw _ (List.mem_of_getElem? (i := 156) rfl)) (ty := (.object "java/lang/Object")) (by decide) rfl rfl f3 (hb hby d34_9) (fun T3 h3 lc3 X3 e3 N3 W3 => ?_)
  have E4_a1 := f0.wr W3
  have F4_e0_a1 := f1.same W3
  have F4_e1_a1 := f2.other W3 (Or.inr (slot_ne (Or.inr (hw _ (List.mem_of_getElem? (i := 184) rfl))) (Or.inr (hw _ (List.mem_of_getElem? (i := 181) rfl))) (by decide) (t := (.object "java/lang/Object")) (t' := (.object "java/lang/Object")) (by decide) (by decide)))
  have O4 := O0.wr W3 f3
  have KC4 := KC0.wr W3 (Or.inl (List.mem_of_getElem? (i := 0) rfl))
  refine own_aloadN X3 hx (hb hby d34_12) rfl rfl ?_
  refine own_aloadN X3 hx (hb hby d34_13) rfl rfl ?_
  refine own_callS X3 hx hZ hown (y := (⟨"java/util/Objects", "requireNonNull", "(Ljava/lang/Object;)Ljava/lang/Object;"⟩ : MethodName)) (hw _ (List.mem_of_getElem? (i := 176) rfl)) (hw _ (List.mem_of_getElem? (i := 177) rfl)) (hw _ (List.mem_of_getElem? (i := 178) rfl)) (hw _ (List.mem_of_getElem? (i := 179) rfl)) (by decide) (W := 1) (by decide) (by decide) N3 e3 (by rw [hml]; rfl) (argsL := [(.ref a3)]) (rest := [(.ref a1)]) (lenOf pd_7 rfl) (Nat.le_of_eq rfl) (by decide) (by decide) (rm25 l Z a0 hw [] a3 h3 n0 O4) rfl (hb hby d34_14) ?_
  intro v5 T5 lc5 X5 N5 hQ5
  obtain ⟨rfl, e5⟩ := hQ5
  refine own_putF X5 hx hZ hown N5 (host := "") (Or.inl (hw _ (List.mem_of_getElem? (i := 183) rfl))) Via.refl e5 F4_e1_a1 E4_a1 (Or.inr ⟨(hw _ (List.mem_of_getElem? (i := 184) rfl)), rfl, hnm⟩) (hw _ (List.mem_of_getElem? (i := 156) rfl)) (ty := (.object "java/lang/Object")) (by decide) rfl rfl f3 (hb hby d34_17) (fun T6 h6 lc6 X6 e6 N6 W6 => ?_)
  have E7_a1 := E4_a1.wr W6
  have F7_e0_a1 := F4_e0_a1.other W6 (Or.inr (slot_ne (Or.inr (hw _ (List.mem_of_getElem? (i := 181) rfl))) (Or.inr (hw _ (List.mem_of_getElem? (i := 184) rfl))) (by decide) (t := (.object "java/lang/Object")) (t' := (.object "java/lang/Object")) (by decide) (by decide)))
  have F7_e1_a1 := F4_e1_a1.same W6
  have O7 := O4.wr W6 f3
  have KC7 := KC4.wr W6 (Or.inl (List.mem_of_getElem? (i := 0) rfl))
  show Goes _ _ _ _ _ _ (T6.setTop (mkF m 20 #[.val (.ref a1), .val (.ref a2), .val (.ref a3)] []))
  exact own_retV X6 hx N6 hlk (by decide) (by decide) hret (hb hby d34_20) (by rw [e6]; exact ⟨rfl, KC7, E7_a1, F7_e0_a1, F7_e1_a1⟩)
theorem d21_45 : decode jdk_40_method_47_code 45 = .ok (.new 96, 3) := by decide +kernel
theorem d21_48 : decode jdk_40_method_47_code 48 = .ok (.dup, 1) := by decide +kernel
theorem d21_49 : decode jdk_40_method_47_code 49 = .ok (.aload_n 0, 1) := by decide +kernel
theorem d21_50 : decode jdk_40_method_47_code 50 = .ok (.iconst 0, 1) := by decide +kernel
theorem d21_51 : decode jdk_40_method_47_code 51 = .ok (.aaload, 1) := by decide +kernel
theorem d21_52 : decode jdk_40_method_47_code 52 = .ok (.aload_n 0, 1) := by decide +kernel
theorem d21_53 : decode jdk_40_method_47_code 53 = .ok (.iconst 1, 1) := by decide +kernel
theorem d21_54 : decode jdk_40_method_47_code 54 = .ok (.aaload, 1) := by decide +kernel
theorem d21_55 : decode jdk_40_method_47_code 55 = .ok (.invokespecial 100, 3) := by decide +kernel
theorem pd_12 : parseMethodDescriptor "(Ljava/lang/Object;Ljava/lang/Object;)V" = some ⟨[(.object "java/lang/Object"), (.object "java/lang/Object")], none⟩ := by decide +kernel
theorem d21_58 : decode jdk_40_method_47_code 58 = .ok (.areturn, 1) := by decide +kernel
def Q212 (Z : State) (a1 : Addr) (k : ClassId) (x0 : Addr) (x1 : Addr) (w_EMPTY_ELEMENTDATA : Addr) (w_DEFAULTCAPACITY_EMPTY_ELEMENTDATA : Addr) (w_EMPTY : Addr) (w_EMPTY_LIST : Addr) (k_w_EMPTY_ELEMENTDATA : ClassId) (k_w_DEFAULTCAPACITY_EMPTY_ELEMENTDATA : ClassId) (w_mir : Addr) (w_els : Addr) (k_els : ClassId) (h0 : Heap) (n0 : Nat) (v : Option Value) (h : Heap) : Prop :=
  (∃ (t : Addr), v = some (.ref t) ∧ Keep h0 h [] ∧ Exa Z h t "java/util/ImmutableCollections$List12" ∧ Fld Z h t "java/util/ImmutableCollections$List12" "e0" "Ljava/lang/Object;" (.ref x0) ∧ Fld Z h t "java/util/ImmutableCollections$List12" "e1" "Ljava/lang/Object;" (.ref x1) ∧ h0.size ≤ t)
theorem ef_212 (m : MethodId) (a1 : Addr) : entryFrame m #[(.ref a1)] 2 = mkF m 0 #[.val (.ref a1), .unset] [] := by first | (simp [entryFrame, mkF, argsToLocals, Value.category]; done) | rfl
set_option maxRecDepth 65536 in
set_option maxHeartbeats 40000000 in
theorem rm212 (l : Launch) (Z : State) (a0 : Array Value) (hw : ∀ d ∈ tables_1, d.before a0 Z = true) (ws : List Jvm.Cond) (a1 : Addr) (k : ClassId) (x0 : Addr) (x1 : Addr) (w_EMPTY_ELEMENTDATA : Addr) (w_DEFAULTCAPACITY_EMPTY_ELEMENTDATA : Addr) (w_EMPTY : Addr) (w_EMPTY_LIST : Addr) (k_w_EMPTY_ELEMENTDATA : ClassId) (k_w_DEFAULTCAPACITY_EMPTY_ELEMENTDATA : ClassId) (w_mir : Addr) (w_els : Addr) (k_els : ClassId) (h0 : Heap) (n0 : Nat) (O0 : Old Z n0 h0) (SF : Start Z w_EMPTY_ELEMENTDATA w_DEFAULTCAPACITY_EMPTY_ELEMENTDATA w_EMPTY w_EMPTY_LIST k_w_EMPTY_ELEMENTDATA k_w_DEFAULTCAPACITY_EMPTY_ELEMENTDATA w_mir w_els k_els) (f0 : Arv Z h0 a1 k (.object "java/lang/Object") (((0 : Int32) + (1 : Int32)) + (1 : Int32)) [(.ref x0), (.ref x1)] .null) (f1 : Exa Z h0 x0 "com/example/gantry/gantry/resolver/LocalCopy") (f2 : Exa Z h0 x1 "com/example/gantry/gantry/resolver/LocalCopy") :
    Meets l (⟨"java/util/List", "of", "([Ljava/lang/Object;)Ljava/util/List;"⟩ : MethodName) jdk_40_method_47_code 2 (some (.object "java/util/List")) ws ({ frames := 5, cells := 1, slots := 2, locals := 63 } : Room) ({ frames := 5, cells := 1, slots := 2, locals := 63 } : Room).cells ({ frames := 5, cells := 1, slots := 2, locals := 63 } : Room).slots Z #[(.ref a1)] h0 n0 (Q212 Z a1 k x0 x1 w_EMPTY_ELEMENTDATA w_DEFAULTCAPACITY_EMPTY_ELEMENTDATA w_EMPTY w_EMPTY_LIST k_w_EMPTY_ELEMENTDATA k_w_DEFAULTCAPACITY_EMPTY_ELEMENTDATA w_mir w_els k_els h0 n0) := by
  refine Meets.of (F := fun m => mkF m 0 #[.val (.ref a1), .unset] []) (plainFor_of_name pn_11) (fun m => ef_212 m a1) ?_
  intro p e s m below meth c T0 hx hby hml hown0 hnm hret hlk hZ X0 e0
  have hown : s.vm.findClass "java/util/List" = some m.cls := hown0
  have N0 := Fr.nil n0
  have KC0 := Keep.refl h0 []
  obtain ⟨z0, z1, z2, z3, z4, z5, z6, z7, z8, z9, z10, z11, zm, z13, z14, -⟩ := SF
  show Goes _ _ _ _ _ _ (T0.setTop (mkF m 0 #[.val (.ref a1), .unset] []))
  refine own_aloadN X0 hx (hb hby d21_0) rfl rfl ?_
  refine own_alen X0 hx hZ e0 f0 (hb hby d21_1) ?_
  refine own_tswIn X0 hx (pc' := 45) (hb hby d21_2) (by decide) (o := 43) (by decide) (by decide) (by decide) ?_
  refine own_new X0 hx hZ hown (hw _ (List.mem_of_getElem? (i := 155) rfl)) (hw _ (List.mem_of_getElem? (i := 156) rfl)) (hw _ (List.mem_of_getElem? (i := 157) rfl)) e0 (hb hby d21_45) (by decide) (by decide) (fun T1 h1 b1 g1 X1 e1 E1 A1 D1 => ?_)
  have ge_b1 : n0 ≤ b1 := Nat.le_trans (own_sz O0) (Nat.le_of_eq g1.symm)
  have sz_b1 : h0.size ≤ b1 := Nat.le_trans KC0.1 (Nat.le_of_eq g1.symm)
  have A2_a1 := f0.ext E1
  have O2 := O0.ext E1
  have KC2 := KC0.ext E1
  have F1_e0_b1 : Fld Z h1 b1 "java/util/ImmutableCollections$List12" "e0" "Ljava/lang/Object;" .null := D1 (Or.inr (hw _ (List.mem_of_getElem? (i := 181) rfl))) (ty := (.object "java/lang/Object")) (by decide)
  have F1_e1_b1 : Fld Z h1 b1 "java/util/ImmutableCollections$List12" "e1" "Ljava/lang/Object;" .null := D1 (Or.inr (hw _ (List.mem_of_getElem? (i := 184) rfl))) (ty := (.object "java/lang/Object")) (by decide)
  refine own_dup X1 hx (hb hby d21_48) rfl ?_
  refine own_aloadN X1 hx (hb hby d21_49) rfl rfl ?_
  refine own_iconst X1 hx (v := (0 : Int32)) (hb hby d21_50) rfl ?_
  show Goes _ _ _ _ _ _ (T1.setTop (mkF m 51 #[.val (.ref a1), .unset] [(.int (0 : Int32)), (.ref a1), (.ref b1), (.ref b1)]))
  refine own_aaload X1 hx hZ e1 A2_a1 rfl ⟨by decide, by decide⟩ (v := (.ref x0)) rfl (hb hby d21_51) ?_
  refine own_aloadN X1 hx (hb hby d21_52) rfl rfl ?_
  refine own_iconst X1 hx (v := (1 : Int32)) (hb hby d21_53) rfl ?_
  refine own_aaload X1 hx hZ e1 A2_a1 rfl ⟨by decide, by decide⟩ (v := (.ref x1)) rfl (hb hby d21_54) ?_
  refine own_special X1 hx hZ hown (y := (⟨"java/util/ImmutableCollections$List12", "<init>", "(Ljava/lang/Object;Ljava/lang/Object;)V"⟩ : MethodName)) rfl (hw _ (List.mem_of_getElem? (i := 252) rfl)) (hw _ (List.mem_of_getElem? (i := 253) rfl)) (hw _ (List.mem_of_getElem? (i := 157) rfl)) (hw _ (List.mem_of_getElem? (i := 254) rfl)) (a := b1) (by decide) (W := 1) (by decide) (by decide) N0 e1 (by rw [hml]; rfl) (argsL := [(.ref x0), (.ref x1)]) (rest := [(.ref b1)]) (lenOf pd_12 rfl) (Nat.le_of_eq rfl) (by decide) (by decide) (rm34 l Z a0 hw [] b1 x0 x1 (.null) (.null) w_EMPTY_ELEMENTDATA w_DEFAULTCAPACITY_EMPTY_ELEMENTDATA w_EMPTY w_EMPTY_LIST k_w_EMPTY_ELEMENTDATA k_w_DEFAULTCAPACITY_EMPTY_ELEMENTDATA w_mir w_els k_els h1 n0 O2 ⟨z0, z1, z2, z3, z4, z5, z6, z7, z8, z9, z10, z11, zm, z13, z14, trivial⟩ A1 F1_e0_b1 F1_e1_b1 ge_b1) rfl (hb hby d21_55) ?_
  intro v3 T3 lc3 X3 N3 hQ3
  obtain ⟨rfl, K3, r3_0, r3_1, r3_2⟩ := hQ3
  have O4 := O2.keep K3 (allS ge_b1 all0)
  have KC4 := KC2.trans K3 (allS (Or.inr sz_b1) all0)
  show Goes _ _ _ _ _ _ (T3.setTop (mkF m 58 #[.val (.ref a1), .unset] [(.ref b1)]))
  exact own_retR X3 hx N3 hlk (by decide) (by decide) hret rfl rfl rfl (hb hby d21_58) (⟨b1, rfl, KC4, r3_0, r3_1, r3_2, sz_b1⟩)
def Q152 (Z : State) (a1 : Addr) (b : Addr) (k : ClassId) (x0 : Addr) (x1 : Addr) (w_EMPTY_ELEMENTDATA : Addr) (w_DEFAULTCAPACITY_EMPTY_ELEMENTDATA : Addr) (w_EMPTY : Addr) (w_EMPTY_LIST : Addr) (k_w_EMPTY_ELEMENTDATA : ClassId) (k_w_DEFAULTCAPACITY_EMPTY_ELEMENTDATA : ClassId) (w_mir : Addr) (w_els : Addr) (k_els : ClassId) (h0 : Heap) (n0 : Nat) (v : Option Value) (h : Heap) : Prop :=
  (∃ (t : Addr), v = some (.ref t) ∧ Keep h0 h [] ∧ Exa Z h t "java/util/ImmutableCollections$List12" ∧ Fld Z h t "java/util/ImmutableCollections$List12" "e0" "Ljava/lang/Object;" (.ref x0) ∧ Fld Z h t "java/util/ImmutableCollections$List12" "e1" "Ljava/lang/Object;" (.ref x1) ∧ h0.size ≤ t)
theorem ef_152 (m : MethodId) (a1 : Addr) : entryFrame m #[(.ref a1)] 2 = mkF m 0 #[.val (.ref a1), .unset] [] := by first | (simp [entryFrame, mkF, argsToLocals, Value.category]; done) | rfl
set_option maxRecDepth 65536 in
set_option maxHeartbeats 40000000 in
theorem rm152 (l : Launch) (Z : State) (a0 : Array Value) (hw : ∀ d ∈ tables_1, d.before a0 Z = true) (ws : List Jvm.Cond) (a1 : Addr) (b : Addr) (k : ClassId) (x0 : Addr) (x1 : Addr) (w_EMPTY_ELEMENTDATA : Addr) (w_DEFAULTCAPACITY_EMPTY_ELEMENTDATA : Addr) (w_EMPTY : Addr) (w_EMPTY_LIST : Addr) (k_w_EMPTY_ELEMENTDATA : ClassId) (k_w_DEFAULTCAPACITY_EMPTY_ELEMENTDATA : ClassId) (w_mir : Addr) (w_els : Addr) (k_els : ClassId) (h0 : Heap) (n0 : Nat) (O0 : Old Z n0 h0) (SF : Start Z w_EMPTY_ELEMENTDATA w_DEFAULTCAPACITY_EMPTY_ELEMENTDATA w_EMPTY w_EMPTY_LIST k_w_EMPTY_ELEMENTDATA k_w_DEFAULTCAPACITY_EMPTY_ELEMENTDATA w_mir w_els k_els) (f0 : Exa Z h0 a1 "java/util/ArrayList") (f1 : Fld Z h0 a1 "java/util/ArrayList" "elementData" "[Ljava/lang/Object;" (.ref b)) (f2 : Fld Z h0 a1 "java/util/ArrayList" "size" "I" (.int (((0 : Int32) + (1 : Int32)) + (1 : Int32)))) (f3 : Arv Z h0 b k (.object "java/lang/Object") (10 : Int32) [(.ref x0), (.ref x1), .null, .null, .null, .null, .null, .null, .null, .null] .null) (f4 : Exa Z h0 b "[Ljava/lang/Object;") (f5 : Exa Z h0 x0 "com/example/gantry/gantry/resolver/LocalCopy") (f6 : Exa Z h0 x1 "com/example/gantry/gantry/resolver/LocalCopy") :
    Meets l (⟨"java/util/ImmutableCollections", "listCopy", "(Ljava/util/Collection;)Ljava/util/List;"⟩ : MethodName) jdk_56_method_3_code 2 (some (.object "java/util/List")) ws ({ frames := 6, cells := 2, slots := 4, locals := 76 } : Room) ({ frames := 6, cells := 2, slots := 4, locals := 76 } : Room).cells ({ frames := 6, cells := 2, slots := 4, locals := 76 } : Room).slots Z #[(.ref a1)] h0 n0 (Q152 Z a1 b k x0 x1 w_EMPTY_ELEMENTDATA w_DEFAULTCAPACITY_EMPTY_ELEMENTDATA w_EMPTY w_EMPTY_LIST k_w_EMPTY_ELEMENTDATA k_w_DEFAULTCAPACITY_EMPTY_ELEMENTDATA w_mir w_els k_els h0 n0) := by
  refine Meets.of (F := fun m => mkF m 0 #[.val (.ref a1), .unset] []) (plainFor_of_name pn_12) (fun m => ef_152 m a1) ?_
  intro p e s m below meth c T0 hx hby hml hown0 hnm hret hlk hZ X0 e0
  have hown : s.vm.findClass "java/util/ImmutableCollections" = some m.cls := hown0
  have N0 := Fr.nil n0
  have KC0 := Keep.refl h0 []
  obtain ⟨z0, z1, z2, z3, z4, z5, z6, z7, z8, z9, z10, z11, zm, z13, z14, -⟩ := SF
  show Goes _ _ _ _ _ _ (T0.setTop (mkF m 0 #[.val (.ref a1), .unset] []))
  refine own_aloadN X0 hx (hb hby d15_0) rfl rfl ?_
  refine own_instN X0 hx hZ hown (hw _ (List.mem_of_getElem? (i := 107) rfl)) e0 f0 (own_NSno (hw _ (List.mem_of_getElem? (i := 108) rfl)) (hw _ (List.mem_of_getElem? (i := 156) rfl)) (NS.step (hw _ (List.mem_of_getElem? (i := 108) rfl)) (NS.step (hw _ (List.mem_of_getElem? (i := 109) rfl)) (NS.step (hw _ (List.mem_of_getElem? (i := 110) rfl)) (own_NSroot (hw _ (List.mem_of_getElem? (i := 111) rfl)) (hw _ (List.mem_of_getElem? (i := 156) rfl)) (by decide)) (by decide)) (by decide)) (by decide)) (by decide)) (hb hby d15_1) (fun T1 X1 e1 => ?_)
  refine own_ifNo X1 hx (hb hby d15_4) ((if0 _ _).trans (teq (by decide : (0 : Int32) = (0 : Int32))).2) ?_
  refine own_aloadN X1 hx (hb hby d15_7) rfl rfl ?_
  refine own_instN X1 hx hZ hown (hw _ (List.mem_of_getElem? (i := 112) rfl)) e1 f0 (own_NSno (hw _ (List.mem_of_getElem? (i := 108) rfl)) (hw _ (List.mem_of_getElem? (i := 260) rfl)) (NS.step (hw _ (List.mem_of_getElem? (i := 108) rfl)) (NS.step (hw _ (List.mem_of_getElem? (i := 109) rfl)) (NS.step (hw _ (List.mem_of_getElem? (i := 110) rfl)) (own_NSroot (hw _ (List.mem_of_getElem? (i := 111) rfl)) (hw _ (List.mem_of_getElem? (i := 260) rfl)) (by decide)) (by decide)) (by decide)) (by decide)) (by decide)) (hb hby d15_8) (fun T2 X2 e2 => ?_)
  refine own_ifYes X2 hx (pc' := 31) (hb hby d15_11) ((if0 _ _).trans (teq (by decide : (0 : Int32) = (0 : Int32))).1) (by decide) (by decide) ?_
  refine own_aloadN X2 hx (hb hby d15_31) rfl rfl ?_
  refine own_iface X2 hx hZ hown (y := (⟨"java/util/Collection", "isEmpty", "()Z"⟩ : MethodName)) (z := (⟨"java/util/ArrayList", "isEmpty", "()Z"⟩ : MethodName)) (hw _ (List.mem_of_getElem? (i := 113) rfl)) (hw _ (List.mem_of_getElem? (i := 114) rfl)) (hw _ (List.mem_of_getElem? (i := 115) rfl)) (hw _ (List.mem_of_getElem? (i := 116) rfl)) (hw _ (List.mem_of_getElem? (i := 117) rfl)) (hw _ (List.mem_of_getElem? (i := 118) rfl)) (hw _ (List.mem_of_getElem? (i := 119) rfl)) (hw _ (List.mem_of_getElem? (i := 120) rfl)) (hw _ (List.mem_of_getElem? (i := 27) rfl)) (hw _ (List.mem_of_getElem? (i := 121) rfl)) (a := a1) f0 (by decide) (W := 0) (by decide) (by decide) N0 e2 (by rw [hml]; rfl) (argsL := []) (rest := []) (lenOf pd_9 rfl) (Nat.le_of_eq rfl) (by decide) (by decide) (rm16 l Z a0 hw [] a1 (((0 : Int32) + (1 : Int32)) + (1 : Int32)) h0 n0 O0 f2) rfl (hb hby d15_32) ?_
  intro v3 T3 lc3 X3 N3 hQ3
  obtain ⟨rfl, e3⟩ := hQ3
  refine own_ifYes X3 hx (pc' := 44) (hb hby d15_37) ((if0 _ _).trans (teq ((own_bz (by decide)) : (if (((0 : Int32) + (1 : Int32)) + (1 : Int32)) = (0 : Int32) then (1 : Int32) else (0 : Int32)) = (0 : Int32))).1) (by decide) (by decide) ?_
  refine own_aloadN X3 hx (hb hby d15_44) rfl rfl ?_
  refine own_iface X3 hx hZ hown (y := (⟨"java/util/Collection", "toArray", "()[Ljava/lang/Object;"⟩ : MethodName)) (z := (⟨"java/util/ArrayList", "toArray", "()[Ljava/lang/Object;"⟩ : MethodName)) (hw _ (List.mem_of_getElem? (i := 122) rfl)) (hw _ (List.mem_of_getElem? (i := 123) rfl)) (hw _ (List.mem_of_getElem? (i := 124) rfl)) (hw _ (List.mem_of_getElem? (i := 125) rfl)) (hw _ (List.mem_of_getElem? (i := 126) rfl)) (hw _ (List.mem_of_getElem? (i := 127) rfl)) (hw _ (List.mem_of_getElem? (i := 128) rfl)) (hw _ (List.mem_of_getElem? (i := 120) rfl)) (hw _ (List.mem_of_getElem? (i := 27) rfl)) (hw _ (List.mem_of_getElem? (i := 129) rfl)) (a := a1) f0 (by decide) (W := 0) (by decide) (by decide) N3 e3 (by rw [hml]; rfl) (argsL := []) (rest := []) (lenOf pd_3 rfl) (Nat.le_of_eq rfl) (by decide) (by decide) (rm172 l Z a0 hw [] a1 b k x0 x1 w_EMPTY_ELEMENTDATA w_DEFAULTCAPACITY_EMPTY_ELEMENTDATA w_EMPTY w_EMPTY_LIST k_w_EMPTY_ELEMENTDATA k_w_DEFAULTCAPACITY_EMPTY_ELEMENTDATA w_mir w_els k_els h0 n0 O0 ⟨z0, z1, z2, z3, z4, z5, z6, z7, z8, z9, z10, z11, zm, z13, z14, trivial⟩ f0 f1 f2 f3 f4 f5 f6) rfl (hb hby d15_45) ?_
  intro v4 T4 lc4 X4 N4 hQ4
  obtain ⟨b2_4, k2_4, rfl, K4, r4_0, r4_1, r4_2⟩ := hQ4
  have E5_x0 := f5.keep K4
  have E5_x1 := f6.keep K4
  have O5 := O0.keep K4 all0
  have KC5 := KC0.trans K4 all0
  have ge_b2_4 : n0 ≤ b2_4 := Nat.le_trans (own_sz O0) r4_2
  have sz_b2_4 : h0.size ≤ b2_4 := Nat.le_trans KC0.1 r4_2
  refine own_callS X4 hx hZ hown (y := (⟨"java/util/List", "of", "([Ljava/lang/Object;)Ljava/util/List;"⟩ : MethodName)) (hw _ (List.mem_of_getElem? (i := 152) rfl)) (hw _ (List.mem_of_getElem? (i := 153) rfl)) (hw _ (List.mem_of_getElem? (i := 101) rfl)) (hw _ (List.mem_of_getElem? (i := 154) rfl)) (by decide) (W := 0) (by decide) (by decide) N4 rfl (by rw [hml]; rfl) (argsL := [(.ref b2_4)]) (rest := []) (lenOf pd_10 rfl) (Nat.le_of_eq rfl) (by decide) (by decide) (rm212 l Z a0 hw [] b2_4 k2_4 x0 x1 w_EMPTY_ELEMENTDATA w_DEFAULTCAPACITY_EMPTY_ELEMENTDATA w_EMPTY w_EMPTY_LIST k_w_EMPTY_ELEMENTDATA k_w_DEFAULTCAPACITY_EMPTY_ELEMENTDATA w_mir w_els k_els T4.heap n0 O5 ⟨z0, z1, z2, z3, z4, z5, z6, z7, z8, z9, z10, z11, zm, z13, z14, trivial⟩ r4_0 E5_x0 E5_x1) rfl (hb hby d15_50) ?_
  intro v6 T6 lc6 X6 N6 hQ6
  obtain ⟨t_6, rfl, K6, r6_0, r6_1, r6_2, r6_3⟩ := hQ6
  have O7 := O5.keep K6 all0
  have KC7 := KC5.trans K6 all0
  have ge_t_6 : n0 ≤ t_6 := Nat.le_trans (own_sz O5) r6_3
  have sz_t_6 : h0.size ≤ t_6 := Nat.le_trans KC5.1 r6_3
  show Goes _ _ _ _ _ _ (T6.setTop (mkF m 53 #[.val (.ref a1), .unset] [(.ref t_6)]))
  exact own_retR X6 hx N6 hlk (by decide) (by decide) hret rfl rfl rfl (hb hby d15_53) (⟨t_6, rfl, KC7, r6_0, r6_1, r6_2, sz_t_6⟩)
def Q142 (Z : State) (a1 : Addr) (b : Addr) (k : ClassId) (x0 : Addr) (x1 : Addr) (w_EMPTY_ELEMENTDATA : Addr) (w_DEFAULTCAPACITY_EMPTY_ELEMENTDATA : Addr) (w_EMPTY : Addr) (w_EMPTY_LIST : Addr) (k_w_EMPTY_ELEMENTDATA : ClassId) (k_w_DEFAULTCAPACITY_EMPTY_ELEMENTDATA : ClassId) (w_mir : Addr) (w_els : Addr) (k_els : ClassId) (h0 : Heap) (n0 : Nat) (v : Option Value) (h : Heap) : Prop :=
  (∃ (t : Addr), v = some (.ref t) ∧ Keep h0 h [] ∧ Exa Z h t "java/util/ImmutableCollections$List12" ∧ Fld Z h t "java/util/ImmutableCollections$List12" "e0" "Ljava/lang/Object;" (.ref x0) ∧ Fld Z h t "java/util/ImmutableCollections$List12" "e1" "Ljava/lang/Object;" (.ref x1) ∧ h0.size ≤ t)
theorem ef_142 (m : MethodId) (a1 : Addr) : entryFrame m #[(.ref a1)] 1 = mkF m 0 #[.val (.ref a1)] [] := by first | (simp [entryFrame, mkF, argsToLocals, Value.category]; done) | rfl
set_option maxRecDepth 65536 in
set_option maxHeartbeats 40000000 in
theorem rm142 (l : Launch) (Z : State) (a0 : Array Value) (hw : ∀ d ∈ tables_1, d.before a0 Z = true) (ws : List Jvm.Cond) (a1 : Addr) (b : Addr) (k : ClassId) (x0 : Addr) (x1 : Addr) (w_EMPTY_ELEMENTDATA : Addr) (w_DEFAULTCAPACITY_EMPTY_ELEMENTDATA : Addr) (w_EMPTY : Addr) (w_EMPTY_LIST : Addr) (k_w_EMPTY_ELEMENTDATA : ClassId) (k_w_DEFAULTCAPACITY_EMPTY_ELEMENTDATA : ClassId) (w_mir : Addr) (w_els : Addr) (k_els : ClassId) (h0 : Heap) (n0 : Nat) (O0 : Old Z n0 h0) (SF : Start Z w_EMPTY_ELEMENTDATA w_DEFAULTCAPACITY_EMPTY_ELEMENTDATA w_EMPTY w_EMPTY_LIST k_w_EMPTY_ELEMENTDATA k_w_DEFAULTCAPACITY_EMPTY_ELEMENTDATA w_mir w_els k_els) (f0 : Exa Z h0 a1 "java/util/ArrayList") (f1 : Fld Z h0 a1 "java/util/ArrayList" "elementData" "[Ljava/lang/Object;" (.ref b)) (f2 : Fld Z h0 a1 "java/util/ArrayList" "size" "I" (.int (((0 : Int32) + (1 : Int32)) + (1 : Int32)))) (f3 : Arv Z h0 b k (.object "java/lang/Object") (10 : Int32) [(.ref x0), (.ref x1), .null, .null, .null, .null, .null, .null, .null, .null] .null) (f4 : Exa Z h0 b "[Ljava/lang/Object;") (f5 : Exa Z h0 x0 "com/example/gantry/gantry/resolver/LocalCopy") (f6 : Exa Z h0 x1 "com/example/gantry/gantry/resolver/LocalCopy") :
    Meets l (⟨"java/util/List", "copyOf", "(Ljava/util/Collection;)Ljava/util/List;"⟩ : MethodName) jdk_40_method_48_code 1 (some (.object "java/util/List")) ws ({ frames := 7, cells := 2, slots := 4, locals := 89 } : Room) ({ frames := 7, cells := 2, slots := 4, locals := 89 } : Room).cells ({ frames := 7, cells := 2, slots := 4, locals := 89 } : Room).slots Z #[(.ref a1)] h0 n0 (Q142 Z a1 b k x0 x1 w_EMPTY_ELEMENTDATA w_DEFAULTCAPACITY_EMPTY_ELEMENTDATA w_EMPTY w_EMPTY_LIST k_w_EMPTY_ELEMENTDATA k_w_DEFAULTCAPACITY_EMPTY_ELEMENTDATA w_mir w_els k_els h0 n0) := by
  refine Meets.of (F := fun m => mkF m 0 #[.val (.ref a1)] []) (plainFor_of_name pn_11) (fun m => ef_142 m a1) ?_
  intro p e s m below meth c T0 hx hby hml hown0 hnm hret hlk hZ X0 e0
  have hown : s.vm.findClass "java/util/List" = some m.cls := hown0
  have N0 := Fr.nil n0
  have KC0 := Keep.refl h0 []
  obtain ⟨z0, z1, z2, z3, z4, z5, z6, z7, z8, z9, z10, z11, zm, z13, z14, -⟩ := SF
  show Goes _ _ _ _ _ _ (T0.setTop (mkF m 0 #[.val (.ref a1)] []))
  refine own_aloadN X0 hx (hb hby d14_0) rfl rfl ?_
  refine own_callS X0 hx hZ hown (y := (⟨"java/util/ImmutableCollections", "listCopy", "(Ljava/util/Collection;)Ljava/util/List;"⟩ : MethodName)) (hw _ (List.mem_of_getElem? (i := 103) rfl)) (hw _ (List.mem_of_getElem? (i := 104) rfl)) (hw _ (List.mem_of_getElem? (i := 105) rfl)) (hw _ (List.mem_of_getElem? (i := 106) rfl)) (by decide) (W := 0) (by decide) (by decide) N0 e0 (by rw [hml]; rfl) (argsL := [(.ref a1)]) (rest := []) (lenOf pd_11 rfl) (Nat.le_of_eq rfl) (by decide) (by decide) (rm152 l Z a0 hw [] a1 b k x0 x1 w_EMPTY_ELEMENTDATA w_DEFAULTCAPACITY_EMPTY_ELEMENTDATA w_EMPTY w_EMPTY_LIST k_w_EMPTY_ELEMENTDATA k_w_DEFAULTCAPACITY_EMPTY_ELEMENTDATA w_mir w_els k_els h0 n0 O0 ⟨z0, z1, z2, z3, z4, z5, z6, z7, z8, z9, z10, z11, zm, z13, z14, trivial⟩ f0 f1 f2 f3 f4 f5 f6) rfl (hb hby d14_1) ?_
  intro v1 T1 lc1 X1 N1 hQ1
  obtain ⟨t_1, rfl, K1, r1_0, r1_1, r1_2, r1_3⟩ := hQ1
  have O2 := O0.keep K1 all0
  have KC2 := KC0.trans K1 all0
  have ge_t_1 : n0 ≤ t_1 := Nat.le_trans (own_sz O0) r1_3
  have sz_t_1 : h0.size ≤ t_1 := Nat.le_trans KC0.1 r1_3
  show Goes _ _ _ _ _ _ (T1.setTop (mkF m 4 #[.val (.ref a1)] [(.ref t_1)]))
  exact own_retR X1 hx N1 hlk (by decide) (by decide) hret rfl rfl rfl (hb hby d14_4) (⟨t_1, rfl, KC2, r1_0, r1_1, r1_2, sz_t_1⟩)
def Q193 (Z : State) (a1 : Addr) (k : ClassId) (x0 : Addr) (x1 : Addr) (x2 : Addr) (w_EMPTY_ELEMENTDATA : Addr) (w_DEFAULTCAPACITY_EMPTY_ELEMENTDATA : Addr) (w_EMPTY : Addr) (w_EMPTY_LIST : Addr) (k_w_EMPTY_ELEMENTDATA : ClassId) (k_w_DEFAULTCAPACITY_EMPTY_ELEMENTDATA : ClassId) (w_mir : Addr) (w_els : Addr) (k_els : ClassId) (h0 : Heap) (n0 : Nat) (v : Option Value) (h : Heap) : Prop :=
  (∃ (b2 : Addr) (k2 : ClassId), v = some (.ref b2) ∧ Keep h0 h [] ∧ Arv Z h b2 k2 (.object "java/lang/Object") ((((0 : Int32) + (1 : Int32)) + (1 : Int32)) + (1 : Int32)) [(.ref x0), (.ref x1), (.ref x2)] .null ∧ Exa Z h b2 "[Ljava/lang/Object;" ∧ h0.size ≤ b2)
theorem ef_193 (m : MethodId) (a1 : Addr) : entryFrame m #[(.ref a1), (.int ((((0 : Int32) + (1 : Int32)) + (1 : Int32)) + (1 : Int32))), (.ref w_mir)] 4 = mkF m 0 #[.val (.ref a1), .val (.int ((((0 : Int32) + (1 : Int32)) + (1 : Int32)) + (1 : Int32))), .val (.ref w_mir), .unset] [] := by first | (simp [entryFrame, mkF, argsToLocals, Value.category]; done) | rfl
set_option maxRecDepth 65536 in
set_option maxHeartbeats 40000000 in
theorem rm193 (l : Launch) (Z : State) (a0 : Array Value) (hw : ∀ d ∈ tables_1, d.before a0 Z = true) (ws : List Jvm.Cond) (a1 : Addr) (k : ClassId) (x0 : Addr) (x1 : Addr) (x2 : Addr) (w_EMPTY_ELEMENTDATA : Addr) (w_DEFAULTCAPACITY_EMPTY_ELEMENTDATA : Addr) (w_EMPTY : Addr) (w_EMPTY_LIST : Addr) (k_w_EMPTY_ELEMENTDATA : ClassId) (k_w_DEFAULTCAPACITY_EMPTY_ELEMENTDATA : ClassId) (w_mir : Addr) (w_els : Addr) (k_els : ClassId) (h0 : Heap) (n0 : Nat) (O0 : Old Z n0 h0) (SF : Start Z w_EMPTY_ELEMENTDATA w_DEFAULTCAPACITY_EMPTY_ELEMENTDATA w_EMPTY w_EMPTY_LIST k_w_EMPTY_ELEMENTDATA k_w_DEFAULTCAPACITY_EMPTY_ELEMENTDATA w_mir w_els k_els) (f0 : Arv Z h0 a1 k (.object "java/lang/Object") (10 : Int32) [(.ref x0), (.ref x1), (.ref x2), .null, .null, .null, .null, .null, .null, .null] .null) (f1 : Exa Z h0 a1 "[Ljava/lang/Object;") (f2 : Exa Z h0 x0 "com/example/gantry/gantry/resolver/LocalCopy") (f3 : Exa Z h0 x1 "com/example/gantry/gantry/resolver/LocalCopy") (f4 : Exa Z h0 x2 "com/example/gantry/gantry/resolver/LocalCopy") :
    Meets l (⟨"java/util/Arrays", "copyOf", "([Ljava/lang/Object;ILjava/lang/Class;)[Ljava/lang/Object;"⟩ : MethodName) jdk_65_method_120_code 4 (some (.array (.object "java/lang/Object"))) ws ({ frames := 1, cells := 1, slots := 3, locals := 18 } : Room) ({ frames := 1, cells := 1, slots := 3, locals := 18 } : Room).cells ({ frames := 1, cells := 1, slots := 3, locals := 18 } : Room).slots Z #[(.ref a1), (.int ((((0 : Int32) + (1 : Int32)) + (1 : Int32)) + (1 : Int32))), (.ref w_mir)] h0 n0 (Q193 Z a1 k x0 x1 x2 w_EMPTY_ELEMENTDATA w_DEFAULTCAPACITY_EMPTY_ELEMENTDATA w_EMPTY w_EMPTY_LIST k_w_EMPTY_ELEMENTDATA k_w_DEFAULTCAPACITY_EMPTY_ELEMENTDATA w_mir w_els k_els h0 n0) := by
  refine Meets.of (F := fun m => mkF m 0 #[.val (.ref a1), .val (.int ((((0 : Int32) + (1 : Int32)) + (1 : Int32)) + (1 : Int32))), .val (.ref w_mir), .unset] []) (plainFor_of_name pn_9) (fun m => ef_193 m a1) ?_
  intro p e s m below meth c T0 hx hby hml hown0 hnm hret hlk hZ X0 e0
  have hown : s.vm.findClass "java/util/Arrays" = some m.cls := hown0
  have N0 := Fr.nil n0
  have KC0 := Keep.refl h0 []
  obtain ⟨z0, z1, z2, z3, z4, z5, z6, z7, z8, z9, z10, z11, zm, z13, z14, -⟩ := SF
  show Goes _ _ _ _ _ _ (T0.setTop (mkF m 0 #[.val (.ref a1), .val (.int ((((0 : Int32) + (1 : Int32)) + (1 : Int32)) + (1 : Int32))), .val (.ref w_mir), .unset] []))
  refine own_aloadN X0 hx (hb hby d19_0) rfl rfl ?_
  refine own_ldcMir X0 hx hZ hown (hw _ (List.mem_of_getElem? (i := 143) rfl)) e0 zm (hb hby d19_1) (fun T1 X1 e1 => ?_)
  refine own_acmp X1 hx rfl rfl (same := true) (pc' := 6) (hb hby d19_3) (decide_eq_true rfl) (by decide) (by decide) ?_
  refine own_iloadN X1 hx (hb hby d19_6) rfl ?_
  refine own_newRE X1 hx hZ hown (ad := "[Ljava/lang/Object;") (by decide +kernel) (hw _ (List.mem_of_getElem? (i := 144) rfl)) (hw _ (List.mem_of_getElem? (i := 78) rfl)) e1 (hb hby d19_7) (by decide) (cap := 3) (by decide) (by decide) (by decide) (by decide) (fun T2 h2 b2 k2 g2 X2 e2 E2 A2 O2_ B2 => ?_)
  have ge_b2 : n0 ≤ b2 := Nat.le_trans (own_sz O0) (Nat.le_of_eq g2.symm)
  have sz_b2 : h0.size ≤ b2 := Nat.le_trans KC0.1 (Nat.le_of_eq g2.symm)
  have E3_x0 := f2.ext E2
  have E3_x1 := f3.ext E2
  have E3_x2 := f4.ext E2
  have A3_a1 := f0.ext E2
  have O3 := O0.ext E2
  have KC3 := KC0.ext E2
  have V2 : Arv Z h2 b2 k2 (.object "java/lang/Object") ((((0 : Int32) + (1 : Int32)) + (1 : Int32)) + (1 : Int32)) [.null, .null, .null] .null := A2.pad (pad_rep [] .null 3)
  refine own_goto X2 hx (pc' := 24) (hb hby d19_10) (by decide) (by decide) ?_
  refine own_astoreN X2 hx (Ls' := #[.val (.ref a1), .val (.int ((((0 : Int32) + (1 : Int32)) + (1 : Int32)) + (1 : Int32))), .val (.ref w_mir), .val (.ref b2)]) (hb hby d19_24) rfl rfl ?_
  refine own_aloadN X2 hx (hb hby d19_25) rfl rfl ?_
  show Goes _ _ _ _ _ _ (T2.setTop (mkF m 26 #[.val (.ref a1), .val (.int ((((0 : Int32) + (1 : Int32)) + (1 : Int32)) + (1 : Int32))), .val (.ref w_mir), .val (.ref b2)] [(.ref a1)]))
  refine own_iconst X2 hx (v := (0 : Int32)) (hb hby d19_26) rfl ?_
  refine own_aloadN X2 hx (hb hby d19_27) rfl rfl ?_
  refine own_iconst X2 hx (v := (0 : Int32)) (hb hby d19_28) rfl ?_
  refine own_aloadN X2 hx (hb hby d19_29) rfl rfl ?_
  refine own_alen X2 hx hZ e2 A3_a1 (hb hby d19_30) ?_
  refine own_iloadN X2 hx (hb hby d19_31) rfl ?_
  refine own_callS X2 hx hZ hown (y := (⟨"java/lang/Math", "min", "(II)I"⟩ : MethodName)) (hw _ (List.mem_of_getElem? (i := 145) rfl)) (hw _ (List.mem_of_getElem? (i := 146) rfl)) (hw _ (List.mem_of_getElem? (i := 75) rfl)) (hw _ (List.mem_of_getElem? (i := 147) rfl)) (by decide) (W := 4) (by decide) (by decide) N0 e2 (by rw [hml]; rfl) (argsL := [(.int (10 : Int32)), (.int ((((0 : Int32) + (1 : Int32)) + (1 : Int32)) + (1 : Int32)))]) (rest := [(.int (0 : Int32)), (.ref b2), (.int (0 : Int32)), (.ref a1)]) (lenOf pd_1 rfl) (Nat.le_of_eq rfl) (by decide) (by decide) (rm20 l Z a0 hw [] (10 : Int32) ((((0 : Int32) + (1 : Int32)) + (1 : Int32)) + (1 : Int32)) h2 n0 O3) rfl (hb hby d19_32) ?_
  intro v4 T4 lc4 X4 N4 hQ4
  rcases hQ4 with hQ4_0 | hQ4_1
  ·
    obtain ⟨rfl, hq4_0_0, e4⟩ := hQ4_0
    obtain ⟨cl5, Ar5, q5, -⟩ := id V2
    refine own_cpA X4 hx hZ hown (hw _ (List.mem_of_getElem? (i := 148) rfl)) (hw _ (List.mem_of_getElem? (i := 151) rfl)) (hw _ (List.mem_of_getElem? (i := 149) rfl)) (hw _ (List.mem_of_getElem? (i := 150) rfl)) e4 A3_a1 V2 (us := [(.ref x0), (.ref x1), (.ref x2)]) (vr := [(.ref x0), (.ref x1), (.ref x2)]) (Or.inr ⟨rfl, rfl, ⟨(Sto.ofV Ar5 q5 O2_ (Ins.of_exa E3_x0 (hw _ (List.mem_of_getElem? (i := 79) rfl)))), ⟨(Sto.ofV Ar5 q5 O2_ (Ins.of_exa E3_x1 (hw _ (List.mem_of_getElem? (i := 79) rfl)))), ⟨(Sto.ofV Ar5 q5 O2_ (Ins.of_exa E3_x2 (hw _ (List.mem_of_getElem? (i := 79) rfl)))), trivial⟩⟩⟩⟩) (by decide) (by decide) (by decide) (by decide) (by decide) rfl (Nat.le_of_ble_eq_true rfl) rfl N4 ge_b2 (by rw [hml]; rfl) (hb hby d19_35) (by decide) (W := 0) (Nat.le_of_eq rfl) (by decide) (fun T5 h5 lc5 X5 e5 N5 K5 V5 => ?_)
    have E6_b2 := B2.keep K5
    have O6 := O3.keep K5 (allS ge_b2 all0)
    have KC6 := KC3.trans K5 (allS (Or.inr sz_b2) all0)
    refine own_aloadN X5 hx (hb hby d19_38) rfl rfl ?_
    show Goes _ _ _ _ _ _ (T5.setTop (mkF m 39 #[.val (.ref a1), .val (.int ((((0 : Int32) + (1 : Int32)) + (1 : Int32)) + (1 : Int32))), .val (.ref w_mir), .val (.ref b2)] [(.ref b2)]))
    exact own_retR X5 hx N5 hlk (by decide) (by decide) hret rfl rfl rfl (hb hby d19_39) (by rw [e5]; exact ⟨b2, k2, rfl, KC6, V5, E6_b2, sz_b2⟩)
  ·
    obtain ⟨rfl, hq4_1_0, e4⟩ := hQ4_1
    exact absurd (by decide) hq4_1_0
def Q183 (Z : State) (a1 : Addr) (k : ClassId) (x0 : Addr) (x1 : Addr) (x2 : Addr) (w_EMPTY_ELEMENTDATA : Addr) (w_DEFAULTCAPACITY_EMPTY_ELEMENTDATA : Addr) (w_EMPTY : Addr) (w_EMPTY_LIST : Addr) (k_w_EMPTY_ELEMENTDATA : ClassId) (k_w_DEFAULTCAPACITY_EMPTY_ELEMENTDATA : ClassId) (w_mir : Addr) (w_els : Addr) (k_els : ClassId) (h0 : Heap) (n0 : Nat) (v : Option Value) (h : Heap) : Prop :=
  (∃ (b2 : Addr) (k2 : ClassId), v = some (.ref b2) ∧ Keep h0 h [] ∧ Arv Z h b2 k2 (.object "java/lang/Object") ((((0 : Int32) + (1 : Int32)) + (1 : Int32)) + (1 : Int32)) [(.ref x0), (.ref x1), (.ref x2)] .null ∧ Exa Z h b2 "[Ljava/lang/Object;" ∧ h0.size ≤ b2)
theorem ef_183 (m : MethodId) (a1 : Addr) : entryFrame m #[(.ref a1), (.int ((((0 : Int32) + (1 : Int32)) + (1 : Int32)) + (1 : Int32)))] 2 = mkF m 0 #[.val (.ref a1), .val (.int ((((0 : Int32) + (1 : Int32)) + (1 : Int32)) + (1 : Int32)))] [] := by first | (simp [entryFrame, mkF, argsToLocals, Value.category]; done) | rfl
set_option maxRecDepth 65536 in
set_option maxHeartbeats 40000000 in
theorem rm183 (l : Launch) (Z : State) (a0 : Array Value) (hw : ∀ d ∈ tables_1, d.before a0 Z = true) (ws : List Jvm.Cond) (a1 : Addr) (k : ClassId) (x0 : Addr) (x1 : Addr) (x2 : Addr) (w_EMPTY_ELEMENTDATA : Addr) (w_DEFAULTCAPACITY_EMPTY_ELEMENTDATA : Addr) (w_EMPTY : Addr) (w_EMPTY_LIST : Addr) (k_w_EMPTY_ELEMENTDATA : ClassId) (k_w_DEFAULTCAPACITY_EMPTY_ELEMENTDATA : ClassId) (w_mir : Addr) (w_els : Addr) (k_els : ClassId) (h0 : Heap) (n0 : Nat) (O0 : Old Z n0 h0) (SF : Start Z w_EMPTY_ELEMENTDATA w_DEFAULTCAPACITY_EMPTY_ELEMENTDATA w_EMPTY w_EMPTY_LIST k_w_EMPTY_ELEMENTDATA k_w_DEFAULTCAPACITY_EMPTY_ELEMENTDATA w_mir w_els k_els) (f0 : Arv Z h0 a1 k (.object "java/lang/Object") (10 : Int32) [(.ref x0), (.ref x1), (.ref x2), .null, .null, .null, .null, .null, .null, .null] .null) (f1 : Exa Z h0 a1 "[Ljava/lang/Object;") (f2 : Exa Z h0 x0 "com/example/gantry/gantry/resolver/LocalCopy") (f3 : Exa Z h0 x1 "com/example/gantry/gantry/resolver/LocalCopy") (f4 : Exa Z h0 x2 "com/example/gantry/gantry/resolver/LocalCopy") :
    Meets l (⟨"java/util/Arrays", "copyOf", "([Ljava/lang/Object;I)[Ljava/lang/Object;"⟩ : MethodName) jdk_65_method_119_code 2 (some (.array (.object "java/lang/Object"))) ws ({ frames := 2, cells := 1, slots := 3, locals := 33 } : Room) ({ frames := 2, cells := 1, slots := 3, locals := 33 } : Room).cells ({ frames := 2, cells := 1, slots := 3, locals := 33 } : Room).slots Z #[(.ref a1), (.int ((((0 : Int32) + (1 : Int32)) + (1 : Int32)) + (1 : Int32)))] h0 n0 (Q183 Z a1 k x0 x1 x2 w_EMPTY_ELEMENTDATA w_DEFAULTCAPACITY_EMPTY_ELEMENTDATA w_EMPTY w_EMPTY_LIST k_w_EMPTY_ELEMENTDATA k_w_DEFAULTCAPACITY_EMPTY_ELEMENTDATA w_mir w_els k_els h0 n0) := by
  refine Meets.of (F := fun m => mkF m 0 #[.val (.ref a1), .val (.int ((((0 : Int32) + (1 : Int32)) + (1 : Int32)) + (1 : Int32)))] []) (plainFor_of_name pn_9) (fun m => ef_183 m a1) ?_
  intro p e s m below meth c T0 hx hby hml hown0 hnm hret hlk hZ X0 e0
  have hown : s.vm.findClass "java/util/Arrays" = some m.cls := hown0
  have N0 := Fr.nil n0
  have KC0 := Keep.refl h0 []
  obtain ⟨z0, z1, z2, z3, z4, z5, z6, z7, z8, z9, z10, z11, zm, z13, z14, -⟩ := SF
  show Goes _ _ _ _ _ _ (T0.setTop (mkF m 0 #[.val (.ref a1), .val (.int ((((0 : Int32) + (1 : Int32)) + (1 : Int32)) + (1 : Int32)))] []))
  refine own_aloadN X0 hx (hb hby d18_0) rfl rfl ?_
  refine own_iloadN X0 hx (hb hby d18_1) rfl ?_
  refine own_aloadN X0 hx (hb hby d18_2) rfl rfl ?_
  refine own_gcls X0 hx hZ hown (hw _ (List.mem_of_getElem? (i := 134) rfl)) (hw _ (List.mem_of_getElem? (i := 135) rfl)) (hw _ (List.mem_of_getElem? (i := 111) rfl)) (hw _ (List.mem_of_getElem? (i := 137) rfl)) (hw _ (List.mem_of_getElem? (i := 136) rfl)) (hw _ (List.mem_of_getElem? (i := 138) rfl)) e0 f1 zm (by rw [hml]; rfl) (hb hby d18_3) (by decide) (W := 2) (Nat.le_of_eq rfl) (by decide) (fun T1 X1 e1 => ?_)
  refine own_callS X1 hx hZ hown (y := (⟨"java/util/Arrays", "copyOf", "([Ljava/lang/Object;ILjava/lang/Class;)[Ljava/lang/Object;"⟩ : MethodName)) (hw _ (List.mem_of_getElem? (i := 140) rfl)) (hw _ (List.mem_of_getElem? (i := 141) rfl)) (hw _ (List.mem_of_getElem? (i := 132) rfl)) (hw _ (List.mem_of_getElem? (i := 142) rfl)) (by decide) (W := 0) (by decide) (by decide) N0 e1 (by rw [hml]; rfl) (argsL := [(.ref a1), (.int ((((0 : Int32) + (1 : Int32)) + (1 : Int32)) + (1 : Int32))), (.ref w_mir)]) (rest := []) (lenOf pd_5 rfl) (Nat.le_of_eq rfl) (by decide) (by decide) (rm193 l Z a0 hw [] a1 k x0 x1 x2 w_EMPTY_ELEMENTDATA w_DEFAULTCAPACITY_EMPTY_ELEMENTDATA w_EMPTY w_EMPTY_LIST k_w_EMPTY_ELEMENTDATA k_w_DEFAULTCAPACITY_EMPTY_ELEMENTDATA w_mir w_els k_els h0 n0 O0 ⟨z0, z1, z2, z3, z4, z5, z6, z7, z8, z9, z10, z11, zm, z13, z14, trivial⟩ f0 f1 f2 f3 f4) rfl (hb hby d18_6) ?_
  intro v2 T2 lc2 X2 N2 hQ2
  obtain ⟨b2_2, k2_2, rfl, K2, r2_0, r2_1, r2_2⟩ := hQ2
  have O3 := O0.keep K2 all0
  have KC3 := KC0.trans K2 all0
  have ge_b2_2 : n0 ≤ b2_2 := Nat.le_trans (own_sz O0) r2_2
  have sz_b2_2 : h0.size ≤ b2_2 := Nat.le_trans KC0.1 r2_2
  show Goes _ _ _ _ _ _ (T2.setTop (mkF m 9 #[.val (.ref a1), .val (.int ((((0 : Int32) + (1 : Int32)) + (1 : Int32)) + (1 : Int32)))] [(.ref b2_2)]))
  exact own_retR X2 hx N2 hlk (by decide) (by decide) hret rfl rfl rfl (hb hby d18_9) (⟨b2_2, k2_2, rfl, KC3, r2_0, r2_1, sz_b2_2⟩)
def Q173 (Z : State) (a1 : Addr) (b : Addr) (k : ClassId) (x0 : Addr) (x1 : Addr) (x2 : Addr) (w_EMPTY_ELEMENTDATA : Addr) (w_DEFAULTCAPACITY_EMPTY_ELEMENTDATA : Addr) (w_EMPTY : Addr) (w_EMPTY_LIST : Addr) (k_w_EMPTY_ELEMENTDATA : ClassId) (k_w_DEFAULTCAPACITY_EMPTY_ELEMENTDATA : ClassId) (w_mir : Addr) (w_els : Addr) (k_els : ClassId) (h0 : Heap) (n0 : Nat) (v : Option Value) (h : Heap) : Prop :=
  (∃ (b2 : Addr) (k2 : ClassId), v = some (.ref b2) ∧ Keep h0 h [] ∧ Arv Z h b2 k2 (.object "java/lang/Object") ((((0 : Int32) + (1 : Int32)) + (1 : Int32)) + (1 : Int32)) [(.ref x0), (.ref x1), (.ref x2)] .null ∧ Exa Z h b2 "[Ljava/lang/Object;" ∧ h0.size ≤ b2)
theorem ef_173 (m : MethodId) (a1 : Addr) : entryFrame m #[(.ref a1)] 1 = mkF m 0 #[.val (.ref a1)] [] := by first | (simp [entryFrame, mkF, argsToLocals, Value.category]; done) | rfl
set_option maxRecDepth 65536 in
set_option maxHeartbeats 40000000 in
theorem rm173 (l : Launch) (Z : State) (a0 : Array Value) (hw : ∀ d ∈ tables_1, d.before a0 Z = true) (ws : List Jvm.Cond) (a1 : Addr) (b : Addr) (k : ClassId) (x0 : Addr) (x1 : Addr) (x2 : Addr) (w_EMPTY_ELEMENTDATA : Addr) (w_DEFAULTCAPACITY_EMPTY_ELEMENTDATA : Addr) (w_EMPTY : Addr) (w_EMPTY_LIST : Addr) (k_w_EMPTY_ELEMENTDATA : ClassId) (k_w_DEFAULTCAPACITY_EMPTY_ELEMENTDATA : ClassId) (w_mir : Addr) (w_els : Addr) (k_els : ClassId) (h0 : Heap) (n0 : Nat) (O0 : Old Z n0 h0) (SF : Start Z w_EMPTY_ELEMENTDATA w_DEFAULTCAPACITY_EMPTY_ELEMENTDATA w_EMPTY w_EMPTY_LIST k_w_EMPTY_ELEMENTDATA k_w_DEFAULTCAPACITY_EMPTY_ELEMENTDATA w_mir w_els k_els) (f0 : Exa Z h0 a1 "java/util/ArrayList") (f1 : Fld Z h0 a1 "java/util/ArrayList" "elementData" "[Ljava/lang/Object;" (.ref b)) (f2 : Fld Z h0 a1 "java/util/ArrayList" "size" "I" (.int ((((0 : Int32) + (1 : Int32)) + (1 : Int32)) + (1 : Int32)))) (f3 : Arv Z h0 b k (.object "java/lang/Object") (10 : Int32) [(.ref x0), (.ref x1), (.ref x2), .null, .null, .null, .null, .null, .null, .null] .null) (f4 : Exa Z h0 b "[Ljava/lang/Object;") (f5 : Exa Z h0 x0 "com/example/gantry/gantry/resolver/LocalCopy") (f6 : Exa Z h0 x1 "com/example/gantry/gantry/resolver/LocalCopy") (f7 : Exa Z h0 x2 "com/example/gantry/gantry/resolver/LocalCopy") :
    Meets l (⟨"java/util/ArrayList", "toArray", "()[Ljava/lang/Object;"⟩ : MethodName) jdk_38_method_16_code 1 (some (.array (.object "java/lang/Object"))) ws ({ frames := 3, cells := 1, slots := 3, locals := 46 } : Room) ({ frames := 3, cells := 1, slots := 3, locals := 46 } : Room).cells ({ frames := 3, cells := 1, slots := 3, locals := 46 } : Room).slots Z #[(.ref a1)] h0 n0 (Q173 Z a1 b k x0 x1 x2 w_EMPTY_ELEMENTDATA w_DEFAULTCAPACITY_EMPTY_ELEMENTDATA w_EMPTY w_EMPTY_LIST k_w_EMPTY_ELEMENTDATA k_w_DEFAULTCAPACITY_EMPTY_ELEMENTDATA w_mir w_els k_els h0 n0) := by
  refine Meets.of (F := fun m => mkF m 0 #[.val (.ref a1)] []) (plainFor_of_name pn_5) (fun m => ef_173 m a1) ?_
  intro p e s m below meth c T0 hx hby hml hown0 hnm hret hlk hZ X0 e0
  have hown : s.vm.findClass "java/util/ArrayList" = some m.cls := hown0
  have N0 := Fr.nil n0
  have KC0 := Keep.refl h0 []
  obtain ⟨z0, z1, z2, z3, z4, z5, z6, z7, z8, z9, z10, z11, zm, z13, z14, -⟩ := SF
  show Goes _ _ _ _ _ _ (T0.setTop (mkF m 0 #[.val (.ref a1)] []))
  refine own_aloadN X0 hx (hb hby d17_0) rfl rfl ?_
  refine own_getF X0 hx hZ hown (host := "") (Or.inl (hw _ (List.mem_of_getElem? (i := 47) rfl))) Via.refl e0 f1 (hb hby d17_1) (fun T1 X1 e1 => ?_)
  refine own_aloadN X1 hx (hb hby d17_4) rfl rfl ?_
  refine own_getF X1 hx hZ hown (host := "") (Or.inl (hw _ (List.mem_of_getElem? (i := 56) rfl))) Via.refl e1 f2 (hb hby d17_5) (fun T2 X2 e2 => ?_)
  refine own_callS X2 hx hZ hown (y := (⟨"java/util/Arrays", "copyOf", "([Ljava/lang/Object;I)[Ljava/lang/Object;"⟩ : MethodName)) (hw _ (List.mem_of_getElem? (i := 130) rfl)) (hw _ (List.mem_of_getElem? (i := 131) rfl)) (hw _ (List.mem_of_getElem? (i := 132) rfl)) (hw _ (List.mem_of_getElem? (i := 133) rfl)) (by decide) (W := 0) (by decide) (by decide) N0 e2 (by rw [hml]; rfl) (argsL := [(.ref b), (.int ((((0 : Int32) + (1 : Int32)) + (1 : Int32)) + (1 : Int32)))]) (rest := []) (lenOf pd_6 rfl) (Nat.le_of_eq rfl) (by decide) (by decide) (rm183 l Z a0 hw [] b k x0 x1 x2 w_EMPTY_ELEMENTDATA w_DEFAULTCAPACITY_EMPTY_ELEMENTDATA w_EMPTY w_EMPTY_LIST k_w_EMPTY_ELEMENTDATA k_w_DEFAULTCAPACITY_EMPTY_ELEMENTDATA w_mir w_els k_els h0 n0 O0 ⟨z0, z1, z2, z3, z4, z5, z6, z7, z8, z9, z10, z11, zm, z13, z14, trivial⟩ f3 f4 f5 f6 f7) rfl (hb hby d17_8) ?_
  intro v3 T3 lc3 X3 N3 hQ3
  obtain ⟨b2_3, k2_3, rfl, K3, r3_0, r3_1, r3_2⟩ := hQ3
  have O4 := O0.keep K3 all0
  have KC4 := KC0.trans K3 all0
  have ge_b2_3 : n0 ≤ b2_3 := Nat.le_trans (own_sz O0) r3_2
  have sz_b2_3 : h0.size ≤ b2_3 := Nat.le_trans KC0.1 r3_2
  show Goes _ _ _ _ _ _ (T3.setTop (mkF m 11 #[.val (.ref a1)] [(.ref b2_3)]))
  exact own_retR X3 hx N3 hlk (by decide) (by decide) hret rfl rfl rfl (hb hby d17_11) (⟨b2_3, k2_3, rfl, KC4, r3_0, r3_1, sz_b2_3⟩)
theorem d36_0 : decode jdk_45_method_1_code 0 = .ok (.aload_n 0, 1) := by decide +kernel
theorem d36_1 : decode jdk_45_method_1_code 1 = .ok (.invokespecial 1, 3) := by decide +kernel
theorem d36_4 : decode jdk_45_method_1_code 4 = .ok (.aload_n 0, 1) := by decide +kernel
theorem d36_5 : decode jdk_45_method_1_code 5 = .ok (.aload_n 1, 1) := by decide +kernel
theorem d36_6 : decode jdk_45_method_1_code 6 = .ok (.putfield 7, 3) := by decide +kernel
theorem d36_9 : decode jdk_45_method_1_code 9 = .ok (.aload_n 0, 1) := by decide +kernel
theorem d36_10 : decode jdk_45_method_1_code 10 = .ok (.iload_n 2, 1) := by decide +kernel
theorem d36_11 : decode jdk_45_method_1_code 11 = .ok (.putfield 13, 3) := by decide +kernel
theorem d36_14 : decode jdk_45_method_1_code 14 = .ok (.return_, 1) := by decide +kernel
theorem pn_13 : plainName "java/util/ImmutableCollections$ListN" = true := by first | (simp [plainName, overriddenIn]; done) | decide +kernel
def Q36 (Z : State) (a1 : Addr) (a2 : Addr) (u1 : Value) (u2 : Value) (w_EMPTY_ELEMENTDATA : Addr) (w_DEFAULTCAPACITY_EMPTY_ELEMENTDATA : Addr) (w_EMPTY : Addr) (w_EMPTY_LIST : Addr) (k_w_EMPTY_ELEMENTDATA : ClassId) (k_w_DEFAULTCAPACITY_EMPTY_ELEMENTDATA : ClassId) (w_mir : Addr) (w_els : Addr) (k_els : ClassId) (h0 : Heap) (n0 : Nat) (v : Option Value) (h : Heap) : Prop :=
  (v = none ∧ Keep h0 h [a1] ∧ Exa Z h a1 "java/util/ImmutableCollections$ListN" ∧ Fld Z h a1 "java/util/ImmutableCollections$ListN" "elements" "[Ljava/lang/Object;" (.ref a2))
theorem ef_36 (m : MethodId) (a1 : Addr) (a2 : Addr) : entryFrame m #[(.ref a1), (.ref a2), (.int (0 : Int32))] 3 = mkF m 0 #[.val (.ref a1), .val (.ref a2), .val (.int (0 : Int32))] [] := by first | (simp [entryFrame, mkF, argsToLocals, Value.category]; done) | rfl
set_option maxRecDepth 65536 in
set_option maxHeartbeats 40000000 in
theorem rm36 (l : Launch) (Z : State) (a0 : Array Value) (hw : ∀ d ∈ tables_1, d.before a0 Z = true) (ws : List Jvm.Cond) (a1 : Addr) (a2 : Addr) (u1 : Value) (u2 : Value) (w_EMPTY_ELEMENTDATA : Addr) (w_DEFAULTCAPACITY_EMPTY_ELEMENTDATA : Addr) (w_EMPTY : Addr) (w_EMPTY_LIST : Addr) (k_w_EMPTY_ELEMENTDATA : ClassId) (k_w_DEFAULTCAPACITY_EMPTY_ELEMENTDATA : ClassId) (w_mir : Addr) (w_els : Addr) (k_els : ClassId) (h0 : Heap) (n0 : Nat) (O0 : Old Z n0 h0) (SF : Start Z w_EMPTY_ELEMENTDATA w_DEFAULTCAPACITY_EMPTY_ELEMENTDATA w_EMPTY w_EMPTY_LIST k_w_EMPTY_ELEMENTDATA k_w_DEFAULTCAPACITY_EMPTY_ELEMENTDATA w_mir w_els k_els) (f0 : Exa Z h0 a1 "java/util/ImmutableCollections$ListN") (f1 : Fld Z h0 a1 "java/util/ImmutableCollections$ListN" "elements" "[Ljava/lang/Object;" u1) (f2 : Fld Z h0 a1 "java/util/ImmutableCollections$ListN" "allowNulls" "Z" u2) (f3 : n0 ≤ a1) :
    Meets l (⟨"java/util/ImmutableCollections$ListN", "<init>", "([Ljava/lang/Object;Z)V"⟩ : MethodName) jdk_45_method_1_code 3 none ws ({ frames := 4, cells := 0, slots := 0, locals := 48 } : Room) ({ frames := 4, cells := 0, slots := 0, locals := 48 } : Room).cells ({ frames := 4, cells := 0, slots := 0, locals := 48 } : Room).slots Z #[(.ref a1), (.ref a2), (.int (0 : Int32))] h0 n0 (Q36 Z a1 a2 u1 u2 w_EMPTY_ELEMENTDATA w_DEFAULTCAPACITY_EMPTY_ELEMENTDATA w_EMPTY w_EMPTY_LIST k_w_EMPTY_ELEMENTDATA k_w_DEFAULTCAPACITY_EMPTY_ELEMENTDATA w_mir w_els k_els h0 n0) := by
  refine Meets.of (F := fun m => mkF m 0 #[.val (.ref a1), .val (.ref a2), .val (.int (0 : Int32))] []) (plainFor_of_name pn_13) (fun m => ef_36 m a1 a2) ?_
  intro p e s m below meth c T0 hx hby hml hown0 hnm hret hlk hZ X0 e0
  have hown : s.vm.findClass "java/util/ImmutableCollections$ListN" = some m.cls := hown0
  have N0 := Fr.nil n0
  have KC0 := Keep.refl h0 [a1]
  obtain ⟨z0, z1, z2, z3, z4, z5, z6, z7, z8, z9, z10, z11, zm, z13, z14, -⟩ := SF
  show Goes _ _ _ _ _ _ (T0.setTop (mkF m 0 #[.val (.ref a1), .val (.ref a2), .val (.int (0 : Int32))] []))
  refine own_aloadN X0 hx (hb hby d36_0) rfl rfl ?_
  refine own_special X0 hx hZ hown (y := (⟨"java/util/ImmutableCollections$AbstractImmutableList", "<init>", "()V"⟩ : MethodName)) rfl (hw _ (List.mem_of_getElem? (i := 266) rfl)) (hw _ (List.mem_of_getElem? (i := 163) rfl)) (hw _ (List.mem_of_getElem? (i := 166) rfl)) (hw _ (List.mem_of_getElem? (i := 167) rfl)) (a := a1) (by decide) (W := 0) (by decide) (by decide) N0 e0 (by rw [hml]; rfl) (argsL := []) (rest := []) (lenOf pd_0 rfl) (Nat.le_of_eq rfl) (by decide) (by decide) (rm23 l Z a0 hw [] a1 h0 n0 O0) rfl (hb hby d36_1) ?_
  intro v1 T1 lc1 X1 N1 hQ1
  obtain ⟨rfl, e1⟩ := hQ1
  refine own_aloadN X1 hx (hb hby d36_4) rfl rfl ?_
  refine own_aloadN X1 hx (hb hby d36_5) rfl rfl ?_
  refine own_putF X1 hx hZ hown N1 (host := "") (Or.inl (hw _ (List.mem_of_getElem? (i := 270) rfl))) Via.refl e1 f1 f0 (Or.inr ⟨(hw _ (List.mem_of_getElem? (i := 271) rfl)), rfl, hnm⟩) (hw _ (List.mem_of_getElem? (i := 260) rfl)) (ty := (.array (.object "java/lang/Object"))) (by decide) rfl rfl f3 (hb hby d36_6) (fun T2 h2 lc2 X2 e2 N2 W2 => ?_)
  have E3_a1 := f0.wr W2
  have F3_elements_a1 := f1.same W2
  have F3_allowNulls_a1 := f2.other W2 (Or.inr (slot_ne (Or.inr (hw _ (List.mem_of_getElem? (i := 273) rfl))) (Or.inr (hw _ (List.mem_of_getElem? (i := 271) rfl))) (by decide) (t := .boolean) (t' := (.array (.object "java/lang/Object"))) (by decide) (by decide)))
  have O3 := O0.wr W2 f3
  have KC3 := KC0.wr W2 (Or.inl (List.mem_of_getElem? (i := 0) rfl))
  refine own_aloadN X2 hx (hb hby d36_9) rfl rfl ?_
  refine own_iloadN X2 hx (hb hby d36_10) rfl ?_
  refine own_putF X2 hx hZ hown N2 (host := "") (Or.inl (hw _ (List.mem_of_getElem? (i := 272) rfl))) Via.refl e2 F3_allowNulls_a1 E3_a1 (Or.inr ⟨(hw _ (List.mem_of_getElem? (i := 273) rfl)), rfl, hnm⟩) (hw _ (List.mem_of_getElem? (i := 260) rfl)) (ty := .boolean) (by decide) rfl rfl f3 (hb hby d36_11) (fun T4 h4 lc4 X4 e4 N4 W4 => ?_)
  have E5_a1 := E3_a1.wr W4
  have F5_elements_a1 := F3_elements_a1.other W4 (Or.inr (slot_ne (Or.inr (hw _ (List.mem_of_getElem? (i := 271) rfl))) (Or.inr (hw _ (List.mem_of_getElem? (i := 273) rfl))) (by decide) (t := (.array (.object "java/lang/Object"))) (t' := .boolean) (by decide) (by decide)))
  have O5 := O3.wr W4 f3
  have KC5 := KC3.wr W4 (Or.inl (List.mem_of_getElem? (i := 0) rfl))
  show Goes _ _ _ _ _ _ (T4.setTop (mkF m 14 #[.val (.ref a1), .val (.ref a2), .val (.int (0 : Int32))] []))
  exact own_retV X4 hx N4 hlk (by decide) (by decide) hret (hb hby d36_14) (by rw [e4]; exact ⟨rfl, KC5, E5_a1, F5_elements_a1⟩)
theorem d35_0 : decode jdk_56_method_4_code 0 = .ok (.aload_n 0, 1) := by decide +kernel
theorem d35_1 : decode jdk_56_method_4_code 1 = .ok (.arraylength, 1) := by decide +kernel
theorem d35_2 : decode jdk_56_method_4_code 2 = .ok (.anewarray 2, 3) := by decide +kernel
theorem d35_5 : decode jdk_56_method_4_code 5 = .ok (.astore_n 1, 1) := by decide +kernel
theorem d35_6 : decode jdk_56_method_4_code 6 = .ok (.iconst 0, 1) := by decide +kernel
theorem d35_7 : decode jdk_56_method_4_code 7 = .ok (.istore_n 2, 1) := by decide +kernel
theorem d35_8 : decode jdk_56_method_4_code 8 = .ok (.iload_n 2, 1) := by decide +kernel
theorem d35_9 : decode jdk_56_method_4_code 9 = .ok (.aload_n 0, 1) := by decide +kernel
theorem d35_10 : decode jdk_56_method_4_code 10 = .ok (.arraylength, 1) := by decide +kernel
theorem d35_11 : decode jdk_56_method_4_code 11 = .ok (.if_icmp .ge 18, 3) := by decide +kernel
theorem d35_14 : decode jdk_56_method_4_code 14 = .ok (.aload_n 1, 1) := by decide +kernel
theorem d35_15 : decode jdk_56_method_4_code 15 = .ok (.iload_n 2, 1) := by decide +kernel
theorem d35_16 : decode jdk_56_method_4_code 16 = .ok (.aload_n 0, 1) := by decide +kernel
theorem d35_17 : decode jdk_56_method_4_code 17 = .ok (.iload_n 2, 1) := by decide +kernel
theorem d35_18 : decode jdk_56_method_4_code 18 = .ok (.aaload, 1) := by decide +kernel
theorem d35_19 : decode jdk_56_method_4_code 19 = .ok (.invokestatic 37, 3) := by decide +kernel
theorem d35_22 : decode jdk_56_method_4_code 22 = .ok (.aastore, 1) := by decide +kernel
theorem d35_23 : decode jdk_56_method_4_code 23 = .ok (.iinc 2 1, 3) := by decide +kernel
theorem d35_26 : decode jdk_56_method_4_code 26 = .ok (.goto (-18), 3) := by decide +kernel
theorem d35_29 : decode jdk_56_method_4_code 29 = .ok (.new 12, 3) := by decide +kernel
theorem d35_32 : decode jdk_56_method_4_code 32 = .ok (.dup, 1) := by decide +kernel
theorem d35_33 : decode jdk_56_method_4_code 33 = .ok (.aload_n 1, 1) := by decide +kernel
theorem d35_34 : decode jdk_56_method_4_code 34 = .ok (.iconst 0, 1) := by decide +kernel
theorem d35_35 : decode jdk_56_method_4_code 35 = .ok (.invokespecial 43, 3) := by decide +kernel
theorem pd_13 : parseMethodDescriptor "([Ljava/lang/Object;Z)V" = some ⟨[(.array (.object "java/lang/Object")), .boolean], none⟩ := by decide +kernel
theorem d35_38 : decode jdk_56_method_4_code 38 = .ok (.areturn, 1) := by decide +kernel
def Q35 (Z : State) (a1 : Addr) (k : ClassId) (x0 : Addr) (x1 : Addr) (x2 : Addr) (w_EMPTY_ELEMENTDATA : Addr) (w_DEFAULTCAPACITY_EMPTY_ELEMENTDATA : Addr) (w_EMPTY : Addr) (w_EMPTY_LIST : Addr) (k_w_EMPTY_ELEMENTDATA : ClassId) (k_w_DEFAULTCAPACITY_EMPTY_ELEMENTDATA : ClassId) (w_mir : Addr) (w_els : Addr) (k_els : ClassId) (h0 : Heap) (n0 : Nat) (v : Option Value) (h : Heap) : Prop :=
  (∃ (t : Addr) (q : Addr) (kq : ClassId), v = some (.ref t) ∧ Keep h0 h [] ∧ Exa Z h t "java/util/ImmutableCollections$ListN" ∧ Fld Z h t "java/util/ImmutableCollections$ListN" "elements" "[Ljava/lang/Object;" (.ref q) ∧ Arv Z h q kq (.object "java/lang/Object") ((((0 : Int32) + (1 : Int32)) + (1 : Int32)) + (1 : Int32)) [(.ref x0), (.ref x1), (.ref x2)] .null ∧ h0.size ≤ t ∧ h0.size ≤ q)
theorem ef_35 (m : MethodId) (a1 : Addr) : entryFrame m #[(.ref a1)] 3 = mkF m 0 #[.val (.ref a1), .unset, .unset] [] := by first | (simp [entryFrame, mkF, argsToLocals, Value.category]; done) | rfl
set_option maxRecDepth 65536 in
set_option maxHeartbeats 40000000 in
theorem rm35 (l : Launch) (Z : State) (a0 : Array Value) (hw : ∀ d ∈ tables_1, d.before a0 Z = true) (ws : List Jvm.Cond) (a1 : Addr) (k : ClassId) (x0 : Addr) (x1 : Addr) (x2 : Addr) (w_EMPTY_ELEMENTDATA : Addr) (w_DEFAULTCAPACITY_EMPTY_ELEMENTDATA : Addr) (w_EMPTY : Addr) (w_EMPTY_LIST : Addr) (k_w_EMPTY_ELEMENTDATA : ClassId) (k_w_DEFAULTCAPACITY_EMPTY_ELEMENTDATA : ClassId) (w_mir : Addr) (w_els : Addr) (k_els : ClassId) (h0 : Heap) (n0 : Nat) (O0 : Old Z n0 h0) (SF : Start Z w_EMPTY_ELEMENTDATA w_DEFAULTCAPACITY_EMPTY_ELEMENTDATA w_EMPTY w_EMPTY_LIST k_w_EMPTY_ELEMENTDATA k_w_DEFAULTCAPACITY_EMPTY_ELEMENTDATA w_mir w_els k_els) (f0 : Arv Z h0 a1 k (.object "java/lang/Object") ((((0 : Int32) + (1 : Int32)) + (1 : Int32)) + (1 : Int32)) [(.ref x0), (.ref x1), (.ref x2)] .null) (f1 : Exa Z h0 x0 "com/example/gantry/gantry/resolver/LocalCopy") (f2 : Exa Z h0 x1 "com/example/gantry/gantry/resolver/LocalCopy") (f3 : Exa Z h0 x2 "com/example/gantry/gantry/resolver/LocalCopy") :
    Meets l (⟨"java/util/ImmutableCollections", "listFromArray", "([Ljava/lang/Object;)Ljava/util/List;"⟩ : MethodName) jdk_56_method_4_code 3 (some (.object "java/util/List")) ws ({ frames := 5, cells := 2, slots := 5, locals := 63 } : Room) ({ frames := 5, cells := 2, slots := 5, locals := 63 } : Room).cells ({ frames := 5, cells := 2, slots := 5, locals := 63 } : Room).slots Z #[(.ref a1)] h0 n0 (Q35 Z a1 k x0 x1 x2 w_EMPTY_ELEMENTDATA w_DEFAULTCAPACITY_EMPTY_ELEMENTDATA w_EMPTY w_EMPTY_LIST k_w_EMPTY_ELEMENTDATA k_w_DEFAULTCAPACITY_EMPTY_ELEMENTDATA w_mir w_els k_els h0 n0) := by
  refine Meets.of (F := fun m => mkF m 0 #[.val (.ref a1), .unset, .unset] []) (plainFor_of_name pn_12) (fun m => ef_35 m a1) ?_
  intro p e s m below meth c T0 hx hby hml hown0 hnm hret hlk hZ X0 e0
  have hown : s.vm.findClass "java/util/ImmutableCollections" = some m.cls := hown0
  have N0 := Fr.nil n0
  have KC0 := Keep.refl h0 []
  obtain ⟨z0, z1, z2, z3, z4, z5, z6, z7, z8, z9, z10, z11, zm, z13, z14, -⟩ := SF
  show Goes _ _ _ _ _ _ (T0.setTop (mkF m 0 #[.val (.ref a1), .unset, .unset] []))
  refine own_aloadN X0 hx (hb hby d35_0) rfl rfl ?_
  refine own_alen X0 hx hZ e0 f0 (hb hby d35_1) ?_
  refine own_newR X0 hx hZ hown (hw _ (List.mem_of_getElem? (i := 258) rfl)) (hw _ (List.mem_of_getElem? (i := 78) rfl)) e0 (hb hby d35_2) (by decide) (cap := 3) (by decide) (by decide) (by decide) (by decide) (fun T1 h1 b1 k1 g1 X1 e1 E1 A1 O1_ => ?_)
  have ne_a1_b1 : a1 ≠ b1 := Nat.ne_of_lt (Nat.lt_of_lt_of_le f0.lt (Nat.le_of_eq g1.symm))
  have ge_b1 : n0 ≤ b1 := Nat.le_trans (own_sz O0) (Nat.le_of_eq g1.symm)
  have sz_b1 : h0.size ≤ b1 := Nat.le_trans KC0.1 (Nat.le_of_eq g1.symm)
  have E2_x0 := f1.ext E1
  have E2_x1 := f2.ext E1
  have E2_x2 := f3.ext E1
  have A2_a1 := f0.ext E1
  have O2 := O0.ext E1
  have KC2 := KC0.ext E1
  have V1 : Arv Z h1 b1 k1 (.object "java/lang/Object") ((((0 : Int32) + (1 : Int32)) + (1 : Int32)) + (1 : Int32)) [.null, .null, .null] .null := A1.pad (pad_rep [] .null 3)
  refine own_astoreN X1 hx (Ls' := #[.val (.ref a1), .val (.ref b1), .unset]) (hb hby d35_5) rfl rfl ?_
  refine own_iconst X1 hx (v := (0 : Int32)) (hb hby d35_6) rfl ?_
  refine own_istoreN X1 hx (Ls' := #[.val (.ref a1), .val (.ref b1), .val (.int (0 : Int32))]) (hb hby d35_7) rfl ?_
  show Goes _ _ _ _ _ _ (T1.setTop (mkF m 8 #[.val (.ref a1), .val (.ref b1), .val (.int (0 : Int32))] []))
  refine own_iloadN X1 hx (hb hby d35_8) rfl ?_
  refine own_aloadN X1 hx (hb hby d35_9) rfl rfl ?_
  refine own_alen X1 hx hZ e1 A2_a1 (hb hby d35_10) ?_
  refine own_icmpNo X1 hx (hb hby d35_11) (tlt (by decide : (0 : Int32) < ((((0 : Int32) + (1 : Int32)) + (1 : Int32)) + (1 : Int32)))).2.1 ?_
  refine own_aloadN X1 hx (hb hby d35_14) rfl rfl ?_
  refine own_iloadN X1 hx (hb hby d35_15) rfl ?_
  refine own_aloadN X1 hx (hb hby d35_16) rfl rfl ?_
  show Goes _ _ _ _ _ _ (T1.setTop (mkF m 17 #[.val (.ref a1), .val (.ref b1), .val (.int (0 : Int32))] [(.ref a1), (.int (0 : Int32)), (.ref b1)]))
  refine own_iloadN X1 hx (hb hby d35_17) rfl ?_
  refine own_aaload X1 hx hZ e1 A2_a1 rfl ⟨by decide, by decide⟩ (v := (.ref x0)) rfl (hb hby d35_18) ?_
  refine own_callS X1 hx hZ hown (y := (⟨"java/util/Objects", "requireNonNull", "(Ljava/lang/Object;)Ljava/lang/Object;"⟩ : MethodName)) (hw _ (List.mem_of_getElem? (i := 259) rfl)) (hw _ (List.mem_of_getElem? (i := 177) rfl)) (hw _ (List.mem_of_getElem? (i := 178) rfl)) (hw _ (List.mem_of_getElem? (i := 179) rfl)) (by decide) (W := 2) (by decide) (by decide) N0 e1 (by rw [hml]; rfl) (argsL := [(.ref x0)]) (rest := [(.int (0 : Int32)), (.ref b1)]) (lenOf pd_7 rfl) (Nat.le_of_eq rfl) (by decide) (by decide) (rm25 l Z a0 hw [] x0 h1 n0 O2) rfl (hb hby d35_19) ?_
  intro v3 T3 lc3 X3 N3 hQ3
  obtain ⟨rfl, e3⟩ := hQ3
  refine own_aastore X3 hx hZ N3 e3 V1 rfl rfl ⟨by decide, by decide⟩ (i := 0) rfl (by first | decide | (simp; done)) ge_b1 (fun _ Ar q => Sto.ofV Ar q O1_ (Ins.of_exa E2_x0 (hw _ (List.mem_of_getElem? (i := 79) rfl)))) (hb hby d35_22) (fun T4 h4 lc4 X4 e4 N4 W4 V4 => ?_)
  have E5_x1 := E2_x1.wr W4
  have E5_x2 := E2_x2.wr W4
  have A5_a1 := A2_a1.other W4 ne_a1_b1
  have O5 := O2.wr W4 ge_b1
  have KC5 := KC2.wr W4 (Or.inr sz_b1)
  have V4' : Arv Z h4 b1 k1 (.object "java/lang/Object") ((((0 : Int32) + (1 : Int32)) + (1 : Int32)) + (1 : Int32)) [(.ref x0), .null, .null] .null := V4
  refine own_iinc X4 hx (Ls' := #[.val (.ref a1), .val (.ref b1), .val (.int ((0 : Int32) + (1 : Int32)))]) (hb hby d35_23) rfl rfl ?_
  refine own_goto X4 hx (pc' := 8) (hb hby d35_26) (by decide) (by decide) ?_
  refine own_iloadN X4 hx (hb hby d35_8) rfl ?_
  show Goes _ _ _ _ _ _ (T4.setTop (mkF m 9 #[.val (.ref a1), .val (.ref b1), .val (.int ((0 : Int32) + (1 : Int32)))] [(.int ((0 : Int32) + (1 : Int32)))]))
  refine own_aloadN X4 hx (hb hby d35_9) rfl rfl ?_
  refine own_alen X4 hx hZ e4 A5_a1 (hb hby d35_10) ?_
  refine own_icmpNo X4 hx (hb hby d35_11) (tlt (by decide : ((0 : Int32) + (1 : Int32)) < ((((0 : Int32) + (1 : Int32)) + (1 : Int32)) + (1 : Int32)))).2.1 ?_
  refine own_aloadN X4 hx (hb hby d35_14) rfl rfl ?_
  refine own_iloadN X4 hx (hb hby d35_15) rfl ?_
  refine own_aloadN X4 hx (hb hby d35_16) rfl rfl ?_
  show Goes _ _ _ _ _ _ (T4.setTop (mkF m 17 #[.val (.ref a1), .val (.ref b1), .val (.int ((0 : Int32) + (1 : Int32)))] [(.ref a1), (.int ((0 : Int32) + (1 : Int32))), (.ref b1)]))
  refine own_iloadN X4 hx (hb hby d35_17) rfl ?_
  refine own_aaload X4 hx hZ e4 A5_a1 rfl ⟨by decide, by decide⟩ (v := (.ref x1)) rfl (hb hby d35_18) ?_
  refine own_callS X4 hx hZ hown (y := (⟨"java/util/Objects", "requireNonNull", "(Ljava/lang/Object;)Ljava/lang/Object;"⟩ : MethodName)) (hw _ (List.mem_of_getElem? (i := 259) rfl)) (hw _ (List.mem_of_getElem? (i := 177) rfl)) (hw _ (List.mem_of_getElem? (i := 178) rfl)) (hw _ (List.mem_of_getElem? (i := 179) rfl)) (by decide) (W := 2) (by decide) (by decide) N4 e4 (by rw [hml]; rfl) (argsL := [(.ref x1)]) (rest := [(.int ((0 : Int32) + (1 : Int32))), (.ref b1)]) (lenOf pd_7 rfl) (Nat.le_of_eq rfl) (by decide) (by decide) (rm25 l Z a0 hw [] x1 h4 n0 O5) rfl (hb hby d35_19) ?_
  intro v6 T6 lc6 X6 N6 hQ6
  obtain ⟨rfl, e6⟩ := hQ6
  refine own_aastore X6 hx hZ N6 e6 V4' rfl rfl ⟨by decide, by decide⟩ (i := 1) rfl (by first | decide | (simp; done)) ge_b1 (fun _ Ar q => Sto.ofV Ar q O1_ (Ins.of_exa E5_x1 (hw _ (List.mem_of_getElem? (i := 79) rfl)))) (hb hby d35_22) (fun T7 h7 lc7 X7 e7 N7 W7 V7 => ?_)
  have E8_x2 := E5_x2.wr W7
  have A8_a1 := A5_a1.other W7 ne_a1_b1
  have O8 := O5.wr W7 ge_b1
  have KC8 := KC5.wr W7 (Or.inr sz_b1)
  have V7' : Arv Z h7 b1 k1 (.object "java/lang/Object") ((((0 : Int32) + (1 : Int32)) + (1 : Int32)) + (1 : Int32)) [(.ref x0), (.ref x1), .null] .null := V7
  refine own_iinc X7 hx (Ls' := #[.val (.ref a1), .val (.ref b1), .val (.int (((0 : Int32) + (1 : Int32)) + (1 : Int32)))]) (hb hby d35_23) rfl rfl ?_
  refine own_goto X7 hx (pc' := 8) (hb hby d35_26) (by decide) (by decide) ?_
  refine own_iloadN X7 hx (hb hby d35_8) rfl ?_
  show Goes _ _ _ _ _ _ (T7.setTop (mkF m 9 #[.val (.ref a1), .val (.ref b1), .val (.int (((0 : Int32) + (1 : Int32)) + (1 : Int32)))] [(.int (((0 : Int32) + (1 : Int32)) + (1 : Int32)))]))
  refine own_aloadN X7 hx (hb hby d35_9) rfl rfl ?_
  refine own_alen X7 hx hZ e7 A8_a1 (hb hby d35_10) ?_
  refine own_icmpNo X7 hx (hb hby d35_11) (tlt (by decide : (((0 : Int32) + (1 : Int32)) + (1 : Int32)) < ((((0 : Int32) + (1 : Int32)) + (1 : Int32)) + (1 : Int32)))).2.1 ?_
  refine own_aloadN X7 hx (hb hby d35_14) rfl rfl ?_
  refine own_iloadN X7 hx (hb hby d35_15) rfl ?_
  refine own_aloadN X7 hx (hb hby d35_16) rfl rfl ?_
  show Goes _ _ _ _ _ _ (T7.setTop (mkF m 17 #[.val (.ref a1), .val (.ref b1), .val (.int (((0 : Int32) + (1 : Int32)) + (1 : Int32)))] [(.ref a1), (.int (((0 : Int32) + (1 : Int32)) + (1 : Int32))), (.ref b1)]))
  refine own_iloadN X7 hx (hb hby d35_17) rfl ?_
  refine own_aaload X7 hx hZ e7 A8_a1 rfl ⟨by decide, by decide⟩ (v := (.ref x2)) rfl (hb hby d35_18) ?_
  refine own_callS X7 hx hZ hown (y := (⟨"java/util/Objects", "requireNonNull", "(Ljava/lang/Object;)Ljava/lang/Object;"⟩ : MethodName)) (hw _ (List.mem_of_getElem? (i := 259) rfl)) (hw _ (List.mem_of_getElem? (i := 177) rfl)) (hw _ (List.mem_of_getElem? (i := 178) rfl)) (hw _ (List.mem_of_getElem? (i := 179) rfl)) (by decide) (W := 2) (by decide) (by decide) N7 e7 (by rw [hml]; rfl) (argsL := [(.ref x2)]) (rest := [(.int (((0 : Int32) + (1 : Int32)) + (1 : Int32))), (.ref b1)]) (lenOf pd_7 rfl) (Nat.le_of_eq rfl) (by decide) (by decide) (rm25 l Z a0 hw [] x2 h7 n0 O8) rfl (hb hby d35_19) ?_
  intro v9 T9 lc9 X9 N9 hQ9
  obtain ⟨rfl, e9⟩ := hQ9
  refine own_aastore X9 hx hZ N9 e9 V7' rfl rfl ⟨by decide, by decide⟩ (i := 2) rfl (by first | decide | (simp; done)) ge_b1 (fun _ Ar q => Sto.ofV Ar q O1_ (Ins.of_exa E8_x2 (hw _ (List.mem_of_getElem? (i := 79) rfl)))) (hb hby d35_22) (fun T10 h10 lc10 X10 e10 N10 W10 V10 => ?_)
  have A11_a1 := A8_a1.other W10 ne_a1_b1
  have O11 := O8.wr W10 ge_b1
  have KC11 := KC8.wr W10 (Or.inr sz_b1)
  have V10' : Arv Z h10 b1 k1 (.object "java/lang/Object") ((((0 : Int32) + (1 : Int32)) + (1 : Int32)) + (1 : Int32)) [(.ref x0), (.ref x1), (.ref x2)] .null := V10
  refine own_iinc X10 hx (Ls' := #[.val (.ref a1), .val (.ref b1), .val (.int ((((0 : Int32) + (1 : Int32)) + (1 : Int32)) + (1 : Int32)))]) (hb hby d35_23) rfl rfl ?_
  refine own_goto X10 hx (pc' := 8) (hb hby d35_26) (by decide) (by decide) ?_
  refine own_iloadN X10 hx (hb hby d35_8) rfl ?_
  show Goes _ _ _ _ _ _ (T10.setTop (mkF m 9 #[.val (.ref a1), .val (.ref b1), .val (.int ((((0 : Int32) + (1 : Int32)) + (1 : Int32)) + (1 : Int32)))] [(.int ((((0 : Int32) + (1 : Int32)) + (1 : Int32)) + (1 : Int32)))]))
  refine own_aloadN X10 hx (hb hby d35_9) rfl rfl ?_
  refine own_alen X10 hx hZ e10 A11_a1 (hb hby d35_10) ?_
  refine own_icmpYes X10 hx (pc' := 29) (hb hby d35_11) (flt (by decide : ¬ (((((0 : Int32) + (1 : Int32)) + (1 : Int32)) + (1 : Int32)) < ((((0 : Int32) + (1 : Int32)) + (1 : Int32)) + (1 : Int32))))).2.1 (by decide) (by decide) ?_
  refine own_new X10 hx hZ hown (hw _ (List.mem_of_getElem? (i := 112) rfl)) (hw _ (List.mem_of_getElem? (i := 260) rfl)) (hw _ (List.mem_of_getElem? (i := 261) rfl)) e10 (hb hby d35_29) (by decide) (by decide) (fun T12 h12 b12 g12 X12 e12 E12 A12 D12 => ?_)
  have ne_b1_b12 : b1 ≠ b12 := Nat.ne_of_lt (Nat.lt_of_lt_of_le V10'.lt (Nat.le_of_eq g12.symm))
  have ge_b12 : n0 ≤ b12 := Nat.le_trans (own_sz O11) (Nat.le_of_eq g12.symm)
  have sz_b12 : h0.size ≤ b12 := Nat.le_trans KC11.1 (Nat.le_of_eq g12.symm)
  have A13_b1 := V10'.ext E12
  have O13 := O11.ext E12
  have KC13 := KC11.ext E12
  have F12_elements_b12 : Fld Z h12 b12 "java/util/ImmutableCollections$ListN" "elements" "[Ljava/lang/Object;" .null := D12 (Or.inr (hw _ (List.mem_of_getElem? (i := 271) rfl))) (ty := (.array (.object "java/lang/Object"))) (by decide)
  have F12_allowNulls_b12 : Fld Z h12 b12 "java/util/ImmutableCollections$ListN" "allowNulls" "Z" (.int (0 : Int32)) := D12 (Or.inr (hw _ (List.mem_of_getElem? (i := 273) rfl))) (ty := .boolean) (by decide)
  refine own_dup X12 hx (hb hby d35_32) rfl ?_
  refine own_aloadN X12 hx (hb hby d35_33) rfl rfl ?_
  refine own_iconst X12 hx (v := (0 : Int32)) (hb hby d35_34) rfl ?_
  show Goes _ _ _ _ _ _ (T12.setTop (mkF m 35 #[.val (.ref a1), .val (.ref b1), .val (.int ((((0 : Int32) + (1 : Int32)) + (1 : Int32)) + (1 : Int32)))] [(.int (0 : Int32)), (.ref b1), (.ref b12), (.ref b12)]))
  refine own_specialNest X12 hx hZ hown (y := (⟨"java/util/ImmutableCollections$ListN", "<init>", "([Ljava/lang/Object;Z)V"⟩ : MethodName)) rfl (hw _ (List.mem_of_getElem? (i := 262) rfl)) (hw _ (List.mem_of_getElem? (i := 263) rfl)) (hw _ (List.mem_of_getElem? (i := 261) rfl)) (hw _ (List.mem_of_getElem? (i := 265) rfl)) (a := b12) (by decide) (W := 1) (by decide) (by decide) N10 e12 (by rw [hml]; rfl) (argsL := [(.ref b1), (.int (0 : Int32))]) (rest := [(.ref b12)]) (lenOf pd_13 rfl) (Nat.le_of_eq rfl) (by decide) (by decide) (rm36 l Z a0 hw [] b12 b1 (.null) ((.int (0 : Int32))) w_EMPTY_ELEMENTDATA w_DEFAULTCAPACITY_EMPTY_ELEMENTDATA w_EMPTY w_EMPTY_LIST k_w_EMPTY_ELEMENTDATA k_w_DEFAULTCAPACITY_EMPTY_ELEMENTDATA w_mir w_els k_els h12 n0 O13 ⟨z0, z1, z2, z3, z4, z5, z6, z7, z8, z9, z10, z11, zm, z13, z14, trivial⟩ A12 F12_elements_b12 F12_allowNulls_b12 ge_b12) rfl (hb hby d35_35) ?_
  intro v14 T14 lc14 X14 N14 hQ14
  obtain ⟨rfl, K14, r14_0, r14_1⟩ := hQ14
  have A15_b1 := A13_b1.keep K14 (ninS ne_b1_b12 nin0)
  have O15 := O13.keep K14 (allS ge_b12 all0)
  have KC15 := KC13.trans K14 (allS (Or.inr sz_b12) all0)
  show Goes _ _ _ _ _ _ (T14.setTop (mkF m 38 #[.val (.ref a1), .val (.ref b1), .val (.int ((((0 : Int32) + (1 : Int32)) + (1 : Int32)) + (1 : Int32)))] [(.ref b12)]))
  exact own_retR X14 hx N14 hlk (by decide) (by decide) hret rfl rfl rfl (hb hby d35_38) (⟨b12, b1, k1, rfl, KC15, r14_0, r14_1, A15_b1, sz_b12, sz_b1⟩)
theorem d21_59 : decode jdk_40_method_47_code 59 = .ok (.aload_n 0, 1) := by decide +kernel
theorem d21_60 : decode jdk_40_method_47_code 60 = .ok (.invokestatic 109, 3) := by decide +kernel
theorem d21_63 : decode jdk_40_method_47_code 63 = .ok (.areturn, 1) := by decide +kernel
def Q213 (Z : State) (a1 : Addr) (k : ClassId) (x0 : Addr) (x1 : Addr) (x2 : Addr) (w_EMPTY_ELEMENTDATA : Addr) (w_DEFAULTCAPACITY_EMPTY_ELEMENTDATA : Addr) (w_EMPTY : Addr) (w_EMPTY_LIST : Addr) (k_w_EMPTY_ELEMENTDATA : ClassId) (k_w_DEFAULTCAPACITY_EMPTY_ELEMENTDATA : ClassId) (w_mir : Addr) (w_els : Addr) (k_els : ClassId) (h0 : Heap) (n0 : Nat) (v : Option Value) (h : Heap) : Prop :=
  (∃ (t : Addr) (q : Addr) (kq : ClassId), v = some (.ref t) ∧ Keep h0 h [] ∧ Exa Z h t "java/util/ImmutableCollections$ListN" ∧ Fld Z h t "java/util/ImmutableCollections$ListN" "elements" "[Ljava/lang/Object;" (.ref q) ∧ Arv Z h q kq (.object "java/lang/Object") ((((0 : Int32) + (1 : Int32)) + (1 : Int32)) + (1 : Int32)) [(.ref x0), (.ref x1), (.ref x2)] .null ∧ h0.size ≤ t ∧ h0.size ≤ q)
theorem ef_213 (m : MethodId) (a1 : Addr) : entryFrame m #[(.ref a1)] 2 = mkF m 0 #[.val (.ref a1), .unset] [] := by first | (simp [entryFrame, mkF, argsToLocals, Value.category]; done) | rfl
set_option maxRecDepth 65536 in
set_option maxHeartbeats 40000000 in
theorem rm213 (l : Launch) (Z : State) (a0 : Array Value) (hw : ∀ d ∈ tables_1, d.before a0 Z = true) (ws : List Jvm.Cond) (a1 : Addr) (k : ClassId) (x0 : Addr) (x1 : Addr) (x2 : Addr) (w_EMPTY_ELEMENTDATA : Addr) (w_DEFAULTCAPACITY_EMPTY_ELEMENTDATA : Addr) (w_EMPTY : Addr) (w_EMPTY_LIST : Addr) (k_w_EMPTY_ELEMENTDATA : ClassId) (k_w_DEFAULTCAPACITY_EMPTY_ELEMENTDATA : ClassId) (w_mir : Addr) (w_els : Addr) (k_els : ClassId) (h0 : Heap) (n0 : Nat) (O0 : Old Z n0 h0) (SF : Start Z w_EMPTY_ELEMENTDATA w_DEFAULTCAPACITY_EMPTY_ELEMENTDATA w_EMPTY w_EMPTY_LIST k_w_EMPTY_ELEMENTDATA k_w_DEFAULTCAPACITY_EMPTY_ELEMENTDATA w_mir w_els k_els) (f0 : Arv Z h0 a1 k (.object "java/lang/Object") ((((0 : Int32) + (1 : Int32)) + (1 : Int32)) + (1 : Int32)) [(.ref x0), (.ref x1), (.ref x2)] .null) (f1 : Exa Z h0 x0 "com/example/gantry/gantry/resolver/LocalCopy") (f2 : Exa Z h0 x1 "com/example/gantry/gantry/resolver/LocalCopy") (f3 : Exa Z h0 x2 "com/example/gantry/gantry/resolver/LocalCopy") :
    Meets l (⟨"java/util/List", "of", "([Ljava/lang/Object;)Ljava/util/List;"⟩ : MethodName) jdk_40_method_47_code 2 (some (.object "java/util/List")) ws ({ frames := 6, cells := 2, slots := 5, locals := 77 } : Room) ({ frames := 6, cells := 2, slots := 5, locals := 77 } : Room).cells ({ frames := 6, cells := 2, slots := 5, locals := 77 } : Room).slots Z #[(.ref a1)] h0 n0 (Q213 Z a1 k x0 x1 x2 w_EMPTY_ELEMENTDATA w_DEFAULTCAPACITY_EMPTY_ELEMENTDATA w_EMPTY w_EMPTY_LIST k_w_EMPTY_ELEMENTDATA k_w_DEFAULTCAPACITY_EMPTY_ELEMENTDATA w_mir w_els k_els h0 n0) := by
  refine Meets.of (F := fun m => mkF m 0 #[.val (.ref a1), .unset] []) (plainFor_of_name pn_11) (fun m => ef_213 m a1) ?_
  intro p e s m below meth c T0 hx hby hml hown0 hnm hret hlk hZ X0 e0
  have hown : s.vm.findClass "java/util/List" = some m.cls := hown0
  have N0 := Fr.nil n0
  have KC0 := Keep.refl h0 []
  obtain ⟨z0, z1, z2, z3, z4, z5, z6, z7, z8, z9, z10, z11, zm, z13, z14, -⟩ := SF
  show Goes _ _ _ _ _ _ (T0.setTop (mkF m 0 #[.val (.ref a1), .unset] []))
  refine own_aloadN X0 hx (hb hby d21_0) rfl rfl ?_
  refine own_alen X0 hx hZ e0 f0 (hb hby d21_1) ?_
  refine own_tswOut X0 hx (pc' := 59) (hb hby d21_2) (by decide) (by decide) (by decide) ?_
  refine own_aloadN X0 hx (hb hby d21_59) rfl rfl ?_
  refine own_callS X0 hx hZ hown (y := (⟨"java/util/ImmutableCollections", "listFromArray", "([Ljava/lang/Object;)Ljava/util/List;"⟩ : MethodName)) (hw _ (List.mem_of_getElem? (i := 255) rfl)) (hw _ (List.mem_of_getElem? (i := 256) rfl)) (hw _ (List.mem_of_getElem? (i := 105) rfl)) (hw _ (List.mem_of_getElem? (i := 257) rfl)) (by decide) (W := 0) (by decide) (by decide) N0 e0 (by rw [hml]; rfl) (argsL := [(.ref a1)]) (rest := []) (lenOf pd_10 rfl) (Nat.le_of_eq rfl) (by decide) (by decide) (rm35 l Z a0 hw [] a1 k x0 x1 x2 w_EMPTY_ELEMENTDATA w_DEFAULTCAPACITY_EMPTY_ELEMENTDATA w_EMPTY w_EMPTY_LIST k_w_EMPTY_ELEMENTDATA k_w_DEFAULTCAPACITY_EMPTY_ELEMENTDATA w_mir w_els k_els h0 n0 O0 ⟨z0, z1, z2, z3, z4, z5, z6, z7, z8, z9, z10, z11, zm, z13, z14, trivial⟩ f0 f1 f2 f3) rfl (hb hby d21_60) ?_
  intro v1 T1 lc1 X1 N1 hQ1
  obtain ⟨t_1, q_1, kq_1, rfl, K1, r1_0, r1_1, r1_2, r1_3, r1_4⟩ := hQ1
  have O2 := O0.keep K1 all0
  have KC2 := KC0.trans K1 all0
  have ge_t_1 : n0 ≤ t_1 := Nat.le_trans (own_sz O0) r1_3
  have sz_t_1 : h0.size ≤ t_1 := Nat.le_trans KC0.1 r1_3
  have ge_q_1 : n0 ≤ q_1 := Nat.le_trans (own_sz O0) r1_4
  have sz_q_1 : h0.size ≤ q_1 := Nat.le_trans KC0.1 r1_4
  show Goes _ _ _ _ _ _ (T1.setTop (mkF m 63 #[.val (.ref a1), .unset] [(.ref t_1)]))
  exact own_retR X1 hx N1 hlk (by decide) (by decide) hret rfl rfl rfl (hb hby d21_63) (⟨t_1, q_1, kq_1, rfl, KC2, r1_0, r1_1, r1_2, sz_t_1, sz_q_1⟩)
def Q153 (Z : State) (a1 : Addr) (b : Addr) (k : ClassId) (x0 : Addr) (x1 : Addr) (x2 : Addr) (w_EMPTY_ELEMENTDATA : Addr) (w_DEFAULTCAPACITY_EMPTY_ELEMENTDATA : Addr) (w_EMPTY : Addr) (w_EMPTY_LIST : Addr) (k_w_EMPTY_ELEMENTDATA : ClassId) (k_w_DEFAULTCAPACITY_EMPTY_ELEMENTDATA : ClassId) (w_mir : Addr) (w_els : Addr) (k_els : ClassId) (h0 : Heap) (n0 : Nat) (v : Option Value) (h : Heap) : Prop :=
  (∃ (t : Addr) (q : Addr) (kq : ClassId), v = some (.ref t) ∧ Keep h0 h [] ∧ Exa Z h t "java/util/ImmutableCollections$ListN" ∧ Fld Z h t "java/util/ImmutableCollections$ListN" "elements" "[Ljava/lang/Object;" (.ref q) ∧ Arv Z h q kq (.object "java/lang/Object") ((((0 : Int32) + (1 : Int32)) + (1 : Int32)) + (1 : Int32)) [(.ref x0), (.ref x1), (.ref x2)] .null ∧ h0.size ≤ t ∧ h0.size ≤ q)
theorem ef_153 (m : MethodId) (a1 : Addr) : entryFrame m #[(.ref a1)] 2 = mkF m 0 #[.val (.ref a1), .unset] [] := by first | (simp [entryFrame, mkF, argsToLocals, Value.category]; done) | rfl
set_option maxRecDepth 65536 in
set_option maxHeartbeats 40000000 in
theorem rm153 (l : Launch) (Z : State) (a0 : Array Value) (hw : ∀ d ∈ tables_1, d.before a0 Z = true) (ws : List Jvm.Cond) (a1 : Addr) (b : Addr) (k : ClassId) (x0 : Addr) (x1 : Addr) (x2 : Addr) (w_EMPTY_ELEMENTDATA : Addr) (w_DEFAULTCAPACITY_EMPTY_ELEMENTDATA : Addr) (w_EMPTY : Addr) (w_EMPTY_LIST : Addr) (k_w_EMPTY_ELEMENTDATA : ClassId) (k_w_DEFAULTCAPACITY_EMPTY_ELEMENTDATA : ClassId) (w_mir : Addr) (w_els : Addr) (k_els : ClassId) (h0 : Heap) (n0 : Nat) (O0 : Old Z n0 h0) (SF : Start Z w_EMPTY_ELEMENTDATA w_DEFAULTCAPACITY_EMPTY_ELEMENTDATA w_EMPTY w_EMPTY_LIST k_w_EMPTY_ELEMENTDATA k_w_DEFAULTCAPACITY_EMPTY_ELEMENTDATA w_mir w_els k_els) (f0 : Exa Z h0 a1 "java/util/ArrayList") (f1 : Fld Z h0 a1 "java/util/ArrayList" "elementData" "[Ljava/lang/Object;" (.ref b)) (f2 : Fld Z h0 a1 "java/util/ArrayList" "size" "I" (.int ((((0 : Int32) + (1 : Int32)) + (1 : Int32)) + (1 : Int32)))) (f3 : Arv Z h0 b k (.object "java/lang/Object") (10 : Int32) [(.ref x0), (.ref x1), (.ref x2), .null, .null, .null, .null, .null, .null, .null] .null) (f4 : Exa Z h0 b "[Ljava/lang/Object;") (f5 : Exa Z h0 x0 "com/example/gantry/gantry/resolver/LocalCopy") (f6 : Exa Z h0 x1 "com/example/gantry/gantry/resolver/LocalCopy") (f7 : Exa Z h0 x2 "com/example/gantry/gantry/resolver/LocalCopy") :
    Meets l (⟨"java/util/ImmutableCollections", "listCopy", "(Ljava/util/Collection;)Ljava/util/List;"⟩ : MethodName) jdk_56_method_3_code 2 (some (.object "java/util/List")) ws ({ frames := 7, cells := 3, slots := 8, locals := 90 } : Room) ({ frames := 7, cells := 3, slots := 8, locals := 90 } : Room).cells ({ frames := 7, cells := 3, slots := 8, locals := 90 } : Room).slots Z #[(.ref a1)] h0 n0 (Q153 Z a1 b k x0 x1 x2 w_EMPTY_ELEMENTDATA w_DEFAULTCAPACITY_EMPTY_ELEMENTDATA w_EMPTY w_EMPTY_LIST k_w_EMPTY_ELEMENTDATA k_w_DEFAULTCAPACITY_EMPTY_ELEMENTDATA w_mir w_els k_els h0 n0) := by
  refine Meets.of (F := fun m => mkF m 0 #[.val (.ref a1), .unset] []) (plainFor_of_name pn_12) (fun m => ef_153 m a1) ?_
  intro p e s m below meth c T0 hx hby hml hown0 hnm hret hlk hZ X0 e0
  have hown : s.vm.findClass "java/util/ImmutableCollections" = some m.cls := hown0
  have N0 := Fr.nil n0
  have KC0 := Keep.refl h0 []
  obtain ⟨z0, z1, z2, z3, z4, z5, z6, z7, z8, z9, z10, z11, zm, z13, z14, -⟩ := SF
  show Goes _ _ _ _ _ _ (T0.setTop (mkF m 0 #[.val (.ref a1), .unset] []))
  refine own_aloadN X0 hx (hb hby d15_0) rfl rfl ?_
  refine own_instN X0 hx hZ hown (hw _ (List.mem_of_getElem? (i := 107) rfl)) e0 f0 (own_NSno (hw _ (List.mem_of_getElem? (i := 108) rfl)) (hw _ (List.mem_of_getElem? (i := 156) rfl)) (NS.step (hw _ (List.mem_of_getElem? (i := 108) rfl)) (NS.step (hw _ (List.mem_of_getElem? (i := 109) rfl)) (NS.step (hw _ (List.mem_of_getElem? (i := 110) rfl)) (own_NSroot (hw _ (List.mem_of_getElem? (i := 111) rfl)) (hw _ (List.mem_of_getElem? (i := 156) rfl)) (by decide)) (by decide)) (by decide)) (by decide)) (by decide)) (hb hby d15_1) (fun T1 X1 e1 => ?_)
  refine own_ifNo X1 hx (hb hby d15_4) ((if0 _ _).trans (teq (by decide : (0 : Int32) = (0 : Int32))).2) ?_
  refine own_aloadN X1 hx (hb hby d15_7) rfl rfl ?_
  refine own_instN X1 hx hZ hown (hw _ (List.mem_of_getElem? (i := 112) rfl)) e1 f0 (own_NSno (hw _ (List.mem_of_getElem? (i := 108) rfl)) (hw _ (List.mem_of_getElem? (i := 260) rfl)) (NS.step (hw _ (List.mem_of_getElem? (i := 108) rfl)) (NS.step (hw _ (List.mem_of_getElem? (i := 109) rfl)) (NS.step (hw _ (List.mem_of_getElem? (i := 110) rfl)) (own_NSroot (hw _ (List.mem_of_getElem? (i := 111) rfl)) (hw _ (List.mem_of_getElem? (i := 260) rfl)) (by decide)) (by decide)) (by decide)) (by decide)) (by decide)) (hb hby d15_8) (fun T2 X2 e2 => ?_)
  refine own_ifYes X2 hx (pc' := 31) (hb hby d15_11) ((if0 _ _).trans (teq (by decide : (0 : Int32) = (0 : Int32))).1) (by decide) (by decide) ?_
  refine own_aloadN X2 hx (hb hby d15_31) rfl rfl ?_
  refine own_iface X2 hx hZ hown (y := (⟨"java/util/Collection", "isEmpty", "()Z"⟩ : MethodName)) (z := (⟨"java/util/ArrayList", "isEmpty", "()Z"⟩ : MethodName)) (hw _ (List.mem_of_getElem? (i := 113) rfl)) (hw _ (List.mem_of_getElem? (i := 114) rfl)) (hw _ (List.mem_of_getElem? (i := 115) rfl)) (hw _ (List.mem_of_getElem? (i := 116) rfl)) (hw _ (List.mem_of_getElem? (i := 117) rfl)) (hw _ (List.mem_of_getElem? (i := 118) rfl)) (hw _ (List.mem_of_getElem? (i := 119) rfl)) (hw _ (List.mem_of_getElem? (i := 120) rfl)) (hw _ (List.mem_of_getElem? (i := 27) rfl)) (hw _ (List.mem_of_getElem? (i := 121) rfl)) (a := a1) f0 (by decide) (W := 0) (by decide) (by decide) N0 e2 (by rw [hml]; rfl) (argsL := []) (rest := []) (lenOf pd_9 rfl) (Nat.le_of_eq rfl) (by decide) (by decide) (rm16 l Z a0 hw [] a1 ((((0 : Int32) + (1 : Int32)) + (1 : Int32)) + (1 : Int32)) h0 n0 O0 f2) rfl (hb hby d15_32) ?_
  intro v3 T3 lc3 X3 N3 hQ3
  obtain ⟨rfl, e3⟩ := hQ3
  refine own_ifYes X3 hx (pc' := 44) (hb hby d15_37) ((if0 _ _).trans (teq ((own_bz (by decide)) : (if ((((0 : Int32) + (1 : Int32)) + (1 : Int32)) + (1 : Int32)) = (0 : Int32) then (1 : Int32) else (0 : Int32)) = (0 : Int32))).1) (by decide) (by decide) ?_
  refine own_aloadN X3 hx (hb hby d15_44) rfl rfl ?_
  refine own_iface X3 hx hZ hown (y := (⟨"java/util/Collection", "toArray", "()[Ljava/lang/Object;"⟩ : MethodName)) (z := (⟨"java/util/ArrayList", "toArray", "()[Ljava/lang/Object;"⟩ : MethodName)) (hw _ (List.mem_of_getElem? (i := 122) rfl)) (hw _ (List.mem_of_getElem? (i := 123) rfl)) (hw _ (List.mem_of_getElem? (i := 124) rfl)) (hw _ (List.mem_of_getElem? (i := 125) rfl)) (hw _ (List.mem_of_getElem? (i := 126) rfl)) (hw _ (List.mem_of_getElem? (i := 127) rfl)) (hw _ (List.mem_of_getElem? (i := 128) rfl)) (hw _ (List.mem_of_getElem? (i := 120) rfl)) (hw _ (List.mem_of_getElem? (i := 27) rfl)) (hw _ (List.mem_of_getElem? (i := 129) rfl)) (a := a1) f0 (by decide) (W := 0) (by decide) (by decide) N3 e3 (by rw [hml]; rfl) (argsL := []) (rest := []) (lenOf pd_3 rfl) (Nat.le_of_eq rfl) (by decide) (by decide) (rm173 l Z a0 hw [] a1 b k x0 x1 x2 w_EMPTY_ELEMENTDATA w_DEFAULTCAPACITY_EMPTY_ELEMENTDATA w_EMPTY w_EMPTY_LIST k_w_EMPTY_ELEMENTDATA k_w_DEFAULTCAPACITY_EMPTY_ELEMENTDATA w_mir w_els k_els h0 n0 O0 ⟨z0, z1, z2, z3, z4, z5, z6, z7, z8, z9, z10, z11, zm, z13, z14, trivial⟩ f0 f1 f2 f3 f4 f5 f6 f7) rfl (hb hby d15_45) ?_
  intro v4 T4 lc4 X4 N4 hQ4
  obtain ⟨b2_4, k2_4, rfl, K4, r4_0, r4_1, r4_2⟩ := hQ4
  have E5_x0 := f5.keep K4
  have E5_x1 := f6.keep K4
  have E5_x2 := f7.keep K4
  have O5 := O0.keep K4 all0
  have KC5 := KC0.trans K4 all0
  have ge_b2_4 : n0 ≤ b2_4 := Nat.le_trans (own_sz O0) r4_2
  have sz_b2_4 : h0.size ≤ b2_4 := Nat.le_trans KC0.1 r4_2
  refine own_callS X4 hx hZ hown (y := (⟨"java/util/List", "of", "([Ljava/lang/Object;)Ljava/util/List;"⟩ : MethodName)) (hw _ (List.mem_of_getElem? (i := 152) rfl)) (hw _ (List.mem_of_getElem? (i := 153) rfl)) (hw _ (List.mem_of_getElem? (i := 101) rfl)) (hw _ (List.mem_of_getElem? (i := 154) rfl)) (by decide) (W := 0) (by decide) (by decide) N4 rfl (by rw [hml]; rfl) (argsL := [(.ref b2_4)]) (rest := []) (lenOf pd_10 rfl) (Nat.le_of_eq rfl) (by decide) (by decide) (rm213 l Z a0 hw [] b2_4 k2_4 x0 x1 x2 w_EMPTY_ELEMENTDATA w_DEFAULTCAPACITY_EMPTY_ELEMENTDATA w_EMPTY w_EMPTY_LIST k_w_EMPTY_ELEMENTDATA k_w_DEFAULTCAPACITY_EMPTY_ELEMENTDATA w_mir w_els k_els T4.heap n0 O5 ⟨z0, z1, z2, z3, z4, z5, z6, z7, z8, z9, z10, z11, zm, z13, z14, trivial⟩ r4_0 E5_x0 E5_x1 E5_x2) rfl (hb hby d15_50) ?_
  intro v6 T6 lc6 X6 N6 hQ6
  obtain ⟨t_6, q_6, kq_6, rfl, K6, r6_0, r6_1, r6_2, r6_3, r6_4⟩ := hQ6
  have O7 := O5.keep K6 all0
  have KC7 := KC5.trans K6 all0
  have ge_t_6 : n0 ≤ t_6 := Nat.le_trans (own_sz O5) r6_3
  have sz_t_6 : h0.size ≤ t_6 := Nat.le_trans KC5.1 r6_3
  have ge_q_6 : n0 ≤ q_6 := Nat.le_trans (own_sz O5) r6_4
  have sz_q_6 : h0.size ≤ q_6 := Nat.le_trans KC5.1 r6_4
  show Goes _ _ _ _ _ _ (T6.setTop (mkF m 53 #[.val (.ref a1), .unset] [(.ref t_6)]))
  exact own_retR X6 hx N6 hlk (by decide) (by decide) hret rfl rfl rfl (hb hby d15_53) (⟨t_6, q_6, kq_6, rfl, KC7, r6_0, r6_1, r6_2, sz_t_6, sz_q_6⟩)
def Q143 (Z : State) (a1 : Addr) (b : Addr) (k : ClassId) (x0 : Addr) (x1 : Addr) (x2 : Addr) (w_EMPTY_ELEMENTDATA : Addr) (w_DEFAULTCAPACITY_EMPTY_ELEMENTDATA : Addr) (w_EMPTY : Addr) (w_EMPTY_LIST : Addr) (k_w_EMPTY_ELEMENTDATA : ClassId) (k_w_DEFAULTCAPACITY_EMPTY_ELEMENTDATA : ClassId) (w_mir : Addr) (w_els : Addr) (k_els : ClassId) (h0 : Heap) (n0 : Nat) (v : Option Value) (h : Heap) : Prop :=
  (∃ (t : Addr) (q : Addr) (kq : ClassId), v = some (.ref t) ∧ Keep h0 h [] ∧ Exa Z h t "java/util/ImmutableCollections$ListN" ∧ Fld Z h t "java/util/ImmutableCollections$ListN" "elements" "[Ljava/lang/Object;" (.ref q) ∧ Arv Z h q kq (.object "java/lang/Object") ((((0 : Int32) + (1 : Int32)) + (1 : Int32)) + (1 : Int32)) [(.ref x0), (.ref x1), (.ref x2)] .null ∧ h0.size ≤ t ∧ h0.size ≤ q)
theorem ef_143 (m : MethodId) (a1 : Addr) : entryFrame m #[(.ref a1)] 1 = mkF m 0 #[.val (.ref a1)] [] := by first | (simp [entryFrame, mkF, argsToLocals, Value.category]; done) | rfl
set_option maxRecDepth 65536 in
set_option maxHeartbeats 40000000 in
theorem rm143 (l : Launch) (Z : State) (a0 : Array Value) (hw : ∀ d ∈ tables_1, d.before a0 Z = true) (ws : List Jvm.Cond) (a1 : Addr) (b : Addr) (k : ClassId) (x0 : Addr) (x1 : Addr) (x2 : Addr) (w_EMPTY_ELEMENTDATA : Addr) (w_DEFAULTCAPACITY_EMPTY_ELEMENTDATA : Addr) (w_EMPTY : Addr) (w_EMPTY_LIST : Addr) (k_w_EMPTY_ELEMENTDATA : ClassId) (k_w_DEFAULTCAPACITY_EMPTY_ELEMENTDATA : ClassId) (w_mir : Addr) (w_els : Addr) (k_els : ClassId) (h0 : Heap) (n0 : Nat) (O0 : Old Z n0 h0) (SF : Start Z w_EMPTY_ELEMENTDATA w_DEFAULTCAPACITY_EMPTY_ELEMENTDATA w_EMPTY w_EMPTY_LIST k_w_EMPTY_ELEMENTDATA k_w_DEFAULTCAPACITY_EMPTY_ELEMENTDATA w_mir w_els k_els) (f0 : Exa Z h0 a1 "java/util/ArrayList") (f1 : Fld Z h0 a1 "java/util/ArrayList" "elementData" "[Ljava/lang/Object;" (.ref b)) (f2 : Fld Z h0 a1 "java/util/ArrayList" "size" "I" (.int ((((0 : Int32) + (1 : Int32)) + (1 : Int32)) + (1 : Int32)))) (f3 : Arv Z h0 b k (.object "java/lang/Object") (10 : Int32) [(.ref x0), (.ref x1), (.ref x2), .null, .null, .null, .null, .null, .null, .null] .null) (f4 : Exa Z h0 b "[Ljava/lang/Object;") (f5 : Exa Z h0 x0 "com/example/gantry/gantry/resolver/LocalCopy") (f6 : Exa Z h0 x1 "com/example/gantry/gantry/resolver/LocalCopy") (f7 : Exa Z h0 x2 "com/example/gantry/gantry/resolver/LocalCopy") :
    Meets l (⟨"java/util/List", "copyOf", "(Ljava/util/Collection;)Ljava/util/List;"⟩ : MethodName) jdk_40_method_48_code 1 (some (.object "java/util/List")) ws ({ frames := 8, cells := 3, slots := 8, locals := 103 } : Room) ({ frames := 8, cells := 3, slots := 8, locals := 103 } : Room).cells ({ frames := 8, cells := 3, slots := 8, locals := 103 } : Room).slots Z #[(.ref a1)] h0 n0 (Q143 Z a1 b k x0 x1 x2 w_EMPTY_ELEMENTDATA w_DEFAULTCAPACITY_EMPTY_ELEMENTDATA w_EMPTY w_EMPTY_LIST k_w_EMPTY_ELEMENTDATA k_w_DEFAULTCAPACITY_EMPTY_ELEMENTDATA w_mir w_els k_els h0 n0) := by
  refine Meets.of (F := fun m => mkF m 0 #[.val (.ref a1)] []) (plainFor_of_name pn_11) (fun m => ef_143 m a1) ?_
  intro p e s m below meth c T0 hx hby hml hown0 hnm hret hlk hZ X0 e0
  have hown : s.vm.findClass "java/util/List" = some m.cls := hown0
  have N0 := Fr.nil n0
  have KC0 := Keep.refl h0 []
  obtain ⟨z0, z1, z2, z3, z4, z5, z6, z7, z8, z9, z10, z11, zm, z13, z14, -⟩ := SF
  show Goes _ _ _ _ _ _ (T0.setTop (mkF m 0 #[.val (.ref a1)] []))
  refine own_aloadN X0 hx (hb hby d14_0) rfl rfl ?_
  refine own_callS X0 hx hZ hown (y := (⟨"java/util/ImmutableCollections", "listCopy", "(Ljava/util/Collection;)Ljava/util/List;"⟩ : MethodName)) (hw _ (List.mem_of_getElem? (i := 103) rfl)) (hw _ (List.mem_of_getElem? (i := 104) rfl)) (hw _ (List.mem_of_getElem? (i := 105) rfl)) (hw _ (List.mem_of_getElem? (i := 106) rfl)) (by decide) (W := 0) (by decide) (by decide) N0 e0 (by rw [hml]; rfl) (argsL := [(.ref a1)]) (rest := []) (lenOf pd_11 rfl) (Nat.le_of_eq rfl) (by decide) (by decide) (rm153 l Z a0 hw [] a1 b k x0 x1 x2 w_EMPTY_ELEMENTDATA w_DEFAULTCAPACITY_EMPTY_ELEMENTDATA w_EMPTY w_EMPTY_LIST k_w_EMPTY_ELEMENTDATA k_w_DEFAULTCAPACITY_EMPTY_ELEMENTDATA w_mir w_els k_els h0 n0 O0 ⟨z0, z1, z2, z3, z4, z5, z6, z7, z8, z9, z10, z11, zm, z13, z14, trivial⟩ f0 f1 f2 f3 f4 f5 f6 f7) rfl (hb hby d14_1) ?_
  intro v1 T1 lc1 X1 N1 hQ1
  obtain ⟨t_1, q_1, kq_1, rfl, K1, r1_0, r1_1, r1_2, r1_3, r1_4⟩ := hQ1
  have O2 := O0.keep K1 all0
  have KC2 := KC0.trans K1 all0
  have ge_t_1 : n0 ≤ t_1 := Nat.le_trans (own_sz O0) r1_3
  have sz_t_1 : h0.size ≤ t_1 := Nat.le_trans KC0.1 r1_3
  have ge_q_1 : n0 ≤ q_1 := Nat.le_trans (own_sz O0) r1_4
  have sz_q_1 : h0.size ≤ q_1 := Nat.le_trans KC0.1 r1_4
  show Goes _ _ _ _ _ _ (T1.setTop (mkF m 4 #[.val (.ref a1)] [(.ref t_1)]))
  exact own_retR X1 hx N1 hlk (by decide) (by decide) hret rfl rfl rfl (hb hby d14_4) (⟨t_1, q_1, kq_1, rfl, KC2, r1_0, r1_1, r1_2, sz_t_1, sz_q_1⟩)
def Q19J (Z : State) (a1 : Addr) (k : ClassId) (x0 : Addr) (w_EMPTY_ELEMENTDATA : Addr) (w_DEFAULTCAPACITY_EMPTY_ELEMENTDATA : Addr) (w_EMPTY : Addr) (w_EMPTY_LIST : Addr) (k_w_EMPTY_ELEMENTDATA : ClassId) (k_w_DEFAULTCAPACITY_EMPTY_ELEMENTDATA : ClassId) (w_mir : Addr) (w_els : Addr) (k_els : ClassId) (h0 : Heap) (n0 : Nat) (v : Option Value) (h : Heap) : Prop :=
  (∃ (b2 : Addr) (k2 : ClassId), v = some (.ref b2) ∧ Keep h0 h [] ∧ Arv Z h b2 k2 (.object "java/lang/Object") ((0 : Int32) + (1 : Int32)) [(.ref x0)] .null ∧ Exa Z h b2 "[Ljava/lang/Object;" ∧ h0.size ≤ b2)
theorem ef_19J (m : MethodId) (a1 : Addr) : entryFrame m #[(.ref a1), (.int ((0 : Int32) + (1 : Int32))), (.ref w_mir)] 4 = mkF m 0 #[.val (.ref a1), .val (.int ((0 : Int32) + (1 : Int32))), .val (.ref w_mir), .unset] [] := by first | (simp [entryFrame, mkF, argsToLocals, Value.category]; done) | rfl
set_option maxRecDepth 65536 in
set_option maxHeartbeats 40000000 in
theorem rm19J (l : Launch) (Z : State) (a0 : Array Value) (hw : ∀ d ∈ tables_1, d.before a0 Z = true) (ws : List Jvm.Cond) (a1 : Addr) (k : ClassId) (x0 : Addr) (w_EMPTY_ELEMENTDATA : Addr) (w_DEFAULTCAPACITY_EMPTY_ELEMENTDATA : Addr) (w_EMPTY : Addr) (w_EMPTY_LIST : Addr) (k_w_EMPTY_ELEMENTDATA : ClassId) (k_w_DEFAULTCAPACITY_EMPTY_ELEMENTDATA : ClassId) (w_mir : Addr) (w_els : Addr) (k_els : ClassId) (h0 : Heap) (n0 : Nat) (O0 : Old Z n0 h0) (SF : Start Z w_EMPTY_ELEMENTDATA w_DEFAULTCAPACITY_EMPTY_ELEMENTDATA w_EMPTY w_EMPTY_LIST k_w_EMPTY_ELEMENTDATA k_w_DEFAULTCAPACITY_EMPTY_ELEMENTDATA w_mir w_els k_els) (f0 : Arv Z h0 a1 k (.object "java/lang/Object") (10 : Int32) [(.ref x0), .null, .null, .null, .null, .null, .null, .null, .null, .null] .null) (f1 : Exa Z h0 a1 "[Ljava/lang/Object;") (f2 : Exa Z h0 x0 "com/example/gantry/gantry/resolver/Resolution$Jar") :
    Meets l (⟨"java/util/Arrays", "copyOf", "([Ljava/lang/Object;ILjava/lang/Class;)[Ljava/lang/Object;"⟩ : MethodName) jdk_65_method_120_code 4 (some (.array (.object "java/lang/Object"))) ws ({ frames := 1, cells := 1, slots := 1, locals := 18 } : Room) ({ frames := 1, cells := 1, slots := 1, locals := 18 } : Room).cells ({ frames := 1, cells := 1, slots := 1, locals := 18 } : Room).slots Z #[(.ref a1), (.int ((0 : Int32) + (1 : Int32))), (.ref w_mir)] h0 n0 (Q19J Z a1 k x0 w_EMPTY_ELEMENTDATA w_DEFAULTCAPACITY_EMPTY_ELEMENTDATA w_EMPTY w_EMPTY_LIST k_w_EMPTY_ELEMENTDATA k_w_DEFAULTCAPACITY_EMPTY_ELEMENTDATA w_mir w_els k_els h0 n0) := by
  refine Meets.of (F := fun m => mkF m 0 #[.val (.ref a1), .val (.int ((0 : Int32) + (1 : Int32))), .val (.ref w_mir), .unset] []) (plainFor_of_name pn_9) (fun m => ef_19J m a1) ?_
  intro p e s m below meth c T0 hx hby hml hown0 hnm hret hlk hZ X0 e0
  have hown : s.vm.findClass "java/util/Arrays" = some m.cls := hown0
  have N0 := Fr.nil n0
  have KC0 := Keep.refl h0 []
  obtain ⟨z0, z1, z2, z3, z4, z5, z6, z7, z8, z9, z10, z11, zm, z13, z14, -⟩ := SF
  show Goes _ _ _ _ _ _ (T0.setTop (mkF m 0 #[.val (.ref a1), .val (.int ((0 : Int32) + (1 : Int32))), .val (.ref w_mir), .unset] []))
  refine own_aloadN X0 hx (hb hby d19_0) rfl rfl ?_
  refine own_ldcMir X0 hx hZ hown (hw _ (List.mem_of_getElem? (i := 143) rfl)) e0 zm (hb hby d19_1) (fun T1 X1 e1 => ?_)
  refine own_acmp X1 hx rfl rfl (same := true) (pc' := 6) (hb hby d19_3) (decide_eq_true rfl) (by decide) (by decide) ?_
  refine own_iloadN X1 hx (hb hby d19_6) rfl ?_
  refine own_newRE X1 hx hZ hown (ad := "[Ljava/lang/Object;") (by decide +kernel) (hw _ (List.mem_of_getElem? (i := 144) rfl)) (hw _ (List.mem_of_getElem? (i := 78) rfl)) e1 (hb hby d19_7) (by decide) (cap := 1) (by decide) (by decide) (by decide) (by decide) (fun T2 h2 b2 k2 g2 X2 e2 E2 A2 O2_ B2 => ?_)
  have ge_b2 : n0 ≤ b2 := Nat.le_trans (own_sz O0) (Nat.le_of_eq g2.symm)
  have sz_b2 : h0.size ≤ b2 := Nat.le_trans KC0.1 (Nat.le_of_eq g2.symm)
  have E3_x0 := f2.ext E2
  have A3_a1 := f0.ext E2
  have O3 := O0.ext E2
  have KC3 := KC0.ext E2
  have V2 : Arv Z h2 b2 k2 (.object "java/lang/Object") ((0 : Int32) + (1 : Int32)) [.null] .null := A2.pad (pad_rep [] .null 1)
  refine own_goto X2 hx (pc' := 24) (hb hby d19_10) (by decide) (by decide) ?_
  refine own_astoreN X2 hx (Ls' := #[.val (.ref a1), .val (.int ((0 : Int32) + (1 : Int32))), .val (.ref w_mir), .val (.ref b2)]) (hb hby d19_24) rfl rfl ?_
  refine own_aloadN X2 hx (hb hby d19_25) rfl rfl ?_
  show Goes _ _ _ _ _ _ (T2.setTop (mkF m 26 #[.val (.ref a1), .val (.int ((0 : Int32) + (1 : Int32))), .val (.ref w_mir), .val (.ref b2)] [(.ref a1)]))
  refine own_iconst X2 hx (v := (0 : Int32)) (hb hby d19_26) rfl ?_
  refine own_aloadN X2 hx (hb hby d19_27) rfl rfl ?_
  refine own_iconst X2 hx (v := (0 : Int32)) (hb hby d19_28) rfl ?_
  refine own_aloadN X2 hx (hb hby d19_29) rfl rfl ?_
  refine own_alen X2 hx hZ e2 A3_a1 (hb hby d19_30) ?_
  refine own_iloadN X2 hx (hb hby d19_31) rfl ?_
  refine own_callS X2 hx hZ hown (y := (⟨"java/lang/Math", "min", "(II)I"⟩ : MethodName)) (hw _ (List.mem_of_getElem? (i := 145) rfl)) (hw _ (List.mem_of_getElem? (i := 146) rfl)) (hw _ (List.mem_of_getElem? (i := 75) rfl)) (hw _ (List.mem_of_getElem? (i := 147) rfl)) (by decide) (W := 4) (by decide) (by decide) N0 e2 (by rw [hml]; rfl) (argsL := [(.int (10 : Int32)), (.int ((0 : Int32) + (1 : Int32)))]) (rest := [(.int (0 : Int32)), (.ref b2), (.int (0 : Int32)), (.ref a1)]) (lenOf pd_1 rfl) (Nat.le_of_eq rfl) (by decide) (by decide) (rm20 l Z a0 hw [] (10 : Int32) ((0 : Int32) + (1 : Int32)) h2 n0 O3) rfl (hb hby d19_32) ?_
  intro v4 T4 lc4 X4 N4 hQ4
  rcases hQ4 with hQ4_0 | hQ4_1
  ·
    obtain ⟨rfl, hq4_0_0, e4⟩ := hQ4_0
    obtain ⟨cl5, Ar5, q5, -⟩ := id V2
    refine own_cpA X4 hx hZ hown (hw _ (List.mem_of_getElem? (i := 148) rfl)) (hw _ (List.mem_of_getElem? (i := 151) rfl)) (hw _ (List.mem_of_getElem? (i := 149) rfl)) (hw _ (List.mem_of_getElem? (i := 150) rfl)) e4 A3_a1 V2 (us := [(.ref x0)]) (vr := [(.ref x0)]) (Or.inr ⟨rfl, rfl, ⟨(Sto.ofV Ar5 q5 O2_ (Ins.of_exa E3_x0 (hw _ (List.mem_of_getElem? (i := 91) rfl)))), trivial⟩⟩) (by decide) (by decide) (by decide) (by decide) (by decide) rfl (Nat.le_of_ble_eq_true rfl) rfl N4 ge_b2 (by rw [hml]; rfl) (hb hby d19_35) (by decide) (W := 0) (Nat.le_of_eq rfl) (by decide) (fun T5 h5 lc5 X5 e5 N5 K5 V5 => ?_)
    have E6_b2 := B2.keep K5
    have O6 := O3.keep K5 (allS ge_b2 all0)
    have KC6 := KC3.trans K5 (allS (Or.inr sz_b2) all0)
    refine own_aloadN X5 hx (hb hby d19_38) rfl rfl ?_
    show Goes _ _ _ _ _ _ (T5.setTop (mkF m 39 #[.val (.ref a1), .val (.int ((0 : Int32) + (1 : Int32))), .val (.ref w_mir), .val (.ref b2)] [(.ref b2)]))
    exact own_retR X5 hx N5 hlk (by decide) (by decide) hret rfl rfl rfl (hb hby d19_39) (by rw [e5]; exact ⟨b2, k2, rfl, KC6, V5, E6_b2, sz_b2⟩)
  ·
    obtain ⟨rfl, hq4_1_0, e4⟩ := hQ4_1
    exact absurd (by decide) hq4_1_0
def Q18J (Z : State) (a1 : Addr) (k : ClassId) (x0 : Addr) (w_EMPTY_ELEMENTDATA : Addr) (w_DEFAULTCAPACITY_EMPTY_ELEMENTDATA : Addr) (w_EMPTY : Addr) (w_EMPTY_LIST : Addr) (k_w_EMPTY_ELEMENTDATA : ClassId) (k_w_DEFAULTCAPACITY_EMPTY_ELEMENTDATA : ClassId) (w_mir : Addr) (w_els : Addr) (k_els : ClassId) (h0 : Heap) (n0 : Nat) (v : Option Value) (h : Heap) : Prop :=
  (∃ (b2 : Addr) (k2 : ClassId), v = some (.ref b2) ∧ Keep h0 h [] ∧ Arv Z h b2 k2 (.object "java/lang/Object") ((0 : Int32) + (1 : Int32)) [(.ref x0)] .null ∧ Exa Z h b2 "[Ljava/lang/Object;" ∧ h0.size ≤ b2)
theorem ef_18J (m : MethodId) (a1 : Addr) : entryFrame m #[(.ref a1), (.int ((0 : Int32) + (1 : Int32)))] 2 = mkF m 0 #[.val (.ref a1), .val (.int ((0 : Int32) + (1 : Int32)))] [] := by first | (simp [entryFrame, mkF, argsToLocals, Value.category]; done) | rfl
set_option maxRecDepth 65536 in
set_option maxHeartbeats 40000000 in
theorem rm18J (l : Launch) (Z : State) (a0 : Array Value) (hw : ∀ d ∈ tables_1, d.before a0 Z = true) (ws : List Jvm.Cond) (a1 : Addr) (k : ClassId) (x0 : Addr) (w_EMPTY_ELEMENTDATA : Addr) (w_DEFAULTCAPACITY_EMPTY_ELEMENTDATA : Addr) (w_EMPTY : Addr) (w_EMPTY_LIST : Addr) (k_w_EMPTY_ELEMENTDATA : ClassId) (k_w_DEFAULTCAPACITY_EMPTY_ELEMENTDATA : ClassId) (w_mir : Addr) (w_els : Addr) (k_els : ClassId) (h0 : Heap) (n0 : Nat) (O0 : Old Z n0 h0) (SF : Start Z w_EMPTY_ELEMENTDATA w_DEFAULTCAPACITY_EMPTY_ELEMENTDATA w_EMPTY w_EMPTY_LIST k_w_EMPTY_ELEMENTDATA k_w_DEFAULTCAPACITY_EMPTY_ELEMENTDATA w_mir w_els k_els) (f0 : Arv Z h0 a1 k (.object "java/lang/Object") (10 : Int32) [(.ref x0), .null, .null, .null, .null, .null, .null, .null, .null, .null] .null) (f1 : Exa Z h0 a1 "[Ljava/lang/Object;") (f2 : Exa Z h0 x0 "com/example/gantry/gantry/resolver/Resolution$Jar") :
    Meets l (⟨"java/util/Arrays", "copyOf", "([Ljava/lang/Object;I)[Ljava/lang/Object;"⟩ : MethodName) jdk_65_method_119_code 2 (some (.array (.object "java/lang/Object"))) ws ({ frames := 2, cells := 1, slots := 1, locals := 33 } : Room) ({ frames := 2, cells := 1, slots := 1, locals := 33 } : Room).cells ({ frames := 2, cells := 1, slots := 1, locals := 33 } : Room).slots Z #[(.ref a1), (.int ((0 : Int32) + (1 : Int32)))] h0 n0 (Q18J Z a1 k x0 w_EMPTY_ELEMENTDATA w_DEFAULTCAPACITY_EMPTY_ELEMENTDATA w_EMPTY w_EMPTY_LIST k_w_EMPTY_ELEMENTDATA k_w_DEFAULTCAPACITY_EMPTY_ELEMENTDATA w_mir w_els k_els h0 n0) := by
  refine Meets.of (F := fun m => mkF m 0 #[.val (.ref a1), .val (.int ((0 : Int32) + (1 : Int32)))] []) (plainFor_of_name pn_9) (fun m => ef_18J m a1) ?_
  intro p e s m below meth c T0 hx hby hml hown0 hnm hret hlk hZ X0 e0
  have hown : s.vm.findClass "java/util/Arrays" = some m.cls := hown0
  have N0 := Fr.nil n0
  have KC0 := Keep.refl h0 []
  obtain ⟨z0, z1, z2, z3, z4, z5, z6, z7, z8, z9, z10, z11, zm, z13, z14, -⟩ := SF
  show Goes _ _ _ _ _ _ (T0.setTop (mkF m 0 #[.val (.ref a1), .val (.int ((0 : Int32) + (1 : Int32)))] []))
  refine own_aloadN X0 hx (hb hby d18_0) rfl rfl ?_
  refine own_iloadN X0 hx (hb hby d18_1) rfl ?_
  refine own_aloadN X0 hx (hb hby d18_2) rfl rfl ?_
  refine own_gcls X0 hx hZ hown (hw _ (List.mem_of_getElem? (i := 134) rfl)) (hw _ (List.mem_of_getElem? (i := 135) rfl)) (hw _ (List.mem_of_getElem? (i := 111) rfl)) (hw _ (List.mem_of_getElem? (i := 137) rfl)) (hw _ (List.mem_of_getElem? (i := 136) rfl)) (hw _ (List.mem_of_getElem? (i := 138) rfl)) e0 f1 zm (by rw [hml]; rfl) (hb hby d18_3) (by decide) (W := 2) (Nat.le_of_eq rfl) (by decide) (fun T1 X1 e1 => ?_)
  refine own_callS X1 hx hZ hown (y := (⟨"java/util/Arrays", "copyOf", "([Ljava/lang/Object;ILjava/lang/Class;)[Ljava/lang/Object;"⟩ : MethodName)) (hw _ (List.mem_of_getElem? (i := 140) rfl)) (hw _ (List.mem_of_getElem? (i := 141) rfl)) (hw _ (List.mem_of_getElem? (i := 132) rfl)) (hw _ (List.mem_of_getElem? (i := 142) rfl)) (by decide) (W := 0) (by decide) (by decide) N0 e1 (by rw [hml]; rfl) (argsL := [(.ref a1), (.int ((0 : Int32) + (1 : Int32))), (.ref w_mir)]) (rest := []) (lenOf pd_5 rfl) (Nat.le_of_eq rfl) (by decide) (by decide) (rm19J l Z a0 hw [] a1 k x0 w_EMPTY_ELEMENTDATA w_DEFAULTCAPACITY_EMPTY_ELEMENTDATA w_EMPTY w_EMPTY_LIST k_w_EMPTY_ELEMENTDATA k_w_DEFAULTCAPACITY_EMPTY_ELEMENTDATA w_mir w_els k_els h0 n0 O0 ⟨z0, z1, z2, z3, z4, z5, z6, z7, z8, z9, z10, z11, zm, z13, z14, trivial⟩ f0 f1 f2) rfl (hb hby d18_6) ?_
  intro v2 T2 lc2 X2 N2 hQ2
  obtain ⟨b2_2, k2_2, rfl, K2, r2_0, r2_1, r2_2⟩ := hQ2
  have O3 := O0.keep K2 all0
  have KC3 := KC0.trans K2 all0
  have ge_b2_2 : n0 ≤ b2_2 := Nat.le_trans (own_sz O0) r2_2
  have sz_b2_2 : h0.size ≤ b2_2 := Nat.le_trans KC0.1 r2_2
  show Goes _ _ _ _ _ _ (T2.setTop (mkF m 9 #[.val (.ref a1), .val (.int ((0 : Int32) + (1 : Int32)))] [(.ref b2_2)]))
  exact own_retR X2 hx N2 hlk (by decide) (by decide) hret rfl rfl rfl (hb hby d18_9) (⟨b2_2, k2_2, rfl, KC3, r2_0, r2_1, sz_b2_2⟩)
def Q17J (Z : State) (a1 : Addr) (b : Addr) (k : ClassId) (x0 : Addr) (w_EMPTY_ELEMENTDATA : Addr) (w_DEFAULTCAPACITY_EMPTY_ELEMENTDATA : Addr) (w_EMPTY : Addr) (w_EMPTY_LIST : Addr) (k_w_EMPTY_ELEMENTDATA : ClassId) (k_w_DEFAULTCAPACITY_EMPTY_ELEMENTDATA : ClassId) (w_mir : Addr) (w_els : Addr) (k_els : ClassId) (h0 : Heap) (n0 : Nat) (v : Option Value) (h : Heap) : Prop :=
  (∃ (b2 : Addr) (k2 : ClassId), v = some (.ref b2) ∧ Keep h0 h [] ∧ Arv Z h b2 k2 (.object "java/lang/Object") ((0 : Int32) + (1 : Int32)) [(.ref x0)] .null ∧ Exa Z h b2 "[Ljava/lang/Object;" ∧ h0.size ≤ b2)
theorem ef_17J (m : MethodId) (a1 : Addr) : entryFrame m #[(.ref a1)] 1 = mkF m 0 #[.val (.ref a1)] [] := by first | (simp [entryFrame, mkF, argsToLocals, Value.category]; done) | rfl
set_option maxRecDepth 65536 in
set_option maxHeartbeats 40000000 in
theorem rm17J (l : Launch) (Z : State) (a0 : Array Value) (hw : ∀ d ∈ tables_1, d.before a0 Z = true) (ws : List Jvm.Cond) (a1 : Addr) (b : Addr) (k : ClassId) (x0 : Addr) (w_EMPTY_ELEMENTDATA : Addr) (w_DEFAULTCAPACITY_EMPTY_ELEMENTDATA : Addr) (w_EMPTY : Addr) (w_EMPTY_LIST : Addr) (k_w_EMPTY_ELEMENTDATA : ClassId) (k_w_DEFAULTCAPACITY_EMPTY_ELEMENTDATA : ClassId) (w_mir : Addr) (w_els : Addr) (k_els : ClassId) (h0 : Heap) (n0 : Nat) (O0 : Old Z n0 h0) (SF : Start Z w_EMPTY_ELEMENTDATA w_DEFAULTCAPACITY_EMPTY_ELEMENTDATA w_EMPTY w_EMPTY_LIST k_w_EMPTY_ELEMENTDATA k_w_DEFAULTCAPACITY_EMPTY_ELEMENTDATA w_mir w_els k_els) (f0 : Exa Z h0 a1 "java/util/ArrayList") (f1 : Fld Z h0 a1 "java/util/ArrayList" "elementData" "[Ljava/lang/Object;" (.ref b)) (f2 : Fld Z h0 a1 "java/util/ArrayList" "size" "I" (.int ((0 : Int32) + (1 : Int32)))) (f3 : Arv Z h0 b k (.object "java/lang/Object") (10 : Int32) [(.ref x0), .null, .null, .null, .null, .null, .null, .null, .null, .null] .null) (f4 : Exa Z h0 b "[Ljava/lang/Object;") (f5 : Exa Z h0 x0 "com/example/gantry/gantry/resolver/Resolution$Jar") :
    Meets l (⟨"java/util/ArrayList", "toArray", "()[Ljava/lang/Object;"⟩ : MethodName) jdk_38_method_16_code 1 (some (.array (.object "java/lang/Object"))) ws ({ frames := 3, cells := 1, slots := 1, locals := 46 } : Room) ({ frames := 3, cells := 1, slots := 1, locals := 46 } : Room).cells ({ frames := 3, cells := 1, slots := 1, locals := 46 } : Room).slots Z #[(.ref a1)] h0 n0 (Q17J Z a1 b k x0 w_EMPTY_ELEMENTDATA w_DEFAULTCAPACITY_EMPTY_ELEMENTDATA w_EMPTY w_EMPTY_LIST k_w_EMPTY_ELEMENTDATA k_w_DEFAULTCAPACITY_EMPTY_ELEMENTDATA w_mir w_els k_els h0 n0) := by
  refine Meets.of (F := fun m => mkF m 0 #[.val (.ref a1)] []) (plainFor_of_name pn_5) (fun m => ef_17J m a1) ?_
  intro p e s m below meth c T0 hx hby hml hown0 hnm hret hlk hZ X0 e0
  have hown : s.vm.findClass "java/util/ArrayList" = some m.cls := hown0
  have N0 := Fr.nil n0
  have KC0 := Keep.refl h0 []
  obtain ⟨z0, z1, z2, z3, z4, z5, z6, z7, z8, z9, z10, z11, zm, z13, z14, -⟩ := SF
  show Goes _ _ _ _ _ _ (T0.setTop (mkF m 0 #[.val (.ref a1)] []))
  refine own_aloadN X0 hx (hb hby d17_0) rfl rfl ?_
  refine own_getF X0 hx hZ hown (host := "") (Or.inl (hw _ (List.mem_of_getElem? (i := 47) rfl))) Via.refl e0 f1 (hb hby d17_1) (fun T1 X1 e1 => ?_)
  refine own_aloadN X1 hx (hb hby d17_4) rfl rfl ?_
  refine own_getF X1 hx hZ hown (host := "") (Or.inl (hw _ (List.mem_of_getElem? (i := 56) rfl))) Via.refl e1 f2 (hb hby d17_5) (fun T2 X2 e2 => ?_)
  refine own_callS X2 hx hZ hown (y := (⟨"java/util/Arrays", "copyOf", "([Ljava/lang/Object;I)[Ljava/lang/Object;"⟩ : MethodName)) (hw _ (List.mem_of_getElem? (i := 130) rfl)) (hw _ (List.mem_of_getElem? (i := 131) rfl)) (hw _ (List.mem_of_getElem? (i := 132) rfl)) (hw _ (List.mem_of_getElem? (i := 133) rfl)) (by decide) (W := 0) (by decide) (by decide) N0 e2 (by rw [hml]; rfl) (argsL := [(.ref b), (.int ((0 : Int32) + (1 : Int32)))]) (rest := []) (lenOf pd_6 rfl) (Nat.le_of_eq rfl) (by decide) (by decide) (rm18J l Z a0 hw [] b k x0 w_EMPTY_ELEMENTDATA w_DEFAULTCAPACITY_EMPTY_ELEMENTDATA w_EMPTY w_EMPTY_LIST k_w_EMPTY_ELEMENTDATA k_w_DEFAULTCAPACITY_EMPTY_ELEMENTDATA w_mir w_els k_els h0 n0 O0 ⟨z0, z1, z2, z3, z4, z5, z6, z7, z8, z9, z10, z11, zm, z13, z14, trivial⟩ f3 f4 f5) rfl (hb hby d17_8) ?_
  intro v3 T3 lc3 X3 N3 hQ3
  obtain ⟨b2_3, k2_3, rfl, K3, r3_0, r3_1, r3_2⟩ := hQ3
  have O4 := O0.keep K3 all0
  have KC4 := KC0.trans K3 all0
  have ge_b2_3 : n0 ≤ b2_3 := Nat.le_trans (own_sz O0) r3_2
  have sz_b2_3 : h0.size ≤ b2_3 := Nat.le_trans KC0.1 r3_2
  show Goes _ _ _ _ _ _ (T3.setTop (mkF m 11 #[.val (.ref a1)] [(.ref b2_3)]))
  exact own_retR X3 hx N3 hlk (by decide) (by decide) hret rfl rfl rfl (hb hby d17_11) (⟨b2_3, k2_3, rfl, KC4, r3_0, r3_1, sz_b2_3⟩)
def Q21J (Z : State) (a1 : Addr) (k : ClassId) (x0 : Addr) (w_EMPTY_ELEMENTDATA : Addr) (w_DEFAULTCAPACITY_EMPTY_ELEMENTDATA : Addr) (w_EMPTY : Addr) (w_EMPTY_LIST : Addr) (k_w_EMPTY_ELEMENTDATA : ClassId) (k_w_DEFAULTCAPACITY_EMPTY_ELEMENTDATA : ClassId) (w_mir : Addr) (w_els : Addr) (k_els : ClassId) (h0 : Heap) (n0 : Nat) (v : Option Value) (h : Heap) : Prop :=
  (∃ (t : Addr), v = some (.ref t) ∧ Keep h0 h [] ∧ Exa Z h t "java/util/ImmutableCollections$List12" ∧ Fld Z h t "java/util/ImmutableCollections$List12" "e0" "Ljava/lang/Object;" (.ref x0) ∧ Fld Z h t "java/util/ImmutableCollections$List12" "e1" "Ljava/lang/Object;" (.ref w_EMPTY) ∧ h0.size ≤ t)
theorem ef_21J (m : MethodId) (a1 : Addr) : entryFrame m #[(.ref a1)] 2 = mkF m 0 #[.val (.ref a1), .unset] [] := by first | (simp [entryFrame, mkF, argsToLocals, Value.category]; done) | rfl
set_option maxRecDepth 65536 in
set_option maxHeartbeats 40000000 in
theorem rm21J (l : Launch) (Z : State) (a0 : Array Value) (hw : ∀ d ∈ tables_1, d.before a0 Z = true) (ws : List Jvm.Cond) (a1 : Addr) (k : ClassId) (x0 : Addr) (w_EMPTY_ELEMENTDATA : Addr) (w_DEFAULTCAPACITY_EMPTY_ELEMENTDATA : Addr) (w_EMPTY : Addr) (w_EMPTY_LIST : Addr) (k_w_EMPTY_ELEMENTDATA : ClassId) (k_w_DEFAULTCAPACITY_EMPTY_ELEMENTDATA : ClassId) (w_mir : Addr) (w_els : Addr) (k_els : ClassId) (h0 : Heap) (n0 : Nat) (O0 : Old Z n0 h0) (SF : Start Z w_EMPTY_ELEMENTDATA w_DEFAULTCAPACITY_EMPTY_ELEMENTDATA w_EMPTY w_EMPTY_LIST k_w_EMPTY_ELEMENTDATA k_w_DEFAULTCAPACITY_EMPTY_ELEMENTDATA w_mir w_els k_els) (f0 : Arv Z h0 a1 k (.object "java/lang/Object") ((0 : Int32) + (1 : Int32)) [(.ref x0)] .null) (f1 : Exa Z h0 x0 "com/example/gantry/gantry/resolver/Resolution$Jar") :
    Meets l (⟨"java/util/List", "of", "([Ljava/lang/Object;)Ljava/util/List;"⟩ : MethodName) jdk_40_method_47_code 2 (some (.object "java/util/List")) ws ({ frames := 5, cells := 1, slots := 2, locals := 62 } : Room) ({ frames := 5, cells := 1, slots := 2, locals := 62 } : Room).cells ({ frames := 5, cells := 1, slots := 2, locals := 62 } : Room).slots Z #[(.ref a1)] h0 n0 (Q21J Z a1 k x0 w_EMPTY_ELEMENTDATA w_DEFAULTCAPACITY_EMPTY_ELEMENTDATA w_EMPTY w_EMPTY_LIST k_w_EMPTY_ELEMENTDATA k_w_DEFAULTCAPACITY_EMPTY_ELEMENTDATA w_mir w_els k_els h0 n0) := by
  refine Meets.of (F := fun m => mkF m 0 #[.val (.ref a1), .unset] []) (plainFor_of_name pn_11) (fun m => ef_21J m a1) ?_
  intro p e s m below meth c T0 hx hby hml hown0 hnm hret hlk hZ X0 e0
  have hown : s.vm.findClass "java/util/List" = some m.cls := hown0
  have N0 := Fr.nil n0
  have KC0 := Keep.refl h0 []
  obtain ⟨z0, z1, z2, z3, z4, z5, z6, z7, z8, z9, z10, z11, zm, z13, z14, -⟩ := SF
  show Goes _ _ _ _ _ _ (T0.setTop (mkF m 0 #[.val (.ref a1), .unset] []))
  refine own_aloadN X0 hx (hb hby d21_0) rfl rfl ?_
  refine own_alen X0 hx hZ e0 f0 (hb hby d21_1) ?_
  refine own_tswIn X0 hx (pc' := 34) (hb hby d21_2) (by decide) (o := 32) (by decide) (by decide) (by decide) ?_
  refine own_new X0 hx hZ hown (hw _ (List.mem_of_getElem? (i := 155) rfl)) (hw _ (List.mem_of_getElem? (i := 156) rfl)) (hw _ (List.mem_of_getElem? (i := 157) rfl)) e0 (hb hby d21_34) (by decide) (by decide) (fun T1 h1 b1 g1 X1 e1 E1 A1 D1 => ?_)
  have ge_b1 : n0 ≤ b1 := Nat.le_trans (own_sz O0) (Nat.le_of_eq g1.symm)
  have sz_b1 : h0.size ≤ b1 := Nat.le_trans KC0.1 (Nat.le_of_eq g1.symm)
  have A2_a1 := f0.ext E1
  have O2 := O0.ext E1
  have KC2 := KC0.ext E1
  have F1_e0_b1 : Fld Z h1 b1 "java/util/ImmutableCollections$List12" "e0" "Ljava/lang/Object;" .null := D1 (Or.inr (hw _ (List.mem_of_getElem? (i := 181) rfl))) (ty := (.object "java/lang/Object")) (by decide)
  have F1_e1_b1 : Fld Z h1 b1 "java/util/ImmutableCollections$List12" "e1" "Ljava/lang/Object;" .null := D1 (Or.inr (hw _ (List.mem_of_getElem? (i := 184) rfl))) (ty := (.object "java/lang/Object")) (by decide)
  refine own_dup X1 hx (hb hby d21_37) rfl ?_
  refine own_aloadN X1 hx (hb hby d21_38) rfl rfl ?_
  refine own_iconst X1 hx (v := (0 : Int32)) (hb hby d21_39) rfl ?_
  show Goes _ _ _ _ _ _ (T1.setTop (mkF m 40 #[.val (.ref a1), .unset] [(.int (0 : Int32)), (.ref a1), (.ref b1), (.ref b1)]))
  refine own_aaload X1 hx hZ e1 A2_a1 rfl ⟨by decide, by decide⟩ (v := (.ref x0)) rfl (hb hby d21_40) ?_
  refine own_special X1 hx hZ hown (y := (⟨"java/util/ImmutableCollections$List12", "<init>", "(Ljava/lang/Object;)V"⟩ : MethodName)) rfl (hw _ (List.mem_of_getElem? (i := 158) rfl)) (hw _ (List.mem_of_getElem? (i := 159) rfl)) (hw _ (List.mem_of_getElem? (i := 157) rfl)) (hw _ (List.mem_of_getElem? (i := 161) rfl)) (a := b1) (by decide) (W := 1) (by decide) (by decide) N0 e1 (by rw [hml]; rfl) (argsL := [(.ref x0)]) (rest := [(.ref b1)]) (lenOf pd_8 rfl) (Nat.le_of_eq rfl) (by decide) (by decide) (rm22 l Z a0 hw [] b1 x0 (.null) (.null) w_EMPTY_ELEMENTDATA w_DEFAULTCAPACITY_EMPTY_ELEMENTDATA w_EMPTY w_EMPTY_LIST k_w_EMPTY_ELEMENTDATA k_w_DEFAULTCAPACITY_EMPTY_ELEMENTDATA w_mir w_els k_els h1 n0 O2 ⟨z0, z1, z2, z3, z4, z5, z6, z7, z8, z9, z10, z11, zm, z13, z14, trivial⟩ A1 F1_e0_b1 F1_e1_b1 ge_b1) rfl (hb hby d21_41) ?_
  intro v3 T3 lc3 X3 N3 hQ3
  obtain ⟨rfl, K3, r3_0, r3_1, r3_2⟩ := hQ3
  have O4 := O2.keep K3 (allS ge_b1 all0)
  have KC4 := KC2.trans K3 (allS (Or.inr sz_b1) all0)
  show Goes _ _ _ _ _ _ (T3.setTop (mkF m 44 #[.val (.ref a1), .unset] [(.ref b1)]))
  exact own_retR X3 hx N3 hlk (by decide) (by decide) hret rfl rfl rfl (hb hby d21_44) (⟨b1, rfl, KC4, r3_0, r3_1, r3_2, sz_b1⟩)
def Q15J (Z : State) (a1 : Addr) (b : Addr) (k : ClassId) (x0 : Addr) (w_EMPTY_ELEMENTDATA : Addr) (w_DEFAULTCAPACITY_EMPTY_ELEMENTDATA : Addr) (w_EMPTY : Addr) (w_EMPTY_LIST : Addr) (k_w_EMPTY_ELEMENTDATA : ClassId) (k_w_DEFAULTCAPACITY_EMPTY_ELEMENTDATA : ClassId) (w_mir : Addr) (w_els : Addr) (k_els : ClassId) (h0 : Heap) (n0 : Nat) (v : Option Value) (h : Heap) : Prop :=
  (∃ (t : Addr), v = some (.ref t) ∧ Keep h0 h [] ∧ Exa Z h t "java/util/ImmutableCollections$List12" ∧ Fld Z h t "java/util/ImmutableCollections$List12" "e0" "Ljava/lang/Object;" (.ref x0) ∧ Fld Z h t "java/util/ImmutableCollections$List12" "e1" "Ljava/lang/Object;" (.ref w_EMPTY) ∧ h0.size ≤ t)
theorem ef_15J (m : MethodId) (a1 : Addr) : entryFrame m #[(.ref a1)] 2 = mkF m 0 #[.val (.ref a1), .unset] [] := by first | (simp [entryFrame, mkF, argsToLocals, Value.category]; done) | rfl
set_option maxRecDepth 65536 in
set_option maxHeartbeats 40000000 in
theorem rm15J (l : Launch) (Z : State) (a0 : Array Value) (hw : ∀ d ∈ tables_1, d.before a0 Z = true) (ws : List Jvm.Cond) (a1 : Addr) (b : Addr) (k : ClassId) (x0 : Addr) (w_EMPTY_ELEMENTDATA : Addr) (w_DEFAULTCAPACITY_EMPTY_ELEMENTDATA : Addr) (w_EMPTY : Addr) (w_EMPTY_LIST : Addr) (k_w_EMPTY_ELEMENTDATA : ClassId) (k_w_DEFAULTCAPACITY_EMPTY_ELEMENTDATA : ClassId) (w_mir : Addr) (w_els : Addr) (k_els : ClassId) (h0 : Heap) (n0 : Nat) (O0 : Old Z n0 h0) (SF : Start Z w_EMPTY_ELEMENTDATA w_DEFAULTCAPACITY_EMPTY_ELEMENTDATA w_EMPTY w_EMPTY_LIST k_w_EMPTY_ELEMENTDATA k_w_DEFAULTCAPACITY_EMPTY_ELEMENTDATA w_mir w_els k_els) (f0 : Exa Z h0 a1 "java/util/ArrayList") (f1 : Fld Z h0 a1 "java/util/ArrayList" "elementData" "[Ljava/lang/Object;" (.ref b)) (f2 : Fld Z h0 a1 "java/util/ArrayList" "size" "I" (.int ((0 : Int32) + (1 : Int32)))) (f3 : Arv Z h0 b k (.object "java/lang/Object") (10 : Int32) [(.ref x0), .null, .null, .null, .null, .null, .null, .null, .null, .null] .null) (f4 : Exa Z h0 b "[Ljava/lang/Object;") (f5 : Exa Z h0 x0 "com/example/gantry/gantry/resolver/Resolution$Jar") :
    Meets l (⟨"java/util/ImmutableCollections", "listCopy", "(Ljava/util/Collection;)Ljava/util/List;"⟩ : MethodName) jdk_56_method_3_code 2 (some (.object "java/util/List")) ws ({ frames := 6, cells := 2, slots := 3, locals := 75 } : Room) ({ frames := 6, cells := 2, slots := 3, locals := 75 } : Room).cells ({ frames := 6, cells := 2, slots := 3, locals := 75 } : Room).slots Z #[(.ref a1)] h0 n0 (Q15J Z a1 b k x0 w_EMPTY_ELEMENTDATA w_DEFAULTCAPACITY_EMPTY_ELEMENTDATA w_EMPTY w_EMPTY_LIST k_w_EMPTY_ELEMENTDATA k_w_DEFAULTCAPACITY_EMPTY_ELEMENTDATA w_mir w_els k_els h0 n0) := by
  refine Meets.of (F := fun m => mkF m 0 #[.val (.ref a1), .unset] []) (plainFor_of_name pn_12) (fun m => ef_15J m a1) ?_
  intro p e s m below meth c T0 hx hby hml hown0 hnm hret hlk hZ X0 e0
  have hown : s.vm.findClass "java/util/ImmutableCollections" = some m.cls := hown0
  have N0 := Fr.nil n0
  have KC0 := Keep.refl h0 []
  obtain ⟨z0, z1, z2, z3, z4, z5, z6, z7, z8, z9, z10, z11, zm, z13, z14, -⟩ := SF
  show Goes _ _ _ _ _ _ (T0.setTop (mkF m 0 #[.val (.ref a1), .unset] []))
  refine own_aloadN X0 hx (hb hby d15_0) rfl rfl ?_
  refine own_instN X0 hx hZ hown (hw _ (List.mem_of_getElem? (i := 107) rfl)) e0 f0 (own_NSno (hw _ (List.mem_of_getElem? (i := 108) rfl)) (hw _ (List.mem_of_getElem? (i := 156) rfl)) (NS.step (hw _ (List.mem_of_getElem? (i := 108) rfl)) (NS.step (hw _ (List.mem_of_getElem? (i := 109) rfl)) (NS.step (hw _ (List.mem_of_getElem? (i := 110) rfl)) (own_NSroot (hw _ (List.mem_of_getElem? (i := 111) rfl)) (hw _ (List.mem_of_getElem? (i := 156) rfl)) (by decide)) (by decide)) (by decide)) (by decide)) (by decide)) (hb hby d15_1) (fun T1 X1 e1 => ?_)
  refine own_ifNo X1 hx (hb hby d15_4) ((if0 _ _).trans (teq (by decide : (0 : Int32) = (0 : Int32))).2) ?_
  refine own_aloadN X1 hx (hb hby d15_7) rfl rfl ?_
  refine own_instN X1 hx hZ hown (hw _ (List.mem_of_getElem? (i := 112) rfl)) e1 f0 (own_NSno (hw _ (List.mem_of_getElem? (i := 108) rfl)) (hw _ (List.mem_of_getElem? (i := 260) rfl)) (NS.step (hw _ (List.mem_of_getElem? (i := 108) rfl)) (NS.step (hw _ (List.mem_of_getElem? (i := 109) rfl)) (NS.step (hw _ (List.mem_of_getElem? (i := 110) rfl)) (own_NSroot (hw _ (List.mem_of_getElem? (i := 111) rfl)) (hw _ (List.mem_of_getElem? (i := 260) rfl)) (by decide)) (by decide)) (by decide)) (by decide)) (by decide)) (hb hby d15_8) (fun T2 X2 e2 => ?_)
  refine own_ifYes X2 hx (pc' := 31) (hb hby d15_11) ((if0 _ _).trans (teq (by decide : (0 : Int32) = (0 : Int32))).1) (by decide) (by decide) ?_
  refine own_aloadN X2 hx (hb hby d15_31) rfl rfl ?_
  refine own_iface X2 hx hZ hown (y := (⟨"java/util/Collection", "isEmpty", "()Z"⟩ : MethodName)) (z := (⟨"java/util/ArrayList", "isEmpty", "()Z"⟩ : MethodName)) (hw _ (List.mem_of_getElem? (i := 113) rfl)) (hw _ (List.mem_of_getElem? (i := 114) rfl)) (hw _ (List.mem_of_getElem? (i := 115) rfl)) (hw _ (List.mem_of_getElem? (i := 116) rfl)) (hw _ (List.mem_of_getElem? (i := 117) rfl)) (hw _ (List.mem_of_getElem? (i := 118) rfl)) (hw _ (List.mem_of_getElem? (i := 119) rfl)) (hw _ (List.mem_of_getElem? (i := 120) rfl)) (hw _ (List.mem_of_getElem? (i := 27) rfl)) (hw _ (List.mem_of_getElem? (i := 121) rfl)) (a := a1) f0 (by decide) (W := 0) (by decide) (by decide) N0 e2 (by rw [hml]; rfl) (argsL := []) (rest := []) (lenOf pd_9 rfl) (Nat.le_of_eq rfl) (by decide) (by decide) (rm16 l Z a0 hw [] a1 ((0 : Int32) + (1 : Int32)) h0 n0 O0 f2) rfl (hb hby d15_32) ?_
  intro v3 T3 lc3 X3 N3 hQ3
  obtain ⟨rfl, e3⟩ := hQ3
  refine own_ifYes X3 hx (pc' := 44) (hb hby d15_37) ((if0 _ _).trans (teq ((own_bz (by decide)) : (if ((0 : Int32) + (1 : Int32)) = (0 : Int32) then (1 : Int32) else (0 : Int32)) = (0 : Int32))).1) (by decide) (by decide) ?_
  refine own_aloadN X3 hx (hb hby d15_44) rfl rfl ?_
  refine own_iface X3 hx hZ hown (y := (⟨"java/util/Collection", "toArray", "()[Ljava/lang/Object;"⟩ : MethodName)) (z := (⟨"java/util/ArrayList", "toArray", "()[Ljava/lang/Object;"⟩ : MethodName)) (hw _ (List.mem_of_getElem? (i := 122) rfl)) (hw _ (List.mem_of_getElem? (i := 123) rfl)) (hw _ (List.mem_of_getElem? (i := 124) rfl)) (hw _ (List.mem_of_getElem? (i := 125) rfl)) (hw _ (List.mem_of_getElem? (i := 126) rfl)) (hw _ (List.mem_of_getElem? (i := 127) rfl)) (hw _ (List.mem_of_getElem? (i := 128) rfl)) (hw _ (List.mem_of_getElem? (i := 120) rfl)) (hw _ (List.mem_of_getElem? (i := 27) rfl)) (hw _ (List.mem_of_getElem? (i := 129) rfl)) (a := a1) f0 (by decide) (W := 0) (by decide) (by decide) N3 e3 (by rw [hml]; rfl) (argsL := []) (rest := []) (lenOf pd_3 rfl) (Nat.le_of_eq rfl) (by decide) (by decide) (rm17J l Z a0 hw [] a1 b k x0 w_EMPTY_ELEMENTDATA w_DEFAULTCAPACITY_EMPTY_ELEMENTDATA w_EMPTY w_EMPTY_LIST k_w_EMPTY_ELEMENTDATA k_w_DEFAULTCAPACITY_EMPTY_ELEMENTDATA w_mir w_els k_els h0 n0 O0 ⟨z0, z1, z2, z3, z4, z5, z6, z7, z8, z9, z10, z11, zm, z13, z14, trivial⟩ f0 f1 f2 f3 f4 f5) rfl (hb hby d15_45) ?_
  intro v4 T4 lc4 X4 N4 hQ4
  obtain ⟨b2_4, k2_4, rfl, K4, r4_0, r4_1, r4_2⟩ := hQ4
  have E5_x0 := f5.keep K4
  have O5 := O0.keep K4 all0
  have KC5 := KC0.trans K4 all0
  have ge_b2_4 : n0 ≤ b2_4 := Nat.le_trans (own_sz O0) r4_2
  have sz_b2_4 : h0.size ≤ b2_4 := Nat.le_trans KC0.1 r4_2
  refine own_callS X4 hx hZ hown (y := (⟨"java/util/List", "of", "([Ljava/lang/Object;)Ljava/util/List;"⟩ : MethodName)) (hw _ (List.mem_of_getElem? (i := 152) rfl)) (hw _ (List.mem_of_getElem? (i := 153) rfl)) (hw _ (List.mem_of_getElem? (i := 101) rfl)) (hw _ (List.mem_of_getElem? (i := 154) rfl)) (by decide) (W := 0) (by decide) (by decide) N4 rfl (by rw [hml]; rfl) (argsL := [(.ref b2_4)]) (rest := []) (lenOf pd_10 rfl) (Nat.le_of_eq rfl) (by decide) (by decide) (rm21J l Z a0 hw [] b2_4 k2_4 x0 w_EMPTY_ELEMENTDATA w_DEFAULTCAPACITY_EMPTY_ELEMENTDATA w_EMPTY w_EMPTY_LIST k_w_EMPTY_ELEMENTDATA k_w_DEFAULTCAPACITY_EMPTY_ELEMENTDATA w_mir w_els k_els T4.heap n0 O5 ⟨z0, z1, z2, z3, z4, z5, z6, z7, z8, z9, z10, z11, zm, z13, z14, trivial⟩ r4_0 E5_x0) rfl (hb hby d15_50) ?_
  intro v6 T6 lc6 X6 N6 hQ6
  obtain ⟨t_6, rfl, K6, r6_0, r6_1, r6_2, r6_3⟩ := hQ6
  have O7 := O5.keep K6 all0
  have KC7 := KC5.trans K6 all0
  have ge_t_6 : n0 ≤ t_6 := Nat.le_trans (own_sz O5) r6_3
  have sz_t_6 : h0.size ≤ t_6 := Nat.le_trans KC5.1 r6_3
  show Goes _ _ _ _ _ _ (T6.setTop (mkF m 53 #[.val (.ref a1), .unset] [(.ref t_6)]))
  exact own_retR X6 hx N6 hlk (by decide) (by decide) hret rfl rfl rfl (hb hby d15_53) (⟨t_6, rfl, KC7, r6_0, r6_1, r6_2, sz_t_6⟩)
def Q14J (Z : State) (a1 : Addr) (b : Addr) (k : ClassId) (x0 : Addr) (w_EMPTY_ELEMENTDATA : Addr) (w_DEFAULTCAPACITY_EMPTY_ELEMENTDATA : Addr) (w_EMPTY : Addr) (w_EMPTY_LIST : Addr) (k_w_EMPTY_ELEMENTDATA : ClassId) (k_w_DEFAULTCAPACITY_EMPTY_ELEMENTDATA : ClassId) (w_mir : Addr) (w_els : Addr) (k_els : ClassId) (h0 : Heap) (n0 : Nat) (v : Option Value) (h : Heap) : Prop :=
  (∃ (t : Addr), v = some (.ref t) ∧ Keep h0 h [] ∧ Exa Z h t "java/util/ImmutableCollections$List12" ∧ Fld Z h t "java/util/ImmutableCollections$List12" "e0" "Ljava/lang/Object;" (.ref x0) ∧ Fld Z h t "java/util/ImmutableCollections$List12" "e1" "Ljava/lang/Object;" (.ref w_EMPTY) ∧ h0.size ≤ t)
theorem ef_14J (m : MethodId) (a1 : Addr) : entryFrame m #[(.ref a1)] 1 = mkF m 0 #[.val (.ref a1)] [] := by first | (simp [entryFrame, mkF, argsToLocals, Value.category]; done) | rfl
set_option maxRecDepth 65536 in
set_option maxHeartbeats 40000000 in
theorem rm14J (l : Launch) (Z : State) (a0 : Array Value) (hw : ∀ d ∈ tables_1, d.before a0 Z = true) (ws : List Jvm.Cond) (a1 : Addr) (b : Addr) (k : ClassId) (x0 : Addr) (w_EMPTY_ELEMENTDATA : Addr) (w_DEFAULTCAPACITY_EMPTY_ELEMENTDATA : Addr) (w_EMPTY : Addr) (w_EMPTY_LIST : Addr) (k_w_EMPTY_ELEMENTDATA : ClassId) (k_w_DEFAULTCAPACITY_EMPTY_ELEMENTDATA : ClassId) (w_mir : Addr) (w_els : Addr) (k_els : ClassId) (h0 : Heap) (n0 : Nat) (O0 : Old Z n0 h0) (SF : Start Z w_EMPTY_ELEMENTDATA w_DEFAULTCAPACITY_EMPTY_ELEMENTDATA w_EMPTY w_EMPTY_LIST k_w_EMPTY_ELEMENTDATA k_w_DEFAULTCAPACITY_EMPTY_ELEMENTDATA w_mir w_els k_els) (f0 : Exa Z h0 a1 "java/util/ArrayList") (f1 : Fld Z h0 a1 "java/util/ArrayList" "elementData" "[Ljava/lang/Object;" (.ref b)) (f2 : Fld Z h0 a1 "java/util/ArrayList" "size" "I" (.int ((0 : Int32) + (1 : Int32)))) (f3 : Arv Z h0 b k (.object "java/lang/Object") (10 : Int32) [(.ref x0), .null, .null, .null, .null, .null, .null, .null, .null, .null] .null) (f4 : Exa Z h0 b "[Ljava/lang/Object;") (f5 : Exa Z h0 x0 "com/example/gantry/gantry/resolver/Resolution$Jar") :
    Meets l (⟨"java/util/List", "copyOf", "(Ljava/util/Collection;)Ljava/util/List;"⟩ : MethodName) jdk_40_method_48_code 1 (some (.object "java/util/List")) ws ({ frames := 7, cells := 2, slots := 3, locals := 88 } : Room) ({ frames := 7, cells := 2, slots := 3, locals := 88 } : Room).cells ({ frames := 7, cells := 2, slots := 3, locals := 88 } : Room).slots Z #[(.ref a1)] h0 n0 (Q14J Z a1 b k x0 w_EMPTY_ELEMENTDATA w_DEFAULTCAPACITY_EMPTY_ELEMENTDATA w_EMPTY w_EMPTY_LIST k_w_EMPTY_ELEMENTDATA k_w_DEFAULTCAPACITY_EMPTY_ELEMENTDATA w_mir w_els k_els h0 n0) := by
  refine Meets.of (F := fun m => mkF m 0 #[.val (.ref a1)] []) (plainFor_of_name pn_11) (fun m => ef_14J m a1) ?_
  intro p e s m below meth c T0 hx hby hml hown0 hnm hret hlk hZ X0 e0
  have hown : s.vm.findClass "java/util/List" = some m.cls := hown0
  have N0 := Fr.nil n0
  have KC0 := Keep.refl h0 []
  obtain ⟨z0, z1, z2, z3, z4, z5, z6, z7, z8, z9, z10, z11, zm, z13, z14, -⟩ := SF
  show Goes _ _ _ _ _ _ (T0.setTop (mkF m 0 #[.val (.ref a1)] []))
  refine own_aloadN X0 hx (hb hby d14_0) rfl rfl ?_
  refine own_callS X0 hx hZ hown (y := (⟨"java/util/ImmutableCollections", "listCopy", "(Ljava/util/Collection;)Ljava/util/List;"⟩ : MethodName)) (hw _ (List.mem_of_getElem? (i := 103) rfl)) (hw _ (List.mem_of_getElem? (i := 104) rfl)) (hw _ (List.mem_of_getElem? (i := 105) rfl)) (hw _ (List.mem_of_getElem? (i := 106) rfl)) (by decide) (W := 0) (by decide) (by decide) N0 e0 (by rw [hml]; rfl) (argsL := [(.ref a1)]) (rest := []) (lenOf pd_11 rfl) (Nat.le_of_eq rfl) (by decide) (by decide) (rm15J l Z a0 hw [] a1 b k x0 w_EMPTY_ELEMENTDATA w_DEFAULTCAPACITY_EMPTY_ELEMENTDATA w_EMPTY w_EMPTY_LIST k_w_EMPTY_ELEMENTDATA k_w_DEFAULTCAPACITY_EMPTY_ELEMENTDATA w_mir w_els k_els h0 n0 O0 ⟨z0, z1, z2, z3, z4, z5, z6, z7, z8, z9, z10, z11, zm, z13, z14, trivial⟩ f0 f1 f2 f3 f4 f5) rfl (hb hby d14_1) ?_
  intro v1 T1 lc1 X1 N1 hQ1
  obtain ⟨t_1, rfl, K1, r1_0, r1_1, r1_2, r1_3⟩ := hQ1
  have O2 := O0.keep K1 all0
  have KC2 := KC0.trans K1 all0
  have ge_t_1 : n0 ≤ t_1 := Nat.le_trans (own_sz O0) r1_3
  have sz_t_1 : h0.size ≤ t_1 := Nat.le_trans KC0.1 r1_3
  show Goes _ _ _ _ _ _ (T1.setTop (mkF m 4 #[.val (.ref a1)] [(.ref t_1)]))
  exact own_retR X1 hx N1 hlk (by decide) (by decide) hret rfl rfl rfl (hb hby d14_4) (⟨t_1, rfl, KC2, r1_0, r1_1, r1_2, sz_t_1⟩)
theorem d26_0 : decode jdk_40_method_36_code 0 = .ok (.getstatic 90, 3) := by decide +kernel
theorem d26_3 : decode jdk_40_method_36_code 3 = .ok (.areturn, 1) := by decide +kernel
def Q26 (Z : State) (w_EMPTY_ELEMENTDATA : Addr) (w_DEFAULTCAPACITY_EMPTY_ELEMENTDATA : Addr) (w_EMPTY : Addr) (w_EMPTY_LIST : Addr) (k_w_EMPTY_ELEMENTDATA : ClassId) (k_w_DEFAULTCAPACITY_EMPTY_ELEMENTDATA : ClassId) (w_mir : Addr) (w_els : Addr) (k_els : ClassId) (h0 : Heap) (n0 : Nat) (v : Option Value) (h : Heap) : Prop :=
  (v = some (.ref w_EMPTY_LIST) ∧ h = h0)
theorem ef_26 (m : MethodId) : entryFrame m #[] 0 = mkF m 0 #[] [] := by first | (simp [entryFrame, mkF, argsToLocals, Value.category]; done) | rfl
set_option maxRecDepth 65536 in
set_option maxHeartbeats 40000000 in
theorem rm26 (l : Launch) (Z : State) (a0 : Array Value) (hw : ∀ d ∈ tables_1, d.before a0 Z = true) (ws : List Jvm.Cond) (w_EMPTY_ELEMENTDATA : Addr) (w_DEFAULTCAPACITY_EMPTY_ELEMENTDATA : Addr) (w_EMPTY : Addr) (w_EMPTY_LIST : Addr) (k_w_EMPTY_ELEMENTDATA : ClassId) (k_w_DEFAULTCAPACITY_EMPTY_ELEMENTDATA : ClassId) (w_mir : Addr) (w_els : Addr) (k_els : ClassId) (h0 : Heap) (n0 : Nat) (O0 : Old Z n0 h0) (SF : Start Z w_EMPTY_ELEMENTDATA w_DEFAULTCAPACITY_EMPTY_ELEMENTDATA w_EMPTY w_EMPTY_LIST k_w_EMPTY_ELEMENTDATA k_w_DEFAULTCAPACITY_EMPTY_ELEMENTDATA w_mir w_els k_els) :
    Meets l (⟨"java/util/List", "of", "()Ljava/util/List;"⟩ : MethodName) jdk_40_method_36_code 0 (some (.object "java/util/List")) ws ({ frames := 0, cells := 0, slots := 0, locals := 0 } : Room) ({ frames := 0, cells := 0, slots := 0, locals := 0 } : Room).cells ({ frames := 0, cells := 0, slots := 0, locals := 0 } : Room).slots Z #[] h0 n0 (Q26 Z w_EMPTY_ELEMENTDATA w_DEFAULTCAPACITY_EMPTY_ELEMENTDATA w_EMPTY w_EMPTY_LIST k_w_EMPTY_ELEMENTDATA k_w_DEFAULTCAPACITY_EMPTY_ELEMENTDATA w_mir w_els k_els h0 n0) := by
  refine Meets.of (F := fun m => mkF m 0 #[] []) (plainFor_of_name pn_11) (fun m => ef_26 m) ?_
  intro p e s m below meth c T0 hx hby hml hown0 hnm hret hlk hZ X0 e0
  have hown : s.vm.findClass "java/util/List" = some m.cls := hown0
  have N0 := Fr.nil n0
  obtain ⟨z0, z1, z2, z3, z4, z5, z6, z7, z8, z9, z10, z11, zm, z13, z14, -⟩ := SF
  show Goes _ _ _ _ _ _ (T0.setTop (mkF m 0 #[] []))
  refine own_getS X0 hx hZ hown (host := "") (Or.inl (hw _ (List.mem_of_getElem? (i := 188) rfl))) Via.refl e0 (z6.ext O0.2) (hb hby d26_0) (fun T1 X1 e1 => ?_)
  show Goes _ _ _ _ _ _ (T1.setTop (mkF m 3 #[] [(.ref w_EMPTY_LIST)]))
  exact own_retR X1 hx N0 hlk (by decide) (by decide) hret rfl rfl rfl (hb hby d26_3) (by rw [e1]; exact ⟨rfl, rfl⟩)
theorem d15_40 : decode jdk_56_method_3_code 40 = .ok (.invokestatic 26, 3) := by decide +kernel
theorem pd_14 : parseMethodDescriptor "()Ljava/util/List;" = some ⟨[], some (.object "java/util/List")⟩ := by decide +kernel
theorem d15_43 : decode jdk_56_method_3_code 43 = .ok (.areturn, 1) := by decide +kernel
def Q15e (Z : State) (a1 : Addr) (w_EMPTY_ELEMENTDATA : Addr) (w_DEFAULTCAPACITY_EMPTY_ELEMENTDATA : Addr) (w_EMPTY : Addr) (w_EMPTY_LIST : Addr) (k_w_EMPTY_ELEMENTDATA : ClassId) (k_w_DEFAULTCAPACITY_EMPTY_ELEMENTDATA : ClassId) (w_mir : Addr) (w_els : Addr) (k_els : ClassId) (h0 : Heap) (n0 : Nat) (v : Option Value) (h : Heap) : Prop :=
  (v = some (.ref w_EMPTY_LIST) ∧ h = h0)
theorem ef_15e (m : MethodId) (a1 : Addr) : entryFrame m #[(.ref a1)] 2 = mkF m 0 #[.val (.ref a1), .unset] [] := by first | (simp [entryFrame, mkF, argsToLocals, Value.category]; done) | rfl
set_option maxRecDepth 65536 in
set_option maxHeartbeats 40000000 in
theorem rm15e (l : Launch) (Z : State) (a0 : Array Value) (hw : ∀ d ∈ tables_1, d.before a0 Z = true) (ws : List Jvm.Cond) (a1 : Addr) (w_EMPTY_ELEMENTDATA : Addr) (w_DEFAULTCAPACITY_EMPTY_ELEMENTDATA : Addr) (w_EMPTY : Addr) (w_EMPTY_LIST : Addr) (k_w_EMPTY_ELEMENTDATA : ClassId) (k_w_DEFAULTCAPACITY_EMPTY_ELEMENTDATA : ClassId) (w_mir : Addr) (w_els : Addr) (k_els : ClassId) (h0 : Heap) (n0 : Nat) (O0 : Old Z n0 h0) (SF : Start Z w_EMPTY_ELEMENTDATA w_DEFAULTCAPACITY_EMPTY_ELEMENTDATA w_EMPTY w_EMPTY_LIST k_w_EMPTY_ELEMENTDATA k_w_DEFAULTCAPACITY_EMPTY_ELEMENTDATA w_mir w_els k_els) (f0 : Exa Z h0 a1 "java/util/ArrayList") (f1 : Fld Z h0 a1 "java/util/ArrayList" "size" "I" (.int (0 : Int32))) :
    Meets l (⟨"java/util/ImmutableCollections", "listCopy", "(Ljava/util/Collection;)Ljava/util/List;"⟩ : MethodName) jdk_56_method_3_code 2 (some (.object "java/util/List")) ws ({ frames := 1, cells := 0, slots := 0, locals := 12 } : Room) ({ frames := 1, cells := 0, slots := 0, locals := 12 } : Room).cells ({ frames := 1, cells := 0, slots := 0, locals := 12 } : Room).slots Z #[(.ref a1)] h0 n0 (Q15e Z a1 w_EMPTY_ELEMENTDATA w_DEFAULTCAPACITY_EMPTY_ELEMENTDATA w_EMPTY w_EMPTY_LIST k_w_EMPTY_ELEMENTDATA k_w_DEFAULTCAPACITY_EMPTY_ELEMENTDATA w_mir w_els k_els h0 n0) := by
  refine Meets.of (F := fun m => mkF m 0 #[.val (.ref a1), .unset] []) (plainFor_of_name pn_12) (fun m => ef_15e m a1) ?_
  intro p e s m below meth c T0 hx hby hml hown0 hnm hret hlk hZ X0 e0
  have hown : s.vm.findClass "java/util/ImmutableCollections" = some m.cls := hown0
  have N0 := Fr.nil n0
  obtain ⟨z0, z1, z2, z3, z4, z5, z6, z7, z8, z9, z10, z11, zm, z13, z14, -⟩ := SF
  show Goes _ _ _ _ _ _ (T0.setTop (mkF m 0 #[.val (.ref a1), .unset] []))
  refine own_aloadN X0 hx (hb hby d15_0) rfl rfl ?_
  refine own_instN X0 hx hZ hown (hw _ (List.mem_of_getElem? (i := 107) rfl)) e0 f0 (own_NSno (hw _ (List.mem_of_getElem? (i := 108) rfl)) (hw _ (List.mem_of_getElem? (i := 156) rfl)) (NS.step (hw _ (List.mem_of_getElem? (i := 108) rfl)) (NS.step (hw _ (List.mem_of_getElem? (i := 109) rfl)) (NS.step (hw _ (List.mem_of_getElem? (i := 110) rfl)) (own_NSroot (hw _ (List.mem_of_getElem? (i := 111) rfl)) (hw _ (List.mem_of_getElem? (i := 156) rfl)) (by decide)) (by decide)) (by decide)) (by decide)) (by decide)) (hb hby d15_1) (fun T1 X1 e1 => ?_)
  refine own_ifNo X1 hx (hb hby d15_4) ((if0 _ _).trans (teq (by decide : (0 : Int32) = (0 : Int32))).2) ?_
  refine own_aloadN X1 hx (hb hby d15_7) rfl rfl ?_
  refine own_instN X1 hx hZ hown (hw _ (List.mem_of_getElem? (i := 112) rfl)) e1 f0 (own_NSno (hw _ (List.mem_of_getElem? (i := 108) rfl)) (hw _ (List.mem_of_getElem? (i := 260) rfl)) (NS.step (hw _ (List.mem_of_getElem? (i := 108) rfl)) (NS.step (hw _ (List.mem_of_getElem? (i := 109) rfl)) (NS.step (hw _ (List.mem_of_getElem? (i := 110) rfl)) (own_NSroot (hw _ (List.mem_of_getElem? (i := 111) rfl)) (hw _ (List.mem_of_getElem? (i := 260) rfl)) (by decide)) (by decide)) (by decide)) (by decide)) (by decide)) (hb hby d15_8) (fun T2 X2 e2 => ?_)
  refine own_ifYes X2 hx (pc' := 31) (hb hby d15_11) ((if0 _ _).trans (teq (by decide : (0 : Int32) = (0 : Int32))).1) (by decide) (by decide) ?_
  refine own_aloadN X2 hx (hb hby d15_31) rfl rfl ?_
  refine own_iface X2 hx hZ hown (y := (⟨"java/util/Collection", "isEmpty", "()Z"⟩ : MethodName)) (z := (⟨"java/util/ArrayList", "isEmpty", "()Z"⟩ : MethodName)) (hw _ (List.mem_of_getElem? (i := 113) rfl)) (hw _ (List.mem_of_getElem? (i := 114) rfl)) (hw _ (List.mem_of_getElem? (i := 115) rfl)) (hw _ (List.mem_of_getElem? (i := 116) rfl)) (hw _ (List.mem_of_getElem? (i := 117) rfl)) (hw _ (List.mem_of_getElem? (i := 118) rfl)) (hw _ (List.mem_of_getElem? (i := 119) rfl)) (hw _ (List.mem_of_getElem? (i := 120) rfl)) (hw _ (List.mem_of_getElem? (i := 27) rfl)) (hw _ (List.mem_of_getElem? (i := 121) rfl)) (a := a1) f0 (by decide) (W := 0) (by decide) (by decide) N0 e2 (by rw [hml]; rfl) (argsL := []) (rest := []) (lenOf pd_9 rfl) (Nat.le_of_eq rfl) (by decide) (by decide) (rm16 l Z a0 hw [] a1 (0 : Int32) h0 n0 O0 f1) rfl (hb hby d15_32) ?_
  intro v3 T3 lc3 X3 N3 hQ3
  obtain ⟨rfl, e3⟩ := hQ3
  refine own_ifNo X3 hx (hb hby d15_37) ((if0 _ _).trans (feq ((own_bnz (not_not_intro (by decide))) : ¬ ((if (0 : Int32) = (0 : Int32) then (1 : Int32) else (0 : Int32)) = (0 : Int32)))).1) ?_
  refine own_callS X3 hx hZ hown (y := (⟨"java/util/List", "of", "()Ljava/util/List;"⟩ : MethodName)) (hw _ (List.mem_of_getElem? (i := 185) rfl)) (hw _ (List.mem_of_getElem? (i := 186) rfl)) (hw _ (List.mem_of_getElem? (i := 101) rfl)) (hw _ (List.mem_of_getElem? (i := 187) rfl)) (by decide) (W := 0) (by decide) (by decide) N3 e3 (by rw [hml]; rfl) (argsL := []) (rest := []) (lenOf pd_14 rfl) (Nat.le_of_eq rfl) (by decide) (by decide) (rm26 l Z a0 hw [] w_EMPTY_ELEMENTDATA w_DEFAULTCAPACITY_EMPTY_ELEMENTDATA w_EMPTY w_EMPTY_LIST k_w_EMPTY_ELEMENTDATA k_w_DEFAULTCAPACITY_EMPTY_ELEMENTDATA w_mir w_els k_els h0 n0 O0 ⟨z0, z1, z2, z3, z4, z5, z6, z7, z8, z9, z10, z11, zm, z13, z14, trivial⟩) rfl (hb hby d15_40) ?_
  intro v4 T4 lc4 X4 N4 hQ4
  obtain ⟨rfl, e4⟩ := hQ4
  show Goes _ _ _ _ _ _ (T4.setTop (mkF m 43 #[.val (.ref a1), .unset] [(.ref w_EMPTY_LIST)]))
  exact own_retR X4 hx N4 hlk (by decide) (by decide) hret rfl rfl rfl (hb hby d15_43) (by rw [e4]; exact ⟨rfl, rfl⟩)
def Q14e (Z : State) (a1 : Addr) (w_EMPTY_ELEMENTDATA : Addr) (w_DEFAULTCAPACITY_EMPTY_ELEMENTDATA : Addr) (w_EMPTY : Addr) (w_EMPTY_LIST : Addr) (k_w_EMPTY_ELEMENTDATA : ClassId) (k_w_DEFAULTCAPACITY_EMPTY_ELEMENTDATA : ClassId) (w_mir : Addr) (w_els : Addr) (k_els : ClassId) (h0 : Heap) (n0 : Nat) (v : Option Value) (h : Heap) : Prop :=
  (v = some (.ref w_EMPTY_LIST) ∧ h = h0)
theorem ef_14e (m : MethodId) (a1 : Addr) : entryFrame m #[(.ref a1)] 1 = mkF m 0 #[.val (.ref a1)] [] := by first | (simp [entryFrame, mkF, argsToLocals, Value.category]; done) | rfl
set_option maxRecDepth 65536 in
set_option maxHeartbeats 40000000 in
theorem rm14e (l : Launch) (Z : State) (a0 : Array Value) (hw : ∀ d ∈ tables_1, d.before a0 Z = true) (ws : List Jvm.Cond) (a1 : Addr) (w_EMPTY_ELEMENTDATA : Addr) (w_DEFAULTCAPACITY_EMPTY_ELEMENTDATA : Addr) (w_EMPTY : Addr) (w_EMPTY_LIST : Addr) (k_w_EMPTY_ELEMENTDATA : ClassId) (k_w_DEFAULTCAPACITY_EMPTY_ELEMENTDATA : ClassId) (w_mir : Addr) (w_els : Addr) (k_els : ClassId) (h0 : Heap) (n0 : Nat) (O0 : Old Z n0 h0) (SF : Start Z w_EMPTY_ELEMENTDATA w_DEFAULTCAPACITY_EMPTY_ELEMENTDATA w_EMPTY w_EMPTY_LIST k_w_EMPTY_ELEMENTDATA k_w_DEFAULTCAPACITY_EMPTY_ELEMENTDATA w_mir w_els k_els) (f0 : Exa Z h0 a1 "java/util/ArrayList") (f1 : Fld Z h0 a1 "java/util/ArrayList" "size" "I" (.int (0 : Int32))) :
    Meets l (⟨"java/util/List", "copyOf", "(Ljava/util/Collection;)Ljava/util/List;"⟩ : MethodName) jdk_40_method_48_code 1 (some (.object "java/util/List")) ws ({ frames := 2, cells := 0, slots := 0, locals := 25 } : Room) ({ frames := 2, cells := 0, slots := 0, locals := 25 } : Room).cells ({ frames := 2, cells := 0, slots := 0, locals := 25 } : Room).slots Z #[(.ref a1)] h0 n0 (Q14e Z a1 w_EMPTY_ELEMENTDATA w_DEFAULTCAPACITY_EMPTY_ELEMENTDATA w_EMPTY w_EMPTY_LIST k_w_EMPTY_ELEMENTDATA k_w_DEFAULTCAPACITY_EMPTY_ELEMENTDATA w_mir w_els k_els h0 n0) := by
  refine Meets.of (F := fun m => mkF m 0 #[.val (.ref a1)] []) (plainFor_of_name pn_11) (fun m => ef_14e m a1) ?_
  intro p e s m below meth c T0 hx hby hml hown0 hnm hret hlk hZ X0 e0
  have hown : s.vm.findClass "java/util/List" = some m.cls := hown0
  have N0 := Fr.nil n0
  obtain ⟨z0, z1, z2, z3, z4, z5, z6, z7, z8, z9, z10, z11, zm, z13, z14, -⟩ := SF
  show Goes _ _ _ _ _ _ (T0.setTop (mkF m 0 #[.val (.ref a1)] []))
  refine own_aloadN X0 hx (hb hby d14_0) rfl rfl ?_
  refine own_callS X0 hx hZ hown (y := (⟨"java/util/ImmutableCollections", "listCopy", "(Ljava/util/Collection;)Ljava/util/List;"⟩ : MethodName)) (hw _ (List.mem_of_getElem? (i := 103) rfl)) (hw _ (List.mem_of_getElem? (i := 104) rfl)) (hw _ (List.mem_of_getElem? (i := 105) rfl)) (hw _ (List.mem_of_getElem? (i := 106) rfl)) (by decide) (W := 0) (by decide) (by decide) N0 e0 (by rw [hml]; rfl) (argsL := [(.ref a1)]) (rest := []) (lenOf pd_11 rfl) (Nat.le_of_eq rfl) (by decide) (by decide) (rm15e l Z a0 hw [] a1 w_EMPTY_ELEMENTDATA w_DEFAULTCAPACITY_EMPTY_ELEMENTDATA w_EMPTY w_EMPTY_LIST k_w_EMPTY_ELEMENTDATA k_w_DEFAULTCAPACITY_EMPTY_ELEMENTDATA w_mir w_els k_els h0 n0 O0 ⟨z0, z1, z2, z3, z4, z5, z6, z7, z8, z9, z10, z11, zm, z13, z14, trivial⟩ f0 f1) rfl (hb hby d14_1) ?_
  intro v1 T1 lc1 X1 N1 hQ1
  obtain ⟨rfl, e1⟩ := hQ1
  show Goes _ _ _ _ _ _ (T1.setTop (mkF m 4 #[.val (.ref a1)] [(.ref w_EMPTY_LIST)]))
  exact own_retR X1 hx N1 hlk (by decide) (by decide) hret rfl rfl rfl (hb hby d14_4) (by rw [e1]; exact ⟨rfl, rfl⟩)
theorem d27_0 : decode jdk_44_method_4_code 0 = .ok (.iconst 0, 1) := by decide +kernel
theorem d27_1 : decode jdk_44_method_4_code 1 = .ok (.ireturn, 1) := by decide +kernel
def Q27 (Z : State) (a1 : Addr) (h0 : Heap) (n0 : Nat) (v : Option Value) (h : Heap) : Prop :=
  (v = some (.int (0 : Int32)) ∧ h = h0)
theorem ef_27 (m : MethodId) (a1 : Addr) : entryFrame m #[(.ref a1)] 1 = mkF m 0 #[.val (.ref a1)] [] := by first | (simp [entryFrame, mkF, argsToLocals, Value.category]; done) | rfl
set_option maxRecDepth 65536 in
set_option maxHeartbeats 40000000 in
theorem rm27 (l : Launch) (Z : State) (a0 : Array Value) (hw : ∀ d ∈ tables_1, d.before a0 Z = true) (ws : List Jvm.Cond) (a1 : Addr) (h0 : Heap) (n0 : Nat) (O0 : Old Z n0 h0) :
    Meets l (⟨"java/util/ImmutableCollections$List12", "isEmpty", "()Z"⟩ : MethodName) jdk_44_method_4_code 1 (some .boolean) ws ({ frames := 0, cells := 0, slots := 0, locals := 0 } : Room) ({ frames := 0, cells := 0, slots := 0, locals := 0 } : Room).cells ({ frames := 0, cells := 0, slots := 0, locals := 0 } : Room).slots Z #[(.ref a1)] h0 n0 (Q27 Z a1 h0 n0) := by
  refine Meets.of (F := fun m => mkF m 0 #[.val (.ref a1)] []) (plainFor_of_name pn_10) (fun m => ef_27 m a1) ?_
  intro p e s m below meth c T0 hx hby hml hown0 hnm hret hlk hZ X0 e0
  have hown : s.vm.findClass "java/util/ImmutableCollections$List12" = some m.cls := hown0
  have N0 := Fr.nil n0
  show Goes _ _ _ _ _ _ (T0.setTop (mkF m 0 #[.val (.ref a1)] []))
  refine own_iconst X0 hx (v := (0 : Int32)) (hb hby d27_0) rfl ?_
  show Goes _ _ _ _ _ _ (T0.setTop (mkF m 1 #[.val (.ref a1)] [(.int (0 : Int32))]))
  exact own_retN X0 hx (t := .boolean) N0 hlk (by decide) (by decide) hret (by simp) (hb hby d27_1) (by rw [e0]; exact ⟨rfl, rfl⟩)
theorem d37_0 : decode jdk_45_method_2_code 0 = .ok (.aload_n 0, 1) := by decide +kernel
theorem d37_1 : decode jdk_45_method_2_code 1 = .ok (.getfield 7, 3) := by decide +kernel
theorem d37_4 : decode jdk_45_method_2_code 4 = .ok (.arraylength, 1) := by decide +kernel
theorem d37_5 : decode jdk_45_method_2_code 5 = .ok (.ifCond .ne 7, 3) := by decide +kernel
theorem d37_8 : decode jdk_45_method_2_code 8 = .ok (.iconst 1, 1) := by decide +kernel
theorem d37_9 : decode jdk_45_method_2_code 9 = .ok (.goto 4, 3) := by decide +kernel
theorem d37_13 : decode jdk_45_method_2_code 13 = .ok (.ireturn, 1) := by decide +kernel
theorem d37_12 : decode jdk_45_method_2_code 12 = .ok (.iconst 0, 1) := by decide +kernel
def Q37 (Z : State) (a1 : Addr) (q : Addr) (kq : ClassId) (z : Int32) (vs : List Value) (h0 : Heap) (n0 : Nat) (v : Option Value) (h : Heap) : Prop :=
  (v = some (.int (if z = (0 : Int32) then (1 : Int32) else (0 : Int32))) ∧ h = h0)
theorem ef_37 (m : MethodId) (a1 : Addr) : entryFrame m #[(.ref a1)] 1 = mkF m 0 #[.val (.ref a1)] [] := by first | (simp [entryFrame, mkF, argsToLocals, Value.category]; done) | rfl
set_option maxRecDepth 65536 in
set_option maxHeartbeats 40000000 in
theorem rm37 (l : Launch) (Z : State) (a0 : Array Value) (hw : ∀ d ∈ tables_1, d.before a0 Z = true) (ws : List Jvm.Cond) (a1 : Addr) (q : Addr) (kq : ClassId) (z : Int32) (vs : List Value) (h0 : Heap) (n0 : Nat) (O0 : Old Z n0 h0) (f0 : Fld Z h0 a1 "java/util/ImmutableCollections$ListN" "elements" "[Ljava/lang/Object;" (.ref q)) (f1 : Arv Z h0 q kq (.object "java/lang/Object") z vs .null) :
    Meets l (⟨"java/util/ImmutableCollections$ListN", "isEmpty", "()Z"⟩ : MethodName) jdk_45_method_2_code 1 (some .boolean) ws ({ frames := 0, cells := 0, slots := 0, locals := 0 } : Room) ({ frames := 0, cells := 0, slots := 0, locals := 0 } : Room).cells ({ frames := 0, cells := 0, slots := 0, locals := 0 } : Room).slots Z #[(.ref a1)] h0 n0 (Q37 Z a1 q kq z vs h0 n0) := by
  refine Meets.of (F := fun m => mkF m 0 #[.val (.ref a1)] []) (plainFor_of_name pn_13) (fun m => ef_37 m a1) ?_
  intro p e s m below meth c T0 hx hby hml hown0 hnm hret hlk hZ X0 e0
  have hown : s.vm.findClass "java/util/ImmutableCollections$ListN" = some m.cls := hown0
  have N0 := Fr.nil n0
  show Goes _ _ _ _ _ _ (T0.setTop (mkF m 0 #[.val (.ref a1)] []))
  refine own_aloadN X0 hx (hb hby d37_0) rfl rfl ?_
  refine own_getF X0 hx hZ hown (host := "") (Or.inl (hw _ (List.mem_of_getElem? (i := 270) rfl))) Via.refl e0 f0 (hb hby d37_1) (fun T1 X1 e1 => ?_)
  refine own_alen X1 hx hZ e1 f1 (hb hby d37_4) ?_
  by_cases hc5_2 : z = (0 : Int32)
  ·
    refine own_ifNo X1 hx (hb hby d37_5) ((if0 _ _).trans (teq (hc5_2 : z = (0 : Int32))).2) ?_
    refine own_iconst X1 hx (v := (1 : Int32)) (hb hby d37_8) rfl ?_
    refine own_goto X1 hx (pc' := 13) (hb hby d37_9) (by decide) (by decide) ?_
    show Goes _ _ _ _ _ _ (T1.setTop (mkF m 13 #[.val (.ref a1)] [(.int (1 : Int32))]))
    exact own_retN X1 hx (t := .boolean) N0 hlk (by decide) (by decide) hret (by simp) (hb hby d37_13) (by rw [e1]; exact ⟨(by first | rfl | (rw [if_pos (by assumption)]; rfl) | (rw [if_neg (by assumption)]; rfl) | simp_all), rfl⟩)
  ·
    refine own_ifYes X1 hx (pc' := 12) (hb hby d37_5) ((if0 _ _).trans (feq (hc5_2 : ¬ (z = (0 : Int32)))).2) (by decide) (by decide) ?_
    refine own_iconst X1 hx (v := (0 : Int32)) (hb hby d37_12) rfl ?_
    show Goes _ _ _ _ _ _ (T1.setTop (mkF m 13 #[.val (.ref a1)] [(.int (0 : Int32))]))
    exact own_retN X1 hx (t := .boolean) N0 hlk (by decide) (by decide) hret (by simp) (hb hby d37_13) (by rw [e1]; exact ⟨(by first | rfl | (rw [if_pos (by assumption)]; rfl) | (rw [if_neg (by assumption)]; rfl) | simp_all), rfl⟩)
theorem d13_0 : decode prog_66_method_1_code 0 = .ok (.aload_n 0, 1) := by decide +kernel
theorem d13_1 : decode prog_66_method_1_code 1 = .ok (.invokespecial 1, 3) := by decide +kernel
theorem d13_4 : decode prog_66_method_1_code 4 = .ok (.aload_n 1, 1) := by decide +kernel
theorem d13_5 : decode prog_66_method_1_code 5 = .ok (.invokestatic 7, 3) := by decide +kernel
theorem d13_8 : decode prog_66_method_1_code 8 = .ok (.astore_n 1, 1) := by decide +kernel
theorem d13_9 : decode prog_66_method_1_code 9 = .ok (.aload_n 3, 1) := by decide +kernel
theorem d13_10 : decode prog_66_method_1_code 10 = .ok (.invokestatic 7, 3) := by decide +kernel
theorem d13_13 : decode prog_66_method_1_code 13 = .ok (.astore_n 3, 1) := by decide +kernel
theorem d13_14 : decode prog_66_method_1_code 14 = .ok (.aload 5, 2) := by decide +kernel
theorem d13_16 : decode prog_66_method_1_code 16 = .ok (.invokestatic 7, 3) := by decide +kernel
theorem d13_19 : decode prog_66_method_1_code 19 = .ok (.astore 5, 2) := by decide +kernel
theorem d13_21 : decode prog_66_method_1_code 21 = .ok (.aload 6, 2) := by decide +kernel
theorem d13_23 : decode prog_66_method_1_code 23 = .ok (.invokestatic 7, 3) := by decide +kernel
theorem d13_26 : decode prog_66_method_1_code 26 = .ok (.astore 6, 2) := by decide +kernel
theorem d13_28 : decode prog_66_method_1_code 28 = .ok (.aload 7, 2) := by decide +kernel
theorem d13_30 : decode prog_66_method_1_code 30 = .ok (.invokestatic 7, 3) := by decide +kernel
theorem d13_33 : decode prog_66_method_1_code 33 = .ok (.astore 7, 2) := by decide +kernel
theorem d13_35 : decode prog_66_method_1_code 35 = .ok (.aload 8, 2) := by decide +kernel
theorem d13_37 : decode prog_66_method_1_code 37 = .ok (.invokestatic 7, 3) := by decide +kernel
theorem d13_40 : decode prog_66_method_1_code 40 = .ok (.astore 8, 2) := by decide +kernel
theorem d13_42 : decode prog_66_method_1_code 42 = .ok (.aload_n 1, 1) := by decide +kernel
theorem d13_43 : decode prog_66_method_1_code 43 = .ok (.invokeinterface 13 1, 5) := by decide +kernel
theorem d13_48 : decode prog_66_method_1_code 48 = .ok (.ifCond .ne 13, 3) := by decide +kernel
theorem d13_51 : decode prog_66_method_1_code 51 = .ok (.aload 6, 2) := by decide +kernel
theorem d13_53 : decode prog_66_method_1_code 53 = .ok (.invokeinterface 13 1, 5) := by decide +kernel
theorem d13_58 : decode prog_66_method_1_code 58 = .ok (.ifCond .eq 13, 3) := by decide +kernel
theorem d13_71 : decode prog_66_method_1_code 71 = .ok (.aload_n 0, 1) := by decide +kernel
theorem d13_72 : decode prog_66_method_1_code 72 = .ok (.aload_n 1, 1) := by decide +kernel
theorem d13_73 : decode prog_66_method_1_code 73 = .ok (.putfield 24, 3) := by decide +kernel
theorem d13_76 : decode prog_66_method_1_code 76 = .ok (.aload_n 0, 1) := by decide +kernel
theorem d13_77 : decode prog_66_method_1_code 77 = .ok (.aload_n 2, 1) := by decide +kernel
theorem d13_78 : decode prog_66_method_1_code 78 = .ok (.putfield 30, 3) := by decide +kernel
theorem d13_81 : decode prog_66_method_1_code 81 = .ok (.aload_n 0, 1) := by decide +kernel
theorem d13_82 : decode prog_66_method_1_code 82 = .ok (.aload_n 3, 1) := by decide +kernel
theorem d13_83 : decode prog_66_method_1_code 83 = .ok (.putfield 34, 3) := by decide +kernel
theorem d13_86 : decode prog_66_method_1_code 86 = .ok (.aload_n 0, 1) := by decide +kernel
theorem d13_87 : decode prog_66_method_1_code 87 = .ok (.iload 4, 2) := by decide +kernel
theorem d13_89 : decode prog_66_method_1_code 89 = .ok (.putfield 37, 3) := by decide +kernel
theorem d13_92 : decode prog_66_method_1_code 92 = .ok (.aload_n 0, 1) := by decide +kernel
theorem d13_93 : decode prog_66_method_1_code 93 = .ok (.aload 5, 2) := by decide +kernel
theorem d13_95 : decode prog_66_method_1_code 95 = .ok (.putfield 41, 3) := by decide +kernel
theorem d13_98 : decode prog_66_method_1_code 98 = .ok (.aload_n 0, 1) := by decide +kernel
theorem d13_99 : decode prog_66_method_1_code 99 = .ok (.aload 6, 2) := by decide +kernel
theorem d13_101 : decode prog_66_method_1_code 101 = .ok (.putfield 44, 3) := by decide +kernel
theorem d13_104 : decode prog_66_method_1_code 104 = .ok (.aload_n 0, 1) := by decide +kernel
theorem d13_105 : decode prog_66_method_1_code 105 = .ok (.aload 7, 2) := by decide +kernel
theorem d13_107 : decode prog_66_method_1_code 107 = .ok (.putfield 47, 3) := by decide +kernel
theorem d13_110 : decode prog_66_method_1_code 110 = .ok (.aload_n 0, 1) := by decide +kernel
theorem d13_111 : decode prog_66_method_1_code 111 = .ok (.aload 8, 2) := by decide +kernel
theorem d13_113 : decode prog_66_method_1_code 113 = .ok (.putfield 50, 3) := by decide +kernel
theorem d13_116 : decode prog_66_method_1_code 116 = .ok (.return_, 1) := by decide +kernel
theorem pn_14 : plainName "com/example/gantry/gantry/resolver/Resolution" = true := by first | (simp [plainName, overriddenIn]; done) | decide +kernel
def Q131 (Z : State) (a1 : Addr) (a2 : Addr) (a4 : Addr) (p5 : Int32) (a6 : Addr) (a7 : Addr) (a8 : Addr) (a9 : Addr) (b : Addr) (k : ClassId) (x0 : Addr) (jb : Addr) (jk : ClassId) (j0 : Addr) (u0 : Value) (u1 : Value) (u2 : Value) (u3 : Value) (u4 : Value) (u5 : Value) (u6 : Value) (u7 : Value) (w_EMPTY_ELEMENTDATA : Addr) (w_DEFAULTCAPACITY_EMPTY_ELEMENTDATA : Addr) (w_EMPTY : Addr) (w_EMPTY_LIST : Addr) (k_w_EMPTY_ELEMENTDATA : ClassId) (k_w_DEFAULTCAPACITY_EMPTY_ELEMENTDATA : ClassId) (w_mir : Addr) (w_els : Addr) (k_els : ClassId) (h0 : Heap) (n0 : Nat) (v : Option Value) (h : Heap) : Prop :=
  (∃ (t : Addr), v = none ∧ Keep h0 h [a1] ∧ Exa Z h a1 "com/example/gantry/gantry/resolver/Resolution" ∧ Fld Z h a1 "com/example/gantry/gantry/resolver/Resolution" "descriptors" "Ljava/util/List;" (.ref t) ∧ Exa Z h t "java/util/ImmutableCollections$List12" ∧ Fld Z h t "java/util/ImmutableCollections$List12" "e0" "Ljava/lang/Object;" (.ref x0) ∧ Fld Z h t "java/util/ImmutableCollections$List12" "e1" "Ljava/lang/Object;" (.ref w_EMPTY) ∧ h0.size ≤ t)
theorem ef_131 (m : MethodId) (a1 : Addr) (a2 : Addr) (a4 : Addr) (p5 : Int32) (a6 : Addr) (a7 : Addr) (a8 : Addr) (a9 : Addr) : entryFrame m #[(.ref a1), (.ref a2), .null, (.ref a4), (.int p5), (.ref a6), (.ref a7), (.ref a8), (.ref a9)] 9 = mkF m 0 #[.val (.ref a1), .val (.ref a2), .val .null, .val (.ref a4), .val (.int p5), .val (.ref a6), .val (.ref a7), .val (.ref a8), .val (.ref a9)] [] := by first | (simp [entryFrame, mkF, argsToLocals, Value.category]; done) | rfl
set_option maxRecDepth 65536 in
set_option maxHeartbeats 40000000 in
theorem rm131 (l : Launch) (Z : State) (a0 : Array Value) (hw : ∀ d ∈ tables_1, d.before a0 Z = true) (ws : List Jvm.Cond) (a1 : Addr) (a2 : Addr) (a4 : Addr) (p5 : Int32) (a6 : Addr) (a7 : Addr) (a8 : Addr) (a9 : Addr) (b : Addr) (k : ClassId) (x0 : Addr) (jb : Addr) (jk : ClassId) (j0 : Addr) (u0 : Value) (u1 : Value) (u2 : Value) (u3 : Value) (u4 : Value) (u5 : Value) (u6 : Value) (u7 : Value) (w_EMPTY_ELEMENTDATA : Addr) (w_DEFAULTCAPACITY_EMPTY_ELEMENTDATA : Addr) (w_EMPTY : Addr) (w_EMPTY_LIST : Addr) (k_w_EMPTY_ELEMENTDATA : ClassId) (k_w_DEFAULTCAPACITY_EMPTY_ELEMENTDATA : ClassId) (w_mir : Addr) (w_els : Addr) (k_els : ClassId) (h0 : Heap) (n0 : Nat) (O0 : Old Z n0 h0) (SF : Start Z w_EMPTY_ELEMENTDATA w_DEFAULTCAPACITY_EMPTY_ELEMENTDATA w_EMPTY w_EMPTY_LIST k_w_EMPTY_ELEMENTDATA k_w_DEFAULTCAPACITY_EMPTY_ELEMENTDATA w_mir w_els k_els) (f0 : Exa Z h0 a1 "com/example/gantry/gantry/resolver/Resolution") (f1 : Fld Z h0 a1 "com/example/gantry/gantry/resolver/Resolution" "descriptors" "Ljava/util/List;" u0) (f2 : Fld Z h0 a1 "com/example/gantry/gantry/resolver/Resolution" "mainClass" "Ljava/util/Optional;" u1) (f3 : Fld Z h0 a1 "com/example/gantry/gantry/resolver/Resolution" "arguments" "Ljava/util/List;" u2) (f4 : Fld Z h0 a1 "com/example/gantry/gantry/resolver/Resolution" "allPermissions" "Z" u3) (f5 : Fld Z h0 a1 "com/example/gantry/gantry/resolver/Resolution" "javaRequests" "Ljava/util/List;" u4) (f6 : Fld Z h0 a1 "com/example/gantry/gantry/resolver/Resolution" "jars" "Ljava/util/List;" u5) (f7 : Fld Z h0 a1 "com/example/gantry/gantry/resolver/Resolution" "nativeLibraries" "Ljava/util/List;" u6) (f8 : Fld Z h0 a1 "com/example/gantry/gantry/resolver/Resolution" "properties" "Ljava/util/List;" u7) (f9 : n0 ≤ a1) (f10 : Exa Z h0 a2 "java/util/ArrayList") (f11 : Fld Z h0 a2 "java/util/ArrayList" "elementData" "[Ljava/lang/Object;" (.ref b)) (f12 : Fld Z h0 a2 "java/util/ArrayList" "size" "I" (.int ((0 : Int32) + (1 : Int32)))) (f13 : Arv Z h0 b k (.object "java/lang/Object") (10 : Int32) [(.ref x0), .null, .null, .null, .null, .null, .null, .null, .null, .null] .null) (f14 : Exa Z h0 b "[Ljava/lang/Object;") (f15 : Exa Z h0 x0 "com/example/gantry/gantry/resolver/LocalCopy") (f16 : Exa Z h0 a4 "java/util/ArrayList") (f17 : Fld Z h0 a4 "java/util/ArrayList" "size" "I" (.int (0 : Int32))) (f18 : Exa Z h0 a6 "java/util/ArrayList") (f19 : Fld Z h0 a6 "java/util/ArrayList" "size" "I" (.int (0 : Int32))) (f20 : Exa Z h0 a7 "java/util/ArrayList") (f21 : Fld Z h0 a7 "java/util/ArrayList" "elementData" "[Ljava/lang/Object;" (.ref jb)) (f22 : Fld Z h0 a7 "java/util/ArrayList" "size" "I" (.int ((0 : Int32) + (1 : Int32)))) (f23 : Arv Z h0 jb jk (.object "java/lang/Object") (10 : Int32) [(.ref j0), .null, .null, .null, .null, .null, .null, .null, .null, .null] .null) (f24 : Exa Z h0 jb "[Ljava/lang/Object;") (f25 : Exa Z h0 j0 "com/example/gantry/gantry/resolver/Resolution$Jar") (f26 : Exa Z h0 a8 "java/util/ArrayList") (f27 : Fld Z h0 a8 "java/util/ArrayList" "size" "I" (.int (0 : Int32))) (f28 : Exa Z h0 a9 "java/util/ArrayList") (f29 : Fld Z h0 a9 "java/util/ArrayList" "size" "I" (.int (0 : Int32))) (nb_p5 : narrow .boolean (.int p5) = .int p5 ∧ fits .boolean (.int p5) = true) (f31 : a1 ≠ b) (f32 : a1 ≠ jb) (f33 : a1 ≠ a2) (f34 : a1 ≠ a7) (f35 : a1 ≠ a4) (f36 : a1 ≠ a6) (f37 : a1 ≠ a8) (f38 : a1 ≠ a9) :
    Meets l (⟨"com/example/gantry/gantry/resolver/Resolution", "<init>", "(Ljava/util/List;Ljava/util/Optional;Ljava/util/List;ZLjava/util/List;Ljava/util/List;Ljava/util/List;Ljava/util/List;)V"⟩ : MethodName) prog_66_method_1_code 9 none ws ({ frames := 8, cells := 4, slots := 6, locals := 100 } : Room) ({ frames := 8, cells := 4, slots := 6, locals := 100 } : Room).cells ({ frames := 8, cells := 4, slots := 6, locals := 100 } : Room).slots Z #[(.ref a1), (.ref a2), .null, (.ref a4), (.int p5), (.ref a6), (.ref a7), (.ref a8), (.ref a9)] h0 n0 (Q131 Z a1 a2 a4 p5 a6 a7 a8 a9 b k x0 jb jk j0 u0 u1 u2 u3 u4 u5 u6 u7 w_EMPTY_ELEMENTDATA w_DEFAULTCAPACITY_EMPTY_ELEMENTDATA w_EMPTY w_EMPTY_LIST k_w_EMPTY_ELEMENTDATA k_w_DEFAULTCAPACITY_EMPTY_ELEMENTDATA w_mir w_els k_els h0 n0) := by
  refine Meets.of (F := fun m => mkF m 0 #[.val (.ref a1), .val (.ref a2), .val .null, .val (.ref a4), .val (.int p5), .val (.ref a6), .val (.ref a7), .val (.ref a8), .val (.ref a9)] []) (plainFor_of_name pn_14) (fun m => ef_131 m a1 a2 a4 p5 a6 a7 a8 a9) ?_
  intro p e s m below meth c T0 hx hby hml hown0 hnm hret hlk hZ X0 e0
  have hown : s.vm.findClass "com/example/gantry/gantry/resolver/Resolution" = some m.cls := hown0
  have N0 := Fr.nil n0
  have KC0 := Keep.refl h0 [a1]
  obtain ⟨z0, z1, z2, z3, z4, z5, z6, z7, z8, z9, z10, z11, zm, z13, z14, -⟩ := SF
  show Goes _ _ _ _ _ _ (T0.setTop (mkF m 0 #[.val (.ref a1), .val (.ref a2), .val .null, .val (.ref a4), .val (.int p5), .val (.ref a6), .val (.ref a7), .val (.ref a8), .val (.ref a9)] []))
  refine own_aloadN X0 hx (hb hby d13_0) rfl rfl ?_
  refine own_special X0 hx hZ hown (y := (⟨"java/lang/Record", "<init>", "()V"⟩ : MethodName)) rfl (hw _ (List.mem_of_getElem? (i := 98) rfl)) (hw _ (List.mem_of_getElem? (i := 9) rfl)) (hw _ (List.mem_of_getElem? (i := 11) rfl)) (hw _ (List.mem_of_getElem? (i := 12) rfl)) (a := a1) (by decide) (W := 0) (by decide) (by decide) N0 e0 (by rw [hml]; rfl) (argsL := []) (rest := []) (lenOf pd_0 rfl) (Nat.le_of_eq rfl) (by decide) (by decide) (rm2 l Z a0 hw [] a1 h0 n0 O0) rfl (hb hby d13_1) ?_
  intro v1 T1 lc1 X1 N1 hQ1
  obtain ⟨rfl, e1⟩ := hQ1
  refine own_aloadN X1 hx (hb hby d13_4) rfl rfl ?_
  refine own_callS X1 hx hZ hown (y := (⟨"java/util/List", "copyOf", "(Ljava/util/Collection;)Ljava/util/List;"⟩ : MethodName)) (hw _ (List.mem_of_getElem? (i := 99) rfl)) (hw _ (List.mem_of_getElem? (i := 100) rfl)) (hw _ (List.mem_of_getElem? (i := 101) rfl)) (hw _ (List.mem_of_getElem? (i := 102) rfl)) (by decide) (W := 0) (by decide) (by decide) N1 e1 (by rw [hml]; rfl) (argsL := [(.ref a2)]) (rest := []) (lenOf pd_11 rfl) (Nat.le_of_eq rfl) (by decide) (by decide) (rm141 l Z a0 hw [] a2 b k x0 w_EMPTY_ELEMENTDATA w_DEFAULTCAPACITY_EMPTY_ELEMENTDATA w_EMPTY w_EMPTY_LIST k_w_EMPTY_ELEMENTDATA k_w_DEFAULTCAPACITY_EMPTY_ELEMENTDATA w_mir w_els k_els h0 n0 O0 ⟨z0, z1, z2, z3, z4, z5, z6, z7, z8, z9, z10, z11, zm, z13, z14, trivial⟩ f10 f11 f12 f13 f14 f15) rfl (hb hby d13_5) ?_
  intro v2 T2 lc2 X2 N2 hQ2
  obtain ⟨t_2, rfl, K2, r2_0, r2_1, r2_2, r2_3⟩ := hQ2
  have E3_a1 := f0.keep K2
  have E3_a4 := f16.keep K2
  have E3_a6 := f18.keep K2
  have E3_a7 := f20.keep K2
  have E3_jb := f24.keep K2
  have E3_j0 := f25.keep K2
  have E3_a8 := f26.keep K2
  have E3_a9 := f28.keep K2
  have F3_descriptors_a1 := f1.keep K2 nin0
  have F3_mainClass_a1 := f2.keep K2 nin0
  have F3_arguments_a1 := f3.keep K2 nin0
  have F3_allPermissions_a1 := f4.keep K2 nin0
  have F3_javaRequests_a1 := f5.keep K2 nin0
  have F3_jars_a1 := f6.keep K2 nin0
  have F3_nativeLibraries_a1 := f7.keep K2 nin0
  have F3_properties_a1 := f8.keep K2 nin0
  have F3_size_a4 := f17.keep K2 nin0
  have F3_size_a6 := f19.keep K2 nin0
  have F3_elementData_a7 := f21.keep K2 nin0
  have F3_size_a7 := f22.keep K2 nin0
  have F3_size_a8 := f27.keep K2 nin0
  have F3_size_a9 := f29.keep K2 nin0
  have A3_jb := f23.keep K2 nin0
  have O3 := O0.keep K2 all0
  have KC3 := KC0.trans K2 all0
  have ne_a1_t_2 : a1 ≠ t_2 := Nat.ne_of_lt (Nat.lt_of_lt_of_le f0.lt r2_3)
  have ge_t_2 : n0 ≤ t_2 := Nat.le_trans (own_sz O0) r2_3
  have sz_t_2 : h0.size ≤ t_2 := Nat.le_trans KC0.1 r2_3
  refine own_astoreN X2 hx (Ls' := #[.val (.ref a1), .val (.ref t_2), .val .null, .val (.ref a4), .val (.int p5), .val (.ref a6), .val (.ref a7), .val (.ref a8), .val (.ref a9)]) (hb hby d13_8) rfl rfl ?_
  refine own_aloadN X2 hx (hb hby d13_9) rfl rfl ?_
  refine own_callS X2 hx hZ hown (y := (⟨"java/util/List", "copyOf", "(Ljava/util/Collection;)Ljava/util/List;"⟩ : MethodName)) (hw _ (List.mem_of_getElem? (i := 99) rfl)) (hw _ (List.mem_of_getElem? (i := 100) rfl)) (hw _ (List.mem_of_getElem? (i := 101) rfl)) (hw _ (List.mem_of_getElem? (i := 102) rfl)) (by decide) (W := 0) (by decide) (by decide) N2 rfl (by rw [hml]; rfl) (argsL := [(.ref a4)]) (rest := []) (lenOf pd_11 rfl) (Nat.le_of_eq rfl) (by decide) (by decide) (rm14e l Z a0 hw [] a4 w_EMPTY_ELEMENTDATA w_DEFAULTCAPACITY_EMPTY_ELEMENTDATA w_EMPTY w_EMPTY_LIST k_w_EMPTY_ELEMENTDATA k_w_DEFAULTCAPACITY_EMPTY_ELEMENTDATA w_mir w_els k_els T2.heap n0 O3 ⟨z0, z1, z2, z3, z4, z5, z6, z7, z8, z9, z10, z11, zm, z13, z14, trivial⟩ E3_a4 F3_size_a4) rfl (hb hby d13_10) ?_
  intro v4 T4 lc4 X4 N4 hQ4
  obtain ⟨rfl, e4⟩ := hQ4
  refine own_astoreN X4 hx (Ls' := #[.val (.ref a1), .val (.ref t_2), .val .null, .val (.ref w_EMPTY_LIST), .val (.int p5), .val (.ref a6), .val (.ref a7), .val (.ref a8), .val (.ref a9)]) (hb hby d13_13) rfl rfl ?_
  refine own_aload X4 hx (hb hby d13_14) rfl rfl ?_
  refine own_callS X4 hx hZ hown (y := (⟨"java/util/List", "copyOf", "(Ljava/util/Collection;)Ljava/util/List;"⟩ : MethodName)) (hw _ (List.mem_of_getElem? (i := 99) rfl)) (hw _ (List.mem_of_getElem? (i := 100) rfl)) (hw _ (List.mem_of_getElem? (i := 101) rfl)) (hw _ (List.mem_of_getElem? (i := 102) rfl)) (by decide) (W := 0) (by decide) (by decide) N4 e4 (by rw [hml]; rfl) (argsL := [(.ref a6)]) (rest := []) (lenOf pd_11 rfl) (Nat.le_of_eq rfl) (by decide) (by decide) (rm14e l Z a0 hw [] a6 w_EMPTY_ELEMENTDATA w_DEFAULTCAPACITY_EMPTY_ELEMENTDATA w_EMPTY w_EMPTY_LIST k_w_EMPTY_ELEMENTDATA k_w_DEFAULTCAPACITY_EMPTY_ELEMENTDATA w_mir w_els k_els T2.heap n0 O3 ⟨z0, z1, z2, z3, z4, z5, z6, z7, z8, z9, z10, z11, zm, z13, z14, trivial⟩ E3_a6 F3_size_a6) rfl (hb hby d13_16) ?_
  intro v5 T5 lc5 X5 N5 hQ5
  obtain ⟨rfl, e5⟩ := hQ5
  refine own_astore X5 hx (Ls' := #[.val (.ref a1), .val (.ref t_2), .val .null, .val (.ref w_EMPTY_LIST), .val (.int p5), .val (.ref w_EMPTY_LIST), .val (.ref a7), .val (.ref a8), .val (.ref a9)]) (hb hby d13_19) rfl rfl ?_
  refine own_aload X5 hx (hb hby d13_21) rfl rfl ?_
  refine own_callS X5 hx hZ hown (y := (⟨"java/util/List", "copyOf", "(Ljava/util/Collection;)Ljava/util/List;"⟩ : MethodName)) (hw _ (List.mem_of_getElem? (i := 99) rfl)) (hw _ (List.mem_of_getElem? (i := 100) rfl)) (hw _ (List.mem_of_getElem? (i := 101) rfl)) (hw _ (List.mem_of_getElem? (i := 102) rfl)) (by decide) (W := 0) (by decide) (by decide) N5 e5 (by rw [hml]; rfl) (argsL := [(.ref a7)]) (rest := []) (lenOf pd_11 rfl) (Nat.le_of_eq rfl) (by decide) (by decide) (rm14J l Z a0 hw [] a7 jb jk j0 w_EMPTY_ELEMENTDATA w_DEFAULTCAPACITY_EMPTY_ELEMENTDATA w_EMPTY w_EMPTY_LIST k_w_EMPTY_ELEMENTDATA k_w_DEFAULTCAPACITY_EMPTY_ELEMENTDATA w_mir w_els k_els T2.heap n0 O3 ⟨z0, z1, z2, z3, z4, z5, z6, z7, z8, z9, z10, z11, zm, z13, z14, trivial⟩ E3_a7 F3_elementData_a7 F3_size_a7 A3_jb E3_jb E3_j0) rfl (hb hby d13_23) ?_
  intro v6 T6 lc6 X6 N6 hQ6
  obtain ⟨t_6, rfl, K6, r6_0, r6_1, r6_2, r6_3⟩ := hQ6
  have E7_a1 := E3_a1.keep K6
  have E7_a8 := E3_a8.keep K6
  have E7_a9 := E3_a9.keep K6
  have E7_t_2 := r2_0.keep K6
  have F7_descriptors_a1 := F3_descriptors_a1.keep K6 nin0
  have F7_mainClass_a1 := F3_mainClass_a1.keep K6 nin0
  have F7_arguments_a1 := F3_arguments_a1.keep K6 nin0
  have F7_allPermissions_a1 := F3_allPermissions_a1.keep K6 nin0
  have F7_javaRequests_a1 := F3_javaRequests_a1.keep K6 nin0
  have F7_jars_a1 := F3_jars_a1.keep K6 nin0
  have F7_nativeLibraries_a1 := F3_nativeLibraries_a1.keep K6 nin0
  have F7_properties_a1 := F3_properties_a1.keep K6 nin0
  have F7_size_a8 := F3_size_a8.keep K6 nin0
  have F7_size_a9 := F3_size_a9.keep K6 nin0
  have F7_e0_t_2 := r2_1.keep K6 nin0
  have F7_e1_t_2 := r2_2.keep K6 nin0
  have O7 := O3.keep K6 all0
  have KC7 := KC3.trans K6 all0
  have ge_t_6 : n0 ≤ t_6 := Nat.le_trans (own_sz O3) r6_3
  have sz_t_6 : h0.size ≤ t_6 := Nat.le_trans KC3.1 r6_3
  refine own_astore X6 hx (Ls' := #[.val (.ref a1), .val (.ref t_2), .val .null, .val (.ref w_EMPTY_LIST), .val (.int p5), .val (.ref w_EMPTY_LIST), .val (.ref t_6), .val (.ref a8), .val (.ref a9)]) (hb hby d13_26) rfl rfl ?_
  refine own_aload X6 hx (hb hby d13_28) rfl rfl ?_
  refine own_callS X6 hx hZ hown (y := (⟨"java/util/List", "copyOf", "(Ljava/util/Collection;)Ljava/util/List;"⟩ : MethodName)) (hw _ (List.mem_of_getElem? (i := 99) rfl)) (hw _ (List.mem_of_getElem? (i := 100) rfl)) (hw _ (List.mem_of_getElem? (i := 101) rfl)) (hw _ (List.mem_of_getElem? (i := 102) rfl)) (by decide) (W := 0) (by decide) (by decide) N6 rfl (by rw [hml]; rfl) (argsL := [(.ref a8)]) (rest := []) (lenOf pd_11 rfl) (Nat.le_of_eq rfl) (by decide) (by decide) (rm14e l Z a0 hw [] a8 w_EMPTY_ELEMENTDATA w_DEFAULTCAPACITY_EMPTY_ELEMENTDATA w_EMPTY w_EMPTY_LIST k_w_EMPTY_ELEMENTDATA k_w_DEFAULTCAPACITY_EMPTY_ELEMENTDATA w_mir w_els k_els T6.heap n0 O7 ⟨z0, z1, z2, z3, z4, z5, z6, z7, z8, z9, z10, z11, zm, z13, z14, trivial⟩ E7_a8 F7_size_a8) rfl (hb hby d13_30) ?_
  intro v8 T8 lc8 X8 N8 hQ8
  obtain ⟨rfl, e8⟩ := hQ8
  refine own_astore X8 hx (Ls' := #[.val (.ref a1), .val (.ref t_2), .val .null, .val (.ref w_EMPTY_LIST), .val (.int p5), .val (.ref w_EMPTY_LIST), .val (.ref t_6), .val (.ref w_EMPTY_LIST), .val (.ref a9)]) (hb hby d13_33) rfl rfl ?_
  refine own_aload X8 hx (hb hby d13_35) rfl rfl ?_
  refine own_callS X8 hx hZ hown (y := (⟨"java/util/List", "copyOf", "(Ljava/util/Collection;)Ljava/util/List;"⟩ : MethodName)) (hw _ (List.mem_of_getElem? (i := 99) rfl)) (hw _ (List.mem_of_getElem? (i := 100) rfl)) (hw _ (List.mem_of_getElem? (i := 101) rfl)) (hw _ (List.mem_of_getElem? (i := 102) rfl)) (by decide) (W := 0) (by decide) (by decide) N8 e8 (by rw [hml]; rfl) (argsL := [(.ref a9)]) (rest := []) (lenOf pd_11 rfl) (Nat.le_of_eq rfl) (by decide) (by decide) (rm14e l Z a0 hw [] a9 w_EMPTY_ELEMENTDATA w_DEFAULTCAPACITY_EMPTY_ELEMENTDATA w_EMPTY w_EMPTY_LIST k_w_EMPTY_ELEMENTDATA k_w_DEFAULTCAPACITY_EMPTY_ELEMENTDATA w_mir w_els k_els T6.heap n0 O7 ⟨z0, z1, z2, z3, z4, z5, z6, z7, z8, z9, z10, z11, zm, z13, z14, trivial⟩ E7_a9 F7_size_a9) rfl (hb hby d13_37) ?_
  intro v9 T9 lc9 X9 N9 hQ9
  obtain ⟨rfl, e9⟩ := hQ9
  refine own_astore X9 hx (Ls' := #[.val (.ref a1), .val (.ref t_2), .val .null, .val (.ref w_EMPTY_LIST), .val (.int p5), .val (.ref w_EMPTY_LIST), .val (.ref t_6), .val (.ref w_EMPTY_LIST), .val (.ref w_EMPTY_LIST)]) (hb hby d13_40) rfl rfl ?_
  refine own_aloadN X9 hx (hb hby d13_42) rfl rfl ?_
  refine own_iface X9 hx hZ hown (y := (⟨"java/util/List", "isEmpty", "()Z"⟩ : MethodName)) (z := (⟨"java/util/ImmutableCollections$List12", "isEmpty", "()Z"⟩ : MethodName)) (hw _ (List.mem_of_getElem? (i := 189) rfl)) (hw _ (List.mem_of_getElem? (i := 190) rfl)) (hw _ (List.mem_of_getElem? (i := 191) rfl)) (hw _ (List.mem_of_getElem? (i := 192) rfl)) (hw _ (List.mem_of_getElem? (i := 193) rfl)) (hw _ (List.mem_of_getElem? (i := 194) rfl)) (hw _ (List.mem_of_getElem? (i := 195) rfl)) (hw _ (List.mem_of_getElem? (i := 196) rfl)) (hw _ (List.mem_of_getElem? (i := 157) rfl)) (hw _ (List.mem_of_getElem? (i := 197) rfl)) (a := t_2) E7_t_2 (by decide) (W := 0) (by decide) (by decide) N9 e9 (by rw [hml]; rfl) (argsL := []) (rest := []) (lenOf pd_9 rfl) (Nat.le_of_eq rfl) (by decide) (by decide) (rm27 l Z a0 hw [] t_2 T6.heap n0 O7) rfl (hb hby d13_43) ?_
  intro v10 T10 lc10 X10 N10 hQ10
  obtain ⟨rfl, e10⟩ := hQ10
  refine own_ifNo X10 hx (hb hby d13_48) ((if0 _ _).trans (teq (by decide : (0 : Int32) = (0 : Int32))).2) ?_
  refine own_aload X10 hx (hb hby d13_51) rfl rfl ?_
  refine own_iface X10 hx hZ hown (y := (⟨"java/util/List", "isEmpty", "()Z"⟩ : MethodName)) (z := (⟨"java/util/ImmutableCollections$List12", "isEmpty", "()Z"⟩ : MethodName)) (hw _ (List.mem_of_getElem? (i := 189) rfl)) (hw _ (List.mem_of_getElem? (i := 190) rfl)) (hw _ (List.mem_of_getElem? (i := 191) rfl)) (hw _ (List.mem_of_getElem? (i := 192) rfl)) (hw _ (List.mem_of_getElem? (i := 193) rfl)) (hw _ (List.mem_of_getElem? (i := 194) rfl)) (hw _ (List.mem_of_getElem? (i := 195) rfl)) (hw _ (List.mem_of_getElem? (i := 196) rfl)) (hw _ (List.mem_of_getElem? (i := 157) rfl)) (hw _ (List.mem_of_getElem? (i := 197) rfl)) (a := t_6) r6_0 (by decide) (W := 0) (by decide) (by decide) N10 e10 (by rw [hml]; rfl) (argsL := []) (rest := []) (lenOf pd_9 rfl) (Nat.le_of_eq rfl) (by decide) (by decide) (rm27 l Z a0 hw [] t_6 T6.heap n0 O7) rfl (hb hby d13_53) ?_
  intro v11 T11 lc11 X11 N11 hQ11
  obtain ⟨rfl, e11⟩ := hQ11
  refine own_ifYes X11 hx (pc' := 71) (hb hby d13_58) ((if0 _ _).trans (teq (by decide : (0 : Int32) = (0 : Int32))).1) (by decide) (by decide) ?_
  refine own_aloadN X11 hx (hb hby d13_71) rfl rfl ?_
  refine own_aloadN X11 hx (hb hby d13_72) rfl rfl ?_
  refine own_putF X11 hx hZ hown N11 (host := "") (Or.inl (hw _ (List.mem_of_getElem? (i := 198) rfl))) Via.refl e11 F7_descriptors_a1 E7_a1 (Or.inr ⟨(hw _ (List.mem_of_getElem? (i := 199) rfl)), rfl, hnm⟩) (hw _ (List.mem_of_getElem? (i := 93) rfl)) (ty := (.object "java/util/List")) (by decide) rfl rfl f9 (hb hby d13_73) (fun T12 h12 lc12 X12 e12 N12 W12 => ?_)
  have E13_a1 := E7_a1.wr W12
  have E13_t_2 := E7_t_2.wr W12
  have F13_descriptors_a1 := F7_descriptors_a1.same W12
  have F13_mainClass_a1 := F7_mainClass_a1.other W12 (Or.inr (slot_ne (Or.inr (hw _ (List.mem_of_getElem? (i := 201) rfl))) (Or.inr (hw _ (List.mem_of_getElem? (i := 199) rfl))) (by decide) (t := (.object "java/util/Optional")) (t' := (.object "java/util/List")) (by decide) (by decide)))
  have F13_arguments_a1 := F7_arguments_a1.other W12 (Or.inr (slot_ne (Or.inr (hw _ (List.mem_of_getElem? (i := 203) rfl))) (Or.inr (hw _ (List.mem_of_getElem? (i := 199) rfl))) (by decide) (t := (.object "java/util/List")) (t' := (.object "java/util/List")) (by decide) (by decide)))
  have F13_allPermissions_a1 := F7_allPermissions_a1.other W12 (Or.inr (slot_ne (Or.inr (hw _ (List.mem_of_getElem? (i := 205) rfl))) (Or.inr (hw _ (List.mem_of_getElem? (i := 199) rfl))) (by decide) (t := .boolean) (t' := (.object "java/util/List")) (by decide) (by decide)))
  have F13_javaRequests_a1 := F7_javaRequests_a1.other W12 (Or.inr (slot_ne (Or.inr (hw _ (List.mem_of_getElem? (i := 207) rfl))) (Or.inr (hw _ (List.mem_of_getElem? (i := 199) rfl))) (by decide) (t := (.object "java/util/List")) (t' := (.object "java/util/List")) (by decide) (by decide)))
  have F13_jars_a1 := F7_jars_a1.other W12 (Or.inr (slot_ne (Or.inr (hw _ (List.mem_of_getElem? (i := 209) rfl))) (Or.inr (hw _ (List.mem_of_getElem? (i := 199) rfl))) (by decide) (t := (.object "java/util/List")) (t' := (.object "java/util/List")) (by decide) (by decide)))
  have F13_nativeLibraries_a1 := F7_nativeLibraries_a1.other W12 (Or.inr (slot_ne (Or.inr (hw _ (List.mem_of_getElem? (i := 211) rfl))) (Or.inr (hw _ (List.mem_of_getElem? (i := 199) rfl))) (by decide) (t := (.object "java/util/List")) (t' := (.object "java/util/List")) (by decide) (by decide)))
  have F13_properties_a1 := F7_properties_a1.other W12 (Or.inr (slot_ne (Or.inr (hw _ (List.mem_of_getElem? (i := 213) rfl))) (Or.inr (hw _ (List.mem_of_getElem? (i := 199) rfl))) (by decide) (t := (.object "java/util/List")) (t' := (.object "java/util/List")) (by decide) (by decide)))
  have F13_e0_t_2 := F7_e0_t_2.other W12 (Or.inl (Ne.symm ne_a1_t_2))
  have F13_e1_t_2 := F7_e1_t_2.other W12 (Or.inl (Ne.symm ne_a1_t_2))
  have O13 := O7.wr W12 f9
  have KC13 := KC7.wr W12 (Or.inl (List.mem_of_getElem? (i := 0) rfl))
  refine own_aloadN X12 hx (hb hby d13_76) rfl rfl ?_
  refine own_aloadN X12 hx (hb hby d13_77) rfl rfl ?_
  refine own_putF X12 hx hZ hown N12 (host := "") (Or.inl (hw _ (List.mem_of_getElem? (i := 200) rfl))) Via.refl e12 F13_mainClass_a1 E13_a1 (Or.inr ⟨(hw _ (List.mem_of_getElem? (i := 201) rfl)), rfl, hnm⟩) (hw _ (List.mem_of_getElem? (i := 93) rfl)) (ty := (.object "java/util/Optional")) (by decide) rfl rfl f9 (hb hby d13_78) (fun T14 h14 lc14 X14 e14 N14 W14 => ?_)
  have E15_a1 := E13_a1.wr W14
  have E15_t_2 := E13_t_2.wr W14
  have F15_descriptors_a1 := F13_descriptors_a1.other W14 (Or.inr (slot_ne (Or.inr (hw _ (List.mem_of_getElem? (i := 199) rfl))) (Or.inr (hw _ (List.mem_of_getElem? (i := 201) rfl))) (by decide) (t := (.object "java/util/List")) (t' := (.object "java/util/Optional")) (by decide) (by decide)))
  have F15_arguments_a1 := F13_arguments_a1.other W14 (Or.inr (slot_ne (Or.inr (hw _ (List.mem_of_getElem? (i := 203) rfl))) (Or.inr (hw _ (List.mem_of_getElem? (i := 201) rfl))) (by decide) (t := (.object "java/util/List")) (t' := (.object "java/util/Optional")) (by decide) (by decide)))
  have F15_allPermissions_a1 := F13_allPermissions_a1.other W14 (Or.inr (slot_ne (Or.inr (hw _ (List.mem_of_getElem? (i := 205) rfl))) (Or.inr (hw _ (List.mem_of_getElem? (i := 201) rfl))) (by decide) (t := .boolean) (t' := (.object "java/util/Optional")) (by decide) (by decide)))
  have F15_javaRequests_a1 := F13_javaRequests_a1.other W14 (Or.inr (slot_ne (Or.inr (hw _ (List.mem_of_getElem? (i := 207) rfl))) (Or.inr (hw _ (List.mem_of_getElem? (i := 201) rfl))) (by decide) (t := (.object "java/util/List")) (t' := (.object "java/util/Optional")) (by decide) (by decide)))
  have F15_jars_a1 := F13_jars_a1.other W14 (Or.inr (slot_ne (Or.inr (hw _ (List.mem_of_getElem? (i := 209) rfl))) (Or.inr (hw _ (List.mem_of_getElem? (i := 201) rfl))) (by decide) (t := (.object "java/util/List")) (t' := (.object "java/util/Optional")) (by decide) (by decide)))
  have F15_nativeLibraries_a1 := F13_nativeLibraries_a1.other W14 (Or.inr (slot_ne (Or.inr (hw _ (List.mem_of_getElem? (i := 211) rfl))) (Or.inr (hw _ (List.mem_of_getElem? (i := 201) rfl))) (by decide) (t := (.object "java/util/List")) (t' := (.object "java/util/Optional")) (by decide) (by decide)))
  have F15_properties_a1 := F13_properties_a1.other W14 (Or.inr (slot_ne (Or.inr (hw _ (List.mem_of_getElem? (i := 213) rfl))) (Or.inr (hw _ (List.mem_of_getElem? (i := 201) rfl))) (by decide) (t := (.object "java/util/List")) (t' := (.object "java/util/Optional")) (by decide) (by decide)))
  have F15_e0_t_2 := F13_e0_t_2.other W14 (Or.inl (Ne.symm ne_a1_t_2))
  have F15_e1_t_2 := F13_e1_t_2.other W14 (Or.inl (Ne.symm ne_a1_t_2))
  have O15 := O13.wr W14 f9
  have KC15 := KC13.wr W14 (Or.inl (List.mem_of_getElem? (i := 0) rfl))
  refine own_aloadN X14 hx (hb hby d13_81) rfl rfl ?_
  refine own_aloadN X14 hx (hb hby d13_82) rfl rfl ?_
  refine own_putF X14 hx hZ hown N14 (host := "") (Or.inl (hw _ (List.mem_of_getElem? (i := 202) rfl))) Via.refl e14 F15_arguments_a1 E15_a1 (Or.inr ⟨(hw _ (List.mem_of_getElem? (i := 203) rfl)), rfl, hnm⟩) (hw _ (List.mem_of_getElem? (i := 93) rfl)) (ty := (.object "java/util/List")) (by decide) rfl rfl f9 (hb hby d13_83) (fun T16 h16 lc16 X16 e16 N16 W16 => ?_)
  have E17_a1 := E15_a1.wr W16
  have E17_t_2 := E15_t_2.wr W16
  have F17_descriptors_a1 := F15_descriptors_a1.other W16 (Or.inr (slot_ne (Or.inr (hw _ (List.mem_of_getElem? (i := 199) rfl))) (Or.inr (hw _ (List.mem_of_getElem? (i := 203) rfl))) (by decide) (t := (.object "java/util/List")) (t' := (.object "java/util/List")) (by decide) (by decide)))
  have F17_allPermissions_a1 := F15_allPermissions_a1.other W16 (Or.inr (slot_ne (Or.inr (hw _ (List.mem_of_getElem? (i := 205) rfl))) (Or.inr (hw _ (List.mem_of_getElem? (i := 203) rfl))) (by decide) (t := .boolean) (t' := (.object "java/util/List")) (by decide) (by decide)))
  have F17_javaRequests_a1 := F15_javaRequests_a1.other W16 (Or.inr (slot_ne (Or.inr (hw _ (List.mem_of_getElem? (i := 207) rfl))) (Or.inr (hw _ (List.mem_of_getElem? (i := 203) rfl))) (by decide) (t := (.object "java/util/List")) (t' := (.object "java/util/List")) (by decide) (by decide)))
  have F17_jars_a1 := F15_jars_a1.other W16 (Or.inr (slot_ne (Or.inr (hw _ (List.mem_of_getElem? (i := 209) rfl))) (Or.inr (hw _ (List.mem_of_getElem? (i := 203) rfl))) (by decide) (t := (.object "java/util/List")) (t' := (.object "java/util/List")) (by decide) (by decide)))
  have F17_nativeLibraries_a1 := F15_nativeLibraries_a1.other W16 (Or.inr (slot_ne (Or.inr (hw _ (List.mem_of_getElem? (i := 211) rfl))) (Or.inr (hw _ (List.mem_of_getElem? (i := 203) rfl))) (by decide) (t := (.object "java/util/List")) (t' := (.object "java/util/List")) (by decide) (by decide)))
  have F17_properties_a1 := F15_properties_a1.other W16 (Or.inr (slot_ne (Or.inr (hw _ (List.mem_of_getElem? (i := 213) rfl))) (Or.inr (hw _ (List.mem_of_getElem? (i := 203) rfl))) (by decide) (t := (.object "java/util/List")) (t' := (.object "java/util/List")) (by decide) (by decide)))
  have F17_e0_t_2 := F15_e0_t_2.other W16 (Or.inl (Ne.symm ne_a1_t_2))
  have F17_e1_t_2 := F15_e1_t_2.other W16 (Or.inl (Ne.symm ne_a1_t_2))
  have O17 := O15.wr W16 f9
  have KC17 := KC15.wr W16 (Or.inl (List.mem_of_getElem? (i := 0) rfl))
  refine own_aloadN X16 hx (hb hby d13_86) rfl rfl ?_
  refine own_iload X16 hx (hb hby d13_87) rfl ?_
  refine own_putF X16 hx hZ hown N16 (host := "") (Or.inl (hw _ (List.mem_of_getElem? (i := 204) rfl))) Via.refl e16 F17_allPermissions_a1 E17_a1 (Or.inr ⟨(hw _ (List.mem_of_getElem? (i := 205) rfl)), rfl, hnm⟩) (hw _ (List.mem_of_getElem? (i := 93) rfl)) (ty := .boolean) (by decide) nb_p5.1 nb_p5.2 f9 (hb hby d13_89) (fun T18 h18 lc18 X18 e18 N18 W18 => ?_)
  have E19_a1 := E17_a1.wr W18
  have E19_t_2 := E17_t_2.wr W18
  have F19_descriptors_a1 := F17_descriptors_a1.other W18 (Or.inr (slot_ne (Or.inr (hw _ (List.mem_of_getElem? (i := 199) rfl))) (Or.inr (hw _ (List.mem_of_getElem? (i := 205) rfl))) (by decide) (t := (.object "java/util/List")) (t' := .boolean) (by decide) (by decide)))
  have F19_javaRequests_a1 := F17_javaRequests_a1.other W18 (Or.inr (slot_ne (Or.inr (hw _ (List.mem_of_getElem? (i := 207) rfl))) (Or.inr (hw _ (List.mem_of_getElem? (i := 205) rfl))) (by decide) (t := (.object "java/util/List")) (t' := .boolean) (by decide) (by decide)))
  have F19_jars_a1 := F17_jars_a1.other W18 (Or.inr (slot_ne (Or.inr (hw _ (List.mem_of_getElem? (i := 209) rfl))) (Or.inr (hw _ (List.mem_of_getElem? (i := 205) rfl))) (by decide) (t := (.object "java/util/List")) (t' := .boolean) (by decide) (by decide)))
  have F19_nativeLibraries_a1 := F17_nativeLibraries_a1.other W18 (Or.inr (slot_ne (Or.inr (hw _ (List.mem_of_getElem? (i := 211) rfl))) (Or.inr (hw _ (List.mem_of_getElem? (i := 205) rfl))) (by decide) (t := (.object "java/util/List")) (t' := .boolean) (by decide) (by decide)))
  have F19_properties_a1 := F17_properties_a1.other W18 (Or.inr (slot_ne (Or.inr (hw _ (List.mem_of_getElem? (i := 213) rfl))) (Or.inr (hw _ (List.mem_of_getElem? (i := 205) rfl))) (by decide) (t := (.object "java/util/List")) (t' := .boolean) (by decide) (by decide)))
  have F19_e0_t_2 := F17_e0_t_2.other W18 (Or.inl (Ne.symm ne_a1_t_2))
  have F19_e1_t_2 := F17_e1_t_2.other W18 (Or.inl (Ne.symm ne_a1_t_2))
  have O19 := O17.wr W18 f9
  have KC19 := KC17.wr W18 (Or.inl (List.mem_of_getElem? (i := 0) rfl))
  refine own_aloadN X18 hx (hb hby d13_92) rfl rfl ?_
  refine own_aload X18 hx (hb hby d13_93) rfl rfl ?_
  refine own_putF X18 hx hZ hown N18 (host := "") (Or.inl (hw _ (List.mem_of_getElem? (i := 206) rfl))) Via.refl e18 F19_javaRequests_a1 E19_a1 (Or.inr ⟨(hw _ (List.mem_of_getElem? (i := 207) rfl)), rfl, hnm⟩) (hw _ (List.mem_of_getElem? (i := 93) rfl)) (ty := (.object "java/util/List")) (by decide) rfl rfl f9 (hb hby d13_95) (fun T20 h20 lc20 X20 e20 N20 W20 => ?_)
  have E21_a1 := E19_a1.wr W20
  have E21_t_2 := E19_t_2.wr W20
  have F21_descriptors_a1 := F19_descriptors_a1.other W20 (Or.inr (slot_ne (Or.inr (hw _ (List.mem_of_getElem? (i := 199) rfl))) (Or.inr (hw _ (List.mem_of_getElem? (i := 207) rfl))) (by decide) (t := (.object "java/util/List")) (t' := (.object "java/util/List")) (by decide) (by decide)))
  have F21_jars_a1 := F19_jars_a1.other W20 (Or.inr (slot_ne (Or.inr (hw _ (List.mem_of_getElem? (i := 209) rfl))) (Or.inr (hw _ (List.mem_of_getElem? (i := 207) rfl))) (by decide) (t := (.object "java/util/List")) (t' := (.object "java/util/List")) (by decide) (by decide)))
  have F21_nativeLibraries_a1 := F19_nativeLibraries_a1.other W20 (Or.inr (slot_ne (Or.inr (hw _ (List.mem_of_getElem? (i := 211) rfl))) (Or.inr (hw _ (List.mem_of_getElem? (i := 207) rfl))) (by decide) (t := (.object "java/util/List")) (t' := (.object "java/util/List")) (by decide) (by decide)))
  have F21_properties_a1 := F19_properties_a1.other W20 (Or.inr (slot_ne (Or.inr (hw _ (List.mem_of_getElem? (i := 213) rfl))) (Or.inr (hw _ (List.mem_of_getElem? (i := 207) rfl))) (by decide) (t := (.object "java/util/List")) (t' := (.object "java/util/List")) (by decide) (by decide)))
  have F21_e0_t_2 := F19_e0_t_2.other W20 (Or.inl (Ne.symm ne_a1_t_2))
  have F21_e1_t_2 := F19_e1_t_2.other W20 (Or.inl (Ne.symm ne_a1_t_2))
  have O21 := O19.wr W20 f9
  have KC21 := KC19.wr W20 (Or.inl (List.mem_of_getElem? (i := 0) rfl))
  refine own_aloadN X20 hx (hb hby d13_98) rfl rfl ?_
  refine own_aload X20 hx (hb hby d13_99) rfl rfl ?_
  refine own_putF X20 hx hZ hown N20 (host := "") (Or.inl (hw _ (List.mem_of_getElem? (i := 208) rfl))) Via.refl e20 F21_jars_a1 E21_a1 (Or.inr ⟨(hw _ (List.mem_of_getElem? (i := 209) rfl)), rfl, hnm⟩) (hw _ (List.mem_of_getElem? (i := 93) rfl)) (ty := (.object "java/util/List")) (by decide) rfl rfl f9 (hb hby d13_101) (fun T22 h22 lc22 X22 e22 N22 W22 => ?_)
  have E23_a1 := E21_a1.wr W22
  have E23_t_2 := E21_t_2.wr W22
  have F23_descriptors_a1 := F21_descriptors_a1.other W22 (Or.inr (slot_ne (Or.inr (hw _ (List.mem_of_getElem? (i := 199) rfl))) (Or.inr (hw _ (List.mem_of_getElem? (i := 209) rfl))) (by decide) (t := (.object "java/util/List")) (t' := (.object "java/util/List")) (by decide) (by decide)))
  have F23_nativeLibraries_a1 := F21_nativeLibraries_a1.other W22 (Or.inr (slot_ne (Or.inr (hw _ (List.mem_of_getElem? (i := 211) rfl))) (Or.inr (hw _ (List.mem_of_getElem? (i := 209) rfl))) (by decide) (t := (.object "java/util/List")) (t' := (.object "java/util/List")) (by decide) (by decide)))
  have F23_properties_a1 := F21_properties_a1.other W22 (Or.inr (slot_ne (Or.inr (hw _ (List.mem_of_getElem? (i := 213) rfl))) (Or.inr (hw _ (List.mem_of_getElem? (i := 209) rfl))) (by decide) (t := (.object "java/util/List")) (t' := (.object "java/util/List")) (by decide) (by decide)))
  have F23_e0_t_2 := F21_e0_t_2.other W22 (Or.inl (Ne.symm ne_a1_t_2))
  have F23_e1_t_2 := F21_e1_t_2.other W22 (Or.inl (Ne.symm ne_a1_t_2))
  have O23 := O21.wr W22 f9
  have KC23 := KC21.wr W22 (Or.inl (List.mem_of_getElem? (i := 0) rfl))
  refine own_aloadN X22 hx (hb hby d13_104) rfl rfl ?_
  refine own_aload X22 hx (hb hby d13_105) rfl rfl ?_
  refine own_putF X22 hx hZ hown N22 (host := "") (Or.inl (hw _ (List.mem_of_getElem? (i := 210) rfl))) Via.refl e22 F23_nativeLibraries_a1 E23_a1 (Or.inr ⟨(hw _ (List.mem_of_getElem? (i := 211) rfl)), rfl, hnm⟩) (hw _ (List.mem_of_getElem? (i := 93) rfl)) (ty := (.object "java/util/List")) (by decide) rfl rfl f9 (hb hby d13_107) (fun T24 h24 lc24 X24 e24 N24 W24 => ?_)
  have E25_a1 := E23_a1.wr W24
  have E25_t_2 := E23_t_2.wr W24
  have F25_descriptors_a1 := F23_descriptors_a1.other W24 (Or.inr (slot_ne (Or.inr (hw _ (List.mem_of_getElem? (i := 199) rfl))) (Or.inr (hw _ (List.mem_of_getElem? (i := 211) rfl))) (by decide) (t := (.object "java/util/List")) (t' := (.object "java/util/List")) (by decide) (by decide)))
  have F25_properties_a1 := F23_properties_a1.other W24 (Or.inr (slot_ne (Or.inr (hw _ (List.mem_of_getElem? (i := 213) rfl))) (Or.inr (hw _ (List.mem_of_getElem? (i := 211) rfl))) (by decide) (t := (.object "java/util/List")) (t' := (.object "java/util/List")) (by decide) (by decide)))
  have F25_e0_t_2 := F23_e0_t_2.other W24 (Or.inl (Ne.symm ne_a1_t_2))
  have F25_e1_t_2 := F23_e1_t_2.other W24 (Or.inl (Ne.symm ne_a1_t_2))
  have O25 := O23.wr W24 f9
  have KC25 := KC23.wr W24 (Or.inl (List.mem_of_getElem? (i := 0) rfl))
  refine own_aloadN X24 hx (hb hby d13_110) rfl rfl ?_
  refine own_aload X24 hx (hb hby d13_111) rfl rfl ?_
  refine own_putF X24 hx hZ hown N24 (host := "") (Or.inl (hw _ (List.mem_of_getElem? (i := 212) rfl))) Via.refl e24 F25_properties_a1 E25_a1 (Or.inr ⟨(hw _ (List.mem_of_getElem? (i := 213) rfl)), rfl, hnm⟩) (hw _ (List.mem_of_getElem? (i := 93) rfl)) (ty := (.object "java/util/List")) (by decide) rfl rfl f9 (hb hby d13_113) (fun T26 h26 lc26 X26 e26 N26 W26 => ?_)
  have E27_a1 := E25_a1.wr W26
  have E27_t_2 := E25_t_2.wr W26
  have F27_descriptors_a1 := F25_descriptors_a1.other W26 (Or.inr (slot_ne (Or.inr (hw _ (List.mem_of_getElem? (i := 199) rfl))) (Or.inr (hw _ (List.mem_of_getElem? (i := 213) rfl))) (by decide) (t := (.object "java/util/List")) (t' := (.object "java/util/List")) (by decide) (by decide)))
  have F27_e0_t_2 := F25_e0_t_2.other W26 (Or.inl (Ne.symm ne_a1_t_2))
  have F27_e1_t_2 := F25_e1_t_2.other W26 (Or.inl (Ne.symm ne_a1_t_2))
  have O27 := O25.wr W26 f9
  have KC27 := KC25.wr W26 (Or.inl (List.mem_of_getElem? (i := 0) rfl))
  show Goes _ _ _ _ _ _ (T26.setTop (mkF m 116 #[.val (.ref a1), .val (.ref t_2), .val .null, .val (.ref w_EMPTY_LIST), .val (.int p5), .val (.ref w_EMPTY_LIST), .val (.ref t_6), .val (.ref w_EMPTY_LIST), .val (.ref w_EMPTY_LIST)] []))
  exact own_retV X26 hx N26 hlk (by decide) (by decide) hret (hb hby d13_116) (by rw [e26]; exact ⟨t_2, rfl, KC27, E27_a1, F27_descriptors_a1, E27_t_2, F27_e0_t_2, F27_e1_t_2, sz_t_2⟩)
theorem d31_0 : decode jdk_44_method_5_code 0 = .ok (.iload_n 1, 1) := by decide +kernel
theorem d31_1 : decode jdk_44_method_5_code 1 = .ok (.ifCond .ne 8, 3) := by decide +kernel
theorem d31_4 : decode jdk_44_method_5_code 4 = .ok (.aload_n 0, 1) := by decide +kernel
theorem d31_5 : decode jdk_44_method_5_code 5 = .ok (.getfield 13, 3) := by decide +kernel
theorem d31_8 : decode jdk_44_method_5_code 8 = .ok (.areturn, 1) := by decide +kernel
def Q31 (Z : State) (a1 : Addr) (x0 : Addr) (w_EMPTY_ELEMENTDATA : Addr) (w_DEFAULTCAPACITY_EMPTY_ELEMENTDATA : Addr) (w_EMPTY : Addr) (w_EMPTY_LIST : Addr) (k_w_EMPTY_ELEMENTDATA : ClassId) (k_w_DEFAULTCAPACITY_EMPTY_ELEMENTDATA : ClassId) (w_mir : Addr) (w_els : Addr) (k_els : ClassId) (h0 : Heap) (n0 : Nat) (v : Option Value) (h : Heap) : Prop :=
  (v = some (.ref x0) ∧ h = h0)
theorem ef_31 (m : MethodId) (a1 : Addr) : entryFrame m #[(.ref a1), (.int (0 : Int32))] 2 = mkF m 0 #[.val (.ref a1), .val (.int (0 : Int32))] [] := by first | (simp [entryFrame, mkF, argsToLocals, Value.category]; done) | rfl
set_option maxRecDepth 65536 in
set_option maxHeartbeats 40000000 in
theorem rm31 (l : Launch) (Z : State) (a0 : Array Value) (hw : ∀ d ∈ tables_1, d.before a0 Z = true) (ws : List Jvm.Cond) (a1 : Addr) (x0 : Addr) (w_EMPTY_ELEMENTDATA : Addr) (w_DEFAULTCAPACITY_EMPTY_ELEMENTDATA : Addr) (w_EMPTY : Addr) (w_EMPTY_LIST : Addr) (k_w_EMPTY_ELEMENTDATA : ClassId) (k_w_DEFAULTCAPACITY_EMPTY_ELEMENTDATA : ClassId) (w_mir : Addr) (w_els : Addr) (k_els : ClassId) (h0 : Heap) (n0 : Nat) (O0 : Old Z n0 h0) (SF : Start Z w_EMPTY_ELEMENTDATA w_DEFAULTCAPACITY_EMPTY_ELEMENTDATA w_EMPTY w_EMPTY_LIST k_w_EMPTY_ELEMENTDATA k_w_DEFAULTCAPACITY_EMPTY_ELEMENTDATA w_mir w_els k_els) (f0 : Fld Z h0 a1 "java/util/ImmutableCollections$List12" "e0" "Ljava/lang/Object;" (.ref x0)) :
    Meets l (⟨"java/util/ImmutableCollections$List12", "get", "(I)Ljava/lang/Object;"⟩ : MethodName) jdk_44_method_5_code 2 (some (.object "java/lang/Object")) ws ({ frames := 0, cells := 0, slots := 0, locals := 0 } : Room) ({ frames := 0, cells := 0, slots := 0, locals := 0 } : Room).cells ({ frames := 0, cells := 0, slots := 0, locals := 0 } : Room).slots Z #[(.ref a1), (.int (0 : Int32))] h0 n0 (Q31 Z a1 x0 w_EMPTY_ELEMENTDATA w_DEFAULTCAPACITY_EMPTY_ELEMENTDATA w_EMPTY w_EMPTY_LIST k_w_EMPTY_ELEMENTDATA k_w_DEFAULTCAPACITY_EMPTY_ELEMENTDATA w_mir w_els k_els h0 n0) := by
  refine Meets.of (F := fun m => mkF m 0 #[.val (.ref a1), .val (.int (0 : Int32))] []) (plainFor_of_name pn_10) (fun m => ef_31 m a1) ?_
  intro p e s m below meth c T0 hx hby hml hown0 hnm hret hlk hZ X0 e0
  have hown : s.vm.findClass "java/util/ImmutableCollections$List12" = some m.cls := hown0
  have N0 := Fr.nil n0
  obtain ⟨z0, z1, z2, z3, z4, z5, z6, z7, z8, z9, z10, z11, zm, z13, z14, -⟩ := SF
  show Goes _ _ _ _ _ _ (T0.setTop (mkF m 0 #[.val (.ref a1), .val (.int (0 : Int32))] []))
  refine own_iloadN X0 hx (hb hby d31_0) rfl ?_
  refine own_ifNo X0 hx (hb hby d31_1) ((if0 _ _).trans (teq (by decide : (0 : Int32) = (0 : Int32))).2) ?_
  refine own_aloadN X0 hx (hb hby d31_4) rfl rfl ?_
  refine own_getF X0 hx hZ hown (host := "") (Or.inl (hw _ (List.mem_of_getElem? (i := 180) rfl))) Via.refl e0 f0 (hb hby d31_5) (fun T1 X1 e1 => ?_)
  show Goes _ _ _ _ _ _ (T1.setTop (mkF m 8 #[.val (.ref a1), .val (.int (0 : Int32))] [(.ref x0)]))
  exact own_retR X1 hx N0 hlk (by decide) (by decide) hret rfl rfl rfl (hb hby d31_8) (by rw [e1]; exact ⟨rfl, rfl⟩)
theorem d30_0 : decode prog_66_method_2_code 0 = .ok (.aload_n 0, 1) := by decide +kernel
theorem d30_1 : decode prog_66_method_2_code 1 = .ok (.getfield 24, 3) := by decide +kernel
theorem d30_4 : decode prog_66_method_2_code 4 = .ok (.iconst 0, 1) := by decide +kernel
theorem d30_5 : decode prog_66_method_2_code 5 = .ok (.invokeinterface 53 2, 5) := by decide +kernel
theorem pd_15 : parseMethodDescriptor "(I)Ljava/lang/Object;" = some ⟨[.int], some (.object "java/lang/Object")⟩ := by decide +kernel
theorem d30_10 : decode prog_66_method_2_code 10 = .ok (.checkcast 57, 3) := by decide +kernel
theorem d30_13 : decode prog_66_method_2_code 13 = .ok (.areturn, 1) := by decide +kernel
def Q30 (Z : State) (a1 : Addr) (t : Addr) (x0 : Addr) (w_EMPTY_ELEMENTDATA : Addr) (w_DEFAULTCAPACITY_EMPTY_ELEMENTDATA : Addr) (w_EMPTY : Addr) (w_EMPTY_LIST : Addr) (k_w_EMPTY_ELEMENTDATA : ClassId) (k_w_DEFAULTCAPACITY_EMPTY_ELEMENTDATA : ClassId) (w_mir : Addr) (w_els : Addr) (k_els : ClassId) (h0 : Heap) (n0 : Nat) (v : Option Value) (h : Heap) : Prop :=
  (v = some (.ref x0) ∧ h = h0)
theorem ef_30 (m : MethodId) (a1 : Addr) : entryFrame m #[(.ref a1)] 1 = mkF m 0 #[.val (.ref a1)] [] := by first | (simp [entryFrame, mkF, argsToLocals, Value.category]; done) | rfl
set_option maxRecDepth 65536 in
set_option maxHeartbeats 40000000 in
theorem rm30 (l : Launch) (Z : State) (a0 : Array Value) (hw : ∀ d ∈ tables_1, d.before a0 Z = true) (ws : List Jvm.Cond) (a1 : Addr) (t : Addr) (x0 : Addr) (w_EMPTY_ELEMENTDATA : Addr) (w_DEFAULTCAPACITY_EMPTY_ELEMENTDATA : Addr) (w_EMPTY : Addr) (w_EMPTY_LIST : Addr) (k_w_EMPTY_ELEMENTDATA : ClassId) (k_w_DEFAULTCAPACITY_EMPTY_ELEMENTDATA : ClassId) (w_mir : Addr) (w_els : Addr) (k_els : ClassId) (h0 : Heap) (n0 : Nat) (O0 : Old Z n0 h0) (SF : Start Z w_EMPTY_ELEMENTDATA w_DEFAULTCAPACITY_EMPTY_ELEMENTDATA w_EMPTY w_EMPTY_LIST k_w_EMPTY_ELEMENTDATA k_w_DEFAULTCAPACITY_EMPTY_ELEMENTDATA w_mir w_els k_els) (f0 : Fld Z h0 a1 "com/example/gantry/gantry/resolver/Resolution" "descriptors" "Ljava/util/List;" (.ref t)) (f1 : Exa Z h0 t "java/util/ImmutableCollections$List12") (f2 : Fld Z h0 t "java/util/ImmutableCollections$List12" "e0" "Ljava/lang/Object;" (.ref x0)) (f3 : Exa Z h0 x0 "com/example/gantry/gantry/resolver/LocalCopy") :
    Meets l (⟨"com/example/gantry/gantry/resolver/Resolution", "application", "()Lcom/example/gantry/gantry/resolver/LocalCopy;"⟩ : MethodName) prog_66_method_2_code 1 (some (.object "com/example/gantry/gantry/resolver/LocalCopy")) ws ({ frames := 1, cells := 0, slots := 0, locals := 13 } : Room) ({ frames := 1, cells := 0, slots := 0, locals := 13 } : Room).cells ({ frames := 1, cells := 0, slots := 0, locals := 13 } : Room).slots Z #[(.ref a1)] h0 n0 (Q30 Z a1 t x0 w_EMPTY_ELEMENTDATA w_DEFAULTCAPACITY_EMPTY_ELEMENTDATA w_EMPTY w_EMPTY_LIST k_w_EMPTY_ELEMENTDATA k_w_DEFAULTCAPACITY_EMPTY_ELEMENTDATA w_mir w_els k_els h0 n0) := by
  refine Meets.of (F := fun m => mkF m 0 #[.val (.ref a1)] []) (plainFor_of_name pn_14) (fun m => ef_30 m a1) ?_
  intro p e s m below meth c T0 hx hby hml hown0 hnm hret hlk hZ X0 e0
  have hown : s.vm.findClass "com/example/gantry/gantry/resolver/Resolution" = some m.cls := hown0
  have N0 := Fr.nil n0
  obtain ⟨z0, z1, z2, z3, z4, z5, z6, z7, z8, z9, z10, z11, zm, z13, z14, -⟩ := SF
  show Goes _ _ _ _ _ _ (T0.setTop (mkF m 0 #[.val (.ref a1)] []))
  refine own_aloadN X0 hx (hb hby d30_0) rfl rfl ?_
  refine own_getF X0 hx hZ hown (host := "") (Or.inl (hw _ (List.mem_of_getElem? (i := 198) rfl))) Via.refl e0 f0 (hb hby d30_1) (fun T1 X1 e1 => ?_)
  refine own_iconst X1 hx (v := (0 : Int32)) (hb hby d30_4) rfl ?_
  refine own_iface X1 hx hZ hown (y := (⟨"java/util/List", "get", "(I)Ljava/lang/Object;"⟩ : MethodName)) (z := (⟨"java/util/ImmutableCollections$List12", "get", "(I)Ljava/lang/Object;"⟩ : MethodName)) (hw _ (List.mem_of_getElem? (i := 230) rfl)) (hw _ (List.mem_of_getElem? (i := 231) rfl)) (hw _ (List.mem_of_getElem? (i := 232) rfl)) (hw _ (List.mem_of_getElem? (i := 233) rfl)) (hw _ (List.mem_of_getElem? (i := 234) rfl)) (hw _ (List.mem_of_getElem? (i := 235) rfl)) (hw _ (List.mem_of_getElem? (i := 236) rfl)) (hw _ (List.mem_of_getElem? (i := 196) rfl)) (hw _ (List.mem_of_getElem? (i := 157) rfl)) (hw _ (List.mem_of_getElem? (i := 237) rfl)) (a := t) f1 (by decide) (W := 0) (by decide) (by decide) N0 e1 (by rw [hml]; rfl) (argsL := [(.int (0 : Int32))]) (rest := []) (lenOf pd_15 rfl) (Nat.le_of_eq rfl) (by decide) (by decide) (rm31 l Z a0 hw [] t x0 w_EMPTY_ELEMENTDATA w_DEFAULTCAPACITY_EMPTY_ELEMENTDATA w_EMPTY w_EMPTY_LIST k_w_EMPTY_ELEMENTDATA k_w_DEFAULTCAPACITY_EMPTY_ELEMENTDATA w_mir w_els k_els h0 n0 O0 ⟨z0, z1, z2, z3, z4, z5, z6, z7, z8, z9, z10, z11, zm, z13, z14, trivial⟩ f2) rfl (hb hby d30_5) ?_
  intro v2 T2 lc2 X2 N2 hQ2
  obtain ⟨rfl, e2⟩ := hQ2
  refine own_castY X2 hx hZ hown (hw _ (List.mem_of_getElem? (i := 238) rfl)) e2 (Ins.self f3) (hb hby d30_10) (fun T3 X3 e3 => ?_)
  show Goes _ _ _ _ _ _ (T3.setTop (mkF m 13 #[.val (.ref a1)] [(.ref x0)]))
  exact own_retR X3 hx N2 hlk (by decide) (by decide) hret rfl rfl rfl (hb hby d30_13) (by rw [e3]; exact ⟨rfl, rfl⟩)
def Q132 (Z : State) (a1 : Addr) (a2 : Addr) (a4 : Addr) (p5 : Int32) (a6 : Addr) (a7 : Addr) (a8 : Addr) (a9 : Addr) (b : Addr) (k : ClassId) (x0 : Addr) (x1 : Addr) (jb : Addr) (jk : ClassId) (j0 : Addr) (u0 : Value) (u1 : Value) (u2 : Value) (u3 : Value) (u4 : Value) (u5 : Value) (u6 : Value) (u7 : Value) (w_EMPTY_ELEMENTDATA : Addr) (w_DEFAULTCAPACITY_EMPTY_ELEMENTDATA : Addr) (w_EMPTY : Addr) (w_EMPTY_LIST : Addr) (k_w_EMPTY_ELEMENTDATA : ClassId) (k_w_DEFAULTCAPACITY_EMPTY_ELEMENTDATA : ClassId) (w_mir : Addr) (w_els : Addr) (k_els : ClassId) (h0 : Heap) (n0 : Nat) (v : Option Value) (h : Heap) : Prop :=
  (∃ (t : Addr), v = none ∧ Keep h0 h [a1] ∧ Exa Z h a1 "com/example/gantry/gantry/resolver/Resolution" ∧ Fld Z h a1 "com/example/gantry/gantry/resolver/Resolution" "descriptors" "Ljava/util/List;" (.ref t) ∧ Exa Z h t "java/util/ImmutableCollections$List12" ∧ Fld Z h t "java/util/ImmutableCollections$List12" "e0" "Ljava/lang/Object;" (.ref x0) ∧ Fld Z h t "java/util/ImmutableCollections$List12" "e1" "Ljava/lang/Object;" (.ref x1) ∧ h0.size ≤ t)
theorem ef_132 (m : MethodId) (a1 : Addr) (a2 : Addr) (a4 : Addr) (p5 : Int32) (a6 : Addr) (a7 : Addr) (a8 : Addr) (a9 : Addr) : entryFrame m #[(.ref a1), (.ref a2), .null, (.ref a4), (.int p5), (.ref a6), (.ref a7), (.ref a8), (.ref a9)] 9 = mkF m 0 #[.val (.ref a1), .val (.ref a2), .val .null, .val (.ref a4), .val (.int p5), .val (.ref a6), .val (.ref a7), .val (.ref a8), .val (.ref a9)] [] := by first | (simp [entryFrame, mkF, argsToLocals, Value.category]; done) | rfl
set_option maxRecDepth 65536 in
set_option maxHeartbeats 40000000 in
theorem rm132 (l : Launch) (Z : State) (a0 : Array Value) (hw : ∀ d ∈ tables_1, d.before a0 Z = true) (ws : List Jvm.Cond) (a1 : Addr) (a2 : Addr) (a4 : Addr) (p5 : Int32) (a6 : Addr) (a7 : Addr) (a8 : Addr) (a9 : Addr) (b : Addr) (k : ClassId) (x0 : Addr) (x1 : Addr) (jb : Addr) (jk : ClassId) (j0 : Addr) (u0 : Value) (u1 : Value) (u2 : Value) (u3 : Value) (u4 : Value) (u5 : Value) (u6 : Value) (u7 : Value) (w_EMPTY_ELEMENTDATA : Addr) (w_DEFAULTCAPACITY_EMPTY_ELEMENTDATA : Addr) (w_EMPTY : Addr) (w_EMPTY_LIST : Addr) (k_w_EMPTY_ELEMENTDATA : ClassId) (k_w_DEFAULTCAPACITY_EMPTY_ELEMENTDATA : ClassId) (w_mir : Addr) (w_els : Addr) (k_els : ClassId) (h0 : Heap) (n0 : Nat) (O0 : Old Z n0 h0) (SF : Start Z w_EMPTY_ELEMENTDATA w_DEFAULTCAPACITY_EMPTY_ELEMENTDATA w_EMPTY w_EMPTY_LIST k_w_EMPTY_ELEMENTDATA k_w_DEFAULTCAPACITY_EMPTY_ELEMENTDATA w_mir w_els k_els) (f0 : Exa Z h0 a1 "com/example/gantry/gantry/resolver/Resolution") (f1 : Fld Z h0 a1 "com/example/gantry/gantry/resolver/Resolution" "descriptors" "Ljava/util/List;" u0) (f2 : Fld Z h0 a1 "com/example/gantry/gantry/resolver/Resolution" "mainClass" "Ljava/util/Optional;" u1) (f3 : Fld Z h0 a1 "com/example/gantry/gantry/resolver/Resolution" "arguments" "Ljava/util/List;" u2) (f4 : Fld Z h0 a1 "com/example/gantry/gantry/resolver/Resolution" "allPermissions" "Z" u3) (f5 : Fld Z h0 a1 "com/example/gantry/gantry/resolver/Resolution" "javaRequests" "Ljava/util/List;" u4) (f6 : Fld Z h0 a1 "com/example/gantry/gantry/resolver/Resolution" "jars" "Ljava/util/List;" u5) (f7 : Fld Z h0 a1 "com/example/gantry/gantry/resolver/Resolution" "nativeLibraries" "Ljava/util/List;" u6) (f8 : Fld Z h0 a1 "com/example/gantry/gantry/resolver/Resolution" "properties" "Ljava/util/List;" u7) (f9 : n0 ≤ a1) (f10 : Exa Z h0 a2 "java/util/ArrayList") (f11 : Fld Z h0 a2 "java/util/ArrayList" "elementData" "[Ljava/lang/Object;" (.ref b)) (f12 : Fld Z h0 a2 "java/util/ArrayList" "size" "I" (.int (((0 : Int32) + (1 : Int32)) + (1 : Int32)))) (f13 : Arv Z h0 b k (.object "java/lang/Object") (10 : Int32) [(.ref x0), (.ref x1), .null, .null, .null, .null, .null, .null, .null, .null] .null) (f14 : Exa Z h0 b "[Ljava/lang/Object;") (f15 : Exa Z h0 x0 "com/example/gantry/gantry/resolver/LocalCopy") (f16 : Exa Z h0 x1 "com/example/gantry/gantry/resolver/LocalCopy") (f17 : Exa Z h0 a4 "java/util/ArrayList") (f18 : Fld Z h0 a4 "java/util/ArrayList" "size" "I" (.int (0 : Int32))) (f19 : Exa Z h0 a6 "java/util/ArrayList") (f20 : Fld Z h0 a6 "java/util/ArrayList" "size" "I" (.int (0 : Int32))) (f21 : Exa Z h0 a7 "java/util/ArrayList") (f22 : Fld Z h0 a7 "java/util/ArrayList" "elementData" "[Ljava/lang/Object;" (.ref jb)) (f23 : Fld Z h0 a7 "java/util/ArrayList" "size" "I" (.int ((0 : Int32) + (1 : Int32)))) (f24 : Arv Z h0 jb jk (.object "java/lang/Object") (10 : Int32) [(.ref j0), .null, .null, .null, .null, .null, .null, .null, .null, .null] .null) (f25 : Exa Z h0 jb "[Ljava/lang/Object;") (f26 : Exa Z h0 j0 "com/example/gantry/gantry/resolver/Resolution$Jar") (f27 : Exa Z h0 a8 "java/util/ArrayList") (f28 : Fld Z h0 a8 "java/util/ArrayList" "size" "I" (.int (0 : Int32))) (f29 : Exa Z h0 a9 "java/util/ArrayList") (f30 : Fld Z h0 a9 "java/util/ArrayList" "size" "I" (.int (0 : Int32))) (nb_p5 : narrow .boolean (.int p5) = .int p5 ∧ fits .boolean (.int p5) = true) (f32 : a1 ≠ b) (f33 : a1 ≠ jb) (f34 : a1 ≠ a2) (f35 : a1 ≠ a7) (f36 : a1 ≠ a4) (f37 : a1 ≠ a6) (f38 : a1 ≠ a8) (f39 : a1 ≠ a9) :
    Meets l (⟨"com/example/gantry/gantry/resolver/Resolution", "<init>", "(Ljava/util/List;Ljava/util/Optional;Ljava/util/List;ZLjava/util/List;Ljava/util/List;Ljava/util/List;Ljava/util/List;)V"⟩ : MethodName) prog_66_method_1_code 9 none ws ({ frames := 8, cells := 4, slots := 7, locals := 101 } : Room) ({ frames := 8, cells := 4, slots := 7, locals := 101 } : Room).cells ({ frames := 8, cells := 4, slots := 7, locals := 101 } : Room).slots Z #[(.ref a1), (.ref a2), .null, (.ref a4), (.int p5), (.ref a6), (.ref a7), (.ref a8), (.ref a9)] h0 n0 (Q132 Z a1 a2 a4 p5 a6 a7 a8 a9 b k x0 x1 jb jk j0 u0 u1 u2 u3 u4 u5 u6 u7 w_EMPTY_ELEMENTDATA w_DEFAULTCAPACITY_EMPTY_ELEMENTDATA w_EMPTY w_EMPTY_LIST k_w_EMPTY_ELEMENTDATA k_w_DEFAULTCAPACITY_EMPTY_ELEMENTDATA w_mir w_els k_els h0 n0) := by
  refine Meets.of (F := fun m => mkF m 0 #[.val (.ref a1), .val (.ref a2), .val .null, .val (.ref a4), .val (.int p5), .val (.ref a6), .val (.ref a7), .val (.ref a8), .val (.ref a9)] []) (plainFor_of_name pn_14) (fun m => ef_132 m a1 a2 a4 p5 a6 a7 a8 a9) ?_
  intro p e s m below meth c T0 hx hby hml hown0 hnm hret hlk hZ X0 e0
  have hown : s.vm.findClass "com/example/gantry/gantry/resolver/Resolution" = some m.cls := hown0
  have N0 := Fr.nil n0
  have KC0 := Keep.refl h0 [a1]
  obtain ⟨z0, z1, z2, z3, z4, z5, z6, z7, z8, z9, z10, z11, zm, z13, z14, -⟩ := SF
  show Goes _ _ _ _ _ _ (T0.setTop (mkF m 0 #[.val (.ref a1), .val (.ref a2), .val .null, .val (.ref a4), .val (.int p5), .val (.ref a6), .val (.ref a7), .val (.ref a8), .val (.ref a9)] []))
  refine own_aloadN X0 hx (hb hby d13_0) rfl rfl ?_
  refine own_special X0 hx hZ hown (y := (⟨"java/lang/Record", "<init>", "()V"⟩ : MethodName)) rfl (hw _ (List.mem_of_getElem? (i := 98) rfl)) (hw _ (List.mem_of_getElem? (i := 9) rfl)) (hw _ (List.mem_of_getElem? (i := 11) rfl)) (hw _ (List.mem_of_getElem? (i := 12) rfl)) (a := a1) (by decide) (W := 0) (by decide) (by decide) N0 e0 (by rw [hml]; rfl) (argsL := []) (rest := []) (lenOf pd_0 rfl) (Nat.le_of_eq rfl) (by decide) (by decide) (rm2 l Z a0 hw [] a1 h0 n0 O0) rfl (hb hby d13_1) ?_
  intro v1 T1 lc1 X1 N1 hQ1
  obtain ⟨rfl, e1⟩ := hQ1
  refine own_aloadN X1 hx (hb hby d13_4) rfl rfl ?_
  refine own_callS X1 hx hZ hown (y := (⟨"java/util/List", "copyOf", "(Ljava/util/Collection;)Ljava/util/List;"⟩ : MethodName)) (hw _ (List.mem_of_getElem? (i := 99) rfl)) (hw _ (List.mem_of_getElem? (i := 100) rfl)) (hw _ (List.mem_of_getElem? (i := 101) rfl)) (hw _ (List.mem_of_getElem? (i := 102) rfl)) (by decide) (W := 0) (by decide) (by decide) N1 e1 (by rw [hml]; rfl) (argsL := [(.ref a2)]) (rest := []) (lenOf pd_11 rfl) (Nat.le_of_eq rfl) (by decide) (by decide) (rm142 l Z a0 hw [] a2 b k x0 x1 w_EMPTY_ELEMENTDATA w_DEFAULTCAPACITY_EMPTY_ELEMENTDATA w_EMPTY w_EMPTY_LIST k_w_EMPTY_ELEMENTDATA k_w_DEFAULTCAPACITY_EMPTY_ELEMENTDATA w_mir w_els k_els h0 n0 O0 ⟨z0, z1, z2, z3, z4, z5, z6, z7, z8, z9, z10, z11, zm, z13, z14, trivial⟩ f10 f11 f12 f13 f14 f15 f16) rfl (hb hby d13_5) ?_
  intro v2 T2 lc2 X2 N2 hQ2
  obtain ⟨t_2, rfl, K2, r2_0, r2_1, r2_2, r2_3⟩ := hQ2
  have E3_a1 := f0.keep K2
  have E3_a4 := f17.keep K2
  have E3_a6 := f19.keep K2
  have E3_a7 := f21.keep K2
  have E3_jb := f25.keep K2
  have E3_j0 := f26.keep K2
  have E3_a8 := f27.keep K2
  have E3_a9 := f29.keep K2
  have F3_descriptors_a1 := f1.keep K2 nin0
  have F3_mainClass_a1 := f2.keep K2 nin0
  have F3_arguments_a1 := f3.keep K2 nin0
  have F3_allPermissions_a1 := f4.keep K2 nin0
  have F3_javaRequests_a1 := f5.keep K2 nin0
  have F3_jars_a1 := f6.keep K2 nin0
  have F3_nativeLibraries_a1 := f7.keep K2 nin0
  have F3_properties_a1 := f8.keep K2 nin0
  have F3_size_a4 := f18.keep K2 nin0
  have F3_size_a6 := f20.keep K2 nin0
  have F3_elementData_a7 := f22.keep K2 nin0
  have F3_size_a7 := f23.keep K2 nin0
  have F3_size_a8 := f28.keep K2 nin0
  have F3_size_a9 := f30.keep K2 nin0
  have A3_jb := f24.keep K2 nin0
  have O3 := O0.keep K2 all0
  have KC3 := KC0.trans K2 all0
  have ne_a1_t_2 : a1 ≠ t_2 := Nat.ne_of_lt (Nat.lt_of_lt_of_le f0.lt r2_3)
  have ge_t_2 : n0 ≤ t_2 := Nat.le_trans (own_sz O0) r2_3
  have sz_t_2 : h0.size ≤ t_2 := Nat.le_trans KC0.1 r2_3
  refine own_astoreN X2 hx (Ls' := #[.val (.ref a1), .val (.ref t_2), .val .null, .val (.ref a4), .val (.int p5), .val (.ref a6), .val (.ref a7), .val (.ref a8), .val (.ref a9)]) (hb hby d13_8) rfl rfl ?_
  refine own_aloadN X2 hx (hb hby d13_9) rfl rfl ?_
  refine own_callS X2 hx hZ hown (y := (⟨"java/util/List", "copyOf", "(Ljava/util/Collection;)Ljava/util/List;"⟩ : MethodName)) (hw _ (List.mem_of_getElem? (i := 99) rfl)) (hw _ (List.mem_of_getElem? (i := 100) rfl)) (hw _ (List.mem_of_getElem? (i := 101) rfl)) (hw _ (List.mem_of_getElem? (i := 102) rfl)) (by decide) (W := 0) (by decide) (by decide) N2 rfl (by rw [hml]; rfl) (argsL := [(.ref a4)]) (rest := []) (lenOf pd_11 rfl) (Nat.le_of_eq rfl) (by decide) (by decide) (rm14e l Z a0 hw [] a4 w_EMPTY_ELEMENTDATA w_DEFAULTCAPACITY_EMPTY_ELEMENTDATA w_EMPTY w_EMPTY_LIST k_w_EMPTY_ELEMENTDATA k_w_DEFAULTCAPACITY_EMPTY_ELEMENTDATA w_mir w_els k_els T2.heap n0 O3 ⟨z0, z1, z2, z3, z4, z5, z6, z7, z8, z9, z10, z11, zm, z13, z14, trivial⟩ E3_a4 F3_size_a4) rfl (hb hby d13_10) ?_
  intro v4 T4 lc4 X4 N4 hQ4
  obtain ⟨rfl, e4⟩ := hQ4
  refine own_astoreN X4 hx (Ls' := #[.val (.ref a1), .val (.ref t_2), .val .null, .val (.ref w_EMPTY_LIST), .val (.int p5), .val (.ref a6), .val (.ref a7), .val (.ref a8), .val (.ref a9)]) (hb hby d13_13) rfl rfl ?_
  refine own_aload X4 hx (hb hby d13_14) rfl rfl ?_
  refine own_callS X4 hx hZ hown (y := (⟨"java/util/List", "copyOf", "(Ljava/util/Collection;)Ljava/util/List;"⟩ : MethodName)) (hw _ (List.mem_of_getElem? (i := 99) rfl)) (hw _ (List.mem_of_getElem? (i := 100) rfl)) (hw _ (List.mem_of_getElem? (i := 101) rfl)) (hw _ (List.mem_of_getElem? (i := 102) rfl)) (by decide) (W := 0) (by decide) (by decide) N4 e4 (by rw [hml]; rfl) (argsL := [(.ref a6)]) (rest := []) (lenOf pd_11 rfl) (Nat.le_of_eq rfl) (by decide) (by decide) (rm14e l Z a0 hw [] a6 w_EMPTY_ELEMENTDATA w_DEFAULTCAPACITY_EMPTY_ELEMENTDATA w_EMPTY w_EMPTY_LIST k_w_EMPTY_ELEMENTDATA k_w_DEFAULTCAPACITY_EMPTY_ELEMENTDATA w_mir w_els k_els T2.heap n0 O3 ⟨z0, z1, z2, z3, z4, z5, z6, z7, z8, z9, z10, z11, zm, z13, z14, trivial⟩ E3_a6 F3_size_a6) rfl (hb hby d13_16) ?_
  intro v5 T5 lc5 X5 N5 hQ5
  obtain ⟨rfl, e5⟩ := hQ5
  refine own_astore X5 hx (Ls' := #[.val (.ref a1), .val (.ref t_2), .val .null, .val (.ref w_EMPTY_LIST), .val (.int p5), .val (.ref w_EMPTY_LIST), .val (.ref a7), .val (.ref a8), .val (.ref a9)]) (hb hby d13_19) rfl rfl ?_
  refine own_aload X5 hx (hb hby d13_21) rfl rfl ?_
  refine own_callS X5 hx hZ hown (y := (⟨"java/util/List", "copyOf", "(Ljava/util/Collection;)Ljava/util/List;"⟩ : MethodName)) (hw _ (List.mem_of_getElem? (i := 99) rfl)) (hw _ (List.mem_of_getElem? (i := 100) rfl)) (hw _ (List.mem_of_getElem? (i := 101) rfl)) (hw _ (List.mem_of_getElem? (i := 102) rfl)) (by decide) (W := 0) (by decide) (by decide) N5 e5 (by rw [hml]; rfl) (argsL := [(.ref a7)]) (rest := []) (lenOf pd_11 rfl) (Nat.le_of_eq rfl) (by decide) (by decide) (rm14J l Z a0 hw [] a7 jb jk j0 w_EMPTY_ELEMENTDATA w_DEFAULTCAPACITY_EMPTY_ELEMENTDATA w_EMPTY w_EMPTY_LIST k_w_EMPTY_ELEMENTDATA k_w_DEFAULTCAPACITY_EMPTY_ELEMENTDATA w_mir w_els k_els T2.heap n0 O3 ⟨z0, z1, z2, z3, z4, z5, z6, z7, z8, z9, z10, z11, zm, z13, z14, trivial⟩ E3_a7 F3_elementData_a7 F3_size_a7 A3_jb E3_jb E3_j0) rfl (hb hby d13_23) ?_
  intro v6 T6 lc6 X6 N6 hQ6
  obtain ⟨t_6, rfl, K6, r6_0, r6_1, r6_2, r6_3⟩ := hQ6
  have E7_a1 := E3_a1.keep K6
  have E7_a8 := E3_a8.keep K6
  have E7_a9 := E3_a9.keep K6
  have E7_t_2 := r2_0.keep K6
  have F7_descriptors_a1 := F3_descriptors_a1.keep K6 nin0
  have F7_mainClass_a1 := F3_mainClass_a1.keep K6 nin0
  have F7_arguments_a1 := F3_arguments_a1.keep K6 nin0
  have F7_allPermissions_a1 := F3_allPermissions_a1.keep K6 nin0
  have F7_javaRequests_a1 := F3_javaRequests_a1.keep K6 nin0
  have F7_jars_a1 := F3_jars_a1.keep K6 nin0
  have F7_nativeLibraries_a1 := F3_nativeLibraries_a1.keep K6 nin0
  have F7_properties_a1 := F3_properties_a1.keep K6 nin0
  have F7_size_a8 := F3_size_a8.keep K6 nin0
  have F7_size_a9 := F3_size_a9.keep K6 nin0
  have F7_e0_t_2 := r2_1.keep K6 nin0
  have F7_e1_t_2 := r2_2.keep K6 nin0
  have O7 := O3.keep K6 all0
  have KC7 := KC3.trans K6 all0
  have ge_t_6 : n0 ≤ t_6 := Nat.le_trans (own_sz O3) r6_3
  have sz_t_6 : h0.size ≤ t_6 := Nat.le_trans KC3.1 r6_3
  refine own_astore X6 hx (Ls' := #[.val (.ref a1), .val (.ref t_2), .val .null, .val (.ref w_EMPTY_LIST), .val (.int p5), .val (.ref w_EMPTY_LIST), .val (.ref t_6), .val (.ref a8), .val (.ref a9)]) (hb hby d13_26) rfl rfl ?_
  refine own_aload X6 hx (hb hby d13_28) rfl rfl ?_
  refine own_callS X6 hx hZ hown (y := (⟨"java/util/List", "copyOf", "(Ljava/util/Collection;)Ljava/util/List;"⟩ : MethodName)) (hw _ (List.mem_of_getElem? (i := 99) rfl)) (hw _ (List.mem_of_getElem? (i := 100) rfl)) (hw _ (List.mem_of_getElem? (i := 101) rfl)) (hw _ (List.mem_of_getElem? (i := 102) rfl)) (by decide) (W := 0) (by decide) (by decide) N6 rfl (by rw [hml]; rfl) (argsL := [(.ref a8)]) (rest := []) (lenOf pd_11 rfl) (Nat.le_of_eq rfl) (by decide) (by decide) (rm14e l Z a0 hw [] a8 w_EMPTY_ELEMENTDATA w_DEFAULTCAPACITY_EMPTY_ELEMENTDATA w_EMPTY w_EMPTY_LIST k_w_EMPTY_ELEMENTDATA k_w_DEFAULTCAPACITY_EMPTY_ELEMENTDATA w_mir w_els k_els T6.heap n0 O7 ⟨z0, z1, z2, z3, z4, z5, z6, z7, z8, z9, z10, z11, zm, z13, z14, trivial⟩ E7_a8 F7_size_a8) rfl (hb hby d13_30) ?_
  intro v8 T8 lc8 X8 N8 hQ8
  obtain ⟨rfl, e8⟩ := hQ8
  refine own_astore X8 hx (Ls' := #[.val (.ref a1), .val (.ref t_2), .val .null, .val (.ref w_EMPTY_LIST), .val (.int p5), .val (.ref w_EMPTY_LIST), .val (.ref t_6), .val (.ref w_EMPTY_LIST), .val (.ref a9)]) (hb hby d13_33) rfl rfl ?_
  refine own_aload X8 hx (hb hby d13_35) rfl rfl ?_
  refine own_callS X8 hx hZ hown (y := (⟨"java/util/List", "copyOf", "(Ljava/util/Collection;)Ljava/util/List;"⟩ : MethodName)) (hw _ (List.mem_of_getElem? (i := 99) rfl)) (hw _ (List.mem_of_getElem? (i := 100) rfl)) (hw _ (List.mem_of_getElem? (i := 101) rfl)) (hw _ (List.mem_of_getElem? (i := 102) rfl)) (by decide) (W := 0) (by decide) (by decide) N8 e8 (by rw [hml]; rfl) (argsL := [(.ref a9)]) (rest := []) (lenOf pd_11 rfl) (Nat.le_of_eq rfl) (by decide) (by decide) (rm14e l Z a0 hw [] a9 w_EMPTY_ELEMENTDATA w_DEFAULTCAPACITY_EMPTY_ELEMENTDATA w_EMPTY w_EMPTY_LIST k_w_EMPTY_ELEMENTDATA k_w_DEFAULTCAPACITY_EMPTY_ELEMENTDATA w_mir w_els k_els T6.heap n0 O7 ⟨z0, z1, z2, z3, z4, z5, z6, z7, z8, z9, z10, z11, zm, z13, z14, trivial⟩ E7_a9 F7_size_a9) rfl (hb hby d13_37) ?_
  intro v9 T9 lc9 X9 N9 hQ9
  obtain ⟨rfl, e9⟩ := hQ9
  refine own_astore X9 hx (Ls' := #[.val (.ref a1), .val (.ref t_2), .val .null, .val (.ref w_EMPTY_LIST), .val (.int p5), .val (.ref w_EMPTY_LIST), .val (.ref t_6), .val (.ref w_EMPTY_LIST), .val (.ref w_EMPTY_LIST)]) (hb hby d13_40) rfl rfl ?_
  refine own_aloadN X9 hx (hb hby d13_42) rfl rfl ?_
  refine own_iface X9 hx hZ hown (y := (⟨"java/util/List", "isEmpty", "()Z"⟩ : MethodName)) (z := (⟨"java/util/ImmutableCollections$List12", "isEmpty", "()Z"⟩ : MethodName)) (hw _ (List.mem_of_getElem? (i := 189) rfl)) (hw _ (List.mem_of_getElem? (i := 190) rfl)) (hw _ (List.mem_of_getElem? (i := 191) rfl)) (hw _ (List.mem_of_getElem? (i := 192) rfl)) (hw _ (List.mem_of_getElem? (i := 193) rfl)) (hw _ (List.mem_of_getElem? (i := 194) rfl)) (hw _ (List.mem_of_getElem? (i := 195) rfl)) (hw _ (List.mem_of_getElem? (i := 196) rfl)) (hw _ (List.mem_of_getElem? (i := 157) rfl)) (hw _ (List.mem_of_getElem? (i := 197) rfl)) (a := t_2) E7_t_2 (by decide) (W := 0) (by decide) (by decide) N9 e9 (by rw [hml]; rfl) (argsL := []) (rest := []) (lenOf pd_9 rfl) (Nat.le_of_eq rfl) (by decide) (by decide) (rm27 l Z a0 hw [] t_2 T6.heap n0 O7) rfl (hb hby d13_43) ?_
  intro v10 T10 lc10 X10 N10 hQ10
  obtain ⟨rfl, e10⟩ := hQ10
  refine own_ifNo X10 hx (hb hby d13_48) ((if0 _ _).trans (teq (by decide : (0 : Int32) = (0 : Int32))).2) ?_
  refine own_aload X10 hx (hb hby d13_51) rfl rfl ?_
  refine own_iface X10 hx hZ hown (y := (⟨"java/util/List", "isEmpty", "()Z"⟩ : MethodName)) (z := (⟨"java/util/ImmutableCollections$List12", "isEmpty", "()Z"⟩ : MethodName)) (hw _ (List.mem_of_getElem? (i := 189) rfl)) (hw _ (List.mem_of_getElem? (i := 190) rfl)) (hw _ (List.mem_of_getElem? (i := 191) rfl)) (hw _ (List.mem_of_getElem? (i := 192) rfl)) (hw _ (List.mem_of_getElem? (i := 193) rfl)) (hw _ (List.mem_of_getElem? (i := 194) rfl)) (hw _ (List.mem_of_getElem? (i := 195) rfl)) (hw _ (List.mem_of_getElem? (i := 196) rfl)) (hw _ (List.mem_of_getElem? (i := 157) rfl)) (hw _ (List.mem_of_getElem? (i := 197) rfl)) (a := t_6) r6_0 (by decide) (W := 0) (by decide) (by decide) N10 e10 (by rw [hml]; rfl) (argsL := []) (rest := []) (lenOf pd_9 rfl) (Nat.le_of_eq rfl) (by decide) (by decide) (rm27 l Z a0 hw [] t_6 T6.heap n0 O7) rfl (hb hby d13_53) ?_
  intro v11 T11 lc11 X11 N11 hQ11
  obtain ⟨rfl, e11⟩ := hQ11
  refine own_ifYes X11 hx (pc' := 71) (hb hby d13_58) ((if0 _ _).trans (teq (by decide : (0 : Int32) = (0 : Int32))).1) (by decide) (by decide) ?_
  refine own_aloadN X11 hx (hb hby d13_71) rfl rfl ?_
  refine own_aloadN X11 hx (hb hby d13_72) rfl rfl ?_
  refine own_putF X11 hx hZ hown N11 (host := "") (Or.inl (hw _ (List.mem_of_getElem? (i := 198) rfl))) Via.refl e11 F7_descriptors_a1 E7_a1 (Or.inr ⟨(hw _ (List.mem_of_getElem? (i := 199) rfl)), rfl, hnm⟩) (hw _ (List.mem_of_getElem? (i := 93) rfl)) (ty := (.object "java/util/List")) (by decide) rfl rfl f9 (hb hby d13_73) (fun T12 h12 lc12 X12 e12 N12 W12 => ?_)
  have E13_a1 := E7_a1.wr W12
  have E13_t_2 := E7_t_2.wr W12
  have F13_descriptors_a1 := F7_descriptors_a1.same W12
  have F13_mainClass_a1 := F7_mainClass_a1.other W12 (Or.inr (slot_ne (Or.inr (hw _ (List.mem_of_getElem? (i := 201) rfl))) (Or.inr (hw _ (List.mem_of_getElem? (i := 199) rfl))) (by decide) (t := (.object "java/util/Optional")) (t' := (.object "java/util/List")) (by decide) (by decide)))
  have F13_arguments_a1 := F7_arguments_a1.other W12 (Or.inr (slot_ne (Or.inr (hw _ (List.mem_of_getElem? (i := 203) rfl))) (Or.inr (hw _ (List.mem_of_getElem? (i := 199) rfl))) (by decide) (t := (.object "java/util/List")) (t' := (.object "java/util/List")) (by decide) (by decide)))
  have F13_allPermissions_a1 := F7_allPermissions_a1.other W12 (Or.inr (slot_ne (Or.inr (hw _ (List.mem_of_getElem? (i := 205) rfl))) (Or.inr (hw _ (List.mem_of_getElem? (i := 199) rfl))) (by decide) (t := .boolean) (t' := (.object "java/util/List")) (by decide) (by decide)))
  have F13_javaRequests_a1 := F7_javaRequests_a1.other W12 (Or.inr (slot_ne (Or.inr (hw _ (List.mem_of_getElem? (i := 207) rfl))) (Or.inr (hw _ (List.mem_of_getElem? (i := 199) rfl))) (by decide) (t := (.object "java/util/List")) (t' := (.object "java/util/List")) (by decide) (by decide)))
  have F13_jars_a1 := F7_jars_a1.other W12 (Or.inr (slot_ne (Or.inr (hw _ (List.mem_of_getElem? (i := 209) rfl))) (Or.inr (hw _ (List.mem_of_getElem? (i := 199) rfl))) (by decide) (t := (.object "java/util/List")) (t' := (.object "java/util/List")) (by decide) (by decide)))
  have F13_nativeLibraries_a1 := F7_nativeLibraries_a1.other W12 (Or.inr (slot_ne (Or.inr (hw _ (List.mem_of_getElem? (i := 211) rfl))) (Or.inr (hw _ (List.mem_of_getElem? (i := 199) rfl))) (by decide) (t := (.object "java/util/List")) (t' := (.object "java/util/List")) (by decide) (by decide)))
  have F13_properties_a1 := F7_properties_a1.other W12 (Or.inr (slot_ne (Or.inr (hw _ (List.mem_of_getElem? (i := 213) rfl))) (Or.inr (hw _ (List.mem_of_getElem? (i := 199) rfl))) (by decide) (t := (.object "java/util/List")) (t' := (.object "java/util/List")) (by decide) (by decide)))
  have F13_e0_t_2 := F7_e0_t_2.other W12 (Or.inl (Ne.symm ne_a1_t_2))
  have F13_e1_t_2 := F7_e1_t_2.other W12 (Or.inl (Ne.symm ne_a1_t_2))
  have O13 := O7.wr W12 f9
  have KC13 := KC7.wr W12 (Or.inl (List.mem_of_getElem? (i := 0) rfl))
  refine own_aloadN X12 hx (hb hby d13_76) rfl rfl ?_
  refine own_aloadN X12 hx (hb hby d13_77) rfl rfl ?_
  refine own_putF X12 hx hZ hown N12 (host := "") (Or.inl (hw _ (List.mem_of_getElem? (i := 200) rfl))) Via.refl e12 F13_mainClass_a1 E13_a1 (Or.inr ⟨(hw _ (List.mem_of_getElem? (i := 201) rfl)), rfl, hnm⟩) (hw _ (List.mem_of_getElem? (i := 93) rfl)) (ty := (.object "java/util/Optional")) (by decide) rfl rfl f9 (hb hby d13_78) (fun T14 h14 lc14 X14 e14 N14 W14 => ?_)
  have E15_a1 := E13_a1.wr W14
  have E15_t_2 := E13_t_2.wr W14
  have F15_descriptors_a1 := F13_descriptors_a1.other W14 (Or.inr (slot_ne (Or.inr (hw _ (List.mem_of_getElem? (i := 199) rfl))) (Or.inr (hw _ (List.mem_of_getElem? (i := 201) rfl))) (by decide) (t := (.object "java/util/List")) (t' := (.object "java/util/Optional")) (by decide) (by decide)))
  have F15_arguments_a1 := F13_arguments_a1.other W14 (Or.inr (slot_ne (Or.inr (hw _ (List.mem_of_getElem? (i := 203) rfl))) (Or.inr (hw _ (List.mem_of_getElem? (i := 201) rfl))) (by decide) (t := (.object "java/util/List")) (t' := (.object "java/util/Optional")) (by decide) (by decide)))
  have F15_allPermissions_a1 := F13_allPermissions_a1.other W14 (Or.inr (slot_ne (Or.inr (hw _ (List.mem_of_getElem? (i := 205) rfl))) (Or.inr (hw _ (List.mem_of_getElem? (i := 201) rfl))) (by decide) (t := .boolean) (t' := (.object "java/util/Optional")) (by decide) (by decide)))
  have F15_javaRequests_a1 := F13_javaRequests_a1.other W14 (Or.inr (slot_ne (Or.inr (hw _ (List.mem_of_getElem? (i := 207) rfl))) (Or.inr (hw _ (List.mem_of_getElem? (i := 201) rfl))) (by decide) (t := (.object "java/util/List")) (t' := (.object "java/util/Optional")) (by decide) (by decide)))
  have F15_jars_a1 := F13_jars_a1.other W14 (Or.inr (slot_ne (Or.inr (hw _ (List.mem_of_getElem? (i := 209) rfl))) (Or.inr (hw _ (List.mem_of_getElem? (i := 201) rfl))) (by decide) (t := (.object "java/util/List")) (t' := (.object "java/util/Optional")) (by decide) (by decide)))
  have F15_nativeLibraries_a1 := F13_nativeLibraries_a1.other W14 (Or.inr (slot_ne (Or.inr (hw _ (List.mem_of_getElem? (i := 211) rfl))) (Or.inr (hw _ (List.mem_of_getElem? (i := 201) rfl))) (by decide) (t := (.object "java/util/List")) (t' := (.object "java/util/Optional")) (by decide) (by decide)))
  have F15_properties_a1 := F13_properties_a1.other W14 (Or.inr (slot_ne (Or.inr (hw _ (List.mem_of_getElem? (i := 213) rfl))) (Or.inr (hw _ (List.mem_of_getElem? (i := 201) rfl))) (by decide) (t := (.object "java/util/List")) (t' := (.object "java/util/Optional")) (by decide) (by decide)))
  have F15_e0_t_2 := F13_e0_t_2.other W14 (Or.inl (Ne.symm ne_a1_t_2))
  have F15_e1_t_2 := F13_e1_t_2.other W14 (Or.inl (Ne.symm ne_a1_t_2))
  have O15 := O13.wr W14 f9
  have KC15 := KC13.wr W14 (Or.inl (List.mem_of_getElem? (i := 0) rfl))
  refine own_aloadN X14 hx (hb hby d13_81) rfl rfl ?_
  refine own_aloadN X14 hx (hb hby d13_82) rfl rfl ?_
  refine own_putF X14 hx hZ hown N14 (host := "") (Or.inl (hw _ (List.mem_of_getElem? (i := 202) rfl))) Via.refl e14 F15_arguments_a1 E15_a1 (Or.inr ⟨(hw _ (List.mem_of_getElem? (i := 203) rfl)), rfl, hnm⟩) (hw _ (List.mem_of_getElem? (i := 93) rfl)) (ty := (.object "java/util/List")) (by decide) rfl rfl f9 (hb hby d13_83) (fun T16 h16 lc16 X16 e16 N16 W16 => ?_)
  have E17_a1 := E15_a1.wr W16
  have E17_t_2 := E15_t_2.wr W16
  have F17_descriptors_a1 := F15_descriptors_a1.other W16 (Or.inr (slot_ne (Or.inr (hw _ (List.mem_of_getElem? (i := 199) rfl))) (Or.inr (hw _ (List.mem_of_getElem? (i := 203) rfl))) (by decide) (t := (.object "java/util/List")) (t' := (.object "java/util/List")) (by decide) (by decide)))
  have F17_allPermissions_a1 := F15_allPermissions_a1.other W16 (Or.inr (slot_ne (Or.inr (hw _ (List.mem_of_getElem? (i := 205) rfl))) (Or.inr (hw _ (List.mem_of_getElem? (i := 203) rfl))) (by decide) (t := .boolean) (t' := (.object "java/util/List")) (by decide) (by decide)))
  have F17_javaRequests_a1 := F15_javaRequests_a1.other W16 (Or.inr (slot_ne (Or.inr (hw _ (List.mem_of_getElem? (i := 207) rfl))) (Or.inr (hw _ (List.mem_of_getElem? (i := 203) rfl))) (by decide) (t := (.object "java/util/List")) (t' := (.object "java/util/List")) (by decide) (by decide)))
  have F17_jars_a1 := F15_jars_a1.other W16 (Or.inr (slot_ne (Or.inr (hw _ (List.mem_of_getElem? (i := 209) rfl))) (Or.inr (hw _ (List.mem_of_getElem? (i := 203) rfl))) (by decide) (t := (.object "java/util/List")) (t' := (.object "java/util/List")) (by decide) (by decide)))
  have F17_nativeLibraries_a1 := F15_nativeLibraries_a1.other W16 (Or.inr (slot_ne (Or.inr (hw _ (List.mem_of_getElem? (i := 211) rfl))) (Or.inr (hw _ (List.mem_of_getElem? (i := 203) rfl))) (by decide) (t := (.object "java/util/List")) (t' := (.object "java/util/List")) (by decide) (by decide)))
  have F17_properties_a1 := F15_properties_a1.other W16 (Or.inr (slot_ne (Or.inr (hw _ (List.mem_of_getElem? (i := 213) rfl))) (Or.inr (hw _ (List.mem_of_getElem? (i := 203) rfl))) (by decide) (t := (.object "java/util/List")) (t' := (.object "java/util/List")) (by decide) (by decide)))
  have F17_e0_t_2 := F15_e0_t_2.other W16 (Or.inl (Ne.symm ne_a1_t_2))
  have F17_e1_t_2 := F15_e1_t_2.other W16 (Or.inl (Ne.symm ne_a1_t_2))
  have O17 := O15.wr W16 f9
  have KC17 := KC15.wr W16 (Or.inl (List.mem_of_getElem? (i := 0) rfl))
  refine own_aloadN X16 hx (hb hby d13_86) rfl rfl ?_
  refine own_iload X16 hx (hb hby d13_87) rfl ?_
  refine own_putF X16 hx hZ hown N16 (host := "") (Or.inl (hw _ (List.mem_of_getElem? (i := 204) rfl))) Via.refl e16 F17_allPermissions_a1 E17_a1 (Or.inr ⟨(hw _ (List.mem_of_getElem? (i := 205) rfl)), rfl, hnm⟩) (hw _ (List.mem_of_getElem? (i := 93) rfl)) (ty := .boolean) (by decide) nb_p5.1 nb_p5.2 f9 (hb hby d13_89) (fun T18 h18 lc18 X18 e18 N18 W18 => ?_)
  have E19_a1 := E17_a1.wr W18
  have E19_t_2 := E17_t_2.wr W18
  have F19_descriptors_a1 := F17_descriptors_a1.other W18 (Or.inr (slot_ne (Or.inr (hw _ (List.mem_of_getElem? (i := 199) rfl))) (Or.inr (hw _ (List.mem_of_getElem? (i := 205) rfl))) (by decide) (t := (.object "java/util/List")) (t' := .boolean) (by decide) (by decide)))
  have F19_javaRequests_a1 := F17_javaRequests_a1.other W18 (Or.inr (slot_ne (Or.inr (hw _ (List.mem_of_getElem? (i := 207) rfl))) (Or.inr (hw _ (List.mem_of_getElem? (i := 205) rfl))) (by decide) (t := (.object "java/util/List")) (t' := .boolean) (by decide) (by decide)))
  have F19_jars_a1 := F17_jars_a1.other W18 (Or.inr (slot_ne (Or.inr (hw _ (List.mem_of_getElem? (i := 209) rfl))) (Or.inr (hw _ (List.mem_of_getElem? (i := 205) rfl))) (by decide) (t := (.object "java/util/List")) (t' := .boolean) (by decide) (by decide)))
  have F19_nativeLibraries_a1 := F17_nativeLibraries_a1.other W18 (Or.inr (slot_ne (Or.inr (hw _ (List.mem_of_getElem? (i := 211) rfl))) (Or.inr (hw _ (List.mem_of_getElem? (i := 205) rfl))) (by decide) (t := (.object "java/util/List")) (t' := .boolean) (by decide) (by decide)))
  have F19_properties_a1 := F17_properties_a1.other W18 (Or.inr (slot_ne (Or.inr (hw _ (List.mem_of_getElem? (i := 213) rfl))) (Or.inr (hw _ (List.mem_of_getElem? (i := 205) rfl))) (by decide) (t := (.object "java/util/List")) (t' := .boolean) (by decide) (by decide)))
  have F19_e0_t_2 := F17_e0_t_2.other W18 (Or.inl (Ne.symm ne_a1_t_2))
  have F19_e1_t_2 := F17_e1_t_2.other W18 (Or.inl (Ne.symm ne_a1_t_2))
  have O19 := O17.wr W18 f9
  have KC19 := KC17.wr W18 (Or.inl (List.mem_of_getElem? (i := 0) rfl))
  refine own_aloadN X18 hx (hb hby d13_92) rfl rfl ?_
  refine own_aload X18 hx (hb hby d13_93) rfl rfl ?_
  refine own_putF X18 hx hZ hown N18 (host := "") (Or.inl (hw _ (List.mem_of_getElem? (i := 206) rfl))) Via.refl e18 F19_javaRequests_a1 E19_a1 (Or.inr ⟨(hw _ (List.mem_of_getElem? (i := 207) rfl)), rfl, hnm⟩) (hw _ (List.mem_of_getElem? (i := 93) rfl)) (ty := (.object "java/util/List")) (by decide) rfl rfl f9 (hb hby d13_95) (fun T20 h20 lc20 X20 e20 N20 W20 => ?_)
  have E21_a1 := E19_a1.wr W20
  have E21_t_2 := E19_t_2.wr W20
  have F21_descriptors_a1 := F19_descriptors_a1.other W20 (Or.inr (slot_ne (Or.inr (hw _ (List.mem_of_getElem? (i := 199) rfl))) (Or.inr (hw _ (List.mem_of_getElem? (i := 207) rfl))) (by decide) (t := (.object "java/util/List")) (t' := (.object "java/util/List")) (by decide) (by decide)))
  have F21_jars_a1 := F19_jars_a1.other W20 (Or.inr (slot_ne (Or.inr (hw _ (List.mem_of_getElem? (i := 209) rfl))) (Or.inr (hw _ (List.mem_of_getElem? (i := 207) rfl))) (by decide) (t := (.object "java/util/List")) (t' := (.object "java/util/List")) (by decide) (by decide)))
  have F21_nativeLibraries_a1 := F19_nativeLibraries_a1.other W20 (Or.inr (slot_ne (Or.inr (hw _ (List.mem_of_getElem? (i := 211) rfl))) (Or.inr (hw _ (List.mem_of_getElem? (i := 207) rfl))) (by decide) (t := (.object "java/util/List")) (t' := (.object "java/util/List")) (by decide) (by decide)))
  have F21_properties_a1 := F19_properties_a1.other W20 (Or.inr (slot_ne (Or.inr (hw _ (List.mem_of_getElem? (i := 213) rfl))) (Or.inr (hw _ (List.mem_of_getElem? (i := 207) rfl))) (by decide) (t := (.object "java/util/List")) (t' := (.object "java/util/List")) (by decide) (by decide)))
  have F21_e0_t_2 := F19_e0_t_2.other W20 (Or.inl (Ne.symm ne_a1_t_2))
  have F21_e1_t_2 := F19_e1_t_2.other W20 (Or.inl (Ne.symm ne_a1_t_2))
  have O21 := O19.wr W20 f9
  have KC21 := KC19.wr W20 (Or.inl (List.mem_of_getElem? (i := 0) rfl))
  refine own_aloadN X20 hx (hb hby d13_98) rfl rfl ?_
  refine own_aload X20 hx (hb hby d13_99) rfl rfl ?_
  refine own_putF X20 hx hZ hown N20 (host := "") (Or.inl (hw _ (List.mem_of_getElem? (i := 208) rfl))) Via.refl e20 F21_jars_a1 E21_a1 (Or.inr ⟨(hw _ (List.mem_of_getElem? (i := 209) rfl)), rfl, hnm⟩) (hw _ (List.mem_of_getElem? (i := 93) rfl)) (ty := (.object "java/util/List")) (by decide) rfl rfl f9 (hb hby d13_101) (fun T22 h22 lc22 X22 e22 N22 W22 => ?_)
  have E23_a1 := E21_a1.wr W22
  have E23_t_2 := E21_t_2.wr W22
  have F23_descriptors_a1 := F21_descriptors_a1.other W22 (Or.inr (slot_ne (Or.inr (hw _ (List.mem_of_getElem? (i := 199) rfl))) (Or.inr (hw _ (List.mem_of_getElem? (i := 209) rfl))) (by decide) (t := (.object "java/util/List")) (t' := (.object "java/util/List")) (by decide) (by decide)))
  have F23_nativeLibraries_a1 := F21_nativeLibraries_a1.other W22 (Or.inr (slot_ne (Or.inr (hw _ (List.mem_of_getElem? (i := 211) rfl))) (Or.inr (hw _ (List.mem_of_getElem? (i := 209) rfl))) (by decide) (t := (.object "java/util/List")) (t' := (.object "java/util/List")) (by decide) (by decide)))
  have F23_properties_a1 := F21_properties_a1.other W22 (Or.inr (slot_ne (Or.inr (hw _ (List.mem_of_getElem? (i := 213) rfl))) (Or.inr (hw _ (List.mem_of_getElem? (i := 209) rfl))) (by decide) (t := (.object "java/util/List")) (t' := (.object "java/util/List")) (by decide) (by decide)))
  have F23_e0_t_2 := F21_e0_t_2.other W22 (Or.inl (Ne.symm ne_a1_t_2))
  have F23_e1_t_2 := F21_e1_t_2.other W22 (Or.inl (Ne.symm ne_a1_t_2))
  have O23 := O21.wr W22 f9
  have KC23 := KC21.wr W22 (Or.inl (List.mem_of_getElem? (i := 0) rfl))
  refine own_aloadN X22 hx (hb hby d13_104) rfl rfl ?_
  refine own_aload X22 hx (hb hby d13_105) rfl rfl ?_
  refine own_putF X22 hx hZ hown N22 (host := "") (Or.inl (hw _ (List.mem_of_getElem? (i := 210) rfl))) Via.refl e22 F23_nativeLibraries_a1 E23_a1 (Or.inr ⟨(hw _ (List.mem_of_getElem? (i := 211) rfl)), rfl, hnm⟩) (hw _ (List.mem_of_getElem? (i := 93) rfl)) (ty := (.object "java/util/List")) (by decide) rfl rfl f9 (hb hby d13_107) (fun T24 h24 lc24 X24 e24 N24 W24 => ?_)
  have E25_a1 := E23_a1.wr W24
  have E25_t_2 := E23_t_2.wr W24
  have F25_descriptors_a1 := F23_descriptors_a1.other W24 (Or.inr (slot_ne (Or.inr (hw _ (List.mem_of_getElem? (i := 199) rfl))) (Or.inr (hw _ (List.mem_of_getElem? (i := 211) rfl))) (by decide) (t := (.object "java/util/List")) (t' := (.object "java/util/List")) (by decide) (by decide)))
  have F25_properties_a1 := F23_properties_a1.other W24 (Or.inr (slot_ne (Or.inr (hw _ (List.mem_of_getElem? (i := 213) rfl))) (Or.inr (hw _ (List.mem_of_getElem? (i := 211) rfl))) (by decide) (t := (.object "java/util/List")) (t' := (.object "java/util/List")) (by decide) (by decide)))
  have F25_e0_t_2 := F23_e0_t_2.other W24 (Or.inl (Ne.symm ne_a1_t_2))
  have F25_e1_t_2 := F23_e1_t_2.other W24 (Or.inl (Ne.symm ne_a1_t_2))
  have O25 := O23.wr W24 f9
  have KC25 := KC23.wr W24 (Or.inl (List.mem_of_getElem? (i := 0) rfl))
  refine own_aloadN X24 hx (hb hby d13_110) rfl rfl ?_
  refine own_aload X24 hx (hb hby d13_111) rfl rfl ?_
  refine own_putF X24 hx hZ hown N24 (host := "") (Or.inl (hw _ (List.mem_of_getElem? (i := 212) rfl))) Via.refl e24 F25_properties_a1 E25_a1 (Or.inr ⟨(hw _ (List.mem_of_getElem? (i := 213) rfl)), rfl, hnm⟩) (hw _ (List.mem_of_getElem? (i := 93) rfl)) (ty := (.object "java/util/List")) (by decide) rfl rfl f9 (hb hby d13_113) (fun T26 h26 lc26 X26 e26 N26 W26 => ?_)
  have E27_a1 := E25_a1.wr W26
  have E27_t_2 := E25_t_2.wr W26
  have F27_descriptors_a1 := F25_descriptors_a1.other W26 (Or.inr (slot_ne (Or.inr (hw _ (List.mem_of_getElem? (i := 199) rfl))) (Or.inr (hw _ (List.mem_of_getElem? (i := 213) rfl))) (by decide) (t := (.object "java/util/List")) (t' := (.object "java/util/List")) (by decide) (by decide)))
  have F27_e0_t_2 := F25_e0_t_2.other W26 (Or.inl (Ne.symm ne_a1_t_2))
  have F27_e1_t_2 := F25_e1_t_2.other W26 (Or.inl (Ne.symm ne_a1_t_2))
  have O27 := O25.wr W26 f9
  have KC27 := KC25.wr W26 (Or.inl (List.mem_of_getElem? (i := 0) rfl))
  show Goes _ _ _ _ _ _ (T26.setTop (mkF m 116 #[.val (.ref a1), .val (.ref t_2), .val .null, .val (.ref w_EMPTY_LIST), .val (.int p5), .val (.ref w_EMPTY_LIST), .val (.ref t_6), .val (.ref w_EMPTY_LIST), .val (.ref w_EMPTY_LIST)] []))
  exact own_retV X26 hx N26 hlk (by decide) (by decide) hret (hb hby d13_116) (by rw [e26]; exact ⟨t_2, rfl, KC27, E27_a1, F27_descriptors_a1, E27_t_2, F27_e0_t_2, F27_e1_t_2, sz_t_2⟩)
def Q133 (Z : State) (a1 : Addr) (a2 : Addr) (a4 : Addr) (p5 : Int32) (a6 : Addr) (a7 : Addr) (a8 : Addr) (a9 : Addr) (b : Addr) (k : ClassId) (x0 : Addr) (x1 : Addr) (x2 : Addr) (jb : Addr) (jk : ClassId) (j0 : Addr) (u0 : Value) (u1 : Value) (u2 : Value) (u3 : Value) (u4 : Value) (u5 : Value) (u6 : Value) (u7 : Value) (w_EMPTY_ELEMENTDATA : Addr) (w_DEFAULTCAPACITY_EMPTY_ELEMENTDATA : Addr) (w_EMPTY : Addr) (w_EMPTY_LIST : Addr) (k_w_EMPTY_ELEMENTDATA : ClassId) (k_w_DEFAULTCAPACITY_EMPTY_ELEMENTDATA : ClassId) (w_mir : Addr) (w_els : Addr) (k_els : ClassId) (h0 : Heap) (n0 : Nat) (v : Option Value) (h : Heap) : Prop :=
  (∃ (t : Addr) (q : Addr) (kq : ClassId), v = none ∧ Keep h0 h [a1] ∧ Exa Z h a1 "com/example/gantry/gantry/resolver/Resolution" ∧ Fld Z h a1 "com/example/gantry/gantry/resolver/Resolution" "descriptors" "Ljava/util/List;" (.ref t) ∧ Exa Z h t "java/util/ImmutableCollections$ListN" ∧ Fld Z h t "java/util/ImmutableCollections$ListN" "elements" "[Ljava/lang/Object;" (.ref q) ∧ Arv Z h q kq (.object "java/lang/Object") ((((0 : Int32) + (1 : Int32)) + (1 : Int32)) + (1 : Int32)) [(.ref x0), (.ref x1), (.ref x2)] .null ∧ h0.size ≤ t ∧ h0.size ≤ q)
theorem ef_133 (m : MethodId) (a1 : Addr) (a2 : Addr) (a4 : Addr) (p5 : Int32) (a6 : Addr) (a7 : Addr) (a8 : Addr) (a9 : Addr) : entryFrame m #[(.ref a1), (.ref a2), .null, (.ref a4), (.int p5), (.ref a6), (.ref a7), (.ref a8), (.ref a9)] 9 = mkF m 0 #[.val (.ref a1), .val (.ref a2), .val .null, .val (.ref a4), .val (.int p5), .val (.ref a6), .val (.ref a7), .val (.ref a8), .val (.ref a9)] [] := by first | (simp [entryFrame, mkF, argsToLocals, Value.category]; done) | rfl
set_option maxRecDepth 65536 in
set_option maxHeartbeats 40000000 in
theorem rm133 (l : Launch) (Z : State) (a0 : Array Value) (hw : ∀ d ∈ tables_1, d.before a0 Z = true) (ws : List Jvm.Cond) (a1 : Addr) (a2 : Addr) (a4 : Addr) (p5 : Int32) (a6 : Addr) (a7 : Addr) (a8 : Addr) (a9 : Addr) (b : Addr) (k : ClassId) (x0 : Addr) (x1 : Addr) (x2 : Addr) (jb : Addr) (jk : ClassId) (j0 : Addr) (u0 : Value) (u1 : Value) (u2 : Value) (u3 : Value) (u4 : Value) (u5 : Value) (u6 : Value) (u7 : Value) (w_EMPTY_ELEMENTDATA : Addr) (w_DEFAULTCAPACITY_EMPTY_ELEMENTDATA : Addr) (w_EMPTY : Addr) (w_EMPTY_LIST : Addr) (k_w_EMPTY_ELEMENTDATA : ClassId) (k_w_DEFAULTCAPACITY_EMPTY_ELEMENTDATA : ClassId) (w_mir : Addr) (w_els : Addr) (k_els : ClassId) (h0 : Heap) (n0 : Nat) (O0 : Old Z n0 h0) (SF : Start Z w_EMPTY_ELEMENTDATA w_DEFAULTCAPACITY_EMPTY_ELEMENTDATA w_EMPTY w_EMPTY_LIST k_w_EMPTY_ELEMENTDATA k_w_DEFAULTCAPACITY_EMPTY_ELEMENTDATA w_mir w_els k_els) (f0 : Exa Z h0 a1 "com/example/gantry/gantry/resolver/Resolution") (f1 : Fld Z h0 a1 "com/example/gantry/gantry/resolver/Resolution" "descriptors" "Ljava/util/List;" u0) (f2 : Fld Z h0 a1 "com/example/gantry/gantry/resolver/Resolution" "mainClass" "Ljava/util/Optional;" u1) (f3 : Fld Z h0 a1 "com/example/gantry/gantry/resolver/Resolution" "arguments" "Ljava/util/List;" u2) (f4 : Fld Z h0 a1 "com/example/gantry/gantry/resolver/Resolution" "allPermissions" "Z" u3) (f5 : Fld Z h0 a1 "com/example/gantry/gantry/resolver/Resolution" "javaRequests" "Ljava/util/List;" u4) (f6 : Fld Z h0 a1 "com/example/gantry/gantry/resolver/Resolution" "jars" "Ljava/util/List;" u5) (f7 : Fld Z h0 a1 "com/example/gantry/gantry/resolver/Resolution" "nativeLibraries" "Ljava/util/List;" u6) (f8 : Fld Z h0 a1 "com/example/gantry/gantry/resolver/Resolution" "properties" "Ljava/util/List;" u7) (f9 : n0 ≤ a1) (f10 : Exa Z h0 a2 "java/util/ArrayList") (f11 : Fld Z h0 a2 "java/util/ArrayList" "elementData" "[Ljava/lang/Object;" (.ref b)) (f12 : Fld Z h0 a2 "java/util/ArrayList" "size" "I" (.int ((((0 : Int32) + (1 : Int32)) + (1 : Int32)) + (1 : Int32)))) (f13 : Arv Z h0 b k (.object "java/lang/Object") (10 : Int32) [(.ref x0), (.ref x1), (.ref x2), .null, .null, .null, .null, .null, .null, .null] .null) (f14 : Exa Z h0 b "[Ljava/lang/Object;") (f15 : Exa Z h0 x0 "com/example/gantry/gantry/resolver/LocalCopy") (f16 : Exa Z h0 x1 "com/example/gantry/gantry/resolver/LocalCopy") (f17 : Exa Z h0 x2 "com/example/gantry/gantry/resolver/LocalCopy") (f18 : Exa Z h0 a4 "java/util/ArrayList") (f19 : Fld Z h0 a4 "java/util/ArrayList" "size" "I" (.int (0 : Int32))) (f20 : Exa Z h0 a6 "java/util/ArrayList") (f21 : Fld Z h0 a6 "java/util/ArrayList" "size" "I" (.int (0 : Int32))) (f22 : Exa Z h0 a7 "java/util/ArrayList") (f23 : Fld Z h0 a7 "java/util/ArrayList" "elementData" "[Ljava/lang/Object;" (.ref jb)) (f24 : Fld Z h0 a7 "java/util/ArrayList" "size" "I" (.int ((0 : Int32) + (1 : Int32)))) (f25 : Arv Z h0 jb jk (.object "java/lang/Object") (10 : Int32) [(.ref j0), .null, .null, .null, .null, .null, .null, .null, .null, .null] .null) (f26 : Exa Z h0 jb "[Ljava/lang/Object;") (f27 : Exa Z h0 j0 "com/example/gantry/gantry/resolver/Resolution$Jar") (f28 : Exa Z h0 a8 "java/util/ArrayList") (f29 : Fld Z h0 a8 "java/util/ArrayList" "size" "I" (.int (0 : Int32))) (f30 : Exa Z h0 a9 "java/util/ArrayList") (f31 : Fld Z h0 a9 "java/util/ArrayList" "size" "I" (.int (0 : Int32))) (nb_p5 : narrow .boolean (.int p5) = .int p5 ∧ fits .boolean (.int p5) = true) (f33 : a1 ≠ b) (f34 : a1 ≠ jb) (f35 : a1 ≠ a2) (f36 : a1 ≠ a7) (f37 : a1 ≠ a4) (f38 : a1 ≠ a6) (f39 : a1 ≠ a8) (f40 : a1 ≠ a9) :
    Meets l (⟨"com/example/gantry/gantry/resolver/Resolution", "<init>", "(Ljava/util/List;Ljava/util/Optional;Ljava/util/List;ZLjava/util/List;Ljava/util/List;Ljava/util/List;Ljava/util/List;)V"⟩ : MethodName) prog_66_method_1_code 9 none ws ({ frames := 9, cells := 5, slots := 11, locals := 115 } : Room) ({ frames := 9, cells := 5, slots := 11, locals := 115 } : Room).cells ({ frames := 9, cells := 5, slots := 11, locals := 115 } : Room).slots Z #[(.ref a1), (.ref a2), .null, (.ref a4), (.int p5), (.ref a6), (.ref a7), (.ref a8), (.ref a9)] h0 n0 (Q133 Z a1 a2 a4 p5 a6 a7 a8 a9 b k x0 x1 x2 jb jk j0 u0 u1 u2 u3 u4 u5 u6 u7 w_EMPTY_ELEMENTDATA w_DEFAULTCAPACITY_EMPTY_ELEMENTDATA w_EMPTY w_EMPTY_LIST k_w_EMPTY_ELEMENTDATA k_w_DEFAULTCAPACITY_EMPTY_ELEMENTDATA w_mir w_els k_els h0 n0) := by
  refine Meets.of (F := fun m => mkF m 0 #[.val (.ref a1), .val (.ref a2), .val .null, .val (.ref a4), .val (.int p5), .val (.ref a6), .val (.ref a7), .val (.ref a8), .val (.ref a9)] []) (plainFor_of_name pn_14) (fun m => ef_133 m a1 a2 a4 p5 a6 a7 a8 a9) ?_
  intro p e s m below meth c T0 hx hby hml hown0 hnm hret hlk hZ X0 e0
  have hown : s.vm.findClass "com/example/gantry/gantry/resolver/Resolution" = some m.cls := hown0
  have N0 := Fr.nil n0
  have KC0 := Keep.refl h0 [a1]
  obtain ⟨z0, z1, z2, z3, z4, z5, z6, z7, z8, z9, z10, z11, zm, z13, z14, -⟩ := SF
  show Goes _ _ _ _ _ _ (T0.setTop (mkF m 0 #[.val (.ref a1), .val (.ref a2), .val .null, .val (.ref a4), .val (.int p5), .val (.ref a6), .val (.ref a7), .val (.ref a8), .val (.ref a9)] []))
  refine own_aloadN X0 hx (hb hby d13_0) rfl rfl ?_
  refine own_special X0 hx hZ hown (y := (⟨"java/lang/Record", "<init>", "()V"⟩ : MethodName)) rfl (hw _ (List.mem_of_getElem? (i := 98) rfl)) (hw _ (List.mem_of_getElem? (i := 9) rfl)) (hw _ (List.mem_of_getElem? (i := 11) rfl)) (hw _ (List.mem_of_getElem? (i := 12) rfl)) (a := a1) (by decide) (W := 0) (by decide) (by decide) N0 e0 (by rw [hml]; rfl) (argsL := []) (rest := []) (lenOf pd_0 rfl) (Nat.le_of_eq rfl) (by decide) (by decide) (rm2 l Z a0 hw [] a1 h0 n0 O0) rfl (hb hby d13_1) ?_
  intro v1 T1 lc1 X1 N1 hQ1
  obtain ⟨rfl, e1⟩ := hQ1
  refine own_aloadN X1 hx (hb hby d13_4) rfl rfl ?_
  refine own_callS X1 hx hZ hown (y := (⟨"java/util/List", "copyOf", "(Ljava/util/Collection;)Ljava/util/List;"⟩ : MethodName)) (hw _ (List.mem_of_getElem? (i := 99) rfl)) (hw _ (List.mem_of_getElem? (i := 100) rfl)) (hw _ (List.mem_of_getElem? (i := 101) rfl)) (hw _ (List.mem_of_getElem? (i := 102) rfl)) (by decide) (W := 0) (by decide) (by decide) N1 e1 (by rw [hml]; rfl) (argsL := [(.ref a2)]) (rest := []) (lenOf pd_11 rfl) (Nat.le_of_eq rfl) (by decide) (by decide) (rm143 l Z a0 hw [] a2 b k x0 x1 x2 w_EMPTY_ELEMENTDATA w_DEFAULTCAPACITY_EMPTY_ELEMENTDATA w_EMPTY w_EMPTY_LIST k_w_EMPTY_ELEMENTDATA k_w_DEFAULTCAPACITY_EMPTY_ELEMENTDATA w_mir w_els k_els h0 n0 O0 ⟨z0, z1, z2, z3, z4, z5, z6, z7, z8, z9, z10, z11, zm, z13, z14, trivial⟩ f10 f11 f12 f13 f14 f15 f16 f17) rfl (hb hby d13_5) ?_
  intro v2 T2 lc2 X2 N2 hQ2
  obtain ⟨t_2, q_2, kq_2, rfl, K2, r2_0, r2_1, r2_2, r2_3, r2_4⟩ := hQ2
  have E3_a1 := f0.keep K2
  have E3_a4 := f18.keep K2
  have E3_a6 := f20.keep K2
  have E3_a7 := f22.keep K2
  have E3_jb := f26.keep K2
  have E3_j0 := f27.keep K2
  have E3_a8 := f28.keep K2
  have E3_a9 := f30.keep K2
  have F3_descriptors_a1 := f1.keep K2 nin0
  have F3_mainClass_a1 := f2.keep K2 nin0
  have F3_arguments_a1 := f3.keep K2 nin0
  have F3_allPermissions_a1 := f4.keep K2 nin0
  have F3_javaRequests_a1 := f5.keep K2 nin0
  have F3_jars_a1 := f6.keep K2 nin0
  have F3_nativeLibraries_a1 := f7.keep K2 nin0
  have F3_properties_a1 := f8.keep K2 nin0
  have F3_size_a4 := f19.keep K2 nin0
  have F3_size_a6 := f21.keep K2 nin0
  have F3_elementData_a7 := f23.keep K2 nin0
  have F3_size_a7 := f24.keep K2 nin0
  have F3_size_a8 := f29.keep K2 nin0
  have F3_size_a9 := f31.keep K2 nin0
  have A3_jb := f25.keep K2 nin0
  have O3 := O0.keep K2 all0
  have KC3 := KC0.trans K2 all0
  have ne_a1_t_2 : a1 ≠ t_2 := Nat.ne_of_lt (Nat.lt_of_lt_of_le f0.lt r2_3)
  have ge_t_2 : n0 ≤ t_2 := Nat.le_trans (own_sz O0) r2_3
  have sz_t_2 : h0.size ≤ t_2 := Nat.le_trans KC0.1 r2_3
  have ne_a1_q_2 : a1 ≠ q_2 := Nat.ne_of_lt (Nat.lt_of_lt_of_le f0.lt r2_4)
  have ge_q_2 : n0 ≤ q_2 := Nat.le_trans (own_sz O0) r2_4
  have sz_q_2 : h0.size ≤ q_2 := Nat.le_trans KC0.1 r2_4
  refine own_astoreN X2 hx (Ls' := #[.val (.ref a1), .val (.ref t_2), .val .null, .val (.ref a4), .val (.int p5), .val (.ref a6), .val (.ref a7), .val (.ref a8), .val (.ref a9)]) (hb hby d13_8) rfl rfl ?_
  refine own_aloadN X2 hx (hb hby d13_9) rfl rfl ?_
  refine own_callS X2 hx hZ hown (y := (⟨"java/util/List", "copyOf", "(Ljava/util/Collection;)Ljava/util/List;"⟩ : MethodName)) (hw _ (List.mem_of_getElem? (i := 99) rfl)) (hw _ (List.mem_of_getElem? (i := 100) rfl)) (hw _ (List.mem_of_getElem? (i := 101) rfl)) (hw _ (List.mem_of_getElem? (i := 102) rfl)) (by decide) (W := 0) (by decide) (by decide) N2 rfl (by rw [hml]; rfl) (argsL := [(.ref a4)]) (rest := []) (lenOf pd_11 rfl) (Nat.le_of_eq rfl) (by decide) (by decide) (rm14e l Z a0 hw [] a4 w_EMPTY_ELEMENTDATA w_DEFAULTCAPACITY_EMPTY_ELEMENTDATA w_EMPTY w_EMPTY_LIST k_w_EMPTY_ELEMENTDATA k_w_DEFAULTCAPACITY_EMPTY_ELEMENTDATA w_mir w_els k_els T2.heap n0 O3 ⟨z0, z1, z2, z3, z4, z5, z6, z7, z8, z9, z10, z11, zm, z13, z14, trivial⟩ E3_a4 F3_size_a4) rfl (hb hby d13_10) ?_
  intro v4 T4 lc4 X4 N4 hQ4
  obtain ⟨rfl, e4⟩ := hQ4
  refine own_astoreN X4 hx (Ls' := #[.val (.ref a1), .val (.ref t_2), .val .null, .val (.ref w_EMPTY_LIST), .val (.int p5), .val (.ref a6), .val (.ref a7), .val (.ref a8), .val (.ref a9)]) (hb hby d13_13) rfl rfl ?_
  refine own_aload X4 hx (hb hby d13_14) rfl rfl ?_
  refine own_callS X4 hx hZ hown (y := (⟨"java/util/List", "copyOf", "(Ljava/util/Collection;)Ljava/util/List;"⟩ : MethodName)) (hw _ (List.mem_of_getElem? (i := 99) rfl)) (hw _ (List.mem_of_getElem? (i := 100) rfl)) (hw _ (List.mem_of_getElem? (i := 101) rfl)) (hw _ (List.mem_of_getElem? (i := 102) rfl)) (by decide) (W := 0) (by decide) (by decide) N4 e4 (by rw [hml]; rfl) (argsL := [(.ref a6)]) (rest := []) (lenOf pd_11 rfl) (Nat.le_of_eq rfl) (by decide) (by decide) (rm14e l Z a0 hw [] a6 w_EMPTY_ELEMENTDATA w_DEFAULTCAPACITY_EMPTY_ELEMENTDATA w_EMPTY w_EMPTY_LIST k_w_EMPTY_ELEMENTDATA k_w_DEFAULTCAPACITY_EMPTY_ELEMENTDATA w_mir w_els k_els T2.heap n0 O3 ⟨z0, z1, z2, z3, z4, z5, z6, z7, z8, z9, z10, z11, zm, z13, z14, trivial⟩ E3_a6 F3_size_a6) rfl (hb hby d13_16) ?_
  intro v5 T5 lc5 X5 N5 hQ5
  obtain ⟨rfl, e5⟩ := hQ5
  refine own_astore X5 hx (Ls' := #[.val (.ref a1), .val (.ref t_2), .val .null, .val (.ref w_EMPTY_LIST), .val (.int p5), .val (.ref w_EMPTY_LIST), .val (.ref a7), .val (.ref a8), .val (.ref a9)]) (hb hby d13_19) rfl rfl ?_
  refine own_aload X5 hx (hb hby d13_21) rfl rfl ?_
  refine own_callS X5 hx hZ hown (y := (⟨"java/util/List", "copyOf", "(Ljava/util/Collection;)Ljava/util/List;"⟩ : MethodName)) (hw _ (List.mem_of_getElem? (i := 99) rfl)) (hw _ (List.mem_of_getElem? (i := 100) rfl)) (hw _ (List.mem_of_getElem? (i := 101) rfl)) (hw _ (List.mem_of_getElem? (i := 102) rfl)) (by decide) (W := 0) (by decide) (by decide) N5 e5 (by rw [hml]; rfl) (argsL := [(.ref a7)]) (rest := []) (lenOf pd_11 rfl) (Nat.le_of_eq rfl) (by decide) (by decide) (rm14J l Z a0 hw [] a7 jb jk j0 w_EMPTY_ELEMENTDATA w_DEFAULTCAPACITY_EMPTY_ELEMENTDATA w_EMPTY w_EMPTY_LIST k_w_EMPTY_ELEMENTDATA k_w_DEFAULTCAPACITY_EMPTY_ELEMENTDATA w_mir w_els k_els T2.heap n0 O3 ⟨z0, z1, z2, z3, z4, z5, z6, z7, z8, z9, z10, z11, zm, z13, z14, trivial⟩ E3_a7 F3_elementData_a7 F3_size_a7 A3_jb E3_jb E3_j0) rfl (hb hby d13_23) ?_
  intro v6 T6 lc6 X6 N6 hQ6
  obtain ⟨t_6, rfl, K6, r6_0, r6_1, r6_2, r6_3⟩ := hQ6
  have E7_a1 := E3_a1.keep K6
  have E7_a8 := E3_a8.keep K6
  have E7_a9 := E3_a9.keep K6
  have E7_t_2 := r2_0.keep K6
  have F7_descriptors_a1 := F3_descriptors_a1.keep K6 nin0
  have F7_mainClass_a1 := F3_mainClass_a1.keep K6 nin0
  have F7_arguments_a1 := F3_arguments_a1.keep K6 nin0
  have F7_allPermissions_a1 := F3_allPermissions_a1.keep K6 nin0
  have F7_javaRequests_a1 := F3_javaRequests_a1.keep K6 nin0
  have F7_jars_a1 := F3_jars_a1.keep K6 nin0
  have F7_nativeLibraries_a1 := F3_nativeLibraries_a1.keep K6 nin0
  have F7_properties_a1 := F3_properties_a1.keep K6 nin0
  have F7_size_a8 := F3_size_a8.keep K6 nin0
  have F7_size_a9 := F3_size_a9.keep K6 nin0
  have F7_elements_t_2 := r2_1.keep K6 nin0
  have A7_q_2 := r2_2.keep K6 nin0
  have O7 := O3.keep K6 all0
  have KC7 := KC3.trans K6 all0
  have ge_t_6 : n0 ≤ t_6 := Nat.le_trans (own_sz O3) r6_3
  have sz_t_6 : h0.size ≤ t_6 := Nat.le_trans KC3.1 r6_3
  refine own_astore X6 hx (Ls' := #[.val (.ref a1), .val (.ref t_2), .val .null, .val (.ref w_EMPTY_LIST), .val (.int p5), .val (.ref w_EMPTY_LIST), .val (.ref t_6), .val (.ref a8), .val (.ref a9)]) (hb hby d13_26) rfl rfl ?_
  refine own_aload X6 hx (hb hby d13_28) rfl rfl ?_
  refine own_callS X6 hx hZ hown (y := (⟨"java/util/List", "copyOf", "(Ljava/util/Collection;)Ljava/util/List;"⟩ : MethodName)) (hw _ (List.mem_of_getElem? (i := 99) rfl)) (hw _ (List.mem_of_getElem? (i := 100) rfl)) (hw _ (List.mem_of_getElem? (i := 101) rfl)) (hw _ (List.mem_of_getElem? (i := 102) rfl)) (by decide) (W := 0) (by decide) (by decide) N6 rfl (by rw [hml]; rfl) (argsL := [(.ref a8)]) (rest := []) (lenOf pd_11 rfl) (Nat.le_of_eq rfl) (by decide) (by decide) (rm14e l Z a0 hw [] a8 w_EMPTY_ELEMENTDATA w_DEFAULTCAPACITY_EMPTY_ELEMENTDATA w_EMPTY w_EMPTY_LIST k_w_EMPTY_ELEMENTDATA k_w_DEFAULTCAPACITY_EMPTY_ELEMENTDATA w_mir w_els k_els T6.heap n0 O7 ⟨z0, z1, z2, z3, z4, z5, z6, z7, z8, z9, z10, z11, zm, z13, z14, trivial⟩ E7_a8 F7_size_a8) rfl (hb hby d13_30) ?_
  intro v8 T8 lc8 X8 N8 hQ8
  obtain ⟨rfl, e8⟩ := hQ8
  refine own_astore X8 hx (Ls' := #[.val (.ref a1), .val (.ref t_2), .val .null, .val (.ref w_EMPTY_LIST), .val (.int p5), .val (.ref w_EMPTY_LIST), .val (.ref t_6), .val (.ref w_EMPTY_LIST), .val (.ref a9)]) (hb hby d13_33) rfl rfl ?_
  refine own_aload X8 hx (hb hby d13_35) rfl rfl ?_
  refine own_callS X8 hx hZ hown (y := (⟨"java/util/List", "copyOf", "(Ljava/util/Collection;)Ljava/util/List;"⟩ : MethodName)) (hw _ (List.mem_of_getElem? (i := 99) rfl)) (hw _ (List.mem_of_getElem? (i := 100) rfl)) (hw _ (List.mem_of_getElem? (i := 101) rfl)) (hw _ (List.mem_of_getElem? (i := 102) rfl)) (by decide) (W := 0) (by decide) (by decide) N8 e8 (by rw [hml]; rfl) (argsL := [(.ref a9)]) (rest := []) (lenOf pd_11 rfl) (Nat.le_of_eq rfl) (by decide) (by decide) (rm14e l Z a0 hw [] a9 w_EMPTY_ELEMENTDATA w_DEFAULTCAPACITY_EMPTY_ELEMENTDATA w_EMPTY w_EMPTY_LIST k_w_EMPTY_ELEMENTDATA k_w_DEFAULTCAPACITY_EMPTY_ELEMENTDATA w_mir w_els k_els T6.heap n0 O7 ⟨z0, z1, z2, z3, z4, z5, z6, z7, z8, z9, z10, z11, zm, z13, z14, trivial⟩ E7_a9 F7_size_a9) rfl (hb hby d13_37) ?_
  intro v9 T9 lc9 X9 N9 hQ9
  obtain ⟨rfl, e9⟩ := hQ9
  refine own_astore X9 hx (Ls' := #[.val (.ref a1), .val (.ref t_2), .val .null, .val (.ref w_EMPTY_LIST), .val (.int p5), .val (.ref w_EMPTY_LIST), .val (.ref t_6), .val (.ref w_EMPTY_LIST), .val (.ref w_EMPTY_LIST)]) (hb hby d13_40) rfl rfl ?_
  refine own_aloadN X9 hx (hb hby d13_42) rfl rfl ?_
  refine own_iface X9 hx hZ hown (y := (⟨"java/util/List", "isEmpty", "()Z"⟩ : MethodName)) (z := (⟨"java/util/ImmutableCollections$ListN", "isEmpty", "()Z"⟩ : MethodName)) (hw _ (List.mem_of_getElem? (i := 189) rfl)) (hw _ (List.mem_of_getElem? (i := 190) rfl)) (hw _ (List.mem_of_getElem? (i := 191) rfl)) (hw _ (List.mem_of_getElem? (i := 274) rfl)) (hw _ (List.mem_of_getElem? (i := 275) rfl)) (hw _ (List.mem_of_getElem? (i := 276) rfl)) (hw _ (List.mem_of_getElem? (i := 277) rfl)) (hw _ (List.mem_of_getElem? (i := 278) rfl)) (hw _ (List.mem_of_getElem? (i := 261) rfl)) (hw _ (List.mem_of_getElem? (i := 279) rfl)) (a := t_2) E7_t_2 (by decide) (W := 0) (by decide) (by decide) N9 e9 (by rw [hml]; rfl) (argsL := []) (rest := []) (lenOf pd_9 rfl) (Nat.le_of_eq rfl) (by decide) (by decide) (rm37 l Z a0 hw [] t_2 q_2 kq_2 ((((0 : Int32) + (1 : Int32)) + (1 : Int32)) + (1 : Int32)) [(.ref x0), (.ref x1), (.ref x2)] T6.heap n0 O7 F7_elements_t_2 A7_q_2) rfl (hb hby d13_43) ?_
  intro v10 T10 lc10 X10 N10 hQ10
  obtain ⟨rfl, e10⟩ := hQ10
  refine own_ifNo X10 hx (hb hby d13_48) ((if0 _ _).trans (teq ((own_bz (by decide)) : (if ((((0 : Int32) + (1 : Int32)) + (1 : Int32)) + (1 : Int32)) = (0 : Int32) then (1 : Int32) else (0 : Int32)) = (0 : Int32))).2) ?_
  refine own_aload X10 hx (hb hby d13_51) rfl rfl ?_
  refine own_iface X10 hx hZ hown (y := (⟨"java/util/List", "isEmpty", "()Z"⟩ : MethodName)) (z := (⟨"java/util/ImmutableCollections$List12", "isEmpty", "()Z"⟩ : MethodName)) (hw _ (List.mem_of_getElem? (i := 189) rfl)) (hw _ (List.mem_of_getElem? (i := 190) rfl)) (hw _ (List.mem_of_getElem? (i := 191) rfl)) (hw _ (List.mem_of_getElem? (i := 192) rfl)) (hw _ (List.mem_of_getElem? (i := 193) rfl)) (hw _ (List.mem_of_getElem? (i := 194) rfl)) (hw _ (List.mem_of_getElem? (i := 195) rfl)) (hw _ (List.mem_of_getElem? (i := 196) rfl)) (hw _ (List.mem_of_getElem? (i := 157) rfl)) (hw _ (List.mem_of_getElem? (i := 197) rfl)) (a := t_6) r6_0 (by decide) (W := 0) (by decide) (by decide) N10 e10 (by rw [hml]; rfl) (argsL := []) (rest := []) (lenOf pd_9 rfl) (Nat.le_of_eq rfl) (by decide) (by decide) (rm27 l Z a0 hw [] t_6 T6.heap n0 O7) rfl (hb hby d13_53) ?_
  intro v11 T11 lc11 X11 N11 hQ11
  obtain ⟨rfl, e11⟩ := hQ11
  refine own_ifYes X11 hx (pc' := 71) (hb hby d13_58) ((if0 _ _).trans (teq (by decide : (0 : Int32) = (0 : Int32))).1) (by decide) (by decide) ?_
  refine own_aloadN X11 hx (hb hby d13_71) rfl rfl ?_
  refine own_aloadN X11 hx (hb hby d13_72) rfl rfl ?_
  refine own_putF X11 hx hZ hown N11 (host := "") (Or.inl (hw _ (List.mem_of_getElem? (i := 198) rfl))) Via.refl e11 F7_descriptors_a1 E7_a1 (Or.inr ⟨(hw _ (List.mem_of_getElem? (i := 199) rfl)), rfl, hnm⟩) (hw _ (List.mem_of_getElem? (i := 93) rfl)) (ty := (.object "java/util/List")) (by decide) rfl rfl f9 (hb hby d13_73) (fun T12 h12 lc12 X12 e12 N12 W12 => ?_)
  have E13_a1 := E7_a1.wr W12
  have E13_t_2 := E7_t_2.wr W12
  have F13_descriptors_a1 := F7_descriptors_a1.same W12
  have F13_mainClass_a1 := F7_mainClass_a1.other W12 (Or.inr (slot_ne (Or.inr (hw _ (List.mem_of_getElem? (i := 201) rfl))) (Or.inr (hw _ (List.mem_of_getElem? (i := 199) rfl))) (by decide) (t := (.object "java/util/Optional")) (t' := (.object "java/util/List")) (by decide) (by decide)))
  have F13_arguments_a1 := F7_arguments_a1.other W12 (Or.inr (slot_ne (Or.inr (hw _ (List.mem_of_getElem? (i := 203) rfl))) (Or.inr (hw _ (List.mem_of_getElem? (i := 199) rfl))) (by decide) (t := (.object "java/util/List")) (t' := (.object "java/util/List")) (by decide) (by decide)))
  have F13_allPermissions_a1 := F7_allPermissions_a1.other W12 (Or.inr (slot_ne (Or.inr (hw _ (List.mem_of_getElem? (i := 205) rfl))) (Or.inr (hw _ (List.mem_of_getElem? (i := 199) rfl))) (by decide) (t := .boolean) (t' := (.object "java/util/List")) (by decide) (by decide)))
  have F13_javaRequests_a1 := F7_javaRequests_a1.other W12 (Or.inr (slot_ne (Or.inr (hw _ (List.mem_of_getElem? (i := 207) rfl))) (Or.inr (hw _ (List.mem_of_getElem? (i := 199) rfl))) (by decide) (t := (.object "java/util/List")) (t' := (.object "java/util/List")) (by decide) (by decide)))
  have F13_jars_a1 := F7_jars_a1.other W12 (Or.inr (slot_ne (Or.inr (hw _ (List.mem_of_getElem? (i := 209) rfl))) (Or.inr (hw _ (List.mem_of_getElem? (i := 199) rfl))) (by decide) (t := (.object "java/util/List")) (t' := (.object "java/util/List")) (by decide) (by decide)))
  have F13_nativeLibraries_a1 := F7_nativeLibraries_a1.other W12 (Or.inr (slot_ne (Or.inr (hw _ (List.mem_of_getElem? (i := 211) rfl))) (Or.inr (hw _ (List.mem_of_getElem? (i := 199) rfl))) (by decide) (t := (.object "java/util/List")) (t' := (.object "java/util/List")) (by decide) (by decide)))
  have F13_properties_a1 := F7_properties_a1.other W12 (Or.inr (slot_ne (Or.inr (hw _ (List.mem_of_getElem? (i := 213) rfl))) (Or.inr (hw _ (List.mem_of_getElem? (i := 199) rfl))) (by decide) (t := (.object "java/util/List")) (t' := (.object "java/util/List")) (by decide) (by decide)))
  have F13_elements_t_2 := F7_elements_t_2.other W12 (Or.inl (Ne.symm ne_a1_t_2))
  have A13_q_2 := A7_q_2.other W12 (Ne.symm ne_a1_q_2)
  have O13 := O7.wr W12 f9
  have KC13 := KC7.wr W12 (Or.inl (List.mem_of_getElem? (i := 0) rfl))
  refine own_aloadN X12 hx (hb hby d13_76) rfl rfl ?_
  refine own_aloadN X12 hx (hb hby d13_77) rfl rfl ?_
  refine own_putF X12 hx hZ hown N12 (host := "") (Or.inl (hw _ (List.mem_of_getElem? (i := 200) rfl))) Via.refl e12 F13_mainClass_a1 E13_a1 (Or.inr ⟨(hw _ (List.mem_of_getElem? (i := 201) rfl)), rfl, hnm⟩) (hw _ (List.mem_of_getElem? (i := 93) rfl)) (ty := (.object "java/util/Optional")) (by decide) rfl rfl f9 (hb hby d13_78) (fun T14 h14 lc14 X14 e14 N14 W14 => ?_)
  have E15_a1 := E13_a1.wr W14
  have E15_t_2 := E13_t_2.wr W14
  have F15_descriptors_a1 := F13_descriptors_a1.other W14 (Or.inr (slot_ne (Or.inr (hw _ (List.mem_of_getElem? (i := 199) rfl))) (Or.inr (hw _ (List.mem_of_getElem? (i := 201) rfl))) (by decide) (t := (.object "java/util/List")) (t' := (.object "java/util/Optional")) (by decide) (by decide)))
  have F15_arguments_a1 := F13_arguments_a1.other W14 (Or.inr (slot_ne (Or.inr (hw _ (List.mem_of_getElem? (i := 203) rfl))) (Or.inr (hw _ (List.mem_of_getElem? (i := 201) rfl))) (by decide) (t := (.object "java/util/List")) (t' := (.object "java/util/Optional")) (by decide) (by decide)))
  have F15_allPermissions_a1 := F13_allPermissions_a1.other W14 (Or.inr (slot_ne (Or.inr (hw _ (List.mem_of_getElem? (i := 205) rfl))) (Or.inr (hw _ (List.mem_of_getElem? (i := 201) rfl))) (by decide) (t := .boolean) (t' := (.object "java/util/Optional")) (by decide) (by decide)))
  have F15_javaRequests_a1 := F13_javaRequests_a1.other W14 (Or.inr (slot_ne (Or.inr (hw _ (List.mem_of_getElem? (i := 207) rfl))) (Or.inr (hw _ (List.mem_of_getElem? (i := 201) rfl))) (by decide) (t := (.object "java/util/List")) (t' := (.object "java/util/Optional")) (by decide) (by decide)))
  have F15_jars_a1 := F13_jars_a1.other W14 (Or.inr (slot_ne (Or.inr (hw _ (List.mem_of_getElem? (i := 209) rfl))) (Or.inr (hw _ (List.mem_of_getElem? (i := 201) rfl))) (by decide) (t := (.object "java/util/List")) (t' := (.object "java/util/Optional")) (by decide) (by decide)))
  have F15_nativeLibraries_a1 := F13_nativeLibraries_a1.other W14 (Or.inr (slot_ne (Or.inr (hw _ (List.mem_of_getElem? (i := 211) rfl))) (Or.inr (hw _ (List.mem_of_getElem? (i := 201) rfl))) (by decide) (t := (.object "java/util/List")) (t' := (.object "java/util/Optional")) (by decide) (by decide)))
  have F15_properties_a1 := F13_properties_a1.other W14 (Or.inr (slot_ne (Or.inr (hw _ (List.mem_of_getElem? (i := 213) rfl))) (Or.inr (hw _ (List.mem_of_getElem? (i := 201) rfl))) (by decide) (t := (.object "java/util/List")) (t' := (.object "java/util/Optional")) (by decide) (by decide)))
  have F15_elements_t_2 := F13_elements_t_2.other W14 (Or.inl (Ne.symm ne_a1_t_2))
  have A15_q_2 := A13_q_2.other W14 (Ne.symm ne_a1_q_2)
  have O15 := O13.wr W14 f9
  have KC15 := KC13.wr W14 (Or.inl (List.mem_of_getElem? (i := 0) rfl))
  refine own_aloadN X14 hx (hb hby d13_81) rfl rfl ?_
  refine own_aloadN X14 hx (hb hby d13_82) rfl rfl ?_
  refine own_putF X14 hx hZ hown N14 (host := "") (Or.inl (hw _ (List.mem_of_getElem? (i := 202) rfl))) Via.refl e14 F15_arguments_a1 E15_a1 (Or.inr ⟨(hw _ (List.mem_of_getElem? (i := 203) rfl)), rfl, hnm⟩) (hw _ (List.mem_of_getElem? (i := 93) rfl)) (ty := (.object "java/util/List")) (by decide) rfl rfl f9 (hb hby d13_83) (fun T16 h16 lc16 X16 e16 N16 W16 => ?_)
  have E17_a1 := E15_a1.wr W16
  have E17_t_2 := E15_t_2.wr W16
  have F17_descriptors_a1 := F15_descriptors_a1.other W16 (Or.inr (slot_ne (Or.inr (hw _ (List.mem_of_getElem? (i := 199) rfl))) (Or.inr (hw _ (List.mem_of_getElem? (i := 203) rfl))) (by decide) (t := (.object "java/util/List")) (t' := (.object "java/util/List")) (by decide) (by decide)))
  have F17_allPermissions_a1 := F15_allPermissions_a1.other W16 (Or.inr (slot_ne (Or.inr (hw _ (List.mem_of_getElem? (i := 205) rfl))) (Or.inr (hw _ (List.mem_of_getElem? (i := 203) rfl))) (by decide) (t := .boolean) (t' := (.object "java/util/List")) (by decide) (by decide)))
  have F17_javaRequests_a1 := F15_javaRequests_a1.other W16 (Or.inr (slot_ne (Or.inr (hw _ (List.mem_of_getElem? (i := 207) rfl))) (Or.inr (hw _ (List.mem_of_getElem? (i := 203) rfl))) (by decide) (t := (.object "java/util/List")) (t' := (.object "java/util/List")) (by decide) (by decide)))
  have F17_jars_a1 := F15_jars_a1.other W16 (Or.inr (slot_ne (Or.inr (hw _ (List.mem_of_getElem? (i := 209) rfl))) (Or.inr (hw _ (List.mem_of_getElem? (i := 203) rfl))) (by decide) (t := (.object "java/util/List")) (t' := (.object "java/util/List")) (by decide) (by decide)))
  have F17_nativeLibraries_a1 := F15_nativeLibraries_a1.other W16 (Or.inr (slot_ne (Or.inr (hw _ (List.mem_of_getElem? (i := 211) rfl))) (Or.inr (hw _ (List.mem_of_getElem? (i := 203) rfl))) (by decide) (t := (.object "java/util/List")) (t' := (.object "java/util/List")) (by decide) (by decide)))
  have F17_properties_a1 := F15_properties_a1.other W16 (Or.inr (slot_ne (Or.inr (hw _ (List.mem_of_getElem? (i := 213) rfl))) (Or.inr (hw _ (List.mem_of_getElem? (i := 203) rfl))) (by decide) (t := (.object "java/util/List")) (t' := (.object "java/util/List")) (by decide) (by decide)))
  have F17_elements_t_2 := F15_elements_t_2.other W16 (Or.inl (Ne.symm ne_a1_t_2))
  have A17_q_2 := A15_q_2.other W16 (Ne.symm ne_a1_q_2)
  have O17 := O15.wr W16 f9
  have KC17 := KC15.wr W16 (Or.inl (List.mem_of_getElem? (i := 0) rfl))
  refine own_aloadN X16 hx (hb hby d13_86) rfl rfl ?_
  refine own_iload X16 hx (hb hby d13_87) rfl ?_
  refine own_putF X16 hx hZ hown N16 (host := "") (Or.inl (hw _ (List.mem_of_getElem? (i := 204) rfl))) Via.refl e16 F17_allPermissions_a1 E17_a1 (Or.inr ⟨(hw _ (List.mem_of_getElem? (i := 205) rfl)), rfl, hnm⟩) (hw _ (List.mem_of_getElem? (i := 93) rfl)) (ty := .boolean) (by decide) nb_p5.1 nb_p5.2 f9 (hb hby d13_89) (fun T18 h18 lc18 X18 e18 N18 W18 => ?_)
  have E19_a1 := E17_a1.wr W18
  have E19_t_2 := E17_t_2.wr W18
  have F19_descriptors_a1 := F17_descriptors_a1.other W18 (Or.inr (slot_ne (Or.inr (hw _ (List.mem_of_getElem? (i := 199) rfl))) (Or.inr (hw _ (List.mem_of_getElem? (i := 205) rfl))) (by decide) (t := (.object "java/util/List")) (t' := .boolean) (by decide) (by decide)))
  have F19_javaRequests_a1 := F17_javaRequests_a1.other W18 (Or.inr (slot_ne (Or.inr (hw _ (List.mem_of_getElem? (i := 207) rfl))) (Or.inr (hw _ (List.mem_of_getElem? (i := 205) rfl))) (by decide) (t := (.object "java/util/List")) (t' := .boolean) (by decide) (by decide)))
  have F19_jars_a1 := F17_jars_a1.other W18 (Or.inr (slot_ne (Or.inr (hw _ (List.mem_of_getElem? (i := 209) rfl))) (Or.inr (hw _ (List.mem_of_getElem? (i := 205) rfl))) (by decide) (t := (.object "java/util/List")) (t' := .boolean) (by decide) (by decide)))
  have F19_nativeLibraries_a1 := F17_nativeLibraries_a1.other W18 (Or.inr (slot_ne (Or.inr (hw _ (List.mem_of_getElem? (i := 211) rfl))) (Or.inr (hw _ (List.mem_of_getElem? (i := 205) rfl))) (by decide) (t := (.object "java/util/List")) (t' := .boolean) (by decide) (by decide)))
  have F19_properties_a1 := F17_properties_a1.other W18 (Or.inr (slot_ne (Or.inr (hw _ (List.mem_of_getElem? (i := 213) rfl))) (Or.inr (hw _ (List.mem_of_getElem? (i := 205) rfl))) (by decide) (t := (.object "java/util/List")) (t' := .boolean) (by decide) (by decide)))
  have F19_elements_t_2 := F17_elements_t_2.other W18 (Or.inl (Ne.symm ne_a1_t_2))
  have A19_q_2 := A17_q_2.other W18 (Ne.symm ne_a1_q_2)
  have O19 := O17.wr W18 f9
  have KC19 := KC17.wr W18 (Or.inl (List.mem_of_getElem? (i := 0) rfl))
  refine own_aloadN X18 hx (hb hby d13_92) rfl rfl ?_
  refine own_aload X18 hx (hb hby d13_93) rfl rfl ?_
  refine own_putF X18 hx hZ hown N18 (host := "") (Or.inl (hw _ (List.mem_of_getElem? (i := 206) rfl))) Via.refl e18 F19_javaRequests_a1 E19_a1 (Or.inr ⟨(hw _ (List.mem_of_getElem? (i := 207) rfl)), rfl, hnm⟩) (hw _ (List.mem_of_getElem? (i := 93) rfl)) (ty := (.object "java/util/List")) (by decide) rfl rfl f9 (hb hby d13_95) (fun T20 h20 lc20 X20 e20 N20 W20 => ?_)
  have E21_a1 := E19_a1.wr W20
  have E21_t_2 := E19_t_2.wr W20
  have F21_descriptors_a1 := F19_descriptors_a1.other W20 (Or.inr (slot_ne (Or.inr (hw _ (List.mem_of_getElem? (i := 199) rfl))) (Or.inr (hw _ (List.mem_of_getElem? (i := 207) rfl))) (by decide) (t := (.object "java/util/List")) (t' := (.object "java/util/List")) (by decide) (by decide)))
  have F21_jars_a1 := F19_jars_a1.other W20 (Or.inr (slot_ne (Or.inr (hw _ (List.mem_of_getElem? (i := 209) rfl))) (Or.inr (hw _ (List.mem_of_getElem? (i := 207) rfl))) (by decide) (t := (.object "java/util/List")) (t' := (.object "java/util/List")) (by decide) (by decide)))
  have F21_nativeLibraries_a1 := F19_nativeLibraries_a1.other W20 (Or.inr (slot_ne (Or.inr (hw _ (List.mem_of_getElem? (i := 211) rfl))) (Or.inr (hw _ (List.mem_of_getElem? (i := 207) rfl))) (by decide) (t := (.object "java/util/List")) (t' := (.object "java/util/List")) (by decide) (by decide)))
  have F21_properties_a1 := F19_properties_a1.other W20 (Or.inr (slot_ne (Or.inr (hw _ (List.mem_of_getElem? (i := 213) rfl))) (Or.inr (hw _ (List.mem_of_getElem? (i := 207) rfl))) (by decide) (t := (.object "java/util/List")) (t' := (.object "java/util/List")) (by decide) (by decide)))
  have F21_elements_t_2 := F19_elements_t_2.other W20 (Or.inl (Ne.symm ne_a1_t_2))
  have A21_q_2 := A19_q_2.other W20 (Ne.symm ne_a1_q_2)
  have O21 := O19.wr W20 f9
  have KC21 := KC19.wr W20 (Or.inl (List.mem_of_getElem? (i := 0) rfl))
  refine own_aloadN X20 hx (hb hby d13_98) rfl rfl ?_
  refine own_aload X20 hx (hb hby d13_99) rfl rfl ?_
  refine own_putF X20 hx hZ hown N20 (host := "") (Or.inl (hw _ (List.mem_of_getElem? (i := 208) rfl))) Via.refl e20 F21_jars_a1 E21_a1 (Or.inr ⟨(hw _ (List.mem_of_getElem? (i := 209) rfl)), rfl, hnm⟩) (hw _ (List.mem_of_getElem? (i := 93) rfl)) (ty := (.object "java/util/List")) (by decide) rfl rfl f9 (hb hby d13_101) (fun T22 h22 lc22 X22 e22 N22 W22 => ?_)
  have E23_a1 := E21_a1.wr W22
  have E23_t_2 := E21_t_2.wr W22
  have F23_descriptors_a1 := F21_descriptors_a1.other W22 (Or.inr (slot_ne (Or.inr (hw _ (List.mem_of_getElem? (i := 199) rfl))) (Or.inr (hw _ (List.mem_of_getElem? (i := 209) rfl))) (by decide) (t := (.object "java/util/List")) (t' := (.object "java/util/List")) (by decide) (by decide)))
  have F23_nativeLibraries_a1 := F21_nativeLibraries_a1.other W22 (Or.inr (slot_ne (Or.inr (hw _ (List.mem_of_getElem? (i := 211) rfl))) (Or.inr (hw _ (List.mem_of_getElem? (i := 209) rfl))) (by decide) (t := (.object "java/util/List")) (t' := (.object "java/util/List")) (by decide) (by decide)))
  have F23_properties_a1 := F21_properties_a1.other W22 (Or.inr (slot_ne (Or.inr (hw _ (List.mem_of_getElem? (i := 213) rfl))) (Or.inr (hw _ (List.mem_of_getElem? (i := 209) rfl))) (by decide) (t := (.object "java/util/List")) (t' := (.object "java/util/List")) (by decide) (by decide)))
  have F23_elements_t_2 := F21_elements_t_2.other W22 (Or.inl (Ne.symm ne_a1_t_2))
  have A23_q_2 := A21_q_2.other W22 (Ne.symm ne_a1_q_2)
  have O23 := O21.wr W22 f9
  have KC23 := KC21.wr W22 (Or.inl (List.mem_of_getElem? (i := 0) rfl))
  refine own_aloadN X22 hx (hb hby d13_104) rfl rfl ?_
  refine own_aload X22 hx (hb hby d13_105) rfl rfl ?_
  refine own_putF X22 hx hZ hown N22 (host := "") (Or.inl (hw _ (List.mem_of_getElem? (i := 210) rfl))) Via.refl e22 F23_nativeLibraries_a1 E23_a1 (Or.inr ⟨(hw _ (List.mem_of_getElem? (i := 211) rfl)), rfl, hnm⟩) (hw _ (List.mem_of_getElem? (i := 93) rfl)) (ty := (.object "java/util/List")) (by decide) rfl rfl f9 (hb hby d13_107) (fun T24 h24 lc24 X24 e24 N24 W24 => ?_)
  have E25_a1 := E23_a1.wr W24
  have E25_t_2 := E23_t_2.wr W24
  have F25_descriptors_a1 := F23_descriptors_a1.other W24 (Or.inr (slot_ne (Or.inr (hw _ (List.mem_of_getElem? (i := 199) rfl))) (Or.inr (hw _ (List.mem_of_getElem? (i := 211) rfl))) (by decide) (t := (.object "java/util/List")) (t' := (.object "java/util/List")) (by decide) (by decide)))
  have F25_properties_a1 := F23_properties_a1.other W24 (Or.inr (slot_ne (Or.inr (hw _ (List.mem_of_getElem? (i := 213) rfl))) (Or.inr (hw _ (List.mem_of_getElem? (i := 211) rfl))) (by decide) (t := (.object "java/util/List")) (t' := (.object "java/util/List")) (by decide) (by decide)))
  have F25_elements_t_2 := F23_elements_t_2.other W24 (Or.inl (Ne.symm ne_a1_t_2))
  have A25_q_2 := A23_q_2.other W24 (Ne.symm ne_a1_q_2)
  have O25 := O23.wr W24 f9
  have KC25 := KC23.wr W24 (Or.inl (List.mem_of_getElem? (i := 0) rfl))
  refine own_aloadN X24 hx (hb hby d13_110) rfl rfl ?_
  refine own_aload X24 hx (hb hby d13_111) rfl rfl ?_
  refine own_putF X24 hx hZ hown N24 (host := "") (Or.inl (hw _ (List.mem_of_getElem? (i := 212) rfl))) Via.refl e24 F25_properties_a1 E25_a1 (Or.inr ⟨(hw _ (List.mem_of_getElem? (i := 213) rfl)), rfl, hnm⟩) (hw _ (List.mem_of_getElem? (i := 93) rfl)) (ty := (.object "java/util/List")) (by decide) rfl rfl f9 (hb hby d13_113) (fun T26 h26 lc26 X26 e26 N26 W26 => ?_)
  have E27_a1 := E25_a1.wr W26
  have E27_t_2 := E25_t_2.wr W26
  have F27_descriptors_a1 := F25_descriptors_a1.other W26 (Or.inr (slot_ne (Or.inr (hw _ (List.mem_of_getElem? (i := 199) rfl))) (Or.inr (hw _ (List.mem_of_getElem? (i := 213) rfl))) (by decide) (t := (.object "java/util/List")) (t' := (.object "java/util/List")) (by decide) (by decide)))
  have F27_elements_t_2 := F25_elements_t_2.other W26 (Or.inl (Ne.symm ne_a1_t_2))
  have A27_q_2 := A25_q_2.other W26 (Ne.symm ne_a1_q_2)
  have O27 := O25.wr W26 f9
  have KC27 := KC25.wr W26 (Or.inl (List.mem_of_getElem? (i := 0) rfl))
  show Goes _ _ _ _ _ _ (T26.setTop (mkF m 116 #[.val (.ref a1), .val (.ref t_2), .val .null, .val (.ref w_EMPTY_LIST), .val (.int p5), .val (.ref w_EMPTY_LIST), .val (.ref t_6), .val (.ref w_EMPTY_LIST), .val (.ref w_EMPTY_LIST)] []))
  exact own_retV X26 hx N26 hlk (by decide) (by decide) hret (hb hby d13_116) (by rw [e26]; exact ⟨t_2, q_2, kq_2, rfl, KC27, E27_a1, F27_descriptors_a1, E27_t_2, F27_elements_t_2, A27_q_2, sz_t_2, sz_q_2⟩)
theorem d38_0 : decode jdk_45_method_4_code 0 = .ok (.aload_n 0, 1) := by decide +kernel
theorem d38_1 : decode jdk_45_method_4_code 1 = .ok (.getfield 7, 3) := by decide +kernel
theorem d38_4 : decode jdk_45_method_4_code 4 = .ok (.iload_n 1, 1) := by decide +kernel
theorem d38_5 : decode jdk_45_method_4_code 5 = .ok (.aaload, 1) := by decide +kernel
theorem d38_6 : decode jdk_45_method_4_code 6 = .ok (.areturn, 1) := by decide +kernel
def Q38 (Z : State) (a1 : Addr) (q : Addr) (kq : ClassId) (x0 : Addr) (x1 : Addr) (x2 : Addr) (w_EMPTY_ELEMENTDATA : Addr) (w_DEFAULTCAPACITY_EMPTY_ELEMENTDATA : Addr) (w_EMPTY : Addr) (w_EMPTY_LIST : Addr) (k_w_EMPTY_ELEMENTDATA : ClassId) (k_w_DEFAULTCAPACITY_EMPTY_ELEMENTDATA : ClassId) (w_mir : Addr) (w_els : Addr) (k_els : ClassId) (h0 : Heap) (n0 : Nat) (v : Option Value) (h : Heap) : Prop :=
  (v = some (.ref x0) ∧ h = h0)
theorem ef_38 (m : MethodId) (a1 : Addr) : entryFrame m #[(.ref a1), (.int (0 : Int32))] 2 = mkF m 0 #[.val (.ref a1), .val (.int (0 : Int32))] [] := by first | (simp [entryFrame, mkF, argsToLocals, Value.category]; done) | rfl
set_option maxRecDepth 65536 in
set_option maxHeartbeats 40000000 in
theorem rm38 (l : Launch) (Z : State) (a0 : Array Value) (hw : ∀ d ∈ tables_1, d.before a0 Z = true) (ws : List Jvm.Cond) (a1 : Addr) (q : Addr) (kq : ClassId) (x0 : Addr) (x1 : Addr) (x2 : Addr) (w_EMPTY_ELEMENTDATA : Addr) (w_DEFAULTCAPACITY_EMPTY_ELEMENTDATA : Addr) (w_EMPTY : Addr) (w_EMPTY_LIST : Addr) (k_w_EMPTY_ELEMENTDATA : ClassId) (k_w_DEFAULTCAPACITY_EMPTY_ELEMENTDATA : ClassId) (w_mir : Addr) (w_els : Addr) (k_els : ClassId) (h0 : Heap) (n0 : Nat) (O0 : Old Z n0 h0) (SF : Start Z w_EMPTY_ELEMENTDATA w_DEFAULTCAPACITY_EMPTY_ELEMENTDATA w_EMPTY w_EMPTY_LIST k_w_EMPTY_ELEMENTDATA k_w_DEFAULTCAPACITY_EMPTY_ELEMENTDATA w_mir w_els k_els) (f0 : Fld Z h0 a1 "java/util/ImmutableCollections$ListN" "elements" "[Ljava/lang/Object;" (.ref q)) (f1 : Arv Z h0 q kq (.object "java/lang/Object") ((((0 : Int32) + (1 : Int32)) + (1 : Int32)) + (1 : Int32)) [(.ref x0), (.ref x1), (.ref x2)] .null) :
    Meets l (⟨"java/util/ImmutableCollections$ListN", "get", "(I)Ljava/lang/Object;"⟩ : MethodName) jdk_45_method_4_code 2 (some (.object "java/lang/Object")) ws ({ frames := 0, cells := 0, slots := 0, locals := 0 } : Room) ({ frames := 0, cells := 0, slots := 0, locals := 0 } : Room).cells ({ frames := 0, cells := 0, slots := 0, locals := 0 } : Room).slots Z #[(.ref a1), (.int (0 : Int32))] h0 n0 (Q38 Z a1 q kq x0 x1 x2 w_EMPTY_ELEMENTDATA w_DEFAULTCAPACITY_EMPTY_ELEMENTDATA w_EMPTY w_EMPTY_LIST k_w_EMPTY_ELEMENTDATA k_w_DEFAULTCAPACITY_EMPTY_ELEMENTDATA w_mir w_els k_els h0 n0) := by
  refine Meets.of (F := fun m => mkF m 0 #[.val (.ref a1), .val (.int (0 : Int32))] []) (plainFor_of_name pn_13) (fun m => ef_38 m a1) ?_
  intro p e s m below meth c T0 hx hby hml hown0 hnm hret hlk hZ X0 e0
  have hown : s.vm.findClass "java/util/ImmutableCollections$ListN" = some m.cls := hown0
  have N0 := Fr.nil n0
  obtain ⟨z0, z1, z2, z3, z4, z5, z6, z7, z8, z9, z10, z11, zm, z13, z14, -⟩ := SF
  show Goes _ _ _ _ _ _ (T0.setTop (mkF m 0 #[.val (.ref a1), .val (.int (0 : Int32))] []))
  refine own_aloadN X0 hx (hb hby d38_0) rfl rfl ?_
  refine own_getF X0 hx hZ hown (host := "") (Or.inl (hw _ (List.mem_of_getElem? (i := 270) rfl))) Via.refl e0 f0 (hb hby d38_1) (fun T1 X1 e1 => ?_)
  refine own_iloadN X1 hx (hb hby d38_4) rfl ?_
  refine own_aaload X1 hx hZ e1 f1 rfl ⟨by decide, by decide⟩ (v := (.ref x0)) rfl (hb hby d38_5) ?_
  show Goes _ _ _ _ _ _ (T1.setTop (mkF m 6 #[.val (.ref a1), .val (.int (0 : Int32))] [(.ref x0)]))
  exact own_retR X1 hx N0 hlk (by decide) (by decide) hret rfl rfl rfl (hb hby d38_6) (by rw [e1]; exact ⟨rfl, rfl⟩)
def Q30N (Z : State) (a1 : Addr) (t : Addr) (q : Addr) (kq : ClassId) (x0 : Addr) (x1 : Addr) (x2 : Addr) (w_EMPTY_ELEMENTDATA : Addr) (w_DEFAULTCAPACITY_EMPTY_ELEMENTDATA : Addr) (w_EMPTY : Addr) (w_EMPTY_LIST : Addr) (k_w_EMPTY_ELEMENTDATA : ClassId) (k_w_DEFAULTCAPACITY_EMPTY_ELEMENTDATA : ClassId) (w_mir : Addr) (w_els : Addr) (k_els : ClassId) (h0 : Heap) (n0 : Nat) (v : Option Value) (h : Heap) : Prop :=
  (v = some (.ref x0) ∧ h = h0)
theorem ef_30N (m : MethodId) (a1 : Addr) : entryFrame m #[(.ref a1)] 1 = mkF m 0 #[.val (.ref a1)] [] := by first | (simp [entryFrame, mkF, argsToLocals, Value.category]; done) | rfl
set_option maxRecDepth 65536 in
set_option maxHeartbeats 40000000 in
theorem rm30N (l : Launch) (Z : State) (a0 : Array Value) (hw : ∀ d ∈ tables_1, d.before a0 Z = true) (ws : List Jvm.Cond) (a1 : Addr) (t : Addr) (q : Addr) (kq : ClassId) (x0 : Addr) (x1 : Addr) (x2 : Addr) (w_EMPTY_ELEMENTDATA : Addr) (w_DEFAULTCAPACITY_EMPTY_ELEMENTDATA : Addr) (w_EMPTY : Addr) (w_EMPTY_LIST : Addr) (k_w_EMPTY_ELEMENTDATA : ClassId) (k_w_DEFAULTCAPACITY_EMPTY_ELEMENTDATA : ClassId) (w_mir : Addr) (w_els : Addr) (k_els : ClassId) (h0 : Heap) (n0 : Nat) (O0 : Old Z n0 h0) (SF : Start Z w_EMPTY_ELEMENTDATA w_DEFAULTCAPACITY_EMPTY_ELEMENTDATA w_EMPTY w_EMPTY_LIST k_w_EMPTY_ELEMENTDATA k_w_DEFAULTCAPACITY_EMPTY_ELEMENTDATA w_mir w_els k_els) (f0 : Fld Z h0 a1 "com/example/gantry/gantry/resolver/Resolution" "descriptors" "Ljava/util/List;" (.ref t)) (f1 : Exa Z h0 t "java/util/ImmutableCollections$ListN") (f2 : Fld Z h0 t "java/util/ImmutableCollections$ListN" "elements" "[Ljava/lang/Object;" (.ref q)) (f3 : Arv Z h0 q kq (.object "java/lang/Object") ((((0 : Int32) + (1 : Int32)) + (1 : Int32)) + (1 : Int32)) [(.ref x0), (.ref x1), (.ref x2)] .null) (f4 : Exa Z h0 x0 "com/example/gantry/gantry/resolver/LocalCopy") :
    Meets l (⟨"com/example/gantry/gantry/resolver/Resolution", "application", "()Lcom/example/gantry/gantry/resolver/LocalCopy;"⟩ : MethodName) prog_66_method_2_code 1 (some (.object "com/example/gantry/gantry/resolver/LocalCopy")) ws ({ frames := 1, cells := 0, slots := 0, locals := 13 } : Room) ({ frames := 1, cells := 0, slots := 0, locals := 13 } : Room).cells ({ frames := 1, cells := 0, slots := 0, locals := 13 } : Room).slots Z #[(.ref a1)] h0 n0 (Q30N Z a1 t q kq x0 x1 x2 w_EMPTY_ELEMENTDATA w_DEFAULTCAPACITY_EMPTY_ELEMENTDATA w_EMPTY w_EMPTY_LIST k_w_EMPTY_ELEMENTDATA k_w_DEFAULTCAPACITY_EMPTY_ELEMENTDATA w_mir w_els k_els h0 n0) := by
  refine Meets.of (F := fun m => mkF m 0 #[.val (.ref a1)] []) (plainFor_of_name pn_14) (fun m => ef_30N m a1) ?_
  intro p e s m below meth c T0 hx hby hml hown0 hnm hret hlk hZ X0 e0
  have hown : s.vm.findClass "com/example/gantry/gantry/resolver/Resolution" = some m.cls := hown0
  have N0 := Fr.nil n0
  obtain ⟨z0, z1, z2, z3, z4, z5, z6, z7, z8, z9, z10, z11, zm, z13, z14, -⟩ := SF
  show Goes _ _ _ _ _ _ (T0.setTop (mkF m 0 #[.val (.ref a1)] []))
  refine own_aloadN X0 hx (hb hby d30_0) rfl rfl ?_
  refine own_getF X0 hx hZ hown (host := "") (Or.inl (hw _ (List.mem_of_getElem? (i := 198) rfl))) Via.refl e0 f0 (hb hby d30_1) (fun T1 X1 e1 => ?_)
  refine own_iconst X1 hx (v := (0 : Int32)) (hb hby d30_4) rfl ?_
  refine own_iface X1 hx hZ hown (y := (⟨"java/util/List", "get", "(I)Ljava/lang/Object;"⟩ : MethodName)) (z := (⟨"java/util/ImmutableCollections$ListN", "get", "(I)Ljava/lang/Object;"⟩ : MethodName)) (hw _ (List.mem_of_getElem? (i := 230) rfl)) (hw _ (List.mem_of_getElem? (i := 231) rfl)) (hw _ (List.mem_of_getElem? (i := 232) rfl)) (hw _ (List.mem_of_getElem? (i := 280) rfl)) (hw _ (List.mem_of_getElem? (i := 281) rfl)) (hw _ (List.mem_of_getElem? (i := 282) rfl)) (hw _ (List.mem_of_getElem? (i := 283) rfl)) (hw _ (List.mem_of_getElem? (i := 278) rfl)) (hw _ (List.mem_of_getElem? (i := 261) rfl)) (hw _ (List.mem_of_getElem? (i := 284) rfl)) (a := t) f1 (by decide) (W := 0) (by decide) (by decide) N0 e1 (by rw [hml]; rfl) (argsL := [(.int (0 : Int32))]) (rest := []) (lenOf pd_15 rfl) (Nat.le_of_eq rfl) (by decide) (by decide) (rm38 l Z a0 hw [] t q kq x0 x1 x2 w_EMPTY_ELEMENTDATA w_DEFAULTCAPACITY_EMPTY_ELEMENTDATA w_EMPTY w_EMPTY_LIST k_w_EMPTY_ELEMENTDATA k_w_DEFAULTCAPACITY_EMPTY_ELEMENTDATA w_mir w_els k_els h0 n0 O0 ⟨z0, z1, z2, z3, z4, z5, z6, z7, z8, z9, z10, z11, zm, z13, z14, trivial⟩ f2 f3) rfl (hb hby d30_5) ?_
  intro v2 T2 lc2 X2 N2 hQ2
  obtain ⟨rfl, e2⟩ := hQ2
  refine own_castY X2 hx hZ hown (hw _ (List.mem_of_getElem? (i := 238) rfl)) e2 (Ins.self f4) (hb hby d30_10) (fun T3 X3 e3 => ?_)
  show Goes _ _ _ _ _ _ (T3.setTop (mkF m 13 #[.val (.ref a1)] [(.ref x0)]))
  exact own_retR X3 hx N2 hlk (by decide) (by decide) hret rfl rfl rfl (hb hby d30_13) (by rw [e3]; exact ⟨rfl, rfl⟩)
theorem d32_0 : decode prog_66_method_6_code 0 = .ok (.aload_n 0, 1) := by decide +kernel
theorem d32_1 : decode prog_66_method_6_code 1 = .ok (.getfield 24, 3) := by decide +kernel
theorem d32_4 : decode prog_66_method_6_code 4 = .ok (.areturn, 1) := by decide +kernel
def Q32 (Z : State) (a1 : Addr) (t : Addr) (w_EMPTY_ELEMENTDATA : Addr) (w_DEFAULTCAPACITY_EMPTY_ELEMENTDATA : Addr) (w_EMPTY : Addr) (w_EMPTY_LIST : Addr) (k_w_EMPTY_ELEMENTDATA : ClassId) (k_w_DEFAULTCAPACITY_EMPTY_ELEMENTDATA : ClassId) (w_mir : Addr) (w_els : Addr) (k_els : ClassId) (h0 : Heap) (n0 : Nat) (v : Option Value) (h : Heap) : Prop :=
  (v = some (.ref t) ∧ h = h0)
theorem ef_32 (m : MethodId) (a1 : Addr) : entryFrame m #[(.ref a1)] 1 = mkF m 0 #[.val (.ref a1)] [] := by first | (simp [entryFrame, mkF, argsToLocals, Value.category]; done) | rfl
set_option maxRecDepth 65536 in
set_option maxHeartbeats 40000000 in
theorem rm32 (l : Launch) (Z : State) (a0 : Array Value) (hw : ∀ d ∈ tables_1, d.before a0 Z = true) (ws : List Jvm.Cond) (a1 : Addr) (t : Addr) (w_EMPTY_ELEMENTDATA : Addr) (w_DEFAULTCAPACITY_EMPTY_ELEMENTDATA : Addr) (w_EMPTY : Addr) (w_EMPTY_LIST : Addr) (k_w_EMPTY_ELEMENTDATA : ClassId) (k_w_DEFAULTCAPACITY_EMPTY_ELEMENTDATA : ClassId) (w_mir : Addr) (w_els : Addr) (k_els : ClassId) (h0 : Heap) (n0 : Nat) (O0 : Old Z n0 h0) (SF : Start Z w_EMPTY_ELEMENTDATA w_DEFAULTCAPACITY_EMPTY_ELEMENTDATA w_EMPTY w_EMPTY_LIST k_w_EMPTY_ELEMENTDATA k_w_DEFAULTCAPACITY_EMPTY_ELEMENTDATA w_mir w_els k_els) (f0 : Fld Z h0 a1 "com/example/gantry/gantry/resolver/Resolution" "descriptors" "Ljava/util/List;" (.ref t)) :
    Meets l (⟨"com/example/gantry/gantry/resolver/Resolution", "descriptors", "()Ljava/util/List;"⟩ : MethodName) prog_66_method_6_code 1 (some (.object "java/util/List")) ws ({ frames := 0, cells := 0, slots := 0, locals := 0 } : Room) ({ frames := 0, cells := 0, slots := 0, locals := 0 } : Room).cells ({ frames := 0, cells := 0, slots := 0, locals := 0 } : Room).slots Z #[(.ref a1)] h0 n0 (Q32 Z a1 t w_EMPTY_ELEMENTDATA w_DEFAULTCAPACITY_EMPTY_ELEMENTDATA w_EMPTY w_EMPTY_LIST k_w_EMPTY_ELEMENTDATA k_w_DEFAULTCAPACITY_EMPTY_ELEMENTDATA w_mir w_els k_els h0 n0) := by
  refine Meets.of (F := fun m => mkF m 0 #[.val (.ref a1)] []) (plainFor_of_name pn_14) (fun m => ef_32 m a1) ?_
  intro p e s m below meth c T0 hx hby hml hown0 hnm hret hlk hZ X0 e0
  have hown : s.vm.findClass "com/example/gantry/gantry/resolver/Resolution" = some m.cls := hown0
  have N0 := Fr.nil n0
  obtain ⟨z0, z1, z2, z3, z4, z5, z6, z7, z8, z9, z10, z11, zm, z13, z14, -⟩ := SF
  show Goes _ _ _ _ _ _ (T0.setTop (mkF m 0 #[.val (.ref a1)] []))
  refine own_aloadN X0 hx (hb hby d32_0) rfl rfl ?_
  refine own_getF X0 hx hZ hown (host := "") (Or.inl (hw _ (List.mem_of_getElem? (i := 198) rfl))) Via.refl e0 f0 (hb hby d32_1) (fun T1 X1 e1 => ?_)
  show Goes _ _ _ _ _ _ (T1.setTop (mkF m 4 #[.val (.ref a1)] [(.ref t)]))
  exact own_retR X1 hx N0 hlk (by decide) (by decide) hret rfl rfl rfl (hb hby d32_4) (by rw [e1]; exact ⟨rfl, rfl⟩)
theorem d33_0 : decode jdk_44_method_3_code 0 = .ok (.aload_n 0, 1) := by decide +kernel
theorem d33_1 : decode jdk_44_method_3_code 1 = .ok (.getfield 24, 3) := by decide +kernel
theorem d33_4 : decode jdk_44_method_3_code 4 = .ok (.getstatic 19, 3) := by decide +kernel
theorem d33_7 : decode jdk_44_method_3_code 7 = .ok (.if_acmp .eq 7, 3) := by decide +kernel
theorem d33_14 : decode jdk_44_method_3_code 14 = .ok (.iconst 1, 1) := by decide +kernel
theorem d33_15 : decode jdk_44_method_3_code 15 = .ok (.ireturn, 1) := by decide +kernel
def Q331 (Z : State) (a1 : Addr) (w_EMPTY_ELEMENTDATA : Addr) (w_DEFAULTCAPACITY_EMPTY_ELEMENTDATA : Addr) (w_EMPTY : Addr) (w_EMPTY_LIST : Addr) (k_w_EMPTY_ELEMENTDATA : ClassId) (k_w_DEFAULTCAPACITY_EMPTY_ELEMENTDATA : ClassId) (w_mir : Addr) (w_els : Addr) (k_els : ClassId) (h0 : Heap) (n0 : Nat) (v : Option Value) (h : Heap) : Prop :=
  (v = some (.int (1 : Int32)) ∧ h = h0)
theorem ef_331 (m : MethodId) (a1 : Addr) : entryFrame m #[(.ref a1)] 1 = mkF m 0 #[.val (.ref a1)] [] := by first | (simp [entryFrame, mkF, argsToLocals, Value.category]; done) | rfl
set_option maxRecDepth 65536 in
set_option maxHeartbeats 40000000 in
theorem rm331 (l : Launch) (Z : State) (a0 : Array Value) (hw : ∀ d ∈ tables_1, d.before a0 Z = true) (ws : List Jvm.Cond) (a1 : Addr) (w_EMPTY_ELEMENTDATA : Addr) (w_DEFAULTCAPACITY_EMPTY_ELEMENTDATA : Addr) (w_EMPTY : Addr) (w_EMPTY_LIST : Addr) (k_w_EMPTY_ELEMENTDATA : ClassId) (k_w_DEFAULTCAPACITY_EMPTY_ELEMENTDATA : ClassId) (w_mir : Addr) (w_els : Addr) (k_els : ClassId) (h0 : Heap) (n0 : Nat) (O0 : Old Z n0 h0) (SF : Start Z w_EMPTY_ELEMENTDATA w_DEFAULTCAPACITY_EMPTY_ELEMENTDATA w_EMPTY w_EMPTY_LIST k_w_EMPTY_ELEMENTDATA k_w_DEFAULTCAPACITY_EMPTY_ELEMENTDATA w_mir w_els k_els) (f0 : Fld Z h0 a1 "java/util/ImmutableCollections$List12" "e1" "Ljava/lang/Object;" (.ref w_EMPTY)) :
    Meets l (⟨"java/util/ImmutableCollections$List12", "size", "()I"⟩ : MethodName) jdk_44_method_3_code 1 (some .int) ws ({ frames := 0, cells := 0, slots := 0, locals := 0 } : Room) ({ frames := 0, cells := 0, slots := 0, locals := 0 } : Room).cells ({ frames := 0, cells := 0, slots := 0, locals := 0 } : Room).slots Z #[(.ref a1)] h0 n0 (Q331 Z a1 w_EMPTY_ELEMENTDATA w_DEFAULTCAPACITY_EMPTY_ELEMENTDATA w_EMPTY w_EMPTY_LIST k_w_EMPTY_ELEMENTDATA k_w_DEFAULTCAPACITY_EMPTY_ELEMENTDATA w_mir w_els k_els h0 n0) := by
  refine Meets.of (F := fun m => mkF m 0 #[.val (.ref a1)] []) (plainFor_of_name pn_10) (fun m => ef_331 m a1) ?_
  intro p e s m below meth c T0 hx hby hml hown0 hnm hret hlk hZ X0 e0
  have hown : s.vm.findClass "java/util/ImmutableCollections$List12" = some m.cls := hown0
  have N0 := Fr.nil n0
  obtain ⟨z0, z1, z2, z3, z4, z5, z6, z7, z8, z9, z10, z11, zm, z13, z14, -⟩ := SF
  show Goes _ _ _ _ _ _ (T0.setTop (mkF m 0 #[.val (.ref a1)] []))
  refine own_aloadN X0 hx (hb hby d33_0) rfl rfl ?_
  refine own_getF X0 hx hZ hown (host := "") (Or.inl (hw _ (List.mem_of_getElem? (i := 183) rfl))) Via.refl e0 f0 (hb hby d33_1) (fun T1 X1 e1 => ?_)
  refine own_getS X1 hx hZ hown (Or.inr (hw _ (List.mem_of_getElem? (i := 182) rfl))) Via.refl e1 (z4.ext O0.2) (hb hby d33_4) (fun T2 X2 e2 => ?_)
  refine own_acmp X2 hx rfl rfl (same := true) (pc' := 14) (hb hby d33_7) (decide_eq_true rfl) (by decide) (by decide) ?_
  refine own_iconst X2 hx (v := (1 : Int32)) (hb hby d33_14) rfl ?_
  show Goes _ _ _ _ _ _ (T2.setTop (mkF m 15 #[.val (.ref a1)] [(.int (1 : Int32))]))
  exact own_retI X2 hx N0 hlk (by decide) (by decide) hret (hb hby d33_15) (by rw [e2]; exact ⟨rfl, rfl⟩)
theorem d33_10 : decode jdk_44_method_3_code 10 = .ok (.iconst 2, 1) := by decide +kernel
theorem d33_11 : decode jdk_44_method_3_code 11 = .ok (.goto 4, 3) := by decide +kernel
def Q332 (Z : State) (a1 : Addr) (x1 : Addr) (w_EMPTY_ELEMENTDATA : Addr) (w_DEFAULTCAPACITY_EMPTY_ELEMENTDATA : Addr) (w_EMPTY : Addr) (w_EMPTY_LIST : Addr) (k_w_EMPTY_ELEMENTDATA : ClassId) (k_w_DEFAULTCAPACITY_EMPTY_ELEMENTDATA : ClassId) (w_mir : Addr) (w_els : Addr) (k_els : ClassId) (h0 : Heap) (n0 : Nat) (v : Option Value) (h : Heap) : Prop :=
  (v = some (.int (2 : Int32)) ∧ h = h0)
theorem ef_332 (m : MethodId) (a1 : Addr) : entryFrame m #[(.ref a1)] 1 = mkF m 0 #[.val (.ref a1)] [] := by first | (simp [entryFrame, mkF, argsToLocals, Value.category]; done) | rfl
set_option maxRecDepth 65536 in
set_option maxHeartbeats 40000000 in
theorem rm332 (l : Launch) (Z : State) (a0 : Array Value) (hw : ∀ d ∈ tables_1, d.before a0 Z = true) (ws : List Jvm.Cond) (a1 : Addr) (x1 : Addr) (w_EMPTY_ELEMENTDATA : Addr) (w_DEFAULTCAPACITY_EMPTY_ELEMENTDATA : Addr) (w_EMPTY : Addr) (w_EMPTY_LIST : Addr) (k_w_EMPTY_ELEMENTDATA : ClassId) (k_w_DEFAULTCAPACITY_EMPTY_ELEMENTDATA : ClassId) (w_mir : Addr) (w_els : Addr) (k_els : ClassId) (h0 : Heap) (n0 : Nat) (O0 : Old Z n0 h0) (SF : Start Z w_EMPTY_ELEMENTDATA w_DEFAULTCAPACITY_EMPTY_ELEMENTDATA w_EMPTY w_EMPTY_LIST k_w_EMPTY_ELEMENTDATA k_w_DEFAULTCAPACITY_EMPTY_ELEMENTDATA w_mir w_els k_els) (f0 : Fld Z h0 a1 "java/util/ImmutableCollections$List12" "e1" "Ljava/lang/Object;" (.ref x1)) (hne : ¬ (x1 = w_EMPTY)) :
    Meets l (⟨"java/util/ImmutableCollections$List12", "size", "()I"⟩ : MethodName) jdk_44_method_3_code 1 (some .int) ws ({ frames := 0, cells := 0, slots := 0, locals := 0 } : Room) ({ frames := 0, cells := 0, slots := 0, locals := 0 } : Room).cells ({ frames := 0, cells := 0, slots := 0, locals := 0 } : Room).slots Z #[(.ref a1)] h0 n0 (Q332 Z a1 x1 w_EMPTY_ELEMENTDATA w_DEFAULTCAPACITY_EMPTY_ELEMENTDATA w_EMPTY w_EMPTY_LIST k_w_EMPTY_ELEMENTDATA k_w_DEFAULTCAPACITY_EMPTY_ELEMENTDATA w_mir w_els k_els h0 n0) := by
  refine Meets.of (F := fun m => mkF m 0 #[.val (.ref a1)] []) (plainFor_of_name pn_10) (fun m => ef_332 m a1) ?_
  intro p e s m below meth c T0 hx hby hml hown0 hnm hret hlk hZ X0 e0
  have hown : s.vm.findClass "java/util/ImmutableCollections$List12" = some m.cls := hown0
  have N0 := Fr.nil n0
  obtain ⟨z0, z1, z2, z3, z4, z5, z6, z7, z8, z9, z10, z11, zm, z13, z14, -⟩ := SF
  show Goes _ _ _ _ _ _ (T0.setTop (mkF m 0 #[.val (.ref a1)] []))
  refine own_aloadN X0 hx (hb hby d33_0) rfl rfl ?_
  refine own_getF X0 hx hZ hown (host := "") (Or.inl (hw _ (List.mem_of_getElem? (i := 183) rfl))) Via.refl e0 f0 (hb hby d33_1) (fun T1 X1 e1 => ?_)
  refine own_getS X1 hx hZ hown (Or.inr (hw _ (List.mem_of_getElem? (i := 182) rfl))) Via.refl e1 (z4.ext O0.2) (hb hby d33_4) (fun T2 X2 e2 => ?_)
  refine own_acmp X2 hx rfl rfl (same := false) (pc' := 10) (hb hby d33_7) (decide_eq_false fun q => hne (Value.ref.inj q)) (by decide) (by decide) ?_
  refine own_iconst X2 hx (v := (2 : Int32)) (hb hby d33_10) rfl ?_
  refine own_goto X2 hx (pc' := 15) (hb hby d33_11) (by decide) (by decide) ?_
  show Goes _ _ _ _ _ _ (T2.setTop (mkF m 15 #[.val (.ref a1)] [(.int (2 : Int32))]))
  exact own_retI X2 hx N0 hlk (by decide) (by decide) hret (hb hby d33_15) (by rw [e2]; exact ⟨rfl, rfl⟩)
theorem d39_0 : decode jdk_45_method_3_code 0 = .ok (.aload_n 0, 1) := by decide +kernel
theorem d39_1 : decode jdk_45_method_3_code 1 = .ok (.getfield 7, 3) := by decide +kernel
theorem d39_4 : decode jdk_45_method_3_code 4 = .ok (.arraylength, 1) := by decide +kernel
theorem d39_5 : decode jdk_45_method_3_code 5 = .ok (.ireturn, 1) := by decide +kernel
def Q39 (Z : State) (a1 : Addr) (q : Addr) (kq : ClassId) (z : Int32) (vs : List Value) (w_EMPTY_ELEMENTDATA : Addr) (w_DEFAULTCAPACITY_EMPTY_ELEMENTDATA : Addr) (w_EMPTY : Addr) (w_EMPTY_LIST : Addr) (k_w_EMPTY_ELEMENTDATA : ClassId) (k_w_DEFAULTCAPACITY_EMPTY_ELEMENTDATA : ClassId) (w_mir : Addr) (w_els : Addr) (k_els : ClassId) (h0 : Heap) (n0 : Nat) (v : Option Value) (h : Heap) : Prop :=
  (v = some (.int z) ∧ h = h0)
theorem ef_39 (m : MethodId) (a1 : Addr) : entryFrame m #[(.ref a1)] 1 = mkF m 0 #[.val (.ref a1)] [] := by first | (simp [entryFrame, mkF, argsToLocals, Value.category]; done) | rfl
set_option maxRecDepth 65536 in
set_option maxHeartbeats 40000000 in
theorem rm39 (l : Launch) (Z : State) (a0 : Array Value) (hw : ∀ d ∈ tables_1, d.before a0 Z = true) (ws : List Jvm.Cond) (a1 : Addr) (q : Addr) (kq : ClassId) (z : Int32) (vs : List Value) (w_EMPTY_ELEMENTDATA : Addr) (w_DEFAULTCAPACITY_EMPTY_ELEMENTDATA : Addr) (w_EMPTY : Addr) (w_EMPTY_LIST : Addr) (k_w_EMPTY_ELEMENTDATA : ClassId) (k_w_DEFAULTCAPACITY_EMPTY_ELEMENTDATA : ClassId) (w_mir : Addr) (w_els : Addr) (k_els : ClassId) (h0 : Heap) (n0 : Nat) (O0 : Old Z n0 h0) (SF : Start Z w_EMPTY_ELEMENTDATA w_DEFAULTCAPACITY_EMPTY_ELEMENTDATA w_EMPTY w_EMPTY_LIST k_w_EMPTY_ELEMENTDATA k_w_DEFAULTCAPACITY_EMPTY_ELEMENTDATA w_mir w_els k_els) (f0 : Fld Z h0 a1 "java/util/ImmutableCollections$ListN" "elements" "[Ljava/lang/Object;" (.ref q)) (f1 : Arv Z h0 q kq (.object "java/lang/Object") z vs .null) :
    Meets l (⟨"java/util/ImmutableCollections$ListN", "size", "()I"⟩ : MethodName) jdk_45_method_3_code 1 (some .int) ws ({ frames := 0, cells := 0, slots := 0, locals := 0 } : Room) ({ frames := 0, cells := 0, slots := 0, locals := 0 } : Room).cells ({ frames := 0, cells := 0, slots := 0, locals := 0 } : Room).slots Z #[(.ref a1)] h0 n0 (Q39 Z a1 q kq z vs w_EMPTY_ELEMENTDATA w_DEFAULTCAPACITY_EMPTY_ELEMENTDATA w_EMPTY w_EMPTY_LIST k_w_EMPTY_ELEMENTDATA k_w_DEFAULTCAPACITY_EMPTY_ELEMENTDATA w_mir w_els k_els h0 n0) := by
  refine Meets.of (F := fun m => mkF m 0 #[.val (.ref a1)] []) (plainFor_of_name pn_13) (fun m => ef_39 m a1) ?_
  intro p e s m below meth c T0 hx hby hml hown0 hnm hret hlk hZ X0 e0
  have hown : s.vm.findClass "java/util/ImmutableCollections$ListN" = some m.cls := hown0
  have N0 := Fr.nil n0
  obtain ⟨z0, z1, z2, z3, z4, z5, z6, z7, z8, z9, z10, z11, zm, z13, z14, -⟩ := SF
  show Goes _ _ _ _ _ _ (T0.setTop (mkF m 0 #[.val (.ref a1)] []))
  refine own_aloadN X0 hx (hb hby d39_0) rfl rfl ?_
  refine own_getF X0 hx hZ hown (host := "") (Or.inl (hw _ (List.mem_of_getElem? (i := 270) rfl))) Via.refl e0 f0 (hb hby d39_1) (fun T1 X1 e1 => ?_)
  refine own_alen X1 hx hZ e1 f1 (hb hby d39_4) ?_
  show Goes _ _ _ _ _ _ (T1.setTop (mkF m 5 #[.val (.ref a1)] [(.int z)]))
  exact own_retI X1 hx N0 hlk (by decide) (by decide) hret (hb hby d39_5) (by rw [e1]; exact ⟨rfl, rfl⟩)
theorem d29_0 : decode jdk_38_method_45_code 0 = .ok (.iload_n 1, 1) := by decide +kernel
theorem d29_1 : decode jdk_38_method_45_code 1 = .ok (.aload_n 0, 1) := by decide +kernel
theorem d29_2 : decode jdk_38_method_45_code 2 = .ok (.getfield 48, 3) := by decide +kernel
theorem d29_5 : decode jdk_38_method_45_code 5 = .ok (.if_icmp .gt 7, 3) := by decide +kernel
theorem d29_8 : decode jdk_38_method_45_code 8 = .ok (.iload_n 1, 1) := by decide +kernel
theorem d29_9 : decode jdk_38_method_45_code 9 = .ok (.ifCond .ge 16, 3) := by decide +kernel
theorem d29_25 : decode jdk_38_method_45_code 25 = .ok (.return_, 1) := by decide +kernel
def Q29 (Z : State) (a1 : Addr) (n : Int32) (w_EMPTY_ELEMENTDATA : Addr) (w_DEFAULTCAPACITY_EMPTY_ELEMENTDATA : Addr) (w_EMPTY : Addr) (w_EMPTY_LIST : Addr) (k_w_EMPTY_ELEMENTDATA : ClassId) (k_w_DEFAULTCAPACITY_EMPTY_ELEMENTDATA : ClassId) (w_mir : Addr) (w_els : Addr) (k_els : ClassId) (h0 : Heap) (n0 : Nat) (v : Option Value) (h : Heap) : Prop :=
  (v = none ∧ h = h0)
theorem ef_29 (m : MethodId) (a1 : Addr) : entryFrame m #[(.ref a1), (.int (0 : Int32))] 2 = mkF m 0 #[.val (.ref a1), .val (.int (0 : Int32))] [] := by first | (simp [entryFrame, mkF, argsToLocals, Value.category]; done) | rfl
set_option maxRecDepth 65536 in
set_option maxHeartbeats 40000000 in
theorem rm29 (l : Launch) (Z : State) (a0 : Array Value) (hw : ∀ d ∈ tables_1, d.before a0 Z = true) (ws : List Jvm.Cond) (a1 : Addr) (n : Int32) (w_EMPTY_ELEMENTDATA : Addr) (w_DEFAULTCAPACITY_EMPTY_ELEMENTDATA : Addr) (w_EMPTY : Addr) (w_EMPTY_LIST : Addr) (k_w_EMPTY_ELEMENTDATA : ClassId) (k_w_DEFAULTCAPACITY_EMPTY_ELEMENTDATA : ClassId) (w_mir : Addr) (w_els : Addr) (k_els : ClassId) (h0 : Heap) (n0 : Nat) (O0 : Old Z n0 h0) (SF : Start Z w_EMPTY_ELEMENTDATA w_DEFAULTCAPACITY_EMPTY_ELEMENTDATA w_EMPTY w_EMPTY_LIST k_w_EMPTY_ELEMENTDATA k_w_DEFAULTCAPACITY_EMPTY_ELEMENTDATA w_mir w_els k_els) (f0 : Fld Z h0 a1 "java/util/ArrayList" "size" "I" (.int n)) (hn0 : ¬ (n < (0 : Int32))) :
    Meets l (⟨"java/util/ArrayList", "rangeCheckForAdd", "(I)V"⟩ : MethodName) jdk_38_method_45_code 2 none ws ({ frames := 0, cells := 0, slots := 0, locals := 0 } : Room) ({ frames := 0, cells := 0, slots := 0, locals := 0 } : Room).cells ({ frames := 0, cells := 0, slots := 0, locals := 0 } : Room).slots Z #[(.ref a1), (.int (0 : Int32))] h0 n0 (Q29 Z a1 n w_EMPTY_ELEMENTDATA w_DEFAULTCAPACITY_EMPTY_ELEMENTDATA w_EMPTY w_EMPTY_LIST k_w_EMPTY_ELEMENTDATA k_w_DEFAULTCAPACITY_EMPTY_ELEMENTDATA w_mir w_els k_els h0 n0) := by
  refine Meets.of (F := fun m => mkF m 0 #[.val (.ref a1), .val (.int (0 : Int32))] []) (plainFor_of_name pn_5) (fun m => ef_29 m a1) ?_
  intro p e s m below meth c T0 hx hby hml hown0 hnm hret hlk hZ X0 e0
  have hown : s.vm.findClass "java/util/ArrayList" = some m.cls := hown0
  have N0 := Fr.nil n0
  obtain ⟨z0, z1, z2, z3, z4, z5, z6, z7, z8, z9, z10, z11, zm, z13, z14, -⟩ := SF
  show Goes _ _ _ _ _ _ (T0.setTop (mkF m 0 #[.val (.ref a1), .val (.int (0 : Int32))] []))
  refine own_iloadN X0 hx (hb hby d29_0) rfl ?_
  refine own_aloadN X0 hx (hb hby d29_1) rfl rfl ?_
  refine own_getF X0 hx hZ hown (host := "") (Or.inl (hw _ (List.mem_of_getElem? (i := 56) rfl))) Via.refl e0 f0 (hb hby d29_2) (fun T1 X1 e1 => ?_)
  refine own_icmpNo X1 hx (hb hby d29_5) (flt (hn0 : ¬ (n < (0 : Int32)))).2.2.1 ?_
  refine own_iloadN X1 hx (hb hby d29_8) rfl ?_
  refine own_ifYes X1 hx (pc' := 25) (hb hby d29_9) ((if0 _ _).trans (flt (by decide : ¬ ((0 : Int32) < (0 : Int32)))).2.1) (by decide) (by decide) ?_
  show Goes _ _ _ _ _ _ (T1.setTop (mkF m 25 #[.val (.ref a1), .val (.int (0 : Int32))] []))
  exact own_retV X1 hx N0 hlk (by decide) (by decide) hret (hb hby d29_25) (by rw [e1]; exact ⟨rfl, rfl⟩)
theorem d28_0 : decode jdk_38_method_26_code 0 = .ok (.aload_n 0, 1) := by decide +kernel
theorem d28_1 : decode jdk_38_method_26_code 1 = .ok (.iload_n 1, 1) := by decide +kernel
theorem d28_2 : decode jdk_38_method_26_code 2 = .ok (.invokevirtual 135, 3) := by decide +kernel
theorem pd_16 : parseMethodDescriptor "(I)V" = some ⟨[.int], none⟩ := by decide +kernel
theorem d28_5 : decode jdk_38_method_26_code 5 = .ok (.aload_n 0, 1) := by decide +kernel
theorem d28_6 : decode jdk_38_method_26_code 6 = .ok (.dup, 1) := by decide +kernel
theorem d28_7 : decode jdk_38_method_26_code 7 = .ok (.getfield 63, 3) := by decide +kernel
theorem d28_10 : decode jdk_38_method_26_code 10 = .ok (.iconst 1, 1) := by decide +kernel
theorem d28_11 : decode jdk_38_method_26_code 11 = .ok (.iadd, 1) := by decide +kernel
theorem d28_12 : decode jdk_38_method_26_code 12 = .ok (.putfield 63, 3) := by decide +kernel
theorem d28_15 : decode jdk_38_method_26_code 15 = .ok (.aload_n 0, 1) := by decide +kernel
theorem d28_16 : decode jdk_38_method_26_code 16 = .ok (.getfield 48, 3) := by decide +kernel
theorem d28_19 : decode jdk_38_method_26_code 19 = .ok (.dup, 1) := by decide +kernel
theorem d28_20 : decode jdk_38_method_26_code 20 = .ok (.istore_n 3, 1) := by decide +kernel
theorem d28_21 : decode jdk_38_method_26_code 21 = .ok (.aload_n 0, 1) := by decide +kernel
theorem d28_22 : decode jdk_38_method_26_code 22 = .ok (.getfield 9, 3) := by decide +kernel
theorem d28_25 : decode jdk_38_method_26_code 25 = .ok (.dup, 1) := by decide +kernel
theorem d28_26 : decode jdk_38_method_26_code 26 = .ok (.astore 4, 2) := by decide +kernel
theorem d28_28 : decode jdk_38_method_26_code 28 = .ok (.arraylength, 1) := by decide +kernel
theorem d28_29 : decode jdk_38_method_26_code 29 = .ok (.if_icmp .ne 9, 3) := by decide +kernel
theorem d28_38 : decode jdk_38_method_26_code 38 = .ok (.aload 4, 2) := by decide +kernel
theorem d28_40 : decode jdk_38_method_26_code 40 = .ok (.iload_n 1, 1) := by decide +kernel
theorem d28_41 : decode jdk_38_method_26_code 41 = .ok (.aload 4, 2) := by decide +kernel
theorem d28_43 : decode jdk_38_method_26_code 43 = .ok (.iload_n 1, 1) := by decide +kernel
theorem d28_44 : decode jdk_38_method_26_code 44 = .ok (.iconst 1, 1) := by decide +kernel
theorem d28_45 : decode jdk_38_method_26_code 45 = .ok (.iadd, 1) := by decide +kernel
theorem d28_46 : decode jdk_38_method_26_code 46 = .ok (.iload_n 3, 1) := by decide +kernel
theorem d28_47 : decode jdk_38_method_26_code 47 = .ok (.iload_n 1, 1) := by decide +kernel
theorem d28_48 : decode jdk_38_method_26_code 48 = .ok (.isub, 1) := by decide +kernel
theorem d28_49 : decode jdk_38_method_26_code 49 = .ok (.invokestatic 112, 3) := by decide +kernel
theorem d28_52 : decode jdk_38_method_26_code 52 = .ok (.aload 4, 2) := by decide +kernel
theorem d28_54 : decode jdk_38_method_26_code 54 = .ok (.iload_n 1, 1) := by decide +kernel
theorem d28_55 : decode jdk_38_method_26_code 55 = .ok (.aload_n 2, 1) := by decide +kernel
theorem d28_56 : decode jdk_38_method_26_code 56 = .ok (.aastore, 1) := by decide +kernel
theorem d28_57 : decode jdk_38_method_26_code 57 = .ok (.aload_n 0, 1) := by decide +kernel
theorem d28_58 : decode jdk_38_method_26_code 58 = .ok (.iload_n 3, 1) := by decide +kernel
theorem d28_59 : decode jdk_38_method_26_code 59 = .ok (.iconst 1, 1) := by decide +kernel
theorem d28_60 : decode jdk_38_method_26_code 60 = .ok (.iadd, 1) := by decide +kernel
theorem d28_61 : decode jdk_38_method_26_code 61 = .ok (.putfield 48, 3) := by decide +kernel
theorem d28_64 : decode jdk_38_method_26_code 64 = .ok (.return_, 1) := by decide +kernel
def Q281 (Z : State) (a1 : Addr) (a3 : Addr) (mc : Int32) (b : Addr) (k : ClassId) (x0 : Addr) (w_EMPTY_ELEMENTDATA : Addr) (w_DEFAULTCAPACITY_EMPTY_ELEMENTDATA : Addr) (w_EMPTY : Addr) (w_EMPTY_LIST : Addr) (k_w_EMPTY_ELEMENTDATA : ClassId) (k_w_DEFAULTCAPACITY_EMPTY_ELEMENTDATA : ClassId) (w_mir : Addr) (w_els : Addr) (k_els : ClassId) (h0 : Heap) (n0 : Nat) (v : Option Value) (h : Heap) : Prop :=
  (v = none ∧ Keep h0 h [a1, b])
theorem ef_281 (m : MethodId) (a1 : Addr) (a3 : Addr) : entryFrame m #[(.ref a1), (.int (0 : Int32)), (.ref a3)] 5 = mkF m 0 #[.val (.ref a1), .val (.int (0 : Int32)), .val (.ref a3), .unset, .unset] [] := by first | (simp [entryFrame, mkF, argsToLocals, Value.category]; done) | rfl
set_option maxRecDepth 65536 in
set_option maxHeartbeats 40000000 in
theorem rm281 (l : Launch) (Z : State) (a0 : Array Value) (hw : ∀ d ∈ tables_1, d.before a0 Z = true) (ws : List Jvm.Cond) (a1 : Addr) (a3 : Addr) (mc : Int32) (b : Addr) (k : ClassId) (x0 : Addr) (w_EMPTY_ELEMENTDATA : Addr) (w_DEFAULTCAPACITY_EMPTY_ELEMENTDATA : Addr) (w_EMPTY : Addr) (w_EMPTY_LIST : Addr) (k_w_EMPTY_ELEMENTDATA : ClassId) (k_w_DEFAULTCAPACITY_EMPTY_ELEMENTDATA : ClassId) (w_mir : Addr) (w_els : Addr) (k_els : ClassId) (h0 : Heap) (n0 : Nat) (O0 : Old Z n0 h0) (SF : Start Z w_EMPTY_ELEMENTDATA w_DEFAULTCAPACITY_EMPTY_ELEMENTDATA w_EMPTY w_EMPTY_LIST k_w_EMPTY_ELEMENTDATA k_w_DEFAULTCAPACITY_EMPTY_ELEMENTDATA w_mir w_els k_els) (f0 : Exa Z h0 a1 "java/util/ArrayList") (f1 : Fld Z h0 a1 "java/util/AbstractList" "modCount" "I" (.int mc)) (f2 : Fld Z h0 a1 "java/util/ArrayList" "elementData" "[Ljava/lang/Object;" (.ref b)) (f3 : Fld Z h0 a1 "java/util/ArrayList" "size" "I" (.int ((0 : Int32) + (1 : Int32)))) (f4 : Arv Z h0 b k (.object "java/lang/Object") (10 : Int32) [(.ref x0), .null, .null, .null, .null, .null, .null, .null, .null, .null] .null) (f5 : Exa Z h0 b "[Ljava/lang/Object;") (f6 : n0 ≤ a1) (f7 : n0 ≤ b) (f8 : Ovr Z k "java/lang/Object") (f9 : Exa Z h0 a3 "com/example/gantry/gantry/resolver/LocalCopy") (f10 : Exa Z h0 x0 "com/example/gantry/gantry/resolver/LocalCopy") :
    Meets l (⟨"java/util/ArrayList", "add", "(ILjava/lang/Object;)V"⟩ : MethodName) jdk_38_method_26_code 5 none ws ({ frames := 1, cells := 0, slots := 0, locals := 18 } : Room) ({ frames := 1, cells := 0, slots := 0, locals := 18 } : Room).cells ({ frames := 1, cells := 0, slots := 0, locals := 18 } : Room).slots Z #[(.ref a1), (.int (0 : Int32)), (.ref a3)] h0 n0 (Q281 Z a1 a3 mc b k x0 w_EMPTY_ELEMENTDATA w_DEFAULTCAPACITY_EMPTY_ELEMENTDATA w_EMPTY w_EMPTY_LIST k_w_EMPTY_ELEMENTDATA k_w_DEFAULTCAPACITY_EMPTY_ELEMENTDATA w_mir w_els k_els h0 n0) := by
  refine Meets.of (F := fun m => mkF m 0 #[.val (.ref a1), .val (.int (0 : Int32)), .val (.ref a3), .unset, .unset] []) (plainFor_of_name pn_5) (fun m => ef_281 m a1 a3) ?_
  intro p e s m below meth c T0 hx hby hml hown0 hnm hret hlk hZ X0 e0
  have hown : s.vm.findClass "java/util/ArrayList" = some m.cls := hown0
  have N0 := Fr.nil n0
  have KC0 := Keep.refl h0 [a1, b]
  obtain ⟨z0, z1, z2, z3, z4, z5, z6, z7, z8, z9, z10, z11, zm, z13, z14, -⟩ := SF
  show Goes _ _ _ _ _ _ (T0.setTop (mkF m 0 #[.val (.ref a1), .val (.int (0 : Int32)), .val (.ref a3), .unset, .unset] []))
  refine own_aloadN X0 hx (hb hby d28_0) rfl rfl ?_
  refine own_iloadN X0 hx (hb hby d28_1) rfl ?_
  refine own_private X0 hx hZ hown (y := (⟨"java/util/ArrayList", "rangeCheckForAdd", "(I)V"⟩ : MethodName)) (hw _ (List.mem_of_getElem? (i := 219) rfl)) (hw _ (List.mem_of_getElem? (i := 220) rfl)) (hw _ (List.mem_of_getElem? (i := 26) rfl)) (hw _ (List.mem_of_getElem? (i := 221) rfl)) (hw _ (List.mem_of_getElem? (i := 27) rfl)) (hw _ (List.mem_of_getElem? (i := 223) rfl)) (a := a1) f0 (by decide) (W := 0) (by decide) (by decide) N0 e0 (by rw [hml]; rfl) (argsL := [(.int (0 : Int32))]) (rest := []) (lenOf pd_16 rfl) (Nat.le_of_eq rfl) (by decide) (by decide) (rm29 l Z a0 hw [] a1 ((0 : Int32) + (1 : Int32)) w_EMPTY_ELEMENTDATA w_DEFAULTCAPACITY_EMPTY_ELEMENTDATA w_EMPTY w_EMPTY_LIST k_w_EMPTY_ELEMENTDATA k_w_DEFAULTCAPACITY_EMPTY_ELEMENTDATA w_mir w_els k_els h0 n0 O0 ⟨z0, z1, z2, z3, z4, z5, z6, z7, z8, z9, z10, z11, zm, z13, z14, trivial⟩ f3 (by decide)) rfl (hb hby d28_2) ?_
  intro v1 T1 lc1 X1 N1 hQ1
  obtain ⟨rfl, e1⟩ := hQ1
  refine own_aloadN X1 hx (hb hby d28_5) rfl rfl ?_
  refine own_dup X1 hx (hb hby d28_6) rfl ?_
  refine own_getF X1 hx hZ hown (host := "") (Or.inl (hw _ (List.mem_of_getElem? (i := 54) rfl))) (Via.of (hw _ (List.mem_of_getElem? (i := 55) rfl))) e1 f1 (hb hby d28_7) (fun T2 X2 e2 => ?_)
  refine own_iconst X2 hx (v := (1 : Int32)) (hb hby d28_10) rfl ?_
  refine own_iadd X2 hx (hb hby d28_11) ?_
  refine own_putF X2 hx hZ hown N1 (host := "") (Or.inl (hw _ (List.mem_of_getElem? (i := 54) rfl))) (Via.of (hw _ (List.mem_of_getElem? (i := 55) rfl))) e2 f1 f0 (Or.inl (hw _ (List.mem_of_getElem? (i := 45) rfl))) (hw _ (List.mem_of_getElem? (i := 26) rfl)) (ty := .int) (by decide) rfl rfl f6 (hb hby d28_12) (fun T3 h3 lc3 X3 e3 N3 W3 => ?_)
  have E4_a1 := f0.wr W3
  have E4_b := f5.wr W3
  have E4_a3 := f9.wr W3
  have E4_x0 := f10.wr W3
  have F4_elementData_a1 := f2.other W3 (Or.inr (slot_ne (Or.inl (hw _ (List.mem_of_getElem? (i := 48) rfl))) (Or.inl (hw _ (List.mem_of_getElem? (i := 45) rfl))) (by decide) (t := (.array (.object "java/lang/Object"))) (t' := .int) (by decide) (by decide)))
  have F4_size_a1 := f3.other W3 (Or.inr (slot_ne (Or.inl (hw _ (List.mem_of_getElem? (i := 57) rfl))) (Or.inl (hw _ (List.mem_of_getElem? (i := 45) rfl))) (by decide) (t := .int) (t' := .int) (by decide) (by decide)))
  have A4_b := f4.other W3 (ne_exa f5 f0 (by decide))
  have O4 := O0.wr W3 f6
  have KC4 := KC0.wr W3 (Or.inl (List.mem_of_getElem? (i := 0) rfl))
  refine own_aloadN X3 hx (hb hby d28_15) rfl rfl ?_
  refine own_getF X3 hx hZ hown (host := "") (Or.inl (hw _ (List.mem_of_getElem? (i := 56) rfl))) Via.refl e3 F4_size_a1 (hb hby d28_16) (fun T5 X5 e5 => ?_)
  refine own_dup X5 hx (hb hby d28_19) rfl ?_
  refine own_istoreN X5 hx (Ls' := #[.val (.ref a1), .val (.int (0 : Int32)), .val (.ref a3), .val (.int ((0 : Int32) + (1 : Int32))), .unset]) (hb hby d28_20) rfl ?_
  refine own_aloadN X5 hx (hb hby d28_21) rfl rfl ?_
  show Goes _ _ _ _ _ _ (T5.setTop (mkF m 22 #[.val (.ref a1), .val (.int (0 : Int32)), .val (.ref a3), .val (.int ((0 : Int32) + (1 : Int32))), .unset] [(.ref a1), (.int ((0 : Int32) + (1 : Int32)))]))
  refine own_getF X5 hx hZ hown (host := "") (Or.inl (hw _ (List.mem_of_getElem? (i := 47) rfl))) Via.refl e5 F4_elementData_a1 (hb hby d28_22) (fun T6 X6 e6 => ?_)
  refine own_dup X6 hx (hb hby d28_25) rfl ?_
  refine own_astore X6 hx (Ls' := #[.val (.ref a1), .val (.int (0 : Int32)), .val (.ref a3), .val (.int ((0 : Int32) + (1 : Int32))), .val (.ref b)]) (hb hby d28_26) rfl rfl ?_
  refine own_alen X6 hx hZ e6 A4_b (hb hby d28_28) ?_
  show Goes _ _ _ _ _ _ (T6.setTop (mkF m 29 #[.val (.ref a1), .val (.int (0 : Int32)), .val (.ref a3), .val (.int ((0 : Int32) + (1 : Int32))), .val (.ref b)] [(.int (10 : Int32)), (.int ((0 : Int32) + (1 : Int32)))]))
  refine own_icmpYes X6 hx (pc' := 38) (hb hby d28_29) (feq (by decide : ¬ (((0 : Int32) + (1 : Int32)) = (10 : Int32)))).2 (by decide) (by decide) ?_
  refine own_aload X6 hx (hb hby d28_38) rfl rfl ?_
  refine own_iloadN X6 hx (hb hby d28_40) rfl ?_
  refine own_aload X6 hx (hb hby d28_41) rfl rfl ?_
  show Goes _ _ _ _ _ _ (T6.setTop (mkF m 43 #[.val (.ref a1), .val (.int (0 : Int32)), .val (.ref a3), .val (.int ((0 : Int32) + (1 : Int32))), .val (.ref b)] [(.ref b), (.int (0 : Int32)), (.ref b)]))
  refine own_iloadN X6 hx (hb hby d28_43) rfl ?_
  refine own_iconst X6 hx (v := (1 : Int32)) (hb hby d28_44) rfl ?_
  refine own_iadd X6 hx (hb hby d28_45) ?_
  refine own_iloadN X6 hx (hb hby d28_46) rfl ?_
  refine own_iloadN X6 hx (hb hby d28_47) rfl ?_
  refine own_isub X6 hx (hb hby d28_48) ?_
  obtain ⟨cl7, Ar7, q7, -⟩ := id A4_b
  refine own_cpA X6 hx hZ hown (hw _ (List.mem_of_getElem? (i := 224) rfl)) (hw _ (List.mem_of_getElem? (i := 151) rfl)) (hw _ (List.mem_of_getElem? (i := 149) rfl)) (hw _ (List.mem_of_getElem? (i := 150) rfl)) e6 A4_b A4_b (us := [(.ref x0)]) (vr := [(.ref x0), (.ref x0), .null, .null, .null, .null, .null, .null, .null, .null]) (Or.inr ⟨rfl, rfl, ⟨(Sto.ofV Ar7 q7 f8 (Ins.of_exa E4_x0 (hw _ (List.mem_of_getElem? (i := 79) rfl)))), trivial⟩⟩) (by decide) (by decide) (by decide) (by decide) (by decide) rfl (Nat.le_of_ble_eq_true rfl) rfl N3 f7 (by rw [hml]; rfl) (hb hby d28_49) (by decide) (W := 0) (Nat.le_of_eq rfl) (by decide) (fun T7 h7 lc7 X7 e7 N7 K7 V7 => ?_)
  have E8_a1 := E4_a1.keep K7
  have E8_b := E4_b.keep K7
  have E8_a3 := E4_a3.keep K7
  have F8_size_a1 := F4_size_a1.keep K7 (ninS (ne_exa E4_a1 E4_b (by decide)) nin0)
  have O8 := O4.keep K7 (allS f7 all0)
  have KC8 := KC4.trans K7 (allS (Or.inl (List.mem_of_getElem? (i := 1) rfl)) all0)
  refine own_aload X7 hx (hb hby d28_52) rfl rfl ?_
  refine own_iloadN X7 hx (hb hby d28_54) rfl ?_
  refine own_aloadN X7 hx (hb hby d28_55) rfl rfl ?_
  show Goes _ _ _ _ _ _ (T7.setTop (mkF m 56 #[.val (.ref a1), .val (.int (0 : Int32)), .val (.ref a3), .val (.int ((0 : Int32) + (1 : Int32))), .val (.ref b)] [(.ref a3), (.int (0 : Int32)), (.ref b)]))
  refine own_aastore X7 hx hZ N7 e7 V7 rfl rfl ⟨by decide, by decide⟩ (i := 0) rfl (by first | decide | (simp; done)) f7 (fun _ Ar q => Sto.ofV Ar q f8 (Ins.of_exa E8_a3 (hw _ (List.mem_of_getElem? (i := 79) rfl)))) (hb hby d28_56) (fun T9 h9 lc9 X9 e9 N9 W9 V9 => ?_)
  have E10_a1 := E8_a1.wr W9
  have F10_size_a1 := F8_size_a1.other W9 (Or.inl (ne_exa E8_a1 E8_b (by decide)))
  have O10 := O8.wr W9 f7
  have KC10 := KC8.wr W9 (Or.inl (List.mem_of_getElem? (i := 1) rfl))
  have V9' : Arv Z h9 b k (.object "java/lang/Object") (10 : Int32) [(.ref a3), (.ref x0), .null, .null, .null, .null, .null, .null, .null, .null] .null := V9
  refine own_aloadN X9 hx (hb hby d28_57) rfl rfl ?_
  refine own_iloadN X9 hx (hb hby d28_58) rfl ?_
  refine own_iconst X9 hx (v := (1 : Int32)) (hb hby d28_59) rfl ?_
  show Goes _ _ _ _ _ _ (T9.setTop (mkF m 60 #[.val (.ref a1), .val (.int (0 : Int32)), .val (.ref a3), .val (.int ((0 : Int32) + (1 : Int32))), .val (.ref b)] [(.int (1 : Int32)), (.int ((0 : Int32) + (1 : Int32))), (.ref a1)]))
  refine own_iadd X9 hx (hb hby d28_60) ?_
  refine own_putF X9 hx hZ hown N9 (host := "") (Or.inl (hw _ (List.mem_of_getElem? (i := 56) rfl))) Via.refl e9 F10_size_a1 E10_a1 (Or.inl (hw _ (List.mem_of_getElem? (i := 57) rfl))) (hw _ (List.mem_of_getElem? (i := 26) rfl)) (ty := .int) (by decide) rfl rfl f6 (hb hby d28_61) (fun T11 h11 lc11 X11 e11 N11 W11 => ?_)
  have O12 := O10.wr W11 f6
  have KC12 := KC10.wr W11 (Or.inl (List.mem_of_getElem? (i := 0) rfl))
  show Goes _ _ _ _ _ _ (T11.setTop (mkF m 64 #[.val (.ref a1), .val (.int (0 : Int32)), .val (.ref a3), .val (.int ((0 : Int32) + (1 : Int32))), .val (.ref b)] []))
  exact own_retV X11 hx N11 hlk (by decide) (by decide) hret (hb hby d28_64) (by rw [e11]; exact ⟨rfl, KC12⟩)
def Q282 (Z : State) (a1 : Addr) (a3 : Addr) (mc : Int32) (b : Addr) (k : ClassId) (x0 : Addr) (x1 : Addr) (w_EMPTY_ELEMENTDATA : Addr) (w_DEFAULTCAPACITY_EMPTY_ELEMENTDATA : Addr) (w_EMPTY : Addr) (w_EMPTY_LIST : Addr) (k_w_EMPTY_ELEMENTDATA : ClassId) (k_w_DEFAULTCAPACITY_EMPTY_ELEMENTDATA : ClassId) (w_mir : Addr) (w_els : Addr) (k_els : ClassId) (h0 : Heap) (n0 : Nat) (v : Option Value) (h : Heap) : Prop :=
  (v = none ∧ Keep h0 h [a1, b])
theorem ef_282 (m : MethodId) (a1 : Addr) (a3 : Addr) : entryFrame m #[(.ref a1), (.int (0 : Int32)), (.ref a3)] 5 = mkF m 0 #[.val (.ref a1), .val (.int (0 : Int32)), .val (.ref a3), .unset, .unset] [] := by first | (simp [entryFrame, mkF, argsToLocals, Value.category]; done) | rfl
set_option maxRecDepth 65536 in
set_option maxHeartbeats 40000000 in
theorem rm282 (l : Launch) (Z : State) (a0 : Array Value) (hw : ∀ d ∈ tables_1, d.before a0 Z = true) (ws : List Jvm.Cond) (a1 : Addr) (a3 : Addr) (mc : Int32) (b : Addr) (k : ClassId) (x0 : Addr) (x1 : Addr) (w_EMPTY_ELEMENTDATA : Addr) (w_DEFAULTCAPACITY_EMPTY_ELEMENTDATA : Addr) (w_EMPTY : Addr) (w_EMPTY_LIST : Addr) (k_w_EMPTY_ELEMENTDATA : ClassId) (k_w_DEFAULTCAPACITY_EMPTY_ELEMENTDATA : ClassId) (w_mir : Addr) (w_els : Addr) (k_els : ClassId) (h0 : Heap) (n0 : Nat) (O0 : Old Z n0 h0) (SF : Start Z w_EMPTY_ELEMENTDATA w_DEFAULTCAPACITY_EMPTY_ELEMENTDATA w_EMPTY w_EMPTY_LIST k_w_EMPTY_ELEMENTDATA k_w_DEFAULTCAPACITY_EMPTY_ELEMENTDATA w_mir w_els k_els) (f0 : Exa Z h0 a1 "java/util/ArrayList") (f1 : Fld Z h0 a1 "java/util/AbstractList" "modCount" "I" (.int mc)) (f2 : Fld Z h0 a1 "java/util/ArrayList" "elementData" "[Ljava/lang/Object;" (.ref b)) (f3 : Fld Z h0 a1 "java/util/ArrayList" "size" "I" (.int (((0 : Int32) + (1 : Int32)) + (1 : Int32)))) (f4 : Arv Z h0 b k (.object "java/lang/Object") (10 : Int32) [(.ref x0), (.ref x1), .null, .null, .null, .null, .null, .null, .null, .null] .null) (f5 : Exa Z h0 b "[Ljava/lang/Object;") (f6 : n0 ≤ a1) (f7 : n0 ≤ b) (f8 : Ovr Z k "java/lang/Object") (f9 : Exa Z h0 a3 "com/example/gantry/gantry/resolver/LocalCopy") (f10 : Exa Z h0 x0 "com/example/gantry/gantry/resolver/LocalCopy") (f11 : Exa Z h0 x1 "com/example/gantry/gantry/resolver/LocalCopy") :
    Meets l (⟨"java/util/ArrayList", "add", "(ILjava/lang/Object;)V"⟩ : MethodName) jdk_38_method_26_code 5 none ws ({ frames := 1, cells := 0, slots := 0, locals := 18 } : Room) ({ frames := 1, cells := 0, slots := 0, locals := 18 } : Room).cells ({ frames := 1, cells := 0, slots := 0, locals := 18 } : Room).slots Z #[(.ref a1), (.int (0 : Int32)), (.ref a3)] h0 n0 (Q282 Z a1 a3 mc b k x0 x1 w_EMPTY_ELEMENTDATA w_DEFAULTCAPACITY_EMPTY_ELEMENTDATA w_EMPTY w_EMPTY_LIST k_w_EMPTY_ELEMENTDATA k_w_DEFAULTCAPACITY_EMPTY_ELEMENTDATA w_mir w_els k_els h0 n0) := by
  refine Meets.of (F := fun m => mkF m 0 #[.val (.ref a1), .val (.int (0 : Int32)), .val (.ref a3), .unset, .unset] []) (plainFor_of_name pn_5) (fun m => ef_282 m a1 a3) ?_
  intro p e s m below meth c T0 hx hby hml hown0 hnm hret hlk hZ X0 e0
  have hown : s.vm.findClass "java/util/ArrayList" = some m.cls := hown0
  have N0 := Fr.nil n0
  have KC0 := Keep.refl h0 [a1, b]
  obtain ⟨z0, z1, z2, z3, z4, z5, z6, z7, z8, z9, z10, z11, zm, z13, z14, -⟩ := SF
  show Goes _ _ _ _ _ _ (T0.setTop (mkF m 0 #[.val (.ref a1), .val (.int (0 : Int32)), .val (.ref a3), .unset, .unset] []))
  refine own_aloadN X0 hx (hb hby d28_0) rfl rfl ?_
  refine own_iloadN X0 hx (hb hby d28_1) rfl ?_
  refine own_private X0 hx hZ hown (y := (⟨"java/util/ArrayList", "rangeCheckForAdd", "(I)V"⟩ : MethodName)) (hw _ (List.mem_of_getElem? (i := 219) rfl)) (hw _ (List.mem_of_getElem? (i := 220) rfl)) (hw _ (List.mem_of_getElem? (i := 26) rfl)) (hw _ (List.mem_of_getElem? (i := 221) rfl)) (hw _ (List.mem_of_getElem? (i := 27) rfl)) (hw _ (List.mem_of_getElem? (i := 223) rfl)) (a := a1) f0 (by decide) (W := 0) (by decide) (by decide) N0 e0 (by rw [hml]; rfl) (argsL := [(.int (0 : Int32))]) (rest := []) (lenOf pd_16 rfl) (Nat.le_of_eq rfl) (by decide) (by decide) (rm29 l Z a0 hw [] a1 (((0 : Int32) + (1 : Int32)) + (1 : Int32)) w_EMPTY_ELEMENTDATA w_DEFAULTCAPACITY_EMPTY_ELEMENTDATA w_EMPTY w_EMPTY_LIST k_w_EMPTY_ELEMENTDATA k_w_DEFAULTCAPACITY_EMPTY_ELEMENTDATA w_mir w_els k_els h0 n0 O0 ⟨z0, z1, z2, z3, z4, z5, z6, z7, z8, z9, z10, z11, zm, z13, z14, trivial⟩ f3 (by decide)) rfl (hb hby d28_2) ?_
  intro v1 T1 lc1 X1 N1 hQ1
  obtain ⟨rfl, e1⟩ := hQ1
  refine own_aloadN X1 hx (hb hby d28_5) rfl rfl ?_
  refine own_dup X1 hx (hb hby d28_6) rfl ?_
  refine own_getF X1 hx hZ hown (host := "") (Or.inl (hw _ (List.mem_of_getElem? (i := 54) rfl))) (Via.of (hw _ (List.mem_of_getElem? (i := 55) rfl))) e1 f1 (hb hby d28_7) (fun T2 X2 e2 => ?_)
  refine own_iconst X2 hx (v := (1 : Int32)) (hb hby d28_10) rfl ?_
  refine own_iadd X2 hx (hb hby d28_11) ?_
  refine own_putF X2 hx hZ hown N1 (host := "") (Or.inl (hw _ (List.mem_of_getElem? (i := 54) rfl))) (Via.of (hw _ (List.mem_of_getElem? (i := 55) rfl))) e2 f1 f0 (Or.inl (hw _ (List.mem_of_getElem? (i := 45) rfl))) (hw _ (List.mem_of_getElem? (i := 26) rfl)) (ty := .int) (by decide) rfl rfl f6 (hb hby d28_12) (fun T3 h3 lc3 X3 e3 N3 W3 => ?_)
  have E4_a1 := f0.wr W3
  have E4_b := f5.wr W3
  have E4_a3 := f9.wr W3
  have E4_x0 := f10.wr W3
  have E4_x1 := f11.wr W3
  have F4_elementData_a1 := f2.other W3 (Or.inr (slot_ne (Or.inl (hw _ (List.mem_of_getElem? (i := 48) rfl))) (Or.inl (hw _ (List.mem_of_getElem? (i := 45) rfl))) (by decide) (t := (.array (.object "java/lang/Object"))) (t' := .int) (by decide) (by decide)))
  have F4_size_a1 := f3.other W3 (Or.inr (slot_ne (Or.inl (hw _ (List.mem_of_getElem? (i := 57) rfl))) (Or.inl (hw _ (List.mem_of_getElem? (i := 45) rfl))) (by decide) (t := .int) (t' := .int) (by decide) (by decide)))
  have A4_b := f4.other W3 (ne_exa f5 f0 (by decide))
  have O4 := O0.wr W3 f6
  have KC4 := KC0.wr W3 (Or.inl (List.mem_of_getElem? (i := 0) rfl))
  refine own_aloadN X3 hx (hb hby d28_15) rfl rfl ?_
  refine own_getF X3 hx hZ hown (host := "") (Or.inl (hw _ (List.mem_of_getElem? (i := 56) rfl))) Via.refl e3 F4_size_a1 (hb hby d28_16) (fun T5 X5 e5 => ?_)
  refine own_dup X5 hx (hb hby d28_19) rfl ?_
  refine own_istoreN X5 hx (Ls' := #[.val (.ref a1), .val (.int (0 : Int32)), .val (.ref a3), .val (.int (((0 : Int32) + (1 : Int32)) + (1 : Int32))), .unset]) (hb hby d28_20) rfl ?_
  refine own_aloadN X5 hx (hb hby d28_21) rfl rfl ?_
  show Goes _ _ _ _ _ _ (T5.setTop (mkF m 22 #[.val (.ref a1), .val (.int (0 : Int32)), .val (.ref a3), .val (.int (((0 : Int32) + (1 : Int32)) + (1 : Int32))), .unset] [(.ref a1), (.int (((0 : Int32) + (1 : Int32)) + (1 : Int32)))]))
  refine own_getF X5 hx hZ hown (host := "") (Or.inl (hw _ (List.mem_of_getElem? (i := 47) rfl))) Via.refl e5 F4_elementData_a1 (hb hby d28_22) (fun T6 X6 e6 => ?_)
  refine own_dup X6 hx (hb hby d28_25) rfl ?_
  refine own_astore X6 hx (Ls' := #[.val (.ref a1), .val (.int (0 : Int32)), .val (.ref a3), .val (.int (((0 : Int32) + (1 : Int32)) + (1 : Int32))), .val (.ref b)]) (hb hby d28_26) rfl rfl ?_
  refine own_alen X6 hx hZ e6 A4_b (hb hby d28_28) ?_
  show Goes _ _ _ _ _ _ (T6.setTop (mkF m 29 #[.val (.ref a1), .val (.int (0 : Int32)), .val (.ref a3), .val (.int (((0 : Int32) + (1 : Int32)) + (1 : Int32))), .val (.ref b)] [(.int (10 : Int32)), (.int (((0 : Int32) + (1 : Int32)) + (1 : Int32)))]))
  refine own_icmpYes X6 hx (pc' := 38) (hb hby d28_29) (feq (by decide : ¬ ((((0 : Int32) + (1 : Int32)) + (1 : Int32)) = (10 : Int32)))).2 (by decide) (by decide) ?_
  refine own_aload X6 hx (hb hby d28_38) rfl rfl ?_
  refine own_iloadN X6 hx (hb hby d28_40) rfl ?_
  refine own_aload X6 hx (hb hby d28_41) rfl rfl ?_
  show Goes _ _ _ _ _ _ (T6.setTop (mkF m 43 #[.val (.ref a1), .val (.int (0 : Int32)), .val (.ref a3), .val (.int (((0 : Int32) + (1 : Int32)) + (1 : Int32))), .val (.ref b)] [(.ref b), (.int (0 : Int32)), (.ref b)]))
  refine own_iloadN X6 hx (hb hby d28_43) rfl ?_
  refine own_iconst X6 hx (v := (1 : Int32)) (hb hby d28_44) rfl ?_
  refine own_iadd X6 hx (hb hby d28_45) ?_
  refine own_iloadN X6 hx (hb hby d28_46) rfl ?_
  refine own_iloadN X6 hx (hb hby d28_47) rfl ?_
  refine own_isub X6 hx (hb hby d28_48) ?_
  obtain ⟨cl7, Ar7, q7, -⟩ := id A4_b
  refine own_cpA X6 hx hZ hown (hw _ (List.mem_of_getElem? (i := 224) rfl)) (hw _ (List.mem_of_getElem? (i := 151) rfl)) (hw _ (List.mem_of_getElem? (i := 149) rfl)) (hw _ (List.mem_of_getElem? (i := 150) rfl)) e6 A4_b A4_b (us := [(.ref x0), (.ref x1)]) (vr := [(.ref x0), (.ref x0), (.ref x1), .null, .null, .null, .null, .null, .null, .null]) (Or.inr ⟨rfl, rfl, ⟨(Sto.ofV Ar7 q7 f8 (Ins.of_exa E4_x0 (hw _ (List.mem_of_getElem? (i := 79) rfl)))), ⟨(Sto.ofV Ar7 q7 f8 (Ins.of_exa E4_x1 (hw _ (List.mem_of_getElem? (i := 79) rfl)))), trivial⟩⟩⟩) (by decide) (by decide) (by decide) (by decide) (by decide) rfl (Nat.le_of_ble_eq_true rfl) rfl N3 f7 (by rw [hml]; rfl) (hb hby d28_49) (by decide) (W := 0) (Nat.le_of_eq rfl) (by decide) (fun T7 h7 lc7 X7 e7 N7 K7 V7 => ?_)
  have E8_a1 := E4_a1.keep K7
  have E8_b := E4_b.keep K7
  have E8_a3 := E4_a3.keep K7
  have F8_size_a1 := F4_size_a1.keep K7 (ninS (ne_exa E4_a1 E4_b (by decide)) nin0)
  have O8 := O4.keep K7 (allS f7 all0)
  have KC8 := KC4.trans K7 (allS (Or.inl (List.mem_of_getElem? (i := 1) rfl)) all0)
  refine own_aload X7 hx (hb hby d28_52) rfl rfl ?_
  refine own_iloadN X7 hx (hb hby d28_54) rfl ?_
  refine own_aloadN X7 hx (hb hby d28_55) rfl rfl ?_
  show Goes _ _ _ _ _ _ (T7.setTop (mkF m 56 #[.val (.ref a1), .val (.int (0 : Int32)), .val (.ref a3), .val (.int (((0 : Int32) + (1 : Int32)) + (1 : Int32))), .val (.ref b)] [(.ref a3), (.int (0 : Int32)), (.ref b)]))
  refine own_aastore X7 hx hZ N7 e7 V7 rfl rfl ⟨by decide, by decide⟩ (i := 0) rfl (by first | decide | (simp; done)) f7 (fun _ Ar q => Sto.ofV Ar q f8 (Ins.of_exa E8_a3 (hw _ (List.mem_of_getElem? (i := 79) rfl)))) (hb hby d28_56) (fun T9 h9 lc9 X9 e9 N9 W9 V9 => ?_)
  have E10_a1 := E8_a1.wr W9
  have F10_size_a1 := F8_size_a1.other W9 (Or.inl (ne_exa E8_a1 E8_b (by decide)))
  have O10 := O8.wr W9 f7
  have KC10 := KC8.wr W9 (Or.inl (List.mem_of_getElem? (i := 1) rfl))
  have V9' : Arv Z h9 b k (.object "java/lang/Object") (10 : Int32) [(.ref a3), (.ref x0), (.ref x1), .null, .null, .null, .null, .null, .null, .null] .null := V9
  refine own_aloadN X9 hx (hb hby d28_57) rfl rfl ?_
  refine own_iloadN X9 hx (hb hby d28_58) rfl ?_
  refine own_iconst X9 hx (v := (1 : Int32)) (hb hby d28_59) rfl ?_
  show Goes _ _ _ _ _ _ (T9.setTop (mkF m 60 #[.val (.ref a1), .val (.int (0 : Int32)), .val (.ref a3), .val (.int (((0 : Int32) + (1 : Int32)) + (1 : Int32))), .val (.ref b)] [(.int (1 : Int32)), (.int (((0 : Int32) + (1 : Int32)) + (1 : Int32))), (.ref a1)]))
  refine own_iadd X9 hx (hb hby d28_60) ?_
  refine own_putF X9 hx hZ hown N9 (host := "") (Or.inl (hw _ (List.mem_of_getElem? (i := 56) rfl))) Via.refl e9 F10_size_a1 E10_a1 (Or.inl (hw _ (List.mem_of_getElem? (i := 57) rfl))) (hw _ (List.mem_of_getElem? (i := 26) rfl)) (ty := .int) (by decide) rfl rfl f6 (hb hby d28_61) (fun T11 h11 lc11 X11 e11 N11 W11 => ?_)
  have O12 := O10.wr W11 f6
  have KC12 := KC10.wr W11 (Or.inl (List.mem_of_getElem? (i := 0) rfl))
  show Goes _ _ _ _ _ _ (T11.setTop (mkF m 64 #[.val (.ref a1), .val (.int (0 : Int32)), .val (.ref a3), .val (.int (((0 : Int32) + (1 : Int32)) + (1 : Int32))), .val (.ref b)] []))
  exact own_retV X11 hx N11 hlk (by decide) (by decide) hret (hb hby d28_64) (by rw [e11]; exact ⟨rfl, KC12⟩)
def Q283 (Z : State) (a1 : Addr) (a3 : Addr) (mc : Int32) (b : Addr) (k : ClassId) (x0 : Addr) (x1 : Addr) (x2 : Addr) (w_EMPTY_ELEMENTDATA : Addr) (w_DEFAULTCAPACITY_EMPTY_ELEMENTDATA : Addr) (w_EMPTY : Addr) (w_EMPTY_LIST : Addr) (k_w_EMPTY_ELEMENTDATA : ClassId) (k_w_DEFAULTCAPACITY_EMPTY_ELEMENTDATA : ClassId) (w_mir : Addr) (w_els : Addr) (k_els : ClassId) (h0 : Heap) (n0 : Nat) (v : Option Value) (h : Heap) : Prop :=
  (v = none ∧ Keep h0 h [a1, b])
theorem ef_283 (m : MethodId) (a1 : Addr) (a3 : Addr) : entryFrame m #[(.ref a1), (.int (0 : Int32)), (.ref a3)] 5 = mkF m 0 #[.val (.ref a1), .val (.int (0 : Int32)), .val (.ref a3), .unset, .unset] [] := by first | (simp [entryFrame, mkF, argsToLocals, Value.category]; done) | rfl
set_option maxRecDepth 65536 in
set_option maxHeartbeats 40000000 in
theorem rm283 (l : Launch) (Z : State) (a0 : Array Value) (hw : ∀ d ∈ tables_1, d.before a0 Z = true) (ws : List Jvm.Cond) (a1 : Addr) (a3 : Addr) (mc : Int32) (b : Addr) (k : ClassId) (x0 : Addr) (x1 : Addr) (x2 : Addr) (w_EMPTY_ELEMENTDATA : Addr) (w_DEFAULTCAPACITY_EMPTY_ELEMENTDATA : Addr) (w_EMPTY : Addr) (w_EMPTY_LIST : Addr) (k_w_EMPTY_ELEMENTDATA : ClassId) (k_w_DEFAULTCAPACITY_EMPTY_ELEMENTDATA : ClassId) (w_mir : Addr) (w_els : Addr) (k_els : ClassId) (h0 : Heap) (n0 : Nat) (O0 : Old Z n0 h0) (SF : Start Z w_EMPTY_ELEMENTDATA w_DEFAULTCAPACITY_EMPTY_ELEMENTDATA w_EMPTY w_EMPTY_LIST k_w_EMPTY_ELEMENTDATA k_w_DEFAULTCAPACITY_EMPTY_ELEMENTDATA w_mir w_els k_els) (f0 : Exa Z h0 a1 "java/util/ArrayList") (f1 : Fld Z h0 a1 "java/util/AbstractList" "modCount" "I" (.int mc)) (f2 : Fld Z h0 a1 "java/util/ArrayList" "elementData" "[Ljava/lang/Object;" (.ref b)) (f3 : Fld Z h0 a1 "java/util/ArrayList" "size" "I" (.int ((((0 : Int32) + (1 : Int32)) + (1 : Int32)) + (1 : Int32)))) (f4 : Arv Z h0 b k (.object "java/lang/Object") (10 : Int32) [(.ref x0), (.ref x1), (.ref x2), .null, .null, .null, .null, .null, .null, .null] .null) (f5 : Exa Z h0 b "[Ljava/lang/Object;") (f6 : n0 ≤ a1) (f7 : n0 ≤ b) (f8 : Ovr Z k "java/lang/Object") (f9 : Exa Z h0 a3 "com/example/gantry/gantry/resolver/LocalCopy") (f10 : Exa Z h0 x0 "com/example/gantry/gantry/resolver/LocalCopy") (f11 : Exa Z h0 x1 "com/example/gantry/gantry/resolver/LocalCopy") (f12 : Exa Z h0 x2 "com/example/gantry/gantry/resolver/LocalCopy") :
    Meets l (⟨"java/util/ArrayList", "add", "(ILjava/lang/Object;)V"⟩ : MethodName) jdk_38_method_26_code 5 none ws ({ frames := 1, cells := 0, slots := 0, locals := 18 } : Room) ({ frames := 1, cells := 0, slots := 0, locals := 18 } : Room).cells ({ frames := 1, cells := 0, slots := 0, locals := 18 } : Room).slots Z #[(.ref a1), (.int (0 : Int32)), (.ref a3)] h0 n0 (Q283 Z a1 a3 mc b k x0 x1 x2 w_EMPTY_ELEMENTDATA w_DEFAULTCAPACITY_EMPTY_ELEMENTDATA w_EMPTY w_EMPTY_LIST k_w_EMPTY_ELEMENTDATA k_w_DEFAULTCAPACITY_EMPTY_ELEMENTDATA w_mir w_els k_els h0 n0) := by
  refine Meets.of (F := fun m => mkF m 0 #[.val (.ref a1), .val (.int (0 : Int32)), .val (.ref a3), .unset, .unset] []) (plainFor_of_name pn_5) (fun m => ef_283 m a1 a3) ?_
  intro p e s m below meth c T0 hx hby hml hown0 hnm hret hlk hZ X0 e0
  have hown : s.vm.findClass "java/util/ArrayList" = some m.cls := hown0
  have N0 := Fr.nil n0
  have KC0 := Keep.refl h0 [a1, b]
  obtain ⟨z0, z1, z2, z3, z4, z5, z6, z7, z8, z9, z10, z11, zm, z13, z14, -⟩ := SF
  show Goes _ _ _ _ _ _ (T0.setTop (mkF m 0 #[.val (.ref a1), .val (.int (0 : Int32)), .val (.ref a3), .unset, .unset] []))
  refine own_aloadN X0 hx (hb hby d28_0) rfl rfl ?_
  refine own_iloadN X0 hx (hb hby d28_1) rfl ?_
  refine own_private X0 hx hZ hown (y := (⟨"java/util/ArrayList", "rangeCheckForAdd", "(I)V"⟩ : MethodName)) (hw _ (List.mem_of_getElem? (i := 219) rfl)) (hw _ (List.mem_of_getElem? (i := 220) rfl)) (hw _ (List.mem_of_getElem? (i := 26) rfl)) (hw _ (List.mem_of_getElem? (i := 221) rfl)) (hw _ (List.mem_of_getElem? (i := 27) rfl)) (hw _ (List.mem_of_getElem? (i := 223) rfl)) (a := a1) f0 (by decide) (W := 0) (by decide) (by decide) N0 e0 (by rw [hml]; rfl) (argsL := [(.int (0 : Int32))]) (rest := []) (lenOf pd_16 rfl) (Nat.le_of_eq rfl) (by decide) (by decide) (rm29 l Z a0 hw [] a1 ((((0 : Int32) + (1 : Int32)) + (1 : Int32)) + (1 : Int32)) w_EMPTY_ELEMENTDATA w_DEFAULTCAPACITY_EMPTY_ELEMENTDATA w_EMPTY w_EMPTY_LIST k_w_EMPTY_ELEMENTDATA k_w_DEFAULTCAPACITY_EMPTY_ELEMENTDATA w_mir w_els k_els h0 n0 O0 ⟨z0, z1, z2, z3, z4, z5, z6, z7, z8, z9, z10, z11, zm, z13, z14, trivial⟩ f3 (by decide)) rfl (hb hby d28_2) ?_
  intro v1 T1 lc1 X1 N1 hQ1
  obtain ⟨rfl, e1⟩ := hQ1
  refine own_aloadN X1 hx (hb hby d28_5) rfl rfl ?_
  refine own_dup X1 hx (hb hby d28_6) rfl ?_
  refine own_getF X1 hx hZ hown (host := "") (Or.inl (hw _ (List.mem_of_getElem? (i := 54) rfl))) (Via.of (hw _ (List.mem_of_getElem? (i := 55) rfl))) e1 f1 (hb hby d28_7) (fun T2 X2 e2 => ?_)
  refine own_iconst X2 hx (v := (1 : Int32)) (hb hby d28_10) rfl ?_
  refine own_iadd X2 hx (hb hby d28_11) ?_
  refine own_putF X2 hx hZ hown N1 (host := "") (Or.inl (hw _ (List.mem_of_getElem? (i := 54) rfl))) (Via.of (hw _ (List.mem_of_getElem? (i := 55) rfl))) e2 f1 f0 (Or.inl (hw _ (List.mem_of_getElem? (i := 45) rfl))) (hw _ (List.mem_of_getElem? (i := 26) rfl)) (ty := .int) (by decide) rfl rfl f6 (hb hby d28_12) (fun T3 h3 lc3 X3 e3 N3 W3 => ?_)
  have E4_a1 := f0.wr W3
  have E4_b := f5.wr W3
  have E4_a3 := f9.wr W3
  have E4_x0 := f10.wr W3
  have E4_x1 := f11.wr W3
  have E4_x2 := f12.wr W3
  have F4_elementData_a1 := f2.other W3 (Or.inr (slot_ne (Or.inl (hw _ (List.mem_of_getElem? (i := 48) rfl))) (Or.inl (hw _ (List.mem_of_getElem? (i := 45) rfl))) (by decide) (t := (.array (.object "java/lang/Object"))) (t' := .int) (by decide) (by decide)))
  have F4_size_a1 := f3.other W3 (Or.inr (slot_ne (Or.inl (hw _ (List.mem_of_getElem? (i := 57) rfl))) (Or.inl (hw _ (List.mem_of_getElem? (i := 45) rfl))) (by decide) (t := .int) (t' := .int) (by decide) (by decide)))
  have A4_b := f4.other W3 (ne_exa f5 f0 (by decide))
  have O4 := O0.wr W3 f6
  have KC4 := KC0.wr W3 (Or.inl (List.mem_of_getElem? (i := 0) rfl))
  refine own_aloadN X3 hx (hb hby d28_15) rfl rfl ?_
  refine own_getF X3 hx hZ hown (host := "") (Or.inl (hw _ (List.mem_of_getElem? (i := 56) rfl))) Via.refl e3 F4_size_a1 (hb hby d28_16) (fun T5 X5 e5 => ?_)
  refine own_dup X5 hx (hb hby d28_19) rfl ?_
  refine own_istoreN X5 hx (Ls' := #[.val (.ref a1), .val (.int (0 : Int32)), .val (.ref a3), .val (.int ((((0 : Int32) + (1 : Int32)) + (1 : Int32)) + (1 : Int32))), .unset]) (hb hby d28_20) rfl ?_
  refine own_aloadN X5 hx (hb hby d28_21) rfl rfl ?_
  show Goes _ _ _ _ _ _ (T5.setTop (mkF m 22 #[.val (.ref a1), .val (.int (0 : Int32)), .val (.ref a3), .val (.int ((((0 : Int32) + (1 : Int32)) + (1 : Int32)) + (1 : Int32))), .unset] [(.ref a1), (.int ((((0 : Int32) + (1 : Int32)) + (1 : Int32)) + (1 : Int32)))]))
  refine own_getF X5 hx hZ hown (host := "") (Or.inl (hw _ (List.mem_of_getElem? (i := 47) rfl))) Via.refl e5 F4_elementData_a1 (hb hby d28_22) (fun T6 X6 e6 => ?_)
  refine own_dup X6 hx (hb hby d28_25) rfl ?_
  refine own_astore X6 hx (Ls' := #[.val (.ref a1), .val (.int (0 : Int32)), .val (.ref a3), .val (.int ((((0 : Int32) + (1 : Int32)) + (1 : Int32)) + (1 : Int32))), .val (.ref b)]) (hb hby d28_26) rfl rfl ?_
  refine own_alen X6 hx hZ e6 A4_b (hb hby d28_28) ?_
  show Goes _ _ _ _ _ _ (T6.setTop (mkF m 29 #[.val (.ref a1), .val (.int (0 : Int32)), .val (.ref a3), .val (.int ((((0 : Int32) + (1 : Int32)) + (1 : Int32)) + (1 : Int32))), .val (.ref b)] [(.int (10 : Int32)), (.int ((((0 : Int32) + (1 : Int32)) + (1 : Int32)) + (1 : Int32)))]))
  refine own_icmpYes X6 hx (pc' := 38) (hb hby d28_29) (feq (by decide : ¬ (((((0 : Int32) + (1 : Int32)) + (1 : Int32)) + (1 : Int32)) = (10 : Int32)))).2 (by decide) (by decide) ?_
  refine own_aload X6 hx (hb hby d28_38) rfl rfl ?_
  refine own_iloadN X6 hx (hb hby d28_40) rfl ?_
  refine own_aload X6 hx (hb hby d28_41) rfl rfl ?_
  show Goes _ _ _ _ _ _ (T6.setTop (mkF m 43 #[.val (.ref a1), .val (.int (0 : Int32)), .val (.ref a3), .val (.int ((((0 : Int32) + (1 : Int32)) + (1 : Int32)) + (1 : Int32))), .val (.ref b)] [(.ref b), (.int (0 : Int32)), (.ref b)]))
  refine own_iloadN X6 hx (hb hby d28_43) rfl ?_
  refine own_iconst X6 hx (v := (1 : Int32)) (hb hby d28_44) rfl ?_
  refine own_iadd X6 hx (hb hby d28_45) ?_
  refine own_iloadN X6 hx (hb hby d28_46) rfl ?_
  refine own_iloadN X6 hx (hb hby d28_47) rfl ?_
  refine own_isub X6 hx (hb hby d28_48) ?_
  obtain ⟨cl7, Ar7, q7, -⟩ := id A4_b
  refine own_cpA X6 hx hZ hown (hw _ (List.mem_of_getElem? (i := 224) rfl)) (hw _ (List.mem_of_getElem? (i := 151) rfl)) (hw _ (List.mem_of_getElem? (i := 149) rfl)) (hw _ (List.mem_of_getElem? (i := 150) rfl)) e6 A4_b A4_b (us := [(.ref x0), (.ref x1), (.ref x2)]) (vr := [(.ref x0), (.ref x0), (.ref x1), (.ref x2), .null, .null, .null, .null, .null, .null]) (Or.inr ⟨rfl, rfl, ⟨(Sto.ofV Ar7 q7 f8 (Ins.of_exa E4_x0 (hw _ (List.mem_of_getElem? (i := 79) rfl)))), ⟨(Sto.ofV Ar7 q7 f8 (Ins.of_exa E4_x1 (hw _ (List.mem_of_getElem? (i := 79) rfl)))), ⟨(Sto.ofV Ar7 q7 f8 (Ins.of_exa E4_x2 (hw _ (List.mem_of_getElem? (i := 79) rfl)))), trivial⟩⟩⟩⟩) (by decide) (by decide) (by decide) (by decide) (by decide) rfl (Nat.le_of_ble_eq_true rfl) rfl N3 f7 (by rw [hml]; rfl) (hb hby d28_49) (by decide) (W := 0) (Nat.le_of_eq rfl) (by decide) (fun T7 h7 lc7 X7 e7 N7 K7 V7 => ?_)
  have E8_a1 := E4_a1.keep K7
  have E8_b := E4_b.keep K7
  have E8_a3 := E4_a3.keep K7
  have F8_size_a1 := F4_size_a1.keep K7 (ninS (ne_exa E4_a1 E4_b (by decide)) nin0)
  have O8 := O4.keep K7 (allS f7 all0)
  have KC8 := KC4.trans K7 (allS (Or.inl (List.mem_of_getElem? (i := 1) rfl)) all0)
  refine own_aload X7 hx (hb hby d28_52) rfl rfl ?_
  refine own_iloadN X7 hx (hb hby d28_54) rfl ?_
  refine own_aloadN X7 hx (hb hby d28_55) rfl rfl ?_
  show Goes _ _ _ _ _ _ (T7.setTop (mkF m 56 #[.val (.ref a1), .val (.int (0 : Int32)), .val (.ref a3), .val (.int ((((0 : Int32) + (1 : Int32)) + (1 : Int32)) + (1 : Int32))), .val (.ref b)] [(.ref a3), (.int (0 : Int32)), (.ref b)]))
  refine own_aastore X7 hx hZ N7 e7 V7 rfl rfl ⟨by decide, by decide⟩ (i := 0) rfl (by first | decide | (simp; done)) f7 (fun _ Ar q => Sto.ofV Ar q f8 (Ins.of_exa E8_a3 (hw _ (List.mem_of_getElem? (i := 79) rfl)))) (hb hby d28_56) (fun T9 h9 lc9 X9 e9 N9 W9 V9 => ?_)
  have E10_a1 := E8_a1.wr W9
  have F10_size_a1 := F8_size_a1.other W9 (Or.inl (ne_exa E8_a1 E8_b (by decide)))
  have O10 := O8.wr W9 f7
  have KC10 := KC8.wr W9 (Or.inl (List.mem_of_getElem? (i := 1) rfl))
  have V9' : Arv Z h9 b k (.object "java/lang/Object") (10 : Int32) [(.ref a3), (.ref x0), (.ref x1), (.ref x2), .null, .null, .null, .null, .null, .null] .null := V9
  refine own_aloadN X9 hx (hb hby d28_57) rfl rfl ?_
  refine own_iloadN X9 hx (hb hby d28_58) rfl ?_
  refine own_iconst X9 hx (v := (1 : Int32)) (hb hby d28_59) rfl ?_
  show Goes _ _ _ _ _ _ (T9.setTop (mkF m 60 #[.val (.ref a1), .val (.int (0 : Int32)), .val (.ref a3), .val (.int ((((0 : Int32) + (1 : Int32)) + (1 : Int32)) + (1 : Int32))), .val (.ref b)] [(.int (1 : Int32)), (.int ((((0 : Int32) + (1 : Int32)) + (1 : Int32)) + (1 : Int32))), (.ref a1)]))
  refine own_iadd X9 hx (hb hby d28_60) ?_
  refine own_putF X9 hx hZ hown N9 (host := "") (Or.inl (hw _ (List.mem_of_getElem? (i := 56) rfl))) Via.refl e9 F10_size_a1 E10_a1 (Or.inl (hw _ (List.mem_of_getElem? (i := 57) rfl))) (hw _ (List.mem_of_getElem? (i := 26) rfl)) (ty := .int) (by decide) rfl rfl f6 (hb hby d28_61) (fun T11 h11 lc11 X11 e11 N11 W11 => ?_)
  have O12 := O10.wr W11 f6
  have KC12 := KC10.wr W11 (Or.inl (List.mem_of_getElem? (i := 0) rfl))
  show Goes _ _ _ _ _ _ (T11.setTop (mkF m 64 #[.val (.ref a1), .val (.int (0 : Int32)), .val (.ref a3), .val (.int ((((0 : Int32) + (1 : Int32)) + (1 : Int32)) + (1 : Int32))), .val (.ref b)] []))
  exact own_retV X11 hx N11 hlk (by decide) (by decide) hret (hb hby d28_64) (by rw [e11]; exact ⟨rfl, KC12⟩)
theorem own_r3 (x : Int32) (h : 0 ≤ x.toInt) : 0 ≤ (x % (3 : Int32)).toInt ∧ (x % (3 : Int32)).toInt < 3 := by
  have e := (c_irem x 3 3 (by decide)).1 h
  omega
theorem own_m31 (x : Int32) : 0 ≤ (x &&& (2147483647 : Int32)).toInt := by
  have e := c_mask x 2147483647 31 (by decide) (by decide)
  omega
theorem own_ix {x : Int32} (h : 0 ≤ x.toInt ∧ x.toInt < 3) : ¬ x < 0 ∧ x < (3 : Int32) := by
  have a : (0 : Int32).toInt = 0 := by decide
  have b : (3 : Int32).toInt = 3 := by decide
  refine ⟨?_, ?_⟩
  · rw [Int32.lt_iff_toInt_lt, a]; omega
  · rw [Int32.lt_iff_toInt_lt, b]; omega
theorem own_p0 (x : Int32) : 0 ≤ ((x &&& (2147483647 : Int32)) % (3 : Int32)).toInt ∧ ((x &&& (2147483647 : Int32)) % (3 : Int32)).toInt < 3 := own_r3 _ (own_m31 x)
theorem own_pk (x k : Int32) (hk : 0 ≤ k.toInt ∧ k.toInt < 100) : 0 ≤ ((((x &&& (2147483647 : Int32)) % (3 : Int32)) + k) % (3 : Int32)).toInt ∧ ((((x &&& (2147483647 : Int32)) % (3 : Int32)) + k) % (3 : Int32)).toInt < 3 := by
  apply own_r3
  have a := own_p0 x
  have b := c_iadd ((x &&& (2147483647 : Int32)) % (3 : Int32)) k
  have c := rng32 (((x &&& (2147483647 : Int32)) % (3 : Int32)) + k)
  omega
theorem own_pn (x y : Int32) : 0 ≤ (((((x &&& (2147483647 : Int32)) % (3 : Int32)) + (((y &&& (2147483647 : Int32)) % (3 : Int32)) + (1 : Int32))) - (1 : Int32)) % (3 : Int32)).toInt ∧ (((((x &&& (2147483647 : Int32)) % (3 : Int32)) + (((y &&& (2147483647 : Int32)) % (3 : Int32)) + (1 : Int32))) - (1 : Int32)) % (3 : Int32)).toInt < 3 := by
  apply own_r3
  have a := own_p0 x
  have a' := own_p0 y
  have o : (1 : Int32).toInt = 1 := by decide
  have b := c_iadd ((y &&& (2147483647 : Int32)) % (3 : Int32)) 1
  have b' := rng32 (((y &&& (2147483647 : Int32)) % (3 : Int32)) + (1 : Int32))
  have c := c_iadd ((x &&& (2147483647 : Int32)) % (3 : Int32)) (((y &&& (2147483647 : Int32)) % (3 : Int32)) + (1 : Int32))
  have c' := rng32 (((x &&& (2147483647 : Int32)) % (3 : Int32)) + (((y &&& (2147483647 : Int32)) % (3 : Int32)) + (1 : Int32)))
  have d := c_isub (((x &&& (2147483647 : Int32)) % (3 : Int32)) + (((y &&& (2147483647 : Int32)) % (3 : Int32)) + (1 : Int32))) 1
  have d' := rng32 ((((x &&& (2147483647 : Int32)) % (3 : Int32)) + (((y &&& (2147483647 : Int32)) % (3 : Int32)) + (1 : Int32))) - (1 : Int32))
  omega
theorem own_n3 (y : Int32) : (((y &&& (2147483647 : Int32)) % (3 : Int32)) + (1 : Int32)) = (1 : Int32) ∨ (((y &&& (2147483647 : Int32)) % (3 : Int32)) + (1 : Int32)) = (2 : Int32) ∨ (((y &&& (2147483647 : Int32)) % (3 : Int32)) + (1 : Int32)) = (3 : Int32) := by
  have a' := own_p0 y
  have o : (1 : Int32).toInt = 1 := by decide
  have o2 : (2 : Int32).toInt = 2 := by decide
  have o3 : (3 : Int32).toInt = 3 := by decide
  have b := c_iadd ((y &&& (2147483647 : Int32)) % (3 : Int32)) 1
  have b' := rng32 (((y &&& (2147483647 : Int32)) % (3 : Int32)) + (1 : Int32))
  generalize (((y &&& (2147483647 : Int32)) % (3 : Int32)) + (1 : Int32)) = n at *
  have h : n.toInt = 1 ∨ n.toInt = 2 ∨ n.toInt = 3 := by omega
  rcases h with h | h | h
  · exact Or.inl (Int32.toInt_inj.mp (by rw [h, o]))
  · exact Or.inr (Or.inl (Int32.toInt_inj.mp (by rw [h, o2])))
  · exact Or.inr (Or.inr (Int32.toInt_inj.mp (by rw [h, o3])))
theorem own_pick {Z : State} {h : Heap} {j : Int32} {c0 c1 c2 : Addr} {C : String} (hj : 0 ≤ j.toInt ∧ j.toInt < 3) (e0 : Exa Z h c0 C) (e1 : Exa Z h c1 C) (e2 : Exa Z h c2 C) : ∃ y, ([(.ref c0), (.ref c1), (.ref c2)] : List Value).getD j.toNatClampNeg .null = .ref y ∧ Exa Z h y C := by
  have hn := nat_of (own_ix hj).1
  have h3 : j.toNatClampNeg = 0 ∨ j.toNatClampNeg = 1 ∨ j.toNatClampNeg = 2 := by omega
  rcases h3 with q | q | q <;> rw [q]
  · exact ⟨c0, rfl, e0⟩
  · exact ⟨c1, rfl, e1⟩
  · exact ⟨c2, rfl, e2⟩
theorem pd_17 : parseMethodDescriptor "(Ljava/net/URI;Ljava/net/URI;Ljava/nio/file/Path;Ljava/util/Optional;)V" = some ⟨[(.object "java/net/URI"), (.object "java/net/URI"), (.object "java/nio/file/Path"), (.object "java/util/Optional")], none⟩ := by decide +kernel
theorem pd_18 : parseMethodDescriptor "(Ljava/lang/Object;)Z" = some ⟨[(.object "java/lang/Object")], some .boolean⟩ := by decide +kernel
theorem pd_19 : parseMethodDescriptor "(Ljava/net/URI;Lcom/example/gantry/gantry/resolver/LocalCopy;)V" = some ⟨[(.object "java/net/URI"), (.object "com/example/gantry/gantry/resolver/LocalCopy")], none⟩ := by decide +kernel
theorem pd_20 : parseMethodDescriptor "(Ljava/util/List;Ljava/util/Optional;Ljava/util/List;ZLjava/util/List;Ljava/util/List;Ljava/util/List;Ljava/util/List;)V" = some ⟨[(.object "java/util/List"), (.object "java/util/Optional"), (.object "java/util/List"), .boolean, (.object "java/util/List"), (.object "java/util/List"), (.object "java/util/List"), (.object "java/util/List")], none⟩ := by decide +kernel
theorem pd_21 : parseMethodDescriptor "()Lcom/example/gantry/gantry/resolver/LocalCopy;" = some ⟨[], some (.object "com/example/gantry/gantry/resolver/LocalCopy")⟩ := by decide +kernel
theorem pd_22 : parseMethodDescriptor "()I" = some ⟨[], some .int⟩ := by decide +kernel
theorem pd_23 : parseMethodDescriptor "(ILjava/lang/Object;)V" = some ⟨[.int, (.object "java/lang/Object")], none⟩ := by decide +kernel
theorem pn_15 : plainName "com/example/gantry/gantry/resolver/ResolutionApplicationPinLaw" = true := by first | (simp [plainName, overriddenIn]; done) | decide +kernel
def Q0 (Z : State) (p1 : Int32) (p2 : Int32) (p3 : Int32) (w_EMPTY_ELEMENTDATA : Addr) (w_DEFAULTCAPACITY_EMPTY_ELEMENTDATA : Addr) (w_EMPTY : Addr) (w_EMPTY_LIST : Addr) (k_w_EMPTY_ELEMENTDATA : ClassId) (k_w_DEFAULTCAPACITY_EMPTY_ELEMENTDATA : ClassId) (w_mir : Addr) (w_els : Addr) (k_els : ClassId) (h0 : Heap) (n0 : Nat) (v : Option Value) (h : Heap) : Prop :=
  (v = some (.int (1 : Int32)))
theorem ef_0 (m : MethodId) (p1 : Int32) (p2 : Int32) (p3 : Int32) : entryFrame m #[(.int p1), (.int p2), (.int p3)] maxLocals = mkF m 0 #[.val (.int p1), .val (.int p2), .val (.int p3), .unset, .unset, .unset, .unset, .unset, .unset, .unset] [] := by first | (simp [entryFrame, mkF, argsToLocals, Value.category, maxLocals]; done) | rfl
set_option maxRecDepth 65536 in
set_option maxHeartbeats 40000000 in
theorem rm0 (l : Launch) (Z : State) (a0 : Array Value) (hw : ∀ d ∈ tables_1, d.before a0 Z = true) (ws : List Jvm.Cond) (p1 : Int32) (p2 : Int32) (p3 : Int32) (w_EMPTY_ELEMENTDATA : Addr) (w_DEFAULTCAPACITY_EMPTY_ELEMENTDATA : Addr) (w_EMPTY : Addr) (w_EMPTY_LIST : Addr) (k_w_EMPTY_ELEMENTDATA : ClassId) (k_w_DEFAULTCAPACITY_EMPTY_ELEMENTDATA : ClassId) (w_mir : Addr) (w_els : Addr) (k_els : ClassId) (h0 : Heap) (n0 : Nat) (O0 : Old Z n0 h0) (SF : Start Z w_EMPTY_ELEMENTDATA w_DEFAULTCAPACITY_EMPTY_ELEMENTDATA w_EMPTY w_EMPTY_LIST k_w_EMPTY_ELEMENTDATA k_w_DEFAULTCAPACITY_EMPTY_ELEMENTDATA w_mir w_els k_els) :
    Meets l x code maxLocals ret ws room_1 48 256 Z #[(.int p1), (.int p2), (.int p3)] h0 n0 (Q0 Z p1 p2 p3 w_EMPTY_ELEMENTDATA w_DEFAULTCAPACITY_EMPTY_ELEMENTDATA w_EMPTY w_EMPTY_LIST k_w_EMPTY_ELEMENTDATA k_w_DEFAULTCAPACITY_EMPTY_ELEMENTDATA w_mir w_els k_els h0 n0) := by
  refine Meets.of (F := fun m => mkF m 0 #[.val (.int p1), .val (.int p2), .val (.int p3), .unset, .unset, .unset, .unset, .unset, .unset, .unset] []) (plainFor_of_name pn_15) (fun m => ef_0 m p1 p2 p3) ?_
  intro p e s m below meth c T0 hx hby hml hown0 hnm hret hlk hZ X0 e0
  have hown : s.vm.findClass "com/example/gantry/gantry/resolver/ResolutionApplicationPinLaw" = some m.cls := hown0
  have N0 := Fr.nil n0
  obtain ⟨z0, z1, z2, z3, z4, z5, z6, z7, z8, z9, z10, z11, zm, z13, z14, -⟩ := SF
  show Goes _ _ _ _ _ _ (T0.setTop (mkF m 0 #[.val (.int p1), .val (.int p2), .val (.int p3), .unset, .unset, .unset, .unset, .unset, .unset, .unset] []))
  refine own_iloadN X0 hx (hb hby at_0) rfl ?_
  refine own_ldcInt X0 hx hZ hown (hw _ (List.mem_of_getElem? (i := 0) rfl)) (hb hby at_1) ?_
  refine own_iand X0 hx (hb hby at_3) ?_
  refine own_iconst X0 hx (v := (3 : Int32)) (hb hby at_4) rfl ?_
  refine own_irem X0 hx (hb hby at_5) (by decide) ?_
  refine own_iconst X0 hx (v := (1 : Int32)) (hb hby at_6) rfl ?_
  refine own_iadd X0 hx (hb hby at_7) ?_
  refine own_istoreN X0 hx (Ls' := #[.val (.int p1), .val (.int p2), .val (.int p3), .val (.int (((p1 &&& (2147483647 : Int32)) % (3 : Int32)) + (1 : Int32))), .unset, .unset, .unset, .unset, .unset, .unset]) (hb hby at_8) rfl ?_
  refine own_iloadN X0 hx (hb hby at_9) rfl ?_
  refine own_ldcInt X0 hx hZ hown (hw _ (List.mem_of_getElem? (i := 0) rfl)) (hb hby at_10) ?_
  refine own_iand X0 hx (hb hby at_12) ?_
  refine own_iconst X0 hx (v := (3 : Int32)) (hb hby at_13) rfl ?_
  show Goes _ _ _ _ _ _ (T0.setTop (mkF m 14 #[.val (.int p1), .val (.int p2), .val (.int p3), .val (.int (((p1 &&& (2147483647 : Int32)) % (3 : Int32)) + (1 : Int32))), .unset, .unset, .unset, .unset, .unset, .unset] [(.int (3 : Int32)), (.int (p2 &&& (2147483647 : Int32)))]))
  refine own_irem X0 hx (hb hby at_14) (by decide) ?_
  refine own_istore X0 hx (Ls' := #[.val (.int p1), .val (.int p2), .val (.int p3), .val (.int (((p1 &&& (2147483647 : Int32)) % (3 : Int32)) + (1 : Int32))), .val (.int ((p2 &&& (2147483647 : Int32)) % (3 : Int32))), .unset, .unset, .unset, .unset, .unset]) (hb hby at_15) rfl ?_
  show Goes _ _ _ _ _ _ (T0.setTop (mkF m 17 #[.val (.int p1), .val (.int p2), .val (.int p3), .val (.int (((p1 &&& (2147483647 : Int32)) % (3 : Int32)) + (1 : Int32))), .val (.int ((p2 &&& (2147483647 : Int32)) % (3 : Int32))), .unset, .unset, .unset, .unset, .unset] []))
  rcases own_n3 p1 with hn | hn | hn
  ·
    refine own_iconst X0 hx (v := (3 : Int32)) (hb hby at_17) rfl ?_
    refine own_newR X0 hx hZ hown (hw _ (List.mem_of_getElem? (i := 1) rfl)) (hw _ (List.mem_of_getElem? (i := 2) rfl)) e0 (hb hby at_18) (by decide) (cap := 3) (by decide) (by decide) (by decide) (by decide) (fun T1 h1 b1 k1 g1 X1 e1 E1 A1 O1_ => ?_)
    have ge_b1 : n0 ≤ b1 := Nat.le_trans (own_sz O0) (Nat.le_of_eq g1.symm)
    have O2 := O0.ext E1
    have V1 : Arv Z h1 b1 k1 (.object "com/example/gantry/gantry/resolver/LocalCopy") (3 : Int32) [.null, .null, .null] .null := A1.pad (pad_rep [] .null 3)
    refine own_astore X1 hx (Ls' := #[.val (.int p1), .val (.int p2), .val (.int p3), .val (.int (((p1 &&& (2147483647 : Int32)) % (3 : Int32)) + (1 : Int32))), .val (.int ((p2 &&& (2147483647 : Int32)) % (3 : Int32))), .val (.ref b1), .unset, .unset, .unset, .unset]) (hb hby at_21) rfl rfl ?_
    refine own_aload X1 hx (hb hby at_23) rfl rfl ?_
    refine own_iconst X1 hx (v := (0 : Int32)) (hb hby at_25) rfl ?_
    show Goes _ _ _ _ _ _ (T1.setTop (mkF m 26 #[.val (.int p1), .val (.int p2), .val (.int p3), .val (.int (((p1 &&& (2147483647 : Int32)) % (3 : Int32)) + (1 : Int32))), .val (.int ((p2 &&& (2147483647 : Int32)) % (3 : Int32))), .val (.ref b1), .unset, .unset, .unset, .unset] [(.int (0 : Int32)), (.ref b1)]))
    refine own_new X1 hx hZ hown (hw _ (List.mem_of_getElem? (i := 1) rfl)) (hw _ (List.mem_of_getElem? (i := 3) rfl)) (hw _ (List.mem_of_getElem? (i := 4) rfl)) e1 (hb hby at_26) (by decide) (by decide) (fun T3 h3 b3 g3 X3 e3 E3 A3 D3 => ?_)
    have ne_b1_b3 : b1 ≠ b3 := Nat.ne_of_lt (Nat.lt_of_lt_of_le V1.lt (Nat.le_of_eq g3.symm))
    have ge_b3 : n0 ≤ b3 := Nat.le_trans (own_sz O2) (Nat.le_of_eq g3.symm)
    have A4_b1 := V1.ext E3
    have O4 := O2.ext E3
    have F3_location_b3 : Fld Z h3 b3 "com/example/gantry/gantry/resolver/LocalCopy" "location" "Ljava/net/URI;" .null := D3 (Or.inr (hw _ (List.mem_of_getElem? (i := 17) rfl))) (ty := (.object "java/net/URI")) (by decide)
    have F3_retrievedFrom_b3 : Fld Z h3 b3 "com/example/gantry/gantry/resolver/LocalCopy" "retrievedFrom" "Ljava/net/URI;" .null := D3 (Or.inr (hw _ (List.mem_of_getElem? (i := 19) rfl))) (ty := (.object "java/net/URI")) (by decide)
    have F3_file_b3 : Fld Z h3 b3 "com/example/gantry/gantry/resolver/LocalCopy" "file" "Ljava/nio/file/Path;" .null := D3 (Or.inr (hw _ (List.mem_of_getElem? (i := 21) rfl))) (ty := (.object "java/nio/file/Path")) (by decide)
    have F3_checkedSha256_b3 : Fld Z h3 b3 "com/example/gantry/gantry/resolver/LocalCopy" "checkedSha256" "Ljava/util/Optional;" .null := D3 (Or.inr (hw _ (List.mem_of_getElem? (i := 23) rfl))) (ty := (.object "java/util/Optional")) (by decide)
    refine own_dup X3 hx (hb hby at_29) rfl ?_
    refine own_aconst_null X3 hx (hb hby at_30) ?_
    refine own_aconst_null X3 hx (hb hby at_31) ?_
    show Goes _ _ _ _ _ _ (T3.setTop (mkF m 32 #[.val (.int p1), .val (.int p2), .val (.int p3), .val (.int (((p1 &&& (2147483647 : Int32)) % (3 : Int32)) + (1 : Int32))), .val (.int ((p2 &&& (2147483647 : Int32)) % (3 : Int32))), .val (.ref b1), .unset, .unset, .unset, .unset] [.null, .null, (.ref b3), (.ref b3), (.int (0 : Int32)), (.ref b1)]))
    refine own_aconst_null X3 hx (hb hby at_32) ?_
    refine own_aconst_null X3 hx (hb hby at_33) ?_
    refine own_special X3 hx hZ hown (y := (⟨"com/example/gantry/gantry/resolver/LocalCopy", "<init>", "(Ljava/net/URI;Ljava/net/URI;Ljava/nio/file/Path;Ljava/util/Optional;)V"⟩ : MethodName)) rfl (hw _ (List.mem_of_getElem? (i := 5) rfl)) (hw _ (List.mem_of_getElem? (i := 6) rfl)) (hw _ (List.mem_of_getElem? (i := 4) rfl)) (hw _ (List.mem_of_getElem? (i := 7) rfl)) (a := b3) (by decide) (W := 3) (by decide) (by decide) N0 e3 (by rw [hml]; rfl) (argsL := [.null, .null, .null, .null]) (rest := [(.ref b3), (.int (0 : Int32)), (.ref b1)]) (lenOf pd_17 rfl) (Nat.le_of_eq rfl) (by decide) (by decide) (rm1 l Z a0 hw [] b3 (.null) (.null) (.null) (.null) h3 n0 O4 A3 F3_location_b3 F3_retrievedFrom_b3 F3_file_b3 F3_checkedSha256_b3 ge_b3) rfl (hb hby at_34) ?_
    intro v5 T5 lc5 X5 N5 hQ5
    obtain ⟨rfl, K5, r5_0⟩ := hQ5
    have A6_b1 := A4_b1.keep K5 (ninS ne_b1_b3 nin0)
    have O6 := O4.keep K5 (allS ge_b3 all0)
    refine own_aastore X5 hx hZ N5 rfl A6_b1 rfl rfl ⟨by decide, by decide⟩ (i := 0) rfl (by first | decide | (simp; done)) ge_b1 (fun _ Ar q => Sto.ofV Ar q O1_ (Ins.self r5_0)) (hb hby at_37) (fun T7 h7 lc7 X7 e7 N7 W7 V7 => ?_)
    have E8_b3 := r5_0.wr W7
    have O8 := O6.wr W7 ge_b1
    have V7' : Arv Z h7 b1 k1 (.object "com/example/gantry/gantry/resolver/LocalCopy") (3 : Int32) [(.ref b3), .null, .null] .null := V7
    refine own_aload X7 hx (hb hby at_38) rfl rfl ?_
    refine own_iconst X7 hx (v := (1 : Int32)) (hb hby at_40) rfl ?_
    refine own_new X7 hx hZ hown (hw _ (List.mem_of_getElem? (i := 1) rfl)) (hw _ (List.mem_of_getElem? (i := 3) rfl)) (hw _ (List.mem_of_getElem? (i := 4) rfl)) e7 (hb hby at_41) (by decide) (by decide) (fun T9 h9 b9 g9 X9 e9 E9 A9 D9 => ?_)
    have ne_b1_b9 : b1 ≠ b9 := Nat.ne_of_lt (Nat.lt_of_lt_of_le V7'.lt (Nat.le_of_eq g9.symm))
    have ge_b9 : n0 ≤ b9 := Nat.le_trans (own_sz O8) (Nat.le_of_eq g9.symm)
    have E10_b3 := E8_b3.ext E9
    have A10_b1 := V7'.ext E9
    have O10 := O8.ext E9
    have F9_location_b9 : Fld Z h9 b9 "com/example/gantry/gantry/resolver/LocalCopy" "location" "Ljava/net/URI;" .null := D9 (Or.inr (hw _ (List.mem_of_getElem? (i := 17) rfl))) (ty := (.object "java/net/URI")) (by decide)
    have F9_retrievedFrom_b9 : Fld Z h9 b9 "com/example/gantry/gantry/resolver/LocalCopy" "retrievedFrom" "Ljava/net/URI;" .null := D9 (Or.inr (hw _ (List.mem_of_getElem? (i := 19) rfl))) (ty := (.object "java/net/URI")) (by decide)
    have F9_file_b9 : Fld Z h9 b9 "com/example/gantry/gantry/resolver/LocalCopy" "file" "Ljava/nio/file/Path;" .null := D9 (Or.inr (hw _ (List.mem_of_getElem? (i := 21) rfl))) (ty := (.object "java/nio/file/Path")) (by decide)
    have F9_checkedSha256_b9 : Fld Z h9 b9 "com/example/gantry/gantry/resolver/LocalCopy" "checkedSha256" "Ljava/util/Optional;" .null := D9 (Or.inr (hw _ (List.mem_of_getElem? (i := 23) rfl))) (ty := (.object "java/util/Optional")) (by decide)
    refine own_dup X9 hx (hb hby at_44) rfl ?_
    refine own_aconst_null X9 hx (hb hby at_45) ?_
    refine own_aconst_null X9 hx (hb hby at_46) ?_
    show Goes _ _ _ _ _ _ (T9.setTop (mkF m 47 #[.val (.int p1), .val (.int p2), .val (.int p3), .val (.int (((p1 &&& (2147483647 : Int32)) % (3 : Int32)) + (1 : Int32))), .val (.int ((p2 &&& (2147483647 : Int32)) % (3 : Int32))), .val (.ref b1), .unset, .unset, .unset, .unset] [.null, .null, (.ref b9), (.ref b9), (.int (1 : Int32)), (.ref b1)]))
    refine own_aconst_null X9 hx (hb hby at_47) ?_
    refine own_aconst_null X9 hx (hb hby at_48) ?_
    refine own_special X9 hx hZ hown (y := (⟨"com/example/gantry/gantry/resolver/LocalCopy", "<init>", "(Ljava/net/URI;Ljava/net/URI;Ljava/nio/file/Path;Ljava/util/Optional;)V"⟩ : MethodName)) rfl (hw _ (List.mem_of_getElem? (i := 5) rfl)) (hw _ (List.mem_of_getElem? (i := 6) rfl)) (hw _ (List.mem_of_getElem? (i := 4) rfl)) (hw _ (List.mem_of_getElem? (i := 7) rfl)) (a := b9) (by decide) (W := 3) (by decide) (by decide) N7 e9 (by rw [hml]; rfl) (argsL := [.null, .null, .null, .null]) (rest := [(.ref b9), (.int (1 : Int32)), (.ref b1)]) (lenOf pd_17 rfl) (Nat.le_of_eq rfl) (by decide) (by decide) (rm1 l Z a0 hw [] b9 (.null) (.null) (.null) (.null) h9 n0 O10 A9 F9_location_b9 F9_retrievedFrom_b9 F9_file_b9 F9_checkedSha256_b9 ge_b9) rfl (hb hby at_49) ?_
    intro v11 T11 lc11 X11 N11 hQ11
    obtain ⟨rfl, K11, r11_0⟩ := hQ11
    have E12_b3 := E10_b3.keep K11
    have A12_b1 := A10_b1.keep K11 (ninS ne_b1_b9 nin0)
    have O12 := O10.keep K11 (allS ge_b9 all0)
    refine own_aastore X11 hx hZ N11 rfl A12_b1 rfl rfl ⟨by decide, by decide⟩ (i := 1) rfl (by first | decide | (simp; done)) ge_b1 (fun _ Ar q => Sto.ofV Ar q O1_ (Ins.self r11_0)) (hb hby at_52) (fun T13 h13 lc13 X13 e13 N13 W13 V13 => ?_)
    have E14_b3 := E12_b3.wr W13
    have E14_b9 := r11_0.wr W13
    have O14 := O12.wr W13 ge_b1
    have V13' : Arv Z h13 b1 k1 (.object "com/example/gantry/gantry/resolver/LocalCopy") (3 : Int32) [(.ref b3), (.ref b9), .null] .null := V13
    refine own_aload X13 hx (hb hby at_53) rfl rfl ?_
    refine own_iconst X13 hx (v := (2 : Int32)) (hb hby at_55) rfl ?_
    refine own_new X13 hx hZ hown (hw _ (List.mem_of_getElem? (i := 1) rfl)) (hw _ (List.mem_of_getElem? (i := 3) rfl)) (hw _ (List.mem_of_getElem? (i := 4) rfl)) e13 (hb hby at_56) (by decide) (by decide) (fun T15 h15 b15 g15 X15 e15 E15 A15 D15 => ?_)
    have ne_b1_b15 : b1 ≠ b15 := Nat.ne_of_lt (Nat.lt_of_lt_of_le V13'.lt (Nat.le_of_eq g15.symm))
    have ge_b15 : n0 ≤ b15 := Nat.le_trans (own_sz O14) (Nat.le_of_eq g15.symm)
    have E16_b3 := E14_b3.ext E15
    have E16_b9 := E14_b9.ext E15
    have A16_b1 := V13'.ext E15
    have O16 := O14.ext E15
    have F15_location_b15 : Fld Z h15 b15 "com/example/gantry/gantry/resolver/LocalCopy" "location" "Ljava/net/URI;" .null := D15 (Or.inr (hw _ (List.mem_of_getElem? (i := 17) rfl))) (ty := (.object "java/net/URI")) (by decide)
    have F15_retrievedFrom_b15 : Fld Z h15 b15 "com/example/gantry/gantry/resolver/LocalCopy" "retrievedFrom" "Ljava/net/URI;" .null := D15 (Or.inr (hw _ (List.mem_of_getElem? (i := 19) rfl))) (ty := (.object "java/net/URI")) (by decide)
    have F15_file_b15 : Fld Z h15 b15 "com/example/gantry/gantry/resolver/LocalCopy" "file" "Ljava/nio/file/Path;" .null := D15 (Or.inr (hw _ (List.mem_of_getElem? (i := 21) rfl))) (ty := (.object "java/nio/file/Path")) (by decide)
    have F15_checkedSha256_b15 : Fld Z h15 b15 "com/example/gantry/gantry/resolver/LocalCopy" "checkedSha256" "Ljava/util/Optional;" .null := D15 (Or.inr (hw _ (List.mem_of_getElem? (i := 23) rfl))) (ty := (.object "java/util/Optional")) (by decide)
    refine own_dup X15 hx (hb hby at_59) rfl ?_
    refine own_aconst_null X15 hx (hb hby at_60) ?_
    refine own_aconst_null X15 hx (hb hby at_61) ?_
    show Goes _ _ _ _ _ _ (T15.setTop (mkF m 62 #[.val (.int p1), .val (.int p2), .val (.int p3), .val (.int (((p1 &&& (2147483647 : Int32)) % (3 : Int32)) + (1 : Int32))), .val (.int ((p2 &&& (2147483647 : Int32)) % (3 : Int32))), .val (.ref b1), .unset, .unset, .unset, .unset] [.null, .null, (.ref b15), (.ref b15), (.int (2 : Int32)), (.ref b1)]))
    refine own_aconst_null X15 hx (hb hby at_62) ?_
    refine own_aconst_null X15 hx (hb hby at_63) ?_
    refine own_special X15 hx hZ hown (y := (⟨"com/example/gantry/gantry/resolver/LocalCopy", "<init>", "(Ljava/net/URI;Ljava/net/URI;Ljava/nio/file/Path;Ljava/util/Optional;)V"⟩ : MethodName)) rfl (hw _ (List.mem_of_getElem? (i := 5) rfl)) (hw _ (List.mem_of_getElem? (i := 6) rfl)) (hw _ (List.mem_of_getElem? (i := 4) rfl)) (hw _ (List.mem_of_getElem? (i := 7) rfl)) (a := b15) (by decide) (W := 3) (by decide) (by decide) N13 e15 (by rw [hml]; rfl) (argsL := [.null, .null, .null, .null]) (rest := [(.ref b15), (.int (2 : Int32)), (.ref b1)]) (lenOf pd_17 rfl) (Nat.le_of_eq rfl) (by decide) (by decide) (rm1 l Z a0 hw [] b15 (.null) (.null) (.null) (.null) h15 n0 O16 A15 F15_location_b15 F15_retrievedFrom_b15 F15_file_b15 F15_checkedSha256_b15 ge_b15) rfl (hb hby at_64) ?_
    intro v17 T17 lc17 X17 N17 hQ17
    obtain ⟨rfl, K17, r17_0⟩ := hQ17
    have E18_b3 := E16_b3.keep K17
    have E18_b9 := E16_b9.keep K17
    have A18_b1 := A16_b1.keep K17 (ninS ne_b1_b15 nin0)
    have O18 := O16.keep K17 (allS ge_b15 all0)
    refine own_aastore X17 hx hZ N17 rfl A18_b1 rfl rfl ⟨by decide, by decide⟩ (i := 2) rfl (by first | decide | (simp; done)) ge_b1 (fun _ Ar q => Sto.ofV Ar q O1_ (Ins.self r17_0)) (hb hby at_67) (fun T19 h19 lc19 X19 e19 N19 W19 V19 => ?_)
    have E20_b3 := E18_b3.wr W19
    have E20_b9 := E18_b9.wr W19
    have E20_b15 := r17_0.wr W19
    have O20 := O18.wr W19 ge_b1
    have V19' : Arv Z h19 b1 k1 (.object "com/example/gantry/gantry/resolver/LocalCopy") (3 : Int32) [(.ref b3), (.ref b9), (.ref b15)] .null := V19
    refine own_new X19 hx hZ hown (hw _ (List.mem_of_getElem? (i := 25) rfl)) (hw _ (List.mem_of_getElem? (i := 26) rfl)) (hw _ (List.mem_of_getElem? (i := 27) rfl)) e19 (hb hby at_68) (by decide) (by decide) (fun T21 h21 b21 g21 X21 e21 E21 A21 D21 => ?_)
    have ne_b1_b21 : b1 ≠ b21 := Nat.ne_of_lt (Nat.lt_of_lt_of_le V19'.lt (Nat.le_of_eq g21.symm))
    have ge_b21 : n0 ≤ b21 := Nat.le_trans (own_sz O20) (Nat.le_of_eq g21.symm)
    have E22_b3 := E20_b3.ext E21
    have E22_b9 := E20_b9.ext E21
    have E22_b15 := E20_b15.ext E21
    have A22_b1 := V19'.ext E21
    have O22 := O20.ext E21
    have F21_modCount_b21 : Fld Z h21 b21 "java/util/AbstractList" "modCount" "I" (.int (0 : Int32)) := D21 (Or.inl (hw _ (List.mem_of_getElem? (i := 45) rfl))) (ty := .int) (by decide)
    have F21_elementData_b21 : Fld Z h21 b21 "java/util/ArrayList" "elementData" "[Ljava/lang/Object;" .null := D21 (Or.inl (hw _ (List.mem_of_getElem? (i := 48) rfl))) (ty := (.array (.object "java/lang/Object"))) (by decide)
    have F21_size_b21 : Fld Z h21 b21 "java/util/ArrayList" "size" "I" (.int (0 : Int32)) := D21 (Or.inl (hw _ (List.mem_of_getElem? (i := 57) rfl))) (ty := .int) (by decide)
    refine own_dup X21 hx (hb hby at_71) rfl ?_
    refine own_special X21 hx hZ hown (y := (⟨"java/util/ArrayList", "<init>", "()V"⟩ : MethodName)) rfl (hw _ (List.mem_of_getElem? (i := 28) rfl)) (hw _ (List.mem_of_getElem? (i := 29) rfl)) (hw _ (List.mem_of_getElem? (i := 27) rfl)) (hw _ (List.mem_of_getElem? (i := 30) rfl)) (a := b21) (by decide) (W := 1) (by decide) (by decide) N19 e21 (by rw [hml]; rfl) (argsL := []) (rest := [(.ref b21)]) (lenOf pd_0 rfl) (Nat.le_of_eq rfl) (by decide) (by decide) (rm4 l Z a0 hw [] b21 ((.int (0 : Int32))) (.null) w_EMPTY_ELEMENTDATA w_DEFAULTCAPACITY_EMPTY_ELEMENTDATA w_EMPTY w_EMPTY_LIST k_w_EMPTY_ELEMENTDATA k_w_DEFAULTCAPACITY_EMPTY_ELEMENTDATA w_mir w_els k_els h21 n0 O22 ⟨z0, z1, z2, z3, z4, z5, z6, z7, z8, z9, z10, z11, zm, z13, z14, trivial⟩ A21 F21_modCount_b21 F21_elementData_b21 F21_size_b21 ge_b21) rfl (hb hby at_72) ?_
    intro v23 T23 lc23 X23 N23 hQ23
    obtain ⟨rfl, K23, r23_0, r23_1, r23_2, r23_3⟩ := hQ23
    have E24_b3 := E22_b3.keep K23
    have E24_b9 := E22_b9.keep K23
    have E24_b15 := E22_b15.keep K23
    have A24_b1 := A22_b1.keep K23 (ninS ne_b1_b21 nin0)
    have O24 := O22.keep K23 (allS ge_b21 all0)
    refine own_astore X23 hx (Ls' := #[.val (.int p1), .val (.int p2), .val (.int p3), .val (.int (((p1 &&& (2147483647 : Int32)) % (3 : Int32)) + (1 : Int32))), .val (.int ((p2 &&& (2147483647 : Int32)) % (3 : Int32))), .val (.ref b1), .val (.ref b21), .unset, .unset, .unset]) (hb hby at_75) rfl rfl ?_
    refine own_aload X23 hx (hb hby at_77) rfl rfl ?_
    refine own_aload X23 hx (hb hby at_79) rfl rfl ?_
    show Goes _ _ _ _ _ _ (T23.setTop (mkF m 81 #[.val (.int p1), .val (.int p2), .val (.int p3), .val (.int (((p1 &&& (2147483647 : Int32)) % (3 : Int32)) + (1 : Int32))), .val (.int ((p2 &&& (2147483647 : Int32)) % (3 : Int32))), .val (.ref b1), .val (.ref b21), .unset, .unset, .unset] [(.ref b1), (.ref b21)]))
    refine own_iload X23 hx (hb hby at_81) rfl ?_
    show Goes _ _ _ _ _ _ (T23.setTop (mkF m 83 #[.val (.int p1), .val (.int p2), .val (.int p3), .val (.int (((p1 &&& (2147483647 : Int32)) % (3 : Int32)) + (1 : Int32))), .val (.int ((p2 &&& (2147483647 : Int32)) % (3 : Int32))), .val (.ref b1), .val (.ref b21), .unset, .unset, .unset] [(.int ((p2 &&& (2147483647 : Int32)) % (3 : Int32))), (.ref b1), (.ref b21)]))
    obtain ⟨y25, hy25, hE25⟩ := own_pick (j := ((p2 &&& (2147483647 : Int32)) % (3 : Int32))) (own_p0 p2) E24_b3 E24_b9 E24_b15
    refine own_aaload X23 hx hZ rfl A24_b1 rfl (own_ix (own_p0 p2)) (v := .ref y25) hy25 (hb hby at_83) ?_
    refine own_virtual X23 hx hZ hown (y := (⟨"java/util/ArrayList", "add", "(Ljava/lang/Object;)Z"⟩ : MethodName)) (z := (⟨"java/util/ArrayList", "add", "(Ljava/lang/Object;)Z"⟩ : MethodName)) (hw _ (List.mem_of_getElem? (i := 49) rfl)) (hw _ (List.mem_of_getElem? (i := 50) rfl)) (notFace_of_selects (args := #[]) (mvT hZ (hw _ (List.mem_of_getElem? (i := 52) rfl)))) (hw _ (List.mem_of_getElem? (i := 52) rfl)) (hw _ (List.mem_of_getElem? (i := 51) rfl)) (hw _ (List.mem_of_getElem? (i := 27) rfl)) (hw _ (List.mem_of_getElem? (i := 53) rfl)) (a := b21) r23_0 (by decide) (W := 0) (by decide) (by decide) N23 rfl (by rw [hml]; rfl) (argsL := [(.ref y25)]) (rest := []) (lenOf pd_18 rfl) (Nat.le_of_eq rfl) (by decide) (by decide) (rm7gL l Z a0 hw [] b21 y25 (0 : Int32) w_EMPTY_ELEMENTDATA w_DEFAULTCAPACITY_EMPTY_ELEMENTDATA w_EMPTY w_EMPTY_LIST k_w_EMPTY_ELEMENTDATA k_w_DEFAULTCAPACITY_EMPTY_ELEMENTDATA w_mir w_els k_els T23.heap n0 O24 ⟨z0, z1, z2, z3, z4, z5, z6, z7, z8, z9, z10, z11, zm, z13, z14, trivial⟩ r23_0 r23_1 r23_2 r23_3 ge_b21 hE25) rfl (hb hby at_84) ?_
    intro v26 T26 lc26 X26 N26 hQ26
    obtain ⟨b_26, k_26, rfl, K26, r26_0, r26_1, r26_2, r26_3, r26_4, r26_5, r26_6, r26_7⟩ := hQ26
    have E27_b3 := E24_b3.keep K26
    have E27_b9 := E24_b9.keep K26
    have E27_b15 := E24_b15.keep K26
    have E27_y25 := hE25.keep K26
    have A27_b1 := A24_b1.keep K26 (ninS ne_b1_b21 nin0)
    have O27 := O24.keep K26 (allS ge_b21 all0)
    have ne_b1_b_26 : b1 ≠ b_26 := Nat.ne_of_lt (Nat.lt_of_lt_of_le A24_b1.lt r26_6)
    have ge_b_26 : n0 ≤ b_26 := Nat.le_trans (own_sz O24) r26_6
    refine own_pop X26 hx (hb hby at_87) rfl ?_
    refine own_iloadN X26 hx (hb hby at_88) rfl ?_
    refine own_iconst X26 hx (v := (1 : Int32)) (hb hby at_89) rfl ?_
    show Goes _ _ _ _ _ _ (T26.setTop (mkF m 90 #[.val (.int p1), .val (.int p2), .val (.int p3), .val (.int (((p1 &&& (2147483647 : Int32)) % (3 : Int32)) + (1 : Int32))), .val (.int ((p2 &&& (2147483647 : Int32)) % (3 : Int32))), .val (.ref b1), .val (.ref b21), .unset, .unset, .unset] [(.int (1 : Int32)), (.int (((p1 &&& (2147483647 : Int32)) % (3 : Int32)) + (1 : Int32)))]))
    refine own_icmpYes X26 hx (pc' := 108) (hb hby at_90) (flt ((by first | (rw [hn]; done) | (rw [hn]; decide)) : ¬ ((1 : Int32) < (((p1 &&& (2147483647 : Int32)) % (3 : Int32)) + (1 : Int32))))).2.2.2 (by decide) (by decide) ?_
    refine own_iloadN X26 hx (hb hby at_108) rfl ?_
    refine own_iconst X26 hx (v := (2 : Int32)) (hb hby at_109) rfl ?_
    refine own_icmpYes X26 hx (pc' := 128) (hb hby at_110) (flt ((by first | (rw [hn]; done) | (rw [hn]; decide)) : ¬ ((2 : Int32) < (((p1 &&& (2147483647 : Int32)) % (3 : Int32)) + (1 : Int32))))).2.2.2 (by decide) (by decide) ?_
    refine own_new X26 hx hZ hown (hw _ (List.mem_of_getElem? (i := 25) rfl)) (hw _ (List.mem_of_getElem? (i := 26) rfl)) (hw _ (List.mem_of_getElem? (i := 27) rfl)) rfl (hb hby at_128) (by decide) (by decide) (fun T28 h28 b28 g28 X28 e28 E28 A28 D28 => ?_)
    have ne_b21_b28 : b21 ≠ b28 := Nat.ne_of_lt (Nat.lt_of_lt_of_le r26_0.lt (Nat.le_of_eq g28.symm))
    have ne_b1_b28 : b1 ≠ b28 := Nat.ne_of_lt (Nat.lt_of_lt_of_le A27_b1.lt (Nat.le_of_eq g28.symm))
    have ne_b_26_b28 : b_26 ≠ b28 := Nat.ne_of_lt (Nat.lt_of_lt_of_le r26_5.lt (Nat.le_of_eq g28.symm))
    have ge_b28 : n0 ≤ b28 := Nat.le_trans (own_sz O27) (Nat.le_of_eq g28.symm)
    have E29_b3 := E27_b3.ext E28
    have E29_b9 := E27_b9.ext E28
    have E29_b15 := E27_b15.ext E28
    have E29_b21 := r26_0.ext E28
    have E29_y25 := E27_y25.ext E28
    have E29_b_26 := r26_5.ext E28
    have F29_modCount_b21 := r26_1.ext E28
    have F29_elementData_b21 := r26_2.ext E28
    have F29_size_b21 := r26_3.ext E28
    have A29_b1 := A27_b1.ext E28
    have A29_b_26 := r26_4.ext E28
    have O29 := O27.ext E28
    have F28_modCount_b28 : Fld Z h28 b28 "java/util/AbstractList" "modCount" "I" (.int (0 : Int32)) := D28 (Or.inl (hw _ (List.mem_of_getElem? (i := 45) rfl))) (ty := .int) (by decide)
    have F28_elementData_b28 : Fld Z h28 b28 "java/util/ArrayList" "elementData" "[Ljava/lang/Object;" .null := D28 (Or.inl (hw _ (List.mem_of_getElem? (i := 48) rfl))) (ty := (.array (.object "java/lang/Object"))) (by decide)
    have F28_size_b28 : Fld Z h28 b28 "java/util/ArrayList" "size" "I" (.int (0 : Int32)) := D28 (Or.inl (hw _ (List.mem_of_getElem? (i := 57) rfl))) (ty := .int) (by decide)
    refine own_dup X28 hx (hb hby at_131) rfl ?_
    refine own_special X28 hx hZ hown (y := (⟨"java/util/ArrayList", "<init>", "()V"⟩ : MethodName)) rfl (hw _ (List.mem_of_getElem? (i := 28) rfl)) (hw _ (List.mem_of_getElem? (i := 29) rfl)) (hw _ (List.mem_of_getElem? (i := 27) rfl)) (hw _ (List.mem_of_getElem? (i := 30) rfl)) (a := b28) (by decide) (W := 1) (by decide) (by decide) N26 e28 (by rw [hml]; rfl) (argsL := []) (rest := [(.ref b28)]) (lenOf pd_0 rfl) (Nat.le_of_eq rfl) (by decide) (by decide) (rm4 l Z a0 hw [] b28 ((.int (0 : Int32))) (.null) w_EMPTY_ELEMENTDATA w_DEFAULTCAPACITY_EMPTY_ELEMENTDATA w_EMPTY w_EMPTY_LIST k_w_EMPTY_ELEMENTDATA k_w_DEFAULTCAPACITY_EMPTY_ELEMENTDATA w_mir w_els k_els h28 n0 O29 ⟨z0, z1, z2, z3, z4, z5, z6, z7, z8, z9, z10, z11, zm, z13, z14, trivial⟩ A28 F28_modCount_b28 F28_elementData_b28 F28_size_b28 ge_b28) rfl (hb hby at_132) ?_
    intro v30 T30 lc30 X30 N30 hQ30
    obtain ⟨rfl, K30, r30_0, r30_1, r30_2, r30_3⟩ := hQ30
    have E31_b3 := E29_b3.keep K30
    have E31_b9 := E29_b9.keep K30
    have E31_b15 := E29_b15.keep K30
    have E31_b21 := E29_b21.keep K30
    have E31_y25 := E29_y25.keep K30
    have E31_b_26 := E29_b_26.keep K30
    have F31_modCount_b21 := F29_modCount_b21.keep K30 (ninS ne_b21_b28 nin0)
    have F31_elementData_b21 := F29_elementData_b21.keep K30 (ninS ne_b21_b28 nin0)
    have F31_size_b21 := F29_size_b21.keep K30 (ninS ne_b21_b28 nin0)
    have A31_b1 := A29_b1.keep K30 (ninS ne_b1_b28 nin0)
    have A31_b_26 := A29_b_26.keep K30 (ninS ne_b_26_b28 nin0)
    have O31 := O29.keep K30 (allS ge_b28 all0)
    refine own_astore X30 hx (Ls' := #[.val (.int p1), .val (.int p2), .val (.int p3), .val (.int (((p1 &&& (2147483647 : Int32)) % (3 : Int32)) + (1 : Int32))), .val (.int ((p2 &&& (2147483647 : Int32)) % (3 : Int32))), .val (.ref b1), .val (.ref b21), .val (.ref b28), .unset, .unset]) (hb hby at_135) rfl rfl ?_
    refine own_aload X30 hx (hb hby at_137) rfl rfl ?_
    refine own_new X30 hx hZ hown (hw _ (List.mem_of_getElem? (i := 80) rfl)) (hw _ (List.mem_of_getElem? (i := 81) rfl)) (hw _ (List.mem_of_getElem? (i := 82) rfl)) rfl (hb hby at_139) (by decide) (by decide) (fun T32 h32 b32 g32 X32 e32 E32 A32 D32 => ?_)
    have ne_b1_b32 : b1 ≠ b32 := Nat.ne_of_lt (Nat.lt_of_lt_of_le A31_b1.lt (Nat.le_of_eq g32.symm))
    have ne_b_26_b32 : b_26 ≠ b32 := Nat.ne_of_lt (Nat.lt_of_lt_of_le E31_b_26.lt (Nat.le_of_eq g32.symm))
    have ne_b21_b32 : b21 ≠ b32 := Nat.ne_of_lt (Nat.lt_of_lt_of_le E31_b21.lt (Nat.le_of_eq g32.symm))
    have ne_b28_b32 : b28 ≠ b32 := Nat.ne_of_lt (Nat.lt_of_lt_of_le r30_0.lt (Nat.le_of_eq g32.symm))
    have ge_b32 : n0 ≤ b32 := Nat.le_trans (own_sz O31) (Nat.le_of_eq g32.symm)
    have E33_b3 := E31_b3.ext E32
    have E33_b9 := E31_b9.ext E32
    have E33_b15 := E31_b15.ext E32
    have E33_b21 := E31_b21.ext E32
    have E33_y25 := E31_y25.ext E32
    have E33_b_26 := E31_b_26.ext E32
    have E33_b28 := r30_0.ext E32
    have F33_modCount_b21 := F31_modCount_b21.ext E32
    have F33_elementData_b21 := F31_elementData_b21.ext E32
    have F33_size_b21 := F31_size_b21.ext E32
    have F33_modCount_b28 := r30_1.ext E32
    have F33_elementData_b28 := r30_2.ext E32
    have F33_size_b28 := r30_3.ext E32
    have A33_b1 := A31_b1.ext E32
    have A33_b_26 := A31_b_26.ext E32
    have O33 := O31.ext E32
    have F32_location_b32 : Fld Z h32 b32 "com/example/gantry/gantry/resolver/Resolution$Jar" "location" "Ljava/net/URI;" .null := D32 (Or.inr (hw _ (List.mem_of_getElem? (i := 88) rfl))) (ty := (.object "java/net/URI")) (by decide)
    have F32_namedBy_b32 : Fld Z h32 b32 "com/example/gantry/gantry/resolver/Resolution$Jar" "namedBy" "Lcom/example/gantry/gantry/resolver/LocalCopy;" .null := D32 (Or.inr (hw _ (List.mem_of_getElem? (i := 90) rfl))) (ty := (.object "com/example/gantry/gantry/resolver/LocalCopy")) (by decide)
    refine own_dup X32 hx (hb hby at_142) rfl ?_
    refine own_aconst_null X32 hx (hb hby at_143) ?_
    refine own_aload X32 hx (hb hby at_144) rfl rfl ?_
    show Goes _ _ _ _ _ _ (T32.setTop (mkF m 146 #[.val (.int p1), .val (.int p2), .val (.int p3), .val (.int (((p1 &&& (2147483647 : Int32)) % (3 : Int32)) + (1 : Int32))), .val (.int ((p2 &&& (2147483647 : Int32)) % (3 : Int32))), .val (.ref b1), .val (.ref b21), .val (.ref b28), .unset, .unset] [(.ref b1), .null, (.ref b32), (.ref b32), (.ref b28)]))
    refine own_iload X32 hx (hb hby at_146) rfl ?_
    refine own_iloadN X32 hx (hb hby at_148) rfl ?_
    refine own_iadd X32 hx (hb hby at_149) ?_
    refine own_iconst X32 hx (v := (1 : Int32)) (hb hby at_150) rfl ?_
    refine own_isub X32 hx (hb hby at_151) ?_
    refine own_iconst X32 hx (v := (3 : Int32)) (hb hby at_152) rfl ?_
    refine own_irem X32 hx (hb hby at_153) (by decide) ?_
    show Goes _ _ _ _ _ _ (T32.setTop (mkF m 154 #[.val (.int p1), .val (.int p2), .val (.int p3), .val (.int (((p1 &&& (2147483647 : Int32)) % (3 : Int32)) + (1 : Int32))), .val (.int ((p2 &&& (2147483647 : Int32)) % (3 : Int32))), .val (.ref b1), .val (.ref b21), .val (.ref b28), .unset, .unset] [(.int (((((p2 &&& (2147483647 : Int32)) % (3 : Int32)) + (((p1 &&& (2147483647 : Int32)) % (3 : Int32)) + (1 : Int32))) - (1 : Int32)) % (3 : Int32))), (.ref b1), .null, (.ref b32), (.ref b32), (.ref b28)]))
    obtain ⟨y34, hy34, hE34⟩ := own_pick (j := (((((p2 &&& (2147483647 : Int32)) % (3 : Int32)) + (((p1 &&& (2147483647 : Int32)) % (3 : Int32)) + (1 : Int32))) - (1 : Int32)) % (3 : Int32))) (own_pn p2 p1) E33_b3 E33_b9 E33_b15
    refine own_aaload X32 hx hZ e32 A33_b1 rfl (own_ix (own_pn p2 p1)) (v := .ref y34) hy34 (hb hby at_154) ?_
    refine own_special X32 hx hZ hown (y := (⟨"com/example/gantry/gantry/resolver/Resolution$Jar", "<init>", "(Ljava/net/URI;Lcom/example/gantry/gantry/resolver/LocalCopy;)V"⟩ : MethodName)) rfl (hw _ (List.mem_of_getElem? (i := 83) rfl)) (hw _ (List.mem_of_getElem? (i := 84) rfl)) (hw _ (List.mem_of_getElem? (i := 82) rfl)) (hw _ (List.mem_of_getElem? (i := 85) rfl)) (a := b32) (by decide) (W := 2) (by decide) (by decide) N30 e32 (by rw [hml]; rfl) (argsL := [.null, (.ref y34)]) (rest := [(.ref b32), (.ref b28)]) (lenOf pd_19 rfl) (Nat.le_of_eq rfl) (by decide) (by decide) (rm12 l Z a0 hw [] b32 y34 (.null) (.null) h32 n0 O33 A32 F32_location_b32 F32_namedBy_b32 ge_b32) rfl (hb hby at_155) ?_
    intro v35 T35 lc35 X35 N35 hQ35
    obtain ⟨rfl, K35, r35_0⟩ := hQ35
    have E36_b3 := E33_b3.keep K35
    have E36_b9 := E33_b9.keep K35
    have E36_b15 := E33_b15.keep K35
    have E36_b21 := E33_b21.keep K35
    have E36_y25 := E33_y25.keep K35
    have E36_b_26 := E33_b_26.keep K35
    have E36_b28 := E33_b28.keep K35
    have F36_modCount_b21 := F33_modCount_b21.keep K35 (ninS ne_b21_b32 nin0)
    have F36_elementData_b21 := F33_elementData_b21.keep K35 (ninS ne_b21_b32 nin0)
    have F36_size_b21 := F33_size_b21.keep K35 (ninS ne_b21_b32 nin0)
    have F36_modCount_b28 := F33_modCount_b28.keep K35 (ninS ne_b28_b32 nin0)
    have F36_elementData_b28 := F33_elementData_b28.keep K35 (ninS ne_b28_b32 nin0)
    have F36_size_b28 := F33_size_b28.keep K35 (ninS ne_b28_b32 nin0)
    have A36_b1 := A33_b1.keep K35 (ninS ne_b1_b32 nin0)
    have A36_b_26 := A33_b_26.keep K35 (ninS ne_b_26_b32 nin0)
    have O36 := O33.keep K35 (allS ge_b32 all0)
    refine own_virtual X35 hx hZ hown (y := (⟨"java/util/ArrayList", "add", "(Ljava/lang/Object;)Z"⟩ : MethodName)) (z := (⟨"java/util/ArrayList", "add", "(Ljava/lang/Object;)Z"⟩ : MethodName)) (hw _ (List.mem_of_getElem? (i := 49) rfl)) (hw _ (List.mem_of_getElem? (i := 50) rfl)) (notFace_of_selects (args := #[]) (mvT hZ (hw _ (List.mem_of_getElem? (i := 52) rfl)))) (hw _ (List.mem_of_getElem? (i := 52) rfl)) (hw _ (List.mem_of_getElem? (i := 51) rfl)) (hw _ (List.mem_of_getElem? (i := 27) rfl)) (hw _ (List.mem_of_getElem? (i := 53) rfl)) (a := b28) E36_b28 (by decide) (W := 0) (by decide) (by decide) N35 rfl (by rw [hml]; rfl) (argsL := [(.ref b32)]) (rest := []) (lenOf pd_18 rfl) (Nat.le_of_eq rfl) (by decide) (by decide) (rm7gJ l Z a0 hw [] b28 b32 (0 : Int32) w_EMPTY_ELEMENTDATA w_DEFAULTCAPACITY_EMPTY_ELEMENTDATA w_EMPTY w_EMPTY_LIST k_w_EMPTY_ELEMENTDATA k_w_DEFAULTCAPACITY_EMPTY_ELEMENTDATA w_mir w_els k_els T35.heap n0 O36 ⟨z0, z1, z2, z3, z4, z5, z6, z7, z8, z9, z10, z11, zm, z13, z14, trivial⟩ E36_b28 F36_modCount_b28 F36_elementData_b28 F36_size_b28 ge_b28 r35_0) rfl (hb hby at_158) ?_
    intro v37 T37 lc37 X37 N37 hQ37
    obtain ⟨b_37, k_37, rfl, K37, r37_0, r37_1, r37_2, r37_3, r37_4, r37_5, r37_6, r37_7⟩ := hQ37
    have E38_b3 := E36_b3.keep K37
    have E38_b9 := E36_b9.keep K37
    have E38_b15 := E36_b15.keep K37
    have E38_b21 := E36_b21.keep K37
    have E38_y25 := E36_y25.keep K37
    have E38_b_26 := E36_b_26.keep K37
    have E38_b32 := r35_0.keep K37
    have F38_modCount_b21 := F36_modCount_b21.keep K37 (ninS ne_b21_b28 nin0)
    have F38_elementData_b21 := F36_elementData_b21.keep K37 (ninS ne_b21_b28 nin0)
    have F38_size_b21 := F36_size_b21.keep K37 (ninS ne_b21_b28 nin0)
    have A38_b1 := A36_b1.keep K37 (ninS ne_b1_b28 nin0)
    have A38_b_26 := A36_b_26.keep K37 (ninS ne_b_26_b28 nin0)
    have O38 := O36.keep K37 (allS ge_b28 all0)
    have ge_b_37 : n0 ≤ b_37 := Nat.le_trans (own_sz O36) r37_6
    refine own_pop X37 hx (hb hby at_161) rfl ?_
    refine own_new X37 hx hZ hown (hw _ (List.mem_of_getElem? (i := 92) rfl)) (hw _ (List.mem_of_getElem? (i := 93) rfl)) (hw _ (List.mem_of_getElem? (i := 94) rfl)) rfl (hb hby at_162) (by decide) (by decide) (fun T39 h39 b39 g39 X39 e39 E39 A39 D39 => ?_)
    have ne_b1_b39 : b1 ≠ b39 := Nat.ne_of_lt (Nat.lt_of_lt_of_le A38_b1.lt (Nat.le_of_eq g39.symm))
    have ne_b_26_b39 : b_26 ≠ b39 := Nat.ne_of_lt (Nat.lt_of_lt_of_le E38_b_26.lt (Nat.le_of_eq g39.symm))
    have ne_b21_b39 : b21 ≠ b39 := Nat.ne_of_lt (Nat.lt_of_lt_of_le E38_b21.lt (Nat.le_of_eq g39.symm))
    have ne_b_37_b39 : b_37 ≠ b39 := Nat.ne_of_lt (Nat.lt_of_lt_of_le r37_5.lt (Nat.le_of_eq g39.symm))
    have ne_b28_b39 : b28 ≠ b39 := Nat.ne_of_lt (Nat.lt_of_lt_of_le r37_0.lt (Nat.le_of_eq g39.symm))
    have ge_b39 : n0 ≤ b39 := Nat.le_trans (own_sz O38) (Nat.le_of_eq g39.symm)
    have E40_b3 := E38_b3.ext E39
    have E40_b9 := E38_b9.ext E39
    have E40_b15 := E38_b15.ext E39
    have E40_b21 := E38_b21.ext E39
    have E40_y25 := E38_y25.ext E39
    have E40_b_26 := E38_b_26.ext E39
    have E40_b28 := r37_0.ext E39
    have E40_b32 := E38_b32.ext E39
    have E40_b_37 := r37_5.ext E39
    have F40_modCount_b21 := F38_modCount_b21.ext E39
    have F40_elementData_b21 := F38_elementData_b21.ext E39
    have F40_size_b21 := F38_size_b21.ext E39
    have F40_elementData_b28 := r37_2.ext E39
    have F40_size_b28 := r37_3.ext E39
    have A40_b1 := A38_b1.ext E39
    have A40_b_26 := A38_b_26.ext E39
    have A40_b_37 := r37_4.ext E39
    have O40 := O38.ext E39
    have F39_descriptors_b39 : Fld Z h39 b39 "com/example/gantry/gantry/resolver/Resolution" "descriptors" "Ljava/util/List;" .null := D39 (Or.inr (hw _ (List.mem_of_getElem? (i := 199) rfl))) (ty := (.object "java/util/List")) (by decide)
    have F39_mainClass_b39 : Fld Z h39 b39 "com/example/gantry/gantry/resolver/Resolution" "mainClass" "Ljava/util/Optional;" .null := D39 (Or.inr (hw _ (List.mem_of_getElem? (i := 201) rfl))) (ty := (.object "java/util/Optional")) (by decide)
    have F39_arguments_b39 : Fld Z h39 b39 "com/example/gantry/gantry/resolver/Resolution" "arguments" "Ljava/util/List;" .null := D39 (Or.inr (hw _ (List.mem_of_getElem? (i := 203) rfl))) (ty := (.object "java/util/List")) (by decide)
    have F39_allPermissions_b39 : Fld Z h39 b39 "com/example/gantry/gantry/resolver/Resolution" "allPermissions" "Z" (.int (0 : Int32)) := D39 (Or.inr (hw _ (List.mem_of_getElem? (i := 205) rfl))) (ty := .boolean) (by decide)
    have F39_javaRequests_b39 : Fld Z h39 b39 "com/example/gantry/gantry/resolver/Resolution" "javaRequests" "Ljava/util/List;" .null := D39 (Or.inr (hw _ (List.mem_of_getElem? (i := 207) rfl))) (ty := (.object "java/util/List")) (by decide)
    have F39_jars_b39 : Fld Z h39 b39 "com/example/gantry/gantry/resolver/Resolution" "jars" "Ljava/util/List;" .null := D39 (Or.inr (hw _ (List.mem_of_getElem? (i := 209) rfl))) (ty := (.object "java/util/List")) (by decide)
    have F39_nativeLibraries_b39 : Fld Z h39 b39 "com/example/gantry/gantry/resolver/Resolution" "nativeLibraries" "Ljava/util/List;" .null := D39 (Or.inr (hw _ (List.mem_of_getElem? (i := 211) rfl))) (ty := (.object "java/util/List")) (by decide)
    have F39_properties_b39 : Fld Z h39 b39 "com/example/gantry/gantry/resolver/Resolution" "properties" "Ljava/util/List;" .null := D39 (Or.inr (hw _ (List.mem_of_getElem? (i := 213) rfl))) (ty := (.object "java/util/List")) (by decide)
    refine own_dup X39 hx (hb hby at_165) rfl ?_
    refine own_aload X39 hx (hb hby at_166) rfl rfl ?_
    refine own_aconst_null X39 hx (hb hby at_168) ?_
    show Goes _ _ _ _ _ _ (T39.setTop (mkF m 169 #[.val (.int p1), .val (.int p2), .val (.int p3), .val (.int (((p1 &&& (2147483647 : Int32)) % (3 : Int32)) + (1 : Int32))), .val (.int ((p2 &&& (2147483647 : Int32)) % (3 : Int32))), .val (.ref b1), .val (.ref b21), .val (.ref b28), .unset, .unset] [.null, (.ref b21), (.ref b39), (.ref b39)]))
    refine own_new X39 hx hZ hown (hw _ (List.mem_of_getElem? (i := 25) rfl)) (hw _ (List.mem_of_getElem? (i := 26) rfl)) (hw _ (List.mem_of_getElem? (i := 27) rfl)) e39 (hb hby at_169) (by decide) (by decide) (fun T41 h41 b41 g41 X41 e41 E41 A41 D41 => ?_)
    have ne_b1_b41 : b1 ≠ b41 := Nat.ne_of_lt (Nat.lt_of_lt_of_le A40_b1.lt (Nat.le_of_eq g41.symm))
    have ne_b_26_b41 : b_26 ≠ b41 := Nat.ne_of_lt (Nat.lt_of_lt_of_le E40_b_26.lt (Nat.le_of_eq g41.symm))
    have ne_b39_b41 : b39 ≠ b41 := Nat.ne_of_lt (Nat.lt_of_lt_of_le A39.lt (Nat.le_of_eq g41.symm))
    have ne_b21_b41 : b21 ≠ b41 := Nat.ne_of_lt (Nat.lt_of_lt_of_le E40_b21.lt (Nat.le_of_eq g41.symm))
    have ne_b_37_b41 : b_37 ≠ b41 := Nat.ne_of_lt (Nat.lt_of_lt_of_le E40_b_37.lt (Nat.le_of_eq g41.symm))
    have ne_b28_b41 : b28 ≠ b41 := Nat.ne_of_lt (Nat.lt_of_lt_of_le E40_b28.lt (Nat.le_of_eq g41.symm))
    have ge_b41 : n0 ≤ b41 := Nat.le_trans (own_sz O40) (Nat.le_of_eq g41.symm)
    have E42_b3 := E40_b3.ext E41
    have E42_b9 := E40_b9.ext E41
    have E42_b15 := E40_b15.ext E41
    have E42_b21 := E40_b21.ext E41
    have E42_y25 := E40_y25.ext E41
    have E42_b_26 := E40_b_26.ext E41
    have E42_b28 := E40_b28.ext E41
    have E42_b32 := E40_b32.ext E41
    have E42_b_37 := E40_b_37.ext E41
    have E42_b39 := A39.ext E41
    have F42_modCount_b21 := F40_modCount_b21.ext E41
    have F42_elementData_b21 := F40_elementData_b21.ext E41
    have F42_size_b21 := F40_size_b21.ext E41
    have F42_elementData_b28 := F40_elementData_b28.ext E41
    have F42_size_b28 := F40_size_b28.ext E41
    have F42_descriptors_b39 := F39_descriptors_b39.ext E41
    have F42_mainClass_b39 := F39_mainClass_b39.ext E41
    have F42_arguments_b39 := F39_arguments_b39.ext E41
    have F42_allPermissions_b39 := F39_allPermissions_b39.ext E41
    have F42_javaRequests_b39 := F39_javaRequests_b39.ext E41
    have F42_jars_b39 := F39_jars_b39.ext E41
    have F42_nativeLibraries_b39 := F39_nativeLibraries_b39.ext E41
    have F42_properties_b39 := F39_properties_b39.ext E41
    have A42_b1 := A40_b1.ext E41
    have A42_b_26 := A40_b_26.ext E41
    have A42_b_37 := A40_b_37.ext E41
    have O42 := O40.ext E41
    have F41_modCount_b41 : Fld Z h41 b41 "java/util/AbstractList" "modCount" "I" (.int (0 : Int32)) := D41 (Or.inl (hw _ (List.mem_of_getElem? (i := 45) rfl))) (ty := .int) (by decide)
    have F41_elementData_b41 : Fld Z h41 b41 "java/util/ArrayList" "elementData" "[Ljava/lang/Object;" .null := D41 (Or.inl (hw _ (List.mem_of_getElem? (i := 48) rfl))) (ty := (.array (.object "java/lang/Object"))) (by decide)
    have F41_size_b41 : Fld Z h41 b41 "java/util/ArrayList" "size" "I" (.int (0 : Int32)) := D41 (Or.inl (hw _ (List.mem_of_getElem? (i := 57) rfl))) (ty := .int) (by decide)
    refine own_dup X41 hx (hb hby at_172) rfl ?_
    refine own_special X41 hx hZ hown (y := (⟨"java/util/ArrayList", "<init>", "()V"⟩ : MethodName)) rfl (hw _ (List.mem_of_getElem? (i := 28) rfl)) (hw _ (List.mem_of_getElem? (i := 29) rfl)) (hw _ (List.mem_of_getElem? (i := 27) rfl)) (hw _ (List.mem_of_getElem? (i := 30) rfl)) (a := b41) (by decide) (W := 5) (by decide) (by decide) N37 e41 (by rw [hml]; rfl) (argsL := []) (rest := [(.ref b41), .null, (.ref b21), (.ref b39), (.ref b39)]) (lenOf pd_0 rfl) (Nat.le_of_eq rfl) (by decide) (by decide) (rm4 l Z a0 hw [] b41 ((.int (0 : Int32))) (.null) w_EMPTY_ELEMENTDATA w_DEFAULTCAPACITY_EMPTY_ELEMENTDATA w_EMPTY w_EMPTY_LIST k_w_EMPTY_ELEMENTDATA k_w_DEFAULTCAPACITY_EMPTY_ELEMENTDATA w_mir w_els k_els h41 n0 O42 ⟨z0, z1, z2, z3, z4, z5, z6, z7, z8, z9, z10, z11, zm, z13, z14, trivial⟩ A41 F41_modCount_b41 F41_elementData_b41 F41_size_b41 ge_b41) rfl (hb hby at_173) ?_
    intro v43 T43 lc43 X43 N43 hQ43
    obtain ⟨rfl, K43, r43_0, r43_1, r43_2, r43_3⟩ := hQ43
    have E44_b3 := E42_b3.keep K43
    have E44_b9 := E42_b9.keep K43
    have E44_b15 := E42_b15.keep K43
    have E44_b21 := E42_b21.keep K43
    have E44_y25 := E42_y25.keep K43
    have E44_b_26 := E42_b_26.keep K43
    have E44_b28 := E42_b28.keep K43
    have E44_b32 := E42_b32.keep K43
    have E44_b_37 := E42_b_37.keep K43
    have E44_b39 := E42_b39.keep K43
    have F44_modCount_b21 := F42_modCount_b21.keep K43 (ninS ne_b21_b41 nin0)
    have F44_elementData_b21 := F42_elementData_b21.keep K43 (ninS ne_b21_b41 nin0)
    have F44_size_b21 := F42_size_b21.keep K43 (ninS ne_b21_b41 nin0)
    have F44_elementData_b28 := F42_elementData_b28.keep K43 (ninS ne_b28_b41 nin0)
    have F44_size_b28 := F42_size_b28.keep K43 (ninS ne_b28_b41 nin0)
    have F44_descriptors_b39 := F42_descriptors_b39.keep K43 (ninS ne_b39_b41 nin0)
    have F44_mainClass_b39 := F42_mainClass_b39.keep K43 (ninS ne_b39_b41 nin0)
    have F44_arguments_b39 := F42_arguments_b39.keep K43 (ninS ne_b39_b41 nin0)
    have F44_allPermissions_b39 := F42_allPermissions_b39.keep K43 (ninS ne_b39_b41 nin0)
    have F44_javaRequests_b39 := F42_javaRequests_b39.keep K43 (ninS ne_b39_b41 nin0)
    have F44_jars_b39 := F42_jars_b39.keep K43 (ninS ne_b39_b41 nin0)
    have F44_nativeLibraries_b39 := F42_nativeLibraries_b39.keep K43 (ninS ne_b39_b41 nin0)
    have F44_properties_b39 := F42_properties_b39.keep K43 (ninS ne_b39_b41 nin0)
    have A44_b1 := A42_b1.keep K43 (ninS ne_b1_b41 nin0)
    have A44_b_26 := A42_b_26.keep K43 (ninS ne_b_26_b41 nin0)
    have A44_b_37 := A42_b_37.keep K43 (ninS ne_b_37_b41 nin0)
    have O44 := O42.keep K43 (allS ge_b41 all0)
    refine own_iloadN X43 hx (hb hby at_176) rfl ?_
    refine own_iconst X43 hx (v := (1 : Int32)) (hb hby at_177) rfl ?_
    refine own_iand X43 hx (hb hby at_178) ?_
    show Goes _ _ _ _ _ _ (T43.setTop (mkF m 179 #[.val (.int p1), .val (.int p2), .val (.int p3), .val (.int (((p1 &&& (2147483647 : Int32)) % (3 : Int32)) + (1 : Int32))), .val (.int ((p2 &&& (2147483647 : Int32)) % (3 : Int32))), .val (.ref b1), .val (.ref b21), .val (.ref b28), .unset, .unset] [(.int (p3 &&& (1 : Int32))), (.ref b41), .null, (.ref b21), (.ref b39), (.ref b39)]))
    have jn187_46 : ∀ (T46 : State) (lc46 : List Loc) (X46 : Stand p l e room_1 s m #[(.int p1), (.int p2), (.int p3)] below meth c T46 lc46 11 54) (N46 : Fr n0 lc46) (e46 : T46.heap = T43.heap) (w46 : Int32) (hj46 : narrow .boolean (.int w46) = .int w46 ∧ fits .boolean (.int w46) = true), Goes p e below (fun o t L => FrameEnd s o t L (48) (256)) n0 (Q0 Z p1 p2 p3 w_EMPTY_ELEMENTDATA w_DEFAULTCAPACITY_EMPTY_ELEMENTDATA w_EMPTY w_EMPTY_LIST k_w_EMPTY_ELEMENTDATA k_w_DEFAULTCAPACITY_EMPTY_ELEMENTDATA w_mir w_els k_els h0 n0) (T46.setTop (mkF m 187 #[.val (.int p1), .val (.int p2), .val (.int p3), .val (.int (((p1 &&& (2147483647 : Int32)) % (3 : Int32)) + (1 : Int32))), .val (.int ((p2 &&& (2147483647 : Int32)) % (3 : Int32))), .val (.ref b1), .val (.ref b21), .val (.ref b28), .unset, .unset] [(.int w46), (.ref b41), .null, (.ref b21), (.ref b39), (.ref b39)])) := by
      intro T46 lc46 X46 N46 e46 w46 hj46
      refine own_new X46 hx hZ hown (hw _ (List.mem_of_getElem? (i := 25) rfl)) (hw _ (List.mem_of_getElem? (i := 26) rfl)) (hw _ (List.mem_of_getElem? (i := 27) rfl)) e46 (hb hby at_187) (by decide) (by decide) (fun T47 h47 b47 g47 X47 e47 E47 A47 D47 => ?_)
      have ne_b41_b47 : b41 ≠ b47 := Nat.ne_of_lt (Nat.lt_of_lt_of_le r43_0.lt (Nat.le_of_eq g47.symm))
      have ne_b1_b47 : b1 ≠ b47 := Nat.ne_of_lt (Nat.lt_of_lt_of_le A44_b1.lt (Nat.le_of_eq g47.symm))
      have ne_b_26_b47 : b_26 ≠ b47 := Nat.ne_of_lt (Nat.lt_of_lt_of_le E44_b_26.lt (Nat.le_of_eq g47.symm))
      have ne_b39_b47 : b39 ≠ b47 := Nat.ne_of_lt (Nat.lt_of_lt_of_le E44_b39.lt (Nat.le_of_eq g47.symm))
      have ne_b21_b47 : b21 ≠ b47 := Nat.ne_of_lt (Nat.lt_of_lt_of_le E44_b21.lt (Nat.le_of_eq g47.symm))
      have ne_b_37_b47 : b_37 ≠ b47 := Nat.ne_of_lt (Nat.lt_of_lt_of_le E44_b_37.lt (Nat.le_of_eq g47.symm))
      have ne_b28_b47 : b28 ≠ b47 := Nat.ne_of_lt (Nat.lt_of_lt_of_le E44_b28.lt (Nat.le_of_eq g47.symm))
      have ge_b47 : n0 ≤ b47 := Nat.le_trans (own_sz O44) (Nat.le_of_eq g47.symm)
      have E48_b3 := E44_b3.ext E47
      have E48_b9 := E44_b9.ext E47
      have E48_b15 := E44_b15.ext E47
      have E48_b21 := E44_b21.ext E47
      have E48_y25 := E44_y25.ext E47
      have E48_b_26 := E44_b_26.ext E47
      have E48_b28 := E44_b28.ext E47
      have E48_b32 := E44_b32.ext E47
      have E48_b_37 := E44_b_37.ext E47
      have E48_b39 := E44_b39.ext E47
      have E48_b41 := r43_0.ext E47
      have F48_modCount_b21 := F44_modCount_b21.ext E47
      have F48_elementData_b21 := F44_elementData_b21.ext E47
      have F48_size_b21 := F44_size_b21.ext E47
      have F48_elementData_b28 := F44_elementData_b28.ext E47
      have F48_size_b28 := F44_size_b28.ext E47
      have F48_descriptors_b39 := F44_descriptors_b39.ext E47
      have F48_mainClass_b39 := F44_mainClass_b39.ext E47
      have F48_arguments_b39 := F44_arguments_b39.ext E47
      have F48_allPermissions_b39 := F44_allPermissions_b39.ext E47
      have F48_javaRequests_b39 := F44_javaRequests_b39.ext E47
      have F48_jars_b39 := F44_jars_b39.ext E47
      have F48_nativeLibraries_b39 := F44_nativeLibraries_b39.ext E47
      have F48_properties_b39 := F44_properties_b39.ext E47
      have F48_size_b41 := r43_3.ext E47
      have A48_b1 := A44_b1.ext E47
      have A48_b_26 := A44_b_26.ext E47
      have A48_b_37 := A44_b_37.ext E47
      have O48 := O44.ext E47
      have F47_modCount_b47 : Fld Z h47 b47 "java/util/AbstractList" "modCount" "I" (.int (0 : Int32)) := D47 (Or.inl (hw _ (List.mem_of_getElem? (i := 45) rfl))) (ty := .int) (by decide)
      have F47_elementData_b47 : Fld Z h47 b47 "java/util/ArrayList" "elementData" "[Ljava/lang/Object;" .null := D47 (Or.inl (hw _ (List.mem_of_getElem? (i := 48) rfl))) (ty := (.array (.object "java/lang/Object"))) (by decide)
      have F47_size_b47 : Fld Z h47 b47 "java/util/ArrayList" "size" "I" (.int (0 : Int32)) := D47 (Or.inl (hw _ (List.mem_of_getElem? (i := 57) rfl))) (ty := .int) (by decide)
      refine own_dup X47 hx (hb hby at_190) rfl ?_
      refine own_special X47 hx hZ hown (y := (⟨"java/util/ArrayList", "<init>", "()V"⟩ : MethodName)) rfl (hw _ (List.mem_of_getElem? (i := 28) rfl)) (hw _ (List.mem_of_getElem? (i := 29) rfl)) (hw _ (List.mem_of_getElem? (i := 27) rfl)) (hw _ (List.mem_of_getElem? (i := 30) rfl)) (a := b47) (by decide) (W := 7) (by decide) (by decide) N46 e47 (by rw [hml]; rfl) (argsL := []) (rest := [(.ref b47), (.int w46), (.ref b41), .null, (.ref b21), (.ref b39), (.ref b39)]) (lenOf pd_0 rfl) (Nat.le_of_eq rfl) (by decide) (by decide) (rm4 l Z a0 hw [] b47 ((.int (0 : Int32))) (.null) w_EMPTY_ELEMENTDATA w_DEFAULTCAPACITY_EMPTY_ELEMENTDATA w_EMPTY w_EMPTY_LIST k_w_EMPTY_ELEMENTDATA k_w_DEFAULTCAPACITY_EMPTY_ELEMENTDATA w_mir w_els k_els h47 n0 O48 ⟨z0, z1, z2, z3, z4, z5, z6, z7, z8, z9, z10, z11, zm, z13, z14, trivial⟩ A47 F47_modCount_b47 F47_elementData_b47 F47_size_b47 ge_b47) rfl (hb hby at_191) ?_
      intro v49 T49 lc49 X49 N49 hQ49
      obtain ⟨rfl, K49, r49_0, r49_1, r49_2, r49_3⟩ := hQ49
      have E50_b3 := E48_b3.keep K49
      have E50_b9 := E48_b9.keep K49
      have E50_b15 := E48_b15.keep K49
      have E50_b21 := E48_b21.keep K49
      have E50_y25 := E48_y25.keep K49
      have E50_b_26 := E48_b_26.keep K49
      have E50_b28 := E48_b28.keep K49
      have E50_b32 := E48_b32.keep K49
      have E50_b_37 := E48_b_37.keep K49
      have E50_b39 := E48_b39.keep K49
      have E50_b41 := E48_b41.keep K49
      have F50_modCount_b21 := F48_modCount_b21.keep K49 (ninS ne_b21_b47 nin0)
      have F50_elementData_b21 := F48_elementData_b21.keep K49 (ninS ne_b21_b47 nin0)
      have F50_size_b21 := F48_size_b21.keep K49 (ninS ne_b21_b47 nin0)
      have F50_elementData_b28 := F48_elementData_b28.keep K49 (ninS ne_b28_b47 nin0)
      have F50_size_b28 := F48_size_b28.keep K49 (ninS ne_b28_b47 nin0)
      have F50_descriptors_b39 := F48_descriptors_b39.keep K49 (ninS ne_b39_b47 nin0)
      have F50_mainClass_b39 := F48_mainClass_b39.keep K49 (ninS ne_b39_b47 nin0)
      have F50_arguments_b39 := F48_arguments_b39.keep K49 (ninS ne_b39_b47 nin0)
      have F50_allPermissions_b39 := F48_allPermissions_b39.keep K49 (ninS ne_b39_b47 nin0)
      have F50_javaRequests_b39 := F48_javaRequests_b39.keep K49 (ninS ne_b39_b47 nin0)
      have F50_jars_b39 := F48_jars_b39.keep K49 (ninS ne_b39_b47 nin0)
      have F50_nativeLibraries_b39 := F48_nativeLibraries_b39.keep K49 (ninS ne_b39_b47 nin0)
      have F50_properties_b39 := F48_properties_b39.keep K49 (ninS ne_b39_b47 nin0)
      have F50_size_b41 := F48_size_b41.keep K49 (ninS ne_b41_b47 nin0)
      have A50_b1 := A48_b1.keep K49 (ninS ne_b1_b47 nin0)
      have A50_b_26 := A48_b_26.keep K49 (ninS ne_b_26_b47 nin0)
      have A50_b_37 := A48_b_37.keep K49 (ninS ne_b_37_b47 nin0)
      have O50 := O48.keep K49 (allS ge_b47 all0)
      refine own_aload X49 hx (hb hby at_194) rfl rfl ?_
      refine own_new X49 hx hZ hown (hw _ (List.mem_of_getElem? (i := 25) rfl)) (hw _ (List.mem_of_getElem? (i := 26) rfl)) (hw _ (List.mem_of_getElem? (i := 27) rfl)) rfl (hb hby at_196) (by decide) (by decide) (fun T51 h51 b51 g51 X51 e51 E51 A51 D51 => ?_)
      have ne_b41_b51 : b41 ≠ b51 := Nat.ne_of_lt (Nat.lt_of_lt_of_le E50_b41.lt (Nat.le_of_eq g51.symm))
      have ne_b1_b51 : b1 ≠ b51 := Nat.ne_of_lt (Nat.lt_of_lt_of_le A50_b1.lt (Nat.le_of_eq g51.symm))
      have ne_b_26_b51 : b_26 ≠ b51 := Nat.ne_of_lt (Nat.lt_of_lt_of_le E50_b_26.lt (Nat.le_of_eq g51.symm))
      have ne_b39_b51 : b39 ≠ b51 := Nat.ne_of_lt (Nat.lt_of_lt_of_le E50_b39.lt (Nat.le_of_eq g51.symm))
      have ne_b21_b51 : b21 ≠ b51 := Nat.ne_of_lt (Nat.lt_of_lt_of_le E50_b21.lt (Nat.le_of_eq g51.symm))
      have ne_b47_b51 : b47 ≠ b51 := Nat.ne_of_lt (Nat.lt_of_lt_of_le r49_0.lt (Nat.le_of_eq g51.symm))
      have ne_b_37_b51 : b_37 ≠ b51 := Nat.ne_of_lt (Nat.lt_of_lt_of_le E50_b_37.lt (Nat.le_of_eq g51.symm))
      have ne_b28_b51 : b28 ≠ b51 := Nat.ne_of_lt (Nat.lt_of_lt_of_le E50_b28.lt (Nat.le_of_eq g51.symm))
      have ge_b51 : n0 ≤ b51 := Nat.le_trans (own_sz O50) (Nat.le_of_eq g51.symm)
      have E52_b3 := E50_b3.ext E51
      have E52_b9 := E50_b9.ext E51
      have E52_b15 := E50_b15.ext E51
      have E52_b21 := E50_b21.ext E51
      have E52_y25 := E50_y25.ext E51
      have E52_b_26 := E50_b_26.ext E51
      have E52_b28 := E50_b28.ext E51
      have E52_b32 := E50_b32.ext E51
      have E52_b_37 := E50_b_37.ext E51
      have E52_b39 := E50_b39.ext E51
      have E52_b41 := E50_b41.ext E51
      have E52_b47 := r49_0.ext E51
      have F52_modCount_b21 := F50_modCount_b21.ext E51
      have F52_elementData_b21 := F50_elementData_b21.ext E51
      have F52_size_b21 := F50_size_b21.ext E51
      have F52_elementData_b28 := F50_elementData_b28.ext E51
      have F52_size_b28 := F50_size_b28.ext E51
      have F52_descriptors_b39 := F50_descriptors_b39.ext E51
      have F52_mainClass_b39 := F50_mainClass_b39.ext E51
      have F52_arguments_b39 := F50_arguments_b39.ext E51
      have F52_allPermissions_b39 := F50_allPermissions_b39.ext E51
      have F52_javaRequests_b39 := F50_javaRequests_b39.ext E51
      have F52_jars_b39 := F50_jars_b39.ext E51
      have F52_nativeLibraries_b39 := F50_nativeLibraries_b39.ext E51
      have F52_properties_b39 := F50_properties_b39.ext E51
      have F52_size_b41 := F50_size_b41.ext E51
      have F52_size_b47 := r49_3.ext E51
      have A52_b1 := A50_b1.ext E51
      have A52_b_26 := A50_b_26.ext E51
      have A52_b_37 := A50_b_37.ext E51
      have O52 := O50.ext E51
      have F51_modCount_b51 : Fld Z h51 b51 "java/util/AbstractList" "modCount" "I" (.int (0 : Int32)) := D51 (Or.inl (hw _ (List.mem_of_getElem? (i := 45) rfl))) (ty := .int) (by decide)
      have F51_elementData_b51 : Fld Z h51 b51 "java/util/ArrayList" "elementData" "[Ljava/lang/Object;" .null := D51 (Or.inl (hw _ (List.mem_of_getElem? (i := 48) rfl))) (ty := (.array (.object "java/lang/Object"))) (by decide)
      have F51_size_b51 : Fld Z h51 b51 "java/util/ArrayList" "size" "I" (.int (0 : Int32)) := D51 (Or.inl (hw _ (List.mem_of_getElem? (i := 57) rfl))) (ty := .int) (by decide)
      refine own_dup X51 hx (hb hby at_199) rfl ?_
      refine own_special X51 hx hZ hown (y := (⟨"java/util/ArrayList", "<init>", "()V"⟩ : MethodName)) rfl (hw _ (List.mem_of_getElem? (i := 28) rfl)) (hw _ (List.mem_of_getElem? (i := 29) rfl)) (hw _ (List.mem_of_getElem? (i := 27) rfl)) (hw _ (List.mem_of_getElem? (i := 30) rfl)) (a := b51) (by decide) (W := 9) (by decide) (by decide) N49 e51 (by rw [hml]; rfl) (argsL := []) (rest := [(.ref b51), (.ref b28), (.ref b47), (.int w46), (.ref b41), .null, (.ref b21), (.ref b39), (.ref b39)]) (lenOf pd_0 rfl) (Nat.le_of_eq rfl) (by decide) (by decide) (rm4 l Z a0 hw [] b51 ((.int (0 : Int32))) (.null) w_EMPTY_ELEMENTDATA w_DEFAULTCAPACITY_EMPTY_ELEMENTDATA w_EMPTY w_EMPTY_LIST k_w_EMPTY_ELEMENTDATA k_w_DEFAULTCAPACITY_EMPTY_ELEMENTDATA w_mir w_els k_els h51 n0 O52 ⟨z0, z1, z2, z3, z4, z5, z6, z7, z8, z9, z10, z11, zm, z13, z14, trivial⟩ A51 F51_modCount_b51 F51_elementData_b51 F51_size_b51 ge_b51) rfl (hb hby at_200) ?_
      intro v53 T53 lc53 X53 N53 hQ53
      obtain ⟨rfl, K53, r53_0, r53_1, r53_2, r53_3⟩ := hQ53
      have E54_b3 := E52_b3.keep K53
      have E54_b9 := E52_b9.keep K53
      have E54_b15 := E52_b15.keep K53
      have E54_b21 := E52_b21.keep K53
      have E54_y25 := E52_y25.keep K53
      have E54_b_26 := E52_b_26.keep K53
      have E54_b28 := E52_b28.keep K53
      have E54_b32 := E52_b32.keep K53
      have E54_b_37 := E52_b_37.keep K53
      have E54_b39 := E52_b39.keep K53
      have E54_b41 := E52_b41.keep K53
      have E54_b47 := E52_b47.keep K53
      have F54_modCount_b21 := F52_modCount_b21.keep K53 (ninS ne_b21_b51 nin0)
      have F54_elementData_b21 := F52_elementData_b21.keep K53 (ninS ne_b21_b51 nin0)
      have F54_size_b21 := F52_size_b21.keep K53 (ninS ne_b21_b51 nin0)
      have F54_elementData_b28 := F52_elementData_b28.keep K53 (ninS ne_b28_b51 nin0)
      have F54_size_b28 := F52_size_b28.keep K53 (ninS ne_b28_b51 nin0)
      have F54_descriptors_b39 := F52_descriptors_b39.keep K53 (ninS ne_b39_b51 nin0)
      have F54_mainClass_b39 := F52_mainClass_b39.keep K53 (ninS ne_b39_b51 nin0)
      have F54_arguments_b39 := F52_arguments_b39.keep K53 (ninS ne_b39_b51 nin0)
      have F54_allPermissions_b39 := F52_allPermissions_b39.keep K53 (ninS ne_b39_b51 nin0)
      have F54_javaRequests_b39 := F52_javaRequests_b39.keep K53 (ninS ne_b39_b51 nin0)
      have F54_jars_b39 := F52_jars_b39.keep K53 (ninS ne_b39_b51 nin0)
      have F54_nativeLibraries_b39 := F52_nativeLibraries_b39.keep K53 (ninS ne_b39_b51 nin0)
      have F54_properties_b39 := F52_properties_b39.keep K53 (ninS ne_b39_b51 nin0)
      have F54_size_b41 := F52_size_b41.keep K53 (ninS ne_b41_b51 nin0)
      have F54_size_b47 := F52_size_b47.keep K53 (ninS ne_b47_b51 nin0)
      have A54_b1 := A52_b1.keep K53 (ninS ne_b1_b51 nin0)
      have A54_b_26 := A52_b_26.keep K53 (ninS ne_b_26_b51 nin0)
      have A54_b_37 := A52_b_37.keep K53 (ninS ne_b_37_b51 nin0)
      have O54 := O52.keep K53 (allS ge_b51 all0)
      refine own_new X53 hx hZ hown (hw _ (List.mem_of_getElem? (i := 25) rfl)) (hw _ (List.mem_of_getElem? (i := 26) rfl)) (hw _ (List.mem_of_getElem? (i := 27) rfl)) rfl (hb hby at_203) (by decide) (by decide) (fun T55 h55 b55 g55 X55 e55 E55 A55 D55 => ?_)
      have ne_b41_b55 : b41 ≠ b55 := Nat.ne_of_lt (Nat.lt_of_lt_of_le E54_b41.lt (Nat.le_of_eq g55.symm))
      have ne_b1_b55 : b1 ≠ b55 := Nat.ne_of_lt (Nat.lt_of_lt_of_le A54_b1.lt (Nat.le_of_eq g55.symm))
      have ne_b_26_b55 : b_26 ≠ b55 := Nat.ne_of_lt (Nat.lt_of_lt_of_le E54_b_26.lt (Nat.le_of_eq g55.symm))
      have ne_b39_b55 : b39 ≠ b55 := Nat.ne_of_lt (Nat.lt_of_lt_of_le E54_b39.lt (Nat.le_of_eq g55.symm))
      have ne_b51_b55 : b51 ≠ b55 := Nat.ne_of_lt (Nat.lt_of_lt_of_le r53_0.lt (Nat.le_of_eq g55.symm))
      have ne_b21_b55 : b21 ≠ b55 := Nat.ne_of_lt (Nat.lt_of_lt_of_le E54_b21.lt (Nat.le_of_eq g55.symm))
      have ne_b47_b55 : b47 ≠ b55 := Nat.ne_of_lt (Nat.lt_of_lt_of_le E54_b47.lt (Nat.le_of_eq g55.symm))
      have ne_b_37_b55 : b_37 ≠ b55 := Nat.ne_of_lt (Nat.lt_of_lt_of_le E54_b_37.lt (Nat.le_of_eq g55.symm))
      have ne_b28_b55 : b28 ≠ b55 := Nat.ne_of_lt (Nat.lt_of_lt_of_le E54_b28.lt (Nat.le_of_eq g55.symm))
      have ge_b55 : n0 ≤ b55 := Nat.le_trans (own_sz O54) (Nat.le_of_eq g55.symm)
      have E56_b3 := E54_b3.ext E55
      have E56_b9 := E54_b9.ext E55
      have E56_b15 := E54_b15.ext E55
      have E56_b21 := E54_b21.ext E55
      have E56_y25 := E54_y25.ext E55
      have E56_b_26 := E54_b_26.ext E55
      have E56_b28 := E54_b28.ext E55
      have E56_b32 := E54_b32.ext E55
      have E56_b_37 := E54_b_37.ext E55
      have E56_b39 := E54_b39.ext E55
      have E56_b41 := E54_b41.ext E55
      have E56_b47 := E54_b47.ext E55
      have E56_b51 := r53_0.ext E55
      have F56_modCount_b21 := F54_modCount_b21.ext E55
      have F56_elementData_b21 := F54_elementData_b21.ext E55
      have F56_size_b21 := F54_size_b21.ext E55
      have F56_elementData_b28 := F54_elementData_b28.ext E55
      have F56_size_b28 := F54_size_b28.ext E55
      have F56_descriptors_b39 := F54_descriptors_b39.ext E55
      have F56_mainClass_b39 := F54_mainClass_b39.ext E55
      have F56_arguments_b39 := F54_arguments_b39.ext E55
      have F56_allPermissions_b39 := F54_allPermissions_b39.ext E55
      have F56_javaRequests_b39 := F54_javaRequests_b39.ext E55
      have F56_jars_b39 := F54_jars_b39.ext E55
      have F56_nativeLibraries_b39 := F54_nativeLibraries_b39.ext E55
      have F56_properties_b39 := F54_properties_b39.ext E55
      have F56_size_b41 := F54_size_b41.ext E55
      have F56_size_b47 := F54_size_b47.ext E55
      have F56_size_b51 := r53_3.ext E55
      have A56_b1 := A54_b1.ext E55
      have A56_b_26 := A54_b_26.ext E55
      have A56_b_37 := A54_b_37.ext E55
      have O56 := O54.ext E55
      have F55_modCount_b55 : Fld Z h55 b55 "java/util/AbstractList" "modCount" "I" (.int (0 : Int32)) := D55 (Or.inl (hw _ (List.mem_of_getElem? (i := 45) rfl))) (ty := .int) (by decide)
      have F55_elementData_b55 : Fld Z h55 b55 "java/util/ArrayList" "elementData" "[Ljava/lang/Object;" .null := D55 (Or.inl (hw _ (List.mem_of_getElem? (i := 48) rfl))) (ty := (.array (.object "java/lang/Object"))) (by decide)
      have F55_size_b55 : Fld Z h55 b55 "java/util/ArrayList" "size" "I" (.int (0 : Int32)) := D55 (Or.inl (hw _ (List.mem_of_getElem? (i := 57) rfl))) (ty := .int) (by decide)
      refine own_dup X55 hx (hb hby at_206) rfl ?_
      refine own_special X55 hx hZ hown (y := (⟨"java/util/ArrayList", "<init>", "()V"⟩ : MethodName)) rfl (hw _ (List.mem_of_getElem? (i := 28) rfl)) (hw _ (List.mem_of_getElem? (i := 29) rfl)) (hw _ (List.mem_of_getElem? (i := 27) rfl)) (hw _ (List.mem_of_getElem? (i := 30) rfl)) (a := b55) (by decide) (W := 10) (by decide) (by decide) N53 e55 (by rw [hml]; rfl) (argsL := []) (rest := [(.ref b55), (.ref b51), (.ref b28), (.ref b47), (.int w46), (.ref b41), .null, (.ref b21), (.ref b39), (.ref b39)]) (lenOf pd_0 rfl) (Nat.le_of_eq rfl) (by decide) (by decide) (rm4 l Z a0 hw [] b55 ((.int (0 : Int32))) (.null) w_EMPTY_ELEMENTDATA w_DEFAULTCAPACITY_EMPTY_ELEMENTDATA w_EMPTY w_EMPTY_LIST k_w_EMPTY_ELEMENTDATA k_w_DEFAULTCAPACITY_EMPTY_ELEMENTDATA w_mir w_els k_els h55 n0 O56 ⟨z0, z1, z2, z3, z4, z5, z6, z7, z8, z9, z10, z11, zm, z13, z14, trivial⟩ A55 F55_modCount_b55 F55_elementData_b55 F55_size_b55 ge_b55) rfl (hb hby at_207) ?_
      intro v57 T57 lc57 X57 N57 hQ57
      obtain ⟨rfl, K57, r57_0, r57_1, r57_2, r57_3⟩ := hQ57
      have E58_b3 := E56_b3.keep K57
      have E58_b9 := E56_b9.keep K57
      have E58_b15 := E56_b15.keep K57
      have E58_b21 := E56_b21.keep K57
      have E58_y25 := E56_y25.keep K57
      have E58_b_26 := E56_b_26.keep K57
      have E58_b28 := E56_b28.keep K57
      have E58_b32 := E56_b32.keep K57
      have E58_b_37 := E56_b_37.keep K57
      have E58_b39 := E56_b39.keep K57
      have E58_b41 := E56_b41.keep K57
      have E58_b47 := E56_b47.keep K57
      have E58_b51 := E56_b51.keep K57
      have F58_modCount_b21 := F56_modCount_b21.keep K57 (ninS ne_b21_b55 nin0)
      have F58_elementData_b21 := F56_elementData_b21.keep K57 (ninS ne_b21_b55 nin0)
      have F58_size_b21 := F56_size_b21.keep K57 (ninS ne_b21_b55 nin0)
      have F58_elementData_b28 := F56_elementData_b28.keep K57 (ninS ne_b28_b55 nin0)
      have F58_size_b28 := F56_size_b28.keep K57 (ninS ne_b28_b55 nin0)
      have F58_descriptors_b39 := F56_descriptors_b39.keep K57 (ninS ne_b39_b55 nin0)
      have F58_mainClass_b39 := F56_mainClass_b39.keep K57 (ninS ne_b39_b55 nin0)
      have F58_arguments_b39 := F56_arguments_b39.keep K57 (ninS ne_b39_b55 nin0)
      have F58_allPermissions_b39 := F56_allPermissions_b39.keep K57 (ninS ne_b39_b55 nin0)
      have F58_javaRequests_b39 := F56_javaRequests_b39.keep K57 (ninS ne_b39_b55 nin0)
      have F58_jars_b39 := F56_jars_b39.keep K57 (ninS ne_b39_b55 nin0)
      have F58_nativeLibraries_b39 := F56_nativeLibraries_b39.keep K57 (ninS ne_b39_b55 nin0)
      have F58_properties_b39 := F56_properties_b39.keep K57 (ninS ne_b39_b55 nin0)
      have F58_size_b41 := F56_size_b41.keep K57 (ninS ne_b41_b55 nin0)
      have F58_size_b47 := F56_size_b47.keep K57 (ninS ne_b47_b55 nin0)
      have F58_size_b51 := F56_size_b51.keep K57 (ninS ne_b51_b55 nin0)
      have A58_b1 := A56_b1.keep K57 (ninS ne_b1_b55 nin0)
      have A58_b_26 := A56_b_26.keep K57 (ninS ne_b_26_b55 nin0)
      have A58_b_37 := A56_b_37.keep K57 (ninS ne_b_37_b55 nin0)
      have O58 := O56.keep K57 (allS ge_b55 all0)
      refine own_special X57 hx hZ hown (y := (⟨"com/example/gantry/gantry/resolver/Resolution", "<init>", "(Ljava/util/List;Ljava/util/Optional;Ljava/util/List;ZLjava/util/List;Ljava/util/List;Ljava/util/List;Ljava/util/List;)V"⟩ : MethodName)) rfl (hw _ (List.mem_of_getElem? (i := 95) rfl)) (hw _ (List.mem_of_getElem? (i := 96) rfl)) (hw _ (List.mem_of_getElem? (i := 94) rfl)) (hw _ (List.mem_of_getElem? (i := 97) rfl)) (a := b39) (by decide) (W := 1) (by decide) (by decide) N57 rfl (by rw [hml]; rfl) (argsL := [(.ref b21), .null, (.ref b41), (.int w46), (.ref b47), (.ref b28), (.ref b51), (.ref b55)]) (rest := [(.ref b39)]) (lenOf pd_20 rfl) (Nat.le_of_eq rfl) (by decide) (by decide) (rm131 l Z a0 hw [] b39 b21 b41 w46 b47 b28 b51 b55 b_26 k_26 y25 b_37 k_37 b32 (.null) (.null) (.null) ((.int (0 : Int32))) (.null) (.null) (.null) (.null) w_EMPTY_ELEMENTDATA w_DEFAULTCAPACITY_EMPTY_ELEMENTDATA w_EMPTY w_EMPTY_LIST k_w_EMPTY_ELEMENTDATA k_w_DEFAULTCAPACITY_EMPTY_ELEMENTDATA w_mir w_els k_els T57.heap n0 O58 ⟨z0, z1, z2, z3, z4, z5, z6, z7, z8, z9, z10, z11, zm, z13, z14, trivial⟩ E58_b39 F58_descriptors_b39 F58_mainClass_b39 F58_arguments_b39 F58_allPermissions_b39 F58_javaRequests_b39 F58_jars_b39 F58_nativeLibraries_b39 F58_properties_b39 ge_b39 E58_b21 F58_elementData_b21 F58_size_b21 A58_b_26 E58_b_26 E58_y25 E58_b41 F58_size_b41 E58_b47 F58_size_b47 E58_b28 F58_elementData_b28 F58_size_b28 A58_b_37 E58_b_37 E58_b32 E58_b51 F58_size_b51 r57_0 r57_3 hj46 (Ne.symm ne_b_26_b39) (Ne.symm ne_b_37_b39) (Ne.symm ne_b21_b39) (Ne.symm ne_b28_b39) ne_b39_b41 ne_b39_b47 ne_b39_b51 ne_b39_b55) rfl (hb hby at_210) ?_
      intro v59 T59 lc59 X59 N59 hQ59
      obtain ⟨t_59, rfl, K59, r59_0, r59_1, r59_2, r59_3, r59_4, r59_5⟩ := hQ59
      have E60_b3 := E58_b3.keep K59
      have E60_b9 := E58_b9.keep K59
      have E60_b15 := E58_b15.keep K59
      have E60_b21 := E58_b21.keep K59
      have E60_y25 := E58_y25.keep K59
      have E60_b_26 := E58_b_26.keep K59
      have F60_modCount_b21 := F58_modCount_b21.keep K59 (ninS ne_b21_b39 nin0)
      have F60_elementData_b21 := F58_elementData_b21.keep K59 (ninS ne_b21_b39 nin0)
      have F60_size_b21 := F58_size_b21.keep K59 (ninS ne_b21_b39 nin0)
      have A60_b1 := A58_b1.keep K59 (ninS ne_b1_b39 nin0)
      have A60_b_26 := A58_b_26.keep K59 (ninS ne_b_26_b39 nin0)
      have O60 := O58.keep K59 (allS ge_b39 all0)
      have ne_b_26_t_59 : b_26 ≠ t_59 := Nat.ne_of_lt (Nat.lt_of_lt_of_le E58_b_26.lt r59_5)
      have ne_b21_t_59 : b21 ≠ t_59 := Nat.ne_of_lt (Nat.lt_of_lt_of_le E58_b21.lt r59_5)
      have ge_t_59 : n0 ≤ t_59 := Nat.le_trans (own_sz O58) r59_5
      refine own_astore X59 hx (Ls' := #[.val (.int p1), .val (.int p2), .val (.int p3), .val (.int (((p1 &&& (2147483647 : Int32)) % (3 : Int32)) + (1 : Int32))), .val (.int ((p2 &&& (2147483647 : Int32)) % (3 : Int32))), .val (.ref b1), .val (.ref b21), .val (.ref b28), .val (.ref b39), .unset]) (hb hby at_213) rfl rfl ?_
      refine own_iloadN X59 hx (hb hby at_215) rfl ?_
      refine own_iconst X59 hx (v := (2 : Int32)) (hb hby at_216) rfl ?_
      show Goes _ _ _ _ _ _ (T59.setTop (mkF m 217 #[.val (.int p1), .val (.int p2), .val (.int p3), .val (.int (((p1 &&& (2147483647 : Int32)) % (3 : Int32)) + (1 : Int32))), .val (.int ((p2 &&& (2147483647 : Int32)) % (3 : Int32))), .val (.ref b1), .val (.ref b21), .val (.ref b28), .val (.ref b39), .unset] [(.int (2 : Int32)), (.int p3)]))
      refine own_iand X59 hx (hb hby at_217) ?_
      by_cases hc218_61 : (p3 &&& (2 : Int32)) = (0 : Int32)
      ·
        refine own_ifYes X59 hx (pc' := 236) (hb hby at_218) ((if0 _ _).trans (teq (hc218_61 : (p3 &&& (2 : Int32)) = (0 : Int32))).1) (by decide) (by decide) ?_
        refine own_aload X59 hx (hb hby at_236) rfl rfl ?_
        refine own_virtual X59 hx hZ hown (y := (⟨"com/example/gantry/gantry/resolver/Resolution", "application", "()Lcom/example/gantry/gantry/resolver/LocalCopy;"⟩ : MethodName)) (z := (⟨"com/example/gantry/gantry/resolver/Resolution", "application", "()Lcom/example/gantry/gantry/resolver/LocalCopy;"⟩ : MethodName)) (hw _ (List.mem_of_getElem? (i := 225) rfl)) (hw _ (List.mem_of_getElem? (i := 226) rfl)) (notFace_of_selects (args := #[]) (mvT hZ (hw _ (List.mem_of_getElem? (i := 228) rfl)))) (hw _ (List.mem_of_getElem? (i := 228) rfl)) (hw _ (List.mem_of_getElem? (i := 227) rfl)) (hw _ (List.mem_of_getElem? (i := 94) rfl)) (hw _ (List.mem_of_getElem? (i := 229) rfl)) (a := b39) r59_0 (by decide) (W := 0) (by decide) (by decide) N59 rfl (by rw [hml]; rfl) (argsL := []) (rest := []) (lenOf pd_21 rfl) (Nat.le_of_eq rfl) (by decide) (by decide) (rm30 l Z a0 hw [] b39 t_59 y25 w_EMPTY_ELEMENTDATA w_DEFAULTCAPACITY_EMPTY_ELEMENTDATA w_EMPTY w_EMPTY_LIST k_w_EMPTY_ELEMENTDATA k_w_DEFAULTCAPACITY_EMPTY_ELEMENTDATA w_mir w_els k_els T59.heap n0 O60 ⟨z0, z1, z2, z3, z4, z5, z6, z7, z8, z9, z10, z11, zm, z13, z14, trivial⟩ r59_1 r59_2 r59_3 E60_y25) rfl (hb hby at_238) ?_
        intro v62 T62 lc62 X62 N62 hQ62
        obtain ⟨rfl, e62⟩ := hQ62
        refine own_astore X62 hx (Ls' := #[.val (.int p1), .val (.int p2), .val (.int p3), .val (.int (((p1 &&& (2147483647 : Int32)) % (3 : Int32)) + (1 : Int32))), .val (.int ((p2 &&& (2147483647 : Int32)) % (3 : Int32))), .val (.ref b1), .val (.ref b21), .val (.ref b28), .val (.ref b39), .val (.ref y25)]) (hb hby at_241) rfl rfl ?_
        refine own_aload X62 hx (hb hby at_243) rfl rfl ?_
        refine own_aload X62 hx (hb hby at_245) rfl rfl ?_
        show Goes _ _ _ _ _ _ (T62.setTop (mkF m 247 #[.val (.int p1), .val (.int p2), .val (.int p3), .val (.int (((p1 &&& (2147483647 : Int32)) % (3 : Int32)) + (1 : Int32))), .val (.int ((p2 &&& (2147483647 : Int32)) % (3 : Int32))), .val (.ref b1), .val (.ref b21), .val (.ref b28), .val (.ref b39), .val (.ref y25)] [(.ref b1), (.ref y25)]))
        refine own_iload X62 hx (hb hby at_247) rfl ?_
        show Goes _ _ _ _ _ _ (T62.setTop (mkF m 249 #[.val (.int p1), .val (.int p2), .val (.int p3), .val (.int (((p1 &&& (2147483647 : Int32)) % (3 : Int32)) + (1 : Int32))), .val (.int ((p2 &&& (2147483647 : Int32)) % (3 : Int32))), .val (.ref b1), .val (.ref b21), .val (.ref b28), .val (.ref b39), .val (.ref y25)] [(.int ((p2 &&& (2147483647 : Int32)) % (3 : Int32))), (.ref b1), (.ref y25)]))
        refine own_aaload X62 hx hZ e62 A60_b1 rfl (own_ix (own_p0 p2)) (v := .ref y25) hy25 (hb hby at_249) ?_
        refine own_acmp X62 hx rfl rfl (same := true) (pc' := 253) (hb hby at_250) (decide_eq_true rfl) (by decide) (by decide) ?_
        refine own_aload X62 hx (hb hby at_253) rfl rfl ?_
        refine own_virtual X62 hx hZ hown (y := (⟨"com/example/gantry/gantry/resolver/Resolution", "descriptors", "()Ljava/util/List;"⟩ : MethodName)) (z := (⟨"com/example/gantry/gantry/resolver/Resolution", "descriptors", "()Ljava/util/List;"⟩ : MethodName)) (hw _ (List.mem_of_getElem? (i := 239) rfl)) (hw _ (List.mem_of_getElem? (i := 240) rfl)) (notFace_of_selects (args := #[]) (mvT hZ (hw _ (List.mem_of_getElem? (i := 242) rfl)))) (hw _ (List.mem_of_getElem? (i := 242) rfl)) (hw _ (List.mem_of_getElem? (i := 241) rfl)) (hw _ (List.mem_of_getElem? (i := 94) rfl)) (hw _ (List.mem_of_getElem? (i := 243) rfl)) (a := b39) r59_0 (by decide) (W := 0) (by decide) (by decide) N62 e62 (by rw [hml]; rfl) (argsL := []) (rest := []) (lenOf pd_14 rfl) (Nat.le_of_eq rfl) (by decide) (by decide) (rm32 l Z a0 hw [] b39 t_59 w_EMPTY_ELEMENTDATA w_DEFAULTCAPACITY_EMPTY_ELEMENTDATA w_EMPTY w_EMPTY_LIST k_w_EMPTY_ELEMENTDATA k_w_DEFAULTCAPACITY_EMPTY_ELEMENTDATA w_mir w_els k_els T59.heap n0 O60 ⟨z0, z1, z2, z3, z4, z5, z6, z7, z8, z9, z10, z11, zm, z13, z14, trivial⟩ r59_1) rfl (hb hby at_255) ?_
        intro v63 T63 lc63 X63 N63 hQ63
        obtain ⟨rfl, e63⟩ := hQ63
        refine own_iface X63 hx hZ hown (y := (⟨"java/util/List", "size", "()I"⟩ : MethodName)) (z := (⟨"java/util/ImmutableCollections$List12", "size", "()I"⟩ : MethodName)) (hw _ (List.mem_of_getElem? (i := 244) rfl)) (hw _ (List.mem_of_getElem? (i := 245) rfl)) (hw _ (List.mem_of_getElem? (i := 246) rfl)) (hw _ (List.mem_of_getElem? (i := 247) rfl)) (hw _ (List.mem_of_getElem? (i := 248) rfl)) (hw _ (List.mem_of_getElem? (i := 249) rfl)) (hw _ (List.mem_of_getElem? (i := 250) rfl)) (hw _ (List.mem_of_getElem? (i := 196) rfl)) (hw _ (List.mem_of_getElem? (i := 157) rfl)) (hw _ (List.mem_of_getElem? (i := 251) rfl)) (a := t_59) r59_2 (by decide) (W := 0) (by decide) (by decide) N63 e63 (by rw [hml]; rfl) (argsL := []) (rest := []) (lenOf pd_22 rfl) (Nat.le_of_eq rfl) (by decide) (by decide) (rm331 l Z a0 hw [] t_59 w_EMPTY_ELEMENTDATA w_DEFAULTCAPACITY_EMPTY_ELEMENTDATA w_EMPTY w_EMPTY_LIST k_w_EMPTY_ELEMENTDATA k_w_DEFAULTCAPACITY_EMPTY_ELEMENTDATA w_mir w_els k_els T59.heap n0 O60 ⟨z0, z1, z2, z3, z4, z5, z6, z7, z8, z9, z10, z11, zm, z13, z14, trivial⟩ r59_4) rfl (hb hby at_258) ?_
        intro v64 T64 lc64 X64 N64 hQ64
        obtain ⟨rfl, e64⟩ := hQ64
        refine own_iloadN X64 hx (hb hby at_263) rfl ?_
        refine own_icmpNo X64 hx (hb hby at_264) (teq ((by first | (rw [hn]; done) | (rw [hn]; decide)) : (1 : Int32) = (((p1 &&& (2147483647 : Int32)) % (3 : Int32)) + (1 : Int32)))).2 ?_
        refine own_iconst X64 hx (v := (1 : Int32)) (hb hby at_267) rfl ?_
        refine own_goto X64 hx (pc' := 272) (hb hby at_268) (by decide) (by decide) ?_
        show Goes _ _ _ _ _ _ (T64.setTop (mkF m 272 #[.val (.int p1), .val (.int p2), .val (.int p3), .val (.int (((p1 &&& (2147483647 : Int32)) % (3 : Int32)) + (1 : Int32))), .val (.int ((p2 &&& (2147483647 : Int32)) % (3 : Int32))), .val (.ref b1), .val (.ref b21), .val (.ref b28), .val (.ref b39), .val (.ref y25)] [(.int (1 : Int32))]))
        exact own_retN X64 hx (t := .boolean) N64 hlk (by decide) (by decide) hret (by simp) (hb hby at_272) (by rw [e64]; exact rfl)
      ·
        refine own_ifNo X59 hx (hb hby at_218) ((if0 _ _).trans (feq (hc218_61 : ¬ ((p3 &&& (2 : Int32)) = (0 : Int32)))).1) ?_
        refine own_aload X59 hx (hb hby at_221) rfl rfl ?_
        refine own_iconst X59 hx (v := (0 : Int32)) (hb hby at_223) rfl ?_
        refine own_aload X59 hx (hb hby at_224) rfl rfl ?_
        show Goes _ _ _ _ _ _ (T59.setTop (mkF m 226 #[.val (.int p1), .val (.int p2), .val (.int p3), .val (.int (((p1 &&& (2147483647 : Int32)) % (3 : Int32)) + (1 : Int32))), .val (.int ((p2 &&& (2147483647 : Int32)) % (3 : Int32))), .val (.ref b1), .val (.ref b21), .val (.ref b28), .val (.ref b39), .unset] [(.ref b1), (.int (0 : Int32)), (.ref b21)]))
        refine own_iload X59 hx (hb hby at_226) rfl ?_
        refine own_iconst X59 hx (v := (1 : Int32)) (hb hby at_228) rfl ?_
        refine own_iadd X59 hx (hb hby at_229) ?_
        refine own_iconst X59 hx (v := (3 : Int32)) (hb hby at_230) rfl ?_
        refine own_irem X59 hx (hb hby at_231) (by decide) ?_
        show Goes _ _ _ _ _ _ (T59.setTop (mkF m 232 #[.val (.int p1), .val (.int p2), .val (.int p3), .val (.int (((p1 &&& (2147483647 : Int32)) % (3 : Int32)) + (1 : Int32))), .val (.int ((p2 &&& (2147483647 : Int32)) % (3 : Int32))), .val (.ref b1), .val (.ref b21), .val (.ref b28), .val (.ref b39), .unset] [(.int ((((p2 &&& (2147483647 : Int32)) % (3 : Int32)) + (1 : Int32)) % (3 : Int32))), (.ref b1), (.int (0 : Int32)), (.ref b21)]))
        obtain ⟨y65, hy65, hE65⟩ := own_pick (j := ((((p2 &&& (2147483647 : Int32)) % (3 : Int32)) + (1 : Int32)) % (3 : Int32))) (own_pk p2 (1 : Int32) (by decide)) E60_b3 E60_b9 E60_b15
        refine own_aaload X59 hx hZ rfl A60_b1 rfl (own_ix (own_pk p2 (1 : Int32) (by decide))) (v := .ref y65) hy65 (hb hby at_232) ?_
        refine own_virtual X59 hx hZ hown (y := (⟨"java/util/ArrayList", "add", "(ILjava/lang/Object;)V"⟩ : MethodName)) (z := (⟨"java/util/ArrayList", "add", "(ILjava/lang/Object;)V"⟩ : MethodName)) (hw _ (List.mem_of_getElem? (i := 214) rfl)) (hw _ (List.mem_of_getElem? (i := 215) rfl)) (notFace_of_selects (args := #[]) (mvT hZ (hw _ (List.mem_of_getElem? (i := 217) rfl)))) (hw _ (List.mem_of_getElem? (i := 217) rfl)) (hw _ (List.mem_of_getElem? (i := 216) rfl)) (hw _ (List.mem_of_getElem? (i := 27) rfl)) (hw _ (List.mem_of_getElem? (i := 218) rfl)) (a := b21) E60_b21 (by decide) (W := 0) (by decide) (by decide) N59 rfl (by rw [hml]; rfl) (argsL := [(.int (0 : Int32)), (.ref y65)]) (rest := []) (lenOf pd_23 rfl) (Nat.le_of_eq rfl) (by decide) (by decide) (rm281 l Z a0 hw [] b21 y65 ((0 : Int32) + (1 : Int32)) b_26 k_26 y25 w_EMPTY_ELEMENTDATA w_DEFAULTCAPACITY_EMPTY_ELEMENTDATA w_EMPTY w_EMPTY_LIST k_w_EMPTY_ELEMENTDATA k_w_DEFAULTCAPACITY_EMPTY_ELEMENTDATA w_mir w_els k_els T59.heap n0 O60 ⟨z0, z1, z2, z3, z4, z5, z6, z7, z8, z9, z10, z11, zm, z13, z14, trivial⟩ E60_b21 F60_modCount_b21 F60_elementData_b21 F60_size_b21 A60_b_26 E60_b_26 ge_b21 ge_b_26 r26_7 hE65 E60_y25) rfl (hb hby at_233) ?_
        intro v66 T66 lc66 X66 N66 hQ66
        obtain ⟨rfl, K66⟩ := hQ66
        have E67_y25 := E60_y25.keep K66
        have E67_b39 := r59_0.keep K66
        have E67_t_59 := r59_2.keep K66
        have F67_descriptors_b39 := r59_1.keep K66 (ninS (Ne.symm ne_b21_b39) (ninS (Ne.symm ne_b_26_b39) nin0))
        have F67_e0_t_59 := r59_3.keep K66 (ninS (Ne.symm ne_b21_t_59) (ninS (Ne.symm ne_b_26_t_59) nin0))
        have F67_e1_t_59 := r59_4.keep K66 (ninS (Ne.symm ne_b21_t_59) (ninS (Ne.symm ne_b_26_t_59) nin0))
        have A67_b1 := A60_b1.keep K66 (ninS ne_b1_b21 (ninS ne_b1_b_26 nin0))
        have O67 := O60.keep K66 (allS ge_b21 (allS ge_b_26 all0))
        refine own_aload X66 hx (hb hby at_236) rfl rfl ?_
        refine own_virtual X66 hx hZ hown (y := (⟨"com/example/gantry/gantry/resolver/Resolution", "application", "()Lcom/example/gantry/gantry/resolver/LocalCopy;"⟩ : MethodName)) (z := (⟨"com/example/gantry/gantry/resolver/Resolution", "application", "()Lcom/example/gantry/gantry/resolver/LocalCopy;"⟩ : MethodName)) (hw _ (List.mem_of_getElem? (i := 225) rfl)) (hw _ (List.mem_of_getElem? (i := 226) rfl)) (notFace_of_selects (args := #[]) (mvT hZ (hw _ (List.mem_of_getElem? (i := 228) rfl)))) (hw _ (List.mem_of_getElem? (i := 228) rfl)) (hw _ (List.mem_of_getElem? (i := 227) rfl)) (hw _ (List.mem_of_getElem? (i := 94) rfl)) (hw _ (List.mem_of_getElem? (i := 229) rfl)) (a := b39) E67_b39 (by decide) (W := 0) (by decide) (by decide) N66 rfl (by rw [hml]; rfl) (argsL := []) (rest := []) (lenOf pd_21 rfl) (Nat.le_of_eq rfl) (by decide) (by decide) (rm30 l Z a0 hw [] b39 t_59 y25 w_EMPTY_ELEMENTDATA w_DEFAULTCAPACITY_EMPTY_ELEMENTDATA w_EMPTY w_EMPTY_LIST k_w_EMPTY_ELEMENTDATA k_w_DEFAULTCAPACITY_EMPTY_ELEMENTDATA w_mir w_els k_els T66.heap n0 O67 ⟨z0, z1, z2, z3, z4, z5, z6, z7, z8, z9, z10, z11, zm, z13, z14, trivial⟩ F67_descriptors_b39 E67_t_59 F67_e0_t_59 E67_y25) rfl (hb hby at_238) ?_
        intro v68 T68 lc68 X68 N68 hQ68
        obtain ⟨rfl, e68⟩ := hQ68
        refine own_astore X68 hx (Ls' := #[.val (.int p1), .val (.int p2), .val (.int p3), .val (.int (((p1 &&& (2147483647 : Int32)) % (3 : Int32)) + (1 : Int32))), .val (.int ((p2 &&& (2147483647 : Int32)) % (3 : Int32))), .val (.ref b1), .val (.ref b21), .val (.ref b28), .val (.ref b39), .val (.ref y25)]) (hb hby at_241) rfl rfl ?_
        refine own_aload X68 hx (hb hby at_243) rfl rfl ?_
        refine own_aload X68 hx (hb hby at_245) rfl rfl ?_
        show Goes _ _ _ _ _ _ (T68.setTop (mkF m 247 #[.val (.int p1), .val (.int p2), .val (.int p3), .val (.int (((p1 &&& (2147483647 : Int32)) % (3 : Int32)) + (1 : Int32))), .val (.int ((p2 &&& (2147483647 : Int32)) % (3 : Int32))), .val (.ref b1), .val (.ref b21), .val (.ref b28), .val (.ref b39), .val (.ref y25)] [(.ref b1), (.ref y25)]))
        refine own_iload X68 hx (hb hby at_247) rfl ?_
        show Goes _ _ _ _ _ _ (T68.setTop (mkF m 249 #[.val (.int p1), .val (.int p2), .val (.int p3), .val (.int (((p1 &&& (2147483647 : Int32)) % (3 : Int32)) + (1 : Int32))), .val (.int ((p2 &&& (2147483647 : Int32)) % (3 : Int32))), .val (.ref b1), .val (.ref b21), .val (.ref b28), .val (.ref b39), .val (.ref y25)] [(.int ((p2 &&& (2147483647 : Int32)) % (3 : Int32))), (.ref b1), (.ref y25)]))
        refine own_aaload X68 hx hZ e68 A67_b1 rfl (own_ix (own_p0 p2)) (v := .ref y25) hy25 (hb hby at_249) ?_
        refine own_acmp X68 hx rfl rfl (same := true) (pc' := 253) (hb hby at_250) (decide_eq_true rfl) (by decide) (by decide) ?_
        refine own_aload X68 hx (hb hby at_253) rfl rfl ?_
        refine own_virtual X68 hx hZ hown (y := (⟨"com/example/gantry/gantry/resolver/Resolution", "descriptors", "()Ljava/util/List;"⟩ : MethodName)) (z := (⟨"com/example/gantry/gantry/resolver/Resolution", "descriptors", "()Ljava/util/List;"⟩ : MethodName)) (hw _ (List.mem_of_getElem? (i := 239) rfl)) (hw _ (List.mem_of_getElem? (i := 240) rfl)) (notFace_of_selects (args := #[]) (mvT hZ (hw _ (List.mem_of_getElem? (i := 242) rfl)))) (hw _ (List.mem_of_getElem? (i := 242) rfl)) (hw _ (List.mem_of_getElem? (i := 241) rfl)) (hw _ (List.mem_of_getElem? (i := 94) rfl)) (hw _ (List.mem_of_getElem? (i := 243) rfl)) (a := b39) E67_b39 (by decide) (W := 0) (by decide) (by decide) N68 e68 (by rw [hml]; rfl) (argsL := []) (rest := []) (lenOf pd_14 rfl) (Nat.le_of_eq rfl) (by decide) (by decide) (rm32 l Z a0 hw [] b39 t_59 w_EMPTY_ELEMENTDATA w_DEFAULTCAPACITY_EMPTY_ELEMENTDATA w_EMPTY w_EMPTY_LIST k_w_EMPTY_ELEMENTDATA k_w_DEFAULTCAPACITY_EMPTY_ELEMENTDATA w_mir w_els k_els T66.heap n0 O67 ⟨z0, z1, z2, z3, z4, z5, z6, z7, z8, z9, z10, z11, zm, z13, z14, trivial⟩ F67_descriptors_b39) rfl (hb hby at_255) ?_
        intro v69 T69 lc69 X69 N69 hQ69
        obtain ⟨rfl, e69⟩ := hQ69
        refine own_iface X69 hx hZ hown (y := (⟨"java/util/List", "size", "()I"⟩ : MethodName)) (z := (⟨"java/util/ImmutableCollections$List12", "size", "()I"⟩ : MethodName)) (hw _ (List.mem_of_getElem? (i := 244) rfl)) (hw _ (List.mem_of_getElem? (i := 245) rfl)) (hw _ (List.mem_of_getElem? (i := 246) rfl)) (hw _ (List.mem_of_getElem? (i := 247) rfl)) (hw _ (List.mem_of_getElem? (i := 248) rfl)) (hw _ (List.mem_of_getElem? (i := 249) rfl)) (hw _ (List.mem_of_getElem? (i := 250) rfl)) (hw _ (List.mem_of_getElem? (i := 196) rfl)) (hw _ (List.mem_of_getElem? (i := 157) rfl)) (hw _ (List.mem_of_getElem? (i := 251) rfl)) (a := t_59) E67_t_59 (by decide) (W := 0) (by decide) (by decide) N69 e69 (by rw [hml]; rfl) (argsL := []) (rest := []) (lenOf pd_22 rfl) (Nat.le_of_eq rfl) (by decide) (by decide) (rm331 l Z a0 hw [] t_59 w_EMPTY_ELEMENTDATA w_DEFAULTCAPACITY_EMPTY_ELEMENTDATA w_EMPTY w_EMPTY_LIST k_w_EMPTY_ELEMENTDATA k_w_DEFAULTCAPACITY_EMPTY_ELEMENTDATA w_mir w_els k_els T66.heap n0 O67 ⟨z0, z1, z2, z3, z4, z5, z6, z7, z8, z9, z10, z11, zm, z13, z14, trivial⟩ F67_e1_t_59) rfl (hb hby at_258) ?_
        intro v70 T70 lc70 X70 N70 hQ70
        obtain ⟨rfl, e70⟩ := hQ70
        refine own_iloadN X70 hx (hb hby at_263) rfl ?_
        refine own_icmpNo X70 hx (hb hby at_264) (teq ((by first | (rw [hn]; done) | (rw [hn]; decide)) : (1 : Int32) = (((p1 &&& (2147483647 : Int32)) % (3 : Int32)) + (1 : Int32)))).2 ?_
        refine own_iconst X70 hx (v := (1 : Int32)) (hb hby at_267) rfl ?_
        refine own_goto X70 hx (pc' := 272) (hb hby at_268) (by decide) (by decide) ?_
        show Goes _ _ _ _ _ _ (T70.setTop (mkF m 272 #[.val (.int p1), .val (.int p2), .val (.int p3), .val (.int (((p1 &&& (2147483647 : Int32)) % (3 : Int32)) + (1 : Int32))), .val (.int ((p2 &&& (2147483647 : Int32)) % (3 : Int32))), .val (.ref b1), .val (.ref b21), .val (.ref b28), .val (.ref b39), .val (.ref y25)] [(.int (1 : Int32))]))
        exact own_retN X70 hx (t := .boolean) N70 hlk (by decide) (by decide) hret (by simp) (hb hby at_272) (by rw [e70]; exact rfl)
    by_cases hc179_45 : (p3 &&& (1 : Int32)) = (0 : Int32)
    ·
      refine own_ifYes X43 hx (pc' := 186) (hb hby at_179) ((if0 _ _).trans (teq (hc179_45 : (p3 &&& (1 : Int32)) = (0 : Int32))).1) (by decide) (by decide) ?_
      refine own_iconst X43 hx (v := (0 : Int32)) (hb hby at_186) rfl ?_
      show Goes _ _ _ _ _ _ (T43.setTop (mkF m 187 #[.val (.int p1), .val (.int p2), .val (.int p3), .val (.int (((p1 &&& (2147483647 : Int32)) % (3 : Int32)) + (1 : Int32))), .val (.int ((p2 &&& (2147483647 : Int32)) % (3 : Int32))), .val (.ref b1), .val (.ref b21), .val (.ref b28), .unset, .unset] [(.int (0 : Int32)), (.ref b41), .null, (.ref b21), (.ref b39), (.ref b39)]))
      exact jn187_46 T43 _ X43 N43 rfl (0 : Int32) ⟨rfl, rfl⟩
    ·
      refine own_ifNo X43 hx (hb hby at_179) ((if0 _ _).trans (feq (hc179_45 : ¬ ((p3 &&& (1 : Int32)) = (0 : Int32)))).1) ?_
      refine own_iconst X43 hx (v := (1 : Int32)) (hb hby at_182) rfl ?_
      refine own_goto X43 hx (pc' := 187) (hb hby at_183) (by decide) (by decide) ?_
      show Goes _ _ _ _ _ _ (T43.setTop (mkF m 187 #[.val (.int p1), .val (.int p2), .val (.int p3), .val (.int (((p1 &&& (2147483647 : Int32)) % (3 : Int32)) + (1 : Int32))), .val (.int ((p2 &&& (2147483647 : Int32)) % (3 : Int32))), .val (.ref b1), .val (.ref b21), .val (.ref b28), .unset, .unset] [(.int (1 : Int32)), (.ref b41), .null, (.ref b21), (.ref b39), (.ref b39)]))
      exact jn187_46 T43 _ X43 N43 rfl (1 : Int32) ⟨rfl, rfl⟩
  ·
    refine own_iconst X0 hx (v := (3 : Int32)) (hb hby at_17) rfl ?_
    refine own_newR X0 hx hZ hown (hw _ (List.mem_of_getElem? (i := 1) rfl)) (hw _ (List.mem_of_getElem? (i := 2) rfl)) e0 (hb hby at_18) (by decide) (cap := 3) (by decide) (by decide) (by decide) (by decide) (fun T71 h71 b71 k71 g71 X71 e71 E71 A71 O71_ => ?_)
    have ge_b71 : n0 ≤ b71 := Nat.le_trans (own_sz O0) (Nat.le_of_eq g71.symm)
    have O72 := O0.ext E71
    have V71 : Arv Z h71 b71 k71 (.object "com/example/gantry/gantry/resolver/LocalCopy") (3 : Int32) [.null, .null, .null] .null := A71.pad (pad_rep [] .null 3)
    refine own_astore X71 hx (Ls' := #[.val (.int p1), .val (.int p2), .val (.int p3), .val (.int (((p1 &&& (2147483647 : Int32)) % (3 : Int32)) + (1 : Int32))), .val (.int ((p2 &&& (2147483647 : Int32)) % (3 : Int32))), .val (.ref b71), .unset, .unset, .unset, .unset]) (hb hby at_21) rfl rfl ?_
    refine own_aload X71 hx (hb hby at_23) rfl rfl ?_
    refine own_iconst X71 hx (v := (0 : Int32)) (hb hby at_25) rfl ?_
    show Goes _ _ _ _ _ _ (T71.setTop (mkF m 26 #[.val (.int p1), .val (.int p2), .val (.int p3), .val (.int (((p1 &&& (2147483647 : Int32)) % (3 : Int32)) + (1 : Int32))), .val (.int ((p2 &&& (2147483647 : Int32)) % (3 : Int32))), .val (.ref b71), .unset, .unset, .unset, .unset] [(.int (0 : Int32)), (.ref b71)]))
    refine own_new X71 hx hZ hown (hw _ (List.mem_of_getElem? (i := 1) rfl)) (hw _ (List.mem_of_getElem? (i := 3) rfl)) (hw _ (List.mem_of_getElem? (i := 4) rfl)) e71 (hb hby at_26) (by decide) (by decide) (fun T73 h73 b73 g73 X73 e73 E73 A73 D73 => ?_)
    have ne_b71_b73 : b71 ≠ b73 := Nat.ne_of_lt (Nat.lt_of_lt_of_le V71.lt (Nat.le_of_eq g73.symm))
    have ge_b73 : n0 ≤ b73 := Nat.le_trans (own_sz O72) (Nat.le_of_eq g73.symm)
    have A74_b71 := V71.ext E73
    have O74 := O72.ext E73
    have F73_location_b73 : Fld Z h73 b73 "com/example/gantry/gantry/resolver/LocalCopy" "location" "Ljava/net/URI;" .null := D73 (Or.inr (hw _ (List.mem_of_getElem? (i := 17) rfl))) (ty := (.object "java/net/URI")) (by decide)
    have F73_retrievedFrom_b73 : Fld Z h73 b73 "com/example/gantry/gantry/resolver/LocalCopy" "retrievedFrom" "Ljava/net/URI;" .null := D73 (Or.inr (hw _ (List.mem_of_getElem? (i := 19) rfl))) (ty := (.object "java/net/URI")) (by decide)
    have F73_file_b73 : Fld Z h73 b73 "com/example/gantry/gantry/resolver/LocalCopy" "file" "Ljava/nio/file/Path;" .null := D73 (Or.inr (hw _ (List.mem_of_getElem? (i := 21) rfl))) (ty := (.object "java/nio/file/Path")) (by decide)
    have F73_checkedSha256_b73 : Fld Z h73 b73 "com/example/gantry/gantry/resolver/LocalCopy" "checkedSha256" "Ljava/util/Optional;" .null := D73 (Or.inr (hw _ (List.mem_of_getElem? (i := 23) rfl))) (ty := (.object "java/util/Optional")) (by decide)
    refine own_dup X73 hx (hb hby at_29) rfl ?_
    refine own_aconst_null X73 hx (hb hby at_30) ?_
    refine own_aconst_null X73 hx (hb hby at_31) ?_
    show Goes _ _ _ _ _ _ (T73.setTop (mkF m 32 #[.val (.int p1), .val (.int p2), .val (.int p3), .val (.int (((p1 &&& (2147483647 : Int32)) % (3 : Int32)) + (1 : Int32))), .val (.int ((p2 &&& (2147483647 : Int32)) % (3 : Int32))), .val (.ref b71), .unset, .unset, .unset, .unset] [.null, .null, (.ref b73), (.ref b73), (.int (0 : Int32)), (.ref b71)]))
    refine own_aconst_null X73 hx (hb hby at_32) ?_
    refine own_aconst_null X73 hx (hb hby at_33) ?_
    refine own_special X73 hx hZ hown (y := (⟨"com/example/gantry/gantry/resolver/LocalCopy", "<init>", "(Ljava/net/URI;Ljava/net/URI;Ljava/nio/file/Path;Ljava/util/Optional;)V"⟩ : MethodName)) rfl (hw _ (List.mem_of_getElem? (i := 5) rfl)) (hw _ (List.mem_of_getElem? (i := 6) rfl)) (hw _ (List.mem_of_getElem? (i := 4) rfl)) (hw _ (List.mem_of_getElem? (i := 7) rfl)) (a := b73) (by decide) (W := 3) (by decide) (by decide) N0 e73 (by rw [hml]; rfl) (argsL := [.null, .null, .null, .null]) (rest := [(.ref b73), (.int (0 : Int32)), (.ref b71)]) (lenOf pd_17 rfl) (Nat.le_of_eq rfl) (by decide) (by decide) (rm1 l Z a0 hw [] b73 (.null) (.null) (.null) (.null) h73 n0 O74 A73 F73_location_b73 F73_retrievedFrom_b73 F73_file_b73 F73_checkedSha256_b73 ge_b73) rfl (hb hby at_34) ?_
    intro v75 T75 lc75 X75 N75 hQ75
    obtain ⟨rfl, K75, r75_0⟩ := hQ75
    have A76_b71 := A74_b71.keep K75 (ninS ne_b71_b73 nin0)
    have O76 := O74.keep K75 (allS ge_b73 all0)
    refine own_aastore X75 hx hZ N75 rfl A76_b71 rfl rfl ⟨by decide, by decide⟩ (i := 0) rfl (by first | decide | (simp; done)) ge_b71 (fun _ Ar q => Sto.ofV Ar q O71_ (Ins.self r75_0)) (hb hby at_37) (fun T77 h77 lc77 X77 e77 N77 W77 V77 => ?_)
    have E78_b73 := r75_0.wr W77
    have O78 := O76.wr W77 ge_b71
    have V77' : Arv Z h77 b71 k71 (.object "com/example/gantry/gantry/resolver/LocalCopy") (3 : Int32) [(.ref b73), .null, .null] .null := V77
    refine own_aload X77 hx (hb hby at_38) rfl rfl ?_
    refine own_iconst X77 hx (v := (1 : Int32)) (hb hby at_40) rfl ?_
    refine own_new X77 hx hZ hown (hw _ (List.mem_of_getElem? (i := 1) rfl)) (hw _ (List.mem_of_getElem? (i := 3) rfl)) (hw _ (List.mem_of_getElem? (i := 4) rfl)) e77 (hb hby at_41) (by decide) (by decide) (fun T79 h79 b79 g79 X79 e79 E79 A79 D79 => ?_)
    have ne_b71_b79 : b71 ≠ b79 := Nat.ne_of_lt (Nat.lt_of_lt_of_le V77'.lt (Nat.le_of_eq g79.symm))
    have ge_b79 : n0 ≤ b79 := Nat.le_trans (own_sz O78) (Nat.le_of_eq g79.symm)
    have E80_b73 := E78_b73.ext E79
    have A80_b71 := V77'.ext E79
    have O80 := O78.ext E79
    have F79_location_b79 : Fld Z h79 b79 "com/example/gantry/gantry/resolver/LocalCopy" "location" "Ljava/net/URI;" .null := D79 (Or.inr (hw _ (List.mem_of_getElem? (i := 17) rfl))) (ty := (.object "java/net/URI")) (by decide)
    have F79_retrievedFrom_b79 : Fld Z h79 b79 "com/example/gantry/gantry/resolver/LocalCopy" "retrievedFrom" "Ljava/net/URI;" .null := D79 (Or.inr (hw _ (List.mem_of_getElem? (i := 19) rfl))) (ty := (.object "java/net/URI")) (by decide)
    have F79_file_b79 : Fld Z h79 b79 "com/example/gantry/gantry/resolver/LocalCopy" "file" "Ljava/nio/file/Path;" .null := D79 (Or.inr (hw _ (List.mem_of_getElem? (i := 21) rfl))) (ty := (.object "java/nio/file/Path")) (by decide)
    have F79_checkedSha256_b79 : Fld Z h79 b79 "com/example/gantry/gantry/resolver/LocalCopy" "checkedSha256" "Ljava/util/Optional;" .null := D79 (Or.inr (hw _ (List.mem_of_getElem? (i := 23) rfl))) (ty := (.object "java/util/Optional")) (by decide)
    refine own_dup X79 hx (hb hby at_44) rfl ?_
    refine own_aconst_null X79 hx (hb hby at_45) ?_
    refine own_aconst_null X79 hx (hb hby at_46) ?_
    show Goes _ _ _ _ _ _ (T79.setTop (mkF m 47 #[.val (.int p1), .val (.int p2), .val (.int p3), .val (.int (((p1 &&& (2147483647 : Int32)) % (3 : Int32)) + (1 : Int32))), .val (.int ((p2 &&& (2147483647 : Int32)) % (3 : Int32))), .val (.ref b71), .unset, .unset, .unset, .unset] [.null, .null, (.ref b79), (.ref b79), (.int (1 : Int32)), (.ref b71)]))
    refine own_aconst_null X79 hx (hb hby at_47) ?_
    refine own_aconst_null X79 hx (hb hby at_48) ?_
    refine own_special X79 hx hZ hown (y := (⟨"com/example/gantry/gantry/resolver/LocalCopy", "<init>", "(Ljava/net/URI;Ljava/net/URI;Ljava/nio/file/Path;Ljava/util/Optional;)V"⟩ : MethodName)) rfl (hw _ (List.mem_of_getElem? (i := 5) rfl)) (hw _ (List.mem_of_getElem? (i := 6) rfl)) (hw _ (List.mem_of_getElem? (i := 4) rfl)) (hw _ (List.mem_of_getElem? (i := 7) rfl)) (a := b79) (by decide) (W := 3) (by decide) (by decide) N77 e79 (by rw [hml]; rfl) (argsL := [.null, .null, .null, .null]) (rest := [(.ref b79), (.int (1 : Int32)), (.ref b71)]) (lenOf pd_17 rfl) (Nat.le_of_eq rfl) (by decide) (by decide) (rm1 l Z a0 hw [] b79 (.null) (.null) (.null) (.null) h79 n0 O80 A79 F79_location_b79 F79_retrievedFrom_b79 F79_file_b79 F79_checkedSha256_b79 ge_b79) rfl (hb hby at_49) ?_
    intro v81 T81 lc81 X81 N81 hQ81
    obtain ⟨rfl, K81, r81_0⟩ := hQ81
    have E82_b73 := E80_b73.keep K81
    have A82_b71 := A80_b71.keep K81 (ninS ne_b71_b79 nin0)
    have O82 := O80.keep K81 (allS ge_b79 all0)
    refine own_aastore X81 hx hZ N81 rfl A82_b71 rfl rfl ⟨by decide, by decide⟩ (i := 1) rfl (by first | decide | (simp; done)) ge_b71 (fun _ Ar q => Sto.ofV Ar q O71_ (Ins.self r81_0)) (hb hby at_52) (fun T83 h83 lc83 X83 e83 N83 W83 V83 => ?_)
    have E84_b73 := E82_b73.wr W83
    have E84_b79 := r81_0.wr W83
    have O84 := O82.wr W83 ge_b71
    have V83' : Arv Z h83 b71 k71 (.object "com/example/gantry/gantry/resolver/LocalCopy") (3 : Int32) [(.ref b73), (.ref b79), .null] .null := V83
    refine own_aload X83 hx (hb hby at_53) rfl rfl ?_
    refine own_iconst X83 hx (v := (2 : Int32)) (hb hby at_55) rfl ?_
    refine own_new X83 hx hZ hown (hw _ (List.mem_of_getElem? (i := 1) rfl)) (hw _ (List.mem_of_getElem? (i := 3) rfl)) (hw _ (List.mem_of_getElem? (i := 4) rfl)) e83 (hb hby at_56) (by decide) (by decide) (fun T85 h85 b85 g85 X85 e85 E85 A85 D85 => ?_)
    have ne_b71_b85 : b71 ≠ b85 := Nat.ne_of_lt (Nat.lt_of_lt_of_le V83'.lt (Nat.le_of_eq g85.symm))
    have ge_b85 : n0 ≤ b85 := Nat.le_trans (own_sz O84) (Nat.le_of_eq g85.symm)
    have E86_b73 := E84_b73.ext E85
    have E86_b79 := E84_b79.ext E85
    have A86_b71 := V83'.ext E85
    have O86 := O84.ext E85
    have F85_location_b85 : Fld Z h85 b85 "com/example/gantry/gantry/resolver/LocalCopy" "location" "Ljava/net/URI;" .null := D85 (Or.inr (hw _ (List.mem_of_getElem? (i := 17) rfl))) (ty := (.object "java/net/URI")) (by decide)
    have F85_retrievedFrom_b85 : Fld Z h85 b85 "com/example/gantry/gantry/resolver/LocalCopy" "retrievedFrom" "Ljava/net/URI;" .null := D85 (Or.inr (hw _ (List.mem_of_getElem? (i := 19) rfl))) (ty := (.object "java/net/URI")) (by decide)
    have F85_file_b85 : Fld Z h85 b85 "com/example/gantry/gantry/resolver/LocalCopy" "file" "Ljava/nio/file/Path;" .null := D85 (Or.inr (hw _ (List.mem_of_getElem? (i := 21) rfl))) (ty := (.object "java/nio/file/Path")) (by decide)
    have F85_checkedSha256_b85 : Fld Z h85 b85 "com/example/gantry/gantry/resolver/LocalCopy" "checkedSha256" "Ljava/util/Optional;" .null := D85 (Or.inr (hw _ (List.mem_of_getElem? (i := 23) rfl))) (ty := (.object "java/util/Optional")) (by decide)
    refine own_dup X85 hx (hb hby at_59) rfl ?_
    refine own_aconst_null X85 hx (hb hby at_60) ?_
    refine own_aconst_null X85 hx (hb hby at_61) ?_
    show Goes _ _ _ _ _ _ (T85.setTop (mkF m 62 #[.val (.int p1), .val (.int p2), .val (.int p3), .val (.int (((p1 &&& (2147483647 : Int32)) % (3 : Int32)) + (1 : Int32))), .val (.int ((p2 &&& (2147483647 : Int32)) % (3 : Int32))), .val (.ref b71), .unset, .unset, .unset, .unset] [.null, .null, (.ref b85), (.ref b85), (.int (2 : Int32)), (.ref b71)]))
    refine own_aconst_null X85 hx (hb hby at_62) ?_
    refine own_aconst_null X85 hx (hb hby at_63) ?_
    refine own_special X85 hx hZ hown (y := (⟨"com/example/gantry/gantry/resolver/LocalCopy", "<init>", "(Ljava/net/URI;Ljava/net/URI;Ljava/nio/file/Path;Ljava/util/Optional;)V"⟩ : MethodName)) rfl (hw _ (List.mem_of_getElem? (i := 5) rfl)) (hw _ (List.mem_of_getElem? (i := 6) rfl)) (hw _ (List.mem_of_getElem? (i := 4) rfl)) (hw _ (List.mem_of_getElem? (i := 7) rfl)) (a := b85) (by decide) (W := 3) (by decide) (by decide) N83 e85 (by rw [hml]; rfl) (argsL := [.null, .null, .null, .null]) (rest := [(.ref b85), (.int (2 : Int32)), (.ref b71)]) (lenOf pd_17 rfl) (Nat.le_of_eq rfl) (by decide) (by decide) (rm1 l Z a0 hw [] b85 (.null) (.null) (.null) (.null) h85 n0 O86 A85 F85_location_b85 F85_retrievedFrom_b85 F85_file_b85 F85_checkedSha256_b85 ge_b85) rfl (hb hby at_64) ?_
    intro v87 T87 lc87 X87 N87 hQ87
    obtain ⟨rfl, K87, r87_0⟩ := hQ87
    have E88_b73 := E86_b73.keep K87
    have E88_b79 := E86_b79.keep K87
    have A88_b71 := A86_b71.keep K87 (ninS ne_b71_b85 nin0)
    have O88 := O86.keep K87 (allS ge_b85 all0)
    refine own_aastore X87 hx hZ N87 rfl A88_b71 rfl rfl ⟨by decide, by decide⟩ (i := 2) rfl (by first | decide | (simp; done)) ge_b71 (fun _ Ar q => Sto.ofV Ar q O71_ (Ins.self r87_0)) (hb hby at_67) (fun T89 h89 lc89 X89 e89 N89 W89 V89 => ?_)
    have E90_b73 := E88_b73.wr W89
    have E90_b79 := E88_b79.wr W89
    have E90_b85 := r87_0.wr W89
    have O90 := O88.wr W89 ge_b71
    have V89' : Arv Z h89 b71 k71 (.object "com/example/gantry/gantry/resolver/LocalCopy") (3 : Int32) [(.ref b73), (.ref b79), (.ref b85)] .null := V89
    refine own_new X89 hx hZ hown (hw _ (List.mem_of_getElem? (i := 25) rfl)) (hw _ (List.mem_of_getElem? (i := 26) rfl)) (hw _ (List.mem_of_getElem? (i := 27) rfl)) e89 (hb hby at_68) (by decide) (by decide) (fun T91 h91 b91 g91 X91 e91 E91 A91 D91 => ?_)
    have ne_b71_b91 : b71 ≠ b91 := Nat.ne_of_lt (Nat.lt_of_lt_of_le V89'.lt (Nat.le_of_eq g91.symm))
    have ge_b91 : n0 ≤ b91 := Nat.le_trans (own_sz O90) (Nat.le_of_eq g91.symm)
    have E92_b73 := E90_b73.ext E91
    have E92_b79 := E90_b79.ext E91
    have E92_b85 := E90_b85.ext E91
    have A92_b71 := V89'.ext E91
    have O92 := O90.ext E91
    have F91_modCount_b91 : Fld Z h91 b91 "java/util/AbstractList" "modCount" "I" (.int (0 : Int32)) := D91 (Or.inl (hw _ (List.mem_of_getElem? (i := 45) rfl))) (ty := .int) (by decide)
    have F91_elementData_b91 : Fld Z h91 b91 "java/util/ArrayList" "elementData" "[Ljava/lang/Object;" .null := D91 (Or.inl (hw _ (List.mem_of_getElem? (i := 48) rfl))) (ty := (.array (.object "java/lang/Object"))) (by decide)
    have F91_size_b91 : Fld Z h91 b91 "java/util/ArrayList" "size" "I" (.int (0 : Int32)) := D91 (Or.inl (hw _ (List.mem_of_getElem? (i := 57) rfl))) (ty := .int) (by decide)
    refine own_dup X91 hx (hb hby at_71) rfl ?_
    refine own_special X91 hx hZ hown (y := (⟨"java/util/ArrayList", "<init>", "()V"⟩ : MethodName)) rfl (hw _ (List.mem_of_getElem? (i := 28) rfl)) (hw _ (List.mem_of_getElem? (i := 29) rfl)) (hw _ (List.mem_of_getElem? (i := 27) rfl)) (hw _ (List.mem_of_getElem? (i := 30) rfl)) (a := b91) (by decide) (W := 1) (by decide) (by decide) N89 e91 (by rw [hml]; rfl) (argsL := []) (rest := [(.ref b91)]) (lenOf pd_0 rfl) (Nat.le_of_eq rfl) (by decide) (by decide) (rm4 l Z a0 hw [] b91 ((.int (0 : Int32))) (.null) w_EMPTY_ELEMENTDATA w_DEFAULTCAPACITY_EMPTY_ELEMENTDATA w_EMPTY w_EMPTY_LIST k_w_EMPTY_ELEMENTDATA k_w_DEFAULTCAPACITY_EMPTY_ELEMENTDATA w_mir w_els k_els h91 n0 O92 ⟨z0, z1, z2, z3, z4, z5, z6, z7, z8, z9, z10, z11, zm, z13, z14, trivial⟩ A91 F91_modCount_b91 F91_elementData_b91 F91_size_b91 ge_b91) rfl (hb hby at_72) ?_
    intro v93 T93 lc93 X93 N93 hQ93
    obtain ⟨rfl, K93, r93_0, r93_1, r93_2, r93_3⟩ := hQ93
    have E94_b73 := E92_b73.keep K93
    have E94_b79 := E92_b79.keep K93
    have E94_b85 := E92_b85.keep K93
    have A94_b71 := A92_b71.keep K93 (ninS ne_b71_b91 nin0)
    have O94 := O92.keep K93 (allS ge_b91 all0)
    refine own_astore X93 hx (Ls' := #[.val (.int p1), .val (.int p2), .val (.int p3), .val (.int (((p1 &&& (2147483647 : Int32)) % (3 : Int32)) + (1 : Int32))), .val (.int ((p2 &&& (2147483647 : Int32)) % (3 : Int32))), .val (.ref b71), .val (.ref b91), .unset, .unset, .unset]) (hb hby at_75) rfl rfl ?_
    refine own_aload X93 hx (hb hby at_77) rfl rfl ?_
    refine own_aload X93 hx (hb hby at_79) rfl rfl ?_
    show Goes _ _ _ _ _ _ (T93.setTop (mkF m 81 #[.val (.int p1), .val (.int p2), .val (.int p3), .val (.int (((p1 &&& (2147483647 : Int32)) % (3 : Int32)) + (1 : Int32))), .val (.int ((p2 &&& (2147483647 : Int32)) % (3 : Int32))), .val (.ref b71), .val (.ref b91), .unset, .unset, .unset] [(.ref b71), (.ref b91)]))
    refine own_iload X93 hx (hb hby at_81) rfl ?_
    show Goes _ _ _ _ _ _ (T93.setTop (mkF m 83 #[.val (.int p1), .val (.int p2), .val (.int p3), .val (.int (((p1 &&& (2147483647 : Int32)) % (3 : Int32)) + (1 : Int32))), .val (.int ((p2 &&& (2147483647 : Int32)) % (3 : Int32))), .val (.ref b71), .val (.ref b91), .unset, .unset, .unset] [(.int ((p2 &&& (2147483647 : Int32)) % (3 : Int32))), (.ref b71), (.ref b91)]))
    obtain ⟨y95, hy95, hE95⟩ := own_pick (j := ((p2 &&& (2147483647 : Int32)) % (3 : Int32))) (own_p0 p2) E94_b73 E94_b79 E94_b85
    refine own_aaload X93 hx hZ rfl A94_b71 rfl (own_ix (own_p0 p2)) (v := .ref y95) hy95 (hb hby at_83) ?_
    refine own_virtual X93 hx hZ hown (y := (⟨"java/util/ArrayList", "add", "(Ljava/lang/Object;)Z"⟩ : MethodName)) (z := (⟨"java/util/ArrayList", "add", "(Ljava/lang/Object;)Z"⟩ : MethodName)) (hw _ (List.mem_of_getElem? (i := 49) rfl)) (hw _ (List.mem_of_getElem? (i := 50) rfl)) (notFace_of_selects (args := #[]) (mvT hZ (hw _ (List.mem_of_getElem? (i := 52) rfl)))) (hw _ (List.mem_of_getElem? (i := 52) rfl)) (hw _ (List.mem_of_getElem? (i := 51) rfl)) (hw _ (List.mem_of_getElem? (i := 27) rfl)) (hw _ (List.mem_of_getElem? (i := 53) rfl)) (a := b91) r93_0 (by decide) (W := 0) (by decide) (by decide) N93 rfl (by rw [hml]; rfl) (argsL := [(.ref y95)]) (rest := []) (lenOf pd_18 rfl) (Nat.le_of_eq rfl) (by decide) (by decide) (rm7gL l Z a0 hw [] b91 y95 (0 : Int32) w_EMPTY_ELEMENTDATA w_DEFAULTCAPACITY_EMPTY_ELEMENTDATA w_EMPTY w_EMPTY_LIST k_w_EMPTY_ELEMENTDATA k_w_DEFAULTCAPACITY_EMPTY_ELEMENTDATA w_mir w_els k_els T93.heap n0 O94 ⟨z0, z1, z2, z3, z4, z5, z6, z7, z8, z9, z10, z11, zm, z13, z14, trivial⟩ r93_0 r93_1 r93_2 r93_3 ge_b91 hE95) rfl (hb hby at_84) ?_
    intro v96 T96 lc96 X96 N96 hQ96
    obtain ⟨b_96, k_96, rfl, K96, r96_0, r96_1, r96_2, r96_3, r96_4, r96_5, r96_6, r96_7⟩ := hQ96
    have E97_b73 := E94_b73.keep K96
    have E97_b79 := E94_b79.keep K96
    have E97_b85 := E94_b85.keep K96
    have E97_y95 := hE95.keep K96
    have A97_b71 := A94_b71.keep K96 (ninS ne_b71_b91 nin0)
    have O97 := O94.keep K96 (allS ge_b91 all0)
    have ne_b71_b_96 : b71 ≠ b_96 := Nat.ne_of_lt (Nat.lt_of_lt_of_le A94_b71.lt r96_6)
    have ge_b_96 : n0 ≤ b_96 := Nat.le_trans (own_sz O94) r96_6
    refine own_pop X96 hx (hb hby at_87) rfl ?_
    refine own_iloadN X96 hx (hb hby at_88) rfl ?_
    refine own_iconst X96 hx (v := (1 : Int32)) (hb hby at_89) rfl ?_
    show Goes _ _ _ _ _ _ (T96.setTop (mkF m 90 #[.val (.int p1), .val (.int p2), .val (.int p3), .val (.int (((p1 &&& (2147483647 : Int32)) % (3 : Int32)) + (1 : Int32))), .val (.int ((p2 &&& (2147483647 : Int32)) % (3 : Int32))), .val (.ref b71), .val (.ref b91), .unset, .unset, .unset] [(.int (1 : Int32)), (.int (((p1 &&& (2147483647 : Int32)) % (3 : Int32)) + (1 : Int32)))]))
    refine own_icmpNo X96 hx (hb hby at_90) (tlt ((by first | (rw [hn]; done) | (rw [hn]; decide)) : (1 : Int32) < (((p1 &&& (2147483647 : Int32)) % (3 : Int32)) + (1 : Int32)))).2.2.2 ?_
    refine own_aload X96 hx (hb hby at_93) rfl rfl ?_
    refine own_aload X96 hx (hb hby at_95) rfl rfl ?_
    refine own_iload X96 hx (hb hby at_97) rfl ?_
    show Goes _ _ _ _ _ _ (T96.setTop (mkF m 99 #[.val (.int p1), .val (.int p2), .val (.int p3), .val (.int (((p1 &&& (2147483647 : Int32)) % (3 : Int32)) + (1 : Int32))), .val (.int ((p2 &&& (2147483647 : Int32)) % (3 : Int32))), .val (.ref b71), .val (.ref b91), .unset, .unset, .unset] [(.int ((p2 &&& (2147483647 : Int32)) % (3 : Int32))), (.ref b71), (.ref b91)]))
    refine own_iconst X96 hx (v := (1 : Int32)) (hb hby at_99) rfl ?_
    refine own_iadd X96 hx (hb hby at_100) ?_
    refine own_iconst X96 hx (v := (3 : Int32)) (hb hby at_101) rfl ?_
    refine own_irem X96 hx (hb hby at_102) (by decide) ?_
    show Goes _ _ _ _ _ _ (T96.setTop (mkF m 103 #[.val (.int p1), .val (.int p2), .val (.int p3), .val (.int (((p1 &&& (2147483647 : Int32)) % (3 : Int32)) + (1 : Int32))), .val (.int ((p2 &&& (2147483647 : Int32)) % (3 : Int32))), .val (.ref b71), .val (.ref b91), .unset, .unset, .unset] [(.int ((((p2 &&& (2147483647 : Int32)) % (3 : Int32)) + (1 : Int32)) % (3 : Int32))), (.ref b71), (.ref b91)]))
    obtain ⟨y98, hy98, hE98⟩ := own_pick (j := ((((p2 &&& (2147483647 : Int32)) % (3 : Int32)) + (1 : Int32)) % (3 : Int32))) (own_pk p2 (1 : Int32) (by decide)) E97_b73 E97_b79 E97_b85
    refine own_aaload X96 hx hZ rfl A97_b71 rfl (own_ix (own_pk p2 (1 : Int32) (by decide))) (v := .ref y98) hy98 (hb hby at_103) ?_
    refine own_virtual X96 hx hZ hown (y := (⟨"java/util/ArrayList", "add", "(Ljava/lang/Object;)Z"⟩ : MethodName)) (z := (⟨"java/util/ArrayList", "add", "(Ljava/lang/Object;)Z"⟩ : MethodName)) (hw _ (List.mem_of_getElem? (i := 49) rfl)) (hw _ (List.mem_of_getElem? (i := 50) rfl)) (notFace_of_selects (args := #[]) (mvT hZ (hw _ (List.mem_of_getElem? (i := 52) rfl)))) (hw _ (List.mem_of_getElem? (i := 52) rfl)) (hw _ (List.mem_of_getElem? (i := 51) rfl)) (hw _ (List.mem_of_getElem? (i := 27) rfl)) (hw _ (List.mem_of_getElem? (i := 53) rfl)) (a := b91) r96_0 (by decide) (W := 0) (by decide) (by decide) N96 rfl (by rw [hml]; rfl) (argsL := [(.ref y98)]) (rest := []) (lenOf pd_18 rfl) (Nat.le_of_eq rfl) (by decide) (by decide) (rm7r1 l Z a0 hw [] b91 y98 ((0 : Int32) + (1 : Int32)) b_96 k_96 y95 w_EMPTY_ELEMENTDATA w_DEFAULTCAPACITY_EMPTY_ELEMENTDATA w_EMPTY w_EMPTY_LIST k_w_EMPTY_ELEMENTDATA k_w_DEFAULTCAPACITY_EMPTY_ELEMENTDATA w_mir w_els k_els T96.heap n0 O97 ⟨z0, z1, z2, z3, z4, z5, z6, z7, z8, z9, z10, z11, zm, z13, z14, trivial⟩ r96_0 r96_1 r96_2 r96_3 r96_4 r96_5 ge_b91 ge_b_96 r96_7 hE98) rfl (hb hby at_104) ?_
    intro v99 T99 lc99 X99 N99 hQ99
    obtain ⟨rfl, K99, r99_0, r99_1, r99_2, r99_3, r99_4, r99_5⟩ := hQ99
    have E100_b73 := E97_b73.keep K99
    have E100_b79 := E97_b79.keep K99
    have E100_b85 := E97_b85.keep K99
    have E100_y95 := E97_y95.keep K99
    have E100_y98 := hE98.keep K99
    have A100_b71 := A97_b71.keep K99 (ninS ne_b71_b91 (ninS ne_b71_b_96 nin0))
    have O100 := O97.keep K99 (allS ge_b91 (allS ge_b_96 all0))
    refine own_pop X99 hx (hb hby at_107) rfl ?_
    refine own_iloadN X99 hx (hb hby at_108) rfl ?_
    refine own_iconst X99 hx (v := (2 : Int32)) (hb hby at_109) rfl ?_
    show Goes _ _ _ _ _ _ (T99.setTop (mkF m 110 #[.val (.int p1), .val (.int p2), .val (.int p3), .val (.int (((p1 &&& (2147483647 : Int32)) % (3 : Int32)) + (1 : Int32))), .val (.int ((p2 &&& (2147483647 : Int32)) % (3 : Int32))), .val (.ref b71), .val (.ref b91), .unset, .unset, .unset] [(.int (2 : Int32)), (.int (((p1 &&& (2147483647 : Int32)) % (3 : Int32)) + (1 : Int32)))]))
    refine own_icmpYes X99 hx (pc' := 128) (hb hby at_110) (flt ((by first | (rw [hn]; done) | (rw [hn]; decide)) : ¬ ((2 : Int32) < (((p1 &&& (2147483647 : Int32)) % (3 : Int32)) + (1 : Int32))))).2.2.2 (by decide) (by decide) ?_
    refine own_new X99 hx hZ hown (hw _ (List.mem_of_getElem? (i := 25) rfl)) (hw _ (List.mem_of_getElem? (i := 26) rfl)) (hw _ (List.mem_of_getElem? (i := 27) rfl)) rfl (hb hby at_128) (by decide) (by decide) (fun T101 h101 b101 g101 X101 e101 E101 A101 D101 => ?_)
    have ne_b71_b101 : b71 ≠ b101 := Nat.ne_of_lt (Nat.lt_of_lt_of_le A100_b71.lt (Nat.le_of_eq g101.symm))
    have ne_b_96_b101 : b_96 ≠ b101 := Nat.ne_of_lt (Nat.lt_of_lt_of_le r99_5.lt (Nat.le_of_eq g101.symm))
    have ne_b91_b101 : b91 ≠ b101 := Nat.ne_of_lt (Nat.lt_of_lt_of_le r99_0.lt (Nat.le_of_eq g101.symm))
    have ge_b101 : n0 ≤ b101 := Nat.le_trans (own_sz O100) (Nat.le_of_eq g101.symm)
    have E102_b73 := E100_b73.ext E101
    have E102_b79 := E100_b79.ext E101
    have E102_b85 := E100_b85.ext E101
    have E102_b91 := r99_0.ext E101
    have E102_y95 := E100_y95.ext E101
    have E102_b_96 := r99_5.ext E101
    have E102_y98 := E100_y98.ext E101
    have F102_modCount_b91 := r99_1.ext E101
    have F102_elementData_b91 := r99_2.ext E101
    have F102_size_b91 := r99_3.ext E101
    have A102_b71 := A100_b71.ext E101
    have A102_b_96 := r99_4.ext E101
    have O102 := O100.ext E101
    have F101_modCount_b101 : Fld Z h101 b101 "java/util/AbstractList" "modCount" "I" (.int (0 : Int32)) := D101 (Or.inl (hw _ (List.mem_of_getElem? (i := 45) rfl))) (ty := .int) (by decide)
    have F101_elementData_b101 : Fld Z h101 b101 "java/util/ArrayList" "elementData" "[Ljava/lang/Object;" .null := D101 (Or.inl (hw _ (List.mem_of_getElem? (i := 48) rfl))) (ty := (.array (.object "java/lang/Object"))) (by decide)
    have F101_size_b101 : Fld Z h101 b101 "java/util/ArrayList" "size" "I" (.int (0 : Int32)) := D101 (Or.inl (hw _ (List.mem_of_getElem? (i := 57) rfl))) (ty := .int) (by decide)
    refine own_dup X101 hx (hb hby at_131) rfl ?_
    refine own_special X101 hx hZ hown (y := (⟨"java/util/ArrayList", "<init>", "()V"⟩ : MethodName)) rfl (hw _ (List.mem_of_getElem? (i := 28) rfl)) (hw _ (List.mem_of_getElem? (i := 29) rfl)) (hw _ (List.mem_of_getElem? (i := 27) rfl)) (hw _ (List.mem_of_getElem? (i := 30) rfl)) (a := b101) (by decide) (W := 1) (by decide) (by decide) N99 e101 (by rw [hml]; rfl) (argsL := []) (rest := [(.ref b101)]) (lenOf pd_0 rfl) (Nat.le_of_eq rfl) (by decide) (by decide) (rm4 l Z a0 hw [] b101 ((.int (0 : Int32))) (.null) w_EMPTY_ELEMENTDATA w_DEFAULTCAPACITY_EMPTY_ELEMENTDATA w_EMPTY w_EMPTY_LIST k_w_EMPTY_ELEMENTDATA k_w_DEFAULTCAPACITY_EMPTY_ELEMENTDATA w_mir w_els k_els h101 n0 O102 ⟨z0, z1, z2, z3, z4, z5, z6, z7, z8, z9, z10, z11, zm, z13, z14, trivial⟩ A101 F101_modCount_b101 F101_elementData_b101 F101_size_b101 ge_b101) rfl (hb hby at_132) ?_
    intro v103 T103 lc103 X103 N103 hQ103
    obtain ⟨rfl, K103, r103_0, r103_1, r103_2, r103_3⟩ := hQ103
    have E104_b73 := E102_b73.keep K103
    have E104_b79 := E102_b79.keep K103
    have E104_b85 := E102_b85.keep K103
    have E104_b91 := E102_b91.keep K103
    have E104_y95 := E102_y95.keep K103
    have E104_b_96 := E102_b_96.keep K103
    have E104_y98 := E102_y98.keep K103
    have F104_modCount_b91 := F102_modCount_b91.keep K103 (ninS ne_b91_b101 nin0)
    have F104_elementData_b91 := F102_elementData_b91.keep K103 (ninS ne_b91_b101 nin0)
    have F104_size_b91 := F102_size_b91.keep K103 (ninS ne_b91_b101 nin0)
    have A104_b71 := A102_b71.keep K103 (ninS ne_b71_b101 nin0)
    have A104_b_96 := A102_b_96.keep K103 (ninS ne_b_96_b101 nin0)
    have O104 := O102.keep K103 (allS ge_b101 all0)
    refine own_astore X103 hx (Ls' := #[.val (.int p1), .val (.int p2), .val (.int p3), .val (.int (((p1 &&& (2147483647 : Int32)) % (3 : Int32)) + (1 : Int32))), .val (.int ((p2 &&& (2147483647 : Int32)) % (3 : Int32))), .val (.ref b71), .val (.ref b91), .val (.ref b101), .unset, .unset]) (hb hby at_135) rfl rfl ?_
    refine own_aload X103 hx (hb hby at_137) rfl rfl ?_
    refine own_new X103 hx hZ hown (hw _ (List.mem_of_getElem? (i := 80) rfl)) (hw _ (List.mem_of_getElem? (i := 81) rfl)) (hw _ (List.mem_of_getElem? (i := 82) rfl)) rfl (hb hby at_139) (by decide) (by decide) (fun T105 h105 b105 g105 X105 e105 E105 A105 D105 => ?_)
    have ne_b101_b105 : b101 ≠ b105 := Nat.ne_of_lt (Nat.lt_of_lt_of_le r103_0.lt (Nat.le_of_eq g105.symm))
    have ne_b71_b105 : b71 ≠ b105 := Nat.ne_of_lt (Nat.lt_of_lt_of_le A104_b71.lt (Nat.le_of_eq g105.symm))
    have ne_b_96_b105 : b_96 ≠ b105 := Nat.ne_of_lt (Nat.lt_of_lt_of_le E104_b_96.lt (Nat.le_of_eq g105.symm))
    have ne_b91_b105 : b91 ≠ b105 := Nat.ne_of_lt (Nat.lt_of_lt_of_le E104_b91.lt (Nat.le_of_eq g105.symm))
    have ge_b105 : n0 ≤ b105 := Nat.le_trans (own_sz O104) (Nat.le_of_eq g105.symm)
    have E106_b73 := E104_b73.ext E105
    have E106_b79 := E104_b79.ext E105
    have E106_b85 := E104_b85.ext E105
    have E106_b91 := E104_b91.ext E105
    have E106_y95 := E104_y95.ext E105
    have E106_b_96 := E104_b_96.ext E105
    have E106_y98 := E104_y98.ext E105
    have E106_b101 := r103_0.ext E105
    have F106_modCount_b91 := F104_modCount_b91.ext E105
    have F106_elementData_b91 := F104_elementData_b91.ext E105
    have F106_size_b91 := F104_size_b91.ext E105
    have F106_modCount_b101 := r103_1.ext E105
    have F106_elementData_b101 := r103_2.ext E105
    have F106_size_b101 := r103_3.ext E105
    have A106_b71 := A104_b71.ext E105
    have A106_b_96 := A104_b_96.ext E105
    have O106 := O104.ext E105
    have F105_location_b105 : Fld Z h105 b105 "com/example/gantry/gantry/resolver/Resolution$Jar" "location" "Ljava/net/URI;" .null := D105 (Or.inr (hw _ (List.mem_of_getElem? (i := 88) rfl))) (ty := (.object "java/net/URI")) (by decide)
    have F105_namedBy_b105 : Fld Z h105 b105 "com/example/gantry/gantry/resolver/Resolution$Jar" "namedBy" "Lcom/example/gantry/gantry/resolver/LocalCopy;" .null := D105 (Or.inr (hw _ (List.mem_of_getElem? (i := 90) rfl))) (ty := (.object "com/example/gantry/gantry/resolver/LocalCopy")) (by decide)
    refine own_dup X105 hx (hb hby at_142) rfl ?_
    refine own_aconst_null X105 hx (hb hby at_143) ?_
    refine own_aload X105 hx (hb hby at_144) rfl rfl ?_
    show Goes _ _ _ _ _ _ (T105.setTop (mkF m 146 #[.val (.int p1), .val (.int p2), .val (.int p3), .val (.int (((p1 &&& (2147483647 : Int32)) % (3 : Int32)) + (1 : Int32))), .val (.int ((p2 &&& (2147483647 : Int32)) % (3 : Int32))), .val (.ref b71), .val (.ref b91), .val (.ref b101), .unset, .unset] [(.ref b71), .null, (.ref b105), (.ref b105), (.ref b101)]))
    refine own_iload X105 hx (hb hby at_146) rfl ?_
    refine own_iloadN X105 hx (hb hby at_148) rfl ?_
    refine own_iadd X105 hx (hb hby at_149) ?_
    refine own_iconst X105 hx (v := (1 : Int32)) (hb hby at_150) rfl ?_
    refine own_isub X105 hx (hb hby at_151) ?_
    refine own_iconst X105 hx (v := (3 : Int32)) (hb hby at_152) rfl ?_
    refine own_irem X105 hx (hb hby at_153) (by decide) ?_
    show Goes _ _ _ _ _ _ (T105.setTop (mkF m 154 #[.val (.int p1), .val (.int p2), .val (.int p3), .val (.int (((p1 &&& (2147483647 : Int32)) % (3 : Int32)) + (1 : Int32))), .val (.int ((p2 &&& (2147483647 : Int32)) % (3 : Int32))), .val (.ref b71), .val (.ref b91), .val (.ref b101), .unset, .unset] [(.int (((((p2 &&& (2147483647 : Int32)) % (3 : Int32)) + (((p1 &&& (2147483647 : Int32)) % (3 : Int32)) + (1 : Int32))) - (1 : Int32)) % (3 : Int32))), (.ref b71), .null, (.ref b105), (.ref b105), (.ref b101)]))
    obtain ⟨y107, hy107, hE107⟩ := own_pick (j := (((((p2 &&& (2147483647 : Int32)) % (3 : Int32)) + (((p1 &&& (2147483647 : Int32)) % (3 : Int32)) + (1 : Int32))) - (1 : Int32)) % (3 : Int32))) (own_pn p2 p1) E106_b73 E106_b79 E106_b85
    refine own_aaload X105 hx hZ e105 A106_b71 rfl (own_ix (own_pn p2 p1)) (v := .ref y107) hy107 (hb hby at_154) ?_
    refine own_special X105 hx hZ hown (y := (⟨"com/example/gantry/gantry/resolver/Resolution$Jar", "<init>", "(Ljava/net/URI;Lcom/example/gantry/gantry/resolver/LocalCopy;)V"⟩ : MethodName)) rfl (hw _ (List.mem_of_getElem? (i := 83) rfl)) (hw _ (List.mem_of_getElem? (i := 84) rfl)) (hw _ (List.mem_of_getElem? (i := 82) rfl)) (hw _ (List.mem_of_getElem? (i := 85) rfl)) (a := b105) (by decide) (W := 2) (by decide) (by decide) N103 e105 (by rw [hml]; rfl) (argsL := [.null, (.ref y107)]) (rest := [(.ref b105), (.ref b101)]) (lenOf pd_19 rfl) (Nat.le_of_eq rfl) (by decide) (by decide) (rm12 l Z a0 hw [] b105 y107 (.null) (.null) h105 n0 O106 A105 F105_location_b105 F105_namedBy_b105 ge_b105) rfl (hb hby at_155) ?_
    intro v108 T108 lc108 X108 N108 hQ108
    obtain ⟨rfl, K108, r108_0⟩ := hQ108
    have E109_b91 := E106_b91.keep K108
    have E109_y95 := E106_y95.keep K108
    have E109_b_96 := E106_b_96.keep K108
    have E109_y98 := E106_y98.keep K108
    have E109_b101 := E106_b101.keep K108
    have F109_modCount_b91 := F106_modCount_b91.keep K108 (ninS ne_b91_b105 nin0)
    have F109_elementData_b91 := F106_elementData_b91.keep K108 (ninS ne_b91_b105 nin0)
    have F109_size_b91 := F106_size_b91.keep K108 (ninS ne_b91_b105 nin0)
    have F109_modCount_b101 := F106_modCount_b101.keep K108 (ninS ne_b101_b105 nin0)
    have F109_elementData_b101 := F106_elementData_b101.keep K108 (ninS ne_b101_b105 nin0)
    have F109_size_b101 := F106_size_b101.keep K108 (ninS ne_b101_b105 nin0)
    have A109_b71 := A106_b71.keep K108 (ninS ne_b71_b105 nin0)
    have A109_b_96 := A106_b_96.keep K108 (ninS ne_b_96_b105 nin0)
    have O109 := O106.keep K108 (allS ge_b105 all0)
    refine own_virtual X108 hx hZ hown (y := (⟨"java/util/ArrayList", "add", "(Ljava/lang/Object;)Z"⟩ : MethodName)) (z := (⟨"java/util/ArrayList", "add", "(Ljava/lang/Object;)Z"⟩ : MethodName)) (hw _ (List.mem_of_getElem? (i := 49) rfl)) (hw _ (List.mem_of_getElem? (i := 50) rfl)) (notFace_of_selects (args := #[]) (mvT hZ (hw _ (List.mem_of_getElem? (i := 52) rfl)))) (hw _ (List.mem_of_getElem? (i := 52) rfl)) (hw _ (List.mem_of_getElem? (i := 51) rfl)) (hw _ (List.mem_of_getElem? (i := 27) rfl)) (hw _ (List.mem_of_getElem? (i := 53) rfl)) (a := b101) E109_b101 (by decide) (W := 0) (by decide) (by decide) N108 rfl (by rw [hml]; rfl) (argsL := [(.ref b105)]) (rest := []) (lenOf pd_18 rfl) (Nat.le_of_eq rfl) (by decide) (by decide) (rm7gJ l Z a0 hw [] b101 b105 (0 : Int32) w_EMPTY_ELEMENTDATA w_DEFAULTCAPACITY_EMPTY_ELEMENTDATA w_EMPTY w_EMPTY_LIST k_w_EMPTY_ELEMENTDATA k_w_DEFAULTCAPACITY_EMPTY_ELEMENTDATA w_mir w_els k_els T108.heap n0 O109 ⟨z0, z1, z2, z3, z4, z5, z6, z7, z8, z9, z10, z11, zm, z13, z14, trivial⟩ E109_b101 F109_modCount_b101 F109_elementData_b101 F109_size_b101 ge_b101 r108_0) rfl (hb hby at_158) ?_
    intro v110 T110 lc110 X110 N110 hQ110
    obtain ⟨b_110, k_110, rfl, K110, r110_0, r110_1, r110_2, r110_3, r110_4, r110_5, r110_6, r110_7⟩ := hQ110
    have E111_b91 := E109_b91.keep K110
    have E111_y95 := E109_y95.keep K110
    have E111_b_96 := E109_b_96.keep K110
    have E111_y98 := E109_y98.keep K110
    have E111_b105 := r108_0.keep K110
    have F111_modCount_b91 := F109_modCount_b91.keep K110 (ninS ne_b91_b101 nin0)
    have F111_elementData_b91 := F109_elementData_b91.keep K110 (ninS ne_b91_b101 nin0)
    have F111_size_b91 := F109_size_b91.keep K110 (ninS ne_b91_b101 nin0)
    have A111_b71 := A109_b71.keep K110 (ninS ne_b71_b101 nin0)
    have A111_b_96 := A109_b_96.keep K110 (ninS ne_b_96_b101 nin0)
    have O111 := O109.keep K110 (allS ge_b101 all0)
    have ge_b_110 : n0 ≤ b_110 := Nat.le_trans (own_sz O109) r110_6
    refine own_pop X110 hx (hb hby at_161) rfl ?_
    refine own_new X110 hx hZ hown (hw _ (List.mem_of_getElem? (i := 92) rfl)) (hw _ (List.mem_of_getElem? (i := 93) rfl)) (hw _ (List.mem_of_getElem? (i := 94) rfl)) rfl (hb hby at_162) (by decide) (by decide) (fun T112 h112 b112 g112 X112 e112 E112 A112 D112 => ?_)
    have ne_b101_b112 : b101 ≠ b112 := Nat.ne_of_lt (Nat.lt_of_lt_of_le r110_0.lt (Nat.le_of_eq g112.symm))
    have ne_b_110_b112 : b_110 ≠ b112 := Nat.ne_of_lt (Nat.lt_of_lt_of_le r110_5.lt (Nat.le_of_eq g112.symm))
    have ne_b71_b112 : b71 ≠ b112 := Nat.ne_of_lt (Nat.lt_of_lt_of_le A111_b71.lt (Nat.le_of_eq g112.symm))
    have ne_b_96_b112 : b_96 ≠ b112 := Nat.ne_of_lt (Nat.lt_of_lt_of_le E111_b_96.lt (Nat.le_of_eq g112.symm))
    have ne_b91_b112 : b91 ≠ b112 := Nat.ne_of_lt (Nat.lt_of_lt_of_le E111_b91.lt (Nat.le_of_eq g112.symm))
    have ge_b112 : n0 ≤ b112 := Nat.le_trans (own_sz O111) (Nat.le_of_eq g112.symm)
    have E113_b91 := E111_b91.ext E112
    have E113_y95 := E111_y95.ext E112
    have E113_b_96 := E111_b_96.ext E112
    have E113_y98 := E111_y98.ext E112
    have E113_b101 := r110_0.ext E112
    have E113_b105 := E111_b105.ext E112
    have E113_b_110 := r110_5.ext E112
    have F113_modCount_b91 := F111_modCount_b91.ext E112
    have F113_elementData_b91 := F111_elementData_b91.ext E112
    have F113_size_b91 := F111_size_b91.ext E112
    have F113_elementData_b101 := r110_2.ext E112
    have F113_size_b101 := r110_3.ext E112
    have A113_b71 := A111_b71.ext E112
    have A113_b_96 := A111_b_96.ext E112
    have A113_b_110 := r110_4.ext E112
    have O113 := O111.ext E112
    have F112_descriptors_b112 : Fld Z h112 b112 "com/example/gantry/gantry/resolver/Resolution" "descriptors" "Ljava/util/List;" .null := D112 (Or.inr (hw _ (List.mem_of_getElem? (i := 199) rfl))) (ty := (.object "java/util/List")) (by decide)
    have F112_mainClass_b112 : Fld Z h112 b112 "com/example/gantry/gantry/resolver/Resolution" "mainClass" "Ljava/util/Optional;" .null := D112 (Or.inr (hw _ (List.mem_of_getElem? (i := 201) rfl))) (ty := (.object "java/util/Optional")) (by decide)
    have F112_arguments_b112 : Fld Z h112 b112 "com/example/gantry/gantry/resolver/Resolution" "arguments" "Ljava/util/List;" .null := D112 (Or.inr (hw _ (List.mem_of_getElem? (i := 203) rfl))) (ty := (.object "java/util/List")) (by decide)
    have F112_allPermissions_b112 : Fld Z h112 b112 "com/example/gantry/gantry/resolver/Resolution" "allPermissions" "Z" (.int (0 : Int32)) := D112 (Or.inr (hw _ (List.mem_of_getElem? (i := 205) rfl))) (ty := .boolean) (by decide)
    have F112_javaRequests_b112 : Fld Z h112 b112 "com/example/gantry/gantry/resolver/Resolution" "javaRequests" "Ljava/util/List;" .null := D112 (Or.inr (hw _ (List.mem_of_getElem? (i := 207) rfl))) (ty := (.object "java/util/List")) (by decide)
    have F112_jars_b112 : Fld Z h112 b112 "com/example/gantry/gantry/resolver/Resolution" "jars" "Ljava/util/List;" .null := D112 (Or.inr (hw _ (List.mem_of_getElem? (i := 209) rfl))) (ty := (.object "java/util/List")) (by decide)
    have F112_nativeLibraries_b112 : Fld Z h112 b112 "com/example/gantry/gantry/resolver/Resolution" "nativeLibraries" "Ljava/util/List;" .null := D112 (Or.inr (hw _ (List.mem_of_getElem? (i := 211) rfl))) (ty := (.object "java/util/List")) (by decide)
    have F112_properties_b112 : Fld Z h112 b112 "com/example/gantry/gantry/resolver/Resolution" "properties" "Ljava/util/List;" .null := D112 (Or.inr (hw _ (List.mem_of_getElem? (i := 213) rfl))) (ty := (.object "java/util/List")) (by decide)
    refine own_dup X112 hx (hb hby at_165) rfl ?_
    refine own_aload X112 hx (hb hby at_166) rfl rfl ?_
    refine own_aconst_null X112 hx (hb hby at_168) ?_
    show Goes _ _ _ _ _ _ (T112.setTop (mkF m 169 #[.val (.int p1), .val (.int p2), .val (.int p3), .val (.int (((p1 &&& (2147483647 : Int32)) % (3 : Int32)) + (1 : Int32))), .val (.int ((p2 &&& (2147483647 : Int32)) % (3 : Int32))), .val (.ref b71), .val (.ref b91), .val (.ref b101), .unset, .unset] [.null, (.ref b91), (.ref b112), (.ref b112)]))
    refine own_new X112 hx hZ hown (hw _ (List.mem_of_getElem? (i := 25) rfl)) (hw _ (List.mem_of_getElem? (i := 26) rfl)) (hw _ (List.mem_of_getElem? (i := 27) rfl)) e112 (hb hby at_169) (by decide) (by decide) (fun T114 h114 b114 g114 X114 e114 E114 A114 D114 => ?_)
    have ne_b101_b114 : b101 ≠ b114 := Nat.ne_of_lt (Nat.lt_of_lt_of_le E113_b101.lt (Nat.le_of_eq g114.symm))
    have ne_b_110_b114 : b_110 ≠ b114 := Nat.ne_of_lt (Nat.lt_of_lt_of_le E113_b_110.lt (Nat.le_of_eq g114.symm))
    have ne_b71_b114 : b71 ≠ b114 := Nat.ne_of_lt (Nat.lt_of_lt_of_le A113_b71.lt (Nat.le_of_eq g114.symm))
    have ne_b112_b114 : b112 ≠ b114 := Nat.ne_of_lt (Nat.lt_of_lt_of_le A112.lt (Nat.le_of_eq g114.symm))
    have ne_b_96_b114 : b_96 ≠ b114 := Nat.ne_of_lt (Nat.lt_of_lt_of_le E113_b_96.lt (Nat.le_of_eq g114.symm))
    have ne_b91_b114 : b91 ≠ b114 := Nat.ne_of_lt (Nat.lt_of_lt_of_le E113_b91.lt (Nat.le_of_eq g114.symm))
    have ge_b114 : n0 ≤ b114 := Nat.le_trans (own_sz O113) (Nat.le_of_eq g114.symm)
    have E115_b91 := E113_b91.ext E114
    have E115_y95 := E113_y95.ext E114
    have E115_b_96 := E113_b_96.ext E114
    have E115_y98 := E113_y98.ext E114
    have E115_b101 := E113_b101.ext E114
    have E115_b105 := E113_b105.ext E114
    have E115_b_110 := E113_b_110.ext E114
    have E115_b112 := A112.ext E114
    have F115_modCount_b91 := F113_modCount_b91.ext E114
    have F115_elementData_b91 := F113_elementData_b91.ext E114
    have F115_size_b91 := F113_size_b91.ext E114
    have F115_elementData_b101 := F113_elementData_b101.ext E114
    have F115_size_b101 := F113_size_b101.ext E114
    have F115_descriptors_b112 := F112_descriptors_b112.ext E114
    have F115_mainClass_b112 := F112_mainClass_b112.ext E114
    have F115_arguments_b112 := F112_arguments_b112.ext E114
    have F115_allPermissions_b112 := F112_allPermissions_b112.ext E114
    have F115_javaRequests_b112 := F112_javaRequests_b112.ext E114
    have F115_jars_b112 := F112_jars_b112.ext E114
    have F115_nativeLibraries_b112 := F112_nativeLibraries_b112.ext E114
    have F115_properties_b112 := F112_properties_b112.ext E114
    have A115_b71 := A113_b71.ext E114
    have A115_b_96 := A113_b_96.ext E114
    have A115_b_110 := A113_b_110.ext E114
    have O115 := O113.ext E114
    have F114_modCount_b114 : Fld Z h114 b114 "java/util/AbstractList" "modCount" "I" (.int (0 : Int32)) := D114 (Or.inl (hw _ (List.mem_of_getElem? (i := 45) rfl))) (ty := .int) (by decide)
    have F114_elementData_b114 : Fld Z h114 b114 "java/util/ArrayList" "elementData" "[Ljava/lang/Object;" .null := D114 (Or.inl (hw _ (List.mem_of_getElem? (i := 48) rfl))) (ty := (.array (.object "java/lang/Object"))) (by decide)
    have F114_size_b114 : Fld Z h114 b114 "java/util/ArrayList" "size" "I" (.int (0 : Int32)) := D114 (Or.inl (hw _ (List.mem_of_getElem? (i := 57) rfl))) (ty := .int) (by decide)
    refine own_dup X114 hx (hb hby at_172) rfl ?_
    refine own_special X114 hx hZ hown (y := (⟨"java/util/ArrayList", "<init>", "()V"⟩ : MethodName)) rfl (hw _ (List.mem_of_getElem? (i := 28) rfl)) (hw _ (List.mem_of_getElem? (i := 29) rfl)) (hw _ (List.mem_of_getElem? (i := 27) rfl)) (hw _ (List.mem_of_getElem? (i := 30) rfl)) (a := b114) (by decide) (W := 5) (by decide) (by decide) N110 e114 (by rw [hml]; rfl) (argsL := []) (rest := [(.ref b114), .null, (.ref b91), (.ref b112), (.ref b112)]) (lenOf pd_0 rfl) (Nat.le_of_eq rfl) (by decide) (by decide) (rm4 l Z a0 hw [] b114 ((.int (0 : Int32))) (.null) w_EMPTY_ELEMENTDATA w_DEFAULTCAPACITY_EMPTY_ELEMENTDATA w_EMPTY w_EMPTY_LIST k_w_EMPTY_ELEMENTDATA k_w_DEFAULTCAPACITY_EMPTY_ELEMENTDATA w_mir w_els k_els h114 n0 O115 ⟨z0, z1, z2, z3, z4, z5, z6, z7, z8, z9, z10, z11, zm, z13, z14, trivial⟩ A114 F114_modCount_b114 F114_elementData_b114 F114_size_b114 ge_b114) rfl (hb hby at_173) ?_
    intro v116 T116 lc116 X116 N116 hQ116
    obtain ⟨rfl, K116, r116_0, r116_1, r116_2, r116_3⟩ := hQ116
    have E117_b91 := E115_b91.keep K116
    have E117_y95 := E115_y95.keep K116
    have E117_b_96 := E115_b_96.keep K116
    have E117_y98 := E115_y98.keep K116
    have E117_b101 := E115_b101.keep K116
    have E117_b105 := E115_b105.keep K116
    have E117_b_110 := E115_b_110.keep K116
    have E117_b112 := E115_b112.keep K116
    have F117_modCount_b91 := F115_modCount_b91.keep K116 (ninS ne_b91_b114 nin0)
    have F117_elementData_b91 := F115_elementData_b91.keep K116 (ninS ne_b91_b114 nin0)
    have F117_size_b91 := F115_size_b91.keep K116 (ninS ne_b91_b114 nin0)
    have F117_elementData_b101 := F115_elementData_b101.keep K116 (ninS ne_b101_b114 nin0)
    have F117_size_b101 := F115_size_b101.keep K116 (ninS ne_b101_b114 nin0)
    have F117_descriptors_b112 := F115_descriptors_b112.keep K116 (ninS ne_b112_b114 nin0)
    have F117_mainClass_b112 := F115_mainClass_b112.keep K116 (ninS ne_b112_b114 nin0)
    have F117_arguments_b112 := F115_arguments_b112.keep K116 (ninS ne_b112_b114 nin0)
    have F117_allPermissions_b112 := F115_allPermissions_b112.keep K116 (ninS ne_b112_b114 nin0)
    have F117_javaRequests_b112 := F115_javaRequests_b112.keep K116 (ninS ne_b112_b114 nin0)
    have F117_jars_b112 := F115_jars_b112.keep K116 (ninS ne_b112_b114 nin0)
    have F117_nativeLibraries_b112 := F115_nativeLibraries_b112.keep K116 (ninS ne_b112_b114 nin0)
    have F117_properties_b112 := F115_properties_b112.keep K116 (ninS ne_b112_b114 nin0)
    have A117_b71 := A115_b71.keep K116 (ninS ne_b71_b114 nin0)
    have A117_b_96 := A115_b_96.keep K116 (ninS ne_b_96_b114 nin0)
    have A117_b_110 := A115_b_110.keep K116 (ninS ne_b_110_b114 nin0)
    have O117 := O115.keep K116 (allS ge_b114 all0)
    refine own_iloadN X116 hx (hb hby at_176) rfl ?_
    refine own_iconst X116 hx (v := (1 : Int32)) (hb hby at_177) rfl ?_
    refine own_iand X116 hx (hb hby at_178) ?_
    show Goes _ _ _ _ _ _ (T116.setTop (mkF m 179 #[.val (.int p1), .val (.int p2), .val (.int p3), .val (.int (((p1 &&& (2147483647 : Int32)) % (3 : Int32)) + (1 : Int32))), .val (.int ((p2 &&& (2147483647 : Int32)) % (3 : Int32))), .val (.ref b71), .val (.ref b91), .val (.ref b101), .unset, .unset] [(.int (p3 &&& (1 : Int32))), (.ref b114), .null, (.ref b91), (.ref b112), (.ref b112)]))
    have jn187_119 : ∀ (T119 : State) (lc119 : List Loc) (X119 : Stand p l e room_1 s m #[(.int p1), (.int p2), (.int p3)] below meth c T119 lc119 11 54) (N119 : Fr n0 lc119) (e119 : T119.heap = T116.heap) (w119 : Int32) (hj119 : narrow .boolean (.int w119) = .int w119 ∧ fits .boolean (.int w119) = true), Goes p e below (fun o t L => FrameEnd s o t L (48) (256)) n0 (Q0 Z p1 p2 p3 w_EMPTY_ELEMENTDATA w_DEFAULTCAPACITY_EMPTY_ELEMENTDATA w_EMPTY w_EMPTY_LIST k_w_EMPTY_ELEMENTDATA k_w_DEFAULTCAPACITY_EMPTY_ELEMENTDATA w_mir w_els k_els h0 n0) (T119.setTop (mkF m 187 #[.val (.int p1), .val (.int p2), .val (.int p3), .val (.int (((p1 &&& (2147483647 : Int32)) % (3 : Int32)) + (1 : Int32))), .val (.int ((p2 &&& (2147483647 : Int32)) % (3 : Int32))), .val (.ref b71), .val (.ref b91), .val (.ref b101), .unset, .unset] [(.int w119), (.ref b114), .null, (.ref b91), (.ref b112), (.ref b112)])) := by
      intro T119 lc119 X119 N119 e119 w119 hj119
      refine own_new X119 hx hZ hown (hw _ (List.mem_of_getElem? (i := 25) rfl)) (hw _ (List.mem_of_getElem? (i := 26) rfl)) (hw _ (List.mem_of_getElem? (i := 27) rfl)) e119 (hb hby at_187) (by decide) (by decide) (fun T120 h120 b120 g120 X120 e120 E120 A120 D120 => ?_)
      have ne_b101_b120 : b101 ≠ b120 := Nat.ne_of_lt (Nat.lt_of_lt_of_le E117_b101.lt (Nat.le_of_eq g120.symm))
      have ne_b_110_b120 : b_110 ≠ b120 := Nat.ne_of_lt (Nat.lt_of_lt_of_le E117_b_110.lt (Nat.le_of_eq g120.symm))
      have ne_b114_b120 : b114 ≠ b120 := Nat.ne_of_lt (Nat.lt_of_lt_of_le r116_0.lt (Nat.le_of_eq g120.symm))
      have ne_b71_b120 : b71 ≠ b120 := Nat.ne_of_lt (Nat.lt_of_lt_of_le A117_b71.lt (Nat.le_of_eq g120.symm))
      have ne_b112_b120 : b112 ≠ b120 := Nat.ne_of_lt (Nat.lt_of_lt_of_le E117_b112.lt (Nat.le_of_eq g120.symm))
      have ne_b_96_b120 : b_96 ≠ b120 := Nat.ne_of_lt (Nat.lt_of_lt_of_le E117_b_96.lt (Nat.le_of_eq g120.symm))
      have ne_b91_b120 : b91 ≠ b120 := Nat.ne_of_lt (Nat.lt_of_lt_of_le E117_b91.lt (Nat.le_of_eq g120.symm))
      have ge_b120 : n0 ≤ b120 := Nat.le_trans (own_sz O117) (Nat.le_of_eq g120.symm)
      have E121_b91 := E117_b91.ext E120
      have E121_y95 := E117_y95.ext E120
      have E121_b_96 := E117_b_96.ext E120
      have E121_y98 := E117_y98.ext E120
      have E121_b101 := E117_b101.ext E120
      have E121_b105 := E117_b105.ext E120
      have E121_b_110 := E117_b_110.ext E120
      have E121_b112 := E117_b112.ext E120
      have E121_b114 := r116_0.ext E120
      have F121_modCount_b91 := F117_modCount_b91.ext E120
      have F121_elementData_b91 := F117_elementData_b91.ext E120
      have F121_size_b91 := F117_size_b91.ext E120
      have F121_elementData_b101 := F117_elementData_b101.ext E120
      have F121_size_b101 := F117_size_b101.ext E120
      have F121_descriptors_b112 := F117_descriptors_b112.ext E120
      have F121_mainClass_b112 := F117_mainClass_b112.ext E120
      have F121_arguments_b112 := F117_arguments_b112.ext E120
      have F121_allPermissions_b112 := F117_allPermissions_b112.ext E120
      have F121_javaRequests_b112 := F117_javaRequests_b112.ext E120
      have F121_jars_b112 := F117_jars_b112.ext E120
      have F121_nativeLibraries_b112 := F117_nativeLibraries_b112.ext E120
      have F121_properties_b112 := F117_properties_b112.ext E120
      have F121_size_b114 := r116_3.ext E120
      have A121_b71 := A117_b71.ext E120
      have A121_b_96 := A117_b_96.ext E120
      have A121_b_110 := A117_b_110.ext E120
      have O121 := O117.ext E120
      have F120_modCount_b120 : Fld Z h120 b120 "java/util/AbstractList" "modCount" "I" (.int (0 : Int32)) := D120 (Or.inl (hw _ (List.mem_of_getElem? (i := 45) rfl))) (ty := .int) (by decide)
      have F120_elementData_b120 : Fld Z h120 b120 "java/util/ArrayList" "elementData" "[Ljava/lang/Object;" .null := D120 (Or.inl (hw _ (List.mem_of_getElem? (i := 48) rfl))) (ty := (.array (.object "java/lang/Object"))) (by decide)
      have F120_size_b120 : Fld Z h120 b120 "java/util/ArrayList" "size" "I" (.int (0 : Int32)) := D120 (Or.inl (hw _ (List.mem_of_getElem? (i := 57) rfl))) (ty := .int) (by decide)
      refine own_dup X120 hx (hb hby at_190) rfl ?_
      refine own_special X120 hx hZ hown (y := (⟨"java/util/ArrayList", "<init>", "()V"⟩ : MethodName)) rfl (hw _ (List.mem_of_getElem? (i := 28) rfl)) (hw _ (List.mem_of_getElem? (i := 29) rfl)) (hw _ (List.mem_of_getElem? (i := 27) rfl)) (hw _ (List.mem_of_getElem? (i := 30) rfl)) (a := b120) (by decide) (W := 7) (by decide) (by decide) N119 e120 (by rw [hml]; rfl) (argsL := []) (rest := [(.ref b120), (.int w119), (.ref b114), .null, (.ref b91), (.ref b112), (.ref b112)]) (lenOf pd_0 rfl) (Nat.le_of_eq rfl) (by decide) (by decide) (rm4 l Z a0 hw [] b120 ((.int (0 : Int32))) (.null) w_EMPTY_ELEMENTDATA w_DEFAULTCAPACITY_EMPTY_ELEMENTDATA w_EMPTY w_EMPTY_LIST k_w_EMPTY_ELEMENTDATA k_w_DEFAULTCAPACITY_EMPTY_ELEMENTDATA w_mir w_els k_els h120 n0 O121 ⟨z0, z1, z2, z3, z4, z5, z6, z7, z8, z9, z10, z11, zm, z13, z14, trivial⟩ A120 F120_modCount_b120 F120_elementData_b120 F120_size_b120 ge_b120) rfl (hb hby at_191) ?_
      intro v122 T122 lc122 X122 N122 hQ122
      obtain ⟨rfl, K122, r122_0, r122_1, r122_2, r122_3⟩ := hQ122
      have E123_b91 := E121_b91.keep K122
      have E123_y95 := E121_y95.keep K122
      have E123_b_96 := E121_b_96.keep K122
      have E123_y98 := E121_y98.keep K122
      have E123_b101 := E121_b101.keep K122
      have E123_b105 := E121_b105.keep K122
      have E123_b_110 := E121_b_110.keep K122
      have E123_b112 := E121_b112.keep K122
      have E123_b114 := E121_b114.keep K122
      have F123_modCount_b91 := F121_modCount_b91.keep K122 (ninS ne_b91_b120 nin0)
      have F123_elementData_b91 := F121_elementData_b91.keep K122 (ninS ne_b91_b120 nin0)
      have F123_size_b91 := F121_size_b91.keep K122 (ninS ne_b91_b120 nin0)
      have F123_elementData_b101 := F121_elementData_b101.keep K122 (ninS ne_b101_b120 nin0)
      have F123_size_b101 := F121_size_b101.keep K122 (ninS ne_b101_b120 nin0)
      have F123_descriptors_b112 := F121_descriptors_b112.keep K122 (ninS ne_b112_b120 nin0)
      have F123_mainClass_b112 := F121_mainClass_b112.keep K122 (ninS ne_b112_b120 nin0)
      have F123_arguments_b112 := F121_arguments_b112.keep K122 (ninS ne_b112_b120 nin0)
      have F123_allPermissions_b112 := F121_allPermissions_b112.keep K122 (ninS ne_b112_b120 nin0)
      have F123_javaRequests_b112 := F121_javaRequests_b112.keep K122 (ninS ne_b112_b120 nin0)
      have F123_jars_b112 := F121_jars_b112.keep K122 (ninS ne_b112_b120 nin0)
      have F123_nativeLibraries_b112 := F121_nativeLibraries_b112.keep K122 (ninS ne_b112_b120 nin0)
      have F123_properties_b112 := F121_properties_b112.keep K122 (ninS ne_b112_b120 nin0)
      have F123_size_b114 := F121_size_b114.keep K122 (ninS ne_b114_b120 nin0)
      have A123_b71 := A121_b71.keep K122 (ninS ne_b71_b120 nin0)
      have A123_b_96 := A121_b_96.keep K122 (ninS ne_b_96_b120 nin0)
      have A123_b_110 := A121_b_110.keep K122 (ninS ne_b_110_b120 nin0)
      have O123 := O121.keep K122 (allS ge_b120 all0)
      refine own_aload X122 hx (hb hby at_194) rfl rfl ?_
      refine own_new X122 hx hZ hown (hw _ (List.mem_of_getElem? (i := 25) rfl)) (hw _ (List.mem_of_getElem? (i := 26) rfl)) (hw _ (List.mem_of_getElem? (i := 27) rfl)) rfl (hb hby at_196) (by decide) (by decide) (fun T124 h124 b124 g124 X124 e124 E124 A124 D124 => ?_)
      have ne_b101_b124 : b101 ≠ b124 := Nat.ne_of_lt (Nat.lt_of_lt_of_le E123_b101.lt (Nat.le_of_eq g124.symm))
      have ne_b120_b124 : b120 ≠ b124 := Nat.ne_of_lt (Nat.lt_of_lt_of_le r122_0.lt (Nat.le_of_eq g124.symm))
      have ne_b_110_b124 : b_110 ≠ b124 := Nat.ne_of_lt (Nat.lt_of_lt_of_le E123_b_110.lt (Nat.le_of_eq g124.symm))
      have ne_b114_b124 : b114 ≠ b124 := Nat.ne_of_lt (Nat.lt_of_lt_of_le E123_b114.lt (Nat.le_of_eq g124.symm))
      have ne_b71_b124 : b71 ≠ b124 := Nat.ne_of_lt (Nat.lt_of_lt_of_le A123_b71.lt (Nat.le_of_eq g124.symm))
      have ne_b112_b124 : b112 ≠ b124 := Nat.ne_of_lt (Nat.lt_of_lt_of_le E123_b112.lt (Nat.le_of_eq g124.symm))
      have ne_b_96_b124 : b_96 ≠ b124 := Nat.ne_of_lt (Nat.lt_of_lt_of_le E123_b_96.lt (Nat.le_of_eq g124.symm))
      have ne_b91_b124 : b91 ≠ b124 := Nat.ne_of_lt (Nat.lt_of_lt_of_le E123_b91.lt (Nat.le_of_eq g124.symm))
      have ge_b124 : n0 ≤ b124 := Nat.le_trans (own_sz O123) (Nat.le_of_eq g124.symm)
      have E125_b91 := E123_b91.ext E124
      have E125_y95 := E123_y95.ext E124
      have E125_b_96 := E123_b_96.ext E124
      have E125_y98 := E123_y98.ext E124
      have E125_b101 := E123_b101.ext E124
      have E125_b105 := E123_b105.ext E124
      have E125_b_110 := E123_b_110.ext E124
      have E125_b112 := E123_b112.ext E124
      have E125_b114 := E123_b114.ext E124
      have E125_b120 := r122_0.ext E124
      have F125_modCount_b91 := F123_modCount_b91.ext E124
      have F125_elementData_b91 := F123_elementData_b91.ext E124
      have F125_size_b91 := F123_size_b91.ext E124
      have F125_elementData_b101 := F123_elementData_b101.ext E124
      have F125_size_b101 := F123_size_b101.ext E124
      have F125_descriptors_b112 := F123_descriptors_b112.ext E124
      have F125_mainClass_b112 := F123_mainClass_b112.ext E124
      have F125_arguments_b112 := F123_arguments_b112.ext E124
      have F125_allPermissions_b112 := F123_allPermissions_b112.ext E124
      have F125_javaRequests_b112 := F123_javaRequests_b112.ext E124
      have F125_jars_b112 := F123_jars_b112.ext E124
      have F125_nativeLibraries_b112 := F123_nativeLibraries_b112.ext E124
      have F125_properties_b112 := F123_properties_b112.ext E124
      have F125_size_b114 := F123_size_b114.ext E124
      have F125_size_b120 := r122_3.ext E124
      have A125_b71 := A123_b71.ext E124
      have A125_b_96 := A123_b_96.ext E124
      have A125_b_110 := A123_b_110.ext E124
      have O125 := O123.ext E124
      have F124_modCount_b124 : Fld Z h124 b124 "java/util/AbstractList" "modCount" "I" (.int (0 : Int32)) := D124 (Or.inl (hw _ (List.mem_of_getElem? (i := 45) rfl))) (ty := .int) (by decide)
      have F124_elementData_b124 : Fld Z h124 b124 "java/util/ArrayList" "elementData" "[Ljava/lang/Object;" .null := D124 (Or.inl (hw _ (List.mem_of_getElem? (i := 48) rfl))) (ty := (.array (.object "java/lang/Object"))) (by decide)
      have F124_size_b124 : Fld Z h124 b124 "java/util/ArrayList" "size" "I" (.int (0 : Int32)) := D124 (Or.inl (hw _ (List.mem_of_getElem? (i := 57) rfl))) (ty := .int) (by decide)
      refine own_dup X124 hx (hb hby at_199) rfl ?_
      refine own_special X124 hx hZ hown (y := (⟨"java/util/ArrayList", "<init>", "()V"⟩ : MethodName)) rfl (hw _ (List.mem_of_getElem? (i := 28) rfl)) (hw _ (List.mem_of_getElem? (i := 29) rfl)) (hw _ (List.mem_of_getElem? (i := 27) rfl)) (hw _ (List.mem_of_getElem? (i := 30) rfl)) (a := b124) (by decide) (W := 9) (by decide) (by decide) N122 e124 (by rw [hml]; rfl) (argsL := []) (rest := [(.ref b124), (.ref b101), (.ref b120), (.int w119), (.ref b114), .null, (.ref b91), (.ref b112), (.ref b112)]) (lenOf pd_0 rfl) (Nat.le_of_eq rfl) (by decide) (by decide) (rm4 l Z a0 hw [] b124 ((.int (0 : Int32))) (.null) w_EMPTY_ELEMENTDATA w_DEFAULTCAPACITY_EMPTY_ELEMENTDATA w_EMPTY w_EMPTY_LIST k_w_EMPTY_ELEMENTDATA k_w_DEFAULTCAPACITY_EMPTY_ELEMENTDATA w_mir w_els k_els h124 n0 O125 ⟨z0, z1, z2, z3, z4, z5, z6, z7, z8, z9, z10, z11, zm, z13, z14, trivial⟩ A124 F124_modCount_b124 F124_elementData_b124 F124_size_b124 ge_b124) rfl (hb hby at_200) ?_
      intro v126 T126 lc126 X126 N126 hQ126
      obtain ⟨rfl, K126, r126_0, r126_1, r126_2, r126_3⟩ := hQ126
      have E127_b91 := E125_b91.keep K126
      have E127_y95 := E125_y95.keep K126
      have E127_b_96 := E125_b_96.keep K126
      have E127_y98 := E125_y98.keep K126
      have E127_b101 := E125_b101.keep K126
      have E127_b105 := E125_b105.keep K126
      have E127_b_110 := E125_b_110.keep K126
      have E127_b112 := E125_b112.keep K126
      have E127_b114 := E125_b114.keep K126
      have E127_b120 := E125_b120.keep K126
      have F127_modCount_b91 := F125_modCount_b91.keep K126 (ninS ne_b91_b124 nin0)
      have F127_elementData_b91 := F125_elementData_b91.keep K126 (ninS ne_b91_b124 nin0)
      have F127_size_b91 := F125_size_b91.keep K126 (ninS ne_b91_b124 nin0)
      have F127_elementData_b101 := F125_elementData_b101.keep K126 (ninS ne_b101_b124 nin0)
      have F127_size_b101 := F125_size_b101.keep K126 (ninS ne_b101_b124 nin0)
      have F127_descriptors_b112 := F125_descriptors_b112.keep K126 (ninS ne_b112_b124 nin0)
      have F127_mainClass_b112 := F125_mainClass_b112.keep K126 (ninS ne_b112_b124 nin0)
      have F127_arguments_b112 := F125_arguments_b112.keep K126 (ninS ne_b112_b124 nin0)
      have F127_allPermissions_b112 := F125_allPermissions_b112.keep K126 (ninS ne_b112_b124 nin0)
      have F127_javaRequests_b112 := F125_javaRequests_b112.keep K126 (ninS ne_b112_b124 nin0)
      have F127_jars_b112 := F125_jars_b112.keep K126 (ninS ne_b112_b124 nin0)
      have F127_nativeLibraries_b112 := F125_nativeLibraries_b112.keep K126 (ninS ne_b112_b124 nin0)
      have F127_properties_b112 := F125_properties_b112.keep K126 (ninS ne_b112_b124 nin0)
      have F127_size_b114 := F125_size_b114.keep K126 (ninS ne_b114_b124 nin0)
      have F127_size_b120 := F125_size_b120.keep K126 (ninS ne_b120_b124 nin0)
      have A127_b71 := A125_b71.keep K126 (ninS ne_b71_b124 nin0)
      have A127_b_96 := A125_b_96.keep K126 (ninS ne_b_96_b124 nin0)
      have A127_b_110 := A125_b_110.keep K126 (ninS ne_b_110_b124 nin0)
      have O127 := O125.keep K126 (allS ge_b124 all0)
      refine own_new X126 hx hZ hown (hw _ (List.mem_of_getElem? (i := 25) rfl)) (hw _ (List.mem_of_getElem? (i := 26) rfl)) (hw _ (List.mem_of_getElem? (i := 27) rfl)) rfl (hb hby at_203) (by decide) (by decide) (fun T128 h128 b128 g128 X128 e128 E128 A128 D128 => ?_)
      have ne_b101_b128 : b101 ≠ b128 := Nat.ne_of_lt (Nat.lt_of_lt_of_le E127_b101.lt (Nat.le_of_eq g128.symm))
      have ne_b120_b128 : b120 ≠ b128 := Nat.ne_of_lt (Nat.lt_of_lt_of_le E127_b120.lt (Nat.le_of_eq g128.symm))
      have ne_b124_b128 : b124 ≠ b128 := Nat.ne_of_lt (Nat.lt_of_lt_of_le r126_0.lt (Nat.le_of_eq g128.symm))
      have ne_b_110_b128 : b_110 ≠ b128 := Nat.ne_of_lt (Nat.lt_of_lt_of_le E127_b_110.lt (Nat.le_of_eq g128.symm))
      have ne_b114_b128 : b114 ≠ b128 := Nat.ne_of_lt (Nat.lt_of_lt_of_le E127_b114.lt (Nat.le_of_eq g128.symm))
      have ne_b71_b128 : b71 ≠ b128 := Nat.ne_of_lt (Nat.lt_of_lt_of_le A127_b71.lt (Nat.le_of_eq g128.symm))
      have ne_b112_b128 : b112 ≠ b128 := Nat.ne_of_lt (Nat.lt_of_lt_of_le E127_b112.lt (Nat.le_of_eq g128.symm))
      have ne_b_96_b128 : b_96 ≠ b128 := Nat.ne_of_lt (Nat.lt_of_lt_of_le E127_b_96.lt (Nat.le_of_eq g128.symm))
      have ne_b91_b128 : b91 ≠ b128 := Nat.ne_of_lt (Nat.lt_of_lt_of_le E127_b91.lt (Nat.le_of_eq g128.symm))
      have ge_b128 : n0 ≤ b128 := Nat.le_trans (own_sz O127) (Nat.le_of_eq g128.symm)
      have E129_b91 := E127_b91.ext E128
      have E129_y95 := E127_y95.ext E128
      have E129_b_96 := E127_b_96.ext E128
      have E129_y98 := E127_y98.ext E128
      have E129_b101 := E127_b101.ext E128
      have E129_b105 := E127_b105.ext E128
      have E129_b_110 := E127_b_110.ext E128
      have E129_b112 := E127_b112.ext E128
      have E129_b114 := E127_b114.ext E128
      have E129_b120 := E127_b120.ext E128
      have E129_b124 := r126_0.ext E128
      have F129_modCount_b91 := F127_modCount_b91.ext E128
      have F129_elementData_b91 := F127_elementData_b91.ext E128
      have F129_size_b91 := F127_size_b91.ext E128
      have F129_elementData_b101 := F127_elementData_b101.ext E128
      have F129_size_b101 := F127_size_b101.ext E128
      have F129_descriptors_b112 := F127_descriptors_b112.ext E128
      have F129_mainClass_b112 := F127_mainClass_b112.ext E128
      have F129_arguments_b112 := F127_arguments_b112.ext E128
      have F129_allPermissions_b112 := F127_allPermissions_b112.ext E128
      have F129_javaRequests_b112 := F127_javaRequests_b112.ext E128
      have F129_jars_b112 := F127_jars_b112.ext E128
      have F129_nativeLibraries_b112 := F127_nativeLibraries_b112.ext E128
      have F129_properties_b112 := F127_properties_b112.ext E128
      have F129_size_b114 := F127_size_b114.ext E128
      have F129_size_b120 := F127_size_b120.ext E128
      have F129_size_b124 := r126_3.ext E128
      have A129_b71 := A127_b71.ext E128
      have A129_b_96 := A127_b_96.ext E128
      have A129_b_110 := A127_b_110.ext E128
      have O129 := O127.ext E128
      have F128_modCount_b128 : Fld Z h128 b128 "java/util/AbstractList" "modCount" "I" (.int (0 : Int32)) := D128 (Or.inl (hw _ (List.mem_of_getElem? (i := 45) rfl))) (ty := .int) (by decide)
      have F128_elementData_b128 : Fld Z h128 b128 "java/util/ArrayList" "elementData" "[Ljava/lang/Object;" .null := D128 (Or.inl (hw _ (List.mem_of_getElem? (i := 48) rfl))) (ty := (.array (.object "java/lang/Object"))) (by decide)
      have F128_size_b128 : Fld Z h128 b128 "java/util/ArrayList" "size" "I" (.int (0 : Int32)) := D128 (Or.inl (hw _ (List.mem_of_getElem? (i := 57) rfl))) (ty := .int) (by decide)
      refine own_dup X128 hx (hb hby at_206) rfl ?_
      refine own_special X128 hx hZ hown (y := (⟨"java/util/ArrayList", "<init>", "()V"⟩ : MethodName)) rfl (hw _ (List.mem_of_getElem? (i := 28) rfl)) (hw _ (List.mem_of_getElem? (i := 29) rfl)) (hw _ (List.mem_of_getElem? (i := 27) rfl)) (hw _ (List.mem_of_getElem? (i := 30) rfl)) (a := b128) (by decide) (W := 10) (by decide) (by decide) N126 e128 (by rw [hml]; rfl) (argsL := []) (rest := [(.ref b128), (.ref b124), (.ref b101), (.ref b120), (.int w119), (.ref b114), .null, (.ref b91), (.ref b112), (.ref b112)]) (lenOf pd_0 rfl) (Nat.le_of_eq rfl) (by decide) (by decide) (rm4 l Z a0 hw [] b128 ((.int (0 : Int32))) (.null) w_EMPTY_ELEMENTDATA w_DEFAULTCAPACITY_EMPTY_ELEMENTDATA w_EMPTY w_EMPTY_LIST k_w_EMPTY_ELEMENTDATA k_w_DEFAULTCAPACITY_EMPTY_ELEMENTDATA w_mir w_els k_els h128 n0 O129 ⟨z0, z1, z2, z3, z4, z5, z6, z7, z8, z9, z10, z11, zm, z13, z14, trivial⟩ A128 F128_modCount_b128 F128_elementData_b128 F128_size_b128 ge_b128) rfl (hb hby at_207) ?_
      intro v130 T130 lc130 X130 N130 hQ130
      obtain ⟨rfl, K130, r130_0, r130_1, r130_2, r130_3⟩ := hQ130
      have E131_b91 := E129_b91.keep K130
      have E131_y95 := E129_y95.keep K130
      have E131_b_96 := E129_b_96.keep K130
      have E131_y98 := E129_y98.keep K130
      have E131_b101 := E129_b101.keep K130
      have E131_b105 := E129_b105.keep K130
      have E131_b_110 := E129_b_110.keep K130
      have E131_b112 := E129_b112.keep K130
      have E131_b114 := E129_b114.keep K130
      have E131_b120 := E129_b120.keep K130
      have E131_b124 := E129_b124.keep K130
      have F131_modCount_b91 := F129_modCount_b91.keep K130 (ninS ne_b91_b128 nin0)
      have F131_elementData_b91 := F129_elementData_b91.keep K130 (ninS ne_b91_b128 nin0)
      have F131_size_b91 := F129_size_b91.keep K130 (ninS ne_b91_b128 nin0)
      have F131_elementData_b101 := F129_elementData_b101.keep K130 (ninS ne_b101_b128 nin0)
      have F131_size_b101 := F129_size_b101.keep K130 (ninS ne_b101_b128 nin0)
      have F131_descriptors_b112 := F129_descriptors_b112.keep K130 (ninS ne_b112_b128 nin0)
      have F131_mainClass_b112 := F129_mainClass_b112.keep K130 (ninS ne_b112_b128 nin0)
      have F131_arguments_b112 := F129_arguments_b112.keep K130 (ninS ne_b112_b128 nin0)
      have F131_allPermissions_b112 := F129_allPermissions_b112.keep K130 (ninS ne_b112_b128 nin0)
      have F131_javaRequests_b112 := F129_javaRequests_b112.keep K130 (ninS ne_b112_b128 nin0)
      have F131_jars_b112 := F129_jars_b112.keep K130 (ninS ne_b112_b128 nin0)
      have F131_nativeLibraries_b112 := F129_nativeLibraries_b112.keep K130 (ninS ne_b112_b128 nin0)
      have F131_properties_b112 := F129_properties_b112.keep K130 (ninS ne_b112_b128 nin0)
      have F131_size_b114 := F129_size_b114.keep K130 (ninS ne_b114_b128 nin0)
      have F131_size_b120 := F129_size_b120.keep K130 (ninS ne_b120_b128 nin0)
      have F131_size_b124 := F129_size_b124.keep K130 (ninS ne_b124_b128 nin0)
      have A131_b71 := A129_b71.keep K130 (ninS ne_b71_b128 nin0)
      have A131_b_96 := A129_b_96.keep K130 (ninS ne_b_96_b128 nin0)
      have A131_b_110 := A129_b_110.keep K130 (ninS ne_b_110_b128 nin0)
      have O131 := O129.keep K130 (allS ge_b128 all0)
      refine own_special X130 hx hZ hown (y := (⟨"com/example/gantry/gantry/resolver/Resolution", "<init>", "(Ljava/util/List;Ljava/util/Optional;Ljava/util/List;ZLjava/util/List;Ljava/util/List;Ljava/util/List;Ljava/util/List;)V"⟩ : MethodName)) rfl (hw _ (List.mem_of_getElem? (i := 95) rfl)) (hw _ (List.mem_of_getElem? (i := 96) rfl)) (hw _ (List.mem_of_getElem? (i := 94) rfl)) (hw _ (List.mem_of_getElem? (i := 97) rfl)) (a := b112) (by decide) (W := 1) (by decide) (by decide) N130 rfl (by rw [hml]; rfl) (argsL := [(.ref b91), .null, (.ref b114), (.int w119), (.ref b120), (.ref b101), (.ref b124), (.ref b128)]) (rest := [(.ref b112)]) (lenOf pd_20 rfl) (Nat.le_of_eq rfl) (by decide) (by decide) (rm132 l Z a0 hw [] b112 b91 b114 w119 b120 b101 b124 b128 b_96 k_96 y95 y98 b_110 k_110 b105 (.null) (.null) (.null) ((.int (0 : Int32))) (.null) (.null) (.null) (.null) w_EMPTY_ELEMENTDATA w_DEFAULTCAPACITY_EMPTY_ELEMENTDATA w_EMPTY w_EMPTY_LIST k_w_EMPTY_ELEMENTDATA k_w_DEFAULTCAPACITY_EMPTY_ELEMENTDATA w_mir w_els k_els T130.heap n0 O131 ⟨z0, z1, z2, z3, z4, z5, z6, z7, z8, z9, z10, z11, zm, z13, z14, trivial⟩ E131_b112 F131_descriptors_b112 F131_mainClass_b112 F131_arguments_b112 F131_allPermissions_b112 F131_javaRequests_b112 F131_jars_b112 F131_nativeLibraries_b112 F131_properties_b112 ge_b112 E131_b91 F131_elementData_b91 F131_size_b91 A131_b_96 E131_b_96 E131_y95 E131_y98 E131_b114 F131_size_b114 E131_b120 F131_size_b120 E131_b101 F131_elementData_b101 F131_size_b101 A131_b_110 E131_b_110 E131_b105 E131_b124 F131_size_b124 r130_0 r130_3 hj119 (Ne.symm ne_b_96_b112) (Ne.symm ne_b_110_b112) (Ne.symm ne_b91_b112) (Ne.symm ne_b101_b112) ne_b112_b114 ne_b112_b120 ne_b112_b124 ne_b112_b128) rfl (hb hby at_210) ?_
      intro v132 T132 lc132 X132 N132 hQ132
      obtain ⟨t_132, rfl, K132, r132_0, r132_1, r132_2, r132_3, r132_4, r132_5⟩ := hQ132
      have E133_b91 := E131_b91.keep K132
      have E133_y95 := E131_y95.keep K132
      have E133_b_96 := E131_b_96.keep K132
      have E133_y98 := E131_y98.keep K132
      have F133_modCount_b91 := F131_modCount_b91.keep K132 (ninS ne_b91_b112 nin0)
      have F133_elementData_b91 := F131_elementData_b91.keep K132 (ninS ne_b91_b112 nin0)
      have F133_size_b91 := F131_size_b91.keep K132 (ninS ne_b91_b112 nin0)
      have A133_b71 := A131_b71.keep K132 (ninS ne_b71_b112 nin0)
      have A133_b_96 := A131_b_96.keep K132 (ninS ne_b_96_b112 nin0)
      have O133 := O131.keep K132 (allS ge_b112 all0)
      have ne_b_96_t_132 : b_96 ≠ t_132 := Nat.ne_of_lt (Nat.lt_of_lt_of_le E131_b_96.lt r132_5)
      have ne_b91_t_132 : b91 ≠ t_132 := Nat.ne_of_lt (Nat.lt_of_lt_of_le E131_b91.lt r132_5)
      have ge_t_132 : n0 ≤ t_132 := Nat.le_trans (own_sz O131) r132_5
      refine own_astore X132 hx (Ls' := #[.val (.int p1), .val (.int p2), .val (.int p3), .val (.int (((p1 &&& (2147483647 : Int32)) % (3 : Int32)) + (1 : Int32))), .val (.int ((p2 &&& (2147483647 : Int32)) % (3 : Int32))), .val (.ref b71), .val (.ref b91), .val (.ref b101), .val (.ref b112), .unset]) (hb hby at_213) rfl rfl ?_
      refine own_iloadN X132 hx (hb hby at_215) rfl ?_
      refine own_iconst X132 hx (v := (2 : Int32)) (hb hby at_216) rfl ?_
      show Goes _ _ _ _ _ _ (T132.setTop (mkF m 217 #[.val (.int p1), .val (.int p2), .val (.int p3), .val (.int (((p1 &&& (2147483647 : Int32)) % (3 : Int32)) + (1 : Int32))), .val (.int ((p2 &&& (2147483647 : Int32)) % (3 : Int32))), .val (.ref b71), .val (.ref b91), .val (.ref b101), .val (.ref b112), .unset] [(.int (2 : Int32)), (.int p3)]))
      refine own_iand X132 hx (hb hby at_217) ?_
      by_cases hc218_134 : (p3 &&& (2 : Int32)) = (0 : Int32)
      ·
        refine own_ifYes X132 hx (pc' := 236) (hb hby at_218) ((if0 _ _).trans (teq (hc218_134 : (p3 &&& (2 : Int32)) = (0 : Int32))).1) (by decide) (by decide) ?_
        refine own_aload X132 hx (hb hby at_236) rfl rfl ?_
        refine own_virtual X132 hx hZ hown (y := (⟨"com/example/gantry/gantry/resolver/Resolution", "application", "()Lcom/example/gantry/gantry/resolver/LocalCopy;"⟩ : MethodName)) (z := (⟨"com/example/gantry/gantry/resolver/Resolution", "application", "()Lcom/example/gantry/gantry/resolver/LocalCopy;"⟩ : MethodName)) (hw _ (List.mem_of_getElem? (i := 225) rfl)) (hw _ (List.mem_of_getElem? (i := 226) rfl)) (notFace_of_selects (args := #[]) (mvT hZ (hw _ (List.mem_of_getElem? (i := 228) rfl)))) (hw _ (List.mem_of_getElem? (i := 228) rfl)) (hw _ (List.mem_of_getElem? (i := 227) rfl)) (hw _ (List.mem_of_getElem? (i := 94) rfl)) (hw _ (List.mem_of_getElem? (i := 229) rfl)) (a := b112) r132_0 (by decide) (W := 0) (by decide) (by decide) N132 rfl (by rw [hml]; rfl) (argsL := []) (rest := []) (lenOf pd_21 rfl) (Nat.le_of_eq rfl) (by decide) (by decide) (rm30 l Z a0 hw [] b112 t_132 y95 w_EMPTY_ELEMENTDATA w_DEFAULTCAPACITY_EMPTY_ELEMENTDATA w_EMPTY w_EMPTY_LIST k_w_EMPTY_ELEMENTDATA k_w_DEFAULTCAPACITY_EMPTY_ELEMENTDATA w_mir w_els k_els T132.heap n0 O133 ⟨z0, z1, z2, z3, z4, z5, z6, z7, z8, z9, z10, z11, zm, z13, z14, trivial⟩ r132_1 r132_2 r132_3 E133_y95) rfl (hb hby at_238) ?_
        intro v135 T135 lc135 X135 N135 hQ135
        obtain ⟨rfl, e135⟩ := hQ135
        refine own_astore X135 hx (Ls' := #[.val (.int p1), .val (.int p2), .val (.int p3), .val (.int (((p1 &&& (2147483647 : Int32)) % (3 : Int32)) + (1 : Int32))), .val (.int ((p2 &&& (2147483647 : Int32)) % (3 : Int32))), .val (.ref b71), .val (.ref b91), .val (.ref b101), .val (.ref b112), .val (.ref y95)]) (hb hby at_241) rfl rfl ?_
        refine own_aload X135 hx (hb hby at_243) rfl rfl ?_
        refine own_aload X135 hx (hb hby at_245) rfl rfl ?_
        show Goes _ _ _ _ _ _ (T135.setTop (mkF m 247 #[.val (.int p1), .val (.int p2), .val (.int p3), .val (.int (((p1 &&& (2147483647 : Int32)) % (3 : Int32)) + (1 : Int32))), .val (.int ((p2 &&& (2147483647 : Int32)) % (3 : Int32))), .val (.ref b71), .val (.ref b91), .val (.ref b101), .val (.ref b112), .val (.ref y95)] [(.ref b71), (.ref y95)]))
        refine own_iload X135 hx (hb hby at_247) rfl ?_
        show Goes _ _ _ _ _ _ (T135.setTop (mkF m 249 #[.val (.int p1), .val (.int p2), .val (.int p3), .val (.int (((p1 &&& (2147483647 : Int32)) % (3 : Int32)) + (1 : Int32))), .val (.int ((p2 &&& (2147483647 : Int32)) % (3 : Int32))), .val (.ref b71), .val (.ref b91), .val (.ref b101), .val (.ref b112), .val (.ref y95)] [(.int ((p2 &&& (2147483647 : Int32)) % (3 : Int32))), (.ref b71), (.ref y95)]))
        refine own_aaload X135 hx hZ e135 A133_b71 rfl (own_ix (own_p0 p2)) (v := .ref y95) hy95 (hb hby at_249) ?_
        refine own_acmp X135 hx rfl rfl (same := true) (pc' := 253) (hb hby at_250) (decide_eq_true rfl) (by decide) (by decide) ?_
        refine own_aload X135 hx (hb hby at_253) rfl rfl ?_
        refine own_virtual X135 hx hZ hown (y := (⟨"com/example/gantry/gantry/resolver/Resolution", "descriptors", "()Ljava/util/List;"⟩ : MethodName)) (z := (⟨"com/example/gantry/gantry/resolver/Resolution", "descriptors", "()Ljava/util/List;"⟩ : MethodName)) (hw _ (List.mem_of_getElem? (i := 239) rfl)) (hw _ (List.mem_of_getElem? (i := 240) rfl)) (notFace_of_selects (args := #[]) (mvT hZ (hw _ (List.mem_of_getElem? (i := 242) rfl)))) (hw _ (List.mem_of_getElem? (i := 242) rfl)) (hw _ (List.mem_of_getElem? (i := 241) rfl)) (hw _ (List.mem_of_getElem? (i := 94) rfl)) (hw _ (List.mem_of_getElem? (i := 243) rfl)) (a := b112) r132_0 (by decide) (W := 0) (by decide) (by decide) N135 e135 (by rw [hml]; rfl) (argsL := []) (rest := []) (lenOf pd_14 rfl) (Nat.le_of_eq rfl) (by decide) (by decide) (rm32 l Z a0 hw [] b112 t_132 w_EMPTY_ELEMENTDATA w_DEFAULTCAPACITY_EMPTY_ELEMENTDATA w_EMPTY w_EMPTY_LIST k_w_EMPTY_ELEMENTDATA k_w_DEFAULTCAPACITY_EMPTY_ELEMENTDATA w_mir w_els k_els T132.heap n0 O133 ⟨z0, z1, z2, z3, z4, z5, z6, z7, z8, z9, z10, z11, zm, z13, z14, trivial⟩ r132_1) rfl (hb hby at_255) ?_
        intro v136 T136 lc136 X136 N136 hQ136
        obtain ⟨rfl, e136⟩ := hQ136
        refine own_iface X136 hx hZ hown (y := (⟨"java/util/List", "size", "()I"⟩ : MethodName)) (z := (⟨"java/util/ImmutableCollections$List12", "size", "()I"⟩ : MethodName)) (hw _ (List.mem_of_getElem? (i := 244) rfl)) (hw _ (List.mem_of_getElem? (i := 245) rfl)) (hw _ (List.mem_of_getElem? (i := 246) rfl)) (hw _ (List.mem_of_getElem? (i := 247) rfl)) (hw _ (List.mem_of_getElem? (i := 248) rfl)) (hw _ (List.mem_of_getElem? (i := 249) rfl)) (hw _ (List.mem_of_getElem? (i := 250) rfl)) (hw _ (List.mem_of_getElem? (i := 196) rfl)) (hw _ (List.mem_of_getElem? (i := 157) rfl)) (hw _ (List.mem_of_getElem? (i := 251) rfl)) (a := t_132) r132_2 (by decide) (W := 0) (by decide) (by decide) N136 e136 (by rw [hml]; rfl) (argsL := []) (rest := []) (lenOf pd_22 rfl) (Nat.le_of_eq rfl) (by decide) (by decide) (rm332 l Z a0 hw [] t_132 y98 w_EMPTY_ELEMENTDATA w_DEFAULTCAPACITY_EMPTY_ELEMENTDATA w_EMPTY w_EMPTY_LIST k_w_EMPTY_ELEMENTDATA k_w_DEFAULTCAPACITY_EMPTY_ELEMENTDATA w_mir w_els k_els T132.heap n0 O133 ⟨z0, z1, z2, z3, z4, z5, z6, z7, z8, z9, z10, z11, zm, z13, z14, trivial⟩ r132_4 (ne_exa E133_y98 (z5.ext O133.2) (by decide))) rfl (hb hby at_258) ?_
        intro v137 T137 lc137 X137 N137 hQ137
        obtain ⟨rfl, e137⟩ := hQ137
        refine own_iloadN X137 hx (hb hby at_263) rfl ?_
        refine own_icmpNo X137 hx (hb hby at_264) (teq ((by first | (rw [hn]; done) | (rw [hn]; decide)) : (2 : Int32) = (((p1 &&& (2147483647 : Int32)) % (3 : Int32)) + (1 : Int32)))).2 ?_
        refine own_iconst X137 hx (v := (1 : Int32)) (hb hby at_267) rfl ?_
        refine own_goto X137 hx (pc' := 272) (hb hby at_268) (by decide) (by decide) ?_
        show Goes _ _ _ _ _ _ (T137.setTop (mkF m 272 #[.val (.int p1), .val (.int p2), .val (.int p3), .val (.int (((p1 &&& (2147483647 : Int32)) % (3 : Int32)) + (1 : Int32))), .val (.int ((p2 &&& (2147483647 : Int32)) % (3 : Int32))), .val (.ref b71), .val (.ref b91), .val (.ref b101), .val (.ref b112), .val (.ref y95)] [(.int (1 : Int32))]))
        exact own_retN X137 hx (t := .boolean) N137 hlk (by decide) (by decide) hret (by simp) (hb hby at_272) (by rw [e137]; exact rfl)
      ·
        refine own_ifNo X132 hx (hb hby at_218) ((if0 _ _).trans (feq (hc218_134 : ¬ ((p3 &&& (2 : Int32)) = (0 : Int32)))).1) ?_
        refine own_aload X132 hx (hb hby at_221) rfl rfl ?_
        refine own_iconst X132 hx (v := (0 : Int32)) (hb hby at_223) rfl ?_
        refine own_aload X132 hx (hb hby at_224) rfl rfl ?_
        show Goes _ _ _ _ _ _ (T132.setTop (mkF m 226 #[.val (.int p1), .val (.int p2), .val (.int p3), .val (.int (((p1 &&& (2147483647 : Int32)) % (3 : Int32)) + (1 : Int32))), .val (.int ((p2 &&& (2147483647 : Int32)) % (3 : Int32))), .val (.ref b71), .val (.ref b91), .val (.ref b101), .val (.ref b112), .unset] [(.ref b71), (.int (0 : Int32)), (.ref b91)]))
        refine own_iload X132 hx (hb hby at_226) rfl ?_
        refine own_iconst X132 hx (v := (1 : Int32)) (hb hby at_228) rfl ?_
        refine own_iadd X132 hx (hb hby at_229) ?_
        refine own_iconst X132 hx (v := (3 : Int32)) (hb hby at_230) rfl ?_
        refine own_irem X132 hx (hb hby at_231) (by decide) ?_
        show Goes _ _ _ _ _ _ (T132.setTop (mkF m 232 #[.val (.int p1), .val (.int p2), .val (.int p3), .val (.int (((p1 &&& (2147483647 : Int32)) % (3 : Int32)) + (1 : Int32))), .val (.int ((p2 &&& (2147483647 : Int32)) % (3 : Int32))), .val (.ref b71), .val (.ref b91), .val (.ref b101), .val (.ref b112), .unset] [(.int ((((p2 &&& (2147483647 : Int32)) % (3 : Int32)) + (1 : Int32)) % (3 : Int32))), (.ref b71), (.int (0 : Int32)), (.ref b91)]))
        refine own_aaload X132 hx hZ rfl A133_b71 rfl (own_ix (own_pk p2 (1 : Int32) (by decide))) (v := .ref y98) hy98 (hb hby at_232) ?_
        refine own_virtual X132 hx hZ hown (y := (⟨"java/util/ArrayList", "add", "(ILjava/lang/Object;)V"⟩ : MethodName)) (z := (⟨"java/util/ArrayList", "add", "(ILjava/lang/Object;)V"⟩ : MethodName)) (hw _ (List.mem_of_getElem? (i := 214) rfl)) (hw _ (List.mem_of_getElem? (i := 215) rfl)) (notFace_of_selects (args := #[]) (mvT hZ (hw _ (List.mem_of_getElem? (i := 217) rfl)))) (hw _ (List.mem_of_getElem? (i := 217) rfl)) (hw _ (List.mem_of_getElem? (i := 216) rfl)) (hw _ (List.mem_of_getElem? (i := 27) rfl)) (hw _ (List.mem_of_getElem? (i := 218) rfl)) (a := b91) E133_b91 (by decide) (W := 0) (by decide) (by decide) N132 rfl (by rw [hml]; rfl) (argsL := [(.int (0 : Int32)), (.ref y98)]) (rest := []) (lenOf pd_23 rfl) (Nat.le_of_eq rfl) (by decide) (by decide) (rm282 l Z a0 hw [] b91 y98 (((0 : Int32) + (1 : Int32)) + (1 : Int32)) b_96 k_96 y95 y98 w_EMPTY_ELEMENTDATA w_DEFAULTCAPACITY_EMPTY_ELEMENTDATA w_EMPTY w_EMPTY_LIST k_w_EMPTY_ELEMENTDATA k_w_DEFAULTCAPACITY_EMPTY_ELEMENTDATA w_mir w_els k_els T132.heap n0 O133 ⟨z0, z1, z2, z3, z4, z5, z6, z7, z8, z9, z10, z11, zm, z13, z14, trivial⟩ E133_b91 F133_modCount_b91 F133_elementData_b91 F133_size_b91 A133_b_96 E133_b_96 ge_b91 ge_b_96 r96_7 E133_y98 E133_y95 E133_y98) rfl (hb hby at_233) ?_
        intro v138 T138 lc138 X138 N138 hQ138
        obtain ⟨rfl, K138⟩ := hQ138
        have E139_y95 := E133_y95.keep K138
        have E139_y98 := E133_y98.keep K138
        have E139_b112 := r132_0.keep K138
        have E139_t_132 := r132_2.keep K138
        have F139_descriptors_b112 := r132_1.keep K138 (ninS (Ne.symm ne_b91_b112) (ninS (Ne.symm ne_b_96_b112) nin0))
        have F139_e0_t_132 := r132_3.keep K138 (ninS (Ne.symm ne_b91_t_132) (ninS (Ne.symm ne_b_96_t_132) nin0))
        have F139_e1_t_132 := r132_4.keep K138 (ninS (Ne.symm ne_b91_t_132) (ninS (Ne.symm ne_b_96_t_132) nin0))
        have A139_b71 := A133_b71.keep K138 (ninS ne_b71_b91 (ninS ne_b71_b_96 nin0))
        have O139 := O133.keep K138 (allS ge_b91 (allS ge_b_96 all0))
        refine own_aload X138 hx (hb hby at_236) rfl rfl ?_
        refine own_virtual X138 hx hZ hown (y := (⟨"com/example/gantry/gantry/resolver/Resolution", "application", "()Lcom/example/gantry/gantry/resolver/LocalCopy;"⟩ : MethodName)) (z := (⟨"com/example/gantry/gantry/resolver/Resolution", "application", "()Lcom/example/gantry/gantry/resolver/LocalCopy;"⟩ : MethodName)) (hw _ (List.mem_of_getElem? (i := 225) rfl)) (hw _ (List.mem_of_getElem? (i := 226) rfl)) (notFace_of_selects (args := #[]) (mvT hZ (hw _ (List.mem_of_getElem? (i := 228) rfl)))) (hw _ (List.mem_of_getElem? (i := 228) rfl)) (hw _ (List.mem_of_getElem? (i := 227) rfl)) (hw _ (List.mem_of_getElem? (i := 94) rfl)) (hw _ (List.mem_of_getElem? (i := 229) rfl)) (a := b112) E139_b112 (by decide) (W := 0) (by decide) (by decide) N138 rfl (by rw [hml]; rfl) (argsL := []) (rest := []) (lenOf pd_21 rfl) (Nat.le_of_eq rfl) (by decide) (by decide) (rm30 l Z a0 hw [] b112 t_132 y95 w_EMPTY_ELEMENTDATA w_DEFAULTCAPACITY_EMPTY_ELEMENTDATA w_EMPTY w_EMPTY_LIST k_w_EMPTY_ELEMENTDATA k_w_DEFAULTCAPACITY_EMPTY_ELEMENTDATA w_mir w_els k_els T138.heap n0 O139 ⟨z0, z1, z2, z3, z4, z5, z6, z7, z8, z9, z10, z11, zm, z13, z14, trivial⟩ F139_descriptors_b112 E139_t_132 F139_e0_t_132 E139_y95) rfl (hb hby at_238) ?_
        intro v140 T140 lc140 X140 N140 hQ140
        obtain ⟨rfl, e140⟩ := hQ140
        refine own_astore X140 hx (Ls' := #[.val (.int p1), .val (.int p2), .val (.int p3), .val (.int (((p1 &&& (2147483647 : Int32)) % (3 : Int32)) + (1 : Int32))), .val (.int ((p2 &&& (2147483647 : Int32)) % (3 : Int32))), .val (.ref b71), .val (.ref b91), .val (.ref b101), .val (.ref b112), .val (.ref y95)]) (hb hby at_241) rfl rfl ?_
        refine own_aload X140 hx (hb hby at_243) rfl rfl ?_
        refine own_aload X140 hx (hb hby at_245) rfl rfl ?_
        show Goes _ _ _ _ _ _ (T140.setTop (mkF m 247 #[.val (.int p1), .val (.int p2), .val (.int p3), .val (.int (((p1 &&& (2147483647 : Int32)) % (3 : Int32)) + (1 : Int32))), .val (.int ((p2 &&& (2147483647 : Int32)) % (3 : Int32))), .val (.ref b71), .val (.ref b91), .val (.ref b101), .val (.ref b112), .val (.ref y95)] [(.ref b71), (.ref y95)]))
        refine own_iload X140 hx (hb hby at_247) rfl ?_
        show Goes _ _ _ _ _ _ (T140.setTop (mkF m 249 #[.val (.int p1), .val (.int p2), .val (.int p3), .val (.int (((p1 &&& (2147483647 : Int32)) % (3 : Int32)) + (1 : Int32))), .val (.int ((p2 &&& (2147483647 : Int32)) % (3 : Int32))), .val (.ref b71), .val (.ref b91), .val (.ref b101), .val (.ref b112), .val (.ref y95)] [(.int ((p2 &&& (2147483647 : Int32)) % (3 : Int32))), (.ref b71), (.ref y95)]))
        refine own_aaload X140 hx hZ e140 A139_b71 rfl (own_ix (own_p0 p2)) (v := .ref y95) hy95 (hb hby at_249) ?_
        refine own_acmp X140 hx rfl rfl (same := true) (pc' := 253) (hb hby at_250) (decide_eq_true rfl) (by decide) (by decide) ?_
        refine own_aload X140 hx (hb hby at_253) rfl rfl ?_
        refine own_virtual X140 hx hZ hown (y := (⟨"com/example/gantry/gantry/resolver/Resolution", "descriptors", "()Ljava/util/List;"⟩ : MethodName)) (z := (⟨"com/example/gantry/gantry/resolver/Resolution", "descriptors", "()Ljava/util/List;"⟩ : MethodName)) (hw _ (List.mem_of_getElem? (i := 239) rfl)) (hw _ (List.mem_of_getElem? (i := 240) rfl)) (notFace_of_selects (args := #[]) (mvT hZ (hw _ (List.mem_of_getElem? (i := 242) rfl)))) (hw _ (List.mem_of_getElem? (i := 242) rfl)) (hw _ (List.mem_of_getElem? (i := 241) rfl)) (hw _ (List.mem_of_getElem? (i := 94) rfl)) (hw _ (List.mem_of_getElem? (i := 243) rfl)) (a := b112) E139_b112 (by decide) (W := 0) (by decide) (by decide) N140 e140 (by rw [hml]; rfl) (argsL := []) (rest := []) (lenOf pd_14 rfl) (Nat.le_of_eq rfl) (by decide) (by decide) (rm32 l Z a0 hw [] b112 t_132 w_EMPTY_ELEMENTDATA w_DEFAULTCAPACITY_EMPTY_ELEMENTDATA w_EMPTY w_EMPTY_LIST k_w_EMPTY_ELEMENTDATA k_w_DEFAULTCAPACITY_EMPTY_ELEMENTDATA w_mir w_els k_els T138.heap n0 O139 ⟨z0, z1, z2, z3, z4, z5, z6, z7, z8, z9, z10, z11, zm, z13, z14, trivial⟩ F139_descriptors_b112) rfl (hb hby at_255) ?_
        intro v141 T141 lc141 X141 N141 hQ141
        obtain ⟨rfl, e141⟩ := hQ141
        refine own_iface X141 hx hZ hown (y := (⟨"java/util/List", "size", "()I"⟩ : MethodName)) (z := (⟨"java/util/ImmutableCollections$List12", "size", "()I"⟩ : MethodName)) (hw _ (List.mem_of_getElem? (i := 244) rfl)) (hw _ (List.mem_of_getElem? (i := 245) rfl)) (hw _ (List.mem_of_getElem? (i := 246) rfl)) (hw _ (List.mem_of_getElem? (i := 247) rfl)) (hw _ (List.mem_of_getElem? (i := 248) rfl)) (hw _ (List.mem_of_getElem? (i := 249) rfl)) (hw _ (List.mem_of_getElem? (i := 250) rfl)) (hw _ (List.mem_of_getElem? (i := 196) rfl)) (hw _ (List.mem_of_getElem? (i := 157) rfl)) (hw _ (List.mem_of_getElem? (i := 251) rfl)) (a := t_132) E139_t_132 (by decide) (W := 0) (by decide) (by decide) N141 e141 (by rw [hml]; rfl) (argsL := []) (rest := []) (lenOf pd_22 rfl) (Nat.le_of_eq rfl) (by decide) (by decide) (rm332 l Z a0 hw [] t_132 y98 w_EMPTY_ELEMENTDATA w_DEFAULTCAPACITY_EMPTY_ELEMENTDATA w_EMPTY w_EMPTY_LIST k_w_EMPTY_ELEMENTDATA k_w_DEFAULTCAPACITY_EMPTY_ELEMENTDATA w_mir w_els k_els T138.heap n0 O139 ⟨z0, z1, z2, z3, z4, z5, z6, z7, z8, z9, z10, z11, zm, z13, z14, trivial⟩ F139_e1_t_132 (ne_exa E139_y98 (z5.ext O139.2) (by decide))) rfl (hb hby at_258) ?_
        intro v142 T142 lc142 X142 N142 hQ142
        obtain ⟨rfl, e142⟩ := hQ142
        refine own_iloadN X142 hx (hb hby at_263) rfl ?_
        refine own_icmpNo X142 hx (hb hby at_264) (teq ((by first | (rw [hn]; done) | (rw [hn]; decide)) : (2 : Int32) = (((p1 &&& (2147483647 : Int32)) % (3 : Int32)) + (1 : Int32)))).2 ?_
        refine own_iconst X142 hx (v := (1 : Int32)) (hb hby at_267) rfl ?_
        refine own_goto X142 hx (pc' := 272) (hb hby at_268) (by decide) (by decide) ?_
        show Goes _ _ _ _ _ _ (T142.setTop (mkF m 272 #[.val (.int p1), .val (.int p2), .val (.int p3), .val (.int (((p1 &&& (2147483647 : Int32)) % (3 : Int32)) + (1 : Int32))), .val (.int ((p2 &&& (2147483647 : Int32)) % (3 : Int32))), .val (.ref b71), .val (.ref b91), .val (.ref b101), .val (.ref b112), .val (.ref y95)] [(.int (1 : Int32))]))
        exact own_retN X142 hx (t := .boolean) N142 hlk (by decide) (by decide) hret (by simp) (hb hby at_272) (by rw [e142]; exact rfl)
    by_cases hc179_118 : (p3 &&& (1 : Int32)) = (0 : Int32)
    ·
      refine own_ifYes X116 hx (pc' := 186) (hb hby at_179) ((if0 _ _).trans (teq (hc179_118 : (p3 &&& (1 : Int32)) = (0 : Int32))).1) (by decide) (by decide) ?_
      refine own_iconst X116 hx (v := (0 : Int32)) (hb hby at_186) rfl ?_
      show Goes _ _ _ _ _ _ (T116.setTop (mkF m 187 #[.val (.int p1), .val (.int p2), .val (.int p3), .val (.int (((p1 &&& (2147483647 : Int32)) % (3 : Int32)) + (1 : Int32))), .val (.int ((p2 &&& (2147483647 : Int32)) % (3 : Int32))), .val (.ref b71), .val (.ref b91), .val (.ref b101), .unset, .unset] [(.int (0 : Int32)), (.ref b114), .null, (.ref b91), (.ref b112), (.ref b112)]))
      exact jn187_119 T116 _ X116 N116 rfl (0 : Int32) ⟨rfl, rfl⟩
    ·
      refine own_ifNo X116 hx (hb hby at_179) ((if0 _ _).trans (feq (hc179_118 : ¬ ((p3 &&& (1 : Int32)) = (0 : Int32)))).1) ?_
      refine own_iconst X116 hx (v := (1 : Int32)) (hb hby at_182) rfl ?_
      refine own_goto X116 hx (pc' := 187) (hb hby at_183) (by decide) (by decide) ?_
      show Goes _ _ _ _ _ _ (T116.setTop (mkF m 187 #[.val (.int p1), .val (.int p2), .val (.int p3), .val (.int (((p1 &&& (2147483647 : Int32)) % (3 : Int32)) + (1 : Int32))), .val (.int ((p2 &&& (2147483647 : Int32)) % (3 : Int32))), .val (.ref b71), .val (.ref b91), .val (.ref b101), .unset, .unset] [(.int (1 : Int32)), (.ref b114), .null, (.ref b91), (.ref b112), (.ref b112)]))
      exact jn187_119 T116 _ X116 N116 rfl (1 : Int32) ⟨rfl, rfl⟩
  ·
    refine own_iconst X0 hx (v := (3 : Int32)) (hb hby at_17) rfl ?_
    refine own_newR X0 hx hZ hown (hw _ (List.mem_of_getElem? (i := 1) rfl)) (hw _ (List.mem_of_getElem? (i := 2) rfl)) e0 (hb hby at_18) (by decide) (cap := 3) (by decide) (by decide) (by decide) (by decide) (fun T143 h143 b143 k143 g143 X143 e143 E143 A143 O143_ => ?_)
    have ge_b143 : n0 ≤ b143 := Nat.le_trans (own_sz O0) (Nat.le_of_eq g143.symm)
    have O144 := O0.ext E143
    have V143 : Arv Z h143 b143 k143 (.object "com/example/gantry/gantry/resolver/LocalCopy") (3 : Int32) [.null, .null, .null] .null := A143.pad (pad_rep [] .null 3)
    refine own_astore X143 hx (Ls' := #[.val (.int p1), .val (.int p2), .val (.int p3), .val (.int (((p1 &&& (2147483647 : Int32)) % (3 : Int32)) + (1 : Int32))), .val (.int ((p2 &&& (2147483647 : Int32)) % (3 : Int32))), .val (.ref b143), .unset, .unset, .unset, .unset]) (hb hby at_21) rfl rfl ?_
    refine own_aload X143 hx (hb hby at_23) rfl rfl ?_
    refine own_iconst X143 hx (v := (0 : Int32)) (hb hby at_25) rfl ?_
    show Goes _ _ _ _ _ _ (T143.setTop (mkF m 26 #[.val (.int p1), .val (.int p2), .val (.int p3), .val (.int (((p1 &&& (2147483647 : Int32)) % (3 : Int32)) + (1 : Int32))), .val (.int ((p2 &&& (2147483647 : Int32)) % (3 : Int32))), .val (.ref b143), .unset, .unset, .unset, .unset] [(.int (0 : Int32)), (.ref b143)]))
    refine own_new X143 hx hZ hown (hw _ (List.mem_of_getElem? (i := 1) rfl)) (hw _ (List.mem_of_getElem? (i := 3) rfl)) (hw _ (List.mem_of_getElem? (i := 4) rfl)) e143 (hb hby at_26) (by decide) (by decide) (fun T145 h145 b145 g145 X145 e145 E145 A145 D145 => ?_)
    have ne_b143_b145 : b143 ≠ b145 := Nat.ne_of_lt (Nat.lt_of_lt_of_le V143.lt (Nat.le_of_eq g145.symm))
    have ge_b145 : n0 ≤ b145 := Nat.le_trans (own_sz O144) (Nat.le_of_eq g145.symm)
    have A146_b143 := V143.ext E145
    have O146 := O144.ext E145
    have F145_location_b145 : Fld Z h145 b145 "com/example/gantry/gantry/resolver/LocalCopy" "location" "Ljava/net/URI;" .null := D145 (Or.inr (hw _ (List.mem_of_getElem? (i := 17) rfl))) (ty := (.object "java/net/URI")) (by decide)
    have F145_retrievedFrom_b145 : Fld Z h145 b145 "com/example/gantry/gantry/resolver/LocalCopy" "retrievedFrom" "Ljava/net/URI;" .null := D145 (Or.inr (hw _ (List.mem_of_getElem? (i := 19) rfl))) (ty := (.object "java/net/URI")) (by decide)
    have F145_file_b145 : Fld Z h145 b145 "com/example/gantry/gantry/resolver/LocalCopy" "file" "Ljava/nio/file/Path;" .null := D145 (Or.inr (hw _ (List.mem_of_getElem? (i := 21) rfl))) (ty := (.object "java/nio/file/Path")) (by decide)
    have F145_checkedSha256_b145 : Fld Z h145 b145 "com/example/gantry/gantry/resolver/LocalCopy" "checkedSha256" "Ljava/util/Optional;" .null := D145 (Or.inr (hw _ (List.mem_of_getElem? (i := 23) rfl))) (ty := (.object "java/util/Optional")) (by decide)
    refine own_dup X145 hx (hb hby at_29) rfl ?_
    refine own_aconst_null X145 hx (hb hby at_30) ?_
    refine own_aconst_null X145 hx (hb hby at_31) ?_
    show Goes _ _ _ _ _ _ (T145.setTop (mkF m 32 #[.val (.int p1), .val (.int p2), .val (.int p3), .val (.int (((p1 &&& (2147483647 : Int32)) % (3 : Int32)) + (1 : Int32))), .val (.int ((p2 &&& (2147483647 : Int32)) % (3 : Int32))), .val (.ref b143), .unset, .unset, .unset, .unset] [.null, .null, (.ref b145), (.ref b145), (.int (0 : Int32)), (.ref b143)]))
    refine own_aconst_null X145 hx (hb hby at_32) ?_
    refine own_aconst_null X145 hx (hb hby at_33) ?_
    refine own_special X145 hx hZ hown (y := (⟨"com/example/gantry/gantry/resolver/LocalCopy", "<init>", "(Ljava/net/URI;Ljava/net/URI;Ljava/nio/file/Path;Ljava/util/Optional;)V"⟩ : MethodName)) rfl (hw _ (List.mem_of_getElem? (i := 5) rfl)) (hw _ (List.mem_of_getElem? (i := 6) rfl)) (hw _ (List.mem_of_getElem? (i := 4) rfl)) (hw _ (List.mem_of_getElem? (i := 7) rfl)) (a := b145) (by decide) (W := 3) (by decide) (by decide) N0 e145 (by rw [hml]; rfl) (argsL := [.null, .null, .null, .null]) (rest := [(.ref b145), (.int (0 : Int32)), (.ref b143)]) (lenOf pd_17 rfl) (Nat.le_of_eq rfl) (by decide) (by decide) (rm1 l Z a0 hw [] b145 (.null) (.null) (.null) (.null) h145 n0 O146 A145 F145_location_b145 F145_retrievedFrom_b145 F145_file_b145 F145_checkedSha256_b145 ge_b145) rfl (hb hby at_34) ?_
    intro v147 T147 lc147 X147 N147 hQ147
    obtain ⟨rfl, K147, r147_0⟩ := hQ147
    have A148_b143 := A146_b143.keep K147 (ninS ne_b143_b145 nin0)
    have O148 := O146.keep K147 (allS ge_b145 all0)
    refine own_aastore X147 hx hZ N147 rfl A148_b143 rfl rfl ⟨by decide, by decide⟩ (i := 0) rfl (by first | decide | (simp; done)) ge_b143 (fun _ Ar q => Sto.ofV Ar q O143_ (Ins.self r147_0)) (hb hby at_37) (fun T149 h149 lc149 X149 e149 N149 W149 V149 => ?_)
    have E150_b145 := r147_0.wr W149
    have O150 := O148.wr W149 ge_b143
    have V149' : Arv Z h149 b143 k143 (.object "com/example/gantry/gantry/resolver/LocalCopy") (3 : Int32) [(.ref b145), .null, .null] .null := V149
    refine own_aload X149 hx (hb hby at_38) rfl rfl ?_
    refine own_iconst X149 hx (v := (1 : Int32)) (hb hby at_40) rfl ?_
    refine own_new X149 hx hZ hown (hw _ (List.mem_of_getElem? (i := 1) rfl)) (hw _ (List.mem_of_getElem? (i := 3) rfl)) (hw _ (List.mem_of_getElem? (i := 4) rfl)) e149 (hb hby at_41) (by decide) (by decide) (fun T151 h151 b151 g151 X151 e151 E151 A151 D151 => ?_)
    have ne_b143_b151 : b143 ≠ b151 := Nat.ne_of_lt (Nat.lt_of_lt_of_le V149'.lt (Nat.le_of_eq g151.symm))
    have ge_b151 : n0 ≤ b151 := Nat.le_trans (own_sz O150) (Nat.le_of_eq g151.symm)
    have E152_b145 := E150_b145.ext E151
    have A152_b143 := V149'.ext E151
    have O152 := O150.ext E151
    have F151_location_b151 : Fld Z h151 b151 "com/example/gantry/gantry/resolver/LocalCopy" "location" "Ljava/net/URI;" .null := D151 (Or.inr (hw _ (List.mem_of_getElem? (i := 17) rfl))) (ty := (.object "java/net/URI")) (by decide)
    have F151_retrievedFrom_b151 : Fld Z h151 b151 "com/example/gantry/gantry/resolver/LocalCopy" "retrievedFrom" "Ljava/net/URI;" .null := D151 (Or.inr (hw _ (List.mem_of_getElem? (i := 19) rfl))) (ty := (.object "java/net/URI")) (by decide)
    have F151_file_b151 : Fld Z h151 b151 "com/example/gantry/gantry/resolver/LocalCopy" "file" "Ljava/nio/file/Path;" .null := D151 (Or.inr (hw _ (List.mem_of_getElem? (i := 21) rfl))) (ty := (.object "java/nio/file/Path")) (by decide)
    have F151_checkedSha256_b151 : Fld Z h151 b151 "com/example/gantry/gantry/resolver/LocalCopy" "checkedSha256" "Ljava/util/Optional;" .null := D151 (Or.inr (hw _ (List.mem_of_getElem? (i := 23) rfl))) (ty := (.object "java/util/Optional")) (by decide)
    refine own_dup X151 hx (hb hby at_44) rfl ?_
    refine own_aconst_null X151 hx (hb hby at_45) ?_
    refine own_aconst_null X151 hx (hb hby at_46) ?_
    show Goes _ _ _ _ _ _ (T151.setTop (mkF m 47 #[.val (.int p1), .val (.int p2), .val (.int p3), .val (.int (((p1 &&& (2147483647 : Int32)) % (3 : Int32)) + (1 : Int32))), .val (.int ((p2 &&& (2147483647 : Int32)) % (3 : Int32))), .val (.ref b143), .unset, .unset, .unset, .unset] [.null, .null, (.ref b151), (.ref b151), (.int (1 : Int32)), (.ref b143)]))
    refine own_aconst_null X151 hx (hb hby at_47) ?_
    refine own_aconst_null X151 hx (hb hby at_48) ?_
    refine own_special X151 hx hZ hown (y := (⟨"com/example/gantry/gantry/resolver/LocalCopy", "<init>", "(Ljava/net/URI;Ljava/net/URI;Ljava/nio/file/Path;Ljava/util/Optional;)V"⟩ : MethodName)) rfl (hw _ (List.mem_of_getElem? (i := 5) rfl)) (hw _ (List.mem_of_getElem? (i := 6) rfl)) (hw _ (List.mem_of_getElem? (i := 4) rfl)) (hw _ (List.mem_of_getElem? (i := 7) rfl)) (a := b151) (by decide) (W := 3) (by decide) (by decide) N149 e151 (by rw [hml]; rfl) (argsL := [.null, .null, .null, .null]) (rest := [(.ref b151), (.int (1 : Int32)), (.ref b143)]) (lenOf pd_17 rfl) (Nat.le_of_eq rfl) (by decide) (by decide) (rm1 l Z a0 hw [] b151 (.null) (.null) (.null) (.null) h151 n0 O152 A151 F151_location_b151 F151_retrievedFrom_b151 F151_file_b151 F151_checkedSha256_b151 ge_b151) rfl (hb hby at_49) ?_
    intro v153 T153 lc153 X153 N153 hQ153
    obtain ⟨rfl, K153, r153_0⟩ := hQ153
    have E154_b145 := E152_b145.keep K153
    have A154_b143 := A152_b143.keep K153 (ninS ne_b143_b151 nin0)
    have O154 := O152.keep K153 (allS ge_b151 all0)
    refine own_aastore X153 hx hZ N153 rfl A154_b143 rfl rfl ⟨by decide, by decide⟩ (i := 1) rfl (by first | decide | (simp; done)) ge_b143 (fun _ Ar q => Sto.ofV Ar q O143_ (Ins.self r153_0)) (hb hby at_52) (fun T155 h155 lc155 X155 e155 N155 W155 V155 => ?_)
    have E156_b145 := E154_b145.wr W155
    have E156_b151 := r153_0.wr W155
    have O156 := O154.wr W155 ge_b143
    have V155' : Arv Z h155 b143 k143 (.object "com/example/gantry/gantry/resolver/LocalCopy") (3 : Int32) [(.ref b145), (.ref b151), .null] .null := V155
    refine own_aload X155 hx (hb hby at_53) rfl rfl ?_
    refine own_iconst X155 hx (v := (2 : Int32)) (hb hby at_55) rfl ?_
    refine own_new X155 hx hZ hown (hw _ (List.mem_of_getElem? (i := 1) rfl)) (hw _ (List.mem_of_getElem? (i := 3) rfl)) (hw _ (List.mem_of_getElem? (i := 4) rfl)) e155 (hb hby at_56) (by decide) (by decide) (fun T157 h157 b157 g157 X157 e157 E157 A157 D157 => ?_)
    have ne_b143_b157 : b143 ≠ b157 := Nat.ne_of_lt (Nat.lt_of_lt_of_le V155'.lt (Nat.le_of_eq g157.symm))
    have ge_b157 : n0 ≤ b157 := Nat.le_trans (own_sz O156) (Nat.le_of_eq g157.symm)
    have E158_b145 := E156_b145.ext E157
    have E158_b151 := E156_b151.ext E157
    have A158_b143 := V155'.ext E157
    have O158 := O156.ext E157
    have F157_location_b157 : Fld Z h157 b157 "com/example/gantry/gantry/resolver/LocalCopy" "location" "Ljava/net/URI;" .null := D157 (Or.inr (hw _ (List.mem_of_getElem? (i := 17) rfl))) (ty := (.object "java/net/URI")) (by decide)
    have F157_retrievedFrom_b157 : Fld Z h157 b157 "com/example/gantry/gantry/resolver/LocalCopy" "retrievedFrom" "Ljava/net/URI;" .null := D157 (Or.inr (hw _ (List.mem_of_getElem? (i := 19) rfl))) (ty := (.object "java/net/URI")) (by decide)
    have F157_file_b157 : Fld Z h157 b157 "com/example/gantry/gantry/resolver/LocalCopy" "file" "Ljava/nio/file/Path;" .null := D157 (Or.inr (hw _ (List.mem_of_getElem? (i := 21) rfl))) (ty := (.object "java/nio/file/Path")) (by decide)
    have F157_checkedSha256_b157 : Fld Z h157 b157 "com/example/gantry/gantry/resolver/LocalCopy" "checkedSha256" "Ljava/util/Optional;" .null := D157 (Or.inr (hw _ (List.mem_of_getElem? (i := 23) rfl))) (ty := (.object "java/util/Optional")) (by decide)
    refine own_dup X157 hx (hb hby at_59) rfl ?_
    refine own_aconst_null X157 hx (hb hby at_60) ?_
    refine own_aconst_null X157 hx (hb hby at_61) ?_
    show Goes _ _ _ _ _ _ (T157.setTop (mkF m 62 #[.val (.int p1), .val (.int p2), .val (.int p3), .val (.int (((p1 &&& (2147483647 : Int32)) % (3 : Int32)) + (1 : Int32))), .val (.int ((p2 &&& (2147483647 : Int32)) % (3 : Int32))), .val (.ref b143), .unset, .unset, .unset, .unset] [.null, .null, (.ref b157), (.ref b157), (.int (2 : Int32)), (.ref b143)]))
    refine own_aconst_null X157 hx (hb hby at_62) ?_
    refine own_aconst_null X157 hx (hb hby at_63) ?_
    refine own_special X157 hx hZ hown (y := (⟨"com/example/gantry/gantry/resolver/LocalCopy", "<init>", "(Ljava/net/URI;Ljava/net/URI;Ljava/nio/file/Path;Ljava/util/Optional;)V"⟩ : MethodName)) rfl (hw _ (List.mem_of_getElem? (i := 5) rfl)) (hw _ (List.mem_of_getElem? (i := 6) rfl)) (hw _ (List.mem_of_getElem? (i := 4) rfl)) (hw _ (List.mem_of_getElem? (i := 7) rfl)) (a := b157) (by decide) (W := 3) (by decide) (by decide) N155 e157 (by rw [hml]; rfl) (argsL := [.null, .null, .null, .null]) (rest := [(.ref b157), (.int (2 : Int32)), (.ref b143)]) (lenOf pd_17 rfl) (Nat.le_of_eq rfl) (by decide) (by decide) (rm1 l Z a0 hw [] b157 (.null) (.null) (.null) (.null) h157 n0 O158 A157 F157_location_b157 F157_retrievedFrom_b157 F157_file_b157 F157_checkedSha256_b157 ge_b157) rfl (hb hby at_64) ?_
    intro v159 T159 lc159 X159 N159 hQ159
    obtain ⟨rfl, K159, r159_0⟩ := hQ159
    have E160_b145 := E158_b145.keep K159
    have E160_b151 := E158_b151.keep K159
    have A160_b143 := A158_b143.keep K159 (ninS ne_b143_b157 nin0)
    have O160 := O158.keep K159 (allS ge_b157 all0)
    refine own_aastore X159 hx hZ N159 rfl A160_b143 rfl rfl ⟨by decide, by decide⟩ (i := 2) rfl (by first | decide | (simp; done)) ge_b143 (fun _ Ar q => Sto.ofV Ar q O143_ (Ins.self r159_0)) (hb hby at_67) (fun T161 h161 lc161 X161 e161 N161 W161 V161 => ?_)
    have E162_b145 := E160_b145.wr W161
    have E162_b151 := E160_b151.wr W161
    have E162_b157 := r159_0.wr W161
    have O162 := O160.wr W161 ge_b143
    have V161' : Arv Z h161 b143 k143 (.object "com/example/gantry/gantry/resolver/LocalCopy") (3 : Int32) [(.ref b145), (.ref b151), (.ref b157)] .null := V161
    refine own_new X161 hx hZ hown (hw _ (List.mem_of_getElem? (i := 25) rfl)) (hw _ (List.mem_of_getElem? (i := 26) rfl)) (hw _ (List.mem_of_getElem? (i := 27) rfl)) e161 (hb hby at_68) (by decide) (by decide) (fun T163 h163 b163 g163 X163 e163 E163 A163 D163 => ?_)
    have ne_b143_b163 : b143 ≠ b163 := Nat.ne_of_lt (Nat.lt_of_lt_of_le V161'.lt (Nat.le_of_eq g163.symm))
    have ge_b163 : n0 ≤ b163 := Nat.le_trans (own_sz O162) (Nat.le_of_eq g163.symm)
    have E164_b145 := E162_b145.ext E163
    have E164_b151 := E162_b151.ext E163
    have E164_b157 := E162_b157.ext E163
    have A164_b143 := V161'.ext E163
    have O164 := O162.ext E163
    have F163_modCount_b163 : Fld Z h163 b163 "java/util/AbstractList" "modCount" "I" (.int (0 : Int32)) := D163 (Or.inl (hw _ (List.mem_of_getElem? (i := 45) rfl))) (ty := .int) (by decide)
    have F163_elementData_b163 : Fld Z h163 b163 "java/util/ArrayList" "elementData" "[Ljava/lang/Object;" .null := D163 (Or.inl (hw _ (List.mem_of_getElem? (i := 48) rfl))) (ty := (.array (.object "java/lang/Object"))) (by decide)
    have F163_size_b163 : Fld Z h163 b163 "java/util/ArrayList" "size" "I" (.int (0 : Int32)) := D163 (Or.inl (hw _ (List.mem_of_getElem? (i := 57) rfl))) (ty := .int) (by decide)
    refine own_dup X163 hx (hb hby at_71) rfl ?_
    refine own_special X163 hx hZ hown (y := (⟨"java/util/ArrayList", "<init>", "()V"⟩ : MethodName)) rfl (hw _ (List.mem_of_getElem? (i := 28) rfl)) (hw _ (List.mem_of_getElem? (i := 29) rfl)) (hw _ (List.mem_of_getElem? (i := 27) rfl)) (hw _ (List.mem_of_getElem? (i := 30) rfl)) (a := b163) (by decide) (W := 1) (by decide) (by decide) N161 e163 (by rw [hml]; rfl) (argsL := []) (rest := [(.ref b163)]) (lenOf pd_0 rfl) (Nat.le_of_eq rfl) (by decide) (by decide) (rm4 l Z a0 hw [] b163 ((.int (0 : Int32))) (.null) w_EMPTY_ELEMENTDATA w_DEFAULTCAPACITY_EMPTY_ELEMENTDATA w_EMPTY w_EMPTY_LIST k_w_EMPTY_ELEMENTDATA k_w_DEFAULTCAPACITY_EMPTY_ELEMENTDATA w_mir w_els k_els h163 n0 O164 ⟨z0, z1, z2, z3, z4, z5, z6, z7, z8, z9, z10, z11, zm, z13, z14, trivial⟩ A163 F163_modCount_b163 F163_elementData_b163 F163_size_b163 ge_b163) rfl (hb hby at_72) ?_
    intro v165 T165 lc165 X165 N165 hQ165
    obtain ⟨rfl, K165, r165_0, r165_1, r165_2, r165_3⟩ := hQ165
    have E166_b145 := E164_b145.keep K165
    have E166_b151 := E164_b151.keep K165
    have E166_b157 := E164_b157.keep K165
    have A166_b143 := A164_b143.keep K165 (ninS ne_b143_b163 nin0)
    have O166 := O164.keep K165 (allS ge_b163 all0)
    refine own_astore X165 hx (Ls' := #[.val (.int p1), .val (.int p2), .val (.int p3), .val (.int (((p1 &&& (2147483647 : Int32)) % (3 : Int32)) + (1 : Int32))), .val (.int ((p2 &&& (2147483647 : Int32)) % (3 : Int32))), .val (.ref b143), .val (.ref b163), .unset, .unset, .unset]) (hb hby at_75) rfl rfl ?_
    refine own_aload X165 hx (hb hby at_77) rfl rfl ?_
    refine own_aload X165 hx (hb hby at_79) rfl rfl ?_
    show Goes _ _ _ _ _ _ (T165.setTop (mkF m 81 #[.val (.int p1), .val (.int p2), .val (.int p3), .val (.int (((p1 &&& (2147483647 : Int32)) % (3 : Int32)) + (1 : Int32))), .val (.int ((p2 &&& (2147483647 : Int32)) % (3 : Int32))), .val (.ref b143), .val (.ref b163), .unset, .unset, .unset] [(.ref b143), (.ref b163)]))
    refine own_iload X165 hx (hb hby at_81) rfl ?_
    show Goes _ _ _ _ _ _ (T165.setTop (mkF m 83 #[.val (.int p1), .val (.int p2), .val (.int p3), .val (.int (((p1 &&& (2147483647 : Int32)) % (3 : Int32)) + (1 : Int32))), .val (.int ((p2 &&& (2147483647 : Int32)) % (3 : Int32))), .val (.ref b143), .val (.ref b163), .unset, .unset, .unset] [(.int ((p2 &&& (2147483647 : Int32)) % (3 : Int32))), (.ref b143), (.ref b163)]))
    obtain ⟨y167, hy167, hE167⟩ := own_pick (j := ((p2 &&& (2147483647 : Int32)) % (3 : Int32))) (own_p0 p2) E166_b145 E166_b151 E166_b157
    refine own_aaload X165 hx hZ rfl A166_b143 rfl (own_ix (own_p0 p2)) (v := .ref y167) hy167 (hb hby at_83) ?_
    refine own_virtual X165 hx hZ hown (y := (⟨"java/util/ArrayList", "add", "(Ljava/lang/Object;)Z"⟩ : MethodName)) (z := (⟨"java/util/ArrayList", "add", "(Ljava/lang/Object;)Z"⟩ : MethodName)) (hw _ (List.mem_of_getElem? (i := 49) rfl)) (hw _ (List.mem_of_getElem? (i := 50) rfl)) (notFace_of_selects (args := #[]) (mvT hZ (hw _ (List.mem_of_getElem? (i := 52) rfl)))) (hw _ (List.mem_of_getElem? (i := 52) rfl)) (hw _ (List.mem_of_getElem? (i := 51) rfl)) (hw _ (List.mem_of_getElem? (i := 27) rfl)) (hw _ (List.mem_of_getElem? (i := 53) rfl)) (a := b163) r165_0 (by decide) (W := 0) (by decide) (by decide) N165 rfl (by rw [hml]; rfl) (argsL := [(.ref y167)]) (rest := []) (lenOf pd_18 rfl) (Nat.le_of_eq rfl) (by decide) (by decide) (rm7gL l Z a0 hw [] b163 y167 (0 : Int32) w_EMPTY_ELEMENTDATA w_DEFAULTCAPACITY_EMPTY_ELEMENTDATA w_EMPTY w_EMPTY_LIST k_w_EMPTY_ELEMENTDATA k_w_DEFAULTCAPACITY_EMPTY_ELEMENTDATA w_mir w_els k_els T165.heap n0 O166 ⟨z0, z1, z2, z3, z4, z5, z6, z7, z8, z9, z10, z11, zm, z13, z14, trivial⟩ r165_0 r165_1 r165_2 r165_3 ge_b163 hE167) rfl (hb hby at_84) ?_
    intro v168 T168 lc168 X168 N168 hQ168
    obtain ⟨b_168, k_168, rfl, K168, r168_0, r168_1, r168_2, r168_3, r168_4, r168_5, r168_6, r168_7⟩ := hQ168
    have E169_b145 := E166_b145.keep K168
    have E169_b151 := E166_b151.keep K168
    have E169_b157 := E166_b157.keep K168
    have E169_y167 := hE167.keep K168
    have A169_b143 := A166_b143.keep K168 (ninS ne_b143_b163 nin0)
    have O169 := O166.keep K168 (allS ge_b163 all0)
    have ne_b143_b_168 : b143 ≠ b_168 := Nat.ne_of_lt (Nat.lt_of_lt_of_le A166_b143.lt r168_6)
    have ge_b_168 : n0 ≤ b_168 := Nat.le_trans (own_sz O166) r168_6
    refine own_pop X168 hx (hb hby at_87) rfl ?_
    refine own_iloadN X168 hx (hb hby at_88) rfl ?_
    refine own_iconst X168 hx (v := (1 : Int32)) (hb hby at_89) rfl ?_
    show Goes _ _ _ _ _ _ (T168.setTop (mkF m 90 #[.val (.int p1), .val (.int p2), .val (.int p3), .val (.int (((p1 &&& (2147483647 : Int32)) % (3 : Int32)) + (1 : Int32))), .val (.int ((p2 &&& (2147483647 : Int32)) % (3 : Int32))), .val (.ref b143), .val (.ref b163), .unset, .unset, .unset] [(.int (1 : Int32)), (.int (((p1 &&& (2147483647 : Int32)) % (3 : Int32)) + (1 : Int32)))]))
    refine own_icmpNo X168 hx (hb hby at_90) (tlt ((by first | (rw [hn]; done) | (rw [hn]; decide)) : (1 : Int32) < (((p1 &&& (2147483647 : Int32)) % (3 : Int32)) + (1 : Int32)))).2.2.2 ?_
    refine own_aload X168 hx (hb hby at_93) rfl rfl ?_
    refine own_aload X168 hx (hb hby at_95) rfl rfl ?_
    refine own_iload X168 hx (hb hby at_97) rfl ?_
    show Goes _ _ _ _ _ _ (T168.setTop (mkF m 99 #[.val (.int p1), .val (.int p2), .val (.int p3), .val (.int (((p1 &&& (2147483647 : Int32)) % (3 : Int32)) + (1 : Int32))), .val (.int ((p2 &&& (2147483647 : Int32)) % (3 : Int32))), .val (.ref b143), .val (.ref b163), .unset, .unset, .unset] [(.int ((p2 &&& (2147483647 : Int32)) % (3 : Int32))), (.ref b143), (.ref b163)]))
    refine own_iconst X168 hx (v := (1 : Int32)) (hb hby at_99) rfl ?_
    refine own_iadd X168 hx (hb hby at_100) ?_
    refine own_iconst X168 hx (v := (3 : Int32)) (hb hby at_101) rfl ?_
    refine own_irem X168 hx (hb hby at_102) (by decide) ?_
    show Goes _ _ _ _ _ _ (T168.setTop (mkF m 103 #[.val (.int p1), .val (.int p2), .val (.int p3), .val (.int (((p1 &&& (2147483647 : Int32)) % (3 : Int32)) + (1 : Int32))), .val (.int ((p2 &&& (2147483647 : Int32)) % (3 : Int32))), .val (.ref b143), .val (.ref b163), .unset, .unset, .unset] [(.int ((((p2 &&& (2147483647 : Int32)) % (3 : Int32)) + (1 : Int32)) % (3 : Int32))), (.ref b143), (.ref b163)]))
    obtain ⟨y170, hy170, hE170⟩ := own_pick (j := ((((p2 &&& (2147483647 : Int32)) % (3 : Int32)) + (1 : Int32)) % (3 : Int32))) (own_pk p2 (1 : Int32) (by decide)) E169_b145 E169_b151 E169_b157
    refine own_aaload X168 hx hZ rfl A169_b143 rfl (own_ix (own_pk p2 (1 : Int32) (by decide))) (v := .ref y170) hy170 (hb hby at_103) ?_
    refine own_virtual X168 hx hZ hown (y := (⟨"java/util/ArrayList", "add", "(Ljava/lang/Object;)Z"⟩ : MethodName)) (z := (⟨"java/util/ArrayList", "add", "(Ljava/lang/Object;)Z"⟩ : MethodName)) (hw _ (List.mem_of_getElem? (i := 49) rfl)) (hw _ (List.mem_of_getElem? (i := 50) rfl)) (notFace_of_selects (args := #[]) (mvT hZ (hw _ (List.mem_of_getElem? (i := 52) rfl)))) (hw _ (List.mem_of_getElem? (i := 52) rfl)) (hw _ (List.mem_of_getElem? (i := 51) rfl)) (hw _ (List.mem_of_getElem? (i := 27) rfl)) (hw _ (List.mem_of_getElem? (i := 53) rfl)) (a := b163) r168_0 (by decide) (W := 0) (by decide) (by decide) N168 rfl (by rw [hml]; rfl) (argsL := [(.ref y170)]) (rest := []) (lenOf pd_18 rfl) (Nat.le_of_eq rfl) (by decide) (by decide) (rm7r1 l Z a0 hw [] b163 y170 ((0 : Int32) + (1 : Int32)) b_168 k_168 y167 w_EMPTY_ELEMENTDATA w_DEFAULTCAPACITY_EMPTY_ELEMENTDATA w_EMPTY w_EMPTY_LIST k_w_EMPTY_ELEMENTDATA k_w_DEFAULTCAPACITY_EMPTY_ELEMENTDATA w_mir w_els k_els T168.heap n0 O169 ⟨z0, z1, z2, z3, z4, z5, z6, z7, z8, z9, z10, z11, zm, z13, z14, trivial⟩ r168_0 r168_1 r168_2 r168_3 r168_4 r168_5 ge_b163 ge_b_168 r168_7 hE170) rfl (hb hby at_104) ?_
    intro v171 T171 lc171 X171 N171 hQ171
    obtain ⟨rfl, K171, r171_0, r171_1, r171_2, r171_3, r171_4, r171_5⟩ := hQ171
    have E172_b145 := E169_b145.keep K171
    have E172_b151 := E169_b151.keep K171
    have E172_b157 := E169_b157.keep K171
    have E172_y167 := E169_y167.keep K171
    have E172_y170 := hE170.keep K171
    have A172_b143 := A169_b143.keep K171 (ninS ne_b143_b163 (ninS ne_b143_b_168 nin0))
    have O172 := O169.keep K171 (allS ge_b163 (allS ge_b_168 all0))
    refine own_pop X171 hx (hb hby at_107) rfl ?_
    refine own_iloadN X171 hx (hb hby at_108) rfl ?_
    refine own_iconst X171 hx (v := (2 : Int32)) (hb hby at_109) rfl ?_
    show Goes _ _ _ _ _ _ (T171.setTop (mkF m 110 #[.val (.int p1), .val (.int p2), .val (.int p3), .val (.int (((p1 &&& (2147483647 : Int32)) % (3 : Int32)) + (1 : Int32))), .val (.int ((p2 &&& (2147483647 : Int32)) % (3 : Int32))), .val (.ref b143), .val (.ref b163), .unset, .unset, .unset] [(.int (2 : Int32)), (.int (((p1 &&& (2147483647 : Int32)) % (3 : Int32)) + (1 : Int32)))]))
    refine own_icmpNo X171 hx (hb hby at_110) (tlt ((by first | (rw [hn]; done) | (rw [hn]; decide)) : (2 : Int32) < (((p1 &&& (2147483647 : Int32)) % (3 : Int32)) + (1 : Int32)))).2.2.2 ?_
    refine own_aload X171 hx (hb hby at_113) rfl rfl ?_
    refine own_aload X171 hx (hb hby at_115) rfl rfl ?_
    refine own_iload X171 hx (hb hby at_117) rfl ?_
    show Goes _ _ _ _ _ _ (T171.setTop (mkF m 119 #[.val (.int p1), .val (.int p2), .val (.int p3), .val (.int (((p1 &&& (2147483647 : Int32)) % (3 : Int32)) + (1 : Int32))), .val (.int ((p2 &&& (2147483647 : Int32)) % (3 : Int32))), .val (.ref b143), .val (.ref b163), .unset, .unset, .unset] [(.int ((p2 &&& (2147483647 : Int32)) % (3 : Int32))), (.ref b143), (.ref b163)]))
    refine own_iconst X171 hx (v := (2 : Int32)) (hb hby at_119) rfl ?_
    refine own_iadd X171 hx (hb hby at_120) ?_
    refine own_iconst X171 hx (v := (3 : Int32)) (hb hby at_121) rfl ?_
    refine own_irem X171 hx (hb hby at_122) (by decide) ?_
    show Goes _ _ _ _ _ _ (T171.setTop (mkF m 123 #[.val (.int p1), .val (.int p2), .val (.int p3), .val (.int (((p1 &&& (2147483647 : Int32)) % (3 : Int32)) + (1 : Int32))), .val (.int ((p2 &&& (2147483647 : Int32)) % (3 : Int32))), .val (.ref b143), .val (.ref b163), .unset, .unset, .unset] [(.int ((((p2 &&& (2147483647 : Int32)) % (3 : Int32)) + (2 : Int32)) % (3 : Int32))), (.ref b143), (.ref b163)]))
    obtain ⟨y173, hy173, hE173⟩ := own_pick (j := ((((p2 &&& (2147483647 : Int32)) % (3 : Int32)) + (2 : Int32)) % (3 : Int32))) (own_pk p2 (2 : Int32) (by decide)) E172_b145 E172_b151 E172_b157
    refine own_aaload X171 hx hZ rfl A172_b143 rfl (own_ix (own_pk p2 (2 : Int32) (by decide))) (v := .ref y173) hy173 (hb hby at_123) ?_
    refine own_virtual X171 hx hZ hown (y := (⟨"java/util/ArrayList", "add", "(Ljava/lang/Object;)Z"⟩ : MethodName)) (z := (⟨"java/util/ArrayList", "add", "(Ljava/lang/Object;)Z"⟩ : MethodName)) (hw _ (List.mem_of_getElem? (i := 49) rfl)) (hw _ (List.mem_of_getElem? (i := 50) rfl)) (notFace_of_selects (args := #[]) (mvT hZ (hw _ (List.mem_of_getElem? (i := 52) rfl)))) (hw _ (List.mem_of_getElem? (i := 52) rfl)) (hw _ (List.mem_of_getElem? (i := 51) rfl)) (hw _ (List.mem_of_getElem? (i := 27) rfl)) (hw _ (List.mem_of_getElem? (i := 53) rfl)) (a := b163) r171_0 (by decide) (W := 0) (by decide) (by decide) N171 rfl (by rw [hml]; rfl) (argsL := [(.ref y173)]) (rest := []) (lenOf pd_18 rfl) (Nat.le_of_eq rfl) (by decide) (by decide) (rm7r2 l Z a0 hw [] b163 y173 (((0 : Int32) + (1 : Int32)) + (1 : Int32)) b_168 k_168 y167 y170 w_EMPTY_ELEMENTDATA w_DEFAULTCAPACITY_EMPTY_ELEMENTDATA w_EMPTY w_EMPTY_LIST k_w_EMPTY_ELEMENTDATA k_w_DEFAULTCAPACITY_EMPTY_ELEMENTDATA w_mir w_els k_els T171.heap n0 O172 ⟨z0, z1, z2, z3, z4, z5, z6, z7, z8, z9, z10, z11, zm, z13, z14, trivial⟩ r171_0 r171_1 r171_2 r171_3 r171_4 r171_5 ge_b163 ge_b_168 r168_7 hE173) rfl (hb hby at_124) ?_
    intro v174 T174 lc174 X174 N174 hQ174
    obtain ⟨rfl, K174, r174_0, r174_1, r174_2, r174_3, r174_4, r174_5⟩ := hQ174
    have E175_b145 := E172_b145.keep K174
    have E175_b151 := E172_b151.keep K174
    have E175_b157 := E172_b157.keep K174
    have E175_y167 := E172_y167.keep K174
    have E175_y170 := E172_y170.keep K174
    have E175_y173 := hE173.keep K174
    have A175_b143 := A172_b143.keep K174 (ninS ne_b143_b163 (ninS ne_b143_b_168 nin0))
    have O175 := O172.keep K174 (allS ge_b163 (allS ge_b_168 all0))
    refine own_pop X174 hx (hb hby at_127) rfl ?_
    refine own_new X174 hx hZ hown (hw _ (List.mem_of_getElem? (i := 25) rfl)) (hw _ (List.mem_of_getElem? (i := 26) rfl)) (hw _ (List.mem_of_getElem? (i := 27) rfl)) rfl (hb hby at_128) (by decide) (by decide) (fun T176 h176 b176 g176 X176 e176 E176 A176 D176 => ?_)
    have ne_b143_b176 : b143 ≠ b176 := Nat.ne_of_lt (Nat.lt_of_lt_of_le A175_b143.lt (Nat.le_of_eq g176.symm))
    have ne_b_168_b176 : b_168 ≠ b176 := Nat.ne_of_lt (Nat.lt_of_lt_of_le r174_5.lt (Nat.le_of_eq g176.symm))
    have ne_b163_b176 : b163 ≠ b176 := Nat.ne_of_lt (Nat.lt_of_lt_of_le r174_0.lt (Nat.le_of_eq g176.symm))
    have ge_b176 : n0 ≤ b176 := Nat.le_trans (own_sz O175) (Nat.le_of_eq g176.symm)
    have E177_b145 := E175_b145.ext E176
    have E177_b151 := E175_b151.ext E176
    have E177_b157 := E175_b157.ext E176
    have E177_b163 := r174_0.ext E176
    have E177_y167 := E175_y167.ext E176
    have E177_b_168 := r174_5.ext E176
    have E177_y170 := E175_y170.ext E176
    have E177_y173 := E175_y173.ext E176
    have F177_modCount_b163 := r174_1.ext E176
    have F177_elementData_b163 := r174_2.ext E176
    have F177_size_b163 := r174_3.ext E176
    have A177_b143 := A175_b143.ext E176
    have A177_b_168 := r174_4.ext E176
    have O177 := O175.ext E176
    have F176_modCount_b176 : Fld Z h176 b176 "java/util/AbstractList" "modCount" "I" (.int (0 : Int32)) := D176 (Or.inl (hw _ (List.mem_of_getElem? (i := 45) rfl))) (ty := .int) (by decide)
    have F176_elementData_b176 : Fld Z h176 b176 "java/util/ArrayList" "elementData" "[Ljava/lang/Object;" .null := D176 (Or.inl (hw _ (List.mem_of_getElem? (i := 48) rfl))) (ty := (.array (.object "java/lang/Object"))) (by decide)
    have F176_size_b176 : Fld Z h176 b176 "java/util/ArrayList" "size" "I" (.int (0 : Int32)) := D176 (Or.inl (hw _ (List.mem_of_getElem? (i := 57) rfl))) (ty := .int) (by decide)
    refine own_dup X176 hx (hb hby at_131) rfl ?_
    refine own_special X176 hx hZ hown (y := (⟨"java/util/ArrayList", "<init>", "()V"⟩ : MethodName)) rfl (hw _ (List.mem_of_getElem? (i := 28) rfl)) (hw _ (List.mem_of_getElem? (i := 29) rfl)) (hw _ (List.mem_of_getElem? (i := 27) rfl)) (hw _ (List.mem_of_getElem? (i := 30) rfl)) (a := b176) (by decide) (W := 1) (by decide) (by decide) N174 e176 (by rw [hml]; rfl) (argsL := []) (rest := [(.ref b176)]) (lenOf pd_0 rfl) (Nat.le_of_eq rfl) (by decide) (by decide) (rm4 l Z a0 hw [] b176 ((.int (0 : Int32))) (.null) w_EMPTY_ELEMENTDATA w_DEFAULTCAPACITY_EMPTY_ELEMENTDATA w_EMPTY w_EMPTY_LIST k_w_EMPTY_ELEMENTDATA k_w_DEFAULTCAPACITY_EMPTY_ELEMENTDATA w_mir w_els k_els h176 n0 O177 ⟨z0, z1, z2, z3, z4, z5, z6, z7, z8, z9, z10, z11, zm, z13, z14, trivial⟩ A176 F176_modCount_b176 F176_elementData_b176 F176_size_b176 ge_b176) rfl (hb hby at_132) ?_
    intro v178 T178 lc178 X178 N178 hQ178
    obtain ⟨rfl, K178, r178_0, r178_1, r178_2, r178_3⟩ := hQ178
    have E179_b145 := E177_b145.keep K178
    have E179_b151 := E177_b151.keep K178
    have E179_b157 := E177_b157.keep K178
    have E179_b163 := E177_b163.keep K178
    have E179_y167 := E177_y167.keep K178
    have E179_b_168 := E177_b_168.keep K178
    have E179_y170 := E177_y170.keep K178
    have E179_y173 := E177_y173.keep K178
    have F179_modCount_b163 := F177_modCount_b163.keep K178 (ninS ne_b163_b176 nin0)
    have F179_elementData_b163 := F177_elementData_b163.keep K178 (ninS ne_b163_b176 nin0)
    have F179_size_b163 := F177_size_b163.keep K178 (ninS ne_b163_b176 nin0)
    have A179_b143 := A177_b143.keep K178 (ninS ne_b143_b176 nin0)
    have A179_b_168 := A177_b_168.keep K178 (ninS ne_b_168_b176 nin0)
    have O179 := O177.keep K178 (allS ge_b176 all0)
    refine own_astore X178 hx (Ls' := #[.val (.int p1), .val (.int p2), .val (.int p3), .val (.int (((p1 &&& (2147483647 : Int32)) % (3 : Int32)) + (1 : Int32))), .val (.int ((p2 &&& (2147483647 : Int32)) % (3 : Int32))), .val (.ref b143), .val (.ref b163), .val (.ref b176), .unset, .unset]) (hb hby at_135) rfl rfl ?_
    refine own_aload X178 hx (hb hby at_137) rfl rfl ?_
    refine own_new X178 hx hZ hown (hw _ (List.mem_of_getElem? (i := 80) rfl)) (hw _ (List.mem_of_getElem? (i := 81) rfl)) (hw _ (List.mem_of_getElem? (i := 82) rfl)) rfl (hb hby at_139) (by decide) (by decide) (fun T180 h180 b180 g180 X180 e180 E180 A180 D180 => ?_)
    have ne_b143_b180 : b143 ≠ b180 := Nat.ne_of_lt (Nat.lt_of_lt_of_le A179_b143.lt (Nat.le_of_eq g180.symm))
    have ne_b176_b180 : b176 ≠ b180 := Nat.ne_of_lt (Nat.lt_of_lt_of_le r178_0.lt (Nat.le_of_eq g180.symm))
    have ne_b_168_b180 : b_168 ≠ b180 := Nat.ne_of_lt (Nat.lt_of_lt_of_le E179_b_168.lt (Nat.le_of_eq g180.symm))
    have ne_b163_b180 : b163 ≠ b180 := Nat.ne_of_lt (Nat.lt_of_lt_of_le E179_b163.lt (Nat.le_of_eq g180.symm))
    have ge_b180 : n0 ≤ b180 := Nat.le_trans (own_sz O179) (Nat.le_of_eq g180.symm)
    have E181_b145 := E179_b145.ext E180
    have E181_b151 := E179_b151.ext E180
    have E181_b157 := E179_b157.ext E180
    have E181_b163 := E179_b163.ext E180
    have E181_y167 := E179_y167.ext E180
    have E181_b_168 := E179_b_168.ext E180
    have E181_y170 := E179_y170.ext E180
    have E181_y173 := E179_y173.ext E180
    have E181_b176 := r178_0.ext E180
    have F181_modCount_b163 := F179_modCount_b163.ext E180
    have F181_elementData_b163 := F179_elementData_b163.ext E180
    have F181_size_b163 := F179_size_b163.ext E180
    have F181_modCount_b176 := r178_1.ext E180
    have F181_elementData_b176 := r178_2.ext E180
    have F181_size_b176 := r178_3.ext E180
    have A181_b143 := A179_b143.ext E180
    have A181_b_168 := A179_b_168.ext E180
    have O181 := O179.ext E180
    have F180_location_b180 : Fld Z h180 b180 "com/example/gantry/gantry/resolver/Resolution$Jar" "location" "Ljava/net/URI;" .null := D180 (Or.inr (hw _ (List.mem_of_getElem? (i := 88) rfl))) (ty := (.object "java/net/URI")) (by decide)
    have F180_namedBy_b180 : Fld Z h180 b180 "com/example/gantry/gantry/resolver/Resolution$Jar" "namedBy" "Lcom/example/gantry/gantry/resolver/LocalCopy;" .null := D180 (Or.inr (hw _ (List.mem_of_getElem? (i := 90) rfl))) (ty := (.object "com/example/gantry/gantry/resolver/LocalCopy")) (by decide)
    refine own_dup X180 hx (hb hby at_142) rfl ?_
    refine own_aconst_null X180 hx (hb hby at_143) ?_
    refine own_aload X180 hx (hb hby at_144) rfl rfl ?_
    show Goes _ _ _ _ _ _ (T180.setTop (mkF m 146 #[.val (.int p1), .val (.int p2), .val (.int p3), .val (.int (((p1 &&& (2147483647 : Int32)) % (3 : Int32)) + (1 : Int32))), .val (.int ((p2 &&& (2147483647 : Int32)) % (3 : Int32))), .val (.ref b143), .val (.ref b163), .val (.ref b176), .unset, .unset] [(.ref b143), .null, (.ref b180), (.ref b180), (.ref b176)]))
    refine own_iload X180 hx (hb hby at_146) rfl ?_
    refine own_iloadN X180 hx (hb hby at_148) rfl ?_
    refine own_iadd X180 hx (hb hby at_149) ?_
    refine own_iconst X180 hx (v := (1 : Int32)) (hb hby at_150) rfl ?_
    refine own_isub X180 hx (hb hby at_151) ?_
    refine own_iconst X180 hx (v := (3 : Int32)) (hb hby at_152) rfl ?_
    refine own_irem X180 hx (hb hby at_153) (by decide) ?_
    show Goes _ _ _ _ _ _ (T180.setTop (mkF m 154 #[.val (.int p1), .val (.int p2), .val (.int p3), .val (.int (((p1 &&& (2147483647 : Int32)) % (3 : Int32)) + (1 : Int32))), .val (.int ((p2 &&& (2147483647 : Int32)) % (3 : Int32))), .val (.ref b143), .val (.ref b163), .val (.ref b176), .unset, .unset] [(.int (((((p2 &&& (2147483647 : Int32)) % (3 : Int32)) + (((p1 &&& (2147483647 : Int32)) % (3 : Int32)) + (1 : Int32))) - (1 : Int32)) % (3 : Int32))), (.ref b143), .null, (.ref b180), (.ref b180), (.ref b176)]))
    obtain ⟨y182, hy182, hE182⟩ := own_pick (j := (((((p2 &&& (2147483647 : Int32)) % (3 : Int32)) + (((p1 &&& (2147483647 : Int32)) % (3 : Int32)) + (1 : Int32))) - (1 : Int32)) % (3 : Int32))) (own_pn p2 p1) E181_b145 E181_b151 E181_b157
    refine own_aaload X180 hx hZ e180 A181_b143 rfl (own_ix (own_pn p2 p1)) (v := .ref y182) hy182 (hb hby at_154) ?_
    refine own_special X180 hx hZ hown (y := (⟨"com/example/gantry/gantry/resolver/Resolution$Jar", "<init>", "(Ljava/net/URI;Lcom/example/gantry/gantry/resolver/LocalCopy;)V"⟩ : MethodName)) rfl (hw _ (List.mem_of_getElem? (i := 83) rfl)) (hw _ (List.mem_of_getElem? (i := 84) rfl)) (hw _ (List.mem_of_getElem? (i := 82) rfl)) (hw _ (List.mem_of_getElem? (i := 85) rfl)) (a := b180) (by decide) (W := 2) (by decide) (by decide) N178 e180 (by rw [hml]; rfl) (argsL := [.null, (.ref y182)]) (rest := [(.ref b180), (.ref b176)]) (lenOf pd_19 rfl) (Nat.le_of_eq rfl) (by decide) (by decide) (rm12 l Z a0 hw [] b180 y182 (.null) (.null) h180 n0 O181 A180 F180_location_b180 F180_namedBy_b180 ge_b180) rfl (hb hby at_155) ?_
    intro v183 T183 lc183 X183 N183 hQ183
    obtain ⟨rfl, K183, r183_0⟩ := hQ183
    have E184_b163 := E181_b163.keep K183
    have E184_y167 := E181_y167.keep K183
    have E184_b_168 := E181_b_168.keep K183
    have E184_y170 := E181_y170.keep K183
    have E184_y173 := E181_y173.keep K183
    have E184_b176 := E181_b176.keep K183
    have F184_modCount_b163 := F181_modCount_b163.keep K183 (ninS ne_b163_b180 nin0)
    have F184_elementData_b163 := F181_elementData_b163.keep K183 (ninS ne_b163_b180 nin0)
    have F184_size_b163 := F181_size_b163.keep K183 (ninS ne_b163_b180 nin0)
    have F184_modCount_b176 := F181_modCount_b176.keep K183 (ninS ne_b176_b180 nin0)
    have F184_elementData_b176 := F181_elementData_b176.keep K183 (ninS ne_b176_b180 nin0)
    have F184_size_b176 := F181_size_b176.keep K183 (ninS ne_b176_b180 nin0)
    have A184_b143 := A181_b143.keep K183 (ninS ne_b143_b180 nin0)
    have A184_b_168 := A181_b_168.keep K183 (ninS ne_b_168_b180 nin0)
    have O184 := O181.keep K183 (allS ge_b180 all0)
    refine own_virtual X183 hx hZ hown (y := (⟨"java/util/ArrayList", "add", "(Ljava/lang/Object;)Z"⟩ : MethodName)) (z := (⟨"java/util/ArrayList", "add", "(Ljava/lang/Object;)Z"⟩ : MethodName)) (hw _ (List.mem_of_getElem? (i := 49) rfl)) (hw _ (List.mem_of_getElem? (i := 50) rfl)) (notFace_of_selects (args := #[]) (mvT hZ (hw _ (List.mem_of_getElem? (i := 52) rfl)))) (hw _ (List.mem_of_getElem? (i := 52) rfl)) (hw _ (List.mem_of_getElem? (i := 51) rfl)) (hw _ (List.mem_of_getElem? (i := 27) rfl)) (hw _ (List.mem_of_getElem? (i := 53) rfl)) (a := b176) E184_b176 (by decide) (W := 0) (by decide) (by decide) N183 rfl (by rw [hml]; rfl) (argsL := [(.ref b180)]) (rest := []) (lenOf pd_18 rfl) (Nat.le_of_eq rfl) (by decide) (by decide) (rm7gJ l Z a0 hw [] b176 b180 (0 : Int32) w_EMPTY_ELEMENTDATA w_DEFAULTCAPACITY_EMPTY_ELEMENTDATA w_EMPTY w_EMPTY_LIST k_w_EMPTY_ELEMENTDATA k_w_DEFAULTCAPACITY_EMPTY_ELEMENTDATA w_mir w_els k_els T183.heap n0 O184 ⟨z0, z1, z2, z3, z4, z5, z6, z7, z8, z9, z10, z11, zm, z13, z14, trivial⟩ E184_b176 F184_modCount_b176 F184_elementData_b176 F184_size_b176 ge_b176 r183_0) rfl (hb hby at_158) ?_
    intro v185 T185 lc185 X185 N185 hQ185
    obtain ⟨b_185, k_185, rfl, K185, r185_0, r185_1, r185_2, r185_3, r185_4, r185_5, r185_6, r185_7⟩ := hQ185
    have E186_b163 := E184_b163.keep K185
    have E186_y167 := E184_y167.keep K185
    have E186_b_168 := E184_b_168.keep K185
    have E186_y170 := E184_y170.keep K185
    have E186_y173 := E184_y173.keep K185
    have E186_b180 := r183_0.keep K185
    have F186_modCount_b163 := F184_modCount_b163.keep K185 (ninS ne_b163_b176 nin0)
    have F186_elementData_b163 := F184_elementData_b163.keep K185 (ninS ne_b163_b176 nin0)
    have F186_size_b163 := F184_size_b163.keep K185 (ninS ne_b163_b176 nin0)
    have A186_b143 := A184_b143.keep K185 (ninS ne_b143_b176 nin0)
    have A186_b_168 := A184_b_168.keep K185 (ninS ne_b_168_b176 nin0)
    have O186 := O184.keep K185 (allS ge_b176 all0)
    have ge_b_185 : n0 ≤ b_185 := Nat.le_trans (own_sz O184) r185_6
    refine own_pop X185 hx (hb hby at_161) rfl ?_
    refine own_new X185 hx hZ hown (hw _ (List.mem_of_getElem? (i := 92) rfl)) (hw _ (List.mem_of_getElem? (i := 93) rfl)) (hw _ (List.mem_of_getElem? (i := 94) rfl)) rfl (hb hby at_162) (by decide) (by decide) (fun T187 h187 b187 g187 X187 e187 E187 A187 D187 => ?_)
    have ne_b143_b187 : b143 ≠ b187 := Nat.ne_of_lt (Nat.lt_of_lt_of_le A186_b143.lt (Nat.le_of_eq g187.symm))
    have ne_b176_b187 : b176 ≠ b187 := Nat.ne_of_lt (Nat.lt_of_lt_of_le r185_0.lt (Nat.le_of_eq g187.symm))
    have ne_b_168_b187 : b_168 ≠ b187 := Nat.ne_of_lt (Nat.lt_of_lt_of_le E186_b_168.lt (Nat.le_of_eq g187.symm))
    have ne_b_185_b187 : b_185 ≠ b187 := Nat.ne_of_lt (Nat.lt_of_lt_of_le r185_5.lt (Nat.le_of_eq g187.symm))
    have ne_b163_b187 : b163 ≠ b187 := Nat.ne_of_lt (Nat.lt_of_lt_of_le E186_b163.lt (Nat.le_of_eq g187.symm))
    have ge_b187 : n0 ≤ b187 := Nat.le_trans (own_sz O186) (Nat.le_of_eq g187.symm)
    have E188_b163 := E186_b163.ext E187
    have E188_y167 := E186_y167.ext E187
    have E188_b_168 := E186_b_168.ext E187
    have E188_y170 := E186_y170.ext E187
    have E188_y173 := E186_y173.ext E187
    have E188_b176 := r185_0.ext E187
    have E188_b180 := E186_b180.ext E187
    have E188_b_185 := r185_5.ext E187
    have F188_modCount_b163 := F186_modCount_b163.ext E187
    have F188_elementData_b163 := F186_elementData_b163.ext E187
    have F188_size_b163 := F186_size_b163.ext E187
    have F188_elementData_b176 := r185_2.ext E187
    have F188_size_b176 := r185_3.ext E187
    have A188_b143 := A186_b143.ext E187
    have A188_b_168 := A186_b_168.ext E187
    have A188_b_185 := r185_4.ext E187
    have O188 := O186.ext E187
    have F187_descriptors_b187 : Fld Z h187 b187 "com/example/gantry/gantry/resolver/Resolution" "descriptors" "Ljava/util/List;" .null := D187 (Or.inr (hw _ (List.mem_of_getElem? (i := 199) rfl))) (ty := (.object "java/util/List")) (by decide)
    have F187_mainClass_b187 : Fld Z h187 b187 "com/example/gantry/gantry/resolver/Resolution" "mainClass" "Ljava/util/Optional;" .null := D187 (Or.inr (hw _ (List.mem_of_getElem? (i := 201) rfl))) (ty := (.object "java/util/Optional")) (by decide)
    have F187_arguments_b187 : Fld Z h187 b187 "com/example/gantry/gantry/resolver/Resolution" "arguments" "Ljava/util/List;" .null := D187 (Or.inr (hw _ (List.mem_of_getElem? (i := 203) rfl))) (ty := (.object "java/util/List")) (by decide)
    have F187_allPermissions_b187 : Fld Z h187 b187 "com/example/gantry/gantry/resolver/Resolution" "allPermissions" "Z" (.int (0 : Int32)) := D187 (Or.inr (hw _ (List.mem_of_getElem? (i := 205) rfl))) (ty := .boolean) (by decide)
    have F187_javaRequests_b187 : Fld Z h187 b187 "com/example/gantry/gantry/resolver/Resolution" "javaRequests" "Ljava/util/List;" .null := D187 (Or.inr (hw _ (List.mem_of_getElem? (i := 207) rfl))) (ty := (.object "java/util/List")) (by decide)
    have F187_jars_b187 : Fld Z h187 b187 "com/example/gantry/gantry/resolver/Resolution" "jars" "Ljava/util/List;" .null := D187 (Or.inr (hw _ (List.mem_of_getElem? (i := 209) rfl))) (ty := (.object "java/util/List")) (by decide)
    have F187_nativeLibraries_b187 : Fld Z h187 b187 "com/example/gantry/gantry/resolver/Resolution" "nativeLibraries" "Ljava/util/List;" .null := D187 (Or.inr (hw _ (List.mem_of_getElem? (i := 211) rfl))) (ty := (.object "java/util/List")) (by decide)
    have F187_properties_b187 : Fld Z h187 b187 "com/example/gantry/gantry/resolver/Resolution" "properties" "Ljava/util/List;" .null := D187 (Or.inr (hw _ (List.mem_of_getElem? (i := 213) rfl))) (ty := (.object "java/util/List")) (by decide)
    refine own_dup X187 hx (hb hby at_165) rfl ?_
    refine own_aload X187 hx (hb hby at_166) rfl rfl ?_
    refine own_aconst_null X187 hx (hb hby at_168) ?_
    show Goes _ _ _ _ _ _ (T187.setTop (mkF m 169 #[.val (.int p1), .val (.int p2), .val (.int p3), .val (.int (((p1 &&& (2147483647 : Int32)) % (3 : Int32)) + (1 : Int32))), .val (.int ((p2 &&& (2147483647 : Int32)) % (3 : Int32))), .val (.ref b143), .val (.ref b163), .val (.ref b176), .unset, .unset] [.null, (.ref b163), (.ref b187), (.ref b187)]))
    refine own_new X187 hx hZ hown (hw _ (List.mem_of_getElem? (i := 25) rfl)) (hw _ (List.mem_of_getElem? (i := 26) rfl)) (hw _ (List.mem_of_getElem? (i := 27) rfl)) e187 (hb hby at_169) (by decide) (by decide) (fun T189 h189 b189 g189 X189 e189 E189 A189 D189 => ?_)
    have ne_b143_b189 : b143 ≠ b189 := Nat.ne_of_lt (Nat.lt_of_lt_of_le A188_b143.lt (Nat.le_of_eq g189.symm))
    have ne_b176_b189 : b176 ≠ b189 := Nat.ne_of_lt (Nat.lt_of_lt_of_le E188_b176.lt (Nat.le_of_eq g189.symm))
    have ne_b_168_b189 : b_168 ≠ b189 := Nat.ne_of_lt (Nat.lt_of_lt_of_le E188_b_168.lt (Nat.le_of_eq g189.symm))
    have ne_b_185_b189 : b_185 ≠ b189 := Nat.ne_of_lt (Nat.lt_of_lt_of_le E188_b_185.lt (Nat.le_of_eq g189.symm))
    have ne_b187_b189 : b187 ≠ b189 := Nat.ne_of_lt (Nat.lt_of_lt_of_le A187.lt (Nat.le_of_eq g189.symm))
    have ne_b163_b189 : b163 ≠ b189 := Nat.ne_of_lt (Nat.lt_of_lt_of_le E188_b163.lt (Nat.le_of_eq g189.symm))
    have ge_b189 : n0 ≤ b189 := Nat.le_trans (own_sz O188) (Nat.le_of_eq g189.symm)
    have E190_b163 := E188_b163.ext E189
    have E190_y167 := E188_y167.ext E189
    have E190_b_168 := E188_b_168.ext E189
    have E190_y170 := E188_y170.ext E189
    have E190_y173 := E188_y173.ext E189
    have E190_b176 := E188_b176.ext E189
    have E190_b180 := E188_b180.ext E189
    have E190_b_185 := E188_b_185.ext E189
    have E190_b187 := A187.ext E189
    have F190_modCount_b163 := F188_modCount_b163.ext E189
    have F190_elementData_b163 := F188_elementData_b163.ext E189
    have F190_size_b163 := F188_size_b163.ext E189
    have F190_elementData_b176 := F188_elementData_b176.ext E189
    have F190_size_b176 := F188_size_b176.ext E189
    have F190_descriptors_b187 := F187_descriptors_b187.ext E189
    have F190_mainClass_b187 := F187_mainClass_b187.ext E189
    have F190_arguments_b187 := F187_arguments_b187.ext E189
    have F190_allPermissions_b187 := F187_allPermissions_b187.ext E189
    have F190_javaRequests_b187 := F187_javaRequests_b187.ext E189
    have F190_jars_b187 := F187_jars_b187.ext E189
    have F190_nativeLibraries_b187 := F187_nativeLibraries_b187.ext E189
    have F190_properties_b187 := F187_properties_b187.ext E189
    have A190_b143 := A188_b143.ext E189
    have A190_b_168 := A188_b_168.ext E189
    have A190_b_185 := A188_b_185.ext E189
    have O190 := O188.ext E189
    have F189_modCount_b189 : Fld Z h189 b189 "java/util/AbstractList" "modCount" "I" (.int (0 : Int32)) := D189 (Or.inl (hw _ (List.mem_of_getElem? (i := 45) rfl))) (ty := .int) (by decide)
    have F189_elementData_b189 : Fld Z h189 b189 "java/util/ArrayList" "elementData" "[Ljava/lang/Object;" .null := D189 (Or.inl (hw _ (List.mem_of_getElem? (i := 48) rfl))) (ty := (.array (.object "java/lang/Object"))) (by decide)
    have F189_size_b189 : Fld Z h189 b189 "java/util/ArrayList" "size" "I" (.int (0 : Int32)) := D189 (Or.inl (hw _ (List.mem_of_getElem? (i := 57) rfl))) (ty := .int) (by decide)
    refine own_dup X189 hx (hb hby at_172) rfl ?_
    refine own_special X189 hx hZ hown (y := (⟨"java/util/ArrayList", "<init>", "()V"⟩ : MethodName)) rfl (hw _ (List.mem_of_getElem? (i := 28) rfl)) (hw _ (List.mem_of_getElem? (i := 29) rfl)) (hw _ (List.mem_of_getElem? (i := 27) rfl)) (hw _ (List.mem_of_getElem? (i := 30) rfl)) (a := b189) (by decide) (W := 5) (by decide) (by decide) N185 e189 (by rw [hml]; rfl) (argsL := []) (rest := [(.ref b189), .null, (.ref b163), (.ref b187), (.ref b187)]) (lenOf pd_0 rfl) (Nat.le_of_eq rfl) (by decide) (by decide) (rm4 l Z a0 hw [] b189 ((.int (0 : Int32))) (.null) w_EMPTY_ELEMENTDATA w_DEFAULTCAPACITY_EMPTY_ELEMENTDATA w_EMPTY w_EMPTY_LIST k_w_EMPTY_ELEMENTDATA k_w_DEFAULTCAPACITY_EMPTY_ELEMENTDATA w_mir w_els k_els h189 n0 O190 ⟨z0, z1, z2, z3, z4, z5, z6, z7, z8, z9, z10, z11, zm, z13, z14, trivial⟩ A189 F189_modCount_b189 F189_elementData_b189 F189_size_b189 ge_b189) rfl (hb hby at_173) ?_
    intro v191 T191 lc191 X191 N191 hQ191
    obtain ⟨rfl, K191, r191_0, r191_1, r191_2, r191_3⟩ := hQ191
    have E192_b163 := E190_b163.keep K191
    have E192_y167 := E190_y167.keep K191
    have E192_b_168 := E190_b_168.keep K191
    have E192_y170 := E190_y170.keep K191
    have E192_y173 := E190_y173.keep K191
    have E192_b176 := E190_b176.keep K191
    have E192_b180 := E190_b180.keep K191
    have E192_b_185 := E190_b_185.keep K191
    have E192_b187 := E190_b187.keep K191
    have F192_modCount_b163 := F190_modCount_b163.keep K191 (ninS ne_b163_b189 nin0)
    have F192_elementData_b163 := F190_elementData_b163.keep K191 (ninS ne_b163_b189 nin0)
    have F192_size_b163 := F190_size_b163.keep K191 (ninS ne_b163_b189 nin0)
    have F192_elementData_b176 := F190_elementData_b176.keep K191 (ninS ne_b176_b189 nin0)
    have F192_size_b176 := F190_size_b176.keep K191 (ninS ne_b176_b189 nin0)
    have F192_descriptors_b187 := F190_descriptors_b187.keep K191 (ninS ne_b187_b189 nin0)
    have F192_mainClass_b187 := F190_mainClass_b187.keep K191 (ninS ne_b187_b189 nin0)
    have F192_arguments_b187 := F190_arguments_b187.keep K191 (ninS ne_b187_b189 nin0)
    have F192_allPermissions_b187 := F190_allPermissions_b187.keep K191 (ninS ne_b187_b189 nin0)
    have F192_javaRequests_b187 := F190_javaRequests_b187.keep K191 (ninS ne_b187_b189 nin0)
    have F192_jars_b187 := F190_jars_b187.keep K191 (ninS ne_b187_b189 nin0)
    have F192_nativeLibraries_b187 := F190_nativeLibraries_b187.keep K191 (ninS ne_b187_b189 nin0)
    have F192_properties_b187 := F190_properties_b187.keep K191 (ninS ne_b187_b189 nin0)
    have A192_b143 := A190_b143.keep K191 (ninS ne_b143_b189 nin0)
    have A192_b_168 := A190_b_168.keep K191 (ninS ne_b_168_b189 nin0)
    have A192_b_185 := A190_b_185.keep K191 (ninS ne_b_185_b189 nin0)
    have O192 := O190.keep K191 (allS ge_b189 all0)
    refine own_iloadN X191 hx (hb hby at_176) rfl ?_
    refine own_iconst X191 hx (v := (1 : Int32)) (hb hby at_177) rfl ?_
    refine own_iand X191 hx (hb hby at_178) ?_
    show Goes _ _ _ _ _ _ (T191.setTop (mkF m 179 #[.val (.int p1), .val (.int p2), .val (.int p3), .val (.int (((p1 &&& (2147483647 : Int32)) % (3 : Int32)) + (1 : Int32))), .val (.int ((p2 &&& (2147483647 : Int32)) % (3 : Int32))), .val (.ref b143), .val (.ref b163), .val (.ref b176), .unset, .unset] [(.int (p3 &&& (1 : Int32))), (.ref b189), .null, (.ref b163), (.ref b187), (.ref b187)]))
    have jn187_194 : ∀ (T194 : State) (lc194 : List Loc) (X194 : Stand p l e room_1 s m #[(.int p1), (.int p2), (.int p3)] below meth c T194 lc194 11 54) (N194 : Fr n0 lc194) (e194 : T194.heap = T191.heap) (w194 : Int32) (hj194 : narrow .boolean (.int w194) = .int w194 ∧ fits .boolean (.int w194) = true), Goes p e below (fun o t L => FrameEnd s o t L (48) (256)) n0 (Q0 Z p1 p2 p3 w_EMPTY_ELEMENTDATA w_DEFAULTCAPACITY_EMPTY_ELEMENTDATA w_EMPTY w_EMPTY_LIST k_w_EMPTY_ELEMENTDATA k_w_DEFAULTCAPACITY_EMPTY_ELEMENTDATA w_mir w_els k_els h0 n0) (T194.setTop (mkF m 187 #[.val (.int p1), .val (.int p2), .val (.int p3), .val (.int (((p1 &&& (2147483647 : Int32)) % (3 : Int32)) + (1 : Int32))), .val (.int ((p2 &&& (2147483647 : Int32)) % (3 : Int32))), .val (.ref b143), .val (.ref b163), .val (.ref b176), .unset, .unset] [(.int w194), (.ref b189), .null, (.ref b163), (.ref b187), (.ref b187)])) := by
      intro T194 lc194 X194 N194 e194 w194 hj194
      refine own_new X194 hx hZ hown (hw _ (List.mem_of_getElem? (i := 25) rfl)) (hw _ (List.mem_of_getElem? (i := 26) rfl)) (hw _ (List.mem_of_getElem? (i := 27) rfl)) e194 (hb hby at_187) (by decide) (by decide) (fun T195 h195 b195 g195 X195 e195 E195 A195 D195 => ?_)
      have ne_b143_b195 : b143 ≠ b195 := Nat.ne_of_lt (Nat.lt_of_lt_of_le A192_b143.lt (Nat.le_of_eq g195.symm))
      have ne_b176_b195 : b176 ≠ b195 := Nat.ne_of_lt (Nat.lt_of_lt_of_le E192_b176.lt (Nat.le_of_eq g195.symm))
      have ne_b_168_b195 : b_168 ≠ b195 := Nat.ne_of_lt (Nat.lt_of_lt_of_le E192_b_168.lt (Nat.le_of_eq g195.symm))
      have ne_b_185_b195 : b_185 ≠ b195 := Nat.ne_of_lt (Nat.lt_of_lt_of_le E192_b_185.lt (Nat.le_of_eq g195.symm))
      have ne_b187_b195 : b187 ≠ b195 := Nat.ne_of_lt (Nat.lt_of_lt_of_le E192_b187.lt (Nat.le_of_eq g195.symm))
      have ne_b189_b195 : b189 ≠ b195 := Nat.ne_of_lt (Nat.lt_of_lt_of_le r191_0.lt (Nat.le_of_eq g195.symm))
      have ne_b163_b195 : b163 ≠ b195 := Nat.ne_of_lt (Nat.lt_of_lt_of_le E192_b163.lt (Nat.le_of_eq g195.symm))
      have ge_b195 : n0 ≤ b195 := Nat.le_trans (own_sz O192) (Nat.le_of_eq g195.symm)
      have E196_b163 := E192_b163.ext E195
      have E196_y167 := E192_y167.ext E195
      have E196_b_168 := E192_b_168.ext E195
      have E196_y170 := E192_y170.ext E195
      have E196_y173 := E192_y173.ext E195
      have E196_b176 := E192_b176.ext E195
      have E196_b180 := E192_b180.ext E195
      have E196_b_185 := E192_b_185.ext E195
      have E196_b187 := E192_b187.ext E195
      have E196_b189 := r191_0.ext E195
      have F196_modCount_b163 := F192_modCount_b163.ext E195
      have F196_elementData_b163 := F192_elementData_b163.ext E195
      have F196_size_b163 := F192_size_b163.ext E195
      have F196_elementData_b176 := F192_elementData_b176.ext E195
      have F196_size_b176 := F192_size_b176.ext E195
      have F196_descriptors_b187 := F192_descriptors_b187.ext E195
      have F196_mainClass_b187 := F192_mainClass_b187.ext E195
      have F196_arguments_b187 := F192_arguments_b187.ext E195
      have F196_allPermissions_b187 := F192_allPermissions_b187.ext E195
      have F196_javaRequests_b187 := F192_javaRequests_b187.ext E195
      have F196_jars_b187 := F192_jars_b187.ext E195
      have F196_nativeLibraries_b187 := F192_nativeLibraries_b187.ext E195
      have F196_properties_b187 := F192_properties_b187.ext E195
      have F196_size_b189 := r191_3.ext E195
      have A196_b143 := A192_b143.ext E195
      have A196_b_168 := A192_b_168.ext E195
      have A196_b_185 := A192_b_185.ext E195
      have O196 := O192.ext E195
      have F195_modCount_b195 : Fld Z h195 b195 "java/util/AbstractList" "modCount" "I" (.int (0 : Int32)) := D195 (Or.inl (hw _ (List.mem_of_getElem? (i := 45) rfl))) (ty := .int) (by decide)
      have F195_elementData_b195 : Fld Z h195 b195 "java/util/ArrayList" "elementData" "[Ljava/lang/Object;" .null := D195 (Or.inl (hw _ (List.mem_of_getElem? (i := 48) rfl))) (ty := (.array (.object "java/lang/Object"))) (by decide)
      have F195_size_b195 : Fld Z h195 b195 "java/util/ArrayList" "size" "I" (.int (0 : Int32)) := D195 (Or.inl (hw _ (List.mem_of_getElem? (i := 57) rfl))) (ty := .int) (by decide)
      refine own_dup X195 hx (hb hby at_190) rfl ?_
      refine own_special X195 hx hZ hown (y := (⟨"java/util/ArrayList", "<init>", "()V"⟩ : MethodName)) rfl (hw _ (List.mem_of_getElem? (i := 28) rfl)) (hw _ (List.mem_of_getElem? (i := 29) rfl)) (hw _ (List.mem_of_getElem? (i := 27) rfl)) (hw _ (List.mem_of_getElem? (i := 30) rfl)) (a := b195) (by decide) (W := 7) (by decide) (by decide) N194 e195 (by rw [hml]; rfl) (argsL := []) (rest := [(.ref b195), (.int w194), (.ref b189), .null, (.ref b163), (.ref b187), (.ref b187)]) (lenOf pd_0 rfl) (Nat.le_of_eq rfl) (by decide) (by decide) (rm4 l Z a0 hw [] b195 ((.int (0 : Int32))) (.null) w_EMPTY_ELEMENTDATA w_DEFAULTCAPACITY_EMPTY_ELEMENTDATA w_EMPTY w_EMPTY_LIST k_w_EMPTY_ELEMENTDATA k_w_DEFAULTCAPACITY_EMPTY_ELEMENTDATA w_mir w_els k_els h195 n0 O196 ⟨z0, z1, z2, z3, z4, z5, z6, z7, z8, z9, z10, z11, zm, z13, z14, trivial⟩ A195 F195_modCount_b195 F195_elementData_b195 F195_size_b195 ge_b195) rfl (hb hby at_191) ?_
      intro v197 T197 lc197 X197 N197 hQ197
      obtain ⟨rfl, K197, r197_0, r197_1, r197_2, r197_3⟩ := hQ197
      have E198_b163 := E196_b163.keep K197
      have E198_y167 := E196_y167.keep K197
      have E198_b_168 := E196_b_168.keep K197
      have E198_y170 := E196_y170.keep K197
      have E198_y173 := E196_y173.keep K197
      have E198_b176 := E196_b176.keep K197
      have E198_b180 := E196_b180.keep K197
      have E198_b_185 := E196_b_185.keep K197
      have E198_b187 := E196_b187.keep K197
      have E198_b189 := E196_b189.keep K197
      have F198_modCount_b163 := F196_modCount_b163.keep K197 (ninS ne_b163_b195 nin0)
      have F198_elementData_b163 := F196_elementData_b163.keep K197 (ninS ne_b163_b195 nin0)
      have F198_size_b163 := F196_size_b163.keep K197 (ninS ne_b163_b195 nin0)
      have F198_elementData_b176 := F196_elementData_b176.keep K197 (ninS ne_b176_b195 nin0)
      have F198_size_b176 := F196_size_b176.keep K197 (ninS ne_b176_b195 nin0)
      have F198_descriptors_b187 := F196_descriptors_b187.keep K197 (ninS ne_b187_b195 nin0)
      have F198_mainClass_b187 := F196_mainClass_b187.keep K197 (ninS ne_b187_b195 nin0)
      have F198_arguments_b187 := F196_arguments_b187.keep K197 (ninS ne_b187_b195 nin0)
      have F198_allPermissions_b187 := F196_allPermissions_b187.keep K197 (ninS ne_b187_b195 nin0)
      have F198_javaRequests_b187 := F196_javaRequests_b187.keep K197 (ninS ne_b187_b195 nin0)
      have F198_jars_b187 := F196_jars_b187.keep K197 (ninS ne_b187_b195 nin0)
      have F198_nativeLibraries_b187 := F196_nativeLibraries_b187.keep K197 (ninS ne_b187_b195 nin0)
      have F198_properties_b187 := F196_properties_b187.keep K197 (ninS ne_b187_b195 nin0)
      have F198_size_b189 := F196_size_b189.keep K197 (ninS ne_b189_b195 nin0)
      have A198_b143 := A196_b143.keep K197 (ninS ne_b143_b195 nin0)
      have A198_b_168 := A196_b_168.keep K197 (ninS ne_b_168_b195 nin0)
      have A198_b_185 := A196_b_185.keep K197 (ninS ne_b_185_b195 nin0)
      have O198 := O196.keep K197 (allS ge_b195 all0)
      refine own_aload X197 hx (hb hby at_194) rfl rfl ?_
      refine own_new X197 hx hZ hown (hw _ (List.mem_of_getElem? (i := 25) rfl)) (hw _ (List.mem_of_getElem? (i := 26) rfl)) (hw _ (List.mem_of_getElem? (i := 27) rfl)) rfl (hb hby at_196) (by decide) (by decide) (fun T199 h199 b199 g199 X199 e199 E199 A199 D199 => ?_)
      have ne_b143_b199 : b143 ≠ b199 := Nat.ne_of_lt (Nat.lt_of_lt_of_le A198_b143.lt (Nat.le_of_eq g199.symm))
      have ne_b176_b199 : b176 ≠ b199 := Nat.ne_of_lt (Nat.lt_of_lt_of_le E198_b176.lt (Nat.le_of_eq g199.symm))
      have ne_b_168_b199 : b_168 ≠ b199 := Nat.ne_of_lt (Nat.lt_of_lt_of_le E198_b_168.lt (Nat.le_of_eq g199.symm))
      have ne_b_185_b199 : b_185 ≠ b199 := Nat.ne_of_lt (Nat.lt_of_lt_of_le E198_b_185.lt (Nat.le_of_eq g199.symm))
      have ne_b187_b199 : b187 ≠ b199 := Nat.ne_of_lt (Nat.lt_of_lt_of_le E198_b187.lt (Nat.le_of_eq g199.symm))
      have ne_b195_b199 : b195 ≠ b199 := Nat.ne_of_lt (Nat.lt_of_lt_of_le r197_0.lt (Nat.le_of_eq g199.symm))
      have ne_b189_b199 : b189 ≠ b199 := Nat.ne_of_lt (Nat.lt_of_lt_of_le E198_b189.lt (Nat.le_of_eq g199.symm))
      have ne_b163_b199 : b163 ≠ b199 := Nat.ne_of_lt (Nat.lt_of_lt_of_le E198_b163.lt (Nat.le_of_eq g199.symm))
      have ge_b199 : n0 ≤ b199 := Nat.le_trans (own_sz O198) (Nat.le_of_eq g199.symm)
      have E200_b163 := E198_b163.ext E199
      have E200_y167 := E198_y167.ext E199
      have E200_b_168 := E198_b_168.ext E199
      have E200_y170 := E198_y170.ext E199
      have E200_y173 := E198_y173.ext E199
      have E200_b176 := E198_b176.ext E199
      have E200_b180 := E198_b180.ext E199
      have E200_b_185 := E198_b_185.ext E199
      have E200_b187 := E198_b187.ext E199
      have E200_b189 := E198_b189.ext E199
      have E200_b195 := r197_0.ext E199
      have F200_modCount_b163 := F198_modCount_b163.ext E199
      have F200_elementData_b163 := F198_elementData_b163.ext E199
      have F200_size_b163 := F198_size_b163.ext E199
      have F200_elementData_b176 := F198_elementData_b176.ext E199
      have F200_size_b176 := F198_size_b176.ext E199
      have F200_descriptors_b187 := F198_descriptors_b187.ext E199
      have F200_mainClass_b187 := F198_mainClass_b187.ext E199
      have F200_arguments_b187 := F198_arguments_b187.ext E199
      have F200_allPermissions_b187 := F198_allPermissions_b187.ext E199
      have F200_javaRequests_b187 := F198_javaRequests_b187.ext E199
      have F200_jars_b187 := F198_jars_b187.ext E199
      have F200_nativeLibraries_b187 := F198_nativeLibraries_b187.ext E199
      have F200_properties_b187 := F198_properties_b187.ext E199
      have F200_size_b189 := F198_size_b189.ext E199
      have F200_size_b195 := r197_3.ext E199
      have A200_b143 := A198_b143.ext E199
      have A200_b_168 := A198_b_168.ext E199
      have A200_b_185 := A198_b_185.ext E199
      have O200 := O198.ext E199
      have F199_modCount_b199 : Fld Z h199 b199 "java/util/AbstractList" "modCount" "I" (.int (0 : Int32)) := D199 (Or.inl (hw _ (List.mem_of_getElem? (i := 45) rfl))) (ty := .int) (by decide)
      have F199_elementData_b199 : Fld Z h199 b199 "java/util/ArrayList" "elementData" "[Ljava/lang/Object;" .null := D199 (Or.inl (hw _ (List.mem_of_getElem? (i := 48) rfl))) (ty := (.array (.object "java/lang/Object"))) (by decide)
      have F199_size_b199 : Fld Z h199 b199 "java/util/ArrayList" "size" "I" (.int (0 : Int32)) := D199 (Or.inl (hw _ (List.mem_of_getElem? (i := 57) rfl))) (ty := .int) (by decide)
      refine own_dup X199 hx (hb hby at_199) rfl ?_
      refine own_special X199 hx hZ hown (y := (⟨"java/util/ArrayList", "<init>", "()V"⟩ : MethodName)) rfl (hw _ (List.mem_of_getElem? (i := 28) rfl)) (hw _ (List.mem_of_getElem? (i := 29) rfl)) (hw _ (List.mem_of_getElem? (i := 27) rfl)) (hw _ (List.mem_of_getElem? (i := 30) rfl)) (a := b199) (by decide) (W := 9) (by decide) (by decide) N197 e199 (by rw [hml]; rfl) (argsL := []) (rest := [(.ref b199), (.ref b176), (.ref b195), (.int w194), (.ref b189), .null, (.ref b163), (.ref b187), (.ref b187)]) (lenOf pd_0 rfl) (Nat.le_of_eq rfl) (by decide) (by decide) (rm4 l Z a0 hw [] b199 ((.int (0 : Int32))) (.null) w_EMPTY_ELEMENTDATA w_DEFAULTCAPACITY_EMPTY_ELEMENTDATA w_EMPTY w_EMPTY_LIST k_w_EMPTY_ELEMENTDATA k_w_DEFAULTCAPACITY_EMPTY_ELEMENTDATA w_mir w_els k_els h199 n0 O200 ⟨z0, z1, z2, z3, z4, z5, z6, z7, z8, z9, z10, z11, zm, z13, z14, trivial⟩ A199 F199_modCount_b199 F199_elementData_b199 F199_size_b199 ge_b199) rfl (hb hby at_200) ?_
      intro v201 T201 lc201 X201 N201 hQ201
      obtain ⟨rfl, K201, r201_0, r201_1, r201_2, r201_3⟩ := hQ201
      have E202_b163 := E200_b163.keep K201
      have E202_y167 := E200_y167.keep K201
      have E202_b_168 := E200_b_168.keep K201
      have E202_y170 := E200_y170.keep K201
      have E202_y173 := E200_y173.keep K201
      have E202_b176 := E200_b176.keep K201
      have E202_b180 := E200_b180.keep K201
      have E202_b_185 := E200_b_185.keep K201
      have E202_b187 := E200_b187.keep K201
      have E202_b189 := E200_b189.keep K201
      have E202_b195 := E200_b195.keep K201
      have F202_modCount_b163 := F200_modCount_b163.keep K201 (ninS ne_b163_b199 nin0)
      have F202_elementData_b163 := F200_elementData_b163.keep K201 (ninS ne_b163_b199 nin0)
      have F202_size_b163 := F200_size_b163.keep K201 (ninS ne_b163_b199 nin0)
      have F202_elementData_b176 := F200_elementData_b176.keep K201 (ninS ne_b176_b199 nin0)
      have F202_size_b176 := F200_size_b176.keep K201 (ninS ne_b176_b199 nin0)
      have F202_descriptors_b187 := F200_descriptors_b187.keep K201 (ninS ne_b187_b199 nin0)
      have F202_mainClass_b187 := F200_mainClass_b187.keep K201 (ninS ne_b187_b199 nin0)
      have F202_arguments_b187 := F200_arguments_b187.keep K201 (ninS ne_b187_b199 nin0)
      have F202_allPermissions_b187 := F200_allPermissions_b187.keep K201 (ninS ne_b187_b199 nin0)
      have F202_javaRequests_b187 := F200_javaRequests_b187.keep K201 (ninS ne_b187_b199 nin0)
      have F202_jars_b187 := F200_jars_b187.keep K201 (ninS ne_b187_b199 nin0)
      have F202_nativeLibraries_b187 := F200_nativeLibraries_b187.keep K201 (ninS ne_b187_b199 nin0)
      have F202_properties_b187 := F200_properties_b187.keep K201 (ninS ne_b187_b199 nin0)
      have F202_size_b189 := F200_size_b189.keep K201 (ninS ne_b189_b199 nin0)
      have F202_size_b195 := F200_size_b195.keep K201 (ninS ne_b195_b199 nin0)
      have A202_b143 := A200_b143.keep K201 (ninS ne_b143_b199 nin0)
      have A202_b_168 := A200_b_168.keep K201 (ninS ne_b_168_b199 nin0)
      have A202_b_185 := A200_b_185.keep K201 (ninS ne_b_185_b199 nin0)
      have O202 := O200.keep K201 (allS ge_b199 all0)
      refine own_new X201 hx hZ hown (hw _ (List.mem_of_getElem? (i := 25) rfl)) (hw _ (List.mem_of_getElem? (i := 26) rfl)) (hw _ (List.mem_of_getElem? (i := 27) rfl)) rfl (hb hby at_203) (by decide) (by decide) (fun T203 h203 b203 g203 X203 e203 E203 A203 D203 => ?_)
      have ne_b_168_b203 : b_168 ≠ b203 := Nat.ne_of_lt (Nat.lt_of_lt_of_le E202_b_168.lt (Nat.le_of_eq g203.symm))
      have ne_b187_b203 : b187 ≠ b203 := Nat.ne_of_lt (Nat.lt_of_lt_of_le E202_b187.lt (Nat.le_of_eq g203.symm))
      have ne_b195_b203 : b195 ≠ b203 := Nat.ne_of_lt (Nat.lt_of_lt_of_le E202_b195.lt (Nat.le_of_eq g203.symm))
      have ne_b189_b203 : b189 ≠ b203 := Nat.ne_of_lt (Nat.lt_of_lt_of_le E202_b189.lt (Nat.le_of_eq g203.symm))
      have ne_b163_b203 : b163 ≠ b203 := Nat.ne_of_lt (Nat.lt_of_lt_of_le E202_b163.lt (Nat.le_of_eq g203.symm))
      have ne_b143_b203 : b143 ≠ b203 := Nat.ne_of_lt (Nat.lt_of_lt_of_le A202_b143.lt (Nat.le_of_eq g203.symm))
      have ne_b176_b203 : b176 ≠ b203 := Nat.ne_of_lt (Nat.lt_of_lt_of_le E202_b176.lt (Nat.le_of_eq g203.symm))
      have ne_b199_b203 : b199 ≠ b203 := Nat.ne_of_lt (Nat.lt_of_lt_of_le r201_0.lt (Nat.le_of_eq g203.symm))
      have ne_b_185_b203 : b_185 ≠ b203 := Nat.ne_of_lt (Nat.lt_of_lt_of_le E202_b_185.lt (Nat.le_of_eq g203.symm))
      have ge_b203 : n0 ≤ b203 := Nat.le_trans (own_sz O202) (Nat.le_of_eq g203.symm)
      have E204_b163 := E202_b163.ext E203
      have E204_y167 := E202_y167.ext E203
      have E204_b_168 := E202_b_168.ext E203
      have E204_y170 := E202_y170.ext E203
      have E204_y173 := E202_y173.ext E203
      have E204_b176 := E202_b176.ext E203
      have E204_b180 := E202_b180.ext E203
      have E204_b_185 := E202_b_185.ext E203
      have E204_b187 := E202_b187.ext E203
      have E204_b189 := E202_b189.ext E203
      have E204_b195 := E202_b195.ext E203
      have E204_b199 := r201_0.ext E203
      have F204_modCount_b163 := F202_modCount_b163.ext E203
      have F204_elementData_b163 := F202_elementData_b163.ext E203
      have F204_size_b163 := F202_size_b163.ext E203
      have F204_elementData_b176 := F202_elementData_b176.ext E203
      have F204_size_b176 := F202_size_b176.ext E203
      have F204_descriptors_b187 := F202_descriptors_b187.ext E203
      have F204_mainClass_b187 := F202_mainClass_b187.ext E203
      have F204_arguments_b187 := F202_arguments_b187.ext E203
      have F204_allPermissions_b187 := F202_allPermissions_b187.ext E203
      have F204_javaRequests_b187 := F202_javaRequests_b187.ext E203
      have F204_jars_b187 := F202_jars_b187.ext E203
      have F204_nativeLibraries_b187 := F202_nativeLibraries_b187.ext E203
      have F204_properties_b187 := F202_properties_b187.ext E203
      have F204_size_b189 := F202_size_b189.ext E203
      have F204_size_b195 := F202_size_b195.ext E203
      have F204_size_b199 := r201_3.ext E203
      have A204_b143 := A202_b143.ext E203
      have A204_b_168 := A202_b_168.ext E203
      have A204_b_185 := A202_b_185.ext E203
      have O204 := O202.ext E203
      have F203_modCount_b203 : Fld Z h203 b203 "java/util/AbstractList" "modCount" "I" (.int (0 : Int32)) := D203 (Or.inl (hw _ (List.mem_of_getElem? (i := 45) rfl))) (ty := .int) (by decide)
      have F203_elementData_b203 : Fld Z h203 b203 "java/util/ArrayList" "elementData" "[Ljava/lang/Object;" .null := D203 (Or.inl (hw _ (List.mem_of_getElem? (i := 48) rfl))) (ty := (.array (.object "java/lang/Object"))) (by decide)
      have F203_size_b203 : Fld Z h203 b203 "java/util/ArrayList" "size" "I" (.int (0 : Int32)) := D203 (Or.inl (hw _ (List.mem_of_getElem? (i := 57) rfl))) (ty := .int) (by decide)
      refine own_dup X203 hx (hb hby at_206) rfl ?_
      refine own_special X203 hx hZ hown (y := (⟨"java/util/ArrayList", "<init>", "()V"⟩ : MethodName)) rfl (hw _ (List.mem_of_getElem? (i := 28) rfl)) (hw _ (List.mem_of_getElem? (i := 29) rfl)) (hw _ (List.mem_of_getElem? (i := 27) rfl)) (hw _ (List.mem_of_getElem? (i := 30) rfl)) (a := b203) (by decide) (W := 10) (by decide) (by decide) N201 e203 (by rw [hml]; rfl) (argsL := []) (rest := [(.ref b203), (.ref b199), (.ref b176), (.ref b195), (.int w194), (.ref b189), .null, (.ref b163), (.ref b187), (.ref b187)]) (lenOf pd_0 rfl) (Nat.le_of_eq rfl) (by decide) (by decide) (rm4 l Z a0 hw [] b203 ((.int (0 : Int32))) (.null) w_EMPTY_ELEMENTDATA w_DEFAULTCAPACITY_EMPTY_ELEMENTDATA w_EMPTY w_EMPTY_LIST k_w_EMPTY_ELEMENTDATA k_w_DEFAULTCAPACITY_EMPTY_ELEMENTDATA w_mir w_els k_els h203 n0 O204 ⟨z0, z1, z2, z3, z4, z5, z6, z7, z8, z9, z10, z11, zm, z13, z14, trivial⟩ A203 F203_modCount_b203 F203_elementData_b203 F203_size_b203 ge_b203) rfl (hb hby at_207) ?_
      intro v205 T205 lc205 X205 N205 hQ205
      obtain ⟨rfl, K205, r205_0, r205_1, r205_2, r205_3⟩ := hQ205
      have E206_b163 := E204_b163.keep K205
      have E206_y167 := E204_y167.keep K205
      have E206_b_168 := E204_b_168.keep K205
      have E206_y170 := E204_y170.keep K205
      have E206_y173 := E204_y173.keep K205
      have E206_b176 := E204_b176.keep K205
      have E206_b180 := E204_b180.keep K205
      have E206_b_185 := E204_b_185.keep K205
      have E206_b187 := E204_b187.keep K205
      have E206_b189 := E204_b189.keep K205
      have E206_b195 := E204_b195.keep K205
      have E206_b199 := E204_b199.keep K205
      have F206_modCount_b163 := F204_modCount_b163.keep K205 (ninS ne_b163_b203 nin0)
      have F206_elementData_b163 := F204_elementData_b163.keep K205 (ninS ne_b163_b203 nin0)
      have F206_size_b163 := F204_size_b163.keep K205 (ninS ne_b163_b203 nin0)
      have F206_elementData_b176 := F204_elementData_b176.keep K205 (ninS ne_b176_b203 nin0)
      have F206_size_b176 := F204_size_b176.keep K205 (ninS ne_b176_b203 nin0)
      have F206_descriptors_b187 := F204_descriptors_b187.keep K205 (ninS ne_b187_b203 nin0)
      have F206_mainClass_b187 := F204_mainClass_b187.keep K205 (ninS ne_b187_b203 nin0)
      have F206_arguments_b187 := F204_arguments_b187.keep K205 (ninS ne_b187_b203 nin0)
      have F206_allPermissions_b187 := F204_allPermissions_b187.keep K205 (ninS ne_b187_b203 nin0)
      have F206_javaRequests_b187 := F204_javaRequests_b187.keep K205 (ninS ne_b187_b203 nin0)
      have F206_jars_b187 := F204_jars_b187.keep K205 (ninS ne_b187_b203 nin0)
      have F206_nativeLibraries_b187 := F204_nativeLibraries_b187.keep K205 (ninS ne_b187_b203 nin0)
      have F206_properties_b187 := F204_properties_b187.keep K205 (ninS ne_b187_b203 nin0)
      have F206_size_b189 := F204_size_b189.keep K205 (ninS ne_b189_b203 nin0)
      have F206_size_b195 := F204_size_b195.keep K205 (ninS ne_b195_b203 nin0)
      have F206_size_b199 := F204_size_b199.keep K205 (ninS ne_b199_b203 nin0)
      have A206_b143 := A204_b143.keep K205 (ninS ne_b143_b203 nin0)
      have A206_b_168 := A204_b_168.keep K205 (ninS ne_b_168_b203 nin0)
      have A206_b_185 := A204_b_185.keep K205 (ninS ne_b_185_b203 nin0)
      have O206 := O204.keep K205 (allS ge_b203 all0)
      refine own_special X205 hx hZ hown (y := (⟨"com/example/gantry/gantry/resolver/Resolution", "<init>", "(Ljava/util/List;Ljava/util/Optional;Ljava/util/List;ZLjava/util/List;Ljava/util/List;Ljava/util/List;Ljava/util/List;)V"⟩ : MethodName)) rfl (hw _ (List.mem_of_getElem? (i := 95) rfl)) (hw _ (List.mem_of_getElem? (i := 96) rfl)) (hw _ (List.mem_of_getElem? (i := 94) rfl)) (hw _ (List.mem_of_getElem? (i := 97) rfl)) (a := b187) (by decide) (W := 1) (by decide) (by decide) N205 rfl (by rw [hml]; rfl) (argsL := [(.ref b163), .null, (.ref b189), (.int w194), (.ref b195), (.ref b176), (.ref b199), (.ref b203)]) (rest := [(.ref b187)]) (lenOf pd_20 rfl) (Nat.le_of_eq rfl) (by decide) (by decide) (rm133 l Z a0 hw [] b187 b163 b189 w194 b195 b176 b199 b203 b_168 k_168 y167 y170 y173 b_185 k_185 b180 (.null) (.null) (.null) ((.int (0 : Int32))) (.null) (.null) (.null) (.null) w_EMPTY_ELEMENTDATA w_DEFAULTCAPACITY_EMPTY_ELEMENTDATA w_EMPTY w_EMPTY_LIST k_w_EMPTY_ELEMENTDATA k_w_DEFAULTCAPACITY_EMPTY_ELEMENTDATA w_mir w_els k_els T205.heap n0 O206 ⟨z0, z1, z2, z3, z4, z5, z6, z7, z8, z9, z10, z11, zm, z13, z14, trivial⟩ E206_b187 F206_descriptors_b187 F206_mainClass_b187 F206_arguments_b187 F206_allPermissions_b187 F206_javaRequests_b187 F206_jars_b187 F206_nativeLibraries_b187 F206_properties_b187 ge_b187 E206_b163 F206_elementData_b163 F206_size_b163 A206_b_168 E206_b_168 E206_y167 E206_y170 E206_y173 E206_b189 F206_size_b189 E206_b195 F206_size_b195 E206_b176 F206_elementData_b176 F206_size_b176 A206_b_185 E206_b_185 E206_b180 E206_b199 F206_size_b199 r205_0 r205_3 hj194 (Ne.symm ne_b_168_b187) (Ne.symm ne_b_185_b187) (Ne.symm ne_b163_b187) (Ne.symm ne_b176_b187) ne_b187_b189 ne_b187_b195 ne_b187_b199 ne_b187_b203) rfl (hb hby at_210) ?_
      intro v207 T207 lc207 X207 N207 hQ207
      obtain ⟨t_207, q_207, kq_207, rfl, K207, r207_0, r207_1, r207_2, r207_3, r207_4, r207_5, r207_6⟩ := hQ207
      have E208_b163 := E206_b163.keep K207
      have E208_y167 := E206_y167.keep K207
      have E208_b_168 := E206_b_168.keep K207
      have E208_y170 := E206_y170.keep K207
      have E208_y173 := E206_y173.keep K207
      have F208_modCount_b163 := F206_modCount_b163.keep K207 (ninS ne_b163_b187 nin0)
      have F208_elementData_b163 := F206_elementData_b163.keep K207 (ninS ne_b163_b187 nin0)
      have F208_size_b163 := F206_size_b163.keep K207 (ninS ne_b163_b187 nin0)
      have A208_b143 := A206_b143.keep K207 (ninS ne_b143_b187 nin0)
      have A208_b_168 := A206_b_168.keep K207 (ninS ne_b_168_b187 nin0)
      have O208 := O206.keep K207 (allS ge_b187 all0)
      have ne_b_168_t_207 : b_168 ≠ t_207 := Nat.ne_of_lt (Nat.lt_of_lt_of_le E206_b_168.lt r207_5)
      have ne_b163_t_207 : b163 ≠ t_207 := Nat.ne_of_lt (Nat.lt_of_lt_of_le E206_b163.lt r207_5)
      have ge_t_207 : n0 ≤ t_207 := Nat.le_trans (own_sz O206) r207_5
      have ne_b_168_q_207 : b_168 ≠ q_207 := Nat.ne_of_lt (Nat.lt_of_lt_of_le E206_b_168.lt r207_6)
      have ne_b163_q_207 : b163 ≠ q_207 := Nat.ne_of_lt (Nat.lt_of_lt_of_le E206_b163.lt r207_6)
      have ge_q_207 : n0 ≤ q_207 := Nat.le_trans (own_sz O206) r207_6
      refine own_astore X207 hx (Ls' := #[.val (.int p1), .val (.int p2), .val (.int p3), .val (.int (((p1 &&& (2147483647 : Int32)) % (3 : Int32)) + (1 : Int32))), .val (.int ((p2 &&& (2147483647 : Int32)) % (3 : Int32))), .val (.ref b143), .val (.ref b163), .val (.ref b176), .val (.ref b187), .unset]) (hb hby at_213) rfl rfl ?_
      refine own_iloadN X207 hx (hb hby at_215) rfl ?_
      refine own_iconst X207 hx (v := (2 : Int32)) (hb hby at_216) rfl ?_
      show Goes _ _ _ _ _ _ (T207.setTop (mkF m 217 #[.val (.int p1), .val (.int p2), .val (.int p3), .val (.int (((p1 &&& (2147483647 : Int32)) % (3 : Int32)) + (1 : Int32))), .val (.int ((p2 &&& (2147483647 : Int32)) % (3 : Int32))), .val (.ref b143), .val (.ref b163), .val (.ref b176), .val (.ref b187), .unset] [(.int (2 : Int32)), (.int p3)]))
      refine own_iand X207 hx (hb hby at_217) ?_
      by_cases hc218_209 : (p3 &&& (2 : Int32)) = (0 : Int32)
      ·
        refine own_ifYes X207 hx (pc' := 236) (hb hby at_218) ((if0 _ _).trans (teq (hc218_209 : (p3 &&& (2 : Int32)) = (0 : Int32))).1) (by decide) (by decide) ?_
        refine own_aload X207 hx (hb hby at_236) rfl rfl ?_
        refine own_virtual X207 hx hZ hown (y := (⟨"com/example/gantry/gantry/resolver/Resolution", "application", "()Lcom/example/gantry/gantry/resolver/LocalCopy;"⟩ : MethodName)) (z := (⟨"com/example/gantry/gantry/resolver/Resolution", "application", "()Lcom/example/gantry/gantry/resolver/LocalCopy;"⟩ : MethodName)) (hw _ (List.mem_of_getElem? (i := 225) rfl)) (hw _ (List.mem_of_getElem? (i := 226) rfl)) (notFace_of_selects (args := #[]) (mvT hZ (hw _ (List.mem_of_getElem? (i := 228) rfl)))) (hw _ (List.mem_of_getElem? (i := 228) rfl)) (hw _ (List.mem_of_getElem? (i := 227) rfl)) (hw _ (List.mem_of_getElem? (i := 94) rfl)) (hw _ (List.mem_of_getElem? (i := 229) rfl)) (a := b187) r207_0 (by decide) (W := 0) (by decide) (by decide) N207 rfl (by rw [hml]; rfl) (argsL := []) (rest := []) (lenOf pd_21 rfl) (Nat.le_of_eq rfl) (by decide) (by decide) (rm30N l Z a0 hw [] b187 t_207 q_207 kq_207 y167 y170 y173 w_EMPTY_ELEMENTDATA w_DEFAULTCAPACITY_EMPTY_ELEMENTDATA w_EMPTY w_EMPTY_LIST k_w_EMPTY_ELEMENTDATA k_w_DEFAULTCAPACITY_EMPTY_ELEMENTDATA w_mir w_els k_els T207.heap n0 O208 ⟨z0, z1, z2, z3, z4, z5, z6, z7, z8, z9, z10, z11, zm, z13, z14, trivial⟩ r207_1 r207_2 r207_3 r207_4 E208_y167) rfl (hb hby at_238) ?_
        intro v210 T210 lc210 X210 N210 hQ210
        obtain ⟨rfl, e210⟩ := hQ210
        refine own_astore X210 hx (Ls' := #[.val (.int p1), .val (.int p2), .val (.int p3), .val (.int (((p1 &&& (2147483647 : Int32)) % (3 : Int32)) + (1 : Int32))), .val (.int ((p2 &&& (2147483647 : Int32)) % (3 : Int32))), .val (.ref b143), .val (.ref b163), .val (.ref b176), .val (.ref b187), .val (.ref y167)]) (hb hby at_241) rfl rfl ?_
        refine own_aload X210 hx (hb hby at_243) rfl rfl ?_
        refine own_aload X210 hx (hb hby at_245) rfl rfl ?_
        show Goes _ _ _ _ _ _ (T210.setTop (mkF m 247 #[.val (.int p1), .val (.int p2), .val (.int p3), .val (.int (((p1 &&& (2147483647 : Int32)) % (3 : Int32)) + (1 : Int32))), .val (.int ((p2 &&& (2147483647 : Int32)) % (3 : Int32))), .val (.ref b143), .val (.ref b163), .val (.ref b176), .val (.ref b187), .val (.ref y167)] [(.ref b143), (.ref y167)]))
        refine own_iload X210 hx (hb hby at_247) rfl ?_
        show Goes _ _ _ _ _ _ (T210.setTop (mkF m 249 #[.val (.int p1), .val (.int p2), .val (.int p3), .val (.int (((p1 &&& (2147483647 : Int32)) % (3 : Int32)) + (1 : Int32))), .val (.int ((p2 &&& (2147483647 : Int32)) % (3 : Int32))), .val (.ref b143), .val (.ref b163), .val (.ref b176), .val (.ref b187), .val (.ref y167)] [(.int ((p2 &&& (2147483647 : Int32)) % (3 : Int32))), (.ref b143), (.ref y167)]))
        refine own_aaload X210 hx hZ e210 A208_b143 rfl (own_ix (own_p0 p2)) (v := .ref y167) hy167 (hb hby at_249) ?_
        refine own_acmp X210 hx rfl rfl (same := true) (pc' := 253) (hb hby at_250) (decide_eq_true rfl) (by decide) (by decide) ?_
        refine own_aload X210 hx (hb hby at_253) rfl rfl ?_
        refine own_virtual X210 hx hZ hown (y := (⟨"com/example/gantry/gantry/resolver/Resolution", "descriptors", "()Ljava/util/List;"⟩ : MethodName)) (z := (⟨"com/example/gantry/gantry/resolver/Resolution", "descriptors", "()Ljava/util/List;"⟩ : MethodName)) (hw _ (List.mem_of_getElem? (i := 239) rfl)) (hw _ (List.mem_of_getElem? (i := 240) rfl)) (notFace_of_selects (args := #[]) (mvT hZ (hw _ (List.mem_of_getElem? (i := 242) rfl)))) (hw _ (List.mem_of_getElem? (i := 242) rfl)) (hw _ (List.mem_of_getElem? (i := 241) rfl)) (hw _ (List.mem_of_getElem? (i := 94) rfl)) (hw _ (List.mem_of_getElem? (i := 243) rfl)) (a := b187) r207_0 (by decide) (W := 0) (by decide) (by decide) N210 e210 (by rw [hml]; rfl) (argsL := []) (rest := []) (lenOf pd_14 rfl) (Nat.le_of_eq rfl) (by decide) (by decide) (rm32 l Z a0 hw [] b187 t_207 w_EMPTY_ELEMENTDATA w_DEFAULTCAPACITY_EMPTY_ELEMENTDATA w_EMPTY w_EMPTY_LIST k_w_EMPTY_ELEMENTDATA k_w_DEFAULTCAPACITY_EMPTY_ELEMENTDATA w_mir w_els k_els T207.heap n0 O208 ⟨z0, z1, z2, z3, z4, z5, z6, z7, z8, z9, z10, z11, zm, z13, z14, trivial⟩ r207_1) rfl (hb hby at_255) ?_
        intro v211 T211 lc211 X211 N211 hQ211
        obtain ⟨rfl, e211⟩ := hQ211
        refine own_iface X211 hx hZ hown (y := (⟨"java/util/List", "size", "()I"⟩ : MethodName)) (z := (⟨"java/util/ImmutableCollections$ListN", "size", "()I"⟩ : MethodName)) (hw _ (List.mem_of_getElem? (i := 244) rfl)) (hw _ (List.mem_of_getElem? (i := 245) rfl)) (hw _ (List.mem_of_getElem? (i := 246) rfl)) (hw _ (List.mem_of_getElem? (i := 285) rfl)) (hw _ (List.mem_of_getElem? (i := 286) rfl)) (hw _ (List.mem_of_getElem? (i := 287) rfl)) (hw _ (List.mem_of_getElem? (i := 288) rfl)) (hw _ (List.mem_of_getElem? (i := 278) rfl)) (hw _ (List.mem_of_getElem? (i := 261) rfl)) (hw _ (List.mem_of_getElem? (i := 289) rfl)) (a := t_207) r207_2 (by decide) (W := 0) (by decide) (by decide) N211 e211 (by rw [hml]; rfl) (argsL := []) (rest := []) (lenOf pd_22 rfl) (Nat.le_of_eq rfl) (by decide) (by decide) (rm39 l Z a0 hw [] t_207 q_207 kq_207 ((((0 : Int32) + (1 : Int32)) + (1 : Int32)) + (1 : Int32)) [(.ref y167), (.ref y170), (.ref y173)] w_EMPTY_ELEMENTDATA w_DEFAULTCAPACITY_EMPTY_ELEMENTDATA w_EMPTY w_EMPTY_LIST k_w_EMPTY_ELEMENTDATA k_w_DEFAULTCAPACITY_EMPTY_ELEMENTDATA w_mir w_els k_els T207.heap n0 O208 ⟨z0, z1, z2, z3, z4, z5, z6, z7, z8, z9, z10, z11, zm, z13, z14, trivial⟩ r207_3 r207_4) rfl (hb hby at_258) ?_
        intro v212 T212 lc212 X212 N212 hQ212
        obtain ⟨rfl, e212⟩ := hQ212
        refine own_iloadN X212 hx (hb hby at_263) rfl ?_
        refine own_icmpNo X212 hx (hb hby at_264) (teq ((by first | (rw [hn]; done) | (rw [hn]; decide)) : ((((0 : Int32) + (1 : Int32)) + (1 : Int32)) + (1 : Int32)) = (((p1 &&& (2147483647 : Int32)) % (3 : Int32)) + (1 : Int32)))).2 ?_
        refine own_iconst X212 hx (v := (1 : Int32)) (hb hby at_267) rfl ?_
        refine own_goto X212 hx (pc' := 272) (hb hby at_268) (by decide) (by decide) ?_
        show Goes _ _ _ _ _ _ (T212.setTop (mkF m 272 #[.val (.int p1), .val (.int p2), .val (.int p3), .val (.int (((p1 &&& (2147483647 : Int32)) % (3 : Int32)) + (1 : Int32))), .val (.int ((p2 &&& (2147483647 : Int32)) % (3 : Int32))), .val (.ref b143), .val (.ref b163), .val (.ref b176), .val (.ref b187), .val (.ref y167)] [(.int (1 : Int32))]))
        exact own_retN X212 hx (t := .boolean) N212 hlk (by decide) (by decide) hret (by simp) (hb hby at_272) (by rw [e212]; exact rfl)
      ·
        refine own_ifNo X207 hx (hb hby at_218) ((if0 _ _).trans (feq (hc218_209 : ¬ ((p3 &&& (2 : Int32)) = (0 : Int32)))).1) ?_
        refine own_aload X207 hx (hb hby at_221) rfl rfl ?_
        refine own_iconst X207 hx (v := (0 : Int32)) (hb hby at_223) rfl ?_
        refine own_aload X207 hx (hb hby at_224) rfl rfl ?_
        show Goes _ _ _ _ _ _ (T207.setTop (mkF m 226 #[.val (.int p1), .val (.int p2), .val (.int p3), .val (.int (((p1 &&& (2147483647 : Int32)) % (3 : Int32)) + (1 : Int32))), .val (.int ((p2 &&& (2147483647 : Int32)) % (3 : Int32))), .val (.ref b143), .val (.ref b163), .val (.ref b176), .val (.ref b187), .unset] [(.ref b143), (.int (0 : Int32)), (.ref b163)]))
        refine own_iload X207 hx (hb hby at_226) rfl ?_
        refine own_iconst X207 hx (v := (1 : Int32)) (hb hby at_228) rfl ?_
        refine own_iadd X207 hx (hb hby at_229) ?_
        refine own_iconst X207 hx (v := (3 : Int32)) (hb hby at_230) rfl ?_
        refine own_irem X207 hx (hb hby at_231) (by decide) ?_
        show Goes _ _ _ _ _ _ (T207.setTop (mkF m 232 #[.val (.int p1), .val (.int p2), .val (.int p3), .val (.int (((p1 &&& (2147483647 : Int32)) % (3 : Int32)) + (1 : Int32))), .val (.int ((p2 &&& (2147483647 : Int32)) % (3 : Int32))), .val (.ref b143), .val (.ref b163), .val (.ref b176), .val (.ref b187), .unset] [(.int ((((p2 &&& (2147483647 : Int32)) % (3 : Int32)) + (1 : Int32)) % (3 : Int32))), (.ref b143), (.int (0 : Int32)), (.ref b163)]))
        refine own_aaload X207 hx hZ rfl A208_b143 rfl (own_ix (own_pk p2 (1 : Int32) (by decide))) (v := .ref y170) hy170 (hb hby at_232) ?_
        refine own_virtual X207 hx hZ hown (y := (⟨"java/util/ArrayList", "add", "(ILjava/lang/Object;)V"⟩ : MethodName)) (z := (⟨"java/util/ArrayList", "add", "(ILjava/lang/Object;)V"⟩ : MethodName)) (hw _ (List.mem_of_getElem? (i := 214) rfl)) (hw _ (List.mem_of_getElem? (i := 215) rfl)) (notFace_of_selects (args := #[]) (mvT hZ (hw _ (List.mem_of_getElem? (i := 217) rfl)))) (hw _ (List.mem_of_getElem? (i := 217) rfl)) (hw _ (List.mem_of_getElem? (i := 216) rfl)) (hw _ (List.mem_of_getElem? (i := 27) rfl)) (hw _ (List.mem_of_getElem? (i := 218) rfl)) (a := b163) E208_b163 (by decide) (W := 0) (by decide) (by decide) N207 rfl (by rw [hml]; rfl) (argsL := [(.int (0 : Int32)), (.ref y170)]) (rest := []) (lenOf pd_23 rfl) (Nat.le_of_eq rfl) (by decide) (by decide) (rm283 l Z a0 hw [] b163 y170 ((((0 : Int32) + (1 : Int32)) + (1 : Int32)) + (1 : Int32)) b_168 k_168 y167 y170 y173 w_EMPTY_ELEMENTDATA w_DEFAULTCAPACITY_EMPTY_ELEMENTDATA w_EMPTY w_EMPTY_LIST k_w_EMPTY_ELEMENTDATA k_w_DEFAULTCAPACITY_EMPTY_ELEMENTDATA w_mir w_els k_els T207.heap n0 O208 ⟨z0, z1, z2, z3, z4, z5, z6, z7, z8, z9, z10, z11, zm, z13, z14, trivial⟩ E208_b163 F208_modCount_b163 F208_elementData_b163 F208_size_b163 A208_b_168 E208_b_168 ge_b163 ge_b_168 r168_7 E208_y170 E208_y167 E208_y170 E208_y173) rfl (hb hby at_233) ?_
        intro v213 T213 lc213 X213 N213 hQ213
        obtain ⟨rfl, K213⟩ := hQ213
        have E214_y167 := E208_y167.keep K213
        have E214_b187 := r207_0.keep K213
        have E214_t_207 := r207_2.keep K213
        have F214_descriptors_b187 := r207_1.keep K213 (ninS (Ne.symm ne_b163_b187) (ninS (Ne.symm ne_b_168_b187) nin0))
        have F214_elements_t_207 := r207_3.keep K213 (ninS (Ne.symm ne_b163_t_207) (ninS (Ne.symm ne_b_168_t_207) nin0))
        have A214_b143 := A208_b143.keep K213 (ninS ne_b143_b163 (ninS ne_b143_b_168 nin0))
        have A214_q_207 := r207_4.keep K213 (ninS (Ne.symm ne_b163_q_207) (ninS (Ne.symm ne_b_168_q_207) nin0))
        have O214 := O208.keep K213 (allS ge_b163 (allS ge_b_168 all0))
        refine own_aload X213 hx (hb hby at_236) rfl rfl ?_
        refine own_virtual X213 hx hZ hown (y := (⟨"com/example/gantry/gantry/resolver/Resolution", "application", "()Lcom/example/gantry/gantry/resolver/LocalCopy;"⟩ : MethodName)) (z := (⟨"com/example/gantry/gantry/resolver/Resolution", "application", "()Lcom/example/gantry/gantry/resolver/LocalCopy;"⟩ : MethodName)) (hw _ (List.mem_of_getElem? (i := 225) rfl)) (hw _ (List.mem_of_getElem? (i := 226) rfl)) (notFace_of_selects (args := #[]) (mvT hZ (hw _ (List.mem_of_getElem? (i := 228) rfl)))) (hw _ (List.mem_of_getElem? (i := 228) rfl)) (hw _ (List.mem_of_getElem? (i := 227) rfl)) (hw _ (List.mem_of_getElem? (i := 94) rfl)) (hw _ (List.mem_of_getElem? (i := 229) rfl)) (a := b187) E214_b187 (by decide) (W := 0) (by decide) (by decide) N213 rfl (by rw [hml]; rfl) (argsL := []) (rest := []) (lenOf pd_21 rfl) (Nat.le_of_eq rfl) (by decide) (by decide) (rm30N l Z a0 hw [] b187 t_207 q_207 kq_207 y167 y170 y173 w_EMPTY_ELEMENTDATA w_DEFAULTCAPACITY_EMPTY_ELEMENTDATA w_EMPTY w_EMPTY_LIST k_w_EMPTY_ELEMENTDATA k_w_DEFAULTCAPACITY_EMPTY_ELEMENTDATA w_mir w_els k_els T213.heap n0 O214 ⟨z0, z1, z2, z3, z4, z5, z6, z7, z8, z9, z10, z11, zm, z13, z14, trivial⟩ F214_descriptors_b187 E214_t_207 F214_elements_t_207 A214_q_207 E214_y167) rfl (hb hby at_238) ?_
        intro v215 T215 lc215 X215 N215 hQ215
        obtain ⟨rfl, e215⟩ := hQ215
        refine own_astore X215 hx (Ls' := #[.val (.int p1), .val (.int p2), .val (.int p3), .val (.int (((p1 &&& (2147483647 : Int32)) % (3 : Int32)) + (1 : Int32))), .val (.int ((p2 &&& (2147483647 : Int32)) % (3 : Int32))), .val (.ref b143), .val (.ref b163), .val (.ref b176), .val (.ref b187), .val (.ref y167)]) (hb hby at_241) rfl rfl ?_
        refine own_aload X215 hx (hb hby at_243) rfl rfl ?_
        refine own_aload X215 hx (hb hby at_245) rfl rfl ?_
        show Goes _ _ _ _ _ _ (T215.setTop (mkF m 247 #[.val (.int p1), .val (.int p2), .val (.int p3), .val (.int (((p1 &&& (2147483647 : Int32)) % (3 : Int32)) + (1 : Int32))), .val (.int ((p2 &&& (2147483647 : Int32)) % (3 : Int32))), .val (.ref b143), .val (.ref b163), .val (.ref b176), .val (.ref b187), .val (.ref y167)] [(.ref b143), (.ref y167)]))
        refine own_iload X215 hx (hb hby at_247) rfl ?_
        show Goes _ _ _ _ _ _ (T215.setTop (mkF m 249 #[.val (.int p1), .val (.int p2), .val (.int p3), .val (.int (((p1 &&& (2147483647 : Int32)) % (3 : Int32)) + (1 : Int32))), .val (.int ((p2 &&& (2147483647 : Int32)) % (3 : Int32))), .val (.ref b143), .val (.ref b163), .val (.ref b176), .val (.ref b187), .val (.ref y167)] [(.int ((p2 &&& (2147483647 : Int32)) % (3 : Int32))), (.ref b143), (.ref y167)]))
        refine own_aaload X215 hx hZ e215 A214_b143 rfl (own_ix (own_p0 p2)) (v := .ref y167) hy167 (hb hby at_249) ?_
        refine own_acmp X215 hx rfl rfl (same := true) (pc' := 253) (hb hby at_250) (decide_eq_true rfl) (by decide) (by decide) ?_
        refine own_aload X215 hx (hb hby at_253) rfl rfl ?_
        refine own_virtual X215 hx hZ hown (y := (⟨"com/example/gantry/gantry/resolver/Resolution", "descriptors", "()Ljava/util/List;"⟩ : MethodName)) (z := (⟨"com/example/gantry/gantry/resolver/Resolution", "descriptors", "()Ljava/util/List;"⟩ : MethodName)) (hw _ (List.mem_of_getElem? (i := 239) rfl)) (hw _ (List.mem_of_getElem? (i := 240) rfl)) (notFace_of_selects (args := #[]) (mvT hZ (hw _ (List.mem_of_getElem? (i := 242) rfl)))) (hw _ (List.mem_of_getElem? (i := 242) rfl)) (hw _ (List.mem_of_getElem? (i := 241) rfl)) (hw _ (List.mem_of_getElem? (i := 94) rfl)) (hw _ (List.mem_of_getElem? (i := 243) rfl)) (a := b187) E214_b187 (by decide) (W := 0) (by decide) (by decide) N215 e215 (by rw [hml]; rfl) (argsL := []) (rest := []) (lenOf pd_14 rfl) (Nat.le_of_eq rfl) (by decide) (by decide) (rm32 l Z a0 hw [] b187 t_207 w_EMPTY_ELEMENTDATA w_DEFAULTCAPACITY_EMPTY_ELEMENTDATA w_EMPTY w_EMPTY_LIST k_w_EMPTY_ELEMENTDATA k_w_DEFAULTCAPACITY_EMPTY_ELEMENTDATA w_mir w_els k_els T213.heap n0 O214 ⟨z0, z1, z2, z3, z4, z5, z6, z7, z8, z9, z10, z11, zm, z13, z14, trivial⟩ F214_descriptors_b187) rfl (hb hby at_255) ?_
        intro v216 T216 lc216 X216 N216 hQ216
        obtain ⟨rfl, e216⟩ := hQ216
        refine own_iface X216 hx hZ hown (y := (⟨"java/util/List", "size", "()I"⟩ : MethodName)) (z := (⟨"java/util/ImmutableCollections$ListN", "size", "()I"⟩ : MethodName)) (hw _ (List.mem_of_getElem? (i := 244) rfl)) (hw _ (List.mem_of_getElem? (i := 245) rfl)) (hw _ (List.mem_of_getElem? (i := 246) rfl)) (hw _ (List.mem_of_getElem? (i := 285) rfl)) (hw _ (List.mem_of_getElem? (i := 286) rfl)) (hw _ (List.mem_of_getElem? (i := 287) rfl)) (hw _ (List.mem_of_getElem? (i := 288) rfl)) (hw _ (List.mem_of_getElem? (i := 278) rfl)) (hw _ (List.mem_of_getElem? (i := 261) rfl)) (hw _ (List.mem_of_getElem? (i := 289) rfl)) (a := t_207) E214_t_207 (by decide) (W := 0) (by decide) (by decide) N216 e216 (by rw [hml]; rfl) (argsL := []) (rest := []) (lenOf pd_22 rfl) (Nat.le_of_eq rfl) (by decide) (by decide) (rm39 l Z a0 hw [] t_207 q_207 kq_207 ((((0 : Int32) + (1 : Int32)) + (1 : Int32)) + (1 : Int32)) [(.ref y167), (.ref y170), (.ref y173)] w_EMPTY_ELEMENTDATA w_DEFAULTCAPACITY_EMPTY_ELEMENTDATA w_EMPTY w_EMPTY_LIST k_w_EMPTY_ELEMENTDATA k_w_DEFAULTCAPACITY_EMPTY_ELEMENTDATA w_mir w_els k_els T213.heap n0 O214 ⟨z0, z1, z2, z3, z4, z5, z6, z7, z8, z9, z10, z11, zm, z13, z14, trivial⟩ F214_elements_t_207 A214_q_207) rfl (hb hby at_258) ?_
        intro v217 T217 lc217 X217 N217 hQ217
        obtain ⟨rfl, e217⟩ := hQ217
        refine own_iloadN X217 hx (hb hby at_263) rfl ?_
        refine own_icmpNo X217 hx (hb hby at_264) (teq ((by first | (rw [hn]; done) | (rw [hn]; decide)) : ((((0 : Int32) + (1 : Int32)) + (1 : Int32)) + (1 : Int32)) = (((p1 &&& (2147483647 : Int32)) % (3 : Int32)) + (1 : Int32)))).2 ?_
        refine own_iconst X217 hx (v := (1 : Int32)) (hb hby at_267) rfl ?_
        refine own_goto X217 hx (pc' := 272) (hb hby at_268) (by decide) (by decide) ?_
        show Goes _ _ _ _ _ _ (T217.setTop (mkF m 272 #[.val (.int p1), .val (.int p2), .val (.int p3), .val (.int (((p1 &&& (2147483647 : Int32)) % (3 : Int32)) + (1 : Int32))), .val (.int ((p2 &&& (2147483647 : Int32)) % (3 : Int32))), .val (.ref b143), .val (.ref b163), .val (.ref b176), .val (.ref b187), .val (.ref y167)] [(.int (1 : Int32))]))
        exact own_retN X217 hx (t := .boolean) N217 hlk (by decide) (by decide) hret (by simp) (hb hby at_272) (by rw [e217]; exact rfl)
    by_cases hc179_193 : (p3 &&& (1 : Int32)) = (0 : Int32)
    ·
      refine own_ifYes X191 hx (pc' := 186) (hb hby at_179) ((if0 _ _).trans (teq (hc179_193 : (p3 &&& (1 : Int32)) = (0 : Int32))).1) (by decide) (by decide) ?_
      refine own_iconst X191 hx (v := (0 : Int32)) (hb hby at_186) rfl ?_
      show Goes _ _ _ _ _ _ (T191.setTop (mkF m 187 #[.val (.int p1), .val (.int p2), .val (.int p3), .val (.int (((p1 &&& (2147483647 : Int32)) % (3 : Int32)) + (1 : Int32))), .val (.int ((p2 &&& (2147483647 : Int32)) % (3 : Int32))), .val (.ref b143), .val (.ref b163), .val (.ref b176), .unset, .unset] [(.int (0 : Int32)), (.ref b189), .null, (.ref b163), (.ref b187), (.ref b187)]))
      exact jn187_194 T191 _ X191 N191 rfl (0 : Int32) ⟨rfl, rfl⟩
    ·
      refine own_ifNo X191 hx (hb hby at_179) ((if0 _ _).trans (feq (hc179_193 : ¬ ((p3 &&& (1 : Int32)) = (0 : Int32)))).1) ?_
      refine own_iconst X191 hx (v := (1 : Int32)) (hb hby at_182) rfl ?_
      refine own_goto X191 hx (pc' := 187) (hb hby at_183) (by decide) (by decide) ?_
      show Goes _ _ _ _ _ _ (T191.setTop (mkF m 187 #[.val (.int p1), .val (.int p2), .val (.int p3), .val (.int (((p1 &&& (2147483647 : Int32)) % (3 : Int32)) + (1 : Int32))), .val (.int ((p2 &&& (2147483647 : Int32)) % (3 : Int32))), .val (.ref b143), .val (.ref b163), .val (.ref b176), .unset, .unset] [(.int (1 : Int32)), (.ref b189), .null, (.ref b163), (.ref b187), (.ref b187)]))
      exact jn187_194 T191 _ X191 N191 rfl (1 : Int32) ⟨rfl, rfl⟩
set_option maxRecDepth 65536 in
set_option maxHeartbeats 40000000 in
theorem comes_1 {Post : Tables → Env → Array Value → State → Outcome → State → Prop} (hpost : ∀ tb e args s v u, (limb_1_1.after args s (.returned v) u = true ∧ limb_1_2.after args s (.returned v) u = true ∧ True) → FrameEnd s (.returned v) u (Jvm.fieldLocs frame_1_writes args s ++ Jvm.arrayLocs frame_1_arrays args s ++ Jvm.staticLocs frame_1_statics s) 48 256 → Post tb e args s (.returned v) u) :
    ArmFor flags0 classFile x code maxLocals ret World_1 tables_1 room_1 Calls_1 rest_1 Pre_1 Post := by
  intro l hfl _ _ p e ha hc hk s m args below hf hA hF happ hP
  obtain ⟨hcalls, hrest, hpre⟩ := hP
  obtain ⟨-, -, -, hnamed, -, -, -, hat⟩ := (Spec.applies_iff hf).mp happ
  obtain ⟨hg, hn⟩ := and_e (Cond.before_iff.mp (show (Jvm.Cond.and given_1 narrow_1).before args s = true from hpre))
  obtain ⟨hg1a, hg1b⟩ := and_e hg
  obtain ⟨hg2a, hg2b⟩ := and_e hg1b
  obtain ⟨hg3a, hg3b⟩ := and_e hg2b
  obtain ⟨w0, w1, w2, rfl⟩ : ∃ w0 w1 w2 : Value, args = #[w0, w1, w2] := by
    have hs : args.size = 3 := by simpa [Cond.value, given_1] using hg1a
    obtain ⟨L⟩ := args
    match L, hs with
    | [w0, w1, w2], _ => exact ⟨w0, w1, w2, rfl⟩
  have hw := fun d (hd : d ∈ tables_1) => atoms_spec (ws := Jvm.Cond.code x code maxLocals ret :: tables_1) hat d (List.mem_cons_of_mem _ hd)
  have hfit : Fit s := fun {y c} hc i hi => by
    obtain ⟨ha, rfl⟩ := Array.getElem?_eq_some_iff.mp hc
    have q := List.all_eq_true.mp ((Array.all_eq_true_iff_forall_mem.mp hF) _ (Array.getElem_mem ha)) i (List.mem_range.mpr hi)
    simpa [Array.getElem?_eq_getElem hi] using q
  obtain ⟨hsets, hown0⟩ := atoms_of _ (rest_1_c_eq ▸ (show rest_1_c.before _ s = true from hrest))
  obtain ⟨i0, ei0⟩ := is_v hg2a
  obtain rfl : w0 = (.int i0) := Option.some.inj ei0
  obtain ⟨i1, ei1⟩ := is_v hg3a
  obtain rfl : w1 = (.int i1) := Option.some.inj ei1
  obtain ⟨i2, ei2⟩ := is_v hg3b
  obtain rfl : w2 = (.int i2) := Option.some.inj ei2
  obtain ⟨w_EMPTY_ELEMENTDATA, ev_w_EMPTY_ELEMENTDATA⟩ := exa_v (Cond.before_iff.mp (hsets _ (List.mem_of_getElem? (i := 4) rfl)))
  obtain ⟨w_DEFAULTCAPACITY_EMPTY_ELEMENTDATA, ev_w_DEFAULTCAPACITY_EMPTY_ELEMENTDATA⟩ := exa_v (Cond.before_iff.mp (hsets _ (List.mem_of_getElem? (i := 7) rfl)))
  obtain ⟨w_EMPTY, ev_w_EMPTY⟩ := exa_v (Cond.before_iff.mp (hsets _ (List.mem_of_getElem? (i := 11) rfl)))
  obtain ⟨w_EMPTY_LIST, ev_w_EMPTY_LIST⟩ := exa_v (Cond.before_iff.mp (hsets _ (List.mem_of_getElem? (i := 17) rfl)))
  obtain ⟨cl_w_EMPTY_ELEMENTDATA, Ar_w_EMPTY_ELEMENTDATA⟩ := Arr.start ev_w_EMPTY_ELEMENTDATA (Cond.before_iff.mp (hsets _ (List.mem_of_getElem? (i := 3) rfl)))
  obtain ⟨cl_w_DEFAULTCAPACITY_EMPTY_ELEMENTDATA, Ar_w_DEFAULTCAPACITY_EMPTY_ELEMENTDATA⟩ := Arr.start ev_w_DEFAULTCAPACITY_EMPTY_ELEMENTDATA (Cond.before_iff.mp (hsets _ (List.mem_of_getElem? (i := 6) rfl)))
  obtain ⟨k_w_EMPTY_ELEMENTDATA, hk_w_EMPTY_ELEMENTDATA⟩ : ∃ k, k = cl_w_EMPTY_ELEMENTDATA.cls := ⟨_, rfl⟩
  obtain ⟨k_w_DEFAULTCAPACITY_EMPTY_ELEMENTDATA, hk_w_DEFAULTCAPACITY_EMPTY_ELEMENTDATA⟩ : ∃ k, k = cl_w_DEFAULTCAPACITY_EMPTY_ELEMENTDATA.cls := ⟨_, rfl⟩
  obtain ⟨⟨cM, kM, w_mir, hM⟩, -⟩ := hcalls
  obtain ⟨w_els, ev_els⟩ := arr_v (Cond.before_iff.mp (hsets _ (List.mem_of_getElem? (i := 21) rfl)))
  obtain ⟨cl_els, Ar_els⟩ := Arr.start ev_els (Cond.before_iff.mp (hsets _ (List.mem_of_getElem? (i := 21) rfl)))
  obtain ⟨k_els, hk_els⟩ : ∃ k, k = cl_els.cls := ⟨_, rfl⟩
  obtain ⟨n, o, h1, h2, h3, v, L, rfl, ⟨N, hQ⟩, hq⟩ := rm0 l s _ hw tables_1 i0 i1 i2 w_EMPTY_ELEMENTDATA w_DEFAULTCAPACITY_EMPTY_ELEMENTDATA w_EMPTY w_EMPTY_LIST k_w_EMPTY_ELEMENTDATA k_w_DEFAULTCAPACITY_EMPTY_ELEMENTDATA w_mir w_els k_els s.heap s.heap.size (Old.start s) ⟨Sta.start ev_w_EMPTY_ELEMENTDATA (Or.inl (hsets _ (List.mem_of_getElem? (i := 1) rfl))), Exa.start ev_w_EMPTY_ELEMENTDATA (Cond.before_iff.mp (hsets _ (List.mem_of_getElem? (i := 4) rfl))), Sta.start ev_w_DEFAULTCAPACITY_EMPTY_ELEMENTDATA (Or.inr ⟨(hw _ (List.mem_of_getElem? (i := 27) rfl)), hsets _ (List.mem_of_getElem? (i := 2) rfl)⟩), Exa.start ev_w_DEFAULTCAPACITY_EMPTY_ELEMENTDATA (Cond.before_iff.mp (hsets _ (List.mem_of_getElem? (i := 7) rfl))), Sta.start ev_w_EMPTY (Or.inl (hsets _ (List.mem_of_getElem? (i := 10) rfl))), Exa.start ev_w_EMPTY (Cond.before_iff.mp (hsets _ (List.mem_of_getElem? (i := 11) rfl))), Sta.start ev_w_EMPTY_LIST (Or.inl (hsets _ (List.mem_of_getElem? (i := 16) rfl))), Exa.start ev_w_EMPTY_LIST (Cond.before_iff.mp (hsets _ (List.mem_of_getElem? (i := 17) rfl))), (by rw [hk_w_EMPTY_ELEMENTDATA]; exact own_arr hfit ev_w_EMPTY_ELEMENTDATA Ar_w_EMPTY_ELEMENTDATA (own_eq (Cond.before_iff.mp (hsets _ (List.mem_of_getElem? (i := 5) rfl))) rfl) (by decide) rfl trivial), (by rw [hk_w_DEFAULTCAPACITY_EMPTY_ELEMENTDATA]; exact own_arr hfit ev_w_DEFAULTCAPACITY_EMPTY_ELEMENTDATA Ar_w_DEFAULTCAPACITY_EMPTY_ELEMENTDATA (own_eq (Cond.before_iff.mp (hsets _ (List.mem_of_getElem? (i := 8) rfl))) rfl) (by decide) rfl trivial), Sta.start (own_eq (Cond.before_iff.mp (hsets _ (List.mem_of_getElem? (i := 14) rfl))) rfl) (Or.inl (hsets _ (List.mem_of_getElem? (i := 13) rfl))), Fld.start ((fld_at ev_w_EMPTY_LIST).symm.trans (own_eq (Cond.before_iff.mp (hsets _ (List.mem_of_getElem? (i := 24) rfl))) rfl)), ⟨cM, kM, hM.1, hM.2.1, hM.2.2.1⟩, Fld.start ((fld_at ev_w_EMPTY_LIST).symm.trans ev_els), (by rw [hk_els]; exact own_arr hfit ev_els Ar_els (own_eq (Cond.before_iff.mp (hsets _ (List.mem_of_getElem? (i := 23) rfl))) rfl) (by decide) rfl trivial), trivial⟩ p e ha hc hk s m _ below hf ((Spec.applies_iff_loose hf).mp happ).1 ⟨rfl, State.Warmed39.refl s, rfl⟩ trivial
  have hv : v = some (.int (1 : Int32)) := hQ
  subst hv
  refine ⟨n, _, h1, h2, h3, hpost _ _ _ _ _ _ ⟨Cond.after_iff.mpr rfl, Cond.after_iff.mpr (eq_i res_at (Term.int_eval (1)) rfl), trivial⟩ ⟨hq.1, hq.2.1, hq.2.2.sift fun y hy => Or.inr (N y hy)⟩⟩
theorem main_1_1 : Claimed_1_1 := comes_1 fun _ _ _ _ _ _ h hF => ⟨h.1, hF⟩
theorem main_1_2 : Claimed_1_2 := comes_1 fun _ _ _ _ _ _ h hF => ⟨h.2.1, hF⟩
end Jvm.Pilot.@@N@@
namespace Jvm.Pilot.@@N@@
open Jvm Jvm.ClassFile Sem Op Lib Jvm.Free Jvm.Stand Jvm.Pilot.@@N@@.Jvm.D
/-! MADE BY PROGRAM (witnessworld.py) out of the Statement's table words and the real class files: 32 classes; the members and pool entries that the words name. The judged class is class 1, her method 1. -/
namespace start1
open Jvm.ClassFile
def u (s : String) : CpInfo := .utf8 (stringToUtf16 s)
/-- a pool by its gaps: so many unusable entries, then the entry; so many at the end -/
def gap : Nat → List CpInfo → List CpInfo
  | 0, r => r
  | n + 1, r => .unusable :: gap n r
def poolList (es : List (Nat × CpInfo)) (last : Nat) : List CpInfo := es.foldr (fun e r => gap e.1 (e.2 :: r)) (gap last [])
def pool (es : List (Nat × CpInfo)) (last : Nat) : Array CpInfo := ⟨poolList es last⟩
def fileOf (pool : Array CpInfo) (this : Nat) (attrs : Array Attribute := #[]) (ms : Array MethodInfo := #[]) (fl : Nat := 33) (sup : Nat := 0) (ifs : Array Nat := #[]) (fds : Array FieldInfo := #[]) : ClassFile where
  minorVersion := 0
  majorVersion := 65
  constantPool := pool
  accessFlags := fl
  thisClass := this
  superClass := sup
  interfaces := ifs
  fields := fds
  methods := ms
  attributes := attrs
def plain (name : String) (sup : Option ClassId) : Class where
  name := name
  kind := .ordinary
  loader := none
  accessFlags := 33
  super := sup
  interfaces := #[]
  cf := none
  fields := #[]
  methods := #[]
  instanceTypes := #[]
  staticTypes := #[]
  resolved := #[]
  callSites := []
  init := .initialized
  statics := none
  mirror := none

def pool0 : Array CpInfo := pool [(5, u "<init>"), (0, u "()V"), (1, .class_ 10), (1, u "java/lang/Object"), (0, u "getClass"), (0, u "()Ljava/lang/Class;")] 111

def k0c0 : Code := { maxStack := 0, maxLocals := 1, code := object_method_1_code, exceptionTable := #[], attributes := #[] }
def k0m0 : Method := { name := "<init>", desc := "()V", sig := { parameters := [], returnType := none }, accessFlags := 1, code := some k0c0 }
def k0m1 : Method := { name := "getClass", desc := "()Ljava/lang/Class;", sig := { parameters := [], returnType := some (.object "java/lang/Class") }, accessFlags := 273, code := none }
/-- java/lang/Object -/
def k0 : Class := { plain "java/lang/Object" none with
  accessFlags := 33
  interfaces := #[]
  cf := some (fileOf pool0 8 #[] #[{ accessFlags := 1, nameIndex := 5, descriptorIndex := 6, attributes := #[] }, { accessFlags := 273, nameIndex := 11, descriptorIndex := 12, attributes := #[] }] 33 0 #[] #[])
  fields := #[]
  methods := #[k0m0, k0m1]
  instanceTypes := #[]
  staticTypes := #[]
  resolved := Array.replicate 124 none
  statics := none }

def pool1 : Array CpInfo := pool [(2, .class_ 4), (0, .nameAndType 5 6), (0, u "java/lang/Object"), (0, u "<init>"), (0, u "()V"), (0, .integer 2147483647), (0, .class_ 9), (0, u "com/example/gantry/gantry/resolver/LocalCopy"), (0, .methodref 8 11), (0, .nameAndType 5 12), (0, u "(Ljava/net/URI;Ljava/net/URI;Ljava/nio/file/Path;Ljava/util/Optional;)V"), (0, .class_ 14), (0, u "java/util/ArrayList"), (0, .methodref 13 3), (0, .methodref 13 17), (0, .nameAndType 18 19), (0, u "add"), (0, u "(Ljava/lang/Object;)Z"), (0, .class_ 21), (0, u "com/example/gantry/gantry/resolver/Resolution$Jar"), (0, .methodref 20 23), (0, .nameAndType 5 24), (0, u "(Ljava/net/URI;Lcom/example/gantry/gantry/resolver/LocalCopy;)V"), (0, .class_ 26), (0, u "com/example/gantry/gantry/resolver/Resolution"), (0, .methodref 25 28), (0, .nameAndType 5 29), (0, u "(Ljava/util/List;Ljava/util/Optional;Ljava/util/List;ZLjava/util/List;Ljava/util/List;Ljava/util/List;Ljava/util/List;)V"), (0, .methodref 13 31), (0, .nameAndType 18 32), (0, u "(ILjava/lang/Object;)V"), (0, .methodref 25 34), (0, .nameAndType 35 36), (0, u "application"), (0, u "()Lcom/example/gantry/gantry/resolver/LocalCopy;"), (0, .methodref 25 38), (0, .nameAndType 39 40), (0, u "descriptors"), (0, u "()Ljava/util/List;"), (0, .interfaceMethodref 42 43), (0, .class_ 44), (0, .nameAndType 45 46), (0, u "java/util/List"), (0, u "size"), (0, u "()I"), (0, .class_ 48), (0, u "com/example/gantry/gantry/resolver/ResolutionApplicationPinLaw"), (2, u "law"), (0, u "(III)Z")] 7

def k1m0 : Method := { name := "<init>", desc := "()V", sig := { parameters := [], returnType := none }, accessFlags := 1, code := none }
def k1c1 : Code := { maxStack := 11, maxLocals := 10, code := code, exceptionTable := #[], attributes := #[] }
def k1m1 : Method := { name := "law", desc := "(III)Z", sig := { parameters := [.int, .int, .int], returnType := some .boolean }, accessFlags := 9, code := some k1c1 }
/-- com/example/gantry/gantry/resolver/ResolutionApplicationPinLaw -/
def k1 : Class := { plain "com/example/gantry/gantry/resolver/ResolutionApplicationPinLaw" (some 0) with
  accessFlags := 49
  interfaces := #[]
  cf := some (fileOf pool1 47 #[] #[{ accessFlags := 1, nameIndex := 5, descriptorIndex := 6, attributes := #[] }, { accessFlags := 9, nameIndex := 51, descriptorIndex := 52, attributes := #[] }] 49 2 #[] #[])
  fields := #[]
  methods := #[k1m0, k1m1]
  instanceTypes := #[]
  staticTypes := #[]
  resolved := Array.replicate 60 none
  statics := none }

def pool2 : Array CpInfo := pool [(1, .methodref 2 3), (0, .class_ 4), (0, .nameAndType 5 6), (0, u "java/lang/Object"), (0, u "<init>"), (0, u "()V"), (0, .class_ 8), (0, u "java/lang/Record")] 13

def k2c0 : Code := { maxStack := 1, maxLocals := 1, code := jdk_30_method_1_code, exceptionTable := #[], attributes := #[] }
def k2m0 : Method := { name := "<init>", desc := "()V", sig := { parameters := [], returnType := none }, accessFlags := 4, code := some k2c0 }
/-- java/lang/Record -/
def k2 : Class := { plain "java/lang/Record" (some 0) with
  accessFlags := 1057
  interfaces := #[]
  cf := some (fileOf pool2 7 #[] #[{ accessFlags := 4, nameIndex := 5, descriptorIndex := 6, attributes := #[] }] 1057 2 #[] #[])
  fields := #[]
  methods := #[k2m0]
  instanceTypes := #[]
  staticTypes := #[]
  resolved := Array.replicate 22 none
  statics := none }

def pool3 : Array CpInfo := pool [(1, .methodref 2 3), (0, .class_ 4), (0, .nameAndType 5 6), (0, u "java/lang/Record"), (0, u "<init>"), (0, u "()V"), (0, .fieldref 8 9), (0, .class_ 10), (0, .nameAndType 11 12), (0, u "com/example/gantry/gantry/resolver/LocalCopy"), (0, u "location"), (0, u "Ljava/net/URI;"), (0, .fieldref 8 14), (0, .nameAndType 15 12), (0, u "retrievedFrom"), (0, .fieldref 8 17), (0, .nameAndType 18 19), (0, u "file"), (0, u "Ljava/nio/file/Path;"), (0, .fieldref 8 21), (0, .nameAndType 22 23), (0, u "checkedSha256"), (0, u "Ljava/util/Optional;"), (8, u "(Ljava/net/URI;Ljava/net/URI;Ljava/nio/file/Path;Ljava/util/Optional;)V")] 102

def k3c0 : Code := { maxStack := 2, maxLocals := 5, code := prog_61_method_2_code, exceptionTable := #[], attributes := #[] }
def k3m0 : Method := { name := "<init>", desc := "(Ljava/net/URI;Ljava/net/URI;Ljava/nio/file/Path;Ljava/util/Optional;)V", sig := { parameters := [(.object "java/net/URI"), (.object "java/net/URI"), (.object "java/nio/file/Path"), (.object "java/util/Optional")], returnType := none }, accessFlags := 1, code := some k3c0 }
/-- com/example/gantry/gantry/resolver/LocalCopy -/
def k3 : Class := { plain "com/example/gantry/gantry/resolver/LocalCopy" (some 2) with
  accessFlags := 49
  interfaces := #[]
  cf := some (fileOf pool3 8 #[] #[{ accessFlags := 1, nameIndex := 5, descriptorIndex := 32, attributes := #[] }] 49 2 #[] #[{ accessFlags := 18, nameIndex := 11, descriptorIndex := 12, attributes := #[] }, { accessFlags := 18, nameIndex := 15, descriptorIndex := 12, attributes := #[] }, { accessFlags := 18, nameIndex := 18, descriptorIndex := 19, attributes := #[] }, { accessFlags := 18, nameIndex := 22, descriptorIndex := 23, attributes := #[] }])
  fields := #[{ name := "location", type := (.object "java/net/URI"), accessFlags := 18, slot := 0, constantValue := 0 }, { name := "retrievedFrom", type := (.object "java/net/URI"), accessFlags := 18, slot := 1, constantValue := 0 }, { name := "file", type := (.object "java/nio/file/Path"), accessFlags := 18, slot := 2, constantValue := 0 }, { name := "checkedSha256", type := (.object "java/util/Optional"), accessFlags := 18, slot := 3, constantValue := 0 }]
  methods := #[k3m0]
  instanceTypes := #[(.object "java/net/URI"), (.object "java/net/URI"), (.object "java/nio/file/Path"), (.object "java/util/Optional")]
  staticTypes := #[]
  resolved := Array.replicate 135 none
  statics := none }

def pool4 : Array CpInfo := pool [(8, .class_ 10), (1, u "java/lang/Iterable"), (24, .class_ 36), (0, u "java/lang/Object")] 25

/-- java/lang/Iterable -/
def k4 : Class := { plain "java/lang/Iterable" (some 0) with
  accessFlags := 1537
  interfaces := #[]
  cf := some (fileOf pool4 8 #[] #[] 1537 35 #[] #[])
  fields := #[]
  methods := #[]
  instanceTypes := #[]
  staticTypes := #[]
  resolved := Array.replicate 62 none
  statics := none }

def pool5 : Array CpInfo := pool [(10, .class_ 12), (1, u "java/util/Collection"), (0, u "toArray"), (16, u "()Z"), (29, .class_ 61), (0, u "java/lang/Object"), (0, .class_ 63), (0, u "java/lang/Iterable"), (2, u "isEmpty"), (3, u "()[Ljava/lang/Object;")] 44

def k5m0 : Method := { name := "isEmpty", desc := "()Z", sig := { parameters := [], returnType := some .boolean }, accessFlags := 1025, code := none }
def k5m1 : Method := { name := "toArray", desc := "()[Ljava/lang/Object;", sig := { parameters := [], returnType := some (.array (.object "java/lang/Object")) }, accessFlags := 1025, code := none }
/-- java/util/Collection -/
def k5 : Class := { plain "java/util/Collection" (some 0) with
  accessFlags := 1537
  interfaces := #[4]
  cf := some (fileOf pool5 10 #[] #[{ accessFlags := 1025, nameIndex := 66, descriptorIndex := 30, attributes := #[] }, { accessFlags := 1025, nameIndex := 13, descriptorIndex := 70, attributes := #[] }] 1537 60 #[62] #[])
  fields := #[]
  methods := #[k5m0, k5m1]
  instanceTypes := #[]
  staticTypes := #[]
  resolved := Array.replicate 115 none
  statics := none }

def pool6 : Array CpInfo := pool [(1, .methodref 2 3), (0, .class_ 4), (0, .nameAndType 5 6), (0, u "java/lang/Object"), (0, u "<init>"), (0, u "()V"), (1, .class_ 10), (1, u "java/util/AbstractCollection"), (66, .class_ 78), (0, u "java/util/Collection")] 81

def k6c0 : Code := { maxStack := 1, maxLocals := 1, code := jdk_22_method_1_code, exceptionTable := #[], attributes := #[] }
def k6m0 : Method := { name := "<init>", desc := "()V", sig := { parameters := [], returnType := none }, accessFlags := 4, code := some k6c0 }
/-- java/util/AbstractCollection -/
def k6 : Class := { plain "java/util/AbstractCollection" (some 0) with
  accessFlags := 1057
  interfaces := #[5]
  cf := some (fileOf pool6 8 #[] #[{ accessFlags := 4, nameIndex := 5, descriptorIndex := 6, attributes := #[] }] 1057 2 #[77] #[])
  fields := #[]
  methods := #[k6m0]
  instanceTypes := #[]
  staticTypes := #[]
  resolved := Array.replicate 160 none
  statics := none }

def pool7 : Array CpInfo := pool [(8, .class_ 10), (1, u "java/util/SequencedCollection"), (15, .class_ 27), (0, u "java/lang/Object"), (0, .class_ 29), (0, u "java/util/Collection")] 27

/-- java/util/SequencedCollection -/
def k7 : Class := { plain "java/util/SequencedCollection" (some 0) with
  accessFlags := 1537
  interfaces := #[5]
  cf := some (fileOf pool7 8 #[] #[] 1537 26 #[28] #[])
  fields := #[]
  methods := #[]
  instanceTypes := #[]
  staticTypes := #[]
  resolved := Array.replicate 57 none
  statics := none }

def pool8 : Array CpInfo := pool [(8, .class_ 10), (1, u "java/util/List"), (7, u "()Z"), (12, u "(Ljava/lang/Object;)V"), (16, u "<init>"), (18, u "isEmpty"), (7, u "get"), (0, u "(I)Ljava/lang/Object;"), (2, u "size"), (0, u "()I"), (7, u "of"), (1, .fieldref 91 92), (0, .class_ 93), (0, .nameAndType 94 95), (0, u "java/util/ImmutableCollections"), (0, u "EMPTY_LIST"), (0, u "Ljava/util/ImmutableCollections$ListN;"), (0, .class_ 97), (0, u "java/util/ImmutableCollections$List12"), (0, .methodref 96 99), (0, .nameAndType 48 31), (0, .methodref 96 101), (0, .nameAndType 48 102), (0, u "(Ljava/lang/Object;Ljava/lang/Object;)V"), (0, .class_ 104), (0, u "java/lang/Object"), (3, u "([Ljava/lang/Object;)Ljava/util/List;"), (0, .methodref 91 110), (0, .nameAndType 111 108), (0, u "listFromArray"), (0, .methodref 91 113), (0, .nameAndType 114 115), (0, u "listCopy"), (0, u "(Ljava/util/Collection;)Ljava/util/List;"), (3, u "()Ljava/util/List;"), (0, .class_ 121), (0, u "java/util/SequencedCollection"), (112, u "copyOf")] 16

def k8m0 : Method := { name := "size", desc := "()I", sig := { parameters := [], returnType := some .int }, accessFlags := 1025, code := none }
def k8m1 : Method := { name := "isEmpty", desc := "()Z", sig := { parameters := [], returnType := some .boolean }, accessFlags := 1025, code := none }
def k8m2 : Method := { name := "get", desc := "(I)Ljava/lang/Object;", sig := { parameters := [.int], returnType := some (.object "java/lang/Object") }, accessFlags := 1025, code := none }
def k8c3 : Code := { maxStack := 1, maxLocals := 0, code := jdk_40_method_36_code, exceptionTable := #[], attributes := #[] }
def k8m3 : Method := { name := "of", desc := "()Ljava/util/List;", sig := { parameters := [], returnType := some (.object "java/util/List") }, accessFlags := 9, code := some k8c3 }
def k8c4 : Code := { maxStack := 5, maxLocals := 2, code := jdk_40_method_47_code, exceptionTable := #[], attributes := #[] }
def k8m4 : Method := { name := "of", desc := "([Ljava/lang/Object;)Ljava/util/List;", sig := { parameters := [(.array (.object "java/lang/Object"))], returnType := some (.object "java/util/List") }, accessFlags := 137, code := some k8c4 }
def k8c5 : Code := { maxStack := 1, maxLocals := 1, code := jdk_40_method_48_code, exceptionTable := #[], attributes := #[] }
def k8m5 : Method := { name := "copyOf", desc := "(Ljava/util/Collection;)Ljava/util/List;", sig := { parameters := [(.object "java/util/Collection")], returnType := some (.object "java/util/List") }, accessFlags := 9, code := some k8c5 }
/-- java/util/List -/
def k8 : Class := { plain "java/util/List" (some 0) with
  accessFlags := 1537
  interfaces := #[7]
  cf := some (fileOf pool8 8 #[] #[{ accessFlags := 1025, nameIndex := 79, descriptorIndex := 80, attributes := #[] }, { accessFlags := 1025, nameIndex := 67, descriptorIndex := 18, attributes := #[] }, { accessFlags := 1025, nameIndex := 75, descriptorIndex := 76, attributes := #[] }, { accessFlags := 9, nameIndex := 88, descriptorIndex := 119, attributes := #[] }, { accessFlags := 137, nameIndex := 88, descriptorIndex := 108, attributes := #[] }, { accessFlags := 9, nameIndex := 234, descriptorIndex := 115, attributes := #[] }] 1537 103 #[120] #[])
  fields := #[]
  methods := #[k8m0, k8m1, k8m2, k8m3, k8m4, k8m5]
  instanceTypes := #[]
  staticTypes := #[]
  resolved := Array.replicate 251 none
  statics := none }

def pool9 : Array CpInfo := pool [(1, .methodref 2 3), (0, .class_ 4), (0, .nameAndType 5 6), (0, u "java/util/AbstractCollection"), (0, u "<init>"), (0, u "()V"), (0, .fieldref 8 9), (0, .class_ 10), (0, .nameAndType 11 12), (0, u "java/util/AbstractList"), (0, u "modCount"), (0, u "I"), (64, .class_ 78), (0, u "java/util/AbstractList$Itr"), (3, .class_ 83), (0, u "java/util/AbstractList$ListItr"), (9, .class_ 94), (0, u "java/util/AbstractList$RandomAccessSubList"), (3, .class_ 99), (0, u "java/util/AbstractList$SubList"), (33, .class_ 134), (0, u "java/util/List"), (73, .class_ 209), (0, u "java/util/AbstractList$SubList$1"), (0, .class_ 211), (0, u "java/util/AbstractList$RandomAccessSpliterator")] 6

def k9c0 : Code := { maxStack := 2, maxLocals := 1, code := jdk_39_method_1_code, exceptionTable := #[], attributes := #[] }
def k9m0 : Method := { name := "<init>", desc := "()V", sig := { parameters := [], returnType := none }, accessFlags := 4, code := some k9c0 }
/-- java/util/AbstractList -/
def k9 : Class := { plain "java/util/AbstractList" (some 6) with
  accessFlags := 1057
  interfaces := #[8]
  cf := some (fileOf pool9 8 #[.nestMembers #[93, 98, 208, 210, 82, 77]] #[{ accessFlags := 4, nameIndex := 5, descriptorIndex := 6, attributes := #[] }] 1057 2 #[133] #[{ accessFlags := 132, nameIndex := 11, descriptorIndex := 12, attributes := #[] }])
  fields := #[{ name := "modCount", type := .int, accessFlags := 132, slot := 0, constantValue := 0 }]
  methods := #[k9m0]
  instanceTypes := #[.int]
  staticTypes := #[]
  resolved := Array.replicate 218 none
  statics := none }

def pool10 : Array CpInfo := pool [(1, .class_ 2), (0, u "java/util/RandomAccess"), (0, .class_ 4), (0, u "java/lang/Object")] 2

/-- java/util/RandomAccess -/
def k10 : Class := { plain "java/util/RandomAccess" (some 0) with
  accessFlags := 1537
  interfaces := #[]
  cf := some (fileOf pool10 1 #[] #[] 1537 3 #[] #[])
  fields := #[]
  methods := #[]
  instanceTypes := #[]
  staticTypes := #[]
  resolved := Array.replicate 7 none
  statics := none }

def pool11 : Array CpInfo := pool [(1, .class_ 2), (0, u "java/lang/Cloneable"), (0, .class_ 4), (0, u "java/lang/Object")] 2

/-- java/lang/Cloneable -/
def k11 : Class := { plain "java/lang/Cloneable" (some 0) with
  accessFlags := 1537
  interfaces := #[]
  cf := some (fileOf pool11 1 #[] #[] 1537 3 #[] #[])
  fields := #[]
  methods := #[]
  instanceTypes := #[]
  staticTypes := #[]
  resolved := Array.replicate 7 none
  statics := none }

def pool12 : Array CpInfo := pool [(1, .class_ 2), (0, u "java/io/Serializable"), (0, .class_ 4), (0, u "java/lang/Object")] 2

/-- java/io/Serializable -/
def k12 : Class := { plain "java/io/Serializable" (some 0) with
  accessFlags := 1537
  interfaces := #[]
  cf := some (fileOf pool12 1 #[] #[] 1537 3 #[] #[])
  fields := #[]
  methods := #[]
  instanceTypes := #[]
  staticTypes := #[]
  resolved := Array.replicate 7 none
  statics := none }

def pool13 : Array CpInfo := pool [(1, .methodref 2 3), (0, .class_ 4), (0, .nameAndType 5 6), (0, u "java/util/AbstractList"), (0, u "<init>"), (0, u "()V"), (0, .class_ 8), (0, u "java/lang/Object"), (0, .fieldref 10 11), (0, .class_ 12), (0, .nameAndType 13 14), (0, u "java/util/ArrayList"), (0, u "elementData"), (0, u "[Ljava/lang/Object;"), (2, u "EMPTY_ELEMENTDATA"), (21, .fieldref 10 40), (0, .nameAndType 41 14), (0, u "DEFAULTCAPACITY_EMPTY_ELEMENTDATA"), (4, u "toArray"), (0, u "()[Ljava/lang/Object;"), (0, .fieldref 10 49), (0, .nameAndType 50 51), (0, u "size"), (0, u "I"), (6, .class_ 60), (1, u "java/util/Arrays"), (0, u "copyOf"), (1, .fieldref 10 64), (0, .nameAndType 65 51), (0, u "modCount"), (0, .methodref 58 67), (0, .nameAndType 61 68), (0, u "([Ljava/lang/Object;I)[Ljava/lang/Object;"), (0, .methodref 10 70), (0, .nameAndType 71 72), (0, u "grow"), (0, u "(I)[Ljava/lang/Object;"), (6, .methodref 80 81), (0, .class_ 82), (0, .nameAndType 83 84), (0, u "java/lang/Math"), (0, u "max"), (0, u "(II)I"), (11, u "(Ljava/lang/Object;)Z"), (15, .methodref 113 114), (0, .class_ 115), (0, .nameAndType 116 117), (0, u "java/lang/System"), (0, u "arraycopy"), (0, u "(Ljava/lang/Object;ILjava/lang/Object;II)V"), (11, .methodref 10 130), (0, .nameAndType 71 47), (0, .methodref 10 132), (0, .nameAndType 133 134), (0, u "add"), (0, u "(Ljava/lang/Object;[Ljava/lang/Object;I)V"), (0, .methodref 10 136), (0, .nameAndType 137 138), (0, u "rangeCheckForAdd"), (0, u "(I)V"), (2, u "(ILjava/lang/Object;)V"), (6, .class_ 149), (0, u "java/util/List"), (23, u "()Z"), (88, .class_ 263), (0, u "java/util/ArrayList$ListItr"), (3, .class_ 268), (0, u "java/util/ArrayList$Itr"), (7, .class_ 277), (0, u "java/util/ArrayList$SubList"), (12, .class_ 291), (0, u "java/util/ArrayList$ArrayListSpliterator"), (37, .class_ 330), (0, u "java/util/RandomAccess"), (0, .class_ 332), (0, u "java/lang/Cloneable"), (0, .class_ 334), (0, u "java/io/Serializable"), (0, u "serialVersionUID"), (0, u "J"), (3, u "DEFAULT_CAPACITY"), (22, u "isEmpty"), (136, .class_ 501), (0, u "java/util/ArrayList$SubList$2"), (0, .class_ 503), (0, u "java/util/ArrayList$SubList$1")] 5

def k13c0 : Code := { maxStack := 2, maxLocals := 1, code := jdk_38_method_2_code, exceptionTable := #[], attributes := #[] }
def k13m0 : Method := { name := "<init>", desc := "()V", sig := { parameters := [], returnType := none }, accessFlags := 1, code := some k13c0 }
def k13c1 : Code := { maxStack := 4, maxLocals := 4, code := jdk_38_method_6_code, exceptionTable := #[], attributes := #[] }
def k13m1 : Method := { name := "grow", desc := "(I)[Ljava/lang/Object;", sig := { parameters := [.int], returnType := some (.array (.object "java/lang/Object")) }, accessFlags := 2, code := some k13c1 }
def k13c2 : Code := { maxStack := 3, maxLocals := 1, code := jdk_38_method_7_code, exceptionTable := #[], attributes := #[] }
def k13m2 : Method := { name := "grow", desc := "()[Ljava/lang/Object;", sig := { parameters := [], returnType := some (.array (.object "java/lang/Object")) }, accessFlags := 2, code := some k13c2 }
def k13c3 : Code := { maxStack := 1, maxLocals := 1, code := jdk_38_method_9_code, exceptionTable := #[], attributes := #[] }
def k13m3 : Method := { name := "isEmpty", desc := "()Z", sig := { parameters := [], returnType := some .boolean }, accessFlags := 1, code := some k13c3 }
def k13c4 : Code := { maxStack := 2, maxLocals := 1, code := jdk_38_method_16_code, exceptionTable := #[], attributes := #[] }
def k13m4 : Method := { name := "toArray", desc := "()[Ljava/lang/Object;", sig := { parameters := [], returnType := some (.array (.object "java/lang/Object")) }, accessFlags := 1, code := some k13c4 }
def k13c5 : Code := { maxStack := 3, maxLocals := 4, code := jdk_38_method_24_code, exceptionTable := #[], attributes := #[] }
def k13m5 : Method := { name := "add", desc := "(Ljava/lang/Object;[Ljava/lang/Object;I)V", sig := { parameters := [(.object "java/lang/Object"), (.array (.object "java/lang/Object")), .int], returnType := none }, accessFlags := 2, code := some k13c5 }
def k13c6 : Code := { maxStack := 4, maxLocals := 2, code := jdk_38_method_25_code, exceptionTable := #[], attributes := #[] }
def k13m6 : Method := { name := "add", desc := "(Ljava/lang/Object;)Z", sig := { parameters := [(.object "java/lang/Object")], returnType := some .boolean }, accessFlags := 1, code := some k13c6 }
def k13c7 : Code := { maxStack := 6, maxLocals := 5, code := jdk_38_method_26_code, exceptionTable := #[], attributes := #[] }
def k13m7 : Method := { name := "add", desc := "(ILjava/lang/Object;)V", sig := { parameters := [.int, (.object "java/lang/Object")], returnType := none }, accessFlags := 1, code := some k13c7 }
def k13c8 : Code := { maxStack := 4, maxLocals := 2, code := jdk_38_method_45_code, exceptionTable := #[], attributes := #[] }
def k13m8 : Method := { name := "rangeCheckForAdd", desc := "(I)V", sig := { parameters := [.int], returnType := none }, accessFlags := 2, code := some k13c8 }
/-- java/util/ArrayList -/
def k13 : Class := { plain "java/util/ArrayList" (some 9) with
  accessFlags := 33
  interfaces := #[8, 10, 11, 12]
  cf := some (fileOf pool13 10 #[.nestMembers #[290, 276, 500, 502, 262, 267]] #[{ accessFlags := 1, nameIndex := 5, descriptorIndex := 6, attributes := #[] }, { accessFlags := 2, nameIndex := 71, descriptorIndex := 72, attributes := #[] }, { accessFlags := 2, nameIndex := 71, descriptorIndex := 47, attributes := #[] }, { accessFlags := 1, nameIndex := 363, descriptorIndex := 173, attributes := #[] }, { accessFlags := 1, nameIndex := 46, descriptorIndex := 47, attributes := #[] }, { accessFlags := 2, nameIndex := 133, descriptorIndex := 134, attributes := #[] }, { accessFlags := 1, nameIndex := 133, descriptorIndex := 96, attributes := #[] }, { accessFlags := 1, nameIndex := 133, descriptorIndex := 141, attributes := #[] }, { accessFlags := 2, nameIndex := 137, descriptorIndex := 138, attributes := #[] }] 33 2 #[148, 329, 331, 333] #[{ accessFlags := 26, nameIndex := 335, descriptorIndex := 336, attributes := #[] }, { accessFlags := 26, nameIndex := 340, descriptorIndex := 51, attributes := #[] }, { accessFlags := 26, nameIndex := 17, descriptorIndex := 14, attributes := #[] }, { accessFlags := 26, nameIndex := 41, descriptorIndex := 14, attributes := #[] }, { accessFlags := 128, nameIndex := 13, descriptorIndex := 14, attributes := #[] }, { accessFlags := 2, nameIndex := 50, descriptorIndex := 51, attributes := #[] }])
  fields := #[{ name := "serialVersionUID", type := .long, accessFlags := 26, slot := 0, constantValue := 0 }, { name := "DEFAULT_CAPACITY", type := .int, accessFlags := 26, slot := 1, constantValue := 0 }, { name := "EMPTY_ELEMENTDATA", type := (.array (.object "java/lang/Object")), accessFlags := 26, slot := 2, constantValue := 0 }, { name := "DEFAULTCAPACITY_EMPTY_ELEMENTDATA", type := (.array (.object "java/lang/Object")), accessFlags := 26, slot := 3, constantValue := 0 }, { name := "elementData", type := (.array (.object "java/lang/Object")), accessFlags := 128, slot := 1, constantValue := 0 }, { name := "size", type := .int, accessFlags := 2, slot := 2, constantValue := 0 }]
  methods := #[k13m0, k13m1, k13m2, k13m3, k13m4, k13m5, k13m6, k13m7, k13m8]
  instanceTypes := #[.int, (.array (.object "java/lang/Object")), .int]
  staticTypes := #[.long, .int, (.array (.object "java/lang/Object")), (.array (.object "java/lang/Object"))]
  resolved := Array.replicate 509 none
  statics := some 0 }

def pool14 : Array CpInfo := pool [(1, .class_ 2), (0, u "java/lang/Math"), (1, .class_ 6), (1, u "java/lang/Object"), (0, u "<init>"), (0, u "()V"), (89, .class_ 100), (1, u "java/lang/Math$RandomNumberGeneratorHolder"), (71, u "negativeZeroFloatBits"), (0, u "J"), (2, u "negativeZeroDoubleBits"), (21, u "max"), (2, u "min"), (43, u "$assertionsDisabled"), (0, u "Z"), (88, u "(II)I"), (2, u "twoToTheDoubleScaleDown"), (0, u "D"), (4, u "twoToTheDoubleScaleUp"), (9, u "E"), (3, u "PI"), (2, u "TAU"), (2, u "DEGREES_TO_RADIANS"), (0, u "RADIANS_TO_DEGREES")] 94

def k14m0 : Method := { name := "<init>", desc := "()V", sig := { parameters := [], returnType := none }, accessFlags := 2, code := none }
def k14c1 : Code := { maxStack := 2, maxLocals := 2, code := jdk_29_method_65_code, exceptionTable := #[], attributes := #[] }
def k14m1 : Method := { name := "max", desc := "(II)I", sig := { parameters := [.int, .int], returnType := some .int }, accessFlags := 9, code := some k14c1 }
def k14c2 : Code := { maxStack := 2, maxLocals := 2, code := jdk_29_method_69_code, exceptionTable := #[], attributes := #[] }
def k14m2 : Method := { name := "min", desc := "(II)I", sig := { parameters := [.int, .int], returnType := some .int }, accessFlags := 9, code := some k14c2 }
/-- java/lang/Math -/
def k14 : Class := { plain "java/lang/Math" (some 0) with
  accessFlags := 49
  interfaces := #[]
  cf := some (fileOf pool14 1 #[.nestMembers #[98]] #[{ accessFlags := 2, nameIndex := 7, descriptorIndex := 8, attributes := #[] }, { accessFlags := 9, nameIndex := 198, descriptorIndex := 335, attributes := #[] }, { accessFlags := 9, nameIndex := 201, descriptorIndex := 335, attributes := #[] }] 49 4 #[] #[{ accessFlags := 25, nameIndex := 354, descriptorIndex := 339, attributes := #[] }, { accessFlags := 25, nameIndex := 358, descriptorIndex := 339, attributes := #[] }, { accessFlags := 25, nameIndex := 361, descriptorIndex := 339, attributes := #[] }, { accessFlags := 26, nameIndex := 364, descriptorIndex := 339, attributes := #[] }, { accessFlags := 26, nameIndex := 365, descriptorIndex := 339, attributes := #[] }, { accessFlags := 26, nameIndex := 172, descriptorIndex := 173, attributes := #[] }, { accessFlags := 26, nameIndex := 176, descriptorIndex := 173, attributes := #[] }, { accessFlags := 8, nameIndex := 344, descriptorIndex := 339, attributes := #[] }, { accessFlags := 8, nameIndex := 338, descriptorIndex := 339, attributes := #[] }, { accessFlags := 4120, nameIndex := 245, descriptorIndex := 246, attributes := #[] }])
  fields := #[{ name := "E", type := .double, accessFlags := 25, slot := 0, constantValue := 0 }, { name := "PI", type := .double, accessFlags := 25, slot := 1, constantValue := 0 }, { name := "TAU", type := .double, accessFlags := 25, slot := 2, constantValue := 0 }, { name := "DEGREES_TO_RADIANS", type := .double, accessFlags := 26, slot := 3, constantValue := 0 }, { name := "RADIANS_TO_DEGREES", type := .double, accessFlags := 26, slot := 4, constantValue := 0 }, { name := "negativeZeroFloatBits", type := .long, accessFlags := 26, slot := 5, constantValue := 0 }, { name := "negativeZeroDoubleBits", type := .long, accessFlags := 26, slot := 6, constantValue := 0 }, { name := "twoToTheDoubleScaleUp", type := .double, accessFlags := 8, slot := 7, constantValue := 0 }, { name := "twoToTheDoubleScaleDown", type := .double, accessFlags := 8, slot := 8, constantValue := 0 }, { name := "$assertionsDisabled", type := .boolean, accessFlags := 4120, slot := 9, constantValue := 0 }]
  methods := #[k14m0, k14m1, k14m2]
  instanceTypes := #[]
  staticTypes := #[.double, .double, .double, .double, .double, .long, .long, .double, .double, .boolean]
  resolved := Array.replicate 460 none
  statics := none }

def pool15 : Array CpInfo := pool [(1, .methodref 2 3), (0, .class_ 4), (0, .nameAndType 5 6), (0, u "java/lang/Record"), (0, u "<init>"), (0, u "()V"), (0, .fieldref 8 9), (0, .class_ 10), (0, .nameAndType 11 12), (0, u "com/example/gantry/gantry/resolver/Resolution$Jar"), (0, u "location"), (0, u "Ljava/net/URI;"), (0, .fieldref 8 14), (0, .nameAndType 15 16), (0, u "namedBy"), (0, u "Lcom/example/gantry/gantry/resolver/LocalCopy;"), (12, u "(Ljava/net/URI;Lcom/example/gantry/gantry/resolver/LocalCopy;)V"), (11, .class_ 42), (0, u "com/example/gantry/gantry/resolver/Resolution")] 20

def k15c0 : Code := { maxStack := 2, maxLocals := 3, code := prog_67_method_1_code, exceptionTable := #[], attributes := #[] }
def k15m0 : Method := { name := "<init>", desc := "(Ljava/net/URI;Lcom/example/gantry/gantry/resolver/LocalCopy;)V", sig := { parameters := [(.object "java/net/URI"), (.object "com/example/gantry/gantry/resolver/LocalCopy")], returnType := none }, accessFlags := 1, code := some k15c0 }
/-- com/example/gantry/gantry/resolver/Resolution$Jar -/
def k15 : Class := { plain "com/example/gantry/gantry/resolver/Resolution$Jar" (some 2) with
  accessFlags := 49
  interfaces := #[]
  cf := some (fileOf pool15 8 #[.nestHost 41] #[{ accessFlags := 1, nameIndex := 5, descriptorIndex := 29, attributes := #[] }] 49 2 #[] #[{ accessFlags := 18, nameIndex := 11, descriptorIndex := 12, attributes := #[] }, { accessFlags := 18, nameIndex := 15, descriptorIndex := 16, attributes := #[] }])
  fields := #[{ name := "location", type := (.object "java/net/URI"), accessFlags := 18, slot := 0, constantValue := 0 }, { name := "namedBy", type := (.object "com/example/gantry/gantry/resolver/LocalCopy"), accessFlags := 18, slot := 1, constantValue := 0 }]
  methods := #[k15m0]
  instanceTypes := #[(.object "java/net/URI"), (.object "com/example/gantry/gantry/resolver/LocalCopy")]
  staticTypes := #[]
  resolved := Array.replicate 63 none
  statics := none }

def pool16 : Array CpInfo := pool [(1, .methodref 2 3), (0, .class_ 4), (0, .nameAndType 5 6), (0, u "java/lang/Record"), (0, u "<init>"), (0, u "()V"), (0, .interfaceMethodref 8 9), (0, .class_ 10), (0, .nameAndType 11 12), (0, u "java/util/List"), (0, u "copyOf"), (0, u "(Ljava/util/Collection;)Ljava/util/List;"), (0, .interfaceMethodref 8 14), (0, .nameAndType 15 16), (0, u "isEmpty"), (0, u "()Z"), (7, .fieldref 25 26), (0, .class_ 27), (0, .nameAndType 28 29), (0, u "com/example/gantry/gantry/resolver/Resolution"), (0, u "descriptors"), (0, u "Ljava/util/List;"), (0, .fieldref 25 31), (0, .nameAndType 32 33), (0, u "mainClass"), (0, u "Ljava/util/Optional;"), (0, .fieldref 25 35), (0, .nameAndType 36 29), (0, u "arguments"), (0, .fieldref 25 38), (0, .nameAndType 39 40), (0, u "allPermissions"), (0, u "Z"), (0, .fieldref 25 42), (0, .nameAndType 43 29), (0, u "javaRequests"), (0, .fieldref 25 45), (0, .nameAndType 46 29), (0, u "jars"), (0, .fieldref 25 48), (0, .nameAndType 49 29), (0, u "nativeLibraries"), (0, .fieldref 25 51), (0, .nameAndType 52 29), (0, u "properties"), (0, .interfaceMethodref 8 54), (0, .nameAndType 55 56), (0, u "get"), (0, u "(I)Ljava/lang/Object;"), (0, .class_ 58), (0, u "com/example/gantry/gantry/resolver/LocalCopy"), (19, u "(Ljava/util/List;Ljava/util/Optional;Ljava/util/List;ZLjava/util/List;Ljava/util/List;Ljava/util/List;Ljava/util/List;)V"), (7, u "application"), (0, u "()Lcom/example/gantry/gantry/resolver/LocalCopy;"), (3, u "()Ljava/util/List;"), (10, .class_ 103), (0, u "com/example/gantry/gantry/resolver/Resolution$Java"), (0, .class_ 105), (0, u "com/example/gantry/gantry/resolver/Resolution$Jar")] 27

def k16c0 : Code := { maxStack := 3, maxLocals := 9, code := prog_66_method_1_code, exceptionTable := #[], attributes := #[] }
def k16m0 : Method := { name := "<init>", desc := "(Ljava/util/List;Ljava/util/Optional;Ljava/util/List;ZLjava/util/List;Ljava/util/List;Ljava/util/List;Ljava/util/List;)V", sig := { parameters := [(.object "java/util/List"), (.object "java/util/Optional"), (.object "java/util/List"), .boolean, (.object "java/util/List"), (.object "java/util/List"), (.object "java/util/List"), (.object "java/util/List")], returnType := none }, accessFlags := 1, code := some k16c0 }
def k16c1 : Code := { maxStack := 2, maxLocals := 1, code := prog_66_method_2_code, exceptionTable := #[], attributes := #[] }
def k16m1 : Method := { name := "application", desc := "()Lcom/example/gantry/gantry/resolver/LocalCopy;", sig := { parameters := [], returnType := some (.object "com/example/gantry/gantry/resolver/LocalCopy") }, accessFlags := 1, code := some k16c1 }
def k16c2 : Code := { maxStack := 1, maxLocals := 1, code := prog_66_method_6_code, exceptionTable := #[], attributes := #[] }
def k16m2 : Method := { name := "descriptors", desc := "()Ljava/util/List;", sig := { parameters := [], returnType := some (.object "java/util/List") }, accessFlags := 1, code := some k16c2 }
/-- com/example/gantry/gantry/resolver/Resolution -/
def k16 : Class := { plain "com/example/gantry/gantry/resolver/Resolution" (some 2) with
  accessFlags := 49
  interfaces := #[]
  cf := some (fileOf pool16 25 #[.nestMembers #[102, 104]] #[{ accessFlags := 1, nameIndex := 5, descriptorIndex := 78, attributes := #[] }, { accessFlags := 1, nameIndex := 86, descriptorIndex := 87, attributes := #[] }, { accessFlags := 1, nameIndex := 28, descriptorIndex := 91, attributes := #[] }] 49 2 #[] #[{ accessFlags := 18, nameIndex := 28, descriptorIndex := 29, attributes := #[] }, { accessFlags := 18, nameIndex := 32, descriptorIndex := 33, attributes := #[] }, { accessFlags := 18, nameIndex := 36, descriptorIndex := 29, attributes := #[] }, { accessFlags := 18, nameIndex := 39, descriptorIndex := 40, attributes := #[] }, { accessFlags := 18, nameIndex := 43, descriptorIndex := 29, attributes := #[] }, { accessFlags := 18, nameIndex := 46, descriptorIndex := 29, attributes := #[] }, { accessFlags := 18, nameIndex := 49, descriptorIndex := 29, attributes := #[] }, { accessFlags := 18, nameIndex := 52, descriptorIndex := 29, attributes := #[] }])
  fields := #[{ name := "descriptors", type := (.object "java/util/List"), accessFlags := 18, slot := 0, constantValue := 0 }, { name := "mainClass", type := (.object "java/util/Optional"), accessFlags := 18, slot := 1, constantValue := 0 }, { name := "arguments", type := (.object "java/util/List"), accessFlags := 18, slot := 2, constantValue := 0 }, { name := "allPermissions", type := .boolean, accessFlags := 18, slot := 3, constantValue := 0 }, { name := "javaRequests", type := (.object "java/util/List"), accessFlags := 18, slot := 4, constantValue := 0 }, { name := "jars", type := (.object "java/util/List"), accessFlags := 18, slot := 5, constantValue := 0 }, { name := "nativeLibraries", type := (.object "java/util/List"), accessFlags := 18, slot := 6, constantValue := 0 }, { name := "properties", type := (.object "java/util/List"), accessFlags := 18, slot := 7, constantValue := 0 }]
  methods := #[k16m0, k16m1, k16m2]
  instanceTypes := #[(.object "java/util/List"), (.object "java/util/Optional"), (.object "java/util/List"), .boolean, (.object "java/util/List"), (.object "java/util/List"), (.object "java/util/List"), (.object "java/util/List")]
  staticTypes := #[]
  resolved := Array.replicate 133 none
  statics := none }

def pool17 : Array CpInfo := pool [(2, .class_ 4), (1, u "java/lang/Object"), (0, u "<init>"), (0, u "()V"), (3, .class_ 11), (0, u "java/util/ImmutableCollections$List12"), (0, .class_ 13), (0, u "java/util/ImmutableCollections$ListN"), (3, u "Z"), (0, .class_ 19), (0, u "java/util/List"), (0, .interfaceMethodref 21 22), (0, .class_ 23), (0, .nameAndType 24 25), (0, u "java/util/Collection"), (0, u "isEmpty"), (0, u "()Z"), (0, .interfaceMethodref 18 27), (0, .nameAndType 28 29), (0, u "of"), (0, u "()Ljava/util/List;"), (0, .interfaceMethodref 21 31), (0, .nameAndType 32 33), (0, u "toArray"), (0, u "()[Ljava/lang/Object;"), (0, .interfaceMethodref 18 35), (0, .nameAndType 28 36), (0, u "([Ljava/lang/Object;)Ljava/util/List;"), (0, .methodref 38 39), (0, .class_ 40), (0, .nameAndType 41 42), (0, u "java/util/Objects"), (0, u "requireNonNull"), (0, u "(Ljava/lang/Object;)Ljava/lang/Object;"), (0, .methodref 12 44), (0, .nameAndType 5 45), (0, u "([Ljava/lang/Object;Z)V"), (1, .class_ 49), (1, u "java/util/ImmutableCollections"), (0, u "$assertionsDisabled"), (5, u "[Ljava/lang/Object;"), (5, u "EMPTY_LIST"), (0, u "Ljava/util/ImmutableCollections$ListN;"), (8, u "EMPTY_LIST_NULLS"), (22, u "SALT32L"), (0, u "J"), (2, u "REVERSE"), (6, u "archivedObjects"), (2, u "EMPTY"), (0, u "Ljava/lang/Object;"), (0, .class_ 112), (0, u "java/util/ImmutableCollections$SetN"), (5, u "EMPTY_SET"), (0, u "Ljava/util/ImmutableCollections$SetN;"), (0, .class_ 121), (0, u "java/util/ImmutableCollections$MapN"), (3, u "EMPTY_MAP"), (0, u "Ljava/util/ImmutableCollections$MapN;"), (4, u "EXPAND_FACTOR"), (0, u "I"), (9, u "listCopy"), (0, u "(Ljava/util/Collection;)Ljava/util/List;"), (7, u "listFromArray"), (17, .class_ 170), (0, u "java/util/ImmutableCollections$MapN$MapNIterator"), (0, .class_ 172), (0, u "java/util/ImmutableCollections$MapN$1"), (0, .class_ 174), (0, u "java/util/ImmutableCollections$Map1"), (0, .class_ 176), (0, u "java/util/ImmutableCollections$AbstractImmutableMap"), (0, .class_ 178), (0, u "java/util/ImmutableCollections$SetN$SetNIterator"), (0, .class_ 180), (0, u "java/util/ImmutableCollections$Set12"), (0, .class_ 182), (0, u "java/util/ImmutableCollections$Set12$1"), (0, .class_ 184), (0, u "java/util/ImmutableCollections$AbstractImmutableSet"), (0, .class_ 186), (0, u "java/util/ImmutableCollections$SubList"), (0, .class_ 188), (0, u "java/util/ImmutableCollections$ListItr"), (0, .class_ 190), (0, u "java/util/ImmutableCollections$AbstractImmutableList"), (0, .class_ 192), (0, u "java/util/ImmutableCollections$AbstractImmutableCollection"), (0, .class_ 194), (0, u "java/util/ImmutableCollections$Access"), (0, .class_ 196), (0, u "java/util/ImmutableCollections$Access$1")] 16

def k17m0 : Method := { name := "<init>", desc := "()V", sig := { parameters := [], returnType := none }, accessFlags := 2, code := none }
def k17c1 : Code := { maxStack := 1, maxLocals := 2, code := jdk_56_method_3_code, exceptionTable := #[], attributes := #[] }
def k17m1 : Method := { name := "listCopy", desc := "(Ljava/util/Collection;)Ljava/util/List;", sig := { parameters := [(.object "java/util/Collection")], returnType := some (.object "java/util/List") }, accessFlags := 8, code := some k17c1 }
def k17c2 : Code := { maxStack := 4, maxLocals := 3, code := jdk_56_method_4_code, exceptionTable := #[], attributes := #[] }
def k17m2 : Method := { name := "listFromArray", desc := "([Ljava/lang/Object;)Ljava/util/List;", sig := { parameters := [(.array (.object "java/lang/Object"))], returnType := some (.object "java/util/List") }, accessFlags := 136, code := some k17c2 }
/-- java/util/ImmutableCollections -/
def k17 : Class := { plain "java/util/ImmutableCollections" (some 0) with
  accessFlags := 32
  interfaces := #[]
  cf := some (fileOf pool17 47 #[.nestMembers #[120, 169, 171, 173, 175, 111, 177, 179, 181, 183, 12, 10, 185, 187, 189, 191, 193, 195]] #[{ accessFlags := 2, nameIndex := 5, descriptorIndex := 6, attributes := #[] }, { accessFlags := 8, nameIndex := 142, descriptorIndex := 143, attributes := #[] }, { accessFlags := 136, nameIndex := 151, descriptorIndex := 36, attributes := #[] }] 32 2 #[] #[{ accessFlags := 26, nameIndex := 95, descriptorIndex := 96, attributes := #[] }, { accessFlags := 26, nameIndex := 99, descriptorIndex := 17, attributes := #[] }, { accessFlags := 10, nameIndex := 106, descriptorIndex := 56, attributes := #[] }, { accessFlags := 26, nameIndex := 109, descriptorIndex := 110, attributes := #[] }, { accessFlags := 24, nameIndex := 62, descriptorIndex := 63, attributes := #[] }, { accessFlags := 24, nameIndex := 72, descriptorIndex := 63, attributes := #[] }, { accessFlags := 24, nameIndex := 118, descriptorIndex := 119, attributes := #[] }, { accessFlags := 24, nameIndex := 125, descriptorIndex := 126, attributes := #[] }, { accessFlags := 24, nameIndex := 131, descriptorIndex := 132, attributes := #[] }, { accessFlags := 4120, nameIndex := 50, descriptorIndex := 17, attributes := #[] }])
  fields := #[{ name := "SALT32L", type := .long, accessFlags := 26, slot := 0, constantValue := 0 }, { name := "REVERSE", type := .boolean, accessFlags := 26, slot := 1, constantValue := 0 }, { name := "archivedObjects", type := (.array (.object "java/lang/Object")), accessFlags := 10, slot := 2, constantValue := 0 }, { name := "EMPTY", type := (.object "java/lang/Object"), accessFlags := 26, slot := 3, constantValue := 0 }, { name := "EMPTY_LIST", type := (.object "java/util/ImmutableCollections$ListN"), accessFlags := 24, slot := 4, constantValue := 0 }, { name := "EMPTY_LIST_NULLS", type := (.object "java/util/ImmutableCollections$ListN"), accessFlags := 24, slot := 5, constantValue := 0 }, { name := "EMPTY_SET", type := (.object "java/util/ImmutableCollections$SetN"), accessFlags := 24, slot := 6, constantValue := 0 }, { name := "EMPTY_MAP", type := (.object "java/util/ImmutableCollections$MapN"), accessFlags := 24, slot := 7, constantValue := 0 }, { name := "EXPAND_FACTOR", type := .int, accessFlags := 24, slot := 8, constantValue := 0 }, { name := "$assertionsDisabled", type := .boolean, accessFlags := 4120, slot := 9, constantValue := 0 }]
  methods := #[k17m0, k17m1, k17m2]
  instanceTypes := #[]
  staticTypes := #[.long, .boolean, (.array (.object "java/lang/Object")), (.object "java/lang/Object"), (.object "java/util/ImmutableCollections$ListN"), (.object "java/util/ImmutableCollections$ListN"), (.object "java/util/ImmutableCollections$SetN"), (.object "java/util/ImmutableCollections$MapN"), .int, .boolean]
  resolved := Array.replicate 213 none
  statics := some 1 }

def pool18 : Array CpInfo := pool [(1, .methodref 2 3), (0, .class_ 4), (0, .nameAndType 5 6), (0, u "java/util/AbstractCollection"), (0, u "<init>"), (0, u "()V"), (1, .class_ 10), (1, u "java/util/ImmutableCollections"), (2, .class_ 14), (0, u "java/util/ImmutableCollections$AbstractImmutableCollection")] 41

def k18c0 : Code := { maxStack := 1, maxLocals := 1, code := jdk_47_method_1_code, exceptionTable := #[], attributes := #[] }
def k18m0 : Method := { name := "<init>", desc := "()V", sig := { parameters := [], returnType := none }, accessFlags := 0, code := some k18c0 }
/-- java/util/ImmutableCollections$AbstractImmutableCollection -/
def k18 : Class := { plain "java/util/ImmutableCollections$AbstractImmutableCollection" (some 6) with
  accessFlags := 1056
  interfaces := #[]
  cf := some (fileOf pool18 13 #[.nestHost 8] #[{ accessFlags := 0, nameIndex := 5, descriptorIndex := 6, attributes := #[] }] 1056 2 #[] #[])
  fields := #[]
  methods := #[k18m0]
  instanceTypes := #[]
  staticTypes := #[]
  resolved := Array.replicate 56 none
  statics := none }

def pool19 : Array CpInfo := pool [(1, .methodref 2 3), (0, .class_ 4), (0, .nameAndType 5 6), (0, u "java/util/ImmutableCollections$AbstractImmutableCollection"), (0, u "<init>"), (0, u "()V"), (1, .class_ 10), (1, u "java/util/ImmutableCollections"), (3, .class_ 16), (1, u "java/util/ImmutableCollections$AbstractImmutableList"), (60, .class_ 78), (0, u "java/util/List"), (45, .class_ 125), (0, u "java/util/RandomAccess")] 70

def k19c0 : Code := { maxStack := 1, maxLocals := 1, code := jdk_46_method_1_code, exceptionTable := #[], attributes := #[] }
def k19m0 : Method := { name := "<init>", desc := "()V", sig := { parameters := [], returnType := none }, accessFlags := 0, code := some k19c0 }
/-- java/util/ImmutableCollections$AbstractImmutableList -/
def k19 : Class := { plain "java/util/ImmutableCollections$AbstractImmutableList" (some 18) with
  accessFlags := 1056
  interfaces := #[8, 10]
  cf := some (fileOf pool19 14 #[.nestHost 8] #[{ accessFlags := 0, nameIndex := 5, descriptorIndex := 6, attributes := #[] }] 1056 2 #[77, 124] #[])
  fields := #[]
  methods := #[k19m0]
  instanceTypes := #[]
  staticTypes := #[]
  resolved := Array.replicate 196 none
  statics := none }

def pool20 : Array CpInfo := pool [(1, .methodref 2 3), (0, .class_ 4), (0, .nameAndType 5 6), (0, u "java/util/ImmutableCollections$AbstractImmutableList"), (0, u "<init>"), (0, u "()V"), (0, .methodref 8 9), (0, .class_ 10), (0, .nameAndType 11 12), (0, u "java/util/Objects"), (0, u "requireNonNull"), (0, u "(Ljava/lang/Object;)Ljava/lang/Object;"), (0, .fieldref 14 15), (0, .class_ 16), (0, .nameAndType 17 18), (0, u "java/util/ImmutableCollections$List12"), (0, u "e0"), (0, u "Ljava/lang/Object;"), (0, .fieldref 20 21), (0, .class_ 22), (0, .nameAndType 23 18), (0, u "java/util/ImmutableCollections"), (0, u "EMPTY"), (0, .fieldref 14 25), (0, .nameAndType 26 18), (0, u "e1"), (24, u "size"), (0, u "()I"), (17, .class_ 71), (0, u "java/io/Serializable"), (4, u "(Ljava/lang/Object;)V"), (8, u "(Ljava/lang/Object;Ljava/lang/Object;)V"), (2, u "isEmpty"), (0, u "()Z"), (0, u "get"), (0, u "(I)Ljava/lang/Object;")] 33

def k20c0 : Code := { maxStack := 2, maxLocals := 2, code := jdk_44_method_1_code, exceptionTable := #[], attributes := #[] }
def k20m0 : Method := { name := "<init>", desc := "(Ljava/lang/Object;)V", sig := { parameters := [(.object "java/lang/Object")], returnType := none }, accessFlags := 0, code := some k20c0 }
def k20c1 : Code := { maxStack := 2, maxLocals := 3, code := jdk_44_method_2_code, exceptionTable := #[], attributes := #[] }
def k20m1 : Method := { name := "<init>", desc := "(Ljava/lang/Object;Ljava/lang/Object;)V", sig := { parameters := [(.object "java/lang/Object"), (.object "java/lang/Object")], returnType := none }, accessFlags := 0, code := some k20c1 }
def k20c2 : Code := { maxStack := 2, maxLocals := 1, code := jdk_44_method_3_code, exceptionTable := #[], attributes := #[] }
def k20m2 : Method := { name := "size", desc := "()I", sig := { parameters := [], returnType := some .int }, accessFlags := 1, code := some k20c2 }
def k20c3 : Code := { maxStack := 1, maxLocals := 1, code := jdk_44_method_4_code, exceptionTable := #[], attributes := #[] }
def k20m3 : Method := { name := "isEmpty", desc := "()Z", sig := { parameters := [], returnType := some .boolean }, accessFlags := 1, code := some k20c3 }
def k20c4 : Code := { maxStack := 2, maxLocals := 2, code := jdk_44_method_5_code, exceptionTable := #[], attributes := #[] }
def k20m4 : Method := { name := "get", desc := "(I)Ljava/lang/Object;", sig := { parameters := [.int], returnType := some (.object "java/lang/Object") }, accessFlags := 1, code := some k20c4 }
/-- java/util/ImmutableCollections$List12 -/
def k20 : Class := { plain "java/util/ImmutableCollections$List12" (some 19) with
  accessFlags := 48
  interfaces := #[12]
  cf := some (fileOf pool20 14 #[.nestHost 20] #[{ accessFlags := 0, nameIndex := 5, descriptorIndex := 76, attributes := #[] }, { accessFlags := 0, nameIndex := 5, descriptorIndex := 85, attributes := #[] }, { accessFlags := 1, nameIndex := 51, descriptorIndex := 52, attributes := #[] }, { accessFlags := 1, nameIndex := 88, descriptorIndex := 89, attributes := #[] }, { accessFlags := 1, nameIndex := 90, descriptorIndex := 91, attributes := #[] }] 48 2 #[70] #[{ accessFlags := 18, nameIndex := 17, descriptorIndex := 18, attributes := #[] }, { accessFlags := 18, nameIndex := 26, descriptorIndex := 18, attributes := #[] }])
  fields := #[{ name := "e0", type := (.object "java/lang/Object"), accessFlags := 18, slot := 0, constantValue := 0 }, { name := "e1", type := (.object "java/lang/Object"), accessFlags := 18, slot := 1, constantValue := 0 }]
  methods := #[k20m0, k20m1, k20m2, k20m3, k20m4]
  instanceTypes := #[(.object "java/lang/Object"), (.object "java/lang/Object")]
  staticTypes := #[]
  resolved := Array.replicate 125 none
  statics := none }

def pool21 : Array CpInfo := pool [(1, .methodref 2 3), (0, .class_ 4), (0, .nameAndType 5 6), (0, u "java/util/ImmutableCollections$AbstractImmutableList"), (0, u "<init>"), (0, u "()V"), (0, .fieldref 8 9), (0, .class_ 10), (0, .nameAndType 11 12), (0, u "java/util/ImmutableCollections$ListN"), (0, u "elements"), (0, u "[Ljava/lang/Object;"), (0, .fieldref 8 14), (0, .nameAndType 15 16), (0, u "allowNulls"), (0, u "Z"), (42, .class_ 60), (0, u "java/io/Serializable"), (4, u "([Ljava/lang/Object;Z)V"), (8, u "isEmpty"), (0, u "()Z"), (1, u "size"), (0, u "()I"), (0, u "get"), (0, u "(I)Ljava/lang/Object;"), (33, .class_ 115), (0, u "java/util/ImmutableCollections")] 3

def k21c0 : Code := { maxStack := 2, maxLocals := 3, code := jdk_45_method_1_code, exceptionTable := #[], attributes := #[] }
def k21m0 : Method := { name := "<init>", desc := "([Ljava/lang/Object;Z)V", sig := { parameters := [(.array (.object "java/lang/Object")), .boolean], returnType := none }, accessFlags := 2, code := some k21c0 }
def k21c1 : Code := { maxStack := 1, maxLocals := 1, code := jdk_45_method_2_code, exceptionTable := #[], attributes := #[] }
def k21m1 : Method := { name := "isEmpty", desc := "()Z", sig := { parameters := [], returnType := some .boolean }, accessFlags := 1, code := some k21c1 }
def k21c2 : Code := { maxStack := 1, maxLocals := 1, code := jdk_45_method_3_code, exceptionTable := #[], attributes := #[] }
def k21m2 : Method := { name := "size", desc := "()I", sig := { parameters := [], returnType := some .int }, accessFlags := 1, code := some k21c2 }
def k21c3 : Code := { maxStack := 2, maxLocals := 2, code := jdk_45_method_4_code, exceptionTable := #[], attributes := #[] }
def k21m3 : Method := { name := "get", desc := "(I)Ljava/lang/Object;", sig := { parameters := [.int], returnType := some (.object "java/lang/Object") }, accessFlags := 1, code := some k21c3 }
/-- java/util/ImmutableCollections$ListN -/
def k21 : Class := { plain "java/util/ImmutableCollections$ListN" (some 19) with
  accessFlags := 48
  interfaces := #[12]
  cf := some (fileOf pool21 8 #[.nestHost 114] #[{ accessFlags := 2, nameIndex := 5, descriptorIndex := 65, attributes := #[] }, { accessFlags := 1, nameIndex := 74, descriptorIndex := 75, attributes := #[] }, { accessFlags := 1, nameIndex := 77, descriptorIndex := 78, attributes := #[] }, { accessFlags := 1, nameIndex := 79, descriptorIndex := 80, attributes := #[] }] 48 2 #[59] #[{ accessFlags := 18, nameIndex := 11, descriptorIndex := 12, attributes := #[] }, { accessFlags := 18, nameIndex := 15, descriptorIndex := 16, attributes := #[] }])
  fields := #[{ name := "elements", type := (.array (.object "java/lang/Object")), accessFlags := 18, slot := 0, constantValue := 0 }, { name := "allowNulls", type := .boolean, accessFlags := 18, slot := 1, constantValue := 0 }]
  methods := #[k21m0, k21m1, k21m2, k21m3]
  instanceTypes := #[(.array (.object "java/lang/Object")), .boolean]
  staticTypes := #[]
  resolved := Array.replicate 119 none
  statics := none }

def pool22 : Array CpInfo := pool [(2, .class_ 4), (1, u "java/lang/Object"), (0, u "<init>"), (0, u "()V"), (7, .class_ 16), (1, u "java/util/Arrays"), (57, .class_ 76), (1, u "java/util/Arrays$NaturalOrder"), (9, .methodref 2 87), (0, .nameAndType 88 89), (0, u "getClass"), (0, u "()Ljava/lang/Class;"), (20, .class_ 111), (0, u "[Ljava/lang/Object;"), (1, .class_ 115), (1, u "java/util/Arrays$LegacyMergeSort"), (1, u "Z"), (32, .methodref 151 152), (0, .class_ 153), (0, .nameAndType 154 155), (0, u "java/lang/System"), (0, u "arraycopy"), (0, u "(Ljava/lang/Object;ILjava/lang/Object;II)V"), (144, .methodref 14 301), (0, .nameAndType 302 303), (0, u "copyOf"), (0, u "([Ljava/lang/Object;ILjava/lang/Class;)[Ljava/lang/Object;"), (0, .methodref 305 306), (0, .class_ 307), (0, .nameAndType 308 309), (0, u "java/lang/Math"), (0, u "min"), (0, u "(II)I"), (65, .class_ 376), (0, u "java/util/Arrays$ArrayList"), (68, u "$assertionsDisabled"), (269, u "MIN_ARRAY_SORT_GRAN"), (0, u "I"), (2, u "INSERTIONSORT_THRESHOLD"), (140, u "([Ljava/lang/Object;I)[Ljava/lang/Object;"), (114, .class_ 976), (0, u "java/util/Arrays$ArrayItr")] 52

def k22m0 : Method := { name := "<init>", desc := "()V", sig := { parameters := [], returnType := none }, accessFlags := 2, code := none }
def k22c1 : Code := { maxStack := 3, maxLocals := 2, code := jdk_65_method_119_code, exceptionTable := #[], attributes := #[] }
def k22m1 : Method := { name := "copyOf", desc := "([Ljava/lang/Object;I)[Ljava/lang/Object;", sig := { parameters := [(.array (.object "java/lang/Object")), .int], returnType := some (.array (.object "java/lang/Object")) }, accessFlags := 9, code := some k22c1 }
def k22c2 : Code := { maxStack := 6, maxLocals := 4, code := jdk_65_method_120_code, exceptionTable := #[], attributes := #[] }
def k22m2 : Method := { name := "copyOf", desc := "([Ljava/lang/Object;ILjava/lang/Class;)[Ljava/lang/Object;", sig := { parameters := [(.array (.object "java/lang/Object")), .int, (.object "java/lang/Class")], returnType := some (.array (.object "java/lang/Object")) }, accessFlags := 9, code := some k22c2 }
/-- java/util/Arrays -/
def k22 : Class := { plain "java/util/Arrays" (some 0) with
  accessFlags := 49
  interfaces := #[]
  cf := some (fileOf pool22 14 #[.nestMembers #[975, 375, 113, 74]] #[{ accessFlags := 2, nameIndex := 5, descriptorIndex := 6, attributes := #[] }, { accessFlags := 9, nameIndex := 302, descriptorIndex := 860, attributes := #[] }, { accessFlags := 9, nameIndex := 302, descriptorIndex := 303, attributes := #[] }] 49 2 #[] #[{ accessFlags := 26, nameIndex := 715, descriptorIndex := 716, attributes := #[] }, { accessFlags := 26, nameIndex := 719, descriptorIndex := 716, attributes := #[] }, { accessFlags := 4120, nameIndex := 445, descriptorIndex := 117, attributes := #[] }])
  fields := #[{ name := "MIN_ARRAY_SORT_GRAN", type := .int, accessFlags := 26, slot := 0, constantValue := 0 }, { name := "INSERTIONSORT_THRESHOLD", type := .int, accessFlags := 26, slot := 1, constantValue := 0 }, { name := "$assertionsDisabled", type := .boolean, accessFlags := 4120, slot := 2, constantValue := 0 }]
  methods := #[k22m0, k22m1, k22m2]
  instanceTypes := #[]
  staticTypes := #[.int, .int, .boolean]
  resolved := Array.replicate 1029 none
  statics := none }

def pool23 : Array CpInfo := pool [(2, .class_ 4), (1, u "java/lang/Object"), (0, u "<init>"), (0, u "()V"), (1, .class_ 10), (1, u "java/lang/System"), (0, u "allowSecurityManager"), (0, u "I"), (16, u "cons"), (0, u "Ljava/io/Console;"), (77, .class_ 110), (1, u "java/lang/System$CallersHolder"), (43, u "initialErrStream"), (0, u "Ljava/io/PrintStream;"), (19, u "security"), (0, u "Ljava/lang/SecurityManager;"), (31, .class_ 209), (0, u "java/lang/System$1"), (7, u "props"), (0, u "Ljava/util/Properties;"), (2, u "lineSeparator"), (0, u "Ljava/lang/String;"), (96, .class_ 321), (1, u "java/lang/System$LoggerFinder"), (5, .class_ 328), (0, u "java/lang/System$Logger"), (67, u "err"), (2, u "out"), (91, u "notSupportedJnuEncoding"), (15, u "in"), (17, u "initialIn"), (0, u "Ljava/io/InputStream;"), (35, u "bootLayer"), (0, u "Ljava/lang/ModuleLayer;"), (99, .class_ 664), (0, u "java/lang/System$2"), (9, u "NEVER"), (2, u "MAYBE"), (49, u "arraycopy"), (0, u "(Ljava/lang/Object;ILjava/lang/Object;II)V"), (72, .class_ 802), (0, u "java/lang/System$Logger$Level")] 31

def k23m0 : Method := { name := "<init>", desc := "()V", sig := { parameters := [], returnType := none }, accessFlags := 2, code := none }
def k23m1 : Method := { name := "arraycopy", desc := "(Ljava/lang/Object;ILjava/lang/Object;II)V", sig := { parameters := [(.object "java/lang/Object"), .int, (.object "java/lang/Object"), .int, .int], returnType := none }, accessFlags := 265, code := none }
/-- java/lang/System -/
def k23 : Class := { plain "java/lang/System" (some 0) with
  accessFlags := 49
  interfaces := #[]
  cf := some (fileOf pool23 8 #[.nestMembers #[319, 327, 801, 108, 663, 208]] #[{ accessFlags := 2, nameIndex := 5, descriptorIndex := 6, attributes := #[] }, { accessFlags := 265, nameIndex := 727, descriptorIndex := 728, attributes := #[] }] 49 2 #[] #[{ accessFlags := 25, nameIndex := 507, descriptorIndex := 526, attributes := #[] }, { accessFlags := 25, nameIndex := 399, descriptorIndex := 155, attributes := #[] }, { accessFlags := 25, nameIndex := 396, descriptorIndex := 155, attributes := #[] }, { accessFlags := 10, nameIndex := 525, descriptorIndex := 526, attributes := #[] }, { accessFlags := 26, nameIndex := 674, descriptorIndex := 12, attributes := #[] }, { accessFlags := 26, nameIndex := 677, descriptorIndex := 12, attributes := #[] }, { accessFlags := 10, nameIndex := 11, descriptorIndex := 12, attributes := #[] }, { accessFlags := 74, nameIndex := 175, descriptorIndex := 176, attributes := #[] }, { accessFlags := 10, nameIndex := 491, descriptorIndex := 222, attributes := #[] }, { accessFlags := 74, nameIndex := 29, descriptorIndex := 30, attributes := #[] }, { accessFlags := 74, nameIndex := 154, descriptorIndex := 155, attributes := #[] }, { accessFlags := 10, nameIndex := 217, descriptorIndex := 218, attributes := #[] }, { accessFlags := 10, nameIndex := 221, descriptorIndex := 222, attributes := #[] }, { accessFlags := 8, nameIndex := 562, descriptorIndex := 563, attributes := #[] }])
  fields := #[{ name := "in", type := (.object "java/io/InputStream"), accessFlags := 25, slot := 0, constantValue := 0 }, { name := "out", type := (.object "java/io/PrintStream"), accessFlags := 25, slot := 1, constantValue := 0 }, { name := "err", type := (.object "java/io/PrintStream"), accessFlags := 25, slot := 2, constantValue := 0 }, { name := "initialIn", type := (.object "java/io/InputStream"), accessFlags := 10, slot := 3, constantValue := 0 }, { name := "NEVER", type := .int, accessFlags := 26, slot := 4, constantValue := 0 }, { name := "MAYBE", type := .int, accessFlags := 26, slot := 5, constantValue := 0 }, { name := "allowSecurityManager", type := .int, accessFlags := 10, slot := 6, constantValue := 0 }, { name := "security", type := (.object "java/lang/SecurityManager"), accessFlags := 74, slot := 7, constantValue := 0 }, { name := "notSupportedJnuEncoding", type := (.object "java/lang/String"), accessFlags := 10, slot := 8, constantValue := 0 }, { name := "cons", type := (.object "java/io/Console"), accessFlags := 74, slot := 9, constantValue := 0 }, { name := "initialErrStream", type := (.object "java/io/PrintStream"), accessFlags := 74, slot := 10, constantValue := 0 }, { name := "props", type := (.object "java/util/Properties"), accessFlags := 10, slot := 11, constantValue := 0 }, { name := "lineSeparator", type := (.object "java/lang/String"), accessFlags := 10, slot := 12, constantValue := 0 }, { name := "bootLayer", type := (.object "java/lang/ModuleLayer"), accessFlags := 8, slot := 13, constantValue := 0 }]
  methods := #[k23m0, k23m1]
  instanceTypes := #[]
  staticTypes := #[(.object "java/io/InputStream"), (.object "java/io/PrintStream"), (.object "java/io/PrintStream"), (.object "java/io/InputStream"), .int, .int, .int, (.object "java/lang/SecurityManager"), (.object "java/lang/String"), (.object "java/io/Console"), (.object "java/io/PrintStream"), (.object "java/util/Properties"), (.object "java/lang/String"), (.object "java/lang/ModuleLayer")]
  resolved := Array.replicate 834 none
  statics := none }

def pool24 : Array CpInfo := pool [(2, .class_ 4), (1, u "java/lang/Object"), (0, u "<init>"), (0, u "()V"), (35, .class_ 44), (1, u "java/util/Objects"), (0, u "requireNonNull"), (0, u "(Ljava/lang/Object;)Ljava/lang/Object;")] 137

def k24m0 : Method := { name := "<init>", desc := "()V", sig := { parameters := [], returnType := none }, accessFlags := 2, code := none }
def k24c1 : Code := { maxStack := 2, maxLocals := 1, code := jdk_31_method_10_code, exceptionTable := #[], attributes := #[] }
def k24m1 : Method := { name := "requireNonNull", desc := "(Ljava/lang/Object;)Ljava/lang/Object;", sig := { parameters := [(.object "java/lang/Object")], returnType := some (.object "java/lang/Object") }, accessFlags := 9, code := some k24c1 }
/-- java/util/Objects -/
def k24 : Class := { plain "java/util/Objects" (some 0) with
  accessFlags := 49
  interfaces := #[]
  cf := some (fileOf pool24 42 #[] #[{ accessFlags := 2, nameIndex := 5, descriptorIndex := 6, attributes := #[] }, { accessFlags := 9, nameIndex := 45, descriptorIndex := 46, attributes := #[] }] 49 2 #[] #[])
  fields := #[]
  methods := #[k24m0, k24m1]
  instanceTypes := #[]
  staticTypes := #[]
  resolved := Array.replicate 184 none
  statics := none }

def pool25 : Array CpInfo := pool [(1, .class_ 2), (0, u "java/lang/Class"), (0, .class_ 4), (0, u "java/lang/Object")] 0

/-- java/lang/Class -/
def k25 : Class := { plain "java/lang/Class" (some 0) with
  accessFlags := 49
  interfaces := #[]
  cf := some (fileOf pool25 1 #[] #[] 49 3 #[] #[])
  fields := #[]
  methods := #[]
  instanceTypes := #[]
  staticTypes := #[]
  resolved := Array.replicate 5 none
  statics := none }

/-- the primitive byte -/
def k26 : Class := { plain "byte" none with kind := .primitive 'B', accessFlags := 0x411 }
/-- [B -/
def k27 : Class := { plain "[B" (some 0) with kind := .array 26 .byte, interfaces := #[11, 12], accessFlags := 1041 }

/-- the primitive int -/
def k28 : Class := { plain "int" none with kind := .primitive 'I', accessFlags := 0x411 }
/-- [I -/
def k29 : Class := { plain "[I" (some 0) with kind := .array 28 .int, interfaces := #[11, 12], accessFlags := 1041 }

/-- [Lcom/example/gantry/gantry/resolver/LocalCopy; -/
def k30 : Class := { plain "[Lcom/example/gantry/gantry/resolver/LocalCopy;" (some 0) with kind := .array 3 (.object "com/example/gantry/gantry/resolver/LocalCopy"), interfaces := #[11, 12], accessFlags := 1041 }

/-- [Ljava/lang/Object; -/
def k31 : Class := { plain "[Ljava/lang/Object;" (some 0) with kind := .array 0 (.object "java/lang/Object"), interfaces := #[11, 12], accessFlags := 1041, mirror := some 2 }

def heap : Heap := #[{ cls := 13, slots := #[.long 0, .int 0, .ref 3, .ref 4], vm := .statics 13 },
  { cls := 17, slots := #[.long 0, .int 0, .null, .ref 5, .ref 6, .null, .null, .null, .int 0, .int 1], vm := .statics 17 },
  { cls := 25, slots := #[], vm := .mirror 31 },
  { cls := 31, slots := #[], vm := .none },
  { cls := 31, slots := #[], vm := .none },
  { cls := 0, slots := #[], vm := .none },
  { cls := 21, slots := #[.ref 3, .int 0], vm := .none }]
def classes : Array Class := #[k0, k1, k2, k3, k4, k5, k6, k7, k8, k9, k10, k11, k12, k13, k14, k15, k16, k17, k18, k19, k20, k21, k22, k23, k24, k25, k26, k27, k28, k29, k30, k31]
def interned : List (Array UInt16 × Addr) := []
def slotsUsed : Nat := 16
def theMethod : MethodId := ⟨1, 1⟩
def args0 : Array Value := #[.int 2, .int 1, .int 5]
def aboutOver (below : List Frame) : State where
  vm := { classes := classes, interned := interned.toArray }
  heap := heap
  slotsUsed := slotsUsed
  threads := #[{ frames := .invoking theMethod args0 :: below }]
def below0 : List Frame := [.native { method := ⟨0, 0⟩, args := #[] }]
def about1 : State := aboutOver below0
def p0 : Program := .bare "" "" ""
def e0 : Env := launch0.env 0 0 0
theorem w_frames : about1.frames = Frame.invoking theMethod args0 :: below0 := rfl
set_option maxRecDepth 65536 in
theorem w_args : argsFit about1.vm theMethod args0 = true := by decide +kernel
set_option maxRecDepth 65536 in
theorem w_heap : heapFits about1 = true := by decide +kernel
set_option maxRecDepth 65536 in
theorem w_runnable : about1.curStatus? = some .runnable := by decide +kernel
set_option maxRecDepth 65536 in
theorem w_alone : about1.alone = true := by decide +kernel
set_option maxRecDepth 65536 in
theorem w_named : about1.methodNamed? x = some theMethod := by decide +kernel
set_option maxRecDepth 65536 in
theorem w_hears : about1.hears theMethod below0 = true := by decide +kernel
set_option maxRecDepth 65536 in
theorem w_ripe : about1.ripe theMethod args0 below0 = true := by decide +kernel
theorem w_running : about1.status = .running := rfl
set_option maxRecDepth 65536 in
theorem w_room : about1.hasRoom e0.platform room_1 = true :=
  launch0.hasRoom_least _ room_1 (by decide +kernel) (by decide +kernel) (by decide +kernel) (by decide +kernel) (by decide +kernel) (by decide +kernel)
theorem allAtoms_all (ts : List Jvm.Cond) (a : Array Jvm.Value) (st : Jvm.State) : (allAtoms ts).before a st = ts.all (fun c => c.before a st) := by
  induction ts with
  | nil => rfl
  | cons c t ih =>
    show (Jvm.Cond.and c (allAtoms t)).before a st = _
    rw [Jvm.Cond.before_and, ih, List.all_cons]
def words1 : List Jvm.Cond := Jvm.Cond.code x code maxLocals ret :: tables_1
/-- a 'code' word, met by the world's own term for the bytes: nothing is compared byte by byte -/
theorem code_word {y : MethodName} {bytes : ByteArray} {mx : Nat} {rt : Option FieldType} {a : Array Value} {s : State} {m : MethodId} {meth : Method} {c : Code} (h1 : s.methodNamed? y = some m) (h2 : s.vm.method? m = some meth) (h3 : meth.code = some c) (h4 : c.code = bytes)
    (h5 : (c.maxLocals == mx && c.exceptionTable.isEmpty && decide (c.maxStack ≤ mostOperands) && decide (meth.sig.returnType = rt) && !meth.locks && decide (parseMethodDescriptor y.desc = some meth.sig)) = true) : (Jvm.Cond.code y bytes mx rt).before a s = true := by
  simp only [Bool.and_eq_true, beq_iff_eq, Bool.not_eq_true', decide_eq_true_eq] at h5
  obtain ⟨⟨⟨⟨⟨g1, g2⟩, g3⟩, g4⟩, g5⟩, g6⟩ := h5
  simp [Cond.before, Cond.holds, Cond.value, h1, h2, h3, h4, g1, g2, g3, g4, g5, g6]
def isCode : Jvm.Cond → Bool
  | .code _ _ _ _ => true
  | _ => false
theorem all_split {L : List Jvm.Cond} {P : Jvm.Cond → Bool} (h1 : L.all (fun c => isCode c || P c) = true) (h2 : ∀ c ∈ L.filter isCode, P c = true) : L.all P = true := by
  refine List.all_eq_true.mpr fun c hc => ?_
  have h := List.all_eq_true.mp h1 c hc
  rcases Bool.eq_false_or_eq_true (isCode c) with hi | hi
  · exact h2 c (List.mem_filter.mpr ⟨hc, hi⟩)
  · simpa [hi] using h
set_option maxRecDepth 65536 in
theorem w_c0 : (Jvm.Cond.code x code maxLocals ret).before args0 about1 = true := code_word (m := ⟨1, 1⟩) (meth := k1m1) (c := k1c1) (by decide +kernel) rfl rfl rfl (by decide +kernel)
set_option maxRecDepth 65536 in
theorem w_c1 : (Jvm.Cond.code ({ cls := "com/example/gantry/gantry/resolver/LocalCopy", name := "<init>", desc := "(Ljava/net/URI;Ljava/net/URI;Ljava/nio/file/Path;Ljava/util/Optional;)V" } : Jvm.MethodName) prog_61_method_2_code (5 : Nat) (Option.none : Option Jvm.ClassFile.FieldType)).before args0 about1 = true := code_word (m := ⟨3, 0⟩) (meth := k3m0) (c := k3c0) (by decide +kernel) rfl rfl rfl (by decide +kernel)
set_option maxRecDepth 65536 in
theorem w_c2 : (Jvm.Cond.code ({ cls := "java/lang/Record", name := "<init>", desc := "()V" } : Jvm.MethodName) jdk_30_method_1_code (1 : Nat) (Option.none : Option Jvm.ClassFile.FieldType)).before args0 about1 = true := code_word (m := ⟨2, 0⟩) (meth := k2m0) (c := k2c0) (by decide +kernel) rfl rfl rfl (by decide +kernel)
set_option maxRecDepth 65536 in
theorem w_c3 : (Jvm.Cond.code ({ cls := "java/lang/Object", name := "<init>", desc := "()V" } : Jvm.MethodName) object_method_1_code (1 : Nat) (Option.none : Option Jvm.ClassFile.FieldType)).before args0 about1 = true := code_word (m := ⟨0, 0⟩) (meth := k0m0) (c := k0c0) (by decide +kernel) rfl rfl rfl (by decide +kernel)
set_option maxRecDepth 65536 in
theorem w_c4 : (Jvm.Cond.code ({ cls := "java/util/ArrayList", name := "<init>", desc := "()V" } : Jvm.MethodName) jdk_38_method_2_code (1 : Nat) (Option.none : Option Jvm.ClassFile.FieldType)).before args0 about1 = true := code_word (m := ⟨13, 0⟩) (meth := k13m0) (c := k13c0) (by decide +kernel) rfl rfl rfl (by decide +kernel)
set_option maxRecDepth 65536 in
theorem w_c5 : (Jvm.Cond.code ({ cls := "java/util/AbstractList", name := "<init>", desc := "()V" } : Jvm.MethodName) jdk_39_method_1_code (1 : Nat) (Option.none : Option Jvm.ClassFile.FieldType)).before args0 about1 = true := code_word (m := ⟨9, 0⟩) (meth := k9m0) (c := k9c0) (by decide +kernel) rfl rfl rfl (by decide +kernel)
set_option maxRecDepth 65536 in
theorem w_c6 : (Jvm.Cond.code ({ cls := "java/util/AbstractCollection", name := "<init>", desc := "()V" } : Jvm.MethodName) jdk_22_method_1_code (1 : Nat) (Option.none : Option Jvm.ClassFile.FieldType)).before args0 about1 = true := code_word (m := ⟨6, 0⟩) (meth := k6m0) (c := k6c0) (by decide +kernel) rfl rfl rfl (by decide +kernel)
set_option maxRecDepth 65536 in
theorem w_c7 : (Jvm.Cond.code ({ cls := "java/util/ArrayList", name := "add", desc := "(Ljava/lang/Object;)Z" } : Jvm.MethodName) jdk_38_method_25_code (2 : Nat) (Option.some Jvm.ClassFile.FieldType.boolean)).before args0 about1 = true := code_word (m := ⟨13, 6⟩) (meth := k13m6) (c := k13c6) (by decide +kernel) rfl rfl rfl (by decide +kernel)
set_option maxRecDepth 65536 in
theorem w_c8 : (Jvm.Cond.code ({ cls := "java/util/ArrayList", name := "add", desc := "(Ljava/lang/Object;[Ljava/lang/Object;I)V" } : Jvm.MethodName) jdk_38_method_24_code (4 : Nat) (Option.none : Option Jvm.ClassFile.FieldType)).before args0 about1 = true := code_word (m := ⟨13, 5⟩) (meth := k13m5) (c := k13c5) (by decide +kernel) rfl rfl rfl (by decide +kernel)
set_option maxRecDepth 65536 in
theorem w_c9 : (Jvm.Cond.code ({ cls := "java/util/ArrayList", name := "grow", desc := "()[Ljava/lang/Object;" } : Jvm.MethodName) jdk_38_method_7_code (1 : Nat) (Option.some (Jvm.ClassFile.FieldType.array (Jvm.ClassFile.FieldType.object "java/lang/Object")))).before args0 about1 = true := code_word (m := ⟨13, 2⟩) (meth := k13m2) (c := k13c2) (by decide +kernel) rfl rfl rfl (by decide +kernel)
set_option maxRecDepth 65536 in
theorem w_c10 : (Jvm.Cond.code ({ cls := "java/util/ArrayList", name := "grow", desc := "(I)[Ljava/lang/Object;" } : Jvm.MethodName) jdk_38_method_6_code (4 : Nat) (Option.some (Jvm.ClassFile.FieldType.array (Jvm.ClassFile.FieldType.object "java/lang/Object")))).before args0 about1 = true := code_word (m := ⟨13, 1⟩) (meth := k13m1) (c := k13c1) (by decide +kernel) rfl rfl rfl (by decide +kernel)
set_option maxRecDepth 65536 in
theorem w_c11 : (Jvm.Cond.code ({ cls := "java/lang/Math", name := "max", desc := "(II)I" } : Jvm.MethodName) jdk_29_method_65_code (2 : Nat) (Option.some Jvm.ClassFile.FieldType.int)).before args0 about1 = true := code_word (m := ⟨14, 1⟩) (meth := k14m1) (c := k14c1) (by decide +kernel) rfl rfl rfl (by decide +kernel)
set_option maxRecDepth 65536 in
theorem w_c12 : (Jvm.Cond.code ({ cls := "com/example/gantry/gantry/resolver/Resolution$Jar", name := "<init>", desc := "(Ljava/net/URI;Lcom/example/gantry/gantry/resolver/LocalCopy;)V" } : Jvm.MethodName) prog_67_method_1_code (3 : Nat) (Option.none : Option Jvm.ClassFile.FieldType)).before args0 about1 = true := code_word (m := ⟨15, 0⟩) (meth := k15m0) (c := k15c0) (by decide +kernel) rfl rfl rfl (by decide +kernel)
set_option maxRecDepth 65536 in
theorem w_c13 : (Jvm.Cond.code ({ cls := "com/example/gantry/gantry/resolver/Resolution", name := "<init>", desc := "(Ljava/util/List;Ljava/util/Optional;Ljava/util/List;ZLjava/util/List;Ljava/util/List;Ljava/util/List;Ljava/util/List;)V" } : Jvm.MethodName) prog_66_method_1_code (9 : Nat) (Option.none : Option Jvm.ClassFile.FieldType)).before args0 about1 = true := code_word (m := ⟨16, 0⟩) (meth := k16m0) (c := k16c0) (by decide +kernel) rfl rfl rfl (by decide +kernel)
set_option maxRecDepth 65536 in
theorem w_c14 : (Jvm.Cond.code ({ cls := "java/util/List", name := "copyOf", desc := "(Ljava/util/Collection;)Ljava/util/List;" } : Jvm.MethodName) jdk_40_method_48_code (1 : Nat) (Option.some (Jvm.ClassFile.FieldType.object "java/util/List"))).before args0 about1 = true := code_word (m := ⟨8, 5⟩) (meth := k8m5) (c := k8c5) (by decide +kernel) rfl rfl rfl (by decide +kernel)
set_option maxRecDepth 65536 in
theorem w_c15 : (Jvm.Cond.code ({ cls := "java/util/ImmutableCollections", name := "listCopy", desc := "(Ljava/util/Collection;)Ljava/util/List;" } : Jvm.MethodName) jdk_56_method_3_code (2 : Nat) (Option.some (Jvm.ClassFile.FieldType.object "java/util/List"))).before args0 about1 = true := code_word (m := ⟨17, 1⟩) (meth := k17m1) (c := k17c1) (by decide +kernel) rfl rfl rfl (by decide +kernel)
set_option maxRecDepth 65536 in
theorem w_c16 : (Jvm.Cond.code ({ cls := "java/util/ArrayList", name := "isEmpty", desc := "()Z" } : Jvm.MethodName) jdk_38_method_9_code (1 : Nat) (Option.some Jvm.ClassFile.FieldType.boolean)).before args0 about1 = true := code_word (m := ⟨13, 3⟩) (meth := k13m3) (c := k13c3) (by decide +kernel) rfl rfl rfl (by decide +kernel)
set_option maxRecDepth 65536 in
theorem w_c17 : (Jvm.Cond.code ({ cls := "java/util/ArrayList", name := "toArray", desc := "()[Ljava/lang/Object;" } : Jvm.MethodName) jdk_38_method_16_code (1 : Nat) (Option.some (Jvm.ClassFile.FieldType.array (Jvm.ClassFile.FieldType.object "java/lang/Object")))).before args0 about1 = true := code_word (m := ⟨13, 4⟩) (meth := k13m4) (c := k13c4) (by decide +kernel) rfl rfl rfl (by decide +kernel)
set_option maxRecDepth 65536 in
theorem w_c18 : (Jvm.Cond.code ({ cls := "java/util/Arrays", name := "copyOf", desc := "([Ljava/lang/Object;I)[Ljava/lang/Object;" } : Jvm.MethodName) jdk_65_method_119_code (2 : Nat) (Option.some (Jvm.ClassFile.FieldType.array (Jvm.ClassFile.FieldType.object "java/lang/Object")))).before args0 about1 = true := code_word (m := ⟨22, 1⟩) (meth := k22m1) (c := k22c1) (by decide +kernel) rfl rfl rfl (by decide +kernel)
set_option maxRecDepth 65536 in
theorem w_c19 : (Jvm.Cond.code ({ cls := "java/util/Arrays", name := "copyOf", desc := "([Ljava/lang/Object;ILjava/lang/Class;)[Ljava/lang/Object;" } : Jvm.MethodName) jdk_65_method_120_code (4 : Nat) (Option.some (Jvm.ClassFile.FieldType.array (Jvm.ClassFile.FieldType.object "java/lang/Object")))).before args0 about1 = true := code_word (m := ⟨22, 2⟩) (meth := k22m2) (c := k22c2) (by decide +kernel) rfl rfl rfl (by decide +kernel)
set_option maxRecDepth 65536 in
theorem w_c20 : (Jvm.Cond.code ({ cls := "java/lang/Math", name := "min", desc := "(II)I" } : Jvm.MethodName) jdk_29_method_69_code (2 : Nat) (Option.some Jvm.ClassFile.FieldType.int)).before args0 about1 = true := code_word (m := ⟨14, 2⟩) (meth := k14m2) (c := k14c2) (by decide +kernel) rfl rfl rfl (by decide +kernel)
set_option maxRecDepth 65536 in
theorem w_c21 : (Jvm.Cond.code ({ cls := "java/util/List", name := "of", desc := "([Ljava/lang/Object;)Ljava/util/List;" } : Jvm.MethodName) jdk_40_method_47_code (2 : Nat) (Option.some (Jvm.ClassFile.FieldType.object "java/util/List"))).before args0 about1 = true := code_word (m := ⟨8, 4⟩) (meth := k8m4) (c := k8c4) (by decide +kernel) rfl rfl rfl (by decide +kernel)
set_option maxRecDepth 65536 in
theorem w_c22 : (Jvm.Cond.code ({ cls := "java/util/ImmutableCollections$List12", name := "<init>", desc := "(Ljava/lang/Object;)V" } : Jvm.MethodName) jdk_44_method_1_code (2 : Nat) (Option.none : Option Jvm.ClassFile.FieldType)).before args0 about1 = true := code_word (m := ⟨20, 0⟩) (meth := k20m0) (c := k20c0) (by decide +kernel) rfl rfl rfl (by decide +kernel)
set_option maxRecDepth 65536 in
theorem w_c23 : (Jvm.Cond.code ({ cls := "java/util/ImmutableCollections$AbstractImmutableList", name := "<init>", desc := "()V" } : Jvm.MethodName) jdk_46_method_1_code (1 : Nat) (Option.none : Option Jvm.ClassFile.FieldType)).before args0 about1 = true := code_word (m := ⟨19, 0⟩) (meth := k19m0) (c := k19c0) (by decide +kernel) rfl rfl rfl (by decide +kernel)
set_option maxRecDepth 65536 in
theorem w_c24 : (Jvm.Cond.code ({ cls := "java/util/ImmutableCollections$AbstractImmutableCollection", name := "<init>", desc := "()V" } : Jvm.MethodName) jdk_47_method_1_code (1 : Nat) (Option.none : Option Jvm.ClassFile.FieldType)).before args0 about1 = true := code_word (m := ⟨18, 0⟩) (meth := k18m0) (c := k18c0) (by decide +kernel) rfl rfl rfl (by decide +kernel)
set_option maxRecDepth 65536 in
theorem w_c25 : (Jvm.Cond.code ({ cls := "java/util/Objects", name := "requireNonNull", desc := "(Ljava/lang/Object;)Ljava/lang/Object;" } : Jvm.MethodName) jdk_31_method_10_code (1 : Nat) (Option.some (Jvm.ClassFile.FieldType.object "java/lang/Object"))).before args0 about1 = true := code_word (m := ⟨24, 1⟩) (meth := k24m1) (c := k24c1) (by decide +kernel) rfl rfl rfl (by decide +kernel)
set_option maxRecDepth 65536 in
theorem w_c26 : (Jvm.Cond.code ({ cls := "java/util/List", name := "of", desc := "()Ljava/util/List;" } : Jvm.MethodName) jdk_40_method_36_code (0 : Nat) (Option.some (Jvm.ClassFile.FieldType.object "java/util/List"))).before args0 about1 = true := code_word (m := ⟨8, 3⟩) (meth := k8m3) (c := k8c3) (by decide +kernel) rfl rfl rfl (by decide +kernel)
set_option maxRecDepth 65536 in
theorem w_c27 : (Jvm.Cond.code ({ cls := "java/util/ImmutableCollections$List12", name := "isEmpty", desc := "()Z" } : Jvm.MethodName) jdk_44_method_4_code (1 : Nat) (Option.some Jvm.ClassFile.FieldType.boolean)).before args0 about1 = true := code_word (m := ⟨20, 3⟩) (meth := k20m3) (c := k20c3) (by decide +kernel) rfl rfl rfl (by decide +kernel)
set_option maxRecDepth 65536 in
theorem w_c28 : (Jvm.Cond.code ({ cls := "java/util/ArrayList", name := "add", desc := "(ILjava/lang/Object;)V" } : Jvm.MethodName) jdk_38_method_26_code (5 : Nat) (Option.none : Option Jvm.ClassFile.FieldType)).before args0 about1 = true := code_word (m := ⟨13, 7⟩) (meth := k13m7) (c := k13c7) (by decide +kernel) rfl rfl rfl (by decide +kernel)
set_option maxRecDepth 65536 in
theorem w_c29 : (Jvm.Cond.code ({ cls := "java/util/ArrayList", name := "rangeCheckForAdd", desc := "(I)V" } : Jvm.MethodName) jdk_38_method_45_code (2 : Nat) (Option.none : Option Jvm.ClassFile.FieldType)).before args0 about1 = true := code_word (m := ⟨13, 8⟩) (meth := k13m8) (c := k13c8) (by decide +kernel) rfl rfl rfl (by decide +kernel)
set_option maxRecDepth 65536 in
theorem w_c30 : (Jvm.Cond.code ({ cls := "com/example/gantry/gantry/resolver/Resolution", name := "application", desc := "()Lcom/example/gantry/gantry/resolver/LocalCopy;" } : Jvm.MethodName) prog_66_method_2_code (1 : Nat) (Option.some (Jvm.ClassFile.FieldType.object "com/example/gantry/gantry/resolver/LocalCopy"))).before args0 about1 = true := code_word (m := ⟨16, 1⟩) (meth := k16m1) (c := k16c1) (by decide +kernel) rfl rfl rfl (by decide +kernel)
set_option maxRecDepth 65536 in
theorem w_c31 : (Jvm.Cond.code ({ cls := "java/util/ImmutableCollections$List12", name := "get", desc := "(I)Ljava/lang/Object;" } : Jvm.MethodName) jdk_44_method_5_code (2 : Nat) (Option.some (Jvm.ClassFile.FieldType.object "java/lang/Object"))).before args0 about1 = true := code_word (m := ⟨20, 4⟩) (meth := k20m4) (c := k20c4) (by decide +kernel) rfl rfl rfl (by decide +kernel)
set_option maxRecDepth 65536 in
theorem w_c32 : (Jvm.Cond.code ({ cls := "com/example/gantry/gantry/resolver/Resolution", name := "descriptors", desc := "()Ljava/util/List;" } : Jvm.MethodName) prog_66_method_6_code (1 : Nat) (Option.some (Jvm.ClassFile.FieldType.object "java/util/List"))).before args0 about1 = true := code_word (m := ⟨16, 2⟩) (meth := k16m2) (c := k16c2) (by decide +kernel) rfl rfl rfl (by decide +kernel)
set_option maxRecDepth 65536 in
theorem w_c33 : (Jvm.Cond.code ({ cls := "java/util/ImmutableCollections$List12", name := "size", desc := "()I" } : Jvm.MethodName) jdk_44_method_3_code (1 : Nat) (Option.some Jvm.ClassFile.FieldType.int)).before args0 about1 = true := code_word (m := ⟨20, 2⟩) (meth := k20m2) (c := k20c2) (by decide +kernel) rfl rfl rfl (by decide +kernel)
set_option maxRecDepth 65536 in
theorem w_c34 : (Jvm.Cond.code ({ cls := "java/util/ImmutableCollections$List12", name := "<init>", desc := "(Ljava/lang/Object;Ljava/lang/Object;)V" } : Jvm.MethodName) jdk_44_method_2_code (3 : Nat) (Option.none : Option Jvm.ClassFile.FieldType)).before args0 about1 = true := code_word (m := ⟨20, 1⟩) (meth := k20m1) (c := k20c1) (by decide +kernel) rfl rfl rfl (by decide +kernel)
set_option maxRecDepth 65536 in
theorem w_c35 : (Jvm.Cond.code ({ cls := "java/util/ImmutableCollections", name := "listFromArray", desc := "([Ljava/lang/Object;)Ljava/util/List;" } : Jvm.MethodName) jdk_56_method_4_code (3 : Nat) (Option.some (Jvm.ClassFile.FieldType.object "java/util/List"))).before args0 about1 = true := code_word (m := ⟨17, 2⟩) (meth := k17m2) (c := k17c2) (by decide +kernel) rfl rfl rfl (by decide +kernel)
set_option maxRecDepth 65536 in
theorem w_c36 : (Jvm.Cond.code ({ cls := "java/util/ImmutableCollections$ListN", name := "<init>", desc := "([Ljava/lang/Object;Z)V" } : Jvm.MethodName) jdk_45_method_1_code (3 : Nat) (Option.none : Option Jvm.ClassFile.FieldType)).before args0 about1 = true := code_word (m := ⟨21, 0⟩) (meth := k21m0) (c := k21c0) (by decide +kernel) rfl rfl rfl (by decide +kernel)
set_option maxRecDepth 65536 in
theorem w_c37 : (Jvm.Cond.code ({ cls := "java/util/ImmutableCollections$ListN", name := "isEmpty", desc := "()Z" } : Jvm.MethodName) jdk_45_method_2_code (1 : Nat) (Option.some Jvm.ClassFile.FieldType.boolean)).before args0 about1 = true := code_word (m := ⟨21, 1⟩) (meth := k21m1) (c := k21c1) (by decide +kernel) rfl rfl rfl (by decide +kernel)
set_option maxRecDepth 65536 in
theorem w_c38 : (Jvm.Cond.code ({ cls := "java/util/ImmutableCollections$ListN", name := "get", desc := "(I)Ljava/lang/Object;" } : Jvm.MethodName) jdk_45_method_4_code (2 : Nat) (Option.some (Jvm.ClassFile.FieldType.object "java/lang/Object"))).before args0 about1 = true := code_word (m := ⟨21, 3⟩) (meth := k21m3) (c := k21c3) (by decide +kernel) rfl rfl rfl (by decide +kernel)
set_option maxRecDepth 65536 in
theorem w_c39 : (Jvm.Cond.code ({ cls := "java/util/ImmutableCollections$ListN", name := "size", desc := "()I" } : Jvm.MethodName) jdk_45_method_3_code (1 : Nat) (Option.some Jvm.ClassFile.FieldType.int)).before args0 about1 = true := code_word (m := ⟨21, 2⟩) (meth := k21m2) (c := k21c2) (by decide +kernel) rfl rfl rfl (by decide +kernel)
def codes1 : List Jvm.Cond := [Jvm.Cond.code x code maxLocals ret, Jvm.Cond.code ({ cls := "com/example/gantry/gantry/resolver/LocalCopy", name := "<init>", desc := "(Ljava/net/URI;Ljava/net/URI;Ljava/nio/file/Path;Ljava/util/Optional;)V" } : Jvm.MethodName) prog_61_method_2_code (5 : Nat) (Option.none : Option Jvm.ClassFile.FieldType), Jvm.Cond.code ({ cls := "java/lang/Record", name := "<init>", desc := "()V" } : Jvm.MethodName) jdk_30_method_1_code (1 : Nat) (Option.none : Option Jvm.ClassFile.FieldType), Jvm.Cond.code ({ cls := "java/lang/Object", name := "<init>", desc := "()V" } : Jvm.MethodName) object_method_1_code (1 : Nat) (Option.none : Option Jvm.ClassFile.FieldType), Jvm.Cond.code ({ cls := "java/util/ArrayList", name := "<init>", desc := "()V" } : Jvm.MethodName) jdk_38_method_2_code (1 : Nat) (Option.none : Option Jvm.ClassFile.FieldType), Jvm.Cond.code ({ cls := "java/util/AbstractList", name := "<init>", desc := "()V" } : Jvm.MethodName) jdk_39_method_1_code (1 : Nat) (Option.none : Option Jvm.ClassFile.FieldType), Jvm.Cond.code ({ cls := "java/util/AbstractCollection", name := "<init>", desc := "()V" } : Jvm.MethodName) jdk_22_method_1_code (1 : Nat) (Option.none : Option Jvm.ClassFile.FieldType), Jvm.Cond.code ({ cls := "java/util/ArrayList", name := "add", desc := "(Ljava/lang/Object;)Z" } : Jvm.MethodName) jdk_38_method_25_code (2 : Nat) (Option.some Jvm.ClassFile.FieldType.boolean), Jvm.Cond.code ({ cls := "java/util/ArrayList", name := "add", desc := "(Ljava/lang/Object;[Ljava/lang/Object;I)V" } : Jvm.MethodName) jdk_38_method_24_code (4 : Nat) (Option.none : Option Jvm.ClassFile.FieldType), Jvm.Cond.code ({ cls := "java/util/ArrayList", name := "grow", desc := "()[Ljava/lang/Object;" } : Jvm.MethodName) jdk_38_method_7_code (1 : Nat) (Option.some (Jvm.ClassFile.FieldType.array (Jvm.ClassFile.FieldType.object "java/lang/Object"))), Jvm.Cond.code ({ cls := "java/util/ArrayList", name := "grow", desc := "(I)[Ljava/lang/Object;" } : Jvm.MethodName) jdk_38_method_6_code (4 : Nat) (Option.some (Jvm.ClassFile.FieldType.array (Jvm.ClassFile.FieldType.object "java/lang/Object"))), Jvm.Cond.code ({ cls := "java/lang/Math", name := "max", desc := "(II)I" } : Jvm.MethodName) jdk_29_method_65_code (2 : Nat) (Option.some Jvm.ClassFile.FieldType.int), Jvm.Cond.code ({ cls := "com/example/gantry/gantry/resolver/Resolution$Jar", name := "<init>", desc := "(Ljava/net/URI;Lcom/example/gantry/gantry/resolver/LocalCopy;)V" } : Jvm.MethodName) prog_67_method_1_code (3 : Nat) (Option.none : Option Jvm.ClassFile.FieldType), Jvm.Cond.code ({ cls := "com/example/gantry/gantry/resolver/Resolution", name := "<init>", desc := "(Ljava/util/List;Ljava/util/Optional;Ljava/util/List;ZLjava/util/List;Ljava/util/List;Ljava/util/List;Ljava/util/List;)V" } : Jvm.MethodName) prog_66_method_1_code (9 : Nat) (Option.none : Option Jvm.ClassFile.FieldType), Jvm.Cond.code ({ cls := "java/util/List", name := "copyOf", desc := "(Ljava/util/Collection;)Ljava/util/List;" } : Jvm.MethodName) jdk_40_method_48_code (1 : Nat) (Option.some (Jvm.ClassFile.FieldType.object "java/util/List")), Jvm.Cond.code ({ cls := "java/util/ImmutableCollections", name := "listCopy", desc := "(Ljava/util/Collection;)Ljava/util/List;" } : Jvm.MethodName) jdk_56_method_3_code (2 : Nat) (Option.some (Jvm.ClassFile.FieldType.object "java/util/List")), Jvm.Cond.code ({ cls := "java/util/ArrayList", name := "isEmpty", desc := "()Z" } : Jvm.MethodName) jdk_38_method_9_code (1 : Nat) (Option.some Jvm.ClassFile.FieldType.boolean), Jvm.Cond.code ({ cls := "java/util/ArrayList", name := "toArray", desc := "()[Ljava/lang/Object;" } : Jvm.MethodName) jdk_38_method_16_code (1 : Nat) (Option.some (Jvm.ClassFile.FieldType.array (Jvm.ClassFile.FieldType.object "java/lang/Object"))), Jvm.Cond.code ({ cls := "java/util/Arrays", name := "copyOf", desc := "([Ljava/lang/Object;I)[Ljava/lang/Object;" } : Jvm.MethodName) jdk_65_method_119_code (2 : Nat) (Option.some (Jvm.ClassFile.FieldType.array (Jvm.ClassFile.FieldType.object "java/lang/Object"))), Jvm.Cond.code ({ cls := "java/util/Arrays", name := "copyOf", desc := "([Ljava/lang/Object;ILjava/lang/Class;)[Ljava/lang/Object;" } : Jvm.MethodName) jdk_65_method_120_code (4 : Nat) (Option.some (Jvm.ClassFile.FieldType.array (Jvm.ClassFile.FieldType.object "java/lang/Object"))), Jvm.Cond.code ({ cls := "java/lang/Math", name := "min", desc := "(II)I" } : Jvm.MethodName) jdk_29_method_69_code (2 : Nat) (Option.some Jvm.ClassFile.FieldType.int), Jvm.Cond.code ({ cls := "java/util/List", name := "of", desc := "([Ljava/lang/Object;)Ljava/util/List;" } : Jvm.MethodName) jdk_40_method_47_code (2 : Nat) (Option.some (Jvm.ClassFile.FieldType.object "java/util/List")), Jvm.Cond.code ({ cls := "java/util/ImmutableCollections$List12", name := "<init>", desc := "(Ljava/lang/Object;)V" } : Jvm.MethodName) jdk_44_method_1_code (2 : Nat) (Option.none : Option Jvm.ClassFile.FieldType), Jvm.Cond.code ({ cls := "java/util/ImmutableCollections$AbstractImmutableList", name := "<init>", desc := "()V" } : Jvm.MethodName) jdk_46_method_1_code (1 : Nat) (Option.none : Option Jvm.ClassFile.FieldType), Jvm.Cond.code ({ cls := "java/util/ImmutableCollections$AbstractImmutableCollection", name := "<init>", desc := "()V" } : Jvm.MethodName) jdk_47_method_1_code (1 : Nat) (Option.none : Option Jvm.ClassFile.FieldType), Jvm.Cond.code ({ cls := "java/util/Objects", name := "requireNonNull", desc := "(Ljava/lang/Object;)Ljava/lang/Object;" } : Jvm.MethodName) jdk_31_method_10_code (1 : Nat) (Option.some (Jvm.ClassFile.FieldType.object "java/lang/Object")), Jvm.Cond.code ({ cls := "java/util/List", name := "of", desc := "()Ljava/util/List;" } : Jvm.MethodName) jdk_40_method_36_code (0 : Nat) (Option.some (Jvm.ClassFile.FieldType.object "java/util/List")), Jvm.Cond.code ({ cls := "java/util/ImmutableCollections$List12", name := "isEmpty", desc := "()Z" } : Jvm.MethodName) jdk_44_method_4_code (1 : Nat) (Option.some Jvm.ClassFile.FieldType.boolean), Jvm.Cond.code ({ cls := "java/util/ArrayList", name := "add", desc := "(ILjava/lang/Object;)V" } : Jvm.MethodName) jdk_38_method_26_code (5 : Nat) (Option.none : Option Jvm.ClassFile.FieldType), Jvm.Cond.code ({ cls := "java/util/ArrayList", name := "rangeCheckForAdd", desc := "(I)V" } : Jvm.MethodName) jdk_38_method_45_code (2 : Nat) (Option.none : Option Jvm.ClassFile.FieldType), Jvm.Cond.code ({ cls := "com/example/gantry/gantry/resolver/Resolution", name := "application", desc := "()Lcom/example/gantry/gantry/resolver/LocalCopy;" } : Jvm.MethodName) prog_66_method_2_code (1 : Nat) (Option.some (Jvm.ClassFile.FieldType.object "com/example/gantry/gantry/resolver/LocalCopy")), Jvm.Cond.code ({ cls := "java/util/ImmutableCollections$List12", name := "get", desc := "(I)Ljava/lang/Object;" } : Jvm.MethodName) jdk_44_method_5_code (2 : Nat) (Option.some (Jvm.ClassFile.FieldType.object "java/lang/Object")), Jvm.Cond.code ({ cls := "com/example/gantry/gantry/resolver/Resolution", name := "descriptors", desc := "()Ljava/util/List;" } : Jvm.MethodName) prog_66_method_6_code (1 : Nat) (Option.some (Jvm.ClassFile.FieldType.object "java/util/List")), Jvm.Cond.code ({ cls := "java/util/ImmutableCollections$List12", name := "size", desc := "()I" } : Jvm.MethodName) jdk_44_method_3_code (1 : Nat) (Option.some Jvm.ClassFile.FieldType.int), Jvm.Cond.code ({ cls := "java/util/ImmutableCollections$List12", name := "<init>", desc := "(Ljava/lang/Object;Ljava/lang/Object;)V" } : Jvm.MethodName) jdk_44_method_2_code (3 : Nat) (Option.none : Option Jvm.ClassFile.FieldType), Jvm.Cond.code ({ cls := "java/util/ImmutableCollections", name := "listFromArray", desc := "([Ljava/lang/Object;)Ljava/util/List;" } : Jvm.MethodName) jdk_56_method_4_code (3 : Nat) (Option.some (Jvm.ClassFile.FieldType.object "java/util/List")), Jvm.Cond.code ({ cls := "java/util/ImmutableCollections$ListN", name := "<init>", desc := "([Ljava/lang/Object;Z)V" } : Jvm.MethodName) jdk_45_method_1_code (3 : Nat) (Option.none : Option Jvm.ClassFile.FieldType), Jvm.Cond.code ({ cls := "java/util/ImmutableCollections$ListN", name := "isEmpty", desc := "()Z" } : Jvm.MethodName) jdk_45_method_2_code (1 : Nat) (Option.some Jvm.ClassFile.FieldType.boolean), Jvm.Cond.code ({ cls := "java/util/ImmutableCollections$ListN", name := "get", desc := "(I)Ljava/lang/Object;" } : Jvm.MethodName) jdk_45_method_4_code (2 : Nat) (Option.some (Jvm.ClassFile.FieldType.object "java/lang/Object")), Jvm.Cond.code ({ cls := "java/util/ImmutableCollections$ListN", name := "size", desc := "()I" } : Jvm.MethodName) jdk_45_method_3_code (1 : Nat) (Option.some Jvm.ClassFile.FieldType.int)]
set_option maxRecDepth 65536 in
theorem codes_eq : words1.filter isCode = codes1 := rfl
theorem w_codes : ∀ c ∈ words1.filter isCode, c.before args0 about1 = true := by
  rw [codes_eq]
  intro c hc
  simp only [codes1, List.mem_cons, List.not_mem_nil, or_false] at hc
  rcases hc with rfl | rfl | rfl | rfl | rfl | rfl | rfl | rfl | rfl | rfl | rfl | rfl | rfl | rfl | rfl | rfl | rfl | rfl | rfl | rfl | rfl | rfl | rfl | rfl | rfl | rfl | rfl | rfl | rfl | rfl | rfl | rfl | rfl | rfl | rfl | rfl | rfl | rfl | rfl | rfl
  · exact w_c0
  · exact w_c1
  · exact w_c2
  · exact w_c3
  · exact w_c4
  · exact w_c5
  · exact w_c6
  · exact w_c7
  · exact w_c8
  · exact w_c9
  · exact w_c10
  · exact w_c11
  · exact w_c12
  · exact w_c13
  · exact w_c14
  · exact w_c15
  · exact w_c16
  · exact w_c17
  · exact w_c18
  · exact w_c19
  · exact w_c20
  · exact w_c21
  · exact w_c22
  · exact w_c23
  · exact w_c24
  · exact w_c25
  · exact w_c26
  · exact w_c27
  · exact w_c28
  · exact w_c29
  · exact w_c30
  · exact w_c31
  · exact w_c32
  · exact w_c33
  · exact w_c34
  · exact w_c35
  · exact w_c36
  · exact w_c37
  · exact w_c38
  · exact w_c39
set_option maxRecDepth 65536 in
theorem w_t1 : (words1.take 24).all (fun c => isCode c || c.before args0 about1) = true := by decide +kernel
set_option maxRecDepth 65536 in
theorem w_t2 : ((words1.drop 24).take 24).all (fun c => isCode c || c.before args0 about1) = true := by decide +kernel
set_option maxRecDepth 65536 in
theorem w_t3 : (((words1.drop 24).drop 24).take 24).all (fun c => isCode c || c.before args0 about1) = true := by decide +kernel
set_option maxRecDepth 65536 in
theorem w_t4 : ((((words1.drop 24).drop 24).drop 24).take 24).all (fun c => isCode c || c.before args0 about1) = true := by decide +kernel
set_option maxRecDepth 65536 in
theorem w_t5 : (((((words1.drop 24).drop 24).drop 24).drop 24).take 24).all (fun c => isCode c || c.before args0 about1) = true := by decide +kernel
set_option maxRecDepth 65536 in
theorem w_t6 : ((((((words1.drop 24).drop 24).drop 24).drop 24).drop 24).take 24).all (fun c => isCode c || c.before args0 about1) = true := by decide +kernel
set_option maxRecDepth 65536 in
theorem w_t7 : (((((((words1.drop 24).drop 24).drop 24).drop 24).drop 24).drop 24).take 24).all (fun c => isCode c || c.before args0 about1) = true := by decide +kernel
set_option maxRecDepth 65536 in
theorem w_t8 : ((((((((words1.drop 24).drop 24).drop 24).drop 24).drop 24).drop 24).drop 24).take 24).all (fun c => isCode c || c.before args0 about1) = true := by decide +kernel
set_option maxRecDepth 65536 in
theorem w_t9 : (((((((((words1.drop 24).drop 24).drop 24).drop 24).drop 24).drop 24).drop 24).drop 24).take 24).all (fun c => isCode c || c.before args0 about1) = true := by decide +kernel
set_option maxRecDepth 65536 in
theorem w_t10 : ((((((((((words1.drop 24).drop 24).drop 24).drop 24).drop 24).drop 24).drop 24).drop 24).drop 24).take 24).all (fun c => isCode c || c.before args0 about1) = true := by decide +kernel
set_option maxRecDepth 65536 in
theorem w_t11 : (((((((((((words1.drop 24).drop 24).drop 24).drop 24).drop 24).drop 24).drop 24).drop 24).drop 24).drop 24).take 24).all (fun c => isCode c || c.before args0 about1) = true := by decide +kernel
set_option maxRecDepth 65536 in
theorem w_t12 : ((((((((((((words1.drop 24).drop 24).drop 24).drop 24).drop 24).drop 24).drop 24).drop 24).drop 24).drop 24).drop 24).take 24).all (fun c => isCode c || c.before args0 about1) = true := by decide +kernel
set_option maxRecDepth 65536 in
theorem w_t13 : ((((((((((((words1.drop 24).drop 24).drop 24).drop 24).drop 24).drop 24).drop 24).drop 24).drop 24).drop 24).drop 24).drop 24).all (fun c => isCode c || c.before args0 about1) = true := by decide +kernel
theorem w_tables : (allAtoms (Jvm.Cond.code x code maxLocals ret :: tables_1)).before args0 about1 = true := by
  rw [allAtoms_all]
  show words1.all (fun c => c.before args0 about1) = true
  refine all_split ?_ w_codes
  rw [← List.take_append_drop 24 words1, List.all_append, w_t1, ← List.take_append_drop 24 (words1.drop 24), List.all_append, w_t2, ← List.take_append_drop 24 ((words1.drop 24).drop 24), List.all_append, w_t3, ← List.take_append_drop 24 (((words1.drop 24).drop 24).drop 24), List.all_append, w_t4, ← List.take_append_drop 24 ((((words1.drop 24).drop 24).drop 24).drop 24), List.all_append, w_t5, ← List.take_append_drop 24 (((((words1.drop 24).drop 24).drop 24).drop 24).drop 24), List.all_append, w_t6, ← List.take_append_drop 24 ((((((words1.drop 24).drop 24).drop 24).drop 24).drop 24).drop 24), List.all_append, w_t7, ← List.take_append_drop 24 (((((((words1.drop 24).drop 24).drop 24).drop 24).drop 24).drop 24).drop 24), List.all_append, w_t8, ← List.take_append_drop 24 ((((((((words1.drop 24).drop 24).drop 24).drop 24).drop 24).drop 24).drop 24).drop 24), List.all_append, w_t9, ← List.take_append_drop 24 (((((((((words1.drop 24).drop 24).drop 24).drop 24).drop 24).drop 24).drop 24).drop 24).drop 24), List.all_append, w_t10, ← List.take_append_drop 24 ((((((((((words1.drop 24).drop 24).drop 24).drop 24).drop 24).drop 24).drop 24).drop 24).drop 24).drop 24), List.all_append, w_t11, ← List.take_append_drop 24 (((((((((((words1.drop 24).drop 24).drop 24).drop 24).drop 24).drop 24).drop 24).drop 24).drop 24).drop 24).drop 24), List.all_append, w_t12, w_t13]
  rfl
set_option maxRecDepth 65536 in
theorem w_rest : rest_1_c.before args0 about1 = true := by decide +kernel
set_option maxRecDepth 65536 in
theorem w_case : (Jvm.Cond.and given_1 narrow_1).before args0 about1 = true := by decide +kernel
theorem w_applies : (headSpec (Jvm.Cond.code x code maxLocals ret :: tables_1) room_1).applies x e0.platform about1 = true :=
  (Spec.applies_iff w_frames).mpr ⟨w_running, w_runnable, w_alone, w_named, w_hears, w_ripe, w_room, w_tables⟩
theorem atStart : AtStart classFile x code maxLocals ret World_1 tables_1 room_1 Calls_1 rest_1 Pre_1 launch0 p0 e0 about1 theMethod args0 below0 :=
  ⟨lists_1, trivial, launch0.admits_env _ _ _, launch0.least_env, fairChoices_fair.cas, fairChoices_fair.clock, w_frames, w_args, w_heap, w_applies, ⟨⟨31, k31, 2, by decide +kernel, rfl, rfl, _, rfl, rfl⟩, trivial⟩, w_rest, w_case⟩
end start1
theorem witness_1 : WitnessClaimed_1 := ⟨start1.p0, start1.e0, start1.about1, start1.theMethod, start1.args0, start1.below0, start1.atStart⟩
end Jvm.Pilot.@@N@@
