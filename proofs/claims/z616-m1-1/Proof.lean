import JvmDerived
import JvmDerived.Pilot.@@N@@Statement
import JvmDerived.Pilot.@@N@@Code
set_option linter.unusedVariables false
set_option linter.unusedSimpArgs false
namespace Jvm.Pilot.@@N@@
open Jvm Jvm.ClassFile Sem Op Lib Jvm.Free Jvm.Stand Jvm.LawKit Jvm.RoadKit Bundle Jvm.Pilot.@@N@@.Jvm.D
section OwnKit
variable {p : Program} {l : Launch} {e : Env} {R : Room} {s : State} {m : MethodId} {args : Array Value} {below : List Frame} {meth : Method} {c : Code} {T : State} {locs : List Loc} {cells slots : Nat} {Z : State} {a0 : Array Value} {h : Heap} {n0 kc ks : Nat} {FE : Outcome → State → List Loc → Prop} {Q : Option Value → Heap → Prop} {pc pc' : Nat} {Ls Ls' : Array Slot} {st : List Value}
/-- from the state S the run comes back to its caller with what Q says, having written nothing below n0 -/
def Goes (p : Program) (e : Env) (below : List Frame) (FE : Outcome → State → List Loc → Prop) (n0 : Nat) (Q : Option Value → Heap → Prop) (S : State) : Prop :=
  ∃ s₂ o, Steps p.tables e below S s₂ ∧ s₂.status = .running ∧ Ended s₂ below o ∧ ∃ v L, o = .returned v ∧ (Fr n0 L ∧ Q v s₂.heap) ∧ FE o s₂ L
/-- the contract of a body -/
def Meets (l : Launch) (y : MethodName) (bytes : ByteArray) (maxL : Nat) (ret : Option FieldType) (ws : List Jvm.Cond) (rm : Room) (kc ks : Nat) (Z : State) (as' : Array Value) (h : Heap) (n0 : Nat) (Q : Option Value → Heap → Prop) : Prop :=
  MetFree l y (head1 (Jvm.Cond.code y bytes maxL ret :: ws) rm) (fun a U => a = as' ∧ Z.Warmed39 U.vm ∧ U.heap = h) (fun _ _ _ _ _ => True) (fun _ U o U' => ∃ v L, o = .returned v ∧ (Fr n0 L ∧ Q v U'.heap) ∧ FrameEnd U o U' L kc ks)
theorem Goes.via {S S' : State} (f : ∀ t, Steps p.tables e below S' t → Steps p.tables e below S t) (g : Goes p e below FE n0 Q S') : Goes p e below FE n0 Q S := by
  obtain ⟨s₂, o, k, r⟩ := g
  exact ⟨s₂, o, f _ k, r⟩
theorem Goes.ret {S : State} {v : Option Value} (X : Stand p l e R s m args below meth c T locs cells slots) (N : Fr n0 locs) (hlk : meth.locks = false) (hv : meth.sig.returnType = none → v = none) (hc : cells ≤ kc) (hs : slots ≤ ks) (hq : Q v T.heap)
    (f : ∀ fs, (∀ (f : JFrame) (acts : List Action), f.method = m → f.locked = none → f.entered = [] → (doReturn e (T.setTop f) acts v).1 = T.setFrames fs) → Steps p.tables e below S (T.setFrames fs)) : Goes p e below (fun o t L => FrameEnd s o t L kc ks) n0 Q S := by
  obtain ⟨fs, hr, hrun, hended, hW, hsame⟩ := X.leave hv hlk
  exact ⟨_, _, f fs hr, hrun, hended, _, _, rfl, ⟨N, hq⟩, ⟨_, rfl⟩, hW, hsame.mono hc hs⟩
theorem own_sz (O : Old Z n0 h) : n0 ≤ h.size := O.1 ▸ O.2.1
theorem Meets.of {y : MethodName} {bytes : ByteArray} {maxL : Nat} {ret : Option FieldType} {ws : List Jvm.Cond} {rm : Room} {as' : Array Value} (hx : plainFor y = true) {F : MethodId → JFrame} (hF : ∀ m, entryFrame m as' maxL = F m)
    (body : ∀ p e s m below meth c T, p.tables.exec = Jvm.exec → c.code = bytes → c.maxLocals = maxL → s.vm.findClass y.cls = some m.cls → meth.name = y.name → meth.sig.returnType = ret → meth.locks = false → Z.Warmed39 s.vm →
      Stand p l e rm s m as' below meth c T [] 0 0 → T.heap = h → Goes p e below (fun o t L => FrameEnd s o t L kc ks) n0 Q (T.setTop (F m))) :
    Meets l y bytes maxL ret ws rm kc ks Z as' h n0 Q := by
  refine MetFree.of_bodySF hx hisR ?_
  intro p e s m args below meth c s₁ Bd hml hP hK
  obtain ⟨rfl, hZ, hh⟩ := hP
  have X0 : Stand p l e rm s m args below meth c s₁ [] 0 0 := Stand.of_body Bd
  have e0 : s₁.heap = h := by rw [← hh, Bd.state]; rfl
  obtain ⟨s₂, o, k, r⟩ := body p e s m below meth c s₁ Bd.exec Bd.bytes hml (findClass_of_methodNamed Bd.named) (name_of_methodNamed Bd.named Bd.method).1 Bd.returns Bd.notSynchronized hZ X0 e0
  exact ⟨s₂, o, castTop (hF m) k, r⟩
theorem own_iloadN (X : Stand p l e R s m args below meth c T locs cells slots) (hx : p.tables.exec = Jvm.exec) {k : Fin 4} {v : Int32} (hd : decode c.code pc = .ok (.iload_n k, 1)) (hl : Ls[k.val]? = some (.val (.int v)))
    (g : Goes p e below FE n0 Q (T.setTop (mkF m (pc + 1) Ls (.int v :: st)))) : Goes p e below FE n0 Q (T.setTop (mkF m pc Ls st)) :=
  Goes.via (fun _ k => XS.iloadN X.here hx rfl hd hl k) g
theorem own_iload (X : Stand p l e R s m args below meth c T locs cells slots) (hx : p.tables.exec = Jvm.exec) {k : Nat} {v : Int32} (hd : decode c.code pc = .ok (.iload k, 2)) (hl : Ls[k]? = some (.val (.int v)))
    (g : Goes p e below FE n0 Q (T.setTop (mkF m (pc + 2) Ls (.int v :: st)))) : Goes p e below FE n0 Q (T.setTop (mkF m pc Ls st)) :=
  Goes.via (fun _ k => XS.iload X.here hx rfl hd hl k) g
theorem own_istoreN (X : Stand p l e R s m args below meth c T locs cells slots) (hx : p.tables.exec = Jvm.exec) {k : Fin 4} {x : Int32} (hd : decode c.code pc = .ok (.istore_n k, 1)) (hl : storeLocals Ls k.val (.int x) = some Ls')
    (g : Goes p e below FE n0 Q (T.setTop (mkF m (pc + 1) Ls' st))) : Goes p e below FE n0 Q (T.setTop (mkF m pc Ls (.int x :: st))) :=
  Goes.via (fun _ k => XS.istoreN X.here hx rfl hd rfl hl k) g
theorem own_istore (X : Stand p l e R s m args below meth c T locs cells slots) (hx : p.tables.exec = Jvm.exec) {k : Nat} {x : Int32} (hd : decode c.code pc = .ok (.istore k, 2)) (hl : storeLocals Ls k (.int x) = some Ls')
    (g : Goes p e below FE n0 Q (T.setTop (mkF m (pc + 2) Ls' st))) : Goes p e below FE n0 Q (T.setTop (mkF m pc Ls (.int x :: st))) :=
  Goes.via (fun _ k => XS.istore X.here hx rfl hd rfl hl k) g
theorem own_lloadN (X : Stand p l e R s m args below meth c T locs cells slots) (hx : p.tables.exec = Jvm.exec) {k : Fin 4} {v : Int64} (hd : decode c.code pc = .ok (.lload_n k, 1)) (hl : Ls[k.val]? = some (.val (.long v)))
    (g : Goes p e below FE n0 Q (T.setTop (mkF m (pc + 1) Ls (.long v :: st)))) : Goes p e below FE n0 Q (T.setTop (mkF m pc Ls st)) :=
  Goes.via (fun _ k => XS.lloadN X.here hx rfl hd hl k) g
theorem own_lload (X : Stand p l e R s m args below meth c T locs cells slots) (hx : p.tables.exec = Jvm.exec) {k : Nat} {v : Int64} (hd : decode c.code pc = .ok (.lload k, 2)) (hl : Ls[k]? = some (.val (.long v)))
    (g : Goes p e below FE n0 Q (T.setTop (mkF m (pc + 2) Ls (.long v :: st)))) : Goes p e below FE n0 Q (T.setTop (mkF m pc Ls st)) :=
  Goes.via (fun _ k => XS.lload X.here hx rfl hd hl k) g
theorem own_lstoreN (X : Stand p l e R s m args below meth c T locs cells slots) (hx : p.tables.exec = Jvm.exec) {k : Fin 4} {x : Int64} (hd : decode c.code pc = .ok (.lstore_n k, 1)) (hl : storeLocals Ls k.val (.long x) = some Ls')
    (g : Goes p e below FE n0 Q (T.setTop (mkF m (pc + 1) Ls' st))) : Goes p e below FE n0 Q (T.setTop (mkF m pc Ls (.long x :: st))) :=
  Goes.via (fun _ k => XS.lstoreN X.here hx rfl hd rfl hl k) g
theorem own_lstore (X : Stand p l e R s m args below meth c T locs cells slots) (hx : p.tables.exec = Jvm.exec) {k : Nat} {x : Int64} (hd : decode c.code pc = .ok (.lstore k, 2)) (hl : storeLocals Ls k (.long x) = some Ls')
    (g : Goes p e below FE n0 Q (T.setTop (mkF m (pc + 2) Ls' st))) : Goes p e below FE n0 Q (T.setTop (mkF m pc Ls (.long x :: st))) :=
  Goes.via (fun _ k => XS.lstore X.here hx rfl hd rfl hl k) g
theorem own_aloadN (X : Stand p l e R s m args below meth c T locs cells slots) (hx : p.tables.exec = Jvm.exec) {k : Fin 4} {v : Value} (hd : decode c.code pc = .ok (.aload_n k, 1)) (hl : Ls[k.val]? = some (.val v)) (hv : v.isRef = true)
    (g : Goes p e below FE n0 Q (T.setTop (mkF m (pc + 1) Ls (v :: st)))) : Goes p e below FE n0 Q (T.setTop (mkF m pc Ls st)) :=
  Goes.via (fun _ k => XS.aloadN X.here hx rfl hd hl hv k) g
theorem own_aload (X : Stand p l e R s m args below meth c T locs cells slots) (hx : p.tables.exec = Jvm.exec) {k : Nat} {v : Value} (hd : decode c.code pc = .ok (.aload k, 2)) (hl : Ls[k]? = some (.val v)) (hv : v.isRef = true)
    (g : Goes p e below FE n0 Q (T.setTop (mkF m (pc + 2) Ls (v :: st)))) : Goes p e below FE n0 Q (T.setTop (mkF m pc Ls st)) :=
  Goes.via (fun _ k => XS.aload X.here hx rfl hd hl hv k) g
theorem own_astoreN (X : Stand p l e R s m args below meth c T locs cells slots) (hx : p.tables.exec = Jvm.exec) {k : Fin 4} {x : Value} (hd : decode c.code pc = .ok (.astore_n k, 1)) (hv : x.isRef = true) (hl : storeLocals Ls k.val x = some Ls')
    (g : Goes p e below FE n0 Q (T.setTop (mkF m (pc + 1) Ls' st))) : Goes p e below FE n0 Q (T.setTop (mkF m pc Ls (x :: st))) :=
  Goes.via (fun _ k => XS.astoreN X.here hx rfl hd rfl hv hl k) g
theorem own_astore (X : Stand p l e R s m args below meth c T locs cells slots) (hx : p.tables.exec = Jvm.exec) {k : Nat} {x : Value} (hd : decode c.code pc = .ok (.astore k, 2)) (hv : x.isRef = true) (hl : storeLocals Ls k x = some Ls')
    (g : Goes p e below FE n0 Q (T.setTop (mkF m (pc + 2) Ls' st))) : Goes p e below FE n0 Q (T.setTop (mkF m pc Ls (x :: st))) :=
  Goes.via (fun _ k => XS.astore X.here hx rfl hd rfl hv hl k) g
theorem own_iconst (X : Stand p l e R s m args below meth c T locs cells slots) (hx : p.tables.exec = Jvm.exec) {i : Int} {v : Int32} (hd : decode c.code pc = .ok (.iconst i, 1)) (hv : Int32.ofInt i = v)
    (g : Goes p e below FE n0 Q (T.setTop (mkF m (pc + 1) Ls (.int v :: st)))) : Goes p e below FE n0 Q (T.setTop (mkF m pc Ls st)) := by
  subst hv
  exact Goes.via (fun _ k => XS.iconst X.here hx rfl hd k) g
theorem own_bipush (X : Stand p l e R s m args below meth c T locs cells slots) (hx : p.tables.exec = Jvm.exec) {i : Int} {v : Int32} (hd : decode c.code pc = .ok (.bipush i, 2)) (hv : (Int8.ofInt i).toInt32 = v)
    (g : Goes p e below FE n0 Q (T.setTop (mkF m (pc + 2) Ls (.int v :: st)))) : Goes p e below FE n0 Q (T.setTop (mkF m pc Ls st)) := by
  subst hv
  exact Goes.via (fun _ k => XS.bipush X.here hx rfl hd k) g
theorem own_sipush (X : Stand p l e R s m args below meth c T locs cells slots) (hx : p.tables.exec = Jvm.exec) {i : Int} {v : Int32} (hd : decode c.code pc = .ok (.sipush i, 3)) (hv : (Int16.ofInt i).toInt32 = v)
    (g : Goes p e below FE n0 Q (T.setTop (mkF m (pc + 3) Ls (.int v :: st)))) : Goes p e below FE n0 Q (T.setTop (mkF m pc Ls st)) := by
  subst hv
  exact Goes.via (fun _ k => XS.sipush X.here hx rfl hd k) g
theorem own_lconst (X : Stand p l e R s m args below meth c T locs cells slots) (hx : p.tables.exec = Jvm.exec) {i : Fin 2} {v : Int64} (hd : decode c.code pc = .ok (.lconst i, 1)) (hv : Int64.ofNat i = v)
    (g : Goes p e below FE n0 Q (T.setTop (mkF m (pc + 1) Ls (.long v :: st)))) : Goes p e below FE n0 Q (T.setTop (mkF m pc Ls st)) := by
  subst hv
  exact Goes.via (fun _ k => XS.lconst X.here hx rfl hd k) g
theorem own_aconst_null (X : Stand p l e R s m args below meth c T locs cells slots) (hx : p.tables.exec = Jvm.exec)  (hd : decode c.code pc = .ok (.aconst_null, 1))
    (g : Goes p e below FE n0 Q (T.setTop (mkF m (pc + 1) Ls (.null :: st)))) : Goes p e below FE n0 Q (T.setTop (mkF m pc Ls st)) :=
  Goes.via (fun _ k => XS.aconstNull X.here hx rfl hd k) g
theorem own_iadd (X : Stand p l e R s m args below meth c T locs cells slots) (hx : p.tables.exec = Jvm.exec) {x y : Int32} (hd : decode c.code pc = .ok (.iadd, 1))
    (g : Goes p e below FE n0 Q (T.setTop (mkF m (pc + 1) Ls (.int (x + y) :: st)))) : Goes p e below FE n0 Q (T.setTop (mkF m pc Ls (.int y :: .int x :: st))) :=
  Goes.via (fun _ k => XS.iadd X.here hx rfl hd rfl k) g
theorem own_isub (X : Stand p l e R s m args below meth c T locs cells slots) (hx : p.tables.exec = Jvm.exec) {x y : Int32} (hd : decode c.code pc = .ok (.isub, 1))
    (g : Goes p e below FE n0 Q (T.setTop (mkF m (pc + 1) Ls (.int (x - y) :: st)))) : Goes p e below FE n0 Q (T.setTop (mkF m pc Ls (.int y :: .int x :: st))) :=
  Goes.via (fun _ k => XS.isub X.here hx rfl hd rfl k) g
theorem own_imul (X : Stand p l e R s m args below meth c T locs cells slots) (hx : p.tables.exec = Jvm.exec) {x y : Int32} (hd : decode c.code pc = .ok (.imul, 1))
    (g : Goes p e below FE n0 Q (T.setTop (mkF m (pc + 1) Ls (.int (x * y) :: st)))) : Goes p e below FE n0 Q (T.setTop (mkF m pc Ls (.int y :: .int x :: st))) :=
  Goes.via (fun _ k => XS.imul X.here hx rfl hd rfl k) g
theorem own_iand (X : Stand p l e R s m args below meth c T locs cells slots) (hx : p.tables.exec = Jvm.exec) {x y : Int32} (hd : decode c.code pc = .ok (.iand, 1))
    (g : Goes p e below FE n0 Q (T.setTop (mkF m (pc + 1) Ls (.int (x &&& y) :: st)))) : Goes p e below FE n0 Q (T.setTop (mkF m pc Ls (.int y :: .int x :: st))) :=
  Goes.via (fun _ k => XS.iand X.here hx rfl hd rfl k) g
theorem own_ior (X : Stand p l e R s m args below meth c T locs cells slots) (hx : p.tables.exec = Jvm.exec) {x y : Int32} (hd : decode c.code pc = .ok (.ior, 1))
    (g : Goes p e below FE n0 Q (T.setTop (mkF m (pc + 1) Ls (.int (x ||| y) :: st)))) : Goes p e below FE n0 Q (T.setTop (mkF m pc Ls (.int y :: .int x :: st))) :=
  Goes.via (fun _ k => XS.ior X.here hx rfl hd rfl k) g
theorem own_ixor (X : Stand p l e R s m args below meth c T locs cells slots) (hx : p.tables.exec = Jvm.exec) {x y : Int32} (hd : decode c.code pc = .ok (.ixor, 1))
    (g : Goes p e below FE n0 Q (T.setTop (mkF m (pc + 1) Ls (.int (x ^^^ y) :: st)))) : Goes p e below FE n0 Q (T.setTop (mkF m pc Ls (.int y :: .int x :: st))) :=
  Goes.via (fun _ k => XS.ixor X.here hx rfl hd rfl k) g
theorem own_idiv (X : Stand p l e R s m args below meth c T locs cells slots) (hx : p.tables.exec = Jvm.exec) {x y : Int32} (hd : decode c.code pc = .ok (.idiv, 1)) (hy : y ≠ 0)
    (g : Goes p e below FE n0 Q (T.setTop (mkF m (pc + 1) Ls (.int (x / y) :: st)))) : Goes p e below FE n0 Q (T.setTop (mkF m pc Ls (.int y :: .int x :: st))) :=
  Goes.via (fun _ k => XS.idiv X.here hx rfl hd rfl hy k) g
theorem own_ineg (X : Stand p l e R s m args below meth c T locs cells slots) (hx : p.tables.exec = Jvm.exec) {x : Int32} (hd : decode c.code pc = .ok (.ineg, 1))
    (g : Goes p e below FE n0 Q (T.setTop (mkF m (pc + 1) Ls (.int (-x) :: st)))) : Goes p e below FE n0 Q (T.setTop (mkF m pc Ls (.int x :: st))) :=
  Goes.via (fun _ k => XS.ineg X.here hx rfl hd rfl k) g
theorem own_ladd (X : Stand p l e R s m args below meth c T locs cells slots) (hx : p.tables.exec = Jvm.exec) {x y : Int64} (hd : decode c.code pc = .ok (.ladd, 1))
    (g : Goes p e below FE n0 Q (T.setTop (mkF m (pc + 1) Ls (.long (x + y) :: st)))) : Goes p e below FE n0 Q (T.setTop (mkF m pc Ls (.long y :: .long x :: st))) :=
  Goes.via (fun _ k => XS.ladd X.here hx rfl hd rfl k) g
theorem own_lsub (X : Stand p l e R s m args below meth c T locs cells slots) (hx : p.tables.exec = Jvm.exec) {x y : Int64} (hd : decode c.code pc = .ok (.lsub, 1))
    (g : Goes p e below FE n0 Q (T.setTop (mkF m (pc + 1) Ls (.long (x - y) :: st)))) : Goes p e below FE n0 Q (T.setTop (mkF m pc Ls (.long y :: .long x :: st))) :=
  Goes.via (fun _ k => XS.lsub X.here hx rfl hd rfl k) g
theorem own_lmul (X : Stand p l e R s m args below meth c T locs cells slots) (hx : p.tables.exec = Jvm.exec) {x y : Int64} (hd : decode c.code pc = .ok (.lmul, 1))
    (g : Goes p e below FE n0 Q (T.setTop (mkF m (pc + 1) Ls (.long (x * y) :: st)))) : Goes p e below FE n0 Q (T.setTop (mkF m pc Ls (.long y :: .long x :: st))) :=
  Goes.via (fun _ k => XS.lmul X.here hx rfl hd rfl k) g
theorem own_land (X : Stand p l e R s m args below meth c T locs cells slots) (hx : p.tables.exec = Jvm.exec) {x y : Int64} (hd : decode c.code pc = .ok (.land, 1))
    (g : Goes p e below FE n0 Q (T.setTop (mkF m (pc + 1) Ls (.long (x &&& y) :: st)))) : Goes p e below FE n0 Q (T.setTop (mkF m pc Ls (.long y :: .long x :: st))) :=
  Goes.via (fun _ k => XS.land X.here hx rfl hd rfl k) g
theorem own_lor (X : Stand p l e R s m args below meth c T locs cells slots) (hx : p.tables.exec = Jvm.exec) {x y : Int64} (hd : decode c.code pc = .ok (.lor, 1))
    (g : Goes p e below FE n0 Q (T.setTop (mkF m (pc + 1) Ls (.long (x ||| y) :: st)))) : Goes p e below FE n0 Q (T.setTop (mkF m pc Ls (.long y :: .long x :: st))) :=
  Goes.via (fun _ k => XS.lor X.here hx rfl hd rfl k) g
theorem own_lxor (X : Stand p l e R s m args below meth c T locs cells slots) (hx : p.tables.exec = Jvm.exec) {x y : Int64} (hd : decode c.code pc = .ok (.lxor, 1))
    (g : Goes p e below FE n0 Q (T.setTop (mkF m (pc + 1) Ls (.long (x ^^^ y) :: st)))) : Goes p e below FE n0 Q (T.setTop (mkF m pc Ls (.long y :: .long x :: st))) :=
  Goes.via (fun _ k => XS.lxor X.here hx rfl hd rfl k) g
theorem own_ldiv (X : Stand p l e R s m args below meth c T locs cells slots) (hx : p.tables.exec = Jvm.exec) {x y : Int64} (hd : decode c.code pc = .ok (.ldiv, 1)) (hy : y ≠ 0)
    (g : Goes p e below FE n0 Q (T.setTop (mkF m (pc + 1) Ls (.long (x / y) :: st)))) : Goes p e below FE n0 Q (T.setTop (mkF m pc Ls (.long y :: .long x :: st))) :=
  Goes.via (fun _ k => XS.ldiv X.here hx rfl hd rfl hy k) g
theorem own_lneg (X : Stand p l e R s m args below meth c T locs cells slots) (hx : p.tables.exec = Jvm.exec) {x : Int64} (hd : decode c.code pc = .ok (.lneg, 1))
    (g : Goes p e below FE n0 Q (T.setTop (mkF m (pc + 1) Ls (.long (-x) :: st)))) : Goes p e below FE n0 Q (T.setTop (mkF m pc Ls (.long x :: st))) :=
  Goes.via (fun _ k => XS.lneg X.here hx rfl hd rfl k) g
theorem own_irem (X : Stand p l e R s m args below meth c T locs cells slots) (hx : p.tables.exec = Jvm.exec) {x y : Int32} (hd : decode c.code pc = .ok (.irem, 1)) (hy : y ≠ 0)
    (g : Goes p e below FE n0 Q (T.setTop (mkF m (pc + 1) Ls (.int (x % y) :: st)))) : Goes p e below FE n0 Q (T.setTop (mkF m pc Ls (.int y :: .int x :: st))) :=
  Goes.via (fun _ k => iremM (g := mkF m pc Ls (.int y :: .int x :: st)) X hx rfl hd rfl hy k) g
theorem own_lrem (X : Stand p l e R s m args below meth c T locs cells slots) (hx : p.tables.exec = Jvm.exec) {x y : Int64} (hd : decode c.code pc = .ok (.lrem, 1)) (hy : y ≠ 0)
    (g : Goes p e below FE n0 Q (T.setTop (mkF m (pc + 1) Ls (.long (x % y) :: st)))) : Goes p e below FE n0 Q (T.setTop (mkF m pc Ls (.long y :: .long x :: st))) := by
  rw [← lrem_mod] at g
  exact Goes.via (fun _ k => XS.lrem X.here hx rfl hd rfl hy k) g
theorem own_ishl (X : Stand p l e R s m args below meth c T locs cells slots) (hx : p.tables.exec = Jvm.exec) {x y : Int32} (hd : decode c.code pc = .ok (.ishl, 1))
    (g : Goes p e below FE n0 Q (T.setTop (mkF m (pc + 1) Ls (.int (x <<< (y &&& 31)) :: st)))) : Goes p e below FE n0 Q (T.setTop (mkF m pc Ls (.int y :: .int x :: st))) :=
  Goes.via (fun _ k => XS.ishl X.here hx rfl hd rfl k) g
theorem own_ishr (X : Stand p l e R s m args below meth c T locs cells slots) (hx : p.tables.exec = Jvm.exec) {x y : Int32} (hd : decode c.code pc = .ok (.ishr, 1))
    (g : Goes p e below FE n0 Q (T.setTop (mkF m (pc + 1) Ls (.int (x >>> (y &&& 31)) :: st)))) : Goes p e below FE n0 Q (T.setTop (mkF m pc Ls (.int y :: .int x :: st))) :=
  Goes.via (fun _ k => XS.ishr X.here hx rfl hd rfl k) g
theorem own_iushr (X : Stand p l e R s m args below meth c T locs cells slots) (hx : p.tables.exec = Jvm.exec) {x y : Int32} (hd : decode c.code pc = .ok (.iushr, 1))
    (g : Goes p e below FE n0 Q (T.setTop (mkF m (pc + 1) Ls (.int ((x.toUInt32 >>> (y &&& 31).toUInt32).toInt32) :: st)))) : Goes p e below FE n0 Q (T.setTop (mkF m pc Ls (.int y :: .int x :: st))) :=
  Goes.via (fun _ k => XS.iushr X.here hx rfl hd rfl k) g
theorem own_lshl (X : Stand p l e R s m args below meth c T locs cells slots) (hx : p.tables.exec = Jvm.exec) {x : Int64} {y : Int32} (hd : decode c.code pc = .ok (.lshl, 1))
    (g : Goes p e below FE n0 Q (T.setTop (mkF m (pc + 1) Ls (.long (x <<< (y &&& 0x3f).toInt64) :: st)))) : Goes p e below FE n0 Q (T.setTop (mkF m pc Ls (.int y :: .long x :: st))) :=
  Goes.via (fun _ k => by jvm_step X.here [X.here.top, hx, hd]; first | exact k | simpa [mkF] using k) g
theorem own_lshr (X : Stand p l e R s m args below meth c T locs cells slots) (hx : p.tables.exec = Jvm.exec) {x : Int64} {y : Int32} (hd : decode c.code pc = .ok (.lshr, 1))
    (g : Goes p e below FE n0 Q (T.setTop (mkF m (pc + 1) Ls (.long (x >>> (y &&& 0x3f).toInt64) :: st)))) : Goes p e below FE n0 Q (T.setTop (mkF m pc Ls (.int y :: .long x :: st))) :=
  Goes.via (fun _ k => by jvm_step X.here [X.here.top, hx, hd]; first | exact k | simpa [mkF] using k) g
theorem own_lushr (X : Stand p l e R s m args below meth c T locs cells slots) (hx : p.tables.exec = Jvm.exec) {x : Int64} {y : Int32} (hd : decode c.code pc = .ok (.lushr, 1))
    (g : Goes p e below FE n0 Q (T.setTop (mkF m (pc + 1) Ls (.long ((x.toUInt64 >>> (y &&& 0x3f).toInt64.toUInt64).toInt64) :: st)))) : Goes p e below FE n0 Q (T.setTop (mkF m pc Ls (.int y :: .long x :: st))) :=
  Goes.via (fun _ k => by jvm_step X.here [X.here.top, hx, hd]; first | exact k | simpa [mkF] using k) g
theorem own_i2l (X : Stand p l e R s m args below meth c T locs cells slots) (hx : p.tables.exec = Jvm.exec) {x : Int32} (hd : decode c.code pc = .ok (.i2l, 1))
    (g : Goes p e below FE n0 Q (T.setTop (mkF m (pc + 1) Ls (.long (x.toInt64) :: st)))) : Goes p e below FE n0 Q (T.setTop (mkF m pc Ls (.int x :: st))) :=
  Goes.via (fun _ k => XS.i2l X.here hx rfl hd rfl k) g
theorem own_l2i (X : Stand p l e R s m args below meth c T locs cells slots) (hx : p.tables.exec = Jvm.exec) {x : Int64} (hd : decode c.code pc = .ok (.l2i, 1))
    (g : Goes p e below FE n0 Q (T.setTop (mkF m (pc + 1) Ls (.int (x.toInt32) :: st)))) : Goes p e below FE n0 Q (T.setTop (mkF m pc Ls (.long x :: st))) :=
  Goes.via (fun _ k => XS.l2i X.here hx rfl hd rfl k) g
theorem own_i2b (X : Stand p l e R s m args below meth c T locs cells slots) (hx : p.tables.exec = Jvm.exec) {x : Int32} (hd : decode c.code pc = .ok (.i2b, 1))
    (g : Goes p e below FE n0 Q (T.setTop (mkF m (pc + 1) Ls (.int (x.toInt8.toInt32) :: st)))) : Goes p e below FE n0 Q (T.setTop (mkF m pc Ls (.int x :: st))) :=
  Goes.via (fun _ k => XS.i2b X.here hx rfl hd rfl k) g
theorem own_i2s (X : Stand p l e R s m args below meth c T locs cells slots) (hx : p.tables.exec = Jvm.exec) {x : Int32} (hd : decode c.code pc = .ok (.i2s, 1))
    (g : Goes p e below FE n0 Q (T.setTop (mkF m (pc + 1) Ls (.int (x.toInt16.toInt32) :: st)))) : Goes p e below FE n0 Q (T.setTop (mkF m pc Ls (.int x :: st))) :=
  Goes.via (fun _ k => XS.i2s X.here hx rfl hd rfl k) g
theorem own_i2c (X : Stand p l e R s m args below meth c T locs cells slots) (hx : p.tables.exec = Jvm.exec) {x : Int32} (hd : decode c.code pc = .ok (.i2c, 1))
    (g : Goes p e below FE n0 Q (T.setTop (mkF m (pc + 1) Ls (.int (x.toUInt32.toUInt16.toUInt32.toInt32) :: st)))) : Goes p e below FE n0 Q (T.setTop (mkF m pc Ls (.int x :: st))) :=
  Goes.via (fun _ k => XS.i2c X.here hx rfl hd rfl k) g
theorem own_lcmp (X : Stand p l e R s m args below meth c T locs cells slots) (hx : p.tables.exec = Jvm.exec) {x y : Int64} (hd : decode c.code pc = .ok (.lcmp, 1))
    (g : Goes p e below FE n0 Q (T.setTop (mkF m (pc + 1) Ls (.int (lcmpW x y) :: st)))) : Goes p e below FE n0 Q (T.setTop (mkF m pc Ls (.long y :: .long x :: st))) :=
  Goes.via (fun _ k => XS.lcmp X.here hx rfl hd rfl k) g
theorem own_dup (X : Stand p l e R s m args below meth c T locs cells slots) (hx : p.tables.exec = Jvm.exec) {x : Value} (hd : decode c.code pc = .ok (.dup, 1)) (hc : x.category = 1)
    (g : Goes p e below FE n0 Q (T.setTop (mkF m (pc + 1) Ls (x :: x :: st)))) : Goes p e below FE n0 Q (T.setTop (mkF m pc Ls (x :: st))) :=
  Goes.via (fun _ k => XS.dup X.here hx rfl hd rfl hc k) g
theorem own_pop (X : Stand p l e R s m args below meth c T locs cells slots) (hx : p.tables.exec = Jvm.exec) {x : Value} (hd : decode c.code pc = .ok (.pop, 1)) (hc : x.category = 1)
    (g : Goes p e below FE n0 Q (T.setTop (mkF m (pc + 1) Ls st))) : Goes p e below FE n0 Q (T.setTop (mkF m pc Ls (x :: st))) :=
  Goes.via (fun _ k => XS.pop X.here hx rfl hd rfl hc k) g
theorem own_dup_x1 (X : Stand p l e R s m args below meth c T locs cells slots) (hx : p.tables.exec = Jvm.exec) {x y : Value} (hd : decode c.code pc = .ok (.dup_x1, 1)) (hc : x.category = 1) (hc' : y.category = 1)
    (g : Goes p e below FE n0 Q (T.setTop (mkF m (pc + 1) Ls (x :: y :: x :: st)))) : Goes p e below FE n0 Q (T.setTop (mkF m pc Ls (x :: y :: st))) :=
  Goes.via (fun _ k => XS.dupX1 X.here hx rfl hd rfl hc hc' k) g
theorem own_dup2 (X : Stand p l e R s m args below meth c T locs cells slots) (hx : p.tables.exec = Jvm.exec) {x y : Value} (hd : decode c.code pc = .ok (.dup2, 1)) (hc : x.category = 1) (hc' : y.category = 1)
    (g : Goes p e below FE n0 Q (T.setTop (mkF m (pc + 1) Ls (x :: y :: x :: y :: st)))) : Goes p e below FE n0 Q (T.setTop (mkF m pc Ls (x :: y :: st))) :=
  Goes.via (fun _ k => Jvm.Free.XT.dup2 X.here hx rfl hd rfl hc hc' k) g
theorem own_iinc (X : Stand p l e R s m args below meth c T locs cells slots) (hx : p.tables.exec = Jvm.exec) {k : Nat} {cst : Int} {x : Int32} (hd : decode c.code pc = .ok (.iinc k cst, 3)) (hl : Ls[k]? = some (.val (.int x))) (hl' : storeLocals Ls k (.int (x + Int32.ofInt cst)) = some Ls')
    (g : Goes p e below FE n0 Q (T.setTop (mkF m (pc + 3) Ls' st))) : Goes p e below FE n0 Q (T.setTop (mkF m pc Ls st)) :=
  Goes.via (fun _ k => XS.iinc X.here hx rfl hd hl hl' k) g
theorem own_goto (X : Stand p l e R s m args below meth c T locs cells slots) (hx : p.tables.exec = Jvm.exec) {o : Int} (hd : decode c.code pc = .ok (.goto o, 3)) (ho : 0 ≤ (pc : Int) + o) (hp : ((pc : Int) + o).toNat = pc')
    (g : Goes p e below FE n0 Q (T.setTop (mkF m pc' Ls st))) : Goes p e below FE n0 Q (T.setTop (mkF m pc Ls st)) :=
  Goes.via (fun _ k => XS.goto X.here hx rfl rfl hd ho hp k) g
theorem own_ifYes (X : Stand p l e R s m args below meth c T locs cells slots) (hx : p.tables.exec = Jvm.exec) {cd : ClassFile.Cond} {o : Int} {x : Int32} (hd : decode c.code pc = .ok (.ifCond cd o, 3)) (hc : ifCond.holds cd x = true) (ho : 0 ≤ (pc : Int) + o) (hp : ((pc : Int) + o).toNat = pc')
    (g : Goes p e below FE n0 Q (T.setTop (mkF m pc' Ls st))) : Goes p e below FE n0 Q (T.setTop (mkF m pc Ls (.int x :: st))) :=
  Goes.via (fun _ k => XS.ifYes X.here hx rfl rfl hd rfl hc ho hp k) g
theorem own_ifNo (X : Stand p l e R s m args below meth c T locs cells slots) (hx : p.tables.exec = Jvm.exec) {cd : ClassFile.Cond} {o : Int} {x : Int32} (hd : decode c.code pc = .ok (.ifCond cd o, 3)) (hc : ifCond.holds cd x = false)
    (g : Goes p e below FE n0 Q (T.setTop (mkF m (pc + 3) Ls st))) : Goes p e below FE n0 Q (T.setTop (mkF m pc Ls (.int x :: st))) :=
  Goes.via (fun _ k => XS.ifNo X.here hx rfl hd rfl hc k) g
theorem own_icmpYes (X : Stand p l e R s m args below meth c T locs cells slots) (hx : p.tables.exec = Jvm.exec) {cd : ClassFile.Cond} {o : Int} {x y : Int32} (hd : decode c.code pc = .ok (.if_icmp cd o, 3)) (hc : if_icmp.holds cd x y = true) (ho : 0 ≤ (pc : Int) + o) (hp : ((pc : Int) + o).toNat = pc')
    (g : Goes p e below FE n0 Q (T.setTop (mkF m pc' Ls st))) : Goes p e below FE n0 Q (T.setTop (mkF m pc Ls (.int y :: .int x :: st))) :=
  Goes.via (fun _ k => XS.icmpYes X.here hx rfl rfl hd rfl hc ho hp k) g
theorem own_icmpNo (X : Stand p l e R s m args below meth c T locs cells slots) (hx : p.tables.exec = Jvm.exec) {cd : ClassFile.Cond} {o : Int} {x y : Int32} (hd : decode c.code pc = .ok (.if_icmp cd o, 3)) (hc : if_icmp.holds cd x y = false)
    (g : Goes p e below FE n0 Q (T.setTop (mkF m (pc + 3) Ls st))) : Goes p e below FE n0 Q (T.setTop (mkF m pc Ls (.int y :: .int x :: st))) :=
  Goes.via (fun _ k => XS.icmpNo X.here hx rfl hd rfl hc k) g
theorem own_ifnullYes (X : Stand p l e R s m args below meth c T locs cells slots) (hx : p.tables.exec = Jvm.exec) {o : Int} (hd : decode c.code pc = .ok (.ifnull o, 3)) (ho : 0 ≤ (pc : Int) + o) (hp : ((pc : Int) + o).toNat = pc')
    (g : Goes p e below FE n0 Q (T.setTop (mkF m pc' Ls st))) : Goes p e below FE n0 Q (T.setTop (mkF m pc Ls (.null :: st))) :=
  Goes.via (fun _ k => XS.ifnullYes X.here hx rfl rfl hd rfl ho hp k) g
theorem own_ifnullNo (X : Stand p l e R s m args below meth c T locs cells slots) (hx : p.tables.exec = Jvm.exec) {o : Int} {b : Addr} (hd : decode c.code pc = .ok (.ifnull o, 3))
    (g : Goes p e below FE n0 Q (T.setTop (mkF m (pc + 3) Ls st))) : Goes p e below FE n0 Q (T.setTop (mkF m pc Ls (.ref b :: st))) :=
  Goes.via (fun _ k => XS.ifnullNo X.here hx rfl hd rfl k) g
theorem own_ifnonnullYes (X : Stand p l e R s m args below meth c T locs cells slots) (hx : p.tables.exec = Jvm.exec) {o : Int} {b : Addr} (hd : decode c.code pc = .ok (.ifnonnull o, 3)) (ho : 0 ≤ (pc : Int) + o) (hp : ((pc : Int) + o).toNat = pc')
    (g : Goes p e below FE n0 Q (T.setTop (mkF m pc' Ls st))) : Goes p e below FE n0 Q (T.setTop (mkF m pc Ls (.ref b :: st))) :=
  Goes.via (fun _ k => XS.ifnonnullYes X.here hx rfl rfl hd rfl ho hp k) g
theorem own_ifnonnullNo (X : Stand p l e R s m args below meth c T locs cells slots) (hx : p.tables.exec = Jvm.exec) {o : Int} (hd : decode c.code pc = .ok (.ifnonnull o, 3))
    (g : Goes p e below FE n0 Q (T.setTop (mkF m (pc + 3) Ls st))) : Goes p e below FE n0 Q (T.setTop (mkF m pc Ls (.null :: st))) :=
  Goes.via (fun _ k => XS.ifnonnullNo X.here hx rfl hd rfl k) g
theorem own_acmp (X : Stand p l e R s m args below meth c T locs cells slots) (hx : p.tables.exec = Jvm.exec) {cd : ACond} {x y : Value} {o : Int} {same : Bool} (h1 : x.isRef = true) (h2 : y.isRef = true) (hd : decode c.code pc = .ok (.if_acmp cd o, 3)) (hq : decide (x = y) = same) (ho : 0 ≤ (pc : Int) + o) (hp : pc' = if acV cd same = true then ((pc : Int) + o).toNat else pc + 3)
    (g : Goes p e below FE n0 Q (T.setTop (mkF m pc' Ls st))) : Goes p e below FE n0 Q (T.setTop (mkF m pc Ls (y :: x :: st))) :=
  Goes.via (fun _ k => Jvm.RoadKit.acmp (g := mkF m pc Ls (y :: x :: st)) X hx rfl h1 h2 rfl hd rfl hq ho hp k) g
theorem own_tswIn (X : Stand p l e R s m args below meth c T locs cells slots) (hx : p.tables.exec = Jvm.exec) {dflt low high : Int} {offs : Array Int} {len : Nat} {o : Int} {i : Int32} (hd : decode c.code pc = .ok (.tableswitch dflt low high offs, len)) (hin : ¬ (i.toInt < low ∨ i.toInt > high)) (hoff : offs[(i.toInt - low).toNat]? = some o) (ho : 0 ≤ (pc : Int) + o) (hp : ((pc : Int) + o).toNat = pc')
    (g : Goes p e below FE n0 Q (T.setTop (mkF m pc' Ls st))) : Goes p e below FE n0 Q (T.setTop (mkF m pc Ls (.int i :: st))) :=
  Goes.via (fun _ k => XS.tswIn X.here hx rfl rfl hd rfl hin hoff ho hp k) g
theorem own_tswOut (X : Stand p l e R s m args below meth c T locs cells slots) (hx : p.tables.exec = Jvm.exec) {dflt low high : Int} {offs : Array Int} {len : Nat} {i : Int32} (hd : decode c.code pc = .ok (.tableswitch dflt low high offs, len)) (hout : i.toInt < low ∨ i.toInt > high) (ho : 0 ≤ (pc : Int) + dflt) (hp : ((pc : Int) + dflt).toNat = pc')
    (g : Goes p e below FE n0 Q (T.setTop (mkF m pc' Ls st))) : Goes p e below FE n0 Q (T.setTop (mkF m pc Ls (.int i :: st))) :=
  Goes.via (fun _ k => XS.tswOut X.here hx rfl rfl hd rfl hout ho hp k) g
theorem own_ldcInt (X : Stand p l e R s m args below meth c T locs cells slots) (hx : p.tables.exec = Jvm.exec) (hZ : Z.Warmed39 s.vm) {own : String} {index : Nat} (hown : s.vm.findClass own = some m.cls) {v : Int32} (w : (Jvm.Cond.constant own index v).before a0 Z = true) (hd : decode c.code pc = .ok (.ldc index, 2))
    (g : Goes p e below FE n0 Q (T.setTop (mkF m (pc + 2) Ls (.int v :: st)))) : Goes p e below FE n0 Q (T.setTop (mkF m pc Ls st)) :=
  Goes.via (X.ldcInt hx hown (mvT hZ w) (g := mkF m pc Ls st) rfl hd) g
theorem own_ldcwInt (X : Stand p l e R s m args below meth c T locs cells slots) (hx : p.tables.exec = Jvm.exec) (hZ : Z.Warmed39 s.vm) {own : String} {index : Nat} (hown : s.vm.findClass own = some m.cls) {v : Int32} (w : (Jvm.Cond.constant own index v).before a0 Z = true) (hd : decode c.code pc = .ok (.ldc_w index, 3))
    (g : Goes p e below FE n0 Q (T.setTop (mkF m (pc + 3) Ls (.int v :: st)))) : Goes p e below FE n0 Q (T.setTop (mkF m pc Ls st)) :=
  Goes.via (X.ldcwInt hx hown (mvT hZ w) (g := mkF m pc Ls st) rfl hd) g
theorem own_ldc2Long (X : Stand p l e R s m args below meth c T locs cells slots) (hx : p.tables.exec = Jvm.exec) (hZ : Z.Warmed39 s.vm) {own : String} {index : Nat} (hown : s.vm.findClass own = some m.cls) {v : Int64} (w : (Jvm.Cond.constantLong own index v).before a0 Z = true) (hd : decode c.code pc = .ok (.ldc2_w index, 3))
    (g : Goes p e below FE n0 Q (T.setTop (mkF m (pc + 3) Ls (.long v :: st)))) : Goes p e below FE n0 Q (T.setTop (mkF m pc Ls st)) :=
  Goes.via (X.ldc2Long hx hown (mvT hZ w) (g := mkF m pc Ls st) rfl hd) g
theorem own_getF (X : Stand p l e R s m args below meth c T locs cells slots) (hx : p.tables.exec = Jvm.exec) (hZ : Z.Warmed39 s.vm) {own : String} {index : Nat} (hown : s.vm.findClass own = some m.cls) {R0 O n d host : String} (w : ((Jvm.Cond.fieldLink own index R0 n d).before a0 Z = true ∨ (Jvm.Cond.fieldLinkNest own index R0 n d host).before a0 Z = true)) (via : Via Z R0 O n d) (eT : T.heap = h) {a : Addr} {v : Value} (F : Fld Z h a O n d v) (hd : decode c.code pc = .ok (.getfield index, 3))
    (k : ∀ T', Stand p l e R s m args below meth c T' locs cells slots → T'.heap = h → Goes p e below FE n0 Q (T'.setTop (mkF m (pc + 3) Ls (v :: st)))) : Goes p e below FE n0 Q (T.setTop (mkF m pc Ls (.ref a :: st))) := by
  obtain ⟨T', X', e', st'⟩ := getF X hx hZ hown w via eT F (g := mkF m pc Ls (.ref a :: st)) rfl rfl hd
  exact Goes.via st' (k T' X' e')
theorem own_getS (X : Stand p l e R s m args below meth c T locs cells slots) (hx : p.tables.exec = Jvm.exec) (hZ : Z.Warmed39 s.vm) {own : String} {index : Nat} (hown : s.vm.findClass own = some m.cls) {R0 O n d host : String} (w : ((Jvm.Cond.fieldLink own index R0 n d).before a0 Z = true ∨ (Jvm.Cond.fieldLinkNest own index R0 n d host).before a0 Z = true)) (via : Via Z R0 O n d) (eT : T.heap = h) {v : Value} (F : Sta Z h O n d v) (hd : decode c.code pc = .ok (.getstatic index, 3))
    (k : ∀ T', Stand p l e R s m args below meth c T' locs cells slots → T'.heap = h → Goes p e below FE n0 Q (T'.setTop (mkF m (pc + 3) Ls (v :: st)))) : Goes p e below FE n0 Q (T.setTop (mkF m pc Ls st)) := by
  obtain ⟨T', X', e', st'⟩ := getS2 X hx hZ hown w via eT F (g := mkF m pc Ls st) rfl hd
  exact Goes.via st' (k T' X' e')
theorem own_initO (X : Stand p l e R s m args below meth c T locs cells slots) (hx : p.tables.exec = Jvm.exec) (hZ : Z.Warmed39 s.vm) {own : String} {index : Nat} (hown : s.vm.findClass own = some m.cls) (w1 : (Jvm.Cond.methodLink own index Lib.objectInit).before a0 Z = true) (w2 : (Jvm.Cond.instanceMethod Lib.objectInit).before a0 Z = true) (w3 : (Jvm.Cond.code Lib.objectInit ⟨#[0xb1]⟩ 1 none).before a0 Z = true) (eT : T.heap = h) (hsize : Ls.size = c.maxLocals) {a : Addr} (hd : decode c.code pc = .ok (.invokespecial index, 3)) (hf : 1 ≤ R.frames) {W : Nat} (hW : (st.map fun v => v.category).sum ≤ W) (hl : W + 12 ≤ R.locals)
    (k : ∀ T', Stand p l e R s m args below meth c T' locs cells slots → T'.heap = h → Goes p e below FE n0 Q (T'.setTop (mkF m (pc + 3) Ls st))) : Goes p e below FE n0 Q (T.setTop (mkF m pc Ls (.ref a :: st))) := by
  obtain ⟨T', X', e', st'⟩ := initO X hx hZ hown w1 w2 w3 eT (g := mkF m pc Ls (.ref a :: st)) rfl hsize rfl hd hf (W := W) (by show 2 * 0 + _ ≤ _; omega) hl
  exact Goes.via st' (k T' X' e')
theorem own_new (X : Stand p l e R s m args below meth c T locs cells slots) (hx : p.tables.exec = Jvm.exec) (hZ : Z.Warmed39 s.vm) {own : String} {index : Nat} (hown : s.vm.findClass own = some m.cls) {C : String} {nn : Nat} (w : (Jvm.Cond.classLink own index C).before a0 Z = true) (wi : (Jvm.Cond.instantiable C nn).before a0 Z = true) (wz : (Jvm.Cond.initialized C).before a0 Z = true) (eT : T.heap = h) (hd : decode c.code pc = .ok (.new index, 3)) (hc : cells + 1 ≤ R.cells) (hl : slots + nn ≤ R.slots)
    (k : ∀ T' h' b, b = h.size → Stand p l e R s m args below meth c T' locs (cells + 1) (slots + nn) → T'.heap = h' → Ext h h' → Exa Z h' b C → (∀ {O nm d : String} {ty : FieldType}, Laid Z a0 C O nm d → parseFieldDescriptor d = some ty → Fld Z h' b O nm d (defaultValue ty)) → Goes p e below FE n0 Q (T'.setTop (mkF m (pc + 3) Ls (.ref b :: st)))) : Goes p e below FE n0 Q (T.setTop (mkF m pc Ls st)) := by
  obtain ⟨T', h', X', e', E', A', D', -, st'⟩ := newO X hx hZ hown w wi wz eT (g := mkF m pc Ls st) rfl hd hc hl
  exact Goes.via st' (k T' h' _ rfl X' e' E' A' D')
theorem own_putF (X : Stand p l e R s m args below meth c T locs cells slots) (hx : p.tables.exec = Jvm.exec) (hZ : Z.Warmed39 s.vm) {own : String} {index : Nat} (hown : s.vm.findClass own = some m.cls) {R0 O n d host C : String} {kk : Nat} {ty : FieldType} (N : Fr n0 locs) (w : ((Jvm.Cond.fieldLink own index R0 n d).before a0 Z = true ∨ (Jvm.Cond.fieldLinkNest own index R0 n d host).before a0 Z = true)) (via : Via Z R0 O n d) (eT : T.heap = h) {a : Addr} {v old : Value} (F : Fld Z h a O n d old) (E : Exa Z h a C) (L : (Jvm.Cond.lays C O n d).before a0 Z = true ∨ ((Jvm.Cond.laysFinal C O n d).before a0 Z = true ∧ own = O ∧ meth.name = "<init>")) (wi : (Jvm.Cond.instantiable C kk).before a0 Z = true) (hty : parseFieldDescriptor d = some ty) (hn : narrow ty v = v) (hf : fits ty v = true) (hge : n0 ≤ a) (hd : decode c.code pc = .ok (.putfield index, 3))
    (k : ∀ T' h' locs', Stand p l e R s m args below meth c T' locs' cells slots → T'.heap = h' → Fr n0 locs' → Wr h h' a (RoadKit.slotOf Z O n d) v → Goes p e below FE n0 Q (T'.setTop (mkF m (pc + 3) Ls st))) : Goes p e below FE n0 Q (T.setTop (mkF m pc Ls (v :: .ref a :: st))) := by
  obtain ⟨T', h', X', e', W', st'⟩ := putF X hx hZ hown w via eT F E L wi hty hn hf (g := mkF m pc Ls (v :: .ref a :: st)) rfl rfl hd
  exact Goes.via st' (k T' h' _ X' e' (Fr.snoc X' N hge) W')
theorem own_castY (X : Stand p l e R s m args below meth c T locs cells slots) (hx : p.tables.exec = Jvm.exec) (hZ : Z.Warmed39 s.vm) {own : String} {index : Nat} (hown : s.vm.findClass own = some m.cls) {K : String} (w : (Jvm.Cond.classLink own index K).before a0 Z = true) (eT : T.heap = h) {a : Addr} (F : Ins Z h a K true) (hd : decode c.code pc = .ok (.checkcast index, 3))
    (k : ∀ T', Stand p l e R s m args below meth c T' locs cells slots → T'.heap = h → Goes p e below FE n0 Q (T'.setTop (mkF m (pc + 3) Ls (.ref a :: st)))) : Goes p e below FE n0 Q (T.setTop (mkF m pc Ls (.ref a :: st))) := by
  obtain ⟨T', X', e', st'⟩ := castY X hx hZ hown w eT F (g := mkF m pc Ls (.ref a :: st)) rfl rfl hd
  exact Goes.via st' (k T' X' e')
theorem own_castNull (X : Stand p l e R s m args below meth c T locs cells slots) (hx : p.tables.exec = Jvm.exec) {index : Nat} (hd : decode c.code pc = .ok (.checkcast index, 3))
    (g : Goes p e below FE n0 Q (T.setTop (mkF m (pc + 3) Ls (.null :: st)))) : Goes p e below FE n0 Q (T.setTop (mkF m pc Ls (.null :: st))) :=
  Goes.via (X.checkcastNull hx (g := mkF m pc Ls (.null :: st)) rfl rfl hd) g
theorem own_instNull (X : Stand p l e R s m args below meth c T locs cells slots) (hx : p.tables.exec = Jvm.exec) {index : Nat} (hd : decode c.code pc = .ok (.instanceof index, 3))
    (g : Goes p e below FE n0 Q (T.setTop (mkF m (pc + 3) Ls (.int 0 :: st)))) : Goes p e below FE n0 Q (T.setTop (mkF m pc Ls (.null :: st))) :=
  Goes.via (X.instanceofNull hx (g := mkF m pc Ls (.null :: st)) rfl rfl hd) g
theorem own_instY (X : Stand p l e R s m args below meth c T locs cells slots) (hx : p.tables.exec = Jvm.exec) (hZ : Z.Warmed39 s.vm) {own : String} {index : Nat} (hown : s.vm.findClass own = some m.cls) {K : String} (w : (Jvm.Cond.classLink own index K).before a0 Z = true) (eT : T.heap = h) {a : Addr} (F : Ins Z h a K true) (hd : decode c.code pc = .ok (.instanceof index, 3))
    (k : ∀ T', Stand p l e R s m args below meth c T' locs cells slots → T'.heap = h → Goes p e below FE n0 Q (T'.setTop (mkF m (pc + 3) Ls (.int 1 :: st)))) : Goes p e below FE n0 Q (T.setTop (mkF m pc Ls (.ref a :: st))) := by
  obtain ⟨T', X', e', st'⟩ := instY X hx hZ hown w eT F (g := mkF m pc Ls (.ref a :: st)) rfl rfl hd
  exact Goes.via st' (k T' X' e')
theorem own_instN (X : Stand p l e R s m args below meth c T locs cells slots) (hx : p.tables.exec = Jvm.exec) (hZ : Z.Warmed39 s.vm) {own : String} {index : Nat} (hown : s.vm.findClass own = some m.cls) {K C : String} (w : (Jvm.Cond.classLink own index K).before a0 Z = true) (eT : T.heap = h) {a : Addr} (E : Exa Z h a C) (F : ∃ c t, Z.vm.findClass C = some c ∧ Z.vm.findClass K = some t ∧ Z.vm.assignable c t = false) (hd : decode c.code pc = .ok (.instanceof index, 3))
    (k : ∀ T', Stand p l e R s m args below meth c T' locs cells slots → T'.heap = h → Goes p e below FE n0 Q (T'.setTop (mkF m (pc + 3) Ls (.int 0 :: st)))) : Goes p e below FE n0 Q (T.setTop (mkF m pc Ls (.ref a :: st))) := by
  obtain ⟨T', X', e', st'⟩ := instNo X hx hZ hown w eT E F (g := mkF m pc Ls (.ref a :: st)) rfl rfl hd
  exact Goes.via st' (k T' X' e')
theorem own_lsw (X : Stand p l e R s m args below meth c T locs cells slots) (hx : p.tables.exec = Jvm.exec) {dflt : Int} {prs : Array (Int × Int)} {len : Nat} {o kk : Int} {i : Int32} (hd : decode c.code pc = .ok (.lookupswitch dflt prs, len)) (hso : (prs.toList.zip (prs.toList.drop 1)).all (fun (a, next) => a.1 < next.1) = true) (hf : prs.find? (·.1 == i.toInt) = some (kk, o)) (ho : 0 ≤ (pc : Int) + o) (hp : ((pc : Int) + o).toNat = pc')
    (g : Goes p e below FE n0 Q (T.setTop (mkF m pc' Ls st))) : Goes p e below FE n0 Q (T.setTop (mkF m pc Ls (.int i :: st))) := by
  subst hp
  exact Goes.via (X.lookupswitchHit hx (g := mkF m pc Ls (.int i :: st)) rfl rfl hd hso hf ho) g
theorem own_clone (X : Stand p l e R s m args below meth c T locs cells slots) (hx : p.tables.exec = Jvm.exec) (hZ : Z.Warmed39 s.vm) {own : String} {index : Nat} (hown : s.vm.findClass own = some m.cls) {ad : String} (w1 : (Jvm.Cond.methodLink own index ⟨ad, "clone", "()Ljava/lang/Object;"⟩).before a0 Z = true) (w2 : (Jvm.Cond.sameMethod ad "java/lang/Object" "clone" "()Ljava/lang/Object;").before a0 Z = true) (w3 : (Jvm.Cond.native ⟨"java/lang/Object", "clone", "()Ljava/lang/Object;"⟩).before a0 Z = true) (w4 : (Jvm.Cond.instanceMethod ⟨"java/lang/Object", "clone", "()Ljava/lang/Object;"⟩).before a0 Z = true) (w5 : (Jvm.Cond.selects ad ⟨ad, "clone", "()Ljava/lang/Object;"⟩ ⟨"java/lang/Object", "clone", "()Ljava/lang/Object;"⟩).before a0 Z = true) (w6 : (Jvm.Cond.castable ad "java/lang/Cloneable").before a0 Z = true) (eT : T.heap = h) {a : Addr} {k : ClassId} {ty : FieldType} {z : Int32} {vs : List Value} {dv : Value} (F : Arv Z h a k ty z vs dv) (E : Exa Z h a ad) (hsize : Ls.size = c.maxLocals) (hd : decode c.code pc = .ok (.invokevirtual index, 3)) (hf : 1 ≤ R.frames) {W cap : Nat} (hW : (st.map fun v => v.category).sum ≤ W) (hl : W + 14 ≤ R.locals) (hcap : z.toNatClampNeg ≤ cap) (hc : cells + 1 ≤ R.cells) (hsl : slots + cap ≤ R.slots)
    (k : ∀ T' h' b, b = h.size → Stand p l e R s m args below meth c T' locs (cells + 1) (slots + cap) → T'.heap = h' → Ext h h' → Arv Z h' b k ty z vs dv → Exa Z h' b ad → Goes p e below FE n0 Q (T'.setTop (mkF m (pc + 3) Ls (.ref b :: st)))) : Goes p e below FE n0 Q (T.setTop (mkF m pc Ls (.ref a :: st))) := by
  obtain ⟨T', h', X', e', E', A', Ex', st'⟩ := cloneH X hx hZ hown w1 w2 w3 w4 w5 w6 eT F.arh E (g := mkF m pc Ls (.ref a :: st)) rfl hsize rfl hd hf (W := W) (cap := cap) (by show 2 * 0 + _ ≤ _; omega) hl hcap hc hsl
  exact Goes.via st' (k T' h' _ rfl X' e' E' A' Ex')
theorem own_iaload (X : Stand p l e R s m args below meth c T locs cells slots) (hx : p.tables.exec = Jvm.exec) (hZ : Z.Warmed39 s.vm) (eT : T.heap = h) {a : Addr} {k : ClassId} {z j : Int32} {vs : List Value} {dv v : Value} (F : Arv Z h a k .int z vs dv) (hj : ¬ j < 0 ∧ j < z) (hv : vs.getD j.toNatClampNeg dv = v) (hd : decode c.code pc = .ok (.iaload, 1))
    (g : Goes p e below FE n0 Q (T.setTop (mkF m (pc + 1) Ls (v :: st)))) : Goes p e below FE n0 Q (T.setTop (mkF m pc Ls (.int j :: .ref a :: st))) := by
  obtain ⟨cl, A, -, S, -, H, -⟩ := F
  exact Goes.via (fun t k => X.iaload hx (j := j) (v := v) (by rw [eT]; exact A.1) (State.isArrayOf_alike hZ.alike A.2.1) A.2.2 (inb_of S hj) (H.at (inb_of S hj) hv) (g := mkF m pc Ls (.int j :: .ref a :: st)) rfl rfl hd t k) g
theorem own_laload (X : Stand p l e R s m args below meth c T locs cells slots) (hx : p.tables.exec = Jvm.exec) (hZ : Z.Warmed39 s.vm) (eT : T.heap = h) {a : Addr} {k : ClassId} {z j : Int32} {vs : List Value} {dv v : Value} (F : Arv Z h a k .long z vs dv) (hj : ¬ j < 0 ∧ j < z) (hv : vs.getD j.toNatClampNeg dv = v) (hd : decode c.code pc = .ok (.laload, 1))
    (g : Goes p e below FE n0 Q (T.setTop (mkF m (pc + 1) Ls (v :: st)))) : Goes p e below FE n0 Q (T.setTop (mkF m pc Ls (.int j :: .ref a :: st))) := by
  obtain ⟨cl, A, -, S, -, H, -⟩ := F
  exact Goes.via (fun t k => X.laload hx (j := j) (v := v) (by rw [eT]; exact A.1) (State.isArrayOf_alike hZ.alike A.2.1) A.2.2 (inb_of S hj) (H.at (inb_of S hj) hv) (g := mkF m pc Ls (.int j :: .ref a :: st)) rfl rfl hd t k) g
theorem own_caload (X : Stand p l e R s m args below meth c T locs cells slots) (hx : p.tables.exec = Jvm.exec) (hZ : Z.Warmed39 s.vm) (eT : T.heap = h) {a : Addr} {k : ClassId} {z j : Int32} {vs : List Value} {dv v : Value} (F : Arv Z h a k .char z vs dv) (hj : ¬ j < 0 ∧ j < z) (hv : vs.getD j.toNatClampNeg dv = v) (hd : decode c.code pc = .ok (.caload, 1))
    (g : Goes p e below FE n0 Q (T.setTop (mkF m (pc + 1) Ls (v :: st)))) : Goes p e below FE n0 Q (T.setTop (mkF m pc Ls (.int j :: .ref a :: st))) := by
  obtain ⟨cl, A, -, S, -, H, -⟩ := F
  exact Goes.via (fun t k => X.caload hx (j := j) (v := v) (by rw [eT]; exact A.1) (State.isArrayOf_alike hZ.alike A.2.1) A.2.2 (inb_of S hj) (H.at (inb_of S hj) hv) (g := mkF m pc Ls (.int j :: .ref a :: st)) rfl rfl hd t k) g
theorem own_baload (X : Stand p l e R s m args below meth c T locs cells slots) (hx : p.tables.exec = Jvm.exec) (hZ : Z.Warmed39 s.vm) (eT : T.heap = h) {a : Addr} {k : ClassId} {z j : Int32} {vs : List Value} {dv v : Value} (F : Arv Z h a k .byte z vs dv) (hj : ¬ j < 0 ∧ j < z) (hv : vs.getD j.toNatClampNeg dv = v) (hd : decode c.code pc = .ok (.baload, 1))
    (g : Goes p e below FE n0 Q (T.setTop (mkF m (pc + 1) Ls (v :: st)))) : Goes p e below FE n0 Q (T.setTop (mkF m pc Ls (.int j :: .ref a :: st))) := by
  obtain ⟨cl, A, -, S, -, H, -⟩ := F
  exact Goes.via (fun t k => X.baloadBytes hx (j := j) (v := v) (by rw [eT]; exact A.1) (State.isArrayOf_alike hZ.alike A.2.1) A.2.2 (inb_of S hj) (H.at (inb_of S hj) hv) (g := mkF m pc Ls (.int j :: .ref a :: st)) rfl rfl hd t k) g
theorem own_aaload (X : Stand p l e R s m args below meth c T locs cells slots) (hx : p.tables.exec = Jvm.exec) (hZ : Z.Warmed39 s.vm) (eT : T.heap = h) {a : Addr} {k : ClassId} {ty : FieldType} {z j : Int32} {vs : List Value} {dv v : Value} (F : Arv Z h a k ty z vs dv) (hty : ty.isReference = true) (hj : ¬ j < 0 ∧ j < z) (hv : vs.getD j.toNatClampNeg dv = v) (hd : decode c.code pc = .ok (.aaload, 1))
    (g : Goes p e below FE n0 Q (T.setTop (mkF m (pc + 1) Ls (v :: st)))) : Goes p e below FE n0 Q (T.setTop (mkF m pc Ls (.int j :: .ref a :: st))) := by
  obtain ⟨cl, A, -, S, -, H, -⟩ := F
  exact Goes.via (fun t k => X.aaload hx (j := j) (v := v) (by rw [eT]; exact A.1) (State.isArrayOf_alike hZ.alike A.2.1) hty A.2.2 (inb_of S hj) (H.at (inb_of S hj) hv) (g := mkF m pc Ls (.int j :: .ref a :: st)) rfl rfl hd t k) g
theorem own_aaloadC (X : Stand p l e R s m args below meth c T locs cells slots) (hx : p.tables.exec = Jvm.exec) (hZ : Z.Warmed39 s.vm) (eT : T.heap = h) {a : Addr} {cl : Cell} {ty : FieldType} {j : Int32} {v : Value} (A : Arr Z h a cl ty) (hty : ty.isReference = true) (hj : ¬ (j < 0 ∨ cl.slots.size ≤ j.toNatClampNeg)) (hv : cl.slots[j.toNatClampNeg]? = some v) (hd : decode c.code pc = .ok (.aaload, 1))
    (g : Goes p e below FE n0 Q (T.setTop (mkF m (pc + 1) Ls (v :: st)))) : Goes p e below FE n0 Q (T.setTop (mkF m pc Ls (.int j :: .ref a :: st))) :=
  Goes.via (fun t k => X.aaload hx (j := j) (v := v) (by rw [eT]; exact A.1) (State.isArrayOf_alike hZ.alike A.2.1) hty A.2.2 hj hv (g := mkF m pc Ls (.int j :: .ref a :: st)) rfl rfl hd t k) g
theorem own_alen (X : Stand p l e R s m args below meth c T locs cells slots) (hx : p.tables.exec = Jvm.exec) (hZ : Z.Warmed39 s.vm) (eT : T.heap = h) {a : Addr} {k : ClassId} {ty : FieldType} {z : Int32} {vs : List Value} {dv : Value} (F : Arv Z h a k ty z vs dv) (hd : decode c.code pc = .ok (.arraylength, 1))
    (g : Goes p e below FE n0 Q (T.setTop (mkF m (pc + 1) Ls (.int z :: st)))) : Goes p e below FE n0 Q (T.setTop (mkF m pc Ls (.ref a :: st))) := by
  obtain ⟨cl, A, -, S, hz, -, -⟩ := F
  rw [← len_of S hz] at g
  exact Goes.via (fun t k => X.arraylength hx (by rw [eT]; exact A.1) (State.isArrayOf_alike hZ.alike A.2.1) (g := mkF m pc Ls (.ref a :: st)) rfl rfl hd t k) g
theorem own_newP (X : Stand p l e R s m args below meth c T locs cells slots) (hx : p.tables.exec = Jvm.exec) (hZ : Z.Warmed39 s.vm) {aty : ArrayType} (w : (Jvm.Cond.arrayClass (newarray.typeOf aty)).before a0 Z = true) (eT : T.heap = h) {n : Int32} (hd : decode c.code pc = .ok (.newarray aty, 2)) (hn : ¬ n < 0) {cap : Nat} (hcap : n.toNatClampNeg ≤ cap) (hb : cap * 8 ≤ 536870912) (hc : cells + 1 ≤ R.cells) (hl : slots + cap ≤ R.slots)
    (k : ∀ T' h' b cA, b = h.size → Stand p l e R s m args below meth c T' locs (cells + 1) (slots + cap) → T'.heap = h' → Ext h h' → Arv Z h' b cA (newarray.typeOf aty) n [] (defaultValue (newarray.typeOf aty)) → Goes p e below FE n0 Q (T'.setTop (mkF m (pc + 2) Ls (.ref b :: st)))) : Goes p e below FE n0 Q (T.setTop (mkF m pc Ls (.int n :: st))) := by
  obtain ⟨T', h', cA, X', e', E', A', st'⟩ := newP X hx hZ w eT (g := mkF m pc Ls (.int n :: st)) rfl hd rfl hn hcap hb hc hl
  exact Goes.via st' (k T' h' _ cA rfl X' e' E' (Arv.new A' hn))
theorem own_newR (X : Stand p l e R s m args below meth c T locs cells slots) (hx : p.tables.exec = Jvm.exec) (hZ : Z.Warmed39 s.vm) {own : String} {index : Nat} (hown : s.vm.findClass own = some m.cls) {C : String} (w1 : (Jvm.Cond.classLink own index C).before a0 Z = true) (w2 : (Jvm.Cond.arrayOver (.object C)).before a0 Z = true) (eT : T.heap = h) {n : Int32} (hd : decode c.code pc = .ok (.anewarray index, 3)) (hn : ¬ n < 0) {cap : Nat} (hcap : n.toNatClampNeg ≤ cap) (hb : cap * 8 ≤ 536870912) (hc : cells + 1 ≤ R.cells) (hl : slots + cap ≤ R.slots)
    (k : ∀ T' h' b cA, b = h.size → Stand p l e R s m args below meth c T' locs (cells + 1) (slots + cap) → T'.heap = h' → Ext h h' → Arv Z h' b cA (.object C) n [] .null → Ovr Z cA C → Goes p e below FE n0 Q (T'.setTop (mkF m (pc + 3) Ls (.ref b :: st)))) : Goes p e below FE n0 Q (T.setTop (mkF m pc Ls (.int n :: st))) := by
  obtain ⟨T', h', cA, X', e', E', A', O', st'⟩ := newR X hx hZ hown w1 w2 eT (g := mkF m pc Ls (.int n :: st)) rfl hd rfl hn hcap hb hc hl
  exact Goes.via st' (k T' h' _ cA rfl X' e' E' (Arv.new A' hn) O')
theorem own_newPE (X : Stand p l e R s m args below meth c T locs cells slots) (hx : p.tables.exec = Jvm.exec) (hZ : Z.Warmed39 s.vm) {aty : ArrayType} (w : (Jvm.Cond.arrayClass (newarray.typeOf aty)).before a0 Z = true) (eT : T.heap = h) {n : Int32} {ad : String} (had : "[" ++ (newarray.typeOf aty).toString = ad) (hd : decode c.code pc = .ok (.newarray aty, 2)) (hn : ¬ n < 0) {cap : Nat} (hcap : n.toNatClampNeg ≤ cap) (hb : cap * 8 ≤ 536870912) (hc : cells + 1 ≤ R.cells) (hl : slots + cap ≤ R.slots)
    (k : ∀ T' h' b cA, b = h.size → Stand p l e R s m args below meth c T' locs (cells + 1) (slots + cap) → T'.heap = h' → Ext h h' → Arv Z h' b cA (newarray.typeOf aty) n [] (defaultValue (newarray.typeOf aty)) → Exa Z h' b ad → Goes p e below FE n0 Q (T'.setTop (mkF m (pc + 2) Ls (.ref b :: st)))) : Goes p e below FE n0 Q (T.setTop (mkF m pc Ls (.int n :: st))) := by
  obtain ⟨T', h', cA, X', e', E', A', Ex', st'⟩ := newPE X hx hZ w eT (g := mkF m pc Ls (.int n :: st)) rfl hd rfl hn hcap hb hc hl had
  exact Goes.via st' (k T' h' _ cA rfl X' e' E' (Arv.new A' hn) Ex')
theorem own_newRE (X : Stand p l e R s m args below meth c T locs cells slots) (hx : p.tables.exec = Jvm.exec) (hZ : Z.Warmed39 s.vm) {own : String} {index : Nat} (hown : s.vm.findClass own = some m.cls) {C ad : String} (had : "[" ++ (FieldType.object C).toString = ad) (w1 : (Jvm.Cond.classLink own index C).before a0 Z = true) (w2 : (Jvm.Cond.arrayOver (.object C)).before a0 Z = true) (eT : T.heap = h) {n : Int32} (hd : decode c.code pc = .ok (.anewarray index, 3)) (hn : ¬ n < 0) {cap : Nat} (hcap : n.toNatClampNeg ≤ cap) (hb : cap * 8 ≤ 536870912) (hc : cells + 1 ≤ R.cells) (hl : slots + cap ≤ R.slots)
    (k : ∀ T' h' b cA, b = h.size → Stand p l e R s m args below meth c T' locs (cells + 1) (slots + cap) → T'.heap = h' → Ext h h' → Arv Z h' b cA (.object C) n [] .null → Ovr Z cA C → Exa Z h' b ad → Goes p e below FE n0 Q (T'.setTop (mkF m (pc + 3) Ls (.ref b :: st)))) : Goes p e below FE n0 Q (T.setTop (mkF m pc Ls (.int n :: st))) := by
  obtain ⟨T', h', cA, X', e', E', A', Ex', O', st'⟩ := newRE X hx hZ hown w1 w2 eT (g := mkF m pc Ls (.int n :: st)) rfl hd rfl hn hcap hb hc hl had
  exact Goes.via st' (k T' h' _ cA rfl X' e' E' (Arv.new A' hn) O' Ex')
theorem own_newRA (X : Stand p l e R s m args below meth c T locs cells slots) (hx : p.tables.exec = Jvm.exec) (hZ : Z.Warmed39 s.vm) {own : String} {index : Nat} (hown : s.vm.findClass own = some m.cls) {C ad : String} {ty : FieldType} (hC : (FieldType.array ty).toString = C) (had : "[" ++ C = ad) (w1 : (Jvm.Cond.classLink own index C).before a0 Z = true) (w2 : (Jvm.Cond.arrayOver (.array ty)).before a0 Z = true) (eT : T.heap = h) {n : Int32} (hd : decode c.code pc = .ok (.anewarray index, 3)) (hn : ¬ n < 0) {cap : Nat} (hcap : n.toNatClampNeg ≤ cap) (hb : cap * 8 ≤ 536870912) (hc : cells + 1 ≤ R.cells) (hl : slots + cap ≤ R.slots)
    (k : ∀ T' h' b cA, b = h.size → Stand p l e R s m args below meth c T' locs (cells + 1) (slots + cap) → T'.heap = h' → Ext h h' → Arv Z h' b cA (.array ty) n [] .null → OvrA Z cA ty C → Goes p e below FE n0 Q (T'.setTop (mkF m (pc + 3) Ls (.ref b :: st)))) : Goes p e below FE n0 Q (T.setTop (mkF m pc Ls (.int n :: st))) := by
  obtain ⟨T', h', cA, X', e', E', A', Ex', O', st'⟩ := newRA X hx hZ hown hC w1 w2 eT (g := mkF m pc Ls (.int n :: st)) rfl hd rfl hn hcap hb hc hl had
  exact Goes.via st' (k T' h' _ cA rfl X' e' E' (Arv.new A' hn) O')
theorem own_iastore (X : Stand p l e R s m args below meth c T locs cells slots) (hx : p.tables.exec = Jvm.exec) (hZ : Z.Warmed39 s.vm) (N : Fr n0 locs) (eT : T.heap = h) {a : Addr} {k : ClassId} {z j : Int32} {vs : List Value} {dv : Value} {x : Int32} (F : Arv Z h a k .int z vs dv) (hj : ¬ j < 0 ∧ j < z) {i : Nat} (hi : j.toNatClampNeg = i) (hlen : i < vs.length) (hge : n0 ≤ a) (hd : decode c.code pc = .ok (.iastore, 1))
    (k : ∀ T' h' locs', Stand p l e R s m args below meth c T' locs' cells slots → T'.heap = h' → Fr n0 locs' → Wr h h' a j.toNatClampNeg (.int x) → Arv Z h' a k .int z (vs.set i (.int x)) dv → Goes p e below FE n0 Q (T'.setTop (mkF m (pc + 1) Ls st))) : Goes p e below FE n0 Q (T.setTop (mkF m pc Ls (.int x :: .int j :: .ref a :: st))) := by
  obtain ⟨cl, A, q1, S, q3, H, G⟩ := F
  obtain ⟨T', h', X', e', W', st'⟩ := stI X hx hZ eT A (j := j) (inb_of S hj) (g := mkF m pc Ls (.int x :: .int j :: .ref a :: st)) rfl rfl hd
  exact Goes.via st' (k T' h' _ X' e' (Fr.snoc X' N hge) W' (Arv.set A q1 S q3 H G rfl W' i hi hlen))
theorem own_lastore (X : Stand p l e R s m args below meth c T locs cells slots) (hx : p.tables.exec = Jvm.exec) (hZ : Z.Warmed39 s.vm) (N : Fr n0 locs) (eT : T.heap = h) {a : Addr} {k : ClassId} {z j : Int32} {vs : List Value} {dv : Value} {x : Int64} (F : Arv Z h a k .long z vs dv) (hj : ¬ j < 0 ∧ j < z) {i : Nat} (hi : j.toNatClampNeg = i) (hlen : i < vs.length) (hge : n0 ≤ a) (hd : decode c.code pc = .ok (.lastore, 1))
    (k : ∀ T' h' locs', Stand p l e R s m args below meth c T' locs' cells slots → T'.heap = h' → Fr n0 locs' → Wr h h' a j.toNatClampNeg (.long x) → Arv Z h' a k .long z (vs.set i (.long x)) dv → Goes p e below FE n0 Q (T'.setTop (mkF m (pc + 1) Ls st))) : Goes p e below FE n0 Q (T.setTop (mkF m pc Ls (.long x :: .int j :: .ref a :: st))) := by
  obtain ⟨cl, A, q1, S, q3, H, G⟩ := F
  obtain ⟨T', h', X', e', W', st'⟩ := stJ X hx hZ eT A (j := j) (inb_of S hj) (g := mkF m pc Ls (.long x :: .int j :: .ref a :: st)) rfl rfl hd
  exact Goes.via st' (k T' h' _ X' e' (Fr.snoc X' N hge) W' (Arv.set A q1 S q3 H G rfl W' i hi hlen))
theorem own_castore (X : Stand p l e R s m args below meth c T locs cells slots) (hx : p.tables.exec = Jvm.exec) (hZ : Z.Warmed39 s.vm) (N : Fr n0 locs) (eT : T.heap = h) {a : Addr} {k : ClassId} {z j : Int32} {vs : List Value} {dv : Value} {x : Int32} (F : Arv Z h a k .char z vs dv) (hj : ¬ j < 0 ∧ j < z) {i : Nat} (hi : j.toNatClampNeg = i) (hlen : i < vs.length) (hge : n0 ≤ a) (hd : decode c.code pc = .ok (.castore, 1))
    (k : ∀ T' h' locs', Stand p l e R s m args below meth c T' locs' cells slots → T'.heap = h' → Fr n0 locs' → Wr h h' a j.toNatClampNeg (.int (nar .char x)) → Arv Z h' a k .char z (vs.set i (.int (nar .char x))) dv → Goes p e below FE n0 Q (T'.setTop (mkF m (pc + 1) Ls st))) : Goes p e below FE n0 Q (T.setTop (mkF m pc Ls (.int x :: .int j :: .ref a :: st))) := by
  obtain ⟨cl, A, q1, S, q3, H, G⟩ := F
  obtain ⟨T', h', X', e', W', st'⟩ := stC X hx hZ eT A (j := j) (inb_of S hj) (g := mkF m pc Ls (.int x :: .int j :: .ref a :: st)) rfl rfl hd
  exact Goes.via st' (k T' h' _ X' e' (Fr.snoc X' N hge) W' (Arv.set A q1 S q3 H G (fits_nar_char _) W' i hi hlen))
theorem own_bastore (X : Stand p l e R s m args below meth c T locs cells slots) (hx : p.tables.exec = Jvm.exec) (hZ : Z.Warmed39 s.vm) (N : Fr n0 locs) (eT : T.heap = h) {a : Addr} {k : ClassId} {z j : Int32} {vs : List Value} {dv : Value} {x : Int32} (F : Arv Z h a k .byte z vs dv) (hj : ¬ j < 0 ∧ j < z) {i : Nat} (hi : j.toNatClampNeg = i) (hlen : i < vs.length) (hge : n0 ≤ a) (hd : decode c.code pc = .ok (.bastore, 1))
    (k : ∀ T' h' locs', Stand p l e R s m args below meth c T' locs' cells slots → T'.heap = h' → Fr n0 locs' → Wr h h' a j.toNatClampNeg (.int (x.toInt8.toInt32)) → Arv Z h' a k .byte z (vs.set i (.int (x.toInt8.toInt32))) dv → Goes p e below FE n0 Q (T'.setTop (mkF m (pc + 1) Ls st))) : Goes p e below FE n0 Q (T.setTop (mkF m pc Ls (.int x :: .int j :: .ref a :: st))) := by
  obtain ⟨cl, A, q1, S, q3, H, G⟩ := F
  obtain ⟨T', h', X', e', W', st'⟩ := stB X hx hZ eT A (j := j) (inb_of S hj) (g := mkF m pc Ls (.int x :: .int j :: .ref a :: st)) rfl rfl hd
  exact Goes.via st' (k T' h' _ X' e' (Fr.snoc X' N hge) W' (Arv.set A q1 S q3 H G (fits_nar_byte _) W' i hi hlen))
theorem own_aastore (X : Stand p l e R s m args below meth c T locs cells slots) (hx : p.tables.exec = Jvm.exec) (hZ : Z.Warmed39 s.vm) (N : Fr n0 locs) (eT : T.heap = h) {a : Addr} {k : ClassId} {ty : FieldType} {z j : Int32} {vs : List Value} {dv v : Value} (F : Arv Z h a k ty z vs dv) (hty : ty.isReference = true) (hfit : fits ty v = true) (hj : ¬ j < 0 ∧ j < z) {i : Nat} (hi : j.toNatClampNeg = i) (hlen : i < vs.length) (hge : n0 ≤ a) (hst : ∀ cl, Arr Z h a cl ty → cl.cls = k → Sto Z h a v) (hd : decode c.code pc = .ok (.aastore, 1))
    (k : ∀ T' h' locs', Stand p l e R s m args below meth c T' locs' cells slots → T'.heap = h' → Fr n0 locs' → Wr h h' a j.toNatClampNeg v → Arv Z h' a k ty z (vs.set i v) dv → Goes p e below FE n0 Q (T'.setTop (mkF m (pc + 1) Ls st))) : Goes p e below FE n0 Q (T.setTop (mkF m pc Ls (v :: .int j :: .ref a :: st))) := by
  obtain ⟨cl, A, q1, S, q3, H, G⟩ := F
  obtain ⟨T', h', X', e', W', st'⟩ := stR X hx hZ eT A (j := j) (inb_of S hj) hty (hst cl A q1) (g := mkF m pc Ls (v :: .int j :: .ref a :: st)) rfl rfl hd
  exact Goes.via st' (k T' h' _ X' e' (Fr.snoc X' N hge) W' (Arv.set A q1 S q3 H G hfit W' i hi hlen))
theorem own_selfsel {y : MethodName} {nn : Nat} (wi : (Jvm.Cond.instantiable y.cls nn).before a0 Z = true) (w2 : (Jvm.Cond.instanceMethod y).before a0 Z = true) (w6 : (Jvm.Cond.privateMethod y).before a0 Z = true) (hy : y.cls ≠ "java/lang/invoke/MethodHandle" ∧ y.cls ≠ "java/lang/invoke/VarHandle") : (Jvm.Cond.selects y.cls y y).before a0 Z = true := by
  obtain ⟨c, k, h1, h2, -, h4, -⟩ := Cond.instantiable_spec wi
  exact selects_self_of_private h1 h2 (by rw [Bool.or_eq_false_iff] at h4; exact h4.1) (Cond.privateMethod_at w6) w2 hy
theorem own_callS (X : Stand p l e R s m args below meth c T locs cells slots) (hx : p.tables.exec = Jvm.exec) (hZ : Z.Warmed39 s.vm) {own : String} {index : Nat} (hown : s.vm.findClass own = some m.cls) {y : MethodName} {bytes : ByteArray} {maxL : Nat} {ret : Option FieldType} {rm : Room} {W : Nat} {Q' : Option Value → Heap → Prop} (w1 : (Jvm.Cond.methodLink own index y).before a0 Z = true) (w2 : (Jvm.Cond.static y).before a0 Z = true) (w3 : (Jvm.Cond.initialized y.cls).before a0 Z = true) (w4 : (Jvm.Cond.code y bytes maxL ret).before a0 Z = true) (hy : y.cls ≠ "java/lang/invoke/MethodHandle" ∧ y.cls ≠ "java/lang/invoke/VarHandle") (hf : rm.frames + 1 ≤ R.frames) (hl : W + (maxL + 11) + rm.locals ≤ R.locals) (N : Fr n0 locs) (eT : T.heap = h) (hsize : Ls.size = c.maxLocals) {argsL rest : List Value} (hlen : ∀ sig, parseMethodDescriptor y.desc = some sig → argsL.length = sig.parameters.length) (hW : (rest.map fun v => v.category).sum ≤ W) (hc : cells + rm.cells ≤ R.cells) (hs : slots + rm.slots ≤ R.slots) (M : Meets l y bytes maxL ret [] rm rm.cells rm.slots Z argsL.toArray h n0 Q') (hst : st = argsL.reverse ++ rest) (hd : decode c.code pc = .ok (.invokestatic index, 3))
    (k : ∀ v T' locs', Stand p l e R s m args below meth c T' locs' (cells + rm.cells) (slots + rm.slots) → Fr n0 locs' → Q' v T'.heap → Goes p e below FE n0 Q (T'.setTop (mkF m (pc + 3) Ls (v.toList ++ rest)))) : Goes p e below FE n0 Q (T.setTop (mkF m pc Ls st)) := by
  subst hst
  obtain ⟨v, _, ⟨T', L', k', n'⟩, -, X', ⟨Lc, hQ, l1, l2, l3⟩, st'⟩ := Jvm.LawKit.callS X hx (y := y) hown (mvT hZ w1) (mvT hZ w2) (mvT hZ w3) (mvT hZ w4) hy (backOf (W := W) (Q := fun v h L => Fr n0 L ∧ Q' v h) M hZ w4 w3 hf hl) (g := mkF m pc Ls (argsL.reverse ++ rest)) rfl hsize (argsL := argsL) (rest := rest) hlen rfl (by show 2 * 0 + _ ≤ _; omega) hd (fun _ _ => ⟨rfl, eT, hc, hs⟩)
  dsimp only [Pt.U, Pt.locs, Pt.cells, Pt.slots] at X' l1 l2 l3 st' hQ
  subst l1 l2 l3
  exact Goes.via st' (k v T' _ X' (Fr.app N hQ.1) hQ.2)
theorem own_special (X : Stand p l e R s m args below meth c T locs cells slots) (hx : p.tables.exec = Jvm.exec) (hZ : Z.Warmed39 s.vm) {own : String} {index : Nat} (hown : s.vm.findClass own = some m.cls) {y : MethodName} {bytes : ByteArray} {maxL : Nat} {rm : Room} {W : Nat} {Q' : Option Value → Heap → Prop} (hy1 : y.name = "<init>") (w1 : (Jvm.Cond.methodLink own index y).before a0 Z = true) (w2 : (Jvm.Cond.instanceMethod y).before a0 Z = true) (w3 : (Jvm.Cond.initialized y.cls).before a0 Z = true) (w4 : (Jvm.Cond.code y bytes maxL none).before a0 Z = true) {a : Addr} (hy : y.cls ≠ "java/lang/invoke/MethodHandle" ∧ y.cls ≠ "java/lang/invoke/VarHandle") (hf : rm.frames + 1 ≤ R.frames) (hl : W + (maxL + 11) + rm.locals ≤ R.locals) (N : Fr n0 locs) (eT : T.heap = h) (hsize : Ls.size = c.maxLocals) {argsL rest : List Value} (hlen : ∀ sig, parseMethodDescriptor y.desc = some sig → argsL.length = sig.parameters.length) (hW : (rest.map fun v => v.category).sum ≤ W) (hc : cells + rm.cells ≤ R.cells) (hs : slots + rm.slots ≤ R.slots) (M : Meets l y bytes maxL none [] rm rm.cells rm.slots Z (.ref a :: argsL).toArray h n0 Q') (hst : st = argsL.reverse ++ .ref a :: rest) (hd : decode c.code pc = .ok (.invokespecial index, 3))
    (k : ∀ v T' locs', Stand p l e R s m args below meth c T' locs' (cells + rm.cells) (slots + rm.slots) → Fr n0 locs' → Q' v T'.heap → Goes p e below FE n0 Q (T'.setTop (mkF m (pc + 3) Ls (v.toList ++ rest)))) : Goes p e below FE n0 Q (T.setTop (mkF m pc Ls st)) := by
  subst hst
  obtain ⟨v, _, ⟨T', L', k', n'⟩, -, X', ⟨Lc, hQ, l1, l2, l3⟩, st'⟩ := X.specialBack hx (y := y) hy1 hown (mvT hZ w1) (mvT hZ w2) (mvT hZ w4) hy (backOf (W := W) (Q := fun v h L => Fr n0 L ∧ Q' v h) M hZ w4 w3 hf hl) (g := mkF m pc Ls (argsL.reverse ++ .ref a :: rest)) rfl hsize (Steps.refl _) (a := a) (argsL := argsL) (rest := rest) hlen rfl (by show 2 * 0 + _ ≤ _; omega) hd (fun _ _ => ⟨rfl, eT, hc, hs⟩)
  dsimp only [Pt.U, Pt.locs, Pt.cells, Pt.slots] at X' l1 l2 l3 st' hQ
  subst l1 l2 l3
  exact Goes.via (fun _ k => st'.trans k) (k v T' _ X' (Fr.app N hQ.1) hQ.2)
theorem own_specialNest (X : Stand p l e R s m args below meth c T locs cells slots) (hx : p.tables.exec = Jvm.exec) (hZ : Z.Warmed39 s.vm) {own : String} {index : Nat} (hown : s.vm.findClass own = some m.cls) {y : MethodName} {bytes : ByteArray} {maxL : Nat} {rm : Room} {W : Nat} {Q' : Option Value → Heap → Prop} {host : String} (hy1 : y.name = "<init>") (w1 : (Jvm.Cond.methodLinkNest own index y host).before a0 Z = true) (w2 : (Jvm.Cond.instanceMethod y).before a0 Z = true) (w3 : (Jvm.Cond.initialized y.cls).before a0 Z = true) (w4 : (Jvm.Cond.code y bytes maxL none).before a0 Z = true) {a : Addr} (hy : y.cls ≠ "java/lang/invoke/MethodHandle" ∧ y.cls ≠ "java/lang/invoke/VarHandle") (hf : rm.frames + 1 ≤ R.frames) (hl : W + (maxL + 11) + rm.locals ≤ R.locals) (N : Fr n0 locs) (eT : T.heap = h) (hsize : Ls.size = c.maxLocals) {argsL rest : List Value} (hlen : ∀ sig, parseMethodDescriptor y.desc = some sig → argsL.length = sig.parameters.length) (hW : (rest.map fun v => v.category).sum ≤ W) (hc : cells + rm.cells ≤ R.cells) (hs : slots + rm.slots ≤ R.slots) (M : Meets l y bytes maxL none [] rm rm.cells rm.slots Z (.ref a :: argsL).toArray h n0 Q') (hst : st = argsL.reverse ++ .ref a :: rest) (hd : decode c.code pc = .ok (.invokespecial index, 3))
    (k : ∀ v T' locs', Stand p l e R s m args below meth c T' locs' (cells + rm.cells) (slots + rm.slots) → Fr n0 locs' → Q' v T'.heap → Goes p e below FE n0 Q (T'.setTop (mkF m (pc + 3) Ls (v.toList ++ rest)))) : Goes p e below FE n0 Q (T.setTop (mkF m pc Ls st)) := by
  subst hst
  obtain ⟨v, _, ⟨T', L', k', n'⟩, -, X', ⟨Lc, hQ, l1, l2, l3⟩, st'⟩ := X.specialBackNest hx (y := y) hy1 hown (Cond.methodLinkNest_wide hZ w1 :) (mvT hZ w2) (mvT hZ w4) hy (backOf (W := W) (Q := fun v h L => Fr n0 L ∧ Q' v h) M hZ w4 w3 hf hl) (g := mkF m pc Ls (argsL.reverse ++ .ref a :: rest)) rfl hsize (Steps.refl _) (a := a) (argsL := argsL) (rest := rest) hlen rfl (by show 2 * 0 + _ ≤ _; omega) hd (fun _ _ => ⟨rfl, eT, hc, hs⟩)
  dsimp only [Pt.U, Pt.locs, Pt.cells, Pt.slots] at X' l1 l2 l3 st' hQ
  subst l1 l2 l3
  exact Goes.via (fun _ k => st'.trans k) (k v T' _ X' (Fr.app N hQ.1) hQ.2)
theorem own_virtual (X : Stand p l e R s m args below meth c T locs cells slots) (hx : p.tables.exec = Jvm.exec) (hZ : Z.Warmed39 s.vm) {own : String} {index : Nat} (hown : s.vm.findClass own = some m.cls) {y : MethodName} {bytes : ByteArray} {maxL : Nat} {ret : Option FieldType} {rm : Room} {W : Nat} {Q' : Option Value → Heap → Prop} {z : MethodName} {C : String} (w1 : (Jvm.Cond.methodLink own index y).before a0 Z = true) (w2 : (Jvm.Cond.declares y).before a0 Z = true) (hnf : NotFace s y) (w5 : (Jvm.Cond.selects C y z).before a0 Z = true) (w6 : (Jvm.Cond.instanceMethod z).before a0 Z = true) (w3 : (Jvm.Cond.initialized z.cls).before a0 Z = true) (w4 : (Jvm.Cond.code z bytes maxL ret).before a0 Z = true) {a : Addr} (E : Exa Z h a C) (hy : y.cls ≠ "java/lang/invoke/MethodHandle" ∧ y.cls ≠ "java/lang/invoke/VarHandle") (hf : rm.frames + 1 ≤ R.frames) (hl : W + (maxL + 11) + rm.locals ≤ R.locals) (N : Fr n0 locs) (eT : T.heap = h) (hsize : Ls.size = c.maxLocals) {argsL rest : List Value} (hlen : ∀ sig, parseMethodDescriptor y.desc = some sig → argsL.length = sig.parameters.length) (hW : (rest.map fun v => v.category).sum ≤ W) (hc : cells + rm.cells ≤ R.cells) (hs : slots + rm.slots ≤ R.slots) (M : Meets l z bytes maxL ret [] rm rm.cells rm.slots Z (.ref a :: argsL).toArray h n0 Q') (hst : st = argsL.reverse ++ .ref a :: rest) (hd : decode c.code pc = .ok (.invokevirtual index, 3))
    (k : ∀ v T' locs', Stand p l e R s m args below meth c T' locs' (cells + rm.cells) (slots + rm.slots) → Fr n0 locs' → Q' v T'.heap → Goes p e below FE n0 Q (T'.setTop (mkF m (pc + 3) Ls (v.toList ++ rest)))) : Goes p e below FE n0 Q (T.setTop (mkF m pc Ls st)) := by
  subst hst
  obtain ⟨cq, kq, qa, qb, qc⟩ := isOf hZ eT E
  obtain ⟨v, _, ⟨T', L', k', n'⟩, -, X', ⟨Lc, hQ, l1, l2, l3⟩, st'⟩ := X.virtualBack hx (y := y) (z := z) hown (mvT hZ w1) (mvT hZ w2) hnf (mvT hZ w5) (mvT hZ w6) hy (backOf (W := W) (Q := fun v h L => Fr n0 L ∧ Q' v h) M hZ w4 w3 hf hl) qa qc (g := mkF m pc Ls (argsL.reverse ++ .ref a :: rest)) rfl hsize (Steps.refl _) (argsL := argsL) (rest := rest) hlen rfl (by show 2 * 0 + _ ≤ _; omega) hd (fun _ _ => ⟨rfl, eT, hc, hs⟩)
  dsimp only [Pt.U, Pt.locs, Pt.cells, Pt.slots] at X' l1 l2 l3 st' hQ
  subst l1 l2 l3
  exact Goes.via (fun _ k => st'.trans k) (k v T' _ X' (Fr.app N hQ.1) hQ.2)
theorem own_private (X : Stand p l e R s m args below meth c T locs cells slots) (hx : p.tables.exec = Jvm.exec) (hZ : Z.Warmed39 s.vm) {own : String} {index : Nat} (hown : s.vm.findClass own = some m.cls) {y : MethodName} {bytes : ByteArray} {maxL : Nat} {ret : Option FieldType} {rm : Room} {W : Nat} {Q' : Option Value → Heap → Prop} (w1 : (Jvm.Cond.methodLink own index y).before a0 Z = true) (w2 : (Jvm.Cond.instanceMethod y).before a0 Z = true) {nn : Nat} (w5 : (Jvm.Cond.instantiable y.cls nn).before a0 Z = true) (w6 : (Jvm.Cond.privateMethod y).before a0 Z = true) (w3 : (Jvm.Cond.initialized y.cls).before a0 Z = true) (w4 : (Jvm.Cond.code y bytes maxL ret).before a0 Z = true) {a : Addr} {C : String} (E : Exa Z h a C) (hy : y.cls ≠ "java/lang/invoke/MethodHandle" ∧ y.cls ≠ "java/lang/invoke/VarHandle") (hf : rm.frames + 1 ≤ R.frames) (hl : W + (maxL + 11) + rm.locals ≤ R.locals) (N : Fr n0 locs) (eT : T.heap = h) (hsize : Ls.size = c.maxLocals) {argsL rest : List Value} (hlen : ∀ sig, parseMethodDescriptor y.desc = some sig → argsL.length = sig.parameters.length) (hW : (rest.map fun v => v.category).sum ≤ W) (hc : cells + rm.cells ≤ R.cells) (hs : slots + rm.slots ≤ R.slots) (M : Meets l y bytes maxL ret [] rm rm.cells rm.slots Z (.ref a :: argsL).toArray h n0 Q') (hst : st = argsL.reverse ++ .ref a :: rest) (hd : decode c.code pc = .ok (.invokevirtual index, 3))
    (k : ∀ v T' locs', Stand p l e R s m args below meth c T' locs' (cells + rm.cells) (slots + rm.slots) → Fr n0 locs' → Q' v T'.heap → Goes p e below FE n0 Q (T'.setTop (mkF m (pc + 3) Ls (v.toList ++ rest)))) : Goes p e below FE n0 Q (T.setTop (mkF m pc Ls st)) := by
  subst hst
  obtain ⟨cq, qa, qb⟩ := E.cell
  obtain ⟨v, _, ⟨T', L', k', n'⟩, -, X', ⟨Lc, hQ, l1, l2, l3⟩, st'⟩ := X.privateBack hx (y := y) hown (mvT hZ w1) (mvT hZ w2) (mvT hZ (own_selfsel w5 w2 w6 hy)) (Cond.privateMethod_at (mvP hZ w6 (args := #[]))) (mvT hZ w4) hy (backOf (W := W) (Q := fun v h L => Fr n0 L ∧ Q' v h) M hZ w4 w3 hf hl) (g := mkF m pc Ls (argsL.reverse ++ .ref a :: rest)) rfl hsize (Steps.refl _) (a := a) (by rw [eT]; exact qa) qb (argsL := argsL) (rest := rest) hlen rfl (by show 2 * 0 + _ ≤ _; omega) hd (fun _ _ => ⟨rfl, eT, hc, hs⟩)
  dsimp only [Pt.U, Pt.locs, Pt.cells, Pt.slots] at X' l1 l2 l3 st' hQ
  subst l1 l2 l3
  exact Goes.via (fun _ k => st'.trans k) (k v T' _ X' (Fr.app N hQ.1) hQ.2)
theorem own_virtualUp (X : Stand p l e R s m args below meth c T locs cells slots) (hx : p.tables.exec = Jvm.exec) (hZ : Z.Warmed39 s.vm) {own : String} {index : Nat} (hown : s.vm.findClass own = some m.cls) {y : MethodName} {bytes : ByteArray} {maxL : Nat} {ret : Option FieldType} {rm : Room} {W : Nat} {Q' : Option Value → Heap → Prop} {z : MethodName} {C owner : String} (w1 : (Jvm.Cond.methodLink own index y).before a0 Z = true) (w2 : (Jvm.Cond.sameMethod y.cls owner y.name y.desc).before a0 Z = true) (w7 : (Jvm.Cond.declares ⟨owner, y.name, y.desc⟩).before a0 Z = true) (w5 : (Jvm.Cond.selects C y z).before a0 Z = true) (w6 : (Jvm.Cond.instanceMethod z).before a0 Z = true) (w3 : (Jvm.Cond.initialized z.cls).before a0 Z = true) (w4 : (Jvm.Cond.code z bytes maxL ret).before a0 Z = true) {a : Addr} (E : Exa Z h a C) (hy : owner ≠ "java/lang/invoke/MethodHandle" ∧ owner ≠ "java/lang/invoke/VarHandle") (hf : rm.frames + 1 ≤ R.frames) (hl : W + (maxL + 11) + rm.locals ≤ R.locals) (N : Fr n0 locs) (eT : T.heap = h) (hsize : Ls.size = c.maxLocals) {argsL rest : List Value} (hlen : ∀ sig, parseMethodDescriptor y.desc = some sig → argsL.length = sig.parameters.length) (hW : (rest.map fun v => v.category).sum ≤ W) (hc : cells + rm.cells ≤ R.cells) (hs : slots + rm.slots ≤ R.slots) (M : Meets l z bytes maxL ret [] rm rm.cells rm.slots Z (.ref a :: argsL).toArray h n0 Q') (hst : st = argsL.reverse ++ .ref a :: rest) (hd : decode c.code pc = .ok (.invokevirtual index, 3))
    (k : ∀ v T' locs', Stand p l e R s m args below meth c T' locs' (cells + rm.cells) (slots + rm.slots) → Fr n0 locs' → Q' v T'.heap → Goes p e below FE n0 Q (T'.setTop (mkF m (pc + 3) Ls (v.toList ++ rest)))) : Goes p e below FE n0 Q (T.setTop (mkF m pc Ls st)) := by
  subst hst
  obtain ⟨cq, kq, qa, qb, qc⟩ := isOf hZ eT E
  obtain ⟨v, _, ⟨T', L', k', n'⟩, -, X', ⟨Lc, hQ, l1, l2, l3⟩, st'⟩ := X.virtualBackUp hx (x := y) (y := z) hown (mvT hZ w1) (mvT hZ w2) (mvT hZ w7 (by simp [Cond.onTables, Cond.keepsFace, Cond.keeps, Cond.steady, Cond.faceAtom, hy.1, hy.2])) hy (mvT hZ w5) (mvT hZ w6) (backOf (W := W) (Q := fun v h L => Fr n0 L ∧ Q' v h) M hZ w4 w3 hf hl) qa qc (g := mkF m pc Ls (argsL.reverse ++ .ref a :: rest)) rfl hsize (Steps.refl _) (argsL := argsL) (rest := rest) hlen rfl (by show 2 * 0 + _ ≤ _; omega) hd (fun _ _ => ⟨rfl, eT, hc, hs⟩)
  dsimp only [Pt.U, Pt.locs, Pt.cells, Pt.slots] at X' l1 l2 l3 st' hQ
  subst l1 l2 l3
  exact Goes.via (fun _ k => st'.trans k) (k v T' _ X' (Fr.app N hQ.1) hQ.2)
theorem own_iface (X : Stand p l e R s m args below meth c T locs cells slots) (hx : p.tables.exec = Jvm.exec) (hZ : Z.Warmed39 s.vm) {own : String} {index : Nat} (hown : s.vm.findClass own = some m.cls) {y : MethodName} {bytes : ByteArray} {maxL : Nat} {ret : Option FieldType} {rm : Room} {W : Nat} {Q' : Option Value → Heap → Prop} {z : MethodName} {C : String} {count : Nat} (w1 : (Jvm.Cond.methodLink own index y).before a0 Z = true) (w2 : (Jvm.Cond.declares y).before a0 Z = true) (w7 : (Jvm.Cond.interfaceMethod y.cls y.cls y.name y.desc).before a0 Z = true) (w5 : (Jvm.Cond.selects C y z).before a0 Z = true) (w6 : (Jvm.Cond.instanceMethod z).before a0 Z = true) (w8 : (Jvm.Cond.publicMethod z).before a0 Z = true) (w9 : (Jvm.Cond.unhidden C y.name y.desc).before a0 Z = true) (wc : (Jvm.Cond.castable C y.cls).before a0 Z = true) (w3 : (Jvm.Cond.initialized z.cls).before a0 Z = true) (w4 : (Jvm.Cond.code z bytes maxL ret).before a0 Z = true) {a : Addr} (E : Exa Z h a C) (hy : y.cls ≠ "java/lang/invoke/MethodHandle" ∧ y.cls ≠ "java/lang/invoke/VarHandle") (hf : rm.frames + 1 ≤ R.frames) (hl : W + (maxL + 11) + rm.locals ≤ R.locals) (N : Fr n0 locs) (eT : T.heap = h) (hsize : Ls.size = c.maxLocals) {argsL rest : List Value} (hlen : ∀ sig, parseMethodDescriptor y.desc = some sig → argsL.length = sig.parameters.length) (hW : (rest.map fun v => v.category).sum ≤ W) (hc : cells + rm.cells ≤ R.cells) (hs : slots + rm.slots ≤ R.slots) (M : Meets l z bytes maxL ret [] rm rm.cells rm.slots Z (.ref a :: argsL).toArray h n0 Q') (hst : st = argsL.reverse ++ .ref a :: rest) (hd : decode c.code pc = .ok (.invokeinterface index count, 5))
    (k : ∀ v T' locs', Stand p l e R s m args below meth c T' locs' (cells + rm.cells) (slots + rm.slots) → Fr n0 locs' → Q' v T'.heap → Goes p e below FE n0 Q (T'.setTop (mkF m (pc + 5) Ls (v.toList ++ rest)))) : Goes p e below FE n0 Q (T.setTop (mkF m pc Ls st)) := by
  subst hst
  obtain ⟨cq, kq, qa, qb, qc⟩ := isOf hZ eT E
  obtain ⟨v, _, ⟨T', L', k', n'⟩, -, X', ⟨Lc, hQ, l1, l2, l3⟩, st'⟩ := X.interfaceBack hx (xi := y) (y := z) hown (mvT hZ w1) (mvT hZ w2) (mvT hZ w7 (by simp [Cond.onTables, Cond.keepsFace, Cond.keeps, Cond.steady, Cond.faceAtom, hy.1, hy.2])) (mvT hZ w5) (mvT hZ w6) (mvT hZ w8) (mvT hZ w9) (mvT hZ wc) hy (backOf (W := W) (Q := fun v h L => Fr n0 L ∧ Q' v h) M hZ w4 w3 hf hl) qa qb qc (g := mkF m pc Ls (argsL.reverse ++ .ref a :: rest)) rfl hsize (Steps.refl _) (argsL := argsL) (rest := rest) hlen rfl (by show 2 * 0 + _ ≤ _; omega) hd (fun _ _ => ⟨rfl, eT, hc, hs⟩)
  dsimp only [Pt.U, Pt.locs, Pt.cells, Pt.slots] at X' l1 l2 l3 st' hQ
  subst l1 l2 l3
  exact Goes.via (fun _ k => st'.trans k) (k v T' _ X' (Fr.app N hQ.1) hQ.2)
theorem own_gcls (X : Stand p l e R s m args below meth c T locs cells slots) (hx : p.tables.exec = Jvm.exec) (hZ : Z.Warmed39 s.vm) {own : String} {index : Nat} (hown : s.vm.findClass own = some m.cls) {C : String} (w1 : (Jvm.Cond.methodLink own index ⟨"java/lang/Object", "getClass", "()Ljava/lang/Class;"⟩).before a0 Z = true) (w2 : (Jvm.Cond.declares ⟨"java/lang/Object", "getClass", "()Ljava/lang/Class;"⟩).before a0 Z = true) (w3 : (Jvm.Cond.noSuperclass "java/lang/Object").before a0 Z = true) (w4 : (Jvm.Cond.selects C ⟨"java/lang/Object", "getClass", "()Ljava/lang/Class;"⟩ ⟨"java/lang/Object", "getClass", "()Ljava/lang/Class;"⟩).before a0 Z = true) (w5 : (Jvm.Cond.instanceMethod ⟨"java/lang/Object", "getClass", "()Ljava/lang/Class;"⟩).before a0 Z = true) (w6 : (Jvm.Cond.native ⟨"java/lang/Object", "getClass", "()Ljava/lang/Class;"⟩).before a0 Z = true) (eT : T.heap = h) {a mr : Addr} (E : Exa Z h a C) (M : ∃ (c : ClassId) (k : Class), Z.vm.findClass C = some c ∧ Z.vm.classes[c]? = some k ∧ k.mirror = some mr) (hsize : Ls.size = c.maxLocals) (hd : decode c.code pc = .ok (.invokevirtual index, 3)) (hf : 1 ≤ R.frames) {W : Nat} (hW : (st.map fun v => v.category).sum ≤ W) (hl : W + 14 ≤ R.locals)
    (k : ∀ T', Stand p l e R s m args below meth c T' locs cells slots → T'.heap = h → Goes p e below FE n0 Q (T'.setTop (mkF m (pc + 3) Ls (.ref mr :: st)))) : Goes p e below FE n0 Q (T.setTop (mkF m pc Ls (.ref a :: st))) := by
  obtain ⟨cB, kB, i1, i2, i3⟩ := isOf hZ eT E
  obtain ⟨cc, kc, m1, m2, m3⟩ := M
  rw [hZ.alike.findClass] at i1
  cases i1.symm.trans m1
  obtain ⟨k', q, ek⟩ := hZ.alike.2.2 _ _ m2
  obtain ⟨vm', X', st'⟩ := X.getClassOf hx hown (mvT hZ w1) (mvT hZ w2) (nf_top (args := #[]) (mvT hZ w3)) (mvT hZ w4) (mvT hZ w5) (mvT hZ w6) (by rw [hZ.alike.findClass]; exact m1) i3 q (by rw [ek]; exact m3) (g := mkF m pc Ls (.ref a :: st)) rfl hsize rfl hd hf (by show 2 * 0 + _ + (1 + 2 + 11) ≤ _; omega)
  exact Goes.via st' (k _ X' eT)
theorem own_ldcMir (X : Stand p l e R s m args below meth c T locs cells slots) (hx : p.tables.exec = Jvm.exec) (hZ : Z.Warmed39 s.vm) {own : String} {index : Nat} (hown : s.vm.findClass own = some m.cls) {C : String} (w : (Jvm.Cond.classLink own index C).before a0 Z = true) (eT : T.heap = h) {mr : Addr} (M : ∃ (c : ClassId) (k : Class), Z.vm.findClass C = some c ∧ Z.vm.classes[c]? = some k ∧ k.mirror = some mr) (hd : decode c.code pc = .ok (.ldc index, 2))
    (k : ∀ T', Stand p l e R s m args below meth c T' locs cells slots → T'.heap = h → Goes p e below FE n0 Q (T'.setTop (mkF m (pc + 2) Ls (.ref mr :: st)))) : Goes p e below FE n0 Q (T.setTop (mkF m pc Ls st)) := by
  obtain ⟨cc, kc, m1, m2, m3⟩ := M
  obtain ⟨k', q, ek⟩ := hZ.alike.2.2 _ _ m2
  have hf' : s.vm.findClass C = some cc := by rw [hZ.alike.findClass]; exact m1
  obtain ⟨vm', X', st'⟩ := X.ldcMirror hx hown (mv hZ w) (a := mr) (by
    have hm : k'.mirror = some mr := by first | (rw [ek]; exact m3) | (rw [← ek]; exact m3) | (have := congrArg Class.mirror ek; simp at this; rw [← this]; exact m3) | (have := congrArg Class.mirror ek; simp at this; rw [this]; exact m3)
    show ((s.vm.findClass C).bind fun c => (s.vm.classes[c]?).bind fun k => k.mirror.bind fun a => some (Value.ref a)) = some (.ref mr)
    rw [hf']
    show ((s.vm.classes[cc]?).bind fun k => k.mirror.bind fun a => some (Value.ref a)) = some (.ref mr)
    rw [q]
    show (k'.mirror.bind fun a => some (Value.ref a)) = some (.ref mr)
    rw [hm]
    rfl) (g := mkF m pc Ls st) rfl hd
  exact Goes.via st' (k _ X' eT)
theorem own_cpA (X : Stand p l e R s m args below meth c T locs cells slots) (hx : p.tables.exec = Jvm.exec) (hZ : Z.Warmed39 s.vm) {own : String} {index : Nat} (hown : s.vm.findClass own = some m.cls) (w1 : (Jvm.Cond.methodLink own index Jvm.Stand.acN).before a0 Z = true) (w2 : (Jvm.Cond.native Jvm.Stand.acN).before a0 Z = true) (w3 : (Jvm.Cond.static Jvm.Stand.acN).before a0 Z = true) (w4 : (Jvm.Cond.initialized "java/lang/System").before a0 Z = true) (eT : T.heap = h) {a b : Addr} {k k' : ClassId} {ty ty' : FieldType} {z z' sp dp nn : Int32} {vs vd us vr : List Value} {dv dd : Value} (A : Arv Z h a k ty z vs dv) (B : Arv Z h b k' ty' z' vd dd) (hty : (ty = ty' ∧ refKind ty = false) ∨ (refKind ty = true ∧ refKind ty' = true ∧ StoL Z h b us)) (h1 : ¬ sp < 0) (h2 : ¬ dp < 0) (h3 : ¬ nn < 0) (h4 : sp.toNatClampNeg + nn.toNatClampNeg ≤ z.toNatClampNeg) (h5 : dp.toNatClampNeg + nn.toNatClampNeg ≤ z'.toNatClampNeg) (hus : us = (List.range nn.toNatClampNeg).map fun i => vs.getD (sp.toNatClampNeg + i) dv) (hl : dp.toNatClampNeg + nn.toNatClampNeg ≤ vd.length) (hvr : vd.take dp.toNatClampNeg ++ us ++ vd.drop (dp.toNatClampNeg + nn.toNatClampNeg) = vr) (N : Fr n0 locs) (ge : n0 ≤ b) (hsize : Ls.size = c.maxLocals) (hd : decode c.code pc = .ok (.invokestatic index, 3)) (hf : 1 ≤ R.frames) {W : Nat} (hW : (st.map fun v => v.category).sum ≤ W) (hlo : W + 18 ≤ R.locals)
    (k : ∀ T' h' locs', Stand p l e R s m args below meth c T' locs' cells slots → T'.heap = h' → Fr n0 locs' → Keep h h' [b] → Arv Z h' b k' ty' z' vr dd → Goes p e below FE n0 Q (T'.setTop (mkF m (pc + 3) Ls st))) : Goes p e below FE n0 Q (T.setTop (mkF m pc Ls (.int nn :: .int dp :: .ref b :: .int sp :: .ref a :: st))) := by
  subst hvr
  obtain ⟨T', h', L, X', e', N', K', V', st'⟩ := cpA X hx hZ hown w1 w2 w3 w4 eT A B hty h1 h2 h3 h4 h5 hus hl N ge (g := mkF m pc Ls (.int nn :: .int dp :: .ref b :: .int sp :: .ref a :: st)) rfl hsize rfl hd hf (W := W) (by show 2 * 0 + _ ≤ _; omega) hlo
  exact Goes.via st' (k T' h' L X' e' N' K' V')
theorem own_retN (X : Stand p l e R s m args below meth c T locs cells slots) (hx : p.tables.exec = Jvm.exec) {t : FieldType} {z : Int32} (N : Fr n0 locs) (hlk : meth.locks = false) (hc : cells ≤ kc) (hs : slots ≤ ks) (hret : meth.sig.returnType = some t) (ht : t = .boolean ∨ t = .byte ∨ t = .char ∨ t = .short) (hd : decode c.code pc = .ok (.ireturn, 1)) (hq : Q (some (.int (nar t z))) T.heap) : Goes p e below (fun o t L => FrameEnd s o t L kc ks) n0 Q (T.setTop (mkF m pc Ls (.int z :: st))) :=
  Goes.ret X N hlk (fun h => by rw [hret] at h; cases h) hc hs hq (fun fs hr => retN X hx hret ht hd hr)
theorem own_retI (X : Stand p l e R s m args below meth c T locs cells slots) (hx : p.tables.exec = Jvm.exec) {z : Int32} (N : Fr n0 locs) (hlk : meth.locks = false) (hc : cells ≤ kc) (hs : slots ≤ ks) (hret : meth.sig.returnType = some .int) (hd : decode c.code pc = .ok (.ireturn, 1)) (hq : Q (some (.int z)) T.heap) : Goes p e below (fun o t L => FrameEnd s o t L kc ks) n0 Q (T.setTop (mkF m pc Ls (.int z :: st))) :=
  Goes.ret X N hlk (fun h => by rw [hret] at h; cases h) hc hs hq (fun fs hr => retOut X hx hret rfl (Or.inl ⟨rfl, Or.inl rfl, _, rfl⟩) hd hr)
theorem own_retJ (X : Stand p l e R s m args below meth c T locs cells slots) (hx : p.tables.exec = Jvm.exec) {z : Int64} (N : Fr n0 locs) (hlk : meth.locks = false) (hc : cells ≤ kc) (hs : slots ≤ ks) (hret : meth.sig.returnType = some .long) (hd : decode c.code pc = .ok (.lreturn, 1)) (hq : Q (some (.long z)) T.heap) : Goes p e below (fun o t L => FrameEnd s o t L kc ks) n0 Q (T.setTop (mkF m pc Ls (.long z :: st))) :=
  Goes.ret X N hlk (fun h => by rw [hret] at h; cases h) hc hs hq (fun fs hr => retOut X hx hret rfl (Or.inr (Or.inl ⟨rfl, rfl, _, rfl⟩)) hd hr)
theorem own_retR (X : Stand p l e R s m args below meth c T locs cells slots) (hx : p.tables.exec = Jvm.exec) {v : Value} {t : FieldType} (N : Fr n0 locs) (hlk : meth.locks = false) (hc : cells ≤ kc) (hs : slots ≤ ks) (hret : meth.sig.returnType = some t) (ht : t.isReference = true) (hv : v.isRef = true) (hn : narrow t v = v) (hd : decode c.code pc = .ok (.areturn, 1)) (hq : Q (some v) T.heap) : Goes p e below (fun o t L => FrameEnd s o t L kc ks) n0 Q (T.setTop (mkF m pc Ls (v :: st))) :=
  Goes.ret X N hlk (fun h => by rw [hret] at h; cases h) hc hs hq (fun fs hr => retOut X hx hret hn (Or.inr (Or.inr (Or.inr (Or.inr ⟨rfl, ht, hv⟩)))) hd hr)
theorem own_retV (X : Stand p l e R s m args below meth c T locs cells slots) (hx : p.tables.exec = Jvm.exec) (N : Fr n0 locs) (hlk : meth.locks = false) (hc : cells ≤ kc) (hs : slots ≤ ks) (hret : meth.sig.returnType = none) (hd : decode c.code pc = .ok (.return_, 1)) (hq : Q none T.heap) : Goes p e below (fun o t L => FrameEnd s o t L kc ks) n0 Q (T.setTop (mkF m pc Ls [])) :=
  Goes.ret X N hlk (fun _ => rfl) hc hs hq (fun fs hr => X.returnOut hx hret hd hr)
theorem own_bz {P : Prop} [Decidable P] (h : ¬ P) : (if P then (1 : Int32) else (0 : Int32)) = (0 : Int32) := if_neg h
theorem own_bnz {P : Prop} [Decidable P] (h : ¬ ¬ P) : ¬ ((if P then (1 : Int32) else (0 : Int32)) = (0 : Int32)) := by rw [if_pos (Classical.not_not.mp h)]; decide
theorem own_nb (P : Prop) [Decidable P] : narrow .boolean (.int (if P then (1 : Int32) else (0 : Int32))) = (.int (if P then (1 : Int32) else (0 : Int32))) ∧ fits .boolean (.int (if P then (1 : Int32) else (0 : Int32))) = true := by
  by_cases h : P
  · rw [if_pos h]; exact ⟨rfl, rfl⟩
  · rw [if_neg h]; exact ⟨rfl, rfl⟩
theorem own_narb (P : Prop) [Decidable P] : nar .boolean (if P then (1 : Int32) else (0 : Int32)) = (if P then (1 : Int32) else (0 : Int32)) := by
  by_cases h : P
  · rw [if_pos h]; rfl
  · rw [if_neg h]; rfl
theorem own_eq {args : Array Value} {s s' : State} {o : Option Outcome} {idx : List Nat} {a b : Term} {v : Value} (h : (Jvm.Cond.eq a b).value args s o s' idx = some true) (hb : b.eval args s o idx s' = some v) : a.eval args s o idx s' = some v := by
  simp only [Cond.value, hb] at h
  cases ha : a.eval args s o idx s' with
  | none => simp [ha] at h
  | some w => rw [ha] at h; cases w <;> cases v <;> simp_all
theorem own_len {args : Array Value} {t : Term} {a : Addr} {cl : Cell} {ty : FieldType} {z : Int32} (ev : t.eval args Z none [] Z = some (.ref a)) (A : Arr Z Z.heap a cl ty) (hl : (Term.length t).eval args Z none [] Z = some (.int z)) : cl.slots.size < 2 ^ 31 ∧ cl.slots.size.toInt32 = z := by
  have ha : Z.arrayAt? a = some cl := A.fin (Vm.Alike.refl _)
  by_cases q : cl.slots.size < 2 ^ 31
  · have h2 := (len_f ev ha q).symm.trans hl
    exact ⟨q, by cases h2; rfl⟩
  · simp [Term.eval, ev, ha, q] at hl
theorem own_arr {args : Array Value} {t : Term} {a : Addr} {cl : Cell} {ty : FieldType} {z : Int32} {vs : List Value} {dv : Value} (hf : Fit Z) (ev : t.eval args Z none [] Z = some (.ref a)) (A : Arr Z Z.heap a cl ty) (hl : (Term.length t).eval args Z none [] Z = some (.int z)) (hz : ¬ z < 0) (hn : z.toNatClampNeg = vs.length) (H : HasL cl 0 vs) : Arv Z Z.heap a cl.cls ty z vs dv :=
  Arv.start hf A (own_len ev A hl).1 (own_len ev A hl).2 hz hn H
theorem own_fold {f : Nat → Option Bool} : ∀ (L : List Nat) (acc : Option Bool), L.foldl (fun acc i => match acc with | some true => f i | x => x) acc = some true → acc = some true ∧ ∀ i ∈ L, f i = some true
  | [], acc, h => ⟨h, fun _ q => nomatch q⟩
  | i :: L, acc, h => by
    obtain ⟨h1, h2⟩ := own_fold L _ h
    have h3 : acc = some true := by rcases acc with _ | (_ | _) <;> simp_all
    subst h3
    exact ⟨rfl, fun j hj => by rcases List.mem_cons.mp hj with rfl | q; exact h1; exact h2 j q⟩
theorem own_all {args : Array Value} {first s : State} {o : Option Outcome} {idx : List Nat} {t : Term} {c : Jvm.Cond} {a : Addr} {cell : Cell} (h : (Jvm.Cond.all t c).value args first o s idx = some true) (ev : t.eval args first o idx s = some (.ref a)) (ha : s.arrayAt? a = some cell) : ∀ i, i < cell.slots.size → c.value args first o s (i :: idx) = some true := by
  intro i hi
  simp only [Cond.value, ev, ha] at h
  exact (own_fold _ _ h).2 i (List.mem_range.mpr hi)
theorem own_exaI {args : Array Value} {t : Term} {C : String} {idx : List Nat} (h : (Jvm.Cond.exactly t C).value args Z none Z idx = some true) : ∃ b, t.eval args Z none idx Z = some (.ref b) ∧ Exa Z Z.heap b C := by
  obtain ⟨a, c, cell, k, e1, e2, e3, e4, e5, e6, e7⟩ := Cond.exactly_spec (beq_iff_eq.mpr h : (Jvm.Cond.exactly t C).holds args Z none Z idx = true)
  subst e6
  exact ⟨a, e1, cell, k, e3, e2, e4, e5, e7⟩
theorem own_NSroot {O K : String} {nn : Nat} (w : (Jvm.Cond.noSuperclass O).before a0 Z = true) (wi : (Jvm.Cond.instantiable K nn).before a0 Z = true) (hn : O ≠ K) : NS Z O K := by
  obtain ⟨c, k, h1, h2, h3, -, -⟩ := Cond.noSuperclass_spec w
  obtain ⟨t, kt, g1, -⟩ := Cond.instantiable_spec wi
  have ne := ids_ne h1 g1 hn
  refine ⟨c, t, h1, g1, fun fuel => ?_⟩
  cases fuel with
  | zero => rfl
  | succ f => simp [Vm.isSubclassAux, ne, h2, h3]
theorem own_NSno {C S K : String} {nn : Nat} (w : (Jvm.Cond.superclass C S).before a0 Z = true) (wi : (Jvm.Cond.instantiable K nn).before a0 Z = true) (n : NS Z C K) (hn : C ≠ K) : ∃ c t, Z.vm.findClass C = some c ∧ Z.vm.findClass K = some t ∧ Z.vm.assignable c t = false := by
  obtain ⟨c, t, h0, g0, n3⟩ := n
  obtain ⟨p, k, kp, h1, h2, h3, h4, h5, -, h7⟩ := Cond.superclass_spec h0 w
  obtain ⟨t', k', g1, g2, g5, g7, -⟩ := Cond.instantiable_spec wi
  cases g0.symm.trans g1
  rw [Bool.or_eq_false_iff] at g7
  have ne := ids_ne h0 g0 hn
  refine ⟨c, t, h0, g0, ?_⟩
  show Z.vm.assignableAux (255 + 1) c t = false
  simp [Vm.assignableAux, ne, h2, g2, h5, g5, g7.1, Vm.isSubclass, n3]
end OwnKit
def Start (Z : State) (w__VALUES : Addr) (w_SUCCESS : Addr) (w_FAILURE : Addr) (w_TIMEOUT : Addr) (w_REJECTED : Addr) (w_SHORT_CIRCUITED : Addr) (k_w__VALUES : ClassId) : Prop :=
  Sta Z Z.heap "com/example/fuseline/fuseline/OutcomeKind" "$VALUES" "[Lcom/example/fuseline/fuseline/OutcomeKind;" (.ref w__VALUES) ∧
  Exa Z Z.heap w__VALUES "[Lcom/example/fuseline/fuseline/OutcomeKind;" ∧
  Sta Z Z.heap "com/example/fuseline/fuseline/OutcomeKind" "SUCCESS" "Lcom/example/fuseline/fuseline/OutcomeKind;" (.ref w_SUCCESS) ∧
  Exa Z Z.heap w_SUCCESS "com/example/fuseline/fuseline/OutcomeKind" ∧
  Sta Z Z.heap "com/example/fuseline/fuseline/OutcomeKind" "FAILURE" "Lcom/example/fuseline/fuseline/OutcomeKind;" (.ref w_FAILURE) ∧
  Exa Z Z.heap w_FAILURE "com/example/fuseline/fuseline/OutcomeKind" ∧
  Sta Z Z.heap "com/example/fuseline/fuseline/OutcomeKind" "TIMEOUT" "Lcom/example/fuseline/fuseline/OutcomeKind;" (.ref w_TIMEOUT) ∧
  Exa Z Z.heap w_TIMEOUT "com/example/fuseline/fuseline/OutcomeKind" ∧
  Sta Z Z.heap "com/example/fuseline/fuseline/OutcomeKind" "REJECTED" "Lcom/example/fuseline/fuseline/OutcomeKind;" (.ref w_REJECTED) ∧
  Exa Z Z.heap w_REJECTED "com/example/fuseline/fuseline/OutcomeKind" ∧
  Sta Z Z.heap "com/example/fuseline/fuseline/OutcomeKind" "SHORT_CIRCUITED" "Lcom/example/fuseline/fuseline/OutcomeKind;" (.ref w_SHORT_CIRCUITED) ∧
  Exa Z Z.heap w_SHORT_CIRCUITED "com/example/fuseline/fuseline/OutcomeKind" ∧
  Arv Z Z.heap w__VALUES k_w__VALUES (.object "com/example/fuseline/fuseline/OutcomeKind") (5 : Int32) [(.ref w_SUCCESS), (.ref w_FAILURE), (.ref w_TIMEOUT), (.ref w_REJECTED), (.ref w_SHORT_CIRCUITED)] .null ∧
  Fld Z Z.heap w_SUCCESS "com/example/fuseline/fuseline/OutcomeKind" "counted" "Z" (.int (1 : Int32)) ∧
  Fld Z Z.heap w_SUCCESS "java/lang/Enum" "ordinal" "I" (.int (0 : Int32)) ∧
  Fld Z Z.heap w_SUCCESS "com/example/fuseline/fuseline/OutcomeKind" "error" "Z" (.int (0 : Int32)) ∧
  Fld Z Z.heap w_FAILURE "com/example/fuseline/fuseline/OutcomeKind" "counted" "Z" (.int (1 : Int32)) ∧
  Fld Z Z.heap w_FAILURE "java/lang/Enum" "ordinal" "I" (.int (1 : Int32)) ∧
  Fld Z Z.heap w_FAILURE "com/example/fuseline/fuseline/OutcomeKind" "error" "Z" (.int (1 : Int32)) ∧
  Fld Z Z.heap w_TIMEOUT "com/example/fuseline/fuseline/OutcomeKind" "counted" "Z" (.int (1 : Int32)) ∧
  Fld Z Z.heap w_TIMEOUT "java/lang/Enum" "ordinal" "I" (.int (2 : Int32)) ∧
  Fld Z Z.heap w_TIMEOUT "com/example/fuseline/fuseline/OutcomeKind" "error" "Z" (.int (1 : Int32)) ∧
  Fld Z Z.heap w_REJECTED "com/example/fuseline/fuseline/OutcomeKind" "counted" "Z" (.int (1 : Int32)) ∧
  Fld Z Z.heap w_REJECTED "java/lang/Enum" "ordinal" "I" (.int (3 : Int32)) ∧
  Fld Z Z.heap w_REJECTED "com/example/fuseline/fuseline/OutcomeKind" "error" "Z" (.int (1 : Int32)) ∧
  Fld Z Z.heap w_SHORT_CIRCUITED "com/example/fuseline/fuseline/OutcomeKind" "counted" "Z" (.int (0 : Int32)) ∧
  Fld Z Z.heap w_SHORT_CIRCUITED "com/example/fuseline/fuseline/OutcomeKind" "error" "Z" (.int (0 : Int32)) ∧
  Fld Z Z.heap w_SHORT_CIRCUITED "java/lang/Enum" "ordinal" "I" (.int (4 : Int32)) ∧
  True
theorem d3_0 : decode prog_21_method_1_code 0 = .ok (.getstatic 19, 3) := by decide +kernel
theorem d3_3 : decode prog_21_method_1_code 3 = .ok (.invokevirtual 23, 3) := by decide +kernel
theorem d3_6 : decode prog_21_method_1_code 6 = .ok (.checkcast 24, 3) := by decide +kernel
theorem d3_9 : decode prog_21_method_1_code 9 = .ok (.areturn, 1) := by decide +kernel
theorem pn_0 : plainName "com/example/fuseline/fuseline/OutcomeKind" = true := by first | (simp [plainName, overriddenIn]; done) | decide +kernel
def Q3 (Z : State) (w__VALUES : Addr) (w_SUCCESS : Addr) (w_FAILURE : Addr) (w_TIMEOUT : Addr) (w_REJECTED : Addr) (w_SHORT_CIRCUITED : Addr) (k_w__VALUES : ClassId) (h0 : Heap) (n0 : Nat) (v : Option Value) (h : Heap) : Prop :=
  (∃ (b : Addr), v = some (.ref b) ∧ Keep h0 h [] ∧ Exa Z h b "[Lcom/example/fuseline/fuseline/OutcomeKind;" ∧ Arv Z h b k_w__VALUES (.object "com/example/fuseline/fuseline/OutcomeKind") (5 : Int32) [(.ref w_SUCCESS), (.ref w_FAILURE), (.ref w_TIMEOUT), (.ref w_REJECTED), (.ref w_SHORT_CIRCUITED)] .null ∧ h0.size ≤ b)
theorem ef_3 (m : MethodId) : entryFrame m #[] 0 = mkF m 0 #[] [] := by first | (simp [entryFrame, mkF, argsToLocals, Value.category]; done) | rfl
set_option maxRecDepth 65536 in
set_option maxHeartbeats 40000000 in
theorem rm3 (l : Launch) (Z : State) (a0 : Array Value) (hw : ∀ d ∈ tables_1, d.before a0 Z = true) (ws : List Jvm.Cond) (w__VALUES : Addr) (w_SUCCESS : Addr) (w_FAILURE : Addr) (w_TIMEOUT : Addr) (w_REJECTED : Addr) (w_SHORT_CIRCUITED : Addr) (k_w__VALUES : ClassId) (h0 : Heap) (n0 : Nat) (O0 : Old Z n0 h0) (SF : Start Z w__VALUES w_SUCCESS w_FAILURE w_TIMEOUT w_REJECTED w_SHORT_CIRCUITED k_w__VALUES) :
    Meets l (⟨"com/example/fuseline/fuseline/OutcomeKind", "values", "()[Lcom/example/fuseline/fuseline/OutcomeKind;"⟩ : MethodName) prog_21_method_1_code 0 (some (.array (.object "com/example/fuseline/fuseline/OutcomeKind"))) ws ({ frames := 1, cells := 1, slots := 5, locals := 14 } : Room) ({ frames := 1, cells := 1, slots := 5, locals := 14 } : Room).cells ({ frames := 1, cells := 1, slots := 5, locals := 14 } : Room).slots Z #[] h0 n0 (Q3 Z w__VALUES w_SUCCESS w_FAILURE w_TIMEOUT w_REJECTED w_SHORT_CIRCUITED k_w__VALUES h0 n0) := by
  refine Meets.of (F := fun m => mkF m 0 #[] []) (plainFor_of_name pn_0) (fun m => ef_3 m) ?_
  intro p e s m below meth c T0 hx hby hml hown0 hnm hret hlk hZ X0 e0
  have hown : s.vm.findClass "com/example/fuseline/fuseline/OutcomeKind" = some m.cls := hown0
  have N0 := Fr.nil n0
  have KC0 := Keep.refl h0 []
  obtain ⟨z0, z1, z2, z3, z4, z5, z6, z7, z8, z9, z10, z11, z12, z13, z14, z15, z16, z17, z18, z19, z20, z21, z22, z23, z24, z25, z26, z27, -⟩ := SF
  show Goes _ _ _ _ _ _ (T0.setTop (mkF m 0 #[] []))
  refine own_getS X0 hx hZ hown (host := "") (Or.inl (hw _ (List.mem_of_getElem? (i := 18) rfl))) Via.refl e0 (z0.ext O0.2) (hb hby d3_0) (fun T1 X1 e1 => ?_)
  show Goes _ _ _ _ _ _ (T1.setTop (mkF m 3 #[] [(.ref w__VALUES)]))
  refine own_clone X1 hx hZ hown (hw _ (List.mem_of_getElem? (i := 20) rfl)) (hw _ (List.mem_of_getElem? (i := 21) rfl)) (hw _ (List.mem_of_getElem? (i := 25) rfl)) (hw _ (List.mem_of_getElem? (i := 23) rfl)) (hw _ (List.mem_of_getElem? (i := 24) rfl)) (hw _ (List.mem_of_getElem? (i := 26) rfl)) e1 (z12.ext O0.2) (z1.ext O0.2) (by rw [hml]; rfl) (hb hby d3_3) (by decide) (W := 0) (cap := 5) (Nat.le_of_eq rfl) (by decide) (by decide) (by decide) (by decide) (fun T2 h2 b2 g2 X2 e2 E2 V2 A2 => ?_)
  have ge_b2 : n0 ≤ b2 := Nat.le_trans (own_sz O0) (Nat.le_of_eq g2.symm)
  have sz_b2 : h0.size ≤ b2 := Nat.le_trans KC0.1 (Nat.le_of_eq g2.symm)
  have O3 := O0.ext E2
  have KC3 := KC0.ext E2
  show Goes _ _ _ _ _ _ (T2.setTop (mkF m 6 #[] [(.ref b2)]))
  refine own_castY X2 hx hZ hown (hw _ (List.mem_of_getElem? (i := 33) rfl)) e2 (Ins.self A2) (hb hby d3_6) (fun T4 X4 e4 => ?_)
  show Goes _ _ _ _ _ _ (T4.setTop (mkF m 9 #[] [(.ref b2)]))
  exact own_retR X4 hx N0 hlk (by decide) (by decide) hret rfl rfl rfl (hb hby d3_9) (by rw [e4]; exact ⟨b2, rfl, KC3, A2, V2, sz_b2⟩)
theorem d4_0 : decode prog_21_method_4_code 0 = .ok (.aload_n 0, 1) := by decide +kernel
theorem d4_1 : decode prog_21_method_4_code 1 = .ok (.getfield 38, 3) := by decide +kernel
theorem d4_4 : decode prog_21_method_4_code 4 = .ok (.ireturn, 1) := by decide +kernel
def Q40 (Z : State) (a1 : Addr) (h0 : Heap) (n0 : Nat) (v : Option Value) (h : Heap) : Prop :=
  (v = some (.int (0 : Int32)) ∧ h = h0)
theorem ef_40 (m : MethodId) (a1 : Addr) : entryFrame m #[(.ref a1)] 1 = mkF m 0 #[.val (.ref a1)] [] := by first | (simp [entryFrame, mkF, argsToLocals, Value.category]; done) | rfl
set_option maxRecDepth 65536 in
set_option maxHeartbeats 40000000 in
theorem rm40 (l : Launch) (Z : State) (a0 : Array Value) (hw : ∀ d ∈ tables_1, d.before a0 Z = true) (ws : List Jvm.Cond) (a1 : Addr) (h0 : Heap) (n0 : Nat) (O0 : Old Z n0 h0) (f0 : Fld Z h0 a1 "com/example/fuseline/fuseline/OutcomeKind" "counted" "Z" (.int (0 : Int32))) :
    Meets l (⟨"com/example/fuseline/fuseline/OutcomeKind", "isCounted", "()Z"⟩ : MethodName) prog_21_method_4_code 1 (some .boolean) ws ({ frames := 0, cells := 0, slots := 0, locals := 0 } : Room) ({ frames := 0, cells := 0, slots := 0, locals := 0 } : Room).cells ({ frames := 0, cells := 0, slots := 0, locals := 0 } : Room).slots Z #[(.ref a1)] h0 n0 (Q40 Z a1 h0 n0) := by
  refine Meets.of (F := fun m => mkF m 0 #[.val (.ref a1)] []) (plainFor_of_name pn_0) (fun m => ef_40 m a1) ?_
  intro p e s m below meth c T0 hx hby hml hown0 hnm hret hlk hZ X0 e0
  have hown : s.vm.findClass "com/example/fuseline/fuseline/OutcomeKind" = some m.cls := hown0
  have N0 := Fr.nil n0
  show Goes _ _ _ _ _ _ (T0.setTop (mkF m 0 #[.val (.ref a1)] []))
  refine own_aloadN X0 hx (hb hby d4_0) rfl rfl ?_
  show Goes _ _ _ _ _ _ (T0.setTop (mkF m 1 #[.val (.ref a1)] [(.ref a1)]))
  refine own_getF X0 hx hZ hown (host := "") (Or.inl (hw _ (List.mem_of_getElem? (i := 40) rfl))) Via.refl e0 f0 (hb hby d4_1) (fun T1 X1 e1 => ?_)
  show Goes _ _ _ _ _ _ (T1.setTop (mkF m 4 #[.val (.ref a1)] [(.int (0 : Int32))]))
  exact own_retN X1 hx (t := .boolean) N0 hlk (by decide) (by decide) hret (by simp) (hb hby d4_4) (by rw [e1]; exact ⟨rfl, rfl⟩)
def Q41 (Z : State) (a1 : Addr) (h0 : Heap) (n0 : Nat) (v : Option Value) (h : Heap) : Prop :=
  (v = some (.int (1 : Int32)) ∧ h = h0)
theorem ef_41 (m : MethodId) (a1 : Addr) : entryFrame m #[(.ref a1)] 1 = mkF m 0 #[.val (.ref a1)] [] := by first | (simp [entryFrame, mkF, argsToLocals, Value.category]; done) | rfl
set_option maxRecDepth 65536 in
set_option maxHeartbeats 40000000 in
theorem rm41 (l : Launch) (Z : State) (a0 : Array Value) (hw : ∀ d ∈ tables_1, d.before a0 Z = true) (ws : List Jvm.Cond) (a1 : Addr) (h0 : Heap) (n0 : Nat) (O0 : Old Z n0 h0) (f0 : Fld Z h0 a1 "com/example/fuseline/fuseline/OutcomeKind" "counted" "Z" (.int (1 : Int32))) :
    Meets l (⟨"com/example/fuseline/fuseline/OutcomeKind", "isCounted", "()Z"⟩ : MethodName) prog_21_method_4_code 1 (some .boolean) ws ({ frames := 0, cells := 0, slots := 0, locals := 0 } : Room) ({ frames := 0, cells := 0, slots := 0, locals := 0 } : Room).cells ({ frames := 0, cells := 0, slots := 0, locals := 0 } : Room).slots Z #[(.ref a1)] h0 n0 (Q41 Z a1 h0 n0) := by
  refine Meets.of (F := fun m => mkF m 0 #[.val (.ref a1)] []) (plainFor_of_name pn_0) (fun m => ef_41 m a1) ?_
  intro p e s m below meth c T0 hx hby hml hown0 hnm hret hlk hZ X0 e0
  have hown : s.vm.findClass "com/example/fuseline/fuseline/OutcomeKind" = some m.cls := hown0
  have N0 := Fr.nil n0
  show Goes _ _ _ _ _ _ (T0.setTop (mkF m 0 #[.val (.ref a1)] []))
  refine own_aloadN X0 hx (hb hby d4_0) rfl rfl ?_
  show Goes _ _ _ _ _ _ (T0.setTop (mkF m 1 #[.val (.ref a1)] [(.ref a1)]))
  refine own_getF X0 hx hZ hown (host := "") (Or.inl (hw _ (List.mem_of_getElem? (i := 40) rfl))) Via.refl e0 f0 (hb hby d4_1) (fun T1 X1 e1 => ?_)
  show Goes _ _ _ _ _ _ (T1.setTop (mkF m 4 #[.val (.ref a1)] [(.int (1 : Int32))]))
  exact own_retN X1 hx (t := .boolean) N0 hlk (by decide) (by decide) hret (by simp) (hb hby d4_4) (by rw [e1]; exact ⟨rfl, rfl⟩)
theorem d6_0 : decode prog_21_method_5_code 0 = .ok (.aload_n 0, 1) := by decide +kernel
theorem d6_1 : decode prog_21_method_5_code 1 = .ok (.getfield 42, 3) := by decide +kernel
theorem d6_4 : decode prog_21_method_5_code 4 = .ok (.ireturn, 1) := by decide +kernel
def Q60 (Z : State) (a1 : Addr) (h0 : Heap) (n0 : Nat) (v : Option Value) (h : Heap) : Prop :=
  (v = some (.int (0 : Int32)) ∧ h = h0)
theorem ef_60 (m : MethodId) (a1 : Addr) : entryFrame m #[(.ref a1)] 1 = mkF m 0 #[.val (.ref a1)] [] := by first | (simp [entryFrame, mkF, argsToLocals, Value.category]; done) | rfl
set_option maxRecDepth 65536 in
set_option maxHeartbeats 40000000 in
theorem rm60 (l : Launch) (Z : State) (a0 : Array Value) (hw : ∀ d ∈ tables_1, d.before a0 Z = true) (ws : List Jvm.Cond) (a1 : Addr) (h0 : Heap) (n0 : Nat) (O0 : Old Z n0 h0) (f0 : Fld Z h0 a1 "com/example/fuseline/fuseline/OutcomeKind" "error" "Z" (.int (0 : Int32))) :
    Meets l (⟨"com/example/fuseline/fuseline/OutcomeKind", "isError", "()Z"⟩ : MethodName) prog_21_method_5_code 1 (some .boolean) ws ({ frames := 0, cells := 0, slots := 0, locals := 0 } : Room) ({ frames := 0, cells := 0, slots := 0, locals := 0 } : Room).cells ({ frames := 0, cells := 0, slots := 0, locals := 0 } : Room).slots Z #[(.ref a1)] h0 n0 (Q60 Z a1 h0 n0) := by
  refine Meets.of (F := fun m => mkF m 0 #[.val (.ref a1)] []) (plainFor_of_name pn_0) (fun m => ef_60 m a1) ?_
  intro p e s m below meth c T0 hx hby hml hown0 hnm hret hlk hZ X0 e0
  have hown : s.vm.findClass "com/example/fuseline/fuseline/OutcomeKind" = some m.cls := hown0
  have N0 := Fr.nil n0
  show Goes _ _ _ _ _ _ (T0.setTop (mkF m 0 #[.val (.ref a1)] []))
  refine own_aloadN X0 hx (hb hby d6_0) rfl rfl ?_
  show Goes _ _ _ _ _ _ (T0.setTop (mkF m 1 #[.val (.ref a1)] [(.ref a1)]))
  refine own_getF X0 hx hZ hown (host := "") (Or.inl (hw _ (List.mem_of_getElem? (i := 56) rfl))) Via.refl e0 f0 (hb hby d6_1) (fun T1 X1 e1 => ?_)
  show Goes _ _ _ _ _ _ (T1.setTop (mkF m 4 #[.val (.ref a1)] [(.int (0 : Int32))]))
  exact own_retN X1 hx (t := .boolean) N0 hlk (by decide) (by decide) hret (by simp) (hb hby d6_4) (by rw [e1]; exact ⟨rfl, rfl⟩)
def Q61 (Z : State) (a1 : Addr) (h0 : Heap) (n0 : Nat) (v : Option Value) (h : Heap) : Prop :=
  (v = some (.int (1 : Int32)) ∧ h = h0)
theorem ef_61 (m : MethodId) (a1 : Addr) : entryFrame m #[(.ref a1)] 1 = mkF m 0 #[.val (.ref a1)] [] := by first | (simp [entryFrame, mkF, argsToLocals, Value.category]; done) | rfl
set_option maxRecDepth 65536 in
set_option maxHeartbeats 40000000 in
theorem rm61 (l : Launch) (Z : State) (a0 : Array Value) (hw : ∀ d ∈ tables_1, d.before a0 Z = true) (ws : List Jvm.Cond) (a1 : Addr) (h0 : Heap) (n0 : Nat) (O0 : Old Z n0 h0) (f0 : Fld Z h0 a1 "com/example/fuseline/fuseline/OutcomeKind" "error" "Z" (.int (1 : Int32))) :
    Meets l (⟨"com/example/fuseline/fuseline/OutcomeKind", "isError", "()Z"⟩ : MethodName) prog_21_method_5_code 1 (some .boolean) ws ({ frames := 0, cells := 0, slots := 0, locals := 0 } : Room) ({ frames := 0, cells := 0, slots := 0, locals := 0 } : Room).cells ({ frames := 0, cells := 0, slots := 0, locals := 0 } : Room).slots Z #[(.ref a1)] h0 n0 (Q61 Z a1 h0 n0) := by
  refine Meets.of (F := fun m => mkF m 0 #[.val (.ref a1)] []) (plainFor_of_name pn_0) (fun m => ef_61 m a1) ?_
  intro p e s m below meth c T0 hx hby hml hown0 hnm hret hlk hZ X0 e0
  have hown : s.vm.findClass "com/example/fuseline/fuseline/OutcomeKind" = some m.cls := hown0
  have N0 := Fr.nil n0
  show Goes _ _ _ _ _ _ (T0.setTop (mkF m 0 #[.val (.ref a1)] []))
  refine own_aloadN X0 hx (hb hby d6_0) rfl rfl ?_
  show Goes _ _ _ _ _ _ (T0.setTop (mkF m 1 #[.val (.ref a1)] [(.ref a1)]))
  refine own_getF X0 hx hZ hown (host := "") (Or.inl (hw _ (List.mem_of_getElem? (i := 56) rfl))) Via.refl e0 f0 (hb hby d6_1) (fun T1 X1 e1 => ?_)
  show Goes _ _ _ _ _ _ (T1.setTop (mkF m 4 #[.val (.ref a1)] [(.int (1 : Int32))]))
  exact own_retN X1 hx (t := .boolean) N0 hlk (by decide) (by decide) hret (by simp) (hb hby d6_4) (by rw [e1]; exact ⟨rfl, rfl⟩)
theorem d5_0 : decode jdk_37_method_2_code 0 = .ok (.aload_n 0, 1) := by decide +kernel
theorem d5_1 : decode jdk_37_method_2_code 1 = .ok (.getfield 7, 3) := by decide +kernel
theorem d5_4 : decode jdk_37_method_2_code 4 = .ok (.ireturn, 1) := by decide +kernel
theorem pn_1 : plainName "java/lang/Enum" = true := by first | (simp [plainName, overriddenIn]; done) | decide +kernel
def Q5 (Z : State) (a1 : Addr) (w : Int32) (h0 : Heap) (n0 : Nat) (v : Option Value) (h : Heap) : Prop :=
  (v = some (.int w) ∧ h = h0)
theorem ef_5 (m : MethodId) (a1 : Addr) : entryFrame m #[(.ref a1)] 1 = mkF m 0 #[.val (.ref a1)] [] := by first | (simp [entryFrame, mkF, argsToLocals, Value.category]; done) | rfl
set_option maxRecDepth 65536 in
set_option maxHeartbeats 40000000 in
theorem rm5 (l : Launch) (Z : State) (a0 : Array Value) (hw : ∀ d ∈ tables_1, d.before a0 Z = true) (ws : List Jvm.Cond) (a1 : Addr) (w : Int32) (h0 : Heap) (n0 : Nat) (O0 : Old Z n0 h0) (f0 : Fld Z h0 a1 "java/lang/Enum" "ordinal" "I" (.int w)) :
    Meets l (⟨"java/lang/Enum", "ordinal", "()I"⟩ : MethodName) jdk_37_method_2_code 1 (some .int) ws ({ frames := 0, cells := 0, slots := 0, locals := 0 } : Room) ({ frames := 0, cells := 0, slots := 0, locals := 0 } : Room).cells ({ frames := 0, cells := 0, slots := 0, locals := 0 } : Room).slots Z #[(.ref a1)] h0 n0 (Q5 Z a1 w h0 n0) := by
  refine Meets.of (F := fun m => mkF m 0 #[.val (.ref a1)] []) (plainFor_of_name pn_1) (fun m => ef_5 m a1) ?_
  intro p e s m below meth c T0 hx hby hml hown0 hnm hret hlk hZ X0 e0
  have hown : s.vm.findClass "java/lang/Enum" = some m.cls := hown0
  have N0 := Fr.nil n0
  show Goes _ _ _ _ _ _ (T0.setTop (mkF m 0 #[.val (.ref a1)] []))
  refine own_aloadN X0 hx (hb hby d5_0) rfl rfl ?_
  show Goes _ _ _ _ _ _ (T0.setTop (mkF m 1 #[.val (.ref a1)] [(.ref a1)]))
  refine own_getF X0 hx hZ hown (host := "") (Or.inl (hw _ (List.mem_of_getElem? (i := 49) rfl))) Via.refl e0 f0 (hb hby d5_1) (fun T1 X1 e1 => ?_)
  show Goes _ _ _ _ _ _ (T1.setTop (mkF m 4 #[.val (.ref a1)] [(.int w)]))
  exact own_retI X1 hx N0 hlk (by decide) (by decide) hret (hb hby d5_4) (by rw [e1]; exact ⟨rfl, rfl⟩)
theorem d1_0 : decode prog_36_method_1_code 0 = .ok (.aload_n 0, 1) := by decide +kernel
theorem d1_1 : decode prog_36_method_1_code 1 = .ok (.invokespecial 1, 3) := by decide +kernel
theorem d1_4 : decode prog_36_method_1_code 4 = .ok (.aload_n 0, 1) := by decide +kernel
theorem d1_5 : decode prog_36_method_1_code 5 = .ok (.aload_n 1, 1) := by decide +kernel
theorem d1_6 : decode prog_36_method_1_code 6 = .ok (.putfield 7, 3) := by decide +kernel
theorem d1_9 : decode prog_36_method_1_code 9 = .ok (.lconst 0, 1) := by decide +kernel
theorem d1_10 : decode prog_36_method_1_code 10 = .ok (.lstore_n 2, 1) := by decide +kernel
theorem d1_11 : decode prog_36_method_1_code 11 = .ok (.lconst 0, 1) := by decide +kernel
theorem d1_12 : decode prog_36_method_1_code 12 = .ok (.lstore 4, 2) := by decide +kernel
theorem d1_14 : decode prog_36_method_1_code 14 = .ok (.invokestatic 13, 3) := by decide +kernel
theorem pd_0 : parseMethodDescriptor "()[Lcom/example/fuseline/fuseline/OutcomeKind;" = some ⟨[], some (.array (.object "com/example/fuseline/fuseline/OutcomeKind"))⟩ := by decide +kernel
theorem d1_17 : decode prog_36_method_1_code 17 = .ok (.astore 6, 2) := by decide +kernel
theorem d1_19 : decode prog_36_method_1_code 19 = .ok (.aload 6, 2) := by decide +kernel
theorem d1_21 : decode prog_36_method_1_code 21 = .ok (.arraylength, 1) := by decide +kernel
theorem d1_22 : decode prog_36_method_1_code 22 = .ok (.istore 7, 2) := by decide +kernel
theorem d1_24 : decode prog_36_method_1_code 24 = .ok (.iconst 0, 1) := by decide +kernel
theorem d1_25 : decode prog_36_method_1_code 25 = .ok (.istore 8, 2) := by decide +kernel
theorem d1_27 : decode prog_36_method_1_code 27 = .ok (.iload 8, 2) := by decide +kernel
theorem d1_29 : decode prog_36_method_1_code 29 = .ok (.iload 7, 2) := by decide +kernel
theorem d1_31 : decode prog_36_method_1_code 31 = .ok (.if_icmp .ge 54, 3) := by decide +kernel
theorem d1_34 : decode prog_36_method_1_code 34 = .ok (.aload 6, 2) := by decide +kernel
theorem d1_36 : decode prog_36_method_1_code 36 = .ok (.iload 8, 2) := by decide +kernel
theorem d1_38 : decode prog_36_method_1_code 38 = .ok (.aaload, 1) := by decide +kernel
theorem d1_39 : decode prog_36_method_1_code 39 = .ok (.astore 9, 2) := by decide +kernel
theorem d1_41 : decode prog_36_method_1_code 41 = .ok (.aload 9, 2) := by decide +kernel
theorem d1_43 : decode prog_36_method_1_code 43 = .ok (.invokevirtual 19, 3) := by decide +kernel
theorem pd_1 : parseMethodDescriptor "()Z" = some ⟨[], some .boolean⟩ := by decide +kernel
theorem d1_46 : decode prog_36_method_1_code 46 = .ok (.ifCond .eq 13, 3) := by decide +kernel
theorem d1_49 : decode prog_36_method_1_code 49 = .ok (.lload_n 2, 1) := by decide +kernel
theorem d1_50 : decode prog_36_method_1_code 50 = .ok (.aload_n 1, 1) := by decide +kernel
theorem d1_51 : decode prog_36_method_1_code 51 = .ok (.aload 9, 2) := by decide +kernel
theorem d1_53 : decode prog_36_method_1_code 53 = .ok (.invokevirtual 23, 3) := by decide +kernel
theorem pd_2 : parseMethodDescriptor "()I" = some ⟨[], some .int⟩ := by decide +kernel
theorem d1_56 : decode prog_36_method_1_code 56 = .ok (.laload, 1) := by decide +kernel
theorem d1_57 : decode prog_36_method_1_code 57 = .ok (.ladd, 1) := by decide +kernel
theorem d1_58 : decode prog_36_method_1_code 58 = .ok (.lstore_n 2, 1) := by decide +kernel
theorem d1_59 : decode prog_36_method_1_code 59 = .ok (.aload 9, 2) := by decide +kernel
theorem d1_61 : decode prog_36_method_1_code 61 = .ok (.invokevirtual 27, 3) := by decide +kernel
theorem d1_64 : decode prog_36_method_1_code 64 = .ok (.ifCond .eq 15, 3) := by decide +kernel
theorem d1_79 : decode prog_36_method_1_code 79 = .ok (.iinc 8 1, 3) := by decide +kernel
theorem d1_82 : decode prog_36_method_1_code 82 = .ok (.goto (-55), 3) := by decide +kernel
theorem d1_67 : decode prog_36_method_1_code 67 = .ok (.lload 4, 2) := by decide +kernel
theorem d1_69 : decode prog_36_method_1_code 69 = .ok (.aload_n 1, 1) := by decide +kernel
theorem d1_70 : decode prog_36_method_1_code 70 = .ok (.aload 9, 2) := by decide +kernel
theorem d1_72 : decode prog_36_method_1_code 72 = .ok (.invokevirtual 23, 3) := by decide +kernel
theorem d1_75 : decode prog_36_method_1_code 75 = .ok (.laload, 1) := by decide +kernel
theorem d1_76 : decode prog_36_method_1_code 76 = .ok (.ladd, 1) := by decide +kernel
theorem d1_77 : decode prog_36_method_1_code 77 = .ok (.lstore 4, 2) := by decide +kernel
theorem d1_85 : decode prog_36_method_1_code 85 = .ok (.aload_n 0, 1) := by decide +kernel
theorem d1_86 : decode prog_36_method_1_code 86 = .ok (.lload_n 2, 1) := by decide +kernel
theorem d1_87 : decode prog_36_method_1_code 87 = .ok (.putfield 30, 3) := by decide +kernel
theorem d1_90 : decode prog_36_method_1_code 90 = .ok (.aload_n 0, 1) := by decide +kernel
theorem d1_91 : decode prog_36_method_1_code 91 = .ok (.lload 4, 2) := by decide +kernel
theorem d1_93 : decode prog_36_method_1_code 93 = .ok (.putfield 34, 3) := by decide +kernel
theorem d1_96 : decode prog_36_method_1_code 96 = .ok (.return_, 1) := by decide +kernel
theorem pn_2 : plainName "com/example/fuseline/fuseline/WindowCounts" = true := by first | (simp [plainName, overriddenIn]; done) | decide +kernel
def Q1 (Z : State) (a1 : Addr) (a2 : Addr) (u1 : Value) (u2 : Value) (u3 : Value) (k : ClassId) (x0 : Int64) (x1 : Int64) (x2 : Int64) (x3 : Int64) (x4 : Int64) (x5 : Int64) (x6 : Int64) (x7 : Int64) (w__VALUES : Addr) (w_SUCCESS : Addr) (w_FAILURE : Addr) (w_TIMEOUT : Addr) (w_REJECTED : Addr) (w_SHORT_CIRCUITED : Addr) (k_w__VALUES : ClassId) (h0 : Heap) (n0 : Nat) (v : Option Value) (h : Heap) : Prop :=
  (v = none ∧ Keep h0 h [a1] ∧ Exa Z h a1 "com/example/fuseline/fuseline/WindowCounts" ∧ Fld Z h a1 "com/example/fuseline/fuseline/WindowCounts" "counted" "J" (.long (((((0 : Int64) + x0) + x1) + x2) + x3)) ∧ Fld Z h a1 "com/example/fuseline/fuseline/WindowCounts" "errors" "J" (.long ((((0 : Int64) + x1) + x2) + x3)))
theorem ef_1 (m : MethodId) (a1 : Addr) (a2 : Addr) : entryFrame m #[(.ref a1), (.ref a2)] 10 = mkF m 0 #[.val (.ref a1), .val (.ref a2), .unset, .unset, .unset, .unset, .unset, .unset, .unset, .unset] [] := by first | (simp [entryFrame, mkF, argsToLocals, Value.category]; done) | rfl
set_option maxRecDepth 65536 in
set_option maxHeartbeats 40000000 in
theorem rm1 (l : Launch) (Z : State) (a0 : Array Value) (hw : ∀ d ∈ tables_1, d.before a0 Z = true) (ws : List Jvm.Cond) (a1 : Addr) (a2 : Addr) (u1 : Value) (u2 : Value) (u3 : Value) (k : ClassId) (x0 : Int64) (x1 : Int64) (x2 : Int64) (x3 : Int64) (x4 : Int64) (x5 : Int64) (x6 : Int64) (x7 : Int64) (w__VALUES : Addr) (w_SUCCESS : Addr) (w_FAILURE : Addr) (w_TIMEOUT : Addr) (w_REJECTED : Addr) (w_SHORT_CIRCUITED : Addr) (k_w__VALUES : ClassId) (h0 : Heap) (n0 : Nat) (O0 : Old Z n0 h0) (SF : Start Z w__VALUES w_SUCCESS w_FAILURE w_TIMEOUT w_REJECTED w_SHORT_CIRCUITED k_w__VALUES) (f0 : Exa Z h0 a1 "com/example/fuseline/fuseline/WindowCounts") (f1 : Fld Z h0 a1 "com/example/fuseline/fuseline/WindowCounts" "columns" "[J" u1) (f2 : Fld Z h0 a1 "com/example/fuseline/fuseline/WindowCounts" "counted" "J" u2) (f3 : Fld Z h0 a1 "com/example/fuseline/fuseline/WindowCounts" "errors" "J" u3) (f4 : n0 ≤ a1) (f5 : Arv Z h0 a2 k .long (8 : Int32) [(.long x0), (.long x1), (.long x2), (.long x3), (.long x4), (.long x5), (.long x6), (.long x7)] (.long (0 : Int64))) :
    Meets l (⟨"com/example/fuseline/fuseline/WindowCounts", "<init>", "([J)V"⟩ : MethodName) prog_36_method_1_code 10 none ws ({ frames := 2, cells := 1, slots := 5, locals := 25 } : Room) ({ frames := 2, cells := 1, slots := 5, locals := 25 } : Room).cells ({ frames := 2, cells := 1, slots := 5, locals := 25 } : Room).slots Z #[(.ref a1), (.ref a2)] h0 n0 (Q1 Z a1 a2 u1 u2 u3 k x0 x1 x2 x3 x4 x5 x6 x7 w__VALUES w_SUCCESS w_FAILURE w_TIMEOUT w_REJECTED w_SHORT_CIRCUITED k_w__VALUES h0 n0) := by
  refine Meets.of (F := fun m => mkF m 0 #[.val (.ref a1), .val (.ref a2), .unset, .unset, .unset, .unset, .unset, .unset, .unset, .unset] []) (plainFor_of_name pn_2) (fun m => ef_1 m a1 a2) ?_
  intro p e s m below meth c T0 hx hby hml hown0 hnm hret hlk hZ X0 e0
  have hown : s.vm.findClass "com/example/fuseline/fuseline/WindowCounts" = some m.cls := hown0
  have N0 := Fr.nil n0
  have KC0 := Keep.refl h0 [a1]
  obtain ⟨z0, z1, z2, z3, z4, z5, z6, z7, z8, z9, z10, z11, z12, z13, z14, z15, z16, z17, z18, z19, z20, z21, z22, z23, z24, z25, z26, z27, -⟩ := SF
  show Goes _ _ _ _ _ _ (T0.setTop (mkF m 0 #[.val (.ref a1), .val (.ref a2), .unset, .unset, .unset, .unset, .unset, .unset, .unset, .unset] []))
  refine own_aloadN X0 hx (hb hby d1_0) rfl rfl ?_
  show Goes _ _ _ _ _ _ (T0.setTop (mkF m 1 #[.val (.ref a1), .val (.ref a2), .unset, .unset, .unset, .unset, .unset, .unset, .unset, .unset] [(.ref a1)]))
  refine own_initO X0 hx hZ hown (hw _ (List.mem_of_getElem? (i := 9) rfl)) (hw _ (List.mem_of_getElem? (i := 10) rfl)) (hw _ (List.mem_of_getElem? (i := 11) rfl)) e0 (by rw [hml]; rfl) (hb hby d1_1) (by decide) (W := 0) (Nat.le_of_eq rfl) (by decide) (fun T1 X1 e1 => ?_)
  show Goes _ _ _ _ _ _ (T1.setTop (mkF m 4 #[.val (.ref a1), .val (.ref a2), .unset, .unset, .unset, .unset, .unset, .unset, .unset, .unset] []))
  refine own_aloadN X1 hx (hb hby d1_4) rfl rfl ?_
  show Goes _ _ _ _ _ _ (T1.setTop (mkF m 5 #[.val (.ref a1), .val (.ref a2), .unset, .unset, .unset, .unset, .unset, .unset, .unset, .unset] [(.ref a1)]))
  refine own_aloadN X1 hx (hb hby d1_5) rfl rfl ?_
  show Goes _ _ _ _ _ _ (T1.setTop (mkF m 6 #[.val (.ref a1), .val (.ref a2), .unset, .unset, .unset, .unset, .unset, .unset, .unset, .unset] [(.ref a2), (.ref a1)]))
  refine own_putF X1 hx hZ hown N0 (host := "") (Or.inl (hw _ (List.mem_of_getElem? (i := 12) rfl))) Via.refl e1 f1 f0 (Or.inr ⟨(hw _ (List.mem_of_getElem? (i := 13) rfl)), rfl, hnm⟩) (hw _ (List.mem_of_getElem? (i := 4) rfl)) (ty := (.array .long)) (by decide) rfl rfl f4 (hb hby d1_6) (fun T2 h2 lc2 X2 e2 N2 W2 => ?_)
  have E3_a1 := f0.wr W2
  have F3_counted_a1 := f2.other W2 (Or.inr (slot_ne (Or.inr (hw _ (List.mem_of_getElem? (i := 59) rfl))) (Or.inr (hw _ (List.mem_of_getElem? (i := 13) rfl))) (by decide) (t := .long) (t' := (.array .long)) (by decide) (by decide)))
  have F3_errors_a1 := f3.other W2 (Or.inr (slot_ne (Or.inr (hw _ (List.mem_of_getElem? (i := 61) rfl))) (Or.inr (hw _ (List.mem_of_getElem? (i := 13) rfl))) (by decide) (t := .long) (t' := (.array .long)) (by decide) (by decide)))
  have A3_a2 := f5.other W2 (Ne.symm (Exa.neArv f0 f5 (hw _ (List.mem_of_getElem? (i := 4) rfl))))
  have O3 := O0.wr W2 f4
  have KC3 := KC0.wr W2 (Or.inl (List.mem_of_getElem? (i := 0) rfl))
  show Goes _ _ _ _ _ _ (T2.setTop (mkF m 9 #[.val (.ref a1), .val (.ref a2), .unset, .unset, .unset, .unset, .unset, .unset, .unset, .unset] []))
  refine own_lconst X2 hx (v := (0 : Int64)) (hb hby d1_9) rfl ?_
  show Goes _ _ _ _ _ _ (T2.setTop (mkF m 10 #[.val (.ref a1), .val (.ref a2), .unset, .unset, .unset, .unset, .unset, .unset, .unset, .unset] [(.long (0 : Int64))]))
  refine own_lstoreN X2 hx (Ls' := #[.val (.ref a1), .val (.ref a2), .val (.long (0 : Int64)), .second, .unset, .unset, .unset, .unset, .unset, .unset]) (hb hby d1_10) rfl ?_
  show Goes _ _ _ _ _ _ (T2.setTop (mkF m 11 #[.val (.ref a1), .val (.ref a2), .val (.long (0 : Int64)), .second, .unset, .unset, .unset, .unset, .unset, .unset] []))
  refine own_lconst X2 hx (v := (0 : Int64)) (hb hby d1_11) rfl ?_
  show Goes _ _ _ _ _ _ (T2.setTop (mkF m 12 #[.val (.ref a1), .val (.ref a2), .val (.long (0 : Int64)), .second, .unset, .unset, .unset, .unset, .unset, .unset] [(.long (0 : Int64))]))
  refine own_lstore X2 hx (Ls' := #[.val (.ref a1), .val (.ref a2), .val (.long (0 : Int64)), .second, .val (.long (0 : Int64)), .second, .unset, .unset, .unset, .unset]) (hb hby d1_12) rfl ?_
  show Goes _ _ _ _ _ _ (T2.setTop (mkF m 14 #[.val (.ref a1), .val (.ref a2), .val (.long (0 : Int64)), .second, .val (.long (0 : Int64)), .second, .unset, .unset, .unset, .unset] []))
  refine own_callS X2 hx hZ hown (y := (⟨"com/example/fuseline/fuseline/OutcomeKind", "values", "()[Lcom/example/fuseline/fuseline/OutcomeKind;"⟩ : MethodName)) (hw _ (List.mem_of_getElem? (i := 14) rfl)) (hw _ (List.mem_of_getElem? (i := 15) rfl)) (hw _ (List.mem_of_getElem? (i := 16) rfl)) (hw _ (List.mem_of_getElem? (i := 17) rfl)) (by decide) (W := 0) (by decide) (by decide) N2 e2 (by rw [hml]; rfl) (argsL := []) (rest := []) (lenOf pd_0 rfl) (Nat.le_of_eq rfl) (by decide) (by decide) (rm3 l Z a0 hw [] w__VALUES w_SUCCESS w_FAILURE w_TIMEOUT w_REJECTED w_SHORT_CIRCUITED k_w__VALUES h2 n0 O3 ⟨z0, z1, z2, z3, z4, z5, z6, z7, z8, z9, z10, z11, z12, z13, z14, z15, z16, z17, z18, z19, z20, z21, z22, z23, z24, z25, z26, z27, trivial⟩) rfl (hb hby d1_14) ?_
  intro v4 T4 lc4 X4 N4 hQ4
  obtain ⟨b_4, rfl, K4, r4_0, r4_1, r4_2⟩ := hQ4
  have E5_a1 := E3_a1.keep K4
  have F5_counted_a1 := F3_counted_a1.keep K4 nin0
  have F5_errors_a1 := F3_errors_a1.keep K4 nin0
  have A5_a2 := A3_a2.keep K4 nin0
  have O5 := O3.keep K4 all0
  have KC5 := KC3.trans K4 all0
  have ge_b_4 : n0 ≤ b_4 := Nat.le_trans (own_sz O3) r4_2
  have sz_b_4 : h0.size ≤ b_4 := Nat.le_trans KC3.1 r4_2
  show Goes _ _ _ _ _ _ (T4.setTop (mkF m 17 #[.val (.ref a1), .val (.ref a2), .val (.long (0 : Int64)), .second, .val (.long (0 : Int64)), .second, .unset, .unset, .unset, .unset] [(.ref b_4)]))
  refine own_astore X4 hx (Ls' := #[.val (.ref a1), .val (.ref a2), .val (.long (0 : Int64)), .second, .val (.long (0 : Int64)), .second, .val (.ref b_4), .unset, .unset, .unset]) (hb hby d1_17) rfl rfl ?_
  show Goes _ _ _ _ _ _ (T4.setTop (mkF m 19 #[.val (.ref a1), .val (.ref a2), .val (.long (0 : Int64)), .second, .val (.long (0 : Int64)), .second, .val (.ref b_4), .unset, .unset, .unset] []))
  refine own_aload X4 hx (hb hby d1_19) rfl rfl ?_
  show Goes _ _ _ _ _ _ (T4.setTop (mkF m 21 #[.val (.ref a1), .val (.ref a2), .val (.long (0 : Int64)), .second, .val (.long (0 : Int64)), .second, .val (.ref b_4), .unset, .unset, .unset] [(.ref b_4)]))
  refine own_alen X4 hx hZ rfl r4_1 (hb hby d1_21) ?_
  show Goes _ _ _ _ _ _ (T4.setTop (mkF m 22 #[.val (.ref a1), .val (.ref a2), .val (.long (0 : Int64)), .second, .val (.long (0 : Int64)), .second, .val (.ref b_4), .unset, .unset, .unset] [(.int (5 : Int32))]))
  refine own_istore X4 hx (Ls' := #[.val (.ref a1), .val (.ref a2), .val (.long (0 : Int64)), .second, .val (.long (0 : Int64)), .second, .val (.ref b_4), .val (.int (5 : Int32)), .unset, .unset]) (hb hby d1_22) rfl ?_
  show Goes _ _ _ _ _ _ (T4.setTop (mkF m 24 #[.val (.ref a1), .val (.ref a2), .val (.long (0 : Int64)), .second, .val (.long (0 : Int64)), .second, .val (.ref b_4), .val (.int (5 : Int32)), .unset, .unset] []))
  refine own_iconst X4 hx (v := (0 : Int32)) (hb hby d1_24) rfl ?_
  show Goes _ _ _ _ _ _ (T4.setTop (mkF m 25 #[.val (.ref a1), .val (.ref a2), .val (.long (0 : Int64)), .second, .val (.long (0 : Int64)), .second, .val (.ref b_4), .val (.int (5 : Int32)), .unset, .unset] [(.int (0 : Int32))]))
  refine own_istore X4 hx (Ls' := #[.val (.ref a1), .val (.ref a2), .val (.long (0 : Int64)), .second, .val (.long (0 : Int64)), .second, .val (.ref b_4), .val (.int (5 : Int32)), .val (.int (0 : Int32)), .unset]) (hb hby d1_25) rfl ?_
  show Goes _ _ _ _ _ _ (T4.setTop (mkF m 27 #[.val (.ref a1), .val (.ref a2), .val (.long (0 : Int64)), .second, .val (.long (0 : Int64)), .second, .val (.ref b_4), .val (.int (5 : Int32)), .val (.int (0 : Int32)), .unset] []))
  refine own_iload X4 hx (hb hby d1_27) rfl ?_
  show Goes _ _ _ _ _ _ (T4.setTop (mkF m 29 #[.val (.ref a1), .val (.ref a2), .val (.long (0 : Int64)), .second, .val (.long (0 : Int64)), .second, .val (.ref b_4), .val (.int (5 : Int32)), .val (.int (0 : Int32)), .unset] [(.int (0 : Int32))]))
  refine own_iload X4 hx (hb hby d1_29) rfl ?_
  show Goes _ _ _ _ _ _ (T4.setTop (mkF m 31 #[.val (.ref a1), .val (.ref a2), .val (.long (0 : Int64)), .second, .val (.long (0 : Int64)), .second, .val (.ref b_4), .val (.int (5 : Int32)), .val (.int (0 : Int32)), .unset] [(.int (5 : Int32)), (.int (0 : Int32))]))
  refine own_icmpNo X4 hx (hb hby d1_31) (tlt (by decide : (0 : Int32) < (5 : Int32))).2.1 ?_
  show Goes _ _ _ _ _ _ (T4.setTop (mkF m 34 #[.val (.ref a1), .val (.ref a2), .val (.long (0 : Int64)), .second, .val (.long (0 : Int64)), .second, .val (.ref b_4), .val (.int (5 : Int32)), .val (.int (0 : Int32)), .unset] []))
  refine own_aload X4 hx (hb hby d1_34) rfl rfl ?_
  show Goes _ _ _ _ _ _ (T4.setTop (mkF m 36 #[.val (.ref a1), .val (.ref a2), .val (.long (0 : Int64)), .second, .val (.long (0 : Int64)), .second, .val (.ref b_4), .val (.int (5 : Int32)), .val (.int (0 : Int32)), .unset] [(.ref b_4)]))
  refine own_iload X4 hx (hb hby d1_36) rfl ?_
  show Goes _ _ _ _ _ _ (T4.setTop (mkF m 38 #[.val (.ref a1), .val (.ref a2), .val (.long (0 : Int64)), .second, .val (.long (0 : Int64)), .second, .val (.ref b_4), .val (.int (5 : Int32)), .val (.int (0 : Int32)), .unset] [(.int (0 : Int32)), (.ref b_4)]))
  refine own_aaload X4 hx hZ rfl r4_1 rfl ⟨by decide, by decide⟩ (v := (.ref w_SUCCESS)) rfl (hb hby d1_38) ?_
  show Goes _ _ _ _ _ _ (T4.setTop (mkF m 39 #[.val (.ref a1), .val (.ref a2), .val (.long (0 : Int64)), .second, .val (.long (0 : Int64)), .second, .val (.ref b_4), .val (.int (5 : Int32)), .val (.int (0 : Int32)), .unset] [(.ref w_SUCCESS)]))
  refine own_astore X4 hx (Ls' := #[.val (.ref a1), .val (.ref a2), .val (.long (0 : Int64)), .second, .val (.long (0 : Int64)), .second, .val (.ref b_4), .val (.int (5 : Int32)), .val (.int (0 : Int32)), .val (.ref w_SUCCESS)]) (hb hby d1_39) rfl rfl ?_
  show Goes _ _ _ _ _ _ (T4.setTop (mkF m 41 #[.val (.ref a1), .val (.ref a2), .val (.long (0 : Int64)), .second, .val (.long (0 : Int64)), .second, .val (.ref b_4), .val (.int (5 : Int32)), .val (.int (0 : Int32)), .val (.ref w_SUCCESS)] []))
  refine own_aload X4 hx (hb hby d1_41) rfl rfl ?_
  show Goes _ _ _ _ _ _ (T4.setTop (mkF m 43 #[.val (.ref a1), .val (.ref a2), .val (.long (0 : Int64)), .second, .val (.long (0 : Int64)), .second, .val (.ref b_4), .val (.int (5 : Int32)), .val (.int (0 : Int32)), .val (.ref w_SUCCESS)] [(.ref w_SUCCESS)]))
  refine own_virtual X4 hx hZ hown (y := (⟨"com/example/fuseline/fuseline/OutcomeKind", "isCounted", "()Z"⟩ : MethodName)) (z := (⟨"com/example/fuseline/fuseline/OutcomeKind", "isCounted", "()Z"⟩ : MethodName)) (hw _ (List.mem_of_getElem? (i := 35) rfl)) (hw _ (List.mem_of_getElem? (i := 36) rfl)) (notFace_of_selects (args := #[]) (mvT hZ (hw _ (List.mem_of_getElem? (i := 38) rfl)))) (hw _ (List.mem_of_getElem? (i := 38) rfl)) (hw _ (List.mem_of_getElem? (i := 37) rfl)) (hw _ (List.mem_of_getElem? (i := 16) rfl)) (hw _ (List.mem_of_getElem? (i := 39) rfl)) (a := w_SUCCESS) (z3.ext O5.2) (by decide) (W := 0) (by decide) (by decide) N4 rfl (by rw [hml]; rfl) (argsL := []) (rest := []) (lenOf pd_1 rfl) (Nat.le_of_eq rfl) (by decide) (by decide) (rm41 l Z a0 hw [] w_SUCCESS T4.heap n0 O5 (z13.ext O5.2)) rfl (hb hby d1_43) ?_
  intro v6 T6 lc6 X6 N6 hQ6
  obtain ⟨rfl, e6⟩ := hQ6
  show Goes _ _ _ _ _ _ (T6.setTop (mkF m 46 #[.val (.ref a1), .val (.ref a2), .val (.long (0 : Int64)), .second, .val (.long (0 : Int64)), .second, .val (.ref b_4), .val (.int (5 : Int32)), .val (.int (0 : Int32)), .val (.ref w_SUCCESS)] [(.int (1 : Int32))]))
  refine own_ifNo X6 hx (hb hby d1_46) ((if0 _ _).trans (feq (by decide : ¬ ((1 : Int32) = (0 : Int32)))).1) ?_
  show Goes _ _ _ _ _ _ (T6.setTop (mkF m 49 #[.val (.ref a1), .val (.ref a2), .val (.long (0 : Int64)), .second, .val (.long (0 : Int64)), .second, .val (.ref b_4), .val (.int (5 : Int32)), .val (.int (0 : Int32)), .val (.ref w_SUCCESS)] []))
  refine own_lloadN X6 hx (hb hby d1_49) rfl ?_
  show Goes _ _ _ _ _ _ (T6.setTop (mkF m 50 #[.val (.ref a1), .val (.ref a2), .val (.long (0 : Int64)), .second, .val (.long (0 : Int64)), .second, .val (.ref b_4), .val (.int (5 : Int32)), .val (.int (0 : Int32)), .val (.ref w_SUCCESS)] [(.long (0 : Int64))]))
  refine own_aloadN X6 hx (hb hby d1_50) rfl rfl ?_
  show Goes _ _ _ _ _ _ (T6.setTop (mkF m 51 #[.val (.ref a1), .val (.ref a2), .val (.long (0 : Int64)), .second, .val (.long (0 : Int64)), .second, .val (.ref b_4), .val (.int (5 : Int32)), .val (.int (0 : Int32)), .val (.ref w_SUCCESS)] [(.ref a2), (.long (0 : Int64))]))
  refine own_aload X6 hx (hb hby d1_51) rfl rfl ?_
  show Goes _ _ _ _ _ _ (T6.setTop (mkF m 53 #[.val (.ref a1), .val (.ref a2), .val (.long (0 : Int64)), .second, .val (.long (0 : Int64)), .second, .val (.ref b_4), .val (.int (5 : Int32)), .val (.int (0 : Int32)), .val (.ref w_SUCCESS)] [(.ref w_SUCCESS), (.ref a2), (.long (0 : Int64))]))
  refine own_virtualUp X6 hx hZ hown (y := (⟨"com/example/fuseline/fuseline/OutcomeKind", "ordinal", "()I"⟩ : MethodName)) (z := (⟨"java/lang/Enum", "ordinal", "()I"⟩ : MethodName)) (owner := "java/lang/Enum") (hw _ (List.mem_of_getElem? (i := 42) rfl)) (hw _ (List.mem_of_getElem? (i := 43) rfl)) (hw _ (List.mem_of_getElem? (i := 44) rfl)) (hw _ (List.mem_of_getElem? (i := 46) rfl)) (hw _ (List.mem_of_getElem? (i := 45) rfl)) (hw _ (List.mem_of_getElem? (i := 47) rfl)) (hw _ (List.mem_of_getElem? (i := 48) rfl)) (a := w_SUCCESS) (z3.ext O5.2) (by decide) (W := 3) (by decide) (by decide) N6 e6 (by rw [hml]; rfl) (argsL := []) (rest := [(.ref a2), (.long (0 : Int64))]) (lenOf pd_2 rfl) (Nat.le_of_eq rfl) (by decide) (by decide) (rm5 l Z a0 hw [] w_SUCCESS (0 : Int32) T4.heap n0 O5 (z14.ext O5.2)) rfl (hb hby d1_53) ?_
  intro v7 T7 lc7 X7 N7 hQ7
  obtain ⟨rfl, e7⟩ := hQ7
  show Goes _ _ _ _ _ _ (T7.setTop (mkF m 56 #[.val (.ref a1), .val (.ref a2), .val (.long (0 : Int64)), .second, .val (.long (0 : Int64)), .second, .val (.ref b_4), .val (.int (5 : Int32)), .val (.int (0 : Int32)), .val (.ref w_SUCCESS)] [(.int (0 : Int32)), (.ref a2), (.long (0 : Int64))]))
  refine own_laload X7 hx hZ e7 A5_a2 ⟨by decide, by decide⟩ (v := (.long x0)) rfl (hb hby d1_56) ?_
  show Goes _ _ _ _ _ _ (T7.setTop (mkF m 57 #[.val (.ref a1), .val (.ref a2), .val (.long (0 : Int64)), .second, .val (.long (0 : Int64)), .second, .val (.ref b_4), .val (.int (5 : Int32)), .val (.int (0 : Int32)), .val (.ref w_SUCCESS)] [(.long x0), (.long (0 : Int64))]))
  refine own_ladd X7 hx (hb hby d1_57) ?_
  show Goes _ _ _ _ _ _ (T7.setTop (mkF m 58 #[.val (.ref a1), .val (.ref a2), .val (.long (0 : Int64)), .second, .val (.long (0 : Int64)), .second, .val (.ref b_4), .val (.int (5 : Int32)), .val (.int (0 : Int32)), .val (.ref w_SUCCESS)] [(.long ((0 : Int64) + x0))]))
  refine own_lstoreN X7 hx (Ls' := #[.val (.ref a1), .val (.ref a2), .val (.long ((0 : Int64) + x0)), .second, .val (.long (0 : Int64)), .second, .val (.ref b_4), .val (.int (5 : Int32)), .val (.int (0 : Int32)), .val (.ref w_SUCCESS)]) (hb hby d1_58) rfl ?_
  show Goes _ _ _ _ _ _ (T7.setTop (mkF m 59 #[.val (.ref a1), .val (.ref a2), .val (.long ((0 : Int64) + x0)), .second, .val (.long (0 : Int64)), .second, .val (.ref b_4), .val (.int (5 : Int32)), .val (.int (0 : Int32)), .val (.ref w_SUCCESS)] []))
  refine own_aload X7 hx (hb hby d1_59) rfl rfl ?_
  show Goes _ _ _ _ _ _ (T7.setTop (mkF m 61 #[.val (.ref a1), .val (.ref a2), .val (.long ((0 : Int64) + x0)), .second, .val (.long (0 : Int64)), .second, .val (.ref b_4), .val (.int (5 : Int32)), .val (.int (0 : Int32)), .val (.ref w_SUCCESS)] [(.ref w_SUCCESS)]))
  refine own_virtual X7 hx hZ hown (y := (⟨"com/example/fuseline/fuseline/OutcomeKind", "isError", "()Z"⟩ : MethodName)) (z := (⟨"com/example/fuseline/fuseline/OutcomeKind", "isError", "()Z"⟩ : MethodName)) (hw _ (List.mem_of_getElem? (i := 51) rfl)) (hw _ (List.mem_of_getElem? (i := 52) rfl)) (notFace_of_selects (args := #[]) (mvT hZ (hw _ (List.mem_of_getElem? (i := 54) rfl)))) (hw _ (List.mem_of_getElem? (i := 54) rfl)) (hw _ (List.mem_of_getElem? (i := 53) rfl)) (hw _ (List.mem_of_getElem? (i := 16) rfl)) (hw _ (List.mem_of_getElem? (i := 55) rfl)) (a := w_SUCCESS) (z3.ext O5.2) (by decide) (W := 0) (by decide) (by decide) N7 e7 (by rw [hml]; rfl) (argsL := []) (rest := []) (lenOf pd_1 rfl) (Nat.le_of_eq rfl) (by decide) (by decide) (rm60 l Z a0 hw [] w_SUCCESS T4.heap n0 O5 (z15.ext O5.2)) rfl (hb hby d1_61) ?_
  intro v8 T8 lc8 X8 N8 hQ8
  obtain ⟨rfl, e8⟩ := hQ8
  show Goes _ _ _ _ _ _ (T8.setTop (mkF m 64 #[.val (.ref a1), .val (.ref a2), .val (.long ((0 : Int64) + x0)), .second, .val (.long (0 : Int64)), .second, .val (.ref b_4), .val (.int (5 : Int32)), .val (.int (0 : Int32)), .val (.ref w_SUCCESS)] [(.int (0 : Int32))]))
  refine own_ifYes X8 hx (pc' := 79) (hb hby d1_64) ((if0 _ _).trans (teq (by decide : (0 : Int32) = (0 : Int32))).1) (by decide) (by decide) ?_
  show Goes _ _ _ _ _ _ (T8.setTop (mkF m 79 #[.val (.ref a1), .val (.ref a2), .val (.long ((0 : Int64) + x0)), .second, .val (.long (0 : Int64)), .second, .val (.ref b_4), .val (.int (5 : Int32)), .val (.int (0 : Int32)), .val (.ref w_SUCCESS)] []))
  refine own_iinc X8 hx (Ls' := #[.val (.ref a1), .val (.ref a2), .val (.long ((0 : Int64) + x0)), .second, .val (.long (0 : Int64)), .second, .val (.ref b_4), .val (.int (5 : Int32)), .val (.int ((0 : Int32) + (1 : Int32))), .val (.ref w_SUCCESS)]) (hb hby d1_79) rfl rfl ?_
  show Goes _ _ _ _ _ _ (T8.setTop (mkF m 82 #[.val (.ref a1), .val (.ref a2), .val (.long ((0 : Int64) + x0)), .second, .val (.long (0 : Int64)), .second, .val (.ref b_4), .val (.int (5 : Int32)), .val (.int ((0 : Int32) + (1 : Int32))), .val (.ref w_SUCCESS)] []))
  refine own_goto X8 hx (pc' := 27) (hb hby d1_82) (by decide) (by decide) ?_
  show Goes _ _ _ _ _ _ (T8.setTop (mkF m 27 #[.val (.ref a1), .val (.ref a2), .val (.long ((0 : Int64) + x0)), .second, .val (.long (0 : Int64)), .second, .val (.ref b_4), .val (.int (5 : Int32)), .val (.int ((0 : Int32) + (1 : Int32))), .val (.ref w_SUCCESS)] []))
  refine own_iload X8 hx (hb hby d1_27) rfl ?_
  show Goes _ _ _ _ _ _ (T8.setTop (mkF m 29 #[.val (.ref a1), .val (.ref a2), .val (.long ((0 : Int64) + x0)), .second, .val (.long (0 : Int64)), .second, .val (.ref b_4), .val (.int (5 : Int32)), .val (.int ((0 : Int32) + (1 : Int32))), .val (.ref w_SUCCESS)] [(.int ((0 : Int32) + (1 : Int32)))]))
  refine own_iload X8 hx (hb hby d1_29) rfl ?_
  show Goes _ _ _ _ _ _ (T8.setTop (mkF m 31 #[.val (.ref a1), .val (.ref a2), .val (.long ((0 : Int64) + x0)), .second, .val (.long (0 : Int64)), .second, .val (.ref b_4), .val (.int (5 : Int32)), .val (.int ((0 : Int32) + (1 : Int32))), .val (.ref w_SUCCESS)] [(.int (5 : Int32)), (.int ((0 : Int32) + (1 : Int32)))]))
  refine own_icmpNo X8 hx (hb hby d1_31) (tlt (by decide : ((0 : Int32) + (1 : Int32)) < (5 : Int32))).2.1 ?_
  show Goes _ _ _ _ _ _ (T8.setTop (mkF m 34 #[.val (.ref a1), .val (.ref a2), .val (.long ((0 : Int64) + x0)), .second, .val (.long (0 : Int64)), .second, .val (.ref b_4), .val (.int (5 : Int32)), .val (.int ((0 : Int32) + (1 : Int32))), .val (.ref w_SUCCESS)] []))
  refine own_aload X8 hx (hb hby d1_34) rfl rfl ?_
  show Goes _ _ _ _ _ _ (T8.setTop (mkF m 36 #[.val (.ref a1), .val (.ref a2), .val (.long ((0 : Int64) + x0)), .second, .val (.long (0 : Int64)), .second, .val (.ref b_4), .val (.int (5 : Int32)), .val (.int ((0 : Int32) + (1 : Int32))), .val (.ref w_SUCCESS)] [(.ref b_4)]))
  refine own_iload X8 hx (hb hby d1_36) rfl ?_
  show Goes _ _ _ _ _ _ (T8.setTop (mkF m 38 #[.val (.ref a1), .val (.ref a2), .val (.long ((0 : Int64) + x0)), .second, .val (.long (0 : Int64)), .second, .val (.ref b_4), .val (.int (5 : Int32)), .val (.int ((0 : Int32) + (1 : Int32))), .val (.ref w_SUCCESS)] [(.int ((0 : Int32) + (1 : Int32))), (.ref b_4)]))
  refine own_aaload X8 hx hZ e8 r4_1 rfl ⟨by decide, by decide⟩ (v := (.ref w_FAILURE)) rfl (hb hby d1_38) ?_
  show Goes _ _ _ _ _ _ (T8.setTop (mkF m 39 #[.val (.ref a1), .val (.ref a2), .val (.long ((0 : Int64) + x0)), .second, .val (.long (0 : Int64)), .second, .val (.ref b_4), .val (.int (5 : Int32)), .val (.int ((0 : Int32) + (1 : Int32))), .val (.ref w_SUCCESS)] [(.ref w_FAILURE)]))
  refine own_astore X8 hx (Ls' := #[.val (.ref a1), .val (.ref a2), .val (.long ((0 : Int64) + x0)), .second, .val (.long (0 : Int64)), .second, .val (.ref b_4), .val (.int (5 : Int32)), .val (.int ((0 : Int32) + (1 : Int32))), .val (.ref w_FAILURE)]) (hb hby d1_39) rfl rfl ?_
  show Goes _ _ _ _ _ _ (T8.setTop (mkF m 41 #[.val (.ref a1), .val (.ref a2), .val (.long ((0 : Int64) + x0)), .second, .val (.long (0 : Int64)), .second, .val (.ref b_4), .val (.int (5 : Int32)), .val (.int ((0 : Int32) + (1 : Int32))), .val (.ref w_FAILURE)] []))
  refine own_aload X8 hx (hb hby d1_41) rfl rfl ?_
  show Goes _ _ _ _ _ _ (T8.setTop (mkF m 43 #[.val (.ref a1), .val (.ref a2), .val (.long ((0 : Int64) + x0)), .second, .val (.long (0 : Int64)), .second, .val (.ref b_4), .val (.int (5 : Int32)), .val (.int ((0 : Int32) + (1 : Int32))), .val (.ref w_FAILURE)] [(.ref w_FAILURE)]))
  refine own_virtual X8 hx hZ hown (y := (⟨"com/example/fuseline/fuseline/OutcomeKind", "isCounted", "()Z"⟩ : MethodName)) (z := (⟨"com/example/fuseline/fuseline/OutcomeKind", "isCounted", "()Z"⟩ : MethodName)) (hw _ (List.mem_of_getElem? (i := 35) rfl)) (hw _ (List.mem_of_getElem? (i := 36) rfl)) (notFace_of_selects (args := #[]) (mvT hZ (hw _ (List.mem_of_getElem? (i := 38) rfl)))) (hw _ (List.mem_of_getElem? (i := 38) rfl)) (hw _ (List.mem_of_getElem? (i := 37) rfl)) (hw _ (List.mem_of_getElem? (i := 16) rfl)) (hw _ (List.mem_of_getElem? (i := 39) rfl)) (a := w_FAILURE) (z5.ext O5.2) (by decide) (W := 0) (by decide) (by decide) N8 e8 (by rw [hml]; rfl) (argsL := []) (rest := []) (lenOf pd_1 rfl) (Nat.le_of_eq rfl) (by decide) (by decide) (rm41 l Z a0 hw [] w_FAILURE T4.heap n0 O5 (z16.ext O5.2)) rfl (hb hby d1_43) ?_
  intro v9 T9 lc9 X9 N9 hQ9
  obtain ⟨rfl, e9⟩ := hQ9
  show Goes _ _ _ _ _ _ (T9.setTop (mkF m 46 #[.val (.ref a1), .val (.ref a2), .val (.long ((0 : Int64) + x0)), .second, .val (.long (0 : Int64)), .second, .val (.ref b_4), .val (.int (5 : Int32)), .val (.int ((0 : Int32) + (1 : Int32))), .val (.ref w_FAILURE)] [(.int (1 : Int32))]))
  refine own_ifNo X9 hx (hb hby d1_46) ((if0 _ _).trans (feq (by decide : ¬ ((1 : Int32) = (0 : Int32)))).1) ?_
  show Goes _ _ _ _ _ _ (T9.setTop (mkF m 49 #[.val (.ref a1), .val (.ref a2), .val (.long ((0 : Int64) + x0)), .second, .val (.long (0 : Int64)), .second, .val (.ref b_4), .val (.int (5 : Int32)), .val (.int ((0 : Int32) + (1 : Int32))), .val (.ref w_FAILURE)] []))
  refine own_lloadN X9 hx (hb hby d1_49) rfl ?_
  show Goes _ _ _ _ _ _ (T9.setTop (mkF m 50 #[.val (.ref a1), .val (.ref a2), .val (.long ((0 : Int64) + x0)), .second, .val (.long (0 : Int64)), .second, .val (.ref b_4), .val (.int (5 : Int32)), .val (.int ((0 : Int32) + (1 : Int32))), .val (.ref w_FAILURE)] [(.long ((0 : Int64) + x0))]))
  refine own_aloadN X9 hx (hb hby d1_50) rfl rfl ?_
  show Goes _ _ _ _ _ _ (T9.setTop (mkF m 51 #[.val (.ref a1), .val (.ref a2), .val (.long ((0 : Int64) + x0)), .second, .val (.long (0 : Int64)), .second, .val (.ref b_4), .val (.int (5 : Int32)), .val (.int ((0 : Int32) + (1 : Int32))), .val (.ref w_FAILURE)] [(.ref a2), (.long ((0 : Int64) + x0))]))
  refine own_aload X9 hx (hb hby d1_51) rfl rfl ?_
  show Goes _ _ _ _ _ _ (T9.setTop (mkF m 53 #[.val (.ref a1), .val (.ref a2), .val (.long ((0 : Int64) + x0)), .second, .val (.long (0 : Int64)), .second, .val (.ref b_4), .val (.int (5 : Int32)), .val (.int ((0 : Int32) + (1 : Int32))), .val (.ref w_FAILURE)] [(.ref w_FAILURE), (.ref a2), (.long ((0 : Int64) + x0))]))
  refine own_virtualUp X9 hx hZ hown (y := (⟨"com/example/fuseline/fuseline/OutcomeKind", "ordinal", "()I"⟩ : MethodName)) (z := (⟨"java/lang/Enum", "ordinal", "()I"⟩ : MethodName)) (owner := "java/lang/Enum") (hw _ (List.mem_of_getElem? (i := 42) rfl)) (hw _ (List.mem_of_getElem? (i := 43) rfl)) (hw _ (List.mem_of_getElem? (i := 44) rfl)) (hw _ (List.mem_of_getElem? (i := 46) rfl)) (hw _ (List.mem_of_getElem? (i := 45) rfl)) (hw _ (List.mem_of_getElem? (i := 47) rfl)) (hw _ (List.mem_of_getElem? (i := 48) rfl)) (a := w_FAILURE) (z5.ext O5.2) (by decide) (W := 3) (by decide) (by decide) N9 e9 (by rw [hml]; rfl) (argsL := []) (rest := [(.ref a2), (.long ((0 : Int64) + x0))]) (lenOf pd_2 rfl) (Nat.le_of_eq rfl) (by decide) (by decide) (rm5 l Z a0 hw [] w_FAILURE (1 : Int32) T4.heap n0 O5 (z17.ext O5.2)) rfl (hb hby d1_53) ?_
  intro v10 T10 lc10 X10 N10 hQ10
  obtain ⟨rfl, e10⟩ := hQ10
  show Goes _ _ _ _ _ _ (T10.setTop (mkF m 56 #[.val (.ref a1), .val (.ref a2), .val (.long ((0 : Int64) + x0)), .second, .val (.long (0 : Int64)), .second, .val (.ref b_4), .val (.int (5 : Int32)), .val (.int ((0 : Int32) + (1 : Int32))), .val (.ref w_FAILURE)] [(.int (1 : Int32)), (.ref a2), (.long ((0 : Int64) + x0))]))
  refine own_laload X10 hx hZ e10 A5_a2 ⟨by decide, by decide⟩ (v := (.long x1)) rfl (hb hby d1_56) ?_
  show Goes _ _ _ _ _ _ (T10.setTop (mkF m 57 #[.val (.ref a1), .val (.ref a2), .val (.long ((0 : Int64) + x0)), .second, .val (.long (0 : Int64)), .second, .val (.ref b_4), .val (.int (5 : Int32)), .val (.int ((0 : Int32) + (1 : Int32))), .val (.ref w_FAILURE)] [(.long x1), (.long ((0 : Int64) + x0))]))
  refine own_ladd X10 hx (hb hby d1_57) ?_
  show Goes _ _ _ _ _ _ (T10.setTop (mkF m 58 #[.val (.ref a1), .val (.ref a2), .val (.long ((0 : Int64) + x0)), .second, .val (.long (0 : Int64)), .second, .val (.ref b_4), .val (.int (5 : Int32)), .val (.int ((0 : Int32) + (1 : Int32))), .val (.ref w_FAILURE)] [(.long (((0 : Int64) + x0) + x1))]))
  refine own_lstoreN X10 hx (Ls' := #[.val (.ref a1), .val (.ref a2), .val (.long (((0 : Int64) + x0) + x1)), .second, .val (.long (0 : Int64)), .second, .val (.ref b_4), .val (.int (5 : Int32)), .val (.int ((0 : Int32) + (1 : Int32))), .val (.ref w_FAILURE)]) (hb hby d1_58) rfl ?_
  show Goes _ _ _ _ _ _ (T10.setTop (mkF m 59 #[.val (.ref a1), .val (.ref a2), .val (.long (((0 : Int64) + x0) + x1)), .second, .val (.long (0 : Int64)), .second, .val (.ref b_4), .val (.int (5 : Int32)), .val (.int ((0 : Int32) + (1 : Int32))), .val (.ref w_FAILURE)] []))
  refine own_aload X10 hx (hb hby d1_59) rfl rfl ?_
  show Goes _ _ _ _ _ _ (T10.setTop (mkF m 61 #[.val (.ref a1), .val (.ref a2), .val (.long (((0 : Int64) + x0) + x1)), .second, .val (.long (0 : Int64)), .second, .val (.ref b_4), .val (.int (5 : Int32)), .val (.int ((0 : Int32) + (1 : Int32))), .val (.ref w_FAILURE)] [(.ref w_FAILURE)]))
  refine own_virtual X10 hx hZ hown (y := (⟨"com/example/fuseline/fuseline/OutcomeKind", "isError", "()Z"⟩ : MethodName)) (z := (⟨"com/example/fuseline/fuseline/OutcomeKind", "isError", "()Z"⟩ : MethodName)) (hw _ (List.mem_of_getElem? (i := 51) rfl)) (hw _ (List.mem_of_getElem? (i := 52) rfl)) (notFace_of_selects (args := #[]) (mvT hZ (hw _ (List.mem_of_getElem? (i := 54) rfl)))) (hw _ (List.mem_of_getElem? (i := 54) rfl)) (hw _ (List.mem_of_getElem? (i := 53) rfl)) (hw _ (List.mem_of_getElem? (i := 16) rfl)) (hw _ (List.mem_of_getElem? (i := 55) rfl)) (a := w_FAILURE) (z5.ext O5.2) (by decide) (W := 0) (by decide) (by decide) N10 e10 (by rw [hml]; rfl) (argsL := []) (rest := []) (lenOf pd_1 rfl) (Nat.le_of_eq rfl) (by decide) (by decide) (rm61 l Z a0 hw [] w_FAILURE T4.heap n0 O5 (z18.ext O5.2)) rfl (hb hby d1_61) ?_
  intro v11 T11 lc11 X11 N11 hQ11
  obtain ⟨rfl, e11⟩ := hQ11
  show Goes _ _ _ _ _ _ (T11.setTop (mkF m 64 #[.val (.ref a1), .val (.ref a2), .val (.long (((0 : Int64) + x0) + x1)), .second, .val (.long (0 : Int64)), .second, .val (.ref b_4), .val (.int (5 : Int32)), .val (.int ((0 : Int32) + (1 : Int32))), .val (.ref w_FAILURE)] [(.int (1 : Int32))]))
  refine own_ifNo X11 hx (hb hby d1_64) ((if0 _ _).trans (feq (by decide : ¬ ((1 : Int32) = (0 : Int32)))).1) ?_
  show Goes _ _ _ _ _ _ (T11.setTop (mkF m 67 #[.val (.ref a1), .val (.ref a2), .val (.long (((0 : Int64) + x0) + x1)), .second, .val (.long (0 : Int64)), .second, .val (.ref b_4), .val (.int (5 : Int32)), .val (.int ((0 : Int32) + (1 : Int32))), .val (.ref w_FAILURE)] []))
  refine own_lload X11 hx (hb hby d1_67) rfl ?_
  show Goes _ _ _ _ _ _ (T11.setTop (mkF m 69 #[.val (.ref a1), .val (.ref a2), .val (.long (((0 : Int64) + x0) + x1)), .second, .val (.long (0 : Int64)), .second, .val (.ref b_4), .val (.int (5 : Int32)), .val (.int ((0 : Int32) + (1 : Int32))), .val (.ref w_FAILURE)] [(.long (0 : Int64))]))
  refine own_aloadN X11 hx (hb hby d1_69) rfl rfl ?_
  show Goes _ _ _ _ _ _ (T11.setTop (mkF m 70 #[.val (.ref a1), .val (.ref a2), .val (.long (((0 : Int64) + x0) + x1)), .second, .val (.long (0 : Int64)), .second, .val (.ref b_4), .val (.int (5 : Int32)), .val (.int ((0 : Int32) + (1 : Int32))), .val (.ref w_FAILURE)] [(.ref a2), (.long (0 : Int64))]))
  refine own_aload X11 hx (hb hby d1_70) rfl rfl ?_
  show Goes _ _ _ _ _ _ (T11.setTop (mkF m 72 #[.val (.ref a1), .val (.ref a2), .val (.long (((0 : Int64) + x0) + x1)), .second, .val (.long (0 : Int64)), .second, .val (.ref b_4), .val (.int (5 : Int32)), .val (.int ((0 : Int32) + (1 : Int32))), .val (.ref w_FAILURE)] [(.ref w_FAILURE), (.ref a2), (.long (0 : Int64))]))
  refine own_virtualUp X11 hx hZ hown (y := (⟨"com/example/fuseline/fuseline/OutcomeKind", "ordinal", "()I"⟩ : MethodName)) (z := (⟨"java/lang/Enum", "ordinal", "()I"⟩ : MethodName)) (owner := "java/lang/Enum") (hw _ (List.mem_of_getElem? (i := 42) rfl)) (hw _ (List.mem_of_getElem? (i := 43) rfl)) (hw _ (List.mem_of_getElem? (i := 44) rfl)) (hw _ (List.mem_of_getElem? (i := 46) rfl)) (hw _ (List.mem_of_getElem? (i := 45) rfl)) (hw _ (List.mem_of_getElem? (i := 47) rfl)) (hw _ (List.mem_of_getElem? (i := 48) rfl)) (a := w_FAILURE) (z5.ext O5.2) (by decide) (W := 3) (by decide) (by decide) N11 e11 (by rw [hml]; rfl) (argsL := []) (rest := [(.ref a2), (.long (0 : Int64))]) (lenOf pd_2 rfl) (Nat.le_of_eq rfl) (by decide) (by decide) (rm5 l Z a0 hw [] w_FAILURE (1 : Int32) T4.heap n0 O5 (z17.ext O5.2)) rfl (hb hby d1_72) ?_
  intro v12 T12 lc12 X12 N12 hQ12
  obtain ⟨rfl, e12⟩ := hQ12
  show Goes _ _ _ _ _ _ (T12.setTop (mkF m 75 #[.val (.ref a1), .val (.ref a2), .val (.long (((0 : Int64) + x0) + x1)), .second, .val (.long (0 : Int64)), .second, .val (.ref b_4), .val (.int (5 : Int32)), .val (.int ((0 : Int32) + (1 : Int32))), .val (.ref w_FAILURE)] [(.int (1 : Int32)), (.ref a2), (.long (0 : Int64))]))
  refine own_laload X12 hx hZ e12 A5_a2 ⟨by decide, by decide⟩ (v := (.long x1)) rfl (hb hby d1_75) ?_
  show Goes _ _ _ _ _ _ (T12.setTop (mkF m 76 #[.val (.ref a1), .val (.ref a2), .val (.long (((0 : Int64) + x0) + x1)), .second, .val (.long (0 : Int64)), .second, .val (.ref b_4), .val (.int (5 : Int32)), .val (.int ((0 : Int32) + (1 : Int32))), .val (.ref w_FAILURE)] [(.long x1), (.long (0 : Int64))]))
  refine own_ladd X12 hx (hb hby d1_76) ?_
  show Goes _ _ _ _ _ _ (T12.setTop (mkF m 77 #[.val (.ref a1), .val (.ref a2), .val (.long (((0 : Int64) + x0) + x1)), .second, .val (.long (0 : Int64)), .second, .val (.ref b_4), .val (.int (5 : Int32)), .val (.int ((0 : Int32) + (1 : Int32))), .val (.ref w_FAILURE)] [(.long ((0 : Int64) + x1))]))
  refine own_lstore X12 hx (Ls' := #[.val (.ref a1), .val (.ref a2), .val (.long (((0 : Int64) + x0) + x1)), .second, .val (.long ((0 : Int64) + x1)), .second, .val (.ref b_4), .val (.int (5 : Int32)), .val (.int ((0 : Int32) + (1 : Int32))), .val (.ref w_FAILURE)]) (hb hby d1_77) rfl ?_
  show Goes _ _ _ _ _ _ (T12.setTop (mkF m 79 #[.val (.ref a1), .val (.ref a2), .val (.long (((0 : Int64) + x0) + x1)), .second, .val (.long ((0 : Int64) + x1)), .second, .val (.ref b_4), .val (.int (5 : Int32)), .val (.int ((0 : Int32) + (1 : Int32))), .val (.ref w_FAILURE)] []))
  refine own_iinc X12 hx (Ls' := #[.val (.ref a1), .val (.ref a2), .val (.long (((0 : Int64) + x0) + x1)), .second, .val (.long ((0 : Int64) + x1)), .second, .val (.ref b_4), .val (.int (5 : Int32)), .val (.int (((0 : Int32) + (1 : Int32)) + (1 : Int32))), .val (.ref w_FAILURE)]) (hb hby d1_79) rfl rfl ?_
  show Goes _ _ _ _ _ _ (T12.setTop (mkF m 82 #[.val (.ref a1), .val (.ref a2), .val (.long (((0 : Int64) + x0) + x1)), .second, .val (.long ((0 : Int64) + x1)), .second, .val (.ref b_4), .val (.int (5 : Int32)), .val (.int (((0 : Int32) + (1 : Int32)) + (1 : Int32))), .val (.ref w_FAILURE)] []))
  refine own_goto X12 hx (pc' := 27) (hb hby d1_82) (by decide) (by decide) ?_
  show Goes _ _ _ _ _ _ (T12.setTop (mkF m 27 #[.val (.ref a1), .val (.ref a2), .val (.long (((0 : Int64) + x0) + x1)), .second, .val (.long ((0 : Int64) + x1)), .second, .val (.ref b_4), .val (.int (5 : Int32)), .val (.int (((0 : Int32) + (1 : Int32)) + (1 : Int32))), .val (.ref w_FAILURE)] []))
  refine own_iload X12 hx (hb hby d1_27) rfl ?_
  show Goes _ _ _ _ _ _ (T12.setTop (mkF m 29 #[.val (.ref a1), .val (.ref a2), .val (.long (((0 : Int64) + x0) + x1)), .second, .val (.long ((0 : Int64) + x1)), .second, .val (.ref b_4), .val (.int (5 : Int32)), .val (.int (((0 : Int32) + (1 : Int32)) + (1 : Int32))), .val (.ref w_FAILURE)] [(.int (((0 : Int32) + (1 : Int32)) + (1 : Int32)))]))
  refine own_iload X12 hx (hb hby d1_29) rfl ?_
  show Goes _ _ _ _ _ _ (T12.setTop (mkF m 31 #[.val (.ref a1), .val (.ref a2), .val (.long (((0 : Int64) + x0) + x1)), .second, .val (.long ((0 : Int64) + x1)), .second, .val (.ref b_4), .val (.int (5 : Int32)), .val (.int (((0 : Int32) + (1 : Int32)) + (1 : Int32))), .val (.ref w_FAILURE)] [(.int (5 : Int32)), (.int (((0 : Int32) + (1 : Int32)) + (1 : Int32)))]))
  refine own_icmpNo X12 hx (hb hby d1_31) (tlt (by decide : (((0 : Int32) + (1 : Int32)) + (1 : Int32)) < (5 : Int32))).2.1 ?_
  show Goes _ _ _ _ _ _ (T12.setTop (mkF m 34 #[.val (.ref a1), .val (.ref a2), .val (.long (((0 : Int64) + x0) + x1)), .second, .val (.long ((0 : Int64) + x1)), .second, .val (.ref b_4), .val (.int (5 : Int32)), .val (.int (((0 : Int32) + (1 : Int32)) + (1 : Int32))), .val (.ref w_FAILURE)] []))
  refine own_aload X12 hx (hb hby d1_34) rfl rfl ?_
  show Goes _ _ _ _ _ _ (T12.setTop (mkF m 36 #[.val (.ref a1), .val (.ref a2), .val (.long (((0 : Int64) + x0) + x1)), .second, .val (.long ((0 : Int64) + x1)), .second, .val (.ref b_4), .val (.int (5 : Int32)), .val (.int (((0 : Int32) + (1 : Int32)) + (1 : Int32))), .val (.ref w_FAILURE)] [(.ref b_4)]))
  refine own_iload X12 hx (hb hby d1_36) rfl ?_
  show Goes _ _ _ _ _ _ (T12.setTop (mkF m 38 #[.val (.ref a1), .val (.ref a2), .val (.long (((0 : Int64) + x0) + x1)), .second, .val (.long ((0 : Int64) + x1)), .second, .val (.ref b_4), .val (.int (5 : Int32)), .val (.int (((0 : Int32) + (1 : Int32)) + (1 : Int32))), .val (.ref w_FAILURE)] [(.int (((0 : Int32) + (1 : Int32)) + (1 : Int32))), (.ref b_4)]))
  refine own_aaload X12 hx hZ e12 r4_1 rfl ⟨by decide, by decide⟩ (v := (.ref w_TIMEOUT)) rfl (hb hby d1_38) ?_
  show Goes _ _ _ _ _ _ (T12.setTop (mkF m 39 #[.val (.ref a1), .val (.ref a2), .val (.long (((0 : Int64) + x0) + x1)), .second, .val (.long ((0 : Int64) + x1)), .second, .val (.ref b_4), .val (.int (5 : Int32)), .val (.int (((0 : Int32) + (1 : Int32)) + (1 : Int32))), .val (.ref w_FAILURE)] [(.ref w_TIMEOUT)]))
  refine own_astore X12 hx (Ls' := #[.val (.ref a1), .val (.ref a2), .val (.long (((0 : Int64) + x0) + x1)), .second, .val (.long ((0 : Int64) + x1)), .second, .val (.ref b_4), .val (.int (5 : Int32)), .val (.int (((0 : Int32) + (1 : Int32)) + (1 : Int32))), .val (.ref w_TIMEOUT)]) (hb hby d1_39) rfl rfl ?_
  show Goes _ _ _ _ _ _ (T12.setTop (mkF m 41 #[.val (.ref a1), .val (.ref a2), .val (.long (((0 : Int64) + x0) + x1)), .second, .val (.long ((0 : Int64) + x1)), .second, .val (.ref b_4), .val (.int (5 : Int32)), .val (.int (((0 : Int32) + (1 : Int32)) + (1 : Int32))), .val (.ref w_TIMEOUT)] []))
  refine own_aload X12 hx (hb hby d1_41) rfl rfl ?_
  show Goes _ _ _ _ _ _ (T12.setTop (mkF m 43 #[.val (.ref a1), .val (.ref a2), .val (.long (((0 : Int64) + x0) + x1)), .second, .val (.long ((0 : Int64) + x1)), .second, .val (.ref b_4), .val (.int (5 : Int32)), .val (.int (((0 : Int32) + (1 : Int32)) + (1 : Int32))), .val (.ref w_TIMEOUT)] [(.ref w_TIMEOUT)]))
  refine own_virtual X12 hx hZ hown (y := (⟨"com/example/fuseline/fuseline/OutcomeKind", "isCounted", "()Z"⟩ : MethodName)) (z := (⟨"com/example/fuseline/fuseline/OutcomeKind", "isCounted", "()Z"⟩ : MethodName)) (hw _ (List.mem_of_getElem? (i := 35) rfl)) (hw _ (List.mem_of_getElem? (i := 36) rfl)) (notFace_of_selects (args := #[]) (mvT hZ (hw _ (List.mem_of_getElem? (i := 38) rfl)))) (hw _ (List.mem_of_getElem? (i := 38) rfl)) (hw _ (List.mem_of_getElem? (i := 37) rfl)) (hw _ (List.mem_of_getElem? (i := 16) rfl)) (hw _ (List.mem_of_getElem? (i := 39) rfl)) (a := w_TIMEOUT) (z7.ext O5.2) (by decide) (W := 0) (by decide) (by decide) N12 e12 (by rw [hml]; rfl) (argsL := []) (rest := []) (lenOf pd_1 rfl) (Nat.le_of_eq rfl) (by decide) (by decide) (rm41 l Z a0 hw [] w_TIMEOUT T4.heap n0 O5 (z19.ext O5.2)) rfl (hb hby d1_43) ?_
  intro v13 T13 lc13 X13 N13 hQ13
  obtain ⟨rfl, e13⟩ := hQ13
  show Goes _ _ _ _ _ _ (T13.setTop (mkF m 46 #[.val (.ref a1), .val (.ref a2), .val (.long (((0 : Int64) + x0) + x1)), .second, .val (.long ((0 : Int64) + x1)), .second, .val (.ref b_4), .val (.int (5 : Int32)), .val (.int (((0 : Int32) + (1 : Int32)) + (1 : Int32))), .val (.ref w_TIMEOUT)] [(.int (1 : Int32))]))
  refine own_ifNo X13 hx (hb hby d1_46) ((if0 _ _).trans (feq (by decide : ¬ ((1 : Int32) = (0 : Int32)))).1) ?_
  show Goes _ _ _ _ _ _ (T13.setTop (mkF m 49 #[.val (.ref a1), .val (.ref a2), .val (.long (((0 : Int64) + x0) + x1)), .second, .val (.long ((0 : Int64) + x1)), .second, .val (.ref b_4), .val (.int (5 : Int32)), .val (.int (((0 : Int32) + (1 : Int32)) + (1 : Int32))), .val (.ref w_TIMEOUT)] []))
  refine own_lloadN X13 hx (hb hby d1_49) rfl ?_
  show Goes _ _ _ _ _ _ (T13.setTop (mkF m 50 #[.val (.ref a1), .val (.ref a2), .val (.long (((0 : Int64) + x0) + x1)), .second, .val (.long ((0 : Int64) + x1)), .second, .val (.ref b_4), .val (.int (5 : Int32)), .val (.int (((0 : Int32) + (1 : Int32)) + (1 : Int32))), .val (.ref w_TIMEOUT)] [(.long (((0 : Int64) + x0) + x1))]))
  refine own_aloadN X13 hx (hb hby d1_50) rfl rfl ?_
  show Goes _ _ _ _ _ _ (T13.setTop (mkF m 51 #[.val (.ref a1), .val (.ref a2), .val (.long (((0 : Int64) + x0) + x1)), .second, .val (.long ((0 : Int64) + x1)), .second, .val (.ref b_4), .val (.int (5 : Int32)), .val (.int (((0 : Int32) + (1 : Int32)) + (1 : Int32))), .val (.ref w_TIMEOUT)] [(.ref a2), (.long (((0 : Int64) + x0) + x1))]))
  refine own_aload X13 hx (hb hby d1_51) rfl rfl ?_
  show Goes _ _ _ _ _ _ (T13.setTop (mkF m 53 #[.val (.ref a1), .val (.ref a2), .val (.long (((0 : Int64) + x0) + x1)), .second, .val (.long ((0 : Int64) + x1)), .second, .val (.ref b_4), .val (.int (5 : Int32)), .val (.int (((0 : Int32) + (1 : Int32)) + (1 : Int32))), .val (.ref w_TIMEOUT)] [(.ref w_TIMEOUT), (.ref a2), (.long (((0 : Int64) + x0) + x1))]))
  refine own_virtualUp X13 hx hZ hown (y := (⟨"com/example/fuseline/fuseline/OutcomeKind", "ordinal", "()I"⟩ : MethodName)) (z := (⟨"java/lang/Enum", "ordinal", "()I"⟩ : MethodName)) (owner := "java/lang/Enum") (hw _ (List.mem_of_getElem? (i := 42) rfl)) (hw _ (List.mem_of_getElem? (i := 43) rfl)) (hw _ (List.mem_of_getElem? (i := 44) rfl)) (hw _ (List.mem_of_getElem? (i := 46) rfl)) (hw _ (List.mem_of_getElem? (i := 45) rfl)) (hw _ (List.mem_of_getElem? (i := 47) rfl)) (hw _ (List.mem_of_getElem? (i := 48) rfl)) (a := w_TIMEOUT) (z7.ext O5.2) (by decide) (W := 3) (by decide) (by decide) N13 e13 (by rw [hml]; rfl) (argsL := []) (rest := [(.ref a2), (.long (((0 : Int64) + x0) + x1))]) (lenOf pd_2 rfl) (Nat.le_of_eq rfl) (by decide) (by decide) (rm5 l Z a0 hw [] w_TIMEOUT (2 : Int32) T4.heap n0 O5 (z20.ext O5.2)) rfl (hb hby d1_53) ?_
  intro v14 T14 lc14 X14 N14 hQ14
  obtain ⟨rfl, e14⟩ := hQ14
  show Goes _ _ _ _ _ _ (T14.setTop (mkF m 56 #[.val (.ref a1), .val (.ref a2), .val (.long (((0 : Int64) + x0) + x1)), .second, .val (.long ((0 : Int64) + x1)), .second, .val (.ref b_4), .val (.int (5 : Int32)), .val (.int (((0 : Int32) + (1 : Int32)) + (1 : Int32))), .val (.ref w_TIMEOUT)] [(.int (2 : Int32)), (.ref a2), (.long (((0 : Int64) + x0) + x1))]))
  refine own_laload X14 hx hZ e14 A5_a2 ⟨by decide, by decide⟩ (v := (.long x2)) rfl (hb hby d1_56) ?_
  show Goes _ _ _ _ _ _ (T14.setTop (mkF m 57 #[.val (.ref a1), .val (.ref a2), .val (.long (((0 : Int64) + x0) + x1)), .second, .val (.long ((0 : Int64) + x1)), .second, .val (.ref b_4), .val (.int (5 : Int32)), .val (.int (((0 : Int32) + (1 : Int32)) + (1 : Int32))), .val (.ref w_TIMEOUT)] [(.long x2), (.long (((0 : Int64) + x0) + x1))]))
  refine own_ladd X14 hx (hb hby d1_57) ?_
  show Goes _ _ _ _ _ _ (T14.setTop (mkF m 58 #[.val (.ref a1), .val (.ref a2), .val (.long (((0 : Int64) + x0) + x1)), .second, .val (.long ((0 : Int64) + x1)), .second, .val (.ref b_4), .val (.int (5 : Int32)), .val (.int (((0 : Int32) + (1 : Int32)) + (1 : Int32))), .val (.ref w_TIMEOUT)] [(.long ((((0 : Int64) + x0) + x1) + x2))]))
  refine own_lstoreN X14 hx (Ls' := #[.val (.ref a1), .val (.ref a2), .val (.long ((((0 : Int64) + x0) + x1) + x2)), .second, .val (.long ((0 : Int64) + x1)), .second, .val (.ref b_4), .val (.int (5 : Int32)), .val (.int (((0 : Int32) + (1 : Int32)) + (1 : Int32))), .val (.ref w_TIMEOUT)]) (hb hby d1_58) rfl ?_
  show Goes _ _ _ _ _ _ (T14.setTop (mkF m 59 #[.val (.ref a1), .val (.ref a2), .val (.long ((((0 : Int64) + x0) + x1) + x2)), .second, .val (.long ((0 : Int64) + x1)), .second, .val (.ref b_4), .val (.int (5 : Int32)), .val (.int (((0 : Int32) + (1 : Int32)) + (1 : Int32))), .val (.ref w_TIMEOUT)] []))
  refine own_aload X14 hx (hb hby d1_59) rfl rfl ?_
  show Goes _ _ _ _ _ _ (T14.setTop (mkF m 61 #[.val (.ref a1), .val (.ref a2), .val (.long ((((0 : Int64) + x0) + x1) + x2)), .second, .val (.long ((0 : Int64) + x1)), .second, .val (.ref b_4), .val (.int (5 : Int32)), .val (.int (((0 : Int32) + (1 : Int32)) + (1 : Int32))), .val (.ref w_TIMEOUT)] [(.ref w_TIMEOUT)]))
  refine own_virtual X14 hx hZ hown (y := (⟨"com/example/fuseline/fuseline/OutcomeKind", "isError", "()Z"⟩ : MethodName)) (z := (⟨"com/example/fuseline/fuseline/OutcomeKind", "isError", "()Z"⟩ : MethodName)) (hw _ (List.mem_of_getElem? (i := 51) rfl)) (hw _ (List.mem_of_getElem? (i := 52) rfl)) (notFace_of_selects (args := #[]) (mvT hZ (hw _ (List.mem_of_getElem? (i := 54) rfl)))) (hw _ (List.mem_of_getElem? (i := 54) rfl)) (hw _ (List.mem_of_getElem? (i := 53) rfl)) (hw _ (List.mem_of_getElem? (i := 16) rfl)) (hw _ (List.mem_of_getElem? (i := 55) rfl)) (a := w_TIMEOUT) (z7.ext O5.2) (by decide) (W := 0) (by decide) (by decide) N14 e14 (by rw [hml]; rfl) (argsL := []) (rest := []) (lenOf pd_1 rfl) (Nat.le_of_eq rfl) (by decide) (by decide) (rm61 l Z a0 hw [] w_TIMEOUT T4.heap n0 O5 (z21.ext O5.2)) rfl (hb hby d1_61) ?_
  intro v15 T15 lc15 X15 N15 hQ15
  obtain ⟨rfl, e15⟩ := hQ15
  show Goes _ _ _ _ _ _ (T15.setTop (mkF m 64 #[.val (.ref a1), .val (.ref a2), .val (.long ((((0 : Int64) + x0) + x1) + x2)), .second, .val (.long ((0 : Int64) + x1)), .second, .val (.ref b_4), .val (.int (5 : Int32)), .val (.int (((0 : Int32) + (1 : Int32)) + (1 : Int32))), .val (.ref w_TIMEOUT)] [(.int (1 : Int32))]))
  refine own_ifNo X15 hx (hb hby d1_64) ((if0 _ _).trans (feq (by decide : ¬ ((1 : Int32) = (0 : Int32)))).1) ?_
  show Goes _ _ _ _ _ _ (T15.setTop (mkF m 67 #[.val (.ref a1), .val (.ref a2), .val (.long ((((0 : Int64) + x0) + x1) + x2)), .second, .val (.long ((0 : Int64) + x1)), .second, .val (.ref b_4), .val (.int (5 : Int32)), .val (.int (((0 : Int32) + (1 : Int32)) + (1 : Int32))), .val (.ref w_TIMEOUT)] []))
  refine own_lload X15 hx (hb hby d1_67) rfl ?_
  show Goes _ _ _ _ _ _ (T15.setTop (mkF m 69 #[.val (.ref a1), .val (.ref a2), .val (.long ((((0 : Int64) + x0) + x1) + x2)), .second, .val (.long ((0 : Int64) + x1)), .second, .val (.ref b_4), .val (.int (5 : Int32)), .val (.int (((0 : Int32) + (1 : Int32)) + (1 : Int32))), .val (.ref w_TIMEOUT)] [(.long ((0 : Int64) + x1))]))
  refine own_aloadN X15 hx (hb hby d1_69) rfl rfl ?_
  show Goes _ _ _ _ _ _ (T15.setTop (mkF m 70 #[.val (.ref a1), .val (.ref a2), .val (.long ((((0 : Int64) + x0) + x1) + x2)), .second, .val (.long ((0 : Int64) + x1)), .second, .val (.ref b_4), .val (.int (5 : Int32)), .val (.int (((0 : Int32) + (1 : Int32)) + (1 : Int32))), .val (.ref w_TIMEOUT)] [(.ref a2), (.long ((0 : Int64) + x1))]))
  refine own_aload X15 hx (hb hby d1_70) rfl rfl ?_
  show Goes _ _ _ _ _ _ (T15.setTop (mkF m 72 #[.val (.ref a1), .val (.ref a2), .val (.long ((((0 : Int64) + x0) + x1) + x2)), .second, .val (.long ((0 : Int64) + x1)), .second, .val (.ref b_4), .val (.int (5 : Int32)), .val (.int (((0 : Int32) + (1 : Int32)) + (1 : Int32))), .val (.ref w_TIMEOUT)] [(.ref w_TIMEOUT), (.ref a2), (.long ((0 : Int64) + x1))]))
  refine own_virtualUp X15 hx hZ hown (y := (⟨"com/example/fuseline/fuseline/OutcomeKind", "ordinal", "()I"⟩ : MethodName)) (z := (⟨"java/lang/Enum", "ordinal", "()I"⟩ : MethodName)) (owner := "java/lang/Enum") (hw _ (List.mem_of_getElem? (i := 42) rfl)) (hw _ (List.mem_of_getElem? (i := 43) rfl)) (hw _ (List.mem_of_getElem? (i := 44) rfl)) (hw _ (List.mem_of_getElem? (i := 46) rfl)) (hw _ (List.mem_of_getElem? (i := 45) rfl)) (hw _ (List.mem_of_getElem? (i := 47) rfl)) (hw _ (List.mem_of_getElem? (i := 48) rfl)) (a := w_TIMEOUT) (z7.ext O5.2) (by decide) (W := 3) (by decide) (by decide) N15 e15 (by rw [hml]; rfl) (argsL := []) (rest := [(.ref a2), (.long ((0 : Int64) + x1))]) (lenOf pd_2 rfl) (Nat.le_of_eq rfl) (by decide) (by decide) (rm5 l Z a0 hw [] w_TIMEOUT (2 : Int32) T4.heap n0 O5 (z20.ext O5.2)) rfl (hb hby d1_72) ?_
  intro v16 T16 lc16 X16 N16 hQ16
  obtain ⟨rfl, e16⟩ := hQ16
  show Goes _ _ _ _ _ _ (T16.setTop (mkF m 75 #[.val (.ref a1), .val (.ref a2), .val (.long ((((0 : Int64) + x0) + x1) + x2)), .second, .val (.long ((0 : Int64) + x1)), .second, .val (.ref b_4), .val (.int (5 : Int32)), .val (.int (((0 : Int32) + (1 : Int32)) + (1 : Int32))), .val (.ref w_TIMEOUT)] [(.int (2 : Int32)), (.ref a2), (.long ((0 : Int64) + x1))]))
  refine own_laload X16 hx hZ e16 A5_a2 ⟨by decide, by decide⟩ (v := (.long x2)) rfl (hb hby d1_75) ?_
  show Goes _ _ _ _ _ _ (T16.setTop (mkF m 76 #[.val (.ref a1), .val (.ref a2), .val (.long ((((0 : Int64) + x0) + x1) + x2)), .second, .val (.long ((0 : Int64) + x1)), .second, .val (.ref b_4), .val (.int (5 : Int32)), .val (.int (((0 : Int32) + (1 : Int32)) + (1 : Int32))), .val (.ref w_TIMEOUT)] [(.long x2), (.long ((0 : Int64) + x1))]))
  refine own_ladd X16 hx (hb hby d1_76) ?_
  show Goes _ _ _ _ _ _ (T16.setTop (mkF m 77 #[.val (.ref a1), .val (.ref a2), .val (.long ((((0 : Int64) + x0) + x1) + x2)), .second, .val (.long ((0 : Int64) + x1)), .second, .val (.ref b_4), .val (.int (5 : Int32)), .val (.int (((0 : Int32) + (1 : Int32)) + (1 : Int32))), .val (.ref w_TIMEOUT)] [(.long (((0 : Int64) + x1) + x2))]))
  refine own_lstore X16 hx (Ls' := #[.val (.ref a1), .val (.ref a2), .val (.long ((((0 : Int64) + x0) + x1) + x2)), .second, .val (.long (((0 : Int64) + x1) + x2)), .second, .val (.ref b_4), .val (.int (5 : Int32)), .val (.int (((0 : Int32) + (1 : Int32)) + (1 : Int32))), .val (.ref w_TIMEOUT)]) (hb hby d1_77) rfl ?_
  show Goes _ _ _ _ _ _ (T16.setTop (mkF m 79 #[.val (.ref a1), .val (.ref a2), .val (.long ((((0 : Int64) + x0) + x1) + x2)), .second, .val (.long (((0 : Int64) + x1) + x2)), .second, .val (.ref b_4), .val (.int (5 : Int32)), .val (.int (((0 : Int32) + (1 : Int32)) + (1 : Int32))), .val (.ref w_TIMEOUT)] []))
  refine own_iinc X16 hx (Ls' := #[.val (.ref a1), .val (.ref a2), .val (.long ((((0 : Int64) + x0) + x1) + x2)), .second, .val (.long (((0 : Int64) + x1) + x2)), .second, .val (.ref b_4), .val (.int (5 : Int32)), .val (.int ((((0 : Int32) + (1 : Int32)) + (1 : Int32)) + (1 : Int32))), .val (.ref w_TIMEOUT)]) (hb hby d1_79) rfl rfl ?_
  show Goes _ _ _ _ _ _ (T16.setTop (mkF m 82 #[.val (.ref a1), .val (.ref a2), .val (.long ((((0 : Int64) + x0) + x1) + x2)), .second, .val (.long (((0 : Int64) + x1) + x2)), .second, .val (.ref b_4), .val (.int (5 : Int32)), .val (.int ((((0 : Int32) + (1 : Int32)) + (1 : Int32)) + (1 : Int32))), .val (.ref w_TIMEOUT)] []))
  refine own_goto X16 hx (pc' := 27) (hb hby d1_82) (by decide) (by decide) ?_
  show Goes _ _ _ _ _ _ (T16.setTop (mkF m 27 #[.val (.ref a1), .val (.ref a2), .val (.long ((((0 : Int64) + x0) + x1) + x2)), .second, .val (.long (((0 : Int64) + x1) + x2)), .second, .val (.ref b_4), .val (.int (5 : Int32)), .val (.int ((((0 : Int32) + (1 : Int32)) + (1 : Int32)) + (1 : Int32))), .val (.ref w_TIMEOUT)] []))
  refine own_iload X16 hx (hb hby d1_27) rfl ?_
  show Goes _ _ _ _ _ _ (T16.setTop (mkF m 29 #[.val (.ref a1), .val (.ref a2), .val (.long ((((0 : Int64) + x0) + x1) + x2)), .second, .val (.long (((0 : Int64) + x1) + x2)), .second, .val (.ref b_4), .val (.int (5 : Int32)), .val (.int ((((0 : Int32) + (1 : Int32)) + (1 : Int32)) + (1 : Int32))), .val (.ref w_TIMEOUT)] [(.int ((((0 : Int32) + (1 : Int32)) + (1 : Int32)) + (1 : Int32)))]))
  refine own_iload X16 hx (hb hby d1_29) rfl ?_
  show Goes _ _ _ _ _ _ (T16.setTop (mkF m 31 #[.val (.ref a1), .val (.ref a2), .val (.long ((((0 : Int64) + x0) + x1) + x2)), .second, .val (.long (((0 : Int64) + x1) + x2)), .second, .val (.ref b_4), .val (.int (5 : Int32)), .val (.int ((((0 : Int32) + (1 : Int32)) + (1 : Int32)) + (1 : Int32))), .val (.ref w_TIMEOUT)] [(.int (5 : Int32)), (.int ((((0 : Int32) + (1 : Int32)) + (1 : Int32)) + (1 : Int32)))]))
  refine own_icmpNo X16 hx (hb hby d1_31) (tlt (by decide : ((((0 : Int32) + (1 : Int32)) + (1 : Int32)) + (1 : Int32)) < (5 : Int32))).2.1 ?_
  show Goes _ _ _ _ _ _ (T16.setTop (mkF m 34 #[.val (.ref a1), .val (.ref a2), .val (.long ((((0 : Int64) + x0) + x1) + x2)), .second, .val (.long (((0 : Int64) + x1) + x2)), .second, .val (.ref b_4), .val (.int (5 : Int32)), .val (.int ((((0 : Int32) + (1 : Int32)) + (1 : Int32)) + (1 : Int32))), .val (.ref w_TIMEOUT)] []))
  refine own_aload X16 hx (hb hby d1_34) rfl rfl ?_
  show Goes _ _ _ _ _ _ (T16.setTop (mkF m 36 #[.val (.ref a1), .val (.ref a2), .val (.long ((((0 : Int64) + x0) + x1) + x2)), .second, .val (.long (((0 : Int64) + x1) + x2)), .second, .val (.ref b_4), .val (.int (5 : Int32)), .val (.int ((((0 : Int32) + (1 : Int32)) + (1 : Int32)) + (1 : Int32))), .val (.ref w_TIMEOUT)] [(.ref b_4)]))
  refine own_iload X16 hx (hb hby d1_36) rfl ?_
  show Goes _ _ _ _ _ _ (T16.setTop (mkF m 38 #[.val (.ref a1), .val (.ref a2), .val (.long ((((0 : Int64) + x0) + x1) + x2)), .second, .val (.long (((0 : Int64) + x1) + x2)), .second, .val (.ref b_4), .val (.int (5 : Int32)), .val (.int ((((0 : Int32) + (1 : Int32)) + (1 : Int32)) + (1 : Int32))), .val (.ref w_TIMEOUT)] [(.int ((((0 : Int32) + (1 : Int32)) + (1 : Int32)) + (1 : Int32))), (.ref b_4)]))
  refine own_aaload X16 hx hZ e16 r4_1 rfl ⟨by decide, by decide⟩ (v := (.ref w_REJECTED)) rfl (hb hby d1_38) ?_
  show Goes _ _ _ _ _ _ (T16.setTop (mkF m 39 #[.val (.ref a1), .val (.ref a2), .val (.long ((((0 : Int64) + x0) + x1) + x2)), .second, .val (.long (((0 : Int64) + x1) + x2)), .second, .val (.ref b_4), .val (.int (5 : Int32)), .val (.int ((((0 : Int32) + (1 : Int32)) + (1 : Int32)) + (1 : Int32))), .val (.ref w_TIMEOUT)] [(.ref w_REJECTED)]))
  refine own_astore X16 hx (Ls' := #[.val (.ref a1), .val (.ref a2), .val (.long ((((0 : Int64) + x0) + x1) + x2)), .second, .val (.long (((0 : Int64) + x1) + x2)), .second, .val (.ref b_4), .val (.int (5 : Int32)), .val (.int ((((0 : Int32) + (1 : Int32)) + (1 : Int32)) + (1 : Int32))), .val (.ref w_REJECTED)]) (hb hby d1_39) rfl rfl ?_
  show Goes _ _ _ _ _ _ (T16.setTop (mkF m 41 #[.val (.ref a1), .val (.ref a2), .val (.long ((((0 : Int64) + x0) + x1) + x2)), .second, .val (.long (((0 : Int64) + x1) + x2)), .second, .val (.ref b_4), .val (.int (5 : Int32)), .val (.int ((((0 : Int32) + (1 : Int32)) + (1 : Int32)) + (1 : Int32))), .val (.ref w_REJECTED)] []))
  refine own_aload X16 hx (hb hby d1_41) rfl rfl ?_
  show Goes _ _ _ _ _ _ (T16.setTop (mkF m 43 #[.val (.ref a1), .val (.ref a2), .val (.long ((((0 : Int64) + x0) + x1) + x2)), .second, .val (.long (((0 : Int64) + x1) + x2)), .second, .val (.ref b_4), .val (.int (5 : Int32)), .val (.int ((((0 : Int32) + (1 : Int32)) + (1 : Int32)) + (1 : Int32))), .val (.ref w_REJECTED)] [(.ref w_REJECTED)]))
  refine own_virtual X16 hx hZ hown (y := (⟨"com/example/fuseline/fuseline/OutcomeKind", "isCounted", "()Z"⟩ : MethodName)) (z := (⟨"com/example/fuseline/fuseline/OutcomeKind", "isCounted", "()Z"⟩ : MethodName)) (hw _ (List.mem_of_getElem? (i := 35) rfl)) (hw _ (List.mem_of_getElem? (i := 36) rfl)) (notFace_of_selects (args := #[]) (mvT hZ (hw _ (List.mem_of_getElem? (i := 38) rfl)))) (hw _ (List.mem_of_getElem? (i := 38) rfl)) (hw _ (List.mem_of_getElem? (i := 37) rfl)) (hw _ (List.mem_of_getElem? (i := 16) rfl)) (hw _ (List.mem_of_getElem? (i := 39) rfl)) (a := w_REJECTED) (z9.ext O5.2) (by decide) (W := 0) (by decide) (by decide) N16 e16 (by rw [hml]; rfl) (argsL := []) (rest := []) (lenOf pd_1 rfl) (Nat.le_of_eq rfl) (by decide) (by decide) (rm41 l Z a0 hw [] w_REJECTED T4.heap n0 O5 (z22.ext O5.2)) rfl (hb hby d1_43) ?_
  intro v17 T17 lc17 X17 N17 hQ17
  obtain ⟨rfl, e17⟩ := hQ17
  show Goes _ _ _ _ _ _ (T17.setTop (mkF m 46 #[.val (.ref a1), .val (.ref a2), .val (.long ((((0 : Int64) + x0) + x1) + x2)), .second, .val (.long (((0 : Int64) + x1) + x2)), .second, .val (.ref b_4), .val (.int (5 : Int32)), .val (.int ((((0 : Int32) + (1 : Int32)) + (1 : Int32)) + (1 : Int32))), .val (.ref w_REJECTED)] [(.int (1 : Int32))]))
  refine own_ifNo X17 hx (hb hby d1_46) ((if0 _ _).trans (feq (by decide : ¬ ((1 : Int32) = (0 : Int32)))).1) ?_
  show Goes _ _ _ _ _ _ (T17.setTop (mkF m 49 #[.val (.ref a1), .val (.ref a2), .val (.long ((((0 : Int64) + x0) + x1) + x2)), .second, .val (.long (((0 : Int64) + x1) + x2)), .second, .val (.ref b_4), .val (.int (5 : Int32)), .val (.int ((((0 : Int32) + (1 : Int32)) + (1 : Int32)) + (1 : Int32))), .val (.ref w_REJECTED)] []))
  refine own_lloadN X17 hx (hb hby d1_49) rfl ?_
  show Goes _ _ _ _ _ _ (T17.setTop (mkF m 50 #[.val (.ref a1), .val (.ref a2), .val (.long ((((0 : Int64) + x0) + x1) + x2)), .second, .val (.long (((0 : Int64) + x1) + x2)), .second, .val (.ref b_4), .val (.int (5 : Int32)), .val (.int ((((0 : Int32) + (1 : Int32)) + (1 : Int32)) + (1 : Int32))), .val (.ref w_REJECTED)] [(.long ((((0 : Int64) + x0) + x1) + x2))]))
  refine own_aloadN X17 hx (hb hby d1_50) rfl rfl ?_
  show Goes _ _ _ _ _ _ (T17.setTop (mkF m 51 #[.val (.ref a1), .val (.ref a2), .val (.long ((((0 : Int64) + x0) + x1) + x2)), .second, .val (.long (((0 : Int64) + x1) + x2)), .second, .val (.ref b_4), .val (.int (5 : Int32)), .val (.int ((((0 : Int32) + (1 : Int32)) + (1 : Int32)) + (1 : Int32))), .val (.ref w_REJECTED)] [(.ref a2), (.long ((((0 : Int64) + x0) + x1) + x2))]))
  refine own_aload X17 hx (hb hby d1_51) rfl rfl ?_
  show Goes _ _ _ _ _ _ (T17.setTop (mkF m 53 #[.val (.ref a1), .val (.ref a2), .val (.long ((((0 : Int64) + x0) + x1) + x2)), .second, .val (.long (((0 : Int64) + x1) + x2)), .second, .val (.ref b_4), .val (.int (5 : Int32)), .val (.int ((((0 : Int32) + (1 : Int32)) + (1 : Int32)) + (1 : Int32))), .val (.ref w_REJECTED)] [(.ref w_REJECTED), (.ref a2), (.long ((((0 : Int64) + x0) + x1) + x2))]))
  refine own_virtualUp X17 hx hZ hown (y := (⟨"com/example/fuseline/fuseline/OutcomeKind", "ordinal", "()I"⟩ : MethodName)) (z := (⟨"java/lang/Enum", "ordinal", "()I"⟩ : MethodName)) (owner := "java/lang/Enum") (hw _ (List.mem_of_getElem? (i := 42) rfl)) (hw _ (List.mem_of_getElem? (i := 43) rfl)) (hw _ (List.mem_of_getElem? (i := 44) rfl)) (hw _ (List.mem_of_getElem? (i := 46) rfl)) (hw _ (List.mem_of_getElem? (i := 45) rfl)) (hw _ (List.mem_of_getElem? (i := 47) rfl)) (hw _ (List.mem_of_getElem? (i := 48) rfl)) (a := w_REJECTED) (z9.ext O5.2) (by decide) (W := 3) (by decide) (by decide) N17 e17 (by rw [hml]; rfl) (argsL := []) (rest := [(.ref a2), (.long ((((0 : Int64) + x0) + x1) + x2))]) (lenOf pd_2 rfl) (Nat.le_of_eq rfl) (by decide) (by decide) (rm5 l Z a0 hw [] w_REJECTED (3 : Int32) T4.heap n0 O5 (z23.ext O5.2)) rfl (hb hby d1_53) ?_
  intro v18 T18 lc18 X18 N18 hQ18
  obtain ⟨rfl, e18⟩ := hQ18
  show Goes _ _ _ _ _ _ (T18.setTop (mkF m 56 #[.val (.ref a1), .val (.ref a2), .val (.long ((((0 : Int64) + x0) + x1) + x2)), .second, .val (.long (((0 : Int64) + x1) + x2)), .second, .val (.ref b_4), .val (.int (5 : Int32)), .val (.int ((((0 : Int32) + (1 : Int32)) + (1 : Int32)) + (1 : Int32))), .val (.ref w_REJECTED)] [(.int (3 : Int32)), (.ref a2), (.long ((((0 : Int64) + x0) + x1) + x2))]))
  refine own_laload X18 hx hZ e18 A5_a2 ⟨by decide, by decide⟩ (v := (.long x3)) rfl (hb hby d1_56) ?_
  show Goes _ _ _ _ _ _ (T18.setTop (mkF m 57 #[.val (.ref a1), .val (.ref a2), .val (.long ((((0 : Int64) + x0) + x1) + x2)), .second, .val (.long (((0 : Int64) + x1) + x2)), .second, .val (.ref b_4), .val (.int (5 : Int32)), .val (.int ((((0 : Int32) + (1 : Int32)) + (1 : Int32)) + (1 : Int32))), .val (.ref w_REJECTED)] [(.long x3), (.long ((((0 : Int64) + x0) + x1) + x2))]))
  refine own_ladd X18 hx (hb hby d1_57) ?_
  show Goes _ _ _ _ _ _ (T18.setTop (mkF m 58 #[.val (.ref a1), .val (.ref a2), .val (.long ((((0 : Int64) + x0) + x1) + x2)), .second, .val (.long (((0 : Int64) + x1) + x2)), .second, .val (.ref b_4), .val (.int (5 : Int32)), .val (.int ((((0 : Int32) + (1 : Int32)) + (1 : Int32)) + (1 : Int32))), .val (.ref w_REJECTED)] [(.long (((((0 : Int64) + x0) + x1) + x2) + x3))]))
  refine own_lstoreN X18 hx (Ls' := #[.val (.ref a1), .val (.ref a2), .val (.long (((((0 : Int64) + x0) + x1) + x2) + x3)), .second, .val (.long (((0 : Int64) + x1) + x2)), .second, .val (.ref b_4), .val (.int (5 : Int32)), .val (.int ((((0 : Int32) + (1 : Int32)) + (1 : Int32)) + (1 : Int32))), .val (.ref w_REJECTED)]) (hb hby d1_58) rfl ?_
  show Goes _ _ _ _ _ _ (T18.setTop (mkF m 59 #[.val (.ref a1), .val (.ref a2), .val (.long (((((0 : Int64) + x0) + x1) + x2) + x3)), .second, .val (.long (((0 : Int64) + x1) + x2)), .second, .val (.ref b_4), .val (.int (5 : Int32)), .val (.int ((((0 : Int32) + (1 : Int32)) + (1 : Int32)) + (1 : Int32))), .val (.ref w_REJECTED)] []))
  refine own_aload X18 hx (hb hby d1_59) rfl rfl ?_
  show Goes _ _ _ _ _ _ (T18.setTop (mkF m 61 #[.val (.ref a1), .val (.ref a2), .val (.long (((((0 : Int64) + x0) + x1) + x2) + x3)), .second, .val (.long (((0 : Int64) + x1) + x2)), .second, .val (.ref b_4), .val (.int (5 : Int32)), .val (.int ((((0 : Int32) + (1 : Int32)) + (1 : Int32)) + (1 : Int32))), .val (.ref w_REJECTED)] [(.ref w_REJECTED)]))
  refine own_virtual X18 hx hZ hown (y := (⟨"com/example/fuseline/fuseline/OutcomeKind", "isError", "()Z"⟩ : MethodName)) (z := (⟨"com/example/fuseline/fuseline/OutcomeKind", "isError", "()Z"⟩ : MethodName)) (hw _ (List.mem_of_getElem? (i := 51) rfl)) (hw _ (List.mem_of_getElem? (i := 52) rfl)) (notFace_of_selects (args := #[]) (mvT hZ (hw _ (List.mem_of_getElem? (i := 54) rfl)))) (hw _ (List.mem_of_getElem? (i := 54) rfl)) (hw _ (List.mem_of_getElem? (i := 53) rfl)) (hw _ (List.mem_of_getElem? (i := 16) rfl)) (hw _ (List.mem_of_getElem? (i := 55) rfl)) (a := w_REJECTED) (z9.ext O5.2) (by decide) (W := 0) (by decide) (by decide) N18 e18 (by rw [hml]; rfl) (argsL := []) (rest := []) (lenOf pd_1 rfl) (Nat.le_of_eq rfl) (by decide) (by decide) (rm61 l Z a0 hw [] w_REJECTED T4.heap n0 O5 (z24.ext O5.2)) rfl (hb hby d1_61) ?_
  intro v19 T19 lc19 X19 N19 hQ19
  obtain ⟨rfl, e19⟩ := hQ19
  show Goes _ _ _ _ _ _ (T19.setTop (mkF m 64 #[.val (.ref a1), .val (.ref a2), .val (.long (((((0 : Int64) + x0) + x1) + x2) + x3)), .second, .val (.long (((0 : Int64) + x1) + x2)), .second, .val (.ref b_4), .val (.int (5 : Int32)), .val (.int ((((0 : Int32) + (1 : Int32)) + (1 : Int32)) + (1 : Int32))), .val (.ref w_REJECTED)] [(.int (1 : Int32))]))
  refine own_ifNo X19 hx (hb hby d1_64) ((if0 _ _).trans (feq (by decide : ¬ ((1 : Int32) = (0 : Int32)))).1) ?_
  show Goes _ _ _ _ _ _ (T19.setTop (mkF m 67 #[.val (.ref a1), .val (.ref a2), .val (.long (((((0 : Int64) + x0) + x1) + x2) + x3)), .second, .val (.long (((0 : Int64) + x1) + x2)), .second, .val (.ref b_4), .val (.int (5 : Int32)), .val (.int ((((0 : Int32) + (1 : Int32)) + (1 : Int32)) + (1 : Int32))), .val (.ref w_REJECTED)] []))
  refine own_lload X19 hx (hb hby d1_67) rfl ?_
  show Goes _ _ _ _ _ _ (T19.setTop (mkF m 69 #[.val (.ref a1), .val (.ref a2), .val (.long (((((0 : Int64) + x0) + x1) + x2) + x3)), .second, .val (.long (((0 : Int64) + x1) + x2)), .second, .val (.ref b_4), .val (.int (5 : Int32)), .val (.int ((((0 : Int32) + (1 : Int32)) + (1 : Int32)) + (1 : Int32))), .val (.ref w_REJECTED)] [(.long (((0 : Int64) + x1) + x2))]))
  refine own_aloadN X19 hx (hb hby d1_69) rfl rfl ?_
  show Goes _ _ _ _ _ _ (T19.setTop (mkF m 70 #[.val (.ref a1), .val (.ref a2), .val (.long (((((0 : Int64) + x0) + x1) + x2) + x3)), .second, .val (.long (((0 : Int64) + x1) + x2)), .second, .val (.ref b_4), .val (.int (5 : Int32)), .val (.int ((((0 : Int32) + (1 : Int32)) + (1 : Int32)) + (1 : Int32))), .val (.ref w_REJECTED)] [(.ref a2), (.long (((0 : Int64) + x1) + x2))]))
  refine own_aload X19 hx (hb hby d1_70) rfl rfl ?_
  show Goes _ _ _ _ _ _ (T19.setTop (mkF m 72 #[.val (.ref a1), .val (.ref a2), .val (.long (((((0 : Int64) + x0) + x1) + x2) + x3)), .second, .val (.long (((0 : Int64) + x1) + x2)), .second, .val (.ref b_4), .val (.int (5 : Int32)), .val (.int ((((0 : Int32) + (1 : Int32)) + (1 : Int32)) + (1 : Int32))), .val (.ref w_REJECTED)] [(.ref w_REJECTED), (.ref a2), (.long (((0 : Int64) + x1) + x2))]))
  refine own_virtualUp X19 hx hZ hown (y := (⟨"com/example/fuseline/fuseline/OutcomeKind", "ordinal", "()I"⟩ : MethodName)) (z := (⟨"java/lang/Enum", "ordinal", "()I"⟩ : MethodName)) (owner := "java/lang/Enum") (hw _ (List.mem_of_getElem? (i := 42) rfl)) (hw _ (List.mem_of_getElem? (i := 43) rfl)) (hw _ (List.mem_of_getElem? (i := 44) rfl)) (hw _ (List.mem_of_getElem? (i := 46) rfl)) (hw _ (List.mem_of_getElem? (i := 45) rfl)) (hw _ (List.mem_of_getElem? (i := 47) rfl)) (hw _ (List.mem_of_getElem? (i := 48) rfl)) (a := w_REJECTED) (z9.ext O5.2) (by decide) (W := 3) (by decide) (by decide) N19 e19 (by rw [hml]; rfl) (argsL := []) (rest := [(.ref a2), (.long (((0 : Int64) + x1) + x2))]) (lenOf pd_2 rfl) (Nat.le_of_eq rfl) (by decide) (by decide) (rm5 l Z a0 hw [] w_REJECTED (3 : Int32) T4.heap n0 O5 (z23.ext O5.2)) rfl (hb hby d1_72) ?_
  intro v20 T20 lc20 X20 N20 hQ20
  obtain ⟨rfl, e20⟩ := hQ20
  show Goes _ _ _ _ _ _ (T20.setTop (mkF m 75 #[.val (.ref a1), .val (.ref a2), .val (.long (((((0 : Int64) + x0) + x1) + x2) + x3)), .second, .val (.long (((0 : Int64) + x1) + x2)), .second, .val (.ref b_4), .val (.int (5 : Int32)), .val (.int ((((0 : Int32) + (1 : Int32)) + (1 : Int32)) + (1 : Int32))), .val (.ref w_REJECTED)] [(.int (3 : Int32)), (.ref a2), (.long (((0 : Int64) + x1) + x2))]))
  refine own_laload X20 hx hZ e20 A5_a2 ⟨by decide, by decide⟩ (v := (.long x3)) rfl (hb hby d1_75) ?_
  show Goes _ _ _ _ _ _ (T20.setTop (mkF m 76 #[.val (.ref a1), .val (.ref a2), .val (.long (((((0 : Int64) + x0) + x1) + x2) + x3)), .second, .val (.long (((0 : Int64) + x1) + x2)), .second, .val (.ref b_4), .val (.int (5 : Int32)), .val (.int ((((0 : Int32) + (1 : Int32)) + (1 : Int32)) + (1 : Int32))), .val (.ref w_REJECTED)] [(.long x3), (.long (((0 : Int64) + x1) + x2))]))
  refine own_ladd X20 hx (hb hby d1_76) ?_
  show Goes _ _ _ _ _ _ (T20.setTop (mkF m 77 #[.val (.ref a1), .val (.ref a2), .val (.long (((((0 : Int64) + x0) + x1) + x2) + x3)), .second, .val (.long (((0 : Int64) + x1) + x2)), .second, .val (.ref b_4), .val (.int (5 : Int32)), .val (.int ((((0 : Int32) + (1 : Int32)) + (1 : Int32)) + (1 : Int32))), .val (.ref w_REJECTED)] [(.long ((((0 : Int64) + x1) + x2) + x3))]))
  refine own_lstore X20 hx (Ls' := #[.val (.ref a1), .val (.ref a2), .val (.long (((((0 : Int64) + x0) + x1) + x2) + x3)), .second, .val (.long ((((0 : Int64) + x1) + x2) + x3)), .second, .val (.ref b_4), .val (.int (5 : Int32)), .val (.int ((((0 : Int32) + (1 : Int32)) + (1 : Int32)) + (1 : Int32))), .val (.ref w_REJECTED)]) (hb hby d1_77) rfl ?_
  show Goes _ _ _ _ _ _ (T20.setTop (mkF m 79 #[.val (.ref a1), .val (.ref a2), .val (.long (((((0 : Int64) + x0) + x1) + x2) + x3)), .second, .val (.long ((((0 : Int64) + x1) + x2) + x3)), .second, .val (.ref b_4), .val (.int (5 : Int32)), .val (.int ((((0 : Int32) + (1 : Int32)) + (1 : Int32)) + (1 : Int32))), .val (.ref w_REJECTED)] []))
  refine own_iinc X20 hx (Ls' := #[.val (.ref a1), .val (.ref a2), .val (.long (((((0 : Int64) + x0) + x1) + x2) + x3)), .second, .val (.long ((((0 : Int64) + x1) + x2) + x3)), .second, .val (.ref b_4), .val (.int (5 : Int32)), .val (.int (((((0 : Int32) + (1 : Int32)) + (1 : Int32)) + (1 : Int32)) + (1 : Int32))), .val (.ref w_REJECTED)]) (hb hby d1_79) rfl rfl ?_
  show Goes _ _ _ _ _ _ (T20.setTop (mkF m 82 #[.val (.ref a1), .val (.ref a2), .val (.long (((((0 : Int64) + x0) + x1) + x2) + x3)), .second, .val (.long ((((0 : Int64) + x1) + x2) + x3)), .second, .val (.ref b_4), .val (.int (5 : Int32)), .val (.int (((((0 : Int32) + (1 : Int32)) + (1 : Int32)) + (1 : Int32)) + (1 : Int32))), .val (.ref w_REJECTED)] []))
  refine own_goto X20 hx (pc' := 27) (hb hby d1_82) (by decide) (by decide) ?_
  show Goes _ _ _ _ _ _ (T20.setTop (mkF m 27 #[.val (.ref a1), .val (.ref a2), .val (.long (((((0 : Int64) + x0) + x1) + x2) + x3)), .second, .val (.long ((((0 : Int64) + x1) + x2) + x3)), .second, .val (.ref b_4), .val (.int (5 : Int32)), .val (.int (((((0 : Int32) + (1 : Int32)) + (1 : Int32)) + (1 : Int32)) + (1 : Int32))), .val (.ref w_REJECTED)] []))
  refine own_iload X20 hx (hb hby d1_27) rfl ?_
  show Goes _ _ _ _ _ _ (T20.setTop (mkF m 29 #[.val (.ref a1), .val (.ref a2), .val (.long (((((0 : Int64) + x0) + x1) + x2) + x3)), .second, .val (.long ((((0 : Int64) + x1) + x2) + x3)), .second, .val (.ref b_4), .val (.int (5 : Int32)), .val (.int (((((0 : Int32) + (1 : Int32)) + (1 : Int32)) + (1 : Int32)) + (1 : Int32))), .val (.ref w_REJECTED)] [(.int (((((0 : Int32) + (1 : Int32)) + (1 : Int32)) + (1 : Int32)) + (1 : Int32)))]))
  refine own_iload X20 hx (hb hby d1_29) rfl ?_
  show Goes _ _ _ _ _ _ (T20.setTop (mkF m 31 #[.val (.ref a1), .val (.ref a2), .val (.long (((((0 : Int64) + x0) + x1) + x2) + x3)), .second, .val (.long ((((0 : Int64) + x1) + x2) + x3)), .second, .val (.ref b_4), .val (.int (5 : Int32)), .val (.int (((((0 : Int32) + (1 : Int32)) + (1 : Int32)) + (1 : Int32)) + (1 : Int32))), .val (.ref w_REJECTED)] [(.int (5 : Int32)), (.int (((((0 : Int32) + (1 : Int32)) + (1 : Int32)) + (1 : Int32)) + (1 : Int32)))]))
  refine own_icmpNo X20 hx (hb hby d1_31) (tlt (by decide : (((((0 : Int32) + (1 : Int32)) + (1 : Int32)) + (1 : Int32)) + (1 : Int32)) < (5 : Int32))).2.1 ?_
  show Goes _ _ _ _ _ _ (T20.setTop (mkF m 34 #[.val (.ref a1), .val (.ref a2), .val (.long (((((0 : Int64) + x0) + x1) + x2) + x3)), .second, .val (.long ((((0 : Int64) + x1) + x2) + x3)), .second, .val (.ref b_4), .val (.int (5 : Int32)), .val (.int (((((0 : Int32) + (1 : Int32)) + (1 : Int32)) + (1 : Int32)) + (1 : Int32))), .val (.ref w_REJECTED)] []))
  refine own_aload X20 hx (hb hby d1_34) rfl rfl ?_
  show Goes _ _ _ _ _ _ (T20.setTop (mkF m 36 #[.val (.ref a1), .val (.ref a2), .val (.long (((((0 : Int64) + x0) + x1) + x2) + x3)), .second, .val (.long ((((0 : Int64) + x1) + x2) + x3)), .second, .val (.ref b_4), .val (.int (5 : Int32)), .val (.int (((((0 : Int32) + (1 : Int32)) + (1 : Int32)) + (1 : Int32)) + (1 : Int32))), .val (.ref w_REJECTED)] [(.ref b_4)]))
  refine own_iload X20 hx (hb hby d1_36) rfl ?_
  show Goes _ _ _ _ _ _ (T20.setTop (mkF m 38 #[.val (.ref a1), .val (.ref a2), .val (.long (((((0 : Int64) + x0) + x1) + x2) + x3)), .second, .val (.long ((((0 : Int64) + x1) + x2) + x3)), .second, .val (.ref b_4), .val (.int (5 : Int32)), .val (.int (((((0 : Int32) + (1 : Int32)) + (1 : Int32)) + (1 : Int32)) + (1 : Int32))), .val (.ref w_REJECTED)] [(.int (((((0 : Int32) + (1 : Int32)) + (1 : Int32)) + (1 : Int32)) + (1 : Int32))), (.ref b_4)]))
  refine own_aaload X20 hx hZ e20 r4_1 rfl ⟨by decide, by decide⟩ (v := (.ref w_SHORT_CIRCUITED)) rfl (hb hby d1_38) ?_
  show Goes _ _ _ _ _ _ (T20.setTop (mkF m 39 #[.val (.ref a1), .val (.ref a2), .val (.long (((((0 : Int64) + x0) + x1) + x2) + x3)), .second, .val (.long ((((0 : Int64) + x1) + x2) + x3)), .second, .val (.ref b_4), .val (.int (5 : Int32)), .val (.int (((((0 : Int32) + (1 : Int32)) + (1 : Int32)) + (1 : Int32)) + (1 : Int32))), .val (.ref w_REJECTED)] [(.ref w_SHORT_CIRCUITED)]))
  refine own_astore X20 hx (Ls' := #[.val (.ref a1), .val (.ref a2), .val (.long (((((0 : Int64) + x0) + x1) + x2) + x3)), .second, .val (.long ((((0 : Int64) + x1) + x2) + x3)), .second, .val (.ref b_4), .val (.int (5 : Int32)), .val (.int (((((0 : Int32) + (1 : Int32)) + (1 : Int32)) + (1 : Int32)) + (1 : Int32))), .val (.ref w_SHORT_CIRCUITED)]) (hb hby d1_39) rfl rfl ?_
  show Goes _ _ _ _ _ _ (T20.setTop (mkF m 41 #[.val (.ref a1), .val (.ref a2), .val (.long (((((0 : Int64) + x0) + x1) + x2) + x3)), .second, .val (.long ((((0 : Int64) + x1) + x2) + x3)), .second, .val (.ref b_4), .val (.int (5 : Int32)), .val (.int (((((0 : Int32) + (1 : Int32)) + (1 : Int32)) + (1 : Int32)) + (1 : Int32))), .val (.ref w_SHORT_CIRCUITED)] []))
  refine own_aload X20 hx (hb hby d1_41) rfl rfl ?_
  show Goes _ _ _ _ _ _ (T20.setTop (mkF m 43 #[.val (.ref a1), .val (.ref a2), .val (.long (((((0 : Int64) + x0) + x1) + x2) + x3)), .second, .val (.long ((((0 : Int64) + x1) + x2) + x3)), .second, .val (.ref b_4), .val (.int (5 : Int32)), .val (.int (((((0 : Int32) + (1 : Int32)) + (1 : Int32)) + (1 : Int32)) + (1 : Int32))), .val (.ref w_SHORT_CIRCUITED)] [(.ref w_SHORT_CIRCUITED)]))
  refine own_virtual X20 hx hZ hown (y := (⟨"com/example/fuseline/fuseline/OutcomeKind", "isCounted", "()Z"⟩ : MethodName)) (z := (⟨"com/example/fuseline/fuseline/OutcomeKind", "isCounted", "()Z"⟩ : MethodName)) (hw _ (List.mem_of_getElem? (i := 35) rfl)) (hw _ (List.mem_of_getElem? (i := 36) rfl)) (notFace_of_selects (args := #[]) (mvT hZ (hw _ (List.mem_of_getElem? (i := 38) rfl)))) (hw _ (List.mem_of_getElem? (i := 38) rfl)) (hw _ (List.mem_of_getElem? (i := 37) rfl)) (hw _ (List.mem_of_getElem? (i := 16) rfl)) (hw _ (List.mem_of_getElem? (i := 39) rfl)) (a := w_SHORT_CIRCUITED) (z11.ext O5.2) (by decide) (W := 0) (by decide) (by decide) N20 e20 (by rw [hml]; rfl) (argsL := []) (rest := []) (lenOf pd_1 rfl) (Nat.le_of_eq rfl) (by decide) (by decide) (rm40 l Z a0 hw [] w_SHORT_CIRCUITED T4.heap n0 O5 (z25.ext O5.2)) rfl (hb hby d1_43) ?_
  intro v21 T21 lc21 X21 N21 hQ21
  obtain ⟨rfl, e21⟩ := hQ21
  show Goes _ _ _ _ _ _ (T21.setTop (mkF m 46 #[.val (.ref a1), .val (.ref a2), .val (.long (((((0 : Int64) + x0) + x1) + x2) + x3)), .second, .val (.long ((((0 : Int64) + x1) + x2) + x3)), .second, .val (.ref b_4), .val (.int (5 : Int32)), .val (.int (((((0 : Int32) + (1 : Int32)) + (1 : Int32)) + (1 : Int32)) + (1 : Int32))), .val (.ref w_SHORT_CIRCUITED)] [(.int (0 : Int32))]))
  refine own_ifYes X21 hx (pc' := 59) (hb hby d1_46) ((if0 _ _).trans (teq (by decide : (0 : Int32) = (0 : Int32))).1) (by decide) (by decide) ?_
  show Goes _ _ _ _ _ _ (T21.setTop (mkF m 59 #[.val (.ref a1), .val (.ref a2), .val (.long (((((0 : Int64) + x0) + x1) + x2) + x3)), .second, .val (.long ((((0 : Int64) + x1) + x2) + x3)), .second, .val (.ref b_4), .val (.int (5 : Int32)), .val (.int (((((0 : Int32) + (1 : Int32)) + (1 : Int32)) + (1 : Int32)) + (1 : Int32))), .val (.ref w_SHORT_CIRCUITED)] []))
  refine own_aload X21 hx (hb hby d1_59) rfl rfl ?_
  show Goes _ _ _ _ _ _ (T21.setTop (mkF m 61 #[.val (.ref a1), .val (.ref a2), .val (.long (((((0 : Int64) + x0) + x1) + x2) + x3)), .second, .val (.long ((((0 : Int64) + x1) + x2) + x3)), .second, .val (.ref b_4), .val (.int (5 : Int32)), .val (.int (((((0 : Int32) + (1 : Int32)) + (1 : Int32)) + (1 : Int32)) + (1 : Int32))), .val (.ref w_SHORT_CIRCUITED)] [(.ref w_SHORT_CIRCUITED)]))
  refine own_virtual X21 hx hZ hown (y := (⟨"com/example/fuseline/fuseline/OutcomeKind", "isError", "()Z"⟩ : MethodName)) (z := (⟨"com/example/fuseline/fuseline/OutcomeKind", "isError", "()Z"⟩ : MethodName)) (hw _ (List.mem_of_getElem? (i := 51) rfl)) (hw _ (List.mem_of_getElem? (i := 52) rfl)) (notFace_of_selects (args := #[]) (mvT hZ (hw _ (List.mem_of_getElem? (i := 54) rfl)))) (hw _ (List.mem_of_getElem? (i := 54) rfl)) (hw _ (List.mem_of_getElem? (i := 53) rfl)) (hw _ (List.mem_of_getElem? (i := 16) rfl)) (hw _ (List.mem_of_getElem? (i := 55) rfl)) (a := w_SHORT_CIRCUITED) (z11.ext O5.2) (by decide) (W := 0) (by decide) (by decide) N21 e21 (by rw [hml]; rfl) (argsL := []) (rest := []) (lenOf pd_1 rfl) (Nat.le_of_eq rfl) (by decide) (by decide) (rm60 l Z a0 hw [] w_SHORT_CIRCUITED T4.heap n0 O5 (z26.ext O5.2)) rfl (hb hby d1_61) ?_
  intro v22 T22 lc22 X22 N22 hQ22
  obtain ⟨rfl, e22⟩ := hQ22
  show Goes _ _ _ _ _ _ (T22.setTop (mkF m 64 #[.val (.ref a1), .val (.ref a2), .val (.long (((((0 : Int64) + x0) + x1) + x2) + x3)), .second, .val (.long ((((0 : Int64) + x1) + x2) + x3)), .second, .val (.ref b_4), .val (.int (5 : Int32)), .val (.int (((((0 : Int32) + (1 : Int32)) + (1 : Int32)) + (1 : Int32)) + (1 : Int32))), .val (.ref w_SHORT_CIRCUITED)] [(.int (0 : Int32))]))
  refine own_ifYes X22 hx (pc' := 79) (hb hby d1_64) ((if0 _ _).trans (teq (by decide : (0 : Int32) = (0 : Int32))).1) (by decide) (by decide) ?_
  show Goes _ _ _ _ _ _ (T22.setTop (mkF m 79 #[.val (.ref a1), .val (.ref a2), .val (.long (((((0 : Int64) + x0) + x1) + x2) + x3)), .second, .val (.long ((((0 : Int64) + x1) + x2) + x3)), .second, .val (.ref b_4), .val (.int (5 : Int32)), .val (.int (((((0 : Int32) + (1 : Int32)) + (1 : Int32)) + (1 : Int32)) + (1 : Int32))), .val (.ref w_SHORT_CIRCUITED)] []))
  refine own_iinc X22 hx (Ls' := #[.val (.ref a1), .val (.ref a2), .val (.long (((((0 : Int64) + x0) + x1) + x2) + x3)), .second, .val (.long ((((0 : Int64) + x1) + x2) + x3)), .second, .val (.ref b_4), .val (.int (5 : Int32)), .val (.int ((((((0 : Int32) + (1 : Int32)) + (1 : Int32)) + (1 : Int32)) + (1 : Int32)) + (1 : Int32))), .val (.ref w_SHORT_CIRCUITED)]) (hb hby d1_79) rfl rfl ?_
  show Goes _ _ _ _ _ _ (T22.setTop (mkF m 82 #[.val (.ref a1), .val (.ref a2), .val (.long (((((0 : Int64) + x0) + x1) + x2) + x3)), .second, .val (.long ((((0 : Int64) + x1) + x2) + x3)), .second, .val (.ref b_4), .val (.int (5 : Int32)), .val (.int ((((((0 : Int32) + (1 : Int32)) + (1 : Int32)) + (1 : Int32)) + (1 : Int32)) + (1 : Int32))), .val (.ref w_SHORT_CIRCUITED)] []))
  refine own_goto X22 hx (pc' := 27) (hb hby d1_82) (by decide) (by decide) ?_
  show Goes _ _ _ _ _ _ (T22.setTop (mkF m 27 #[.val (.ref a1), .val (.ref a2), .val (.long (((((0 : Int64) + x0) + x1) + x2) + x3)), .second, .val (.long ((((0 : Int64) + x1) + x2) + x3)), .second, .val (.ref b_4), .val (.int (5 : Int32)), .val (.int ((((((0 : Int32) + (1 : Int32)) + (1 : Int32)) + (1 : Int32)) + (1 : Int32)) + (1 : Int32))), .val (.ref w_SHORT_CIRCUITED)] []))
  refine own_iload X22 hx (hb hby d1_27) rfl ?_
  show Goes _ _ _ _ _ _ (T22.setTop (mkF m 29 #[.val (.ref a1), .val (.ref a2), .val (.long (((((0 : Int64) + x0) + x1) + x2) + x3)), .second, .val (.long ((((0 : Int64) + x1) + x2) + x3)), .second, .val (.ref b_4), .val (.int (5 : Int32)), .val (.int ((((((0 : Int32) + (1 : Int32)) + (1 : Int32)) + (1 : Int32)) + (1 : Int32)) + (1 : Int32))), .val (.ref w_SHORT_CIRCUITED)] [(.int ((((((0 : Int32) + (1 : Int32)) + (1 : Int32)) + (1 : Int32)) + (1 : Int32)) + (1 : Int32)))]))
  refine own_iload X22 hx (hb hby d1_29) rfl ?_
  show Goes _ _ _ _ _ _ (T22.setTop (mkF m 31 #[.val (.ref a1), .val (.ref a2), .val (.long (((((0 : Int64) + x0) + x1) + x2) + x3)), .second, .val (.long ((((0 : Int64) + x1) + x2) + x3)), .second, .val (.ref b_4), .val (.int (5 : Int32)), .val (.int ((((((0 : Int32) + (1 : Int32)) + (1 : Int32)) + (1 : Int32)) + (1 : Int32)) + (1 : Int32))), .val (.ref w_SHORT_CIRCUITED)] [(.int (5 : Int32)), (.int ((((((0 : Int32) + (1 : Int32)) + (1 : Int32)) + (1 : Int32)) + (1 : Int32)) + (1 : Int32)))]))
  refine own_icmpYes X22 hx (pc' := 85) (hb hby d1_31) (flt (by decide : ¬ (((((((0 : Int32) + (1 : Int32)) + (1 : Int32)) + (1 : Int32)) + (1 : Int32)) + (1 : Int32)) < (5 : Int32)))).2.1 (by decide) (by decide) ?_
  show Goes _ _ _ _ _ _ (T22.setTop (mkF m 85 #[.val (.ref a1), .val (.ref a2), .val (.long (((((0 : Int64) + x0) + x1) + x2) + x3)), .second, .val (.long ((((0 : Int64) + x1) + x2) + x3)), .second, .val (.ref b_4), .val (.int (5 : Int32)), .val (.int ((((((0 : Int32) + (1 : Int32)) + (1 : Int32)) + (1 : Int32)) + (1 : Int32)) + (1 : Int32))), .val (.ref w_SHORT_CIRCUITED)] []))
  refine own_aloadN X22 hx (hb hby d1_85) rfl rfl ?_
  show Goes _ _ _ _ _ _ (T22.setTop (mkF m 86 #[.val (.ref a1), .val (.ref a2), .val (.long (((((0 : Int64) + x0) + x1) + x2) + x3)), .second, .val (.long ((((0 : Int64) + x1) + x2) + x3)), .second, .val (.ref b_4), .val (.int (5 : Int32)), .val (.int ((((((0 : Int32) + (1 : Int32)) + (1 : Int32)) + (1 : Int32)) + (1 : Int32)) + (1 : Int32))), .val (.ref w_SHORT_CIRCUITED)] [(.ref a1)]))
  refine own_lloadN X22 hx (hb hby d1_86) rfl ?_
  show Goes _ _ _ _ _ _ (T22.setTop (mkF m 87 #[.val (.ref a1), .val (.ref a2), .val (.long (((((0 : Int64) + x0) + x1) + x2) + x3)), .second, .val (.long ((((0 : Int64) + x1) + x2) + x3)), .second, .val (.ref b_4), .val (.int (5 : Int32)), .val (.int ((((((0 : Int32) + (1 : Int32)) + (1 : Int32)) + (1 : Int32)) + (1 : Int32)) + (1 : Int32))), .val (.ref w_SHORT_CIRCUITED)] [(.long (((((0 : Int64) + x0) + x1) + x2) + x3)), (.ref a1)]))
  refine own_putF X22 hx hZ hown N22 (host := "") (Or.inl (hw _ (List.mem_of_getElem? (i := 58) rfl))) Via.refl e22 F5_counted_a1 E5_a1 (Or.inr ⟨(hw _ (List.mem_of_getElem? (i := 59) rfl)), rfl, hnm⟩) (hw _ (List.mem_of_getElem? (i := 4) rfl)) (ty := .long) (by decide) rfl rfl f4 (hb hby d1_87) (fun T23 h23 lc23 X23 e23 N23 W23 => ?_)
  have E24_a1 := E5_a1.wr W23
  have F24_counted_a1 := F5_counted_a1.same W23
  have F24_errors_a1 := F5_errors_a1.other W23 (Or.inr (slot_ne (Or.inr (hw _ (List.mem_of_getElem? (i := 61) rfl))) (Or.inr (hw _ (List.mem_of_getElem? (i := 59) rfl))) (by decide) (t := .long) (t' := .long) (by decide) (by decide)))
  have O24 := O5.wr W23 f4
  have KC24 := KC5.wr W23 (Or.inl (List.mem_of_getElem? (i := 0) rfl))
  show Goes _ _ _ _ _ _ (T23.setTop (mkF m 90 #[.val (.ref a1), .val (.ref a2), .val (.long (((((0 : Int64) + x0) + x1) + x2) + x3)), .second, .val (.long ((((0 : Int64) + x1) + x2) + x3)), .second, .val (.ref b_4), .val (.int (5 : Int32)), .val (.int ((((((0 : Int32) + (1 : Int32)) + (1 : Int32)) + (1 : Int32)) + (1 : Int32)) + (1 : Int32))), .val (.ref w_SHORT_CIRCUITED)] []))
  refine own_aloadN X23 hx (hb hby d1_90) rfl rfl ?_
  show Goes _ _ _ _ _ _ (T23.setTop (mkF m 91 #[.val (.ref a1), .val (.ref a2), .val (.long (((((0 : Int64) + x0) + x1) + x2) + x3)), .second, .val (.long ((((0 : Int64) + x1) + x2) + x3)), .second, .val (.ref b_4), .val (.int (5 : Int32)), .val (.int ((((((0 : Int32) + (1 : Int32)) + (1 : Int32)) + (1 : Int32)) + (1 : Int32)) + (1 : Int32))), .val (.ref w_SHORT_CIRCUITED)] [(.ref a1)]))
  refine own_lload X23 hx (hb hby d1_91) rfl ?_
  show Goes _ _ _ _ _ _ (T23.setTop (mkF m 93 #[.val (.ref a1), .val (.ref a2), .val (.long (((((0 : Int64) + x0) + x1) + x2) + x3)), .second, .val (.long ((((0 : Int64) + x1) + x2) + x3)), .second, .val (.ref b_4), .val (.int (5 : Int32)), .val (.int ((((((0 : Int32) + (1 : Int32)) + (1 : Int32)) + (1 : Int32)) + (1 : Int32)) + (1 : Int32))), .val (.ref w_SHORT_CIRCUITED)] [(.long ((((0 : Int64) + x1) + x2) + x3)), (.ref a1)]))
  refine own_putF X23 hx hZ hown N23 (host := "") (Or.inl (hw _ (List.mem_of_getElem? (i := 60) rfl))) Via.refl e23 F24_errors_a1 E24_a1 (Or.inr ⟨(hw _ (List.mem_of_getElem? (i := 61) rfl)), rfl, hnm⟩) (hw _ (List.mem_of_getElem? (i := 4) rfl)) (ty := .long) (by decide) rfl rfl f4 (hb hby d1_93) (fun T25 h25 lc25 X25 e25 N25 W25 => ?_)
  have E26_a1 := E24_a1.wr W25
  have F26_counted_a1 := F24_counted_a1.other W25 (Or.inr (slot_ne (Or.inr (hw _ (List.mem_of_getElem? (i := 59) rfl))) (Or.inr (hw _ (List.mem_of_getElem? (i := 61) rfl))) (by decide) (t := .long) (t' := .long) (by decide) (by decide)))
  have F26_errors_a1 := F24_errors_a1.same W25
  have O26 := O24.wr W25 f4
  have KC26 := KC24.wr W25 (Or.inl (List.mem_of_getElem? (i := 0) rfl))
  show Goes _ _ _ _ _ _ (T25.setTop (mkF m 96 #[.val (.ref a1), .val (.ref a2), .val (.long (((((0 : Int64) + x0) + x1) + x2) + x3)), .second, .val (.long ((((0 : Int64) + x1) + x2) + x3)), .second, .val (.ref b_4), .val (.int (5 : Int32)), .val (.int ((((((0 : Int32) + (1 : Int32)) + (1 : Int32)) + (1 : Int32)) + (1 : Int32)) + (1 : Int32))), .val (.ref w_SHORT_CIRCUITED)] []))
  exact own_retV X25 hx N25 hlk (by decide) (by decide) hret (hb hby d1_96) (by rw [e25]; exact ⟨rfl, KC26, E26_a1, F26_counted_a1, F26_errors_a1⟩)
theorem d7_0 : decode prog_36_method_5_code 0 = .ok (.aload_n 0, 1) := by decide +kernel
theorem d7_1 : decode prog_36_method_5_code 1 = .ok (.getfield 30, 3) := by decide +kernel
theorem d7_4 : decode prog_36_method_5_code 4 = .ok (.lconst 0, 1) := by decide +kernel
theorem d7_5 : decode prog_36_method_5_code 5 = .ok (.lcmp, 1) := by decide +kernel
theorem d7_6 : decode prog_36_method_5_code 6 = .ok (.ifCond .ne 7, 3) := by decide +kernel
theorem d7_9 : decode prog_36_method_5_code 9 = .ok (.iconst 0, 1) := by decide +kernel
theorem d7_10 : decode prog_36_method_5_code 10 = .ok (.goto 17, 3) := by decide +kernel
theorem d7_27 : decode prog_36_method_5_code 27 = .ok (.ireturn, 1) := by decide +kernel
theorem d7_13 : decode prog_36_method_5_code 13 = .ok (.aload_n 0, 1) := by decide +kernel
theorem d7_14 : decode prog_36_method_5_code 14 = .ok (.getfield 34, 3) := by decide +kernel
theorem d7_17 : decode prog_36_method_5_code 17 = .ok (.ldc2_w 37, 3) := by decide +kernel
theorem d7_20 : decode prog_36_method_5_code 20 = .ok (.lmul, 1) := by decide +kernel
theorem d7_21 : decode prog_36_method_5_code 21 = .ok (.aload_n 0, 1) := by decide +kernel
theorem d7_22 : decode prog_36_method_5_code 22 = .ok (.getfield 30, 3) := by decide +kernel
theorem d7_25 : decode prog_36_method_5_code 25 = .ok (.ldiv, 1) := by decide +kernel
theorem d7_26 : decode prog_36_method_5_code 26 = .ok (.l2i, 1) := by decide +kernel
def Q7 (Z : State) (a1 : Addr) (w : Int64) (y : Int64) (w__VALUES : Addr) (w_SUCCESS : Addr) (w_FAILURE : Addr) (w_TIMEOUT : Addr) (w_REJECTED : Addr) (w_SHORT_CIRCUITED : Addr) (k_w__VALUES : ClassId) (h0 : Heap) (n0 : Nat) (v : Option Value) (h : Heap) : Prop :=
  (v = some (.int (0 : Int32)) ∧ w = (0 : Int64) ∧ h = h0) ∨
  (v = some (.int ((y * (100 : Int64)) / w).toInt32) ∧ ¬ (w = (0 : Int64)) ∧ h = h0)
theorem ef_7 (m : MethodId) (a1 : Addr) : entryFrame m #[(.ref a1)] 1 = mkF m 0 #[.val (.ref a1)] [] := by first | (simp [entryFrame, mkF, argsToLocals, Value.category]; done) | rfl
set_option maxRecDepth 65536 in
set_option maxHeartbeats 40000000 in
theorem rm7 (l : Launch) (Z : State) (a0 : Array Value) (hw : ∀ d ∈ tables_1, d.before a0 Z = true) (ws : List Jvm.Cond) (a1 : Addr) (w : Int64) (y : Int64) (w__VALUES : Addr) (w_SUCCESS : Addr) (w_FAILURE : Addr) (w_TIMEOUT : Addr) (w_REJECTED : Addr) (w_SHORT_CIRCUITED : Addr) (k_w__VALUES : ClassId) (h0 : Heap) (n0 : Nat) (O0 : Old Z n0 h0) (SF : Start Z w__VALUES w_SUCCESS w_FAILURE w_TIMEOUT w_REJECTED w_SHORT_CIRCUITED k_w__VALUES) (f0 : Fld Z h0 a1 "com/example/fuseline/fuseline/WindowCounts" "counted" "J" (.long w)) (f1 : Fld Z h0 a1 "com/example/fuseline/fuseline/WindowCounts" "errors" "J" (.long y)) :
    Meets l (⟨"com/example/fuseline/fuseline/WindowCounts", "errorPercentage", "()I"⟩ : MethodName) prog_36_method_5_code 1 (some .int) ws ({ frames := 0, cells := 0, slots := 0, locals := 0 } : Room) ({ frames := 0, cells := 0, slots := 0, locals := 0 } : Room).cells ({ frames := 0, cells := 0, slots := 0, locals := 0 } : Room).slots Z #[(.ref a1)] h0 n0 (Q7 Z a1 w y w__VALUES w_SUCCESS w_FAILURE w_TIMEOUT w_REJECTED w_SHORT_CIRCUITED k_w__VALUES h0 n0) := by
  refine Meets.of (F := fun m => mkF m 0 #[.val (.ref a1)] []) (plainFor_of_name pn_2) (fun m => ef_7 m a1) ?_
  intro p e s m below meth c T0 hx hby hml hown0 hnm hret hlk hZ X0 e0
  have hown : s.vm.findClass "com/example/fuseline/fuseline/WindowCounts" = some m.cls := hown0
  have N0 := Fr.nil n0
  obtain ⟨z0, z1, z2, z3, z4, z5, z6, z7, z8, z9, z10, z11, z12, z13, z14, z15, z16, z17, z18, z19, z20, z21, z22, z23, z24, z25, z26, z27, -⟩ := SF
  show Goes _ _ _ _ _ _ (T0.setTop (mkF m 0 #[.val (.ref a1)] []))
  refine own_aloadN X0 hx (hb hby d7_0) rfl rfl ?_
  show Goes _ _ _ _ _ _ (T0.setTop (mkF m 1 #[.val (.ref a1)] [(.ref a1)]))
  refine own_getF X0 hx hZ hown (host := "") (Or.inl (hw _ (List.mem_of_getElem? (i := 58) rfl))) Via.refl e0 f0 (hb hby d7_1) (fun T1 X1 e1 => ?_)
  show Goes _ _ _ _ _ _ (T1.setTop (mkF m 4 #[.val (.ref a1)] [(.long w)]))
  refine own_lconst X1 hx (v := (0 : Int64)) (hb hby d7_4) rfl ?_
  show Goes _ _ _ _ _ _ (T1.setTop (mkF m 5 #[.val (.ref a1)] [(.long (0 : Int64)), (.long w)]))
  refine own_lcmp X1 hx (hb hby d7_5) ?_
  show Goes _ _ _ _ _ _ (T1.setTop (mkF m 6 #[.val (.ref a1)] [(.int (lcmpW w (0 : Int64)))]))
  by_cases hc6_2 : w = (0 : Int64)
  ·
    refine own_ifNo X1 hx (hb hby d7_6) ((if0 _ _).trans (teq (((lw_eq _ _).mpr hc6_2) : (lcmpW w (0 : Int64)) = (0 : Int32))).2) ?_
    show Goes _ _ _ _ _ _ (T1.setTop (mkF m 9 #[.val (.ref a1)] []))
    refine own_iconst X1 hx (v := (0 : Int32)) (hb hby d7_9) rfl ?_
    show Goes _ _ _ _ _ _ (T1.setTop (mkF m 10 #[.val (.ref a1)] [(.int (0 : Int32))]))
    refine own_goto X1 hx (pc' := 27) (hb hby d7_10) (by decide) (by decide) ?_
    show Goes _ _ _ _ _ _ (T1.setTop (mkF m 27 #[.val (.ref a1)] [(.int (0 : Int32))]))
    exact own_retI X1 hx N0 hlk (by decide) (by decide) hret (hb hby d7_27) (by rw [e1]; exact Or.inl ⟨rfl, hc6_2, rfl⟩)
  ·
    refine own_ifYes X1 hx (pc' := 13) (hb hby d7_6) ((if0 _ _).trans (feq ((fun q => hc6_2 ((lw_eq _ _).mp q)) : ¬ ((lcmpW w (0 : Int64)) = (0 : Int32)))).2) (by decide) (by decide) ?_
    show Goes _ _ _ _ _ _ (T1.setTop (mkF m 13 #[.val (.ref a1)] []))
    refine own_aloadN X1 hx (hb hby d7_13) rfl rfl ?_
    show Goes _ _ _ _ _ _ (T1.setTop (mkF m 14 #[.val (.ref a1)] [(.ref a1)]))
    refine own_getF X1 hx hZ hown (host := "") (Or.inl (hw _ (List.mem_of_getElem? (i := 60) rfl))) Via.refl e1 f1 (hb hby d7_14) (fun T3 X3 e3 => ?_)
    show Goes _ _ _ _ _ _ (T3.setTop (mkF m 17 #[.val (.ref a1)] [(.long y)]))
    refine own_ldc2Long X3 hx hZ hown (hw _ (List.mem_of_getElem? (i := 67) rfl)) (hb hby d7_17) ?_
    show Goes _ _ _ _ _ _ (T3.setTop (mkF m 20 #[.val (.ref a1)] [(.long (100 : Int64)), (.long y)]))
    refine own_lmul X3 hx (hb hby d7_20) ?_
    show Goes _ _ _ _ _ _ (T3.setTop (mkF m 21 #[.val (.ref a1)] [(.long (y * (100 : Int64)))]))
    refine own_aloadN X3 hx (hb hby d7_21) rfl rfl ?_
    show Goes _ _ _ _ _ _ (T3.setTop (mkF m 22 #[.val (.ref a1)] [(.ref a1), (.long (y * (100 : Int64)))]))
    refine own_getF X3 hx hZ hown (host := "") (Or.inl (hw _ (List.mem_of_getElem? (i := 58) rfl))) Via.refl e3 f0 (hb hby d7_22) (fun T4 X4 e4 => ?_)
    show Goes _ _ _ _ _ _ (T4.setTop (mkF m 25 #[.val (.ref a1)] [(.long w), (.long (y * (100 : Int64)))]))
    refine own_ldiv X4 hx (hb hby d7_25) (by assumption) ?_
    show Goes _ _ _ _ _ _ (T4.setTop (mkF m 26 #[.val (.ref a1)] [(.long ((y * (100 : Int64)) / w))]))
    refine own_l2i X4 hx (hb hby d7_26) ?_
    show Goes _ _ _ _ _ _ (T4.setTop (mkF m 27 #[.val (.ref a1)] [(.int (((y * (100 : Int64)) / w).toInt32))]))
    exact own_retI X4 hx N0 hlk (by decide) (by decide) hret (hb hby d7_27) (by rw [e4]; exact Or.inr (⟨(by first | rfl | (rw [if_pos (by assumption)]; rfl) | (rw [if_neg (by assumption)]; rfl) | simp_all), hc6_2, rfl⟩))
def Bd40 (x : Int64) : Prop := 0 ≤ x.toInt ∧ x.toInt < 1099511627776
theorem own_m40 (x : Int64) : Bd40 (x &&& (1099511627775 : Int64)) := by
  have e := c_maskL x 1099511627775 40 (by decide) (by decide)
  have h : (x &&& (1099511627775 : Int64)).toInt = x.toInt % 1099511627776 := by simpa using e
  unfold Bd40; omega
theorem own_z40 : Bd40 (0 : Int64) := by unfold Bd40; decide
theorem own_add {x y : Int64} {a b : Int} (hx : x.toInt = a) (hy : y.toInt = b) (h1 : -9223372036854775808 ≤ a + b) (h2 : a + b < 9223372036854775808) : (x + y).toInt = a + b := by
  have e := c_ladd x y
  have r := rng64 (x + y)
  omega
theorem own_mul {x y : Int64} {a b : Int} (hx : x.toInt = a) (hy : y.toInt = b) (h1 : -9223372036854775808 ≤ a * b) (h2 : a * b < 9223372036854775808) : (x * y).toInt = a * b := by
  have e := c_lmul x y
  have r := rng64 (x * y)
  rw [hx, hy] at e
  generalize a * b = ab at *
  omega
theorem own_sums {s f t r : Int64} (hs : Bd40 s) (hf : Bd40 f) (ht : Bd40 t) (hr : Bd40 r) :
    (((((0 : Int64) + s) + f) + t) + r).toInt = s.toInt + f.toInt + t.toInt + r.toInt ∧ ((((0 : Int64) + f) + t) + r).toInt = f.toInt + t.toInt + r.toInt ∧ ((f + t) + r).toInt = f.toInt + t.toInt + r.toInt ∧ (s + ((f + t) + r)).toInt = s.toInt + (f.toInt + t.toInt + r.toInt) := by
  unfold Bd40 at *
  have z : (0 : Int64).toInt = 0 := by decide
  have a1 := own_add (x := 0) (y := s) z rfl (by omega) (by omega)
  have a2 := own_add (y := f) a1 rfl (by omega) (by omega)
  have a3 := own_add (y := t) a2 rfl (by omega) (by omega)
  have a4 := own_add (y := r) a3 rfl (by omega) (by omega)
  have b1 := own_add (x := 0) (y := f) z rfl (by omega) (by omega)
  have b2 := own_add (y := t) b1 rfl (by omega) (by omega)
  have b3 := own_add (y := r) b2 rfl (by omega) (by omega)
  have c1 := own_add (x := f) (y := t) rfl rfl (by omega) (by omega)
  have c2 := own_add (y := r) c1 rfl (by omega) (by omega)
  have d1 := own_add (x := s) rfl c2 (by omega) (by omega)
  exact ⟨by rw [a4]; omega, by rw [b3]; omega, by rw [c2], by rw [d1]⟩
theorem own_ceq {s f t r : Int64} (hs : Bd40 s) (hf : Bd40 f) (ht : Bd40 t) (hr : Bd40 r) : (((((0 : Int64) + s) + f) + t) + r) = (s + ((f + t) + r)) := by
  obtain ⟨h1, -, -, h4⟩ := own_sums hs hf ht hr
  exact Int64.toInt_inj.mp (by rw [h1, h4]; omega)
theorem own_eeq {f t r : Int64} (hf : Bd40 f) (ht : Bd40 t) (hr : Bd40 r) : ((((0 : Int64) + f) + t) + r) = ((f + t) + r) := by
  obtain ⟨-, h2, h3, -⟩ := own_sums own_z40 hf ht hr
  exact Int64.toInt_inj.mp (by rw [h2, h3])
/-- the quotient, and what the law asks of it: e: the errors, c: the calls counted -/
theorem own_q {e c : Int64} (he : 0 ≤ e.toInt ∧ e.toInt < 4398046511104) (hc : e.toInt ≤ c.toInt ∧ c.toInt < 17592186044416) (h0 : ¬ (c = (0 : Int64))) :
    ¬ (((e * (100 : Int64)) / c).toInt32 < (0 : Int32)) ∧ ¬ ((100 : Int32) < ((e * (100 : Int64)) / c).toInt32) ∧ ¬ (((100 : Int64) * e) < (((e * (100 : Int64)) / c).toInt32.toInt64 * c)) ∧ (((100 : Int64) * e) < ((((e * (100 : Int64)) / c).toInt32.toInt64 + (1 : Int64)) * c)) := by
  have hh : (100 : Int64).toInt = 100 := by decide
  have z : (0 : Int64).toInt = 0 := by decide
  have o1 : (1 : Int64).toInt = 1 := by decide
  have cp : 0 < c.toInt := by
    rcases Int.lt_or_eq_of_le (show 0 ≤ c.toInt by omega) with q | q
    · exact q
    · exact absurd (Int64.toInt_inj.mp (q.symm.trans z.symm)) h0
  have m1 : (e * (100 : Int64)).toInt = e.toInt * 100 := own_mul rfl hh (by omega) (by omega)
  have m2 : ((100 : Int64) * e).toInt = 100 * e.toInt := own_mul hh rfl (by omega) (by omega)
  have cn : c ≠ -1 := fun q => by rw [q] at cp; revert cp; decide
  have d1 := (c_ldiv (e * 100) c c.toInt rfl cn).1 (by rw [m1]; omega)
  rw [m1] at d1
  have q1 : (e.toInt * 100) / c.toInt * c.toInt ≤ e.toInt * 100 := Int.ediv_mul_le _ (by omega)
  have q2 : e.toInt * 100 < ((e.toInt * 100) / c.toInt + 1) * c.toInt := Int.lt_ediv_add_one_mul_self _ cp
  have q3 : 0 ≤ (e.toInt * 100) / c.toInt := Int.ediv_nonneg (by omega) (by omega)
  have q4 : (e.toInt * 100) / c.toInt ≤ 100 := by
    have : (e.toInt * 100) / c.toInt * c.toInt ≤ 100 * c.toInt := by omega
    exact Int.le_of_mul_le_mul_right this cp
  generalize hq : (e.toInt * 100) / c.toInt = q at *
  have l1 : ((e * (100 : Int64)) / c).toInt32.toInt = q := by
    have a := c_l2i ((e * (100 : Int64)) / c)
    have b := rng32 ((e * (100 : Int64)) / c).toInt32
    omega
  have l2 : ((e * (100 : Int64)) / c).toInt32.toInt64.toInt = q := by rw [c_i2l]; exact l1
  have qc : q * c.toInt ≤ 100 * 17592186044416 := by
    have := Int.mul_le_mul q4 (show c.toInt ≤ 17592186044416 by omega) (by omega) (by omega)
    exact this
  have qn : 0 ≤ q * c.toInt := Int.mul_nonneg q3 (by omega)
  have e1 : (q + 1) * c.toInt = q * c.toInt + c.toInt := by rw [Int.add_mul, Int.one_mul]
  have l3 : (((e * (100 : Int64)) / c).toInt32.toInt64 * c).toInt = q * c.toInt := own_mul l2 rfl (by omega) (by omega)
  have l4 : (((e * (100 : Int64)) / c).toInt32.toInt64 + (1 : Int64)).toInt = q + 1 := own_add l2 o1 (by omega) (by omega)
  have l5 : ((((e * (100 : Int64)) / c).toInt32.toInt64 + (1 : Int64)) * c).toInt = (q + 1) * c.toInt := own_mul l4 rfl (by omega) (by omega)
  have i0 : (0 : Int32).toInt = 0 := by decide
  have i1 : (100 : Int32).toInt = 100 := by decide
  refine ⟨?_, ?_, ?_, ?_⟩
  · rw [Int32.lt_iff_toInt_lt, l1, i0]; omega
  · rw [Int32.lt_iff_toInt_lt, l1, i1]; omega
  · rw [Int64.lt_iff_toInt_lt, m2, l3]; omega
  · rw [Int64.lt_iff_toInt_lt, m2, l5]; omega
theorem own_all4 {s f t r : Int64} (hs : Bd40 s) (hf : Bd40 f) (ht : Bd40 t) (hr : Bd40 r) (h0 : ¬ ((((((0 : Int64) + s) + f) + t) + r) = (0 : Int64))) :
    ¬ (((((((0 : Int64) + f) + t) + r) * (100 : Int64)) / (((((0 : Int64) + s) + f) + t) + r)).toInt32 < (0 : Int32)) ∧ ¬ ((100 : Int32) < ((((((0 : Int64) + f) + t) + r) * (100 : Int64)) / (((((0 : Int64) + s) + f) + t) + r)).toInt32) ∧ ¬ (((100 : Int64) * ((f + t) + r)) < (((((((0 : Int64) + f) + t) + r) * (100 : Int64)) / (((((0 : Int64) + s) + f) + t) + r)).toInt32.toInt64 * (s + ((f + t) + r)))) ∧ (((100 : Int64) * ((f + t) + r)) < ((((((((0 : Int64) + f) + t) + r) * (100 : Int64)) / (((((0 : Int64) + s) + f) + t) + r)).toInt32.toInt64 + (1 : Int64)) * (s + ((f + t) + r)))) := by
  obtain ⟨-, -, h3, h4⟩ := own_sums hs hf ht hr
  rw [own_ceq hs hf ht hr] at h0 ⊢
  rw [own_eeq hf ht hr]
  unfold Bd40 at *
  exact own_q (by rw [h3]; omega) (by rw [h3, h4]; omega) h0
theorem pd_3 : parseMethodDescriptor "([J)V" = some ⟨[(.array .long)], none⟩ := by decide +kernel
theorem pn_3 : plainName "com/example/fuseline/fuseline/WindowCountsErrorPercentagePinLaw" = true := by first | (simp [plainName, overriddenIn]; done) | decide +kernel
def Q0 (Z : State) (q1 : Int64) (q2 : Int64) (q3 : Int64) (q4 : Int64) (q5 : Int64) (p6 : Int32) (w__VALUES : Addr) (w_SUCCESS : Addr) (w_FAILURE : Addr) (w_TIMEOUT : Addr) (w_REJECTED : Addr) (w_SHORT_CIRCUITED : Addr) (k_w__VALUES : ClassId) (h0 : Heap) (n0 : Nat) (v : Option Value) (h : Heap) : Prop :=
  (v = some (.int (1 : Int32)))
theorem ef_0 (m : MethodId) (q1 : Int64) (q2 : Int64) (q3 : Int64) (q4 : Int64) (q5 : Int64) (p6 : Int32) : entryFrame m #[(.long q1), (.long q2), (.long q3), (.long q4), (.long q5), (.int p6)] maxLocals = mkF m 0 #[.val (.long q1), .second, .val (.long q2), .second, .val (.long q3), .second, .val (.long q4), .second, .val (.long q5), .second, .val (.int p6), .unset, .unset, .unset, .unset, .unset, .unset, .unset, .unset, .unset, .unset, .unset, .unset, .unset, .unset, .unset, .unset, .unset] [] := by first | (simp [entryFrame, mkF, argsToLocals, Value.category, maxLocals]; done) | rfl
set_option maxRecDepth 65536 in
set_option maxHeartbeats 40000000 in
theorem rm0 (l : Launch) (Z : State) (a0 : Array Value) (hw : ∀ d ∈ tables_1, d.before a0 Z = true) (ws : List Jvm.Cond) (q1 : Int64) (q2 : Int64) (q3 : Int64) (q4 : Int64) (q5 : Int64) (p6 : Int32) (w__VALUES : Addr) (w_SUCCESS : Addr) (w_FAILURE : Addr) (w_TIMEOUT : Addr) (w_REJECTED : Addr) (w_SHORT_CIRCUITED : Addr) (k_w__VALUES : ClassId) (h0 : Heap) (n0 : Nat) (O0 : Old Z n0 h0) (SF : Start Z w__VALUES w_SUCCESS w_FAILURE w_TIMEOUT w_REJECTED w_SHORT_CIRCUITED k_w__VALUES) :
    Meets l x code maxLocals ret ws room_1 16 128 Z #[(.long q1), (.long q2), (.long q3), (.long q4), (.long q5), (.int p6)] h0 n0 (Q0 Z q1 q2 q3 q4 q5 p6 w__VALUES w_SUCCESS w_FAILURE w_TIMEOUT w_REJECTED w_SHORT_CIRCUITED k_w__VALUES h0 n0) := by
  refine Meets.of (F := fun m => mkF m 0 #[.val (.long q1), .second, .val (.long q2), .second, .val (.long q3), .second, .val (.long q4), .second, .val (.long q5), .second, .val (.int p6), .unset, .unset, .unset, .unset, .unset, .unset, .unset, .unset, .unset, .unset, .unset, .unset, .unset, .unset, .unset, .unset, .unset] []) (plainFor_of_name pn_3) (fun m => ef_0 m q1 q2 q3 q4 q5 p6) ?_
  intro p e s m below meth c T0 hx hby hml hown0 hnm hret hlk hZ X0 e0
  have hown : s.vm.findClass "com/example/fuseline/fuseline/WindowCountsErrorPercentagePinLaw" = some m.cls := hown0
  have N0 := Fr.nil n0
  obtain ⟨z0, z1, z2, z3, z4, z5, z6, z7, z8, z9, z10, z11, z12, z13, z14, z15, z16, z17, z18, z19, z20, z21, z22, z23, z24, z25, z26, z27, -⟩ := SF
  show Goes _ _ _ _ _ _ (T0.setTop (mkF m 0 #[.val (.long q1), .second, .val (.long q2), .second, .val (.long q3), .second, .val (.long q4), .second, .val (.long q5), .second, .val (.int p6), .unset, .unset, .unset, .unset, .unset, .unset, .unset, .unset, .unset, .unset, .unset, .unset, .unset, .unset, .unset, .unset, .unset] []))
  refine own_iload X0 hx (hb hby at_0) rfl ?_
  show Goes _ _ _ _ _ _ (T0.setTop (mkF m 2 #[.val (.long q1), .second, .val (.long q2), .second, .val (.long q3), .second, .val (.long q4), .second, .val (.long q5), .second, .val (.int p6), .unset, .unset, .unset, .unset, .unset, .unset, .unset, .unset, .unset, .unset, .unset, .unset, .unset, .unset, .unset, .unset, .unset] [(.int p6)]))
  refine own_iconst X0 hx (v := (1 : Int32)) (hb hby at_2) rfl ?_
  show Goes _ _ _ _ _ _ (T0.setTop (mkF m 3 #[.val (.long q1), .second, .val (.long q2), .second, .val (.long q3), .second, .val (.long q4), .second, .val (.long q5), .second, .val (.int p6), .unset, .unset, .unset, .unset, .unset, .unset, .unset, .unset, .unset, .unset, .unset, .unset, .unset, .unset, .unset, .unset, .unset] [(.int (1 : Int32)), (.int p6)]))
  refine own_iand X0 hx (hb hby at_3) ?_
  show Goes _ _ _ _ _ _ (T0.setTop (mkF m 4 #[.val (.long q1), .second, .val (.long q2), .second, .val (.long q3), .second, .val (.long q4), .second, .val (.long q5), .second, .val (.int p6), .unset, .unset, .unset, .unset, .unset, .unset, .unset, .unset, .unset, .unset, .unset, .unset, .unset, .unset, .unset, .unset, .unset] [(.int (p6 &&& (1 : Int32)))]))
  have jn16_2 : ∀ (T2 : State) (lc2 : List Loc) (X2 : Stand p l e room_1 s m #[(.long q1), (.long q2), (.long q3), (.long q4), (.long q5), (.int p6)] below meth c T2 lc2 0 0) (N2 : Fr n0 lc2) (e2 : T2.heap = h0) (w2 : Int64) (hj2 : Bd40 w2), Goes p e below (fun o t L => FrameEnd s o t L (16) (128)) n0 (Q0 Z q1 q2 q3 q4 q5 p6 w__VALUES w_SUCCESS w_FAILURE w_TIMEOUT w_REJECTED w_SHORT_CIRCUITED k_w__VALUES h0 n0) (T2.setTop (mkF m 16 #[.val (.long q1), .second, .val (.long q2), .second, .val (.long q3), .second, .val (.long q4), .second, .val (.long q5), .second, .val (.int p6), .unset, .unset, .unset, .unset, .unset, .unset, .unset, .unset, .unset, .unset, .unset, .unset, .unset, .unset, .unset, .unset, .unset] [(.long w2)])) := by
    intro T2 lc2 X2 N2 e2 w2 hj2
    show Goes _ _ _ _ _ _ (T2.setTop (mkF m 16 #[.val (.long q1), .second, .val (.long q2), .second, .val (.long q3), .second, .val (.long q4), .second, .val (.long q5), .second, .val (.int p6), .unset, .unset, .unset, .unset, .unset, .unset, .unset, .unset, .unset, .unset, .unset, .unset, .unset, .unset, .unset, .unset, .unset] [(.long w2)]))
    refine own_lstore X2 hx (Ls' := #[.val (.long q1), .second, .val (.long q2), .second, .val (.long q3), .second, .val (.long q4), .second, .val (.long q5), .second, .val (.int p6), .val (.long w2), .second, .unset, .unset, .unset, .unset, .unset, .unset, .unset, .unset, .unset, .unset, .unset, .unset, .unset, .unset, .unset]) (hb hby at_16) rfl ?_
    show Goes _ _ _ _ _ _ (T2.setTop (mkF m 18 #[.val (.long q1), .second, .val (.long q2), .second, .val (.long q3), .second, .val (.long q4), .second, .val (.long q5), .second, .val (.int p6), .val (.long w2), .second, .unset, .unset, .unset, .unset, .unset, .unset, .unset, .unset, .unset, .unset, .unset, .unset, .unset, .unset, .unset] []))
    refine own_iload X2 hx (hb hby at_18) rfl ?_
    show Goes _ _ _ _ _ _ (T2.setTop (mkF m 20 #[.val (.long q1), .second, .val (.long q2), .second, .val (.long q3), .second, .val (.long q4), .second, .val (.long q5), .second, .val (.int p6), .val (.long w2), .second, .unset, .unset, .unset, .unset, .unset, .unset, .unset, .unset, .unset, .unset, .unset, .unset, .unset, .unset, .unset] [(.int p6)]))
    refine own_iconst X2 hx (v := (2 : Int32)) (hb hby at_20) rfl ?_
    show Goes _ _ _ _ _ _ (T2.setTop (mkF m 21 #[.val (.long q1), .second, .val (.long q2), .second, .val (.long q3), .second, .val (.long q4), .second, .val (.long q5), .second, .val (.int p6), .val (.long w2), .second, .unset, .unset, .unset, .unset, .unset, .unset, .unset, .unset, .unset, .unset, .unset, .unset, .unset, .unset, .unset] [(.int (2 : Int32)), (.int p6)]))
    refine own_iand X2 hx (hb hby at_21) ?_
    show Goes _ _ _ _ _ _ (T2.setTop (mkF m 22 #[.val (.long q1), .second, .val (.long q2), .second, .val (.long q3), .second, .val (.long q4), .second, .val (.long q5), .second, .val (.int p6), .val (.long w2), .second, .unset, .unset, .unset, .unset, .unset, .unset, .unset, .unset, .unset, .unset, .unset, .unset, .unset, .unset, .unset] [(.int (p6 &&& (2 : Int32)))]))
    have jn34_4 : ∀ (T4 : State) (lc4 : List Loc) (X4 : Stand p l e room_1 s m #[(.long q1), (.long q2), (.long q3), (.long q4), (.long q5), (.int p6)] below meth c T4 lc4 0 0) (N4 : Fr n0 lc4) (e4 : T4.heap = h0) (w4 : Int64) (hj4 : Bd40 w4), Goes p e below (fun o t L => FrameEnd s o t L (16) (128)) n0 (Q0 Z q1 q2 q3 q4 q5 p6 w__VALUES w_SUCCESS w_FAILURE w_TIMEOUT w_REJECTED w_SHORT_CIRCUITED k_w__VALUES h0 n0) (T4.setTop (mkF m 34 #[.val (.long q1), .second, .val (.long q2), .second, .val (.long q3), .second, .val (.long q4), .second, .val (.long q5), .second, .val (.int p6), .val (.long w2), .second, .unset, .unset, .unset, .unset, .unset, .unset, .unset, .unset, .unset, .unset, .unset, .unset, .unset, .unset, .unset] [(.long w4)])) := by
      intro T4 lc4 X4 N4 e4 w4 hj4
      show Goes _ _ _ _ _ _ (T4.setTop (mkF m 34 #[.val (.long q1), .second, .val (.long q2), .second, .val (.long q3), .second, .val (.long q4), .second, .val (.long q5), .second, .val (.int p6), .val (.long w2), .second, .unset, .unset, .unset, .unset, .unset, .unset, .unset, .unset, .unset, .unset, .unset, .unset, .unset, .unset, .unset] [(.long w4)]))
      refine own_lstore X4 hx (Ls' := #[.val (.long q1), .second, .val (.long q2), .second, .val (.long q3), .second, .val (.long q4), .second, .val (.long q5), .second, .val (.int p6), .val (.long w2), .second, .val (.long w4), .second, .unset, .unset, .unset, .unset, .unset, .unset, .unset, .unset, .unset, .unset, .unset, .unset, .unset]) (hb hby at_34) rfl ?_
      show Goes _ _ _ _ _ _ (T4.setTop (mkF m 36 #[.val (.long q1), .second, .val (.long q2), .second, .val (.long q3), .second, .val (.long q4), .second, .val (.long q5), .second, .val (.int p6), .val (.long w2), .second, .val (.long w4), .second, .unset, .unset, .unset, .unset, .unset, .unset, .unset, .unset, .unset, .unset, .unset, .unset, .unset] []))
      refine own_iload X4 hx (hb hby at_36) rfl ?_
      show Goes _ _ _ _ _ _ (T4.setTop (mkF m 38 #[.val (.long q1), .second, .val (.long q2), .second, .val (.long q3), .second, .val (.long q4), .second, .val (.long q5), .second, .val (.int p6), .val (.long w2), .second, .val (.long w4), .second, .unset, .unset, .unset, .unset, .unset, .unset, .unset, .unset, .unset, .unset, .unset, .unset, .unset] [(.int p6)]))
      refine own_iconst X4 hx (v := (4 : Int32)) (hb hby at_38) rfl ?_
      show Goes _ _ _ _ _ _ (T4.setTop (mkF m 39 #[.val (.long q1), .second, .val (.long q2), .second, .val (.long q3), .second, .val (.long q4), .second, .val (.long q5), .second, .val (.int p6), .val (.long w2), .second, .val (.long w4), .second, .unset, .unset, .unset, .unset, .unset, .unset, .unset, .unset, .unset, .unset, .unset, .unset, .unset] [(.int (4 : Int32)), (.int p6)]))
      refine own_iand X4 hx (hb hby at_39) ?_
      show Goes _ _ _ _ _ _ (T4.setTop (mkF m 40 #[.val (.long q1), .second, .val (.long q2), .second, .val (.long q3), .second, .val (.long q4), .second, .val (.long q5), .second, .val (.int p6), .val (.long w2), .second, .val (.long w4), .second, .unset, .unset, .unset, .unset, .unset, .unset, .unset, .unset, .unset, .unset, .unset, .unset, .unset] [(.int (p6 &&& (4 : Int32)))]))
      have jn53_6 : ∀ (T6 : State) (lc6 : List Loc) (X6 : Stand p l e room_1 s m #[(.long q1), (.long q2), (.long q3), (.long q4), (.long q5), (.int p6)] below meth c T6 lc6 0 0) (N6 : Fr n0 lc6) (e6 : T6.heap = h0) (w6 : Int64) (hj6 : Bd40 w6), Goes p e below (fun o t L => FrameEnd s o t L (16) (128)) n0 (Q0 Z q1 q2 q3 q4 q5 p6 w__VALUES w_SUCCESS w_FAILURE w_TIMEOUT w_REJECTED w_SHORT_CIRCUITED k_w__VALUES h0 n0) (T6.setTop (mkF m 53 #[.val (.long q1), .second, .val (.long q2), .second, .val (.long q3), .second, .val (.long q4), .second, .val (.long q5), .second, .val (.int p6), .val (.long w2), .second, .val (.long w4), .second, .unset, .unset, .unset, .unset, .unset, .unset, .unset, .unset, .unset, .unset, .unset, .unset, .unset] [(.long w6)])) := by
        intro T6 lc6 X6 N6 e6 w6 hj6
        show Goes _ _ _ _ _ _ (T6.setTop (mkF m 53 #[.val (.long q1), .second, .val (.long q2), .second, .val (.long q3), .second, .val (.long q4), .second, .val (.long q5), .second, .val (.int p6), .val (.long w2), .second, .val (.long w4), .second, .unset, .unset, .unset, .unset, .unset, .unset, .unset, .unset, .unset, .unset, .unset, .unset, .unset] [(.long w6)]))
        refine own_lstore X6 hx (Ls' := #[.val (.long q1), .second, .val (.long q2), .second, .val (.long q3), .second, .val (.long q4), .second, .val (.long q5), .second, .val (.int p6), .val (.long w2), .second, .val (.long w4), .second, .val (.long w6), .second, .unset, .unset, .unset, .unset, .unset, .unset, .unset, .unset, .unset, .unset, .unset]) (hb hby at_53) rfl ?_
        show Goes _ _ _ _ _ _ (T6.setTop (mkF m 55 #[.val (.long q1), .second, .val (.long q2), .second, .val (.long q3), .second, .val (.long q4), .second, .val (.long q5), .second, .val (.int p6), .val (.long w2), .second, .val (.long w4), .second, .val (.long w6), .second, .unset, .unset, .unset, .unset, .unset, .unset, .unset, .unset, .unset, .unset, .unset] []))
        refine own_iload X6 hx (hb hby at_55) rfl ?_
        show Goes _ _ _ _ _ _ (T6.setTop (mkF m 57 #[.val (.long q1), .second, .val (.long q2), .second, .val (.long q3), .second, .val (.long q4), .second, .val (.long q5), .second, .val (.int p6), .val (.long w2), .second, .val (.long w4), .second, .val (.long w6), .second, .unset, .unset, .unset, .unset, .unset, .unset, .unset, .unset, .unset, .unset, .unset] [(.int p6)]))
        refine own_bipush X6 hx (v := (8 : Int32)) (hb hby at_57) rfl ?_
        show Goes _ _ _ _ _ _ (T6.setTop (mkF m 59 #[.val (.long q1), .second, .val (.long q2), .second, .val (.long q3), .second, .val (.long q4), .second, .val (.long q5), .second, .val (.int p6), .val (.long w2), .second, .val (.long w4), .second, .val (.long w6), .second, .unset, .unset, .unset, .unset, .unset, .unset, .unset, .unset, .unset, .unset, .unset] [(.int (8 : Int32)), (.int p6)]))
        refine own_iand X6 hx (hb hby at_59) ?_
        show Goes _ _ _ _ _ _ (T6.setTop (mkF m 60 #[.val (.long q1), .second, .val (.long q2), .second, .val (.long q3), .second, .val (.long q4), .second, .val (.long q5), .second, .val (.int p6), .val (.long w2), .second, .val (.long w4), .second, .val (.long w6), .second, .unset, .unset, .unset, .unset, .unset, .unset, .unset, .unset, .unset, .unset, .unset] [(.int (p6 &&& (8 : Int32)))]))
        have jn73_8 : ∀ (T8 : State) (lc8 : List Loc) (X8 : Stand p l e room_1 s m #[(.long q1), (.long q2), (.long q3), (.long q4), (.long q5), (.int p6)] below meth c T8 lc8 0 0) (N8 : Fr n0 lc8) (e8 : T8.heap = h0) (w8 : Int64) (hj8 : Bd40 w8), Goes p e below (fun o t L => FrameEnd s o t L (16) (128)) n0 (Q0 Z q1 q2 q3 q4 q5 p6 w__VALUES w_SUCCESS w_FAILURE w_TIMEOUT w_REJECTED w_SHORT_CIRCUITED k_w__VALUES h0 n0) (T8.setTop (mkF m 73 #[.val (.long q1), .second, .val (.long q2), .second, .val (.long q3), .second, .val (.long q4), .second, .val (.long q5), .second, .val (.int p6), .val (.long w2), .second, .val (.long w4), .second, .val (.long w6), .second, .unset, .unset, .unset, .unset, .unset, .unset, .unset, .unset, .unset, .unset, .unset] [(.long w8)])) := by
          intro T8 lc8 X8 N8 e8 w8 hj8
          show Goes _ _ _ _ _ _ (T8.setTop (mkF m 73 #[.val (.long q1), .second, .val (.long q2), .second, .val (.long q3), .second, .val (.long q4), .second, .val (.long q5), .second, .val (.int p6), .val (.long w2), .second, .val (.long w4), .second, .val (.long w6), .second, .unset, .unset, .unset, .unset, .unset, .unset, .unset, .unset, .unset, .unset, .unset] [(.long w8)]))
          refine own_lstore X8 hx (Ls' := #[.val (.long q1), .second, .val (.long q2), .second, .val (.long q3), .second, .val (.long q4), .second, .val (.long q5), .second, .val (.int p6), .val (.long w2), .second, .val (.long w4), .second, .val (.long w6), .second, .val (.long w8), .second, .unset, .unset, .unset, .unset, .unset, .unset, .unset, .unset, .unset]) (hb hby at_73) rfl ?_
          show Goes _ _ _ _ _ _ (T8.setTop (mkF m 75 #[.val (.long q1), .second, .val (.long q2), .second, .val (.long q3), .second, .val (.long q4), .second, .val (.long q5), .second, .val (.int p6), .val (.long w2), .second, .val (.long w4), .second, .val (.long w6), .second, .val (.long w8), .second, .unset, .unset, .unset, .unset, .unset, .unset, .unset, .unset, .unset] []))
          refine own_bipush X8 hx (v := (8 : Int32)) (hb hby at_75) rfl ?_
          show Goes _ _ _ _ _ _ (T8.setTop (mkF m 77 #[.val (.long q1), .second, .val (.long q2), .second, .val (.long q3), .second, .val (.long q4), .second, .val (.long q5), .second, .val (.int p6), .val (.long w2), .second, .val (.long w4), .second, .val (.long w6), .second, .val (.long w8), .second, .unset, .unset, .unset, .unset, .unset, .unset, .unset, .unset, .unset] [(.int (8 : Int32))]))
          refine own_newP X8 hx hZ (hw _ (List.mem_of_getElem? (i := 1) rfl)) e8 (hb hby at_77) (by decide) (cap := 8) (by decide) (by decide) (by decide) (by decide) (fun T9 h9 b9 k9 g9 X9 e9 E9 A9 => ?_)
          have ge_b9 : n0 ≤ b9 := Nat.le_trans (own_sz O0) (Nat.le_of_eq g9.symm)
          have O10 := O0.ext E9
          have V9 : Arv Z h9 b9 k9 .long (8 : Int32) [(.long (0 : Int64)), (.long (0 : Int64)), (.long (0 : Int64)), (.long (0 : Int64)), (.long (0 : Int64)), (.long (0 : Int64)), (.long (0 : Int64)), (.long (0 : Int64))] (.long (0 : Int64)) := A9.pad (pad_rep [] (.long (0 : Int64)) 8)
          show Goes _ _ _ _ _ _ (T9.setTop (mkF m 79 #[.val (.long q1), .second, .val (.long q2), .second, .val (.long q3), .second, .val (.long q4), .second, .val (.long q5), .second, .val (.int p6), .val (.long w2), .second, .val (.long w4), .second, .val (.long w6), .second, .val (.long w8), .second, .unset, .unset, .unset, .unset, .unset, .unset, .unset, .unset, .unset] [(.ref b9)]))
          refine own_astore X9 hx (Ls' := #[.val (.long q1), .second, .val (.long q2), .second, .val (.long q3), .second, .val (.long q4), .second, .val (.long q5), .second, .val (.int p6), .val (.long w2), .second, .val (.long w4), .second, .val (.long w6), .second, .val (.long w8), .second, .val (.ref b9), .unset, .unset, .unset, .unset, .unset, .unset, .unset, .unset]) (hb hby at_79) rfl rfl ?_
          show Goes _ _ _ _ _ _ (T9.setTop (mkF m 81 #[.val (.long q1), .second, .val (.long q2), .second, .val (.long q3), .second, .val (.long q4), .second, .val (.long q5), .second, .val (.int p6), .val (.long w2), .second, .val (.long w4), .second, .val (.long w6), .second, .val (.long w8), .second, .val (.ref b9), .unset, .unset, .unset, .unset, .unset, .unset, .unset, .unset] []))
          refine own_aload X9 hx (hb hby at_81) rfl rfl ?_
          show Goes _ _ _ _ _ _ (T9.setTop (mkF m 83 #[.val (.long q1), .second, .val (.long q2), .second, .val (.long q3), .second, .val (.long q4), .second, .val (.long q5), .second, .val (.int p6), .val (.long w2), .second, .val (.long w4), .second, .val (.long w6), .second, .val (.long w8), .second, .val (.ref b9), .unset, .unset, .unset, .unset, .unset, .unset, .unset, .unset] [(.ref b9)]))
          refine own_iconst X9 hx (v := (0 : Int32)) (hb hby at_83) rfl ?_
          show Goes _ _ _ _ _ _ (T9.setTop (mkF m 84 #[.val (.long q1), .second, .val (.long q2), .second, .val (.long q3), .second, .val (.long q4), .second, .val (.long q5), .second, .val (.int p6), .val (.long w2), .second, .val (.long w4), .second, .val (.long w6), .second, .val (.long w8), .second, .val (.ref b9), .unset, .unset, .unset, .unset, .unset, .unset, .unset, .unset] [(.int (0 : Int32)), (.ref b9)]))
          refine own_lload X9 hx (hb hby at_84) rfl ?_
          show Goes _ _ _ _ _ _ (T9.setTop (mkF m 86 #[.val (.long q1), .second, .val (.long q2), .second, .val (.long q3), .second, .val (.long q4), .second, .val (.long q5), .second, .val (.int p6), .val (.long w2), .second, .val (.long w4), .second, .val (.long w6), .second, .val (.long w8), .second, .val (.ref b9), .unset, .unset, .unset, .unset, .unset, .unset, .unset, .unset] [(.long w2), (.int (0 : Int32)), (.ref b9)]))
          refine own_lastore X9 hx hZ N8 e9 V9 ⟨by decide, by decide⟩ (i := 0) rfl (by first | decide | (simp; done)) ge_b9 (hb hby at_86) (fun T11 h11 lc11 X11 e11 N11 W11 V11 => ?_)
          have O12 := O10.wr W11 ge_b9
          have V11' : Arv Z h11 b9 k9 .long (8 : Int32) [(.long w2), (.long (0 : Int64)), (.long (0 : Int64)), (.long (0 : Int64)), (.long (0 : Int64)), (.long (0 : Int64)), (.long (0 : Int64)), (.long (0 : Int64))] (.long (0 : Int64)) := V11
          show Goes _ _ _ _ _ _ (T11.setTop (mkF m 87 #[.val (.long q1), .second, .val (.long q2), .second, .val (.long q3), .second, .val (.long q4), .second, .val (.long q5), .second, .val (.int p6), .val (.long w2), .second, .val (.long w4), .second, .val (.long w6), .second, .val (.long w8), .second, .val (.ref b9), .unset, .unset, .unset, .unset, .unset, .unset, .unset, .unset] []))
          refine own_aload X11 hx (hb hby at_87) rfl rfl ?_
          show Goes _ _ _ _ _ _ (T11.setTop (mkF m 89 #[.val (.long q1), .second, .val (.long q2), .second, .val (.long q3), .second, .val (.long q4), .second, .val (.long q5), .second, .val (.int p6), .val (.long w2), .second, .val (.long w4), .second, .val (.long w6), .second, .val (.long w8), .second, .val (.ref b9), .unset, .unset, .unset, .unset, .unset, .unset, .unset, .unset] [(.ref b9)]))
          refine own_iconst X11 hx (v := (1 : Int32)) (hb hby at_89) rfl ?_
          show Goes _ _ _ _ _ _ (T11.setTop (mkF m 90 #[.val (.long q1), .second, .val (.long q2), .second, .val (.long q3), .second, .val (.long q4), .second, .val (.long q5), .second, .val (.int p6), .val (.long w2), .second, .val (.long w4), .second, .val (.long w6), .second, .val (.long w8), .second, .val (.ref b9), .unset, .unset, .unset, .unset, .unset, .unset, .unset, .unset] [(.int (1 : Int32)), (.ref b9)]))
          refine own_lload X11 hx (hb hby at_90) rfl ?_
          show Goes _ _ _ _ _ _ (T11.setTop (mkF m 92 #[.val (.long q1), .second, .val (.long q2), .second, .val (.long q3), .second, .val (.long q4), .second, .val (.long q5), .second, .val (.int p6), .val (.long w2), .second, .val (.long w4), .second, .val (.long w6), .second, .val (.long w8), .second, .val (.ref b9), .unset, .unset, .unset, .unset, .unset, .unset, .unset, .unset] [(.long w4), (.int (1 : Int32)), (.ref b9)]))
          refine own_lastore X11 hx hZ N11 e11 V11' ⟨by decide, by decide⟩ (i := 1) rfl (by first | decide | (simp; done)) ge_b9 (hb hby at_92) (fun T13 h13 lc13 X13 e13 N13 W13 V13 => ?_)
          have O14 := O12.wr W13 ge_b9
          have V13' : Arv Z h13 b9 k9 .long (8 : Int32) [(.long w2), (.long w4), (.long (0 : Int64)), (.long (0 : Int64)), (.long (0 : Int64)), (.long (0 : Int64)), (.long (0 : Int64)), (.long (0 : Int64))] (.long (0 : Int64)) := V13
          show Goes _ _ _ _ _ _ (T13.setTop (mkF m 93 #[.val (.long q1), .second, .val (.long q2), .second, .val (.long q3), .second, .val (.long q4), .second, .val (.long q5), .second, .val (.int p6), .val (.long w2), .second, .val (.long w4), .second, .val (.long w6), .second, .val (.long w8), .second, .val (.ref b9), .unset, .unset, .unset, .unset, .unset, .unset, .unset, .unset] []))
          refine own_aload X13 hx (hb hby at_93) rfl rfl ?_
          show Goes _ _ _ _ _ _ (T13.setTop (mkF m 95 #[.val (.long q1), .second, .val (.long q2), .second, .val (.long q3), .second, .val (.long q4), .second, .val (.long q5), .second, .val (.int p6), .val (.long w2), .second, .val (.long w4), .second, .val (.long w6), .second, .val (.long w8), .second, .val (.ref b9), .unset, .unset, .unset, .unset, .unset, .unset, .unset, .unset] [(.ref b9)]))
          refine own_iconst X13 hx (v := (2 : Int32)) (hb hby at_95) rfl ?_
          show Goes _ _ _ _ _ _ (T13.setTop (mkF m 96 #[.val (.long q1), .second, .val (.long q2), .second, .val (.long q3), .second, .val (.long q4), .second, .val (.long q5), .second, .val (.int p6), .val (.long w2), .second, .val (.long w4), .second, .val (.long w6), .second, .val (.long w8), .second, .val (.ref b9), .unset, .unset, .unset, .unset, .unset, .unset, .unset, .unset] [(.int (2 : Int32)), (.ref b9)]))
          refine own_lload X13 hx (hb hby at_96) rfl ?_
          show Goes _ _ _ _ _ _ (T13.setTop (mkF m 98 #[.val (.long q1), .second, .val (.long q2), .second, .val (.long q3), .second, .val (.long q4), .second, .val (.long q5), .second, .val (.int p6), .val (.long w2), .second, .val (.long w4), .second, .val (.long w6), .second, .val (.long w8), .second, .val (.ref b9), .unset, .unset, .unset, .unset, .unset, .unset, .unset, .unset] [(.long w6), (.int (2 : Int32)), (.ref b9)]))
          refine own_lastore X13 hx hZ N13 e13 V13' ⟨by decide, by decide⟩ (i := 2) rfl (by first | decide | (simp; done)) ge_b9 (hb hby at_98) (fun T15 h15 lc15 X15 e15 N15 W15 V15 => ?_)
          have O16 := O14.wr W15 ge_b9
          have V15' : Arv Z h15 b9 k9 .long (8 : Int32) [(.long w2), (.long w4), (.long w6), (.long (0 : Int64)), (.long (0 : Int64)), (.long (0 : Int64)), (.long (0 : Int64)), (.long (0 : Int64))] (.long (0 : Int64)) := V15
          show Goes _ _ _ _ _ _ (T15.setTop (mkF m 99 #[.val (.long q1), .second, .val (.long q2), .second, .val (.long q3), .second, .val (.long q4), .second, .val (.long q5), .second, .val (.int p6), .val (.long w2), .second, .val (.long w4), .second, .val (.long w6), .second, .val (.long w8), .second, .val (.ref b9), .unset, .unset, .unset, .unset, .unset, .unset, .unset, .unset] []))
          refine own_aload X15 hx (hb hby at_99) rfl rfl ?_
          show Goes _ _ _ _ _ _ (T15.setTop (mkF m 101 #[.val (.long q1), .second, .val (.long q2), .second, .val (.long q3), .second, .val (.long q4), .second, .val (.long q5), .second, .val (.int p6), .val (.long w2), .second, .val (.long w4), .second, .val (.long w6), .second, .val (.long w8), .second, .val (.ref b9), .unset, .unset, .unset, .unset, .unset, .unset, .unset, .unset] [(.ref b9)]))
          refine own_iconst X15 hx (v := (3 : Int32)) (hb hby at_101) rfl ?_
          show Goes _ _ _ _ _ _ (T15.setTop (mkF m 102 #[.val (.long q1), .second, .val (.long q2), .second, .val (.long q3), .second, .val (.long q4), .second, .val (.long q5), .second, .val (.int p6), .val (.long w2), .second, .val (.long w4), .second, .val (.long w6), .second, .val (.long w8), .second, .val (.ref b9), .unset, .unset, .unset, .unset, .unset, .unset, .unset, .unset] [(.int (3 : Int32)), (.ref b9)]))
          refine own_lload X15 hx (hb hby at_102) rfl ?_
          show Goes _ _ _ _ _ _ (T15.setTop (mkF m 104 #[.val (.long q1), .second, .val (.long q2), .second, .val (.long q3), .second, .val (.long q4), .second, .val (.long q5), .second, .val (.int p6), .val (.long w2), .second, .val (.long w4), .second, .val (.long w6), .second, .val (.long w8), .second, .val (.ref b9), .unset, .unset, .unset, .unset, .unset, .unset, .unset, .unset] [(.long w8), (.int (3 : Int32)), (.ref b9)]))
          refine own_lastore X15 hx hZ N15 e15 V15' ⟨by decide, by decide⟩ (i := 3) rfl (by first | decide | (simp; done)) ge_b9 (hb hby at_104) (fun T17 h17 lc17 X17 e17 N17 W17 V17 => ?_)
          have O18 := O16.wr W17 ge_b9
          have V17' : Arv Z h17 b9 k9 .long (8 : Int32) [(.long w2), (.long w4), (.long w6), (.long w8), (.long (0 : Int64)), (.long (0 : Int64)), (.long (0 : Int64)), (.long (0 : Int64))] (.long (0 : Int64)) := V17
          show Goes _ _ _ _ _ _ (T17.setTop (mkF m 105 #[.val (.long q1), .second, .val (.long q2), .second, .val (.long q3), .second, .val (.long q4), .second, .val (.long q5), .second, .val (.int p6), .val (.long w2), .second, .val (.long w4), .second, .val (.long w6), .second, .val (.long w8), .second, .val (.ref b9), .unset, .unset, .unset, .unset, .unset, .unset, .unset, .unset] []))
          refine own_aload X17 hx (hb hby at_105) rfl rfl ?_
          show Goes _ _ _ _ _ _ (T17.setTop (mkF m 107 #[.val (.long q1), .second, .val (.long q2), .second, .val (.long q3), .second, .val (.long q4), .second, .val (.long q5), .second, .val (.int p6), .val (.long w2), .second, .val (.long w4), .second, .val (.long w6), .second, .val (.long w8), .second, .val (.ref b9), .unset, .unset, .unset, .unset, .unset, .unset, .unset, .unset] [(.ref b9)]))
          refine own_iconst X17 hx (v := (4 : Int32)) (hb hby at_107) rfl ?_
          show Goes _ _ _ _ _ _ (T17.setTop (mkF m 108 #[.val (.long q1), .second, .val (.long q2), .second, .val (.long q3), .second, .val (.long q4), .second, .val (.long q5), .second, .val (.int p6), .val (.long w2), .second, .val (.long w4), .second, .val (.long w6), .second, .val (.long w8), .second, .val (.ref b9), .unset, .unset, .unset, .unset, .unset, .unset, .unset, .unset] [(.int (4 : Int32)), (.ref b9)]))
          refine own_lload X17 hx (hb hby at_108) rfl ?_
          show Goes _ _ _ _ _ _ (T17.setTop (mkF m 110 #[.val (.long q1), .second, .val (.long q2), .second, .val (.long q3), .second, .val (.long q4), .second, .val (.long q5), .second, .val (.int p6), .val (.long w2), .second, .val (.long w4), .second, .val (.long w6), .second, .val (.long w8), .second, .val (.ref b9), .unset, .unset, .unset, .unset, .unset, .unset, .unset, .unset] [(.long q5), (.int (4 : Int32)), (.ref b9)]))
          refine own_lastore X17 hx hZ N17 e17 V17' ⟨by decide, by decide⟩ (i := 4) rfl (by first | decide | (simp; done)) ge_b9 (hb hby at_110) (fun T19 h19 lc19 X19 e19 N19 W19 V19 => ?_)
          have O20 := O18.wr W19 ge_b9
          have V19' : Arv Z h19 b9 k9 .long (8 : Int32) [(.long w2), (.long w4), (.long w6), (.long w8), (.long q5), (.long (0 : Int64)), (.long (0 : Int64)), (.long (0 : Int64))] (.long (0 : Int64)) := V19
          show Goes _ _ _ _ _ _ (T19.setTop (mkF m 111 #[.val (.long q1), .second, .val (.long q2), .second, .val (.long q3), .second, .val (.long q4), .second, .val (.long q5), .second, .val (.int p6), .val (.long w2), .second, .val (.long w4), .second, .val (.long w6), .second, .val (.long w8), .second, .val (.ref b9), .unset, .unset, .unset, .unset, .unset, .unset, .unset, .unset] []))
          refine own_aload X19 hx (hb hby at_111) rfl rfl ?_
          show Goes _ _ _ _ _ _ (T19.setTop (mkF m 113 #[.val (.long q1), .second, .val (.long q2), .second, .val (.long q3), .second, .val (.long q4), .second, .val (.long q5), .second, .val (.int p6), .val (.long w2), .second, .val (.long w4), .second, .val (.long w6), .second, .val (.long w8), .second, .val (.ref b9), .unset, .unset, .unset, .unset, .unset, .unset, .unset, .unset] [(.ref b9)]))
          refine own_iconst X19 hx (v := (5 : Int32)) (hb hby at_113) rfl ?_
          show Goes _ _ _ _ _ _ (T19.setTop (mkF m 114 #[.val (.long q1), .second, .val (.long q2), .second, .val (.long q3), .second, .val (.long q4), .second, .val (.long q5), .second, .val (.int p6), .val (.long w2), .second, .val (.long w4), .second, .val (.long w6), .second, .val (.long w8), .second, .val (.ref b9), .unset, .unset, .unset, .unset, .unset, .unset, .unset, .unset] [(.int (5 : Int32)), (.ref b9)]))
          refine own_lload X19 hx (hb hby at_114) rfl ?_
          show Goes _ _ _ _ _ _ (T19.setTop (mkF m 116 #[.val (.long q1), .second, .val (.long q2), .second, .val (.long q3), .second, .val (.long q4), .second, .val (.long q5), .second, .val (.int p6), .val (.long w2), .second, .val (.long w4), .second, .val (.long w6), .second, .val (.long w8), .second, .val (.ref b9), .unset, .unset, .unset, .unset, .unset, .unset, .unset, .unset] [(.long q5), (.int (5 : Int32)), (.ref b9)]))
          refine own_lastore X19 hx hZ N19 e19 V19' ⟨by decide, by decide⟩ (i := 5) rfl (by first | decide | (simp; done)) ge_b9 (hb hby at_116) (fun T21 h21 lc21 X21 e21 N21 W21 V21 => ?_)
          have O22 := O20.wr W21 ge_b9
          have V21' : Arv Z h21 b9 k9 .long (8 : Int32) [(.long w2), (.long w4), (.long w6), (.long w8), (.long q5), (.long q5), (.long (0 : Int64)), (.long (0 : Int64))] (.long (0 : Int64)) := V21
          show Goes _ _ _ _ _ _ (T21.setTop (mkF m 117 #[.val (.long q1), .second, .val (.long q2), .second, .val (.long q3), .second, .val (.long q4), .second, .val (.long q5), .second, .val (.int p6), .val (.long w2), .second, .val (.long w4), .second, .val (.long w6), .second, .val (.long w8), .second, .val (.ref b9), .unset, .unset, .unset, .unset, .unset, .unset, .unset, .unset] []))
          refine own_aload X21 hx (hb hby at_117) rfl rfl ?_
          show Goes _ _ _ _ _ _ (T21.setTop (mkF m 119 #[.val (.long q1), .second, .val (.long q2), .second, .val (.long q3), .second, .val (.long q4), .second, .val (.long q5), .second, .val (.int p6), .val (.long w2), .second, .val (.long w4), .second, .val (.long w6), .second, .val (.long w8), .second, .val (.ref b9), .unset, .unset, .unset, .unset, .unset, .unset, .unset, .unset] [(.ref b9)]))
          refine own_bipush X21 hx (v := (6 : Int32)) (hb hby at_119) rfl ?_
          show Goes _ _ _ _ _ _ (T21.setTop (mkF m 121 #[.val (.long q1), .second, .val (.long q2), .second, .val (.long q3), .second, .val (.long q4), .second, .val (.long q5), .second, .val (.int p6), .val (.long w2), .second, .val (.long w4), .second, .val (.long w6), .second, .val (.long w8), .second, .val (.ref b9), .unset, .unset, .unset, .unset, .unset, .unset, .unset, .unset] [(.int (6 : Int32)), (.ref b9)]))
          refine own_lload X21 hx (hb hby at_121) rfl ?_
          show Goes _ _ _ _ _ _ (T21.setTop (mkF m 123 #[.val (.long q1), .second, .val (.long q2), .second, .val (.long q3), .second, .val (.long q4), .second, .val (.long q5), .second, .val (.int p6), .val (.long w2), .second, .val (.long w4), .second, .val (.long w6), .second, .val (.long w8), .second, .val (.ref b9), .unset, .unset, .unset, .unset, .unset, .unset, .unset, .unset] [(.long q5), (.int (6 : Int32)), (.ref b9)]))
          refine own_ldc2Long X21 hx hZ hown (hw _ (List.mem_of_getElem? (i := 2) rfl)) (hb hby at_123) ?_
          show Goes _ _ _ _ _ _ (T21.setTop (mkF m 126 #[.val (.long q1), .second, .val (.long q2), .second, .val (.long q3), .second, .val (.long q4), .second, .val (.long q5), .second, .val (.int p6), .val (.long w2), .second, .val (.long w4), .second, .val (.long w6), .second, .val (.long w8), .second, .val (.ref b9), .unset, .unset, .unset, .unset, .unset, .unset, .unset, .unset] [(.long (-1 : Int64)), (.long q5), (.int (6 : Int32)), (.ref b9)]))
          refine own_lxor X21 hx (hb hby at_126) ?_
          show Goes _ _ _ _ _ _ (T21.setTop (mkF m 127 #[.val (.long q1), .second, .val (.long q2), .second, .val (.long q3), .second, .val (.long q4), .second, .val (.long q5), .second, .val (.int p6), .val (.long w2), .second, .val (.long w4), .second, .val (.long w6), .second, .val (.long w8), .second, .val (.ref b9), .unset, .unset, .unset, .unset, .unset, .unset, .unset, .unset] [(.long (q5 ^^^ (-1 : Int64))), (.int (6 : Int32)), (.ref b9)]))
          refine own_lastore X21 hx hZ N21 e21 V21' ⟨by decide, by decide⟩ (i := 6) rfl (by first | decide | (simp; done)) ge_b9 (hb hby at_127) (fun T23 h23 lc23 X23 e23 N23 W23 V23 => ?_)
          have O24 := O22.wr W23 ge_b9
          have V23' : Arv Z h23 b9 k9 .long (8 : Int32) [(.long w2), (.long w4), (.long w6), (.long w8), (.long q5), (.long q5), (.long (q5 ^^^ (-1 : Int64))), (.long (0 : Int64))] (.long (0 : Int64)) := V23
          show Goes _ _ _ _ _ _ (T23.setTop (mkF m 128 #[.val (.long q1), .second, .val (.long q2), .second, .val (.long q3), .second, .val (.long q4), .second, .val (.long q5), .second, .val (.int p6), .val (.long w2), .second, .val (.long w4), .second, .val (.long w6), .second, .val (.long w8), .second, .val (.ref b9), .unset, .unset, .unset, .unset, .unset, .unset, .unset, .unset] []))
          refine own_aload X23 hx (hb hby at_128) rfl rfl ?_
          show Goes _ _ _ _ _ _ (T23.setTop (mkF m 130 #[.val (.long q1), .second, .val (.long q2), .second, .val (.long q3), .second, .val (.long q4), .second, .val (.long q5), .second, .val (.int p6), .val (.long w2), .second, .val (.long w4), .second, .val (.long w6), .second, .val (.long w8), .second, .val (.ref b9), .unset, .unset, .unset, .unset, .unset, .unset, .unset, .unset] [(.ref b9)]))
          refine own_bipush X23 hx (v := (7 : Int32)) (hb hby at_130) rfl ?_
          show Goes _ _ _ _ _ _ (T23.setTop (mkF m 132 #[.val (.long q1), .second, .val (.long q2), .second, .val (.long q3), .second, .val (.long q4), .second, .val (.long q5), .second, .val (.int p6), .val (.long w2), .second, .val (.long w4), .second, .val (.long w6), .second, .val (.long w8), .second, .val (.ref b9), .unset, .unset, .unset, .unset, .unset, .unset, .unset, .unset] [(.int (7 : Int32)), (.ref b9)]))
          refine own_lload X23 hx (hb hby at_132) rfl ?_
          show Goes _ _ _ _ _ _ (T23.setTop (mkF m 134 #[.val (.long q1), .second, .val (.long q2), .second, .val (.long q3), .second, .val (.long q4), .second, .val (.long q5), .second, .val (.int p6), .val (.long w2), .second, .val (.long w4), .second, .val (.long w6), .second, .val (.long w8), .second, .val (.ref b9), .unset, .unset, .unset, .unset, .unset, .unset, .unset, .unset] [(.long q5), (.int (7 : Int32)), (.ref b9)]))
          refine own_iload X23 hx (hb hby at_134) rfl ?_
          show Goes _ _ _ _ _ _ (T23.setTop (mkF m 136 #[.val (.long q1), .second, .val (.long q2), .second, .val (.long q3), .second, .val (.long q4), .second, .val (.long q5), .second, .val (.int p6), .val (.long w2), .second, .val (.long w4), .second, .val (.long w6), .second, .val (.long w8), .second, .val (.ref b9), .unset, .unset, .unset, .unset, .unset, .unset, .unset, .unset] [(.int p6), (.long q5), (.int (7 : Int32)), (.ref b9)]))
          refine own_i2l X23 hx (hb hby at_136) ?_
          show Goes _ _ _ _ _ _ (T23.setTop (mkF m 137 #[.val (.long q1), .second, .val (.long q2), .second, .val (.long q3), .second, .val (.long q4), .second, .val (.long q5), .second, .val (.int p6), .val (.long w2), .second, .val (.long w4), .second, .val (.long w6), .second, .val (.long w8), .second, .val (.ref b9), .unset, .unset, .unset, .unset, .unset, .unset, .unset, .unset] [(.long (p6.toInt64)), (.long q5), (.int (7 : Int32)), (.ref b9)]))
          refine own_lxor X23 hx (hb hby at_137) ?_
          show Goes _ _ _ _ _ _ (T23.setTop (mkF m 138 #[.val (.long q1), .second, .val (.long q2), .second, .val (.long q3), .second, .val (.long q4), .second, .val (.long q5), .second, .val (.int p6), .val (.long w2), .second, .val (.long w4), .second, .val (.long w6), .second, .val (.long w8), .second, .val (.ref b9), .unset, .unset, .unset, .unset, .unset, .unset, .unset, .unset] [(.long (q5 ^^^ (p6.toInt64))), (.int (7 : Int32)), (.ref b9)]))
          refine own_lastore X23 hx hZ N23 e23 V23' ⟨by decide, by decide⟩ (i := 7) rfl (by first | decide | (simp; done)) ge_b9 (hb hby at_138) (fun T25 h25 lc25 X25 e25 N25 W25 V25 => ?_)
          have O26 := O24.wr W25 ge_b9
          have V25' : Arv Z h25 b9 k9 .long (8 : Int32) [(.long w2), (.long w4), (.long w6), (.long w8), (.long q5), (.long q5), (.long (q5 ^^^ (-1 : Int64))), (.long (q5 ^^^ (p6.toInt64)))] (.long (0 : Int64)) := V25
          show Goes _ _ _ _ _ _ (T25.setTop (mkF m 139 #[.val (.long q1), .second, .val (.long q2), .second, .val (.long q3), .second, .val (.long q4), .second, .val (.long q5), .second, .val (.int p6), .val (.long w2), .second, .val (.long w4), .second, .val (.long w6), .second, .val (.long w8), .second, .val (.ref b9), .unset, .unset, .unset, .unset, .unset, .unset, .unset, .unset] []))
          refine own_new X25 hx hZ hown (hw _ (List.mem_of_getElem? (i := 3) rfl)) (hw _ (List.mem_of_getElem? (i := 4) rfl)) (hw _ (List.mem_of_getElem? (i := 5) rfl)) e25 (hb hby at_139) (by decide) (by decide) (fun T27 h27 b27 g27 X27 e27 E27 A27 D27 => ?_)
          have ge_b27 : n0 ≤ b27 := Nat.le_trans (own_sz O26) (Nat.le_of_eq g27.symm)
          have A28_b9 := V25'.ext E27
          have O28 := O26.ext E27
          have F27_columns_b27 : Fld Z h27 b27 "com/example/fuseline/fuseline/WindowCounts" "columns" "[J" .null := D27 (Or.inr (hw _ (List.mem_of_getElem? (i := 13) rfl))) (ty := (.array .long)) (by decide)
          have F27_counted_b27 : Fld Z h27 b27 "com/example/fuseline/fuseline/WindowCounts" "counted" "J" (.long (0 : Int64)) := D27 (Or.inr (hw _ (List.mem_of_getElem? (i := 59) rfl))) (ty := .long) (by decide)
          have F27_errors_b27 : Fld Z h27 b27 "com/example/fuseline/fuseline/WindowCounts" "errors" "J" (.long (0 : Int64)) := D27 (Or.inr (hw _ (List.mem_of_getElem? (i := 61) rfl))) (ty := .long) (by decide)
          show Goes _ _ _ _ _ _ (T27.setTop (mkF m 142 #[.val (.long q1), .second, .val (.long q2), .second, .val (.long q3), .second, .val (.long q4), .second, .val (.long q5), .second, .val (.int p6), .val (.long w2), .second, .val (.long w4), .second, .val (.long w6), .second, .val (.long w8), .second, .val (.ref b9), .unset, .unset, .unset, .unset, .unset, .unset, .unset, .unset] [(.ref b27)]))
          refine own_dup X27 hx (hb hby at_142) rfl ?_
          show Goes _ _ _ _ _ _ (T27.setTop (mkF m 143 #[.val (.long q1), .second, .val (.long q2), .second, .val (.long q3), .second, .val (.long q4), .second, .val (.long q5), .second, .val (.int p6), .val (.long w2), .second, .val (.long w4), .second, .val (.long w6), .second, .val (.long w8), .second, .val (.ref b9), .unset, .unset, .unset, .unset, .unset, .unset, .unset, .unset] [(.ref b27), (.ref b27)]))
          refine own_aload X27 hx (hb hby at_143) rfl rfl ?_
          show Goes _ _ _ _ _ _ (T27.setTop (mkF m 145 #[.val (.long q1), .second, .val (.long q2), .second, .val (.long q3), .second, .val (.long q4), .second, .val (.long q5), .second, .val (.int p6), .val (.long w2), .second, .val (.long w4), .second, .val (.long w6), .second, .val (.long w8), .second, .val (.ref b9), .unset, .unset, .unset, .unset, .unset, .unset, .unset, .unset] [(.ref b9), (.ref b27), (.ref b27)]))
          refine own_special X27 hx hZ hown (y := (⟨"com/example/fuseline/fuseline/WindowCounts", "<init>", "([J)V"⟩ : MethodName)) rfl (hw _ (List.mem_of_getElem? (i := 6) rfl)) (hw _ (List.mem_of_getElem? (i := 7) rfl)) (hw _ (List.mem_of_getElem? (i := 5) rfl)) (hw _ (List.mem_of_getElem? (i := 8) rfl)) (a := b27) (by decide) (W := 1) (by decide) (by decide) N25 e27 (by rw [hml]; rfl) (argsL := [(.ref b9)]) (rest := [(.ref b27)]) (lenOf pd_3 rfl) (Nat.le_of_eq rfl) (by decide) (by decide) (rm1 l Z a0 hw [] b27 b9 (.null) ((.long (0 : Int64))) ((.long (0 : Int64))) k9 w2 w4 w6 w8 q5 q5 (q5 ^^^ (-1 : Int64)) (q5 ^^^ (p6.toInt64)) w__VALUES w_SUCCESS w_FAILURE w_TIMEOUT w_REJECTED w_SHORT_CIRCUITED k_w__VALUES h27 n0 O28 ⟨z0, z1, z2, z3, z4, z5, z6, z7, z8, z9, z10, z11, z12, z13, z14, z15, z16, z17, z18, z19, z20, z21, z22, z23, z24, z25, z26, z27, trivial⟩ A27 F27_columns_b27 F27_counted_b27 F27_errors_b27 ge_b27 A28_b9) rfl (hb hby at_145) ?_
          intro v29 T29 lc29 X29 N29 hQ29
          obtain ⟨rfl, K29, r29_0, r29_1, r29_2⟩ := hQ29
          have O30 := O28.keep K29 (allS ge_b27 all0)
          show Goes _ _ _ _ _ _ (T29.setTop (mkF m 148 #[.val (.long q1), .second, .val (.long q2), .second, .val (.long q3), .second, .val (.long q4), .second, .val (.long q5), .second, .val (.int p6), .val (.long w2), .second, .val (.long w4), .second, .val (.long w6), .second, .val (.long w8), .second, .val (.ref b9), .unset, .unset, .unset, .unset, .unset, .unset, .unset, .unset] [(.ref b27)]))
          refine own_astore X29 hx (Ls' := #[.val (.long q1), .second, .val (.long q2), .second, .val (.long q3), .second, .val (.long q4), .second, .val (.long q5), .second, .val (.int p6), .val (.long w2), .second, .val (.long w4), .second, .val (.long w6), .second, .val (.long w8), .second, .val (.ref b9), .val (.ref b27), .unset, .unset, .unset, .unset, .unset, .unset, .unset]) (hb hby at_148) rfl rfl ?_
          show Goes _ _ _ _ _ _ (T29.setTop (mkF m 150 #[.val (.long q1), .second, .val (.long q2), .second, .val (.long q3), .second, .val (.long q4), .second, .val (.long q5), .second, .val (.int p6), .val (.long w2), .second, .val (.long w4), .second, .val (.long w6), .second, .val (.long w8), .second, .val (.ref b9), .val (.ref b27), .unset, .unset, .unset, .unset, .unset, .unset, .unset] []))
          refine own_aload X29 hx (hb hby at_150) rfl rfl ?_
          show Goes _ _ _ _ _ _ (T29.setTop (mkF m 152 #[.val (.long q1), .second, .val (.long q2), .second, .val (.long q3), .second, .val (.long q4), .second, .val (.long q5), .second, .val (.int p6), .val (.long w2), .second, .val (.long w4), .second, .val (.long w6), .second, .val (.long w8), .second, .val (.ref b9), .val (.ref b27), .unset, .unset, .unset, .unset, .unset, .unset, .unset] [(.ref b27)]))
          refine own_virtual X29 hx hZ hown (y := (⟨"com/example/fuseline/fuseline/WindowCounts", "errorPercentage", "()I"⟩ : MethodName)) (z := (⟨"com/example/fuseline/fuseline/WindowCounts", "errorPercentage", "()I"⟩ : MethodName)) (hw _ (List.mem_of_getElem? (i := 62) rfl)) (hw _ (List.mem_of_getElem? (i := 63) rfl)) (notFace_of_selects (args := #[]) (mvT hZ (hw _ (List.mem_of_getElem? (i := 65) rfl)))) (hw _ (List.mem_of_getElem? (i := 65) rfl)) (hw _ (List.mem_of_getElem? (i := 64) rfl)) (hw _ (List.mem_of_getElem? (i := 5) rfl)) (hw _ (List.mem_of_getElem? (i := 66) rfl)) (a := b27) r29_0 (by decide) (W := 0) (by decide) (by decide) N29 rfl (by rw [hml]; rfl) (argsL := []) (rest := []) (lenOf pd_2 rfl) (Nat.le_of_eq rfl) (by decide) (by decide) (rm7 l Z a0 hw [] b27 (((((0 : Int64) + w2) + w4) + w6) + w8) ((((0 : Int64) + w4) + w6) + w8) w__VALUES w_SUCCESS w_FAILURE w_TIMEOUT w_REJECTED w_SHORT_CIRCUITED k_w__VALUES T29.heap n0 O30 ⟨z0, z1, z2, z3, z4, z5, z6, z7, z8, z9, z10, z11, z12, z13, z14, z15, z16, z17, z18, z19, z20, z21, z22, z23, z24, z25, z26, z27, trivial⟩ r29_1 r29_2) rfl (hb hby at_152) ?_
          intro v31 T31 lc31 X31 N31 hQ31
          rcases hQ31 with hQ31_0 | hQ31_1
          ·
            obtain ⟨rfl, hq31_0_0, e31⟩ := hQ31_0
            show Goes _ _ _ _ _ _ (T31.setTop (mkF m 155 #[.val (.long q1), .second, .val (.long q2), .second, .val (.long q3), .second, .val (.long q4), .second, .val (.long q5), .second, .val (.int p6), .val (.long w2), .second, .val (.long w4), .second, .val (.long w6), .second, .val (.long w8), .second, .val (.ref b9), .val (.ref b27), .unset, .unset, .unset, .unset, .unset, .unset, .unset] [(.int (0 : Int32))]))
            refine own_istore X31 hx (Ls' := #[.val (.long q1), .second, .val (.long q2), .second, .val (.long q3), .second, .val (.long q4), .second, .val (.long q5), .second, .val (.int p6), .val (.long w2), .second, .val (.long w4), .second, .val (.long w6), .second, .val (.long w8), .second, .val (.ref b9), .val (.ref b27), .val (.int (0 : Int32)), .unset, .unset, .unset, .unset, .unset, .unset]) (hb hby at_155) rfl ?_
            show Goes _ _ _ _ _ _ (T31.setTop (mkF m 157 #[.val (.long q1), .second, .val (.long q2), .second, .val (.long q3), .second, .val (.long q4), .second, .val (.long q5), .second, .val (.int p6), .val (.long w2), .second, .val (.long w4), .second, .val (.long w6), .second, .val (.long w8), .second, .val (.ref b9), .val (.ref b27), .val (.int (0 : Int32)), .unset, .unset, .unset, .unset, .unset, .unset] []))
            refine own_lload X31 hx (hb hby at_157) rfl ?_
            show Goes _ _ _ _ _ _ (T31.setTop (mkF m 159 #[.val (.long q1), .second, .val (.long q2), .second, .val (.long q3), .second, .val (.long q4), .second, .val (.long q5), .second, .val (.int p6), .val (.long w2), .second, .val (.long w4), .second, .val (.long w6), .second, .val (.long w8), .second, .val (.ref b9), .val (.ref b27), .val (.int (0 : Int32)), .unset, .unset, .unset, .unset, .unset, .unset] [(.long w4)]))
            refine own_lload X31 hx (hb hby at_159) rfl ?_
            show Goes _ _ _ _ _ _ (T31.setTop (mkF m 161 #[.val (.long q1), .second, .val (.long q2), .second, .val (.long q3), .second, .val (.long q4), .second, .val (.long q5), .second, .val (.int p6), .val (.long w2), .second, .val (.long w4), .second, .val (.long w6), .second, .val (.long w8), .second, .val (.ref b9), .val (.ref b27), .val (.int (0 : Int32)), .unset, .unset, .unset, .unset, .unset, .unset] [(.long w6), (.long w4)]))
            refine own_ladd X31 hx (hb hby at_161) ?_
            show Goes _ _ _ _ _ _ (T31.setTop (mkF m 162 #[.val (.long q1), .second, .val (.long q2), .second, .val (.long q3), .second, .val (.long q4), .second, .val (.long q5), .second, .val (.int p6), .val (.long w2), .second, .val (.long w4), .second, .val (.long w6), .second, .val (.long w8), .second, .val (.ref b9), .val (.ref b27), .val (.int (0 : Int32)), .unset, .unset, .unset, .unset, .unset, .unset] [(.long (w4 + w6))]))
            refine own_lload X31 hx (hb hby at_162) rfl ?_
            show Goes _ _ _ _ _ _ (T31.setTop (mkF m 164 #[.val (.long q1), .second, .val (.long q2), .second, .val (.long q3), .second, .val (.long q4), .second, .val (.long q5), .second, .val (.int p6), .val (.long w2), .second, .val (.long w4), .second, .val (.long w6), .second, .val (.long w8), .second, .val (.ref b9), .val (.ref b27), .val (.int (0 : Int32)), .unset, .unset, .unset, .unset, .unset, .unset] [(.long w8), (.long (w4 + w6))]))
            refine own_ladd X31 hx (hb hby at_164) ?_
            show Goes _ _ _ _ _ _ (T31.setTop (mkF m 165 #[.val (.long q1), .second, .val (.long q2), .second, .val (.long q3), .second, .val (.long q4), .second, .val (.long q5), .second, .val (.int p6), .val (.long w2), .second, .val (.long w4), .second, .val (.long w6), .second, .val (.long w8), .second, .val (.ref b9), .val (.ref b27), .val (.int (0 : Int32)), .unset, .unset, .unset, .unset, .unset, .unset] [(.long ((w4 + w6) + w8))]))
            refine own_lstore X31 hx (Ls' := #[.val (.long q1), .second, .val (.long q2), .second, .val (.long q3), .second, .val (.long q4), .second, .val (.long q5), .second, .val (.int p6), .val (.long w2), .second, .val (.long w4), .second, .val (.long w6), .second, .val (.long w8), .second, .val (.ref b9), .val (.ref b27), .val (.int (0 : Int32)), .val (.long ((w4 + w6) + w8)), .second, .unset, .unset, .unset, .unset]) (hb hby at_165) rfl ?_
            show Goes _ _ _ _ _ _ (T31.setTop (mkF m 167 #[.val (.long q1), .second, .val (.long q2), .second, .val (.long q3), .second, .val (.long q4), .second, .val (.long q5), .second, .val (.int p6), .val (.long w2), .second, .val (.long w4), .second, .val (.long w6), .second, .val (.long w8), .second, .val (.ref b9), .val (.ref b27), .val (.int (0 : Int32)), .val (.long ((w4 + w6) + w8)), .second, .unset, .unset, .unset, .unset] []))
            refine own_lload X31 hx (hb hby at_167) rfl ?_
            show Goes _ _ _ _ _ _ (T31.setTop (mkF m 169 #[.val (.long q1), .second, .val (.long q2), .second, .val (.long q3), .second, .val (.long q4), .second, .val (.long q5), .second, .val (.int p6), .val (.long w2), .second, .val (.long w4), .second, .val (.long w6), .second, .val (.long w8), .second, .val (.ref b9), .val (.ref b27), .val (.int (0 : Int32)), .val (.long ((w4 + w6) + w8)), .second, .unset, .unset, .unset, .unset] [(.long w2)]))
            refine own_lload X31 hx (hb hby at_169) rfl ?_
            show Goes _ _ _ _ _ _ (T31.setTop (mkF m 171 #[.val (.long q1), .second, .val (.long q2), .second, .val (.long q3), .second, .val (.long q4), .second, .val (.long q5), .second, .val (.int p6), .val (.long w2), .second, .val (.long w4), .second, .val (.long w6), .second, .val (.long w8), .second, .val (.ref b9), .val (.ref b27), .val (.int (0 : Int32)), .val (.long ((w4 + w6) + w8)), .second, .unset, .unset, .unset, .unset] [(.long ((w4 + w6) + w8)), (.long w2)]))
            refine own_ladd X31 hx (hb hby at_171) ?_
            show Goes _ _ _ _ _ _ (T31.setTop (mkF m 172 #[.val (.long q1), .second, .val (.long q2), .second, .val (.long q3), .second, .val (.long q4), .second, .val (.long q5), .second, .val (.int p6), .val (.long w2), .second, .val (.long w4), .second, .val (.long w6), .second, .val (.long w8), .second, .val (.ref b9), .val (.ref b27), .val (.int (0 : Int32)), .val (.long ((w4 + w6) + w8)), .second, .unset, .unset, .unset, .unset] [(.long (w2 + ((w4 + w6) + w8)))]))
            refine own_lstore X31 hx (Ls' := #[.val (.long q1), .second, .val (.long q2), .second, .val (.long q3), .second, .val (.long q4), .second, .val (.long q5), .second, .val (.int p6), .val (.long w2), .second, .val (.long w4), .second, .val (.long w6), .second, .val (.long w8), .second, .val (.ref b9), .val (.ref b27), .val (.int (0 : Int32)), .val (.long ((w4 + w6) + w8)), .second, .val (.long (w2 + ((w4 + w6) + w8))), .second, .unset, .unset]) (hb hby at_172) rfl ?_
            show Goes _ _ _ _ _ _ (T31.setTop (mkF m 174 #[.val (.long q1), .second, .val (.long q2), .second, .val (.long q3), .second, .val (.long q4), .second, .val (.long q5), .second, .val (.int p6), .val (.long w2), .second, .val (.long w4), .second, .val (.long w6), .second, .val (.long w8), .second, .val (.ref b9), .val (.ref b27), .val (.int (0 : Int32)), .val (.long ((w4 + w6) + w8)), .second, .val (.long (w2 + ((w4 + w6) + w8))), .second, .unset, .unset] []))
            refine own_lload X31 hx (hb hby at_174) rfl ?_
            show Goes _ _ _ _ _ _ (T31.setTop (mkF m 176 #[.val (.long q1), .second, .val (.long q2), .second, .val (.long q3), .second, .val (.long q4), .second, .val (.long q5), .second, .val (.int p6), .val (.long w2), .second, .val (.long w4), .second, .val (.long w6), .second, .val (.long w8), .second, .val (.ref b9), .val (.ref b27), .val (.int (0 : Int32)), .val (.long ((w4 + w6) + w8)), .second, .val (.long (w2 + ((w4 + w6) + w8))), .second, .unset, .unset] [(.long (w2 + ((w4 + w6) + w8)))]))
            refine own_lconst X31 hx (v := (0 : Int64)) (hb hby at_176) rfl ?_
            show Goes _ _ _ _ _ _ (T31.setTop (mkF m 177 #[.val (.long q1), .second, .val (.long q2), .second, .val (.long q3), .second, .val (.long q4), .second, .val (.long q5), .second, .val (.int p6), .val (.long w2), .second, .val (.long w4), .second, .val (.long w6), .second, .val (.long w8), .second, .val (.ref b9), .val (.ref b27), .val (.int (0 : Int32)), .val (.long ((w4 + w6) + w8)), .second, .val (.long (w2 + ((w4 + w6) + w8))), .second, .unset, .unset] [(.long (0 : Int64)), (.long (w2 + ((w4 + w6) + w8)))]))
            refine own_lcmp X31 hx (hb hby at_177) ?_
            show Goes _ _ _ _ _ _ (T31.setTop (mkF m 178 #[.val (.long q1), .second, .val (.long q2), .second, .val (.long q3), .second, .val (.long q4), .second, .val (.long q5), .second, .val (.int p6), .val (.long w2), .second, .val (.long w4), .second, .val (.long w6), .second, .val (.long w8), .second, .val (.ref b9), .val (.ref b27), .val (.int (0 : Int32)), .val (.long ((w4 + w6) + w8)), .second, .val (.long (w2 + ((w4 + w6) + w8))), .second, .unset, .unset] [(.int (lcmpW (w2 + ((w4 + w6) + w8)) (0 : Int64)))]))
            refine own_ifNo X31 hx (hb hby at_178) ((if0 _ _).trans (teq (((lw_eq _ _).mpr ((own_ceq hj2 hj4 hj6 hj8).symm.trans hq31_0_0)) : (lcmpW (w2 + ((w4 + w6) + w8)) (0 : Int64)) = (0 : Int32))).2) ?_
            show Goes _ _ _ _ _ _ (T31.setTop (mkF m 181 #[.val (.long q1), .second, .val (.long q2), .second, .val (.long q3), .second, .val (.long q4), .second, .val (.long q5), .second, .val (.int p6), .val (.long w2), .second, .val (.long w4), .second, .val (.long w6), .second, .val (.long w8), .second, .val (.ref b9), .val (.ref b27), .val (.int (0 : Int32)), .val (.long ((w4 + w6) + w8)), .second, .val (.long (w2 + ((w4 + w6) + w8))), .second, .unset, .unset] []))
            refine own_iload X31 hx (hb hby at_181) rfl ?_
            show Goes _ _ _ _ _ _ (T31.setTop (mkF m 183 #[.val (.long q1), .second, .val (.long q2), .second, .val (.long q3), .second, .val (.long q4), .second, .val (.long q5), .second, .val (.int p6), .val (.long w2), .second, .val (.long w4), .second, .val (.long w6), .second, .val (.long w8), .second, .val (.ref b9), .val (.ref b27), .val (.int (0 : Int32)), .val (.long ((w4 + w6) + w8)), .second, .val (.long (w2 + ((w4 + w6) + w8))), .second, .unset, .unset] [(.int (0 : Int32))]))
            refine own_ifNo X31 hx (hb hby at_183) ((if0 _ _).trans (teq (by decide : (0 : Int32) = (0 : Int32))).2) ?_
            show Goes _ _ _ _ _ _ (T31.setTop (mkF m 186 #[.val (.long q1), .second, .val (.long q2), .second, .val (.long q3), .second, .val (.long q4), .second, .val (.long q5), .second, .val (.int p6), .val (.long w2), .second, .val (.long w4), .second, .val (.long w6), .second, .val (.long w8), .second, .val (.ref b9), .val (.ref b27), .val (.int (0 : Int32)), .val (.long ((w4 + w6) + w8)), .second, .val (.long (w2 + ((w4 + w6) + w8))), .second, .unset, .unset] []))
            refine own_iconst X31 hx (v := (1 : Int32)) (hb hby at_186) rfl ?_
            show Goes _ _ _ _ _ _ (T31.setTop (mkF m 187 #[.val (.long q1), .second, .val (.long q2), .second, .val (.long q3), .second, .val (.long q4), .second, .val (.long q5), .second, .val (.int p6), .val (.long w2), .second, .val (.long w4), .second, .val (.long w6), .second, .val (.long w8), .second, .val (.ref b9), .val (.ref b27), .val (.int (0 : Int32)), .val (.long ((w4 + w6) + w8)), .second, .val (.long (w2 + ((w4 + w6) + w8))), .second, .unset, .unset] [(.int (1 : Int32))]))
            refine own_goto X31 hx (pc' := 191) (hb hby at_187) (by decide) (by decide) ?_
            show Goes _ _ _ _ _ _ (T31.setTop (mkF m 191 #[.val (.long q1), .second, .val (.long q2), .second, .val (.long q3), .second, .val (.long q4), .second, .val (.long q5), .second, .val (.int p6), .val (.long w2), .second, .val (.long w4), .second, .val (.long w6), .second, .val (.long w8), .second, .val (.ref b9), .val (.ref b27), .val (.int (0 : Int32)), .val (.long ((w4 + w6) + w8)), .second, .val (.long (w2 + ((w4 + w6) + w8))), .second, .unset, .unset] [(.int (1 : Int32))]))
            exact own_retN X31 hx (t := .boolean) N31 hlk (by decide) (by decide) hret (by simp) (hb hby at_191) (by rw [e31]; exact rfl)
          ·
            obtain ⟨rfl, hq31_1_0, e31⟩ := hQ31_1
            show Goes _ _ _ _ _ _ (T31.setTop (mkF m 155 #[.val (.long q1), .second, .val (.long q2), .second, .val (.long q3), .second, .val (.long q4), .second, .val (.long q5), .second, .val (.int p6), .val (.long w2), .second, .val (.long w4), .second, .val (.long w6), .second, .val (.long w8), .second, .val (.ref b9), .val (.ref b27), .unset, .unset, .unset, .unset, .unset, .unset, .unset] [(.int ((((((0 : Int64) + w4) + w6) + w8) * (100 : Int64)) / (((((0 : Int64) + w2) + w4) + w6) + w8)).toInt32)]))
            refine own_istore X31 hx (Ls' := #[.val (.long q1), .second, .val (.long q2), .second, .val (.long q3), .second, .val (.long q4), .second, .val (.long q5), .second, .val (.int p6), .val (.long w2), .second, .val (.long w4), .second, .val (.long w6), .second, .val (.long w8), .second, .val (.ref b9), .val (.ref b27), .val (.int ((((((0 : Int64) + w4) + w6) + w8) * (100 : Int64)) / (((((0 : Int64) + w2) + w4) + w6) + w8)).toInt32), .unset, .unset, .unset, .unset, .unset, .unset]) (hb hby at_155) rfl ?_
            show Goes _ _ _ _ _ _ (T31.setTop (mkF m 157 #[.val (.long q1), .second, .val (.long q2), .second, .val (.long q3), .second, .val (.long q4), .second, .val (.long q5), .second, .val (.int p6), .val (.long w2), .second, .val (.long w4), .second, .val (.long w6), .second, .val (.long w8), .second, .val (.ref b9), .val (.ref b27), .val (.int ((((((0 : Int64) + w4) + w6) + w8) * (100 : Int64)) / (((((0 : Int64) + w2) + w4) + w6) + w8)).toInt32), .unset, .unset, .unset, .unset, .unset, .unset] []))
            refine own_lload X31 hx (hb hby at_157) rfl ?_
            show Goes _ _ _ _ _ _ (T31.setTop (mkF m 159 #[.val (.long q1), .second, .val (.long q2), .second, .val (.long q3), .second, .val (.long q4), .second, .val (.long q5), .second, .val (.int p6), .val (.long w2), .second, .val (.long w4), .second, .val (.long w6), .second, .val (.long w8), .second, .val (.ref b9), .val (.ref b27), .val (.int ((((((0 : Int64) + w4) + w6) + w8) * (100 : Int64)) / (((((0 : Int64) + w2) + w4) + w6) + w8)).toInt32), .unset, .unset, .unset, .unset, .unset, .unset] [(.long w4)]))
            refine own_lload X31 hx (hb hby at_159) rfl ?_
            show Goes _ _ _ _ _ _ (T31.setTop (mkF m 161 #[.val (.long q1), .second, .val (.long q2), .second, .val (.long q3), .second, .val (.long q4), .second, .val (.long q5), .second, .val (.int p6), .val (.long w2), .second, .val (.long w4), .second, .val (.long w6), .second, .val (.long w8), .second, .val (.ref b9), .val (.ref b27), .val (.int ((((((0 : Int64) + w4) + w6) + w8) * (100 : Int64)) / (((((0 : Int64) + w2) + w4) + w6) + w8)).toInt32), .unset, .unset, .unset, .unset, .unset, .unset] [(.long w6), (.long w4)]))
            refine own_ladd X31 hx (hb hby at_161) ?_
            show Goes _ _ _ _ _ _ (T31.setTop (mkF m 162 #[.val (.long q1), .second, .val (.long q2), .second, .val (.long q3), .second, .val (.long q4), .second, .val (.long q5), .second, .val (.int p6), .val (.long w2), .second, .val (.long w4), .second, .val (.long w6), .second, .val (.long w8), .second, .val (.ref b9), .val (.ref b27), .val (.int ((((((0 : Int64) + w4) + w6) + w8) * (100 : Int64)) / (((((0 : Int64) + w2) + w4) + w6) + w8)).toInt32), .unset, .unset, .unset, .unset, .unset, .unset] [(.long (w4 + w6))]))
            refine own_lload X31 hx (hb hby at_162) rfl ?_
            show Goes _ _ _ _ _ _ (T31.setTop (mkF m 164 #[.val (.long q1), .second, .val (.long q2), .second, .val (.long q3), .second, .val (.long q4), .second, .val (.long q5), .second, .val (.int p6), .val (.long w2), .second, .val (.long w4), .second, .val (.long w6), .second, .val (.long w8), .second, .val (.ref b9), .val (.ref b27), .val (.int ((((((0 : Int64) + w4) + w6) + w8) * (100 : Int64)) / (((((0 : Int64) + w2) + w4) + w6) + w8)).toInt32), .unset, .unset, .unset, .unset, .unset, .unset] [(.long w8), (.long (w4 + w6))]))
            refine own_ladd X31 hx (hb hby at_164) ?_
            show Goes _ _ _ _ _ _ (T31.setTop (mkF m 165 #[.val (.long q1), .second, .val (.long q2), .second, .val (.long q3), .second, .val (.long q4), .second, .val (.long q5), .second, .val (.int p6), .val (.long w2), .second, .val (.long w4), .second, .val (.long w6), .second, .val (.long w8), .second, .val (.ref b9), .val (.ref b27), .val (.int ((((((0 : Int64) + w4) + w6) + w8) * (100 : Int64)) / (((((0 : Int64) + w2) + w4) + w6) + w8)).toInt32), .unset, .unset, .unset, .unset, .unset, .unset] [(.long ((w4 + w6) + w8))]))
            refine own_lstore X31 hx (Ls' := #[.val (.long q1), .second, .val (.long q2), .second, .val (.long q3), .second, .val (.long q4), .second, .val (.long q5), .second, .val (.int p6), .val (.long w2), .second, .val (.long w4), .second, .val (.long w6), .second, .val (.long w8), .second, .val (.ref b9), .val (.ref b27), .val (.int ((((((0 : Int64) + w4) + w6) + w8) * (100 : Int64)) / (((((0 : Int64) + w2) + w4) + w6) + w8)).toInt32), .val (.long ((w4 + w6) + w8)), .second, .unset, .unset, .unset, .unset]) (hb hby at_165) rfl ?_
            show Goes _ _ _ _ _ _ (T31.setTop (mkF m 167 #[.val (.long q1), .second, .val (.long q2), .second, .val (.long q3), .second, .val (.long q4), .second, .val (.long q5), .second, .val (.int p6), .val (.long w2), .second, .val (.long w4), .second, .val (.long w6), .second, .val (.long w8), .second, .val (.ref b9), .val (.ref b27), .val (.int ((((((0 : Int64) + w4) + w6) + w8) * (100 : Int64)) / (((((0 : Int64) + w2) + w4) + w6) + w8)).toInt32), .val (.long ((w4 + w6) + w8)), .second, .unset, .unset, .unset, .unset] []))
            refine own_lload X31 hx (hb hby at_167) rfl ?_
            show Goes _ _ _ _ _ _ (T31.setTop (mkF m 169 #[.val (.long q1), .second, .val (.long q2), .second, .val (.long q3), .second, .val (.long q4), .second, .val (.long q5), .second, .val (.int p6), .val (.long w2), .second, .val (.long w4), .second, .val (.long w6), .second, .val (.long w8), .second, .val (.ref b9), .val (.ref b27), .val (.int ((((((0 : Int64) + w4) + w6) + w8) * (100 : Int64)) / (((((0 : Int64) + w2) + w4) + w6) + w8)).toInt32), .val (.long ((w4 + w6) + w8)), .second, .unset, .unset, .unset, .unset] [(.long w2)]))
            refine own_lload X31 hx (hb hby at_169) rfl ?_
            show Goes _ _ _ _ _ _ (T31.setTop (mkF m 171 #[.val (.long q1), .second, .val (.long q2), .second, .val (.long q3), .second, .val (.long q4), .second, .val (.long q5), .second, .val (.int p6), .val (.long w2), .second, .val (.long w4), .second, .val (.long w6), .second, .val (.long w8), .second, .val (.ref b9), .val (.ref b27), .val (.int ((((((0 : Int64) + w4) + w6) + w8) * (100 : Int64)) / (((((0 : Int64) + w2) + w4) + w6) + w8)).toInt32), .val (.long ((w4 + w6) + w8)), .second, .unset, .unset, .unset, .unset] [(.long ((w4 + w6) + w8)), (.long w2)]))
            refine own_ladd X31 hx (hb hby at_171) ?_
            show Goes _ _ _ _ _ _ (T31.setTop (mkF m 172 #[.val (.long q1), .second, .val (.long q2), .second, .val (.long q3), .second, .val (.long q4), .second, .val (.long q5), .second, .val (.int p6), .val (.long w2), .second, .val (.long w4), .second, .val (.long w6), .second, .val (.long w8), .second, .val (.ref b9), .val (.ref b27), .val (.int ((((((0 : Int64) + w4) + w6) + w8) * (100 : Int64)) / (((((0 : Int64) + w2) + w4) + w6) + w8)).toInt32), .val (.long ((w4 + w6) + w8)), .second, .unset, .unset, .unset, .unset] [(.long (w2 + ((w4 + w6) + w8)))]))
            refine own_lstore X31 hx (Ls' := #[.val (.long q1), .second, .val (.long q2), .second, .val (.long q3), .second, .val (.long q4), .second, .val (.long q5), .second, .val (.int p6), .val (.long w2), .second, .val (.long w4), .second, .val (.long w6), .second, .val (.long w8), .second, .val (.ref b9), .val (.ref b27), .val (.int ((((((0 : Int64) + w4) + w6) + w8) * (100 : Int64)) / (((((0 : Int64) + w2) + w4) + w6) + w8)).toInt32), .val (.long ((w4 + w6) + w8)), .second, .val (.long (w2 + ((w4 + w6) + w8))), .second, .unset, .unset]) (hb hby at_172) rfl ?_
            show Goes _ _ _ _ _ _ (T31.setTop (mkF m 174 #[.val (.long q1), .second, .val (.long q2), .second, .val (.long q3), .second, .val (.long q4), .second, .val (.long q5), .second, .val (.int p6), .val (.long w2), .second, .val (.long w4), .second, .val (.long w6), .second, .val (.long w8), .second, .val (.ref b9), .val (.ref b27), .val (.int ((((((0 : Int64) + w4) + w6) + w8) * (100 : Int64)) / (((((0 : Int64) + w2) + w4) + w6) + w8)).toInt32), .val (.long ((w4 + w6) + w8)), .second, .val (.long (w2 + ((w4 + w6) + w8))), .second, .unset, .unset] []))
            refine own_lload X31 hx (hb hby at_174) rfl ?_
            show Goes _ _ _ _ _ _ (T31.setTop (mkF m 176 #[.val (.long q1), .second, .val (.long q2), .second, .val (.long q3), .second, .val (.long q4), .second, .val (.long q5), .second, .val (.int p6), .val (.long w2), .second, .val (.long w4), .second, .val (.long w6), .second, .val (.long w8), .second, .val (.ref b9), .val (.ref b27), .val (.int ((((((0 : Int64) + w4) + w6) + w8) * (100 : Int64)) / (((((0 : Int64) + w2) + w4) + w6) + w8)).toInt32), .val (.long ((w4 + w6) + w8)), .second, .val (.long (w2 + ((w4 + w6) + w8))), .second, .unset, .unset] [(.long (w2 + ((w4 + w6) + w8)))]))
            refine own_lconst X31 hx (v := (0 : Int64)) (hb hby at_176) rfl ?_
            show Goes _ _ _ _ _ _ (T31.setTop (mkF m 177 #[.val (.long q1), .second, .val (.long q2), .second, .val (.long q3), .second, .val (.long q4), .second, .val (.long q5), .second, .val (.int p6), .val (.long w2), .second, .val (.long w4), .second, .val (.long w6), .second, .val (.long w8), .second, .val (.ref b9), .val (.ref b27), .val (.int ((((((0 : Int64) + w4) + w6) + w8) * (100 : Int64)) / (((((0 : Int64) + w2) + w4) + w6) + w8)).toInt32), .val (.long ((w4 + w6) + w8)), .second, .val (.long (w2 + ((w4 + w6) + w8))), .second, .unset, .unset] [(.long (0 : Int64)), (.long (w2 + ((w4 + w6) + w8)))]))
            refine own_lcmp X31 hx (hb hby at_177) ?_
            show Goes _ _ _ _ _ _ (T31.setTop (mkF m 178 #[.val (.long q1), .second, .val (.long q2), .second, .val (.long q3), .second, .val (.long q4), .second, .val (.long q5), .second, .val (.int p6), .val (.long w2), .second, .val (.long w4), .second, .val (.long w6), .second, .val (.long w8), .second, .val (.ref b9), .val (.ref b27), .val (.int ((((((0 : Int64) + w4) + w6) + w8) * (100 : Int64)) / (((((0 : Int64) + w2) + w4) + w6) + w8)).toInt32), .val (.long ((w4 + w6) + w8)), .second, .val (.long (w2 + ((w4 + w6) + w8))), .second, .unset, .unset] [(.int (lcmpW (w2 + ((w4 + w6) + w8)) (0 : Int64)))]))
            refine own_ifYes X31 hx (pc' := 192) (hb hby at_178) ((if0 _ _).trans (feq ((fun q => (fun q => hq31_1_0 ((own_ceq hj2 hj4 hj6 hj8).trans q)) ((lw_eq _ _).mp q)) : ¬ ((lcmpW (w2 + ((w4 + w6) + w8)) (0 : Int64)) = (0 : Int32)))).2) (by decide) (by decide) ?_
            show Goes _ _ _ _ _ _ (T31.setTop (mkF m 192 #[.val (.long q1), .second, .val (.long q2), .second, .val (.long q3), .second, .val (.long q4), .second, .val (.long q5), .second, .val (.int p6), .val (.long w2), .second, .val (.long w4), .second, .val (.long w6), .second, .val (.long w8), .second, .val (.ref b9), .val (.ref b27), .val (.int ((((((0 : Int64) + w4) + w6) + w8) * (100 : Int64)) / (((((0 : Int64) + w2) + w4) + w6) + w8)).toInt32), .val (.long ((w4 + w6) + w8)), .second, .val (.long (w2 + ((w4 + w6) + w8))), .second, .unset, .unset] []))
            refine own_ldc2Long X31 hx hZ hown (hw _ (List.mem_of_getElem? (i := 68) rfl)) (hb hby at_192) ?_
            show Goes _ _ _ _ _ _ (T31.setTop (mkF m 195 #[.val (.long q1), .second, .val (.long q2), .second, .val (.long q3), .second, .val (.long q4), .second, .val (.long q5), .second, .val (.int p6), .val (.long w2), .second, .val (.long w4), .second, .val (.long w6), .second, .val (.long w8), .second, .val (.ref b9), .val (.ref b27), .val (.int ((((((0 : Int64) + w4) + w6) + w8) * (100 : Int64)) / (((((0 : Int64) + w2) + w4) + w6) + w8)).toInt32), .val (.long ((w4 + w6) + w8)), .second, .val (.long (w2 + ((w4 + w6) + w8))), .second, .unset, .unset] [(.long (100 : Int64))]))
            refine own_lload X31 hx (hb hby at_195) rfl ?_
            show Goes _ _ _ _ _ _ (T31.setTop (mkF m 197 #[.val (.long q1), .second, .val (.long q2), .second, .val (.long q3), .second, .val (.long q4), .second, .val (.long q5), .second, .val (.int p6), .val (.long w2), .second, .val (.long w4), .second, .val (.long w6), .second, .val (.long w8), .second, .val (.ref b9), .val (.ref b27), .val (.int ((((((0 : Int64) + w4) + w6) + w8) * (100 : Int64)) / (((((0 : Int64) + w2) + w4) + w6) + w8)).toInt32), .val (.long ((w4 + w6) + w8)), .second, .val (.long (w2 + ((w4 + w6) + w8))), .second, .unset, .unset] [(.long ((w4 + w6) + w8)), (.long (100 : Int64))]))
            refine own_lmul X31 hx (hb hby at_197) ?_
            show Goes _ _ _ _ _ _ (T31.setTop (mkF m 198 #[.val (.long q1), .second, .val (.long q2), .second, .val (.long q3), .second, .val (.long q4), .second, .val (.long q5), .second, .val (.int p6), .val (.long w2), .second, .val (.long w4), .second, .val (.long w6), .second, .val (.long w8), .second, .val (.ref b9), .val (.ref b27), .val (.int ((((((0 : Int64) + w4) + w6) + w8) * (100 : Int64)) / (((((0 : Int64) + w2) + w4) + w6) + w8)).toInt32), .val (.long ((w4 + w6) + w8)), .second, .val (.long (w2 + ((w4 + w6) + w8))), .second, .unset, .unset] [(.long ((100 : Int64) * ((w4 + w6) + w8)))]))
            refine own_lstore X31 hx (Ls' := #[.val (.long q1), .second, .val (.long q2), .second, .val (.long q3), .second, .val (.long q4), .second, .val (.long q5), .second, .val (.int p6), .val (.long w2), .second, .val (.long w4), .second, .val (.long w6), .second, .val (.long w8), .second, .val (.ref b9), .val (.ref b27), .val (.int ((((((0 : Int64) + w4) + w6) + w8) * (100 : Int64)) / (((((0 : Int64) + w2) + w4) + w6) + w8)).toInt32), .val (.long ((w4 + w6) + w8)), .second, .val (.long (w2 + ((w4 + w6) + w8))), .second, .val (.long ((100 : Int64) * ((w4 + w6) + w8))), .second]) (hb hby at_198) rfl ?_
            show Goes _ _ _ _ _ _ (T31.setTop (mkF m 200 #[.val (.long q1), .second, .val (.long q2), .second, .val (.long q3), .second, .val (.long q4), .second, .val (.long q5), .second, .val (.int p6), .val (.long w2), .second, .val (.long w4), .second, .val (.long w6), .second, .val (.long w8), .second, .val (.ref b9), .val (.ref b27), .val (.int ((((((0 : Int64) + w4) + w6) + w8) * (100 : Int64)) / (((((0 : Int64) + w2) + w4) + w6) + w8)).toInt32), .val (.long ((w4 + w6) + w8)), .second, .val (.long (w2 + ((w4 + w6) + w8))), .second, .val (.long ((100 : Int64) * ((w4 + w6) + w8))), .second] []))
            refine own_iload X31 hx (hb hby at_200) rfl ?_
            show Goes _ _ _ _ _ _ (T31.setTop (mkF m 202 #[.val (.long q1), .second, .val (.long q2), .second, .val (.long q3), .second, .val (.long q4), .second, .val (.long q5), .second, .val (.int p6), .val (.long w2), .second, .val (.long w4), .second, .val (.long w6), .second, .val (.long w8), .second, .val (.ref b9), .val (.ref b27), .val (.int ((((((0 : Int64) + w4) + w6) + w8) * (100 : Int64)) / (((((0 : Int64) + w2) + w4) + w6) + w8)).toInt32), .val (.long ((w4 + w6) + w8)), .second, .val (.long (w2 + ((w4 + w6) + w8))), .second, .val (.long ((100 : Int64) * ((w4 + w6) + w8))), .second] [(.int ((((((0 : Int64) + w4) + w6) + w8) * (100 : Int64)) / (((((0 : Int64) + w2) + w4) + w6) + w8)).toInt32)]))
            refine own_ifNo X31 hx (hb hby at_202) ((if0 _ _).trans (flt ((own_all4 hj2 hj4 hj6 hj8 hq31_1_0).1 : ¬ (((((((0 : Int64) + w4) + w6) + w8) * (100 : Int64)) / (((((0 : Int64) + w2) + w4) + w6) + w8)).toInt32 < (0 : Int32)))).1) ?_
            show Goes _ _ _ _ _ _ (T31.setTop (mkF m 205 #[.val (.long q1), .second, .val (.long q2), .second, .val (.long q3), .second, .val (.long q4), .second, .val (.long q5), .second, .val (.int p6), .val (.long w2), .second, .val (.long w4), .second, .val (.long w6), .second, .val (.long w8), .second, .val (.ref b9), .val (.ref b27), .val (.int ((((((0 : Int64) + w4) + w6) + w8) * (100 : Int64)) / (((((0 : Int64) + w2) + w4) + w6) + w8)).toInt32), .val (.long ((w4 + w6) + w8)), .second, .val (.long (w2 + ((w4 + w6) + w8))), .second, .val (.long ((100 : Int64) * ((w4 + w6) + w8))), .second] []))
            refine own_iload X31 hx (hb hby at_205) rfl ?_
            show Goes _ _ _ _ _ _ (T31.setTop (mkF m 207 #[.val (.long q1), .second, .val (.long q2), .second, .val (.long q3), .second, .val (.long q4), .second, .val (.long q5), .second, .val (.int p6), .val (.long w2), .second, .val (.long w4), .second, .val (.long w6), .second, .val (.long w8), .second, .val (.ref b9), .val (.ref b27), .val (.int ((((((0 : Int64) + w4) + w6) + w8) * (100 : Int64)) / (((((0 : Int64) + w2) + w4) + w6) + w8)).toInt32), .val (.long ((w4 + w6) + w8)), .second, .val (.long (w2 + ((w4 + w6) + w8))), .second, .val (.long ((100 : Int64) * ((w4 + w6) + w8))), .second] [(.int ((((((0 : Int64) + w4) + w6) + w8) * (100 : Int64)) / (((((0 : Int64) + w2) + w4) + w6) + w8)).toInt32)]))
            refine own_bipush X31 hx (v := (100 : Int32)) (hb hby at_207) rfl ?_
            show Goes _ _ _ _ _ _ (T31.setTop (mkF m 209 #[.val (.long q1), .second, .val (.long q2), .second, .val (.long q3), .second, .val (.long q4), .second, .val (.long q5), .second, .val (.int p6), .val (.long w2), .second, .val (.long w4), .second, .val (.long w6), .second, .val (.long w8), .second, .val (.ref b9), .val (.ref b27), .val (.int ((((((0 : Int64) + w4) + w6) + w8) * (100 : Int64)) / (((((0 : Int64) + w2) + w4) + w6) + w8)).toInt32), .val (.long ((w4 + w6) + w8)), .second, .val (.long (w2 + ((w4 + w6) + w8))), .second, .val (.long ((100 : Int64) * ((w4 + w6) + w8))), .second] [(.int (100 : Int32)), (.int ((((((0 : Int64) + w4) + w6) + w8) * (100 : Int64)) / (((((0 : Int64) + w2) + w4) + w6) + w8)).toInt32)]))
            refine own_icmpNo X31 hx (hb hby at_209) (flt ((own_all4 hj2 hj4 hj6 hj8 hq31_1_0).2.1 : ¬ ((100 : Int32) < ((((((0 : Int64) + w4) + w6) + w8) * (100 : Int64)) / (((((0 : Int64) + w2) + w4) + w6) + w8)).toInt32))).2.2.1 ?_
            show Goes _ _ _ _ _ _ (T31.setTop (mkF m 212 #[.val (.long q1), .second, .val (.long q2), .second, .val (.long q3), .second, .val (.long q4), .second, .val (.long q5), .second, .val (.int p6), .val (.long w2), .second, .val (.long w4), .second, .val (.long w6), .second, .val (.long w8), .second, .val (.ref b9), .val (.ref b27), .val (.int ((((((0 : Int64) + w4) + w6) + w8) * (100 : Int64)) / (((((0 : Int64) + w2) + w4) + w6) + w8)).toInt32), .val (.long ((w4 + w6) + w8)), .second, .val (.long (w2 + ((w4 + w6) + w8))), .second, .val (.long ((100 : Int64) * ((w4 + w6) + w8))), .second] []))
            refine own_iload X31 hx (hb hby at_212) rfl ?_
            show Goes _ _ _ _ _ _ (T31.setTop (mkF m 214 #[.val (.long q1), .second, .val (.long q2), .second, .val (.long q3), .second, .val (.long q4), .second, .val (.long q5), .second, .val (.int p6), .val (.long w2), .second, .val (.long w4), .second, .val (.long w6), .second, .val (.long w8), .second, .val (.ref b9), .val (.ref b27), .val (.int ((((((0 : Int64) + w4) + w6) + w8) * (100 : Int64)) / (((((0 : Int64) + w2) + w4) + w6) + w8)).toInt32), .val (.long ((w4 + w6) + w8)), .second, .val (.long (w2 + ((w4 + w6) + w8))), .second, .val (.long ((100 : Int64) * ((w4 + w6) + w8))), .second] [(.int ((((((0 : Int64) + w4) + w6) + w8) * (100 : Int64)) / (((((0 : Int64) + w2) + w4) + w6) + w8)).toInt32)]))
            refine own_i2l X31 hx (hb hby at_214) ?_
            show Goes _ _ _ _ _ _ (T31.setTop (mkF m 215 #[.val (.long q1), .second, .val (.long q2), .second, .val (.long q3), .second, .val (.long q4), .second, .val (.long q5), .second, .val (.int p6), .val (.long w2), .second, .val (.long w4), .second, .val (.long w6), .second, .val (.long w8), .second, .val (.ref b9), .val (.ref b27), .val (.int ((((((0 : Int64) + w4) + w6) + w8) * (100 : Int64)) / (((((0 : Int64) + w2) + w4) + w6) + w8)).toInt32), .val (.long ((w4 + w6) + w8)), .second, .val (.long (w2 + ((w4 + w6) + w8))), .second, .val (.long ((100 : Int64) * ((w4 + w6) + w8))), .second] [(.long (((((((0 : Int64) + w4) + w6) + w8) * (100 : Int64)) / (((((0 : Int64) + w2) + w4) + w6) + w8)).toInt32.toInt64))]))
            refine own_lload X31 hx (hb hby at_215) rfl ?_
            show Goes _ _ _ _ _ _ (T31.setTop (mkF m 217 #[.val (.long q1), .second, .val (.long q2), .second, .val (.long q3), .second, .val (.long q4), .second, .val (.long q5), .second, .val (.int p6), .val (.long w2), .second, .val (.long w4), .second, .val (.long w6), .second, .val (.long w8), .second, .val (.ref b9), .val (.ref b27), .val (.int ((((((0 : Int64) + w4) + w6) + w8) * (100 : Int64)) / (((((0 : Int64) + w2) + w4) + w6) + w8)).toInt32), .val (.long ((w4 + w6) + w8)), .second, .val (.long (w2 + ((w4 + w6) + w8))), .second, .val (.long ((100 : Int64) * ((w4 + w6) + w8))), .second] [(.long (w2 + ((w4 + w6) + w8))), (.long (((((((0 : Int64) + w4) + w6) + w8) * (100 : Int64)) / (((((0 : Int64) + w2) + w4) + w6) + w8)).toInt32.toInt64))]))
            refine own_lmul X31 hx (hb hby at_217) ?_
            show Goes _ _ _ _ _ _ (T31.setTop (mkF m 218 #[.val (.long q1), .second, .val (.long q2), .second, .val (.long q3), .second, .val (.long q4), .second, .val (.long q5), .second, .val (.int p6), .val (.long w2), .second, .val (.long w4), .second, .val (.long w6), .second, .val (.long w8), .second, .val (.ref b9), .val (.ref b27), .val (.int ((((((0 : Int64) + w4) + w6) + w8) * (100 : Int64)) / (((((0 : Int64) + w2) + w4) + w6) + w8)).toInt32), .val (.long ((w4 + w6) + w8)), .second, .val (.long (w2 + ((w4 + w6) + w8))), .second, .val (.long ((100 : Int64) * ((w4 + w6) + w8))), .second] [(.long ((((((((0 : Int64) + w4) + w6) + w8) * (100 : Int64)) / (((((0 : Int64) + w2) + w4) + w6) + w8)).toInt32.toInt64) * (w2 + ((w4 + w6) + w8))))]))
            refine own_lload X31 hx (hb hby at_218) rfl ?_
            show Goes _ _ _ _ _ _ (T31.setTop (mkF m 220 #[.val (.long q1), .second, .val (.long q2), .second, .val (.long q3), .second, .val (.long q4), .second, .val (.long q5), .second, .val (.int p6), .val (.long w2), .second, .val (.long w4), .second, .val (.long w6), .second, .val (.long w8), .second, .val (.ref b9), .val (.ref b27), .val (.int ((((((0 : Int64) + w4) + w6) + w8) * (100 : Int64)) / (((((0 : Int64) + w2) + w4) + w6) + w8)).toInt32), .val (.long ((w4 + w6) + w8)), .second, .val (.long (w2 + ((w4 + w6) + w8))), .second, .val (.long ((100 : Int64) * ((w4 + w6) + w8))), .second] [(.long ((100 : Int64) * ((w4 + w6) + w8))), (.long ((((((((0 : Int64) + w4) + w6) + w8) * (100 : Int64)) / (((((0 : Int64) + w2) + w4) + w6) + w8)).toInt32.toInt64) * (w2 + ((w4 + w6) + w8))))]))
            refine own_lcmp X31 hx (hb hby at_220) ?_
            show Goes _ _ _ _ _ _ (T31.setTop (mkF m 221 #[.val (.long q1), .second, .val (.long q2), .second, .val (.long q3), .second, .val (.long q4), .second, .val (.long q5), .second, .val (.int p6), .val (.long w2), .second, .val (.long w4), .second, .val (.long w6), .second, .val (.long w8), .second, .val (.ref b9), .val (.ref b27), .val (.int ((((((0 : Int64) + w4) + w6) + w8) * (100 : Int64)) / (((((0 : Int64) + w2) + w4) + w6) + w8)).toInt32), .val (.long ((w4 + w6) + w8)), .second, .val (.long (w2 + ((w4 + w6) + w8))), .second, .val (.long ((100 : Int64) * ((w4 + w6) + w8))), .second] [(.int (lcmpW ((((((((0 : Int64) + w4) + w6) + w8) * (100 : Int64)) / (((((0 : Int64) + w2) + w4) + w6) + w8)).toInt32.toInt64) * (w2 + ((w4 + w6) + w8))) ((100 : Int64) * ((w4 + w6) + w8))))]))
            refine own_ifNo X31 hx (hb hby at_221) ((if0 _ _).trans (flt ((fun q => (own_all4 hj2 hj4 hj6 hj8 hq31_1_0).2.2.1 ((lw_gt _ _).mp q)) : ¬ ((0 : Int32) < (lcmpW ((((((((0 : Int64) + w4) + w6) + w8) * (100 : Int64)) / (((((0 : Int64) + w2) + w4) + w6) + w8)).toInt32.toInt64) * (w2 + ((w4 + w6) + w8))) ((100 : Int64) * ((w4 + w6) + w8)))))).2.2.1) ?_
            show Goes _ _ _ _ _ _ (T31.setTop (mkF m 224 #[.val (.long q1), .second, .val (.long q2), .second, .val (.long q3), .second, .val (.long q4), .second, .val (.long q5), .second, .val (.int p6), .val (.long w2), .second, .val (.long w4), .second, .val (.long w6), .second, .val (.long w8), .second, .val (.ref b9), .val (.ref b27), .val (.int ((((((0 : Int64) + w4) + w6) + w8) * (100 : Int64)) / (((((0 : Int64) + w2) + w4) + w6) + w8)).toInt32), .val (.long ((w4 + w6) + w8)), .second, .val (.long (w2 + ((w4 + w6) + w8))), .second, .val (.long ((100 : Int64) * ((w4 + w6) + w8))), .second] []))
            refine own_lload X31 hx (hb hby at_224) rfl ?_
            show Goes _ _ _ _ _ _ (T31.setTop (mkF m 226 #[.val (.long q1), .second, .val (.long q2), .second, .val (.long q3), .second, .val (.long q4), .second, .val (.long q5), .second, .val (.int p6), .val (.long w2), .second, .val (.long w4), .second, .val (.long w6), .second, .val (.long w8), .second, .val (.ref b9), .val (.ref b27), .val (.int ((((((0 : Int64) + w4) + w6) + w8) * (100 : Int64)) / (((((0 : Int64) + w2) + w4) + w6) + w8)).toInt32), .val (.long ((w4 + w6) + w8)), .second, .val (.long (w2 + ((w4 + w6) + w8))), .second, .val (.long ((100 : Int64) * ((w4 + w6) + w8))), .second] [(.long ((100 : Int64) * ((w4 + w6) + w8)))]))
            refine own_iload X31 hx (hb hby at_226) rfl ?_
            show Goes _ _ _ _ _ _ (T31.setTop (mkF m 228 #[.val (.long q1), .second, .val (.long q2), .second, .val (.long q3), .second, .val (.long q4), .second, .val (.long q5), .second, .val (.int p6), .val (.long w2), .second, .val (.long w4), .second, .val (.long w6), .second, .val (.long w8), .second, .val (.ref b9), .val (.ref b27), .val (.int ((((((0 : Int64) + w4) + w6) + w8) * (100 : Int64)) / (((((0 : Int64) + w2) + w4) + w6) + w8)).toInt32), .val (.long ((w4 + w6) + w8)), .second, .val (.long (w2 + ((w4 + w6) + w8))), .second, .val (.long ((100 : Int64) * ((w4 + w6) + w8))), .second] [(.int ((((((0 : Int64) + w4) + w6) + w8) * (100 : Int64)) / (((((0 : Int64) + w2) + w4) + w6) + w8)).toInt32), (.long ((100 : Int64) * ((w4 + w6) + w8)))]))
            refine own_i2l X31 hx (hb hby at_228) ?_
            show Goes _ _ _ _ _ _ (T31.setTop (mkF m 229 #[.val (.long q1), .second, .val (.long q2), .second, .val (.long q3), .second, .val (.long q4), .second, .val (.long q5), .second, .val (.int p6), .val (.long w2), .second, .val (.long w4), .second, .val (.long w6), .second, .val (.long w8), .second, .val (.ref b9), .val (.ref b27), .val (.int ((((((0 : Int64) + w4) + w6) + w8) * (100 : Int64)) / (((((0 : Int64) + w2) + w4) + w6) + w8)).toInt32), .val (.long ((w4 + w6) + w8)), .second, .val (.long (w2 + ((w4 + w6) + w8))), .second, .val (.long ((100 : Int64) * ((w4 + w6) + w8))), .second] [(.long (((((((0 : Int64) + w4) + w6) + w8) * (100 : Int64)) / (((((0 : Int64) + w2) + w4) + w6) + w8)).toInt32.toInt64)), (.long ((100 : Int64) * ((w4 + w6) + w8)))]))
            refine own_lconst X31 hx (v := (1 : Int64)) (hb hby at_229) rfl ?_
            show Goes _ _ _ _ _ _ (T31.setTop (mkF m 230 #[.val (.long q1), .second, .val (.long q2), .second, .val (.long q3), .second, .val (.long q4), .second, .val (.long q5), .second, .val (.int p6), .val (.long w2), .second, .val (.long w4), .second, .val (.long w6), .second, .val (.long w8), .second, .val (.ref b9), .val (.ref b27), .val (.int ((((((0 : Int64) + w4) + w6) + w8) * (100 : Int64)) / (((((0 : Int64) + w2) + w4) + w6) + w8)).toInt32), .val (.long ((w4 + w6) + w8)), .second, .val (.long (w2 + ((w4 + w6) + w8))), .second, .val (.long ((100 : Int64) * ((w4 + w6) + w8))), .second] [(.long (1 : Int64)), (.long (((((((0 : Int64) + w4) + w6) + w8) * (100 : Int64)) / (((((0 : Int64) + w2) + w4) + w6) + w8)).toInt32.toInt64)), (.long ((100 : Int64) * ((w4 + w6) + w8)))]))
            refine own_ladd X31 hx (hb hby at_230) ?_
            show Goes _ _ _ _ _ _ (T31.setTop (mkF m 231 #[.val (.long q1), .second, .val (.long q2), .second, .val (.long q3), .second, .val (.long q4), .second, .val (.long q5), .second, .val (.int p6), .val (.long w2), .second, .val (.long w4), .second, .val (.long w6), .second, .val (.long w8), .second, .val (.ref b9), .val (.ref b27), .val (.int ((((((0 : Int64) + w4) + w6) + w8) * (100 : Int64)) / (((((0 : Int64) + w2) + w4) + w6) + w8)).toInt32), .val (.long ((w4 + w6) + w8)), .second, .val (.long (w2 + ((w4 + w6) + w8))), .second, .val (.long ((100 : Int64) * ((w4 + w6) + w8))), .second] [(.long ((((((((0 : Int64) + w4) + w6) + w8) * (100 : Int64)) / (((((0 : Int64) + w2) + w4) + w6) + w8)).toInt32.toInt64) + (1 : Int64))), (.long ((100 : Int64) * ((w4 + w6) + w8)))]))
            refine own_lload X31 hx (hb hby at_231) rfl ?_
            show Goes _ _ _ _ _ _ (T31.setTop (mkF m 233 #[.val (.long q1), .second, .val (.long q2), .second, .val (.long q3), .second, .val (.long q4), .second, .val (.long q5), .second, .val (.int p6), .val (.long w2), .second, .val (.long w4), .second, .val (.long w6), .second, .val (.long w8), .second, .val (.ref b9), .val (.ref b27), .val (.int ((((((0 : Int64) + w4) + w6) + w8) * (100 : Int64)) / (((((0 : Int64) + w2) + w4) + w6) + w8)).toInt32), .val (.long ((w4 + w6) + w8)), .second, .val (.long (w2 + ((w4 + w6) + w8))), .second, .val (.long ((100 : Int64) * ((w4 + w6) + w8))), .second] [(.long (w2 + ((w4 + w6) + w8))), (.long ((((((((0 : Int64) + w4) + w6) + w8) * (100 : Int64)) / (((((0 : Int64) + w2) + w4) + w6) + w8)).toInt32.toInt64) + (1 : Int64))), (.long ((100 : Int64) * ((w4 + w6) + w8)))]))
            refine own_lmul X31 hx (hb hby at_233) ?_
            show Goes _ _ _ _ _ _ (T31.setTop (mkF m 234 #[.val (.long q1), .second, .val (.long q2), .second, .val (.long q3), .second, .val (.long q4), .second, .val (.long q5), .second, .val (.int p6), .val (.long w2), .second, .val (.long w4), .second, .val (.long w6), .second, .val (.long w8), .second, .val (.ref b9), .val (.ref b27), .val (.int ((((((0 : Int64) + w4) + w6) + w8) * (100 : Int64)) / (((((0 : Int64) + w2) + w4) + w6) + w8)).toInt32), .val (.long ((w4 + w6) + w8)), .second, .val (.long (w2 + ((w4 + w6) + w8))), .second, .val (.long ((100 : Int64) * ((w4 + w6) + w8))), .second] [(.long (((((((((0 : Int64) + w4) + w6) + w8) * (100 : Int64)) / (((((0 : Int64) + w2) + w4) + w6) + w8)).toInt32.toInt64) + (1 : Int64)) * (w2 + ((w4 + w6) + w8)))), (.long ((100 : Int64) * ((w4 + w6) + w8)))]))
            refine own_lcmp X31 hx (hb hby at_234) ?_
            show Goes _ _ _ _ _ _ (T31.setTop (mkF m 235 #[.val (.long q1), .second, .val (.long q2), .second, .val (.long q3), .second, .val (.long q4), .second, .val (.long q5), .second, .val (.int p6), .val (.long w2), .second, .val (.long w4), .second, .val (.long w6), .second, .val (.long w8), .second, .val (.ref b9), .val (.ref b27), .val (.int ((((((0 : Int64) + w4) + w6) + w8) * (100 : Int64)) / (((((0 : Int64) + w2) + w4) + w6) + w8)).toInt32), .val (.long ((w4 + w6) + w8)), .second, .val (.long (w2 + ((w4 + w6) + w8))), .second, .val (.long ((100 : Int64) * ((w4 + w6) + w8))), .second] [(.int (lcmpW ((100 : Int64) * ((w4 + w6) + w8)) (((((((((0 : Int64) + w4) + w6) + w8) * (100 : Int64)) / (((((0 : Int64) + w2) + w4) + w6) + w8)).toInt32.toInt64) + (1 : Int64)) * (w2 + ((w4 + w6) + w8)))))]))
            refine own_ifNo X31 hx (hb hby at_235) ((if0 _ _).trans (tlt (((lw_lt _ _).mpr (own_all4 hj2 hj4 hj6 hj8 hq31_1_0).2.2.2) : (lcmpW ((100 : Int64) * ((w4 + w6) + w8)) (((((((((0 : Int64) + w4) + w6) + w8) * (100 : Int64)) / (((((0 : Int64) + w2) + w4) + w6) + w8)).toInt32.toInt64) + (1 : Int64)) * (w2 + ((w4 + w6) + w8)))) < (0 : Int32))).2.1) ?_
            show Goes _ _ _ _ _ _ (T31.setTop (mkF m 238 #[.val (.long q1), .second, .val (.long q2), .second, .val (.long q3), .second, .val (.long q4), .second, .val (.long q5), .second, .val (.int p6), .val (.long w2), .second, .val (.long w4), .second, .val (.long w6), .second, .val (.long w8), .second, .val (.ref b9), .val (.ref b27), .val (.int ((((((0 : Int64) + w4) + w6) + w8) * (100 : Int64)) / (((((0 : Int64) + w2) + w4) + w6) + w8)).toInt32), .val (.long ((w4 + w6) + w8)), .second, .val (.long (w2 + ((w4 + w6) + w8))), .second, .val (.long ((100 : Int64) * ((w4 + w6) + w8))), .second] []))
            refine own_iconst X31 hx (v := (1 : Int32)) (hb hby at_238) rfl ?_
            show Goes _ _ _ _ _ _ (T31.setTop (mkF m 239 #[.val (.long q1), .second, .val (.long q2), .second, .val (.long q3), .second, .val (.long q4), .second, .val (.long q5), .second, .val (.int p6), .val (.long w2), .second, .val (.long w4), .second, .val (.long w6), .second, .val (.long w8), .second, .val (.ref b9), .val (.ref b27), .val (.int ((((((0 : Int64) + w4) + w6) + w8) * (100 : Int64)) / (((((0 : Int64) + w2) + w4) + w6) + w8)).toInt32), .val (.long ((w4 + w6) + w8)), .second, .val (.long (w2 + ((w4 + w6) + w8))), .second, .val (.long ((100 : Int64) * ((w4 + w6) + w8))), .second] [(.int (1 : Int32))]))
            refine own_goto X31 hx (pc' := 243) (hb hby at_239) (by decide) (by decide) ?_
            show Goes _ _ _ _ _ _ (T31.setTop (mkF m 243 #[.val (.long q1), .second, .val (.long q2), .second, .val (.long q3), .second, .val (.long q4), .second, .val (.long q5), .second, .val (.int p6), .val (.long w2), .second, .val (.long w4), .second, .val (.long w6), .second, .val (.long w8), .second, .val (.ref b9), .val (.ref b27), .val (.int ((((((0 : Int64) + w4) + w6) + w8) * (100 : Int64)) / (((((0 : Int64) + w2) + w4) + w6) + w8)).toInt32), .val (.long ((w4 + w6) + w8)), .second, .val (.long (w2 + ((w4 + w6) + w8))), .second, .val (.long ((100 : Int64) * ((w4 + w6) + w8))), .second] [(.int (1 : Int32))]))
            exact own_retN X31 hx (t := .boolean) N31 hlk (by decide) (by decide) hret (by simp) (hb hby at_243) (by rw [e31]; exact rfl)
        by_cases hc60_7 : (p6 &&& (8 : Int32)) = (0 : Int32)
        ·
          refine own_ifYes X6 hx (pc' := 67) (hb hby at_60) ((if0 _ _).trans (teq (hc60_7 : (p6 &&& (8 : Int32)) = (0 : Int32))).1) (by decide) (by decide) ?_
          show Goes _ _ _ _ _ _ (T6.setTop (mkF m 67 #[.val (.long q1), .second, .val (.long q2), .second, .val (.long q3), .second, .val (.long q4), .second, .val (.long q5), .second, .val (.int p6), .val (.long w2), .second, .val (.long w4), .second, .val (.long w6), .second, .unset, .unset, .unset, .unset, .unset, .unset, .unset, .unset, .unset, .unset, .unset] []))
          refine own_lload X6 hx (hb hby at_67) rfl ?_
          show Goes _ _ _ _ _ _ (T6.setTop (mkF m 69 #[.val (.long q1), .second, .val (.long q2), .second, .val (.long q3), .second, .val (.long q4), .second, .val (.long q5), .second, .val (.int p6), .val (.long w2), .second, .val (.long w4), .second, .val (.long w6), .second, .unset, .unset, .unset, .unset, .unset, .unset, .unset, .unset, .unset, .unset, .unset] [(.long q4)]))
          refine own_ldc2Long X6 hx hZ hown (hw _ (List.mem_of_getElem? (i := 0) rfl)) (hb hby at_69) ?_
          show Goes _ _ _ _ _ _ (T6.setTop (mkF m 72 #[.val (.long q1), .second, .val (.long q2), .second, .val (.long q3), .second, .val (.long q4), .second, .val (.long q5), .second, .val (.int p6), .val (.long w2), .second, .val (.long w4), .second, .val (.long w6), .second, .unset, .unset, .unset, .unset, .unset, .unset, .unset, .unset, .unset, .unset, .unset] [(.long (1099511627775 : Int64)), (.long q4)]))
          refine own_land X6 hx (hb hby at_72) ?_
          show Goes _ _ _ _ _ _ (T6.setTop (mkF m 73 #[.val (.long q1), .second, .val (.long q2), .second, .val (.long q3), .second, .val (.long q4), .second, .val (.long q5), .second, .val (.int p6), .val (.long w2), .second, .val (.long w4), .second, .val (.long w6), .second, .unset, .unset, .unset, .unset, .unset, .unset, .unset, .unset, .unset, .unset, .unset] [(.long (q4 &&& (1099511627775 : Int64)))]))
          exact jn73_8 T6 _ X6 N6 e6 (q4 &&& (1099511627775 : Int64)) (own_m40 _)
        ·
          refine own_ifNo X6 hx (hb hby at_60) ((if0 _ _).trans (feq (hc60_7 : ¬ ((p6 &&& (8 : Int32)) = (0 : Int32)))).1) ?_
          show Goes _ _ _ _ _ _ (T6.setTop (mkF m 63 #[.val (.long q1), .second, .val (.long q2), .second, .val (.long q3), .second, .val (.long q4), .second, .val (.long q5), .second, .val (.int p6), .val (.long w2), .second, .val (.long w4), .second, .val (.long w6), .second, .unset, .unset, .unset, .unset, .unset, .unset, .unset, .unset, .unset, .unset, .unset] []))
          refine own_lconst X6 hx (v := (0 : Int64)) (hb hby at_63) rfl ?_
          show Goes _ _ _ _ _ _ (T6.setTop (mkF m 64 #[.val (.long q1), .second, .val (.long q2), .second, .val (.long q3), .second, .val (.long q4), .second, .val (.long q5), .second, .val (.int p6), .val (.long w2), .second, .val (.long w4), .second, .val (.long w6), .second, .unset, .unset, .unset, .unset, .unset, .unset, .unset, .unset, .unset, .unset, .unset] [(.long (0 : Int64))]))
          refine own_goto X6 hx (pc' := 73) (hb hby at_64) (by decide) (by decide) ?_
          show Goes _ _ _ _ _ _ (T6.setTop (mkF m 73 #[.val (.long q1), .second, .val (.long q2), .second, .val (.long q3), .second, .val (.long q4), .second, .val (.long q5), .second, .val (.int p6), .val (.long w2), .second, .val (.long w4), .second, .val (.long w6), .second, .unset, .unset, .unset, .unset, .unset, .unset, .unset, .unset, .unset, .unset, .unset] [(.long (0 : Int64))]))
          exact jn73_8 T6 _ X6 N6 e6 (0 : Int64) own_z40
      by_cases hc40_5 : (p6 &&& (4 : Int32)) = (0 : Int32)
      ·
        refine own_ifYes X4 hx (pc' := 47) (hb hby at_40) ((if0 _ _).trans (teq (hc40_5 : (p6 &&& (4 : Int32)) = (0 : Int32))).1) (by decide) (by decide) ?_
        show Goes _ _ _ _ _ _ (T4.setTop (mkF m 47 #[.val (.long q1), .second, .val (.long q2), .second, .val (.long q3), .second, .val (.long q4), .second, .val (.long q5), .second, .val (.int p6), .val (.long w2), .second, .val (.long w4), .second, .unset, .unset, .unset, .unset, .unset, .unset, .unset, .unset, .unset, .unset, .unset, .unset, .unset] []))
        refine own_lload X4 hx (hb hby at_47) rfl ?_
        show Goes _ _ _ _ _ _ (T4.setTop (mkF m 49 #[.val (.long q1), .second, .val (.long q2), .second, .val (.long q3), .second, .val (.long q4), .second, .val (.long q5), .second, .val (.int p6), .val (.long w2), .second, .val (.long w4), .second, .unset, .unset, .unset, .unset, .unset, .unset, .unset, .unset, .unset, .unset, .unset, .unset, .unset] [(.long q3)]))
        refine own_ldc2Long X4 hx hZ hown (hw _ (List.mem_of_getElem? (i := 0) rfl)) (hb hby at_49) ?_
        show Goes _ _ _ _ _ _ (T4.setTop (mkF m 52 #[.val (.long q1), .second, .val (.long q2), .second, .val (.long q3), .second, .val (.long q4), .second, .val (.long q5), .second, .val (.int p6), .val (.long w2), .second, .val (.long w4), .second, .unset, .unset, .unset, .unset, .unset, .unset, .unset, .unset, .unset, .unset, .unset, .unset, .unset] [(.long (1099511627775 : Int64)), (.long q3)]))
        refine own_land X4 hx (hb hby at_52) ?_
        show Goes _ _ _ _ _ _ (T4.setTop (mkF m 53 #[.val (.long q1), .second, .val (.long q2), .second, .val (.long q3), .second, .val (.long q4), .second, .val (.long q5), .second, .val (.int p6), .val (.long w2), .second, .val (.long w4), .second, .unset, .unset, .unset, .unset, .unset, .unset, .unset, .unset, .unset, .unset, .unset, .unset, .unset] [(.long (q3 &&& (1099511627775 : Int64)))]))
        exact jn53_6 T4 _ X4 N4 e4 (q3 &&& (1099511627775 : Int64)) (own_m40 _)
      ·
        refine own_ifNo X4 hx (hb hby at_40) ((if0 _ _).trans (feq (hc40_5 : ¬ ((p6 &&& (4 : Int32)) = (0 : Int32)))).1) ?_
        show Goes _ _ _ _ _ _ (T4.setTop (mkF m 43 #[.val (.long q1), .second, .val (.long q2), .second, .val (.long q3), .second, .val (.long q4), .second, .val (.long q5), .second, .val (.int p6), .val (.long w2), .second, .val (.long w4), .second, .unset, .unset, .unset, .unset, .unset, .unset, .unset, .unset, .unset, .unset, .unset, .unset, .unset] []))
        refine own_lconst X4 hx (v := (0 : Int64)) (hb hby at_43) rfl ?_
        show Goes _ _ _ _ _ _ (T4.setTop (mkF m 44 #[.val (.long q1), .second, .val (.long q2), .second, .val (.long q3), .second, .val (.long q4), .second, .val (.long q5), .second, .val (.int p6), .val (.long w2), .second, .val (.long w4), .second, .unset, .unset, .unset, .unset, .unset, .unset, .unset, .unset, .unset, .unset, .unset, .unset, .unset] [(.long (0 : Int64))]))
        refine own_goto X4 hx (pc' := 53) (hb hby at_44) (by decide) (by decide) ?_
        show Goes _ _ _ _ _ _ (T4.setTop (mkF m 53 #[.val (.long q1), .second, .val (.long q2), .second, .val (.long q3), .second, .val (.long q4), .second, .val (.long q5), .second, .val (.int p6), .val (.long w2), .second, .val (.long w4), .second, .unset, .unset, .unset, .unset, .unset, .unset, .unset, .unset, .unset, .unset, .unset, .unset, .unset] [(.long (0 : Int64))]))
        exact jn53_6 T4 _ X4 N4 e4 (0 : Int64) own_z40
    by_cases hc22_3 : (p6 &&& (2 : Int32)) = (0 : Int32)
    ·
      refine own_ifYes X2 hx (pc' := 29) (hb hby at_22) ((if0 _ _).trans (teq (hc22_3 : (p6 &&& (2 : Int32)) = (0 : Int32))).1) (by decide) (by decide) ?_
      show Goes _ _ _ _ _ _ (T2.setTop (mkF m 29 #[.val (.long q1), .second, .val (.long q2), .second, .val (.long q3), .second, .val (.long q4), .second, .val (.long q5), .second, .val (.int p6), .val (.long w2), .second, .unset, .unset, .unset, .unset, .unset, .unset, .unset, .unset, .unset, .unset, .unset, .unset, .unset, .unset, .unset] []))
      refine own_lloadN X2 hx (hb hby at_29) rfl ?_
      show Goes _ _ _ _ _ _ (T2.setTop (mkF m 30 #[.val (.long q1), .second, .val (.long q2), .second, .val (.long q3), .second, .val (.long q4), .second, .val (.long q5), .second, .val (.int p6), .val (.long w2), .second, .unset, .unset, .unset, .unset, .unset, .unset, .unset, .unset, .unset, .unset, .unset, .unset, .unset, .unset, .unset] [(.long q2)]))
      refine own_ldc2Long X2 hx hZ hown (hw _ (List.mem_of_getElem? (i := 0) rfl)) (hb hby at_30) ?_
      show Goes _ _ _ _ _ _ (T2.setTop (mkF m 33 #[.val (.long q1), .second, .val (.long q2), .second, .val (.long q3), .second, .val (.long q4), .second, .val (.long q5), .second, .val (.int p6), .val (.long w2), .second, .unset, .unset, .unset, .unset, .unset, .unset, .unset, .unset, .unset, .unset, .unset, .unset, .unset, .unset, .unset] [(.long (1099511627775 : Int64)), (.long q2)]))
      refine own_land X2 hx (hb hby at_33) ?_
      show Goes _ _ _ _ _ _ (T2.setTop (mkF m 34 #[.val (.long q1), .second, .val (.long q2), .second, .val (.long q3), .second, .val (.long q4), .second, .val (.long q5), .second, .val (.int p6), .val (.long w2), .second, .unset, .unset, .unset, .unset, .unset, .unset, .unset, .unset, .unset, .unset, .unset, .unset, .unset, .unset, .unset] [(.long (q2 &&& (1099511627775 : Int64)))]))
      exact jn34_4 T2 _ X2 N2 e2 (q2 &&& (1099511627775 : Int64)) (own_m40 _)
    ·
      refine own_ifNo X2 hx (hb hby at_22) ((if0 _ _).trans (feq (hc22_3 : ¬ ((p6 &&& (2 : Int32)) = (0 : Int32)))).1) ?_
      show Goes _ _ _ _ _ _ (T2.setTop (mkF m 25 #[.val (.long q1), .second, .val (.long q2), .second, .val (.long q3), .second, .val (.long q4), .second, .val (.long q5), .second, .val (.int p6), .val (.long w2), .second, .unset, .unset, .unset, .unset, .unset, .unset, .unset, .unset, .unset, .unset, .unset, .unset, .unset, .unset, .unset] []))
      refine own_lconst X2 hx (v := (0 : Int64)) (hb hby at_25) rfl ?_
      show Goes _ _ _ _ _ _ (T2.setTop (mkF m 26 #[.val (.long q1), .second, .val (.long q2), .second, .val (.long q3), .second, .val (.long q4), .second, .val (.long q5), .second, .val (.int p6), .val (.long w2), .second, .unset, .unset, .unset, .unset, .unset, .unset, .unset, .unset, .unset, .unset, .unset, .unset, .unset, .unset, .unset] [(.long (0 : Int64))]))
      refine own_goto X2 hx (pc' := 34) (hb hby at_26) (by decide) (by decide) ?_
      show Goes _ _ _ _ _ _ (T2.setTop (mkF m 34 #[.val (.long q1), .second, .val (.long q2), .second, .val (.long q3), .second, .val (.long q4), .second, .val (.long q5), .second, .val (.int p6), .val (.long w2), .second, .unset, .unset, .unset, .unset, .unset, .unset, .unset, .unset, .unset, .unset, .unset, .unset, .unset, .unset, .unset] [(.long (0 : Int64))]))
      exact jn34_4 T2 _ X2 N2 e2 (0 : Int64) own_z40
  by_cases hc4_1 : (p6 &&& (1 : Int32)) = (0 : Int32)
  ·
    refine own_ifYes X0 hx (pc' := 11) (hb hby at_4) ((if0 _ _).trans (teq (hc4_1 : (p6 &&& (1 : Int32)) = (0 : Int32))).1) (by decide) (by decide) ?_
    show Goes _ _ _ _ _ _ (T0.setTop (mkF m 11 #[.val (.long q1), .second, .val (.long q2), .second, .val (.long q3), .second, .val (.long q4), .second, .val (.long q5), .second, .val (.int p6), .unset, .unset, .unset, .unset, .unset, .unset, .unset, .unset, .unset, .unset, .unset, .unset, .unset, .unset, .unset, .unset, .unset] []))
    refine own_lloadN X0 hx (hb hby at_11) rfl ?_
    show Goes _ _ _ _ _ _ (T0.setTop (mkF m 12 #[.val (.long q1), .second, .val (.long q2), .second, .val (.long q3), .second, .val (.long q4), .second, .val (.long q5), .second, .val (.int p6), .unset, .unset, .unset, .unset, .unset, .unset, .unset, .unset, .unset, .unset, .unset, .unset, .unset, .unset, .unset, .unset, .unset] [(.long q1)]))
    refine own_ldc2Long X0 hx hZ hown (hw _ (List.mem_of_getElem? (i := 0) rfl)) (hb hby at_12) ?_
    show Goes _ _ _ _ _ _ (T0.setTop (mkF m 15 #[.val (.long q1), .second, .val (.long q2), .second, .val (.long q3), .second, .val (.long q4), .second, .val (.long q5), .second, .val (.int p6), .unset, .unset, .unset, .unset, .unset, .unset, .unset, .unset, .unset, .unset, .unset, .unset, .unset, .unset, .unset, .unset, .unset] [(.long (1099511627775 : Int64)), (.long q1)]))
    refine own_land X0 hx (hb hby at_15) ?_
    show Goes _ _ _ _ _ _ (T0.setTop (mkF m 16 #[.val (.long q1), .second, .val (.long q2), .second, .val (.long q3), .second, .val (.long q4), .second, .val (.long q5), .second, .val (.int p6), .unset, .unset, .unset, .unset, .unset, .unset, .unset, .unset, .unset, .unset, .unset, .unset, .unset, .unset, .unset, .unset, .unset] [(.long (q1 &&& (1099511627775 : Int64)))]))
    exact jn16_2 T0 _ X0 N0 e0 (q1 &&& (1099511627775 : Int64)) (own_m40 _)
  ·
    refine own_ifNo X0 hx (hb hby at_4) ((if0 _ _).trans (feq (hc4_1 : ¬ ((p6 &&& (1 : Int32)) = (0 : Int32)))).1) ?_
    show Goes _ _ _ _ _ _ (T0.setTop (mkF m 7 #[.val (.long q1), .second, .val (.long q2), .second, .val (.long q3), .second, .val (.long q4), .second, .val (.long q5), .second, .val (.int p6), .unset, .unset, .unset, .unset, .unset, .unset, .unset, .unset, .unset, .unset, .unset, .unset, .unset, .unset, .unset, .unset, .unset] []))
    refine own_lconst X0 hx (v := (0 : Int64)) (hb hby at_7) rfl ?_
    show Goes _ _ _ _ _ _ (T0.setTop (mkF m 8 #[.val (.long q1), .second, .val (.long q2), .second, .val (.long q3), .second, .val (.long q4), .second, .val (.long q5), .second, .val (.int p6), .unset, .unset, .unset, .unset, .unset, .unset, .unset, .unset, .unset, .unset, .unset, .unset, .unset, .unset, .unset, .unset, .unset] [(.long (0 : Int64))]))
    refine own_goto X0 hx (pc' := 16) (hb hby at_8) (by decide) (by decide) ?_
    show Goes _ _ _ _ _ _ (T0.setTop (mkF m 16 #[.val (.long q1), .second, .val (.long q2), .second, .val (.long q3), .second, .val (.long q4), .second, .val (.long q5), .second, .val (.int p6), .unset, .unset, .unset, .unset, .unset, .unset, .unset, .unset, .unset, .unset, .unset, .unset, .unset, .unset, .unset, .unset, .unset] [(.long (0 : Int64))]))
    exact jn16_2 T0 _ X0 N0 e0 (0 : Int64) own_z40
set_option maxRecDepth 65536 in
set_option maxHeartbeats 40000000 in
theorem comes_1 {Post : Tables → Env → Array Value → State → Outcome → State → Prop} (hpost : ∀ tb e args s v u, (limb_1_1.after args s (.returned v) u = true ∧ limb_1_2.after args s (.returned v) u = true ∧ True) → FrameEnd s (.returned v) u (Jvm.fieldLocs frame_1_writes args s ++ Jvm.arrayLocs frame_1_arrays args s ++ Jvm.staticLocs frame_1_statics s) 16 128 → Post tb e args s (.returned v) u) :
    ArmFor flags0 classFile x code maxLocals ret World_1 tables_1 room_1 Calls_1 rest_1 Pre_1 Post := by
  intro l hfl _ _ p e ha hc hk s m args below hf hA hF happ hP
  obtain ⟨hcalls, hrest, hpre⟩ := hP
  obtain ⟨-, -, -, hnamed, -, -, -, hat⟩ := (Spec.applies_iff hf).mp happ
  obtain ⟨hg, hn⟩ := and_e (Cond.before_iff.mp (show (Jvm.Cond.and given_1 narrow_1).before args s = true from hpre))
  obtain ⟨hg1a, hg1b⟩ := and_e hg
  obtain ⟨hg2a, hg2b⟩ := and_e hg1b
  obtain ⟨hg3a, hg3b⟩ := and_e hg2b
  obtain ⟨hg4a, hg4b⟩ := and_e hg3b
  obtain ⟨hg5a, hg5b⟩ := and_e hg4b
  obtain ⟨hg6a, hg6b⟩ := and_e hg5b
  obtain ⟨w0, w1, w2, w3, w4, w5, rfl⟩ : ∃ w0 w1 w2 w3 w4 w5 : Value, args = #[w0, w1, w2, w3, w4, w5] := by
    have hs : args.size = 6 := by simpa [Cond.value, given_1] using hg1a
    obtain ⟨L⟩ := args
    match L, hs with
    | [w0, w1, w2, w3, w4, w5], _ => exact ⟨w0, w1, w2, w3, w4, w5, rfl⟩
  have hw := fun d (hd : d ∈ tables_1) => atoms_spec (ws := Jvm.Cond.code x code maxLocals ret :: tables_1) hat d (List.mem_cons_of_mem _ hd)
  have hfit : Fit s := fun {y c} hc i hi => by
    obtain ⟨ha, rfl⟩ := Array.getElem?_eq_some_iff.mp hc
    have q := List.all_eq_true.mp ((Array.all_eq_true_iff_forall_mem.mp hF) _ (Array.getElem_mem ha)) i (List.mem_range.mpr hi)
    simpa [Array.getElem?_eq_getElem hi] using q
  obtain ⟨i0, ei0⟩ := isL_v hg2a
  obtain rfl : w0 = (.long i0) := Option.some.inj ei0
  obtain ⟨i1, ei1⟩ := isL_v hg3a
  obtain rfl : w1 = (.long i1) := Option.some.inj ei1
  obtain ⟨i2, ei2⟩ := isL_v hg4a
  obtain rfl : w2 = (.long i2) := Option.some.inj ei2
  obtain ⟨i3, ei3⟩ := isL_v hg5a
  obtain rfl : w3 = (.long i3) := Option.some.inj ei3
  obtain ⟨i4, ei4⟩ := isL_v hg6a
  obtain rfl : w4 = (.long i4) := Option.some.inj ei4
  obtain ⟨i5, ei5⟩ := is_v hg6b
  obtain rfl : w5 = (.int i5) := Option.some.inj ei5
  obtain ⟨hn1a, hn1b⟩ := and_e hn
  obtain ⟨hn2a, hn2b⟩ := and_e hn1b
  obtain ⟨hn3a, hn3b⟩ := and_e hn2b
  obtain ⟨hn4a, hn4b⟩ := and_e hn3b
  obtain ⟨hn5a, hn5b⟩ := and_e hn4b
  obtain ⟨hn6a, hn6b⟩ := and_e hn5b
  obtain ⟨hn7a, hn7b⟩ := and_e hn6b
  obtain ⟨hn8a, hn8b⟩ := and_e hn7b
  obtain ⟨hn9a, hn9b⟩ := and_e hn8b
  obtain ⟨hn10a, hn10b⟩ := and_e hn9b
  obtain ⟨hn11a, hn11b⟩ := and_e hn10b
  obtain ⟨hn12a, hn12b⟩ := and_e hn11b
  obtain ⟨hn13a, hn13b⟩ := and_e hn12b
  obtain ⟨hn14a, hn14b⟩ := and_e hn13b
  obtain ⟨hn15a, hn15b⟩ := and_e hn14b
  obtain ⟨hn16a, hn16b⟩ := and_e hn15b
  obtain ⟨hn17a, hn17b⟩ := and_e hn16b
  obtain ⟨hn18a, hn18b⟩ := and_e hn17b
  obtain ⟨hn19a, hn19b⟩ := and_e hn18b
  obtain ⟨hn20a, hn20b⟩ := and_e hn19b
  obtain ⟨hn21a, hn21b⟩ := and_e hn20b
  obtain ⟨hn22a, hn22b⟩ := and_e hn21b
  obtain ⟨hn23a, hn23b⟩ := and_e hn22b
  obtain ⟨hn24a, hn24b⟩ := and_e hn23b
  obtain ⟨hn25a, hn25b⟩ := and_e hn24b
  obtain ⟨hn26a, hn26b⟩ := and_e hn25b
  obtain ⟨hn27a, hn27b⟩ := and_e hn26b
  obtain ⟨w__VALUES, ev_w__VALUES⟩ := exa_v hn2a
  obtain ⟨w_SUCCESS, ev_w_SUCCESS⟩ := exa_v hn4a
  obtain ⟨w_FAILURE, ev_w_FAILURE⟩ := exa_v hn6a
  obtain ⟨w_TIMEOUT, ev_w_TIMEOUT⟩ := exa_v hn8a
  obtain ⟨w_REJECTED, ev_w_REJECTED⟩ := exa_v hn10a
  obtain ⟨w_SHORT_CIRCUITED, ev_w_SHORT_CIRCUITED⟩ := exa_v hn12a
  obtain ⟨cl_w__VALUES, Ar_w__VALUES⟩ := Arr.start ev_w__VALUES hn1a
  obtain ⟨k_w__VALUES, hk_w__VALUES⟩ : ∃ k, k = cl_w__VALUES.cls := ⟨_, rfl⟩
  obtain ⟨n, o, h1, h2, h3, v, L, rfl, ⟨N, hQ⟩, hq⟩ := rm0 l s _ hw tables_1 i0 i1 i2 i3 i4 i5 w__VALUES w_SUCCESS w_FAILURE w_TIMEOUT w_REJECTED w_SHORT_CIRCUITED k_w__VALUES s.heap s.heap.size (Old.start s) ⟨Sta.start ev_w__VALUES (Or.inr ⟨(hw _ (List.mem_of_getElem? (i := 16) rfl)), (hw _ (List.mem_of_getElem? (i := 19) rfl))⟩), Exa.start ev_w__VALUES hn2a, Sta.start ev_w_SUCCESS (Or.inr ⟨(hw _ (List.mem_of_getElem? (i := 16) rfl)), (hw _ (List.mem_of_getElem? (i := 27) rfl))⟩), Exa.start ev_w_SUCCESS hn4a, Sta.start ev_w_FAILURE (Or.inr ⟨(hw _ (List.mem_of_getElem? (i := 16) rfl)), (hw _ (List.mem_of_getElem? (i := 28) rfl))⟩), Exa.start ev_w_FAILURE hn6a, Sta.start ev_w_TIMEOUT (Or.inr ⟨(hw _ (List.mem_of_getElem? (i := 16) rfl)), (hw _ (List.mem_of_getElem? (i := 29) rfl))⟩), Exa.start ev_w_TIMEOUT hn8a, Sta.start ev_w_REJECTED (Or.inr ⟨(hw _ (List.mem_of_getElem? (i := 16) rfl)), (hw _ (List.mem_of_getElem? (i := 30) rfl))⟩), Exa.start ev_w_REJECTED hn10a, Sta.start ev_w_SHORT_CIRCUITED (Or.inr ⟨(hw _ (List.mem_of_getElem? (i := 16) rfl)), (hw _ (List.mem_of_getElem? (i := 31) rfl))⟩), Exa.start ev_w_SHORT_CIRCUITED hn12a, (by rw [hk_w__VALUES]; exact own_arr hfit ev_w__VALUES Ar_w__VALUES (own_eq hn3a rfl) (by decide) rfl ⟨(elem_in (own_eq hn5a ev_w_SUCCESS) ev_w__VALUES rfl Ar_w__VALUES.1).2, (elem_in (own_eq hn7a ev_w_FAILURE) ev_w__VALUES rfl Ar_w__VALUES.1).2, (elem_in (own_eq hn9a ev_w_TIMEOUT) ev_w__VALUES rfl Ar_w__VALUES.1).2, (elem_in (own_eq hn11a ev_w_REJECTED) ev_w__VALUES rfl Ar_w__VALUES.1).2, (elem_in (own_eq hn13a ev_w_SHORT_CIRCUITED) ev_w__VALUES rfl Ar_w__VALUES.1).2, trivial⟩), Fld.start ((fld_at ev_w_SUCCESS).symm.trans (own_eq hn14a rfl)), Fld.start ((fld_at ev_w_SUCCESS).symm.trans (own_eq hn15a rfl)), Fld.start ((fld_at ev_w_SUCCESS).symm.trans (own_eq hn16a rfl)), Fld.start ((fld_at ev_w_FAILURE).symm.trans (own_eq hn17a rfl)), Fld.start ((fld_at ev_w_FAILURE).symm.trans (own_eq hn18a rfl)), Fld.start ((fld_at ev_w_FAILURE).symm.trans (own_eq hn19a rfl)), Fld.start ((fld_at ev_w_TIMEOUT).symm.trans (own_eq hn20a rfl)), Fld.start ((fld_at ev_w_TIMEOUT).symm.trans (own_eq hn21a rfl)), Fld.start ((fld_at ev_w_TIMEOUT).symm.trans (own_eq hn22a rfl)), Fld.start ((fld_at ev_w_REJECTED).symm.trans (own_eq hn23a rfl)), Fld.start ((fld_at ev_w_REJECTED).symm.trans (own_eq hn24a rfl)), Fld.start ((fld_at ev_w_REJECTED).symm.trans (own_eq hn25a rfl)), Fld.start ((fld_at ev_w_SHORT_CIRCUITED).symm.trans (own_eq hn26a rfl)), Fld.start ((fld_at ev_w_SHORT_CIRCUITED).symm.trans (own_eq hn27a rfl)), Fld.start ((fld_at ev_w_SHORT_CIRCUITED).symm.trans (own_eq hn27b rfl)), trivial⟩ p e ha hc hk s m _ below hf ((Spec.applies_iff_loose hf).mp happ).1 ⟨rfl, State.Warmed39.refl s, rfl⟩ trivial
  have hv : v = some (.int (1 : Int32)) := hQ
  subst hv
  refine ⟨n, _, h1, h2, h3, hpost _ _ _ _ _ _ ⟨Cond.after_iff.mpr rfl, Cond.after_iff.mpr (eq_i res_at (Term.int_eval (1)) rfl), trivial⟩ ⟨hq.1, hq.2.1, hq.2.2.sift fun y hy => Or.inr (N y hy)⟩⟩
theorem main_1_1 : Claimed_1_1 := comes_1 fun _ _ _ _ _ _ h hF => ⟨h.1, hF⟩
theorem main_1_2 : Claimed_1_2 := comes_1 fun _ _ _ _ _ _ h hF => ⟨h.2.1, hF⟩
end Jvm.Pilot.@@N@@
namespace Jvm.Pilot.@@N@@
open Jvm Jvm.ClassFile Sem Op Lib Jvm.Free Jvm.Stand Jvm.Pilot.@@N@@.Jvm.D
/-! MADE BY PROGRAM (witnessworld.py) out of the Statement's table words and the real class files: 16 classes; the members and pool entries that the words name. The judged class is class 1, her method 1. -/
namespace start1
open Jvm.ClassFile
def u (s : String) : CpInfo := .utf8 (stringToUtf16 s)
/-- a pool by its gaps: so many unusable entries, then the entry; so many at the end -/
def gap : Nat → List CpInfo → List CpInfo
  | 0, r => r
  | n + 1, r => .unusable :: gap n r
def poolList (es : List (Nat × CpInfo)) (last : Nat) : List CpInfo := es.foldr (fun e r => gap e.1 (e.2 :: r)) (gap last [])
def pool (es : List (Nat × CpInfo)) (last : Nat) : Array CpInfo := ⟨poolList es last⟩
def fileOf (pool : Array CpInfo) (this : Nat) (attrs : Array Attribute := #[]) (ms : Array MethodInfo := #[]) (fl : Nat := 33) (sup : Nat := 0) (ifs : Array Nat := #[]) (fds : Array FieldInfo := #[]) : ClassFile where
  minorVersion := 0
  majorVersion := 65
  constantPool := pool
  accessFlags := fl
  thisClass := this
  superClass := sup
  interfaces := ifs
  fields := fds
  methods := ms
  attributes := attrs
def plain (name : String) (sup : Option ClassId) : Class where
  name := name
  kind := .ordinary
  loader := none
  accessFlags := 33
  super := sup
  interfaces := #[]
  cf := none
  fields := #[]
  methods := #[]
  instanceTypes := #[]
  staticTypes := #[]
  resolved := #[]
  callSites := []
  init := .initialized
  statics := none
  mirror := none

def pool0 : Array CpInfo := pool [(5, u "<init>"), (0, u "()V"), (1, .class_ 10), (1, u "java/lang/Object"), (85, u "clone"), (0, u "()Ljava/lang/Object;")] 26

def k0c0 : Code := { maxStack := 0, maxLocals := 1, code := object_method_1_code, exceptionTable := #[], attributes := #[] }
def k0m0 : Method := { name := "<init>", desc := "()V", sig := { parameters := [], returnType := none }, accessFlags := 1, code := some k0c0 }
def k0m1 : Method := { name := "clone", desc := "()Ljava/lang/Object;", sig := { parameters := [], returnType := some (.object "java/lang/Object") }, accessFlags := 260, code := none }
/-- java/lang/Object -/
def k0 : Class := { plain "java/lang/Object" none with
  accessFlags := 33
  interfaces := #[]
  cf := some (fileOf pool0 8 #[] #[{ accessFlags := 1, nameIndex := 5, descriptorIndex := 6, attributes := #[] }, { accessFlags := 260, nameIndex := 96, descriptorIndex := 97, attributes := #[] }] 33 0 #[] #[])
  fields := #[]
  methods := #[k0m0, k0m1]
  instanceTypes := #[]
  staticTypes := #[]
  resolved := Array.replicate 124 none
  statics := none }

def pool1 : Array CpInfo := pool [(2, .class_ 4), (1, u "java/lang/Object"), (0, u "<init>"), (0, u "()V"), (0, .class_ 8), (0, u "com/example/fuseline/fuseline/WindowCountsErrorPercentagePinLaw"), (0, .long 1099511627775), (1, .long 18446744073709551615), (1, .class_ 14), (0, u "com/example/fuseline/fuseline/WindowCounts"), (0, .methodref 13 16), (0, .nameAndType 5 17), (0, u "([J)V"), (0, .methodref 13 19), (0, .nameAndType 20 21), (0, u "errorPercentage"), (0, u "()I"), (0, .long 100), (1, u "MASK"), (0, u "J"), (3, u "law"), (0, u "(JJJJJI)Z")] 5

def k1m0 : Method := { name := "<init>", desc := "()V", sig := { parameters := [], returnType := none }, accessFlags := 1, code := none }
def k1c1 : Code := { maxStack := 6, maxLocals := 28, code := code, exceptionTable := #[], attributes := #[] }
def k1m1 : Method := { name := "law", desc := "(JJJJJI)Z", sig := { parameters := [.long, .long, .long, .long, .long, .int], returnType := some .boolean }, accessFlags := 9, code := some k1c1 }
/-- com/example/fuseline/fuseline/WindowCountsErrorPercentagePinLaw -/
def k1 : Class := { plain "com/example/fuseline/fuseline/WindowCountsErrorPercentagePinLaw" (some 0) with
  accessFlags := 49
  interfaces := #[]
  cf := some (fileOf pool1 7 #[] #[{ accessFlags := 1, nameIndex := 5, descriptorIndex := 6, attributes := #[] }, { accessFlags := 9, nameIndex := 29, descriptorIndex := 30, attributes := #[] }] 49 2 #[] #[{ accessFlags := 26, nameIndex := 24, descriptorIndex := 25, attributes := #[] }])
  fields := #[{ name := "MASK", type := .long, accessFlags := 26, slot := 0, constantValue := 0 }]
  methods := #[k1m0, k1m1]
  instanceTypes := #[]
  staticTypes := #[.long]
  resolved := Array.replicate 36 none
  statics := none }

def pool2 : Array CpInfo := pool [(1, .methodref 2 3), (0, .class_ 4), (0, .nameAndType 5 6), (0, u "java/lang/Object"), (0, u "<init>"), (0, u "()V"), (0, .fieldref 8 9), (0, .class_ 10), (0, .nameAndType 11 12), (0, u "com/example/fuseline/fuseline/WindowCounts"), (0, u "columns"), (0, u "[J"), (0, .methodref 14 15), (0, .class_ 16), (0, .nameAndType 17 18), (0, u "com/example/fuseline/fuseline/OutcomeKind"), (0, u "values"), (0, u "()[Lcom/example/fuseline/fuseline/OutcomeKind;"), (0, .methodref 14 20), (0, .nameAndType 21 22), (0, u "isCounted"), (0, u "()Z"), (0, .methodref 14 24), (0, .nameAndType 25 26), (0, u "ordinal"), (0, u "()I"), (0, .methodref 14 28), (0, .nameAndType 29 22), (0, u "isError"), (0, .fieldref 8 31), (0, .nameAndType 32 33), (0, u "counted"), (0, u "J"), (0, .fieldref 8 35), (0, .nameAndType 36 33), (0, u "errors"), (0, .long 100), (3, u "FIRST_ATTEMPTS"), (0, u "I"), (6, u "RETRIES"), (2, u "BACKUPS"), (44, u "COLUMNS"), (0, u "([J)V"), (8, u "errorPercentage")] 3

def k2c0 : Code := { maxStack := 4, maxLocals := 10, code := prog_36_method_1_code, exceptionTable := #[], attributes := #[] }
def k2m0 : Method := { name := "<init>", desc := "([J)V", sig := { parameters := [(.array .long)], returnType := none }, accessFlags := 0, code := some k2c0 }
def k2c1 : Code := { maxStack := 4, maxLocals := 1, code := prog_36_method_5_code, exceptionTable := #[], attributes := #[] }
def k2m1 : Method := { name := "errorPercentage", desc := "()I", sig := { parameters := [], returnType := some .int }, accessFlags := 1, code := some k2c1 }
/-- com/example/fuseline/fuseline/WindowCounts -/
def k2 : Class := { plain "com/example/fuseline/fuseline/WindowCounts" (some 0) with
  accessFlags := 49
  interfaces := #[]
  cf := some (fileOf pool2 8 #[] #[{ accessFlags := 0, nameIndex := 5, descriptorIndex := 98, attributes := #[] }, { accessFlags := 1, nameIndex := 107, descriptorIndex := 26, attributes := #[] }] 49 2 #[] #[{ accessFlags := 24, nameIndex := 41, descriptorIndex := 42, attributes := #[] }, { accessFlags := 24, nameIndex := 49, descriptorIndex := 42, attributes := #[] }, { accessFlags := 24, nameIndex := 52, descriptorIndex := 42, attributes := #[] }, { accessFlags := 24, nameIndex := 97, descriptorIndex := 42, attributes := #[] }, { accessFlags := 18, nameIndex := 11, descriptorIndex := 12, attributes := #[] }, { accessFlags := 18, nameIndex := 32, descriptorIndex := 33, attributes := #[] }, { accessFlags := 18, nameIndex := 36, descriptorIndex := 33, attributes := #[] }])
  fields := #[{ name := "FIRST_ATTEMPTS", type := .int, accessFlags := 24, slot := 0, constantValue := 0 }, { name := "RETRIES", type := .int, accessFlags := 24, slot := 1, constantValue := 0 }, { name := "BACKUPS", type := .int, accessFlags := 24, slot := 2, constantValue := 0 }, { name := "COLUMNS", type := .int, accessFlags := 24, slot := 3, constantValue := 0 }, { name := "columns", type := (.array .long), accessFlags := 18, slot := 0, constantValue := 0 }, { name := "counted", type := .long, accessFlags := 18, slot := 1, constantValue := 0 }, { name := "errors", type := .long, accessFlags := 18, slot := 2, constantValue := 0 }]
  methods := #[k2m0, k2m1]
  instanceTypes := #[(.array .long), .long, .long]
  staticTypes := #[.int, .int, .int, .int]
  resolved := Array.replicate 111 none
  statics := none }

def pool3 : Array CpInfo := pool [(1, .class_ 2), (0, u "java/lang/constant/Constable"), (0, .class_ 4), (0, u "java/lang/Object")] 6

/-- java/lang/constant/Constable -/
def k3 : Class := { plain "java/lang/constant/Constable" (some 0) with
  accessFlags := 1537
  interfaces := #[]
  cf := some (fileOf pool3 1 #[] #[] 1537 3 #[] #[])
  fields := #[]
  methods := #[]
  instanceTypes := #[]
  staticTypes := #[]
  resolved := Array.replicate 11 none
  statics := none }

def pool4 : Array CpInfo := pool [(1, .class_ 2), (0, u "java/lang/Comparable"), (0, .class_ 4), (0, u "java/lang/Object")] 7

/-- java/lang/Comparable -/
def k4 : Class := { plain "java/lang/Comparable" (some 0) with
  accessFlags := 1537
  interfaces := #[]
  cf := some (fileOf pool4 1 #[] #[] 1537 3 #[] #[])
  fields := #[]
  methods := #[]
  instanceTypes := #[]
  staticTypes := #[]
  resolved := Array.replicate 12 none
  statics := none }

def pool5 : Array CpInfo := pool [(1, .class_ 2), (0, u "java/io/Serializable"), (0, .class_ 4), (0, u "java/lang/Object")] 2

/-- java/io/Serializable -/
def k5 : Class := { plain "java/io/Serializable" (some 0) with
  accessFlags := 1537
  interfaces := #[]
  cf := some (fileOf pool5 1 #[] #[] 1537 3 #[] #[])
  fields := #[]
  methods := #[]
  instanceTypes := #[]
  staticTypes := #[]
  resolved := Array.replicate 7 none
  statics := none }

def pool6 : Array CpInfo := pool [(2, .class_ 4), (1, u "java/lang/Enum"), (0, u "name"), (0, u "Ljava/lang/String;"), (0, .fieldref 2 8), (0, .nameAndType 9 10), (0, u "ordinal"), (0, u "I"), (1, .class_ 14), (1, u "java/lang/Object"), (4, u "hash"), (86, .class_ 108), (1, u "java/lang/Enum$EnumDesc"), (2, .class_ 112), (0, u "java/lang/constant/Constable"), (0, .class_ 114), (0, u "java/lang/Comparable"), (0, .class_ 116), (0, u "java/io/Serializable"), (9, u "()I")] 77

def k6c0 : Code := { maxStack := 1, maxLocals := 1, code := jdk_37_method_2_code, exceptionTable := #[], attributes := #[] }
def k6m0 : Method := { name := "ordinal", desc := "()I", sig := { parameters := [], returnType := some .int }, accessFlags := 17, code := some k6c0 }
/-- java/lang/Enum -/
def k6 : Class := { plain "java/lang/Enum" (some 0) with
  accessFlags := 1057
  interfaces := #[3, 4, 5]
  cf := some (fileOf pool6 2 #[.nestMembers #[106]] #[{ accessFlags := 17, nameIndex := 9, descriptorIndex := 126, attributes := #[] }] 1057 12 #[111, 113, 115] #[{ accessFlags := 18, nameIndex := 5, descriptorIndex := 6, attributes := #[] }, { accessFlags := 18, nameIndex := 9, descriptorIndex := 10, attributes := #[] }, { accessFlags := 2, nameIndex := 19, descriptorIndex := 10, attributes := #[] }])
  fields := #[{ name := "name", type := (.object "java/lang/String"), accessFlags := 18, slot := 0, constantValue := 0 }, { name := "ordinal", type := .int, accessFlags := 18, slot := 1, constantValue := 0 }, { name := "hash", type := .int, accessFlags := 2, slot := 2, constantValue := 0 }]
  methods := #[k6m0]
  instanceTypes := #[(.object "java/lang/String"), .int, .int]
  staticTypes := #[]
  resolved := Array.replicate 204 none
  statics := none }

def pool7 : Array CpInfo := pool [(1, .class_ 2), (0, u "com/example/fuseline/fuseline/OutcomeKind"), (2, u "SUCCESS"), (0, u "Lcom/example/fuseline/fuseline/OutcomeKind;"), (2, u "FAILURE"), (2, u "TIMEOUT"), (2, u "REJECTED"), (2, u "SHORT_CIRCUITED"), (0, .fieldref 1 20), (0, .nameAndType 21 22), (0, u "$VALUES"), (0, u "[Lcom/example/fuseline/fuseline/OutcomeKind;"), (0, .methodref 24 25), (0, .class_ 22), (0, .nameAndType 26 27), (0, u "clone"), (0, u "()Ljava/lang/Object;"), (1, .class_ 31), (1, u "java/lang/Enum"), (6, .fieldref 1 39), (0, .nameAndType 40 41), (0, u "counted"), (0, u "Z"), (0, .fieldref 1 43), (0, .nameAndType 44 41), (0, u "error"), (11, u "()[Lcom/example/fuseline/fuseline/OutcomeKind;"), (0, u "values"), (6, u "isCounted"), (0, u "()Z"), (0, u "isError")] 5

def k7c0 : Code := { maxStack := 1, maxLocals := 0, code := prog_21_method_1_code, exceptionTable := #[], attributes := #[] }
def k7m0 : Method := { name := "values", desc := "()[Lcom/example/fuseline/fuseline/OutcomeKind;", sig := { parameters := [], returnType := some (.array (.object "com/example/fuseline/fuseline/OutcomeKind")) }, accessFlags := 9, code := some k7c0 }
def k7c1 : Code := { maxStack := 1, maxLocals := 1, code := prog_21_method_4_code, exceptionTable := #[], attributes := #[] }
def k7m1 : Method := { name := "isCounted", desc := "()Z", sig := { parameters := [], returnType := some .boolean }, accessFlags := 1, code := some k7c1 }
def k7c2 : Code := { maxStack := 1, maxLocals := 1, code := prog_21_method_5_code, exceptionTable := #[], attributes := #[] }
def k7m2 : Method := { name := "isError", desc := "()Z", sig := { parameters := [], returnType := some .boolean }, accessFlags := 1, code := some k7c2 }
/-- com/example/fuseline/fuseline/OutcomeKind -/
def k7 : Class := { plain "com/example/fuseline/fuseline/OutcomeKind" (some 6) with
  accessFlags := 16433
  interfaces := #[]
  cf := some (fileOf pool7 1 #[] #[{ accessFlags := 9, nameIndex := 57, descriptorIndex := 56, attributes := #[] }, { accessFlags := 1, nameIndex := 64, descriptorIndex := 65, attributes := #[] }, { accessFlags := 1, nameIndex := 66, descriptorIndex := 65, attributes := #[] }] 16433 29 #[] #[{ accessFlags := 16409, nameIndex := 5, descriptorIndex := 6, attributes := #[] }, { accessFlags := 16409, nameIndex := 9, descriptorIndex := 6, attributes := #[] }, { accessFlags := 16409, nameIndex := 12, descriptorIndex := 6, attributes := #[] }, { accessFlags := 16409, nameIndex := 15, descriptorIndex := 6, attributes := #[] }, { accessFlags := 16409, nameIndex := 18, descriptorIndex := 6, attributes := #[] }, { accessFlags := 18, nameIndex := 40, descriptorIndex := 41, attributes := #[] }, { accessFlags := 18, nameIndex := 44, descriptorIndex := 41, attributes := #[] }, { accessFlags := 4122, nameIndex := 21, descriptorIndex := 22, attributes := #[] }])
  fields := #[{ name := "SUCCESS", type := (.object "com/example/fuseline/fuseline/OutcomeKind"), accessFlags := 16409, slot := 0, constantValue := 0 }, { name := "FAILURE", type := (.object "com/example/fuseline/fuseline/OutcomeKind"), accessFlags := 16409, slot := 1, constantValue := 0 }, { name := "TIMEOUT", type := (.object "com/example/fuseline/fuseline/OutcomeKind"), accessFlags := 16409, slot := 2, constantValue := 0 }, { name := "REJECTED", type := (.object "com/example/fuseline/fuseline/OutcomeKind"), accessFlags := 16409, slot := 3, constantValue := 0 }, { name := "SHORT_CIRCUITED", type := (.object "com/example/fuseline/fuseline/OutcomeKind"), accessFlags := 16409, slot := 4, constantValue := 0 }, { name := "counted", type := .boolean, accessFlags := 18, slot := 3, constantValue := 0 }, { name := "error", type := .boolean, accessFlags := 18, slot := 4, constantValue := 0 }, { name := "$VALUES", type := (.array (.object "com/example/fuseline/fuseline/OutcomeKind")), accessFlags := 4122, slot := 5, constantValue := 0 }]
  methods := #[k7m0, k7m1, k7m2]
  instanceTypes := #[(.object "java/lang/String"), .int, .int, .boolean, .boolean]
  staticTypes := #[(.object "com/example/fuseline/fuseline/OutcomeKind"), (.object "com/example/fuseline/fuseline/OutcomeKind"), (.object "com/example/fuseline/fuseline/OutcomeKind"), (.object "com/example/fuseline/fuseline/OutcomeKind"), (.object "com/example/fuseline/fuseline/OutcomeKind"), (.array (.object "com/example/fuseline/fuseline/OutcomeKind"))]
  resolved := Array.replicate 72 none
  statics := some 0 }

def pool8 : Array CpInfo := pool [(1, .class_ 2), (0, u "java/lang/Cloneable"), (0, .class_ 4), (0, u "java/lang/Object")] 2

/-- java/lang/Cloneable -/
def k8 : Class := { plain "java/lang/Cloneable" (some 0) with
  accessFlags := 1537
  interfaces := #[]
  cf := some (fileOf pool8 1 #[] #[] 1537 3 #[] #[])
  fields := #[]
  methods := #[]
  instanceTypes := #[]
  staticTypes := #[]
  resolved := Array.replicate 7 none
  statics := none }

/-- the primitive byte -/
def k9 : Class := { plain "byte" none with kind := .primitive 'B', accessFlags := 0x411 }
/-- [B -/
def k10 : Class := { plain "[B" (some 0) with kind := .array 9 .byte, interfaces := #[8, 5], accessFlags := 1041 }

/-- the primitive int -/
def k11 : Class := { plain "int" none with kind := .primitive 'I', accessFlags := 0x411 }
/-- [I -/
def k12 : Class := { plain "[I" (some 0) with kind := .array 11 .int, interfaces := #[8, 5], accessFlags := 1041 }

/-- the primitive long -/
def k13 : Class := { plain "long" none with kind := .primitive 'J', accessFlags := 0x411 }
/-- [J -/
def k14 : Class := { plain "[J" (some 0) with kind := .array 13 .long, interfaces := #[8, 5], accessFlags := 1041 }

/-- [Lcom/example/fuseline/fuseline/OutcomeKind; -/
def k15 : Class := { plain "[Lcom/example/fuseline/fuseline/OutcomeKind;" (some 0) with kind := .array 7 (.object "com/example/fuseline/fuseline/OutcomeKind"), interfaces := #[8, 5], accessFlags := 1041 }

def heap : Heap := #[{ cls := 7, slots := #[.ref 2, .ref 3, .ref 4, .ref 5, .ref 6, .ref 1], vm := .statics 7 },
  { cls := 15, slots := #[.ref 2, .ref 3, .ref 4, .ref 5, .ref 6], vm := .none },
  { cls := 7, slots := #[.null, .int 0, .int 0, .int 1, .int 0], vm := .none },
  { cls := 7, slots := #[.null, .int 1, .int 0, .int 1, .int 1], vm := .none },
  { cls := 7, slots := #[.null, .int 2, .int 0, .int 1, .int 1], vm := .none },
  { cls := 7, slots := #[.null, .int 3, .int 0, .int 1, .int 1], vm := .none },
  { cls := 7, slots := #[.null, .int 4, .int 0, .int 0, .int 0], vm := .none }]
def classes : Array Class := #[k0, k1, k2, k3, k4, k5, k6, k7, k8, k9, k10, k11, k12, k13, k14, k15]
def interned : List (Array UInt16 × Addr) := []
def slotsUsed : Nat := 36
def theMethod : MethodId := ⟨1, 1⟩
def args0 : Array Value := #[.long 5, .long 7, .long 3, .long 2, .long 9, .int 3]
def aboutOver (below : List Frame) : State where
  vm := { classes := classes, interned := interned.toArray }
  heap := heap
  slotsUsed := slotsUsed
  threads := #[{ frames := .invoking theMethod args0 :: below }]
def below0 : List Frame := [.native { method := ⟨0, 0⟩, args := #[] }]
def about1 : State := aboutOver below0
def p0 : Program := .bare "" "" ""
def e0 : Env := launch0.env 0 0 0
theorem w_frames : about1.frames = Frame.invoking theMethod args0 :: below0 := rfl
set_option maxRecDepth 65536 in
theorem w_args : argsFit about1.vm theMethod args0 = true := by decide +kernel
set_option maxRecDepth 65536 in
theorem w_heap : heapFits about1 = true := by decide +kernel
set_option maxRecDepth 65536 in
theorem w_runnable : about1.curStatus? = some .runnable := by decide +kernel
set_option maxRecDepth 65536 in
theorem w_alone : about1.alone = true := by decide +kernel
set_option maxRecDepth 65536 in
theorem w_named : about1.methodNamed? x = some theMethod := by decide +kernel
set_option maxRecDepth 65536 in
theorem w_hears : about1.hears theMethod below0 = true := by decide +kernel
set_option maxRecDepth 65536 in
theorem w_ripe : about1.ripe theMethod args0 below0 = true := by decide +kernel
theorem w_running : about1.status = .running := rfl
set_option maxRecDepth 65536 in
theorem w_room : about1.hasRoom e0.platform room_1 = true :=
  launch0.hasRoom_least _ room_1 (by decide +kernel) (by decide +kernel) (by decide +kernel) (by decide +kernel) (by decide +kernel) (by decide +kernel)
theorem allAtoms_all (ts : List Jvm.Cond) (a : Array Jvm.Value) (st : Jvm.State) : (allAtoms ts).before a st = ts.all (fun c => c.before a st) := by
  induction ts with
  | nil => rfl
  | cons c t ih =>
    show (Jvm.Cond.and c (allAtoms t)).before a st = _
    rw [Jvm.Cond.before_and, ih, List.all_cons]
def words1 : List Jvm.Cond := Jvm.Cond.code x code maxLocals ret :: tables_1
/-- a 'code' word, met by the world's own term for the bytes: nothing is compared byte by byte -/
theorem code_word {y : MethodName} {bytes : ByteArray} {mx : Nat} {rt : Option FieldType} {a : Array Value} {s : State} {m : MethodId} {meth : Method} {c : Code} (h1 : s.methodNamed? y = some m) (h2 : s.vm.method? m = some meth) (h3 : meth.code = some c) (h4 : c.code = bytes)
    (h5 : (c.maxLocals == mx && c.exceptionTable.isEmpty && decide (c.maxStack ≤ mostOperands) && decide (meth.sig.returnType = rt) && !meth.locks && decide (parseMethodDescriptor y.desc = some meth.sig)) = true) : (Jvm.Cond.code y bytes mx rt).before a s = true := by
  simp only [Bool.and_eq_true, beq_iff_eq, Bool.not_eq_true', decide_eq_true_eq] at h5
  obtain ⟨⟨⟨⟨⟨g1, g2⟩, g3⟩, g4⟩, g5⟩, g6⟩ := h5
  simp [Cond.before, Cond.holds, Cond.value, h1, h2, h3, h4, g1, g2, g3, g4, g5, g6]
def isCode : Jvm.Cond → Bool
  | .code _ _ _ _ => true
  | _ => false
theorem all_split {L : List Jvm.Cond} {P : Jvm.Cond → Bool} (h1 : L.all (fun c => isCode c || P c) = true) (h2 : ∀ c ∈ L.filter isCode, P c = true) : L.all P = true := by
  refine List.all_eq_true.mpr fun c hc => ?_
  have h := List.all_eq_true.mp h1 c hc
  rcases Bool.eq_false_or_eq_true (isCode c) with hi | hi
  · exact h2 c (List.mem_filter.mpr ⟨hc, hi⟩)
  · simpa [hi] using h
set_option maxRecDepth 65536 in
theorem w_c0 : (Jvm.Cond.code x code maxLocals ret).before args0 about1 = true := code_word (m := ⟨1, 1⟩) (meth := k1m1) (c := k1c1) (by decide +kernel) rfl rfl rfl (by decide +kernel)
set_option maxRecDepth 65536 in
theorem w_c1 : (Jvm.Cond.code ({ cls := "com/example/fuseline/fuseline/WindowCounts", name := "<init>", desc := "([J)V" } : Jvm.MethodName) prog_36_method_1_code (10 : Nat) (Option.none : Option Jvm.ClassFile.FieldType)).before args0 about1 = true := code_word (m := ⟨2, 0⟩) (meth := k2m0) (c := k2c0) (by decide +kernel) rfl rfl rfl (by decide +kernel)
set_option maxRecDepth 65536 in
theorem w_c2 : (Jvm.Cond.code ({ cls := "java/lang/Object", name := "<init>", desc := "()V" } : Jvm.MethodName) object_method_1_code (1 : Nat) (Option.none : Option Jvm.ClassFile.FieldType)).before args0 about1 = true := code_word (m := ⟨0, 0⟩) (meth := k0m0) (c := k0c0) (by decide +kernel) rfl rfl rfl (by decide +kernel)
set_option maxRecDepth 65536 in
theorem w_c3 : (Jvm.Cond.code ({ cls := "com/example/fuseline/fuseline/OutcomeKind", name := "values", desc := "()[Lcom/example/fuseline/fuseline/OutcomeKind;" } : Jvm.MethodName) prog_21_method_1_code (0 : Nat) (Option.some (Jvm.ClassFile.FieldType.array (Jvm.ClassFile.FieldType.object "com/example/fuseline/fuseline/OutcomeKind")))).before args0 about1 = true := code_word (m := ⟨7, 0⟩) (meth := k7m0) (c := k7c0) (by decide +kernel) rfl rfl rfl (by decide +kernel)
set_option maxRecDepth 65536 in
theorem w_c4 : (Jvm.Cond.code ({ cls := "com/example/fuseline/fuseline/OutcomeKind", name := "isCounted", desc := "()Z" } : Jvm.MethodName) prog_21_method_4_code (1 : Nat) (Option.some Jvm.ClassFile.FieldType.boolean)).before args0 about1 = true := code_word (m := ⟨7, 1⟩) (meth := k7m1) (c := k7c1) (by decide +kernel) rfl rfl rfl (by decide +kernel)
set_option maxRecDepth 65536 in
theorem w_c5 : (Jvm.Cond.code ({ cls := "java/lang/Enum", name := "ordinal", desc := "()I" } : Jvm.MethodName) jdk_37_method_2_code (1 : Nat) (Option.some Jvm.ClassFile.FieldType.int)).before args0 about1 = true := code_word (m := ⟨6, 0⟩) (meth := k6m0) (c := k6c0) (by decide +kernel) rfl rfl rfl (by decide +kernel)
set_option maxRecDepth 65536 in
theorem w_c6 : (Jvm.Cond.code ({ cls := "com/example/fuseline/fuseline/OutcomeKind", name := "isError", desc := "()Z" } : Jvm.MethodName) prog_21_method_5_code (1 : Nat) (Option.some Jvm.ClassFile.FieldType.boolean)).before args0 about1 = true := code_word (m := ⟨7, 2⟩) (meth := k7m2) (c := k7c2) (by decide +kernel) rfl rfl rfl (by decide +kernel)
set_option maxRecDepth 65536 in
theorem w_c7 : (Jvm.Cond.code ({ cls := "com/example/fuseline/fuseline/WindowCounts", name := "errorPercentage", desc := "()I" } : Jvm.MethodName) prog_36_method_5_code (1 : Nat) (Option.some Jvm.ClassFile.FieldType.int)).before args0 about1 = true := code_word (m := ⟨2, 1⟩) (meth := k2m1) (c := k2c1) (by decide +kernel) rfl rfl rfl (by decide +kernel)
def codes1 : List Jvm.Cond := [Jvm.Cond.code x code maxLocals ret, Jvm.Cond.code ({ cls := "com/example/fuseline/fuseline/WindowCounts", name := "<init>", desc := "([J)V" } : Jvm.MethodName) prog_36_method_1_code (10 : Nat) (Option.none : Option Jvm.ClassFile.FieldType), Jvm.Cond.code ({ cls := "java/lang/Object", name := "<init>", desc := "()V" } : Jvm.MethodName) object_method_1_code (1 : Nat) (Option.none : Option Jvm.ClassFile.FieldType), Jvm.Cond.code ({ cls := "com/example/fuseline/fuseline/OutcomeKind", name := "values", desc := "()[Lcom/example/fuseline/fuseline/OutcomeKind;" } : Jvm.MethodName) prog_21_method_1_code (0 : Nat) (Option.some (Jvm.ClassFile.FieldType.array (Jvm.ClassFile.FieldType.object "com/example/fuseline/fuseline/OutcomeKind"))), Jvm.Cond.code ({ cls := "com/example/fuseline/fuseline/OutcomeKind", name := "isCounted", desc := "()Z" } : Jvm.MethodName) prog_21_method_4_code (1 : Nat) (Option.some Jvm.ClassFile.FieldType.boolean), Jvm.Cond.code ({ cls := "java/lang/Enum", name := "ordinal", desc := "()I" } : Jvm.MethodName) jdk_37_method_2_code (1 : Nat) (Option.some Jvm.ClassFile.FieldType.int), Jvm.Cond.code ({ cls := "com/example/fuseline/fuseline/OutcomeKind", name := "isError", desc := "()Z" } : Jvm.MethodName) prog_21_method_5_code (1 : Nat) (Option.some Jvm.ClassFile.FieldType.boolean), Jvm.Cond.code ({ cls := "com/example/fuseline/fuseline/WindowCounts", name := "errorPercentage", desc := "()I" } : Jvm.MethodName) prog_36_method_5_code (1 : Nat) (Option.some Jvm.ClassFile.FieldType.int)]
set_option maxRecDepth 65536 in
theorem codes_eq : words1.filter isCode = codes1 := rfl
theorem w_codes : ∀ c ∈ words1.filter isCode, c.before args0 about1 = true := by
  rw [codes_eq]
  intro c hc
  simp only [codes1, List.mem_cons, List.not_mem_nil, or_false] at hc
  rcases hc with rfl | rfl | rfl | rfl | rfl | rfl | rfl | rfl
  · exact w_c0
  · exact w_c1
  · exact w_c2
  · exact w_c3
  · exact w_c4
  · exact w_c5
  · exact w_c6
  · exact w_c7
set_option maxRecDepth 65536 in
theorem w_t1 : (words1.take 24).all (fun c => isCode c || c.before args0 about1) = true := by decide +kernel
set_option maxRecDepth 65536 in
theorem w_t2 : ((words1.drop 24).take 24).all (fun c => isCode c || c.before args0 about1) = true := by decide +kernel
set_option maxRecDepth 65536 in
theorem w_t3 : ((words1.drop 24).drop 24).all (fun c => isCode c || c.before args0 about1) = true := by decide +kernel
theorem w_tables : (allAtoms (Jvm.Cond.code x code maxLocals ret :: tables_1)).before args0 about1 = true := by
  rw [allAtoms_all]
  show words1.all (fun c => c.before args0 about1) = true
  refine all_split ?_ w_codes
  rw [← List.take_append_drop 24 words1, List.all_append, w_t1, ← List.take_append_drop 24 (words1.drop 24), List.all_append, w_t2, w_t3]
  rfl
set_option maxRecDepth 65536 in
theorem w_case : (Jvm.Cond.and given_1 narrow_1).before args0 about1 = true := by decide +kernel
theorem w_applies : (headSpec (Jvm.Cond.code x code maxLocals ret :: tables_1) room_1).applies x e0.platform about1 = true :=
  (Spec.applies_iff w_frames).mpr ⟨w_running, w_runnable, w_alone, w_named, w_hears, w_ripe, w_room, w_tables⟩
theorem atStart : AtStart classFile x code maxLocals ret World_1 tables_1 room_1 Calls_1 rest_1 Pre_1 launch0 p0 e0 about1 theMethod args0 below0 :=
  ⟨lists_1, trivial, launch0.admits_env _ _ _, launch0.least_env, fairChoices_fair.cas, fairChoices_fair.clock, w_frames, w_args, w_heap, w_applies, trivial, trivial, w_case⟩
end start1
theorem witness_1 : WitnessClaimed_1 := ⟨start1.p0, start1.e0, start1.about1, start1.theMethod, start1.args0, start1.below0, start1.atStart⟩
end Jvm.Pilot.@@N@@
