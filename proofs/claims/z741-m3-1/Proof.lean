import JvmDerived
import JvmDerived.Pilot.@@N@@Statement
import JvmDerived.Pilot.@@N@@Code
set_option linter.unusedVariables false
set_option linter.unusedSimpArgs false
namespace Jvm.Pilot.@@N@@
open Jvm Jvm.ClassFile Sem Op Lib Jvm.Free Jvm.Stand Jvm.LawKit Jvm.RoadKit Bundle Jvm.Pilot.@@N@@.Jvm.D
section OwnKit
variable {p : Program} {l : Launch} {e : Env} {R : Room} {s : State} {m : MethodId} {args : Array Value} {below : List Frame} {meth : Method} {c : Code} {T : State} {locs : List Loc} {cells slots : Nat} {Z : State} {a0 : Array Value} {h : Heap} {n0 kc ks : Nat} {FE : Outcome → State → List Loc → Prop} {Q : Option Value → Heap → Prop} {pc pc' : Nat} {Ls Ls' : Array Slot} {st : List Value}
/-- from the state S the run comes back to its caller with what Q says, having written nothing below n0 -/
def Goes (p : Program) (e : Env) (below : List Frame) (FE : Outcome → State → List Loc → Prop) (n0 : Nat) (Q : Option Value → Heap → Prop) (S : State) : Prop :=
  ∃ s₂ o, Steps p.tables e below S s₂ ∧ s₂.status = .running ∧ Ended s₂ below o ∧ ∃ v L, o = .returned v ∧ (Fr n0 L ∧ Q v s₂.heap) ∧ FE o s₂ L
/-- the contract of a body -/
def Meets (l : Launch) (y : MethodName) (bytes : ByteArray) (maxL : Nat) (ret : Option FieldType) (ws : List Jvm.Cond) (rm : Room) (kc ks : Nat) (Z : State) (as' : Array Value) (h : Heap) (n0 : Nat) (Q : Option Value → Heap → Prop) : Prop :=
  MetFree l y (head1 (Jvm.Cond.code y bytes maxL ret :: ws) rm) (fun a U => a = as' ∧ Z.Warmed39 U.vm ∧ U.heap = h) (fun _ _ _ _ _ => True) (fun _ U o U' => ∃ v L, o = .returned v ∧ (Fr n0 L ∧ Q v U'.heap) ∧ FrameEnd U o U' L kc ks)
theorem Goes.via {S S' : State} (f : ∀ t, Steps p.tables e below S' t → Steps p.tables e below S t) (g : Goes p e below FE n0 Q S') : Goes p e below FE n0 Q S := by
  obtain ⟨s₂, o, k, r⟩ := g
  exact ⟨s₂, o, f _ k, r⟩
theorem Goes.ret {S : State} {v : Option Value} (X : Stand p l e R s m args below meth c T locs cells slots) (N : Fr n0 locs) (hlk : meth.locks = false) (hv : meth.sig.returnType = none → v = none) (hc : cells ≤ kc) (hs : slots ≤ ks) (hq : Q v T.heap)
    (f : ∀ fs, (∀ (f : JFrame) (acts : List Action), f.method = m → f.locked = none → f.entered = [] → (doReturn e (T.setTop f) acts v).1 = T.setFrames fs) → Steps p.tables e below S (T.setFrames fs)) : Goes p e below (fun o t L => FrameEnd s o t L kc ks) n0 Q S := by
  obtain ⟨fs, hr, hrun, hended, hW, hsame⟩ := X.leave hv hlk
  exact ⟨_, _, f fs hr, hrun, hended, _, _, rfl, ⟨N, hq⟩, ⟨_, rfl⟩, hW, hsame.mono hc hs⟩
theorem own_sz (O : Old Z n0 h) : n0 ≤ h.size := O.1 ▸ O.2.1
theorem Meets.of {y : MethodName} {bytes : ByteArray} {maxL : Nat} {ret : Option FieldType} {ws : List Jvm.Cond} {rm : Room} {as' : Array Value} (hx : plainFor y = true) {F : MethodId → JFrame} (hF : ∀ m, entryFrame m as' maxL = F m)
    (body : ∀ p e s m below meth c T, p.tables.exec = Jvm.exec → c.code = bytes → c.maxLocals = maxL → s.vm.findClass y.cls = some m.cls → meth.name = y.name → meth.sig.returnType = ret → meth.locks = false → Z.Warmed39 s.vm →
      Stand p l e rm s m as' below meth c T [] 0 0 → T.heap = h → Goes p e below (fun o t L => FrameEnd s o t L kc ks) n0 Q (T.setTop (F m))) :
    Meets l y bytes maxL ret ws rm kc ks Z as' h n0 Q := by
  refine MetFree.of_bodySF hx hisR ?_
  intro p e s m args below meth c s₁ Bd hml hP hK
  obtain ⟨rfl, hZ, hh⟩ := hP
  have X0 : Stand p l e rm s m args below meth c s₁ [] 0 0 := Stand.of_body Bd
  have e0 : s₁.heap = h := by rw [← hh, Bd.state]; rfl
  obtain ⟨s₂, o, k, r⟩ := body p e s m below meth c s₁ Bd.exec Bd.bytes hml (findClass_of_methodNamed Bd.named) (name_of_methodNamed Bd.named Bd.method).1 Bd.returns Bd.notSynchronized hZ X0 e0
  exact ⟨s₂, o, castTop (hF m) k, r⟩
theorem own_iloadN (X : Stand p l e R s m args below meth c T locs cells slots) (hx : p.tables.exec = Jvm.exec) {k : Fin 4} {v : Int32} (hd : decode c.code pc = .ok (.iload_n k, 1)) (hl : Ls[k.val]? = some (.val (.int v)))
    (g : Goes p e below FE n0 Q (T.setTop (mkF m (pc + 1) Ls (.int v :: st)))) : Goes p e below FE n0 Q (T.setTop (mkF m pc Ls st)) :=
  Goes.via (fun _ k => XS.iloadN X.here hx rfl hd hl k) g
theorem own_iload (X : Stand p l e R s m args below meth c T locs cells slots) (hx : p.tables.exec = Jvm.exec) {k : Nat} {v : Int32} (hd : decode c.code pc = .ok (.iload k, 2)) (hl : Ls[k]? = some (.val (.int v)))
    (g : Goes p e below FE n0 Q (T.setTop (mkF m (pc + 2) Ls (.int v :: st)))) : Goes p e below FE n0 Q (T.setTop (mkF m pc Ls st)) :=
  Goes.via (fun _ k => XS.iload X.here hx rfl hd hl k) g
theorem own_istoreN (X : Stand p l e R s m args below meth c T locs cells slots) (hx : p.tables.exec = Jvm.exec) {k : Fin 4} {x : Int32} (hd : decode c.code pc = .ok (.istore_n k, 1)) (hl : storeLocals Ls k.val (.int x) = some Ls')
    (g : Goes p e below FE n0 Q (T.setTop (mkF m (pc + 1) Ls' st))) : Goes p e below FE n0 Q (T.setTop (mkF m pc Ls (.int x :: st))) :=
  Goes.via (fun _ k => XS.istoreN X.here hx rfl hd rfl hl k) g
theorem own_istore (X : Stand p l e R s m args below meth c T locs cells slots) (hx : p.tables.exec = Jvm.exec) {k : Nat} {x : Int32} (hd : decode c.code pc = .ok (.istore k, 2)) (hl : storeLocals Ls k (.int x) = some Ls')
    (g : Goes p e below FE n0 Q (T.setTop (mkF m (pc + 2) Ls' st))) : Goes p e below FE n0 Q (T.setTop (mkF m pc Ls (.int x :: st))) :=
  Goes.via (fun _ k => XS.istore X.here hx rfl hd rfl hl k) g
theorem own_lloadN (X : Stand p l e R s m args below meth c T locs cells slots) (hx : p.tables.exec = Jvm.exec) {k : Fin 4} {v : Int64} (hd : decode c.code pc = .ok (.lload_n k, 1)) (hl : Ls[k.val]? = some (.val (.long v)))
    (g : Goes p e below FE n0 Q (T.setTop (mkF m (pc + 1) Ls (.long v :: st)))) : Goes p e below FE n0 Q (T.setTop (mkF m pc Ls st)) :=
  Goes.via (fun _ k => XS.lloadN X.here hx rfl hd hl k) g
theorem own_lload (X : Stand p l e R s m args below meth c T locs cells slots) (hx : p.tables.exec = Jvm.exec) {k : Nat} {v : Int64} (hd : decode c.code pc = .ok (.lload k, 2)) (hl : Ls[k]? = some (.val (.long v)))
    (g : Goes p e below FE n0 Q (T.setTop (mkF m (pc + 2) Ls (.long v :: st)))) : Goes p e below FE n0 Q (T.setTop (mkF m pc Ls st)) :=
  Goes.via (fun _ k => XS.lload X.here hx rfl hd hl k) g
theorem own_lstoreN (X : Stand p l e R s m args below meth c T locs cells slots) (hx : p.tables.exec = Jvm.exec) {k : Fin 4} {x : Int64} (hd : decode c.code pc = .ok (.lstore_n k, 1)) (hl : storeLocals Ls k.val (.long x) = some Ls')
    (g : Goes p e below FE n0 Q (T.setTop (mkF m (pc + 1) Ls' st))) : Goes p e below FE n0 Q (T.setTop (mkF m pc Ls (.long x :: st))) :=
  Goes.via (fun _ k => XS.lstoreN X.here hx rfl hd rfl hl k) g
theorem own_lstore (X : Stand p l e R s m args below meth c T locs cells slots) (hx : p.tables.exec = Jvm.exec) {k : Nat} {x : Int64} (hd : decode c.code pc = .ok (.lstore k, 2)) (hl : storeLocals Ls k (.long x) = some Ls')
    (g : Goes p e below FE n0 Q (T.setTop (mkF m (pc + 2) Ls' st))) : Goes p e below FE n0 Q (T.setTop (mkF m pc Ls (.long x :: st))) :=
  Goes.via (fun _ k => XS.lstore X.here hx rfl hd rfl hl k) g
theorem own_aloadN (X : Stand p l e R s m args below meth c T locs cells slots) (hx : p.tables.exec = Jvm.exec) {k : Fin 4} {v : Value} (hd : decode c.code pc = .ok (.aload_n k, 1)) (hl : Ls[k.val]? = some (.val v)) (hv : v.isRef = true)
    (g : Goes p e below FE n0 Q (T.setTop (mkF m (pc + 1) Ls (v :: st)))) : Goes p e below FE n0 Q (T.setTop (mkF m pc Ls st)) :=
  Goes.via (fun _ k => XS.aloadN X.here hx rfl hd hl hv k) g
theorem own_aload (X : Stand p l e R s m args below meth c T locs cells slots) (hx : p.tables.exec = Jvm.exec) {k : Nat} {v : Value} (hd : decode c.code pc = .ok (.aload k, 2)) (hl : Ls[k]? = some (.val v)) (hv : v.isRef = true)
    (g : Goes p e below FE n0 Q (T.setTop (mkF m (pc + 2) Ls (v :: st)))) : Goes p e below FE n0 Q (T.setTop (mkF m pc Ls st)) :=
  Goes.via (fun _ k => XS.aload X.here hx rfl hd hl hv k) g
theorem own_astoreN (X : Stand p l e R s m args below meth c T locs cells slots) (hx : p.tables.exec = Jvm.exec) {k : Fin 4} {x : Value} (hd : decode c.code pc = .ok (.astore_n k, 1)) (hv : x.isRef = true) (hl : storeLocals Ls k.val x = some Ls')
    (g : Goes p e below FE n0 Q (T.setTop (mkF m (pc + 1) Ls' st))) : Goes p e below FE n0 Q (T.setTop (mkF m pc Ls (x :: st))) :=
  Goes.via (fun _ k => XS.astoreN X.here hx rfl hd rfl hv hl k) g
theorem own_astore (X : Stand p l e R s m args below meth c T locs cells slots) (hx : p.tables.exec = Jvm.exec) {k : Nat} {x : Value} (hd : decode c.code pc = .ok (.astore k, 2)) (hv : x.isRef = true) (hl : storeLocals Ls k x = some Ls')
    (g : Goes p e below FE n0 Q (T.setTop (mkF m (pc + 2) Ls' st))) : Goes p e below FE n0 Q (T.setTop (mkF m pc Ls (x :: st))) :=
  Goes.via (fun _ k => XS.astore X.here hx rfl hd rfl hv hl k) g
theorem own_iconst (X : Stand p l e R s m args below meth c T locs cells slots) (hx : p.tables.exec = Jvm.exec) {i : Int} {v : Int32} (hd : decode c.code pc = .ok (.iconst i, 1)) (hv : Int32.ofInt i = v)
    (g : Goes p e below FE n0 Q (T.setTop (mkF m (pc + 1) Ls (.int v :: st)))) : Goes p e below FE n0 Q (T.setTop (mkF m pc Ls st)) := by
  subst hv
  exact Goes.via (fun _ k => XS.iconst X.here hx rfl hd k) g
theorem own_bipush (X : Stand p l e R s m args below meth c T locs cells slots) (hx : p.tables.exec = Jvm.exec) {i : Int} {v : Int32} (hd : decode c.code pc = .ok (.bipush i, 2)) (hv : (Int8.ofInt i).toInt32 = v)
    (g : Goes p e below FE n0 Q (T.setTop (mkF m (pc + 2) Ls (.int v :: st)))) : Goes p e below FE n0 Q (T.setTop (mkF m pc Ls st)) := by
  subst hv
  exact Goes.via (fun _ k => XS.bipush X.here hx rfl hd k) g
theorem own_sipush (X : Stand p l e R s m args below meth c T locs cells slots) (hx : p.tables.exec = Jvm.exec) {i : Int} {v : Int32} (hd : decode c.code pc = .ok (.sipush i, 3)) (hv : (Int16.ofInt i).toInt32 = v)
    (g : Goes p e below FE n0 Q (T.setTop (mkF m (pc + 3) Ls (.int v :: st)))) : Goes p e below FE n0 Q (T.setTop (mkF m pc Ls st)) := by
  subst hv
  exact Goes.via (fun _ k => XS.sipush X.here hx rfl hd k) g
theorem own_lconst (X : Stand p l e R s m args below meth c T locs cells slots) (hx : p.tables.exec = Jvm.exec) {i : Fin 2} {v : Int64} (hd : decode c.code pc = .ok (.lconst i, 1)) (hv : Int64.ofNat i = v)
    (g : Goes p e below FE n0 Q (T.setTop (mkF m (pc + 1) Ls (.long v :: st)))) : Goes p e below FE n0 Q (T.setTop (mkF m pc Ls st)) := by
  subst hv
  exact Goes.via (fun _ k => XS.lconst X.here hx rfl hd k) g
theorem own_aconst_null (X : Stand p l e R s m args below meth c T locs cells slots) (hx : p.tables.exec = Jvm.exec)  (hd : decode c.code pc = .ok (.aconst_null, 1))
    (g : Goes p e below FE n0 Q (T.setTop (mkF m (pc + 1) Ls (.null :: st)))) : Goes p e below FE n0 Q (T.setTop (mkF m pc Ls st)) :=
  Goes.via (fun _ k => XS.aconstNull X.here hx rfl hd k) g
theorem own_iadd (X : Stand p l e R s m args below meth c T locs cells slots) (hx : p.tables.exec = Jvm.exec) {x y : Int32} (hd : decode c.code pc = .ok (.iadd, 1))
    (g : Goes p e below FE n0 Q (T.setTop (mkF m (pc + 1) Ls (.int (x + y) :: st)))) : Goes p e below FE n0 Q (T.setTop (mkF m pc Ls (.int y :: .int x :: st))) :=
  Goes.via (fun _ k => XS.iadd X.here hx rfl hd rfl k) g
theorem own_isub (X : Stand p l e R s m args below meth c T locs cells slots) (hx : p.tables.exec = Jvm.exec) {x y : Int32} (hd : decode c.code pc = .ok (.isub, 1))
    (g : Goes p e below FE n0 Q (T.setTop (mkF m (pc + 1) Ls (.int (x - y) :: st)))) : Goes p e below FE n0 Q (T.setTop (mkF m pc Ls (.int y :: .int x :: st))) :=
  Goes.via (fun _ k => XS.isub X.here hx rfl hd rfl k) g
theorem own_imul (X : Stand p l e R s m args below meth c T locs cells slots) (hx : p.tables.exec = Jvm.exec) {x y : Int32} (hd : decode c.code pc = .ok (.imul, 1))
    (g : Goes p e below FE n0 Q (T.setTop (mkF m (pc + 1) Ls (.int (x * y) :: st)))) : Goes p e below FE n0 Q (T.setTop (mkF m pc Ls (.int y :: .int x :: st))) :=
  Goes.via (fun _ k => XS.imul X.here hx rfl hd rfl k) g
theorem own_iand (X : Stand p l e R s m args below meth c T locs cells slots) (hx : p.tables.exec = Jvm.exec) {x y : Int32} (hd : decode c.code pc = .ok (.iand, 1))
    (g : Goes p e below FE n0 Q (T.setTop (mkF m (pc + 1) Ls (.int (x &&& y) :: st)))) : Goes p e below FE n0 Q (T.setTop (mkF m pc Ls (.int y :: .int x :: st))) :=
  Goes.via (fun _ k => XS.iand X.here hx rfl hd rfl k) g
theorem own_ior (X : Stand p l e R s m args below meth c T locs cells slots) (hx : p.tables.exec = Jvm.exec) {x y : Int32} (hd : decode c.code pc = .ok (.ior, 1))
    (g : Goes p e below FE n0 Q (T.setTop (mkF m (pc + 1) Ls (.int (x ||| y) :: st)))) : Goes p e below FE n0 Q (T.setTop (mkF m pc Ls (.int y :: .int x :: st))) :=
  Goes.via (fun _ k => XS.ior X.here hx rfl hd rfl k) g
theorem own_ixor (X : Stand p l e R s m args below meth c T locs cells slots) (hx : p.tables.exec = Jvm.exec) {x y : Int32} (hd : decode c.code pc = .ok (.ixor, 1))
    (g : Goes p e below FE n0 Q (T.setTop (mkF m (pc + 1) Ls (.int (x ^^^ y) :: st)))) : Goes p e below FE n0 Q (T.setTop (mkF m pc Ls (.int y :: .int x :: st))) :=
  Goes.via (fun _ k => XS.ixor X.here hx rfl hd rfl k) g
theorem own_idiv (X : Stand p l e R s m args below meth c T locs cells slots) (hx : p.tables.exec = Jvm.exec) {x y : Int32} (hd : decode c.code pc = .ok (.idiv, 1)) (hy : y ≠ 0)
    (g : Goes p e below FE n0 Q (T.setTop (mkF m (pc + 1) Ls (.int (x / y) :: st)))) : Goes p e below FE n0 Q (T.setTop (mkF m pc Ls (.int y :: .int x :: st))) :=
  Goes.via (fun _ k => XS.idiv X.here hx rfl hd rfl hy k) g
theorem own_ineg (X : Stand p l e R s m args below meth c T locs cells slots) (hx : p.tables.exec = Jvm.exec) {x : Int32} (hd : decode c.code pc = .ok (.ineg, 1))
    (g : Goes p e below FE n0 Q (T.setTop (mkF m (pc + 1) Ls (.int (-x) :: st)))) : Goes p e below FE n0 Q (T.setTop (mkF m pc Ls (.int x :: st))) :=
  Goes.via (fun _ k => XS.ineg X.here hx rfl hd rfl k) g
theorem own_ladd (X : Stand p l e R s m args below meth c T locs cells slots) (hx : p.tables.exec = Jvm.exec) {x y : Int64} (hd : decode c.code pc = .ok (.ladd, 1))
    (g : Goes p e below FE n0 Q (T.setTop (mkF m (pc + 1) Ls (.long (x + y) :: st)))) : Goes p e below FE n0 Q (T.setTop (mkF m pc Ls (.long y :: .long x :: st))) :=
  Goes.via (fun _ k => XS.ladd X.here hx rfl hd rfl k) g
theorem own_lsub (X : Stand p l e R s m args below meth c T locs cells slots) (hx : p.tables.exec = Jvm.exec) {x y : Int64} (hd : decode c.code pc = .ok (.lsub, 1))
    (g : Goes p e below FE n0 Q (T.setTop (mkF m (pc + 1) Ls (.long (x - y) :: st)))) : Goes p e below FE n0 Q (T.setTop (mkF m pc Ls (.long y :: .long x :: st))) :=
  Goes.via (fun _ k => XS.lsub X.here hx rfl hd rfl k) g
theorem own_lmul (X : Stand p l e R s m args below meth c T locs cells slots) (hx : p.tables.exec = Jvm.exec) {x y : Int64} (hd : decode c.code pc = .ok (.lmul, 1))
    (g : Goes p e below FE n0 Q (T.setTop (mkF m (pc + 1) Ls (.long (x * y) :: st)))) : Goes p e below FE n0 Q (T.setTop (mkF m pc Ls (.long y :: .long x :: st))) :=
  Goes.via (fun _ k => XS.lmul X.here hx rfl hd rfl k) g
theorem own_land (X : Stand p l e R s m args below meth c T locs cells slots) (hx : p.tables.exec = Jvm.exec) {x y : Int64} (hd : decode c.code pc = .ok (.land, 1))
    (g : Goes p e below FE n0 Q (T.setTop (mkF m (pc + 1) Ls (.long (x &&& y) :: st)))) : Goes p e below FE n0 Q (T.setTop (mkF m pc Ls (.long y :: .long x :: st))) :=
  Goes.via (fun _ k => XS.land X.here hx rfl hd rfl k) g
theorem own_lor (X : Stand p l e R s m args below meth c T locs cells slots) (hx : p.tables.exec = Jvm.exec) {x y : Int64} (hd : decode c.code pc = .ok (.lor, 1))
    (g : Goes p e below FE n0 Q (T.setTop (mkF m (pc + 1) Ls (.long (x ||| y) :: st)))) : Goes p e below FE n0 Q (T.setTop (mkF m pc Ls (.long y :: .long x :: st))) :=
  Goes.via (fun _ k => XS.lor X.here hx rfl hd rfl k) g
theorem own_lxor (X : Stand p l e R s m args below meth c T locs cells slots) (hx : p.tables.exec = Jvm.exec) {x y : Int64} (hd : decode c.code pc = .ok (.lxor, 1))
    (g : Goes p e below FE n0 Q (T.setTop (mkF m (pc + 1) Ls (.long (x ^^^ y) :: st)))) : Goes p e below FE n0 Q (T.setTop (mkF m pc Ls (.long y :: .long x :: st))) :=
  Goes.via (fun _ k => XS.lxor X.here hx rfl hd rfl k) g
theorem own_ldiv (X : Stand p l e R s m args below meth c T locs cells slots) (hx : p.tables.exec = Jvm.exec) {x y : Int64} (hd : decode c.code pc = .ok (.ldiv, 1)) (hy : y ≠ 0)
    (g : Goes p e below FE n0 Q (T.setTop (mkF m (pc + 1) Ls (.long (x / y) :: st)))) : Goes p e below FE n0 Q (T.setTop (mkF m pc Ls (.long y :: .long x :: st))) :=
  Goes.via (fun _ k => XS.ldiv X.here hx rfl hd rfl hy k) g
theorem own_lneg (X : Stand p l e R s m args below meth c T locs cells slots) (hx : p.tables.exec = Jvm.exec) {x : Int64} (hd : decode c.code pc = .ok (.lneg, 1))
    (g : Goes p e below FE n0 Q (T.setTop (mkF m (pc + 1) Ls (.long (-x) :: st)))) : Goes p e below FE n0 Q (T.setTop (mkF m pc Ls (.long x :: st))) :=
  Goes.via (fun _ k => XS.lneg X.here hx rfl hd rfl k) g
theorem own_irem (X : Stand p l e R s m args below meth c T locs cells slots) (hx : p.tables.exec = Jvm.exec) {x y : Int32} (hd : decode c.code pc = .ok (.irem, 1)) (hy : y ≠ 0)
    (g : Goes p e below FE n0 Q (T.setTop (mkF m (pc + 1) Ls (.int (x % y) :: st)))) : Goes p e below FE n0 Q (T.setTop (mkF m pc Ls (.int y :: .int x :: st))) :=
  Goes.via (fun _ k => iremM (g := mkF m pc Ls (.int y :: .int x :: st)) X hx rfl hd rfl hy k) g
theorem own_lrem (X : Stand p l e R s m args below meth c T locs cells slots) (hx : p.tables.exec = Jvm.exec) {x y : Int64} (hd : decode c.code pc = .ok (.lrem, 1)) (hy : y ≠ 0)
    (g : Goes p e below FE n0 Q (T.setTop (mkF m (pc + 1) Ls (.long (x % y) :: st)))) : Goes p e below FE n0 Q (T.setTop (mkF m pc Ls (.long y :: .long x :: st))) := by
  rw [← lrem_mod] at g
  exact Goes.via (fun _ k => XS.lrem X.here hx rfl hd rfl hy k) g
theorem own_ishl (X : Stand p l e R s m args below meth c T locs cells slots) (hx : p.tables.exec = Jvm.exec) {x y : Int32} (hd : decode c.code pc = .ok (.ishl, 1))
    (g : Goes p e below FE n0 Q (T.setTop (mkF m (pc + 1) Ls (.int (x <<< (y &&& 31)) :: st)))) : Goes p e below FE n0 Q (T.setTop (mkF m pc Ls (.int y :: .int x :: st))) :=
  Goes.via (fun _ k => XS.ishl X.here hx rfl hd rfl k) g
theorem own_ishr (X : Stand p l e R s m args below meth c T locs cells slots) (hx : p.tables.exec = Jvm.exec) {x y : Int32} (hd : decode c.code pc = .ok (.ishr, 1))
    (g : Goes p e below FE n0 Q (T.setTop (mkF m (pc + 1) Ls (.int (x >>> (y &&& 31)) :: st)))) : Goes p e below FE n0 Q (T.setTop (mkF m pc Ls (.int y :: .int x :: st))) :=
  Goes.via (fun _ k => XS.ishr X.here hx rfl hd rfl k) g
theorem own_iushr (X : Stand p l e R s m args below meth c T locs cells slots) (hx : p.tables.exec = Jvm.exec) {x y : Int32} (hd : decode c.code pc = .ok (.iushr, 1))
    (g : Goes p e below FE n0 Q (T.setTop (mkF m (pc + 1) Ls (.int ((x.toUInt32 >>> (y &&& 31).toUInt32).toInt32) :: st)))) : Goes p e below FE n0 Q (T.setTop (mkF m pc Ls (.int y :: .int x :: st))) :=
  Goes.via (fun _ k => XS.iushr X.here hx rfl hd rfl k) g
theorem own_lshl (X : Stand p l e R s m args below meth c T locs cells slots) (hx : p.tables.exec = Jvm.exec) {x : Int64} {y : Int32} (hd : decode c.code pc = .ok (.lshl, 1))
    (g : Goes p e below FE n0 Q (T.setTop (mkF m (pc + 1) Ls (.long (x <<< (y &&& 0x3f).toInt64) :: st)))) : Goes p e below FE n0 Q (T.setTop (mkF m pc Ls (.int y :: .long x :: st))) :=
  Goes.via (fun _ k => by jvm_step X.here [X.here.top, hx, hd]; first | exact k | simpa [mkF] using k) g
theorem own_lshr (X : Stand p l e R s m args below meth c T locs cells slots) (hx : p.tables.exec = Jvm.exec) {x : Int64} {y : Int32} (hd : decode c.code pc = .ok (.lshr, 1))
    (g : Goes p e below FE n0 Q (T.setTop (mkF m (pc + 1) Ls (.long (x >>> (y &&& 0x3f).toInt64) :: st)))) : Goes p e below FE n0 Q (T.setTop (mkF m pc Ls (.int y :: .long x :: st))) :=
  Goes.via (fun _ k => by jvm_step X.here [X.here.top, hx, hd]; first | exact k | simpa [mkF] using k) g
theorem own_lushr (X : Stand p l e R s m args below meth c T locs cells slots) (hx : p.tables.exec = Jvm.exec) {x : Int64} {y : Int32} (hd : decode c.code pc = .ok (.lushr, 1))
    (g : Goes p e below FE n0 Q (T.setTop (mkF m (pc + 1) Ls (.long ((x.toUInt64 >>> (y &&& 0x3f).toInt64.toUInt64).toInt64) :: st)))) : Goes p e below FE n0 Q (T.setTop (mkF m pc Ls (.int y :: .long x :: st))) :=
  Goes.via (fun _ k => by jvm_step X.here [X.here.top, hx, hd]; first | exact k | simpa [mkF] using k) g
theorem own_i2l (X : Stand p l e R s m args below meth c T locs cells slots) (hx : p.tables.exec = Jvm.exec) {x : Int32} (hd : decode c.code pc = .ok (.i2l, 1))
    (g : Goes p e below FE n0 Q (T.setTop (mkF m (pc + 1) Ls (.long (x.toInt64) :: st)))) : Goes p e below FE n0 Q (T.setTop (mkF m pc Ls (.int x :: st))) :=
  Goes.via (fun _ k => XS.i2l X.here hx rfl hd rfl k) g
theorem own_l2i (X : Stand p l e R s m args below meth c T locs cells slots) (hx : p.tables.exec = Jvm.exec) {x : Int64} (hd : decode c.code pc = .ok (.l2i, 1))
    (g : Goes p e below FE n0 Q (T.setTop (mkF m (pc + 1) Ls (.int (x.toInt32) :: st)))) : Goes p e below FE n0 Q (T.setTop (mkF m pc Ls (.long x :: st))) :=
  Goes.via (fun _ k => XS.l2i X.here hx rfl hd rfl k) g
theorem own_i2b (X : Stand p l e R s m args below meth c T locs cells slots) (hx : p.tables.exec = Jvm.exec) {x : Int32} (hd : decode c.code pc = .ok (.i2b, 1))
    (g : Goes p e below FE n0 Q (T.setTop (mkF m (pc + 1) Ls (.int (x.toInt8.toInt32) :: st)))) : Goes p e below FE n0 Q (T.setTop (mkF m pc Ls (.int x :: st))) :=
  Goes.via (fun _ k => XS.i2b X.here hx rfl hd rfl k) g
theorem own_i2s (X : Stand p l e R s m args below meth c T locs cells slots) (hx : p.tables.exec = Jvm.exec) {x : Int32} (hd : decode c.code pc = .ok (.i2s, 1))
    (g : Goes p e below FE n0 Q (T.setTop (mkF m (pc + 1) Ls (.int (x.toInt16.toInt32) :: st)))) : Goes p e below FE n0 Q (T.setTop (mkF m pc Ls (.int x :: st))) :=
  Goes.via (fun _ k => XS.i2s X.here hx rfl hd rfl k) g
theorem own_i2c (X : Stand p l e R s m args below meth c T locs cells slots) (hx : p.tables.exec = Jvm.exec) {x : Int32} (hd : decode c.code pc = .ok (.i2c, 1))
    (g : Goes p e below FE n0 Q (T.setTop (mkF m (pc + 1) Ls (.int (x.toUInt32.toUInt16.toUInt32.toInt32) :: st)))) : Goes p e below FE n0 Q (T.setTop (mkF m pc Ls (.int x :: st))) :=
  Goes.via (fun _ k => XS.i2c X.here hx rfl hd rfl k) g
theorem own_lcmp (X : Stand p l e R s m args below meth c T locs cells slots) (hx : p.tables.exec = Jvm.exec) {x y : Int64} (hd : decode c.code pc = .ok (.lcmp, 1))
    (g : Goes p e below FE n0 Q (T.setTop (mkF m (pc + 1) Ls (.int (lcmpW x y) :: st)))) : Goes p e below FE n0 Q (T.setTop (mkF m pc Ls (.long y :: .long x :: st))) :=
  Goes.via (fun _ k => XS.lcmp X.here hx rfl hd rfl k) g
theorem own_dup (X : Stand p l e R s m args below meth c T locs cells slots) (hx : p.tables.exec = Jvm.exec) {x : Value} (hd : decode c.code pc = .ok (.dup, 1)) (hc : x.category = 1)
    (g : Goes p e below FE n0 Q (T.setTop (mkF m (pc + 1) Ls (x :: x :: st)))) : Goes p e below FE n0 Q (T.setTop (mkF m pc Ls (x :: st))) :=
  Goes.via (fun _ k => XS.dup X.here hx rfl hd rfl hc k) g
theorem own_pop (X : Stand p l e R s m args below meth c T locs cells slots) (hx : p.tables.exec = Jvm.exec) {x : Value} (hd : decode c.code pc = .ok (.pop, 1)) (hc : x.category = 1)
    (g : Goes p e below FE n0 Q (T.setTop (mkF m (pc + 1) Ls st))) : Goes p e below FE n0 Q (T.setTop (mkF m pc Ls (x :: st))) :=
  Goes.via (fun _ k => XS.pop X.here hx rfl hd rfl hc k) g
theorem own_dup_x1 (X : Stand p l e R s m args below meth c T locs cells slots) (hx : p.tables.exec = Jvm.exec) {x y : Value} (hd : decode c.code pc = .ok (.dup_x1, 1)) (hc : x.category = 1) (hc' : y.category = 1)
    (g : Goes p e below FE n0 Q (T.setTop (mkF m (pc + 1) Ls (x :: y :: x :: st)))) : Goes p e below FE n0 Q (T.setTop (mkF m pc Ls (x :: y :: st))) :=
  Goes.via (fun _ k => XS.dupX1 X.here hx rfl hd rfl hc hc' k) g
theorem own_dup2 (X : Stand p l e R s m args below meth c T locs cells slots) (hx : p.tables.exec = Jvm.exec) {x y : Value} (hd : decode c.code pc = .ok (.dup2, 1)) (hc : x.category = 1) (hc' : y.category = 1)
    (g : Goes p e below FE n0 Q (T.setTop (mkF m (pc + 1) Ls (x :: y :: x :: y :: st)))) : Goes p e below FE n0 Q (T.setTop (mkF m pc Ls (x :: y :: st))) :=
  Goes.via (fun _ k => Jvm.Free.XT.dup2 X.here hx rfl hd rfl hc hc' k) g
theorem own_iinc (X : Stand p l e R s m args below meth c T locs cells slots) (hx : p.tables.exec = Jvm.exec) {k : Nat} {cst : Int} {x : Int32} (hd : decode c.code pc = .ok (.iinc k cst, 3)) (hl : Ls[k]? = some (.val (.int x))) (hl' : storeLocals Ls k (.int (x + Int32.ofInt cst)) = some Ls')
    (g : Goes p e below FE n0 Q (T.setTop (mkF m (pc + 3) Ls' st))) : Goes p e below FE n0 Q (T.setTop (mkF m pc Ls st)) :=
  Goes.via (fun _ k => XS.iinc X.here hx rfl hd hl hl' k) g
theorem own_goto (X : Stand p l e R s m args below meth c T locs cells slots) (hx : p.tables.exec = Jvm.exec) {o : Int} (hd : decode c.code pc = .ok (.goto o, 3)) (ho : 0 ≤ (pc : Int) + o) (hp : ((pc : Int) + o).toNat = pc')
    (g : Goes p e below FE n0 Q (T.setTop (mkF m pc' Ls st))) : Goes p e below FE n0 Q (T.setTop (mkF m pc Ls st)) :=
  Goes.via (fun _ k => XS.goto X.here hx rfl rfl hd ho hp k) g
theorem own_ifYes (X : Stand p l e R s m args below meth c T locs cells slots) (hx : p.tables.exec = Jvm.exec) {cd : ClassFile.Cond} {o : Int} {x : Int32} (hd : decode c.code pc = .ok (.ifCond cd o, 3)) (hc : ifCond.holds cd x = true) (ho : 0 ≤ (pc : Int) + o) (hp : ((pc : Int) + o).toNat = pc')
    (g : Goes p e below FE n0 Q (T.setTop (mkF m pc' Ls st))) : Goes p e below FE n0 Q (T.setTop (mkF m pc Ls (.int x :: st))) :=
  Goes.via (fun _ k => XS.ifYes X.here hx rfl rfl hd rfl hc ho hp k) g
theorem own_ifNo (X : Stand p l e R s m args below meth c T locs cells slots) (hx : p.tables.exec = Jvm.exec) {cd : ClassFile.Cond} {o : Int} {x : Int32} (hd : decode c.code pc = .ok (.ifCond cd o, 3)) (hc : ifCond.holds cd x = false)
    (g : Goes p e below FE n0 Q (T.setTop (mkF m (pc + 3) Ls st))) : Goes p e below FE n0 Q (T.setTop (mkF m pc Ls (.int x :: st))) :=
  Goes.via (fun _ k => XS.ifNo X.here hx rfl hd rfl hc k) g
theorem own_icmpYes (X : Stand p l e R s m args below meth c T locs cells slots) (hx : p.tables.exec = Jvm.exec) {cd : ClassFile.Cond} {o : Int} {x y : Int32} (hd : decode c.code pc = .ok (.if_icmp cd o, 3)) (hc : if_icmp.holds cd x y = true) (ho : 0 ≤ (pc : Int) + o) (hp : ((pc : Int) + o).toNat = pc')
    (g : Goes p e below FE n0 Q (T.setTop (mkF m pc' Ls st))) : Goes p e below FE n0 Q (T.setTop (mkF m pc Ls (.int y :: .int x :: st))) :=
  Goes.via (fun _ k => XS.icmpYes X.here hx rfl rfl hd rfl hc ho hp k) g
theorem own_icmpNo (X : Stand p l e R s m args below meth c T locs cells slots) (hx : p.tables.exec = Jvm.exec) {cd : ClassFile.Cond} {o : Int} {x y : Int32} (hd : decode c.code pc = .ok (.if_icmp cd o, 3)) (hc : if_icmp.holds cd x y = false)
    (g : Goes p e below FE n0 Q (T.setTop (mkF m (pc + 3) Ls st))) : Goes p e below FE n0 Q (T.setTop (mkF m pc Ls (.int y :: .int x :: st))) :=
  Goes.via (fun _ k => XS.icmpNo X.here hx rfl hd rfl hc k) g
theorem own_ifnullYes (X : Stand p l e R s m args below meth c T locs cells slots) (hx : p.tables.exec = Jvm.exec) {o : Int} (hd : decode c.code pc = .ok (.ifnull o, 3)) (ho : 0 ≤ (pc : Int) + o) (hp : ((pc : Int) + o).toNat = pc')
    (g : Goes p e below FE n0 Q (T.setTop (mkF m pc' Ls st))) : Goes p e below FE n0 Q (T.setTop (mkF m pc Ls (.null :: st))) :=
  Goes.via (fun _ k => XS.ifnullYes X.here hx rfl rfl hd rfl ho hp k) g
theorem own_ifnullNo (X : Stand p l e R s m args below meth c T locs cells slots) (hx : p.tables.exec = Jvm.exec) {o : Int} {b : Addr} (hd : decode c.code pc = .ok (.ifnull o, 3))
    (g : Goes p e below FE n0 Q (T.setTop (mkF m (pc + 3) Ls st))) : Goes p e below FE n0 Q (T.setTop (mkF m pc Ls (.ref b :: st))) :=
  Goes.via (fun _ k => XS.ifnullNo X.here hx rfl hd rfl k) g
theorem own_ifnonnullYes (X : Stand p l e R s m args below meth c T locs cells slots) (hx : p.tables.exec = Jvm.exec) {o : Int} {b : Addr} (hd : decode c.code pc = .ok (.ifnonnull o, 3)) (ho : 0 ≤ (pc : Int) + o) (hp : ((pc : Int) + o).toNat = pc')
    (g : Goes p e below FE n0 Q (T.setTop (mkF m pc' Ls st))) : Goes p e below FE n0 Q (T.setTop (mkF m pc Ls (.ref b :: st))) :=
  Goes.via (fun _ k => XS.ifnonnullYes X.here hx rfl rfl hd rfl ho hp k) g
theorem own_ifnonnullNo (X : Stand p l e R s m args below meth c T locs cells slots) (hx : p.tables.exec = Jvm.exec) {o : Int} (hd : decode c.code pc = .ok (.ifnonnull o, 3))
    (g : Goes p e below FE n0 Q (T.setTop (mkF m (pc + 3) Ls st))) : Goes p e below FE n0 Q (T.setTop (mkF m pc Ls (.null :: st))) :=
  Goes.via (fun _ k => XS.ifnonnullNo X.here hx rfl hd rfl k) g
theorem own_acmp (X : Stand p l e R s m args below meth c T locs cells slots) (hx : p.tables.exec = Jvm.exec) {cd : ACond} {x y : Value} {o : Int} {same : Bool} (h1 : x.isRef = true) (h2 : y.isRef = true) (hd : decode c.code pc = .ok (.if_acmp cd o, 3)) (hq : decide (x = y) = same) (ho : 0 ≤ (pc : Int) + o) (hp : pc' = if acV cd same = true then ((pc : Int) + o).toNat else pc + 3)
    (g : Goes p e below FE n0 Q (T.setTop (mkF m pc' Ls st))) : Goes p e below FE n0 Q (T.setTop (mkF m pc Ls (y :: x :: st))) :=
  Goes.via (fun _ k => Jvm.RoadKit.acmp (g := mkF m pc Ls (y :: x :: st)) X hx rfl h1 h2 rfl hd rfl hq ho hp k) g
theorem own_tswIn (X : Stand p l e R s m args below meth c T locs cells slots) (hx : p.tables.exec = Jvm.exec) {dflt low high : Int} {offs : Array Int} {len : Nat} {o : Int} {i : Int32} (hd : decode c.code pc = .ok (.tableswitch dflt low high offs, len)) (hin : ¬ (i.toInt < low ∨ i.toInt > high)) (hoff : offs[(i.toInt - low).toNat]? = some o) (ho : 0 ≤ (pc : Int) + o) (hp : ((pc : Int) + o).toNat = pc')
    (g : Goes p e below FE n0 Q (T.setTop (mkF m pc' Ls st))) : Goes p e below FE n0 Q (T.setTop (mkF m pc Ls (.int i :: st))) :=
  Goes.via (fun _ k => XS.tswIn X.here hx rfl rfl hd rfl hin hoff ho hp k) g
theorem own_tswOut (X : Stand p l e R s m args below meth c T locs cells slots) (hx : p.tables.exec = Jvm.exec) {dflt low high : Int} {offs : Array Int} {len : Nat} {i : Int32} (hd : decode c.code pc = .ok (.tableswitch dflt low high offs, len)) (hout : i.toInt < low ∨ i.toInt > high) (ho : 0 ≤ (pc : Int) + dflt) (hp : ((pc : Int) + dflt).toNat = pc')
    (g : Goes p e below FE n0 Q (T.setTop (mkF m pc' Ls st))) : Goes p e below FE n0 Q (T.setTop (mkF m pc Ls (.int i :: st))) :=
  Goes.via (fun _ k => XS.tswOut X.here hx rfl rfl hd rfl hout ho hp k) g
theorem own_ldcInt (X : Stand p l e R s m args below meth c T locs cells slots) (hx : p.tables.exec = Jvm.exec) (hZ : Z.Warmed39 s.vm) {own : String} {index : Nat} (hown : s.vm.findClass own = some m.cls) {v : Int32} (w : (Jvm.Cond.constant own index v).before a0 Z = true) (hd : decode c.code pc = .ok (.ldc index, 2))
    (g : Goes p e below FE n0 Q (T.setTop (mkF m (pc + 2) Ls (.int v :: st)))) : Goes p e below FE n0 Q (T.setTop (mkF m pc Ls st)) :=
  Goes.via (X.ldcInt hx hown (mvT hZ w) (g := mkF m pc Ls st) rfl hd) g
theorem own_ldcwInt (X : Stand p l e R s m args below meth c T locs cells slots) (hx : p.tables.exec = Jvm.exec) (hZ : Z.Warmed39 s.vm) {own : String} {index : Nat} (hown : s.vm.findClass own = some m.cls) {v : Int32} (w : (Jvm.Cond.constant own index v).before a0 Z = true) (hd : decode c.code pc = .ok (.ldc_w index, 3))
    (g : Goes p e below FE n0 Q (T.setTop (mkF m (pc + 3) Ls (.int v :: st)))) : Goes p e below FE n0 Q (T.setTop (mkF m pc Ls st)) :=
  Goes.via (X.ldcwInt hx hown (mvT hZ w) (g := mkF m pc Ls st) rfl hd) g
theorem own_ldc2Long (X : Stand p l e R s m args below meth c T locs cells slots) (hx : p.tables.exec = Jvm.exec) (hZ : Z.Warmed39 s.vm) {own : String} {index : Nat} (hown : s.vm.findClass own = some m.cls) {v : Int64} (w : (Jvm.Cond.constantLong own index v).before a0 Z = true) (hd : decode c.code pc = .ok (.ldc2_w index, 3))
    (g : Goes p e below FE n0 Q (T.setTop (mkF m (pc + 3) Ls (.long v :: st)))) : Goes p e below FE n0 Q (T.setTop (mkF m pc Ls st)) :=
  Goes.via (X.ldc2Long hx hown (mvT hZ w) (g := mkF m pc Ls st) rfl hd) g
theorem own_getF (X : Stand p l e R s m args below meth c T locs cells slots) (hx : p.tables.exec = Jvm.exec) (hZ : Z.Warmed39 s.vm) {own : String} {index : Nat} (hown : s.vm.findClass own = some m.cls) {R0 O n d host : String} (w : ((Jvm.Cond.fieldLink own index R0 n d).before a0 Z = true ∨ (Jvm.Cond.fieldLinkNest own index R0 n d host).before a0 Z = true)) (via : Via Z R0 O n d) (eT : T.heap = h) {a : Addr} {v : Value} (F : Fld Z h a O n d v) (hd : decode c.code pc = .ok (.getfield index, 3))
    (k : ∀ T', Stand p l e R s m args below meth c T' locs cells slots → T'.heap = h → Goes p e below FE n0 Q (T'.setTop (mkF m (pc + 3) Ls (v :: st)))) : Goes p e below FE n0 Q (T.setTop (mkF m pc Ls (.ref a :: st))) := by
  obtain ⟨T', X', e', st'⟩ := getF X hx hZ hown w via eT F (g := mkF m pc Ls (.ref a :: st)) rfl rfl hd
  exact Goes.via st' (k T' X' e')
theorem own_getS (X : Stand p l e R s m args below meth c T locs cells slots) (hx : p.tables.exec = Jvm.exec) (hZ : Z.Warmed39 s.vm) {own : String} {index : Nat} (hown : s.vm.findClass own = some m.cls) {R0 O n d host : String} (w : ((Jvm.Cond.fieldLink own index R0 n d).before a0 Z = true ∨ (Jvm.Cond.fieldLinkNest own index R0 n d host).before a0 Z = true)) (via : Via Z R0 O n d) (eT : T.heap = h) {v : Value} (F : Sta Z h O n d v) (hd : decode c.code pc = .ok (.getstatic index, 3))
    (k : ∀ T', Stand p l e R s m args below meth c T' locs cells slots → T'.heap = h → Goes p e below FE n0 Q (T'.setTop (mkF m (pc + 3) Ls (v :: st)))) : Goes p e below FE n0 Q (T.setTop (mkF m pc Ls st)) := by
  obtain ⟨T', X', e', st'⟩ := getS2 X hx hZ hown w via eT F (g := mkF m pc Ls st) rfl hd
  exact Goes.via st' (k T' X' e')
theorem own_initO (X : Stand p l e R s m args below meth c T locs cells slots) (hx : p.tables.exec = Jvm.exec) (hZ : Z.Warmed39 s.vm) {own : String} {index : Nat} (hown : s.vm.findClass own = some m.cls) (w1 : (Jvm.Cond.methodLink own index Lib.objectInit).before a0 Z = true) (w2 : (Jvm.Cond.instanceMethod Lib.objectInit).before a0 Z = true) (w3 : (Jvm.Cond.code Lib.objectInit ⟨#[0xb1]⟩ 1 none).before a0 Z = true) (eT : T.heap = h) (hsize : Ls.size = c.maxLocals) {a : Addr} (hd : decode c.code pc = .ok (.invokespecial index, 3)) (hf : 1 ≤ R.frames) {W : Nat} (hW : (st.map fun v => v.category).sum ≤ W) (hl : W + 12 ≤ R.locals)
    (k : ∀ T', Stand p l e R s m args below meth c T' locs cells slots → T'.heap = h → Goes p e below FE n0 Q (T'.setTop (mkF m (pc + 3) Ls st))) : Goes p e below FE n0 Q (T.setTop (mkF m pc Ls (.ref a :: st))) := by
  obtain ⟨T', X', e', st'⟩ := initO X hx hZ hown w1 w2 w3 eT (g := mkF m pc Ls (.ref a :: st)) rfl hsize rfl hd hf (W := W) (by show 2 * 0 + _ ≤ _; omega) hl
  exact Goes.via st' (k T' X' e')
theorem own_new (X : Stand p l e R s m args below meth c T locs cells slots) (hx : p.tables.exec = Jvm.exec) (hZ : Z.Warmed39 s.vm) {own : String} {index : Nat} (hown : s.vm.findClass own = some m.cls) {C : String} {nn : Nat} (w : (Jvm.Cond.classLink own index C).before a0 Z = true) (wi : (Jvm.Cond.instantiable C nn).before a0 Z = true) (wz : (Jvm.Cond.initialized C).before a0 Z = true) (eT : T.heap = h) (hd : decode c.code pc = .ok (.new index, 3)) (hc : cells + 1 ≤ R.cells) (hl : slots + nn ≤ R.slots)
    (k : ∀ T' h' b, b = h.size → Stand p l e R s m args below meth c T' locs (cells + 1) (slots + nn) → T'.heap = h' → Ext h h' → Exa Z h' b C → (∀ {O nm d : String} {ty : FieldType}, Laid Z a0 C O nm d → parseFieldDescriptor d = some ty → Fld Z h' b O nm d (defaultValue ty)) → Goes p e below FE n0 Q (T'.setTop (mkF m (pc + 3) Ls (.ref b :: st)))) : Goes p e below FE n0 Q (T.setTop (mkF m pc Ls st)) := by
  obtain ⟨T', h', X', e', E', A', D', -, st'⟩ := newO X hx hZ hown w wi wz eT (g := mkF m pc Ls st) rfl hd hc hl
  exact Goes.via st' (k T' h' _ rfl X' e' E' A' D')
theorem own_putF (X : Stand p l e R s m args below meth c T locs cells slots) (hx : p.tables.exec = Jvm.exec) (hZ : Z.Warmed39 s.vm) {own : String} {index : Nat} (hown : s.vm.findClass own = some m.cls) {R0 O n d host C : String} {kk : Nat} {ty : FieldType} (N : Fr n0 locs) (w : ((Jvm.Cond.fieldLink own index R0 n d).before a0 Z = true ∨ (Jvm.Cond.fieldLinkNest own index R0 n d host).before a0 Z = true)) (via : Via Z R0 O n d) (eT : T.heap = h) {a : Addr} {v old : Value} (F : Fld Z h a O n d old) (E : Exa Z h a C) (L : (Jvm.Cond.lays C O n d).before a0 Z = true ∨ ((Jvm.Cond.laysFinal C O n d).before a0 Z = true ∧ own = O ∧ meth.name = "<init>")) (wi : (Jvm.Cond.instantiable C kk).before a0 Z = true) (hty : parseFieldDescriptor d = some ty) (hn : narrow ty v = v) (hf : fits ty v = true) (hge : n0 ≤ a) (hd : decode c.code pc = .ok (.putfield index, 3))
    (k : ∀ T' h' locs', Stand p l e R s m args below meth c T' locs' cells slots → T'.heap = h' → Fr n0 locs' → Wr h h' a (RoadKit.slotOf Z O n d) v → Goes p e below FE n0 Q (T'.setTop (mkF m (pc + 3) Ls st))) : Goes p e below FE n0 Q (T.setTop (mkF m pc Ls (v :: .ref a :: st))) := by
  obtain ⟨T', h', X', e', W', st'⟩ := putF X hx hZ hown w via eT F E L wi hty hn hf (g := mkF m pc Ls (v :: .ref a :: st)) rfl rfl hd
  exact Goes.via st' (k T' h' _ X' e' (Fr.snoc X' N hge) W')
theorem own_castY (X : Stand p l e R s m args below meth c T locs cells slots) (hx : p.tables.exec = Jvm.exec) (hZ : Z.Warmed39 s.vm) {own : String} {index : Nat} (hown : s.vm.findClass own = some m.cls) {K : String} (w : (Jvm.Cond.classLink own index K).before a0 Z = true) (eT : T.heap = h) {a : Addr} (F : Ins Z h a K true) (hd : decode c.code pc = .ok (.checkcast index, 3))
    (k : ∀ T', Stand p l e R s m args below meth c T' locs cells slots → T'.heap = h → Goes p e below FE n0 Q (T'.setTop (mkF m (pc + 3) Ls (.ref a :: st)))) : Goes p e below FE n0 Q (T.setTop (mkF m pc Ls (.ref a :: st))) := by
  obtain ⟨T', X', e', st'⟩ := castY X hx hZ hown w eT F (g := mkF m pc Ls (.ref a :: st)) rfl rfl hd
  exact Goes.via st' (k T' X' e')
theorem own_castNull (X : Stand p l e R s m args below meth c T locs cells slots) (hx : p.tables.exec = Jvm.exec) {index : Nat} (hd : decode c.code pc = .ok (.checkcast index, 3))
    (g : Goes p e below FE n0 Q (T.setTop (mkF m (pc + 3) Ls (.null :: st)))) : Goes p e below FE n0 Q (T.setTop (mkF m pc Ls (.null :: st))) :=
  Goes.via (X.checkcastNull hx (g := mkF m pc Ls (.null :: st)) rfl rfl hd) g
theorem own_instNull (X : Stand p l e R s m args below meth c T locs cells slots) (hx : p.tables.exec = Jvm.exec) {index : Nat} (hd : decode c.code pc = .ok (.instanceof index, 3))
    (g : Goes p e below FE n0 Q (T.setTop (mkF m (pc + 3) Ls (.int 0 :: st)))) : Goes p e below FE n0 Q (T.setTop (mkF m pc Ls (.null :: st))) :=
  Goes.via (X.instanceofNull hx (g := mkF m pc Ls (.null :: st)) rfl rfl hd) g
theorem own_instY (X : Stand p l e R s m args below meth c T locs cells slots) (hx : p.tables.exec = Jvm.exec) (hZ : Z.Warmed39 s.vm) {own : String} {index : Nat} (hown : s.vm.findClass own = some m.cls) {K : String} (w : (Jvm.Cond.classLink own index K).before a0 Z = true) (eT : T.heap = h) {a : Addr} (F : Ins Z h a K true) (hd : decode c.code pc = .ok (.instanceof index, 3))
    (k : ∀ T', Stand p l e R s m args below meth c T' locs cells slots → T'.heap = h → Goes p e below FE n0 Q (T'.setTop (mkF m (pc + 3) Ls (.int 1 :: st)))) : Goes p e below FE n0 Q (T.setTop (mkF m pc Ls (.ref a :: st))) := by
  obtain ⟨T', X', e', st'⟩ := instY X hx hZ hown w eT F (g := mkF m pc Ls (.ref a :: st)) rfl rfl hd
  exact Goes.via st' (k T' X' e')
theorem own_instN (X : Stand p l e R s m args below meth c T locs cells slots) (hx : p.tables.exec = Jvm.exec) (hZ : Z.Warmed39 s.vm) {own : String} {index : Nat} (hown : s.vm.findClass own = some m.cls) {K C : String} (w : (Jvm.Cond.classLink own index K).before a0 Z = true) (eT : T.heap = h) {a : Addr} (E : Exa Z h a C) (F : ∃ c t, Z.vm.findClass C = some c ∧ Z.vm.findClass K = some t ∧ Z.vm.assignable c t = false) (hd : decode c.code pc = .ok (.instanceof index, 3))
    (k : ∀ T', Stand p l e R s m args below meth c T' locs cells slots → T'.heap = h → Goes p e below FE n0 Q (T'.setTop (mkF m (pc + 3) Ls (.int 0 :: st)))) : Goes p e below FE n0 Q (T.setTop (mkF m pc Ls (.ref a :: st))) := by
  obtain ⟨T', X', e', st'⟩ := instNo X hx hZ hown w eT E F (g := mkF m pc Ls (.ref a :: st)) rfl rfl hd
  exact Goes.via st' (k T' X' e')
theorem own_lsw (X : Stand p l e R s m args below meth c T locs cells slots) (hx : p.tables.exec = Jvm.exec) {dflt : Int} {prs : Array (Int × Int)} {len : Nat} {o kk : Int} {i : Int32} (hd : decode c.code pc = .ok (.lookupswitch dflt prs, len)) (hso : (prs.toList.zip (prs.toList.drop 1)).all (fun (a, next) => a.1 < next.1) = true) (hf : prs.find? (·.1 == i.toInt) = some (kk, o)) (ho : 0 ≤ (pc : Int) + o) (hp : ((pc : Int) + o).toNat = pc')
    (g : Goes p e below FE n0 Q (T.setTop (mkF m pc' Ls st))) : Goes p e below FE n0 Q (T.setTop (mkF m pc Ls (.int i :: st))) := by
  subst hp
  exact Goes.via (X.lookupswitchHit hx (g := mkF m pc Ls (.int i :: st)) rfl rfl hd hso hf ho) g
theorem own_clone (X : Stand p l e R s m args below meth c T locs cells slots) (hx : p.tables.exec = Jvm.exec) (hZ : Z.Warmed39 s.vm) {own : String} {index : Nat} (hown : s.vm.findClass own = some m.cls) {ad : String} (w1 : (Jvm.Cond.methodLink own index ⟨ad, "clone", "()Ljava/lang/Object;"⟩).before a0 Z = true) (w2 : (Jvm.Cond.sameMethod ad "java/lang/Object" "clone" "()Ljava/lang/Object;").before a0 Z = true) (w3 : (Jvm.Cond.native ⟨"java/lang/Object", "clone", "()Ljava/lang/Object;"⟩).before a0 Z = true) (w4 : (Jvm.Cond.instanceMethod ⟨"java/lang/Object", "clone", "()Ljava/lang/Object;"⟩).before a0 Z = true) (w5 : (Jvm.Cond.selects ad ⟨ad, "clone", "()Ljava/lang/Object;"⟩ ⟨"java/lang/Object", "clone", "()Ljava/lang/Object;"⟩).before a0 Z = true) (w6 : (Jvm.Cond.castable ad "java/lang/Cloneable").before a0 Z = true) (eT : T.heap = h) {a : Addr} {k : ClassId} {ty : FieldType} {z : Int32} {vs : List Value} {dv : Value} (F : Arv Z h a k ty z vs dv) (E : Exa Z h a ad) (hsize : Ls.size = c.maxLocals) (hd : decode c.code pc = .ok (.invokevirtual index, 3)) (hf : 1 ≤ R.frames) {W cap : Nat} (hW : (st.map fun v => v.category).sum ≤ W) (hl : W + 14 ≤ R.locals) (hcap : z.toNatClampNeg ≤ cap) (hc : cells + 1 ≤ R.cells) (hsl : slots + cap ≤ R.slots)
    (k : ∀ T' h' b, b = h.size → Stand p l e R s m args below meth c T' locs (cells + 1) (slots + cap) → T'.heap = h' → Ext h h' → Arv Z h' b k ty z vs dv → Exa Z h' b ad → Goes p e below FE n0 Q (T'.setTop (mkF m (pc + 3) Ls (.ref b :: st)))) : Goes p e below FE n0 Q (T.setTop (mkF m pc Ls (.ref a :: st))) := by
  obtain ⟨T', h', X', e', E', A', Ex', st'⟩ := cloneH X hx hZ hown w1 w2 w3 w4 w5 w6 eT F.arh E (g := mkF m pc Ls (.ref a :: st)) rfl hsize rfl hd hf (W := W) (cap := cap) (by show 2 * 0 + _ ≤ _; omega) hl hcap hc hsl
  exact Goes.via st' (k T' h' _ rfl X' e' E' A' Ex')
theorem own_iaload (X : Stand p l e R s m args below meth c T locs cells slots) (hx : p.tables.exec = Jvm.exec) (hZ : Z.Warmed39 s.vm) (eT : T.heap = h) {a : Addr} {k : ClassId} {z j : Int32} {vs : List Value} {dv v : Value} (F : Arv Z h a k .int z vs dv) (hj : ¬ j < 0 ∧ j < z) (hv : vs.getD j.toNatClampNeg dv = v) (hd : decode c.code pc = .ok (.iaload, 1))
    (g : Goes p e below FE n0 Q (T.setTop (mkF m (pc + 1) Ls (v :: st)))) : Goes p e below FE n0 Q (T.setTop (mkF m pc Ls (.int j :: .ref a :: st))) := by
  obtain ⟨cl, A, -, S, -, H, -⟩ := F
  exact Goes.via (fun t k => X.iaload hx (j := j) (v := v) (by rw [eT]; exact A.1) (State.isArrayOf_alike hZ.alike A.2.1) A.2.2 (inb_of S hj) (H.at (inb_of S hj) hv) (g := mkF m pc Ls (.int j :: .ref a :: st)) rfl rfl hd t k) g
theorem own_laload (X : Stand p l e R s m args below meth c T locs cells slots) (hx : p.tables.exec = Jvm.exec) (hZ : Z.Warmed39 s.vm) (eT : T.heap = h) {a : Addr} {k : ClassId} {z j : Int32} {vs : List Value} {dv v : Value} (F : Arv Z h a k .long z vs dv) (hj : ¬ j < 0 ∧ j < z) (hv : vs.getD j.toNatClampNeg dv = v) (hd : decode c.code pc = .ok (.laload, 1))
    (g : Goes p e below FE n0 Q (T.setTop (mkF m (pc + 1) Ls (v :: st)))) : Goes p e below FE n0 Q (T.setTop (mkF m pc Ls (.int j :: .ref a :: st))) := by
  obtain ⟨cl, A, -, S, -, H, -⟩ := F
  exact Goes.via (fun t k => X.laload hx (j := j) (v := v) (by rw [eT]; exact A.1) (State.isArrayOf_alike hZ.alike A.2.1) A.2.2 (inb_of S hj) (H.at (inb_of S hj) hv) (g := mkF m pc Ls (.int j :: .ref a :: st)) rfl rfl hd t k) g
theorem own_caload (X : Stand p l e R s m args below meth c T locs cells slots) (hx : p.tables.exec = Jvm.exec) (hZ : Z.Warmed39 s.vm) (eT : T.heap = h) {a : Addr} {k : ClassId} {z j : Int32} {vs : List Value} {dv v : Value} (F : Arv Z h a k .char z vs dv) (hj : ¬ j < 0 ∧ j < z) (hv : vs.getD j.toNatClampNeg dv = v) (hd : decode c.code pc = .ok (.caload, 1))
    (g : Goes p e below FE n0 Q (T.setTop (mkF m (pc + 1) Ls (v :: st)))) : Goes p e below FE n0 Q (T.setTop (mkF m pc Ls (.int j :: .ref a :: st))) := by
  obtain ⟨cl, A, -, S, -, H, -⟩ := F
  exact Goes.via (fun t k => X.caload hx (j := j) (v := v) (by rw [eT]; exact A.1) (State.isArrayOf_alike hZ.alike A.2.1) A.2.2 (inb_of S hj) (H.at (inb_of S hj) hv) (g := mkF m pc Ls (.int j :: .ref a :: st)) rfl rfl hd t k) g
theorem own_baload (X : Stand p l e R s m args below meth c T locs cells slots) (hx : p.tables.exec = Jvm.exec) (hZ : Z.Warmed39 s.vm) (eT : T.heap = h) {a : Addr} {k : ClassId} {z j : Int32} {vs : List Value} {dv v : Value} (F : Arv Z h a k .byte z vs dv) (hj : ¬ j < 0 ∧ j < z) (hv : vs.getD j.toNatClampNeg dv = v) (hd : decode c.code pc = .ok (.baload, 1))
    (g : Goes p e below FE n0 Q (T.setTop (mkF m (pc + 1) Ls (v :: st)))) : Goes p e below FE n0 Q (T.setTop (mkF m pc Ls (.int j :: .ref a :: st))) := by
  obtain ⟨cl, A, -, S, -, H, -⟩ := F
  exact Goes.via (fun t k => X.baloadBytes hx (j := j) (v := v) (by rw [eT]; exact A.1) (State.isArrayOf_alike hZ.alike A.2.1) A.2.2 (inb_of S hj) (H.at (inb_of S hj) hv) (g := mkF m pc Ls (.int j :: .ref a :: st)) rfl rfl hd t k) g
theorem own_aaload (X : Stand p l e R s m args below meth c T locs cells slots) (hx : p.tables.exec = Jvm.exec) (hZ : Z.Warmed39 s.vm) (eT : T.heap = h) {a : Addr} {k : ClassId} {ty : FieldType} {z j : Int32} {vs : List Value} {dv v : Value} (F : Arv Z h a k ty z vs dv) (hty : ty.isReference = true) (hj : ¬ j < 0 ∧ j < z) (hv : vs.getD j.toNatClampNeg dv = v) (hd : decode c.code pc = .ok (.aaload, 1))
    (g : Goes p e below FE n0 Q (T.setTop (mkF m (pc + 1) Ls (v :: st)))) : Goes p e below FE n0 Q (T.setTop (mkF m pc Ls (.int j :: .ref a :: st))) := by
  obtain ⟨cl, A, -, S, -, H, -⟩ := F
  exact Goes.via (fun t k => X.aaload hx (j := j) (v := v) (by rw [eT]; exact A.1) (State.isArrayOf_alike hZ.alike A.2.1) hty A.2.2 (inb_of S hj) (H.at (inb_of S hj) hv) (g := mkF m pc Ls (.int j :: .ref a :: st)) rfl rfl hd t k) g
theorem own_aaloadC (X : Stand p l e R s m args below meth c T locs cells slots) (hx : p.tables.exec = Jvm.exec) (hZ : Z.Warmed39 s.vm) (eT : T.heap = h) {a : Addr} {cl : Cell} {ty : FieldType} {j : Int32} {v : Value} (A : Arr Z h a cl ty) (hty : ty.isReference = true) (hj : ¬ (j < 0 ∨ cl.slots.size ≤ j.toNatClampNeg)) (hv : cl.slots[j.toNatClampNeg]? = some v) (hd : decode c.code pc = .ok (.aaload, 1))
    (g : Goes p e below FE n0 Q (T.setTop (mkF m (pc + 1) Ls (v :: st)))) : Goes p e below FE n0 Q (T.setTop (mkF m pc Ls (.int j :: .ref a :: st))) :=
  Goes.via (fun t k => X.aaload hx (j := j) (v := v) (by rw [eT]; exact A.1) (State.isArrayOf_alike hZ.alike A.2.1) hty A.2.2 hj hv (g := mkF m pc Ls (.int j :: .ref a :: st)) rfl rfl hd t k) g
theorem own_alen (X : Stand p l e R s m args below meth c T locs cells slots) (hx : p.tables.exec = Jvm.exec) (hZ : Z.Warmed39 s.vm) (eT : T.heap = h) {a : Addr} {k : ClassId} {ty : FieldType} {z : Int32} {vs : List Value} {dv : Value} (F : Arv Z h a k ty z vs dv) (hd : decode c.code pc = .ok (.arraylength, 1))
    (g : Goes p e below FE n0 Q (T.setTop (mkF m (pc + 1) Ls (.int z :: st)))) : Goes p e below FE n0 Q (T.setTop (mkF m pc Ls (.ref a :: st))) := by
  obtain ⟨cl, A, -, S, hz, -, -⟩ := F
  rw [← len_of S hz] at g
  exact Goes.via (fun t k => X.arraylength hx (by rw [eT]; exact A.1) (State.isArrayOf_alike hZ.alike A.2.1) (g := mkF m pc Ls (.ref a :: st)) rfl rfl hd t k) g
theorem own_newP (X : Stand p l e R s m args below meth c T locs cells slots) (hx : p.tables.exec = Jvm.exec) (hZ : Z.Warmed39 s.vm) {aty : ArrayType} (w : (Jvm.Cond.arrayClass (newarray.typeOf aty)).before a0 Z = true) (eT : T.heap = h) {n : Int32} (hd : decode c.code pc = .ok (.newarray aty, 2)) (hn : ¬ n < 0) {cap : Nat} (hcap : n.toNatClampNeg ≤ cap) (hb : cap * 8 ≤ 536870912) (hc : cells + 1 ≤ R.cells) (hl : slots + cap ≤ R.slots)
    (k : ∀ T' h' b cA, b = h.size → Stand p l e R s m args below meth c T' locs (cells + 1) (slots + cap) → T'.heap = h' → Ext h h' → Arv Z h' b cA (newarray.typeOf aty) n [] (defaultValue (newarray.typeOf aty)) → Goes p e below FE n0 Q (T'.setTop (mkF m (pc + 2) Ls (.ref b :: st)))) : Goes p e below FE n0 Q (T.setTop (mkF m pc Ls (.int n :: st))) := by
  obtain ⟨T', h', cA, X', e', E', A', st'⟩ := newP X hx hZ w eT (g := mkF m pc Ls (.int n :: st)) rfl hd rfl hn hcap hb hc hl
  exact Goes.via st' (k T' h' _ cA rfl X' e' E' (Arv.new A' hn))
theorem own_newR (X : Stand p l e R s m args below meth c T locs cells slots) (hx : p.tables.exec = Jvm.exec) (hZ : Z.Warmed39 s.vm) {own : String} {index : Nat} (hown : s.vm.findClass own = some m.cls) {C : String} (w1 : (Jvm.Cond.classLink own index C).before a0 Z = true) (w2 : (Jvm.Cond.arrayOver (.object C)).before a0 Z = true) (eT : T.heap = h) {n : Int32} (hd : decode c.code pc = .ok (.anewarray index, 3)) (hn : ¬ n < 0) {cap : Nat} (hcap : n.toNatClampNeg ≤ cap) (hb : cap * 8 ≤ 536870912) (hc : cells + 1 ≤ R.cells) (hl : slots + cap ≤ R.slots)
    (k : ∀ T' h' b cA, b = h.size → Stand p l e R s m args below meth c T' locs (cells + 1) (slots + cap) → T'.heap = h' → Ext h h' → Arv Z h' b cA (.object C) n [] .null → Ovr Z cA C → Goes p e below FE n0 Q (T'.setTop (mkF m (pc + 3) Ls (.ref b :: st)))) : Goes p e below FE n0 Q (T.setTop (mkF m pc Ls (.int n :: st))) := by
  obtain ⟨T', h', cA, X', e', E', A', O', st'⟩ := newR X hx hZ hown w1 w2 eT (g := mkF m pc Ls (.int n :: st)) rfl hd rfl hn hcap hb hc hl
  exact Goes.via st' (k T' h' _ cA rfl X' e' E' (Arv.new A' hn) O')
theorem own_newPE (X : Stand p l e R s m args below meth c T locs cells slots) (hx : p.tables.exec = Jvm.exec) (hZ : Z.Warmed39 s.vm) {aty : ArrayType} (w : (Jvm.Cond.arrayClass (newarray.typeOf aty)).before a0 Z = true) (eT : T.heap = h) {n : Int32} {ad : String} (had : "[" ++ (newarray.typeOf aty).toString = ad) (hd : decode c.code pc = .ok (.newarray aty, 2)) (hn : ¬ n < 0) {cap : Nat} (hcap : n.toNatClampNeg ≤ cap) (hb : cap * 8 ≤ 536870912) (hc : cells + 1 ≤ R.cells) (hl : slots + cap ≤ R.slots)
    (k : ∀ T' h' b cA, b = h.size → Stand p l e R s m args below meth c T' locs (cells + 1) (slots + cap) → T'.heap = h' → Ext h h' → Arv Z h' b cA (newarray.typeOf aty) n [] (defaultValue (newarray.typeOf aty)) → Exa Z h' b ad → Goes p e below FE n0 Q (T'.setTop (mkF m (pc + 2) Ls (.ref b :: st)))) : Goes p e below FE n0 Q (T.setTop (mkF m pc Ls (.int n :: st))) := by
  obtain ⟨T', h', cA, X', e', E', A', Ex', st'⟩ := newPE X hx hZ w eT (g := mkF m pc Ls (.int n :: st)) rfl hd rfl hn hcap hb hc hl had
  exact Goes.via st' (k T' h' _ cA rfl X' e' E' (Arv.new A' hn) Ex')
theorem own_newRE (X : Stand p l e R s m args below meth c T locs cells slots) (hx : p.tables.exec = Jvm.exec) (hZ : Z.Warmed39 s.vm) {own : String} {index : Nat} (hown : s.vm.findClass own = some m.cls) {C ad : String} (had : "[" ++ (FieldType.object C).toString = ad) (w1 : (Jvm.Cond.classLink own index C).before a0 Z = true) (w2 : (Jvm.Cond.arrayOver (.object C)).before a0 Z = true) (eT : T.heap = h) {n : Int32} (hd : decode c.code pc = .ok (.anewarray index, 3)) (hn : ¬ n < 0) {cap : Nat} (hcap : n.toNatClampNeg ≤ cap) (hb : cap * 8 ≤ 536870912) (hc : cells + 1 ≤ R.cells) (hl : slots + cap ≤ R.slots)
    (k : ∀ T' h' b cA, b = h.size → Stand p l e R s m args below meth c T' locs (cells + 1) (slots + cap) → T'.heap = h' → Ext h h' → Arv Z h' b cA (.object C) n [] .null → Ovr Z cA C → Exa Z h' b ad → Goes p e below FE n0 Q (T'.setTop (mkF m (pc + 3) Ls (.ref b :: st)))) : Goes p e below FE n0 Q (T.setTop (mkF m pc Ls (.int n :: st))) := by
  obtain ⟨T', h', cA, X', e', E', A', Ex', O', st'⟩ := newRE X hx hZ hown w1 w2 eT (g := mkF m pc Ls (.int n :: st)) rfl hd rfl hn hcap hb hc hl had
  exact Goes.via st' (k T' h' _ cA rfl X' e' E' (Arv.new A' hn) O' Ex')
theorem own_newRA (X : Stand p l e R s m args below meth c T locs cells slots) (hx : p.tables.exec = Jvm.exec) (hZ : Z.Warmed39 s.vm) {own : String} {index : Nat} (hown : s.vm.findClass own = some m.cls) {C ad : String} {ty : FieldType} (hC : (FieldType.array ty).toString = C) (had : "[" ++ C = ad) (w1 : (Jvm.Cond.classLink own index C).before a0 Z = true) (w2 : (Jvm.Cond.arrayOver (.array ty)).before a0 Z = true) (eT : T.heap = h) {n : Int32} (hd : decode c.code pc = .ok (.anewarray index, 3)) (hn : ¬ n < 0) {cap : Nat} (hcap : n.toNatClampNeg ≤ cap) (hb : cap * 8 ≤ 536870912) (hc : cells + 1 ≤ R.cells) (hl : slots + cap ≤ R.slots)
    (k : ∀ T' h' b cA, b = h.size → Stand p l e R s m args below meth c T' locs (cells + 1) (slots + cap) → T'.heap = h' → Ext h h' → Arv Z h' b cA (.array ty) n [] .null → OvrA Z cA ty C → Goes p e below FE n0 Q (T'.setTop (mkF m (pc + 3) Ls (.ref b :: st)))) : Goes p e below FE n0 Q (T.setTop (mkF m pc Ls (.int n :: st))) := by
  obtain ⟨T', h', cA, X', e', E', A', Ex', O', st'⟩ := newRA X hx hZ hown hC w1 w2 eT (g := mkF m pc Ls (.int n :: st)) rfl hd rfl hn hcap hb hc hl had
  exact Goes.via st' (k T' h' _ cA rfl X' e' E' (Arv.new A' hn) O')
theorem own_iastore (X : Stand p l e R s m args below meth c T locs cells slots) (hx : p.tables.exec = Jvm.exec) (hZ : Z.Warmed39 s.vm) (N : Fr n0 locs) (eT : T.heap = h) {a : Addr} {k : ClassId} {z j : Int32} {vs : List Value} {dv : Value} {x : Int32} (F : Arv Z h a k .int z vs dv) (hj : ¬ j < 0 ∧ j < z) {i : Nat} (hi : j.toNatClampNeg = i) (hlen : i < vs.length) (hge : n0 ≤ a) (hd : decode c.code pc = .ok (.iastore, 1))
    (k : ∀ T' h' locs', Stand p l e R s m args below meth c T' locs' cells slots → T'.heap = h' → Fr n0 locs' → Wr h h' a j.toNatClampNeg (.int x) → Arv Z h' a k .int z (vs.set i (.int x)) dv → Goes p e below FE n0 Q (T'.setTop (mkF m (pc + 1) Ls st))) : Goes p e below FE n0 Q (T.setTop (mkF m pc Ls (.int x :: .int j :: .ref a :: st))) := by
  obtain ⟨cl, A, q1, S, q3, H, G⟩ := F
  obtain ⟨T', h', X', e', W', st'⟩ := stI X hx hZ eT A (j := j) (inb_of S hj) (g := mkF m pc Ls (.int x :: .int j :: .ref a :: st)) rfl rfl hd
  exact Goes.via st' (k T' h' _ X' e' (Fr.snoc X' N hge) W' (Arv.set A q1 S q3 H G rfl W' i hi hlen))
theorem own_lastore (X : Stand p l e R s m args below meth c T locs cells slots) (hx : p.tables.exec = Jvm.exec) (hZ : Z.Warmed39 s.vm) (N : Fr n0 locs) (eT : T.heap = h) {a : Addr} {k : ClassId} {z j : Int32} {vs : List Value} {dv : Value} {x : Int64} (F : Arv Z h a k .long z vs dv) (hj : ¬ j < 0 ∧ j < z) {i : Nat} (hi : j.toNatClampNeg = i) (hlen : i < vs.length) (hge : n0 ≤ a) (hd : decode c.code pc = .ok (.lastore, 1))
    (k : ∀ T' h' locs', Stand p l e R s m args below meth c T' locs' cells slots → T'.heap = h' → Fr n0 locs' → Wr h h' a j.toNatClampNeg (.long x) → Arv Z h' a k .long z (vs.set i (.long x)) dv → Goes p e below FE n0 Q (T'.setTop (mkF m (pc + 1) Ls st))) : Goes p e below FE n0 Q (T.setTop (mkF m pc Ls (.long x :: .int j :: .ref a :: st))) := by
  obtain ⟨cl, A, q1, S, q3, H, G⟩ := F
  obtain ⟨T', h', X', e', W', st'⟩ := stJ X hx hZ eT A (j := j) (inb_of S hj) (g := mkF m pc Ls (.long x :: .int j :: .ref a :: st)) rfl rfl hd
  exact Goes.via st' (k T' h' _ X' e' (Fr.snoc X' N hge) W' (Arv.set A q1 S q3 H G rfl W' i hi hlen))
theorem own_castore (X : Stand p l e R s m args below meth c T locs cells slots) (hx : p.tables.exec = Jvm.exec) (hZ : Z.Warmed39 s.vm) (N : Fr n0 locs) (eT : T.heap = h) {a : Addr} {k : ClassId} {z j : Int32} {vs : List Value} {dv : Value} {x : Int32} (F : Arv Z h a k .char z vs dv) (hj : ¬ j < 0 ∧ j < z) {i : Nat} (hi : j.toNatClampNeg = i) (hlen : i < vs.length) (hge : n0 ≤ a) (hd : decode c.code pc = .ok (.castore, 1))
    (k : ∀ T' h' locs', Stand p l e R s m args below meth c T' locs' cells slots → T'.heap = h' → Fr n0 locs' → Wr h h' a j.toNatClampNeg (.int (nar .char x)) → Arv Z h' a k .char z (vs.set i (.int (nar .char x))) dv → Goes p e below FE n0 Q (T'.setTop (mkF m (pc + 1) Ls st))) : Goes p e below FE n0 Q (T.setTop (mkF m pc Ls (.int x :: .int j :: .ref a :: st))) := by
  obtain ⟨cl, A, q1, S, q3, H, G⟩ := F
  obtain ⟨T', h', X', e', W', st'⟩ := stC X hx hZ eT A (j := j) (inb_of S hj) (g := mkF m pc Ls (.int x :: .int j :: .ref a :: st)) rfl rfl hd
  exact Goes.via st' (k T' h' _ X' e' (Fr.snoc X' N hge) W' (Arv.set A q1 S q3 H G (fits_nar_char _) W' i hi hlen))
theorem own_bastore (X : Stand p l e R s m args below meth c T locs cells slots) (hx : p.tables.exec = Jvm.exec) (hZ : Z.Warmed39 s.vm) (N : Fr n0 locs) (eT : T.heap = h) {a : Addr} {k : ClassId} {z j : Int32} {vs : List Value} {dv : Value} {x : Int32} (F : Arv Z h a k .byte z vs dv) (hj : ¬ j < 0 ∧ j < z) {i : Nat} (hi : j.toNatClampNeg = i) (hlen : i < vs.length) (hge : n0 ≤ a) (hd : decode c.code pc = .ok (.bastore, 1))
    (k : ∀ T' h' locs', Stand p l e R s m args below meth c T' locs' cells slots → T'.heap = h' → Fr n0 locs' → Wr h h' a j.toNatClampNeg (.int (x.toInt8.toInt32)) → Arv Z h' a k .byte z (vs.set i (.int (x.toInt8.toInt32))) dv → Goes p e below FE n0 Q (T'.setTop (mkF m (pc + 1) Ls st))) : Goes p e below FE n0 Q (T.setTop (mkF m pc Ls (.int x :: .int j :: .ref a :: st))) := by
  obtain ⟨cl, A, q1, S, q3, H, G⟩ := F
  obtain ⟨T', h', X', e', W', st'⟩ := stB X hx hZ eT A (j := j) (inb_of S hj) (g := mkF m pc Ls (.int x :: .int j :: .ref a :: st)) rfl rfl hd
  exact Goes.via st' (k T' h' _ X' e' (Fr.snoc X' N hge) W' (Arv.set A q1 S q3 H G (fits_nar_byte _) W' i hi hlen))
theorem own_aastore (X : Stand p l e R s m args below meth c T locs cells slots) (hx : p.tables.exec = Jvm.exec) (hZ : Z.Warmed39 s.vm) (N : Fr n0 locs) (eT : T.heap = h) {a : Addr} {k : ClassId} {ty : FieldType} {z j : Int32} {vs : List Value} {dv v : Value} (F : Arv Z h a k ty z vs dv) (hty : ty.isReference = true) (hfit : fits ty v = true) (hj : ¬ j < 0 ∧ j < z) {i : Nat} (hi : j.toNatClampNeg = i) (hlen : i < vs.length) (hge : n0 ≤ a) (hst : ∀ cl, Arr Z h a cl ty → cl.cls = k → Sto Z h a v) (hd : decode c.code pc = .ok (.aastore, 1))
    (k : ∀ T' h' locs', Stand p l e R s m args below meth c T' locs' cells slots → T'.heap = h' → Fr n0 locs' → Wr h h' a j.toNatClampNeg v → Arv Z h' a k ty z (vs.set i v) dv → Goes p e below FE n0 Q (T'.setTop (mkF m (pc + 1) Ls st))) : Goes p e below FE n0 Q (T.setTop (mkF m pc Ls (v :: .int j :: .ref a :: st))) := by
  obtain ⟨cl, A, q1, S, q3, H, G⟩ := F
  obtain ⟨T', h', X', e', W', st'⟩ := stR X hx hZ eT A (j := j) (inb_of S hj) hty (hst cl A q1) (g := mkF m pc Ls (v :: .int j :: .ref a :: st)) rfl rfl hd
  exact Goes.via st' (k T' h' _ X' e' (Fr.snoc X' N hge) W' (Arv.set A q1 S q3 H G hfit W' i hi hlen))
theorem own_selfsel {y : MethodName} {nn : Nat} (wi : (Jvm.Cond.instantiable y.cls nn).before a0 Z = true) (w2 : (Jvm.Cond.instanceMethod y).before a0 Z = true) (w6 : (Jvm.Cond.privateMethod y).before a0 Z = true) (hy : y.cls ≠ "java/lang/invoke/MethodHandle" ∧ y.cls ≠ "java/lang/invoke/VarHandle") : (Jvm.Cond.selects y.cls y y).before a0 Z = true := by
  obtain ⟨c, k, h1, h2, -, h4, -⟩ := Cond.instantiable_spec wi
  exact selects_self_of_private h1 h2 (by rw [Bool.or_eq_false_iff] at h4; exact h4.1) (Cond.privateMethod_at w6) w2 hy
theorem own_callS (X : Stand p l e R s m args below meth c T locs cells slots) (hx : p.tables.exec = Jvm.exec) (hZ : Z.Warmed39 s.vm) {own : String} {index : Nat} (hown : s.vm.findClass own = some m.cls) {y : MethodName} {bytes : ByteArray} {maxL : Nat} {ret : Option FieldType} {rm : Room} {W : Nat} {Q' : Option Value → Heap → Prop} (w1 : (Jvm.Cond.methodLink own index y).before a0 Z = true) (w2 : (Jvm.Cond.static y).before a0 Z = true) (w3 : (Jvm.Cond.initialized y.cls).before a0 Z = true) (w4 : (Jvm.Cond.code y bytes maxL ret).before a0 Z = true) (hy : y.cls ≠ "java/lang/invoke/MethodHandle" ∧ y.cls ≠ "java/lang/invoke/VarHandle") (hf : rm.frames + 1 ≤ R.frames) (hl : W + (maxL + 11) + rm.locals ≤ R.locals) (N : Fr n0 locs) (eT : T.heap = h) (hsize : Ls.size = c.maxLocals) {argsL rest : List Value} (hlen : ∀ sig, parseMethodDescriptor y.desc = some sig → argsL.length = sig.parameters.length) (hW : (rest.map fun v => v.category).sum ≤ W) (hc : cells + rm.cells ≤ R.cells) (hs : slots + rm.slots ≤ R.slots) (M : Meets l y bytes maxL ret [] rm rm.cells rm.slots Z argsL.toArray h n0 Q') (hst : st = argsL.reverse ++ rest) (hd : decode c.code pc = .ok (.invokestatic index, 3))
    (k : ∀ v T' locs', Stand p l e R s m args below meth c T' locs' (cells + rm.cells) (slots + rm.slots) → Fr n0 locs' → Q' v T'.heap → Goes p e below FE n0 Q (T'.setTop (mkF m (pc + 3) Ls (v.toList ++ rest)))) : Goes p e below FE n0 Q (T.setTop (mkF m pc Ls st)) := by
  subst hst
  obtain ⟨v, _, ⟨T', L', k', n'⟩, -, X', ⟨Lc, hQ, l1, l2, l3⟩, st'⟩ := Jvm.LawKit.callS X hx (y := y) hown (mvT hZ w1) (mvT hZ w2) (mvT hZ w3) (mvT hZ w4) hy (backOf (W := W) (Q := fun v h L => Fr n0 L ∧ Q' v h) M hZ w4 w3 hf hl) (g := mkF m pc Ls (argsL.reverse ++ rest)) rfl hsize (argsL := argsL) (rest := rest) hlen rfl (by show 2 * 0 + _ ≤ _; omega) hd (fun _ _ => ⟨rfl, eT, hc, hs⟩)
  dsimp only [Pt.U, Pt.locs, Pt.cells, Pt.slots] at X' l1 l2 l3 st' hQ
  subst l1 l2 l3
  exact Goes.via st' (k v T' _ X' (Fr.app N hQ.1) hQ.2)
theorem own_special (X : Stand p l e R s m args below meth c T locs cells slots) (hx : p.tables.exec = Jvm.exec) (hZ : Z.Warmed39 s.vm) {own : String} {index : Nat} (hown : s.vm.findClass own = some m.cls) {y : MethodName} {bytes : ByteArray} {maxL : Nat} {rm : Room} {W : Nat} {Q' : Option Value → Heap → Prop} (hy1 : y.name = "<init>") (w1 : (Jvm.Cond.methodLink own index y).before a0 Z = true) (w2 : (Jvm.Cond.instanceMethod y).before a0 Z = true) (w3 : (Jvm.Cond.initialized y.cls).before a0 Z = true) (w4 : (Jvm.Cond.code y bytes maxL none).before a0 Z = true) {a : Addr} (hy : y.cls ≠ "java/lang/invoke/MethodHandle" ∧ y.cls ≠ "java/lang/invoke/VarHandle") (hf : rm.frames + 1 ≤ R.frames) (hl : W + (maxL + 11) + rm.locals ≤ R.locals) (N : Fr n0 locs) (eT : T.heap = h) (hsize : Ls.size = c.maxLocals) {argsL rest : List Value} (hlen : ∀ sig, parseMethodDescriptor y.desc = some sig → argsL.length = sig.parameters.length) (hW : (rest.map fun v => v.category).sum ≤ W) (hc : cells + rm.cells ≤ R.cells) (hs : slots + rm.slots ≤ R.slots) (M : Meets l y bytes maxL none [] rm rm.cells rm.slots Z (.ref a :: argsL).toArray h n0 Q') (hst : st = argsL.reverse ++ .ref a :: rest) (hd : decode c.code pc = .ok (.invokespecial index, 3))
    (k : ∀ v T' locs', Stand p l e R s m args below meth c T' locs' (cells + rm.cells) (slots + rm.slots) → Fr n0 locs' → Q' v T'.heap → Goes p e below FE n0 Q (T'.setTop (mkF m (pc + 3) Ls (v.toList ++ rest)))) : Goes p e below FE n0 Q (T.setTop (mkF m pc Ls st)) := by
  subst hst
  obtain ⟨v, _, ⟨T', L', k', n'⟩, -, X', ⟨Lc, hQ, l1, l2, l3⟩, st'⟩ := X.specialBack hx (y := y) hy1 hown (mvT hZ w1) (mvT hZ w2) (mvT hZ w4) hy (backOf (W := W) (Q := fun v h L => Fr n0 L ∧ Q' v h) M hZ w4 w3 hf hl) (g := mkF m pc Ls (argsL.reverse ++ .ref a :: rest)) rfl hsize (Steps.refl _) (a := a) (argsL := argsL) (rest := rest) hlen rfl (by show 2 * 0 + _ ≤ _; omega) hd (fun _ _ => ⟨rfl, eT, hc, hs⟩)
  dsimp only [Pt.U, Pt.locs, Pt.cells, Pt.slots] at X' l1 l2 l3 st' hQ
  subst l1 l2 l3
  exact Goes.via (fun _ k => st'.trans k) (k v T' _ X' (Fr.app N hQ.1) hQ.2)
theorem own_specialNest (X : Stand p l e R s m args below meth c T locs cells slots) (hx : p.tables.exec = Jvm.exec) (hZ : Z.Warmed39 s.vm) {own : String} {index : Nat} (hown : s.vm.findClass own = some m.cls) {y : MethodName} {bytes : ByteArray} {maxL : Nat} {rm : Room} {W : Nat} {Q' : Option Value → Heap → Prop} {host : String} (hy1 : y.name = "<init>") (w1 : (Jvm.Cond.methodLinkNest own index y host).before a0 Z = true) (w2 : (Jvm.Cond.instanceMethod y).before a0 Z = true) (w3 : (Jvm.Cond.initialized y.cls).before a0 Z = true) (w4 : (Jvm.Cond.code y bytes maxL none).before a0 Z = true) {a : Addr} (hy : y.cls ≠ "java/lang/invoke/MethodHandle" ∧ y.cls ≠ "java/lang/invoke/VarHandle") (hf : rm.frames + 1 ≤ R.frames) (hl : W + (maxL + 11) + rm.locals ≤ R.locals) (N : Fr n0 locs) (eT : T.heap = h) (hsize : Ls.size = c.maxLocals) {argsL rest : List Value} (hlen : ∀ sig, parseMethodDescriptor y.desc = some sig → argsL.length = sig.parameters.length) (hW : (rest.map fun v => v.category).sum ≤ W) (hc : cells + rm.cells ≤ R.cells) (hs : slots + rm.slots ≤ R.slots) (M : Meets l y bytes maxL none [] rm rm.cells rm.slots Z (.ref a :: argsL).toArray h n0 Q') (hst : st = argsL.reverse ++ .ref a :: rest) (hd : decode c.code pc = .ok (.invokespecial index, 3))
    (k : ∀ v T' locs', Stand p l e R s m args below meth c T' locs' (cells + rm.cells) (slots + rm.slots) → Fr n0 locs' → Q' v T'.heap → Goes p e below FE n0 Q (T'.setTop (mkF m (pc + 3) Ls (v.toList ++ rest)))) : Goes p e below FE n0 Q (T.setTop (mkF m pc Ls st)) := by
  subst hst
  obtain ⟨v, _, ⟨T', L', k', n'⟩, -, X', ⟨Lc, hQ, l1, l2, l3⟩, st'⟩ := X.specialBackNest hx (y := y) hy1 hown (Cond.methodLinkNest_wide hZ w1 :) (mvT hZ w2) (mvT hZ w4) hy (backOf (W := W) (Q := fun v h L => Fr n0 L ∧ Q' v h) M hZ w4 w3 hf hl) (g := mkF m pc Ls (argsL.reverse ++ .ref a :: rest)) rfl hsize (Steps.refl _) (a := a) (argsL := argsL) (rest := rest) hlen rfl (by show 2 * 0 + _ ≤ _; omega) hd (fun _ _ => ⟨rfl, eT, hc, hs⟩)
  dsimp only [Pt.U, Pt.locs, Pt.cells, Pt.slots] at X' l1 l2 l3 st' hQ
  subst l1 l2 l3
  exact Goes.via (fun _ k => st'.trans k) (k v T' _ X' (Fr.app N hQ.1) hQ.2)
theorem own_virtual (X : Stand p l e R s m args below meth c T locs cells slots) (hx : p.tables.exec = Jvm.exec) (hZ : Z.Warmed39 s.vm) {own : String} {index : Nat} (hown : s.vm.findClass own = some m.cls) {y : MethodName} {bytes : ByteArray} {maxL : Nat} {ret : Option FieldType} {rm : Room} {W : Nat} {Q' : Option Value → Heap → Prop} {z : MethodName} {C : String} (w1 : (Jvm.Cond.methodLink own index y).before a0 Z = true) (w2 : (Jvm.Cond.declares y).before a0 Z = true) (hnf : NotFace s y) (w5 : (Jvm.Cond.selects C y z).before a0 Z = true) (w6 : (Jvm.Cond.instanceMethod z).before a0 Z = true) (w3 : (Jvm.Cond.initialized z.cls).before a0 Z = true) (w4 : (Jvm.Cond.code z bytes maxL ret).before a0 Z = true) {a : Addr} (E : Exa Z h a C) (hy : y.cls ≠ "java/lang/invoke/MethodHandle" ∧ y.cls ≠ "java/lang/invoke/VarHandle") (hf : rm.frames + 1 ≤ R.frames) (hl : W + (maxL + 11) + rm.locals ≤ R.locals) (N : Fr n0 locs) (eT : T.heap = h) (hsize : Ls.size = c.maxLocals) {argsL rest : List Value} (hlen : ∀ sig, parseMethodDescriptor y.desc = some sig → argsL.length = sig.parameters.length) (hW : (rest.map fun v => v.category).sum ≤ W) (hc : cells + rm.cells ≤ R.cells) (hs : slots + rm.slots ≤ R.slots) (M : Meets l z bytes maxL ret [] rm rm.cells rm.slots Z (.ref a :: argsL).toArray h n0 Q') (hst : st = argsL.reverse ++ .ref a :: rest) (hd : decode c.code pc = .ok (.invokevirtual index, 3))
    (k : ∀ v T' locs', Stand p l e R s m args below meth c T' locs' (cells + rm.cells) (slots + rm.slots) → Fr n0 locs' → Q' v T'.heap → Goes p e below FE n0 Q (T'.setTop (mkF m (pc + 3) Ls (v.toList ++ rest)))) : Goes p e below FE n0 Q (T.setTop (mkF m pc Ls st)) := by
  subst hst
  obtain ⟨cq, kq, qa, qb, qc⟩ := isOf hZ eT E
  obtain ⟨v, _, ⟨T', L', k', n'⟩, -, X', ⟨Lc, hQ, l1, l2, l3⟩, st'⟩ := X.virtualBack hx (y := y) (z := z) hown (mvT hZ w1) (mvT hZ w2) hnf (mvT hZ w5) (mvT hZ w6) hy (backOf (W := W) (Q := fun v h L => Fr n0 L ∧ Q' v h) M hZ w4 w3 hf hl) qa qc (g := mkF m pc Ls (argsL.reverse ++ .ref a :: rest)) rfl hsize (Steps.refl _) (argsL := argsL) (rest := rest) hlen rfl (by show 2 * 0 + _ ≤ _; omega) hd (fun _ _ => ⟨rfl, eT, hc, hs⟩)
  dsimp only [Pt.U, Pt.locs, Pt.cells, Pt.slots] at X' l1 l2 l3 st' hQ
  subst l1 l2 l3
  exact Goes.via (fun _ k => st'.trans k) (k v T' _ X' (Fr.app N hQ.1) hQ.2)
theorem own_private (X : Stand p l e R s m args below meth c T locs cells slots) (hx : p.tables.exec = Jvm.exec) (hZ : Z.Warmed39 s.vm) {own : String} {index : Nat} (hown : s.vm.findClass own = some m.cls) {y : MethodName} {bytes : ByteArray} {maxL : Nat} {ret : Option FieldType} {rm : Room} {W : Nat} {Q' : Option Value → Heap → Prop} (w1 : (Jvm.Cond.methodLink own index y).before a0 Z = true) (w2 : (Jvm.Cond.instanceMethod y).before a0 Z = true) {nn : Nat} (w5 : (Jvm.Cond.instantiable y.cls nn).before a0 Z = true) (w6 : (Jvm.Cond.privateMethod y).before a0 Z = true) (w3 : (Jvm.Cond.initialized y.cls).before a0 Z = true) (w4 : (Jvm.Cond.code y bytes maxL ret).before a0 Z = true) {a : Addr} {C : String} (E : Exa Z h a C) (hy : y.cls ≠ "java/lang/invoke/MethodHandle" ∧ y.cls ≠ "java/lang/invoke/VarHandle") (hf : rm.frames + 1 ≤ R.frames) (hl : W + (maxL + 11) + rm.locals ≤ R.locals) (N : Fr n0 locs) (eT : T.heap = h) (hsize : Ls.size = c.maxLocals) {argsL rest : List Value} (hlen : ∀ sig, parseMethodDescriptor y.desc = some sig → argsL.length = sig.parameters.length) (hW : (rest.map fun v => v.category).sum ≤ W) (hc : cells + rm.cells ≤ R.cells) (hs : slots + rm.slots ≤ R.slots) (M : Meets l y bytes maxL ret [] rm rm.cells rm.slots Z (.ref a :: argsL).toArray h n0 Q') (hst : st = argsL.reverse ++ .ref a :: rest) (hd : decode c.code pc = .ok (.invokevirtual index, 3))
    (k : ∀ v T' locs', Stand p l e R s m args below meth c T' locs' (cells + rm.cells) (slots + rm.slots) → Fr n0 locs' → Q' v T'.heap → Goes p e below FE n0 Q (T'.setTop (mkF m (pc + 3) Ls (v.toList ++ rest)))) : Goes p e below FE n0 Q (T.setTop (mkF m pc Ls st)) := by
  subst hst
  obtain ⟨cq, qa, qb⟩ := E.cell
  obtain ⟨v, _, ⟨T', L', k', n'⟩, -, X', ⟨Lc, hQ, l1, l2, l3⟩, st'⟩ := X.privateBack hx (y := y) hown (mvT hZ w1) (mvT hZ w2) (mvT hZ (own_selfsel w5 w2 w6 hy)) (Cond.privateMethod_at (mvP hZ w6 (args := #[]))) (mvT hZ w4) hy (backOf (W := W) (Q := fun v h L => Fr n0 L ∧ Q' v h) M hZ w4 w3 hf hl) (g := mkF m pc Ls (argsL.reverse ++ .ref a :: rest)) rfl hsize (Steps.refl _) (a := a) (by rw [eT]; exact qa) qb (argsL := argsL) (rest := rest) hlen rfl (by show 2 * 0 + _ ≤ _; omega) hd (fun _ _ => ⟨rfl, eT, hc, hs⟩)
  dsimp only [Pt.U, Pt.locs, Pt.cells, Pt.slots] at X' l1 l2 l3 st' hQ
  subst l1 l2 l3
  exact Goes.via (fun _ k => st'.trans k) (k v T' _ X' (Fr.app N hQ.1) hQ.2)
theorem own_virtualUp (X : Stand p l e R s m args below meth c T locs cells slots) (hx : p.tables.exec = Jvm.exec) (hZ : Z.Warmed39 s.vm) {own : String} {index : Nat} (hown : s.vm.findClass own = some m.cls) {y : MethodName} {bytes : ByteArray} {maxL : Nat} {ret : Option FieldType} {rm : Room} {W : Nat} {Q' : Option Value → Heap → Prop} {z : MethodName} {C owner : String} (w1 : (Jvm.Cond.methodLink own index y).before a0 Z = true) (w2 : (Jvm.Cond.sameMethod y.cls owner y.name y.desc).before a0 Z = true) (w7 : (Jvm.Cond.declares ⟨owner, y.name, y.desc⟩).before a0 Z = true) (w5 : (Jvm.Cond.selects C y z).before a0 Z = true) (w6 : (Jvm.Cond.instanceMethod z).before a0 Z = true) (w3 : (Jvm.Cond.initialized z.cls).before a0 Z = true) (w4 : (Jvm.Cond.code z bytes maxL ret).before a0 Z = true) {a : Addr} (E : Exa Z h a C) (hy : owner ≠ "java/lang/invoke/MethodHandle" ∧ owner ≠ "java/lang/invoke/VarHandle") (hf : rm.frames + 1 ≤ R.frames) (hl : W + (maxL + 11) + rm.locals ≤ R.locals) (N : Fr n0 locs) (eT : T.heap = h) (hsize : Ls.size = c.maxLocals) {argsL rest : List Value} (hlen : ∀ sig, parseMethodDescriptor y.desc = some sig → argsL.length = sig.parameters.length) (hW : (rest.map fun v => v.category).sum ≤ W) (hc : cells + rm.cells ≤ R.cells) (hs : slots + rm.slots ≤ R.slots) (M : Meets l z bytes maxL ret [] rm rm.cells rm.slots Z (.ref a :: argsL).toArray h n0 Q') (hst : st = argsL.reverse ++ .ref a :: rest) (hd : decode c.code pc = .ok (.invokevirtual index, 3))
    (k : ∀ v T' locs', Stand p l e R s m args below meth c T' locs' (cells + rm.cells) (slots + rm.slots) → Fr n0 locs' → Q' v T'.heap → Goes p e below FE n0 Q (T'.setTop (mkF m (pc + 3) Ls (v.toList ++ rest)))) : Goes p e below FE n0 Q (T.setTop (mkF m pc Ls st)) := by
  subst hst
  obtain ⟨cq, kq, qa, qb, qc⟩ := isOf hZ eT E
  obtain ⟨v, _, ⟨T', L', k', n'⟩, -, X', ⟨Lc, hQ, l1, l2, l3⟩, st'⟩ := X.virtualBackUp hx (x := y) (y := z) hown (mvT hZ w1) (mvT hZ w2) (mvT hZ w7 (by simp [Cond.onTables, Cond.keepsFace, Cond.keeps, Cond.steady, Cond.faceAtom, hy.1, hy.2])) hy (mvT hZ w5) (mvT hZ w6) (backOf (W := W) (Q := fun v h L => Fr n0 L ∧ Q' v h) M hZ w4 w3 hf hl) qa qc (g := mkF m pc Ls (argsL.reverse ++ .ref a :: rest)) rfl hsize (Steps.refl _) (argsL := argsL) (rest := rest) hlen rfl (by show 2 * 0 + _ ≤ _; omega) hd (fun _ _ => ⟨rfl, eT, hc, hs⟩)
  dsimp only [Pt.U, Pt.locs, Pt.cells, Pt.slots] at X' l1 l2 l3 st' hQ
  subst l1 l2 l3
  exact Goes.via (fun _ k => st'.trans k) (k v T' _ X' (Fr.app N hQ.1) hQ.2)
theorem own_iface (X : Stand p l e R s m args below meth c T locs cells slots) (hx : p.tables.exec = Jvm.exec) (hZ : Z.Warmed39 s.vm) {own : String} {index : Nat} (hown : s.vm.findClass own = some m.cls) {y : MethodName} {bytes : ByteArray} {maxL : Nat} {ret : Option FieldType} {rm : Room} {W : Nat} {Q' : Option Value → Heap → Prop} {z : MethodName} {C : String} {count : Nat} (w1 : (Jvm.Cond.methodLink own index y).before a0 Z = true) (w2 : (Jvm.Cond.declares y).before a0 Z = true) (w7 : (Jvm.Cond.interfaceMethod y.cls y.cls y.name y.desc).before a0 Z = true) (w5 : (Jvm.Cond.selects C y z).before a0 Z = true) (w6 : (Jvm.Cond.instanceMethod z).before a0 Z = true) (w8 : (Jvm.Cond.publicMethod z).before a0 Z = true) (w9 : (Jvm.Cond.unhidden C y.name y.desc).before a0 Z = true) (wc : (Jvm.Cond.castable C y.cls).before a0 Z = true) (w3 : (Jvm.Cond.initialized z.cls).before a0 Z = true) (w4 : (Jvm.Cond.code z bytes maxL ret).before a0 Z = true) {a : Addr} (E : Exa Z h a C) (hy : y.cls ≠ "java/lang/invoke/MethodHandle" ∧ y.cls ≠ "java/lang/invoke/VarHandle") (hf : rm.frames + 1 ≤ R.frames) (hl : W + (maxL + 11) + rm.locals ≤ R.locals) (N : Fr n0 locs) (eT : T.heap = h) (hsize : Ls.size = c.maxLocals) {argsL rest : List Value} (hlen : ∀ sig, parseMethodDescriptor y.desc = some sig → argsL.length = sig.parameters.length) (hW : (rest.map fun v => v.category).sum ≤ W) (hc : cells + rm.cells ≤ R.cells) (hs : slots + rm.slots ≤ R.slots) (M : Meets l z bytes maxL ret [] rm rm.cells rm.slots Z (.ref a :: argsL).toArray h n0 Q') (hst : st = argsL.reverse ++ .ref a :: rest) (hd : decode c.code pc = .ok (.invokeinterface index count, 5))
    (k : ∀ v T' locs', Stand p l e R s m args below meth c T' locs' (cells + rm.cells) (slots + rm.slots) → Fr n0 locs' → Q' v T'.heap → Goes p e below FE n0 Q (T'.setTop (mkF m (pc + 5) Ls (v.toList ++ rest)))) : Goes p e below FE n0 Q (T.setTop (mkF m pc Ls st)) := by
  subst hst
  obtain ⟨cq, kq, qa, qb, qc⟩ := isOf hZ eT E
  obtain ⟨v, _, ⟨T', L', k', n'⟩, -, X', ⟨Lc, hQ, l1, l2, l3⟩, st'⟩ := X.interfaceBack hx (xi := y) (y := z) hown (mvT hZ w1) (mvT hZ w2) (mvT hZ w7 (by simp [Cond.onTables, Cond.keepsFace, Cond.keeps, Cond.steady, Cond.faceAtom, hy.1, hy.2])) (mvT hZ w5) (mvT hZ w6) (mvT hZ w8) (mvT hZ w9) (mvT hZ wc) hy (backOf (W := W) (Q := fun v h L => Fr n0 L ∧ Q' v h) M hZ w4 w3 hf hl) qa qb qc (g := mkF m pc Ls (argsL.reverse ++ .ref a :: rest)) rfl hsize (Steps.refl _) (argsL := argsL) (rest := rest) hlen rfl (by show 2 * 0 + _ ≤ _; omega) hd (fun _ _ => ⟨rfl, eT, hc, hs⟩)
  dsimp only [Pt.U, Pt.locs, Pt.cells, Pt.slots] at X' l1 l2 l3 st' hQ
  subst l1 l2 l3
  exact Goes.via (fun _ k => st'.trans k) (k v T' _ X' (Fr.app N hQ.1) hQ.2)
theorem own_gcls (X : Stand p l e R s m args below meth c T locs cells slots) (hx : p.tables.exec = Jvm.exec) (hZ : Z.Warmed39 s.vm) {own : String} {index : Nat} (hown : s.vm.findClass own = some m.cls) {C : String} (w1 : (Jvm.Cond.methodLink own index ⟨"java/lang/Object", "getClass", "()Ljava/lang/Class;"⟩).before a0 Z = true) (w2 : (Jvm.Cond.declares ⟨"java/lang/Object", "getClass", "()Ljava/lang/Class;"⟩).before a0 Z = true) (w3 : (Jvm.Cond.noSuperclass "java/lang/Object").before a0 Z = true) (w4 : (Jvm.Cond.selects C ⟨"java/lang/Object", "getClass", "()Ljava/lang/Class;"⟩ ⟨"java/lang/Object", "getClass", "()Ljava/lang/Class;"⟩).before a0 Z = true) (w5 : (Jvm.Cond.instanceMethod ⟨"java/lang/Object", "getClass", "()Ljava/lang/Class;"⟩).before a0 Z = true) (w6 : (Jvm.Cond.native ⟨"java/lang/Object", "getClass", "()Ljava/lang/Class;"⟩).before a0 Z = true) (eT : T.heap = h) {a mr : Addr} (E : Exa Z h a C) (M : ∃ (c : ClassId) (k : Class), Z.vm.findClass C = some c ∧ Z.vm.classes[c]? = some k ∧ k.mirror = some mr) (hsize : Ls.size = c.maxLocals) (hd : decode c.code pc = .ok (.invokevirtual index, 3)) (hf : 1 ≤ R.frames) {W : Nat} (hW : (st.map fun v => v.category).sum ≤ W) (hl : W + 14 ≤ R.locals)
    (k : ∀ T', Stand p l e R s m args below meth c T' locs cells slots → T'.heap = h → Goes p e below FE n0 Q (T'.setTop (mkF m (pc + 3) Ls (.ref mr :: st)))) : Goes p e below FE n0 Q (T.setTop (mkF m pc Ls (.ref a :: st))) := by
  obtain ⟨cB, kB, i1, i2, i3⟩ := isOf hZ eT E
  obtain ⟨cc, kc, m1, m2, m3⟩ := M
  rw [hZ.alike.findClass] at i1
  cases i1.symm.trans m1
  obtain ⟨k', q, ek⟩ := hZ.alike.2.2 _ _ m2
  obtain ⟨vm', X', st'⟩ := X.getClassOf hx hown (mvT hZ w1) (mvT hZ w2) (nf_top (args := #[]) (mvT hZ w3)) (mvT hZ w4) (mvT hZ w5) (mvT hZ w6) (by rw [hZ.alike.findClass]; exact m1) i3 q (by rw [ek]; exact m3) (g := mkF m pc Ls (.ref a :: st)) rfl hsize rfl hd hf (by show 2 * 0 + _ + (1 + 2 + 11) ≤ _; omega)
  exact Goes.via st' (k _ X' eT)
theorem own_ldcMir (X : Stand p l e R s m args below meth c T locs cells slots) (hx : p.tables.exec = Jvm.exec) (hZ : Z.Warmed39 s.vm) {own : String} {index : Nat} (hown : s.vm.findClass own = some m.cls) {C : String} (w : (Jvm.Cond.classLink own index C).before a0 Z = true) (eT : T.heap = h) {mr : Addr} (M : ∃ (c : ClassId) (k : Class), Z.vm.findClass C = some c ∧ Z.vm.classes[c]? = some k ∧ k.mirror = some mr) (hd : decode c.code pc = .ok (.ldc index, 2))
    (k : ∀ T', Stand p l e R s m args below meth c T' locs cells slots → T'.heap = h → Goes p e below FE n0 Q (T'.setTop (mkF m (pc + 2) Ls (.ref mr :: st)))) : Goes p e below FE n0 Q (T.setTop (mkF m pc Ls st)) := by
  obtain ⟨cc, kc, m1, m2, m3⟩ := M
  obtain ⟨k', q, ek⟩ := hZ.alike.2.2 _ _ m2
  have hf' : s.vm.findClass C = some cc := by rw [hZ.alike.findClass]; exact m1
  obtain ⟨vm', X', st'⟩ := X.ldcMirror hx hown (mv hZ w) (a := mr) (by
    have hm : k'.mirror = some mr := by first | (rw [ek]; exact m3) | (rw [← ek]; exact m3) | (have := congrArg Class.mirror ek; simp at this; rw [← this]; exact m3) | (have := congrArg Class.mirror ek; simp at this; rw [this]; exact m3)
    show ((s.vm.findClass C).bind fun c => (s.vm.classes[c]?).bind fun k => k.mirror.bind fun a => some (Value.ref a)) = some (.ref mr)
    rw [hf']
    show ((s.vm.classes[cc]?).bind fun k => k.mirror.bind fun a => some (Value.ref a)) = some (.ref mr)
    rw [q]
    show (k'.mirror.bind fun a => some (Value.ref a)) = some (.ref mr)
    rw [hm]
    rfl) (g := mkF m pc Ls st) rfl hd
  exact Goes.via st' (k _ X' eT)
theorem own_cpA (X : Stand p l e R s m args below meth c T locs cells slots) (hx : p.tables.exec = Jvm.exec) (hZ : Z.Warmed39 s.vm) {own : String} {index : Nat} (hown : s.vm.findClass own = some m.cls) (w1 : (Jvm.Cond.methodLink own index Jvm.Stand.acN).before a0 Z = true) (w2 : (Jvm.Cond.native Jvm.Stand.acN).before a0 Z = true) (w3 : (Jvm.Cond.static Jvm.Stand.acN).before a0 Z = true) (w4 : (Jvm.Cond.initialized "java/lang/System").before a0 Z = true) (eT : T.heap = h) {a b : Addr} {k k' : ClassId} {ty ty' : FieldType} {z z' sp dp nn : Int32} {vs vd us vr : List Value} {dv dd : Value} (A : Arv Z h a k ty z vs dv) (B : Arv Z h b k' ty' z' vd dd) (hty : (ty = ty' ∧ refKind ty = false) ∨ (refKind ty = true ∧ refKind ty' = true ∧ StoL Z h b us)) (h1 : ¬ sp < 0) (h2 : ¬ dp < 0) (h3 : ¬ nn < 0) (h4 : sp.toNatClampNeg + nn.toNatClampNeg ≤ z.toNatClampNeg) (h5 : dp.toNatClampNeg + nn.toNatClampNeg ≤ z'.toNatClampNeg) (hus : us = (List.range nn.toNatClampNeg).map fun i => vs.getD (sp.toNatClampNeg + i) dv) (hl : dp.toNatClampNeg + nn.toNatClampNeg ≤ vd.length) (hvr : vd.take dp.toNatClampNeg ++ us ++ vd.drop (dp.toNatClampNeg + nn.toNatClampNeg) = vr) (N : Fr n0 locs) (ge : n0 ≤ b) (hsize : Ls.size = c.maxLocals) (hd : decode c.code pc = .ok (.invokestatic index, 3)) (hf : 1 ≤ R.frames) {W : Nat} (hW : (st.map fun v => v.category).sum ≤ W) (hlo : W + 18 ≤ R.locals)
    (k : ∀ T' h' locs', Stand p l e R s m args below meth c T' locs' cells slots → T'.heap = h' → Fr n0 locs' → Keep h h' [b] → Arv Z h' b k' ty' z' vr dd → Goes p e below FE n0 Q (T'.setTop (mkF m (pc + 3) Ls st))) : Goes p e below FE n0 Q (T.setTop (mkF m pc Ls (.int nn :: .int dp :: .ref b :: .int sp :: .ref a :: st))) := by
  subst hvr
  obtain ⟨T', h', L, X', e', N', K', V', st'⟩ := cpA X hx hZ hown w1 w2 w3 w4 eT A B hty h1 h2 h3 h4 h5 hus hl N ge (g := mkF m pc Ls (.int nn :: .int dp :: .ref b :: .int sp :: .ref a :: st)) rfl hsize rfl hd hf (W := W) (by show 2 * 0 + _ ≤ _; omega) hlo
  exact Goes.via st' (k T' h' L X' e' N' K' V')
theorem own_retN (X : Stand p l e R s m args below meth c T locs cells slots) (hx : p.tables.exec = Jvm.exec) {t : FieldType} {z : Int32} (N : Fr n0 locs) (hlk : meth.locks = false) (hc : cells ≤ kc) (hs : slots ≤ ks) (hret : meth.sig.returnType = some t) (ht : t = .boolean ∨ t = .byte ∨ t = .char ∨ t = .short) (hd : decode c.code pc = .ok (.ireturn, 1)) (hq : Q (some (.int (nar t z))) T.heap) : Goes p e below (fun o t L => FrameEnd s o t L kc ks) n0 Q (T.setTop (mkF m pc Ls (.int z :: st))) :=
  Goes.ret X N hlk (fun h => by rw [hret] at h; cases h) hc hs hq (fun fs hr => retN X hx hret ht hd hr)
theorem own_retI (X : Stand p l e R s m args below meth c T locs cells slots) (hx : p.tables.exec = Jvm.exec) {z : Int32} (N : Fr n0 locs) (hlk : meth.locks = false) (hc : cells ≤ kc) (hs : slots ≤ ks) (hret : meth.sig.returnType = some .int) (hd : decode c.code pc = .ok (.ireturn, 1)) (hq : Q (some (.int z)) T.heap) : Goes p e below (fun o t L => FrameEnd s o t L kc ks) n0 Q (T.setTop (mkF m pc Ls (.int z :: st))) :=
  Goes.ret X N hlk (fun h => by rw [hret] at h; cases h) hc hs hq (fun fs hr => retOut X hx hret rfl (Or.inl ⟨rfl, Or.inl rfl, _, rfl⟩) hd hr)
theorem own_retJ (X : Stand p l e R s m args below meth c T locs cells slots) (hx : p.tables.exec = Jvm.exec) {z : Int64} (N : Fr n0 locs) (hlk : meth.locks = false) (hc : cells ≤ kc) (hs : slots ≤ ks) (hret : meth.sig.returnType = some .long) (hd : decode c.code pc = .ok (.lreturn, 1)) (hq : Q (some (.long z)) T.heap) : Goes p e below (fun o t L => FrameEnd s o t L kc ks) n0 Q (T.setTop (mkF m pc Ls (.long z :: st))) :=
  Goes.ret X N hlk (fun h => by rw [hret] at h; cases h) hc hs hq (fun fs hr => retOut X hx hret rfl (Or.inr (Or.inl ⟨rfl, rfl, _, rfl⟩)) hd hr)
theorem own_retR (X : Stand p l e R s m args below meth c T locs cells slots) (hx : p.tables.exec = Jvm.exec) {v : Value} {t : FieldType} (N : Fr n0 locs) (hlk : meth.locks = false) (hc : cells ≤ kc) (hs : slots ≤ ks) (hret : meth.sig.returnType = some t) (ht : t.isReference = true) (hv : v.isRef = true) (hn : narrow t v = v) (hd : decode c.code pc = .ok (.areturn, 1)) (hq : Q (some v) T.heap) : Goes p e below (fun o t L => FrameEnd s o t L kc ks) n0 Q (T.setTop (mkF m pc Ls (v :: st))) :=
  Goes.ret X N hlk (fun h => by rw [hret] at h; cases h) hc hs hq (fun fs hr => retOut X hx hret hn (Or.inr (Or.inr (Or.inr (Or.inr ⟨rfl, ht, hv⟩)))) hd hr)
theorem own_retV (X : Stand p l e R s m args below meth c T locs cells slots) (hx : p.tables.exec = Jvm.exec) (N : Fr n0 locs) (hlk : meth.locks = false) (hc : cells ≤ kc) (hs : slots ≤ ks) (hret : meth.sig.returnType = none) (hd : decode c.code pc = .ok (.return_, 1)) (hq : Q none T.heap) : Goes p e below (fun o t L => FrameEnd s o t L kc ks) n0 Q (T.setTop (mkF m pc Ls [])) :=
  Goes.ret X N hlk (fun _ => rfl) hc hs hq (fun fs hr => X.returnOut hx hret hd hr)
theorem own_bz {P : Prop} [Decidable P] (h : ¬ P) : (if P then (1 : Int32) else (0 : Int32)) = (0 : Int32) := if_neg h
theorem own_bnz {P : Prop} [Decidable P] (h : ¬ ¬ P) : ¬ ((if P then (1 : Int32) else (0 : Int32)) = (0 : Int32)) := by rw [if_pos (Classical.not_not.mp h)]; decide
theorem own_nb (P : Prop) [Decidable P] : narrow .boolean (.int (if P then (1 : Int32) else (0 : Int32))) = (.int (if P then (1 : Int32) else (0 : Int32))) ∧ fits .boolean (.int (if P then (1 : Int32) else (0 : Int32))) = true := by
  by_cases h : P
  · rw [if_pos h]; exact ⟨rfl, rfl⟩
  · rw [if_neg h]; exact ⟨rfl, rfl⟩
theorem own_narb (P : Prop) [Decidable P] : nar .boolean (if P then (1 : Int32) else (0 : Int32)) = (if P then (1 : Int32) else (0 : Int32)) := by
  by_cases h : P
  · rw [if_pos h]; rfl
  · rw [if_neg h]; rfl
theorem own_eq {args : Array Value} {s s' : State} {o : Option Outcome} {idx : List Nat} {a b : Term} {v : Value} (h : (Jvm.Cond.eq a b).value args s o s' idx = some true) (hb : b.eval args s o idx s' = some v) : a.eval args s o idx s' = some v := by
  simp only [Cond.value, hb] at h
  cases ha : a.eval args s o idx s' with
  | none => simp [ha] at h
  | some w => rw [ha] at h; cases w <;> cases v <;> simp_all
theorem own_len {args : Array Value} {t : Term} {a : Addr} {cl : Cell} {ty : FieldType} {z : Int32} (ev : t.eval args Z none [] Z = some (.ref a)) (A : Arr Z Z.heap a cl ty) (hl : (Term.length t).eval args Z none [] Z = some (.int z)) : cl.slots.size < 2 ^ 31 ∧ cl.slots.size.toInt32 = z := by
  have ha : Z.arrayAt? a = some cl := A.fin (Vm.Alike.refl _)
  by_cases q : cl.slots.size < 2 ^ 31
  · have h2 := (len_f ev ha q).symm.trans hl
    exact ⟨q, by cases h2; rfl⟩
  · simp [Term.eval, ev, ha, q] at hl
theorem own_arr {args : Array Value} {t : Term} {a : Addr} {cl : Cell} {ty : FieldType} {z : Int32} {vs : List Value} {dv : Value} (hf : Fit Z) (ev : t.eval args Z none [] Z = some (.ref a)) (A : Arr Z Z.heap a cl ty) (hl : (Term.length t).eval args Z none [] Z = some (.int z)) (hz : ¬ z < 0) (hn : z.toNatClampNeg = vs.length) (H : HasL cl 0 vs) : Arv Z Z.heap a cl.cls ty z vs dv :=
  Arv.start hf A (own_len ev A hl).1 (own_len ev A hl).2 hz hn H
theorem own_fold {f : Nat → Option Bool} : ∀ (L : List Nat) (acc : Option Bool), L.foldl (fun acc i => match acc with | some true => f i | x => x) acc = some true → acc = some true ∧ ∀ i ∈ L, f i = some true
  | [], acc, h => ⟨h, fun _ q => nomatch q⟩
  | i :: L, acc, h => by
    obtain ⟨h1, h2⟩ := own_fold L _ h
    have h3 : acc = some true := by rcases acc with _ | (_ | _) <;> simp_all
    subst h3
    exact ⟨rfl, fun j hj => by rcases List.mem_cons.mp hj with rfl | q; exact h1; exact h2 j q⟩
theorem own_all {args : Array Value} {first s : State} {o : Option Outcome} {idx : List Nat} {t : Term} {c : Jvm.Cond} {a : Addr} {cell : Cell} (h : (Jvm.Cond.all t c).value args first o s idx = some true) (ev : t.eval args first o idx s = some (.ref a)) (ha : s.arrayAt? a = some cell) : ∀ i, i < cell.slots.size → c.value args first o s (i :: idx) = some true := by
  intro i hi
  simp only [Cond.value, ev, ha] at h
  exact (own_fold _ _ h).2 i (List.mem_range.mpr hi)
theorem own_exaI {args : Array Value} {t : Term} {C : String} {idx : List Nat} (h : (Jvm.Cond.exactly t C).value args Z none Z idx = some true) : ∃ b, t.eval args Z none idx Z = some (.ref b) ∧ Exa Z Z.heap b C := by
  obtain ⟨a, c, cell, k, e1, e2, e3, e4, e5, e6, e7⟩ := Cond.exactly_spec (beq_iff_eq.mpr h : (Jvm.Cond.exactly t C).holds args Z none Z idx = true)
  subst e6
  exact ⟨a, e1, cell, k, e3, e2, e4, e5, e7⟩
theorem own_NSroot {O K : String} {nn : Nat} (w : (Jvm.Cond.noSuperclass O).before a0 Z = true) (wi : (Jvm.Cond.instantiable K nn).before a0 Z = true) (hn : O ≠ K) : NS Z O K := by
  obtain ⟨c, k, h1, h2, h3, -, -⟩ := Cond.noSuperclass_spec w
  obtain ⟨t, kt, g1, -⟩ := Cond.instantiable_spec wi
  have ne := ids_ne h1 g1 hn
  refine ⟨c, t, h1, g1, fun fuel => ?_⟩
  cases fuel with
  | zero => rfl
  | succ f => simp [Vm.isSubclassAux, ne, h2, h3]
theorem own_NSno {C S K : String} {nn : Nat} (w : (Jvm.Cond.superclass C S).before a0 Z = true) (wi : (Jvm.Cond.instantiable K nn).before a0 Z = true) (n : NS Z C K) (hn : C ≠ K) : ∃ c t, Z.vm.findClass C = some c ∧ Z.vm.findClass K = some t ∧ Z.vm.assignable c t = false := by
  obtain ⟨c, t, h0, g0, n3⟩ := n
  obtain ⟨p, k, kp, h1, h2, h3, h4, h5, -, h7⟩ := Cond.superclass_spec h0 w
  obtain ⟨t', k', g1, g2, g5, g7, -⟩ := Cond.instantiable_spec wi
  cases g0.symm.trans g1
  rw [Bool.or_eq_false_iff] at g7
  have ne := ids_ne h0 g0 hn
  refine ⟨c, t, h0, g0, ?_⟩
  show Z.vm.assignableAux (255 + 1) c t = false
  simp [Vm.assignableAux, ne, h2, g2, h5, g5, g7.1, Vm.isSubclass, n3]
end OwnKit
def Start (Z : State) (w_ENCRYPTED_IDENTITY : Addr) (w__VALUES : Addr) (w_BSN : Addr) (w_PSEUDONYM : Addr) (w_SIGNED_ENCRYPTED_IDENTITY : Addr) (w_SIGNED_ENCRYPTED_PSEUDONYM : Addr) (w_SIGNED_POLYMORPHIC_IDENTITY : Addr) (w_SIGNED_POLYMORPHIC_PSEUDONYM : Addr) (w_ENCRYPTED_PSEUDONYM : Addr) (w_POLYMORPHIC_IDENTITY : Addr) (w_POLYMORPHIC_PSEUDONYM : Addr) (w_EMPTY : Addr) (k_w__VALUES : ClassId) : Prop :=
  Sta Z Z.heap "com/example/ketenwacht/ketenwacht/model/StructureType" "ENCRYPTED_IDENTITY" "Lcom/example/ketenwacht/ketenwacht/model/StructureType;" (.ref w_ENCRYPTED_IDENTITY) ∧
  Exa Z Z.heap w_ENCRYPTED_IDENTITY "com/example/ketenwacht/ketenwacht/model/StructureType" ∧
  Sta Z Z.heap "com/example/ketenwacht/ketenwacht/model/NameIdFormat" "$VALUES" "[Lcom/example/ketenwacht/ketenwacht/model/NameIdFormat;" (.ref w__VALUES) ∧
  Exa Z Z.heap w__VALUES "[Lcom/example/ketenwacht/ketenwacht/model/NameIdFormat;" ∧
  Sta Z Z.heap "com/example/ketenwacht/ketenwacht/model/NameIdFormat" "BSN" "Lcom/example/ketenwacht/ketenwacht/model/NameIdFormat;" (.ref w_BSN) ∧
  Exa Z Z.heap w_BSN "com/example/ketenwacht/ketenwacht/model/NameIdFormat" ∧
  Sta Z Z.heap "com/example/ketenwacht/ketenwacht/model/NameIdFormat" "PSEUDONYM" "Lcom/example/ketenwacht/ketenwacht/model/NameIdFormat;" (.ref w_PSEUDONYM) ∧
  Exa Z Z.heap w_PSEUDONYM "com/example/ketenwacht/ketenwacht/model/NameIdFormat" ∧
  Sta Z Z.heap "com/example/ketenwacht/ketenwacht/model/StructureType" "SIGNED_ENCRYPTED_IDENTITY" "Lcom/example/ketenwacht/ketenwacht/model/StructureType;" (.ref w_SIGNED_ENCRYPTED_IDENTITY) ∧
  Exa Z Z.heap w_SIGNED_ENCRYPTED_IDENTITY "com/example/ketenwacht/ketenwacht/model/StructureType" ∧
  Sta Z Z.heap "com/example/ketenwacht/ketenwacht/model/StructureType" "SIGNED_ENCRYPTED_PSEUDONYM" "Lcom/example/ketenwacht/ketenwacht/model/StructureType;" (.ref w_SIGNED_ENCRYPTED_PSEUDONYM) ∧
  Exa Z Z.heap w_SIGNED_ENCRYPTED_PSEUDONYM "com/example/ketenwacht/ketenwacht/model/StructureType" ∧
  Sta Z Z.heap "com/example/ketenwacht/ketenwacht/model/StructureType" "SIGNED_POLYMORPHIC_IDENTITY" "Lcom/example/ketenwacht/ketenwacht/model/StructureType;" (.ref w_SIGNED_POLYMORPHIC_IDENTITY) ∧
  Exa Z Z.heap w_SIGNED_POLYMORPHIC_IDENTITY "com/example/ketenwacht/ketenwacht/model/StructureType" ∧
  Sta Z Z.heap "com/example/ketenwacht/ketenwacht/model/StructureType" "SIGNED_POLYMORPHIC_PSEUDONYM" "Lcom/example/ketenwacht/ketenwacht/model/StructureType;" (.ref w_SIGNED_POLYMORPHIC_PSEUDONYM) ∧
  Exa Z Z.heap w_SIGNED_POLYMORPHIC_PSEUDONYM "com/example/ketenwacht/ketenwacht/model/StructureType" ∧
  Sta Z Z.heap "com/example/ketenwacht/ketenwacht/model/StructureType" "ENCRYPTED_PSEUDONYM" "Lcom/example/ketenwacht/ketenwacht/model/StructureType;" (.ref w_ENCRYPTED_PSEUDONYM) ∧
  Exa Z Z.heap w_ENCRYPTED_PSEUDONYM "com/example/ketenwacht/ketenwacht/model/StructureType" ∧
  Sta Z Z.heap "com/example/ketenwacht/ketenwacht/model/StructureType" "POLYMORPHIC_IDENTITY" "Lcom/example/ketenwacht/ketenwacht/model/StructureType;" (.ref w_POLYMORPHIC_IDENTITY) ∧
  Exa Z Z.heap w_POLYMORPHIC_IDENTITY "com/example/ketenwacht/ketenwacht/model/StructureType" ∧
  Sta Z Z.heap "com/example/ketenwacht/ketenwacht/model/StructureType" "POLYMORPHIC_PSEUDONYM" "Lcom/example/ketenwacht/ketenwacht/model/StructureType;" (.ref w_POLYMORPHIC_PSEUDONYM) ∧
  Exa Z Z.heap w_POLYMORPHIC_PSEUDONYM "com/example/ketenwacht/ketenwacht/model/StructureType" ∧
  Sta Z Z.heap "java/util/Optional" "EMPTY" "Ljava/util/Optional;" (.ref w_EMPTY) ∧
  Exa Z Z.heap w_EMPTY "java/util/Optional" ∧
  Arv Z Z.heap w__VALUES k_w__VALUES (.object "com/example/ketenwacht/ketenwacht/model/NameIdFormat") (2 : Int32) [(.ref w_BSN), (.ref w_PSEUDONYM)] .null ∧
  Fld Z Z.heap w_BSN "com/example/ketenwacht/ketenwacht/model/NameIdFormat" "structureType" "Lcom/example/ketenwacht/ketenwacht/model/StructureType;" (.ref w_SIGNED_ENCRYPTED_IDENTITY) ∧
  Fld Z Z.heap w_SIGNED_ENCRYPTED_IDENTITY "java/lang/Enum" "ordinal" "I" (.int (2 : Int32)) ∧
  Fld Z Z.heap w_ENCRYPTED_IDENTITY "java/lang/Enum" "ordinal" "I" (.int (0 : Int32)) ∧
  Fld Z Z.heap w_PSEUDONYM "com/example/ketenwacht/ketenwacht/model/NameIdFormat" "structureType" "Lcom/example/ketenwacht/ketenwacht/model/StructureType;" (.ref w_SIGNED_ENCRYPTED_PSEUDONYM) ∧
  Fld Z Z.heap w_SIGNED_ENCRYPTED_PSEUDONYM "java/lang/Enum" "ordinal" "I" (.int (3 : Int32)) ∧
  Fld Z Z.heap w_SIGNED_POLYMORPHIC_IDENTITY "java/lang/Enum" "ordinal" "I" (.int (6 : Int32)) ∧
  Fld Z Z.heap w_SIGNED_POLYMORPHIC_PSEUDONYM "java/lang/Enum" "ordinal" "I" (.int (7 : Int32)) ∧
  Fld Z Z.heap w_ENCRYPTED_PSEUDONYM "java/lang/Enum" "ordinal" "I" (.int (1 : Int32)) ∧
  Fld Z Z.heap w_POLYMORPHIC_IDENTITY "java/lang/Enum" "ordinal" "I" (.int (4 : Int32)) ∧
  Fld Z Z.heap w_POLYMORPHIC_PSEUDONYM "java/lang/Enum" "ordinal" "I" (.int (5 : Int32)) ∧
  Fld Z Z.heap w_EMPTY "java/util/Optional" "value" "Ljava/lang/Object;" .null ∧
  True
theorem d1_0 : decode method_2_code 0 = .ok (.iload_n 0, 1) := by decide +kernel
theorem d1_1 : decode method_2_code 1 = .ok (.ifCond .ne 7, 3) := by decide +kernel
theorem d1_4 : decode method_2_code 4 = .ok (.getstatic 7, 3) := by decide +kernel
theorem d1_7 : decode method_2_code 7 = .ok (.areturn, 1) := by decide +kernel
theorem d1_8 : decode method_2_code 8 = .ok (.iload_n 0, 1) := by decide +kernel
theorem d1_9 : decode method_2_code 9 = .ok (.iconst 1, 1) := by decide +kernel
theorem d1_10 : decode method_2_code 10 = .ok (.if_icmp .ne 7, 3) := by decide +kernel
theorem d1_13 : decode method_2_code 13 = .ok (.getstatic 13, 3) := by decide +kernel
theorem d1_16 : decode method_2_code 16 = .ok (.areturn, 1) := by decide +kernel
theorem d1_17 : decode method_2_code 17 = .ok (.iload_n 0, 1) := by decide +kernel
theorem d1_18 : decode method_2_code 18 = .ok (.iconst 2, 1) := by decide +kernel
theorem d1_19 : decode method_2_code 19 = .ok (.if_icmp .ne 7, 3) := by decide +kernel
theorem d1_22 : decode method_2_code 22 = .ok (.getstatic 16, 3) := by decide +kernel
theorem d1_25 : decode method_2_code 25 = .ok (.areturn, 1) := by decide +kernel
theorem d1_26 : decode method_2_code 26 = .ok (.iload_n 0, 1) := by decide +kernel
theorem d1_27 : decode method_2_code 27 = .ok (.iconst 3, 1) := by decide +kernel
theorem d1_28 : decode method_2_code 28 = .ok (.if_icmp .ne 7, 3) := by decide +kernel
theorem d1_31 : decode method_2_code 31 = .ok (.getstatic 19, 3) := by decide +kernel
theorem d1_34 : decode method_2_code 34 = .ok (.areturn, 1) := by decide +kernel
theorem d1_35 : decode method_2_code 35 = .ok (.iload_n 0, 1) := by decide +kernel
theorem d1_36 : decode method_2_code 36 = .ok (.iconst 4, 1) := by decide +kernel
theorem d1_37 : decode method_2_code 37 = .ok (.if_icmp .ne 7, 3) := by decide +kernel
theorem d1_40 : decode method_2_code 40 = .ok (.getstatic 22, 3) := by decide +kernel
theorem d1_43 : decode method_2_code 43 = .ok (.areturn, 1) := by decide +kernel
theorem d1_44 : decode method_2_code 44 = .ok (.iload_n 0, 1) := by decide +kernel
theorem d1_45 : decode method_2_code 45 = .ok (.iconst 5, 1) := by decide +kernel
theorem d1_46 : decode method_2_code 46 = .ok (.if_icmp .ne 7, 3) := by decide +kernel
theorem d1_49 : decode method_2_code 49 = .ok (.getstatic 25, 3) := by decide +kernel
theorem d1_52 : decode method_2_code 52 = .ok (.areturn, 1) := by decide +kernel
theorem d1_53 : decode method_2_code 53 = .ok (.iload_n 0, 1) := by decide +kernel
theorem d1_54 : decode method_2_code 54 = .ok (.bipush 6, 2) := by decide +kernel
theorem d1_56 : decode method_2_code 56 = .ok (.if_icmp .ne 7, 3) := by decide +kernel
theorem d1_59 : decode method_2_code 59 = .ok (.getstatic 28, 3) := by decide +kernel
theorem d1_62 : decode method_2_code 62 = .ok (.areturn, 1) := by decide +kernel
theorem d1_63 : decode method_2_code 63 = .ok (.getstatic 31, 3) := by decide +kernel
theorem d1_66 : decode method_2_code 66 = .ok (.areturn, 1) := by decide +kernel
theorem pn_0 : plainName "com/example/ketenwacht/ketenwacht/model/NameIdFormatOfPinLaw" = true := by first | (simp [plainName, overriddenIn]; done) | decide +kernel
def Q1 (Z : State) (p1 : Int32) (w_ENCRYPTED_IDENTITY : Addr) (w__VALUES : Addr) (w_BSN : Addr) (w_PSEUDONYM : Addr) (w_SIGNED_ENCRYPTED_IDENTITY : Addr) (w_SIGNED_ENCRYPTED_PSEUDONYM : Addr) (w_SIGNED_POLYMORPHIC_IDENTITY : Addr) (w_SIGNED_POLYMORPHIC_PSEUDONYM : Addr) (w_ENCRYPTED_PSEUDONYM : Addr) (w_POLYMORPHIC_IDENTITY : Addr) (w_POLYMORPHIC_PSEUDONYM : Addr) (w_EMPTY : Addr) (k_w__VALUES : ClassId) (h0 : Heap) (n0 : Nat) (v : Option Value) (h : Heap) : Prop :=
  (v = some (.ref w_ENCRYPTED_IDENTITY) ∧ p1 = (0 : Int32) ∧ h = h0) ∨
  (v = some (.ref w_ENCRYPTED_PSEUDONYM) ∧ p1 = (1 : Int32) ∧ h = h0) ∨
  (v = some (.ref w_SIGNED_ENCRYPTED_IDENTITY) ∧ p1 = (2 : Int32) ∧ h = h0) ∨
  (v = some (.ref w_SIGNED_ENCRYPTED_PSEUDONYM) ∧ p1 = (3 : Int32) ∧ h = h0) ∨
  (v = some (.ref w_POLYMORPHIC_IDENTITY) ∧ p1 = (4 : Int32) ∧ h = h0) ∨
  (v = some (.ref w_POLYMORPHIC_PSEUDONYM) ∧ p1 = (5 : Int32) ∧ h = h0) ∨
  (v = some (.ref w_SIGNED_POLYMORPHIC_IDENTITY) ∧ p1 = (6 : Int32) ∧ h = h0) ∨
  (v = some (.ref w_SIGNED_POLYMORPHIC_PSEUDONYM) ∧ ¬ (p1 = (0 : Int32)) ∧ ¬ (p1 = (1 : Int32)) ∧ ¬ (p1 = (2 : Int32)) ∧ ¬ (p1 = (3 : Int32)) ∧ ¬ (p1 = (4 : Int32)) ∧ ¬ (p1 = (5 : Int32)) ∧ ¬ (p1 = (6 : Int32)) ∧ h = h0)
theorem ef_1 (m : MethodId) (p1 : Int32) : entryFrame m #[(.int p1)] 1 = mkF m 0 #[.val (.int p1)] [] := by first | (simp [entryFrame, mkF, argsToLocals, Value.category]; done) | rfl
set_option maxRecDepth 65536 in
set_option maxHeartbeats 40000000 in
theorem rm1 (l : Launch) (Z : State) (a0 : Array Value) (hw : ∀ d ∈ tables_1, d.before a0 Z = true) (ws : List Jvm.Cond) (p1 : Int32) (w_ENCRYPTED_IDENTITY : Addr) (w__VALUES : Addr) (w_BSN : Addr) (w_PSEUDONYM : Addr) (w_SIGNED_ENCRYPTED_IDENTITY : Addr) (w_SIGNED_ENCRYPTED_PSEUDONYM : Addr) (w_SIGNED_POLYMORPHIC_IDENTITY : Addr) (w_SIGNED_POLYMORPHIC_PSEUDONYM : Addr) (w_ENCRYPTED_PSEUDONYM : Addr) (w_POLYMORPHIC_IDENTITY : Addr) (w_POLYMORPHIC_PSEUDONYM : Addr) (w_EMPTY : Addr) (k_w__VALUES : ClassId) (h0 : Heap) (n0 : Nat) (O0 : Old Z n0 h0) (SF : Start Z w_ENCRYPTED_IDENTITY w__VALUES w_BSN w_PSEUDONYM w_SIGNED_ENCRYPTED_IDENTITY w_SIGNED_ENCRYPTED_PSEUDONYM w_SIGNED_POLYMORPHIC_IDENTITY w_SIGNED_POLYMORPHIC_PSEUDONYM w_ENCRYPTED_PSEUDONYM w_POLYMORPHIC_IDENTITY w_POLYMORPHIC_PSEUDONYM w_EMPTY k_w__VALUES) :
    Meets l (⟨"com/example/ketenwacht/ketenwacht/model/NameIdFormatOfPinLaw", "pick", "(I)Lcom/example/ketenwacht/ketenwacht/model/StructureType;"⟩ : MethodName) method_2_code 1 (some (.object "com/example/ketenwacht/ketenwacht/model/StructureType")) ws ({ frames := 0, cells := 0, slots := 0, locals := 0 } : Room) ({ frames := 0, cells := 0, slots := 0, locals := 0 } : Room).cells ({ frames := 0, cells := 0, slots := 0, locals := 0 } : Room).slots Z #[(.int p1)] h0 n0 (Q1 Z p1 w_ENCRYPTED_IDENTITY w__VALUES w_BSN w_PSEUDONYM w_SIGNED_ENCRYPTED_IDENTITY w_SIGNED_ENCRYPTED_PSEUDONYM w_SIGNED_POLYMORPHIC_IDENTITY w_SIGNED_POLYMORPHIC_PSEUDONYM w_ENCRYPTED_PSEUDONYM w_POLYMORPHIC_IDENTITY w_POLYMORPHIC_PSEUDONYM w_EMPTY k_w__VALUES h0 n0) := by
  refine Meets.of (F := fun m => mkF m 0 #[.val (.int p1)] []) (plainFor_of_name pn_0) (fun m => ef_1 m p1) ?_
  intro p e s m below meth c T0 hx hby hml hown0 hnm hret hlk hZ X0 e0
  have hown : s.vm.findClass "com/example/ketenwacht/ketenwacht/model/NameIdFormatOfPinLaw" = some m.cls := hown0
  have N0 := Fr.nil n0
  obtain ⟨z0, z1, z2, z3, z4, z5, z6, z7, z8, z9, z10, z11, z12, z13, z14, z15, z16, z17, z18, z19, z20, z21, z22, z23, z24, z25, z26, z27, z28, z29, z30, z31, z32, z33, z34, z35, -⟩ := SF
  show Goes _ _ _ _ _ _ (T0.setTop (mkF m 0 #[.val (.int p1)] []))
  refine own_iloadN X0 hx (hb hby d1_0) rfl ?_
  show Goes _ _ _ _ _ _ (T0.setTop (mkF m 1 #[.val (.int p1)] [(.int p1)]))
  by_cases hc1_1 : p1 = (0 : Int32)
  ·
    refine own_ifNo X0 hx (hb hby d1_1) ((if0 _ _).trans (teq (hc1_1 : p1 = (0 : Int32))).2) ?_
    show Goes _ _ _ _ _ _ (T0.setTop (mkF m 4 #[.val (.int p1)] []))
    refine own_getS X0 hx hZ hown (host := "") (Or.inl (hw _ (List.mem_of_getElem? (i := 5) rfl))) Via.refl e0 (z0.ext O0.2) (hb hby d1_4) (fun T2 X2 e2 => ?_)
    show Goes _ _ _ _ _ _ (T2.setTop (mkF m 7 #[.val (.int p1)] [(.ref w_ENCRYPTED_IDENTITY)]))
    exact own_retR X2 hx N0 hlk (by decide) (by decide) hret rfl rfl rfl (hb hby d1_7) (by rw [e2]; exact Or.inl ⟨rfl, hc1_1, rfl⟩)
  ·
    refine own_ifYes X0 hx (pc' := 8) (hb hby d1_1) ((if0 _ _).trans (feq (hc1_1 : ¬ (p1 = (0 : Int32)))).2) (by decide) (by decide) ?_
    show Goes _ _ _ _ _ _ (T0.setTop (mkF m 8 #[.val (.int p1)] []))
    refine own_iloadN X0 hx (hb hby d1_8) rfl ?_
    show Goes _ _ _ _ _ _ (T0.setTop (mkF m 9 #[.val (.int p1)] [(.int p1)]))
    refine own_iconst X0 hx (v := (1 : Int32)) (hb hby d1_9) rfl ?_
    show Goes _ _ _ _ _ _ (T0.setTop (mkF m 10 #[.val (.int p1)] [(.int (1 : Int32)), (.int p1)]))
    by_cases hc10_3 : p1 = (1 : Int32)
    ·
      refine own_icmpNo X0 hx (hb hby d1_10) (teq (hc10_3 : p1 = (1 : Int32))).2 ?_
      show Goes _ _ _ _ _ _ (T0.setTop (mkF m 13 #[.val (.int p1)] []))
      refine own_getS X0 hx hZ hown (host := "") (Or.inl (hw _ (List.mem_of_getElem? (i := 74) rfl))) Via.refl e0 (z16.ext O0.2) (hb hby d1_13) (fun T4 X4 e4 => ?_)
      show Goes _ _ _ _ _ _ (T4.setTop (mkF m 16 #[.val (.int p1)] [(.ref w_ENCRYPTED_PSEUDONYM)]))
      exact own_retR X4 hx N0 hlk (by decide) (by decide) hret rfl rfl rfl (hb hby d1_16) (by rw [e4]; exact Or.inr (Or.inl ⟨rfl, hc10_3, rfl⟩))
    ·
      refine own_icmpYes X0 hx (pc' := 17) (hb hby d1_10) (feq (hc10_3 : ¬ (p1 = (1 : Int32)))).2 (by decide) (by decide) ?_
      show Goes _ _ _ _ _ _ (T0.setTop (mkF m 17 #[.val (.int p1)] []))
      refine own_iloadN X0 hx (hb hby d1_17) rfl ?_
      show Goes _ _ _ _ _ _ (T0.setTop (mkF m 18 #[.val (.int p1)] [(.int p1)]))
      refine own_iconst X0 hx (v := (2 : Int32)) (hb hby d1_18) rfl ?_
      show Goes _ _ _ _ _ _ (T0.setTop (mkF m 19 #[.val (.int p1)] [(.int (2 : Int32)), (.int p1)]))
      by_cases hc19_5 : p1 = (2 : Int32)
      ·
        refine own_icmpNo X0 hx (hb hby d1_19) (teq (hc19_5 : p1 = (2 : Int32))).2 ?_
        show Goes _ _ _ _ _ _ (T0.setTop (mkF m 22 #[.val (.int p1)] []))
        refine own_getS X0 hx hZ hown (host := "") (Or.inl (hw _ (List.mem_of_getElem? (i := 72) rfl))) Via.refl e0 (z8.ext O0.2) (hb hby d1_22) (fun T6 X6 e6 => ?_)
        show Goes _ _ _ _ _ _ (T6.setTop (mkF m 25 #[.val (.int p1)] [(.ref w_SIGNED_ENCRYPTED_IDENTITY)]))
        exact own_retR X6 hx N0 hlk (by decide) (by decide) hret rfl rfl rfl (hb hby d1_25) (by rw [e6]; exact Or.inr (Or.inr (Or.inl ⟨rfl, hc19_5, rfl⟩)))
      ·
        refine own_icmpYes X0 hx (pc' := 26) (hb hby d1_19) (feq (hc19_5 : ¬ (p1 = (2 : Int32)))).2 (by decide) (by decide) ?_
        show Goes _ _ _ _ _ _ (T0.setTop (mkF m 26 #[.val (.int p1)] []))
        refine own_iloadN X0 hx (hb hby d1_26) rfl ?_
        show Goes _ _ _ _ _ _ (T0.setTop (mkF m 27 #[.val (.int p1)] [(.int p1)]))
        refine own_iconst X0 hx (v := (3 : Int32)) (hb hby d1_27) rfl ?_
        show Goes _ _ _ _ _ _ (T0.setTop (mkF m 28 #[.val (.int p1)] [(.int (3 : Int32)), (.int p1)]))
        by_cases hc28_7 : p1 = (3 : Int32)
        ·
          refine own_icmpNo X0 hx (hb hby d1_28) (teq (hc28_7 : p1 = (3 : Int32))).2 ?_
          show Goes _ _ _ _ _ _ (T0.setTop (mkF m 31 #[.val (.int p1)] []))
          refine own_getS X0 hx hZ hown (host := "") (Or.inl (hw _ (List.mem_of_getElem? (i := 48) rfl))) Via.refl e0 (z10.ext O0.2) (hb hby d1_31) (fun T8 X8 e8 => ?_)
          show Goes _ _ _ _ _ _ (T8.setTop (mkF m 34 #[.val (.int p1)] [(.ref w_SIGNED_ENCRYPTED_PSEUDONYM)]))
          exact own_retR X8 hx N0 hlk (by decide) (by decide) hret rfl rfl rfl (hb hby d1_34) (by rw [e8]; exact Or.inr (Or.inr (Or.inr (Or.inl ⟨rfl, hc28_7, rfl⟩))))
        ·
          refine own_icmpYes X0 hx (pc' := 35) (hb hby d1_28) (feq (hc28_7 : ¬ (p1 = (3 : Int32)))).2 (by decide) (by decide) ?_
          show Goes _ _ _ _ _ _ (T0.setTop (mkF m 35 #[.val (.int p1)] []))
          refine own_iloadN X0 hx (hb hby d1_35) rfl ?_
          show Goes _ _ _ _ _ _ (T0.setTop (mkF m 36 #[.val (.int p1)] [(.int p1)]))
          refine own_iconst X0 hx (v := (4 : Int32)) (hb hby d1_36) rfl ?_
          show Goes _ _ _ _ _ _ (T0.setTop (mkF m 37 #[.val (.int p1)] [(.int (4 : Int32)), (.int p1)]))
          by_cases hc37_9 : p1 = (4 : Int32)
          ·
            refine own_icmpNo X0 hx (hb hby d1_37) (teq (hc37_9 : p1 = (4 : Int32))).2 ?_
            show Goes _ _ _ _ _ _ (T0.setTop (mkF m 40 #[.val (.int p1)] []))
            refine own_getS X0 hx hZ hown (host := "") (Or.inl (hw _ (List.mem_of_getElem? (i := 76) rfl))) Via.refl e0 (z18.ext O0.2) (hb hby d1_40) (fun T10 X10 e10 => ?_)
            show Goes _ _ _ _ _ _ (T10.setTop (mkF m 43 #[.val (.int p1)] [(.ref w_POLYMORPHIC_IDENTITY)]))
            exact own_retR X10 hx N0 hlk (by decide) (by decide) hret rfl rfl rfl (hb hby d1_43) (by rw [e10]; exact Or.inr (Or.inr (Or.inr (Or.inr (Or.inl ⟨rfl, hc37_9, rfl⟩)))))
          ·
            refine own_icmpYes X0 hx (pc' := 44) (hb hby d1_37) (feq (hc37_9 : ¬ (p1 = (4 : Int32)))).2 (by decide) (by decide) ?_
            show Goes _ _ _ _ _ _ (T0.setTop (mkF m 44 #[.val (.int p1)] []))
            refine own_iloadN X0 hx (hb hby d1_44) rfl ?_
            show Goes _ _ _ _ _ _ (T0.setTop (mkF m 45 #[.val (.int p1)] [(.int p1)]))
            refine own_iconst X0 hx (v := (5 : Int32)) (hb hby d1_45) rfl ?_
            show Goes _ _ _ _ _ _ (T0.setTop (mkF m 46 #[.val (.int p1)] [(.int (5 : Int32)), (.int p1)]))
            by_cases hc46_11 : p1 = (5 : Int32)
            ·
              refine own_icmpNo X0 hx (hb hby d1_46) (teq (hc46_11 : p1 = (5 : Int32))).2 ?_
              show Goes _ _ _ _ _ _ (T0.setTop (mkF m 49 #[.val (.int p1)] []))
              refine own_getS X0 hx hZ hown (host := "") (Or.inl (hw _ (List.mem_of_getElem? (i := 78) rfl))) Via.refl e0 (z20.ext O0.2) (hb hby d1_49) (fun T12 X12 e12 => ?_)
              show Goes _ _ _ _ _ _ (T12.setTop (mkF m 52 #[.val (.int p1)] [(.ref w_POLYMORPHIC_PSEUDONYM)]))
              exact own_retR X12 hx N0 hlk (by decide) (by decide) hret rfl rfl rfl (hb hby d1_52) (by rw [e12]; exact Or.inr (Or.inr (Or.inr (Or.inr (Or.inr (Or.inl ⟨rfl, hc46_11, rfl⟩))))))
            ·
              refine own_icmpYes X0 hx (pc' := 53) (hb hby d1_46) (feq (hc46_11 : ¬ (p1 = (5 : Int32)))).2 (by decide) (by decide) ?_
              show Goes _ _ _ _ _ _ (T0.setTop (mkF m 53 #[.val (.int p1)] []))
              refine own_iloadN X0 hx (hb hby d1_53) rfl ?_
              show Goes _ _ _ _ _ _ (T0.setTop (mkF m 54 #[.val (.int p1)] [(.int p1)]))
              refine own_bipush X0 hx (v := (6 : Int32)) (hb hby d1_54) rfl ?_
              show Goes _ _ _ _ _ _ (T0.setTop (mkF m 56 #[.val (.int p1)] [(.int (6 : Int32)), (.int p1)]))
              by_cases hc56_13 : p1 = (6 : Int32)
              ·
                refine own_icmpNo X0 hx (hb hby d1_56) (teq (hc56_13 : p1 = (6 : Int32))).2 ?_
                show Goes _ _ _ _ _ _ (T0.setTop (mkF m 59 #[.val (.int p1)] []))
                refine own_getS X0 hx hZ hown (host := "") (Or.inl (hw _ (List.mem_of_getElem? (i := 68) rfl))) Via.refl e0 (z12.ext O0.2) (hb hby d1_59) (fun T14 X14 e14 => ?_)
                show Goes _ _ _ _ _ _ (T14.setTop (mkF m 62 #[.val (.int p1)] [(.ref w_SIGNED_POLYMORPHIC_IDENTITY)]))
                exact own_retR X14 hx N0 hlk (by decide) (by decide) hret rfl rfl rfl (hb hby d1_62) (by rw [e14]; exact Or.inr (Or.inr (Or.inr (Or.inr (Or.inr (Or.inr (Or.inl ⟨rfl, hc56_13, rfl⟩)))))))
              ·
                refine own_icmpYes X0 hx (pc' := 63) (hb hby d1_56) (feq (hc56_13 : ¬ (p1 = (6 : Int32)))).2 (by decide) (by decide) ?_
                show Goes _ _ _ _ _ _ (T0.setTop (mkF m 63 #[.val (.int p1)] []))
                refine own_getS X0 hx hZ hown (host := "") (Or.inl (hw _ (List.mem_of_getElem? (i := 70) rfl))) Via.refl e0 (z14.ext O0.2) (hb hby d1_63) (fun T15 X15 e15 => ?_)
                show Goes _ _ _ _ _ _ (T15.setTop (mkF m 66 #[.val (.int p1)] [(.ref w_SIGNED_POLYMORPHIC_PSEUDONYM)]))
                exact own_retR X15 hx N0 hlk (by decide) (by decide) hret rfl rfl rfl (hb hby d1_66) (by rw [e15]; exact Or.inr (Or.inr (Or.inr (Or.inr (Or.inr (Or.inr (Or.inr (⟨rfl, hc1_1, hc10_3, hc19_5, hc28_7, hc37_9, hc46_11, hc56_13, rfl⟩))))))))
theorem d3_0 : decode prog_33_method_1_code 0 = .ok (.getstatic 10, 3) := by decide +kernel
theorem d3_3 : decode prog_33_method_1_code 3 = .ok (.invokevirtual 14, 3) := by decide +kernel
theorem d3_6 : decode prog_33_method_1_code 6 = .ok (.checkcast 15, 3) := by decide +kernel
theorem d3_9 : decode prog_33_method_1_code 9 = .ok (.areturn, 1) := by decide +kernel
theorem pn_1 : plainName "com/example/ketenwacht/ketenwacht/model/NameIdFormat" = true := by first | (simp [plainName, overriddenIn]; done) | decide +kernel
def Q3 (Z : State) (w_ENCRYPTED_IDENTITY : Addr) (w__VALUES : Addr) (w_BSN : Addr) (w_PSEUDONYM : Addr) (w_SIGNED_ENCRYPTED_IDENTITY : Addr) (w_SIGNED_ENCRYPTED_PSEUDONYM : Addr) (w_SIGNED_POLYMORPHIC_IDENTITY : Addr) (w_SIGNED_POLYMORPHIC_PSEUDONYM : Addr) (w_ENCRYPTED_PSEUDONYM : Addr) (w_POLYMORPHIC_IDENTITY : Addr) (w_POLYMORPHIC_PSEUDONYM : Addr) (w_EMPTY : Addr) (k_w__VALUES : ClassId) (h0 : Heap) (n0 : Nat) (v : Option Value) (h : Heap) : Prop :=
  (∃ (b : Addr), v = some (.ref b) ∧ Keep h0 h [] ∧ Exa Z h b "[Lcom/example/ketenwacht/ketenwacht/model/NameIdFormat;" ∧ Arv Z h b k_w__VALUES (.object "com/example/ketenwacht/ketenwacht/model/NameIdFormat") (2 : Int32) [(.ref w_BSN), (.ref w_PSEUDONYM)] .null ∧ h0.size ≤ b)
theorem ef_3 (m : MethodId) : entryFrame m #[] 0 = mkF m 0 #[] [] := by first | (simp [entryFrame, mkF, argsToLocals, Value.category]; done) | rfl
set_option maxRecDepth 65536 in
set_option maxHeartbeats 40000000 in
theorem rm3 (l : Launch) (Z : State) (a0 : Array Value) (hw : ∀ d ∈ tables_1, d.before a0 Z = true) (ws : List Jvm.Cond) (w_ENCRYPTED_IDENTITY : Addr) (w__VALUES : Addr) (w_BSN : Addr) (w_PSEUDONYM : Addr) (w_SIGNED_ENCRYPTED_IDENTITY : Addr) (w_SIGNED_ENCRYPTED_PSEUDONYM : Addr) (w_SIGNED_POLYMORPHIC_IDENTITY : Addr) (w_SIGNED_POLYMORPHIC_PSEUDONYM : Addr) (w_ENCRYPTED_PSEUDONYM : Addr) (w_POLYMORPHIC_IDENTITY : Addr) (w_POLYMORPHIC_PSEUDONYM : Addr) (w_EMPTY : Addr) (k_w__VALUES : ClassId) (h0 : Heap) (n0 : Nat) (O0 : Old Z n0 h0) (SF : Start Z w_ENCRYPTED_IDENTITY w__VALUES w_BSN w_PSEUDONYM w_SIGNED_ENCRYPTED_IDENTITY w_SIGNED_ENCRYPTED_PSEUDONYM w_SIGNED_POLYMORPHIC_IDENTITY w_SIGNED_POLYMORPHIC_PSEUDONYM w_ENCRYPTED_PSEUDONYM w_POLYMORPHIC_IDENTITY w_POLYMORPHIC_PSEUDONYM w_EMPTY k_w__VALUES) :
    Meets l (⟨"com/example/ketenwacht/ketenwacht/model/NameIdFormat", "values", "()[Lcom/example/ketenwacht/ketenwacht/model/NameIdFormat;"⟩ : MethodName) prog_33_method_1_code 0 (some (.array (.object "com/example/ketenwacht/ketenwacht/model/NameIdFormat"))) ws ({ frames := 1, cells := 1, slots := 2, locals := 14 } : Room) ({ frames := 1, cells := 1, slots := 2, locals := 14 } : Room).cells ({ frames := 1, cells := 1, slots := 2, locals := 14 } : Room).slots Z #[] h0 n0 (Q3 Z w_ENCRYPTED_IDENTITY w__VALUES w_BSN w_PSEUDONYM w_SIGNED_ENCRYPTED_IDENTITY w_SIGNED_ENCRYPTED_PSEUDONYM w_SIGNED_POLYMORPHIC_IDENTITY w_SIGNED_POLYMORPHIC_PSEUDONYM w_ENCRYPTED_PSEUDONYM w_POLYMORPHIC_IDENTITY w_POLYMORPHIC_PSEUDONYM w_EMPTY k_w__VALUES h0 n0) := by
  refine Meets.of (F := fun m => mkF m 0 #[] []) (plainFor_of_name pn_1) (fun m => ef_3 m) ?_
  intro p e s m below meth c T0 hx hby hml hown0 hnm hret hlk hZ X0 e0
  have hown : s.vm.findClass "com/example/ketenwacht/ketenwacht/model/NameIdFormat" = some m.cls := hown0
  have N0 := Fr.nil n0
  have KC0 := Keep.refl h0 []
  obtain ⟨z0, z1, z2, z3, z4, z5, z6, z7, z8, z9, z10, z11, z12, z13, z14, z15, z16, z17, z18, z19, z20, z21, z22, z23, z24, z25, z26, z27, z28, z29, z30, z31, z32, z33, z34, z35, -⟩ := SF
  show Goes _ _ _ _ _ _ (T0.setTop (mkF m 0 #[] []))
  refine own_getS X0 hx hZ hown (host := "") (Or.inl (hw _ (List.mem_of_getElem? (i := 15) rfl))) Via.refl e0 (z2.ext O0.2) (hb hby d3_0) (fun T1 X1 e1 => ?_)
  show Goes _ _ _ _ _ _ (T1.setTop (mkF m 3 #[] [(.ref w__VALUES)]))
  refine own_clone X1 hx hZ hown (hw _ (List.mem_of_getElem? (i := 17) rfl)) (hw _ (List.mem_of_getElem? (i := 18) rfl)) (hw _ (List.mem_of_getElem? (i := 22) rfl)) (hw _ (List.mem_of_getElem? (i := 20) rfl)) (hw _ (List.mem_of_getElem? (i := 21) rfl)) (hw _ (List.mem_of_getElem? (i := 23) rfl)) e1 (z24.ext O0.2) (z3.ext O0.2) (by rw [hml]; rfl) (hb hby d3_3) (by decide) (W := 0) (cap := 2) (Nat.le_of_eq rfl) (by decide) (by decide) (by decide) (by decide) (fun T2 h2 b2 g2 X2 e2 E2 V2 A2 => ?_)
  have ge_b2 : n0 ≤ b2 := Nat.le_trans (own_sz O0) (Nat.le_of_eq g2.symm)
  have sz_b2 : h0.size ≤ b2 := Nat.le_trans KC0.1 (Nat.le_of_eq g2.symm)
  have O3 := O0.ext E2
  have KC3 := KC0.ext E2
  show Goes _ _ _ _ _ _ (T2.setTop (mkF m 6 #[] [(.ref b2)]))
  refine own_castY X2 hx hZ hown (hw _ (List.mem_of_getElem? (i := 27) rfl)) e2 (Ins.self A2) (hb hby d3_6) (fun T4 X4 e4 => ?_)
  show Goes _ _ _ _ _ _ (T4.setTop (mkF m 9 #[] [(.ref b2)]))
  exact own_retR X4 hx N0 hlk (by decide) (by decide) hret rfl rfl rfl (hb hby d3_9) (by rw [e4]; exact ⟨b2, rfl, KC3, A2, V2, sz_b2⟩)
theorem d4_0 : decode jdk_32_method_1_code 0 = .ok (.getstatic 1, 3) := by decide +kernel
theorem d4_3 : decode jdk_32_method_1_code 3 = .ok (.astore_n 0, 1) := by decide +kernel
theorem d4_4 : decode jdk_32_method_1_code 4 = .ok (.aload_n 0, 1) := by decide +kernel
theorem d4_5 : decode jdk_32_method_1_code 5 = .ok (.areturn, 1) := by decide +kernel
theorem pn_2 : plainName "java/util/Optional" = true := by first | (simp [plainName, overriddenIn]; done) | decide +kernel
def Q4 (Z : State) (w_ENCRYPTED_IDENTITY : Addr) (w__VALUES : Addr) (w_BSN : Addr) (w_PSEUDONYM : Addr) (w_SIGNED_ENCRYPTED_IDENTITY : Addr) (w_SIGNED_ENCRYPTED_PSEUDONYM : Addr) (w_SIGNED_POLYMORPHIC_IDENTITY : Addr) (w_SIGNED_POLYMORPHIC_PSEUDONYM : Addr) (w_ENCRYPTED_PSEUDONYM : Addr) (w_POLYMORPHIC_IDENTITY : Addr) (w_POLYMORPHIC_PSEUDONYM : Addr) (w_EMPTY : Addr) (k_w__VALUES : ClassId) (h0 : Heap) (n0 : Nat) (v : Option Value) (h : Heap) : Prop :=
  (v = some (.ref w_EMPTY) ∧ h = h0)
theorem ef_4 (m : MethodId) : entryFrame m #[] 1 = mkF m 0 #[.unset] [] := by first | (simp [entryFrame, mkF, argsToLocals, Value.category]; done) | rfl
set_option maxRecDepth 65536 in
set_option maxHeartbeats 40000000 in
theorem rm4 (l : Launch) (Z : State) (a0 : Array Value) (hw : ∀ d ∈ tables_1, d.before a0 Z = true) (ws : List Jvm.Cond) (w_ENCRYPTED_IDENTITY : Addr) (w__VALUES : Addr) (w_BSN : Addr) (w_PSEUDONYM : Addr) (w_SIGNED_ENCRYPTED_IDENTITY : Addr) (w_SIGNED_ENCRYPTED_PSEUDONYM : Addr) (w_SIGNED_POLYMORPHIC_IDENTITY : Addr) (w_SIGNED_POLYMORPHIC_PSEUDONYM : Addr) (w_ENCRYPTED_PSEUDONYM : Addr) (w_POLYMORPHIC_IDENTITY : Addr) (w_POLYMORPHIC_PSEUDONYM : Addr) (w_EMPTY : Addr) (k_w__VALUES : ClassId) (h0 : Heap) (n0 : Nat) (O0 : Old Z n0 h0) (SF : Start Z w_ENCRYPTED_IDENTITY w__VALUES w_BSN w_PSEUDONYM w_SIGNED_ENCRYPTED_IDENTITY w_SIGNED_ENCRYPTED_PSEUDONYM w_SIGNED_POLYMORPHIC_IDENTITY w_SIGNED_POLYMORPHIC_PSEUDONYM w_ENCRYPTED_PSEUDONYM w_POLYMORPHIC_IDENTITY w_POLYMORPHIC_PSEUDONYM w_EMPTY k_w__VALUES) :
    Meets l (⟨"java/util/Optional", "empty", "()Ljava/util/Optional;"⟩ : MethodName) jdk_32_method_1_code 1 (some (.object "java/util/Optional")) ws ({ frames := 0, cells := 0, slots := 0, locals := 0 } : Room) ({ frames := 0, cells := 0, slots := 0, locals := 0 } : Room).cells ({ frames := 0, cells := 0, slots := 0, locals := 0 } : Room).slots Z #[] h0 n0 (Q4 Z w_ENCRYPTED_IDENTITY w__VALUES w_BSN w_PSEUDONYM w_SIGNED_ENCRYPTED_IDENTITY w_SIGNED_ENCRYPTED_PSEUDONYM w_SIGNED_POLYMORPHIC_IDENTITY w_SIGNED_POLYMORPHIC_PSEUDONYM w_ENCRYPTED_PSEUDONYM w_POLYMORPHIC_IDENTITY w_POLYMORPHIC_PSEUDONYM w_EMPTY k_w__VALUES h0 n0) := by
  refine Meets.of (F := fun m => mkF m 0 #[.unset] []) (plainFor_of_name pn_2) (fun m => ef_4 m) ?_
  intro p e s m below meth c T0 hx hby hml hown0 hnm hret hlk hZ X0 e0
  have hown : s.vm.findClass "java/util/Optional" = some m.cls := hown0
  have N0 := Fr.nil n0
  obtain ⟨z0, z1, z2, z3, z4, z5, z6, z7, z8, z9, z10, z11, z12, z13, z14, z15, z16, z17, z18, z19, z20, z21, z22, z23, z24, z25, z26, z27, z28, z29, z30, z31, z32, z33, z34, z35, -⟩ := SF
  show Goes _ _ _ _ _ _ (T0.setTop (mkF m 0 #[.unset] []))
  refine own_getS X0 hx hZ hown (host := "") (Or.inl (hw _ (List.mem_of_getElem? (i := 37) rfl))) Via.refl e0 (z22.ext O0.2) (hb hby d4_0) (fun T1 X1 e1 => ?_)
  show Goes _ _ _ _ _ _ (T1.setTop (mkF m 3 #[.unset] [(.ref w_EMPTY)]))
  refine own_astoreN X1 hx (Ls' := #[.val (.ref w_EMPTY)]) (hb hby d4_3) rfl rfl ?_
  show Goes _ _ _ _ _ _ (T1.setTop (mkF m 4 #[.val (.ref w_EMPTY)] []))
  refine own_aloadN X1 hx (hb hby d4_4) rfl rfl ?_
  show Goes _ _ _ _ _ _ (T1.setTop (mkF m 5 #[.val (.ref w_EMPTY)] [(.ref w_EMPTY)]))
  exact own_retR X1 hx N0 hlk (by decide) (by decide) hret rfl rfl rfl (hb hby d4_5) (by rw [e1]; exact ⟨rfl, rfl⟩)
theorem d8_0 : decode jdk_31_method_10_code 0 = .ok (.aload_n 0, 1) := by decide +kernel
theorem d8_1 : decode jdk_31_method_10_code 1 = .ok (.ifnonnull 11, 3) := by decide +kernel
theorem d8_12 : decode jdk_31_method_10_code 12 = .ok (.aload_n 0, 1) := by decide +kernel
theorem d8_13 : decode jdk_31_method_10_code 13 = .ok (.areturn, 1) := by decide +kernel
theorem pn_3 : plainName "java/util/Objects" = true := by first | (simp [plainName, overriddenIn]; done) | decide +kernel
def Q8 (Z : State) (a1 : Addr) (h0 : Heap) (n0 : Nat) (v : Option Value) (h : Heap) : Prop :=
  (v = some (.ref a1) ∧ h = h0)
theorem ef_8 (m : MethodId) (a1 : Addr) : entryFrame m #[(.ref a1)] 1 = mkF m 0 #[.val (.ref a1)] [] := by first | (simp [entryFrame, mkF, argsToLocals, Value.category]; done) | rfl
set_option maxRecDepth 65536 in
set_option maxHeartbeats 40000000 in
theorem rm8 (l : Launch) (Z : State) (a0 : Array Value) (hw : ∀ d ∈ tables_1, d.before a0 Z = true) (ws : List Jvm.Cond) (a1 : Addr) (h0 : Heap) (n0 : Nat) (O0 : Old Z n0 h0) :
    Meets l (⟨"java/util/Objects", "requireNonNull", "(Ljava/lang/Object;)Ljava/lang/Object;"⟩ : MethodName) jdk_31_method_10_code 1 (some (.object "java/lang/Object")) ws ({ frames := 0, cells := 0, slots := 0, locals := 0 } : Room) ({ frames := 0, cells := 0, slots := 0, locals := 0 } : Room).cells ({ frames := 0, cells := 0, slots := 0, locals := 0 } : Room).slots Z #[(.ref a1)] h0 n0 (Q8 Z a1 h0 n0) := by
  refine Meets.of (F := fun m => mkF m 0 #[.val (.ref a1)] []) (plainFor_of_name pn_3) (fun m => ef_8 m a1) ?_
  intro p e s m below meth c T0 hx hby hml hown0 hnm hret hlk hZ X0 e0
  have hown : s.vm.findClass "java/util/Objects" = some m.cls := hown0
  have N0 := Fr.nil n0
  show Goes _ _ _ _ _ _ (T0.setTop (mkF m 0 #[.val (.ref a1)] []))
  refine own_aloadN X0 hx (hb hby d8_0) rfl rfl ?_
  show Goes _ _ _ _ _ _ (T0.setTop (mkF m 1 #[.val (.ref a1)] [(.ref a1)]))
  refine own_ifnonnullYes X0 hx (pc' := 12) (hb hby d8_1) (by decide) (by decide) ?_
  show Goes _ _ _ _ _ _ (T0.setTop (mkF m 12 #[.val (.ref a1)] []))
  refine own_aloadN X0 hx (hb hby d8_12) rfl rfl ?_
  show Goes _ _ _ _ _ _ (T0.setTop (mkF m 13 #[.val (.ref a1)] [(.ref a1)]))
  exact own_retR X0 hx N0 hlk (by decide) (by decide) hret rfl rfl rfl (hb hby d8_13) (by rw [e0]; exact ⟨rfl, rfl⟩)
theorem d9_0 : decode jdk_32_method_2_code 0 = .ok (.aload_n 0, 1) := by decide +kernel
theorem d9_1 : decode jdk_32_method_2_code 1 = .ok (.invokespecial 7, 3) := by decide +kernel
theorem d9_4 : decode jdk_32_method_2_code 4 = .ok (.aload_n 0, 1) := by decide +kernel
theorem d9_5 : decode jdk_32_method_2_code 5 = .ok (.aload_n 1, 1) := by decide +kernel
theorem d9_6 : decode jdk_32_method_2_code 6 = .ok (.putfield 13, 3) := by decide +kernel
theorem d9_9 : decode jdk_32_method_2_code 9 = .ok (.return_, 1) := by decide +kernel
def Q9 (Z : State) (a1 : Addr) (a2 : Addr) (u1 : Value) (h0 : Heap) (n0 : Nat) (v : Option Value) (h : Heap) : Prop :=
  (v = none ∧ Keep h0 h [a1] ∧ Exa Z h a1 "java/util/Optional" ∧ Fld Z h a1 "java/util/Optional" "value" "Ljava/lang/Object;" (.ref a2))
theorem ef_9 (m : MethodId) (a1 : Addr) (a2 : Addr) : entryFrame m #[(.ref a1), (.ref a2)] 2 = mkF m 0 #[.val (.ref a1), .val (.ref a2)] [] := by first | (simp [entryFrame, mkF, argsToLocals, Value.category]; done) | rfl
set_option maxRecDepth 65536 in
set_option maxHeartbeats 40000000 in
theorem rm9 (l : Launch) (Z : State) (a0 : Array Value) (hw : ∀ d ∈ tables_1, d.before a0 Z = true) (ws : List Jvm.Cond) (a1 : Addr) (a2 : Addr) (u1 : Value) (h0 : Heap) (n0 : Nat) (O0 : Old Z n0 h0) (f0 : Exa Z h0 a1 "java/util/Optional") (f1 : Fld Z h0 a1 "java/util/Optional" "value" "Ljava/lang/Object;" u1) (f2 : n0 ≤ a1) :
    Meets l (⟨"java/util/Optional", "<init>", "(Ljava/lang/Object;)V"⟩ : MethodName) jdk_32_method_2_code 2 none ws ({ frames := 1, cells := 0, slots := 0, locals := 12 } : Room) ({ frames := 1, cells := 0, slots := 0, locals := 12 } : Room).cells ({ frames := 1, cells := 0, slots := 0, locals := 12 } : Room).slots Z #[(.ref a1), (.ref a2)] h0 n0 (Q9 Z a1 a2 u1 h0 n0) := by
  refine Meets.of (F := fun m => mkF m 0 #[.val (.ref a1), .val (.ref a2)] []) (plainFor_of_name pn_2) (fun m => ef_9 m a1 a2) ?_
  intro p e s m below meth c T0 hx hby hml hown0 hnm hret hlk hZ X0 e0
  have hown : s.vm.findClass "java/util/Optional" = some m.cls := hown0
  have N0 := Fr.nil n0
  have KC0 := Keep.refl h0 [a1]
  show Goes _ _ _ _ _ _ (T0.setTop (mkF m 0 #[.val (.ref a1), .val (.ref a2)] []))
  refine own_aloadN X0 hx (hb hby d9_0) rfl rfl ?_
  show Goes _ _ _ _ _ _ (T0.setTop (mkF m 1 #[.val (.ref a1), .val (.ref a2)] [(.ref a1)]))
  refine own_initO X0 hx hZ hown (hw _ (List.mem_of_getElem? (i := 62) rfl)) (hw _ (List.mem_of_getElem? (i := 63) rfl)) (hw _ (List.mem_of_getElem? (i := 64) rfl)) e0 (by rw [hml]; rfl) (hb hby d9_1) (by decide) (W := 0) (Nat.le_of_eq rfl) (by decide) (fun T1 X1 e1 => ?_)
  show Goes _ _ _ _ _ _ (T1.setTop (mkF m 4 #[.val (.ref a1), .val (.ref a2)] []))
  refine own_aloadN X1 hx (hb hby d9_4) rfl rfl ?_
  show Goes _ _ _ _ _ _ (T1.setTop (mkF m 5 #[.val (.ref a1), .val (.ref a2)] [(.ref a1)]))
  refine own_aloadN X1 hx (hb hby d9_5) rfl rfl ?_
  show Goes _ _ _ _ _ _ (T1.setTop (mkF m 6 #[.val (.ref a1), .val (.ref a2)] [(.ref a2), (.ref a1)]))
  refine own_putF X1 hx hZ hown N0 (host := "") (Or.inl (hw _ (List.mem_of_getElem? (i := 43) rfl))) Via.refl e1 f1 f0 (Or.inr ⟨(hw _ (List.mem_of_getElem? (i := 44) rfl)), rfl, hnm⟩) (hw _ (List.mem_of_getElem? (i := 53) rfl)) (ty := (.object "java/lang/Object")) (by decide) rfl rfl f2 (hb hby d9_6) (fun T2 h2 lc2 X2 e2 N2 W2 => ?_)
  have E3_a1 := f0.wr W2
  have F3_value_a1 := f1.same W2
  have O3 := O0.wr W2 f2
  have KC3 := KC0.wr W2 (Or.inl (List.mem_of_getElem? (i := 0) rfl))
  show Goes _ _ _ _ _ _ (T2.setTop (mkF m 9 #[.val (.ref a1), .val (.ref a2)] []))
  exact own_retV X2 hx N2 hlk (by decide) (by decide) hret (hb hby d9_9) (by rw [e2]; exact ⟨rfl, KC3, E3_a1, F3_value_a1⟩)
theorem d7_0 : decode jdk_32_method_3_code 0 = .ok (.new 2, 3) := by decide +kernel
theorem d7_3 : decode jdk_32_method_3_code 3 = .ok (.dup, 1) := by decide +kernel
theorem d7_4 : decode jdk_32_method_3_code 4 = .ok (.aload_n 0, 1) := by decide +kernel
theorem d7_5 : decode jdk_32_method_3_code 5 = .ok (.invokestatic 17, 3) := by decide +kernel
theorem pd_0 : parseMethodDescriptor "(Ljava/lang/Object;)Ljava/lang/Object;" = some ⟨[(.object "java/lang/Object")], some (.object "java/lang/Object")⟩ := by decide +kernel
theorem d7_8 : decode jdk_32_method_3_code 8 = .ok (.invokespecial 23, 3) := by decide +kernel
theorem pd_1 : parseMethodDescriptor "(Ljava/lang/Object;)V" = some ⟨[(.object "java/lang/Object")], none⟩ := by decide +kernel
theorem d7_11 : decode jdk_32_method_3_code 11 = .ok (.areturn, 1) := by decide +kernel
def Q7 (Z : State) (a1 : Addr) (h0 : Heap) (n0 : Nat) (v : Option Value) (h : Heap) : Prop :=
  (∃ (b : Addr), v = some (.ref b) ∧ Keep h0 h [] ∧ Exa Z h b "java/util/Optional" ∧ Fld Z h b "java/util/Optional" "value" "Ljava/lang/Object;" (.ref a1) ∧ h0.size ≤ b)
theorem ef_7 (m : MethodId) (a1 : Addr) : entryFrame m #[(.ref a1)] 1 = mkF m 0 #[.val (.ref a1)] [] := by first | (simp [entryFrame, mkF, argsToLocals, Value.category]; done) | rfl
set_option maxRecDepth 65536 in
set_option maxHeartbeats 40000000 in
theorem rm7 (l : Launch) (Z : State) (a0 : Array Value) (hw : ∀ d ∈ tables_1, d.before a0 Z = true) (ws : List Jvm.Cond) (a1 : Addr) (h0 : Heap) (n0 : Nat) (O0 : Old Z n0 h0) :
    Meets l (⟨"java/util/Optional", "of", "(Ljava/lang/Object;)Ljava/util/Optional;"⟩ : MethodName) jdk_32_method_3_code 1 (some (.object "java/util/Optional")) ws ({ frames := 2, cells := 1, slots := 1, locals := 26 } : Room) ({ frames := 2, cells := 1, slots := 1, locals := 26 } : Room).cells ({ frames := 2, cells := 1, slots := 1, locals := 26 } : Room).slots Z #[(.ref a1)] h0 n0 (Q7 Z a1 h0 n0) := by
  refine Meets.of (F := fun m => mkF m 0 #[.val (.ref a1)] []) (plainFor_of_name pn_2) (fun m => ef_7 m a1) ?_
  intro p e s m below meth c T0 hx hby hml hown0 hnm hret hlk hZ X0 e0
  have hown : s.vm.findClass "java/util/Optional" = some m.cls := hown0
  have N0 := Fr.nil n0
  have KC0 := Keep.refl h0 []
  show Goes _ _ _ _ _ _ (T0.setTop (mkF m 0 #[.val (.ref a1)] []))
  refine own_new X0 hx hZ hown (hw _ (List.mem_of_getElem? (i := 52) rfl)) (hw _ (List.mem_of_getElem? (i := 53) rfl)) (hw _ (List.mem_of_getElem? (i := 35) rfl)) e0 (hb hby d7_0) (by decide) (by decide) (fun T1 h1 b1 g1 X1 e1 E1 A1 D1 => ?_)
  have ge_b1 : n0 ≤ b1 := Nat.le_trans (own_sz O0) (Nat.le_of_eq g1.symm)
  have sz_b1 : h0.size ≤ b1 := Nat.le_trans KC0.1 (Nat.le_of_eq g1.symm)
  have O2 := O0.ext E1
  have KC2 := KC0.ext E1
  have F1_value_b1 : Fld Z h1 b1 "java/util/Optional" "value" "Ljava/lang/Object;" .null := D1 (Or.inr (hw _ (List.mem_of_getElem? (i := 44) rfl))) (ty := (.object "java/lang/Object")) (by decide)
  show Goes _ _ _ _ _ _ (T1.setTop (mkF m 3 #[.val (.ref a1)] [(.ref b1)]))
  refine own_dup X1 hx (hb hby d7_3) rfl ?_
  show Goes _ _ _ _ _ _ (T1.setTop (mkF m 4 #[.val (.ref a1)] [(.ref b1), (.ref b1)]))
  refine own_aloadN X1 hx (hb hby d7_4) rfl rfl ?_
  show Goes _ _ _ _ _ _ (T1.setTop (mkF m 5 #[.val (.ref a1)] [(.ref a1), (.ref b1), (.ref b1)]))
  refine own_callS X1 hx hZ hown (y := (⟨"java/util/Objects", "requireNonNull", "(Ljava/lang/Object;)Ljava/lang/Object;"⟩ : MethodName)) (hw _ (List.mem_of_getElem? (i := 54) rfl)) (hw _ (List.mem_of_getElem? (i := 55) rfl)) (hw _ (List.mem_of_getElem? (i := 56) rfl)) (hw _ (List.mem_of_getElem? (i := 57) rfl)) (by decide) (W := 2) (by decide) (by decide) N0 e1 (by rw [hml]; rfl) (argsL := [(.ref a1)]) (rest := [(.ref b1), (.ref b1)]) (lenOf pd_0 rfl) (Nat.le_of_eq rfl) (by decide) (by decide) (rm8 l Z a0 hw [] a1 h1 n0 O2) rfl (hb hby d7_5) ?_
  intro v3 T3 lc3 X3 N3 hQ3
  obtain ⟨rfl, e3⟩ := hQ3
  show Goes _ _ _ _ _ _ (T3.setTop (mkF m 8 #[.val (.ref a1)] [(.ref a1), (.ref b1), (.ref b1)]))
  refine own_special X3 hx hZ hown (y := (⟨"java/util/Optional", "<init>", "(Ljava/lang/Object;)V"⟩ : MethodName)) rfl (hw _ (List.mem_of_getElem? (i := 58) rfl)) (hw _ (List.mem_of_getElem? (i := 59) rfl)) (hw _ (List.mem_of_getElem? (i := 35) rfl)) (hw _ (List.mem_of_getElem? (i := 61) rfl)) (a := b1) (by decide) (W := 1) (by decide) (by decide) N3 e3 (by rw [hml]; rfl) (argsL := [(.ref a1)]) (rest := [(.ref b1)]) (lenOf pd_1 rfl) (Nat.le_of_eq rfl) (by decide) (by decide) (rm9 l Z a0 hw [] b1 a1 (.null) h1 n0 O2 A1 F1_value_b1 ge_b1) rfl (hb hby d7_8) ?_
  intro v4 T4 lc4 X4 N4 hQ4
  obtain ⟨rfl, K4, r4_0, r4_1⟩ := hQ4
  have O5 := O2.keep K4 (allS ge_b1 all0)
  have KC5 := KC2.trans K4 (allS (Or.inr sz_b1) all0)
  show Goes _ _ _ _ _ _ (T4.setTop (mkF m 11 #[.val (.ref a1)] [(.ref b1)]))
  exact own_retR X4 hx N4 hlk (by decide) (by decide) hret rfl rfl rfl (hb hby d7_11) (⟨b1, rfl, KC5, r4_0, r4_1, sz_b1⟩)
theorem d2_0 : decode prog_33_method_7_code 0 = .ok (.invokestatic 37, 3) := by decide +kernel
theorem pd_2 : parseMethodDescriptor "()[Lcom/example/ketenwacht/ketenwacht/model/NameIdFormat;" = some ⟨[], some (.array (.object "com/example/ketenwacht/ketenwacht/model/NameIdFormat"))⟩ := by decide +kernel
theorem d2_3 : decode prog_33_method_7_code 3 = .ok (.astore_n 1, 1) := by decide +kernel
theorem d2_4 : decode prog_33_method_7_code 4 = .ok (.aload_n 1, 1) := by decide +kernel
theorem d2_5 : decode prog_33_method_7_code 5 = .ok (.arraylength, 1) := by decide +kernel
theorem d2_6 : decode prog_33_method_7_code 6 = .ok (.istore_n 2, 1) := by decide +kernel
theorem d2_7 : decode prog_33_method_7_code 7 = .ok (.iconst 0, 1) := by decide +kernel
theorem d2_8 : decode prog_33_method_7_code 8 = .ok (.istore_n 3, 1) := by decide +kernel
theorem d2_9 : decode prog_33_method_7_code 9 = .ok (.iload_n 3, 1) := by decide +kernel
theorem d2_10 : decode prog_33_method_7_code 10 = .ok (.iload_n 2, 1) := by decide +kernel
theorem d2_11 : decode prog_33_method_7_code 11 = .ok (.if_icmp .ge 29, 3) := by decide +kernel
theorem d2_14 : decode prog_33_method_7_code 14 = .ok (.aload_n 1, 1) := by decide +kernel
theorem d2_15 : decode prog_33_method_7_code 15 = .ok (.iload_n 3, 1) := by decide +kernel
theorem d2_16 : decode prog_33_method_7_code 16 = .ok (.aaload, 1) := by decide +kernel
theorem d2_17 : decode prog_33_method_7_code 17 = .ok (.astore 4, 2) := by decide +kernel
theorem d2_19 : decode prog_33_method_7_code 19 = .ok (.aload 4, 2) := by decide +kernel
theorem d2_21 : decode prog_33_method_7_code 21 = .ok (.getfield 33, 3) := by decide +kernel
theorem d2_24 : decode prog_33_method_7_code 24 = .ok (.aload_n 0, 1) := by decide +kernel
theorem d2_25 : decode prog_33_method_7_code 25 = .ok (.if_acmp .ne 9, 3) := by decide +kernel
theorem d2_28 : decode prog_33_method_7_code 28 = .ok (.aload 4, 2) := by decide +kernel
theorem d2_30 : decode prog_33_method_7_code 30 = .ok (.invokestatic 47, 3) := by decide +kernel
theorem pd_3 : parseMethodDescriptor "(Ljava/lang/Object;)Ljava/util/Optional;" = some ⟨[(.object "java/lang/Object")], some (.object "java/util/Optional")⟩ := by decide +kernel
theorem d2_33 : decode prog_33_method_7_code 33 = .ok (.areturn, 1) := by decide +kernel
def Q2a (Z : State) (w_ENCRYPTED_IDENTITY : Addr) (w__VALUES : Addr) (w_BSN : Addr) (w_PSEUDONYM : Addr) (w_SIGNED_ENCRYPTED_IDENTITY : Addr) (w_SIGNED_ENCRYPTED_PSEUDONYM : Addr) (w_SIGNED_POLYMORPHIC_IDENTITY : Addr) (w_SIGNED_POLYMORPHIC_PSEUDONYM : Addr) (w_ENCRYPTED_PSEUDONYM : Addr) (w_POLYMORPHIC_IDENTITY : Addr) (w_POLYMORPHIC_PSEUDONYM : Addr) (w_EMPTY : Addr) (k_w__VALUES : ClassId) (h0 : Heap) (n0 : Nat) (v : Option Value) (h : Heap) : Prop :=
  (∃ (b : Addr), v = some (.ref b) ∧ Keep h0 h [] ∧ Exa Z h b "java/util/Optional" ∧ Fld Z h b "java/util/Optional" "value" "Ljava/lang/Object;" (.ref w_BSN) ∧ h0.size ≤ b)
theorem ef_2a (m : MethodId) : entryFrame m #[(.ref w_SIGNED_ENCRYPTED_IDENTITY)] 5 = mkF m 0 #[.val (.ref w_SIGNED_ENCRYPTED_IDENTITY), .unset, .unset, .unset, .unset] [] := by first | (simp [entryFrame, mkF, argsToLocals, Value.category]; done) | rfl
set_option maxRecDepth 65536 in
set_option maxHeartbeats 40000000 in
theorem rm2a (l : Launch) (Z : State) (a0 : Array Value) (hw : ∀ d ∈ tables_1, d.before a0 Z = true) (ws : List Jvm.Cond) (w_ENCRYPTED_IDENTITY : Addr) (w__VALUES : Addr) (w_BSN : Addr) (w_PSEUDONYM : Addr) (w_SIGNED_ENCRYPTED_IDENTITY : Addr) (w_SIGNED_ENCRYPTED_PSEUDONYM : Addr) (w_SIGNED_POLYMORPHIC_IDENTITY : Addr) (w_SIGNED_POLYMORPHIC_PSEUDONYM : Addr) (w_ENCRYPTED_PSEUDONYM : Addr) (w_POLYMORPHIC_IDENTITY : Addr) (w_POLYMORPHIC_PSEUDONYM : Addr) (w_EMPTY : Addr) (k_w__VALUES : ClassId) (h0 : Heap) (n0 : Nat) (O0 : Old Z n0 h0) (SF : Start Z w_ENCRYPTED_IDENTITY w__VALUES w_BSN w_PSEUDONYM w_SIGNED_ENCRYPTED_IDENTITY w_SIGNED_ENCRYPTED_PSEUDONYM w_SIGNED_POLYMORPHIC_IDENTITY w_SIGNED_POLYMORPHIC_PSEUDONYM w_ENCRYPTED_PSEUDONYM w_POLYMORPHIC_IDENTITY w_POLYMORPHIC_PSEUDONYM w_EMPTY k_w__VALUES) :
    Meets l (⟨"com/example/ketenwacht/ketenwacht/model/NameIdFormat", "of", "(Lcom/example/ketenwacht/ketenwacht/model/StructureType;)Ljava/util/Optional;"⟩ : MethodName) prog_33_method_7_code 5 (some (.object "java/util/Optional")) ws ({ frames := 3, cells := 2, slots := 3, locals := 38 } : Room) ({ frames := 3, cells := 2, slots := 3, locals := 38 } : Room).cells ({ frames := 3, cells := 2, slots := 3, locals := 38 } : Room).slots Z #[(.ref w_SIGNED_ENCRYPTED_IDENTITY)] h0 n0 (Q2a Z w_ENCRYPTED_IDENTITY w__VALUES w_BSN w_PSEUDONYM w_SIGNED_ENCRYPTED_IDENTITY w_SIGNED_ENCRYPTED_PSEUDONYM w_SIGNED_POLYMORPHIC_IDENTITY w_SIGNED_POLYMORPHIC_PSEUDONYM w_ENCRYPTED_PSEUDONYM w_POLYMORPHIC_IDENTITY w_POLYMORPHIC_PSEUDONYM w_EMPTY k_w__VALUES h0 n0) := by
  refine Meets.of (F := fun m => mkF m 0 #[.val (.ref w_SIGNED_ENCRYPTED_IDENTITY), .unset, .unset, .unset, .unset] []) (plainFor_of_name pn_1) (fun m => ef_2a m) ?_
  intro p e s m below meth c T0 hx hby hml hown0 hnm hret hlk hZ X0 e0
  have hown : s.vm.findClass "com/example/ketenwacht/ketenwacht/model/NameIdFormat" = some m.cls := hown0
  have N0 := Fr.nil n0
  have KC0 := Keep.refl h0 []
  obtain ⟨z0, z1, z2, z3, z4, z5, z6, z7, z8, z9, z10, z11, z12, z13, z14, z15, z16, z17, z18, z19, z20, z21, z22, z23, z24, z25, z26, z27, z28, z29, z30, z31, z32, z33, z34, z35, -⟩ := SF
  show Goes _ _ _ _ _ _ (T0.setTop (mkF m 0 #[.val (.ref w_SIGNED_ENCRYPTED_IDENTITY), .unset, .unset, .unset, .unset] []))
  refine own_callS X0 hx hZ hown (y := (⟨"com/example/ketenwacht/ketenwacht/model/NameIdFormat", "values", "()[Lcom/example/ketenwacht/ketenwacht/model/NameIdFormat;"⟩ : MethodName)) (hw _ (List.mem_of_getElem? (i := 12) rfl)) (hw _ (List.mem_of_getElem? (i := 13) rfl)) (hw _ (List.mem_of_getElem? (i := 10) rfl)) (hw _ (List.mem_of_getElem? (i := 14) rfl)) (by decide) (W := 0) (by decide) (by decide) N0 e0 (by rw [hml]; rfl) (argsL := []) (rest := []) (lenOf pd_2 rfl) (Nat.le_of_eq rfl) (by decide) (by decide) (rm3 l Z a0 hw [] w_ENCRYPTED_IDENTITY w__VALUES w_BSN w_PSEUDONYM w_SIGNED_ENCRYPTED_IDENTITY w_SIGNED_ENCRYPTED_PSEUDONYM w_SIGNED_POLYMORPHIC_IDENTITY w_SIGNED_POLYMORPHIC_PSEUDONYM w_ENCRYPTED_PSEUDONYM w_POLYMORPHIC_IDENTITY w_POLYMORPHIC_PSEUDONYM w_EMPTY k_w__VALUES h0 n0 O0 ⟨z0, z1, z2, z3, z4, z5, z6, z7, z8, z9, z10, z11, z12, z13, z14, z15, z16, z17, z18, z19, z20, z21, z22, z23, z24, z25, z26, z27, z28, z29, z30, z31, z32, z33, z34, z35, trivial⟩) rfl (hb hby d2_0) ?_
  intro v1 T1 lc1 X1 N1 hQ1
  obtain ⟨b_1, rfl, K1, r1_0, r1_1, r1_2⟩ := hQ1
  have O2 := O0.keep K1 all0
  have KC2 := KC0.trans K1 all0
  have ge_b_1 : n0 ≤ b_1 := Nat.le_trans (own_sz O0) r1_2
  have sz_b_1 : h0.size ≤ b_1 := Nat.le_trans KC0.1 r1_2
  show Goes _ _ _ _ _ _ (T1.setTop (mkF m 3 #[.val (.ref w_SIGNED_ENCRYPTED_IDENTITY), .unset, .unset, .unset, .unset] [(.ref b_1)]))
  refine own_astoreN X1 hx (Ls' := #[.val (.ref w_SIGNED_ENCRYPTED_IDENTITY), .val (.ref b_1), .unset, .unset, .unset]) (hb hby d2_3) rfl rfl ?_
  show Goes _ _ _ _ _ _ (T1.setTop (mkF m 4 #[.val (.ref w_SIGNED_ENCRYPTED_IDENTITY), .val (.ref b_1), .unset, .unset, .unset] []))
  refine own_aloadN X1 hx (hb hby d2_4) rfl rfl ?_
  show Goes _ _ _ _ _ _ (T1.setTop (mkF m 5 #[.val (.ref w_SIGNED_ENCRYPTED_IDENTITY), .val (.ref b_1), .unset, .unset, .unset] [(.ref b_1)]))
  refine own_alen X1 hx hZ rfl r1_1 (hb hby d2_5) ?_
  show Goes _ _ _ _ _ _ (T1.setTop (mkF m 6 #[.val (.ref w_SIGNED_ENCRYPTED_IDENTITY), .val (.ref b_1), .unset, .unset, .unset] [(.int (2 : Int32))]))
  refine own_istoreN X1 hx (Ls' := #[.val (.ref w_SIGNED_ENCRYPTED_IDENTITY), .val (.ref b_1), .val (.int (2 : Int32)), .unset, .unset]) (hb hby d2_6) rfl ?_
  show Goes _ _ _ _ _ _ (T1.setTop (mkF m 7 #[.val (.ref w_SIGNED_ENCRYPTED_IDENTITY), .val (.ref b_1), .val (.int (2 : Int32)), .unset, .unset] []))
  refine own_iconst X1 hx (v := (0 : Int32)) (hb hby d2_7) rfl ?_
  show Goes _ _ _ _ _ _ (T1.setTop (mkF m 8 #[.val (.ref w_SIGNED_ENCRYPTED_IDENTITY), .val (.ref b_1), .val (.int (2 : Int32)), .unset, .unset] [(.int (0 : Int32))]))
  refine own_istoreN X1 hx (Ls' := #[.val (.ref w_SIGNED_ENCRYPTED_IDENTITY), .val (.ref b_1), .val (.int (2 : Int32)), .val (.int (0 : Int32)), .unset]) (hb hby d2_8) rfl ?_
  show Goes _ _ _ _ _ _ (T1.setTop (mkF m 9 #[.val (.ref w_SIGNED_ENCRYPTED_IDENTITY), .val (.ref b_1), .val (.int (2 : Int32)), .val (.int (0 : Int32)), .unset] []))
  refine own_iloadN X1 hx (hb hby d2_9) rfl ?_
  show Goes _ _ _ _ _ _ (T1.setTop (mkF m 10 #[.val (.ref w_SIGNED_ENCRYPTED_IDENTITY), .val (.ref b_1), .val (.int (2 : Int32)), .val (.int (0 : Int32)), .unset] [(.int (0 : Int32))]))
  refine own_iloadN X1 hx (hb hby d2_10) rfl ?_
  show Goes _ _ _ _ _ _ (T1.setTop (mkF m 11 #[.val (.ref w_SIGNED_ENCRYPTED_IDENTITY), .val (.ref b_1), .val (.int (2 : Int32)), .val (.int (0 : Int32)), .unset] [(.int (2 : Int32)), (.int (0 : Int32))]))
  refine own_icmpNo X1 hx (hb hby d2_11) (tlt (by decide : (0 : Int32) < (2 : Int32))).2.1 ?_
  show Goes _ _ _ _ _ _ (T1.setTop (mkF m 14 #[.val (.ref w_SIGNED_ENCRYPTED_IDENTITY), .val (.ref b_1), .val (.int (2 : Int32)), .val (.int (0 : Int32)), .unset] []))
  refine own_aloadN X1 hx (hb hby d2_14) rfl rfl ?_
  show Goes _ _ _ _ _ _ (T1.setTop (mkF m 15 #[.val (.ref w_SIGNED_ENCRYPTED_IDENTITY), .val (.ref b_1), .val (.int (2 : Int32)), .val (.int (0 : Int32)), .unset] [(.ref b_1)]))
  refine own_iloadN X1 hx (hb hby d2_15) rfl ?_
  show Goes _ _ _ _ _ _ (T1.setTop (mkF m 16 #[.val (.ref w_SIGNED_ENCRYPTED_IDENTITY), .val (.ref b_1), .val (.int (2 : Int32)), .val (.int (0 : Int32)), .unset] [(.int (0 : Int32)), (.ref b_1)]))
  refine own_aaload X1 hx hZ rfl r1_1 rfl ⟨by decide, by decide⟩ (v := (.ref w_BSN)) rfl (hb hby d2_16) ?_
  show Goes _ _ _ _ _ _ (T1.setTop (mkF m 17 #[.val (.ref w_SIGNED_ENCRYPTED_IDENTITY), .val (.ref b_1), .val (.int (2 : Int32)), .val (.int (0 : Int32)), .unset] [(.ref w_BSN)]))
  refine own_astore X1 hx (Ls' := #[.val (.ref w_SIGNED_ENCRYPTED_IDENTITY), .val (.ref b_1), .val (.int (2 : Int32)), .val (.int (0 : Int32)), .val (.ref w_BSN)]) (hb hby d2_17) rfl rfl ?_
  show Goes _ _ _ _ _ _ (T1.setTop (mkF m 19 #[.val (.ref w_SIGNED_ENCRYPTED_IDENTITY), .val (.ref b_1), .val (.int (2 : Int32)), .val (.int (0 : Int32)), .val (.ref w_BSN)] []))
  refine own_aload X1 hx (hb hby d2_19) rfl rfl ?_
  show Goes _ _ _ _ _ _ (T1.setTop (mkF m 21 #[.val (.ref w_SIGNED_ENCRYPTED_IDENTITY), .val (.ref b_1), .val (.int (2 : Int32)), .val (.int (0 : Int32)), .val (.ref w_BSN)] [(.ref w_BSN)]))
  refine own_getF X1 hx hZ hown (host := "") (Or.inl (hw _ (List.mem_of_getElem? (i := 29) rfl))) Via.refl rfl (z25.ext O2.2) (hb hby d2_21) (fun T3 X3 e3 => ?_)
  show Goes _ _ _ _ _ _ (T3.setTop (mkF m 24 #[.val (.ref w_SIGNED_ENCRYPTED_IDENTITY), .val (.ref b_1), .val (.int (2 : Int32)), .val (.int (0 : Int32)), .val (.ref w_BSN)] [(.ref w_SIGNED_ENCRYPTED_IDENTITY)]))
  refine own_aloadN X3 hx (hb hby d2_24) rfl rfl ?_
  show Goes _ _ _ _ _ _ (T3.setTop (mkF m 25 #[.val (.ref w_SIGNED_ENCRYPTED_IDENTITY), .val (.ref b_1), .val (.int (2 : Int32)), .val (.int (0 : Int32)), .val (.ref w_BSN)] [(.ref w_SIGNED_ENCRYPTED_IDENTITY), (.ref w_SIGNED_ENCRYPTED_IDENTITY)]))
  refine own_acmp X3 hx rfl rfl (same := true) (pc' := 28) (hb hby d2_25) (decide_eq_true rfl) (by decide) (by decide) ?_
  show Goes _ _ _ _ _ _ (T3.setTop (mkF m 28 #[.val (.ref w_SIGNED_ENCRYPTED_IDENTITY), .val (.ref b_1), .val (.int (2 : Int32)), .val (.int (0 : Int32)), .val (.ref w_BSN)] []))
  refine own_aload X3 hx (hb hby d2_28) rfl rfl ?_
  show Goes _ _ _ _ _ _ (T3.setTop (mkF m 30 #[.val (.ref w_SIGNED_ENCRYPTED_IDENTITY), .val (.ref b_1), .val (.int (2 : Int32)), .val (.int (0 : Int32)), .val (.ref w_BSN)] [(.ref w_BSN)]))
  refine own_callS X3 hx hZ hown (y := (⟨"java/util/Optional", "of", "(Ljava/lang/Object;)Ljava/util/Optional;"⟩ : MethodName)) (hw _ (List.mem_of_getElem? (i := 49) rfl)) (hw _ (List.mem_of_getElem? (i := 50) rfl)) (hw _ (List.mem_of_getElem? (i := 35) rfl)) (hw _ (List.mem_of_getElem? (i := 51) rfl)) (by decide) (W := 0) (by decide) (by decide) N1 e3 (by rw [hml]; rfl) (argsL := [(.ref w_BSN)]) (rest := []) (lenOf pd_3 rfl) (Nat.le_of_eq rfl) (by decide) (by decide) (rm7 l Z a0 hw [] w_BSN T1.heap n0 O2) rfl (hb hby d2_30) ?_
  intro v4 T4 lc4 X4 N4 hQ4
  obtain ⟨b_4, rfl, K4, r4_0, r4_1, r4_2⟩ := hQ4
  have O5 := O2.keep K4 all0
  have KC5 := KC2.trans K4 all0
  have ge_b_4 : n0 ≤ b_4 := Nat.le_trans (own_sz O2) r4_2
  have sz_b_4 : h0.size ≤ b_4 := Nat.le_trans KC2.1 r4_2
  show Goes _ _ _ _ _ _ (T4.setTop (mkF m 33 #[.val (.ref w_SIGNED_ENCRYPTED_IDENTITY), .val (.ref b_1), .val (.int (2 : Int32)), .val (.int (0 : Int32)), .val (.ref w_BSN)] [(.ref b_4)]))
  exact own_retR X4 hx N4 hlk (by decide) (by decide) hret rfl rfl rfl (hb hby d2_33) (⟨b_4, rfl, KC5, r4_0, r4_1, sz_b_4⟩)
theorem d2_34 : decode prog_33_method_7_code 34 = .ok (.iinc 3 1, 3) := by decide +kernel
theorem d2_37 : decode prog_33_method_7_code 37 = .ok (.goto (-28), 3) := by decide +kernel
def Q2b (Z : State) (w_ENCRYPTED_IDENTITY : Addr) (w__VALUES : Addr) (w_BSN : Addr) (w_PSEUDONYM : Addr) (w_SIGNED_ENCRYPTED_IDENTITY : Addr) (w_SIGNED_ENCRYPTED_PSEUDONYM : Addr) (w_SIGNED_POLYMORPHIC_IDENTITY : Addr) (w_SIGNED_POLYMORPHIC_PSEUDONYM : Addr) (w_ENCRYPTED_PSEUDONYM : Addr) (w_POLYMORPHIC_IDENTITY : Addr) (w_POLYMORPHIC_PSEUDONYM : Addr) (w_EMPTY : Addr) (k_w__VALUES : ClassId) (h0 : Heap) (n0 : Nat) (v : Option Value) (h : Heap) : Prop :=
  (∃ (b : Addr), v = some (.ref b) ∧ Keep h0 h [] ∧ Exa Z h b "java/util/Optional" ∧ Fld Z h b "java/util/Optional" "value" "Ljava/lang/Object;" (.ref w_PSEUDONYM) ∧ h0.size ≤ b)
theorem ef_2b (m : MethodId) : entryFrame m #[(.ref w_SIGNED_ENCRYPTED_PSEUDONYM)] 5 = mkF m 0 #[.val (.ref w_SIGNED_ENCRYPTED_PSEUDONYM), .unset, .unset, .unset, .unset] [] := by first | (simp [entryFrame, mkF, argsToLocals, Value.category]; done) | rfl
set_option maxRecDepth 65536 in
set_option maxHeartbeats 40000000 in
theorem rm2b (l : Launch) (Z : State) (a0 : Array Value) (hw : ∀ d ∈ tables_1, d.before a0 Z = true) (ws : List Jvm.Cond) (w_ENCRYPTED_IDENTITY : Addr) (w__VALUES : Addr) (w_BSN : Addr) (w_PSEUDONYM : Addr) (w_SIGNED_ENCRYPTED_IDENTITY : Addr) (w_SIGNED_ENCRYPTED_PSEUDONYM : Addr) (w_SIGNED_POLYMORPHIC_IDENTITY : Addr) (w_SIGNED_POLYMORPHIC_PSEUDONYM : Addr) (w_ENCRYPTED_PSEUDONYM : Addr) (w_POLYMORPHIC_IDENTITY : Addr) (w_POLYMORPHIC_PSEUDONYM : Addr) (w_EMPTY : Addr) (k_w__VALUES : ClassId) (h0 : Heap) (n0 : Nat) (O0 : Old Z n0 h0) (SF : Start Z w_ENCRYPTED_IDENTITY w__VALUES w_BSN w_PSEUDONYM w_SIGNED_ENCRYPTED_IDENTITY w_SIGNED_ENCRYPTED_PSEUDONYM w_SIGNED_POLYMORPHIC_IDENTITY w_SIGNED_POLYMORPHIC_PSEUDONYM w_ENCRYPTED_PSEUDONYM w_POLYMORPHIC_IDENTITY w_POLYMORPHIC_PSEUDONYM w_EMPTY k_w__VALUES) :
    Meets l (⟨"com/example/ketenwacht/ketenwacht/model/NameIdFormat", "of", "(Lcom/example/ketenwacht/ketenwacht/model/StructureType;)Ljava/util/Optional;"⟩ : MethodName) prog_33_method_7_code 5 (some (.object "java/util/Optional")) ws ({ frames := 3, cells := 2, slots := 3, locals := 38 } : Room) ({ frames := 3, cells := 2, slots := 3, locals := 38 } : Room).cells ({ frames := 3, cells := 2, slots := 3, locals := 38 } : Room).slots Z #[(.ref w_SIGNED_ENCRYPTED_PSEUDONYM)] h0 n0 (Q2b Z w_ENCRYPTED_IDENTITY w__VALUES w_BSN w_PSEUDONYM w_SIGNED_ENCRYPTED_IDENTITY w_SIGNED_ENCRYPTED_PSEUDONYM w_SIGNED_POLYMORPHIC_IDENTITY w_SIGNED_POLYMORPHIC_PSEUDONYM w_ENCRYPTED_PSEUDONYM w_POLYMORPHIC_IDENTITY w_POLYMORPHIC_PSEUDONYM w_EMPTY k_w__VALUES h0 n0) := by
  refine Meets.of (F := fun m => mkF m 0 #[.val (.ref w_SIGNED_ENCRYPTED_PSEUDONYM), .unset, .unset, .unset, .unset] []) (plainFor_of_name pn_1) (fun m => ef_2b m) ?_
  intro p e s m below meth c T0 hx hby hml hown0 hnm hret hlk hZ X0 e0
  have hown : s.vm.findClass "com/example/ketenwacht/ketenwacht/model/NameIdFormat" = some m.cls := hown0
  have N0 := Fr.nil n0
  have KC0 := Keep.refl h0 []
  obtain ⟨z0, z1, z2, z3, z4, z5, z6, z7, z8, z9, z10, z11, z12, z13, z14, z15, z16, z17, z18, z19, z20, z21, z22, z23, z24, z25, z26, z27, z28, z29, z30, z31, z32, z33, z34, z35, -⟩ := SF
  show Goes _ _ _ _ _ _ (T0.setTop (mkF m 0 #[.val (.ref w_SIGNED_ENCRYPTED_PSEUDONYM), .unset, .unset, .unset, .unset] []))
  refine own_callS X0 hx hZ hown (y := (⟨"com/example/ketenwacht/ketenwacht/model/NameIdFormat", "values", "()[Lcom/example/ketenwacht/ketenwacht/model/NameIdFormat;"⟩ : MethodName)) (hw _ (List.mem_of_getElem? (i := 12) rfl)) (hw _ (List.mem_of_getElem? (i := 13) rfl)) (hw _ (List.mem_of_getElem? (i := 10) rfl)) (hw _ (List.mem_of_getElem? (i := 14) rfl)) (by decide) (W := 0) (by decide) (by decide) N0 e0 (by rw [hml]; rfl) (argsL := []) (rest := []) (lenOf pd_2 rfl) (Nat.le_of_eq rfl) (by decide) (by decide) (rm3 l Z a0 hw [] w_ENCRYPTED_IDENTITY w__VALUES w_BSN w_PSEUDONYM w_SIGNED_ENCRYPTED_IDENTITY w_SIGNED_ENCRYPTED_PSEUDONYM w_SIGNED_POLYMORPHIC_IDENTITY w_SIGNED_POLYMORPHIC_PSEUDONYM w_ENCRYPTED_PSEUDONYM w_POLYMORPHIC_IDENTITY w_POLYMORPHIC_PSEUDONYM w_EMPTY k_w__VALUES h0 n0 O0 ⟨z0, z1, z2, z3, z4, z5, z6, z7, z8, z9, z10, z11, z12, z13, z14, z15, z16, z17, z18, z19, z20, z21, z22, z23, z24, z25, z26, z27, z28, z29, z30, z31, z32, z33, z34, z35, trivial⟩) rfl (hb hby d2_0) ?_
  intro v1 T1 lc1 X1 N1 hQ1
  obtain ⟨b_1, rfl, K1, r1_0, r1_1, r1_2⟩ := hQ1
  have O2 := O0.keep K1 all0
  have KC2 := KC0.trans K1 all0
  have ge_b_1 : n0 ≤ b_1 := Nat.le_trans (own_sz O0) r1_2
  have sz_b_1 : h0.size ≤ b_1 := Nat.le_trans KC0.1 r1_2
  show Goes _ _ _ _ _ _ (T1.setTop (mkF m 3 #[.val (.ref w_SIGNED_ENCRYPTED_PSEUDONYM), .unset, .unset, .unset, .unset] [(.ref b_1)]))
  refine own_astoreN X1 hx (Ls' := #[.val (.ref w_SIGNED_ENCRYPTED_PSEUDONYM), .val (.ref b_1), .unset, .unset, .unset]) (hb hby d2_3) rfl rfl ?_
  show Goes _ _ _ _ _ _ (T1.setTop (mkF m 4 #[.val (.ref w_SIGNED_ENCRYPTED_PSEUDONYM), .val (.ref b_1), .unset, .unset, .unset] []))
  refine own_aloadN X1 hx (hb hby d2_4) rfl rfl ?_
  show Goes _ _ _ _ _ _ (T1.setTop (mkF m 5 #[.val (.ref w_SIGNED_ENCRYPTED_PSEUDONYM), .val (.ref b_1), .unset, .unset, .unset] [(.ref b_1)]))
  refine own_alen X1 hx hZ rfl r1_1 (hb hby d2_5) ?_
  show Goes _ _ _ _ _ _ (T1.setTop (mkF m 6 #[.val (.ref w_SIGNED_ENCRYPTED_PSEUDONYM), .val (.ref b_1), .unset, .unset, .unset] [(.int (2 : Int32))]))
  refine own_istoreN X1 hx (Ls' := #[.val (.ref w_SIGNED_ENCRYPTED_PSEUDONYM), .val (.ref b_1), .val (.int (2 : Int32)), .unset, .unset]) (hb hby d2_6) rfl ?_
  show Goes _ _ _ _ _ _ (T1.setTop (mkF m 7 #[.val (.ref w_SIGNED_ENCRYPTED_PSEUDONYM), .val (.ref b_1), .val (.int (2 : Int32)), .unset, .unset] []))
  refine own_iconst X1 hx (v := (0 : Int32)) (hb hby d2_7) rfl ?_
  show Goes _ _ _ _ _ _ (T1.setTop (mkF m 8 #[.val (.ref w_SIGNED_ENCRYPTED_PSEUDONYM), .val (.ref b_1), .val (.int (2 : Int32)), .unset, .unset] [(.int (0 : Int32))]))
  refine own_istoreN X1 hx (Ls' := #[.val (.ref w_SIGNED_ENCRYPTED_PSEUDONYM), .val (.ref b_1), .val (.int (2 : Int32)), .val (.int (0 : Int32)), .unset]) (hb hby d2_8) rfl ?_
  show Goes _ _ _ _ _ _ (T1.setTop (mkF m 9 #[.val (.ref w_SIGNED_ENCRYPTED_PSEUDONYM), .val (.ref b_1), .val (.int (2 : Int32)), .val (.int (0 : Int32)), .unset] []))
  refine own_iloadN X1 hx (hb hby d2_9) rfl ?_
  show Goes _ _ _ _ _ _ (T1.setTop (mkF m 10 #[.val (.ref w_SIGNED_ENCRYPTED_PSEUDONYM), .val (.ref b_1), .val (.int (2 : Int32)), .val (.int (0 : Int32)), .unset] [(.int (0 : Int32))]))
  refine own_iloadN X1 hx (hb hby d2_10) rfl ?_
  show Goes _ _ _ _ _ _ (T1.setTop (mkF m 11 #[.val (.ref w_SIGNED_ENCRYPTED_PSEUDONYM), .val (.ref b_1), .val (.int (2 : Int32)), .val (.int (0 : Int32)), .unset] [(.int (2 : Int32)), (.int (0 : Int32))]))
  refine own_icmpNo X1 hx (hb hby d2_11) (tlt (by decide : (0 : Int32) < (2 : Int32))).2.1 ?_
  show Goes _ _ _ _ _ _ (T1.setTop (mkF m 14 #[.val (.ref w_SIGNED_ENCRYPTED_PSEUDONYM), .val (.ref b_1), .val (.int (2 : Int32)), .val (.int (0 : Int32)), .unset] []))
  refine own_aloadN X1 hx (hb hby d2_14) rfl rfl ?_
  show Goes _ _ _ _ _ _ (T1.setTop (mkF m 15 #[.val (.ref w_SIGNED_ENCRYPTED_PSEUDONYM), .val (.ref b_1), .val (.int (2 : Int32)), .val (.int (0 : Int32)), .unset] [(.ref b_1)]))
  refine own_iloadN X1 hx (hb hby d2_15) rfl ?_
  show Goes _ _ _ _ _ _ (T1.setTop (mkF m 16 #[.val (.ref w_SIGNED_ENCRYPTED_PSEUDONYM), .val (.ref b_1), .val (.int (2 : Int32)), .val (.int (0 : Int32)), .unset] [(.int (0 : Int32)), (.ref b_1)]))
  refine own_aaload X1 hx hZ rfl r1_1 rfl ⟨by decide, by decide⟩ (v := (.ref w_BSN)) rfl (hb hby d2_16) ?_
  show Goes _ _ _ _ _ _ (T1.setTop (mkF m 17 #[.val (.ref w_SIGNED_ENCRYPTED_PSEUDONYM), .val (.ref b_1), .val (.int (2 : Int32)), .val (.int (0 : Int32)), .unset] [(.ref w_BSN)]))
  refine own_astore X1 hx (Ls' := #[.val (.ref w_SIGNED_ENCRYPTED_PSEUDONYM), .val (.ref b_1), .val (.int (2 : Int32)), .val (.int (0 : Int32)), .val (.ref w_BSN)]) (hb hby d2_17) rfl rfl ?_
  show Goes _ _ _ _ _ _ (T1.setTop (mkF m 19 #[.val (.ref w_SIGNED_ENCRYPTED_PSEUDONYM), .val (.ref b_1), .val (.int (2 : Int32)), .val (.int (0 : Int32)), .val (.ref w_BSN)] []))
  refine own_aload X1 hx (hb hby d2_19) rfl rfl ?_
  show Goes _ _ _ _ _ _ (T1.setTop (mkF m 21 #[.val (.ref w_SIGNED_ENCRYPTED_PSEUDONYM), .val (.ref b_1), .val (.int (2 : Int32)), .val (.int (0 : Int32)), .val (.ref w_BSN)] [(.ref w_BSN)]))
  refine own_getF X1 hx hZ hown (host := "") (Or.inl (hw _ (List.mem_of_getElem? (i := 29) rfl))) Via.refl rfl (z25.ext O2.2) (hb hby d2_21) (fun T3 X3 e3 => ?_)
  show Goes _ _ _ _ _ _ (T3.setTop (mkF m 24 #[.val (.ref w_SIGNED_ENCRYPTED_PSEUDONYM), .val (.ref b_1), .val (.int (2 : Int32)), .val (.int (0 : Int32)), .val (.ref w_BSN)] [(.ref w_SIGNED_ENCRYPTED_IDENTITY)]))
  refine own_aloadN X3 hx (hb hby d2_24) rfl rfl ?_
  show Goes _ _ _ _ _ _ (T3.setTop (mkF m 25 #[.val (.ref w_SIGNED_ENCRYPTED_PSEUDONYM), .val (.ref b_1), .val (.int (2 : Int32)), .val (.int (0 : Int32)), .val (.ref w_BSN)] [(.ref w_SIGNED_ENCRYPTED_PSEUDONYM), (.ref w_SIGNED_ENCRYPTED_IDENTITY)]))
  refine own_acmp X3 hx rfl rfl (same := false) (pc' := 34) (hb hby d2_25) (decide_eq_false fun q => (Fld.ne z26 z29 (by decide)) (Value.ref.inj q)) (by decide) (by decide) ?_
  show Goes _ _ _ _ _ _ (T3.setTop (mkF m 34 #[.val (.ref w_SIGNED_ENCRYPTED_PSEUDONYM), .val (.ref b_1), .val (.int (2 : Int32)), .val (.int (0 : Int32)), .val (.ref w_BSN)] []))
  refine own_iinc X3 hx (Ls' := #[.val (.ref w_SIGNED_ENCRYPTED_PSEUDONYM), .val (.ref b_1), .val (.int (2 : Int32)), .val (.int ((0 : Int32) + (1 : Int32))), .val (.ref w_BSN)]) (hb hby d2_34) rfl rfl ?_
  show Goes _ _ _ _ _ _ (T3.setTop (mkF m 37 #[.val (.ref w_SIGNED_ENCRYPTED_PSEUDONYM), .val (.ref b_1), .val (.int (2 : Int32)), .val (.int ((0 : Int32) + (1 : Int32))), .val (.ref w_BSN)] []))
  refine own_goto X3 hx (pc' := 9) (hb hby d2_37) (by decide) (by decide) ?_
  show Goes _ _ _ _ _ _ (T3.setTop (mkF m 9 #[.val (.ref w_SIGNED_ENCRYPTED_PSEUDONYM), .val (.ref b_1), .val (.int (2 : Int32)), .val (.int ((0 : Int32) + (1 : Int32))), .val (.ref w_BSN)] []))
  refine own_iloadN X3 hx (hb hby d2_9) rfl ?_
  show Goes _ _ _ _ _ _ (T3.setTop (mkF m 10 #[.val (.ref w_SIGNED_ENCRYPTED_PSEUDONYM), .val (.ref b_1), .val (.int (2 : Int32)), .val (.int ((0 : Int32) + (1 : Int32))), .val (.ref w_BSN)] [(.int ((0 : Int32) + (1 : Int32)))]))
  refine own_iloadN X3 hx (hb hby d2_10) rfl ?_
  show Goes _ _ _ _ _ _ (T3.setTop (mkF m 11 #[.val (.ref w_SIGNED_ENCRYPTED_PSEUDONYM), .val (.ref b_1), .val (.int (2 : Int32)), .val (.int ((0 : Int32) + (1 : Int32))), .val (.ref w_BSN)] [(.int (2 : Int32)), (.int ((0 : Int32) + (1 : Int32)))]))
  refine own_icmpNo X3 hx (hb hby d2_11) (tlt (by decide : ((0 : Int32) + (1 : Int32)) < (2 : Int32))).2.1 ?_
  show Goes _ _ _ _ _ _ (T3.setTop (mkF m 14 #[.val (.ref w_SIGNED_ENCRYPTED_PSEUDONYM), .val (.ref b_1), .val (.int (2 : Int32)), .val (.int ((0 : Int32) + (1 : Int32))), .val (.ref w_BSN)] []))
  refine own_aloadN X3 hx (hb hby d2_14) rfl rfl ?_
  show Goes _ _ _ _ _ _ (T3.setTop (mkF m 15 #[.val (.ref w_SIGNED_ENCRYPTED_PSEUDONYM), .val (.ref b_1), .val (.int (2 : Int32)), .val (.int ((0 : Int32) + (1 : Int32))), .val (.ref w_BSN)] [(.ref b_1)]))
  refine own_iloadN X3 hx (hb hby d2_15) rfl ?_
  show Goes _ _ _ _ _ _ (T3.setTop (mkF m 16 #[.val (.ref w_SIGNED_ENCRYPTED_PSEUDONYM), .val (.ref b_1), .val (.int (2 : Int32)), .val (.int ((0 : Int32) + (1 : Int32))), .val (.ref w_BSN)] [(.int ((0 : Int32) + (1 : Int32))), (.ref b_1)]))
  refine own_aaload X3 hx hZ e3 r1_1 rfl ⟨by decide, by decide⟩ (v := (.ref w_PSEUDONYM)) rfl (hb hby d2_16) ?_
  show Goes _ _ _ _ _ _ (T3.setTop (mkF m 17 #[.val (.ref w_SIGNED_ENCRYPTED_PSEUDONYM), .val (.ref b_1), .val (.int (2 : Int32)), .val (.int ((0 : Int32) + (1 : Int32))), .val (.ref w_BSN)] [(.ref w_PSEUDONYM)]))
  refine own_astore X3 hx (Ls' := #[.val (.ref w_SIGNED_ENCRYPTED_PSEUDONYM), .val (.ref b_1), .val (.int (2 : Int32)), .val (.int ((0 : Int32) + (1 : Int32))), .val (.ref w_PSEUDONYM)]) (hb hby d2_17) rfl rfl ?_
  show Goes _ _ _ _ _ _ (T3.setTop (mkF m 19 #[.val (.ref w_SIGNED_ENCRYPTED_PSEUDONYM), .val (.ref b_1), .val (.int (2 : Int32)), .val (.int ((0 : Int32) + (1 : Int32))), .val (.ref w_PSEUDONYM)] []))
  refine own_aload X3 hx (hb hby d2_19) rfl rfl ?_
  show Goes _ _ _ _ _ _ (T3.setTop (mkF m 21 #[.val (.ref w_SIGNED_ENCRYPTED_PSEUDONYM), .val (.ref b_1), .val (.int (2 : Int32)), .val (.int ((0 : Int32) + (1 : Int32))), .val (.ref w_PSEUDONYM)] [(.ref w_PSEUDONYM)]))
  refine own_getF X3 hx hZ hown (host := "") (Or.inl (hw _ (List.mem_of_getElem? (i := 29) rfl))) Via.refl e3 (z28.ext O2.2) (hb hby d2_21) (fun T4 X4 e4 => ?_)
  show Goes _ _ _ _ _ _ (T4.setTop (mkF m 24 #[.val (.ref w_SIGNED_ENCRYPTED_PSEUDONYM), .val (.ref b_1), .val (.int (2 : Int32)), .val (.int ((0 : Int32) + (1 : Int32))), .val (.ref w_PSEUDONYM)] [(.ref w_SIGNED_ENCRYPTED_PSEUDONYM)]))
  refine own_aloadN X4 hx (hb hby d2_24) rfl rfl ?_
  show Goes _ _ _ _ _ _ (T4.setTop (mkF m 25 #[.val (.ref w_SIGNED_ENCRYPTED_PSEUDONYM), .val (.ref b_1), .val (.int (2 : Int32)), .val (.int ((0 : Int32) + (1 : Int32))), .val (.ref w_PSEUDONYM)] [(.ref w_SIGNED_ENCRYPTED_PSEUDONYM), (.ref w_SIGNED_ENCRYPTED_PSEUDONYM)]))
  refine own_acmp X4 hx rfl rfl (same := true) (pc' := 28) (hb hby d2_25) (decide_eq_true rfl) (by decide) (by decide) ?_
  show Goes _ _ _ _ _ _ (T4.setTop (mkF m 28 #[.val (.ref w_SIGNED_ENCRYPTED_PSEUDONYM), .val (.ref b_1), .val (.int (2 : Int32)), .val (.int ((0 : Int32) + (1 : Int32))), .val (.ref w_PSEUDONYM)] []))
  refine own_aload X4 hx (hb hby d2_28) rfl rfl ?_
  show Goes _ _ _ _ _ _ (T4.setTop (mkF m 30 #[.val (.ref w_SIGNED_ENCRYPTED_PSEUDONYM), .val (.ref b_1), .val (.int (2 : Int32)), .val (.int ((0 : Int32) + (1 : Int32))), .val (.ref w_PSEUDONYM)] [(.ref w_PSEUDONYM)]))
  refine own_callS X4 hx hZ hown (y := (⟨"java/util/Optional", "of", "(Ljava/lang/Object;)Ljava/util/Optional;"⟩ : MethodName)) (hw _ (List.mem_of_getElem? (i := 49) rfl)) (hw _ (List.mem_of_getElem? (i := 50) rfl)) (hw _ (List.mem_of_getElem? (i := 35) rfl)) (hw _ (List.mem_of_getElem? (i := 51) rfl)) (by decide) (W := 0) (by decide) (by decide) N1 e4 (by rw [hml]; rfl) (argsL := [(.ref w_PSEUDONYM)]) (rest := []) (lenOf pd_3 rfl) (Nat.le_of_eq rfl) (by decide) (by decide) (rm7 l Z a0 hw [] w_PSEUDONYM T1.heap n0 O2) rfl (hb hby d2_30) ?_
  intro v5 T5 lc5 X5 N5 hQ5
  obtain ⟨b_5, rfl, K5, r5_0, r5_1, r5_2⟩ := hQ5
  have O6 := O2.keep K5 all0
  have KC6 := KC2.trans K5 all0
  have ge_b_5 : n0 ≤ b_5 := Nat.le_trans (own_sz O2) r5_2
  have sz_b_5 : h0.size ≤ b_5 := Nat.le_trans KC2.1 r5_2
  show Goes _ _ _ _ _ _ (T5.setTop (mkF m 33 #[.val (.ref w_SIGNED_ENCRYPTED_PSEUDONYM), .val (.ref b_1), .val (.int (2 : Int32)), .val (.int ((0 : Int32) + (1 : Int32))), .val (.ref w_PSEUDONYM)] [(.ref b_5)]))
  exact own_retR X5 hx N5 hlk (by decide) (by decide) hret rfl rfl rfl (hb hby d2_33) (⟨b_5, rfl, KC6, r5_0, r5_1, sz_b_5⟩)
theorem d2_40 : decode prog_33_method_7_code 40 = .ok (.invokestatic 53, 3) := by decide +kernel
theorem pd_4 : parseMethodDescriptor "()Ljava/util/Optional;" = some ⟨[], some (.object "java/util/Optional")⟩ := by decide +kernel
theorem d2_43 : decode prog_33_method_7_code 43 = .ok (.areturn, 1) := by decide +kernel
def Q2n (Z : State) (a1 : Addr) (w_ENCRYPTED_IDENTITY : Addr) (w__VALUES : Addr) (w_BSN : Addr) (w_PSEUDONYM : Addr) (w_SIGNED_ENCRYPTED_IDENTITY : Addr) (w_SIGNED_ENCRYPTED_PSEUDONYM : Addr) (w_SIGNED_POLYMORPHIC_IDENTITY : Addr) (w_SIGNED_POLYMORPHIC_PSEUDONYM : Addr) (w_ENCRYPTED_PSEUDONYM : Addr) (w_POLYMORPHIC_IDENTITY : Addr) (w_POLYMORPHIC_PSEUDONYM : Addr) (w_EMPTY : Addr) (k_w__VALUES : ClassId) (h0 : Heap) (n0 : Nat) (v : Option Value) (h : Heap) : Prop :=
  (v = some (.ref w_EMPTY) ∧ Keep h0 h [])
theorem ef_2n (m : MethodId) (a1 : Addr) : entryFrame m #[(.ref a1)] 5 = mkF m 0 #[.val (.ref a1), .unset, .unset, .unset, .unset] [] := by first | (simp [entryFrame, mkF, argsToLocals, Value.category]; done) | rfl
set_option maxRecDepth 65536 in
set_option maxHeartbeats 40000000 in
theorem rm2n (l : Launch) (Z : State) (a0 : Array Value) (hw : ∀ d ∈ tables_1, d.before a0 Z = true) (ws : List Jvm.Cond) (a1 : Addr) (w_ENCRYPTED_IDENTITY : Addr) (w__VALUES : Addr) (w_BSN : Addr) (w_PSEUDONYM : Addr) (w_SIGNED_ENCRYPTED_IDENTITY : Addr) (w_SIGNED_ENCRYPTED_PSEUDONYM : Addr) (w_SIGNED_POLYMORPHIC_IDENTITY : Addr) (w_SIGNED_POLYMORPHIC_PSEUDONYM : Addr) (w_ENCRYPTED_PSEUDONYM : Addr) (w_POLYMORPHIC_IDENTITY : Addr) (w_POLYMORPHIC_PSEUDONYM : Addr) (w_EMPTY : Addr) (k_w__VALUES : ClassId) (h0 : Heap) (n0 : Nat) (O0 : Old Z n0 h0) (SF : Start Z w_ENCRYPTED_IDENTITY w__VALUES w_BSN w_PSEUDONYM w_SIGNED_ENCRYPTED_IDENTITY w_SIGNED_ENCRYPTED_PSEUDONYM w_SIGNED_POLYMORPHIC_IDENTITY w_SIGNED_POLYMORPHIC_PSEUDONYM w_ENCRYPTED_PSEUDONYM w_POLYMORPHIC_IDENTITY w_POLYMORPHIC_PSEUDONYM w_EMPTY k_w__VALUES) (f0 : w_SIGNED_ENCRYPTED_IDENTITY ≠ a1) (f1 : w_SIGNED_ENCRYPTED_PSEUDONYM ≠ a1) :
    Meets l (⟨"com/example/ketenwacht/ketenwacht/model/NameIdFormat", "of", "(Lcom/example/ketenwacht/ketenwacht/model/StructureType;)Ljava/util/Optional;"⟩ : MethodName) prog_33_method_7_code 5 (some (.object "java/util/Optional")) ws ({ frames := 2, cells := 1, slots := 2, locals := 25 } : Room) ({ frames := 2, cells := 1, slots := 2, locals := 25 } : Room).cells ({ frames := 2, cells := 1, slots := 2, locals := 25 } : Room).slots Z #[(.ref a1)] h0 n0 (Q2n Z a1 w_ENCRYPTED_IDENTITY w__VALUES w_BSN w_PSEUDONYM w_SIGNED_ENCRYPTED_IDENTITY w_SIGNED_ENCRYPTED_PSEUDONYM w_SIGNED_POLYMORPHIC_IDENTITY w_SIGNED_POLYMORPHIC_PSEUDONYM w_ENCRYPTED_PSEUDONYM w_POLYMORPHIC_IDENTITY w_POLYMORPHIC_PSEUDONYM w_EMPTY k_w__VALUES h0 n0) := by
  refine Meets.of (F := fun m => mkF m 0 #[.val (.ref a1), .unset, .unset, .unset, .unset] []) (plainFor_of_name pn_1) (fun m => ef_2n m a1) ?_
  intro p e s m below meth c T0 hx hby hml hown0 hnm hret hlk hZ X0 e0
  have hown : s.vm.findClass "com/example/ketenwacht/ketenwacht/model/NameIdFormat" = some m.cls := hown0
  have N0 := Fr.nil n0
  have KC0 := Keep.refl h0 []
  obtain ⟨z0, z1, z2, z3, z4, z5, z6, z7, z8, z9, z10, z11, z12, z13, z14, z15, z16, z17, z18, z19, z20, z21, z22, z23, z24, z25, z26, z27, z28, z29, z30, z31, z32, z33, z34, z35, -⟩ := SF
  show Goes _ _ _ _ _ _ (T0.setTop (mkF m 0 #[.val (.ref a1), .unset, .unset, .unset, .unset] []))
  refine own_callS X0 hx hZ hown (y := (⟨"com/example/ketenwacht/ketenwacht/model/NameIdFormat", "values", "()[Lcom/example/ketenwacht/ketenwacht/model/NameIdFormat;"⟩ : MethodName)) (hw _ (List.mem_of_getElem? (i := 12) rfl)) (hw _ (List.mem_of_getElem? (i := 13) rfl)) (hw _ (List.mem_of_getElem? (i := 10) rfl)) (hw _ (List.mem_of_getElem? (i := 14) rfl)) (by decide) (W := 0) (by decide) (by decide) N0 e0 (by rw [hml]; rfl) (argsL := []) (rest := []) (lenOf pd_2 rfl) (Nat.le_of_eq rfl) (by decide) (by decide) (rm3 l Z a0 hw [] w_ENCRYPTED_IDENTITY w__VALUES w_BSN w_PSEUDONYM w_SIGNED_ENCRYPTED_IDENTITY w_SIGNED_ENCRYPTED_PSEUDONYM w_SIGNED_POLYMORPHIC_IDENTITY w_SIGNED_POLYMORPHIC_PSEUDONYM w_ENCRYPTED_PSEUDONYM w_POLYMORPHIC_IDENTITY w_POLYMORPHIC_PSEUDONYM w_EMPTY k_w__VALUES h0 n0 O0 ⟨z0, z1, z2, z3, z4, z5, z6, z7, z8, z9, z10, z11, z12, z13, z14, z15, z16, z17, z18, z19, z20, z21, z22, z23, z24, z25, z26, z27, z28, z29, z30, z31, z32, z33, z34, z35, trivial⟩) rfl (hb hby d2_0) ?_
  intro v1 T1 lc1 X1 N1 hQ1
  obtain ⟨b_1, rfl, K1, r1_0, r1_1, r1_2⟩ := hQ1
  have O2 := O0.keep K1 all0
  have KC2 := KC0.trans K1 all0
  have ge_b_1 : n0 ≤ b_1 := Nat.le_trans (own_sz O0) r1_2
  have sz_b_1 : h0.size ≤ b_1 := Nat.le_trans KC0.1 r1_2
  show Goes _ _ _ _ _ _ (T1.setTop (mkF m 3 #[.val (.ref a1), .unset, .unset, .unset, .unset] [(.ref b_1)]))
  refine own_astoreN X1 hx (Ls' := #[.val (.ref a1), .val (.ref b_1), .unset, .unset, .unset]) (hb hby d2_3) rfl rfl ?_
  show Goes _ _ _ _ _ _ (T1.setTop (mkF m 4 #[.val (.ref a1), .val (.ref b_1), .unset, .unset, .unset] []))
  refine own_aloadN X1 hx (hb hby d2_4) rfl rfl ?_
  show Goes _ _ _ _ _ _ (T1.setTop (mkF m 5 #[.val (.ref a1), .val (.ref b_1), .unset, .unset, .unset] [(.ref b_1)]))
  refine own_alen X1 hx hZ rfl r1_1 (hb hby d2_5) ?_
  show Goes _ _ _ _ _ _ (T1.setTop (mkF m 6 #[.val (.ref a1), .val (.ref b_1), .unset, .unset, .unset] [(.int (2 : Int32))]))
  refine own_istoreN X1 hx (Ls' := #[.val (.ref a1), .val (.ref b_1), .val (.int (2 : Int32)), .unset, .unset]) (hb hby d2_6) rfl ?_
  show Goes _ _ _ _ _ _ (T1.setTop (mkF m 7 #[.val (.ref a1), .val (.ref b_1), .val (.int (2 : Int32)), .unset, .unset] []))
  refine own_iconst X1 hx (v := (0 : Int32)) (hb hby d2_7) rfl ?_
  show Goes _ _ _ _ _ _ (T1.setTop (mkF m 8 #[.val (.ref a1), .val (.ref b_1), .val (.int (2 : Int32)), .unset, .unset] [(.int (0 : Int32))]))
  refine own_istoreN X1 hx (Ls' := #[.val (.ref a1), .val (.ref b_1), .val (.int (2 : Int32)), .val (.int (0 : Int32)), .unset]) (hb hby d2_8) rfl ?_
  show Goes _ _ _ _ _ _ (T1.setTop (mkF m 9 #[.val (.ref a1), .val (.ref b_1), .val (.int (2 : Int32)), .val (.int (0 : Int32)), .unset] []))
  refine own_iloadN X1 hx (hb hby d2_9) rfl ?_
  show Goes _ _ _ _ _ _ (T1.setTop (mkF m 10 #[.val (.ref a1), .val (.ref b_1), .val (.int (2 : Int32)), .val (.int (0 : Int32)), .unset] [(.int (0 : Int32))]))
  refine own_iloadN X1 hx (hb hby d2_10) rfl ?_
  show Goes _ _ _ _ _ _ (T1.setTop (mkF m 11 #[.val (.ref a1), .val (.ref b_1), .val (.int (2 : Int32)), .val (.int (0 : Int32)), .unset] [(.int (2 : Int32)), (.int (0 : Int32))]))
  refine own_icmpNo X1 hx (hb hby d2_11) (tlt (by decide : (0 : Int32) < (2 : Int32))).2.1 ?_
  show Goes _ _ _ _ _ _ (T1.setTop (mkF m 14 #[.val (.ref a1), .val (.ref b_1), .val (.int (2 : Int32)), .val (.int (0 : Int32)), .unset] []))
  refine own_aloadN X1 hx (hb hby d2_14) rfl rfl ?_
  show Goes _ _ _ _ _ _ (T1.setTop (mkF m 15 #[.val (.ref a1), .val (.ref b_1), .val (.int (2 : Int32)), .val (.int (0 : Int32)), .unset] [(.ref b_1)]))
  refine own_iloadN X1 hx (hb hby d2_15) rfl ?_
  show Goes _ _ _ _ _ _ (T1.setTop (mkF m 16 #[.val (.ref a1), .val (.ref b_1), .val (.int (2 : Int32)), .val (.int (0 : Int32)), .unset] [(.int (0 : Int32)), (.ref b_1)]))
  refine own_aaload X1 hx hZ rfl r1_1 rfl ⟨by decide, by decide⟩ (v := (.ref w_BSN)) rfl (hb hby d2_16) ?_
  show Goes _ _ _ _ _ _ (T1.setTop (mkF m 17 #[.val (.ref a1), .val (.ref b_1), .val (.int (2 : Int32)), .val (.int (0 : Int32)), .unset] [(.ref w_BSN)]))
  refine own_astore X1 hx (Ls' := #[.val (.ref a1), .val (.ref b_1), .val (.int (2 : Int32)), .val (.int (0 : Int32)), .val (.ref w_BSN)]) (hb hby d2_17) rfl rfl ?_
  show Goes _ _ _ _ _ _ (T1.setTop (mkF m 19 #[.val (.ref a1), .val (.ref b_1), .val (.int (2 : Int32)), .val (.int (0 : Int32)), .val (.ref w_BSN)] []))
  refine own_aload X1 hx (hb hby d2_19) rfl rfl ?_
  show Goes _ _ _ _ _ _ (T1.setTop (mkF m 21 #[.val (.ref a1), .val (.ref b_1), .val (.int (2 : Int32)), .val (.int (0 : Int32)), .val (.ref w_BSN)] [(.ref w_BSN)]))
  refine own_getF X1 hx hZ hown (host := "") (Or.inl (hw _ (List.mem_of_getElem? (i := 29) rfl))) Via.refl rfl (z25.ext O2.2) (hb hby d2_21) (fun T3 X3 e3 => ?_)
  show Goes _ _ _ _ _ _ (T3.setTop (mkF m 24 #[.val (.ref a1), .val (.ref b_1), .val (.int (2 : Int32)), .val (.int (0 : Int32)), .val (.ref w_BSN)] [(.ref w_SIGNED_ENCRYPTED_IDENTITY)]))
  refine own_aloadN X3 hx (hb hby d2_24) rfl rfl ?_
  show Goes _ _ _ _ _ _ (T3.setTop (mkF m 25 #[.val (.ref a1), .val (.ref b_1), .val (.int (2 : Int32)), .val (.int (0 : Int32)), .val (.ref w_BSN)] [(.ref a1), (.ref w_SIGNED_ENCRYPTED_IDENTITY)]))
  refine own_acmp X3 hx rfl rfl (same := false) (pc' := 34) (hb hby d2_25) (decide_eq_false fun q => f0 (Value.ref.inj q)) (by decide) (by decide) ?_
  show Goes _ _ _ _ _ _ (T3.setTop (mkF m 34 #[.val (.ref a1), .val (.ref b_1), .val (.int (2 : Int32)), .val (.int (0 : Int32)), .val (.ref w_BSN)] []))
  refine own_iinc X3 hx (Ls' := #[.val (.ref a1), .val (.ref b_1), .val (.int (2 : Int32)), .val (.int ((0 : Int32) + (1 : Int32))), .val (.ref w_BSN)]) (hb hby d2_34) rfl rfl ?_
  show Goes _ _ _ _ _ _ (T3.setTop (mkF m 37 #[.val (.ref a1), .val (.ref b_1), .val (.int (2 : Int32)), .val (.int ((0 : Int32) + (1 : Int32))), .val (.ref w_BSN)] []))
  refine own_goto X3 hx (pc' := 9) (hb hby d2_37) (by decide) (by decide) ?_
  show Goes _ _ _ _ _ _ (T3.setTop (mkF m 9 #[.val (.ref a1), .val (.ref b_1), .val (.int (2 : Int32)), .val (.int ((0 : Int32) + (1 : Int32))), .val (.ref w_BSN)] []))
  refine own_iloadN X3 hx (hb hby d2_9) rfl ?_
  show Goes _ _ _ _ _ _ (T3.setTop (mkF m 10 #[.val (.ref a1), .val (.ref b_1), .val (.int (2 : Int32)), .val (.int ((0 : Int32) + (1 : Int32))), .val (.ref w_BSN)] [(.int ((0 : Int32) + (1 : Int32)))]))
  refine own_iloadN X3 hx (hb hby d2_10) rfl ?_
  show Goes _ _ _ _ _ _ (T3.setTop (mkF m 11 #[.val (.ref a1), .val (.ref b_1), .val (.int (2 : Int32)), .val (.int ((0 : Int32) + (1 : Int32))), .val (.ref w_BSN)] [(.int (2 : Int32)), (.int ((0 : Int32) + (1 : Int32)))]))
  refine own_icmpNo X3 hx (hb hby d2_11) (tlt (by decide : ((0 : Int32) + (1 : Int32)) < (2 : Int32))).2.1 ?_
  show Goes _ _ _ _ _ _ (T3.setTop (mkF m 14 #[.val (.ref a1), .val (.ref b_1), .val (.int (2 : Int32)), .val (.int ((0 : Int32) + (1 : Int32))), .val (.ref w_BSN)] []))
  refine own_aloadN X3 hx (hb hby d2_14) rfl rfl ?_
  show Goes _ _ _ _ _ _ (T3.setTop (mkF m 15 #[.val (.ref a1), .val (.ref b_1), .val (.int (2 : Int32)), .val (.int ((0 : Int32) + (1 : Int32))), .val (.ref w_BSN)] [(.ref b_1)]))
  refine own_iloadN X3 hx (hb hby d2_15) rfl ?_
  show Goes _ _ _ _ _ _ (T3.setTop (mkF m 16 #[.val (.ref a1), .val (.ref b_1), .val (.int (2 : Int32)), .val (.int ((0 : Int32) + (1 : Int32))), .val (.ref w_BSN)] [(.int ((0 : Int32) + (1 : Int32))), (.ref b_1)]))
  refine own_aaload X3 hx hZ e3 r1_1 rfl ⟨by decide, by decide⟩ (v := (.ref w_PSEUDONYM)) rfl (hb hby d2_16) ?_
  show Goes _ _ _ _ _ _ (T3.setTop (mkF m 17 #[.val (.ref a1), .val (.ref b_1), .val (.int (2 : Int32)), .val (.int ((0 : Int32) + (1 : Int32))), .val (.ref w_BSN)] [(.ref w_PSEUDONYM)]))
  refine own_astore X3 hx (Ls' := #[.val (.ref a1), .val (.ref b_1), .val (.int (2 : Int32)), .val (.int ((0 : Int32) + (1 : Int32))), .val (.ref w_PSEUDONYM)]) (hb hby d2_17) rfl rfl ?_
  show Goes _ _ _ _ _ _ (T3.setTop (mkF m 19 #[.val (.ref a1), .val (.ref b_1), .val (.int (2 : Int32)), .val (.int ((0 : Int32) + (1 : Int32))), .val (.ref w_PSEUDONYM)] []))
  refine own_aload X3 hx (hb hby d2_19) rfl rfl ?_
  show Goes _ _ _ _ _ _ (T3.setTop (mkF m 21 #[.val (.ref a1), .val (.ref b_1), .val (.int (2 : Int32)), .val (.int ((0 : Int32) + (1 : Int32))), .val (.ref w_PSEUDONYM)] [(.ref w_PSEUDONYM)]))
  refine own_getF X3 hx hZ hown (host := "") (Or.inl (hw _ (List.mem_of_getElem? (i := 29) rfl))) Via.refl e3 (z28.ext O2.2) (hb hby d2_21) (fun T4 X4 e4 => ?_)
  show Goes _ _ _ _ _ _ (T4.setTop (mkF m 24 #[.val (.ref a1), .val (.ref b_1), .val (.int (2 : Int32)), .val (.int ((0 : Int32) + (1 : Int32))), .val (.ref w_PSEUDONYM)] [(.ref w_SIGNED_ENCRYPTED_PSEUDONYM)]))
  refine own_aloadN X4 hx (hb hby d2_24) rfl rfl ?_
  show Goes _ _ _ _ _ _ (T4.setTop (mkF m 25 #[.val (.ref a1), .val (.ref b_1), .val (.int (2 : Int32)), .val (.int ((0 : Int32) + (1 : Int32))), .val (.ref w_PSEUDONYM)] [(.ref a1), (.ref w_SIGNED_ENCRYPTED_PSEUDONYM)]))
  refine own_acmp X4 hx rfl rfl (same := false) (pc' := 34) (hb hby d2_25) (decide_eq_false fun q => f1 (Value.ref.inj q)) (by decide) (by decide) ?_
  show Goes _ _ _ _ _ _ (T4.setTop (mkF m 34 #[.val (.ref a1), .val (.ref b_1), .val (.int (2 : Int32)), .val (.int ((0 : Int32) + (1 : Int32))), .val (.ref w_PSEUDONYM)] []))
  refine own_iinc X4 hx (Ls' := #[.val (.ref a1), .val (.ref b_1), .val (.int (2 : Int32)), .val (.int (((0 : Int32) + (1 : Int32)) + (1 : Int32))), .val (.ref w_PSEUDONYM)]) (hb hby d2_34) rfl rfl ?_
  show Goes _ _ _ _ _ _ (T4.setTop (mkF m 37 #[.val (.ref a1), .val (.ref b_1), .val (.int (2 : Int32)), .val (.int (((0 : Int32) + (1 : Int32)) + (1 : Int32))), .val (.ref w_PSEUDONYM)] []))
  refine own_goto X4 hx (pc' := 9) (hb hby d2_37) (by decide) (by decide) ?_
  show Goes _ _ _ _ _ _ (T4.setTop (mkF m 9 #[.val (.ref a1), .val (.ref b_1), .val (.int (2 : Int32)), .val (.int (((0 : Int32) + (1 : Int32)) + (1 : Int32))), .val (.ref w_PSEUDONYM)] []))
  refine own_iloadN X4 hx (hb hby d2_9) rfl ?_
  show Goes _ _ _ _ _ _ (T4.setTop (mkF m 10 #[.val (.ref a1), .val (.ref b_1), .val (.int (2 : Int32)), .val (.int (((0 : Int32) + (1 : Int32)) + (1 : Int32))), .val (.ref w_PSEUDONYM)] [(.int (((0 : Int32) + (1 : Int32)) + (1 : Int32)))]))
  refine own_iloadN X4 hx (hb hby d2_10) rfl ?_
  show Goes _ _ _ _ _ _ (T4.setTop (mkF m 11 #[.val (.ref a1), .val (.ref b_1), .val (.int (2 : Int32)), .val (.int (((0 : Int32) + (1 : Int32)) + (1 : Int32))), .val (.ref w_PSEUDONYM)] [(.int (2 : Int32)), (.int (((0 : Int32) + (1 : Int32)) + (1 : Int32)))]))
  refine own_icmpYes X4 hx (pc' := 40) (hb hby d2_11) (flt (by decide : ¬ ((((0 : Int32) + (1 : Int32)) + (1 : Int32)) < (2 : Int32)))).2.1 (by decide) (by decide) ?_
  show Goes _ _ _ _ _ _ (T4.setTop (mkF m 40 #[.val (.ref a1), .val (.ref b_1), .val (.int (2 : Int32)), .val (.int (((0 : Int32) + (1 : Int32)) + (1 : Int32))), .val (.ref w_PSEUDONYM)] []))
  refine own_callS X4 hx hZ hown (y := (⟨"java/util/Optional", "empty", "()Ljava/util/Optional;"⟩ : MethodName)) (hw _ (List.mem_of_getElem? (i := 33) rfl)) (hw _ (List.mem_of_getElem? (i := 34) rfl)) (hw _ (List.mem_of_getElem? (i := 35) rfl)) (hw _ (List.mem_of_getElem? (i := 36) rfl)) (by decide) (W := 0) (by decide) (by decide) N1 e4 (by rw [hml]; rfl) (argsL := []) (rest := []) (lenOf pd_4 rfl) (Nat.le_of_eq rfl) (by decide) (by decide) (rm4 l Z a0 hw [] w_ENCRYPTED_IDENTITY w__VALUES w_BSN w_PSEUDONYM w_SIGNED_ENCRYPTED_IDENTITY w_SIGNED_ENCRYPTED_PSEUDONYM w_SIGNED_POLYMORPHIC_IDENTITY w_SIGNED_POLYMORPHIC_PSEUDONYM w_ENCRYPTED_PSEUDONYM w_POLYMORPHIC_IDENTITY w_POLYMORPHIC_PSEUDONYM w_EMPTY k_w__VALUES T1.heap n0 O2 ⟨z0, z1, z2, z3, z4, z5, z6, z7, z8, z9, z10, z11, z12, z13, z14, z15, z16, z17, z18, z19, z20, z21, z22, z23, z24, z25, z26, z27, z28, z29, z30, z31, z32, z33, z34, z35, trivial⟩) rfl (hb hby d2_40) ?_
  intro v5 T5 lc5 X5 N5 hQ5
  obtain ⟨rfl, e5⟩ := hQ5
  show Goes _ _ _ _ _ _ (T5.setTop (mkF m 43 #[.val (.ref a1), .val (.ref b_1), .val (.int (2 : Int32)), .val (.int (((0 : Int32) + (1 : Int32)) + (1 : Int32))), .val (.ref w_PSEUDONYM)] [(.ref w_EMPTY)]))
  exact own_retR X5 hx N5 hlk (by decide) (by decide) hret rfl rfl rfl (hb hby d2_43) (by rw [e5]; exact ⟨rfl, KC2⟩)
theorem d5_0 : decode jdk_32_method_15_code 0 = .ok (.aload_n 0, 1) := by decide +kernel
theorem d5_1 : decode jdk_32_method_15_code 1 = .ok (.getfield 13, 3) := by decide +kernel
theorem d5_4 : decode jdk_32_method_15_code 4 = .ok (.ifnull 10, 3) := by decide +kernel
theorem d5_7 : decode jdk_32_method_15_code 7 = .ok (.aload_n 0, 1) := by decide +kernel
theorem d5_8 : decode jdk_32_method_15_code 8 = .ok (.getfield 13, 3) := by decide +kernel
theorem d5_11 : decode jdk_32_method_15_code 11 = .ok (.goto 4, 3) := by decide +kernel
theorem d5_15 : decode jdk_32_method_15_code 15 = .ok (.areturn, 1) := by decide +kernel
def Q5v (Z : State) (a1 : Addr) (w : Addr) (h0 : Heap) (n0 : Nat) (v : Option Value) (h : Heap) : Prop :=
  (v = some (.ref w) ∧ h = h0)
theorem ef_5v (m : MethodId) (a1 : Addr) : entryFrame m #[(.ref a1), .null] 2 = mkF m 0 #[.val (.ref a1), .val .null] [] := by first | (simp [entryFrame, mkF, argsToLocals, Value.category]; done) | rfl
set_option maxRecDepth 65536 in
set_option maxHeartbeats 40000000 in
theorem rm5v (l : Launch) (Z : State) (a0 : Array Value) (hw : ∀ d ∈ tables_1, d.before a0 Z = true) (ws : List Jvm.Cond) (a1 : Addr) (w : Addr) (h0 : Heap) (n0 : Nat) (O0 : Old Z n0 h0) (f0 : Fld Z h0 a1 "java/util/Optional" "value" "Ljava/lang/Object;" (.ref w)) :
    Meets l (⟨"java/util/Optional", "orElse", "(Ljava/lang/Object;)Ljava/lang/Object;"⟩ : MethodName) jdk_32_method_15_code 2 (some (.object "java/lang/Object")) ws ({ frames := 0, cells := 0, slots := 0, locals := 0 } : Room) ({ frames := 0, cells := 0, slots := 0, locals := 0 } : Room).cells ({ frames := 0, cells := 0, slots := 0, locals := 0 } : Room).slots Z #[(.ref a1), .null] h0 n0 (Q5v Z a1 w h0 n0) := by
  refine Meets.of (F := fun m => mkF m 0 #[.val (.ref a1), .val .null] []) (plainFor_of_name pn_2) (fun m => ef_5v m a1) ?_
  intro p e s m below meth c T0 hx hby hml hown0 hnm hret hlk hZ X0 e0
  have hown : s.vm.findClass "java/util/Optional" = some m.cls := hown0
  have N0 := Fr.nil n0
  show Goes _ _ _ _ _ _ (T0.setTop (mkF m 0 #[.val (.ref a1), .val .null] []))
  refine own_aloadN X0 hx (hb hby d5_0) rfl rfl ?_
  show Goes _ _ _ _ _ _ (T0.setTop (mkF m 1 #[.val (.ref a1), .val .null] [(.ref a1)]))
  refine own_getF X0 hx hZ hown (host := "") (Or.inl (hw _ (List.mem_of_getElem? (i := 43) rfl))) Via.refl e0 f0 (hb hby d5_1) (fun T1 X1 e1 => ?_)
  show Goes _ _ _ _ _ _ (T1.setTop (mkF m 4 #[.val (.ref a1), .val .null] [(.ref w)]))
  refine own_ifnullNo X1 hx (hb hby d5_4) ?_
  show Goes _ _ _ _ _ _ (T1.setTop (mkF m 7 #[.val (.ref a1), .val .null] []))
  refine own_aloadN X1 hx (hb hby d5_7) rfl rfl ?_
  show Goes _ _ _ _ _ _ (T1.setTop (mkF m 8 #[.val (.ref a1), .val .null] [(.ref a1)]))
  refine own_getF X1 hx hZ hown (host := "") (Or.inl (hw _ (List.mem_of_getElem? (i := 43) rfl))) Via.refl e1 f0 (hb hby d5_8) (fun T2 X2 e2 => ?_)
  show Goes _ _ _ _ _ _ (T2.setTop (mkF m 11 #[.val (.ref a1), .val .null] [(.ref w)]))
  refine own_goto X2 hx (pc' := 15) (hb hby d5_11) (by decide) (by decide) ?_
  show Goes _ _ _ _ _ _ (T2.setTop (mkF m 15 #[.val (.ref a1), .val .null] [(.ref w)]))
  exact own_retR X2 hx N0 hlk (by decide) (by decide) hret rfl rfl rfl (hb hby d5_15) (by rw [e2]; exact ⟨rfl, rfl⟩)
theorem d5_14 : decode jdk_32_method_15_code 14 = .ok (.aload_n 1, 1) := by decide +kernel
def Q5n (Z : State) (a1 : Addr) (h0 : Heap) (n0 : Nat) (v : Option Value) (h : Heap) : Prop :=
  (v = some .null ∧ h = h0)
theorem ef_5n (m : MethodId) (a1 : Addr) : entryFrame m #[(.ref a1), .null] 2 = mkF m 0 #[.val (.ref a1), .val .null] [] := by first | (simp [entryFrame, mkF, argsToLocals, Value.category]; done) | rfl
set_option maxRecDepth 65536 in
set_option maxHeartbeats 40000000 in
theorem rm5n (l : Launch) (Z : State) (a0 : Array Value) (hw : ∀ d ∈ tables_1, d.before a0 Z = true) (ws : List Jvm.Cond) (a1 : Addr) (h0 : Heap) (n0 : Nat) (O0 : Old Z n0 h0) (f0 : Fld Z h0 a1 "java/util/Optional" "value" "Ljava/lang/Object;" .null) :
    Meets l (⟨"java/util/Optional", "orElse", "(Ljava/lang/Object;)Ljava/lang/Object;"⟩ : MethodName) jdk_32_method_15_code 2 (some (.object "java/lang/Object")) ws ({ frames := 0, cells := 0, slots := 0, locals := 0 } : Room) ({ frames := 0, cells := 0, slots := 0, locals := 0 } : Room).cells ({ frames := 0, cells := 0, slots := 0, locals := 0 } : Room).slots Z #[(.ref a1), .null] h0 n0 (Q5n Z a1 h0 n0) := by
  refine Meets.of (F := fun m => mkF m 0 #[.val (.ref a1), .val .null] []) (plainFor_of_name pn_2) (fun m => ef_5n m a1) ?_
  intro p e s m below meth c T0 hx hby hml hown0 hnm hret hlk hZ X0 e0
  have hown : s.vm.findClass "java/util/Optional" = some m.cls := hown0
  have N0 := Fr.nil n0
  show Goes _ _ _ _ _ _ (T0.setTop (mkF m 0 #[.val (.ref a1), .val .null] []))
  refine own_aloadN X0 hx (hb hby d5_0) rfl rfl ?_
  show Goes _ _ _ _ _ _ (T0.setTop (mkF m 1 #[.val (.ref a1), .val .null] [(.ref a1)]))
  refine own_getF X0 hx hZ hown (host := "") (Or.inl (hw _ (List.mem_of_getElem? (i := 43) rfl))) Via.refl e0 f0 (hb hby d5_1) (fun T1 X1 e1 => ?_)
  show Goes _ _ _ _ _ _ (T1.setTop (mkF m 4 #[.val (.ref a1), .val .null] [.null]))
  refine own_ifnullYes X1 hx (pc' := 14) (hb hby d5_4) (by decide) (by decide) ?_
  show Goes _ _ _ _ _ _ (T1.setTop (mkF m 14 #[.val (.ref a1), .val .null] []))
  refine own_aloadN X1 hx (hb hby d5_14) rfl rfl ?_
  show Goes _ _ _ _ _ _ (T1.setTop (mkF m 15 #[.val (.ref a1), .val .null] [.null]))
  exact own_retR X1 hx N0 hlk (by decide) (by decide) hret rfl rfl rfl (hb hby d5_15) (by rw [e1]; exact ⟨rfl, rfl⟩)
theorem d6_0 : decode method_3_code 0 = .ok (.iload_n 0, 1) := by decide +kernel
theorem d6_1 : decode method_3_code 1 = .ok (.iconst 2, 1) := by decide +kernel
theorem d6_2 : decode method_3_code 2 = .ok (.if_icmp .ne 7, 3) := by decide +kernel
theorem d6_5 : decode method_3_code 5 = .ok (.getstatic 34, 3) := by decide +kernel
theorem d6_8 : decode method_3_code 8 = .ok (.areturn, 1) := by decide +kernel
theorem d6_9 : decode method_3_code 9 = .ok (.iload_n 0, 1) := by decide +kernel
theorem d6_10 : decode method_3_code 10 = .ok (.iconst 3, 1) := by decide +kernel
theorem d6_11 : decode method_3_code 11 = .ok (.if_icmp .ne 7, 3) := by decide +kernel
theorem d6_14 : decode method_3_code 14 = .ok (.getstatic 40, 3) := by decide +kernel
theorem d6_17 : decode method_3_code 17 = .ok (.areturn, 1) := by decide +kernel
theorem d6_18 : decode method_3_code 18 = .ok (.aconst_null, 1) := by decide +kernel
theorem d6_19 : decode method_3_code 19 = .ok (.areturn, 1) := by decide +kernel
def Q6 (Z : State) (p1 : Int32) (w_ENCRYPTED_IDENTITY : Addr) (w__VALUES : Addr) (w_BSN : Addr) (w_PSEUDONYM : Addr) (w_SIGNED_ENCRYPTED_IDENTITY : Addr) (w_SIGNED_ENCRYPTED_PSEUDONYM : Addr) (w_SIGNED_POLYMORPHIC_IDENTITY : Addr) (w_SIGNED_POLYMORPHIC_PSEUDONYM : Addr) (w_ENCRYPTED_PSEUDONYM : Addr) (w_POLYMORPHIC_IDENTITY : Addr) (w_POLYMORPHIC_PSEUDONYM : Addr) (w_EMPTY : Addr) (k_w__VALUES : ClassId) (h0 : Heap) (n0 : Nat) (v : Option Value) (h : Heap) : Prop :=
  (v = some (.ref w_BSN) ∧ p1 = (2 : Int32) ∧ h = h0) ∨
  (v = some (.ref w_PSEUDONYM) ∧ p1 = (3 : Int32) ∧ h = h0) ∨
  (v = some .null ∧ ¬ (p1 = (2 : Int32)) ∧ ¬ (p1 = (3 : Int32)) ∧ h = h0)
theorem ef_6 (m : MethodId) (p1 : Int32) : entryFrame m #[(.int p1)] 1 = mkF m 0 #[.val (.int p1)] [] := by first | (simp [entryFrame, mkF, argsToLocals, Value.category]; done) | rfl
set_option maxRecDepth 65536 in
set_option maxHeartbeats 40000000 in
theorem rm6 (l : Launch) (Z : State) (a0 : Array Value) (hw : ∀ d ∈ tables_1, d.before a0 Z = true) (ws : List Jvm.Cond) (p1 : Int32) (w_ENCRYPTED_IDENTITY : Addr) (w__VALUES : Addr) (w_BSN : Addr) (w_PSEUDONYM : Addr) (w_SIGNED_ENCRYPTED_IDENTITY : Addr) (w_SIGNED_ENCRYPTED_PSEUDONYM : Addr) (w_SIGNED_POLYMORPHIC_IDENTITY : Addr) (w_SIGNED_POLYMORPHIC_PSEUDONYM : Addr) (w_ENCRYPTED_PSEUDONYM : Addr) (w_POLYMORPHIC_IDENTITY : Addr) (w_POLYMORPHIC_PSEUDONYM : Addr) (w_EMPTY : Addr) (k_w__VALUES : ClassId) (h0 : Heap) (n0 : Nat) (O0 : Old Z n0 h0) (SF : Start Z w_ENCRYPTED_IDENTITY w__VALUES w_BSN w_PSEUDONYM w_SIGNED_ENCRYPTED_IDENTITY w_SIGNED_ENCRYPTED_PSEUDONYM w_SIGNED_POLYMORPHIC_IDENTITY w_SIGNED_POLYMORPHIC_PSEUDONYM w_ENCRYPTED_PSEUDONYM w_POLYMORPHIC_IDENTITY w_POLYMORPHIC_PSEUDONYM w_EMPTY k_w__VALUES) :
    Meets l (⟨"com/example/ketenwacht/ketenwacht/model/NameIdFormatOfPinLaw", "expected", "(I)Lcom/example/ketenwacht/ketenwacht/model/NameIdFormat;"⟩ : MethodName) method_3_code 1 (some (.object "com/example/ketenwacht/ketenwacht/model/NameIdFormat")) ws ({ frames := 0, cells := 0, slots := 0, locals := 0 } : Room) ({ frames := 0, cells := 0, slots := 0, locals := 0 } : Room).cells ({ frames := 0, cells := 0, slots := 0, locals := 0 } : Room).slots Z #[(.int p1)] h0 n0 (Q6 Z p1 w_ENCRYPTED_IDENTITY w__VALUES w_BSN w_PSEUDONYM w_SIGNED_ENCRYPTED_IDENTITY w_SIGNED_ENCRYPTED_PSEUDONYM w_SIGNED_POLYMORPHIC_IDENTITY w_SIGNED_POLYMORPHIC_PSEUDONYM w_ENCRYPTED_PSEUDONYM w_POLYMORPHIC_IDENTITY w_POLYMORPHIC_PSEUDONYM w_EMPTY k_w__VALUES h0 n0) := by
  refine Meets.of (F := fun m => mkF m 0 #[.val (.int p1)] []) (plainFor_of_name pn_0) (fun m => ef_6 m p1) ?_
  intro p e s m below meth c T0 hx hby hml hown0 hnm hret hlk hZ X0 e0
  have hown : s.vm.findClass "com/example/ketenwacht/ketenwacht/model/NameIdFormatOfPinLaw" = some m.cls := hown0
  have N0 := Fr.nil n0
  obtain ⟨z0, z1, z2, z3, z4, z5, z6, z7, z8, z9, z10, z11, z12, z13, z14, z15, z16, z17, z18, z19, z20, z21, z22, z23, z24, z25, z26, z27, z28, z29, z30, z31, z32, z33, z34, z35, -⟩ := SF
  show Goes _ _ _ _ _ _ (T0.setTop (mkF m 0 #[.val (.int p1)] []))
  refine own_iloadN X0 hx (hb hby d6_0) rfl ?_
  show Goes _ _ _ _ _ _ (T0.setTop (mkF m 1 #[.val (.int p1)] [(.int p1)]))
  refine own_iconst X0 hx (v := (2 : Int32)) (hb hby d6_1) rfl ?_
  show Goes _ _ _ _ _ _ (T0.setTop (mkF m 2 #[.val (.int p1)] [(.int (2 : Int32)), (.int p1)]))
  by_cases hc2_1 : p1 = (2 : Int32)
  ·
    refine own_icmpNo X0 hx (hb hby d6_2) (teq (hc2_1 : p1 = (2 : Int32))).2 ?_
    show Goes _ _ _ _ _ _ (T0.setTop (mkF m 5 #[.val (.int p1)] []))
    refine own_getS X0 hx hZ hown (host := "") (Or.inl (hw _ (List.mem_of_getElem? (i := 73) rfl))) Via.refl e0 (z4.ext O0.2) (hb hby d6_5) (fun T2 X2 e2 => ?_)
    show Goes _ _ _ _ _ _ (T2.setTop (mkF m 8 #[.val (.int p1)] [(.ref w_BSN)]))
    exact own_retR X2 hx N0 hlk (by decide) (by decide) hret rfl rfl rfl (hb hby d6_8) (by rw [e2]; exact Or.inl ⟨rfl, hc2_1, rfl⟩)
  ·
    refine own_icmpYes X0 hx (pc' := 9) (hb hby d6_2) (feq (hc2_1 : ¬ (p1 = (2 : Int32)))).2 (by decide) (by decide) ?_
    show Goes _ _ _ _ _ _ (T0.setTop (mkF m 9 #[.val (.int p1)] []))
    refine own_iloadN X0 hx (hb hby d6_9) rfl ?_
    show Goes _ _ _ _ _ _ (T0.setTop (mkF m 10 #[.val (.int p1)] [(.int p1)]))
    refine own_iconst X0 hx (v := (3 : Int32)) (hb hby d6_10) rfl ?_
    show Goes _ _ _ _ _ _ (T0.setTop (mkF m 11 #[.val (.int p1)] [(.int (3 : Int32)), (.int p1)]))
    by_cases hc11_3 : p1 = (3 : Int32)
    ·
      refine own_icmpNo X0 hx (hb hby d6_11) (teq (hc11_3 : p1 = (3 : Int32))).2 ?_
      show Goes _ _ _ _ _ _ (T0.setTop (mkF m 14 #[.val (.int p1)] []))
      refine own_getS X0 hx hZ hown (host := "") (Or.inl (hw _ (List.mem_of_getElem? (i := 67) rfl))) Via.refl e0 (z6.ext O0.2) (hb hby d6_14) (fun T4 X4 e4 => ?_)
      show Goes _ _ _ _ _ _ (T4.setTop (mkF m 17 #[.val (.int p1)] [(.ref w_PSEUDONYM)]))
      exact own_retR X4 hx N0 hlk (by decide) (by decide) hret rfl rfl rfl (hb hby d6_17) (by rw [e4]; exact Or.inr (Or.inl ⟨rfl, hc11_3, rfl⟩))
    ·
      refine own_icmpYes X0 hx (pc' := 18) (hb hby d6_11) (feq (hc11_3 : ¬ (p1 = (3 : Int32)))).2 (by decide) (by decide) ?_
      show Goes _ _ _ _ _ _ (T0.setTop (mkF m 18 #[.val (.int p1)] []))
      refine own_aconst_null X0 hx (hb hby d6_18) ?_
      show Goes _ _ _ _ _ _ (T0.setTop (mkF m 19 #[.val (.int p1)] [.null]))
      exact own_retR X0 hx N0 hlk (by decide) (by decide) hret rfl rfl rfl (hb hby d6_19) (by rw [e0]; exact Or.inr (Or.inr (⟨rfl, hc2_1, hc11_3, rfl⟩)))
theorem pd_5 : parseMethodDescriptor "(I)Lcom/example/ketenwacht/ketenwacht/model/StructureType;" = some ⟨[.int], some (.object "com/example/ketenwacht/ketenwacht/model/StructureType")⟩ := by decide +kernel
theorem pd_6 : parseMethodDescriptor "(Lcom/example/ketenwacht/ketenwacht/model/StructureType;)Ljava/util/Optional;" = some ⟨[(.object "com/example/ketenwacht/ketenwacht/model/StructureType")], some (.object "java/util/Optional")⟩ := by decide +kernel
theorem pd_7 : parseMethodDescriptor "(I)Lcom/example/ketenwacht/ketenwacht/model/NameIdFormat;" = some ⟨[.int], some (.object "com/example/ketenwacht/ketenwacht/model/NameIdFormat")⟩ := by decide +kernel
def Q0 (Z : State) (p1 : Int32) (w_ENCRYPTED_IDENTITY : Addr) (w__VALUES : Addr) (w_BSN : Addr) (w_PSEUDONYM : Addr) (w_SIGNED_ENCRYPTED_IDENTITY : Addr) (w_SIGNED_ENCRYPTED_PSEUDONYM : Addr) (w_SIGNED_POLYMORPHIC_IDENTITY : Addr) (w_SIGNED_POLYMORPHIC_PSEUDONYM : Addr) (w_ENCRYPTED_PSEUDONYM : Addr) (w_POLYMORPHIC_IDENTITY : Addr) (w_POLYMORPHIC_PSEUDONYM : Addr) (w_EMPTY : Addr) (k_w__VALUES : ClassId) (h0 : Heap) (n0 : Nat) (v : Option Value) (h : Heap) : Prop :=
  (v = some (.int (1 : Int32)))
theorem ef_0 (m : MethodId) (p1 : Int32) : entryFrame m #[(.int p1)] maxLocals = mkF m 0 #[.val (.int p1), .unset, .unset, .unset, .unset] [] := by first | (simp [entryFrame, mkF, argsToLocals, Value.category, maxLocals]; done) | rfl
set_option maxRecDepth 65536 in
set_option maxHeartbeats 40000000 in
theorem rm0 (l : Launch) (Z : State) (a0 : Array Value) (hw : ∀ d ∈ tables_1, d.before a0 Z = true) (ws : List Jvm.Cond) (p1 : Int32) (w_ENCRYPTED_IDENTITY : Addr) (w__VALUES : Addr) (w_BSN : Addr) (w_PSEUDONYM : Addr) (w_SIGNED_ENCRYPTED_IDENTITY : Addr) (w_SIGNED_ENCRYPTED_PSEUDONYM : Addr) (w_SIGNED_POLYMORPHIC_IDENTITY : Addr) (w_SIGNED_POLYMORPHIC_PSEUDONYM : Addr) (w_ENCRYPTED_PSEUDONYM : Addr) (w_POLYMORPHIC_IDENTITY : Addr) (w_POLYMORPHIC_PSEUDONYM : Addr) (w_EMPTY : Addr) (k_w__VALUES : ClassId) (h0 : Heap) (n0 : Nat) (O0 : Old Z n0 h0) (SF : Start Z w_ENCRYPTED_IDENTITY w__VALUES w_BSN w_PSEUDONYM w_SIGNED_ENCRYPTED_IDENTITY w_SIGNED_ENCRYPTED_PSEUDONYM w_SIGNED_POLYMORPHIC_IDENTITY w_SIGNED_POLYMORPHIC_PSEUDONYM w_ENCRYPTED_PSEUDONYM w_POLYMORPHIC_IDENTITY w_POLYMORPHIC_PSEUDONYM w_EMPTY k_w__VALUES) :
    Meets l x code maxLocals ret ws room_1 16 128 Z #[(.int p1)] h0 n0 (Q0 Z p1 w_ENCRYPTED_IDENTITY w__VALUES w_BSN w_PSEUDONYM w_SIGNED_ENCRYPTED_IDENTITY w_SIGNED_ENCRYPTED_PSEUDONYM w_SIGNED_POLYMORPHIC_IDENTITY w_SIGNED_POLYMORPHIC_PSEUDONYM w_ENCRYPTED_PSEUDONYM w_POLYMORPHIC_IDENTITY w_POLYMORPHIC_PSEUDONYM w_EMPTY k_w__VALUES h0 n0) := by
  refine Meets.of (F := fun m => mkF m 0 #[.val (.int p1), .unset, .unset, .unset, .unset] []) (plainFor_of_name pn_0) (fun m => ef_0 m p1) ?_
  intro p e s m below meth c T0 hx hby hml hown0 hnm hret hlk hZ X0 e0
  have hown : s.vm.findClass "com/example/ketenwacht/ketenwacht/model/NameIdFormatOfPinLaw" = some m.cls := hown0
  have N0 := Fr.nil n0
  obtain ⟨z0, z1, z2, z3, z4, z5, z6, z7, z8, z9, z10, z11, z12, z13, z14, z15, z16, z17, z18, z19, z20, z21, z22, z23, z24, z25, z26, z27, z28, z29, z30, z31, z32, z33, z34, z35, -⟩ := SF
  show Goes _ _ _ _ _ _ (T0.setTop (mkF m 0 #[.val (.int p1), .unset, .unset, .unset, .unset] []))
  refine own_iloadN X0 hx (hb hby at_0) rfl ?_
  show Goes _ _ _ _ _ _ (T0.setTop (mkF m 1 #[.val (.int p1), .unset, .unset, .unset, .unset] [(.int p1)]))
  refine own_ldcInt X0 hx hZ hown (hw _ (List.mem_of_getElem? (i := 0) rfl)) (hb hby at_1) ?_
  show Goes _ _ _ _ _ _ (T0.setTop (mkF m 3 #[.val (.int p1), .unset, .unset, .unset, .unset] [(.int (2147483647 : Int32)), (.int p1)]))
  refine own_iand X0 hx (hb hby at_3) ?_
  show Goes _ _ _ _ _ _ (T0.setTop (mkF m 4 #[.val (.int p1), .unset, .unset, .unset, .unset] [(.int (p1 &&& (2147483647 : Int32)))]))
  refine own_bipush X0 hx (v := (8 : Int32)) (hb hby at_4) rfl ?_
  show Goes _ _ _ _ _ _ (T0.setTop (mkF m 6 #[.val (.int p1), .unset, .unset, .unset, .unset] [(.int (8 : Int32)), (.int (p1 &&& (2147483647 : Int32)))]))
  refine own_irem X0 hx (hb hby at_6) (by decide) ?_
  show Goes _ _ _ _ _ _ (T0.setTop (mkF m 7 #[.val (.int p1), .unset, .unset, .unset, .unset] [(.int ((p1 &&& (2147483647 : Int32)) % (8 : Int32)))]))
  refine own_istoreN X0 hx (Ls' := #[.val (.int p1), .val (.int ((p1 &&& (2147483647 : Int32)) % (8 : Int32))), .unset, .unset, .unset]) (hb hby at_7) rfl ?_
  show Goes _ _ _ _ _ _ (T0.setTop (mkF m 8 #[.val (.int p1), .val (.int ((p1 &&& (2147483647 : Int32)) % (8 : Int32))), .unset, .unset, .unset] []))
  refine own_iloadN X0 hx (hb hby at_8) rfl ?_
  show Goes _ _ _ _ _ _ (T0.setTop (mkF m 9 #[.val (.int p1), .val (.int ((p1 &&& (2147483647 : Int32)) % (8 : Int32))), .unset, .unset, .unset] [(.int ((p1 &&& (2147483647 : Int32)) % (8 : Int32)))]))
  refine own_callS X0 hx hZ hown (y := (⟨"com/example/ketenwacht/ketenwacht/model/NameIdFormatOfPinLaw", "pick", "(I)Lcom/example/ketenwacht/ketenwacht/model/StructureType;"⟩ : MethodName)) (hw _ (List.mem_of_getElem? (i := 1) rfl)) (hw _ (List.mem_of_getElem? (i := 2) rfl)) (hw _ (List.mem_of_getElem? (i := 3) rfl)) (hw _ (List.mem_of_getElem? (i := 4) rfl)) (by decide) (W := 0) (by decide) (by decide) N0 e0 (by rw [hml]; rfl) (argsL := [(.int ((p1 &&& (2147483647 : Int32)) % (8 : Int32)))]) (rest := []) (lenOf pd_5 rfl) (Nat.le_of_eq rfl) (by decide) (by decide) (rm1 l Z a0 hw [] ((p1 &&& (2147483647 : Int32)) % (8 : Int32)) w_ENCRYPTED_IDENTITY w__VALUES w_BSN w_PSEUDONYM w_SIGNED_ENCRYPTED_IDENTITY w_SIGNED_ENCRYPTED_PSEUDONYM w_SIGNED_POLYMORPHIC_IDENTITY w_SIGNED_POLYMORPHIC_PSEUDONYM w_ENCRYPTED_PSEUDONYM w_POLYMORPHIC_IDENTITY w_POLYMORPHIC_PSEUDONYM w_EMPTY k_w__VALUES h0 n0 O0 ⟨z0, z1, z2, z3, z4, z5, z6, z7, z8, z9, z10, z11, z12, z13, z14, z15, z16, z17, z18, z19, z20, z21, z22, z23, z24, z25, z26, z27, z28, z29, z30, z31, z32, z33, z34, z35, trivial⟩) rfl (hb hby at_9) ?_
  intro v1 T1 lc1 X1 N1 hQ1
  rcases hQ1 with hQ1_0 | hQ1_1 | hQ1_2 | hQ1_3 | hQ1_4 | hQ1_5 | hQ1_6 | hQ1_7
  ·
    obtain ⟨rfl, hq1_0_0, e1⟩ := hQ1_0
    show Goes _ _ _ _ _ _ (T1.setTop (mkF m 12 #[.val (.int p1), .val (.int ((p1 &&& (2147483647 : Int32)) % (8 : Int32))), .unset, .unset, .unset] [(.ref w_ENCRYPTED_IDENTITY)]))
    refine own_astoreN X1 hx (Ls' := #[.val (.int p1), .val (.int ((p1 &&& (2147483647 : Int32)) % (8 : Int32))), .val (.ref w_ENCRYPTED_IDENTITY), .unset, .unset]) (hb hby at_12) rfl rfl ?_
    show Goes _ _ _ _ _ _ (T1.setTop (mkF m 13 #[.val (.int p1), .val (.int ((p1 &&& (2147483647 : Int32)) % (8 : Int32))), .val (.ref w_ENCRYPTED_IDENTITY), .unset, .unset] []))
    refine own_aloadN X1 hx (hb hby at_13) rfl rfl ?_
    show Goes _ _ _ _ _ _ (T1.setTop (mkF m 14 #[.val (.int p1), .val (.int ((p1 &&& (2147483647 : Int32)) % (8 : Int32))), .val (.ref w_ENCRYPTED_IDENTITY), .unset, .unset] [(.ref w_ENCRYPTED_IDENTITY)]))
    refine own_callS X1 hx hZ hown (y := (⟨"com/example/ketenwacht/ketenwacht/model/NameIdFormat", "of", "(Lcom/example/ketenwacht/ketenwacht/model/StructureType;)Ljava/util/Optional;"⟩ : MethodName)) (hw _ (List.mem_of_getElem? (i := 8) rfl)) (hw _ (List.mem_of_getElem? (i := 9) rfl)) (hw _ (List.mem_of_getElem? (i := 10) rfl)) (hw _ (List.mem_of_getElem? (i := 11) rfl)) (by decide) (W := 0) (by decide) (by decide) N1 e1 (by rw [hml]; rfl) (argsL := [(.ref w_ENCRYPTED_IDENTITY)]) (rest := []) (lenOf pd_6 rfl) (Nat.le_of_eq rfl) (by decide) (by decide) (rm2n l Z a0 hw [] w_ENCRYPTED_IDENTITY w_ENCRYPTED_IDENTITY w__VALUES w_BSN w_PSEUDONYM w_SIGNED_ENCRYPTED_IDENTITY w_SIGNED_ENCRYPTED_PSEUDONYM w_SIGNED_POLYMORPHIC_IDENTITY w_SIGNED_POLYMORPHIC_PSEUDONYM w_ENCRYPTED_PSEUDONYM w_POLYMORPHIC_IDENTITY w_POLYMORPHIC_PSEUDONYM w_EMPTY k_w__VALUES h0 n0 O0 ⟨z0, z1, z2, z3, z4, z5, z6, z7, z8, z9, z10, z11, z12, z13, z14, z15, z16, z17, z18, z19, z20, z21, z22, z23, z24, z25, z26, z27, z28, z29, z30, z31, z32, z33, z34, z35, trivial⟩ (Fld.ne z26 z27 (by decide)) (Fld.ne z29 z27 (by decide))) rfl (hb hby at_14) ?_
    intro v2 T2 lc2 X2 N2 hQ2
    obtain ⟨rfl, K2⟩ := hQ2
    have O3 := O0.keep K2 all0
    show Goes _ _ _ _ _ _ (T2.setTop (mkF m 17 #[.val (.int p1), .val (.int ((p1 &&& (2147483647 : Int32)) % (8 : Int32))), .val (.ref w_ENCRYPTED_IDENTITY), .unset, .unset] [(.ref w_EMPTY)]))
    refine own_astoreN X2 hx (Ls' := #[.val (.int p1), .val (.int ((p1 &&& (2147483647 : Int32)) % (8 : Int32))), .val (.ref w_ENCRYPTED_IDENTITY), .val (.ref w_EMPTY), .unset]) (hb hby at_17) rfl rfl ?_
    show Goes _ _ _ _ _ _ (T2.setTop (mkF m 18 #[.val (.int p1), .val (.int ((p1 &&& (2147483647 : Int32)) % (8 : Int32))), .val (.ref w_ENCRYPTED_IDENTITY), .val (.ref w_EMPTY), .unset] []))
    refine own_aloadN X2 hx (hb hby at_18) rfl rfl ?_
    show Goes _ _ _ _ _ _ (T2.setTop (mkF m 19 #[.val (.int p1), .val (.int ((p1 &&& (2147483647 : Int32)) % (8 : Int32))), .val (.ref w_ENCRYPTED_IDENTITY), .val (.ref w_EMPTY), .unset] [(.ref w_EMPTY)]))
    refine own_aconst_null X2 hx (hb hby at_19) ?_
    show Goes _ _ _ _ _ _ (T2.setTop (mkF m 20 #[.val (.int p1), .val (.int ((p1 &&& (2147483647 : Int32)) % (8 : Int32))), .val (.ref w_ENCRYPTED_IDENTITY), .val (.ref w_EMPTY), .unset] [.null, (.ref w_EMPTY)]))
    refine own_virtual X2 hx hZ hown (y := (⟨"java/util/Optional", "orElse", "(Ljava/lang/Object;)Ljava/lang/Object;"⟩ : MethodName)) (z := (⟨"java/util/Optional", "orElse", "(Ljava/lang/Object;)Ljava/lang/Object;"⟩ : MethodName)) (hw _ (List.mem_of_getElem? (i := 38) rfl)) (hw _ (List.mem_of_getElem? (i := 39) rfl)) (notFace_of_selects (args := #[]) (mvT hZ (hw _ (List.mem_of_getElem? (i := 41) rfl)))) (hw _ (List.mem_of_getElem? (i := 41) rfl)) (hw _ (List.mem_of_getElem? (i := 40) rfl)) (hw _ (List.mem_of_getElem? (i := 35) rfl)) (hw _ (List.mem_of_getElem? (i := 42) rfl)) (a := w_EMPTY) (z23.ext O3.2) (by decide) (W := 0) (by decide) (by decide) N2 rfl (by rw [hml]; rfl) (argsL := [.null]) (rest := []) (lenOf pd_0 rfl) (Nat.le_of_eq rfl) (by decide) (by decide) (rm5n l Z a0 hw [] w_EMPTY T2.heap n0 O3 (z35.ext O3.2)) rfl (hb hby at_20) ?_
    intro v4 T4 lc4 X4 N4 hQ4
    obtain ⟨rfl, e4⟩ := hQ4
    show Goes _ _ _ _ _ _ (T4.setTop (mkF m 23 #[.val (.int p1), .val (.int ((p1 &&& (2147483647 : Int32)) % (8 : Int32))), .val (.ref w_ENCRYPTED_IDENTITY), .val (.ref w_EMPTY), .unset] [.null]))
    refine own_castNull X4 hx (hb hby at_23) ?_
    show Goes _ _ _ _ _ _ (T4.setTop (mkF m 26 #[.val (.int p1), .val (.int ((p1 &&& (2147483647 : Int32)) % (8 : Int32))), .val (.ref w_ENCRYPTED_IDENTITY), .val (.ref w_EMPTY), .unset] [.null]))
    refine own_astore X4 hx (Ls' := #[.val (.int p1), .val (.int ((p1 &&& (2147483647 : Int32)) % (8 : Int32))), .val (.ref w_ENCRYPTED_IDENTITY), .val (.ref w_EMPTY), .val .null]) (hb hby at_26) rfl rfl ?_
    show Goes _ _ _ _ _ _ (T4.setTop (mkF m 28 #[.val (.int p1), .val (.int ((p1 &&& (2147483647 : Int32)) % (8 : Int32))), .val (.ref w_ENCRYPTED_IDENTITY), .val (.ref w_EMPTY), .val .null] []))
    refine own_aload X4 hx (hb hby at_28) rfl rfl ?_
    show Goes _ _ _ _ _ _ (T4.setTop (mkF m 30 #[.val (.int p1), .val (.int ((p1 &&& (2147483647 : Int32)) % (8 : Int32))), .val (.ref w_ENCRYPTED_IDENTITY), .val (.ref w_EMPTY), .val .null] [.null]))
    refine own_iloadN X4 hx (hb hby at_30) rfl ?_
    show Goes _ _ _ _ _ _ (T4.setTop (mkF m 31 #[.val (.int p1), .val (.int ((p1 &&& (2147483647 : Int32)) % (8 : Int32))), .val (.ref w_ENCRYPTED_IDENTITY), .val (.ref w_EMPTY), .val .null] [(.int ((p1 &&& (2147483647 : Int32)) % (8 : Int32))), .null]))
    refine own_callS X4 hx hZ hown (y := (⟨"com/example/ketenwacht/ketenwacht/model/NameIdFormatOfPinLaw", "expected", "(I)Lcom/example/ketenwacht/ketenwacht/model/NameIdFormat;"⟩ : MethodName)) (hw _ (List.mem_of_getElem? (i := 45) rfl)) (hw _ (List.mem_of_getElem? (i := 46) rfl)) (hw _ (List.mem_of_getElem? (i := 3) rfl)) (hw _ (List.mem_of_getElem? (i := 47) rfl)) (by decide) (W := 1) (by decide) (by decide) N4 e4 (by rw [hml]; rfl) (argsL := [(.int ((p1 &&& (2147483647 : Int32)) % (8 : Int32)))]) (rest := [.null]) (lenOf pd_7 rfl) (Nat.le_of_eq rfl) (by decide) (by decide) (rm6 l Z a0 hw [] ((p1 &&& (2147483647 : Int32)) % (8 : Int32)) w_ENCRYPTED_IDENTITY w__VALUES w_BSN w_PSEUDONYM w_SIGNED_ENCRYPTED_IDENTITY w_SIGNED_ENCRYPTED_PSEUDONYM w_SIGNED_POLYMORPHIC_IDENTITY w_SIGNED_POLYMORPHIC_PSEUDONYM w_ENCRYPTED_PSEUDONYM w_POLYMORPHIC_IDENTITY w_POLYMORPHIC_PSEUDONYM w_EMPTY k_w__VALUES T2.heap n0 O3 ⟨z0, z1, z2, z3, z4, z5, z6, z7, z8, z9, z10, z11, z12, z13, z14, z15, z16, z17, z18, z19, z20, z21, z22, z23, z24, z25, z26, z27, z28, z29, z30, z31, z32, z33, z34, z35, trivial⟩) rfl (hb hby at_31) ?_
    intro v5 T5 lc5 X5 N5 hQ5
    rcases hQ5 with hQ5_0 | hQ5_1 | hQ5_2
    ·
      obtain ⟨rfl, hq5_0_0, e5⟩ := hQ5_0
      exact absurd (hq5_0_0.symm.trans hq1_0_0) (by decide)
    ·
      obtain ⟨rfl, hq5_1_0, e5⟩ := hQ5_1
      exact absurd (hq5_1_0.symm.trans hq1_0_0) (by decide)
    ·
      obtain ⟨rfl, hq5_2_0, hq5_2_1, e5⟩ := hQ5_2
      show Goes _ _ _ _ _ _ (T5.setTop (mkF m 34 #[.val (.int p1), .val (.int ((p1 &&& (2147483647 : Int32)) % (8 : Int32))), .val (.ref w_ENCRYPTED_IDENTITY), .val (.ref w_EMPTY), .val .null] [.null, .null]))
      refine own_acmp X5 hx rfl rfl (same := true) (pc' := 37) (hb hby at_34) (decide_eq_true rfl) (by decide) (by decide) ?_
      show Goes _ _ _ _ _ _ (T5.setTop (mkF m 37 #[.val (.int p1), .val (.int ((p1 &&& (2147483647 : Int32)) % (8 : Int32))), .val (.ref w_ENCRYPTED_IDENTITY), .val (.ref w_EMPTY), .val .null] []))
      refine own_iconst X5 hx (v := (1 : Int32)) (hb hby at_37) rfl ?_
      show Goes _ _ _ _ _ _ (T5.setTop (mkF m 38 #[.val (.int p1), .val (.int ((p1 &&& (2147483647 : Int32)) % (8 : Int32))), .val (.ref w_ENCRYPTED_IDENTITY), .val (.ref w_EMPTY), .val .null] [(.int (1 : Int32))]))
      refine own_goto X5 hx (pc' := 42) (hb hby at_38) (by decide) (by decide) ?_
      show Goes _ _ _ _ _ _ (T5.setTop (mkF m 42 #[.val (.int p1), .val (.int ((p1 &&& (2147483647 : Int32)) % (8 : Int32))), .val (.ref w_ENCRYPTED_IDENTITY), .val (.ref w_EMPTY), .val .null] [(.int (1 : Int32))]))
      exact own_retN X5 hx (t := .boolean) N5 hlk (by decide) (by decide) hret (by simp) (hb hby at_42) (by rw [e5]; exact rfl)
  ·
    obtain ⟨rfl, hq1_1_0, e1⟩ := hQ1_1
    show Goes _ _ _ _ _ _ (T1.setTop (mkF m 12 #[.val (.int p1), .val (.int ((p1 &&& (2147483647 : Int32)) % (8 : Int32))), .unset, .unset, .unset] [(.ref w_ENCRYPTED_PSEUDONYM)]))
    refine own_astoreN X1 hx (Ls' := #[.val (.int p1), .val (.int ((p1 &&& (2147483647 : Int32)) % (8 : Int32))), .val (.ref w_ENCRYPTED_PSEUDONYM), .unset, .unset]) (hb hby at_12) rfl rfl ?_
    show Goes _ _ _ _ _ _ (T1.setTop (mkF m 13 #[.val (.int p1), .val (.int ((p1 &&& (2147483647 : Int32)) % (8 : Int32))), .val (.ref w_ENCRYPTED_PSEUDONYM), .unset, .unset] []))
    refine own_aloadN X1 hx (hb hby at_13) rfl rfl ?_
    show Goes _ _ _ _ _ _ (T1.setTop (mkF m 14 #[.val (.int p1), .val (.int ((p1 &&& (2147483647 : Int32)) % (8 : Int32))), .val (.ref w_ENCRYPTED_PSEUDONYM), .unset, .unset] [(.ref w_ENCRYPTED_PSEUDONYM)]))
    refine own_callS X1 hx hZ hown (y := (⟨"com/example/ketenwacht/ketenwacht/model/NameIdFormat", "of", "(Lcom/example/ketenwacht/ketenwacht/model/StructureType;)Ljava/util/Optional;"⟩ : MethodName)) (hw _ (List.mem_of_getElem? (i := 8) rfl)) (hw _ (List.mem_of_getElem? (i := 9) rfl)) (hw _ (List.mem_of_getElem? (i := 10) rfl)) (hw _ (List.mem_of_getElem? (i := 11) rfl)) (by decide) (W := 0) (by decide) (by decide) N1 e1 (by rw [hml]; rfl) (argsL := [(.ref w_ENCRYPTED_PSEUDONYM)]) (rest := []) (lenOf pd_6 rfl) (Nat.le_of_eq rfl) (by decide) (by decide) (rm2n l Z a0 hw [] w_ENCRYPTED_PSEUDONYM w_ENCRYPTED_IDENTITY w__VALUES w_BSN w_PSEUDONYM w_SIGNED_ENCRYPTED_IDENTITY w_SIGNED_ENCRYPTED_PSEUDONYM w_SIGNED_POLYMORPHIC_IDENTITY w_SIGNED_POLYMORPHIC_PSEUDONYM w_ENCRYPTED_PSEUDONYM w_POLYMORPHIC_IDENTITY w_POLYMORPHIC_PSEUDONYM w_EMPTY k_w__VALUES h0 n0 O0 ⟨z0, z1, z2, z3, z4, z5, z6, z7, z8, z9, z10, z11, z12, z13, z14, z15, z16, z17, z18, z19, z20, z21, z22, z23, z24, z25, z26, z27, z28, z29, z30, z31, z32, z33, z34, z35, trivial⟩ (Fld.ne z26 z32 (by decide)) (Fld.ne z29 z32 (by decide))) rfl (hb hby at_14) ?_
    intro v6 T6 lc6 X6 N6 hQ6
    obtain ⟨rfl, K6⟩ := hQ6
    have O7 := O0.keep K6 all0
    show Goes _ _ _ _ _ _ (T6.setTop (mkF m 17 #[.val (.int p1), .val (.int ((p1 &&& (2147483647 : Int32)) % (8 : Int32))), .val (.ref w_ENCRYPTED_PSEUDONYM), .unset, .unset] [(.ref w_EMPTY)]))
    refine own_astoreN X6 hx (Ls' := #[.val (.int p1), .val (.int ((p1 &&& (2147483647 : Int32)) % (8 : Int32))), .val (.ref w_ENCRYPTED_PSEUDONYM), .val (.ref w_EMPTY), .unset]) (hb hby at_17) rfl rfl ?_
    show Goes _ _ _ _ _ _ (T6.setTop (mkF m 18 #[.val (.int p1), .val (.int ((p1 &&& (2147483647 : Int32)) % (8 : Int32))), .val (.ref w_ENCRYPTED_PSEUDONYM), .val (.ref w_EMPTY), .unset] []))
    refine own_aloadN X6 hx (hb hby at_18) rfl rfl ?_
    show Goes _ _ _ _ _ _ (T6.setTop (mkF m 19 #[.val (.int p1), .val (.int ((p1 &&& (2147483647 : Int32)) % (8 : Int32))), .val (.ref w_ENCRYPTED_PSEUDONYM), .val (.ref w_EMPTY), .unset] [(.ref w_EMPTY)]))
    refine own_aconst_null X6 hx (hb hby at_19) ?_
    show Goes _ _ _ _ _ _ (T6.setTop (mkF m 20 #[.val (.int p1), .val (.int ((p1 &&& (2147483647 : Int32)) % (8 : Int32))), .val (.ref w_ENCRYPTED_PSEUDONYM), .val (.ref w_EMPTY), .unset] [.null, (.ref w_EMPTY)]))
    refine own_virtual X6 hx hZ hown (y := (⟨"java/util/Optional", "orElse", "(Ljava/lang/Object;)Ljava/lang/Object;"⟩ : MethodName)) (z := (⟨"java/util/Optional", "orElse", "(Ljava/lang/Object;)Ljava/lang/Object;"⟩ : MethodName)) (hw _ (List.mem_of_getElem? (i := 38) rfl)) (hw _ (List.mem_of_getElem? (i := 39) rfl)) (notFace_of_selects (args := #[]) (mvT hZ (hw _ (List.mem_of_getElem? (i := 41) rfl)))) (hw _ (List.mem_of_getElem? (i := 41) rfl)) (hw _ (List.mem_of_getElem? (i := 40) rfl)) (hw _ (List.mem_of_getElem? (i := 35) rfl)) (hw _ (List.mem_of_getElem? (i := 42) rfl)) (a := w_EMPTY) (z23.ext O7.2) (by decide) (W := 0) (by decide) (by decide) N6 rfl (by rw [hml]; rfl) (argsL := [.null]) (rest := []) (lenOf pd_0 rfl) (Nat.le_of_eq rfl) (by decide) (by decide) (rm5n l Z a0 hw [] w_EMPTY T6.heap n0 O7 (z35.ext O7.2)) rfl (hb hby at_20) ?_
    intro v8 T8 lc8 X8 N8 hQ8
    obtain ⟨rfl, e8⟩ := hQ8
    show Goes _ _ _ _ _ _ (T8.setTop (mkF m 23 #[.val (.int p1), .val (.int ((p1 &&& (2147483647 : Int32)) % (8 : Int32))), .val (.ref w_ENCRYPTED_PSEUDONYM), .val (.ref w_EMPTY), .unset] [.null]))
    refine own_castNull X8 hx (hb hby at_23) ?_
    show Goes _ _ _ _ _ _ (T8.setTop (mkF m 26 #[.val (.int p1), .val (.int ((p1 &&& (2147483647 : Int32)) % (8 : Int32))), .val (.ref w_ENCRYPTED_PSEUDONYM), .val (.ref w_EMPTY), .unset] [.null]))
    refine own_astore X8 hx (Ls' := #[.val (.int p1), .val (.int ((p1 &&& (2147483647 : Int32)) % (8 : Int32))), .val (.ref w_ENCRYPTED_PSEUDONYM), .val (.ref w_EMPTY), .val .null]) (hb hby at_26) rfl rfl ?_
    show Goes _ _ _ _ _ _ (T8.setTop (mkF m 28 #[.val (.int p1), .val (.int ((p1 &&& (2147483647 : Int32)) % (8 : Int32))), .val (.ref w_ENCRYPTED_PSEUDONYM), .val (.ref w_EMPTY), .val .null] []))
    refine own_aload X8 hx (hb hby at_28) rfl rfl ?_
    show Goes _ _ _ _ _ _ (T8.setTop (mkF m 30 #[.val (.int p1), .val (.int ((p1 &&& (2147483647 : Int32)) % (8 : Int32))), .val (.ref w_ENCRYPTED_PSEUDONYM), .val (.ref w_EMPTY), .val .null] [.null]))
    refine own_iloadN X8 hx (hb hby at_30) rfl ?_
    show Goes _ _ _ _ _ _ (T8.setTop (mkF m 31 #[.val (.int p1), .val (.int ((p1 &&& (2147483647 : Int32)) % (8 : Int32))), .val (.ref w_ENCRYPTED_PSEUDONYM), .val (.ref w_EMPTY), .val .null] [(.int ((p1 &&& (2147483647 : Int32)) % (8 : Int32))), .null]))
    refine own_callS X8 hx hZ hown (y := (⟨"com/example/ketenwacht/ketenwacht/model/NameIdFormatOfPinLaw", "expected", "(I)Lcom/example/ketenwacht/ketenwacht/model/NameIdFormat;"⟩ : MethodName)) (hw _ (List.mem_of_getElem? (i := 45) rfl)) (hw _ (List.mem_of_getElem? (i := 46) rfl)) (hw _ (List.mem_of_getElem? (i := 3) rfl)) (hw _ (List.mem_of_getElem? (i := 47) rfl)) (by decide) (W := 1) (by decide) (by decide) N8 e8 (by rw [hml]; rfl) (argsL := [(.int ((p1 &&& (2147483647 : Int32)) % (8 : Int32)))]) (rest := [.null]) (lenOf pd_7 rfl) (Nat.le_of_eq rfl) (by decide) (by decide) (rm6 l Z a0 hw [] ((p1 &&& (2147483647 : Int32)) % (8 : Int32)) w_ENCRYPTED_IDENTITY w__VALUES w_BSN w_PSEUDONYM w_SIGNED_ENCRYPTED_IDENTITY w_SIGNED_ENCRYPTED_PSEUDONYM w_SIGNED_POLYMORPHIC_IDENTITY w_SIGNED_POLYMORPHIC_PSEUDONYM w_ENCRYPTED_PSEUDONYM w_POLYMORPHIC_IDENTITY w_POLYMORPHIC_PSEUDONYM w_EMPTY k_w__VALUES T6.heap n0 O7 ⟨z0, z1, z2, z3, z4, z5, z6, z7, z8, z9, z10, z11, z12, z13, z14, z15, z16, z17, z18, z19, z20, z21, z22, z23, z24, z25, z26, z27, z28, z29, z30, z31, z32, z33, z34, z35, trivial⟩) rfl (hb hby at_31) ?_
    intro v9 T9 lc9 X9 N9 hQ9
    rcases hQ9 with hQ9_0 | hQ9_1 | hQ9_2
    ·
      obtain ⟨rfl, hq9_0_0, e9⟩ := hQ9_0
      exact absurd (hq9_0_0.symm.trans hq1_1_0) (by decide)
    ·
      obtain ⟨rfl, hq9_1_0, e9⟩ := hQ9_1
      exact absurd (hq9_1_0.symm.trans hq1_1_0) (by decide)
    ·
      obtain ⟨rfl, hq9_2_0, hq9_2_1, e9⟩ := hQ9_2
      show Goes _ _ _ _ _ _ (T9.setTop (mkF m 34 #[.val (.int p1), .val (.int ((p1 &&& (2147483647 : Int32)) % (8 : Int32))), .val (.ref w_ENCRYPTED_PSEUDONYM), .val (.ref w_EMPTY), .val .null] [.null, .null]))
      refine own_acmp X9 hx rfl rfl (same := true) (pc' := 37) (hb hby at_34) (decide_eq_true rfl) (by decide) (by decide) ?_
      show Goes _ _ _ _ _ _ (T9.setTop (mkF m 37 #[.val (.int p1), .val (.int ((p1 &&& (2147483647 : Int32)) % (8 : Int32))), .val (.ref w_ENCRYPTED_PSEUDONYM), .val (.ref w_EMPTY), .val .null] []))
      refine own_iconst X9 hx (v := (1 : Int32)) (hb hby at_37) rfl ?_
      show Goes _ _ _ _ _ _ (T9.setTop (mkF m 38 #[.val (.int p1), .val (.int ((p1 &&& (2147483647 : Int32)) % (8 : Int32))), .val (.ref w_ENCRYPTED_PSEUDONYM), .val (.ref w_EMPTY), .val .null] [(.int (1 : Int32))]))
      refine own_goto X9 hx (pc' := 42) (hb hby at_38) (by decide) (by decide) ?_
      show Goes _ _ _ _ _ _ (T9.setTop (mkF m 42 #[.val (.int p1), .val (.int ((p1 &&& (2147483647 : Int32)) % (8 : Int32))), .val (.ref w_ENCRYPTED_PSEUDONYM), .val (.ref w_EMPTY), .val .null] [(.int (1 : Int32))]))
      exact own_retN X9 hx (t := .boolean) N9 hlk (by decide) (by decide) hret (by simp) (hb hby at_42) (by rw [e9]; exact rfl)
  ·
    obtain ⟨rfl, hq1_2_0, e1⟩ := hQ1_2
    show Goes _ _ _ _ _ _ (T1.setTop (mkF m 12 #[.val (.int p1), .val (.int ((p1 &&& (2147483647 : Int32)) % (8 : Int32))), .unset, .unset, .unset] [(.ref w_SIGNED_ENCRYPTED_IDENTITY)]))
    refine own_astoreN X1 hx (Ls' := #[.val (.int p1), .val (.int ((p1 &&& (2147483647 : Int32)) % (8 : Int32))), .val (.ref w_SIGNED_ENCRYPTED_IDENTITY), .unset, .unset]) (hb hby at_12) rfl rfl ?_
    show Goes _ _ _ _ _ _ (T1.setTop (mkF m 13 #[.val (.int p1), .val (.int ((p1 &&& (2147483647 : Int32)) % (8 : Int32))), .val (.ref w_SIGNED_ENCRYPTED_IDENTITY), .unset, .unset] []))
    refine own_aloadN X1 hx (hb hby at_13) rfl rfl ?_
    show Goes _ _ _ _ _ _ (T1.setTop (mkF m 14 #[.val (.int p1), .val (.int ((p1 &&& (2147483647 : Int32)) % (8 : Int32))), .val (.ref w_SIGNED_ENCRYPTED_IDENTITY), .unset, .unset] [(.ref w_SIGNED_ENCRYPTED_IDENTITY)]))
    refine own_callS X1 hx hZ hown (y := (⟨"com/example/ketenwacht/ketenwacht/model/NameIdFormat", "of", "(Lcom/example/ketenwacht/ketenwacht/model/StructureType;)Ljava/util/Optional;"⟩ : MethodName)) (hw _ (List.mem_of_getElem? (i := 8) rfl)) (hw _ (List.mem_of_getElem? (i := 9) rfl)) (hw _ (List.mem_of_getElem? (i := 10) rfl)) (hw _ (List.mem_of_getElem? (i := 11) rfl)) (by decide) (W := 0) (by decide) (by decide) N1 e1 (by rw [hml]; rfl) (argsL := [(.ref w_SIGNED_ENCRYPTED_IDENTITY)]) (rest := []) (lenOf pd_6 rfl) (Nat.le_of_eq rfl) (by decide) (by decide) (rm2a l Z a0 hw [] w_ENCRYPTED_IDENTITY w__VALUES w_BSN w_PSEUDONYM w_SIGNED_ENCRYPTED_IDENTITY w_SIGNED_ENCRYPTED_PSEUDONYM w_SIGNED_POLYMORPHIC_IDENTITY w_SIGNED_POLYMORPHIC_PSEUDONYM w_ENCRYPTED_PSEUDONYM w_POLYMORPHIC_IDENTITY w_POLYMORPHIC_PSEUDONYM w_EMPTY k_w__VALUES h0 n0 O0 ⟨z0, z1, z2, z3, z4, z5, z6, z7, z8, z9, z10, z11, z12, z13, z14, z15, z16, z17, z18, z19, z20, z21, z22, z23, z24, z25, z26, z27, z28, z29, z30, z31, z32, z33, z34, z35, trivial⟩) rfl (hb hby at_14) ?_
    intro v10 T10 lc10 X10 N10 hQ10
    obtain ⟨b_10, rfl, K10, r10_0, r10_1, r10_2⟩ := hQ10
    have O11 := O0.keep K10 all0
    have ge_b_10 : n0 ≤ b_10 := Nat.le_trans (own_sz O0) r10_2
    show Goes _ _ _ _ _ _ (T10.setTop (mkF m 17 #[.val (.int p1), .val (.int ((p1 &&& (2147483647 : Int32)) % (8 : Int32))), .val (.ref w_SIGNED_ENCRYPTED_IDENTITY), .unset, .unset] [(.ref b_10)]))
    refine own_astoreN X10 hx (Ls' := #[.val (.int p1), .val (.int ((p1 &&& (2147483647 : Int32)) % (8 : Int32))), .val (.ref w_SIGNED_ENCRYPTED_IDENTITY), .val (.ref b_10), .unset]) (hb hby at_17) rfl rfl ?_
    show Goes _ _ _ _ _ _ (T10.setTop (mkF m 18 #[.val (.int p1), .val (.int ((p1 &&& (2147483647 : Int32)) % (8 : Int32))), .val (.ref w_SIGNED_ENCRYPTED_IDENTITY), .val (.ref b_10), .unset] []))
    refine own_aloadN X10 hx (hb hby at_18) rfl rfl ?_
    show Goes _ _ _ _ _ _ (T10.setTop (mkF m 19 #[.val (.int p1), .val (.int ((p1 &&& (2147483647 : Int32)) % (8 : Int32))), .val (.ref w_SIGNED_ENCRYPTED_IDENTITY), .val (.ref b_10), .unset] [(.ref b_10)]))
    refine own_aconst_null X10 hx (hb hby at_19) ?_
    show Goes _ _ _ _ _ _ (T10.setTop (mkF m 20 #[.val (.int p1), .val (.int ((p1 &&& (2147483647 : Int32)) % (8 : Int32))), .val (.ref w_SIGNED_ENCRYPTED_IDENTITY), .val (.ref b_10), .unset] [.null, (.ref b_10)]))
    refine own_virtual X10 hx hZ hown (y := (⟨"java/util/Optional", "orElse", "(Ljava/lang/Object;)Ljava/lang/Object;"⟩ : MethodName)) (z := (⟨"java/util/Optional", "orElse", "(Ljava/lang/Object;)Ljava/lang/Object;"⟩ : MethodName)) (hw _ (List.mem_of_getElem? (i := 38) rfl)) (hw _ (List.mem_of_getElem? (i := 39) rfl)) (notFace_of_selects (args := #[]) (mvT hZ (hw _ (List.mem_of_getElem? (i := 41) rfl)))) (hw _ (List.mem_of_getElem? (i := 41) rfl)) (hw _ (List.mem_of_getElem? (i := 40) rfl)) (hw _ (List.mem_of_getElem? (i := 35) rfl)) (hw _ (List.mem_of_getElem? (i := 42) rfl)) (a := b_10) r10_0 (by decide) (W := 0) (by decide) (by decide) N10 rfl (by rw [hml]; rfl) (argsL := [.null]) (rest := []) (lenOf pd_0 rfl) (Nat.le_of_eq rfl) (by decide) (by decide) (rm5v l Z a0 hw [] b_10 w_BSN T10.heap n0 O11 r10_1) rfl (hb hby at_20) ?_
    intro v12 T12 lc12 X12 N12 hQ12
    obtain ⟨rfl, e12⟩ := hQ12
    show Goes _ _ _ _ _ _ (T12.setTop (mkF m 23 #[.val (.int p1), .val (.int ((p1 &&& (2147483647 : Int32)) % (8 : Int32))), .val (.ref w_SIGNED_ENCRYPTED_IDENTITY), .val (.ref b_10), .unset] [(.ref w_BSN)]))
    refine own_castY X12 hx hZ hown (hw _ (List.mem_of_getElem? (i := 65) rfl)) e12 (Ins.self (z5.ext O11.2)) (hb hby at_23) (fun T13 X13 e13 => ?_)
    show Goes _ _ _ _ _ _ (T13.setTop (mkF m 26 #[.val (.int p1), .val (.int ((p1 &&& (2147483647 : Int32)) % (8 : Int32))), .val (.ref w_SIGNED_ENCRYPTED_IDENTITY), .val (.ref b_10), .unset] [(.ref w_BSN)]))
    refine own_astore X13 hx (Ls' := #[.val (.int p1), .val (.int ((p1 &&& (2147483647 : Int32)) % (8 : Int32))), .val (.ref w_SIGNED_ENCRYPTED_IDENTITY), .val (.ref b_10), .val (.ref w_BSN)]) (hb hby at_26) rfl rfl ?_
    show Goes _ _ _ _ _ _ (T13.setTop (mkF m 28 #[.val (.int p1), .val (.int ((p1 &&& (2147483647 : Int32)) % (8 : Int32))), .val (.ref w_SIGNED_ENCRYPTED_IDENTITY), .val (.ref b_10), .val (.ref w_BSN)] []))
    refine own_aload X13 hx (hb hby at_28) rfl rfl ?_
    show Goes _ _ _ _ _ _ (T13.setTop (mkF m 30 #[.val (.int p1), .val (.int ((p1 &&& (2147483647 : Int32)) % (8 : Int32))), .val (.ref w_SIGNED_ENCRYPTED_IDENTITY), .val (.ref b_10), .val (.ref w_BSN)] [(.ref w_BSN)]))
    refine own_iloadN X13 hx (hb hby at_30) rfl ?_
    show Goes _ _ _ _ _ _ (T13.setTop (mkF m 31 #[.val (.int p1), .val (.int ((p1 &&& (2147483647 : Int32)) % (8 : Int32))), .val (.ref w_SIGNED_ENCRYPTED_IDENTITY), .val (.ref b_10), .val (.ref w_BSN)] [(.int ((p1 &&& (2147483647 : Int32)) % (8 : Int32))), (.ref w_BSN)]))
    refine own_callS X13 hx hZ hown (y := (⟨"com/example/ketenwacht/ketenwacht/model/NameIdFormatOfPinLaw", "expected", "(I)Lcom/example/ketenwacht/ketenwacht/model/NameIdFormat;"⟩ : MethodName)) (hw _ (List.mem_of_getElem? (i := 45) rfl)) (hw _ (List.mem_of_getElem? (i := 46) rfl)) (hw _ (List.mem_of_getElem? (i := 3) rfl)) (hw _ (List.mem_of_getElem? (i := 47) rfl)) (by decide) (W := 1) (by decide) (by decide) N12 e13 (by rw [hml]; rfl) (argsL := [(.int ((p1 &&& (2147483647 : Int32)) % (8 : Int32)))]) (rest := [(.ref w_BSN)]) (lenOf pd_7 rfl) (Nat.le_of_eq rfl) (by decide) (by decide) (rm6 l Z a0 hw [] ((p1 &&& (2147483647 : Int32)) % (8 : Int32)) w_ENCRYPTED_IDENTITY w__VALUES w_BSN w_PSEUDONYM w_SIGNED_ENCRYPTED_IDENTITY w_SIGNED_ENCRYPTED_PSEUDONYM w_SIGNED_POLYMORPHIC_IDENTITY w_SIGNED_POLYMORPHIC_PSEUDONYM w_ENCRYPTED_PSEUDONYM w_POLYMORPHIC_IDENTITY w_POLYMORPHIC_PSEUDONYM w_EMPTY k_w__VALUES T10.heap n0 O11 ⟨z0, z1, z2, z3, z4, z5, z6, z7, z8, z9, z10, z11, z12, z13, z14, z15, z16, z17, z18, z19, z20, z21, z22, z23, z24, z25, z26, z27, z28, z29, z30, z31, z32, z33, z34, z35, trivial⟩) rfl (hb hby at_31) ?_
    intro v14 T14 lc14 X14 N14 hQ14
    rcases hQ14 with hQ14_0 | hQ14_1 | hQ14_2
    ·
      obtain ⟨rfl, hq14_0_0, e14⟩ := hQ14_0
      show Goes _ _ _ _ _ _ (T14.setTop (mkF m 34 #[.val (.int p1), .val (.int ((p1 &&& (2147483647 : Int32)) % (8 : Int32))), .val (.ref w_SIGNED_ENCRYPTED_IDENTITY), .val (.ref b_10), .val (.ref w_BSN)] [(.ref w_BSN), (.ref w_BSN)]))
      refine own_acmp X14 hx rfl rfl (same := true) (pc' := 37) (hb hby at_34) (decide_eq_true rfl) (by decide) (by decide) ?_
      show Goes _ _ _ _ _ _ (T14.setTop (mkF m 37 #[.val (.int p1), .val (.int ((p1 &&& (2147483647 : Int32)) % (8 : Int32))), .val (.ref w_SIGNED_ENCRYPTED_IDENTITY), .val (.ref b_10), .val (.ref w_BSN)] []))
      refine own_iconst X14 hx (v := (1 : Int32)) (hb hby at_37) rfl ?_
      show Goes _ _ _ _ _ _ (T14.setTop (mkF m 38 #[.val (.int p1), .val (.int ((p1 &&& (2147483647 : Int32)) % (8 : Int32))), .val (.ref w_SIGNED_ENCRYPTED_IDENTITY), .val (.ref b_10), .val (.ref w_BSN)] [(.int (1 : Int32))]))
      refine own_goto X14 hx (pc' := 42) (hb hby at_38) (by decide) (by decide) ?_
      show Goes _ _ _ _ _ _ (T14.setTop (mkF m 42 #[.val (.int p1), .val (.int ((p1 &&& (2147483647 : Int32)) % (8 : Int32))), .val (.ref w_SIGNED_ENCRYPTED_IDENTITY), .val (.ref b_10), .val (.ref w_BSN)] [(.int (1 : Int32))]))
      exact own_retN X14 hx (t := .boolean) N14 hlk (by decide) (by decide) hret (by simp) (hb hby at_42) (by rw [e14]; exact rfl)
    ·
      obtain ⟨rfl, hq14_1_0, e14⟩ := hQ14_1
      exact absurd (hq14_1_0.symm.trans hq1_2_0) (by decide)
    ·
      obtain ⟨rfl, hq14_2_0, hq14_2_1, e14⟩ := hQ14_2
      exact absurd hq1_2_0 hq14_2_0
  ·
    obtain ⟨rfl, hq1_3_0, e1⟩ := hQ1_3
    show Goes _ _ _ _ _ _ (T1.setTop (mkF m 12 #[.val (.int p1), .val (.int ((p1 &&& (2147483647 : Int32)) % (8 : Int32))), .unset, .unset, .unset] [(.ref w_SIGNED_ENCRYPTED_PSEUDONYM)]))
    refine own_astoreN X1 hx (Ls' := #[.val (.int p1), .val (.int ((p1 &&& (2147483647 : Int32)) % (8 : Int32))), .val (.ref w_SIGNED_ENCRYPTED_PSEUDONYM), .unset, .unset]) (hb hby at_12) rfl rfl ?_
    show Goes _ _ _ _ _ _ (T1.setTop (mkF m 13 #[.val (.int p1), .val (.int ((p1 &&& (2147483647 : Int32)) % (8 : Int32))), .val (.ref w_SIGNED_ENCRYPTED_PSEUDONYM), .unset, .unset] []))
    refine own_aloadN X1 hx (hb hby at_13) rfl rfl ?_
    show Goes _ _ _ _ _ _ (T1.setTop (mkF m 14 #[.val (.int p1), .val (.int ((p1 &&& (2147483647 : Int32)) % (8 : Int32))), .val (.ref w_SIGNED_ENCRYPTED_PSEUDONYM), .unset, .unset] [(.ref w_SIGNED_ENCRYPTED_PSEUDONYM)]))
    refine own_callS X1 hx hZ hown (y := (⟨"com/example/ketenwacht/ketenwacht/model/NameIdFormat", "of", "(Lcom/example/ketenwacht/ketenwacht/model/StructureType;)Ljava/util/Optional;"⟩ : MethodName)) (hw _ (List.mem_of_getElem? (i := 8) rfl)) (hw _ (List.mem_of_getElem? (i := 9) rfl)) (hw _ (List.mem_of_getElem? (i := 10) rfl)) (hw _ (List.mem_of_getElem? (i := 11) rfl)) (by decide) (W := 0) (by decide) (by decide) N1 e1 (by rw [hml]; rfl) (argsL := [(.ref w_SIGNED_ENCRYPTED_PSEUDONYM)]) (rest := []) (lenOf pd_6 rfl) (Nat.le_of_eq rfl) (by decide) (by decide) (rm2b l Z a0 hw [] w_ENCRYPTED_IDENTITY w__VALUES w_BSN w_PSEUDONYM w_SIGNED_ENCRYPTED_IDENTITY w_SIGNED_ENCRYPTED_PSEUDONYM w_SIGNED_POLYMORPHIC_IDENTITY w_SIGNED_POLYMORPHIC_PSEUDONYM w_ENCRYPTED_PSEUDONYM w_POLYMORPHIC_IDENTITY w_POLYMORPHIC_PSEUDONYM w_EMPTY k_w__VALUES h0 n0 O0 ⟨z0, z1, z2, z3, z4, z5, z6, z7, z8, z9, z10, z11, z12, z13, z14, z15, z16, z17, z18, z19, z20, z21, z22, z23, z24, z25, z26, z27, z28, z29, z30, z31, z32, z33, z34, z35, trivial⟩) rfl (hb hby at_14) ?_
    intro v15 T15 lc15 X15 N15 hQ15
    obtain ⟨b_15, rfl, K15, r15_0, r15_1, r15_2⟩ := hQ15
    have O16 := O0.keep K15 all0
    have ge_b_15 : n0 ≤ b_15 := Nat.le_trans (own_sz O0) r15_2
    show Goes _ _ _ _ _ _ (T15.setTop (mkF m 17 #[.val (.int p1), .val (.int ((p1 &&& (2147483647 : Int32)) % (8 : Int32))), .val (.ref w_SIGNED_ENCRYPTED_PSEUDONYM), .unset, .unset] [(.ref b_15)]))
    refine own_astoreN X15 hx (Ls' := #[.val (.int p1), .val (.int ((p1 &&& (2147483647 : Int32)) % (8 : Int32))), .val (.ref w_SIGNED_ENCRYPTED_PSEUDONYM), .val (.ref b_15), .unset]) (hb hby at_17) rfl rfl ?_
    show Goes _ _ _ _ _ _ (T15.setTop (mkF m 18 #[.val (.int p1), .val (.int ((p1 &&& (2147483647 : Int32)) % (8 : Int32))), .val (.ref w_SIGNED_ENCRYPTED_PSEUDONYM), .val (.ref b_15), .unset] []))
    refine own_aloadN X15 hx (hb hby at_18) rfl rfl ?_
    show Goes _ _ _ _ _ _ (T15.setTop (mkF m 19 #[.val (.int p1), .val (.int ((p1 &&& (2147483647 : Int32)) % (8 : Int32))), .val (.ref w_SIGNED_ENCRYPTED_PSEUDONYM), .val (.ref b_15), .unset] [(.ref b_15)]))
    refine own_aconst_null X15 hx (hb hby at_19) ?_
    show Goes _ _ _ _ _ _ (T15.setTop (mkF m 20 #[.val (.int p1), .val (.int ((p1 &&& (2147483647 : Int32)) % (8 : Int32))), .val (.ref w_SIGNED_ENCRYPTED_PSEUDONYM), .val (.ref b_15), .unset] [.null, (.ref b_15)]))
    refine own_virtual X15 hx hZ hown (y := (⟨"java/util/Optional", "orElse", "(Ljava/lang/Object;)Ljava/lang/Object;"⟩ : MethodName)) (z := (⟨"java/util/Optional", "orElse", "(Ljava/lang/Object;)Ljava/lang/Object;"⟩ : MethodName)) (hw _ (List.mem_of_getElem? (i := 38) rfl)) (hw _ (List.mem_of_getElem? (i := 39) rfl)) (notFace_of_selects (args := #[]) (mvT hZ (hw _ (List.mem_of_getElem? (i := 41) rfl)))) (hw _ (List.mem_of_getElem? (i := 41) rfl)) (hw _ (List.mem_of_getElem? (i := 40) rfl)) (hw _ (List.mem_of_getElem? (i := 35) rfl)) (hw _ (List.mem_of_getElem? (i := 42) rfl)) (a := b_15) r15_0 (by decide) (W := 0) (by decide) (by decide) N15 rfl (by rw [hml]; rfl) (argsL := [.null]) (rest := []) (lenOf pd_0 rfl) (Nat.le_of_eq rfl) (by decide) (by decide) (rm5v l Z a0 hw [] b_15 w_PSEUDONYM T15.heap n0 O16 r15_1) rfl (hb hby at_20) ?_
    intro v17 T17 lc17 X17 N17 hQ17
    obtain ⟨rfl, e17⟩ := hQ17
    show Goes _ _ _ _ _ _ (T17.setTop (mkF m 23 #[.val (.int p1), .val (.int ((p1 &&& (2147483647 : Int32)) % (8 : Int32))), .val (.ref w_SIGNED_ENCRYPTED_PSEUDONYM), .val (.ref b_15), .unset] [(.ref w_PSEUDONYM)]))
    refine own_castY X17 hx hZ hown (hw _ (List.mem_of_getElem? (i := 65) rfl)) e17 (Ins.self (z7.ext O16.2)) (hb hby at_23) (fun T18 X18 e18 => ?_)
    show Goes _ _ _ _ _ _ (T18.setTop (mkF m 26 #[.val (.int p1), .val (.int ((p1 &&& (2147483647 : Int32)) % (8 : Int32))), .val (.ref w_SIGNED_ENCRYPTED_PSEUDONYM), .val (.ref b_15), .unset] [(.ref w_PSEUDONYM)]))
    refine own_astore X18 hx (Ls' := #[.val (.int p1), .val (.int ((p1 &&& (2147483647 : Int32)) % (8 : Int32))), .val (.ref w_SIGNED_ENCRYPTED_PSEUDONYM), .val (.ref b_15), .val (.ref w_PSEUDONYM)]) (hb hby at_26) rfl rfl ?_
    show Goes _ _ _ _ _ _ (T18.setTop (mkF m 28 #[.val (.int p1), .val (.int ((p1 &&& (2147483647 : Int32)) % (8 : Int32))), .val (.ref w_SIGNED_ENCRYPTED_PSEUDONYM), .val (.ref b_15), .val (.ref w_PSEUDONYM)] []))
    refine own_aload X18 hx (hb hby at_28) rfl rfl ?_
    show Goes _ _ _ _ _ _ (T18.setTop (mkF m 30 #[.val (.int p1), .val (.int ((p1 &&& (2147483647 : Int32)) % (8 : Int32))), .val (.ref w_SIGNED_ENCRYPTED_PSEUDONYM), .val (.ref b_15), .val (.ref w_PSEUDONYM)] [(.ref w_PSEUDONYM)]))
    refine own_iloadN X18 hx (hb hby at_30) rfl ?_
    show Goes _ _ _ _ _ _ (T18.setTop (mkF m 31 #[.val (.int p1), .val (.int ((p1 &&& (2147483647 : Int32)) % (8 : Int32))), .val (.ref w_SIGNED_ENCRYPTED_PSEUDONYM), .val (.ref b_15), .val (.ref w_PSEUDONYM)] [(.int ((p1 &&& (2147483647 : Int32)) % (8 : Int32))), (.ref w_PSEUDONYM)]))
    refine own_callS X18 hx hZ hown (y := (⟨"com/example/ketenwacht/ketenwacht/model/NameIdFormatOfPinLaw", "expected", "(I)Lcom/example/ketenwacht/ketenwacht/model/NameIdFormat;"⟩ : MethodName)) (hw _ (List.mem_of_getElem? (i := 45) rfl)) (hw _ (List.mem_of_getElem? (i := 46) rfl)) (hw _ (List.mem_of_getElem? (i := 3) rfl)) (hw _ (List.mem_of_getElem? (i := 47) rfl)) (by decide) (W := 1) (by decide) (by decide) N17 e18 (by rw [hml]; rfl) (argsL := [(.int ((p1 &&& (2147483647 : Int32)) % (8 : Int32)))]) (rest := [(.ref w_PSEUDONYM)]) (lenOf pd_7 rfl) (Nat.le_of_eq rfl) (by decide) (by decide) (rm6 l Z a0 hw [] ((p1 &&& (2147483647 : Int32)) % (8 : Int32)) w_ENCRYPTED_IDENTITY w__VALUES w_BSN w_PSEUDONYM w_SIGNED_ENCRYPTED_IDENTITY w_SIGNED_ENCRYPTED_PSEUDONYM w_SIGNED_POLYMORPHIC_IDENTITY w_SIGNED_POLYMORPHIC_PSEUDONYM w_ENCRYPTED_PSEUDONYM w_POLYMORPHIC_IDENTITY w_POLYMORPHIC_PSEUDONYM w_EMPTY k_w__VALUES T15.heap n0 O16 ⟨z0, z1, z2, z3, z4, z5, z6, z7, z8, z9, z10, z11, z12, z13, z14, z15, z16, z17, z18, z19, z20, z21, z22, z23, z24, z25, z26, z27, z28, z29, z30, z31, z32, z33, z34, z35, trivial⟩) rfl (hb hby at_31) ?_
    intro v19 T19 lc19 X19 N19 hQ19
    rcases hQ19 with hQ19_0 | hQ19_1 | hQ19_2
    ·
      obtain ⟨rfl, hq19_0_0, e19⟩ := hQ19_0
      exact absurd (hq19_0_0.symm.trans hq1_3_0) (by decide)
    ·
      obtain ⟨rfl, hq19_1_0, e19⟩ := hQ19_1
      show Goes _ _ _ _ _ _ (T19.setTop (mkF m 34 #[.val (.int p1), .val (.int ((p1 &&& (2147483647 : Int32)) % (8 : Int32))), .val (.ref w_SIGNED_ENCRYPTED_PSEUDONYM), .val (.ref b_15), .val (.ref w_PSEUDONYM)] [(.ref w_PSEUDONYM), (.ref w_PSEUDONYM)]))
      refine own_acmp X19 hx rfl rfl (same := true) (pc' := 37) (hb hby at_34) (decide_eq_true rfl) (by decide) (by decide) ?_
      show Goes _ _ _ _ _ _ (T19.setTop (mkF m 37 #[.val (.int p1), .val (.int ((p1 &&& (2147483647 : Int32)) % (8 : Int32))), .val (.ref w_SIGNED_ENCRYPTED_PSEUDONYM), .val (.ref b_15), .val (.ref w_PSEUDONYM)] []))
      refine own_iconst X19 hx (v := (1 : Int32)) (hb hby at_37) rfl ?_
      show Goes _ _ _ _ _ _ (T19.setTop (mkF m 38 #[.val (.int p1), .val (.int ((p1 &&& (2147483647 : Int32)) % (8 : Int32))), .val (.ref w_SIGNED_ENCRYPTED_PSEUDONYM), .val (.ref b_15), .val (.ref w_PSEUDONYM)] [(.int (1 : Int32))]))
      refine own_goto X19 hx (pc' := 42) (hb hby at_38) (by decide) (by decide) ?_
      show Goes _ _ _ _ _ _ (T19.setTop (mkF m 42 #[.val (.int p1), .val (.int ((p1 &&& (2147483647 : Int32)) % (8 : Int32))), .val (.ref w_SIGNED_ENCRYPTED_PSEUDONYM), .val (.ref b_15), .val (.ref w_PSEUDONYM)] [(.int (1 : Int32))]))
      exact own_retN X19 hx (t := .boolean) N19 hlk (by decide) (by decide) hret (by simp) (hb hby at_42) (by rw [e19]; exact rfl)
    ·
      obtain ⟨rfl, hq19_2_0, hq19_2_1, e19⟩ := hQ19_2
      exact absurd hq1_3_0 hq19_2_1
  ·
    obtain ⟨rfl, hq1_4_0, e1⟩ := hQ1_4
    show Goes _ _ _ _ _ _ (T1.setTop (mkF m 12 #[.val (.int p1), .val (.int ((p1 &&& (2147483647 : Int32)) % (8 : Int32))), .unset, .unset, .unset] [(.ref w_POLYMORPHIC_IDENTITY)]))
    refine own_astoreN X1 hx (Ls' := #[.val (.int p1), .val (.int ((p1 &&& (2147483647 : Int32)) % (8 : Int32))), .val (.ref w_POLYMORPHIC_IDENTITY), .unset, .unset]) (hb hby at_12) rfl rfl ?_
    show Goes _ _ _ _ _ _ (T1.setTop (mkF m 13 #[.val (.int p1), .val (.int ((p1 &&& (2147483647 : Int32)) % (8 : Int32))), .val (.ref w_POLYMORPHIC_IDENTITY), .unset, .unset] []))
    refine own_aloadN X1 hx (hb hby at_13) rfl rfl ?_
    show Goes _ _ _ _ _ _ (T1.setTop (mkF m 14 #[.val (.int p1), .val (.int ((p1 &&& (2147483647 : Int32)) % (8 : Int32))), .val (.ref w_POLYMORPHIC_IDENTITY), .unset, .unset] [(.ref w_POLYMORPHIC_IDENTITY)]))
    refine own_callS X1 hx hZ hown (y := (⟨"com/example/ketenwacht/ketenwacht/model/NameIdFormat", "of", "(Lcom/example/ketenwacht/ketenwacht/model/StructureType;)Ljava/util/Optional;"⟩ : MethodName)) (hw _ (List.mem_of_getElem? (i := 8) rfl)) (hw _ (List.mem_of_getElem? (i := 9) rfl)) (hw _ (List.mem_of_getElem? (i := 10) rfl)) (hw _ (List.mem_of_getElem? (i := 11) rfl)) (by decide) (W := 0) (by decide) (by decide) N1 e1 (by rw [hml]; rfl) (argsL := [(.ref w_POLYMORPHIC_IDENTITY)]) (rest := []) (lenOf pd_6 rfl) (Nat.le_of_eq rfl) (by decide) (by decide) (rm2n l Z a0 hw [] w_POLYMORPHIC_IDENTITY w_ENCRYPTED_IDENTITY w__VALUES w_BSN w_PSEUDONYM w_SIGNED_ENCRYPTED_IDENTITY w_SIGNED_ENCRYPTED_PSEUDONYM w_SIGNED_POLYMORPHIC_IDENTITY w_SIGNED_POLYMORPHIC_PSEUDONYM w_ENCRYPTED_PSEUDONYM w_POLYMORPHIC_IDENTITY w_POLYMORPHIC_PSEUDONYM w_EMPTY k_w__VALUES h0 n0 O0 ⟨z0, z1, z2, z3, z4, z5, z6, z7, z8, z9, z10, z11, z12, z13, z14, z15, z16, z17, z18, z19, z20, z21, z22, z23, z24, z25, z26, z27, z28, z29, z30, z31, z32, z33, z34, z35, trivial⟩ (Fld.ne z26 z33 (by decide)) (Fld.ne z29 z33 (by decide))) rfl (hb hby at_14) ?_
    intro v20 T20 lc20 X20 N20 hQ20
    obtain ⟨rfl, K20⟩ := hQ20
    have O21 := O0.keep K20 all0
    show Goes _ _ _ _ _ _ (T20.setTop (mkF m 17 #[.val (.int p1), .val (.int ((p1 &&& (2147483647 : Int32)) % (8 : Int32))), .val (.ref w_POLYMORPHIC_IDENTITY), .unset, .unset] [(.ref w_EMPTY)]))
    refine own_astoreN X20 hx (Ls' := #[.val (.int p1), .val (.int ((p1 &&& (2147483647 : Int32)) % (8 : Int32))), .val (.ref w_POLYMORPHIC_IDENTITY), .val (.ref w_EMPTY), .unset]) (hb hby at_17) rfl rfl ?_
    show Goes _ _ _ _ _ _ (T20.setTop (mkF m 18 #[.val (.int p1), .val (.int ((p1 &&& (2147483647 : Int32)) % (8 : Int32))), .val (.ref w_POLYMORPHIC_IDENTITY), .val (.ref w_EMPTY), .unset] []))
    refine own_aloadN X20 hx (hb hby at_18) rfl rfl ?_
    show Goes _ _ _ _ _ _ (T20.setTop (mkF m 19 #[.val (.int p1), .val (.int ((p1 &&& (2147483647 : Int32)) % (8 : Int32))), .val (.ref w_POLYMORPHIC_IDENTITY), .val (.ref w_EMPTY), .unset] [(.ref w_EMPTY)]))
    refine own_aconst_null X20 hx (hb hby at_19) ?_
    show Goes _ _ _ _ _ _ (T20.setTop (mkF m 20 #[.val (.int p1), .val (.int ((p1 &&& (2147483647 : Int32)) % (8 : Int32))), .val (.ref w_POLYMORPHIC_IDENTITY), .val (.ref w_EMPTY), .unset] [.null, (.ref w_EMPTY)]))
    refine own_virtual X20 hx hZ hown (y := (⟨"java/util/Optional", "orElse", "(Ljava/lang/Object;)Ljava/lang/Object;"⟩ : MethodName)) (z := (⟨"java/util/Optional", "orElse", "(Ljava/lang/Object;)Ljava/lang/Object;"⟩ : MethodName)) (hw _ (List.mem_of_getElem? (i := 38) rfl)) (hw _ (List.mem_of_getElem? (i := 39) rfl)) (notFace_of_selects (args := #[]) (mvT hZ (hw _ (List.mem_of_getElem? (i := 41) rfl)))) (hw _ (List.mem_of_getElem? (i := 41) rfl)) (hw _ (List.mem_of_getElem? (i := 40) rfl)) (hw _ (List.mem_of_getElem? (i := 35) rfl)) (hw _ (List.mem_of_getElem? (i := 42) rfl)) (a := w_EMPTY) (z23.ext O21.2) (by decide) (W := 0) (by decide) (by decide) N20 rfl (by rw [hml]; rfl) (argsL := [.null]) (rest := []) (lenOf pd_0 rfl) (Nat.le_of_eq rfl) (by decide) (by decide) (rm5n l Z a0 hw [] w_EMPTY T20.heap n0 O21 (z35.ext O21.2)) rfl (hb hby at_20) ?_
    intro v22 T22 lc22 X22 N22 hQ22
    obtain ⟨rfl, e22⟩ := hQ22
    show Goes _ _ _ _ _ _ (T22.setTop (mkF m 23 #[.val (.int p1), .val (.int ((p1 &&& (2147483647 : Int32)) % (8 : Int32))), .val (.ref w_POLYMORPHIC_IDENTITY), .val (.ref w_EMPTY), .unset] [.null]))
    refine own_castNull X22 hx (hb hby at_23) ?_
    show Goes _ _ _ _ _ _ (T22.setTop (mkF m 26 #[.val (.int p1), .val (.int ((p1 &&& (2147483647 : Int32)) % (8 : Int32))), .val (.ref w_POLYMORPHIC_IDENTITY), .val (.ref w_EMPTY), .unset] [.null]))
    refine own_astore X22 hx (Ls' := #[.val (.int p1), .val (.int ((p1 &&& (2147483647 : Int32)) % (8 : Int32))), .val (.ref w_POLYMORPHIC_IDENTITY), .val (.ref w_EMPTY), .val .null]) (hb hby at_26) rfl rfl ?_
    show Goes _ _ _ _ _ _ (T22.setTop (mkF m 28 #[.val (.int p1), .val (.int ((p1 &&& (2147483647 : Int32)) % (8 : Int32))), .val (.ref w_POLYMORPHIC_IDENTITY), .val (.ref w_EMPTY), .val .null] []))
    refine own_aload X22 hx (hb hby at_28) rfl rfl ?_
    show Goes _ _ _ _ _ _ (T22.setTop (mkF m 30 #[.val (.int p1), .val (.int ((p1 &&& (2147483647 : Int32)) % (8 : Int32))), .val (.ref w_POLYMORPHIC_IDENTITY), .val (.ref w_EMPTY), .val .null] [.null]))
    refine own_iloadN X22 hx (hb hby at_30) rfl ?_
    show Goes _ _ _ _ _ _ (T22.setTop (mkF m 31 #[.val (.int p1), .val (.int ((p1 &&& (2147483647 : Int32)) % (8 : Int32))), .val (.ref w_POLYMORPHIC_IDENTITY), .val (.ref w_EMPTY), .val .null] [(.int ((p1 &&& (2147483647 : Int32)) % (8 : Int32))), .null]))
    refine own_callS X22 hx hZ hown (y := (⟨"com/example/ketenwacht/ketenwacht/model/NameIdFormatOfPinLaw", "expected", "(I)Lcom/example/ketenwacht/ketenwacht/model/NameIdFormat;"⟩ : MethodName)) (hw _ (List.mem_of_getElem? (i := 45) rfl)) (hw _ (List.mem_of_getElem? (i := 46) rfl)) (hw _ (List.mem_of_getElem? (i := 3) rfl)) (hw _ (List.mem_of_getElem? (i := 47) rfl)) (by decide) (W := 1) (by decide) (by decide) N22 e22 (by rw [hml]; rfl) (argsL := [(.int ((p1 &&& (2147483647 : Int32)) % (8 : Int32)))]) (rest := [.null]) (lenOf pd_7 rfl) (Nat.le_of_eq rfl) (by decide) (by decide) (rm6 l Z a0 hw [] ((p1 &&& (2147483647 : Int32)) % (8 : Int32)) w_ENCRYPTED_IDENTITY w__VALUES w_BSN w_PSEUDONYM w_SIGNED_ENCRYPTED_IDENTITY w_SIGNED_ENCRYPTED_PSEUDONYM w_SIGNED_POLYMORPHIC_IDENTITY w_SIGNED_POLYMORPHIC_PSEUDONYM w_ENCRYPTED_PSEUDONYM w_POLYMORPHIC_IDENTITY w_POLYMORPHIC_PSEUDONYM w_EMPTY k_w__VALUES T20.heap n0 O21 ⟨z0, z1, z2, z3, z4, z5, z6, z7, z8, z9, z10, z11, z12, z13, z14, z15, z16, z17, z18, z19, z20, z21, z22, z23, z24, z25, z26, z27, z28, z29, z30, z31, z32, z33, z34, z35, trivial⟩) rfl (hb hby at_31) ?_
    intro v23 T23 lc23 X23 N23 hQ23
    rcases hQ23 with hQ23_0 | hQ23_1 | hQ23_2
    ·
      obtain ⟨rfl, hq23_0_0, e23⟩ := hQ23_0
      exact absurd (hq23_0_0.symm.trans hq1_4_0) (by decide)
    ·
      obtain ⟨rfl, hq23_1_0, e23⟩ := hQ23_1
      exact absurd (hq23_1_0.symm.trans hq1_4_0) (by decide)
    ·
      obtain ⟨rfl, hq23_2_0, hq23_2_1, e23⟩ := hQ23_2
      show Goes _ _ _ _ _ _ (T23.setTop (mkF m 34 #[.val (.int p1), .val (.int ((p1 &&& (2147483647 : Int32)) % (8 : Int32))), .val (.ref w_POLYMORPHIC_IDENTITY), .val (.ref w_EMPTY), .val .null] [.null, .null]))
      refine own_acmp X23 hx rfl rfl (same := true) (pc' := 37) (hb hby at_34) (decide_eq_true rfl) (by decide) (by decide) ?_
      show Goes _ _ _ _ _ _ (T23.setTop (mkF m 37 #[.val (.int p1), .val (.int ((p1 &&& (2147483647 : Int32)) % (8 : Int32))), .val (.ref w_POLYMORPHIC_IDENTITY), .val (.ref w_EMPTY), .val .null] []))
      refine own_iconst X23 hx (v := (1 : Int32)) (hb hby at_37) rfl ?_
      show Goes _ _ _ _ _ _ (T23.setTop (mkF m 38 #[.val (.int p1), .val (.int ((p1 &&& (2147483647 : Int32)) % (8 : Int32))), .val (.ref w_POLYMORPHIC_IDENTITY), .val (.ref w_EMPTY), .val .null] [(.int (1 : Int32))]))
      refine own_goto X23 hx (pc' := 42) (hb hby at_38) (by decide) (by decide) ?_
      show Goes _ _ _ _ _ _ (T23.setTop (mkF m 42 #[.val (.int p1), .val (.int ((p1 &&& (2147483647 : Int32)) % (8 : Int32))), .val (.ref w_POLYMORPHIC_IDENTITY), .val (.ref w_EMPTY), .val .null] [(.int (1 : Int32))]))
      exact own_retN X23 hx (t := .boolean) N23 hlk (by decide) (by decide) hret (by simp) (hb hby at_42) (by rw [e23]; exact rfl)
  ·
    obtain ⟨rfl, hq1_5_0, e1⟩ := hQ1_5
    show Goes _ _ _ _ _ _ (T1.setTop (mkF m 12 #[.val (.int p1), .val (.int ((p1 &&& (2147483647 : Int32)) % (8 : Int32))), .unset, .unset, .unset] [(.ref w_POLYMORPHIC_PSEUDONYM)]))
    refine own_astoreN X1 hx (Ls' := #[.val (.int p1), .val (.int ((p1 &&& (2147483647 : Int32)) % (8 : Int32))), .val (.ref w_POLYMORPHIC_PSEUDONYM), .unset, .unset]) (hb hby at_12) rfl rfl ?_
    show Goes _ _ _ _ _ _ (T1.setTop (mkF m 13 #[.val (.int p1), .val (.int ((p1 &&& (2147483647 : Int32)) % (8 : Int32))), .val (.ref w_POLYMORPHIC_PSEUDONYM), .unset, .unset] []))
    refine own_aloadN X1 hx (hb hby at_13) rfl rfl ?_
    show Goes _ _ _ _ _ _ (T1.setTop (mkF m 14 #[.val (.int p1), .val (.int ((p1 &&& (2147483647 : Int32)) % (8 : Int32))), .val (.ref w_POLYMORPHIC_PSEUDONYM), .unset, .unset] [(.ref w_POLYMORPHIC_PSEUDONYM)]))
    refine own_callS X1 hx hZ hown (y := (⟨"com/example/ketenwacht/ketenwacht/model/NameIdFormat", "of", "(Lcom/example/ketenwacht/ketenwacht/model/StructureType;)Ljava/util/Optional;"⟩ : MethodName)) (hw _ (List.mem_of_getElem? (i := 8) rfl)) (hw _ (List.mem_of_getElem? (i := 9) rfl)) (hw _ (List.mem_of_getElem? (i := 10) rfl)) (hw _ (List.mem_of_getElem? (i := 11) rfl)) (by decide) (W := 0) (by decide) (by decide) N1 e1 (by rw [hml]; rfl) (argsL := [(.ref w_POLYMORPHIC_PSEUDONYM)]) (rest := []) (lenOf pd_6 rfl) (Nat.le_of_eq rfl) (by decide) (by decide) (rm2n l Z a0 hw [] w_POLYMORPHIC_PSEUDONYM w_ENCRYPTED_IDENTITY w__VALUES w_BSN w_PSEUDONYM w_SIGNED_ENCRYPTED_IDENTITY w_SIGNED_ENCRYPTED_PSEUDONYM w_SIGNED_POLYMORPHIC_IDENTITY w_SIGNED_POLYMORPHIC_PSEUDONYM w_ENCRYPTED_PSEUDONYM w_POLYMORPHIC_IDENTITY w_POLYMORPHIC_PSEUDONYM w_EMPTY k_w__VALUES h0 n0 O0 ⟨z0, z1, z2, z3, z4, z5, z6, z7, z8, z9, z10, z11, z12, z13, z14, z15, z16, z17, z18, z19, z20, z21, z22, z23, z24, z25, z26, z27, z28, z29, z30, z31, z32, z33, z34, z35, trivial⟩ (Fld.ne z26 z34 (by decide)) (Fld.ne z29 z34 (by decide))) rfl (hb hby at_14) ?_
    intro v24 T24 lc24 X24 N24 hQ24
    obtain ⟨rfl, K24⟩ := hQ24
    have O25 := O0.keep K24 all0
    show Goes _ _ _ _ _ _ (T24.setTop (mkF m 17 #[.val (.int p1), .val (.int ((p1 &&& (2147483647 : Int32)) % (8 : Int32))), .val (.ref w_POLYMORPHIC_PSEUDONYM), .unset, .unset] [(.ref w_EMPTY)]))
    refine own_astoreN X24 hx (Ls' := #[.val (.int p1), .val (.int ((p1 &&& (2147483647 : Int32)) % (8 : Int32))), .val (.ref w_POLYMORPHIC_PSEUDONYM), .val (.ref w_EMPTY), .unset]) (hb hby at_17) rfl rfl ?_
    show Goes _ _ _ _ _ _ (T24.setTop (mkF m 18 #[.val (.int p1), .val (.int ((p1 &&& (2147483647 : Int32)) % (8 : Int32))), .val (.ref w_POLYMORPHIC_PSEUDONYM), .val (.ref w_EMPTY), .unset] []))
    refine own_aloadN X24 hx (hb hby at_18) rfl rfl ?_
    show Goes _ _ _ _ _ _ (T24.setTop (mkF m 19 #[.val (.int p1), .val (.int ((p1 &&& (2147483647 : Int32)) % (8 : Int32))), .val (.ref w_POLYMORPHIC_PSEUDONYM), .val (.ref w_EMPTY), .unset] [(.ref w_EMPTY)]))
    refine own_aconst_null X24 hx (hb hby at_19) ?_
    show Goes _ _ _ _ _ _ (T24.setTop (mkF m 20 #[.val (.int p1), .val (.int ((p1 &&& (2147483647 : Int32)) % (8 : Int32))), .val (.ref w_POLYMORPHIC_PSEUDONYM), .val (.ref w_EMPTY), .unset] [.null, (.ref w_EMPTY)]))
    refine own_virtual X24 hx hZ hown (y := (⟨"java/util/Optional", "orElse", "(Ljava/lang/Object;)Ljava/lang/Object;"⟩ : MethodName)) (z := (⟨"java/util/Optional", "orElse", "(Ljava/lang/Object;)Ljava/lang/Object;"⟩ : MethodName)) (hw _ (List.mem_of_getElem? (i := 38) rfl)) (hw _ (List.mem_of_getElem? (i := 39) rfl)) (notFace_of_selects (args := #[]) (mvT hZ (hw _ (List.mem_of_getElem? (i := 41) rfl)))) (hw _ (List.mem_of_getElem? (i := 41) rfl)) (hw _ (List.mem_of_getElem? (i := 40) rfl)) (hw _ (List.mem_of_getElem? (i := 35) rfl)) (hw _ (List.mem_of_getElem? (i := 42) rfl)) (a := w_EMPTY) (z23.ext O25.2) (by decide) (W := 0) (by decide) (by decide) N24 rfl (by rw [hml]; rfl) (argsL := [.null]) (rest := []) (lenOf pd_0 rfl) (Nat.le_of_eq rfl) (by decide) (by decide) (rm5n l Z a0 hw [] w_EMPTY T24.heap n0 O25 (z35.ext O25.2)) rfl (hb hby at_20) ?_
    intro v26 T26 lc26 X26 N26 hQ26
    obtain ⟨rfl, e26⟩ := hQ26
    show Goes _ _ _ _ _ _ (T26.setTop (mkF m 23 #[.val (.int p1), .val (.int ((p1 &&& (2147483647 : Int32)) % (8 : Int32))), .val (.ref w_POLYMORPHIC_PSEUDONYM), .val (.ref w_EMPTY), .unset] [.null]))
    refine own_castNull X26 hx (hb hby at_23) ?_
    show Goes _ _ _ _ _ _ (T26.setTop (mkF m 26 #[.val (.int p1), .val (.int ((p1 &&& (2147483647 : Int32)) % (8 : Int32))), .val (.ref w_POLYMORPHIC_PSEUDONYM), .val (.ref w_EMPTY), .unset] [.null]))
    refine own_astore X26 hx (Ls' := #[.val (.int p1), .val (.int ((p1 &&& (2147483647 : Int32)) % (8 : Int32))), .val (.ref w_POLYMORPHIC_PSEUDONYM), .val (.ref w_EMPTY), .val .null]) (hb hby at_26) rfl rfl ?_
    show Goes _ _ _ _ _ _ (T26.setTop (mkF m 28 #[.val (.int p1), .val (.int ((p1 &&& (2147483647 : Int32)) % (8 : Int32))), .val (.ref w_POLYMORPHIC_PSEUDONYM), .val (.ref w_EMPTY), .val .null] []))
    refine own_aload X26 hx (hb hby at_28) rfl rfl ?_
    show Goes _ _ _ _ _ _ (T26.setTop (mkF m 30 #[.val (.int p1), .val (.int ((p1 &&& (2147483647 : Int32)) % (8 : Int32))), .val (.ref w_POLYMORPHIC_PSEUDONYM), .val (.ref w_EMPTY), .val .null] [.null]))
    refine own_iloadN X26 hx (hb hby at_30) rfl ?_
    show Goes _ _ _ _ _ _ (T26.setTop (mkF m 31 #[.val (.int p1), .val (.int ((p1 &&& (2147483647 : Int32)) % (8 : Int32))), .val (.ref w_POLYMORPHIC_PSEUDONYM), .val (.ref w_EMPTY), .val .null] [(.int ((p1 &&& (2147483647 : Int32)) % (8 : Int32))), .null]))
    refine own_callS X26 hx hZ hown (y := (⟨"com/example/ketenwacht/ketenwacht/model/NameIdFormatOfPinLaw", "expected", "(I)Lcom/example/ketenwacht/ketenwacht/model/NameIdFormat;"⟩ : MethodName)) (hw _ (List.mem_of_getElem? (i := 45) rfl)) (hw _ (List.mem_of_getElem? (i := 46) rfl)) (hw _ (List.mem_of_getElem? (i := 3) rfl)) (hw _ (List.mem_of_getElem? (i := 47) rfl)) (by decide) (W := 1) (by decide) (by decide) N26 e26 (by rw [hml]; rfl) (argsL := [(.int ((p1 &&& (2147483647 : Int32)) % (8 : Int32)))]) (rest := [.null]) (lenOf pd_7 rfl) (Nat.le_of_eq rfl) (by decide) (by decide) (rm6 l Z a0 hw [] ((p1 &&& (2147483647 : Int32)) % (8 : Int32)) w_ENCRYPTED_IDENTITY w__VALUES w_BSN w_PSEUDONYM w_SIGNED_ENCRYPTED_IDENTITY w_SIGNED_ENCRYPTED_PSEUDONYM w_SIGNED_POLYMORPHIC_IDENTITY w_SIGNED_POLYMORPHIC_PSEUDONYM w_ENCRYPTED_PSEUDONYM w_POLYMORPHIC_IDENTITY w_POLYMORPHIC_PSEUDONYM w_EMPTY k_w__VALUES T24.heap n0 O25 ⟨z0, z1, z2, z3, z4, z5, z6, z7, z8, z9, z10, z11, z12, z13, z14, z15, z16, z17, z18, z19, z20, z21, z22, z23, z24, z25, z26, z27, z28, z29, z30, z31, z32, z33, z34, z35, trivial⟩) rfl (hb hby at_31) ?_
    intro v27 T27 lc27 X27 N27 hQ27
    rcases hQ27 with hQ27_0 | hQ27_1 | hQ27_2
    ·
      obtain ⟨rfl, hq27_0_0, e27⟩ := hQ27_0
      exact absurd (hq27_0_0.symm.trans hq1_5_0) (by decide)
    ·
      obtain ⟨rfl, hq27_1_0, e27⟩ := hQ27_1
      exact absurd (hq27_1_0.symm.trans hq1_5_0) (by decide)
    ·
      obtain ⟨rfl, hq27_2_0, hq27_2_1, e27⟩ := hQ27_2
      show Goes _ _ _ _ _ _ (T27.setTop (mkF m 34 #[.val (.int p1), .val (.int ((p1 &&& (2147483647 : Int32)) % (8 : Int32))), .val (.ref w_POLYMORPHIC_PSEUDONYM), .val (.ref w_EMPTY), .val .null] [.null, .null]))
      refine own_acmp X27 hx rfl rfl (same := true) (pc' := 37) (hb hby at_34) (decide_eq_true rfl) (by decide) (by decide) ?_
      show Goes _ _ _ _ _ _ (T27.setTop (mkF m 37 #[.val (.int p1), .val (.int ((p1 &&& (2147483647 : Int32)) % (8 : Int32))), .val (.ref w_POLYMORPHIC_PSEUDONYM), .val (.ref w_EMPTY), .val .null] []))
      refine own_iconst X27 hx (v := (1 : Int32)) (hb hby at_37) rfl ?_
      show Goes _ _ _ _ _ _ (T27.setTop (mkF m 38 #[.val (.int p1), .val (.int ((p1 &&& (2147483647 : Int32)) % (8 : Int32))), .val (.ref w_POLYMORPHIC_PSEUDONYM), .val (.ref w_EMPTY), .val .null] [(.int (1 : Int32))]))
      refine own_goto X27 hx (pc' := 42) (hb hby at_38) (by decide) (by decide) ?_
      show Goes _ _ _ _ _ _ (T27.setTop (mkF m 42 #[.val (.int p1), .val (.int ((p1 &&& (2147483647 : Int32)) % (8 : Int32))), .val (.ref w_POLYMORPHIC_PSEUDONYM), .val (.ref w_EMPTY), .val .null] [(.int (1 : Int32))]))
      exact own_retN X27 hx (t := .boolean) N27 hlk (by decide) (by decide) hret (by simp) (hb hby at_42) (by rw [e27]; exact rfl)
  ·
    obtain ⟨rfl, hq1_6_0, e1⟩ := hQ1_6
    show Goes _ _ _ _ _ _ (T1.setTop (mkF m 12 #[.val (.int p1), .val (.int ((p1 &&& (2147483647 : Int32)) % (8 : Int32))), .unset, .unset, .unset] [(.ref w_SIGNED_POLYMORPHIC_IDENTITY)]))
    refine own_astoreN X1 hx (Ls' := #[.val (.int p1), .val (.int ((p1 &&& (2147483647 : Int32)) % (8 : Int32))), .val (.ref w_SIGNED_POLYMORPHIC_IDENTITY), .unset, .unset]) (hb hby at_12) rfl rfl ?_
    show Goes _ _ _ _ _ _ (T1.setTop (mkF m 13 #[.val (.int p1), .val (.int ((p1 &&& (2147483647 : Int32)) % (8 : Int32))), .val (.ref w_SIGNED_POLYMORPHIC_IDENTITY), .unset, .unset] []))
    refine own_aloadN X1 hx (hb hby at_13) rfl rfl ?_
    show Goes _ _ _ _ _ _ (T1.setTop (mkF m 14 #[.val (.int p1), .val (.int ((p1 &&& (2147483647 : Int32)) % (8 : Int32))), .val (.ref w_SIGNED_POLYMORPHIC_IDENTITY), .unset, .unset] [(.ref w_SIGNED_POLYMORPHIC_IDENTITY)]))
    refine own_callS X1 hx hZ hown (y := (⟨"com/example/ketenwacht/ketenwacht/model/NameIdFormat", "of", "(Lcom/example/ketenwacht/ketenwacht/model/StructureType;)Ljava/util/Optional;"⟩ : MethodName)) (hw _ (List.mem_of_getElem? (i := 8) rfl)) (hw _ (List.mem_of_getElem? (i := 9) rfl)) (hw _ (List.mem_of_getElem? (i := 10) rfl)) (hw _ (List.mem_of_getElem? (i := 11) rfl)) (by decide) (W := 0) (by decide) (by decide) N1 e1 (by rw [hml]; rfl) (argsL := [(.ref w_SIGNED_POLYMORPHIC_IDENTITY)]) (rest := []) (lenOf pd_6 rfl) (Nat.le_of_eq rfl) (by decide) (by decide) (rm2n l Z a0 hw [] w_SIGNED_POLYMORPHIC_IDENTITY w_ENCRYPTED_IDENTITY w__VALUES w_BSN w_PSEUDONYM w_SIGNED_ENCRYPTED_IDENTITY w_SIGNED_ENCRYPTED_PSEUDONYM w_SIGNED_POLYMORPHIC_IDENTITY w_SIGNED_POLYMORPHIC_PSEUDONYM w_ENCRYPTED_PSEUDONYM w_POLYMORPHIC_IDENTITY w_POLYMORPHIC_PSEUDONYM w_EMPTY k_w__VALUES h0 n0 O0 ⟨z0, z1, z2, z3, z4, z5, z6, z7, z8, z9, z10, z11, z12, z13, z14, z15, z16, z17, z18, z19, z20, z21, z22, z23, z24, z25, z26, z27, z28, z29, z30, z31, z32, z33, z34, z35, trivial⟩ (Fld.ne z26 z30 (by decide)) (Fld.ne z29 z30 (by decide))) rfl (hb hby at_14) ?_
    intro v28 T28 lc28 X28 N28 hQ28
    obtain ⟨rfl, K28⟩ := hQ28
    have O29 := O0.keep K28 all0
    show Goes _ _ _ _ _ _ (T28.setTop (mkF m 17 #[.val (.int p1), .val (.int ((p1 &&& (2147483647 : Int32)) % (8 : Int32))), .val (.ref w_SIGNED_POLYMORPHIC_IDENTITY), .unset, .unset] [(.ref w_EMPTY)]))
    refine own_astoreN X28 hx (Ls' := #[.val (.int p1), .val (.int ((p1 &&& (2147483647 : Int32)) % (8 : Int32))), .val (.ref w_SIGNED_POLYMORPHIC_IDENTITY), .val (.ref w_EMPTY), .unset]) (hb hby at_17) rfl rfl ?_
    show Goes _ _ _ _ _ _ (T28.setTop (mkF m 18 #[.val (.int p1), .val (.int ((p1 &&& (2147483647 : Int32)) % (8 : Int32))), .val (.ref w_SIGNED_POLYMORPHIC_IDENTITY), .val (.ref w_EMPTY), .unset] []))
    refine own_aloadN X28 hx (hb hby at_18) rfl rfl ?_
    show Goes _ _ _ _ _ _ (T28.setTop (mkF m 19 #[.val (.int p1), .val (.int ((p1 &&& (2147483647 : Int32)) % (8 : Int32))), .val (.ref w_SIGNED_POLYMORPHIC_IDENTITY), .val (.ref w_EMPTY), .unset] [(.ref w_EMPTY)]))
    refine own_aconst_null X28 hx (hb hby at_19) ?_
    show Goes _ _ _ _ _ _ (T28.setTop (mkF m 20 #[.val (.int p1), .val (.int ((p1 &&& (2147483647 : Int32)) % (8 : Int32))), .val (.ref w_SIGNED_POLYMORPHIC_IDENTITY), .val (.ref w_EMPTY), .unset] [.null, (.ref w_EMPTY)]))
    refine own_virtual X28 hx hZ hown (y := (⟨"java/util/Optional", "orElse", "(Ljava/lang/Object;)Ljava/lang/Object;"⟩ : MethodName)) (z := (⟨"java/util/Optional", "orElse", "(Ljava/lang/Object;)Ljava/lang/Object;"⟩ : MethodName)) (hw _ (List.mem_of_getElem? (i := 38) rfl)) (hw _ (List.mem_of_getElem? (i := 39) rfl)) (notFace_of_selects (args := #[]) (mvT hZ (hw _ (List.mem_of_getElem? (i := 41) rfl)))) (hw _ (List.mem_of_getElem? (i := 41) rfl)) (hw _ (List.mem_of_getElem? (i := 40) rfl)) (hw _ (List.mem_of_getElem? (i := 35) rfl)) (hw _ (List.mem_of_getElem? (i := 42) rfl)) (a := w_EMPTY) (z23.ext O29.2) (by decide) (W := 0) (by decide) (by decide) N28 rfl (by rw [hml]; rfl) (argsL := [.null]) (rest := []) (lenOf pd_0 rfl) (Nat.le_of_eq rfl) (by decide) (by decide) (rm5n l Z a0 hw [] w_EMPTY T28.heap n0 O29 (z35.ext O29.2)) rfl (hb hby at_20) ?_
    intro v30 T30 lc30 X30 N30 hQ30
    obtain ⟨rfl, e30⟩ := hQ30
    show Goes _ _ _ _ _ _ (T30.setTop (mkF m 23 #[.val (.int p1), .val (.int ((p1 &&& (2147483647 : Int32)) % (8 : Int32))), .val (.ref w_SIGNED_POLYMORPHIC_IDENTITY), .val (.ref w_EMPTY), .unset] [.null]))
    refine own_castNull X30 hx (hb hby at_23) ?_
    show Goes _ _ _ _ _ _ (T30.setTop (mkF m 26 #[.val (.int p1), .val (.int ((p1 &&& (2147483647 : Int32)) % (8 : Int32))), .val (.ref w_SIGNED_POLYMORPHIC_IDENTITY), .val (.ref w_EMPTY), .unset] [.null]))
    refine own_astore X30 hx (Ls' := #[.val (.int p1), .val (.int ((p1 &&& (2147483647 : Int32)) % (8 : Int32))), .val (.ref w_SIGNED_POLYMORPHIC_IDENTITY), .val (.ref w_EMPTY), .val .null]) (hb hby at_26) rfl rfl ?_
    show Goes _ _ _ _ _ _ (T30.setTop (mkF m 28 #[.val (.int p1), .val (.int ((p1 &&& (2147483647 : Int32)) % (8 : Int32))), .val (.ref w_SIGNED_POLYMORPHIC_IDENTITY), .val (.ref w_EMPTY), .val .null] []))
    refine own_aload X30 hx (hb hby at_28) rfl rfl ?_
    show Goes _ _ _ _ _ _ (T30.setTop (mkF m 30 #[.val (.int p1), .val (.int ((p1 &&& (2147483647 : Int32)) % (8 : Int32))), .val (.ref w_SIGNED_POLYMORPHIC_IDENTITY), .val (.ref w_EMPTY), .val .null] [.null]))
    refine own_iloadN X30 hx (hb hby at_30) rfl ?_
    show Goes _ _ _ _ _ _ (T30.setTop (mkF m 31 #[.val (.int p1), .val (.int ((p1 &&& (2147483647 : Int32)) % (8 : Int32))), .val (.ref w_SIGNED_POLYMORPHIC_IDENTITY), .val (.ref w_EMPTY), .val .null] [(.int ((p1 &&& (2147483647 : Int32)) % (8 : Int32))), .null]))
    refine own_callS X30 hx hZ hown (y := (⟨"com/example/ketenwacht/ketenwacht/model/NameIdFormatOfPinLaw", "expected", "(I)Lcom/example/ketenwacht/ketenwacht/model/NameIdFormat;"⟩ : MethodName)) (hw _ (List.mem_of_getElem? (i := 45) rfl)) (hw _ (List.mem_of_getElem? (i := 46) rfl)) (hw _ (List.mem_of_getElem? (i := 3) rfl)) (hw _ (List.mem_of_getElem? (i := 47) rfl)) (by decide) (W := 1) (by decide) (by decide) N30 e30 (by rw [hml]; rfl) (argsL := [(.int ((p1 &&& (2147483647 : Int32)) % (8 : Int32)))]) (rest := [.null]) (lenOf pd_7 rfl) (Nat.le_of_eq rfl) (by decide) (by decide) (rm6 l Z a0 hw [] ((p1 &&& (2147483647 : Int32)) % (8 : Int32)) w_ENCRYPTED_IDENTITY w__VALUES w_BSN w_PSEUDONYM w_SIGNED_ENCRYPTED_IDENTITY w_SIGNED_ENCRYPTED_PSEUDONYM w_SIGNED_POLYMORPHIC_IDENTITY w_SIGNED_POLYMORPHIC_PSEUDONYM w_ENCRYPTED_PSEUDONYM w_POLYMORPHIC_IDENTITY w_POLYMORPHIC_PSEUDONYM w_EMPTY k_w__VALUES T28.heap n0 O29 ⟨z0, z1, z2, z3, z4, z5, z6, z7, z8, z9, z10, z11, z12, z13, z14, z15, z16, z17, z18, z19, z20, z21, z22, z23, z24, z25, z26, z27, z28, z29, z30, z31, z32, z33, z34, z35, trivial⟩) rfl (hb hby at_31) ?_
    intro v31 T31 lc31 X31 N31 hQ31
    rcases hQ31 with hQ31_0 | hQ31_1 | hQ31_2
    ·
      obtain ⟨rfl, hq31_0_0, e31⟩ := hQ31_0
      exact absurd (hq31_0_0.symm.trans hq1_6_0) (by decide)
    ·
      obtain ⟨rfl, hq31_1_0, e31⟩ := hQ31_1
      exact absurd (hq31_1_0.symm.trans hq1_6_0) (by decide)
    ·
      obtain ⟨rfl, hq31_2_0, hq31_2_1, e31⟩ := hQ31_2
      show Goes _ _ _ _ _ _ (T31.setTop (mkF m 34 #[.val (.int p1), .val (.int ((p1 &&& (2147483647 : Int32)) % (8 : Int32))), .val (.ref w_SIGNED_POLYMORPHIC_IDENTITY), .val (.ref w_EMPTY), .val .null] [.null, .null]))
      refine own_acmp X31 hx rfl rfl (same := true) (pc' := 37) (hb hby at_34) (decide_eq_true rfl) (by decide) (by decide) ?_
      show Goes _ _ _ _ _ _ (T31.setTop (mkF m 37 #[.val (.int p1), .val (.int ((p1 &&& (2147483647 : Int32)) % (8 : Int32))), .val (.ref w_SIGNED_POLYMORPHIC_IDENTITY), .val (.ref w_EMPTY), .val .null] []))
      refine own_iconst X31 hx (v := (1 : Int32)) (hb hby at_37) rfl ?_
      show Goes _ _ _ _ _ _ (T31.setTop (mkF m 38 #[.val (.int p1), .val (.int ((p1 &&& (2147483647 : Int32)) % (8 : Int32))), .val (.ref w_SIGNED_POLYMORPHIC_IDENTITY), .val (.ref w_EMPTY), .val .null] [(.int (1 : Int32))]))
      refine own_goto X31 hx (pc' := 42) (hb hby at_38) (by decide) (by decide) ?_
      show Goes _ _ _ _ _ _ (T31.setTop (mkF m 42 #[.val (.int p1), .val (.int ((p1 &&& (2147483647 : Int32)) % (8 : Int32))), .val (.ref w_SIGNED_POLYMORPHIC_IDENTITY), .val (.ref w_EMPTY), .val .null] [(.int (1 : Int32))]))
      exact own_retN X31 hx (t := .boolean) N31 hlk (by decide) (by decide) hret (by simp) (hb hby at_42) (by rw [e31]; exact rfl)
  ·
    obtain ⟨rfl, hq1_7_0, hq1_7_1, hq1_7_2, hq1_7_3, hq1_7_4, hq1_7_5, hq1_7_6, e1⟩ := hQ1_7
    show Goes _ _ _ _ _ _ (T1.setTop (mkF m 12 #[.val (.int p1), .val (.int ((p1 &&& (2147483647 : Int32)) % (8 : Int32))), .unset, .unset, .unset] [(.ref w_SIGNED_POLYMORPHIC_PSEUDONYM)]))
    refine own_astoreN X1 hx (Ls' := #[.val (.int p1), .val (.int ((p1 &&& (2147483647 : Int32)) % (8 : Int32))), .val (.ref w_SIGNED_POLYMORPHIC_PSEUDONYM), .unset, .unset]) (hb hby at_12) rfl rfl ?_
    show Goes _ _ _ _ _ _ (T1.setTop (mkF m 13 #[.val (.int p1), .val (.int ((p1 &&& (2147483647 : Int32)) % (8 : Int32))), .val (.ref w_SIGNED_POLYMORPHIC_PSEUDONYM), .unset, .unset] []))
    refine own_aloadN X1 hx (hb hby at_13) rfl rfl ?_
    show Goes _ _ _ _ _ _ (T1.setTop (mkF m 14 #[.val (.int p1), .val (.int ((p1 &&& (2147483647 : Int32)) % (8 : Int32))), .val (.ref w_SIGNED_POLYMORPHIC_PSEUDONYM), .unset, .unset] [(.ref w_SIGNED_POLYMORPHIC_PSEUDONYM)]))
    refine own_callS X1 hx hZ hown (y := (⟨"com/example/ketenwacht/ketenwacht/model/NameIdFormat", "of", "(Lcom/example/ketenwacht/ketenwacht/model/StructureType;)Ljava/util/Optional;"⟩ : MethodName)) (hw _ (List.mem_of_getElem? (i := 8) rfl)) (hw _ (List.mem_of_getElem? (i := 9) rfl)) (hw _ (List.mem_of_getElem? (i := 10) rfl)) (hw _ (List.mem_of_getElem? (i := 11) rfl)) (by decide) (W := 0) (by decide) (by decide) N1 e1 (by rw [hml]; rfl) (argsL := [(.ref w_SIGNED_POLYMORPHIC_PSEUDONYM)]) (rest := []) (lenOf pd_6 rfl) (Nat.le_of_eq rfl) (by decide) (by decide) (rm2n l Z a0 hw [] w_SIGNED_POLYMORPHIC_PSEUDONYM w_ENCRYPTED_IDENTITY w__VALUES w_BSN w_PSEUDONYM w_SIGNED_ENCRYPTED_IDENTITY w_SIGNED_ENCRYPTED_PSEUDONYM w_SIGNED_POLYMORPHIC_IDENTITY w_SIGNED_POLYMORPHIC_PSEUDONYM w_ENCRYPTED_PSEUDONYM w_POLYMORPHIC_IDENTITY w_POLYMORPHIC_PSEUDONYM w_EMPTY k_w__VALUES h0 n0 O0 ⟨z0, z1, z2, z3, z4, z5, z6, z7, z8, z9, z10, z11, z12, z13, z14, z15, z16, z17, z18, z19, z20, z21, z22, z23, z24, z25, z26, z27, z28, z29, z30, z31, z32, z33, z34, z35, trivial⟩ (Fld.ne z26 z31 (by decide)) (Fld.ne z29 z31 (by decide))) rfl (hb hby at_14) ?_
    intro v32 T32 lc32 X32 N32 hQ32
    obtain ⟨rfl, K32⟩ := hQ32
    have O33 := O0.keep K32 all0
    show Goes _ _ _ _ _ _ (T32.setTop (mkF m 17 #[.val (.int p1), .val (.int ((p1 &&& (2147483647 : Int32)) % (8 : Int32))), .val (.ref w_SIGNED_POLYMORPHIC_PSEUDONYM), .unset, .unset] [(.ref w_EMPTY)]))
    refine own_astoreN X32 hx (Ls' := #[.val (.int p1), .val (.int ((p1 &&& (2147483647 : Int32)) % (8 : Int32))), .val (.ref w_SIGNED_POLYMORPHIC_PSEUDONYM), .val (.ref w_EMPTY), .unset]) (hb hby at_17) rfl rfl ?_
    show Goes _ _ _ _ _ _ (T32.setTop (mkF m 18 #[.val (.int p1), .val (.int ((p1 &&& (2147483647 : Int32)) % (8 : Int32))), .val (.ref w_SIGNED_POLYMORPHIC_PSEUDONYM), .val (.ref w_EMPTY), .unset] []))
    refine own_aloadN X32 hx (hb hby at_18) rfl rfl ?_
    show Goes _ _ _ _ _ _ (T32.setTop (mkF m 19 #[.val (.int p1), .val (.int ((p1 &&& (2147483647 : Int32)) % (8 : Int32))), .val (.ref w_SIGNED_POLYMORPHIC_PSEUDONYM), .val (.ref w_EMPTY), .unset] [(.ref w_EMPTY)]))
    refine own_aconst_null X32 hx (hb hby at_19) ?_
    show Goes _ _ _ _ _ _ (T32.setTop (mkF m 20 #[.val (.int p1), .val (.int ((p1 &&& (2147483647 : Int32)) % (8 : Int32))), .val (.ref w_SIGNED_POLYMORPHIC_PSEUDONYM), .val (.ref w_EMPTY), .unset] [.null, (.ref w_EMPTY)]))
    refine own_virtual X32 hx hZ hown (y := (⟨"java/util/Optional", "orElse", "(Ljava/lang/Object;)Ljava/lang/Object;"⟩ : MethodName)) (z := (⟨"java/util/Optional", "orElse", "(Ljava/lang/Object;)Ljava/lang/Object;"⟩ : MethodName)) (hw _ (List.mem_of_getElem? (i := 38) rfl)) (hw _ (List.mem_of_getElem? (i := 39) rfl)) (notFace_of_selects (args := #[]) (mvT hZ (hw _ (List.mem_of_getElem? (i := 41) rfl)))) (hw _ (List.mem_of_getElem? (i := 41) rfl)) (hw _ (List.mem_of_getElem? (i := 40) rfl)) (hw _ (List.mem_of_getElem? (i := 35) rfl)) (hw _ (List.mem_of_getElem? (i := 42) rfl)) (a := w_EMPTY) (z23.ext O33.2) (by decide) (W := 0) (by decide) (by decide) N32 rfl (by rw [hml]; rfl) (argsL := [.null]) (rest := []) (lenOf pd_0 rfl) (Nat.le_of_eq rfl) (by decide) (by decide) (rm5n l Z a0 hw [] w_EMPTY T32.heap n0 O33 (z35.ext O33.2)) rfl (hb hby at_20) ?_
    intro v34 T34 lc34 X34 N34 hQ34
    obtain ⟨rfl, e34⟩ := hQ34
    show Goes _ _ _ _ _ _ (T34.setTop (mkF m 23 #[.val (.int p1), .val (.int ((p1 &&& (2147483647 : Int32)) % (8 : Int32))), .val (.ref w_SIGNED_POLYMORPHIC_PSEUDONYM), .val (.ref w_EMPTY), .unset] [.null]))
    refine own_castNull X34 hx (hb hby at_23) ?_
    show Goes _ _ _ _ _ _ (T34.setTop (mkF m 26 #[.val (.int p1), .val (.int ((p1 &&& (2147483647 : Int32)) % (8 : Int32))), .val (.ref w_SIGNED_POLYMORPHIC_PSEUDONYM), .val (.ref w_EMPTY), .unset] [.null]))
    refine own_astore X34 hx (Ls' := #[.val (.int p1), .val (.int ((p1 &&& (2147483647 : Int32)) % (8 : Int32))), .val (.ref w_SIGNED_POLYMORPHIC_PSEUDONYM), .val (.ref w_EMPTY), .val .null]) (hb hby at_26) rfl rfl ?_
    show Goes _ _ _ _ _ _ (T34.setTop (mkF m 28 #[.val (.int p1), .val (.int ((p1 &&& (2147483647 : Int32)) % (8 : Int32))), .val (.ref w_SIGNED_POLYMORPHIC_PSEUDONYM), .val (.ref w_EMPTY), .val .null] []))
    refine own_aload X34 hx (hb hby at_28) rfl rfl ?_
    show Goes _ _ _ _ _ _ (T34.setTop (mkF m 30 #[.val (.int p1), .val (.int ((p1 &&& (2147483647 : Int32)) % (8 : Int32))), .val (.ref w_SIGNED_POLYMORPHIC_PSEUDONYM), .val (.ref w_EMPTY), .val .null] [.null]))
    refine own_iloadN X34 hx (hb hby at_30) rfl ?_
    show Goes _ _ _ _ _ _ (T34.setTop (mkF m 31 #[.val (.int p1), .val (.int ((p1 &&& (2147483647 : Int32)) % (8 : Int32))), .val (.ref w_SIGNED_POLYMORPHIC_PSEUDONYM), .val (.ref w_EMPTY), .val .null] [(.int ((p1 &&& (2147483647 : Int32)) % (8 : Int32))), .null]))
    refine own_callS X34 hx hZ hown (y := (⟨"com/example/ketenwacht/ketenwacht/model/NameIdFormatOfPinLaw", "expected", "(I)Lcom/example/ketenwacht/ketenwacht/model/NameIdFormat;"⟩ : MethodName)) (hw _ (List.mem_of_getElem? (i := 45) rfl)) (hw _ (List.mem_of_getElem? (i := 46) rfl)) (hw _ (List.mem_of_getElem? (i := 3) rfl)) (hw _ (List.mem_of_getElem? (i := 47) rfl)) (by decide) (W := 1) (by decide) (by decide) N34 e34 (by rw [hml]; rfl) (argsL := [(.int ((p1 &&& (2147483647 : Int32)) % (8 : Int32)))]) (rest := [.null]) (lenOf pd_7 rfl) (Nat.le_of_eq rfl) (by decide) (by decide) (rm6 l Z a0 hw [] ((p1 &&& (2147483647 : Int32)) % (8 : Int32)) w_ENCRYPTED_IDENTITY w__VALUES w_BSN w_PSEUDONYM w_SIGNED_ENCRYPTED_IDENTITY w_SIGNED_ENCRYPTED_PSEUDONYM w_SIGNED_POLYMORPHIC_IDENTITY w_SIGNED_POLYMORPHIC_PSEUDONYM w_ENCRYPTED_PSEUDONYM w_POLYMORPHIC_IDENTITY w_POLYMORPHIC_PSEUDONYM w_EMPTY k_w__VALUES T32.heap n0 O33 ⟨z0, z1, z2, z3, z4, z5, z6, z7, z8, z9, z10, z11, z12, z13, z14, z15, z16, z17, z18, z19, z20, z21, z22, z23, z24, z25, z26, z27, z28, z29, z30, z31, z32, z33, z34, z35, trivial⟩) rfl (hb hby at_31) ?_
    intro v35 T35 lc35 X35 N35 hQ35
    rcases hQ35 with hQ35_0 | hQ35_1 | hQ35_2
    ·
      obtain ⟨rfl, hq35_0_0, e35⟩ := hQ35_0
      exact absurd hq35_0_0 hq1_7_2
    ·
      obtain ⟨rfl, hq35_1_0, e35⟩ := hQ35_1
      exact absurd hq35_1_0 hq1_7_3
    ·
      obtain ⟨rfl, hq35_2_0, hq35_2_1, e35⟩ := hQ35_2
      show Goes _ _ _ _ _ _ (T35.setTop (mkF m 34 #[.val (.int p1), .val (.int ((p1 &&& (2147483647 : Int32)) % (8 : Int32))), .val (.ref w_SIGNED_POLYMORPHIC_PSEUDONYM), .val (.ref w_EMPTY), .val .null] [.null, .null]))
      refine own_acmp X35 hx rfl rfl (same := true) (pc' := 37) (hb hby at_34) (decide_eq_true rfl) (by decide) (by decide) ?_
      show Goes _ _ _ _ _ _ (T35.setTop (mkF m 37 #[.val (.int p1), .val (.int ((p1 &&& (2147483647 : Int32)) % (8 : Int32))), .val (.ref w_SIGNED_POLYMORPHIC_PSEUDONYM), .val (.ref w_EMPTY), .val .null] []))
      refine own_iconst X35 hx (v := (1 : Int32)) (hb hby at_37) rfl ?_
      show Goes _ _ _ _ _ _ (T35.setTop (mkF m 38 #[.val (.int p1), .val (.int ((p1 &&& (2147483647 : Int32)) % (8 : Int32))), .val (.ref w_SIGNED_POLYMORPHIC_PSEUDONYM), .val (.ref w_EMPTY), .val .null] [(.int (1 : Int32))]))
      refine own_goto X35 hx (pc' := 42) (hb hby at_38) (by decide) (by decide) ?_
      show Goes _ _ _ _ _ _ (T35.setTop (mkF m 42 #[.val (.int p1), .val (.int ((p1 &&& (2147483647 : Int32)) % (8 : Int32))), .val (.ref w_SIGNED_POLYMORPHIC_PSEUDONYM), .val (.ref w_EMPTY), .val .null] [(.int (1 : Int32))]))
      exact own_retN X35 hx (t := .boolean) N35 hlk (by decide) (by decide) hret (by simp) (hb hby at_42) (by rw [e35]; exact rfl)
set_option maxRecDepth 65536 in
set_option maxHeartbeats 40000000 in
theorem comes_1 {Post : Tables → Env → Array Value → State → Outcome → State → Prop} (hpost : ∀ tb e args s v u, (limb_1_1.after args s (.returned v) u = true ∧ limb_1_2.after args s (.returned v) u = true ∧ True) → FrameEnd s (.returned v) u (Jvm.fieldLocs frame_1_writes args s ++ Jvm.arrayLocs frame_1_arrays args s ++ Jvm.staticLocs frame_1_statics s) 16 128 → Post tb e args s (.returned v) u) :
    ArmFor flags0 classFile x code maxLocals ret World_1 tables_1 room_1 Calls_1 rest_1 Pre_1 Post := by
  intro l hfl _ _ p e ha hc hk s m args below hf hA hF happ hP
  obtain ⟨hcalls, hrest, hpre⟩ := hP
  obtain ⟨-, -, -, hnamed, -, -, -, hat⟩ := (Spec.applies_iff hf).mp happ
  obtain ⟨hg, hn⟩ := and_e (Cond.before_iff.mp (show (Jvm.Cond.and given_1 narrow_1).before args s = true from hpre))
  obtain ⟨hg1a, hg1b⟩ := and_e hg
  obtain ⟨w0, rfl⟩ : ∃ w0 : Value, args = #[w0] := by
    have hs : args.size = 1 := by simpa [Cond.value, given_1] using hg1a
    obtain ⟨L⟩ := args
    match L, hs with
    | [w0], _ => exact ⟨w0, rfl⟩
  have hw := fun d (hd : d ∈ tables_1) => atoms_spec (ws := Jvm.Cond.code x code maxLocals ret :: tables_1) hat d (List.mem_cons_of_mem _ hd)
  have hfit : Fit s := fun {y c} hc i hi => by
    obtain ⟨ha, rfl⟩ := Array.getElem?_eq_some_iff.mp hc
    have q := List.all_eq_true.mp ((Array.all_eq_true_iff_forall_mem.mp hF) _ (Array.getElem_mem ha)) i (List.mem_range.mpr hi)
    simpa [Array.getElem?_eq_getElem hi] using q
  obtain ⟨hsets, hown0⟩ := atoms_of _ (rest_1_c_eq ▸ (show rest_1_c.before _ s = true from hrest))
  obtain ⟨i0, ei0⟩ := is_v hg1b
  obtain rfl : w0 = (.int i0) := Option.some.inj ei0
  obtain ⟨hn1a, hn1b⟩ := and_e hn
  obtain ⟨hn2a, hn2b⟩ := and_e hn1b
  obtain ⟨hn3a, hn3b⟩ := and_e hn2b
  obtain ⟨hn4a, hn4b⟩ := and_e hn3b
  obtain ⟨hn5a, hn5b⟩ := and_e hn4b
  obtain ⟨hn6a, hn6b⟩ := and_e hn5b
  obtain ⟨hn7a, hn7b⟩ := and_e hn6b
  obtain ⟨hn8a, hn8b⟩ := and_e hn7b
  obtain ⟨hn9a, hn9b⟩ := and_e hn8b
  obtain ⟨hn10a, hn10b⟩ := and_e hn9b
  obtain ⟨hn11a, hn11b⟩ := and_e hn10b
  obtain ⟨hn12a, hn12b⟩ := and_e hn11b
  obtain ⟨hn13a, hn13b⟩ := and_e hn12b
  obtain ⟨hn14a, hn14b⟩ := and_e hn13b
  obtain ⟨hn15a, hn15b⟩ := and_e hn14b
  obtain ⟨hn16a, hn16b⟩ := and_e hn15b
  obtain ⟨hn17a, hn17b⟩ := and_e hn16b
  obtain ⟨hn18a, hn18b⟩ := and_e hn17b
  obtain ⟨hn19a, hn19b⟩ := and_e hn18b
  obtain ⟨hn20a, hn20b⟩ := and_e hn19b
  obtain ⟨hn21a, hn21b⟩ := and_e hn20b
  obtain ⟨hn22a, hn22b⟩ := and_e hn21b
  obtain ⟨hn23a, hn23b⟩ := and_e hn22b
  obtain ⟨hn24a, hn24b⟩ := and_e hn23b
  obtain ⟨w_ENCRYPTED_IDENTITY, ev_w_ENCRYPTED_IDENTITY⟩ := exa_v hn1a
  obtain ⟨w__VALUES, ev_w__VALUES⟩ := exa_v hn3a
  obtain ⟨w_BSN, ev_w_BSN⟩ := exa_v hn5a
  obtain ⟨w_PSEUDONYM, ev_w_PSEUDONYM⟩ := exa_v hn7a
  obtain ⟨w_SIGNED_ENCRYPTED_IDENTITY, ev_w_SIGNED_ENCRYPTED_IDENTITY⟩ := exa_v hn9a
  obtain ⟨w_SIGNED_ENCRYPTED_PSEUDONYM, ev_w_SIGNED_ENCRYPTED_PSEUDONYM⟩ := exa_v hn13a
  obtain ⟨w_SIGNED_POLYMORPHIC_IDENTITY, ev_w_SIGNED_POLYMORPHIC_IDENTITY⟩ := exa_v hn16a
  obtain ⟨w_SIGNED_POLYMORPHIC_PSEUDONYM, ev_w_SIGNED_POLYMORPHIC_PSEUDONYM⟩ := exa_v hn18a
  obtain ⟨w_ENCRYPTED_PSEUDONYM, ev_w_ENCRYPTED_PSEUDONYM⟩ := exa_v hn20a
  obtain ⟨w_POLYMORPHIC_IDENTITY, ev_w_POLYMORPHIC_IDENTITY⟩ := exa_v hn22a
  obtain ⟨w_POLYMORPHIC_PSEUDONYM, ev_w_POLYMORPHIC_PSEUDONYM⟩ := exa_v hn24a
  obtain ⟨w_EMPTY, ev_w_EMPTY⟩ := exa_v (Cond.before_iff.mp (hsets _ (List.mem_of_getElem? (i := 2) rfl)))
  obtain ⟨cl_w__VALUES, Ar_w__VALUES⟩ := Arr.start ev_w__VALUES hn2a
  obtain ⟨k_w__VALUES, hk_w__VALUES⟩ : ∃ k, k = cl_w__VALUES.cls := ⟨_, rfl⟩
  obtain ⟨n, o, h1, h2, h3, v, L, rfl, ⟨N, hQ⟩, hq⟩ := rm0 l s _ hw tables_1 i0 w_ENCRYPTED_IDENTITY w__VALUES w_BSN w_PSEUDONYM w_SIGNED_ENCRYPTED_IDENTITY w_SIGNED_ENCRYPTED_PSEUDONYM w_SIGNED_POLYMORPHIC_IDENTITY w_SIGNED_POLYMORPHIC_PSEUDONYM w_ENCRYPTED_PSEUDONYM w_POLYMORPHIC_IDENTITY w_POLYMORPHIC_PSEUDONYM w_EMPTY k_w__VALUES s.heap s.heap.size (Old.start s) ⟨Sta.start ev_w_ENCRYPTED_IDENTITY (Or.inr ⟨(hw _ (List.mem_of_getElem? (i := 6) rfl)), (hw _ (List.mem_of_getElem? (i := 7) rfl))⟩), Exa.start ev_w_ENCRYPTED_IDENTITY hn1a, Sta.start ev_w__VALUES (Or.inr ⟨(hw _ (List.mem_of_getElem? (i := 10) rfl)), (hw _ (List.mem_of_getElem? (i := 16) rfl))⟩), Exa.start ev_w__VALUES hn3a, Sta.start ev_w_BSN (Or.inr ⟨(hw _ (List.mem_of_getElem? (i := 10) rfl)), (hw _ (List.mem_of_getElem? (i := 24) rfl))⟩), Exa.start ev_w_BSN hn5a, Sta.start ev_w_PSEUDONYM (Or.inr ⟨(hw _ (List.mem_of_getElem? (i := 10) rfl)), (hw _ (List.mem_of_getElem? (i := 25) rfl))⟩), Exa.start ev_w_PSEUDONYM hn7a, Sta.start ev_w_SIGNED_ENCRYPTED_IDENTITY (Or.inr ⟨(hw _ (List.mem_of_getElem? (i := 6) rfl)), (hw _ (List.mem_of_getElem? (i := 31) rfl))⟩), Exa.start ev_w_SIGNED_ENCRYPTED_IDENTITY hn9a, Sta.start ev_w_SIGNED_ENCRYPTED_PSEUDONYM (Or.inr ⟨(hw _ (List.mem_of_getElem? (i := 6) rfl)), (hw _ (List.mem_of_getElem? (i := 32) rfl))⟩), Exa.start ev_w_SIGNED_ENCRYPTED_PSEUDONYM hn13a, Sta.start ev_w_SIGNED_POLYMORPHIC_IDENTITY (Or.inr ⟨(hw _ (List.mem_of_getElem? (i := 6) rfl)), (hw _ (List.mem_of_getElem? (i := 69) rfl))⟩), Exa.start ev_w_SIGNED_POLYMORPHIC_IDENTITY hn16a, Sta.start ev_w_SIGNED_POLYMORPHIC_PSEUDONYM (Or.inr ⟨(hw _ (List.mem_of_getElem? (i := 6) rfl)), (hw _ (List.mem_of_getElem? (i := 71) rfl))⟩), Exa.start ev_w_SIGNED_POLYMORPHIC_PSEUDONYM hn18a, Sta.start ev_w_ENCRYPTED_PSEUDONYM (Or.inr ⟨(hw _ (List.mem_of_getElem? (i := 6) rfl)), (hw _ (List.mem_of_getElem? (i := 75) rfl))⟩), Exa.start ev_w_ENCRYPTED_PSEUDONYM hn20a, Sta.start ev_w_POLYMORPHIC_IDENTITY (Or.inr ⟨(hw _ (List.mem_of_getElem? (i := 6) rfl)), (hw _ (List.mem_of_getElem? (i := 77) rfl))⟩), Exa.start ev_w_POLYMORPHIC_IDENTITY hn22a, Sta.start ev_w_POLYMORPHIC_PSEUDONYM (Or.inr ⟨(hw _ (List.mem_of_getElem? (i := 6) rfl)), (hw _ (List.mem_of_getElem? (i := 79) rfl))⟩), Exa.start ev_w_POLYMORPHIC_PSEUDONYM hn24a, Sta.start ev_w_EMPTY (Or.inl (hsets _ (List.mem_of_getElem? (i := 1) rfl))), Exa.start ev_w_EMPTY (Cond.before_iff.mp (hsets _ (List.mem_of_getElem? (i := 2) rfl))), (by rw [hk_w__VALUES]; exact own_arr hfit ev_w__VALUES Ar_w__VALUES (own_eq hn4a rfl) (by decide) rfl ⟨(elem_in (own_eq hn6a ev_w_BSN) ev_w__VALUES rfl Ar_w__VALUES.1).2, (elem_in (own_eq hn8a ev_w_PSEUDONYM) ev_w__VALUES rfl Ar_w__VALUES.1).2, trivial⟩), Fld.start ((fld_at ev_w_BSN).symm.trans (own_eq hn10a ev_w_SIGNED_ENCRYPTED_IDENTITY)), Fld.start ((fld_at ev_w_SIGNED_ENCRYPTED_IDENTITY).symm.trans (own_eq hn11a rfl)), Fld.start ((fld_at ev_w_ENCRYPTED_IDENTITY).symm.trans (own_eq hn12a rfl)), Fld.start ((fld_at ev_w_PSEUDONYM).symm.trans (own_eq hn14a ev_w_SIGNED_ENCRYPTED_PSEUDONYM)), Fld.start ((fld_at ev_w_SIGNED_ENCRYPTED_PSEUDONYM).symm.trans (own_eq hn15a rfl)), Fld.start ((fld_at ev_w_SIGNED_POLYMORPHIC_IDENTITY).symm.trans (own_eq hn17a rfl)), Fld.start ((fld_at ev_w_SIGNED_POLYMORPHIC_PSEUDONYM).symm.trans (own_eq hn19a rfl)), Fld.start ((fld_at ev_w_ENCRYPTED_PSEUDONYM).symm.trans (own_eq hn21a rfl)), Fld.start ((fld_at ev_w_POLYMORPHIC_IDENTITY).symm.trans (own_eq hn23a rfl)), Fld.start ((fld_at ev_w_POLYMORPHIC_PSEUDONYM).symm.trans (own_eq hn24b rfl)), Fld.start ((fld_at ev_w_EMPTY).symm.trans (own_eq (Cond.before_iff.mp (hsets _ (List.mem_of_getElem? (i := 3) rfl))) rfl)), trivial⟩ p e ha hc hk s m _ below hf ((Spec.applies_iff_loose hf).mp happ).1 ⟨rfl, State.Warmed39.refl s, rfl⟩ trivial
  have hv : v = some (.int (1 : Int32)) := hQ
  subst hv
  refine ⟨n, _, h1, h2, h3, hpost _ _ _ _ _ _ ⟨Cond.after_iff.mpr rfl, Cond.after_iff.mpr (eq_i res_at (Term.int_eval (1)) rfl), trivial⟩ ⟨hq.1, hq.2.1, hq.2.2.sift fun y hy => Or.inr (N y hy)⟩⟩
theorem main_1_1 : Claimed_1_1 := comes_1 fun _ _ _ _ _ _ h hF => ⟨h.1, hF⟩
theorem main_1_2 : Claimed_1_2 := comes_1 fun _ _ _ _ _ _ h hF => ⟨h.2.1, hF⟩
end Jvm.Pilot.@@N@@
namespace Jvm.Pilot.@@N@@
open Jvm Jvm.ClassFile Sem Op Lib Jvm.Free Jvm.Stand Jvm.Pilot.@@N@@.Jvm.D
/-! MADE BY PROGRAM (witnessworld.py) out of the Statement's table words and the real class files: 16 classes; the members and pool entries that the words name. The judged class is class 1, her method 3. -/
namespace start1
open Jvm.ClassFile
def u (s : String) : CpInfo := .utf8 (stringToUtf16 s)
/-- a pool by its gaps: so many unusable entries, then the entry; so many at the end -/
def gap : Nat → List CpInfo → List CpInfo
  | 0, r => r
  | n + 1, r => .unusable :: gap n r
def poolList (es : List (Nat × CpInfo)) (last : Nat) : List CpInfo := es.foldr (fun e r => gap e.1 (e.2 :: r)) (gap last [])
def pool (es : List (Nat × CpInfo)) (last : Nat) : Array CpInfo := ⟨poolList es last⟩
def fileOf (pool : Array CpInfo) (this : Nat) (attrs : Array Attribute := #[]) (ms : Array MethodInfo := #[]) (fl : Nat := 33) (sup : Nat := 0) (ifs : Array Nat := #[]) (fds : Array FieldInfo := #[]) : ClassFile where
  minorVersion := 0
  majorVersion := 65
  constantPool := pool
  accessFlags := fl
  thisClass := this
  superClass := sup
  interfaces := ifs
  fields := fds
  methods := ms
  attributes := attrs
def plain (name : String) (sup : Option ClassId) : Class where
  name := name
  kind := .ordinary
  loader := none
  accessFlags := 33
  super := sup
  interfaces := #[]
  cf := none
  fields := #[]
  methods := #[]
  instanceTypes := #[]
  staticTypes := #[]
  resolved := #[]
  callSites := []
  init := .initialized
  statics := none
  mirror := none

def pool0 : Array CpInfo := pool [(5, u "<init>"), (0, u "()V"), (1, .class_ 10), (1, u "java/lang/Object"), (85, u "clone"), (0, u "()Ljava/lang/Object;")] 26

def k0c0 : Code := { maxStack := 0, maxLocals := 1, code := object_method_1_code, exceptionTable := #[], attributes := #[] }
def k0m0 : Method := { name := "<init>", desc := "()V", sig := { parameters := [], returnType := none }, accessFlags := 1, code := some k0c0 }
def k0m1 : Method := { name := "clone", desc := "()Ljava/lang/Object;", sig := { parameters := [], returnType := some (.object "java/lang/Object") }, accessFlags := 260, code := none }
/-- java/lang/Object -/
def k0 : Class := { plain "java/lang/Object" none with
  accessFlags := 33
  interfaces := #[]
  cf := some (fileOf pool0 8 #[] #[{ accessFlags := 1, nameIndex := 5, descriptorIndex := 6, attributes := #[] }, { accessFlags := 260, nameIndex := 96, descriptorIndex := 97, attributes := #[] }] 33 0 #[] #[])
  fields := #[]
  methods := #[k0m0, k0m1]
  instanceTypes := #[]
  staticTypes := #[]
  resolved := Array.replicate 124 none
  statics := none }

def pool1 : Array CpInfo := pool [(2, .class_ 4), (1, u "java/lang/Object"), (0, u "<init>"), (0, u "()V"), (0, .fieldref 8 9), (0, .class_ 10), (0, .nameAndType 11 12), (0, u "com/example/ketenwacht/ketenwacht/model/StructureType"), (0, u "ENCRYPTED_IDENTITY"), (0, u "Lcom/example/ketenwacht/ketenwacht/model/StructureType;"), (0, .fieldref 8 14), (0, .nameAndType 15 12), (0, u "ENCRYPTED_PSEUDONYM"), (0, .fieldref 8 17), (0, .nameAndType 18 12), (0, u "SIGNED_ENCRYPTED_IDENTITY"), (0, .fieldref 8 20), (0, .nameAndType 21 12), (0, u "SIGNED_ENCRYPTED_PSEUDONYM"), (0, .fieldref 8 23), (0, .nameAndType 24 12), (0, u "POLYMORPHIC_IDENTITY"), (0, .fieldref 8 26), (0, .nameAndType 27 12), (0, u "POLYMORPHIC_PSEUDONYM"), (0, .fieldref 8 29), (0, .nameAndType 30 12), (0, u "SIGNED_POLYMORPHIC_IDENTITY"), (0, .fieldref 8 32), (0, .nameAndType 33 12), (0, u "SIGNED_POLYMORPHIC_PSEUDONYM"), (0, .fieldref 35 36), (0, .class_ 37), (0, .nameAndType 38 39), (0, u "com/example/ketenwacht/ketenwacht/model/NameIdFormat"), (0, u "BSN"), (0, u "Lcom/example/ketenwacht/ketenwacht/model/NameIdFormat;"), (0, .fieldref 35 41), (0, .nameAndType 42 39), (0, u "PSEUDONYM"), (0, .integer 2147483647), (0, .methodref 45 46), (0, .class_ 47), (0, .nameAndType 48 49), (0, u "com/example/ketenwacht/ketenwacht/model/NameIdFormatOfPinLaw"), (0, u "pick"), (0, u "(I)Lcom/example/ketenwacht/ketenwacht/model/StructureType;"), (0, .methodref 35 51), (0, .nameAndType 52 53), (0, u "of"), (0, u "(Lcom/example/ketenwacht/ketenwacht/model/StructureType;)Ljava/util/Optional;"), (0, .methodref 55 56), (0, .class_ 57), (0, .nameAndType 58 59), (0, u "java/util/Optional"), (0, u "orElse"), (0, u "(Ljava/lang/Object;)Ljava/lang/Object;"), (0, .methodref 45 61), (0, .nameAndType 62 63), (0, u "expected"), (0, u "(I)Lcom/example/ketenwacht/ketenwacht/model/NameIdFormat;"), (3, u "law"), (0, u "(I)Z")] 2

def k1m0 : Method := { name := "<init>", desc := "()V", sig := { parameters := [], returnType := none }, accessFlags := 1, code := none }
def k1c1 : Code := { maxStack := 2, maxLocals := 1, code := method_2_code, exceptionTable := #[], attributes := #[] }
def k1m1 : Method := { name := "pick", desc := "(I)Lcom/example/ketenwacht/ketenwacht/model/StructureType;", sig := { parameters := [.int], returnType := some (.object "com/example/ketenwacht/ketenwacht/model/StructureType") }, accessFlags := 10, code := some k1c1 }
def k1c2 : Code := { maxStack := 2, maxLocals := 1, code := method_3_code, exceptionTable := #[], attributes := #[] }
def k1m2 : Method := { name := "expected", desc := "(I)Lcom/example/ketenwacht/ketenwacht/model/NameIdFormat;", sig := { parameters := [.int], returnType := some (.object "com/example/ketenwacht/ketenwacht/model/NameIdFormat") }, accessFlags := 10, code := some k1c2 }
def k1c3 : Code := { maxStack := 2, maxLocals := 5, code := code, exceptionTable := #[], attributes := #[] }
def k1m3 : Method := { name := "law", desc := "(I)Z", sig := { parameters := [.int], returnType := some .boolean }, accessFlags := 9, code := some k1c3 }
/-- com/example/ketenwacht/ketenwacht/model/NameIdFormatOfPinLaw -/
def k1 : Class := { plain "com/example/ketenwacht/ketenwacht/model/NameIdFormatOfPinLaw" (some 0) with
  accessFlags := 49
  interfaces := #[]
  cf := some (fileOf pool1 45 #[] #[{ accessFlags := 1, nameIndex := 5, descriptorIndex := 6, attributes := #[] }, { accessFlags := 10, nameIndex := 48, descriptorIndex := 49, attributes := #[] }, { accessFlags := 10, nameIndex := 62, descriptorIndex := 63, attributes := #[] }, { accessFlags := 9, nameIndex := 67, descriptorIndex := 68, attributes := #[] }] 49 2 #[] #[])
  fields := #[]
  methods := #[k1m0, k1m1, k1m2, k1m3]
  instanceTypes := #[]
  staticTypes := #[]
  resolved := Array.replicate 71 none
  statics := none }

def pool2 : Array CpInfo := pool [(1, .class_ 2), (0, u "java/lang/constant/Constable"), (0, .class_ 4), (0, u "java/lang/Object")] 6

/-- java/lang/constant/Constable -/
def k2 : Class := { plain "java/lang/constant/Constable" (some 0) with
  accessFlags := 1537
  interfaces := #[]
  cf := some (fileOf pool2 1 #[] #[] 1537 3 #[] #[])
  fields := #[]
  methods := #[]
  instanceTypes := #[]
  staticTypes := #[]
  resolved := Array.replicate 11 none
  statics := none }

def pool3 : Array CpInfo := pool [(1, .class_ 2), (0, u "java/lang/Comparable"), (0, .class_ 4), (0, u "java/lang/Object")] 7

/-- java/lang/Comparable -/
def k3 : Class := { plain "java/lang/Comparable" (some 0) with
  accessFlags := 1537
  interfaces := #[]
  cf := some (fileOf pool3 1 #[] #[] 1537 3 #[] #[])
  fields := #[]
  methods := #[]
  instanceTypes := #[]
  staticTypes := #[]
  resolved := Array.replicate 12 none
  statics := none }

def pool4 : Array CpInfo := pool [(1, .class_ 2), (0, u "java/io/Serializable"), (0, .class_ 4), (0, u "java/lang/Object")] 2

/-- java/io/Serializable -/
def k4 : Class := { plain "java/io/Serializable" (some 0) with
  accessFlags := 1537
  interfaces := #[]
  cf := some (fileOf pool4 1 #[] #[] 1537 3 #[] #[])
  fields := #[]
  methods := #[]
  instanceTypes := #[]
  staticTypes := #[]
  resolved := Array.replicate 7 none
  statics := none }

def pool5 : Array CpInfo := pool [(2, .class_ 4), (1, u "java/lang/Enum"), (0, u "name"), (0, u "Ljava/lang/String;"), (2, u "ordinal"), (0, u "I"), (1, .class_ 14), (1, u "java/lang/Object"), (4, u "hash"), (86, .class_ 108), (1, u "java/lang/Enum$EnumDesc"), (2, .class_ 112), (0, u "java/lang/constant/Constable"), (0, .class_ 114), (0, u "java/lang/Comparable"), (0, .class_ 116), (0, u "java/io/Serializable")] 87

/-- java/lang/Enum -/
def k5 : Class := { plain "java/lang/Enum" (some 0) with
  accessFlags := 1057
  interfaces := #[2, 3, 4]
  cf := some (fileOf pool5 2 #[.nestMembers #[106]] #[] 1057 12 #[111, 113, 115] #[{ accessFlags := 18, nameIndex := 5, descriptorIndex := 6, attributes := #[] }, { accessFlags := 18, nameIndex := 9, descriptorIndex := 10, attributes := #[] }, { accessFlags := 2, nameIndex := 19, descriptorIndex := 10, attributes := #[] }])
  fields := #[{ name := "name", type := (.object "java/lang/String"), accessFlags := 18, slot := 0, constantValue := 0 }, { name := "ordinal", type := .int, accessFlags := 18, slot := 1, constantValue := 0 }, { name := "hash", type := .int, accessFlags := 2, slot := 2, constantValue := 0 }]
  methods := #[]
  instanceTypes := #[(.object "java/lang/String"), .int, .int]
  staticTypes := #[]
  resolved := Array.replicate 204 none
  statics := none }

def pool6 : Array CpInfo := pool [(1, .class_ 2), (0, u "com/example/ketenwacht/ketenwacht/model/StructureType"), (2, u "ENCRYPTED_IDENTITY"), (0, u "Lcom/example/ketenwacht/ketenwacht/model/StructureType;"), (2, u "ENCRYPTED_PSEUDONYM"), (2, u "SIGNED_ENCRYPTED_IDENTITY"), (2, u "SIGNED_ENCRYPTED_PSEUDONYM"), (2, u "POLYMORPHIC_IDENTITY"), (2, u "POLYMORPHIC_PSEUDONYM"), (2, u "SIGNED_POLYMORPHIC_IDENTITY"), (2, u "SIGNED_POLYMORPHIC_PSEUDONYM"), (2, u "$VALUES"), (0, u "[Lcom/example/ketenwacht/ketenwacht/model/StructureType;"), (6, .class_ 40), (1, u "java/lang/Enum"), (8, u "notationName"), (0, u "Ljava/lang/String;"), (2, u "oid"), (2, u "content"), (0, .class_ 58), (0, u "com/example/ketenwacht/ketenwacht/model/StructureType$Field"), (8, u "fields"), (0, u "Ljava/util/Set;")] 112

/-- com/example/ketenwacht/ketenwacht/model/StructureType -/
def k6 : Class := { plain "com/example/ketenwacht/ketenwacht/model/StructureType" (some 5) with
  accessFlags := 16433
  interfaces := #[]
  cf := some (fileOf pool6 1 #[.nestMembers #[57]] #[] 16433 38 #[] #[{ accessFlags := 16409, nameIndex := 5, descriptorIndex := 6, attributes := #[] }, { accessFlags := 16409, nameIndex := 9, descriptorIndex := 6, attributes := #[] }, { accessFlags := 16409, nameIndex := 12, descriptorIndex := 6, attributes := #[] }, { accessFlags := 16409, nameIndex := 15, descriptorIndex := 6, attributes := #[] }, { accessFlags := 16409, nameIndex := 18, descriptorIndex := 6, attributes := #[] }, { accessFlags := 16409, nameIndex := 21, descriptorIndex := 6, attributes := #[] }, { accessFlags := 16409, nameIndex := 24, descriptorIndex := 6, attributes := #[] }, { accessFlags := 16409, nameIndex := 27, descriptorIndex := 6, attributes := #[] }, { accessFlags := 18, nameIndex := 49, descriptorIndex := 50, attributes := #[] }, { accessFlags := 18, nameIndex := 53, descriptorIndex := 50, attributes := #[] }, { accessFlags := 18, nameIndex := 56, descriptorIndex := 6, attributes := #[] }, { accessFlags := 18, nameIndex := 67, descriptorIndex := 68, attributes := #[] }, { accessFlags := 4122, nameIndex := 30, descriptorIndex := 31, attributes := #[] }])
  fields := #[{ name := "ENCRYPTED_IDENTITY", type := (.object "com/example/ketenwacht/ketenwacht/model/StructureType"), accessFlags := 16409, slot := 0, constantValue := 0 }, { name := "ENCRYPTED_PSEUDONYM", type := (.object "com/example/ketenwacht/ketenwacht/model/StructureType"), accessFlags := 16409, slot := 1, constantValue := 0 }, { name := "SIGNED_ENCRYPTED_IDENTITY", type := (.object "com/example/ketenwacht/ketenwacht/model/StructureType"), accessFlags := 16409, slot := 2, constantValue := 0 }, { name := "SIGNED_ENCRYPTED_PSEUDONYM", type := (.object "com/example/ketenwacht/ketenwacht/model/StructureType"), accessFlags := 16409, slot := 3, constantValue := 0 }, { name := "POLYMORPHIC_IDENTITY", type := (.object "com/example/ketenwacht/ketenwacht/model/StructureType"), accessFlags := 16409, slot := 4, constantValue := 0 }, { name := "POLYMORPHIC_PSEUDONYM", type := (.object "com/example/ketenwacht/ketenwacht/model/StructureType"), accessFlags := 16409, slot := 5, constantValue := 0 }, { name := "SIGNED_POLYMORPHIC_IDENTITY", type := (.object "com/example/ketenwacht/ketenwacht/model/StructureType"), accessFlags := 16409, slot := 6, constantValue := 0 }, { name := "SIGNED_POLYMORPHIC_PSEUDONYM", type := (.object "com/example/ketenwacht/ketenwacht/model/StructureType"), accessFlags := 16409, slot := 7, constantValue := 0 }, { name := "notationName", type := (.object "java/lang/String"), accessFlags := 18, slot := 3, constantValue := 0 }, { name := "oid", type := (.object "java/lang/String"), accessFlags := 18, slot := 4, constantValue := 0 }, { name := "content", type := (.object "com/example/ketenwacht/ketenwacht/model/StructureType"), accessFlags := 18, slot := 5, constantValue := 0 }, { name := "fields", type := (.object "java/util/Set"), accessFlags := 18, slot := 6, constantValue := 0 }, { name := "$VALUES", type := (.array (.object "com/example/ketenwacht/ketenwacht/model/StructureType")), accessFlags := 4122, slot := 8, constantValue := 0 }]
  methods := #[]
  instanceTypes := #[(.object "java/lang/String"), .int, .int, (.object "java/lang/String"), (.object "java/lang/String"), (.object "com/example/ketenwacht/ketenwacht/model/StructureType"), (.object "java/util/Set")]
  staticTypes := #[(.object "com/example/ketenwacht/ketenwacht/model/StructureType"), (.object "com/example/ketenwacht/ketenwacht/model/StructureType"), (.object "com/example/ketenwacht/ketenwacht/model/StructureType"), (.object "com/example/ketenwacht/ketenwacht/model/StructureType"), (.object "com/example/ketenwacht/ketenwacht/model/StructureType"), (.object "com/example/ketenwacht/ketenwacht/model/StructureType"), (.object "com/example/ketenwacht/ketenwacht/model/StructureType"), (.object "com/example/ketenwacht/ketenwacht/model/StructureType"), (.array (.object "com/example/ketenwacht/ketenwacht/model/StructureType"))]
  resolved := Array.replicate 181 none
  statics := some 0 }

def pool7 : Array CpInfo := pool [(1, .class_ 2), (0, u "com/example/ketenwacht/ketenwacht/model/NameIdFormat"), (2, u "BSN"), (0, u "Lcom/example/ketenwacht/ketenwacht/model/NameIdFormat;"), (2, u "PSEUDONYM"), (0, .fieldref 1 11), (0, .nameAndType 12 13), (0, u "$VALUES"), (0, u "[Lcom/example/ketenwacht/ketenwacht/model/NameIdFormat;"), (0, .methodref 15 16), (0, .class_ 13), (0, .nameAndType 17 18), (0, u "clone"), (0, u "()Ljava/lang/Object;"), (1, .class_ 22), (1, u "java/lang/Enum"), (8, u "uri"), (0, u "Ljava/lang/String;"), (0, .fieldref 1 34), (0, .nameAndType 35 36), (0, u "structureType"), (0, u "Lcom/example/ketenwacht/ketenwacht/model/StructureType;"), (0, .methodref 1 38), (0, .nameAndType 39 40), (0, u "values"), (0, u "()[Lcom/example/ketenwacht/ketenwacht/model/NameIdFormat;"), (6, .methodref 48 49), (0, .class_ 50), (0, .nameAndType 51 52), (0, u "java/util/Optional"), (0, u "of"), (0, u "(Ljava/lang/Object;)Ljava/util/Optional;"), (0, .methodref 48 54), (0, .nameAndType 55 56), (0, u "empty"), (0, u "()Ljava/util/Optional;"), (32, u "(Lcom/example/ketenwacht/ketenwacht/model/StructureType;)Ljava/util/Optional;")] 6

def k7c0 : Code := { maxStack := 1, maxLocals := 0, code := prog_33_method_1_code, exceptionTable := #[], attributes := #[] }
def k7m0 : Method := { name := "values", desc := "()[Lcom/example/ketenwacht/ketenwacht/model/NameIdFormat;", sig := { parameters := [], returnType := some (.array (.object "com/example/ketenwacht/ketenwacht/model/NameIdFormat")) }, accessFlags := 9, code := some k7c0 }
def k7c1 : Code := { maxStack := 2, maxLocals := 5, code := prog_33_method_7_code, exceptionTable := #[], attributes := #[] }
def k7m1 : Method := { name := "of", desc := "(Lcom/example/ketenwacht/ketenwacht/model/StructureType;)Ljava/util/Optional;", sig := { parameters := [(.object "com/example/ketenwacht/ketenwacht/model/StructureType")], returnType := some (.object "java/util/Optional") }, accessFlags := 9, code := some k7c1 }
/-- com/example/ketenwacht/ketenwacht/model/NameIdFormat -/
def k7 : Class := { plain "com/example/ketenwacht/ketenwacht/model/NameIdFormat" (some 5) with
  accessFlags := 16433
  interfaces := #[]
  cf := some (fileOf pool7 1 #[] #[{ accessFlags := 9, nameIndex := 39, descriptorIndex := 40, attributes := #[] }, { accessFlags := 9, nameIndex := 51, descriptorIndex := 89, attributes := #[] }] 16433 20 #[] #[{ accessFlags := 16409, nameIndex := 5, descriptorIndex := 6, attributes := #[] }, { accessFlags := 16409, nameIndex := 9, descriptorIndex := 6, attributes := #[] }, { accessFlags := 18, nameIndex := 31, descriptorIndex := 32, attributes := #[] }, { accessFlags := 18, nameIndex := 35, descriptorIndex := 36, attributes := #[] }, { accessFlags := 4122, nameIndex := 12, descriptorIndex := 13, attributes := #[] }])
  fields := #[{ name := "BSN", type := (.object "com/example/ketenwacht/ketenwacht/model/NameIdFormat"), accessFlags := 16409, slot := 0, constantValue := 0 }, { name := "PSEUDONYM", type := (.object "com/example/ketenwacht/ketenwacht/model/NameIdFormat"), accessFlags := 16409, slot := 1, constantValue := 0 }, { name := "uri", type := (.object "java/lang/String"), accessFlags := 18, slot := 3, constantValue := 0 }, { name := "structureType", type := (.object "com/example/ketenwacht/ketenwacht/model/StructureType"), accessFlags := 18, slot := 4, constantValue := 0 }, { name := "$VALUES", type := (.array (.object "com/example/ketenwacht/ketenwacht/model/NameIdFormat")), accessFlags := 4122, slot := 2, constantValue := 0 }]
  methods := #[k7m0, k7m1]
  instanceTypes := #[(.object "java/lang/String"), .int, .int, (.object "java/lang/String"), (.object "com/example/ketenwacht/ketenwacht/model/StructureType")]
  staticTypes := #[(.object "com/example/ketenwacht/ketenwacht/model/NameIdFormat"), (.object "com/example/ketenwacht/ketenwacht/model/NameIdFormat"), (.array (.object "com/example/ketenwacht/ketenwacht/model/NameIdFormat"))]
  resolved := Array.replicate 96 none
  statics := some 1 }

def pool8 : Array CpInfo := pool [(1, .class_ 2), (0, u "java/lang/Cloneable"), (0, .class_ 4), (0, u "java/lang/Object")] 2

/-- java/lang/Cloneable -/
def k8 : Class := { plain "java/lang/Cloneable" (some 0) with
  accessFlags := 1537
  interfaces := #[]
  cf := some (fileOf pool8 1 #[] #[] 1537 3 #[] #[])
  fields := #[]
  methods := #[]
  instanceTypes := #[]
  staticTypes := #[]
  resolved := Array.replicate 7 none
  statics := none }

def pool9 : Array CpInfo := pool [(1, .fieldref 2 3), (0, .class_ 4), (0, .nameAndType 5 6), (0, u "java/util/Optional"), (0, u "EMPTY"), (0, u "Ljava/util/Optional;"), (0, .methodref 8 9), (0, .class_ 10), (0, .nameAndType 11 12), (0, u "java/lang/Object"), (0, u "<init>"), (0, u "()V"), (0, .fieldref 2 14), (0, .nameAndType 15 16), (0, u "value"), (0, u "Ljava/lang/Object;"), (0, .methodref 18 19), (0, .class_ 20), (0, .nameAndType 21 22), (0, u "java/util/Objects"), (0, u "requireNonNull"), (0, u "(Ljava/lang/Object;)Ljava/lang/Object;"), (0, .methodref 2 24), (0, .nameAndType 11 25), (0, u "(Ljava/lang/Object;)V"), (29, u "empty"), (0, u "()Ljava/util/Optional;"), (8, u "(Ljava/lang/Object;)Ljava/util/Optional;"), (16, u "of"), (82, u "orElse")] 21

def k9c0 : Code := { maxStack := 1, maxLocals := 1, code := jdk_32_method_1_code, exceptionTable := #[], attributes := #[] }
def k9m0 : Method := { name := "empty", desc := "()Ljava/util/Optional;", sig := { parameters := [], returnType := some (.object "java/util/Optional") }, accessFlags := 9, code := some k9c0 }
def k9c1 : Code := { maxStack := 2, maxLocals := 2, code := jdk_32_method_2_code, exceptionTable := #[], attributes := #[] }
def k9m1 : Method := { name := "<init>", desc := "(Ljava/lang/Object;)V", sig := { parameters := [(.object "java/lang/Object")], returnType := none }, accessFlags := 2, code := some k9c1 }
def k9c2 : Code := { maxStack := 3, maxLocals := 1, code := jdk_32_method_3_code, exceptionTable := #[], attributes := #[] }
def k9m2 : Method := { name := "of", desc := "(Ljava/lang/Object;)Ljava/util/Optional;", sig := { parameters := [(.object "java/lang/Object")], returnType := some (.object "java/util/Optional") }, accessFlags := 9, code := some k9c2 }
def k9c3 : Code := { maxStack := 1, maxLocals := 2, code := jdk_32_method_15_code, exceptionTable := #[], attributes := #[] }
def k9m3 : Method := { name := "orElse", desc := "(Ljava/lang/Object;)Ljava/lang/Object;", sig := { parameters := [(.object "java/lang/Object")], returnType := some (.object "java/lang/Object") }, accessFlags := 1, code := some k9c3 }
/-- java/util/Optional -/
def k9 : Class := { plain "java/util/Optional" (some 0) with
  accessFlags := 49
  interfaces := #[]
  cf := some (fileOf pool9 2 #[] #[{ accessFlags := 9, nameIndex := 55, descriptorIndex := 56, attributes := #[] }, { accessFlags := 2, nameIndex := 11, descriptorIndex := 25, attributes := #[] }, { accessFlags := 9, nameIndex := 82, descriptorIndex := 65, attributes := #[] }, { accessFlags := 1, nameIndex := 165, descriptorIndex := 22, attributes := #[] }] 49 8 #[] #[{ accessFlags := 26, nameIndex := 5, descriptorIndex := 6, attributes := #[] }, { accessFlags := 18, nameIndex := 15, descriptorIndex := 16, attributes := #[] }])
  fields := #[{ name := "EMPTY", type := (.object "java/util/Optional"), accessFlags := 26, slot := 0, constantValue := 0 }, { name := "value", type := (.object "java/lang/Object"), accessFlags := 18, slot := 0, constantValue := 0 }]
  methods := #[k9m0, k9m1, k9m2, k9m3]
  instanceTypes := #[(.object "java/lang/Object")]
  staticTypes := #[(.object "java/util/Optional")]
  resolved := Array.replicate 187 none
  statics := some 2 }

def pool10 : Array CpInfo := pool [(2, .class_ 4), (1, u "java/lang/Object"), (0, u "<init>"), (0, u "()V"), (35, .class_ 44), (1, u "java/util/Objects"), (0, u "requireNonNull"), (0, u "(Ljava/lang/Object;)Ljava/lang/Object;")] 137

def k10m0 : Method := { name := "<init>", desc := "()V", sig := { parameters := [], returnType := none }, accessFlags := 2, code := none }
def k10c1 : Code := { maxStack := 2, maxLocals := 1, code := jdk_31_method_10_code, exceptionTable := #[], attributes := #[] }
def k10m1 : Method := { name := "requireNonNull", desc := "(Ljava/lang/Object;)Ljava/lang/Object;", sig := { parameters := [(.object "java/lang/Object")], returnType := some (.object "java/lang/Object") }, accessFlags := 9, code := some k10c1 }
/-- java/util/Objects -/
def k10 : Class := { plain "java/util/Objects" (some 0) with
  accessFlags := 49
  interfaces := #[]
  cf := some (fileOf pool10 42 #[] #[{ accessFlags := 2, nameIndex := 5, descriptorIndex := 6, attributes := #[] }, { accessFlags := 9, nameIndex := 45, descriptorIndex := 46, attributes := #[] }] 49 2 #[] #[])
  fields := #[]
  methods := #[k10m0, k10m1]
  instanceTypes := #[]
  staticTypes := #[]
  resolved := Array.replicate 184 none
  statics := none }

/-- the primitive byte -/
def k11 : Class := { plain "byte" none with kind := .primitive 'B', accessFlags := 0x411 }
/-- [B -/
def k12 : Class := { plain "[B" (some 0) with kind := .array 11 .byte, interfaces := #[8, 4], accessFlags := 1041 }

/-- the primitive int -/
def k13 : Class := { plain "int" none with kind := .primitive 'I', accessFlags := 0x411 }
/-- [I -/
def k14 : Class := { plain "[I" (some 0) with kind := .array 13 .int, interfaces := #[8, 4], accessFlags := 1041 }

/-- [Lcom/example/ketenwacht/ketenwacht/model/NameIdFormat; -/
def k15 : Class := { plain "[Lcom/example/ketenwacht/ketenwacht/model/NameIdFormat;" (some 0) with kind := .array 7 (.object "com/example/ketenwacht/ketenwacht/model/NameIdFormat"), interfaces := #[8, 4], accessFlags := 1041 }

def heap : Heap := #[{ cls := 6, slots := #[.ref 3, .ref 11, .ref 6, .ref 8, .ref 12, .ref 13, .ref 9, .ref 10, .null], vm := .statics 6 },
  { cls := 7, slots := #[.ref 5, .ref 7, .ref 4], vm := .statics 7 },
  { cls := 9, slots := #[.ref 14], vm := .statics 9 },
  { cls := 6, slots := #[.null, .int 0, .int 0, .null, .null, .null, .null], vm := .none },
  { cls := 15, slots := #[.ref 5, .ref 7], vm := .none },
  { cls := 7, slots := #[.null, .int 0, .int 0, .null, .ref 6], vm := .none },
  { cls := 6, slots := #[.null, .int 2, .int 0, .null, .null, .null, .null], vm := .none },
  { cls := 7, slots := #[.null, .int 0, .int 0, .null, .ref 8], vm := .none },
  { cls := 6, slots := #[.null, .int 3, .int 0, .null, .null, .null, .null], vm := .none },
  { cls := 6, slots := #[.null, .int 6, .int 0, .null, .null, .null, .null], vm := .none },
  { cls := 6, slots := #[.null, .int 7, .int 0, .null, .null, .null, .null], vm := .none },
  { cls := 6, slots := #[.null, .int 1, .int 0, .null, .null, .null, .null], vm := .none },
  { cls := 6, slots := #[.null, .int 4, .int 0, .null, .null, .null, .null], vm := .none },
  { cls := 6, slots := #[.null, .int 5, .int 0, .null, .null, .null, .null], vm := .none },
  { cls := 9, slots := #[.null], vm := .none }]
def classes : Array Class := #[k0, k1, k2, k3, k4, k5, k6, k7, k8, k9, k10, k11, k12, k13, k14, k15]
def interned : List (Array UInt16 × Addr) := []
def slotsUsed : Nat := 82
def theMethod : MethodId := ⟨1, 3⟩
def args0 : Array Value := #[.int 5]
def aboutOver (below : List Frame) : State where
  vm := { classes := classes, interned := interned.toArray }
  heap := heap
  slotsUsed := slotsUsed
  threads := #[{ frames := .invoking theMethod args0 :: below }]
def below0 : List Frame := [.native { method := ⟨0, 0⟩, args := #[] }]
def about1 : State := aboutOver below0
def p0 : Program := .bare "" "" ""
def e0 : Env := launch0.env 0 0 0
theorem w_frames : about1.frames = Frame.invoking theMethod args0 :: below0 := rfl
set_option maxRecDepth 65536 in
theorem w_args : argsFit about1.vm theMethod args0 = true := by decide +kernel
set_option maxRecDepth 65536 in
theorem w_heap : heapFits about1 = true := by decide +kernel
set_option maxRecDepth 65536 in
theorem w_runnable : about1.curStatus? = some .runnable := by decide +kernel
set_option maxRecDepth 65536 in
theorem w_alone : about1.alone = true := by decide +kernel
set_option maxRecDepth 65536 in
theorem w_named : about1.methodNamed? x = some theMethod := by decide +kernel
set_option maxRecDepth 65536 in
theorem w_hears : about1.hears theMethod below0 = true := by decide +kernel
set_option maxRecDepth 65536 in
theorem w_ripe : about1.ripe theMethod args0 below0 = true := by decide +kernel
theorem w_running : about1.status = .running := rfl
set_option maxRecDepth 65536 in
theorem w_room : about1.hasRoom e0.platform room_1 = true :=
  launch0.hasRoom_least _ room_1 (by decide +kernel) (by decide +kernel) (by decide +kernel) (by decide +kernel) (by decide +kernel) (by decide +kernel)
theorem allAtoms_all (ts : List Jvm.Cond) (a : Array Jvm.Value) (st : Jvm.State) : (allAtoms ts).before a st = ts.all (fun c => c.before a st) := by
  induction ts with
  | nil => rfl
  | cons c t ih =>
    show (Jvm.Cond.and c (allAtoms t)).before a st = _
    rw [Jvm.Cond.before_and, ih, List.all_cons]
def words1 : List Jvm.Cond := Jvm.Cond.code x code maxLocals ret :: tables_1
/-- a 'code' word, met by the world's own term for the bytes: nothing is compared byte by byte -/
theorem code_word {y : MethodName} {bytes : ByteArray} {mx : Nat} {rt : Option FieldType} {a : Array Value} {s : State} {m : MethodId} {meth : Method} {c : Code} (h1 : s.methodNamed? y = some m) (h2 : s.vm.method? m = some meth) (h3 : meth.code = some c) (h4 : c.code = bytes)
    (h5 : (c.maxLocals == mx && c.exceptionTable.isEmpty && decide (c.maxStack ≤ mostOperands) && decide (meth.sig.returnType = rt) && !meth.locks && decide (parseMethodDescriptor y.desc = some meth.sig)) = true) : (Jvm.Cond.code y bytes mx rt).before a s = true := by
  simp only [Bool.and_eq_true, beq_iff_eq, Bool.not_eq_true', decide_eq_true_eq] at h5
  obtain ⟨⟨⟨⟨⟨g1, g2⟩, g3⟩, g4⟩, g5⟩, g6⟩ := h5
  simp [Cond.before, Cond.holds, Cond.value, h1, h2, h3, h4, g1, g2, g3, g4, g5, g6]
def isCode : Jvm.Cond → Bool
  | .code _ _ _ _ => true
  | _ => false
theorem all_split {L : List Jvm.Cond} {P : Jvm.Cond → Bool} (h1 : L.all (fun c => isCode c || P c) = true) (h2 : ∀ c ∈ L.filter isCode, P c = true) : L.all P = true := by
  refine List.all_eq_true.mpr fun c hc => ?_
  have h := List.all_eq_true.mp h1 c hc
  rcases Bool.eq_false_or_eq_true (isCode c) with hi | hi
  · exact h2 c (List.mem_filter.mpr ⟨hc, hi⟩)
  · simpa [hi] using h
set_option maxRecDepth 65536 in
theorem w_c0 : (Jvm.Cond.code x code maxLocals ret).before args0 about1 = true := code_word (m := ⟨1, 3⟩) (meth := k1m3) (c := k1c3) (by decide +kernel) rfl rfl rfl (by decide +kernel)
set_option maxRecDepth 65536 in
theorem w_c1 : (Jvm.Cond.code ({ cls := "com/example/ketenwacht/ketenwacht/model/NameIdFormatOfPinLaw", name := "pick", desc := "(I)Lcom/example/ketenwacht/ketenwacht/model/StructureType;" } : Jvm.MethodName) method_2_code (1 : Nat) (Option.some (Jvm.ClassFile.FieldType.object "com/example/ketenwacht/ketenwacht/model/StructureType"))).before args0 about1 = true := code_word (m := ⟨1, 1⟩) (meth := k1m1) (c := k1c1) (by decide +kernel) rfl rfl rfl (by decide +kernel)
set_option maxRecDepth 65536 in
theorem w_c2 : (Jvm.Cond.code ({ cls := "com/example/ketenwacht/ketenwacht/model/NameIdFormat", name := "of", desc := "(Lcom/example/ketenwacht/ketenwacht/model/StructureType;)Ljava/util/Optional;" } : Jvm.MethodName) prog_33_method_7_code (5 : Nat) (Option.some (Jvm.ClassFile.FieldType.object "java/util/Optional"))).before args0 about1 = true := code_word (m := ⟨7, 1⟩) (meth := k7m1) (c := k7c1) (by decide +kernel) rfl rfl rfl (by decide +kernel)
set_option maxRecDepth 65536 in
theorem w_c3 : (Jvm.Cond.code ({ cls := "com/example/ketenwacht/ketenwacht/model/NameIdFormat", name := "values", desc := "()[Lcom/example/ketenwacht/ketenwacht/model/NameIdFormat;" } : Jvm.MethodName) prog_33_method_1_code (0 : Nat) (Option.some (Jvm.ClassFile.FieldType.array (Jvm.ClassFile.FieldType.object "com/example/ketenwacht/ketenwacht/model/NameIdFormat")))).before args0 about1 = true := code_word (m := ⟨7, 0⟩) (meth := k7m0) (c := k7c0) (by decide +kernel) rfl rfl rfl (by decide +kernel)
set_option maxRecDepth 65536 in
theorem w_c4 : (Jvm.Cond.code ({ cls := "java/util/Optional", name := "empty", desc := "()Ljava/util/Optional;" } : Jvm.MethodName) jdk_32_method_1_code (1 : Nat) (Option.some (Jvm.ClassFile.FieldType.object "java/util/Optional"))).before args0 about1 = true := code_word (m := ⟨9, 0⟩) (meth := k9m0) (c := k9c0) (by decide +kernel) rfl rfl rfl (by decide +kernel)
set_option maxRecDepth 65536 in
theorem w_c5 : (Jvm.Cond.code ({ cls := "java/util/Optional", name := "orElse", desc := "(Ljava/lang/Object;)Ljava/lang/Object;" } : Jvm.MethodName) jdk_32_method_15_code (2 : Nat) (Option.some (Jvm.ClassFile.FieldType.object "java/lang/Object"))).before args0 about1 = true := code_word (m := ⟨9, 3⟩) (meth := k9m3) (c := k9c3) (by decide +kernel) rfl rfl rfl (by decide +kernel)
set_option maxRecDepth 65536 in
theorem w_c6 : (Jvm.Cond.code ({ cls := "com/example/ketenwacht/ketenwacht/model/NameIdFormatOfPinLaw", name := "expected", desc := "(I)Lcom/example/ketenwacht/ketenwacht/model/NameIdFormat;" } : Jvm.MethodName) method_3_code (1 : Nat) (Option.some (Jvm.ClassFile.FieldType.object "com/example/ketenwacht/ketenwacht/model/NameIdFormat"))).before args0 about1 = true := code_word (m := ⟨1, 2⟩) (meth := k1m2) (c := k1c2) (by decide +kernel) rfl rfl rfl (by decide +kernel)
set_option maxRecDepth 65536 in
theorem w_c7 : (Jvm.Cond.code ({ cls := "java/util/Optional", name := "of", desc := "(Ljava/lang/Object;)Ljava/util/Optional;" } : Jvm.MethodName) jdk_32_method_3_code (1 : Nat) (Option.some (Jvm.ClassFile.FieldType.object "java/util/Optional"))).before args0 about1 = true := code_word (m := ⟨9, 2⟩) (meth := k9m2) (c := k9c2) (by decide +kernel) rfl rfl rfl (by decide +kernel)
set_option maxRecDepth 65536 in
theorem w_c8 : (Jvm.Cond.code ({ cls := "java/util/Objects", name := "requireNonNull", desc := "(Ljava/lang/Object;)Ljava/lang/Object;" } : Jvm.MethodName) jdk_31_method_10_code (1 : Nat) (Option.some (Jvm.ClassFile.FieldType.object "java/lang/Object"))).before args0 about1 = true := code_word (m := ⟨10, 1⟩) (meth := k10m1) (c := k10c1) (by decide +kernel) rfl rfl rfl (by decide +kernel)
set_option maxRecDepth 65536 in
theorem w_c9 : (Jvm.Cond.code ({ cls := "java/util/Optional", name := "<init>", desc := "(Ljava/lang/Object;)V" } : Jvm.MethodName) jdk_32_method_2_code (2 : Nat) (Option.none : Option Jvm.ClassFile.FieldType)).before args0 about1 = true := code_word (m := ⟨9, 1⟩) (meth := k9m1) (c := k9c1) (by decide +kernel) rfl rfl rfl (by decide +kernel)
set_option maxRecDepth 65536 in
theorem w_c10 : (Jvm.Cond.code ({ cls := "java/lang/Object", name := "<init>", desc := "()V" } : Jvm.MethodName) object_method_1_code (1 : Nat) (Option.none : Option Jvm.ClassFile.FieldType)).before args0 about1 = true := code_word (m := ⟨0, 0⟩) (meth := k0m0) (c := k0c0) (by decide +kernel) rfl rfl rfl (by decide +kernel)
def codes1 : List Jvm.Cond := [Jvm.Cond.code x code maxLocals ret, Jvm.Cond.code ({ cls := "com/example/ketenwacht/ketenwacht/model/NameIdFormatOfPinLaw", name := "pick", desc := "(I)Lcom/example/ketenwacht/ketenwacht/model/StructureType;" } : Jvm.MethodName) method_2_code (1 : Nat) (Option.some (Jvm.ClassFile.FieldType.object "com/example/ketenwacht/ketenwacht/model/StructureType")), Jvm.Cond.code ({ cls := "com/example/ketenwacht/ketenwacht/model/NameIdFormat", name := "of", desc := "(Lcom/example/ketenwacht/ketenwacht/model/StructureType;)Ljava/util/Optional;" } : Jvm.MethodName) prog_33_method_7_code (5 : Nat) (Option.some (Jvm.ClassFile.FieldType.object "java/util/Optional")), Jvm.Cond.code ({ cls := "com/example/ketenwacht/ketenwacht/model/NameIdFormat", name := "values", desc := "()[Lcom/example/ketenwacht/ketenwacht/model/NameIdFormat;" } : Jvm.MethodName) prog_33_method_1_code (0 : Nat) (Option.some (Jvm.ClassFile.FieldType.array (Jvm.ClassFile.FieldType.object "com/example/ketenwacht/ketenwacht/model/NameIdFormat"))), Jvm.Cond.code ({ cls := "java/util/Optional", name := "empty", desc := "()Ljava/util/Optional;" } : Jvm.MethodName) jdk_32_method_1_code (1 : Nat) (Option.some (Jvm.ClassFile.FieldType.object "java/util/Optional")), Jvm.Cond.code ({ cls := "java/util/Optional", name := "orElse", desc := "(Ljava/lang/Object;)Ljava/lang/Object;" } : Jvm.MethodName) jdk_32_method_15_code (2 : Nat) (Option.some (Jvm.ClassFile.FieldType.object "java/lang/Object")), Jvm.Cond.code ({ cls := "com/example/ketenwacht/ketenwacht/model/NameIdFormatOfPinLaw", name := "expected", desc := "(I)Lcom/example/ketenwacht/ketenwacht/model/NameIdFormat;" } : Jvm.MethodName) method_3_code (1 : Nat) (Option.some (Jvm.ClassFile.FieldType.object "com/example/ketenwacht/ketenwacht/model/NameIdFormat")), Jvm.Cond.code ({ cls := "java/util/Optional", name := "of", desc := "(Ljava/lang/Object;)Ljava/util/Optional;" } : Jvm.MethodName) jdk_32_method_3_code (1 : Nat) (Option.some (Jvm.ClassFile.FieldType.object "java/util/Optional")), Jvm.Cond.code ({ cls := "java/util/Objects", name := "requireNonNull", desc := "(Ljava/lang/Object;)Ljava/lang/Object;" } : Jvm.MethodName) jdk_31_method_10_code (1 : Nat) (Option.some (Jvm.ClassFile.FieldType.object "java/lang/Object")), Jvm.Cond.code ({ cls := "java/util/Optional", name := "<init>", desc := "(Ljava/lang/Object;)V" } : Jvm.MethodName) jdk_32_method_2_code (2 : Nat) (Option.none : Option Jvm.ClassFile.FieldType), Jvm.Cond.code ({ cls := "java/lang/Object", name := "<init>", desc := "()V" } : Jvm.MethodName) object_method_1_code (1 : Nat) (Option.none : Option Jvm.ClassFile.FieldType)]
set_option maxRecDepth 65536 in
theorem codes_eq : words1.filter isCode = codes1 := rfl
theorem w_codes : ∀ c ∈ words1.filter isCode, c.before args0 about1 = true := by
  rw [codes_eq]
  intro c hc
  simp only [codes1, List.mem_cons, List.not_mem_nil, or_false] at hc
  rcases hc with rfl | rfl | rfl | rfl | rfl | rfl | rfl | rfl | rfl | rfl | rfl
  · exact w_c0
  · exact w_c1
  · exact w_c2
  · exact w_c3
  · exact w_c4
  · exact w_c5
  · exact w_c6
  · exact w_c7
  · exact w_c8
  · exact w_c9
  · exact w_c10
set_option maxRecDepth 65536 in
theorem w_t1 : (words1.take 24).all (fun c => isCode c || c.before args0 about1) = true := by decide +kernel
set_option maxRecDepth 65536 in
theorem w_t2 : ((words1.drop 24).take 24).all (fun c => isCode c || c.before args0 about1) = true := by decide +kernel
set_option maxRecDepth 65536 in
theorem w_t3 : (((words1.drop 24).drop 24).take 24).all (fun c => isCode c || c.before args0 about1) = true := by decide +kernel
set_option maxRecDepth 65536 in
theorem w_t4 : (((words1.drop 24).drop 24).drop 24).all (fun c => isCode c || c.before args0 about1) = true := by decide +kernel
theorem w_tables : (allAtoms (Jvm.Cond.code x code maxLocals ret :: tables_1)).before args0 about1 = true := by
  rw [allAtoms_all]
  show words1.all (fun c => c.before args0 about1) = true
  refine all_split ?_ w_codes
  rw [← List.take_append_drop 24 words1, List.all_append, w_t1, ← List.take_append_drop 24 (words1.drop 24), List.all_append, w_t2, ← List.take_append_drop 24 ((words1.drop 24).drop 24), List.all_append, w_t3, w_t4]
  rfl
set_option maxRecDepth 65536 in
theorem w_rest : rest_1_c.before args0 about1 = true := by decide +kernel
set_option maxRecDepth 65536 in
theorem w_case : (Jvm.Cond.and given_1 narrow_1).before args0 about1 = true := by decide +kernel
theorem w_applies : (headSpec (Jvm.Cond.code x code maxLocals ret :: tables_1) room_1).applies x e0.platform about1 = true :=
  (Spec.applies_iff w_frames).mpr ⟨w_running, w_runnable, w_alone, w_named, w_hears, w_ripe, w_room, w_tables⟩
theorem atStart : AtStart classFile x code maxLocals ret World_1 tables_1 room_1 Calls_1 rest_1 Pre_1 launch0 p0 e0 about1 theMethod args0 below0 :=
  ⟨lists_1, trivial, launch0.admits_env _ _ _, launch0.least_env, fairChoices_fair.cas, fairChoices_fair.clock, w_frames, w_args, w_heap, w_applies, trivial, w_rest, w_case⟩
end start1
theorem witness_1 : WitnessClaimed_1 := ⟨start1.p0, start1.e0, start1.about1, start1.theMethod, start1.args0, start1.below0, start1.atStart⟩
end Jvm.Pilot.@@N@@
