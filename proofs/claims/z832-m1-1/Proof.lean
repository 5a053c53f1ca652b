import JvmDerived
import JvmDerived.Pilot.@@N@@Statement
import JvmDerived.Pilot.@@N@@Code
set_option linter.unusedVariables false
set_option linter.unusedSimpArgs false
namespace Jvm.Pilot.@@N@@
open Jvm Jvm.ClassFile Sem Op Lib Jvm.Free Jvm.Stand Jvm.LawKit Jvm.RoadKit Bundle Jvm.Pilot.@@N@@.Jvm.D
section OwnKit
variable {p : Program} {l : Launch} {e : Env} {R : Room} {s : State} {m : MethodId} {args : Array Value} {below : List Frame} {meth : Method} {c : Code} {T : State} {locs : List Loc} {cells slots : Nat} {Z : State} {a0 : Array Value} {h : Heap} {n0 kc ks : Nat} {FE : Outcome → State → List Loc → Prop} {Q : Option Value → Heap → Prop} {pc pc' : Nat} {Ls Ls' : Array Slot} {st : List Value}
/-- from the state S the run comes back to its caller with what Q says, having written nothing below n0 -/
def Goes (p : Program) (e : Env) (below : List Frame) (FE : Outcome → State → List Loc → Prop) (n0 : Nat) (Q : Option Value → Heap → Prop) (S : State) : Prop :=
  ∃ s₂ o, Steps p.tables e below S s₂ ∧ s₂.status = .running ∧ Ended s₂ below o ∧ ∃ v L, o = .returned v ∧ (Fr n0 L ∧ Q v s₂.heap) ∧ FE o s₂ L
/-- the contract of a body -/
def Meets (l : Launch) (y : MethodName) (bytes : ByteArray) (maxL : Nat) (ret : Option FieldType) (ws : List Jvm.Cond) (rm : Room) (kc ks : Nat) (Z : State) (as' : Array Value) (h : Heap) (n0 : Nat) (Q : Option Value → Heap → Prop) : Prop :=
  MetFree l y (head1 (Jvm.Cond.code y bytes maxL ret :: ws) rm) (fun a U => a = as' ∧ Z.Warmed39 U.vm ∧ U.heap = h) (fun _ _ _ _ _ => True) (fun _ U o U' => ∃ v L, o = .returned v ∧ (Fr n0 L ∧ Q v U'.heap) ∧ FrameEnd U o U' L kc ks)
theorem Goes.via {S S' : State} (f : ∀ t, Steps p.tables e below S' t → Steps p.tables e below S t) (g : Goes p e below FE n0 Q S') : Goes p e below FE n0 Q S := by
  obtain ⟨s₂, o, k, r⟩ := g
  exact ⟨s₂, o, f _ k, r⟩
theorem Goes.ret {S : State} {v : Option Value} (X : Stand p l e R s m args below meth c T locs cells slots) (N : Fr n0 locs) (hlk : meth.locks = false) (hv : meth.sig.returnType = none → v = none) (hc : cells ≤ kc) (hs : slots ≤ ks) (hq : Q v T.heap)
    (f : ∀ fs, (∀ (f : JFrame) (acts : List Action), f.method = m → f.locked = none → f.entered = [] → (doReturn e (T.setTop f) acts v).1 = T.setFrames fs) → Steps p.tables e below S (T.setFrames fs)) : Goes p e below (fun o t L => FrameEnd s o t L kc ks) n0 Q S := by
  obtain ⟨fs, hr, hrun, hended, hW, hsame⟩ := X.leave hv hlk
  exact ⟨_, _, f fs hr, hrun, hended, _, _, rfl, ⟨N, hq⟩, ⟨_, rfl⟩, hW, hsame.mono hc hs⟩
theorem own_sz (O : Old Z n0 h) : n0 ≤ h.size := O.1 ▸ O.2.1
theorem Meets.of {y : MethodName} {bytes : ByteArray} {maxL : Nat} {ret : Option FieldType} {ws : List Jvm.Cond} {rm : Room} {as' : Array Value} (hx : plainFor y = true) {F : MethodId → JFrame} (hF : ∀ m, entryFrame m as' maxL = F m)
    (body : ∀ p e s m below meth c T, p.tables.exec = Jvm.exec → c.code = bytes → c.maxLocals = maxL → s.vm.findClass y.cls = some m.cls → meth.name = y.name → meth.sig.returnType = ret → meth.locks = false → Z.Warmed39 s.vm →
      Stand p l e rm s m as' below meth c T [] 0 0 → T.heap = h → Goes p e below (fun o t L => FrameEnd s o t L kc ks) n0 Q (T.setTop (F m))) :
    Meets l y bytes maxL ret ws rm kc ks Z as' h n0 Q := by
  refine MetFree.of_bodySF hx hisR ?_
  intro p e s m args below meth c s₁ Bd hml hP hK
  obtain ⟨rfl, hZ, hh⟩ := hP
  have X0 : Stand p l e rm s m args below meth c s₁ [] 0 0 := Stand.of_body Bd
  have e0 : s₁.heap = h := by rw [← hh, Bd.state]; rfl
  obtain ⟨s₂, o, k, r⟩ := body p e s m below meth c s₁ Bd.exec Bd.bytes hml (findClass_of_methodNamed Bd.named) (name_of_methodNamed Bd.named Bd.method).1 Bd.returns Bd.notSynchronized hZ X0 e0
  exact ⟨s₂, o, castTop (hF m) k, r⟩
theorem own_iloadN (X : Stand p l e R s m args below meth c T locs cells slots) (hx : p.tables.exec = Jvm.exec) {k : Fin 4} {v : Int32} (hd : decode c.code pc = .ok (.iload_n k, 1)) (hl : Ls[k.val]? = some (.val (.int v)))
    (g : Goes p e below FE n0 Q (T.setTop (mkF m (pc + 1) Ls (.int v :: st)))) : Goes p e below FE n0 Q (T.setTop (mkF m pc Ls st)) :=
  Goes.via (fun _ k => XS.iloadN X.here hx rfl hd hl k) g
theorem own_iload (X : Stand p l e R s m args below meth c T locs cells slots) (hx : p.tables.exec = Jvm.exec) {k : Nat} {v : Int32} (hd : decode c.code pc = .ok (.iload k, 2)) (hl : Ls[k]? = some (.val (.int v)))
    (g : Goes p e below FE n0 Q (T.setTop (mkF m (pc + 2) Ls (.int v :: st)))) : Goes p e below FE n0 Q (T.setTop (mkF m pc Ls st)) :=
  Goes.via (fun _ k => XS.iload X.here hx rfl hd hl k) g
theorem own_istoreN (X : Stand p l e R s m args below meth c T locs cells slots) (hx : p.tables.exec = Jvm.exec) {k : Fin 4} {x : Int32} (hd : decode c.code pc = .ok (.istore_n k, 1)) (hl : storeLocals Ls k.val (.int x) = some Ls')
    (g : Goes p e below FE n0 Q (T.setTop (mkF m (pc + 1) Ls' st))) : Goes p e below FE n0 Q (T.setTop (mkF m pc Ls (.int x :: st))) :=
  Goes.via (fun _ k => XS.istoreN X.here hx rfl hd rfl hl k) g
theorem own_istore (X : Stand p l e R s m args below meth c T locs cells slots) (hx : p.tables.exec = Jvm.exec) {k : Nat} {x : Int32} (hd : decode c.code pc = .ok (.istore k, 2)) (hl : storeLocals Ls k (.int x) = some Ls')
    (g : Goes p e below FE n0 Q (T.setTop (mkF m (pc + 2) Ls' st))) : Goes p e below FE n0 Q (T.setTop (mkF m pc Ls (.int x :: st))) :=
  Goes.via (fun _ k => XS.istore X.here hx rfl hd rfl hl k) g
theorem own_lloadN (X : Stand p l e R s m args below meth c T locs cells slots) (hx : p.tables.exec = Jvm.exec) {k : Fin 4} {v : Int64} (hd : decode c.code pc = .ok (.lload_n k, 1)) (hl : Ls[k.val]? = some (.val (.long v)))
    (g : Goes p e below FE n0 Q (T.setTop (mkF m (pc + 1) Ls (.long v :: st)))) : Goes p e below FE n0 Q (T.setTop (mkF m pc Ls st)) :=
  Goes.via (fun _ k => XS.lloadN X.here hx rfl hd hl k) g
theorem own_lload (X : Stand p l e R s m args below meth c T locs cells slots) (hx : p.tables.exec = Jvm.exec) {k : Nat} {v : Int64} (hd : decode c.code pc = .ok (.lload k, 2)) (hl : Ls[k]? = some (.val (.long v)))
    (g : Goes p e below FE n0 Q (T.setTop (mkF m (pc + 2) Ls (.long v :: st)))) : Goes p e below FE n0 Q (T.setTop (mkF m pc Ls st)) :=
  Goes.via (fun _ k => XS.lload X.here hx rfl hd hl k) g
theorem own_lstoreN (X : Stand p l e R s m args below meth c T locs cells slots) (hx : p.tables.exec = Jvm.exec) {k : Fin 4} {x : Int64} (hd : decode c.code pc = .ok (.lstore_n k, 1)) (hl : storeLocals Ls k.val (.long x) = some Ls')
    (g : Goes p e below FE n0 Q (T.setTop (mkF m (pc + 1) Ls' st))) : Goes p e below FE n0 Q (T.setTop (mkF m pc Ls (.long x :: st))) :=
  Goes.via (fun _ k => XS.lstoreN X.here hx rfl hd rfl hl k) g
theorem own_lstore (X : Stand p l e R s m args below meth c T locs cells slots) (hx : p.tables.exec = Jvm.exec) {k : Nat} {x : Int64} (hd : decode c.code pc = .ok (.lstore k, 2)) (hl : storeLocals Ls k (.long x) = some Ls')
    (g : Goes p e below FE n0 Q (T.setTop (mkF m (pc + 2) Ls' st))) : Goes p e below FE n0 Q (T.setTop (mkF m pc Ls (.long x :: st))) :=
  Goes.via (fun _ k => XS.lstore X.here hx rfl hd rfl hl k) g
theorem own_aloadN (X : Stand p l e R s m args below meth c T locs cells slots) (hx : p.tables.exec = Jvm.exec) {k : Fin 4} {v : Value} (hd : decode c.code pc = .ok (.aload_n k, 1)) (hl : Ls[k.val]? = some (.val v)) (hv : v.isRef = true)
    (g : Goes p e below FE n0 Q (T.setTop (mkF m (pc + 1) Ls (v :: st)))) : Goes p e below FE n0 Q (T.setTop (mkF m pc Ls st)) :=
  Goes.via (fun _ k => XS.aloadN X.here hx rfl hd hl hv k) g
theorem own_aload (X : Stand p l e R s m args below meth c T locs cells slots) (hx : p.tables.exec = Jvm.exec) {k : Nat} {v : Value} (hd : decode c.code pc = .ok (.aload k, 2)) (hl : Ls[k]? = some (.val v)) (hv : v.isRef = true)
    (g : Goes p e below FE n0 Q (T.setTop (mkF m (pc + 2) Ls (v :: st)))) : Goes p e below FE n0 Q (T.setTop (mkF m pc Ls st)) :=
  Goes.via (fun _ k => XS.aload X.here hx rfl hd hl hv k) g
theorem own_astoreN (X : Stand p l e R s m args below meth c T locs cells slots) (hx : p.tables.exec = Jvm.exec) {k : Fin 4} {x : Value} (hd : decode c.code pc = .ok (.astore_n k, 1)) (hv : x.isRef = true) (hl : storeLocals Ls k.val x = some Ls')
    (g : Goes p e below FE n0 Q (T.setTop (mkF m (pc + 1) Ls' st))) : Goes p e below FE n0 Q (T.setTop (mkF m pc Ls (x :: st))) :=
  Goes.via (fun _ k => XS.astoreN X.here hx rfl hd rfl hv hl k) g
theorem own_astore (X : Stand p l e R s m args below meth c T locs cells slots) (hx : p.tables.exec = Jvm.exec) {k : Nat} {x : Value} (hd : decode c.code pc = .ok (.astore k, 2)) (hv : x.isRef = true) (hl : storeLocals Ls k x = some Ls')
    (g : Goes p e below FE n0 Q (T.setTop (mkF m (pc + 2) Ls' st))) : Goes p e below FE n0 Q (T.setTop (mkF m pc Ls (x :: st))) :=
  Goes.via (fun _ k => XS.astore X.here hx rfl hd rfl hv hl k) g
theorem own_iconst (X : Stand p l e R s m args below meth c T locs cells slots) (hx : p.tables.exec = Jvm.exec) {i : Int} {v : Int32} (hd : decode c.code pc = .ok (.iconst i, 1)) (hv : Int32.ofInt i = v)
    (g : Goes p e below FE n0 Q (T.setTop (mkF m (pc + 1) Ls (.int v :: st)))) : Goes p e below FE n0 Q (T.setTop (mkF m pc Ls st)) := by
  subst hv
  exact Goes.via (fun _ k => XS.iconst X.here hx rfl hd k) g
theorem own_bipush (X : Stand p l e R s m args below meth c T locs cells slots) (hx : p.tables.exec = Jvm.exec) {i : Int} {v : Int32} (hd : decode c.code pc = .ok (.bipush i, 2)) (hv : (Int8.ofInt i).toInt32 = v)
    (g : Goes p e below FE n0 Q (T.setTop (mkF m (pc + 2) Ls (.int v :: st)))) : Goes p e below FE n0 Q (T.setTop (mkF m pc Ls st)) := by
  subst hv
  exact Goes.via (fun _ k => XS.bipush X.here hx rfl hd k) g
theorem own_sipush (X : Stand p l e R s m args below meth c T locs cells slots) (hx : p.tables.exec = Jvm.exec) {i : Int} {v : Int32} (hd : decode c.code pc = .ok (.sipush i, 3)) (hv : (Int16.ofInt i).toInt32 = v)
    (g : Goes p e below FE n0 Q (T.setTop (mkF m (pc + 3) Ls (.int v :: st)))) : Goes p e below FE n0 Q (T.setTop (mkF m pc Ls st)) := by
  subst hv
  exact Goes.via (fun _ k => XS.sipush X.here hx rfl hd k) g
theorem own_lconst (X : Stand p l e R s m args below meth c T locs cells slots) (hx : p.tables.exec = Jvm.exec) {i : Fin 2} {v : Int64} (hd : decode c.code pc = .ok (.lconst i, 1)) (hv : Int64.ofNat i = v)
    (g : Goes p e below FE n0 Q (T.setTop (mkF m (pc + 1) Ls (.long v :: st)))) : Goes p e below FE n0 Q (T.setTop (mkF m pc Ls st)) := by
  subst hv
  exact Goes.via (fun _ k => XS.lconst X.here hx rfl hd k) g
theorem own_aconst_null (X : Stand p l e R s m args below meth c T locs cells slots) (hx : p.tables.exec = Jvm.exec)  (hd : decode c.code pc = .ok (.aconst_null, 1))
    (g : Goes p e below FE n0 Q (T.setTop (mkF m (pc + 1) Ls (.null :: st)))) : Goes p e below FE n0 Q (T.setTop (mkF m pc Ls st)) :=
  Goes.via (fun _ k => XS.aconstNull X.here hx rfl hd k) g
theorem own_iadd (X : Stand p l e R s m args below meth c T locs cells slots) (hx : p.tables.exec = Jvm.exec) {x y : Int32} (hd : decode c.code pc = .ok (.iadd, 1))
    (g : Goes p e below FE n0 Q (T.setTop (mkF m (pc + 1) Ls (.int (x + y) :: st)))) : Goes p e below FE n0 Q (T.setTop (mkF m pc Ls (.int y :: .int x :: st))) :=
  Goes.via (fun _ k => XS.iadd X.here hx rfl hd rfl k) g
theorem own_isub (X : Stand p l e R s m args below meth c T locs cells slots) (hx : p.tables.exec = Jvm.exec) {x y : Int32} (hd : decode c.code pc = .ok (.isub, 1))
    (g : Goes p e below FE n0 Q (T.setTop (mkF m (pc + 1) Ls (.int (x - y) :: st)))) : Goes p e below FE n0 Q (T.setTop (mkF m pc Ls (.int y :: .int x :: st))) :=
  Goes.via (fun _ k => XS.isub X.here hx rfl hd rfl k) g
theorem own_imul (X : Stand p l e R s m args below meth c T locs cells slots) (hx : p.tables.exec = Jvm.exec) {x y : Int32} (hd : decode c.code pc = .ok (.imul, 1))
    (g : Goes p e below FE n0 Q (T.setTop (mkF m (pc + 1) Ls (.int (x * y) :: st)))) : Goes p e below FE n0 Q (T.setTop (mkF m pc Ls (.int y :: .int x :: st))) :=
  Goes.via (fun _ k => XS.imul X.here hx rfl hd rfl k) g
theorem own_iand (X : Stand p l e R s m args below meth c T locs cells slots) (hx : p.tables.exec = Jvm.exec) {x y : Int32} (hd : decode c.code pc = .ok (.iand, 1))
    (g : Goes p e below FE n0 Q (T.setTop (mkF m (pc + 1) Ls (.int (x &&& y) :: st)))) : Goes p e below FE n0 Q (T.setTop (mkF m pc Ls (.int y :: .int x :: st))) :=
  Goes.via (fun _ k => XS.iand X.here hx rfl hd rfl k) g
theorem own_ior (X : Stand p l e R s m args below meth c T locs cells slots) (hx : p.tables.exec = Jvm.exec) {x y : Int32} (hd : decode c.code pc = .ok (.ior, 1))
    (g : Goes p e below FE n0 Q (T.setTop (mkF m (pc + 1) Ls (.int (x ||| y) :: st)))) : Goes p e below FE n0 Q (T.setTop (mkF m pc Ls (.int y :: .int x :: st))) :=
  Goes.via (fun _ k => XS.ior X.here hx rfl hd rfl k) g
theorem own_ixor (X : Stand p l e R s m args below meth c T locs cells slots) (hx : p.tables.exec = Jvm.exec) {x y : Int32} (hd : decode c.code pc = .ok (.ixor, 1))
    (g : Goes p e below FE n0 Q (T.setTop (mkF m (pc + 1) Ls (.int (x ^^^ y) :: st)))) : Goes p e below FE n0 Q (T.setTop (mkF m pc Ls (.int y :: .int x :: st))) :=
  Goes.via (fun _ k => XS.ixor X.here hx rfl hd rfl k) g
theorem own_idiv (X : Stand p l e R s m args below meth c T locs cells slots) (hx : p.tables.exec = Jvm.exec) {x y : Int32} (hd : decode c.code pc = .ok (.idiv, 1)) (hy : y ≠ 0)
    (g : Goes p e below FE n0 Q (T.setTop (mkF m (pc + 1) Ls (.int (x / y) :: st)))) : Goes p e below FE n0 Q (T.setTop (mkF m pc Ls (.int y :: .int x :: st))) :=
  Goes.via (fun _ k => XS.idiv X.here hx rfl hd rfl hy k) g
theorem own_ineg (X : Stand p l e R s m args below meth c T locs cells slots) (hx : p.tables.exec = Jvm.exec) {x : Int32} (hd : decode c.code pc = .ok (.ineg, 1))
    (g : Goes p e below FE n0 Q (T.setTop (mkF m (pc + 1) Ls (.int (-x) :: st)))) : Goes p e below FE n0 Q (T.setTop (mkF m pc Ls (.int x :: st))) :=
  Goes.via (fun _ k => XS.ineg X.here hx rfl hd rfl k) g
theorem own_ladd (X : Stand p l e R s m args below meth c T locs cells slots) (hx : p.tables.exec = Jvm.exec) {x y : Int64} (hd : decode c.code pc = .ok (.ladd, 1))
    (g : Goes p e below FE n0 Q (T.setTop (mkF m (pc + 1) Ls (.long (x + y) :: st)))) : Goes p e below FE n0 Q (T.setTop (mkF m pc Ls (.long y :: .long x :: st))) :=
  Goes.via (fun _ k => XS.ladd X.here hx rfl hd rfl k) g
theorem own_lsub (X : Stand p l e R s m args below meth c T locs cells slots) (hx : p.tables.exec = Jvm.exec) {x y : Int64} (hd : decode c.code pc = .ok (.lsub, 1))
    (g : Goes p e below FE n0 Q (T.setTop (mkF m (pc + 1) Ls (.long (x - y) :: st)))) : Goes p e below FE n0 Q (T.setTop (mkF m pc Ls (.long y :: .long x :: st))) :=
  Goes.via (fun _ k => XS.lsub X.here hx rfl hd rfl k) g
theorem own_lmul (X : Stand p l e R s m args below meth c T locs cells slots) (hx : p.tables.exec = Jvm.exec) {x y : Int64} (hd : decode c.code pc = .ok (.lmul, 1))
    (g : Goes p e below FE n0 Q (T.setTop (mkF m (pc + 1) Ls (.long (x * y) :: st)))) : Goes p e below FE n0 Q (T.setTop (mkF m pc Ls (.long y :: .long x :: st))) :=
  Goes.via (fun _ k => XS.lmul X.here hx rfl hd rfl k) g
theorem own_land (X : Stand p l e R s m args below meth c T locs cells slots) (hx : p.tables.exec = Jvm.exec) {x y : Int64} (hd : decode c.code pc = .ok (.land, 1))
    (g : Goes p e below FE n0 Q (T.setTop (mkF m (pc + 1) Ls (.long (x &&& y) :: st)))) : Goes p e below FE n0 Q (T.setTop (mkF m pc Ls (.long y :: .long x :: st))) :=
  Goes.via (fun _ k => XS.land X.here hx rfl hd rfl k) g
theorem own_lor (X : Stand p l e R s m args below meth c T locs cells slots) (hx : p.tables.exec = Jvm.exec) {x y : Int64} (hd : decode c.code pc = .ok (.lor, 1))
    (g : Goes p e below FE n0 Q (T.setTop (mkF m (pc + 1) Ls (.long (x ||| y) :: st)))) : Goes p e below FE n0 Q (T.setTop (mkF m pc Ls (.long y :: .long x :: st))) :=
  Goes.via (fun _ k => XS.lor X.here hx rfl hd rfl k) g
theorem own_lxor (X : Stand p l e R s m args below meth c T locs cells slots) (hx : p.tables.exec = Jvm.exec) {x y : Int64} (hd : decode c.code pc = .ok (.lxor, 1))
    (g : Goes p e below FE n0 Q (T.setTop (mkF m (pc + 1) Ls (.long (x ^^^ y) :: st)))) : Goes p e below FE n0 Q (T.setTop (mkF m pc Ls (.long y :: .long x :: st))) :=
  Goes.via (fun _ k => XS.lxor X.here hx rfl hd rfl k) g
theorem own_ldiv (X : Stand p l e R s m args below meth c T locs cells slots) (hx : p.tables.exec = Jvm.exec) {x y : Int64} (hd : decode c.code pc = .ok (.ldiv, 1)) (hy : y ≠ 0)
    (g : Goes p e below FE n0 Q (T.setTop (mkF m (pc + 1) Ls (.long (x / y) :: st)))) : Goes p e below FE n0 Q (T.setTop (mkF m pc Ls (.long y :: .long x :: st))) :=
  Goes.via (fun _ k => XS.ldiv X.here hx rfl hd rfl hy k) g
theorem own_lneg (X : Stand p l e R s m args below meth c T locs cells slots) (hx : p.tables.exec = Jvm.exec) {x : Int64} (hd : decode c.code pc = .ok (.lneg, 1))
    (g : Goes p e below FE n0 Q (T.setTop (mkF m (pc + 1) Ls (.long (-x) :: st)))) : Goes p e below FE n0 Q (T.setTop (mkF m pc Ls (.long x :: st))) :=
  Goes.via (fun _ k => XS.lneg X.here hx rfl hd rfl k) g
theorem own_irem (X : Stand p l e R s m args below meth c T locs cells slots) (hx : p.tables.exec = Jvm.exec) {x y : Int32} (hd : decode c.code pc = .ok (.irem, 1)) (hy : y ≠ 0)
    (g : Goes p e below FE n0 Q (T.setTop (mkF m (pc + 1) Ls (.int (x % y) :: st)))) : Goes p e below FE n0 Q (T.setTop (mkF m pc Ls (.int y :: .int x :: st))) :=
  Goes.via (fun _ k => iremM (g := mkF m pc Ls (.int y :: .int x :: st)) X hx rfl hd rfl hy k) g
theorem own_lrem (X : Stand p l e R s m args below meth c T locs cells slots) (hx : p.tables.exec = Jvm.exec) {x y : Int64} (hd : decode c.code pc = .ok (.lrem, 1)) (hy : y ≠ 0)
    (g : Goes p e below FE n0 Q (T.setTop (mkF m (pc + 1) Ls (.long (x % y) :: st)))) : Goes p e below FE n0 Q (T.setTop (mkF m pc Ls (.long y :: .long x :: st))) := by
  rw [← lrem_mod] at g
  exact Goes.via (fun _ k => XS.lrem X.here hx rfl hd rfl hy k) g
theorem own_ishl (X : Stand p l e R s m args below meth c T locs cells slots) (hx : p.tables.exec = Jvm.exec) {x y : Int32} (hd : decode c.code pc = .ok (.ishl, 1))
    (g : Goes p e below FE n0 Q (T.setTop (mkF m (pc + 1) Ls (.int (x <<< (y &&& 31)) :: st)))) : Goes p e below FE n0 Q (T.setTop (mkF m pc Ls (.int y :: .int x :: st))) :=
  Goes.via (fun _ k => XS.ishl X.here hx rfl hd rfl k) g
theorem own_ishr (X : Stand p l e R s m args below meth c T locs cells slots) (hx : p.tables.exec = Jvm.exec) {x y : Int32} (hd : decode c.code pc = .ok (.ishr, 1))
    (g : Goes p e below FE n0 Q (T.setTop (mkF m (pc + 1) Ls (.int (x >>> (y &&& 31)) :: st)))) : Goes p e below FE n0 Q (T.setTop (mkF m pc Ls (.int y :: .int x :: st))) :=
  Goes.via (fun _ k => XS.ishr X.here hx rfl hd rfl k) g
theorem own_iushr (X : Stand p l e R s m args below meth c T locs cells slots) (hx : p.tables.exec = Jvm.exec) {x y : Int32} (hd : decode c.code pc = .ok (.iushr, 1))
    (g : Goes p e below FE n0 Q (T.setTop (mkF m (pc + 1) Ls (.int ((x.toUInt32 >>> (y &&& 31).toUInt32).toInt32) :: st)))) : Goes p e below FE n0 Q (T.setTop (mkF m pc Ls (.int y :: .int x :: st))) :=
  Goes.via (fun _ k => XS.iushr X.here hx rfl hd rfl k) g
theorem own_lshl (X : Stand p l e R s m args below meth c T locs cells slots) (hx : p.tables.exec = Jvm.exec) {x : Int64} {y : Int32} (hd : decode c.code pc = .ok (.lshl, 1))
    (g : Goes p e below FE n0 Q (T.setTop (mkF m (pc + 1) Ls (.long (x <<< (y &&& 0x3f).toInt64) :: st)))) : Goes p e below FE n0 Q (T.setTop (mkF m pc Ls (.int y :: .long x :: st))) :=
  Goes.via (fun _ k => by jvm_step X.here [X.here.top, hx, hd]; first | exact k | simpa [mkF] using k) g
theorem own_lshr (X : Stand p l e R s m args below meth c T locs cells slots) (hx : p.tables.exec = Jvm.exec) {x : Int64} {y : Int32} (hd : decode c.code pc = .ok (.lshr, 1))
    (g : Goes p e below FE n0 Q (T.setTop (mkF m (pc + 1) Ls (.long (x >>> (y &&& 0x3f).toInt64) :: st)))) : Goes p e below FE n0 Q (T.setTop (mkF m pc Ls (.int y :: .long x :: st))) :=
  Goes.via (fun _ k => by jvm_step X.here [X.here.top, hx, hd]; first | exact k | simpa [mkF] using k) g
theorem own_lushr (X : Stand p l e R s m args below meth c T locs cells slots) (hx : p.tables.exec = Jvm.exec) {x : Int64} {y : Int32} (hd : decode c.code pc = .ok (.lushr, 1))
    (g : Goes p e below FE n0 Q (T.setTop (mkF m (pc + 1) Ls (.long ((x.toUInt64 >>> (y &&& 0x3f).toInt64.toUInt64).toInt64) :: st)))) : Goes p e below FE n0 Q (T.setTop (mkF m pc Ls (.int y :: .long x :: st))) :=
  Goes.via (fun _ k => by jvm_step X.here [X.here.top, hx, hd]; first | exact k | simpa [mkF] using k) g
theorem own_i2l (X : Stand p l e R s m args below meth c T locs cells slots) (hx : p.tables.exec = Jvm.exec) {x : Int32} (hd : decode c.code pc = .ok (.i2l, 1))
    (g : Goes p e below FE n0 Q (T.setTop (mkF m (pc + 1) Ls (.long (x.toInt64) :: st)))) : Goes p e below FE n0 Q (T.setTop (mkF m pc Ls (.int x :: st))) :=
  Goes.via (fun _ k => XS.i2l X.here hx rfl hd rfl k) g
theorem own_l2i (X : Stand p l e R s m args below meth c T locs cells slots) (hx : p.tables.exec = Jvm.exec) {x : Int64} (hd : decode c.code pc = .ok (.l2i, 1))
    (g : Goes p e below FE n0 Q (T.setTop (mkF m (pc + 1) Ls (.int (x.toInt32) :: st)))) : Goes p e below FE n0 Q (T.setTop (mkF m pc Ls (.long x :: st))) :=
  Goes.via (fun _ k => XS.l2i X.here hx rfl hd rfl k) g
theorem own_i2b (X : Stand p l e R s m args below meth c T locs cells slots) (hx : p.tables.exec = Jvm.exec) {x : Int32} (hd : decode c.code pc = .ok (.i2b, 1))
    (g : Goes p e below FE n0 Q (T.setTop (mkF m (pc + 1) Ls (.int (x.toInt8.toInt32) :: st)))) : Goes p e below FE n0 Q (T.setTop (mkF m pc Ls (.int x :: st))) :=
  Goes.via (fun _ k => XS.i2b X.here hx rfl hd rfl k) g
theorem own_i2s (X : Stand p l e R s m args below meth c T locs cells slots) (hx : p.tables.exec = Jvm.exec) {x : Int32} (hd : decode c.code pc = .ok (.i2s, 1))
    (g : Goes p e below FE n0 Q (T.setTop (mkF m (pc + 1) Ls (.int (x.toInt16.toInt32) :: st)))) : Goes p e below FE n0 Q (T.setTop (mkF m pc Ls (.int x :: st))) :=
  Goes.via (fun _ k => XS.i2s X.here hx rfl hd rfl k) g
theorem own_i2c (X : Stand p l e R s m args below meth c T locs cells slots) (hx : p.tables.exec = Jvm.exec) {x : Int32} (hd : decode c.code pc = .ok (.i2c, 1))
    (g : Goes p e below FE n0 Q (T.setTop (mkF m (pc + 1) Ls (.int (x.toUInt32.toUInt16.toUInt32.toInt32) :: st)))) : Goes p e below FE n0 Q (T.setTop (mkF m pc Ls (.int x :: st))) :=
  Goes.via (fun _ k => XS.i2c X.here hx rfl hd rfl k) g
theorem own_lcmp (X : Stand p l e R s m args below meth c T locs cells slots) (hx : p.tables.exec = Jvm.exec) {x y : Int64} (hd : decode c.code pc = .ok (.lcmp, 1))
    (g : Goes p e below FE n0 Q (T.setTop (mkF m (pc + 1) Ls (.int (lcmpW x y) :: st)))) : Goes p e below FE n0 Q (T.setTop (mkF m pc Ls (.long y :: .long x :: st))) :=
  Goes.via (fun _ k => XS.lcmp X.here hx rfl hd rfl k) g
theorem own_dup (X : Stand p l e R s m args below meth c T locs cells slots) (hx : p.tables.exec = Jvm.exec) {x : Value} (hd : decode c.code pc = .ok (.dup, 1)) (hc : x.category = 1)
    (g : Goes p e below FE n0 Q (T.setTop (mkF m (pc + 1) Ls (x :: x :: st)))) : Goes p e below FE n0 Q (T.setTop (mkF m pc Ls (x :: st))) :=
  Goes.via (fun _ k => XS.dup X.here hx rfl hd rfl hc k) g
theorem own_pop (X : Stand p l e R s m args below meth c T locs cells slots) (hx : p.tables.exec = Jvm.exec) {x : Value} (hd : decode c.code pc = .ok (.pop, 1)) (hc : x.category = 1)
    (g : Goes p e below FE n0 Q (T.setTop (mkF m (pc + 1) Ls st))) : Goes p e below FE n0 Q (T.setTop (mkF m pc Ls (x :: st))) :=
  Goes.via (fun _ k => XS.pop X.here hx rfl hd rfl hc k) g
theorem own_dup_x1 (X : Stand p l e R s m args below meth c T locs cells slots) (hx : p.tables.exec = Jvm.exec) {x y : Value} (hd : decode c.code pc = .ok (.dup_x1, 1)) (hc : x.category = 1) (hc' : y.category = 1)
    (g : Goes p e below FE n0 Q (T.setTop (mkF m (pc + 1) Ls (x :: y :: x :: st)))) : Goes p e below FE n0 Q (T.setTop (mkF m pc Ls (x :: y :: st))) :=
  Goes.via (fun _ k => XS.dupX1 X.here hx rfl hd rfl hc hc' k) g
theorem own_dup2 (X : Stand p l e R s m args below meth c T locs cells slots) (hx : p.tables.exec = Jvm.exec) {x y : Value} (hd : decode c.code pc = .ok (.dup2, 1)) (hc : x.category = 1) (hc' : y.category = 1)
    (g : Goes p e below FE n0 Q (T.setTop (mkF m (pc + 1) Ls (x :: y :: x :: y :: st)))) : Goes p e below FE n0 Q (T.setTop (mkF m pc Ls (x :: y :: st))) :=
  Goes.via (fun _ k => Jvm.Free.XT.dup2 X.here hx rfl hd rfl hc hc' k) g
theorem own_iinc (X : Stand p l e R s m args below meth c T locs cells slots) (hx : p.tables.exec = Jvm.exec) {k : Nat} {cst : Int} {x : Int32} (hd : decode c.code pc = .ok (.iinc k cst, 3)) (hl : Ls[k]? = some (.val (.int x))) (hl' : storeLocals Ls k (.int (x + Int32.ofInt cst)) = some Ls')
    (g : Goes p e below FE n0 Q (T.setTop (mkF m (pc + 3) Ls' st))) : Goes p e below FE n0 Q (T.setTop (mkF m pc Ls st)) :=
  Goes.via (fun _ k => XS.iinc X.here hx rfl hd hl hl' k) g
theorem own_goto (X : Stand p l e R s m args below meth c T locs cells slots) (hx : p.tables.exec = Jvm.exec) {o : Int} (hd : decode c.code pc = .ok (.goto o, 3)) (ho : 0 ≤ (pc : Int) + o) (hp : ((pc : Int) + o).toNat = pc')
    (g : Goes p e below FE n0 Q (T.setTop (mkF m pc' Ls st))) : Goes p e below FE n0 Q (T.setTop (mkF m pc Ls st)) :=
  Goes.via (fun _ k => XS.goto X.here hx rfl rfl hd ho hp k) g
theorem own_ifYes (X : Stand p l e R s m args below meth c T locs cells slots) (hx : p.tables.exec = Jvm.exec) {cd : ClassFile.Cond} {o : Int} {x : Int32} (hd : decode c.code pc = .ok (.ifCond cd o, 3)) (hc : ifCond.holds cd x = true) (ho : 0 ≤ (pc : Int) + o) (hp : ((pc : Int) + o).toNat = pc')
    (g : Goes p e below FE n0 Q (T.setTop (mkF m pc' Ls st))) : Goes p e below FE n0 Q (T.setTop (mkF m pc Ls (.int x :: st))) :=
  Goes.via (fun _ k => XS.ifYes X.here hx rfl rfl hd rfl hc ho hp k) g
theorem own_ifNo (X : Stand p l e R s m args below meth c T locs cells slots) (hx : p.tables.exec = Jvm.exec) {cd : ClassFile.Cond} {o : Int} {x : Int32} (hd : decode c.code pc = .ok (.ifCond cd o, 3)) (hc : ifCond.holds cd x = false)
    (g : Goes p e below FE n0 Q (T.setTop (mkF m (pc + 3) Ls st))) : Goes p e below FE n0 Q (T.setTop (mkF m pc Ls (.int x :: st))) :=
  Goes.via (fun _ k => XS.ifNo X.here hx rfl hd rfl hc k) g
theorem own_icmpYes (X : Stand p l e R s m args below meth c T locs cells slots) (hx : p.tables.exec = Jvm.exec) {cd : ClassFile.Cond} {o : Int} {x y : Int32} (hd : decode c.code pc = .ok (.if_icmp cd o, 3)) (hc : if_icmp.holds cd x y = true) (ho : 0 ≤ (pc : Int) + o) (hp : ((pc : Int) + o).toNat = pc')
    (g : Goes p e below FE n0 Q (T.setTop (mkF m pc' Ls st))) : Goes p e below FE n0 Q (T.setTop (mkF m pc Ls (.int y :: .int x :: st))) :=
  Goes.via (fun _ k => XS.icmpYes X.here hx rfl rfl hd rfl hc ho hp k) g
theorem own_icmpNo (X : Stand p l e R s m args below meth c T locs cells slots) (hx : p.tables.exec = Jvm.exec) {cd : ClassFile.Cond} {o : Int} {x y : Int32} (hd : decode c.code pc = .ok (.if_icmp cd o, 3)) (hc : if_icmp.holds cd x y = false)
    (g : Goes p e below FE n0 Q (T.setTop (mkF m (pc + 3) Ls st))) : Goes p e below FE n0 Q (T.setTop (mkF m pc Ls (.int y :: .int x :: st))) :=
  Goes.via (fun _ k => XS.icmpNo X.here hx rfl hd rfl hc k) g
theorem own_ifnullYes (X : Stand p l e R s m args below meth c T locs cells slots) (hx : p.tables.exec = Jvm.exec) {o : Int} (hd : decode c.code pc = .ok (.ifnull o, 3)) (ho : 0 ≤ (pc : Int) + o) (hp : ((pc : Int) + o).toNat = pc')
    (g : Goes p e below FE n0 Q (T.setTop (mkF m pc' Ls st))) : Goes p e below FE n0 Q (T.setTop (mkF m pc Ls (.null :: st))) :=
  Goes.via (fun _ k => XS.ifnullYes X.here hx rfl rfl hd rfl ho hp k) g
theorem own_ifnullNo (X : Stand p l e R s m args below meth c T locs cells slots) (hx : p.tables.exec = Jvm.exec) {o : Int} {b : Addr} (hd : decode c.code pc = .ok (.ifnull o, 3))
    (g : Goes p e below FE n0 Q (T.setTop (mkF m (pc + 3) Ls st))) : Goes p e below FE n0 Q (T.setTop (mkF m pc Ls (.ref b :: st))) :=
  Goes.via (fun _ k => XS.ifnullNo X.here hx rfl hd rfl k) g
theorem own_ifnonnullYes (X : Stand p l e R s m args below meth c T locs cells slots) (hx : p.tables.exec = Jvm.exec) {o : Int} {b : Addr} (hd : decode c.code pc = .ok (.ifnonnull o, 3)) (ho : 0 ≤ (pc : Int) + o) (hp : ((pc : Int) + o).toNat = pc')
    (g : Goes p e below FE n0 Q (T.setTop (mkF m pc' Ls st))) : Goes p e below FE n0 Q (T.setTop (mkF m pc Ls (.ref b :: st))) :=
  Goes.via (fun _ k => XS.ifnonnullYes X.here hx rfl rfl hd rfl ho hp k) g
theorem own_ifnonnullNo (X : Stand p l e R s m args below meth c T locs cells slots) (hx : p.tables.exec = Jvm.exec) {o : Int} (hd : decode c.code pc = .ok (.ifnonnull o, 3))
    (g : Goes p e below FE n0 Q (T.setTop (mkF m (pc + 3) Ls st))) : Goes p e below FE n0 Q (T.setTop (mkF m pc Ls (.null :: st))) :=
  Goes.via (fun _ k => XS.ifnonnullNo X.here hx rfl hd rfl k) g
theorem own_acmp (X : Stand p l e R s m args below meth c T locs cells slots) (hx : p.tables.exec = Jvm.exec) {cd : ACond} {x y : Value} {o : Int} {same : Bool} (h1 : x.isRef = true) (h2 : y.isRef = true) (hd : decode c.code pc = .ok (.if_acmp cd o, 3)) (hq : decide (x = y) = same) (ho : 0 ≤ (pc : Int) + o) (hp : pc' = if acV cd same = true then ((pc : Int) + o).toNat else pc + 3)
    (g : Goes p e below FE n0 Q (T.setTop (mkF m pc' Ls st))) : Goes p e below FE n0 Q (T.setTop (mkF m pc Ls (y :: x :: st))) :=
  Goes.via (fun _ k => Jvm.RoadKit.acmp (g := mkF m pc Ls (y :: x :: st)) X hx rfl h1 h2 rfl hd rfl hq ho hp k) g
theorem own_tswIn (X : Stand p l e R s m args below meth c T locs cells slots) (hx : p.tables.exec = Jvm.exec) {dflt low high : Int} {offs : Array Int} {len : Nat} {o : Int} {i : Int32} (hd : decode c.code pc = .ok (.tableswitch dflt low high offs, len)) (hin : ¬ (i.toInt < low ∨ i.toInt > high)) (hoff : offs[(i.toInt - low).toNat]? = some o) (ho : 0 ≤ (pc : Int) + o) (hp : ((pc : Int) + o).toNat = pc')
    (g : Goes p e below FE n0 Q (T.setTop (mkF m pc' Ls st))) : Goes p e below FE n0 Q (T.setTop (mkF m pc Ls (.int i :: st))) :=
  Goes.via (fun _ k => XS.tswIn X.here hx rfl rfl hd rfl hin hoff ho hp k) g
theorem own_tswOut (X : Stand p l e R s m args below meth c T locs cells slots) (hx : p.tables.exec = Jvm.exec) {dflt low high : Int} {offs : Array Int} {len : Nat} {i : Int32} (hd : decode c.code pc = .ok (.tableswitch dflt low high offs, len)) (hout : i.toInt < low ∨ i.toInt > high) (ho : 0 ≤ (pc : Int) + dflt) (hp : ((pc : Int) + dflt).toNat = pc')
    (g : Goes p e below FE n0 Q (T.setTop (mkF m pc' Ls st))) : Goes p e below FE n0 Q (T.setTop (mkF m pc Ls (.int i :: st))) :=
  Goes.via (fun _ k => XS.tswOut X.here hx rfl rfl hd rfl hout ho hp k) g
theorem own_ldcInt (X : Stand p l e R s m args below meth c T locs cells slots) (hx : p.tables.exec = Jvm.exec) (hZ : Z.Warmed39 s.vm) {own : String} {index : Nat} (hown : s.vm.findClass own = some m.cls) {v : Int32} (w : (Jvm.Cond.constant own index v).before a0 Z = true) (hd : decode c.code pc = .ok (.ldc index, 2))
    (g : Goes p e below FE n0 Q (T.setTop (mkF m (pc + 2) Ls (.int v :: st)))) : Goes p e below FE n0 Q (T.setTop (mkF m pc Ls st)) :=
  Goes.via (X.ldcInt hx hown (mvT hZ w) (g := mkF m pc Ls st) rfl hd) g
theorem own_ldcwInt (X : Stand p l e R s m args below meth c T locs cells slots) (hx : p.tables.exec = Jvm.exec) (hZ : Z.Warmed39 s.vm) {own : String} {index : Nat} (hown : s.vm.findClass own = some m.cls) {v : Int32} (w : (Jvm.Cond.constant own index v).before a0 Z = true) (hd : decode c.code pc = .ok (.ldc_w index, 3))
    (g : Goes p e below FE n0 Q (T.setTop (mkF m (pc + 3) Ls (.int v :: st)))) : Goes p e below FE n0 Q (T.setTop (mkF m pc Ls st)) :=
  Goes.via (X.ldcwInt hx hown (mvT hZ w) (g := mkF m pc Ls st) rfl hd) g
theorem own_ldc2Long (X : Stand p l e R s m args below meth c T locs cells slots) (hx : p.tables.exec = Jvm.exec) (hZ : Z.Warmed39 s.vm) {own : String} {index : Nat} (hown : s.vm.findClass own = some m.cls) {v : Int64} (w : (Jvm.Cond.constantLong own index v).before a0 Z = true) (hd : decode c.code pc = .ok (.ldc2_w index, 3))
    (g : Goes p e below FE n0 Q (T.setTop (mkF m (pc + 3) Ls (.long v :: st)))) : Goes p e below FE n0 Q (T.setTop (mkF m pc Ls st)) :=
  Goes.via (X.ldc2Long hx hown (mvT hZ w) (g := mkF m pc Ls st) rfl hd) g
theorem own_getF (X : Stand p l e R s m args below meth c T locs cells slots) (hx : p.tables.exec = Jvm.exec) (hZ : Z.Warmed39 s.vm) {own : String} {index : Nat} (hown : s.vm.findClass own = some m.cls) {R0 O n d host : String} (w : ((Jvm.Cond.fieldLink own index R0 n d).before a0 Z = true ∨ (Jvm.Cond.fieldLinkNest own index R0 n d host).before a0 Z = true)) (via : Via Z R0 O n d) (eT : T.heap = h) {a : Addr} {v : Value} (F : Fld Z h a O n d v) (hd : decode c.code pc = .ok (.getfield index, 3))
    (k : ∀ T', Stand p l e R s m args below meth c T' locs cells slots → T'.heap = h → Goes p e below FE n0 Q (T'.setTop (mkF m (pc + 3) Ls (v :: st)))) : Goes p e below FE n0 Q (T.setTop (mkF m pc Ls (.ref a :: st))) := by
  obtain ⟨T', X', e', st'⟩ := getF X hx hZ hown w via eT F (g := mkF m pc Ls (.ref a :: st)) rfl rfl hd
  exact Goes.via st' (k T' X' e')
theorem own_getS (X : Stand p l e R s m args below meth c T locs cells slots) (hx : p.tables.exec = Jvm.exec) (hZ : Z.Warmed39 s.vm) {own : String} {index : Nat} (hown : s.vm.findClass own = some m.cls) {R0 O n d host : String} (w : ((Jvm.Cond.fieldLink own index R0 n d).before a0 Z = true ∨ (Jvm.Cond.fieldLinkNest own index R0 n d host).before a0 Z = true)) (via : Via Z R0 O n d) (eT : T.heap = h) {v : Value} (F : Sta Z h O n d v) (hd : decode c.code pc = .ok (.getstatic index, 3))
    (k : ∀ T', Stand p l e R s m args below meth c T' locs cells slots → T'.heap = h → Goes p e below FE n0 Q (T'.setTop (mkF m (pc + 3) Ls (v :: st)))) : Goes p e below FE n0 Q (T.setTop (mkF m pc Ls st)) := by
  obtain ⟨T', X', e', st'⟩ := getS2 X hx hZ hown w via eT F (g := mkF m pc Ls st) rfl hd
  exact Goes.via st' (k T' X' e')
theorem own_initO (X : Stand p l e R s m args below meth c T locs cells slots) (hx : p.tables.exec = Jvm.exec) (hZ : Z.Warmed39 s.vm) {own : String} {index : Nat} (hown : s.vm.findClass own = some m.cls) (w1 : (Jvm.Cond.methodLink own index Lib.objectInit).before a0 Z = true) (w2 : (Jvm.Cond.instanceMethod Lib.objectInit).before a0 Z = true) (w3 : (Jvm.Cond.code Lib.objectInit ⟨#[0xb1]⟩ 1 none).before a0 Z = true) (eT : T.heap = h) (hsize : Ls.size = c.maxLocals) {a : Addr} (hd : decode c.code pc = .ok (.invokespecial index, 3)) (hf : 1 ≤ R.frames) {W : Nat} (hW : (st.map fun v => v.category).sum ≤ W) (hl : W + 12 ≤ R.locals)
    (k : ∀ T', Stand p l e R s m args below meth c T' locs cells slots → T'.heap = h → Goes p e below FE n0 Q (T'.setTop (mkF m (pc + 3) Ls st))) : Goes p e below FE n0 Q (T.setTop (mkF m pc Ls (.ref a :: st))) := by
  obtain ⟨T', X', e', st'⟩ := initO X hx hZ hown w1 w2 w3 eT (g := mkF m pc Ls (.ref a :: st)) rfl hsize rfl hd hf (W := W) (by show 2 * 0 + _ ≤ _; omega) hl
  exact Goes.via st' (k T' X' e')
theorem own_new (X : Stand p l e R s m args below meth c T locs cells slots) (hx : p.tables.exec = Jvm.exec) (hZ : Z.Warmed39 s.vm) {own : String} {index : Nat} (hown : s.vm.findClass own = some m.cls) {C : String} {nn : Nat} (w : (Jvm.Cond.classLink own index C).before a0 Z = true) (wi : (Jvm.Cond.instantiable C nn).before a0 Z = true) (wz : (Jvm.Cond.initialized C).before a0 Z = true) (eT : T.heap = h) (hd : decode c.code pc = .ok (.new index, 3)) (hc : cells + 1 ≤ R.cells) (hl : slots + nn ≤ R.slots)
    (k : ∀ T' h' b, b = h.size → Stand p l e R s m args below meth c T' locs (cells + 1) (slots + nn) → T'.heap = h' → Ext h h' → Exa Z h' b C → (∀ {O nm d : String} {ty : FieldType}, Laid Z a0 C O nm d → parseFieldDescriptor d = some ty → Fld Z h' b O nm d (defaultValue ty)) → Goes p e below FE n0 Q (T'.setTop (mkF m (pc + 3) Ls (.ref b :: st)))) : Goes p e below FE n0 Q (T.setTop (mkF m pc Ls st)) := by
  obtain ⟨T', h', X', e', E', A', D', -, st'⟩ := newO X hx hZ hown w wi wz eT (g := mkF m pc Ls st) rfl hd hc hl
  exact Goes.via st' (k T' h' _ rfl X' e' E' A' D')
theorem own_putF (X : Stand p l e R s m args below meth c T locs cells slots) (hx : p.tables.exec = Jvm.exec) (hZ : Z.Warmed39 s.vm) {own : String} {index : Nat} (hown : s.vm.findClass own = some m.cls) {R0 O n d host C : String} {kk : Nat} {ty : FieldType} (N : Fr n0 locs) (w : ((Jvm.Cond.fieldLink own index R0 n d).before a0 Z = true ∨ (Jvm.Cond.fieldLinkNest own index R0 n d host).before a0 Z = true)) (via : Via Z R0 O n d) (eT : T.heap = h) {a : Addr} {v old : Value} (F : Fld Z h a O n d old) (E : Exa Z h a C) (L : (Jvm.Cond.lays C O n d).before a0 Z = true ∨ ((Jvm.Cond.laysFinal C O n d).before a0 Z = true ∧ own = O ∧ meth.name = "<init>")) (wi : (Jvm.Cond.instantiable C kk).before a0 Z = true) (hty : parseFieldDescriptor d = some ty) (hn : narrow ty v = v) (hf : fits ty v = true) (hge : n0 ≤ a) (hd : decode c.code pc = .ok (.putfield index, 3))
    (k : ∀ T' h' locs', Stand p l e R s m args below meth c T' locs' cells slots → T'.heap = h' → Fr n0 locs' → Wr h h' a (RoadKit.slotOf Z O n d) v → Goes p e below FE n0 Q (T'.setTop (mkF m (pc + 3) Ls st))) : Goes p e below FE n0 Q (T.setTop (mkF m pc Ls (v :: .ref a :: st))) := by
  obtain ⟨T', h', X', e', W', st'⟩ := putF X hx hZ hown w via eT F E L wi hty hn hf (g := mkF m pc Ls (v :: .ref a :: st)) rfl rfl hd
  exact Goes.via st' (k T' h' _ X' e' (Fr.snoc X' N hge) W')
theorem own_castY (X : Stand p l e R s m args below meth c T locs cells slots) (hx : p.tables.exec = Jvm.exec) (hZ : Z.Warmed39 s.vm) {own : String} {index : Nat} (hown : s.vm.findClass own = some m.cls) {K : String} (w : (Jvm.Cond.classLink own index K).before a0 Z = true) (eT : T.heap = h) {a : Addr} (F : Ins Z h a K true) (hd : decode c.code pc = .ok (.checkcast index, 3))
    (k : ∀ T', Stand p l e R s m args below meth c T' locs cells slots → T'.heap = h → Goes p e below FE n0 Q (T'.setTop (mkF m (pc + 3) Ls (.ref a :: st)))) : Goes p e below FE n0 Q (T.setTop (mkF m pc Ls (.ref a :: st))) := by
  obtain ⟨T', X', e', st'⟩ := castY X hx hZ hown w eT F (g := mkF m pc Ls (.ref a :: st)) rfl rfl hd
  exact Goes.via st' (k T' X' e')
theorem own_castNull (X : Stand p l e R s m args below meth c T locs cells slots) (hx : p.tables.exec = Jvm.exec) {index : Nat} (hd : decode c.code pc = .ok (.checkcast index, 3))
    (g : Goes p e below FE n0 Q (T.setTop (mkF m (pc + 3) Ls (.null :: st)))) : Goes p e below FE n0 Q (T.setTop (mkF m pc Ls (.null :: st))) :=
  Goes.via (X.checkcastNull hx (g := mkF m pc Ls (.null :: st)) rfl rfl hd) g
theorem own_instNull (X : Stand p l e R s m args below meth c T locs cells slots) (hx : p.tables.exec = Jvm.exec) {index : Nat} (hd : decode c.code pc = .ok (.instanceof index, 3))
    (g : Goes p e below FE n0 Q (T.setTop (mkF m (pc + 3) Ls (.int 0 :: st)))) : Goes p e below FE n0 Q (T.setTop (mkF m pc Ls (.null :: st))) :=
  Goes.via (X.instanceofNull hx (g := mkF m pc Ls (.null :: st)) rfl rfl hd) g
theorem own_instY (X : Stand p l e R s m args below meth c T locs cells slots) (hx : p.tables.exec = Jvm.exec) (hZ : Z.Warmed39 s.vm) {own : String} {index : Nat} (hown : s.vm.findClass own = some m.cls) {K : String} (w : (Jvm.Cond.classLink own index K).before a0 Z = true) (eT : T.heap = h) {a : Addr} (F : Ins Z h a K true) (hd : decode c.code pc = .ok (.instanceof index, 3))
    (k : ∀ T', Stand p l e R s m args below meth c T' locs cells slots → T'.heap = h → Goes p e below FE n0 Q (T'.setTop (mkF m (pc + 3) Ls (.int 1 :: st)))) : Goes p e below FE n0 Q (T.setTop (mkF m pc Ls (.ref a :: st))) := by
  obtain ⟨T', X', e', st'⟩ := instY X hx hZ hown w eT F (g := mkF m pc Ls (.ref a :: st)) rfl rfl hd
  exact Goes.via st' (k T' X' e')
theorem own_instN (X : Stand p l e R s m args below meth c T locs cells slots) (hx : p.tables.exec = Jvm.exec) (hZ : Z.Warmed39 s.vm) {own : String} {index : Nat} (hown : s.vm.findClass own = some m.cls) {K C : String} (w : (Jvm.Cond.classLink own index K).before a0 Z = true) (eT : T.heap = h) {a : Addr} (E : Exa Z h a C) (F : ∃ c t, Z.vm.findClass C = some c ∧ Z.vm.findClass K = some t ∧ Z.vm.assignable c t = false) (hd : decode c.code pc = .ok (.instanceof index, 3))
    (k : ∀ T', Stand p l e R s m args below meth c T' locs cells slots → T'.heap = h → Goes p e below FE n0 Q (T'.setTop (mkF m (pc + 3) Ls (.int 0 :: st)))) : Goes p e below FE n0 Q (T.setTop (mkF m pc Ls (.ref a :: st))) := by
  obtain ⟨T', X', e', st'⟩ := instNo X hx hZ hown w eT E F (g := mkF m pc Ls (.ref a :: st)) rfl rfl hd
  exact Goes.via st' (k T' X' e')
theorem own_lsw (X : Stand p l e R s m args below meth c T locs cells slots) (hx : p.tables.exec = Jvm.exec) {dflt : Int} {prs : Array (Int × Int)} {len : Nat} {o kk : Int} {i : Int32} (hd : decode c.code pc = .ok (.lookupswitch dflt prs, len)) (hso : (prs.toList.zip (prs.toList.drop 1)).all (fun (a, next) => a.1 < next.1) = true) (hf : prs.find? (·.1 == i.toInt) = some (kk, o)) (ho : 0 ≤ (pc : Int) + o) (hp : ((pc : Int) + o).toNat = pc')
    (g : Goes p e below FE n0 Q (T.setTop (mkF m pc' Ls st))) : Goes p e below FE n0 Q (T.setTop (mkF m pc Ls (.int i :: st))) := by
  subst hp
  exact Goes.via (X.lookupswitchHit hx (g := mkF m pc Ls (.int i :: st)) rfl rfl hd hso hf ho) g
theorem own_clone (X : Stand p l e R s m args below meth c T locs cells slots) (hx : p.tables.exec = Jvm.exec) (hZ : Z.Warmed39 s.vm) {own : String} {index : Nat} (hown : s.vm.findClass own = some m.cls) {ad : String} (w1 : (Jvm.Cond.methodLink own index ⟨ad, "clone", "()Ljava/lang/Object;"⟩).before a0 Z = true) (w2 : (Jvm.Cond.sameMethod ad "java/lang/Object" "clone" "()Ljava/lang/Object;").before a0 Z = true) (w3 : (Jvm.Cond.native ⟨"java/lang/Object", "clone", "()Ljava/lang/Object;"⟩).before a0 Z = true) (w4 : (Jvm.Cond.instanceMethod ⟨"java/lang/Object", "clone", "()Ljava/lang/Object;"⟩).before a0 Z = true) (w5 : (Jvm.Cond.selects ad ⟨ad, "clone", "()Ljava/lang/Object;"⟩ ⟨"java/lang/Object", "clone", "()Ljava/lang/Object;"⟩).before a0 Z = true) (w6 : (Jvm.Cond.castable ad "java/lang/Cloneable").before a0 Z = true) (eT : T.heap = h) {a : Addr} {k : ClassId} {ty : FieldType} {z : Int32} {vs : List Value} {dv : Value} (F : Arv Z h a k ty z vs dv) (E : Exa Z h a ad) (hsize : Ls.size = c.maxLocals) (hd : decode c.code pc = .ok (.invokevirtual index, 3)) (hf : 1 ≤ R.frames) {W cap : Nat} (hW : (st.map fun v => v.category).sum ≤ W) (hl : W + 14 ≤ R.locals) (hcap : z.toNatClampNeg ≤ cap) (hc : cells + 1 ≤ R.cells) (hsl : slots + cap ≤ R.slots)
    (k : ∀ T' h' b, b = h.size → Stand p l e R s m args below meth c T' locs (cells + 1) (slots + cap) → T'.heap = h' → Ext h h' → Arv Z h' b k ty z vs dv → Exa Z h' b ad → Goes p e below FE n0 Q (T'.setTop (mkF m (pc + 3) Ls (.ref b :: st)))) : Goes p e below FE n0 Q (T.setTop (mkF m pc Ls (.ref a :: st))) := by
  obtain ⟨T', h', X', e', E', A', Ex', st'⟩ := cloneH X hx hZ hown w1 w2 w3 w4 w5 w6 eT F.arh E (g := mkF m pc Ls (.ref a :: st)) rfl hsize rfl hd hf (W := W) (cap := cap) (by show 2 * 0 + _ ≤ _; omega) hl hcap hc hsl
  exact Goes.via st' (k T' h' _ rfl X' e' E' A' Ex')
theorem own_iaload (X : Stand p l e R s m args below meth c T locs cells slots) (hx : p.tables.exec = Jvm.exec) (hZ : Z.Warmed39 s.vm) (eT : T.heap = h) {a : Addr} {k : ClassId} {z j : Int32} {vs : List Value} {dv v : Value} (F : Arv Z h a k .int z vs dv) (hj : ¬ j < 0 ∧ j < z) (hv : vs.getD j.toNatClampNeg dv = v) (hd : decode c.code pc = .ok (.iaload, 1))
    (g : Goes p e below FE n0 Q (T.setTop (mkF m (pc + 1) Ls (v :: st)))) : Goes p e below FE n0 Q (T.setTop (mkF m pc Ls (.int j :: .ref a :: st))) := by
  obtain ⟨cl, A, -, S, -, H, -⟩ := F
  exact Goes.via (fun t k => X.iaload hx (j := j) (v := v) (by rw [eT]; exact A.1) (State.isArrayOf_alike hZ.alike A.2.1) A.2.2 (inb_of S hj) (H.at (inb_of S hj) hv) (g := mkF m pc Ls (.int j :: .ref a :: st)) rfl rfl hd t k) g
theorem own_laload (X : Stand p l e R s m args below meth c T locs cells slots) (hx : p.tables.exec = Jvm.exec) (hZ : Z.Warmed39 s.vm) (eT : T.heap = h) {a : Addr} {k : ClassId} {z j : Int32} {vs : List Value} {dv v : Value} (F : Arv Z h a k .long z vs dv) (hj : ¬ j < 0 ∧ j < z) (hv : vs.getD j.toNatClampNeg dv = v) (hd : decode c.code pc = .ok (.laload, 1))
    (g : Goes p e below FE n0 Q (T.setTop (mkF m (pc + 1) Ls (v :: st)))) : Goes p e below FE n0 Q (T.setTop (mkF m pc Ls (.int j :: .ref a :: st))) := by
  obtain ⟨cl, A, -, S, -, H, -⟩ := F
  exact Goes.via (fun t k => X.laload hx (j := j) (v := v) (by rw [eT]; exact A.1) (State.isArrayOf_alike hZ.alike A.2.1) A.2.2 (inb_of S hj) (H.at (inb_of S hj) hv) (g := mkF m pc Ls (.int j :: .ref a :: st)) rfl rfl hd t k) g
theorem own_caload (X : Stand p l e R s m args below meth c T locs cells slots) (hx : p.tables.exec = Jvm.exec) (hZ : Z.Warmed39 s.vm) (eT : T.heap = h) {a : Addr} {k : ClassId} {z j : Int32} {vs : List Value} {dv v : Value} (F : Arv Z h a k .char z vs dv) (hj : ¬ j < 0 ∧ j < z) (hv : vs.getD j.toNatClampNeg dv = v) (hd : decode c.code pc = .ok (.caload, 1))
    (g : Goes p e below FE n0 Q (T.setTop (mkF m (pc + 1) Ls (v :: st)))) : Goes p e below FE n0 Q (T.setTop (mkF m pc Ls (.int j :: .ref a :: st))) := by
  obtain ⟨cl, A, -, S, -, H, -⟩ := F
  exact Goes.via (fun t k => X.caload hx (j := j) (v := v) (by rw [eT]; exact A.1) (State.isArrayOf_alike hZ.alike A.2.1) A.2.2 (inb_of S hj) (H.at (inb_of S hj) hv) (g := mkF m pc Ls (.int j :: .ref a :: st)) rfl rfl hd t k) g
theorem own_baload (X : Stand p l e R s m args below meth c T locs cells slots) (hx : p.tables.exec = Jvm.exec) (hZ : Z.Warmed39 s.vm) (eT : T.heap = h) {a : Addr} {k : ClassId} {z j : Int32} {vs : List Value} {dv v : Value} (F : Arv Z h a k .byte z vs dv) (hj : ¬ j < 0 ∧ j < z) (hv : vs.getD j.toNatClampNeg dv = v) (hd : decode c.code pc = .ok (.baload, 1))
    (g : Goes p e below FE n0 Q (T.setTop (mkF m (pc + 1) Ls (v :: st)))) : Goes p e below FE n0 Q (T.setTop (mkF m pc Ls (.int j :: .ref a :: st))) := by
  obtain ⟨cl, A, -, S, -, H, -⟩ := F
  exact Goes.via (fun t k => X.baloadBytes hx (j := j) (v := v) (by rw [eT]; exact A.1) (State.isArrayOf_alike hZ.alike A.2.1) A.2.2 (inb_of S hj) (H.at (inb_of S hj) hv) (g := mkF m pc Ls (.int j :: .ref a :: st)) rfl rfl hd t k) g
theorem own_aaload (X : Stand p l e R s m args below meth c T locs cells slots) (hx : p.tables.exec = Jvm.exec) (hZ : Z.Warmed39 s.vm) (eT : T.heap = h) {a : Addr} {k : ClassId} {ty : FieldType} {z j : Int32} {vs : List Value} {dv v : Value} (F : Arv Z h a k ty z vs dv) (hty : ty.isReference = true) (hj : ¬ j < 0 ∧ j < z) (hv : vs.getD j.toNatClampNeg dv = v) (hd : decode c.code pc = .ok (.aaload, 1))
    (g : Goes p e below FE n0 Q (T.setTop (mkF m (pc + 1) Ls (v :: st)))) : Goes p e below FE n0 Q (T.setTop (mkF m pc Ls (.int j :: .ref a :: st))) := by
  obtain ⟨cl, A, -, S, -, H, -⟩ := F
  exact Goes.via (fun t k => X.aaload hx (j := j) (v := v) (by rw [eT]; exact A.1) (State.isArrayOf_alike hZ.alike A.2.1) hty A.2.2 (inb_of S hj) (H.at (inb_of S hj) hv) (g := mkF m pc Ls (.int j :: .ref a :: st)) rfl rfl hd t k) g
theorem own_aaloadC (X : Stand p l e R s m args below meth c T locs cells slots) (hx : p.tables.exec = Jvm.exec) (hZ : Z.Warmed39 s.vm) (eT : T.heap = h) {a : Addr} {cl : Cell} {ty : FieldType} {j : Int32} {v : Value} (A : Arr Z h a cl ty) (hty : ty.isReference = true) (hj : ¬ (j < 0 ∨ cl.slots.size ≤ j.toNatClampNeg)) (hv : cl.slots[j.toNatClampNeg]? = some v) (hd : decode c.code pc = .ok (.aaload, 1))
    (g : Goes p e below FE n0 Q (T.setTop (mkF m (pc + 1) Ls (v :: st)))) : Goes p e below FE n0 Q (T.setTop (mkF m pc Ls (.int j :: .ref a :: st))) :=
  Goes.via (fun t k => X.aaload hx (j := j) (v := v) (by rw [eT]; exact A.1) (State.isArrayOf_alike hZ.alike A.2.1) hty A.2.2 hj hv (g := mkF m pc Ls (.int j :: .ref a :: st)) rfl rfl hd t k) g
theorem own_alen (X : Stand p l e R s m args below meth c T locs cells slots) (hx : p.tables.exec = Jvm.exec) (hZ : Z.Warmed39 s.vm) (eT : T.heap = h) {a : Addr} {k : ClassId} {ty : FieldType} {z : Int32} {vs : List Value} {dv : Value} (F : Arv Z h a k ty z vs dv) (hd : decode c.code pc = .ok (.arraylength, 1))
    (g : Goes p e below FE n0 Q (T.setTop (mkF m (pc + 1) Ls (.int z :: st)))) : Goes p e below FE n0 Q (T.setTop (mkF m pc Ls (.ref a :: st))) := by
  obtain ⟨cl, A, -, S, hz, -, -⟩ := F
  rw [← len_of S hz] at g
  exact Goes.via (fun t k => X.arraylength hx (by rw [eT]; exact A.1) (State.isArrayOf_alike hZ.alike A.2.1) (g := mkF m pc Ls (.ref a :: st)) rfl rfl hd t k) g
theorem own_newP (X : Stand p l e R s m args below meth c T locs cells slots) (hx : p.tables.exec = Jvm.exec) (hZ : Z.Warmed39 s.vm) {aty : ArrayType} (w : (Jvm.Cond.arrayClass (newarray.typeOf aty)).before a0 Z = true) (eT : T.heap = h) {n : Int32} (hd : decode c.code pc = .ok (.newarray aty, 2)) (hn : ¬ n < 0) {cap : Nat} (hcap : n.toNatClampNeg ≤ cap) (hb : cap * 8 ≤ 536870912) (hc : cells + 1 ≤ R.cells) (hl : slots + cap ≤ R.slots)
    (k : ∀ T' h' b cA, b = h.size → Stand p l e R s m args below meth c T' locs (cells + 1) (slots + cap) → T'.heap = h' → Ext h h' → Arv Z h' b cA (newarray.typeOf aty) n [] (defaultValue (newarray.typeOf aty)) → Goes p e below FE n0 Q (T'.setTop (mkF m (pc + 2) Ls (.ref b :: st)))) : Goes p e below FE n0 Q (T.setTop (mkF m pc Ls (.int n :: st))) := by
  obtain ⟨T', h', cA, X', e', E', A', st'⟩ := newP X hx hZ w eT (g := mkF m pc Ls (.int n :: st)) rfl hd rfl hn hcap hb hc hl
  exact Goes.via st' (k T' h' _ cA rfl X' e' E' (Arv.new A' hn))
theorem own_newR (X : Stand p l e R s m args below meth c T locs cells slots) (hx : p.tables.exec = Jvm.exec) (hZ : Z.Warmed39 s.vm) {own : String} {index : Nat} (hown : s.vm.findClass own = some m.cls) {C : String} (w1 : (Jvm.Cond.classLink own index C).before a0 Z = true) (w2 : (Jvm.Cond.arrayOver (.object C)).before a0 Z = true) (eT : T.heap = h) {n : Int32} (hd : decode c.code pc = .ok (.anewarray index, 3)) (hn : ¬ n < 0) {cap : Nat} (hcap : n.toNatClampNeg ≤ cap) (hb : cap * 8 ≤ 536870912) (hc : cells + 1 ≤ R.cells) (hl : slots + cap ≤ R.slots)
    (k : ∀ T' h' b cA, b = h.size → Stand p l e R s m args below meth c T' locs (cells + 1) (slots + cap) → T'.heap = h' → Ext h h' → Arv Z h' b cA (.object C) n [] .null → Ovr Z cA C → Goes p e below FE n0 Q (T'.setTop (mkF m (pc + 3) Ls (.ref b :: st)))) : Goes p e below FE n0 Q (T.setTop (mkF m pc Ls (.int n :: st))) := by
  obtain ⟨T', h', cA, X', e', E', A', O', st'⟩ := newR X hx hZ hown w1 w2 eT (g := mkF m pc Ls (.int n :: st)) rfl hd rfl hn hcap hb hc hl
  exact Goes.via st' (k T' h' _ cA rfl X' e' E' (Arv.new A' hn) O')
theorem own_newPE (X : Stand p l e R s m args below meth c T locs cells slots) (hx : p.tables.exec = Jvm.exec) (hZ : Z.Warmed39 s.vm) {aty : ArrayType} (w : (Jvm.Cond.arrayClass (newarray.typeOf aty)).before a0 Z = true) (eT : T.heap = h) {n : Int32} {ad : String} (had : "[" ++ (newarray.typeOf aty).toString = ad) (hd : decode c.code pc = .ok (.newarray aty, 2)) (hn : ¬ n < 0) {cap : Nat} (hcap : n.toNatClampNeg ≤ cap) (hb : cap * 8 ≤ 536870912) (hc : cells + 1 ≤ R.cells) (hl : slots + cap ≤ R.slots)
    (k : ∀ T' h' b cA, b = h.size → Stand p l e R s m args below meth c T' locs (cells + 1) (slots + cap) → T'.heap = h' → Ext h h' → Arv Z h' b cA (newarray.typeOf aty) n [] (defaultValue (newarray.typeOf aty)) → Exa Z h' b ad → Goes p e below FE n0 Q (T'.setTop (mkF m (pc + 2) Ls (.ref b :: st)))) : Goes p e below FE n0 Q (T.setTop (mkF m pc Ls (.int n :: st))) := by
  obtain ⟨T', h', cA, X', e', E', A', Ex', st'⟩ := newPE X hx hZ w eT (g := mkF m pc Ls (.int n :: st)) rfl hd rfl hn hcap hb hc hl had
  exact Goes.via st' (k T' h' _ cA rfl X' e' E' (Arv.new A' hn) Ex')
theorem own_newRE (X : Stand p l e R s m args below meth c T locs cells slots) (hx : p.tables.exec = Jvm.exec) (hZ : Z.Warmed39 s.vm) {own : String} {index : Nat} (hown : s.vm.findClass own = some m.cls) {C ad : String} (had : "[" ++ (FieldType.object C).toString = ad) (w1 : (Jvm.Cond.classLink own index C).before a0 Z = true) (w2 : (Jvm.Cond.arrayOver (.object C)).before a0 Z = true) (eT : T.heap = h) {n : Int32} (hd : decode c.code pc = .ok (.anewarray index, 3)) (hn : ¬ n < 0) {cap : Nat} (hcap : n.toNatClampNeg ≤ cap) (hb : cap * 8 ≤ 536870912) (hc : cells + 1 ≤ R.cells) (hl : slots + cap ≤ R.slots)
    (k : ∀ T' h' b cA, b = h.size → Stand p l e R s m args below meth c T' locs (cells + 1) (slots + cap) → T'.heap = h' → Ext h h' → Arv Z h' b cA (.object C) n [] .null → Ovr Z cA C → Exa Z h' b ad → Goes p e below FE n0 Q (T'.setTop (mkF m (pc + 3) Ls (.ref b :: st)))) : Goes p e below FE n0 Q (T.setTop (mkF m pc Ls (.int n :: st))) := by
  obtain ⟨T', h', cA, X', e', E', A', Ex', O', st'⟩ := newRE X hx hZ hown w1 w2 eT (g := mkF m pc Ls (.int n :: st)) rfl hd rfl hn hcap hb hc hl had
  exact Goes.via st' (k T' h' _ cA rfl X' e' E' (Arv.new A' hn) O' Ex')
theorem own_newRA (X : Stand p l e R s m args below meth c T locs cells slots) (hx : p.tables.exec = Jvm.exec) (hZ : Z.Warmed39 s.vm) {own : String} {index : Nat} (hown : s.vm.findClass own = some m.cls) {C ad : String} {ty : FieldType} (hC : (FieldType.array ty).toString = C) (had : "[" ++ C = ad) (w1 : (Jvm.Cond.classLink own index C).before a0 Z = true) (w2 : (Jvm.Cond.arrayOver (.array ty)).before a0 Z = true) (eT : T.heap = h) {n : Int32} (hd : decode c.code pc = .ok (.anewarray index, 3)) (hn : ¬ n < 0) {cap : Nat} (hcap : n.toNatClampNeg ≤ cap) (hb : cap * 8 ≤ 536870912) (hc : cells + 1 ≤ R.cells) (hl : slots + cap ≤ R.slots)
    (k : ∀ T' h' b cA, b = h.size → Stand p l e R s m args below meth c T' locs (cells + 1) (slots + cap) → T'.heap = h' → Ext h h' → Arv Z h' b cA (.array ty) n [] .null → OvrA Z cA ty C → Goes p e below FE n0 Q (T'.setTop (mkF m (pc + 3) Ls (.ref b :: st)))) : Goes p e below FE n0 Q (T.setTop (mkF m pc Ls (.int n :: st))) := by
  obtain ⟨T', h', cA, X', e', E', A', Ex', O', st'⟩ := newRA X hx hZ hown hC w1 w2 eT (g := mkF m pc Ls (.int n :: st)) rfl hd rfl hn hcap hb hc hl had
  exact Goes.via st' (k T' h' _ cA rfl X' e' E' (Arv.new A' hn) O')
theorem own_iastore (X : Stand p l e R s m args below meth c T locs cells slots) (hx : p.tables.exec = Jvm.exec) (hZ : Z.Warmed39 s.vm) (N : Fr n0 locs) (eT : T.heap = h) {a : Addr} {k : ClassId} {z j : Int32} {vs : List Value} {dv : Value} {x : Int32} (F : Arv Z h a k .int z vs dv) (hj : ¬ j < 0 ∧ j < z) {i : Nat} (hi : j.toNatClampNeg = i) (hlen : i < vs.length) (hge : n0 ≤ a) (hd : decode c.code pc = .ok (.iastore, 1))
    (k : ∀ T' h' locs', Stand p l e R s m args below meth c T' locs' cells slots → T'.heap = h' → Fr n0 locs' → Wr h h' a j.toNatClampNeg (.int x) → Arv Z h' a k .int z (vs.set i (.int x)) dv → Goes p e below FE n0 Q (T'.setTop (mkF m (pc + 1) Ls st))) : Goes p e below FE n0 Q (T.setTop (mkF m pc Ls (.int x :: .int j :: .ref a :: st))) := by
  obtain ⟨cl, A, q1, S, q3, H, G⟩ := F
  obtain ⟨T', h', X', e', W', st'⟩ := stI X hx hZ eT A (j := j) (inb_of S hj) (g := mkF m pc Ls (.int x :: .int j :: .ref a :: st)) rfl rfl hd
  exact Goes.via st' (k T' h' _ X' e' (Fr.snoc X' N hge) W' (Arv.set A q1 S q3 H G rfl W' i hi hlen))
theorem own_lastore (X : Stand p l e R s m args below meth c T locs cells slots) (hx : p.tables.exec = Jvm.exec) (hZ : Z.Warmed39 s.vm) (N : Fr n0 locs) (eT : T.heap = h) {a : Addr} {k : ClassId} {z j : Int32} {vs : List Value} {dv : Value} {x : Int64} (F : Arv Z h a k .long z vs dv) (hj : ¬ j < 0 ∧ j < z) {i : Nat} (hi : j.toNatClampNeg = i) (hlen : i < vs.length) (hge : n0 ≤ a) (hd : decode c.code pc = .ok (.lastore, 1))
    (k : ∀ T' h' locs', Stand p l e R s m args below meth c T' locs' cells slots → T'.heap = h' → Fr n0 locs' → Wr h h' a j.toNatClampNeg (.long x) → Arv Z h' a k .long z (vs.set i (.long x)) dv → Goes p e below FE n0 Q (T'.setTop (mkF m (pc + 1) Ls st))) : Goes p e below FE n0 Q (T.setTop (mkF m pc Ls (.long x :: .int j :: .ref a :: st))) := by
  obtain ⟨cl, A, q1, S, q3, H, G⟩ := F
  obtain ⟨T', h', X', e', W', st'⟩ := stJ X hx hZ eT A (j := j) (inb_of S hj) (g := mkF m pc Ls (.long x :: .int j :: .ref a :: st)) rfl rfl hd
  exact Goes.via st' (k T' h' _ X' e' (Fr.snoc X' N hge) W' (Arv.set A q1 S q3 H G rfl W' i hi hlen))
theorem own_castore (X : Stand p l e R s m args below meth c T locs cells slots) (hx : p.tables.exec = Jvm.exec) (hZ : Z.Warmed39 s.vm) (N : Fr n0 locs) (eT : T.heap = h) {a : Addr} {k : ClassId} {z j : Int32} {vs : List Value} {dv : Value} {x : Int32} (F : Arv Z h a k .char z vs dv) (hj : ¬ j < 0 ∧ j < z) {i : Nat} (hi : j.toNatClampNeg = i) (hlen : i < vs.length) (hge : n0 ≤ a) (hd : decode c.code pc = .ok (.castore, 1))
    (k : ∀ T' h' locs', Stand p l e R s m args below meth c T' locs' cells slots → T'.heap = h' → Fr n0 locs' → Wr h h' a j.toNatClampNeg (.int (nar .char x)) → Arv Z h' a k .char z (vs.set i (.int (nar .char x))) dv → Goes p e below FE n0 Q (T'.setTop (mkF m (pc + 1) Ls st))) : Goes p e below FE n0 Q (T.setTop (mkF m pc Ls (.int x :: .int j :: .ref a :: st))) := by
  obtain ⟨cl, A, q1, S, q3, H, G⟩ := F
  obtain ⟨T', h', X', e', W', st'⟩ := stC X hx hZ eT A (j := j) (inb_of S hj) (g := mkF m pc Ls (.int x :: .int j :: .ref a :: st)) rfl rfl hd
  exact Goes.via st' (k T' h' _ X' e' (Fr.snoc X' N hge) W' (Arv.set A q1 S q3 H G (fits_nar_char _) W' i hi hlen))
theorem own_bastore (X : Stand p l e R s m args below meth c T locs cells slots) (hx : p.tables.exec = Jvm.exec) (hZ : Z.Warmed39 s.vm) (N : Fr n0 locs) (eT : T.heap = h) {a : Addr} {k : ClassId} {z j : Int32} {vs : List Value} {dv : Value} {x : Int32} (F : Arv Z h a k .byte z vs dv) (hj : ¬ j < 0 ∧ j < z) {i : Nat} (hi : j.toNatClampNeg = i) (hlen : i < vs.length) (hge : n0 ≤ a) (hd : decode c.code pc = .ok (.bastore, 1))
    (k : ∀ T' h' locs', Stand p l e R s m args below meth c T' locs' cells slots → T'.heap = h' → Fr n0 locs' → Wr h h' a j.toNatClampNeg (.int (x.toInt8.toInt32)) → Arv Z h' a k .byte z (vs.set i (.int (x.toInt8.toInt32))) dv → Goes p e below FE n0 Q (T'.setTop (mkF m (pc + 1) Ls st))) : Goes p e below FE n0 Q (T.setTop (mkF m pc Ls (.int x :: .int j :: .ref a :: st))) := by
  obtain ⟨cl, A, q1, S, q3, H, G⟩ := F
  obtain ⟨T', h', X', e', W', st'⟩ := stB X hx hZ eT A (j := j) (inb_of S hj) (g := mkF m pc Ls (.int x :: .int j :: .ref a :: st)) rfl rfl hd
  exact Goes.via st' (k T' h' _ X' e' (Fr.snoc X' N hge) W' (Arv.set A q1 S q3 H G (fits_nar_byte _) W' i hi hlen))
theorem own_aastore (X : Stand p l e R s m args below meth c T locs cells slots) (hx : p.tables.exec = Jvm.exec) (hZ : Z.Warmed39 s.vm) (N : Fr n0 locs) (eT : T.heap = h) {a : Addr} {k : ClassId} {ty : FieldType} {z j : Int32} {vs : List Value} {dv v : Value} (F : Arv Z h a k ty z vs dv) (hty : ty.isReference = true) (hfit : fits ty v = true) (hj : ¬ j < 0 ∧ j < z) {i : Nat} (hi : j.toNatClampNeg = i) (hlen : i < vs.length) (hge : n0 ≤ a) (hst : ∀ cl, Arr Z h a cl ty → cl.cls = k → Sto Z h a v) (hd : decode c.code pc = .ok (.aastore, 1))
    (k : ∀ T' h' locs', Stand p l e R s m args below meth c T' locs' cells slots → T'.heap = h' → Fr n0 locs' → Wr h h' a j.toNatClampNeg v → Arv Z h' a k ty z (vs.set i v) dv → Goes p e below FE n0 Q (T'.setTop (mkF m (pc + 1) Ls st))) : Goes p e below FE n0 Q (T.setTop (mkF m pc Ls (v :: .int j :: .ref a :: st))) := by
  obtain ⟨cl, A, q1, S, q3, H, G⟩ := F
  obtain ⟨T', h', X', e', W', st'⟩ := stR X hx hZ eT A (j := j) (inb_of S hj) hty (hst cl A q1) (g := mkF m pc Ls (v :: .int j :: .ref a :: st)) rfl rfl hd
  exact Goes.via st' (k T' h' _ X' e' (Fr.snoc X' N hge) W' (Arv.set A q1 S q3 H G hfit W' i hi hlen))
theorem own_selfsel {y : MethodName} {nn : Nat} (wi : (Jvm.Cond.instantiable y.cls nn).before a0 Z = true) (w2 : (Jvm.Cond.instanceMethod y).before a0 Z = true) (w6 : (Jvm.Cond.privateMethod y).before a0 Z = true) (hy : y.cls ≠ "java/lang/invoke/MethodHandle" ∧ y.cls ≠ "java/lang/invoke/VarHandle") : (Jvm.Cond.selects y.cls y y).before a0 Z = true := by
  obtain ⟨c, k, h1, h2, -, h4, -⟩ := Cond.instantiable_spec wi
  exact selects_self_of_private h1 h2 (by rw [Bool.or_eq_false_iff] at h4; exact h4.1) (Cond.privateMethod_at w6) w2 hy
theorem own_callS (X : Stand p l e R s m args below meth c T locs cells slots) (hx : p.tables.exec = Jvm.exec) (hZ : Z.Warmed39 s.vm) {own : String} {index : Nat} (hown : s.vm.findClass own = some m.cls) {y : MethodName} {bytes : ByteArray} {maxL : Nat} {ret : Option FieldType} {rm : Room} {W : Nat} {Q' : Option Value → Heap → Prop} (w1 : (Jvm.Cond.methodLink own index y).before a0 Z = true) (w2 : (Jvm.Cond.static y).before a0 Z = true) (w3 : (Jvm.Cond.initialized y.cls).before a0 Z = true) (w4 : (Jvm.Cond.code y bytes maxL ret).before a0 Z = true) (hy : y.cls ≠ "java/lang/invoke/MethodHandle" ∧ y.cls ≠ "java/lang/invoke/VarHandle") (hf : rm.frames + 1 ≤ R.frames) (hl : W + (maxL + 11) + rm.locals ≤ R.locals) (N : Fr n0 locs) (eT : T.heap = h) (hsize : Ls.size = c.maxLocals) {argsL rest : List Value} (hlen : ∀ sig, parseMethodDescriptor y.desc = some sig → argsL.length = sig.parameters.length) (hW : (rest.map fun v => v.category).sum ≤ W) (hc : cells + rm.cells ≤ R.cells) (hs : slots + rm.slots ≤ R.slots) (M : Meets l y bytes maxL ret [] rm rm.cells rm.slots Z argsL.toArray h n0 Q') (hst : st = argsL.reverse ++ rest) (hd : decode c.code pc = .ok (.invokestatic index, 3))
    (k : ∀ v T' locs', Stand p l e R s m args below meth c T' locs' (cells + rm.cells) (slots + rm.slots) → Fr n0 locs' → Q' v T'.heap → Goes p e below FE n0 Q (T'.setTop (mkF m (pc + 3) Ls (v.toList ++ rest)))) : Goes p e below FE n0 Q (T.setTop (mkF m pc Ls st)) := by
  subst hst
  obtain ⟨v, _, ⟨T', L', k', n'⟩, -, X', ⟨Lc, hQ, l1, l2, l3⟩, st'⟩ := Jvm.LawKit.callS X hx (y := y) hown (mvT hZ w1) (mvT hZ w2) (mvT hZ w3) (mvT hZ w4) hy (backOf (W := W) (Q := fun v h L => Fr n0 L ∧ Q' v h) M hZ w4 w3 hf hl) (g := mkF m pc Ls (argsL.reverse ++ rest)) rfl hsize (argsL := argsL) (rest := rest) hlen rfl (by show 2 * 0 + _ ≤ _; omega) hd (fun _ _ => ⟨rfl, eT, hc, hs⟩)
  dsimp only [Pt.U, Pt.locs, Pt.cells, Pt.slots] at X' l1 l2 l3 st' hQ
  subst l1 l2 l3
  exact Goes.via st' (k v T' _ X' (Fr.app N hQ.1) hQ.2)
theorem own_special (X : Stand p l e R s m args below meth c T locs cells slots) (hx : p.tables.exec = Jvm.exec) (hZ : Z.Warmed39 s.vm) {own : String} {index : Nat} (hown : s.vm.findClass own = some m.cls) {y : MethodName} {bytes : ByteArray} {maxL : Nat} {rm : Room} {W : Nat} {Q' : Option Value → Heap → Prop} (hy1 : y.name = "<init>") (w1 : (Jvm.Cond.methodLink own index y).before a0 Z = true) (w2 : (Jvm.Cond.instanceMethod y).before a0 Z = true) (w3 : (Jvm.Cond.initialized y.cls).before a0 Z = true) (w4 : (Jvm.Cond.code y bytes maxL none).before a0 Z = true) {a : Addr} (hy : y.cls ≠ "java/lang/invoke/MethodHandle" ∧ y.cls ≠ "java/lang/invoke/VarHandle") (hf : rm.frames + 1 ≤ R.frames) (hl : W + (maxL + 11) + rm.locals ≤ R.locals) (N : Fr n0 locs) (eT : T.heap = h) (hsize : Ls.size = c.maxLocals) {argsL rest : List Value} (hlen : ∀ sig, parseMethodDescriptor y.desc = some sig → argsL.length = sig.parameters.length) (hW : (rest.map fun v => v.category).sum ≤ W) (hc : cells + rm.cells ≤ R.cells) (hs : slots + rm.slots ≤ R.slots) (M : Meets l y bytes maxL none [] rm rm.cells rm.slots Z (.ref a :: argsL).toArray h n0 Q') (hst : st = argsL.reverse ++ .ref a :: rest) (hd : decode c.code pc = .ok (.invokespecial index, 3))
    (k : ∀ v T' locs', Stand p l e R s m args below meth c T' locs' (cells + rm.cells) (slots + rm.slots) → Fr n0 locs' → Q' v T'.heap → Goes p e below FE n0 Q (T'.setTop (mkF m (pc + 3) Ls (v.toList ++ rest)))) : Goes p e below FE n0 Q (T.setTop (mkF m pc Ls st)) := by
  subst hst
  obtain ⟨v, _, ⟨T', L', k', n'⟩, -, X', ⟨Lc, hQ, l1, l2, l3⟩, st'⟩ := X.specialBack hx (y := y) hy1 hown (mvT hZ w1) (mvT hZ w2) (mvT hZ w4) hy (backOf (W := W) (Q := fun v h L => Fr n0 L ∧ Q' v h) M hZ w4 w3 hf hl) (g := mkF m pc Ls (argsL.reverse ++ .ref a :: rest)) rfl hsize (Steps.refl _) (a := a) (argsL := argsL) (rest := rest) hlen rfl (by show 2 * 0 + _ ≤ _; omega) hd (fun _ _ => ⟨rfl, eT, hc, hs⟩)
  dsimp only [Pt.U, Pt.locs, Pt.cells, Pt.slots] at X' l1 l2 l3 st' hQ
  subst l1 l2 l3
  exact Goes.via (fun _ k => st'.trans k) (k v T' _ X' (Fr.app N hQ.1) hQ.2)
theorem own_specialNest (X : Stand p l e R s m args below meth c T locs cells slots) (hx : p.tables.exec = Jvm.exec) (hZ : Z.Warmed39 s.vm) {own : String} {index : Nat} (hown : s.vm.findClass own = some m.cls) {y : MethodName} {bytes : ByteArray} {maxL : Nat} {rm : Room} {W : Nat} {Q' : Option Value → Heap → Prop} {host : String} (hy1 : y.name = "<init>") (w1 : (Jvm.Cond.methodLinkNest own index y host).before a0 Z = true) (w2 : (Jvm.Cond.instanceMethod y).before a0 Z = true) (w3 : (Jvm.Cond.initialized y.cls).before a0 Z = true) (w4 : (Jvm.Cond.code y bytes maxL none).before a0 Z = true) {a : Addr} (hy : y.cls ≠ "java/lang/invoke/MethodHandle" ∧ y.cls ≠ "java/lang/invoke/VarHandle") (hf : rm.frames + 1 ≤ R.frames) (hl : W + (maxL + 11) + rm.locals ≤ R.locals) (N : Fr n0 locs) (eT : T.heap = h) (hsize : Ls.size = c.maxLocals) {argsL rest : List Value} (hlen : ∀ sig, parseMethodDescriptor y.desc = some sig → argsL.length = sig.parameters.length) (hW : (rest.map fun v => v.category).sum ≤ W) (hc : cells + rm.cells ≤ R.cells) (hs : slots + rm.slots ≤ R.slots) (M : Meets l y bytes maxL none [] rm rm.cells rm.slots Z (.ref a :: argsL).toArray h n0 Q') (hst : st = argsL.reverse ++ .ref a :: rest) (hd : decode c.code pc = .ok (.invokespecial index, 3))
    (k : ∀ v T' locs', Stand p l e R s m args below meth c T' locs' (cells + rm.cells) (slots + rm.slots) → Fr n0 locs' → Q' v T'.heap → Goes p e below FE n0 Q (T'.setTop (mkF m (pc + 3) Ls (v.toList ++ rest)))) : Goes p e below FE n0 Q (T.setTop (mkF m pc Ls st)) := by
  subst hst
  obtain ⟨v, _, ⟨T', L', k', n'⟩, -, X', ⟨Lc, hQ, l1, l2, l3⟩, st'⟩ := X.specialBackNest hx (y := y) hy1 hown (Cond.methodLinkNest_wide hZ w1 :) (mvT hZ w2) (mvT hZ w4) hy (backOf (W := W) (Q := fun v h L => Fr n0 L ∧ Q' v h) M hZ w4 w3 hf hl) (g := mkF m pc Ls (argsL.reverse ++ .ref a :: rest)) rfl hsize (Steps.refl _) (a := a) (argsL := argsL) (rest := rest) hlen rfl (by show 2 * 0 + _ ≤ _; omega) hd (fun _ _ => ⟨rfl, eT, hc, hs⟩)
  dsimp only [Pt.U, Pt.locs, Pt.cells, Pt.slots] at X' l1 l2 l3 st' hQ
  subst l1 l2 l3
  exact Goes.via (fun _ k => st'.trans k) (k v T' _ X' (Fr.app N hQ.1) hQ.2)
theorem own_virtual (X : Stand p l e R s m args below meth c T locs cells slots) (hx : p.tables.exec = Jvm.exec) (hZ : Z.Warmed39 s.vm) {own : String} {index : Nat} (hown : s.vm.findClass own = some m.cls) {y : MethodName} {bytes : ByteArray} {maxL : Nat} {ret : Option FieldType} {rm : Room} {W : Nat} {Q' : Option Value → Heap → Prop} {z : MethodName} {C : String} (w1 : (Jvm.Cond.methodLink own index y).before a0 Z = true) (w2 : (Jvm.Cond.declares y).before a0 Z = true) (hnf : NotFace s y) (w5 : (Jvm.Cond.selects C y z).before a0 Z = true) (w6 : (Jvm.Cond.instanceMethod z).before a0 Z = true) (w3 : (Jvm.Cond.initialized z.cls).before a0 Z = true) (w4 : (Jvm.Cond.code z bytes maxL ret).before a0 Z = true) {a : Addr} (E : Exa Z h a C) (hy : y.cls ≠ "java/lang/invoke/MethodHandle" ∧ y.cls ≠ "java/lang/invoke/VarHandle") (hf : rm.frames + 1 ≤ R.frames) (hl : W + (maxL + 11) + rm.locals ≤ R.locals) (N : Fr n0 locs) (eT : T.heap = h) (hsize : Ls.size = c.maxLocals) {argsL rest : List Value} (hlen : ∀ sig, parseMethodDescriptor y.desc = some sig → argsL.length = sig.parameters.length) (hW : (rest.map fun v => v.category).sum ≤ W) (hc : cells + rm.cells ≤ R.cells) (hs : slots + rm.slots ≤ R.slots) (M : Meets l z bytes maxL ret [] rm rm.cells rm.slots Z (.ref a :: argsL).toArray h n0 Q') (hst : st = argsL.reverse ++ .ref a :: rest) (hd : decode c.code pc = .ok (.invokevirtual index, 3))
    (k : ∀ v T' locs', Stand p l e R s m args below meth c T' locs' (cells + rm.cells) (slots + rm.slots) → Fr n0 locs' → Q' v T'.heap → Goes p e below FE n0 Q (T'.setTop (mkF m (pc + 3) Ls (v.toList ++ rest)))) : Goes p e below FE n0 Q (T.setTop (mkF m pc Ls st)) := by
  subst hst
  obtain ⟨cq, kq, qa, qb, qc⟩ := isOf hZ eT E
  obtain ⟨v, _, ⟨T', L', k', n'⟩, -, X', ⟨Lc, hQ, l1, l2, l3⟩, st'⟩ := X.virtualBack hx (y := y) (z := z) hown (mvT hZ w1) (mvT hZ w2) hnf (mvT hZ w5) (mvT hZ w6) hy (backOf (W := W) (Q := fun v h L => Fr n0 L ∧ Q' v h) M hZ w4 w3 hf hl) qa qc (g := mkF m pc Ls (argsL.reverse ++ .ref a :: rest)) rfl hsize (Steps.refl _) (argsL := argsL) (rest := rest) hlen rfl (by show 2 * 0 + _ ≤ _; omega) hd (fun _ _ => ⟨rfl, eT, hc, hs⟩)
  dsimp only [Pt.U, Pt.locs, Pt.cells, Pt.slots] at X' l1 l2 l3 st' hQ
  subst l1 l2 l3
  exact Goes.via (fun _ k => st'.trans k) (k v T' _ X' (Fr.app N hQ.1) hQ.2)
theorem own_private (X : Stand p l e R s m args below meth c T locs cells slots) (hx : p.tables.exec = Jvm.exec) (hZ : Z.Warmed39 s.vm) {own : String} {index : Nat} (hown : s.vm.findClass own = some m.cls) {y : MethodName} {bytes : ByteArray} {maxL : Nat} {ret : Option FieldType} {rm : Room} {W : Nat} {Q' : Option Value → Heap → Prop} (w1 : (Jvm.Cond.methodLink own index y).before a0 Z = true) (w2 : (Jvm.Cond.instanceMethod y).before a0 Z = true) {nn : Nat} (w5 : (Jvm.Cond.instantiable y.cls nn).before a0 Z = true) (w6 : (Jvm.Cond.privateMethod y).before a0 Z = true) (w3 : (Jvm.Cond.initialized y.cls).before a0 Z = true) (w4 : (Jvm.Cond.code y bytes maxL ret).before a0 Z = true) {a : Addr} {C : String} (E : Exa Z h a C) (hy : y.cls ≠ "java/lang/invoke/MethodHandle" ∧ y.cls ≠ "java/lang/invoke/VarHandle") (hf : rm.frames + 1 ≤ R.frames) (hl : W + (maxL + 11) + rm.locals ≤ R.locals) (N : Fr n0 locs) (eT : T.heap = h) (hsize : Ls.size = c.maxLocals) {argsL rest : List Value} (hlen : ∀ sig, parseMethodDescriptor y.desc = some sig → argsL.length = sig.parameters.length) (hW : (rest.map fun v => v.category).sum ≤ W) (hc : cells + rm.cells ≤ R.cells) (hs : slots + rm.slots ≤ R.slots) (M : Meets l y bytes maxL ret [] rm rm.cells rm.slots Z (.ref a :: argsL).toArray h n0 Q') (hst : st = argsL.reverse ++ .ref a :: rest) (hd : decode c.code pc = .ok (.invokevirtual index, 3))
    (k : ∀ v T' locs', Stand p l e R s m args below meth c T' locs' (cells + rm.cells) (slots + rm.slots) → Fr n0 locs' → Q' v T'.heap → Goes p e below FE n0 Q (T'.setTop (mkF m (pc + 3) Ls (v.toList ++ rest)))) : Goes p e below FE n0 Q (T.setTop (mkF m pc Ls st)) := by
  subst hst
  obtain ⟨cq, qa, qb⟩ := E.cell
  obtain ⟨v, _, ⟨T', L', k', n'⟩, -, X', ⟨Lc, hQ, l1, l2, l3⟩, st'⟩ := X.privateBack hx (y := y) hown (mvT hZ w1) (mvT hZ w2) (mvT hZ (own_selfsel w5 w2 w6 hy)) (Cond.privateMethod_at (mvP hZ w6 (args := #[]))) (mvT hZ w4) hy (backOf (W := W) (Q := fun v h L => Fr n0 L ∧ Q' v h) M hZ w4 w3 hf hl) (g := mkF m pc Ls (argsL.reverse ++ .ref a :: rest)) rfl hsize (Steps.refl _) (a := a) (by rw [eT]; exact qa) qb (argsL := argsL) (rest := rest) hlen rfl (by show 2 * 0 + _ ≤ _; omega) hd (fun _ _ => ⟨rfl, eT, hc, hs⟩)
  dsimp only [Pt.U, Pt.locs, Pt.cells, Pt.slots] at X' l1 l2 l3 st' hQ
  subst l1 l2 l3
  exact Goes.via (fun _ k => st'.trans k) (k v T' _ X' (Fr.app N hQ.1) hQ.2)
theorem own_virtualUp (X : Stand p l e R s m args below meth c T locs cells slots) (hx : p.tables.exec = Jvm.exec) (hZ : Z.Warmed39 s.vm) {own : String} {index : Nat} (hown : s.vm.findClass own = some m.cls) {y : MethodName} {bytes : ByteArray} {maxL : Nat} {ret : Option FieldType} {rm : Room} {W : Nat} {Q' : Option Value → Heap → Prop} {z : MethodName} {C owner : String} (w1 : (Jvm.Cond.methodLink own index y).before a0 Z = true) (w2 : (Jvm.Cond.sameMethod y.cls owner y.name y.desc).before a0 Z = true) (w7 : (Jvm.Cond.declares ⟨owner, y.name, y.desc⟩).before a0 Z = true) (w5 : (Jvm.Cond.selects C y z).before a0 Z = true) (w6 : (Jvm.Cond.instanceMethod z).before a0 Z = true) (w3 : (Jvm.Cond.initialized z.cls).before a0 Z = true) (w4 : (Jvm.Cond.code z bytes maxL ret).before a0 Z = true) {a : Addr} (E : Exa Z h a C) (hy : owner ≠ "java/lang/invoke/MethodHandle" ∧ owner ≠ "java/lang/invoke/VarHandle") (hf : rm.frames + 1 ≤ R.frames) (hl : W + (maxL + 11) + rm.locals ≤ R.locals) (N : Fr n0 locs) (eT : T.heap = h) (hsize : Ls.size = c.maxLocals) {argsL rest : List Value} (hlen : ∀ sig, parseMethodDescriptor y.desc = some sig → argsL.length = sig.parameters.length) (hW : (rest.map fun v => v.category).sum ≤ W) (hc : cells + rm.cells ≤ R.cells) (hs : slots + rm.slots ≤ R.slots) (M : Meets l z bytes maxL ret [] rm rm.cells rm.slots Z (.ref a :: argsL).toArray h n0 Q') (hst : st = argsL.reverse ++ .ref a :: rest) (hd : decode c.code pc = .ok (.invokevirtual index, 3))
    (k : ∀ v T' locs', Stand p l e R s m args below meth c T' locs' (cells + rm.cells) (slots + rm.slots) → Fr n0 locs' → Q' v T'.heap → Goes p e below FE n0 Q (T'.setTop (mkF m (pc + 3) Ls (v.toList ++ rest)))) : Goes p e below FE n0 Q (T.setTop (mkF m pc Ls st)) := by
  subst hst
  obtain ⟨cq, kq, qa, qb, qc⟩ := isOf hZ eT E
  obtain ⟨v, _, ⟨T', L', k', n'⟩, -, X', ⟨Lc, hQ, l1, l2, l3⟩, st'⟩ := X.virtualBackUp hx (x := y) (y := z) hown (mvT hZ w1) (mvT hZ w2) (mvT hZ w7 (by simp [Cond.onTables, Cond.keepsFace, Cond.keeps, Cond.steady, Cond.faceAtom, hy.1, hy.2])) hy (mvT hZ w5) (mvT hZ w6) (backOf (W := W) (Q := fun v h L => Fr n0 L ∧ Q' v h) M hZ w4 w3 hf hl) qa qc (g := mkF m pc Ls (argsL.reverse ++ .ref a :: rest)) rfl hsize (Steps.refl _) (argsL := argsL) (rest := rest) hlen rfl (by show 2 * 0 + _ ≤ _; omega) hd (fun _ _ => ⟨rfl, eT, hc, hs⟩)
  dsimp only [Pt.U, Pt.locs, Pt.cells, Pt.slots] at X' l1 l2 l3 st' hQ
  subst l1 l2 l3
  exact Goes.via (fun _ k => st'.trans k) (k v T' _ X' (Fr.app N hQ.1) hQ.2)
theorem own_iface (X : Stand p l e R s m args below meth c T locs cells slots) (hx : p.tables.exec = Jvm.exec) (hZ : Z.Warmed39 s.vm) {own : String} {index : Nat} (hown : s.vm.findClass own = some m.cls) {y : MethodName} {bytes : ByteArray} {maxL : Nat} {ret : Option FieldType} {rm : Room} {W : Nat} {Q' : Option Value → Heap → Prop} {z : MethodName} {C : String} {count : Nat} (w1 : (Jvm.Cond.methodLink own index y).before a0 Z = true) (w2 : (Jvm.Cond.declares y).before a0 Z = true) (w7 : (Jvm.Cond.interfaceMethod y.cls y.cls y.name y.desc).before a0 Z = true) (w5 : (Jvm.Cond.selects C y z).before a0 Z = true) (w6 : (Jvm.Cond.instanceMethod z).before a0 Z = true) (w8 : (Jvm.Cond.publicMethod z).before a0 Z = true) (w9 : (Jvm.Cond.unhidden C y.name y.desc).before a0 Z = true) (wc : (Jvm.Cond.castable C y.cls).before a0 Z = true) (w3 : (Jvm.Cond.initialized z.cls).before a0 Z = true) (w4 : (Jvm.Cond.code z bytes maxL ret).before a0 Z = true) {a : Addr} (E : Exa Z h a C) (hy : y.cls ≠ "java/lang/invoke/MethodHandle" ∧ y.cls ≠ "java/lang/invoke/VarHandle") (hf : rm.frames + 1 ≤ R.frames) (hl : W + (maxL + 11) + rm.locals ≤ R.locals) (N : Fr n0 locs) (eT : T.heap = h) (hsize : Ls.size = c.maxLocals) {argsL rest : List Value} (hlen : ∀ sig, parseMethodDescriptor y.desc = some sig → argsL.length = sig.parameters.length) (hW : (rest.map fun v => v.category).sum ≤ W) (hc : cells + rm.cells ≤ R.cells) (hs : slots + rm.slots ≤ R.slots) (M : Meets l z bytes maxL ret [] rm rm.cells rm.slots Z (.ref a :: argsL).toArray h n0 Q') (hst : st = argsL.reverse ++ .ref a :: rest) (hd : decode c.code pc = .ok (.invokeinterface index count, 5))
    (k : ∀ v T' locs', Stand p l e R s m args below meth c T' locs' (cells + rm.cells) (slots + rm.slots) → Fr n0 locs' → Q' v T'.heap → Goes p e below FE n0 Q (T'.setTop (mkF m (pc + 5) Ls (v.toList ++ rest)))) : Goes p e below FE n0 Q (T.setTop (mkF m pc Ls st)) := by
  subst hst
  obtain ⟨cq, kq, qa, qb, qc⟩ := isOf hZ eT E
  obtain ⟨v, _, ⟨T', L', k', n'⟩, -, X', ⟨Lc, hQ, l1, l2, l3⟩, st'⟩ := X.interfaceBack hx (xi := y) (y := z) hown (mvT hZ w1) (mvT hZ w2) (mvT hZ w7 (by simp [Cond.onTables, Cond.keepsFace, Cond.keeps, Cond.steady, Cond.faceAtom, hy.1, hy.2])) (mvT hZ w5) (mvT hZ w6) (mvT hZ w8) (mvT hZ w9) (mvT hZ wc) hy (backOf (W := W) (Q := fun v h L => Fr n0 L ∧ Q' v h) M hZ w4 w3 hf hl) qa qb qc (g := mkF m pc Ls (argsL.reverse ++ .ref a :: rest)) rfl hsize (Steps.refl _) (argsL := argsL) (rest := rest) hlen rfl (by show 2 * 0 + _ ≤ _; omega) hd (fun _ _ => ⟨rfl, eT, hc, hs⟩)
  dsimp only [Pt.U, Pt.locs, Pt.cells, Pt.slots] at X' l1 l2 l3 st' hQ
  subst l1 l2 l3
  exact Goes.via (fun _ k => st'.trans k) (k v T' _ X' (Fr.app N hQ.1) hQ.2)
theorem own_gcls (X : Stand p l e R s m args below meth c T locs cells slots) (hx : p.tables.exec = Jvm.exec) (hZ : Z.Warmed39 s.vm) {own : String} {index : Nat} (hown : s.vm.findClass own = some m.cls) {C : String} (w1 : (Jvm.Cond.methodLink own index ⟨"java/lang/Object", "getClass", "()Ljava/lang/Class;"⟩).before a0 Z = true) (w2 : (Jvm.Cond.declares ⟨"java/lang/Object", "getClass", "()Ljava/lang/Class;"⟩).before a0 Z = true) (w3 : (Jvm.Cond.noSuperclass "java/lang/Object").before a0 Z = true) (w4 : (Jvm.Cond.selects C ⟨"java/lang/Object", "getClass", "()Ljava/lang/Class;"⟩ ⟨"java/lang/Object", "getClass", "()Ljava/lang/Class;"⟩).before a0 Z = true) (w5 : (Jvm.Cond.instanceMethod ⟨"java/lang/Object", "getClass", "()Ljava/lang/Class;"⟩).before a0 Z = true) (w6 : (Jvm.Cond.native ⟨"java/lang/Object", "getClass", "()Ljava/lang/Class;"⟩).before a0 Z = true) (eT : T.heap = h) {a mr : Addr} (E : Exa Z h a C) (M : ∃ (c : ClassId) (k : Class), Z.vm.findClass C = some c ∧ Z.vm.classes[c]? = some k ∧ k.mirror = some mr) (hsize : Ls.size = c.maxLocals) (hd : decode c.code pc = .ok (.invokevirtual index, 3)) (hf : 1 ≤ R.frames) {W : Nat} (hW : (st.map fun v => v.category).sum ≤ W) (hl : W + 14 ≤ R.locals)
    (k : ∀ T', Stand p l e R s m args below meth c T' locs cells slots → T'.heap = h → Goes p e below FE n0 Q (T'.setTop (mkF m (pc + 3) Ls (.ref mr :: st)))) : Goes p e below FE n0 Q (T.setTop (mkF m pc Ls (.ref a :: st))) := by
  obtain ⟨cB, kB, i1, i2, i3⟩ := isOf hZ eT E
  obtain ⟨cc, kc, m1, m2, m3⟩ := M
  rw [hZ.alike.findClass] at i1
  cases i1.symm.trans m1
  obtain ⟨k', q, ek⟩ := hZ.alike.2.2 _ _ m2
  obtain ⟨vm', X', st'⟩ := X.getClassOf hx hown (mvT hZ w1) (mvT hZ w2) (nf_top (args := #[]) (mvT hZ w3)) (mvT hZ w4) (mvT hZ w5) (mvT hZ w6) (by rw [hZ.alike.findClass]; exact m1) i3 q (by rw [ek]; exact m3) (g := mkF m pc Ls (.ref a :: st)) rfl hsize rfl hd hf (by show 2 * 0 + _ + (1 + 2 + 11) ≤ _; omega)
  exact Goes.via st' (k _ X' eT)
theorem own_ldcMir (X : Stand p l e R s m args below meth c T locs cells slots) (hx : p.tables.exec = Jvm.exec) (hZ : Z.Warmed39 s.vm) {own : String} {index : Nat} (hown : s.vm.findClass own = some m.cls) {C : String} (w : (Jvm.Cond.classLink own index C).before a0 Z = true) (eT : T.heap = h) {mr : Addr} (M : ∃ (c : ClassId) (k : Class), Z.vm.findClass C = some c ∧ Z.vm.classes[c]? = some k ∧ k.mirror = some mr) (hd : decode c.code pc = .ok (.ldc index, 2))
    (k : ∀ T', Stand p l e R s m args below meth c T' locs cells slots → T'.heap = h → Goes p e below FE n0 Q (T'.setTop (mkF m (pc + 2) Ls (.ref mr :: st)))) : Goes p e below FE n0 Q (T.setTop (mkF m pc Ls st)) := by
  obtain ⟨cc, kc, m1, m2, m3⟩ := M
  obtain ⟨k', q, ek⟩ := hZ.alike.2.2 _ _ m2
  have hf' : s.vm.findClass C = some cc := by rw [hZ.alike.findClass]; exact m1
  obtain ⟨vm', X', st'⟩ := X.ldcMirror hx hown (mv hZ w) (a := mr) (by
    have hm : k'.mirror = some mr := by first | (rw [ek]; exact m3) | (rw [← ek]; exact m3) | (have := congrArg Class.mirror ek; simp at this; rw [← this]; exact m3) | (have := congrArg Class.mirror ek; simp at this; rw [this]; exact m3)
    show ((s.vm.findClass C).bind fun c => (s.vm.classes[c]?).bind fun k => k.mirror.bind fun a => some (Value.ref a)) = some (.ref mr)
    rw [hf']
    show ((s.vm.classes[cc]?).bind fun k => k.mirror.bind fun a => some (Value.ref a)) = some (.ref mr)
    rw [q]
    show (k'.mirror.bind fun a => some (Value.ref a)) = some (.ref mr)
    rw [hm]
    rfl) (g := mkF m pc Ls st) rfl hd
  exact Goes.via st' (k _ X' eT)
theorem own_cpA (X : Stand p l e R s m args below meth c T locs cells slots) (hx : p.tables.exec = Jvm.exec) (hZ : Z.Warmed39 s.vm) {own : String} {index : Nat} (hown : s.vm.findClass own = some m.cls) (w1 : (Jvm.Cond.methodLink own index Jvm.Stand.acN).before a0 Z = true) (w2 : (Jvm.Cond.native Jvm.Stand.acN).before a0 Z = true) (w3 : (Jvm.Cond.static Jvm.Stand.acN).before a0 Z = true) (w4 : (Jvm.Cond.initialized "java/lang/System").before a0 Z = true) (eT : T.heap = h) {a b : Addr} {k k' : ClassId} {ty ty' : FieldType} {z z' sp dp nn : Int32} {vs vd us vr : List Value} {dv dd : Value} (A : Arv Z h a k ty z vs dv) (B : Arv Z h b k' ty' z' vd dd) (hty : (ty = ty' ∧ refKind ty = false) ∨ (refKind ty = true ∧ refKind ty' = true ∧ StoL Z h b us)) (h1 : ¬ sp < 0) (h2 : ¬ dp < 0) (h3 : ¬ nn < 0) (h4 : sp.toNatClampNeg + nn.toNatClampNeg ≤ z.toNatClampNeg) (h5 : dp.toNatClampNeg + nn.toNatClampNeg ≤ z'.toNatClampNeg) (hus : us = (List.range nn.toNatClampNeg).map fun i => vs.getD (sp.toNatClampNeg + i) dv) (hl : dp.toNatClampNeg + nn.toNatClampNeg ≤ vd.length) (hvr : vd.take dp.toNatClampNeg ++ us ++ vd.drop (dp.toNatClampNeg + nn.toNatClampNeg) = vr) (N : Fr n0 locs) (ge : n0 ≤ b) (hsize : Ls.size = c.maxLocals) (hd : decode c.code pc = .ok (.invokestatic index, 3)) (hf : 1 ≤ R.frames) {W : Nat} (hW : (st.map fun v => v.category).sum ≤ W) (hlo : W + 18 ≤ R.locals)
    (k : ∀ T' h' locs', Stand p l e R s m args below meth c T' locs' cells slots → T'.heap = h' → Fr n0 locs' → Keep h h' [b] → Arv Z h' b k' ty' z' vr dd → Goes p e below FE n0 Q (T'.setTop (mkF m (pc + 3) Ls st))) : Goes p e below FE n0 Q (T.setTop (mkF m pc Ls (.int nn :: .int dp :: .ref b :: .int sp :: .ref a :: st))) := by
  subst hvr
  obtain ⟨T', h', L, X', e', N', K', V', st'⟩ := cpA X hx hZ hown w1 w2 w3 w4 eT A B hty h1 h2 h3 h4 h5 hus hl N ge (g := mkF m pc Ls (.int nn :: .int dp :: .ref b :: .int sp :: .ref a :: st)) rfl hsize rfl hd hf (W := W) (by show 2 * 0 + _ ≤ _; omega) hlo
  exact Goes.via st' (k T' h' L X' e' N' K' V')
theorem own_retN (X : Stand p l e R s m args below meth c T locs cells slots) (hx : p.tables.exec = Jvm.exec) {t : FieldType} {z : Int32} (N : Fr n0 locs) (hlk : meth.locks = false) (hc : cells ≤ kc) (hs : slots ≤ ks) (hret : meth.sig.returnType = some t) (ht : t = .boolean ∨ t = .byte ∨ t = .char ∨ t = .short) (hd : decode c.code pc = .ok (.ireturn, 1)) (hq : Q (some (.int (nar t z))) T.heap) : Goes p e below (fun o t L => FrameEnd s o t L kc ks) n0 Q (T.setTop (mkF m pc Ls (.int z :: st))) :=
  Goes.ret X N hlk (fun h => by rw [hret] at h; cases h) hc hs hq (fun fs hr => retN X hx hret ht hd hr)
theorem own_retI (X : Stand p l e R s m args below meth c T locs cells slots) (hx : p.tables.exec = Jvm.exec) {z : Int32} (N : Fr n0 locs) (hlk : meth.locks = false) (hc : cells ≤ kc) (hs : slots ≤ ks) (hret : meth.sig.returnType = some .int) (hd : decode c.code pc = .ok (.ireturn, 1)) (hq : Q (some (.int z)) T.heap) : Goes p e below (fun o t L => FrameEnd s o t L kc ks) n0 Q (T.setTop (mkF m pc Ls (.int z :: st))) :=
  Goes.ret X N hlk (fun h => by rw [hret] at h; cases h) hc hs hq (fun fs hr => retOut X hx hret rfl (Or.inl ⟨rfl, Or.inl rfl, _, rfl⟩) hd hr)
theorem own_retJ (X : Stand p l e R s m args below meth c T locs cells slots) (hx : p.tables.exec = Jvm.exec) {z : Int64} (N : Fr n0 locs) (hlk : meth.locks = false) (hc : cells ≤ kc) (hs : slots ≤ ks) (hret : meth.sig.returnType = some .long) (hd : decode c.code pc = .ok (.lreturn, 1)) (hq : Q (some (.long z)) T.heap) : Goes p e below (fun o t L => FrameEnd s o t L kc ks) n0 Q (T.setTop (mkF m pc Ls (.long z :: st))) :=
  Goes.ret X N hlk (fun h => by rw [hret] at h; cases h) hc hs hq (fun fs hr => retOut X hx hret rfl (Or.inr (Or.inl ⟨rfl, rfl, _, rfl⟩)) hd hr)
theorem own_retR (X : Stand p l e R s m args below meth c T locs cells slots) (hx : p.tables.exec = Jvm.exec) {v : Value} {t : FieldType} (N : Fr n0 locs) (hlk : meth.locks = false) (hc : cells ≤ kc) (hs : slots ≤ ks) (hret : meth.sig.returnType = some t) (ht : t.isReference = true) (hv : v.isRef = true) (hn : narrow t v = v) (hd : decode c.code pc = .ok (.areturn, 1)) (hq : Q (some v) T.heap) : Goes p e below (fun o t L => FrameEnd s o t L kc ks) n0 Q (T.setTop (mkF m pc Ls (v :: st))) :=
  Goes.ret X N hlk (fun h => by rw [hret] at h; cases h) hc hs hq (fun fs hr => retOut X hx hret hn (Or.inr (Or.inr (Or.inr (Or.inr ⟨rfl, ht, hv⟩)))) hd hr)
theorem own_retV (X : Stand p l e R s m args below meth c T locs cells slots) (hx : p.tables.exec = Jvm.exec) (N : Fr n0 locs) (hlk : meth.locks = false) (hc : cells ≤ kc) (hs : slots ≤ ks) (hret : meth.sig.returnType = none) (hd : decode c.code pc = .ok (.return_, 1)) (hq : Q none T.heap) : Goes p e below (fun o t L => FrameEnd s o t L kc ks) n0 Q (T.setTop (mkF m pc Ls [])) :=
  Goes.ret X N hlk (fun _ => rfl) hc hs hq (fun fs hr => X.returnOut hx hret hd hr)
theorem own_bz {P : Prop} [Decidable P] (h : ¬ P) : (if P then (1 : Int32) else (0 : Int32)) = (0 : Int32) := if_neg h
theorem own_bnz {P : Prop} [Decidable P] (h : ¬ ¬ P) : ¬ ((if P then (1 : Int32) else (0 : Int32)) = (0 : Int32)) := by rw [if_pos (Classical.not_not.mp h)]; decide
theorem own_nb (P : Prop) [Decidable P] : narrow .boolean (.int (if P then (1 : Int32) else (0 : Int32))) = (.int (if P then (1 : Int32) else (0 : Int32))) ∧ fits .boolean (.int (if P then (1 : Int32) else (0 : Int32))) = true := by
  by_cases h : P
  · rw [if_pos h]; exact ⟨rfl, rfl⟩
  · rw [if_neg h]; exact ⟨rfl, rfl⟩
theorem own_narb (P : Prop) [Decidable P] : nar .boolean (if P then (1 : Int32) else (0 : Int32)) = (if P then (1 : Int32) else (0 : Int32)) := by
  by_cases h : P
  · rw [if_pos h]; rfl
  · rw [if_neg h]; rfl
theorem own_eq {args : Array Value} {s s' : State} {o : Option Outcome} {idx : List Nat} {a b : Term} {v : Value} (h : (Jvm.Cond.eq a b).value args s o s' idx = some true) (hb : b.eval args s o idx s' = some v) : a.eval args s o idx s' = some v := by
  simp only [Cond.value, hb] at h
  cases ha : a.eval args s o idx s' with
  | none => simp [ha] at h
  | some w => rw [ha] at h; cases w <;> cases v <;> simp_all
theorem own_len {args : Array Value} {t : Term} {a : Addr} {cl : Cell} {ty : FieldType} {z : Int32} (ev : t.eval args Z none [] Z = some (.ref a)) (A : Arr Z Z.heap a cl ty) (hl : (Term.length t).eval args Z none [] Z = some (.int z)) : cl.slots.size < 2 ^ 31 ∧ cl.slots.size.toInt32 = z := by
  have ha : Z.arrayAt? a = some cl := A.fin (Vm.Alike.refl _)
  by_cases q : cl.slots.size < 2 ^ 31
  · have h2 := (len_f ev ha q).symm.trans hl
    exact ⟨q, by cases h2; rfl⟩
  · simp [Term.eval, ev, ha, q] at hl
theorem own_arr {args : Array Value} {t : Term} {a : Addr} {cl : Cell} {ty : FieldType} {z : Int32} {vs : List Value} {dv : Value} (hf : Fit Z) (ev : t.eval args Z none [] Z = some (.ref a)) (A : Arr Z Z.heap a cl ty) (hl : (Term.length t).eval args Z none [] Z = some (.int z)) (hz : ¬ z < 0) (hn : z.toNatClampNeg = vs.length) (H : HasL cl 0 vs) : Arv Z Z.heap a cl.cls ty z vs dv :=
  Arv.start hf A (own_len ev A hl).1 (own_len ev A hl).2 hz hn H
theorem own_fold {f : Nat → Option Bool} : ∀ (L : List Nat) (acc : Option Bool), L.foldl (fun acc i => match acc with | some true => f i | x => x) acc = some true → acc = some true ∧ ∀ i ∈ L, f i = some true
  | [], acc, h => ⟨h, fun _ q => nomatch q⟩
  | i :: L, acc, h => by
    obtain ⟨h1, h2⟩ := own_fold L _ h
    have h3 : acc = some true := by rcases acc with _ | (_ | _) <;> simp_all
    subst h3
    exact ⟨rfl, fun j hj => by rcases List.mem_cons.mp hj with rfl | q; exact h1; exact h2 j q⟩
theorem own_all {args : Array Value} {first s : State} {o : Option Outcome} {idx : List Nat} {t : Term} {c : Jvm.Cond} {a : Addr} {cell : Cell} (h : (Jvm.Cond.all t c).value args first o s idx = some true) (ev : t.eval args first o idx s = some (.ref a)) (ha : s.arrayAt? a = some cell) : ∀ i, i < cell.slots.size → c.value args first o s (i :: idx) = some true := by
  intro i hi
  simp only [Cond.value, ev, ha] at h
  exact (own_fold _ _ h).2 i (List.mem_range.mpr hi)
theorem own_exaI {args : Array Value} {t : Term} {C : String} {idx : List Nat} (h : (Jvm.Cond.exactly t C).value args Z none Z idx = some true) : ∃ b, t.eval args Z none idx Z = some (.ref b) ∧ Exa Z Z.heap b C := by
  obtain ⟨a, c, cell, k, e1, e2, e3, e4, e5, e6, e7⟩ := Cond.exactly_spec (beq_iff_eq.mpr h : (Jvm.Cond.exactly t C).holds args Z none Z idx = true)
  subst e6
  exact ⟨a, e1, cell, k, e3, e2, e4, e5, e7⟩
theorem own_NSroot {O K : String} {nn : Nat} (w : (Jvm.Cond.noSuperclass O).before a0 Z = true) (wi : (Jvm.Cond.instantiable K nn).before a0 Z = true) (hn : O ≠ K) : NS Z O K := by
  obtain ⟨c, k, h1, h2, h3, -, -⟩ := Cond.noSuperclass_spec w
  obtain ⟨t, kt, g1, -⟩ := Cond.instantiable_spec wi
  have ne := ids_ne h1 g1 hn
  refine ⟨c, t, h1, g1, fun fuel => ?_⟩
  cases fuel with
  | zero => rfl
  | succ f => simp [Vm.isSubclassAux, ne, h2, h3]
theorem own_NSno {C S K : String} {nn : Nat} (w : (Jvm.Cond.superclass C S).before a0 Z = true) (wi : (Jvm.Cond.instantiable K nn).before a0 Z = true) (n : NS Z C K) (hn : C ≠ K) : ∃ c t, Z.vm.findClass C = some c ∧ Z.vm.findClass K = some t ∧ Z.vm.assignable c t = false := by
  obtain ⟨c, t, h0, g0, n3⟩ := n
  obtain ⟨p, k, kp, h1, h2, h3, h4, h5, -, h7⟩ := Cond.superclass_spec h0 w
  obtain ⟨t', k', g1, g2, g5, g7, -⟩ := Cond.instantiable_spec wi
  cases g0.symm.trans g1
  rw [Bool.or_eq_false_iff] at g7
  have ne := ids_ne h0 g0 hn
  refine ⟨c, t, h0, g0, ?_⟩
  show Z.vm.assignableAux (255 + 1) c t = false
  simp [Vm.assignableAux, ne, h2, g2, h5, g5, g7.1, Vm.isSubclass, n3]
end OwnKit
section OwnWide
variable {p : Program} {l : Launch} {e : Env} {R : Room} {s : State} {m : MethodId} {args : Array Value} {below : List Frame} {meth : Method} {c : Code} {T : State} {locs : List Loc} {cells slots : Nat} {Z : State} {a0 : Array Value} {h : Heap} {n0 kc ks k0 : Nat} {vm0 : Vm} {FE : Outcome → State → List Loc → Prop} {Q : Option Value → Heap → Prop} {pc pc' : Nat} {Ls Ls' : Array Slot} {st : List Value}
/-- the contract of a body that may load String constants -/
def MeetsW (l : Launch) (y : MethodName) (bytes : ByteArray) (maxL : Nat) (ret : Option FieldType) (ws : List Jvm.Cond) (rm : Room) (kc ks : Nat) (Z : State) (as' : Array Value) (h : Heap) (n0 : Nat) (Q : Option Value → Heap → Prop) : Prop :=
  MetFree l y (head1 (Jvm.Cond.code y bytes maxL ret :: ws) rm) (fun a U => a = as' ∧ Z.Warmed39 U.vm ∧ U.heap = h) (fun _ _ _ _ _ => True) (fun _ U o U' => ∃ v L, o = .returned v ∧ (Fr n0 L ∧ Q v U'.heap) ∧ ReturnedEndW U o U' L kc ks)
theorem MeetsW.of {y : MethodName} {bytes : ByteArray} {maxL : Nat} {ret : Option FieldType} {ws : List Jvm.Cond} {rm : Room} {as' : Array Value} (hx : plainFor y = true) {F : MethodId → JFrame} (hF : ∀ m, entryFrame m as' maxL = F m)
    (body : ∀ p e s m below meth c T, p.tables.exec = Jvm.exec → c.code = bytes → c.maxLocals = maxL → s.vm.findClass y.cls = some m.cls → meth.name = y.name → meth.sig.returnType = ret → meth.locks = false → Z.Warmed39 s.vm → s.Since s.vm 0 →
      Stand p l e rm (s.setVm s.vm) m as' below meth c T [] 0 0 → T.heap = h → Goes p e below (fun o t L => ReturnedEndW s o t L kc ks) n0 Q (T.setTop (F m))) :
    MeetsW l y bytes maxL ret ws rm kc ks Z as' h n0 Q := by
  refine MetFree.of_bodySF hx hisR ?_
  intro p e s m args below meth c s₁ Bd hml hP hK
  obtain ⟨rfl, hZ, hh⟩ := hP
  have X0 : Stand p l e rm s m args below meth c s₁ [] 0 0 := Stand.of_body Bd
  have e0 : s₁.heap = h := by rw [← hh, Bd.state]; rfl
  obtain ⟨s₂, o, k, r⟩ := body p e s m below meth c s₁ Bd.exec Bd.bytes hml (findClass_of_methodNamed Bd.named) (name_of_methodNamed Bd.named Bd.method).1 Bd.returns Bd.notSynchronized hZ ((State.WarmedH.refl s).since 0) X0 e0
  exact ⟨s₂, o, castTop (hF m) k, r⟩
theorem Goes.retW {S : State} {v : Option Value} (X : Stand p l e R (s.setVm vm0) m args below meth c T locs cells slots) (hS : s.Since vm0 k0) (hk : k0 ≤ T.heap.size) (N : Fr n0 locs) (hlk : meth.locks = false) (hv : meth.sig.returnType = none → v = none) (hc : cells ≤ kc) (hs : slots ≤ ks) (hq : Q v T.heap)
    (f : ∀ fs, (∀ (f : JFrame) (acts : List Action), f.method = m → f.locked = none → f.entered = [] → (doReturn e (T.setTop f) acts v).1 = T.setFrames fs) → Steps p.tables e below S (T.setFrames fs)) : Goes p e below (fun o t L => ReturnedEndW s o t L kc ks) n0 Q S := by
  obtain ⟨fs, hr, hrun, hended, hE⟩ := X.leaveW hS hk hv hlk
  exact ⟨_, _, f fs hr, hrun, hended, _, _, rfl, ⟨N, hq⟩, hE.1, hE.2.1, hE.2.2.1, hE.2.2.2.mono hc hs⟩
theorem own_retNW (X : Stand p l e R (s.setVm vm0) m args below meth c T locs cells slots) (hx : p.tables.exec = Jvm.exec) {t : FieldType} {z : Int32} (hS : s.Since vm0 k0) (hk : k0 ≤ T.heap.size) (N : Fr n0 locs) (hlk : meth.locks = false) (hc : cells ≤ kc) (hs : slots ≤ ks) (hret : meth.sig.returnType = some t) (ht : t = .boolean ∨ t = .byte ∨ t = .char ∨ t = .short) (hd : decode c.code pc = .ok (.ireturn, 1)) (hq : Q (some (.int (nar t z))) T.heap) : Goes p e below (fun o t L => ReturnedEndW s o t L kc ks) n0 Q (T.setTop (mkF m pc Ls (.int z :: st))) :=
  Goes.retW X hS hk N hlk (fun h => by rw [hret] at h; cases h) hc hs hq (fun fs hr => retN X hx hret ht hd hr)
theorem own_retIW (X : Stand p l e R (s.setVm vm0) m args below meth c T locs cells slots) (hx : p.tables.exec = Jvm.exec) {z : Int32} (hS : s.Since vm0 k0) (hk : k0 ≤ T.heap.size) (N : Fr n0 locs) (hlk : meth.locks = false) (hc : cells ≤ kc) (hs : slots ≤ ks) (hret : meth.sig.returnType = some .int) (hd : decode c.code pc = .ok (.ireturn, 1)) (hq : Q (some (.int z)) T.heap) : Goes p e below (fun o t L => ReturnedEndW s o t L kc ks) n0 Q (T.setTop (mkF m pc Ls (.int z :: st))) :=
  Goes.retW X hS hk N hlk (fun h => by rw [hret] at h; cases h) hc hs hq (fun fs hr => retOut X hx hret rfl (Or.inl ⟨rfl, Or.inl rfl, _, rfl⟩) hd hr)
theorem own_retRW (X : Stand p l e R (s.setVm vm0) m args below meth c T locs cells slots) (hx : p.tables.exec = Jvm.exec) {v : Value} {t : FieldType} (hS : s.Since vm0 k0) (hk : k0 ≤ T.heap.size) (N : Fr n0 locs) (hlk : meth.locks = false) (hc : cells ≤ kc) (hs : slots ≤ ks) (hret : meth.sig.returnType = some t) (ht : t.isReference = true) (hv : v.isRef = true) (hn : narrow t v = v) (hd : decode c.code pc = .ok (.areturn, 1)) (hq : Q (some v) T.heap) : Goes p e below (fun o t L => ReturnedEndW s o t L kc ks) n0 Q (T.setTop (mkF m pc Ls (v :: st))) :=
  Goes.retW X hS hk N hlk (fun h => by rw [hret] at h; cases h) hc hs hq (fun fs hr => retOut X hx hret hn (Or.inr (Or.inr (Or.inr (Or.inr ⟨rfl, ht, hv⟩)))) hd hr)
theorem own_retVW (X : Stand p l e R (s.setVm vm0) m args below meth c T locs cells slots) (hx : p.tables.exec = Jvm.exec) (hS : s.Since vm0 k0) (hk : k0 ≤ T.heap.size) (N : Fr n0 locs) (hlk : meth.locks = false) (hc : cells ≤ kc) (hs : slots ≤ ks) (hret : meth.sig.returnType = none) (hd : decode c.code pc = .ok (.return_, 1)) (hq : Q none T.heap) : Goes p e below (fun o t L => ReturnedEndW s o t L kc ks) n0 Q (T.setTop (mkF m pc Ls [])) :=
  Goes.retW X hS hk N hlk (fun _ => rfl) hc hs hq (fun fs hr => X.returnOut hx hret hd hr)
theorem own_ldcS (X : Stand p l e R (s.setVm vm0) m args below meth c T locs cells slots) (hx : p.tables.exec = Jvm.exec) (hZ : Z.Warmed39 (s.setVm vm0).vm) {own : String} {index : Nat} (hown : (s.setVm vm0).vm.findClass own = some m.cls) (hS : s.Since vm0 k0) (hk : k0 ≤ h.size) {text : String} (w : (Jvm.Cond.stringLink own index text).before a0 Z = true) (wS : ∀ a ∈ Bundle.stringAtoms, a.before a0 Z = true) (eT : T.heap = h) {n : Nat} (hd : decode c.code pc = .ok (.ldc index, 2)) (hn : 4 * text.toList.length ≤ n) (hbig : n ≤ 536870912) (hc : cells + 2 ≤ R.cells) (hl : slots + (n + 4) ≤ R.slots)
    (k : ∀ a T' h' k1, Stand p l e R (s.setVm T'.vm) m args below meth c T' locs (cells + 2) (slots + (n + 4)) → s.Since T'.vm k1 → k1 ≤ h'.size → Z.Warmed39 (s.setVm T'.vm).vm → (s.setVm T'.vm).vm.findClass own = some m.cls → T'.heap = h' → Ext h h' → Goes p e below FE n0 Q (T'.setTop (mkF m (pc + 2) Ls (.ref a :: st)))) : Goes p e below FE n0 Q (T.setTop (mkF m pc Ls st)) := by
  obtain ⟨a, T', h', k1, X', e', E', S', q1, Z', o', st'⟩ := ldcS X hx hZ hown w wS eT hS hk (g := mkF m pc Ls st) rfl hd hn hbig hc hl
  exact Goes.via st' (k a T' h' k1 X' S' q1 Z' o' e' E')
theorem own_callSW (X : Stand p l e R (s.setVm vm0) m args below meth c T locs cells slots) (hx : p.tables.exec = Jvm.exec) (hZ : Z.Warmed39 (s.setVm vm0).vm) {own : String} {index : Nat} (hown : (s.setVm vm0).vm.findClass own = some m.cls) (hS : s.Since vm0 k0) (hk : k0 ≤ h.size) {y : MethodName} {bytes : ByteArray} {maxL : Nat} {ret : Option FieldType} {rm : Room} {W : Nat} {Q' : Option Value → Heap → Prop} (w1 : (Jvm.Cond.methodLink own index y).before a0 Z = true) (w2 : (Jvm.Cond.static y).before a0 Z = true) (w3 : (Jvm.Cond.initialized y.cls).before a0 Z = true) (w4 : (Jvm.Cond.code y bytes maxL ret).before a0 Z = true) (hy : y.cls ≠ "java/lang/invoke/MethodHandle" ∧ y.cls ≠ "java/lang/invoke/VarHandle") (hf : rm.frames + 1 ≤ R.frames) (hl : W + (maxL + 11) + rm.locals ≤ R.locals) (N : Fr n0 locs) (eT : T.heap = h) (hsize : Ls.size = c.maxLocals) {argsL rest : List Value} (hlen : ∀ sig, parseMethodDescriptor y.desc = some sig → argsL.length = sig.parameters.length) (hW : (rest.map fun v => v.category).sum ≤ W) (hc : cells + rm.cells ≤ R.cells) (hs : slots + rm.slots ≤ R.slots) (M : MeetsW l y bytes maxL ret [] rm rm.cells rm.slots Z argsL.toArray h n0 Q') (hst : st = argsL.reverse ++ rest) (hd : decode c.code pc = .ok (.invokestatic index, 3))
    (k : ∀ v T' locs' k1, Stand p l e R (s.setVm T'.vm) m args below meth c T' locs' (cells + rm.cells) (slots + rm.slots) → s.Since T'.vm k1 → k1 ≤ T'.heap.size → Z.Warmed39 (s.setVm T'.vm).vm → (s.setVm T'.vm).vm.findClass own = some m.cls → Fr n0 locs' → Q' v T'.heap → Goes p e below FE n0 Q (T'.setTop (mkF m (pc + 3) Ls (v.toList ++ rest)))) : Goes p e below FE n0 Q (T.setTop (mkF m pc Ls st)) := by
  subst hst
  obtain ⟨v, _, ⟨T', L', k', n'⟩, -, X', h2, hg, ⟨Lc, hQ, l1, l2, l3⟩, st'⟩ := callSS X hx (y := y) hown (mvT hZ w1) (mvT hZ w2) (mvT hZ w3) (mvT hZ w4) hy (backOfS (W := W) (Q := fun v h L => Fr n0 L ∧ Q' v h) M hZ w4 w3 hf hl) (g := mkF m pc Ls (argsL.reverse ++ rest)) rfl hsize (argsL := argsL) (rest := rest) hlen rfl (by show 2 * 0 + _ ≤ _; omega) hd (fun _ _ => ⟨rfl, eT, hc, hs⟩)
  dsimp only [Pt.U, Pt.locs, Pt.cells, Pt.slots] at X' l1 l2 l3 st' hQ h2 hg
  subst l1 l2 l3
  obtain ⟨X'', S'', Z'', o''⟩ := rebS hS hk X' h2 (eT ▸ hg) hZ hown
  exact Goes.via (fun _ k => st'.trans k) (k v T' _ _ X'' S'' (Nat.le_refl _) Z'' o'' (Fr.app N hQ.1) hQ.2)
theorem own_virtualW (X : Stand p l e R (s.setVm vm0) m args below meth c T locs cells slots) (hx : p.tables.exec = Jvm.exec) (hZ : Z.Warmed39 (s.setVm vm0).vm) {own : String} {index : Nat} (hown : (s.setVm vm0).vm.findClass own = some m.cls) (hS : s.Since vm0 k0) (hk : k0 ≤ h.size) {y : MethodName} {bytes : ByteArray} {maxL : Nat} {ret : Option FieldType} {rm : Room} {W : Nat} {Q' : Option Value → Heap → Prop} {z : MethodName} {C : String} (w1 : (Jvm.Cond.methodLink own index y).before a0 Z = true) (w2 : (Jvm.Cond.declares y).before a0 Z = true) (hnf : NotFace (s.setVm vm0) y) (w5 : (Jvm.Cond.selects C y z).before a0 Z = true) (w6 : (Jvm.Cond.instanceMethod z).before a0 Z = true) (w3 : (Jvm.Cond.initialized z.cls).before a0 Z = true) (w4 : (Jvm.Cond.code z bytes maxL ret).before a0 Z = true) {a : Addr} (E : Exa Z h a C) (hy : y.cls ≠ "java/lang/invoke/MethodHandle" ∧ y.cls ≠ "java/lang/invoke/VarHandle") (hf : rm.frames + 1 ≤ R.frames) (hl : W + (maxL + 11) + rm.locals ≤ R.locals) (N : Fr n0 locs) (eT : T.heap = h) (hsize : Ls.size = c.maxLocals) {argsL rest : List Value} (hlen : ∀ sig, parseMethodDescriptor y.desc = some sig → argsL.length = sig.parameters.length) (hW : (rest.map fun v => v.category).sum ≤ W) (hc : cells + rm.cells ≤ R.cells) (hs : slots + rm.slots ≤ R.slots) (M : MeetsW l z bytes maxL ret [] rm rm.cells rm.slots Z (.ref a :: argsL).toArray h n0 Q') (hst : st = argsL.reverse ++ .ref a :: rest) (hd : decode c.code pc = .ok (.invokevirtual index, 3))
    (k : ∀ v T' locs' k1, Stand p l e R (s.setVm T'.vm) m args below meth c T' locs' (cells + rm.cells) (slots + rm.slots) → s.Since T'.vm k1 → k1 ≤ T'.heap.size → Z.Warmed39 (s.setVm T'.vm).vm → (s.setVm T'.vm).vm.findClass own = some m.cls → Fr n0 locs' → Q' v T'.heap → Goes p e below FE n0 Q (T'.setTop (mkF m (pc + 3) Ls (v.toList ++ rest)))) : Goes p e below FE n0 Q (T.setTop (mkF m pc Ls st)) := by
  subst hst
  obtain ⟨cq, kq, qa, qb, qc⟩ := isOf hZ eT E
  obtain ⟨v, _, ⟨T', L', k', n'⟩, -, X', h2, hg, ⟨Lc, hQ, l1, l2, l3⟩, st'⟩ := X.virtualBackS hx (y := y) (z := z) hown (mvT hZ w1) (mvT hZ w2) hnf (mvT hZ w5) (mvT hZ w6) hy (backOfS (W := W) (Q := fun v h L => Fr n0 L ∧ Q' v h) M hZ w4 w3 hf hl) qa qc (g := mkF m pc Ls (argsL.reverse ++ .ref a :: rest)) rfl hsize (Steps.refl _) (argsL := argsL) (rest := rest) hlen rfl (by show 2 * 0 + _ ≤ _; omega) hd (fun _ _ => ⟨rfl, eT, hc, hs⟩)
  dsimp only [Pt.U, Pt.locs, Pt.cells, Pt.slots] at X' l1 l2 l3 st' hQ h2 hg
  subst l1 l2 l3
  obtain ⟨X'', S'', Z'', o''⟩ := rebS hS hk X' h2 (eT ▸ hg) hZ hown
  exact Goes.via (fun _ k => st'.trans k) (k v T' _ _ X'' S'' (Nat.le_refl _) Z'' o'' (Fr.app N hQ.1) hQ.2)
end OwnWide
def Start (Z : State)  : Prop :=
  True
abbrev Rg (x : Int32) : Prop := 0 ≤ x.toInt ∧ x.toInt < 8
theorem own_z0 : (0 : Int32).toInt = 0 := by decide
theorem own_z1 : (1 : Int32).toInt = 1 := by decide
theorem own_z8 : (8 : Int32).toInt = 8 := by decide
theorem Rg.ix {x : Int32} (h : Rg x) : ¬ x < 0 ∧ x < (8 : Int32) := by
  refine ⟨?_, ?_⟩
  · rw [Int32.lt_iff_toInt_lt, own_z0]; omega
  · rw [Int32.lt_iff_toInt_lt, own_z8]; omega
theorem Rg.nat {x : Int32} (h : Rg x) : x.toNatClampNeg < 8 := by
  have := nat_of h.ix.1
  omega
theorem Rg.ne8 {x : Int32} (h : Rg x) : ¬ (x = (8 : Int32)) := fun q => by rw [q] at h; revert h; decide
theorem own_lt1 {n : Int32} (h : Rg (n - (1 : Int32))) : (n - (1 : Int32)) < n := by
  have a := c_isub n 1
  have b := rng32 n
  rw [Int32.lt_iff_toInt_lt]
  have := own_z1
  omega
theorem own_0lt {n : Int32} (h : Rg (n - (1 : Int32))) : (0 : Int32) < n := by
  have a := c_isub n 1
  have b := rng32 n
  rw [Int32.lt_iff_toInt_lt, own_z0]
  have := own_z1
  omega
theorem own_sl1 {d i : Int32} (hd : Rg d) (hi : Rg i) (h : i < ((8 : Int32) - d)) : Rg (d + i) := by
  have a := c_isub 8 d
  have b := rng32 ((8 : Int32) - d)
  have c := c_iadd d i
  have e := rng32 (d + i)
  rw [Int32.lt_iff_toInt_lt] at h
  have := own_z8
  unfold Rg at *
  omega
theorem own_sl2 {d i : Int32} (hd : Rg d) (hi : Rg i) (h : ¬ (i < ((8 : Int32) - d))) : Rg (i - ((8 : Int32) - d)) := by
  have a := c_isub 8 d
  have b := rng32 ((8 : Int32) - d)
  have c := c_isub i ((8 : Int32) - d)
  have e := rng32 (i - ((8 : Int32) - d))
  rw [Int32.lt_iff_toInt_lt] at h
  have := own_z8
  unfold Rg at *
  omega
theorem own_hd1 {d : Int32} (hd : Rg d) (h : ¬ (d = (0 : Int32))) : Rg (d - (1 : Int32)) := by
  have a := c_isub d 1
  have b := rng32 (d - 1)
  have e : d.toInt ≠ 0 := fun q => h (Int32.toInt_inj.mp (by rw [q, own_z0]))
  have := own_z1
  unfold Rg at *
  omega
theorem own_elt {Z : State} {h : Heap} {a : Addr} {k : ClassId} {j : Int32} {vs : List Value} (F : Arv Z h a k (.array .byte) (8 : Int32) vs .null) (hj : ¬ j < 0 ∧ j < (8 : Int32)) : vs.getD j.toNatClampNeg .null = .null ∨ ∃ b, vs.getD j.toNatClampNeg .null = .ref b := by
  obtain ⟨c, A, -, S, -, H, G⟩ := F
  have q := inb_of S hj
  exact ref_cases (fit_R (G _ (Nat.lt_of_not_le fun y => q (Or.inr y))) rfl)
theorem d3_0 : decode prog_15_method_3_code 0 = .ok (.aload_n 0, 1) := by decide +kernel
theorem d3_1 : decode prog_15_method_3_code 1 = .ok (.getfield 17, 3) := by decide +kernel
theorem d3_4 : decode prog_15_method_3_code 4 = .ok (.ifCond .ne 7, 3) := by decide +kernel
theorem d3_7 : decode prog_15_method_3_code 7 = .ok (.iconst 1, 1) := by decide +kernel
theorem d3_8 : decode prog_15_method_3_code 8 = .ok (.goto 4, 3) := by decide +kernel
theorem d3_12 : decode prog_15_method_3_code 12 = .ok (.ireturn, 1) := by decide +kernel
theorem d3_11 : decode prog_15_method_3_code 11 = .ok (.iconst 0, 1) := by decide +kernel
theorem pn_0 : plainName "com/example/kache/kache/store/ListValue" = true := by first | (simp [plainName, overriddenIn]; done) | decide +kernel
def Q3 (Z : State) (a1 : Addr) (n : Int32) (h0 : Heap) (n0 : Nat) (v : Option Value) (h : Heap) : Prop :=
  (v = some (.int (if n = (0 : Int32) then (1 : Int32) else (0 : Int32))) ∧ h = h0)
theorem ef_3 (m : MethodId) (a1 : Addr) : entryFrame m #[(.ref a1)] 1 = mkF m 0 #[.val (.ref a1)] [] := by first | (simp [entryFrame, mkF, argsToLocals, Value.category]; done) | rfl
set_option maxRecDepth 65536 in
set_option maxHeartbeats 40000000 in
theorem rm3 (l : Launch) (Z : State) (a0 : Array Value) (hw : ∀ d ∈ tables_1, d.before a0 Z = true) (ws : List Jvm.Cond) (a1 : Addr) (n : Int32) (h0 : Heap) (n0 : Nat) (O0 : Old Z n0 h0) (f0 : Fld Z h0 a1 "com/example/kache/kache/store/ListValue" "size" "I" (.int n)) :
    Meets l (⟨"com/example/kache/kache/store/ListValue", "isEmpty", "()Z"⟩ : MethodName) prog_15_method_3_code 1 (some .boolean) ws ({ frames := 0, cells := 0, slots := 0, locals := 0 } : Room) ({ frames := 0, cells := 0, slots := 0, locals := 0 } : Room).cells ({ frames := 0, cells := 0, slots := 0, locals := 0 } : Room).slots Z #[(.ref a1)] h0 n0 (Q3 Z a1 n h0 n0) := by
  refine Meets.of (F := fun m => mkF m 0 #[.val (.ref a1)] []) (plainFor_of_name pn_0) (fun m => ef_3 m a1) ?_
  intro p e s m below meth c T0 hx hby hml hown0 hnm hret hlk hZ X0 e0
  have hown : s.vm.findClass "com/example/kache/kache/store/ListValue" = some m.cls := hown0
  have N0 := Fr.nil n0
  show Goes _ _ _ _ _ _ (T0.setTop (mkF m 0 #[.val (.ref a1)] []))
  refine own_aloadN X0 hx (hb hby d3_0) rfl rfl ?_
  refine own_getF X0 hx hZ hown (host := "") (Or.inl (hw _ (List.mem_of_getElem? (i := 19) rfl))) Via.refl e0 f0 (hb hby d3_1) (fun T1 X1 e1 => ?_)
  show Goes _ _ _ _ _ _ (T1.setTop (mkF m 4 #[.val (.ref a1)] [(.int n)]))
  by_cases hc4_2 : n = (0 : Int32)
  ·
    refine own_ifNo X1 hx (hb hby d3_4) ((if0 _ _).trans (teq (hc4_2 : n = (0 : Int32))).2) ?_
    show Goes _ _ _ _ _ _ (T1.setTop (mkF m 7 #[.val (.ref a1)] []))
    refine own_iconst X1 hx (v := (1 : Int32)) (hb hby d3_7) rfl ?_
    refine own_goto X1 hx (pc' := 12) (hb hby d3_8) (by decide) (by decide) ?_
    show Goes _ _ _ _ _ _ (T1.setTop (mkF m 12 #[.val (.ref a1)] [(.int (1 : Int32))]))
    exact own_retN X1 hx (t := .boolean) N0 hlk (by decide) (by decide) hret (by simp) (hb hby d3_12) (by rw [e1]; exact ⟨(by first | rfl | (rw [if_pos (by assumption)]; rfl) | (rw [if_neg (by assumption)]; rfl) | simp_all), rfl⟩)
  ·
    refine own_ifYes X1 hx (pc' := 11) (hb hby d3_4) ((if0 _ _).trans (feq (hc4_2 : ¬ (n = (0 : Int32)))).2) (by decide) (by decide) ?_
    show Goes _ _ _ _ _ _ (T1.setTop (mkF m 11 #[.val (.ref a1)] []))
    refine own_iconst X1 hx (v := (0 : Int32)) (hb hby d3_11) rfl ?_
    show Goes _ _ _ _ _ _ (T1.setTop (mkF m 12 #[.val (.ref a1)] [(.int (0 : Int32))]))
    exact own_retN X1 hx (t := .boolean) N0 hlk (by decide) (by decide) hret (by simp) (hb hby d3_12) (by rw [e1]; exact ⟨(by first | rfl | (rw [if_pos (by assumption)]; rfl) | (rw [if_neg (by assumption)]; rfl) | simp_all), rfl⟩)
theorem d1_0 : decode prog_15_method_1_code 0 = .ok (.aload_n 0, 1) := by decide +kernel
theorem d1_1 : decode prog_15_method_1_code 1 = .ok (.invokespecial 3, 3) := by decide +kernel
theorem d1_4 : decode prog_15_method_1_code 4 = .ok (.aload_n 0, 1) := by decide +kernel
theorem d1_5 : decode prog_15_method_1_code 5 = .ok (.bipush 8, 2) := by decide +kernel
theorem d1_7 : decode prog_15_method_1_code 7 = .ok (.anewarray 11, 3) := by decide +kernel
theorem d1_10 : decode prog_15_method_1_code 10 = .ok (.putfield 13, 3) := by decide +kernel
theorem d1_13 : decode prog_15_method_1_code 13 = .ok (.return_, 1) := by decide +kernel
def Q1 (Z : State) (a1 : Addr) (u1 : Value) (h0 : Heap) (n0 : Nat) (v : Option Value) (h : Heap) : Prop :=
  (∃ (r : Addr) (k : ClassId), v = none ∧ Keep h0 h [a1] ∧ Exa Z h a1 "com/example/kache/kache/store/ListValue" ∧ Fld Z h a1 "com/example/kache/kache/store/ListValue" "ring" "[[B" (.ref r) ∧ Fld Z h a1 "com/example/kache/kache/store/ListValue" "head" "I" (.int (0 : Int32)) ∧ Fld Z h a1 "com/example/kache/kache/store/ListValue" "size" "I" (.int (0 : Int32)) ∧ Arv Z h r k (.array .byte) (8 : Int32) [.null, .null, .null, .null, .null, .null, .null, .null] .null ∧ h0.size ≤ r ∧ OvrA Z k .byte "[B")
theorem ef_1 (m : MethodId) (a1 : Addr) : entryFrame m #[(.ref a1)] 1 = mkF m 0 #[.val (.ref a1)] [] := by first | (simp [entryFrame, mkF, argsToLocals, Value.category]; done) | rfl
set_option maxRecDepth 65536 in
set_option maxHeartbeats 40000000 in
theorem rm1 (l : Launch) (Z : State) (a0 : Array Value) (hw : ∀ d ∈ tables_1, d.before a0 Z = true) (ws : List Jvm.Cond) (a1 : Addr) (u1 : Value) (h0 : Heap) (n0 : Nat) (O0 : Old Z n0 h0) (f0 : Exa Z h0 a1 "com/example/kache/kache/store/ListValue") (f1 : Fld Z h0 a1 "com/example/kache/kache/store/ListValue" "ring" "[[B" u1) (f2 : Fld Z h0 a1 "com/example/kache/kache/store/ListValue" "head" "I" (.int (0 : Int32))) (f3 : Fld Z h0 a1 "com/example/kache/kache/store/ListValue" "size" "I" (.int (0 : Int32))) (f4 : n0 ≤ a1) :
    Meets l (⟨"com/example/kache/kache/store/ListValue", "<init>", "()V"⟩ : MethodName) prog_15_method_1_code 1 none ws ({ frames := 1, cells := 1, slots := 8, locals := 12 } : Room) ({ frames := 1, cells := 1, slots := 8, locals := 12 } : Room).cells ({ frames := 1, cells := 1, slots := 8, locals := 12 } : Room).slots Z #[(.ref a1)] h0 n0 (Q1 Z a1 u1 h0 n0) := by
  refine Meets.of (F := fun m => mkF m 0 #[.val (.ref a1)] []) (plainFor_of_name pn_0) (fun m => ef_1 m a1) ?_
  intro p e s m below meth c T0 hx hby hml hown0 hnm hret hlk hZ X0 e0
  have hown : s.vm.findClass "com/example/kache/kache/store/ListValue" = some m.cls := hown0
  have N0 := Fr.nil n0
  have KC0 := Keep.refl h0 [a1]
  show Goes _ _ _ _ _ _ (T0.setTop (mkF m 0 #[.val (.ref a1)] []))
  refine own_aloadN X0 hx (hb hby d1_0) rfl rfl ?_
  refine own_initO X0 hx hZ hown (hw _ (List.mem_of_getElem? (i := 7) rfl)) (hw _ (List.mem_of_getElem? (i := 8) rfl)) (hw _ (List.mem_of_getElem? (i := 9) rfl)) e0 (by rw [hml]; rfl) (hb hby d1_1) (by decide) (W := 0) (Nat.le_of_eq rfl) (by decide) (fun T1 X1 e1 => ?_)
  show Goes _ _ _ _ _ _ (T1.setTop (mkF m 4 #[.val (.ref a1)] []))
  refine own_aloadN X1 hx (hb hby d1_4) rfl rfl ?_
  refine own_bipush X1 hx (v := (8 : Int32)) (hb hby d1_5) rfl ?_
  refine own_newRA X1 hx hZ hown (C := "[B") (ad := "[[B") (ty := .byte) (by decide +kernel) (by decide +kernel) (hw _ (List.mem_of_getElem? (i := 10) rfl)) (hw _ (List.mem_of_getElem? (i := 11) rfl)) e1 (hb hby d1_7) (by decide) (cap := 8) (by decide) (by decide) (by decide) (by decide) (fun T2 h2 b2 k2 g2 X2 e2 E2 A2 O2_ => ?_)
  have ne_a1_b2 : a1 ≠ b2 := Nat.ne_of_lt (Nat.lt_of_lt_of_le f0.lt (Nat.le_of_eq g2.symm))
  have ge_b2 : n0 ≤ b2 := Nat.le_trans (own_sz O0) (Nat.le_of_eq g2.symm)
  have sz_b2 : h0.size ≤ b2 := Nat.le_trans KC0.1 (Nat.le_of_eq g2.symm)
  have E3_a1 := f0.ext E2
  have F3_ring_a1 := f1.ext E2
  have F3_head_a1 := f2.ext E2
  have F3_size_a1 := f3.ext E2
  have O3 := O0.ext E2
  have KC3 := KC0.ext E2
  have V2 : Arv Z h2 b2 k2 (.array .byte) (8 : Int32) [.null, .null, .null, .null, .null, .null, .null, .null] .null := A2.pad (pad_rep [] .null 8)
  show Goes _ _ _ _ _ _ (T2.setTop (mkF m 10 #[.val (.ref a1)] [(.ref b2), (.ref a1)]))
  refine own_putF X2 hx hZ hown N0 (host := "") (Or.inl (hw _ (List.mem_of_getElem? (i := 12) rfl))) Via.refl e2 F3_ring_a1 E3_a1 (Or.inl (hw _ (List.mem_of_getElem? (i := 13) rfl))) (hw _ (List.mem_of_getElem? (i := 2) rfl)) (ty := (.array (.array .byte))) (by decide) rfl rfl f4 (hb hby d1_10) (fun T4 h4 lc4 X4 e4 N4 W4 => ?_)
  have E5_a1 := E3_a1.wr W4
  have F5_ring_a1 := F3_ring_a1.same W4
  have F5_head_a1 := F3_head_a1.other W4 (Or.inr (slot_ne (Or.inl (hw _ (List.mem_of_getElem? (i := 47) rfl))) (Or.inl (hw _ (List.mem_of_getElem? (i := 13) rfl))) (by decide) (t := .int) (t' := (.array (.array .byte))) (by decide) (by decide)))
  have F5_size_a1 := F3_size_a1.other W4 (Or.inr (slot_ne (Or.inl (hw _ (List.mem_of_getElem? (i := 20) rfl))) (Or.inl (hw _ (List.mem_of_getElem? (i := 13) rfl))) (by decide) (t := .int) (t' := (.array (.array .byte))) (by decide) (by decide)))
  have A5_b2 := V2.other W4 (Ne.symm ne_a1_b2)
  have O5 := O3.wr W4 f4
  have KC5 := KC3.wr W4 (Or.inl (List.mem_of_getElem? (i := 0) rfl))
  show Goes _ _ _ _ _ _ (T4.setTop (mkF m 13 #[.val (.ref a1)] []))
  exact own_retV X4 hx N4 hlk (by decide) (by decide) hret (hb hby d1_13) (by rw [e4]; exact ⟨b2, k2, rfl, KC5, E5_a1, F5_ring_a1, F5_head_a1, F5_size_a1, A5_b2, sz_b2, O2_⟩)
theorem d6_0 : decode jdk_31_method_11_code 0 = .ok (.aload_n 0, 1) := by decide +kernel
theorem d6_1 : decode jdk_31_method_11_code 1 = .ok (.ifnonnull 12, 3) := by decide +kernel
theorem d6_13 : decode jdk_31_method_11_code 13 = .ok (.aload_n 0, 1) := by decide +kernel
theorem d6_14 : decode jdk_31_method_11_code 14 = .ok (.areturn, 1) := by decide +kernel
theorem pn_1 : plainName "java/util/Objects" = true := by first | (simp [plainName, overriddenIn]; done) | decide +kernel
def Q6 (Z : State) (a1 : Addr) (a2 : Addr) (h0 : Heap) (n0 : Nat) (v : Option Value) (h : Heap) : Prop :=
  (v = some (.ref a1) ∧ h = h0)
theorem ef_6 (m : MethodId) (a1 : Addr) (a2 : Addr) : entryFrame m #[(.ref a1), (.ref a2)] 2 = mkF m 0 #[.val (.ref a1), .val (.ref a2)] [] := by first | (simp [entryFrame, mkF, argsToLocals, Value.category]; done) | rfl
set_option maxRecDepth 65536 in
set_option maxHeartbeats 40000000 in
theorem rm6 (l : Launch) (Z : State) (a0 : Array Value) (hw : ∀ d ∈ tables_1, d.before a0 Z = true) (ws : List Jvm.Cond) (a1 : Addr) (a2 : Addr) (h0 : Heap) (n0 : Nat) (O0 : Old Z n0 h0) :
    Meets l (⟨"java/util/Objects", "requireNonNull", "(Ljava/lang/Object;Ljava/lang/String;)Ljava/lang/Object;"⟩ : MethodName) jdk_31_method_11_code 2 (some (.object "java/lang/Object")) ws ({ frames := 0, cells := 0, slots := 0, locals := 0 } : Room) ({ frames := 0, cells := 0, slots := 0, locals := 0 } : Room).cells ({ frames := 0, cells := 0, slots := 0, locals := 0 } : Room).slots Z #[(.ref a1), (.ref a2)] h0 n0 (Q6 Z a1 a2 h0 n0) := by
  refine Meets.of (F := fun m => mkF m 0 #[.val (.ref a1), .val (.ref a2)] []) (plainFor_of_name pn_1) (fun m => ef_6 m a1 a2) ?_
  intro p e s m below meth c T0 hx hby hml hown0 hnm hret hlk hZ X0 e0
  have hown : s.vm.findClass "java/util/Objects" = some m.cls := hown0
  have N0 := Fr.nil n0
  show Goes _ _ _ _ _ _ (T0.setTop (mkF m 0 #[.val (.ref a1), .val (.ref a2)] []))
  refine own_aloadN X0 hx (hb hby d6_0) rfl rfl ?_
  refine own_ifnonnullYes X0 hx (pc' := 13) (hb hby d6_1) (by decide) (by decide) ?_
  refine own_aloadN X0 hx (hb hby d6_13) rfl rfl ?_
  show Goes _ _ _ _ _ _ (T0.setTop (mkF m 14 #[.val (.ref a1), .val (.ref a2)] [(.ref a1)]))
  exact own_retR X0 hx N0 hlk (by decide) (by decide) hret rfl rfl rfl (hb hby d6_14) (by rw [e0]; exact ⟨rfl, rfl⟩)
theorem d14_0 : decode jdk_41_method_11_code 0 = .ok (.iload_n 0, 1) := by decide +kernel
theorem d14_1 : decode jdk_41_method_11_code 1 = .ok (.ifCond .lt 8, 3) := by decide +kernel
theorem d14_4 : decode jdk_41_method_11_code 4 = .ok (.iload_n 0, 1) := by decide +kernel
theorem d14_5 : decode jdk_41_method_11_code 5 = .ok (.iload_n 1, 1) := by decide +kernel
theorem d14_6 : decode jdk_41_method_11_code 6 = .ok (.if_icmp .lt 10, 3) := by decide +kernel
theorem d14_16 : decode jdk_41_method_11_code 16 = .ok (.iload_n 0, 1) := by decide +kernel
theorem d14_17 : decode jdk_41_method_11_code 17 = .ok (.ireturn, 1) := by decide +kernel
theorem pn_2 : plainName "jdk/internal/util/Preconditions" = true := by first | (simp [plainName, overriddenIn]; done) | decide +kernel
def Q14 (Z : State) (p1 : Int32) (p2 : Int32) (h0 : Heap) (n0 : Nat) (v : Option Value) (h : Heap) : Prop :=
  (v = some (.int p1) ∧ h = h0)
theorem ef_14 (m : MethodId) (p1 : Int32) (p2 : Int32) : entryFrame m #[(.int p1), (.int p2), .null] 3 = mkF m 0 #[.val (.int p1), .val (.int p2), .val .null] [] := by first | (simp [entryFrame, mkF, argsToLocals, Value.category]; done) | rfl
set_option maxRecDepth 65536 in
set_option maxHeartbeats 40000000 in
theorem rm14 (l : Launch) (Z : State) (a0 : Array Value) (hw : ∀ d ∈ tables_1, d.before a0 Z = true) (ws : List Jvm.Cond) (p1 : Int32) (p2 : Int32) (h0 : Heap) (n0 : Nat) (O0 : Old Z n0 h0) (hi0 : ¬ (p1 < (0 : Int32))) (hi1 : p1 < p2) :
    Meets l (⟨"jdk/internal/util/Preconditions", "checkIndex", "(IILjava/util/function/BiFunction;)I"⟩ : MethodName) jdk_41_method_11_code 3 (some .int) ws ({ frames := 0, cells := 0, slots := 0, locals := 0 } : Room) ({ frames := 0, cells := 0, slots := 0, locals := 0 } : Room).cells ({ frames := 0, cells := 0, slots := 0, locals := 0 } : Room).slots Z #[(.int p1), (.int p2), .null] h0 n0 (Q14 Z p1 p2 h0 n0) := by
  refine Meets.of (F := fun m => mkF m 0 #[.val (.int p1), .val (.int p2), .val .null] []) (plainFor_of_name pn_2) (fun m => ef_14 m p1 p2) ?_
  intro p e s m below meth c T0 hx hby hml hown0 hnm hret hlk hZ X0 e0
  have hown : s.vm.findClass "jdk/internal/util/Preconditions" = some m.cls := hown0
  have N0 := Fr.nil n0
  show Goes _ _ _ _ _ _ (T0.setTop (mkF m 0 #[.val (.int p1), .val (.int p2), .val .null] []))
  refine own_iloadN X0 hx (hb hby d14_0) rfl ?_
  refine own_ifNo X0 hx (hb hby d14_1) ((if0 _ _).trans (flt (hi0 : ¬ (p1 < (0 : Int32)))).1) ?_
  show Goes _ _ _ _ _ _ (T0.setTop (mkF m 4 #[.val (.int p1), .val (.int p2), .val .null] []))
  refine own_iloadN X0 hx (hb hby d14_4) rfl ?_
  refine own_iloadN X0 hx (hb hby d14_5) rfl ?_
  refine own_icmpYes X0 hx (pc' := 16) (hb hby d14_6) (tlt (hi1 : p1 < p2)).1 (by decide) (by decide) ?_
  show Goes _ _ _ _ _ _ (T0.setTop (mkF m 16 #[.val (.int p1), .val (.int p2), .val .null] []))
  refine own_iloadN X0 hx (hb hby d14_16) rfl ?_
  show Goes _ _ _ _ _ _ (T0.setTop (mkF m 17 #[.val (.int p1), .val (.int p2), .val .null] [(.int p1)]))
  exact own_retI X0 hx N0 hlk (by decide) (by decide) hret (hb hby d14_17) (by rw [e0]; exact ⟨rfl, rfl⟩)
theorem d13_0 : decode jdk_31_method_17_code 0 = .ok (.iload_n 0, 1) := by decide +kernel
theorem d13_1 : decode jdk_31_method_17_code 1 = .ok (.iload_n 1, 1) := by decide +kernel
theorem d13_2 : decode jdk_31_method_17_code 2 = .ok (.aconst_null, 1) := by decide +kernel
theorem d13_3 : decode jdk_31_method_17_code 3 = .ok (.invokestatic 105, 3) := by decide +kernel
theorem pd_0 : parseMethodDescriptor "(IILjava/util/function/BiFunction;)I" = some ⟨[.int, .int, (.object "java/util/function/BiFunction")], some .int⟩ := by decide +kernel
theorem d13_6 : decode jdk_31_method_17_code 6 = .ok (.ireturn, 1) := by decide +kernel
def Q13 (Z : State) (p1 : Int32) (p2 : Int32) (h0 : Heap) (n0 : Nat) (v : Option Value) (h : Heap) : Prop :=
  (v = some (.int p1) ∧ h = h0)
theorem ef_13 (m : MethodId) (p1 : Int32) (p2 : Int32) : entryFrame m #[(.int p1), (.int p2)] 2 = mkF m 0 #[.val (.int p1), .val (.int p2)] [] := by first | (simp [entryFrame, mkF, argsToLocals, Value.category]; done) | rfl
set_option maxRecDepth 65536 in
set_option maxHeartbeats 40000000 in
theorem rm13 (l : Launch) (Z : State) (a0 : Array Value) (hw : ∀ d ∈ tables_1, d.before a0 Z = true) (ws : List Jvm.Cond) (p1 : Int32) (p2 : Int32) (h0 : Heap) (n0 : Nat) (O0 : Old Z n0 h0) (hi0 : ¬ (p1 < (0 : Int32))) (hi1 : p1 < p2) :
    Meets l (⟨"java/util/Objects", "checkIndex", "(II)I"⟩ : MethodName) jdk_31_method_17_code 2 (some .int) ws ({ frames := 1, cells := 0, slots := 0, locals := 14 } : Room) ({ frames := 1, cells := 0, slots := 0, locals := 14 } : Room).cells ({ frames := 1, cells := 0, slots := 0, locals := 14 } : Room).slots Z #[(.int p1), (.int p2)] h0 n0 (Q13 Z p1 p2 h0 n0) := by
  refine Meets.of (F := fun m => mkF m 0 #[.val (.int p1), .val (.int p2)] []) (plainFor_of_name pn_1) (fun m => ef_13 m p1 p2) ?_
  intro p e s m below meth c T0 hx hby hml hown0 hnm hret hlk hZ X0 e0
  have hown : s.vm.findClass "java/util/Objects" = some m.cls := hown0
  have N0 := Fr.nil n0
  show Goes _ _ _ _ _ _ (T0.setTop (mkF m 0 #[.val (.int p1), .val (.int p2)] []))
  refine own_iloadN X0 hx (hb hby d13_0) rfl ?_
  refine own_iloadN X0 hx (hb hby d13_1) rfl ?_
  refine own_aconst_null X0 hx (hb hby d13_2) ?_
  refine own_callS X0 hx hZ hown (y := (⟨"jdk/internal/util/Preconditions", "checkIndex", "(IILjava/util/function/BiFunction;)I"⟩ : MethodName)) (hw _ (List.mem_of_getElem? (i := 74) rfl)) (hw _ (List.mem_of_getElem? (i := 75) rfl)) (hw _ (List.mem_of_getElem? (i := 76) rfl)) (hw _ (List.mem_of_getElem? (i := 77) rfl)) (by decide) (W := 0) (by decide) (by decide) N0 e0 (by rw [hml]; rfl) (argsL := [(.int p1), (.int p2), .null]) (rest := []) (lenOf pd_0 rfl) (Nat.le_of_eq rfl) (by decide) (by decide) (rm14 l Z a0 hw [] p1 p2 h0 n0 O0 hi0 hi1) rfl (hb hby d13_3) ?_
  intro v1 T1 lc1 X1 N1 hQ1
  obtain ⟨rfl, e1⟩ := hQ1
  show Goes _ _ _ _ _ _ (T1.setTop (mkF m 6 #[.val (.int p1), .val (.int p2)] [(.int p1)]))
  exact own_retI X1 hx N1 hlk (by decide) (by decide) hret (hb hby d13_6) (by rw [e1]; exact ⟨rfl, rfl⟩)
theorem d7_0 : decode prog_15_method_16_code 0 = .ok (.aload_n 0, 1) := by decide +kernel
theorem d7_1 : decode prog_15_method_16_code 1 = .ok (.getfield 17, 3) := by decide +kernel
theorem d7_4 : decode prog_15_method_16_code 4 = .ok (.aload_n 0, 1) := by decide +kernel
theorem d7_5 : decode prog_15_method_16_code 5 = .ok (.getfield 13, 3) := by decide +kernel
theorem d7_8 : decode prog_15_method_16_code 8 = .ok (.arraylength, 1) := by decide +kernel
theorem d7_9 : decode prog_15_method_16_code 9 = .ok (.if_icmp .ne 42, 3) := by decide +kernel
theorem d7_51 : decode prog_15_method_16_code 51 = .ok (.return_, 1) := by decide +kernel
def Q7 (Z : State) (a1 : Addr) (r : Addr) (hd : Int32) (n : Int32) (k : ClassId) (vs : List Value) (h0 : Heap) (n0 : Nat) (v : Option Value) (h : Heap) : Prop :=
  (v = none ∧ h = h0)
theorem ef_7 (m : MethodId) (a1 : Addr) : entryFrame m #[(.ref a1)] 1 = mkF m 0 #[.val (.ref a1)] [] := by first | (simp [entryFrame, mkF, argsToLocals, Value.category]; done) | rfl
set_option maxRecDepth 65536 in
set_option maxHeartbeats 40000000 in
theorem rm7 (l : Launch) (Z : State) (a0 : Array Value) (hw : ∀ d ∈ tables_1, d.before a0 Z = true) (ws : List Jvm.Cond) (a1 : Addr) (r : Addr) (hd : Int32) (n : Int32) (k : ClassId) (vs : List Value) (h0 : Heap) (n0 : Nat) (O0 : Old Z n0 h0) (f0 : Exa Z h0 a1 "com/example/kache/kache/store/ListValue") (f1 : Fld Z h0 a1 "com/example/kache/kache/store/ListValue" "ring" "[[B" (.ref r)) (f2 : Fld Z h0 a1 "com/example/kache/kache/store/ListValue" "head" "I" (.int hd)) (f3 : Fld Z h0 a1 "com/example/kache/kache/store/ListValue" "size" "I" (.int n)) (f4 : Arv Z h0 r k (.array .byte) (8 : Int32) vs .null) (hrn : Rg n) :
    Meets l (⟨"com/example/kache/kache/store/ListValue", "makeRoomForOneMore", "()V"⟩ : MethodName) prog_15_method_16_code 1 none ws ({ frames := 0, cells := 0, slots := 0, locals := 0 } : Room) ({ frames := 0, cells := 0, slots := 0, locals := 0 } : Room).cells ({ frames := 0, cells := 0, slots := 0, locals := 0 } : Room).slots Z #[(.ref a1)] h0 n0 (Q7 Z a1 r hd n k vs h0 n0) := by
  refine Meets.of (F := fun m => mkF m 0 #[.val (.ref a1)] []) (plainFor_of_name pn_0) (fun m => ef_7 m a1) ?_
  intro p e s m below meth c T0 hx hby hml hown0 hnm hret hlk hZ X0 e0
  have hown : s.vm.findClass "com/example/kache/kache/store/ListValue" = some m.cls := hown0
  have N0 := Fr.nil n0
  show Goes _ _ _ _ _ _ (T0.setTop (mkF m 0 #[.val (.ref a1)] []))
  refine own_aloadN X0 hx (hb hby d7_0) rfl rfl ?_
  refine own_getF X0 hx hZ hown (host := "") (Or.inl (hw _ (List.mem_of_getElem? (i := 19) rfl))) Via.refl e0 f3 (hb hby d7_1) (fun T1 X1 e1 => ?_)
  show Goes _ _ _ _ _ _ (T1.setTop (mkF m 4 #[.val (.ref a1)] [(.int n)]))
  refine own_aloadN X1 hx (hb hby d7_4) rfl rfl ?_
  refine own_getF X1 hx hZ hown (host := "") (Or.inl (hw _ (List.mem_of_getElem? (i := 12) rfl))) Via.refl e1 f1 (hb hby d7_5) (fun T2 X2 e2 => ?_)
  show Goes _ _ _ _ _ _ (T2.setTop (mkF m 8 #[.val (.ref a1)] [(.ref r), (.int n)]))
  refine own_alen X2 hx hZ e2 f4 (hb hby d7_8) ?_
  refine own_icmpYes X2 hx (pc' := 51) (hb hby d7_9) (feq (hrn.ne8 : ¬ (n = (8 : Int32)))).2 (by decide) (by decide) ?_
  show Goes _ _ _ _ _ _ (T2.setTop (mkF m 51 #[.val (.ref a1)] []))
  exact own_retV X2 hx N0 hlk (by decide) (by decide) hret (hb hby d7_51) (by rw [e2]; exact ⟨rfl, rfl⟩)
theorem d15_0 : decode prog_15_method_17_code 0 = .ok (.aload_n 0, 1) := by decide +kernel
theorem d15_1 : decode prog_15_method_17_code 1 = .ok (.getfield 13, 3) := by decide +kernel
theorem d15_4 : decode prog_15_method_17_code 4 = .ok (.arraylength, 1) := by decide +kernel
theorem d15_5 : decode prog_15_method_17_code 5 = .ok (.bipush 8, 2) := by decide +kernel
theorem d15_7 : decode prog_15_method_17_code 7 = .ok (.if_icmp .le 32, 3) := by decide +kernel
theorem d15_39 : decode prog_15_method_17_code 39 = .ok (.return_, 1) := by decide +kernel
def Q15 (Z : State) (a1 : Addr) (r : Addr) (hd : Int32) (n : Int32) (k : ClassId) (vs : List Value) (h0 : Heap) (n0 : Nat) (v : Option Value) (h : Heap) : Prop :=
  (v = none ∧ h = h0)
theorem ef_15 (m : MethodId) (a1 : Addr) : entryFrame m #[(.ref a1)] 1 = mkF m 0 #[.val (.ref a1)] [] := by first | (simp [entryFrame, mkF, argsToLocals, Value.category]; done) | rfl
set_option maxRecDepth 65536 in
set_option maxHeartbeats 40000000 in
theorem rm15 (l : Launch) (Z : State) (a0 : Array Value) (hw : ∀ d ∈ tables_1, d.before a0 Z = true) (ws : List Jvm.Cond) (a1 : Addr) (r : Addr) (hd : Int32) (n : Int32) (k : ClassId) (vs : List Value) (h0 : Heap) (n0 : Nat) (O0 : Old Z n0 h0) (f0 : Exa Z h0 a1 "com/example/kache/kache/store/ListValue") (f1 : Fld Z h0 a1 "com/example/kache/kache/store/ListValue" "ring" "[[B" (.ref r)) (f2 : Fld Z h0 a1 "com/example/kache/kache/store/ListValue" "head" "I" (.int hd)) (f3 : Fld Z h0 a1 "com/example/kache/kache/store/ListValue" "size" "I" (.int n)) (f4 : Arv Z h0 r k (.array .byte) (8 : Int32) vs .null) :
    Meets l (⟨"com/example/kache/kache/store/ListValue", "shrinkIfSparse", "()V"⟩ : MethodName) prog_15_method_17_code 1 none ws ({ frames := 0, cells := 0, slots := 0, locals := 0 } : Room) ({ frames := 0, cells := 0, slots := 0, locals := 0 } : Room).cells ({ frames := 0, cells := 0, slots := 0, locals := 0 } : Room).slots Z #[(.ref a1)] h0 n0 (Q15 Z a1 r hd n k vs h0 n0) := by
  refine Meets.of (F := fun m => mkF m 0 #[.val (.ref a1)] []) (plainFor_of_name pn_0) (fun m => ef_15 m a1) ?_
  intro p e s m below meth c T0 hx hby hml hown0 hnm hret hlk hZ X0 e0
  have hown : s.vm.findClass "com/example/kache/kache/store/ListValue" = some m.cls := hown0
  have N0 := Fr.nil n0
  show Goes _ _ _ _ _ _ (T0.setTop (mkF m 0 #[.val (.ref a1)] []))
  refine own_aloadN X0 hx (hb hby d15_0) rfl rfl ?_
  refine own_getF X0 hx hZ hown (host := "") (Or.inl (hw _ (List.mem_of_getElem? (i := 12) rfl))) Via.refl e0 f1 (hb hby d15_1) (fun T1 X1 e1 => ?_)
  show Goes _ _ _ _ _ _ (T1.setTop (mkF m 4 #[.val (.ref a1)] [(.ref r)]))
  refine own_alen X1 hx hZ e1 f4 (hb hby d15_4) ?_
  refine own_bipush X1 hx (v := (8 : Int32)) (hb hby d15_5) rfl ?_
  refine own_icmpYes X1 hx (pc' := 39) (hb hby d15_7) (flt (by decide : ¬ ((8 : Int32) < (8 : Int32)))).2.2.2 (by decide) (by decide) ?_
  show Goes _ _ _ _ _ _ (T1.setTop (mkF m 39 #[.val (.ref a1)] []))
  exact own_retV X1 hx N0 hlk (by decide) (by decide) hret (hb hby d15_39) (by rw [e1]; exact ⟨rfl, rfl⟩)
theorem d9_0 : decode prog_15_method_15_code 0 = .ok (.aload_n 0, 1) := by decide +kernel
theorem d9_1 : decode prog_15_method_15_code 1 = .ok (.getfield 13, 3) := by decide +kernel
theorem d9_4 : decode prog_15_method_15_code 4 = .ok (.arraylength, 1) := by decide +kernel
theorem d9_5 : decode prog_15_method_15_code 5 = .ok (.aload_n 0, 1) := by decide +kernel
theorem d9_6 : decode prog_15_method_15_code 6 = .ok (.getfield 41, 3) := by decide +kernel
theorem d9_9 : decode prog_15_method_15_code 9 = .ok (.isub, 1) := by decide +kernel
theorem d9_10 : decode prog_15_method_15_code 10 = .ok (.istore_n 2, 1) := by decide +kernel
theorem d9_11 : decode prog_15_method_15_code 11 = .ok (.iload_n 1, 1) := by decide +kernel
theorem d9_12 : decode prog_15_method_15_code 12 = .ok (.iload_n 2, 1) := by decide +kernel
theorem d9_13 : decode prog_15_method_15_code 13 = .ok (.if_icmp .ge 12, 3) := by decide +kernel
theorem d9_16 : decode prog_15_method_15_code 16 = .ok (.aload_n 0, 1) := by decide +kernel
theorem d9_17 : decode prog_15_method_15_code 17 = .ok (.getfield 41, 3) := by decide +kernel
theorem d9_20 : decode prog_15_method_15_code 20 = .ok (.iload_n 1, 1) := by decide +kernel
theorem d9_21 : decode prog_15_method_15_code 21 = .ok (.iadd, 1) := by decide +kernel
theorem d9_22 : decode prog_15_method_15_code 22 = .ok (.goto 6, 3) := by decide +kernel
theorem d9_28 : decode prog_15_method_15_code 28 = .ok (.ireturn, 1) := by decide +kernel
theorem d9_25 : decode prog_15_method_15_code 25 = .ok (.iload_n 1, 1) := by decide +kernel
theorem d9_26 : decode prog_15_method_15_code 26 = .ok (.iload_n 2, 1) := by decide +kernel
theorem d9_27 : decode prog_15_method_15_code 27 = .ok (.isub, 1) := by decide +kernel
def Q9 (Z : State) (a1 : Addr) (p2 : Int32) (r : Addr) (hd : Int32) (n : Int32) (k : ClassId) (vs : List Value) (h0 : Heap) (n0 : Nat) (v : Option Value) (h : Heap) : Prop :=
  (∃ (j : Int32), v = some (.int j) ∧ Rg j ∧ h = h0)
theorem ef_9 (m : MethodId) (a1 : Addr) (p2 : Int32) : entryFrame m #[(.ref a1), (.int p2)] 3 = mkF m 0 #[.val (.ref a1), .val (.int p2), .unset] [] := by first | (simp [entryFrame, mkF, argsToLocals, Value.category]; done) | rfl
set_option maxRecDepth 65536 in
set_option maxHeartbeats 40000000 in
theorem rm9 (l : Launch) (Z : State) (a0 : Array Value) (hw : ∀ d ∈ tables_1, d.before a0 Z = true) (ws : List Jvm.Cond) (a1 : Addr) (p2 : Int32) (r : Addr) (hd : Int32) (n : Int32) (k : ClassId) (vs : List Value) (h0 : Heap) (n0 : Nat) (O0 : Old Z n0 h0) (f0 : Exa Z h0 a1 "com/example/kache/kache/store/ListValue") (f1 : Fld Z h0 a1 "com/example/kache/kache/store/ListValue" "ring" "[[B" (.ref r)) (f2 : Fld Z h0 a1 "com/example/kache/kache/store/ListValue" "head" "I" (.int hd)) (f3 : Fld Z h0 a1 "com/example/kache/kache/store/ListValue" "size" "I" (.int n)) (f4 : Arv Z h0 r k (.array .byte) (8 : Int32) vs .null) (hhd : Rg hd) (hri : Rg p2) :
    Meets l (⟨"com/example/kache/kache/store/ListValue", "slot", "(I)I"⟩ : MethodName) prog_15_method_15_code 3 (some .int) ws ({ frames := 0, cells := 0, slots := 0, locals := 0 } : Room) ({ frames := 0, cells := 0, slots := 0, locals := 0 } : Room).cells ({ frames := 0, cells := 0, slots := 0, locals := 0 } : Room).slots Z #[(.ref a1), (.int p2)] h0 n0 (Q9 Z a1 p2 r hd n k vs h0 n0) := by
  refine Meets.of (F := fun m => mkF m 0 #[.val (.ref a1), .val (.int p2), .unset] []) (plainFor_of_name pn_0) (fun m => ef_9 m a1 p2) ?_
  intro p e s m below meth c T0 hx hby hml hown0 hnm hret hlk hZ X0 e0
  have hown : s.vm.findClass "com/example/kache/kache/store/ListValue" = some m.cls := hown0
  have N0 := Fr.nil n0
  show Goes _ _ _ _ _ _ (T0.setTop (mkF m 0 #[.val (.ref a1), .val (.int p2), .unset] []))
  refine own_aloadN X0 hx (hb hby d9_0) rfl rfl ?_
  refine own_getF X0 hx hZ hown (host := "") (Or.inl (hw _ (List.mem_of_getElem? (i := 12) rfl))) Via.refl e0 f1 (hb hby d9_1) (fun T1 X1 e1 => ?_)
  show Goes _ _ _ _ _ _ (T1.setTop (mkF m 4 #[.val (.ref a1), .val (.int p2), .unset] [(.ref r)]))
  refine own_alen X1 hx hZ e1 f4 (hb hby d9_4) ?_
  refine own_aloadN X1 hx (hb hby d9_5) rfl rfl ?_
  refine own_getF X1 hx hZ hown (host := "") (Or.inl (hw _ (List.mem_of_getElem? (i := 46) rfl))) Via.refl e1 f2 (hb hby d9_6) (fun T2 X2 e2 => ?_)
  show Goes _ _ _ _ _ _ (T2.setTop (mkF m 9 #[.val (.ref a1), .val (.int p2), .unset] [(.int hd), (.int (8 : Int32))]))
  refine own_isub X2 hx (hb hby d9_9) ?_
  refine own_istoreN X2 hx (Ls' := #[.val (.ref a1), .val (.int p2), .val (.int ((8 : Int32) - hd))]) (hb hby d9_10) rfl ?_
  refine own_iloadN X2 hx (hb hby d9_11) rfl ?_
  refine own_iloadN X2 hx (hb hby d9_12) rfl ?_
  show Goes _ _ _ _ _ _ (T2.setTop (mkF m 13 #[.val (.ref a1), .val (.int p2), .val (.int ((8 : Int32) - hd))] [(.int ((8 : Int32) - hd)), (.int p2)]))
  by_cases hc13_3 : p2 < ((8 : Int32) - hd)
  ·
    refine own_icmpNo X2 hx (hb hby d9_13) (tlt (hc13_3 : p2 < ((8 : Int32) - hd))).2.1 ?_
    show Goes _ _ _ _ _ _ (T2.setTop (mkF m 16 #[.val (.ref a1), .val (.int p2), .val (.int ((8 : Int32) - hd))] []))
    refine own_aloadN X2 hx (hb hby d9_16) rfl rfl ?_
    refine own_getF X2 hx hZ hown (host := "") (Or.inl (hw _ (List.mem_of_getElem? (i := 46) rfl))) Via.refl e2 f2 (hb hby d9_17) (fun T4 X4 e4 => ?_)
    show Goes _ _ _ _ _ _ (T4.setTop (mkF m 20 #[.val (.ref a1), .val (.int p2), .val (.int ((8 : Int32) - hd))] [(.int hd)]))
    refine own_iloadN X4 hx (hb hby d9_20) rfl ?_
    refine own_iadd X4 hx (hb hby d9_21) ?_
    refine own_goto X4 hx (pc' := 28) (hb hby d9_22) (by decide) (by decide) ?_
    show Goes _ _ _ _ _ _ (T4.setTop (mkF m 28 #[.val (.ref a1), .val (.int p2), .val (.int ((8 : Int32) - hd))] [(.int (hd + p2))]))
    exact own_retI X4 hx N0 hlk (by decide) (by decide) hret (hb hby d9_28) (by rw [e4]; exact ⟨(hd + p2), rfl, (own_sl1 hhd hri hc13_3), rfl⟩)
  ·
    refine own_icmpYes X2 hx (pc' := 25) (hb hby d9_13) (flt (hc13_3 : ¬ (p2 < ((8 : Int32) - hd)))).2.1 (by decide) (by decide) ?_
    show Goes _ _ _ _ _ _ (T2.setTop (mkF m 25 #[.val (.ref a1), .val (.int p2), .val (.int ((8 : Int32) - hd))] []))
    refine own_iloadN X2 hx (hb hby d9_25) rfl ?_
    refine own_iloadN X2 hx (hb hby d9_26) rfl ?_
    refine own_isub X2 hx (hb hby d9_27) ?_
    show Goes _ _ _ _ _ _ (T2.setTop (mkF m 28 #[.val (.ref a1), .val (.int p2), .val (.int ((8 : Int32) - hd))] [(.int (p2 - ((8 : Int32) - hd)))]))
    exact own_retI X2 hx N0 hlk (by decide) (by decide) hret (hb hby d9_28) (by rw [e2]; exact ⟨(p2 - ((8 : Int32) - hd)), rfl, (own_sl2 hhd hri hc13_3), rfl⟩)
theorem d12_0 : decode prog_15_method_5_code 0 = .ok (.iload_n 1, 1) := by decide +kernel
theorem d12_1 : decode prog_15_method_5_code 1 = .ok (.aload_n 0, 1) := by decide +kernel
theorem d12_2 : decode prog_15_method_5_code 2 = .ok (.getfield 17, 3) := by decide +kernel
theorem d12_5 : decode prog_15_method_5_code 5 = .ok (.invokestatic 26, 3) := by decide +kernel
theorem pd_1 : parseMethodDescriptor "(II)I" = some ⟨[.int, .int], some .int⟩ := by decide +kernel
theorem d12_8 : decode prog_15_method_5_code 8 = .ok (.pop, 1) := by decide +kernel
theorem d12_9 : decode prog_15_method_5_code 9 = .ok (.aload_n 0, 1) := by decide +kernel
theorem d12_10 : decode prog_15_method_5_code 10 = .ok (.getfield 13, 3) := by decide +kernel
theorem d12_13 : decode prog_15_method_5_code 13 = .ok (.aload_n 0, 1) := by decide +kernel
theorem d12_14 : decode prog_15_method_5_code 14 = .ok (.iload_n 1, 1) := by decide +kernel
theorem d12_15 : decode prog_15_method_5_code 15 = .ok (.invokevirtual 22, 3) := by decide +kernel
theorem pd_2 : parseMethodDescriptor "(I)I" = some ⟨[.int], some .int⟩ := by decide +kernel
theorem d12_18 : decode prog_15_method_5_code 18 = .ok (.aaload, 1) := by decide +kernel
theorem d12_19 : decode prog_15_method_5_code 19 = .ok (.areturn, 1) := by decide +kernel
def Q12 (Z : State) (a1 : Addr) (p2 : Int32) (r : Addr) (hd : Int32) (n : Int32) (k : ClassId) (vs : List Value) (h0 : Heap) (n0 : Nat) (v : Option Value) (h : Heap) : Prop :=
  (v = some .null ∧ h = h0) ∨
  (∃ (b : Addr), v = some (.ref b) ∧ h = h0)
theorem ef_12 (m : MethodId) (a1 : Addr) (p2 : Int32) : entryFrame m #[(.ref a1), (.int p2)] 2 = mkF m 0 #[.val (.ref a1), .val (.int p2)] [] := by first | (simp [entryFrame, mkF, argsToLocals, Value.category]; done) | rfl
set_option maxRecDepth 65536 in
set_option maxHeartbeats 40000000 in
theorem rm12 (l : Launch) (Z : State) (a0 : Array Value) (hw : ∀ d ∈ tables_1, d.before a0 Z = true) (ws : List Jvm.Cond) (a1 : Addr) (p2 : Int32) (r : Addr) (hd : Int32) (n : Int32) (k : ClassId) (vs : List Value) (h0 : Heap) (n0 : Nat) (O0 : Old Z n0 h0) (f0 : Exa Z h0 a1 "com/example/kache/kache/store/ListValue") (f1 : Fld Z h0 a1 "com/example/kache/kache/store/ListValue" "ring" "[[B" (.ref r)) (f2 : Fld Z h0 a1 "com/example/kache/kache/store/ListValue" "head" "I" (.int hd)) (f3 : Fld Z h0 a1 "com/example/kache/kache/store/ListValue" "size" "I" (.int n)) (f4 : Arv Z h0 r k (.array .byte) (8 : Int32) vs .null) (hhd : Rg hd) (hi0 : ¬ (p2 < (0 : Int32))) (hi1 : p2 < n) (hri : Rg p2) :
    Meets l (⟨"com/example/kache/kache/store/ListValue", "get", "(I)[B"⟩ : MethodName) prog_15_method_5_code 2 (some (.array .byte)) ws ({ frames := 2, cells := 0, slots := 0, locals := 27 } : Room) ({ frames := 2, cells := 0, slots := 0, locals := 27 } : Room).cells ({ frames := 2, cells := 0, slots := 0, locals := 27 } : Room).slots Z #[(.ref a1), (.int p2)] h0 n0 (Q12 Z a1 p2 r hd n k vs h0 n0) := by
  refine Meets.of (F := fun m => mkF m 0 #[.val (.ref a1), .val (.int p2)] []) (plainFor_of_name pn_0) (fun m => ef_12 m a1 p2) ?_
  intro p e s m below meth c T0 hx hby hml hown0 hnm hret hlk hZ X0 e0
  have hown : s.vm.findClass "com/example/kache/kache/store/ListValue" = some m.cls := hown0
  have N0 := Fr.nil n0
  show Goes _ _ _ _ _ _ (T0.setTop (mkF m 0 #[.val (.ref a1), .val (.int p2)] []))
  refine own_iloadN X0 hx (hb hby d12_0) rfl ?_
  refine own_aloadN X0 hx (hb hby d12_1) rfl rfl ?_
  refine own_getF X0 hx hZ hown (host := "") (Or.inl (hw _ (List.mem_of_getElem? (i := 19) rfl))) Via.refl e0 f3 (hb hby d12_2) (fun T1 X1 e1 => ?_)
  show Goes _ _ _ _ _ _ (T1.setTop (mkF m 5 #[.val (.ref a1), .val (.int p2)] [(.int n), (.int p2)]))
  refine own_callS X1 hx hZ hown (y := (⟨"java/util/Objects", "checkIndex", "(II)I"⟩ : MethodName)) (hw _ (List.mem_of_getElem? (i := 71) rfl)) (hw _ (List.mem_of_getElem? (i := 72) rfl)) (hw _ (List.mem_of_getElem? (i := 40) rfl)) (hw _ (List.mem_of_getElem? (i := 73) rfl)) (by decide) (W := 0) (by decide) (by decide) N0 e1 (by rw [hml]; rfl) (argsL := [(.int p2), (.int n)]) (rest := []) (lenOf pd_1 rfl) (Nat.le_of_eq rfl) (by decide) (by decide) (rm13 l Z a0 hw [] p2 n h0 n0 O0 hi0 hi1) rfl (hb hby d12_5) ?_
  intro v2 T2 lc2 X2 N2 hQ2
  obtain ⟨rfl, e2⟩ := hQ2
  show Goes _ _ _ _ _ _ (T2.setTop (mkF m 8 #[.val (.ref a1), .val (.int p2)] [(.int p2)]))
  refine own_pop X2 hx (hb hby d12_8) rfl ?_
  refine own_aloadN X2 hx (hb hby d12_9) rfl rfl ?_
  refine own_getF X2 hx hZ hown (host := "") (Or.inl (hw _ (List.mem_of_getElem? (i := 12) rfl))) Via.refl e2 f1 (hb hby d12_10) (fun T3 X3 e3 => ?_)
  show Goes _ _ _ _ _ _ (T3.setTop (mkF m 13 #[.val (.ref a1), .val (.int p2)] [(.ref r)]))
  refine own_aloadN X3 hx (hb hby d12_13) rfl rfl ?_
  refine own_iloadN X3 hx (hb hby d12_14) rfl ?_
  refine own_private X3 hx hZ hown (y := (⟨"com/example/kache/kache/store/ListValue", "slot", "(I)I"⟩ : MethodName)) (hw _ (List.mem_of_getElem? (i := 54) rfl)) (hw _ (List.mem_of_getElem? (i := 55) rfl)) (hw _ (List.mem_of_getElem? (i := 2) rfl)) (hw _ (List.mem_of_getElem? (i := 56) rfl)) (hw _ (List.mem_of_getElem? (i := 3) rfl)) (hw _ (List.mem_of_getElem? (i := 57) rfl)) (a := a1) f0 (by decide) (W := 1) (by decide) (by decide) N2 e3 (by rw [hml]; rfl) (argsL := [(.int p2)]) (rest := [(.ref r)]) (lenOf pd_2 rfl) (Nat.le_of_eq rfl) (by decide) (by decide) (rm9 l Z a0 hw [] a1 p2 r hd n k vs h0 n0 O0 f0 f1 f2 f3 f4 hhd hri) rfl (hb hby d12_15) ?_
  intro v4 T4 lc4 X4 N4 hQ4
  obtain ⟨j_4, rfl, hq4_0, e4⟩ := hQ4
  show Goes _ _ _ _ _ _ (T4.setTop (mkF m 18 #[.val (.ref a1), .val (.int p2)] [(.int j_4), (.ref r)]))
  rcases own_elt f4 hq4_0.ix with hv | ⟨bv, hv⟩
  ·
    refine own_aaload X4 hx hZ e4 f4 rfl hq4_0.ix (v := .null) hv (hb hby d12_18) ?_
    show Goes _ _ _ _ _ _ (T4.setTop (mkF m 19 #[.val (.ref a1), .val (.int p2)] [.null]))
    exact own_retR X4 hx N4 hlk (by decide) (by decide) hret rfl rfl rfl (hb hby d12_19) (by rw [e4]; exact Or.inl ⟨rfl, rfl⟩)
  ·
    refine own_aaload X4 hx hZ e4 f4 rfl hq4_0.ix (v := (.ref bv)) hv (hb hby d12_18) ?_
    show Goes _ _ _ _ _ _ (T4.setTop (mkF m 19 #[.val (.ref a1), .val (.int p2)] [(.ref bv)]))
    exact own_retR X4 hx N4 hlk (by decide) (by decide) hret rfl rfl rfl (hb hby d12_19) (by rw [e4]; exact Or.inr (⟨bv, rfl, rfl⟩))
theorem d5_0 : decode prog_15_method_6_code 0 = .ok (.aload_n 1, 1) := by decide +kernel
theorem d5_1 : decode prog_15_method_6_code 1 = .ok (.ldc 32, 2) := by decide +kernel
theorem own_wS {Z : State} {a0 : Array Value} (hw : ∀ d ∈ tables_1, d.before a0 Z = true) : ∀ a ∈ Bundle.stringAtoms, a.before a0 Z = true := by
  intro a ha
  simp only [Bundle.stringAtoms, List.mem_cons, List.not_mem_nil, or_false] at ha
  rcases ha with rfl | rfl | rfl | rfl | rfl | rfl | rfl
  · exact (hw _ (List.mem_of_getElem? (i := 32) rfl))
  · exact (hw _ (List.mem_of_getElem? (i := 33) rfl))
  · exact (hw _ (List.mem_of_getElem? (i := 25) rfl))
  · exact (hw _ (List.mem_of_getElem? (i := 34) rfl))
  · exact (hw _ (List.mem_of_getElem? (i := 35) rfl))
  · exact (hw _ (List.mem_of_getElem? (i := 36) rfl))
  · exact (hw _ (List.mem_of_getElem? (i := 37) rfl))
theorem d5_3 : decode prog_15_method_6_code 3 = .ok (.invokestatic 34, 3) := by decide +kernel
theorem pd_3 : parseMethodDescriptor "(Ljava/lang/Object;Ljava/lang/String;)Ljava/lang/Object;" = some ⟨[(.object "java/lang/Object"), (.object "java/lang/String")], some (.object "java/lang/Object")⟩ := by decide +kernel
theorem d5_6 : decode prog_15_method_6_code 6 = .ok (.pop, 1) := by decide +kernel
theorem d5_7 : decode prog_15_method_6_code 7 = .ok (.aload_n 0, 1) := by decide +kernel
theorem d5_8 : decode prog_15_method_6_code 8 = .ok (.invokevirtual 38, 3) := by decide +kernel
theorem pd_4 : parseMethodDescriptor "()V" = some ⟨[], none⟩ := by decide +kernel
theorem d5_11 : decode prog_15_method_6_code 11 = .ok (.aload_n 0, 1) := by decide +kernel
theorem d5_12 : decode prog_15_method_6_code 12 = .ok (.aload_n 0, 1) := by decide +kernel
theorem d5_13 : decode prog_15_method_6_code 13 = .ok (.getfield 41, 3) := by decide +kernel
theorem d5_16 : decode prog_15_method_6_code 16 = .ok (.ifCond .ne 13, 3) := by decide +kernel
theorem d5_19 : decode prog_15_method_6_code 19 = .ok (.aload_n 0, 1) := by decide +kernel
theorem d5_20 : decode prog_15_method_6_code 20 = .ok (.getfield 13, 3) := by decide +kernel
theorem d5_23 : decode prog_15_method_6_code 23 = .ok (.arraylength, 1) := by decide +kernel
theorem d5_24 : decode prog_15_method_6_code 24 = .ok (.iconst 1, 1) := by decide +kernel
theorem d5_25 : decode prog_15_method_6_code 25 = .ok (.isub, 1) := by decide +kernel
theorem d5_26 : decode prog_15_method_6_code 26 = .ok (.goto 9, 3) := by decide +kernel
theorem d5_35 : decode prog_15_method_6_code 35 = .ok (.putfield 41, 3) := by decide +kernel
theorem d5_38 : decode prog_15_method_6_code 38 = .ok (.aload_n 0, 1) := by decide +kernel
theorem d5_39 : decode prog_15_method_6_code 39 = .ok (.getfield 13, 3) := by decide +kernel
theorem d5_42 : decode prog_15_method_6_code 42 = .ok (.aload_n 0, 1) := by decide +kernel
theorem d5_43 : decode prog_15_method_6_code 43 = .ok (.getfield 41, 3) := by decide +kernel
theorem d5_46 : decode prog_15_method_6_code 46 = .ok (.aload_n 1, 1) := by decide +kernel
theorem d5_47 : decode prog_15_method_6_code 47 = .ok (.aastore, 1) := by decide +kernel
theorem d5_48 : decode prog_15_method_6_code 48 = .ok (.aload_n 0, 1) := by decide +kernel
theorem d5_49 : decode prog_15_method_6_code 49 = .ok (.dup, 1) := by decide +kernel
theorem d5_50 : decode prog_15_method_6_code 50 = .ok (.getfield 17, 3) := by decide +kernel
theorem d5_53 : decode prog_15_method_6_code 53 = .ok (.iconst 1, 1) := by decide +kernel
theorem d5_54 : decode prog_15_method_6_code 54 = .ok (.iadd, 1) := by decide +kernel
theorem d5_55 : decode prog_15_method_6_code 55 = .ok (.putfield 17, 3) := by decide +kernel
theorem d5_58 : decode prog_15_method_6_code 58 = .ok (.return_, 1) := by decide +kernel
theorem d5_29 : decode prog_15_method_6_code 29 = .ok (.aload_n 0, 1) := by decide +kernel
theorem d5_30 : decode prog_15_method_6_code 30 = .ok (.getfield 41, 3) := by decide +kernel
theorem d5_33 : decode prog_15_method_6_code 33 = .ok (.iconst 1, 1) := by decide +kernel
theorem d5_34 : decode prog_15_method_6_code 34 = .ok (.isub, 1) := by decide +kernel
def Q5 (Z : State) (a1 : Addr) (a2 : Addr) (r : Addr) (hd : Int32) (n : Int32) (k : ClassId) (vs : List Value) (h0 : Heap) (n0 : Nat) (v : Option Value) (h : Heap) : Prop :=
  (∃ (hd2 : Int32) (vs2 : List Value), v = none ∧ Keep h0 h [a1, r] ∧ Exa Z h a1 "com/example/kache/kache/store/ListValue" ∧ Fld Z h a1 "com/example/kache/kache/store/ListValue" "ring" "[[B" (.ref r) ∧ Fld Z h a1 "com/example/kache/kache/store/ListValue" "head" "I" (.int hd2) ∧ Fld Z h a1 "com/example/kache/kache/store/ListValue" "size" "I" (.int (n + (1 : Int32))) ∧ Arv Z h r k (.array .byte) (8 : Int32) vs2 .null ∧ Rg hd2 ∧ vs2.length = 8)
theorem ef_5 (m : MethodId) (a1 : Addr) (a2 : Addr) : entryFrame m #[(.ref a1), (.ref a2)] 2 = mkF m 0 #[.val (.ref a1), .val (.ref a2)] [] := by first | (simp [entryFrame, mkF, argsToLocals, Value.category]; done) | rfl
set_option maxRecDepth 65536 in
set_option maxHeartbeats 40000000 in
theorem rm5 (l : Launch) (Z : State) (a0 : Array Value) (hw : ∀ d ∈ tables_1, d.before a0 Z = true) (ws : List Jvm.Cond) (a1 : Addr) (a2 : Addr) (r : Addr) (hd : Int32) (n : Int32) (k : ClassId) (vs : List Value) (h0 : Heap) (n0 : Nat) (O0 : Old Z n0 h0) (f0 : Exa Z h0 a1 "com/example/kache/kache/store/ListValue") (f1 : Fld Z h0 a1 "com/example/kache/kache/store/ListValue" "ring" "[[B" (.ref r)) (f2 : Fld Z h0 a1 "com/example/kache/kache/store/ListValue" "head" "I" (.int hd)) (f3 : Fld Z h0 a1 "com/example/kache/kache/store/ListValue" "size" "I" (.int n)) (f4 : Arv Z h0 r k (.array .byte) (8 : Int32) vs .null) (hhd : Rg hd) (f6 : n0 ≤ a1) (f7 : n0 ≤ r) (hvl : vs.length = 8) (hov : OvrA Z k .byte "[B") (f10 : Exa Z h0 a2 "[B") (hrn : Rg n) :
    MeetsW l (⟨"com/example/kache/kache/store/ListValue", "addFirst", "([B)V"⟩ : MethodName) prog_15_method_6_code 2 none ws ({ frames := 1, cells := 2, slots := 32, locals := 13 } : Room) ({ frames := 1, cells := 2, slots := 32, locals := 13 } : Room).cells ({ frames := 1, cells := 2, slots := 32, locals := 13 } : Room).slots Z #[(.ref a1), (.ref a2)] h0 n0 (Q5 Z a1 a2 r hd n k vs h0 n0) := by
  refine MeetsW.of (F := fun m => mkF m 0 #[.val (.ref a1), .val (.ref a2)] []) (plainFor_of_name pn_0) (fun m => ef_5 m a1 a2) ?_
  intro p e s m below meth c T0 hx hby hml hown0 hnm hret hlk hZ hS0 X0 e0
  have hown : s.vm.findClass "com/example/kache/kache/store/ListValue" = some m.cls := hown0
  have N0 := Fr.nil n0
  have KC0 := Keep.refl h0 [a1, r]
  show Goes _ _ _ _ _ _ (T0.setTop (mkF m 0 #[.val (.ref a1), .val (.ref a2)] []))
  refine own_aloadN X0 hx (hb hby d5_0) rfl rfl ?_
  refine own_ldcS X0 hx hZ hown hS0 (Nat.zero_le _) (hw _ (List.mem_of_getElem? (i := 31) rfl)) (own_wS hw) e0 (n := 28) (hb hby d5_1) (by decide +kernel) (by decide) (by decide) (by decide) (fun sa1 T1 h1 k1_1 X1 hS1 hk1_ hZ hown e1 E1 => ?_)
  have E2_a1 := f0.ext E1
  have E2_a2 := f10.ext E1
  have F2_ring_a1 := f1.ext E1
  have F2_head_a1 := f2.ext E1
  have F2_size_a1 := f3.ext E1
  have A2_r := f4.ext E1
  have O2 := O0.ext E1
  have KC2 := KC0.ext E1
  show Goes _ _ _ _ _ _ (T1.setTop (mkF m 3 #[.val (.ref a1), .val (.ref a2)] [(.ref sa1), (.ref a2)]))
  refine own_callS X1 hx hZ hown (y := (⟨"java/util/Objects", "requireNonNull", "(Ljava/lang/Object;Ljava/lang/String;)Ljava/lang/Object;"⟩ : MethodName)) (hw _ (List.mem_of_getElem? (i := 38) rfl)) (hw _ (List.mem_of_getElem? (i := 39) rfl)) (hw _ (List.mem_of_getElem? (i := 40) rfl)) (hw _ (List.mem_of_getElem? (i := 41) rfl)) (by decide) (W := 0) (by decide) (by decide) N0 e1 (by rw [hml]; rfl) (argsL := [(.ref a2), (.ref sa1)]) (rest := []) (lenOf pd_3 rfl) (Nat.le_of_eq rfl) (by decide) (by decide) (rm6 l Z a0 hw [] a2 sa1 h1 n0 O2) rfl (hb hby d5_3) ?_
  intro v3 T3 lc3 X3 N3 hQ3
  obtain ⟨rfl, e3⟩ := hQ3
  show Goes _ _ _ _ _ _ (T3.setTop (mkF m 6 #[.val (.ref a1), .val (.ref a2)] [(.ref a2)]))
  refine own_pop X3 hx (hb hby d5_6) rfl ?_
  refine own_aloadN X3 hx (hb hby d5_7) rfl rfl ?_
  refine own_private X3 hx hZ hown (y := (⟨"com/example/kache/kache/store/ListValue", "makeRoomForOneMore", "()V"⟩ : MethodName)) (hw _ (List.mem_of_getElem? (i := 42) rfl)) (hw _ (List.mem_of_getElem? (i := 43) rfl)) (hw _ (List.mem_of_getElem? (i := 2) rfl)) (hw _ (List.mem_of_getElem? (i := 44) rfl)) (hw _ (List.mem_of_getElem? (i := 3) rfl)) (hw _ (List.mem_of_getElem? (i := 45) rfl)) (a := a1) E2_a1 (by decide) (W := 0) (by decide) (by decide) N3 e3 (by rw [hml]; rfl) (argsL := []) (rest := []) (lenOf pd_4 rfl) (Nat.le_of_eq rfl) (by decide) (by decide) (rm7 l Z a0 hw [] a1 r hd n k vs h1 n0 O2 E2_a1 F2_ring_a1 F2_head_a1 F2_size_a1 A2_r hrn) rfl (hb hby d5_8) ?_
  intro v4 T4 lc4 X4 N4 hQ4
  obtain ⟨rfl, e4⟩ := hQ4
  show Goes _ _ _ _ _ _ (T4.setTop (mkF m 11 #[.val (.ref a1), .val (.ref a2)] []))
  refine own_aloadN X4 hx (hb hby d5_11) rfl rfl ?_
  refine own_aloadN X4 hx (hb hby d5_12) rfl rfl ?_
  refine own_getF X4 hx hZ hown (host := "") (Or.inl (hw _ (List.mem_of_getElem? (i := 46) rfl))) Via.refl e4 F2_head_a1 (hb hby d5_13) (fun T5 X5 e5 => ?_)
  show Goes _ _ _ _ _ _ (T5.setTop (mkF m 16 #[.val (.ref a1), .val (.ref a2)] [(.int hd), (.ref a1)]))
  by_cases hc16_6 : hd = (0 : Int32)
  ·
    refine own_ifNo X5 hx (hb hby d5_16) ((if0 _ _).trans (teq (hc16_6 : hd = (0 : Int32))).2) ?_
    show Goes _ _ _ _ _ _ (T5.setTop (mkF m 19 #[.val (.ref a1), .val (.ref a2)] [(.ref a1)]))
    refine own_aloadN X5 hx (hb hby d5_19) rfl rfl ?_
    refine own_getF X5 hx hZ hown (host := "") (Or.inl (hw _ (List.mem_of_getElem? (i := 12) rfl))) Via.refl e5 F2_ring_a1 (hb hby d5_20) (fun T7 X7 e7 => ?_)
    show Goes _ _ _ _ _ _ (T7.setTop (mkF m 23 #[.val (.ref a1), .val (.ref a2)] [(.ref r), (.ref a1)]))
    refine own_alen X7 hx hZ e7 A2_r (hb hby d5_23) ?_
    refine own_iconst X7 hx (v := (1 : Int32)) (hb hby d5_24) rfl ?_
    refine own_isub X7 hx (hb hby d5_25) ?_
    refine own_goto X7 hx (pc' := 35) (hb hby d5_26) (by decide) (by decide) ?_
    show Goes _ _ _ _ _ _ (T7.setTop (mkF m 35 #[.val (.ref a1), .val (.ref a2)] [(.int ((8 : Int32) - (1 : Int32))), (.ref a1)]))
    refine own_putF X7 hx hZ hown N4 (host := "") (Or.inl (hw _ (List.mem_of_getElem? (i := 46) rfl))) Via.refl e7 F2_head_a1 E2_a1 (Or.inl (hw _ (List.mem_of_getElem? (i := 47) rfl))) (hw _ (List.mem_of_getElem? (i := 2) rfl)) (ty := .int) (by decide) rfl rfl f6 (hb hby d5_35) (fun T8 h8 lc8 X8 e8 N8 W8 => ?_)
    have E9_a1 := E2_a1.wr W8
    have E9_a2 := E2_a2.wr W8
    have F9_ring_a1 := F2_ring_a1.other W8 (Or.inr (slot_ne (Or.inl (hw _ (List.mem_of_getElem? (i := 13) rfl))) (Or.inl (hw _ (List.mem_of_getElem? (i := 47) rfl))) (by decide) (t := (.array (.array .byte))) (t' := .int) (by decide) (by decide)))
    have F9_head_a1 := F2_head_a1.same W8
    have F9_size_a1 := F2_size_a1.other W8 (Or.inr (slot_ne (Or.inl (hw _ (List.mem_of_getElem? (i := 20) rfl))) (Or.inl (hw _ (List.mem_of_getElem? (i := 47) rfl))) (by decide) (t := .int) (t' := .int) (by decide) (by decide)))
    have A9_r := A2_r.other W8 (Ne.symm (Exa.neArv E2_a1 A2_r (hw _ (List.mem_of_getElem? (i := 2) rfl))))
    have O9 := O2.wr W8 f6
    have hk9 := Nat.le_trans hk1_ (Keep.of_wr W8).1
    have KC9 := KC2.wr W8 (Or.inl (List.mem_of_getElem? (i := 0) rfl))
    show Goes _ _ _ _ _ _ (T8.setTop (mkF m 38 #[.val (.ref a1), .val (.ref a2)] []))
    refine own_aloadN X8 hx (hb hby d5_38) rfl rfl ?_
    refine own_getF X8 hx hZ hown (host := "") (Or.inl (hw _ (List.mem_of_getElem? (i := 12) rfl))) Via.refl e8 F9_ring_a1 (hb hby d5_39) (fun T10 X10 e10 => ?_)
    show Goes _ _ _ _ _ _ (T10.setTop (mkF m 42 #[.val (.ref a1), .val (.ref a2)] [(.ref r)]))
    refine own_aloadN X10 hx (hb hby d5_42) rfl rfl ?_
    refine own_getF X10 hx hZ hown (host := "") (Or.inl (hw _ (List.mem_of_getElem? (i := 46) rfl))) Via.refl e10 F9_head_a1 (hb hby d5_43) (fun T11 X11 e11 => ?_)
    show Goes _ _ _ _ _ _ (T11.setTop (mkF m 46 #[.val (.ref a1), .val (.ref a2)] [(.int ((8 : Int32) - (1 : Int32))), (.ref r)]))
    refine own_aloadN X11 hx (hb hby d5_46) rfl rfl ?_
    refine own_aastore X11 hx hZ N8 e11 A9_r rfl rfl (by decide : Rg ((8 : Int32) - (1 : Int32))).ix (i := (((8 : Int32) - (1 : Int32))).toNatClampNeg) rfl (by first | (rw [hvl]; exact (by decide : Rg ((8 : Int32) - (1 : Int32))).nat) | simpa [hvl] using (by decide : Rg ((8 : Int32) - (1 : Int32))).nat) f7 (fun _ Ar q => Sto.ofVA Ar q hov (Ins.self E9_a2)) (hb hby d5_47) (fun T12 h12 lc12 X12 e12 N12 W12 V12 => ?_)
    have E13_a1 := E9_a1.wr W12
    have F13_ring_a1 := F9_ring_a1.other W12 (Or.inl (Exa.neArv E9_a1 A9_r (hw _ (List.mem_of_getElem? (i := 2) rfl))))
    have F13_head_a1 := F9_head_a1.other W12 (Or.inl (Exa.neArv E9_a1 A9_r (hw _ (List.mem_of_getElem? (i := 2) rfl))))
    have F13_size_a1 := F9_size_a1.other W12 (Or.inl (Exa.neArv E9_a1 A9_r (hw _ (List.mem_of_getElem? (i := 2) rfl))))
    have O13 := O9.wr W12 f7
    have hk13 := Nat.le_trans hk9 (Keep.of_wr W12).1
    have KC13 := KC9.wr W12 (Or.inl (List.mem_of_getElem? (i := 1) rfl))
    show Goes _ _ _ _ _ _ (T12.setTop (mkF m 48 #[.val (.ref a1), .val (.ref a2)] []))
    refine own_aloadN X12 hx (hb hby d5_48) rfl rfl ?_
    refine own_dup X12 hx (hb hby d5_49) rfl ?_
    refine own_getF X12 hx hZ hown (host := "") (Or.inl (hw _ (List.mem_of_getElem? (i := 19) rfl))) Via.refl e12 F13_size_a1 (hb hby d5_50) (fun T14 X14 e14 => ?_)
    show Goes _ _ _ _ _ _ (T14.setTop (mkF m 53 #[.val (.ref a1), .val (.ref a2)] [(.int n), (.ref a1)]))
    refine own_iconst X14 hx (v := (1 : Int32)) (hb hby d5_53) rfl ?_
    refine own_iadd X14 hx (hb hby d5_54) ?_
    refine own_putF X14 hx hZ hown N12 (host := "") (Or.inl (hw _ (List.mem_of_getElem? (i := 19) rfl))) Via.refl e14 F13_size_a1 E13_a1 (Or.inl (hw _ (List.mem_of_getElem? (i := 20) rfl))) (hw _ (List.mem_of_getElem? (i := 2) rfl)) (ty := .int) (by decide) rfl rfl f6 (hb hby d5_55) (fun T15 h15 lc15 X15 e15 N15 W15 => ?_)
    have E16_a1 := E13_a1.wr W15
    have F16_ring_a1 := F13_ring_a1.other W15 (Or.inr (slot_ne (Or.inl (hw _ (List.mem_of_getElem? (i := 13) rfl))) (Or.inl (hw _ (List.mem_of_getElem? (i := 20) rfl))) (by decide) (t := (.array (.array .byte))) (t' := .int) (by decide) (by decide)))
    have F16_head_a1 := F13_head_a1.other W15 (Or.inr (slot_ne (Or.inl (hw _ (List.mem_of_getElem? (i := 47) rfl))) (Or.inl (hw _ (List.mem_of_getElem? (i := 20) rfl))) (by decide) (t := .int) (t' := .int) (by decide) (by decide)))
    have F16_size_a1 := F13_size_a1.same W15
    have A16_r := V12.other W15 (Ne.symm (Exa.neArv E13_a1 V12 (hw _ (List.mem_of_getElem? (i := 2) rfl))))
    have O16 := O13.wr W15 f6
    have hk16 := Nat.le_trans hk13 (Keep.of_wr W15).1
    have KC16 := KC13.wr W15 (Or.inl (List.mem_of_getElem? (i := 0) rfl))
    show Goes _ _ _ _ _ _ (T15.setTop (mkF m 58 #[.val (.ref a1), .val (.ref a2)] []))
    exact own_retVW X15 hx hS1 (by rw [e15]; exact hk16) N15 hlk (by decide) (by decide) hret (hb hby d5_58) (by rw [e15]; exact ⟨((8 : Int32) - (1 : Int32)), (vs.set (((8 : Int32) - (1 : Int32))).toNatClampNeg (.ref a2)), rfl, KC16, E16_a1, F16_ring_a1, F16_head_a1, F16_size_a1, A16_r, (by decide : Rg ((8 : Int32) - (1 : Int32))), (by first | simpa using hvl)⟩)
  ·
    refine own_ifYes X5 hx (pc' := 29) (hb hby d5_16) ((if0 _ _).trans (feq (hc16_6 : ¬ (hd = (0 : Int32)))).2) (by decide) (by decide) ?_
    show Goes _ _ _ _ _ _ (T5.setTop (mkF m 29 #[.val (.ref a1), .val (.ref a2)] [(.ref a1)]))
    refine own_aloadN X5 hx (hb hby d5_29) rfl rfl ?_
    refine own_getF X5 hx hZ hown (host := "") (Or.inl (hw _ (List.mem_of_getElem? (i := 46) rfl))) Via.refl e5 F2_head_a1 (hb hby d5_30) (fun T17 X17 e17 => ?_)
    show Goes _ _ _ _ _ _ (T17.setTop (mkF m 33 #[.val (.ref a1), .val (.ref a2)] [(.int hd), (.ref a1)]))
    refine own_iconst X17 hx (v := (1 : Int32)) (hb hby d5_33) rfl ?_
    refine own_isub X17 hx (hb hby d5_34) ?_
    refine own_putF X17 hx hZ hown N4 (host := "") (Or.inl (hw _ (List.mem_of_getElem? (i := 46) rfl))) Via.refl e17 F2_head_a1 E2_a1 (Or.inl (hw _ (List.mem_of_getElem? (i := 47) rfl))) (hw _ (List.mem_of_getElem? (i := 2) rfl)) (ty := .int) (by decide) rfl rfl f6 (hb hby d5_35) (fun T18 h18 lc18 X18 e18 N18 W18 => ?_)
    have E19_a1 := E2_a1.wr W18
    have E19_a2 := E2_a2.wr W18
    have F19_ring_a1 := F2_ring_a1.other W18 (Or.inr (slot_ne (Or.inl (hw _ (List.mem_of_getElem? (i := 13) rfl))) (Or.inl (hw _ (List.mem_of_getElem? (i := 47) rfl))) (by decide) (t := (.array (.array .byte))) (t' := .int) (by decide) (by decide)))
    have F19_head_a1 := F2_head_a1.same W18
    have F19_size_a1 := F2_size_a1.other W18 (Or.inr (slot_ne (Or.inl (hw _ (List.mem_of_getElem? (i := 20) rfl))) (Or.inl (hw _ (List.mem_of_getElem? (i := 47) rfl))) (by decide) (t := .int) (t' := .int) (by decide) (by decide)))
    have A19_r := A2_r.other W18 (Ne.symm (Exa.neArv E2_a1 A2_r (hw _ (List.mem_of_getElem? (i := 2) rfl))))
    have O19 := O2.wr W18 f6
    have hk19 := Nat.le_trans hk1_ (Keep.of_wr W18).1
    have KC19 := KC2.wr W18 (Or.inl (List.mem_of_getElem? (i := 0) rfl))
    show Goes _ _ _ _ _ _ (T18.setTop (mkF m 38 #[.val (.ref a1), .val (.ref a2)] []))
    refine own_aloadN X18 hx (hb hby d5_38) rfl rfl ?_
    refine own_getF X18 hx hZ hown (host := "") (Or.inl (hw _ (List.mem_of_getElem? (i := 12) rfl))) Via.refl e18 F19_ring_a1 (hb hby d5_39) (fun T20 X20 e20 => ?_)
    show Goes _ _ _ _ _ _ (T20.setTop (mkF m 42 #[.val (.ref a1), .val (.ref a2)] [(.ref r)]))
    refine own_aloadN X20 hx (hb hby d5_42) rfl rfl ?_
    refine own_getF X20 hx hZ hown (host := "") (Or.inl (hw _ (List.mem_of_getElem? (i := 46) rfl))) Via.refl e20 F19_head_a1 (hb hby d5_43) (fun T21 X21 e21 => ?_)
    show Goes _ _ _ _ _ _ (T21.setTop (mkF m 46 #[.val (.ref a1), .val (.ref a2)] [(.int (hd - (1 : Int32))), (.ref r)]))
    refine own_aloadN X21 hx (hb hby d5_46) rfl rfl ?_
    refine own_aastore X21 hx hZ N18 e21 A19_r rfl rfl (own_hd1 hhd hc16_6).ix (i := ((hd - (1 : Int32))).toNatClampNeg) rfl (by first | (rw [hvl]; exact (own_hd1 hhd hc16_6).nat) | simpa [hvl] using (own_hd1 hhd hc16_6).nat) f7 (fun _ Ar q => Sto.ofVA Ar q hov (Ins.self E19_a2)) (hb hby d5_47) (fun T22 h22 lc22 X22 e22 N22 W22 V22 => ?_)
    have E23_a1 := E19_a1.wr W22
    have F23_ring_a1 := F19_ring_a1.other W22 (Or.inl (Exa.neArv E19_a1 A19_r (hw _ (List.mem_of_getElem? (i := 2) rfl))))
    have F23_head_a1 := F19_head_a1.other W22 (Or.inl (Exa.neArv E19_a1 A19_r (hw _ (List.mem_of_getElem? (i := 2) rfl))))
    have F23_size_a1 := F19_size_a1.other W22 (Or.inl (Exa.neArv E19_a1 A19_r (hw _ (List.mem_of_getElem? (i := 2) rfl))))
    have O23 := O19.wr W22 f7
    have hk23 := Nat.le_trans hk19 (Keep.of_wr W22).1
    have KC23 := KC19.wr W22 (Or.inl (List.mem_of_getElem? (i := 1) rfl))
    show Goes _ _ _ _ _ _ (T22.setTop (mkF m 48 #[.val (.ref a1), .val (.ref a2)] []))
    refine own_aloadN X22 hx (hb hby d5_48) rfl rfl ?_
    refine own_dup X22 hx (hb hby d5_49) rfl ?_
    refine own_getF X22 hx hZ hown (host := "") (Or.inl (hw _ (List.mem_of_getElem? (i := 19) rfl))) Via.refl e22 F23_size_a1 (hb hby d5_50) (fun T24 X24 e24 => ?_)
    show Goes _ _ _ _ _ _ (T24.setTop (mkF m 53 #[.val (.ref a1), .val (.ref a2)] [(.int n), (.ref a1)]))
    refine own_iconst X24 hx (v := (1 : Int32)) (hb hby d5_53) rfl ?_
    refine own_iadd X24 hx (hb hby d5_54) ?_
    refine own_putF X24 hx hZ hown N22 (host := "") (Or.inl (hw _ (List.mem_of_getElem? (i := 19) rfl))) Via.refl e24 F23_size_a1 E23_a1 (Or.inl (hw _ (List.mem_of_getElem? (i := 20) rfl))) (hw _ (List.mem_of_getElem? (i := 2) rfl)) (ty := .int) (by decide) rfl rfl f6 (hb hby d5_55) (fun T25 h25 lc25 X25 e25 N25 W25 => ?_)
    have E26_a1 := E23_a1.wr W25
    have F26_ring_a1 := F23_ring_a1.other W25 (Or.inr (slot_ne (Or.inl (hw _ (List.mem_of_getElem? (i := 13) rfl))) (Or.inl (hw _ (List.mem_of_getElem? (i := 20) rfl))) (by decide) (t := (.array (.array .byte))) (t' := .int) (by decide) (by decide)))
    have F26_head_a1 := F23_head_a1.other W25 (Or.inr (slot_ne (Or.inl (hw _ (List.mem_of_getElem? (i := 47) rfl))) (Or.inl (hw _ (List.mem_of_getElem? (i := 20) rfl))) (by decide) (t := .int) (t' := .int) (by decide) (by decide)))
    have F26_size_a1 := F23_size_a1.same W25
    have A26_r := V22.other W25 (Ne.symm (Exa.neArv E23_a1 V22 (hw _ (List.mem_of_getElem? (i := 2) rfl))))
    have O26 := O23.wr W25 f6
    have hk26 := Nat.le_trans hk23 (Keep.of_wr W25).1
    have KC26 := KC23.wr W25 (Or.inl (List.mem_of_getElem? (i := 0) rfl))
    show Goes _ _ _ _ _ _ (T25.setTop (mkF m 58 #[.val (.ref a1), .val (.ref a2)] []))
    exact own_retVW X25 hx hS1 (by rw [e25]; exact hk26) N25 hlk (by decide) (by decide) hret (hb hby d5_58) (by rw [e25]; exact ⟨(hd - (1 : Int32)), (vs.set ((hd - (1 : Int32))).toNatClampNeg (.ref a2)), rfl, KC26, E26_a1, F26_ring_a1, F26_head_a1, F26_size_a1, A26_r, (own_hd1 hhd hc16_6), (by first | simpa using hvl)⟩)
theorem d8_0 : decode prog_15_method_7_code 0 = .ok (.aload_n 1, 1) := by decide +kernel
theorem d8_1 : decode prog_15_method_7_code 1 = .ok (.ldc 32, 2) := by decide +kernel
theorem d8_3 : decode prog_15_method_7_code 3 = .ok (.invokestatic 34, 3) := by decide +kernel
theorem d8_6 : decode prog_15_method_7_code 6 = .ok (.pop, 1) := by decide +kernel
theorem d8_7 : decode prog_15_method_7_code 7 = .ok (.aload_n 0, 1) := by decide +kernel
theorem d8_8 : decode prog_15_method_7_code 8 = .ok (.invokevirtual 38, 3) := by decide +kernel
theorem d8_11 : decode prog_15_method_7_code 11 = .ok (.aload_n 0, 1) := by decide +kernel
theorem d8_12 : decode prog_15_method_7_code 12 = .ok (.getfield 13, 3) := by decide +kernel
theorem d8_15 : decode prog_15_method_7_code 15 = .ok (.aload_n 0, 1) := by decide +kernel
theorem d8_16 : decode prog_15_method_7_code 16 = .ok (.aload_n 0, 1) := by decide +kernel
theorem d8_17 : decode prog_15_method_7_code 17 = .ok (.getfield 17, 3) := by decide +kernel
theorem d8_20 : decode prog_15_method_7_code 20 = .ok (.invokevirtual 22, 3) := by decide +kernel
theorem d8_23 : decode prog_15_method_7_code 23 = .ok (.aload_n 1, 1) := by decide +kernel
theorem d8_24 : decode prog_15_method_7_code 24 = .ok (.aastore, 1) := by decide +kernel
theorem d8_25 : decode prog_15_method_7_code 25 = .ok (.aload_n 0, 1) := by decide +kernel
theorem d8_26 : decode prog_15_method_7_code 26 = .ok (.dup, 1) := by decide +kernel
theorem d8_27 : decode prog_15_method_7_code 27 = .ok (.getfield 17, 3) := by decide +kernel
theorem d8_30 : decode prog_15_method_7_code 30 = .ok (.iconst 1, 1) := by decide +kernel
theorem d8_31 : decode prog_15_method_7_code 31 = .ok (.iadd, 1) := by decide +kernel
theorem d8_32 : decode prog_15_method_7_code 32 = .ok (.putfield 17, 3) := by decide +kernel
theorem d8_35 : decode prog_15_method_7_code 35 = .ok (.return_, 1) := by decide +kernel
def Q8 (Z : State) (a1 : Addr) (a2 : Addr) (r : Addr) (hd : Int32) (n : Int32) (k : ClassId) (vs : List Value) (h0 : Heap) (n0 : Nat) (v : Option Value) (h : Heap) : Prop :=
  (∃ (hd2 : Int32) (vs2 : List Value), v = none ∧ Keep h0 h [a1, r] ∧ Exa Z h a1 "com/example/kache/kache/store/ListValue" ∧ Fld Z h a1 "com/example/kache/kache/store/ListValue" "ring" "[[B" (.ref r) ∧ Fld Z h a1 "com/example/kache/kache/store/ListValue" "head" "I" (.int hd2) ∧ Fld Z h a1 "com/example/kache/kache/store/ListValue" "size" "I" (.int (n + (1 : Int32))) ∧ Arv Z h r k (.array .byte) (8 : Int32) vs2 .null ∧ Rg hd2 ∧ vs2.length = 8)
theorem ef_8 (m : MethodId) (a1 : Addr) (a2 : Addr) : entryFrame m #[(.ref a1), (.ref a2)] 2 = mkF m 0 #[.val (.ref a1), .val (.ref a2)] [] := by first | (simp [entryFrame, mkF, argsToLocals, Value.category]; done) | rfl
set_option maxRecDepth 65536 in
set_option maxHeartbeats 40000000 in
theorem rm8 (l : Launch) (Z : State) (a0 : Array Value) (hw : ∀ d ∈ tables_1, d.before a0 Z = true) (ws : List Jvm.Cond) (a1 : Addr) (a2 : Addr) (r : Addr) (hd : Int32) (n : Int32) (k : ClassId) (vs : List Value) (h0 : Heap) (n0 : Nat) (O0 : Old Z n0 h0) (f0 : Exa Z h0 a1 "com/example/kache/kache/store/ListValue") (f1 : Fld Z h0 a1 "com/example/kache/kache/store/ListValue" "ring" "[[B" (.ref r)) (f2 : Fld Z h0 a1 "com/example/kache/kache/store/ListValue" "head" "I" (.int hd)) (f3 : Fld Z h0 a1 "com/example/kache/kache/store/ListValue" "size" "I" (.int n)) (f4 : Arv Z h0 r k (.array .byte) (8 : Int32) vs .null) (hhd : Rg hd) (f6 : n0 ≤ a1) (f7 : n0 ≤ r) (hvl : vs.length = 8) (hov : OvrA Z k .byte "[B") (f10 : Exa Z h0 a2 "[B") (hrn : Rg n) :
    MeetsW l (⟨"com/example/kache/kache/store/ListValue", "addLast", "([B)V"⟩ : MethodName) prog_15_method_7_code 2 none ws ({ frames := 1, cells := 2, slots := 32, locals := 15 } : Room) ({ frames := 1, cells := 2, slots := 32, locals := 15 } : Room).cells ({ frames := 1, cells := 2, slots := 32, locals := 15 } : Room).slots Z #[(.ref a1), (.ref a2)] h0 n0 (Q8 Z a1 a2 r hd n k vs h0 n0) := by
  refine MeetsW.of (F := fun m => mkF m 0 #[.val (.ref a1), .val (.ref a2)] []) (plainFor_of_name pn_0) (fun m => ef_8 m a1 a2) ?_
  intro p e s m below meth c T0 hx hby hml hown0 hnm hret hlk hZ hS0 X0 e0
  have hown : s.vm.findClass "com/example/kache/kache/store/ListValue" = some m.cls := hown0
  have N0 := Fr.nil n0
  have KC0 := Keep.refl h0 [a1, r]
  show Goes _ _ _ _ _ _ (T0.setTop (mkF m 0 #[.val (.ref a1), .val (.ref a2)] []))
  refine own_aloadN X0 hx (hb hby d8_0) rfl rfl ?_
  refine own_ldcS X0 hx hZ hown hS0 (Nat.zero_le _) (hw _ (List.mem_of_getElem? (i := 31) rfl)) (own_wS hw) e0 (n := 28) (hb hby d8_1) (by decide +kernel) (by decide) (by decide) (by decide) (fun sa1 T1 h1 k1_1 X1 hS1 hk1_ hZ hown e1 E1 => ?_)
  have E2_a1 := f0.ext E1
  have E2_a2 := f10.ext E1
  have F2_ring_a1 := f1.ext E1
  have F2_head_a1 := f2.ext E1
  have F2_size_a1 := f3.ext E1
  have A2_r := f4.ext E1
  have O2 := O0.ext E1
  have KC2 := KC0.ext E1
  show Goes _ _ _ _ _ _ (T1.setTop (mkF m 3 #[.val (.ref a1), .val (.ref a2)] [(.ref sa1), (.ref a2)]))
  refine own_callS X1 hx hZ hown (y := (⟨"java/util/Objects", "requireNonNull", "(Ljava/lang/Object;Ljava/lang/String;)Ljava/lang/Object;"⟩ : MethodName)) (hw _ (List.mem_of_getElem? (i := 38) rfl)) (hw _ (List.mem_of_getElem? (i := 39) rfl)) (hw _ (List.mem_of_getElem? (i := 40) rfl)) (hw _ (List.mem_of_getElem? (i := 41) rfl)) (by decide) (W := 0) (by decide) (by decide) N0 e1 (by rw [hml]; rfl) (argsL := [(.ref a2), (.ref sa1)]) (rest := []) (lenOf pd_3 rfl) (Nat.le_of_eq rfl) (by decide) (by decide) (rm6 l Z a0 hw [] a2 sa1 h1 n0 O2) rfl (hb hby d8_3) ?_
  intro v3 T3 lc3 X3 N3 hQ3
  obtain ⟨rfl, e3⟩ := hQ3
  show Goes _ _ _ _ _ _ (T3.setTop (mkF m 6 #[.val (.ref a1), .val (.ref a2)] [(.ref a2)]))
  refine own_pop X3 hx (hb hby d8_6) rfl ?_
  refine own_aloadN X3 hx (hb hby d8_7) rfl rfl ?_
  refine own_private X3 hx hZ hown (y := (⟨"com/example/kache/kache/store/ListValue", "makeRoomForOneMore", "()V"⟩ : MethodName)) (hw _ (List.mem_of_getElem? (i := 42) rfl)) (hw _ (List.mem_of_getElem? (i := 43) rfl)) (hw _ (List.mem_of_getElem? (i := 2) rfl)) (hw _ (List.mem_of_getElem? (i := 44) rfl)) (hw _ (List.mem_of_getElem? (i := 3) rfl)) (hw _ (List.mem_of_getElem? (i := 45) rfl)) (a := a1) E2_a1 (by decide) (W := 0) (by decide) (by decide) N3 e3 (by rw [hml]; rfl) (argsL := []) (rest := []) (lenOf pd_4 rfl) (Nat.le_of_eq rfl) (by decide) (by decide) (rm7 l Z a0 hw [] a1 r hd n k vs h1 n0 O2 E2_a1 F2_ring_a1 F2_head_a1 F2_size_a1 A2_r hrn) rfl (hb hby d8_8) ?_
  intro v4 T4 lc4 X4 N4 hQ4
  obtain ⟨rfl, e4⟩ := hQ4
  show Goes _ _ _ _ _ _ (T4.setTop (mkF m 11 #[.val (.ref a1), .val (.ref a2)] []))
  refine own_aloadN X4 hx (hb hby d8_11) rfl rfl ?_
  refine own_getF X4 hx hZ hown (host := "") (Or.inl (hw _ (List.mem_of_getElem? (i := 12) rfl))) Via.refl e4 F2_ring_a1 (hb hby d8_12) (fun T5 X5 e5 => ?_)
  show Goes _ _ _ _ _ _ (T5.setTop (mkF m 15 #[.val (.ref a1), .val (.ref a2)] [(.ref r)]))
  refine own_aloadN X5 hx (hb hby d8_15) rfl rfl ?_
  refine own_aloadN X5 hx (hb hby d8_16) rfl rfl ?_
  refine own_getF X5 hx hZ hown (host := "") (Or.inl (hw _ (List.mem_of_getElem? (i := 19) rfl))) Via.refl e5 F2_size_a1 (hb hby d8_17) (fun T6 X6 e6 => ?_)
  show Goes _ _ _ _ _ _ (T6.setTop (mkF m 20 #[.val (.ref a1), .val (.ref a2)] [(.int n), (.ref a1), (.ref r)]))
  refine own_private X6 hx hZ hown (y := (⟨"com/example/kache/kache/store/ListValue", "slot", "(I)I"⟩ : MethodName)) (hw _ (List.mem_of_getElem? (i := 54) rfl)) (hw _ (List.mem_of_getElem? (i := 55) rfl)) (hw _ (List.mem_of_getElem? (i := 2) rfl)) (hw _ (List.mem_of_getElem? (i := 56) rfl)) (hw _ (List.mem_of_getElem? (i := 3) rfl)) (hw _ (List.mem_of_getElem? (i := 57) rfl)) (a := a1) E2_a1 (by decide) (W := 1) (by decide) (by decide) N4 e6 (by rw [hml]; rfl) (argsL := [(.int n)]) (rest := [(.ref r)]) (lenOf pd_2 rfl) (Nat.le_of_eq rfl) (by decide) (by decide) (rm9 l Z a0 hw [] a1 n r hd n k vs h1 n0 O2 E2_a1 F2_ring_a1 F2_head_a1 F2_size_a1 A2_r hhd hrn) rfl (hb hby d8_20) ?_
  intro v7 T7 lc7 X7 N7 hQ7
  obtain ⟨j_7, rfl, hq7_0, e7⟩ := hQ7
  show Goes _ _ _ _ _ _ (T7.setTop (mkF m 23 #[.val (.ref a1), .val (.ref a2)] [(.int j_7), (.ref r)]))
  refine own_aloadN X7 hx (hb hby d8_23) rfl rfl ?_
  refine own_aastore X7 hx hZ N7 e7 A2_r rfl rfl hq7_0.ix (i := (j_7).toNatClampNeg) rfl (by first | (rw [hvl]; exact hq7_0.nat) | simpa [hvl] using hq7_0.nat) f7 (fun _ Ar q => Sto.ofVA Ar q hov (Ins.self E2_a2)) (hb hby d8_24) (fun T8 h8 lc8 X8 e8 N8 W8 V8 => ?_)
  have E9_a1 := E2_a1.wr W8
  have F9_ring_a1 := F2_ring_a1.other W8 (Or.inl (Exa.neArv E2_a1 A2_r (hw _ (List.mem_of_getElem? (i := 2) rfl))))
  have F9_head_a1 := F2_head_a1.other W8 (Or.inl (Exa.neArv E2_a1 A2_r (hw _ (List.mem_of_getElem? (i := 2) rfl))))
  have F9_size_a1 := F2_size_a1.other W8 (Or.inl (Exa.neArv E2_a1 A2_r (hw _ (List.mem_of_getElem? (i := 2) rfl))))
  have O9 := O2.wr W8 f7
  have hk9 := Nat.le_trans hk1_ (Keep.of_wr W8).1
  have KC9 := KC2.wr W8 (Or.inl (List.mem_of_getElem? (i := 1) rfl))
  show Goes _ _ _ _ _ _ (T8.setTop (mkF m 25 #[.val (.ref a1), .val (.ref a2)] []))
  refine own_aloadN X8 hx (hb hby d8_25) rfl rfl ?_
  refine own_dup X8 hx (hb hby d8_26) rfl ?_
  refine own_getF X8 hx hZ hown (host := "") (Or.inl (hw _ (List.mem_of_getElem? (i := 19) rfl))) Via.refl e8 F9_size_a1 (hb hby d8_27) (fun T10 X10 e10 => ?_)
  show Goes _ _ _ _ _ _ (T10.setTop (mkF m 30 #[.val (.ref a1), .val (.ref a2)] [(.int n), (.ref a1)]))
  refine own_iconst X10 hx (v := (1 : Int32)) (hb hby d8_30) rfl ?_
  refine own_iadd X10 hx (hb hby d8_31) ?_
  refine own_putF X10 hx hZ hown N8 (host := "") (Or.inl (hw _ (List.mem_of_getElem? (i := 19) rfl))) Via.refl e10 F9_size_a1 E9_a1 (Or.inl (hw _ (List.mem_of_getElem? (i := 20) rfl))) (hw _ (List.mem_of_getElem? (i := 2) rfl)) (ty := .int) (by decide) rfl rfl f6 (hb hby d8_32) (fun T11 h11 lc11 X11 e11 N11 W11 => ?_)
  have E12_a1 := E9_a1.wr W11
  have F12_ring_a1 := F9_ring_a1.other W11 (Or.inr (slot_ne (Or.inl (hw _ (List.mem_of_getElem? (i := 13) rfl))) (Or.inl (hw _ (List.mem_of_getElem? (i := 20) rfl))) (by decide) (t := (.array (.array .byte))) (t' := .int) (by decide) (by decide)))
  have F12_head_a1 := F9_head_a1.other W11 (Or.inr (slot_ne (Or.inl (hw _ (List.mem_of_getElem? (i := 47) rfl))) (Or.inl (hw _ (List.mem_of_getElem? (i := 20) rfl))) (by decide) (t := .int) (t' := .int) (by decide) (by decide)))
  have F12_size_a1 := F9_size_a1.same W11
  have A12_r := V8.other W11 (Ne.symm (Exa.neArv E9_a1 V8 (hw _ (List.mem_of_getElem? (i := 2) rfl))))
  have O12 := O9.wr W11 f6
  have hk12 := Nat.le_trans hk9 (Keep.of_wr W11).1
  have KC12 := KC9.wr W11 (Or.inl (List.mem_of_getElem? (i := 0) rfl))
  show Goes _ _ _ _ _ _ (T11.setTop (mkF m 35 #[.val (.ref a1), .val (.ref a2)] []))
  exact own_retVW X11 hx hS1 (by rw [e11]; exact hk12) N11 hlk (by decide) (by decide) hret (hb hby d8_35) (by rw [e11]; exact ⟨hd, (vs.set (j_7).toNatClampNeg (.ref a2)), rfl, KC12, E12_a1, F12_ring_a1, F12_head_a1, F12_size_a1, A12_r, hhd, (by first | simpa using hvl)⟩)
theorem d16_0 : decode prog_15_method_8_code 0 = .ok (.aload_n 0, 1) := by decide +kernel
theorem d16_1 : decode prog_15_method_8_code 1 = .ok (.iconst 0, 1) := by decide +kernel
theorem d16_2 : decode prog_15_method_8_code 2 = .ok (.invokevirtual 44, 3) := by decide +kernel
theorem pd_5 : parseMethodDescriptor "(I)[B" = some ⟨[.int], some (.array .byte)⟩ := by decide +kernel
theorem d16_5 : decode prog_15_method_8_code 5 = .ok (.astore_n 1, 1) := by decide +kernel
theorem d16_6 : decode prog_15_method_8_code 6 = .ok (.aload_n 0, 1) := by decide +kernel
theorem d16_7 : decode prog_15_method_8_code 7 = .ok (.getfield 13, 3) := by decide +kernel
theorem d16_10 : decode prog_15_method_8_code 10 = .ok (.aload_n 0, 1) := by decide +kernel
theorem d16_11 : decode prog_15_method_8_code 11 = .ok (.getfield 41, 3) := by decide +kernel
theorem d16_14 : decode prog_15_method_8_code 14 = .ok (.aconst_null, 1) := by decide +kernel
theorem d16_15 : decode prog_15_method_8_code 15 = .ok (.aastore, 1) := by decide +kernel
theorem d16_16 : decode prog_15_method_8_code 16 = .ok (.aload_n 0, 1) := by decide +kernel
theorem d16_17 : decode prog_15_method_8_code 17 = .ok (.aload_n 0, 1) := by decide +kernel
theorem d16_18 : decode prog_15_method_8_code 18 = .ok (.iconst 1, 1) := by decide +kernel
theorem d16_19 : decode prog_15_method_8_code 19 = .ok (.invokevirtual 22, 3) := by decide +kernel
theorem d16_22 : decode prog_15_method_8_code 22 = .ok (.putfield 41, 3) := by decide +kernel
theorem d16_25 : decode prog_15_method_8_code 25 = .ok (.aload_n 0, 1) := by decide +kernel
theorem d16_26 : decode prog_15_method_8_code 26 = .ok (.dup, 1) := by decide +kernel
theorem d16_27 : decode prog_15_method_8_code 27 = .ok (.getfield 17, 3) := by decide +kernel
theorem d16_30 : decode prog_15_method_8_code 30 = .ok (.iconst 1, 1) := by decide +kernel
theorem d16_31 : decode prog_15_method_8_code 31 = .ok (.isub, 1) := by decide +kernel
theorem d16_32 : decode prog_15_method_8_code 32 = .ok (.putfield 17, 3) := by decide +kernel
theorem d16_35 : decode prog_15_method_8_code 35 = .ok (.aload_n 0, 1) := by decide +kernel
theorem d16_36 : decode prog_15_method_8_code 36 = .ok (.invokevirtual 48, 3) := by decide +kernel
theorem d16_39 : decode prog_15_method_8_code 39 = .ok (.aload_n 1, 1) := by decide +kernel
theorem d16_40 : decode prog_15_method_8_code 40 = .ok (.areturn, 1) := by decide +kernel
def Q16 (Z : State) (a1 : Addr) (r : Addr) (hd : Int32) (n : Int32) (k : ClassId) (vs : List Value) (h0 : Heap) (n0 : Nat) (v : Option Value) (h : Heap) : Prop :=
  (∃ (hd2 : Int32) (vs2 : List Value), v = some .null ∧ Keep h0 h [a1, r] ∧ Exa Z h a1 "com/example/kache/kache/store/ListValue" ∧ Fld Z h a1 "com/example/kache/kache/store/ListValue" "ring" "[[B" (.ref r) ∧ Fld Z h a1 "com/example/kache/kache/store/ListValue" "head" "I" (.int hd2) ∧ Fld Z h a1 "com/example/kache/kache/store/ListValue" "size" "I" (.int (n - (1 : Int32))) ∧ Arv Z h r k (.array .byte) (8 : Int32) vs2 .null ∧ Rg hd2 ∧ vs2.length = 8) ∨
  (∃ (b : Addr) (hd2 : Int32) (vs2 : List Value), v = some (.ref b) ∧ Keep h0 h [a1, r] ∧ Exa Z h a1 "com/example/kache/kache/store/ListValue" ∧ Fld Z h a1 "com/example/kache/kache/store/ListValue" "ring" "[[B" (.ref r) ∧ Fld Z h a1 "com/example/kache/kache/store/ListValue" "head" "I" (.int hd2) ∧ Fld Z h a1 "com/example/kache/kache/store/ListValue" "size" "I" (.int (n - (1 : Int32))) ∧ Arv Z h r k (.array .byte) (8 : Int32) vs2 .null ∧ Rg hd2 ∧ vs2.length = 8)
theorem ef_16 (m : MethodId) (a1 : Addr) : entryFrame m #[(.ref a1)] 2 = mkF m 0 #[.val (.ref a1), .unset] [] := by first | (simp [entryFrame, mkF, argsToLocals, Value.category]; done) | rfl
set_option maxRecDepth 65536 in
set_option maxHeartbeats 40000000 in
theorem rm16 (l : Launch) (Z : State) (a0 : Array Value) (hw : ∀ d ∈ tables_1, d.before a0 Z = true) (ws : List Jvm.Cond) (a1 : Addr) (r : Addr) (hd : Int32) (n : Int32) (k : ClassId) (vs : List Value) (h0 : Heap) (n0 : Nat) (O0 : Old Z n0 h0) (f0 : Exa Z h0 a1 "com/example/kache/kache/store/ListValue") (f1 : Fld Z h0 a1 "com/example/kache/kache/store/ListValue" "ring" "[[B" (.ref r)) (f2 : Fld Z h0 a1 "com/example/kache/kache/store/ListValue" "head" "I" (.int hd)) (f3 : Fld Z h0 a1 "com/example/kache/kache/store/ListValue" "size" "I" (.int n)) (f4 : Arv Z h0 r k (.array .byte) (8 : Int32) vs .null) (hhd : Rg hd) (f6 : n0 ≤ a1) (f7 : n0 ≤ r) (hvl : vs.length = 8) (hov : OvrA Z k .byte "[B") (hrn : Rg (n - (1 : Int32))) :
    Meets l (⟨"com/example/kache/kache/store/ListValue", "removeFirst", "()[B"⟩ : MethodName) prog_15_method_8_code 2 (some (.array .byte)) ws ({ frames := 3, cells := 0, slots := 0, locals := 40 } : Room) ({ frames := 3, cells := 0, slots := 0, locals := 40 } : Room).cells ({ frames := 3, cells := 0, slots := 0, locals := 40 } : Room).slots Z #[(.ref a1)] h0 n0 (Q16 Z a1 r hd n k vs h0 n0) := by
  refine Meets.of (F := fun m => mkF m 0 #[.val (.ref a1), .unset] []) (plainFor_of_name pn_0) (fun m => ef_16 m a1) ?_
  intro p e s m below meth c T0 hx hby hml hown0 hnm hret hlk hZ X0 e0
  have hown : s.vm.findClass "com/example/kache/kache/store/ListValue" = some m.cls := hown0
  have N0 := Fr.nil n0
  have KC0 := Keep.refl h0 [a1, r]
  show Goes _ _ _ _ _ _ (T0.setTop (mkF m 0 #[.val (.ref a1), .unset] []))
  refine own_aloadN X0 hx (hb hby d16_0) rfl rfl ?_
  refine own_iconst X0 hx (v := (0 : Int32)) (hb hby d16_1) rfl ?_
  refine own_virtual X0 hx hZ hown (y := (⟨"com/example/kache/kache/store/ListValue", "get", "(I)[B"⟩ : MethodName)) (z := (⟨"com/example/kache/kache/store/ListValue", "get", "(I)[B"⟩ : MethodName)) (hw _ (List.mem_of_getElem? (i := 66) rfl)) (hw _ (List.mem_of_getElem? (i := 67) rfl)) (notFace_of_selects (args := #[]) (mvT hZ (hw _ (List.mem_of_getElem? (i := 69) rfl)))) (hw _ (List.mem_of_getElem? (i := 69) rfl)) (hw _ (List.mem_of_getElem? (i := 68) rfl)) (hw _ (List.mem_of_getElem? (i := 3) rfl)) (hw _ (List.mem_of_getElem? (i := 70) rfl)) (a := a1) f0 (by decide) (W := 0) (by decide) (by decide) N0 e0 (by rw [hml]; rfl) (argsL := [(.int (0 : Int32))]) (rest := []) (lenOf pd_5 rfl) (Nat.le_of_eq rfl) (by decide) (by decide) (rm12 l Z a0 hw [] a1 (0 : Int32) r hd n k vs h0 n0 O0 f0 f1 f2 f3 f4 hhd (by decide) (own_0lt hrn) (by decide)) rfl (hb hby d16_2) ?_
  intro v1 T1 lc1 X1 N1 hQ1
  rcases hQ1 with hQ1_0 | hQ1_1
  ·
    obtain ⟨rfl, e1⟩ := hQ1_0
    show Goes _ _ _ _ _ _ (T1.setTop (mkF m 5 #[.val (.ref a1), .unset] [.null]))
    refine own_astoreN X1 hx (Ls' := #[.val (.ref a1), .val .null]) (hb hby d16_5) rfl rfl ?_
    refine own_aloadN X1 hx (hb hby d16_6) rfl rfl ?_
    refine own_getF X1 hx hZ hown (host := "") (Or.inl (hw _ (List.mem_of_getElem? (i := 12) rfl))) Via.refl e1 f1 (hb hby d16_7) (fun T2 X2 e2 => ?_)
    show Goes _ _ _ _ _ _ (T2.setTop (mkF m 10 #[.val (.ref a1), .val .null] [(.ref r)]))
    refine own_aloadN X2 hx (hb hby d16_10) rfl rfl ?_
    refine own_getF X2 hx hZ hown (host := "") (Or.inl (hw _ (List.mem_of_getElem? (i := 46) rfl))) Via.refl e2 f2 (hb hby d16_11) (fun T3 X3 e3 => ?_)
    show Goes _ _ _ _ _ _ (T3.setTop (mkF m 14 #[.val (.ref a1), .val .null] [(.int hd), (.ref r)]))
    refine own_aconst_null X3 hx (hb hby d16_14) ?_
    refine own_aastore X3 hx hZ N1 e3 f4 rfl rfl hhd.ix (i := (hd).toNatClampNeg) rfl (by first | (rw [hvl]; exact hhd.nat) | simpa [hvl] using hhd.nat) f7 (fun _ _ _ => Or.inl rfl) (hb hby d16_15) (fun T4 h4 lc4 X4 e4 N4 W4 V4 => ?_)
    have E5_a1 := f0.wr W4
    have F5_ring_a1 := f1.other W4 (Or.inl (Exa.neArv f0 f4 (hw _ (List.mem_of_getElem? (i := 2) rfl))))
    have F5_head_a1 := f2.other W4 (Or.inl (Exa.neArv f0 f4 (hw _ (List.mem_of_getElem? (i := 2) rfl))))
    have F5_size_a1 := f3.other W4 (Or.inl (Exa.neArv f0 f4 (hw _ (List.mem_of_getElem? (i := 2) rfl))))
    have O5 := O0.wr W4 f7
    have KC5 := KC0.wr W4 (Or.inl (List.mem_of_getElem? (i := 1) rfl))
    show Goes _ _ _ _ _ _ (T4.setTop (mkF m 16 #[.val (.ref a1), .val .null] []))
    refine own_aloadN X4 hx (hb hby d16_16) rfl rfl ?_
    refine own_aloadN X4 hx (hb hby d16_17) rfl rfl ?_
    refine own_iconst X4 hx (v := (1 : Int32)) (hb hby d16_18) rfl ?_
    refine own_private X4 hx hZ hown (y := (⟨"com/example/kache/kache/store/ListValue", "slot", "(I)I"⟩ : MethodName)) (hw _ (List.mem_of_getElem? (i := 54) rfl)) (hw _ (List.mem_of_getElem? (i := 55) rfl)) (hw _ (List.mem_of_getElem? (i := 2) rfl)) (hw _ (List.mem_of_getElem? (i := 56) rfl)) (hw _ (List.mem_of_getElem? (i := 3) rfl)) (hw _ (List.mem_of_getElem? (i := 57) rfl)) (a := a1) E5_a1 (by decide) (W := 1) (by decide) (by decide) N4 e4 (by rw [hml]; rfl) (argsL := [(.int (1 : Int32))]) (rest := [(.ref a1)]) (lenOf pd_2 rfl) (Nat.le_of_eq rfl) (by decide) (by decide) (rm9 l Z a0 hw [] a1 (1 : Int32) r hd n k (vs.set (hd).toNatClampNeg .null) h4 n0 O5 E5_a1 F5_ring_a1 F5_head_a1 F5_size_a1 V4 hhd (by decide)) rfl (hb hby d16_19) ?_
    intro v6 T6 lc6 X6 N6 hQ6
    obtain ⟨j_6, rfl, hq6_0, e6⟩ := hQ6
    show Goes _ _ _ _ _ _ (T6.setTop (mkF m 22 #[.val (.ref a1), .val .null] [(.int j_6), (.ref a1)]))
    refine own_putF X6 hx hZ hown N6 (host := "") (Or.inl (hw _ (List.mem_of_getElem? (i := 46) rfl))) Via.refl e6 F5_head_a1 E5_a1 (Or.inl (hw _ (List.mem_of_getElem? (i := 47) rfl))) (hw _ (List.mem_of_getElem? (i := 2) rfl)) (ty := .int) (by decide) rfl rfl f6 (hb hby d16_22) (fun T7 h7 lc7 X7 e7 N7 W7 => ?_)
    have E8_a1 := E5_a1.wr W7
    have F8_ring_a1 := F5_ring_a1.other W7 (Or.inr (slot_ne (Or.inl (hw _ (List.mem_of_getElem? (i := 13) rfl))) (Or.inl (hw _ (List.mem_of_getElem? (i := 47) rfl))) (by decide) (t := (.array (.array .byte))) (t' := .int) (by decide) (by decide)))
    have F8_head_a1 := F5_head_a1.same W7
    have F8_size_a1 := F5_size_a1.other W7 (Or.inr (slot_ne (Or.inl (hw _ (List.mem_of_getElem? (i := 20) rfl))) (Or.inl (hw _ (List.mem_of_getElem? (i := 47) rfl))) (by decide) (t := .int) (t' := .int) (by decide) (by decide)))
    have A8_r := V4.other W7 (Ne.symm (Exa.neArv E5_a1 V4 (hw _ (List.mem_of_getElem? (i := 2) rfl))))
    have O8 := O5.wr W7 f6
    have KC8 := KC5.wr W7 (Or.inl (List.mem_of_getElem? (i := 0) rfl))
    show Goes _ _ _ _ _ _ (T7.setTop (mkF m 25 #[.val (.ref a1), .val .null] []))
    refine own_aloadN X7 hx (hb hby d16_25) rfl rfl ?_
    refine own_dup X7 hx (hb hby d16_26) rfl ?_
    refine own_getF X7 hx hZ hown (host := "") (Or.inl (hw _ (List.mem_of_getElem? (i := 19) rfl))) Via.refl e7 F8_size_a1 (hb hby d16_27) (fun T9 X9 e9 => ?_)
    show Goes _ _ _ _ _ _ (T9.setTop (mkF m 30 #[.val (.ref a1), .val .null] [(.int n), (.ref a1)]))
    refine own_iconst X9 hx (v := (1 : Int32)) (hb hby d16_30) rfl ?_
    refine own_isub X9 hx (hb hby d16_31) ?_
    refine own_putF X9 hx hZ hown N7 (host := "") (Or.inl (hw _ (List.mem_of_getElem? (i := 19) rfl))) Via.refl e9 F8_size_a1 E8_a1 (Or.inl (hw _ (List.mem_of_getElem? (i := 20) rfl))) (hw _ (List.mem_of_getElem? (i := 2) rfl)) (ty := .int) (by decide) rfl rfl f6 (hb hby d16_32) (fun T10 h10 lc10 X10 e10 N10 W10 => ?_)
    have E11_a1 := E8_a1.wr W10
    have F11_ring_a1 := F8_ring_a1.other W10 (Or.inr (slot_ne (Or.inl (hw _ (List.mem_of_getElem? (i := 13) rfl))) (Or.inl (hw _ (List.mem_of_getElem? (i := 20) rfl))) (by decide) (t := (.array (.array .byte))) (t' := .int) (by decide) (by decide)))
    have F11_head_a1 := F8_head_a1.other W10 (Or.inr (slot_ne (Or.inl (hw _ (List.mem_of_getElem? (i := 47) rfl))) (Or.inl (hw _ (List.mem_of_getElem? (i := 20) rfl))) (by decide) (t := .int) (t' := .int) (by decide) (by decide)))
    have F11_size_a1 := F8_size_a1.same W10
    have A11_r := A8_r.other W10 (Ne.symm (Exa.neArv E8_a1 A8_r (hw _ (List.mem_of_getElem? (i := 2) rfl))))
    have O11 := O8.wr W10 f6
    have KC11 := KC8.wr W10 (Or.inl (List.mem_of_getElem? (i := 0) rfl))
    show Goes _ _ _ _ _ _ (T10.setTop (mkF m 35 #[.val (.ref a1), .val .null] []))
    refine own_aloadN X10 hx (hb hby d16_35) rfl rfl ?_
    refine own_private X10 hx hZ hown (y := (⟨"com/example/kache/kache/store/ListValue", "shrinkIfSparse", "()V"⟩ : MethodName)) (hw _ (List.mem_of_getElem? (i := 78) rfl)) (hw _ (List.mem_of_getElem? (i := 79) rfl)) (hw _ (List.mem_of_getElem? (i := 2) rfl)) (hw _ (List.mem_of_getElem? (i := 80) rfl)) (hw _ (List.mem_of_getElem? (i := 3) rfl)) (hw _ (List.mem_of_getElem? (i := 81) rfl)) (a := a1) E11_a1 (by decide) (W := 0) (by decide) (by decide) N10 e10 (by rw [hml]; rfl) (argsL := []) (rest := []) (lenOf pd_4 rfl) (Nat.le_of_eq rfl) (by decide) (by decide) (rm15 l Z a0 hw [] a1 r j_6 (n - (1 : Int32)) k (vs.set (hd).toNatClampNeg .null) h10 n0 O11 E11_a1 F11_ring_a1 F11_head_a1 F11_size_a1 A11_r) rfl (hb hby d16_36) ?_
    intro v12 T12 lc12 X12 N12 hQ12
    obtain ⟨rfl, e12⟩ := hQ12
    show Goes _ _ _ _ _ _ (T12.setTop (mkF m 39 #[.val (.ref a1), .val .null] []))
    refine own_aloadN X12 hx (hb hby d16_39) rfl rfl ?_
    show Goes _ _ _ _ _ _ (T12.setTop (mkF m 40 #[.val (.ref a1), .val .null] [.null]))
    exact own_retR X12 hx N12 hlk (by decide) (by decide) hret rfl rfl rfl (hb hby d16_40) (by rw [e12]; exact Or.inl ⟨j_6, (vs.set (hd).toNatClampNeg .null), rfl, KC11, E11_a1, F11_ring_a1, F11_head_a1, F11_size_a1, A11_r, hq6_0, (by first | simpa using hvl)⟩)
  ·
    obtain ⟨b_1, rfl, e1⟩ := hQ1_1
    show Goes _ _ _ _ _ _ (T1.setTop (mkF m 5 #[.val (.ref a1), .unset] [(.ref b_1)]))
    refine own_astoreN X1 hx (Ls' := #[.val (.ref a1), .val (.ref b_1)]) (hb hby d16_5) rfl rfl ?_
    refine own_aloadN X1 hx (hb hby d16_6) rfl rfl ?_
    refine own_getF X1 hx hZ hown (host := "") (Or.inl (hw _ (List.mem_of_getElem? (i := 12) rfl))) Via.refl e1 f1 (hb hby d16_7) (fun T13 X13 e13 => ?_)
    show Goes _ _ _ _ _ _ (T13.setTop (mkF m 10 #[.val (.ref a1), .val (.ref b_1)] [(.ref r)]))
    refine own_aloadN X13 hx (hb hby d16_10) rfl rfl ?_
    refine own_getF X13 hx hZ hown (host := "") (Or.inl (hw _ (List.mem_of_getElem? (i := 46) rfl))) Via.refl e13 f2 (hb hby d16_11) (fun T14 X14 e14 => ?_)
    show Goes _ _ _ _ _ _ (T14.setTop (mkF m 14 #[.val (.ref a1), .val (.ref b_1)] [(.int hd), (.ref r)]))
    refine own_aconst_null X14 hx (hb hby d16_14) ?_
    refine own_aastore X14 hx hZ N1 e14 f4 rfl rfl hhd.ix (i := (hd).toNatClampNeg) rfl (by first | (rw [hvl]; exact hhd.nat) | simpa [hvl] using hhd.nat) f7 (fun _ _ _ => Or.inl rfl) (hb hby d16_15) (fun T15 h15 lc15 X15 e15 N15 W15 V15 => ?_)
    have E16_a1 := f0.wr W15
    have F16_ring_a1 := f1.other W15 (Or.inl (Exa.neArv f0 f4 (hw _ (List.mem_of_getElem? (i := 2) rfl))))
    have F16_head_a1 := f2.other W15 (Or.inl (Exa.neArv f0 f4 (hw _ (List.mem_of_getElem? (i := 2) rfl))))
    have F16_size_a1 := f3.other W15 (Or.inl (Exa.neArv f0 f4 (hw _ (List.mem_of_getElem? (i := 2) rfl))))
    have O16 := O0.wr W15 f7
    have KC16 := KC0.wr W15 (Or.inl (List.mem_of_getElem? (i := 1) rfl))
    show Goes _ _ _ _ _ _ (T15.setTop (mkF m 16 #[.val (.ref a1), .val (.ref b_1)] []))
    refine own_aloadN X15 hx (hb hby d16_16) rfl rfl ?_
    refine own_aloadN X15 hx (hb hby d16_17) rfl rfl ?_
    refine own_iconst X15 hx (v := (1 : Int32)) (hb hby d16_18) rfl ?_
    refine own_private X15 hx hZ hown (y := (⟨"com/example/kache/kache/store/ListValue", "slot", "(I)I"⟩ : MethodName)) (hw _ (List.mem_of_getElem? (i := 54) rfl)) (hw _ (List.mem_of_getElem? (i := 55) rfl)) (hw _ (List.mem_of_getElem? (i := 2) rfl)) (hw _ (List.mem_of_getElem? (i := 56) rfl)) (hw _ (List.mem_of_getElem? (i := 3) rfl)) (hw _ (List.mem_of_getElem? (i := 57) rfl)) (a := a1) E16_a1 (by decide) (W := 1) (by decide) (by decide) N15 e15 (by rw [hml]; rfl) (argsL := [(.int (1 : Int32))]) (rest := [(.ref a1)]) (lenOf pd_2 rfl) (Nat.le_of_eq rfl) (by decide) (by decide) (rm9 l Z a0 hw [] a1 (1 : Int32) r hd n k (vs.set (hd).toNatClampNeg .null) h15 n0 O16 E16_a1 F16_ring_a1 F16_head_a1 F16_size_a1 V15 hhd (by decide)) rfl (hb hby d16_19) ?_
    intro v17 T17 lc17 X17 N17 hQ17
    obtain ⟨j_17, rfl, hq17_0, e17⟩ := hQ17
    show Goes _ _ _ _ _ _ (T17.setTop (mkF m 22 #[.val (.ref a1), .val (.ref b_1)] [(.int j_17), (.ref a1)]))
    refine own_putF X17 hx hZ hown N17 (host := "") (Or.inl (hw _ (List.mem_of_getElem? (i := 46) rfl))) Via.refl e17 F16_head_a1 E16_a1 (Or.inl (hw _ (List.mem_of_getElem? (i := 47) rfl))) (hw _ (List.mem_of_getElem? (i := 2) rfl)) (ty := .int) (by decide) rfl rfl f6 (hb hby d16_22) (fun T18 h18 lc18 X18 e18 N18 W18 => ?_)
    have E19_a1 := E16_a1.wr W18
    have F19_ring_a1 := F16_ring_a1.other W18 (Or.inr (slot_ne (Or.inl (hw _ (List.mem_of_getElem? (i := 13) rfl))) (Or.inl (hw _ (List.mem_of_getElem? (i := 47) rfl))) (by decide) (t := (.array (.array .byte))) (t' := .int) (by decide) (by decide)))
    have F19_head_a1 := F16_head_a1.same W18
    have F19_size_a1 := F16_size_a1.other W18 (Or.inr (slot_ne (Or.inl (hw _ (List.mem_of_getElem? (i := 20) rfl))) (Or.inl (hw _ (List.mem_of_getElem? (i := 47) rfl))) (by decide) (t := .int) (t' := .int) (by decide) (by decide)))
    have A19_r := V15.other W18 (Ne.symm (Exa.neArv E16_a1 V15 (hw _ (List.mem_of_getElem? (i := 2) rfl))))
    have O19 := O16.wr W18 f6
    have KC19 := KC16.wr W18 (Or.inl (List.mem_of_getElem? (i := 0) rfl))
    show Goes _ _ _ _ _ _ (T18.setTop (mkF m 25 #[.val (.ref a1), .val (.ref b_1)] []))
    refine own_aloadN X18 hx (hb hby d16_25) rfl rfl ?_
    refine own_dup X18 hx (hb hby d16_26) rfl ?_
    refine own_getF X18 hx hZ hown (host := "") (Or.inl (hw _ (List.mem_of_getElem? (i := 19) rfl))) Via.refl e18 F19_size_a1 (hb hby d16_27) (fun T20 X20 e20 => ?_)
    show Goes _ _ _ _ _ _ (T20.setTop (mkF m 30 #[.val (.ref a1), .val (.ref b_1)] [(.int n), (.ref a1)]))
    refine own_iconst X20 hx (v := (1 : Int32)) (hb hby d16_30) rfl ?_
    refine own_isub X20 hx (hb hby d16_31) ?_
    refine own_putF X20 hx hZ hown N18 (host := "") (Or.inl (hw _ (List.mem_of_getElem? (i := 19) rfl))) Via.refl e20 F19_size_a1 E19_a1 (Or.inl (hw _ (List.mem_of_getElem? (i := 20) rfl))) (hw _ (List.mem_of_getElem? (i := 2) rfl)) (ty := .int) (by decide) rfl rfl f6 (hb hby d16_32) (fun T21 h21 lc21 X21 e21 N21 W21 => ?_)
    have E22_a1 := E19_a1.wr W21
    have F22_ring_a1 := F19_ring_a1.other W21 (Or.inr (slot_ne (Or.inl (hw _ (List.mem_of_getElem? (i := 13) rfl))) (Or.inl (hw _ (List.mem_of_getElem? (i := 20) rfl))) (by decide) (t := (.array (.array .byte))) (t' := .int) (by decide) (by decide)))
    have F22_head_a1 := F19_head_a1.other W21 (Or.inr (slot_ne (Or.inl (hw _ (List.mem_of_getElem? (i := 47) rfl))) (Or.inl (hw _ (List.mem_of_getElem? (i := 20) rfl))) (by decide) (t := .int) (t' := .int) (by decide) (by decide)))
    have F22_size_a1 := F19_size_a1.same W21
    have A22_r := A19_r.other W21 (Ne.symm (Exa.neArv E19_a1 A19_r (hw _ (List.mem_of_getElem? (i := 2) rfl))))
    have O22 := O19.wr W21 f6
    have KC22 := KC19.wr W21 (Or.inl (List.mem_of_getElem? (i := 0) rfl))
    show Goes _ _ _ _ _ _ (T21.setTop (mkF m 35 #[.val (.ref a1), .val (.ref b_1)] []))
    refine own_aloadN X21 hx (hb hby d16_35) rfl rfl ?_
    refine own_private X21 hx hZ hown (y := (⟨"com/example/kache/kache/store/ListValue", "shrinkIfSparse", "()V"⟩ : MethodName)) (hw _ (List.mem_of_getElem? (i := 78) rfl)) (hw _ (List.mem_of_getElem? (i := 79) rfl)) (hw _ (List.mem_of_getElem? (i := 2) rfl)) (hw _ (List.mem_of_getElem? (i := 80) rfl)) (hw _ (List.mem_of_getElem? (i := 3) rfl)) (hw _ (List.mem_of_getElem? (i := 81) rfl)) (a := a1) E22_a1 (by decide) (W := 0) (by decide) (by decide) N21 e21 (by rw [hml]; rfl) (argsL := []) (rest := []) (lenOf pd_4 rfl) (Nat.le_of_eq rfl) (by decide) (by decide) (rm15 l Z a0 hw [] a1 r j_17 (n - (1 : Int32)) k (vs.set (hd).toNatClampNeg .null) h21 n0 O22 E22_a1 F22_ring_a1 F22_head_a1 F22_size_a1 A22_r) rfl (hb hby d16_36) ?_
    intro v23 T23 lc23 X23 N23 hQ23
    obtain ⟨rfl, e23⟩ := hQ23
    show Goes _ _ _ _ _ _ (T23.setTop (mkF m 39 #[.val (.ref a1), .val (.ref b_1)] []))
    refine own_aloadN X23 hx (hb hby d16_39) rfl rfl ?_
    show Goes _ _ _ _ _ _ (T23.setTop (mkF m 40 #[.val (.ref a1), .val (.ref b_1)] [(.ref b_1)]))
    exact own_retR X23 hx N23 hlk (by decide) (by decide) hret rfl rfl rfl (hb hby d16_40) (by rw [e23]; exact Or.inr (⟨b_1, j_17, (vs.set (hd).toNatClampNeg .null), rfl, KC22, E22_a1, F22_ring_a1, F22_head_a1, F22_size_a1, A22_r, hq17_0, (by first | simpa using hvl)⟩))
theorem d11_0 : decode prog_15_method_9_code 0 = .ok (.aload_n 0, 1) := by decide +kernel
theorem d11_1 : decode prog_15_method_9_code 1 = .ok (.aload_n 0, 1) := by decide +kernel
theorem d11_2 : decode prog_15_method_9_code 2 = .ok (.getfield 17, 3) := by decide +kernel
theorem d11_5 : decode prog_15_method_9_code 5 = .ok (.iconst 1, 1) := by decide +kernel
theorem d11_6 : decode prog_15_method_9_code 6 = .ok (.isub, 1) := by decide +kernel
theorem d11_7 : decode prog_15_method_9_code 7 = .ok (.invokevirtual 44, 3) := by decide +kernel
theorem d11_10 : decode prog_15_method_9_code 10 = .ok (.astore_n 1, 1) := by decide +kernel
theorem d11_11 : decode prog_15_method_9_code 11 = .ok (.aload_n 0, 1) := by decide +kernel
theorem d11_12 : decode prog_15_method_9_code 12 = .ok (.getfield 13, 3) := by decide +kernel
theorem d11_15 : decode prog_15_method_9_code 15 = .ok (.aload_n 0, 1) := by decide +kernel
theorem d11_16 : decode prog_15_method_9_code 16 = .ok (.aload_n 0, 1) := by decide +kernel
theorem d11_17 : decode prog_15_method_9_code 17 = .ok (.getfield 17, 3) := by decide +kernel
theorem d11_20 : decode prog_15_method_9_code 20 = .ok (.iconst 1, 1) := by decide +kernel
theorem d11_21 : decode prog_15_method_9_code 21 = .ok (.isub, 1) := by decide +kernel
theorem d11_22 : decode prog_15_method_9_code 22 = .ok (.invokevirtual 22, 3) := by decide +kernel
theorem d11_25 : decode prog_15_method_9_code 25 = .ok (.aconst_null, 1) := by decide +kernel
theorem d11_26 : decode prog_15_method_9_code 26 = .ok (.aastore, 1) := by decide +kernel
theorem d11_27 : decode prog_15_method_9_code 27 = .ok (.aload_n 0, 1) := by decide +kernel
theorem d11_28 : decode prog_15_method_9_code 28 = .ok (.dup, 1) := by decide +kernel
theorem d11_29 : decode prog_15_method_9_code 29 = .ok (.getfield 17, 3) := by decide +kernel
theorem d11_32 : decode prog_15_method_9_code 32 = .ok (.iconst 1, 1) := by decide +kernel
theorem d11_33 : decode prog_15_method_9_code 33 = .ok (.isub, 1) := by decide +kernel
theorem d11_34 : decode prog_15_method_9_code 34 = .ok (.putfield 17, 3) := by decide +kernel
theorem d11_37 : decode prog_15_method_9_code 37 = .ok (.aload_n 0, 1) := by decide +kernel
theorem d11_38 : decode prog_15_method_9_code 38 = .ok (.invokevirtual 48, 3) := by decide +kernel
theorem d11_41 : decode prog_15_method_9_code 41 = .ok (.aload_n 1, 1) := by decide +kernel
theorem d11_42 : decode prog_15_method_9_code 42 = .ok (.areturn, 1) := by decide +kernel
def Q11 (Z : State) (a1 : Addr) (r : Addr) (hd : Int32) (n : Int32) (k : ClassId) (vs : List Value) (h0 : Heap) (n0 : Nat) (v : Option Value) (h : Heap) : Prop :=
  (∃ (hd2 : Int32) (vs2 : List Value), v = some .null ∧ Keep h0 h [a1, r] ∧ Exa Z h a1 "com/example/kache/kache/store/ListValue" ∧ Fld Z h a1 "com/example/kache/kache/store/ListValue" "ring" "[[B" (.ref r) ∧ Fld Z h a1 "com/example/kache/kache/store/ListValue" "head" "I" (.int hd2) ∧ Fld Z h a1 "com/example/kache/kache/store/ListValue" "size" "I" (.int (n - (1 : Int32))) ∧ Arv Z h r k (.array .byte) (8 : Int32) vs2 .null ∧ Rg hd2 ∧ vs2.length = 8) ∨
  (∃ (b : Addr) (hd2 : Int32) (vs2 : List Value), v = some (.ref b) ∧ Keep h0 h [a1, r] ∧ Exa Z h a1 "com/example/kache/kache/store/ListValue" ∧ Fld Z h a1 "com/example/kache/kache/store/ListValue" "ring" "[[B" (.ref r) ∧ Fld Z h a1 "com/example/kache/kache/store/ListValue" "head" "I" (.int hd2) ∧ Fld Z h a1 "com/example/kache/kache/store/ListValue" "size" "I" (.int (n - (1 : Int32))) ∧ Arv Z h r k (.array .byte) (8 : Int32) vs2 .null ∧ Rg hd2 ∧ vs2.length = 8)
theorem ef_11 (m : MethodId) (a1 : Addr) : entryFrame m #[(.ref a1)] 2 = mkF m 0 #[.val (.ref a1), .unset] [] := by first | (simp [entryFrame, mkF, argsToLocals, Value.category]; done) | rfl
set_option maxRecDepth 65536 in
set_option maxHeartbeats 40000000 in
theorem rm11 (l : Launch) (Z : State) (a0 : Array Value) (hw : ∀ d ∈ tables_1, d.before a0 Z = true) (ws : List Jvm.Cond) (a1 : Addr) (r : Addr) (hd : Int32) (n : Int32) (k : ClassId) (vs : List Value) (h0 : Heap) (n0 : Nat) (O0 : Old Z n0 h0) (f0 : Exa Z h0 a1 "com/example/kache/kache/store/ListValue") (f1 : Fld Z h0 a1 "com/example/kache/kache/store/ListValue" "ring" "[[B" (.ref r)) (f2 : Fld Z h0 a1 "com/example/kache/kache/store/ListValue" "head" "I" (.int hd)) (f3 : Fld Z h0 a1 "com/example/kache/kache/store/ListValue" "size" "I" (.int n)) (f4 : Arv Z h0 r k (.array .byte) (8 : Int32) vs .null) (hhd : Rg hd) (f6 : n0 ≤ a1) (f7 : n0 ≤ r) (hvl : vs.length = 8) (hov : OvrA Z k .byte "[B") (hrn : Rg (n - (1 : Int32))) :
    Meets l (⟨"com/example/kache/kache/store/ListValue", "removeLast", "()[B"⟩ : MethodName) prog_15_method_9_code 2 (some (.array .byte)) ws ({ frames := 3, cells := 0, slots := 0, locals := 40 } : Room) ({ frames := 3, cells := 0, slots := 0, locals := 40 } : Room).cells ({ frames := 3, cells := 0, slots := 0, locals := 40 } : Room).slots Z #[(.ref a1)] h0 n0 (Q11 Z a1 r hd n k vs h0 n0) := by
  refine Meets.of (F := fun m => mkF m 0 #[.val (.ref a1), .unset] []) (plainFor_of_name pn_0) (fun m => ef_11 m a1) ?_
  intro p e s m below meth c T0 hx hby hml hown0 hnm hret hlk hZ X0 e0
  have hown : s.vm.findClass "com/example/kache/kache/store/ListValue" = some m.cls := hown0
  have N0 := Fr.nil n0
  have KC0 := Keep.refl h0 [a1, r]
  show Goes _ _ _ _ _ _ (T0.setTop (mkF m 0 #[.val (.ref a1), .unset] []))
  refine own_aloadN X0 hx (hb hby d11_0) rfl rfl ?_
  refine own_aloadN X0 hx (hb hby d11_1) rfl rfl ?_
  refine own_getF X0 hx hZ hown (host := "") (Or.inl (hw _ (List.mem_of_getElem? (i := 19) rfl))) Via.refl e0 f3 (hb hby d11_2) (fun T1 X1 e1 => ?_)
  show Goes _ _ _ _ _ _ (T1.setTop (mkF m 5 #[.val (.ref a1), .unset] [(.int n), (.ref a1)]))
  refine own_iconst X1 hx (v := (1 : Int32)) (hb hby d11_5) rfl ?_
  refine own_isub X1 hx (hb hby d11_6) ?_
  refine own_virtual X1 hx hZ hown (y := (⟨"com/example/kache/kache/store/ListValue", "get", "(I)[B"⟩ : MethodName)) (z := (⟨"com/example/kache/kache/store/ListValue", "get", "(I)[B"⟩ : MethodName)) (hw _ (List.mem_of_getElem? (i := 66) rfl)) (hw _ (List.mem_of_getElem? (i := 67) rfl)) (notFace_of_selects (args := #[]) (mvT hZ (hw _ (List.mem_of_getElem? (i := 69) rfl)))) (hw _ (List.mem_of_getElem? (i := 69) rfl)) (hw _ (List.mem_of_getElem? (i := 68) rfl)) (hw _ (List.mem_of_getElem? (i := 3) rfl)) (hw _ (List.mem_of_getElem? (i := 70) rfl)) (a := a1) f0 (by decide) (W := 0) (by decide) (by decide) N0 e1 (by rw [hml]; rfl) (argsL := [(.int (n - (1 : Int32)))]) (rest := []) (lenOf pd_5 rfl) (Nat.le_of_eq rfl) (by decide) (by decide) (rm12 l Z a0 hw [] a1 (n - (1 : Int32)) r hd n k vs h0 n0 O0 f0 f1 f2 f3 f4 hhd hrn.ix.1 (own_lt1 hrn) hrn) rfl (hb hby d11_7) ?_
  intro v2 T2 lc2 X2 N2 hQ2
  rcases hQ2 with hQ2_0 | hQ2_1
  ·
    obtain ⟨rfl, e2⟩ := hQ2_0
    show Goes _ _ _ _ _ _ (T2.setTop (mkF m 10 #[.val (.ref a1), .unset] [.null]))
    refine own_astoreN X2 hx (Ls' := #[.val (.ref a1), .val .null]) (hb hby d11_10) rfl rfl ?_
    refine own_aloadN X2 hx (hb hby d11_11) rfl rfl ?_
    refine own_getF X2 hx hZ hown (host := "") (Or.inl (hw _ (List.mem_of_getElem? (i := 12) rfl))) Via.refl e2 f1 (hb hby d11_12) (fun T3 X3 e3 => ?_)
    show Goes _ _ _ _ _ _ (T3.setTop (mkF m 15 #[.val (.ref a1), .val .null] [(.ref r)]))
    refine own_aloadN X3 hx (hb hby d11_15) rfl rfl ?_
    refine own_aloadN X3 hx (hb hby d11_16) rfl rfl ?_
    refine own_getF X3 hx hZ hown (host := "") (Or.inl (hw _ (List.mem_of_getElem? (i := 19) rfl))) Via.refl e3 f3 (hb hby d11_17) (fun T4 X4 e4 => ?_)
    show Goes _ _ _ _ _ _ (T4.setTop (mkF m 20 #[.val (.ref a1), .val .null] [(.int n), (.ref a1), (.ref r)]))
    refine own_iconst X4 hx (v := (1 : Int32)) (hb hby d11_20) rfl ?_
    refine own_isub X4 hx (hb hby d11_21) ?_
    refine own_private X4 hx hZ hown (y := (⟨"com/example/kache/kache/store/ListValue", "slot", "(I)I"⟩ : MethodName)) (hw _ (List.mem_of_getElem? (i := 54) rfl)) (hw _ (List.mem_of_getElem? (i := 55) rfl)) (hw _ (List.mem_of_getElem? (i := 2) rfl)) (hw _ (List.mem_of_getElem? (i := 56) rfl)) (hw _ (List.mem_of_getElem? (i := 3) rfl)) (hw _ (List.mem_of_getElem? (i := 57) rfl)) (a := a1) f0 (by decide) (W := 1) (by decide) (by decide) N2 e4 (by rw [hml]; rfl) (argsL := [(.int (n - (1 : Int32)))]) (rest := [(.ref r)]) (lenOf pd_2 rfl) (Nat.le_of_eq rfl) (by decide) (by decide) (rm9 l Z a0 hw [] a1 (n - (1 : Int32)) r hd n k vs h0 n0 O0 f0 f1 f2 f3 f4 hhd hrn) rfl (hb hby d11_22) ?_
    intro v5 T5 lc5 X5 N5 hQ5
    obtain ⟨j_5, rfl, hq5_0, e5⟩ := hQ5
    show Goes _ _ _ _ _ _ (T5.setTop (mkF m 25 #[.val (.ref a1), .val .null] [(.int j_5), (.ref r)]))
    refine own_aconst_null X5 hx (hb hby d11_25) ?_
    refine own_aastore X5 hx hZ N5 e5 f4 rfl rfl hq5_0.ix (i := (j_5).toNatClampNeg) rfl (by first | (rw [hvl]; exact hq5_0.nat) | simpa [hvl] using hq5_0.nat) f7 (fun _ _ _ => Or.inl rfl) (hb hby d11_26) (fun T6 h6 lc6 X6 e6 N6 W6 V6 => ?_)
    have E7_a1 := f0.wr W6
    have F7_ring_a1 := f1.other W6 (Or.inl (Exa.neArv f0 f4 (hw _ (List.mem_of_getElem? (i := 2) rfl))))
    have F7_head_a1 := f2.other W6 (Or.inl (Exa.neArv f0 f4 (hw _ (List.mem_of_getElem? (i := 2) rfl))))
    have F7_size_a1 := f3.other W6 (Or.inl (Exa.neArv f0 f4 (hw _ (List.mem_of_getElem? (i := 2) rfl))))
    have O7 := O0.wr W6 f7
    have KC7 := KC0.wr W6 (Or.inl (List.mem_of_getElem? (i := 1) rfl))
    show Goes _ _ _ _ _ _ (T6.setTop (mkF m 27 #[.val (.ref a1), .val .null] []))
    refine own_aloadN X6 hx (hb hby d11_27) rfl rfl ?_
    refine own_dup X6 hx (hb hby d11_28) rfl ?_
    refine own_getF X6 hx hZ hown (host := "") (Or.inl (hw _ (List.mem_of_getElem? (i := 19) rfl))) Via.refl e6 F7_size_a1 (hb hby d11_29) (fun T8 X8 e8 => ?_)
    show Goes _ _ _ _ _ _ (T8.setTop (mkF m 32 #[.val (.ref a1), .val .null] [(.int n), (.ref a1)]))
    refine own_iconst X8 hx (v := (1 : Int32)) (hb hby d11_32) rfl ?_
    refine own_isub X8 hx (hb hby d11_33) ?_
    refine own_putF X8 hx hZ hown N6 (host := "") (Or.inl (hw _ (List.mem_of_getElem? (i := 19) rfl))) Via.refl e8 F7_size_a1 E7_a1 (Or.inl (hw _ (List.mem_of_getElem? (i := 20) rfl))) (hw _ (List.mem_of_getElem? (i := 2) rfl)) (ty := .int) (by decide) rfl rfl f6 (hb hby d11_34) (fun T9 h9 lc9 X9 e9 N9 W9 => ?_)
    have E10_a1 := E7_a1.wr W9
    have F10_ring_a1 := F7_ring_a1.other W9 (Or.inr (slot_ne (Or.inl (hw _ (List.mem_of_getElem? (i := 13) rfl))) (Or.inl (hw _ (List.mem_of_getElem? (i := 20) rfl))) (by decide) (t := (.array (.array .byte))) (t' := .int) (by decide) (by decide)))
    have F10_head_a1 := F7_head_a1.other W9 (Or.inr (slot_ne (Or.inl (hw _ (List.mem_of_getElem? (i := 47) rfl))) (Or.inl (hw _ (List.mem_of_getElem? (i := 20) rfl))) (by decide) (t := .int) (t' := .int) (by decide) (by decide)))
    have F10_size_a1 := F7_size_a1.same W9
    have A10_r := V6.other W9 (Ne.symm (Exa.neArv E7_a1 V6 (hw _ (List.mem_of_getElem? (i := 2) rfl))))
    have O10 := O7.wr W9 f6
    have KC10 := KC7.wr W9 (Or.inl (List.mem_of_getElem? (i := 0) rfl))
    show Goes _ _ _ _ _ _ (T9.setTop (mkF m 37 #[.val (.ref a1), .val .null] []))
    refine own_aloadN X9 hx (hb hby d11_37) rfl rfl ?_
    refine own_private X9 hx hZ hown (y := (⟨"com/example/kache/kache/store/ListValue", "shrinkIfSparse", "()V"⟩ : MethodName)) (hw _ (List.mem_of_getElem? (i := 78) rfl)) (hw _ (List.mem_of_getElem? (i := 79) rfl)) (hw _ (List.mem_of_getElem? (i := 2) rfl)) (hw _ (List.mem_of_getElem? (i := 80) rfl)) (hw _ (List.mem_of_getElem? (i := 3) rfl)) (hw _ (List.mem_of_getElem? (i := 81) rfl)) (a := a1) E10_a1 (by decide) (W := 0) (by decide) (by decide) N9 e9 (by rw [hml]; rfl) (argsL := []) (rest := []) (lenOf pd_4 rfl) (Nat.le_of_eq rfl) (by decide) (by decide) (rm15 l Z a0 hw [] a1 r hd (n - (1 : Int32)) k (vs.set (j_5).toNatClampNeg .null) h9 n0 O10 E10_a1 F10_ring_a1 F10_head_a1 F10_size_a1 A10_r) rfl (hb hby d11_38) ?_
    intro v11 T11 lc11 X11 N11 hQ11
    obtain ⟨rfl, e11⟩ := hQ11
    show Goes _ _ _ _ _ _ (T11.setTop (mkF m 41 #[.val (.ref a1), .val .null] []))
    refine own_aloadN X11 hx (hb hby d11_41) rfl rfl ?_
    show Goes _ _ _ _ _ _ (T11.setTop (mkF m 42 #[.val (.ref a1), .val .null] [.null]))
    exact own_retR X11 hx N11 hlk (by decide) (by decide) hret rfl rfl rfl (hb hby d11_42) (by rw [e11]; exact Or.inl ⟨hd, (vs.set (j_5).toNatClampNeg .null), rfl, KC10, E10_a1, F10_ring_a1, F10_head_a1, F10_size_a1, A10_r, hhd, (by first | simpa using hvl)⟩)
  ·
    obtain ⟨b_2, rfl, e2⟩ := hQ2_1
    show Goes _ _ _ _ _ _ (T2.setTop (mkF m 10 #[.val (.ref a1), .unset] [(.ref b_2)]))
    refine own_astoreN X2 hx (Ls' := #[.val (.ref a1), .val (.ref b_2)]) (hb hby d11_10) rfl rfl ?_
    refine own_aloadN X2 hx (hb hby d11_11) rfl rfl ?_
    refine own_getF X2 hx hZ hown (host := "") (Or.inl (hw _ (List.mem_of_getElem? (i := 12) rfl))) Via.refl e2 f1 (hb hby d11_12) (fun T12 X12 e12 => ?_)
    show Goes _ _ _ _ _ _ (T12.setTop (mkF m 15 #[.val (.ref a1), .val (.ref b_2)] [(.ref r)]))
    refine own_aloadN X12 hx (hb hby d11_15) rfl rfl ?_
    refine own_aloadN X12 hx (hb hby d11_16) rfl rfl ?_
    refine own_getF X12 hx hZ hown (host := "") (Or.inl (hw _ (List.mem_of_getElem? (i := 19) rfl))) Via.refl e12 f3 (hb hby d11_17) (fun T13 X13 e13 => ?_)
    show Goes _ _ _ _ _ _ (T13.setTop (mkF m 20 #[.val (.ref a1), .val (.ref b_2)] [(.int n), (.ref a1), (.ref r)]))
    refine own_iconst X13 hx (v := (1 : Int32)) (hb hby d11_20) rfl ?_
    refine own_isub X13 hx (hb hby d11_21) ?_
    refine own_private X13 hx hZ hown (y := (⟨"com/example/kache/kache/store/ListValue", "slot", "(I)I"⟩ : MethodName)) (hw _ (List.mem_of_getElem? (i := 54) rfl)) (hw _ (List.mem_of_getElem? (i := 55) rfl)) (hw _ (List.mem_of_getElem? (i := 2) rfl)) (hw _ (List.mem_of_getElem? (i := 56) rfl)) (hw _ (List.mem_of_getElem? (i := 3) rfl)) (hw _ (List.mem_of_getElem? (i := 57) rfl)) (a := a1) f0 (by decide) (W := 1) (by decide) (by decide) N2 e13 (by rw [hml]; rfl) (argsL := [(.int (n - (1 : Int32)))]) (rest := [(.ref r)]) (lenOf pd_2 rfl) (Nat.le_of_eq rfl) (by decide) (by decide) (rm9 l Z a0 hw [] a1 (n - (1 : Int32)) r hd n k vs h0 n0 O0 f0 f1 f2 f3 f4 hhd hrn) rfl (hb hby d11_22) ?_
    intro v14 T14 lc14 X14 N14 hQ14
    obtain ⟨j_14, rfl, hq14_0, e14⟩ := hQ14
    show Goes _ _ _ _ _ _ (T14.setTop (mkF m 25 #[.val (.ref a1), .val (.ref b_2)] [(.int j_14), (.ref r)]))
    refine own_aconst_null X14 hx (hb hby d11_25) ?_
    refine own_aastore X14 hx hZ N14 e14 f4 rfl rfl hq14_0.ix (i := (j_14).toNatClampNeg) rfl (by first | (rw [hvl]; exact hq14_0.nat) | simpa [hvl] using hq14_0.nat) f7 (fun _ _ _ => Or.inl rfl) (hb hby d11_26) (fun T15 h15 lc15 X15 e15 N15 W15 V15 => ?_)
    have E16_a1 := f0.wr W15
    have F16_ring_a1 := f1.other W15 (Or.inl (Exa.neArv f0 f4 (hw _ (List.mem_of_getElem? (i := 2) rfl))))
    have F16_head_a1 := f2.other W15 (Or.inl (Exa.neArv f0 f4 (hw _ (List.mem_of_getElem? (i := 2) rfl))))
    have F16_size_a1 := f3.other W15 (Or.inl (Exa.neArv f0 f4 (hw _ (List.mem_of_getElem? (i := 2) rfl))))
    have O16 := O0.wr W15 f7
    have KC16 := KC0.wr W15 (Or.inl (List.mem_of_getElem? (i := 1) rfl))
    show Goes _ _ _ _ _ _ (T15.setTop (mkF m 27 #[.val (.ref a1), .val (.ref b_2)] []))
    refine own_aloadN X15 hx (hb hby d11_27) rfl rfl ?_
    refine own_dup X15 hx (hb hby d11_28) rfl ?_
    refine own_getF X15 hx hZ hown (host := "") (Or.inl (hw _ (List.mem_of_getElem? (i := 19) rfl))) Via.refl e15 F16_size_a1 (hb hby d11_29) (fun T17 X17 e17 => ?_)
    show Goes _ _ _ _ _ _ (T17.setTop (mkF m 32 #[.val (.ref a1), .val (.ref b_2)] [(.int n), (.ref a1)]))
    refine own_iconst X17 hx (v := (1 : Int32)) (hb hby d11_32) rfl ?_
    refine own_isub X17 hx (hb hby d11_33) ?_
    refine own_putF X17 hx hZ hown N15 (host := "") (Or.inl (hw _ (List.mem_of_getElem? (i := 19) rfl))) Via.refl e17 F16_size_a1 E16_a1 (Or.inl (hw _ (List.mem_of_getElem? (i := 20) rfl))) (hw _ (List.mem_of_getElem? (i := 2) rfl)) (ty := .int) (by decide) rfl rfl f6 (hb hby d11_34) (fun T18 h18 lc18 X18 e18 N18 W18 => ?_)
    have E19_a1 := E16_a1.wr W18
    have F19_ring_a1 := F16_ring_a1.other W18 (Or.inr (slot_ne (Or.inl (hw _ (List.mem_of_getElem? (i := 13) rfl))) (Or.inl (hw _ (List.mem_of_getElem? (i := 20) rfl))) (by decide) (t := (.array (.array .byte))) (t' := .int) (by decide) (by decide)))
    have F19_head_a1 := F16_head_a1.other W18 (Or.inr (slot_ne (Or.inl (hw _ (List.mem_of_getElem? (i := 47) rfl))) (Or.inl (hw _ (List.mem_of_getElem? (i := 20) rfl))) (by decide) (t := .int) (t' := .int) (by decide) (by decide)))
    have F19_size_a1 := F16_size_a1.same W18
    have A19_r := V15.other W18 (Ne.symm (Exa.neArv E16_a1 V15 (hw _ (List.mem_of_getElem? (i := 2) rfl))))
    have O19 := O16.wr W18 f6
    have KC19 := KC16.wr W18 (Or.inl (List.mem_of_getElem? (i := 0) rfl))
    show Goes _ _ _ _ _ _ (T18.setTop (mkF m 37 #[.val (.ref a1), .val (.ref b_2)] []))
    refine own_aloadN X18 hx (hb hby d11_37) rfl rfl ?_
    refine own_private X18 hx hZ hown (y := (⟨"com/example/kache/kache/store/ListValue", "shrinkIfSparse", "()V"⟩ : MethodName)) (hw _ (List.mem_of_getElem? (i := 78) rfl)) (hw _ (List.mem_of_getElem? (i := 79) rfl)) (hw _ (List.mem_of_getElem? (i := 2) rfl)) (hw _ (List.mem_of_getElem? (i := 80) rfl)) (hw _ (List.mem_of_getElem? (i := 3) rfl)) (hw _ (List.mem_of_getElem? (i := 81) rfl)) (a := a1) E19_a1 (by decide) (W := 0) (by decide) (by decide) N18 e18 (by rw [hml]; rfl) (argsL := []) (rest := []) (lenOf pd_4 rfl) (Nat.le_of_eq rfl) (by decide) (by decide) (rm15 l Z a0 hw [] a1 r hd (n - (1 : Int32)) k (vs.set (j_14).toNatClampNeg .null) h18 n0 O19 E19_a1 F19_ring_a1 F19_head_a1 F19_size_a1 A19_r) rfl (hb hby d11_38) ?_
    intro v20 T20 lc20 X20 N20 hQ20
    obtain ⟨rfl, e20⟩ := hQ20
    show Goes _ _ _ _ _ _ (T20.setTop (mkF m 41 #[.val (.ref a1), .val (.ref b_2)] []))
    refine own_aloadN X20 hx (hb hby d11_41) rfl rfl ?_
    show Goes _ _ _ _ _ _ (T20.setTop (mkF m 42 #[.val (.ref a1), .val (.ref b_2)] [(.ref b_2)]))
    exact own_retR X20 hx N20 hlk (by decide) (by decide) hret rfl rfl rfl (hb hby d11_42) (by rw [e20]; exact Or.inr (⟨b_2, hd, (vs.set (j_14).toNatClampNeg .null), rfl, KC19, E19_a1, F19_ring_a1, F19_head_a1, F19_size_a1, A19_r, hhd, (by first | simpa using hvl)⟩))
theorem d4_0 : decode method_2_code 0 = .ok (.iconst 1, 1) := by decide +kernel
theorem d4_1 : decode method_2_code 1 = .ok (.newarray .byte, 2) := by decide +kernel
theorem d4_3 : decode method_2_code 3 = .ok (.astore_n 3, 1) := by decide +kernel
theorem d4_4 : decode method_2_code 4 = .ok (.aload_n 3, 1) := by decide +kernel
theorem d4_5 : decode method_2_code 5 = .ok (.iconst 0, 1) := by decide +kernel
theorem d4_6 : decode method_2_code 6 = .ok (.iload_n 2, 1) := by decide +kernel
theorem d4_7 : decode method_2_code 7 = .ok (.i2b, 1) := by decide +kernel
theorem d4_8 : decode method_2_code 8 = .ok (.bastore, 1) := by decide +kernel
theorem d4_9 : decode method_2_code 9 = .ok (.iload_n 1, 1) := by decide +kernel
theorem d4_10 : decode method_2_code 10 = .ok (.ifCond .eq 11, 3) := by decide +kernel
theorem d4_21 : decode method_2_code 21 = .ok (.aload_n 0, 1) := by decide +kernel
theorem d4_22 : decode method_2_code 22 = .ok (.aload_n 3, 1) := by decide +kernel
theorem d4_23 : decode method_2_code 23 = .ok (.invokevirtual 13, 3) := by decide +kernel
theorem pd_6 : parseMethodDescriptor "([B)V" = some ⟨[(.array .byte)], none⟩ := by decide +kernel
theorem d4_26 : decode method_2_code 26 = .ok (.return_, 1) := by decide +kernel
theorem d4_13 : decode method_2_code 13 = .ok (.aload_n 0, 1) := by decide +kernel
theorem d4_14 : decode method_2_code 14 = .ok (.aload_n 3, 1) := by decide +kernel
theorem d4_15 : decode method_2_code 15 = .ok (.invokevirtual 7, 3) := by decide +kernel
theorem d4_18 : decode method_2_code 18 = .ok (.goto 8, 3) := by decide +kernel
theorem pn_3 : plainName "com/example/kache/kache/store/ListValueIsEmptyPinLaw" = true := by first | (simp [plainName, overriddenIn]; done) | decide +kernel
def Q4 (Z : State) (a1 : Addr) (p2 : Int32) (p3 : Int32) (r : Addr) (hd : Int32) (n : Int32) (k : ClassId) (vs : List Value) (h0 : Heap) (n0 : Nat) (v : Option Value) (h : Heap) : Prop :=
  (∃ (hd2 : Int32) (vs2 : List Value), v = none ∧ Keep h0 h [a1, r] ∧ Exa Z h a1 "com/example/kache/kache/store/ListValue" ∧ Fld Z h a1 "com/example/kache/kache/store/ListValue" "ring" "[[B" (.ref r) ∧ Fld Z h a1 "com/example/kache/kache/store/ListValue" "head" "I" (.int hd2) ∧ Fld Z h a1 "com/example/kache/kache/store/ListValue" "size" "I" (.int (n + (1 : Int32))) ∧ Arv Z h r k (.array .byte) (8 : Int32) vs2 .null ∧ Rg hd2 ∧ vs2.length = 8)
theorem ef_4 (m : MethodId) (a1 : Addr) (p2 : Int32) (p3 : Int32) : entryFrame m #[(.ref a1), (.int p2), (.int p3)] 4 = mkF m 0 #[.val (.ref a1), .val (.int p2), .val (.int p3), .unset] [] := by first | (simp [entryFrame, mkF, argsToLocals, Value.category]; done) | rfl
set_option maxRecDepth 65536 in
set_option maxHeartbeats 40000000 in
theorem rm4 (l : Launch) (Z : State) (a0 : Array Value) (hw : ∀ d ∈ tables_1, d.before a0 Z = true) (ws : List Jvm.Cond) (a1 : Addr) (p2 : Int32) (p3 : Int32) (r : Addr) (hd : Int32) (n : Int32) (k : ClassId) (vs : List Value) (h0 : Heap) (n0 : Nat) (O0 : Old Z n0 h0) (f0 : Exa Z h0 a1 "com/example/kache/kache/store/ListValue") (f1 : Fld Z h0 a1 "com/example/kache/kache/store/ListValue" "ring" "[[B" (.ref r)) (f2 : Fld Z h0 a1 "com/example/kache/kache/store/ListValue" "head" "I" (.int hd)) (f3 : Fld Z h0 a1 "com/example/kache/kache/store/ListValue" "size" "I" (.int n)) (f4 : Arv Z h0 r k (.array .byte) (8 : Int32) vs .null) (hhd : Rg hd) (f6 : n0 ≤ a1) (f7 : n0 ≤ r) (hvl : vs.length = 8) (hov : OvrA Z k .byte "[B") (hrn : Rg n) :
    MeetsW l (⟨"com/example/kache/kache/store/ListValueIsEmptyPinLaw", "addOne", "(Lcom/example/kache/kache/store/ListValue;ZI)V"⟩ : MethodName) method_2_code 4 none ws ({ frames := 2, cells := 3, slots := 33, locals := 28 } : Room) ({ frames := 2, cells := 3, slots := 33, locals := 28 } : Room).cells ({ frames := 2, cells := 3, slots := 33, locals := 28 } : Room).slots Z #[(.ref a1), (.int p2), (.int p3)] h0 n0 (Q4 Z a1 p2 p3 r hd n k vs h0 n0) := by
  refine MeetsW.of (F := fun m => mkF m 0 #[.val (.ref a1), .val (.int p2), .val (.int p3), .unset] []) (plainFor_of_name pn_3) (fun m => ef_4 m a1 p2 p3) ?_
  intro p e s m below meth c T0 hx hby hml hown0 hnm hret hlk hZ hS0 X0 e0
  have hown : s.vm.findClass "com/example/kache/kache/store/ListValueIsEmptyPinLaw" = some m.cls := hown0
  have N0 := Fr.nil n0
  have KC0 := Keep.refl h0 [a1, r]
  show Goes _ _ _ _ _ _ (T0.setTop (mkF m 0 #[.val (.ref a1), .val (.int p2), .val (.int p3), .unset] []))
  refine own_iconst X0 hx (v := (1 : Int32)) (hb hby d4_0) rfl ?_
  refine own_newPE X0 hx hZ (hw _ (List.mem_of_getElem? (i := 25) rfl)) e0 (ad := "[B") (by decide +kernel) (hb hby d4_1) (by decide) (cap := 1) (by decide) (by decide) (by decide) (by decide) (fun T1 h1 b1 k1 g1 X1 e1 E1 A1 B1 => ?_)
  have ne_r_b1 : r ≠ b1 := Nat.ne_of_lt (Nat.lt_of_lt_of_le f4.lt (Nat.le_of_eq g1.symm))
  have ne_a1_b1 : a1 ≠ b1 := Nat.ne_of_lt (Nat.lt_of_lt_of_le f0.lt (Nat.le_of_eq g1.symm))
  have ge_b1 : n0 ≤ b1 := Nat.le_trans (own_sz O0) (Nat.le_of_eq g1.symm)
  have sz_b1 : h0.size ≤ b1 := Nat.le_trans KC0.1 (Nat.le_of_eq g1.symm)
  have E2_a1 := f0.ext E1
  have F2_ring_a1 := f1.ext E1
  have F2_head_a1 := f2.ext E1
  have F2_size_a1 := f3.ext E1
  have A2_r := f4.ext E1
  have O2 := O0.ext E1
  have KC2 := KC0.ext E1
  have V1 : Arv Z h1 b1 k1 .byte (1 : Int32) [(.int (0 : Int32))] (.int (0 : Int32)) := A1.pad (pad_rep [] (.int (0 : Int32)) 1)
  show Goes _ _ _ _ _ _ (T1.setTop (mkF m 3 #[.val (.ref a1), .val (.int p2), .val (.int p3), .unset] [(.ref b1)]))
  refine own_astoreN X1 hx (Ls' := #[.val (.ref a1), .val (.int p2), .val (.int p3), .val (.ref b1)]) (hb hby d4_3) rfl rfl ?_
  refine own_aloadN X1 hx (hb hby d4_4) rfl rfl ?_
  refine own_iconst X1 hx (v := (0 : Int32)) (hb hby d4_5) rfl ?_
  refine own_iloadN X1 hx (hb hby d4_6) rfl ?_
  show Goes _ _ _ _ _ _ (T1.setTop (mkF m 7 #[.val (.ref a1), .val (.int p2), .val (.int p3), .val (.ref b1)] [(.int p3), (.int (0 : Int32)), (.ref b1)]))
  refine own_i2b X1 hx (hb hby d4_7) ?_
  refine own_bastore X1 hx hZ N0 e1 V1 ⟨by decide, by decide⟩ (i := 0) rfl (by first | decide | (simp; done)) ge_b1 (hb hby d4_8) (fun T3 h3 lc3 X3 e3 N3 W3 V3 => ?_)
  have E4_a1 := E2_a1.wr W3
  have E4_b1 := B1.wr W3
  have F4_ring_a1 := F2_ring_a1.other W3 (Or.inl ne_a1_b1)
  have F4_head_a1 := F2_head_a1.other W3 (Or.inl ne_a1_b1)
  have F4_size_a1 := F2_size_a1.other W3 (Or.inl ne_a1_b1)
  have A4_r := A2_r.other W3 ne_r_b1
  have O4 := O2.wr W3 ge_b1
  have KC4 := KC2.wr W3 (Or.inr sz_b1)
  have V3' : Arv Z h3 b1 k1 .byte (1 : Int32) [(.int ((p3.toInt8.toInt32).toInt8.toInt32))] (.int (0 : Int32)) := V3
  show Goes _ _ _ _ _ _ (T3.setTop (mkF m 9 #[.val (.ref a1), .val (.int p2), .val (.int p3), .val (.ref b1)] []))
  refine own_iloadN X3 hx (hb hby d4_9) rfl ?_
  by_cases hc10_5 : p2 = (0 : Int32)
  ·
    refine own_ifYes X3 hx (pc' := 21) (hb hby d4_10) ((if0 _ _).trans (teq (hc10_5 : p2 = (0 : Int32))).1) (by decide) (by decide) ?_
    show Goes _ _ _ _ _ _ (T3.setTop (mkF m 21 #[.val (.ref a1), .val (.int p2), .val (.int p3), .val (.ref b1)] []))
    refine own_aloadN X3 hx (hb hby d4_21) rfl rfl ?_
    refine own_aloadN X3 hx (hb hby d4_22) rfl rfl ?_
    refine own_virtualW X3 hx hZ hown hS0 (Nat.zero_le _) (y := (⟨"com/example/kache/kache/store/ListValue", "addLast", "([B)V"⟩ : MethodName)) (z := (⟨"com/example/kache/kache/store/ListValue", "addLast", "([B)V"⟩ : MethodName)) (hw _ (List.mem_of_getElem? (i := 49) rfl)) (hw _ (List.mem_of_getElem? (i := 50) rfl)) (notFace_of_selects (args := #[]) (mvT hZ (hw _ (List.mem_of_getElem? (i := 52) rfl)))) (hw _ (List.mem_of_getElem? (i := 52) rfl)) (hw _ (List.mem_of_getElem? (i := 51) rfl)) (hw _ (List.mem_of_getElem? (i := 3) rfl)) (hw _ (List.mem_of_getElem? (i := 53) rfl)) (a := a1) E4_a1 (by decide) (W := 0) (by decide) (by decide) N3 e3 (by rw [hml]; rfl) (argsL := [(.ref b1)]) (rest := []) (lenOf pd_6 rfl) (Nat.le_of_eq rfl) (by decide) (by decide) (rm8 l Z a0 hw [] a1 b1 r hd n k vs h3 n0 O4 E4_a1 F4_ring_a1 F4_head_a1 F4_size_a1 A4_r hhd f6 f7 hvl hov E4_b1 hrn) rfl (hb hby d4_23) ?_
    intro v6 T6 lc6 k1_6 X6 hS6 hk6_ hZ hown N6 hQ6
    obtain ⟨hd2_6, vs2_6, rfl, K6, r6_0, r6_1, r6_2, r6_3, r6_4, r6_5, r6_6⟩ := hQ6
    have O7 := O4.keep K6 (allS f6 (allS f7 all0))
    have KC7 := KC4.trans K6 (allS (Or.inl (List.mem_of_getElem? (i := 0) rfl)) (allS (Or.inl (List.mem_of_getElem? (i := 1) rfl)) all0))
    show Goes _ _ _ _ _ _ (T6.setTop (mkF m 26 #[.val (.ref a1), .val (.int p2), .val (.int p3), .val (.ref b1)] []))
    exact own_retVW X6 hx hS6 hk6_ N6 hlk (by decide) (by decide) hret (hb hby d4_26) (⟨hd2_6, vs2_6, rfl, KC7, r6_0, r6_1, r6_2, r6_3, r6_4, r6_5, (by first | simpa using r6_6 | simpa using hvl)⟩)
  ·
    refine own_ifNo X3 hx (hb hby d4_10) ((if0 _ _).trans (feq (hc10_5 : ¬ (p2 = (0 : Int32)))).1) ?_
    show Goes _ _ _ _ _ _ (T3.setTop (mkF m 13 #[.val (.ref a1), .val (.int p2), .val (.int p3), .val (.ref b1)] []))
    refine own_aloadN X3 hx (hb hby d4_13) rfl rfl ?_
    refine own_aloadN X3 hx (hb hby d4_14) rfl rfl ?_
    refine own_virtualW X3 hx hZ hown hS0 (Nat.zero_le _) (y := (⟨"com/example/kache/kache/store/ListValue", "addFirst", "([B)V"⟩ : MethodName)) (z := (⟨"com/example/kache/kache/store/ListValue", "addFirst", "([B)V"⟩ : MethodName)) (hw _ (List.mem_of_getElem? (i := 26) rfl)) (hw _ (List.mem_of_getElem? (i := 27) rfl)) (notFace_of_selects (args := #[]) (mvT hZ (hw _ (List.mem_of_getElem? (i := 29) rfl)))) (hw _ (List.mem_of_getElem? (i := 29) rfl)) (hw _ (List.mem_of_getElem? (i := 28) rfl)) (hw _ (List.mem_of_getElem? (i := 3) rfl)) (hw _ (List.mem_of_getElem? (i := 30) rfl)) (a := a1) E4_a1 (by decide) (W := 0) (by decide) (by decide) N3 e3 (by rw [hml]; rfl) (argsL := [(.ref b1)]) (rest := []) (lenOf pd_6 rfl) (Nat.le_of_eq rfl) (by decide) (by decide) (rm5 l Z a0 hw [] a1 b1 r hd n k vs h3 n0 O4 E4_a1 F4_ring_a1 F4_head_a1 F4_size_a1 A4_r hhd f6 f7 hvl hov E4_b1 hrn) rfl (hb hby d4_15) ?_
    intro v8 T8 lc8 k1_8 X8 hS8 hk8_ hZ hown N8 hQ8
    obtain ⟨hd2_8, vs2_8, rfl, K8, r8_0, r8_1, r8_2, r8_3, r8_4, r8_5, r8_6⟩ := hQ8
    have O9 := O4.keep K8 (allS f6 (allS f7 all0))
    have KC9 := KC4.trans K8 (allS (Or.inl (List.mem_of_getElem? (i := 0) rfl)) (allS (Or.inl (List.mem_of_getElem? (i := 1) rfl)) all0))
    show Goes _ _ _ _ _ _ (T8.setTop (mkF m 18 #[.val (.ref a1), .val (.int p2), .val (.int p3), .val (.ref b1)] []))
    refine own_goto X8 hx (pc' := 26) (hb hby d4_18) (by decide) (by decide) ?_
    show Goes _ _ _ _ _ _ (T8.setTop (mkF m 26 #[.val (.ref a1), .val (.int p2), .val (.int p3), .val (.ref b1)] []))
    exact own_retVW X8 hx hS8 hk8_ N8 hlk (by decide) (by decide) hret (hb hby d4_26) (⟨hd2_8, vs2_8, rfl, KC9, r8_0, r8_1, r8_2, r8_3, r8_4, r8_5, (by first | simpa using r8_6 | simpa using hvl)⟩)
theorem d10_0 : decode method_3_code 0 = .ok (.iload_n 1, 1) := by decide +kernel
theorem d10_1 : decode method_3_code 1 = .ok (.ifCond .eq 11, 3) := by decide +kernel
theorem d10_12 : decode method_3_code 12 = .ok (.aload_n 0, 1) := by decide +kernel
theorem d10_13 : decode method_3_code 13 = .ok (.invokevirtual 20, 3) := by decide +kernel
theorem pd_7 : parseMethodDescriptor "()[B" = some ⟨[], some (.array .byte)⟩ := by decide +kernel
theorem d10_16 : decode method_3_code 16 = .ok (.pop, 1) := by decide +kernel
theorem d10_17 : decode method_3_code 17 = .ok (.return_, 1) := by decide +kernel
theorem d10_4 : decode method_3_code 4 = .ok (.aload_n 0, 1) := by decide +kernel
theorem d10_5 : decode method_3_code 5 = .ok (.invokevirtual 16, 3) := by decide +kernel
theorem d10_8 : decode method_3_code 8 = .ok (.pop, 1) := by decide +kernel
theorem d10_9 : decode method_3_code 9 = .ok (.goto 8, 3) := by decide +kernel
def Q10 (Z : State) (a1 : Addr) (p2 : Int32) (r : Addr) (hd : Int32) (n : Int32) (k : ClassId) (vs : List Value) (h0 : Heap) (n0 : Nat) (v : Option Value) (h : Heap) : Prop :=
  (∃ (hd2 : Int32) (vs2 : List Value), v = none ∧ Keep h0 h [a1, r] ∧ Exa Z h a1 "com/example/kache/kache/store/ListValue" ∧ Fld Z h a1 "com/example/kache/kache/store/ListValue" "ring" "[[B" (.ref r) ∧ Fld Z h a1 "com/example/kache/kache/store/ListValue" "head" "I" (.int hd2) ∧ Fld Z h a1 "com/example/kache/kache/store/ListValue" "size" "I" (.int (n - (1 : Int32))) ∧ Arv Z h r k (.array .byte) (8 : Int32) vs2 .null ∧ Rg hd2 ∧ vs2.length = 8)
theorem ef_10 (m : MethodId) (a1 : Addr) (p2 : Int32) : entryFrame m #[(.ref a1), (.int p2)] 2 = mkF m 0 #[.val (.ref a1), .val (.int p2)] [] := by first | (simp [entryFrame, mkF, argsToLocals, Value.category]; done) | rfl
set_option maxRecDepth 65536 in
set_option maxHeartbeats 40000000 in
theorem rm10 (l : Launch) (Z : State) (a0 : Array Value) (hw : ∀ d ∈ tables_1, d.before a0 Z = true) (ws : List Jvm.Cond) (a1 : Addr) (p2 : Int32) (r : Addr) (hd : Int32) (n : Int32) (k : ClassId) (vs : List Value) (h0 : Heap) (n0 : Nat) (O0 : Old Z n0 h0) (f0 : Exa Z h0 a1 "com/example/kache/kache/store/ListValue") (f1 : Fld Z h0 a1 "com/example/kache/kache/store/ListValue" "ring" "[[B" (.ref r)) (f2 : Fld Z h0 a1 "com/example/kache/kache/store/ListValue" "head" "I" (.int hd)) (f3 : Fld Z h0 a1 "com/example/kache/kache/store/ListValue" "size" "I" (.int n)) (f4 : Arv Z h0 r k (.array .byte) (8 : Int32) vs .null) (hhd : Rg hd) (f6 : n0 ≤ a1) (f7 : n0 ≤ r) (hvl : vs.length = 8) (hov : OvrA Z k .byte "[B") (hrn : Rg (n - (1 : Int32))) :
    Meets l (⟨"com/example/kache/kache/store/ListValueIsEmptyPinLaw", "removeOne", "(Lcom/example/kache/kache/store/ListValue;Z)V"⟩ : MethodName) method_3_code 2 none ws ({ frames := 4, cells := 0, slots := 0, locals := 53 } : Room) ({ frames := 4, cells := 0, slots := 0, locals := 53 } : Room).cells ({ frames := 4, cells := 0, slots := 0, locals := 53 } : Room).slots Z #[(.ref a1), (.int p2)] h0 n0 (Q10 Z a1 p2 r hd n k vs h0 n0) := by
  refine Meets.of (F := fun m => mkF m 0 #[.val (.ref a1), .val (.int p2)] []) (plainFor_of_name pn_3) (fun m => ef_10 m a1 p2) ?_
  intro p e s m below meth c T0 hx hby hml hown0 hnm hret hlk hZ X0 e0
  have hown : s.vm.findClass "com/example/kache/kache/store/ListValueIsEmptyPinLaw" = some m.cls := hown0
  have N0 := Fr.nil n0
  have KC0 := Keep.refl h0 [a1, r]
  show Goes _ _ _ _ _ _ (T0.setTop (mkF m 0 #[.val (.ref a1), .val (.int p2)] []))
  refine own_iloadN X0 hx (hb hby d10_0) rfl ?_
  by_cases hc1_1 : p2 = (0 : Int32)
  ·
    refine own_ifYes X0 hx (pc' := 12) (hb hby d10_1) ((if0 _ _).trans (teq (hc1_1 : p2 = (0 : Int32))).1) (by decide) (by decide) ?_
    show Goes _ _ _ _ _ _ (T0.setTop (mkF m 12 #[.val (.ref a1), .val (.int p2)] []))
    refine own_aloadN X0 hx (hb hby d10_12) rfl rfl ?_
    refine own_virtual X0 hx hZ hown (y := (⟨"com/example/kache/kache/store/ListValue", "removeLast", "()[B"⟩ : MethodName)) (z := (⟨"com/example/kache/kache/store/ListValue", "removeLast", "()[B"⟩ : MethodName)) (hw _ (List.mem_of_getElem? (i := 61) rfl)) (hw _ (List.mem_of_getElem? (i := 62) rfl)) (notFace_of_selects (args := #[]) (mvT hZ (hw _ (List.mem_of_getElem? (i := 64) rfl)))) (hw _ (List.mem_of_getElem? (i := 64) rfl)) (hw _ (List.mem_of_getElem? (i := 63) rfl)) (hw _ (List.mem_of_getElem? (i := 3) rfl)) (hw _ (List.mem_of_getElem? (i := 65) rfl)) (a := a1) f0 (by decide) (W := 0) (by decide) (by decide) N0 e0 (by rw [hml]; rfl) (argsL := []) (rest := []) (lenOf pd_7 rfl) (Nat.le_of_eq rfl) (by decide) (by decide) (rm11 l Z a0 hw [] a1 r hd n k vs h0 n0 O0 f0 f1 f2 f3 f4 hhd f6 f7 hvl hov hrn) rfl (hb hby d10_13) ?_
    intro v2 T2 lc2 X2 N2 hQ2
    rcases hQ2 with hQ2_0 | hQ2_1
    ·
      obtain ⟨hd2_2, vs2_2, rfl, K2, r2_0, r2_1, r2_2, r2_3, r2_4, r2_5, r2_6⟩ := hQ2_0
      have O3 := O0.keep K2 (allS f6 (allS f7 all0))
      have KC3 := KC0.trans K2 (allS (Or.inl (List.mem_of_getElem? (i := 0) rfl)) (allS (Or.inl (List.mem_of_getElem? (i := 1) rfl)) all0))
      show Goes _ _ _ _ _ _ (T2.setTop (mkF m 16 #[.val (.ref a1), .val (.int p2)] [.null]))
      refine own_pop X2 hx (hb hby d10_16) rfl ?_
      show Goes _ _ _ _ _ _ (T2.setTop (mkF m 17 #[.val (.ref a1), .val (.int p2)] []))
      exact own_retV X2 hx N2 hlk (by decide) (by decide) hret (hb hby d10_17) (⟨hd2_2, vs2_2, rfl, KC3, r2_0, r2_1, r2_2, r2_3, r2_4, r2_5, (by first | simpa using r2_6 | simpa using hvl)⟩)
    ·
      obtain ⟨b_2, hd2_2, vs2_2, rfl, K2, r2_0, r2_1, r2_2, r2_3, r2_4, r2_5, r2_6⟩ := hQ2_1
      have O4 := O0.keep K2 (allS f6 (allS f7 all0))
      have KC4 := KC0.trans K2 (allS (Or.inl (List.mem_of_getElem? (i := 0) rfl)) (allS (Or.inl (List.mem_of_getElem? (i := 1) rfl)) all0))
      show Goes _ _ _ _ _ _ (T2.setTop (mkF m 16 #[.val (.ref a1), .val (.int p2)] [(.ref b_2)]))
      refine own_pop X2 hx (hb hby d10_16) rfl ?_
      show Goes _ _ _ _ _ _ (T2.setTop (mkF m 17 #[.val (.ref a1), .val (.int p2)] []))
      exact own_retV X2 hx N2 hlk (by decide) (by decide) hret (hb hby d10_17) (⟨hd2_2, vs2_2, rfl, KC4, r2_0, r2_1, r2_2, r2_3, r2_4, r2_5, (by first | simpa using r2_6 | simpa using hvl)⟩)
  ·
    refine own_ifNo X0 hx (hb hby d10_1) ((if0 _ _).trans (feq (hc1_1 : ¬ (p2 = (0 : Int32)))).1) ?_
    show Goes _ _ _ _ _ _ (T0.setTop (mkF m 4 #[.val (.ref a1), .val (.int p2)] []))
    refine own_aloadN X0 hx (hb hby d10_4) rfl rfl ?_
    refine own_virtual X0 hx hZ hown (y := (⟨"com/example/kache/kache/store/ListValue", "removeFirst", "()[B"⟩ : MethodName)) (z := (⟨"com/example/kache/kache/store/ListValue", "removeFirst", "()[B"⟩ : MethodName)) (hw _ (List.mem_of_getElem? (i := 82) rfl)) (hw _ (List.mem_of_getElem? (i := 83) rfl)) (notFace_of_selects (args := #[]) (mvT hZ (hw _ (List.mem_of_getElem? (i := 85) rfl)))) (hw _ (List.mem_of_getElem? (i := 85) rfl)) (hw _ (List.mem_of_getElem? (i := 84) rfl)) (hw _ (List.mem_of_getElem? (i := 3) rfl)) (hw _ (List.mem_of_getElem? (i := 86) rfl)) (a := a1) f0 (by decide) (W := 0) (by decide) (by decide) N0 e0 (by rw [hml]; rfl) (argsL := []) (rest := []) (lenOf pd_7 rfl) (Nat.le_of_eq rfl) (by decide) (by decide) (rm16 l Z a0 hw [] a1 r hd n k vs h0 n0 O0 f0 f1 f2 f3 f4 hhd f6 f7 hvl hov hrn) rfl (hb hby d10_5) ?_
    intro v5 T5 lc5 X5 N5 hQ5
    rcases hQ5 with hQ5_0 | hQ5_1
    ·
      obtain ⟨hd2_5, vs2_5, rfl, K5, r5_0, r5_1, r5_2, r5_3, r5_4, r5_5, r5_6⟩ := hQ5_0
      have O6 := O0.keep K5 (allS f6 (allS f7 all0))
      have KC6 := KC0.trans K5 (allS (Or.inl (List.mem_of_getElem? (i := 0) rfl)) (allS (Or.inl (List.mem_of_getElem? (i := 1) rfl)) all0))
      show Goes _ _ _ _ _ _ (T5.setTop (mkF m 8 #[.val (.ref a1), .val (.int p2)] [.null]))
      refine own_pop X5 hx (hb hby d10_8) rfl ?_
      refine own_goto X5 hx (pc' := 17) (hb hby d10_9) (by decide) (by decide) ?_
      show Goes _ _ _ _ _ _ (T5.setTop (mkF m 17 #[.val (.ref a1), .val (.int p2)] []))
      exact own_retV X5 hx N5 hlk (by decide) (by decide) hret (hb hby d10_17) (⟨hd2_5, vs2_5, rfl, KC6, r5_0, r5_1, r5_2, r5_3, r5_4, r5_5, (by first | simpa using r5_6 | simpa using hvl)⟩)
    ·
      obtain ⟨b_5, hd2_5, vs2_5, rfl, K5, r5_0, r5_1, r5_2, r5_3, r5_4, r5_5, r5_6⟩ := hQ5_1
      have O7 := O0.keep K5 (allS f6 (allS f7 all0))
      have KC7 := KC0.trans K5 (allS (Or.inl (List.mem_of_getElem? (i := 0) rfl)) (allS (Or.inl (List.mem_of_getElem? (i := 1) rfl)) all0))
      show Goes _ _ _ _ _ _ (T5.setTop (mkF m 8 #[.val (.ref a1), .val (.int p2)] [(.ref b_5)]))
      refine own_pop X5 hx (hb hby d10_8) rfl ?_
      refine own_goto X5 hx (pc' := 17) (hb hby d10_9) (by decide) (by decide) ?_
      show Goes _ _ _ _ _ _ (T5.setTop (mkF m 17 #[.val (.ref a1), .val (.int p2)] []))
      exact own_retV X5 hx N5 hlk (by decide) (by decide) hret (hb hby d10_17) (⟨hd2_5, vs2_5, rfl, KC7, r5_0, r5_1, r5_2, r5_3, r5_4, r5_5, (by first | simpa using r5_6 | simpa using hvl)⟩)
theorem own_nz (x : Int32) : ((x &&& (3 : Int32)) + (1 : Int32)) ≠ 0 := fun q => by
  have e := c_mask x 3 2 (by decide) (by decide)
  have c := c_iadd (x &&& (3 : Int32)) 1
  rw [q, own_z0, own_z1] at c
  omega
theorem own_cases (p1 p2 : Int32) : ((p1 &&& (3 : Int32)) = (0 : Int32) ∧ ((p2 &&& (2147483647 : Int32)) % ((p1 &&& (3 : Int32)) + (1 : Int32))) = (0 : Int32)) ∨ ((p1 &&& (3 : Int32)) = (1 : Int32) ∧ ((p2 &&& (2147483647 : Int32)) % ((p1 &&& (3 : Int32)) + (1 : Int32))) = (0 : Int32)) ∨ ((p1 &&& (3 : Int32)) = (1 : Int32) ∧ ((p2 &&& (2147483647 : Int32)) % ((p1 &&& (3 : Int32)) + (1 : Int32))) = (1 : Int32)) ∨ ((p1 &&& (3 : Int32)) = (2 : Int32) ∧ ((p2 &&& (2147483647 : Int32)) % ((p1 &&& (3 : Int32)) + (1 : Int32))) = (0 : Int32)) ∨ ((p1 &&& (3 : Int32)) = (2 : Int32) ∧ ((p2 &&& (2147483647 : Int32)) % ((p1 &&& (3 : Int32)) + (1 : Int32))) = (1 : Int32)) ∨ ((p1 &&& (3 : Int32)) = (2 : Int32) ∧ ((p2 &&& (2147483647 : Int32)) % ((p1 &&& (3 : Int32)) + (1 : Int32))) = (2 : Int32)) ∨ ((p1 &&& (3 : Int32)) = (3 : Int32) ∧ ((p2 &&& (2147483647 : Int32)) % ((p1 &&& (3 : Int32)) + (1 : Int32))) = (0 : Int32)) ∨ ((p1 &&& (3 : Int32)) = (3 : Int32) ∧ ((p2 &&& (2147483647 : Int32)) % ((p1 &&& (3 : Int32)) + (1 : Int32))) = (1 : Int32)) ∨ ((p1 &&& (3 : Int32)) = (3 : Int32) ∧ ((p2 &&& (2147483647 : Int32)) % ((p1 &&& (3 : Int32)) + (1 : Int32))) = (2 : Int32)) ∨ ((p1 &&& (3 : Int32)) = (3 : Int32) ∧ ((p2 &&& (2147483647 : Int32)) % ((p1 &&& (3 : Int32)) + (1 : Int32))) = (3 : Int32)) := by
  have e := c_mask p1 3 2 (by decide) (by decide)
  have e' : (p1 &&& (3 : Int32)).toInt = p1.toInt % 4 := by simpa using e
  have g := c_mask p2 2147483647 31 (by decide) (by decide)
  have c := c_iadd (p1 &&& (3 : Int32)) 1
  have rr := rng32 ((p1 &&& (3 : Int32)) + (1 : Int32))
  have z1 := own_z1
  have q := (c_iremV (p2 &&& (2147483647 : Int32)) ((p1 &&& (3 : Int32)) + (1 : Int32))).1 (by omega) (by omega)
  have eq : ∀ {x : Int32} {k : Int32} {n : Int}, k.toInt = n → x.toInt = n → x = k := fun h1 h2 => Int32.toInt_inj.mp (by rw [h1, h2])
  have i0 : (0 : Int32).toInt = 0 := by decide
  have i1 : (1 : Int32).toInt = 1 := by decide
  have i2 : (2 : Int32).toInt = 2 := by decide
  have i3 : (3 : Int32).toInt = 3 := by decide
  generalize ha : (p1 &&& (3 : Int32)) = a at *
  generalize hr : ((p2 &&& (2147483647 : Int32)) % (a + (1 : Int32))) = r at *
  have h1 : a.toInt = 0 ∨ a.toInt = 1 ∨ a.toInt = 2 ∨ a.toInt = 3 := by omega
  have h2 : r.toInt = 0 ∨ r.toInt = 1 ∨ r.toInt = 2 ∨ r.toInt = 3 := by omega
  rcases h1 with h1 | h1 | h1 | h1 <;> rcases h2 with h2 | h2 | h2 | h2 <;> first
    | (exfalso; omega)
    | (have ea := eq (by first | exact i0 | exact i1 | exact i2 | exact i3) h1; have er := eq (by first | exact i0 | exact i1 | exact i2 | exact i3) h2; subst ea; subst er; simp)
theorem pd_8 : parseMethodDescriptor "()Z" = some ⟨[], some .boolean⟩ := by decide +kernel
theorem pd_9 : parseMethodDescriptor "(Lcom/example/kache/kache/store/ListValue;ZI)V" = some ⟨[(.object "com/example/kache/kache/store/ListValue"), .boolean, .int], none⟩ := by decide +kernel
theorem pd_10 : parseMethodDescriptor "(Lcom/example/kache/kache/store/ListValue;Z)V" = some ⟨[(.object "com/example/kache/kache/store/ListValue"), .boolean], none⟩ := by decide +kernel
def Q0 (Z : State) (p1 : Int32) (p2 : Int32) (p3 : Int32) (h0 : Heap) (n0 : Nat) (v : Option Value) (h : Heap) : Prop :=
  (v = some (.int (1 : Int32)))
theorem ef_0 (m : MethodId) (p1 : Int32) (p2 : Int32) (p3 : Int32) : entryFrame m #[(.int p1), (.int p2), (.int p3)] maxLocals = mkF m 0 #[.val (.int p1), .val (.int p2), .val (.int p3), .unset, .unset, .unset, .unset, .unset, .unset] [] := by first | (simp [entryFrame, mkF, argsToLocals, Value.category, maxLocals]; done) | rfl
set_option maxRecDepth 65536 in
set_option maxHeartbeats 40000000 in
theorem rm0 (l : Launch) (Z : State) (a0 : Array Value) (hw : ∀ d ∈ tables_1, d.before a0 Z = true) (ws : List Jvm.Cond) (p1 : Int32) (p2 : Int32) (p3 : Int32) (h0 : Heap) (n0 : Nat) (O0 : Old Z n0 h0) :
    MeetsW l x code maxLocals ret ws room_1 24 1152 Z #[(.int p1), (.int p2), (.int p3)] h0 n0 (Q0 Z p1 p2 p3 h0 n0) := by
  refine MeetsW.of (F := fun m => mkF m 0 #[.val (.int p1), .val (.int p2), .val (.int p3), .unset, .unset, .unset, .unset, .unset, .unset] []) (plainFor_of_name pn_3) (fun m => ef_0 m p1 p2 p3) ?_
  intro p e s m below meth c T0 hx hby hml hown0 hnm hret hlk hZ hS0 X0 e0
  have hown : s.vm.findClass "com/example/kache/kache/store/ListValueIsEmptyPinLaw" = some m.cls := hown0
  have N0 := Fr.nil n0
  show Goes _ _ _ _ _ _ (T0.setTop (mkF m 0 #[.val (.int p1), .val (.int p2), .val (.int p3), .unset, .unset, .unset, .unset, .unset, .unset] []))
  refine own_iloadN X0 hx (hb hby at_0) rfl ?_
  refine own_iconst X0 hx (v := (3 : Int32)) (hb hby at_1) rfl ?_
  refine own_iand X0 hx (hb hby at_2) ?_
  refine own_istoreN X0 hx (Ls' := #[.val (.int p1), .val (.int p2), .val (.int p3), .val (.int (p1 &&& (3 : Int32))), .unset, .unset, .unset, .unset, .unset]) (hb hby at_3) rfl ?_
  show Goes _ _ _ _ _ _ (T0.setTop (mkF m 4 #[.val (.int p1), .val (.int p2), .val (.int p3), .val (.int (p1 &&& (3 : Int32))), .unset, .unset, .unset, .unset, .unset] []))
  refine own_iloadN X0 hx (hb hby at_4) rfl ?_
  refine own_ldcInt X0 hx hZ hown (hw _ (List.mem_of_getElem? (i := 0) rfl)) (hb hby at_5) ?_
  refine own_iand X0 hx (hb hby at_7) ?_
  refine own_iloadN X0 hx (hb hby at_8) rfl ?_
  show Goes _ _ _ _ _ _ (T0.setTop (mkF m 9 #[.val (.int p1), .val (.int p2), .val (.int p3), .val (.int (p1 &&& (3 : Int32))), .unset, .unset, .unset, .unset, .unset] [(.int (p1 &&& (3 : Int32))), (.int (p2 &&& (2147483647 : Int32)))]))
  refine own_iconst X0 hx (v := (1 : Int32)) (hb hby at_9) rfl ?_
  refine own_iadd X0 hx (hb hby at_10) ?_
  refine own_irem X0 hx (hb hby at_11) (own_nz _) ?_
  refine own_istore X0 hx (Ls' := #[.val (.int p1), .val (.int p2), .val (.int p3), .val (.int (p1 &&& (3 : Int32))), .val (.int ((p2 &&& (2147483647 : Int32)) % ((p1 &&& (3 : Int32)) + (1 : Int32)))), .unset, .unset, .unset, .unset]) (hb hby at_12) rfl ?_
  show Goes _ _ _ _ _ _ (T0.setTop (mkF m 14 #[.val (.int p1), .val (.int p2), .val (.int p3), .val (.int (p1 &&& (3 : Int32))), .val (.int ((p2 &&& (2147483647 : Int32)) % ((p1 &&& (3 : Int32)) + (1 : Int32)))), .unset, .unset, .unset, .unset] []))
  rcases own_cases p1 p2 with ⟨hca, hcr⟩ | ⟨hca, hcr⟩ | ⟨hca, hcr⟩ | ⟨hca, hcr⟩ | ⟨hca, hcr⟩ | ⟨hca, hcr⟩ | ⟨hca, hcr⟩ | ⟨hca, hcr⟩ | ⟨hca, hcr⟩ | ⟨hca, hcr⟩
  ·
    show Goes _ _ _ _ _ _ (T0.setTop (mkF m 14 #[.val (.int p1), .val (.int p2), .val (.int p3), .val (.int (p1 &&& (3 : Int32))), .val (.int ((p2 &&& (2147483647 : Int32)) % ((p1 &&& (3 : Int32)) + (1 : Int32)))), .unset, .unset, .unset, .unset] []))
    refine own_new X0 hx hZ hown (hw _ (List.mem_of_getElem? (i := 1) rfl)) (hw _ (List.mem_of_getElem? (i := 2) rfl)) (hw _ (List.mem_of_getElem? (i := 3) rfl)) e0 (hb hby at_14) (by decide) (by decide) (fun T1 h1 b1 g1 X1 e1 E1 A1 D1 => ?_)
    have ge_b1 : n0 ≤ b1 := Nat.le_trans (own_sz O0) (Nat.le_of_eq g1.symm)
    have O2 := O0.ext E1
    have F1_ring_b1 : Fld Z h1 b1 "com/example/kache/kache/store/ListValue" "ring" "[[B" .null := D1 (Or.inl (hw _ (List.mem_of_getElem? (i := 13) rfl))) (ty := (.array (.array .byte))) (by decide)
    have F1_size_b1 : Fld Z h1 b1 "com/example/kache/kache/store/ListValue" "size" "I" (.int (0 : Int32)) := D1 (Or.inl (hw _ (List.mem_of_getElem? (i := 20) rfl))) (ty := .int) (by decide)
    have F1_head_b1 : Fld Z h1 b1 "com/example/kache/kache/store/ListValue" "head" "I" (.int (0 : Int32)) := D1 (Or.inl (hw _ (List.mem_of_getElem? (i := 47) rfl))) (ty := .int) (by decide)
    show Goes _ _ _ _ _ _ (T1.setTop (mkF m 17 #[.val (.int p1), .val (.int p2), .val (.int p3), .val (.int (p1 &&& (3 : Int32))), .val (.int ((p2 &&& (2147483647 : Int32)) % ((p1 &&& (3 : Int32)) + (1 : Int32)))), .unset, .unset, .unset, .unset] [(.ref b1)]))
    refine own_dup X1 hx (hb hby at_17) rfl ?_
    refine own_special X1 hx hZ hown (y := (⟨"com/example/kache/kache/store/ListValue", "<init>", "()V"⟩ : MethodName)) rfl (hw _ (List.mem_of_getElem? (i := 4) rfl)) (hw _ (List.mem_of_getElem? (i := 5) rfl)) (hw _ (List.mem_of_getElem? (i := 3) rfl)) (hw _ (List.mem_of_getElem? (i := 6) rfl)) (a := b1) (by decide) (W := 1) (by decide) (by decide) N0 e1 (by rw [hml]; rfl) (argsL := []) (rest := [(.ref b1)]) (lenOf pd_4 rfl) (Nat.le_of_eq rfl) (by decide) (by decide) (rm1 l Z a0 hw [] b1 (.null) h1 n0 O2 A1 F1_ring_b1 F1_head_b1 F1_size_b1 ge_b1) rfl (hb hby at_18) ?_
    intro v3 T3 lc3 X3 N3 hQ3
    obtain ⟨r_3, k_3, rfl, K3, r3_0, r3_1, r3_2, r3_3, r3_4, r3_5, r3_6⟩ := hQ3
    have O4 := O2.keep K3 (allS ge_b1 all0)
    have ge_r_3 : n0 ≤ r_3 := Nat.le_trans (own_sz O2) r3_5
    show Goes _ _ _ _ _ _ (T3.setTop (mkF m 21 #[.val (.int p1), .val (.int p2), .val (.int p3), .val (.int (p1 &&& (3 : Int32))), .val (.int ((p2 &&& (2147483647 : Int32)) % ((p1 &&& (3 : Int32)) + (1 : Int32)))), .unset, .unset, .unset, .unset] [(.ref b1)]))
    refine own_astore X3 hx (Ls' := #[.val (.int p1), .val (.int p2), .val (.int p3), .val (.int (p1 &&& (3 : Int32))), .val (.int ((p2 &&& (2147483647 : Int32)) % ((p1 &&& (3 : Int32)) + (1 : Int32)))), .val (.ref b1), .unset, .unset, .unset]) (hb hby at_21) rfl rfl ?_
    refine own_aload X3 hx (hb hby at_23) rfl rfl ?_
    refine own_virtual X3 hx hZ hown (y := (⟨"com/example/kache/kache/store/ListValue", "isEmpty", "()Z"⟩ : MethodName)) (z := (⟨"com/example/kache/kache/store/ListValue", "isEmpty", "()Z"⟩ : MethodName)) (hw _ (List.mem_of_getElem? (i := 14) rfl)) (hw _ (List.mem_of_getElem? (i := 15) rfl)) (notFace_of_selects (args := #[]) (mvT hZ (hw _ (List.mem_of_getElem? (i := 17) rfl)))) (hw _ (List.mem_of_getElem? (i := 17) rfl)) (hw _ (List.mem_of_getElem? (i := 16) rfl)) (hw _ (List.mem_of_getElem? (i := 3) rfl)) (hw _ (List.mem_of_getElem? (i := 18) rfl)) (a := b1) r3_0 (by decide) (W := 0) (by decide) (by decide) N3 rfl (by rw [hml]; rfl) (argsL := []) (rest := []) (lenOf pd_8 rfl) (Nat.le_of_eq rfl) (by decide) (by decide) (rm3 l Z a0 hw [] b1 (0 : Int32) T3.heap n0 O4 r3_3) rfl (hb hby at_25) ?_
    intro v5 T5 lc5 X5 N5 hQ5
    obtain ⟨rfl, e5⟩ := hQ5
    show Goes _ _ _ _ _ _ (T5.setTop (mkF m 28 #[.val (.int p1), .val (.int p2), .val (.int p3), .val (.int (p1 &&& (3 : Int32))), .val (.int ((p2 &&& (2147483647 : Int32)) % ((p1 &&& (3 : Int32)) + (1 : Int32)))), .val (.ref b1), .unset, .unset, .unset] [(.int (if (0 : Int32) = (0 : Int32) then (1 : Int32) else (0 : Int32)))]))
    refine own_istore X5 hx (Ls' := #[.val (.int p1), .val (.int p2), .val (.int p3), .val (.int (p1 &&& (3 : Int32))), .val (.int ((p2 &&& (2147483647 : Int32)) % ((p1 &&& (3 : Int32)) + (1 : Int32)))), .val (.ref b1), .val (.int (if (0 : Int32) = (0 : Int32) then (1 : Int32) else (0 : Int32))), .unset, .unset]) (hb hby at_28) rfl ?_
    refine own_iloadN X5 hx (hb hby at_30) rfl ?_
    refine own_iconst X5 hx (v := (1 : Int32)) (hb hby at_31) rfl ?_
    refine own_icmpYes X5 hx (pc' := 52) (hb hby at_32) (tlt ((by first | (rw [hca]; done) | (rw [hca]; decide)) : (p1 &&& (3 : Int32)) < (1 : Int32))).1 (by decide) (by decide) ?_
    show Goes _ _ _ _ _ _ (T5.setTop (mkF m 52 #[.val (.int p1), .val (.int p2), .val (.int p3), .val (.int (p1 &&& (3 : Int32))), .val (.int ((p2 &&& (2147483647 : Int32)) % ((p1 &&& (3 : Int32)) + (1 : Int32)))), .val (.ref b1), .val (.int (if (0 : Int32) = (0 : Int32) then (1 : Int32) else (0 : Int32))), .unset, .unset] []))
    refine own_iloadN X5 hx (hb hby at_52) rfl ?_
    refine own_iconst X5 hx (v := (2 : Int32)) (hb hby at_53) rfl ?_
    refine own_icmpYes X5 hx (pc' := 77) (hb hby at_54) (tlt ((by first | (rw [hca]; done) | (rw [hca]; decide)) : (p1 &&& (3 : Int32)) < (2 : Int32))).1 (by decide) (by decide) ?_
    show Goes _ _ _ _ _ _ (T5.setTop (mkF m 77 #[.val (.int p1), .val (.int p2), .val (.int p3), .val (.int (p1 &&& (3 : Int32))), .val (.int ((p2 &&& (2147483647 : Int32)) % ((p1 &&& (3 : Int32)) + (1 : Int32)))), .val (.ref b1), .val (.int (if (0 : Int32) = (0 : Int32) then (1 : Int32) else (0 : Int32))), .unset, .unset] []))
    refine own_iloadN X5 hx (hb hby at_77) rfl ?_
    refine own_iconst X5 hx (v := (3 : Int32)) (hb hby at_78) rfl ?_
    refine own_icmpYes X5 hx (pc' := 102) (hb hby at_79) (tlt ((by first | (rw [hca]; done) | (rw [hca]; decide)) : (p1 &&& (3 : Int32)) < (3 : Int32))).1 (by decide) (by decide) ?_
    show Goes _ _ _ _ _ _ (T5.setTop (mkF m 102 #[.val (.int p1), .val (.int p2), .val (.int p3), .val (.int (p1 &&& (3 : Int32))), .val (.int ((p2 &&& (2147483647 : Int32)) % ((p1 &&& (3 : Int32)) + (1 : Int32)))), .val (.ref b1), .val (.int (if (0 : Int32) = (0 : Int32) then (1 : Int32) else (0 : Int32))), .unset, .unset] []))
    refine own_aload X5 hx (hb hby at_102) rfl rfl ?_
    refine own_virtual X5 hx hZ hown (y := (⟨"com/example/kache/kache/store/ListValue", "isEmpty", "()Z"⟩ : MethodName)) (z := (⟨"com/example/kache/kache/store/ListValue", "isEmpty", "()Z"⟩ : MethodName)) (hw _ (List.mem_of_getElem? (i := 14) rfl)) (hw _ (List.mem_of_getElem? (i := 15) rfl)) (notFace_of_selects (args := #[]) (mvT hZ (hw _ (List.mem_of_getElem? (i := 17) rfl)))) (hw _ (List.mem_of_getElem? (i := 17) rfl)) (hw _ (List.mem_of_getElem? (i := 16) rfl)) (hw _ (List.mem_of_getElem? (i := 3) rfl)) (hw _ (List.mem_of_getElem? (i := 18) rfl)) (a := b1) r3_0 (by decide) (W := 0) (by decide) (by decide) N5 e5 (by rw [hml]; rfl) (argsL := []) (rest := []) (lenOf pd_8 rfl) (Nat.le_of_eq rfl) (by decide) (by decide) (rm3 l Z a0 hw [] b1 (0 : Int32) T3.heap n0 O4 r3_3) rfl (hb hby at_104) ?_
    intro v6 T6 lc6 X6 N6 hQ6
    obtain ⟨rfl, e6⟩ := hQ6
    show Goes _ _ _ _ _ _ (T6.setTop (mkF m 107 #[.val (.int p1), .val (.int p2), .val (.int p3), .val (.int (p1 &&& (3 : Int32))), .val (.int ((p2 &&& (2147483647 : Int32)) % ((p1 &&& (3 : Int32)) + (1 : Int32)))), .val (.ref b1), .val (.int (if (0 : Int32) = (0 : Int32) then (1 : Int32) else (0 : Int32))), .unset, .unset] [(.int (if (0 : Int32) = (0 : Int32) then (1 : Int32) else (0 : Int32)))]))
    refine own_istore X6 hx (Ls' := #[.val (.int p1), .val (.int p2), .val (.int p3), .val (.int (p1 &&& (3 : Int32))), .val (.int ((p2 &&& (2147483647 : Int32)) % ((p1 &&& (3 : Int32)) + (1 : Int32)))), .val (.ref b1), .val (.int (if (0 : Int32) = (0 : Int32) then (1 : Int32) else (0 : Int32))), .val (.int (if (0 : Int32) = (0 : Int32) then (1 : Int32) else (0 : Int32))), .unset]) (hb hby at_107) rfl ?_
    refine own_iload X6 hx (hb hby at_109) rfl ?_
    refine own_iconst X6 hx (v := (1 : Int32)) (hb hby at_111) rfl ?_
    refine own_icmpYes X6 hx (pc' := 132) (hb hby at_112) (tlt ((by first | (rw [hcr]; done) | (rw [hcr]; decide)) : ((p2 &&& (2147483647 : Int32)) % ((p1 &&& (3 : Int32)) + (1 : Int32))) < (1 : Int32))).1 (by decide) (by decide) ?_
    show Goes _ _ _ _ _ _ (T6.setTop (mkF m 132 #[.val (.int p1), .val (.int p2), .val (.int p3), .val (.int (p1 &&& (3 : Int32))), .val (.int ((p2 &&& (2147483647 : Int32)) % ((p1 &&& (3 : Int32)) + (1 : Int32)))), .val (.ref b1), .val (.int (if (0 : Int32) = (0 : Int32) then (1 : Int32) else (0 : Int32))), .val (.int (if (0 : Int32) = (0 : Int32) then (1 : Int32) else (0 : Int32))), .unset] []))
    refine own_iload X6 hx (hb hby at_132) rfl ?_
    refine own_iconst X6 hx (v := (2 : Int32)) (hb hby at_134) rfl ?_
    refine own_icmpYes X6 hx (pc' := 155) (hb hby at_135) (tlt ((by first | (rw [hcr]; done) | (rw [hcr]; decide)) : ((p2 &&& (2147483647 : Int32)) % ((p1 &&& (3 : Int32)) + (1 : Int32))) < (2 : Int32))).1 (by decide) (by decide) ?_
    show Goes _ _ _ _ _ _ (T6.setTop (mkF m 155 #[.val (.int p1), .val (.int p2), .val (.int p3), .val (.int (p1 &&& (3 : Int32))), .val (.int ((p2 &&& (2147483647 : Int32)) % ((p1 &&& (3 : Int32)) + (1 : Int32)))), .val (.ref b1), .val (.int (if (0 : Int32) = (0 : Int32) then (1 : Int32) else (0 : Int32))), .val (.int (if (0 : Int32) = (0 : Int32) then (1 : Int32) else (0 : Int32))), .unset] []))
    refine own_iload X6 hx (hb hby at_155) rfl ?_
    refine own_iconst X6 hx (v := (3 : Int32)) (hb hby at_157) rfl ?_
    refine own_icmpYes X6 hx (pc' := 178) (hb hby at_158) (tlt ((by first | (rw [hcr]; done) | (rw [hcr]; decide)) : ((p2 &&& (2147483647 : Int32)) % ((p1 &&& (3 : Int32)) + (1 : Int32))) < (3 : Int32))).1 (by decide) (by decide) ?_
    show Goes _ _ _ _ _ _ (T6.setTop (mkF m 178 #[.val (.int p1), .val (.int p2), .val (.int p3), .val (.int (p1 &&& (3 : Int32))), .val (.int ((p2 &&& (2147483647 : Int32)) % ((p1 &&& (3 : Int32)) + (1 : Int32)))), .val (.ref b1), .val (.int (if (0 : Int32) = (0 : Int32) then (1 : Int32) else (0 : Int32))), .val (.int (if (0 : Int32) = (0 : Int32) then (1 : Int32) else (0 : Int32))), .unset] []))
    refine own_aload X6 hx (hb hby at_178) rfl rfl ?_
    refine own_virtual X6 hx hZ hown (y := (⟨"com/example/kache/kache/store/ListValue", "isEmpty", "()Z"⟩ : MethodName)) (z := (⟨"com/example/kache/kache/store/ListValue", "isEmpty", "()Z"⟩ : MethodName)) (hw _ (List.mem_of_getElem? (i := 14) rfl)) (hw _ (List.mem_of_getElem? (i := 15) rfl)) (notFace_of_selects (args := #[]) (mvT hZ (hw _ (List.mem_of_getElem? (i := 17) rfl)))) (hw _ (List.mem_of_getElem? (i := 17) rfl)) (hw _ (List.mem_of_getElem? (i := 16) rfl)) (hw _ (List.mem_of_getElem? (i := 3) rfl)) (hw _ (List.mem_of_getElem? (i := 18) rfl)) (a := b1) r3_0 (by decide) (W := 0) (by decide) (by decide) N6 e6 (by rw [hml]; rfl) (argsL := []) (rest := []) (lenOf pd_8 rfl) (Nat.le_of_eq rfl) (by decide) (by decide) (rm3 l Z a0 hw [] b1 (0 : Int32) T3.heap n0 O4 r3_3) rfl (hb hby at_180) ?_
    intro v7 T7 lc7 X7 N7 hQ7
    obtain ⟨rfl, e7⟩ := hQ7
    show Goes _ _ _ _ _ _ (T7.setTop (mkF m 183 #[.val (.int p1), .val (.int p2), .val (.int p3), .val (.int (p1 &&& (3 : Int32))), .val (.int ((p2 &&& (2147483647 : Int32)) % ((p1 &&& (3 : Int32)) + (1 : Int32)))), .val (.ref b1), .val (.int (if (0 : Int32) = (0 : Int32) then (1 : Int32) else (0 : Int32))), .val (.int (if (0 : Int32) = (0 : Int32) then (1 : Int32) else (0 : Int32))), .unset] [(.int (if (0 : Int32) = (0 : Int32) then (1 : Int32) else (0 : Int32)))]))
    refine own_istore X7 hx (Ls' := #[.val (.int p1), .val (.int p2), .val (.int p3), .val (.int (p1 &&& (3 : Int32))), .val (.int ((p2 &&& (2147483647 : Int32)) % ((p1 &&& (3 : Int32)) + (1 : Int32)))), .val (.ref b1), .val (.int (if (0 : Int32) = (0 : Int32) then (1 : Int32) else (0 : Int32))), .val (.int (if (0 : Int32) = (0 : Int32) then (1 : Int32) else (0 : Int32))), .val (.int (if (0 : Int32) = (0 : Int32) then (1 : Int32) else (0 : Int32)))]) (hb hby at_183) rfl ?_
    refine own_iload X7 hx (hb hby at_185) rfl ?_
    refine own_ifNo X7 hx (hb hby at_187) ((if0 _ _).trans (feq ((own_bnz (not_not_intro (by decide))) : ¬ ((if (0 : Int32) = (0 : Int32) then (1 : Int32) else (0 : Int32)) = (0 : Int32)))).1) ?_
    show Goes _ _ _ _ _ _ (T7.setTop (mkF m 190 #[.val (.int p1), .val (.int p2), .val (.int p3), .val (.int (p1 &&& (3 : Int32))), .val (.int ((p2 &&& (2147483647 : Int32)) % ((p1 &&& (3 : Int32)) + (1 : Int32)))), .val (.ref b1), .val (.int (if (0 : Int32) = (0 : Int32) then (1 : Int32) else (0 : Int32))), .val (.int (if (0 : Int32) = (0 : Int32) then (1 : Int32) else (0 : Int32))), .val (.int (if (0 : Int32) = (0 : Int32) then (1 : Int32) else (0 : Int32)))] []))
    refine own_iload X7 hx (hb hby at_190) rfl ?_
    refine own_iloadN X7 hx (hb hby at_192) rfl ?_
    refine own_ifNo X7 hx (hb hby at_193) ((if0 _ _).trans (teq (hca : (p1 &&& (3 : Int32)) = (0 : Int32))).2) ?_
    show Goes _ _ _ _ _ _ (T7.setTop (mkF m 196 #[.val (.int p1), .val (.int p2), .val (.int p3), .val (.int (p1 &&& (3 : Int32))), .val (.int ((p2 &&& (2147483647 : Int32)) % ((p1 &&& (3 : Int32)) + (1 : Int32)))), .val (.ref b1), .val (.int (if (0 : Int32) = (0 : Int32) then (1 : Int32) else (0 : Int32))), .val (.int (if (0 : Int32) = (0 : Int32) then (1 : Int32) else (0 : Int32))), .val (.int (if (0 : Int32) = (0 : Int32) then (1 : Int32) else (0 : Int32)))] [(.int (if (0 : Int32) = (0 : Int32) then (1 : Int32) else (0 : Int32)))]))
    refine own_iconst X7 hx (v := (1 : Int32)) (hb hby at_196) rfl ?_
    refine own_goto X7 hx (pc' := 201) (hb hby at_197) (by decide) (by decide) ?_
    refine own_icmpNo X7 hx (hb hby at_201) (teq ((by first | (rw [if_pos rfl]; done) | (rw [if_pos rfl]; decide)) : (if (0 : Int32) = (0 : Int32) then (1 : Int32) else (0 : Int32)) = (1 : Int32))).2 ?_
    show Goes _ _ _ _ _ _ (T7.setTop (mkF m 204 #[.val (.int p1), .val (.int p2), .val (.int p3), .val (.int (p1 &&& (3 : Int32))), .val (.int ((p2 &&& (2147483647 : Int32)) % ((p1 &&& (3 : Int32)) + (1 : Int32)))), .val (.ref b1), .val (.int (if (0 : Int32) = (0 : Int32) then (1 : Int32) else (0 : Int32))), .val (.int (if (0 : Int32) = (0 : Int32) then (1 : Int32) else (0 : Int32))), .val (.int (if (0 : Int32) = (0 : Int32) then (1 : Int32) else (0 : Int32)))] []))
    refine own_iload X7 hx (hb hby at_204) rfl ?_
    refine own_iloadN X7 hx (hb hby at_206) rfl ?_
    refine own_iload X7 hx (hb hby at_207) rfl ?_
    refine own_icmpNo X7 hx (hb hby at_209) (teq ((by first | (rw [hca, hcr]; done) | (rw [hca, hcr]; decide) | (rw [hcr, hca]; done) | (rw [hcr, hca]; decide)) : (p1 &&& (3 : Int32)) = ((p2 &&& (2147483647 : Int32)) % ((p1 &&& (3 : Int32)) + (1 : Int32))))).2 ?_
    show Goes _ _ _ _ _ _ (T7.setTop (mkF m 212 #[.val (.int p1), .val (.int p2), .val (.int p3), .val (.int (p1 &&& (3 : Int32))), .val (.int ((p2 &&& (2147483647 : Int32)) % ((p1 &&& (3 : Int32)) + (1 : Int32)))), .val (.ref b1), .val (.int (if (0 : Int32) = (0 : Int32) then (1 : Int32) else (0 : Int32))), .val (.int (if (0 : Int32) = (0 : Int32) then (1 : Int32) else (0 : Int32))), .val (.int (if (0 : Int32) = (0 : Int32) then (1 : Int32) else (0 : Int32)))] [(.int (if (0 : Int32) = (0 : Int32) then (1 : Int32) else (0 : Int32)))]))
    refine own_iconst X7 hx (v := (1 : Int32)) (hb hby at_212) rfl ?_
    refine own_goto X7 hx (pc' := 217) (hb hby at_213) (by decide) (by decide) ?_
    refine own_icmpNo X7 hx (hb hby at_217) (teq ((by first | (rw [if_pos rfl]; done) | (rw [if_pos rfl]; decide)) : (if (0 : Int32) = (0 : Int32) then (1 : Int32) else (0 : Int32)) = (1 : Int32))).2 ?_
    show Goes _ _ _ _ _ _ (T7.setTop (mkF m 220 #[.val (.int p1), .val (.int p2), .val (.int p3), .val (.int (p1 &&& (3 : Int32))), .val (.int ((p2 &&& (2147483647 : Int32)) % ((p1 &&& (3 : Int32)) + (1 : Int32)))), .val (.ref b1), .val (.int (if (0 : Int32) = (0 : Int32) then (1 : Int32) else (0 : Int32))), .val (.int (if (0 : Int32) = (0 : Int32) then (1 : Int32) else (0 : Int32))), .val (.int (if (0 : Int32) = (0 : Int32) then (1 : Int32) else (0 : Int32)))] []))
    refine own_iconst X7 hx (v := (1 : Int32)) (hb hby at_220) rfl ?_
    refine own_goto X7 hx (pc' := 225) (hb hby at_221) (by decide) (by decide) ?_
    show Goes _ _ _ _ _ _ (T7.setTop (mkF m 225 #[.val (.int p1), .val (.int p2), .val (.int p3), .val (.int (p1 &&& (3 : Int32))), .val (.int ((p2 &&& (2147483647 : Int32)) % ((p1 &&& (3 : Int32)) + (1 : Int32)))), .val (.ref b1), .val (.int (if (0 : Int32) = (0 : Int32) then (1 : Int32) else (0 : Int32))), .val (.int (if (0 : Int32) = (0 : Int32) then (1 : Int32) else (0 : Int32))), .val (.int (if (0 : Int32) = (0 : Int32) then (1 : Int32) else (0 : Int32)))] [(.int (1 : Int32))]))
    exact own_retNW X7 hx (t := .boolean) hS0 (Nat.zero_le _) N7 hlk (by decide) (by decide) hret (by simp) (hb hby at_225) (by rw [e7]; exact rfl)
  ·
    show Goes _ _ _ _ _ _ (T0.setTop (mkF m 14 #[.val (.int p1), .val (.int p2), .val (.int p3), .val (.int (p1 &&& (3 : Int32))), .val (.int ((p2 &&& (2147483647 : Int32)) % ((p1 &&& (3 : Int32)) + (1 : Int32)))), .unset, .unset, .unset, .unset] []))
    refine own_new X0 hx hZ hown (hw _ (List.mem_of_getElem? (i := 1) rfl)) (hw _ (List.mem_of_getElem? (i := 2) rfl)) (hw _ (List.mem_of_getElem? (i := 3) rfl)) e0 (hb hby at_14) (by decide) (by decide) (fun T8 h8 b8 g8 X8 e8 E8 A8 D8 => ?_)
    have ge_b8 : n0 ≤ b8 := Nat.le_trans (own_sz O0) (Nat.le_of_eq g8.symm)
    have O9 := O0.ext E8
    have F8_ring_b8 : Fld Z h8 b8 "com/example/kache/kache/store/ListValue" "ring" "[[B" .null := D8 (Or.inl (hw _ (List.mem_of_getElem? (i := 13) rfl))) (ty := (.array (.array .byte))) (by decide)
    have F8_size_b8 : Fld Z h8 b8 "com/example/kache/kache/store/ListValue" "size" "I" (.int (0 : Int32)) := D8 (Or.inl (hw _ (List.mem_of_getElem? (i := 20) rfl))) (ty := .int) (by decide)
    have F8_head_b8 : Fld Z h8 b8 "com/example/kache/kache/store/ListValue" "head" "I" (.int (0 : Int32)) := D8 (Or.inl (hw _ (List.mem_of_getElem? (i := 47) rfl))) (ty := .int) (by decide)
    show Goes _ _ _ _ _ _ (T8.setTop (mkF m 17 #[.val (.int p1), .val (.int p2), .val (.int p3), .val (.int (p1 &&& (3 : Int32))), .val (.int ((p2 &&& (2147483647 : Int32)) % ((p1 &&& (3 : Int32)) + (1 : Int32)))), .unset, .unset, .unset, .unset] [(.ref b8)]))
    refine own_dup X8 hx (hb hby at_17) rfl ?_
    refine own_special X8 hx hZ hown (y := (⟨"com/example/kache/kache/store/ListValue", "<init>", "()V"⟩ : MethodName)) rfl (hw _ (List.mem_of_getElem? (i := 4) rfl)) (hw _ (List.mem_of_getElem? (i := 5) rfl)) (hw _ (List.mem_of_getElem? (i := 3) rfl)) (hw _ (List.mem_of_getElem? (i := 6) rfl)) (a := b8) (by decide) (W := 1) (by decide) (by decide) N0 e8 (by rw [hml]; rfl) (argsL := []) (rest := [(.ref b8)]) (lenOf pd_4 rfl) (Nat.le_of_eq rfl) (by decide) (by decide) (rm1 l Z a0 hw [] b8 (.null) h8 n0 O9 A8 F8_ring_b8 F8_head_b8 F8_size_b8 ge_b8) rfl (hb hby at_18) ?_
    intro v10 T10 lc10 X10 N10 hQ10
    obtain ⟨r_10, k_10, rfl, K10, r10_0, r10_1, r10_2, r10_3, r10_4, r10_5, r10_6⟩ := hQ10
    have O11 := O9.keep K10 (allS ge_b8 all0)
    have ge_r_10 : n0 ≤ r_10 := Nat.le_trans (own_sz O9) r10_5
    show Goes _ _ _ _ _ _ (T10.setTop (mkF m 21 #[.val (.int p1), .val (.int p2), .val (.int p3), .val (.int (p1 &&& (3 : Int32))), .val (.int ((p2 &&& (2147483647 : Int32)) % ((p1 &&& (3 : Int32)) + (1 : Int32)))), .unset, .unset, .unset, .unset] [(.ref b8)]))
    refine own_astore X10 hx (Ls' := #[.val (.int p1), .val (.int p2), .val (.int p3), .val (.int (p1 &&& (3 : Int32))), .val (.int ((p2 &&& (2147483647 : Int32)) % ((p1 &&& (3 : Int32)) + (1 : Int32)))), .val (.ref b8), .unset, .unset, .unset]) (hb hby at_21) rfl rfl ?_
    refine own_aload X10 hx (hb hby at_23) rfl rfl ?_
    refine own_virtual X10 hx hZ hown (y := (⟨"com/example/kache/kache/store/ListValue", "isEmpty", "()Z"⟩ : MethodName)) (z := (⟨"com/example/kache/kache/store/ListValue", "isEmpty", "()Z"⟩ : MethodName)) (hw _ (List.mem_of_getElem? (i := 14) rfl)) (hw _ (List.mem_of_getElem? (i := 15) rfl)) (notFace_of_selects (args := #[]) (mvT hZ (hw _ (List.mem_of_getElem? (i := 17) rfl)))) (hw _ (List.mem_of_getElem? (i := 17) rfl)) (hw _ (List.mem_of_getElem? (i := 16) rfl)) (hw _ (List.mem_of_getElem? (i := 3) rfl)) (hw _ (List.mem_of_getElem? (i := 18) rfl)) (a := b8) r10_0 (by decide) (W := 0) (by decide) (by decide) N10 rfl (by rw [hml]; rfl) (argsL := []) (rest := []) (lenOf pd_8 rfl) (Nat.le_of_eq rfl) (by decide) (by decide) (rm3 l Z a0 hw [] b8 (0 : Int32) T10.heap n0 O11 r10_3) rfl (hb hby at_25) ?_
    intro v12 T12 lc12 X12 N12 hQ12
    obtain ⟨rfl, e12⟩ := hQ12
    show Goes _ _ _ _ _ _ (T12.setTop (mkF m 28 #[.val (.int p1), .val (.int p2), .val (.int p3), .val (.int (p1 &&& (3 : Int32))), .val (.int ((p2 &&& (2147483647 : Int32)) % ((p1 &&& (3 : Int32)) + (1 : Int32)))), .val (.ref b8), .unset, .unset, .unset] [(.int (if (0 : Int32) = (0 : Int32) then (1 : Int32) else (0 : Int32)))]))
    refine own_istore X12 hx (Ls' := #[.val (.int p1), .val (.int p2), .val (.int p3), .val (.int (p1 &&& (3 : Int32))), .val (.int ((p2 &&& (2147483647 : Int32)) % ((p1 &&& (3 : Int32)) + (1 : Int32)))), .val (.ref b8), .val (.int (if (0 : Int32) = (0 : Int32) then (1 : Int32) else (0 : Int32))), .unset, .unset]) (hb hby at_28) rfl ?_
    refine own_iloadN X12 hx (hb hby at_30) rfl ?_
    refine own_iconst X12 hx (v := (1 : Int32)) (hb hby at_31) rfl ?_
    refine own_icmpNo X12 hx (hb hby at_32) (flt ((by first | (rw [hca]; done) | (rw [hca]; decide)) : ¬ ((p1 &&& (3 : Int32)) < (1 : Int32)))).1 ?_
    show Goes _ _ _ _ _ _ (T12.setTop (mkF m 35 #[.val (.int p1), .val (.int p2), .val (.int p3), .val (.int (p1 &&& (3 : Int32))), .val (.int ((p2 &&& (2147483647 : Int32)) % ((p1 &&& (3 : Int32)) + (1 : Int32)))), .val (.ref b8), .val (.int (if (0 : Int32) = (0 : Int32) then (1 : Int32) else (0 : Int32))), .unset, .unset] []))
    refine own_aload X12 hx (hb hby at_35) rfl rfl ?_
    refine own_iloadN X12 hx (hb hby at_37) rfl ?_
    refine own_iconst X12 hx (v := (1 : Int32)) (hb hby at_38) rfl ?_
    refine own_iand X12 hx (hb hby at_39) ?_
    show Goes _ _ _ _ _ _ (T12.setTop (mkF m 40 #[.val (.int p1), .val (.int p2), .val (.int p3), .val (.int (p1 &&& (3 : Int32))), .val (.int ((p2 &&& (2147483647 : Int32)) % ((p1 &&& (3 : Int32)) + (1 : Int32)))), .val (.ref b8), .val (.int (if (0 : Int32) = (0 : Int32) then (1 : Int32) else (0 : Int32))), .unset, .unset] [(.int (p3 &&& (1 : Int32))), (.ref b8)]))
    have jn48_14 : ∀ (T14 : State) (lc14 : List Loc) (X14 : Stand p l e room_1 (s.setVm s.vm) m #[(.int p1), (.int p2), (.int p3)] below meth c T14 lc14 2 11) (N14 : Fr n0 lc14) (e14 : T14.heap = T10.heap) (w14 : Int32) (hj14 : True), Goes p e below (fun o t L => ReturnedEndW s o t L (24) (1152)) n0 (Q0 Z p1 p2 p3 h0 n0) (T14.setTop (mkF m 48 #[.val (.int p1), .val (.int p2), .val (.int p3), .val (.int (p1 &&& (3 : Int32))), .val (.int ((p2 &&& (2147483647 : Int32)) % ((p1 &&& (3 : Int32)) + (1 : Int32)))), .val (.ref b8), .val (.int (if (0 : Int32) = (0 : Int32) then (1 : Int32) else (0 : Int32))), .unset, .unset] [(.int w14), (.ref b8)])) := by
      intro T14 lc14 X14 N14 e14 w14 hj14
      show Goes _ _ _ _ _ _ (T14.setTop (mkF m 48 #[.val (.int p1), .val (.int p2), .val (.int p3), .val (.int (p1 &&& (3 : Int32))), .val (.int ((p2 &&& (2147483647 : Int32)) % ((p1 &&& (3 : Int32)) + (1 : Int32)))), .val (.ref b8), .val (.int (if (0 : Int32) = (0 : Int32) then (1 : Int32) else (0 : Int32))), .unset, .unset] [(.int w14), (.ref b8)]))
      refine own_iloadN X14 hx (hb hby at_48) rfl ?_
      refine own_callSW X14 hx hZ hown hS0 (Nat.zero_le _) (y := (⟨"com/example/kache/kache/store/ListValueIsEmptyPinLaw", "addOne", "(Lcom/example/kache/kache/store/ListValue;ZI)V"⟩ : MethodName)) (hw _ (List.mem_of_getElem? (i := 21) rfl)) (hw _ (List.mem_of_getElem? (i := 22) rfl)) (hw _ (List.mem_of_getElem? (i := 23) rfl)) (hw _ (List.mem_of_getElem? (i := 24) rfl)) (by decide) (W := 0) (by decide) (by decide) N14 e14 (by rw [hml]; rfl) (argsL := [(.ref b8), (.int w14), (.int p3)]) (rest := []) (lenOf pd_9 rfl) (Nat.le_of_eq rfl) (by decide) (by decide) (rm4 l Z a0 hw [] b8 w14 p3 r_10 (0 : Int32) (0 : Int32) k_10 [.null, .null, .null, .null, .null, .null, .null, .null] T10.heap n0 O11 r10_0 r10_1 r10_2 r10_3 r10_4 (by first | assumption | decide | exact ⟨rfl, rfl⟩) ge_b8 ge_r_10 (by first | assumption | decide | exact ⟨rfl, rfl⟩) r10_6 (by first | assumption | decide | exact ⟨rfl, rfl⟩)) rfl (hb hby at_49) ?_
      intro v15 T15 lc15 k1_15 X15 hS15 hk15_ hZ hown N15 hQ15
      obtain ⟨hd2_15, vs2_15, rfl, K15, r15_0, r15_1, r15_2, r15_3, r15_4, r15_5, r15_6⟩ := hQ15
      have O16 := O11.keep K15 (allS ge_b8 (allS ge_r_10 all0))
      show Goes _ _ _ _ _ _ (T15.setTop (mkF m 52 #[.val (.int p1), .val (.int p2), .val (.int p3), .val (.int (p1 &&& (3 : Int32))), .val (.int ((p2 &&& (2147483647 : Int32)) % ((p1 &&& (3 : Int32)) + (1 : Int32)))), .val (.ref b8), .val (.int (if (0 : Int32) = (0 : Int32) then (1 : Int32) else (0 : Int32))), .unset, .unset] []))
      refine own_iloadN X15 hx (hb hby at_52) rfl ?_
      refine own_iconst X15 hx (v := (2 : Int32)) (hb hby at_53) rfl ?_
      refine own_icmpYes X15 hx (pc' := 77) (hb hby at_54) (tlt ((by first | (rw [hca]; done) | (rw [hca]; decide)) : (p1 &&& (3 : Int32)) < (2 : Int32))).1 (by decide) (by decide) ?_
      show Goes _ _ _ _ _ _ (T15.setTop (mkF m 77 #[.val (.int p1), .val (.int p2), .val (.int p3), .val (.int (p1 &&& (3 : Int32))), .val (.int ((p2 &&& (2147483647 : Int32)) % ((p1 &&& (3 : Int32)) + (1 : Int32)))), .val (.ref b8), .val (.int (if (0 : Int32) = (0 : Int32) then (1 : Int32) else (0 : Int32))), .unset, .unset] []))
      refine own_iloadN X15 hx (hb hby at_77) rfl ?_
      refine own_iconst X15 hx (v := (3 : Int32)) (hb hby at_78) rfl ?_
      refine own_icmpYes X15 hx (pc' := 102) (hb hby at_79) (tlt ((by first | (rw [hca]; done) | (rw [hca]; decide)) : (p1 &&& (3 : Int32)) < (3 : Int32))).1 (by decide) (by decide) ?_
      show Goes _ _ _ _ _ _ (T15.setTop (mkF m 102 #[.val (.int p1), .val (.int p2), .val (.int p3), .val (.int (p1 &&& (3 : Int32))), .val (.int ((p2 &&& (2147483647 : Int32)) % ((p1 &&& (3 : Int32)) + (1 : Int32)))), .val (.ref b8), .val (.int (if (0 : Int32) = (0 : Int32) then (1 : Int32) else (0 : Int32))), .unset, .unset] []))
      refine own_aload X15 hx (hb hby at_102) rfl rfl ?_
      refine own_virtual X15 hx hZ hown (y := (⟨"com/example/kache/kache/store/ListValue", "isEmpty", "()Z"⟩ : MethodName)) (z := (⟨"com/example/kache/kache/store/ListValue", "isEmpty", "()Z"⟩ : MethodName)) (hw _ (List.mem_of_getElem? (i := 14) rfl)) (hw _ (List.mem_of_getElem? (i := 15) rfl)) (notFace_of_selects (args := #[]) (mvT hZ (hw _ (List.mem_of_getElem? (i := 17) rfl)))) (hw _ (List.mem_of_getElem? (i := 17) rfl)) (hw _ (List.mem_of_getElem? (i := 16) rfl)) (hw _ (List.mem_of_getElem? (i := 3) rfl)) (hw _ (List.mem_of_getElem? (i := 18) rfl)) (a := b8) r15_0 (by decide) (W := 0) (by decide) (by decide) N15 rfl (by rw [hml]; rfl) (argsL := []) (rest := []) (lenOf pd_8 rfl) (Nat.le_of_eq rfl) (by decide) (by decide) (rm3 l Z a0 hw [] b8 ((0 : Int32) + (1 : Int32)) T15.heap n0 O16 r15_3) rfl (hb hby at_104) ?_
      intro v17 T17 lc17 X17 N17 hQ17
      obtain ⟨rfl, e17⟩ := hQ17
      show Goes _ _ _ _ _ _ (T17.setTop (mkF m 107 #[.val (.int p1), .val (.int p2), .val (.int p3), .val (.int (p1 &&& (3 : Int32))), .val (.int ((p2 &&& (2147483647 : Int32)) % ((p1 &&& (3 : Int32)) + (1 : Int32)))), .val (.ref b8), .val (.int (if (0 : Int32) = (0 : Int32) then (1 : Int32) else (0 : Int32))), .unset, .unset] [(.int (if ((0 : Int32) + (1 : Int32)) = (0 : Int32) then (1 : Int32) else (0 : Int32)))]))
      refine own_istore X17 hx (Ls' := #[.val (.int p1), .val (.int p2), .val (.int p3), .val (.int (p1 &&& (3 : Int32))), .val (.int ((p2 &&& (2147483647 : Int32)) % ((p1 &&& (3 : Int32)) + (1 : Int32)))), .val (.ref b8), .val (.int (if (0 : Int32) = (0 : Int32) then (1 : Int32) else (0 : Int32))), .val (.int (if ((0 : Int32) + (1 : Int32)) = (0 : Int32) then (1 : Int32) else (0 : Int32))), .unset]) (hb hby at_107) rfl ?_
      refine own_iload X17 hx (hb hby at_109) rfl ?_
      refine own_iconst X17 hx (v := (1 : Int32)) (hb hby at_111) rfl ?_
      refine own_icmpYes X17 hx (pc' := 132) (hb hby at_112) (tlt ((by first | (rw [hcr]; done) | (rw [hcr]; decide)) : ((p2 &&& (2147483647 : Int32)) % ((p1 &&& (3 : Int32)) + (1 : Int32))) < (1 : Int32))).1 (by decide) (by decide) ?_
      show Goes _ _ _ _ _ _ (T17.setTop (mkF m 132 #[.val (.int p1), .val (.int p2), .val (.int p3), .val (.int (p1 &&& (3 : Int32))), .val (.int ((p2 &&& (2147483647 : Int32)) % ((p1 &&& (3 : Int32)) + (1 : Int32)))), .val (.ref b8), .val (.int (if (0 : Int32) = (0 : Int32) then (1 : Int32) else (0 : Int32))), .val (.int (if ((0 : Int32) + (1 : Int32)) = (0 : Int32) then (1 : Int32) else (0 : Int32))), .unset] []))
      refine own_iload X17 hx (hb hby at_132) rfl ?_
      refine own_iconst X17 hx (v := (2 : Int32)) (hb hby at_134) rfl ?_
      refine own_icmpYes X17 hx (pc' := 155) (hb hby at_135) (tlt ((by first | (rw [hcr]; done) | (rw [hcr]; decide)) : ((p2 &&& (2147483647 : Int32)) % ((p1 &&& (3 : Int32)) + (1 : Int32))) < (2 : Int32))).1 (by decide) (by decide) ?_
      show Goes _ _ _ _ _ _ (T17.setTop (mkF m 155 #[.val (.int p1), .val (.int p2), .val (.int p3), .val (.int (p1 &&& (3 : Int32))), .val (.int ((p2 &&& (2147483647 : Int32)) % ((p1 &&& (3 : Int32)) + (1 : Int32)))), .val (.ref b8), .val (.int (if (0 : Int32) = (0 : Int32) then (1 : Int32) else (0 : Int32))), .val (.int (if ((0 : Int32) + (1 : Int32)) = (0 : Int32) then (1 : Int32) else (0 : Int32))), .unset] []))
      refine own_iload X17 hx (hb hby at_155) rfl ?_
      refine own_iconst X17 hx (v := (3 : Int32)) (hb hby at_157) rfl ?_
      refine own_icmpYes X17 hx (pc' := 178) (hb hby at_158) (tlt ((by first | (rw [hcr]; done) | (rw [hcr]; decide)) : ((p2 &&& (2147483647 : Int32)) % ((p1 &&& (3 : Int32)) + (1 : Int32))) < (3 : Int32))).1 (by decide) (by decide) ?_
      show Goes _ _ _ _ _ _ (T17.setTop (mkF m 178 #[.val (.int p1), .val (.int p2), .val (.int p3), .val (.int (p1 &&& (3 : Int32))), .val (.int ((p2 &&& (2147483647 : Int32)) % ((p1 &&& (3 : Int32)) + (1 : Int32)))), .val (.ref b8), .val (.int (if (0 : Int32) = (0 : Int32) then (1 : Int32) else (0 : Int32))), .val (.int (if ((0 : Int32) + (1 : Int32)) = (0 : Int32) then (1 : Int32) else (0 : Int32))), .unset] []))
      refine own_aload X17 hx (hb hby at_178) rfl rfl ?_
      refine own_virtual X17 hx hZ hown (y := (⟨"com/example/kache/kache/store/ListValue", "isEmpty", "()Z"⟩ : MethodName)) (z := (⟨"com/example/kache/kache/store/ListValue", "isEmpty", "()Z"⟩ : MethodName)) (hw _ (List.mem_of_getElem? (i := 14) rfl)) (hw _ (List.mem_of_getElem? (i := 15) rfl)) (notFace_of_selects (args := #[]) (mvT hZ (hw _ (List.mem_of_getElem? (i := 17) rfl)))) (hw _ (List.mem_of_getElem? (i := 17) rfl)) (hw _ (List.mem_of_getElem? (i := 16) rfl)) (hw _ (List.mem_of_getElem? (i := 3) rfl)) (hw _ (List.mem_of_getElem? (i := 18) rfl)) (a := b8) r15_0 (by decide) (W := 0) (by decide) (by decide) N17 e17 (by rw [hml]; rfl) (argsL := []) (rest := []) (lenOf pd_8 rfl) (Nat.le_of_eq rfl) (by decide) (by decide) (rm3 l Z a0 hw [] b8 ((0 : Int32) + (1 : Int32)) T15.heap n0 O16 r15_3) rfl (hb hby at_180) ?_
      intro v18 T18 lc18 X18 N18 hQ18
      obtain ⟨rfl, e18⟩ := hQ18
      show Goes _ _ _ _ _ _ (T18.setTop (mkF m 183 #[.val (.int p1), .val (.int p2), .val (.int p3), .val (.int (p1 &&& (3 : Int32))), .val (.int ((p2 &&& (2147483647 : Int32)) % ((p1 &&& (3 : Int32)) + (1 : Int32)))), .val (.ref b8), .val (.int (if (0 : Int32) = (0 : Int32) then (1 : Int32) else (0 : Int32))), .val (.int (if ((0 : Int32) + (1 : Int32)) = (0 : Int32) then (1 : Int32) else (0 : Int32))), .unset] [(.int (if ((0 : Int32) + (1 : Int32)) = (0 : Int32) then (1 : Int32) else (0 : Int32)))]))
      refine own_istore X18 hx (Ls' := #[.val (.int p1), .val (.int p2), .val (.int p3), .val (.int (p1 &&& (3 : Int32))), .val (.int ((p2 &&& (2147483647 : Int32)) % ((p1 &&& (3 : Int32)) + (1 : Int32)))), .val (.ref b8), .val (.int (if (0 : Int32) = (0 : Int32) then (1 : Int32) else (0 : Int32))), .val (.int (if ((0 : Int32) + (1 : Int32)) = (0 : Int32) then (1 : Int32) else (0 : Int32))), .val (.int (if ((0 : Int32) + (1 : Int32)) = (0 : Int32) then (1 : Int32) else (0 : Int32)))]) (hb hby at_183) rfl ?_
      refine own_iload X18 hx (hb hby at_185) rfl ?_
      refine own_ifNo X18 hx (hb hby at_187) ((if0 _ _).trans (feq ((own_bnz (not_not_intro (by decide))) : ¬ ((if (0 : Int32) = (0 : Int32) then (1 : Int32) else (0 : Int32)) = (0 : Int32)))).1) ?_
      show Goes _ _ _ _ _ _ (T18.setTop (mkF m 190 #[.val (.int p1), .val (.int p2), .val (.int p3), .val (.int (p1 &&& (3 : Int32))), .val (.int ((p2 &&& (2147483647 : Int32)) % ((p1 &&& (3 : Int32)) + (1 : Int32)))), .val (.ref b8), .val (.int (if (0 : Int32) = (0 : Int32) then (1 : Int32) else (0 : Int32))), .val (.int (if ((0 : Int32) + (1 : Int32)) = (0 : Int32) then (1 : Int32) else (0 : Int32))), .val (.int (if ((0 : Int32) + (1 : Int32)) = (0 : Int32) then (1 : Int32) else (0 : Int32)))] []))
      refine own_iload X18 hx (hb hby at_190) rfl ?_
      refine own_iloadN X18 hx (hb hby at_192) rfl ?_
      refine own_ifYes X18 hx (pc' := 200) (hb hby at_193) ((if0 _ _).trans (feq ((by first | (rw [hca]; done) | (rw [hca]; decide)) : ¬ ((p1 &&& (3 : Int32)) = (0 : Int32)))).2) (by decide) (by decide) ?_
      show Goes _ _ _ _ _ _ (T18.setTop (mkF m 200 #[.val (.int p1), .val (.int p2), .val (.int p3), .val (.int (p1 &&& (3 : Int32))), .val (.int ((p2 &&& (2147483647 : Int32)) % ((p1 &&& (3 : Int32)) + (1 : Int32)))), .val (.ref b8), .val (.int (if (0 : Int32) = (0 : Int32) then (1 : Int32) else (0 : Int32))), .val (.int (if ((0 : Int32) + (1 : Int32)) = (0 : Int32) then (1 : Int32) else (0 : Int32))), .val (.int (if ((0 : Int32) + (1 : Int32)) = (0 : Int32) then (1 : Int32) else (0 : Int32)))] [(.int (if ((0 : Int32) + (1 : Int32)) = (0 : Int32) then (1 : Int32) else (0 : Int32)))]))
      refine own_iconst X18 hx (v := (0 : Int32)) (hb hby at_200) rfl ?_
      refine own_icmpNo X18 hx (hb hby at_201) (teq ((by first | (rw [if_neg (show ¬ (((0 : Int32) + (1 : Int32)) = (0 : Int32)) by decide)]; done) | (rw [if_neg (show ¬ (((0 : Int32) + (1 : Int32)) = (0 : Int32)) by decide)]; decide)) : (if ((0 : Int32) + (1 : Int32)) = (0 : Int32) then (1 : Int32) else (0 : Int32)) = (0 : Int32))).2 ?_
      show Goes _ _ _ _ _ _ (T18.setTop (mkF m 204 #[.val (.int p1), .val (.int p2), .val (.int p3), .val (.int (p1 &&& (3 : Int32))), .val (.int ((p2 &&& (2147483647 : Int32)) % ((p1 &&& (3 : Int32)) + (1 : Int32)))), .val (.ref b8), .val (.int (if (0 : Int32) = (0 : Int32) then (1 : Int32) else (0 : Int32))), .val (.int (if ((0 : Int32) + (1 : Int32)) = (0 : Int32) then (1 : Int32) else (0 : Int32))), .val (.int (if ((0 : Int32) + (1 : Int32)) = (0 : Int32) then (1 : Int32) else (0 : Int32)))] []))
      refine own_iload X18 hx (hb hby at_204) rfl ?_
      refine own_iloadN X18 hx (hb hby at_206) rfl ?_
      refine own_iload X18 hx (hb hby at_207) rfl ?_
      refine own_icmpYes X18 hx (pc' := 216) (hb hby at_209) (feq ((by first | (rw [hca, hcr]; done) | (rw [hca, hcr]; decide) | (rw [hcr, hca]; done) | (rw [hcr, hca]; decide)) : ¬ ((p1 &&& (3 : Int32)) = ((p2 &&& (2147483647 : Int32)) % ((p1 &&& (3 : Int32)) + (1 : Int32)))))).2 (by decide) (by decide) ?_
      show Goes _ _ _ _ _ _ (T18.setTop (mkF m 216 #[.val (.int p1), .val (.int p2), .val (.int p3), .val (.int (p1 &&& (3 : Int32))), .val (.int ((p2 &&& (2147483647 : Int32)) % ((p1 &&& (3 : Int32)) + (1 : Int32)))), .val (.ref b8), .val (.int (if (0 : Int32) = (0 : Int32) then (1 : Int32) else (0 : Int32))), .val (.int (if ((0 : Int32) + (1 : Int32)) = (0 : Int32) then (1 : Int32) else (0 : Int32))), .val (.int (if ((0 : Int32) + (1 : Int32)) = (0 : Int32) then (1 : Int32) else (0 : Int32)))] [(.int (if ((0 : Int32) + (1 : Int32)) = (0 : Int32) then (1 : Int32) else (0 : Int32)))]))
      refine own_iconst X18 hx (v := (0 : Int32)) (hb hby at_216) rfl ?_
      refine own_icmpNo X18 hx (hb hby at_217) (teq ((by first | (rw [if_neg (show ¬ (((0 : Int32) + (1 : Int32)) = (0 : Int32)) by decide)]; done) | (rw [if_neg (show ¬ (((0 : Int32) + (1 : Int32)) = (0 : Int32)) by decide)]; decide)) : (if ((0 : Int32) + (1 : Int32)) = (0 : Int32) then (1 : Int32) else (0 : Int32)) = (0 : Int32))).2 ?_
      show Goes _ _ _ _ _ _ (T18.setTop (mkF m 220 #[.val (.int p1), .val (.int p2), .val (.int p3), .val (.int (p1 &&& (3 : Int32))), .val (.int ((p2 &&& (2147483647 : Int32)) % ((p1 &&& (3 : Int32)) + (1 : Int32)))), .val (.ref b8), .val (.int (if (0 : Int32) = (0 : Int32) then (1 : Int32) else (0 : Int32))), .val (.int (if ((0 : Int32) + (1 : Int32)) = (0 : Int32) then (1 : Int32) else (0 : Int32))), .val (.int (if ((0 : Int32) + (1 : Int32)) = (0 : Int32) then (1 : Int32) else (0 : Int32)))] []))
      refine own_iconst X18 hx (v := (1 : Int32)) (hb hby at_220) rfl ?_
      refine own_goto X18 hx (pc' := 225) (hb hby at_221) (by decide) (by decide) ?_
      show Goes _ _ _ _ _ _ (T18.setTop (mkF m 225 #[.val (.int p1), .val (.int p2), .val (.int p3), .val (.int (p1 &&& (3 : Int32))), .val (.int ((p2 &&& (2147483647 : Int32)) % ((p1 &&& (3 : Int32)) + (1 : Int32)))), .val (.ref b8), .val (.int (if (0 : Int32) = (0 : Int32) then (1 : Int32) else (0 : Int32))), .val (.int (if ((0 : Int32) + (1 : Int32)) = (0 : Int32) then (1 : Int32) else (0 : Int32))), .val (.int (if ((0 : Int32) + (1 : Int32)) = (0 : Int32) then (1 : Int32) else (0 : Int32)))] [(.int (1 : Int32))]))
      exact own_retNW X18 hx (t := .boolean) hS15 (by rw [e18]; exact hk15_) N18 hlk (by decide) (by decide) hret (by simp) (hb hby at_225) (by rw [e18]; exact rfl)
    by_cases hc40_13 : (p3 &&& (1 : Int32)) = (0 : Int32)
    ·
      refine own_ifYes X12 hx (pc' := 47) (hb hby at_40) ((if0 _ _).trans (teq (hc40_13 : (p3 &&& (1 : Int32)) = (0 : Int32))).1) (by decide) (by decide) ?_
      show Goes _ _ _ _ _ _ (T12.setTop (mkF m 47 #[.val (.int p1), .val (.int p2), .val (.int p3), .val (.int (p1 &&& (3 : Int32))), .val (.int ((p2 &&& (2147483647 : Int32)) % ((p1 &&& (3 : Int32)) + (1 : Int32)))), .val (.ref b8), .val (.int (if (0 : Int32) = (0 : Int32) then (1 : Int32) else (0 : Int32))), .unset, .unset] [(.ref b8)]))
      refine own_iconst X12 hx (v := (0 : Int32)) (hb hby at_47) rfl ?_
      show Goes _ _ _ _ _ _ (T12.setTop (mkF m 48 #[.val (.int p1), .val (.int p2), .val (.int p3), .val (.int (p1 &&& (3 : Int32))), .val (.int ((p2 &&& (2147483647 : Int32)) % ((p1 &&& (3 : Int32)) + (1 : Int32)))), .val (.ref b8), .val (.int (if (0 : Int32) = (0 : Int32) then (1 : Int32) else (0 : Int32))), .unset, .unset] [(.int (0 : Int32)), (.ref b8)]))
      exact jn48_14 T12 _ X12 N12 e12 (0 : Int32) trivial
    ·
      refine own_ifNo X12 hx (hb hby at_40) ((if0 _ _).trans (feq (hc40_13 : ¬ ((p3 &&& (1 : Int32)) = (0 : Int32)))).1) ?_
      show Goes _ _ _ _ _ _ (T12.setTop (mkF m 43 #[.val (.int p1), .val (.int p2), .val (.int p3), .val (.int (p1 &&& (3 : Int32))), .val (.int ((p2 &&& (2147483647 : Int32)) % ((p1 &&& (3 : Int32)) + (1 : Int32)))), .val (.ref b8), .val (.int (if (0 : Int32) = (0 : Int32) then (1 : Int32) else (0 : Int32))), .unset, .unset] [(.ref b8)]))
      refine own_iconst X12 hx (v := (1 : Int32)) (hb hby at_43) rfl ?_
      refine own_goto X12 hx (pc' := 48) (hb hby at_44) (by decide) (by decide) ?_
      show Goes _ _ _ _ _ _ (T12.setTop (mkF m 48 #[.val (.int p1), .val (.int p2), .val (.int p3), .val (.int (p1 &&& (3 : Int32))), .val (.int ((p2 &&& (2147483647 : Int32)) % ((p1 &&& (3 : Int32)) + (1 : Int32)))), .val (.ref b8), .val (.int (if (0 : Int32) = (0 : Int32) then (1 : Int32) else (0 : Int32))), .unset, .unset] [(.int (1 : Int32)), (.ref b8)]))
      exact jn48_14 T12 _ X12 N12 e12 (1 : Int32) trivial
  ·
    show Goes _ _ _ _ _ _ (T0.setTop (mkF m 14 #[.val (.int p1), .val (.int p2), .val (.int p3), .val (.int (p1 &&& (3 : Int32))), .val (.int ((p2 &&& (2147483647 : Int32)) % ((p1 &&& (3 : Int32)) + (1 : Int32)))), .unset, .unset, .unset, .unset] []))
    refine own_new X0 hx hZ hown (hw _ (List.mem_of_getElem? (i := 1) rfl)) (hw _ (List.mem_of_getElem? (i := 2) rfl)) (hw _ (List.mem_of_getElem? (i := 3) rfl)) e0 (hb hby at_14) (by decide) (by decide) (fun T19 h19 b19 g19 X19 e19 E19 A19 D19 => ?_)
    have ge_b19 : n0 ≤ b19 := Nat.le_trans (own_sz O0) (Nat.le_of_eq g19.symm)
    have O20 := O0.ext E19
    have F19_ring_b19 : Fld Z h19 b19 "com/example/kache/kache/store/ListValue" "ring" "[[B" .null := D19 (Or.inl (hw _ (List.mem_of_getElem? (i := 13) rfl))) (ty := (.array (.array .byte))) (by decide)
    have F19_size_b19 : Fld Z h19 b19 "com/example/kache/kache/store/ListValue" "size" "I" (.int (0 : Int32)) := D19 (Or.inl (hw _ (List.mem_of_getElem? (i := 20) rfl))) (ty := .int) (by decide)
    have F19_head_b19 : Fld Z h19 b19 "com/example/kache/kache/store/ListValue" "head" "I" (.int (0 : Int32)) := D19 (Or.inl (hw _ (List.mem_of_getElem? (i := 47) rfl))) (ty := .int) (by decide)
    show Goes _ _ _ _ _ _ (T19.setTop (mkF m 17 #[.val (.int p1), .val (.int p2), .val (.int p3), .val (.int (p1 &&& (3 : Int32))), .val (.int ((p2 &&& (2147483647 : Int32)) % ((p1 &&& (3 : Int32)) + (1 : Int32)))), .unset, .unset, .unset, .unset] [(.ref b19)]))
    refine own_dup X19 hx (hb hby at_17) rfl ?_
    refine own_special X19 hx hZ hown (y := (⟨"com/example/kache/kache/store/ListValue", "<init>", "()V"⟩ : MethodName)) rfl (hw _ (List.mem_of_getElem? (i := 4) rfl)) (hw _ (List.mem_of_getElem? (i := 5) rfl)) (hw _ (List.mem_of_getElem? (i := 3) rfl)) (hw _ (List.mem_of_getElem? (i := 6) rfl)) (a := b19) (by decide) (W := 1) (by decide) (by decide) N0 e19 (by rw [hml]; rfl) (argsL := []) (rest := [(.ref b19)]) (lenOf pd_4 rfl) (Nat.le_of_eq rfl) (by decide) (by decide) (rm1 l Z a0 hw [] b19 (.null) h19 n0 O20 A19 F19_ring_b19 F19_head_b19 F19_size_b19 ge_b19) rfl (hb hby at_18) ?_
    intro v21 T21 lc21 X21 N21 hQ21
    obtain ⟨r_21, k_21, rfl, K21, r21_0, r21_1, r21_2, r21_3, r21_4, r21_5, r21_6⟩ := hQ21
    have O22 := O20.keep K21 (allS ge_b19 all0)
    have ge_r_21 : n0 ≤ r_21 := Nat.le_trans (own_sz O20) r21_5
    show Goes _ _ _ _ _ _ (T21.setTop (mkF m 21 #[.val (.int p1), .val (.int p2), .val (.int p3), .val (.int (p1 &&& (3 : Int32))), .val (.int ((p2 &&& (2147483647 : Int32)) % ((p1 &&& (3 : Int32)) + (1 : Int32)))), .unset, .unset, .unset, .unset] [(.ref b19)]))
    refine own_astore X21 hx (Ls' := #[.val (.int p1), .val (.int p2), .val (.int p3), .val (.int (p1 &&& (3 : Int32))), .val (.int ((p2 &&& (2147483647 : Int32)) % ((p1 &&& (3 : Int32)) + (1 : Int32)))), .val (.ref b19), .unset, .unset, .unset]) (hb hby at_21) rfl rfl ?_
    refine own_aload X21 hx (hb hby at_23) rfl rfl ?_
    refine own_virtual X21 hx hZ hown (y := (⟨"com/example/kache/kache/store/ListValue", "isEmpty", "()Z"⟩ : MethodName)) (z := (⟨"com/example/kache/kache/store/ListValue", "isEmpty", "()Z"⟩ : MethodName)) (hw _ (List.mem_of_getElem? (i := 14) rfl)) (hw _ (List.mem_of_getElem? (i := 15) rfl)) (notFace_of_selects (args := #[]) (mvT hZ (hw _ (List.mem_of_getElem? (i := 17) rfl)))) (hw _ (List.mem_of_getElem? (i := 17) rfl)) (hw _ (List.mem_of_getElem? (i := 16) rfl)) (hw _ (List.mem_of_getElem? (i := 3) rfl)) (hw _ (List.mem_of_getElem? (i := 18) rfl)) (a := b19) r21_0 (by decide) (W := 0) (by decide) (by decide) N21 rfl (by rw [hml]; rfl) (argsL := []) (rest := []) (lenOf pd_8 rfl) (Nat.le_of_eq rfl) (by decide) (by decide) (rm3 l Z a0 hw [] b19 (0 : Int32) T21.heap n0 O22 r21_3) rfl (hb hby at_25) ?_
    intro v23 T23 lc23 X23 N23 hQ23
    obtain ⟨rfl, e23⟩ := hQ23
    show Goes _ _ _ _ _ _ (T23.setTop (mkF m 28 #[.val (.int p1), .val (.int p2), .val (.int p3), .val (.int (p1 &&& (3 : Int32))), .val (.int ((p2 &&& (2147483647 : Int32)) % ((p1 &&& (3 : Int32)) + (1 : Int32)))), .val (.ref b19), .unset, .unset, .unset] [(.int (if (0 : Int32) = (0 : Int32) then (1 : Int32) else (0 : Int32)))]))
    refine own_istore X23 hx (Ls' := #[.val (.int p1), .val (.int p2), .val (.int p3), .val (.int (p1 &&& (3 : Int32))), .val (.int ((p2 &&& (2147483647 : Int32)) % ((p1 &&& (3 : Int32)) + (1 : Int32)))), .val (.ref b19), .val (.int (if (0 : Int32) = (0 : Int32) then (1 : Int32) else (0 : Int32))), .unset, .unset]) (hb hby at_28) rfl ?_
    refine own_iloadN X23 hx (hb hby at_30) rfl ?_
    refine own_iconst X23 hx (v := (1 : Int32)) (hb hby at_31) rfl ?_
    refine own_icmpNo X23 hx (hb hby at_32) (flt ((by first | (rw [hca]; done) | (rw [hca]; decide)) : ¬ ((p1 &&& (3 : Int32)) < (1 : Int32)))).1 ?_
    show Goes _ _ _ _ _ _ (T23.setTop (mkF m 35 #[.val (.int p1), .val (.int p2), .val (.int p3), .val (.int (p1 &&& (3 : Int32))), .val (.int ((p2 &&& (2147483647 : Int32)) % ((p1 &&& (3 : Int32)) + (1 : Int32)))), .val (.ref b19), .val (.int (if (0 : Int32) = (0 : Int32) then (1 : Int32) else (0 : Int32))), .unset, .unset] []))
    refine own_aload X23 hx (hb hby at_35) rfl rfl ?_
    refine own_iloadN X23 hx (hb hby at_37) rfl ?_
    refine own_iconst X23 hx (v := (1 : Int32)) (hb hby at_38) rfl ?_
    refine own_iand X23 hx (hb hby at_39) ?_
    show Goes _ _ _ _ _ _ (T23.setTop (mkF m 40 #[.val (.int p1), .val (.int p2), .val (.int p3), .val (.int (p1 &&& (3 : Int32))), .val (.int ((p2 &&& (2147483647 : Int32)) % ((p1 &&& (3 : Int32)) + (1 : Int32)))), .val (.ref b19), .val (.int (if (0 : Int32) = (0 : Int32) then (1 : Int32) else (0 : Int32))), .unset, .unset] [(.int (p3 &&& (1 : Int32))), (.ref b19)]))
    have jn48_25 : ∀ (T25 : State) (lc25 : List Loc) (X25 : Stand p l e room_1 (s.setVm s.vm) m #[(.int p1), (.int p2), (.int p3)] below meth c T25 lc25 2 11) (N25 : Fr n0 lc25) (e25 : T25.heap = T21.heap) (w25 : Int32) (hj25 : True), Goes p e below (fun o t L => ReturnedEndW s o t L (24) (1152)) n0 (Q0 Z p1 p2 p3 h0 n0) (T25.setTop (mkF m 48 #[.val (.int p1), .val (.int p2), .val (.int p3), .val (.int (p1 &&& (3 : Int32))), .val (.int ((p2 &&& (2147483647 : Int32)) % ((p1 &&& (3 : Int32)) + (1 : Int32)))), .val (.ref b19), .val (.int (if (0 : Int32) = (0 : Int32) then (1 : Int32) else (0 : Int32))), .unset, .unset] [(.int w25), (.ref b19)])) := by
      intro T25 lc25 X25 N25 e25 w25 hj25
      show Goes _ _ _ _ _ _ (T25.setTop (mkF m 48 #[.val (.int p1), .val (.int p2), .val (.int p3), .val (.int (p1 &&& (3 : Int32))), .val (.int ((p2 &&& (2147483647 : Int32)) % ((p1 &&& (3 : Int32)) + (1 : Int32)))), .val (.ref b19), .val (.int (if (0 : Int32) = (0 : Int32) then (1 : Int32) else (0 : Int32))), .unset, .unset] [(.int w25), (.ref b19)]))
      refine own_iloadN X25 hx (hb hby at_48) rfl ?_
      refine own_callSW X25 hx hZ hown hS0 (Nat.zero_le _) (y := (⟨"com/example/kache/kache/store/ListValueIsEmptyPinLaw", "addOne", "(Lcom/example/kache/kache/store/ListValue;ZI)V"⟩ : MethodName)) (hw _ (List.mem_of_getElem? (i := 21) rfl)) (hw _ (List.mem_of_getElem? (i := 22) rfl)) (hw _ (List.mem_of_getElem? (i := 23) rfl)) (hw _ (List.mem_of_getElem? (i := 24) rfl)) (by decide) (W := 0) (by decide) (by decide) N25 e25 (by rw [hml]; rfl) (argsL := [(.ref b19), (.int w25), (.int p3)]) (rest := []) (lenOf pd_9 rfl) (Nat.le_of_eq rfl) (by decide) (by decide) (rm4 l Z a0 hw [] b19 w25 p3 r_21 (0 : Int32) (0 : Int32) k_21 [.null, .null, .null, .null, .null, .null, .null, .null] T21.heap n0 O22 r21_0 r21_1 r21_2 r21_3 r21_4 (by first | assumption | decide | exact ⟨rfl, rfl⟩) ge_b19 ge_r_21 (by first | assumption | decide | exact ⟨rfl, rfl⟩) r21_6 (by first | assumption | decide | exact ⟨rfl, rfl⟩)) rfl (hb hby at_49) ?_
      intro v26 T26 lc26 k1_26 X26 hS26 hk26_ hZ hown N26 hQ26
      obtain ⟨hd2_26, vs2_26, rfl, K26, r26_0, r26_1, r26_2, r26_3, r26_4, r26_5, r26_6⟩ := hQ26
      have O27 := O22.keep K26 (allS ge_b19 (allS ge_r_21 all0))
      show Goes _ _ _ _ _ _ (T26.setTop (mkF m 52 #[.val (.int p1), .val (.int p2), .val (.int p3), .val (.int (p1 &&& (3 : Int32))), .val (.int ((p2 &&& (2147483647 : Int32)) % ((p1 &&& (3 : Int32)) + (1 : Int32)))), .val (.ref b19), .val (.int (if (0 : Int32) = (0 : Int32) then (1 : Int32) else (0 : Int32))), .unset, .unset] []))
      refine own_iloadN X26 hx (hb hby at_52) rfl ?_
      refine own_iconst X26 hx (v := (2 : Int32)) (hb hby at_53) rfl ?_
      refine own_icmpYes X26 hx (pc' := 77) (hb hby at_54) (tlt ((by first | (rw [hca]; done) | (rw [hca]; decide)) : (p1 &&& (3 : Int32)) < (2 : Int32))).1 (by decide) (by decide) ?_
      show Goes _ _ _ _ _ _ (T26.setTop (mkF m 77 #[.val (.int p1), .val (.int p2), .val (.int p3), .val (.int (p1 &&& (3 : Int32))), .val (.int ((p2 &&& (2147483647 : Int32)) % ((p1 &&& (3 : Int32)) + (1 : Int32)))), .val (.ref b19), .val (.int (if (0 : Int32) = (0 : Int32) then (1 : Int32) else (0 : Int32))), .unset, .unset] []))
      refine own_iloadN X26 hx (hb hby at_77) rfl ?_
      refine own_iconst X26 hx (v := (3 : Int32)) (hb hby at_78) rfl ?_
      refine own_icmpYes X26 hx (pc' := 102) (hb hby at_79) (tlt ((by first | (rw [hca]; done) | (rw [hca]; decide)) : (p1 &&& (3 : Int32)) < (3 : Int32))).1 (by decide) (by decide) ?_
      show Goes _ _ _ _ _ _ (T26.setTop (mkF m 102 #[.val (.int p1), .val (.int p2), .val (.int p3), .val (.int (p1 &&& (3 : Int32))), .val (.int ((p2 &&& (2147483647 : Int32)) % ((p1 &&& (3 : Int32)) + (1 : Int32)))), .val (.ref b19), .val (.int (if (0 : Int32) = (0 : Int32) then (1 : Int32) else (0 : Int32))), .unset, .unset] []))
      refine own_aload X26 hx (hb hby at_102) rfl rfl ?_
      refine own_virtual X26 hx hZ hown (y := (⟨"com/example/kache/kache/store/ListValue", "isEmpty", "()Z"⟩ : MethodName)) (z := (⟨"com/example/kache/kache/store/ListValue", "isEmpty", "()Z"⟩ : MethodName)) (hw _ (List.mem_of_getElem? (i := 14) rfl)) (hw _ (List.mem_of_getElem? (i := 15) rfl)) (notFace_of_selects (args := #[]) (mvT hZ (hw _ (List.mem_of_getElem? (i := 17) rfl)))) (hw _ (List.mem_of_getElem? (i := 17) rfl)) (hw _ (List.mem_of_getElem? (i := 16) rfl)) (hw _ (List.mem_of_getElem? (i := 3) rfl)) (hw _ (List.mem_of_getElem? (i := 18) rfl)) (a := b19) r26_0 (by decide) (W := 0) (by decide) (by decide) N26 rfl (by rw [hml]; rfl) (argsL := []) (rest := []) (lenOf pd_8 rfl) (Nat.le_of_eq rfl) (by decide) (by decide) (rm3 l Z a0 hw [] b19 ((0 : Int32) + (1 : Int32)) T26.heap n0 O27 r26_3) rfl (hb hby at_104) ?_
      intro v28 T28 lc28 X28 N28 hQ28
      obtain ⟨rfl, e28⟩ := hQ28
      show Goes _ _ _ _ _ _ (T28.setTop (mkF m 107 #[.val (.int p1), .val (.int p2), .val (.int p3), .val (.int (p1 &&& (3 : Int32))), .val (.int ((p2 &&& (2147483647 : Int32)) % ((p1 &&& (3 : Int32)) + (1 : Int32)))), .val (.ref b19), .val (.int (if (0 : Int32) = (0 : Int32) then (1 : Int32) else (0 : Int32))), .unset, .unset] [(.int (if ((0 : Int32) + (1 : Int32)) = (0 : Int32) then (1 : Int32) else (0 : Int32)))]))
      refine own_istore X28 hx (Ls' := #[.val (.int p1), .val (.int p2), .val (.int p3), .val (.int (p1 &&& (3 : Int32))), .val (.int ((p2 &&& (2147483647 : Int32)) % ((p1 &&& (3 : Int32)) + (1 : Int32)))), .val (.ref b19), .val (.int (if (0 : Int32) = (0 : Int32) then (1 : Int32) else (0 : Int32))), .val (.int (if ((0 : Int32) + (1 : Int32)) = (0 : Int32) then (1 : Int32) else (0 : Int32))), .unset]) (hb hby at_107) rfl ?_
      refine own_iload X28 hx (hb hby at_109) rfl ?_
      refine own_iconst X28 hx (v := (1 : Int32)) (hb hby at_111) rfl ?_
      refine own_icmpNo X28 hx (hb hby at_112) (flt ((by first | (rw [hcr]; done) | (rw [hcr]; decide)) : ¬ (((p2 &&& (2147483647 : Int32)) % ((p1 &&& (3 : Int32)) + (1 : Int32))) < (1 : Int32)))).1 ?_
      show Goes _ _ _ _ _ _ (T28.setTop (mkF m 115 #[.val (.int p1), .val (.int p2), .val (.int p3), .val (.int (p1 &&& (3 : Int32))), .val (.int ((p2 &&& (2147483647 : Int32)) % ((p1 &&& (3 : Int32)) + (1 : Int32)))), .val (.ref b19), .val (.int (if (0 : Int32) = (0 : Int32) then (1 : Int32) else (0 : Int32))), .val (.int (if ((0 : Int32) + (1 : Int32)) = (0 : Int32) then (1 : Int32) else (0 : Int32))), .unset] []))
      refine own_aload X28 hx (hb hby at_115) rfl rfl ?_
      refine own_iloadN X28 hx (hb hby at_117) rfl ?_
      refine own_bipush X28 hx (v := (8 : Int32)) (hb hby at_118) rfl ?_
      refine own_iand X28 hx (hb hby at_120) ?_
      show Goes _ _ _ _ _ _ (T28.setTop (mkF m 121 #[.val (.int p1), .val (.int p2), .val (.int p3), .val (.int (p1 &&& (3 : Int32))), .val (.int ((p2 &&& (2147483647 : Int32)) % ((p1 &&& (3 : Int32)) + (1 : Int32)))), .val (.ref b19), .val (.int (if (0 : Int32) = (0 : Int32) then (1 : Int32) else (0 : Int32))), .val (.int (if ((0 : Int32) + (1 : Int32)) = (0 : Int32) then (1 : Int32) else (0 : Int32))), .unset] [(.int (p3 &&& (8 : Int32))), (.ref b19)]))
      have jn129_30 : ∀ (T30 : State) (lc30 : List Loc) (X30 : Stand p l e room_1 (s.setVm T26.vm) m #[(.int p1), (.int p2), (.int p3)] below meth c T30 lc30 5 44) (N30 : Fr n0 lc30) (e30 : T30.heap = T26.heap) (w30 : Int32) (hj30 : True), Goes p e below (fun o t L => ReturnedEndW s o t L (24) (1152)) n0 (Q0 Z p1 p2 p3 h0 n0) (T30.setTop (mkF m 129 #[.val (.int p1), .val (.int p2), .val (.int p3), .val (.int (p1 &&& (3 : Int32))), .val (.int ((p2 &&& (2147483647 : Int32)) % ((p1 &&& (3 : Int32)) + (1 : Int32)))), .val (.ref b19), .val (.int (if (0 : Int32) = (0 : Int32) then (1 : Int32) else (0 : Int32))), .val (.int (if ((0 : Int32) + (1 : Int32)) = (0 : Int32) then (1 : Int32) else (0 : Int32))), .unset] [(.int w30), (.ref b19)])) := by
        intro T30 lc30 X30 N30 e30 w30 hj30
        show Goes _ _ _ _ _ _ (T30.setTop (mkF m 129 #[.val (.int p1), .val (.int p2), .val (.int p3), .val (.int (p1 &&& (3 : Int32))), .val (.int ((p2 &&& (2147483647 : Int32)) % ((p1 &&& (3 : Int32)) + (1 : Int32)))), .val (.ref b19), .val (.int (if (0 : Int32) = (0 : Int32) then (1 : Int32) else (0 : Int32))), .val (.int (if ((0 : Int32) + (1 : Int32)) = (0 : Int32) then (1 : Int32) else (0 : Int32))), .unset] [(.int w30), (.ref b19)]))
        refine own_callS X30 hx hZ hown (y := (⟨"com/example/kache/kache/store/ListValueIsEmptyPinLaw", "removeOne", "(Lcom/example/kache/kache/store/ListValue;Z)V"⟩ : MethodName)) (hw _ (List.mem_of_getElem? (i := 58) rfl)) (hw _ (List.mem_of_getElem? (i := 59) rfl)) (hw _ (List.mem_of_getElem? (i := 23) rfl)) (hw _ (List.mem_of_getElem? (i := 60) rfl)) (by decide) (W := 0) (by decide) (by decide) N30 e30 (by rw [hml]; rfl) (argsL := [(.ref b19), (.int w30)]) (rest := []) (lenOf pd_10 rfl) (Nat.le_of_eq rfl) (by decide) (by decide) (rm10 l Z a0 hw [] b19 w30 r_21 hd2_26 ((0 : Int32) + (1 : Int32)) k_21 vs2_26 T26.heap n0 O27 r26_0 r26_1 r26_2 r26_3 r26_4 r26_5 ge_b19 ge_r_21 r26_6 r21_6 (by first | assumption | decide | exact ⟨rfl, rfl⟩)) rfl (hb hby at_129) ?_
        intro v31 T31 lc31 X31 N31 hQ31
        obtain ⟨hd2_31, vs2_31, rfl, K31, r31_0, r31_1, r31_2, r31_3, r31_4, r31_5, r31_6⟩ := hQ31
        have O32 := O27.keep K31 (allS ge_b19 (allS ge_r_21 all0))
        have hk32 := Nat.le_trans hk26_ K31.1
        show Goes _ _ _ _ _ _ (T31.setTop (mkF m 132 #[.val (.int p1), .val (.int p2), .val (.int p3), .val (.int (p1 &&& (3 : Int32))), .val (.int ((p2 &&& (2147483647 : Int32)) % ((p1 &&& (3 : Int32)) + (1 : Int32)))), .val (.ref b19), .val (.int (if (0 : Int32) = (0 : Int32) then (1 : Int32) else (0 : Int32))), .val (.int (if ((0 : Int32) + (1 : Int32)) = (0 : Int32) then (1 : Int32) else (0 : Int32))), .unset] []))
        refine own_iload X31 hx (hb hby at_132) rfl ?_
        refine own_iconst X31 hx (v := (2 : Int32)) (hb hby at_134) rfl ?_
        refine own_icmpYes X31 hx (pc' := 155) (hb hby at_135) (tlt ((by first | (rw [hcr]; done) | (rw [hcr]; decide)) : ((p2 &&& (2147483647 : Int32)) % ((p1 &&& (3 : Int32)) + (1 : Int32))) < (2 : Int32))).1 (by decide) (by decide) ?_
        show Goes _ _ _ _ _ _ (T31.setTop (mkF m 155 #[.val (.int p1), .val (.int p2), .val (.int p3), .val (.int (p1 &&& (3 : Int32))), .val (.int ((p2 &&& (2147483647 : Int32)) % ((p1 &&& (3 : Int32)) + (1 : Int32)))), .val (.ref b19), .val (.int (if (0 : Int32) = (0 : Int32) then (1 : Int32) else (0 : Int32))), .val (.int (if ((0 : Int32) + (1 : Int32)) = (0 : Int32) then (1 : Int32) else (0 : Int32))), .unset] []))
        refine own_iload X31 hx (hb hby at_155) rfl ?_
        refine own_iconst X31 hx (v := (3 : Int32)) (hb hby at_157) rfl ?_
        refine own_icmpYes X31 hx (pc' := 178) (hb hby at_158) (tlt ((by first | (rw [hcr]; done) | (rw [hcr]; decide)) : ((p2 &&& (2147483647 : Int32)) % ((p1 &&& (3 : Int32)) + (1 : Int32))) < (3 : Int32))).1 (by decide) (by decide) ?_
        show Goes _ _ _ _ _ _ (T31.setTop (mkF m 178 #[.val (.int p1), .val (.int p2), .val (.int p3), .val (.int (p1 &&& (3 : Int32))), .val (.int ((p2 &&& (2147483647 : Int32)) % ((p1 &&& (3 : Int32)) + (1 : Int32)))), .val (.ref b19), .val (.int (if (0 : Int32) = (0 : Int32) then (1 : Int32) else (0 : Int32))), .val (.int (if ((0 : Int32) + (1 : Int32)) = (0 : Int32) then (1 : Int32) else (0 : Int32))), .unset] []))
        refine own_aload X31 hx (hb hby at_178) rfl rfl ?_
        refine own_virtual X31 hx hZ hown (y := (⟨"com/example/kache/kache/store/ListValue", "isEmpty", "()Z"⟩ : MethodName)) (z := (⟨"com/example/kache/kache/store/ListValue", "isEmpty", "()Z"⟩ : MethodName)) (hw _ (List.mem_of_getElem? (i := 14) rfl)) (hw _ (List.mem_of_getElem? (i := 15) rfl)) (notFace_of_selects (args := #[]) (mvT hZ (hw _ (List.mem_of_getElem? (i := 17) rfl)))) (hw _ (List.mem_of_getElem? (i := 17) rfl)) (hw _ (List.mem_of_getElem? (i := 16) rfl)) (hw _ (List.mem_of_getElem? (i := 3) rfl)) (hw _ (List.mem_of_getElem? (i := 18) rfl)) (a := b19) r31_0 (by decide) (W := 0) (by decide) (by decide) N31 rfl (by rw [hml]; rfl) (argsL := []) (rest := []) (lenOf pd_8 rfl) (Nat.le_of_eq rfl) (by decide) (by decide) (rm3 l Z a0 hw [] b19 (((0 : Int32) + (1 : Int32)) - (1 : Int32)) T31.heap n0 O32 r31_3) rfl (hb hby at_180) ?_
        intro v33 T33 lc33 X33 N33 hQ33
        obtain ⟨rfl, e33⟩ := hQ33
        show Goes _ _ _ _ _ _ (T33.setTop (mkF m 183 #[.val (.int p1), .val (.int p2), .val (.int p3), .val (.int (p1 &&& (3 : Int32))), .val (.int ((p2 &&& (2147483647 : Int32)) % ((p1 &&& (3 : Int32)) + (1 : Int32)))), .val (.ref b19), .val (.int (if (0 : Int32) = (0 : Int32) then (1 : Int32) else (0 : Int32))), .val (.int (if ((0 : Int32) + (1 : Int32)) = (0 : Int32) then (1 : Int32) else (0 : Int32))), .unset] [(.int (if (((0 : Int32) + (1 : Int32)) - (1 : Int32)) = (0 : Int32) then (1 : Int32) else (0 : Int32)))]))
        refine own_istore X33 hx (Ls' := #[.val (.int p1), .val (.int p2), .val (.int p3), .val (.int (p1 &&& (3 : Int32))), .val (.int ((p2 &&& (2147483647 : Int32)) % ((p1 &&& (3 : Int32)) + (1 : Int32)))), .val (.ref b19), .val (.int (if (0 : Int32) = (0 : Int32) then (1 : Int32) else (0 : Int32))), .val (.int (if ((0 : Int32) + (1 : Int32)) = (0 : Int32) then (1 : Int32) else (0 : Int32))), .val (.int (if (((0 : Int32) + (1 : Int32)) - (1 : Int32)) = (0 : Int32) then (1 : Int32) else (0 : Int32)))]) (hb hby at_183) rfl ?_
        refine own_iload X33 hx (hb hby at_185) rfl ?_
        refine own_ifNo X33 hx (hb hby at_187) ((if0 _ _).trans (feq ((own_bnz (not_not_intro (by decide))) : ¬ ((if (0 : Int32) = (0 : Int32) then (1 : Int32) else (0 : Int32)) = (0 : Int32)))).1) ?_
        show Goes _ _ _ _ _ _ (T33.setTop (mkF m 190 #[.val (.int p1), .val (.int p2), .val (.int p3), .val (.int (p1 &&& (3 : Int32))), .val (.int ((p2 &&& (2147483647 : Int32)) % ((p1 &&& (3 : Int32)) + (1 : Int32)))), .val (.ref b19), .val (.int (if (0 : Int32) = (0 : Int32) then (1 : Int32) else (0 : Int32))), .val (.int (if ((0 : Int32) + (1 : Int32)) = (0 : Int32) then (1 : Int32) else (0 : Int32))), .val (.int (if (((0 : Int32) + (1 : Int32)) - (1 : Int32)) = (0 : Int32) then (1 : Int32) else (0 : Int32)))] []))
        refine own_iload X33 hx (hb hby at_190) rfl ?_
        refine own_iloadN X33 hx (hb hby at_192) rfl ?_
        refine own_ifYes X33 hx (pc' := 200) (hb hby at_193) ((if0 _ _).trans (feq ((by first | (rw [hca]; done) | (rw [hca]; decide)) : ¬ ((p1 &&& (3 : Int32)) = (0 : Int32)))).2) (by decide) (by decide) ?_
        show Goes _ _ _ _ _ _ (T33.setTop (mkF m 200 #[.val (.int p1), .val (.int p2), .val (.int p3), .val (.int (p1 &&& (3 : Int32))), .val (.int ((p2 &&& (2147483647 : Int32)) % ((p1 &&& (3 : Int32)) + (1 : Int32)))), .val (.ref b19), .val (.int (if (0 : Int32) = (0 : Int32) then (1 : Int32) else (0 : Int32))), .val (.int (if ((0 : Int32) + (1 : Int32)) = (0 : Int32) then (1 : Int32) else (0 : Int32))), .val (.int (if (((0 : Int32) + (1 : Int32)) - (1 : Int32)) = (0 : Int32) then (1 : Int32) else (0 : Int32)))] [(.int (if ((0 : Int32) + (1 : Int32)) = (0 : Int32) then (1 : Int32) else (0 : Int32)))]))
        refine own_iconst X33 hx (v := (0 : Int32)) (hb hby at_200) rfl ?_
        refine own_icmpNo X33 hx (hb hby at_201) (teq ((by first | (rw [if_neg (show ¬ (((0 : Int32) + (1 : Int32)) = (0 : Int32)) by decide)]; done) | (rw [if_neg (show ¬ (((0 : Int32) + (1 : Int32)) = (0 : Int32)) by decide)]; decide)) : (if ((0 : Int32) + (1 : Int32)) = (0 : Int32) then (1 : Int32) else (0 : Int32)) = (0 : Int32))).2 ?_
        show Goes _ _ _ _ _ _ (T33.setTop (mkF m 204 #[.val (.int p1), .val (.int p2), .val (.int p3), .val (.int (p1 &&& (3 : Int32))), .val (.int ((p2 &&& (2147483647 : Int32)) % ((p1 &&& (3 : Int32)) + (1 : Int32)))), .val (.ref b19), .val (.int (if (0 : Int32) = (0 : Int32) then (1 : Int32) else (0 : Int32))), .val (.int (if ((0 : Int32) + (1 : Int32)) = (0 : Int32) then (1 : Int32) else (0 : Int32))), .val (.int (if (((0 : Int32) + (1 : Int32)) - (1 : Int32)) = (0 : Int32) then (1 : Int32) else (0 : Int32)))] []))
        refine own_iload X33 hx (hb hby at_204) rfl ?_
        refine own_iloadN X33 hx (hb hby at_206) rfl ?_
        refine own_iload X33 hx (hb hby at_207) rfl ?_
        refine own_icmpNo X33 hx (hb hby at_209) (teq ((by first | (rw [hca, hcr]; done) | (rw [hca, hcr]; decide) | (rw [hcr, hca]; done) | (rw [hcr, hca]; decide)) : (p1 &&& (3 : Int32)) = ((p2 &&& (2147483647 : Int32)) % ((p1 &&& (3 : Int32)) + (1 : Int32))))).2 ?_
        show Goes _ _ _ _ _ _ (T33.setTop (mkF m 212 #[.val (.int p1), .val (.int p2), .val (.int p3), .val (.int (p1 &&& (3 : Int32))), .val (.int ((p2 &&& (2147483647 : Int32)) % ((p1 &&& (3 : Int32)) + (1 : Int32)))), .val (.ref b19), .val (.int (if (0 : Int32) = (0 : Int32) then (1 : Int32) else (0 : Int32))), .val (.int (if ((0 : Int32) + (1 : Int32)) = (0 : Int32) then (1 : Int32) else (0 : Int32))), .val (.int (if (((0 : Int32) + (1 : Int32)) - (1 : Int32)) = (0 : Int32) then (1 : Int32) else (0 : Int32)))] [(.int (if (((0 : Int32) + (1 : Int32)) - (1 : Int32)) = (0 : Int32) then (1 : Int32) else (0 : Int32)))]))
        refine own_iconst X33 hx (v := (1 : Int32)) (hb hby at_212) rfl ?_
        refine own_goto X33 hx (pc' := 217) (hb hby at_213) (by decide) (by decide) ?_
        refine own_icmpNo X33 hx (hb hby at_217) (teq ((by first | (rw [if_pos (show (((0 : Int32) + (1 : Int32)) - (1 : Int32)) = (0 : Int32) by decide)]; done) | (rw [if_pos (show (((0 : Int32) + (1 : Int32)) - (1 : Int32)) = (0 : Int32) by decide)]; decide)) : (if (((0 : Int32) + (1 : Int32)) - (1 : Int32)) = (0 : Int32) then (1 : Int32) else (0 : Int32)) = (1 : Int32))).2 ?_
        show Goes _ _ _ _ _ _ (T33.setTop (mkF m 220 #[.val (.int p1), .val (.int p2), .val (.int p3), .val (.int (p1 &&& (3 : Int32))), .val (.int ((p2 &&& (2147483647 : Int32)) % ((p1 &&& (3 : Int32)) + (1 : Int32)))), .val (.ref b19), .val (.int (if (0 : Int32) = (0 : Int32) then (1 : Int32) else (0 : Int32))), .val (.int (if ((0 : Int32) + (1 : Int32)) = (0 : Int32) then (1 : Int32) else (0 : Int32))), .val (.int (if (((0 : Int32) + (1 : Int32)) - (1 : Int32)) = (0 : Int32) then (1 : Int32) else (0 : Int32)))] []))
        refine own_iconst X33 hx (v := (1 : Int32)) (hb hby at_220) rfl ?_
        refine own_goto X33 hx (pc' := 225) (hb hby at_221) (by decide) (by decide) ?_
        show Goes _ _ _ _ _ _ (T33.setTop (mkF m 225 #[.val (.int p1), .val (.int p2), .val (.int p3), .val (.int (p1 &&& (3 : Int32))), .val (.int ((p2 &&& (2147483647 : Int32)) % ((p1 &&& (3 : Int32)) + (1 : Int32)))), .val (.ref b19), .val (.int (if (0 : Int32) = (0 : Int32) then (1 : Int32) else (0 : Int32))), .val (.int (if ((0 : Int32) + (1 : Int32)) = (0 : Int32) then (1 : Int32) else (0 : Int32))), .val (.int (if (((0 : Int32) + (1 : Int32)) - (1 : Int32)) = (0 : Int32) then (1 : Int32) else (0 : Int32)))] [(.int (1 : Int32))]))
        exact own_retNW X33 hx (t := .boolean) hS26 (by rw [e33]; exact hk32) N33 hlk (by decide) (by decide) hret (by simp) (hb hby at_225) (by rw [e33]; exact rfl)
      by_cases hc121_29 : (p3 &&& (8 : Int32)) = (0 : Int32)
      ·
        refine own_ifYes X28 hx (pc' := 128) (hb hby at_121) ((if0 _ _).trans (teq (hc121_29 : (p3 &&& (8 : Int32)) = (0 : Int32))).1) (by decide) (by decide) ?_
        show Goes _ _ _ _ _ _ (T28.setTop (mkF m 128 #[.val (.int p1), .val (.int p2), .val (.int p3), .val (.int (p1 &&& (3 : Int32))), .val (.int ((p2 &&& (2147483647 : Int32)) % ((p1 &&& (3 : Int32)) + (1 : Int32)))), .val (.ref b19), .val (.int (if (0 : Int32) = (0 : Int32) then (1 : Int32) else (0 : Int32))), .val (.int (if ((0 : Int32) + (1 : Int32)) = (0 : Int32) then (1 : Int32) else (0 : Int32))), .unset] [(.ref b19)]))
        refine own_iconst X28 hx (v := (0 : Int32)) (hb hby at_128) rfl ?_
        show Goes _ _ _ _ _ _ (T28.setTop (mkF m 129 #[.val (.int p1), .val (.int p2), .val (.int p3), .val (.int (p1 &&& (3 : Int32))), .val (.int ((p2 &&& (2147483647 : Int32)) % ((p1 &&& (3 : Int32)) + (1 : Int32)))), .val (.ref b19), .val (.int (if (0 : Int32) = (0 : Int32) then (1 : Int32) else (0 : Int32))), .val (.int (if ((0 : Int32) + (1 : Int32)) = (0 : Int32) then (1 : Int32) else (0 : Int32))), .unset] [(.int (0 : Int32)), (.ref b19)]))
        exact jn129_30 T28 _ X28 N28 e28 (0 : Int32) trivial
      ·
        refine own_ifNo X28 hx (hb hby at_121) ((if0 _ _).trans (feq (hc121_29 : ¬ ((p3 &&& (8 : Int32)) = (0 : Int32)))).1) ?_
        show Goes _ _ _ _ _ _ (T28.setTop (mkF m 124 #[.val (.int p1), .val (.int p2), .val (.int p3), .val (.int (p1 &&& (3 : Int32))), .val (.int ((p2 &&& (2147483647 : Int32)) % ((p1 &&& (3 : Int32)) + (1 : Int32)))), .val (.ref b19), .val (.int (if (0 : Int32) = (0 : Int32) then (1 : Int32) else (0 : Int32))), .val (.int (if ((0 : Int32) + (1 : Int32)) = (0 : Int32) then (1 : Int32) else (0 : Int32))), .unset] [(.ref b19)]))
        refine own_iconst X28 hx (v := (1 : Int32)) (hb hby at_124) rfl ?_
        refine own_goto X28 hx (pc' := 129) (hb hby at_125) (by decide) (by decide) ?_
        show Goes _ _ _ _ _ _ (T28.setTop (mkF m 129 #[.val (.int p1), .val (.int p2), .val (.int p3), .val (.int (p1 &&& (3 : Int32))), .val (.int ((p2 &&& (2147483647 : Int32)) % ((p1 &&& (3 : Int32)) + (1 : Int32)))), .val (.ref b19), .val (.int (if (0 : Int32) = (0 : Int32) then (1 : Int32) else (0 : Int32))), .val (.int (if ((0 : Int32) + (1 : Int32)) = (0 : Int32) then (1 : Int32) else (0 : Int32))), .unset] [(.int (1 : Int32)), (.ref b19)]))
        exact jn129_30 T28 _ X28 N28 e28 (1 : Int32) trivial
    by_cases hc40_24 : (p3 &&& (1 : Int32)) = (0 : Int32)
    ·
      refine own_ifYes X23 hx (pc' := 47) (hb hby at_40) ((if0 _ _).trans (teq (hc40_24 : (p3 &&& (1 : Int32)) = (0 : Int32))).1) (by decide) (by decide) ?_
      show Goes _ _ _ _ _ _ (T23.setTop (mkF m 47 #[.val (.int p1), .val (.int p2), .val (.int p3), .val (.int (p1 &&& (3 : Int32))), .val (.int ((p2 &&& (2147483647 : Int32)) % ((p1 &&& (3 : Int32)) + (1 : Int32)))), .val (.ref b19), .val (.int (if (0 : Int32) = (0 : Int32) then (1 : Int32) else (0 : Int32))), .unset, .unset] [(.ref b19)]))
      refine own_iconst X23 hx (v := (0 : Int32)) (hb hby at_47) rfl ?_
      show Goes _ _ _ _ _ _ (T23.setTop (mkF m 48 #[.val (.int p1), .val (.int p2), .val (.int p3), .val (.int (p1 &&& (3 : Int32))), .val (.int ((p2 &&& (2147483647 : Int32)) % ((p1 &&& (3 : Int32)) + (1 : Int32)))), .val (.ref b19), .val (.int (if (0 : Int32) = (0 : Int32) then (1 : Int32) else (0 : Int32))), .unset, .unset] [(.int (0 : Int32)), (.ref b19)]))
      exact jn48_25 T23 _ X23 N23 e23 (0 : Int32) trivial
    ·
      refine own_ifNo X23 hx (hb hby at_40) ((if0 _ _).trans (feq (hc40_24 : ¬ ((p3 &&& (1 : Int32)) = (0 : Int32)))).1) ?_
      show Goes _ _ _ _ _ _ (T23.setTop (mkF m 43 #[.val (.int p1), .val (.int p2), .val (.int p3), .val (.int (p1 &&& (3 : Int32))), .val (.int ((p2 &&& (2147483647 : Int32)) % ((p1 &&& (3 : Int32)) + (1 : Int32)))), .val (.ref b19), .val (.int (if (0 : Int32) = (0 : Int32) then (1 : Int32) else (0 : Int32))), .unset, .unset] [(.ref b19)]))
      refine own_iconst X23 hx (v := (1 : Int32)) (hb hby at_43) rfl ?_
      refine own_goto X23 hx (pc' := 48) (hb hby at_44) (by decide) (by decide) ?_
      show Goes _ _ _ _ _ _ (T23.setTop (mkF m 48 #[.val (.int p1), .val (.int p2), .val (.int p3), .val (.int (p1 &&& (3 : Int32))), .val (.int ((p2 &&& (2147483647 : Int32)) % ((p1 &&& (3 : Int32)) + (1 : Int32)))), .val (.ref b19), .val (.int (if (0 : Int32) = (0 : Int32) then (1 : Int32) else (0 : Int32))), .unset, .unset] [(.int (1 : Int32)), (.ref b19)]))
      exact jn48_25 T23 _ X23 N23 e23 (1 : Int32) trivial
  ·
    show Goes _ _ _ _ _ _ (T0.setTop (mkF m 14 #[.val (.int p1), .val (.int p2), .val (.int p3), .val (.int (p1 &&& (3 : Int32))), .val (.int ((p2 &&& (2147483647 : Int32)) % ((p1 &&& (3 : Int32)) + (1 : Int32)))), .unset, .unset, .unset, .unset] []))
    refine own_new X0 hx hZ hown (hw _ (List.mem_of_getElem? (i := 1) rfl)) (hw _ (List.mem_of_getElem? (i := 2) rfl)) (hw _ (List.mem_of_getElem? (i := 3) rfl)) e0 (hb hby at_14) (by decide) (by decide) (fun T34 h34 b34 g34 X34 e34 E34 A34 D34 => ?_)
    have ge_b34 : n0 ≤ b34 := Nat.le_trans (own_sz O0) (Nat.le_of_eq g34.symm)
    have O35 := O0.ext E34
    have F34_ring_b34 : Fld Z h34 b34 "com/example/kache/kache/store/ListValue" "ring" "[[B" .null := D34 (Or.inl (hw _ (List.mem_of_getElem? (i := 13) rfl))) (ty := (.array (.array .byte))) (by decide)
    have F34_size_b34 : Fld Z h34 b34 "com/example/kache/kache/store/ListValue" "size" "I" (.int (0 : Int32)) := D34 (Or.inl (hw _ (List.mem_of_getElem? (i := 20) rfl))) (ty := .int) (by decide)
    have F34_head_b34 : Fld Z h34 b34 "com/example/kache/kache/store/ListValue" "head" "I" (.int (0 : Int32)) := D34 (Or.inl (hw _ (List.mem_of_getElem? (i := 47) rfl))) (ty := .int) (by decide)
    show Goes _ _ _ _ _ _ (T34.setTop (mkF m 17 #[.val (.int p1), .val (.int p2), .val (.int p3), .val (.int (p1 &&& (3 : Int32))), .val (.int ((p2 &&& (2147483647 : Int32)) % ((p1 &&& (3 : Int32)) + (1 : Int32)))), .unset, .unset, .unset, .unset] [(.ref b34)]))
    refine own_dup X34 hx (hb hby at_17) rfl ?_
    refine own_special X34 hx hZ hown (y := (⟨"com/example/kache/kache/store/ListValue", "<init>", "()V"⟩ : MethodName)) rfl (hw _ (List.mem_of_getElem? (i := 4) rfl)) (hw _ (List.mem_of_getElem? (i := 5) rfl)) (hw _ (List.mem_of_getElem? (i := 3) rfl)) (hw _ (List.mem_of_getElem? (i := 6) rfl)) (a := b34) (by decide) (W := 1) (by decide) (by decide) N0 e34 (by rw [hml]; rfl) (argsL := []) (rest := [(.ref b34)]) (lenOf pd_4 rfl) (Nat.le_of_eq rfl) (by decide) (by decide) (rm1 l Z a0 hw [] b34 (.null) h34 n0 O35 A34 F34_ring_b34 F34_head_b34 F34_size_b34 ge_b34) rfl (hb hby at_18) ?_
    intro v36 T36 lc36 X36 N36 hQ36
    obtain ⟨r_36, k_36, rfl, K36, r36_0, r36_1, r36_2, r36_3, r36_4, r36_5, r36_6⟩ := hQ36
    have O37 := O35.keep K36 (allS ge_b34 all0)
    have ge_r_36 : n0 ≤ r_36 := Nat.le_trans (own_sz O35) r36_5
    show Goes _ _ _ _ _ _ (T36.setTop (mkF m 21 #[.val (.int p1), .val (.int p2), .val (.int p3), .val (.int (p1 &&& (3 : Int32))), .val (.int ((p2 &&& (2147483647 : Int32)) % ((p1 &&& (3 : Int32)) + (1 : Int32)))), .unset, .unset, .unset, .unset] [(.ref b34)]))
    refine own_astore X36 hx (Ls' := #[.val (.int p1), .val (.int p2), .val (.int p3), .val (.int (p1 &&& (3 : Int32))), .val (.int ((p2 &&& (2147483647 : Int32)) % ((p1 &&& (3 : Int32)) + (1 : Int32)))), .val (.ref b34), .unset, .unset, .unset]) (hb hby at_21) rfl rfl ?_
    refine own_aload X36 hx (hb hby at_23) rfl rfl ?_
    refine own_virtual X36 hx hZ hown (y := (⟨"com/example/kache/kache/store/ListValue", "isEmpty", "()Z"⟩ : MethodName)) (z := (⟨"com/example/kache/kache/store/ListValue", "isEmpty", "()Z"⟩ : MethodName)) (hw _ (List.mem_of_getElem? (i := 14) rfl)) (hw _ (List.mem_of_getElem? (i := 15) rfl)) (notFace_of_selects (args := #[]) (mvT hZ (hw _ (List.mem_of_getElem? (i := 17) rfl)))) (hw _ (List.mem_of_getElem? (i := 17) rfl)) (hw _ (List.mem_of_getElem? (i := 16) rfl)) (hw _ (List.mem_of_getElem? (i := 3) rfl)) (hw _ (List.mem_of_getElem? (i := 18) rfl)) (a := b34) r36_0 (by decide) (W := 0) (by decide) (by decide) N36 rfl (by rw [hml]; rfl) (argsL := []) (rest := []) (lenOf pd_8 rfl) (Nat.le_of_eq rfl) (by decide) (by decide) (rm3 l Z a0 hw [] b34 (0 : Int32) T36.heap n0 O37 r36_3) rfl (hb hby at_25) ?_
    intro v38 T38 lc38 X38 N38 hQ38
    obtain ⟨rfl, e38⟩ := hQ38
    show Goes _ _ _ _ _ _ (T38.setTop (mkF m 28 #[.val (.int p1), .val (.int p2), .val (.int p3), .val (.int (p1 &&& (3 : Int32))), .val (.int ((p2 &&& (2147483647 : Int32)) % ((p1 &&& (3 : Int32)) + (1 : Int32)))), .val (.ref b34), .unset, .unset, .unset] [(.int (if (0 : Int32) = (0 : Int32) then (1 : Int32) else (0 : Int32)))]))
    refine own_istore X38 hx (Ls' := #[.val (.int p1), .val (.int p2), .val (.int p3), .val (.int (p1 &&& (3 : Int32))), .val (.int ((p2 &&& (2147483647 : Int32)) % ((p1 &&& (3 : Int32)) + (1 : Int32)))), .val (.ref b34), .val (.int (if (0 : Int32) = (0 : Int32) then (1 : Int32) else (0 : Int32))), .unset, .unset]) (hb hby at_28) rfl ?_
    refine own_iloadN X38 hx (hb hby at_30) rfl ?_
    refine own_iconst X38 hx (v := (1 : Int32)) (hb hby at_31) rfl ?_
    refine own_icmpNo X38 hx (hb hby at_32) (flt ((by first | (rw [hca]; done) | (rw [hca]; decide)) : ¬ ((p1 &&& (3 : Int32)) < (1 : Int32)))).1 ?_
    show Goes _ _ _ _ _ _ (T38.setTop (mkF m 35 #[.val (.int p1), .val (.int p2), .val (.int p3), .val (.int (p1 &&& (3 : Int32))), .val (.int ((p2 &&& (2147483647 : Int32)) % ((p1 &&& (3 : Int32)) + (1 : Int32)))), .val (.ref b34), .val (.int (if (0 : Int32) = (0 : Int32) then (1 : Int32) else (0 : Int32))), .unset, .unset] []))
    refine own_aload X38 hx (hb hby at_35) rfl rfl ?_
    refine own_iloadN X38 hx (hb hby at_37) rfl ?_
    refine own_iconst X38 hx (v := (1 : Int32)) (hb hby at_38) rfl ?_
    refine own_iand X38 hx (hb hby at_39) ?_
    show Goes _ _ _ _ _ _ (T38.setTop (mkF m 40 #[.val (.int p1), .val (.int p2), .val (.int p3), .val (.int (p1 &&& (3 : Int32))), .val (.int ((p2 &&& (2147483647 : Int32)) % ((p1 &&& (3 : Int32)) + (1 : Int32)))), .val (.ref b34), .val (.int (if (0 : Int32) = (0 : Int32) then (1 : Int32) else (0 : Int32))), .unset, .unset] [(.int (p3 &&& (1 : Int32))), (.ref b34)]))
    have jn48_40 : ∀ (T40 : State) (lc40 : List Loc) (X40 : Stand p l e room_1 (s.setVm s.vm) m #[(.int p1), (.int p2), (.int p3)] below meth c T40 lc40 2 11) (N40 : Fr n0 lc40) (e40 : T40.heap = T36.heap) (w40 : Int32) (hj40 : True), Goes p e below (fun o t L => ReturnedEndW s o t L (24) (1152)) n0 (Q0 Z p1 p2 p3 h0 n0) (T40.setTop (mkF m 48 #[.val (.int p1), .val (.int p2), .val (.int p3), .val (.int (p1 &&& (3 : Int32))), .val (.int ((p2 &&& (2147483647 : Int32)) % ((p1 &&& (3 : Int32)) + (1 : Int32)))), .val (.ref b34), .val (.int (if (0 : Int32) = (0 : Int32) then (1 : Int32) else (0 : Int32))), .unset, .unset] [(.int w40), (.ref b34)])) := by
      intro T40 lc40 X40 N40 e40 w40 hj40
      show Goes _ _ _ _ _ _ (T40.setTop (mkF m 48 #[.val (.int p1), .val (.int p2), .val (.int p3), .val (.int (p1 &&& (3 : Int32))), .val (.int ((p2 &&& (2147483647 : Int32)) % ((p1 &&& (3 : Int32)) + (1 : Int32)))), .val (.ref b34), .val (.int (if (0 : Int32) = (0 : Int32) then (1 : Int32) else (0 : Int32))), .unset, .unset] [(.int w40), (.ref b34)]))
      refine own_iloadN X40 hx (hb hby at_48) rfl ?_
      refine own_callSW X40 hx hZ hown hS0 (Nat.zero_le _) (y := (⟨"com/example/kache/kache/store/ListValueIsEmptyPinLaw", "addOne", "(Lcom/example/kache/kache/store/ListValue;ZI)V"⟩ : MethodName)) (hw _ (List.mem_of_getElem? (i := 21) rfl)) (hw _ (List.mem_of_getElem? (i := 22) rfl)) (hw _ (List.mem_of_getElem? (i := 23) rfl)) (hw _ (List.mem_of_getElem? (i := 24) rfl)) (by decide) (W := 0) (by decide) (by decide) N40 e40 (by rw [hml]; rfl) (argsL := [(.ref b34), (.int w40), (.int p3)]) (rest := []) (lenOf pd_9 rfl) (Nat.le_of_eq rfl) (by decide) (by decide) (rm4 l Z a0 hw [] b34 w40 p3 r_36 (0 : Int32) (0 : Int32) k_36 [.null, .null, .null, .null, .null, .null, .null, .null] T36.heap n0 O37 r36_0 r36_1 r36_2 r36_3 r36_4 (by first | assumption | decide | exact ⟨rfl, rfl⟩) ge_b34 ge_r_36 (by first | assumption | decide | exact ⟨rfl, rfl⟩) r36_6 (by first | assumption | decide | exact ⟨rfl, rfl⟩)) rfl (hb hby at_49) ?_
      intro v41 T41 lc41 k1_41 X41 hS41 hk41_ hZ hown N41 hQ41
      obtain ⟨hd2_41, vs2_41, rfl, K41, r41_0, r41_1, r41_2, r41_3, r41_4, r41_5, r41_6⟩ := hQ41
      have O42 := O37.keep K41 (allS ge_b34 (allS ge_r_36 all0))
      show Goes _ _ _ _ _ _ (T41.setTop (mkF m 52 #[.val (.int p1), .val (.int p2), .val (.int p3), .val (.int (p1 &&& (3 : Int32))), .val (.int ((p2 &&& (2147483647 : Int32)) % ((p1 &&& (3 : Int32)) + (1 : Int32)))), .val (.ref b34), .val (.int (if (0 : Int32) = (0 : Int32) then (1 : Int32) else (0 : Int32))), .unset, .unset] []))
      refine own_iloadN X41 hx (hb hby at_52) rfl ?_
      refine own_iconst X41 hx (v := (2 : Int32)) (hb hby at_53) rfl ?_
      refine own_icmpNo X41 hx (hb hby at_54) (flt ((by first | (rw [hca]; done) | (rw [hca]; decide)) : ¬ ((p1 &&& (3 : Int32)) < (2 : Int32)))).1 ?_
      show Goes _ _ _ _ _ _ (T41.setTop (mkF m 57 #[.val (.int p1), .val (.int p2), .val (.int p3), .val (.int (p1 &&& (3 : Int32))), .val (.int ((p2 &&& (2147483647 : Int32)) % ((p1 &&& (3 : Int32)) + (1 : Int32)))), .val (.ref b34), .val (.int (if (0 : Int32) = (0 : Int32) then (1 : Int32) else (0 : Int32))), .unset, .unset] []))
      refine own_aload X41 hx (hb hby at_57) rfl rfl ?_
      refine own_iloadN X41 hx (hb hby at_59) rfl ?_
      refine own_iconst X41 hx (v := (2 : Int32)) (hb hby at_60) rfl ?_
      refine own_iand X41 hx (hb hby at_61) ?_
      show Goes _ _ _ _ _ _ (T41.setTop (mkF m 62 #[.val (.int p1), .val (.int p2), .val (.int p3), .val (.int (p1 &&& (3 : Int32))), .val (.int ((p2 &&& (2147483647 : Int32)) % ((p1 &&& (3 : Int32)) + (1 : Int32)))), .val (.ref b34), .val (.int (if (0 : Int32) = (0 : Int32) then (1 : Int32) else (0 : Int32))), .unset, .unset] [(.int (p3 &&& (2 : Int32))), (.ref b34)]))
      have jn70_44 : ∀ (T44 : State) (lc44 : List Loc) (X44 : Stand p l e room_1 (s.setVm T41.vm) m #[(.int p1), (.int p2), (.int p3)] below meth c T44 lc44 5 44) (N44 : Fr n0 lc44) (e44 : T44.heap = T41.heap) (w44 : Int32) (hj44 : True), Goes p e below (fun o t L => ReturnedEndW s o t L (24) (1152)) n0 (Q0 Z p1 p2 p3 h0 n0) (T44.setTop (mkF m 70 #[.val (.int p1), .val (.int p2), .val (.int p3), .val (.int (p1 &&& (3 : Int32))), .val (.int ((p2 &&& (2147483647 : Int32)) % ((p1 &&& (3 : Int32)) + (1 : Int32)))), .val (.ref b34), .val (.int (if (0 : Int32) = (0 : Int32) then (1 : Int32) else (0 : Int32))), .unset, .unset] [(.int w44), (.ref b34)])) := by
        intro T44 lc44 X44 N44 e44 w44 hj44
        show Goes _ _ _ _ _ _ (T44.setTop (mkF m 70 #[.val (.int p1), .val (.int p2), .val (.int p3), .val (.int (p1 &&& (3 : Int32))), .val (.int ((p2 &&& (2147483647 : Int32)) % ((p1 &&& (3 : Int32)) + (1 : Int32)))), .val (.ref b34), .val (.int (if (0 : Int32) = (0 : Int32) then (1 : Int32) else (0 : Int32))), .unset, .unset] [(.int w44), (.ref b34)]))
        refine own_iloadN X44 hx (hb hby at_70) rfl ?_
        refine own_bipush X44 hx (v := (8 : Int32)) (hb hby at_71) rfl ?_
        refine own_ishr X44 hx (hb hby at_73) ?_
        refine own_callSW X44 hx hZ hown hS41 hk41_ (y := (⟨"com/example/kache/kache/store/ListValueIsEmptyPinLaw", "addOne", "(Lcom/example/kache/kache/store/ListValue;ZI)V"⟩ : MethodName)) (hw _ (List.mem_of_getElem? (i := 21) rfl)) (hw _ (List.mem_of_getElem? (i := 22) rfl)) (hw _ (List.mem_of_getElem? (i := 23) rfl)) (hw _ (List.mem_of_getElem? (i := 24) rfl)) (by decide) (W := 0) (by decide) (by decide) N44 e44 (by rw [hml]; rfl) (argsL := [(.ref b34), (.int w44), (.int (p3 >>> ((8 : Int32) &&& 31)))]) (rest := []) (lenOf pd_9 rfl) (Nat.le_of_eq rfl) (by decide) (by decide) (rm4 l Z a0 hw [] b34 w44 (p3 >>> ((8 : Int32) &&& 31)) r_36 hd2_41 ((0 : Int32) + (1 : Int32)) k_36 vs2_41 T41.heap n0 O42 r41_0 r41_1 r41_2 r41_3 r41_4 r41_5 ge_b34 ge_r_36 r41_6 r36_6 (by first | assumption | decide | exact ⟨rfl, rfl⟩)) rfl (hb hby at_74) ?_
        intro v45 T45 lc45 k1_45 X45 hS45 hk45_ hZ hown N45 hQ45
        obtain ⟨hd2_45, vs2_45, rfl, K45, r45_0, r45_1, r45_2, r45_3, r45_4, r45_5, r45_6⟩ := hQ45
        have O46 := O42.keep K45 (allS ge_b34 (allS ge_r_36 all0))
        have hk46 := Nat.le_trans hk41_ K45.1
        show Goes _ _ _ _ _ _ (T45.setTop (mkF m 77 #[.val (.int p1), .val (.int p2), .val (.int p3), .val (.int (p1 &&& (3 : Int32))), .val (.int ((p2 &&& (2147483647 : Int32)) % ((p1 &&& (3 : Int32)) + (1 : Int32)))), .val (.ref b34), .val (.int (if (0 : Int32) = (0 : Int32) then (1 : Int32) else (0 : Int32))), .unset, .unset] []))
        refine own_iloadN X45 hx (hb hby at_77) rfl ?_
        refine own_iconst X45 hx (v := (3 : Int32)) (hb hby at_78) rfl ?_
        refine own_icmpYes X45 hx (pc' := 102) (hb hby at_79) (tlt ((by first | (rw [hca]; done) | (rw [hca]; decide)) : (p1 &&& (3 : Int32)) < (3 : Int32))).1 (by decide) (by decide) ?_
        show Goes _ _ _ _ _ _ (T45.setTop (mkF m 102 #[.val (.int p1), .val (.int p2), .val (.int p3), .val (.int (p1 &&& (3 : Int32))), .val (.int ((p2 &&& (2147483647 : Int32)) % ((p1 &&& (3 : Int32)) + (1 : Int32)))), .val (.ref b34), .val (.int (if (0 : Int32) = (0 : Int32) then (1 : Int32) else (0 : Int32))), .unset, .unset] []))
        refine own_aload X45 hx (hb hby at_102) rfl rfl ?_
        refine own_virtual X45 hx hZ hown (y := (⟨"com/example/kache/kache/store/ListValue", "isEmpty", "()Z"⟩ : MethodName)) (z := (⟨"com/example/kache/kache/store/ListValue", "isEmpty", "()Z"⟩ : MethodName)) (hw _ (List.mem_of_getElem? (i := 14) rfl)) (hw _ (List.mem_of_getElem? (i := 15) rfl)) (notFace_of_selects (args := #[]) (mvT hZ (hw _ (List.mem_of_getElem? (i := 17) rfl)))) (hw _ (List.mem_of_getElem? (i := 17) rfl)) (hw _ (List.mem_of_getElem? (i := 16) rfl)) (hw _ (List.mem_of_getElem? (i := 3) rfl)) (hw _ (List.mem_of_getElem? (i := 18) rfl)) (a := b34) r45_0 (by decide) (W := 0) (by decide) (by decide) N45 rfl (by rw [hml]; rfl) (argsL := []) (rest := []) (lenOf pd_8 rfl) (Nat.le_of_eq rfl) (by decide) (by decide) (rm3 l Z a0 hw [] b34 (((0 : Int32) + (1 : Int32)) + (1 : Int32)) T45.heap n0 O46 r45_3) rfl (hb hby at_104) ?_
        intro v47 T47 lc47 X47 N47 hQ47
        obtain ⟨rfl, e47⟩ := hQ47
        show Goes _ _ _ _ _ _ (T47.setTop (mkF m 107 #[.val (.int p1), .val (.int p2), .val (.int p3), .val (.int (p1 &&& (3 : Int32))), .val (.int ((p2 &&& (2147483647 : Int32)) % ((p1 &&& (3 : Int32)) + (1 : Int32)))), .val (.ref b34), .val (.int (if (0 : Int32) = (0 : Int32) then (1 : Int32) else (0 : Int32))), .unset, .unset] [(.int (if (((0 : Int32) + (1 : Int32)) + (1 : Int32)) = (0 : Int32) then (1 : Int32) else (0 : Int32)))]))
        refine own_istore X47 hx (Ls' := #[.val (.int p1), .val (.int p2), .val (.int p3), .val (.int (p1 &&& (3 : Int32))), .val (.int ((p2 &&& (2147483647 : Int32)) % ((p1 &&& (3 : Int32)) + (1 : Int32)))), .val (.ref b34), .val (.int (if (0 : Int32) = (0 : Int32) then (1 : Int32) else (0 : Int32))), .val (.int (if (((0 : Int32) + (1 : Int32)) + (1 : Int32)) = (0 : Int32) then (1 : Int32) else (0 : Int32))), .unset]) (hb hby at_107) rfl ?_
        refine own_iload X47 hx (hb hby at_109) rfl ?_
        refine own_iconst X47 hx (v := (1 : Int32)) (hb hby at_111) rfl ?_
        refine own_icmpYes X47 hx (pc' := 132) (hb hby at_112) (tlt ((by first | (rw [hcr]; done) | (rw [hcr]; decide)) : ((p2 &&& (2147483647 : Int32)) % ((p1 &&& (3 : Int32)) + (1 : Int32))) < (1 : Int32))).1 (by decide) (by decide) ?_
        show Goes _ _ _ _ _ _ (T47.setTop (mkF m 132 #[.val (.int p1), .val (.int p2), .val (.int p3), .val (.int (p1 &&& (3 : Int32))), .val (.int ((p2 &&& (2147483647 : Int32)) % ((p1 &&& (3 : Int32)) + (1 : Int32)))), .val (.ref b34), .val (.int (if (0 : Int32) = (0 : Int32) then (1 : Int32) else (0 : Int32))), .val (.int (if (((0 : Int32) + (1 : Int32)) + (1 : Int32)) = (0 : Int32) then (1 : Int32) else (0 : Int32))), .unset] []))
        refine own_iload X47 hx (hb hby at_132) rfl ?_
        refine own_iconst X47 hx (v := (2 : Int32)) (hb hby at_134) rfl ?_
        refine own_icmpYes X47 hx (pc' := 155) (hb hby at_135) (tlt ((by first | (rw [hcr]; done) | (rw [hcr]; decide)) : ((p2 &&& (2147483647 : Int32)) % ((p1 &&& (3 : Int32)) + (1 : Int32))) < (2 : Int32))).1 (by decide) (by decide) ?_
        show Goes _ _ _ _ _ _ (T47.setTop (mkF m 155 #[.val (.int p1), .val (.int p2), .val (.int p3), .val (.int (p1 &&& (3 : Int32))), .val (.int ((p2 &&& (2147483647 : Int32)) % ((p1 &&& (3 : Int32)) + (1 : Int32)))), .val (.ref b34), .val (.int (if (0 : Int32) = (0 : Int32) then (1 : Int32) else (0 : Int32))), .val (.int (if (((0 : Int32) + (1 : Int32)) + (1 : Int32)) = (0 : Int32) then (1 : Int32) else (0 : Int32))), .unset] []))
        refine own_iload X47 hx (hb hby at_155) rfl ?_
        refine own_iconst X47 hx (v := (3 : Int32)) (hb hby at_157) rfl ?_
        refine own_icmpYes X47 hx (pc' := 178) (hb hby at_158) (tlt ((by first | (rw [hcr]; done) | (rw [hcr]; decide)) : ((p2 &&& (2147483647 : Int32)) % ((p1 &&& (3 : Int32)) + (1 : Int32))) < (3 : Int32))).1 (by decide) (by decide) ?_
        show Goes _ _ _ _ _ _ (T47.setTop (mkF m 178 #[.val (.int p1), .val (.int p2), .val (.int p3), .val (.int (p1 &&& (3 : Int32))), .val (.int ((p2 &&& (2147483647 : Int32)) % ((p1 &&& (3 : Int32)) + (1 : Int32)))), .val (.ref b34), .val (.int (if (0 : Int32) = (0 : Int32) then (1 : Int32) else (0 : Int32))), .val (.int (if (((0 : Int32) + (1 : Int32)) + (1 : Int32)) = (0 : Int32) then (1 : Int32) else (0 : Int32))), .unset] []))
        refine own_aload X47 hx (hb hby at_178) rfl rfl ?_
        refine own_virtual X47 hx hZ hown (y := (⟨"com/example/kache/kache/store/ListValue", "isEmpty", "()Z"⟩ : MethodName)) (z := (⟨"com/example/kache/kache/store/ListValue", "isEmpty", "()Z"⟩ : MethodName)) (hw _ (List.mem_of_getElem? (i := 14) rfl)) (hw _ (List.mem_of_getElem? (i := 15) rfl)) (notFace_of_selects (args := #[]) (mvT hZ (hw _ (List.mem_of_getElem? (i := 17) rfl)))) (hw _ (List.mem_of_getElem? (i := 17) rfl)) (hw _ (List.mem_of_getElem? (i := 16) rfl)) (hw _ (List.mem_of_getElem? (i := 3) rfl)) (hw _ (List.mem_of_getElem? (i := 18) rfl)) (a := b34) r45_0 (by decide) (W := 0) (by decide) (by decide) N47 e47 (by rw [hml]; rfl) (argsL := []) (rest := []) (lenOf pd_8 rfl) (Nat.le_of_eq rfl) (by decide) (by decide) (rm3 l Z a0 hw [] b34 (((0 : Int32) + (1 : Int32)) + (1 : Int32)) T45.heap n0 O46 r45_3) rfl (hb hby at_180) ?_
        intro v48 T48 lc48 X48 N48 hQ48
        obtain ⟨rfl, e48⟩ := hQ48
        show Goes _ _ _ _ _ _ (T48.setTop (mkF m 183 #[.val (.int p1), .val (.int p2), .val (.int p3), .val (.int (p1 &&& (3 : Int32))), .val (.int ((p2 &&& (2147483647 : Int32)) % ((p1 &&& (3 : Int32)) + (1 : Int32)))), .val (.ref b34), .val (.int (if (0 : Int32) = (0 : Int32) then (1 : Int32) else (0 : Int32))), .val (.int (if (((0 : Int32) + (1 : Int32)) + (1 : Int32)) = (0 : Int32) then (1 : Int32) else (0 : Int32))), .unset] [(.int (if (((0 : Int32) + (1 : Int32)) + (1 : Int32)) = (0 : Int32) then (1 : Int32) else (0 : Int32)))]))
        refine own_istore X48 hx (Ls' := #[.val (.int p1), .val (.int p2), .val (.int p3), .val (.int (p1 &&& (3 : Int32))), .val (.int ((p2 &&& (2147483647 : Int32)) % ((p1 &&& (3 : Int32)) + (1 : Int32)))), .val (.ref b34), .val (.int (if (0 : Int32) = (0 : Int32) then (1 : Int32) else (0 : Int32))), .val (.int (if (((0 : Int32) + (1 : Int32)) + (1 : Int32)) = (0 : Int32) then (1 : Int32) else (0 : Int32))), .val (.int (if (((0 : Int32) + (1 : Int32)) + (1 : Int32)) = (0 : Int32) then (1 : Int32) else (0 : Int32)))]) (hb hby at_183) rfl ?_
        refine own_iload X48 hx (hb hby at_185) rfl ?_
        refine own_ifNo X48 hx (hb hby at_187) ((if0 _ _).trans (feq ((own_bnz (not_not_intro (by decide))) : ¬ ((if (0 : Int32) = (0 : Int32) then (1 : Int32) else (0 : Int32)) = (0 : Int32)))).1) ?_
        show Goes _ _ _ _ _ _ (T48.setTop (mkF m 190 #[.val (.int p1), .val (.int p2), .val (.int p3), .val (.int (p1 &&& (3 : Int32))), .val (.int ((p2 &&& (2147483647 : Int32)) % ((p1 &&& (3 : Int32)) + (1 : Int32)))), .val (.ref b34), .val (.int (if (0 : Int32) = (0 : Int32) then (1 : Int32) else (0 : Int32))), .val (.int (if (((0 : Int32) + (1 : Int32)) + (1 : Int32)) = (0 : Int32) then (1 : Int32) else (0 : Int32))), .val (.int (if (((0 : Int32) + (1 : Int32)) + (1 : Int32)) = (0 : Int32) then (1 : Int32) else (0 : Int32)))] []))
        refine own_iload X48 hx (hb hby at_190) rfl ?_
        refine own_iloadN X48 hx (hb hby at_192) rfl ?_
        refine own_ifYes X48 hx (pc' := 200) (hb hby at_193) ((if0 _ _).trans (feq ((by first | (rw [hca]; done) | (rw [hca]; decide)) : ¬ ((p1 &&& (3 : Int32)) = (0 : Int32)))).2) (by decide) (by decide) ?_
        show Goes _ _ _ _ _ _ (T48.setTop (mkF m 200 #[.val (.int p1), .val (.int p2), .val (.int p3), .val (.int (p1 &&& (3 : Int32))), .val (.int ((p2 &&& (2147483647 : Int32)) % ((p1 &&& (3 : Int32)) + (1 : Int32)))), .val (.ref b34), .val (.int (if (0 : Int32) = (0 : Int32) then (1 : Int32) else (0 : Int32))), .val (.int (if (((0 : Int32) + (1 : Int32)) + (1 : Int32)) = (0 : Int32) then (1 : Int32) else (0 : Int32))), .val (.int (if (((0 : Int32) + (1 : Int32)) + (1 : Int32)) = (0 : Int32) then (1 : Int32) else (0 : Int32)))] [(.int (if (((0 : Int32) + (1 : Int32)) + (1 : Int32)) = (0 : Int32) then (1 : Int32) else (0 : Int32)))]))
        refine own_iconst X48 hx (v := (0 : Int32)) (hb hby at_200) rfl ?_
        refine own_icmpNo X48 hx (hb hby at_201) (teq ((by first | (rw [if_neg (show ¬ ((((0 : Int32) + (1 : Int32)) + (1 : Int32)) = (0 : Int32)) by decide)]; done) | (rw [if_neg (show ¬ ((((0 : Int32) + (1 : Int32)) + (1 : Int32)) = (0 : Int32)) by decide)]; decide)) : (if (((0 : Int32) + (1 : Int32)) + (1 : Int32)) = (0 : Int32) then (1 : Int32) else (0 : Int32)) = (0 : Int32))).2 ?_
        show Goes _ _ _ _ _ _ (T48.setTop (mkF m 204 #[.val (.int p1), .val (.int p2), .val (.int p3), .val (.int (p1 &&& (3 : Int32))), .val (.int ((p2 &&& (2147483647 : Int32)) % ((p1 &&& (3 : Int32)) + (1 : Int32)))), .val (.ref b34), .val (.int (if (0 : Int32) = (0 : Int32) then (1 : Int32) else (0 : Int32))), .val (.int (if (((0 : Int32) + (1 : Int32)) + (1 : Int32)) = (0 : Int32) then (1 : Int32) else (0 : Int32))), .val (.int (if (((0 : Int32) + (1 : Int32)) + (1 : Int32)) = (0 : Int32) then (1 : Int32) else (0 : Int32)))] []))
        refine own_iload X48 hx (hb hby at_204) rfl ?_
        refine own_iloadN X48 hx (hb hby at_206) rfl ?_
        refine own_iload X48 hx (hb hby at_207) rfl ?_
        refine own_icmpYes X48 hx (pc' := 216) (hb hby at_209) (feq ((by first | (rw [hca, hcr]; done) | (rw [hca, hcr]; decide) | (rw [hcr, hca]; done) | (rw [hcr, hca]; decide)) : ¬ ((p1 &&& (3 : Int32)) = ((p2 &&& (2147483647 : Int32)) % ((p1 &&& (3 : Int32)) + (1 : Int32)))))).2 (by decide) (by decide) ?_
        show Goes _ _ _ _ _ _ (T48.setTop (mkF m 216 #[.val (.int p1), .val (.int p2), .val (.int p3), .val (.int (p1 &&& (3 : Int32))), .val (.int ((p2 &&& (2147483647 : Int32)) % ((p1 &&& (3 : Int32)) + (1 : Int32)))), .val (.ref b34), .val (.int (if (0 : Int32) = (0 : Int32) then (1 : Int32) else (0 : Int32))), .val (.int (if (((0 : Int32) + (1 : Int32)) + (1 : Int32)) = (0 : Int32) then (1 : Int32) else (0 : Int32))), .val (.int (if (((0 : Int32) + (1 : Int32)) + (1 : Int32)) = (0 : Int32) then (1 : Int32) else (0 : Int32)))] [(.int (if (((0 : Int32) + (1 : Int32)) + (1 : Int32)) = (0 : Int32) then (1 : Int32) else (0 : Int32)))]))
        refine own_iconst X48 hx (v := (0 : Int32)) (hb hby at_216) rfl ?_
        refine own_icmpNo X48 hx (hb hby at_217) (teq ((by first | (rw [if_neg (show ¬ ((((0 : Int32) + (1 : Int32)) + (1 : Int32)) = (0 : Int32)) by decide)]; done) | (rw [if_neg (show ¬ ((((0 : Int32) + (1 : Int32)) + (1 : Int32)) = (0 : Int32)) by decide)]; decide)) : (if (((0 : Int32) + (1 : Int32)) + (1 : Int32)) = (0 : Int32) then (1 : Int32) else (0 : Int32)) = (0 : Int32))).2 ?_
        show Goes _ _ _ _ _ _ (T48.setTop (mkF m 220 #[.val (.int p1), .val (.int p2), .val (.int p3), .val (.int (p1 &&& (3 : Int32))), .val (.int ((p2 &&& (2147483647 : Int32)) % ((p1 &&& (3 : Int32)) + (1 : Int32)))), .val (.ref b34), .val (.int (if (0 : Int32) = (0 : Int32) then (1 : Int32) else (0 : Int32))), .val (.int (if (((0 : Int32) + (1 : Int32)) + (1 : Int32)) = (0 : Int32) then (1 : Int32) else (0 : Int32))), .val (.int (if (((0 : Int32) + (1 : Int32)) + (1 : Int32)) = (0 : Int32) then (1 : Int32) else (0 : Int32)))] []))
        refine own_iconst X48 hx (v := (1 : Int32)) (hb hby at_220) rfl ?_
        refine own_goto X48 hx (pc' := 225) (hb hby at_221) (by decide) (by decide) ?_
        show Goes _ _ _ _ _ _ (T48.setTop (mkF m 225 #[.val (.int p1), .val (.int p2), .val (.int p3), .val (.int (p1 &&& (3 : Int32))), .val (.int ((p2 &&& (2147483647 : Int32)) % ((p1 &&& (3 : Int32)) + (1 : Int32)))), .val (.ref b34), .val (.int (if (0 : Int32) = (0 : Int32) then (1 : Int32) else (0 : Int32))), .val (.int (if (((0 : Int32) + (1 : Int32)) + (1 : Int32)) = (0 : Int32) then (1 : Int32) else (0 : Int32))), .val (.int (if (((0 : Int32) + (1 : Int32)) + (1 : Int32)) = (0 : Int32) then (1 : Int32) else (0 : Int32)))] [(.int (1 : Int32))]))
        exact own_retNW X48 hx (t := .boolean) hS45 (by rw [e48]; exact hk45_) N48 hlk (by decide) (by decide) hret (by simp) (hb hby at_225) (by rw [e48]; exact rfl)
      by_cases hc62_43 : (p3 &&& (2 : Int32)) = (0 : Int32)
      ·
        refine own_ifYes X41 hx (pc' := 69) (hb hby at_62) ((if0 _ _).trans (teq (hc62_43 : (p3 &&& (2 : Int32)) = (0 : Int32))).1) (by decide) (by decide) ?_
        show Goes _ _ _ _ _ _ (T41.setTop (mkF m 69 #[.val (.int p1), .val (.int p2), .val (.int p3), .val (.int (p1 &&& (3 : Int32))), .val (.int ((p2 &&& (2147483647 : Int32)) % ((p1 &&& (3 : Int32)) + (1 : Int32)))), .val (.ref b34), .val (.int (if (0 : Int32) = (0 : Int32) then (1 : Int32) else (0 : Int32))), .unset, .unset] [(.ref b34)]))
        refine own_iconst X41 hx (v := (0 : Int32)) (hb hby at_69) rfl ?_
        show Goes _ _ _ _ _ _ (T41.setTop (mkF m 70 #[.val (.int p1), .val (.int p2), .val (.int p3), .val (.int (p1 &&& (3 : Int32))), .val (.int ((p2 &&& (2147483647 : Int32)) % ((p1 &&& (3 : Int32)) + (1 : Int32)))), .val (.ref b34), .val (.int (if (0 : Int32) = (0 : Int32) then (1 : Int32) else (0 : Int32))), .unset, .unset] [(.int (0 : Int32)), (.ref b34)]))
        exact jn70_44 T41 _ X41 N41 rfl (0 : Int32) trivial
      ·
        refine own_ifNo X41 hx (hb hby at_62) ((if0 _ _).trans (feq (hc62_43 : ¬ ((p3 &&& (2 : Int32)) = (0 : Int32)))).1) ?_
        show Goes _ _ _ _ _ _ (T41.setTop (mkF m 65 #[.val (.int p1), .val (.int p2), .val (.int p3), .val (.int (p1 &&& (3 : Int32))), .val (.int ((p2 &&& (2147483647 : Int32)) % ((p1 &&& (3 : Int32)) + (1 : Int32)))), .val (.ref b34), .val (.int (if (0 : Int32) = (0 : Int32) then (1 : Int32) else (0 : Int32))), .unset, .unset] [(.ref b34)]))
        refine own_iconst X41 hx (v := (1 : Int32)) (hb hby at_65) rfl ?_
        refine own_goto X41 hx (pc' := 70) (hb hby at_66) (by decide) (by decide) ?_
        show Goes _ _ _ _ _ _ (T41.setTop (mkF m 70 #[.val (.int p1), .val (.int p2), .val (.int p3), .val (.int (p1 &&& (3 : Int32))), .val (.int ((p2 &&& (2147483647 : Int32)) % ((p1 &&& (3 : Int32)) + (1 : Int32)))), .val (.ref b34), .val (.int (if (0 : Int32) = (0 : Int32) then (1 : Int32) else (0 : Int32))), .unset, .unset] [(.int (1 : Int32)), (.ref b34)]))
        exact jn70_44 T41 _ X41 N41 rfl (1 : Int32) trivial
    by_cases hc40_39 : (p3 &&& (1 : Int32)) = (0 : Int32)
    ·
      refine own_ifYes X38 hx (pc' := 47) (hb hby at_40) ((if0 _ _).trans (teq (hc40_39 : (p3 &&& (1 : Int32)) = (0 : Int32))).1) (by decide) (by decide) ?_
      show Goes _ _ _ _ _ _ (T38.setTop (mkF m 47 #[.val (.int p1), .val (.int p2), .val (.int p3), .val (.int (p1 &&& (3 : Int32))), .val (.int ((p2 &&& (2147483647 : Int32)) % ((p1 &&& (3 : Int32)) + (1 : Int32)))), .val (.ref b34), .val (.int (if (0 : Int32) = (0 : Int32) then (1 : Int32) else (0 : Int32))), .unset, .unset] [(.ref b34)]))
      refine own_iconst X38 hx (v := (0 : Int32)) (hb hby at_47) rfl ?_
      show Goes _ _ _ _ _ _ (T38.setTop (mkF m 48 #[.val (.int p1), .val (.int p2), .val (.int p3), .val (.int (p1 &&& (3 : Int32))), .val (.int ((p2 &&& (2147483647 : Int32)) % ((p1 &&& (3 : Int32)) + (1 : Int32)))), .val (.ref b34), .val (.int (if (0 : Int32) = (0 : Int32) then (1 : Int32) else (0 : Int32))), .unset, .unset] [(.int (0 : Int32)), (.ref b34)]))
      exact jn48_40 T38 _ X38 N38 e38 (0 : Int32) trivial
    ·
      refine own_ifNo X38 hx (hb hby at_40) ((if0 _ _).trans (feq (hc40_39 : ¬ ((p3 &&& (1 : Int32)) = (0 : Int32)))).1) ?_
      show Goes _ _ _ _ _ _ (T38.setTop (mkF m 43 #[.val (.int p1), .val (.int p2), .val (.int p3), .val (.int (p1 &&& (3 : Int32))), .val (.int ((p2 &&& (2147483647 : Int32)) % ((p1 &&& (3 : Int32)) + (1 : Int32)))), .val (.ref b34), .val (.int (if (0 : Int32) = (0 : Int32) then (1 : Int32) else (0 : Int32))), .unset, .unset] [(.ref b34)]))
      refine own_iconst X38 hx (v := (1 : Int32)) (hb hby at_43) rfl ?_
      refine own_goto X38 hx (pc' := 48) (hb hby at_44) (by decide) (by decide) ?_
      show Goes _ _ _ _ _ _ (T38.setTop (mkF m 48 #[.val (.int p1), .val (.int p2), .val (.int p3), .val (.int (p1 &&& (3 : Int32))), .val (.int ((p2 &&& (2147483647 : Int32)) % ((p1 &&& (3 : Int32)) + (1 : Int32)))), .val (.ref b34), .val (.int (if (0 : Int32) = (0 : Int32) then (1 : Int32) else (0 : Int32))), .unset, .unset] [(.int (1 : Int32)), (.ref b34)]))
      exact jn48_40 T38 _ X38 N38 e38 (1 : Int32) trivial
  ·
    show Goes _ _ _ _ _ _ (T0.setTop (mkF m 14 #[.val (.int p1), .val (.int p2), .val (.int p3), .val (.int (p1 &&& (3 : Int32))), .val (.int ((p2 &&& (2147483647 : Int32)) % ((p1 &&& (3 : Int32)) + (1 : Int32)))), .unset, .unset, .unset, .unset] []))
    refine own_new X0 hx hZ hown (hw _ (List.mem_of_getElem? (i := 1) rfl)) (hw _ (List.mem_of_getElem? (i := 2) rfl)) (hw _ (List.mem_of_getElem? (i := 3) rfl)) e0 (hb hby at_14) (by decide) (by decide) (fun T49 h49 b49 g49 X49 e49 E49 A49 D49 => ?_)
    have ge_b49 : n0 ≤ b49 := Nat.le_trans (own_sz O0) (Nat.le_of_eq g49.symm)
    have O50 := O0.ext E49
    have F49_ring_b49 : Fld Z h49 b49 "com/example/kache/kache/store/ListValue" "ring" "[[B" .null := D49 (Or.inl (hw _ (List.mem_of_getElem? (i := 13) rfl))) (ty := (.array (.array .byte))) (by decide)
    have F49_size_b49 : Fld Z h49 b49 "com/example/kache/kache/store/ListValue" "size" "I" (.int (0 : Int32)) := D49 (Or.inl (hw _ (List.mem_of_getElem? (i := 20) rfl))) (ty := .int) (by decide)
    have F49_head_b49 : Fld Z h49 b49 "com/example/kache/kache/store/ListValue" "head" "I" (.int (0 : Int32)) := D49 (Or.inl (hw _ (List.mem_of_getElem? (i := 47) rfl))) (ty := .int) (by decide)
    show Goes _ _ _ _ _ _ (T49.setTop (mkF m 17 #[.val (.int p1), .val (.int p2), .val (.int p3), .val (.int (p1 &&& (3 : Int32))), .val (.int ((p2 &&& (2147483647 : Int32)) % ((p1 &&& (3 : Int32)) + (1 : Int32)))), .unset, .unset, .unset, .unset] [(.ref b49)]))
    refine own_dup X49 hx (hb hby at_17) rfl ?_
    refine own_special X49 hx hZ hown (y := (⟨"com/example/kache/kache/store/ListValue", "<init>", "()V"⟩ : MethodName)) rfl (hw _ (List.mem_of_getElem? (i := 4) rfl)) (hw _ (List.mem_of_getElem? (i := 5) rfl)) (hw _ (List.mem_of_getElem? (i := 3) rfl)) (hw _ (List.mem_of_getElem? (i := 6) rfl)) (a := b49) (by decide) (W := 1) (by decide) (by decide) N0 e49 (by rw [hml]; rfl) (argsL := []) (rest := [(.ref b49)]) (lenOf pd_4 rfl) (Nat.le_of_eq rfl) (by decide) (by decide) (rm1 l Z a0 hw [] b49 (.null) h49 n0 O50 A49 F49_ring_b49 F49_head_b49 F49_size_b49 ge_b49) rfl (hb hby at_18) ?_
    intro v51 T51 lc51 X51 N51 hQ51
    obtain ⟨r_51, k_51, rfl, K51, r51_0, r51_1, r51_2, r51_3, r51_4, r51_5, r51_6⟩ := hQ51
    have O52 := O50.keep K51 (allS ge_b49 all0)
    have ge_r_51 : n0 ≤ r_51 := Nat.le_trans (own_sz O50) r51_5
    show Goes _ _ _ _ _ _ (T51.setTop (mkF m 21 #[.val (.int p1), .val (.int p2), .val (.int p3), .val (.int (p1 &&& (3 : Int32))), .val (.int ((p2 &&& (2147483647 : Int32)) % ((p1 &&& (3 : Int32)) + (1 : Int32)))), .unset, .unset, .unset, .unset] [(.ref b49)]))
    refine own_astore X51 hx (Ls' := #[.val (.int p1), .val (.int p2), .val (.int p3), .val (.int (p1 &&& (3 : Int32))), .val (.int ((p2 &&& (2147483647 : Int32)) % ((p1 &&& (3 : Int32)) + (1 : Int32)))), .val (.ref b49), .unset, .unset, .unset]) (hb hby at_21) rfl rfl ?_
    refine own_aload X51 hx (hb hby at_23) rfl rfl ?_
    refine own_virtual X51 hx hZ hown (y := (⟨"com/example/kache/kache/store/ListValue", "isEmpty", "()Z"⟩ : MethodName)) (z := (⟨"com/example/kache/kache/store/ListValue", "isEmpty", "()Z"⟩ : MethodName)) (hw _ (List.mem_of_getElem? (i := 14) rfl)) (hw _ (List.mem_of_getElem? (i := 15) rfl)) (notFace_of_selects (args := #[]) (mvT hZ (hw _ (List.mem_of_getElem? (i := 17) rfl)))) (hw _ (List.mem_of_getElem? (i := 17) rfl)) (hw _ (List.mem_of_getElem? (i := 16) rfl)) (hw _ (List.mem_of_getElem? (i := 3) rfl)) (hw _ (List.mem_of_getElem? (i := 18) rfl)) (a := b49) r51_0 (by decide) (W := 0) (by decide) (by decide) N51 rfl (by rw [hml]; rfl) (argsL := []) (rest := []) (lenOf pd_8 rfl) (Nat.le_of_eq rfl) (by decide) (by decide) (rm3 l Z a0 hw [] b49 (0 : Int32) T51.heap n0 O52 r51_3) rfl (hb hby at_25) ?_
    intro v53 T53 lc53 X53 N53 hQ53
    obtain ⟨rfl, e53⟩ := hQ53
    show Goes _ _ _ _ _ _ (T53.setTop (mkF m 28 #[.val (.int p1), .val (.int p2), .val (.int p3), .val (.int (p1 &&& (3 : Int32))), .val (.int ((p2 &&& (2147483647 : Int32)) % ((p1 &&& (3 : Int32)) + (1 : Int32)))), .val (.ref b49), .unset, .unset, .unset] [(.int (if (0 : Int32) = (0 : Int32) then (1 : Int32) else (0 : Int32)))]))
    refine own_istore X53 hx (Ls' := #[.val (.int p1), .val (.int p2), .val (.int p3), .val (.int (p1 &&& (3 : Int32))), .val (.int ((p2 &&& (2147483647 : Int32)) % ((p1 &&& (3 : Int32)) + (1 : Int32)))), .val (.ref b49), .val (.int (if (0 : Int32) = (0 : Int32) then (1 : Int32) else (0 : Int32))), .unset, .unset]) (hb hby at_28) rfl ?_
    refine own_iloadN X53 hx (hb hby at_30) rfl ?_
    refine own_iconst X53 hx (v := (1 : Int32)) (hb hby at_31) rfl ?_
    refine own_icmpNo X53 hx (hb hby at_32) (flt ((by first | (rw [hca]; done) | (rw [hca]; decide)) : ¬ ((p1 &&& (3 : Int32)) < (1 : Int32)))).1 ?_
    show Goes _ _ _ _ _ _ (T53.setTop (mkF m 35 #[.val (.int p1), .val (.int p2), .val (.int p3), .val (.int (p1 &&& (3 : Int32))), .val (.int ((p2 &&& (2147483647 : Int32)) % ((p1 &&& (3 : Int32)) + (1 : Int32)))), .val (.ref b49), .val (.int (if (0 : Int32) = (0 : Int32) then (1 : Int32) else (0 : Int32))), .unset, .unset] []))
    refine own_aload X53 hx (hb hby at_35) rfl rfl ?_
    refine own_iloadN X53 hx (hb hby at_37) rfl ?_
    refine own_iconst X53 hx (v := (1 : Int32)) (hb hby at_38) rfl ?_
    refine own_iand X53 hx (hb hby at_39) ?_
    show Goes _ _ _ _ _ _ (T53.setTop (mkF m 40 #[.val (.int p1), .val (.int p2), .val (.int p3), .val (.int (p1 &&& (3 : Int32))), .val (.int ((p2 &&& (2147483647 : Int32)) % ((p1 &&& (3 : Int32)) + (1 : Int32)))), .val (.ref b49), .val (.int (if (0 : Int32) = (0 : Int32) then (1 : Int32) else (0 : Int32))), .unset, .unset] [(.int (p3 &&& (1 : Int32))), (.ref b49)]))
    have jn48_55 : ∀ (T55 : State) (lc55 : List Loc) (X55 : Stand p l e room_1 (s.setVm s.vm) m #[(.int p1), (.int p2), (.int p3)] below meth c T55 lc55 2 11) (N55 : Fr n0 lc55) (e55 : T55.heap = T51.heap) (w55 : Int32) (hj55 : True), Goes p e below (fun o t L => ReturnedEndW s o t L (24) (1152)) n0 (Q0 Z p1 p2 p3 h0 n0) (T55.setTop (mkF m 48 #[.val (.int p1), .val (.int p2), .val (.int p3), .val (.int (p1 &&& (3 : Int32))), .val (.int ((p2 &&& (2147483647 : Int32)) % ((p1 &&& (3 : Int32)) + (1 : Int32)))), .val (.ref b49), .val (.int (if (0 : Int32) = (0 : Int32) then (1 : Int32) else (0 : Int32))), .unset, .unset] [(.int w55), (.ref b49)])) := by
      intro T55 lc55 X55 N55 e55 w55 hj55
      show Goes _ _ _ _ _ _ (T55.setTop (mkF m 48 #[.val (.int p1), .val (.int p2), .val (.int p3), .val (.int (p1 &&& (3 : Int32))), .val (.int ((p2 &&& (2147483647 : Int32)) % ((p1 &&& (3 : Int32)) + (1 : Int32)))), .val (.ref b49), .val (.int (if (0 : Int32) = (0 : Int32) then (1 : Int32) else (0 : Int32))), .unset, .unset] [(.int w55), (.ref b49)]))
      refine own_iloadN X55 hx (hb hby at_48) rfl ?_
      refine own_callSW X55 hx hZ hown hS0 (Nat.zero_le _) (y := (⟨"com/example/kache/kache/store/ListValueIsEmptyPinLaw", "addOne", "(Lcom/example/kache/kache/store/ListValue;ZI)V"⟩ : MethodName)) (hw _ (List.mem_of_getElem? (i := 21) rfl)) (hw _ (List.mem_of_getElem? (i := 22) rfl)) (hw _ (List.mem_of_getElem? (i := 23) rfl)) (hw _ (List.mem_of_getElem? (i := 24) rfl)) (by decide) (W := 0) (by decide) (by decide) N55 e55 (by rw [hml]; rfl) (argsL := [(.ref b49), (.int w55), (.int p3)]) (rest := []) (lenOf pd_9 rfl) (Nat.le_of_eq rfl) (by decide) (by decide) (rm4 l Z a0 hw [] b49 w55 p3 r_51 (0 : Int32) (0 : Int32) k_51 [.null, .null, .null, .null, .null, .null, .null, .null] T51.heap n0 O52 r51_0 r51_1 r51_2 r51_3 r51_4 (by first | assumption | decide | exact ⟨rfl, rfl⟩) ge_b49 ge_r_51 (by first | assumption | decide | exact ⟨rfl, rfl⟩) r51_6 (by first | assumption | decide | exact ⟨rfl, rfl⟩)) rfl (hb hby at_49) ?_
      intro v56 T56 lc56 k1_56 X56 hS56 hk56_ hZ hown N56 hQ56
      obtain ⟨hd2_56, vs2_56, rfl, K56, r56_0, r56_1, r56_2, r56_3, r56_4, r56_5, r56_6⟩ := hQ56
      have O57 := O52.keep K56 (allS ge_b49 (allS ge_r_51 all0))
      show Goes _ _ _ _ _ _ (T56.setTop (mkF m 52 #[.val (.int p1), .val (.int p2), .val (.int p3), .val (.int (p1 &&& (3 : Int32))), .val (.int ((p2 &&& (2147483647 : Int32)) % ((p1 &&& (3 : Int32)) + (1 : Int32)))), .val (.ref b49), .val (.int (if (0 : Int32) = (0 : Int32) then (1 : Int32) else (0 : Int32))), .unset, .unset] []))
      refine own_iloadN X56 hx (hb hby at_52) rfl ?_
      refine own_iconst X56 hx (v := (2 : Int32)) (hb hby at_53) rfl ?_
      refine own_icmpNo X56 hx (hb hby at_54) (flt ((by first | (rw [hca]; done) | (rw [hca]; decide)) : ¬ ((p1 &&& (3 : Int32)) < (2 : Int32)))).1 ?_
      show Goes _ _ _ _ _ _ (T56.setTop (mkF m 57 #[.val (.int p1), .val (.int p2), .val (.int p3), .val (.int (p1 &&& (3 : Int32))), .val (.int ((p2 &&& (2147483647 : Int32)) % ((p1 &&& (3 : Int32)) + (1 : Int32)))), .val (.ref b49), .val (.int (if (0 : Int32) = (0 : Int32) then (1 : Int32) else (0 : Int32))), .unset, .unset] []))
      refine own_aload X56 hx (hb hby at_57) rfl rfl ?_
      refine own_iloadN X56 hx (hb hby at_59) rfl ?_
      refine own_iconst X56 hx (v := (2 : Int32)) (hb hby at_60) rfl ?_
      refine own_iand X56 hx (hb hby at_61) ?_
      show Goes _ _ _ _ _ _ (T56.setTop (mkF m 62 #[.val (.int p1), .val (.int p2), .val (.int p3), .val (.int (p1 &&& (3 : Int32))), .val (.int ((p2 &&& (2147483647 : Int32)) % ((p1 &&& (3 : Int32)) + (1 : Int32)))), .val (.ref b49), .val (.int (if (0 : Int32) = (0 : Int32) then (1 : Int32) else (0 : Int32))), .unset, .unset] [(.int (p3 &&& (2 : Int32))), (.ref b49)]))
      have jn70_59 : ∀ (T59 : State) (lc59 : List Loc) (X59 : Stand p l e room_1 (s.setVm T56.vm) m #[(.int p1), (.int p2), (.int p3)] below meth c T59 lc59 5 44) (N59 : Fr n0 lc59) (e59 : T59.heap = T56.heap) (w59 : Int32) (hj59 : True), Goes p e below (fun o t L => ReturnedEndW s o t L (24) (1152)) n0 (Q0 Z p1 p2 p3 h0 n0) (T59.setTop (mkF m 70 #[.val (.int p1), .val (.int p2), .val (.int p3), .val (.int (p1 &&& (3 : Int32))), .val (.int ((p2 &&& (2147483647 : Int32)) % ((p1 &&& (3 : Int32)) + (1 : Int32)))), .val (.ref b49), .val (.int (if (0 : Int32) = (0 : Int32) then (1 : Int32) else (0 : Int32))), .unset, .unset] [(.int w59), (.ref b49)])) := by
        intro T59 lc59 X59 N59 e59 w59 hj59
        show Goes _ _ _ _ _ _ (T59.setTop (mkF m 70 #[.val (.int p1), .val (.int p2), .val (.int p3), .val (.int (p1 &&& (3 : Int32))), .val (.int ((p2 &&& (2147483647 : Int32)) % ((p1 &&& (3 : Int32)) + (1 : Int32)))), .val (.ref b49), .val (.int (if (0 : Int32) = (0 : Int32) then (1 : Int32) else (0 : Int32))), .unset, .unset] [(.int w59), (.ref b49)]))
        refine own_iloadN X59 hx (hb hby at_70) rfl ?_
        refine own_bipush X59 hx (v := (8 : Int32)) (hb hby at_71) rfl ?_
        refine own_ishr X59 hx (hb hby at_73) ?_
        refine own_callSW X59 hx hZ hown hS56 hk56_ (y := (⟨"com/example/kache/kache/store/ListValueIsEmptyPinLaw", "addOne", "(Lcom/example/kache/kache/store/ListValue;ZI)V"⟩ : MethodName)) (hw _ (List.mem_of_getElem? (i := 21) rfl)) (hw _ (List.mem_of_getElem? (i := 22) rfl)) (hw _ (List.mem_of_getElem? (i := 23) rfl)) (hw _ (List.mem_of_getElem? (i := 24) rfl)) (by decide) (W := 0) (by decide) (by decide) N59 e59 (by rw [hml]; rfl) (argsL := [(.ref b49), (.int w59), (.int (p3 >>> ((8 : Int32) &&& 31)))]) (rest := []) (lenOf pd_9 rfl) (Nat.le_of_eq rfl) (by decide) (by decide) (rm4 l Z a0 hw [] b49 w59 (p3 >>> ((8 : Int32) &&& 31)) r_51 hd2_56 ((0 : Int32) + (1 : Int32)) k_51 vs2_56 T56.heap n0 O57 r56_0 r56_1 r56_2 r56_3 r56_4 r56_5 ge_b49 ge_r_51 r56_6 r51_6 (by first | assumption | decide | exact ⟨rfl, rfl⟩)) rfl (hb hby at_74) ?_
        intro v60 T60 lc60 k1_60 X60 hS60 hk60_ hZ hown N60 hQ60
        obtain ⟨hd2_60, vs2_60, rfl, K60, r60_0, r60_1, r60_2, r60_3, r60_4, r60_5, r60_6⟩ := hQ60
        have O61 := O57.keep K60 (allS ge_b49 (allS ge_r_51 all0))
        have hk61 := Nat.le_trans hk56_ K60.1
        show Goes _ _ _ _ _ _ (T60.setTop (mkF m 77 #[.val (.int p1), .val (.int p2), .val (.int p3), .val (.int (p1 &&& (3 : Int32))), .val (.int ((p2 &&& (2147483647 : Int32)) % ((p1 &&& (3 : Int32)) + (1 : Int32)))), .val (.ref b49), .val (.int (if (0 : Int32) = (0 : Int32) then (1 : Int32) else (0 : Int32))), .unset, .unset] []))
        refine own_iloadN X60 hx (hb hby at_77) rfl ?_
        refine own_iconst X60 hx (v := (3 : Int32)) (hb hby at_78) rfl ?_
        refine own_icmpYes X60 hx (pc' := 102) (hb hby at_79) (tlt ((by first | (rw [hca]; done) | (rw [hca]; decide)) : (p1 &&& (3 : Int32)) < (3 : Int32))).1 (by decide) (by decide) ?_
        show Goes _ _ _ _ _ _ (T60.setTop (mkF m 102 #[.val (.int p1), .val (.int p2), .val (.int p3), .val (.int (p1 &&& (3 : Int32))), .val (.int ((p2 &&& (2147483647 : Int32)) % ((p1 &&& (3 : Int32)) + (1 : Int32)))), .val (.ref b49), .val (.int (if (0 : Int32) = (0 : Int32) then (1 : Int32) else (0 : Int32))), .unset, .unset] []))
        refine own_aload X60 hx (hb hby at_102) rfl rfl ?_
        refine own_virtual X60 hx hZ hown (y := (⟨"com/example/kache/kache/store/ListValue", "isEmpty", "()Z"⟩ : MethodName)) (z := (⟨"com/example/kache/kache/store/ListValue", "isEmpty", "()Z"⟩ : MethodName)) (hw _ (List.mem_of_getElem? (i := 14) rfl)) (hw _ (List.mem_of_getElem? (i := 15) rfl)) (notFace_of_selects (args := #[]) (mvT hZ (hw _ (List.mem_of_getElem? (i := 17) rfl)))) (hw _ (List.mem_of_getElem? (i := 17) rfl)) (hw _ (List.mem_of_getElem? (i := 16) rfl)) (hw _ (List.mem_of_getElem? (i := 3) rfl)) (hw _ (List.mem_of_getElem? (i := 18) rfl)) (a := b49) r60_0 (by decide) (W := 0) (by decide) (by decide) N60 rfl (by rw [hml]; rfl) (argsL := []) (rest := []) (lenOf pd_8 rfl) (Nat.le_of_eq rfl) (by decide) (by decide) (rm3 l Z a0 hw [] b49 (((0 : Int32) + (1 : Int32)) + (1 : Int32)) T60.heap n0 O61 r60_3) rfl (hb hby at_104) ?_
        intro v62 T62 lc62 X62 N62 hQ62
        obtain ⟨rfl, e62⟩ := hQ62
        show Goes _ _ _ _ _ _ (T62.setTop (mkF m 107 #[.val (.int p1), .val (.int p2), .val (.int p3), .val (.int (p1 &&& (3 : Int32))), .val (.int ((p2 &&& (2147483647 : Int32)) % ((p1 &&& (3 : Int32)) + (1 : Int32)))), .val (.ref b49), .val (.int (if (0 : Int32) = (0 : Int32) then (1 : Int32) else (0 : Int32))), .unset, .unset] [(.int (if (((0 : Int32) + (1 : Int32)) + (1 : Int32)) = (0 : Int32) then (1 : Int32) else (0 : Int32)))]))
        refine own_istore X62 hx (Ls' := #[.val (.int p1), .val (.int p2), .val (.int p3), .val (.int (p1 &&& (3 : Int32))), .val (.int ((p2 &&& (2147483647 : Int32)) % ((p1 &&& (3 : Int32)) + (1 : Int32)))), .val (.ref b49), .val (.int (if (0 : Int32) = (0 : Int32) then (1 : Int32) else (0 : Int32))), .val (.int (if (((0 : Int32) + (1 : Int32)) + (1 : Int32)) = (0 : Int32) then (1 : Int32) else (0 : Int32))), .unset]) (hb hby at_107) rfl ?_
        refine own_iload X62 hx (hb hby at_109) rfl ?_
        refine own_iconst X62 hx (v := (1 : Int32)) (hb hby at_111) rfl ?_
        refine own_icmpNo X62 hx (hb hby at_112) (flt ((by first | (rw [hcr]; done) | (rw [hcr]; decide)) : ¬ (((p2 &&& (2147483647 : Int32)) % ((p1 &&& (3 : Int32)) + (1 : Int32))) < (1 : Int32)))).1 ?_
        show Goes _ _ _ _ _ _ (T62.setTop (mkF m 115 #[.val (.int p1), .val (.int p2), .val (.int p3), .val (.int (p1 &&& (3 : Int32))), .val (.int ((p2 &&& (2147483647 : Int32)) % ((p1 &&& (3 : Int32)) + (1 : Int32)))), .val (.ref b49), .val (.int (if (0 : Int32) = (0 : Int32) then (1 : Int32) else (0 : Int32))), .val (.int (if (((0 : Int32) + (1 : Int32)) + (1 : Int32)) = (0 : Int32) then (1 : Int32) else (0 : Int32))), .unset] []))
        refine own_aload X62 hx (hb hby at_115) rfl rfl ?_
        refine own_iloadN X62 hx (hb hby at_117) rfl ?_
        refine own_bipush X62 hx (v := (8 : Int32)) (hb hby at_118) rfl ?_
        refine own_iand X62 hx (hb hby at_120) ?_
        show Goes _ _ _ _ _ _ (T62.setTop (mkF m 121 #[.val (.int p1), .val (.int p2), .val (.int p3), .val (.int (p1 &&& (3 : Int32))), .val (.int ((p2 &&& (2147483647 : Int32)) % ((p1 &&& (3 : Int32)) + (1 : Int32)))), .val (.ref b49), .val (.int (if (0 : Int32) = (0 : Int32) then (1 : Int32) else (0 : Int32))), .val (.int (if (((0 : Int32) + (1 : Int32)) + (1 : Int32)) = (0 : Int32) then (1 : Int32) else (0 : Int32))), .unset] [(.int (p3 &&& (8 : Int32))), (.ref b49)]))
        have jn129_64 : ∀ (T64 : State) (lc64 : List Loc) (X64 : Stand p l e room_1 (s.setVm T60.vm) m #[(.int p1), (.int p2), (.int p3)] below meth c T64 lc64 8 77) (N64 : Fr n0 lc64) (e64 : T64.heap = T60.heap) (w64 : Int32) (hj64 : True), Goes p e below (fun o t L => ReturnedEndW s o t L (24) (1152)) n0 (Q0 Z p1 p2 p3 h0 n0) (T64.setTop (mkF m 129 #[.val (.int p1), .val (.int p2), .val (.int p3), .val (.int (p1 &&& (3 : Int32))), .val (.int ((p2 &&& (2147483647 : Int32)) % ((p1 &&& (3 : Int32)) + (1 : Int32)))), .val (.ref b49), .val (.int (if (0 : Int32) = (0 : Int32) then (1 : Int32) else (0 : Int32))), .val (.int (if (((0 : Int32) + (1 : Int32)) + (1 : Int32)) = (0 : Int32) then (1 : Int32) else (0 : Int32))), .unset] [(.int w64), (.ref b49)])) := by
          intro T64 lc64 X64 N64 e64 w64 hj64
          show Goes _ _ _ _ _ _ (T64.setTop (mkF m 129 #[.val (.int p1), .val (.int p2), .val (.int p3), .val (.int (p1 &&& (3 : Int32))), .val (.int ((p2 &&& (2147483647 : Int32)) % ((p1 &&& (3 : Int32)) + (1 : Int32)))), .val (.ref b49), .val (.int (if (0 : Int32) = (0 : Int32) then (1 : Int32) else (0 : Int32))), .val (.int (if (((0 : Int32) + (1 : Int32)) + (1 : Int32)) = (0 : Int32) then (1 : Int32) else (0 : Int32))), .unset] [(.int w64), (.ref b49)]))
          refine own_callS X64 hx hZ hown (y := (⟨"com/example/kache/kache/store/ListValueIsEmptyPinLaw", "removeOne", "(Lcom/example/kache/kache/store/ListValue;Z)V"⟩ : MethodName)) (hw _ (List.mem_of_getElem? (i := 58) rfl)) (hw _ (List.mem_of_getElem? (i := 59) rfl)) (hw _ (List.mem_of_getElem? (i := 23) rfl)) (hw _ (List.mem_of_getElem? (i := 60) rfl)) (by decide) (W := 0) (by decide) (by decide) N64 e64 (by rw [hml]; rfl) (argsL := [(.ref b49), (.int w64)]) (rest := []) (lenOf pd_10 rfl) (Nat.le_of_eq rfl) (by decide) (by decide) (rm10 l Z a0 hw [] b49 w64 r_51 hd2_60 (((0 : Int32) + (1 : Int32)) + (1 : Int32)) k_51 vs2_60 T60.heap n0 O61 r60_0 r60_1 r60_2 r60_3 r60_4 r60_5 ge_b49 ge_r_51 r60_6 r51_6 (by first | assumption | decide | exact ⟨rfl, rfl⟩)) rfl (hb hby at_129) ?_
          intro v65 T65 lc65 X65 N65 hQ65
          obtain ⟨hd2_65, vs2_65, rfl, K65, r65_0, r65_1, r65_2, r65_3, r65_4, r65_5, r65_6⟩ := hQ65
          have O66 := O61.keep K65 (allS ge_b49 (allS ge_r_51 all0))
          have hk66 := Nat.le_trans hk60_ K65.1
          show Goes _ _ _ _ _ _ (T65.setTop (mkF m 132 #[.val (.int p1), .val (.int p2), .val (.int p3), .val (.int (p1 &&& (3 : Int32))), .val (.int ((p2 &&& (2147483647 : Int32)) % ((p1 &&& (3 : Int32)) + (1 : Int32)))), .val (.ref b49), .val (.int (if (0 : Int32) = (0 : Int32) then (1 : Int32) else (0 : Int32))), .val (.int (if (((0 : Int32) + (1 : Int32)) + (1 : Int32)) = (0 : Int32) then (1 : Int32) else (0 : Int32))), .unset] []))
          refine own_iload X65 hx (hb hby at_132) rfl ?_
          refine own_iconst X65 hx (v := (2 : Int32)) (hb hby at_134) rfl ?_
          refine own_icmpYes X65 hx (pc' := 155) (hb hby at_135) (tlt ((by first | (rw [hcr]; done) | (rw [hcr]; decide)) : ((p2 &&& (2147483647 : Int32)) % ((p1 &&& (3 : Int32)) + (1 : Int32))) < (2 : Int32))).1 (by decide) (by decide) ?_
          show Goes _ _ _ _ _ _ (T65.setTop (mkF m 155 #[.val (.int p1), .val (.int p2), .val (.int p3), .val (.int (p1 &&& (3 : Int32))), .val (.int ((p2 &&& (2147483647 : Int32)) % ((p1 &&& (3 : Int32)) + (1 : Int32)))), .val (.ref b49), .val (.int (if (0 : Int32) = (0 : Int32) then (1 : Int32) else (0 : Int32))), .val (.int (if (((0 : Int32) + (1 : Int32)) + (1 : Int32)) = (0 : Int32) then (1 : Int32) else (0 : Int32))), .unset] []))
          refine own_iload X65 hx (hb hby at_155) rfl ?_
          refine own_iconst X65 hx (v := (3 : Int32)) (hb hby at_157) rfl ?_
          refine own_icmpYes X65 hx (pc' := 178) (hb hby at_158) (tlt ((by first | (rw [hcr]; done) | (rw [hcr]; decide)) : ((p2 &&& (2147483647 : Int32)) % ((p1 &&& (3 : Int32)) + (1 : Int32))) < (3 : Int32))).1 (by decide) (by decide) ?_
          show Goes _ _ _ _ _ _ (T65.setTop (mkF m 178 #[.val (.int p1), .val (.int p2), .val (.int p3), .val (.int (p1 &&& (3 : Int32))), .val (.int ((p2 &&& (2147483647 : Int32)) % ((p1 &&& (3 : Int32)) + (1 : Int32)))), .val (.ref b49), .val (.int (if (0 : Int32) = (0 : Int32) then (1 : Int32) else (0 : Int32))), .val (.int (if (((0 : Int32) + (1 : Int32)) + (1 : Int32)) = (0 : Int32) then (1 : Int32) else (0 : Int32))), .unset] []))
          refine own_aload X65 hx (hb hby at_178) rfl rfl ?_
          refine own_virtual X65 hx hZ hown (y := (⟨"com/example/kache/kache/store/ListValue", "isEmpty", "()Z"⟩ : MethodName)) (z := (⟨"com/example/kache/kache/store/ListValue", "isEmpty", "()Z"⟩ : MethodName)) (hw _ (List.mem_of_getElem? (i := 14) rfl)) (hw _ (List.mem_of_getElem? (i := 15) rfl)) (notFace_of_selects (args := #[]) (mvT hZ (hw _ (List.mem_of_getElem? (i := 17) rfl)))) (hw _ (List.mem_of_getElem? (i := 17) rfl)) (hw _ (List.mem_of_getElem? (i := 16) rfl)) (hw _ (List.mem_of_getElem? (i := 3) rfl)) (hw _ (List.mem_of_getElem? (i := 18) rfl)) (a := b49) r65_0 (by decide) (W := 0) (by decide) (by decide) N65 rfl (by rw [hml]; rfl) (argsL := []) (rest := []) (lenOf pd_8 rfl) (Nat.le_of_eq rfl) (by decide) (by decide) (rm3 l Z a0 hw [] b49 ((((0 : Int32) + (1 : Int32)) + (1 : Int32)) - (1 : Int32)) T65.heap n0 O66 r65_3) rfl (hb hby at_180) ?_
          intro v67 T67 lc67 X67 N67 hQ67
          obtain ⟨rfl, e67⟩ := hQ67
          show Goes _ _ _ _ _ _ (T67.setTop (mkF m 183 #[.val (.int p1), .val (.int p2), .val (.int p3), .val (.int (p1 &&& (3 : Int32))), .val (.int ((p2 &&& (2147483647 : Int32)) % ((p1 &&& (3 : Int32)) + (1 : Int32)))), .val (.ref b49), .val (.int (if (0 : Int32) = (0 : Int32) then (1 : Int32) else (0 : Int32))), .val (.int (if (((0 : Int32) + (1 : Int32)) + (1 : Int32)) = (0 : Int32) then (1 : Int32) else (0 : Int32))), .unset] [(.int (if ((((0 : Int32) + (1 : Int32)) + (1 : Int32)) - (1 : Int32)) = (0 : Int32) then (1 : Int32) else (0 : Int32)))]))
          refine own_istore X67 hx (Ls' := #[.val (.int p1), .val (.int p2), .val (.int p3), .val (.int (p1 &&& (3 : Int32))), .val (.int ((p2 &&& (2147483647 : Int32)) % ((p1 &&& (3 : Int32)) + (1 : Int32)))), .val (.ref b49), .val (.int (if (0 : Int32) = (0 : Int32) then (1 : Int32) else (0 : Int32))), .val (.int (if (((0 : Int32) + (1 : Int32)) + (1 : Int32)) = (0 : Int32) then (1 : Int32) else (0 : Int32))), .val (.int (if ((((0 : Int32) + (1 : Int32)) + (1 : Int32)) - (1 : Int32)) = (0 : Int32) then (1 : Int32) else (0 : Int32)))]) (hb hby at_183) rfl ?_
          refine own_iload X67 hx (hb hby at_185) rfl ?_
          refine own_ifNo X67 hx (hb hby at_187) ((if0 _ _).trans (feq ((own_bnz (not_not_intro (by decide))) : ¬ ((if (0 : Int32) = (0 : Int32) then (1 : Int32) else (0 : Int32)) = (0 : Int32)))).1) ?_
          show Goes _ _ _ _ _ _ (T67.setTop (mkF m 190 #[.val (.int p1), .val (.int p2), .val (.int p3), .val (.int (p1 &&& (3 : Int32))), .val (.int ((p2 &&& (2147483647 : Int32)) % ((p1 &&& (3 : Int32)) + (1 : Int32)))), .val (.ref b49), .val (.int (if (0 : Int32) = (0 : Int32) then (1 : Int32) else (0 : Int32))), .val (.int (if (((0 : Int32) + (1 : Int32)) + (1 : Int32)) = (0 : Int32) then (1 : Int32) else (0 : Int32))), .val (.int (if ((((0 : Int32) + (1 : Int32)) + (1 : Int32)) - (1 : Int32)) = (0 : Int32) then (1 : Int32) else (0 : Int32)))] []))
          refine own_iload X67 hx (hb hby at_190) rfl ?_
          refine own_iloadN X67 hx (hb hby at_192) rfl ?_
          refine own_ifYes X67 hx (pc' := 200) (hb hby at_193) ((if0 _ _).trans (feq ((by first | (rw [hca]; done) | (rw [hca]; decide)) : ¬ ((p1 &&& (3 : Int32)) = (0 : Int32)))).2) (by decide) (by decide) ?_
          show Goes _ _ _ _ _ _ (T67.setTop (mkF m 200 #[.val (.int p1), .val (.int p2), .val (.int p3), .val (.int (p1 &&& (3 : Int32))), .val (.int ((p2 &&& (2147483647 : Int32)) % ((p1 &&& (3 : Int32)) + (1 : Int32)))), .val (.ref b49), .val (.int (if (0 : Int32) = (0 : Int32) then (1 : Int32) else (0 : Int32))), .val (.int (if (((0 : Int32) + (1 : Int32)) + (1 : Int32)) = (0 : Int32) then (1 : Int32) else (0 : Int32))), .val (.int (if ((((0 : Int32) + (1 : Int32)) + (1 : Int32)) - (1 : Int32)) = (0 : Int32) then (1 : Int32) else (0 : Int32)))] [(.int (if (((0 : Int32) + (1 : Int32)) + (1 : Int32)) = (0 : Int32) then (1 : Int32) else (0 : Int32)))]))
          refine own_iconst X67 hx (v := (0 : Int32)) (hb hby at_200) rfl ?_
          refine own_icmpNo X67 hx (hb hby at_201) (teq ((by first | (rw [if_neg (show ¬ ((((0 : Int32) + (1 : Int32)) + (1 : Int32)) = (0 : Int32)) by decide)]; done) | (rw [if_neg (show ¬ ((((0 : Int32) + (1 : Int32)) + (1 : Int32)) = (0 : Int32)) by decide)]; decide)) : (if (((0 : Int32) + (1 : Int32)) + (1 : Int32)) = (0 : Int32) then (1 : Int32) else (0 : Int32)) = (0 : Int32))).2 ?_
          show Goes _ _ _ _ _ _ (T67.setTop (mkF m 204 #[.val (.int p1), .val (.int p2), .val (.int p3), .val (.int (p1 &&& (3 : Int32))), .val (.int ((p2 &&& (2147483647 : Int32)) % ((p1 &&& (3 : Int32)) + (1 : Int32)))), .val (.ref b49), .val (.int (if (0 : Int32) = (0 : Int32) then (1 : Int32) else (0 : Int32))), .val (.int (if (((0 : Int32) + (1 : Int32)) + (1 : Int32)) = (0 : Int32) then (1 : Int32) else (0 : Int32))), .val (.int (if ((((0 : Int32) + (1 : Int32)) + (1 : Int32)) - (1 : Int32)) = (0 : Int32) then (1 : Int32) else (0 : Int32)))] []))
          refine own_iload X67 hx (hb hby at_204) rfl ?_
          refine own_iloadN X67 hx (hb hby at_206) rfl ?_
          refine own_iload X67 hx (hb hby at_207) rfl ?_
          refine own_icmpYes X67 hx (pc' := 216) (hb hby at_209) (feq ((by first | (rw [hca, hcr]; done) | (rw [hca, hcr]; decide) | (rw [hcr, hca]; done) | (rw [hcr, hca]; decide)) : ¬ ((p1 &&& (3 : Int32)) = ((p2 &&& (2147483647 : Int32)) % ((p1 &&& (3 : Int32)) + (1 : Int32)))))).2 (by decide) (by decide) ?_
          show Goes _ _ _ _ _ _ (T67.setTop (mkF m 216 #[.val (.int p1), .val (.int p2), .val (.int p3), .val (.int (p1 &&& (3 : Int32))), .val (.int ((p2 &&& (2147483647 : Int32)) % ((p1 &&& (3 : Int32)) + (1 : Int32)))), .val (.ref b49), .val (.int (if (0 : Int32) = (0 : Int32) then (1 : Int32) else (0 : Int32))), .val (.int (if (((0 : Int32) + (1 : Int32)) + (1 : Int32)) = (0 : Int32) then (1 : Int32) else (0 : Int32))), .val (.int (if ((((0 : Int32) + (1 : Int32)) + (1 : Int32)) - (1 : Int32)) = (0 : Int32) then (1 : Int32) else (0 : Int32)))] [(.int (if ((((0 : Int32) + (1 : Int32)) + (1 : Int32)) - (1 : Int32)) = (0 : Int32) then (1 : Int32) else (0 : Int32)))]))
          refine own_iconst X67 hx (v := (0 : Int32)) (hb hby at_216) rfl ?_
          refine own_icmpNo X67 hx (hb hby at_217) (teq ((by first | (rw [if_neg (show ¬ (((((0 : Int32) + (1 : Int32)) + (1 : Int32)) - (1 : Int32)) = (0 : Int32)) by decide)]; done) | (rw [if_neg (show ¬ (((((0 : Int32) + (1 : Int32)) + (1 : Int32)) - (1 : Int32)) = (0 : Int32)) by decide)]; decide)) : (if ((((0 : Int32) + (1 : Int32)) + (1 : Int32)) - (1 : Int32)) = (0 : Int32) then (1 : Int32) else (0 : Int32)) = (0 : Int32))).2 ?_
          show Goes _ _ _ _ _ _ (T67.setTop (mkF m 220 #[.val (.int p1), .val (.int p2), .val (.int p3), .val (.int (p1 &&& (3 : Int32))), .val (.int ((p2 &&& (2147483647 : Int32)) % ((p1 &&& (3 : Int32)) + (1 : Int32)))), .val (.ref b49), .val (.int (if (0 : Int32) = (0 : Int32) then (1 : Int32) else (0 : Int32))), .val (.int (if (((0 : Int32) + (1 : Int32)) + (1 : Int32)) = (0 : Int32) then (1 : Int32) else (0 : Int32))), .val (.int (if ((((0 : Int32) + (1 : Int32)) + (1 : Int32)) - (1 : Int32)) = (0 : Int32) then (1 : Int32) else (0 : Int32)))] []))
          refine own_iconst X67 hx (v := (1 : Int32)) (hb hby at_220) rfl ?_
          refine own_goto X67 hx (pc' := 225) (hb hby at_221) (by decide) (by decide) ?_
          show Goes _ _ _ _ _ _ (T67.setTop (mkF m 225 #[.val (.int p1), .val (.int p2), .val (.int p3), .val (.int (p1 &&& (3 : Int32))), .val (.int ((p2 &&& (2147483647 : Int32)) % ((p1 &&& (3 : Int32)) + (1 : Int32)))), .val (.ref b49), .val (.int (if (0 : Int32) = (0 : Int32) then (1 : Int32) else (0 : Int32))), .val (.int (if (((0 : Int32) + (1 : Int32)) + (1 : Int32)) = (0 : Int32) then (1 : Int32) else (0 : Int32))), .val (.int (if ((((0 : Int32) + (1 : Int32)) + (1 : Int32)) - (1 : Int32)) = (0 : Int32) then (1 : Int32) else (0 : Int32)))] [(.int (1 : Int32))]))
          exact own_retNW X67 hx (t := .boolean) hS60 (by rw [e67]; exact hk66) N67 hlk (by decide) (by decide) hret (by simp) (hb hby at_225) (by rw [e67]; exact rfl)
        by_cases hc121_63 : (p3 &&& (8 : Int32)) = (0 : Int32)
        ·
          refine own_ifYes X62 hx (pc' := 128) (hb hby at_121) ((if0 _ _).trans (teq (hc121_63 : (p3 &&& (8 : Int32)) = (0 : Int32))).1) (by decide) (by decide) ?_
          show Goes _ _ _ _ _ _ (T62.setTop (mkF m 128 #[.val (.int p1), .val (.int p2), .val (.int p3), .val (.int (p1 &&& (3 : Int32))), .val (.int ((p2 &&& (2147483647 : Int32)) % ((p1 &&& (3 : Int32)) + (1 : Int32)))), .val (.ref b49), .val (.int (if (0 : Int32) = (0 : Int32) then (1 : Int32) else (0 : Int32))), .val (.int (if (((0 : Int32) + (1 : Int32)) + (1 : Int32)) = (0 : Int32) then (1 : Int32) else (0 : Int32))), .unset] [(.ref b49)]))
          refine own_iconst X62 hx (v := (0 : Int32)) (hb hby at_128) rfl ?_
          show Goes _ _ _ _ _ _ (T62.setTop (mkF m 129 #[.val (.int p1), .val (.int p2), .val (.int p3), .val (.int (p1 &&& (3 : Int32))), .val (.int ((p2 &&& (2147483647 : Int32)) % ((p1 &&& (3 : Int32)) + (1 : Int32)))), .val (.ref b49), .val (.int (if (0 : Int32) = (0 : Int32) then (1 : Int32) else (0 : Int32))), .val (.int (if (((0 : Int32) + (1 : Int32)) + (1 : Int32)) = (0 : Int32) then (1 : Int32) else (0 : Int32))), .unset] [(.int (0 : Int32)), (.ref b49)]))
          exact jn129_64 T62 _ X62 N62 e62 (0 : Int32) trivial
        ·
          refine own_ifNo X62 hx (hb hby at_121) ((if0 _ _).trans (feq (hc121_63 : ¬ ((p3 &&& (8 : Int32)) = (0 : Int32)))).1) ?_
          show Goes _ _ _ _ _ _ (T62.setTop (mkF m 124 #[.val (.int p1), .val (.int p2), .val (.int p3), .val (.int (p1 &&& (3 : Int32))), .val (.int ((p2 &&& (2147483647 : Int32)) % ((p1 &&& (3 : Int32)) + (1 : Int32)))), .val (.ref b49), .val (.int (if (0 : Int32) = (0 : Int32) then (1 : Int32) else (0 : Int32))), .val (.int (if (((0 : Int32) + (1 : Int32)) + (1 : Int32)) = (0 : Int32) then (1 : Int32) else (0 : Int32))), .unset] [(.ref b49)]))
          refine own_iconst X62 hx (v := (1 : Int32)) (hb hby at_124) rfl ?_
          refine own_goto X62 hx (pc' := 129) (hb hby at_125) (by decide) (by decide) ?_
          show Goes _ _ _ _ _ _ (T62.setTop (mkF m 129 #[.val (.int p1), .val (.int p2), .val (.int p3), .val (.int (p1 &&& (3 : Int32))), .val (.int ((p2 &&& (2147483647 : Int32)) % ((p1 &&& (3 : Int32)) + (1 : Int32)))), .val (.ref b49), .val (.int (if (0 : Int32) = (0 : Int32) then (1 : Int32) else (0 : Int32))), .val (.int (if (((0 : Int32) + (1 : Int32)) + (1 : Int32)) = (0 : Int32) then (1 : Int32) else (0 : Int32))), .unset] [(.int (1 : Int32)), (.ref b49)]))
          exact jn129_64 T62 _ X62 N62 e62 (1 : Int32) trivial
      by_cases hc62_58 : (p3 &&& (2 : Int32)) = (0 : Int32)
      ·
        refine own_ifYes X56 hx (pc' := 69) (hb hby at_62) ((if0 _ _).trans (teq (hc62_58 : (p3 &&& (2 : Int32)) = (0 : Int32))).1) (by decide) (by decide) ?_
        show Goes _ _ _ _ _ _ (T56.setTop (mkF m 69 #[.val (.int p1), .val (.int p2), .val (.int p3), .val (.int (p1 &&& (3 : Int32))), .val (.int ((p2 &&& (2147483647 : Int32)) % ((p1 &&& (3 : Int32)) + (1 : Int32)))), .val (.ref b49), .val (.int (if (0 : Int32) = (0 : Int32) then (1 : Int32) else (0 : Int32))), .unset, .unset] [(.ref b49)]))
        refine own_iconst X56 hx (v := (0 : Int32)) (hb hby at_69) rfl ?_
        show Goes _ _ _ _ _ _ (T56.setTop (mkF m 70 #[.val (.int p1), .val (.int p2), .val (.int p3), .val (.int (p1 &&& (3 : Int32))), .val (.int ((p2 &&& (2147483647 : Int32)) % ((p1 &&& (3 : Int32)) + (1 : Int32)))), .val (.ref b49), .val (.int (if (0 : Int32) = (0 : Int32) then (1 : Int32) else (0 : Int32))), .unset, .unset] [(.int (0 : Int32)), (.ref b49)]))
        exact jn70_59 T56 _ X56 N56 rfl (0 : Int32) trivial
      ·
        refine own_ifNo X56 hx (hb hby at_62) ((if0 _ _).trans (feq (hc62_58 : ¬ ((p3 &&& (2 : Int32)) = (0 : Int32)))).1) ?_
        show Goes _ _ _ _ _ _ (T56.setTop (mkF m 65 #[.val (.int p1), .val (.int p2), .val (.int p3), .val (.int (p1 &&& (3 : Int32))), .val (.int ((p2 &&& (2147483647 : Int32)) % ((p1 &&& (3 : Int32)) + (1 : Int32)))), .val (.ref b49), .val (.int (if (0 : Int32) = (0 : Int32) then (1 : Int32) else (0 : Int32))), .unset, .unset] [(.ref b49)]))
        refine own_iconst X56 hx (v := (1 : Int32)) (hb hby at_65) rfl ?_
        refine own_goto X56 hx (pc' := 70) (hb hby at_66) (by decide) (by decide) ?_
        show Goes _ _ _ _ _ _ (T56.setTop (mkF m 70 #[.val (.int p1), .val (.int p2), .val (.int p3), .val (.int (p1 &&& (3 : Int32))), .val (.int ((p2 &&& (2147483647 : Int32)) % ((p1 &&& (3 : Int32)) + (1 : Int32)))), .val (.ref b49), .val (.int (if (0 : Int32) = (0 : Int32) then (1 : Int32) else (0 : Int32))), .unset, .unset] [(.int (1 : Int32)), (.ref b49)]))
        exact jn70_59 T56 _ X56 N56 rfl (1 : Int32) trivial
    by_cases hc40_54 : (p3 &&& (1 : Int32)) = (0 : Int32)
    ·
      refine own_ifYes X53 hx (pc' := 47) (hb hby at_40) ((if0 _ _).trans (teq (hc40_54 : (p3 &&& (1 : Int32)) = (0 : Int32))).1) (by decide) (by decide) ?_
      show Goes _ _ _ _ _ _ (T53.setTop (mkF m 47 #[.val (.int p1), .val (.int p2), .val (.int p3), .val (.int (p1 &&& (3 : Int32))), .val (.int ((p2 &&& (2147483647 : Int32)) % ((p1 &&& (3 : Int32)) + (1 : Int32)))), .val (.ref b49), .val (.int (if (0 : Int32) = (0 : Int32) then (1 : Int32) else (0 : Int32))), .unset, .unset] [(.ref b49)]))
      refine own_iconst X53 hx (v := (0 : Int32)) (hb hby at_47) rfl ?_
      show Goes _ _ _ _ _ _ (T53.setTop (mkF m 48 #[.val (.int p1), .val (.int p2), .val (.int p3), .val (.int (p1 &&& (3 : Int32))), .val (.int ((p2 &&& (2147483647 : Int32)) % ((p1 &&& (3 : Int32)) + (1 : Int32)))), .val (.ref b49), .val (.int (if (0 : Int32) = (0 : Int32) then (1 : Int32) else (0 : Int32))), .unset, .unset] [(.int (0 : Int32)), (.ref b49)]))
      exact jn48_55 T53 _ X53 N53 e53 (0 : Int32) trivial
    ·
      refine own_ifNo X53 hx (hb hby at_40) ((if0 _ _).trans (feq (hc40_54 : ¬ ((p3 &&& (1 : Int32)) = (0 : Int32)))).1) ?_
      show Goes _ _ _ _ _ _ (T53.setTop (mkF m 43 #[.val (.int p1), .val (.int p2), .val (.int p3), .val (.int (p1 &&& (3 : Int32))), .val (.int ((p2 &&& (2147483647 : Int32)) % ((p1 &&& (3 : Int32)) + (1 : Int32)))), .val (.ref b49), .val (.int (if (0 : Int32) = (0 : Int32) then (1 : Int32) else (0 : Int32))), .unset, .unset] [(.ref b49)]))
      refine own_iconst X53 hx (v := (1 : Int32)) (hb hby at_43) rfl ?_
      refine own_goto X53 hx (pc' := 48) (hb hby at_44) (by decide) (by decide) ?_
      show Goes _ _ _ _ _ _ (T53.setTop (mkF m 48 #[.val (.int p1), .val (.int p2), .val (.int p3), .val (.int (p1 &&& (3 : Int32))), .val (.int ((p2 &&& (2147483647 : Int32)) % ((p1 &&& (3 : Int32)) + (1 : Int32)))), .val (.ref b49), .val (.int (if (0 : Int32) = (0 : Int32) then (1 : Int32) else (0 : Int32))), .unset, .unset] [(.int (1 : Int32)), (.ref b49)]))
      exact jn48_55 T53 _ X53 N53 e53 (1 : Int32) trivial
  ·
    show Goes _ _ _ _ _ _ (T0.setTop (mkF m 14 #[.val (.int p1), .val (.int p2), .val (.int p3), .val (.int (p1 &&& (3 : Int32))), .val (.int ((p2 &&& (2147483647 : Int32)) % ((p1 &&& (3 : Int32)) + (1 : Int32)))), .unset, .unset, .unset, .unset] []))
    refine own_new X0 hx hZ hown (hw _ (List.mem_of_getElem? (i := 1) rfl)) (hw _ (List.mem_of_getElem? (i := 2) rfl)) (hw _ (List.mem_of_getElem? (i := 3) rfl)) e0 (hb hby at_14) (by decide) (by decide) (fun T68 h68 b68 g68 X68 e68 E68 A68 D68 => ?_)
    have ge_b68 : n0 ≤ b68 := Nat.le_trans (own_sz O0) (Nat.le_of_eq g68.symm)
    have O69 := O0.ext E68
    have F68_ring_b68 : Fld Z h68 b68 "com/example/kache/kache/store/ListValue" "ring" "[[B" .null := D68 (Or.inl (hw _ (List.mem_of_getElem? (i := 13) rfl))) (ty := (.array (.array .byte))) (by decide)
    have F68_size_b68 : Fld Z h68 b68 "com/example/kache/kache/store/ListValue" "size" "I" (.int (0 : Int32)) := D68 (Or.inl (hw _ (List.mem_of_getElem? (i := 20) rfl))) (ty := .int) (by decide)
    have F68_head_b68 : Fld Z h68 b68 "com/example/kache/kache/store/ListValue" "head" "I" (.int (0 : Int32)) := D68 (Or.inl (hw _ (List.mem_of_getElem? (i := 47) rfl))) (ty := .int) (by decide)
    show Goes _ _ _ _ _ _ (T68.setTop (mkF m 17 #[.val (.int p1), .val (.int p2), .val (.int p3), .val (.int (p1 &&& (3 : Int32))), .val (.int ((p2 &&& (2147483647 : Int32)) % ((p1 &&& (3 : Int32)) + (1 : Int32)))), .unset, .unset, .unset, .unset] [(.ref b68)]))
    refine own_dup X68 hx (hb hby at_17) rfl ?_
    refine own_special X68 hx hZ hown (y := (⟨"com/example/kache/kache/store/ListValue", "<init>", "()V"⟩ : MethodName)) rfl (hw _ (List.mem_of_getElem? (i := 4) rfl)) (hw _ (List.mem_of_getElem? (i := 5) rfl)) (hw _ (List.mem_of_getElem? (i := 3) rfl)) (hw _ (List.mem_of_getElem? (i := 6) rfl)) (a := b68) (by decide) (W := 1) (by decide) (by decide) N0 e68 (by rw [hml]; rfl) (argsL := []) (rest := [(.ref b68)]) (lenOf pd_4 rfl) (Nat.le_of_eq rfl) (by decide) (by decide) (rm1 l Z a0 hw [] b68 (.null) h68 n0 O69 A68 F68_ring_b68 F68_head_b68 F68_size_b68 ge_b68) rfl (hb hby at_18) ?_
    intro v70 T70 lc70 X70 N70 hQ70
    obtain ⟨r_70, k_70, rfl, K70, r70_0, r70_1, r70_2, r70_3, r70_4, r70_5, r70_6⟩ := hQ70
    have O71 := O69.keep K70 (allS ge_b68 all0)
    have ge_r_70 : n0 ≤ r_70 := Nat.le_trans (own_sz O69) r70_5
    show Goes _ _ _ _ _ _ (T70.setTop (mkF m 21 #[.val (.int p1), .val (.int p2), .val (.int p3), .val (.int (p1 &&& (3 : Int32))), .val (.int ((p2 &&& (2147483647 : Int32)) % ((p1 &&& (3 : Int32)) + (1 : Int32)))), .unset, .unset, .unset, .unset] [(.ref b68)]))
    refine own_astore X70 hx (Ls' := #[.val (.int p1), .val (.int p2), .val (.int p3), .val (.int (p1 &&& (3 : Int32))), .val (.int ((p2 &&& (2147483647 : Int32)) % ((p1 &&& (3 : Int32)) + (1 : Int32)))), .val (.ref b68), .unset, .unset, .unset]) (hb hby at_21) rfl rfl ?_
    refine own_aload X70 hx (hb hby at_23) rfl rfl ?_
    refine own_virtual X70 hx hZ hown (y := (⟨"com/example/kache/kache/store/ListValue", "isEmpty", "()Z"⟩ : MethodName)) (z := (⟨"com/example/kache/kache/store/ListValue", "isEmpty", "()Z"⟩ : MethodName)) (hw _ (List.mem_of_getElem? (i := 14) rfl)) (hw _ (List.mem_of_getElem? (i := 15) rfl)) (notFace_of_selects (args := #[]) (mvT hZ (hw _ (List.mem_of_getElem? (i := 17) rfl)))) (hw _ (List.mem_of_getElem? (i := 17) rfl)) (hw _ (List.mem_of_getElem? (i := 16) rfl)) (hw _ (List.mem_of_getElem? (i := 3) rfl)) (hw _ (List.mem_of_getElem? (i := 18) rfl)) (a := b68) r70_0 (by decide) (W := 0) (by decide) (by decide) N70 rfl (by rw [hml]; rfl) (argsL := []) (rest := []) (lenOf pd_8 rfl) (Nat.le_of_eq rfl) (by decide) (by decide) (rm3 l Z a0 hw [] b68 (0 : Int32) T70.heap n0 O71 r70_3) rfl (hb hby at_25) ?_
    intro v72 T72 lc72 X72 N72 hQ72
    obtain ⟨rfl, e72⟩ := hQ72
    show Goes _ _ _ _ _ _ (T72.setTop (mkF m 28 #[.val (.int p1), .val (.int p2), .val (.int p3), .val (.int (p1 &&& (3 : Int32))), .val (.int ((p2 &&& (2147483647 : Int32)) % ((p1 &&& (3 : Int32)) + (1 : Int32)))), .val (.ref b68), .unset, .unset, .unset] [(.int (if (0 : Int32) = (0 : Int32) then (1 : Int32) else (0 : Int32)))]))
    refine own_istore X72 hx (Ls' := #[.val (.int p1), .val (.int p2), .val (.int p3), .val (.int (p1 &&& (3 : Int32))), .val (.int ((p2 &&& (2147483647 : Int32)) % ((p1 &&& (3 : Int32)) + (1 : Int32)))), .val (.ref b68), .val (.int (if (0 : Int32) = (0 : Int32) then (1 : Int32) else (0 : Int32))), .unset, .unset]) (hb hby at_28) rfl ?_
    refine own_iloadN X72 hx (hb hby at_30) rfl ?_
    refine own_iconst X72 hx (v := (1 : Int32)) (hb hby at_31) rfl ?_
    refine own_icmpNo X72 hx (hb hby at_32) (flt ((by first | (rw [hca]; done) | (rw [hca]; decide)) : ¬ ((p1 &&& (3 : Int32)) < (1 : Int32)))).1 ?_
    show Goes _ _ _ _ _ _ (T72.setTop (mkF m 35 #[.val (.int p1), .val (.int p2), .val (.int p3), .val (.int (p1 &&& (3 : Int32))), .val (.int ((p2 &&& (2147483647 : Int32)) % ((p1 &&& (3 : Int32)) + (1 : Int32)))), .val (.ref b68), .val (.int (if (0 : Int32) = (0 : Int32) then (1 : Int32) else (0 : Int32))), .unset, .unset] []))
    refine own_aload X72 hx (hb hby at_35) rfl rfl ?_
    refine own_iloadN X72 hx (hb hby at_37) rfl ?_
    refine own_iconst X72 hx (v := (1 : Int32)) (hb hby at_38) rfl ?_
    refine own_iand X72 hx (hb hby at_39) ?_
    show Goes _ _ _ _ _ _ (T72.setTop (mkF m 40 #[.val (.int p1), .val (.int p2), .val (.int p3), .val (.int (p1 &&& (3 : Int32))), .val (.int ((p2 &&& (2147483647 : Int32)) % ((p1 &&& (3 : Int32)) + (1 : Int32)))), .val (.ref b68), .val (.int (if (0 : Int32) = (0 : Int32) then (1 : Int32) else (0 : Int32))), .unset, .unset] [(.int (p3 &&& (1 : Int32))), (.ref b68)]))
    have jn48_74 : ∀ (T74 : State) (lc74 : List Loc) (X74 : Stand p l e room_1 (s.setVm s.vm) m #[(.int p1), (.int p2), (.int p3)] below meth c T74 lc74 2 11) (N74 : Fr n0 lc74) (e74 : T74.heap = T70.heap) (w74 : Int32) (hj74 : True), Goes p e below (fun o t L => ReturnedEndW s o t L (24) (1152)) n0 (Q0 Z p1 p2 p3 h0 n0) (T74.setTop (mkF m 48 #[.val (.int p1), .val (.int p2), .val (.int p3), .val (.int (p1 &&& (3 : Int32))), .val (.int ((p2 &&& (2147483647 : Int32)) % ((p1 &&& (3 : Int32)) + (1 : Int32)))), .val (.ref b68), .val (.int (if (0 : Int32) = (0 : Int32) then (1 : Int32) else (0 : Int32))), .unset, .unset] [(.int w74), (.ref b68)])) := by
      intro T74 lc74 X74 N74 e74 w74 hj74
      show Goes _ _ _ _ _ _ (T74.setTop (mkF m 48 #[.val (.int p1), .val (.int p2), .val (.int p3), .val (.int (p1 &&& (3 : Int32))), .val (.int ((p2 &&& (2147483647 : Int32)) % ((p1 &&& (3 : Int32)) + (1 : Int32)))), .val (.ref b68), .val (.int (if (0 : Int32) = (0 : Int32) then (1 : Int32) else (0 : Int32))), .unset, .unset] [(.int w74), (.ref b68)]))
      refine own_iloadN X74 hx (hb hby at_48) rfl ?_
      refine own_callSW X74 hx hZ hown hS0 (Nat.zero_le _) (y := (⟨"com/example/kache/kache/store/ListValueIsEmptyPinLaw", "addOne", "(Lcom/example/kache/kache/store/ListValue;ZI)V"⟩ : MethodName)) (hw _ (List.mem_of_getElem? (i := 21) rfl)) (hw _ (List.mem_of_getElem? (i := 22) rfl)) (hw _ (List.mem_of_getElem? (i := 23) rfl)) (hw _ (List.mem_of_getElem? (i := 24) rfl)) (by decide) (W := 0) (by decide) (by decide) N74 e74 (by rw [hml]; rfl) (argsL := [(.ref b68), (.int w74), (.int p3)]) (rest := []) (lenOf pd_9 rfl) (Nat.le_of_eq rfl) (by decide) (by decide) (rm4 l Z a0 hw [] b68 w74 p3 r_70 (0 : Int32) (0 : Int32) k_70 [.null, .null, .null, .null, .null, .null, .null, .null] T70.heap n0 O71 r70_0 r70_1 r70_2 r70_3 r70_4 (by first | assumption | decide | exact ⟨rfl, rfl⟩) ge_b68 ge_r_70 (by first | assumption | decide | exact ⟨rfl, rfl⟩) r70_6 (by first | assumption | decide | exact ⟨rfl, rfl⟩)) rfl (hb hby at_49) ?_
      intro v75 T75 lc75 k1_75 X75 hS75 hk75_ hZ hown N75 hQ75
      obtain ⟨hd2_75, vs2_75, rfl, K75, r75_0, r75_1, r75_2, r75_3, r75_4, r75_5, r75_6⟩ := hQ75
      have O76 := O71.keep K75 (allS ge_b68 (allS ge_r_70 all0))
      show Goes _ _ _ _ _ _ (T75.setTop (mkF m 52 #[.val (.int p1), .val (.int p2), .val (.int p3), .val (.int (p1 &&& (3 : Int32))), .val (.int ((p2 &&& (2147483647 : Int32)) % ((p1 &&& (3 : Int32)) + (1 : Int32)))), .val (.ref b68), .val (.int (if (0 : Int32) = (0 : Int32) then (1 : Int32) else (0 : Int32))), .unset, .unset] []))
      refine own_iloadN X75 hx (hb hby at_52) rfl ?_
      refine own_iconst X75 hx (v := (2 : Int32)) (hb hby at_53) rfl ?_
      refine own_icmpNo X75 hx (hb hby at_54) (flt ((by first | (rw [hca]; done) | (rw [hca]; decide)) : ¬ ((p1 &&& (3 : Int32)) < (2 : Int32)))).1 ?_
      show Goes _ _ _ _ _ _ (T75.setTop (mkF m 57 #[.val (.int p1), .val (.int p2), .val (.int p3), .val (.int (p1 &&& (3 : Int32))), .val (.int ((p2 &&& (2147483647 : Int32)) % ((p1 &&& (3 : Int32)) + (1 : Int32)))), .val (.ref b68), .val (.int (if (0 : Int32) = (0 : Int32) then (1 : Int32) else (0 : Int32))), .unset, .unset] []))
      refine own_aload X75 hx (hb hby at_57) rfl rfl ?_
      refine own_iloadN X75 hx (hb hby at_59) rfl ?_
      refine own_iconst X75 hx (v := (2 : Int32)) (hb hby at_60) rfl ?_
      refine own_iand X75 hx (hb hby at_61) ?_
      show Goes _ _ _ _ _ _ (T75.setTop (mkF m 62 #[.val (.int p1), .val (.int p2), .val (.int p3), .val (.int (p1 &&& (3 : Int32))), .val (.int ((p2 &&& (2147483647 : Int32)) % ((p1 &&& (3 : Int32)) + (1 : Int32)))), .val (.ref b68), .val (.int (if (0 : Int32) = (0 : Int32) then (1 : Int32) else (0 : Int32))), .unset, .unset] [(.int (p3 &&& (2 : Int32))), (.ref b68)]))
      have jn70_78 : ∀ (T78 : State) (lc78 : List Loc) (X78 : Stand p l e room_1 (s.setVm T75.vm) m #[(.int p1), (.int p2), (.int p3)] below meth c T78 lc78 5 44) (N78 : Fr n0 lc78) (e78 : T78.heap = T75.heap) (w78 : Int32) (hj78 : True), Goes p e below (fun o t L => ReturnedEndW s o t L (24) (1152)) n0 (Q0 Z p1 p2 p3 h0 n0) (T78.setTop (mkF m 70 #[.val (.int p1), .val (.int p2), .val (.int p3), .val (.int (p1 &&& (3 : Int32))), .val (.int ((p2 &&& (2147483647 : Int32)) % ((p1 &&& (3 : Int32)) + (1 : Int32)))), .val (.ref b68), .val (.int (if (0 : Int32) = (0 : Int32) then (1 : Int32) else (0 : Int32))), .unset, .unset] [(.int w78), (.ref b68)])) := by
        intro T78 lc78 X78 N78 e78 w78 hj78
        show Goes _ _ _ _ _ _ (T78.setTop (mkF m 70 #[.val (.int p1), .val (.int p2), .val (.int p3), .val (.int (p1 &&& (3 : Int32))), .val (.int ((p2 &&& (2147483647 : Int32)) % ((p1 &&& (3 : Int32)) + (1 : Int32)))), .val (.ref b68), .val (.int (if (0 : Int32) = (0 : Int32) then (1 : Int32) else (0 : Int32))), .unset, .unset] [(.int w78), (.ref b68)]))
        refine own_iloadN X78 hx (hb hby at_70) rfl ?_
        refine own_bipush X78 hx (v := (8 : Int32)) (hb hby at_71) rfl ?_
        refine own_ishr X78 hx (hb hby at_73) ?_
        refine own_callSW X78 hx hZ hown hS75 hk75_ (y := (⟨"com/example/kache/kache/store/ListValueIsEmptyPinLaw", "addOne", "(Lcom/example/kache/kache/store/ListValue;ZI)V"⟩ : MethodName)) (hw _ (List.mem_of_getElem? (i := 21) rfl)) (hw _ (List.mem_of_getElem? (i := 22) rfl)) (hw _ (List.mem_of_getElem? (i := 23) rfl)) (hw _ (List.mem_of_getElem? (i := 24) rfl)) (by decide) (W := 0) (by decide) (by decide) N78 e78 (by rw [hml]; rfl) (argsL := [(.ref b68), (.int w78), (.int (p3 >>> ((8 : Int32) &&& 31)))]) (rest := []) (lenOf pd_9 rfl) (Nat.le_of_eq rfl) (by decide) (by decide) (rm4 l Z a0 hw [] b68 w78 (p3 >>> ((8 : Int32) &&& 31)) r_70 hd2_75 ((0 : Int32) + (1 : Int32)) k_70 vs2_75 T75.heap n0 O76 r75_0 r75_1 r75_2 r75_3 r75_4 r75_5 ge_b68 ge_r_70 r75_6 r70_6 (by first | assumption | decide | exact ⟨rfl, rfl⟩)) rfl (hb hby at_74) ?_
        intro v79 T79 lc79 k1_79 X79 hS79 hk79_ hZ hown N79 hQ79
        obtain ⟨hd2_79, vs2_79, rfl, K79, r79_0, r79_1, r79_2, r79_3, r79_4, r79_5, r79_6⟩ := hQ79
        have O80 := O76.keep K79 (allS ge_b68 (allS ge_r_70 all0))
        have hk80 := Nat.le_trans hk75_ K79.1
        show Goes _ _ _ _ _ _ (T79.setTop (mkF m 77 #[.val (.int p1), .val (.int p2), .val (.int p3), .val (.int (p1 &&& (3 : Int32))), .val (.int ((p2 &&& (2147483647 : Int32)) % ((p1 &&& (3 : Int32)) + (1 : Int32)))), .val (.ref b68), .val (.int (if (0 : Int32) = (0 : Int32) then (1 : Int32) else (0 : Int32))), .unset, .unset] []))
        refine own_iloadN X79 hx (hb hby at_77) rfl ?_
        refine own_iconst X79 hx (v := (3 : Int32)) (hb hby at_78) rfl ?_
        refine own_icmpYes X79 hx (pc' := 102) (hb hby at_79) (tlt ((by first | (rw [hca]; done) | (rw [hca]; decide)) : (p1 &&& (3 : Int32)) < (3 : Int32))).1 (by decide) (by decide) ?_
        show Goes _ _ _ _ _ _ (T79.setTop (mkF m 102 #[.val (.int p1), .val (.int p2), .val (.int p3), .val (.int (p1 &&& (3 : Int32))), .val (.int ((p2 &&& (2147483647 : Int32)) % ((p1 &&& (3 : Int32)) + (1 : Int32)))), .val (.ref b68), .val (.int (if (0 : Int32) = (0 : Int32) then (1 : Int32) else (0 : Int32))), .unset, .unset] []))
        refine own_aload X79 hx (hb hby at_102) rfl rfl ?_
        refine own_virtual X79 hx hZ hown (y := (⟨"com/example/kache/kache/store/ListValue", "isEmpty", "()Z"⟩ : MethodName)) (z := (⟨"com/example/kache/kache/store/ListValue", "isEmpty", "()Z"⟩ : MethodName)) (hw _ (List.mem_of_getElem? (i := 14) rfl)) (hw _ (List.mem_of_getElem? (i := 15) rfl)) (notFace_of_selects (args := #[]) (mvT hZ (hw _ (List.mem_of_getElem? (i := 17) rfl)))) (hw _ (List.mem_of_getElem? (i := 17) rfl)) (hw _ (List.mem_of_getElem? (i := 16) rfl)) (hw _ (List.mem_of_getElem? (i := 3) rfl)) (hw _ (List.mem_of_getElem? (i := 18) rfl)) (a := b68) r79_0 (by decide) (W := 0) (by decide) (by decide) N79 rfl (by rw [hml]; rfl) (argsL := []) (rest := []) (lenOf pd_8 rfl) (Nat.le_of_eq rfl) (by decide) (by decide) (rm3 l Z a0 hw [] b68 (((0 : Int32) + (1 : Int32)) + (1 : Int32)) T79.heap n0 O80 r79_3) rfl (hb hby at_104) ?_
        intro v81 T81 lc81 X81 N81 hQ81
        obtain ⟨rfl, e81⟩ := hQ81
        show Goes _ _ _ _ _ _ (T81.setTop (mkF m 107 #[.val (.int p1), .val (.int p2), .val (.int p3), .val (.int (p1 &&& (3 : Int32))), .val (.int ((p2 &&& (2147483647 : Int32)) % ((p1 &&& (3 : Int32)) + (1 : Int32)))), .val (.ref b68), .val (.int (if (0 : Int32) = (0 : Int32) then (1 : Int32) else (0 : Int32))), .unset, .unset] [(.int (if (((0 : Int32) + (1 : Int32)) + (1 : Int32)) = (0 : Int32) then (1 : Int32) else (0 : Int32)))]))
        refine own_istore X81 hx (Ls' := #[.val (.int p1), .val (.int p2), .val (.int p3), .val (.int (p1 &&& (3 : Int32))), .val (.int ((p2 &&& (2147483647 : Int32)) % ((p1 &&& (3 : Int32)) + (1 : Int32)))), .val (.ref b68), .val (.int (if (0 : Int32) = (0 : Int32) then (1 : Int32) else (0 : Int32))), .val (.int (if (((0 : Int32) + (1 : Int32)) + (1 : Int32)) = (0 : Int32) then (1 : Int32) else (0 : Int32))), .unset]) (hb hby at_107) rfl ?_
        refine own_iload X81 hx (hb hby at_109) rfl ?_
        refine own_iconst X81 hx (v := (1 : Int32)) (hb hby at_111) rfl ?_
        refine own_icmpNo X81 hx (hb hby at_112) (flt ((by first | (rw [hcr]; done) | (rw [hcr]; decide)) : ¬ (((p2 &&& (2147483647 : Int32)) % ((p1 &&& (3 : Int32)) + (1 : Int32))) < (1 : Int32)))).1 ?_
        show Goes _ _ _ _ _ _ (T81.setTop (mkF m 115 #[.val (.int p1), .val (.int p2), .val (.int p3), .val (.int (p1 &&& (3 : Int32))), .val (.int ((p2 &&& (2147483647 : Int32)) % ((p1 &&& (3 : Int32)) + (1 : Int32)))), .val (.ref b68), .val (.int (if (0 : Int32) = (0 : Int32) then (1 : Int32) else (0 : Int32))), .val (.int (if (((0 : Int32) + (1 : Int32)) + (1 : Int32)) = (0 : Int32) then (1 : Int32) else (0 : Int32))), .unset] []))
        refine own_aload X81 hx (hb hby at_115) rfl rfl ?_
        refine own_iloadN X81 hx (hb hby at_117) rfl ?_
        refine own_bipush X81 hx (v := (8 : Int32)) (hb hby at_118) rfl ?_
        refine own_iand X81 hx (hb hby at_120) ?_
        show Goes _ _ _ _ _ _ (T81.setTop (mkF m 121 #[.val (.int p1), .val (.int p2), .val (.int p3), .val (.int (p1 &&& (3 : Int32))), .val (.int ((p2 &&& (2147483647 : Int32)) % ((p1 &&& (3 : Int32)) + (1 : Int32)))), .val (.ref b68), .val (.int (if (0 : Int32) = (0 : Int32) then (1 : Int32) else (0 : Int32))), .val (.int (if (((0 : Int32) + (1 : Int32)) + (1 : Int32)) = (0 : Int32) then (1 : Int32) else (0 : Int32))), .unset] [(.int (p3 &&& (8 : Int32))), (.ref b68)]))
        have jn129_83 : ∀ (T83 : State) (lc83 : List Loc) (X83 : Stand p l e room_1 (s.setVm T79.vm) m #[(.int p1), (.int p2), (.int p3)] below meth c T83 lc83 8 77) (N83 : Fr n0 lc83) (e83 : T83.heap = T79.heap) (w83 : Int32) (hj83 : True), Goes p e below (fun o t L => ReturnedEndW s o t L (24) (1152)) n0 (Q0 Z p1 p2 p3 h0 n0) (T83.setTop (mkF m 129 #[.val (.int p1), .val (.int p2), .val (.int p3), .val (.int (p1 &&& (3 : Int32))), .val (.int ((p2 &&& (2147483647 : Int32)) % ((p1 &&& (3 : Int32)) + (1 : Int32)))), .val (.ref b68), .val (.int (if (0 : Int32) = (0 : Int32) then (1 : Int32) else (0 : Int32))), .val (.int (if (((0 : Int32) + (1 : Int32)) + (1 : Int32)) = (0 : Int32) then (1 : Int32) else (0 : Int32))), .unset] [(.int w83), (.ref b68)])) := by
          intro T83 lc83 X83 N83 e83 w83 hj83
          show Goes _ _ _ _ _ _ (T83.setTop (mkF m 129 #[.val (.int p1), .val (.int p2), .val (.int p3), .val (.int (p1 &&& (3 : Int32))), .val (.int ((p2 &&& (2147483647 : Int32)) % ((p1 &&& (3 : Int32)) + (1 : Int32)))), .val (.ref b68), .val (.int (if (0 : Int32) = (0 : Int32) then (1 : Int32) else (0 : Int32))), .val (.int (if (((0 : Int32) + (1 : Int32)) + (1 : Int32)) = (0 : Int32) then (1 : Int32) else (0 : Int32))), .unset] [(.int w83), (.ref b68)]))
          refine own_callS X83 hx hZ hown (y := (⟨"com/example/kache/kache/store/ListValueIsEmptyPinLaw", "removeOne", "(Lcom/example/kache/kache/store/ListValue;Z)V"⟩ : MethodName)) (hw _ (List.mem_of_getElem? (i := 58) rfl)) (hw _ (List.mem_of_getElem? (i := 59) rfl)) (hw _ (List.mem_of_getElem? (i := 23) rfl)) (hw _ (List.mem_of_getElem? (i := 60) rfl)) (by decide) (W := 0) (by decide) (by decide) N83 e83 (by rw [hml]; rfl) (argsL := [(.ref b68), (.int w83)]) (rest := []) (lenOf pd_10 rfl) (Nat.le_of_eq rfl) (by decide) (by decide) (rm10 l Z a0 hw [] b68 w83 r_70 hd2_79 (((0 : Int32) + (1 : Int32)) + (1 : Int32)) k_70 vs2_79 T79.heap n0 O80 r79_0 r79_1 r79_2 r79_3 r79_4 r79_5 ge_b68 ge_r_70 r79_6 r70_6 (by first | assumption | decide | exact ⟨rfl, rfl⟩)) rfl (hb hby at_129) ?_
          intro v84 T84 lc84 X84 N84 hQ84
          obtain ⟨hd2_84, vs2_84, rfl, K84, r84_0, r84_1, r84_2, r84_3, r84_4, r84_5, r84_6⟩ := hQ84
          have O85 := O80.keep K84 (allS ge_b68 (allS ge_r_70 all0))
          have hk85 := Nat.le_trans hk79_ K84.1
          show Goes _ _ _ _ _ _ (T84.setTop (mkF m 132 #[.val (.int p1), .val (.int p2), .val (.int p3), .val (.int (p1 &&& (3 : Int32))), .val (.int ((p2 &&& (2147483647 : Int32)) % ((p1 &&& (3 : Int32)) + (1 : Int32)))), .val (.ref b68), .val (.int (if (0 : Int32) = (0 : Int32) then (1 : Int32) else (0 : Int32))), .val (.int (if (((0 : Int32) + (1 : Int32)) + (1 : Int32)) = (0 : Int32) then (1 : Int32) else (0 : Int32))), .unset] []))
          refine own_iload X84 hx (hb hby at_132) rfl ?_
          refine own_iconst X84 hx (v := (2 : Int32)) (hb hby at_134) rfl ?_
          refine own_icmpNo X84 hx (hb hby at_135) (flt ((by first | (rw [hcr]; done) | (rw [hcr]; decide)) : ¬ (((p2 &&& (2147483647 : Int32)) % ((p1 &&& (3 : Int32)) + (1 : Int32))) < (2 : Int32)))).1 ?_
          show Goes _ _ _ _ _ _ (T84.setTop (mkF m 138 #[.val (.int p1), .val (.int p2), .val (.int p3), .val (.int (p1 &&& (3 : Int32))), .val (.int ((p2 &&& (2147483647 : Int32)) % ((p1 &&& (3 : Int32)) + (1 : Int32)))), .val (.ref b68), .val (.int (if (0 : Int32) = (0 : Int32) then (1 : Int32) else (0 : Int32))), .val (.int (if (((0 : Int32) + (1 : Int32)) + (1 : Int32)) = (0 : Int32) then (1 : Int32) else (0 : Int32))), .unset] []))
          refine own_aload X84 hx (hb hby at_138) rfl rfl ?_
          refine own_iloadN X84 hx (hb hby at_140) rfl ?_
          refine own_bipush X84 hx (v := (16 : Int32)) (hb hby at_141) rfl ?_
          refine own_iand X84 hx (hb hby at_143) ?_
          show Goes _ _ _ _ _ _ (T84.setTop (mkF m 144 #[.val (.int p1), .val (.int p2), .val (.int p3), .val (.int (p1 &&& (3 : Int32))), .val (.int ((p2 &&& (2147483647 : Int32)) % ((p1 &&& (3 : Int32)) + (1 : Int32)))), .val (.ref b68), .val (.int (if (0 : Int32) = (0 : Int32) then (1 : Int32) else (0 : Int32))), .val (.int (if (((0 : Int32) + (1 : Int32)) + (1 : Int32)) = (0 : Int32) then (1 : Int32) else (0 : Int32))), .unset] [(.int (p3 &&& (16 : Int32))), (.ref b68)]))
          have jn152_87 : ∀ (T87 : State) (lc87 : List Loc) (X87 : Stand p l e room_1 (s.setVm T79.vm) m #[(.int p1), (.int p2), (.int p3)] below meth c T87 lc87 8 77) (N87 : Fr n0 lc87) (e87 : T87.heap = T84.heap) (w87 : Int32) (hj87 : True), Goes p e below (fun o t L => ReturnedEndW s o t L (24) (1152)) n0 (Q0 Z p1 p2 p3 h0 n0) (T87.setTop (mkF m 152 #[.val (.int p1), .val (.int p2), .val (.int p3), .val (.int (p1 &&& (3 : Int32))), .val (.int ((p2 &&& (2147483647 : Int32)) % ((p1 &&& (3 : Int32)) + (1 : Int32)))), .val (.ref b68), .val (.int (if (0 : Int32) = (0 : Int32) then (1 : Int32) else (0 : Int32))), .val (.int (if (((0 : Int32) + (1 : Int32)) + (1 : Int32)) = (0 : Int32) then (1 : Int32) else (0 : Int32))), .unset] [(.int w87), (.ref b68)])) := by
            intro T87 lc87 X87 N87 e87 w87 hj87
            show Goes _ _ _ _ _ _ (T87.setTop (mkF m 152 #[.val (.int p1), .val (.int p2), .val (.int p3), .val (.int (p1 &&& (3 : Int32))), .val (.int ((p2 &&& (2147483647 : Int32)) % ((p1 &&& (3 : Int32)) + (1 : Int32)))), .val (.ref b68), .val (.int (if (0 : Int32) = (0 : Int32) then (1 : Int32) else (0 : Int32))), .val (.int (if (((0 : Int32) + (1 : Int32)) + (1 : Int32)) = (0 : Int32) then (1 : Int32) else (0 : Int32))), .unset] [(.int w87), (.ref b68)]))
            refine own_callS X87 hx hZ hown (y := (⟨"com/example/kache/kache/store/ListValueIsEmptyPinLaw", "removeOne", "(Lcom/example/kache/kache/store/ListValue;Z)V"⟩ : MethodName)) (hw _ (List.mem_of_getElem? (i := 58) rfl)) (hw _ (List.mem_of_getElem? (i := 59) rfl)) (hw _ (List.mem_of_getElem? (i := 23) rfl)) (hw _ (List.mem_of_getElem? (i := 60) rfl)) (by decide) (W := 0) (by decide) (by decide) N87 e87 (by rw [hml]; rfl) (argsL := [(.ref b68), (.int w87)]) (rest := []) (lenOf pd_10 rfl) (Nat.le_of_eq rfl) (by decide) (by decide) (rm10 l Z a0 hw [] b68 w87 r_70 hd2_84 ((((0 : Int32) + (1 : Int32)) + (1 : Int32)) - (1 : Int32)) k_70 vs2_84 T84.heap n0 O85 r84_0 r84_1 r84_2 r84_3 r84_4 r84_5 ge_b68 ge_r_70 r84_6 r70_6 (by first | assumption | decide | exact ⟨rfl, rfl⟩)) rfl (hb hby at_152) ?_
            intro v88 T88 lc88 X88 N88 hQ88
            obtain ⟨hd2_88, vs2_88, rfl, K88, r88_0, r88_1, r88_2, r88_3, r88_4, r88_5, r88_6⟩ := hQ88
            have O89 := O85.keep K88 (allS ge_b68 (allS ge_r_70 all0))
            have hk89 := Nat.le_trans hk85 K88.1
            show Goes _ _ _ _ _ _ (T88.setTop (mkF m 155 #[.val (.int p1), .val (.int p2), .val (.int p3), .val (.int (p1 &&& (3 : Int32))), .val (.int ((p2 &&& (2147483647 : Int32)) % ((p1 &&& (3 : Int32)) + (1 : Int32)))), .val (.ref b68), .val (.int (if (0 : Int32) = (0 : Int32) then (1 : Int32) else (0 : Int32))), .val (.int (if (((0 : Int32) + (1 : Int32)) + (1 : Int32)) = (0 : Int32) then (1 : Int32) else (0 : Int32))), .unset] []))
            refine own_iload X88 hx (hb hby at_155) rfl ?_
            refine own_iconst X88 hx (v := (3 : Int32)) (hb hby at_157) rfl ?_
            refine own_icmpYes X88 hx (pc' := 178) (hb hby at_158) (tlt ((by first | (rw [hcr]; done) | (rw [hcr]; decide)) : ((p2 &&& (2147483647 : Int32)) % ((p1 &&& (3 : Int32)) + (1 : Int32))) < (3 : Int32))).1 (by decide) (by decide) ?_
            show Goes _ _ _ _ _ _ (T88.setTop (mkF m 178 #[.val (.int p1), .val (.int p2), .val (.int p3), .val (.int (p1 &&& (3 : Int32))), .val (.int ((p2 &&& (2147483647 : Int32)) % ((p1 &&& (3 : Int32)) + (1 : Int32)))), .val (.ref b68), .val (.int (if (0 : Int32) = (0 : Int32) then (1 : Int32) else (0 : Int32))), .val (.int (if (((0 : Int32) + (1 : Int32)) + (1 : Int32)) = (0 : Int32) then (1 : Int32) else (0 : Int32))), .unset] []))
            refine own_aload X88 hx (hb hby at_178) rfl rfl ?_
            refine own_virtual X88 hx hZ hown (y := (⟨"com/example/kache/kache/store/ListValue", "isEmpty", "()Z"⟩ : MethodName)) (z := (⟨"com/example/kache/kache/store/ListValue", "isEmpty", "()Z"⟩ : MethodName)) (hw _ (List.mem_of_getElem? (i := 14) rfl)) (hw _ (List.mem_of_getElem? (i := 15) rfl)) (notFace_of_selects (args := #[]) (mvT hZ (hw _ (List.mem_of_getElem? (i := 17) rfl)))) (hw _ (List.mem_of_getElem? (i := 17) rfl)) (hw _ (List.mem_of_getElem? (i := 16) rfl)) (hw _ (List.mem_of_getElem? (i := 3) rfl)) (hw _ (List.mem_of_getElem? (i := 18) rfl)) (a := b68) r88_0 (by decide) (W := 0) (by decide) (by decide) N88 rfl (by rw [hml]; rfl) (argsL := []) (rest := []) (lenOf pd_8 rfl) (Nat.le_of_eq rfl) (by decide) (by decide) (rm3 l Z a0 hw [] b68 (((((0 : Int32) + (1 : Int32)) + (1 : Int32)) - (1 : Int32)) - (1 : Int32)) T88.heap n0 O89 r88_3) rfl (hb hby at_180) ?_
            intro v90 T90 lc90 X90 N90 hQ90
            obtain ⟨rfl, e90⟩ := hQ90
            show Goes _ _ _ _ _ _ (T90.setTop (mkF m 183 #[.val (.int p1), .val (.int p2), .val (.int p3), .val (.int (p1 &&& (3 : Int32))), .val (.int ((p2 &&& (2147483647 : Int32)) % ((p1 &&& (3 : Int32)) + (1 : Int32)))), .val (.ref b68), .val (.int (if (0 : Int32) = (0 : Int32) then (1 : Int32) else (0 : Int32))), .val (.int (if (((0 : Int32) + (1 : Int32)) + (1 : Int32)) = (0 : Int32) then (1 : Int32) else (0 : Int32))), .unset] [(.int (if (((((0 : Int32) + (1 : Int32)) + (1 : Int32)) - (1 : Int32)) - (1 : Int32)) = (0 : Int32) then (1 : Int32) else (0 : Int32)))]))
            refine own_istore X90 hx (Ls' := #[.val (.int p1), .val (.int p2), .val (.int p3), .val (.int (p1 &&& (3 : Int32))), .val (.int ((p2 &&& (2147483647 : Int32)) % ((p1 &&& (3 : Int32)) + (1 : Int32)))), .val (.ref b68), .val (.int (if (0 : Int32) = (0 : Int32) then (1 : Int32) else (0 : Int32))), .val (.int (if (((0 : Int32) + (1 : Int32)) + (1 : Int32)) = (0 : Int32) then (1 : Int32) else (0 : Int32))), .val (.int (if (((((0 : Int32) + (1 : Int32)) + (1 : Int32)) - (1 : Int32)) - (1 : Int32)) = (0 : Int32) then (1 : Int32) else (0 : Int32)))]) (hb hby at_183) rfl ?_
            refine own_iload X90 hx (hb hby at_185) rfl ?_
            refine own_ifNo X90 hx (hb hby at_187) ((if0 _ _).trans (feq ((own_bnz (not_not_intro (by decide))) : ¬ ((if (0 : Int32) = (0 : Int32) then (1 : Int32) else (0 : Int32)) = (0 : Int32)))).1) ?_
            show Goes _ _ _ _ _ _ (T90.setTop (mkF m 190 #[.val (.int p1), .val (.int p2), .val (.int p3), .val (.int (p1 &&& (3 : Int32))), .val (.int ((p2 &&& (2147483647 : Int32)) % ((p1 &&& (3 : Int32)) + (1 : Int32)))), .val (.ref b68), .val (.int (if (0 : Int32) = (0 : Int32) then (1 : Int32) else (0 : Int32))), .val (.int (if (((0 : Int32) + (1 : Int32)) + (1 : Int32)) = (0 : Int32) then (1 : Int32) else (0 : Int32))), .val (.int (if (((((0 : Int32) + (1 : Int32)) + (1 : Int32)) - (1 : Int32)) - (1 : Int32)) = (0 : Int32) then (1 : Int32) else (0 : Int32)))] []))
            refine own_iload X90 hx (hb hby at_190) rfl ?_
            refine own_iloadN X90 hx (hb hby at_192) rfl ?_
            refine own_ifYes X90 hx (pc' := 200) (hb hby at_193) ((if0 _ _).trans (feq ((by first | (rw [hca]; done) | (rw [hca]; decide)) : ¬ ((p1 &&& (3 : Int32)) = (0 : Int32)))).2) (by decide) (by decide) ?_
            show Goes _ _ _ _ _ _ (T90.setTop (mkF m 200 #[.val (.int p1), .val (.int p2), .val (.int p3), .val (.int (p1 &&& (3 : Int32))), .val (.int ((p2 &&& (2147483647 : Int32)) % ((p1 &&& (3 : Int32)) + (1 : Int32)))), .val (.ref b68), .val (.int (if (0 : Int32) = (0 : Int32) then (1 : Int32) else (0 : Int32))), .val (.int (if (((0 : Int32) + (1 : Int32)) + (1 : Int32)) = (0 : Int32) then (1 : Int32) else (0 : Int32))), .val (.int (if (((((0 : Int32) + (1 : Int32)) + (1 : Int32)) - (1 : Int32)) - (1 : Int32)) = (0 : Int32) then (1 : Int32) else (0 : Int32)))] [(.int (if (((0 : Int32) + (1 : Int32)) + (1 : Int32)) = (0 : Int32) then (1 : Int32) else (0 : Int32)))]))
            refine own_iconst X90 hx (v := (0 : Int32)) (hb hby at_200) rfl ?_
            refine own_icmpNo X90 hx (hb hby at_201) (teq ((by first | (rw [if_neg (show ¬ ((((0 : Int32) + (1 : Int32)) + (1 : Int32)) = (0 : Int32)) by decide)]; done) | (rw [if_neg (show ¬ ((((0 : Int32) + (1 : Int32)) + (1 : Int32)) = (0 : Int32)) by decide)]; decide)) : (if (((0 : Int32) + (1 : Int32)) + (1 : Int32)) = (0 : Int32) then (1 : Int32) else (0 : Int32)) = (0 : Int32))).2 ?_
            show Goes _ _ _ _ _ _ (T90.setTop (mkF m 204 #[.val (.int p1), .val (.int p2), .val (.int p3), .val (.int (p1 &&& (3 : Int32))), .val (.int ((p2 &&& (2147483647 : Int32)) % ((p1 &&& (3 : Int32)) + (1 : Int32)))), .val (.ref b68), .val (.int (if (0 : Int32) = (0 : Int32) then (1 : Int32) else (0 : Int32))), .val (.int (if (((0 : Int32) + (1 : Int32)) + (1 : Int32)) = (0 : Int32) then (1 : Int32) else (0 : Int32))), .val (.int (if (((((0 : Int32) + (1 : Int32)) + (1 : Int32)) - (1 : Int32)) - (1 : Int32)) = (0 : Int32) then (1 : Int32) else (0 : Int32)))] []))
            refine own_iload X90 hx (hb hby at_204) rfl ?_
            refine own_iloadN X90 hx (hb hby at_206) rfl ?_
            refine own_iload X90 hx (hb hby at_207) rfl ?_
            refine own_icmpNo X90 hx (hb hby at_209) (teq ((by first | (rw [hca, hcr]; done) | (rw [hca, hcr]; decide) | (rw [hcr, hca]; done) | (rw [hcr, hca]; decide)) : (p1 &&& (3 : Int32)) = ((p2 &&& (2147483647 : Int32)) % ((p1 &&& (3 : Int32)) + (1 : Int32))))).2 ?_
            show Goes _ _ _ _ _ _ (T90.setTop (mkF m 212 #[.val (.int p1), .val (.int p2), .val (.int p3), .val (.int (p1 &&& (3 : Int32))), .val (.int ((p2 &&& (2147483647 : Int32)) % ((p1 &&& (3 : Int32)) + (1 : Int32)))), .val (.ref b68), .val (.int (if (0 : Int32) = (0 : Int32) then (1 : Int32) else (0 : Int32))), .val (.int (if (((0 : Int32) + (1 : Int32)) + (1 : Int32)) = (0 : Int32) then (1 : Int32) else (0 : Int32))), .val (.int (if (((((0 : Int32) + (1 : Int32)) + (1 : Int32)) - (1 : Int32)) - (1 : Int32)) = (0 : Int32) then (1 : Int32) else (0 : Int32)))] [(.int (if (((((0 : Int32) + (1 : Int32)) + (1 : Int32)) - (1 : Int32)) - (1 : Int32)) = (0 : Int32) then (1 : Int32) else (0 : Int32)))]))
            refine own_iconst X90 hx (v := (1 : Int32)) (hb hby at_212) rfl ?_
            refine own_goto X90 hx (pc' := 217) (hb hby at_213) (by decide) (by decide) ?_
            refine own_icmpNo X90 hx (hb hby at_217) (teq ((by first | (rw [if_pos (show (((((0 : Int32) + (1 : Int32)) + (1 : Int32)) - (1 : Int32)) - (1 : Int32)) = (0 : Int32) by decide)]; done) | (rw [if_pos (show (((((0 : Int32) + (1 : Int32)) + (1 : Int32)) - (1 : Int32)) - (1 : Int32)) = (0 : Int32) by decide)]; decide)) : (if (((((0 : Int32) + (1 : Int32)) + (1 : Int32)) - (1 : Int32)) - (1 : Int32)) = (0 : Int32) then (1 : Int32) else (0 : Int32)) = (1 : Int32))).2 ?_
            show Goes _ _ _ _ _ _ (T90.setTop (mkF m 220 #[.val (.int p1), .val (.int p2), .val (.int p3), .val (.int (p1 &&& (3 : Int32))), .val (.int ((p2 &&& (2147483647 : Int32)) % ((p1 &&& (3 : Int32)) + (1 : Int32)))), .val (.ref b68), .val (.int (if (0 : Int32) = (0 : Int32) then (1 : Int32) else (0 : Int32))), .val (.int (if (((0 : Int32) + (1 : Int32)) + (1 : Int32)) = (0 : Int32) then (1 : Int32) else (0 : Int32))), .val (.int (if (((((0 : Int32) + (1 : Int32)) + (1 : Int32)) - (1 : Int32)) - (1 : Int32)) = (0 : Int32) then (1 : Int32) else (0 : Int32)))] []))
            refine own_iconst X90 hx (v := (1 : Int32)) (hb hby at_220) rfl ?_
            refine own_goto X90 hx (pc' := 225) (hb hby at_221) (by decide) (by decide) ?_
            show Goes _ _ _ _ _ _ (T90.setTop (mkF m 225 #[.val (.int p1), .val (.int p2), .val (.int p3), .val (.int (p1 &&& (3 : Int32))), .val (.int ((p2 &&& (2147483647 : Int32)) % ((p1 &&& (3 : Int32)) + (1 : Int32)))), .val (.ref b68), .val (.int (if (0 : Int32) = (0 : Int32) then (1 : Int32) else (0 : Int32))), .val (.int (if (((0 : Int32) + (1 : Int32)) + (1 : Int32)) = (0 : Int32) then (1 : Int32) else (0 : Int32))), .val (.int (if (((((0 : Int32) + (1 : Int32)) + (1 : Int32)) - (1 : Int32)) - (1 : Int32)) = (0 : Int32) then (1 : Int32) else (0 : Int32)))] [(.int (1 : Int32))]))
            exact own_retNW X90 hx (t := .boolean) hS79 (by rw [e90]; exact hk89) N90 hlk (by decide) (by decide) hret (by simp) (hb hby at_225) (by rw [e90]; exact rfl)
          by_cases hc144_86 : (p3 &&& (16 : Int32)) = (0 : Int32)
          ·
            refine own_ifYes X84 hx (pc' := 151) (hb hby at_144) ((if0 _ _).trans (teq (hc144_86 : (p3 &&& (16 : Int32)) = (0 : Int32))).1) (by decide) (by decide) ?_
            show Goes _ _ _ _ _ _ (T84.setTop (mkF m 151 #[.val (.int p1), .val (.int p2), .val (.int p3), .val (.int (p1 &&& (3 : Int32))), .val (.int ((p2 &&& (2147483647 : Int32)) % ((p1 &&& (3 : Int32)) + (1 : Int32)))), .val (.ref b68), .val (.int (if (0 : Int32) = (0 : Int32) then (1 : Int32) else (0 : Int32))), .val (.int (if (((0 : Int32) + (1 : Int32)) + (1 : Int32)) = (0 : Int32) then (1 : Int32) else (0 : Int32))), .unset] [(.ref b68)]))
            refine own_iconst X84 hx (v := (0 : Int32)) (hb hby at_151) rfl ?_
            show Goes _ _ _ _ _ _ (T84.setTop (mkF m 152 #[.val (.int p1), .val (.int p2), .val (.int p3), .val (.int (p1 &&& (3 : Int32))), .val (.int ((p2 &&& (2147483647 : Int32)) % ((p1 &&& (3 : Int32)) + (1 : Int32)))), .val (.ref b68), .val (.int (if (0 : Int32) = (0 : Int32) then (1 : Int32) else (0 : Int32))), .val (.int (if (((0 : Int32) + (1 : Int32)) + (1 : Int32)) = (0 : Int32) then (1 : Int32) else (0 : Int32))), .unset] [(.int (0 : Int32)), (.ref b68)]))
            exact jn152_87 T84 _ X84 N84 rfl (0 : Int32) trivial
          ·
            refine own_ifNo X84 hx (hb hby at_144) ((if0 _ _).trans (feq (hc144_86 : ¬ ((p3 &&& (16 : Int32)) = (0 : Int32)))).1) ?_
            show Goes _ _ _ _ _ _ (T84.setTop (mkF m 147 #[.val (.int p1), .val (.int p2), .val (.int p3), .val (.int (p1 &&& (3 : Int32))), .val (.int ((p2 &&& (2147483647 : Int32)) % ((p1 &&& (3 : Int32)) + (1 : Int32)))), .val (.ref b68), .val (.int (if (0 : Int32) = (0 : Int32) then (1 : Int32) else (0 : Int32))), .val (.int (if (((0 : Int32) + (1 : Int32)) + (1 : Int32)) = (0 : Int32) then (1 : Int32) else (0 : Int32))), .unset] [(.ref b68)]))
            refine own_iconst X84 hx (v := (1 : Int32)) (hb hby at_147) rfl ?_
            refine own_goto X84 hx (pc' := 152) (hb hby at_148) (by decide) (by decide) ?_
            show Goes _ _ _ _ _ _ (T84.setTop (mkF m 152 #[.val (.int p1), .val (.int p2), .val (.int p3), .val (.int (p1 &&& (3 : Int32))), .val (.int ((p2 &&& (2147483647 : Int32)) % ((p1 &&& (3 : Int32)) + (1 : Int32)))), .val (.ref b68), .val (.int (if (0 : Int32) = (0 : Int32) then (1 : Int32) else (0 : Int32))), .val (.int (if (((0 : Int32) + (1 : Int32)) + (1 : Int32)) = (0 : Int32) then (1 : Int32) else (0 : Int32))), .unset] [(.int (1 : Int32)), (.ref b68)]))
            exact jn152_87 T84 _ X84 N84 rfl (1 : Int32) trivial
        by_cases hc121_82 : (p3 &&& (8 : Int32)) = (0 : Int32)
        ·
          refine own_ifYes X81 hx (pc' := 128) (hb hby at_121) ((if0 _ _).trans (teq (hc121_82 : (p3 &&& (8 : Int32)) = (0 : Int32))).1) (by decide) (by decide) ?_
          show Goes _ _ _ _ _ _ (T81.setTop (mkF m 128 #[.val (.int p1), .val (.int p2), .val (.int p3), .val (.int (p1 &&& (3 : Int32))), .val (.int ((p2 &&& (2147483647 : Int32)) % ((p1 &&& (3 : Int32)) + (1 : Int32)))), .val (.ref b68), .val (.int (if (0 : Int32) = (0 : Int32) then (1 : Int32) else (0 : Int32))), .val (.int (if (((0 : Int32) + (1 : Int32)) + (1 : Int32)) = (0 : Int32) then (1 : Int32) else (0 : Int32))), .unset] [(.ref b68)]))
          refine own_iconst X81 hx (v := (0 : Int32)) (hb hby at_128) rfl ?_
          show Goes _ _ _ _ _ _ (T81.setTop (mkF m 129 #[.val (.int p1), .val (.int p2), .val (.int p3), .val (.int (p1 &&& (3 : Int32))), .val (.int ((p2 &&& (2147483647 : Int32)) % ((p1 &&& (3 : Int32)) + (1 : Int32)))), .val (.ref b68), .val (.int (if (0 : Int32) = (0 : Int32) then (1 : Int32) else (0 : Int32))), .val (.int (if (((0 : Int32) + (1 : Int32)) + (1 : Int32)) = (0 : Int32) then (1 : Int32) else (0 : Int32))), .unset] [(.int (0 : Int32)), (.ref b68)]))
          exact jn129_83 T81 _ X81 N81 e81 (0 : Int32) trivial
        ·
          refine own_ifNo X81 hx (hb hby at_121) ((if0 _ _).trans (feq (hc121_82 : ¬ ((p3 &&& (8 : Int32)) = (0 : Int32)))).1) ?_
          show Goes _ _ _ _ _ _ (T81.setTop (mkF m 124 #[.val (.int p1), .val (.int p2), .val (.int p3), .val (.int (p1 &&& (3 : Int32))), .val (.int ((p2 &&& (2147483647 : Int32)) % ((p1 &&& (3 : Int32)) + (1 : Int32)))), .val (.ref b68), .val (.int (if (0 : Int32) = (0 : Int32) then (1 : Int32) else (0 : Int32))), .val (.int (if (((0 : Int32) + (1 : Int32)) + (1 : Int32)) = (0 : Int32) then (1 : Int32) else (0 : Int32))), .unset] [(.ref b68)]))
          refine own_iconst X81 hx (v := (1 : Int32)) (hb hby at_124) rfl ?_
          refine own_goto X81 hx (pc' := 129) (hb hby at_125) (by decide) (by decide) ?_
          show Goes _ _ _ _ _ _ (T81.setTop (mkF m 129 #[.val (.int p1), .val (.int p2), .val (.int p3), .val (.int (p1 &&& (3 : Int32))), .val (.int ((p2 &&& (2147483647 : Int32)) % ((p1 &&& (3 : Int32)) + (1 : Int32)))), .val (.ref b68), .val (.int (if (0 : Int32) = (0 : Int32) then (1 : Int32) else (0 : Int32))), .val (.int (if (((0 : Int32) + (1 : Int32)) + (1 : Int32)) = (0 : Int32) then (1 : Int32) else (0 : Int32))), .unset] [(.int (1 : Int32)), (.ref b68)]))
          exact jn129_83 T81 _ X81 N81 e81 (1 : Int32) trivial
      by_cases hc62_77 : (p3 &&& (2 : Int32)) = (0 : Int32)
      ·
        refine own_ifYes X75 hx (pc' := 69) (hb hby at_62) ((if0 _ _).trans (teq (hc62_77 : (p3 &&& (2 : Int32)) = (0 : Int32))).1) (by decide) (by decide) ?_
        show Goes _ _ _ _ _ _ (T75.setTop (mkF m 69 #[.val (.int p1), .val (.int p2), .val (.int p3), .val (.int (p1 &&& (3 : Int32))), .val (.int ((p2 &&& (2147483647 : Int32)) % ((p1 &&& (3 : Int32)) + (1 : Int32)))), .val (.ref b68), .val (.int (if (0 : Int32) = (0 : Int32) then (1 : Int32) else (0 : Int32))), .unset, .unset] [(.ref b68)]))
        refine own_iconst X75 hx (v := (0 : Int32)) (hb hby at_69) rfl ?_
        show Goes _ _ _ _ _ _ (T75.setTop (mkF m 70 #[.val (.int p1), .val (.int p2), .val (.int p3), .val (.int (p1 &&& (3 : Int32))), .val (.int ((p2 &&& (2147483647 : Int32)) % ((p1 &&& (3 : Int32)) + (1 : Int32)))), .val (.ref b68), .val (.int (if (0 : Int32) = (0 : Int32) then (1 : Int32) else (0 : Int32))), .unset, .unset] [(.int (0 : Int32)), (.ref b68)]))
        exact jn70_78 T75 _ X75 N75 rfl (0 : Int32) trivial
      ·
        refine own_ifNo X75 hx (hb hby at_62) ((if0 _ _).trans (feq (hc62_77 : ¬ ((p3 &&& (2 : Int32)) = (0 : Int32)))).1) ?_
        show Goes _ _ _ _ _ _ (T75.setTop (mkF m 65 #[.val (.int p1), .val (.int p2), .val (.int p3), .val (.int (p1 &&& (3 : Int32))), .val (.int ((p2 &&& (2147483647 : Int32)) % ((p1 &&& (3 : Int32)) + (1 : Int32)))), .val (.ref b68), .val (.int (if (0 : Int32) = (0 : Int32) then (1 : Int32) else (0 : Int32))), .unset, .unset] [(.ref b68)]))
        refine own_iconst X75 hx (v := (1 : Int32)) (hb hby at_65) rfl ?_
        refine own_goto X75 hx (pc' := 70) (hb hby at_66) (by decide) (by decide) ?_
        show Goes _ _ _ _ _ _ (T75.setTop (mkF m 70 #[.val (.int p1), .val (.int p2), .val (.int p3), .val (.int (p1 &&& (3 : Int32))), .val (.int ((p2 &&& (2147483647 : Int32)) % ((p1 &&& (3 : Int32)) + (1 : Int32)))), .val (.ref b68), .val (.int (if (0 : Int32) = (0 : Int32) then (1 : Int32) else (0 : Int32))), .unset, .unset] [(.int (1 : Int32)), (.ref b68)]))
        exact jn70_78 T75 _ X75 N75 rfl (1 : Int32) trivial
    by_cases hc40_73 : (p3 &&& (1 : Int32)) = (0 : Int32)
    ·
      refine own_ifYes X72 hx (pc' := 47) (hb hby at_40) ((if0 _ _).trans (teq (hc40_73 : (p3 &&& (1 : Int32)) = (0 : Int32))).1) (by decide) (by decide) ?_
      show Goes _ _ _ _ _ _ (T72.setTop (mkF m 47 #[.val (.int p1), .val (.int p2), .val (.int p3), .val (.int (p1 &&& (3 : Int32))), .val (.int ((p2 &&& (2147483647 : Int32)) % ((p1 &&& (3 : Int32)) + (1 : Int32)))), .val (.ref b68), .val (.int (if (0 : Int32) = (0 : Int32) then (1 : Int32) else (0 : Int32))), .unset, .unset] [(.ref b68)]))
      refine own_iconst X72 hx (v := (0 : Int32)) (hb hby at_47) rfl ?_
      show Goes _ _ _ _ _ _ (T72.setTop (mkF m 48 #[.val (.int p1), .val (.int p2), .val (.int p3), .val (.int (p1 &&& (3 : Int32))), .val (.int ((p2 &&& (2147483647 : Int32)) % ((p1 &&& (3 : Int32)) + (1 : Int32)))), .val (.ref b68), .val (.int (if (0 : Int32) = (0 : Int32) then (1 : Int32) else (0 : Int32))), .unset, .unset] [(.int (0 : Int32)), (.ref b68)]))
      exact jn48_74 T72 _ X72 N72 e72 (0 : Int32) trivial
    ·
      refine own_ifNo X72 hx (hb hby at_40) ((if0 _ _).trans (feq (hc40_73 : ¬ ((p3 &&& (1 : Int32)) = (0 : Int32)))).1) ?_
      show Goes _ _ _ _ _ _ (T72.setTop (mkF m 43 #[.val (.int p1), .val (.int p2), .val (.int p3), .val (.int (p1 &&& (3 : Int32))), .val (.int ((p2 &&& (2147483647 : Int32)) % ((p1 &&& (3 : Int32)) + (1 : Int32)))), .val (.ref b68), .val (.int (if (0 : Int32) = (0 : Int32) then (1 : Int32) else (0 : Int32))), .unset, .unset] [(.ref b68)]))
      refine own_iconst X72 hx (v := (1 : Int32)) (hb hby at_43) rfl ?_
      refine own_goto X72 hx (pc' := 48) (hb hby at_44) (by decide) (by decide) ?_
      show Goes _ _ _ _ _ _ (T72.setTop (mkF m 48 #[.val (.int p1), .val (.int p2), .val (.int p3), .val (.int (p1 &&& (3 : Int32))), .val (.int ((p2 &&& (2147483647 : Int32)) % ((p1 &&& (3 : Int32)) + (1 : Int32)))), .val (.ref b68), .val (.int (if (0 : Int32) = (0 : Int32) then (1 : Int32) else (0 : Int32))), .unset, .unset] [(.int (1 : Int32)), (.ref b68)]))
      exact jn48_74 T72 _ X72 N72 e72 (1 : Int32) trivial
  ·
    show Goes _ _ _ _ _ _ (T0.setTop (mkF m 14 #[.val (.int p1), .val (.int p2), .val (.int p3), .val (.int (p1 &&& (3 : Int32))), .val (.int ((p2 &&& (2147483647 : Int32)) % ((p1 &&& (3 : Int32)) + (1 : Int32)))), .unset, .unset, .unset, .unset] []))
    refine own_new X0 hx hZ hown (hw _ (List.mem_of_getElem? (i := 1) rfl)) (hw _ (List.mem_of_getElem? (i := 2) rfl)) (hw _ (List.mem_of_getElem? (i := 3) rfl)) e0 (hb hby at_14) (by decide) (by decide) (fun T91 h91 b91 g91 X91 e91 E91 A91 D91 => ?_)
    have ge_b91 : n0 ≤ b91 := Nat.le_trans (own_sz O0) (Nat.le_of_eq g91.symm)
    have O92 := O0.ext E91
    have F91_ring_b91 : Fld Z h91 b91 "com/example/kache/kache/store/ListValue" "ring" "[[B" .null := D91 (Or.inl (hw _ (List.mem_of_getElem? (i := 13) rfl))) (ty := (.array (.array .byte))) (by decide)
    have F91_size_b91 : Fld Z h91 b91 "com/example/kache/kache/store/ListValue" "size" "I" (.int (0 : Int32)) := D91 (Or.inl (hw _ (List.mem_of_getElem? (i := 20) rfl))) (ty := .int) (by decide)
    have F91_head_b91 : Fld Z h91 b91 "com/example/kache/kache/store/ListValue" "head" "I" (.int (0 : Int32)) := D91 (Or.inl (hw _ (List.mem_of_getElem? (i := 47) rfl))) (ty := .int) (by decide)
    show Goes _ _ _ _ _ _ (T91.setTop (mkF m 17 #[.val (.int p1), .val (.int p2), .val (.int p3), .val (.int (p1 &&& (3 : Int32))), .val (.int ((p2 &&& (2147483647 : Int32)) % ((p1 &&& (3 : Int32)) + (1 : Int32)))), .unset, .unset, .unset, .unset] [(.ref b91)]))
    refine own_dup X91 hx (hb hby at_17) rfl ?_
    refine own_special X91 hx hZ hown (y := (⟨"com/example/kache/kache/store/ListValue", "<init>", "()V"⟩ : MethodName)) rfl (hw _ (List.mem_of_getElem? (i := 4) rfl)) (hw _ (List.mem_of_getElem? (i := 5) rfl)) (hw _ (List.mem_of_getElem? (i := 3) rfl)) (hw _ (List.mem_of_getElem? (i := 6) rfl)) (a := b91) (by decide) (W := 1) (by decide) (by decide) N0 e91 (by rw [hml]; rfl) (argsL := []) (rest := [(.ref b91)]) (lenOf pd_4 rfl) (Nat.le_of_eq rfl) (by decide) (by decide) (rm1 l Z a0 hw [] b91 (.null) h91 n0 O92 A91 F91_ring_b91 F91_head_b91 F91_size_b91 ge_b91) rfl (hb hby at_18) ?_
    intro v93 T93 lc93 X93 N93 hQ93
    obtain ⟨r_93, k_93, rfl, K93, r93_0, r93_1, r93_2, r93_3, r93_4, r93_5, r93_6⟩ := hQ93
    have O94 := O92.keep K93 (allS ge_b91 all0)
    have ge_r_93 : n0 ≤ r_93 := Nat.le_trans (own_sz O92) r93_5
    show Goes _ _ _ _ _ _ (T93.setTop (mkF m 21 #[.val (.int p1), .val (.int p2), .val (.int p3), .val (.int (p1 &&& (3 : Int32))), .val (.int ((p2 &&& (2147483647 : Int32)) % ((p1 &&& (3 : Int32)) + (1 : Int32)))), .unset, .unset, .unset, .unset] [(.ref b91)]))
    refine own_astore X93 hx (Ls' := #[.val (.int p1), .val (.int p2), .val (.int p3), .val (.int (p1 &&& (3 : Int32))), .val (.int ((p2 &&& (2147483647 : Int32)) % ((p1 &&& (3 : Int32)) + (1 : Int32)))), .val (.ref b91), .unset, .unset, .unset]) (hb hby at_21) rfl rfl ?_
    refine own_aload X93 hx (hb hby at_23) rfl rfl ?_
    refine own_virtual X93 hx hZ hown (y := (⟨"com/example/kache/kache/store/ListValue", "isEmpty", "()Z"⟩ : MethodName)) (z := (⟨"com/example/kache/kache/store/ListValue", "isEmpty", "()Z"⟩ : MethodName)) (hw _ (List.mem_of_getElem? (i := 14) rfl)) (hw _ (List.mem_of_getElem? (i := 15) rfl)) (notFace_of_selects (args := #[]) (mvT hZ (hw _ (List.mem_of_getElem? (i := 17) rfl)))) (hw _ (List.mem_of_getElem? (i := 17) rfl)) (hw _ (List.mem_of_getElem? (i := 16) rfl)) (hw _ (List.mem_of_getElem? (i := 3) rfl)) (hw _ (List.mem_of_getElem? (i := 18) rfl)) (a := b91) r93_0 (by decide) (W := 0) (by decide) (by decide) N93 rfl (by rw [hml]; rfl) (argsL := []) (rest := []) (lenOf pd_8 rfl) (Nat.le_of_eq rfl) (by decide) (by decide) (rm3 l Z a0 hw [] b91 (0 : Int32) T93.heap n0 O94 r93_3) rfl (hb hby at_25) ?_
    intro v95 T95 lc95 X95 N95 hQ95
    obtain ⟨rfl, e95⟩ := hQ95
    show Goes _ _ _ _ _ _ (T95.setTop (mkF m 28 #[.val (.int p1), .val (.int p2), .val (.int p3), .val (.int (p1 &&& (3 : Int32))), .val (.int ((p2 &&& (2147483647 : Int32)) % ((p1 &&& (3 : Int32)) + (1 : Int32)))), .val (.ref b91), .unset, .unset, .unset] [(.int (if (0 : Int32) = (0 : Int32) then (1 : Int32) else (0 : Int32)))]))
    refine own_istore X95 hx (Ls' := #[.val (.int p1), .val (.int p2), .val (.int p3), .val (.int (p1 &&& (3 : Int32))), .val (.int ((p2 &&& (2147483647 : Int32)) % ((p1 &&& (3 : Int32)) + (1 : Int32)))), .val (.ref b91), .val (.int (if (0 : Int32) = (0 : Int32) then (1 : Int32) else (0 : Int32))), .unset, .unset]) (hb hby at_28) rfl ?_
    refine own_iloadN X95 hx (hb hby at_30) rfl ?_
    refine own_iconst X95 hx (v := (1 : Int32)) (hb hby at_31) rfl ?_
    refine own_icmpNo X95 hx (hb hby at_32) (flt ((by first | (rw [hca]; done) | (rw [hca]; decide)) : ¬ ((p1 &&& (3 : Int32)) < (1 : Int32)))).1 ?_
    show Goes _ _ _ _ _ _ (T95.setTop (mkF m 35 #[.val (.int p1), .val (.int p2), .val (.int p3), .val (.int (p1 &&& (3 : Int32))), .val (.int ((p2 &&& (2147483647 : Int32)) % ((p1 &&& (3 : Int32)) + (1 : Int32)))), .val (.ref b91), .val (.int (if (0 : Int32) = (0 : Int32) then (1 : Int32) else (0 : Int32))), .unset, .unset] []))
    refine own_aload X95 hx (hb hby at_35) rfl rfl ?_
    refine own_iloadN X95 hx (hb hby at_37) rfl ?_
    refine own_iconst X95 hx (v := (1 : Int32)) (hb hby at_38) rfl ?_
    refine own_iand X95 hx (hb hby at_39) ?_
    show Goes _ _ _ _ _ _ (T95.setTop (mkF m 40 #[.val (.int p1), .val (.int p2), .val (.int p3), .val (.int (p1 &&& (3 : Int32))), .val (.int ((p2 &&& (2147483647 : Int32)) % ((p1 &&& (3 : Int32)) + (1 : Int32)))), .val (.ref b91), .val (.int (if (0 : Int32) = (0 : Int32) then (1 : Int32) else (0 : Int32))), .unset, .unset] [(.int (p3 &&& (1 : Int32))), (.ref b91)]))
    have jn48_97 : ∀ (T97 : State) (lc97 : List Loc) (X97 : Stand p l e room_1 (s.setVm s.vm) m #[(.int p1), (.int p2), (.int p3)] below meth c T97 lc97 2 11) (N97 : Fr n0 lc97) (e97 : T97.heap = T93.heap) (w97 : Int32) (hj97 : True), Goes p e below (fun o t L => ReturnedEndW s o t L (24) (1152)) n0 (Q0 Z p1 p2 p3 h0 n0) (T97.setTop (mkF m 48 #[.val (.int p1), .val (.int p2), .val (.int p3), .val (.int (p1 &&& (3 : Int32))), .val (.int ((p2 &&& (2147483647 : Int32)) % ((p1 &&& (3 : Int32)) + (1 : Int32)))), .val (.ref b91), .val (.int (if (0 : Int32) = (0 : Int32) then (1 : Int32) else (0 : Int32))), .unset, .unset] [(.int w97), (.ref b91)])) := by
      intro T97 lc97 X97 N97 e97 w97 hj97
      show Goes _ _ _ _ _ _ (T97.setTop (mkF m 48 #[.val (.int p1), .val (.int p2), .val (.int p3), .val (.int (p1 &&& (3 : Int32))), .val (.int ((p2 &&& (2147483647 : Int32)) % ((p1 &&& (3 : Int32)) + (1 : Int32)))), .val (.ref b91), .val (.int (if (0 : Int32) = (0 : Int32) then (1 : Int32) else (0 : Int32))), .unset, .unset] [(.int w97), (.ref b91)]))
      refine own_iloadN X97 hx (hb hby at_48) rfl ?_
      refine own_callSW X97 hx hZ hown hS0 (Nat.zero_le _) (y := (⟨"com/example/kache/kache/store/ListValueIsEmptyPinLaw", "addOne", "(Lcom/example/kache/kache/store/ListValue;ZI)V"⟩ : MethodName)) (hw _ (List.mem_of_getElem? (i := 21) rfl)) (hw _ (List.mem_of_getElem? (i := 22) rfl)) (hw _ (List.mem_of_getElem? (i := 23) rfl)) (hw _ (List.mem_of_getElem? (i := 24) rfl)) (by decide) (W := 0) (by decide) (by decide) N97 e97 (by rw [hml]; rfl) (argsL := [(.ref b91), (.int w97), (.int p3)]) (rest := []) (lenOf pd_9 rfl) (Nat.le_of_eq rfl) (by decide) (by decide) (rm4 l Z a0 hw [] b91 w97 p3 r_93 (0 : Int32) (0 : Int32) k_93 [.null, .null, .null, .null, .null, .null, .null, .null] T93.heap n0 O94 r93_0 r93_1 r93_2 r93_3 r93_4 (by first | assumption | decide | exact ⟨rfl, rfl⟩) ge_b91 ge_r_93 (by first | assumption | decide | exact ⟨rfl, rfl⟩) r93_6 (by first | assumption | decide | exact ⟨rfl, rfl⟩)) rfl (hb hby at_49) ?_
      intro v98 T98 lc98 k1_98 X98 hS98 hk98_ hZ hown N98 hQ98
      obtain ⟨hd2_98, vs2_98, rfl, K98, r98_0, r98_1, r98_2, r98_3, r98_4, r98_5, r98_6⟩ := hQ98
      have O99 := O94.keep K98 (allS ge_b91 (allS ge_r_93 all0))
      show Goes _ _ _ _ _ _ (T98.setTop (mkF m 52 #[.val (.int p1), .val (.int p2), .val (.int p3), .val (.int (p1 &&& (3 : Int32))), .val (.int ((p2 &&& (2147483647 : Int32)) % ((p1 &&& (3 : Int32)) + (1 : Int32)))), .val (.ref b91), .val (.int (if (0 : Int32) = (0 : Int32) then (1 : Int32) else (0 : Int32))), .unset, .unset] []))
      refine own_iloadN X98 hx (hb hby at_52) rfl ?_
      refine own_iconst X98 hx (v := (2 : Int32)) (hb hby at_53) rfl ?_
      refine own_icmpNo X98 hx (hb hby at_54) (flt ((by first | (rw [hca]; done) | (rw [hca]; decide)) : ¬ ((p1 &&& (3 : Int32)) < (2 : Int32)))).1 ?_
      show Goes _ _ _ _ _ _ (T98.setTop (mkF m 57 #[.val (.int p1), .val (.int p2), .val (.int p3), .val (.int (p1 &&& (3 : Int32))), .val (.int ((p2 &&& (2147483647 : Int32)) % ((p1 &&& (3 : Int32)) + (1 : Int32)))), .val (.ref b91), .val (.int (if (0 : Int32) = (0 : Int32) then (1 : Int32) else (0 : Int32))), .unset, .unset] []))
      refine own_aload X98 hx (hb hby at_57) rfl rfl ?_
      refine own_iloadN X98 hx (hb hby at_59) rfl ?_
      refine own_iconst X98 hx (v := (2 : Int32)) (hb hby at_60) rfl ?_
      refine own_iand X98 hx (hb hby at_61) ?_
      show Goes _ _ _ _ _ _ (T98.setTop (mkF m 62 #[.val (.int p1), .val (.int p2), .val (.int p3), .val (.int (p1 &&& (3 : Int32))), .val (.int ((p2 &&& (2147483647 : Int32)) % ((p1 &&& (3 : Int32)) + (1 : Int32)))), .val (.ref b91), .val (.int (if (0 : Int32) = (0 : Int32) then (1 : Int32) else (0 : Int32))), .unset, .unset] [(.int (p3 &&& (2 : Int32))), (.ref b91)]))
      have jn70_101 : ∀ (T101 : State) (lc101 : List Loc) (X101 : Stand p l e room_1 (s.setVm T98.vm) m #[(.int p1), (.int p2), (.int p3)] below meth c T101 lc101 5 44) (N101 : Fr n0 lc101) (e101 : T101.heap = T98.heap) (w101 : Int32) (hj101 : True), Goes p e below (fun o t L => ReturnedEndW s o t L (24) (1152)) n0 (Q0 Z p1 p2 p3 h0 n0) (T101.setTop (mkF m 70 #[.val (.int p1), .val (.int p2), .val (.int p3), .val (.int (p1 &&& (3 : Int32))), .val (.int ((p2 &&& (2147483647 : Int32)) % ((p1 &&& (3 : Int32)) + (1 : Int32)))), .val (.ref b91), .val (.int (if (0 : Int32) = (0 : Int32) then (1 : Int32) else (0 : Int32))), .unset, .unset] [(.int w101), (.ref b91)])) := by
        intro T101 lc101 X101 N101 e101 w101 hj101
        show Goes _ _ _ _ _ _ (T101.setTop (mkF m 70 #[.val (.int p1), .val (.int p2), .val (.int p3), .val (.int (p1 &&& (3 : Int32))), .val (.int ((p2 &&& (2147483647 : Int32)) % ((p1 &&& (3 : Int32)) + (1 : Int32)))), .val (.ref b91), .val (.int (if (0 : Int32) = (0 : Int32) then (1 : Int32) else (0 : Int32))), .unset, .unset] [(.int w101), (.ref b91)]))
        refine own_iloadN X101 hx (hb hby at_70) rfl ?_
        refine own_bipush X101 hx (v := (8 : Int32)) (hb hby at_71) rfl ?_
        refine own_ishr X101 hx (hb hby at_73) ?_
        refine own_callSW X101 hx hZ hown hS98 hk98_ (y := (⟨"com/example/kache/kache/store/ListValueIsEmptyPinLaw", "addOne", "(Lcom/example/kache/kache/store/ListValue;ZI)V"⟩ : MethodName)) (hw _ (List.mem_of_getElem? (i := 21) rfl)) (hw _ (List.mem_of_getElem? (i := 22) rfl)) (hw _ (List.mem_of_getElem? (i := 23) rfl)) (hw _ (List.mem_of_getElem? (i := 24) rfl)) (by decide) (W := 0) (by decide) (by decide) N101 e101 (by rw [hml]; rfl) (argsL := [(.ref b91), (.int w101), (.int (p3 >>> ((8 : Int32) &&& 31)))]) (rest := []) (lenOf pd_9 rfl) (Nat.le_of_eq rfl) (by decide) (by decide) (rm4 l Z a0 hw [] b91 w101 (p3 >>> ((8 : Int32) &&& 31)) r_93 hd2_98 ((0 : Int32) + (1 : Int32)) k_93 vs2_98 T98.heap n0 O99 r98_0 r98_1 r98_2 r98_3 r98_4 r98_5 ge_b91 ge_r_93 r98_6 r93_6 (by first | assumption | decide | exact ⟨rfl, rfl⟩)) rfl (hb hby at_74) ?_
        intro v102 T102 lc102 k1_102 X102 hS102 hk102_ hZ hown N102 hQ102
        obtain ⟨hd2_102, vs2_102, rfl, K102, r102_0, r102_1, r102_2, r102_3, r102_4, r102_5, r102_6⟩ := hQ102
        have O103 := O99.keep K102 (allS ge_b91 (allS ge_r_93 all0))
        have hk103 := Nat.le_trans hk98_ K102.1
        show Goes _ _ _ _ _ _ (T102.setTop (mkF m 77 #[.val (.int p1), .val (.int p2), .val (.int p3), .val (.int (p1 &&& (3 : Int32))), .val (.int ((p2 &&& (2147483647 : Int32)) % ((p1 &&& (3 : Int32)) + (1 : Int32)))), .val (.ref b91), .val (.int (if (0 : Int32) = (0 : Int32) then (1 : Int32) else (0 : Int32))), .unset, .unset] []))
        refine own_iloadN X102 hx (hb hby at_77) rfl ?_
        refine own_iconst X102 hx (v := (3 : Int32)) (hb hby at_78) rfl ?_
        refine own_icmpNo X102 hx (hb hby at_79) (flt ((by first | (rw [hca]; done) | (rw [hca]; decide)) : ¬ ((p1 &&& (3 : Int32)) < (3 : Int32)))).1 ?_
        show Goes _ _ _ _ _ _ (T102.setTop (mkF m 82 #[.val (.int p1), .val (.int p2), .val (.int p3), .val (.int (p1 &&& (3 : Int32))), .val (.int ((p2 &&& (2147483647 : Int32)) % ((p1 &&& (3 : Int32)) + (1 : Int32)))), .val (.ref b91), .val (.int (if (0 : Int32) = (0 : Int32) then (1 : Int32) else (0 : Int32))), .unset, .unset] []))
        refine own_aload X102 hx (hb hby at_82) rfl rfl ?_
        refine own_iloadN X102 hx (hb hby at_84) rfl ?_
        refine own_iconst X102 hx (v := (4 : Int32)) (hb hby at_85) rfl ?_
        refine own_iand X102 hx (hb hby at_86) ?_
        show Goes _ _ _ _ _ _ (T102.setTop (mkF m 87 #[.val (.int p1), .val (.int p2), .val (.int p3), .val (.int (p1 &&& (3 : Int32))), .val (.int ((p2 &&& (2147483647 : Int32)) % ((p1 &&& (3 : Int32)) + (1 : Int32)))), .val (.ref b91), .val (.int (if (0 : Int32) = (0 : Int32) then (1 : Int32) else (0 : Int32))), .unset, .unset] [(.int (p3 &&& (4 : Int32))), (.ref b91)]))
        have jn95_105 : ∀ (T105 : State) (lc105 : List Loc) (X105 : Stand p l e room_1 (s.setVm T102.vm) m #[(.int p1), (.int p2), (.int p3)] below meth c T105 lc105 8 77) (N105 : Fr n0 lc105) (e105 : T105.heap = T102.heap) (w105 : Int32) (hj105 : True), Goes p e below (fun o t L => ReturnedEndW s o t L (24) (1152)) n0 (Q0 Z p1 p2 p3 h0 n0) (T105.setTop (mkF m 95 #[.val (.int p1), .val (.int p2), .val (.int p3), .val (.int (p1 &&& (3 : Int32))), .val (.int ((p2 &&& (2147483647 : Int32)) % ((p1 &&& (3 : Int32)) + (1 : Int32)))), .val (.ref b91), .val (.int (if (0 : Int32) = (0 : Int32) then (1 : Int32) else (0 : Int32))), .unset, .unset] [(.int w105), (.ref b91)])) := by
          intro T105 lc105 X105 N105 e105 w105 hj105
          show Goes _ _ _ _ _ _ (T105.setTop (mkF m 95 #[.val (.int p1), .val (.int p2), .val (.int p3), .val (.int (p1 &&& (3 : Int32))), .val (.int ((p2 &&& (2147483647 : Int32)) % ((p1 &&& (3 : Int32)) + (1 : Int32)))), .val (.ref b91), .val (.int (if (0 : Int32) = (0 : Int32) then (1 : Int32) else (0 : Int32))), .unset, .unset] [(.int w105), (.ref b91)]))
          refine own_iloadN X105 hx (hb hby at_95) rfl ?_
          refine own_bipush X105 hx (v := (16 : Int32)) (hb hby at_96) rfl ?_
          refine own_ishr X105 hx (hb hby at_98) ?_
          refine own_callSW X105 hx hZ hown hS102 hk102_ (y := (⟨"com/example/kache/kache/store/ListValueIsEmptyPinLaw", "addOne", "(Lcom/example/kache/kache/store/ListValue;ZI)V"⟩ : MethodName)) (hw _ (List.mem_of_getElem? (i := 21) rfl)) (hw _ (List.mem_of_getElem? (i := 22) rfl)) (hw _ (List.mem_of_getElem? (i := 23) rfl)) (hw _ (List.mem_of_getElem? (i := 24) rfl)) (by decide) (W := 0) (by decide) (by decide) N105 e105 (by rw [hml]; rfl) (argsL := [(.ref b91), (.int w105), (.int (p3 >>> ((16 : Int32) &&& 31)))]) (rest := []) (lenOf pd_9 rfl) (Nat.le_of_eq rfl) (by decide) (by decide) (rm4 l Z a0 hw [] b91 w105 (p3 >>> ((16 : Int32) &&& 31)) r_93 hd2_102 (((0 : Int32) + (1 : Int32)) + (1 : Int32)) k_93 vs2_102 T102.heap n0 O103 r102_0 r102_1 r102_2 r102_3 r102_4 r102_5 ge_b91 ge_r_93 r102_6 r93_6 (by first | assumption | decide | exact ⟨rfl, rfl⟩)) rfl (hb hby at_99) ?_
          intro v106 T106 lc106 k1_106 X106 hS106 hk106_ hZ hown N106 hQ106
          obtain ⟨hd2_106, vs2_106, rfl, K106, r106_0, r106_1, r106_2, r106_3, r106_4, r106_5, r106_6⟩ := hQ106
          have O107 := O103.keep K106 (allS ge_b91 (allS ge_r_93 all0))
          have hk107 := Nat.le_trans hk102_ K106.1
          show Goes _ _ _ _ _ _ (T106.setTop (mkF m 102 #[.val (.int p1), .val (.int p2), .val (.int p3), .val (.int (p1 &&& (3 : Int32))), .val (.int ((p2 &&& (2147483647 : Int32)) % ((p1 &&& (3 : Int32)) + (1 : Int32)))), .val (.ref b91), .val (.int (if (0 : Int32) = (0 : Int32) then (1 : Int32) else (0 : Int32))), .unset, .unset] []))
          refine own_aload X106 hx (hb hby at_102) rfl rfl ?_
          refine own_virtual X106 hx hZ hown (y := (⟨"com/example/kache/kache/store/ListValue", "isEmpty", "()Z"⟩ : MethodName)) (z := (⟨"com/example/kache/kache/store/ListValue", "isEmpty", "()Z"⟩ : MethodName)) (hw _ (List.mem_of_getElem? (i := 14) rfl)) (hw _ (List.mem_of_getElem? (i := 15) rfl)) (notFace_of_selects (args := #[]) (mvT hZ (hw _ (List.mem_of_getElem? (i := 17) rfl)))) (hw _ (List.mem_of_getElem? (i := 17) rfl)) (hw _ (List.mem_of_getElem? (i := 16) rfl)) (hw _ (List.mem_of_getElem? (i := 3) rfl)) (hw _ (List.mem_of_getElem? (i := 18) rfl)) (a := b91) r106_0 (by decide) (W := 0) (by decide) (by decide) N106 rfl (by rw [hml]; rfl) (argsL := []) (rest := []) (lenOf pd_8 rfl) (Nat.le_of_eq rfl) (by decide) (by decide) (rm3 l Z a0 hw [] b91 ((((0 : Int32) + (1 : Int32)) + (1 : Int32)) + (1 : Int32)) T106.heap n0 O107 r106_3) rfl (hb hby at_104) ?_
          intro v108 T108 lc108 X108 N108 hQ108
          obtain ⟨rfl, e108⟩ := hQ108
          show Goes _ _ _ _ _ _ (T108.setTop (mkF m 107 #[.val (.int p1), .val (.int p2), .val (.int p3), .val (.int (p1 &&& (3 : Int32))), .val (.int ((p2 &&& (2147483647 : Int32)) % ((p1 &&& (3 : Int32)) + (1 : Int32)))), .val (.ref b91), .val (.int (if (0 : Int32) = (0 : Int32) then (1 : Int32) else (0 : Int32))), .unset, .unset] [(.int (if ((((0 : Int32) + (1 : Int32)) + (1 : Int32)) + (1 : Int32)) = (0 : Int32) then (1 : Int32) else (0 : Int32)))]))
          refine own_istore X108 hx (Ls' := #[.val (.int p1), .val (.int p2), .val (.int p3), .val (.int (p1 &&& (3 : Int32))), .val (.int ((p2 &&& (2147483647 : Int32)) % ((p1 &&& (3 : Int32)) + (1 : Int32)))), .val (.ref b91), .val (.int (if (0 : Int32) = (0 : Int32) then (1 : Int32) else (0 : Int32))), .val (.int (if ((((0 : Int32) + (1 : Int32)) + (1 : Int32)) + (1 : Int32)) = (0 : Int32) then (1 : Int32) else (0 : Int32))), .unset]) (hb hby at_107) rfl ?_
          refine own_iload X108 hx (hb hby at_109) rfl ?_
          refine own_iconst X108 hx (v := (1 : Int32)) (hb hby at_111) rfl ?_
          refine own_icmpYes X108 hx (pc' := 132) (hb hby at_112) (tlt ((by first | (rw [hcr]; done) | (rw [hcr]; decide)) : ((p2 &&& (2147483647 : Int32)) % ((p1 &&& (3 : Int32)) + (1 : Int32))) < (1 : Int32))).1 (by decide) (by decide) ?_
          show Goes _ _ _ _ _ _ (T108.setTop (mkF m 132 #[.val (.int p1), .val (.int p2), .val (.int p3), .val (.int (p1 &&& (3 : Int32))), .val (.int ((p2 &&& (2147483647 : Int32)) % ((p1 &&& (3 : Int32)) + (1 : Int32)))), .val (.ref b91), .val (.int (if (0 : Int32) = (0 : Int32) then (1 : Int32) else (0 : Int32))), .val (.int (if ((((0 : Int32) + (1 : Int32)) + (1 : Int32)) + (1 : Int32)) = (0 : Int32) then (1 : Int32) else (0 : Int32))), .unset] []))
          refine own_iload X108 hx (hb hby at_132) rfl ?_
          refine own_iconst X108 hx (v := (2 : Int32)) (hb hby at_134) rfl ?_
          refine own_icmpYes X108 hx (pc' := 155) (hb hby at_135) (tlt ((by first | (rw [hcr]; done) | (rw [hcr]; decide)) : ((p2 &&& (2147483647 : Int32)) % ((p1 &&& (3 : Int32)) + (1 : Int32))) < (2 : Int32))).1 (by decide) (by decide) ?_
          show Goes _ _ _ _ _ _ (T108.setTop (mkF m 155 #[.val (.int p1), .val (.int p2), .val (.int p3), .val (.int (p1 &&& (3 : Int32))), .val (.int ((p2 &&& (2147483647 : Int32)) % ((p1 &&& (3 : Int32)) + (1 : Int32)))), .val (.ref b91), .val (.int (if (0 : Int32) = (0 : Int32) then (1 : Int32) else (0 : Int32))), .val (.int (if ((((0 : Int32) + (1 : Int32)) + (1 : Int32)) + (1 : Int32)) = (0 : Int32) then (1 : Int32) else (0 : Int32))), .unset] []))
          refine own_iload X108 hx (hb hby at_155) rfl ?_
          refine own_iconst X108 hx (v := (3 : Int32)) (hb hby at_157) rfl ?_
          refine own_icmpYes X108 hx (pc' := 178) (hb hby at_158) (tlt ((by first | (rw [hcr]; done) | (rw [hcr]; decide)) : ((p2 &&& (2147483647 : Int32)) % ((p1 &&& (3 : Int32)) + (1 : Int32))) < (3 : Int32))).1 (by decide) (by decide) ?_
          show Goes _ _ _ _ _ _ (T108.setTop (mkF m 178 #[.val (.int p1), .val (.int p2), .val (.int p3), .val (.int (p1 &&& (3 : Int32))), .val (.int ((p2 &&& (2147483647 : Int32)) % ((p1 &&& (3 : Int32)) + (1 : Int32)))), .val (.ref b91), .val (.int (if (0 : Int32) = (0 : Int32) then (1 : Int32) else (0 : Int32))), .val (.int (if ((((0 : Int32) + (1 : Int32)) + (1 : Int32)) + (1 : Int32)) = (0 : Int32) then (1 : Int32) else (0 : Int32))), .unset] []))
          refine own_aload X108 hx (hb hby at_178) rfl rfl ?_
          refine own_virtual X108 hx hZ hown (y := (⟨"com/example/kache/kache/store/ListValue", "isEmpty", "()Z"⟩ : MethodName)) (z := (⟨"com/example/kache/kache/store/ListValue", "isEmpty", "()Z"⟩ : MethodName)) (hw _ (List.mem_of_getElem? (i := 14) rfl)) (hw _ (List.mem_of_getElem? (i := 15) rfl)) (notFace_of_selects (args := #[]) (mvT hZ (hw _ (List.mem_of_getElem? (i := 17) rfl)))) (hw _ (List.mem_of_getElem? (i := 17) rfl)) (hw _ (List.mem_of_getElem? (i := 16) rfl)) (hw _ (List.mem_of_getElem? (i := 3) rfl)) (hw _ (List.mem_of_getElem? (i := 18) rfl)) (a := b91) r106_0 (by decide) (W := 0) (by decide) (by decide) N108 e108 (by rw [hml]; rfl) (argsL := []) (rest := []) (lenOf pd_8 rfl) (Nat.le_of_eq rfl) (by decide) (by decide) (rm3 l Z a0 hw [] b91 ((((0 : Int32) + (1 : Int32)) + (1 : Int32)) + (1 : Int32)) T106.heap n0 O107 r106_3) rfl (hb hby at_180) ?_
          intro v109 T109 lc109 X109 N109 hQ109
          obtain ⟨rfl, e109⟩ := hQ109
          show Goes _ _ _ _ _ _ (T109.setTop (mkF m 183 #[.val (.int p1), .val (.int p2), .val (.int p3), .val (.int (p1 &&& (3 : Int32))), .val (.int ((p2 &&& (2147483647 : Int32)) % ((p1 &&& (3 : Int32)) + (1 : Int32)))), .val (.ref b91), .val (.int (if (0 : Int32) = (0 : Int32) then (1 : Int32) else (0 : Int32))), .val (.int (if ((((0 : Int32) + (1 : Int32)) + (1 : Int32)) + (1 : Int32)) = (0 : Int32) then (1 : Int32) else (0 : Int32))), .unset] [(.int (if ((((0 : Int32) + (1 : Int32)) + (1 : Int32)) + (1 : Int32)) = (0 : Int32) then (1 : Int32) else (0 : Int32)))]))
          refine own_istore X109 hx (Ls' := #[.val (.int p1), .val (.int p2), .val (.int p3), .val (.int (p1 &&& (3 : Int32))), .val (.int ((p2 &&& (2147483647 : Int32)) % ((p1 &&& (3 : Int32)) + (1 : Int32)))), .val (.ref b91), .val (.int (if (0 : Int32) = (0 : Int32) then (1 : Int32) else (0 : Int32))), .val (.int (if ((((0 : Int32) + (1 : Int32)) + (1 : Int32)) + (1 : Int32)) = (0 : Int32) then (1 : Int32) else (0 : Int32))), .val (.int (if ((((0 : Int32) + (1 : Int32)) + (1 : Int32)) + (1 : Int32)) = (0 : Int32) then (1 : Int32) else (0 : Int32)))]) (hb hby at_183) rfl ?_
          refine own_iload X109 hx (hb hby at_185) rfl ?_
          refine own_ifNo X109 hx (hb hby at_187) ((if0 _ _).trans (feq ((own_bnz (not_not_intro (by decide))) : ¬ ((if (0 : Int32) = (0 : Int32) then (1 : Int32) else (0 : Int32)) = (0 : Int32)))).1) ?_
          show Goes _ _ _ _ _ _ (T109.setTop (mkF m 190 #[.val (.int p1), .val (.int p2), .val (.int p3), .val (.int (p1 &&& (3 : Int32))), .val (.int ((p2 &&& (2147483647 : Int32)) % ((p1 &&& (3 : Int32)) + (1 : Int32)))), .val (.ref b91), .val (.int (if (0 : Int32) = (0 : Int32) then (1 : Int32) else (0 : Int32))), .val (.int (if ((((0 : Int32) + (1 : Int32)) + (1 : Int32)) + (1 : Int32)) = (0 : Int32) then (1 : Int32) else (0 : Int32))), .val (.int (if ((((0 : Int32) + (1 : Int32)) + (1 : Int32)) + (1 : Int32)) = (0 : Int32) then (1 : Int32) else (0 : Int32)))] []))
          refine own_iload X109 hx (hb hby at_190) rfl ?_
          refine own_iloadN X109 hx (hb hby at_192) rfl ?_
          refine own_ifYes X109 hx (pc' := 200) (hb hby at_193) ((if0 _ _).trans (feq ((by first | (rw [hca]; done) | (rw [hca]; decide)) : ¬ ((p1 &&& (3 : Int32)) = (0 : Int32)))).2) (by decide) (by decide) ?_
          show Goes _ _ _ _ _ _ (T109.setTop (mkF m 200 #[.val (.int p1), .val (.int p2), .val (.int p3), .val (.int (p1 &&& (3 : Int32))), .val (.int ((p2 &&& (2147483647 : Int32)) % ((p1 &&& (3 : Int32)) + (1 : Int32)))), .val (.ref b91), .val (.int (if (0 : Int32) = (0 : Int32) then (1 : Int32) else (0 : Int32))), .val (.int (if ((((0 : Int32) + (1 : Int32)) + (1 : Int32)) + (1 : Int32)) = (0 : Int32) then (1 : Int32) else (0 : Int32))), .val (.int (if ((((0 : Int32) + (1 : Int32)) + (1 : Int32)) + (1 : Int32)) = (0 : Int32) then (1 : Int32) else (0 : Int32)))] [(.int (if ((((0 : Int32) + (1 : Int32)) + (1 : Int32)) + (1 : Int32)) = (0 : Int32) then (1 : Int32) else (0 : Int32)))]))
          refine own_iconst X109 hx (v := (0 : Int32)) (hb hby at_200) rfl ?_
          refine own_icmpNo X109 hx (hb hby at_201) (teq ((by first | (rw [if_neg (show ¬ (((((0 : Int32) + (1 : Int32)) + (1 : Int32)) + (1 : Int32)) = (0 : Int32)) by decide)]; done) | (rw [if_neg (show ¬ (((((0 : Int32) + (1 : Int32)) + (1 : Int32)) + (1 : Int32)) = (0 : Int32)) by decide)]; decide)) : (if ((((0 : Int32) + (1 : Int32)) + (1 : Int32)) + (1 : Int32)) = (0 : Int32) then (1 : Int32) else (0 : Int32)) = (0 : Int32))).2 ?_
          show Goes _ _ _ _ _ _ (T109.setTop (mkF m 204 #[.val (.int p1), .val (.int p2), .val (.int p3), .val (.int (p1 &&& (3 : Int32))), .val (.int ((p2 &&& (2147483647 : Int32)) % ((p1 &&& (3 : Int32)) + (1 : Int32)))), .val (.ref b91), .val (.int (if (0 : Int32) = (0 : Int32) then (1 : Int32) else (0 : Int32))), .val (.int (if ((((0 : Int32) + (1 : Int32)) + (1 : Int32)) + (1 : Int32)) = (0 : Int32) then (1 : Int32) else (0 : Int32))), .val (.int (if ((((0 : Int32) + (1 : Int32)) + (1 : Int32)) + (1 : Int32)) = (0 : Int32) then (1 : Int32) else (0 : Int32)))] []))
          refine own_iload X109 hx (hb hby at_204) rfl ?_
          refine own_iloadN X109 hx (hb hby at_206) rfl ?_
          refine own_iload X109 hx (hb hby at_207) rfl ?_
          refine own_icmpYes X109 hx (pc' := 216) (hb hby at_209) (feq ((by first | (rw [hca, hcr]; done) | (rw [hca, hcr]; decide) | (rw [hcr, hca]; done) | (rw [hcr, hca]; decide)) : ¬ ((p1 &&& (3 : Int32)) = ((p2 &&& (2147483647 : Int32)) % ((p1 &&& (3 : Int32)) + (1 : Int32)))))).2 (by decide) (by decide) ?_
          show Goes _ _ _ _ _ _ (T109.setTop (mkF m 216 #[.val (.int p1), .val (.int p2), .val (.int p3), .val (.int (p1 &&& (3 : Int32))), .val (.int ((p2 &&& (2147483647 : Int32)) % ((p1 &&& (3 : Int32)) + (1 : Int32)))), .val (.ref b91), .val (.int (if (0 : Int32) = (0 : Int32) then (1 : Int32) else (0 : Int32))), .val (.int (if ((((0 : Int32) + (1 : Int32)) + (1 : Int32)) + (1 : Int32)) = (0 : Int32) then (1 : Int32) else (0 : Int32))), .val (.int (if ((((0 : Int32) + (1 : Int32)) + (1 : Int32)) + (1 : Int32)) = (0 : Int32) then (1 : Int32) else (0 : Int32)))] [(.int (if ((((0 : Int32) + (1 : Int32)) + (1 : Int32)) + (1 : Int32)) = (0 : Int32) then (1 : Int32) else (0 : Int32)))]))
          refine own_iconst X109 hx (v := (0 : Int32)) (hb hby at_216) rfl ?_
          refine own_icmpNo X109 hx (hb hby at_217) (teq ((by first | (rw [if_neg (show ¬ (((((0 : Int32) + (1 : Int32)) + (1 : Int32)) + (1 : Int32)) = (0 : Int32)) by decide)]; done) | (rw [if_neg (show ¬ (((((0 : Int32) + (1 : Int32)) + (1 : Int32)) + (1 : Int32)) = (0 : Int32)) by decide)]; decide)) : (if ((((0 : Int32) + (1 : Int32)) + (1 : Int32)) + (1 : Int32)) = (0 : Int32) then (1 : Int32) else (0 : Int32)) = (0 : Int32))).2 ?_
          show Goes _ _ _ _ _ _ (T109.setTop (mkF m 220 #[.val (.int p1), .val (.int p2), .val (.int p3), .val (.int (p1 &&& (3 : Int32))), .val (.int ((p2 &&& (2147483647 : Int32)) % ((p1 &&& (3 : Int32)) + (1 : Int32)))), .val (.ref b91), .val (.int (if (0 : Int32) = (0 : Int32) then (1 : Int32) else (0 : Int32))), .val (.int (if ((((0 : Int32) + (1 : Int32)) + (1 : Int32)) + (1 : Int32)) = (0 : Int32) then (1 : Int32) else (0 : Int32))), .val (.int (if ((((0 : Int32) + (1 : Int32)) + (1 : Int32)) + (1 : Int32)) = (0 : Int32) then (1 : Int32) else (0 : Int32)))] []))
          refine own_iconst X109 hx (v := (1 : Int32)) (hb hby at_220) rfl ?_
          refine own_goto X109 hx (pc' := 225) (hb hby at_221) (by decide) (by decide) ?_
          show Goes _ _ _ _ _ _ (T109.setTop (mkF m 225 #[.val (.int p1), .val (.int p2), .val (.int p3), .val (.int (p1 &&& (3 : Int32))), .val (.int ((p2 &&& (2147483647 : Int32)) % ((p1 &&& (3 : Int32)) + (1 : Int32)))), .val (.ref b91), .val (.int (if (0 : Int32) = (0 : Int32) then (1 : Int32) else (0 : Int32))), .val (.int (if ((((0 : Int32) + (1 : Int32)) + (1 : Int32)) + (1 : Int32)) = (0 : Int32) then (1 : Int32) else (0 : Int32))), .val (.int (if ((((0 : Int32) + (1 : Int32)) + (1 : Int32)) + (1 : Int32)) = (0 : Int32) then (1 : Int32) else (0 : Int32)))] [(.int (1 : Int32))]))
          exact own_retNW X109 hx (t := .boolean) hS106 (by rw [e109]; exact hk106_) N109 hlk (by decide) (by decide) hret (by simp) (hb hby at_225) (by rw [e109]; exact rfl)
        by_cases hc87_104 : (p3 &&& (4 : Int32)) = (0 : Int32)
        ·
          refine own_ifYes X102 hx (pc' := 94) (hb hby at_87) ((if0 _ _).trans (teq (hc87_104 : (p3 &&& (4 : Int32)) = (0 : Int32))).1) (by decide) (by decide) ?_
          show Goes _ _ _ _ _ _ (T102.setTop (mkF m 94 #[.val (.int p1), .val (.int p2), .val (.int p3), .val (.int (p1 &&& (3 : Int32))), .val (.int ((p2 &&& (2147483647 : Int32)) % ((p1 &&& (3 : Int32)) + (1 : Int32)))), .val (.ref b91), .val (.int (if (0 : Int32) = (0 : Int32) then (1 : Int32) else (0 : Int32))), .unset, .unset] [(.ref b91)]))
          refine own_iconst X102 hx (v := (0 : Int32)) (hb hby at_94) rfl ?_
          show Goes _ _ _ _ _ _ (T102.setTop (mkF m 95 #[.val (.int p1), .val (.int p2), .val (.int p3), .val (.int (p1 &&& (3 : Int32))), .val (.int ((p2 &&& (2147483647 : Int32)) % ((p1 &&& (3 : Int32)) + (1 : Int32)))), .val (.ref b91), .val (.int (if (0 : Int32) = (0 : Int32) then (1 : Int32) else (0 : Int32))), .unset, .unset] [(.int (0 : Int32)), (.ref b91)]))
          exact jn95_105 T102 _ X102 N102 rfl (0 : Int32) trivial
        ·
          refine own_ifNo X102 hx (hb hby at_87) ((if0 _ _).trans (feq (hc87_104 : ¬ ((p3 &&& (4 : Int32)) = (0 : Int32)))).1) ?_
          show Goes _ _ _ _ _ _ (T102.setTop (mkF m 90 #[.val (.int p1), .val (.int p2), .val (.int p3), .val (.int (p1 &&& (3 : Int32))), .val (.int ((p2 &&& (2147483647 : Int32)) % ((p1 &&& (3 : Int32)) + (1 : Int32)))), .val (.ref b91), .val (.int (if (0 : Int32) = (0 : Int32) then (1 : Int32) else (0 : Int32))), .unset, .unset] [(.ref b91)]))
          refine own_iconst X102 hx (v := (1 : Int32)) (hb hby at_90) rfl ?_
          refine own_goto X102 hx (pc' := 95) (hb hby at_91) (by decide) (by decide) ?_
          show Goes _ _ _ _ _ _ (T102.setTop (mkF m 95 #[.val (.int p1), .val (.int p2), .val (.int p3), .val (.int (p1 &&& (3 : Int32))), .val (.int ((p2 &&& (2147483647 : Int32)) % ((p1 &&& (3 : Int32)) + (1 : Int32)))), .val (.ref b91), .val (.int (if (0 : Int32) = (0 : Int32) then (1 : Int32) else (0 : Int32))), .unset, .unset] [(.int (1 : Int32)), (.ref b91)]))
          exact jn95_105 T102 _ X102 N102 rfl (1 : Int32) trivial
      by_cases hc62_100 : (p3 &&& (2 : Int32)) = (0 : Int32)
      ·
        refine own_ifYes X98 hx (pc' := 69) (hb hby at_62) ((if0 _ _).trans (teq (hc62_100 : (p3 &&& (2 : Int32)) = (0 : Int32))).1) (by decide) (by decide) ?_
        show Goes _ _ _ _ _ _ (T98.setTop (mkF m 69 #[.val (.int p1), .val (.int p2), .val (.int p3), .val (.int (p1 &&& (3 : Int32))), .val (.int ((p2 &&& (2147483647 : Int32)) % ((p1 &&& (3 : Int32)) + (1 : Int32)))), .val (.ref b91), .val (.int (if (0 : Int32) = (0 : Int32) then (1 : Int32) else (0 : Int32))), .unset, .unset] [(.ref b91)]))
        refine own_iconst X98 hx (v := (0 : Int32)) (hb hby at_69) rfl ?_
        show Goes _ _ _ _ _ _ (T98.setTop (mkF m 70 #[.val (.int p1), .val (.int p2), .val (.int p3), .val (.int (p1 &&& (3 : Int32))), .val (.int ((p2 &&& (2147483647 : Int32)) % ((p1 &&& (3 : Int32)) + (1 : Int32)))), .val (.ref b91), .val (.int (if (0 : Int32) = (0 : Int32) then (1 : Int32) else (0 : Int32))), .unset, .unset] [(.int (0 : Int32)), (.ref b91)]))
        exact jn70_101 T98 _ X98 N98 rfl (0 : Int32) trivial
      ·
        refine own_ifNo X98 hx (hb hby at_62) ((if0 _ _).trans (feq (hc62_100 : ¬ ((p3 &&& (2 : Int32)) = (0 : Int32)))).1) ?_
        show Goes _ _ _ _ _ _ (T98.setTop (mkF m 65 #[.val (.int p1), .val (.int p2), .val (.int p3), .val (.int (p1 &&& (3 : Int32))), .val (.int ((p2 &&& (2147483647 : Int32)) % ((p1 &&& (3 : Int32)) + (1 : Int32)))), .val (.ref b91), .val (.int (if (0 : Int32) = (0 : Int32) then (1 : Int32) else (0 : Int32))), .unset, .unset] [(.ref b91)]))
        refine own_iconst X98 hx (v := (1 : Int32)) (hb hby at_65) rfl ?_
        refine own_goto X98 hx (pc' := 70) (hb hby at_66) (by decide) (by decide) ?_
        show Goes _ _ _ _ _ _ (T98.setTop (mkF m 70 #[.val (.int p1), .val (.int p2), .val (.int p3), .val (.int (p1 &&& (3 : Int32))), .val (.int ((p2 &&& (2147483647 : Int32)) % ((p1 &&& (3 : Int32)) + (1 : Int32)))), .val (.ref b91), .val (.int (if (0 : Int32) = (0 : Int32) then (1 : Int32) else (0 : Int32))), .unset, .unset] [(.int (1 : Int32)), (.ref b91)]))
        exact jn70_101 T98 _ X98 N98 rfl (1 : Int32) trivial
    by_cases hc40_96 : (p3 &&& (1 : Int32)) = (0 : Int32)
    ·
      refine own_ifYes X95 hx (pc' := 47) (hb hby at_40) ((if0 _ _).trans (teq (hc40_96 : (p3 &&& (1 : Int32)) = (0 : Int32))).1) (by decide) (by decide) ?_
      show Goes _ _ _ _ _ _ (T95.setTop (mkF m 47 #[.val (.int p1), .val (.int p2), .val (.int p3), .val (.int (p1 &&& (3 : Int32))), .val (.int ((p2 &&& (2147483647 : Int32)) % ((p1 &&& (3 : Int32)) + (1 : Int32)))), .val (.ref b91), .val (.int (if (0 : Int32) = (0 : Int32) then (1 : Int32) else (0 : Int32))), .unset, .unset] [(.ref b91)]))
      refine own_iconst X95 hx (v := (0 : Int32)) (hb hby at_47) rfl ?_
      show Goes _ _ _ _ _ _ (T95.setTop (mkF m 48 #[.val (.int p1), .val (.int p2), .val (.int p3), .val (.int (p1 &&& (3 : Int32))), .val (.int ((p2 &&& (2147483647 : Int32)) % ((p1 &&& (3 : Int32)) + (1 : Int32)))), .val (.ref b91), .val (.int (if (0 : Int32) = (0 : Int32) then (1 : Int32) else (0 : Int32))), .unset, .unset] [(.int (0 : Int32)), (.ref b91)]))
      exact jn48_97 T95 _ X95 N95 e95 (0 : Int32) trivial
    ·
      refine own_ifNo X95 hx (hb hby at_40) ((if0 _ _).trans (feq (hc40_96 : ¬ ((p3 &&& (1 : Int32)) = (0 : Int32)))).1) ?_
      show Goes _ _ _ _ _ _ (T95.setTop (mkF m 43 #[.val (.int p1), .val (.int p2), .val (.int p3), .val (.int (p1 &&& (3 : Int32))), .val (.int ((p2 &&& (2147483647 : Int32)) % ((p1 &&& (3 : Int32)) + (1 : Int32)))), .val (.ref b91), .val (.int (if (0 : Int32) = (0 : Int32) then (1 : Int32) else (0 : Int32))), .unset, .unset] [(.ref b91)]))
      refine own_iconst X95 hx (v := (1 : Int32)) (hb hby at_43) rfl ?_
      refine own_goto X95 hx (pc' := 48) (hb hby at_44) (by decide) (by decide) ?_
      show Goes _ _ _ _ _ _ (T95.setTop (mkF m 48 #[.val (.int p1), .val (.int p2), .val (.int p3), .val (.int (p1 &&& (3 : Int32))), .val (.int ((p2 &&& (2147483647 : Int32)) % ((p1 &&& (3 : Int32)) + (1 : Int32)))), .val (.ref b91), .val (.int (if (0 : Int32) = (0 : Int32) then (1 : Int32) else (0 : Int32))), .unset, .unset] [(.int (1 : Int32)), (.ref b91)]))
      exact jn48_97 T95 _ X95 N95 e95 (1 : Int32) trivial
  ·
    show Goes _ _ _ _ _ _ (T0.setTop (mkF m 14 #[.val (.int p1), .val (.int p2), .val (.int p3), .val (.int (p1 &&& (3 : Int32))), .val (.int ((p2 &&& (2147483647 : Int32)) % ((p1 &&& (3 : Int32)) + (1 : Int32)))), .unset, .unset, .unset, .unset] []))
    refine own_new X0 hx hZ hown (hw _ (List.mem_of_getElem? (i := 1) rfl)) (hw _ (List.mem_of_getElem? (i := 2) rfl)) (hw _ (List.mem_of_getElem? (i := 3) rfl)) e0 (hb hby at_14) (by decide) (by decide) (fun T110 h110 b110 g110 X110 e110 E110 A110 D110 => ?_)
    have ge_b110 : n0 ≤ b110 := Nat.le_trans (own_sz O0) (Nat.le_of_eq g110.symm)
    have O111 := O0.ext E110
    have F110_ring_b110 : Fld Z h110 b110 "com/example/kache/kache/store/ListValue" "ring" "[[B" .null := D110 (Or.inl (hw _ (List.mem_of_getElem? (i := 13) rfl))) (ty := (.array (.array .byte))) (by decide)
    have F110_size_b110 : Fld Z h110 b110 "com/example/kache/kache/store/ListValue" "size" "I" (.int (0 : Int32)) := D110 (Or.inl (hw _ (List.mem_of_getElem? (i := 20) rfl))) (ty := .int) (by decide)
    have F110_head_b110 : Fld Z h110 b110 "com/example/kache/kache/store/ListValue" "head" "I" (.int (0 : Int32)) := D110 (Or.inl (hw _ (List.mem_of_getElem? (i := 47) rfl))) (ty := .int) (by decide)
    show Goes _ _ _ _ _ _ (T110.setTop (mkF m 17 #[.val (.int p1), .val (.int p2), .val (.int p3), .val (.int (p1 &&& (3 : Int32))), .val (.int ((p2 &&& (2147483647 : Int32)) % ((p1 &&& (3 : Int32)) + (1 : Int32)))), .unset, .unset, .unset, .unset] [(.ref b110)]))
    refine own_dup X110 hx (hb hby at_17) rfl ?_
    refine own_special X110 hx hZ hown (y := (⟨"com/example/kache/kache/store/ListValue", "<init>", "()V"⟩ : MethodName)) rfl (hw _ (List.mem_of_getElem? (i := 4) rfl)) (hw _ (List.mem_of_getElem? (i := 5) rfl)) (hw _ (List.mem_of_getElem? (i := 3) rfl)) (hw _ (List.mem_of_getElem? (i := 6) rfl)) (a := b110) (by decide) (W := 1) (by decide) (by decide) N0 e110 (by rw [hml]; rfl) (argsL := []) (rest := [(.ref b110)]) (lenOf pd_4 rfl) (Nat.le_of_eq rfl) (by decide) (by decide) (rm1 l Z a0 hw [] b110 (.null) h110 n0 O111 A110 F110_ring_b110 F110_head_b110 F110_size_b110 ge_b110) rfl (hb hby at_18) ?_
    intro v112 T112 lc112 X112 N112 hQ112
    obtain ⟨r_112, k_112, rfl, K112, r112_0, r112_1, r112_2, r112_3, r112_4, r112_5, r112_6⟩ := hQ112
    have O113 := O111.keep K112 (allS ge_b110 all0)
    have ge_r_112 : n0 ≤ r_112 := Nat.le_trans (own_sz O111) r112_5
    show Goes _ _ _ _ _ _ (T112.setTop (mkF m 21 #[.val (.int p1), .val (.int p2), .val (.int p3), .val (.int (p1 &&& (3 : Int32))), .val (.int ((p2 &&& (2147483647 : Int32)) % ((p1 &&& (3 : Int32)) + (1 : Int32)))), .unset, .unset, .unset, .unset] [(.ref b110)]))
    refine own_astore X112 hx (Ls' := #[.val (.int p1), .val (.int p2), .val (.int p3), .val (.int (p1 &&& (3 : Int32))), .val (.int ((p2 &&& (2147483647 : Int32)) % ((p1 &&& (3 : Int32)) + (1 : Int32)))), .val (.ref b110), .unset, .unset, .unset]) (hb hby at_21) rfl rfl ?_
    refine own_aload X112 hx (hb hby at_23) rfl rfl ?_
    refine own_virtual X112 hx hZ hown (y := (⟨"com/example/kache/kache/store/ListValue", "isEmpty", "()Z"⟩ : MethodName)) (z := (⟨"com/example/kache/kache/store/ListValue", "isEmpty", "()Z"⟩ : MethodName)) (hw _ (List.mem_of_getElem? (i := 14) rfl)) (hw _ (List.mem_of_getElem? (i := 15) rfl)) (notFace_of_selects (args := #[]) (mvT hZ (hw _ (List.mem_of_getElem? (i := 17) rfl)))) (hw _ (List.mem_of_getElem? (i := 17) rfl)) (hw _ (List.mem_of_getElem? (i := 16) rfl)) (hw _ (List.mem_of_getElem? (i := 3) rfl)) (hw _ (List.mem_of_getElem? (i := 18) rfl)) (a := b110) r112_0 (by decide) (W := 0) (by decide) (by decide) N112 rfl (by rw [hml]; rfl) (argsL := []) (rest := []) (lenOf pd_8 rfl) (Nat.le_of_eq rfl) (by decide) (by decide) (rm3 l Z a0 hw [] b110 (0 : Int32) T112.heap n0 O113 r112_3) rfl (hb hby at_25) ?_
    intro v114 T114 lc114 X114 N114 hQ114
    obtain ⟨rfl, e114⟩ := hQ114
    show Goes _ _ _ _ _ _ (T114.setTop (mkF m 28 #[.val (.int p1), .val (.int p2), .val (.int p3), .val (.int (p1 &&& (3 : Int32))), .val (.int ((p2 &&& (2147483647 : Int32)) % ((p1 &&& (3 : Int32)) + (1 : Int32)))), .val (.ref b110), .unset, .unset, .unset] [(.int (if (0 : Int32) = (0 : Int32) then (1 : Int32) else (0 : Int32)))]))
    refine own_istore X114 hx (Ls' := #[.val (.int p1), .val (.int p2), .val (.int p3), .val (.int (p1 &&& (3 : Int32))), .val (.int ((p2 &&& (2147483647 : Int32)) % ((p1 &&& (3 : Int32)) + (1 : Int32)))), .val (.ref b110), .val (.int (if (0 : Int32) = (0 : Int32) then (1 : Int32) else (0 : Int32))), .unset, .unset]) (hb hby at_28) rfl ?_
    refine own_iloadN X114 hx (hb hby at_30) rfl ?_
    refine own_iconst X114 hx (v := (1 : Int32)) (hb hby at_31) rfl ?_
    refine own_icmpNo X114 hx (hb hby at_32) (flt ((by first | (rw [hca]; done) | (rw [hca]; decide)) : ¬ ((p1 &&& (3 : Int32)) < (1 : Int32)))).1 ?_
    show Goes _ _ _ _ _ _ (T114.setTop (mkF m 35 #[.val (.int p1), .val (.int p2), .val (.int p3), .val (.int (p1 &&& (3 : Int32))), .val (.int ((p2 &&& (2147483647 : Int32)) % ((p1 &&& (3 : Int32)) + (1 : Int32)))), .val (.ref b110), .val (.int (if (0 : Int32) = (0 : Int32) then (1 : Int32) else (0 : Int32))), .unset, .unset] []))
    refine own_aload X114 hx (hb hby at_35) rfl rfl ?_
    refine own_iloadN X114 hx (hb hby at_37) rfl ?_
    refine own_iconst X114 hx (v := (1 : Int32)) (hb hby at_38) rfl ?_
    refine own_iand X114 hx (hb hby at_39) ?_
    show Goes _ _ _ _ _ _ (T114.setTop (mkF m 40 #[.val (.int p1), .val (.int p2), .val (.int p3), .val (.int (p1 &&& (3 : Int32))), .val (.int ((p2 &&& (2147483647 : Int32)) % ((p1 &&& (3 : Int32)) + (1 : Int32)))), .val (.ref b110), .val (.int (if (0 : Int32) = (0 : Int32) then (1 : Int32) else (0 : Int32))), .unset, .unset] [(.int (p3 &&& (1 : Int32))), (.ref b110)]))
    have jn48_116 : ∀ (T116 : State) (lc116 : List Loc) (X116 : Stand p l e room_1 (s.setVm s.vm) m #[(.int p1), (.int p2), (.int p3)] below meth c T116 lc116 2 11) (N116 : Fr n0 lc116) (e116 : T116.heap = T112.heap) (w116 : Int32) (hj116 : True), Goes p e below (fun o t L => ReturnedEndW s o t L (24) (1152)) n0 (Q0 Z p1 p2 p3 h0 n0) (T116.setTop (mkF m 48 #[.val (.int p1), .val (.int p2), .val (.int p3), .val (.int (p1 &&& (3 : Int32))), .val (.int ((p2 &&& (2147483647 : Int32)) % ((p1 &&& (3 : Int32)) + (1 : Int32)))), .val (.ref b110), .val (.int (if (0 : Int32) = (0 : Int32) then (1 : Int32) else (0 : Int32))), .unset, .unset] [(.int w116), (.ref b110)])) := by
      intro T116 lc116 X116 N116 e116 w116 hj116
      show Goes _ _ _ _ _ _ (T116.setTop (mkF m 48 #[.val (.int p1), .val (.int p2), .val (.int p3), .val (.int (p1 &&& (3 : Int32))), .val (.int ((p2 &&& (2147483647 : Int32)) % ((p1 &&& (3 : Int32)) + (1 : Int32)))), .val (.ref b110), .val (.int (if (0 : Int32) = (0 : Int32) then (1 : Int32) else (0 : Int32))), .unset, .unset] [(.int w116), (.ref b110)]))
      refine own_iloadN X116 hx (hb hby at_48) rfl ?_
      refine own_callSW X116 hx hZ hown hS0 (Nat.zero_le _) (y := (⟨"com/example/kache/kache/store/ListValueIsEmptyPinLaw", "addOne", "(Lcom/example/kache/kache/store/ListValue;ZI)V"⟩ : MethodName)) (hw _ (List.mem_of_getElem? (i := 21) rfl)) (hw _ (List.mem_of_getElem? (i := 22) rfl)) (hw _ (List.mem_of_getElem? (i := 23) rfl)) (hw _ (List.mem_of_getElem? (i := 24) rfl)) (by decide) (W := 0) (by decide) (by decide) N116 e116 (by rw [hml]; rfl) (argsL := [(.ref b110), (.int w116), (.int p3)]) (rest := []) (lenOf pd_9 rfl) (Nat.le_of_eq rfl) (by decide) (by decide) (rm4 l Z a0 hw [] b110 w116 p3 r_112 (0 : Int32) (0 : Int32) k_112 [.null, .null, .null, .null, .null, .null, .null, .null] T112.heap n0 O113 r112_0 r112_1 r112_2 r112_3 r112_4 (by first | assumption | decide | exact ⟨rfl, rfl⟩) ge_b110 ge_r_112 (by first | assumption | decide | exact ⟨rfl, rfl⟩) r112_6 (by first | assumption | decide | exact ⟨rfl, rfl⟩)) rfl (hb hby at_49) ?_
      intro v117 T117 lc117 k1_117 X117 hS117 hk117_ hZ hown N117 hQ117
      obtain ⟨hd2_117, vs2_117, rfl, K117, r117_0, r117_1, r117_2, r117_3, r117_4, r117_5, r117_6⟩ := hQ117
      have O118 := O113.keep K117 (allS ge_b110 (allS ge_r_112 all0))
      show Goes _ _ _ _ _ _ (T117.setTop (mkF m 52 #[.val (.int p1), .val (.int p2), .val (.int p3), .val (.int (p1 &&& (3 : Int32))), .val (.int ((p2 &&& (2147483647 : Int32)) % ((p1 &&& (3 : Int32)) + (1 : Int32)))), .val (.ref b110), .val (.int (if (0 : Int32) = (0 : Int32) then (1 : Int32) else (0 : Int32))), .unset, .unset] []))
      refine own_iloadN X117 hx (hb hby at_52) rfl ?_
      refine own_iconst X117 hx (v := (2 : Int32)) (hb hby at_53) rfl ?_
      refine own_icmpNo X117 hx (hb hby at_54) (flt ((by first | (rw [hca]; done) | (rw [hca]; decide)) : ¬ ((p1 &&& (3 : Int32)) < (2 : Int32)))).1 ?_
      show Goes _ _ _ _ _ _ (T117.setTop (mkF m 57 #[.val (.int p1), .val (.int p2), .val (.int p3), .val (.int (p1 &&& (3 : Int32))), .val (.int ((p2 &&& (2147483647 : Int32)) % ((p1 &&& (3 : Int32)) + (1 : Int32)))), .val (.ref b110), .val (.int (if (0 : Int32) = (0 : Int32) then (1 : Int32) else (0 : Int32))), .unset, .unset] []))
      refine own_aload X117 hx (hb hby at_57) rfl rfl ?_
      refine own_iloadN X117 hx (hb hby at_59) rfl ?_
      refine own_iconst X117 hx (v := (2 : Int32)) (hb hby at_60) rfl ?_
      refine own_iand X117 hx (hb hby at_61) ?_
      show Goes _ _ _ _ _ _ (T117.setTop (mkF m 62 #[.val (.int p1), .val (.int p2), .val (.int p3), .val (.int (p1 &&& (3 : Int32))), .val (.int ((p2 &&& (2147483647 : Int32)) % ((p1 &&& (3 : Int32)) + (1 : Int32)))), .val (.ref b110), .val (.int (if (0 : Int32) = (0 : Int32) then (1 : Int32) else (0 : Int32))), .unset, .unset] [(.int (p3 &&& (2 : Int32))), (.ref b110)]))
      have jn70_120 : ∀ (T120 : State) (lc120 : List Loc) (X120 : Stand p l e room_1 (s.setVm T117.vm) m #[(.int p1), (.int p2), (.int p3)] below meth c T120 lc120 5 44) (N120 : Fr n0 lc120) (e120 : T120.heap = T117.heap) (w120 : Int32) (hj120 : True), Goes p e below (fun o t L => ReturnedEndW s o t L (24) (1152)) n0 (Q0 Z p1 p2 p3 h0 n0) (T120.setTop (mkF m 70 #[.val (.int p1), .val (.int p2), .val (.int p3), .val (.int (p1 &&& (3 : Int32))), .val (.int ((p2 &&& (2147483647 : Int32)) % ((p1 &&& (3 : Int32)) + (1 : Int32)))), .val (.ref b110), .val (.int (if (0 : Int32) = (0 : Int32) then (1 : Int32) else (0 : Int32))), .unset, .unset] [(.int w120), (.ref b110)])) := by
        intro T120 lc120 X120 N120 e120 w120 hj120
        show Goes _ _ _ _ _ _ (T120.setTop (mkF m 70 #[.val (.int p1), .val (.int p2), .val (.int p3), .val (.int (p1 &&& (3 : Int32))), .val (.int ((p2 &&& (2147483647 : Int32)) % ((p1 &&& (3 : Int32)) + (1 : Int32)))), .val (.ref b110), .val (.int (if (0 : Int32) = (0 : Int32) then (1 : Int32) else (0 : Int32))), .unset, .unset] [(.int w120), (.ref b110)]))
        refine own_iloadN X120 hx (hb hby at_70) rfl ?_
        refine own_bipush X120 hx (v := (8 : Int32)) (hb hby at_71) rfl ?_
        refine own_ishr X120 hx (hb hby at_73) ?_
        refine own_callSW X120 hx hZ hown hS117 hk117_ (y := (⟨"com/example/kache/kache/store/ListValueIsEmptyPinLaw", "addOne", "(Lcom/example/kache/kache/store/ListValue;ZI)V"⟩ : MethodName)) (hw _ (List.mem_of_getElem? (i := 21) rfl)) (hw _ (List.mem_of_getElem? (i := 22) rfl)) (hw _ (List.mem_of_getElem? (i := 23) rfl)) (hw _ (List.mem_of_getElem? (i := 24) rfl)) (by decide) (W := 0) (by decide) (by decide) N120 e120 (by rw [hml]; rfl) (argsL := [(.ref b110), (.int w120), (.int (p3 >>> ((8 : Int32) &&& 31)))]) (rest := []) (lenOf pd_9 rfl) (Nat.le_of_eq rfl) (by decide) (by decide) (rm4 l Z a0 hw [] b110 w120 (p3 >>> ((8 : Int32) &&& 31)) r_112 hd2_117 ((0 : Int32) + (1 : Int32)) k_112 vs2_117 T117.heap n0 O118 r117_0 r117_1 r117_2 r117_3 r117_4 r117_5 ge_b110 ge_r_112 r117_6 r112_6 (by first | assumption | decide | exact ⟨rfl, rfl⟩)) rfl (hb hby at_74) ?_
        intro v121 T121 lc121 k1_121 X121 hS121 hk121_ hZ hown N121 hQ121
        obtain ⟨hd2_121, vs2_121, rfl, K121, r121_0, r121_1, r121_2, r121_3, r121_4, r121_5, r121_6⟩ := hQ121
        have O122 := O118.keep K121 (allS ge_b110 (allS ge_r_112 all0))
        have hk122 := Nat.le_trans hk117_ K121.1
        show Goes _ _ _ _ _ _ (T121.setTop (mkF m 77 #[.val (.int p1), .val (.int p2), .val (.int p3), .val (.int (p1 &&& (3 : Int32))), .val (.int ((p2 &&& (2147483647 : Int32)) % ((p1 &&& (3 : Int32)) + (1 : Int32)))), .val (.ref b110), .val (.int (if (0 : Int32) = (0 : Int32) then (1 : Int32) else (0 : Int32))), .unset, .unset] []))
        refine own_iloadN X121 hx (hb hby at_77) rfl ?_
        refine own_iconst X121 hx (v := (3 : Int32)) (hb hby at_78) rfl ?_
        refine own_icmpNo X121 hx (hb hby at_79) (flt ((by first | (rw [hca]; done) | (rw [hca]; decide)) : ¬ ((p1 &&& (3 : Int32)) < (3 : Int32)))).1 ?_
        show Goes _ _ _ _ _ _ (T121.setTop (mkF m 82 #[.val (.int p1), .val (.int p2), .val (.int p3), .val (.int (p1 &&& (3 : Int32))), .val (.int ((p2 &&& (2147483647 : Int32)) % ((p1 &&& (3 : Int32)) + (1 : Int32)))), .val (.ref b110), .val (.int (if (0 : Int32) = (0 : Int32) then (1 : Int32) else (0 : Int32))), .unset, .unset] []))
        refine own_aload X121 hx (hb hby at_82) rfl rfl ?_
        refine own_iloadN X121 hx (hb hby at_84) rfl ?_
        refine own_iconst X121 hx (v := (4 : Int32)) (hb hby at_85) rfl ?_
        refine own_iand X121 hx (hb hby at_86) ?_
        show Goes _ _ _ _ _ _ (T121.setTop (mkF m 87 #[.val (.int p1), .val (.int p2), .val (.int p3), .val (.int (p1 &&& (3 : Int32))), .val (.int ((p2 &&& (2147483647 : Int32)) % ((p1 &&& (3 : Int32)) + (1 : Int32)))), .val (.ref b110), .val (.int (if (0 : Int32) = (0 : Int32) then (1 : Int32) else (0 : Int32))), .unset, .unset] [(.int (p3 &&& (4 : Int32))), (.ref b110)]))
        have jn95_124 : ∀ (T124 : State) (lc124 : List Loc) (X124 : Stand p l e room_1 (s.setVm T121.vm) m #[(.int p1), (.int p2), (.int p3)] below meth c T124 lc124 8 77) (N124 : Fr n0 lc124) (e124 : T124.heap = T121.heap) (w124 : Int32) (hj124 : True), Goes p e below (fun o t L => ReturnedEndW s o t L (24) (1152)) n0 (Q0 Z p1 p2 p3 h0 n0) (T124.setTop (mkF m 95 #[.val (.int p1), .val (.int p2), .val (.int p3), .val (.int (p1 &&& (3 : Int32))), .val (.int ((p2 &&& (2147483647 : Int32)) % ((p1 &&& (3 : Int32)) + (1 : Int32)))), .val (.ref b110), .val (.int (if (0 : Int32) = (0 : Int32) then (1 : Int32) else (0 : Int32))), .unset, .unset] [(.int w124), (.ref b110)])) := by
          intro T124 lc124 X124 N124 e124 w124 hj124
          show Goes _ _ _ _ _ _ (T124.setTop (mkF m 95 #[.val (.int p1), .val (.int p2), .val (.int p3), .val (.int (p1 &&& (3 : Int32))), .val (.int ((p2 &&& (2147483647 : Int32)) % ((p1 &&& (3 : Int32)) + (1 : Int32)))), .val (.ref b110), .val (.int (if (0 : Int32) = (0 : Int32) then (1 : Int32) else (0 : Int32))), .unset, .unset] [(.int w124), (.ref b110)]))
          refine own_iloadN X124 hx (hb hby at_95) rfl ?_
          refine own_bipush X124 hx (v := (16 : Int32)) (hb hby at_96) rfl ?_
          refine own_ishr X124 hx (hb hby at_98) ?_
          refine own_callSW X124 hx hZ hown hS121 hk121_ (y := (⟨"com/example/kache/kache/store/ListValueIsEmptyPinLaw", "addOne", "(Lcom/example/kache/kache/store/ListValue;ZI)V"⟩ : MethodName)) (hw _ (List.mem_of_getElem? (i := 21) rfl)) (hw _ (List.mem_of_getElem? (i := 22) rfl)) (hw _ (List.mem_of_getElem? (i := 23) rfl)) (hw _ (List.mem_of_getElem? (i := 24) rfl)) (by decide) (W := 0) (by decide) (by decide) N124 e124 (by rw [hml]; rfl) (argsL := [(.ref b110), (.int w124), (.int (p3 >>> ((16 : Int32) &&& 31)))]) (rest := []) (lenOf pd_9 rfl) (Nat.le_of_eq rfl) (by decide) (by decide) (rm4 l Z a0 hw [] b110 w124 (p3 >>> ((16 : Int32) &&& 31)) r_112 hd2_121 (((0 : Int32) + (1 : Int32)) + (1 : Int32)) k_112 vs2_121 T121.heap n0 O122 r121_0 r121_1 r121_2 r121_3 r121_4 r121_5 ge_b110 ge_r_112 r121_6 r112_6 (by first | assumption | decide | exact ⟨rfl, rfl⟩)) rfl (hb hby at_99) ?_
          intro v125 T125 lc125 k1_125 X125 hS125 hk125_ hZ hown N125 hQ125
          obtain ⟨hd2_125, vs2_125, rfl, K125, r125_0, r125_1, r125_2, r125_3, r125_4, r125_5, r125_6⟩ := hQ125
          have O126 := O122.keep K125 (allS ge_b110 (allS ge_r_112 all0))
          have hk126 := Nat.le_trans hk121_ K125.1
          show Goes _ _ _ _ _ _ (T125.setTop (mkF m 102 #[.val (.int p1), .val (.int p2), .val (.int p3), .val (.int (p1 &&& (3 : Int32))), .val (.int ((p2 &&& (2147483647 : Int32)) % ((p1 &&& (3 : Int32)) + (1 : Int32)))), .val (.ref b110), .val (.int (if (0 : Int32) = (0 : Int32) then (1 : Int32) else (0 : Int32))), .unset, .unset] []))
          refine own_aload X125 hx (hb hby at_102) rfl rfl ?_
          refine own_virtual X125 hx hZ hown (y := (⟨"com/example/kache/kache/store/ListValue", "isEmpty", "()Z"⟩ : MethodName)) (z := (⟨"com/example/kache/kache/store/ListValue", "isEmpty", "()Z"⟩ : MethodName)) (hw _ (List.mem_of_getElem? (i := 14) rfl)) (hw _ (List.mem_of_getElem? (i := 15) rfl)) (notFace_of_selects (args := #[]) (mvT hZ (hw _ (List.mem_of_getElem? (i := 17) rfl)))) (hw _ (List.mem_of_getElem? (i := 17) rfl)) (hw _ (List.mem_of_getElem? (i := 16) rfl)) (hw _ (List.mem_of_getElem? (i := 3) rfl)) (hw _ (List.mem_of_getElem? (i := 18) rfl)) (a := b110) r125_0 (by decide) (W := 0) (by decide) (by decide) N125 rfl (by rw [hml]; rfl) (argsL := []) (rest := []) (lenOf pd_8 rfl) (Nat.le_of_eq rfl) (by decide) (by decide) (rm3 l Z a0 hw [] b110 ((((0 : Int32) + (1 : Int32)) + (1 : Int32)) + (1 : Int32)) T125.heap n0 O126 r125_3) rfl (hb hby at_104) ?_
          intro v127 T127 lc127 X127 N127 hQ127
          obtain ⟨rfl, e127⟩ := hQ127
          show Goes _ _ _ _ _ _ (T127.setTop (mkF m 107 #[.val (.int p1), .val (.int p2), .val (.int p3), .val (.int (p1 &&& (3 : Int32))), .val (.int ((p2 &&& (2147483647 : Int32)) % ((p1 &&& (3 : Int32)) + (1 : Int32)))), .val (.ref b110), .val (.int (if (0 : Int32) = (0 : Int32) then (1 : Int32) else (0 : Int32))), .unset, .unset] [(.int (if ((((0 : Int32) + (1 : Int32)) + (1 : Int32)) + (1 : Int32)) = (0 : Int32) then (1 : Int32) else (0 : Int32)))]))
          refine own_istore X127 hx (Ls' := #[.val (.int p1), .val (.int p2), .val (.int p3), .val (.int (p1 &&& (3 : Int32))), .val (.int ((p2 &&& (2147483647 : Int32)) % ((p1 &&& (3 : Int32)) + (1 : Int32)))), .val (.ref b110), .val (.int (if (0 : Int32) = (0 : Int32) then (1 : Int32) else (0 : Int32))), .val (.int (if ((((0 : Int32) + (1 : Int32)) + (1 : Int32)) + (1 : Int32)) = (0 : Int32) then (1 : Int32) else (0 : Int32))), .unset]) (hb hby at_107) rfl ?_
          refine own_iload X127 hx (hb hby at_109) rfl ?_
          refine own_iconst X127 hx (v := (1 : Int32)) (hb hby at_111) rfl ?_
          refine own_icmpNo X127 hx (hb hby at_112) (flt ((by first | (rw [hcr]; done) | (rw [hcr]; decide)) : ¬ (((p2 &&& (2147483647 : Int32)) % ((p1 &&& (3 : Int32)) + (1 : Int32))) < (1 : Int32)))).1 ?_
          show Goes _ _ _ _ _ _ (T127.setTop (mkF m 115 #[.val (.int p1), .val (.int p2), .val (.int p3), .val (.int (p1 &&& (3 : Int32))), .val (.int ((p2 &&& (2147483647 : Int32)) % ((p1 &&& (3 : Int32)) + (1 : Int32)))), .val (.ref b110), .val (.int (if (0 : Int32) = (0 : Int32) then (1 : Int32) else (0 : Int32))), .val (.int (if ((((0 : Int32) + (1 : Int32)) + (1 : Int32)) + (1 : Int32)) = (0 : Int32) then (1 : Int32) else (0 : Int32))), .unset] []))
          refine own_aload X127 hx (hb hby at_115) rfl rfl ?_
          refine own_iloadN X127 hx (hb hby at_117) rfl ?_
          refine own_bipush X127 hx (v := (8 : Int32)) (hb hby at_118) rfl ?_
          refine own_iand X127 hx (hb hby at_120) ?_
          show Goes _ _ _ _ _ _ (T127.setTop (mkF m 121 #[.val (.int p1), .val (.int p2), .val (.int p3), .val (.int (p1 &&& (3 : Int32))), .val (.int ((p2 &&& (2147483647 : Int32)) % ((p1 &&& (3 : Int32)) + (1 : Int32)))), .val (.ref b110), .val (.int (if (0 : Int32) = (0 : Int32) then (1 : Int32) else (0 : Int32))), .val (.int (if ((((0 : Int32) + (1 : Int32)) + (1 : Int32)) + (1 : Int32)) = (0 : Int32) then (1 : Int32) else (0 : Int32))), .unset] [(.int (p3 &&& (8 : Int32))), (.ref b110)]))
          have jn129_129 : ∀ (T129 : State) (lc129 : List Loc) (X129 : Stand p l e room_1 (s.setVm T125.vm) m #[(.int p1), (.int p2), (.int p3)] below meth c T129 lc129 11 110) (N129 : Fr n0 lc129) (e129 : T129.heap = T125.heap) (w129 : Int32) (hj129 : True), Goes p e below (fun o t L => ReturnedEndW s o t L (24) (1152)) n0 (Q0 Z p1 p2 p3 h0 n0) (T129.setTop (mkF m 129 #[.val (.int p1), .val (.int p2), .val (.int p3), .val (.int (p1 &&& (3 : Int32))), .val (.int ((p2 &&& (2147483647 : Int32)) % ((p1 &&& (3 : Int32)) + (1 : Int32)))), .val (.ref b110), .val (.int (if (0 : Int32) = (0 : Int32) then (1 : Int32) else (0 : Int32))), .val (.int (if ((((0 : Int32) + (1 : Int32)) + (1 : Int32)) + (1 : Int32)) = (0 : Int32) then (1 : Int32) else (0 : Int32))), .unset] [(.int w129), (.ref b110)])) := by
            intro T129 lc129 X129 N129 e129 w129 hj129
            show Goes _ _ _ _ _ _ (T129.setTop (mkF m 129 #[.val (.int p1), .val (.int p2), .val (.int p3), .val (.int (p1 &&& (3 : Int32))), .val (.int ((p2 &&& (2147483647 : Int32)) % ((p1 &&& (3 : Int32)) + (1 : Int32)))), .val (.ref b110), .val (.int (if (0 : Int32) = (0 : Int32) then (1 : Int32) else (0 : Int32))), .val (.int (if ((((0 : Int32) + (1 : Int32)) + (1 : Int32)) + (1 : Int32)) = (0 : Int32) then (1 : Int32) else (0 : Int32))), .unset] [(.int w129), (.ref b110)]))
            refine own_callS X129 hx hZ hown (y := (⟨"com/example/kache/kache/store/ListValueIsEmptyPinLaw", "removeOne", "(Lcom/example/kache/kache/store/ListValue;Z)V"⟩ : MethodName)) (hw _ (List.mem_of_getElem? (i := 58) rfl)) (hw _ (List.mem_of_getElem? (i := 59) rfl)) (hw _ (List.mem_of_getElem? (i := 23) rfl)) (hw _ (List.mem_of_getElem? (i := 60) rfl)) (by decide) (W := 0) (by decide) (by decide) N129 e129 (by rw [hml]; rfl) (argsL := [(.ref b110), (.int w129)]) (rest := []) (lenOf pd_10 rfl) (Nat.le_of_eq rfl) (by decide) (by decide) (rm10 l Z a0 hw [] b110 w129 r_112 hd2_125 ((((0 : Int32) + (1 : Int32)) + (1 : Int32)) + (1 : Int32)) k_112 vs2_125 T125.heap n0 O126 r125_0 r125_1 r125_2 r125_3 r125_4 r125_5 ge_b110 ge_r_112 r125_6 r112_6 (by first | assumption | decide | exact ⟨rfl, rfl⟩)) rfl (hb hby at_129) ?_
            intro v130 T130 lc130 X130 N130 hQ130
            obtain ⟨hd2_130, vs2_130, rfl, K130, r130_0, r130_1, r130_2, r130_3, r130_4, r130_5, r130_6⟩ := hQ130
            have O131 := O126.keep K130 (allS ge_b110 (allS ge_r_112 all0))
            have hk131 := Nat.le_trans hk125_ K130.1
            show Goes _ _ _ _ _ _ (T130.setTop (mkF m 132 #[.val (.int p1), .val (.int p2), .val (.int p3), .val (.int (p1 &&& (3 : Int32))), .val (.int ((p2 &&& (2147483647 : Int32)) % ((p1 &&& (3 : Int32)) + (1 : Int32)))), .val (.ref b110), .val (.int (if (0 : Int32) = (0 : Int32) then (1 : Int32) else (0 : Int32))), .val (.int (if ((((0 : Int32) + (1 : Int32)) + (1 : Int32)) + (1 : Int32)) = (0 : Int32) then (1 : Int32) else (0 : Int32))), .unset] []))
            refine own_iload X130 hx (hb hby at_132) rfl ?_
            refine own_iconst X130 hx (v := (2 : Int32)) (hb hby at_134) rfl ?_
            refine own_icmpYes X130 hx (pc' := 155) (hb hby at_135) (tlt ((by first | (rw [hcr]; done) | (rw [hcr]; decide)) : ((p2 &&& (2147483647 : Int32)) % ((p1 &&& (3 : Int32)) + (1 : Int32))) < (2 : Int32))).1 (by decide) (by decide) ?_
            show Goes _ _ _ _ _ _ (T130.setTop (mkF m 155 #[.val (.int p1), .val (.int p2), .val (.int p3), .val (.int (p1 &&& (3 : Int32))), .val (.int ((p2 &&& (2147483647 : Int32)) % ((p1 &&& (3 : Int32)) + (1 : Int32)))), .val (.ref b110), .val (.int (if (0 : Int32) = (0 : Int32) then (1 : Int32) else (0 : Int32))), .val (.int (if ((((0 : Int32) + (1 : Int32)) + (1 : Int32)) + (1 : Int32)) = (0 : Int32) then (1 : Int32) else (0 : Int32))), .unset] []))
            refine own_iload X130 hx (hb hby at_155) rfl ?_
            refine own_iconst X130 hx (v := (3 : Int32)) (hb hby at_157) rfl ?_
            refine own_icmpYes X130 hx (pc' := 178) (hb hby at_158) (tlt ((by first | (rw [hcr]; done) | (rw [hcr]; decide)) : ((p2 &&& (2147483647 : Int32)) % ((p1 &&& (3 : Int32)) + (1 : Int32))) < (3 : Int32))).1 (by decide) (by decide) ?_
            show Goes _ _ _ _ _ _ (T130.setTop (mkF m 178 #[.val (.int p1), .val (.int p2), .val (.int p3), .val (.int (p1 &&& (3 : Int32))), .val (.int ((p2 &&& (2147483647 : Int32)) % ((p1 &&& (3 : Int32)) + (1 : Int32)))), .val (.ref b110), .val (.int (if (0 : Int32) = (0 : Int32) then (1 : Int32) else (0 : Int32))), .val (.int (if ((((0 : Int32) + (1 : Int32)) + (1 : Int32)) + (1 : Int32)) = (0 : Int32) then (1 : Int32) else (0 : Int32))), .unset] []))
            refine own_aload X130 hx (hb hby at_178) rfl rfl ?_
            refine own_virtual X130 hx hZ hown (y := (⟨"com/example/kache/kache/store/ListValue", "isEmpty", "()Z"⟩ : MethodName)) (z := (⟨"com/example/kache/kache/store/ListValue", "isEmpty", "()Z"⟩ : MethodName)) (hw _ (List.mem_of_getElem? (i := 14) rfl)) (hw _ (List.mem_of_getElem? (i := 15) rfl)) (notFace_of_selects (args := #[]) (mvT hZ (hw _ (List.mem_of_getElem? (i := 17) rfl)))) (hw _ (List.mem_of_getElem? (i := 17) rfl)) (hw _ (List.mem_of_getElem? (i := 16) rfl)) (hw _ (List.mem_of_getElem? (i := 3) rfl)) (hw _ (List.mem_of_getElem? (i := 18) rfl)) (a := b110) r130_0 (by decide) (W := 0) (by decide) (by decide) N130 rfl (by rw [hml]; rfl) (argsL := []) (rest := []) (lenOf pd_8 rfl) (Nat.le_of_eq rfl) (by decide) (by decide) (rm3 l Z a0 hw [] b110 (((((0 : Int32) + (1 : Int32)) + (1 : Int32)) + (1 : Int32)) - (1 : Int32)) T130.heap n0 O131 r130_3) rfl (hb hby at_180) ?_
            intro v132 T132 lc132 X132 N132 hQ132
            obtain ⟨rfl, e132⟩ := hQ132
            show Goes _ _ _ _ _ _ (T132.setTop (mkF m 183 #[.val (.int p1), .val (.int p2), .val (.int p3), .val (.int (p1 &&& (3 : Int32))), .val (.int ((p2 &&& (2147483647 : Int32)) % ((p1 &&& (3 : Int32)) + (1 : Int32)))), .val (.ref b110), .val (.int (if (0 : Int32) = (0 : Int32) then (1 : Int32) else (0 : Int32))), .val (.int (if ((((0 : Int32) + (1 : Int32)) + (1 : Int32)) + (1 : Int32)) = (0 : Int32) then (1 : Int32) else (0 : Int32))), .unset] [(.int (if (((((0 : Int32) + (1 : Int32)) + (1 : Int32)) + (1 : Int32)) - (1 : Int32)) = (0 : Int32) then (1 : Int32) else (0 : Int32)))]))
            refine own_istore X132 hx (Ls' := #[.val (.int p1), .val (.int p2), .val (.int p3), .val (.int (p1 &&& (3 : Int32))), .val (.int ((p2 &&& (2147483647 : Int32)) % ((p1 &&& (3 : Int32)) + (1 : Int32)))), .val (.ref b110), .val (.int (if (0 : Int32) = (0 : Int32) then (1 : Int32) else (0 : Int32))), .val (.int (if ((((0 : Int32) + (1 : Int32)) + (1 : Int32)) + (1 : Int32)) = (0 : Int32) then (1 : Int32) else (0 : Int32))), .val (.int (if (((((0 : Int32) + (1 : Int32)) + (1 : Int32)) + (1 : Int32)) - (1 : Int32)) = (0 : Int32) then (1 : Int32) else (0 : Int32)))]) (hb hby at_183) rfl ?_
            refine own_iload X132 hx (hb hby at_185) rfl ?_
            refine own_ifNo X132 hx (hb hby at_187) ((if0 _ _).trans (feq ((own_bnz (not_not_intro (by decide))) : ¬ ((if (0 : Int32) = (0 : Int32) then (1 : Int32) else (0 : Int32)) = (0 : Int32)))).1) ?_
            show Goes _ _ _ _ _ _ (T132.setTop (mkF m 190 #[.val (.int p1), .val (.int p2), .val (.int p3), .val (.int (p1 &&& (3 : Int32))), .val (.int ((p2 &&& (2147483647 : Int32)) % ((p1 &&& (3 : Int32)) + (1 : Int32)))), .val (.ref b110), .val (.int (if (0 : Int32) = (0 : Int32) then (1 : Int32) else (0 : Int32))), .val (.int (if ((((0 : Int32) + (1 : Int32)) + (1 : Int32)) + (1 : Int32)) = (0 : Int32) then (1 : Int32) else (0 : Int32))), .val (.int (if (((((0 : Int32) + (1 : Int32)) + (1 : Int32)) + (1 : Int32)) - (1 : Int32)) = (0 : Int32) then (1 : Int32) else (0 : Int32)))] []))
            refine own_iload X132 hx (hb hby at_190) rfl ?_
            refine own_iloadN X132 hx (hb hby at_192) rfl ?_
            refine own_ifYes X132 hx (pc' := 200) (hb hby at_193) ((if0 _ _).trans (feq ((by first | (rw [hca]; done) | (rw [hca]; decide)) : ¬ ((p1 &&& (3 : Int32)) = (0 : Int32)))).2) (by decide) (by decide) ?_
            show Goes _ _ _ _ _ _ (T132.setTop (mkF m 200 #[.val (.int p1), .val (.int p2), .val (.int p3), .val (.int (p1 &&& (3 : Int32))), .val (.int ((p2 &&& (2147483647 : Int32)) % ((p1 &&& (3 : Int32)) + (1 : Int32)))), .val (.ref b110), .val (.int (if (0 : Int32) = (0 : Int32) then (1 : Int32) else (0 : Int32))), .val (.int (if ((((0 : Int32) + (1 : Int32)) + (1 : Int32)) + (1 : Int32)) = (0 : Int32) then (1 : Int32) else (0 : Int32))), .val (.int (if (((((0 : Int32) + (1 : Int32)) + (1 : Int32)) + (1 : Int32)) - (1 : Int32)) = (0 : Int32) then (1 : Int32) else (0 : Int32)))] [(.int (if ((((0 : Int32) + (1 : Int32)) + (1 : Int32)) + (1 : Int32)) = (0 : Int32) then (1 : Int32) else (0 : Int32)))]))
            refine own_iconst X132 hx (v := (0 : Int32)) (hb hby at_200) rfl ?_
            refine own_icmpNo X132 hx (hb hby at_201) (teq ((by first | (rw [if_neg (show ¬ (((((0 : Int32) + (1 : Int32)) + (1 : Int32)) + (1 : Int32)) = (0 : Int32)) by decide)]; done) | (rw [if_neg (show ¬ (((((0 : Int32) + (1 : Int32)) + (1 : Int32)) + (1 : Int32)) = (0 : Int32)) by decide)]; decide)) : (if ((((0 : Int32) + (1 : Int32)) + (1 : Int32)) + (1 : Int32)) = (0 : Int32) then (1 : Int32) else (0 : Int32)) = (0 : Int32))).2 ?_
            show Goes _ _ _ _ _ _ (T132.setTop (mkF m 204 #[.val (.int p1), .val (.int p2), .val (.int p3), .val (.int (p1 &&& (3 : Int32))), .val (.int ((p2 &&& (2147483647 : Int32)) % ((p1 &&& (3 : Int32)) + (1 : Int32)))), .val (.ref b110), .val (.int (if (0 : Int32) = (0 : Int32) then (1 : Int32) else (0 : Int32))), .val (.int (if ((((0 : Int32) + (1 : Int32)) + (1 : Int32)) + (1 : Int32)) = (0 : Int32) then (1 : Int32) else (0 : Int32))), .val (.int (if (((((0 : Int32) + (1 : Int32)) + (1 : Int32)) + (1 : Int32)) - (1 : Int32)) = (0 : Int32) then (1 : Int32) else (0 : Int32)))] []))
            refine own_iload X132 hx (hb hby at_204) rfl ?_
            refine own_iloadN X132 hx (hb hby at_206) rfl ?_
            refine own_iload X132 hx (hb hby at_207) rfl ?_
            refine own_icmpYes X132 hx (pc' := 216) (hb hby at_209) (feq ((by first | (rw [hca, hcr]; done) | (rw [hca, hcr]; decide) | (rw [hcr, hca]; done) | (rw [hcr, hca]; decide)) : ¬ ((p1 &&& (3 : Int32)) = ((p2 &&& (2147483647 : Int32)) % ((p1 &&& (3 : Int32)) + (1 : Int32)))))).2 (by decide) (by decide) ?_
            show Goes _ _ _ _ _ _ (T132.setTop (mkF m 216 #[.val (.int p1), .val (.int p2), .val (.int p3), .val (.int (p1 &&& (3 : Int32))), .val (.int ((p2 &&& (2147483647 : Int32)) % ((p1 &&& (3 : Int32)) + (1 : Int32)))), .val (.ref b110), .val (.int (if (0 : Int32) = (0 : Int32) then (1 : Int32) else (0 : Int32))), .val (.int (if ((((0 : Int32) + (1 : Int32)) + (1 : Int32)) + (1 : Int32)) = (0 : Int32) then (1 : Int32) else (0 : Int32))), .val (.int (if (((((0 : Int32) + (1 : Int32)) + (1 : Int32)) + (1 : Int32)) - (1 : Int32)) = (0 : Int32) then (1 : Int32) else (0 : Int32)))] [(.int (if (((((0 : Int32) + (1 : Int32)) + (1 : Int32)) + (1 : Int32)) - (1 : Int32)) = (0 : Int32) then (1 : Int32) else (0 : Int32)))]))
            refine own_iconst X132 hx (v := (0 : Int32)) (hb hby at_216) rfl ?_
            refine own_icmpNo X132 hx (hb hby at_217) (teq ((by first | (rw [if_neg (show ¬ ((((((0 : Int32) + (1 : Int32)) + (1 : Int32)) + (1 : Int32)) - (1 : Int32)) = (0 : Int32)) by decide)]; done) | (rw [if_neg (show ¬ ((((((0 : Int32) + (1 : Int32)) + (1 : Int32)) + (1 : Int32)) - (1 : Int32)) = (0 : Int32)) by decide)]; decide)) : (if (((((0 : Int32) + (1 : Int32)) + (1 : Int32)) + (1 : Int32)) - (1 : Int32)) = (0 : Int32) then (1 : Int32) else (0 : Int32)) = (0 : Int32))).2 ?_
            show Goes _ _ _ _ _ _ (T132.setTop (mkF m 220 #[.val (.int p1), .val (.int p2), .val (.int p3), .val (.int (p1 &&& (3 : Int32))), .val (.int ((p2 &&& (2147483647 : Int32)) % ((p1 &&& (3 : Int32)) + (1 : Int32)))), .val (.ref b110), .val (.int (if (0 : Int32) = (0 : Int32) then (1 : Int32) else (0 : Int32))), .val (.int (if ((((0 : Int32) + (1 : Int32)) + (1 : Int32)) + (1 : Int32)) = (0 : Int32) then (1 : Int32) else (0 : Int32))), .val (.int (if (((((0 : Int32) + (1 : Int32)) + (1 : Int32)) + (1 : Int32)) - (1 : Int32)) = (0 : Int32) then (1 : Int32) else (0 : Int32)))] []))
            refine own_iconst X132 hx (v := (1 : Int32)) (hb hby at_220) rfl ?_
            refine own_goto X132 hx (pc' := 225) (hb hby at_221) (by decide) (by decide) ?_
            show Goes _ _ _ _ _ _ (T132.setTop (mkF m 225 #[.val (.int p1), .val (.int p2), .val (.int p3), .val (.int (p1 &&& (3 : Int32))), .val (.int ((p2 &&& (2147483647 : Int32)) % ((p1 &&& (3 : Int32)) + (1 : Int32)))), .val (.ref b110), .val (.int (if (0 : Int32) = (0 : Int32) then (1 : Int32) else (0 : Int32))), .val (.int (if ((((0 : Int32) + (1 : Int32)) + (1 : Int32)) + (1 : Int32)) = (0 : Int32) then (1 : Int32) else (0 : Int32))), .val (.int (if (((((0 : Int32) + (1 : Int32)) + (1 : Int32)) + (1 : Int32)) - (1 : Int32)) = (0 : Int32) then (1 : Int32) else (0 : Int32)))] [(.int (1 : Int32))]))
            exact own_retNW X132 hx (t := .boolean) hS125 (by rw [e132]; exact hk131) N132 hlk (by decide) (by decide) hret (by simp) (hb hby at_225) (by rw [e132]; exact rfl)
          by_cases hc121_128 : (p3 &&& (8 : Int32)) = (0 : Int32)
          ·
            refine own_ifYes X127 hx (pc' := 128) (hb hby at_121) ((if0 _ _).trans (teq (hc121_128 : (p3 &&& (8 : Int32)) = (0 : Int32))).1) (by decide) (by decide) ?_
            show Goes _ _ _ _ _ _ (T127.setTop (mkF m 128 #[.val (.int p1), .val (.int p2), .val (.int p3), .val (.int (p1 &&& (3 : Int32))), .val (.int ((p2 &&& (2147483647 : Int32)) % ((p1 &&& (3 : Int32)) + (1 : Int32)))), .val (.ref b110), .val (.int (if (0 : Int32) = (0 : Int32) then (1 : Int32) else (0 : Int32))), .val (.int (if ((((0 : Int32) + (1 : Int32)) + (1 : Int32)) + (1 : Int32)) = (0 : Int32) then (1 : Int32) else (0 : Int32))), .unset] [(.ref b110)]))
            refine own_iconst X127 hx (v := (0 : Int32)) (hb hby at_128) rfl ?_
            show Goes _ _ _ _ _ _ (T127.setTop (mkF m 129 #[.val (.int p1), .val (.int p2), .val (.int p3), .val (.int (p1 &&& (3 : Int32))), .val (.int ((p2 &&& (2147483647 : Int32)) % ((p1 &&& (3 : Int32)) + (1 : Int32)))), .val (.ref b110), .val (.int (if (0 : Int32) = (0 : Int32) then (1 : Int32) else (0 : Int32))), .val (.int (if ((((0 : Int32) + (1 : Int32)) + (1 : Int32)) + (1 : Int32)) = (0 : Int32) then (1 : Int32) else (0 : Int32))), .unset] [(.int (0 : Int32)), (.ref b110)]))
            exact jn129_129 T127 _ X127 N127 e127 (0 : Int32) trivial
          ·
            refine own_ifNo X127 hx (hb hby at_121) ((if0 _ _).trans (feq (hc121_128 : ¬ ((p3 &&& (8 : Int32)) = (0 : Int32)))).1) ?_
            show Goes _ _ _ _ _ _ (T127.setTop (mkF m 124 #[.val (.int p1), .val (.int p2), .val (.int p3), .val (.int (p1 &&& (3 : Int32))), .val (.int ((p2 &&& (2147483647 : Int32)) % ((p1 &&& (3 : Int32)) + (1 : Int32)))), .val (.ref b110), .val (.int (if (0 : Int32) = (0 : Int32) then (1 : Int32) else (0 : Int32))), .val (.int (if ((((0 : Int32) + (1 : Int32)) + (1 : Int32)) + (1 : Int32)) = (0 : Int32) then (1 : Int32) else (0 : Int32))), .unset] [(.ref b110)]))
            refine own_iconst X127 hx (v := (1 : Int32)) (hb hby at_124) rfl ?_
            refine own_goto X127 hx (pc' := 129) (hb hby at_125) (by decide) (by decide) ?_
            show Goes _ _ _ _ _ _ (T127.setTop (mkF m 129 #[.val (.int p1), .val (.int p2), .val (.int p3), .val (.int (p1 &&& (3 : Int32))), .val (.int ((p2 &&& (2147483647 : Int32)) % ((p1 &&& (3 : Int32)) + (1 : Int32)))), .val (.ref b110), .val (.int (if (0 : Int32) = (0 : Int32) then (1 : Int32) else (0 : Int32))), .val (.int (if ((((0 : Int32) + (1 : Int32)) + (1 : Int32)) + (1 : Int32)) = (0 : Int32) then (1 : Int32) else (0 : Int32))), .unset] [(.int (1 : Int32)), (.ref b110)]))
            exact jn129_129 T127 _ X127 N127 e127 (1 : Int32) trivial
        by_cases hc87_123 : (p3 &&& (4 : Int32)) = (0 : Int32)
        ·
          refine own_ifYes X121 hx (pc' := 94) (hb hby at_87) ((if0 _ _).trans (teq (hc87_123 : (p3 &&& (4 : Int32)) = (0 : Int32))).1) (by decide) (by decide) ?_
          show Goes _ _ _ _ _ _ (T121.setTop (mkF m 94 #[.val (.int p1), .val (.int p2), .val (.int p3), .val (.int (p1 &&& (3 : Int32))), .val (.int ((p2 &&& (2147483647 : Int32)) % ((p1 &&& (3 : Int32)) + (1 : Int32)))), .val (.ref b110), .val (.int (if (0 : Int32) = (0 : Int32) then (1 : Int32) else (0 : Int32))), .unset, .unset] [(.ref b110)]))
          refine own_iconst X121 hx (v := (0 : Int32)) (hb hby at_94) rfl ?_
          show Goes _ _ _ _ _ _ (T121.setTop (mkF m 95 #[.val (.int p1), .val (.int p2), .val (.int p3), .val (.int (p1 &&& (3 : Int32))), .val (.int ((p2 &&& (2147483647 : Int32)) % ((p1 &&& (3 : Int32)) + (1 : Int32)))), .val (.ref b110), .val (.int (if (0 : Int32) = (0 : Int32) then (1 : Int32) else (0 : Int32))), .unset, .unset] [(.int (0 : Int32)), (.ref b110)]))
          exact jn95_124 T121 _ X121 N121 rfl (0 : Int32) trivial
        ·
          refine own_ifNo X121 hx (hb hby at_87) ((if0 _ _).trans (feq (hc87_123 : ¬ ((p3 &&& (4 : Int32)) = (0 : Int32)))).1) ?_
          show Goes _ _ _ _ _ _ (T121.setTop (mkF m 90 #[.val (.int p1), .val (.int p2), .val (.int p3), .val (.int (p1 &&& (3 : Int32))), .val (.int ((p2 &&& (2147483647 : Int32)) % ((p1 &&& (3 : Int32)) + (1 : Int32)))), .val (.ref b110), .val (.int (if (0 : Int32) = (0 : Int32) then (1 : Int32) else (0 : Int32))), .unset, .unset] [(.ref b110)]))
          refine own_iconst X121 hx (v := (1 : Int32)) (hb hby at_90) rfl ?_
          refine own_goto X121 hx (pc' := 95) (hb hby at_91) (by decide) (by decide) ?_
          show Goes _ _ _ _ _ _ (T121.setTop (mkF m 95 #[.val (.int p1), .val (.int p2), .val (.int p3), .val (.int (p1 &&& (3 : Int32))), .val (.int ((p2 &&& (2147483647 : Int32)) % ((p1 &&& (3 : Int32)) + (1 : Int32)))), .val (.ref b110), .val (.int (if (0 : Int32) = (0 : Int32) then (1 : Int32) else (0 : Int32))), .unset, .unset] [(.int (1 : Int32)), (.ref b110)]))
          exact jn95_124 T121 _ X121 N121 rfl (1 : Int32) trivial
      by_cases hc62_119 : (p3 &&& (2 : Int32)) = (0 : Int32)
      ·
        refine own_ifYes X117 hx (pc' := 69) (hb hby at_62) ((if0 _ _).trans (teq (hc62_119 : (p3 &&& (2 : Int32)) = (0 : Int32))).1) (by decide) (by decide) ?_
        show Goes _ _ _ _ _ _ (T117.setTop (mkF m 69 #[.val (.int p1), .val (.int p2), .val (.int p3), .val (.int (p1 &&& (3 : Int32))), .val (.int ((p2 &&& (2147483647 : Int32)) % ((p1 &&& (3 : Int32)) + (1 : Int32)))), .val (.ref b110), .val (.int (if (0 : Int32) = (0 : Int32) then (1 : Int32) else (0 : Int32))), .unset, .unset] [(.ref b110)]))
        refine own_iconst X117 hx (v := (0 : Int32)) (hb hby at_69) rfl ?_
        show Goes _ _ _ _ _ _ (T117.setTop (mkF m 70 #[.val (.int p1), .val (.int p2), .val (.int p3), .val (.int (p1 &&& (3 : Int32))), .val (.int ((p2 &&& (2147483647 : Int32)) % ((p1 &&& (3 : Int32)) + (1 : Int32)))), .val (.ref b110), .val (.int (if (0 : Int32) = (0 : Int32) then (1 : Int32) else (0 : Int32))), .unset, .unset] [(.int (0 : Int32)), (.ref b110)]))
        exact jn70_120 T117 _ X117 N117 rfl (0 : Int32) trivial
      ·
        refine own_ifNo X117 hx (hb hby at_62) ((if0 _ _).trans (feq (hc62_119 : ¬ ((p3 &&& (2 : Int32)) = (0 : Int32)))).1) ?_
        show Goes _ _ _ _ _ _ (T117.setTop (mkF m 65 #[.val (.int p1), .val (.int p2), .val (.int p3), .val (.int (p1 &&& (3 : Int32))), .val (.int ((p2 &&& (2147483647 : Int32)) % ((p1 &&& (3 : Int32)) + (1 : Int32)))), .val (.ref b110), .val (.int (if (0 : Int32) = (0 : Int32) then (1 : Int32) else (0 : Int32))), .unset, .unset] [(.ref b110)]))
        refine own_iconst X117 hx (v := (1 : Int32)) (hb hby at_65) rfl ?_
        refine own_goto X117 hx (pc' := 70) (hb hby at_66) (by decide) (by decide) ?_
        show Goes _ _ _ _ _ _ (T117.setTop (mkF m 70 #[.val (.int p1), .val (.int p2), .val (.int p3), .val (.int (p1 &&& (3 : Int32))), .val (.int ((p2 &&& (2147483647 : Int32)) % ((p1 &&& (3 : Int32)) + (1 : Int32)))), .val (.ref b110), .val (.int (if (0 : Int32) = (0 : Int32) then (1 : Int32) else (0 : Int32))), .unset, .unset] [(.int (1 : Int32)), (.ref b110)]))
        exact jn70_120 T117 _ X117 N117 rfl (1 : Int32) trivial
    by_cases hc40_115 : (p3 &&& (1 : Int32)) = (0 : Int32)
    ·
      refine own_ifYes X114 hx (pc' := 47) (hb hby at_40) ((if0 _ _).trans (teq (hc40_115 : (p3 &&& (1 : Int32)) = (0 : Int32))).1) (by decide) (by decide) ?_
      show Goes _ _ _ _ _ _ (T114.setTop (mkF m 47 #[.val (.int p1), .val (.int p2), .val (.int p3), .val (.int (p1 &&& (3 : Int32))), .val (.int ((p2 &&& (2147483647 : Int32)) % ((p1 &&& (3 : Int32)) + (1 : Int32)))), .val (.ref b110), .val (.int (if (0 : Int32) = (0 : Int32) then (1 : Int32) else (0 : Int32))), .unset, .unset] [(.ref b110)]))
      refine own_iconst X114 hx (v := (0 : Int32)) (hb hby at_47) rfl ?_
      show Goes _ _ _ _ _ _ (T114.setTop (mkF m 48 #[.val (.int p1), .val (.int p2), .val (.int p3), .val (.int (p1 &&& (3 : Int32))), .val (.int ((p2 &&& (2147483647 : Int32)) % ((p1 &&& (3 : Int32)) + (1 : Int32)))), .val (.ref b110), .val (.int (if (0 : Int32) = (0 : Int32) then (1 : Int32) else (0 : Int32))), .unset, .unset] [(.int (0 : Int32)), (.ref b110)]))
      exact jn48_116 T114 _ X114 N114 e114 (0 : Int32) trivial
    ·
      refine own_ifNo X114 hx (hb hby at_40) ((if0 _ _).trans (feq (hc40_115 : ¬ ((p3 &&& (1 : Int32)) = (0 : Int32)))).1) ?_
      show Goes _ _ _ _ _ _ (T114.setTop (mkF m 43 #[.val (.int p1), .val (.int p2), .val (.int p3), .val (.int (p1 &&& (3 : Int32))), .val (.int ((p2 &&& (2147483647 : Int32)) % ((p1 &&& (3 : Int32)) + (1 : Int32)))), .val (.ref b110), .val (.int (if (0 : Int32) = (0 : Int32) then (1 : Int32) else (0 : Int32))), .unset, .unset] [(.ref b110)]))
      refine own_iconst X114 hx (v := (1 : Int32)) (hb hby at_43) rfl ?_
      refine own_goto X114 hx (pc' := 48) (hb hby at_44) (by decide) (by decide) ?_
      show Goes _ _ _ _ _ _ (T114.setTop (mkF m 48 #[.val (.int p1), .val (.int p2), .val (.int p3), .val (.int (p1 &&& (3 : Int32))), .val (.int ((p2 &&& (2147483647 : Int32)) % ((p1 &&& (3 : Int32)) + (1 : Int32)))), .val (.ref b110), .val (.int (if (0 : Int32) = (0 : Int32) then (1 : Int32) else (0 : Int32))), .unset, .unset] [(.int (1 : Int32)), (.ref b110)]))
      exact jn48_116 T114 _ X114 N114 e114 (1 : Int32) trivial
  ·
    show Goes _ _ _ _ _ _ (T0.setTop (mkF m 14 #[.val (.int p1), .val (.int p2), .val (.int p3), .val (.int (p1 &&& (3 : Int32))), .val (.int ((p2 &&& (2147483647 : Int32)) % ((p1 &&& (3 : Int32)) + (1 : Int32)))), .unset, .unset, .unset, .unset] []))
    refine own_new X0 hx hZ hown (hw _ (List.mem_of_getElem? (i := 1) rfl)) (hw _ (List.mem_of_getElem? (i := 2) rfl)) (hw _ (List.mem_of_getElem? (i := 3) rfl)) e0 (hb hby at_14) (by decide) (by decide) (fun T133 h133 b133 g133 X133 e133 E133 A133 D133 => ?_)
    have ge_b133 : n0 ≤ b133 := Nat.le_trans (own_sz O0) (Nat.le_of_eq g133.symm)
    have O134 := O0.ext E133
    have F133_ring_b133 : Fld Z h133 b133 "com/example/kache/kache/store/ListValue" "ring" "[[B" .null := D133 (Or.inl (hw _ (List.mem_of_getElem? (i := 13) rfl))) (ty := (.array (.array .byte))) (by decide)
    have F133_size_b133 : Fld Z h133 b133 "com/example/kache/kache/store/ListValue" "size" "I" (.int (0 : Int32)) := D133 (Or.inl (hw _ (List.mem_of_getElem? (i := 20) rfl))) (ty := .int) (by decide)
    have F133_head_b133 : Fld Z h133 b133 "com/example/kache/kache/store/ListValue" "head" "I" (.int (0 : Int32)) := D133 (Or.inl (hw _ (List.mem_of_getElem? (i := 47) rfl))) (ty := .int) (by decide)
    show Goes _ _ _ _ _ _ (T133.setTop (mkF m 17 #[.val (.int p1), .val (.int p2), .val (.int p3), .val (.int (p1 &&& (3 : Int32))), .val (.int ((p2 &&& (2147483647 : Int32)) % ((p1 &&& (3 : Int32)) + (1 : Int32)))), .unset, .unset, .unset, .unset] [(.ref b133)]))
    refine own_dup X133 hx (hb hby at_17) rfl ?_
    refine own_special X133 hx hZ hown (y := (⟨"com/example/kache/kache/store/ListValue", "<init>", "()V"⟩ : MethodName)) rfl (hw _ (List.mem_of_getElem? (i := 4) rfl)) (hw _ (List.mem_of_getElem? (i := 5) rfl)) (hw _ (List.mem_of_getElem? (i := 3) rfl)) (hw _ (List.mem_of_getElem? (i := 6) rfl)) (a := b133) (by decide) (W := 1) (by decide) (by decide) N0 e133 (by rw [hml]; rfl) (argsL := []) (rest := [(.ref b133)]) (lenOf pd_4 rfl) (Nat.le_of_eq rfl) (by decide) (by decide) (rm1 l Z a0 hw [] b133 (.null) h133 n0 O134 A133 F133_ring_b133 F133_head_b133 F133_size_b133 ge_b133) rfl (hb hby at_18) ?_
    intro v135 T135 lc135 X135 N135 hQ135
    obtain ⟨r_135, k_135, rfl, K135, r135_0, r135_1, r135_2, r135_3, r135_4, r135_5, r135_6⟩ := hQ135
    have O136 := O134.keep K135 (allS ge_b133 all0)
    have ge_r_135 : n0 ≤ r_135 := Nat.le_trans (own_sz O134) r135_5
    show Goes _ _ _ _ _ _ (T135.setTop (mkF m 21 #[.val (.int p1), .val (.int p2), .val (.int p3), .val (.int (p1 &&& (3 : Int32))), .val (.int ((p2 &&& (2147483647 : Int32)) % ((p1 &&& (3 : Int32)) + (1 : Int32)))), .unset, .unset, .unset, .unset] [(.ref b133)]))
    refine own_astore X135 hx (Ls' := #[.val (.int p1), .val (.int p2), .val (.int p3), .val (.int (p1 &&& (3 : Int32))), .val (.int ((p2 &&& (2147483647 : Int32)) % ((p1 &&& (3 : Int32)) + (1 : Int32)))), .val (.ref b133), .unset, .unset, .unset]) (hb hby at_21) rfl rfl ?_
    refine own_aload X135 hx (hb hby at_23) rfl rfl ?_
    refine own_virtual X135 hx hZ hown (y := (⟨"com/example/kache/kache/store/ListValue", "isEmpty", "()Z"⟩ : MethodName)) (z := (⟨"com/example/kache/kache/store/ListValue", "isEmpty", "()Z"⟩ : MethodName)) (hw _ (List.mem_of_getElem? (i := 14) rfl)) (hw _ (List.mem_of_getElem? (i := 15) rfl)) (notFace_of_selects (args := #[]) (mvT hZ (hw _ (List.mem_of_getElem? (i := 17) rfl)))) (hw _ (List.mem_of_getElem? (i := 17) rfl)) (hw _ (List.mem_of_getElem? (i := 16) rfl)) (hw _ (List.mem_of_getElem? (i := 3) rfl)) (hw _ (List.mem_of_getElem? (i := 18) rfl)) (a := b133) r135_0 (by decide) (W := 0) (by decide) (by decide) N135 rfl (by rw [hml]; rfl) (argsL := []) (rest := []) (lenOf pd_8 rfl) (Nat.le_of_eq rfl) (by decide) (by decide) (rm3 l Z a0 hw [] b133 (0 : Int32) T135.heap n0 O136 r135_3) rfl (hb hby at_25) ?_
    intro v137 T137 lc137 X137 N137 hQ137
    obtain ⟨rfl, e137⟩ := hQ137
    show Goes _ _ _ _ _ _ (T137.setTop (mkF m 28 #[.val (.int p1), .val (.int p2), .val (.int p3), .val (.int (p1 &&& (3 : Int32))), .val (.int ((p2 &&& (2147483647 : Int32)) % ((p1 &&& (3 : Int32)) + (1 : Int32)))), .val (.ref b133), .unset, .unset, .unset] [(.int (if (0 : Int32) = (0 : Int32) then (1 : Int32) else (0 : Int32)))]))
    refine own_istore X137 hx (Ls' := #[.val (.int p1), .val (.int p2), .val (.int p3), .val (.int (p1 &&& (3 : Int32))), .val (.int ((p2 &&& (2147483647 : Int32)) % ((p1 &&& (3 : Int32)) + (1 : Int32)))), .val (.ref b133), .val (.int (if (0 : Int32) = (0 : Int32) then (1 : Int32) else (0 : Int32))), .unset, .unset]) (hb hby at_28) rfl ?_
    refine own_iloadN X137 hx (hb hby at_30) rfl ?_
    refine own_iconst X137 hx (v := (1 : Int32)) (hb hby at_31) rfl ?_
    refine own_icmpNo X137 hx (hb hby at_32) (flt ((by first | (rw [hca]; done) | (rw [hca]; decide)) : ¬ ((p1 &&& (3 : Int32)) < (1 : Int32)))).1 ?_
    show Goes _ _ _ _ _ _ (T137.setTop (mkF m 35 #[.val (.int p1), .val (.int p2), .val (.int p3), .val (.int (p1 &&& (3 : Int32))), .val (.int ((p2 &&& (2147483647 : Int32)) % ((p1 &&& (3 : Int32)) + (1 : Int32)))), .val (.ref b133), .val (.int (if (0 : Int32) = (0 : Int32) then (1 : Int32) else (0 : Int32))), .unset, .unset] []))
    refine own_aload X137 hx (hb hby at_35) rfl rfl ?_
    refine own_iloadN X137 hx (hb hby at_37) rfl ?_
    refine own_iconst X137 hx (v := (1 : Int32)) (hb hby at_38) rfl ?_
    refine own_iand X137 hx (hb hby at_39) ?_
    show Goes _ _ _ _ _ _ (T137.setTop (mkF m 40 #[.val (.int p1), .val (.int p2), .val (.int p3), .val (.int (p1 &&& (3 : Int32))), .val (.int ((p2 &&& (2147483647 : Int32)) % ((p1 &&& (3 : Int32)) + (1 : Int32)))), .val (.ref b133), .val (.int (if (0 : Int32) = (0 : Int32) then (1 : Int32) else (0 : Int32))), .unset, .unset] [(.int (p3 &&& (1 : Int32))), (.ref b133)]))
    have jn48_139 : ∀ (T139 : State) (lc139 : List Loc) (X139 : Stand p l e room_1 (s.setVm s.vm) m #[(.int p1), (.int p2), (.int p3)] below meth c T139 lc139 2 11) (N139 : Fr n0 lc139) (e139 : T139.heap = T135.heap) (w139 : Int32) (hj139 : True), Goes p e below (fun o t L => ReturnedEndW s o t L (24) (1152)) n0 (Q0 Z p1 p2 p3 h0 n0) (T139.setTop (mkF m 48 #[.val (.int p1), .val (.int p2), .val (.int p3), .val (.int (p1 &&& (3 : Int32))), .val (.int ((p2 &&& (2147483647 : Int32)) % ((p1 &&& (3 : Int32)) + (1 : Int32)))), .val (.ref b133), .val (.int (if (0 : Int32) = (0 : Int32) then (1 : Int32) else (0 : Int32))), .unset, .unset] [(.int w139), (.ref b133)])) := by
      intro T139 lc139 X139 N139 e139 w139 hj139
      show Goes _ _ _ _ _ _ (T139.setTop (mkF m 48 #[.val (.int p1), .val (.int p2), .val (.int p3), .val (.int (p1 &&& (3 : Int32))), .val (.int ((p2 &&& (2147483647 : Int32)) % ((p1 &&& (3 : Int32)) + (1 : Int32)))), .val (.ref b133), .val (.int (if (0 : Int32) = (0 : Int32) then (1 : Int32) else (0 : Int32))), .unset, .unset] [(.int w139), (.ref b133)]))
      refine own_iloadN X139 hx (hb hby at_48) rfl ?_
      refine own_callSW X139 hx hZ hown hS0 (Nat.zero_le _) (y := (⟨"com/example/kache/kache/store/ListValueIsEmptyPinLaw", "addOne", "(Lcom/example/kache/kache/store/ListValue;ZI)V"⟩ : MethodName)) (hw _ (List.mem_of_getElem? (i := 21) rfl)) (hw _ (List.mem_of_getElem? (i := 22) rfl)) (hw _ (List.mem_of_getElem? (i := 23) rfl)) (hw _ (List.mem_of_getElem? (i := 24) rfl)) (by decide) (W := 0) (by decide) (by decide) N139 e139 (by rw [hml]; rfl) (argsL := [(.ref b133), (.int w139), (.int p3)]) (rest := []) (lenOf pd_9 rfl) (Nat.le_of_eq rfl) (by decide) (by decide) (rm4 l Z a0 hw [] b133 w139 p3 r_135 (0 : Int32) (0 : Int32) k_135 [.null, .null, .null, .null, .null, .null, .null, .null] T135.heap n0 O136 r135_0 r135_1 r135_2 r135_3 r135_4 (by first | assumption | decide | exact ⟨rfl, rfl⟩) ge_b133 ge_r_135 (by first | assumption | decide | exact ⟨rfl, rfl⟩) r135_6 (by first | assumption | decide | exact ⟨rfl, rfl⟩)) rfl (hb hby at_49) ?_
      intro v140 T140 lc140 k1_140 X140 hS140 hk140_ hZ hown N140 hQ140
      obtain ⟨hd2_140, vs2_140, rfl, K140, r140_0, r140_1, r140_2, r140_3, r140_4, r140_5, r140_6⟩ := hQ140
      have O141 := O136.keep K140 (allS ge_b133 (allS ge_r_135 all0))
      show Goes _ _ _ _ _ _ (T140.setTop (mkF m 52 #[.val (.int p1), .val (.int p2), .val (.int p3), .val (.int (p1 &&& (3 : Int32))), .val (.int ((p2 &&& (2147483647 : Int32)) % ((p1 &&& (3 : Int32)) + (1 : Int32)))), .val (.ref b133), .val (.int (if (0 : Int32) = (0 : Int32) then (1 : Int32) else (0 : Int32))), .unset, .unset] []))
      refine own_iloadN X140 hx (hb hby at_52) rfl ?_
      refine own_iconst X140 hx (v := (2 : Int32)) (hb hby at_53) rfl ?_
      refine own_icmpNo X140 hx (hb hby at_54) (flt ((by first | (rw [hca]; done) | (rw [hca]; decide)) : ¬ ((p1 &&& (3 : Int32)) < (2 : Int32)))).1 ?_
      show Goes _ _ _ _ _ _ (T140.setTop (mkF m 57 #[.val (.int p1), .val (.int p2), .val (.int p3), .val (.int (p1 &&& (3 : Int32))), .val (.int ((p2 &&& (2147483647 : Int32)) % ((p1 &&& (3 : Int32)) + (1 : Int32)))), .val (.ref b133), .val (.int (if (0 : Int32) = (0 : Int32) then (1 : Int32) else (0 : Int32))), .unset, .unset] []))
      refine own_aload X140 hx (hb hby at_57) rfl rfl ?_
      refine own_iloadN X140 hx (hb hby at_59) rfl ?_
      refine own_iconst X140 hx (v := (2 : Int32)) (hb hby at_60) rfl ?_
      refine own_iand X140 hx (hb hby at_61) ?_
      show Goes _ _ _ _ _ _ (T140.setTop (mkF m 62 #[.val (.int p1), .val (.int p2), .val (.int p3), .val (.int (p1 &&& (3 : Int32))), .val (.int ((p2 &&& (2147483647 : Int32)) % ((p1 &&& (3 : Int32)) + (1 : Int32)))), .val (.ref b133), .val (.int (if (0 : Int32) = (0 : Int32) then (1 : Int32) else (0 : Int32))), .unset, .unset] [(.int (p3 &&& (2 : Int32))), (.ref b133)]))
      have jn70_143 : ∀ (T143 : State) (lc143 : List Loc) (X143 : Stand p l e room_1 (s.setVm T140.vm) m #[(.int p1), (.int p2), (.int p3)] below meth c T143 lc143 5 44) (N143 : Fr n0 lc143) (e143 : T143.heap = T140.heap) (w143 : Int32) (hj143 : True), Goes p e below (fun o t L => ReturnedEndW s o t L (24) (1152)) n0 (Q0 Z p1 p2 p3 h0 n0) (T143.setTop (mkF m 70 #[.val (.int p1), .val (.int p2), .val (.int p3), .val (.int (p1 &&& (3 : Int32))), .val (.int ((p2 &&& (2147483647 : Int32)) % ((p1 &&& (3 : Int32)) + (1 : Int32)))), .val (.ref b133), .val (.int (if (0 : Int32) = (0 : Int32) then (1 : Int32) else (0 : Int32))), .unset, .unset] [(.int w143), (.ref b133)])) := by
        intro T143 lc143 X143 N143 e143 w143 hj143
        show Goes _ _ _ _ _ _ (T143.setTop (mkF m 70 #[.val (.int p1), .val (.int p2), .val (.int p3), .val (.int (p1 &&& (3 : Int32))), .val (.int ((p2 &&& (2147483647 : Int32)) % ((p1 &&& (3 : Int32)) + (1 : Int32)))), .val (.ref b133), .val (.int (if (0 : Int32) = (0 : Int32) then (1 : Int32) else (0 : Int32))), .unset, .unset] [(.int w143), (.ref b133)]))
        refine own_iloadN X143 hx (hb hby at_70) rfl ?_
        refine own_bipush X143 hx (v := (8 : Int32)) (hb hby at_71) rfl ?_
        refine own_ishr X143 hx (hb hby at_73) ?_
        refine own_callSW X143 hx hZ hown hS140 hk140_ (y := (⟨"com/example/kache/kache/store/ListValueIsEmptyPinLaw", "addOne", "(Lcom/example/kache/kache/store/ListValue;ZI)V"⟩ : MethodName)) (hw _ (List.mem_of_getElem? (i := 21) rfl)) (hw _ (List.mem_of_getElem? (i := 22) rfl)) (hw _ (List.mem_of_getElem? (i := 23) rfl)) (hw _ (List.mem_of_getElem? (i := 24) rfl)) (by decide) (W := 0) (by decide) (by decide) N143 e143 (by rw [hml]; rfl) (argsL := [(.ref b133), (.int w143), (.int (p3 >>> ((8 : Int32) &&& 31)))]) (rest := []) (lenOf pd_9 rfl) (Nat.le_of_eq rfl) (by decide) (by decide) (rm4 l Z a0 hw [] b133 w143 (p3 >>> ((8 : Int32) &&& 31)) r_135 hd2_140 ((0 : Int32) + (1 : Int32)) k_135 vs2_140 T140.heap n0 O141 r140_0 r140_1 r140_2 r140_3 r140_4 r140_5 ge_b133 ge_r_135 r140_6 r135_6 (by first | assumption | decide | exact ⟨rfl, rfl⟩)) rfl (hb hby at_74) ?_
        intro v144 T144 lc144 k1_144 X144 hS144 hk144_ hZ hown N144 hQ144
        obtain ⟨hd2_144, vs2_144, rfl, K144, r144_0, r144_1, r144_2, r144_3, r144_4, r144_5, r144_6⟩ := hQ144
        have O145 := O141.keep K144 (allS ge_b133 (allS ge_r_135 all0))
        have hk145 := Nat.le_trans hk140_ K144.1
        show Goes _ _ _ _ _ _ (T144.setTop (mkF m 77 #[.val (.int p1), .val (.int p2), .val (.int p3), .val (.int (p1 &&& (3 : Int32))), .val (.int ((p2 &&& (2147483647 : Int32)) % ((p1 &&& (3 : Int32)) + (1 : Int32)))), .val (.ref b133), .val (.int (if (0 : Int32) = (0 : Int32) then (1 : Int32) else (0 : Int32))), .unset, .unset] []))
        refine own_iloadN X144 hx (hb hby at_77) rfl ?_
        refine own_iconst X144 hx (v := (3 : Int32)) (hb hby at_78) rfl ?_
        refine own_icmpNo X144 hx (hb hby at_79) (flt ((by first | (rw [hca]; done) | (rw [hca]; decide)) : ¬ ((p1 &&& (3 : Int32)) < (3 : Int32)))).1 ?_
        show Goes _ _ _ _ _ _ (T144.setTop (mkF m 82 #[.val (.int p1), .val (.int p2), .val (.int p3), .val (.int (p1 &&& (3 : Int32))), .val (.int ((p2 &&& (2147483647 : Int32)) % ((p1 &&& (3 : Int32)) + (1 : Int32)))), .val (.ref b133), .val (.int (if (0 : Int32) = (0 : Int32) then (1 : Int32) else (0 : Int32))), .unset, .unset] []))
        refine own_aload X144 hx (hb hby at_82) rfl rfl ?_
        refine own_iloadN X144 hx (hb hby at_84) rfl ?_
        refine own_iconst X144 hx (v := (4 : Int32)) (hb hby at_85) rfl ?_
        refine own_iand X144 hx (hb hby at_86) ?_
        show Goes _ _ _ _ _ _ (T144.setTop (mkF m 87 #[.val (.int p1), .val (.int p2), .val (.int p3), .val (.int (p1 &&& (3 : Int32))), .val (.int ((p2 &&& (2147483647 : Int32)) % ((p1 &&& (3 : Int32)) + (1 : Int32)))), .val (.ref b133), .val (.int (if (0 : Int32) = (0 : Int32) then (1 : Int32) else (0 : Int32))), .unset, .unset] [(.int (p3 &&& (4 : Int32))), (.ref b133)]))
        have jn95_147 : ∀ (T147 : State) (lc147 : List Loc) (X147 : Stand p l e room_1 (s.setVm T144.vm) m #[(.int p1), (.int p2), (.int p3)] below meth c T147 lc147 8 77) (N147 : Fr n0 lc147) (e147 : T147.heap = T144.heap) (w147 : Int32) (hj147 : True), Goes p e below (fun o t L => ReturnedEndW s o t L (24) (1152)) n0 (Q0 Z p1 p2 p3 h0 n0) (T147.setTop (mkF m 95 #[.val (.int p1), .val (.int p2), .val (.int p3), .val (.int (p1 &&& (3 : Int32))), .val (.int ((p2 &&& (2147483647 : Int32)) % ((p1 &&& (3 : Int32)) + (1 : Int32)))), .val (.ref b133), .val (.int (if (0 : Int32) = (0 : Int32) then (1 : Int32) else (0 : Int32))), .unset, .unset] [(.int w147), (.ref b133)])) := by
          intro T147 lc147 X147 N147 e147 w147 hj147
          show Goes _ _ _ _ _ _ (T147.setTop (mkF m 95 #[.val (.int p1), .val (.int p2), .val (.int p3), .val (.int (p1 &&& (3 : Int32))), .val (.int ((p2 &&& (2147483647 : Int32)) % ((p1 &&& (3 : Int32)) + (1 : Int32)))), .val (.ref b133), .val (.int (if (0 : Int32) = (0 : Int32) then (1 : Int32) else (0 : Int32))), .unset, .unset] [(.int w147), (.ref b133)]))
          refine own_iloadN X147 hx (hb hby at_95) rfl ?_
          refine own_bipush X147 hx (v := (16 : Int32)) (hb hby at_96) rfl ?_
          refine own_ishr X147 hx (hb hby at_98) ?_
          refine own_callSW X147 hx hZ hown hS144 hk144_ (y := (⟨"com/example/kache/kache/store/ListValueIsEmptyPinLaw", "addOne", "(Lcom/example/kache/kache/store/ListValue;ZI)V"⟩ : MethodName)) (hw _ (List.mem_of_getElem? (i := 21) rfl)) (hw _ (List.mem_of_getElem? (i := 22) rfl)) (hw _ (List.mem_of_getElem? (i := 23) rfl)) (hw _ (List.mem_of_getElem? (i := 24) rfl)) (by decide) (W := 0) (by decide) (by decide) N147 e147 (by rw [hml]; rfl) (argsL := [(.ref b133), (.int w147), (.int (p3 >>> ((16 : Int32) &&& 31)))]) (rest := []) (lenOf pd_9 rfl) (Nat.le_of_eq rfl) (by decide) (by decide) (rm4 l Z a0 hw [] b133 w147 (p3 >>> ((16 : Int32) &&& 31)) r_135 hd2_144 (((0 : Int32) + (1 : Int32)) + (1 : Int32)) k_135 vs2_144 T144.heap n0 O145 r144_0 r144_1 r144_2 r144_3 r144_4 r144_5 ge_b133 ge_r_135 r144_6 r135_6 (by first | assumption | decide | exact ⟨rfl, rfl⟩)) rfl (hb hby at_99) ?_
          intro v148 T148 lc148 k1_148 X148 hS148 hk148_ hZ hown N148 hQ148
          obtain ⟨hd2_148, vs2_148, rfl, K148, r148_0, r148_1, r148_2, r148_3, r148_4, r148_5, r148_6⟩ := hQ148
          have O149 := O145.keep K148 (allS ge_b133 (allS ge_r_135 all0))
          have hk149 := Nat.le_trans hk144_ K148.1
          show Goes _ _ _ _ _ _ (T148.setTop (mkF m 102 #[.val (.int p1), .val (.int p2), .val (.int p3), .val (.int (p1 &&& (3 : Int32))), .val (.int ((p2 &&& (2147483647 : Int32)) % ((p1 &&& (3 : Int32)) + (1 : Int32)))), .val (.ref b133), .val (.int (if (0 : Int32) = (0 : Int32) then (1 : Int32) else (0 : Int32))), .unset, .unset] []))
          refine own_aload X148 hx (hb hby at_102) rfl rfl ?_
          refine own_virtual X148 hx hZ hown (y := (⟨"com/example/kache/kache/store/ListValue", "isEmpty", "()Z"⟩ : MethodName)) (z := (⟨"com/example/kache/kache/store/ListValue", "isEmpty", "()Z"⟩ : MethodName)) (hw _ (List.mem_of_getElem? (i := 14) rfl)) (hw _ (List.mem_of_getElem? (i := 15) rfl)) (notFace_of_selects (args := #[]) (mvT hZ (hw _ (List.mem_of_getElem? (i := 17) rfl)))) (hw _ (List.mem_of_getElem? (i := 17) rfl)) (hw _ (List.mem_of_getElem? (i := 16) rfl)) (hw _ (List.mem_of_getElem? (i := 3) rfl)) (hw _ (List.mem_of_getElem? (i := 18) rfl)) (a := b133) r148_0 (by decide) (W := 0) (by decide) (by decide) N148 rfl (by rw [hml]; rfl) (argsL := []) (rest := []) (lenOf pd_8 rfl) (Nat.le_of_eq rfl) (by decide) (by decide) (rm3 l Z a0 hw [] b133 ((((0 : Int32) + (1 : Int32)) + (1 : Int32)) + (1 : Int32)) T148.heap n0 O149 r148_3) rfl (hb hby at_104) ?_
          intro v150 T150 lc150 X150 N150 hQ150
          obtain ⟨rfl, e150⟩ := hQ150
          show Goes _ _ _ _ _ _ (T150.setTop (mkF m 107 #[.val (.int p1), .val (.int p2), .val (.int p3), .val (.int (p1 &&& (3 : Int32))), .val (.int ((p2 &&& (2147483647 : Int32)) % ((p1 &&& (3 : Int32)) + (1 : Int32)))), .val (.ref b133), .val (.int (if (0 : Int32) = (0 : Int32) then (1 : Int32) else (0 : Int32))), .unset, .unset] [(.int (if ((((0 : Int32) + (1 : Int32)) + (1 : Int32)) + (1 : Int32)) = (0 : Int32) then (1 : Int32) else (0 : Int32)))]))
          refine own_istore X150 hx (Ls' := #[.val (.int p1), .val (.int p2), .val (.int p3), .val (.int (p1 &&& (3 : Int32))), .val (.int ((p2 &&& (2147483647 : Int32)) % ((p1 &&& (3 : Int32)) + (1 : Int32)))), .val (.ref b133), .val (.int (if (0 : Int32) = (0 : Int32) then (1 : Int32) else (0 : Int32))), .val (.int (if ((((0 : Int32) + (1 : Int32)) + (1 : Int32)) + (1 : Int32)) = (0 : Int32) then (1 : Int32) else (0 : Int32))), .unset]) (hb hby at_107) rfl ?_
          refine own_iload X150 hx (hb hby at_109) rfl ?_
          refine own_iconst X150 hx (v := (1 : Int32)) (hb hby at_111) rfl ?_
          refine own_icmpNo X150 hx (hb hby at_112) (flt ((by first | (rw [hcr]; done) | (rw [hcr]; decide)) : ¬ (((p2 &&& (2147483647 : Int32)) % ((p1 &&& (3 : Int32)) + (1 : Int32))) < (1 : Int32)))).1 ?_
          show Goes _ _ _ _ _ _ (T150.setTop (mkF m 115 #[.val (.int p1), .val (.int p2), .val (.int p3), .val (.int (p1 &&& (3 : Int32))), .val (.int ((p2 &&& (2147483647 : Int32)) % ((p1 &&& (3 : Int32)) + (1 : Int32)))), .val (.ref b133), .val (.int (if (0 : Int32) = (0 : Int32) then (1 : Int32) else (0 : Int32))), .val (.int (if ((((0 : Int32) + (1 : Int32)) + (1 : Int32)) + (1 : Int32)) = (0 : Int32) then (1 : Int32) else (0 : Int32))), .unset] []))
          refine own_aload X150 hx (hb hby at_115) rfl rfl ?_
          refine own_iloadN X150 hx (hb hby at_117) rfl ?_
          refine own_bipush X150 hx (v := (8 : Int32)) (hb hby at_118) rfl ?_
          refine own_iand X150 hx (hb hby at_120) ?_
          show Goes _ _ _ _ _ _ (T150.setTop (mkF m 121 #[.val (.int p1), .val (.int p2), .val (.int p3), .val (.int (p1 &&& (3 : Int32))), .val (.int ((p2 &&& (2147483647 : Int32)) % ((p1 &&& (3 : Int32)) + (1 : Int32)))), .val (.ref b133), .val (.int (if (0 : Int32) = (0 : Int32) then (1 : Int32) else (0 : Int32))), .val (.int (if ((((0 : Int32) + (1 : Int32)) + (1 : Int32)) + (1 : Int32)) = (0 : Int32) then (1 : Int32) else (0 : Int32))), .unset] [(.int (p3 &&& (8 : Int32))), (.ref b133)]))
          have jn129_152 : ∀ (T152 : State) (lc152 : List Loc) (X152 : Stand p l e room_1 (s.setVm T148.vm) m #[(.int p1), (.int p2), (.int p3)] below meth c T152 lc152 11 110) (N152 : Fr n0 lc152) (e152 : T152.heap = T148.heap) (w152 : Int32) (hj152 : True), Goes p e below (fun o t L => ReturnedEndW s o t L (24) (1152)) n0 (Q0 Z p1 p2 p3 h0 n0) (T152.setTop (mkF m 129 #[.val (.int p1), .val (.int p2), .val (.int p3), .val (.int (p1 &&& (3 : Int32))), .val (.int ((p2 &&& (2147483647 : Int32)) % ((p1 &&& (3 : Int32)) + (1 : Int32)))), .val (.ref b133), .val (.int (if (0 : Int32) = (0 : Int32) then (1 : Int32) else (0 : Int32))), .val (.int (if ((((0 : Int32) + (1 : Int32)) + (1 : Int32)) + (1 : Int32)) = (0 : Int32) then (1 : Int32) else (0 : Int32))), .unset] [(.int w152), (.ref b133)])) := by
            intro T152 lc152 X152 N152 e152 w152 hj152
            show Goes _ _ _ _ _ _ (T152.setTop (mkF m 129 #[.val (.int p1), .val (.int p2), .val (.int p3), .val (.int (p1 &&& (3 : Int32))), .val (.int ((p2 &&& (2147483647 : Int32)) % ((p1 &&& (3 : Int32)) + (1 : Int32)))), .val (.ref b133), .val (.int (if (0 : Int32) = (0 : Int32) then (1 : Int32) else (0 : Int32))), .val (.int (if ((((0 : Int32) + (1 : Int32)) + (1 : Int32)) + (1 : Int32)) = (0 : Int32) then (1 : Int32) else (0 : Int32))), .unset] [(.int w152), (.ref b133)]))
            refine own_callS X152 hx hZ hown (y := (⟨"com/example/kache/kache/store/ListValueIsEmptyPinLaw", "removeOne", "(Lcom/example/kache/kache/store/ListValue;Z)V"⟩ : MethodName)) (hw _ (List.mem_of_getElem? (i := 58) rfl)) (hw _ (List.mem_of_getElem? (i := 59) rfl)) (hw _ (List.mem_of_getElem? (i := 23) rfl)) (hw _ (List.mem_of_getElem? (i := 60) rfl)) (by decide) (W := 0) (by decide) (by decide) N152 e152 (by rw [hml]; rfl) (argsL := [(.ref b133), (.int w152)]) (rest := []) (lenOf pd_10 rfl) (Nat.le_of_eq rfl) (by decide) (by decide) (rm10 l Z a0 hw [] b133 w152 r_135 hd2_148 ((((0 : Int32) + (1 : Int32)) + (1 : Int32)) + (1 : Int32)) k_135 vs2_148 T148.heap n0 O149 r148_0 r148_1 r148_2 r148_3 r148_4 r148_5 ge_b133 ge_r_135 r148_6 r135_6 (by first | assumption | decide | exact ⟨rfl, rfl⟩)) rfl (hb hby at_129) ?_
            intro v153 T153 lc153 X153 N153 hQ153
            obtain ⟨hd2_153, vs2_153, rfl, K153, r153_0, r153_1, r153_2, r153_3, r153_4, r153_5, r153_6⟩ := hQ153
            have O154 := O149.keep K153 (allS ge_b133 (allS ge_r_135 all0))
            have hk154 := Nat.le_trans hk148_ K153.1
            show Goes _ _ _ _ _ _ (T153.setTop (mkF m 132 #[.val (.int p1), .val (.int p2), .val (.int p3), .val (.int (p1 &&& (3 : Int32))), .val (.int ((p2 &&& (2147483647 : Int32)) % ((p1 &&& (3 : Int32)) + (1 : Int32)))), .val (.ref b133), .val (.int (if (0 : Int32) = (0 : Int32) then (1 : Int32) else (0 : Int32))), .val (.int (if ((((0 : Int32) + (1 : Int32)) + (1 : Int32)) + (1 : Int32)) = (0 : Int32) then (1 : Int32) else (0 : Int32))), .unset] []))
            refine own_iload X153 hx (hb hby at_132) rfl ?_
            refine own_iconst X153 hx (v := (2 : Int32)) (hb hby at_134) rfl ?_
            refine own_icmpNo X153 hx (hb hby at_135) (flt ((by first | (rw [hcr]; done) | (rw [hcr]; decide)) : ¬ (((p2 &&& (2147483647 : Int32)) % ((p1 &&& (3 : Int32)) + (1 : Int32))) < (2 : Int32)))).1 ?_
            show Goes _ _ _ _ _ _ (T153.setTop (mkF m 138 #[.val (.int p1), .val (.int p2), .val (.int p3), .val (.int (p1 &&& (3 : Int32))), .val (.int ((p2 &&& (2147483647 : Int32)) % ((p1 &&& (3 : Int32)) + (1 : Int32)))), .val (.ref b133), .val (.int (if (0 : Int32) = (0 : Int32) then (1 : Int32) else (0 : Int32))), .val (.int (if ((((0 : Int32) + (1 : Int32)) + (1 : Int32)) + (1 : Int32)) = (0 : Int32) then (1 : Int32) else (0 : Int32))), .unset] []))
            refine own_aload X153 hx (hb hby at_138) rfl rfl ?_
            refine own_iloadN X153 hx (hb hby at_140) rfl ?_
            refine own_bipush X153 hx (v := (16 : Int32)) (hb hby at_141) rfl ?_
            refine own_iand X153 hx (hb hby at_143) ?_
            show Goes _ _ _ _ _ _ (T153.setTop (mkF m 144 #[.val (.int p1), .val (.int p2), .val (.int p3), .val (.int (p1 &&& (3 : Int32))), .val (.int ((p2 &&& (2147483647 : Int32)) % ((p1 &&& (3 : Int32)) + (1 : Int32)))), .val (.ref b133), .val (.int (if (0 : Int32) = (0 : Int32) then (1 : Int32) else (0 : Int32))), .val (.int (if ((((0 : Int32) + (1 : Int32)) + (1 : Int32)) + (1 : Int32)) = (0 : Int32) then (1 : Int32) else (0 : Int32))), .unset] [(.int (p3 &&& (16 : Int32))), (.ref b133)]))
            have jn152_156 : ∀ (T156 : State) (lc156 : List Loc) (X156 : Stand p l e room_1 (s.setVm T148.vm) m #[(.int p1), (.int p2), (.int p3)] below meth c T156 lc156 11 110) (N156 : Fr n0 lc156) (e156 : T156.heap = T153.heap) (w156 : Int32) (hj156 : True), Goes p e below (fun o t L => ReturnedEndW s o t L (24) (1152)) n0 (Q0 Z p1 p2 p3 h0 n0) (T156.setTop (mkF m 152 #[.val (.int p1), .val (.int p2), .val (.int p3), .val (.int (p1 &&& (3 : Int32))), .val (.int ((p2 &&& (2147483647 : Int32)) % ((p1 &&& (3 : Int32)) + (1 : Int32)))), .val (.ref b133), .val (.int (if (0 : Int32) = (0 : Int32) then (1 : Int32) else (0 : Int32))), .val (.int (if ((((0 : Int32) + (1 : Int32)) + (1 : Int32)) + (1 : Int32)) = (0 : Int32) then (1 : Int32) else (0 : Int32))), .unset] [(.int w156), (.ref b133)])) := by
              intro T156 lc156 X156 N156 e156 w156 hj156
              show Goes _ _ _ _ _ _ (T156.setTop (mkF m 152 #[.val (.int p1), .val (.int p2), .val (.int p3), .val (.int (p1 &&& (3 : Int32))), .val (.int ((p2 &&& (2147483647 : Int32)) % ((p1 &&& (3 : Int32)) + (1 : Int32)))), .val (.ref b133), .val (.int (if (0 : Int32) = (0 : Int32) then (1 : Int32) else (0 : Int32))), .val (.int (if ((((0 : Int32) + (1 : Int32)) + (1 : Int32)) + (1 : Int32)) = (0 : Int32) then (1 : Int32) else (0 : Int32))), .unset] [(.int w156), (.ref b133)]))
              refine own_callS X156 hx hZ hown (y := (⟨"com/example/kache/kache/store/ListValueIsEmptyPinLaw", "removeOne", "(Lcom/example/kache/kache/store/ListValue;Z)V"⟩ : MethodName)) (hw _ (List.mem_of_getElem? (i := 58) rfl)) (hw _ (List.mem_of_getElem? (i := 59) rfl)) (hw _ (List.mem_of_getElem? (i := 23) rfl)) (hw _ (List.mem_of_getElem? (i := 60) rfl)) (by decide) (W := 0) (by decide) (by decide) N156 e156 (by rw [hml]; rfl) (argsL := [(.ref b133), (.int w156)]) (rest := []) (lenOf pd_10 rfl) (Nat.le_of_eq rfl) (by decide) (by decide) (rm10 l Z a0 hw [] b133 w156 r_135 hd2_153 (((((0 : Int32) + (1 : Int32)) + (1 : Int32)) + (1 : Int32)) - (1 : Int32)) k_135 vs2_153 T153.heap n0 O154 r153_0 r153_1 r153_2 r153_3 r153_4 r153_5 ge_b133 ge_r_135 r153_6 r135_6 (by first | assumption | decide | exact ⟨rfl, rfl⟩)) rfl (hb hby at_152) ?_
              intro v157 T157 lc157 X157 N157 hQ157
              obtain ⟨hd2_157, vs2_157, rfl, K157, r157_0, r157_1, r157_2, r157_3, r157_4, r157_5, r157_6⟩ := hQ157
              have O158 := O154.keep K157 (allS ge_b133 (allS ge_r_135 all0))
              have hk158 := Nat.le_trans hk154 K157.1
              show Goes _ _ _ _ _ _ (T157.setTop (mkF m 155 #[.val (.int p1), .val (.int p2), .val (.int p3), .val (.int (p1 &&& (3 : Int32))), .val (.int ((p2 &&& (2147483647 : Int32)) % ((p1 &&& (3 : Int32)) + (1 : Int32)))), .val (.ref b133), .val (.int (if (0 : Int32) = (0 : Int32) then (1 : Int32) else (0 : Int32))), .val (.int (if ((((0 : Int32) + (1 : Int32)) + (1 : Int32)) + (1 : Int32)) = (0 : Int32) then (1 : Int32) else (0 : Int32))), .unset] []))
              refine own_iload X157 hx (hb hby at_155) rfl ?_
              refine own_iconst X157 hx (v := (3 : Int32)) (hb hby at_157) rfl ?_
              refine own_icmpYes X157 hx (pc' := 178) (hb hby at_158) (tlt ((by first | (rw [hcr]; done) | (rw [hcr]; decide)) : ((p2 &&& (2147483647 : Int32)) % ((p1 &&& (3 : Int32)) + (1 : Int32))) < (3 : Int32))).1 (by decide) (by decide) ?_
              show Goes _ _ _ _ _ _ (T157.setTop (mkF m 178 #[.val (.int p1), .val (.int p2), .val (.int p3), .val (.int (p1 &&& (3 : Int32))), .val (.int ((p2 &&& (2147483647 : Int32)) % ((p1 &&& (3 : Int32)) + (1 : Int32)))), .val (.ref b133), .val (.int (if (0 : Int32) = (0 : Int32) then (1 : Int32) else (0 : Int32))), .val (.int (if ((((0 : Int32) + (1 : Int32)) + (1 : Int32)) + (1 : Int32)) = (0 : Int32) then (1 : Int32) else (0 : Int32))), .unset] []))
              refine own_aload X157 hx (hb hby at_178) rfl rfl ?_
              refine own_virtual X157 hx hZ hown (y := (⟨"com/example/kache/kache/store/ListValue", "isEmpty", "()Z"⟩ : MethodName)) (z := (⟨"com/example/kache/kache/store/ListValue", "isEmpty", "()Z"⟩ : MethodName)) (hw _ (List.mem_of_getElem? (i := 14) rfl)) (hw _ (List.mem_of_getElem? (i := 15) rfl)) (notFace_of_selects (args := #[]) (mvT hZ (hw _ (List.mem_of_getElem? (i := 17) rfl)))) (hw _ (List.mem_of_getElem? (i := 17) rfl)) (hw _ (List.mem_of_getElem? (i := 16) rfl)) (hw _ (List.mem_of_getElem? (i := 3) rfl)) (hw _ (List.mem_of_getElem? (i := 18) rfl)) (a := b133) r157_0 (by decide) (W := 0) (by decide) (by decide) N157 rfl (by rw [hml]; rfl) (argsL := []) (rest := []) (lenOf pd_8 rfl) (Nat.le_of_eq rfl) (by decide) (by decide) (rm3 l Z a0 hw [] b133 ((((((0 : Int32) + (1 : Int32)) + (1 : Int32)) + (1 : Int32)) - (1 : Int32)) - (1 : Int32)) T157.heap n0 O158 r157_3) rfl (hb hby at_180) ?_
              intro v159 T159 lc159 X159 N159 hQ159
              obtain ⟨rfl, e159⟩ := hQ159
              show Goes _ _ _ _ _ _ (T159.setTop (mkF m 183 #[.val (.int p1), .val (.int p2), .val (.int p3), .val (.int (p1 &&& (3 : Int32))), .val (.int ((p2 &&& (2147483647 : Int32)) % ((p1 &&& (3 : Int32)) + (1 : Int32)))), .val (.ref b133), .val (.int (if (0 : Int32) = (0 : Int32) then (1 : Int32) else (0 : Int32))), .val (.int (if ((((0 : Int32) + (1 : Int32)) + (1 : Int32)) + (1 : Int32)) = (0 : Int32) then (1 : Int32) else (0 : Int32))), .unset] [(.int (if ((((((0 : Int32) + (1 : Int32)) + (1 : Int32)) + (1 : Int32)) - (1 : Int32)) - (1 : Int32)) = (0 : Int32) then (1 : Int32) else (0 : Int32)))]))
              refine own_istore X159 hx (Ls' := #[.val (.int p1), .val (.int p2), .val (.int p3), .val (.int (p1 &&& (3 : Int32))), .val (.int ((p2 &&& (2147483647 : Int32)) % ((p1 &&& (3 : Int32)) + (1 : Int32)))), .val (.ref b133), .val (.int (if (0 : Int32) = (0 : Int32) then (1 : Int32) else (0 : Int32))), .val (.int (if ((((0 : Int32) + (1 : Int32)) + (1 : Int32)) + (1 : Int32)) = (0 : Int32) then (1 : Int32) else (0 : Int32))), .val (.int (if ((((((0 : Int32) + (1 : Int32)) + (1 : Int32)) + (1 : Int32)) - (1 : Int32)) - (1 : Int32)) = (0 : Int32) then (1 : Int32) else (0 : Int32)))]) (hb hby at_183) rfl ?_
              refine own_iload X159 hx (hb hby at_185) rfl ?_
              refine own_ifNo X159 hx (hb hby at_187) ((if0 _ _).trans (feq ((own_bnz (not_not_intro (by decide))) : ¬ ((if (0 : Int32) = (0 : Int32) then (1 : Int32) else (0 : Int32)) = (0 : Int32)))).1) ?_
              show Goes _ _ _ _ _ _ (T159.setTop (mkF m 190 #[.val (.int p1), .val (.int p2), .val (.int p3), .val (.int (p1 &&& (3 : Int32))), .val (.int ((p2 &&& (2147483647 : Int32)) % ((p1 &&& (3 : Int32)) + (1 : Int32)))), .val (.ref b133), .val (.int (if (0 : Int32) = (0 : Int32) then (1 : Int32) else (0 : Int32))), .val (.int (if ((((0 : Int32) + (1 : Int32)) + (1 : Int32)) + (1 : Int32)) = (0 : Int32) then (1 : Int32) else (0 : Int32))), .val (.int (if ((((((0 : Int32) + (1 : Int32)) + (1 : Int32)) + (1 : Int32)) - (1 : Int32)) - (1 : Int32)) = (0 : Int32) then (1 : Int32) else (0 : Int32)))] []))
              refine own_iload X159 hx (hb hby at_190) rfl ?_
              refine own_iloadN X159 hx (hb hby at_192) rfl ?_
              refine own_ifYes X159 hx (pc' := 200) (hb hby at_193) ((if0 _ _).trans (feq ((by first | (rw [hca]; done) | (rw [hca]; decide)) : ¬ ((p1 &&& (3 : Int32)) = (0 : Int32)))).2) (by decide) (by decide) ?_
              show Goes _ _ _ _ _ _ (T159.setTop (mkF m 200 #[.val (.int p1), .val (.int p2), .val (.int p3), .val (.int (p1 &&& (3 : Int32))), .val (.int ((p2 &&& (2147483647 : Int32)) % ((p1 &&& (3 : Int32)) + (1 : Int32)))), .val (.ref b133), .val (.int (if (0 : Int32) = (0 : Int32) then (1 : Int32) else (0 : Int32))), .val (.int (if ((((0 : Int32) + (1 : Int32)) + (1 : Int32)) + (1 : Int32)) = (0 : Int32) then (1 : Int32) else (0 : Int32))), .val (.int (if ((((((0 : Int32) + (1 : Int32)) + (1 : Int32)) + (1 : Int32)) - (1 : Int32)) - (1 : Int32)) = (0 : Int32) then (1 : Int32) else (0 : Int32)))] [(.int (if ((((0 : Int32) + (1 : Int32)) + (1 : Int32)) + (1 : Int32)) = (0 : Int32) then (1 : Int32) else (0 : Int32)))]))
              refine own_iconst X159 hx (v := (0 : Int32)) (hb hby at_200) rfl ?_
              refine own_icmpNo X159 hx (hb hby at_201) (teq ((by first | (rw [if_neg (show ¬ (((((0 : Int32) + (1 : Int32)) + (1 : Int32)) + (1 : Int32)) = (0 : Int32)) by decide)]; done) | (rw [if_neg (show ¬ (((((0 : Int32) + (1 : Int32)) + (1 : Int32)) + (1 : Int32)) = (0 : Int32)) by decide)]; decide)) : (if ((((0 : Int32) + (1 : Int32)) + (1 : Int32)) + (1 : Int32)) = (0 : Int32) then (1 : Int32) else (0 : Int32)) = (0 : Int32))).2 ?_
              show Goes _ _ _ _ _ _ (T159.setTop (mkF m 204 #[.val (.int p1), .val (.int p2), .val (.int p3), .val (.int (p1 &&& (3 : Int32))), .val (.int ((p2 &&& (2147483647 : Int32)) % ((p1 &&& (3 : Int32)) + (1 : Int32)))), .val (.ref b133), .val (.int (if (0 : Int32) = (0 : Int32) then (1 : Int32) else (0 : Int32))), .val (.int (if ((((0 : Int32) + (1 : Int32)) + (1 : Int32)) + (1 : Int32)) = (0 : Int32) then (1 : Int32) else (0 : Int32))), .val (.int (if ((((((0 : Int32) + (1 : Int32)) + (1 : Int32)) + (1 : Int32)) - (1 : Int32)) - (1 : Int32)) = (0 : Int32) then (1 : Int32) else (0 : Int32)))] []))
              refine own_iload X159 hx (hb hby at_204) rfl ?_
              refine own_iloadN X159 hx (hb hby at_206) rfl ?_
              refine own_iload X159 hx (hb hby at_207) rfl ?_
              refine own_icmpYes X159 hx (pc' := 216) (hb hby at_209) (feq ((by first | (rw [hca, hcr]; done) | (rw [hca, hcr]; decide) | (rw [hcr, hca]; done) | (rw [hcr, hca]; decide)) : ¬ ((p1 &&& (3 : Int32)) = ((p2 &&& (2147483647 : Int32)) % ((p1 &&& (3 : Int32)) + (1 : Int32)))))).2 (by decide) (by decide) ?_
              show Goes _ _ _ _ _ _ (T159.setTop (mkF m 216 #[.val (.int p1), .val (.int p2), .val (.int p3), .val (.int (p1 &&& (3 : Int32))), .val (.int ((p2 &&& (2147483647 : Int32)) % ((p1 &&& (3 : Int32)) + (1 : Int32)))), .val (.ref b133), .val (.int (if (0 : Int32) = (0 : Int32) then (1 : Int32) else (0 : Int32))), .val (.int (if ((((0 : Int32) + (1 : Int32)) + (1 : Int32)) + (1 : Int32)) = (0 : Int32) then (1 : Int32) else (0 : Int32))), .val (.int (if ((((((0 : Int32) + (1 : Int32)) + (1 : Int32)) + (1 : Int32)) - (1 : Int32)) - (1 : Int32)) = (0 : Int32) then (1 : Int32) else (0 : Int32)))] [(.int (if ((((((0 : Int32) + (1 : Int32)) + (1 : Int32)) + (1 : Int32)) - (1 : Int32)) - (1 : Int32)) = (0 : Int32) then (1 : Int32) else (0 : Int32)))]))
              refine own_iconst X159 hx (v := (0 : Int32)) (hb hby at_216) rfl ?_
              refine own_icmpNo X159 hx (hb hby at_217) (teq ((by first | (rw [if_neg (show ¬ (((((((0 : Int32) + (1 : Int32)) + (1 : Int32)) + (1 : Int32)) - (1 : Int32)) - (1 : Int32)) = (0 : Int32)) by decide)]; done) | (rw [if_neg (show ¬ (((((((0 : Int32) + (1 : Int32)) + (1 : Int32)) + (1 : Int32)) - (1 : Int32)) - (1 : Int32)) = (0 : Int32)) by decide)]; decide)) : (if ((((((0 : Int32) + (1 : Int32)) + (1 : Int32)) + (1 : Int32)) - (1 : Int32)) - (1 : Int32)) = (0 : Int32) then (1 : Int32) else (0 : Int32)) = (0 : Int32))).2 ?_
              show Goes _ _ _ _ _ _ (T159.setTop (mkF m 220 #[.val (.int p1), .val (.int p2), .val (.int p3), .val (.int (p1 &&& (3 : Int32))), .val (.int ((p2 &&& (2147483647 : Int32)) % ((p1 &&& (3 : Int32)) + (1 : Int32)))), .val (.ref b133), .val (.int (if (0 : Int32) = (0 : Int32) then (1 : Int32) else (0 : Int32))), .val (.int (if ((((0 : Int32) + (1 : Int32)) + (1 : Int32)) + (1 : Int32)) = (0 : Int32) then (1 : Int32) else (0 : Int32))), .val (.int (if ((((((0 : Int32) + (1 : Int32)) + (1 : Int32)) + (1 : Int32)) - (1 : Int32)) - (1 : Int32)) = (0 : Int32) then (1 : Int32) else (0 : Int32)))] []))
              refine own_iconst X159 hx (v := (1 : Int32)) (hb hby at_220) rfl ?_
              refine own_goto X159 hx (pc' := 225) (hb hby at_221) (by decide) (by decide) ?_
              show Goes _ _ _ _ _ _ (T159.setTop (mkF m 225 #[.val (.int p1), .val (.int p2), .val (.int p3), .val (.int (p1 &&& (3 : Int32))), .val (.int ((p2 &&& (2147483647 : Int32)) % ((p1 &&& (3 : Int32)) + (1 : Int32)))), .val (.ref b133), .val (.int (if (0 : Int32) = (0 : Int32) then (1 : Int32) else (0 : Int32))), .val (.int (if ((((0 : Int32) + (1 : Int32)) + (1 : Int32)) + (1 : Int32)) = (0 : Int32) then (1 : Int32) else (0 : Int32))), .val (.int (if ((((((0 : Int32) + (1 : Int32)) + (1 : Int32)) + (1 : Int32)) - (1 : Int32)) - (1 : Int32)) = (0 : Int32) then (1 : Int32) else (0 : Int32)))] [(.int (1 : Int32))]))
              exact own_retNW X159 hx (t := .boolean) hS148 (by rw [e159]; exact hk158) N159 hlk (by decide) (by decide) hret (by simp) (hb hby at_225) (by rw [e159]; exact rfl)
            by_cases hc144_155 : (p3 &&& (16 : Int32)) = (0 : Int32)
            ·
              refine own_ifYes X153 hx (pc' := 151) (hb hby at_144) ((if0 _ _).trans (teq (hc144_155 : (p3 &&& (16 : Int32)) = (0 : Int32))).1) (by decide) (by decide) ?_
              show Goes _ _ _ _ _ _ (T153.setTop (mkF m 151 #[.val (.int p1), .val (.int p2), .val (.int p3), .val (.int (p1 &&& (3 : Int32))), .val (.int ((p2 &&& (2147483647 : Int32)) % ((p1 &&& (3 : Int32)) + (1 : Int32)))), .val (.ref b133), .val (.int (if (0 : Int32) = (0 : Int32) then (1 : Int32) else (0 : Int32))), .val (.int (if ((((0 : Int32) + (1 : Int32)) + (1 : Int32)) + (1 : Int32)) = (0 : Int32) then (1 : Int32) else (0 : Int32))), .unset] [(.ref b133)]))
              refine own_iconst X153 hx (v := (0 : Int32)) (hb hby at_151) rfl ?_
              show Goes _ _ _ _ _ _ (T153.setTop (mkF m 152 #[.val (.int p1), .val (.int p2), .val (.int p3), .val (.int (p1 &&& (3 : Int32))), .val (.int ((p2 &&& (2147483647 : Int32)) % ((p1 &&& (3 : Int32)) + (1 : Int32)))), .val (.ref b133), .val (.int (if (0 : Int32) = (0 : Int32) then (1 : Int32) else (0 : Int32))), .val (.int (if ((((0 : Int32) + (1 : Int32)) + (1 : Int32)) + (1 : Int32)) = (0 : Int32) then (1 : Int32) else (0 : Int32))), .unset] [(.int (0 : Int32)), (.ref b133)]))
              exact jn152_156 T153 _ X153 N153 rfl (0 : Int32) trivial
            ·
              refine own_ifNo X153 hx (hb hby at_144) ((if0 _ _).trans (feq (hc144_155 : ¬ ((p3 &&& (16 : Int32)) = (0 : Int32)))).1) ?_
              show Goes _ _ _ _ _ _ (T153.setTop (mkF m 147 #[.val (.int p1), .val (.int p2), .val (.int p3), .val (.int (p1 &&& (3 : Int32))), .val (.int ((p2 &&& (2147483647 : Int32)) % ((p1 &&& (3 : Int32)) + (1 : Int32)))), .val (.ref b133), .val (.int (if (0 : Int32) = (0 : Int32) then (1 : Int32) else (0 : Int32))), .val (.int (if ((((0 : Int32) + (1 : Int32)) + (1 : Int32)) + (1 : Int32)) = (0 : Int32) then (1 : Int32) else (0 : Int32))), .unset] [(.ref b133)]))
              refine own_iconst X153 hx (v := (1 : Int32)) (hb hby at_147) rfl ?_
              refine own_goto X153 hx (pc' := 152) (hb hby at_148) (by decide) (by decide) ?_
              show Goes _ _ _ _ _ _ (T153.setTop (mkF m 152 #[.val (.int p1), .val (.int p2), .val (.int p3), .val (.int (p1 &&& (3 : Int32))), .val (.int ((p2 &&& (2147483647 : Int32)) % ((p1 &&& (3 : Int32)) + (1 : Int32)))), .val (.ref b133), .val (.int (if (0 : Int32) = (0 : Int32) then (1 : Int32) else (0 : Int32))), .val (.int (if ((((0 : Int32) + (1 : Int32)) + (1 : Int32)) + (1 : Int32)) = (0 : Int32) then (1 : Int32) else (0 : Int32))), .unset] [(.int (1 : Int32)), (.ref b133)]))
              exact jn152_156 T153 _ X153 N153 rfl (1 : Int32) trivial
          by_cases hc121_151 : (p3 &&& (8 : Int32)) = (0 : Int32)
          ·
            refine own_ifYes X150 hx (pc' := 128) (hb hby at_121) ((if0 _ _).trans (teq (hc121_151 : (p3 &&& (8 : Int32)) = (0 : Int32))).1) (by decide) (by decide) ?_
            show Goes _ _ _ _ _ _ (T150.setTop (mkF m 128 #[.val (.int p1), .val (.int p2), .val (.int p3), .val (.int (p1 &&& (3 : Int32))), .val (.int ((p2 &&& (2147483647 : Int32)) % ((p1 &&& (3 : Int32)) + (1 : Int32)))), .val (.ref b133), .val (.int (if (0 : Int32) = (0 : Int32) then (1 : Int32) else (0 : Int32))), .val (.int (if ((((0 : Int32) + (1 : Int32)) + (1 : Int32)) + (1 : Int32)) = (0 : Int32) then (1 : Int32) else (0 : Int32))), .unset] [(.ref b133)]))
            refine own_iconst X150 hx (v := (0 : Int32)) (hb hby at_128) rfl ?_
            show Goes _ _ _ _ _ _ (T150.setTop (mkF m 129 #[.val (.int p1), .val (.int p2), .val (.int p3), .val (.int (p1 &&& (3 : Int32))), .val (.int ((p2 &&& (2147483647 : Int32)) % ((p1 &&& (3 : Int32)) + (1 : Int32)))), .val (.ref b133), .val (.int (if (0 : Int32) = (0 : Int32) then (1 : Int32) else (0 : Int32))), .val (.int (if ((((0 : Int32) + (1 : Int32)) + (1 : Int32)) + (1 : Int32)) = (0 : Int32) then (1 : Int32) else (0 : Int32))), .unset] [(.int (0 : Int32)), (.ref b133)]))
            exact jn129_152 T150 _ X150 N150 e150 (0 : Int32) trivial
          ·
            refine own_ifNo X150 hx (hb hby at_121) ((if0 _ _).trans (feq (hc121_151 : ¬ ((p3 &&& (8 : Int32)) = (0 : Int32)))).1) ?_
            show Goes _ _ _ _ _ _ (T150.setTop (mkF m 124 #[.val (.int p1), .val (.int p2), .val (.int p3), .val (.int (p1 &&& (3 : Int32))), .val (.int ((p2 &&& (2147483647 : Int32)) % ((p1 &&& (3 : Int32)) + (1 : Int32)))), .val (.ref b133), .val (.int (if (0 : Int32) = (0 : Int32) then (1 : Int32) else (0 : Int32))), .val (.int (if ((((0 : Int32) + (1 : Int32)) + (1 : Int32)) + (1 : Int32)) = (0 : Int32) then (1 : Int32) else (0 : Int32))), .unset] [(.ref b133)]))
            refine own_iconst X150 hx (v := (1 : Int32)) (hb hby at_124) rfl ?_
            refine own_goto X150 hx (pc' := 129) (hb hby at_125) (by decide) (by decide) ?_
            show Goes _ _ _ _ _ _ (T150.setTop (mkF m 129 #[.val (.int p1), .val (.int p2), .val (.int p3), .val (.int (p1 &&& (3 : Int32))), .val (.int ((p2 &&& (2147483647 : Int32)) % ((p1 &&& (3 : Int32)) + (1 : Int32)))), .val (.ref b133), .val (.int (if (0 : Int32) = (0 : Int32) then (1 : Int32) else (0 : Int32))), .val (.int (if ((((0 : Int32) + (1 : Int32)) + (1 : Int32)) + (1 : Int32)) = (0 : Int32) then (1 : Int32) else (0 : Int32))), .unset] [(.int (1 : Int32)), (.ref b133)]))
            exact jn129_152 T150 _ X150 N150 e150 (1 : Int32) trivial
        by_cases hc87_146 : (p3 &&& (4 : Int32)) = (0 : Int32)
        ·
          refine own_ifYes X144 hx (pc' := 94) (hb hby at_87) ((if0 _ _).trans (teq (hc87_146 : (p3 &&& (4 : Int32)) = (0 : Int32))).1) (by decide) (by decide) ?_
          show Goes _ _ _ _ _ _ (T144.setTop (mkF m 94 #[.val (.int p1), .val (.int p2), .val (.int p3), .val (.int (p1 &&& (3 : Int32))), .val (.int ((p2 &&& (2147483647 : Int32)) % ((p1 &&& (3 : Int32)) + (1 : Int32)))), .val (.ref b133), .val (.int (if (0 : Int32) = (0 : Int32) then (1 : Int32) else (0 : Int32))), .unset, .unset] [(.ref b133)]))
          refine own_iconst X144 hx (v := (0 : Int32)) (hb hby at_94) rfl ?_
          show Goes _ _ _ _ _ _ (T144.setTop (mkF m 95 #[.val (.int p1), .val (.int p2), .val (.int p3), .val (.int (p1 &&& (3 : Int32))), .val (.int ((p2 &&& (2147483647 : Int32)) % ((p1 &&& (3 : Int32)) + (1 : Int32)))), .val (.ref b133), .val (.int (if (0 : Int32) = (0 : Int32) then (1 : Int32) else (0 : Int32))), .unset, .unset] [(.int (0 : Int32)), (.ref b133)]))
          exact jn95_147 T144 _ X144 N144 rfl (0 : Int32) trivial
        ·
          refine own_ifNo X144 hx (hb hby at_87) ((if0 _ _).trans (feq (hc87_146 : ¬ ((p3 &&& (4 : Int32)) = (0 : Int32)))).1) ?_
          show Goes _ _ _ _ _ _ (T144.setTop (mkF m 90 #[.val (.int p1), .val (.int p2), .val (.int p3), .val (.int (p1 &&& (3 : Int32))), .val (.int ((p2 &&& (2147483647 : Int32)) % ((p1 &&& (3 : Int32)) + (1 : Int32)))), .val (.ref b133), .val (.int (if (0 : Int32) = (0 : Int32) then (1 : Int32) else (0 : Int32))), .unset, .unset] [(.ref b133)]))
          refine own_iconst X144 hx (v := (1 : Int32)) (hb hby at_90) rfl ?_
          refine own_goto X144 hx (pc' := 95) (hb hby at_91) (by decide) (by decide) ?_
          show Goes _ _ _ _ _ _ (T144.setTop (mkF m 95 #[.val (.int p1), .val (.int p2), .val (.int p3), .val (.int (p1 &&& (3 : Int32))), .val (.int ((p2 &&& (2147483647 : Int32)) % ((p1 &&& (3 : Int32)) + (1 : Int32)))), .val (.ref b133), .val (.int (if (0 : Int32) = (0 : Int32) then (1 : Int32) else (0 : Int32))), .unset, .unset] [(.int (1 : Int32)), (.ref b133)]))
          exact jn95_147 T144 _ X144 N144 rfl (1 : Int32) trivial
      by_cases hc62_142 : (p3 &&& (2 : Int32)) = (0 : Int32)
      ·
        refine own_ifYes X140 hx (pc' := 69) (hb hby at_62) ((if0 _ _).trans (teq (hc62_142 : (p3 &&& (2 : Int32)) = (0 : Int32))).1) (by decide) (by decide) ?_
        show Goes _ _ _ _ _ _ (T140.setTop (mkF m 69 #[.val (.int p1), .val (.int p2), .val (.int p3), .val (.int (p1 &&& (3 : Int32))), .val (.int ((p2 &&& (2147483647 : Int32)) % ((p1 &&& (3 : Int32)) + (1 : Int32)))), .val (.ref b133), .val (.int (if (0 : Int32) = (0 : Int32) then (1 : Int32) else (0 : Int32))), .unset, .unset] [(.ref b133)]))
        refine own_iconst X140 hx (v := (0 : Int32)) (hb hby at_69) rfl ?_
        show Goes _ _ _ _ _ _ (T140.setTop (mkF m 70 #[.val (.int p1), .val (.int p2), .val (.int p3), .val (.int (p1 &&& (3 : Int32))), .val (.int ((p2 &&& (2147483647 : Int32)) % ((p1 &&& (3 : Int32)) + (1 : Int32)))), .val (.ref b133), .val (.int (if (0 : Int32) = (0 : Int32) then (1 : Int32) else (0 : Int32))), .unset, .unset] [(.int (0 : Int32)), (.ref b133)]))
        exact jn70_143 T140 _ X140 N140 rfl (0 : Int32) trivial
      ·
        refine own_ifNo X140 hx (hb hby at_62) ((if0 _ _).trans (feq (hc62_142 : ¬ ((p3 &&& (2 : Int32)) = (0 : Int32)))).1) ?_
        show Goes _ _ _ _ _ _ (T140.setTop (mkF m 65 #[.val (.int p1), .val (.int p2), .val (.int p3), .val (.int (p1 &&& (3 : Int32))), .val (.int ((p2 &&& (2147483647 : Int32)) % ((p1 &&& (3 : Int32)) + (1 : Int32)))), .val (.ref b133), .val (.int (if (0 : Int32) = (0 : Int32) then (1 : Int32) else (0 : Int32))), .unset, .unset] [(.ref b133)]))
        refine own_iconst X140 hx (v := (1 : Int32)) (hb hby at_65) rfl ?_
        refine own_goto X140 hx (pc' := 70) (hb hby at_66) (by decide) (by decide) ?_
        show Goes _ _ _ _ _ _ (T140.setTop (mkF m 70 #[.val (.int p1), .val (.int p2), .val (.int p3), .val (.int (p1 &&& (3 : Int32))), .val (.int ((p2 &&& (2147483647 : Int32)) % ((p1 &&& (3 : Int32)) + (1 : Int32)))), .val (.ref b133), .val (.int (if (0 : Int32) = (0 : Int32) then (1 : Int32) else (0 : Int32))), .unset, .unset] [(.int (1 : Int32)), (.ref b133)]))
        exact jn70_143 T140 _ X140 N140 rfl (1 : Int32) trivial
    by_cases hc40_138 : (p3 &&& (1 : Int32)) = (0 : Int32)
    ·
      refine own_ifYes X137 hx (pc' := 47) (hb hby at_40) ((if0 _ _).trans (teq (hc40_138 : (p3 &&& (1 : Int32)) = (0 : Int32))).1) (by decide) (by decide) ?_
      show Goes _ _ _ _ _ _ (T137.setTop (mkF m 47 #[.val (.int p1), .val (.int p2), .val (.int p3), .val (.int (p1 &&& (3 : Int32))), .val (.int ((p2 &&& (2147483647 : Int32)) % ((p1 &&& (3 : Int32)) + (1 : Int32)))), .val (.ref b133), .val (.int (if (0 : Int32) = (0 : Int32) then (1 : Int32) else (0 : Int32))), .unset, .unset] [(.ref b133)]))
      refine own_iconst X137 hx (v := (0 : Int32)) (hb hby at_47) rfl ?_
      show Goes _ _ _ _ _ _ (T137.setTop (mkF m 48 #[.val (.int p1), .val (.int p2), .val (.int p3), .val (.int (p1 &&& (3 : Int32))), .val (.int ((p2 &&& (2147483647 : Int32)) % ((p1 &&& (3 : Int32)) + (1 : Int32)))), .val (.ref b133), .val (.int (if (0 : Int32) = (0 : Int32) then (1 : Int32) else (0 : Int32))), .unset, .unset] [(.int (0 : Int32)), (.ref b133)]))
      exact jn48_139 T137 _ X137 N137 e137 (0 : Int32) trivial
    ·
      refine own_ifNo X137 hx (hb hby at_40) ((if0 _ _).trans (feq (hc40_138 : ¬ ((p3 &&& (1 : Int32)) = (0 : Int32)))).1) ?_
      show Goes _ _ _ _ _ _ (T137.setTop (mkF m 43 #[.val (.int p1), .val (.int p2), .val (.int p3), .val (.int (p1 &&& (3 : Int32))), .val (.int ((p2 &&& (2147483647 : Int32)) % ((p1 &&& (3 : Int32)) + (1 : Int32)))), .val (.ref b133), .val (.int (if (0 : Int32) = (0 : Int32) then (1 : Int32) else (0 : Int32))), .unset, .unset] [(.ref b133)]))
      refine own_iconst X137 hx (v := (1 : Int32)) (hb hby at_43) rfl ?_
      refine own_goto X137 hx (pc' := 48) (hb hby at_44) (by decide) (by decide) ?_
      show Goes _ _ _ _ _ _ (T137.setTop (mkF m 48 #[.val (.int p1), .val (.int p2), .val (.int p3), .val (.int (p1 &&& (3 : Int32))), .val (.int ((p2 &&& (2147483647 : Int32)) % ((p1 &&& (3 : Int32)) + (1 : Int32)))), .val (.ref b133), .val (.int (if (0 : Int32) = (0 : Int32) then (1 : Int32) else (0 : Int32))), .unset, .unset] [(.int (1 : Int32)), (.ref b133)]))
      exact jn48_139 T137 _ X137 N137 e137 (1 : Int32) trivial
  ·
    show Goes _ _ _ _ _ _ (T0.setTop (mkF m 14 #[.val (.int p1), .val (.int p2), .val (.int p3), .val (.int (p1 &&& (3 : Int32))), .val (.int ((p2 &&& (2147483647 : Int32)) % ((p1 &&& (3 : Int32)) + (1 : Int32)))), .unset, .unset, .unset, .unset] []))
    refine own_new X0 hx hZ hown (hw _ (List.mem_of_getElem? (i := 1) rfl)) (hw _ (List.mem_of_getElem? (i := 2) rfl)) (hw _ (List.mem_of_getElem? (i := 3) rfl)) e0 (hb hby at_14) (by decide) (by decide) (fun T160 h160 b160 g160 X160 e160 E160 A160 D160 => ?_)
    have ge_b160 : n0 ≤ b160 := Nat.le_trans (own_sz O0) (Nat.le_of_eq g160.symm)
    have O161 := O0.ext E160
    have F160_ring_b160 : Fld Z h160 b160 "com/example/kache/kache/store/ListValue" "ring" "[[B" .null := D160 (Or.inl (hw _ (List.mem_of_getElem? (i := 13) rfl))) (ty := (.array (.array .byte))) (by decide)
    have F160_size_b160 : Fld Z h160 b160 "com/example/kache/kache/store/ListValue" "size" "I" (.int (0 : Int32)) := D160 (Or.inl (hw _ (List.mem_of_getElem? (i := 20) rfl))) (ty := .int) (by decide)
    have F160_head_b160 : Fld Z h160 b160 "com/example/kache/kache/store/ListValue" "head" "I" (.int (0 : Int32)) := D160 (Or.inl (hw _ (List.mem_of_getElem? (i := 47) rfl))) (ty := .int) (by decide)
    show Goes _ _ _ _ _ _ (T160.setTop (mkF m 17 #[.val (.int p1), .val (.int p2), .val (.int p3), .val (.int (p1 &&& (3 : Int32))), .val (.int ((p2 &&& (2147483647 : Int32)) % ((p1 &&& (3 : Int32)) + (1 : Int32)))), .unset, .unset, .unset, .unset] [(.ref b160)]))
    refine own_dup X160 hx (hb hby at_17) rfl ?_
    refine own_special X160 hx hZ hown (y := (⟨"com/example/kache/kache/store/ListValue", "<init>", "()V"⟩ : MethodName)) rfl (hw _ (List.mem_of_getElem? (i := 4) rfl)) (hw _ (List.mem_of_getElem? (i := 5) rfl)) (hw _ (List.mem_of_getElem? (i := 3) rfl)) (hw _ (List.mem_of_getElem? (i := 6) rfl)) (a := b160) (by decide) (W := 1) (by decide) (by decide) N0 e160 (by rw [hml]; rfl) (argsL := []) (rest := [(.ref b160)]) (lenOf pd_4 rfl) (Nat.le_of_eq rfl) (by decide) (by decide) (rm1 l Z a0 hw [] b160 (.null) h160 n0 O161 A160 F160_ring_b160 F160_head_b160 F160_size_b160 ge_b160) rfl (hb hby at_18) ?_
    intro v162 T162 lc162 X162 N162 hQ162
    obtain ⟨r_162, k_162, rfl, K162, r162_0, r162_1, r162_2, r162_3, r162_4, r162_5, r162_6⟩ := hQ162
    have O163 := O161.keep K162 (allS ge_b160 all0)
    have ge_r_162 : n0 ≤ r_162 := Nat.le_trans (own_sz O161) r162_5
    show Goes _ _ _ _ _ _ (T162.setTop (mkF m 21 #[.val (.int p1), .val (.int p2), .val (.int p3), .val (.int (p1 &&& (3 : Int32))), .val (.int ((p2 &&& (2147483647 : Int32)) % ((p1 &&& (3 : Int32)) + (1 : Int32)))), .unset, .unset, .unset, .unset] [(.ref b160)]))
    refine own_astore X162 hx (Ls' := #[.val (.int p1), .val (.int p2), .val (.int p3), .val (.int (p1 &&& (3 : Int32))), .val (.int ((p2 &&& (2147483647 : Int32)) % ((p1 &&& (3 : Int32)) + (1 : Int32)))), .val (.ref b160), .unset, .unset, .unset]) (hb hby at_21) rfl rfl ?_
    refine own_aload X162 hx (hb hby at_23) rfl rfl ?_
    refine own_virtual X162 hx hZ hown (y := (⟨"com/example/kache/kache/store/ListValue", "isEmpty", "()Z"⟩ : MethodName)) (z := (⟨"com/example/kache/kache/store/ListValue", "isEmpty", "()Z"⟩ : MethodName)) (hw _ (List.mem_of_getElem? (i := 14) rfl)) (hw _ (List.mem_of_getElem? (i := 15) rfl)) (notFace_of_selects (args := #[]) (mvT hZ (hw _ (List.mem_of_getElem? (i := 17) rfl)))) (hw _ (List.mem_of_getElem? (i := 17) rfl)) (hw _ (List.mem_of_getElem? (i := 16) rfl)) (hw _ (List.mem_of_getElem? (i := 3) rfl)) (hw _ (List.mem_of_getElem? (i := 18) rfl)) (a := b160) r162_0 (by decide) (W := 0) (by decide) (by decide) N162 rfl (by rw [hml]; rfl) (argsL := []) (rest := []) (lenOf pd_8 rfl) (Nat.le_of_eq rfl) (by decide) (by decide) (rm3 l Z a0 hw [] b160 (0 : Int32) T162.heap n0 O163 r162_3) rfl (hb hby at_25) ?_
    intro v164 T164 lc164 X164 N164 hQ164
    obtain ⟨rfl, e164⟩ := hQ164
    show Goes _ _ _ _ _ _ (T164.setTop (mkF m 28 #[.val (.int p1), .val (.int p2), .val (.int p3), .val (.int (p1 &&& (3 : Int32))), .val (.int ((p2 &&& (2147483647 : Int32)) % ((p1 &&& (3 : Int32)) + (1 : Int32)))), .val (.ref b160), .unset, .unset, .unset] [(.int (if (0 : Int32) = (0 : Int32) then (1 : Int32) else (0 : Int32)))]))
    refine own_istore X164 hx (Ls' := #[.val (.int p1), .val (.int p2), .val (.int p3), .val (.int (p1 &&& (3 : Int32))), .val (.int ((p2 &&& (2147483647 : Int32)) % ((p1 &&& (3 : Int32)) + (1 : Int32)))), .val (.ref b160), .val (.int (if (0 : Int32) = (0 : Int32) then (1 : Int32) else (0 : Int32))), .unset, .unset]) (hb hby at_28) rfl ?_
    refine own_iloadN X164 hx (hb hby at_30) rfl ?_
    refine own_iconst X164 hx (v := (1 : Int32)) (hb hby at_31) rfl ?_
    refine own_icmpNo X164 hx (hb hby at_32) (flt ((by first | (rw [hca]; done) | (rw [hca]; decide)) : ¬ ((p1 &&& (3 : Int32)) < (1 : Int32)))).1 ?_
    show Goes _ _ _ _ _ _ (T164.setTop (mkF m 35 #[.val (.int p1), .val (.int p2), .val (.int p3), .val (.int (p1 &&& (3 : Int32))), .val (.int ((p2 &&& (2147483647 : Int32)) % ((p1 &&& (3 : Int32)) + (1 : Int32)))), .val (.ref b160), .val (.int (if (0 : Int32) = (0 : Int32) then (1 : Int32) else (0 : Int32))), .unset, .unset] []))
    refine own_aload X164 hx (hb hby at_35) rfl rfl ?_
    refine own_iloadN X164 hx (hb hby at_37) rfl ?_
    refine own_iconst X164 hx (v := (1 : Int32)) (hb hby at_38) rfl ?_
    refine own_iand X164 hx (hb hby at_39) ?_
    show Goes _ _ _ _ _ _ (T164.setTop (mkF m 40 #[.val (.int p1), .val (.int p2), .val (.int p3), .val (.int (p1 &&& (3 : Int32))), .val (.int ((p2 &&& (2147483647 : Int32)) % ((p1 &&& (3 : Int32)) + (1 : Int32)))), .val (.ref b160), .val (.int (if (0 : Int32) = (0 : Int32) then (1 : Int32) else (0 : Int32))), .unset, .unset] [(.int (p3 &&& (1 : Int32))), (.ref b160)]))
    have jn48_166 : ∀ (T166 : State) (lc166 : List Loc) (X166 : Stand p l e room_1 (s.setVm s.vm) m #[(.int p1), (.int p2), (.int p3)] below meth c T166 lc166 2 11) (N166 : Fr n0 lc166) (e166 : T166.heap = T162.heap) (w166 : Int32) (hj166 : True), Goes p e below (fun o t L => ReturnedEndW s o t L (24) (1152)) n0 (Q0 Z p1 p2 p3 h0 n0) (T166.setTop (mkF m 48 #[.val (.int p1), .val (.int p2), .val (.int p3), .val (.int (p1 &&& (3 : Int32))), .val (.int ((p2 &&& (2147483647 : Int32)) % ((p1 &&& (3 : Int32)) + (1 : Int32)))), .val (.ref b160), .val (.int (if (0 : Int32) = (0 : Int32) then (1 : Int32) else (0 : Int32))), .unset, .unset] [(.int w166), (.ref b160)])) := by
      intro T166 lc166 X166 N166 e166 w166 hj166
      show Goes _ _ _ _ _ _ (T166.setTop (mkF m 48 #[.val (.int p1), .val (.int p2), .val (.int p3), .val (.int (p1 &&& (3 : Int32))), .val (.int ((p2 &&& (2147483647 : Int32)) % ((p1 &&& (3 : Int32)) + (1 : Int32)))), .val (.ref b160), .val (.int (if (0 : Int32) = (0 : Int32) then (1 : Int32) else (0 : Int32))), .unset, .unset] [(.int w166), (.ref b160)]))
      refine own_iloadN X166 hx (hb hby at_48) rfl ?_
      refine own_callSW X166 hx hZ hown hS0 (Nat.zero_le _) (y := (⟨"com/example/kache/kache/store/ListValueIsEmptyPinLaw", "addOne", "(Lcom/example/kache/kache/store/ListValue;ZI)V"⟩ : MethodName)) (hw _ (List.mem_of_getElem? (i := 21) rfl)) (hw _ (List.mem_of_getElem? (i := 22) rfl)) (hw _ (List.mem_of_getElem? (i := 23) rfl)) (hw _ (List.mem_of_getElem? (i := 24) rfl)) (by decide) (W := 0) (by decide) (by decide) N166 e166 (by rw [hml]; rfl) (argsL := [(.ref b160), (.int w166), (.int p3)]) (rest := []) (lenOf pd_9 rfl) (Nat.le_of_eq rfl) (by decide) (by decide) (rm4 l Z a0 hw [] b160 w166 p3 r_162 (0 : Int32) (0 : Int32) k_162 [.null, .null, .null, .null, .null, .null, .null, .null] T162.heap n0 O163 r162_0 r162_1 r162_2 r162_3 r162_4 (by first | assumption | decide | exact ⟨rfl, rfl⟩) ge_b160 ge_r_162 (by first | assumption | decide | exact ⟨rfl, rfl⟩) r162_6 (by first | assumption | decide | exact ⟨rfl, rfl⟩)) rfl (hb hby at_49) ?_
      intro v167 T167 lc167 k1_167 X167 hS167 hk167_ hZ hown N167 hQ167
      obtain ⟨hd2_167, vs2_167, rfl, K167, r167_0, r167_1, r167_2, r167_3, r167_4, r167_5, r167_6⟩ := hQ167
      have O168 := O163.keep K167 (allS ge_b160 (allS ge_r_162 all0))
      show Goes _ _ _ _ _ _ (T167.setTop (mkF m 52 #[.val (.int p1), .val (.int p2), .val (.int p3), .val (.int (p1 &&& (3 : Int32))), .val (.int ((p2 &&& (2147483647 : Int32)) % ((p1 &&& (3 : Int32)) + (1 : Int32)))), .val (.ref b160), .val (.int (if (0 : Int32) = (0 : Int32) then (1 : Int32) else (0 : Int32))), .unset, .unset] []))
      refine own_iloadN X167 hx (hb hby at_52) rfl ?_
      refine own_iconst X167 hx (v := (2 : Int32)) (hb hby at_53) rfl ?_
      refine own_icmpNo X167 hx (hb hby at_54) (flt ((by first | (rw [hca]; done) | (rw [hca]; decide)) : ¬ ((p1 &&& (3 : Int32)) < (2 : Int32)))).1 ?_
      show Goes _ _ _ _ _ _ (T167.setTop (mkF m 57 #[.val (.int p1), .val (.int p2), .val (.int p3), .val (.int (p1 &&& (3 : Int32))), .val (.int ((p2 &&& (2147483647 : Int32)) % ((p1 &&& (3 : Int32)) + (1 : Int32)))), .val (.ref b160), .val (.int (if (0 : Int32) = (0 : Int32) then (1 : Int32) else (0 : Int32))), .unset, .unset] []))
      refine own_aload X167 hx (hb hby at_57) rfl rfl ?_
      refine own_iloadN X167 hx (hb hby at_59) rfl ?_
      refine own_iconst X167 hx (v := (2 : Int32)) (hb hby at_60) rfl ?_
      refine own_iand X167 hx (hb hby at_61) ?_
      show Goes _ _ _ _ _ _ (T167.setTop (mkF m 62 #[.val (.int p1), .val (.int p2), .val (.int p3), .val (.int (p1 &&& (3 : Int32))), .val (.int ((p2 &&& (2147483647 : Int32)) % ((p1 &&& (3 : Int32)) + (1 : Int32)))), .val (.ref b160), .val (.int (if (0 : Int32) = (0 : Int32) then (1 : Int32) else (0 : Int32))), .unset, .unset] [(.int (p3 &&& (2 : Int32))), (.ref b160)]))
      have jn70_170 : ∀ (T170 : State) (lc170 : List Loc) (X170 : Stand p l e room_1 (s.setVm T167.vm) m #[(.int p1), (.int p2), (.int p3)] below meth c T170 lc170 5 44) (N170 : Fr n0 lc170) (e170 : T170.heap = T167.heap) (w170 : Int32) (hj170 : True), Goes p e below (fun o t L => ReturnedEndW s o t L (24) (1152)) n0 (Q0 Z p1 p2 p3 h0 n0) (T170.setTop (mkF m 70 #[.val (.int p1), .val (.int p2), .val (.int p3), .val (.int (p1 &&& (3 : Int32))), .val (.int ((p2 &&& (2147483647 : Int32)) % ((p1 &&& (3 : Int32)) + (1 : Int32)))), .val (.ref b160), .val (.int (if (0 : Int32) = (0 : Int32) then (1 : Int32) else (0 : Int32))), .unset, .unset] [(.int w170), (.ref b160)])) := by
        intro T170 lc170 X170 N170 e170 w170 hj170
        show Goes _ _ _ _ _ _ (T170.setTop (mkF m 70 #[.val (.int p1), .val (.int p2), .val (.int p3), .val (.int (p1 &&& (3 : Int32))), .val (.int ((p2 &&& (2147483647 : Int32)) % ((p1 &&& (3 : Int32)) + (1 : Int32)))), .val (.ref b160), .val (.int (if (0 : Int32) = (0 : Int32) then (1 : Int32) else (0 : Int32))), .unset, .unset] [(.int w170), (.ref b160)]))
        refine own_iloadN X170 hx (hb hby at_70) rfl ?_
        refine own_bipush X170 hx (v := (8 : Int32)) (hb hby at_71) rfl ?_
        refine own_ishr X170 hx (hb hby at_73) ?_
        refine own_callSW X170 hx hZ hown hS167 hk167_ (y := (⟨"com/example/kache/kache/store/ListValueIsEmptyPinLaw", "addOne", "(Lcom/example/kache/kache/store/ListValue;ZI)V"⟩ : MethodName)) (hw _ (List.mem_of_getElem? (i := 21) rfl)) (hw _ (List.mem_of_getElem? (i := 22) rfl)) (hw _ (List.mem_of_getElem? (i := 23) rfl)) (hw _ (List.mem_of_getElem? (i := 24) rfl)) (by decide) (W := 0) (by decide) (by decide) N170 e170 (by rw [hml]; rfl) (argsL := [(.ref b160), (.int w170), (.int (p3 >>> ((8 : Int32) &&& 31)))]) (rest := []) (lenOf pd_9 rfl) (Nat.le_of_eq rfl) (by decide) (by decide) (rm4 l Z a0 hw [] b160 w170 (p3 >>> ((8 : Int32) &&& 31)) r_162 hd2_167 ((0 : Int32) + (1 : Int32)) k_162 vs2_167 T167.heap n0 O168 r167_0 r167_1 r167_2 r167_3 r167_4 r167_5 ge_b160 ge_r_162 r167_6 r162_6 (by first | assumption | decide | exact ⟨rfl, rfl⟩)) rfl (hb hby at_74) ?_
        intro v171 T171 lc171 k1_171 X171 hS171 hk171_ hZ hown N171 hQ171
        obtain ⟨hd2_171, vs2_171, rfl, K171, r171_0, r171_1, r171_2, r171_3, r171_4, r171_5, r171_6⟩ := hQ171
        have O172 := O168.keep K171 (allS ge_b160 (allS ge_r_162 all0))
        have hk172 := Nat.le_trans hk167_ K171.1
        show Goes _ _ _ _ _ _ (T171.setTop (mkF m 77 #[.val (.int p1), .val (.int p2), .val (.int p3), .val (.int (p1 &&& (3 : Int32))), .val (.int ((p2 &&& (2147483647 : Int32)) % ((p1 &&& (3 : Int32)) + (1 : Int32)))), .val (.ref b160), .val (.int (if (0 : Int32) = (0 : Int32) then (1 : Int32) else (0 : Int32))), .unset, .unset] []))
        refine own_iloadN X171 hx (hb hby at_77) rfl ?_
        refine own_iconst X171 hx (v := (3 : Int32)) (hb hby at_78) rfl ?_
        refine own_icmpNo X171 hx (hb hby at_79) (flt ((by first | (rw [hca]; done) | (rw [hca]; decide)) : ¬ ((p1 &&& (3 : Int32)) < (3 : Int32)))).1 ?_
        show Goes _ _ _ _ _ _ (T171.setTop (mkF m 82 #[.val (.int p1), .val (.int p2), .val (.int p3), .val (.int (p1 &&& (3 : Int32))), .val (.int ((p2 &&& (2147483647 : Int32)) % ((p1 &&& (3 : Int32)) + (1 : Int32)))), .val (.ref b160), .val (.int (if (0 : Int32) = (0 : Int32) then (1 : Int32) else (0 : Int32))), .unset, .unset] []))
        refine own_aload X171 hx (hb hby at_82) rfl rfl ?_
        refine own_iloadN X171 hx (hb hby at_84) rfl ?_
        refine own_iconst X171 hx (v := (4 : Int32)) (hb hby at_85) rfl ?_
        refine own_iand X171 hx (hb hby at_86) ?_
        show Goes _ _ _ _ _ _ (T171.setTop (mkF m 87 #[.val (.int p1), .val (.int p2), .val (.int p3), .val (.int (p1 &&& (3 : Int32))), .val (.int ((p2 &&& (2147483647 : Int32)) % ((p1 &&& (3 : Int32)) + (1 : Int32)))), .val (.ref b160), .val (.int (if (0 : Int32) = (0 : Int32) then (1 : Int32) else (0 : Int32))), .unset, .unset] [(.int (p3 &&& (4 : Int32))), (.ref b160)]))
        have jn95_174 : ∀ (T174 : State) (lc174 : List Loc) (X174 : Stand p l e room_1 (s.setVm T171.vm) m #[(.int p1), (.int p2), (.int p3)] below meth c T174 lc174 8 77) (N174 : Fr n0 lc174) (e174 : T174.heap = T171.heap) (w174 : Int32) (hj174 : True), Goes p e below (fun o t L => ReturnedEndW s o t L (24) (1152)) n0 (Q0 Z p1 p2 p3 h0 n0) (T174.setTop (mkF m 95 #[.val (.int p1), .val (.int p2), .val (.int p3), .val (.int (p1 &&& (3 : Int32))), .val (.int ((p2 &&& (2147483647 : Int32)) % ((p1 &&& (3 : Int32)) + (1 : Int32)))), .val (.ref b160), .val (.int (if (0 : Int32) = (0 : Int32) then (1 : Int32) else (0 : Int32))), .unset, .unset] [(.int w174), (.ref b160)])) := by
          intro T174 lc174 X174 N174 e174 w174 hj174
          show Goes _ _ _ _ _ _ (T174.setTop (mkF m 95 #[.val (.int p1), .val (.int p2), .val (.int p3), .val (.int (p1 &&& (3 : Int32))), .val (.int ((p2 &&& (2147483647 : Int32)) % ((p1 &&& (3 : Int32)) + (1 : Int32)))), .val (.ref b160), .val (.int (if (0 : Int32) = (0 : Int32) then (1 : Int32) else (0 : Int32))), .unset, .unset] [(.int w174), (.ref b160)]))
          refine own_iloadN X174 hx (hb hby at_95) rfl ?_
          refine own_bipush X174 hx (v := (16 : Int32)) (hb hby at_96) rfl ?_
          refine own_ishr X174 hx (hb hby at_98) ?_
          refine own_callSW X174 hx hZ hown hS171 hk171_ (y := (⟨"com/example/kache/kache/store/ListValueIsEmptyPinLaw", "addOne", "(Lcom/example/kache/kache/store/ListValue;ZI)V"⟩ : MethodName)) (hw _ (List.mem_of_getElem? (i := 21) rfl)) (hw _ (List.mem_of_getElem? (i := 22) rfl)) (hw _ (List.mem_of_getElem? (i := 23) rfl)) (hw _ (List.mem_of_getElem? (i := 24) rfl)) (by decide) (W := 0) (by decide) (by decide) N174 e174 (by rw [hml]; rfl) (argsL := [(.ref b160), (.int w174), (.int (p3 >>> ((16 : Int32) &&& 31)))]) (rest := []) (lenOf pd_9 rfl) (Nat.le_of_eq rfl) (by decide) (by decide) (rm4 l Z a0 hw [] b160 w174 (p3 >>> ((16 : Int32) &&& 31)) r_162 hd2_171 (((0 : Int32) + (1 : Int32)) + (1 : Int32)) k_162 vs2_171 T171.heap n0 O172 r171_0 r171_1 r171_2 r171_3 r171_4 r171_5 ge_b160 ge_r_162 r171_6 r162_6 (by first | assumption | decide | exact ⟨rfl, rfl⟩)) rfl (hb hby at_99) ?_
          intro v175 T175 lc175 k1_175 X175 hS175 hk175_ hZ hown N175 hQ175
          obtain ⟨hd2_175, vs2_175, rfl, K175, r175_0, r175_1, r175_2, r175_3, r175_4, r175_5, r175_6⟩ := hQ175
          have O176 := O172.keep K175 (allS ge_b160 (allS ge_r_162 all0))
          have hk176 := Nat.le_trans hk171_ K175.1
          show Goes _ _ _ _ _ _ (T175.setTop (mkF m 102 #[.val (.int p1), .val (.int p2), .val (.int p3), .val (.int (p1 &&& (3 : Int32))), .val (.int ((p2 &&& (2147483647 : Int32)) % ((p1 &&& (3 : Int32)) + (1 : Int32)))), .val (.ref b160), .val (.int (if (0 : Int32) = (0 : Int32) then (1 : Int32) else (0 : Int32))), .unset, .unset] []))
          refine own_aload X175 hx (hb hby at_102) rfl rfl ?_
          refine own_virtual X175 hx hZ hown (y := (⟨"com/example/kache/kache/store/ListValue", "isEmpty", "()Z"⟩ : MethodName)) (z := (⟨"com/example/kache/kache/store/ListValue", "isEmpty", "()Z"⟩ : MethodName)) (hw _ (List.mem_of_getElem? (i := 14) rfl)) (hw _ (List.mem_of_getElem? (i := 15) rfl)) (notFace_of_selects (args := #[]) (mvT hZ (hw _ (List.mem_of_getElem? (i := 17) rfl)))) (hw _ (List.mem_of_getElem? (i := 17) rfl)) (hw _ (List.mem_of_getElem? (i := 16) rfl)) (hw _ (List.mem_of_getElem? (i := 3) rfl)) (hw _ (List.mem_of_getElem? (i := 18) rfl)) (a := b160) r175_0 (by decide) (W := 0) (by decide) (by decide) N175 rfl (by rw [hml]; rfl) (argsL := []) (rest := []) (lenOf pd_8 rfl) (Nat.le_of_eq rfl) (by decide) (by decide) (rm3 l Z a0 hw [] b160 ((((0 : Int32) + (1 : Int32)) + (1 : Int32)) + (1 : Int32)) T175.heap n0 O176 r175_3) rfl (hb hby at_104) ?_
          intro v177 T177 lc177 X177 N177 hQ177
          obtain ⟨rfl, e177⟩ := hQ177
          show Goes _ _ _ _ _ _ (T177.setTop (mkF m 107 #[.val (.int p1), .val (.int p2), .val (.int p3), .val (.int (p1 &&& (3 : Int32))), .val (.int ((p2 &&& (2147483647 : Int32)) % ((p1 &&& (3 : Int32)) + (1 : Int32)))), .val (.ref b160), .val (.int (if (0 : Int32) = (0 : Int32) then (1 : Int32) else (0 : Int32))), .unset, .unset] [(.int (if ((((0 : Int32) + (1 : Int32)) + (1 : Int32)) + (1 : Int32)) = (0 : Int32) then (1 : Int32) else (0 : Int32)))]))
          refine own_istore X177 hx (Ls' := #[.val (.int p1), .val (.int p2), .val (.int p3), .val (.int (p1 &&& (3 : Int32))), .val (.int ((p2 &&& (2147483647 : Int32)) % ((p1 &&& (3 : Int32)) + (1 : Int32)))), .val (.ref b160), .val (.int (if (0 : Int32) = (0 : Int32) then (1 : Int32) else (0 : Int32))), .val (.int (if ((((0 : Int32) + (1 : Int32)) + (1 : Int32)) + (1 : Int32)) = (0 : Int32) then (1 : Int32) else (0 : Int32))), .unset]) (hb hby at_107) rfl ?_
          refine own_iload X177 hx (hb hby at_109) rfl ?_
          refine own_iconst X177 hx (v := (1 : Int32)) (hb hby at_111) rfl ?_
          refine own_icmpNo X177 hx (hb hby at_112) (flt ((by first | (rw [hcr]; done) | (rw [hcr]; decide)) : ¬ (((p2 &&& (2147483647 : Int32)) % ((p1 &&& (3 : Int32)) + (1 : Int32))) < (1 : Int32)))).1 ?_
          show Goes _ _ _ _ _ _ (T177.setTop (mkF m 115 #[.val (.int p1), .val (.int p2), .val (.int p3), .val (.int (p1 &&& (3 : Int32))), .val (.int ((p2 &&& (2147483647 : Int32)) % ((p1 &&& (3 : Int32)) + (1 : Int32)))), .val (.ref b160), .val (.int (if (0 : Int32) = (0 : Int32) then (1 : Int32) else (0 : Int32))), .val (.int (if ((((0 : Int32) + (1 : Int32)) + (1 : Int32)) + (1 : Int32)) = (0 : Int32) then (1 : Int32) else (0 : Int32))), .unset] []))
          refine own_aload X177 hx (hb hby at_115) rfl rfl ?_
          refine own_iloadN X177 hx (hb hby at_117) rfl ?_
          refine own_bipush X177 hx (v := (8 : Int32)) (hb hby at_118) rfl ?_
          refine own_iand X177 hx (hb hby at_120) ?_
          show Goes _ _ _ _ _ _ (T177.setTop (mkF m 121 #[.val (.int p1), .val (.int p2), .val (.int p3), .val (.int (p1 &&& (3 : Int32))), .val (.int ((p2 &&& (2147483647 : Int32)) % ((p1 &&& (3 : Int32)) + (1 : Int32)))), .val (.ref b160), .val (.int (if (0 : Int32) = (0 : Int32) then (1 : Int32) else (0 : Int32))), .val (.int (if ((((0 : Int32) + (1 : Int32)) + (1 : Int32)) + (1 : Int32)) = (0 : Int32) then (1 : Int32) else (0 : Int32))), .unset] [(.int (p3 &&& (8 : Int32))), (.ref b160)]))
          have jn129_179 : ∀ (T179 : State) (lc179 : List Loc) (X179 : Stand p l e room_1 (s.setVm T175.vm) m #[(.int p1), (.int p2), (.int p3)] below meth c T179 lc179 11 110) (N179 : Fr n0 lc179) (e179 : T179.heap = T175.heap) (w179 : Int32) (hj179 : True), Goes p e below (fun o t L => ReturnedEndW s o t L (24) (1152)) n0 (Q0 Z p1 p2 p3 h0 n0) (T179.setTop (mkF m 129 #[.val (.int p1), .val (.int p2), .val (.int p3), .val (.int (p1 &&& (3 : Int32))), .val (.int ((p2 &&& (2147483647 : Int32)) % ((p1 &&& (3 : Int32)) + (1 : Int32)))), .val (.ref b160), .val (.int (if (0 : Int32) = (0 : Int32) then (1 : Int32) else (0 : Int32))), .val (.int (if ((((0 : Int32) + (1 : Int32)) + (1 : Int32)) + (1 : Int32)) = (0 : Int32) then (1 : Int32) else (0 : Int32))), .unset] [(.int w179), (.ref b160)])) := by
            intro T179 lc179 X179 N179 e179 w179 hj179
            show Goes _ _ _ _ _ _ (T179.setTop (mkF m 129 #[.val (.int p1), .val (.int p2), .val (.int p3), .val (.int (p1 &&& (3 : Int32))), .val (.int ((p2 &&& (2147483647 : Int32)) % ((p1 &&& (3 : Int32)) + (1 : Int32)))), .val (.ref b160), .val (.int (if (0 : Int32) = (0 : Int32) then (1 : Int32) else (0 : Int32))), .val (.int (if ((((0 : Int32) + (1 : Int32)) + (1 : Int32)) + (1 : Int32)) = (0 : Int32) then (1 : Int32) else (0 : Int32))), .unset] [(.int w179), (.ref b160)]))
            refine own_callS X179 hx hZ hown (y := (⟨"com/example/kache/kache/store/ListValueIsEmptyPinLaw", "removeOne", "(Lcom/example/kache/kache/store/ListValue;Z)V"⟩ : MethodName)) (hw _ (List.mem_of_getElem? (i := 58) rfl)) (hw _ (List.mem_of_getElem? (i := 59) rfl)) (hw _ (List.mem_of_getElem? (i := 23) rfl)) (hw _ (List.mem_of_getElem? (i := 60) rfl)) (by decide) (W := 0) (by decide) (by decide) N179 e179 (by rw [hml]; rfl) (argsL := [(.ref b160), (.int w179)]) (rest := []) (lenOf pd_10 rfl) (Nat.le_of_eq rfl) (by decide) (by decide) (rm10 l Z a0 hw [] b160 w179 r_162 hd2_175 ((((0 : Int32) + (1 : Int32)) + (1 : Int32)) + (1 : Int32)) k_162 vs2_175 T175.heap n0 O176 r175_0 r175_1 r175_2 r175_3 r175_4 r175_5 ge_b160 ge_r_162 r175_6 r162_6 (by first | assumption | decide | exact ⟨rfl, rfl⟩)) rfl (hb hby at_129) ?_
            intro v180 T180 lc180 X180 N180 hQ180
            obtain ⟨hd2_180, vs2_180, rfl, K180, r180_0, r180_1, r180_2, r180_3, r180_4, r180_5, r180_6⟩ := hQ180
            have O181 := O176.keep K180 (allS ge_b160 (allS ge_r_162 all0))
            have hk181 := Nat.le_trans hk175_ K180.1
            show Goes _ _ _ _ _ _ (T180.setTop (mkF m 132 #[.val (.int p1), .val (.int p2), .val (.int p3), .val (.int (p1 &&& (3 : Int32))), .val (.int ((p2 &&& (2147483647 : Int32)) % ((p1 &&& (3 : Int32)) + (1 : Int32)))), .val (.ref b160), .val (.int (if (0 : Int32) = (0 : Int32) then (1 : Int32) else (0 : Int32))), .val (.int (if ((((0 : Int32) + (1 : Int32)) + (1 : Int32)) + (1 : Int32)) = (0 : Int32) then (1 : Int32) else (0 : Int32))), .unset] []))
            refine own_iload X180 hx (hb hby at_132) rfl ?_
            refine own_iconst X180 hx (v := (2 : Int32)) (hb hby at_134) rfl ?_
            refine own_icmpNo X180 hx (hb hby at_135) (flt ((by first | (rw [hcr]; done) | (rw [hcr]; decide)) : ¬ (((p2 &&& (2147483647 : Int32)) % ((p1 &&& (3 : Int32)) + (1 : Int32))) < (2 : Int32)))).1 ?_
            show Goes _ _ _ _ _ _ (T180.setTop (mkF m 138 #[.val (.int p1), .val (.int p2), .val (.int p3), .val (.int (p1 &&& (3 : Int32))), .val (.int ((p2 &&& (2147483647 : Int32)) % ((p1 &&& (3 : Int32)) + (1 : Int32)))), .val (.ref b160), .val (.int (if (0 : Int32) = (0 : Int32) then (1 : Int32) else (0 : Int32))), .val (.int (if ((((0 : Int32) + (1 : Int32)) + (1 : Int32)) + (1 : Int32)) = (0 : Int32) then (1 : Int32) else (0 : Int32))), .unset] []))
            refine own_aload X180 hx (hb hby at_138) rfl rfl ?_
            refine own_iloadN X180 hx (hb hby at_140) rfl ?_
            refine own_bipush X180 hx (v := (16 : Int32)) (hb hby at_141) rfl ?_
            refine own_iand X180 hx (hb hby at_143) ?_
            show Goes _ _ _ _ _ _ (T180.setTop (mkF m 144 #[.val (.int p1), .val (.int p2), .val (.int p3), .val (.int (p1 &&& (3 : Int32))), .val (.int ((p2 &&& (2147483647 : Int32)) % ((p1 &&& (3 : Int32)) + (1 : Int32)))), .val (.ref b160), .val (.int (if (0 : Int32) = (0 : Int32) then (1 : Int32) else (0 : Int32))), .val (.int (if ((((0 : Int32) + (1 : Int32)) + (1 : Int32)) + (1 : Int32)) = (0 : Int32) then (1 : Int32) else (0 : Int32))), .unset] [(.int (p3 &&& (16 : Int32))), (.ref b160)]))
            have jn152_183 : ∀ (T183 : State) (lc183 : List Loc) (X183 : Stand p l e room_1 (s.setVm T175.vm) m #[(.int p1), (.int p2), (.int p3)] below meth c T183 lc183 11 110) (N183 : Fr n0 lc183) (e183 : T183.heap = T180.heap) (w183 : Int32) (hj183 : True), Goes p e below (fun o t L => ReturnedEndW s o t L (24) (1152)) n0 (Q0 Z p1 p2 p3 h0 n0) (T183.setTop (mkF m 152 #[.val (.int p1), .val (.int p2), .val (.int p3), .val (.int (p1 &&& (3 : Int32))), .val (.int ((p2 &&& (2147483647 : Int32)) % ((p1 &&& (3 : Int32)) + (1 : Int32)))), .val (.ref b160), .val (.int (if (0 : Int32) = (0 : Int32) then (1 : Int32) else (0 : Int32))), .val (.int (if ((((0 : Int32) + (1 : Int32)) + (1 : Int32)) + (1 : Int32)) = (0 : Int32) then (1 : Int32) else (0 : Int32))), .unset] [(.int w183), (.ref b160)])) := by
              intro T183 lc183 X183 N183 e183 w183 hj183
              show Goes _ _ _ _ _ _ (T183.setTop (mkF m 152 #[.val (.int p1), .val (.int p2), .val (.int p3), .val (.int (p1 &&& (3 : Int32))), .val (.int ((p2 &&& (2147483647 : Int32)) % ((p1 &&& (3 : Int32)) + (1 : Int32)))), .val (.ref b160), .val (.int (if (0 : Int32) = (0 : Int32) then (1 : Int32) else (0 : Int32))), .val (.int (if ((((0 : Int32) + (1 : Int32)) + (1 : Int32)) + (1 : Int32)) = (0 : Int32) then (1 : Int32) else (0 : Int32))), .unset] [(.int w183), (.ref b160)]))
              refine own_callS X183 hx hZ hown (y := (⟨"com/example/kache/kache/store/ListValueIsEmptyPinLaw", "removeOne", "(Lcom/example/kache/kache/store/ListValue;Z)V"⟩ : MethodName)) (hw _ (List.mem_of_getElem? (i := 58) rfl)) (hw _ (List.mem_of_getElem? (i := 59) rfl)) (hw _ (List.mem_of_getElem? (i := 23) rfl)) (hw _ (List.mem_of_getElem? (i := 60) rfl)) (by decide) (W := 0) (by decide) (by decide) N183 e183 (by rw [hml]; rfl) (argsL := [(.ref b160), (.int w183)]) (rest := []) (lenOf pd_10 rfl) (Nat.le_of_eq rfl) (by decide) (by decide) (rm10 l Z a0 hw [] b160 w183 r_162 hd2_180 (((((0 : Int32) + (1 : Int32)) + (1 : Int32)) + (1 : Int32)) - (1 : Int32)) k_162 vs2_180 T180.heap n0 O181 r180_0 r180_1 r180_2 r180_3 r180_4 r180_5 ge_b160 ge_r_162 r180_6 r162_6 (by first | assumption | decide | exact ⟨rfl, rfl⟩)) rfl (hb hby at_152) ?_
              intro v184 T184 lc184 X184 N184 hQ184
              obtain ⟨hd2_184, vs2_184, rfl, K184, r184_0, r184_1, r184_2, r184_3, r184_4, r184_5, r184_6⟩ := hQ184
              have O185 := O181.keep K184 (allS ge_b160 (allS ge_r_162 all0))
              have hk185 := Nat.le_trans hk181 K184.1
              show Goes _ _ _ _ _ _ (T184.setTop (mkF m 155 #[.val (.int p1), .val (.int p2), .val (.int p3), .val (.int (p1 &&& (3 : Int32))), .val (.int ((p2 &&& (2147483647 : Int32)) % ((p1 &&& (3 : Int32)) + (1 : Int32)))), .val (.ref b160), .val (.int (if (0 : Int32) = (0 : Int32) then (1 : Int32) else (0 : Int32))), .val (.int (if ((((0 : Int32) + (1 : Int32)) + (1 : Int32)) + (1 : Int32)) = (0 : Int32) then (1 : Int32) else (0 : Int32))), .unset] []))
              refine own_iload X184 hx (hb hby at_155) rfl ?_
              refine own_iconst X184 hx (v := (3 : Int32)) (hb hby at_157) rfl ?_
              refine own_icmpNo X184 hx (hb hby at_158) (flt ((by first | (rw [hcr]; done) | (rw [hcr]; decide)) : ¬ (((p2 &&& (2147483647 : Int32)) % ((p1 &&& (3 : Int32)) + (1 : Int32))) < (3 : Int32)))).1 ?_
              show Goes _ _ _ _ _ _ (T184.setTop (mkF m 161 #[.val (.int p1), .val (.int p2), .val (.int p3), .val (.int (p1 &&& (3 : Int32))), .val (.int ((p2 &&& (2147483647 : Int32)) % ((p1 &&& (3 : Int32)) + (1 : Int32)))), .val (.ref b160), .val (.int (if (0 : Int32) = (0 : Int32) then (1 : Int32) else (0 : Int32))), .val (.int (if ((((0 : Int32) + (1 : Int32)) + (1 : Int32)) + (1 : Int32)) = (0 : Int32) then (1 : Int32) else (0 : Int32))), .unset] []))
              refine own_aload X184 hx (hb hby at_161) rfl rfl ?_
              refine own_iloadN X184 hx (hb hby at_163) rfl ?_
              refine own_bipush X184 hx (v := (32 : Int32)) (hb hby at_164) rfl ?_
              refine own_iand X184 hx (hb hby at_166) ?_
              show Goes _ _ _ _ _ _ (T184.setTop (mkF m 167 #[.val (.int p1), .val (.int p2), .val (.int p3), .val (.int (p1 &&& (3 : Int32))), .val (.int ((p2 &&& (2147483647 : Int32)) % ((p1 &&& (3 : Int32)) + (1 : Int32)))), .val (.ref b160), .val (.int (if (0 : Int32) = (0 : Int32) then (1 : Int32) else (0 : Int32))), .val (.int (if ((((0 : Int32) + (1 : Int32)) + (1 : Int32)) + (1 : Int32)) = (0 : Int32) then (1 : Int32) else (0 : Int32))), .unset] [(.int (p3 &&& (32 : Int32))), (.ref b160)]))
              have jn175_187 : ∀ (T187 : State) (lc187 : List Loc) (X187 : Stand p l e room_1 (s.setVm T175.vm) m #[(.int p1), (.int p2), (.int p3)] below meth c T187 lc187 11 110) (N187 : Fr n0 lc187) (e187 : T187.heap = T184.heap) (w187 : Int32) (hj187 : True), Goes p e below (fun o t L => ReturnedEndW s o t L (24) (1152)) n0 (Q0 Z p1 p2 p3 h0 n0) (T187.setTop (mkF m 175 #[.val (.int p1), .val (.int p2), .val (.int p3), .val (.int (p1 &&& (3 : Int32))), .val (.int ((p2 &&& (2147483647 : Int32)) % ((p1 &&& (3 : Int32)) + (1 : Int32)))), .val (.ref b160), .val (.int (if (0 : Int32) = (0 : Int32) then (1 : Int32) else (0 : Int32))), .val (.int (if ((((0 : Int32) + (1 : Int32)) + (1 : Int32)) + (1 : Int32)) = (0 : Int32) then (1 : Int32) else (0 : Int32))), .unset] [(.int w187), (.ref b160)])) := by
                intro T187 lc187 X187 N187 e187 w187 hj187
                show Goes _ _ _ _ _ _ (T187.setTop (mkF m 175 #[.val (.int p1), .val (.int p2), .val (.int p3), .val (.int (p1 &&& (3 : Int32))), .val (.int ((p2 &&& (2147483647 : Int32)) % ((p1 &&& (3 : Int32)) + (1 : Int32)))), .val (.ref b160), .val (.int (if (0 : Int32) = (0 : Int32) then (1 : Int32) else (0 : Int32))), .val (.int (if ((((0 : Int32) + (1 : Int32)) + (1 : Int32)) + (1 : Int32)) = (0 : Int32) then (1 : Int32) else (0 : Int32))), .unset] [(.int w187), (.ref b160)]))
                refine own_callS X187 hx hZ hown (y := (⟨"com/example/kache/kache/store/ListValueIsEmptyPinLaw", "removeOne", "(Lcom/example/kache/kache/store/ListValue;Z)V"⟩ : MethodName)) (hw _ (List.mem_of_getElem? (i := 58) rfl)) (hw _ (List.mem_of_getElem? (i := 59) rfl)) (hw _ (List.mem_of_getElem? (i := 23) rfl)) (hw _ (List.mem_of_getElem? (i := 60) rfl)) (by decide) (W := 0) (by decide) (by decide) N187 e187 (by rw [hml]; rfl) (argsL := [(.ref b160), (.int w187)]) (rest := []) (lenOf pd_10 rfl) (Nat.le_of_eq rfl) (by decide) (by decide) (rm10 l Z a0 hw [] b160 w187 r_162 hd2_184 ((((((0 : Int32) + (1 : Int32)) + (1 : Int32)) + (1 : Int32)) - (1 : Int32)) - (1 : Int32)) k_162 vs2_184 T184.heap n0 O185 r184_0 r184_1 r184_2 r184_3 r184_4 r184_5 ge_b160 ge_r_162 r184_6 r162_6 (by first | assumption | decide | exact ⟨rfl, rfl⟩)) rfl (hb hby at_175) ?_
                intro v188 T188 lc188 X188 N188 hQ188
                obtain ⟨hd2_188, vs2_188, rfl, K188, r188_0, r188_1, r188_2, r188_3, r188_4, r188_5, r188_6⟩ := hQ188
                have O189 := O185.keep K188 (allS ge_b160 (allS ge_r_162 all0))
                have hk189 := Nat.le_trans hk185 K188.1
                show Goes _ _ _ _ _ _ (T188.setTop (mkF m 178 #[.val (.int p1), .val (.int p2), .val (.int p3), .val (.int (p1 &&& (3 : Int32))), .val (.int ((p2 &&& (2147483647 : Int32)) % ((p1 &&& (3 : Int32)) + (1 : Int32)))), .val (.ref b160), .val (.int (if (0 : Int32) = (0 : Int32) then (1 : Int32) else (0 : Int32))), .val (.int (if ((((0 : Int32) + (1 : Int32)) + (1 : Int32)) + (1 : Int32)) = (0 : Int32) then (1 : Int32) else (0 : Int32))), .unset] []))
                refine own_aload X188 hx (hb hby at_178) rfl rfl ?_
                refine own_virtual X188 hx hZ hown (y := (⟨"com/example/kache/kache/store/ListValue", "isEmpty", "()Z"⟩ : MethodName)) (z := (⟨"com/example/kache/kache/store/ListValue", "isEmpty", "()Z"⟩ : MethodName)) (hw _ (List.mem_of_getElem? (i := 14) rfl)) (hw _ (List.mem_of_getElem? (i := 15) rfl)) (notFace_of_selects (args := #[]) (mvT hZ (hw _ (List.mem_of_getElem? (i := 17) rfl)))) (hw _ (List.mem_of_getElem? (i := 17) rfl)) (hw _ (List.mem_of_getElem? (i := 16) rfl)) (hw _ (List.mem_of_getElem? (i := 3) rfl)) (hw _ (List.mem_of_getElem? (i := 18) rfl)) (a := b160) r188_0 (by decide) (W := 0) (by decide) (by decide) N188 rfl (by rw [hml]; rfl) (argsL := []) (rest := []) (lenOf pd_8 rfl) (Nat.le_of_eq rfl) (by decide) (by decide) (rm3 l Z a0 hw [] b160 (((((((0 : Int32) + (1 : Int32)) + (1 : Int32)) + (1 : Int32)) - (1 : Int32)) - (1 : Int32)) - (1 : Int32)) T188.heap n0 O189 r188_3) rfl (hb hby at_180) ?_
                intro v190 T190 lc190 X190 N190 hQ190
                obtain ⟨rfl, e190⟩ := hQ190
                show Goes _ _ _ _ _ _ (T190.setTop (mkF m 183 #[.val (.int p1), .val (.int p2), .val (.int p3), .val (.int (p1 &&& (3 : Int32))), .val (.int ((p2 &&& (2147483647 : Int32)) % ((p1 &&& (3 : Int32)) + (1 : Int32)))), .val (.ref b160), .val (.int (if (0 : Int32) = (0 : Int32) then (1 : Int32) else (0 : Int32))), .val (.int (if ((((0 : Int32) + (1 : Int32)) + (1 : Int32)) + (1 : Int32)) = (0 : Int32) then (1 : Int32) else (0 : Int32))), .unset] [(.int (if (((((((0 : Int32) + (1 : Int32)) + (1 : Int32)) + (1 : Int32)) - (1 : Int32)) - (1 : Int32)) - (1 : Int32)) = (0 : Int32) then (1 : Int32) else (0 : Int32)))]))
                refine own_istore X190 hx (Ls' := #[.val (.int p1), .val (.int p2), .val (.int p3), .val (.int (p1 &&& (3 : Int32))), .val (.int ((p2 &&& (2147483647 : Int32)) % ((p1 &&& (3 : Int32)) + (1 : Int32)))), .val (.ref b160), .val (.int (if (0 : Int32) = (0 : Int32) then (1 : Int32) else (0 : Int32))), .val (.int (if ((((0 : Int32) + (1 : Int32)) + (1 : Int32)) + (1 : Int32)) = (0 : Int32) then (1 : Int32) else (0 : Int32))), .val (.int (if (((((((0 : Int32) + (1 : Int32)) + (1 : Int32)) + (1 : Int32)) - (1 : Int32)) - (1 : Int32)) - (1 : Int32)) = (0 : Int32) then (1 : Int32) else (0 : Int32)))]) (hb hby at_183) rfl ?_
                refine own_iload X190 hx (hb hby at_185) rfl ?_
                refine own_ifNo X190 hx (hb hby at_187) ((if0 _ _).trans (feq ((own_bnz (not_not_intro (by decide))) : ¬ ((if (0 : Int32) = (0 : Int32) then (1 : Int32) else (0 : Int32)) = (0 : Int32)))).1) ?_
                show Goes _ _ _ _ _ _ (T190.setTop (mkF m 190 #[.val (.int p1), .val (.int p2), .val (.int p3), .val (.int (p1 &&& (3 : Int32))), .val (.int ((p2 &&& (2147483647 : Int32)) % ((p1 &&& (3 : Int32)) + (1 : Int32)))), .val (.ref b160), .val (.int (if (0 : Int32) = (0 : Int32) then (1 : Int32) else (0 : Int32))), .val (.int (if ((((0 : Int32) + (1 : Int32)) + (1 : Int32)) + (1 : Int32)) = (0 : Int32) then (1 : Int32) else (0 : Int32))), .val (.int (if (((((((0 : Int32) + (1 : Int32)) + (1 : Int32)) + (1 : Int32)) - (1 : Int32)) - (1 : Int32)) - (1 : Int32)) = (0 : Int32) then (1 : Int32) else (0 : Int32)))] []))
                refine own_iload X190 hx (hb hby at_190) rfl ?_
                refine own_iloadN X190 hx (hb hby at_192) rfl ?_
                refine own_ifYes X190 hx (pc' := 200) (hb hby at_193) ((if0 _ _).trans (feq ((by first | (rw [hca]; done) | (rw [hca]; decide)) : ¬ ((p1 &&& (3 : Int32)) = (0 : Int32)))).2) (by decide) (by decide) ?_
                show Goes _ _ _ _ _ _ (T190.setTop (mkF m 200 #[.val (.int p1), .val (.int p2), .val (.int p3), .val (.int (p1 &&& (3 : Int32))), .val (.int ((p2 &&& (2147483647 : Int32)) % ((p1 &&& (3 : Int32)) + (1 : Int32)))), .val (.ref b160), .val (.int (if (0 : Int32) = (0 : Int32) then (1 : Int32) else (0 : Int32))), .val (.int (if ((((0 : Int32) + (1 : Int32)) + (1 : Int32)) + (1 : Int32)) = (0 : Int32) then (1 : Int32) else (0 : Int32))), .val (.int (if (((((((0 : Int32) + (1 : Int32)) + (1 : Int32)) + (1 : Int32)) - (1 : Int32)) - (1 : Int32)) - (1 : Int32)) = (0 : Int32) then (1 : Int32) else (0 : Int32)))] [(.int (if ((((0 : Int32) + (1 : Int32)) + (1 : Int32)) + (1 : Int32)) = (0 : Int32) then (1 : Int32) else (0 : Int32)))]))
                refine own_iconst X190 hx (v := (0 : Int32)) (hb hby at_200) rfl ?_
                refine own_icmpNo X190 hx (hb hby at_201) (teq ((by first | (rw [if_neg (show ¬ (((((0 : Int32) + (1 : Int32)) + (1 : Int32)) + (1 : Int32)) = (0 : Int32)) by decide)]; done) | (rw [if_neg (show ¬ (((((0 : Int32) + (1 : Int32)) + (1 : Int32)) + (1 : Int32)) = (0 : Int32)) by decide)]; decide)) : (if ((((0 : Int32) + (1 : Int32)) + (1 : Int32)) + (1 : Int32)) = (0 : Int32) then (1 : Int32) else (0 : Int32)) = (0 : Int32))).2 ?_
                show Goes _ _ _ _ _ _ (T190.setTop (mkF m 204 #[.val (.int p1), .val (.int p2), .val (.int p3), .val (.int (p1 &&& (3 : Int32))), .val (.int ((p2 &&& (2147483647 : Int32)) % ((p1 &&& (3 : Int32)) + (1 : Int32)))), .val (.ref b160), .val (.int (if (0 : Int32) = (0 : Int32) then (1 : Int32) else (0 : Int32))), .val (.int (if ((((0 : Int32) + (1 : Int32)) + (1 : Int32)) + (1 : Int32)) = (0 : Int32) then (1 : Int32) else (0 : Int32))), .val (.int (if (((((((0 : Int32) + (1 : Int32)) + (1 : Int32)) + (1 : Int32)) - (1 : Int32)) - (1 : Int32)) - (1 : Int32)) = (0 : Int32) then (1 : Int32) else (0 : Int32)))] []))
                refine own_iload X190 hx (hb hby at_204) rfl ?_
                refine own_iloadN X190 hx (hb hby at_206) rfl ?_
                refine own_iload X190 hx (hb hby at_207) rfl ?_
                refine own_icmpNo X190 hx (hb hby at_209) (teq ((by first | (rw [hca, hcr]; done) | (rw [hca, hcr]; decide) | (rw [hcr, hca]; done) | (rw [hcr, hca]; decide)) : (p1 &&& (3 : Int32)) = ((p2 &&& (2147483647 : Int32)) % ((p1 &&& (3 : Int32)) + (1 : Int32))))).2 ?_
                show Goes _ _ _ _ _ _ (T190.setTop (mkF m 212 #[.val (.int p1), .val (.int p2), .val (.int p3), .val (.int (p1 &&& (3 : Int32))), .val (.int ((p2 &&& (2147483647 : Int32)) % ((p1 &&& (3 : Int32)) + (1 : Int32)))), .val (.ref b160), .val (.int (if (0 : Int32) = (0 : Int32) then (1 : Int32) else (0 : Int32))), .val (.int (if ((((0 : Int32) + (1 : Int32)) + (1 : Int32)) + (1 : Int32)) = (0 : Int32) then (1 : Int32) else (0 : Int32))), .val (.int (if (((((((0 : Int32) + (1 : Int32)) + (1 : Int32)) + (1 : Int32)) - (1 : Int32)) - (1 : Int32)) - (1 : Int32)) = (0 : Int32) then (1 : Int32) else (0 : Int32)))] [(.int (if (((((((0 : Int32) + (1 : Int32)) + (1 : Int32)) + (1 : Int32)) - (1 : Int32)) - (1 : Int32)) - (1 : Int32)) = (0 : Int32) then (1 : Int32) else (0 : Int32)))]))
                refine own_iconst X190 hx (v := (1 : Int32)) (hb hby at_212) rfl ?_
                refine own_goto X190 hx (pc' := 217) (hb hby at_213) (by decide) (by decide) ?_
                refine own_icmpNo X190 hx (hb hby at_217) (teq ((by first | (rw [if_pos (show (((((((0 : Int32) + (1 : Int32)) + (1 : Int32)) + (1 : Int32)) - (1 : Int32)) - (1 : Int32)) - (1 : Int32)) = (0 : Int32) by decide)]; done) | (rw [if_pos (show (((((((0 : Int32) + (1 : Int32)) + (1 : Int32)) + (1 : Int32)) - (1 : Int32)) - (1 : Int32)) - (1 : Int32)) = (0 : Int32) by decide)]; decide)) : (if (((((((0 : Int32) + (1 : Int32)) + (1 : Int32)) + (1 : Int32)) - (1 : Int32)) - (1 : Int32)) - (1 : Int32)) = (0 : Int32) then (1 : Int32) else (0 : Int32)) = (1 : Int32))).2 ?_
                show Goes _ _ _ _ _ _ (T190.setTop (mkF m 220 #[.val (.int p1), .val (.int p2), .val (.int p3), .val (.int (p1 &&& (3 : Int32))), .val (.int ((p2 &&& (2147483647 : Int32)) % ((p1 &&& (3 : Int32)) + (1 : Int32)))), .val (.ref b160), .val (.int (if (0 : Int32) = (0 : Int32) then (1 : Int32) else (0 : Int32))), .val (.int (if ((((0 : Int32) + (1 : Int32)) + (1 : Int32)) + (1 : Int32)) = (0 : Int32) then (1 : Int32) else (0 : Int32))), .val (.int (if (((((((0 : Int32) + (1 : Int32)) + (1 : Int32)) + (1 : Int32)) - (1 : Int32)) - (1 : Int32)) - (1 : Int32)) = (0 : Int32) then (1 : Int32) else (0 : Int32)))] []))
                refine own_iconst X190 hx (v := (1 : Int32)) (hb hby at_220) rfl ?_
                refine own_goto X190 hx (pc' := 225) (hb hby at_221) (by decide) (by decide) ?_
                show Goes _ _ _ _ _ _ (T190.setTop (mkF m 225 #[.val (.int p1), .val (.int p2), .val (.int p3), .val (.int (p1 &&& (3 : Int32))), .val (.int ((p2 &&& (2147483647 : Int32)) % ((p1 &&& (3 : Int32)) + (1 : Int32)))), .val (.ref b160), .val (.int (if (0 : Int32) = (0 : Int32) then (1 : Int32) else (0 : Int32))), .val (.int (if ((((0 : Int32) + (1 : Int32)) + (1 : Int32)) + (1 : Int32)) = (0 : Int32) then (1 : Int32) else (0 : Int32))), .val (.int (if (((((((0 : Int32) + (1 : Int32)) + (1 : Int32)) + (1 : Int32)) - (1 : Int32)) - (1 : Int32)) - (1 : Int32)) = (0 : Int32) then (1 : Int32) else (0 : Int32)))] [(.int (1 : Int32))]))
                exact own_retNW X190 hx (t := .boolean) hS175 (by rw [e190]; exact hk189) N190 hlk (by decide) (by decide) hret (by simp) (hb hby at_225) (by rw [e190]; exact rfl)
              by_cases hc167_186 : (p3 &&& (32 : Int32)) = (0 : Int32)
              ·
                refine own_ifYes X184 hx (pc' := 174) (hb hby at_167) ((if0 _ _).trans (teq (hc167_186 : (p3 &&& (32 : Int32)) = (0 : Int32))).1) (by decide) (by decide) ?_
                show Goes _ _ _ _ _ _ (T184.setTop (mkF m 174 #[.val (.int p1), .val (.int p2), .val (.int p3), .val (.int (p1 &&& (3 : Int32))), .val (.int ((p2 &&& (2147483647 : Int32)) % ((p1 &&& (3 : Int32)) + (1 : Int32)))), .val (.ref b160), .val (.int (if (0 : Int32) = (0 : Int32) then (1 : Int32) else (0 : Int32))), .val (.int (if ((((0 : Int32) + (1 : Int32)) + (1 : Int32)) + (1 : Int32)) = (0 : Int32) then (1 : Int32) else (0 : Int32))), .unset] [(.ref b160)]))
                refine own_iconst X184 hx (v := (0 : Int32)) (hb hby at_174) rfl ?_
                show Goes _ _ _ _ _ _ (T184.setTop (mkF m 175 #[.val (.int p1), .val (.int p2), .val (.int p3), .val (.int (p1 &&& (3 : Int32))), .val (.int ((p2 &&& (2147483647 : Int32)) % ((p1 &&& (3 : Int32)) + (1 : Int32)))), .val (.ref b160), .val (.int (if (0 : Int32) = (0 : Int32) then (1 : Int32) else (0 : Int32))), .val (.int (if ((((0 : Int32) + (1 : Int32)) + (1 : Int32)) + (1 : Int32)) = (0 : Int32) then (1 : Int32) else (0 : Int32))), .unset] [(.int (0 : Int32)), (.ref b160)]))
                exact jn175_187 T184 _ X184 N184 rfl (0 : Int32) trivial
              ·
                refine own_ifNo X184 hx (hb hby at_167) ((if0 _ _).trans (feq (hc167_186 : ¬ ((p3 &&& (32 : Int32)) = (0 : Int32)))).1) ?_
                show Goes _ _ _ _ _ _ (T184.setTop (mkF m 170 #[.val (.int p1), .val (.int p2), .val (.int p3), .val (.int (p1 &&& (3 : Int32))), .val (.int ((p2 &&& (2147483647 : Int32)) % ((p1 &&& (3 : Int32)) + (1 : Int32)))), .val (.ref b160), .val (.int (if (0 : Int32) = (0 : Int32) then (1 : Int32) else (0 : Int32))), .val (.int (if ((((0 : Int32) + (1 : Int32)) + (1 : Int32)) + (1 : Int32)) = (0 : Int32) then (1 : Int32) else (0 : Int32))), .unset] [(.ref b160)]))
                refine own_iconst X184 hx (v := (1 : Int32)) (hb hby at_170) rfl ?_
                refine own_goto X184 hx (pc' := 175) (hb hby at_171) (by decide) (by decide) ?_
                show Goes _ _ _ _ _ _ (T184.setTop (mkF m 175 #[.val (.int p1), .val (.int p2), .val (.int p3), .val (.int (p1 &&& (3 : Int32))), .val (.int ((p2 &&& (2147483647 : Int32)) % ((p1 &&& (3 : Int32)) + (1 : Int32)))), .val (.ref b160), .val (.int (if (0 : Int32) = (0 : Int32) then (1 : Int32) else (0 : Int32))), .val (.int (if ((((0 : Int32) + (1 : Int32)) + (1 : Int32)) + (1 : Int32)) = (0 : Int32) then (1 : Int32) else (0 : Int32))), .unset] [(.int (1 : Int32)), (.ref b160)]))
                exact jn175_187 T184 _ X184 N184 rfl (1 : Int32) trivial
            by_cases hc144_182 : (p3 &&& (16 : Int32)) = (0 : Int32)
            ·
              refine own_ifYes X180 hx (pc' := 151) (hb hby at_144) ((if0 _ _).trans (teq (hc144_182 : (p3 &&& (16 : Int32)) = (0 : Int32))).1) (by decide) (by decide) ?_
              show Goes _ _ _ _ _ _ (T180.setTop (mkF m 151 #[.val (.int p1), .val (.int p2), .val (.int p3), .val (.int (p1 &&& (3 : Int32))), .val (.int ((p2 &&& (2147483647 : Int32)) % ((p1 &&& (3 : Int32)) + (1 : Int32)))), .val (.ref b160), .val (.int (if (0 : Int32) = (0 : Int32) then (1 : Int32) else (0 : Int32))), .val (.int (if ((((0 : Int32) + (1 : Int32)) + (1 : Int32)) + (1 : Int32)) = (0 : Int32) then (1 : Int32) else (0 : Int32))), .unset] [(.ref b160)]))
              refine own_iconst X180 hx (v := (0 : Int32)) (hb hby at_151) rfl ?_
              show Goes _ _ _ _ _ _ (T180.setTop (mkF m 152 #[.val (.int p1), .val (.int p2), .val (.int p3), .val (.int (p1 &&& (3 : Int32))), .val (.int ((p2 &&& (2147483647 : Int32)) % ((p1 &&& (3 : Int32)) + (1 : Int32)))), .val (.ref b160), .val (.int (if (0 : Int32) = (0 : Int32) then (1 : Int32) else (0 : Int32))), .val (.int (if ((((0 : Int32) + (1 : Int32)) + (1 : Int32)) + (1 : Int32)) = (0 : Int32) then (1 : Int32) else (0 : Int32))), .unset] [(.int (0 : Int32)), (.ref b160)]))
              exact jn152_183 T180 _ X180 N180 rfl (0 : Int32) trivial
            ·
              refine own_ifNo X180 hx (hb hby at_144) ((if0 _ _).trans (feq (hc144_182 : ¬ ((p3 &&& (16 : Int32)) = (0 : Int32)))).1) ?_
              show Goes _ _ _ _ _ _ (T180.setTop (mkF m 147 #[.val (.int p1), .val (.int p2), .val (.int p3), .val (.int (p1 &&& (3 : Int32))), .val (.int ((p2 &&& (2147483647 : Int32)) % ((p1 &&& (3 : Int32)) + (1 : Int32)))), .val (.ref b160), .val (.int (if (0 : Int32) = (0 : Int32) then (1 : Int32) else (0 : Int32))), .val (.int (if ((((0 : Int32) + (1 : Int32)) + (1 : Int32)) + (1 : Int32)) = (0 : Int32) then (1 : Int32) else (0 : Int32))), .unset] [(.ref b160)]))
              refine own_iconst X180 hx (v := (1 : Int32)) (hb hby at_147) rfl ?_
              refine own_goto X180 hx (pc' := 152) (hb hby at_148) (by decide) (by decide) ?_
              show Goes _ _ _ _ _ _ (T180.setTop (mkF m 152 #[.val (.int p1), .val (.int p2), .val (.int p3), .val (.int (p1 &&& (3 : Int32))), .val (.int ((p2 &&& (2147483647 : Int32)) % ((p1 &&& (3 : Int32)) + (1 : Int32)))), .val (.ref b160), .val (.int (if (0 : Int32) = (0 : Int32) then (1 : Int32) else (0 : Int32))), .val (.int (if ((((0 : Int32) + (1 : Int32)) + (1 : Int32)) + (1 : Int32)) = (0 : Int32) then (1 : Int32) else (0 : Int32))), .unset] [(.int (1 : Int32)), (.ref b160)]))
              exact jn152_183 T180 _ X180 N180 rfl (1 : Int32) trivial
          by_cases hc121_178 : (p3 &&& (8 : Int32)) = (0 : Int32)
          ·
            refine own_ifYes X177 hx (pc' := 128) (hb hby at_121) ((if0 _ _).trans (teq (hc121_178 : (p3 &&& (8 : Int32)) = (0 : Int32))).1) (by decide) (by decide) ?_
            show Goes _ _ _ _ _ _ (T177.setTop (mkF m 128 #[.val (.int p1), .val (.int p2), .val (.int p3), .val (.int (p1 &&& (3 : Int32))), .val (.int ((p2 &&& (2147483647 : Int32)) % ((p1 &&& (3 : Int32)) + (1 : Int32)))), .val (.ref b160), .val (.int (if (0 : Int32) = (0 : Int32) then (1 : Int32) else (0 : Int32))), .val (.int (if ((((0 : Int32) + (1 : Int32)) + (1 : Int32)) + (1 : Int32)) = (0 : Int32) then (1 : Int32) else (0 : Int32))), .unset] [(.ref b160)]))
            refine own_iconst X177 hx (v := (0 : Int32)) (hb hby at_128) rfl ?_
            show Goes _ _ _ _ _ _ (T177.setTop (mkF m 129 #[.val (.int p1), .val (.int p2), .val (.int p3), .val (.int (p1 &&& (3 : Int32))), .val (.int ((p2 &&& (2147483647 : Int32)) % ((p1 &&& (3 : Int32)) + (1 : Int32)))), .val (.ref b160), .val (.int (if (0 : Int32) = (0 : Int32) then (1 : Int32) else (0 : Int32))), .val (.int (if ((((0 : Int32) + (1 : Int32)) + (1 : Int32)) + (1 : Int32)) = (0 : Int32) then (1 : Int32) else (0 : Int32))), .unset] [(.int (0 : Int32)), (.ref b160)]))
            exact jn129_179 T177 _ X177 N177 e177 (0 : Int32) trivial
          ·
            refine own_ifNo X177 hx (hb hby at_121) ((if0 _ _).trans (feq (hc121_178 : ¬ ((p3 &&& (8 : Int32)) = (0 : Int32)))).1) ?_
            show Goes _ _ _ _ _ _ (T177.setTop (mkF m 124 #[.val (.int p1), .val (.int p2), .val (.int p3), .val (.int (p1 &&& (3 : Int32))), .val (.int ((p2 &&& (2147483647 : Int32)) % ((p1 &&& (3 : Int32)) + (1 : Int32)))), .val (.ref b160), .val (.int (if (0 : Int32) = (0 : Int32) then (1 : Int32) else (0 : Int32))), .val (.int (if ((((0 : Int32) + (1 : Int32)) + (1 : Int32)) + (1 : Int32)) = (0 : Int32) then (1 : Int32) else (0 : Int32))), .unset] [(.ref b160)]))
            refine own_iconst X177 hx (v := (1 : Int32)) (hb hby at_124) rfl ?_
            refine own_goto X177 hx (pc' := 129) (hb hby at_125) (by decide) (by decide) ?_
            show Goes _ _ _ _ _ _ (T177.setTop (mkF m 129 #[.val (.int p1), .val (.int p2), .val (.int p3), .val (.int (p1 &&& (3 : Int32))), .val (.int ((p2 &&& (2147483647 : Int32)) % ((p1 &&& (3 : Int32)) + (1 : Int32)))), .val (.ref b160), .val (.int (if (0 : Int32) = (0 : Int32) then (1 : Int32) else (0 : Int32))), .val (.int (if ((((0 : Int32) + (1 : Int32)) + (1 : Int32)) + (1 : Int32)) = (0 : Int32) then (1 : Int32) else (0 : Int32))), .unset] [(.int (1 : Int32)), (.ref b160)]))
            exact jn129_179 T177 _ X177 N177 e177 (1 : Int32) trivial
        by_cases hc87_173 : (p3 &&& (4 : Int32)) = (0 : Int32)
        ·
          refine own_ifYes X171 hx (pc' := 94) (hb hby at_87) ((if0 _ _).trans (teq (hc87_173 : (p3 &&& (4 : Int32)) = (0 : Int32))).1) (by decide) (by decide) ?_
          show Goes _ _ _ _ _ _ (T171.setTop (mkF m 94 #[.val (.int p1), .val (.int p2), .val (.int p3), .val (.int (p1 &&& (3 : Int32))), .val (.int ((p2 &&& (2147483647 : Int32)) % ((p1 &&& (3 : Int32)) + (1 : Int32)))), .val (.ref b160), .val (.int (if (0 : Int32) = (0 : Int32) then (1 : Int32) else (0 : Int32))), .unset, .unset] [(.ref b160)]))
          refine own_iconst X171 hx (v := (0 : Int32)) (hb hby at_94) rfl ?_
          show Goes _ _ _ _ _ _ (T171.setTop (mkF m 95 #[.val (.int p1), .val (.int p2), .val (.int p3), .val (.int (p1 &&& (3 : Int32))), .val (.int ((p2 &&& (2147483647 : Int32)) % ((p1 &&& (3 : Int32)) + (1 : Int32)))), .val (.ref b160), .val (.int (if (0 : Int32) = (0 : Int32) then (1 : Int32) else (0 : Int32))), .unset, .unset] [(.int (0 : Int32)), (.ref b160)]))
          exact jn95_174 T171 _ X171 N171 rfl (0 : Int32) trivial
        ·
          refine own_ifNo X171 hx (hb hby at_87) ((if0 _ _).trans (feq (hc87_173 : ¬ ((p3 &&& (4 : Int32)) = (0 : Int32)))).1) ?_
          show Goes _ _ _ _ _ _ (T171.setTop (mkF m 90 #[.val (.int p1), .val (.int p2), .val (.int p3), .val (.int (p1 &&& (3 : Int32))), .val (.int ((p2 &&& (2147483647 : Int32)) % ((p1 &&& (3 : Int32)) + (1 : Int32)))), .val (.ref b160), .val (.int (if (0 : Int32) = (0 : Int32) then (1 : Int32) else (0 : Int32))), .unset, .unset] [(.ref b160)]))
          refine own_iconst X171 hx (v := (1 : Int32)) (hb hby at_90) rfl ?_
          refine own_goto X171 hx (pc' := 95) (hb hby at_91) (by decide) (by decide) ?_
          show Goes _ _ _ _ _ _ (T171.setTop (mkF m 95 #[.val (.int p1), .val (.int p2), .val (.int p3), .val (.int (p1 &&& (3 : Int32))), .val (.int ((p2 &&& (2147483647 : Int32)) % ((p1 &&& (3 : Int32)) + (1 : Int32)))), .val (.ref b160), .val (.int (if (0 : Int32) = (0 : Int32) then (1 : Int32) else (0 : Int32))), .unset, .unset] [(.int (1 : Int32)), (.ref b160)]))
          exact jn95_174 T171 _ X171 N171 rfl (1 : Int32) trivial
      by_cases hc62_169 : (p3 &&& (2 : Int32)) = (0 : Int32)
      ·
        refine own_ifYes X167 hx (pc' := 69) (hb hby at_62) ((if0 _ _).trans (teq (hc62_169 : (p3 &&& (2 : Int32)) = (0 : Int32))).1) (by decide) (by decide) ?_
        show Goes _ _ _ _ _ _ (T167.setTop (mkF m 69 #[.val (.int p1), .val (.int p2), .val (.int p3), .val (.int (p1 &&& (3 : Int32))), .val (.int ((p2 &&& (2147483647 : Int32)) % ((p1 &&& (3 : Int32)) + (1 : Int32)))), .val (.ref b160), .val (.int (if (0 : Int32) = (0 : Int32) then (1 : Int32) else (0 : Int32))), .unset, .unset] [(.ref b160)]))
        refine own_iconst X167 hx (v := (0 : Int32)) (hb hby at_69) rfl ?_
        show Goes _ _ _ _ _ _ (T167.setTop (mkF m 70 #[.val (.int p1), .val (.int p2), .val (.int p3), .val (.int (p1 &&& (3 : Int32))), .val (.int ((p2 &&& (2147483647 : Int32)) % ((p1 &&& (3 : Int32)) + (1 : Int32)))), .val (.ref b160), .val (.int (if (0 : Int32) = (0 : Int32) then (1 : Int32) else (0 : Int32))), .unset, .unset] [(.int (0 : Int32)), (.ref b160)]))
        exact jn70_170 T167 _ X167 N167 rfl (0 : Int32) trivial
      ·
        refine own_ifNo X167 hx (hb hby at_62) ((if0 _ _).trans (feq (hc62_169 : ¬ ((p3 &&& (2 : Int32)) = (0 : Int32)))).1) ?_
        show Goes _ _ _ _ _ _ (T167.setTop (mkF m 65 #[.val (.int p1), .val (.int p2), .val (.int p3), .val (.int (p1 &&& (3 : Int32))), .val (.int ((p2 &&& (2147483647 : Int32)) % ((p1 &&& (3 : Int32)) + (1 : Int32)))), .val (.ref b160), .val (.int (if (0 : Int32) = (0 : Int32) then (1 : Int32) else (0 : Int32))), .unset, .unset] [(.ref b160)]))
        refine own_iconst X167 hx (v := (1 : Int32)) (hb hby at_65) rfl ?_
        refine own_goto X167 hx (pc' := 70) (hb hby at_66) (by decide) (by decide) ?_
        show Goes _ _ _ _ _ _ (T167.setTop (mkF m 70 #[.val (.int p1), .val (.int p2), .val (.int p3), .val (.int (p1 &&& (3 : Int32))), .val (.int ((p2 &&& (2147483647 : Int32)) % ((p1 &&& (3 : Int32)) + (1 : Int32)))), .val (.ref b160), .val (.int (if (0 : Int32) = (0 : Int32) then (1 : Int32) else (0 : Int32))), .unset, .unset] [(.int (1 : Int32)), (.ref b160)]))
        exact jn70_170 T167 _ X167 N167 rfl (1 : Int32) trivial
    by_cases hc40_165 : (p3 &&& (1 : Int32)) = (0 : Int32)
    ·
      refine own_ifYes X164 hx (pc' := 47) (hb hby at_40) ((if0 _ _).trans (teq (hc40_165 : (p3 &&& (1 : Int32)) = (0 : Int32))).1) (by decide) (by decide) ?_
      show Goes _ _ _ _ _ _ (T164.setTop (mkF m 47 #[.val (.int p1), .val (.int p2), .val (.int p3), .val (.int (p1 &&& (3 : Int32))), .val (.int ((p2 &&& (2147483647 : Int32)) % ((p1 &&& (3 : Int32)) + (1 : Int32)))), .val (.ref b160), .val (.int (if (0 : Int32) = (0 : Int32) then (1 : Int32) else (0 : Int32))), .unset, .unset] [(.ref b160)]))
      refine own_iconst X164 hx (v := (0 : Int32)) (hb hby at_47) rfl ?_
      show Goes _ _ _ _ _ _ (T164.setTop (mkF m 48 #[.val (.int p1), .val (.int p2), .val (.int p3), .val (.int (p1 &&& (3 : Int32))), .val (.int ((p2 &&& (2147483647 : Int32)) % ((p1 &&& (3 : Int32)) + (1 : Int32)))), .val (.ref b160), .val (.int (if (0 : Int32) = (0 : Int32) then (1 : Int32) else (0 : Int32))), .unset, .unset] [(.int (0 : Int32)), (.ref b160)]))
      exact jn48_166 T164 _ X164 N164 e164 (0 : Int32) trivial
    ·
      refine own_ifNo X164 hx (hb hby at_40) ((if0 _ _).trans (feq (hc40_165 : ¬ ((p3 &&& (1 : Int32)) = (0 : Int32)))).1) ?_
      show Goes _ _ _ _ _ _ (T164.setTop (mkF m 43 #[.val (.int p1), .val (.int p2), .val (.int p3), .val (.int (p1 &&& (3 : Int32))), .val (.int ((p2 &&& (2147483647 : Int32)) % ((p1 &&& (3 : Int32)) + (1 : Int32)))), .val (.ref b160), .val (.int (if (0 : Int32) = (0 : Int32) then (1 : Int32) else (0 : Int32))), .unset, .unset] [(.ref b160)]))
      refine own_iconst X164 hx (v := (1 : Int32)) (hb hby at_43) rfl ?_
      refine own_goto X164 hx (pc' := 48) (hb hby at_44) (by decide) (by decide) ?_
      show Goes _ _ _ _ _ _ (T164.setTop (mkF m 48 #[.val (.int p1), .val (.int p2), .val (.int p3), .val (.int (p1 &&& (3 : Int32))), .val (.int ((p2 &&& (2147483647 : Int32)) % ((p1 &&& (3 : Int32)) + (1 : Int32)))), .val (.ref b160), .val (.int (if (0 : Int32) = (0 : Int32) then (1 : Int32) else (0 : Int32))), .unset, .unset] [(.int (1 : Int32)), (.ref b160)]))
      exact jn48_166 T164 _ X164 N164 e164 (1 : Int32) trivial
set_option maxRecDepth 65536 in
set_option maxHeartbeats 40000000 in
theorem comes_1 {Post : Tables → Env → Array Value → State → Outcome → State → Prop} (hpost : ∀ tb e args s v u, (limb_1_1.after args s (.returned v) u = true ∧ limb_1_2.after args s (.returned v) u = true ∧ True) → ReturnedEndW s (.returned v) u (Jvm.fieldLocs frame_1_writes args s ++ Jvm.arrayLocs frame_1_arrays args s ++ Jvm.staticLocs frame_1_statics s) 24 1152 → Post tb e args s (.returned v) u) :
    ArmFor flags0 classFile x code maxLocals ret World_1 tables_1 room_1 Calls_1 rest_1 Pre_1 Post := by
  intro l hfl _ _ p e ha hc hk s m args below hf hA hF happ hP
  obtain ⟨hcalls, hrest, hpre⟩ := hP
  obtain ⟨-, -, -, hnamed, -, -, -, hat⟩ := (Spec.applies_iff hf).mp happ
  obtain ⟨hg, hn⟩ := and_e (Cond.before_iff.mp (show (Jvm.Cond.and given_1 narrow_1).before args s = true from hpre))
  obtain ⟨hg1a, hg1b⟩ := and_e hg
  obtain ⟨hg2a, hg2b⟩ := and_e hg1b
  obtain ⟨hg3a, hg3b⟩ := and_e hg2b
  obtain ⟨w0, w1, w2, rfl⟩ : ∃ w0 w1 w2 : Value, args = #[w0, w1, w2] := by
    have hs : args.size = 3 := by simpa [Cond.value, given_1] using hg1a
    obtain ⟨L⟩ := args
    match L, hs with
    | [w0, w1, w2], _ => exact ⟨w0, w1, w2, rfl⟩
  have hw := fun d (hd : d ∈ tables_1) => atoms_spec (ws := Jvm.Cond.code x code maxLocals ret :: tables_1) hat d (List.mem_cons_of_mem _ hd)
  have hfit : Fit s := fun {y c} hc i hi => by
    obtain ⟨ha, rfl⟩ := Array.getElem?_eq_some_iff.mp hc
    have q := List.all_eq_true.mp ((Array.all_eq_true_iff_forall_mem.mp hF) _ (Array.getElem_mem ha)) i (List.mem_range.mpr hi)
    simpa [Array.getElem?_eq_getElem hi] using q
  obtain ⟨i0, ei0⟩ := is_v hg2a
  obtain rfl : w0 = (.int i0) := Option.some.inj ei0
  obtain ⟨i1, ei1⟩ := is_v hg3a
  obtain rfl : w1 = (.int i1) := Option.some.inj ei1
  obtain ⟨i2, ei2⟩ := is_v hg3b
  obtain rfl : w2 = (.int i2) := Option.some.inj ei2
  obtain ⟨n, o, h1, h2, h3, v, L, rfl, ⟨N, hQ⟩, hq⟩ := rm0 l s _ hw tables_1 i0 i1 i2 s.heap s.heap.size (Old.start s) p e ha hc hk s m _ below hf ((Spec.applies_iff_loose hf).mp happ).1 ⟨rfl, State.Warmed39.refl s, rfl⟩ trivial
  have hv : v = some (.int (1 : Int32)) := hQ
  subst hv
  refine ⟨n, _, h1, h2, h3, hpost _ _ _ _ _ _ ⟨Cond.after_iff.mpr rfl, Cond.after_iff.mpr (eq_i res_at (Term.int_eval (1)) rfl), trivial⟩ ⟨hq.1, hq.2.1, hq.2.2.1, hq.2.2.2.sift fun y hy => Or.inr (N y hy)⟩⟩
theorem main_1_1 : Claimed_1_1 := comes_1 fun _ _ _ _ _ _ h hF => ⟨h.1, hF⟩
theorem main_1_2 : Claimed_1_2 := comes_1 fun _ _ _ _ _ _ h hF => ⟨h.2.1, hF⟩
end Jvm.Pilot.@@N@@
namespace Jvm.Pilot.@@N@@
open Jvm Jvm.ClassFile Sem Op Lib Jvm.Free Jvm.Stand Jvm.Pilot.@@N@@.Jvm.D
/-! MADE BY PROGRAM (witnessworld.py) out of the Statement's table words and the real class files: 17 classes; the members and pool entries that the words name. The judged class is class 1, her method 3. -/
namespace start1
open Jvm.ClassFile
def u (s : String) : CpInfo := .utf8 (stringToUtf16 s)
/-- a pool by its gaps: so many unusable entries, then the entry; so many at the end -/
def gap : Nat → List CpInfo → List CpInfo
  | 0, r => r
  | n + 1, r => .unusable :: gap n r
def poolList (es : List (Nat × CpInfo)) (last : Nat) : List CpInfo := es.foldr (fun e r => gap e.1 (e.2 :: r)) (gap last [])
def pool (es : List (Nat × CpInfo)) (last : Nat) : Array CpInfo := ⟨poolList es last⟩
def fileOf (pool : Array CpInfo) (this : Nat) (attrs : Array Attribute := #[]) (ms : Array MethodInfo := #[]) (fl : Nat := 33) (sup : Nat := 0) (ifs : Array Nat := #[]) (fds : Array FieldInfo := #[]) : ClassFile where
  minorVersion := 0
  majorVersion := 65
  constantPool := pool
  accessFlags := fl
  thisClass := this
  superClass := sup
  interfaces := ifs
  fields := fds
  methods := ms
  attributes := attrs
def plain (name : String) (sup : Option ClassId) : Class where
  name := name
  kind := .ordinary
  loader := none
  accessFlags := 33
  super := sup
  interfaces := #[]
  cf := none
  fields := #[]
  methods := #[]
  instanceTypes := #[]
  staticTypes := #[]
  resolved := #[]
  callSites := []
  init := .initialized
  statics := none
  mirror := none

def pool0 : Array CpInfo := pool [(5, u "<init>"), (0, u "()V"), (1, .class_ 10), (1, u "java/lang/Object")] 113

def k0c0 : Code := { maxStack := 0, maxLocals := 1, code := object_method_1_code, exceptionTable := #[], attributes := #[] }
def k0m0 : Method := { name := "<init>", desc := "()V", sig := { parameters := [], returnType := none }, accessFlags := 1, code := some k0c0 }
/-- java/lang/Object -/
def k0 : Class := { plain "java/lang/Object" none with
  accessFlags := 33
  interfaces := #[]
  cf := some (fileOf pool0 8 #[] #[{ accessFlags := 1, nameIndex := 5, descriptorIndex := 6, attributes := #[] }] 33 0 #[] #[])
  fields := #[]
  methods := #[k0m0]
  instanceTypes := #[]
  staticTypes := #[]
  resolved := Array.replicate 124 none
  statics := none }

def pool1 : Array CpInfo := pool [(2, .class_ 4), (0, .nameAndType 5 6), (0, u "java/lang/Object"), (0, u "<init>"), (0, u "()V"), (0, .methodref 8 9), (0, .class_ 10), (0, .nameAndType 11 12), (0, u "com/example/kache/kache/store/ListValue"), (0, u "addFirst"), (0, u "([B)V"), (0, .methodref 8 14), (0, .nameAndType 15 12), (0, u "addLast"), (0, .methodref 8 17), (0, .nameAndType 18 19), (0, u "removeFirst"), (0, u "()[B"), (0, .methodref 8 21), (0, .nameAndType 22 19), (0, u "removeLast"), (0, .integer 2147483647), (0, .methodref 8 3), (0, .methodref 8 26), (0, .nameAndType 27 28), (0, u "isEmpty"), (0, u "()Z"), (0, .methodref 30 31), (0, .class_ 32), (0, .nameAndType 33 34), (0, u "com/example/kache/kache/store/ListValueIsEmptyPinLaw"), (0, u "addOne"), (0, u "(Lcom/example/kache/kache/store/ListValue;ZI)V"), (0, .methodref 30 36), (0, .nameAndType 37 38), (0, u "removeOne"), (0, u "(Lcom/example/kache/kache/store/ListValue;Z)V"), (5, u "law"), (0, u "(III)Z")] 2

def k1m0 : Method := { name := "<init>", desc := "()V", sig := { parameters := [], returnType := none }, accessFlags := 2, code := none }
def k1c1 : Code := { maxStack := 3, maxLocals := 4, code := method_2_code, exceptionTable := #[], attributes := #[] }
def k1m1 : Method := { name := "addOne", desc := "(Lcom/example/kache/kache/store/ListValue;ZI)V", sig := { parameters := [(.object "com/example/kache/kache/store/ListValue"), .boolean, .int], returnType := none }, accessFlags := 10, code := some k1c1 }
def k1c2 : Code := { maxStack := 1, maxLocals := 2, code := method_3_code, exceptionTable := #[], attributes := #[] }
def k1m2 : Method := { name := "removeOne", desc := "(Lcom/example/kache/kache/store/ListValue;Z)V", sig := { parameters := [(.object "com/example/kache/kache/store/ListValue"), .boolean], returnType := none }, accessFlags := 10, code := some k1c2 }
def k1c3 : Code := { maxStack := 4, maxLocals := 9, code := code, exceptionTable := #[], attributes := #[] }
def k1m3 : Method := { name := "law", desc := "(III)Z", sig := { parameters := [.int, .int, .int], returnType := some .boolean }, accessFlags := 9, code := some k1c3 }
/-- com/example/kache/kache/store/ListValueIsEmptyPinLaw -/
def k1 : Class := { plain "com/example/kache/kache/store/ListValueIsEmptyPinLaw" (some 0) with
  accessFlags := 49
  interfaces := #[]
  cf := some (fileOf pool1 30 #[] #[{ accessFlags := 2, nameIndex := 5, descriptorIndex := 6, attributes := #[] }, { accessFlags := 10, nameIndex := 33, descriptorIndex := 34, attributes := #[] }, { accessFlags := 10, nameIndex := 37, descriptorIndex := 38, attributes := #[] }, { accessFlags := 9, nameIndex := 44, descriptorIndex := 45, attributes := #[] }] 49 2 #[] #[])
  fields := #[]
  methods := #[k1m0, k1m1, k1m2, k1m3]
  instanceTypes := #[]
  staticTypes := #[]
  resolved := Array.replicate 48 none
  statics := none }

def pool2 : Array CpInfo := pool [(1, .class_ 2), (0, u "com/example/kache/kache/store/ElementsValue"), (0, .class_ 4), (0, u "java/lang/Object")] 6

/-- com/example/kache/kache/store/ElementsValue -/
def k2 : Class := { plain "com/example/kache/kache/store/ElementsValue" (some 0) with
  accessFlags := 1536
  interfaces := #[]
  cf := some (fileOf pool2 1 #[] #[] 1536 3 #[] #[])
  fields := #[]
  methods := #[]
  instanceTypes := #[]
  staticTypes := #[]
  resolved := Array.replicate 11 none
  statics := none }

def pool3 : Array CpInfo := pool [(3, .methodref 4 5), (0, .class_ 6), (0, .nameAndType 7 8), (0, u "java/lang/Object"), (0, u "<init>"), (0, u "()V"), (0, .class_ 10), (0, u "com/example/kache/kache/store/ListValue"), (0, .class_ 12), (0, u "[B"), (0, .fieldref 9 14), (0, .nameAndType 15 16), (0, u "ring"), (0, u "[[B"), (0, .fieldref 9 18), (0, .nameAndType 19 20), (0, u "size"), (0, u "I"), (1, .methodref 9 23), (0, .nameAndType 24 25), (0, u "slot"), (0, u "(I)I"), (0, .methodref 27 28), (0, .class_ 29), (0, .nameAndType 30 31), (0, u "java/util/Objects"), (0, u "checkIndex"), (0, u "(II)I"), (0, .string 33), (0, u "element"), (0, .methodref 27 35), (0, .nameAndType 36 37), (0, u "requireNonNull"), (0, u "(Ljava/lang/Object;Ljava/lang/String;)Ljava/lang/Object;"), (0, .methodref 9 39), (0, .nameAndType 40 8), (0, u "makeRoomForOneMore"), (0, .fieldref 9 42), (0, .nameAndType 43 20), (0, u "head"), (0, .methodref 9 45), (0, .nameAndType 46 47), (0, u "get"), (0, u "(I)[B"), (0, .methodref 9 49), (0, .nameAndType 50 8), (0, u "shrinkIfSparse"), (18, .integer 2147483639), (7, .long 2), (1, .long 2147483639), (18, .class_ 99), (0, u "com/example/kache/kache/store/ElementsValue"), (0, u "MAX_SIZE"), (1, u "MIN_CAPACITY"), (4, u "isEmpty"), (0, u "()Z"), (1, u "addFirst"), (0, u "([B)V"), (0, u "addLast"), (0, u "removeFirst"), (0, u "()[B"), (0, u "removeLast")] 8

def k3c0 : Code := { maxStack := 2, maxLocals := 1, code := prog_15_method_1_code, exceptionTable := #[], attributes := #[] }
def k3m0 : Method := { name := "<init>", desc := "()V", sig := { parameters := [], returnType := none }, accessFlags := 1, code := some k3c0 }
def k3c1 : Code := { maxStack := 1, maxLocals := 1, code := prog_15_method_3_code, exceptionTable := #[], attributes := #[] }
def k3m1 : Method := { name := "isEmpty", desc := "()Z", sig := { parameters := [], returnType := some .boolean }, accessFlags := 1, code := some k3c1 }
def k3c2 : Code := { maxStack := 3, maxLocals := 2, code := prog_15_method_5_code, exceptionTable := #[], attributes := #[] }
def k3m2 : Method := { name := "get", desc := "(I)[B", sig := { parameters := [.int], returnType := some (.array .byte) }, accessFlags := 1, code := some k3c2 }
def k3c3 : Code := { maxStack := 3, maxLocals := 2, code := prog_15_method_6_code, exceptionTable := #[], attributes := #[] }
def k3m3 : Method := { name := "addFirst", desc := "([B)V", sig := { parameters := [(.array .byte)], returnType := none }, accessFlags := 1, code := some k3c3 }
def k3c4 : Code := { maxStack := 3, maxLocals := 2, code := prog_15_method_7_code, exceptionTable := #[], attributes := #[] }
def k3m4 : Method := { name := "addLast", desc := "([B)V", sig := { parameters := [(.array .byte)], returnType := none }, accessFlags := 1, code := some k3c4 }
def k3c5 : Code := { maxStack := 3, maxLocals := 2, code := prog_15_method_8_code, exceptionTable := #[], attributes := #[] }
def k3m5 : Method := { name := "removeFirst", desc := "()[B", sig := { parameters := [], returnType := some (.array .byte) }, accessFlags := 1, code := some k3c5 }
def k3c6 : Code := { maxStack := 4, maxLocals := 2, code := prog_15_method_9_code, exceptionTable := #[], attributes := #[] }
def k3m6 : Method := { name := "removeLast", desc := "()[B", sig := { parameters := [], returnType := some (.array .byte) }, accessFlags := 1, code := some k3c6 }
def k3c7 : Code := { maxStack := 2, maxLocals := 3, code := prog_15_method_15_code, exceptionTable := #[], attributes := #[] }
def k3m7 : Method := { name := "slot", desc := "(I)I", sig := { parameters := [.int], returnType := some .int }, accessFlags := 2, code := some k3c7 }
def k3c8 : Code := { maxStack := 5, maxLocals := 1, code := prog_15_method_16_code, exceptionTable := #[], attributes := #[] }
def k3m8 : Method := { name := "makeRoomForOneMore", desc := "()V", sig := { parameters := [], returnType := none }, accessFlags := 2, code := some k3c8 }
def k3c9 : Code := { maxStack := 4, maxLocals := 1, code := prog_15_method_17_code, exceptionTable := #[], attributes := #[] }
def k3m9 : Method := { name := "shrinkIfSparse", desc := "()V", sig := { parameters := [], returnType := none }, accessFlags := 2, code := some k3c9 }
/-- com/example/kache/kache/store/ListValue -/
def k3 : Class := { plain "com/example/kache/kache/store/ListValue" (some 0) with
  accessFlags := 49
  interfaces := #[2]
  cf := some (fileOf pool3 9 #[] #[{ accessFlags := 1, nameIndex := 7, descriptorIndex := 8, attributes := #[] }, { accessFlags := 1, nameIndex := 107, descriptorIndex := 108, attributes := #[] }, { accessFlags := 1, nameIndex := 46, descriptorIndex := 47, attributes := #[] }, { accessFlags := 1, nameIndex := 110, descriptorIndex := 111, attributes := #[] }, { accessFlags := 1, nameIndex := 112, descriptorIndex := 111, attributes := #[] }, { accessFlags := 1, nameIndex := 113, descriptorIndex := 114, attributes := #[] }, { accessFlags := 1, nameIndex := 115, descriptorIndex := 114, attributes := #[] }, { accessFlags := 2, nameIndex := 24, descriptorIndex := 25, attributes := #[] }, { accessFlags := 2, nameIndex := 40, descriptorIndex := 8, attributes := #[] }, { accessFlags := 2, nameIndex := 50, descriptorIndex := 8, attributes := #[] }] 49 4 #[98] #[{ accessFlags := 25, nameIndex := 100, descriptorIndex := 20, attributes := #[] }, { accessFlags := 26, nameIndex := 102, descriptorIndex := 20, attributes := #[] }, { accessFlags := 2, nameIndex := 15, descriptorIndex := 16, attributes := #[] }, { accessFlags := 2, nameIndex := 43, descriptorIndex := 20, attributes := #[] }, { accessFlags := 2, nameIndex := 19, descriptorIndex := 20, attributes := #[] }])
  fields := #[{ name := "MAX_SIZE", type := .int, accessFlags := 25, slot := 0, constantValue := 0 }, { name := "MIN_CAPACITY", type := .int, accessFlags := 26, slot := 1, constantValue := 0 }, { name := "ring", type := (.array (.array .byte)), accessFlags := 2, slot := 0, constantValue := 0 }, { name := "head", type := .int, accessFlags := 2, slot := 1, constantValue := 0 }, { name := "size", type := .int, accessFlags := 2, slot := 2, constantValue := 0 }]
  methods := #[k3m0, k3m1, k3m2, k3m3, k3m4, k3m5, k3m6, k3m7, k3m8, k3m9]
  instanceTypes := #[(.array (.array .byte)), .int, .int]
  staticTypes := #[.int, .int]
  resolved := Array.replicate 124 none
  statics := none }

def pool4 : Array CpInfo := pool [(1, .class_ 2), (0, u "java/io/Serializable"), (0, .class_ 4), (0, u "java/lang/Object")] 2

/-- java/io/Serializable -/
def k4 : Class := { plain "java/io/Serializable" (some 0) with
  accessFlags := 1537
  interfaces := #[]
  cf := some (fileOf pool4 1 #[] #[] 1537 3 #[] #[])
  fields := #[]
  methods := #[]
  instanceTypes := #[]
  staticTypes := #[]
  resolved := Array.replicate 7 none
  statics := none }

def pool5 : Array CpInfo := pool [(1, .class_ 2), (0, u "java/lang/Comparable"), (0, .class_ 4), (0, u "java/lang/Object")] 7

/-- java/lang/Comparable -/
def k5 : Class := { plain "java/lang/Comparable" (some 0) with
  accessFlags := 1537
  interfaces := #[]
  cf := some (fileOf pool5 1 #[] #[] 1537 3 #[] #[])
  fields := #[]
  methods := #[]
  instanceTypes := #[]
  staticTypes := #[]
  resolved := Array.replicate 12 none
  statics := none }

def pool6 : Array CpInfo := pool [(2, .class_ 4), (1, u "java/lang/CharSequence"), (42, .class_ 48), (0, u "java/lang/CharSequence$1CodePointIterator"), (10, .class_ 60), (0, u "java/lang/CharSequence$1CharIterator"), (5, .class_ 67), (0, u "java/lang/Object")] 63

/-- java/lang/CharSequence -/
def k6 : Class := { plain "java/lang/CharSequence" (some 0) with
  accessFlags := 1537
  interfaces := #[]
  cf := some (fileOf pool6 2 #[.nestMembers #[47, 59]] #[] 1537 66 #[] #[])
  fields := #[]
  methods := #[]
  instanceTypes := #[]
  staticTypes := #[]
  resolved := Array.replicate 131 none
  statics := none }

def pool7 : Array CpInfo := pool [(1, .class_ 2), (0, u "java/lang/constant/Constable"), (0, .class_ 4), (0, u "java/lang/Object")] 6

/-- java/lang/constant/Constable -/
def k7 : Class := { plain "java/lang/constant/Constable" (some 0) with
  accessFlags := 1537
  interfaces := #[]
  cf := some (fileOf pool7 1 #[] #[] 1537 3 #[] #[])
  fields := #[]
  methods := #[]
  instanceTypes := #[]
  staticTypes := #[]
  resolved := Array.replicate 11 none
  statics := none }

def pool8 : Array CpInfo := pool [(1, .class_ 2), (0, u "java/lang/constant/ConstantDesc"), (0, .class_ 4), (0, u "java/lang/Object")] 32

/-- java/lang/constant/ConstantDesc -/
def k8 : Class := { plain "java/lang/constant/ConstantDesc" (some 0) with
  accessFlags := 1537
  interfaces := #[]
  cf := some (fileOf pool8 1 #[] #[] 1537 3 #[] #[])
  fields := #[]
  methods := #[]
  instanceTypes := #[]
  staticTypes := #[]
  resolved := Array.replicate 37 none
  statics := none }

def pool9 : Array CpInfo := pool [(2, .class_ 4), (1, u "java/lang/Object"), (0, u "<init>"), (0, u "()V"), (3, .class_ 12), (1, u "java/lang/String"), (0, u "value"), (0, u "[B"), (2, u "coder"), (0, u "B"), (2, u "hash"), (0, u "I"), (2, u "hashIsZero"), (0, u "Z"), (13, u "COMPACT_STRINGS"), (534, .class_ 576), (0, u "java/lang/CharSequence"), (22, u "CASE_INSENSITIVE_ORDER"), (0, u "Ljava/util/Comparator;"), (500, u "serialPersistentFields"), (0, u "[Ljava/io/ObjectStreamField;"), (0, .class_ 1104), (0, u "java/lang/String$CaseInsensitiveComparator"), (1, .class_ 1107), (0, u "java/io/Serializable"), (0, .class_ 1109), (0, u "java/lang/Comparable"), (0, .class_ 1111), (0, u "java/lang/constant/Constable"), (0, .class_ 1113), (0, u "java/lang/constant/ConstantDesc"), (2, u "serialVersionUID"), (0, u "J"), (3, u "REPL"), (0, u "C"), (2, u "LATIN1"), (1, u "UTF16")] 323

def k9m0 : Method := { name := "<init>", desc := "()V", sig := { parameters := [], returnType := none }, accessFlags := 1, code := none }
/-- java/lang/String -/
def k9 : Class := { plain "java/lang/String" (some 0) with
  accessFlags := 49
  interfaces := #[4, 5, 6, 7, 8]
  cf := some (fileOf pool9 10 #[.nestMembers #[1103]] #[{ accessFlags := 1, nameIndex := 5, descriptorIndex := 6, attributes := #[] }] 49 2 #[1106, 1108, 575, 1110, 1112] #[{ accessFlags := 18, nameIndex := 13, descriptorIndex := 14, attributes := #[] }, { accessFlags := 18, nameIndex := 17, descriptorIndex := 18, attributes := #[] }, { accessFlags := 2, nameIndex := 21, descriptorIndex := 22, attributes := #[] }, { accessFlags := 2, nameIndex := 25, descriptorIndex := 26, attributes := #[] }, { accessFlags := 26, nameIndex := 1116, descriptorIndex := 1117, attributes := #[] }, { accessFlags := 24, nameIndex := 40, descriptorIndex := 26, attributes := #[] }, { accessFlags := 26, nameIndex := 1101, descriptorIndex := 1102, attributes := #[] }, { accessFlags := 26, nameIndex := 1121, descriptorIndex := 1122, attributes := #[] }, { accessFlags := 25, nameIndex := 599, descriptorIndex := 600, attributes := #[] }, { accessFlags := 24, nameIndex := 1125, descriptorIndex := 18, attributes := #[] }, { accessFlags := 24, nameIndex := 1127, descriptorIndex := 18, attributes := #[] }])
  fields := #[{ name := "value", type := (.array .byte), accessFlags := 18, slot := 0, constantValue := 0 }, { name := "coder", type := .byte, accessFlags := 18, slot := 1, constantValue := 0 }, { name := "hash", type := .int, accessFlags := 2, slot := 2, constantValue := 0 }, { name := "hashIsZero", type := .boolean, accessFlags := 2, slot := 3, constantValue := 0 }, { name := "serialVersionUID", type := .long, accessFlags := 26, slot := 0, constantValue := 0 }, { name := "COMPACT_STRINGS", type := .boolean, accessFlags := 24, slot := 1, constantValue := 0 }, { name := "serialPersistentFields", type := (.array (.object "java/io/ObjectStreamField")), accessFlags := 26, slot := 2, constantValue := 0 }, { name := "REPL", type := .char, accessFlags := 26, slot := 3, constantValue := 0 }, { name := "CASE_INSENSITIVE_ORDER", type := (.object "java/util/Comparator"), accessFlags := 25, slot := 4, constantValue := 0 }, { name := "LATIN1", type := .byte, accessFlags := 24, slot := 5, constantValue := 0 }, { name := "UTF16", type := .byte, accessFlags := 24, slot := 6, constantValue := 0 }]
  methods := #[k9m0]
  instanceTypes := #[(.array .byte), .byte, .int, .boolean]
  staticTypes := #[.long, .boolean, (.array (.object "java/io/ObjectStreamField")), .char, (.object "java/util/Comparator"), .byte, .byte]
  resolved := Array.replicate 1451 none
  statics := none }

def pool10 : Array CpInfo := pool [(2, .class_ 4), (1, u "java/lang/Object"), (0, u "<init>"), (0, u "()V"), (35, .class_ 44), (1, u "java/util/Objects"), (0, u "requireNonNull"), (48, u "(Ljava/lang/Object;Ljava/lang/String;)Ljava/lang/Object;"), (10, .methodref 106 107), (0, .class_ 108), (0, .nameAndType 109 110), (0, u "jdk/internal/util/Preconditions"), (0, u "checkIndex"), (0, u "(IILjava/util/function/BiFunction;)I"), (60, u "(II)I")] 12

def k10m0 : Method := { name := "<init>", desc := "()V", sig := { parameters := [], returnType := none }, accessFlags := 2, code := none }
def k10c1 : Code := { maxStack := 3, maxLocals := 2, code := jdk_31_method_11_code, exceptionTable := #[], attributes := #[] }
def k10m1 : Method := { name := "requireNonNull", desc := "(Ljava/lang/Object;Ljava/lang/String;)Ljava/lang/Object;", sig := { parameters := [(.object "java/lang/Object"), (.object "java/lang/String")], returnType := some (.object "java/lang/Object") }, accessFlags := 9, code := some k10c1 }
def k10c2 : Code := { maxStack := 3, maxLocals := 2, code := jdk_31_method_17_code, exceptionTable := #[], attributes := #[] }
def k10m2 : Method := { name := "checkIndex", desc := "(II)I", sig := { parameters := [.int, .int], returnType := some .int }, accessFlags := 9, code := some k10c2 }
/-- java/util/Objects -/
def k10 : Class := { plain "java/util/Objects" (some 0) with
  accessFlags := 49
  interfaces := #[]
  cf := some (fileOf pool10 42 #[] #[{ accessFlags := 2, nameIndex := 5, descriptorIndex := 6, attributes := #[] }, { accessFlags := 9, nameIndex := 45, descriptorIndex := 94, attributes := #[] }, { accessFlags := 9, nameIndex := 109, descriptorIndex := 171, attributes := #[] }] 49 2 #[] #[])
  fields := #[]
  methods := #[k10m0, k10m1, k10m2]
  instanceTypes := #[]
  staticTypes := #[]
  resolved := Array.replicate 184 none
  statics := none }

def pool11 : Array CpInfo := pool [(2, .class_ 4), (1, u "java/lang/Object"), (0, u "<init>"), (0, u "()V"), (17, .class_ 26), (1, u "jdk/internal/util/Preconditions"), (6, u "checkIndex"), (21, .class_ 56), (0, u "jdk/internal/util/Preconditions$4"), (57, .class_ 115), (0, u "jdk/internal/util/Preconditions$1"), (7, u "SIOOBE_FORMATTER"), (0, u "Ljava/util/function/BiFunction;"), (0, .class_ 126), (0, u "jdk/internal/util/Preconditions$2"), (3, u "AIOOBE_FORMATTER"), (0, .class_ 132), (0, u "jdk/internal/util/Preconditions$3"), (3, u "IOOBE_FORMATTER"), (41, u "(IILjava/util/function/BiFunction;)I")] 15

def k11m0 : Method := { name := "<init>", desc := "()V", sig := { parameters := [], returnType := none }, accessFlags := 1, code := none }
def k11c1 : Code := { maxStack := 3, maxLocals := 3, code := jdk_41_method_11_code, exceptionTable := #[], attributes := #[] }
def k11m1 : Method := { name := "checkIndex", desc := "(IILjava/util/function/BiFunction;)I", sig := { parameters := [.int, .int, (.object "java/util/function/BiFunction")], returnType := some .int }, accessFlags := 9, code := some k11c1 }
/-- jdk/internal/util/Preconditions -/
def k11 : Class := { plain "jdk/internal/util/Preconditions" (some 0) with
  accessFlags := 33
  interfaces := #[]
  cf := some (fileOf pool11 24 #[.nestMembers #[55, 131, 125, 114]] #[{ accessFlags := 1, nameIndex := 5, descriptorIndex := 6, attributes := #[] }, { accessFlags := 9, nameIndex := 33, descriptorIndex := 178, attributes := #[] }] 33 2 #[] #[{ accessFlags := 25, nameIndex := 123, descriptorIndex := 124, attributes := #[] }, { accessFlags := 25, nameIndex := 130, descriptorIndex := 124, attributes := #[] }, { accessFlags := 25, nameIndex := 136, descriptorIndex := 124, attributes := #[] }])
  fields := #[{ name := "SIOOBE_FORMATTER", type := (.object "java/util/function/BiFunction"), accessFlags := 25, slot := 0, constantValue := 0 }, { name := "AIOOBE_FORMATTER", type := (.object "java/util/function/BiFunction"), accessFlags := 25, slot := 1, constantValue := 0 }, { name := "IOOBE_FORMATTER", type := (.object "java/util/function/BiFunction"), accessFlags := 25, slot := 2, constantValue := 0 }]
  methods := #[k11m0, k11m1]
  instanceTypes := #[]
  staticTypes := #[(.object "java/util/function/BiFunction"), (.object "java/util/function/BiFunction"), (.object "java/util/function/BiFunction")]
  resolved := Array.replicate 194 none
  statics := none }

def pool12 : Array CpInfo := pool [(1, u "java/lang/Cloneable"), (0, .class_ 1), (0, u "java/lang/Object"), (0, .class_ 3)] 3

/-- java/lang/Cloneable -/
def k12 : Class := { plain "java/lang/Cloneable" (some 0) with
  accessFlags := 1537
  interfaces := #[]
  cf := some (fileOf pool12 2 #[] #[] 1537 4 #[] #[])
  fields := #[]
  methods := #[]
  instanceTypes := #[]
  staticTypes := #[]
  resolved := Array.replicate 8 none
  statics := none }

/-- the primitive byte -/
def k13 : Class := { plain "byte" none with kind := .primitive 'B', accessFlags := 0x411 }
/-- [B -/
def k14 : Class := { plain "[B" (some 0) with kind := .array 13 .byte, interfaces := #[12, 4], accessFlags := 1041 }

/-- the primitive int -/
def k15 : Class := { plain "int" none with kind := .primitive 'I', accessFlags := 0x411 }
/-- [I -/
def k16 : Class := { plain "[I" (some 0) with kind := .array 15 .int, interfaces := #[12, 4], accessFlags := 1041 }

def heap : Heap := #[]
def k17 : Class := { plain "[[B" (some 0) with kind := .array 14 (.array .byte), interfaces := #[12, 4], accessFlags := 1041 }
def classes : Array Class := #[k0, k1, k2, k3, k4, k5, k6, k7, k8, k9, k10, k11, k12, k13, k14, k15, k16, k17]
def interned : List (Array UInt16 × Addr) := []
def slotsUsed : Nat := 0
def theMethod : MethodId := ⟨1, 3⟩
def args0 : Array Value := #[.int 2, .int 1, .int 5]
def aboutOver (below : List Frame) : State where
  vm := { classes := classes, interned := interned.toArray }
  heap := heap
  slotsUsed := slotsUsed
  threads := #[{ frames := .invoking theMethod args0 :: below }]
def below0 : List Frame := [.native { method := ⟨0, 0⟩, args := #[] }]
def about1 : State := aboutOver below0
def p0 : Program := .bare "" "" ""
def e0 : Env := launch0.env 0 0 0
theorem w_frames : about1.frames = Frame.invoking theMethod args0 :: below0 := rfl
set_option maxRecDepth 65536 in
theorem w_args : argsFit about1.vm theMethod args0 = true := by decide +kernel
set_option maxRecDepth 65536 in
theorem w_heap : heapFits about1 = true := by decide +kernel
set_option maxRecDepth 65536 in
theorem w_runnable : about1.curStatus? = some .runnable := by decide +kernel
set_option maxRecDepth 65536 in
theorem w_alone : about1.alone = true := by decide +kernel
set_option maxRecDepth 65536 in
theorem w_named : about1.methodNamed? x = some theMethod := by decide +kernel
set_option maxRecDepth 65536 in
theorem w_hears : about1.hears theMethod below0 = true := by decide +kernel
set_option maxRecDepth 65536 in
theorem w_ripe : about1.ripe theMethod args0 below0 = true := by decide +kernel
theorem w_running : about1.status = .running := rfl
set_option maxRecDepth 65536 in
theorem w_room : about1.hasRoom e0.platform room_1 = true :=
  launch0.hasRoom_least _ room_1 (by decide +kernel) (by decide +kernel) (by decide +kernel) (by decide +kernel) (by decide +kernel) (by decide +kernel)
theorem allAtoms_all (ts : List Jvm.Cond) (a : Array Jvm.Value) (st : Jvm.State) : (allAtoms ts).before a st = ts.all (fun c => c.before a st) := by
  induction ts with
  | nil => rfl
  | cons c t ih =>
    show (Jvm.Cond.and c (allAtoms t)).before a st = _
    rw [Jvm.Cond.before_and, ih, List.all_cons]
def words1 : List Jvm.Cond := Jvm.Cond.code x code maxLocals ret :: tables_1
/-- a 'code' word, met by the world's own term for the bytes: nothing is compared byte by byte -/
theorem code_word {y : MethodName} {bytes : ByteArray} {mx : Nat} {rt : Option FieldType} {a : Array Value} {s : State} {m : MethodId} {meth : Method} {c : Code} (h1 : s.methodNamed? y = some m) (h2 : s.vm.method? m = some meth) (h3 : meth.code = some c) (h4 : c.code = bytes)
    (h5 : (c.maxLocals == mx && c.exceptionTable.isEmpty && decide (c.maxStack ≤ mostOperands) && decide (meth.sig.returnType = rt) && !meth.locks && decide (parseMethodDescriptor y.desc = some meth.sig)) = true) : (Jvm.Cond.code y bytes mx rt).before a s = true := by
  simp only [Bool.and_eq_true, beq_iff_eq, Bool.not_eq_true', decide_eq_true_eq] at h5
  obtain ⟨⟨⟨⟨⟨g1, g2⟩, g3⟩, g4⟩, g5⟩, g6⟩ := h5
  simp [Cond.before, Cond.holds, Cond.value, h1, h2, h3, h4, g1, g2, g3, g4, g5, g6]
def isCode : Jvm.Cond → Bool
  | .code _ _ _ _ => true
  | _ => false
theorem all_split {L : List Jvm.Cond} {P : Jvm.Cond → Bool} (h1 : L.all (fun c => isCode c || P c) = true) (h2 : ∀ c ∈ L.filter isCode, P c = true) : L.all P = true := by
  refine List.all_eq_true.mpr fun c hc => ?_
  have h := List.all_eq_true.mp h1 c hc
  rcases Bool.eq_false_or_eq_true (isCode c) with hi | hi
  · exact h2 c (List.mem_filter.mpr ⟨hc, hi⟩)
  · simpa [hi] using h
set_option maxRecDepth 65536 in
theorem w_c0 : (Jvm.Cond.code x code maxLocals ret).before args0 about1 = true := code_word (m := ⟨1, 3⟩) (meth := k1m3) (c := k1c3) (by decide +kernel) rfl rfl rfl (by decide +kernel)
set_option maxRecDepth 65536 in
theorem w_c1 : (Jvm.Cond.code ({ cls := "com/example/kache/kache/store/ListValue", name := "<init>", desc := "()V" } : Jvm.MethodName) prog_15_method_1_code (1 : Nat) (Option.none : Option Jvm.ClassFile.FieldType)).before args0 about1 = true := code_word (m := ⟨3, 0⟩) (meth := k3m0) (c := k3c0) (by decide +kernel) rfl rfl rfl (by decide +kernel)
set_option maxRecDepth 65536 in
theorem w_c2 : (Jvm.Cond.code ({ cls := "java/lang/Object", name := "<init>", desc := "()V" } : Jvm.MethodName) object_method_1_code (1 : Nat) (Option.none : Option Jvm.ClassFile.FieldType)).before args0 about1 = true := code_word (m := ⟨0, 0⟩) (meth := k0m0) (c := k0c0) (by decide +kernel) rfl rfl rfl (by decide +kernel)
set_option maxRecDepth 65536 in
theorem w_c3 : (Jvm.Cond.code ({ cls := "com/example/kache/kache/store/ListValue", name := "isEmpty", desc := "()Z" } : Jvm.MethodName) prog_15_method_3_code (1 : Nat) (Option.some Jvm.ClassFile.FieldType.boolean)).before args0 about1 = true := code_word (m := ⟨3, 1⟩) (meth := k3m1) (c := k3c1) (by decide +kernel) rfl rfl rfl (by decide +kernel)
set_option maxRecDepth 65536 in
theorem w_c4 : (Jvm.Cond.code ({ cls := "com/example/kache/kache/store/ListValueIsEmptyPinLaw", name := "addOne", desc := "(Lcom/example/kache/kache/store/ListValue;ZI)V" } : Jvm.MethodName) method_2_code (4 : Nat) (Option.none : Option Jvm.ClassFile.FieldType)).before args0 about1 = true := code_word (m := ⟨1, 1⟩) (meth := k1m1) (c := k1c1) (by decide +kernel) rfl rfl rfl (by decide +kernel)
set_option maxRecDepth 65536 in
theorem w_c5 : (Jvm.Cond.code ({ cls := "com/example/kache/kache/store/ListValue", name := "addFirst", desc := "([B)V" } : Jvm.MethodName) prog_15_method_6_code (2 : Nat) (Option.none : Option Jvm.ClassFile.FieldType)).before args0 about1 = true := code_word (m := ⟨3, 3⟩) (meth := k3m3) (c := k3c3) (by decide +kernel) rfl rfl rfl (by decide +kernel)
set_option maxRecDepth 65536 in
theorem w_c6 : (Jvm.Cond.code ({ cls := "java/util/Objects", name := "requireNonNull", desc := "(Ljava/lang/Object;Ljava/lang/String;)Ljava/lang/Object;" } : Jvm.MethodName) jdk_31_method_11_code (2 : Nat) (Option.some (Jvm.ClassFile.FieldType.object "java/lang/Object"))).before args0 about1 = true := code_word (m := ⟨10, 1⟩) (meth := k10m1) (c := k10c1) (by decide +kernel) rfl rfl rfl (by decide +kernel)
set_option maxRecDepth 65536 in
theorem w_c7 : (Jvm.Cond.code ({ cls := "com/example/kache/kache/store/ListValue", name := "makeRoomForOneMore", desc := "()V" } : Jvm.MethodName) prog_15_method_16_code (1 : Nat) (Option.none : Option Jvm.ClassFile.FieldType)).before args0 about1 = true := code_word (m := ⟨3, 8⟩) (meth := k3m8) (c := k3c8) (by decide +kernel) rfl rfl rfl (by decide +kernel)
set_option maxRecDepth 65536 in
theorem w_c8 : (Jvm.Cond.code ({ cls := "com/example/kache/kache/store/ListValue", name := "addLast", desc := "([B)V" } : Jvm.MethodName) prog_15_method_7_code (2 : Nat) (Option.none : Option Jvm.ClassFile.FieldType)).before args0 about1 = true := code_word (m := ⟨3, 4⟩) (meth := k3m4) (c := k3c4) (by decide +kernel) rfl rfl rfl (by decide +kernel)
set_option maxRecDepth 65536 in
theorem w_c9 : (Jvm.Cond.code ({ cls := "com/example/kache/kache/store/ListValue", name := "slot", desc := "(I)I" } : Jvm.MethodName) prog_15_method_15_code (3 : Nat) (Option.some Jvm.ClassFile.FieldType.int)).before args0 about1 = true := code_word (m := ⟨3, 7⟩) (meth := k3m7) (c := k3c7) (by decide +kernel) rfl rfl rfl (by decide +kernel)
set_option maxRecDepth 65536 in
theorem w_c10 : (Jvm.Cond.code ({ cls := "com/example/kache/kache/store/ListValueIsEmptyPinLaw", name := "removeOne", desc := "(Lcom/example/kache/kache/store/ListValue;Z)V" } : Jvm.MethodName) method_3_code (2 : Nat) (Option.none : Option Jvm.ClassFile.FieldType)).before args0 about1 = true := code_word (m := ⟨1, 2⟩) (meth := k1m2) (c := k1c2) (by decide +kernel) rfl rfl rfl (by decide +kernel)
set_option maxRecDepth 65536 in
theorem w_c11 : (Jvm.Cond.code ({ cls := "com/example/kache/kache/store/ListValue", name := "removeLast", desc := "()[B" } : Jvm.MethodName) prog_15_method_9_code (2 : Nat) (Option.some (Jvm.ClassFile.FieldType.array Jvm.ClassFile.FieldType.byte))).before args0 about1 = true := code_word (m := ⟨3, 6⟩) (meth := k3m6) (c := k3c6) (by decide +kernel) rfl rfl rfl (by decide +kernel)
set_option maxRecDepth 65536 in
theorem w_c12 : (Jvm.Cond.code ({ cls := "com/example/kache/kache/store/ListValue", name := "get", desc := "(I)[B" } : Jvm.MethodName) prog_15_method_5_code (2 : Nat) (Option.some (Jvm.ClassFile.FieldType.array Jvm.ClassFile.FieldType.byte))).before args0 about1 = true := code_word (m := ⟨3, 2⟩) (meth := k3m2) (c := k3c2) (by decide +kernel) rfl rfl rfl (by decide +kernel)
set_option maxRecDepth 65536 in
theorem w_c13 : (Jvm.Cond.code ({ cls := "java/util/Objects", name := "checkIndex", desc := "(II)I" } : Jvm.MethodName) jdk_31_method_17_code (2 : Nat) (Option.some Jvm.ClassFile.FieldType.int)).before args0 about1 = true := code_word (m := ⟨10, 2⟩) (meth := k10m2) (c := k10c2) (by decide +kernel) rfl rfl rfl (by decide +kernel)
set_option maxRecDepth 65536 in
theorem w_c14 : (Jvm.Cond.code ({ cls := "jdk/internal/util/Preconditions", name := "checkIndex", desc := "(IILjava/util/function/BiFunction;)I" } : Jvm.MethodName) jdk_41_method_11_code (3 : Nat) (Option.some Jvm.ClassFile.FieldType.int)).before args0 about1 = true := code_word (m := ⟨11, 1⟩) (meth := k11m1) (c := k11c1) (by decide +kernel) rfl rfl rfl (by decide +kernel)
set_option maxRecDepth 65536 in
theorem w_c15 : (Jvm.Cond.code ({ cls := "com/example/kache/kache/store/ListValue", name := "shrinkIfSparse", desc := "()V" } : Jvm.MethodName) prog_15_method_17_code (1 : Nat) (Option.none : Option Jvm.ClassFile.FieldType)).before args0 about1 = true := code_word (m := ⟨3, 9⟩) (meth := k3m9) (c := k3c9) (by decide +kernel) rfl rfl rfl (by decide +kernel)
set_option maxRecDepth 65536 in
theorem w_c16 : (Jvm.Cond.code ({ cls := "com/example/kache/kache/store/ListValue", name := "removeFirst", desc := "()[B" } : Jvm.MethodName) prog_15_method_8_code (2 : Nat) (Option.some (Jvm.ClassFile.FieldType.array Jvm.ClassFile.FieldType.byte))).before args0 about1 = true := code_word (m := ⟨3, 5⟩) (meth := k3m5) (c := k3c5) (by decide +kernel) rfl rfl rfl (by decide +kernel)
def codes1 : List Jvm.Cond := [Jvm.Cond.code x code maxLocals ret, Jvm.Cond.code ({ cls := "com/example/kache/kache/store/ListValue", name := "<init>", desc := "()V" } : Jvm.MethodName) prog_15_method_1_code (1 : Nat) (Option.none : Option Jvm.ClassFile.FieldType), Jvm.Cond.code ({ cls := "java/lang/Object", name := "<init>", desc := "()V" } : Jvm.MethodName) object_method_1_code (1 : Nat) (Option.none : Option Jvm.ClassFile.FieldType), Jvm.Cond.code ({ cls := "com/example/kache/kache/store/ListValue", name := "isEmpty", desc := "()Z" } : Jvm.MethodName) prog_15_method_3_code (1 : Nat) (Option.some Jvm.ClassFile.FieldType.boolean), Jvm.Cond.code ({ cls := "com/example/kache/kache/store/ListValueIsEmptyPinLaw", name := "addOne", desc := "(Lcom/example/kache/kache/store/ListValue;ZI)V" } : Jvm.MethodName) method_2_code (4 : Nat) (Option.none : Option Jvm.ClassFile.FieldType), Jvm.Cond.code ({ cls := "com/example/kache/kache/store/ListValue", name := "addFirst", desc := "([B)V" } : Jvm.MethodName) prog_15_method_6_code (2 : Nat) (Option.none : Option Jvm.ClassFile.FieldType), Jvm.Cond.code ({ cls := "java/util/Objects", name := "requireNonNull", desc := "(Ljava/lang/Object;Ljava/lang/String;)Ljava/lang/Object;" } : Jvm.MethodName) jdk_31_method_11_code (2 : Nat) (Option.some (Jvm.ClassFile.FieldType.object "java/lang/Object")), Jvm.Cond.code ({ cls := "com/example/kache/kache/store/ListValue", name := "makeRoomForOneMore", desc := "()V" } : Jvm.MethodName) prog_15_method_16_code (1 : Nat) (Option.none : Option Jvm.ClassFile.FieldType), Jvm.Cond.code ({ cls := "com/example/kache/kache/store/ListValue", name := "addLast", desc := "([B)V" } : Jvm.MethodName) prog_15_method_7_code (2 : Nat) (Option.none : Option Jvm.ClassFile.FieldType), Jvm.Cond.code ({ cls := "com/example/kache/kache/store/ListValue", name := "slot", desc := "(I)I" } : Jvm.MethodName) prog_15_method_15_code (3 : Nat) (Option.some Jvm.ClassFile.FieldType.int), Jvm.Cond.code ({ cls := "com/example/kache/kache/store/ListValueIsEmptyPinLaw", name := "removeOne", desc := "(Lcom/example/kache/kache/store/ListValue;Z)V" } : Jvm.MethodName) method_3_code (2 : Nat) (Option.none : Option Jvm.ClassFile.FieldType), Jvm.Cond.code ({ cls := "com/example/kache/kache/store/ListValue", name := "removeLast", desc := "()[B" } : Jvm.MethodName) prog_15_method_9_code (2 : Nat) (Option.some (Jvm.ClassFile.FieldType.array Jvm.ClassFile.FieldType.byte)), Jvm.Cond.code ({ cls := "com/example/kache/kache/store/ListValue", name := "get", desc := "(I)[B" } : Jvm.MethodName) prog_15_method_5_code (2 : Nat) (Option.some (Jvm.ClassFile.FieldType.array Jvm.ClassFile.FieldType.byte)), Jvm.Cond.code ({ cls := "java/util/Objects", name := "checkIndex", desc := "(II)I" } : Jvm.MethodName) jdk_31_method_17_code (2 : Nat) (Option.some Jvm.ClassFile.FieldType.int), Jvm.Cond.code ({ cls := "jdk/internal/util/Preconditions", name := "checkIndex", desc := "(IILjava/util/function/BiFunction;)I" } : Jvm.MethodName) jdk_41_method_11_code (3 : Nat) (Option.some Jvm.ClassFile.FieldType.int), Jvm.Cond.code ({ cls := "com/example/kache/kache/store/ListValue", name := "shrinkIfSparse", desc := "()V" } : Jvm.MethodName) prog_15_method_17_code (1 : Nat) (Option.none : Option Jvm.ClassFile.FieldType), Jvm.Cond.code ({ cls := "com/example/kache/kache/store/ListValue", name := "removeFirst", desc := "()[B" } : Jvm.MethodName) prog_15_method_8_code (2 : Nat) (Option.some (Jvm.ClassFile.FieldType.array Jvm.ClassFile.FieldType.byte))]
set_option maxRecDepth 65536 in
theorem codes_eq : words1.filter isCode = codes1 := rfl
theorem w_codes : ∀ c ∈ words1.filter isCode, c.before args0 about1 = true := by
  rw [codes_eq]
  intro c hc
  simp only [codes1, List.mem_cons, List.not_mem_nil, or_false] at hc
  rcases hc with rfl | rfl | rfl | rfl | rfl | rfl | rfl | rfl | rfl | rfl | rfl | rfl | rfl | rfl | rfl | rfl | rfl
  · exact w_c0
  · exact w_c1
  · exact w_c2
  · exact w_c3
  · exact w_c4
  · exact w_c5
  · exact w_c6
  · exact w_c7
  · exact w_c8
  · exact w_c9
  · exact w_c10
  · exact w_c11
  · exact w_c12
  · exact w_c13
  · exact w_c14
  · exact w_c15
  · exact w_c16
set_option maxRecDepth 65536 in
theorem w_t1 : (words1.take 24).all (fun c => isCode c || c.before args0 about1) = true := by decide +kernel
set_option maxRecDepth 65536 in
theorem w_t2 : ((words1.drop 24).take 24).all (fun c => isCode c || c.before args0 about1) = true := by decide +kernel
set_option maxRecDepth 65536 in
theorem w_t3 : (((words1.drop 24).drop 24).take 24).all (fun c => isCode c || c.before args0 about1) = true := by decide +kernel
set_option maxRecDepth 65536 in
theorem w_t4 : (((words1.drop 24).drop 24).drop 24).all (fun c => isCode c || c.before args0 about1) = true := by decide +kernel
theorem w_tables : (allAtoms (Jvm.Cond.code x code maxLocals ret :: tables_1)).before args0 about1 = true := by
  rw [allAtoms_all]
  show words1.all (fun c => c.before args0 about1) = true
  refine all_split ?_ w_codes
  rw [← List.take_append_drop 24 words1, List.all_append, w_t1, ← List.take_append_drop 24 (words1.drop 24), List.all_append, w_t2, ← List.take_append_drop 24 ((words1.drop 24).drop 24), List.all_append, w_t3, w_t4]
  rfl
set_option maxRecDepth 65536 in
theorem w_case : (Jvm.Cond.and given_1 narrow_1).before args0 about1 = true := by decide +kernel
theorem w_applies : (headSpec (Jvm.Cond.code x code maxLocals ret :: tables_1) room_1).applies x e0.platform about1 = true :=
  (Spec.applies_iff w_frames).mpr ⟨w_running, w_runnable, w_alone, w_named, w_hears, w_ripe, w_room, w_tables⟩
theorem atStart : AtStart classFile x code maxLocals ret World_1 tables_1 room_1 Calls_1 rest_1 Pre_1 launch0 p0 e0 about1 theMethod args0 below0 :=
  ⟨lists_1, trivial, launch0.admits_env _ _ _, launch0.least_env, fairChoices_fair.cas, fairChoices_fair.clock, w_frames, w_args, w_heap, w_applies, trivial, trivial, w_case⟩
end start1
theorem witness_1 : WitnessClaimed_1 := ⟨start1.p0, start1.e0, start1.about1, start1.theMethod, start1.args0, start1.below0, start1.atStart⟩
end Jvm.Pilot.@@N@@
