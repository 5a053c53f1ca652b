import JvmDerived
import JvmDerived.Pilot.@@N@@Statement
import JvmDerived.Pilot.@@N@@Code
set_option linter.unusedVariables false
set_option linter.unusedSimpArgs false
namespace Jvm.Pilot.@@N@@
open Jvm Jvm.ClassFile Sem Op Lib Jvm.Free Jvm.Stand Jvm.LawKit Jvm.RoadKit Bundle Jvm.Pilot.@@N@@.Jvm.D
section OwnKit
variable {p : Program} {l : Launch} {e : Env} {R : Room} {s : State} {m : MethodId} {args : Array Value} {below : List Frame} {meth : Method} {c : Code} {T : State} {locs : List Loc} {cells slots : Nat} {Z : State} {a0 : Array Value} {h : Heap} {n0 kc ks : Nat} {FE : Outcome → State → List Loc → Prop} {Q : Option Value → Heap → Prop} {pc pc' : Nat} {Ls Ls' : Array Slot} {st : List Value}
/-- from the state S the run comes back to its caller with what Q says, having written nothing below n0 -/
def Goes (p : Program) (e : Env) (below : List Frame) (FE : Outcome → State → List Loc → Prop) (n0 : Nat) (Q : Option Value → Heap → Prop) (S : State) : Prop :=
  ∃ s₂ o, Steps p.tables e below S s₂ ∧ s₂.status = .running ∧ Ended s₂ below o ∧ ∃ v L, o = .returned v ∧ (Fr n0 L ∧ Q v s₂.heap) ∧ FE o s₂ L
/-- the contract of a body -/
def Meets (l : Launch) (y : MethodName) (bytes : ByteArray) (maxL : Nat) (ret : Option FieldType) (ws : List Jvm.Cond) (rm : Room) (kc ks : Nat) (Z : State) (as' : Array Value) (h : Heap) (n0 : Nat) (Q : Option Value → Heap → Prop) : Prop :=
  MetFree l y (head1 (Jvm.Cond.code y bytes maxL ret :: ws) rm) (fun a U => a = as' ∧ Z.Warmed39 U.vm ∧ U.heap = h) (fun _ _ _ _ _ => True) (fun _ U o U' => ∃ v L, o = .returned v ∧ (Fr n0 L ∧ Q v U'.heap) ∧ FrameEnd U o U' L kc ks)
theorem Goes.via {S S' : State} (f : ∀ t, Steps p.tables e below S' t → Steps p.tables e below S t) (g : Goes p e below FE n0 Q S') : Goes p e below FE n0 Q S := by
  obtain ⟨s₂, o, k, r⟩ := g
  exact ⟨s₂, o, f _ k, r⟩
theorem Goes.ret {S : State} {v : Option Value} (X : Stand p l e R s m args below meth c T locs cells slots) (N : Fr n0 locs) (hlk : meth.locks = false) (hv : meth.sig.returnType = none → v = none) (hc : cells ≤ kc) (hs : slots ≤ ks) (hq : Q v T.heap)
    (f : ∀ fs, (∀ (f : JFrame) (acts : List Action), f.method = m → f.locked = none → f.entered = [] → (doReturn e (T.setTop f) acts v).1 = T.setFrames fs) → Steps p.tables e below S (T.setFrames fs)) : Goes p e below (fun o t L => FrameEnd s o t L kc ks) n0 Q S := by
  obtain ⟨fs, hr, hrun, hended, hW, hsame⟩ := X.leave hv hlk
  exact ⟨_, _, f fs hr, hrun, hended, _, _, rfl, ⟨N, hq⟩, ⟨_, rfl⟩, hW, hsame.mono hc hs⟩
theorem own_sz (O : Old Z n0 h) : n0 ≤ h.size := O.1 ▸ O.2.1
theorem Meets.of {y : MethodName} {bytes : ByteArray} {maxL : Nat} {ret : Option FieldType} {ws : List Jvm.Cond} {rm : Room} {as' : Array Value} (hx : plainFor y = true) {F : MethodId → JFrame} (hF : ∀ m, entryFrame m as' maxL = F m)
    (body : ∀ p e s m below meth c T, p.tables.exec = Jvm.exec → c.code = bytes → c.maxLocals = maxL → s.vm.findClass y.cls = some m.cls → meth.name = y.name → meth.sig.returnType = ret → meth.locks = false → Z.Warmed39 s.vm →
      Stand p l e rm s m as' below meth c T [] 0 0 → T.heap = h → Goes p e below (fun o t L => FrameEnd s o t L kc ks) n0 Q (T.setTop (F m))) :
    Meets l y bytes maxL ret ws rm kc ks Z as' h n0 Q := by
  refine MetFree.of_bodySF hx hisR ?_
  intro p e s m args below meth c s₁ Bd hml hP hK
  obtain ⟨rfl, hZ, hh⟩ := hP
  have X0 : Stand p l e rm s m args below meth c s₁ [] 0 0 := Stand.of_body Bd
  have e0 : s₁.heap = h := by rw [← hh, Bd.state]; rfl
  obtain ⟨s₂, o, k, r⟩ := body p e s m below meth c s₁ Bd.exec Bd.bytes hml (findClass_of_methodNamed Bd.named) (name_of_methodNamed Bd.named Bd.method).1 Bd.returns Bd.notSynchronized hZ X0 e0
  exact ⟨s₂, o, castTop (hF m) k, r⟩
theorem own_iloadN (X : Stand p l e R s m args below meth c T locs cells slots) (hx : p.tables.exec = Jvm.exec) {k : Fin 4} {v : Int32} (hd : decode c.code pc = .ok (.iload_n k, 1)) (hl : Ls[k.val]? = some (.val (.int v)))
    (g : Goes p e below FE n0 Q (T.setTop (mkF m (pc + 1) Ls (.int v :: st)))) : Goes p e below FE n0 Q (T.setTop (mkF m pc Ls st)) :=
  Goes.via (fun _ k => XS.iloadN X.here hx rfl hd hl k) g
theorem own_iload (X : Stand p l e R s m args below meth c T locs cells slots) (hx : p.tables.exec = Jvm.exec) {k : Nat} {v : Int32} (hd : decode c.code pc = .ok (.iload k, 2)) (hl : Ls[k]? = some (.val (.int v)))
    (g : Goes p e below FE n0 Q (T.setTop (mkF m (pc + 2) Ls (.int v :: st)))) : Goes p e below FE n0 Q (T.setTop (mkF m pc Ls st)) :=
  Goes.via (fun _ k => XS.iload X.here hx rfl hd hl k) g
theorem own_istoreN (X : Stand p l e R s m args below meth c T locs cells slots) (hx : p.tables.exec = Jvm.exec) {k : Fin 4} {x : Int32} (hd : decode c.code pc = .ok (.istore_n k, 1)) (hl : storeLocals Ls k.val (.int x) = some Ls')
    (g : Goes p e below FE n0 Q (T.setTop (mkF m (pc + 1) Ls' st))) : Goes p e below FE n0 Q (T.setTop (mkF m pc Ls (.int x :: st))) :=
  Goes.via (fun _ k => XS.istoreN X.here hx rfl hd rfl hl k) g
theorem own_istore (X : Stand p l e R s m args below meth c T locs cells slots) (hx : p.tables.exec = Jvm.exec) {k : Nat} {x : Int32} (hd : decode c.code pc = .ok (.istore k, 2)) (hl : storeLocals Ls k (.int x) = some Ls')
    (g : Goes p e below FE n0 Q (T.setTop (mkF m (pc + 2) Ls' st))) : Goes p e below FE n0 Q (T.setTop (mkF m pc Ls (.int x :: st))) :=
  Goes.via (fun _ k => XS.istore X.here hx rfl hd rfl hl k) g
theorem own_lloadN (X : Stand p l e R s m args below meth c T locs cells slots) (hx : p.tables.exec = Jvm.exec) {k : Fin 4} {v : Int64} (hd : decode c.code pc = .ok (.lload_n k, 1)) (hl : Ls[k.val]? = some (.val (.long v)))
    (g : Goes p e below FE n0 Q (T.setTop (mkF m (pc + 1) Ls (.long v :: st)))) : Goes p e below FE n0 Q (T.setTop (mkF m pc Ls st)) :=
  Goes.via (fun _ k => XS.lloadN X.here hx rfl hd hl k) g
theorem own_lload (X : Stand p l e R s m args below meth c T locs cells slots) (hx : p.tables.exec = Jvm.exec) {k : Nat} {v : Int64} (hd : decode c.code pc = .ok (.lload k, 2)) (hl : Ls[k]? = some (.val (.long v)))
    (g : Goes p e below FE n0 Q (T.setTop (mkF m (pc + 2) Ls (.long v :: st)))) : Goes p e below FE n0 Q (T.setTop (mkF m pc Ls st)) :=
  Goes.via (fun _ k => XS.lload X.here hx rfl hd hl k) g
theorem own_lstoreN (X : Stand p l e R s m args below meth c T locs cells slots) (hx : p.tables.exec = Jvm.exec) {k : Fin 4} {x : Int64} (hd : decode c.code pc = .ok (.lstore_n k, 1)) (hl : storeLocals Ls k.val (.long x) = some Ls')
    (g : Goes p e below FE n0 Q (T.setTop (mkF m (pc + 1) Ls' st))) : Goes p e below FE n0 Q (T.setTop (mkF m pc Ls (.long x :: st))) :=
  Goes.via (fun _ k => XS.lstoreN X.here hx rfl hd rfl hl k) g
theorem own_lstore (X : Stand p l e R s m args below meth c T locs cells slots) (hx : p.tables.exec = Jvm.exec) {k : Nat} {x : Int64} (hd : decode c.code pc = .ok (.lstore k, 2)) (hl : storeLocals Ls k (.long x) = some Ls')
    (g : Goes p e below FE n0 Q (T.setTop (mkF m (pc + 2) Ls' st))) : Goes p e below FE n0 Q (T.setTop (mkF m pc Ls (.long x :: st))) :=
  Goes.via (fun _ k => XS.lstore X.here hx rfl hd rfl hl k) g
theorem own_aloadN (X : Stand p l e R s m args below meth c T locs cells slots) (hx : p.tables.exec = Jvm.exec) {k : Fin 4} {v : Value} (hd : decode c.code pc = .ok (.aload_n k, 1)) (hl : Ls[k.val]? = some (.val v)) (hv : v.isRef = true)
    (g : Goes p e below FE n0 Q (T.setTop (mkF m (pc + 1) Ls (v :: st)))) : Goes p e below FE n0 Q (T.setTop (mkF m pc Ls st)) :=
  Goes.via (fun _ k => XS.aloadN X.here hx rfl hd hl hv k) g
theorem own_aload (X : Stand p l e R s m args below meth c T locs cells slots) (hx : p.tables.exec = Jvm.exec) {k : Nat} {v : Value} (hd : decode c.code pc = .ok (.aload k, 2)) (hl : Ls[k]? = some (.val v)) (hv : v.isRef = true)
    (g : Goes p e below FE n0 Q (T.setTop (mkF m (pc + 2) Ls (v :: st)))) : Goes p e below FE n0 Q (T.setTop (mkF m pc Ls st)) :=
  Goes.via (fun _ k => XS.aload X.here hx rfl hd hl hv k) g
theorem own_astoreN (X : Stand p l e R s m args below meth c T locs cells slots) (hx : p.tables.exec = Jvm.exec) {k : Fin 4} {x : Value} (hd : decode c.code pc = .ok (.astore_n k, 1)) (hv : x.isRef = true) (hl : storeLocals Ls k.val x = some Ls')
    (g : Goes p e below FE n0 Q (T.setTop (mkF m (pc + 1) Ls' st))) : Goes p e below FE n0 Q (T.setTop (mkF m pc Ls (x :: st))) :=
  Goes.via (fun _ k => XS.astoreN X.here hx rfl hd rfl hv hl k) g
theorem own_astore (X : Stand p l e R s m args below meth c T locs cells slots) (hx : p.tables.exec = Jvm.exec) {k : Nat} {x : Value} (hd : decode c.code pc = .ok (.astore k, 2)) (hv : x.isRef = true) (hl : storeLocals Ls k x = some Ls')
    (g : Goes p e below FE n0 Q (T.setTop (mkF m (pc + 2) Ls' st))) : Goes p e below FE n0 Q (T.setTop (mkF m pc Ls (x :: st))) :=
  Goes.via (fun _ k => XS.astore X.here hx rfl hd rfl hv hl k) g
theorem own_iconst (X : Stand p l e R s m args below meth c T locs cells slots) (hx : p.tables.exec = Jvm.exec) {i : Int} {v : Int32} (hd : decode c.code pc = .ok (.iconst i, 1)) (hv : Int32.ofInt i = v)
    (g : Goes p e below FE n0 Q (T.setTop (mkF m (pc + 1) Ls (.int v :: st)))) : Goes p e below FE n0 Q (T.setTop (mkF m pc Ls st)) := by
  subst hv
  exact Goes.via (fun _ k => XS.iconst X.here hx rfl hd k) g
theorem own_bipush (X : Stand p l e R s m args below meth c T locs cells slots) (hx : p.tables.exec = Jvm.exec) {i : Int} {v : Int32} (hd : decode c.code pc = .ok (.bipush i, 2)) (hv : (Int8.ofInt i).toInt32 = v)
    (g : Goes p e below FE n0 Q (T.setTop (mkF m (pc + 2) Ls (.int v :: st)))) : Goes p e below FE n0 Q (T.setTop (mkF m pc Ls st)) := by
  subst hv
  exact Goes.via (fun _ k => XS.bipush X.here hx rfl hd k) g
theorem own_sipush (X : Stand p l e R s m args below meth c T locs cells slots) (hx : p.tables.exec = Jvm.exec) {i : Int} {v : Int32} (hd : decode c.code pc = .ok (.sipush i, 3)) (hv : (Int16.ofInt i).toInt32 = v)
    (g : Goes p e below FE n0 Q (T.setTop (mkF m (pc + 3) Ls (.int v :: st)))) : Goes p e below FE n0 Q (T.setTop (mkF m pc Ls st)) := by
  subst hv
  exact Goes.via (fun _ k => XS.sipush X.here hx rfl hd k) g
theorem own_lconst (X : Stand p l e R s m args below meth c T locs cells slots) (hx : p.tables.exec = Jvm.exec) {i : Fin 2} {v : Int64} (hd : decode c.code pc = .ok (.lconst i, 1)) (hv : Int64.ofNat i = v)
    (g : Goes p e below FE n0 Q (T.setTop (mkF m (pc + 1) Ls (.long v :: st)))) : Goes p e below FE n0 Q (T.setTop (mkF m pc Ls st)) := by
  subst hv
  exact Goes.via (fun _ k => XS.lconst X.here hx rfl hd k) g
theorem own_aconst_null (X : Stand p l e R s m args below meth c T locs cells slots) (hx : p.tables.exec = Jvm.exec)  (hd : decode c.code pc = .ok (.aconst_null, 1))
    (g : Goes p e below FE n0 Q (T.setTop (mkF m (pc + 1) Ls (.null :: st)))) : Goes p e below FE n0 Q (T.setTop (mkF m pc Ls st)) :=
  Goes.via (fun _ k => XS.aconstNull X.here hx rfl hd k) g
theorem own_iadd (X : Stand p l e R s m args below meth c T locs cells slots) (hx : p.tables.exec = Jvm.exec) {x y : Int32} (hd : decode c.code pc = .ok (.iadd, 1))
    (g : Goes p e below FE n0 Q (T.setTop (mkF m (pc + 1) Ls (.int (x + y) :: st)))) : Goes p e below FE n0 Q (T.setTop (mkF m pc Ls (.int y :: .int x :: st))) :=
  Goes.via (fun _ k => XS.iadd X.here hx rfl hd rfl k) g
theorem own_isub (X : Stand p l e R s m args below meth c T locs cells slots) (hx : p.tables.exec = Jvm.exec) {x y : Int32} (hd : decode c.code pc = .ok (.isub, 1))
    (g : Goes p e below FE n0 Q (T.setTop (mkF m (pc + 1) Ls (.int (x - y) :: st)))) : Goes p e below FE n0 Q (T.setTop (mkF m pc Ls (.int y :: .int x :: st))) :=
  Goes.via (fun _ k => XS.isub X.here hx rfl hd rfl k) g
theorem own_imul (X : Stand p l e R s m args below meth c T locs cells slots) (hx : p.tables.exec = Jvm.exec) {x y : Int32} (hd : decode c.code pc = .ok (.imul, 1))
    (g : Goes p e below FE n0 Q (T.setTop (mkF m (pc + 1) Ls (.int (x * y) :: st)))) : Goes p e below FE n0 Q (T.setTop (mkF m pc Ls (.int y :: .int x :: st))) :=
  Goes.via (fun _ k => XS.imul X.here hx rfl hd rfl k) g
theorem own_iand (X : Stand p l e R s m args below meth c T locs cells slots) (hx : p.tables.exec = Jvm.exec) {x y : Int32} (hd : decode c.code pc = .ok (.iand, 1))
    (g : Goes p e below FE n0 Q (T.setTop (mkF m (pc + 1) Ls (.int (x &&& y) :: st)))) : Goes p e below FE n0 Q (T.setTop (mkF m pc Ls (.int y :: .int x :: st))) :=
  Goes.via (fun _ k => XS.iand X.here hx rfl hd rfl k) g
theorem own_ior (X : Stand p l e R s m args below meth c T locs cells slots) (hx : p.tables.exec = Jvm.exec) {x y : Int32} (hd : decode c.code pc = .ok (.ior, 1))
    (g : Goes p e below FE n0 Q (T.setTop (mkF m (pc + 1) Ls (.int (x ||| y) :: st)))) : Goes p e below FE n0 Q (T.setTop (mkF m pc Ls (.int y :: .int x :: st))) :=
  Goes.via (fun _ k => XS.ior X.here hx rfl hd rfl k) g
theorem own_ixor (X : Stand p l e R s m args below meth c T locs cells slots) (hx : p.tables.exec = Jvm.exec) {x y : Int32} (hd : decode c.code pc = .ok (.ixor, 1))
    (g : Goes p e below FE n0 Q (T.setTop (mkF m (pc + 1) Ls (.int (x ^^^ y) :: st)))) : Goes p e below FE n0 Q (T.setTop (mkF m pc Ls (.int y :: .int x :: st))) :=
  Goes.via (fun _ k => XS.ixor X.here hx rfl hd rfl k) g
theorem own_idiv (X : Stand p l e R s m args below meth c T locs cells slots) (hx : p.tables.exec = Jvm.exec) {x y : Int32} (hd : decode c.code pc = .ok (.idiv, 1)) (hy : y ≠ 0)
    (g : Goes p e below FE n0 Q (T.setTop (mkF m (pc + 1) Ls (.int (x / y) :: st)))) : Goes p e below FE n0 Q (T.setTop (mkF m pc Ls (.int y :: .int x :: st))) :=
  Goes.via (fun _ k => XS.idiv X.here hx rfl hd rfl hy k) g
theorem own_ineg (X : Stand p l e R s m args below meth c T locs cells slots) (hx : p.tables.exec = Jvm.exec) {x : Int32} (hd : decode c.code pc = .ok (.ineg, 1))
    (g : Goes p e below FE n0 Q (T.setTop (mkF m (pc + 1) Ls (.int (-x) :: st)))) : Goes p e below FE n0 Q (T.setTop (mkF m pc Ls (.int x :: st))) :=
  Goes.via (fun _ k => XS.ineg X.here hx rfl hd rfl k) g
theorem own_ladd (X : Stand p l e R s m args below meth c T locs cells slots) (hx : p.tables.exec = Jvm.exec) {x y : Int64} (hd : decode c.code pc = .ok (.ladd, 1))
    (g : Goes p e below FE n0 Q (T.setTop (mkF m (pc + 1) Ls (.long (x + y) :: st)))) : Goes p e below FE n0 Q (T.setTop (mkF m pc Ls (.long y :: .long x :: st))) :=
  Goes.via (fun _ k => XS.ladd X.here hx rfl hd rfl k) g
theorem own_lsub (X : Stand p l e R s m args below meth c T locs cells slots) (hx : p.tables.exec = Jvm.exec) {x y : Int64} (hd : decode c.code pc = .ok (.lsub, 1))
    (g : Goes p e below FE n0 Q (T.setTop (mkF m (pc + 1) Ls (.long (x - y) :: st)))) : Goes p e below FE n0 Q (T.setTop (mkF m pc Ls (.long y :: .long x :: st))) :=
  Goes.via (fun _ k => XS.lsub X.here hx rfl hd rfl k) g
theorem own_lmul (X : Stand p l e R s m args below meth c T locs cells slots) (hx : p.tables.exec = Jvm.exec) {x y : Int64} (hd : decode c.code pc = .ok (.lmul, 1))
    (g : Goes p e below FE n0 Q (T.setTop (mkF m (pc + 1) Ls (.long (x * y) :: st)))) : Goes p e below FE n0 Q (T.setTop (mkF m pc Ls (.long y :: .long x :: st))) :=
  Goes.via (fun _ k => XS.lmul X.here hx rfl hd rfl k) g
theorem own_land (X : Stand p l e R s m args below meth c T locs cells slots) (hx : p.tables.exec = Jvm.exec) {x y : Int64} (hd : decode c.code pc = .ok (.land, 1))
    (g : Goes p e below FE n0 Q (T.setTop (mkF m (pc + 1) Ls (.long (x &&& y) :: st)))) : Goes p e below FE n0 Q (T.setTop (mkF m pc Ls (.long y :: .long x :: st))) :=
  Goes.via (fun _ k => XS.land X.here hx rfl hd rfl k) g
theorem own_lor (X : Stand p l e R s m args below meth c T locs cells slots) (hx : p.tables.exec = Jvm.exec) {x y : Int64} (hd : decode c.code pc = .ok (.lor, 1))
    (g : Goes p e below FE n0 Q (T.setTop (mkF m (pc + 1) Ls (.long (x ||| y) :: st)))) : Goes p e below FE n0 Q (T.setTop (mkF m pc Ls (.long y :: .long x :: st))) :=
  Goes.via (fun _ k => XS.lor X.here hx rfl hd rfl k) g
theorem own_lxor (X : Stand p l e R s m args below meth c T locs cells slots) (hx : p.tables.exec = Jvm.exec) {x y : Int64} (hd : decode c.code pc = .ok (.lxor, 1))
    (g : Goes p e below FE n0 Q (T.setTop (mkF m (pc + 1) Ls (.long (x ^^^ y) :: st)))) : Goes p e below FE n0 Q (T.setTop (mkF m pc Ls (.long y :: .long x :: st))) :=
  Goes.via (fun _ k => XS.lxor X.here hx rfl hd rfl k) g
theorem own_ldiv (X : Stand p l e R s m args below meth c T locs cells slots) (hx : p.tables.exec = Jvm.exec) {x y : Int64} (hd : decode c.code pc = .ok (.ldiv, 1)) (hy : y ≠ 0)
    (g : Goes p e below FE n0 Q (T.setTop (mkF m (pc + 1) Ls (.long (x / y) :: st)))) : Goes p e below FE n0 Q (T.setTop (mkF m pc Ls (.long y :: .long x :: st))) :=
  Goes.via (fun _ k => XS.ldiv X.here hx rfl hd rfl hy k) g
theorem own_lneg (X : Stand p l e R s m args below meth c T locs cells slots) (hx : p.tables.exec = Jvm.exec) {x : Int64} (hd : decode c.code pc = .ok (.lneg, 1))
    (g : Goes p e below FE n0 Q (T.setTop (mkF m (pc + 1) Ls (.long (-x) :: st)))) : Goes p e below FE n0 Q (T.setTop (mkF m pc Ls (.long x :: st))) :=
  Goes.via (fun _ k => XS.lneg X.here hx rfl hd rfl k) g
theorem own_irem (X : Stand p l e R s m args below meth c T locs cells slots) (hx : p.tables.exec = Jvm.exec) {x y : Int32} (hd : decode c.code pc = .ok (.irem, 1)) (hy : y ≠ 0)
    (g : Goes p e below FE n0 Q (T.setTop (mkF m (pc + 1) Ls (.int (x % y) :: st)))) : Goes p e below FE n0 Q (T.setTop (mkF m pc Ls (.int y :: .int x :: st))) :=
  Goes.via (fun _ k => iremM (g := mkF m pc Ls (.int y :: .int x :: st)) X hx rfl hd rfl hy k) g
theorem own_lrem (X : Stand p l e R s m args below meth c T locs cells slots) (hx : p.tables.exec = Jvm.exec) {x y : Int64} (hd : decode c.code pc = .ok (.lrem, 1)) (hy : y ≠ 0)
    (g : Goes p e below FE n0 Q (T.setTop (mkF m (pc + 1) Ls (.long (x % y) :: st)))) : Goes p e below FE n0 Q (T.setTop (mkF m pc Ls (.long y :: .long x :: st))) := by
  rw [← lrem_mod] at g
  exact Goes.via (fun _ k => XS.lrem X.here hx rfl hd rfl hy k) g
theorem own_ishl (X : Stand p l e R s m args below meth c T locs cells slots) (hx : p.tables.exec = Jvm.exec) {x y : Int32} (hd : decode c.code pc = .ok (.ishl, 1))
    (g : Goes p e below FE n0 Q (T.setTop (mkF m (pc + 1) Ls (.int (x <<< (y &&& 31)) :: st)))) : Goes p e below FE n0 Q (T.setTop (mkF m pc Ls (.int y :: .int x :: st))) :=
  Goes.via (fun _ k => XS.ishl X.here hx rfl hd rfl k) g
theorem own_ishr (X : Stand p l e R s m args below meth c T locs cells slots) (hx : p.tables.exec = Jvm.exec) {x y : Int32} (hd : decode c.code pc = .ok (.ishr, 1))
    (g : Goes p e below FE n0 Q (T.setTop (mkF m (pc + 1) Ls (.int (x >>> (y &&& 31)) :: st)))) : Goes p e below FE n0 Q (T.setTop (mkF m pc Ls (.int y :: .int x :: st))) :=
  Goes.via (fun _ k => XS.ishr X.here hx rfl hd rfl k) g
theorem own_iushr (X : Stand p l e R s m args below meth c T locs cells slots) (hx : p.tables.exec = Jvm.exec) {x y : Int32} (hd : decode c.code pc = .ok (.iushr, 1))
    (g : Goes p e below FE n0 Q (T.setTop (mkF m (pc + 1) Ls (.int ((x.toUInt32 >>> (y &&& 31).toUInt32).toInt32) :: st)))) : Goes p e below FE n0 Q (T.setTop (mkF m pc Ls (.int y :: .int x :: st))) :=
  Goes.via (fun _ k => XS.iushr X.here hx rfl hd rfl k) g
theorem own_lshl (X : Stand p l e R s m args below meth c T locs cells slots) (hx : p.tables.exec = Jvm.exec) {x : Int64} {y : Int32} (hd : decode c.code pc = .ok (.lshl, 1))
    (g : Goes p e below FE n0 Q (T.setTop (mkF m (pc + 1) Ls (.long (x <<< (y &&& 0x3f).toInt64) :: st)))) : Goes p e below FE n0 Q (T.setTop (mkF m pc Ls (.int y :: .long x :: st))) :=
  Goes.via (fun _ k => by jvm_step X.here [X.here.top, hx, hd]; first | exact k | simpa [mkF] using k) g
theorem own_lshr (X : Stand p l e R s m args below meth c T locs cells slots) (hx : p.tables.exec = Jvm.exec) {x : Int64} {y : Int32} (hd : decode c.code pc = .ok (.lshr, 1))
    (g : Goes p e below FE n0 Q (T.setTop (mkF m (pc + 1) Ls (.long (x >>> (y &&& 0x3f).toInt64) :: st)))) : Goes p e below FE n0 Q (T.setTop (mkF m pc Ls (.int y :: .long x :: st))) :=
  Goes.via (fun _ k => by jvm_step X.here [X.here.top, hx, hd]; first | exact k | simpa [mkF] using k) g
theorem own_lushr (X : Stand p l e R s m args below meth c T locs cells slots) (hx : p.tables.exec = Jvm.exec) {x : Int64} {y : Int32} (hd : decode c.code pc = .ok (.lushr, 1))
    (g : Goes p e below FE n0 Q (T.setTop (mkF m (pc + 1) Ls (.long ((x.toUInt64 >>> (y &&& 0x3f).toInt64.toUInt64).toInt64) :: st)))) : Goes p e below FE n0 Q (T.setTop (mkF m pc Ls (.int y :: .long x :: st))) :=
  Goes.via (fun _ k => by jvm_step X.here [X.here.top, hx, hd]; first | exact k | simpa [mkF] using k) g
theorem own_i2l (X : Stand p l e R s m args below meth c T locs cells slots) (hx : p.tables.exec = Jvm.exec) {x : Int32} (hd : decode c.code pc = .ok (.i2l, 1))
    (g : Goes p e below FE n0 Q (T.setTop (mkF m (pc + 1) Ls (.long (x.toInt64) :: st)))) : Goes p e below FE n0 Q (T.setTop (mkF m pc Ls (.int x :: st))) :=
  Goes.via (fun _ k => XS.i2l X.here hx rfl hd rfl k) g
theorem own_l2i (X : Stand p l e R s m args below meth c T locs cells slots) (hx : p.tables.exec = Jvm.exec) {x : Int64} (hd : decode c.code pc = .ok (.l2i, 1))
    (g : Goes p e below FE n0 Q (T.setTop (mkF m (pc + 1) Ls (.int (x.toInt32) :: st)))) : Goes p e below FE n0 Q (T.setTop (mkF m pc Ls (.long x :: st))) :=
  Goes.via (fun _ k => XS.l2i X.here hx rfl hd rfl k) g
theorem own_i2b (X : Stand p l e R s m args below meth c T locs cells slots) (hx : p.tables.exec = Jvm.exec) {x : Int32} (hd : decode c.code pc = .ok (.i2b, 1))
    (g : Goes p e below FE n0 Q (T.setTop (mkF m (pc + 1) Ls (.int (x.toInt8.toInt32) :: st)))) : Goes p e below FE n0 Q (T.setTop (mkF m pc Ls (.int x :: st))) :=
  Goes.via (fun _ k => XS.i2b X.here hx rfl hd rfl k) g
theorem own_i2s (X : Stand p l e R s m args below meth c T locs cells slots) (hx : p.tables.exec = Jvm.exec) {x : Int32} (hd : decode c.code pc = .ok (.i2s, 1))
    (g : Goes p e below FE n0 Q (T.setTop (mkF m (pc + 1) Ls (.int (x.toInt16.toInt32) :: st)))) : Goes p e below FE n0 Q (T.setTop (mkF m pc Ls (.int x :: st))) :=
  Goes.via (fun _ k => XS.i2s X.here hx rfl hd rfl k) g
theorem own_i2c (X : Stand p l e R s m args below meth c T locs cells slots) (hx : p.tables.exec = Jvm.exec) {x : Int32} (hd : decode c.code pc = .ok (.i2c, 1))
    (g : Goes p e below FE n0 Q (T.setTop (mkF m (pc + 1) Ls (.int (x.toUInt32.toUInt16.toUInt32.toInt32) :: st)))) : Goes p e below FE n0 Q (T.setTop (mkF m pc Ls (.int x :: st))) :=
  Goes.via (fun _ k => XS.i2c X.here hx rfl hd rfl k) g
theorem own_lcmp (X : Stand p l e R s m args below meth c T locs cells slots) (hx : p.tables.exec = Jvm.exec) {x y : Int64} (hd : decode c.code pc = .ok (.lcmp, 1))
    (g : Goes p e below FE n0 Q (T.setTop (mkF m (pc + 1) Ls (.int (lcmpW x y) :: st)))) : Goes p e below FE n0 Q (T.setTop (mkF m pc Ls (.long y :: .long x :: st))) :=
  Goes.via (fun _ k => XS.lcmp X.here hx rfl hd rfl k) g
theorem own_dup (X : Stand p l e R s m args below meth c T locs cells slots) (hx : p.tables.exec = Jvm.exec) {x : Value} (hd : decode c.code pc = .ok (.dup, 1)) (hc : x.category = 1)
    (g : Goes p e below FE n0 Q (T.setTop (mkF m (pc + 1) Ls (x :: x :: st)))) : Goes p e below FE n0 Q (T.setTop (mkF m pc Ls (x :: st))) :=
  Goes.via (fun _ k => XS.dup X.here hx rfl hd rfl hc k) g
theorem own_pop (X : Stand p l e R s m args below meth c T locs cells slots) (hx : p.tables.exec = Jvm.exec) {x : Value} (hd : decode c.code pc = .ok (.pop, 1)) (hc : x.category = 1)
    (g : Goes p e below FE n0 Q (T.setTop (mkF m (pc + 1) Ls st))) : Goes p e below FE n0 Q (T.setTop (mkF m pc Ls (x :: st))) :=
  Goes.via (fun _ k => XS.pop X.here hx rfl hd rfl hc k) g
theorem own_dup_x1 (X : Stand p l e R s m args below meth c T locs cells slots) (hx : p.tables.exec = Jvm.exec) {x y : Value} (hd : decode c.code pc = .ok (.dup_x1, 1)) (hc : x.category = 1) (hc' : y.category = 1)
    (g : Goes p e below FE n0 Q (T.setTop (mkF m (pc + 1) Ls (x :: y :: x :: st)))) : Goes p e below FE n0 Q (T.setTop (mkF m pc Ls (x :: y :: st))) :=
  Goes.via (fun _ k => XS.dupX1 X.here hx rfl hd rfl hc hc' k) g
theorem own_dup2 (X : Stand p l e R s m args below meth c T locs cells slots) (hx : p.tables.exec = Jvm.exec) {x y : Value} (hd : decode c.code pc = .ok (.dup2, 1)) (hc : x.category = 1) (hc' : y.category = 1)
    (g : Goes p e below FE n0 Q (T.setTop (mkF m (pc + 1) Ls (x :: y :: x :: y :: st)))) : Goes p e below FE n0 Q (T.setTop (mkF m pc Ls (x :: y :: st))) :=
  Goes.via (fun _ k => Jvm.Free.XT.dup2 X.here hx rfl hd rfl hc hc' k) g
theorem own_iinc (X : Stand p l e R s m args below meth c T locs cells slots) (hx : p.tables.exec = Jvm.exec) {k : Nat} {cst : Int} {x : Int32} (hd : decode c.code pc = .ok (.iinc k cst, 3)) (hl : Ls[k]? = some (.val (.int x))) (hl' : storeLocals Ls k (.int (x + Int32.ofInt cst)) = some Ls')
    (g : Goes p e below FE n0 Q (T.setTop (mkF m (pc + 3) Ls' st))) : Goes p e below FE n0 Q (T.setTop (mkF m pc Ls st)) :=
  Goes.via (fun _ k => XS.iinc X.here hx rfl hd hl hl' k) g
theorem own_goto (X : Stand p l e R s m args below meth c T locs cells slots) (hx : p.tables.exec = Jvm.exec) {o : Int} (hd : decode c.code pc = .ok (.goto o, 3)) (ho : 0 ≤ (pc : Int) + o) (hp : ((pc : Int) + o).toNat = pc')
    (g : Goes p e below FE n0 Q (T.setTop (mkF m pc' Ls st))) : Goes p e below FE n0 Q (T.setTop (mkF m pc Ls st)) :=
  Goes.via (fun _ k => XS.goto X.here hx rfl rfl hd ho hp k) g
theorem own_ifYes (X : Stand p l e R s m args below meth c T locs cells slots) (hx : p.tables.exec = Jvm.exec) {cd : ClassFile.Cond} {o : Int} {x : Int32} (hd : decode c.code pc = .ok (.ifCond cd o, 3)) (hc : ifCond.holds cd x = true) (ho : 0 ≤ (pc : Int) + o) (hp : ((pc : Int) + o).toNat = pc')
    (g : Goes p e below FE n0 Q (T.setTop (mkF m pc' Ls st))) : Goes p e below FE n0 Q (T.setTop (mkF m pc Ls (.int x :: st))) :=
  Goes.via (fun _ k => XS.ifYes X.here hx rfl rfl hd rfl hc ho hp k) g
theorem own_ifNo (X : Stand p l e R s m args below meth c T locs cells slots) (hx : p.tables.exec = Jvm.exec) {cd : ClassFile.Cond} {o : Int} {x : Int32} (hd : decode c.code pc = .ok (.ifCond cd o, 3)) (hc : ifCond.holds cd x = false)
    (g : Goes p e below FE n0 Q (T.setTop (mkF m (pc + 3) Ls st))) : Goes p e below FE n0 Q (T.setTop (mkF m pc Ls (.int x :: st))) :=
  Goes.via (fun _ k => XS.ifNo X.here hx rfl hd rfl hc k) g
theorem own_icmpYes (X : Stand p l e R s m args below meth c T locs cells slots) (hx : p.tables.exec = Jvm.exec) {cd : ClassFile.Cond} {o : Int} {x y : Int32} (hd : decode c.code pc = .ok (.if_icmp cd o, 3)) (hc : if_icmp.holds cd x y = true) (ho : 0 ≤ (pc : Int) + o) (hp : ((pc : Int) + o).toNat = pc')
    (g : Goes p e below FE n0 Q (T.setTop (mkF m pc' Ls st))) : Goes p e below FE n0 Q (T.setTop (mkF m pc Ls (.int y :: .int x :: st))) :=
  Goes.via (fun _ k => XS.icmpYes X.here hx rfl rfl hd rfl hc ho hp k) g
theorem own_icmpNo (X : Stand p l e R s m args below meth c T locs cells slots) (hx : p.tables.exec = Jvm.exec) {cd : ClassFile.Cond} {o : Int} {x y : Int32} (hd : decode c.code pc = .ok (.if_icmp cd o, 3)) (hc : if_icmp.holds cd x y = false)
    (g : Goes p e below FE n0 Q (T.setTop (mkF m (pc + 3) Ls st))) : Goes p e below FE n0 Q (T.setTop (mkF m pc Ls (.int y :: .int x :: st))) :=
  Goes.via (fun _ k => XS.icmpNo X.here hx rfl hd rfl hc k) g
theorem own_ifnullYes (X : Stand p l e R s m args below meth c T locs cells slots) (hx : p.tables.exec = Jvm.exec) {o : Int} (hd : decode c.code pc = .ok (.ifnull o, 3)) (ho : 0 ≤ (pc : Int) + o) (hp : ((pc : Int) + o).toNat = pc')
    (g : Goes p e below FE n0 Q (T.setTop (mkF m pc' Ls st))) : Goes p e below FE n0 Q (T.setTop (mkF m pc Ls (.null :: st))) :=
  Goes.via (fun _ k => XS.ifnullYes X.here hx rfl rfl hd rfl ho hp k) g
theorem own_ifnullNo (X : Stand p l e R s m args below meth c T locs cells slots) (hx : p.tables.exec = Jvm.exec) {o : Int} {b : Addr} (hd : decode c.code pc = .ok (.ifnull o, 3))
    (g : Goes p e below FE n0 Q (T.setTop (mkF m (pc + 3) Ls st))) : Goes p e below FE n0 Q (T.setTop (mkF m pc Ls (.ref b :: st))) :=
  Goes.via (fun _ k => XS.ifnullNo X.here hx rfl hd rfl k) g
theorem own_ifnonnullYes (X : Stand p l e R s m args below meth c T locs cells slots) (hx : p.tables.exec = Jvm.exec) {o : Int} {b : Addr} (hd : decode c.code pc = .ok (.ifnonnull o, 3)) (ho : 0 ≤ (pc : Int) + o) (hp : ((pc : Int) + o).toNat = pc')
    (g : Goes p e below FE n0 Q (T.setTop (mkF m pc' Ls st))) : Goes p e below FE n0 Q (T.setTop (mkF m pc Ls (.ref b :: st))) :=
  Goes.via (fun _ k => XS.ifnonnullYes X.here hx rfl rfl hd rfl ho hp k) g
theorem own_ifnonnullNo (X : Stand p l e R s m args below meth c T locs cells slots) (hx : p.tables.exec = Jvm.exec) {o : Int} (hd : decode c.code pc = .ok (.ifnonnull o, 3))
    (g : Goes p e below FE n0 Q (T.setTop (mkF m (pc + 3) Ls st))) : Goes p e below FE n0 Q (T.setTop (mkF m pc Ls (.null :: st))) :=
  Goes.via (fun _ k => XS.ifnonnullNo X.here hx rfl hd rfl k) g
theorem own_acmp (X : Stand p l e R s m args below meth c T locs cells slots) (hx : p.tables.exec = Jvm.exec) {cd : ACond} {x y : Value} {o : Int} {same : Bool} (h1 : x.isRef = true) (h2 : y.isRef = true) (hd : decode c.code pc = .ok (.if_acmp cd o, 3)) (hq : decide (x = y) = same) (ho : 0 ≤ (pc : Int) + o) (hp : pc' = if acV cd same = true then ((pc : Int) + o).toNat else pc + 3)
    (g : Goes p e below FE n0 Q (T.setTop (mkF m pc' Ls st))) : Goes p e below FE n0 Q (T.setTop (mkF m pc Ls (y :: x :: st))) :=
  Goes.via (fun _ k => Jvm.RoadKit.acmp (g := mkF m pc Ls (y :: x :: st)) X hx rfl h1 h2 rfl hd rfl hq ho hp k) g
theorem own_tswIn (X : Stand p l e R s m args below meth c T locs cells slots) (hx : p.tables.exec = Jvm.exec) {dflt low high : Int} {offs : Array Int} {len : Nat} {o : Int} {i : Int32} (hd : decode c.code pc = .ok (.tableswitch dflt low high offs, len)) (hin : ¬ (i.toInt < low ∨ i.toInt > high)) (hoff : offs[(i.toInt - low).toNat]? = some o) (ho : 0 ≤ (pc : Int) + o) (hp : ((pc : Int) + o).toNat = pc')
    (g : Goes p e below FE n0 Q (T.setTop (mkF m pc' Ls st))) : Goes p e below FE n0 Q (T.setTop (mkF m pc Ls (.int i :: st))) :=
  Goes.via (fun _ k => XS.tswIn X.here hx rfl rfl hd rfl hin hoff ho hp k) g
theorem own_tswOut (X : Stand p l e R s m args below meth c T locs cells slots) (hx : p.tables.exec = Jvm.exec) {dflt low high : Int} {offs : Array Int} {len : Nat} {i : Int32} (hd : decode c.code pc = .ok (.tableswitch dflt low high offs, len)) (hout : i.toInt < low ∨ i.toInt > high) (ho : 0 ≤ (pc : Int) + dflt) (hp : ((pc : Int) + dflt).toNat = pc')
    (g : Goes p e below FE n0 Q (T.setTop (mkF m pc' Ls st))) : Goes p e below FE n0 Q (T.setTop (mkF m pc Ls (.int i :: st))) :=
  Goes.via (fun _ k => XS.tswOut X.here hx rfl rfl hd rfl hout ho hp k) g
theorem own_ldcInt (X : Stand p l e R s m args below meth c T locs cells slots) (hx : p.tables.exec = Jvm.exec) (hZ : Z.Warmed39 s.vm) {own : String} {index : Nat} (hown : s.vm.findClass own = some m.cls) {v : Int32} (w : (Jvm.Cond.constant own index v).before a0 Z = true) (hd : decode c.code pc = .ok (.ldc index, 2))
    (g : Goes p e below FE n0 Q (T.setTop (mkF m (pc + 2) Ls (.int v :: st)))) : Goes p e below FE n0 Q (T.setTop (mkF m pc Ls st)) :=
  Goes.via (X.ldcInt hx hown (mvT hZ w) (g := mkF m pc Ls st) rfl hd) g
theorem own_ldcwInt (X : Stand p l e R s m args below meth c T locs cells slots) (hx : p.tables.exec = Jvm.exec) (hZ : Z.Warmed39 s.vm) {own : String} {index : Nat} (hown : s.vm.findClass own = some m.cls) {v : Int32} (w : (Jvm.Cond.constant own index v).before a0 Z = true) (hd : decode c.code pc = .ok (.ldc_w index, 3))
    (g : Goes p e below FE n0 Q (T.setTop (mkF m (pc + 3) Ls (.int v :: st)))) : Goes p e below FE n0 Q (T.setTop (mkF m pc Ls st)) :=
  Goes.via (X.ldcwInt hx hown (mvT hZ w) (g := mkF m pc Ls st) rfl hd) g
theorem own_ldc2Long (X : Stand p l e R s m args below meth c T locs cells slots) (hx : p.tables.exec = Jvm.exec) (hZ : Z.Warmed39 s.vm) {own : String} {index : Nat} (hown : s.vm.findClass own = some m.cls) {v : Int64} (w : (Jvm.Cond.constantLong own index v).before a0 Z = true) (hd : decode c.code pc = .ok (.ldc2_w index, 3))
    (g : Goes p e below FE n0 Q (T.setTop (mkF m (pc + 3) Ls (.long v :: st)))) : Goes p e below FE n0 Q (T.setTop (mkF m pc Ls st)) :=
  Goes.via (X.ldc2Long hx hown (mvT hZ w) (g := mkF m pc Ls st) rfl hd) g
theorem own_getF (X : Stand p l e R s m args below meth c T locs cells slots) (hx : p.tables.exec = Jvm.exec) (hZ : Z.Warmed39 s.vm) {own : String} {index : Nat} (hown : s.vm.findClass own = some m.cls) {R0 O n d host : String} (w : ((Jvm.Cond.fieldLink own index R0 n d).before a0 Z = true ∨ (Jvm.Cond.fieldLinkNest own index R0 n d host).before a0 Z = true)) (via : Via Z R0 O n d) (eT : T.heap = h) {a : Addr} {v : Value} (F : Fld Z h a O n d v) (hd : decode c.code pc = .ok (.getfield index, 3))
    (k : ∀ T', Stand p l e R s m args below meth c T' locs cells slots → T'.heap = h → Goes p e below FE n0 Q (T'.setTop (mkF m (pc + 3) Ls (v :: st)))) : Goes p e below FE n0 Q (T.setTop (mkF m pc Ls (.ref a :: st))) := by
  obtain ⟨T', X', e', st'⟩ := getF X hx hZ hown w via eT F (g := mkF m pc Ls (.ref a :: st)) rfl rfl hd
  exact Goes.via st' (k T' X' e')
theorem own_getS (X : Stand p l e R s m args below meth c T locs cells slots) (hx : p.tables.exec = Jvm.exec) (hZ : Z.Warmed39 s.vm) {own : String} {index : Nat} (hown : s.vm.findClass own = some m.cls) {R0 O n d host : String} (w : ((Jvm.Cond.fieldLink own index R0 n d).before a0 Z = true ∨ (Jvm.Cond.fieldLinkNest own index R0 n d host).before a0 Z = true)) (via : Via Z R0 O n d) (eT : T.heap = h) {v : Value} (F : Sta Z h O n d v) (hd : decode c.code pc = .ok (.getstatic index, 3))
    (k : ∀ T', Stand p l e R s m args below meth c T' locs cells slots → T'.heap = h → Goes p e below FE n0 Q (T'.setTop (mkF m (pc + 3) Ls (v :: st)))) : Goes p e below FE n0 Q (T.setTop (mkF m pc Ls st)) := by
  obtain ⟨T', X', e', st'⟩ := getS2 X hx hZ hown w via eT F (g := mkF m pc Ls st) rfl hd
  exact Goes.via st' (k T' X' e')
theorem own_initO (X : Stand p l e R s m args below meth c T locs cells slots) (hx : p.tables.exec = Jvm.exec) (hZ : Z.Warmed39 s.vm) {own : String} {index : Nat} (hown : s.vm.findClass own = some m.cls) (w1 : (Jvm.Cond.methodLink own index Lib.objectInit).before a0 Z = true) (w2 : (Jvm.Cond.instanceMethod Lib.objectInit).before a0 Z = true) (w3 : (Jvm.Cond.code Lib.objectInit ⟨#[0xb1]⟩ 1 none).before a0 Z = true) (eT : T.heap = h) (hsize : Ls.size = c.maxLocals) {a : Addr} (hd : decode c.code pc = .ok (.invokespecial index, 3)) (hf : 1 ≤ R.frames) {W : Nat} (hW : (st.map fun v => v.category).sum ≤ W) (hl : W + 12 ≤ R.locals)
    (k : ∀ T', Stand p l e R s m args below meth c T' locs cells slots → T'.heap = h → Goes p e below FE n0 Q (T'.setTop (mkF m (pc + 3) Ls st))) : Goes p e below FE n0 Q (T.setTop (mkF m pc Ls (.ref a :: st))) := by
  obtain ⟨T', X', e', st'⟩ := initO X hx hZ hown w1 w2 w3 eT (g := mkF m pc Ls (.ref a :: st)) rfl hsize rfl hd hf (W := W) (by show 2 * 0 + _ ≤ _; omega) hl
  exact Goes.via st' (k T' X' e')
theorem own_new (X : Stand p l e R s m args below meth c T locs cells slots) (hx : p.tables.exec = Jvm.exec) (hZ : Z.Warmed39 s.vm) {own : String} {index : Nat} (hown : s.vm.findClass own = some m.cls) {C : String} {nn : Nat} (w : (Jvm.Cond.classLink own index C).before a0 Z = true) (wi : (Jvm.Cond.instantiable C nn).before a0 Z = true) (wz : (Jvm.Cond.initialized C).before a0 Z = true) (eT : T.heap = h) (hd : decode c.code pc = .ok (.new index, 3)) (hc : cells + 1 ≤ R.cells) (hl : slots + nn ≤ R.slots)
    (k : ∀ T' h' b, b = h.size → Stand p l e R s m args below meth c T' locs (cells + 1) (slots + nn) → T'.heap = h' → Ext h h' → Exa Z h' b C → (∀ {O nm d : String} {ty : FieldType}, Laid Z a0 C O nm d → parseFieldDescriptor d = some ty → Fld Z h' b O nm d (defaultValue ty)) → Goes p e below FE n0 Q (T'.setTop (mkF m (pc + 3) Ls (.ref b :: st)))) : Goes p e below FE n0 Q (T.setTop (mkF m pc Ls st)) := by
  obtain ⟨T', h', X', e', E', A', D', -, st'⟩ := newO X hx hZ hown w wi wz eT (g := mkF m pc Ls st) rfl hd hc hl
  exact Goes.via st' (k T' h' _ rfl X' e' E' A' D')
theorem own_putF (X : Stand p l e R s m args below meth c T locs cells slots) (hx : p.tables.exec = Jvm.exec) (hZ : Z.Warmed39 s.vm) {own : String} {index : Nat} (hown : s.vm.findClass own = some m.cls) {R0 O n d host C : String} {kk : Nat} {ty : FieldType} (N : Fr n0 locs) (w : ((Jvm.Cond.fieldLink own index R0 n d).before a0 Z = true ∨ (Jvm.Cond.fieldLinkNest own index R0 n d host).before a0 Z = true)) (via : Via Z R0 O n d) (eT : T.heap = h) {a : Addr} {v old : Value} (F : Fld Z h a O n d old) (E : Exa Z h a C) (L : (Jvm.Cond.lays C O n d).before a0 Z = true ∨ ((Jvm.Cond.laysFinal C O n d).before a0 Z = true ∧ own = O ∧ meth.name = "<init>")) (wi : (Jvm.Cond.instantiable C kk).before a0 Z = true) (hty : parseFieldDescriptor d = some ty) (hn : narrow ty v = v) (hf : fits ty v = true) (hge : n0 ≤ a) (hd : decode c.code pc = .ok (.putfield index, 3))
    (k : ∀ T' h' locs', Stand p l e R s m args below meth c T' locs' cells slots → T'.heap = h' → Fr n0 locs' → Wr h h' a (RoadKit.slotOf Z O n d) v → Goes p e below FE n0 Q (T'.setTop (mkF m (pc + 3) Ls st))) : Goes p e below FE n0 Q (T.setTop (mkF m pc Ls (v :: .ref a :: st))) := by
  obtain ⟨T', h', X', e', W', st'⟩ := putF X hx hZ hown w via eT F E L wi hty hn hf (g := mkF m pc Ls (v :: .ref a :: st)) rfl rfl hd
  exact Goes.via st' (k T' h' _ X' e' (Fr.snoc X' N hge) W')
theorem own_castY (X : Stand p l e R s m args below meth c T locs cells slots) (hx : p.tables.exec = Jvm.exec) (hZ : Z.Warmed39 s.vm) {own : String} {index : Nat} (hown : s.vm.findClass own = some m.cls) {K : String} (w : (Jvm.Cond.classLink own index K).before a0 Z = true) (eT : T.heap = h) {a : Addr} (F : Ins Z h a K true) (hd : decode c.code pc = .ok (.checkcast index, 3))
    (k : ∀ T', Stand p l e R s m args below meth c T' locs cells slots → T'.heap = h → Goes p e below FE n0 Q (T'.setTop (mkF m (pc + 3) Ls (.ref a :: st)))) : Goes p e below FE n0 Q (T.setTop (mkF m pc Ls (.ref a :: st))) := by
  obtain ⟨T', X', e', st'⟩ := castY X hx hZ hown w eT F (g := mkF m pc Ls (.ref a :: st)) rfl rfl hd
  exact Goes.via st' (k T' X' e')
theorem own_castNull (X : Stand p l e R s m args below meth c T locs cells slots) (hx : p.tables.exec = Jvm.exec) {index : Nat} (hd : decode c.code pc = .ok (.checkcast index, 3))
    (g : Goes p e below FE n0 Q (T.setTop (mkF m (pc + 3) Ls (.null :: st)))) : Goes p e below FE n0 Q (T.setTop (mkF m pc Ls (.null :: st))) :=
  Goes.via (X.checkcastNull hx (g := mkF m pc Ls (.null :: st)) rfl rfl hd) g
theorem own_instNull (X : Stand p l e R s m args below meth c T locs cells slots) (hx : p.tables.exec = Jvm.exec) {index : Nat} (hd : decode c.code pc = .ok (.instanceof index, 3))
    (g : Goes p e below FE n0 Q (T.setTop (mkF m (pc + 3) Ls (.int 0 :: st)))) : Goes p e below FE n0 Q (T.setTop (mkF m pc Ls (.null :: st))) :=
  Goes.via (X.instanceofNull hx (g := mkF m pc Ls (.null :: st)) rfl rfl hd) g
theorem own_instY (X : Stand p l e R s m args below meth c T locs cells slots) (hx : p.tables.exec = Jvm.exec) (hZ : Z.Warmed39 s.vm) {own : String} {index : Nat} (hown : s.vm.findClass own = some m.cls) {K : String} (w : (Jvm.Cond.classLink own index K).before a0 Z = true) (eT : T.heap = h) {a : Addr} (F : Ins Z h a K true) (hd : decode c.code pc = .ok (.instanceof index, 3))
    (k : ∀ T', Stand p l e R s m args below meth c T' locs cells slots → T'.heap = h → Goes p e below FE n0 Q (T'.setTop (mkF m (pc + 3) Ls (.int 1 :: st)))) : Goes p e below FE n0 Q (T.setTop (mkF m pc Ls (.ref a :: st))) := by
  obtain ⟨T', X', e', st'⟩ := instY X hx hZ hown w eT F (g := mkF m pc Ls (.ref a :: st)) rfl rfl hd
  exact Goes.via st' (k T' X' e')
theorem own_instN (X : Stand p l e R s m args below meth c T locs cells slots) (hx : p.tables.exec = Jvm.exec) (hZ : Z.Warmed39 s.vm) {own : String} {index : Nat} (hown : s.vm.findClass own = some m.cls) {K C : String} (w : (Jvm.Cond.classLink own index K).before a0 Z = true) (eT : T.heap = h) {a : Addr} (E : Exa Z h a C) (F : ∃ c t, Z.vm.findClass C = some c ∧ Z.vm.findClass K = some t ∧ Z.vm.assignable c t = false) (hd : decode c.code pc = .ok (.instanceof index, 3))
    (k : ∀ T', Stand p l e R s m args below meth c T' locs cells slots → T'.heap = h → Goes p e below FE n0 Q (T'.setTop (mkF m (pc + 3) Ls (.int 0 :: st)))) : Goes p e below FE n0 Q (T.setTop (mkF m pc Ls (.ref a :: st))) := by
  obtain ⟨T', X', e', st'⟩ := instNo X hx hZ hown w eT E F (g := mkF m pc Ls (.ref a :: st)) rfl rfl hd
  exact Goes.via st' (k T' X' e')
theorem own_lsw (X : Stand p l e R s m args below meth c T locs cells slots) (hx : p.tables.exec = Jvm.exec) {dflt : Int} {prs : Array (Int × Int)} {len : Nat} {o kk : Int} {i : Int32} (hd : decode c.code pc = .ok (.lookupswitch dflt prs, len)) (hso : (prs.toList.zip (prs.toList.drop 1)).all (fun (a, next) => a.1 < next.1) = true) (hf : prs.find? (·.1 == i.toInt) = some (kk, o)) (ho : 0 ≤ (pc : Int) + o) (hp : ((pc : Int) + o).toNat = pc')
    (g : Goes p e below FE n0 Q (T.setTop (mkF m pc' Ls st))) : Goes p e below FE n0 Q (T.setTop (mkF m pc Ls (.int i :: st))) := by
  subst hp
  exact Goes.via (X.lookupswitchHit hx (g := mkF m pc Ls (.int i :: st)) rfl rfl hd hso hf ho) g
theorem own_clone (X : Stand p l e R s m args below meth c T locs cells slots) (hx : p.tables.exec = Jvm.exec) (hZ : Z.Warmed39 s.vm) {own : String} {index : Nat} (hown : s.vm.findClass own = some m.cls) {ad : String} (w1 : (Jvm.Cond.methodLink own index ⟨ad, "clone", "()Ljava/lang/Object;"⟩).before a0 Z = true) (w2 : (Jvm.Cond.sameMethod ad "java/lang/Object" "clone" "()Ljava/lang/Object;").before a0 Z = true) (w3 : (Jvm.Cond.native ⟨"java/lang/Object", "clone", "()Ljava/lang/Object;"⟩).before a0 Z = true) (w4 : (Jvm.Cond.instanceMethod ⟨"java/lang/Object", "clone", "()Ljava/lang/Object;"⟩).before a0 Z = true) (w5 : (Jvm.Cond.selects ad ⟨ad, "clone", "()Ljava/lang/Object;"⟩ ⟨"java/lang/Object", "clone", "()Ljava/lang/Object;"⟩).before a0 Z = true) (w6 : (Jvm.Cond.castable ad "java/lang/Cloneable").before a0 Z = true) (eT : T.heap = h) {a : Addr} {k : ClassId} {ty : FieldType} {z : Int32} {vs : List Value} {dv : Value} (F : Arv Z h a k ty z vs dv) (E : Exa Z h a ad) (hsize : Ls.size = c.maxLocals) (hd : decode c.code pc = .ok (.invokevirtual index, 3)) (hf : 1 ≤ R.frames) {W cap : Nat} (hW : (st.map fun v => v.category).sum ≤ W) (hl : W + 14 ≤ R.locals) (hcap : z.toNatClampNeg ≤ cap) (hc : cells + 1 ≤ R.cells) (hsl : slots + cap ≤ R.slots)
    (k : ∀ T' h' b, b = h.size → Stand p l e R s m args below meth c T' locs (cells + 1) (slots + cap) → T'.heap = h' → Ext h h' → Arv Z h' b k ty z vs dv → Exa Z h' b ad → Goes p e below FE n0 Q (T'.setTop (mkF m (pc + 3) Ls (.ref b :: st)))) : Goes p e below FE n0 Q (T.setTop (mkF m pc Ls (.ref a :: st))) := by
  obtain ⟨T', h', X', e', E', A', Ex', st'⟩ := cloneH X hx hZ hown w1 w2 w3 w4 w5 w6 eT F.arh E (g := mkF m pc Ls (.ref a :: st)) rfl hsize rfl hd hf (W := W) (cap := cap) (by show 2 * 0 + _ ≤ _; omega) hl hcap hc hsl
  exact Goes.via st' (k T' h' _ rfl X' e' E' A' Ex')
theorem own_iaload (X : Stand p l e R s m args below meth c T locs cells slots) (hx : p.tables.exec = Jvm.exec) (hZ : Z.Warmed39 s.vm) (eT : T.heap = h) {a : Addr} {k : ClassId} {z j : Int32} {vs : List Value} {dv v : Value} (F : Arv Z h a k .int z vs dv) (hj : ¬ j < 0 ∧ j < z) (hv : vs.getD j.toNatClampNeg dv = v) (hd : decode c.code pc = .ok (.iaload, 1))
    (g : Goes p e below FE n0 Q (T.setTop (mkF m (pc + 1) Ls (v :: st)))) : Goes p e below FE n0 Q (T.setTop (mkF m pc Ls (.int j :: .ref a :: st))) := by
  obtain ⟨cl, A, -, S, -, H, -⟩ := F
  exact Goes.via (fun t k => X.iaload hx (j := j) (v := v) (by rw [eT]; exact A.1) (State.isArrayOf_alike hZ.alike A.2.1) A.2.2 (inb_of S hj) (H.at (inb_of S hj) hv) (g := mkF m pc Ls (.int j :: .ref a :: st)) rfl rfl hd t k) g
theorem own_laload (X : Stand p l e R s m args below meth c T locs cells slots) (hx : p.tables.exec = Jvm.exec) (hZ : Z.Warmed39 s.vm) (eT : T.heap = h) {a : Addr} {k : ClassId} {z j : Int32} {vs : List Value} {dv v : Value} (F : Arv Z h a k .long z vs dv) (hj : ¬ j < 0 ∧ j < z) (hv : vs.getD j.toNatClampNeg dv = v) (hd : decode c.code pc = .ok (.laload, 1))
    (g : Goes p e below FE n0 Q (T.setTop (mkF m (pc + 1) Ls (v :: st)))) : Goes p e below FE n0 Q (T.setTop (mkF m pc Ls (.int j :: .ref a :: st))) := by
  obtain ⟨cl, A, -, S, -, H, -⟩ := F
  exact Goes.via (fun t k => X.laload hx (j := j) (v := v) (by rw [eT]; exact A.1) (State.isArrayOf_alike hZ.alike A.2.1) A.2.2 (inb_of S hj) (H.at (inb_of S hj) hv) (g := mkF m pc Ls (.int j :: .ref a :: st)) rfl rfl hd t k) g
theorem own_caload (X : Stand p l e R s m args below meth c T locs cells slots) (hx : p.tables.exec = Jvm.exec) (hZ : Z.Warmed39 s.vm) (eT : T.heap = h) {a : Addr} {k : ClassId} {z j : Int32} {vs : List Value} {dv v : Value} (F : Arv Z h a k .char z vs dv) (hj : ¬ j < 0 ∧ j < z) (hv : vs.getD j.toNatClampNeg dv = v) (hd : decode c.code pc = .ok (.caload, 1))
    (g : Goes p e below FE n0 Q (T.setTop (mkF m (pc + 1) Ls (v :: st)))) : Goes p e below FE n0 Q (T.setTop (mkF m pc Ls (.int j :: .ref a :: st))) := by
  obtain ⟨cl, A, -, S, -, H, -⟩ := F
  exact Goes.via (fun t k => X.caload hx (j := j) (v := v) (by rw [eT]; exact A.1) (State.isArrayOf_alike hZ.alike A.2.1) A.2.2 (inb_of S hj) (H.at (inb_of S hj) hv) (g := mkF m pc Ls (.int j :: .ref a :: st)) rfl rfl hd t k) g
theorem own_baload (X : Stand p l e R s m args below meth c T locs cells slots) (hx : p.tables.exec = Jvm.exec) (hZ : Z.Warmed39 s.vm) (eT : T.heap = h) {a : Addr} {k : ClassId} {z j : Int32} {vs : List Value} {dv v : Value} (F : Arv Z h a k .byte z vs dv) (hj : ¬ j < 0 ∧ j < z) (hv : vs.getD j.toNatClampNeg dv = v) (hd : decode c.code pc = .ok (.baload, 1))
    (g : Goes p e below FE n0 Q (T.setTop (mkF m (pc + 1) Ls (v :: st)))) : Goes p e below FE n0 Q (T.setTop (mkF m pc Ls (.int j :: .ref a :: st))) := by
  obtain ⟨cl, A, -, S, -, H, -⟩ := F
  exact Goes.via (fun t k => X.baloadBytes hx (j := j) (v := v) (by rw [eT]; exact A.1) (State.isArrayOf_alike hZ.alike A.2.1) A.2.2 (inb_of S hj) (H.at (inb_of S hj) hv) (g := mkF m pc Ls (.int j :: .ref a :: st)) rfl rfl hd t k) g
theorem own_aaload (X : Stand p l e R s m args below meth c T locs cells slots) (hx : p.tables.exec = Jvm.exec) (hZ : Z.Warmed39 s.vm) (eT : T.heap = h) {a : Addr} {k : ClassId} {ty : FieldType} {z j : Int32} {vs : List Value} {dv v : Value} (F : Arv Z h a k ty z vs dv) (hty : ty.isReference = true) (hj : ¬ j < 0 ∧ j < z) (hv : vs.getD j.toNatClampNeg dv = v) (hd : decode c.code pc = .ok (.aaload, 1))
    (g : Goes p e below FE n0 Q (T.setTop (mkF m (pc + 1) Ls (v :: st)))) : Goes p e below FE n0 Q (T.setTop (mkF m pc Ls (.int j :: .ref a :: st))) := by
  obtain ⟨cl, A, -, S, -, H, -⟩ := F
  exact Goes.via (fun t k => X.aaload hx (j := j) (v := v) (by rw [eT]; exact A.1) (State.isArrayOf_alike hZ.alike A.2.1) hty A.2.2 (inb_of S hj) (H.at (inb_of S hj) hv) (g := mkF m pc Ls (.int j :: .ref a :: st)) rfl rfl hd t k) g
theorem own_aaloadC (X : Stand p l e R s m args below meth c T locs cells slots) (hx : p.tables.exec = Jvm.exec) (hZ : Z.Warmed39 s.vm) (eT : T.heap = h) {a : Addr} {cl : Cell} {ty : FieldType} {j : Int32} {v : Value} (A : Arr Z h a cl ty) (hty : ty.isReference = true) (hj : ¬ (j < 0 ∨ cl.slots.size ≤ j.toNatClampNeg)) (hv : cl.slots[j.toNatClampNeg]? = some v) (hd : decode c.code pc = .ok (.aaload, 1))
    (g : Goes p e below FE n0 Q (T.setTop (mkF m (pc + 1) Ls (v :: st)))) : Goes p e below FE n0 Q (T.setTop (mkF m pc Ls (.int j :: .ref a :: st))) :=
  Goes.via (fun t k => X.aaload hx (j := j) (v := v) (by rw [eT]; exact A.1) (State.isArrayOf_alike hZ.alike A.2.1) hty A.2.2 hj hv (g := mkF m pc Ls (.int j :: .ref a :: st)) rfl rfl hd t k) g
theorem own_alen (X : Stand p l e R s m args below meth c T locs cells slots) (hx : p.tables.exec = Jvm.exec) (hZ : Z.Warmed39 s.vm) (eT : T.heap = h) {a : Addr} {k : ClassId} {ty : FieldType} {z : Int32} {vs : List Value} {dv : Value} (F : Arv Z h a k ty z vs dv) (hd : decode c.code pc = .ok (.arraylength, 1))
    (g : Goes p e below FE n0 Q (T.setTop (mkF m (pc + 1) Ls (.int z :: st)))) : Goes p e below FE n0 Q (T.setTop (mkF m pc Ls (.ref a :: st))) := by
  obtain ⟨cl, A, -, S, hz, -, -⟩ := F
  rw [← len_of S hz] at g
  exact Goes.via (fun t k => X.arraylength hx (by rw [eT]; exact A.1) (State.isArrayOf_alike hZ.alike A.2.1) (g := mkF m pc Ls (.ref a :: st)) rfl rfl hd t k) g
theorem own_newP (X : Stand p l e R s m args below meth c T locs cells slots) (hx : p.tables.exec = Jvm.exec) (hZ : Z.Warmed39 s.vm) {aty : ArrayType} (w : (Jvm.Cond.arrayClass (newarray.typeOf aty)).before a0 Z = true) (eT : T.heap = h) {n : Int32} (hd : decode c.code pc = .ok (.newarray aty, 2)) (hn : ¬ n < 0) {cap : Nat} (hcap : n.toNatClampNeg ≤ cap) (hb : cap * 8 ≤ 536870912) (hc : cells + 1 ≤ R.cells) (hl : slots + cap ≤ R.slots)
    (k : ∀ T' h' b cA, b = h.size → Stand p l e R s m args below meth c T' locs (cells + 1) (slots + cap) → T'.heap = h' → Ext h h' → Arv Z h' b cA (newarray.typeOf aty) n [] (defaultValue (newarray.typeOf aty)) → Goes p e below FE n0 Q (T'.setTop (mkF m (pc + 2) Ls (.ref b :: st)))) : Goes p e below FE n0 Q (T.setTop (mkF m pc Ls (.int n :: st))) := by
  obtain ⟨T', h', cA, X', e', E', A', st'⟩ := newP X hx hZ w eT (g := mkF m pc Ls (.int n :: st)) rfl hd rfl hn hcap hb hc hl
  exact Goes.via st' (k T' h' _ cA rfl X' e' E' (Arv.new A' hn))
theorem own_newR (X : Stand p l e R s m args below meth c T locs cells slots) (hx : p.tables.exec = Jvm.exec) (hZ : Z.Warmed39 s.vm) {own : String} {index : Nat} (hown : s.vm.findClass own = some m.cls) {C : String} (w1 : (Jvm.Cond.classLink own index C).before a0 Z = true) (w2 : (Jvm.Cond.arrayOver (.object C)).before a0 Z = true) (eT : T.heap = h) {n : Int32} (hd : decode c.code pc = .ok (.anewarray index, 3)) (hn : ¬ n < 0) {cap : Nat} (hcap : n.toNatClampNeg ≤ cap) (hb : cap * 8 ≤ 536870912) (hc : cells + 1 ≤ R.cells) (hl : slots + cap ≤ R.slots)
    (k : ∀ T' h' b cA, b = h.size → Stand p l e R s m args below meth c T' locs (cells + 1) (slots + cap) → T'.heap = h' → Ext h h' → Arv Z h' b cA (.object C) n [] .null → Ovr Z cA C → Goes p e below FE n0 Q (T'.setTop (mkF m (pc + 3) Ls (.ref b :: st)))) : Goes p e below FE n0 Q (T.setTop (mkF m pc Ls (.int n :: st))) := by
  obtain ⟨T', h', cA, X', e', E', A', O', st'⟩ := newR X hx hZ hown w1 w2 eT (g := mkF m pc Ls (.int n :: st)) rfl hd rfl hn hcap hb hc hl
  exact Goes.via st' (k T' h' _ cA rfl X' e' E' (Arv.new A' hn) O')
theorem own_newPE (X : Stand p l e R s m args below meth c T locs cells slots) (hx : p.tables.exec = Jvm.exec) (hZ : Z.Warmed39 s.vm) {aty : ArrayType} (w : (Jvm.Cond.arrayClass (newarray.typeOf aty)).before a0 Z = true) (eT : T.heap = h) {n : Int32} {ad : String} (had : "[" ++ (newarray.typeOf aty).toString = ad) (hd : decode c.code pc = .ok (.newarray aty, 2)) (hn : ¬ n < 0) {cap : Nat} (hcap : n.toNatClampNeg ≤ cap) (hb : cap * 8 ≤ 536870912) (hc : cells + 1 ≤ R.cells) (hl : slots + cap ≤ R.slots)
    (k : ∀ T' h' b cA, b = h.size → Stand p l e R s m args below meth c T' locs (cells + 1) (slots + cap) → T'.heap = h' → Ext h h' → Arv Z h' b cA (newarray.typeOf aty) n [] (defaultValue (newarray.typeOf aty)) → Exa Z h' b ad → Goes p e below FE n0 Q (T'.setTop (mkF m (pc + 2) Ls (.ref b :: st)))) : Goes p e below FE n0 Q (T.setTop (mkF m pc Ls (.int n :: st))) := by
  obtain ⟨T', h', cA, X', e', E', A', Ex', st'⟩ := newPE X hx hZ w eT (g := mkF m pc Ls (.int n :: st)) rfl hd rfl hn hcap hb hc hl had
  exact Goes.via st' (k T' h' _ cA rfl X' e' E' (Arv.new A' hn) Ex')
theorem own_newRE (X : Stand p l e R s m args below meth c T locs cells slots) (hx : p.tables.exec = Jvm.exec) (hZ : Z.Warmed39 s.vm) {own : String} {index : Nat} (hown : s.vm.findClass own = some m.cls) {C ad : String} (had : "[" ++ (FieldType.object C).toString = ad) (w1 : (Jvm.Cond.classLink own index C).before a0 Z = true) (w2 : (Jvm.Cond.arrayOver (.object C)).before a0 Z = true) (eT : T.heap = h) {n : Int32} (hd : decode c.code pc = .ok (.anewarray index, 3)) (hn : ¬ n < 0) {cap : Nat} (hcap : n.toNatClampNeg ≤ cap) (hb : cap * 8 ≤ 536870912) (hc : cells + 1 ≤ R.cells) (hl : slots + cap ≤ R.slots)
    (k : ∀ T' h' b cA, b = h.size → Stand p l e R s m args below meth c T' locs (cells + 1) (slots + cap) → T'.heap = h' → Ext h h' → Arv Z h' b cA (.object C) n [] .null → Ovr Z cA C → Exa Z h' b ad → Goes p e below FE n0 Q (T'.setTop (mkF m (pc + 3) Ls (.ref b :: st)))) : Goes p e below FE n0 Q (T.setTop (mkF m pc Ls (.int n :: st))) := by
  obtain ⟨T', h', cA, X', e', E', A', Ex', O', st'⟩ := newRE X hx hZ hown w1 w2 eT (g := mkF m pc Ls (.int n :: st)) rfl hd rfl hn hcap hb hc hl had
  exact Goes.via st' (k T' h' _ cA rfl X' e' E' (Arv.new A' hn) O' Ex')
theorem own_newRA (X : Stand p l e R s m args below meth c T locs cells slots) (hx : p.tables.exec = Jvm.exec) (hZ : Z.Warmed39 s.vm) {own : String} {index : Nat} (hown : s.vm.findClass own = some m.cls) {C ad : String} {ty : FieldType} (hC : (FieldType.array ty).toString = C) (had : "[" ++ C = ad) (w1 : (Jvm.Cond.classLink own index C).before a0 Z = true) (w2 : (Jvm.Cond.arrayOver (.array ty)).before a0 Z = true) (eT : T.heap = h) {n : Int32} (hd : decode c.code pc = .ok (.anewarray index, 3)) (hn : ¬ n < 0) {cap : Nat} (hcap : n.toNatClampNeg ≤ cap) (hb : cap * 8 ≤ 536870912) (hc : cells + 1 ≤ R.cells) (hl : slots + cap ≤ R.slots)
    (k : ∀ T' h' b cA, b = h.size → Stand p l e R s m args below meth c T' locs (cells + 1) (slots + cap) → T'.heap = h' → Ext h h' → Arv Z h' b cA (.array ty) n [] .null → OvrA Z cA ty C → Goes p e below FE n0 Q (T'.setTop (mkF m (pc + 3) Ls (.ref b :: st)))) : Goes p e below FE n0 Q (T.setTop (mkF m pc Ls (.int n :: st))) := by
  obtain ⟨T', h', cA, X', e', E', A', Ex', O', st'⟩ := newRA X hx hZ hown hC w1 w2 eT (g := mkF m pc Ls (.int n :: st)) rfl hd rfl hn hcap hb hc hl had
  exact Goes.via st' (k T' h' _ cA rfl X' e' E' (Arv.new A' hn) O')
theorem own_iastore (X : Stand p l e R s m args below meth c T locs cells slots) (hx : p.tables.exec = Jvm.exec) (hZ : Z.Warmed39 s.vm) (N : Fr n0 locs) (eT : T.heap = h) {a : Addr} {k : ClassId} {z j : Int32} {vs : List Value} {dv : Value} {x : Int32} (F : Arv Z h a k .int z vs dv) (hj : ¬ j < 0 ∧ j < z) {i : Nat} (hi : j.toNatClampNeg = i) (hlen : i < vs.length) (hge : n0 ≤ a) (hd : decode c.code pc = .ok (.iastore, 1))
    (k : ∀ T' h' locs', Stand p l e R s m args below meth c T' locs' cells slots → T'.heap = h' → Fr n0 locs' → Wr h h' a j.toNatClampNeg (.int x) → Arv Z h' a k .int z (vs.set i (.int x)) dv → Goes p e below FE n0 Q (T'.setTop (mkF m (pc + 1) Ls st))) : Goes p e below FE n0 Q (T.setTop (mkF m pc Ls (.int x :: .int j :: .ref a :: st))) := by
  obtain ⟨cl, A, q1, S, q3, H, G⟩ := F
  obtain ⟨T', h', X', e', W', st'⟩ := stI X hx hZ eT A (j := j) (inb_of S hj) (g := mkF m pc Ls (.int x :: .int j :: .ref a :: st)) rfl rfl hd
  exact Goes.via st' (k T' h' _ X' e' (Fr.snoc X' N hge) W' (Arv.set A q1 S q3 H G rfl W' i hi hlen))
theorem own_lastore (X : Stand p l e R s m args below meth c T locs cells slots) (hx : p.tables.exec = Jvm.exec) (hZ : Z.Warmed39 s.vm) (N : Fr n0 locs) (eT : T.heap = h) {a : Addr} {k : ClassId} {z j : Int32} {vs : List Value} {dv : Value} {x : Int64} (F : Arv Z h a k .long z vs dv) (hj : ¬ j < 0 ∧ j < z) {i : Nat} (hi : j.toNatClampNeg = i) (hlen : i < vs.length) (hge : n0 ≤ a) (hd : decode c.code pc = .ok (.lastore, 1))
    (k : ∀ T' h' locs', Stand p l e R s m args below meth c T' locs' cells slots → T'.heap = h' → Fr n0 locs' → Wr h h' a j.toNatClampNeg (.long x) → Arv Z h' a k .long z (vs.set i (.long x)) dv → Goes p e below FE n0 Q (T'.setTop (mkF m (pc + 1) Ls st))) : Goes p e below FE n0 Q (T.setTop (mkF m pc Ls (.long x :: .int j :: .ref a :: st))) := by
  obtain ⟨cl, A, q1, S, q3, H, G⟩ := F
  obtain ⟨T', h', X', e', W', st'⟩ := stJ X hx hZ eT A (j := j) (inb_of S hj) (g := mkF m pc Ls (.long x :: .int j :: .ref a :: st)) rfl rfl hd
  exact Goes.via st' (k T' h' _ X' e' (Fr.snoc X' N hge) W' (Arv.set A q1 S q3 H G rfl W' i hi hlen))
theorem own_castore (X : Stand p l e R s m args below meth c T locs cells slots) (hx : p.tables.exec = Jvm.exec) (hZ : Z.Warmed39 s.vm) (N : Fr n0 locs) (eT : T.heap = h) {a : Addr} {k : ClassId} {z j : Int32} {vs : List Value} {dv : Value} {x : Int32} (F : Arv Z h a k .char z vs dv) (hj : ¬ j < 0 ∧ j < z) {i : Nat} (hi : j.toNatClampNeg = i) (hlen : i < vs.length) (hge : n0 ≤ a) (hd : decode c.code pc = .ok (.castore, 1))
    (k : ∀ T' h' locs', Stand p l e R s m args below meth c T' locs' cells slots → T'.heap = h' → Fr n0 locs' → Wr h h' a j.toNatClampNeg (.int (nar .char x)) → Arv Z h' a k .char z (vs.set i (.int (nar .char x))) dv → Goes p e below FE n0 Q (T'.setTop (mkF m (pc + 1) Ls st))) : Goes p e below FE n0 Q (T.setTop (mkF m pc Ls (.int x :: .int j :: .ref a :: st))) := by
  obtain ⟨cl, A, q1, S, q3, H, G⟩ := F
  obtain ⟨T', h', X', e', W', st'⟩ := stC X hx hZ eT A (j := j) (inb_of S hj) (g := mkF m pc Ls (.int x :: .int j :: .ref a :: st)) rfl rfl hd
  exact Goes.via st' (k T' h' _ X' e' (Fr.snoc X' N hge) W' (Arv.set A q1 S q3 H G (fits_nar_char _) W' i hi hlen))
theorem own_bastore (X : Stand p l e R s m args below meth c T locs cells slots) (hx : p.tables.exec = Jvm.exec) (hZ : Z.Warmed39 s.vm) (N : Fr n0 locs) (eT : T.heap = h) {a : Addr} {k : ClassId} {z j : Int32} {vs : List Value} {dv : Value} {x : Int32} (F : Arv Z h a k .byte z vs dv) (hj : ¬ j < 0 ∧ j < z) {i : Nat} (hi : j.toNatClampNeg = i) (hlen : i < vs.length) (hge : n0 ≤ a) (hd : decode c.code pc = .ok (.bastore, 1))
    (k : ∀ T' h' locs', Stand p l e R s m args below meth c T' locs' cells slots → T'.heap = h' → Fr n0 locs' → Wr h h' a j.toNatClampNeg (.int (x.toInt8.toInt32)) → Arv Z h' a k .byte z (vs.set i (.int (x.toInt8.toInt32))) dv → Goes p e below FE n0 Q (T'.setTop (mkF m (pc + 1) Ls st))) : Goes p e below FE n0 Q (T.setTop (mkF m pc Ls (.int x :: .int j :: .ref a :: st))) := by
  obtain ⟨cl, A, q1, S, q3, H, G⟩ := F
  obtain ⟨T', h', X', e', W', st'⟩ := stB X hx hZ eT A (j := j) (inb_of S hj) (g := mkF m pc Ls (.int x :: .int j :: .ref a :: st)) rfl rfl hd
  exact Goes.via st' (k T' h' _ X' e' (Fr.snoc X' N hge) W' (Arv.set A q1 S q3 H G (fits_nar_byte _) W' i hi hlen))
theorem own_aastore (X : Stand p l e R s m args below meth c T locs cells slots) (hx : p.tables.exec = Jvm.exec) (hZ : Z.Warmed39 s.vm) (N : Fr n0 locs) (eT : T.heap = h) {a : Addr} {k : ClassId} {ty : FieldType} {z j : Int32} {vs : List Value} {dv v : Value} (F : Arv Z h a k ty z vs dv) (hty : ty.isReference = true) (hfit : fits ty v = true) (hj : ¬ j < 0 ∧ j < z) {i : Nat} (hi : j.toNatClampNeg = i) (hlen : i < vs.length) (hge : n0 ≤ a) (hst : ∀ cl, Arr Z h a cl ty → cl.cls = k → Sto Z h a v) (hd : decode c.code pc = .ok (.aastore, 1))
    (k : ∀ T' h' locs', Stand p l e R s m args below meth c T' locs' cells slots → T'.heap = h' → Fr n0 locs' → Wr h h' a j.toNatClampNeg v → Arv Z h' a k ty z (vs.set i v) dv → Goes p e below FE n0 Q (T'.setTop (mkF m (pc + 1) Ls st))) : Goes p e below FE n0 Q (T.setTop (mkF m pc Ls (v :: .int j :: .ref a :: st))) := by
  obtain ⟨cl, A, q1, S, q3, H, G⟩ := F
  obtain ⟨T', h', X', e', W', st'⟩ := stR X hx hZ eT A (j := j) (inb_of S hj) hty (hst cl A q1) (g := mkF m pc Ls (v :: .int j :: .ref a :: st)) rfl rfl hd
  exact Goes.via st' (k T' h' _ X' e' (Fr.snoc X' N hge) W' (Arv.set A q1 S q3 H G hfit W' i hi hlen))
theorem own_selfsel {y : MethodName} {nn : Nat} (wi : (Jvm.Cond.instantiable y.cls nn).before a0 Z = true) (w2 : (Jvm.Cond.instanceMethod y).before a0 Z = true) (w6 : (Jvm.Cond.privateMethod y).before a0 Z = true) (hy : y.cls ≠ "java/lang/invoke/MethodHandle" ∧ y.cls ≠ "java/lang/invoke/VarHandle") : (Jvm.Cond.selects y.cls y y).before a0 Z = true := by
  obtain ⟨c, k, h1, h2, -, h4, -⟩ := Cond.instantiable_spec wi
  exact selects_self_of_private h1 h2 (by rw [Bool.or_eq_false_iff] at h4; exact h4.1) (Cond.privateMethod_at w6) w2 hy
theorem own_callS (X : Stand p l e R s m args below meth c T locs cells slots) (hx : p.tables.exec = Jvm.exec) (hZ : Z.Warmed39 s.vm) {own : String} {index : Nat} (hown : s.vm.findClass own = some m.cls) {y : MethodName} {bytes : ByteArray} {maxL : Nat} {ret : Option FieldType} {rm : Room} {W : Nat} {Q' : Option Value → Heap → Prop} (w1 : (Jvm.Cond.methodLink own index y).before a0 Z = true) (w2 : (Jvm.Cond.static y).before a0 Z = true) (w3 : (Jvm.Cond.initialized y.cls).before a0 Z = true) (w4 : (Jvm.Cond.code y bytes maxL ret).before a0 Z = true) (hy : y.cls ≠ "java/lang/invoke/MethodHandle" ∧ y.cls ≠ "java/lang/invoke/VarHandle") (hf : rm.frames + 1 ≤ R.frames) (hl : W + (maxL + 11) + rm.locals ≤ R.locals) (N : Fr n0 locs) (eT : T.heap = h) (hsize : Ls.size = c.maxLocals) {argsL rest : List Value} (hlen : ∀ sig, parseMethodDescriptor y.desc = some sig → argsL.length = sig.parameters.length) (hW : (rest.map fun v => v.category).sum ≤ W) (hc : cells + rm.cells ≤ R.cells) (hs : slots + rm.slots ≤ R.slots) (M : Meets l y bytes maxL ret [] rm rm.cells rm.slots Z argsL.toArray h n0 Q') (hst : st = argsL.reverse ++ rest) (hd : decode c.code pc = .ok (.invokestatic index, 3))
    (k : ∀ v T' locs', Stand p l e R s m args below meth c T' locs' (cells + rm.cells) (slots + rm.slots) → Fr n0 locs' → Q' v T'.heap → Goes p e below FE n0 Q (T'.setTop (mkF m (pc + 3) Ls (v.toList ++ rest)))) : Goes p e below FE n0 Q (T.setTop (mkF m pc Ls st)) := by
  subst hst
  obtain ⟨v, _, ⟨T', L', k', n'⟩, -, X', ⟨Lc, hQ, l1, l2, l3⟩, st'⟩ := Jvm.LawKit.callS X hx (y := y) hown (mvT hZ w1) (mvT hZ w2) (mvT hZ w3) (mvT hZ w4) hy (backOf (W := W) (Q := fun v h L => Fr n0 L ∧ Q' v h) M hZ w4 w3 hf hl) (g := mkF m pc Ls (argsL.reverse ++ rest)) rfl hsize (argsL := argsL) (rest := rest) hlen rfl (by show 2 * 0 + _ ≤ _; omega) hd (fun _ _ => ⟨rfl, eT, hc, hs⟩)
  dsimp only [Pt.U, Pt.locs, Pt.cells, Pt.slots] at X' l1 l2 l3 st' hQ
  subst l1 l2 l3
  exact Goes.via st' (k v T' _ X' (Fr.app N hQ.1) hQ.2)
theorem own_special (X : Stand p l e R s m args below meth c T locs cells slots) (hx : p.tables.exec = Jvm.exec) (hZ : Z.Warmed39 s.vm) {own : String} {index : Nat} (hown : s.vm.findClass own = some m.cls) {y : MethodName} {bytes : ByteArray} {maxL : Nat} {rm : Room} {W : Nat} {Q' : Option Value → Heap → Prop} (hy1 : y.name = "<init>") (w1 : (Jvm.Cond.methodLink own index y).before a0 Z = true) (w2 : (Jvm.Cond.instanceMethod y).before a0 Z = true) (w3 : (Jvm.Cond.initialized y.cls).before a0 Z = true) (w4 : (Jvm.Cond.code y bytes maxL none).before a0 Z = true) {a : Addr} (hy : y.cls ≠ "java/lang/invoke/MethodHandle" ∧ y.cls ≠ "java/lang/invoke/VarHandle") (hf : rm.frames + 1 ≤ R.frames) (hl : W + (maxL + 11) + rm.locals ≤ R.locals) (N : Fr n0 locs) (eT : T.heap = h) (hsize : Ls.size = c.maxLocals) {argsL rest : List Value} (hlen : ∀ sig, parseMethodDescriptor y.desc = some sig → argsL.length = sig.parameters.length) (hW : (rest.map fun v => v.category).sum ≤ W) (hc : cells + rm.cells ≤ R.cells) (hs : slots + rm.slots ≤ R.slots) (M : Meets l y bytes maxL none [] rm rm.cells rm.slots Z (.ref a :: argsL).toArray h n0 Q') (hst : st = argsL.reverse ++ .ref a :: rest) (hd : decode c.code pc = .ok (.invokespecial index, 3))
    (k : ∀ v T' locs', Stand p l e R s m args below meth c T' locs' (cells + rm.cells) (slots + rm.slots) → Fr n0 locs' → Q' v T'.heap → Goes p e below FE n0 Q (T'.setTop (mkF m (pc + 3) Ls (v.toList ++ rest)))) : Goes p e below FE n0 Q (T.setTop (mkF m pc Ls st)) := by
  subst hst
  obtain ⟨v, _, ⟨T', L', k', n'⟩, -, X', ⟨Lc, hQ, l1, l2, l3⟩, st'⟩ := X.specialBack hx (y := y) hy1 hown (mvT hZ w1) (mvT hZ w2) (mvT hZ w4) hy (backOf (W := W) (Q := fun v h L => Fr n0 L ∧ Q' v h) M hZ w4 w3 hf hl) (g := mkF m pc Ls (argsL.reverse ++ .ref a :: rest)) rfl hsize (Steps.refl _) (a := a) (argsL := argsL) (rest := rest) hlen rfl (by show 2 * 0 + _ ≤ _; omega) hd (fun _ _ => ⟨rfl, eT, hc, hs⟩)
  dsimp only [Pt.U, Pt.locs, Pt.cells, Pt.slots] at X' l1 l2 l3 st' hQ
  subst l1 l2 l3
  exact Goes.via (fun _ k => st'.trans k) (k v T' _ X' (Fr.app N hQ.1) hQ.2)
theorem own_specialNest (X : Stand p l e R s m args below meth c T locs cells slots) (hx : p.tables.exec = Jvm.exec) (hZ : Z.Warmed39 s.vm) {own : String} {index : Nat} (hown : s.vm.findClass own = some m.cls) {y : MethodName} {bytes : ByteArray} {maxL : Nat} {rm : Room} {W : Nat} {Q' : Option Value → Heap → Prop} {host : String} (hy1 : y.name = "<init>") (w1 : (Jvm.Cond.methodLinkNest own index y host).before a0 Z = true) (w2 : (Jvm.Cond.instanceMethod y).before a0 Z = true) (w3 : (Jvm.Cond.initialized y.cls).before a0 Z = true) (w4 : (Jvm.Cond.code y bytes maxL none).before a0 Z = true) {a : Addr} (hy : y.cls ≠ "java/lang/invoke/MethodHandle" ∧ y.cls ≠ "java/lang/invoke/VarHandle") (hf : rm.frames + 1 ≤ R.frames) (hl : W + (maxL + 11) + rm.locals ≤ R.locals) (N : Fr n0 locs) (eT : T.heap = h) (hsize : Ls.size = c.maxLocals) {argsL rest : List Value} (hlen : ∀ sig, parseMethodDescriptor y.desc = some sig → argsL.length = sig.parameters.length) (hW : (rest.map fun v => v.category).sum ≤ W) (hc : cells + rm.cells ≤ R.cells) (hs : slots + rm.slots ≤ R.slots) (M : Meets l y bytes maxL none [] rm rm.cells rm.slots Z (.ref a :: argsL).toArray h n0 Q') (hst : st = argsL.reverse ++ .ref a :: rest) (hd : decode c.code pc = .ok (.invokespecial index, 3))
    (k : ∀ v T' locs', Stand p l e R s m args below meth c T' locs' (cells + rm.cells) (slots + rm.slots) → Fr n0 locs' → Q' v T'.heap → Goes p e below FE n0 Q (T'.setTop (mkF m (pc + 3) Ls (v.toList ++ rest)))) : Goes p e below FE n0 Q (T.setTop (mkF m pc Ls st)) := by
  subst hst
  obtain ⟨v, _, ⟨T', L', k', n'⟩, -, X', ⟨Lc, hQ, l1, l2, l3⟩, st'⟩ := X.specialBackNest hx (y := y) hy1 hown (Cond.methodLinkNest_wide hZ w1 :) (mvT hZ w2) (mvT hZ w4) hy (backOf (W := W) (Q := fun v h L => Fr n0 L ∧ Q' v h) M hZ w4 w3 hf hl) (g := mkF m pc Ls (argsL.reverse ++ .ref a :: rest)) rfl hsize (Steps.refl _) (a := a) (argsL := argsL) (rest := rest) hlen rfl (by show 2 * 0 + _ ≤ _; omega) hd (fun _ _ => ⟨rfl, eT, hc, hs⟩)
  dsimp only [Pt.U, Pt.locs, Pt.cells, Pt.slots] at X' l1 l2 l3 st' hQ
  subst l1 l2 l3
  exact Goes.via (fun _ k => st'.trans k) (k v T' _ X' (Fr.app N hQ.1) hQ.2)
theorem own_virtual (X : Stand p l e R s m args below meth c T locs cells slots) (hx : p.tables.exec = Jvm.exec) (hZ : Z.Warmed39 s.vm) {own : String} {index : Nat} (hown : s.vm.findClass own = some m.cls) {y : MethodName} {bytes : ByteArray} {maxL : Nat} {ret : Option FieldType} {rm : Room} {W : Nat} {Q' : Option Value → Heap → Prop} {z : MethodName} {C : String} (w1 : (Jvm.Cond.methodLink own index y).before a0 Z = true) (w2 : (Jvm.Cond.declares y).before a0 Z = true) (hnf : NotFace s y) (w5 : (Jvm.Cond.selects C y z).before a0 Z = true) (w6 : (Jvm.Cond.instanceMethod z).before a0 Z = true) (w3 : (Jvm.Cond.initialized z.cls).before a0 Z = true) (w4 : (Jvm.Cond.code z bytes maxL ret).before a0 Z = true) {a : Addr} (E : Exa Z h a C) (hy : y.cls ≠ "java/lang/invoke/MethodHandle" ∧ y.cls ≠ "java/lang/invoke/VarHandle") (hf : rm.frames + 1 ≤ R.frames) (hl : W + (maxL + 11) + rm.locals ≤ R.locals) (N : Fr n0 locs) (eT : T.heap = h) (hsize : Ls.size = c.maxLocals) {argsL rest : List Value} (hlen : ∀ sig, parseMethodDescriptor y.desc = some sig → argsL.length = sig.parameters.length) (hW : (rest.map fun v => v.category).sum ≤ W) (hc : cells + rm.cells ≤ R.cells) (hs : slots + rm.slots ≤ R.slots) (M : Meets l z bytes maxL ret [] rm rm.cells rm.slots Z (.ref a :: argsL).toArray h n0 Q') (hst : st = argsL.reverse ++ .ref a :: rest) (hd : decode c.code pc = .ok (.invokevirtual index, 3))
    (k : ∀ v T' locs', Stand p l e R s m args below meth c T' locs' (cells + rm.cells) (slots + rm.slots) → Fr n0 locs' → Q' v T'.heap → Goes p e below FE n0 Q (T'.setTop (mkF m (pc + 3) Ls (v.toList ++ rest)))) : Goes p e below FE n0 Q (T.setTop (mkF m pc Ls st)) := by
  subst hst
  obtain ⟨cq, kq, qa, qb, qc⟩ := isOf hZ eT E
  obtain ⟨v, _, ⟨T', L', k', n'⟩, -, X', ⟨Lc, hQ, l1, l2, l3⟩, st'⟩ := X.virtualBack hx (y := y) (z := z) hown (mvT hZ w1) (mvT hZ w2) hnf (mvT hZ w5) (mvT hZ w6) hy (backOf (W := W) (Q := fun v h L => Fr n0 L ∧ Q' v h) M hZ w4 w3 hf hl) qa qc (g := mkF m pc Ls (argsL.reverse ++ .ref a :: rest)) rfl hsize (Steps.refl _) (argsL := argsL) (rest := rest) hlen rfl (by show 2 * 0 + _ ≤ _; omega) hd (fun _ _ => ⟨rfl, eT, hc, hs⟩)
  dsimp only [Pt.U, Pt.locs, Pt.cells, Pt.slots] at X' l1 l2 l3 st' hQ
  subst l1 l2 l3
  exact Goes.via (fun _ k => st'.trans k) (k v T' _ X' (Fr.app N hQ.1) hQ.2)
theorem own_private (X : Stand p l e R s m args below meth c T locs cells slots) (hx : p.tables.exec = Jvm.exec) (hZ : Z.Warmed39 s.vm) {own : String} {index : Nat} (hown : s.vm.findClass own = some m.cls) {y : MethodName} {bytes : ByteArray} {maxL : Nat} {ret : Option FieldType} {rm : Room} {W : Nat} {Q' : Option Value → Heap → Prop} (w1 : (Jvm.Cond.methodLink own index y).before a0 Z = true) (w2 : (Jvm.Cond.instanceMethod y).before a0 Z = true) {nn : Nat} (w5 : (Jvm.Cond.instantiable y.cls nn).before a0 Z = true) (w6 : (Jvm.Cond.privateMethod y).before a0 Z = true) (w3 : (Jvm.Cond.initialized y.cls).before a0 Z = true) (w4 : (Jvm.Cond.code y bytes maxL ret).before a0 Z = true) {a : Addr} {C : String} (E : Exa Z h a C) (hy : y.cls ≠ "java/lang/invoke/MethodHandle" ∧ y.cls ≠ "java/lang/invoke/VarHandle") (hf : rm.frames + 1 ≤ R.frames) (hl : W + (maxL + 11) + rm.locals ≤ R.locals) (N : Fr n0 locs) (eT : T.heap = h) (hsize : Ls.size = c.maxLocals) {argsL rest : List Value} (hlen : ∀ sig, parseMethodDescriptor y.desc = some sig → argsL.length = sig.parameters.length) (hW : (rest.map fun v => v.category).sum ≤ W) (hc : cells + rm.cells ≤ R.cells) (hs : slots + rm.slots ≤ R.slots) (M : Meets l y bytes maxL ret [] rm rm.cells rm.slots Z (.ref a :: argsL).toArray h n0 Q') (hst : st = argsL.reverse ++ .ref a :: rest) (hd : decode c.code pc = .ok (.invokevirtual index, 3))
    (k : ∀ v T' locs', Stand p l e R s m args below meth c T' locs' (cells + rm.cells) (slots + rm.slots) → Fr n0 locs' → Q' v T'.heap → Goes p e below FE n0 Q (T'.setTop (mkF m (pc + 3) Ls (v.toList ++ rest)))) : Goes p e below FE n0 Q (T.setTop (mkF m pc Ls st)) := by
  subst hst
  obtain ⟨cq, qa, qb⟩ := E.cell
  obtain ⟨v, _, ⟨T', L', k', n'⟩, -, X', ⟨Lc, hQ, l1, l2, l3⟩, st'⟩ := X.privateBack hx (y := y) hown (mvT hZ w1) (mvT hZ w2) (mvT hZ (own_selfsel w5 w2 w6 hy)) (Cond.privateMethod_at (mvP hZ w6 (args := #[]))) (mvT hZ w4) hy (backOf (W := W) (Q := fun v h L => Fr n0 L ∧ Q' v h) M hZ w4 w3 hf hl) (g := mkF m pc Ls (argsL.reverse ++ .ref a :: rest)) rfl hsize (Steps.refl _) (a := a) (by rw [eT]; exact qa) qb (argsL := argsL) (rest := rest) hlen rfl (by show 2 * 0 + _ ≤ _; omega) hd (fun _ _ => ⟨rfl, eT, hc, hs⟩)
  dsimp only [Pt.U, Pt.locs, Pt.cells, Pt.slots] at X' l1 l2 l3 st' hQ
  subst l1 l2 l3
  exact Goes.via (fun _ k => st'.trans k) (k v T' _ X' (Fr.app N hQ.1) hQ.2)
theorem own_virtualUp (X : Stand p l e R s m args below meth c T locs cells slots) (hx : p.tables.exec = Jvm.exec) (hZ : Z.Warmed39 s.vm) {own : String} {index : Nat} (hown : s.vm.findClass own = some m.cls) {y : MethodName} {bytes : ByteArray} {maxL : Nat} {ret : Option FieldType} {rm : Room} {W : Nat} {Q' : Option Value → Heap → Prop} {z : MethodName} {C owner : String} (w1 : (Jvm.Cond.methodLink own index y).before a0 Z = true) (w2 : (Jvm.Cond.sameMethod y.cls owner y.name y.desc).before a0 Z = true) (w7 : (Jvm.Cond.declares ⟨owner, y.name, y.desc⟩).before a0 Z = true) (w5 : (Jvm.Cond.selects C y z).before a0 Z = true) (w6 : (Jvm.Cond.instanceMethod z).before a0 Z = true) (w3 : (Jvm.Cond.initialized z.cls).before a0 Z = true) (w4 : (Jvm.Cond.code z bytes maxL ret).before a0 Z = true) {a : Addr} (E : Exa Z h a C) (hy : owner ≠ "java/lang/invoke/MethodHandle" ∧ owner ≠ "java/lang/invoke/VarHandle") (hf : rm.frames + 1 ≤ R.frames) (hl : W + (maxL + 11) + rm.locals ≤ R.locals) (N : Fr n0 locs) (eT : T.heap = h) (hsize : Ls.size = c.maxLocals) {argsL rest : List Value} (hlen : ∀ sig, parseMethodDescriptor y.desc = some sig → argsL.length = sig.parameters.length) (hW : (rest.map fun v => v.category).sum ≤ W) (hc : cells + rm.cells ≤ R.cells) (hs : slots + rm.slots ≤ R.slots) (M : Meets l z bytes maxL ret [] rm rm.cells rm.slots Z (.ref a :: argsL).toArray h n0 Q') (hst : st = argsL.reverse ++ .ref a :: rest) (hd : decode c.code pc = .ok (.invokevirtual index, 3))
    (k : ∀ v T' locs', Stand p l e R s m args below meth c T' locs' (cells + rm.cells) (slots + rm.slots) → Fr n0 locs' → Q' v T'.heap → Goes p e below FE n0 Q (T'.setTop (mkF m (pc + 3) Ls (v.toList ++ rest)))) : Goes p e below FE n0 Q (T.setTop (mkF m pc Ls st)) := by
  subst hst
  obtain ⟨cq, kq, qa, qb, qc⟩ := isOf hZ eT E
  obtain ⟨v, _, ⟨T', L', k', n'⟩, -, X', ⟨Lc, hQ, l1, l2, l3⟩, st'⟩ := X.virtualBackUp hx (x := y) (y := z) hown (mvT hZ w1) (mvT hZ w2) (mvT hZ w7 (by simp [Cond.onTables, Cond.keepsFace, Cond.keeps, Cond.steady, Cond.faceAtom, hy.1, hy.2])) hy (mvT hZ w5) (mvT hZ w6) (backOf (W := W) (Q := fun v h L => Fr n0 L ∧ Q' v h) M hZ w4 w3 hf hl) qa qc (g := mkF m pc Ls (argsL.reverse ++ .ref a :: rest)) rfl hsize (Steps.refl _) (argsL := argsL) (rest := rest) hlen rfl (by show 2 * 0 + _ ≤ _; omega) hd (fun _ _ => ⟨rfl, eT, hc, hs⟩)
  dsimp only [Pt.U, Pt.locs, Pt.cells, Pt.slots] at X' l1 l2 l3 st' hQ
  subst l1 l2 l3
  exact Goes.via (fun _ k => st'.trans k) (k v T' _ X' (Fr.app N hQ.1) hQ.2)
theorem own_iface (X : Stand p l e R s m args below meth c T locs cells slots) (hx : p.tables.exec = Jvm.exec) (hZ : Z.Warmed39 s.vm) {own : String} {index : Nat} (hown : s.vm.findClass own = some m.cls) {y : MethodName} {bytes : ByteArray} {maxL : Nat} {ret : Option FieldType} {rm : Room} {W : Nat} {Q' : Option Value → Heap → Prop} {z : MethodName} {C : String} {count : Nat} (w1 : (Jvm.Cond.methodLink own index y).before a0 Z = true) (w2 : (Jvm.Cond.declares y).before a0 Z = true) (w7 : (Jvm.Cond.interfaceMethod y.cls y.cls y.name y.desc).before a0 Z = true) (w5 : (Jvm.Cond.selects C y z).before a0 Z = true) (w6 : (Jvm.Cond.instanceMethod z).before a0 Z = true) (w8 : (Jvm.Cond.publicMethod z).before a0 Z = true) (w9 : (Jvm.Cond.unhidden C y.name y.desc).before a0 Z = true) (wc : (Jvm.Cond.castable C y.cls).before a0 Z = true) (w3 : (Jvm.Cond.initialized z.cls).before a0 Z = true) (w4 : (Jvm.Cond.code z bytes maxL ret).before a0 Z = true) {a : Addr} (E : Exa Z h a C) (hy : y.cls ≠ "java/lang/invoke/MethodHandle" ∧ y.cls ≠ "java/lang/invoke/VarHandle") (hf : rm.frames + 1 ≤ R.frames) (hl : W + (maxL + 11) + rm.locals ≤ R.locals) (N : Fr n0 locs) (eT : T.heap = h) (hsize : Ls.size = c.maxLocals) {argsL rest : List Value} (hlen : ∀ sig, parseMethodDescriptor y.desc = some sig → argsL.length = sig.parameters.length) (hW : (rest.map fun v => v.category).sum ≤ W) (hc : cells + rm.cells ≤ R.cells) (hs : slots + rm.slots ≤ R.slots) (M : Meets l z bytes maxL ret [] rm rm.cells rm.slots Z (.ref a :: argsL).toArray h n0 Q') (hst : st = argsL.reverse ++ .ref a :: rest) (hd : decode c.code pc = .ok (.invokeinterface index count, 5))
    (k : ∀ v T' locs', Stand p l e R s m args below meth c T' locs' (cells + rm.cells) (slots + rm.slots) → Fr n0 locs' → Q' v T'.heap → Goes p e below FE n0 Q (T'.setTop (mkF m (pc + 5) Ls (v.toList ++ rest)))) : Goes p e below FE n0 Q (T.setTop (mkF m pc Ls st)) := by
  subst hst
  obtain ⟨cq, kq, qa, qb, qc⟩ := isOf hZ eT E
  obtain ⟨v, _, ⟨T', L', k', n'⟩, -, X', ⟨Lc, hQ, l1, l2, l3⟩, st'⟩ := X.interfaceBack hx (xi := y) (y := z) hown (mvT hZ w1) (mvT hZ w2) (mvT hZ w7 (by simp [Cond.onTables, Cond.keepsFace, Cond.keeps, Cond.steady, Cond.faceAtom, hy.1, hy.2])) (mvT hZ w5) (mvT hZ w6) (mvT hZ w8) (mvT hZ w9) (mvT hZ wc) hy (backOf (W := W) (Q := fun v h L => Fr n0 L ∧ Q' v h) M hZ w4 w3 hf hl) qa qb qc (g := mkF m pc Ls (argsL.reverse ++ .ref a :: rest)) rfl hsize (Steps.refl _) (argsL := argsL) (rest := rest) hlen rfl (by show 2 * 0 + _ ≤ _; omega) hd (fun _ _ => ⟨rfl, eT, hc, hs⟩)
  dsimp only [Pt.U, Pt.locs, Pt.cells, Pt.slots] at X' l1 l2 l3 st' hQ
  subst l1 l2 l3
  exact Goes.via (fun _ k => st'.trans k) (k v T' _ X' (Fr.app N hQ.1) hQ.2)
theorem own_gcls (X : Stand p l e R s m args below meth c T locs cells slots) (hx : p.tables.exec = Jvm.exec) (hZ : Z.Warmed39 s.vm) {own : String} {index : Nat} (hown : s.vm.findClass own = some m.cls) {C : String} (w1 : (Jvm.Cond.methodLink own index ⟨"java/lang/Object", "getClass", "()Ljava/lang/Class;"⟩).before a0 Z = true) (w2 : (Jvm.Cond.declares ⟨"java/lang/Object", "getClass", "()Ljava/lang/Class;"⟩).before a0 Z = true) (w3 : (Jvm.Cond.noSuperclass "java/lang/Object").before a0 Z = true) (w4 : (Jvm.Cond.selects C ⟨"java/lang/Object", "getClass", "()Ljava/lang/Class;"⟩ ⟨"java/lang/Object", "getClass", "()Ljava/lang/Class;"⟩).before a0 Z = true) (w5 : (Jvm.Cond.instanceMethod ⟨"java/lang/Object", "getClass", "()Ljava/lang/Class;"⟩).before a0 Z = true) (w6 : (Jvm.Cond.native ⟨"java/lang/Object", "getClass", "()Ljava/lang/Class;"⟩).before a0 Z = true) (eT : T.heap = h) {a mr : Addr} (E : Exa Z h a C) (M : ∃ (c : ClassId) (k : Class), Z.vm.findClass C = some c ∧ Z.vm.classes[c]? = some k ∧ k.mirror = some mr) (hsize : Ls.size = c.maxLocals) (hd : decode c.code pc = .ok (.invokevirtual index, 3)) (hf : 1 ≤ R.frames) {W : Nat} (hW : (st.map fun v => v.category).sum ≤ W) (hl : W + 14 ≤ R.locals)
    (k : ∀ T', Stand p l e R s m args below meth c T' locs cells slots → T'.heap = h → Goes p e below FE n0 Q (T'.setTop (mkF m (pc + 3) Ls (.ref mr :: st)))) : Goes p e below FE n0 Q (T.setTop (mkF m pc Ls (.ref a :: st))) := by
  obtain ⟨cB, kB, i1, i2, i3⟩ := isOf hZ eT E
  obtain ⟨cc, kc, m1, m2, m3⟩ := M
  rw [hZ.alike.findClass] at i1
  cases i1.symm.trans m1
  obtain ⟨k', q, ek⟩ := hZ.alike.2.2 _ _ m2
  obtain ⟨vm', X', st'⟩ := X.getClassOf hx hown (mvT hZ w1) (mvT hZ w2) (nf_top (args := #[]) (mvT hZ w3)) (mvT hZ w4) (mvT hZ w5) (mvT hZ w6) (by rw [hZ.alike.findClass]; exact m1) i3 q (by rw [ek]; exact m3) (g := mkF m pc Ls (.ref a :: st)) rfl hsize rfl hd hf (by show 2 * 0 + _ + (1 + 2 + 11) ≤ _; omega)
  exact Goes.via st' (k _ X' eT)
theorem own_ldcMir (X : Stand p l e R s m args below meth c T locs cells slots) (hx : p.tables.exec = Jvm.exec) (hZ : Z.Warmed39 s.vm) {own : String} {index : Nat} (hown : s.vm.findClass own = some m.cls) {C : String} (w : (Jvm.Cond.classLink own index C).before a0 Z = true) (eT : T.heap = h) {mr : Addr} (M : ∃ (c : ClassId) (k : Class), Z.vm.findClass C = some c ∧ Z.vm.classes[c]? = some k ∧ k.mirror = some mr) (hd : decode c.code pc = .ok (.ldc index, 2))
    (k : ∀ T', Stand p l e R s m args below meth c T' locs cells slots → T'.heap = h → Goes p e below FE n0 Q (T'.setTop (mkF m (pc + 2) Ls (.ref mr :: st)))) : Goes p e below FE n0 Q (T.setTop (mkF m pc Ls st)) := by
  obtain ⟨cc, kc, m1, m2, m3⟩ := M
  obtain ⟨k', q, ek⟩ := hZ.alike.2.2 _ _ m2
  have hf' : s.vm.findClass C = some cc := by rw [hZ.alike.findClass]; exact m1
  obtain ⟨vm', X', st'⟩ := X.ldcMirror hx hown (mv hZ w) (a := mr) (by
    have hm : k'.mirror = some mr := by first | (rw [ek]; exact m3) | (rw [← ek]; exact m3) | (have := congrArg Class.mirror ek; simp at this; rw [← this]; exact m3) | (have := congrArg Class.mirror ek; simp at this; rw [this]; exact m3)
    show ((s.vm.findClass C).bind fun c => (s.vm.classes[c]?).bind fun k => k.mirror.bind fun a => some (Value.ref a)) = some (.ref mr)
    rw [hf']
    show ((s.vm.classes[cc]?).bind fun k => k.mirror.bind fun a => some (Value.ref a)) = some (.ref mr)
    rw [q]
    show (k'.mirror.bind fun a => some (Value.ref a)) = some (.ref mr)
    rw [hm]
    rfl) (g := mkF m pc Ls st) rfl hd
  exact Goes.via st' (k _ X' eT)
theorem own_cpA (X : Stand p l e R s m args below meth c T locs cells slots) (hx : p.tables.exec = Jvm.exec) (hZ : Z.Warmed39 s.vm) {own : String} {index : Nat} (hown : s.vm.findClass own = some m.cls) (w1 : (Jvm.Cond.methodLink own index Jvm.Stand.acN).before a0 Z = true) (w2 : (Jvm.Cond.native Jvm.Stand.acN).before a0 Z = true) (w3 : (Jvm.Cond.static Jvm.Stand.acN).before a0 Z = true) (w4 : (Jvm.Cond.initialized "java/lang/System").before a0 Z = true) (eT : T.heap = h) {a b : Addr} {k k' : ClassId} {ty ty' : FieldType} {z z' sp dp nn : Int32} {vs vd us vr : List Value} {dv dd : Value} (A : Arv Z h a k ty z vs dv) (B : Arv Z h b k' ty' z' vd dd) (hty : (ty = ty' ∧ refKind ty = false) ∨ (refKind ty = true ∧ refKind ty' = true ∧ StoL Z h b us)) (h1 : ¬ sp < 0) (h2 : ¬ dp < 0) (h3 : ¬ nn < 0) (h4 : sp.toNatClampNeg + nn.toNatClampNeg ≤ z.toNatClampNeg) (h5 : dp.toNatClampNeg + nn.toNatClampNeg ≤ z'.toNatClampNeg) (hus : us = (List.range nn.toNatClampNeg).map fun i => vs.getD (sp.toNatClampNeg + i) dv) (hl : dp.toNatClampNeg + nn.toNatClampNeg ≤ vd.length) (hvr : vd.take dp.toNatClampNeg ++ us ++ vd.drop (dp.toNatClampNeg + nn.toNatClampNeg) = vr) (N : Fr n0 locs) (ge : n0 ≤ b) (hsize : Ls.size = c.maxLocals) (hd : decode c.code pc = .ok (.invokestatic index, 3)) (hf : 1 ≤ R.frames) {W : Nat} (hW : (st.map fun v => v.category).sum ≤ W) (hlo : W + 18 ≤ R.locals)
    (k : ∀ T' h' locs', Stand p l e R s m args below meth c T' locs' cells slots → T'.heap = h' → Fr n0 locs' → Keep h h' [b] → Arv Z h' b k' ty' z' vr dd → Goes p e below FE n0 Q (T'.setTop (mkF m (pc + 3) Ls st))) : Goes p e below FE n0 Q (T.setTop (mkF m pc Ls (.int nn :: .int dp :: .ref b :: .int sp :: .ref a :: st))) := by
  subst hvr
  obtain ⟨T', h', L, X', e', N', K', V', st'⟩ := cpA X hx hZ hown w1 w2 w3 w4 eT A B hty h1 h2 h3 h4 h5 hus hl N ge (g := mkF m pc Ls (.int nn :: .int dp :: .ref b :: .int sp :: .ref a :: st)) rfl hsize rfl hd hf (W := W) (by show 2 * 0 + _ ≤ _; omega) hlo
  exact Goes.via st' (k T' h' L X' e' N' K' V')
theorem own_retN (X : Stand p l e R s m args below meth c T locs cells slots) (hx : p.tables.exec = Jvm.exec) {t : FieldType} {z : Int32} (N : Fr n0 locs) (hlk : meth.locks = false) (hc : cells ≤ kc) (hs : slots ≤ ks) (hret : meth.sig.returnType = some t) (ht : t = .boolean ∨ t = .byte ∨ t = .char ∨ t = .short) (hd : decode c.code pc = .ok (.ireturn, 1)) (hq : Q (some (.int (nar t z))) T.heap) : Goes p e below (fun o t L => FrameEnd s o t L kc ks) n0 Q (T.setTop (mkF m pc Ls (.int z :: st))) :=
  Goes.ret X N hlk (fun h => by rw [hret] at h; cases h) hc hs hq (fun fs hr => retN X hx hret ht hd hr)
theorem own_retI (X : Stand p l e R s m args below meth c T locs cells slots) (hx : p.tables.exec = Jvm.exec) {z : Int32} (N : Fr n0 locs) (hlk : meth.locks = false) (hc : cells ≤ kc) (hs : slots ≤ ks) (hret : meth.sig.returnType = some .int) (hd : decode c.code pc = .ok (.ireturn, 1)) (hq : Q (some (.int z)) T.heap) : Goes p e below (fun o t L => FrameEnd s o t L kc ks) n0 Q (T.setTop (mkF m pc Ls (.int z :: st))) :=
  Goes.ret X N hlk (fun h => by rw [hret] at h; cases h) hc hs hq (fun fs hr => retOut X hx hret rfl (Or.inl ⟨rfl, Or.inl rfl, _, rfl⟩) hd hr)
theorem own_retJ (X : Stand p l e R s m args below meth c T locs cells slots) (hx : p.tables.exec = Jvm.exec) {z : Int64} (N : Fr n0 locs) (hlk : meth.locks = false) (hc : cells ≤ kc) (hs : slots ≤ ks) (hret : meth.sig.returnType = some .long) (hd : decode c.code pc = .ok (.lreturn, 1)) (hq : Q (some (.long z)) T.heap) : Goes p e below (fun o t L => FrameEnd s o t L kc ks) n0 Q (T.setTop (mkF m pc Ls (.long z :: st))) :=
  Goes.ret X N hlk (fun h => by rw [hret] at h; cases h) hc hs hq (fun fs hr => retOut X hx hret rfl (Or.inr (Or.inl ⟨rfl, rfl, _, rfl⟩)) hd hr)
theorem own_retR (X : Stand p l e R s m args below meth c T locs cells slots) (hx : p.tables.exec = Jvm.exec) {v : Value} {t : FieldType} (N : Fr n0 locs) (hlk : meth.locks = false) (hc : cells ≤ kc) (hs : slots ≤ ks) (hret : meth.sig.returnType = some t) (ht : t.isReference = true) (hv : v.isRef = true) (hn : narrow t v = v) (hd : decode c.code pc = .ok (.areturn, 1)) (hq : Q (some v) T.heap) : Goes p e below (fun o t L => FrameEnd s o t L kc ks) n0 Q (T.setTop (mkF m pc Ls (v :: st))) :=
  Goes.ret X N hlk (fun h => by rw [hret] at h; cases h) hc hs hq (fun fs hr => retOut X hx hret hn (Or.inr (Or.inr (Or.inr (Or.inr ⟨rfl, ht, hv⟩)))) hd hr)
theorem own_retV (X : Stand p l e R s m args below meth c T locs cells slots) (hx : p.tables.exec = Jvm.exec) (N : Fr n0 locs) (hlk : meth.locks = false) (hc : cells ≤ kc) (hs : slots ≤ ks) (hret : meth.sig.returnType = none) (hd : decode c.code pc = .ok (.return_, 1)) (hq : Q none T.heap) : Goes p e below (fun o t L => FrameEnd s o t L kc ks) n0 Q (T.setTop (mkF m pc Ls [])) :=
  Goes.ret X N hlk (fun _ => rfl) hc hs hq (fun fs hr => X.returnOut hx hret hd hr)
theorem own_bz {P : Prop} [Decidable P] (h : ¬ P) : (if P then (1 : Int32) else (0 : Int32)) = (0 : Int32) := if_neg h
theorem own_bnz {P : Prop} [Decidable P] (h : ¬ ¬ P) : ¬ ((if P then (1 : Int32) else (0 : Int32)) = (0 : Int32)) := by rw [if_pos (Classical.not_not.mp h)]; decide
theorem own_nb (P : Prop) [Decidable P] : narrow .boolean (.int (if P then (1 : Int32) else (0 : Int32))) = (.int (if P then (1 : Int32) else (0 : Int32))) ∧ fits .boolean (.int (if P then (1 : Int32) else (0 : Int32))) = true := by
  by_cases h : P
  · rw [if_pos h]; exact ⟨rfl, rfl⟩
  · rw [if_neg h]; exact ⟨rfl, rfl⟩
theorem own_narb (P : Prop) [Decidable P] : nar .boolean (if P then (1 : Int32) else (0 : Int32)) = (if P then (1 : Int32) else (0 : Int32)) := by
  by_cases h : P
  · rw [if_pos h]; rfl
  · rw [if_neg h]; rfl
theorem own_eq {args : Array Value} {s s' : State} {o : Option Outcome} {idx : List Nat} {a b : Term} {v : Value} (h : (Jvm.Cond.eq a b).value args s o s' idx = some true) (hb : b.eval args s o idx s' = some v) : a.eval args s o idx s' = some v := by
  simp only [Cond.value, hb] at h
  cases ha : a.eval args s o idx s' with
  | none => simp [ha] at h
  | some w => rw [ha] at h; cases w <;> cases v <;> simp_all
theorem own_len {args : Array Value} {t : Term} {a : Addr} {cl : Cell} {ty : FieldType} {z : Int32} (ev : t.eval args Z none [] Z = some (.ref a)) (A : Arr Z Z.heap a cl ty) (hl : (Term.length t).eval args Z none [] Z = some (.int z)) : cl.slots.size < 2 ^ 31 ∧ cl.slots.size.toInt32 = z := by
  have ha : Z.arrayAt? a = some cl := A.fin (Vm.Alike.refl _)
  by_cases q : cl.slots.size < 2 ^ 31
  · have h2 := (len_f ev ha q).symm.trans hl
    exact ⟨q, by cases h2; rfl⟩
  · simp [Term.eval, ev, ha, q] at hl
theorem own_arr {args : Array Value} {t : Term} {a : Addr} {cl : Cell} {ty : FieldType} {z : Int32} {vs : List Value} {dv : Value} (hf : Fit Z) (ev : t.eval args Z none [] Z = some (.ref a)) (A : Arr Z Z.heap a cl ty) (hl : (Term.length t).eval args Z none [] Z = some (.int z)) (hz : ¬ z < 0) (hn : z.toNatClampNeg = vs.length) (H : HasL cl 0 vs) : Arv Z Z.heap a cl.cls ty z vs dv :=
  Arv.start hf A (own_len ev A hl).1 (own_len ev A hl).2 hz hn H
theorem own_fold {f : Nat → Option Bool} : ∀ (L : List Nat) (acc : Option Bool), L.foldl (fun acc i => match acc with | some true => f i | x => x) acc = some true → acc = some true ∧ ∀ i ∈ L, f i = some true
  | [], acc, h => ⟨h, fun _ q => nomatch q⟩
  | i :: L, acc, h => by
    obtain ⟨h1, h2⟩ := own_fold L _ h
    have h3 : acc = some true := by rcases acc with _ | (_ | _) <;> simp_all
    subst h3
    exact ⟨rfl, fun j hj => by rcases List.mem_cons.mp hj with rfl | q; exact h1; exact h2 j q⟩
theorem own_all {args : Array Value} {first s : State} {o : Option Outcome} {idx : List Nat} {t : Term} {c : Jvm.Cond} {a : Addr} {cell : Cell} (h : (Jvm.Cond.all t c).value args first o s idx = some true) (ev : t.eval args first o idx s = some (.ref a)) (ha : s.arrayAt? a = some cell) : ∀ i, i < cell.slots.size → c.value args first o s (i :: idx) = some true := by
  intro i hi
  simp only [Cond.value, ev, ha] at h
  exact (own_fold _ _ h).2 i (List.mem_range.mpr hi)
theorem own_exaI {args : Array Value} {t : Term} {C : String} {idx : List Nat} (h : (Jvm.Cond.exactly t C).value args Z none Z idx = some true) : ∃ b, t.eval args Z none idx Z = some (.ref b) ∧ Exa Z Z.heap b C := by
  obtain ⟨a, c, cell, k, e1, e2, e3, e4, e5, e6, e7⟩ := Cond.exactly_spec (beq_iff_eq.mpr h : (Jvm.Cond.exactly t C).holds args Z none Z idx = true)
  subst e6
  exact ⟨a, e1, cell, k, e3, e2, e4, e5, e7⟩
theorem own_NSroot {O K : String} {nn : Nat} (w : (Jvm.Cond.noSuperclass O).before a0 Z = true) (wi : (Jvm.Cond.instantiable K nn).before a0 Z = true) (hn : O ≠ K) : NS Z O K := by
  obtain ⟨c, k, h1, h2, h3, -, -⟩ := Cond.noSuperclass_spec w
  obtain ⟨t, kt, g1, -⟩ := Cond.instantiable_spec wi
  have ne := ids_ne h1 g1 hn
  refine ⟨c, t, h1, g1, fun fuel => ?_⟩
  cases fuel with
  | zero => rfl
  | succ f => simp [Vm.isSubclassAux, ne, h2, h3]
theorem own_NSno {C S K : String} {nn : Nat} (w : (Jvm.Cond.superclass C S).before a0 Z = true) (wi : (Jvm.Cond.instantiable K nn).before a0 Z = true) (n : NS Z C K) (hn : C ≠ K) : ∃ c t, Z.vm.findClass C = some c ∧ Z.vm.findClass K = some t ∧ Z.vm.assignable c t = false := by
  obtain ⟨c, t, h0, g0, n3⟩ := n
  obtain ⟨p, k, kp, h1, h2, h3, h4, h5, -, h7⟩ := Cond.superclass_spec h0 w
  obtain ⟨t', k', g1, g2, g5, g7, -⟩ := Cond.instantiable_spec wi
  cases g0.symm.trans g1
  rw [Bool.or_eq_false_iff] at g7
  have ne := ids_ne h0 g0 hn
  refine ⟨c, t, h0, g0, ?_⟩
  show Z.vm.assignableAux (255 + 1) c t = false
  simp [Vm.assignableAux, ne, h2, g2, h5, g5, g7.1, Vm.isSubclass, n3]
end OwnKit
def Start (Z : State) (w_FIXED : Addr) (w_EXPONENTIAL : Addr) (w_cache : Addr) : Prop :=
  Sta Z Z.heap "com/example/lease/lease/model/RetryBackoff" "FIXED" "Lcom/example/lease/lease/model/RetryBackoff;" (.ref w_FIXED) ∧
  Exa Z Z.heap w_FIXED "com/example/lease/lease/model/RetryBackoff" ∧
  Sta Z Z.heap "com/example/lease/lease/model/RetryBackoff" "EXPONENTIAL" "Lcom/example/lease/lease/model/RetryBackoff;" (.ref w_EXPONENTIAL) ∧
  Exa Z Z.heap w_EXPONENTIAL "com/example/lease/lease/model/RetryBackoff" ∧
  Sta Z Z.heap "java/lang/Integer$IntegerCache" "cache" "[Ljava/lang/Integer;" (.ref w_cache) ∧
  Exa Z Z.heap w_cache "[Ljava/lang/Integer;" ∧
  Fld Z Z.heap w_EXPONENTIAL "java/lang/Enum" "ordinal" "I" (.int (0 : Int32)) ∧
  Fld Z Z.heap w_FIXED "java/lang/Enum" "ordinal" "I" (.int (1 : Int32)) ∧
  Sta Z Z.heap "java/lang/Integer$IntegerCache" "high" "I" (.int (127 : Int32)) ∧
  (∃ cl : Cell, Arr Z Z.heap w_cache cl (.object "java/lang/Integer") ∧ cl.slots.size = 256 ∧ ∀ i, i < 256 → ∃ b, cl.slots[i]? = some (.ref b) ∧ Exa Z Z.heap b "java/lang/Integer") ∧
  True
theorem own_cache {Z : State} {args : Array Value} {w : Addr} {cl : Cell} (h1 : cl.slots.size < 2 ^ 31) (h2 : cl.slots.size.toInt32 = (256 : Int32)) (A : Arr Z Z.heap w cl (.object "java/lang/Integer")) (ev : (Term.static "java/lang/Integer$IntegerCache" "cache" "[Ljava/lang/Integer;").eval args Z none [] Z = some (.ref w))
    (ha : (Jvm.Cond.all (Jvm.Term.static "java/lang/Integer$IntegerCache" "cache" "[Ljava/lang/Integer;") (Jvm.Cond.and (Jvm.Cond.exactly (Jvm.Term.elem (Jvm.Term.static "java/lang/Integer$IntegerCache" "cache" "[Ljava/lang/Integer;") (Jvm.Term.index (0 : Nat))) "java/lang/Integer") (Jvm.Cond.eq (Jvm.Term.field (Jvm.Term.elem (Jvm.Term.static "java/lang/Integer$IntegerCache" "cache" "[Ljava/lang/Integer;") (Jvm.Term.index (0 : Nat))) "java/lang/Integer" "value" "I") (Jvm.Term.sub (Jvm.Term.index (0 : Nat)) (Jvm.Term.int (128 : Int32)))))).value args Z none Z [] = some true) :
    ∃ cl : Cell, Arr Z Z.heap w cl (.object "java/lang/Integer") ∧ cl.slots.size = 256 ∧ ∀ i, i < 256 → ∃ b, cl.slots[i]? = some (.ref b) ∧ Exa Z Z.heap b "java/lang/Integer" := by
  have hz : cl.slots.size = 256 := by
    have e := len_toInt h1
    rw [h2] at e
    have : (256 : Int32).toInt = 256 := by decide
    omega
  refine ⟨cl, A, hz, fun i hi => ?_⟩
  have hc := own_all ha ev (A.fin (Vm.Alike.refl _)) i (by omega)
  obtain ⟨b, e1, e2⟩ := own_exaI (and_e hc).1
  obtain ⟨-, e3⟩ := elem_in (x := w) (j := i.toInt32) e1 ev rfl A.1
  have e4 : (i.toInt32).toNatClampNeg = i := by simp only [Int32.toNatClampNeg, len_toInt (Nat.lt_trans hi (by decide) : i < 2 ^ 31)]; rfl
  rw [e4] at e3
  exact ⟨b, e3, e2⟩
theorem own_idx {p : Int32} {n : Nat} (hn : n = 256) (h1 : ¬ (p < (-128 : Int32))) (h2 : ¬ ((127 : Int32) < p)) : ¬ ((p + (128 : Int32)) < 0 ∨ n ≤ (p + (128 : Int32)).toNatClampNeg) ∧ (p + (128 : Int32)).toNatClampNeg < 256 := by
  rw [Int32.lt_iff_toInt_lt] at h1 h2
  have a := c_iadd p 128
  have b := rng32 (p + (128 : Int32))
  have e1 : (-128 : Int32).toInt = -128 := by decide
  have e2 : (127 : Int32).toInt = 127 := by decide
  have e3 : (128 : Int32).toInt = 128 := by decide
  have e0 : (0 : Int32).toInt = 0 := by decide
  have hnn : ¬ ((p + (128 : Int32)) < 0) := by rw [Int32.lt_iff_toInt_lt]; omega
  have e4 := nat_of hnn
  refine ⟨fun q => ?_, by omega⟩
  rcases q with q | q
  · exact hnn q
  · omega
theorem d1_0 : decode prog_23_method_1_code 0 = .ok (.aload_n 0, 1) := by decide +kernel
theorem d1_1 : decode prog_23_method_1_code 1 = .ok (.invokespecial 3, 3) := by decide +kernel
theorem d1_4 : decode prog_23_method_1_code 4 = .ok (.aload_n 0, 1) := by decide +kernel
theorem d1_5 : decode prog_23_method_1_code 5 = .ok (.iload_n 1, 1) := by decide +kernel
theorem d1_6 : decode prog_23_method_1_code 6 = .ok (.putfield 9, 3) := by decide +kernel
theorem d1_9 : decode prog_23_method_1_code 9 = .ok (.aload_n 0, 1) := by decide +kernel
theorem d1_10 : decode prog_23_method_1_code 10 = .ok (.aload_n 2, 1) := by decide +kernel
theorem d1_11 : decode prog_23_method_1_code 11 = .ok (.putfield 15, 3) := by decide +kernel
theorem d1_14 : decode prog_23_method_1_code 14 = .ok (.aload_n 0, 1) := by decide +kernel
theorem d1_15 : decode prog_23_method_1_code 15 = .ok (.iload_n 3, 1) := by decide +kernel
theorem d1_16 : decode prog_23_method_1_code 16 = .ok (.putfield 19, 3) := by decide +kernel
theorem d1_19 : decode prog_23_method_1_code 19 = .ok (.return_, 1) := by decide +kernel
theorem pn_0 : plainName "com/example/lease/lease/model/RetryPolicy" = true := by first | (simp [plainName, overriddenIn]; done) | decide +kernel
def Q1 (Z : State) (a1 : Addr) (p2 : Int32) (a3 : Addr) (p4 : Int32) (u1 : Value) (u2 : Value) (u3 : Value) (h0 : Heap) (n0 : Nat) (v : Option Value) (h : Heap) : Prop :=
  (v = none ∧ Keep h0 h [a1] ∧ Exa Z h a1 "com/example/lease/lease/model/RetryPolicy" ∧ Fld Z h a1 "com/example/lease/lease/model/RetryPolicy" "maxRetries" "I" (.int p2) ∧ Fld Z h a1 "com/example/lease/lease/model/RetryPolicy" "backoff" "Lcom/example/lease/lease/model/RetryBackoff;" (.ref a3) ∧ Fld Z h a1 "com/example/lease/lease/model/RetryPolicy" "retryDelaySeconds" "I" (.int p4))
theorem ef_1 (m : MethodId) (a1 : Addr) (p2 : Int32) (a3 : Addr) (p4 : Int32) : entryFrame m #[(.ref a1), (.int p2), (.ref a3), (.int p4)] 4 = mkF m 0 #[.val (.ref a1), .val (.int p2), .val (.ref a3), .val (.int p4)] [] := by first | (simp [entryFrame, mkF, argsToLocals, Value.category]; done) | rfl
set_option maxRecDepth 65536 in
set_option maxHeartbeats 40000000 in
theorem rm1 (l : Launch) (Z : State) (a0 : Array Value) (hw : ∀ d ∈ tables_1, d.before a0 Z = true) (ws : List Jvm.Cond) (a1 : Addr) (p2 : Int32) (a3 : Addr) (p4 : Int32) (u1 : Value) (u2 : Value) (u3 : Value) (h0 : Heap) (n0 : Nat) (O0 : Old Z n0 h0) (f0 : Exa Z h0 a1 "com/example/lease/lease/model/RetryPolicy") (f1 : Fld Z h0 a1 "com/example/lease/lease/model/RetryPolicy" "maxRetries" "I" u1) (f2 : Fld Z h0 a1 "com/example/lease/lease/model/RetryPolicy" "backoff" "Lcom/example/lease/lease/model/RetryBackoff;" u2) (f3 : Fld Z h0 a1 "com/example/lease/lease/model/RetryPolicy" "retryDelaySeconds" "I" u3) (f4 : n0 ≤ a1) :
    Meets l (⟨"com/example/lease/lease/model/RetryPolicy", "<init>", "(ILcom/example/lease/lease/model/RetryBackoff;I)V"⟩ : MethodName) prog_23_method_1_code 4 none ws ({ frames := 1, cells := 0, slots := 0, locals := 12 } : Room) ({ frames := 1, cells := 0, slots := 0, locals := 12 } : Room).cells ({ frames := 1, cells := 0, slots := 0, locals := 12 } : Room).slots Z #[(.ref a1), (.int p2), (.ref a3), (.int p4)] h0 n0 (Q1 Z a1 p2 a3 p4 u1 u2 u3 h0 n0) := by
  refine Meets.of (F := fun m => mkF m 0 #[.val (.ref a1), .val (.int p2), .val (.ref a3), .val (.int p4)] []) (plainFor_of_name pn_0) (fun m => ef_1 m a1 p2 a3 p4) ?_
  intro p e s m below meth c T0 hx hby hml hown0 hnm hret hlk hZ X0 e0
  have hown : s.vm.findClass "com/example/lease/lease/model/RetryPolicy" = some m.cls := hown0
  have N0 := Fr.nil n0
  have KC0 := Keep.refl h0 [a1]
  show Goes _ _ _ _ _ _ (T0.setTop (mkF m 0 #[.val (.ref a1), .val (.int p2), .val (.ref a3), .val (.int p4)] []))
  refine own_aloadN X0 hx (hb hby d1_0) rfl rfl ?_
  show Goes _ _ _ _ _ _ (T0.setTop (mkF m 1 #[.val (.ref a1), .val (.int p2), .val (.ref a3), .val (.int p4)] [(.ref a1)]))
  refine own_initO X0 hx hZ hown (hw _ (List.mem_of_getElem? (i := 9) rfl)) (hw _ (List.mem_of_getElem? (i := 10) rfl)) (hw _ (List.mem_of_getElem? (i := 11) rfl)) e0 (by rw [hml]; rfl) (hb hby d1_1) (by decide) (W := 0) (Nat.le_of_eq rfl) (by decide) (fun T1 X1 e1 => ?_)
  show Goes _ _ _ _ _ _ (T1.setTop (mkF m 4 #[.val (.ref a1), .val (.int p2), .val (.ref a3), .val (.int p4)] []))
  refine own_aloadN X1 hx (hb hby d1_4) rfl rfl ?_
  show Goes _ _ _ _ _ _ (T1.setTop (mkF m 5 #[.val (.ref a1), .val (.int p2), .val (.ref a3), .val (.int p4)] [(.ref a1)]))
  refine own_iloadN X1 hx (hb hby d1_5) rfl ?_
  show Goes _ _ _ _ _ _ (T1.setTop (mkF m 6 #[.val (.ref a1), .val (.int p2), .val (.ref a3), .val (.int p4)] [(.int p2), (.ref a1)]))
  refine own_putF X1 hx hZ hown N0 (host := "") (Or.inl (hw _ (List.mem_of_getElem? (i := 12) rfl))) Via.refl e1 f1 f0 (Or.inr ⟨(hw _ (List.mem_of_getElem? (i := 13) rfl)), rfl, hnm⟩) (hw _ (List.mem_of_getElem? (i := 4) rfl)) (ty := .int) (by decide) rfl rfl f4 (hb hby d1_6) (fun T2 h2 lc2 X2 e2 N2 W2 => ?_)
  have E3_a1 := f0.wr W2
  have F3_maxRetries_a1 := f1.same W2
  have F3_backoff_a1 := f2.other W2 (Or.inr (slot_ne (Or.inr (hw _ (List.mem_of_getElem? (i := 15) rfl))) (Or.inr (hw _ (List.mem_of_getElem? (i := 13) rfl))) (by decide) (t := (.object "com/example/lease/lease/model/RetryBackoff")) (t' := .int) (by decide) (by decide)))
  have F3_retryDelaySeconds_a1 := f3.other W2 (Or.inr (slot_ne (Or.inr (hw _ (List.mem_of_getElem? (i := 17) rfl))) (Or.inr (hw _ (List.mem_of_getElem? (i := 13) rfl))) (by decide) (t := .int) (t' := .int) (by decide) (by decide)))
  have O3 := O0.wr W2 f4
  have KC3 := KC0.wr W2 (Or.inl (List.mem_of_getElem? (i := 0) rfl))
  show Goes _ _ _ _ _ _ (T2.setTop (mkF m 9 #[.val (.ref a1), .val (.int p2), .val (.ref a3), .val (.int p4)] []))
  refine own_aloadN X2 hx (hb hby d1_9) rfl rfl ?_
  show Goes _ _ _ _ _ _ (T2.setTop (mkF m 10 #[.val (.ref a1), .val (.int p2), .val (.ref a3), .val (.int p4)] [(.ref a1)]))
  refine own_aloadN X2 hx (hb hby d1_10) rfl rfl ?_
  show Goes _ _ _ _ _ _ (T2.setTop (mkF m 11 #[.val (.ref a1), .val (.int p2), .val (.ref a3), .val (.int p4)] [(.ref a3), (.ref a1)]))
  refine own_putF X2 hx hZ hown N2 (host := "") (Or.inl (hw _ (List.mem_of_getElem? (i := 14) rfl))) Via.refl e2 F3_backoff_a1 E3_a1 (Or.inr ⟨(hw _ (List.mem_of_getElem? (i := 15) rfl)), rfl, hnm⟩) (hw _ (List.mem_of_getElem? (i := 4) rfl)) (ty := (.object "com/example/lease/lease/model/RetryBackoff")) (by decide) rfl rfl f4 (hb hby d1_11) (fun T4 h4 lc4 X4 e4 N4 W4 => ?_)
  have E5_a1 := E3_a1.wr W4
  have F5_maxRetries_a1 := F3_maxRetries_a1.other W4 (Or.inr (slot_ne (Or.inr (hw _ (List.mem_of_getElem? (i := 13) rfl))) (Or.inr (hw _ (List.mem_of_getElem? (i := 15) rfl))) (by decide) (t := .int) (t' := (.object "com/example/lease/lease/model/RetryBackoff")) (by decide) (by decide)))
  have F5_backoff_a1 := F3_backoff_a1.same W4
  have F5_retryDelaySeconds_a1 := F3_retryDelaySeconds_a1.other W4 (Or.inr (slot_ne (Or.inr (hw _ (List.mem_of_getElem? (i := 17) rfl))) (Or.inr (hw _ (List.mem_of_getElem? (i := 15) rfl))) (by decide) (t := .int) (t' := (.object "com/example/lease/lease/model/RetryBackoff")) (by decide) (by decide)))
  have O5 := O3.wr W4 f4
  have KC5 := KC3.wr W4 (Or.inl (List.mem_of_getElem? (i := 0) rfl))
  show Goes _ _ _ _ _ _ (T4.setTop (mkF m 14 #[.val (.ref a1), .val (.int p2), .val (.ref a3), .val (.int p4)] []))
  refine own_aloadN X4 hx (hb hby d1_14) rfl rfl ?_
  show Goes _ _ _ _ _ _ (T4.setTop (mkF m 15 #[.val (.ref a1), .val (.int p2), .val (.ref a3), .val (.int p4)] [(.ref a1)]))
  refine own_iloadN X4 hx (hb hby d1_15) rfl ?_
  show Goes _ _ _ _ _ _ (T4.setTop (mkF m 16 #[.val (.ref a1), .val (.int p2), .val (.ref a3), .val (.int p4)] [(.int p4), (.ref a1)]))
  refine own_putF X4 hx hZ hown N4 (host := "") (Or.inl (hw _ (List.mem_of_getElem? (i := 16) rfl))) Via.refl e4 F5_retryDelaySeconds_a1 E5_a1 (Or.inr ⟨(hw _ (List.mem_of_getElem? (i := 17) rfl)), rfl, hnm⟩) (hw _ (List.mem_of_getElem? (i := 4) rfl)) (ty := .int) (by decide) rfl rfl f4 (hb hby d1_16) (fun T6 h6 lc6 X6 e6 N6 W6 => ?_)
  have E7_a1 := E5_a1.wr W6
  have F7_maxRetries_a1 := F5_maxRetries_a1.other W6 (Or.inr (slot_ne (Or.inr (hw _ (List.mem_of_getElem? (i := 13) rfl))) (Or.inr (hw _ (List.mem_of_getElem? (i := 17) rfl))) (by decide) (t := .int) (t' := .int) (by decide) (by decide)))
  have F7_backoff_a1 := F5_backoff_a1.other W6 (Or.inr (slot_ne (Or.inr (hw _ (List.mem_of_getElem? (i := 15) rfl))) (Or.inr (hw _ (List.mem_of_getElem? (i := 17) rfl))) (by decide) (t := (.object "com/example/lease/lease/model/RetryBackoff")) (t' := .int) (by decide) (by decide)))
  have F7_retryDelaySeconds_a1 := F5_retryDelaySeconds_a1.same W6
  have O7 := O5.wr W6 f4
  have KC7 := KC5.wr W6 (Or.inl (List.mem_of_getElem? (i := 0) rfl))
  show Goes _ _ _ _ _ _ (T6.setTop (mkF m 19 #[.val (.ref a1), .val (.int p2), .val (.ref a3), .val (.int p4)] []))
  exact own_retV X6 hx N6 hlk (by decide) (by decide) hret (hb hby d1_19) (by rw [e6]; exact ⟨rfl, KC7, E7_a1, F7_maxRetries_a1, F7_backoff_a1, F7_retryDelaySeconds_a1⟩)
theorem d3_0 : decode prog_23_method_8_code 0 = .ok (.aload_n 1, 1) := by decide +kernel
theorem d3_1 : decode prog_23_method_8_code 1 = .ok (.instanceof 10, 3) := by decide +kernel
theorem d3_4 : decode prog_23_method_8_code 4 = .ok (.ifCond .eq 45, 3) := by decide +kernel
theorem d3_7 : decode prog_23_method_8_code 7 = .ok (.aload_n 1, 1) := by decide +kernel
theorem d3_8 : decode prog_23_method_8_code 8 = .ok (.checkcast 10, 3) := by decide +kernel
theorem d3_11 : decode prog_23_method_8_code 11 = .ok (.astore_n 2, 1) := by decide +kernel
theorem d3_12 : decode prog_23_method_8_code 12 = .ok (.aload_n 0, 1) := by decide +kernel
theorem d3_13 : decode prog_23_method_8_code 13 = .ok (.getfield 9, 3) := by decide +kernel
theorem d3_16 : decode prog_23_method_8_code 16 = .ok (.aload_n 2, 1) := by decide +kernel
theorem d3_17 : decode prog_23_method_8_code 17 = .ok (.getfield 9, 3) := by decide +kernel
theorem d3_20 : decode prog_23_method_8_code 20 = .ok (.if_icmp .ne 29, 3) := by decide +kernel
theorem d3_23 : decode prog_23_method_8_code 23 = .ok (.aload_n 0, 1) := by decide +kernel
theorem d3_24 : decode prog_23_method_8_code 24 = .ok (.getfield 15, 3) := by decide +kernel
theorem d3_27 : decode prog_23_method_8_code 27 = .ok (.aload_n 2, 1) := by decide +kernel
theorem d3_28 : decode prog_23_method_8_code 28 = .ok (.getfield 15, 3) := by decide +kernel
theorem d3_31 : decode prog_23_method_8_code 31 = .ok (.if_acmp .ne 18, 3) := by decide +kernel
theorem d3_34 : decode prog_23_method_8_code 34 = .ok (.aload_n 0, 1) := by decide +kernel
theorem d3_35 : decode prog_23_method_8_code 35 = .ok (.getfield 19, 3) := by decide +kernel
theorem d3_38 : decode prog_23_method_8_code 38 = .ok (.aload_n 2, 1) := by decide +kernel
theorem d3_39 : decode prog_23_method_8_code 39 = .ok (.getfield 19, 3) := by decide +kernel
theorem d3_42 : decode prog_23_method_8_code 42 = .ok (.if_icmp .ne 7, 3) := by decide +kernel
theorem d3_45 : decode prog_23_method_8_code 45 = .ok (.iconst 1, 1) := by decide +kernel
theorem d3_46 : decode prog_23_method_8_code 46 = .ok (.goto 4, 3) := by decide +kernel
theorem d3_50 : decode prog_23_method_8_code 50 = .ok (.ireturn, 1) := by decide +kernel
theorem d3_49 : decode prog_23_method_8_code 49 = .ok (.iconst 0, 1) := by decide +kernel
def Q3 (Z : State) (a1 : Addr) (a2 : Addr) (mm : Int32) (x : Int32) (b : Addr) (y : Addr) (d : Int32) (z : Int32) (h0 : Heap) (n0 : Nat) (v : Option Value) (h : Heap) : Prop :=
  (v = some (.int (if mm = x ∧ b = y ∧ d = z then (1 : Int32) else (0 : Int32))) ∧ h = h0)
theorem ef_3 (m : MethodId) (a1 : Addr) (a2 : Addr) : entryFrame m #[(.ref a1), (.ref a2)] 3 = mkF m 0 #[.val (.ref a1), .val (.ref a2), .unset] [] := by first | (simp [entryFrame, mkF, argsToLocals, Value.category]; done) | rfl
set_option maxRecDepth 65536 in
set_option maxHeartbeats 40000000 in
theorem rm3 (l : Launch) (Z : State) (a0 : Array Value) (hw : ∀ d ∈ tables_1, d.before a0 Z = true) (ws : List Jvm.Cond) (a1 : Addr) (a2 : Addr) (mm : Int32) (x : Int32) (b : Addr) (y : Addr) (d : Int32) (z : Int32) (h0 : Heap) (n0 : Nat) (O0 : Old Z n0 h0) (f0 : Exa Z h0 a2 "com/example/lease/lease/model/RetryPolicy") (f1 : Fld Z h0 a1 "com/example/lease/lease/model/RetryPolicy" "maxRetries" "I" (.int mm)) (f2 : Fld Z h0 a2 "com/example/lease/lease/model/RetryPolicy" "maxRetries" "I" (.int x)) (f3 : Fld Z h0 a1 "com/example/lease/lease/model/RetryPolicy" "backoff" "Lcom/example/lease/lease/model/RetryBackoff;" (.ref b)) (f4 : Fld Z h0 a2 "com/example/lease/lease/model/RetryPolicy" "backoff" "Lcom/example/lease/lease/model/RetryBackoff;" (.ref y)) (f5 : Fld Z h0 a1 "com/example/lease/lease/model/RetryPolicy" "retryDelaySeconds" "I" (.int d)) (f6 : Fld Z h0 a2 "com/example/lease/lease/model/RetryPolicy" "retryDelaySeconds" "I" (.int z)) :
    Meets l (⟨"com/example/lease/lease/model/RetryPolicy", "equals", "(Ljava/lang/Object;)Z"⟩ : MethodName) prog_23_method_8_code 3 (some .boolean) ws ({ frames := 0, cells := 0, slots := 0, locals := 0 } : Room) ({ frames := 0, cells := 0, slots := 0, locals := 0 } : Room).cells ({ frames := 0, cells := 0, slots := 0, locals := 0 } : Room).slots Z #[(.ref a1), (.ref a2)] h0 n0 (Q3 Z a1 a2 mm x b y d z h0 n0) := by
  refine Meets.of (F := fun m => mkF m 0 #[.val (.ref a1), .val (.ref a2), .unset] []) (plainFor_of_name pn_0) (fun m => ef_3 m a1 a2) ?_
  intro p e s m below meth c T0 hx hby hml hown0 hnm hret hlk hZ X0 e0
  have hown : s.vm.findClass "com/example/lease/lease/model/RetryPolicy" = some m.cls := hown0
  have N0 := Fr.nil n0
  show Goes _ _ _ _ _ _ (T0.setTop (mkF m 0 #[.val (.ref a1), .val (.ref a2), .unset] []))
  refine own_aloadN X0 hx (hb hby d3_0) rfl rfl ?_
  show Goes _ _ _ _ _ _ (T0.setTop (mkF m 1 #[.val (.ref a1), .val (.ref a2), .unset] [(.ref a2)]))
  refine own_instY X0 hx hZ hown (hw _ (List.mem_of_getElem? (i := 23) rfl)) e0 (Ins.self f0) (hb hby d3_1) (fun T1 X1 e1 => ?_)
  show Goes _ _ _ _ _ _ (T1.setTop (mkF m 4 #[.val (.ref a1), .val (.ref a2), .unset] [(.int (1 : Int32))]))
  refine own_ifNo X1 hx (hb hby d3_4) ((if0 _ _).trans (feq (by decide : ¬ ((1 : Int32) = (0 : Int32)))).1) ?_
  show Goes _ _ _ _ _ _ (T1.setTop (mkF m 7 #[.val (.ref a1), .val (.ref a2), .unset] []))
  refine own_aloadN X1 hx (hb hby d3_7) rfl rfl ?_
  show Goes _ _ _ _ _ _ (T1.setTop (mkF m 8 #[.val (.ref a1), .val (.ref a2), .unset] [(.ref a2)]))
  refine own_castY X1 hx hZ hown (hw _ (List.mem_of_getElem? (i := 23) rfl)) e1 (Ins.self f0) (hb hby d3_8) (fun T2 X2 e2 => ?_)
  show Goes _ _ _ _ _ _ (T2.setTop (mkF m 11 #[.val (.ref a1), .val (.ref a2), .unset] [(.ref a2)]))
  refine own_astoreN X2 hx (Ls' := #[.val (.ref a1), .val (.ref a2), .val (.ref a2)]) (hb hby d3_11) rfl rfl ?_
  show Goes _ _ _ _ _ _ (T2.setTop (mkF m 12 #[.val (.ref a1), .val (.ref a2), .val (.ref a2)] []))
  refine own_aloadN X2 hx (hb hby d3_12) rfl rfl ?_
  show Goes _ _ _ _ _ _ (T2.setTop (mkF m 13 #[.val (.ref a1), .val (.ref a2), .val (.ref a2)] [(.ref a1)]))
  refine own_getF X2 hx hZ hown (host := "") (Or.inl (hw _ (List.mem_of_getElem? (i := 12) rfl))) Via.refl e2 f1 (hb hby d3_13) (fun T3 X3 e3 => ?_)
  show Goes _ _ _ _ _ _ (T3.setTop (mkF m 16 #[.val (.ref a1), .val (.ref a2), .val (.ref a2)] [(.int mm)]))
  refine own_aloadN X3 hx (hb hby d3_16) rfl rfl ?_
  show Goes _ _ _ _ _ _ (T3.setTop (mkF m 17 #[.val (.ref a1), .val (.ref a2), .val (.ref a2)] [(.ref a2), (.int mm)]))
  refine own_getF X3 hx hZ hown (host := "") (Or.inl (hw _ (List.mem_of_getElem? (i := 12) rfl))) Via.refl e3 f2 (hb hby d3_17) (fun T4 X4 e4 => ?_)
  show Goes _ _ _ _ _ _ (T4.setTop (mkF m 20 #[.val (.ref a1), .val (.ref a2), .val (.ref a2)] [(.int x), (.int mm)]))
  by_cases hc20_5 : mm = x
  ·
    refine own_icmpNo X4 hx (hb hby d3_20) (teq (hc20_5 : mm = x)).2 ?_
    show Goes _ _ _ _ _ _ (T4.setTop (mkF m 23 #[.val (.ref a1), .val (.ref a2), .val (.ref a2)] []))
    refine own_aloadN X4 hx (hb hby d3_23) rfl rfl ?_
    show Goes _ _ _ _ _ _ (T4.setTop (mkF m 24 #[.val (.ref a1), .val (.ref a2), .val (.ref a2)] [(.ref a1)]))
    refine own_getF X4 hx hZ hown (host := "") (Or.inl (hw _ (List.mem_of_getElem? (i := 14) rfl))) Via.refl e4 f3 (hb hby d3_24) (fun T6 X6 e6 => ?_)
    show Goes _ _ _ _ _ _ (T6.setTop (mkF m 27 #[.val (.ref a1), .val (.ref a2), .val (.ref a2)] [(.ref b)]))
    refine own_aloadN X6 hx (hb hby d3_27) rfl rfl ?_
    show Goes _ _ _ _ _ _ (T6.setTop (mkF m 28 #[.val (.ref a1), .val (.ref a2), .val (.ref a2)] [(.ref a2), (.ref b)]))
    refine own_getF X6 hx hZ hown (host := "") (Or.inl (hw _ (List.mem_of_getElem? (i := 14) rfl))) Via.refl e6 f4 (hb hby d3_28) (fun T7 X7 e7 => ?_)
    show Goes _ _ _ _ _ _ (T7.setTop (mkF m 31 #[.val (.ref a1), .val (.ref a2), .val (.ref a2)] [(.ref y), (.ref b)]))
    by_cases hc31_8 : b = y
    ·
      refine own_acmp X7 hx rfl rfl (same := true) (pc' := 34) (hb hby d3_31) (decide_eq_true (congrArg Value.ref hc31_8)) (by decide) (by decide) ?_
      show Goes _ _ _ _ _ _ (T7.setTop (mkF m 34 #[.val (.ref a1), .val (.ref a2), .val (.ref a2)] []))
      refine own_aloadN X7 hx (hb hby d3_34) rfl rfl ?_
      show Goes _ _ _ _ _ _ (T7.setTop (mkF m 35 #[.val (.ref a1), .val (.ref a2), .val (.ref a2)] [(.ref a1)]))
      refine own_getF X7 hx hZ hown (host := "") (Or.inl (hw _ (List.mem_of_getElem? (i := 16) rfl))) Via.refl e7 f5 (hb hby d3_35) (fun T9 X9 e9 => ?_)
      show Goes _ _ _ _ _ _ (T9.setTop (mkF m 38 #[.val (.ref a1), .val (.ref a2), .val (.ref a2)] [(.int d)]))
      refine own_aloadN X9 hx (hb hby d3_38) rfl rfl ?_
      show Goes _ _ _ _ _ _ (T9.setTop (mkF m 39 #[.val (.ref a1), .val (.ref a2), .val (.ref a2)] [(.ref a2), (.int d)]))
      refine own_getF X9 hx hZ hown (host := "") (Or.inl (hw _ (List.mem_of_getElem? (i := 16) rfl))) Via.refl e9 f6 (hb hby d3_39) (fun T10 X10 e10 => ?_)
      show Goes _ _ _ _ _ _ (T10.setTop (mkF m 42 #[.val (.ref a1), .val (.ref a2), .val (.ref a2)] [(.int z), (.int d)]))
      by_cases hc42_11 : d = z
      ·
        refine own_icmpNo X10 hx (hb hby d3_42) (teq (hc42_11 : d = z)).2 ?_
        show Goes _ _ _ _ _ _ (T10.setTop (mkF m 45 #[.val (.ref a1), .val (.ref a2), .val (.ref a2)] []))
        refine own_iconst X10 hx (v := (1 : Int32)) (hb hby d3_45) rfl ?_
        show Goes _ _ _ _ _ _ (T10.setTop (mkF m 46 #[.val (.ref a1), .val (.ref a2), .val (.ref a2)] [(.int (1 : Int32))]))
        refine own_goto X10 hx (pc' := 50) (hb hby d3_46) (by decide) (by decide) ?_
        show Goes _ _ _ _ _ _ (T10.setTop (mkF m 50 #[.val (.ref a1), .val (.ref a2), .val (.ref a2)] [(.int (1 : Int32))]))
        exact own_retN X10 hx (t := .boolean) N0 hlk (by decide) (by decide) hret (by simp) (hb hby d3_50) (by rw [e10]; exact ⟨(by rw [if_pos ⟨hc20_5, hc31_8, hc42_11⟩]; rfl), rfl⟩)
      ·
        refine own_icmpYes X10 hx (pc' := 49) (hb hby d3_42) (feq (hc42_11 : ¬ (d = z))).2 (by decide) (by decide) ?_
        show Goes _ _ _ _ _ _ (T10.setTop (mkF m 49 #[.val (.ref a1), .val (.ref a2), .val (.ref a2)] []))
        refine own_iconst X10 hx (v := (0 : Int32)) (hb hby d3_49) rfl ?_
        show Goes _ _ _ _ _ _ (T10.setTop (mkF m 50 #[.val (.ref a1), .val (.ref a2), .val (.ref a2)] [(.int (0 : Int32))]))
        exact own_retN X10 hx (t := .boolean) N0 hlk (by decide) (by decide) hret (by simp) (hb hby d3_50) (by rw [e10]; exact ⟨(by rw [if_neg (fun q => hc42_11 q.2.2)]; rfl), rfl⟩)
    ·
      refine own_acmp X7 hx rfl rfl (same := false) (pc' := 49) (hb hby d3_31) (decide_eq_false fun q => hc31_8 (Value.ref.inj q)) (by decide) (by decide) ?_
      show Goes _ _ _ _ _ _ (T7.setTop (mkF m 49 #[.val (.ref a1), .val (.ref a2), .val (.ref a2)] []))
      refine own_iconst X7 hx (v := (0 : Int32)) (hb hby d3_49) rfl ?_
      show Goes _ _ _ _ _ _ (T7.setTop (mkF m 50 #[.val (.ref a1), .val (.ref a2), .val (.ref a2)] [(.int (0 : Int32))]))
      exact own_retN X7 hx (t := .boolean) N0 hlk (by decide) (by decide) hret (by simp) (hb hby d3_50) (by rw [e7]; exact ⟨(by rw [if_neg (fun q => hc31_8 q.2.1)]; rfl), rfl⟩)
  ·
    refine own_icmpYes X4 hx (pc' := 49) (hb hby d3_20) (feq (hc20_5 : ¬ (mm = x))).2 (by decide) (by decide) ?_
    show Goes _ _ _ _ _ _ (T4.setTop (mkF m 49 #[.val (.ref a1), .val (.ref a2), .val (.ref a2)] []))
    refine own_iconst X4 hx (v := (0 : Int32)) (hb hby d3_49) rfl ?_
    show Goes _ _ _ _ _ _ (T4.setTop (mkF m 50 #[.val (.ref a1), .val (.ref a2), .val (.ref a2)] [(.int (0 : Int32))]))
    exact own_retN X4 hx (t := .boolean) N0 hlk (by decide) (by decide) hret (by simp) (hb hby d3_50) (by rw [e4]; exact ⟨(by rw [if_neg (fun q => hc20_5 q.1)]; rfl), rfl⟩)
def Q3n (Z : State) (a1 : Addr) (h0 : Heap) (n0 : Nat) (v : Option Value) (h : Heap) : Prop :=
  (v = some (.int (0 : Int32)) ∧ h = h0)
theorem ef_3n (m : MethodId) (a1 : Addr) : entryFrame m #[(.ref a1), .null] 3 = mkF m 0 #[.val (.ref a1), .val .null, .unset] [] := by first | (simp [entryFrame, mkF, argsToLocals, Value.category]; done) | rfl
set_option maxRecDepth 65536 in
set_option maxHeartbeats 40000000 in
theorem rm3n (l : Launch) (Z : State) (a0 : Array Value) (hw : ∀ d ∈ tables_1, d.before a0 Z = true) (ws : List Jvm.Cond) (a1 : Addr) (h0 : Heap) (n0 : Nat) (O0 : Old Z n0 h0) :
    Meets l (⟨"com/example/lease/lease/model/RetryPolicy", "equals", "(Ljava/lang/Object;)Z"⟩ : MethodName) prog_23_method_8_code 3 (some .boolean) ws ({ frames := 0, cells := 0, slots := 0, locals := 0 } : Room) ({ frames := 0, cells := 0, slots := 0, locals := 0 } : Room).cells ({ frames := 0, cells := 0, slots := 0, locals := 0 } : Room).slots Z #[(.ref a1), .null] h0 n0 (Q3n Z a1 h0 n0) := by
  refine Meets.of (F := fun m => mkF m 0 #[.val (.ref a1), .val .null, .unset] []) (plainFor_of_name pn_0) (fun m => ef_3n m a1) ?_
  intro p e s m below meth c T0 hx hby hml hown0 hnm hret hlk hZ X0 e0
  have hown : s.vm.findClass "com/example/lease/lease/model/RetryPolicy" = some m.cls := hown0
  have N0 := Fr.nil n0
  show Goes _ _ _ _ _ _ (T0.setTop (mkF m 0 #[.val (.ref a1), .val .null, .unset] []))
  refine own_aloadN X0 hx (hb hby d3_0) rfl rfl ?_
  show Goes _ _ _ _ _ _ (T0.setTop (mkF m 1 #[.val (.ref a1), .val .null, .unset] [.null]))
  refine own_instNull X0 hx (hb hby d3_1) ?_
  show Goes _ _ _ _ _ _ (T0.setTop (mkF m 4 #[.val (.ref a1), .val .null, .unset] [(.int (0 : Int32))]))
  refine own_ifYes X0 hx (pc' := 49) (hb hby d3_4) ((if0 _ _).trans (teq (by decide : (0 : Int32) = (0 : Int32))).1) (by decide) (by decide) ?_
  show Goes _ _ _ _ _ _ (T0.setTop (mkF m 49 #[.val (.ref a1), .val .null, .unset] []))
  refine own_iconst X0 hx (v := (0 : Int32)) (hb hby d3_49) rfl ?_
  show Goes _ _ _ _ _ _ (T0.setTop (mkF m 50 #[.val (.ref a1), .val .null, .unset] [(.int (0 : Int32))]))
  exact own_retN X0 hx (t := .boolean) N0 hlk (by decide) (by decide) hret (by simp) (hb hby d3_50) (by rw [e0]; exact ⟨rfl, rfl⟩)
def Q3o (Z : State) (a1 : Addr) (a2 : Addr) (h0 : Heap) (n0 : Nat) (v : Option Value) (h : Heap) : Prop :=
  (v = some (.int (0 : Int32)) ∧ h = h0)
theorem ef_3o (m : MethodId) (a1 : Addr) (a2 : Addr) : entryFrame m #[(.ref a1), (.ref a2)] 3 = mkF m 0 #[.val (.ref a1), .val (.ref a2), .unset] [] := by first | (simp [entryFrame, mkF, argsToLocals, Value.category]; done) | rfl
set_option maxRecDepth 65536 in
set_option maxHeartbeats 40000000 in
theorem rm3o (l : Launch) (Z : State) (a0 : Array Value) (hw : ∀ d ∈ tables_1, d.before a0 Z = true) (ws : List Jvm.Cond) (a1 : Addr) (a2 : Addr) (h0 : Heap) (n0 : Nat) (O0 : Old Z n0 h0) (f0 : Exa Z h0 a2 "java/lang/Integer") :
    Meets l (⟨"com/example/lease/lease/model/RetryPolicy", "equals", "(Ljava/lang/Object;)Z"⟩ : MethodName) prog_23_method_8_code 3 (some .boolean) ws ({ frames := 0, cells := 0, slots := 0, locals := 0 } : Room) ({ frames := 0, cells := 0, slots := 0, locals := 0 } : Room).cells ({ frames := 0, cells := 0, slots := 0, locals := 0 } : Room).slots Z #[(.ref a1), (.ref a2)] h0 n0 (Q3o Z a1 a2 h0 n0) := by
  refine Meets.of (F := fun m => mkF m 0 #[.val (.ref a1), .val (.ref a2), .unset] []) (plainFor_of_name pn_0) (fun m => ef_3o m a1 a2) ?_
  intro p e s m below meth c T0 hx hby hml hown0 hnm hret hlk hZ X0 e0
  have hown : s.vm.findClass "com/example/lease/lease/model/RetryPolicy" = some m.cls := hown0
  have N0 := Fr.nil n0
  show Goes _ _ _ _ _ _ (T0.setTop (mkF m 0 #[.val (.ref a1), .val (.ref a2), .unset] []))
  refine own_aloadN X0 hx (hb hby d3_0) rfl rfl ?_
  show Goes _ _ _ _ _ _ (T0.setTop (mkF m 1 #[.val (.ref a1), .val (.ref a2), .unset] [(.ref a2)]))
  refine own_instN X0 hx hZ hown (hw _ (List.mem_of_getElem? (i := 23) rfl)) e0 f0 (own_NSno (hw _ (List.mem_of_getElem? (i := 48) rfl)) (hw _ (List.mem_of_getElem? (i := 4) rfl)) (NS.step (hw _ (List.mem_of_getElem? (i := 48) rfl)) (NS.step (hw _ (List.mem_of_getElem? (i := 49) rfl)) (own_NSroot (hw _ (List.mem_of_getElem? (i := 50) rfl)) (hw _ (List.mem_of_getElem? (i := 4) rfl)) (by decide)) (by decide)) (by decide)) (by decide)) (hb hby d3_1) (fun T1 X1 e1 => ?_)
  show Goes _ _ _ _ _ _ (T1.setTop (mkF m 4 #[.val (.ref a1), .val (.ref a2), .unset] [(.int (0 : Int32))]))
  refine own_ifYes X1 hx (pc' := 49) (hb hby d3_4) ((if0 _ _).trans (teq (by decide : (0 : Int32) = (0 : Int32))).1) (by decide) (by decide) ?_
  show Goes _ _ _ _ _ _ (T1.setTop (mkF m 49 #[.val (.ref a1), .val (.ref a2), .unset] []))
  refine own_iconst X1 hx (v := (0 : Int32)) (hb hby d3_49) rfl ?_
  show Goes _ _ _ _ _ _ (T1.setTop (mkF m 50 #[.val (.ref a1), .val (.ref a2), .unset] [(.int (0 : Int32))]))
  exact own_retN X1 hx (t := .boolean) N0 hlk (by decide) (by decide) hret (by simp) (hb hby d3_50) (by rw [e1]; exact ⟨rfl, rfl⟩)
theorem d6_0 : decode jdk_18_method_1_code 0 = .ok (.aload_n 0, 1) := by decide +kernel
theorem d6_1 : decode jdk_18_method_1_code 1 = .ok (.invokespecial 1, 3) := by decide +kernel
theorem d6_4 : decode jdk_18_method_1_code 4 = .ok (.return_, 1) := by decide +kernel
theorem pn_1 : plainName "java/lang/Number" = true := by first | (simp [plainName, overriddenIn]; done) | decide +kernel
def Q6 (Z : State) (a1 : Addr) (h0 : Heap) (n0 : Nat) (v : Option Value) (h : Heap) : Prop :=
  (v = none ∧ h = h0)
theorem ef_6 (m : MethodId) (a1 : Addr) : entryFrame m #[(.ref a1)] 1 = mkF m 0 #[.val (.ref a1)] [] := by first | (simp [entryFrame, mkF, argsToLocals, Value.category]; done) | rfl
set_option maxRecDepth 65536 in
set_option maxHeartbeats 40000000 in
theorem rm6 (l : Launch) (Z : State) (a0 : Array Value) (hw : ∀ d ∈ tables_1, d.before a0 Z = true) (ws : List Jvm.Cond) (a1 : Addr) (h0 : Heap) (n0 : Nat) (O0 : Old Z n0 h0) :
    Meets l (⟨"java/lang/Number", "<init>", "()V"⟩ : MethodName) jdk_18_method_1_code 1 none ws ({ frames := 1, cells := 0, slots := 0, locals := 12 } : Room) ({ frames := 1, cells := 0, slots := 0, locals := 12 } : Room).cells ({ frames := 1, cells := 0, slots := 0, locals := 12 } : Room).slots Z #[(.ref a1)] h0 n0 (Q6 Z a1 h0 n0) := by
  refine Meets.of (F := fun m => mkF m 0 #[.val (.ref a1)] []) (plainFor_of_name pn_1) (fun m => ef_6 m a1) ?_
  intro p e s m below meth c T0 hx hby hml hown0 hnm hret hlk hZ X0 e0
  have hown : s.vm.findClass "java/lang/Number" = some m.cls := hown0
  have N0 := Fr.nil n0
  show Goes _ _ _ _ _ _ (T0.setTop (mkF m 0 #[.val (.ref a1)] []))
  refine own_aloadN X0 hx (hb hby d6_0) rfl rfl ?_
  show Goes _ _ _ _ _ _ (T0.setTop (mkF m 1 #[.val (.ref a1)] [(.ref a1)]))
  refine own_initO X0 hx hZ hown (hw _ (List.mem_of_getElem? (i := 45) rfl)) (hw _ (List.mem_of_getElem? (i := 10) rfl)) (hw _ (List.mem_of_getElem? (i := 11) rfl)) e0 (by rw [hml]; rfl) (hb hby d6_1) (by decide) (W := 0) (Nat.le_of_eq rfl) (by decide) (fun T1 X1 e1 => ?_)
  show Goes _ _ _ _ _ _ (T1.setTop (mkF m 4 #[.val (.ref a1)] []))
  exact own_retV X1 hx N0 hlk (by decide) (by decide) hret (hb hby d6_4) (by rw [e1]; exact ⟨rfl, rfl⟩)
theorem d5_0 : decode jdk_33_method_23_code 0 = .ok (.aload_n 0, 1) := by decide +kernel
theorem d5_1 : decode jdk_33_method_23_code 1 = .ok (.invokespecial 202, 3) := by decide +kernel
theorem pd_0 : parseMethodDescriptor "()V" = some ⟨[], none⟩ := by decide +kernel
theorem d5_4 : decode jdk_33_method_23_code 4 = .ok (.aload_n 0, 1) := by decide +kernel
theorem d5_5 : decode jdk_33_method_23_code 5 = .ok (.iload_n 1, 1) := by decide +kernel
theorem d5_6 : decode jdk_33_method_23_code 6 = .ok (.putfield 205, 3) := by decide +kernel
theorem d5_9 : decode jdk_33_method_23_code 9 = .ok (.return_, 1) := by decide +kernel
theorem pn_2 : plainName "java/lang/Integer" = true := by first | (simp [plainName, overriddenIn]; done) | decide +kernel
def Q5 (Z : State) (a1 : Addr) (p2 : Int32) (u1 : Value) (h0 : Heap) (n0 : Nat) (v : Option Value) (h : Heap) : Prop :=
  (v = none ∧ Keep h0 h [a1] ∧ Exa Z h a1 "java/lang/Integer" ∧ Fld Z h a1 "java/lang/Integer" "value" "I" (.int p2))
theorem ef_5 (m : MethodId) (a1 : Addr) (p2 : Int32) : entryFrame m #[(.ref a1), (.int p2)] 2 = mkF m 0 #[.val (.ref a1), .val (.int p2)] [] := by first | (simp [entryFrame, mkF, argsToLocals, Value.category]; done) | rfl
set_option maxRecDepth 65536 in
set_option maxHeartbeats 40000000 in
theorem rm5 (l : Launch) (Z : State) (a0 : Array Value) (hw : ∀ d ∈ tables_1, d.before a0 Z = true) (ws : List Jvm.Cond) (a1 : Addr) (p2 : Int32) (u1 : Value) (h0 : Heap) (n0 : Nat) (O0 : Old Z n0 h0) (f0 : Exa Z h0 a1 "java/lang/Integer") (f1 : Fld Z h0 a1 "java/lang/Integer" "value" "I" u1) (f2 : n0 ≤ a1) :
    Meets l (⟨"java/lang/Integer", "<init>", "(I)V"⟩ : MethodName) jdk_33_method_23_code 2 none ws ({ frames := 2, cells := 0, slots := 0, locals := 24 } : Room) ({ frames := 2, cells := 0, slots := 0, locals := 24 } : Room).cells ({ frames := 2, cells := 0, slots := 0, locals := 24 } : Room).slots Z #[(.ref a1), (.int p2)] h0 n0 (Q5 Z a1 p2 u1 h0 n0) := by
  refine Meets.of (F := fun m => mkF m 0 #[.val (.ref a1), .val (.int p2)] []) (plainFor_of_name pn_2) (fun m => ef_5 m a1 p2) ?_
  intro p e s m below meth c T0 hx hby hml hown0 hnm hret hlk hZ X0 e0
  have hown : s.vm.findClass "java/lang/Integer" = some m.cls := hown0
  have N0 := Fr.nil n0
  have KC0 := Keep.refl h0 [a1]
  show Goes _ _ _ _ _ _ (T0.setTop (mkF m 0 #[.val (.ref a1), .val (.int p2)] []))
  refine own_aloadN X0 hx (hb hby d5_0) rfl rfl ?_
  show Goes _ _ _ _ _ _ (T0.setTop (mkF m 1 #[.val (.ref a1), .val (.int p2)] [(.ref a1)]))
  refine own_special X0 hx hZ hown (y := (⟨"java/lang/Number", "<init>", "()V"⟩ : MethodName)) rfl (hw _ (List.mem_of_getElem? (i := 39) rfl)) (hw _ (List.mem_of_getElem? (i := 40) rfl)) (hw _ (List.mem_of_getElem? (i := 43) rfl)) (hw _ (List.mem_of_getElem? (i := 44) rfl)) (a := a1) (by decide) (W := 0) (by decide) (by decide) N0 e0 (by rw [hml]; rfl) (argsL := []) (rest := []) (lenOf pd_0 rfl) (Nat.le_of_eq rfl) (by decide) (by decide) (rm6 l Z a0 hw [] a1 h0 n0 O0) rfl (hb hby d5_1) ?_
  intro v1 T1 lc1 X1 N1 hQ1
  obtain ⟨rfl, e1⟩ := hQ1
  show Goes _ _ _ _ _ _ (T1.setTop (mkF m 4 #[.val (.ref a1), .val (.int p2)] []))
  refine own_aloadN X1 hx (hb hby d5_4) rfl rfl ?_
  show Goes _ _ _ _ _ _ (T1.setTop (mkF m 5 #[.val (.ref a1), .val (.int p2)] [(.ref a1)]))
  refine own_iloadN X1 hx (hb hby d5_5) rfl ?_
  show Goes _ _ _ _ _ _ (T1.setTop (mkF m 6 #[.val (.ref a1), .val (.int p2)] [(.int p2), (.ref a1)]))
  refine own_putF X1 hx hZ hown N1 (host := "") (Or.inl (hw _ (List.mem_of_getElem? (i := 46) rfl))) Via.refl e1 f1 f0 (Or.inr ⟨(hw _ (List.mem_of_getElem? (i := 47) rfl)), rfl, hnm⟩) (hw _ (List.mem_of_getElem? (i := 34) rfl)) (ty := .int) (by decide) rfl rfl f2 (hb hby d5_6) (fun T2 h2 lc2 X2 e2 N2 W2 => ?_)
  have E3_a1 := f0.wr W2
  have F3_value_a1 := f1.same W2
  have O3 := O0.wr W2 f2
  have KC3 := KC0.wr W2 (Or.inl (List.mem_of_getElem? (i := 0) rfl))
  show Goes _ _ _ _ _ _ (T2.setTop (mkF m 9 #[.val (.ref a1), .val (.int p2)] []))
  exact own_retV X2 hx N2 hlk (by decide) (by decide) hret (hb hby d5_9) (by rw [e2]; exact ⟨rfl, KC3, E3_a1, F3_value_a1⟩)
theorem d4_0 : decode jdk_33_method_22_code 0 = .ok (.iload_n 0, 1) := by decide +kernel
theorem d4_1 : decode jdk_33_method_22_code 1 = .ok (.bipush (-128), 2) := by decide +kernel
theorem d4_3 : decode jdk_33_method_22_code 3 = .ok (.if_icmp .lt 20, 3) := by decide +kernel
theorem d4_23 : decode jdk_33_method_22_code 23 = .ok (.new 1, 3) := by decide +kernel
theorem d4_26 : decode jdk_33_method_22_code 26 = .ok (.dup, 1) := by decide +kernel
theorem d4_27 : decode jdk_33_method_22_code 27 = .ok (.iload_n 0, 1) := by decide +kernel
theorem d4_28 : decode jdk_33_method_22_code 28 = .ok (.invokespecial 199, 3) := by decide +kernel
theorem pd_1 : parseMethodDescriptor "(I)V" = some ⟨[.int], none⟩ := by decide +kernel
theorem d4_31 : decode jdk_33_method_22_code 31 = .ok (.areturn, 1) := by decide +kernel
theorem d4_6 : decode jdk_33_method_22_code 6 = .ok (.iload_n 0, 1) := by decide +kernel
theorem d4_7 : decode jdk_33_method_22_code 7 = .ok (.getstatic 191, 3) := by decide +kernel
theorem d4_10 : decode jdk_33_method_22_code 10 = .ok (.if_icmp .gt 13, 3) := by decide +kernel
theorem d4_13 : decode jdk_33_method_22_code 13 = .ok (.getstatic 195, 3) := by decide +kernel
theorem d4_16 : decode jdk_33_method_22_code 16 = .ok (.iload_n 0, 1) := by decide +kernel
theorem d4_17 : decode jdk_33_method_22_code 17 = .ok (.sipush 128, 3) := by decide +kernel
theorem d4_20 : decode jdk_33_method_22_code 20 = .ok (.iadd, 1) := by decide +kernel
theorem d4_21 : decode jdk_33_method_22_code 21 = .ok (.aaload, 1) := by decide +kernel
theorem d4_22 : decode jdk_33_method_22_code 22 = .ok (.areturn, 1) := by decide +kernel
def Q4 (Z : State) (p1 : Int32) (w_FIXED : Addr) (w_EXPONENTIAL : Addr) (w_cache : Addr) (h0 : Heap) (n0 : Nat) (v : Option Value) (h : Heap) : Prop :=
  (∃ (b : Addr), v = some (.ref b) ∧ Keep h0 h [] ∧ Exa Z h b "java/lang/Integer")
theorem ef_4 (m : MethodId) (p1 : Int32) : entryFrame m #[(.int p1)] 1 = mkF m 0 #[.val (.int p1)] [] := by first | (simp [entryFrame, mkF, argsToLocals, Value.category]; done) | rfl
set_option maxRecDepth 65536 in
set_option maxHeartbeats 40000000 in
theorem rm4 (l : Launch) (Z : State) (a0 : Array Value) (hw : ∀ d ∈ tables_1, d.before a0 Z = true) (ws : List Jvm.Cond) (p1 : Int32) (w_FIXED : Addr) (w_EXPONENTIAL : Addr) (w_cache : Addr) (h0 : Heap) (n0 : Nat) (O0 : Old Z n0 h0) (SF : Start Z w_FIXED w_EXPONENTIAL w_cache) :
    Meets l (⟨"java/lang/Integer", "valueOf", "(I)Ljava/lang/Integer;"⟩ : MethodName) jdk_33_method_22_code 1 (some (.object "java/lang/Integer")) ws ({ frames := 3, cells := 1, slots := 1, locals := 38 } : Room) ({ frames := 3, cells := 1, slots := 1, locals := 38 } : Room).cells ({ frames := 3, cells := 1, slots := 1, locals := 38 } : Room).slots Z #[(.int p1)] h0 n0 (Q4 Z p1 w_FIXED w_EXPONENTIAL w_cache h0 n0) := by
  refine Meets.of (F := fun m => mkF m 0 #[.val (.int p1)] []) (plainFor_of_name pn_2) (fun m => ef_4 m p1) ?_
  intro p e s m below meth c T0 hx hby hml hown0 hnm hret hlk hZ X0 e0
  have hown : s.vm.findClass "java/lang/Integer" = some m.cls := hown0
  have N0 := Fr.nil n0
  have KC0 := Keep.refl h0 []
  obtain ⟨z0, z1, z2, z3, z4, z5, z6, z7, z8, zc, -⟩ := SF
  show Goes _ _ _ _ _ _ (T0.setTop (mkF m 0 #[.val (.int p1)] []))
  refine own_iloadN X0 hx (hb hby d4_0) rfl ?_
  show Goes _ _ _ _ _ _ (T0.setTop (mkF m 1 #[.val (.int p1)] [(.int p1)]))
  refine own_bipush X0 hx (v := (-128 : Int32)) (hb hby d4_1) rfl ?_
  show Goes _ _ _ _ _ _ (T0.setTop (mkF m 3 #[.val (.int p1)] [(.int (-128 : Int32)), (.int p1)]))
  by_cases hc3_1 : p1 < (-128 : Int32)
  ·
    refine own_icmpYes X0 hx (pc' := 23) (hb hby d4_3) (tlt (hc3_1 : p1 < (-128 : Int32))).1 (by decide) (by decide) ?_
    show Goes _ _ _ _ _ _ (T0.setTop (mkF m 23 #[.val (.int p1)] []))
    refine own_new X0 hx hZ hown (hw _ (List.mem_of_getElem? (i := 33) rfl)) (hw _ (List.mem_of_getElem? (i := 34) rfl)) (hw _ (List.mem_of_getElem? (i := 29) rfl)) e0 (hb hby d4_23) (by decide) (by decide) (fun T2 h2 b2 g2 X2 e2 E2 A2 D2 => ?_)
    have ge_b2 : n0 ≤ b2 := Nat.le_trans (own_sz O0) (Nat.le_of_eq g2.symm)
    have sz_b2 : h0.size ≤ b2 := Nat.le_trans KC0.1 (Nat.le_of_eq g2.symm)
    have O3 := O0.ext E2
    have KC3 := KC0.ext E2
    have F2_value_b2 : Fld Z h2 b2 "java/lang/Integer" "value" "I" (.int (0 : Int32)) := D2 (Or.inr (hw _ (List.mem_of_getElem? (i := 47) rfl))) (ty := .int) (by decide)
    show Goes _ _ _ _ _ _ (T2.setTop (mkF m 26 #[.val (.int p1)] [(.ref b2)]))
    refine own_dup X2 hx (hb hby d4_26) rfl ?_
    show Goes _ _ _ _ _ _ (T2.setTop (mkF m 27 #[.val (.int p1)] [(.ref b2), (.ref b2)]))
    refine own_iloadN X2 hx (hb hby d4_27) rfl ?_
    show Goes _ _ _ _ _ _ (T2.setTop (mkF m 28 #[.val (.int p1)] [(.int p1), (.ref b2), (.ref b2)]))
    refine own_special X2 hx hZ hown (y := (⟨"java/lang/Integer", "<init>", "(I)V"⟩ : MethodName)) rfl (hw _ (List.mem_of_getElem? (i := 35) rfl)) (hw _ (List.mem_of_getElem? (i := 36) rfl)) (hw _ (List.mem_of_getElem? (i := 29) rfl)) (hw _ (List.mem_of_getElem? (i := 38) rfl)) (a := b2) (by decide) (W := 1) (by decide) (by decide) N0 e2 (by rw [hml]; rfl) (argsL := [(.int p1)]) (rest := [(.ref b2)]) (lenOf pd_1 rfl) (Nat.le_of_eq rfl) (by decide) (by decide) (rm5 l Z a0 hw [] b2 p1 ((.int (0 : Int32))) h2 n0 O3 A2 F2_value_b2 ge_b2) rfl (hb hby d4_28) ?_
    intro v4 T4 lc4 X4 N4 hQ4
    obtain ⟨rfl, K4, r4_0, r4_1⟩ := hQ4
    have O5 := O3.keep K4 (allS ge_b2 all0)
    have KC5 := KC3.trans K4 (allS (Or.inr sz_b2) all0)
    show Goes _ _ _ _ _ _ (T4.setTop (mkF m 31 #[.val (.int p1)] [(.ref b2)]))
    exact own_retR X4 hx N4 hlk (by decide) (by decide) hret rfl rfl rfl (hb hby d4_31) (⟨b2, rfl, KC5, r4_0⟩)
  ·
    refine own_icmpNo X0 hx (hb hby d4_3) (flt (hc3_1 : ¬ (p1 < (-128 : Int32)))).1 ?_
    show Goes _ _ _ _ _ _ (T0.setTop (mkF m 6 #[.val (.int p1)] []))
    refine own_iloadN X0 hx (hb hby d4_6) rfl ?_
    show Goes _ _ _ _ _ _ (T0.setTop (mkF m 7 #[.val (.int p1)] [(.int p1)]))
    refine own_getS X0 hx hZ hown (host := "") (Or.inl (hw _ (List.mem_of_getElem? (i := 31) rfl))) Via.refl e0 (z8.ext O0.2) (hb hby d4_7) (fun T6 X6 e6 => ?_)
    show Goes _ _ _ _ _ _ (T6.setTop (mkF m 10 #[.val (.int p1)] [(.int (127 : Int32)), (.int p1)]))
    by_cases hc10_7 : (127 : Int32) < p1
    ·
      refine own_icmpYes X6 hx (pc' := 23) (hb hby d4_10) (tlt (hc10_7 : (127 : Int32) < p1)).2.2.1 (by decide) (by decide) ?_
      show Goes _ _ _ _ _ _ (T6.setTop (mkF m 23 #[.val (.int p1)] []))
      refine own_new X6 hx hZ hown (hw _ (List.mem_of_getElem? (i := 33) rfl)) (hw _ (List.mem_of_getElem? (i := 34) rfl)) (hw _ (List.mem_of_getElem? (i := 29) rfl)) e6 (hb hby d4_23) (by decide) (by decide) (fun T8 h8 b8 g8 X8 e8 E8 A8 D8 => ?_)
      have ge_b8 : n0 ≤ b8 := Nat.le_trans (own_sz O0) (Nat.le_of_eq g8.symm)
      have sz_b8 : h0.size ≤ b8 := Nat.le_trans KC0.1 (Nat.le_of_eq g8.symm)
      have O9 := O0.ext E8
      have KC9 := KC0.ext E8
      have F8_value_b8 : Fld Z h8 b8 "java/lang/Integer" "value" "I" (.int (0 : Int32)) := D8 (Or.inr (hw _ (List.mem_of_getElem? (i := 47) rfl))) (ty := .int) (by decide)
      show Goes _ _ _ _ _ _ (T8.setTop (mkF m 26 #[.val (.int p1)] [(.ref b8)]))
      refine own_dup X8 hx (hb hby d4_26) rfl ?_
      show Goes _ _ _ _ _ _ (T8.setTop (mkF m 27 #[.val (.int p1)] [(.ref b8), (.ref b8)]))
      refine own_iloadN X8 hx (hb hby d4_27) rfl ?_
      show Goes _ _ _ _ _ _ (T8.setTop (mkF m 28 #[.val (.int p1)] [(.int p1), (.ref b8), (.ref b8)]))
      refine own_special X8 hx hZ hown (y := (⟨"java/lang/Integer", "<init>", "(I)V"⟩ : MethodName)) rfl (hw _ (List.mem_of_getElem? (i := 35) rfl)) (hw _ (List.mem_of_getElem? (i := 36) rfl)) (hw _ (List.mem_of_getElem? (i := 29) rfl)) (hw _ (List.mem_of_getElem? (i := 38) rfl)) (a := b8) (by decide) (W := 1) (by decide) (by decide) N0 e8 (by rw [hml]; rfl) (argsL := [(.int p1)]) (rest := [(.ref b8)]) (lenOf pd_1 rfl) (Nat.le_of_eq rfl) (by decide) (by decide) (rm5 l Z a0 hw [] b8 p1 ((.int (0 : Int32))) h8 n0 O9 A8 F8_value_b8 ge_b8) rfl (hb hby d4_28) ?_
      intro v10 T10 lc10 X10 N10 hQ10
      obtain ⟨rfl, K10, r10_0, r10_1⟩ := hQ10
      have O11 := O9.keep K10 (allS ge_b8 all0)
      have KC11 := KC9.trans K10 (allS (Or.inr sz_b8) all0)
      show Goes _ _ _ _ _ _ (T10.setTop (mkF m 31 #[.val (.int p1)] [(.ref b8)]))
      exact own_retR X10 hx N10 hlk (by decide) (by decide) hret rfl rfl rfl (hb hby d4_31) (⟨b8, rfl, KC11, r10_0⟩)
    ·
      refine own_icmpNo X6 hx (hb hby d4_10) (flt (hc10_7 : ¬ ((127 : Int32) < p1))).2.2.1 ?_
      show Goes _ _ _ _ _ _ (T6.setTop (mkF m 13 #[.val (.int p1)] []))
      refine own_getS X6 hx hZ hown (host := "") (Or.inl (hw _ (List.mem_of_getElem? (i := 51) rfl))) Via.refl e6 (z4.ext O0.2) (hb hby d4_13) (fun T12 X12 e12 => ?_)
      show Goes _ _ _ _ _ _ (T12.setTop (mkF m 16 #[.val (.int p1)] [(.ref w_cache)]))
      refine own_iloadN X12 hx (hb hby d4_16) rfl ?_
      show Goes _ _ _ _ _ _ (T12.setTop (mkF m 17 #[.val (.int p1)] [(.int p1), (.ref w_cache)]))
      refine own_sipush X12 hx (v := (128 : Int32)) (hb hby d4_17) rfl ?_
      show Goes _ _ _ _ _ _ (T12.setTop (mkF m 20 #[.val (.int p1)] [(.int (128 : Int32)), (.int p1), (.ref w_cache)]))
      refine own_iadd X12 hx (hb hby d4_20) ?_
      show Goes _ _ _ _ _ _ (T12.setTop (mkF m 21 #[.val (.int p1)] [(.int (p1 + (128 : Int32))), (.ref w_cache)]))
      obtain ⟨clc, Arc, hsz, hel⟩ := zc
      obtain ⟨hix, hlt⟩ := own_idx hsz hc3_1 hc10_7
      obtain ⟨bc, hb1, hb2⟩ := hel _ hlt
      refine own_aaloadC X12 hx hZ e12 (Arc.ext O0.2) rfl hix hb1 (hb hby d4_21) ?_
      have hbE := hb2.ext O0.2
      show Goes _ _ _ _ _ _ (T12.setTop (mkF m 22 #[.val (.int p1)] [(.ref bc)]))
      exact own_retR X12 hx N0 hlk (by decide) (by decide) hret rfl rfl rfl (hb hby d4_22) (by rw [e12]; exact ⟨bc, rfl, KC0, hbE⟩)
theorem pd_2 : parseMethodDescriptor "(ILcom/example/lease/lease/model/RetryBackoff;I)V" = some ⟨[.int, (.object "com/example/lease/lease/model/RetryBackoff"), .int], none⟩ := by decide +kernel
theorem pd_3 : parseMethodDescriptor "(Ljava/lang/Object;)Z" = some ⟨[(.object "java/lang/Object")], some .boolean⟩ := by decide +kernel
theorem pd_4 : parseMethodDescriptor "(I)Ljava/lang/Integer;" = some ⟨[.int], some (.object "java/lang/Integer")⟩ := by decide +kernel
theorem pn_3 : plainName "com/example/lease/lease/model/RetryPolicyEqualsPinLaw" = true := by first | (simp [plainName, overriddenIn]; done) | decide +kernel
def Q0 (Z : State) (p1 : Int32) (p2 : Int32) (p3 : Int32) (p4 : Int32) (p5 : Int32) (w_FIXED : Addr) (w_EXPONENTIAL : Addr) (w_cache : Addr) (h0 : Heap) (n0 : Nat) (v : Option Value) (h : Heap) : Prop :=
  (v = some (.int (1 : Int32)))
theorem ef_0 (m : MethodId) (p1 : Int32) (p2 : Int32) (p3 : Int32) (p4 : Int32) (p5 : Int32) : entryFrame m #[(.int p1), (.int p2), (.int p3), (.int p4), (.int p5)] maxLocals = mkF m 0 #[.val (.int p1), .val (.int p2), .val (.int p3), .val (.int p4), .val (.int p5), .unset, .unset, .unset, .unset, .unset, .unset, .unset, .unset, .unset, .unset] [] := by first | (simp [entryFrame, mkF, argsToLocals, Value.category, maxLocals]; done) | rfl
set_option maxRecDepth 65536 in
set_option maxHeartbeats 40000000 in
theorem rm0 (l : Launch) (Z : State) (a0 : Array Value) (hw : ∀ d ∈ tables_1, d.before a0 Z = true) (ws : List Jvm.Cond) (p1 : Int32) (p2 : Int32) (p3 : Int32) (p4 : Int32) (p5 : Int32) (w_FIXED : Addr) (w_EXPONENTIAL : Addr) (w_cache : Addr) (h0 : Heap) (n0 : Nat) (O0 : Old Z n0 h0) (SF : Start Z w_FIXED w_EXPONENTIAL w_cache) :
    Meets l x code maxLocals ret ws room_1 16 128 Z #[(.int p1), (.int p2), (.int p3), (.int p4), (.int p5)] h0 n0 (Q0 Z p1 p2 p3 p4 p5 w_FIXED w_EXPONENTIAL w_cache h0 n0) := by
  refine Meets.of (F := fun m => mkF m 0 #[.val (.int p1), .val (.int p2), .val (.int p3), .val (.int p4), .val (.int p5), .unset, .unset, .unset, .unset, .unset, .unset, .unset, .unset, .unset, .unset] []) (plainFor_of_name pn_3) (fun m => ef_0 m p1 p2 p3 p4 p5) ?_
  intro p e s m below meth c T0 hx hby hml hown0 hnm hret hlk hZ X0 e0
  have hown : s.vm.findClass "com/example/lease/lease/model/RetryPolicyEqualsPinLaw" = some m.cls := hown0
  have N0 := Fr.nil n0
  obtain ⟨z0, z1, z2, z3, z4, z5, z6, z7, z8, zc, -⟩ := SF
  show Goes _ _ _ _ _ _ (T0.setTop (mkF m 0 #[.val (.int p1), .val (.int p2), .val (.int p3), .val (.int p4), .val (.int p5), .unset, .unset, .unset, .unset, .unset, .unset, .unset, .unset, .unset, .unset] []))
  refine own_iload X0 hx (hb hby at_0) rfl ?_
  show Goes _ _ _ _ _ _ (T0.setTop (mkF m 2 #[.val (.int p1), .val (.int p2), .val (.int p3), .val (.int p4), .val (.int p5), .unset, .unset, .unset, .unset, .unset, .unset, .unset, .unset, .unset, .unset] [(.int p5)]))
  refine own_iconst X0 hx (v := (1 : Int32)) (hb hby at_2) rfl ?_
  show Goes _ _ _ _ _ _ (T0.setTop (mkF m 3 #[.val (.int p1), .val (.int p2), .val (.int p3), .val (.int p4), .val (.int p5), .unset, .unset, .unset, .unset, .unset, .unset, .unset, .unset, .unset, .unset] [(.int (1 : Int32)), (.int p5)]))
  refine own_iand X0 hx (hb hby at_3) ?_
  show Goes _ _ _ _ _ _ (T0.setTop (mkF m 4 #[.val (.int p1), .val (.int p2), .val (.int p3), .val (.int p4), .val (.int p5), .unset, .unset, .unset, .unset, .unset, .unset, .unset, .unset, .unset, .unset] [(.int (p5 &&& (1 : Int32)))]))
  have jn12_2 : ∀ (T2 : State) (lc2 : List Loc) (X2 : Stand p l e room_1 s m #[(.int p1), (.int p2), (.int p3), (.int p4), (.int p5)] below meth c T2 lc2 0 0) (N2 : Fr n0 lc2) (e2 : T2.heap = h0) (w2 : Int32) (hj2 : True), Goes p e below (fun o t L => FrameEnd s o t L (16) (128)) n0 (Q0 Z p1 p2 p3 p4 p5 w_FIXED w_EXPONENTIAL w_cache h0 n0) (T2.setTop (mkF m 12 #[.val (.int p1), .val (.int p2), .val (.int p3), .val (.int p4), .val (.int p5), .unset, .unset, .unset, .unset, .unset, .unset, .unset, .unset, .unset, .unset] [(.int w2)])) := by
    intro T2 lc2 X2 N2 e2 w2 hj2
    show Goes _ _ _ _ _ _ (T2.setTop (mkF m 12 #[.val (.int p1), .val (.int p2), .val (.int p3), .val (.int p4), .val (.int p5), .unset, .unset, .unset, .unset, .unset, .unset, .unset, .unset, .unset, .unset] [(.int w2)]))
    refine own_istore X2 hx (Ls' := #[.val (.int p1), .val (.int p2), .val (.int p3), .val (.int p4), .val (.int p5), .val (.int w2), .unset, .unset, .unset, .unset, .unset, .unset, .unset, .unset, .unset]) (hb hby at_12) rfl ?_
    show Goes _ _ _ _ _ _ (T2.setTop (mkF m 14 #[.val (.int p1), .val (.int p2), .val (.int p3), .val (.int p4), .val (.int p5), .val (.int w2), .unset, .unset, .unset, .unset, .unset, .unset, .unset, .unset, .unset] []))
    refine own_iload X2 hx (hb hby at_14) rfl ?_
    show Goes _ _ _ _ _ _ (T2.setTop (mkF m 16 #[.val (.int p1), .val (.int p2), .val (.int p3), .val (.int p4), .val (.int p5), .val (.int w2), .unset, .unset, .unset, .unset, .unset, .unset, .unset, .unset, .unset] [(.int p5)]))
    refine own_iconst X2 hx (v := (2 : Int32)) (hb hby at_16) rfl ?_
    show Goes _ _ _ _ _ _ (T2.setTop (mkF m 17 #[.val (.int p1), .val (.int p2), .val (.int p3), .val (.int p4), .val (.int p5), .val (.int w2), .unset, .unset, .unset, .unset, .unset, .unset, .unset, .unset, .unset] [(.int (2 : Int32)), (.int p5)]))
    refine own_iand X2 hx (hb hby at_17) ?_
    show Goes _ _ _ _ _ _ (T2.setTop (mkF m 18 #[.val (.int p1), .val (.int p2), .val (.int p3), .val (.int p4), .val (.int p5), .val (.int w2), .unset, .unset, .unset, .unset, .unset, .unset, .unset, .unset, .unset] [(.int (p5 &&& (2 : Int32)))]))
    have jn26_4 : ∀ (T4 : State) (lc4 : List Loc) (X4 : Stand p l e room_1 s m #[(.int p1), (.int p2), (.int p3), (.int p4), (.int p5)] below meth c T4 lc4 0 0) (N4 : Fr n0 lc4) (e4 : T4.heap = h0) (w4 : Int32) (hj4 : True), Goes p e below (fun o t L => FrameEnd s o t L (16) (128)) n0 (Q0 Z p1 p2 p3 p4 p5 w_FIXED w_EXPONENTIAL w_cache h0 n0) (T4.setTop (mkF m 26 #[.val (.int p1), .val (.int p2), .val (.int p3), .val (.int p4), .val (.int p5), .val (.int w2), .unset, .unset, .unset, .unset, .unset, .unset, .unset, .unset, .unset] [(.int w4)])) := by
      intro T4 lc4 X4 N4 e4 w4 hj4
      show Goes _ _ _ _ _ _ (T4.setTop (mkF m 26 #[.val (.int p1), .val (.int p2), .val (.int p3), .val (.int p4), .val (.int p5), .val (.int w2), .unset, .unset, .unset, .unset, .unset, .unset, .unset, .unset, .unset] [(.int w4)]))
      refine own_istore X4 hx (Ls' := #[.val (.int p1), .val (.int p2), .val (.int p3), .val (.int p4), .val (.int p5), .val (.int w2), .val (.int w4), .unset, .unset, .unset, .unset, .unset, .unset, .unset, .unset]) (hb hby at_26) rfl ?_
      show Goes _ _ _ _ _ _ (T4.setTop (mkF m 28 #[.val (.int p1), .val (.int p2), .val (.int p3), .val (.int p4), .val (.int p5), .val (.int w2), .val (.int w4), .unset, .unset, .unset, .unset, .unset, .unset, .unset, .unset] []))
      refine own_iload X4 hx (hb hby at_28) rfl ?_
      show Goes _ _ _ _ _ _ (T4.setTop (mkF m 30 #[.val (.int p1), .val (.int p2), .val (.int p3), .val (.int p4), .val (.int p5), .val (.int w2), .val (.int w4), .unset, .unset, .unset, .unset, .unset, .unset, .unset, .unset] [(.int w2)]))
      have jn38_6 : ∀ (T6 : State) (lc6 : List Loc) (X6 : Stand p l e room_1 s m #[(.int p1), (.int p2), (.int p3), (.int p4), (.int p5)] below meth c T6 lc6 0 0) (N6 : Fr n0 lc6) (e6 : T6.heap = h0) (w6 : Int32) (hj6 : True), Goes p e below (fun o t L => FrameEnd s o t L (16) (128)) n0 (Q0 Z p1 p2 p3 p4 p5 w_FIXED w_EXPONENTIAL w_cache h0 n0) (T6.setTop (mkF m 38 #[.val (.int p1), .val (.int p2), .val (.int p3), .val (.int p4), .val (.int p5), .val (.int w2), .val (.int w4), .unset, .unset, .unset, .unset, .unset, .unset, .unset, .unset] [(.int w6)])) := by
        intro T6 lc6 X6 N6 e6 w6 hj6
        show Goes _ _ _ _ _ _ (T6.setTop (mkF m 38 #[.val (.int p1), .val (.int p2), .val (.int p3), .val (.int p4), .val (.int p5), .val (.int w2), .val (.int w4), .unset, .unset, .unset, .unset, .unset, .unset, .unset, .unset] [(.int w6)]))
        refine own_istore X6 hx (Ls' := #[.val (.int p1), .val (.int p2), .val (.int p3), .val (.int p4), .val (.int p5), .val (.int w2), .val (.int w4), .val (.int w6), .unset, .unset, .unset, .unset, .unset, .unset, .unset]) (hb hby at_38) rfl ?_
        show Goes _ _ _ _ _ _ (T6.setTop (mkF m 40 #[.val (.int p1), .val (.int p2), .val (.int p3), .val (.int p4), .val (.int p5), .val (.int w2), .val (.int w4), .val (.int w6), .unset, .unset, .unset, .unset, .unset, .unset, .unset] []))
        refine own_iload X6 hx (hb hby at_40) rfl ?_
        show Goes _ _ _ _ _ _ (T6.setTop (mkF m 42 #[.val (.int p1), .val (.int p2), .val (.int p3), .val (.int p4), .val (.int p5), .val (.int w2), .val (.int w4), .val (.int w6), .unset, .unset, .unset, .unset, .unset, .unset, .unset] [(.int w4)]))
        have jn50_8 : ∀ (T8 : State) (lc8 : List Loc) (X8 : Stand p l e room_1 s m #[(.int p1), (.int p2), (.int p3), (.int p4), (.int p5)] below meth c T8 lc8 0 0) (N8 : Fr n0 lc8) (e8 : T8.heap = h0) (w8 : Int32) (hj8 : True), Goes p e below (fun o t L => FrameEnd s o t L (16) (128)) n0 (Q0 Z p1 p2 p3 p4 p5 w_FIXED w_EXPONENTIAL w_cache h0 n0) (T8.setTop (mkF m 50 #[.val (.int p1), .val (.int p2), .val (.int p3), .val (.int p4), .val (.int p5), .val (.int w2), .val (.int w4), .val (.int w6), .unset, .unset, .unset, .unset, .unset, .unset, .unset] [(.int w8)])) := by
          intro T8 lc8 X8 N8 e8 w8 hj8
          show Goes _ _ _ _ _ _ (T8.setTop (mkF m 50 #[.val (.int p1), .val (.int p2), .val (.int p3), .val (.int p4), .val (.int p5), .val (.int w2), .val (.int w4), .val (.int w6), .unset, .unset, .unset, .unset, .unset, .unset, .unset] [(.int w8)]))
          refine own_istore X8 hx (Ls' := #[.val (.int p1), .val (.int p2), .val (.int p3), .val (.int p4), .val (.int p5), .val (.int w2), .val (.int w4), .val (.int w6), .val (.int w8), .unset, .unset, .unset, .unset, .unset, .unset]) (hb hby at_50) rfl ?_
          show Goes _ _ _ _ _ _ (T8.setTop (mkF m 52 #[.val (.int p1), .val (.int p2), .val (.int p3), .val (.int p4), .val (.int p5), .val (.int w2), .val (.int w4), .val (.int w6), .val (.int w8), .unset, .unset, .unset, .unset, .unset, .unset] []))
          refine own_iload X8 hx (hb hby at_52) rfl ?_
          show Goes _ _ _ _ _ _ (T8.setTop (mkF m 54 #[.val (.int p1), .val (.int p2), .val (.int p3), .val (.int p4), .val (.int p5), .val (.int w2), .val (.int w4), .val (.int w6), .val (.int w8), .unset, .unset, .unset, .unset, .unset, .unset] [(.int p5)]))
          refine own_iconst X8 hx (v := (4 : Int32)) (hb hby at_54) rfl ?_
          show Goes _ _ _ _ _ _ (T8.setTop (mkF m 55 #[.val (.int p1), .val (.int p2), .val (.int p3), .val (.int p4), .val (.int p5), .val (.int w2), .val (.int w4), .val (.int w6), .val (.int w8), .unset, .unset, .unset, .unset, .unset, .unset] [(.int (4 : Int32)), (.int p5)]))
          refine own_iand X8 hx (hb hby at_55) ?_
          show Goes _ _ _ _ _ _ (T8.setTop (mkF m 56 #[.val (.int p1), .val (.int p2), .val (.int p3), .val (.int p4), .val (.int p5), .val (.int w2), .val (.int w4), .val (.int w6), .val (.int w8), .unset, .unset, .unset, .unset, .unset, .unset] [(.int (p5 &&& (4 : Int32)))]))
          have jn68_10 : ∀ (T10 : State) (lc10 : List Loc) (X10 : Stand p l e room_1 s m #[(.int p1), (.int p2), (.int p3), (.int p4), (.int p5)] below meth c T10 lc10 0 0) (N10 : Fr n0 lc10) (e10 : T10.heap = h0) (w10 : Addr) (hj10 : True), Goes p e below (fun o t L => FrameEnd s o t L (16) (128)) n0 (Q0 Z p1 p2 p3 p4 p5 w_FIXED w_EXPONENTIAL w_cache h0 n0) (T10.setTop (mkF m 68 #[.val (.int p1), .val (.int p2), .val (.int p3), .val (.int p4), .val (.int p5), .val (.int w2), .val (.int w4), .val (.int w6), .val (.int w8), .unset, .unset, .unset, .unset, .unset, .unset] [(.ref w10)])) := by
            intro T10 lc10 X10 N10 e10 w10 hj10
            show Goes _ _ _ _ _ _ (T10.setTop (mkF m 68 #[.val (.int p1), .val (.int p2), .val (.int p3), .val (.int p4), .val (.int p5), .val (.int w2), .val (.int w4), .val (.int w6), .val (.int w8), .unset, .unset, .unset, .unset, .unset, .unset] [(.ref w10)]))
            refine own_astore X10 hx (Ls' := #[.val (.int p1), .val (.int p2), .val (.int p3), .val (.int p4), .val (.int p5), .val (.int w2), .val (.int w4), .val (.int w6), .val (.int w8), .val (.ref w10), .unset, .unset, .unset, .unset, .unset]) (hb hby at_68) rfl rfl ?_
            show Goes _ _ _ _ _ _ (T10.setTop (mkF m 70 #[.val (.int p1), .val (.int p2), .val (.int p3), .val (.int p4), .val (.int p5), .val (.int w2), .val (.int w4), .val (.int w6), .val (.int w8), .val (.ref w10), .unset, .unset, .unset, .unset, .unset] []))
            refine own_iload X10 hx (hb hby at_70) rfl ?_
            show Goes _ _ _ _ _ _ (T10.setTop (mkF m 72 #[.val (.int p1), .val (.int p2), .val (.int p3), .val (.int p4), .val (.int p5), .val (.int w2), .val (.int w4), .val (.int w6), .val (.int w8), .val (.ref w10), .unset, .unset, .unset, .unset, .unset] [(.int p5)]))
            refine own_bipush X10 hx (v := (8 : Int32)) (hb hby at_72) rfl ?_
            show Goes _ _ _ _ _ _ (T10.setTop (mkF m 74 #[.val (.int p1), .val (.int p2), .val (.int p3), .val (.int p4), .val (.int p5), .val (.int w2), .val (.int w4), .val (.int w6), .val (.int w8), .val (.ref w10), .unset, .unset, .unset, .unset, .unset] [(.int (8 : Int32)), (.int p5)]))
            refine own_iand X10 hx (hb hby at_74) ?_
            show Goes _ _ _ _ _ _ (T10.setTop (mkF m 75 #[.val (.int p1), .val (.int p2), .val (.int p3), .val (.int p4), .val (.int p5), .val (.int w2), .val (.int w4), .val (.int w6), .val (.int w8), .val (.ref w10), .unset, .unset, .unset, .unset, .unset] [(.int (p5 &&& (8 : Int32)))]))
            have jn87_12 : ∀ (T12 : State) (lc12 : List Loc) (X12 : Stand p l e room_1 s m #[(.int p1), (.int p2), (.int p3), (.int p4), (.int p5)] below meth c T12 lc12 0 0) (N12 : Fr n0 lc12) (e12 : T12.heap = h0) (w12 : Addr) (hj12 : True), Goes p e below (fun o t L => FrameEnd s o t L (16) (128)) n0 (Q0 Z p1 p2 p3 p4 p5 w_FIXED w_EXPONENTIAL w_cache h0 n0) (T12.setTop (mkF m 87 #[.val (.int p1), .val (.int p2), .val (.int p3), .val (.int p4), .val (.int p5), .val (.int w2), .val (.int w4), .val (.int w6), .val (.int w8), .val (.ref w10), .unset, .unset, .unset, .unset, .unset] [(.ref w12)])) := by
              intro T12 lc12 X12 N12 e12 w12 hj12
              show Goes _ _ _ _ _ _ (T12.setTop (mkF m 87 #[.val (.int p1), .val (.int p2), .val (.int p3), .val (.int p4), .val (.int p5), .val (.int w2), .val (.int w4), .val (.int w6), .val (.int w8), .val (.ref w10), .unset, .unset, .unset, .unset, .unset] [(.ref w12)]))
              refine own_astore X12 hx (Ls' := #[.val (.int p1), .val (.int p2), .val (.int p3), .val (.int p4), .val (.int p5), .val (.int w2), .val (.int w4), .val (.int w6), .val (.int w8), .val (.ref w10), .val (.ref w12), .unset, .unset, .unset, .unset]) (hb hby at_87) rfl rfl ?_
              show Goes _ _ _ _ _ _ (T12.setTop (mkF m 89 #[.val (.int p1), .val (.int p2), .val (.int p3), .val (.int p4), .val (.int p5), .val (.int w2), .val (.int w4), .val (.int w6), .val (.int w8), .val (.ref w10), .val (.ref w12), .unset, .unset, .unset, .unset] []))
              refine own_new X12 hx hZ hown (hw _ (List.mem_of_getElem? (i := 3) rfl)) (hw _ (List.mem_of_getElem? (i := 4) rfl)) (hw _ (List.mem_of_getElem? (i := 5) rfl)) e12 (hb hby at_89) (by decide) (by decide) (fun T13 h13 b13 g13 X13 e13 E13 A13 D13 => ?_)
              have ge_b13 : n0 ≤ b13 := Nat.le_trans (own_sz O0) (Nat.le_of_eq g13.symm)
              have O14 := O0.ext E13
              have F13_maxRetries_b13 : Fld Z h13 b13 "com/example/lease/lease/model/RetryPolicy" "maxRetries" "I" (.int (0 : Int32)) := D13 (Or.inr (hw _ (List.mem_of_getElem? (i := 13) rfl))) (ty := .int) (by decide)
              have F13_backoff_b13 : Fld Z h13 b13 "com/example/lease/lease/model/RetryPolicy" "backoff" "Lcom/example/lease/lease/model/RetryBackoff;" .null := D13 (Or.inr (hw _ (List.mem_of_getElem? (i := 15) rfl))) (ty := (.object "com/example/lease/lease/model/RetryBackoff")) (by decide)
              have F13_retryDelaySeconds_b13 : Fld Z h13 b13 "com/example/lease/lease/model/RetryPolicy" "retryDelaySeconds" "I" (.int (0 : Int32)) := D13 (Or.inr (hw _ (List.mem_of_getElem? (i := 17) rfl))) (ty := .int) (by decide)
              show Goes _ _ _ _ _ _ (T13.setTop (mkF m 92 #[.val (.int p1), .val (.int p2), .val (.int p3), .val (.int p4), .val (.int p5), .val (.int w2), .val (.int w4), .val (.int w6), .val (.int w8), .val (.ref w10), .val (.ref w12), .unset, .unset, .unset, .unset] [(.ref b13)]))
              refine own_dup X13 hx (hb hby at_92) rfl ?_
              show Goes _ _ _ _ _ _ (T13.setTop (mkF m 93 #[.val (.int p1), .val (.int p2), .val (.int p3), .val (.int p4), .val (.int p5), .val (.int w2), .val (.int w4), .val (.int w6), .val (.int w8), .val (.ref w10), .val (.ref w12), .unset, .unset, .unset, .unset] [(.ref b13), (.ref b13)]))
              refine own_iloadN X13 hx (hb hby at_93) rfl ?_
              show Goes _ _ _ _ _ _ (T13.setTop (mkF m 94 #[.val (.int p1), .val (.int p2), .val (.int p3), .val (.int p4), .val (.int p5), .val (.int w2), .val (.int w4), .val (.int w6), .val (.int w8), .val (.ref w10), .val (.ref w12), .unset, .unset, .unset, .unset] [(.int p1), (.ref b13), (.ref b13)]))
              refine own_aload X13 hx (hb hby at_94) rfl rfl ?_
              show Goes _ _ _ _ _ _ (T13.setTop (mkF m 96 #[.val (.int p1), .val (.int p2), .val (.int p3), .val (.int p4), .val (.int p5), .val (.int w2), .val (.int w4), .val (.int w6), .val (.int w8), .val (.ref w10), .val (.ref w12), .unset, .unset, .unset, .unset] [(.ref w10), (.int p1), (.ref b13), (.ref b13)]))
              refine own_iloadN X13 hx (hb hby at_96) rfl ?_
              show Goes _ _ _ _ _ _ (T13.setTop (mkF m 97 #[.val (.int p1), .val (.int p2), .val (.int p3), .val (.int p4), .val (.int p5), .val (.int w2), .val (.int w4), .val (.int w6), .val (.int w8), .val (.ref w10), .val (.ref w12), .unset, .unset, .unset, .unset] [(.int p2), (.ref w10), (.int p1), (.ref b13), (.ref b13)]))
              refine own_special X13 hx hZ hown (y := (⟨"com/example/lease/lease/model/RetryPolicy", "<init>", "(ILcom/example/lease/lease/model/RetryBackoff;I)V"⟩ : MethodName)) rfl (hw _ (List.mem_of_getElem? (i := 6) rfl)) (hw _ (List.mem_of_getElem? (i := 7) rfl)) (hw _ (List.mem_of_getElem? (i := 5) rfl)) (hw _ (List.mem_of_getElem? (i := 8) rfl)) (a := b13) (by decide) (W := 1) (by decide) (by decide) N12 e13 (by rw [hml]; rfl) (argsL := [(.int p1), (.ref w10), (.int p2)]) (rest := [(.ref b13)]) (lenOf pd_2 rfl) (Nat.le_of_eq rfl) (by decide) (by decide) (rm1 l Z a0 hw [] b13 p1 w10 p2 ((.int (0 : Int32))) (.null) ((.int (0 : Int32))) h13 n0 O14 A13 F13_maxRetries_b13 F13_backoff_b13 F13_retryDelaySeconds_b13 ge_b13) rfl (hb hby at_97) ?_
              intro v15 T15 lc15 X15 N15 hQ15
              obtain ⟨rfl, K15, r15_0, r15_1, r15_2, r15_3⟩ := hQ15
              have O16 := O14.keep K15 (allS ge_b13 all0)
              show Goes _ _ _ _ _ _ (T15.setTop (mkF m 100 #[.val (.int p1), .val (.int p2), .val (.int p3), .val (.int p4), .val (.int p5), .val (.int w2), .val (.int w4), .val (.int w6), .val (.int w8), .val (.ref w10), .val (.ref w12), .unset, .unset, .unset, .unset] [(.ref b13)]))
              refine own_astore X15 hx (Ls' := #[.val (.int p1), .val (.int p2), .val (.int p3), .val (.int p4), .val (.int p5), .val (.int w2), .val (.int w4), .val (.int w6), .val (.int w8), .val (.ref w10), .val (.ref w12), .val (.ref b13), .unset, .unset, .unset]) (hb hby at_100) rfl rfl ?_
              show Goes _ _ _ _ _ _ (T15.setTop (mkF m 102 #[.val (.int p1), .val (.int p2), .val (.int p3), .val (.int p4), .val (.int p5), .val (.int w2), .val (.int w4), .val (.int w6), .val (.int w8), .val (.ref w10), .val (.ref w12), .val (.ref b13), .unset, .unset, .unset] []))
              refine own_new X15 hx hZ hown (hw _ (List.mem_of_getElem? (i := 3) rfl)) (hw _ (List.mem_of_getElem? (i := 4) rfl)) (hw _ (List.mem_of_getElem? (i := 5) rfl)) rfl (hb hby at_102) (by decide) (by decide) (fun T17 h17 b17 g17 X17 e17 E17 A17 D17 => ?_)
              have ne_b13_b17 : b13 ≠ b17 := Nat.ne_of_lt (Nat.lt_of_lt_of_le r15_0.lt (Nat.le_of_eq g17.symm))
              have ge_b17 : n0 ≤ b17 := Nat.le_trans (own_sz O16) (Nat.le_of_eq g17.symm)
              have E18_b13 := r15_0.ext E17
              have F18_maxRetries_b13 := r15_1.ext E17
              have F18_backoff_b13 := r15_2.ext E17
              have F18_retryDelaySeconds_b13 := r15_3.ext E17
              have O18 := O16.ext E17
              have F17_maxRetries_b17 : Fld Z h17 b17 "com/example/lease/lease/model/RetryPolicy" "maxRetries" "I" (.int (0 : Int32)) := D17 (Or.inr (hw _ (List.mem_of_getElem? (i := 13) rfl))) (ty := .int) (by decide)
              have F17_backoff_b17 : Fld Z h17 b17 "com/example/lease/lease/model/RetryPolicy" "backoff" "Lcom/example/lease/lease/model/RetryBackoff;" .null := D17 (Or.inr (hw _ (List.mem_of_getElem? (i := 15) rfl))) (ty := (.object "com/example/lease/lease/model/RetryBackoff")) (by decide)
              have F17_retryDelaySeconds_b17 : Fld Z h17 b17 "com/example/lease/lease/model/RetryPolicy" "retryDelaySeconds" "I" (.int (0 : Int32)) := D17 (Or.inr (hw _ (List.mem_of_getElem? (i := 17) rfl))) (ty := .int) (by decide)
              show Goes _ _ _ _ _ _ (T17.setTop (mkF m 105 #[.val (.int p1), .val (.int p2), .val (.int p3), .val (.int p4), .val (.int p5), .val (.int w2), .val (.int w4), .val (.int w6), .val (.int w8), .val (.ref w10), .val (.ref w12), .val (.ref b13), .unset, .unset, .unset] [(.ref b17)]))
              refine own_dup X17 hx (hb hby at_105) rfl ?_
              show Goes _ _ _ _ _ _ (T17.setTop (mkF m 106 #[.val (.int p1), .val (.int p2), .val (.int p3), .val (.int p4), .val (.int p5), .val (.int w2), .val (.int w4), .val (.int w6), .val (.int w8), .val (.ref w10), .val (.ref w12), .val (.ref b13), .unset, .unset, .unset] [(.ref b17), (.ref b17)]))
              refine own_iload X17 hx (hb hby at_106) rfl ?_
              show Goes _ _ _ _ _ _ (T17.setTop (mkF m 108 #[.val (.int p1), .val (.int p2), .val (.int p3), .val (.int p4), .val (.int p5), .val (.int w2), .val (.int w4), .val (.int w6), .val (.int w8), .val (.ref w10), .val (.ref w12), .val (.ref b13), .unset, .unset, .unset] [(.int w6), (.ref b17), (.ref b17)]))
              refine own_aload X17 hx (hb hby at_108) rfl rfl ?_
              show Goes _ _ _ _ _ _ (T17.setTop (mkF m 110 #[.val (.int p1), .val (.int p2), .val (.int p3), .val (.int p4), .val (.int p5), .val (.int w2), .val (.int w4), .val (.int w6), .val (.int w8), .val (.ref w10), .val (.ref w12), .val (.ref b13), .unset, .unset, .unset] [(.ref w12), (.int w6), (.ref b17), (.ref b17)]))
              refine own_iload X17 hx (hb hby at_110) rfl ?_
              show Goes _ _ _ _ _ _ (T17.setTop (mkF m 112 #[.val (.int p1), .val (.int p2), .val (.int p3), .val (.int p4), .val (.int p5), .val (.int w2), .val (.int w4), .val (.int w6), .val (.int w8), .val (.ref w10), .val (.ref w12), .val (.ref b13), .unset, .unset, .unset] [(.int w8), (.ref w12), (.int w6), (.ref b17), (.ref b17)]))
              refine own_special X17 hx hZ hown (y := (⟨"com/example/lease/lease/model/RetryPolicy", "<init>", "(ILcom/example/lease/lease/model/RetryBackoff;I)V"⟩ : MethodName)) rfl (hw _ (List.mem_of_getElem? (i := 6) rfl)) (hw _ (List.mem_of_getElem? (i := 7) rfl)) (hw _ (List.mem_of_getElem? (i := 5) rfl)) (hw _ (List.mem_of_getElem? (i := 8) rfl)) (a := b17) (by decide) (W := 1) (by decide) (by decide) N15 e17 (by rw [hml]; rfl) (argsL := [(.int w6), (.ref w12), (.int w8)]) (rest := [(.ref b17)]) (lenOf pd_2 rfl) (Nat.le_of_eq rfl) (by decide) (by decide) (rm1 l Z a0 hw [] b17 w6 w12 w8 ((.int (0 : Int32))) (.null) ((.int (0 : Int32))) h17 n0 O18 A17 F17_maxRetries_b17 F17_backoff_b17 F17_retryDelaySeconds_b17 ge_b17) rfl (hb hby at_112) ?_
              intro v19 T19 lc19 X19 N19 hQ19
              obtain ⟨rfl, K19, r19_0, r19_1, r19_2, r19_3⟩ := hQ19
              have E20_b13 := E18_b13.keep K19
              have F20_maxRetries_b13 := F18_maxRetries_b13.keep K19 (ninS ne_b13_b17 nin0)
              have F20_backoff_b13 := F18_backoff_b13.keep K19 (ninS ne_b13_b17 nin0)
              have F20_retryDelaySeconds_b13 := F18_retryDelaySeconds_b13.keep K19 (ninS ne_b13_b17 nin0)
              have O20 := O18.keep K19 (allS ge_b17 all0)
              show Goes _ _ _ _ _ _ (T19.setTop (mkF m 115 #[.val (.int p1), .val (.int p2), .val (.int p3), .val (.int p4), .val (.int p5), .val (.int w2), .val (.int w4), .val (.int w6), .val (.int w8), .val (.ref w10), .val (.ref w12), .val (.ref b13), .unset, .unset, .unset] [(.ref b17)]))
              refine own_astore X19 hx (Ls' := #[.val (.int p1), .val (.int p2), .val (.int p3), .val (.int p4), .val (.int p5), .val (.int w2), .val (.int w4), .val (.int w6), .val (.int w8), .val (.ref w10), .val (.ref w12), .val (.ref b13), .val (.ref b17), .unset, .unset]) (hb hby at_115) rfl rfl ?_
              show Goes _ _ _ _ _ _ (T19.setTop (mkF m 117 #[.val (.int p1), .val (.int p2), .val (.int p3), .val (.int p4), .val (.int p5), .val (.int w2), .val (.int w4), .val (.int w6), .val (.int w8), .val (.ref w10), .val (.ref w12), .val (.ref b13), .val (.ref b17), .unset, .unset] []))
              refine own_iload X19 hx (hb hby at_117) rfl ?_
              show Goes _ _ _ _ _ _ (T19.setTop (mkF m 119 #[.val (.int p1), .val (.int p2), .val (.int p3), .val (.int p4), .val (.int p5), .val (.int w2), .val (.int w4), .val (.int w6), .val (.int w8), .val (.ref w10), .val (.ref w12), .val (.ref b13), .val (.ref b17), .unset, .unset] [(.int p5)]))
              refine own_iconst X19 hx (v := (4 : Int32)) (hb hby at_119) rfl ?_
              show Goes _ _ _ _ _ _ (T19.setTop (mkF m 120 #[.val (.int p1), .val (.int p2), .val (.int p3), .val (.int p4), .val (.int p5), .val (.int w2), .val (.int w4), .val (.int w6), .val (.int w8), .val (.ref w10), .val (.ref w12), .val (.ref b13), .val (.ref b17), .unset, .unset] [(.int (4 : Int32)), (.int p5)]))
              refine own_iushr X19 hx (hb hby at_120) ?_
              show Goes _ _ _ _ _ _ (T19.setTop (mkF m 121 #[.val (.int p1), .val (.int p2), .val (.int p3), .val (.int p4), .val (.int p5), .val (.int w2), .val (.int w4), .val (.int w6), .val (.int w8), .val (.ref w10), .val (.ref w12), .val (.ref b13), .val (.ref b17), .unset, .unset] [(.int ((p5.toUInt32 >>> ((4 : Int32) &&& 31).toUInt32).toInt32))]))
              refine own_iconst X19 hx (v := (3 : Int32)) (hb hby at_121) rfl ?_
              show Goes _ _ _ _ _ _ (T19.setTop (mkF m 122 #[.val (.int p1), .val (.int p2), .val (.int p3), .val (.int p4), .val (.int p5), .val (.int w2), .val (.int w4), .val (.int w6), .val (.int w8), .val (.ref w10), .val (.ref w12), .val (.ref b13), .val (.ref b17), .unset, .unset] [(.int (3 : Int32)), (.int ((p5.toUInt32 >>> ((4 : Int32) &&& 31).toUInt32).toInt32))]))
              refine own_iand X19 hx (hb hby at_122) ?_
              show Goes _ _ _ _ _ _ (T19.setTop (mkF m 123 #[.val (.int p1), .val (.int p2), .val (.int p3), .val (.int p4), .val (.int p5), .val (.int w2), .val (.int w4), .val (.int w6), .val (.int w8), .val (.ref w10), .val (.ref w12), .val (.ref b13), .val (.ref b17), .unset, .unset] [(.int (((p5.toUInt32 >>> ((4 : Int32) &&& 31).toUInt32).toInt32) &&& (3 : Int32)))]))
              refine own_istore X19 hx (Ls' := #[.val (.int p1), .val (.int p2), .val (.int p3), .val (.int p4), .val (.int p5), .val (.int w2), .val (.int w4), .val (.int w6), .val (.int w8), .val (.ref w10), .val (.ref w12), .val (.ref b13), .val (.ref b17), .val (.int (((p5.toUInt32 >>> ((4 : Int32) &&& 31).toUInt32).toInt32) &&& (3 : Int32))), .unset]) (hb hby at_123) rfl ?_
              show Goes _ _ _ _ _ _ (T19.setTop (mkF m 125 #[.val (.int p1), .val (.int p2), .val (.int p3), .val (.int p4), .val (.int p5), .val (.int w2), .val (.int w4), .val (.int w6), .val (.int w8), .val (.ref w10), .val (.ref w12), .val (.ref b13), .val (.ref b17), .val (.int (((p5.toUInt32 >>> ((4 : Int32) &&& 31).toUInt32).toInt32) &&& (3 : Int32))), .unset] []))
              refine own_aload X19 hx (hb hby at_125) rfl rfl ?_
              show Goes _ _ _ _ _ _ (T19.setTop (mkF m 127 #[.val (.int p1), .val (.int p2), .val (.int p3), .val (.int p4), .val (.int p5), .val (.int w2), .val (.int w4), .val (.int w6), .val (.int w8), .val (.ref w10), .val (.ref w12), .val (.ref b13), .val (.ref b17), .val (.int (((p5.toUInt32 >>> ((4 : Int32) &&& 31).toUInt32).toInt32) &&& (3 : Int32))), .unset] [(.ref b13)]))
              refine own_aload X19 hx (hb hby at_127) rfl rfl ?_
              show Goes _ _ _ _ _ _ (T19.setTop (mkF m 129 #[.val (.int p1), .val (.int p2), .val (.int p3), .val (.int p4), .val (.int p5), .val (.int w2), .val (.int w4), .val (.int w6), .val (.int w8), .val (.ref w10), .val (.ref w12), .val (.ref b13), .val (.ref b17), .val (.int (((p5.toUInt32 >>> ((4 : Int32) &&& 31).toUInt32).toInt32) &&& (3 : Int32))), .unset] [(.ref b13), (.ref b13)]))
              refine own_virtual X19 hx hZ hown (y := (⟨"com/example/lease/lease/model/RetryPolicy", "equals", "(Ljava/lang/Object;)Z"⟩ : MethodName)) (z := (⟨"com/example/lease/lease/model/RetryPolicy", "equals", "(Ljava/lang/Object;)Z"⟩ : MethodName)) (hw _ (List.mem_of_getElem? (i := 18) rfl)) (hw _ (List.mem_of_getElem? (i := 19) rfl)) (notFace_of_selects (args := #[]) (mvT hZ (hw _ (List.mem_of_getElem? (i := 21) rfl)))) (hw _ (List.mem_of_getElem? (i := 21) rfl)) (hw _ (List.mem_of_getElem? (i := 20) rfl)) (hw _ (List.mem_of_getElem? (i := 5) rfl)) (hw _ (List.mem_of_getElem? (i := 22) rfl)) (a := b13) E20_b13 (by decide) (W := 0) (by decide) (by decide) N19 rfl (by rw [hml]; rfl) (argsL := [(.ref b13)]) (rest := []) (lenOf pd_3 rfl) (Nat.le_of_eq rfl) (by decide) (by decide) (rm3 l Z a0 hw [] b13 b13 p1 p1 w10 w10 p2 p2 T19.heap n0 O20 E20_b13 F20_maxRetries_b13 F20_maxRetries_b13 F20_backoff_b13 F20_backoff_b13 F20_retryDelaySeconds_b13 F20_retryDelaySeconds_b13) rfl (hb hby at_129) ?_
              intro v21 T21 lc21 X21 N21 hQ21
              obtain ⟨rfl, e21⟩ := hQ21
              show Goes _ _ _ _ _ _ (T21.setTop (mkF m 132 #[.val (.int p1), .val (.int p2), .val (.int p3), .val (.int p4), .val (.int p5), .val (.int w2), .val (.int w4), .val (.int w6), .val (.int w8), .val (.ref w10), .val (.ref w12), .val (.ref b13), .val (.ref b17), .val (.int (((p5.toUInt32 >>> ((4 : Int32) &&& 31).toUInt32).toInt32) &&& (3 : Int32))), .unset] [(.int (if p1 = p1 ∧ w10 = w10 ∧ p2 = p2 then (1 : Int32) else (0 : Int32)))]))
              refine own_ifYes X21 hx (pc' := 137) (hb hby at_132) ((if0 _ _).trans (feq ((own_bnz (fun q => q ⟨rfl, rfl, rfl⟩)) : ¬ ((if p1 = p1 ∧ w10 = w10 ∧ p2 = p2 then (1 : Int32) else (0 : Int32)) = (0 : Int32)))).2) (by decide) (by decide) ?_
              show Goes _ _ _ _ _ _ (T21.setTop (mkF m 137 #[.val (.int p1), .val (.int p2), .val (.int p3), .val (.int p4), .val (.int p5), .val (.int w2), .val (.int w4), .val (.int w6), .val (.int w8), .val (.ref w10), .val (.ref w12), .val (.ref b13), .val (.ref b17), .val (.int (((p5.toUInt32 >>> ((4 : Int32) &&& 31).toUInt32).toInt32) &&& (3 : Int32))), .unset] []))
              refine own_iload X21 hx (hb hby at_137) rfl ?_
              show Goes _ _ _ _ _ _ (T21.setTop (mkF m 139 #[.val (.int p1), .val (.int p2), .val (.int p3), .val (.int p4), .val (.int p5), .val (.int w2), .val (.int w4), .val (.int w6), .val (.int w8), .val (.ref w10), .val (.ref w12), .val (.ref b13), .val (.ref b17), .val (.int (((p5.toUInt32 >>> ((4 : Int32) &&& 31).toUInt32).toInt32) &&& (3 : Int32))), .unset] [(.int (((p5.toUInt32 >>> ((4 : Int32) &&& 31).toUInt32).toInt32) &&& (3 : Int32)))]))
              refine own_iconst X21 hx (v := (1 : Int32)) (hb hby at_139) rfl ?_
              show Goes _ _ _ _ _ _ (T21.setTop (mkF m 140 #[.val (.int p1), .val (.int p2), .val (.int p3), .val (.int p4), .val (.int p5), .val (.int w2), .val (.int w4), .val (.int w6), .val (.int w8), .val (.ref w10), .val (.ref w12), .val (.ref b13), .val (.ref b17), .val (.int (((p5.toUInt32 >>> ((4 : Int32) &&& 31).toUInt32).toInt32) &&& (3 : Int32))), .unset] [(.int (1 : Int32)), (.int (((p5.toUInt32 >>> ((4 : Int32) &&& 31).toUInt32).toInt32) &&& (3 : Int32)))]))
              by_cases hc140_22 : (((p5.toUInt32 >>> ((4 : Int32) &&& 31).toUInt32).toInt32) &&& (3 : Int32)) = (1 : Int32)
              ·
                refine own_icmpNo X21 hx (hb hby at_140) (teq (hc140_22 : (((p5.toUInt32 >>> ((4 : Int32) &&& 31).toUInt32).toInt32) &&& (3 : Int32)) = (1 : Int32))).2 ?_
                show Goes _ _ _ _ _ _ (T21.setTop (mkF m 143 #[.val (.int p1), .val (.int p2), .val (.int p3), .val (.int p4), .val (.int p5), .val (.int w2), .val (.int w4), .val (.int w6), .val (.int w8), .val (.ref w10), .val (.ref w12), .val (.ref b13), .val (.ref b17), .val (.int (((p5.toUInt32 >>> ((4 : Int32) &&& 31).toUInt32).toInt32) &&& (3 : Int32))), .unset] []))
                refine own_aload X21 hx (hb hby at_143) rfl rfl ?_
                show Goes _ _ _ _ _ _ (T21.setTop (mkF m 145 #[.val (.int p1), .val (.int p2), .val (.int p3), .val (.int p4), .val (.int p5), .val (.int w2), .val (.int w4), .val (.int w6), .val (.int w8), .val (.ref w10), .val (.ref w12), .val (.ref b13), .val (.ref b17), .val (.int (((p5.toUInt32 >>> ((4 : Int32) &&& 31).toUInt32).toInt32) &&& (3 : Int32))), .unset] [(.ref b13)]))
                refine own_aconst_null X21 hx (hb hby at_145) ?_
                show Goes _ _ _ _ _ _ (T21.setTop (mkF m 146 #[.val (.int p1), .val (.int p2), .val (.int p3), .val (.int p4), .val (.int p5), .val (.int w2), .val (.int w4), .val (.int w6), .val (.int w8), .val (.ref w10), .val (.ref w12), .val (.ref b13), .val (.ref b17), .val (.int (((p5.toUInt32 >>> ((4 : Int32) &&& 31).toUInt32).toInt32) &&& (3 : Int32))), .unset] [.null, (.ref b13)]))
                refine own_virtual X21 hx hZ hown (y := (⟨"com/example/lease/lease/model/RetryPolicy", "equals", "(Ljava/lang/Object;)Z"⟩ : MethodName)) (z := (⟨"com/example/lease/lease/model/RetryPolicy", "equals", "(Ljava/lang/Object;)Z"⟩ : MethodName)) (hw _ (List.mem_of_getElem? (i := 18) rfl)) (hw _ (List.mem_of_getElem? (i := 19) rfl)) (notFace_of_selects (args := #[]) (mvT hZ (hw _ (List.mem_of_getElem? (i := 21) rfl)))) (hw _ (List.mem_of_getElem? (i := 21) rfl)) (hw _ (List.mem_of_getElem? (i := 20) rfl)) (hw _ (List.mem_of_getElem? (i := 5) rfl)) (hw _ (List.mem_of_getElem? (i := 22) rfl)) (a := b13) E20_b13 (by decide) (W := 0) (by decide) (by decide) N21 e21 (by rw [hml]; rfl) (argsL := [.null]) (rest := []) (lenOf pd_3 rfl) (Nat.le_of_eq rfl) (by decide) (by decide) (rm3n l Z a0 hw [] b13 T19.heap n0 O20) rfl (hb hby at_146) ?_
                intro v23 T23 lc23 X23 N23 hQ23
                obtain ⟨rfl, e23⟩ := hQ23
                show Goes _ _ _ _ _ _ (T23.setTop (mkF m 149 #[.val (.int p1), .val (.int p2), .val (.int p3), .val (.int p4), .val (.int p5), .val (.int w2), .val (.int w4), .val (.int w6), .val (.int w8), .val (.ref w10), .val (.ref w12), .val (.ref b13), .val (.ref b17), .val (.int (((p5.toUInt32 >>> ((4 : Int32) &&& 31).toUInt32).toInt32) &&& (3 : Int32))), .unset] [(.int (0 : Int32))]))
                refine own_ifNo X23 hx (hb hby at_149) ((if0 _ _).trans (teq (by decide : (0 : Int32) = (0 : Int32))).2) ?_
                show Goes _ _ _ _ _ _ (T23.setTop (mkF m 152 #[.val (.int p1), .val (.int p2), .val (.int p3), .val (.int p4), .val (.int p5), .val (.int w2), .val (.int w4), .val (.int w6), .val (.int w8), .val (.ref w10), .val (.ref w12), .val (.ref b13), .val (.ref b17), .val (.int (((p5.toUInt32 >>> ((4 : Int32) &&& 31).toUInt32).toInt32) &&& (3 : Int32))), .unset] []))
                refine own_iconst X23 hx (v := (1 : Int32)) (hb hby at_152) rfl ?_
                show Goes _ _ _ _ _ _ (T23.setTop (mkF m 153 #[.val (.int p1), .val (.int p2), .val (.int p3), .val (.int p4), .val (.int p5), .val (.int w2), .val (.int w4), .val (.int w6), .val (.int w8), .val (.ref w10), .val (.ref w12), .val (.ref b13), .val (.ref b17), .val (.int (((p5.toUInt32 >>> ((4 : Int32) &&& 31).toUInt32).toInt32) &&& (3 : Int32))), .unset] [(.int (1 : Int32))]))
                refine own_goto X23 hx (pc' := 157) (hb hby at_153) (by decide) (by decide) ?_
                show Goes _ _ _ _ _ _ (T23.setTop (mkF m 157 #[.val (.int p1), .val (.int p2), .val (.int p3), .val (.int p4), .val (.int p5), .val (.int w2), .val (.int w4), .val (.int w6), .val (.int w8), .val (.ref w10), .val (.ref w12), .val (.ref b13), .val (.ref b17), .val (.int (((p5.toUInt32 >>> ((4 : Int32) &&& 31).toUInt32).toInt32) &&& (3 : Int32))), .unset] [(.int (1 : Int32))]))
                exact own_retN X23 hx (t := .boolean) N23 hlk (by decide) (by decide) hret (by simp) (hb hby at_157) (by rw [e23]; exact rfl)
              ·
                refine own_icmpYes X21 hx (pc' := 158) (hb hby at_140) (feq (hc140_22 : ¬ ((((p5.toUInt32 >>> ((4 : Int32) &&& 31).toUInt32).toInt32) &&& (3 : Int32)) = (1 : Int32)))).2 (by decide) (by decide) ?_
                show Goes _ _ _ _ _ _ (T21.setTop (mkF m 158 #[.val (.int p1), .val (.int p2), .val (.int p3), .val (.int p4), .val (.int p5), .val (.int w2), .val (.int w4), .val (.int w6), .val (.int w8), .val (.ref w10), .val (.ref w12), .val (.ref b13), .val (.ref b17), .val (.int (((p5.toUInt32 >>> ((4 : Int32) &&& 31).toUInt32).toInt32) &&& (3 : Int32))), .unset] []))
                refine own_iload X21 hx (hb hby at_158) rfl ?_
                show Goes _ _ _ _ _ _ (T21.setTop (mkF m 160 #[.val (.int p1), .val (.int p2), .val (.int p3), .val (.int p4), .val (.int p5), .val (.int w2), .val (.int w4), .val (.int w6), .val (.int w8), .val (.ref w10), .val (.ref w12), .val (.ref b13), .val (.ref b17), .val (.int (((p5.toUInt32 >>> ((4 : Int32) &&& 31).toUInt32).toInt32) &&& (3 : Int32))), .unset] [(.int (((p5.toUInt32 >>> ((4 : Int32) &&& 31).toUInt32).toInt32) &&& (3 : Int32)))]))
                refine own_iconst X21 hx (v := (2 : Int32)) (hb hby at_160) rfl ?_
                show Goes _ _ _ _ _ _ (T21.setTop (mkF m 161 #[.val (.int p1), .val (.int p2), .val (.int p3), .val (.int p4), .val (.int p5), .val (.int w2), .val (.int w4), .val (.int w6), .val (.int w8), .val (.ref w10), .val (.ref w12), .val (.ref b13), .val (.ref b17), .val (.int (((p5.toUInt32 >>> ((4 : Int32) &&& 31).toUInt32).toInt32) &&& (3 : Int32))), .unset] [(.int (2 : Int32)), (.int (((p5.toUInt32 >>> ((4 : Int32) &&& 31).toUInt32).toInt32) &&& (3 : Int32)))]))
                by_cases hc161_24 : (((p5.toUInt32 >>> ((4 : Int32) &&& 31).toUInt32).toInt32) &&& (3 : Int32)) = (2 : Int32)
                ·
                  refine own_icmpNo X21 hx (hb hby at_161) (teq (hc161_24 : (((p5.toUInt32 >>> ((4 : Int32) &&& 31).toUInt32).toInt32) &&& (3 : Int32)) = (2 : Int32))).2 ?_
                  show Goes _ _ _ _ _ _ (T21.setTop (mkF m 164 #[.val (.int p1), .val (.int p2), .val (.int p3), .val (.int p4), .val (.int p5), .val (.int w2), .val (.int w4), .val (.int w6), .val (.int w8), .val (.ref w10), .val (.ref w12), .val (.ref b13), .val (.ref b17), .val (.int (((p5.toUInt32 >>> ((4 : Int32) &&& 31).toUInt32).toInt32) &&& (3 : Int32))), .unset] []))
                  refine own_aload X21 hx (hb hby at_164) rfl rfl ?_
                  show Goes _ _ _ _ _ _ (T21.setTop (mkF m 166 #[.val (.int p1), .val (.int p2), .val (.int p3), .val (.int p4), .val (.int p5), .val (.int w2), .val (.int w4), .val (.int w6), .val (.int w8), .val (.ref w10), .val (.ref w12), .val (.ref b13), .val (.ref b17), .val (.int (((p5.toUInt32 >>> ((4 : Int32) &&& 31).toUInt32).toInt32) &&& (3 : Int32))), .unset] [(.ref b13)]))
                  refine own_iloadN X21 hx (hb hby at_166) rfl ?_
                  show Goes _ _ _ _ _ _ (T21.setTop (mkF m 167 #[.val (.int p1), .val (.int p2), .val (.int p3), .val (.int p4), .val (.int p5), .val (.int w2), .val (.int w4), .val (.int w6), .val (.int w8), .val (.ref w10), .val (.ref w12), .val (.ref b13), .val (.ref b17), .val (.int (((p5.toUInt32 >>> ((4 : Int32) &&& 31).toUInt32).toInt32) &&& (3 : Int32))), .unset] [(.int p1), (.ref b13)]))
                  refine own_callS X21 hx hZ hown (y := (⟨"java/lang/Integer", "valueOf", "(I)Ljava/lang/Integer;"⟩ : MethodName)) (hw _ (List.mem_of_getElem? (i := 27) rfl)) (hw _ (List.mem_of_getElem? (i := 28) rfl)) (hw _ (List.mem_of_getElem? (i := 29) rfl)) (hw _ (List.mem_of_getElem? (i := 30) rfl)) (by decide) (W := 1) (by decide) (by decide) N21 e21 (by rw [hml]; rfl) (argsL := [(.int p1)]) (rest := [(.ref b13)]) (lenOf pd_4 rfl) (Nat.le_of_eq rfl) (by decide) (by decide) (rm4 l Z a0 hw [] p1 w_FIXED w_EXPONENTIAL w_cache T19.heap n0 O20 ⟨z0, z1, z2, z3, z4, z5, z6, z7, z8, zc, trivial⟩) rfl (hb hby at_167) ?_
                  intro v25 T25 lc25 X25 N25 hQ25
                  obtain ⟨b_25, rfl, K25, r25_0⟩ := hQ25
                  have E26_b13 := E20_b13.keep K25
                  have O26 := O20.keep K25 all0
                  show Goes _ _ _ _ _ _ (T25.setTop (mkF m 170 #[.val (.int p1), .val (.int p2), .val (.int p3), .val (.int p4), .val (.int p5), .val (.int w2), .val (.int w4), .val (.int w6), .val (.int w8), .val (.ref w10), .val (.ref w12), .val (.ref b13), .val (.ref b17), .val (.int (((p5.toUInt32 >>> ((4 : Int32) &&& 31).toUInt32).toInt32) &&& (3 : Int32))), .unset] [(.ref b_25), (.ref b13)]))
                  refine own_virtual X25 hx hZ hown (y := (⟨"com/example/lease/lease/model/RetryPolicy", "equals", "(Ljava/lang/Object;)Z"⟩ : MethodName)) (z := (⟨"com/example/lease/lease/model/RetryPolicy", "equals", "(Ljava/lang/Object;)Z"⟩ : MethodName)) (hw _ (List.mem_of_getElem? (i := 18) rfl)) (hw _ (List.mem_of_getElem? (i := 19) rfl)) (notFace_of_selects (args := #[]) (mvT hZ (hw _ (List.mem_of_getElem? (i := 21) rfl)))) (hw _ (List.mem_of_getElem? (i := 21) rfl)) (hw _ (List.mem_of_getElem? (i := 20) rfl)) (hw _ (List.mem_of_getElem? (i := 5) rfl)) (hw _ (List.mem_of_getElem? (i := 22) rfl)) (a := b13) E26_b13 (by decide) (W := 0) (by decide) (by decide) N25 rfl (by rw [hml]; rfl) (argsL := [(.ref b_25)]) (rest := []) (lenOf pd_3 rfl) (Nat.le_of_eq rfl) (by decide) (by decide) (rm3o l Z a0 hw [] b13 b_25 T25.heap n0 O26 r25_0) rfl (hb hby at_170) ?_
                  intro v27 T27 lc27 X27 N27 hQ27
                  obtain ⟨rfl, e27⟩ := hQ27
                  show Goes _ _ _ _ _ _ (T27.setTop (mkF m 173 #[.val (.int p1), .val (.int p2), .val (.int p3), .val (.int p4), .val (.int p5), .val (.int w2), .val (.int w4), .val (.int w6), .val (.int w8), .val (.ref w10), .val (.ref w12), .val (.ref b13), .val (.ref b17), .val (.int (((p5.toUInt32 >>> ((4 : Int32) &&& 31).toUInt32).toInt32) &&& (3 : Int32))), .unset] [(.int (0 : Int32))]))
                  refine own_ifNo X27 hx (hb hby at_173) ((if0 _ _).trans (teq (by decide : (0 : Int32) = (0 : Int32))).2) ?_
                  show Goes _ _ _ _ _ _ (T27.setTop (mkF m 176 #[.val (.int p1), .val (.int p2), .val (.int p3), .val (.int p4), .val (.int p5), .val (.int w2), .val (.int w4), .val (.int w6), .val (.int w8), .val (.ref w10), .val (.ref w12), .val (.ref b13), .val (.ref b17), .val (.int (((p5.toUInt32 >>> ((4 : Int32) &&& 31).toUInt32).toInt32) &&& (3 : Int32))), .unset] []))
                  refine own_iconst X27 hx (v := (1 : Int32)) (hb hby at_176) rfl ?_
                  show Goes _ _ _ _ _ _ (T27.setTop (mkF m 177 #[.val (.int p1), .val (.int p2), .val (.int p3), .val (.int p4), .val (.int p5), .val (.int w2), .val (.int w4), .val (.int w6), .val (.int w8), .val (.ref w10), .val (.ref w12), .val (.ref b13), .val (.ref b17), .val (.int (((p5.toUInt32 >>> ((4 : Int32) &&& 31).toUInt32).toInt32) &&& (3 : Int32))), .unset] [(.int (1 : Int32))]))
                  refine own_goto X27 hx (pc' := 181) (hb hby at_177) (by decide) (by decide) ?_
                  show Goes _ _ _ _ _ _ (T27.setTop (mkF m 181 #[.val (.int p1), .val (.int p2), .val (.int p3), .val (.int p4), .val (.int p5), .val (.int w2), .val (.int w4), .val (.int w6), .val (.int w8), .val (.ref w10), .val (.ref w12), .val (.ref b13), .val (.ref b17), .val (.int (((p5.toUInt32 >>> ((4 : Int32) &&& 31).toUInt32).toInt32) &&& (3 : Int32))), .unset] [(.int (1 : Int32))]))
                  exact own_retN X27 hx (t := .boolean) N27 hlk (by decide) (by decide) hret (by simp) (hb hby at_181) (by rw [e27]; exact rfl)
                ·
                  refine own_icmpYes X21 hx (pc' := 182) (hb hby at_161) (feq (hc161_24 : ¬ ((((p5.toUInt32 >>> ((4 : Int32) &&& 31).toUInt32).toInt32) &&& (3 : Int32)) = (2 : Int32)))).2 (by decide) (by decide) ?_
                  show Goes _ _ _ _ _ _ (T21.setTop (mkF m 182 #[.val (.int p1), .val (.int p2), .val (.int p3), .val (.int p4), .val (.int p5), .val (.int w2), .val (.int w4), .val (.int w6), .val (.int w8), .val (.ref w10), .val (.ref w12), .val (.ref b13), .val (.ref b17), .val (.int (((p5.toUInt32 >>> ((4 : Int32) &&& 31).toUInt32).toInt32) &&& (3 : Int32))), .unset] []))
                  refine own_iload X21 hx (hb hby at_182) rfl ?_
                  show Goes _ _ _ _ _ _ (T21.setTop (mkF m 184 #[.val (.int p1), .val (.int p2), .val (.int p3), .val (.int p4), .val (.int p5), .val (.int w2), .val (.int w4), .val (.int w6), .val (.int w8), .val (.ref w10), .val (.ref w12), .val (.ref b13), .val (.ref b17), .val (.int (((p5.toUInt32 >>> ((4 : Int32) &&& 31).toUInt32).toInt32) &&& (3 : Int32))), .unset] [(.int (((p5.toUInt32 >>> ((4 : Int32) &&& 31).toUInt32).toInt32) &&& (3 : Int32)))]))
                  refine own_iconst X21 hx (v := (3 : Int32)) (hb hby at_184) rfl ?_
                  show Goes _ _ _ _ _ _ (T21.setTop (mkF m 185 #[.val (.int p1), .val (.int p2), .val (.int p3), .val (.int p4), .val (.int p5), .val (.int w2), .val (.int w4), .val (.int w6), .val (.int w8), .val (.ref w10), .val (.ref w12), .val (.ref b13), .val (.ref b17), .val (.int (((p5.toUInt32 >>> ((4 : Int32) &&& 31).toUInt32).toInt32) &&& (3 : Int32))), .unset] [(.int (3 : Int32)), (.int (((p5.toUInt32 >>> ((4 : Int32) &&& 31).toUInt32).toInt32) &&& (3 : Int32)))]))
                  by_cases hc185_28 : (((p5.toUInt32 >>> ((4 : Int32) &&& 31).toUInt32).toInt32) &&& (3 : Int32)) = (3 : Int32)
                  ·
                    refine own_icmpNo X21 hx (hb hby at_185) (teq (hc185_28 : (((p5.toUInt32 >>> ((4 : Int32) &&& 31).toUInt32).toInt32) &&& (3 : Int32)) = (3 : Int32))).2 ?_
                    show Goes _ _ _ _ _ _ (T21.setTop (mkF m 188 #[.val (.int p1), .val (.int p2), .val (.int p3), .val (.int p4), .val (.int p5), .val (.int w2), .val (.int w4), .val (.int w6), .val (.int w8), .val (.ref w10), .val (.ref w12), .val (.ref b13), .val (.ref b17), .val (.int (((p5.toUInt32 >>> ((4 : Int32) &&& 31).toUInt32).toInt32) &&& (3 : Int32))), .unset] []))
                    refine own_new X21 hx hZ hown (hw _ (List.mem_of_getElem? (i := 3) rfl)) (hw _ (List.mem_of_getElem? (i := 4) rfl)) (hw _ (List.mem_of_getElem? (i := 5) rfl)) e21 (hb hby at_188) (by decide) (by decide) (fun T29 h29 b29 g29 X29 e29 E29 A29 D29 => ?_)
                    have ne_b13_b29 : b13 ≠ b29 := Nat.ne_of_lt (Nat.lt_of_lt_of_le E20_b13.lt (Nat.le_of_eq g29.symm))
                    have ge_b29 : n0 ≤ b29 := Nat.le_trans (own_sz O20) (Nat.le_of_eq g29.symm)
                    have E30_b13 := E20_b13.ext E29
                    have F30_maxRetries_b13 := F20_maxRetries_b13.ext E29
                    have F30_backoff_b13 := F20_backoff_b13.ext E29
                    have F30_retryDelaySeconds_b13 := F20_retryDelaySeconds_b13.ext E29
                    have O30 := O20.ext E29
                    have F29_maxRetries_b29 : Fld Z h29 b29 "com/example/lease/lease/model/RetryPolicy" "maxRetries" "I" (.int (0 : Int32)) := D29 (Or.inr (hw _ (List.mem_of_getElem? (i := 13) rfl))) (ty := .int) (by decide)
                    have F29_backoff_b29 : Fld Z h29 b29 "com/example/lease/lease/model/RetryPolicy" "backoff" "Lcom/example/lease/lease/model/RetryBackoff;" .null := D29 (Or.inr (hw _ (List.mem_of_getElem? (i := 15) rfl))) (ty := (.object "com/example/lease/lease/model/RetryBackoff")) (by decide)
                    have F29_retryDelaySeconds_b29 : Fld Z h29 b29 "com/example/lease/lease/model/RetryPolicy" "retryDelaySeconds" "I" (.int (0 : Int32)) := D29 (Or.inr (hw _ (List.mem_of_getElem? (i := 17) rfl))) (ty := .int) (by decide)
                    show Goes _ _ _ _ _ _ (T29.setTop (mkF m 191 #[.val (.int p1), .val (.int p2), .val (.int p3), .val (.int p4), .val (.int p5), .val (.int w2), .val (.int w4), .val (.int w6), .val (.int w8), .val (.ref w10), .val (.ref w12), .val (.ref b13), .val (.ref b17), .val (.int (((p5.toUInt32 >>> ((4 : Int32) &&& 31).toUInt32).toInt32) &&& (3 : Int32))), .unset] [(.ref b29)]))
                    refine own_dup X29 hx (hb hby at_191) rfl ?_
                    show Goes _ _ _ _ _ _ (T29.setTop (mkF m 192 #[.val (.int p1), .val (.int p2), .val (.int p3), .val (.int p4), .val (.int p5), .val (.int w2), .val (.int w4), .val (.int w6), .val (.int w8), .val (.ref w10), .val (.ref w12), .val (.ref b13), .val (.ref b17), .val (.int (((p5.toUInt32 >>> ((4 : Int32) &&& 31).toUInt32).toInt32) &&& (3 : Int32))), .unset] [(.ref b29), (.ref b29)]))
                    refine own_iloadN X29 hx (hb hby at_192) rfl ?_
                    show Goes _ _ _ _ _ _ (T29.setTop (mkF m 193 #[.val (.int p1), .val (.int p2), .val (.int p3), .val (.int p4), .val (.int p5), .val (.int w2), .val (.int w4), .val (.int w6), .val (.int w8), .val (.ref w10), .val (.ref w12), .val (.ref b13), .val (.ref b17), .val (.int (((p5.toUInt32 >>> ((4 : Int32) &&& 31).toUInt32).toInt32) &&& (3 : Int32))), .unset] [(.int p1), (.ref b29), (.ref b29)]))
                    refine own_aload X29 hx (hb hby at_193) rfl rfl ?_
                    show Goes _ _ _ _ _ _ (T29.setTop (mkF m 195 #[.val (.int p1), .val (.int p2), .val (.int p3), .val (.int p4), .val (.int p5), .val (.int w2), .val (.int w4), .val (.int w6), .val (.int w8), .val (.ref w10), .val (.ref w12), .val (.ref b13), .val (.ref b17), .val (.int (((p5.toUInt32 >>> ((4 : Int32) &&& 31).toUInt32).toInt32) &&& (3 : Int32))), .unset] [(.ref w10), (.int p1), (.ref b29), (.ref b29)]))
                    refine own_iloadN X29 hx (hb hby at_195) rfl ?_
                    show Goes _ _ _ _ _ _ (T29.setTop (mkF m 196 #[.val (.int p1), .val (.int p2), .val (.int p3), .val (.int p4), .val (.int p5), .val (.int w2), .val (.int w4), .val (.int w6), .val (.int w8), .val (.ref w10), .val (.ref w12), .val (.ref b13), .val (.ref b17), .val (.int (((p5.toUInt32 >>> ((4 : Int32) &&& 31).toUInt32).toInt32) &&& (3 : Int32))), .unset] [(.int p2), (.ref w10), (.int p1), (.ref b29), (.ref b29)]))
                    refine own_special X29 hx hZ hown (y := (⟨"com/example/lease/lease/model/RetryPolicy", "<init>", "(ILcom/example/lease/lease/model/RetryBackoff;I)V"⟩ : MethodName)) rfl (hw _ (List.mem_of_getElem? (i := 6) rfl)) (hw _ (List.mem_of_getElem? (i := 7) rfl)) (hw _ (List.mem_of_getElem? (i := 5) rfl)) (hw _ (List.mem_of_getElem? (i := 8) rfl)) (a := b29) (by decide) (W := 1) (by decide) (by decide) N21 e29 (by rw [hml]; rfl) (argsL := [(.int p1), (.ref w10), (.int p2)]) (rest := [(.ref b29)]) (lenOf pd_2 rfl) (Nat.le_of_eq rfl) (by decide) (by decide) (rm1 l Z a0 hw [] b29 p1 w10 p2 ((.int (0 : Int32))) (.null) ((.int (0 : Int32))) h29 n0 O30 A29 F29_maxRetries_b29 F29_backoff_b29 F29_retryDelaySeconds_b29 ge_b29) rfl (hb hby at_196) ?_
                    intro v31 T31 lc31 X31 N31 hQ31
                    obtain ⟨rfl, K31, r31_0, r31_1, r31_2, r31_3⟩ := hQ31
                    have E32_b13 := E30_b13.keep K31
                    have F32_maxRetries_b13 := F30_maxRetries_b13.keep K31 (ninS ne_b13_b29 nin0)
                    have F32_backoff_b13 := F30_backoff_b13.keep K31 (ninS ne_b13_b29 nin0)
                    have F32_retryDelaySeconds_b13 := F30_retryDelaySeconds_b13.keep K31 (ninS ne_b13_b29 nin0)
                    have O32 := O30.keep K31 (allS ge_b29 all0)
                    show Goes _ _ _ _ _ _ (T31.setTop (mkF m 199 #[.val (.int p1), .val (.int p2), .val (.int p3), .val (.int p4), .val (.int p5), .val (.int w2), .val (.int w4), .val (.int w6), .val (.int w8), .val (.ref w10), .val (.ref w12), .val (.ref b13), .val (.ref b17), .val (.int (((p5.toUInt32 >>> ((4 : Int32) &&& 31).toUInt32).toInt32) &&& (3 : Int32))), .unset] [(.ref b29)]))
                    refine own_astore X31 hx (Ls' := #[.val (.int p1), .val (.int p2), .val (.int p3), .val (.int p4), .val (.int p5), .val (.int w2), .val (.int w4), .val (.int w6), .val (.int w8), .val (.ref w10), .val (.ref w12), .val (.ref b13), .val (.ref b17), .val (.int (((p5.toUInt32 >>> ((4 : Int32) &&& 31).toUInt32).toInt32) &&& (3 : Int32))), .val (.ref b29)]) (hb hby at_199) rfl rfl ?_
                    show Goes _ _ _ _ _ _ (T31.setTop (mkF m 201 #[.val (.int p1), .val (.int p2), .val (.int p3), .val (.int p4), .val (.int p5), .val (.int w2), .val (.int w4), .val (.int w6), .val (.int w8), .val (.ref w10), .val (.ref w12), .val (.ref b13), .val (.ref b17), .val (.int (((p5.toUInt32 >>> ((4 : Int32) &&& 31).toUInt32).toInt32) &&& (3 : Int32))), .val (.ref b29)] []))
                    refine own_aload X31 hx (hb hby at_201) rfl rfl ?_
                    show Goes _ _ _ _ _ _ (T31.setTop (mkF m 203 #[.val (.int p1), .val (.int p2), .val (.int p3), .val (.int p4), .val (.int p5), .val (.int w2), .val (.int w4), .val (.int w6), .val (.int w8), .val (.ref w10), .val (.ref w12), .val (.ref b13), .val (.ref b17), .val (.int (((p5.toUInt32 >>> ((4 : Int32) &&& 31).toUInt32).toInt32) &&& (3 : Int32))), .val (.ref b29)] [(.ref b13)]))
                    refine own_aload X31 hx (hb hby at_203) rfl rfl ?_
                    show Goes _ _ _ _ _ _ (T31.setTop (mkF m 205 #[.val (.int p1), .val (.int p2), .val (.int p3), .val (.int p4), .val (.int p5), .val (.int w2), .val (.int w4), .val (.int w6), .val (.int w8), .val (.ref w10), .val (.ref w12), .val (.ref b13), .val (.ref b17), .val (.int (((p5.toUInt32 >>> ((4 : Int32) &&& 31).toUInt32).toInt32) &&& (3 : Int32))), .val (.ref b29)] [(.ref b29), (.ref b13)]))
                    refine own_virtual X31 hx hZ hown (y := (⟨"com/example/lease/lease/model/RetryPolicy", "equals", "(Ljava/lang/Object;)Z"⟩ : MethodName)) (z := (⟨"com/example/lease/lease/model/RetryPolicy", "equals", "(Ljava/lang/Object;)Z"⟩ : MethodName)) (hw _ (List.mem_of_getElem? (i := 18) rfl)) (hw _ (List.mem_of_getElem? (i := 19) rfl)) (notFace_of_selects (args := #[]) (mvT hZ (hw _ (List.mem_of_getElem? (i := 21) rfl)))) (hw _ (List.mem_of_getElem? (i := 21) rfl)) (hw _ (List.mem_of_getElem? (i := 20) rfl)) (hw _ (List.mem_of_getElem? (i := 5) rfl)) (hw _ (List.mem_of_getElem? (i := 22) rfl)) (a := b13) E32_b13 (by decide) (W := 0) (by decide) (by decide) N31 rfl (by rw [hml]; rfl) (argsL := [(.ref b29)]) (rest := []) (lenOf pd_3 rfl) (Nat.le_of_eq rfl) (by decide) (by decide) (rm3 l Z a0 hw [] b13 b29 p1 p1 w10 w10 p2 p2 T31.heap n0 O32 r31_0 F32_maxRetries_b13 r31_1 F32_backoff_b13 r31_2 F32_retryDelaySeconds_b13 r31_3) rfl (hb hby at_205) ?_
                    intro v33 T33 lc33 X33 N33 hQ33
                    obtain ⟨rfl, e33⟩ := hQ33
                    show Goes _ _ _ _ _ _ (T33.setTop (mkF m 208 #[.val (.int p1), .val (.int p2), .val (.int p3), .val (.int p4), .val (.int p5), .val (.int w2), .val (.int w4), .val (.int w6), .val (.int w8), .val (.ref w10), .val (.ref w12), .val (.ref b13), .val (.ref b17), .val (.int (((p5.toUInt32 >>> ((4 : Int32) &&& 31).toUInt32).toInt32) &&& (3 : Int32))), .val (.ref b29)] [(.int (if p1 = p1 ∧ w10 = w10 ∧ p2 = p2 then (1 : Int32) else (0 : Int32)))]))
                    refine own_ifNo X33 hx (hb hby at_208) ((if0 _ _).trans (feq ((own_bnz (fun q => q ⟨rfl, rfl, rfl⟩)) : ¬ ((if p1 = p1 ∧ w10 = w10 ∧ p2 = p2 then (1 : Int32) else (0 : Int32)) = (0 : Int32)))).1) ?_
                    show Goes _ _ _ _ _ _ (T33.setTop (mkF m 211 #[.val (.int p1), .val (.int p2), .val (.int p3), .val (.int p4), .val (.int p5), .val (.int w2), .val (.int w4), .val (.int w6), .val (.int w8), .val (.ref w10), .val (.ref w12), .val (.ref b13), .val (.ref b17), .val (.int (((p5.toUInt32 >>> ((4 : Int32) &&& 31).toUInt32).toInt32) &&& (3 : Int32))), .val (.ref b29)] []))
                    refine own_aload X33 hx (hb hby at_211) rfl rfl ?_
                    show Goes _ _ _ _ _ _ (T33.setTop (mkF m 213 #[.val (.int p1), .val (.int p2), .val (.int p3), .val (.int p4), .val (.int p5), .val (.int w2), .val (.int w4), .val (.int w6), .val (.int w8), .val (.ref w10), .val (.ref w12), .val (.ref b13), .val (.ref b17), .val (.int (((p5.toUInt32 >>> ((4 : Int32) &&& 31).toUInt32).toInt32) &&& (3 : Int32))), .val (.ref b29)] [(.ref b29)]))
                    refine own_aload X33 hx (hb hby at_213) rfl rfl ?_
                    show Goes _ _ _ _ _ _ (T33.setTop (mkF m 215 #[.val (.int p1), .val (.int p2), .val (.int p3), .val (.int p4), .val (.int p5), .val (.int w2), .val (.int w4), .val (.int w6), .val (.int w8), .val (.ref w10), .val (.ref w12), .val (.ref b13), .val (.ref b17), .val (.int (((p5.toUInt32 >>> ((4 : Int32) &&& 31).toUInt32).toInt32) &&& (3 : Int32))), .val (.ref b29)] [(.ref b13), (.ref b29)]))
                    refine own_virtual X33 hx hZ hown (y := (⟨"com/example/lease/lease/model/RetryPolicy", "equals", "(Ljava/lang/Object;)Z"⟩ : MethodName)) (z := (⟨"com/example/lease/lease/model/RetryPolicy", "equals", "(Ljava/lang/Object;)Z"⟩ : MethodName)) (hw _ (List.mem_of_getElem? (i := 18) rfl)) (hw _ (List.mem_of_getElem? (i := 19) rfl)) (notFace_of_selects (args := #[]) (mvT hZ (hw _ (List.mem_of_getElem? (i := 21) rfl)))) (hw _ (List.mem_of_getElem? (i := 21) rfl)) (hw _ (List.mem_of_getElem? (i := 20) rfl)) (hw _ (List.mem_of_getElem? (i := 5) rfl)) (hw _ (List.mem_of_getElem? (i := 22) rfl)) (a := b29) r31_0 (by decide) (W := 0) (by decide) (by decide) N33 e33 (by rw [hml]; rfl) (argsL := [(.ref b13)]) (rest := []) (lenOf pd_3 rfl) (Nat.le_of_eq rfl) (by decide) (by decide) (rm3 l Z a0 hw [] b29 b13 p1 p1 w10 w10 p2 p2 T31.heap n0 O32 E32_b13 r31_1 F32_maxRetries_b13 r31_2 F32_backoff_b13 r31_3 F32_retryDelaySeconds_b13) rfl (hb hby at_215) ?_
                    intro v34 T34 lc34 X34 N34 hQ34
                    obtain ⟨rfl, e34⟩ := hQ34
                    show Goes _ _ _ _ _ _ (T34.setTop (mkF m 218 #[.val (.int p1), .val (.int p2), .val (.int p3), .val (.int p4), .val (.int p5), .val (.int w2), .val (.int w4), .val (.int w6), .val (.int w8), .val (.ref w10), .val (.ref w12), .val (.ref b13), .val (.ref b17), .val (.int (((p5.toUInt32 >>> ((4 : Int32) &&& 31).toUInt32).toInt32) &&& (3 : Int32))), .val (.ref b29)] [(.int (if p1 = p1 ∧ w10 = w10 ∧ p2 = p2 then (1 : Int32) else (0 : Int32)))]))
                    refine own_ifNo X34 hx (hb hby at_218) ((if0 _ _).trans (feq ((own_bnz (fun q => q ⟨rfl, rfl, rfl⟩)) : ¬ ((if p1 = p1 ∧ w10 = w10 ∧ p2 = p2 then (1 : Int32) else (0 : Int32)) = (0 : Int32)))).1) ?_
                    show Goes _ _ _ _ _ _ (T34.setTop (mkF m 221 #[.val (.int p1), .val (.int p2), .val (.int p3), .val (.int p4), .val (.int p5), .val (.int w2), .val (.int w4), .val (.int w6), .val (.int w8), .val (.ref w10), .val (.ref w12), .val (.ref b13), .val (.ref b17), .val (.int (((p5.toUInt32 >>> ((4 : Int32) &&& 31).toUInt32).toInt32) &&& (3 : Int32))), .val (.ref b29)] []))
                    refine own_iconst X34 hx (v := (1 : Int32)) (hb hby at_221) rfl ?_
                    show Goes _ _ _ _ _ _ (T34.setTop (mkF m 222 #[.val (.int p1), .val (.int p2), .val (.int p3), .val (.int p4), .val (.int p5), .val (.int w2), .val (.int w4), .val (.int w6), .val (.int w8), .val (.ref w10), .val (.ref w12), .val (.ref b13), .val (.ref b17), .val (.int (((p5.toUInt32 >>> ((4 : Int32) &&& 31).toUInt32).toInt32) &&& (3 : Int32))), .val (.ref b29)] [(.int (1 : Int32))]))
                    refine own_goto X34 hx (pc' := 226) (hb hby at_222) (by decide) (by decide) ?_
                    show Goes _ _ _ _ _ _ (T34.setTop (mkF m 226 #[.val (.int p1), .val (.int p2), .val (.int p3), .val (.int p4), .val (.int p5), .val (.int w2), .val (.int w4), .val (.int w6), .val (.int w8), .val (.ref w10), .val (.ref w12), .val (.ref b13), .val (.ref b17), .val (.int (((p5.toUInt32 >>> ((4 : Int32) &&& 31).toUInt32).toInt32) &&& (3 : Int32))), .val (.ref b29)] [(.int (1 : Int32))]))
                    exact own_retN X34 hx (t := .boolean) N34 hlk (by decide) (by decide) hret (by simp) (hb hby at_226) (by rw [e34]; exact rfl)
                  ·
                    refine own_icmpYes X21 hx (pc' := 227) (hb hby at_185) (feq (hc185_28 : ¬ ((((p5.toUInt32 >>> ((4 : Int32) &&& 31).toUInt32).toInt32) &&& (3 : Int32)) = (3 : Int32)))).2 (by decide) (by decide) ?_
                    show Goes _ _ _ _ _ _ (T21.setTop (mkF m 227 #[.val (.int p1), .val (.int p2), .val (.int p3), .val (.int p4), .val (.int p5), .val (.int w2), .val (.int w4), .val (.int w6), .val (.int w8), .val (.ref w10), .val (.ref w12), .val (.ref b13), .val (.ref b17), .val (.int (((p5.toUInt32 >>> ((4 : Int32) &&& 31).toUInt32).toInt32) &&& (3 : Int32))), .unset] []))
                    refine own_iloadN X21 hx (hb hby at_227) rfl ?_
                    show Goes _ _ _ _ _ _ (T21.setTop (mkF m 228 #[.val (.int p1), .val (.int p2), .val (.int p3), .val (.int p4), .val (.int p5), .val (.int w2), .val (.int w4), .val (.int w6), .val (.int w8), .val (.ref w10), .val (.ref w12), .val (.ref b13), .val (.ref b17), .val (.int (((p5.toUInt32 >>> ((4 : Int32) &&& 31).toUInt32).toInt32) &&& (3 : Int32))), .unset] [(.int p1)]))
                    refine own_iload X21 hx (hb hby at_228) rfl ?_
                    show Goes _ _ _ _ _ _ (T21.setTop (mkF m 230 #[.val (.int p1), .val (.int p2), .val (.int p3), .val (.int p4), .val (.int p5), .val (.int w2), .val (.int w4), .val (.int w6), .val (.int w8), .val (.ref w10), .val (.ref w12), .val (.ref b13), .val (.ref b17), .val (.int (((p5.toUInt32 >>> ((4 : Int32) &&& 31).toUInt32).toInt32) &&& (3 : Int32))), .unset] [(.int w6), (.int p1)]))
                    by_cases hc230_35 : p1 = w6
                    ·
                      refine own_icmpNo X21 hx (hb hby at_230) (teq (hc230_35 : p1 = w6)).2 ?_
                      show Goes _ _ _ _ _ _ (T21.setTop (mkF m 233 #[.val (.int p1), .val (.int p2), .val (.int p3), .val (.int p4), .val (.int p5), .val (.int w2), .val (.int w4), .val (.int w6), .val (.int w8), .val (.ref w10), .val (.ref w12), .val (.ref b13), .val (.ref b17), .val (.int (((p5.toUInt32 >>> ((4 : Int32) &&& 31).toUInt32).toInt32) &&& (3 : Int32))), .unset] []))
                      refine own_aload X21 hx (hb hby at_233) rfl rfl ?_
                      show Goes _ _ _ _ _ _ (T21.setTop (mkF m 235 #[.val (.int p1), .val (.int p2), .val (.int p3), .val (.int p4), .val (.int p5), .val (.int w2), .val (.int w4), .val (.int w6), .val (.int w8), .val (.ref w10), .val (.ref w12), .val (.ref b13), .val (.ref b17), .val (.int (((p5.toUInt32 >>> ((4 : Int32) &&& 31).toUInt32).toInt32) &&& (3 : Int32))), .unset] [(.ref w10)]))
                      refine own_aload X21 hx (hb hby at_235) rfl rfl ?_
                      show Goes _ _ _ _ _ _ (T21.setTop (mkF m 237 #[.val (.int p1), .val (.int p2), .val (.int p3), .val (.int p4), .val (.int p5), .val (.int w2), .val (.int w4), .val (.int w6), .val (.int w8), .val (.ref w10), .val (.ref w12), .val (.ref b13), .val (.ref b17), .val (.int (((p5.toUInt32 >>> ((4 : Int32) &&& 31).toUInt32).toInt32) &&& (3 : Int32))), .unset] [(.ref w12), (.ref w10)]))
                      by_cases hc237_36 : w10 = w12
                      ·
                        refine own_acmp X21 hx rfl rfl (same := true) (pc' := 240) (hb hby at_237) (decide_eq_true (congrArg Value.ref hc237_36)) (by decide) (by decide) ?_
                        show Goes _ _ _ _ _ _ (T21.setTop (mkF m 240 #[.val (.int p1), .val (.int p2), .val (.int p3), .val (.int p4), .val (.int p5), .val (.int w2), .val (.int w4), .val (.int w6), .val (.int w8), .val (.ref w10), .val (.ref w12), .val (.ref b13), .val (.ref b17), .val (.int (((p5.toUInt32 >>> ((4 : Int32) &&& 31).toUInt32).toInt32) &&& (3 : Int32))), .unset] []))
                        refine own_iloadN X21 hx (hb hby at_240) rfl ?_
                        show Goes _ _ _ _ _ _ (T21.setTop (mkF m 241 #[.val (.int p1), .val (.int p2), .val (.int p3), .val (.int p4), .val (.int p5), .val (.int w2), .val (.int w4), .val (.int w6), .val (.int w8), .val (.ref w10), .val (.ref w12), .val (.ref b13), .val (.ref b17), .val (.int (((p5.toUInt32 >>> ((4 : Int32) &&& 31).toUInt32).toInt32) &&& (3 : Int32))), .unset] [(.int p2)]))
                        refine own_iload X21 hx (hb hby at_241) rfl ?_
                        show Goes _ _ _ _ _ _ (T21.setTop (mkF m 243 #[.val (.int p1), .val (.int p2), .val (.int p3), .val (.int p4), .val (.int p5), .val (.int w2), .val (.int w4), .val (.int w6), .val (.int w8), .val (.ref w10), .val (.ref w12), .val (.ref b13), .val (.ref b17), .val (.int (((p5.toUInt32 >>> ((4 : Int32) &&& 31).toUInt32).toInt32) &&& (3 : Int32))), .unset] [(.int w8), (.int p2)]))
                        by_cases hc243_37 : p2 = w8
                        ·
                          refine own_icmpNo X21 hx (hb hby at_243) (teq (hc243_37 : p2 = w8)).2 ?_
                          show Goes _ _ _ _ _ _ (T21.setTop (mkF m 246 #[.val (.int p1), .val (.int p2), .val (.int p3), .val (.int p4), .val (.int p5), .val (.int w2), .val (.int w4), .val (.int w6), .val (.int w8), .val (.ref w10), .val (.ref w12), .val (.ref b13), .val (.ref b17), .val (.int (((p5.toUInt32 >>> ((4 : Int32) &&& 31).toUInt32).toInt32) &&& (3 : Int32))), .unset] []))
                          refine own_iconst X21 hx (v := (1 : Int32)) (hb hby at_246) rfl ?_
                          show Goes _ _ _ _ _ _ (T21.setTop (mkF m 247 #[.val (.int p1), .val (.int p2), .val (.int p3), .val (.int p4), .val (.int p5), .val (.int w2), .val (.int w4), .val (.int w6), .val (.int w8), .val (.ref w10), .val (.ref w12), .val (.ref b13), .val (.ref b17), .val (.int (((p5.toUInt32 >>> ((4 : Int32) &&& 31).toUInt32).toInt32) &&& (3 : Int32))), .unset] [(.int (1 : Int32))]))
                          refine own_goto X21 hx (pc' := 251) (hb hby at_247) (by decide) (by decide) ?_
                          show Goes _ _ _ _ _ _ (T21.setTop (mkF m 251 #[.val (.int p1), .val (.int p2), .val (.int p3), .val (.int p4), .val (.int p5), .val (.int w2), .val (.int w4), .val (.int w6), .val (.int w8), .val (.ref w10), .val (.ref w12), .val (.ref b13), .val (.ref b17), .val (.int (((p5.toUInt32 >>> ((4 : Int32) &&& 31).toUInt32).toInt32) &&& (3 : Int32))), .unset] [(.int (1 : Int32))]))
                          refine own_istore X21 hx (Ls' := #[.val (.int p1), .val (.int p2), .val (.int p3), .val (.int p4), .val (.int p5), .val (.int w2), .val (.int w4), .val (.int w6), .val (.int w8), .val (.ref w10), .val (.ref w12), .val (.ref b13), .val (.ref b17), .val (.int (((p5.toUInt32 >>> ((4 : Int32) &&& 31).toUInt32).toInt32) &&& (3 : Int32))), .val (.int (1 : Int32))]) (hb hby at_251) rfl ?_
                          show Goes _ _ _ _ _ _ (T21.setTop (mkF m 253 #[.val (.int p1), .val (.int p2), .val (.int p3), .val (.int p4), .val (.int p5), .val (.int w2), .val (.int w4), .val (.int w6), .val (.int w8), .val (.ref w10), .val (.ref w12), .val (.ref b13), .val (.ref b17), .val (.int (((p5.toUInt32 >>> ((4 : Int32) &&& 31).toUInt32).toInt32) &&& (3 : Int32))), .val (.int (1 : Int32))] []))
                          refine own_aload X21 hx (hb hby at_253) rfl rfl ?_
                          show Goes _ _ _ _ _ _ (T21.setTop (mkF m 255 #[.val (.int p1), .val (.int p2), .val (.int p3), .val (.int p4), .val (.int p5), .val (.int w2), .val (.int w4), .val (.int w6), .val (.int w8), .val (.ref w10), .val (.ref w12), .val (.ref b13), .val (.ref b17), .val (.int (((p5.toUInt32 >>> ((4 : Int32) &&& 31).toUInt32).toInt32) &&& (3 : Int32))), .val (.int (1 : Int32))] [(.ref b13)]))
                          refine own_aload X21 hx (hb hby at_255) rfl rfl ?_
                          show Goes _ _ _ _ _ _ (T21.setTop (mkF m 257 #[.val (.int p1), .val (.int p2), .val (.int p3), .val (.int p4), .val (.int p5), .val (.int w2), .val (.int w4), .val (.int w6), .val (.int w8), .val (.ref w10), .val (.ref w12), .val (.ref b13), .val (.ref b17), .val (.int (((p5.toUInt32 >>> ((4 : Int32) &&& 31).toUInt32).toInt32) &&& (3 : Int32))), .val (.int (1 : Int32))] [(.ref b17), (.ref b13)]))
                          refine own_virtual X21 hx hZ hown (y := (⟨"com/example/lease/lease/model/RetryPolicy", "equals", "(Ljava/lang/Object;)Z"⟩ : MethodName)) (z := (⟨"com/example/lease/lease/model/RetryPolicy", "equals", "(Ljava/lang/Object;)Z"⟩ : MethodName)) (hw _ (List.mem_of_getElem? (i := 18) rfl)) (hw _ (List.mem_of_getElem? (i := 19) rfl)) (notFace_of_selects (args := #[]) (mvT hZ (hw _ (List.mem_of_getElem? (i := 21) rfl)))) (hw _ (List.mem_of_getElem? (i := 21) rfl)) (hw _ (List.mem_of_getElem? (i := 20) rfl)) (hw _ (List.mem_of_getElem? (i := 5) rfl)) (hw _ (List.mem_of_getElem? (i := 22) rfl)) (a := b13) E20_b13 (by decide) (W := 0) (by decide) (by decide) N21 e21 (by rw [hml]; rfl) (argsL := [(.ref b17)]) (rest := []) (lenOf pd_3 rfl) (Nat.le_of_eq rfl) (by decide) (by decide) (rm3 l Z a0 hw [] b13 b17 p1 w6 w10 w12 p2 w8 T19.heap n0 O20 r19_0 F20_maxRetries_b13 r19_1 F20_backoff_b13 r19_2 F20_retryDelaySeconds_b13 r19_3) rfl (hb hby at_257) ?_
                          intro v38 T38 lc38 X38 N38 hQ38
                          obtain ⟨rfl, e38⟩ := hQ38
                          show Goes _ _ _ _ _ _ (T38.setTop (mkF m 260 #[.val (.int p1), .val (.int p2), .val (.int p3), .val (.int p4), .val (.int p5), .val (.int w2), .val (.int w4), .val (.int w6), .val (.int w8), .val (.ref w10), .val (.ref w12), .val (.ref b13), .val (.ref b17), .val (.int (((p5.toUInt32 >>> ((4 : Int32) &&& 31).toUInt32).toInt32) &&& (3 : Int32))), .val (.int (1 : Int32))] [(.int (if p1 = w6 ∧ w10 = w12 ∧ p2 = w8 then (1 : Int32) else (0 : Int32)))]))
                          refine own_iload X38 hx (hb hby at_260) rfl ?_
                          show Goes _ _ _ _ _ _ (T38.setTop (mkF m 262 #[.val (.int p1), .val (.int p2), .val (.int p3), .val (.int p4), .val (.int p5), .val (.int w2), .val (.int w4), .val (.int w6), .val (.int w8), .val (.ref w10), .val (.ref w12), .val (.ref b13), .val (.ref b17), .val (.int (((p5.toUInt32 >>> ((4 : Int32) &&& 31).toUInt32).toInt32) &&& (3 : Int32))), .val (.int (1 : Int32))] [(.int (1 : Int32)), (.int (if p1 = w6 ∧ w10 = w12 ∧ p2 = w8 then (1 : Int32) else (0 : Int32)))]))
                          refine own_icmpNo X38 hx (hb hby at_262) (teq ((if_pos ⟨hc230_35, hc237_36, hc243_37⟩) : (if p1 = w6 ∧ w10 = w12 ∧ p2 = w8 then (1 : Int32) else (0 : Int32)) = (1 : Int32))).2 ?_
                          show Goes _ _ _ _ _ _ (T38.setTop (mkF m 265 #[.val (.int p1), .val (.int p2), .val (.int p3), .val (.int p4), .val (.int p5), .val (.int w2), .val (.int w4), .val (.int w6), .val (.int w8), .val (.ref w10), .val (.ref w12), .val (.ref b13), .val (.ref b17), .val (.int (((p5.toUInt32 >>> ((4 : Int32) &&& 31).toUInt32).toInt32) &&& (3 : Int32))), .val (.int (1 : Int32))] []))
                          refine own_aload X38 hx (hb hby at_265) rfl rfl ?_
                          show Goes _ _ _ _ _ _ (T38.setTop (mkF m 267 #[.val (.int p1), .val (.int p2), .val (.int p3), .val (.int p4), .val (.int p5), .val (.int w2), .val (.int w4), .val (.int w6), .val (.int w8), .val (.ref w10), .val (.ref w12), .val (.ref b13), .val (.ref b17), .val (.int (((p5.toUInt32 >>> ((4 : Int32) &&& 31).toUInt32).toInt32) &&& (3 : Int32))), .val (.int (1 : Int32))] [(.ref b17)]))
                          refine own_aload X38 hx (hb hby at_267) rfl rfl ?_
                          show Goes _ _ _ _ _ _ (T38.setTop (mkF m 269 #[.val (.int p1), .val (.int p2), .val (.int p3), .val (.int p4), .val (.int p5), .val (.int w2), .val (.int w4), .val (.int w6), .val (.int w8), .val (.ref w10), .val (.ref w12), .val (.ref b13), .val (.ref b17), .val (.int (((p5.toUInt32 >>> ((4 : Int32) &&& 31).toUInt32).toInt32) &&& (3 : Int32))), .val (.int (1 : Int32))] [(.ref b13), (.ref b17)]))
                          refine own_virtual X38 hx hZ hown (y := (⟨"com/example/lease/lease/model/RetryPolicy", "equals", "(Ljava/lang/Object;)Z"⟩ : MethodName)) (z := (⟨"com/example/lease/lease/model/RetryPolicy", "equals", "(Ljava/lang/Object;)Z"⟩ : MethodName)) (hw _ (List.mem_of_getElem? (i := 18) rfl)) (hw _ (List.mem_of_getElem? (i := 19) rfl)) (notFace_of_selects (args := #[]) (mvT hZ (hw _ (List.mem_of_getElem? (i := 21) rfl)))) (hw _ (List.mem_of_getElem? (i := 21) rfl)) (hw _ (List.mem_of_getElem? (i := 20) rfl)) (hw _ (List.mem_of_getElem? (i := 5) rfl)) (hw _ (List.mem_of_getElem? (i := 22) rfl)) (a := b17) r19_0 (by decide) (W := 0) (by decide) (by decide) N38 e38 (by rw [hml]; rfl) (argsL := [(.ref b13)]) (rest := []) (lenOf pd_3 rfl) (Nat.le_of_eq rfl) (by decide) (by decide) (rm3 l Z a0 hw [] b17 b13 w6 p1 w12 w10 w8 p2 T19.heap n0 O20 E20_b13 r19_1 F20_maxRetries_b13 r19_2 F20_backoff_b13 r19_3 F20_retryDelaySeconds_b13) rfl (hb hby at_269) ?_
                          intro v39 T39 lc39 X39 N39 hQ39
                          obtain ⟨rfl, e39⟩ := hQ39
                          show Goes _ _ _ _ _ _ (T39.setTop (mkF m 272 #[.val (.int p1), .val (.int p2), .val (.int p3), .val (.int p4), .val (.int p5), .val (.int w2), .val (.int w4), .val (.int w6), .val (.int w8), .val (.ref w10), .val (.ref w12), .val (.ref b13), .val (.ref b17), .val (.int (((p5.toUInt32 >>> ((4 : Int32) &&& 31).toUInt32).toInt32) &&& (3 : Int32))), .val (.int (1 : Int32))] [(.int (if w6 = p1 ∧ w12 = w10 ∧ w8 = p2 then (1 : Int32) else (0 : Int32)))]))
                          refine own_iload X39 hx (hb hby at_272) rfl ?_
                          show Goes _ _ _ _ _ _ (T39.setTop (mkF m 274 #[.val (.int p1), .val (.int p2), .val (.int p3), .val (.int p4), .val (.int p5), .val (.int w2), .val (.int w4), .val (.int w6), .val (.int w8), .val (.ref w10), .val (.ref w12), .val (.ref b13), .val (.ref b17), .val (.int (((p5.toUInt32 >>> ((4 : Int32) &&& 31).toUInt32).toInt32) &&& (3 : Int32))), .val (.int (1 : Int32))] [(.int (1 : Int32)), (.int (if w6 = p1 ∧ w12 = w10 ∧ w8 = p2 then (1 : Int32) else (0 : Int32)))]))
                          refine own_icmpNo X39 hx (hb hby at_274) (teq ((if_pos ⟨hc230_35.symm, hc237_36.symm, hc243_37.symm⟩) : (if w6 = p1 ∧ w12 = w10 ∧ w8 = p2 then (1 : Int32) else (0 : Int32)) = (1 : Int32))).2 ?_
                          show Goes _ _ _ _ _ _ (T39.setTop (mkF m 277 #[.val (.int p1), .val (.int p2), .val (.int p3), .val (.int p4), .val (.int p5), .val (.int w2), .val (.int w4), .val (.int w6), .val (.int w8), .val (.ref w10), .val (.ref w12), .val (.ref b13), .val (.ref b17), .val (.int (((p5.toUInt32 >>> ((4 : Int32) &&& 31).toUInt32).toInt32) &&& (3 : Int32))), .val (.int (1 : Int32))] []))
                          refine own_iconst X39 hx (v := (1 : Int32)) (hb hby at_277) rfl ?_
                          show Goes _ _ _ _ _ _ (T39.setTop (mkF m 278 #[.val (.int p1), .val (.int p2), .val (.int p3), .val (.int p4), .val (.int p5), .val (.int w2), .val (.int w4), .val (.int w6), .val (.int w8), .val (.ref w10), .val (.ref w12), .val (.ref b13), .val (.ref b17), .val (.int (((p5.toUInt32 >>> ((4 : Int32) &&& 31).toUInt32).toInt32) &&& (3 : Int32))), .val (.int (1 : Int32))] [(.int (1 : Int32))]))
                          refine own_goto X39 hx (pc' := 282) (hb hby at_278) (by decide) (by decide) ?_
                          show Goes _ _ _ _ _ _ (T39.setTop (mkF m 282 #[.val (.int p1), .val (.int p2), .val (.int p3), .val (.int p4), .val (.int p5), .val (.int w2), .val (.int w4), .val (.int w6), .val (.int w8), .val (.ref w10), .val (.ref w12), .val (.ref b13), .val (.ref b17), .val (.int (((p5.toUInt32 >>> ((4 : Int32) &&& 31).toUInt32).toInt32) &&& (3 : Int32))), .val (.int (1 : Int32))] [(.int (1 : Int32))]))
                          exact own_retN X39 hx (t := .boolean) N39 hlk (by decide) (by decide) hret (by simp) (hb hby at_282) (by rw [e39]; exact rfl)
                        ·
                          refine own_icmpYes X21 hx (pc' := 250) (hb hby at_243) (feq (hc243_37 : ¬ (p2 = w8))).2 (by decide) (by decide) ?_
                          show Goes _ _ _ _ _ _ (T21.setTop (mkF m 250 #[.val (.int p1), .val (.int p2), .val (.int p3), .val (.int p4), .val (.int p5), .val (.int w2), .val (.int w4), .val (.int w6), .val (.int w8), .val (.ref w10), .val (.ref w12), .val (.ref b13), .val (.ref b17), .val (.int (((p5.toUInt32 >>> ((4 : Int32) &&& 31).toUInt32).toInt32) &&& (3 : Int32))), .unset] []))
                          refine own_iconst X21 hx (v := (0 : Int32)) (hb hby at_250) rfl ?_
                          show Goes _ _ _ _ _ _ (T21.setTop (mkF m 251 #[.val (.int p1), .val (.int p2), .val (.int p3), .val (.int p4), .val (.int p5), .val (.int w2), .val (.int w4), .val (.int w6), .val (.int w8), .val (.ref w10), .val (.ref w12), .val (.ref b13), .val (.ref b17), .val (.int (((p5.toUInt32 >>> ((4 : Int32) &&& 31).toUInt32).toInt32) &&& (3 : Int32))), .unset] [(.int (0 : Int32))]))
                          refine own_istore X21 hx (Ls' := #[.val (.int p1), .val (.int p2), .val (.int p3), .val (.int p4), .val (.int p5), .val (.int w2), .val (.int w4), .val (.int w6), .val (.int w8), .val (.ref w10), .val (.ref w12), .val (.ref b13), .val (.ref b17), .val (.int (((p5.toUInt32 >>> ((4 : Int32) &&& 31).toUInt32).toInt32) &&& (3 : Int32))), .val (.int (0 : Int32))]) (hb hby at_251) rfl ?_
                          show Goes _ _ _ _ _ _ (T21.setTop (mkF m 253 #[.val (.int p1), .val (.int p2), .val (.int p3), .val (.int p4), .val (.int p5), .val (.int w2), .val (.int w4), .val (.int w6), .val (.int w8), .val (.ref w10), .val (.ref w12), .val (.ref b13), .val (.ref b17), .val (.int (((p5.toUInt32 >>> ((4 : Int32) &&& 31).toUInt32).toInt32) &&& (3 : Int32))), .val (.int (0 : Int32))] []))
                          refine own_aload X21 hx (hb hby at_253) rfl rfl ?_
                          show Goes _ _ _ _ _ _ (T21.setTop (mkF m 255 #[.val (.int p1), .val (.int p2), .val (.int p3), .val (.int p4), .val (.int p5), .val (.int w2), .val (.int w4), .val (.int w6), .val (.int w8), .val (.ref w10), .val (.ref w12), .val (.ref b13), .val (.ref b17), .val (.int (((p5.toUInt32 >>> ((4 : Int32) &&& 31).toUInt32).toInt32) &&& (3 : Int32))), .val (.int (0 : Int32))] [(.ref b13)]))
                          refine own_aload X21 hx (hb hby at_255) rfl rfl ?_
                          show Goes _ _ _ _ _ _ (T21.setTop (mkF m 257 #[.val (.int p1), .val (.int p2), .val (.int p3), .val (.int p4), .val (.int p5), .val (.int w2), .val (.int w4), .val (.int w6), .val (.int w8), .val (.ref w10), .val (.ref w12), .val (.ref b13), .val (.ref b17), .val (.int (((p5.toUInt32 >>> ((4 : Int32) &&& 31).toUInt32).toInt32) &&& (3 : Int32))), .val (.int (0 : Int32))] [(.ref b17), (.ref b13)]))
                          refine own_virtual X21 hx hZ hown (y := (⟨"com/example/lease/lease/model/RetryPolicy", "equals", "(Ljava/lang/Object;)Z"⟩ : MethodName)) (z := (⟨"com/example/lease/lease/model/RetryPolicy", "equals", "(Ljava/lang/Object;)Z"⟩ : MethodName)) (hw _ (List.mem_of_getElem? (i := 18) rfl)) (hw _ (List.mem_of_getElem? (i := 19) rfl)) (notFace_of_selects (args := #[]) (mvT hZ (hw _ (List.mem_of_getElem? (i := 21) rfl)))) (hw _ (List.mem_of_getElem? (i := 21) rfl)) (hw _ (List.mem_of_getElem? (i := 20) rfl)) (hw _ (List.mem_of_getElem? (i := 5) rfl)) (hw _ (List.mem_of_getElem? (i := 22) rfl)) (a := b13) E20_b13 (by decide) (W := 0) (by decide) (by decide) N21 e21 (by rw [hml]; rfl) (argsL := [(.ref b17)]) (rest := []) (lenOf pd_3 rfl) (Nat.le_of_eq rfl) (by decide) (by decide) (rm3 l Z a0 hw [] b13 b17 p1 w6 w10 w12 p2 w8 T19.heap n0 O20 r19_0 F20_maxRetries_b13 r19_1 F20_backoff_b13 r19_2 F20_retryDelaySeconds_b13 r19_3) rfl (hb hby at_257) ?_
                          intro v40 T40 lc40 X40 N40 hQ40
                          obtain ⟨rfl, e40⟩ := hQ40
                          show Goes _ _ _ _ _ _ (T40.setTop (mkF m 260 #[.val (.int p1), .val (.int p2), .val (.int p3), .val (.int p4), .val (.int p5), .val (.int w2), .val (.int w4), .val (.int w6), .val (.int w8), .val (.ref w10), .val (.ref w12), .val (.ref b13), .val (.ref b17), .val (.int (((p5.toUInt32 >>> ((4 : Int32) &&& 31).toUInt32).toInt32) &&& (3 : Int32))), .val (.int (0 : Int32))] [(.int (if p1 = w6 ∧ w10 = w12 ∧ p2 = w8 then (1 : Int32) else (0 : Int32)))]))
                          refine own_iload X40 hx (hb hby at_260) rfl ?_
                          show Goes _ _ _ _ _ _ (T40.setTop (mkF m 262 #[.val (.int p1), .val (.int p2), .val (.int p3), .val (.int p4), .val (.int p5), .val (.int w2), .val (.int w4), .val (.int w6), .val (.int w8), .val (.ref w10), .val (.ref w12), .val (.ref b13), .val (.ref b17), .val (.int (((p5.toUInt32 >>> ((4 : Int32) &&& 31).toUInt32).toInt32) &&& (3 : Int32))), .val (.int (0 : Int32))] [(.int (0 : Int32)), (.int (if p1 = w6 ∧ w10 = w12 ∧ p2 = w8 then (1 : Int32) else (0 : Int32)))]))
                          refine own_icmpNo X40 hx (hb hby at_262) (teq ((if_neg (fun q => hc243_37 q.2.2)) : (if p1 = w6 ∧ w10 = w12 ∧ p2 = w8 then (1 : Int32) else (0 : Int32)) = (0 : Int32))).2 ?_
                          show Goes _ _ _ _ _ _ (T40.setTop (mkF m 265 #[.val (.int p1), .val (.int p2), .val (.int p3), .val (.int p4), .val (.int p5), .val (.int w2), .val (.int w4), .val (.int w6), .val (.int w8), .val (.ref w10), .val (.ref w12), .val (.ref b13), .val (.ref b17), .val (.int (((p5.toUInt32 >>> ((4 : Int32) &&& 31).toUInt32).toInt32) &&& (3 : Int32))), .val (.int (0 : Int32))] []))
                          refine own_aload X40 hx (hb hby at_265) rfl rfl ?_
                          show Goes _ _ _ _ _ _ (T40.setTop (mkF m 267 #[.val (.int p1), .val (.int p2), .val (.int p3), .val (.int p4), .val (.int p5), .val (.int w2), .val (.int w4), .val (.int w6), .val (.int w8), .val (.ref w10), .val (.ref w12), .val (.ref b13), .val (.ref b17), .val (.int (((p5.toUInt32 >>> ((4 : Int32) &&& 31).toUInt32).toInt32) &&& (3 : Int32))), .val (.int (0 : Int32))] [(.ref b17)]))
                          refine own_aload X40 hx (hb hby at_267) rfl rfl ?_
                          show Goes _ _ _ _ _ _ (T40.setTop (mkF m 269 #[.val (.int p1), .val (.int p2), .val (.int p3), .val (.int p4), .val (.int p5), .val (.int w2), .val (.int w4), .val (.int w6), .val (.int w8), .val (.ref w10), .val (.ref w12), .val (.ref b13), .val (.ref b17), .val (.int (((p5.toUInt32 >>> ((4 : Int32) &&& 31).toUInt32).toInt32) &&& (3 : Int32))), .val (.int (0 : Int32))] [(.ref b13), (.ref b17)]))
                          refine own_virtual X40 hx hZ hown (y := (⟨"com/example/lease/lease/model/RetryPolicy", "equals", "(Ljava/lang/Object;)Z"⟩ : MethodName)) (z := (⟨"com/example/lease/lease/model/RetryPolicy", "equals", "(Ljava/lang/Object;)Z"⟩ : MethodName)) (hw _ (List.mem_of_getElem? (i := 18) rfl)) (hw _ (List.mem_of_getElem? (i := 19) rfl)) (notFace_of_selects (args := #[]) (mvT hZ (hw _ (List.mem_of_getElem? (i := 21) rfl)))) (hw _ (List.mem_of_getElem? (i := 21) rfl)) (hw _ (List.mem_of_getElem? (i := 20) rfl)) (hw _ (List.mem_of_getElem? (i := 5) rfl)) (hw _ (List.mem_of_getElem? (i := 22) rfl)) (a := b17) r19_0 (by decide) (W := 0) (by decide) (by decide) N40 e40 (by rw [hml]; rfl) (argsL := [(.ref b13)]) (rest := []) (lenOf pd_3 rfl) (Nat.le_of_eq rfl) (by decide) (by decide) (rm3 l Z a0 hw [] b17 b13 w6 p1 w12 w10 w8 p2 T19.heap n0 O20 E20_b13 r19_1 F20_maxRetries_b13 r19_2 F20_backoff_b13 r19_3 F20_retryDelaySeconds_b13) rfl (hb hby at_269) ?_
                          intro v41 T41 lc41 X41 N41 hQ41
                          obtain ⟨rfl, e41⟩ := hQ41
                          show Goes _ _ _ _ _ _ (T41.setTop (mkF m 272 #[.val (.int p1), .val (.int p2), .val (.int p3), .val (.int p4), .val (.int p5), .val (.int w2), .val (.int w4), .val (.int w6), .val (.int w8), .val (.ref w10), .val (.ref w12), .val (.ref b13), .val (.ref b17), .val (.int (((p5.toUInt32 >>> ((4 : Int32) &&& 31).toUInt32).toInt32) &&& (3 : Int32))), .val (.int (0 : Int32))] [(.int (if w6 = p1 ∧ w12 = w10 ∧ w8 = p2 then (1 : Int32) else (0 : Int32)))]))
                          refine own_iload X41 hx (hb hby at_272) rfl ?_
                          show Goes _ _ _ _ _ _ (T41.setTop (mkF m 274 #[.val (.int p1), .val (.int p2), .val (.int p3), .val (.int p4), .val (.int p5), .val (.int w2), .val (.int w4), .val (.int w6), .val (.int w8), .val (.ref w10), .val (.ref w12), .val (.ref b13), .val (.ref b17), .val (.int (((p5.toUInt32 >>> ((4 : Int32) &&& 31).toUInt32).toInt32) &&& (3 : Int32))), .val (.int (0 : Int32))] [(.int (0 : Int32)), (.int (if w6 = p1 ∧ w12 = w10 ∧ w8 = p2 then (1 : Int32) else (0 : Int32)))]))
                          refine own_icmpNo X41 hx (hb hby at_274) (teq ((if_neg (fun q => hc243_37 q.2.2.symm)) : (if w6 = p1 ∧ w12 = w10 ∧ w8 = p2 then (1 : Int32) else (0 : Int32)) = (0 : Int32))).2 ?_
                          show Goes _ _ _ _ _ _ (T41.setTop (mkF m 277 #[.val (.int p1), .val (.int p2), .val (.int p3), .val (.int p4), .val (.int p5), .val (.int w2), .val (.int w4), .val (.int w6), .val (.int w8), .val (.ref w10), .val (.ref w12), .val (.ref b13), .val (.ref b17), .val (.int (((p5.toUInt32 >>> ((4 : Int32) &&& 31).toUInt32).toInt32) &&& (3 : Int32))), .val (.int (0 : Int32))] []))
                          refine own_iconst X41 hx (v := (1 : Int32)) (hb hby at_277) rfl ?_
                          show Goes _ _ _ _ _ _ (T41.setTop (mkF m 278 #[.val (.int p1), .val (.int p2), .val (.int p3), .val (.int p4), .val (.int p5), .val (.int w2), .val (.int w4), .val (.int w6), .val (.int w8), .val (.ref w10), .val (.ref w12), .val (.ref b13), .val (.ref b17), .val (.int (((p5.toUInt32 >>> ((4 : Int32) &&& 31).toUInt32).toInt32) &&& (3 : Int32))), .val (.int (0 : Int32))] [(.int (1 : Int32))]))
                          refine own_goto X41 hx (pc' := 282) (hb hby at_278) (by decide) (by decide) ?_
                          show Goes _ _ _ _ _ _ (T41.setTop (mkF m 282 #[.val (.int p1), .val (.int p2), .val (.int p3), .val (.int p4), .val (.int p5), .val (.int w2), .val (.int w4), .val (.int w6), .val (.int w8), .val (.ref w10), .val (.ref w12), .val (.ref b13), .val (.ref b17), .val (.int (((p5.toUInt32 >>> ((4 : Int32) &&& 31).toUInt32).toInt32) &&& (3 : Int32))), .val (.int (0 : Int32))] [(.int (1 : Int32))]))
                          exact own_retN X41 hx (t := .boolean) N41 hlk (by decide) (by decide) hret (by simp) (hb hby at_282) (by rw [e41]; exact rfl)
                      ·
                        refine own_acmp X21 hx rfl rfl (same := false) (pc' := 250) (hb hby at_237) (decide_eq_false fun q => hc237_36 (Value.ref.inj q)) (by decide) (by decide) ?_
                        show Goes _ _ _ _ _ _ (T21.setTop (mkF m 250 #[.val (.int p1), .val (.int p2), .val (.int p3), .val (.int p4), .val (.int p5), .val (.int w2), .val (.int w4), .val (.int w6), .val (.int w8), .val (.ref w10), .val (.ref w12), .val (.ref b13), .val (.ref b17), .val (.int (((p5.toUInt32 >>> ((4 : Int32) &&& 31).toUInt32).toInt32) &&& (3 : Int32))), .unset] []))
                        refine own_iconst X21 hx (v := (0 : Int32)) (hb hby at_250) rfl ?_
                        show Goes _ _ _ _ _ _ (T21.setTop (mkF m 251 #[.val (.int p1), .val (.int p2), .val (.int p3), .val (.int p4), .val (.int p5), .val (.int w2), .val (.int w4), .val (.int w6), .val (.int w8), .val (.ref w10), .val (.ref w12), .val (.ref b13), .val (.ref b17), .val (.int (((p5.toUInt32 >>> ((4 : Int32) &&& 31).toUInt32).toInt32) &&& (3 : Int32))), .unset] [(.int (0 : Int32))]))
                        refine own_istore X21 hx (Ls' := #[.val (.int p1), .val (.int p2), .val (.int p3), .val (.int p4), .val (.int p5), .val (.int w2), .val (.int w4), .val (.int w6), .val (.int w8), .val (.ref w10), .val (.ref w12), .val (.ref b13), .val (.ref b17), .val (.int (((p5.toUInt32 >>> ((4 : Int32) &&& 31).toUInt32).toInt32) &&& (3 : Int32))), .val (.int (0 : Int32))]) (hb hby at_251) rfl ?_
                        show Goes _ _ _ _ _ _ (T21.setTop (mkF m 253 #[.val (.int p1), .val (.int p2), .val (.int p3), .val (.int p4), .val (.int p5), .val (.int w2), .val (.int w4), .val (.int w6), .val (.int w8), .val (.ref w10), .val (.ref w12), .val (.ref b13), .val (.ref b17), .val (.int (((p5.toUInt32 >>> ((4 : Int32) &&& 31).toUInt32).toInt32) &&& (3 : Int32))), .val (.int (0 : Int32))] []))
                        refine own_aload X21 hx (hb hby at_253) rfl rfl ?_
                        show Goes _ _ _ _ _ _ (T21.setTop (mkF m 255 #[.val (.int p1), .val (.int p2), .val (.int p3), .val (.int p4), .val (.int p5), .val (.int w2), .val (.int w4), .val (.int w6), .val (.int w8), .val (.ref w10), .val (.ref w12), .val (.ref b13), .val (.ref b17), .val (.int (((p5.toUInt32 >>> ((4 : Int32) &&& 31).toUInt32).toInt32) &&& (3 : Int32))), .val (.int (0 : Int32))] [(.ref b13)]))
                        refine own_aload X21 hx (hb hby at_255) rfl rfl ?_
                        show Goes _ _ _ _ _ _ (T21.setTop (mkF m 257 #[.val (.int p1), .val (.int p2), .val (.int p3), .val (.int p4), .val (.int p5), .val (.int w2), .val (.int w4), .val (.int w6), .val (.int w8), .val (.ref w10), .val (.ref w12), .val (.ref b13), .val (.ref b17), .val (.int (((p5.toUInt32 >>> ((4 : Int32) &&& 31).toUInt32).toInt32) &&& (3 : Int32))), .val (.int (0 : Int32))] [(.ref b17), (.ref b13)]))
                        refine own_virtual X21 hx hZ hown (y := (⟨"com/example/lease/lease/model/RetryPolicy", "equals", "(Ljava/lang/Object;)Z"⟩ : MethodName)) (z := (⟨"com/example/lease/lease/model/RetryPolicy", "equals", "(Ljava/lang/Object;)Z"⟩ : MethodName)) (hw _ (List.mem_of_getElem? (i := 18) rfl)) (hw _ (List.mem_of_getElem? (i := 19) rfl)) (notFace_of_selects (args := #[]) (mvT hZ (hw _ (List.mem_of_getElem? (i := 21) rfl)))) (hw _ (List.mem_of_getElem? (i := 21) rfl)) (hw _ (List.mem_of_getElem? (i := 20) rfl)) (hw _ (List.mem_of_getElem? (i := 5) rfl)) (hw _ (List.mem_of_getElem? (i := 22) rfl)) (a := b13) E20_b13 (by decide) (W := 0) (by decide) (by decide) N21 e21 (by rw [hml]; rfl) (argsL := [(.ref b17)]) (rest := []) (lenOf pd_3 rfl) (Nat.le_of_eq rfl) (by decide) (by decide) (rm3 l Z a0 hw [] b13 b17 p1 w6 w10 w12 p2 w8 T19.heap n0 O20 r19_0 F20_maxRetries_b13 r19_1 F20_backoff_b13 r19_2 F20_retryDelaySeconds_b13 r19_3) rfl (hb hby at_257) ?_
                        intro v42 T42 lc42 X42 N42 hQ42
                        obtain ⟨rfl, e42⟩ := hQ42
                        show Goes _ _ _ _ _ _ (T42.setTop (mkF m 260 #[.val (.int p1), .val (.int p2), .val (.int p3), .val (.int p4), .val (.int p5), .val (.int w2), .val (.int w4), .val (.int w6), .val (.int w8), .val (.ref w10), .val (.ref w12), .val (.ref b13), .val (.ref b17), .val (.int (((p5.toUInt32 >>> ((4 : Int32) &&& 31).toUInt32).toInt32) &&& (3 : Int32))), .val (.int (0 : Int32))] [(.int (if p1 = w6 ∧ w10 = w12 ∧ p2 = w8 then (1 : Int32) else (0 : Int32)))]))
                        refine own_iload X42 hx (hb hby at_260) rfl ?_
                        show Goes _ _ _ _ _ _ (T42.setTop (mkF m 262 #[.val (.int p1), .val (.int p2), .val (.int p3), .val (.int p4), .val (.int p5), .val (.int w2), .val (.int w4), .val (.int w6), .val (.int w8), .val (.ref w10), .val (.ref w12), .val (.ref b13), .val (.ref b17), .val (.int (((p5.toUInt32 >>> ((4 : Int32) &&& 31).toUInt32).toInt32) &&& (3 : Int32))), .val (.int (0 : Int32))] [(.int (0 : Int32)), (.int (if p1 = w6 ∧ w10 = w12 ∧ p2 = w8 then (1 : Int32) else (0 : Int32)))]))
                        refine own_icmpNo X42 hx (hb hby at_262) (teq ((if_neg (fun q => hc237_36 q.2.1)) : (if p1 = w6 ∧ w10 = w12 ∧ p2 = w8 then (1 : Int32) else (0 : Int32)) = (0 : Int32))).2 ?_
                        show Goes _ _ _ _ _ _ (T42.setTop (mkF m 265 #[.val (.int p1), .val (.int p2), .val (.int p3), .val (.int p4), .val (.int p5), .val (.int w2), .val (.int w4), .val (.int w6), .val (.int w8), .val (.ref w10), .val (.ref w12), .val (.ref b13), .val (.ref b17), .val (.int (((p5.toUInt32 >>> ((4 : Int32) &&& 31).toUInt32).toInt32) &&& (3 : Int32))), .val (.int (0 : Int32))] []))
                        refine own_aload X42 hx (hb hby at_265) rfl rfl ?_
                        show Goes _ _ _ _ _ _ (T42.setTop (mkF m 267 #[.val (.int p1), .val (.int p2), .val (.int p3), .val (.int p4), .val (.int p5), .val (.int w2), .val (.int w4), .val (.int w6), .val (.int w8), .val (.ref w10), .val (.ref w12), .val (.ref b13), .val (.ref b17), .val (.int (((p5.toUInt32 >>> ((4 : Int32) &&& 31).toUInt32).toInt32) &&& (3 : Int32))), .val (.int (0 : Int32))] [(.ref b17)]))
                        refine own_aload X42 hx (hb hby at_267) rfl rfl ?_
                        show Goes _ _ _ _ _ _ (T42.setTop (mkF m 269 #[.val (.int p1), .val (.int p2), .val (.int p3), .val (.int p4), .val (.int p5), .val (.int w2), .val (.int w4), .val (.int w6), .val (.int w8), .val (.ref w10), .val (.ref w12), .val (.ref b13), .val (.ref b17), .val (.int (((p5.toUInt32 >>> ((4 : Int32) &&& 31).toUInt32).toInt32) &&& (3 : Int32))), .val (.int (0 : Int32))] [(.ref b13), (.ref b17)]))
                        refine own_virtual X42 hx hZ hown (y := (⟨"com/example/lease/lease/model/RetryPolicy", "equals", "(Ljava/lang/Object;)Z"⟩ : MethodName)) (z := (⟨"com/example/lease/lease/model/RetryPolicy", "equals", "(Ljava/lang/Object;)Z"⟩ : MethodName)) (hw _ (List.mem_of_getElem? (i := 18) rfl)) (hw _ (List.mem_of_getElem? (i := 19) rfl)) (notFace_of_selects (args := #[]) (mvT hZ (hw _ (List.mem_of_getElem? (i := 21) rfl)))) (hw _ (List.mem_of_getElem? (i := 21) rfl)) (hw _ (List.mem_of_getElem? (i := 20) rfl)) (hw _ (List.mem_of_getElem? (i := 5) rfl)) (hw _ (List.mem_of_getElem? (i := 22) rfl)) (a := b17) r19_0 (by decide) (W := 0) (by decide) (by decide) N42 e42 (by rw [hml]; rfl) (argsL := [(.ref b13)]) (rest := []) (lenOf pd_3 rfl) (Nat.le_of_eq rfl) (by decide) (by decide) (rm3 l Z a0 hw [] b17 b13 w6 p1 w12 w10 w8 p2 T19.heap n0 O20 E20_b13 r19_1 F20_maxRetries_b13 r19_2 F20_backoff_b13 r19_3 F20_retryDelaySeconds_b13) rfl (hb hby at_269) ?_
                        intro v43 T43 lc43 X43 N43 hQ43
                        obtain ⟨rfl, e43⟩ := hQ43
                        show Goes _ _ _ _ _ _ (T43.setTop (mkF m 272 #[.val (.int p1), .val (.int p2), .val (.int p3), .val (.int p4), .val (.int p5), .val (.int w2), .val (.int w4), .val (.int w6), .val (.int w8), .val (.ref w10), .val (.ref w12), .val (.ref b13), .val (.ref b17), .val (.int (((p5.toUInt32 >>> ((4 : Int32) &&& 31).toUInt32).toInt32) &&& (3 : Int32))), .val (.int (0 : Int32))] [(.int (if w6 = p1 ∧ w12 = w10 ∧ w8 = p2 then (1 : Int32) else (0 : Int32)))]))
                        refine own_iload X43 hx (hb hby at_272) rfl ?_
                        show Goes _ _ _ _ _ _ (T43.setTop (mkF m 274 #[.val (.int p1), .val (.int p2), .val (.int p3), .val (.int p4), .val (.int p5), .val (.int w2), .val (.int w4), .val (.int w6), .val (.int w8), .val (.ref w10), .val (.ref w12), .val (.ref b13), .val (.ref b17), .val (.int (((p5.toUInt32 >>> ((4 : Int32) &&& 31).toUInt32).toInt32) &&& (3 : Int32))), .val (.int (0 : Int32))] [(.int (0 : Int32)), (.int (if w6 = p1 ∧ w12 = w10 ∧ w8 = p2 then (1 : Int32) else (0 : Int32)))]))
                        refine own_icmpNo X43 hx (hb hby at_274) (teq ((if_neg (fun q => hc237_36 q.2.1.symm)) : (if w6 = p1 ∧ w12 = w10 ∧ w8 = p2 then (1 : Int32) else (0 : Int32)) = (0 : Int32))).2 ?_
                        show Goes _ _ _ _ _ _ (T43.setTop (mkF m 277 #[.val (.int p1), .val (.int p2), .val (.int p3), .val (.int p4), .val (.int p5), .val (.int w2), .val (.int w4), .val (.int w6), .val (.int w8), .val (.ref w10), .val (.ref w12), .val (.ref b13), .val (.ref b17), .val (.int (((p5.toUInt32 >>> ((4 : Int32) &&& 31).toUInt32).toInt32) &&& (3 : Int32))), .val (.int (0 : Int32))] []))
                        refine own_iconst X43 hx (v := (1 : Int32)) (hb hby at_277) rfl ?_
                        show Goes _ _ _ _ _ _ (T43.setTop (mkF m 278 #[.val (.int p1), .val (.int p2), .val (.int p3), .val (.int p4), .val (.int p5), .val (.int w2), .val (.int w4), .val (.int w6), .val (.int w8), .val (.ref w10), .val (.ref w12), .val (.ref b13), .val (.ref b17), .val (.int (((p5.toUInt32 >>> ((4 : Int32) &&& 31).toUInt32).toInt32) &&& (3 : Int32))), .val (.int (0 : Int32))] [(.int (1 : Int32))]))
                        refine own_goto X43 hx (pc' := 282) (hb hby at_278) (by decide) (by decide) ?_
                        show Goes _ _ _ _ _ _ (T43.setTop (mkF m 282 #[.val (.int p1), .val (.int p2), .val (.int p3), .val (.int p4), .val (.int p5), .val (.int w2), .val (.int w4), .val (.int w6), .val (.int w8), .val (.ref w10), .val (.ref w12), .val (.ref b13), .val (.ref b17), .val (.int (((p5.toUInt32 >>> ((4 : Int32) &&& 31).toUInt32).toInt32) &&& (3 : Int32))), .val (.int (0 : Int32))] [(.int (1 : Int32))]))
                        exact own_retN X43 hx (t := .boolean) N43 hlk (by decide) (by decide) hret (by simp) (hb hby at_282) (by rw [e43]; exact rfl)
                    ·
                      refine own_icmpYes X21 hx (pc' := 250) (hb hby at_230) (feq (hc230_35 : ¬ (p1 = w6))).2 (by decide) (by decide) ?_
                      show Goes _ _ _ _ _ _ (T21.setTop (mkF m 250 #[.val (.int p1), .val (.int p2), .val (.int p3), .val (.int p4), .val (.int p5), .val (.int w2), .val (.int w4), .val (.int w6), .val (.int w8), .val (.ref w10), .val (.ref w12), .val (.ref b13), .val (.ref b17), .val (.int (((p5.toUInt32 >>> ((4 : Int32) &&& 31).toUInt32).toInt32) &&& (3 : Int32))), .unset] []))
                      refine own_iconst X21 hx (v := (0 : Int32)) (hb hby at_250) rfl ?_
                      show Goes _ _ _ _ _ _ (T21.setTop (mkF m 251 #[.val (.int p1), .val (.int p2), .val (.int p3), .val (.int p4), .val (.int p5), .val (.int w2), .val (.int w4), .val (.int w6), .val (.int w8), .val (.ref w10), .val (.ref w12), .val (.ref b13), .val (.ref b17), .val (.int (((p5.toUInt32 >>> ((4 : Int32) &&& 31).toUInt32).toInt32) &&& (3 : Int32))), .unset] [(.int (0 : Int32))]))
                      refine own_istore X21 hx (Ls' := #[.val (.int p1), .val (.int p2), .val (.int p3), .val (.int p4), .val (.int p5), .val (.int w2), .val (.int w4), .val (.int w6), .val (.int w8), .val (.ref w10), .val (.ref w12), .val (.ref b13), .val (.ref b17), .val (.int (((p5.toUInt32 >>> ((4 : Int32) &&& 31).toUInt32).toInt32) &&& (3 : Int32))), .val (.int (0 : Int32))]) (hb hby at_251) rfl ?_
                      show Goes _ _ _ _ _ _ (T21.setTop (mkF m 253 #[.val (.int p1), .val (.int p2), .val (.int p3), .val (.int p4), .val (.int p5), .val (.int w2), .val (.int w4), .val (.int w6), .val (.int w8), .val (.ref w10), .val (.ref w12), .val (.ref b13), .val (.ref b17), .val (.int (((p5.toUInt32 >>> ((4 : Int32) &&& 31).toUInt32).toInt32) &&& (3 : Int32))), .val (.int (0 : Int32))] []))
                      refine own_aload X21 hx (hb hby at_253) rfl rfl ?_
                      show Goes _ _ _ _ _ _ (T21.setTop (mkF m 255 #[.val (.int p1), .val (.int p2), .val (.int p3), .val (.int p4), .val (.int p5), .val (.int w2), .val (.int w4), .val (.int w6), .val (.int w8), .val (.ref w10), .val (.ref w12), .val (.ref b13), .val (.ref b17), .val (.int (((p5.toUInt32 >>> ((4 : Int32) &&& 31).toUInt32).toInt32) &&& (3 : Int32))), .val (.int (0 : Int32))] [(.ref b13)]))
                      refine own_aload X21 hx (hb hby at_255) rfl rfl ?_
                      show Goes _ _ _ _ _ _ (T21.setTop (mkF m 257 #[.val (.int p1), .val (.int p2), .val (.int p3), .val (.int p4), .val (.int p5), .val (.int w2), .val (.int w4), .val (.int w6), .val (.int w8), .val (.ref w10), .val (.ref w12), .val (.ref b13), .val (.ref b17), .val (.int (((p5.toUInt32 >>> ((4 : Int32) &&& 31).toUInt32).toInt32) &&& (3 : Int32))), .val (.int (0 : Int32))] [(.ref b17), (.ref b13)]))
                      refine own_virtual X21 hx hZ hown (y := (⟨"com/example/lease/lease/model/RetryPolicy", "equals", "(Ljava/lang/Object;)Z"⟩ : MethodName)) (z := (⟨"com/example/lease/lease/model/RetryPolicy", "equals", "(Ljava/lang/Object;)Z"⟩ : MethodName)) (hw _ (List.mem_of_getElem? (i := 18) rfl)) (hw _ (List.mem_of_getElem? (i := 19) rfl)) (notFace_of_selects (args := #[]) (mvT hZ (hw _ (List.mem_of_getElem? (i := 21) rfl)))) (hw _ (List.mem_of_getElem? (i := 21) rfl)) (hw _ (List.mem_of_getElem? (i := 20) rfl)) (hw _ (List.mem_of_getElem? (i := 5) rfl)) (hw _ (List.mem_of_getElem? (i := 22) rfl)) (a := b13) E20_b13 (by decide) (W := 0) (by decide) (by decide) N21 e21 (by rw [hml]; rfl) (argsL := [(.ref b17)]) (rest := []) (lenOf pd_3 rfl) (Nat.le_of_eq rfl) (by decide) (by decide) (rm3 l Z a0 hw [] b13 b17 p1 w6 w10 w12 p2 w8 T19.heap n0 O20 r19_0 F20_maxRetries_b13 r19_1 F20_backoff_b13 r19_2 F20_retryDelaySeconds_b13 r19_3) rfl (hb hby at_257) ?_
                      intro v44 T44 lc44 X44 N44 hQ44
                      obtain ⟨rfl, e44⟩ := hQ44
                      show Goes _ _ _ _ _ _ (T44.setTop (mkF m 260 #[.val (.int p1), .val (.int p2), .val (.int p3), .val (.int p4), .val (.int p5), .val (.int w2), .val (.int w4), .val (.int w6), .val (.int w8), .val (.ref w10), .val (.ref w12), .val (.ref b13), .val (.ref b17), .val (.int (((p5.toUInt32 >>> ((4 : Int32) &&& 31).toUInt32).toInt32) &&& (3 : Int32))), .val (.int (0 : Int32))] [(.int (if p1 = w6 ∧ w10 = w12 ∧ p2 = w8 then (1 : Int32) else (0 : Int32)))]))
                      refine own_iload X44 hx (hb hby at_260) rfl ?_
                      show Goes _ _ _ _ _ _ (T44.setTop (mkF m 262 #[.val (.int p1), .val (.int p2), .val (.int p3), .val (.int p4), .val (.int p5), .val (.int w2), .val (.int w4), .val (.int w6), .val (.int w8), .val (.ref w10), .val (.ref w12), .val (.ref b13), .val (.ref b17), .val (.int (((p5.toUInt32 >>> ((4 : Int32) &&& 31).toUInt32).toInt32) &&& (3 : Int32))), .val (.int (0 : Int32))] [(.int (0 : Int32)), (.int (if p1 = w6 ∧ w10 = w12 ∧ p2 = w8 then (1 : Int32) else (0 : Int32)))]))
                      refine own_icmpNo X44 hx (hb hby at_262) (teq ((if_neg (fun q => hc230_35 q.1)) : (if p1 = w6 ∧ w10 = w12 ∧ p2 = w8 then (1 : Int32) else (0 : Int32)) = (0 : Int32))).2 ?_
                      show Goes _ _ _ _ _ _ (T44.setTop (mkF m 265 #[.val (.int p1), .val (.int p2), .val (.int p3), .val (.int p4), .val (.int p5), .val (.int w2), .val (.int w4), .val (.int w6), .val (.int w8), .val (.ref w10), .val (.ref w12), .val (.ref b13), .val (.ref b17), .val (.int (((p5.toUInt32 >>> ((4 : Int32) &&& 31).toUInt32).toInt32) &&& (3 : Int32))), .val (.int (0 : Int32))] []))
                      refine own_aload X44 hx (hb hby at_265) rfl rfl ?_
                      show Goes _ _ _ _ _ _ (T44.setTop (mkF m 267 #[.val (.int p1), .val (.int p2), .val (.int p3), .val (.int p4), .val (.int p5), .val (.int w2), .val (.int w4), .val (.int w6), .val (.int w8), .val (.ref w10), .val (.ref w12), .val (.ref b13), .val (.ref b17), .val (.int (((p5.toUInt32 >>> ((4 : Int32) &&& 31).toUInt32).toInt32) &&& (3 : Int32))), .val (.int (0 : Int32))] [(.ref b17)]))
                      refine own_aload X44 hx (hb hby at_267) rfl rfl ?_
                      show Goes _ _ _ _ _ _ (T44.setTop (mkF m 269 #[.val (.int p1), .val (.int p2), .val (.int p3), .val (.int p4), .val (.int p5), .val (.int w2), .val (.int w4), .val (.int w6), .val (.int w8), .val (.ref w10), .val (.ref w12), .val (.ref b13), .val (.ref b17), .val (.int (((p5.toUInt32 >>> ((4 : Int32) &&& 31).toUInt32).toInt32) &&& (3 : Int32))), .val (.int (0 : Int32))] [(.ref b13), (.ref b17)]))
                      refine own_virtual X44 hx hZ hown (y := (⟨"com/example/lease/lease/model/RetryPolicy", "equals", "(Ljava/lang/Object;)Z"⟩ : MethodName)) (z := (⟨"com/example/lease/lease/model/RetryPolicy", "equals", "(Ljava/lang/Object;)Z"⟩ : MethodName)) (hw _ (List.mem_of_getElem? (i := 18) rfl)) (hw _ (List.mem_of_getElem? (i := 19) rfl)) (notFace_of_selects (args := #[]) (mvT hZ (hw _ (List.mem_of_getElem? (i := 21) rfl)))) (hw _ (List.mem_of_getElem? (i := 21) rfl)) (hw _ (List.mem_of_getElem? (i := 20) rfl)) (hw _ (List.mem_of_getElem? (i := 5) rfl)) (hw _ (List.mem_of_getElem? (i := 22) rfl)) (a := b17) r19_0 (by decide) (W := 0) (by decide) (by decide) N44 e44 (by rw [hml]; rfl) (argsL := [(.ref b13)]) (rest := []) (lenOf pd_3 rfl) (Nat.le_of_eq rfl) (by decide) (by decide) (rm3 l Z a0 hw [] b17 b13 w6 p1 w12 w10 w8 p2 T19.heap n0 O20 E20_b13 r19_1 F20_maxRetries_b13 r19_2 F20_backoff_b13 r19_3 F20_retryDelaySeconds_b13) rfl (hb hby at_269) ?_
                      intro v45 T45 lc45 X45 N45 hQ45
                      obtain ⟨rfl, e45⟩ := hQ45
                      show Goes _ _ _ _ _ _ (T45.setTop (mkF m 272 #[.val (.int p1), .val (.int p2), .val (.int p3), .val (.int p4), .val (.int p5), .val (.int w2), .val (.int w4), .val (.int w6), .val (.int w8), .val (.ref w10), .val (.ref w12), .val (.ref b13), .val (.ref b17), .val (.int (((p5.toUInt32 >>> ((4 : Int32) &&& 31).toUInt32).toInt32) &&& (3 : Int32))), .val (.int (0 : Int32))] [(.int (if w6 = p1 ∧ w12 = w10 ∧ w8 = p2 then (1 : Int32) else (0 : Int32)))]))
                      refine own_iload X45 hx (hb hby at_272) rfl ?_
                      show Goes _ _ _ _ _ _ (T45.setTop (mkF m 274 #[.val (.int p1), .val (.int p2), .val (.int p3), .val (.int p4), .val (.int p5), .val (.int w2), .val (.int w4), .val (.int w6), .val (.int w8), .val (.ref w10), .val (.ref w12), .val (.ref b13), .val (.ref b17), .val (.int (((p5.toUInt32 >>> ((4 : Int32) &&& 31).toUInt32).toInt32) &&& (3 : Int32))), .val (.int (0 : Int32))] [(.int (0 : Int32)), (.int (if w6 = p1 ∧ w12 = w10 ∧ w8 = p2 then (1 : Int32) else (0 : Int32)))]))
                      refine own_icmpNo X45 hx (hb hby at_274) (teq ((if_neg (fun q => hc230_35 q.1.symm)) : (if w6 = p1 ∧ w12 = w10 ∧ w8 = p2 then (1 : Int32) else (0 : Int32)) = (0 : Int32))).2 ?_
                      show Goes _ _ _ _ _ _ (T45.setTop (mkF m 277 #[.val (.int p1), .val (.int p2), .val (.int p3), .val (.int p4), .val (.int p5), .val (.int w2), .val (.int w4), .val (.int w6), .val (.int w8), .val (.ref w10), .val (.ref w12), .val (.ref b13), .val (.ref b17), .val (.int (((p5.toUInt32 >>> ((4 : Int32) &&& 31).toUInt32).toInt32) &&& (3 : Int32))), .val (.int (0 : Int32))] []))
                      refine own_iconst X45 hx (v := (1 : Int32)) (hb hby at_277) rfl ?_
                      show Goes _ _ _ _ _ _ (T45.setTop (mkF m 278 #[.val (.int p1), .val (.int p2), .val (.int p3), .val (.int p4), .val (.int p5), .val (.int w2), .val (.int w4), .val (.int w6), .val (.int w8), .val (.ref w10), .val (.ref w12), .val (.ref b13), .val (.ref b17), .val (.int (((p5.toUInt32 >>> ((4 : Int32) &&& 31).toUInt32).toInt32) &&& (3 : Int32))), .val (.int (0 : Int32))] [(.int (1 : Int32))]))
                      refine own_goto X45 hx (pc' := 282) (hb hby at_278) (by decide) (by decide) ?_
                      show Goes _ _ _ _ _ _ (T45.setTop (mkF m 282 #[.val (.int p1), .val (.int p2), .val (.int p3), .val (.int p4), .val (.int p5), .val (.int w2), .val (.int w4), .val (.int w6), .val (.int w8), .val (.ref w10), .val (.ref w12), .val (.ref b13), .val (.ref b17), .val (.int (((p5.toUInt32 >>> ((4 : Int32) &&& 31).toUInt32).toInt32) &&& (3 : Int32))), .val (.int (0 : Int32))] [(.int (1 : Int32))]))
                      exact own_retN X45 hx (t := .boolean) N45 hlk (by decide) (by decide) hret (by simp) (hb hby at_282) (by rw [e45]; exact rfl)
            by_cases hc75_11 : (p5 &&& (8 : Int32)) = (0 : Int32)
            ·
              refine own_ifYes X10 hx (pc' := 84) (hb hby at_75) ((if0 _ _).trans (teq (hc75_11 : (p5 &&& (8 : Int32)) = (0 : Int32))).1) (by decide) (by decide) ?_
              show Goes _ _ _ _ _ _ (T10.setTop (mkF m 84 #[.val (.int p1), .val (.int p2), .val (.int p3), .val (.int p4), .val (.int p5), .val (.int w2), .val (.int w4), .val (.int w6), .val (.int w8), .val (.ref w10), .unset, .unset, .unset, .unset, .unset] []))
              refine own_getS X10 hx hZ hown (host := "") (Or.inl (hw _ (List.mem_of_getElem? (i := 0) rfl))) Via.refl e10 (z0.ext O0.2) (hb hby at_84) (fun T46 X46 e46 => ?_)
              show Goes _ _ _ _ _ _ (T46.setTop (mkF m 87 #[.val (.int p1), .val (.int p2), .val (.int p3), .val (.int p4), .val (.int p5), .val (.int w2), .val (.int w4), .val (.int w6), .val (.int w8), .val (.ref w10), .unset, .unset, .unset, .unset, .unset] [(.ref w_FIXED)]))
              exact jn87_12 T46 _ X46 N10 e46 w_FIXED trivial
            ·
              refine own_ifNo X10 hx (hb hby at_75) ((if0 _ _).trans (feq (hc75_11 : ¬ ((p5 &&& (8 : Int32)) = (0 : Int32)))).1) ?_
              show Goes _ _ _ _ _ _ (T10.setTop (mkF m 78 #[.val (.int p1), .val (.int p2), .val (.int p3), .val (.int p4), .val (.int p5), .val (.int w2), .val (.int w4), .val (.int w6), .val (.int w8), .val (.ref w10), .unset, .unset, .unset, .unset, .unset] []))
              refine own_getS X10 hx hZ hown (host := "") (Or.inl (hw _ (List.mem_of_getElem? (i := 25) rfl))) Via.refl e10 (z2.ext O0.2) (hb hby at_78) (fun T47 X47 e47 => ?_)
              show Goes _ _ _ _ _ _ (T47.setTop (mkF m 81 #[.val (.int p1), .val (.int p2), .val (.int p3), .val (.int p4), .val (.int p5), .val (.int w2), .val (.int w4), .val (.int w6), .val (.int w8), .val (.ref w10), .unset, .unset, .unset, .unset, .unset] [(.ref w_EXPONENTIAL)]))
              refine own_goto X47 hx (pc' := 87) (hb hby at_81) (by decide) (by decide) ?_
              show Goes _ _ _ _ _ _ (T47.setTop (mkF m 87 #[.val (.int p1), .val (.int p2), .val (.int p3), .val (.int p4), .val (.int p5), .val (.int w2), .val (.int w4), .val (.int w6), .val (.int w8), .val (.ref w10), .unset, .unset, .unset, .unset, .unset] [(.ref w_EXPONENTIAL)]))
              exact jn87_12 T47 _ X47 N10 e47 w_EXPONENTIAL trivial
          by_cases hc56_9 : (p5 &&& (4 : Int32)) = (0 : Int32)
          ·
            refine own_ifYes X8 hx (pc' := 65) (hb hby at_56) ((if0 _ _).trans (teq (hc56_9 : (p5 &&& (4 : Int32)) = (0 : Int32))).1) (by decide) (by decide) ?_
            show Goes _ _ _ _ _ _ (T8.setTop (mkF m 65 #[.val (.int p1), .val (.int p2), .val (.int p3), .val (.int p4), .val (.int p5), .val (.int w2), .val (.int w4), .val (.int w6), .val (.int w8), .unset, .unset, .unset, .unset, .unset, .unset] []))
            refine own_getS X8 hx hZ hown (host := "") (Or.inl (hw _ (List.mem_of_getElem? (i := 0) rfl))) Via.refl e8 (z0.ext O0.2) (hb hby at_65) (fun T48 X48 e48 => ?_)
            show Goes _ _ _ _ _ _ (T48.setTop (mkF m 68 #[.val (.int p1), .val (.int p2), .val (.int p3), .val (.int p4), .val (.int p5), .val (.int w2), .val (.int w4), .val (.int w6), .val (.int w8), .unset, .unset, .unset, .unset, .unset, .unset] [(.ref w_FIXED)]))
            exact jn68_10 T48 _ X48 N8 e48 w_FIXED trivial
          ·
            refine own_ifNo X8 hx (hb hby at_56) ((if0 _ _).trans (feq (hc56_9 : ¬ ((p5 &&& (4 : Int32)) = (0 : Int32)))).1) ?_
            show Goes _ _ _ _ _ _ (T8.setTop (mkF m 59 #[.val (.int p1), .val (.int p2), .val (.int p3), .val (.int p4), .val (.int p5), .val (.int w2), .val (.int w4), .val (.int w6), .val (.int w8), .unset, .unset, .unset, .unset, .unset, .unset] []))
            refine own_getS X8 hx hZ hown (host := "") (Or.inl (hw _ (List.mem_of_getElem? (i := 25) rfl))) Via.refl e8 (z2.ext O0.2) (hb hby at_59) (fun T49 X49 e49 => ?_)
            show Goes _ _ _ _ _ _ (T49.setTop (mkF m 62 #[.val (.int p1), .val (.int p2), .val (.int p3), .val (.int p4), .val (.int p5), .val (.int w2), .val (.int w4), .val (.int w6), .val (.int w8), .unset, .unset, .unset, .unset, .unset, .unset] [(.ref w_EXPONENTIAL)]))
            refine own_goto X49 hx (pc' := 68) (hb hby at_62) (by decide) (by decide) ?_
            show Goes _ _ _ _ _ _ (T49.setTop (mkF m 68 #[.val (.int p1), .val (.int p2), .val (.int p3), .val (.int p4), .val (.int p5), .val (.int w2), .val (.int w4), .val (.int w6), .val (.int w8), .unset, .unset, .unset, .unset, .unset, .unset] [(.ref w_EXPONENTIAL)]))
            exact jn68_10 T49 _ X49 N8 e49 w_EXPONENTIAL trivial
        by_cases hc42_7 : w4 = (0 : Int32)
        ·
          refine own_ifYes X6 hx (pc' := 49) (hb hby at_42) ((if0 _ _).trans (teq (hc42_7 : w4 = (0 : Int32))).1) (by decide) (by decide) ?_
          show Goes _ _ _ _ _ _ (T6.setTop (mkF m 49 #[.val (.int p1), .val (.int p2), .val (.int p3), .val (.int p4), .val (.int p5), .val (.int w2), .val (.int w4), .val (.int w6), .unset, .unset, .unset, .unset, .unset, .unset, .unset] []))
          refine own_iloadN X6 hx (hb hby at_49) rfl ?_
          show Goes _ _ _ _ _ _ (T6.setTop (mkF m 50 #[.val (.int p1), .val (.int p2), .val (.int p3), .val (.int p4), .val (.int p5), .val (.int w2), .val (.int w4), .val (.int w6), .unset, .unset, .unset, .unset, .unset, .unset, .unset] [(.int p4)]))
          exact jn50_8 T6 _ X6 N6 e6 p4 trivial
        ·
          refine own_ifNo X6 hx (hb hby at_42) ((if0 _ _).trans (feq (hc42_7 : ¬ (w4 = (0 : Int32)))).1) ?_
          show Goes _ _ _ _ _ _ (T6.setTop (mkF m 45 #[.val (.int p1), .val (.int p2), .val (.int p3), .val (.int p4), .val (.int p5), .val (.int w2), .val (.int w4), .val (.int w6), .unset, .unset, .unset, .unset, .unset, .unset, .unset] []))
          refine own_iloadN X6 hx (hb hby at_45) rfl ?_
          show Goes _ _ _ _ _ _ (T6.setTop (mkF m 46 #[.val (.int p1), .val (.int p2), .val (.int p3), .val (.int p4), .val (.int p5), .val (.int w2), .val (.int w4), .val (.int w6), .unset, .unset, .unset, .unset, .unset, .unset, .unset] [(.int p2)]))
          refine own_goto X6 hx (pc' := 50) (hb hby at_46) (by decide) (by decide) ?_
          show Goes _ _ _ _ _ _ (T6.setTop (mkF m 50 #[.val (.int p1), .val (.int p2), .val (.int p3), .val (.int p4), .val (.int p5), .val (.int w2), .val (.int w4), .val (.int w6), .unset, .unset, .unset, .unset, .unset, .unset, .unset] [(.int p2)]))
          exact jn50_8 T6 _ X6 N6 e6 p2 trivial
      by_cases hc30_5 : w2 = (0 : Int32)
      ·
        refine own_ifYes X4 hx (pc' := 37) (hb hby at_30) ((if0 _ _).trans (teq (hc30_5 : w2 = (0 : Int32))).1) (by decide) (by decide) ?_
        show Goes _ _ _ _ _ _ (T4.setTop (mkF m 37 #[.val (.int p1), .val (.int p2), .val (.int p3), .val (.int p4), .val (.int p5), .val (.int w2), .val (.int w4), .unset, .unset, .unset, .unset, .unset, .unset, .unset, .unset] []))
        refine own_iloadN X4 hx (hb hby at_37) rfl ?_
        show Goes _ _ _ _ _ _ (T4.setTop (mkF m 38 #[.val (.int p1), .val (.int p2), .val (.int p3), .val (.int p4), .val (.int p5), .val (.int w2), .val (.int w4), .unset, .unset, .unset, .unset, .unset, .unset, .unset, .unset] [(.int p3)]))
        exact jn38_6 T4 _ X4 N4 e4 p3 trivial
      ·
        refine own_ifNo X4 hx (hb hby at_30) ((if0 _ _).trans (feq (hc30_5 : ¬ (w2 = (0 : Int32)))).1) ?_
        show Goes _ _ _ _ _ _ (T4.setTop (mkF m 33 #[.val (.int p1), .val (.int p2), .val (.int p3), .val (.int p4), .val (.int p5), .val (.int w2), .val (.int w4), .unset, .unset, .unset, .unset, .unset, .unset, .unset, .unset] []))
        refine own_iloadN X4 hx (hb hby at_33) rfl ?_
        show Goes _ _ _ _ _ _ (T4.setTop (mkF m 34 #[.val (.int p1), .val (.int p2), .val (.int p3), .val (.int p4), .val (.int p5), .val (.int w2), .val (.int w4), .unset, .unset, .unset, .unset, .unset, .unset, .unset, .unset] [(.int p1)]))
        refine own_goto X4 hx (pc' := 38) (hb hby at_34) (by decide) (by decide) ?_
        show Goes _ _ _ _ _ _ (T4.setTop (mkF m 38 #[.val (.int p1), .val (.int p2), .val (.int p3), .val (.int p4), .val (.int p5), .val (.int w2), .val (.int w4), .unset, .unset, .unset, .unset, .unset, .unset, .unset, .unset] [(.int p1)]))
        exact jn38_6 T4 _ X4 N4 e4 p1 trivial
    by_cases hc18_3 : (p5 &&& (2 : Int32)) = (0 : Int32)
    ·
      refine own_ifYes X2 hx (pc' := 25) (hb hby at_18) ((if0 _ _).trans (teq (hc18_3 : (p5 &&& (2 : Int32)) = (0 : Int32))).1) (by decide) (by decide) ?_
      show Goes _ _ _ _ _ _ (T2.setTop (mkF m 25 #[.val (.int p1), .val (.int p2), .val (.int p3), .val (.int p4), .val (.int p5), .val (.int w2), .unset, .unset, .unset, .unset, .unset, .unset, .unset, .unset, .unset] []))
      refine own_iconst X2 hx (v := (0 : Int32)) (hb hby at_25) rfl ?_
      show Goes _ _ _ _ _ _ (T2.setTop (mkF m 26 #[.val (.int p1), .val (.int p2), .val (.int p3), .val (.int p4), .val (.int p5), .val (.int w2), .unset, .unset, .unset, .unset, .unset, .unset, .unset, .unset, .unset] [(.int (0 : Int32))]))
      exact jn26_4 T2 _ X2 N2 e2 (0 : Int32) trivial
    ·
      refine own_ifNo X2 hx (hb hby at_18) ((if0 _ _).trans (feq (hc18_3 : ¬ ((p5 &&& (2 : Int32)) = (0 : Int32)))).1) ?_
      show Goes _ _ _ _ _ _ (T2.setTop (mkF m 21 #[.val (.int p1), .val (.int p2), .val (.int p3), .val (.int p4), .val (.int p5), .val (.int w2), .unset, .unset, .unset, .unset, .unset, .unset, .unset, .unset, .unset] []))
      refine own_iconst X2 hx (v := (1 : Int32)) (hb hby at_21) rfl ?_
      show Goes _ _ _ _ _ _ (T2.setTop (mkF m 22 #[.val (.int p1), .val (.int p2), .val (.int p3), .val (.int p4), .val (.int p5), .val (.int w2), .unset, .unset, .unset, .unset, .unset, .unset, .unset, .unset, .unset] [(.int (1 : Int32))]))
      refine own_goto X2 hx (pc' := 26) (hb hby at_22) (by decide) (by decide) ?_
      show Goes _ _ _ _ _ _ (T2.setTop (mkF m 26 #[.val (.int p1), .val (.int p2), .val (.int p3), .val (.int p4), .val (.int p5), .val (.int w2), .unset, .unset, .unset, .unset, .unset, .unset, .unset, .unset, .unset] [(.int (1 : Int32))]))
      exact jn26_4 T2 _ X2 N2 e2 (1 : Int32) trivial
  by_cases hc4_1 : (p5 &&& (1 : Int32)) = (0 : Int32)
  ·
    refine own_ifYes X0 hx (pc' := 11) (hb hby at_4) ((if0 _ _).trans (teq (hc4_1 : (p5 &&& (1 : Int32)) = (0 : Int32))).1) (by decide) (by decide) ?_
    show Goes _ _ _ _ _ _ (T0.setTop (mkF m 11 #[.val (.int p1), .val (.int p2), .val (.int p3), .val (.int p4), .val (.int p5), .unset, .unset, .unset, .unset, .unset, .unset, .unset, .unset, .unset, .unset] []))
    refine own_iconst X0 hx (v := (0 : Int32)) (hb hby at_11) rfl ?_
    show Goes _ _ _ _ _ _ (T0.setTop (mkF m 12 #[.val (.int p1), .val (.int p2), .val (.int p3), .val (.int p4), .val (.int p5), .unset, .unset, .unset, .unset, .unset, .unset, .unset, .unset, .unset, .unset] [(.int (0 : Int32))]))
    exact jn12_2 T0 _ X0 N0 e0 (0 : Int32) trivial
  ·
    refine own_ifNo X0 hx (hb hby at_4) ((if0 _ _).trans (feq (hc4_1 : ¬ ((p5 &&& (1 : Int32)) = (0 : Int32)))).1) ?_
    show Goes _ _ _ _ _ _ (T0.setTop (mkF m 7 #[.val (.int p1), .val (.int p2), .val (.int p3), .val (.int p4), .val (.int p5), .unset, .unset, .unset, .unset, .unset, .unset, .unset, .unset, .unset, .unset] []))
    refine own_iconst X0 hx (v := (1 : Int32)) (hb hby at_7) rfl ?_
    show Goes _ _ _ _ _ _ (T0.setTop (mkF m 8 #[.val (.int p1), .val (.int p2), .val (.int p3), .val (.int p4), .val (.int p5), .unset, .unset, .unset, .unset, .unset, .unset, .unset, .unset, .unset, .unset] [(.int (1 : Int32))]))
    refine own_goto X0 hx (pc' := 12) (hb hby at_8) (by decide) (by decide) ?_
    show Goes _ _ _ _ _ _ (T0.setTop (mkF m 12 #[.val (.int p1), .val (.int p2), .val (.int p3), .val (.int p4), .val (.int p5), .unset, .unset, .unset, .unset, .unset, .unset, .unset, .unset, .unset, .unset] [(.int (1 : Int32))]))
    exact jn12_2 T0 _ X0 N0 e0 (1 : Int32) trivial
set_option maxRecDepth 65536 in
set_option maxHeartbeats 40000000 in
theorem comes_1 {Post : Tables → Env → Array Value → State → Outcome → State → Prop} (hpost : ∀ tb e args s v u, (limb_1_1.after args s (.returned v) u = true ∧ limb_1_2.after args s (.returned v) u = true ∧ True) → FrameEnd s (.returned v) u (Jvm.fieldLocs frame_1_writes args s ++ Jvm.arrayLocs frame_1_arrays args s ++ Jvm.staticLocs frame_1_statics s) 16 128 → Post tb e args s (.returned v) u) :
    ArmFor flags0 classFile x code maxLocals ret World_1 tables_1 room_1 Calls_1 rest_1 Pre_1 Post := by
  intro l hfl _ _ p e ha hc hk s m args below hf hA hF happ hP
  obtain ⟨hcalls, hrest, hpre⟩ := hP
  obtain ⟨-, -, -, hnamed, -, -, -, hat⟩ := (Spec.applies_iff hf).mp happ
  obtain ⟨hg, hn⟩ := and_e (Cond.before_iff.mp (show (Jvm.Cond.and given_1 narrow_1).before args s = true from hpre))
  obtain ⟨hg1a, hg1b⟩ := and_e hg
  obtain ⟨hg2a, hg2b⟩ := and_e hg1b
  obtain ⟨hg3a, hg3b⟩ := and_e hg2b
  obtain ⟨hg4a, hg4b⟩ := and_e hg3b
  obtain ⟨hg5a, hg5b⟩ := and_e hg4b
  obtain ⟨w0, w1, w2, w3, w4, rfl⟩ : ∃ w0 w1 w2 w3 w4 : Value, args = #[w0, w1, w2, w3, w4] := by
    have hs : args.size = 5 := by simpa [Cond.value, given_1] using hg1a
    obtain ⟨L⟩ := args
    match L, hs with
    | [w0, w1, w2, w3, w4], _ => exact ⟨w0, w1, w2, w3, w4, rfl⟩
  have hw := fun d (hd : d ∈ tables_1) => atoms_spec (ws := Jvm.Cond.code x code maxLocals ret :: tables_1) hat d (List.mem_cons_of_mem _ hd)
  have hfit : Fit s := fun {y c} hc i hi => by
    obtain ⟨ha, rfl⟩ := Array.getElem?_eq_some_iff.mp hc
    have q := List.all_eq_true.mp ((Array.all_eq_true_iff_forall_mem.mp hF) _ (Array.getElem_mem ha)) i (List.mem_range.mpr hi)
    simpa [Array.getElem?_eq_getElem hi] using q
  obtain ⟨hsets, hown0⟩ := atoms_of _ (rest_1_c_eq ▸ (show rest_1_c.before _ s = true from hrest))
  obtain ⟨i0, ei0⟩ := is_v hg2a
  obtain rfl : w0 = (.int i0) := Option.some.inj ei0
  obtain ⟨i1, ei1⟩ := is_v hg3a
  obtain rfl : w1 = (.int i1) := Option.some.inj ei1
  obtain ⟨i2, ei2⟩ := is_v hg4a
  obtain rfl : w2 = (.int i2) := Option.some.inj ei2
  obtain ⟨i3, ei3⟩ := is_v hg5a
  obtain rfl : w3 = (.int i3) := Option.some.inj ei3
  obtain ⟨i4, ei4⟩ := is_v hg5b
  obtain rfl : w4 = (.int i4) := Option.some.inj ei4
  obtain ⟨hn1a, hn1b⟩ := and_e hn
  obtain ⟨hn2a, hn2b⟩ := and_e hn1b
  obtain ⟨hn3a, hn3b⟩ := and_e hn2b
  obtain ⟨w_FIXED, ev_w_FIXED⟩ := exa_v hn1a
  obtain ⟨w_EXPONENTIAL, ev_w_EXPONENTIAL⟩ := exa_v hn2a
  obtain ⟨w_cache, ev_w_cache⟩ := exa_v (Cond.before_iff.mp (hsets _ (List.mem_of_getElem? (i := 5) rfl)))
  obtain ⟨cl_w_cache, Ar_w_cache⟩ := Arr.start ev_w_cache (Cond.before_iff.mp (hsets _ (List.mem_of_getElem? (i := 4) rfl)))
  have hlc := own_len ev_w_cache Ar_w_cache (own_eq (Cond.before_iff.mp (hsets _ (List.mem_of_getElem? (i := 6) rfl))) rfl)
  have hcache : ∃ cl : Cell, Arr s s.heap w_cache cl (.object "java/lang/Integer") ∧ cl.slots.size = 256 ∧ ∀ i, i < 256 → ∃ b, cl.slots[i]? = some (.ref b) ∧ Exa s s.heap b "java/lang/Integer" := own_cache hlc.1 hlc.2 Ar_w_cache ev_w_cache (Cond.before_iff.mp (hsets _ (List.mem_of_getElem? (i := 7) rfl)))
  obtain ⟨n, o, h1, h2, h3, v, L, rfl, ⟨N, hQ⟩, hq⟩ := rm0 l s _ hw tables_1 i0 i1 i2 i3 i4 w_FIXED w_EXPONENTIAL w_cache s.heap s.heap.size (Old.start s) ⟨Sta.start ev_w_FIXED (Or.inr ⟨(hw _ (List.mem_of_getElem? (i := 1) rfl)), (hw _ (List.mem_of_getElem? (i := 2) rfl))⟩), Exa.start ev_w_FIXED hn1a, Sta.start ev_w_EXPONENTIAL (Or.inr ⟨(hw _ (List.mem_of_getElem? (i := 1) rfl)), (hw _ (List.mem_of_getElem? (i := 26) rfl))⟩), Exa.start ev_w_EXPONENTIAL hn2a, Sta.start ev_w_cache (Or.inr ⟨(hw _ (List.mem_of_getElem? (i := 32) rfl)), hsets _ (List.mem_of_getElem? (i := 2) rfl)⟩), Exa.start ev_w_cache (Cond.before_iff.mp (hsets _ (List.mem_of_getElem? (i := 5) rfl))), Fld.start ((fld_at ev_w_EXPONENTIAL).symm.trans (own_eq hn3a rfl)), Fld.start ((fld_at ev_w_FIXED).symm.trans (own_eq hn3b rfl)), Sta.start (own_eq (Cond.before_iff.mp (hsets _ (List.mem_of_getElem? (i := 3) rfl))) rfl) (Or.inl (hsets _ (List.mem_of_getElem? (i := 1) rfl))), hcache, trivial⟩ p e ha hc hk s m _ below hf ((Spec.applies_iff_loose hf).mp happ).1 ⟨rfl, State.Warmed39.refl s, rfl⟩ trivial
  have hv : v = some (.int (1 : Int32)) := hQ
  subst hv
  refine ⟨n, _, h1, h2, h3, hpost _ _ _ _ _ _ ⟨Cond.after_iff.mpr rfl, Cond.after_iff.mpr (eq_i res_at (Term.int_eval (1)) rfl), trivial⟩ ⟨hq.1, hq.2.1, hq.2.2.sift fun y hy => Or.inr (N y hy)⟩⟩
theorem main_1_1 : Claimed_1_1 := comes_1 fun _ _ _ _ _ _ h hF => ⟨h.1, hF⟩
theorem main_1_2 : Claimed_1_2 := comes_1 fun _ _ _ _ _ _ h hF => ⟨h.2.1, hF⟩
end Jvm.Pilot.@@N@@
namespace Jvm.Pilot.@@N@@
open Jvm Jvm.ClassFile Sem Op Lib Jvm.Free Jvm.Stand Jvm.Pilot.@@N@@.Jvm.D
/-! MADE BY PROGRAM (witnessworld.py) out of the Statement's table words and the real class files: 19 classes; the members and pool entries that the words name. The judged class is class 1, her method 1. -/
namespace start1
open Jvm.ClassFile
def u (s : String) : CpInfo := .utf8 (stringToUtf16 s)
/-- a pool by its gaps: so many unusable entries, then the entry; so many at the end -/
def gap : Nat → List CpInfo → List CpInfo
  | 0, r => r
  | n + 1, r => .unusable :: gap n r
def poolList (es : List (Nat × CpInfo)) (last : Nat) : List CpInfo := es.foldr (fun e r => gap e.1 (e.2 :: r)) (gap last [])
def pool (es : List (Nat × CpInfo)) (last : Nat) : Array CpInfo := ⟨poolList es last⟩
def fileOf (pool : Array CpInfo) (this : Nat) (attrs : Array Attribute := #[]) (ms : Array MethodInfo := #[]) (fl : Nat := 33) (sup : Nat := 0) (ifs : Array Nat := #[]) (fds : Array FieldInfo := #[]) : ClassFile where
  minorVersion := 0
  majorVersion := 65
  constantPool := pool
  accessFlags := fl
  thisClass := this
  superClass := sup
  interfaces := ifs
  fields := fds
  methods := ms
  attributes := attrs
def plain (name : String) (sup : Option ClassId) : Class where
  name := name
  kind := .ordinary
  loader := none
  accessFlags := 33
  super := sup
  interfaces := #[]
  cf := none
  fields := #[]
  methods := #[]
  instanceTypes := #[]
  staticTypes := #[]
  resolved := #[]
  callSites := []
  init := .initialized
  statics := none
  mirror := none

def pool0 : Array CpInfo := pool [(5, u "<init>"), (0, u "()V"), (1, .class_ 10), (1, u "java/lang/Object")] 113

def k0c0 : Code := { maxStack := 0, maxLocals := 1, code := object_method_1_code, exceptionTable := #[], attributes := #[] }
def k0m0 : Method := { name := "<init>", desc := "()V", sig := { parameters := [], returnType := none }, accessFlags := 1, code := some k0c0 }
/-- java/lang/Object -/
def k0 : Class := { plain "java/lang/Object" none with
  accessFlags := 33
  interfaces := #[]
  cf := some (fileOf pool0 8 #[] #[{ accessFlags := 1, nameIndex := 5, descriptorIndex := 6, attributes := #[] }] 33 0 #[] #[])
  fields := #[]
  methods := #[k0m0]
  instanceTypes := #[]
  staticTypes := #[]
  resolved := Array.replicate 124 none
  statics := none }

def pool1 : Array CpInfo := pool [(2, .class_ 4), (1, u "java/lang/Object"), (0, u "<init>"), (0, u "()V"), (0, .fieldref 8 9), (0, .class_ 10), (0, .nameAndType 11 12), (0, u "com/example/lease/lease/model/RetryBackoff"), (0, u "EXPONENTIAL"), (0, u "Lcom/example/lease/lease/model/RetryBackoff;"), (0, .fieldref 8 14), (0, .nameAndType 15 12), (0, u "FIXED"), (0, .class_ 17), (0, u "com/example/lease/lease/model/RetryPolicy"), (0, .methodref 16 19), (0, .nameAndType 5 20), (0, u "(ILcom/example/lease/lease/model/RetryBackoff;I)V"), (0, .methodref 16 22), (0, .nameAndType 23 24), (0, u "equals"), (0, u "(Ljava/lang/Object;)Z"), (0, .methodref 26 27), (0, .class_ 28), (0, .nameAndType 29 30), (0, u "java/lang/Integer"), (0, u "valueOf"), (0, u "(I)Ljava/lang/Integer;"), (0, .class_ 32), (0, u "com/example/lease/lease/model/RetryPolicyEqualsPinLaw"), (2, u "law"), (0, u "(IIIII)Z")] 3

def k1m0 : Method := { name := "<init>", desc := "()V", sig := { parameters := [], returnType := none }, accessFlags := 1, code := none }
def k1c1 : Code := { maxStack := 5, maxLocals := 15, code := code, exceptionTable := #[], attributes := #[] }
def k1m1 : Method := { name := "law", desc := "(IIIII)Z", sig := { parameters := [.int, .int, .int, .int, .int], returnType := some .boolean }, accessFlags := 9, code := some k1c1 }
/-- com/example/lease/lease/model/RetryPolicyEqualsPinLaw -/
def k1 : Class := { plain "com/example/lease/lease/model/RetryPolicyEqualsPinLaw" (some 0) with
  accessFlags := 49
  interfaces := #[]
  cf := some (fileOf pool1 31 #[] #[{ accessFlags := 1, nameIndex := 5, descriptorIndex := 6, attributes := #[] }, { accessFlags := 9, nameIndex := 35, descriptorIndex := 36, attributes := #[] }] 49 2 #[] #[])
  fields := #[]
  methods := #[k1m0, k1m1]
  instanceTypes := #[]
  staticTypes := #[]
  resolved := Array.replicate 40 none
  statics := none }

def pool2 : Array CpInfo := pool [(1, .class_ 2), (0, u "java/lang/constant/Constable"), (0, .class_ 4), (0, u "java/lang/Object")] 6

/-- java/lang/constant/Constable -/
def k2 : Class := { plain "java/lang/constant/Constable" (some 0) with
  accessFlags := 1537
  interfaces := #[]
  cf := some (fileOf pool2 1 #[] #[] 1537 3 #[] #[])
  fields := #[]
  methods := #[]
  instanceTypes := #[]
  staticTypes := #[]
  resolved := Array.replicate 11 none
  statics := none }

def pool3 : Array CpInfo := pool [(1, .class_ 2), (0, u "java/lang/Comparable"), (0, .class_ 4), (0, u "java/lang/Object")] 7

/-- java/lang/Comparable -/
def k3 : Class := { plain "java/lang/Comparable" (some 0) with
  accessFlags := 1537
  interfaces := #[]
  cf := some (fileOf pool3 1 #[] #[] 1537 3 #[] #[])
  fields := #[]
  methods := #[]
  instanceTypes := #[]
  staticTypes := #[]
  resolved := Array.replicate 12 none
  statics := none }

def pool4 : Array CpInfo := pool [(1, .class_ 2), (0, u "java/io/Serializable"), (0, .class_ 4), (0, u "java/lang/Object")] 2

/-- java/io/Serializable -/
def k4 : Class := { plain "java/io/Serializable" (some 0) with
  accessFlags := 1537
  interfaces := #[]
  cf := some (fileOf pool4 1 #[] #[] 1537 3 #[] #[])
  fields := #[]
  methods := #[]
  instanceTypes := #[]
  staticTypes := #[]
  resolved := Array.replicate 7 none
  statics := none }

def pool5 : Array CpInfo := pool [(2, .class_ 4), (1, u "java/lang/Enum"), (0, u "name"), (0, u "Ljava/lang/String;"), (2, u "ordinal"), (0, u "I"), (1, .class_ 14), (1, u "java/lang/Object"), (4, u "hash"), (86, .class_ 108), (1, u "java/lang/Enum$EnumDesc"), (2, .class_ 112), (0, u "java/lang/constant/Constable"), (0, .class_ 114), (0, u "java/lang/Comparable"), (0, .class_ 116), (0, u "java/io/Serializable")] 87

/-- java/lang/Enum -/
def k5 : Class := { plain "java/lang/Enum" (some 0) with
  accessFlags := 1057
  interfaces := #[2, 3, 4]
  cf := some (fileOf pool5 2 #[.nestMembers #[106]] #[] 1057 12 #[111, 113, 115] #[{ accessFlags := 18, nameIndex := 5, descriptorIndex := 6, attributes := #[] }, { accessFlags := 18, nameIndex := 9, descriptorIndex := 10, attributes := #[] }, { accessFlags := 2, nameIndex := 19, descriptorIndex := 10, attributes := #[] }])
  fields := #[{ name := "name", type := (.object "java/lang/String"), accessFlags := 18, slot := 0, constantValue := 0 }, { name := "ordinal", type := .int, accessFlags := 18, slot := 1, constantValue := 0 }, { name := "hash", type := .int, accessFlags := 2, slot := 2, constantValue := 0 }]
  methods := #[]
  instanceTypes := #[(.object "java/lang/String"), .int, .int]
  staticTypes := #[]
  resolved := Array.replicate 204 none
  statics := none }

def pool6 : Array CpInfo := pool [(9, .class_ 10), (0, u "com/example/lease/lease/model/WireNamed"), (62, .class_ 74), (0, u "java/lang/Object")] 43

/-- com/example/lease/lease/model/WireNamed -/
def k6 : Class := { plain "com/example/lease/lease/model/WireNamed" (some 0) with
  accessFlags := 1537
  interfaces := #[]
  cf := some (fileOf pool6 9 #[] #[] 1537 73 #[] #[])
  fields := #[]
  methods := #[]
  instanceTypes := #[]
  staticTypes := #[]
  resolved := Array.replicate 118 none
  statics := none }

def pool7 : Array CpInfo := pool [(1, .class_ 2), (0, u "com/example/lease/lease/model/RetryBackoff"), (2, u "EXPONENTIAL"), (0, u "Lcom/example/lease/lease/model/RetryBackoff;"), (2, u "FIXED"), (2, u "$VALUES"), (0, u "[Lcom/example/lease/lease/model/RetryBackoff;"), (6, .class_ 22), (1, u "java/lang/Enum"), (8, u "wireName"), (0, u "Ljava/lang/String;"), (3, .class_ 38), (1, u "com/example/lease/lease/model/WireNamed")] 87

/-- com/example/lease/lease/model/RetryBackoff -/
def k7 : Class := { plain "com/example/lease/lease/model/RetryBackoff" (some 5) with
  accessFlags := 16433
  interfaces := #[6]
  cf := some (fileOf pool7 1 #[] #[] 16433 20 #[36] #[{ accessFlags := 16409, nameIndex := 5, descriptorIndex := 6, attributes := #[] }, { accessFlags := 16409, nameIndex := 9, descriptorIndex := 6, attributes := #[] }, { accessFlags := 18, nameIndex := 31, descriptorIndex := 32, attributes := #[] }, { accessFlags := 4122, nameIndex := 12, descriptorIndex := 13, attributes := #[] }])
  fields := #[{ name := "EXPONENTIAL", type := (.object "com/example/lease/lease/model/RetryBackoff"), accessFlags := 16409, slot := 0, constantValue := 0 }, { name := "FIXED", type := (.object "com/example/lease/lease/model/RetryBackoff"), accessFlags := 16409, slot := 1, constantValue := 0 }, { name := "wireName", type := (.object "java/lang/String"), accessFlags := 18, slot := 3, constantValue := 0 }, { name := "$VALUES", type := (.array (.object "com/example/lease/lease/model/RetryBackoff")), accessFlags := 4122, slot := 2, constantValue := 0 }]
  methods := #[]
  instanceTypes := #[(.object "java/lang/String"), .int, .int, (.object "java/lang/String")]
  staticTypes := #[(.object "com/example/lease/lease/model/RetryBackoff"), (.object "com/example/lease/lease/model/RetryBackoff"), (.array (.object "com/example/lease/lease/model/RetryBackoff"))]
  resolved := Array.replicate 126 none
  statics := some 0 }

def pool8 : Array CpInfo := pool [(3, .methodref 4 5), (0, .class_ 6), (0, .nameAndType 7 8), (0, u "java/lang/Object"), (0, u "<init>"), (0, u "()V"), (0, .fieldref 10 11), (0, .class_ 12), (0, .nameAndType 13 14), (0, u "com/example/lease/lease/model/RetryPolicy"), (0, u "maxRetries"), (0, u "I"), (0, .fieldref 10 16), (0, .nameAndType 17 18), (0, u "backoff"), (0, u "Lcom/example/lease/lease/model/RetryBackoff;"), (0, .fieldref 10 20), (0, .nameAndType 21 14), (0, u "retryDelaySeconds"), (40, u "MAX_WAIT_SECONDS"), (0, u "J"), (1, u "(ILcom/example/lease/lease/model/RetryBackoff;I)V"), (8, u "equals"), (0, u "(Ljava/lang/Object;)Z")] 3

def k8c0 : Code := { maxStack := 2, maxLocals := 4, code := prog_23_method_1_code, exceptionTable := #[], attributes := #[] }
def k8m0 : Method := { name := "<init>", desc := "(ILcom/example/lease/lease/model/RetryBackoff;I)V", sig := { parameters := [.int, (.object "com/example/lease/lease/model/RetryBackoff"), .int], returnType := none }, accessFlags := 1, code := some k8c0 }
def k8c1 : Code := { maxStack := 2, maxLocals := 3, code := prog_23_method_8_code, exceptionTable := #[], attributes := #[] }
def k8m1 : Method := { name := "equals", desc := "(Ljava/lang/Object;)Z", sig := { parameters := [(.object "java/lang/Object")], returnType := some .boolean }, accessFlags := 1, code := some k8c1 }
/-- com/example/lease/lease/model/RetryPolicy -/
def k8 : Class := { plain "com/example/lease/lease/model/RetryPolicy" (some 0) with
  accessFlags := 49
  interfaces := #[]
  cf := some (fileOf pool8 10 #[] #[{ accessFlags := 1, nameIndex := 7, descriptorIndex := 65, attributes := #[] }, { accessFlags := 1, nameIndex := 74, descriptorIndex := 75, attributes := #[] }] 49 4 #[] #[{ accessFlags := 25, nameIndex := 62, descriptorIndex := 63, attributes := #[] }, { accessFlags := 18, nameIndex := 13, descriptorIndex := 14, attributes := #[] }, { accessFlags := 18, nameIndex := 17, descriptorIndex := 18, attributes := #[] }, { accessFlags := 18, nameIndex := 21, descriptorIndex := 14, attributes := #[] }])
  fields := #[{ name := "MAX_WAIT_SECONDS", type := .long, accessFlags := 25, slot := 0, constantValue := 0 }, { name := "maxRetries", type := .int, accessFlags := 18, slot := 0, constantValue := 0 }, { name := "backoff", type := (.object "com/example/lease/lease/model/RetryBackoff"), accessFlags := 18, slot := 1, constantValue := 0 }, { name := "retryDelaySeconds", type := .int, accessFlags := 18, slot := 2, constantValue := 0 }]
  methods := #[k8m0, k8m1]
  instanceTypes := #[.int, (.object "com/example/lease/lease/model/RetryBackoff"), .int]
  staticTypes := #[.long]
  resolved := Array.replicate 79 none
  statics := none }

def pool9 : Array CpInfo := pool [(1, .methodref 2 3), (0, .class_ 4), (0, .nameAndType 5 6), (0, u "java/lang/Object"), (0, u "<init>"), (0, u "()V"), (1, .class_ 10), (1, u "java/lang/Number"), (2, .class_ 14), (0, u "java/io/Serializable"), (0, u "serialVersionUID"), (0, u "J")] 20

def k9c0 : Code := { maxStack := 1, maxLocals := 1, code := jdk_18_method_1_code, exceptionTable := #[], attributes := #[] }
def k9m0 : Method := { name := "<init>", desc := "()V", sig := { parameters := [], returnType := none }, accessFlags := 1, code := some k9c0 }
/-- java/lang/Number -/
def k9 : Class := { plain "java/lang/Number" (some 0) with
  accessFlags := 1057
  interfaces := #[4]
  cf := some (fileOf pool9 8 #[] #[{ accessFlags := 1, nameIndex := 5, descriptorIndex := 6, attributes := #[] }] 1057 2 #[13] #[{ accessFlags := 26, nameIndex := 15, descriptorIndex := 16, attributes := #[] }])
  fields := #[{ name := "serialVersionUID", type := .long, accessFlags := 26, slot := 0, constantValue := 0 }]
  methods := #[k9m0]
  instanceTypes := #[]
  staticTypes := #[.long]
  resolved := Array.replicate 37 none
  statics := none }

def pool10 : Array CpInfo := pool [(1, .class_ 2), (0, u "java/lang/constant/ConstantDesc"), (0, .class_ 4), (0, u "java/lang/Object")] 32

/-- java/lang/constant/ConstantDesc -/
def k10 : Class := { plain "java/lang/constant/ConstantDesc" (some 0) with
  accessFlags := 1537
  interfaces := #[]
  cf := some (fileOf pool10 1 #[] #[] 1537 3 #[] #[])
  fields := #[]
  methods := #[]
  instanceTypes := #[]
  staticTypes := #[]
  resolved := Array.replicate 37 none
  statics := none }

def pool11 : Array CpInfo := pool [(1, .class_ 2), (0, u "java/lang/Integer"), (16, u "digits"), (0, u "[C"), (46, u "<init>"), (17, u "DigitOnes"), (0, u "[B"), (2, u "DigitTens"), (10, .nameAndType 67 101), (0, u "()V"), (85, u "valueOf"), (0, u "(I)Ljava/lang/Integer;"), (0, .class_ 190), (0, u "java/lang/Integer$IntegerCache"), (0, .fieldref 189 192), (0, .nameAndType 193 194), (0, u "high"), (0, u "I"), (0, .fieldref 189 196), (0, .nameAndType 197 198), (0, u "cache"), (0, u "[Ljava/lang/Integer;"), (0, .methodref 1 200), (0, .nameAndType 67 201), (0, u "(I)V"), (0, .methodref 203 100), (0, .class_ 204), (0, u "java/lang/Number"), (0, .fieldref 1 206), (0, .nameAndType 207 194), (0, u "value"), (94, u "TYPE"), (0, u "Ljava/lang/Class;"), (0, .class_ 305), (0, u "java/lang/Comparable"), (0, .class_ 307), (0, u "java/lang/constant/Constable"), (0, .class_ 309), (0, u "java/lang/constant/ConstantDesc"), (0, u "MIN_VALUE"), (1, u "MAX_VALUE"), (3, u "SIZE"), (1, u "BYTES"), (1, u "serialVersionUID"), (0, u "J")] 131

def k11c0 : Code := { maxStack := 3, maxLocals := 1, code := jdk_33_method_22_code, exceptionTable := #[], attributes := #[] }
def k11m0 : Method := { name := "valueOf", desc := "(I)Ljava/lang/Integer;", sig := { parameters := [.int], returnType := some (.object "java/lang/Integer") }, accessFlags := 9, code := some k11c0 }
def k11c1 : Code := { maxStack := 2, maxLocals := 2, code := jdk_33_method_23_code, exceptionTable := #[], attributes := #[] }
def k11m1 : Method := { name := "<init>", desc := "(I)V", sig := { parameters := [.int], returnType := none }, accessFlags := 1, code := some k11c1 }
/-- java/lang/Integer -/
def k11 : Class := { plain "java/lang/Integer" (some 9) with
  accessFlags := 49
  interfaces := #[3, 2, 10]
  cf := some (fileOf pool11 1 #[.nestMembers #[189]] #[{ accessFlags := 9, nameIndex := 187, descriptorIndex := 188, attributes := #[] }, { accessFlags := 1, nameIndex := 67, descriptorIndex := 201, attributes := #[] }] 49 203 #[304, 306, 308] #[{ accessFlags := 25, nameIndex := 310, descriptorIndex := 194, attributes := #[] }, { accessFlags := 25, nameIndex := 312, descriptorIndex := 194, attributes := #[] }, { accessFlags := 25, nameIndex := 302, descriptorIndex := 303, attributes := #[] }, { accessFlags := 24, nameIndex := 19, descriptorIndex := 20, attributes := #[] }, { accessFlags := 24, nameIndex := 89, descriptorIndex := 86, attributes := #[] }, { accessFlags := 24, nameIndex := 85, descriptorIndex := 86, attributes := #[] }, { accessFlags := 18, nameIndex := 207, descriptorIndex := 194, attributes := #[] }, { accessFlags := 25, nameIndex := 316, descriptorIndex := 194, attributes := #[] }, { accessFlags := 25, nameIndex := 318, descriptorIndex := 194, attributes := #[] }, { accessFlags := 26, nameIndex := 320, descriptorIndex := 321, attributes := #[] }])
  fields := #[{ name := "MIN_VALUE", type := .int, accessFlags := 25, slot := 0, constantValue := 0 }, { name := "MAX_VALUE", type := .int, accessFlags := 25, slot := 1, constantValue := 0 }, { name := "TYPE", type := (.object "java/lang/Class"), accessFlags := 25, slot := 2, constantValue := 0 }, { name := "digits", type := (.array .char), accessFlags := 24, slot := 3, constantValue := 0 }, { name := "DigitTens", type := (.array .byte), accessFlags := 24, slot := 4, constantValue := 0 }, { name := "DigitOnes", type := (.array .byte), accessFlags := 24, slot := 5, constantValue := 0 }, { name := "value", type := .int, accessFlags := 18, slot := 0, constantValue := 0 }, { name := "SIZE", type := .int, accessFlags := 25, slot := 6, constantValue := 0 }, { name := "BYTES", type := .int, accessFlags := 25, slot := 7, constantValue := 0 }, { name := "serialVersionUID", type := .long, accessFlags := 26, slot := 8, constantValue := 0 }]
  methods := #[k11m0, k11m1]
  instanceTypes := #[.int]
  staticTypes := #[.int, .int, (.object "java/lang/Class"), (.array .char), (.array .byte), (.array .byte), .int, .int, .long]
  resolved := Array.replicate 453 none
  statics := none }

def pool12 : Array CpInfo := pool [(2, .class_ 4), (1, u "java/lang/Object"), (0, u "<init>"), (0, u "()V"), (0, .class_ 8), (0, u "java/lang/Integer"), (7, .class_ 18), (1, u "java/lang/Integer$IntegerCache"), (0, u "$assertionsDisabled"), (0, u "Z"), (26, u "high"), (0, u "I"), (8, u "archivedCache"), (0, u "[Ljava/lang/Integer;"), (12, u "cache"), (0, u "low")] 27

def k12m0 : Method := { name := "<init>", desc := "()V", sig := { parameters := [], returnType := none }, accessFlags := 2, code := none }
/-- java/lang/Integer$IntegerCache -/
def k12 : Class := { plain "java/lang/Integer$IntegerCache" (some 0) with
  accessFlags := 48
  interfaces := #[]
  cf := some (fileOf pool12 16 #[.nestHost 7] #[{ accessFlags := 2, nameIndex := 5, descriptorIndex := 6, attributes := #[] }] 48 2 #[] #[{ accessFlags := 24, nameIndex := 72, descriptorIndex := 48, attributes := #[] }, { accessFlags := 24, nameIndex := 47, descriptorIndex := 48, attributes := #[] }, { accessFlags := 24, nameIndex := 71, descriptorIndex := 58, attributes := #[] }, { accessFlags := 8, nameIndex := 57, descriptorIndex := 58, attributes := #[] }, { accessFlags := 4120, nameIndex := 19, descriptorIndex := 20, attributes := #[] }])
  fields := #[{ name := "low", type := .int, accessFlags := 24, slot := 0, constantValue := 0 }, { name := "high", type := .int, accessFlags := 24, slot := 1, constantValue := 0 }, { name := "cache", type := (.array (.object "java/lang/Integer")), accessFlags := 24, slot := 2, constantValue := 0 }, { name := "archivedCache", type := (.array (.object "java/lang/Integer")), accessFlags := 8, slot := 3, constantValue := 0 }, { name := "$assertionsDisabled", type := .boolean, accessFlags := 4120, slot := 4, constantValue := 0 }]
  methods := #[k12m0]
  instanceTypes := #[]
  staticTypes := #[.int, .int, (.array (.object "java/lang/Integer")), (.array (.object "java/lang/Integer")), .boolean]
  resolved := Array.replicate 100 none
  statics := some 1 }

def pool13 : Array CpInfo := pool [(1, u "java/lang/Cloneable"), (0, .class_ 1), (0, u "java/lang/Object"), (0, .class_ 3)] 3

/-- java/lang/Cloneable -/
def k13 : Class := { plain "java/lang/Cloneable" (some 0) with
  accessFlags := 1537
  interfaces := #[]
  cf := some (fileOf pool13 2 #[] #[] 1537 4 #[] #[])
  fields := #[]
  methods := #[]
  instanceTypes := #[]
  staticTypes := #[]
  resolved := Array.replicate 8 none
  statics := none }

/-- the primitive byte -/
def k14 : Class := { plain "byte" none with kind := .primitive 'B', accessFlags := 0x411 }
/-- [B -/
def k15 : Class := { plain "[B" (some 0) with kind := .array 14 .byte, interfaces := #[13, 4], accessFlags := 1041 }

/-- the primitive int -/
def k16 : Class := { plain "int" none with kind := .primitive 'I', accessFlags := 0x411 }
/-- [I -/
def k17 : Class := { plain "[I" (some 0) with kind := .array 16 .int, interfaces := #[13, 4], accessFlags := 1041 }

/-- [Ljava/lang/Integer; -/
def k18 : Class := { plain "[Ljava/lang/Integer;" (some 0) with kind := .array 11 (.object "java/lang/Integer"), interfaces := #[13, 4], accessFlags := 1041 }

def heap : Heap := #[{ cls := 7, slots := #[.ref 260, .ref 259, .null], vm := .statics 7 },
  { cls := 12, slots := #[.int 0, .int 127, .ref 2, .null, .int 0], vm := .statics 12 },
  { cls := 18, slots := #[.ref 3, .ref 4, .ref 5, .ref 6, .ref 7, .ref 8, .ref 9, .ref 10, .ref 11, .ref 12, .ref 13, .ref 14, .ref 15, .ref 16, .ref 17, .ref 18, .ref 19, .ref 20, .ref 21, .ref 22, .ref 23, .ref 24, .ref 25, .ref 26, .ref 27, .ref 28, .ref 29, .ref 30, .ref 31, .ref 32, .ref 33, .ref 34, .ref 35, .ref 36, .ref 37, .ref 38, .ref 39, .ref 40, .ref 41, .ref 42, .ref 43, .ref 44, .ref 45, .ref 46, .ref 47, .ref 48, .ref 49, .ref 50, .ref 51, .ref 52, .ref 53, .ref 54, .ref 55, .ref 56, .ref 57, .ref 58, .ref 59, .ref 60, .ref 61, .ref 62, .ref 63, .ref 64, .ref 65, .ref 66, .ref 67, .ref 68, .ref 69, .ref 70, .ref 71, .ref 72, .ref 73, .ref 74, .ref 75, .ref 76, .ref 77, .ref 78, .ref 79, .ref 80, .ref 81, .ref 82, .ref 83, .ref 84, .ref 85, .ref 86, .ref 87, .ref 88, .ref 89, .ref 90, .ref 91, .ref 92, .ref 93, .ref 94, .ref 95, .ref 96, .ref 97, .ref 98, .ref 99, .ref 100, .ref 101, .ref 102, .ref 103, .ref 104, .ref 105, .ref 106, .ref 107, .ref 108, .ref 109, .ref 110, .ref 111, .ref 112, .ref 113, .ref 114, .ref 115, .ref 116, .ref 117, .ref 118, .ref 119, .ref 120, .ref 121, .ref 122, .ref 123, .ref 124, .ref 125, .ref 126, .ref 127, .ref 128, .ref 129, .ref 130, .ref 131, .ref 132, .ref 133, .ref 134, .ref 135, .ref 136, .ref 137, .ref 138, .ref 139, .ref 140, .ref 141, .ref 142, .ref 143, .ref 144, .ref 145, .ref 146, .ref 147, .ref 148, .ref 149, .ref 150, .ref 151, .ref 152, .ref 153, .ref 154, .ref 155, .ref 156, .ref 157, .ref 158, .ref 159, .ref 160, .ref 161, .ref 162, .ref 163, .ref 164, .ref 165, .ref 166, .ref 167, .ref 168, .ref 169, .ref 170, .ref 171, .ref 172, .ref 173, .ref 174, .ref 175, .ref 176, .ref 177, .ref 178, .ref 179, .ref 180, .ref 181, .ref 182, .ref 183, .ref 184, .ref 185, .ref 186, .ref 187, .ref 188, .ref 189, .ref 190, .ref 191, .ref 192, .ref 193, .ref 194, .ref 195, .ref 196, .ref 197, .ref 198, .ref 199, .ref 200, .ref 201, .ref 202, .ref 203, .ref 204, .ref 205, .ref 206, .ref 207, .ref 208, .ref 209, .ref 210, .ref 211, .ref 212, .ref 213, .ref 214, .ref 215, .ref 216, .ref 217, .ref 218, .ref 219, .ref 220, .ref 221, .ref 222, .ref 223, .ref 224, .ref 225, .ref 226, .ref 227, .ref 228, .ref 229, .ref 230, .ref 231, .ref 232, .ref 233, .ref 234, .ref 235, .ref 236, .ref 237, .ref 238, .ref 239, .ref 240, .ref 241, .ref 242, .ref 243, .ref 244, .ref 245, .ref 246, .ref 247, .ref 248, .ref 249, .ref 250, .ref 251, .ref 252, .ref 253, .ref 254, .ref 255, .ref 256, .ref 257, .ref 258], vm := .none },
  { cls := 11, slots := #[.int (-128)], vm := .none },
  { cls := 11, slots := #[.int (-127)], vm := .none },
  { cls := 11, slots := #[.int (-126)], vm := .none },
  { cls := 11, slots := #[.int (-125)], vm := .none },
  { cls := 11, slots := #[.int (-124)], vm := .none },
  { cls := 11, slots := #[.int (-123)], vm := .none },
  { cls := 11, slots := #[.int (-122)], vm := .none },
  { cls := 11, slots := #[.int (-121)], vm := .none },
  { cls := 11, slots := #[.int (-120)], vm := .none },
  { cls := 11, slots := #[.int (-119)], vm := .none },
  { cls := 11, slots := #[.int (-118)], vm := .none },
  { cls := 11, slots := #[.int (-117)], vm := .none },
  { cls := 11, slots := #[.int (-116)], vm := .none },
  { cls := 11, slots := #[.int (-115)], vm := .none },
  { cls := 11, slots := #[.int (-114)], vm := .none },
  { cls := 11, slots := #[.int (-113)], vm := .none },
  { cls := 11, slots := #[.int (-112)], vm := .none },
  { cls := 11, slots := #[.int (-111)], vm := .none },
  { cls := 11, slots := #[.int (-110)], vm := .none },
  { cls := 11, slots := #[.int (-109)], vm := .none },
  { cls := 11, slots := #[.int (-108)], vm := .none },
  { cls := 11, slots := #[.int (-107)], vm := .none },
  { cls := 11, slots := #[.int (-106)], vm := .none },
  { cls := 11, slots := #[.int (-105)], vm := .none },
  { cls := 11, slots := #[.int (-104)], vm := .none },
  { cls := 11, slots := #[.int (-103)], vm := .none },
  { cls := 11, slots := #[.int (-102)], vm := .none },
  { cls := 11, slots := #[.int (-101)], vm := .none },
  { cls := 11, slots := #[.int (-100)], vm := .none },
  { cls := 11, slots := #[.int (-99)], vm := .none },
  { cls := 11, slots := #[.int (-98)], vm := .none },
  { cls := 11, slots := #[.int (-97)], vm := .none },
  { cls := 11, slots := #[.int (-96)], vm := .none },
  { cls := 11, slots := #[.int (-95)], vm := .none },
  { cls := 11, slots := #[.int (-94)], vm := .none },
  { cls := 11, slots := #[.int (-93)], vm := .none },
  { cls := 11, slots := #[.int (-92)], vm := .none },
  { cls := 11, slots := #[.int (-91)], vm := .none },
  { cls := 11, slots := #[.int (-90)], vm := .none },
  { cls := 11, slots := #[.int (-89)], vm := .none },
  { cls := 11, slots := #[.int (-88)], vm := .none },
  { cls := 11, slots := #[.int (-87)], vm := .none },
  { cls := 11, slots := #[.int (-86)], vm := .none },
  { cls := 11, slots := #[.int (-85)], vm := .none },
  { cls := 11, slots := #[.int (-84)], vm := .none },
  { cls := 11, slots := #[.int (-83)], vm := .none },
  { cls := 11, slots := #[.int (-82)], vm := .none },
  { cls := 11, slots := #[.int (-81)], vm := .none },
  { cls := 11, slots := #[.int (-80)], vm := .none },
  { cls := 11, slots := #[.int (-79)], vm := .none },
  { cls := 11, slots := #[.int (-78)], vm := .none },
  { cls := 11, slots := #[.int (-77)], vm := .none },
  { cls := 11, slots := #[.int (-76)], vm := .none },
  { cls := 11, slots := #[.int (-75)], vm := .none },
  { cls := 11, slots := #[.int (-74)], vm := .none },
  { cls := 11, slots := #[.int (-73)], vm := .none },
  { cls := 11, slots := #[.int (-72)], vm := .none },
  { cls := 11, slots := #[.int (-71)], vm := .none },
  { cls := 11, slots := #[.int (-70)], vm := .none },
  { cls := 11, slots := #[.int (-69)], vm := .none },
  { cls := 11, slots := #[.int (-68)], vm := .none },
  { cls := 11, slots := #[.int (-67)], vm := .none },
  { cls := 11, slots := #[.int (-66)], vm := .none },
  { cls := 11, slots := #[.int (-65)], vm := .none },
  { cls := 11, slots := #[.int (-64)], vm := .none },
  { cls := 11, slots := #[.int (-63)], vm := .none },
  { cls := 11, slots := #[.int (-62)], vm := .none },
  { cls := 11, slots := #[.int (-61)], vm := .none },
  { cls := 11, slots := #[.int (-60)], vm := .none },
  { cls := 11, slots := #[.int (-59)], vm := .none },
  { cls := 11, slots := #[.int (-58)], vm := .none },
  { cls := 11, slots := #[.int (-57)], vm := .none },
  { cls := 11, slots := #[.int (-56)], vm := .none },
  { cls := 11, slots := #[.int (-55)], vm := .none },
  { cls := 11, slots := #[.int (-54)], vm := .none },
  { cls := 11, slots := #[.int (-53)], vm := .none },
  { cls := 11, slots := #[.int (-52)], vm := .none },
  { cls := 11, slots := #[.int (-51)], vm := .none },
  { cls := 11, slots := #[.int (-50)], vm := .none },
  { cls := 11, slots := #[.int (-49)], vm := .none },
  { cls := 11, slots := #[.int (-48)], vm := .none },
  { cls := 11, slots := #[.int (-47)], vm := .none },
  { cls := 11, slots := #[.int (-46)], vm := .none },
  { cls := 11, slots := #[.int (-45)], vm := .none },
  { cls := 11, slots := #[.int (-44)], vm := .none },
  { cls := 11, slots := #[.int (-43)], vm := .none },
  { cls := 11, slots := #[.int (-42)], vm := .none },
  { cls := 11, slots := #[.int (-41)], vm := .none },
  { cls := 11, slots := #[.int (-40)], vm := .none },
  { cls := 11, slots := #[.int (-39)], vm := .none },
  { cls := 11, slots := #[.int (-38)], vm := .none },
  { cls := 11, slots := #[.int (-37)], vm := .none },
  { cls := 11, slots := #[.int (-36)], vm := .none },
  { cls := 11, slots := #[.int (-35)], vm := .none },
  { cls := 11, slots := #[.int (-34)], vm := .none },
  { cls := 11, slots := #[.int (-33)], vm := .none },
  { cls := 11, slots := #[.int (-32)], vm := .none },
  { cls := 11, slots := #[.int (-31)], vm := .none },
  { cls := 11, slots := #[.int (-30)], vm := .none },
  { cls := 11, slots := #[.int (-29)], vm := .none },
  { cls := 11, slots := #[.int (-28)], vm := .none },
  { cls := 11, slots := #[.int (-27)], vm := .none },
  { cls := 11, slots := #[.int (-26)], vm := .none },
  { cls := 11, slots := #[.int (-25)], vm := .none },
  { cls := 11, slots := #[.int (-24)], vm := .none },
  { cls := 11, slots := #[.int (-23)], vm := .none },
  { cls := 11, slots := #[.int (-22)], vm := .none },
  { cls := 11, slots := #[.int (-21)], vm := .none },
  { cls := 11, slots := #[.int (-20)], vm := .none },
  { cls := 11, slots := #[.int (-19)], vm := .none },
  { cls := 11, slots := #[.int (-18)], vm := .none },
  { cls := 11, slots := #[.int (-17)], vm := .none },
  { cls := 11, slots := #[.int (-16)], vm := .none },
  { cls := 11, slots := #[.int (-15)], vm := .none },
  { cls := 11, slots := #[.int (-14)], vm := .none },
  { cls := 11, slots := #[.int (-13)], vm := .none },
  { cls := 11, slots := #[.int (-12)], vm := .none },
  { cls := 11, slots := #[.int (-11)], vm := .none },
  { cls := 11, slots := #[.int (-10)], vm := .none },
  { cls := 11, slots := #[.int (-9)], vm := .none },
  { cls := 11, slots := #[.int (-8)], vm := .none },
  { cls := 11, slots := #[.int (-7)], vm := .none },
  { cls := 11, slots := #[.int (-6)], vm := .none },
  { cls := 11, slots := #[.int (-5)], vm := .none },
  { cls := 11, slots := #[.int (-4)], vm := .none },
  { cls := 11, slots := #[.int (-3)], vm := .none },
  { cls := 11, slots := #[.int (-2)], vm := .none },
  { cls := 11, slots := #[.int (-1)], vm := .none },
  { cls := 11, slots := #[.int 0], vm := .none },
  { cls := 11, slots := #[.int 1], vm := .none },
  { cls := 11, slots := #[.int 2], vm := .none },
  { cls := 11, slots := #[.int 3], vm := .none },
  { cls := 11, slots := #[.int 4], vm := .none },
  { cls := 11, slots := #[.int 5], vm := .none },
  { cls := 11, slots := #[.int 6], vm := .none },
  { cls := 11, slots := #[.int 7], vm := .none },
  { cls := 11, slots := #[.int 8], vm := .none },
  { cls := 11, slots := #[.int 9], vm := .none },
  { cls := 11, slots := #[.int 10], vm := .none },
  { cls := 11, slots := #[.int 11], vm := .none },
  { cls := 11, slots := #[.int 12], vm := .none },
  { cls := 11, slots := #[.int 13], vm := .none },
  { cls := 11, slots := #[.int 14], vm := .none },
  { cls := 11, slots := #[.int 15], vm := .none },
  { cls := 11, slots := #[.int 16], vm := .none },
  { cls := 11, slots := #[.int 17], vm := .none },
  { cls := 11, slots := #[.int 18], vm := .none },
  { cls := 11, slots := #[.int 19], vm := .none },
  { cls := 11, slots := #[.int 20], vm := .none },
  { cls := 11, slots := #[.int 21], vm := .none },
  { cls := 11, slots := #[.int 22], vm := .none },
  { cls := 11, slots := #[.int 23], vm := .none },
  { cls := 11, slots := #[.int 24], vm := .none },
  { cls := 11, slots := #[.int 25], vm := .none },
  { cls := 11, slots := #[.int 26], vm := .none },
  { cls := 11, slots := #[.int 27], vm := .none },
  { cls := 11, slots := #[.int 28], vm := .none },
  { cls := 11, slots := #[.int 29], vm := .none },
  { cls := 11, slots := #[.int 30], vm := .none },
  { cls := 11, slots := #[.int 31], vm := .none },
  { cls := 11, slots := #[.int 32], vm := .none },
  { cls := 11, slots := #[.int 33], vm := .none },
  { cls := 11, slots := #[.int 34], vm := .none },
  { cls := 11, slots := #[.int 35], vm := .none },
  { cls := 11, slots := #[.int 36], vm := .none },
  { cls := 11, slots := #[.int 37], vm := .none },
  { cls := 11, slots := #[.int 38], vm := .none },
  { cls := 11, slots := #[.int 39], vm := .none },
  { cls := 11, slots := #[.int 40], vm := .none },
  { cls := 11, slots := #[.int 41], vm := .none },
  { cls := 11, slots := #[.int 42], vm := .none },
  { cls := 11, slots := #[.int 43], vm := .none },
  { cls := 11, slots := #[.int 44], vm := .none },
  { cls := 11, slots := #[.int 45], vm := .none },
  { cls := 11, slots := #[.int 46], vm := .none },
  { cls := 11, slots := #[.int 47], vm := .none },
  { cls := 11, slots := #[.int 48], vm := .none },
  { cls := 11, slots := #[.int 49], vm := .none },
  { cls := 11, slots := #[.int 50], vm := .none },
  { cls := 11, slots := #[.int 51], vm := .none },
  { cls := 11, slots := #[.int 52], vm := .none },
  { cls := 11, slots := #[.int 53], vm := .none },
  { cls := 11, slots := #[.int 54], vm := .none },
  { cls := 11, slots := #[.int 55], vm := .none },
  { cls := 11, slots := #[.int 56], vm := .none },
  { cls := 11, slots := #[.int 57], vm := .none },
  { cls := 11, slots := #[.int 58], vm := .none },
  { cls := 11, slots := #[.int 59], vm := .none },
  { cls := 11, slots := #[.int 60], vm := .none },
  { cls := 11, slots := #[.int 61], vm := .none },
  { cls := 11, slots := #[.int 62], vm := .none },
  { cls := 11, slots := #[.int 63], vm := .none },
  { cls := 11, slots := #[.int 64], vm := .none },
  { cls := 11, slots := #[.int 65], vm := .none },
  { cls := 11, slots := #[.int 66], vm := .none },
  { cls := 11, slots := #[.int 67], vm := .none },
  { cls := 11, slots := #[.int 68], vm := .none },
  { cls := 11, slots := #[.int 69], vm := .none },
  { cls := 11, slots := #[.int 70], vm := .none },
  { cls := 11, slots := #[.int 71], vm := .none },
  { cls := 11, slots := #[.int 72], vm := .none },
  { cls := 11, slots := #[.int 73], vm := .none },
  { cls := 11, slots := #[.int 74], vm := .none },
  { cls := 11, slots := #[.int 75], vm := .none },
  { cls := 11, slots := #[.int 76], vm := .none },
  { cls := 11, slots := #[.int 77], vm := .none },
  { cls := 11, slots := #[.int 78], vm := .none },
  { cls := 11, slots := #[.int 79], vm := .none },
  { cls := 11, slots := #[.int 80], vm := .none },
  { cls := 11, slots := #[.int 81], vm := .none },
  { cls := 11, slots := #[.int 82], vm := .none },
  { cls := 11, slots := #[.int 83], vm := .none },
  { cls := 11, slots := #[.int 84], vm := .none },
  { cls := 11, slots := #[.int 85], vm := .none },
  { cls := 11, slots := #[.int 86], vm := .none },
  { cls := 11, slots := #[.int 87], vm := .none },
  { cls := 11, slots := #[.int 88], vm := .none },
  { cls := 11, slots := #[.int 89], vm := .none },
  { cls := 11, slots := #[.int 90], vm := .none },
  { cls := 11, slots := #[.int 91], vm := .none },
  { cls := 11, slots := #[.int 92], vm := .none },
  { cls := 11, slots := #[.int 93], vm := .none },
  { cls := 11, slots := #[.int 94], vm := .none },
  { cls := 11, slots := #[.int 95], vm := .none },
  { cls := 11, slots := #[.int 96], vm := .none },
  { cls := 11, slots := #[.int 97], vm := .none },
  { cls := 11, slots := #[.int 98], vm := .none },
  { cls := 11, slots := #[.int 99], vm := .none },
  { cls := 11, slots := #[.int 100], vm := .none },
  { cls := 11, slots := #[.int 101], vm := .none },
  { cls := 11, slots := #[.int 102], vm := .none },
  { cls := 11, slots := #[.int 103], vm := .none },
  { cls := 11, slots := #[.int 104], vm := .none },
  { cls := 11, slots := #[.int 105], vm := .none },
  { cls := 11, slots := #[.int 106], vm := .none },
  { cls := 11, slots := #[.int 107], vm := .none },
  { cls := 11, slots := #[.int 108], vm := .none },
  { cls := 11, slots := #[.int 109], vm := .none },
  { cls := 11, slots := #[.int 110], vm := .none },
  { cls := 11, slots := #[.int 111], vm := .none },
  { cls := 11, slots := #[.int 112], vm := .none },
  { cls := 11, slots := #[.int 113], vm := .none },
  { cls := 11, slots := #[.int 114], vm := .none },
  { cls := 11, slots := #[.int 115], vm := .none },
  { cls := 11, slots := #[.int 116], vm := .none },
  { cls := 11, slots := #[.int 117], vm := .none },
  { cls := 11, slots := #[.int 118], vm := .none },
  { cls := 11, slots := #[.int 119], vm := .none },
  { cls := 11, slots := #[.int 120], vm := .none },
  { cls := 11, slots := #[.int 121], vm := .none },
  { cls := 11, slots := #[.int 122], vm := .none },
  { cls := 11, slots := #[.int 123], vm := .none },
  { cls := 11, slots := #[.int 124], vm := .none },
  { cls := 11, slots := #[.int 125], vm := .none },
  { cls := 11, slots := #[.int 126], vm := .none },
  { cls := 11, slots := #[.int 127], vm := .none },
  { cls := 7, slots := #[.null, .int 1, .int 0, .null], vm := .none },
  { cls := 7, slots := #[.null, .int 0, .int 0, .null], vm := .none }]
def classes : Array Class := #[k0, k1, k2, k3, k4, k5, k6, k7, k8, k9, k10, k11, k12, k13, k14, k15, k16, k17, k18]
def interned : List (Array UInt16 × Addr) := []
def slotsUsed : Nat := 528
def theMethod : MethodId := ⟨1, 1⟩
def args0 : Array Value := #[.int 5, .int 3, .int 7, .int 8, .int 9]
def aboutOver (below : List Frame) : State where
  vm := { classes := classes, interned := interned.toArray }
  heap := heap
  slotsUsed := slotsUsed
  threads := #[{ frames := .invoking theMethod args0 :: below }]
def below0 : List Frame := [.native { method := ⟨0, 0⟩, args := #[] }]
def about1 : State := aboutOver below0
def p0 : Program := .bare "" "" ""
def e0 : Env := launch0.env 0 0 0
theorem w_frames : about1.frames = Frame.invoking theMethod args0 :: below0 := rfl
set_option maxRecDepth 65536 in
theorem w_args : argsFit about1.vm theMethod args0 = true := by decide +kernel
set_option maxRecDepth 65536 in
theorem w_heap : heapFits about1 = true := by decide +kernel
set_option maxRecDepth 65536 in
theorem w_runnable : about1.curStatus? = some .runnable := by decide +kernel
set_option maxRecDepth 65536 in
theorem w_alone : about1.alone = true := by decide +kernel
set_option maxRecDepth 65536 in
theorem w_named : about1.methodNamed? x = some theMethod := by decide +kernel
set_option maxRecDepth 65536 in
theorem w_hears : about1.hears theMethod below0 = true := by decide +kernel
set_option maxRecDepth 65536 in
theorem w_ripe : about1.ripe theMethod args0 below0 = true := by decide +kernel
theorem w_running : about1.status = .running := rfl
set_option maxRecDepth 65536 in
theorem w_room : about1.hasRoom e0.platform room_1 = true :=
  launch0.hasRoom_least _ room_1 (by decide +kernel) (by decide +kernel) (by decide +kernel) (by decide +kernel) (by decide +kernel) (by decide +kernel)
theorem allAtoms_all (ts : List Jvm.Cond) (a : Array Jvm.Value) (st : Jvm.State) : (allAtoms ts).before a st = ts.all (fun c => c.before a st) := by
  induction ts with
  | nil => rfl
  | cons c t ih =>
    show (Jvm.Cond.and c (allAtoms t)).before a st = _
    rw [Jvm.Cond.before_and, ih, List.all_cons]
def words1 : List Jvm.Cond := Jvm.Cond.code x code maxLocals ret :: tables_1
/-- a 'code' word, met by the world's own term for the bytes: nothing is compared byte by byte -/
theorem code_word {y : MethodName} {bytes : ByteArray} {mx : Nat} {rt : Option FieldType} {a : Array Value} {s : State} {m : MethodId} {meth : Method} {c : Code} (h1 : s.methodNamed? y = some m) (h2 : s.vm.method? m = some meth) (h3 : meth.code = some c) (h4 : c.code = bytes)
    (h5 : (c.maxLocals == mx && c.exceptionTable.isEmpty && decide (c.maxStack ≤ mostOperands) && decide (meth.sig.returnType = rt) && !meth.locks && decide (parseMethodDescriptor y.desc = some meth.sig)) = true) : (Jvm.Cond.code y bytes mx rt).before a s = true := by
  simp only [Bool.and_eq_true, beq_iff_eq, Bool.not_eq_true', decide_eq_true_eq] at h5
  obtain ⟨⟨⟨⟨⟨g1, g2⟩, g3⟩, g4⟩, g5⟩, g6⟩ := h5
  simp [Cond.before, Cond.holds, Cond.value, h1, h2, h3, h4, g1, g2, g3, g4, g5, g6]
def isCode : Jvm.Cond → Bool
  | .code _ _ _ _ => true
  | _ => false
theorem all_split {L : List Jvm.Cond} {P : Jvm.Cond → Bool} (h1 : L.all (fun c => isCode c || P c) = true) (h2 : ∀ c ∈ L.filter isCode, P c = true) : L.all P = true := by
  refine List.all_eq_true.mpr fun c hc => ?_
  have h := List.all_eq_true.mp h1 c hc
  rcases Bool.eq_false_or_eq_true (isCode c) with hi | hi
  · exact h2 c (List.mem_filter.mpr ⟨hc, hi⟩)
  · simpa [hi] using h
set_option maxRecDepth 65536 in
theorem w_c0 : (Jvm.Cond.code x code maxLocals ret).before args0 about1 = true := code_word (m := ⟨1, 1⟩) (meth := k1m1) (c := k1c1) (by decide +kernel) rfl rfl rfl (by decide +kernel)
set_option maxRecDepth 65536 in
theorem w_c1 : (Jvm.Cond.code ({ cls := "com/example/lease/lease/model/RetryPolicy", name := "<init>", desc := "(ILcom/example/lease/lease/model/RetryBackoff;I)V" } : Jvm.MethodName) prog_23_method_1_code (4 : Nat) (Option.none : Option Jvm.ClassFile.FieldType)).before args0 about1 = true := code_word (m := ⟨8, 0⟩) (meth := k8m0) (c := k8c0) (by decide +kernel) rfl rfl rfl (by decide +kernel)
set_option maxRecDepth 65536 in
theorem w_c2 : (Jvm.Cond.code ({ cls := "java/lang/Object", name := "<init>", desc := "()V" } : Jvm.MethodName) object_method_1_code (1 : Nat) (Option.none : Option Jvm.ClassFile.FieldType)).before args0 about1 = true := code_word (m := ⟨0, 0⟩) (meth := k0m0) (c := k0c0) (by decide +kernel) rfl rfl rfl (by decide +kernel)
set_option maxRecDepth 65536 in
theorem w_c3 : (Jvm.Cond.code ({ cls := "com/example/lease/lease/model/RetryPolicy", name := "equals", desc := "(Ljava/lang/Object;)Z" } : Jvm.MethodName) prog_23_method_8_code (3 : Nat) (Option.some Jvm.ClassFile.FieldType.boolean)).before args0 about1 = true := code_word (m := ⟨8, 1⟩) (meth := k8m1) (c := k8c1) (by decide +kernel) rfl rfl rfl (by decide +kernel)
set_option maxRecDepth 65536 in
theorem w_c4 : (Jvm.Cond.code ({ cls := "java/lang/Integer", name := "valueOf", desc := "(I)Ljava/lang/Integer;" } : Jvm.MethodName) jdk_33_method_22_code (1 : Nat) (Option.some (Jvm.ClassFile.FieldType.object "java/lang/Integer"))).before args0 about1 = true := code_word (m := ⟨11, 0⟩) (meth := k11m0) (c := k11c0) (by decide +kernel) rfl rfl rfl (by decide +kernel)
set_option maxRecDepth 65536 in
theorem w_c5 : (Jvm.Cond.code ({ cls := "java/lang/Integer", name := "<init>", desc := "(I)V" } : Jvm.MethodName) jdk_33_method_23_code (2 : Nat) (Option.none : Option Jvm.ClassFile.FieldType)).before args0 about1 = true := code_word (m := ⟨11, 1⟩) (meth := k11m1) (c := k11c1) (by decide +kernel) rfl rfl rfl (by decide +kernel)
set_option maxRecDepth 65536 in
theorem w_c6 : (Jvm.Cond.code ({ cls := "java/lang/Number", name := "<init>", desc := "()V" } : Jvm.MethodName) jdk_18_method_1_code (1 : Nat) (Option.none : Option Jvm.ClassFile.FieldType)).before args0 about1 = true := code_word (m := ⟨9, 0⟩) (meth := k9m0) (c := k9c0) (by decide +kernel) rfl rfl rfl (by decide +kernel)
def codes1 : List Jvm.Cond := [Jvm.Cond.code x code maxLocals ret, Jvm.Cond.code ({ cls := "com/example/lease/lease/model/RetryPolicy", name := "<init>", desc := "(ILcom/example/lease/lease/model/RetryBackoff;I)V" } : Jvm.MethodName) prog_23_method_1_code (4 : Nat) (Option.none : Option Jvm.ClassFile.FieldType), Jvm.Cond.code ({ cls := "java/lang/Object", name := "<init>", desc := "()V" } : Jvm.MethodName) object_method_1_code (1 : Nat) (Option.none : Option Jvm.ClassFile.FieldType), Jvm.Cond.code ({ cls := "com/example/lease/lease/model/RetryPolicy", name := "equals", desc := "(Ljava/lang/Object;)Z" } : Jvm.MethodName) prog_23_method_8_code (3 : Nat) (Option.some Jvm.ClassFile.FieldType.boolean), Jvm.Cond.code ({ cls := "java/lang/Integer", name := "valueOf", desc := "(I)Ljava/lang/Integer;" } : Jvm.MethodName) jdk_33_method_22_code (1 : Nat) (Option.some (Jvm.ClassFile.FieldType.object "java/lang/Integer")), Jvm.Cond.code ({ cls := "java/lang/Integer", name := "<init>", desc := "(I)V" } : Jvm.MethodName) jdk_33_method_23_code (2 : Nat) (Option.none : Option Jvm.ClassFile.FieldType), Jvm.Cond.code ({ cls := "java/lang/Number", name := "<init>", desc := "()V" } : Jvm.MethodName) jdk_18_method_1_code (1 : Nat) (Option.none : Option Jvm.ClassFile.FieldType)]
set_option maxRecDepth 65536 in
theorem codes_eq : words1.filter isCode = codes1 := rfl
theorem w_codes : ∀ c ∈ words1.filter isCode, c.before args0 about1 = true := by
  rw [codes_eq]
  intro c hc
  simp only [codes1, List.mem_cons, List.not_mem_nil, or_false] at hc
  rcases hc with rfl | rfl | rfl | rfl | rfl | rfl | rfl
  · exact w_c0
  · exact w_c1
  · exact w_c2
  · exact w_c3
  · exact w_c4
  · exact w_c5
  · exact w_c6
set_option maxRecDepth 65536 in
theorem w_t1 : (words1.take 24).all (fun c => isCode c || c.before args0 about1) = true := by decide +kernel
set_option maxRecDepth 65536 in
theorem w_t2 : ((words1.drop 24).take 24).all (fun c => isCode c || c.before args0 about1) = true := by decide +kernel
set_option maxRecDepth 65536 in
theorem w_t3 : ((words1.drop 24).drop 24).all (fun c => isCode c || c.before args0 about1) = true := by decide +kernel
theorem w_tables : (allAtoms (Jvm.Cond.code x code maxLocals ret :: tables_1)).before args0 about1 = true := by
  rw [allAtoms_all]
  show words1.all (fun c => c.before args0 about1) = true
  refine all_split ?_ w_codes
  rw [← List.take_append_drop 24 words1, List.all_append, w_t1, ← List.take_append_drop 24 (words1.drop 24), List.all_append, w_t2, w_t3]
  rfl
set_option maxRecDepth 65536 in
theorem w_rest : rest_1_c.before args0 about1 = true := by decide +kernel
set_option maxRecDepth 65536 in
theorem w_case : (Jvm.Cond.and given_1 narrow_1).before args0 about1 = true := by decide +kernel
theorem w_applies : (headSpec (Jvm.Cond.code x code maxLocals ret :: tables_1) room_1).applies x e0.platform about1 = true :=
  (Spec.applies_iff w_frames).mpr ⟨w_running, w_runnable, w_alone, w_named, w_hears, w_ripe, w_room, w_tables⟩
theorem atStart : AtStart classFile x code maxLocals ret World_1 tables_1 room_1 Calls_1 rest_1 Pre_1 launch0 p0 e0 about1 theMethod args0 below0 :=
  ⟨lists_1, trivial, launch0.admits_env _ _ _, launch0.least_env, fairChoices_fair.cas, fairChoices_fair.clock, w_frames, w_args, w_heap, w_applies, trivial, w_rest, w_case⟩
end start1
theorem witness_1 : WitnessClaimed_1 := ⟨start1.p0, start1.e0, start1.about1, start1.theMethod, start1.args0, start1.below0, start1.atStart⟩
end Jvm.Pilot.@@N@@
