import JvmDerived
import JvmDerived.Pilot.@@N@@Statement
import JvmDerived.Pilot.@@N@@Code
set_option linter.unusedVariables false
set_option linter.unusedSimpArgs false
namespace Jvm.Pilot.@@N@@
open Jvm Jvm.ClassFile Sem Op Lib Jvm.Free Jvm.Stand Jvm.LawKit Jvm.RoadKit Bundle Jvm.Pilot.@@N@@.Jvm.D
section OwnKit
variable {p : Program} {l : Launch} {e : Env} {R : Room} {s : State} {m : MethodId} {args : Array Value} {below : List Frame} {meth : Method} {c : Code} {T : State} {locs : List Loc} {cells slots : Nat} {Z : State} {a0 : Array Value} {h : Heap} {n0 kc ks : Nat} {FE : Outcome → State → List Loc → Prop} {Q : Option Value → Heap → Prop} {pc pc' : Nat} {Ls Ls' : Array Slot} {st : List Value}
/-- from the state S the run comes back to its caller with what Q says, having written nothing below n0 -/
def Goes (p : Program) (e : Env) (below : List Frame) (FE : Outcome → State → List Loc → Prop) (n0 : Nat) (Q : Option Value → Heap → Prop) (S : State) : Prop :=
  ∃ s₂ o, Steps p.tables e below S s₂ ∧ s₂.status = .running ∧ Ended s₂ below o ∧ ∃ v L, o = .returned v ∧ (Fr n0 L ∧ Q v s₂.heap) ∧ FE o s₂ L
/-- the contract of a body -/
def Meets (l : Launch) (y : MethodName) (bytes : ByteArray) (maxL : Nat) (ret : Option FieldType) (ws : List Jvm.Cond) (rm : Room) (kc ks : Nat) (Z : State) (as' : Array Value) (h : Heap) (n0 : Nat) (Q : Option Value → Heap → Prop) : Prop :=
  MetFree l y (head1 (Jvm.Cond.code y bytes maxL ret :: ws) rm) (fun a U => a = as' ∧ Z.Warmed39 U.vm ∧ U.heap = h) (fun _ _ _ _ _ => True) (fun _ U o U' => ∃ v L, o = .returned v ∧ (Fr n0 L ∧ Q v U'.heap) ∧ FrameEnd U o U' L kc ks)
theorem Goes.via {S S' : State} (f : ∀ t, Steps p.tables e below S' t → Steps p.tables e below S t) (g : Goes p e below FE n0 Q S') : Goes p e below FE n0 Q S := by
  obtain ⟨s₂, o, k, r⟩ := g
  exact ⟨s₂, o, f _ k, r⟩
theorem Goes.ret {S : State} {v : Option Value} (X : Stand p l e R s m args below meth c T locs cells slots) (N : Fr n0 locs) (hlk : meth.locks = false) (hv : meth.sig.returnType = none → v = none) (hc : cells ≤ kc) (hs : slots ≤ ks) (hq : Q v T.heap)
    (f : ∀ fs, (∀ (f : JFrame) (acts : List Action), f.method = m → f.locked = none → f.entered = [] → (doReturn e (T.setTop f) acts v).1 = T.setFrames fs) → Steps p.tables e below S (T.setFrames fs)) : Goes p e below (fun o t L => FrameEnd s o t L kc ks) n0 Q S := by
  obtain ⟨fs, hr, hrun, hended, hW, hsame⟩ := X.leave hv hlk
  exact ⟨_, _, f fs hr, hrun, hended, _, _, rfl, ⟨N, hq⟩, ⟨_, rfl⟩, hW, hsame.mono hc hs⟩
theorem own_sz (O : Old Z n0 h) : n0 ≤ h.size := O.1 ▸ O.2.1
theorem Meets.of {y : MethodName} {bytes : ByteArray} {maxL : Nat} {ret : Option FieldType} {ws : List Jvm.Cond} {rm : Room} {as' : Array Value} (hx : plainFor y = true) {F : MethodId → JFrame} (hF : ∀ m, entryFrame m as' maxL = F m)
    (body : ∀ p e s m below meth c T, p.tables.exec = Jvm.exec → c.code = bytes → c.maxLocals = maxL → s.vm.findClass y.cls = some m.cls → meth.name = y.name → meth.sig.returnType = ret → meth.locks = false → Z.Warmed39 s.vm →
      Stand p l e rm s m as' below meth c T [] 0 0 → T.heap = h → Goes p e below (fun o t L => FrameEnd s o t L kc ks) n0 Q (T.setTop (F m))) :
    Meets l y bytes maxL ret ws rm kc ks Z as' h n0 Q := by
  refine MetFree.of_bodySF hx hisR ?_
  intro p e s m args below meth c s₁ Bd hml hP hK
  obtain ⟨rfl, hZ, hh⟩ := hP
  have X0 : Stand p l e rm s m args below meth c s₁ [] 0 0 := Stand.of_body Bd
  have e0 : s₁.heap = h := by rw [← hh, Bd.state]; rfl
  obtain ⟨s₂, o, k, r⟩ := body p e s m below meth c s₁ Bd.exec Bd.bytes hml (findClass_of_methodNamed Bd.named) (name_of_methodNamed Bd.named Bd.method).1 Bd.returns Bd.notSynchronized hZ X0 e0
  exact ⟨s₂, o, castTop (hF m) k, r⟩
theorem own_iloadN (X : Stand p l e R s m args below meth c T locs cells slots) (hx : p.tables.exec = Jvm.exec) {k : Fin 4} {v : Int32} (hd : decode c.code pc = .ok (.iload_n k, 1)) (hl : Ls[k.val]? = some (.val (.int v)))
    (g : Goes p e below FE n0 Q (T.setTop (mkF m (pc + 1) Ls (.int v :: st)))) : Goes p e below FE n0 Q (T.setTop (mkF m pc Ls st)) :=
  Goes.via (fun _ k => XS.iloadN X.here hx rfl hd hl k) g
theorem own_iload (X : Stand p l e R s m args below meth c T locs cells slots) (hx : p.tables.exec = Jvm.exec) {k : Nat} {v : Int32} (hd : decode c.code pc = .ok (.iload k, 2)) (hl : Ls[k]? = some (.val (.int v)))
    (g : Goes p e below FE n0 Q (T.setTop (mkF m (pc + 2) Ls (.int v :: st)))) : Goes p e below FE n0 Q (T.setTop (mkF m pc Ls st)) :=
  Goes.via (fun _ k => XS.iload X.here hx rfl hd hl k) g
theorem own_istoreN (X : Stand p l e R s m args below meth c T locs cells slots) (hx : p.tables.exec = Jvm.exec) {k : Fin 4} {x : Int32} (hd : decode c.code pc = .ok (.istore_n k, 1)) (hl : storeLocals Ls k.val (.int x) = some Ls')
    (g : Goes p e below FE n0 Q (T.setTop (mkF m (pc + 1) Ls' st))) : Goes p e below FE n0 Q (T.setTop (mkF m pc Ls (.int x :: st))) :=
  Goes.via (fun _ k => XS.istoreN X.here hx rfl hd rfl hl k) g
theorem own_istore (X : Stand p l e R s m args below meth c T locs cells slots) (hx : p.tables.exec = Jvm.exec) {k : Nat} {x : Int32} (hd : decode c.code pc = .ok (.istore k, 2)) (hl : storeLocals Ls k (.int x) = some Ls')
    (g : Goes p e below FE n0 Q (T.setTop (mkF m (pc + 2) Ls' st))) : Goes p e below FE n0 Q (T.setTop (mkF m pc Ls (.int x :: st))) :=
  Goes.via (fun _ k => XS.istore X.here hx rfl hd rfl hl k) g
theorem own_lloadN (X : Stand p l e R s m args below meth c T locs cells slots) (hx : p.tables.exec = Jvm.exec) {k : Fin 4} {v : Int64} (hd : decode c.code pc = .ok (.lload_n k, 1)) (hl : Ls[k.val]? = some (.val (.long v)))
    (g : Goes p e below FE n0 Q (T.setTop (mkF m (pc + 1) Ls (.long v :: st)))) : Goes p e below FE n0 Q (T.setTop (mkF m pc Ls st)) :=
  Goes.via (fun _ k => XS.lloadN X.here hx rfl hd hl k) g
theorem own_lload (X : Stand p l e R s m args below meth c T locs cells slots) (hx : p.tables.exec = Jvm.exec) {k : Nat} {v : Int64} (hd : decode c.code pc = .ok (.lload k, 2)) (hl : Ls[k]? = some (.val (.long v)))
    (g : Goes p e below FE n0 Q (T.setTop (mkF m (pc + 2) Ls (.long v :: st)))) : Goes p e below FE n0 Q (T.setTop (mkF m pc Ls st)) :=
  Goes.via (fun _ k => XS.lload X.here hx rfl hd hl k) g
theorem own_lstoreN (X : Stand p l e R s m args below meth c T locs cells slots) (hx : p.tables.exec = Jvm.exec) {k : Fin 4} {x : Int64} (hd : decode c.code pc = .ok (.lstore_n k, 1)) (hl : storeLocals Ls k.val (.long x) = some Ls')
    (g : Goes p e below FE n0 Q (T.setTop (mkF m (pc + 1) Ls' st))) : Goes p e below FE n0 Q (T.setTop (mkF m pc Ls (.long x :: st))) :=
  Goes.via (fun _ k => XS.lstoreN X.here hx rfl hd rfl hl k) g
theorem own_lstore (X : Stand p l e R s m args below meth c T locs cells slots) (hx : p.tables.exec = Jvm.exec) {k : Nat} {x : Int64} (hd : decode c.code pc = .ok (.lstore k, 2)) (hl : storeLocals Ls k (.long x) = some Ls')
    (g : Goes p e below FE n0 Q (T.setTop (mkF m (pc + 2) Ls' st))) : Goes p e below FE n0 Q (T.setTop (mkF m pc Ls (.long x :: st))) :=
  Goes.via (fun _ k => XS.lstore X.here hx rfl hd rfl hl k) g
theorem own_aloadN (X : Stand p l e R s m args below meth c T locs cells slots) (hx : p.tables.exec = Jvm.exec) {k : Fin 4} {v : Value} (hd : decode c.code pc = .ok (.aload_n k, 1)) (hl : Ls[k.val]? = some (.val v)) (hv : v.isRef = true)
    (g : Goes p e below FE n0 Q (T.setTop (mkF m (pc + 1) Ls (v :: st)))) : Goes p e below FE n0 Q (T.setTop (mkF m pc Ls st)) :=
  Goes.via (fun _ k => XS.aloadN X.here hx rfl hd hl hv k) g
theorem own_aload (X : Stand p l e R s m args below meth c T locs cells slots) (hx : p.tables.exec = Jvm.exec) {k : Nat} {v : Value} (hd : decode c.code pc = .ok (.aload k, 2)) (hl : Ls[k]? = some (.val v)) (hv : v.isRef = true)
    (g : Goes p e below FE n0 Q (T.setTop (mkF m (pc + 2) Ls (v :: st)))) : Goes p e below FE n0 Q (T.setTop (mkF m pc Ls st)) :=
  Goes.via (fun _ k => XS.aload X.here hx rfl hd hl hv k) g
theorem own_astoreN (X : Stand p l e R s m args below meth c T locs cells slots) (hx : p.tables.exec = Jvm.exec) {k : Fin 4} {x : Value} (hd : decode c.code pc = .ok (.astore_n k, 1)) (hv : x.isRef = true) (hl : storeLocals Ls k.val x = some Ls')
    (g : Goes p e below FE n0 Q (T.setTop (mkF m (pc + 1) Ls' st))) : Goes p e below FE n0 Q (T.setTop (mkF m pc Ls (x :: st))) :=
  Goes.via (fun _ k => XS.astoreN X.here hx rfl hd rfl hv hl k) g
theorem own_astore (X : Stand p l e R s m args below meth c T locs cells slots) (hx : p.tables.exec = Jvm.exec) {k : Nat} {x : Value} (hd : decode c.code pc = .ok (.astore k, 2)) (hv : x.isRef = true) (hl : storeLocals Ls k x = some Ls')
    (g : Goes p e below FE n0 Q (T.setTop (mkF m (pc + 2) Ls' st))) : Goes p e below FE n0 Q (T.setTop (mkF m pc Ls (x :: st))) :=
  Goes.via (fun _ k => XS.astore X.here hx rfl hd rfl hv hl k) g
theorem own_iconst (X : Stand p l e R s m args below meth c T locs cells slots) (hx : p.tables.exec = Jvm.exec) {i : Int} {v : Int32} (hd : decode c.code pc = .ok (.iconst i, 1)) (hv : Int32.ofInt i = v)
    (g : Goes p e below FE n0 Q (T.setTop (mkF m (pc + 1) Ls (.int v :: st)))) : Goes p e below FE n0 Q (T.setTop (mkF m pc Ls st)) := by
  subst hv
  exact Goes.via (fun _ k => XS.iconst X.here hx rfl hd k) g
theorem own_bipush (X : Stand p l e R s m args below meth c T locs cells slots) (hx : p.tables.exec = Jvm.exec) {i : Int} {v : Int32} (hd : decode c.code pc = .ok (.bipush i, 2)) (hv : (Int8.ofInt i).toInt32 = v)
    (g : Goes p e below FE n0 Q (T.setTop (mkF m (pc + 2) Ls (.int v :: st)))) : Goes p e below FE n0 Q (T.setTop (mkF m pc Ls st)) := by
  subst hv
  exact Goes.via (fun _ k => XS.bipush X.here hx rfl hd k) g
theorem own_sipush (X : Stand p l e R s m args below meth c T locs cells slots) (hx : p.tables.exec = Jvm.exec) {i : Int} {v : Int32} (hd : decode c.code pc = .ok (.sipush i, 3)) (hv : (Int16.ofInt i).toInt32 = v)
    (g : Goes p e below FE n0 Q (T.setTop (mkF m (pc + 3) Ls (.int v :: st)))) : Goes p e below FE n0 Q (T.setTop (mkF m pc Ls st)) := by
  subst hv
  exact Goes.via (fun _ k => XS.sipush X.here hx rfl hd k) g
theorem own_lconst (X : Stand p l e R s m args below meth c T locs cells slots) (hx : p.tables.exec = Jvm.exec) {i : Fin 2} {v : Int64} (hd : decode c.code pc = .ok (.lconst i, 1)) (hv : Int64.ofNat i = v)
    (g : Goes p e below FE n0 Q (T.setTop (mkF m (pc + 1) Ls (.long v :: st)))) : Goes p e below FE n0 Q (T.setTop (mkF m pc Ls st)) := by
  subst hv
  exact Goes.via (fun _ k => XS.lconst X.here hx rfl hd k) g
theorem own_aconst_null (X : Stand p l e R s m args below meth c T locs cells slots) (hx : p.tables.exec = Jvm.exec)  (hd : decode c.code pc = .ok (.aconst_null, 1))
    (g : Goes p e below FE n0 Q (T.setTop (mkF m (pc + 1) Ls (.null :: st)))) : Goes p e below FE n0 Q (T.setTop (mkF m pc Ls st)) :=
  Goes.via (fun _ k => XS.aconstNull X.here hx rfl hd k) g
theorem own_iadd (X : Stand p l e R s m args below meth c T locs cells slots) (hx : p.tables.exec = Jvm.exec) {x y : Int32} (hd : decode c.code pc = .ok (.iadd, 1))
    (g : Goes p e below FE n0 Q (T.setTop (mkF m (pc + 1) Ls (.int (x + y) :: st)))) : Goes p e below FE n0 Q (T.setTop (mkF m pc Ls (.int y :: .int x :: st))) :=
  Goes.via (fun _ k => XS.iadd X.here hx rfl hd rfl k) g
theorem own_isub (X : Stand p l e R s m args below meth c T locs cells slots) (hx : p.tables.exec = Jvm.exec) {x y : Int32} (hd : decode c.code pc = .ok (.isub, 1))
    (g : Goes p e below FE n0 Q (T.setTop (mkF m (pc + 1) Ls (.int (x - y) :: st)))) : Goes p e below FE n0 Q (T.setTop (mkF m pc Ls (.int y :: .int x :: st))) :=
  Goes.via (fun _ k => XS.isub X.here hx rfl hd rfl k) g
theorem own_imul (X : Stand p l e R s m args below meth c T locs cells slots) (hx : p.tables.exec = Jvm.exec) {x y : Int32} (hd : decode c.code pc = .ok (.imul, 1))
    (g : Goes p e below FE n0 Q (T.setTop (mkF m (pc + 1) Ls (.int (x * y) :: st)))) : Goes p e below FE n0 Q (T.setTop (mkF m pc Ls (.int y :: .int x :: st))) :=
  Goes.via (fun _ k => XS.imul X.here hx rfl hd rfl k) g
theorem own_iand (X : Stand p l e R s m args below meth c T locs cells slots) (hx : p.tables.exec = Jvm.exec) {x y : Int32} (hd : decode c.code pc = .ok (.iand, 1))
    (g : Goes p e below FE n0 Q (T.setTop (mkF m (pc + 1) Ls (.int (x &&& y) :: st)))) : Goes p e below FE n0 Q (T.setTop (mkF m pc Ls (.int y :: .int x :: st))) :=
  Goes.via (fun _ k => XS.iand X.here hx rfl hd rfl k) g
theorem own_ior (X : Stand p l e R s m args below meth c T locs cells slots) (hx : p.tables.exec = Jvm.exec) {x y : Int32} (hd : decode c.code pc = .ok (.ior, 1))
    (g : Goes p e below FE n0 Q (T.setTop (mkF m (pc + 1) Ls (.int (x ||| y) :: st)))) : Goes p e below FE n0 Q (T.setTop (mkF m pc Ls (.int y :: .int x :: st))) :=
  Goes.via (fun _ k => XS.ior X.here hx rfl hd rfl k) g
theorem own_ixor (X : Stand p l e R s m args below meth c T locs cells slots) (hx : p.tables.exec = Jvm.exec) {x y : Int32} (hd : decode c.code pc = .ok (.ixor, 1))
    (g : Goes p e below FE n0 Q (T.setTop (mkF m (pc + 1) Ls (.int (x ^^^ y) :: st)))) : Goes p e below FE n0 Q (T.setTop (mkF m pc Ls (.int y :: .int x :: st))) :=
  Goes.via (fun _ k => XS.ixor X.here hx rfl hd rfl k) g
theorem own_idiv (X : Stand p l e R s m args below meth c T locs cells slots) (hx : p.tables.exec = Jvm.exec) {x y : Int32} (hd : decode c.code pc = .ok (.idiv, 1)) (hy : y ≠ 0)
    (g : Goes p e below FE n0 Q (T.setTop (mkF m (pc + 1) Ls (.int (x / y) :: st)))) : Goes p e below FE n0 Q (T.setTop (mkF m pc Ls (.int y :: .int x :: st))) :=
  Goes.via (fun _ k => XS.idiv X.here hx rfl hd rfl hy k) g
theorem own_ineg (X : Stand p l e R s m args below meth c T locs cells slots) (hx : p.tables.exec = Jvm.exec) {x : Int32} (hd : decode c.code pc = .ok (.ineg, 1))
    (g : Goes p e below FE n0 Q (T.setTop (mkF m (pc + 1) Ls (.int (-x) :: st)))) : Goes p e below FE n0 Q (T.setTop (mkF m pc Ls (.int x :: st))) :=
  Goes.via (fun _ k => XS.ineg X.here hx rfl hd rfl k) g
theorem own_ladd (X : Stand p l e R s m args below meth c T locs cells slots) (hx : p.tables.exec = Jvm.exec) {x y : Int64} (hd : decode c.code pc = .ok (.ladd, 1))
    (g : Goes p e below FE n0 Q (T.setTop (mkF m (pc + 1) Ls (.long (x + y) :: st)))) : Goes p e below FE n0 Q (T.setTop (mkF m pc Ls (.long y :: .long x :: st))) :=
  Goes.via (fun _ k => XS.ladd X.here hx rfl hd rfl k) g
theorem own_lsub (X : Stand p l e R s m args below meth c T locs cells slots) (hx : p.tables.exec = Jvm.exec) {x y : Int64} (hd : decode c.code pc = .ok (.lsub, 1))
    (g : Goes p e below FE n0 Q (T.setTop (mkF m (pc + 1) Ls (.long (x - y) :: st)))) : Goes p e below FE n0 Q (T.setTop (mkF m pc Ls (.long y :: .long x :: st))) :=
  Goes.via (fun _ k => XS.lsub X.here hx rfl hd rfl k) g
theorem own_lmul (X : Stand p l e R s m args below meth c T locs cells slots) (hx : p.tables.exec = Jvm.exec) {x y : Int64} (hd : decode c.code pc = .ok (.lmul, 1))
    (g : Goes p e below FE n0 Q (T.setTop (mkF m (pc + 1) Ls (.long (x * y) :: st)))) : Goes p e below FE n0 Q (T.setTop (mkF m pc Ls (.long y :: .long x :: st))) :=
  Goes.via (fun _ k => XS.lmul X.here hx rfl hd rfl k) g
theorem own_land (X : Stand p l e R s m args below meth c T locs cells slots) (hx : p.tables.exec = Jvm.exec) {x y : Int64} (hd : decode c.code pc = .ok (.land, 1))
    (g : Goes p e below FE n0 Q (T.setTop (mkF m (pc + 1) Ls (.long (x &&& y) :: st)))) : Goes p e below FE n0 Q (T.setTop (mkF m pc Ls (.long y :: .long x :: st))) :=
  Goes.via (fun _ k => XS.land X.here hx rfl hd rfl k) g
theorem own_lor (X : Stand p l e R s m args below meth c T locs cells slots) (hx : p.tables.exec = Jvm.exec) {x y : Int64} (hd : decode c.code pc = .ok (.lor, 1))
    (g : Goes p e below FE n0 Q (T.setTop (mkF m (pc + 1) Ls (.long (x ||| y) :: st)))) : Goes p e below FE n0 Q (T.setTop (mkF m pc Ls (.long y :: .long x :: st))) :=
  Goes.via (fun _ k => XS.lor X.here hx rfl hd rfl k) g
theorem own_lxor (X : Stand p l e R s m args below meth c T locs cells slots) (hx : p.tables.exec = Jvm.exec) {x y : Int64} (hd : decode c.code pc = .ok (.lxor, 1))
    (g : Goes p e below FE n0 Q (T.setTop (mkF m (pc + 1) Ls (.long (x ^^^ y) :: st)))) : Goes p e below FE n0 Q (T.setTop (mkF m pc Ls (.long y :: .long x :: st))) :=
  Goes.via (fun _ k => XS.lxor X.here hx rfl hd rfl k) g
theorem own_ldiv (X : Stand p l e R s m args below meth c T locs cells slots) (hx : p.tables.exec = Jvm.exec) {x y : Int64} (hd : decode c.code pc = .ok (.ldiv, 1)) (hy : y ≠ 0)
    (g : Goes p e below FE n0 Q (T.setTop (mkF m (pc + 1) Ls (.long (x / y) :: st)))) : Goes p e below FE n0 Q (T.setTop (mkF m pc Ls (.long y :: .long x :: st))) :=
  Goes.via (fun _ k => XS.ldiv X.here hx rfl hd rfl hy k) g
theorem own_lneg (X : Stand p l e R s m args below meth c T locs cells slots) (hx : p.tables.exec = Jvm.exec) {x : Int64} (hd : decode c.code pc = .ok (.lneg, 1))
    (g : Goes p e below FE n0 Q (T.setTop (mkF m (pc + 1) Ls (.long (-x) :: st)))) : Goes p e below FE n0 Q (T.setTop (mkF m pc Ls (.long x :: st))) :=
  Goes.via (fun _ k => XS.lneg X.here hx rfl hd rfl k) g
theorem own_irem (X : Stand p l e R s m args below meth c T locs cells slots) (hx : p.tables.exec = Jvm.exec) {x y : Int32} (hd : decode c.code pc = .ok (.irem, 1)) (hy : y ≠ 0)
    (g : Goes p e below FE n0 Q (T.setTop (mkF m (pc + 1) Ls (.int (x % y) :: st)))) : Goes p e below FE n0 Q (T.setTop (mkF m pc Ls (.int y :: .int x :: st))) :=
  Goes.via (fun _ k => iremM (g := mkF m pc Ls (.int y :: .int x :: st)) X hx rfl hd rfl hy k) g
theorem own_lrem (X : Stand p l e R s m args below meth c T locs cells slots) (hx : p.tables.exec = Jvm.exec) {x y : Int64} (hd : decode c.code pc = .ok (.lrem, 1)) (hy : y ≠ 0)
    (g : Goes p e below FE n0 Q (T.setTop (mkF m (pc + 1) Ls (.long (x % y) :: st)))) : Goes p e below FE n0 Q (T.setTop (mkF m pc Ls (.long y :: .long x :: st))) := by
  rw [← lrem_mod] at g
  exact Goes.via (fun _ k => XS.lrem X.here hx rfl hd rfl hy k) g
theorem own_ishl (X : Stand p l e R s m args below meth c T locs cells slots) (hx : p.tables.exec = Jvm.exec) {x y : Int32} (hd : decode c.code pc = .ok (.ishl, 1))
    (g : Goes p e below FE n0 Q (T.setTop (mkF m (pc + 1) Ls (.int (x <<< (y &&& 31)) :: st)))) : Goes p e below FE n0 Q (T.setTop (mkF m pc Ls (.int y :: .int x :: st))) :=
  Goes.via (fun _ k => XS.ishl X.here hx rfl hd rfl k) g
theorem own_ishr (X : Stand p l e R s m args below meth c T locs cells slots) (hx : p.tables.exec = Jvm.exec) {x y : Int32} (hd : decode c.code pc = .ok (.ishr, 1))
    (g : Goes p e below FE n0 Q (T.setTop (mkF m (pc + 1) Ls (.int (x >>> (y &&& 31)) :: st)))) : Goes p e below FE n0 Q (T.setTop (mkF m pc Ls (.int y :: .int x :: st))) :=
  Goes.via (fun _ k => XS.ishr X.here hx rfl hd rfl k) g
theorem own_iushr (X : Stand p l e R s m args below meth c T locs cells slots) (hx : p.tables.exec = Jvm.exec) {x y : Int32} (hd : decode c.code pc = .ok (.iushr, 1))
    (g : Goes p e below FE n0 Q (T.setTop (mkF m (pc + 1) Ls (.int ((x.toUInt32 >>> (y &&& 31).toUInt32).toInt32) :: st)))) : Goes p e below FE n0 Q (T.setTop (mkF m pc Ls (.int y :: .int x :: st))) :=
  Goes.via (fun _ k => XS.iushr X.here hx rfl hd rfl k) g
theorem own_lshl (X : Stand p l e R s m args below meth c T locs cells slots) (hx : p.tables.exec = Jvm.exec) {x : Int64} {y : Int32} (hd : decode c.code pc = .ok (.lshl, 1))
    (g : Goes p e below FE n0 Q (T.setTop (mkF m (pc + 1) Ls (.long (x <<< (y &&& 0x3f).toInt64) :: st)))) : Goes p e below FE n0 Q (T.setTop (mkF m pc Ls (.int y :: .long x :: st))) :=
  Goes.via (fun _ k => by jvm_step X.here [X.here.top, hx, hd]; first | exact k | simpa [mkF] using k) g
theorem own_lshr (X : Stand p l e R s m args below meth c T locs cells slots) (hx : p.tables.exec = Jvm.exec) {x : Int64} {y : Int32} (hd : decode c.code pc = .ok (.lshr, 1))
    (g : Goes p e below FE n0 Q (T.setTop (mkF m (pc + 1) Ls (.long (x >>> (y &&& 0x3f).toInt64) :: st)))) : Goes p e below FE n0 Q (T.setTop (mkF m pc Ls (.int y :: .long x :: st))) :=
  Goes.via (fun _ k => by jvm_step X.here [X.here.top, hx, hd]; first | exact k | simpa [mkF] using k) g
theorem own_lushr (X : Stand p l e R s m args below meth c T locs cells slots) (hx : p.tables.exec = Jvm.exec) {x : Int64} {y : Int32} (hd : decode c.code pc = .ok (.lushr, 1))
    (g : Goes p e below FE n0 Q (T.setTop (mkF m (pc + 1) Ls (.long ((x.toUInt64 >>> (y &&& 0x3f).toInt64.toUInt64).toInt64) :: st)))) : Goes p e below FE n0 Q (T.setTop (mkF m pc Ls (.int y :: .long x :: st))) :=
  Goes.via (fun _ k => by jvm_step X.here [X.here.top, hx, hd]; first | exact k | simpa [mkF] using k) g
theorem own_i2l (X : Stand p l e R s m args below meth c T locs cells slots) (hx : p.tables.exec = Jvm.exec) {x : Int32} (hd : decode c.code pc = .ok (.i2l, 1))
    (g : Goes p e below FE n0 Q (T.setTop (mkF m (pc + 1) Ls (.long (x.toInt64) :: st)))) : Goes p e below FE n0 Q (T.setTop (mkF m pc Ls (.int x :: st))) :=
  Goes.via (fun _ k => XS.i2l X.here hx rfl hd rfl k) g
theorem own_l2i (X : Stand p l e R s m args below meth c T locs cells slots) (hx : p.tables.exec = Jvm.exec) {x : Int64} (hd : decode c.code pc = .ok (.l2i, 1))
    (g : Goes p e below FE n0 Q (T.setTop (mkF m (pc + 1) Ls (.int (x.toInt32) :: st)))) : Goes p e below FE n0 Q (T.setTop (mkF m pc Ls (.long x :: st))) :=
  Goes.via (fun _ k => XS.l2i X.here hx rfl hd rfl k) g
theorem own_i2b (X : Stand p l e R s m args below meth c T locs cells slots) (hx : p.tables.exec = Jvm.exec) {x : Int32} (hd : decode c.code pc = .ok (.i2b, 1))
    (g : Goes p e below FE n0 Q (T.setTop (mkF m (pc + 1) Ls (.int (x.toInt8.toInt32) :: st)))) : Goes p e below FE n0 Q (T.setTop (mkF m pc Ls (.int x :: st))) :=
  Goes.via (fun _ k => XS.i2b X.here hx rfl hd rfl k) g
theorem own_i2s (X : Stand p l e R s m args below meth c T locs cells slots) (hx : p.tables.exec = Jvm.exec) {x : Int32} (hd : decode c.code pc = .ok (.i2s, 1))
    (g : Goes p e below FE n0 Q (T.setTop (mkF m (pc + 1) Ls (.int (x.toInt16.toInt32) :: st)))) : Goes p e below FE n0 Q (T.setTop (mkF m pc Ls (.int x :: st))) :=
  Goes.via (fun _ k => XS.i2s X.here hx rfl hd rfl k) g
theorem own_i2c (X : Stand p l e R s m args below meth c T locs cells slots) (hx : p.tables.exec = Jvm.exec) {x : Int32} (hd : decode c.code pc = .ok (.i2c, 1))
    (g : Goes p e below FE n0 Q (T.setTop (mkF m (pc + 1) Ls (.int (x.toUInt32.toUInt16.toUInt32.toInt32) :: st)))) : Goes p e below FE n0 Q (T.setTop (mkF m pc Ls (.int x :: st))) :=
  Goes.via (fun _ k => XS.i2c X.here hx rfl hd rfl k) g
theorem own_lcmp (X : Stand p l e R s m args below meth c T locs cells slots) (hx : p.tables.exec = Jvm.exec) {x y : Int64} (hd : decode c.code pc = .ok (.lcmp, 1))
    (g : Goes p e below FE n0 Q (T.setTop (mkF m (pc + 1) Ls (.int (lcmpW x y) :: st)))) : Goes p e below FE n0 Q (T.setTop (mkF m pc Ls (.long y :: .long x :: st))) :=
  Goes.via (fun _ k => XS.lcmp X.here hx rfl hd rfl k) g
theorem own_dup (X : Stand p l e R s m args below meth c T locs cells slots) (hx : p.tables.exec = Jvm.exec) {x : Value} (hd : decode c.code pc = .ok (.dup, 1)) (hc : x.category = 1)
    (g : Goes p e below FE n0 Q (T.setTop (mkF m (pc + 1) Ls (x :: x :: st)))) : Goes p e below FE n0 Q (T.setTop (mkF m pc Ls (x :: st))) :=
  Goes.via (fun _ k => XS.dup X.here hx rfl hd rfl hc k) g
theorem own_pop (X : Stand p l e R s m args below meth c T locs cells slots) (hx : p.tables.exec = Jvm.exec) {x : Value} (hd : decode c.code pc = .ok (.pop, 1)) (hc : x.category = 1)
    (g : Goes p e below FE n0 Q (T.setTop (mkF m (pc + 1) Ls st))) : Goes p e below FE n0 Q (T.setTop (mkF m pc Ls (x :: st))) :=
  Goes.via (fun _ k => XS.pop X.here hx rfl hd rfl hc k) g
theorem own_dup_x1 (X : Stand p l e R s m args below meth c T locs cells slots) (hx : p.tables.exec = Jvm.exec) {x y : Value} (hd : decode c.code pc = .ok (.dup_x1, 1)) (hc : x.category = 1) (hc' : y.category = 1)
    (g : Goes p e below FE n0 Q (T.setTop (mkF m (pc + 1) Ls (x :: y :: x :: st)))) : Goes p e below FE n0 Q (T.setTop (mkF m pc Ls (x :: y :: st))) :=
  Goes.via (fun _ k => XS.dupX1 X.here hx rfl hd rfl hc hc' k) g
theorem own_dup2 (X : Stand p l e R s m args below meth c T locs cells slots) (hx : p.tables.exec = Jvm.exec) {x y : Value} (hd : decode c.code pc = .ok (.dup2, 1)) (hc : x.category = 1) (hc' : y.category = 1)
    (g : Goes p e below FE n0 Q (T.setTop (mkF m (pc + 1) Ls (x :: y :: x :: y :: st)))) : Goes p e below FE n0 Q (T.setTop (mkF m pc Ls (x :: y :: st))) :=
  Goes.via (fun _ k => Jvm.Free.XT.dup2 X.here hx rfl hd rfl hc hc' k) g
theorem own_iinc (X : Stand p l e R s m args below meth c T locs cells slots) (hx : p.tables.exec = Jvm.exec) {k : Nat} {cst : Int} {x : Int32} (hd : decode c.code pc = .ok (.iinc k cst, 3)) (hl : Ls[k]? = some (.val (.int x))) (hl' : storeLocals Ls k (.int (x + Int32.ofInt cst)) = some Ls')
    (g : Goes p e below FE n0 Q (T.setTop (mkF m (pc + 3) Ls' st))) : Goes p e below FE n0 Q (T.setTop (mkF m pc Ls st)) :=
  Goes.via (fun _ k => XS.iinc X.here hx rfl hd hl hl' k) g
theorem own_goto (X : Stand p l e R s m args below meth c T locs cells slots) (hx : p.tables.exec = Jvm.exec) {o : Int} (hd : decode c.code pc = .ok (.goto o, 3)) (ho : 0 ≤ (pc : Int) + o) (hp : ((pc : Int) + o).toNat = pc')
    (g : Goes p e below FE n0 Q (T.setTop (mkF m pc' Ls st))) : Goes p e below FE n0 Q (T.setTop (mkF m pc Ls st)) :=
  Goes.via (fun _ k => XS.goto X.here hx rfl rfl hd ho hp k) g
theorem own_ifYes (X : Stand p l e R s m args below meth c T locs cells slots) (hx : p.tables.exec = Jvm.exec) {cd : ClassFile.Cond} {o : Int} {x : Int32} (hd : decode c.code pc = .ok (.ifCond cd o, 3)) (hc : ifCond.holds cd x = true) (ho : 0 ≤ (pc : Int) + o) (hp : ((pc : Int) + o).toNat = pc')
    (g : Goes p e below FE n0 Q (T.setTop (mkF m pc' Ls st))) : Goes p e below FE n0 Q (T.setTop (mkF m pc Ls (.int x :: st))) :=
  Goes.via (fun _ k => XS.ifYes X.here hx rfl rfl hd rfl hc ho hp k) g
theorem own_ifNo (X : Stand p l e R s m args below meth c T locs cells slots) (hx : p.tables.exec = Jvm.exec) {cd : ClassFile.Cond} {o : Int} {x : Int32} (hd : decode c.code pc = .ok (.ifCond cd o, 3)) (hc : ifCond.holds cd x = false)
    (g : Goes p e below FE n0 Q (T.setTop (mkF m (pc + 3) Ls st))) : Goes p e below FE n0 Q (T.setTop (mkF m pc Ls (.int x :: st))) :=
  Goes.via (fun _ k => XS.ifNo X.here hx rfl hd rfl hc k) g
theorem own_icmpYes (X : Stand p l e R s m args below meth c T locs cells slots) (hx : p.tables.exec = Jvm.exec) {cd : ClassFile.Cond} {o : Int} {x y : Int32} (hd : decode c.code pc = .ok (.if_icmp cd o, 3)) (hc : if_icmp.holds cd x y = true) (ho : 0 ≤ (pc : Int) + o) (hp : ((pc : Int) + o).toNat = pc')
    (g : Goes p e below FE n0 Q (T.setTop (mkF m pc' Ls st))) : Goes p e below FE n0 Q (T.setTop (mkF m pc Ls (.int y :: .int x :: st))) :=
  Goes.via (fun _ k => XS.icmpYes X.here hx rfl rfl hd rfl hc ho hp k) g
theorem own_icmpNo (X : Stand p l e R s m args below meth c T locs cells slots) (hx : p.tables.exec = Jvm.exec) {cd : ClassFile.Cond} {o : Int} {x y : Int32} (hd : decode c.code pc = .ok (.if_icmp cd o, 3)) (hc : if_icmp.holds cd x y = false)
    (g : Goes p e below FE n0 Q (T.setTop (mkF m (pc + 3) Ls st))) : Goes p e below FE n0 Q (T.setTop (mkF m pc Ls (.int y :: .int x :: st))) :=
  Goes.via (fun _ k => XS.icmpNo X.here hx rfl hd rfl hc k) g
theorem own_ifnullYes (X : Stand p l e R s m args below meth c T locs cells slots) (hx : p.tables.exec = Jvm.exec) {o : Int} (hd : decode c.code pc = .ok (.ifnull o, 3)) (ho : 0 ≤ (pc : Int) + o) (hp : ((pc : Int) + o).toNat = pc')
    (g : Goes p e below FE n0 Q (T.setTop (mkF m pc' Ls st))) : Goes p e below FE n0 Q (T.setTop (mkF m pc Ls (.null :: st))) :=
  Goes.via (fun _ k => XS.ifnullYes X.here hx rfl rfl hd rfl ho hp k) g
theorem own_ifnullNo (X : Stand p l e R s m args below meth c T locs cells slots) (hx : p.tables.exec = Jvm.exec) {o : Int} {b : Addr} (hd : decode c.code pc = .ok (.ifnull o, 3))
    (g : Goes p e below FE n0 Q (T.setTop (mkF m (pc + 3) Ls st))) : Goes p e below FE n0 Q (T.setTop (mkF m pc Ls (.ref b :: st))) :=
  Goes.via (fun _ k => XS.ifnullNo X.here hx rfl hd rfl k) g
theorem own_ifnonnullYes (X : Stand p l e R s m args below meth c T locs cells slots) (hx : p.tables.exec = Jvm.exec) {o : Int} {b : Addr} (hd : decode c.code pc = .ok (.ifnonnull o, 3)) (ho : 0 ≤ (pc : Int) + o) (hp : ((pc : Int) + o).toNat = pc')
    (g : Goes p e below FE n0 Q (T.setTop (mkF m pc' Ls st))) : Goes p e below FE n0 Q (T.setTop (mkF m pc Ls (.ref b :: st))) :=
  Goes.via (fun _ k => XS.ifnonnullYes X.here hx rfl rfl hd rfl ho hp k) g
theorem own_ifnonnullNo (X : Stand p l e R s m args below meth c T locs cells slots) (hx : p.tables.exec = Jvm.exec) {o : Int} (hd : decode c.code pc = .ok (.ifnonnull o, 3))
    (g : Goes p e below FE n0 Q (T.setTop (mkF m (pc + 3) Ls st))) : Goes p e below FE n0 Q (T.setTop (mkF m pc Ls (.null :: st))) :=
  Goes.via (fun _ k => XS.ifnonnullNo X.here hx rfl hd rfl k) g
theorem own_acmp (X : Stand p l e R s m args below meth c T locs cells slots) (hx : p.tables.exec = Jvm.exec) {cd : ACond} {x y : Value} {o : Int} {same : Bool} (h1 : x.isRef = true) (h2 : y.isRef = true) (hd : decode c.code pc = .ok (.if_acmp cd o, 3)) (hq : decide (x = y) = same) (ho : 0 ≤ (pc : Int) + o) (hp : pc' = if acV cd same = true then ((pc : Int) + o).toNat else pc + 3)
    (g : Goes p e below FE n0 Q (T.setTop (mkF m pc' Ls st))) : Goes p e below FE n0 Q (T.setTop (mkF m pc Ls (y :: x :: st))) :=
  Goes.via (fun _ k => Jvm.RoadKit.acmp (g := mkF m pc Ls (y :: x :: st)) X hx rfl h1 h2 rfl hd rfl hq ho hp k) g
theorem own_tswIn (X : Stand p l e R s m args below meth c T locs cells slots) (hx : p.tables.exec = Jvm.exec) {dflt low high : Int} {offs : Array Int} {len : Nat} {o : Int} {i : Int32} (hd : decode c.code pc = .ok (.tableswitch dflt low high offs, len)) (hin : ¬ (i.toInt < low ∨ i.toInt > high)) (hoff : offs[(i.toInt - low).toNat]? = some o) (ho : 0 ≤ (pc : Int) + o) (hp : ((pc : Int) + o).toNat = pc')
    (g : Goes p e below FE n0 Q (T.setTop (mkF m pc' Ls st))) : Goes p e below FE n0 Q (T.setTop (mkF m pc Ls (.int i :: st))) :=
  Goes.via (fun _ k => XS.tswIn X.here hx rfl rfl hd rfl hin hoff ho hp k) g
theorem own_tswOut (X : Stand p l e R s m args below meth c T locs cells slots) (hx : p.tables.exec = Jvm.exec) {dflt low high : Int} {offs : Array Int} {len : Nat} {i : Int32} (hd : decode c.code pc = .ok (.tableswitch dflt low high offs, len)) (hout : i.toInt < low ∨ i.toInt > high) (ho : 0 ≤ (pc : Int) + dflt) (hp : ((pc : Int) + dflt).toNat = pc')
    (g : Goes p e below FE n0 Q (T.setTop (mkF m pc' Ls st))) : Goes p e below FE n0 Q (T.setTop (mkF m pc Ls (.int i :: st))) :=
  Goes.via (fun _ k => XS.tswOut X.here hx rfl rfl hd rfl hout ho hp k) g
theorem own_ldcInt (X : Stand p l e R s m args below meth c T locs cells slots) (hx : p.tables.exec = Jvm.exec) (hZ : Z.Warmed39 s.vm) {own : String} {index : Nat} (hown : s.vm.findClass own = some m.cls) {v : Int32} (w : (Jvm.Cond.constant own index v).before a0 Z = true) (hd : decode c.code pc = .ok (.ldc index, 2))
    (g : Goes p e below FE n0 Q (T.setTop (mkF m (pc + 2) Ls (.int v :: st)))) : Goes p e below FE n0 Q (T.setTop (mkF m pc Ls st)) :=
  Goes.via (X.ldcInt hx hown (mvT hZ w) (g := mkF m pc Ls st) rfl hd) g
theorem own_ldcwInt (X : Stand p l e R s m args below meth c T locs cells slots) (hx : p.tables.exec = Jvm.exec) (hZ : Z.Warmed39 s.vm) {own : String} {index : Nat} (hown : s.vm.findClass own = some m.cls) {v : Int32} (w : (Jvm.Cond.constant own index v).before a0 Z = true) (hd : decode c.code pc = .ok (.ldc_w index, 3))
    (g : Goes p e below FE n0 Q (T.setTop (mkF m (pc + 3) Ls (.int v :: st)))) : Goes p e below FE n0 Q (T.setTop (mkF m pc Ls st)) :=
  Goes.via (X.ldcwInt hx hown (mvT hZ w) (g := mkF m pc Ls st) rfl hd) g
theorem own_ldc2Long (X : Stand p l e R s m args below meth c T locs cells slots) (hx : p.tables.exec = Jvm.exec) (hZ : Z.Warmed39 s.vm) {own : String} {index : Nat} (hown : s.vm.findClass own = some m.cls) {v : Int64} (w : (Jvm.Cond.constantLong own index v).before a0 Z = true) (hd : decode c.code pc = .ok (.ldc2_w index, 3))
    (g : Goes p e below FE n0 Q (T.setTop (mkF m (pc + 3) Ls (.long v :: st)))) : Goes p e below FE n0 Q (T.setTop (mkF m pc Ls st)) :=
  Goes.via (X.ldc2Long hx hown (mvT hZ w) (g := mkF m pc Ls st) rfl hd) g
theorem own_getF (X : Stand p l e R s m args below meth c T locs cells slots) (hx : p.tables.exec = Jvm.exec) (hZ : Z.Warmed39 s.vm) {own : String} {index : Nat} (hown : s.vm.findClass own = some m.cls) {R0 O n d host : String} (w : ((Jvm.Cond.fieldLink own index R0 n d).before a0 Z = true ∨ (Jvm.Cond.fieldLinkNest own index R0 n d host).before a0 Z = true)) (via : Via Z R0 O n d) (eT : T.heap = h) {a : Addr} {v : Value} (F : Fld Z h a O n d v) (hd : decode c.code pc = .ok (.getfield index, 3))
    (k : ∀ T', Stand p l e R s m args below meth c T' locs cells slots → T'.heap = h → Goes p e below FE n0 Q (T'.setTop (mkF m (pc + 3) Ls (v :: st)))) : Goes p e below FE n0 Q (T.setTop (mkF m pc Ls (.ref a :: st))) := by
  obtain ⟨T', X', e', st'⟩ := getF X hx hZ hown w via eT F (g := mkF m pc Ls (.ref a :: st)) rfl rfl hd
  exact Goes.via st' (k T' X' e')
theorem own_getS (X : Stand p l e R s m args below meth c T locs cells slots) (hx : p.tables.exec = Jvm.exec) (hZ : Z.Warmed39 s.vm) {own : String} {index : Nat} (hown : s.vm.findClass own = some m.cls) {R0 O n d host : String} (w : ((Jvm.Cond.fieldLink own index R0 n d).before a0 Z = true ∨ (Jvm.Cond.fieldLinkNest own index R0 n d host).before a0 Z = true)) (via : Via Z R0 O n d) (eT : T.heap = h) {v : Value} (F : Sta Z h O n d v) (hd : decode c.code pc = .ok (.getstatic index, 3))
    (k : ∀ T', Stand p l e R s m args below meth c T' locs cells slots → T'.heap = h → Goes p e below FE n0 Q (T'.setTop (mkF m (pc + 3) Ls (v :: st)))) : Goes p e below FE n0 Q (T.setTop (mkF m pc Ls st)) := by
  obtain ⟨T', X', e', st'⟩ := getS2 X hx hZ hown w via eT F (g := mkF m pc Ls st) rfl hd
  exact Goes.via st' (k T' X' e')
theorem own_initO (X : Stand p l e R s m args below meth c T locs cells slots) (hx : p.tables.exec = Jvm.exec) (hZ : Z.Warmed39 s.vm) {own : String} {index : Nat} (hown : s.vm.findClass own = some m.cls) (w1 : (Jvm.Cond.methodLink own index Lib.objectInit).before a0 Z = true) (w2 : (Jvm.Cond.instanceMethod Lib.objectInit).before a0 Z = true) (w3 : (Jvm.Cond.code Lib.objectInit ⟨#[0xb1]⟩ 1 none).before a0 Z = true) (eT : T.heap = h) (hsize : Ls.size = c.maxLocals) {a : Addr} (hd : decode c.code pc = .ok (.invokespecial index, 3)) (hf : 1 ≤ R.frames) {W : Nat} (hW : (st.map fun v => v.category).sum ≤ W) (hl : W + 12 ≤ R.locals)
    (k : ∀ T', Stand p l e R s m args below meth c T' locs cells slots → T'.heap = h → Goes p e below FE n0 Q (T'.setTop (mkF m (pc + 3) Ls st))) : Goes p e below FE n0 Q (T.setTop (mkF m pc Ls (.ref a :: st))) := by
  obtain ⟨T', X', e', st'⟩ := initO X hx hZ hown w1 w2 w3 eT (g := mkF m pc Ls (.ref a :: st)) rfl hsize rfl hd hf (W := W) (by show 2 * 0 + _ ≤ _; omega) hl
  exact Goes.via st' (k T' X' e')
theorem own_new (X : Stand p l e R s m args below meth c T locs cells slots) (hx : p.tables.exec = Jvm.exec) (hZ : Z.Warmed39 s.vm) {own : String} {index : Nat} (hown : s.vm.findClass own = some m.cls) {C : String} {nn : Nat} (w : (Jvm.Cond.classLink own index C).before a0 Z = true) (wi : (Jvm.Cond.instantiable C nn).before a0 Z = true) (wz : (Jvm.Cond.initialized C).before a0 Z = true) (eT : T.heap = h) (hd : decode c.code pc = .ok (.new index, 3)) (hc : cells + 1 ≤ R.cells) (hl : slots + nn ≤ R.slots)
    (k : ∀ T' h' b, b = h.size → Stand p l e R s m args below meth c T' locs (cells + 1) (slots + nn) → T'.heap = h' → Ext h h' → Exa Z h' b C → (∀ {O nm d : String} {ty : FieldType}, Laid Z a0 C O nm d → parseFieldDescriptor d = some ty → Fld Z h' b O nm d (defaultValue ty)) → Goes p e below FE n0 Q (T'.setTop (mkF m (pc + 3) Ls (.ref b :: st)))) : Goes p e below FE n0 Q (T.setTop (mkF m pc Ls st)) := by
  obtain ⟨T', h', X', e', E', A', D', -, st'⟩ := newO X hx hZ hown w wi wz eT (g := mkF m pc Ls st) rfl hd hc hl
  exact Goes.via st' (k T' h' _ rfl X' e' E' A' D')
theorem own_putF (X : Stand p l e R s m args below meth c T locs cells slots) (hx : p.tables.exec = Jvm.exec) (hZ : Z.Warmed39 s.vm) {own : String} {index : Nat} (hown : s.vm.findClass own = some m.cls) {R0 O n d host C : String} {kk : Nat} {ty : FieldType} (N : Fr n0 locs) (w : ((Jvm.Cond.fieldLink own index R0 n d).before a0 Z = true ∨ (Jvm.Cond.fieldLinkNest own index R0 n d host).before a0 Z = true)) (via : Via Z R0 O n d) (eT : T.heap = h) {a : Addr} {v old : Value} (F : Fld Z h a O n d old) (E : Exa Z h a C) (L : (Jvm.Cond.lays C O n d).before a0 Z = true ∨ ((Jvm.Cond.laysFinal C O n d).before a0 Z = true ∧ own = O ∧ meth.name = "<init>")) (wi : (Jvm.Cond.instantiable C kk).before a0 Z = true) (hty : parseFieldDescriptor d = some ty) (hn : narrow ty v = v) (hf : fits ty v = true) (hge : n0 ≤ a) (hd : decode c.code pc = .ok (.putfield index, 3))
    (k : ∀ T' h' locs', Stand p l e R s m args below meth c T' locs' cells slots → T'.heap = h' → Fr n0 locs' → Wr h h' a (RoadKit.slotOf Z O n d) v → Goes p e below FE n0 Q (T'.setTop (mkF m (pc + 3) Ls st))) : Goes p e below FE n0 Q (T.setTop (mkF m pc Ls (v :: .ref a :: st))) := by
  obtain ⟨T', h', X', e', W', st'⟩ := putF X hx hZ hown w via eT F E L wi hty hn hf (g := mkF m pc Ls (v :: .ref a :: st)) rfl rfl hd
  exact Goes.via st' (k T' h' _ X' e' (Fr.snoc X' N hge) W')
theorem own_castY (X : Stand p l e R s m args below meth c T locs cells slots) (hx : p.tables.exec = Jvm.exec) (hZ : Z.Warmed39 s.vm) {own : String} {index : Nat} (hown : s.vm.findClass own = some m.cls) {K : String} (w : (Jvm.Cond.classLink own index K).before a0 Z = true) (eT : T.heap = h) {a : Addr} (F : Ins Z h a K true) (hd : decode c.code pc = .ok (.checkcast index, 3))
    (k : ∀ T', Stand p l e R s m args below meth c T' locs cells slots → T'.heap = h → Goes p e below FE n0 Q (T'.setTop (mkF m (pc + 3) Ls (.ref a :: st)))) : Goes p e below FE n0 Q (T.setTop (mkF m pc Ls (.ref a :: st))) := by
  obtain ⟨T', X', e', st'⟩ := castY X hx hZ hown w eT F (g := mkF m pc Ls (.ref a :: st)) rfl rfl hd
  exact Goes.via st' (k T' X' e')
theorem own_castNull (X : Stand p l e R s m args below meth c T locs cells slots) (hx : p.tables.exec = Jvm.exec) {index : Nat} (hd : decode c.code pc = .ok (.checkcast index, 3))
    (g : Goes p e below FE n0 Q (T.setTop (mkF m (pc + 3) Ls (.null :: st)))) : Goes p e below FE n0 Q (T.setTop (mkF m pc Ls (.null :: st))) :=
  Goes.via (X.checkcastNull hx (g := mkF m pc Ls (.null :: st)) rfl rfl hd) g
theorem own_instNull (X : Stand p l e R s m args below meth c T locs cells slots) (hx : p.tables.exec = Jvm.exec) {index : Nat} (hd : decode c.code pc = .ok (.instanceof index, 3))
    (g : Goes p e below FE n0 Q (T.setTop (mkF m (pc + 3) Ls (.int 0 :: st)))) : Goes p e below FE n0 Q (T.setTop (mkF m pc Ls (.null :: st))) :=
  Goes.via (X.instanceofNull hx (g := mkF m pc Ls (.null :: st)) rfl rfl hd) g
theorem own_instY (X : Stand p l e R s m args below meth c T locs cells slots) (hx : p.tables.exec = Jvm.exec) (hZ : Z.Warmed39 s.vm) {own : String} {index : Nat} (hown : s.vm.findClass own = some m.cls) {K : String} (w : (Jvm.Cond.classLink own index K).before a0 Z = true) (eT : T.heap = h) {a : Addr} (F : Ins Z h a K true) (hd : decode c.code pc = .ok (.instanceof index, 3))
    (k : ∀ T', Stand p l e R s m args below meth c T' locs cells slots → T'.heap = h → Goes p e below FE n0 Q (T'.setTop (mkF m (pc + 3) Ls (.int 1 :: st)))) : Goes p e below FE n0 Q (T.setTop (mkF m pc Ls (.ref a :: st))) := by
  obtain ⟨T', X', e', st'⟩ := instY X hx hZ hown w eT F (g := mkF m pc Ls (.ref a :: st)) rfl rfl hd
  exact Goes.via st' (k T' X' e')
theorem own_instN (X : Stand p l e R s m args below meth c T locs cells slots) (hx : p.tables.exec = Jvm.exec) (hZ : Z.Warmed39 s.vm) {own : String} {index : Nat} (hown : s.vm.findClass own = some m.cls) {K C : String} (w : (Jvm.Cond.classLink own index K).before a0 Z = true) (eT : T.heap = h) {a : Addr} (E : Exa Z h a C) (F : ∃ c t, Z.vm.findClass C = some c ∧ Z.vm.findClass K = some t ∧ Z.vm.assignable c t = false) (hd : decode c.code pc = .ok (.instanceof index, 3))
    (k : ∀ T', Stand p l e R s m args below meth c T' locs cells slots → T'.heap = h → Goes p e below FE n0 Q (T'.setTop (mkF m (pc + 3) Ls (.int 0 :: st)))) : Goes p e below FE n0 Q (T.setTop (mkF m pc Ls (.ref a :: st))) := by
  obtain ⟨T', X', e', st'⟩ := instNo X hx hZ hown w eT E F (g := mkF m pc Ls (.ref a :: st)) rfl rfl hd
  exact Goes.via st' (k T' X' e')
theorem own_lsw (X : Stand p l e R s m args below meth c T locs cells slots) (hx : p.tables.exec = Jvm.exec) {dflt : Int} {prs : Array (Int × Int)} {len : Nat} {o kk : Int} {i : Int32} (hd : decode c.code pc = .ok (.lookupswitch dflt prs, len)) (hso : (prs.toList.zip (prs.toList.drop 1)).all (fun (a, next) => a.1 < next.1) = true) (hf : prs.find? (·.1 == i.toInt) = some (kk, o)) (ho : 0 ≤ (pc : Int) + o) (hp : ((pc : Int) + o).toNat = pc')
    (g : Goes p e below FE n0 Q (T.setTop (mkF m pc' Ls st))) : Goes p e below FE n0 Q (T.setTop (mkF m pc Ls (.int i :: st))) := by
  subst hp
  exact Goes.via (X.lookupswitchHit hx (g := mkF m pc Ls (.int i :: st)) rfl rfl hd hso hf ho) g
theorem own_clone (X : Stand p l e R s m args below meth c T locs cells slots) (hx : p.tables.exec = Jvm.exec) (hZ : Z.Warmed39 s.vm) {own : String} {index : Nat} (hown : s.vm.findClass own = some m.cls) {ad : String} (w1 : (Jvm.Cond.methodLink own index ⟨ad, "clone", "()Ljava/lang/Object;"⟩).before a0 Z = true) (w2 : (Jvm.Cond.sameMethod ad "java/lang/Object" "clone" "()Ljava/lang/Object;").before a0 Z = true) (w3 : (Jvm.Cond.native ⟨"java/lang/Object", "clone", "()Ljava/lang/Object;"⟩).before a0 Z = true) (w4 : (Jvm.Cond.instanceMethod ⟨"java/lang/Object", "clone", "()Ljava/lang/Object;"⟩).before a0 Z = true) (w5 : (Jvm.Cond.selects ad ⟨ad, "clone", "()Ljava/lang/Object;"⟩ ⟨"java/lang/Object", "clone", "()Ljava/lang/Object;"⟩).before a0 Z = true) (w6 : (Jvm.Cond.castable ad "java/lang/Cloneable").before a0 Z = true) (eT : T.heap = h) {a : Addr} {k : ClassId} {ty : FieldType} {z : Int32} {vs : List Value} {dv : Value} (F : Arv Z h a k ty z vs dv) (E : Exa Z h a ad) (hsize : Ls.size = c.maxLocals) (hd : decode c.code pc = .ok (.invokevirtual index, 3)) (hf : 1 ≤ R.frames) {W cap : Nat} (hW : (st.map fun v => v.category).sum ≤ W) (hl : W + 14 ≤ R.locals) (hcap : z.toNatClampNeg ≤ cap) (hc : cells + 1 ≤ R.cells) (hsl : slots + cap ≤ R.slots)
    (k : ∀ T' h' b, b = h.size → Stand p l e R s m args below meth c T' locs (cells + 1) (slots + cap) → T'.heap = h' → Ext h h' → Arv Z h' b k ty z vs dv → Exa Z h' b ad → Goes p e below FE n0 Q (T'.setTop (mkF m (pc + 3) Ls (.ref b :: st)))) : Goes p e below FE n0 Q (T.setTop (mkF m pc Ls (.ref a :: st))) := by
  obtain ⟨T', h', X', e', E', A', Ex', st'⟩ := cloneH X hx hZ hown w1 w2 w3 w4 w5 w6 eT F.arh E (g := mkF m pc Ls (.ref a :: st)) rfl hsize rfl hd hf (W := W) (cap := cap) (by show 2 * 0 + _ ≤ _; omega) hl hcap hc hsl
  exact Goes.via st' (k T' h' _ rfl X' e' E' A' Ex')
theorem own_iaload (X : Stand p l e R s m args below meth c T locs cells slots) (hx : p.tables.exec = Jvm.exec) (hZ : Z.Warmed39 s.vm) (eT : T.heap = h) {a : Addr} {k : ClassId} {z j : Int32} {vs : List Value} {dv v : Value} (F : Arv Z h a k .int z vs dv) (hj : ¬ j < 0 ∧ j < z) (hv : vs.getD j.toNatClampNeg dv = v) (hd : decode c.code pc = .ok (.iaload, 1))
    (g : Goes p e below FE n0 Q (T.setTop (mkF m (pc + 1) Ls (v :: st)))) : Goes p e below FE n0 Q (T.setTop (mkF m pc Ls (.int j :: .ref a :: st))) := by
  obtain ⟨cl, A, -, S, -, H, -⟩ := F
  exact Goes.via (fun t k => X.iaload hx (j := j) (v := v) (by rw [eT]; exact A.1) (State.isArrayOf_alike hZ.alike A.2.1) A.2.2 (inb_of S hj) (H.at (inb_of S hj) hv) (g := mkF m pc Ls (.int j :: .ref a :: st)) rfl rfl hd t k) g
theorem own_laload (X : Stand p l e R s m args below meth c T locs cells slots) (hx : p.tables.exec = Jvm.exec) (hZ : Z.Warmed39 s.vm) (eT : T.heap = h) {a : Addr} {k : ClassId} {z j : Int32} {vs : List Value} {dv v : Value} (F : Arv Z h a k .long z vs dv) (hj : ¬ j < 0 ∧ j < z) (hv : vs.getD j.toNatClampNeg dv = v) (hd : decode c.code pc = .ok (.laload, 1))
    (g : Goes p e below FE n0 Q (T.setTop (mkF m (pc + 1) Ls (v :: st)))) : Goes p e below FE n0 Q (T.setTop (mkF m pc Ls (.int j :: .ref a :: st))) := by
  obtain ⟨cl, A, -, S, -, H, -⟩ := F
  exact Goes.via (fun t k => X.laload hx (j := j) (v := v) (by rw [eT]; exact A.1) (State.isArrayOf_alike hZ.alike A.2.1) A.2.2 (inb_of S hj) (H.at (inb_of S hj) hv) (g := mkF m pc Ls (.int j :: .ref a :: st)) rfl rfl hd t k) g
theorem own_caload (X : Stand p l e R s m args below meth c T locs cells slots) (hx : p.tables.exec = Jvm.exec) (hZ : Z.Warmed39 s.vm) (eT : T.heap = h) {a : Addr} {k : ClassId} {z j : Int32} {vs : List Value} {dv v : Value} (F : Arv Z h a k .char z vs dv) (hj : ¬ j < 0 ∧ j < z) (hv : vs.getD j.toNatClampNeg dv = v) (hd : decode c.code pc = .ok (.caload, 1))
    (g : Goes p e below FE n0 Q (T.setTop (mkF m (pc + 1) Ls (v :: st)))) : Goes p e below FE n0 Q (T.setTop (mkF m pc Ls (.int j :: .ref a :: st))) := by
  obtain ⟨cl, A, -, S, -, H, -⟩ := F
  exact Goes.via (fun t k => X.caload hx (j := j) (v := v) (by rw [eT]; exact A.1) (State.isArrayOf_alike hZ.alike A.2.1) A.2.2 (inb_of S hj) (H.at (inb_of S hj) hv) (g := mkF m pc Ls (.int j :: .ref a :: st)) rfl rfl hd t k) g
theorem own_baload (X : Stand p l e R s m args below meth c T locs cells slots) (hx : p.tables.exec = Jvm.exec) (hZ : Z.Warmed39 s.vm) (eT : T.heap = h) {a : Addr} {k : ClassId} {z j : Int32} {vs : List Value} {dv v : Value} (F : Arv Z h a k .byte z vs dv) (hj : ¬ j < 0 ∧ j < z) (hv : vs.getD j.toNatClampNeg dv = v) (hd : decode c.code pc = .ok (.baload, 1))
    (g : Goes p e below FE n0 Q (T.setTop (mkF m (pc + 1) Ls (v :: st)))) : Goes p e below FE n0 Q (T.setTop (mkF m pc Ls (.int j :: .ref a :: st))) := by
  obtain ⟨cl, A, -, S, -, H, -⟩ := F
  exact Goes.via (fun t k => X.baloadBytes hx (j := j) (v := v) (by rw [eT]; exact A.1) (State.isArrayOf_alike hZ.alike A.2.1) A.2.2 (inb_of S hj) (H.at (inb_of S hj) hv) (g := mkF m pc Ls (.int j :: .ref a :: st)) rfl rfl hd t k) g
theorem own_aaload (X : Stand p l e R s m args below meth c T locs cells slots) (hx : p.tables.exec = Jvm.exec) (hZ : Z.Warmed39 s.vm) (eT : T.heap = h) {a : Addr} {k : ClassId} {ty : FieldType} {z j : Int32} {vs : List Value} {dv v : Value} (F : Arv Z h a k ty z vs dv) (hty : ty.isReference = true) (hj : ¬ j < 0 ∧ j < z) (hv : vs.getD j.toNatClampNeg dv = v) (hd : decode c.code pc = .ok (.aaload, 1))
    (g : Goes p e below FE n0 Q (T.setTop (mkF m (pc + 1) Ls (v :: st)))) : Goes p e below FE n0 Q (T.setTop (mkF m pc Ls (.int j :: .ref a :: st))) := by
  obtain ⟨cl, A, -, S, -, H, -⟩ := F
  exact Goes.via (fun t k => X.aaload hx (j := j) (v := v) (by rw [eT]; exact A.1) (State.isArrayOf_alike hZ.alike A.2.1) hty A.2.2 (inb_of S hj) (H.at (inb_of S hj) hv) (g := mkF m pc Ls (.int j :: .ref a :: st)) rfl rfl hd t k) g
theorem own_aaloadC (X : Stand p l e R s m args below meth c T locs cells slots) (hx : p.tables.exec = Jvm.exec) (hZ : Z.Warmed39 s.vm) (eT : T.heap = h) {a : Addr} {cl : Cell} {ty : FieldType} {j : Int32} {v : Value} (A : Arr Z h a cl ty) (hty : ty.isReference = true) (hj : ¬ (j < 0 ∨ cl.slots.size ≤ j.toNatClampNeg)) (hv : cl.slots[j.toNatClampNeg]? = some v) (hd : decode c.code pc = .ok (.aaload, 1))
    (g : Goes p e below FE n0 Q (T.setTop (mkF m (pc + 1) Ls (v :: st)))) : Goes p e below FE n0 Q (T.setTop (mkF m pc Ls (.int j :: .ref a :: st))) :=
  Goes.via (fun t k => X.aaload hx (j := j) (v := v) (by rw [eT]; exact A.1) (State.isArrayOf_alike hZ.alike A.2.1) hty A.2.2 hj hv (g := mkF m pc Ls (.int j :: .ref a :: st)) rfl rfl hd t k) g
theorem own_alen (X : Stand p l e R s m args below meth c T locs cells slots) (hx : p.tables.exec = Jvm.exec) (hZ : Z.Warmed39 s.vm) (eT : T.heap = h) {a : Addr} {k : ClassId} {ty : FieldType} {z : Int32} {vs : List Value} {dv : Value} (F : Arv Z h a k ty z vs dv) (hd : decode c.code pc = .ok (.arraylength, 1))
    (g : Goes p e below FE n0 Q (T.setTop (mkF m (pc + 1) Ls (.int z :: st)))) : Goes p e below FE n0 Q (T.setTop (mkF m pc Ls (.ref a :: st))) := by
  obtain ⟨cl, A, -, S, hz, -, -⟩ := F
  rw [← len_of S hz] at g
  exact Goes.via (fun t k => X.arraylength hx (by rw [eT]; exact A.1) (State.isArrayOf_alike hZ.alike A.2.1) (g := mkF m pc Ls (.ref a :: st)) rfl rfl hd t k) g
theorem own_newP (X : Stand p l e R s m args below meth c T locs cells slots) (hx : p.tables.exec = Jvm.exec) (hZ : Z.Warmed39 s.vm) {aty : ArrayType} (w : (Jvm.Cond.arrayClass (newarray.typeOf aty)).before a0 Z = true) (eT : T.heap = h) {n : Int32} (hd : decode c.code pc = .ok (.newarray aty, 2)) (hn : ¬ n < 0) {cap : Nat} (hcap : n.toNatClampNeg ≤ cap) (hb : cap * 8 ≤ 536870912) (hc : cells + 1 ≤ R.cells) (hl : slots + cap ≤ R.slots)
    (k : ∀ T' h' b cA, b = h.size → Stand p l e R s m args below meth c T' locs (cells + 1) (slots + cap) → T'.heap = h' → Ext h h' → Arv Z h' b cA (newarray.typeOf aty) n [] (defaultValue (newarray.typeOf aty)) → Goes p e below FE n0 Q (T'.setTop (mkF m (pc + 2) Ls (.ref b :: st)))) : Goes p e below FE n0 Q (T.setTop (mkF m pc Ls (.int n :: st))) := by
  obtain ⟨T', h', cA, X', e', E', A', st'⟩ := newP X hx hZ w eT (g := mkF m pc Ls (.int n :: st)) rfl hd rfl hn hcap hb hc hl
  exact Goes.via st' (k T' h' _ cA rfl X' e' E' (Arv.new A' hn))
theorem own_newR (X : Stand p l e R s m args below meth c T locs cells slots) (hx : p.tables.exec = Jvm.exec) (hZ : Z.Warmed39 s.vm) {own : String} {index : Nat} (hown : s.vm.findClass own = some m.cls) {C : String} (w1 : (Jvm.Cond.classLink own index C).before a0 Z = true) (w2 : (Jvm.Cond.arrayOver (.object C)).before a0 Z = true) (eT : T.heap = h) {n : Int32} (hd : decode c.code pc = .ok (.anewarray index, 3)) (hn : ¬ n < 0) {cap : Nat} (hcap : n.toNatClampNeg ≤ cap) (hb : cap * 8 ≤ 536870912) (hc : cells + 1 ≤ R.cells) (hl : slots + cap ≤ R.slots)
    (k : ∀ T' h' b cA, b = h.size → Stand p l e R s m args below meth c T' locs (cells + 1) (slots + cap) → T'.heap = h' → Ext h h' → Arv Z h' b cA (.object C) n [] .null → Ovr Z cA C → Goes p e below FE n0 Q (T'.setTop (mkF m (pc + 3) Ls (.ref b :: st)))) : Goes p e below FE n0 Q (T.setTop (mkF m pc Ls (.int n :: st))) := by
  obtain ⟨T', h', cA, X', e', E', A', O', st'⟩ := newR X hx hZ hown w1 w2 eT (g := mkF m pc Ls (.int n :: st)) rfl hd rfl hn hcap hb hc hl
  exact Goes.via st' (k T' h' _ cA rfl X' e' E' (Arv.new A' hn) O')
theorem own_newPE (X : Stand p l e R s m args below meth c T locs cells slots) (hx : p.tables.exec = Jvm.exec) (hZ : Z.Warmed39 s.vm) {aty : ArrayType} (w : (Jvm.Cond.arrayClass (newarray.typeOf aty)).before a0 Z = true) (eT : T.heap = h) {n : Int32} {ad : String} (had : "[" ++ (newarray.typeOf aty).toString = ad) (hd : decode c.code pc = .ok (.newarray aty, 2)) (hn : ¬ n < 0) {cap : Nat} (hcap : n.toNatClampNeg ≤ cap) (hb : cap * 8 ≤ 536870912) (hc : cells + 1 ≤ R.cells) (hl : slots + cap ≤ R.slots)
    (k : ∀ T' h' b cA, b = h.size → Stand p l e R s m args below meth c T' locs (cells + 1) (slots + cap) → T'.heap = h' → Ext h h' → Arv Z h' b cA (newarray.typeOf aty) n [] (defaultValue (newarray.typeOf aty)) → Exa Z h' b ad → Goes p e below FE n0 Q (T'.setTop (mkF m (pc + 2) Ls (.ref b :: st)))) : Goes p e below FE n0 Q (T.setTop (mkF m pc Ls (.int n :: st))) := by
  obtain ⟨T', h', cA, X', e', E', A', Ex', st'⟩ := newPE X hx hZ w eT (g := mkF m pc Ls (.int n :: st)) rfl hd rfl hn hcap hb hc hl had
  exact Goes.via st' (k T' h' _ cA rfl X' e' E' (Arv.new A' hn) Ex')
theorem own_newRE (X : Stand p l e R s m args below meth c T locs cells slots) (hx : p.tables.exec = Jvm.exec) (hZ : Z.Warmed39 s.vm) {own : String} {index : Nat} (hown : s.vm.findClass own = some m.cls) {C ad : String} (had : "[" ++ (FieldType.object C).toString = ad) (w1 : (Jvm.Cond.classLink own index C).before a0 Z = true) (w2 : (Jvm.Cond.arrayOver (.object C)).before a0 Z = true) (eT : T.heap = h) {n : Int32} (hd : decode c.code pc = .ok (.anewarray index, 3)) (hn : ¬ n < 0) {cap : Nat} (hcap : n.toNatClampNeg ≤ cap) (hb : cap * 8 ≤ 536870912) (hc : cells + 1 ≤ R.cells) (hl : slots + cap ≤ R.slots)
    (k : ∀ T' h' b cA, b = h.size → Stand p l e R s m args below meth c T' locs (cells + 1) (slots + cap) → T'.heap = h' → Ext h h' → Arv Z h' b cA (.object C) n [] .null → Ovr Z cA C → Exa Z h' b ad → Goes p e below FE n0 Q (T'.setTop (mkF m (pc + 3) Ls (.ref b :: st)))) : Goes p e below FE n0 Q (T.setTop (mkF m pc Ls (.int n :: st))) := by
  obtain ⟨T', h', cA, X', e', E', A', Ex', O', st'⟩ := newRE X hx hZ hown w1 w2 eT (g := mkF m pc Ls (.int n :: st)) rfl hd rfl hn hcap hb hc hl had
  exact Goes.via st' (k T' h' _ cA rfl X' e' E' (Arv.new A' hn) O' Ex')
theorem own_newRA (X : Stand p l e R s m args below meth c T locs cells slots) (hx : p.tables.exec = Jvm.exec) (hZ : Z.Warmed39 s.vm) {own : String} {index : Nat} (hown : s.vm.findClass own = some m.cls) {C ad : String} {ty : FieldType} (hC : (FieldType.array ty).toString = C) (had : "[" ++ C = ad) (w1 : (Jvm.Cond.classLink own index C).before a0 Z = true) (w2 : (Jvm.Cond.arrayOver (.array ty)).before a0 Z = true) (eT : T.heap = h) {n : Int32} (hd : decode c.code pc = .ok (.anewarray index, 3)) (hn : ¬ n < 0) {cap : Nat} (hcap : n.toNatClampNeg ≤ cap) (hb : cap * 8 ≤ 536870912) (hc : cells + 1 ≤ R.cells) (hl : slots + cap ≤ R.slots)
    (k : ∀ T' h' b cA, b = h.size → Stand p l e R s m args below meth c T' locs (cells + 1) (slots + cap) → T'.heap = h' → Ext h h' → Arv Z h' b cA (.array ty) n [] .null → OvrA Z cA ty C → Goes p e below FE n0 Q (T'.setTop (mkF m (pc + 3) Ls (.ref b :: st)))) : Goes p e below FE n0 Q (T.setTop (mkF m pc Ls (.int n :: st))) := by
  obtain ⟨T', h', cA, X', e', E', A', Ex', O', st'⟩ := newRA X hx hZ hown hC w1 w2 eT (g := mkF m pc Ls (.int n :: st)) rfl hd rfl hn hcap hb hc hl had
  exact Goes.via st' (k T' h' _ cA rfl X' e' E' (Arv.new A' hn) O')
theorem own_iastore (X : Stand p l e R s m args below meth c T locs cells slots) (hx : p.tables.exec = Jvm.exec) (hZ : Z.Warmed39 s.vm) (N : Fr n0 locs) (eT : T.heap = h) {a : Addr} {k : ClassId} {z j : Int32} {vs : List Value} {dv : Value} {x : Int32} (F : Arv Z h a k .int z vs dv) (hj : ¬ j < 0 ∧ j < z) {i : Nat} (hi : j.toNatClampNeg = i) (hlen : i < vs.length) (hge : n0 ≤ a) (hd : decode c.code pc = .ok (.iastore, 1))
    (k : ∀ T' h' locs', Stand p l e R s m args below meth c T' locs' cells slots → T'.heap = h' → Fr n0 locs' → Wr h h' a j.toNatClampNeg (.int x) → Arv Z h' a k .int z (vs.set i (.int x)) dv → Goes p e below FE n0 Q (T'.setTop (mkF m (pc + 1) Ls st))) : Goes p e below FE n0 Q (T.setTop (mkF m pc Ls (.int x :: .int j :: .ref a :: st))) := by
  obtain ⟨cl, A, q1, S, q3, H, G⟩ := F
  obtain ⟨T', h', X', e', W', st'⟩ := stI X hx hZ eT A (j := j) (inb_of S hj) (g := mkF m pc Ls (.int x :: .int j :: .ref a :: st)) rfl rfl hd
  exact Goes.via st' (k T' h' _ X' e' (Fr.snoc X' N hge) W' (Arv.set A q1 S q3 H G rfl W' i hi hlen))
theorem own_lastore (X : Stand p l e R s m args below meth c T locs cells slots) (hx : p.tables.exec = Jvm.exec) (hZ : Z.Warmed39 s.vm) (N : Fr n0 locs) (eT : T.heap = h) {a : Addr} {k : ClassId} {z j : Int32} {vs : List Value} {dv : Value} {x : Int64} (F : Arv Z h a k .long z vs dv) (hj : ¬ j < 0 ∧ j < z) {i : Nat} (hi : j.toNatClampNeg = i) (hlen : i < vs.length) (hge : n0 ≤ a) (hd : decode c.code pc = .ok (.lastore, 1))
    (k : ∀ T' h' locs', Stand p l e R s m args below meth c T' locs' cells slots → T'.heap = h' → Fr n0 locs' → Wr h h' a j.toNatClampNeg (.long x) → Arv Z h' a k .long z (vs.set i (.long x)) dv → Goes p e below FE n0 Q (T'.setTop (mkF m (pc + 1) Ls st))) : Goes p e below FE n0 Q (T.setTop (mkF m pc Ls (.long x :: .int j :: .ref a :: st))) := by
  obtain ⟨cl, A, q1, S, q3, H, G⟩ := F
  obtain ⟨T', h', X', e', W', st'⟩ := stJ X hx hZ eT A (j := j) (inb_of S hj) (g := mkF m pc Ls (.long x :: .int j :: .ref a :: st)) rfl rfl hd
  exact Goes.via st' (k T' h' _ X' e' (Fr.snoc X' N hge) W' (Arv.set A q1 S q3 H G rfl W' i hi hlen))
theorem own_castore (X : Stand p l e R s m args below meth c T locs cells slots) (hx : p.tables.exec = Jvm.exec) (hZ : Z.Warmed39 s.vm) (N : Fr n0 locs) (eT : T.heap = h) {a : Addr} {k : ClassId} {z j : Int32} {vs : List Value} {dv : Value} {x : Int32} (F : Arv Z h a k .char z vs dv) (hj : ¬ j < 0 ∧ j < z) {i : Nat} (hi : j.toNatClampNeg = i) (hlen : i < vs.length) (hge : n0 ≤ a) (hd : decode c.code pc = .ok (.castore, 1))
    (k : ∀ T' h' locs', Stand p l e R s m args below meth c T' locs' cells slots → T'.heap = h' → Fr n0 locs' → Wr h h' a j.toNatClampNeg (.int (nar .char x)) → Arv Z h' a k .char z (vs.set i (.int (nar .char x))) dv → Goes p e below FE n0 Q (T'.setTop (mkF m (pc + 1) Ls st))) : Goes p e below FE n0 Q (T.setTop (mkF m pc Ls (.int x :: .int j :: .ref a :: st))) := by
  obtain ⟨cl, A, q1, S, q3, H, G⟩ := F
  obtain ⟨T', h', X', e', W', st'⟩ := stC X hx hZ eT A (j := j) (inb_of S hj) (g := mkF m pc Ls (.int x :: .int j :: .ref a :: st)) rfl rfl hd
  exact Goes.via st' (k T' h' _ X' e' (Fr.snoc X' N hge) W' (Arv.set A q1 S q3 H G (fits_nar_char _) W' i hi hlen))
theorem own_bastore (X : Stand p l e R s m args below meth c T locs cells slots) (hx : p.tables.exec = Jvm.exec) (hZ : Z.Warmed39 s.vm) (N : Fr n0 locs) (eT : T.heap = h) {a : Addr} {k : ClassId} {z j : Int32} {vs : List Value} {dv : Value} {x : Int32} (F : Arv Z h a k .byte z vs dv) (hj : ¬ j < 0 ∧ j < z) {i : Nat} (hi : j.toNatClampNeg = i) (hlen : i < vs.length) (hge : n0 ≤ a) (hd : decode c.code pc = .ok (.bastore, 1))
    (k : ∀ T' h' locs', Stand p l e R s m args below meth c T' locs' cells slots → T'.heap = h' → Fr n0 locs' → Wr h h' a j.toNatClampNeg (.int (x.toInt8.toInt32)) → Arv Z h' a k .byte z (vs.set i (.int (x.toInt8.toInt32))) dv → Goes p e below FE n0 Q (T'.setTop (mkF m (pc + 1) Ls st))) : Goes p e below FE n0 Q (T.setTop (mkF m pc Ls (.int x :: .int j :: .ref a :: st))) := by
  obtain ⟨cl, A, q1, S, q3, H, G⟩ := F
  obtain ⟨T', h', X', e', W', st'⟩ := stB X hx hZ eT A (j := j) (inb_of S hj) (g := mkF m pc Ls (.int x :: .int j :: .ref a :: st)) rfl rfl hd
  exact Goes.via st' (k T' h' _ X' e' (Fr.snoc X' N hge) W' (Arv.set A q1 S q3 H G (fits_nar_byte _) W' i hi hlen))
theorem own_aastore (X : Stand p l e R s m args below meth c T locs cells slots) (hx : p.tables.exec = Jvm.exec) (hZ : Z.Warmed39 s.vm) (N : Fr n0 locs) (eT : T.heap = h) {a : Addr} {k : ClassId} {ty : FieldType} {z j : Int32} {vs : List Value} {dv v : Value} (F : Arv Z h a k ty z vs dv) (hty : ty.isReference = true) (hfit : fits ty v = true) (hj : ¬ j < 0 ∧ j < z) {i : Nat} (hi : j.toNatClampNeg = i) (hlen : i < vs.length) (hge : n0 ≤ a) (hst : ∀ cl, Arr Z h a cl ty → cl.cls = k → Sto Z h a v) (hd : decode c.code pc = .ok (.aastore, 1))
    (k : ∀ T' h' locs', Stand p l e R s m args below meth c T' locs' cells slots → T'.heap = h' → Fr n0 locs' → Wr h h' a j.toNatClampNeg v → Arv Z h' a k ty z (vs.set i v) dv → Goes p e below FE n0 Q (T'.setTop (mkF m (pc + 1) Ls st))) : Goes p e below FE n0 Q (T.setTop (mkF m pc Ls (v :: .int j :: .ref a :: st))) := by
  obtain ⟨cl, A, q1, S, q3, H, G⟩ := F
  obtain ⟨T', h', X', e', W', st'⟩ := stR X hx hZ eT A (j := j) (inb_of S hj) hty (hst cl A q1) (g := mkF m pc Ls (v :: .int j :: .ref a :: st)) rfl rfl hd
  exact Goes.via st' (k T' h' _ X' e' (Fr.snoc X' N hge) W' (Arv.set A q1 S q3 H G hfit W' i hi hlen))
theorem own_selfsel {y : MethodName} {nn : Nat} (wi : (Jvm.Cond.instantiable y.cls nn).before a0 Z = true) (w2 : (Jvm.Cond.instanceMethod y).before a0 Z = true) (w6 : (Jvm.Cond.privateMethod y).before a0 Z = true) (hy : y.cls ≠ "java/lang/invoke/MethodHandle" ∧ y.cls ≠ "java/lang/invoke/VarHandle") : (Jvm.Cond.selects y.cls y y).before a0 Z = true := by
  obtain ⟨c, k, h1, h2, -, h4, -⟩ := Cond.instantiable_spec wi
  exact selects_self_of_private h1 h2 (by rw [Bool.or_eq_false_iff] at h4; exact h4.1) (Cond.privateMethod_at w6) w2 hy
theorem own_callS (X : Stand p l e R s m args below meth c T locs cells slots) (hx : p.tables.exec = Jvm.exec) (hZ : Z.Warmed39 s.vm) {own : String} {index : Nat} (hown : s.vm.findClass own = some m.cls) {y : MethodName} {bytes : ByteArray} {maxL : Nat} {ret : Option FieldType} {rm : Room} {W : Nat} {Q' : Option Value → Heap → Prop} (w1 : (Jvm.Cond.methodLink own index y).before a0 Z = true) (w2 : (Jvm.Cond.static y).before a0 Z = true) (w3 : (Jvm.Cond.initialized y.cls).before a0 Z = true) (w4 : (Jvm.Cond.code y bytes maxL ret).before a0 Z = true) (hy : y.cls ≠ "java/lang/invoke/MethodHandle" ∧ y.cls ≠ "java/lang/invoke/VarHandle") (hf : rm.frames + 1 ≤ R.frames) (hl : W + (maxL + 11) + rm.locals ≤ R.locals) (N : Fr n0 locs) (eT : T.heap = h) (hsize : Ls.size = c.maxLocals) {argsL rest : List Value} (hlen : ∀ sig, parseMethodDescriptor y.desc = some sig → argsL.length = sig.parameters.length) (hW : (rest.map fun v => v.category).sum ≤ W) (hc : cells + rm.cells ≤ R.cells) (hs : slots + rm.slots ≤ R.slots) (M : Meets l y bytes maxL ret [] rm rm.cells rm.slots Z argsL.toArray h n0 Q') (hst : st = argsL.reverse ++ rest) (hd : decode c.code pc = .ok (.invokestatic index, 3))
    (k : ∀ v T' locs', Stand p l e R s m args below meth c T' locs' (cells + rm.cells) (slots + rm.slots) → Fr n0 locs' → Q' v T'.heap → Goes p e below FE n0 Q (T'.setTop (mkF m (pc + 3) Ls (v.toList ++ rest)))) : Goes p e below FE n0 Q (T.setTop (mkF m pc Ls st)) := by
  subst hst
  obtain ⟨v, _, ⟨T', L', k', n'⟩, -, X', ⟨Lc, hQ, l1, l2, l3⟩, st'⟩ := Jvm.LawKit.callS X hx (y := y) hown (mvT hZ w1) (mvT hZ w2) (mvT hZ w3) (mvT hZ w4) hy (backOf (W := W) (Q := fun v h L => Fr n0 L ∧ Q' v h) M hZ w4 w3 hf hl) (g := mkF m pc Ls (argsL.reverse ++ rest)) rfl hsize (argsL := argsL) (rest := rest) hlen rfl (by show 2 * 0 + _ ≤ _; omega) hd (fun _ _ => ⟨rfl, eT, hc, hs⟩)
  dsimp only [Pt.U, Pt.locs, Pt.cells, Pt.slots] at X' l1 l2 l3 st' hQ
  subst l1 l2 l3
  exact Goes.via st' (k v T' _ X' (Fr.app N hQ.1) hQ.2)
theorem own_special (X : Stand p l e R s m args below meth c T locs cells slots) (hx : p.tables.exec = Jvm.exec) (hZ : Z.Warmed39 s.vm) {own : String} {index : Nat} (hown : s.vm.findClass own = some m.cls) {y : MethodName} {bytes : ByteArray} {maxL : Nat} {rm : Room} {W : Nat} {Q' : Option Value → Heap → Prop} (hy1 : y.name = "<init>") (w1 : (Jvm.Cond.methodLink own index y).before a0 Z = true) (w2 : (Jvm.Cond.instanceMethod y).before a0 Z = true) (w3 : (Jvm.Cond.initialized y.cls).before a0 Z = true) (w4 : (Jvm.Cond.code y bytes maxL none).before a0 Z = true) {a : Addr} (hy : y.cls ≠ "java/lang/invoke/MethodHandle" ∧ y.cls ≠ "java/lang/invoke/VarHandle") (hf : rm.frames + 1 ≤ R.frames) (hl : W + (maxL + 11) + rm.locals ≤ R.locals) (N : Fr n0 locs) (eT : T.heap = h) (hsize : Ls.size = c.maxLocals) {argsL rest : List Value} (hlen : ∀ sig, parseMethodDescriptor y.desc = some sig → argsL.length = sig.parameters.length) (hW : (rest.map fun v => v.category).sum ≤ W) (hc : cells + rm.cells ≤ R.cells) (hs : slots + rm.slots ≤ R.slots) (M : Meets l y bytes maxL none [] rm rm.cells rm.slots Z (.ref a :: argsL).toArray h n0 Q') (hst : st = argsL.reverse ++ .ref a :: rest) (hd : decode c.code pc = .ok (.invokespecial index, 3))
    (k : ∀ v T' locs', Stand p l e R s m args below meth c T' locs' (cells + rm.cells) (slots + rm.slots) → Fr n0 locs' → Q' v T'.heap → Goes p e below FE n0 Q (T'.setTop (mkF m (pc + 3) Ls (v.toList ++ rest)))) : Goes p e below FE n0 Q (T.setTop (mkF m pc Ls st)) := by
  subst hst
  obtain ⟨v, _, ⟨T', L', k', n'⟩, -, X', ⟨Lc, hQ, l1, l2, l3⟩, st'⟩ := X.specialBack hx (y := y) hy1 hown (mvT hZ w1) (mvT hZ w2) (mvT hZ w4) hy (backOf (W := W) (Q := fun v h L => Fr n0 L ∧ Q' v h) M hZ w4 w3 hf hl) (g := mkF m pc Ls (argsL.reverse ++ .ref a :: rest)) rfl hsize (Steps.refl _) (a := a) (argsL := argsL) (rest := rest) hlen rfl (by show 2 * 0 + _ ≤ _; omega) hd (fun _ _ => ⟨rfl, eT, hc, hs⟩)
  dsimp only [Pt.U, Pt.locs, Pt.cells, Pt.slots] at X' l1 l2 l3 st' hQ
  subst l1 l2 l3
  exact Goes.via (fun _ k => st'.trans k) (k v T' _ X' (Fr.app N hQ.1) hQ.2)
theorem own_specialNest (X : Stand p l e R s m args below meth c T locs cells slots) (hx : p.tables.exec = Jvm.exec) (hZ : Z.Warmed39 s.vm) {own : String} {index : Nat} (hown : s.vm.findClass own = some m.cls) {y : MethodName} {bytes : ByteArray} {maxL : Nat} {rm : Room} {W : Nat} {Q' : Option Value → Heap → Prop} {host : String} (hy1 : y.name = "<init>") (w1 : (Jvm.Cond.methodLinkNest own index y host).before a0 Z = true) (w2 : (Jvm.Cond.instanceMethod y).before a0 Z = true) (w3 : (Jvm.Cond.initialized y.cls).before a0 Z = true) (w4 : (Jvm.Cond.code y bytes maxL none).before a0 Z = true) {a : Addr} (hy : y.cls ≠ "java/lang/invoke/MethodHandle" ∧ y.cls ≠ "java/lang/invoke/VarHandle") (hf : rm.frames + 1 ≤ R.frames) (hl : W + (maxL + 11) + rm.locals ≤ R.locals) (N : Fr n0 locs) (eT : T.heap = h) (hsize : Ls.size = c.maxLocals) {argsL rest : List Value} (hlen : ∀ sig, parseMethodDescriptor y.desc = some sig → argsL.length = sig.parameters.length) (hW : (rest.map fun v => v.category).sum ≤ W) (hc : cells + rm.cells ≤ R.cells) (hs : slots + rm.slots ≤ R.slots) (M : Meets l y bytes maxL none [] rm rm.cells rm.slots Z (.ref a :: argsL).toArray h n0 Q') (hst : st = argsL.reverse ++ .ref a :: rest) (hd : decode c.code pc = .ok (.invokespecial index, 3))
    (k : ∀ v T' locs', Stand p l e R s m args below meth c T' locs' (cells + rm.cells) (slots + rm.slots) → Fr n0 locs' → Q' v T'.heap → Goes p e below FE n0 Q (T'.setTop (mkF m (pc + 3) Ls (v.toList ++ rest)))) : Goes p e below FE n0 Q (T.setTop (mkF m pc Ls st)) := by
  subst hst
  obtain ⟨v, _, ⟨T', L', k', n'⟩, -, X', ⟨Lc, hQ, l1, l2, l3⟩, st'⟩ := X.specialBackNest hx (y := y) hy1 hown (Cond.methodLinkNest_wide hZ w1 :) (mvT hZ w2) (mvT hZ w4) hy (backOf (W := W) (Q := fun v h L => Fr n0 L ∧ Q' v h) M hZ w4 w3 hf hl) (g := mkF m pc Ls (argsL.reverse ++ .ref a :: rest)) rfl hsize (Steps.refl _) (a := a) (argsL := argsL) (rest := rest) hlen rfl (by show 2 * 0 + _ ≤ _; omega) hd (fun _ _ => ⟨rfl, eT, hc, hs⟩)
  dsimp only [Pt.U, Pt.locs, Pt.cells, Pt.slots] at X' l1 l2 l3 st' hQ
  subst l1 l2 l3
  exact Goes.via (fun _ k => st'.trans k) (k v T' _ X' (Fr.app N hQ.1) hQ.2)
theorem own_virtual (X : Stand p l e R s m args below meth c T locs cells slots) (hx : p.tables.exec = Jvm.exec) (hZ : Z.Warmed39 s.vm) {own : String} {index : Nat} (hown : s.vm.findClass own = some m.cls) {y : MethodName} {bytes : ByteArray} {maxL : Nat} {ret : Option FieldType} {rm : Room} {W : Nat} {Q' : Option Value → Heap → Prop} {z : MethodName} {C : String} (w1 : (Jvm.Cond.methodLink own index y).before a0 Z = true) (w2 : (Jvm.Cond.declares y).before a0 Z = true) (hnf : NotFace s y) (w5 : (Jvm.Cond.selects C y z).before a0 Z = true) (w6 : (Jvm.Cond.instanceMethod z).before a0 Z = true) (w3 : (Jvm.Cond.initialized z.cls).before a0 Z = true) (w4 : (Jvm.Cond.code z bytes maxL ret).before a0 Z = true) {a : Addr} (E : Exa Z h a C) (hy : y.cls ≠ "java/lang/invoke/MethodHandle" ∧ y.cls ≠ "java/lang/invoke/VarHandle") (hf : rm.frames + 1 ≤ R.frames) (hl : W + (maxL + 11) + rm.locals ≤ R.locals) (N : Fr n0 locs) (eT : T.heap = h) (hsize : Ls.size = c.maxLocals) {argsL rest : List Value} (hlen : ∀ sig, parseMethodDescriptor y.desc = some sig → argsL.length = sig.parameters.length) (hW : (rest.map fun v => v.category).sum ≤ W) (hc : cells + rm.cells ≤ R.cells) (hs : slots + rm.slots ≤ R.slots) (M : Meets l z bytes maxL ret [] rm rm.cells rm.slots Z (.ref a :: argsL).toArray h n0 Q') (hst : st = argsL.reverse ++ .ref a :: rest) (hd : decode c.code pc = .ok (.invokevirtual index, 3))
    (k : ∀ v T' locs', Stand p l e R s m args below meth c T' locs' (cells + rm.cells) (slots + rm.slots) → Fr n0 locs' → Q' v T'.heap → Goes p e below FE n0 Q (T'.setTop (mkF m (pc + 3) Ls (v.toList ++ rest)))) : Goes p e below FE n0 Q (T.setTop (mkF m pc Ls st)) := by
  subst hst
  obtain ⟨cq, kq, qa, qb, qc⟩ := isOf hZ eT E
  obtain ⟨v, _, ⟨T', L', k', n'⟩, -, X', ⟨Lc, hQ, l1, l2, l3⟩, st'⟩ := X.virtualBack hx (y := y) (z := z) hown (mvT hZ w1) (mvT hZ w2) hnf (mvT hZ w5) (mvT hZ w6) hy (backOf (W := W) (Q := fun v h L => Fr n0 L ∧ Q' v h) M hZ w4 w3 hf hl) qa qc (g := mkF m pc Ls (argsL.reverse ++ .ref a :: rest)) rfl hsize (Steps.refl _) (argsL := argsL) (rest := rest) hlen rfl (by show 2 * 0 + _ ≤ _; omega) hd (fun _ _ => ⟨rfl, eT, hc, hs⟩)
  dsimp only [Pt.U, Pt.locs, Pt.cells, Pt.slots] at X' l1 l2 l3 st' hQ
  subst l1 l2 l3
  exact Goes.via (fun _ k => st'.trans k) (k v T' _ X' (Fr.app N hQ.1) hQ.2)
theorem own_private (X : Stand p l e R s m args below meth c T locs cells slots) (hx : p.tables.exec = Jvm.exec) (hZ : Z.Warmed39 s.vm) {own : String} {index : Nat} (hown : s.vm.findClass own = some m.cls) {y : MethodName} {bytes : ByteArray} {maxL : Nat} {ret : Option FieldType} {rm : Room} {W : Nat} {Q' : Option Value → Heap → Prop} (w1 : (Jvm.Cond.methodLink own index y).before a0 Z = true) (w2 : (Jvm.Cond.instanceMethod y).before a0 Z = true) {nn : Nat} (w5 : (Jvm.Cond.instantiable y.cls nn).before a0 Z = true) (w6 : (Jvm.Cond.privateMethod y).before a0 Z = true) (w3 : (Jvm.Cond.initialized y.cls).before a0 Z = true) (w4 : (Jvm.Cond.code y bytes maxL ret).before a0 Z = true) {a : Addr} {C : String} (E : Exa Z h a C) (hy : y.cls ≠ "java/lang/invoke/MethodHandle" ∧ y.cls ≠ "java/lang/invoke/VarHandle") (hf : rm.frames + 1 ≤ R.frames) (hl : W + (maxL + 11) + rm.locals ≤ R.locals) (N : Fr n0 locs) (eT : T.heap = h) (hsize : Ls.size = c.maxLocals) {argsL rest : List Value} (hlen : ∀ sig, parseMethodDescriptor y.desc = some sig → argsL.length = sig.parameters.length) (hW : (rest.map fun v => v.category).sum ≤ W) (hc : cells + rm.cells ≤ R.cells) (hs : slots + rm.slots ≤ R.slots) (M : Meets l y bytes maxL ret [] rm rm.cells rm.slots Z (.ref a :: argsL).toArray h n0 Q') (hst : st = argsL.reverse ++ .ref a :: rest) (hd : decode c.code pc = .ok (.invokevirtual index, 3))
    (k : ∀ v T' locs', Stand p l e R s m args below meth c T' locs' (cells + rm.cells) (slots + rm.slots) → Fr n0 locs' → Q' v T'.heap → Goes p e below FE n0 Q (T'.setTop (mkF m (pc + 3) Ls (v.toList ++ rest)))) : Goes p e below FE n0 Q (T.setTop (mkF m pc Ls st)) := by
  subst hst
  obtain ⟨cq, qa, qb⟩ := E.cell
  obtain ⟨v, _, ⟨T', L', k', n'⟩, -, X', ⟨Lc, hQ, l1, l2, l3⟩, st'⟩ := X.privateBack hx (y := y) hown (mvT hZ w1) (mvT hZ w2) (mvT hZ (own_selfsel w5 w2 w6 hy)) (Cond.privateMethod_at (mvP hZ w6 (args := #[]))) (mvT hZ w4) hy (backOf (W := W) (Q := fun v h L => Fr n0 L ∧ Q' v h) M hZ w4 w3 hf hl) (g := mkF m pc Ls (argsL.reverse ++ .ref a :: rest)) rfl hsize (Steps.refl _) (a := a) (by rw [eT]; exact qa) qb (argsL := argsL) (rest := rest) hlen rfl (by show 2 * 0 + _ ≤ _; omega) hd (fun _ _ => ⟨rfl, eT, hc, hs⟩)
  dsimp only [Pt.U, Pt.locs, Pt.cells, Pt.slots] at X' l1 l2 l3 st' hQ
  subst l1 l2 l3
  exact Goes.via (fun _ k => st'.trans k) (k v T' _ X' (Fr.app N hQ.1) hQ.2)
theorem own_virtualUp (X : Stand p l e R s m args below meth c T locs cells slots) (hx : p.tables.exec = Jvm.exec) (hZ : Z.Warmed39 s.vm) {own : String} {index : Nat} (hown : s.vm.findClass own = some m.cls) {y : MethodName} {bytes : ByteArray} {maxL : Nat} {ret : Option FieldType} {rm : Room} {W : Nat} {Q' : Option Value → Heap → Prop} {z : MethodName} {C owner : String} (w1 : (Jvm.Cond.methodLink own index y).before a0 Z = true) (w2 : (Jvm.Cond.sameMethod y.cls owner y.name y.desc).before a0 Z = true) (w7 : (Jvm.Cond.declares ⟨owner, y.name, y.desc⟩).before a0 Z = true) (w5 : (Jvm.Cond.selects C y z).before a0 Z = true) (w6 : (Jvm.Cond.instanceMethod z).before a0 Z = true) (w3 : (Jvm.Cond.initialized z.cls).before a0 Z = true) (w4 : (Jvm.Cond.code z bytes maxL ret).before a0 Z = true) {a : Addr} (E : Exa Z h a C) (hy : owner ≠ "java/lang/invoke/MethodHandle" ∧ owner ≠ "java/lang/invoke/VarHandle") (hf : rm.frames + 1 ≤ R.frames) (hl : W + (maxL + 11) + rm.locals ≤ R.locals) (N : Fr n0 locs) (eT : T.heap = h) (hsize : Ls.size = c.maxLocals) {argsL rest : List Value} (hlen : ∀ sig, parseMethodDescriptor y.desc = some sig → argsL.length = sig.parameters.length) (hW : (rest.map fun v => v.category).sum ≤ W) (hc : cells + rm.cells ≤ R.cells) (hs : slots + rm.slots ≤ R.slots) (M : Meets l z bytes maxL ret [] rm rm.cells rm.slots Z (.ref a :: argsL).toArray h n0 Q') (hst : st = argsL.reverse ++ .ref a :: rest) (hd : decode c.code pc = .ok (.invokevirtual index, 3))
    (k : ∀ v T' locs', Stand p l e R s m args below meth c T' locs' (cells + rm.cells) (slots + rm.slots) → Fr n0 locs' → Q' v T'.heap → Goes p e below FE n0 Q (T'.setTop (mkF m (pc + 3) Ls (v.toList ++ rest)))) : Goes p e below FE n0 Q (T.setTop (mkF m pc Ls st)) := by
  subst hst
  obtain ⟨cq, kq, qa, qb, qc⟩ := isOf hZ eT E
  obtain ⟨v, _, ⟨T', L', k', n'⟩, -, X', ⟨Lc, hQ, l1, l2, l3⟩, st'⟩ := X.virtualBackUp hx (x := y) (y := z) hown (mvT hZ w1) (mvT hZ w2) (mvT hZ w7 (by simp [Cond.onTables, Cond.keepsFace, Cond.keeps, Cond.steady, Cond.faceAtom, hy.1, hy.2])) hy (mvT hZ w5) (mvT hZ w6) (backOf (W := W) (Q := fun v h L => Fr n0 L ∧ Q' v h) M hZ w4 w3 hf hl) qa qc (g := mkF m pc Ls (argsL.reverse ++ .ref a :: rest)) rfl hsize (Steps.refl _) (argsL := argsL) (rest := rest) hlen rfl (by show 2 * 0 + _ ≤ _; omega) hd (fun _ _ => ⟨rfl, eT, hc, hs⟩)
  dsimp only [Pt.U, Pt.locs, Pt.cells, Pt.slots] at X' l1 l2 l3 st' hQ
  subst l1 l2 l3
  exact Goes.via (fun _ k => st'.trans k) (k v T' _ X' (Fr.app N hQ.1) hQ.2)
theorem own_iface (X : Stand p l e R s m args below meth c T locs cells slots) (hx : p.tables.exec = Jvm.exec) (hZ : Z.Warmed39 s.vm) {own : String} {index : Nat} (hown : s.vm.findClass own = some m.cls) {y : MethodName} {bytes : ByteArray} {maxL : Nat} {ret : Option FieldType} {rm : Room} {W : Nat} {Q' : Option Value → Heap → Prop} {z : MethodName} {C : String} {count : Nat} (w1 : (Jvm.Cond.methodLink own index y).before a0 Z = true) (w2 : (Jvm.Cond.declares y).before a0 Z = true) (w7 : (Jvm.Cond.interfaceMethod y.cls y.cls y.name y.desc).before a0 Z = true) (w5 : (Jvm.Cond.selects C y z).before a0 Z = true) (w6 : (Jvm.Cond.instanceMethod z).before a0 Z = true) (w8 : (Jvm.Cond.publicMethod z).before a0 Z = true) (w9 : (Jvm.Cond.unhidden C y.name y.desc).before a0 Z = true) (wc : (Jvm.Cond.castable C y.cls).before a0 Z = true) (w3 : (Jvm.Cond.initialized z.cls).before a0 Z = true) (w4 : (Jvm.Cond.code z bytes maxL ret).before a0 Z = true) {a : Addr} (E : Exa Z h a C) (hy : y.cls ≠ "java/lang/invoke/MethodHandle" ∧ y.cls ≠ "java/lang/invoke/VarHandle") (hf : rm.frames + 1 ≤ R.frames) (hl : W + (maxL + 11) + rm.locals ≤ R.locals) (N : Fr n0 locs) (eT : T.heap = h) (hsize : Ls.size = c.maxLocals) {argsL rest : List Value} (hlen : ∀ sig, parseMethodDescriptor y.desc = some sig → argsL.length = sig.parameters.length) (hW : (rest.map fun v => v.category).sum ≤ W) (hc : cells + rm.cells ≤ R.cells) (hs : slots + rm.slots ≤ R.slots) (M : Meets l z bytes maxL ret [] rm rm.cells rm.slots Z (.ref a :: argsL).toArray h n0 Q') (hst : st = argsL.reverse ++ .ref a :: rest) (hd : decode c.code pc = .ok (.invokeinterface index count, 5))
    (k : ∀ v T' locs', Stand p l e R s m args below meth c T' locs' (cells + rm.cells) (slots + rm.slots) → Fr n0 locs' → Q' v T'.heap → Goes p e below FE n0 Q (T'.setTop (mkF m (pc + 5) Ls (v.toList ++ rest)))) : Goes p e below FE n0 Q (T.setTop (mkF m pc Ls st)) := by
  subst hst
  obtain ⟨cq, kq, qa, qb, qc⟩ := isOf hZ eT E
  obtain ⟨v, _, ⟨T', L', k', n'⟩, -, X', ⟨Lc, hQ, l1, l2, l3⟩, st'⟩ := X.interfaceBack hx (xi := y) (y := z) hown (mvT hZ w1) (mvT hZ w2) (mvT hZ w7 (by simp [Cond.onTables, Cond.keepsFace, Cond.keeps, Cond.steady, Cond.faceAtom, hy.1, hy.2])) (mvT hZ w5) (mvT hZ w6) (mvT hZ w8) (mvT hZ w9) (mvT hZ wc) hy (backOf (W := W) (Q := fun v h L => Fr n0 L ∧ Q' v h) M hZ w4 w3 hf hl) qa qb qc (g := mkF m pc Ls (argsL.reverse ++ .ref a :: rest)) rfl hsize (Steps.refl _) (argsL := argsL) (rest := rest) hlen rfl (by show 2 * 0 + _ ≤ _; omega) hd (fun _ _ => ⟨rfl, eT, hc, hs⟩)
  dsimp only [Pt.U, Pt.locs, Pt.cells, Pt.slots] at X' l1 l2 l3 st' hQ
  subst l1 l2 l3
  exact Goes.via (fun _ k => st'.trans k) (k v T' _ X' (Fr.app N hQ.1) hQ.2)
theorem own_gcls (X : Stand p l e R s m args below meth c T locs cells slots) (hx : p.tables.exec = Jvm.exec) (hZ : Z.Warmed39 s.vm) {own : String} {index : Nat} (hown : s.vm.findClass own = some m.cls) {C : String} (w1 : (Jvm.Cond.methodLink own index ⟨"java/lang/Object", "getClass", "()Ljava/lang/Class;"⟩).before a0 Z = true) (w2 : (Jvm.Cond.declares ⟨"java/lang/Object", "getClass", "()Ljava/lang/Class;"⟩).before a0 Z = true) (w3 : (Jvm.Cond.noSuperclass "java/lang/Object").before a0 Z = true) (w4 : (Jvm.Cond.selects C ⟨"java/lang/Object", "getClass", "()Ljava/lang/Class;"⟩ ⟨"java/lang/Object", "getClass", "()Ljava/lang/Class;"⟩).before a0 Z = true) (w5 : (Jvm.Cond.instanceMethod ⟨"java/lang/Object", "getClass", "()Ljava/lang/Class;"⟩).before a0 Z = true) (w6 : (Jvm.Cond.native ⟨"java/lang/Object", "getClass", "()Ljava/lang/Class;"⟩).before a0 Z = true) (eT : T.heap = h) {a mr : Addr} (E : Exa Z h a C) (M : ∃ (c : ClassId) (k : Class), Z.vm.findClass C = some c ∧ Z.vm.classes[c]? = some k ∧ k.mirror = some mr) (hsize : Ls.size = c.maxLocals) (hd : decode c.code pc = .ok (.invokevirtual index, 3)) (hf : 1 ≤ R.frames) {W : Nat} (hW : (st.map fun v => v.category).sum ≤ W) (hl : W + 14 ≤ R.locals)
    (k : ∀ T', Stand p l e R s m args below meth c T' locs cells slots → T'.heap = h → Goes p e below FE n0 Q (T'.setTop (mkF m (pc + 3) Ls (.ref mr :: st)))) : Goes p e below FE n0 Q (T.setTop (mkF m pc Ls (.ref a :: st))) := by
  obtain ⟨cB, kB, i1, i2, i3⟩ := isOf hZ eT E
  obtain ⟨cc, kc, m1, m2, m3⟩ := M
  rw [hZ.alike.findClass] at i1
  cases i1.symm.trans m1
  obtain ⟨k', q, ek⟩ := hZ.alike.2.2 _ _ m2
  obtain ⟨vm', X', st'⟩ := X.getClassOf hx hown (mvT hZ w1) (mvT hZ w2) (nf_top (args := #[]) (mvT hZ w3)) (mvT hZ w4) (mvT hZ w5) (mvT hZ w6) (by rw [hZ.alike.findClass]; exact m1) i3 q (by rw [ek]; exact m3) (g := mkF m pc Ls (.ref a :: st)) rfl hsize rfl hd hf (by show 2 * 0 + _ + (1 + 2 + 11) ≤ _; omega)
  exact Goes.via st' (k _ X' eT)
theorem own_ldcMir (X : Stand p l e R s m args below meth c T locs cells slots) (hx : p.tables.exec = Jvm.exec) (hZ : Z.Warmed39 s.vm) {own : String} {index : Nat} (hown : s.vm.findClass own = some m.cls) {C : String} (w : (Jvm.Cond.classLink own index C).before a0 Z = true) (eT : T.heap = h) {mr : Addr} (M : ∃ (c : ClassId) (k : Class), Z.vm.findClass C = some c ∧ Z.vm.classes[c]? = some k ∧ k.mirror = some mr) (hd : decode c.code pc = .ok (.ldc index, 2))
    (k : ∀ T', Stand p l e R s m args below meth c T' locs cells slots → T'.heap = h → Goes p e below FE n0 Q (T'.setTop (mkF m (pc + 2) Ls (.ref mr :: st)))) : Goes p e below FE n0 Q (T.setTop (mkF m pc Ls st)) := by
  obtain ⟨cc, kc, m1, m2, m3⟩ := M
  obtain ⟨k', q, ek⟩ := hZ.alike.2.2 _ _ m2
  have hf' : s.vm.findClass C = some cc := by rw [hZ.alike.findClass]; exact m1
  obtain ⟨vm', X', st'⟩ := X.ldcMirror hx hown (mv hZ w) (a := mr) (by
    have hm : k'.mirror = some mr := by first | (rw [ek]; exact m3) | (rw [← ek]; exact m3) | (have := congrArg Class.mirror ek; simp at this; rw [← this]; exact m3) | (have := congrArg Class.mirror ek; simp at this; rw [this]; exact m3)
    show ((s.vm.findClass C).bind fun c => (s.vm.classes[c]?).bind fun k => k.mirror.bind fun a => some (Value.ref a)) = some (.ref mr)
    rw [hf']
    show ((s.vm.classes[cc]?).bind fun k => k.mirror.bind fun a => some (Value.ref a)) = some (.ref mr)
    rw [q]
    show (k'.mirror.bind fun a => some (Value.ref a)) = some (.ref mr)
    rw [hm]
    rfl) (g := mkF m pc Ls st) rfl hd
  exact Goes.via st' (k _ X' eT)
theorem own_cpA (X : Stand p l e R s m args below meth c T locs cells slots) (hx : p.tables.exec = Jvm.exec) (hZ : Z.Warmed39 s.vm) {own : String} {index : Nat} (hown : s.vm.findClass own = some m.cls) (w1 : (Jvm.Cond.methodLink own index Jvm.Stand.acN).before a0 Z = true) (w2 : (Jvm.Cond.native Jvm.Stand.acN).before a0 Z = true) (w3 : (Jvm.Cond.static Jvm.Stand.acN).before a0 Z = true) (w4 : (Jvm.Cond.initialized "java/lang/System").before a0 Z = true) (eT : T.heap = h) {a b : Addr} {k k' : ClassId} {ty ty' : FieldType} {z z' sp dp nn : Int32} {vs vd us vr : List Value} {dv dd : Value} (A : Arv Z h a k ty z vs dv) (B : Arv Z h b k' ty' z' vd dd) (hty : (ty = ty' ∧ refKind ty = false) ∨ (refKind ty = true ∧ refKind ty' = true ∧ StoL Z h b us)) (h1 : ¬ sp < 0) (h2 : ¬ dp < 0) (h3 : ¬ nn < 0) (h4 : sp.toNatClampNeg + nn.toNatClampNeg ≤ z.toNatClampNeg) (h5 : dp.toNatClampNeg + nn.toNatClampNeg ≤ z'.toNatClampNeg) (hus : us = (List.range nn.toNatClampNeg).map fun i => vs.getD (sp.toNatClampNeg + i) dv) (hl : dp.toNatClampNeg + nn.toNatClampNeg ≤ vd.length) (hvr : vd.take dp.toNatClampNeg ++ us ++ vd.drop (dp.toNatClampNeg + nn.toNatClampNeg) = vr) (N : Fr n0 locs) (ge : n0 ≤ b) (hsize : Ls.size = c.maxLocals) (hd : decode c.code pc = .ok (.invokestatic index, 3)) (hf : 1 ≤ R.frames) {W : Nat} (hW : (st.map fun v => v.category).sum ≤ W) (hlo : W + 18 ≤ R.locals)
    (k : ∀ T' h' locs', Stand p l e R s m args below meth c T' locs' cells slots → T'.heap = h' → Fr n0 locs' → Keep h h' [b] → Arv Z h' b k' ty' z' vr dd → Goes p e below FE n0 Q (T'.setTop (mkF m (pc + 3) Ls st))) : Goes p e below FE n0 Q (T.setTop (mkF m pc Ls (.int nn :: .int dp :: .ref b :: .int sp :: .ref a :: st))) := by
  subst hvr
  obtain ⟨T', h', L, X', e', N', K', V', st'⟩ := cpA X hx hZ hown w1 w2 w3 w4 eT A B hty h1 h2 h3 h4 h5 hus hl N ge (g := mkF m pc Ls (.int nn :: .int dp :: .ref b :: .int sp :: .ref a :: st)) rfl hsize rfl hd hf (W := W) (by show 2 * 0 + _ ≤ _; omega) hlo
  exact Goes.via st' (k T' h' L X' e' N' K' V')
theorem own_retN (X : Stand p l e R s m args below meth c T locs cells slots) (hx : p.tables.exec = Jvm.exec) {t : FieldType} {z : Int32} (N : Fr n0 locs) (hlk : meth.locks = false) (hc : cells ≤ kc) (hs : slots ≤ ks) (hret : meth.sig.returnType = some t) (ht : t = .boolean ∨ t = .byte ∨ t = .char ∨ t = .short) (hd : decode c.code pc = .ok (.ireturn, 1)) (hq : Q (some (.int (nar t z))) T.heap) : Goes p e below (fun o t L => FrameEnd s o t L kc ks) n0 Q (T.setTop (mkF m pc Ls (.int z :: st))) :=
  Goes.ret X N hlk (fun h => by rw [hret] at h; cases h) hc hs hq (fun fs hr => retN X hx hret ht hd hr)
theorem own_retI (X : Stand p l e R s m args below meth c T locs cells slots) (hx : p.tables.exec = Jvm.exec) {z : Int32} (N : Fr n0 locs) (hlk : meth.locks = false) (hc : cells ≤ kc) (hs : slots ≤ ks) (hret : meth.sig.returnType = some .int) (hd : decode c.code pc = .ok (.ireturn, 1)) (hq : Q (some (.int z)) T.heap) : Goes p e below (fun o t L => FrameEnd s o t L kc ks) n0 Q (T.setTop (mkF m pc Ls (.int z :: st))) :=
  Goes.ret X N hlk (fun h => by rw [hret] at h; cases h) hc hs hq (fun fs hr => retOut X hx hret rfl (Or.inl ⟨rfl, Or.inl rfl, _, rfl⟩) hd hr)
theorem own_retJ (X : Stand p l e R s m args below meth c T locs cells slots) (hx : p.tables.exec = Jvm.exec) {z : Int64} (N : Fr n0 locs) (hlk : meth.locks = false) (hc : cells ≤ kc) (hs : slots ≤ ks) (hret : meth.sig.returnType = some .long) (hd : decode c.code pc = .ok (.lreturn, 1)) (hq : Q (some (.long z)) T.heap) : Goes p e below (fun o t L => FrameEnd s o t L kc ks) n0 Q (T.setTop (mkF m pc Ls (.long z :: st))) :=
  Goes.ret X N hlk (fun h => by rw [hret] at h; cases h) hc hs hq (fun fs hr => retOut X hx hret rfl (Or.inr (Or.inl ⟨rfl, rfl, _, rfl⟩)) hd hr)
theorem own_retR (X : Stand p l e R s m args below meth c T locs cells slots) (hx : p.tables.exec = Jvm.exec) {v : Value} {t : FieldType} (N : Fr n0 locs) (hlk : meth.locks = false) (hc : cells ≤ kc) (hs : slots ≤ ks) (hret : meth.sig.returnType = some t) (ht : t.isReference = true) (hv : v.isRef = true) (hn : narrow t v = v) (hd : decode c.code pc = .ok (.areturn, 1)) (hq : Q (some v) T.heap) : Goes p e below (fun o t L => FrameEnd s o t L kc ks) n0 Q (T.setTop (mkF m pc Ls (v :: st))) :=
  Goes.ret X N hlk (fun h => by rw [hret] at h; cases h) hc hs hq (fun fs hr => retOut X hx hret hn (Or.inr (Or.inr (Or.inr (Or.inr ⟨rfl, ht, hv⟩)))) hd hr)
theorem own_retV (X : Stand p l e R s m args below meth c T locs cells slots) (hx : p.tables.exec = Jvm.exec) (N : Fr n0 locs) (hlk : meth.locks = false) (hc : cells ≤ kc) (hs : slots ≤ ks) (hret : meth.sig.returnType = none) (hd : decode c.code pc = .ok (.return_, 1)) (hq : Q none T.heap) : Goes p e below (fun o t L => FrameEnd s o t L kc ks) n0 Q (T.setTop (mkF m pc Ls [])) :=
  Goes.ret X N hlk (fun _ => rfl) hc hs hq (fun fs hr => X.returnOut hx hret hd hr)
theorem own_bz {P : Prop} [Decidable P] (h : ¬ P) : (if P then (1 : Int32) else (0 : Int32)) = (0 : Int32) := if_neg h
theorem own_bnz {P : Prop} [Decidable P] (h : ¬ ¬ P) : ¬ ((if P then (1 : Int32) else (0 : Int32)) = (0 : Int32)) := by rw [if_pos (Classical.not_not.mp h)]; decide
theorem own_nb (P : Prop) [Decidable P] : narrow .boolean (.int (if P then (1 : Int32) else (0 : Int32))) = (.int (if P then (1 : Int32) else (0 : Int32))) ∧ fits .boolean (.int (if P then (1 : Int32) else (0 : Int32))) = true := by
  by_cases h : P
  · rw [if_pos h]; exact ⟨rfl, rfl⟩
  · rw [if_neg h]; exact ⟨rfl, rfl⟩
theorem own_narb (P : Prop) [Decidable P] : nar .boolean (if P then (1 : Int32) else (0 : Int32)) = (if P then (1 : Int32) else (0 : Int32)) := by
  by_cases h : P
  · rw [if_pos h]; rfl
  · rw [if_neg h]; rfl
theorem own_eq {args : Array Value} {s s' : State} {o : Option Outcome} {idx : List Nat} {a b : Term} {v : Value} (h : (Jvm.Cond.eq a b).value args s o s' idx = some true) (hb : b.eval args s o idx s' = some v) : a.eval args s o idx s' = some v := by
  simp only [Cond.value, hb] at h
  cases ha : a.eval args s o idx s' with
  | none => simp [ha] at h
  | some w => rw [ha] at h; cases w <;> cases v <;> simp_all
theorem own_len {args : Array Value} {t : Term} {a : Addr} {cl : Cell} {ty : FieldType} {z : Int32} (ev : t.eval args Z none [] Z = some (.ref a)) (A : Arr Z Z.heap a cl ty) (hl : (Term.length t).eval args Z none [] Z = some (.int z)) : cl.slots.size < 2 ^ 31 ∧ cl.slots.size.toInt32 = z := by
  have ha : Z.arrayAt? a = some cl := A.fin (Vm.Alike.refl _)
  by_cases q : cl.slots.size < 2 ^ 31
  · have h2 := (len_f ev ha q).symm.trans hl
    exact ⟨q, by cases h2; rfl⟩
  · simp [Term.eval, ev, ha, q] at hl
theorem own_arr {args : Array Value} {t : Term} {a : Addr} {cl : Cell} {ty : FieldType} {z : Int32} {vs : List Value} {dv : Value} (hf : Fit Z) (ev : t.eval args Z none [] Z = some (.ref a)) (A : Arr Z Z.heap a cl ty) (hl : (Term.length t).eval args Z none [] Z = some (.int z)) (hz : ¬ z < 0) (hn : z.toNatClampNeg = vs.length) (H : HasL cl 0 vs) : Arv Z Z.heap a cl.cls ty z vs dv :=
  Arv.start hf A (own_len ev A hl).1 (own_len ev A hl).2 hz hn H
theorem own_fold {f : Nat → Option Bool} : ∀ (L : List Nat) (acc : Option Bool), L.foldl (fun acc i => match acc with | some true => f i | x => x) acc = some true → acc = some true ∧ ∀ i ∈ L, f i = some true
  | [], acc, h => ⟨h, fun _ q => nomatch q⟩
  | i :: L, acc, h => by
    obtain ⟨h1, h2⟩ := own_fold L _ h
    have h3 : acc = some true := by rcases acc with _ | (_ | _) <;> simp_all
    subst h3
    exact ⟨rfl, fun j hj => by rcases List.mem_cons.mp hj with rfl | q; exact h1; exact h2 j q⟩
theorem own_all {args : Array Value} {first s : State} {o : Option Outcome} {idx : List Nat} {t : Term} {c : Jvm.Cond} {a : Addr} {cell : Cell} (h : (Jvm.Cond.all t c).value args first o s idx = some true) (ev : t.eval args first o idx s = some (.ref a)) (ha : s.arrayAt? a = some cell) : ∀ i, i < cell.slots.size → c.value args first o s (i :: idx) = some true := by
  intro i hi
  simp only [Cond.value, ev, ha] at h
  exact (own_fold _ _ h).2 i (List.mem_range.mpr hi)
theorem own_exaI {args : Array Value} {t : Term} {C : String} {idx : List Nat} (h : (Jvm.Cond.exactly t C).value args Z none Z idx = some true) : ∃ b, t.eval args Z none idx Z = some (.ref b) ∧ Exa Z Z.heap b C := by
  obtain ⟨a, c, cell, k, e1, e2, e3, e4, e5, e6, e7⟩ := Cond.exactly_spec (beq_iff_eq.mpr h : (Jvm.Cond.exactly t C).holds args Z none Z idx = true)
  subst e6
  exact ⟨a, e1, cell, k, e3, e2, e4, e5, e7⟩
theorem own_NSroot {O K : String} {nn : Nat} (w : (Jvm.Cond.noSuperclass O).before a0 Z = true) (wi : (Jvm.Cond.instantiable K nn).before a0 Z = true) (hn : O ≠ K) : NS Z O K := by
  obtain ⟨c, k, h1, h2, h3, -, -⟩ := Cond.noSuperclass_spec w
  obtain ⟨t, kt, g1, -⟩ := Cond.instantiable_spec wi
  have ne := ids_ne h1 g1 hn
  refine ⟨c, t, h1, g1, fun fuel => ?_⟩
  cases fuel with
  | zero => rfl
  | succ f => simp [Vm.isSubclassAux, ne, h2, h3]
theorem own_NSno {C S K : String} {nn : Nat} (w : (Jvm.Cond.superclass C S).before a0 Z = true) (wi : (Jvm.Cond.instantiable K nn).before a0 Z = true) (n : NS Z C K) (hn : C ≠ K) : ∃ c t, Z.vm.findClass C = some c ∧ Z.vm.findClass K = some t ∧ Z.vm.assignable c t = false := by
  obtain ⟨c, t, h0, g0, n3⟩ := n
  obtain ⟨p, k, kp, h1, h2, h3, h4, h5, -, h7⟩ := Cond.superclass_spec h0 w
  obtain ⟨t', k', g1, g2, g5, g7, -⟩ := Cond.instantiable_spec wi
  cases g0.symm.trans g1
  rw [Bool.or_eq_false_iff] at g7
  have ne := ids_ne h0 g0 hn
  refine ⟨c, t, h0, g0, ?_⟩
  show Z.vm.assignableAux (255 + 1) c t = false
  simp [Vm.assignableAux, ne, h2, g2, h5, g5, g7.1, Vm.isSubclass, n3]
end OwnKit
def Start (Z : State) (w_EXPONENTIAL : Addr) (w_FIXED : Addr) : Prop :=
  Sta Z Z.heap "com/example/lease/lease/model/RetryBackoff" "EXPONENTIAL" "Lcom/example/lease/lease/model/RetryBackoff;" (.ref w_EXPONENTIAL) ∧
  Exa Z Z.heap w_EXPONENTIAL "com/example/lease/lease/model/RetryBackoff" ∧
  Sta Z Z.heap "com/example/lease/lease/model/RetryBackoff" "FIXED" "Lcom/example/lease/lease/model/RetryBackoff;" (.ref w_FIXED) ∧
  Exa Z Z.heap w_FIXED "com/example/lease/lease/model/RetryBackoff" ∧
  Fld Z Z.heap w_EXPONENTIAL "java/lang/Enum" "ordinal" "I" (.int (0 : Int32)) ∧
  Fld Z Z.heap w_FIXED "java/lang/Enum" "ordinal" "I" (.int (1 : Int32)) ∧
  True
def NI (S : Nat) (p i n : Int32) : Prop := ∃ s : Nat, s ≤ S ∧ n.toInt = 31 - (s : Int) ∧ i.toInt = p.toInt / ((2 ^ s : Nat) : Int) ∧ 0 < i.toInt
def NlzI (p m : Int32) : Prop := ∃ e : Nat, e ≤ 30 ∧ m.toInt = 31 - (e : Int) ∧ ((2 ^ e : Nat) : Int) ≤ p.toInt
def NlzL (x : Int64) (m : Int32) : Prop := ∃ e : Nat, e ≤ 62 ∧ m.toInt = 63 - (e : Int) ∧ ((2 ^ e : Nat) : Int) ≤ x.toInt
def Dbl (x : Int64) (k : Int32) : Prop := x = (0 : Int64) ∨ ∃ n : Nat, n ≤ 62 ∧ k.toInt = n ∧ 0 ≤ x.toInt ∧ x.toInt < ((2 ^ (63 - n) : Nat) : Int)
theorem own_i0 : (0 : Int32).toInt = 0 := by decide
theorem own_l0 : (0 : Int64).toInt = 0 := by decide
theorem own_NI0 {p : Int32} (h : (0 : Int32) < p) : NI 0 p p (31 : Int32) := by
  rw [Int32.lt_iff_toInt_lt, own_i0] at h
  exact ⟨0, by omega, by decide, by simp, h⟩
theorem own_up {S : Nat} {p i n q kc : Int32} (k : Nat) (hk : q.toBitVec.toNat % 32 = k) (h0 : 0 < k) (hkc : kc.toInt = -(k : Int)) (hS : S + k ≤ 31) (I : NI S p i n) (hge : ((2 ^ k : Nat) : Int) ≤ i.toInt) :
    NI (S + k) p ((i.toUInt32 >>> (q &&& 31).toUInt32).toInt32) (n + kc) := by
  obtain ⟨s, h1, h2, h3, h4⟩ := I
  have e := c_iushr i q k hk h0
  have r := rng32 i
  have em : i.toInt % 4294967296 = i.toInt := by omega
  rw [em] at e
  refine ⟨s + k, by omega, ?_, ?_, ?_⟩
  · have a := c_iadd n kc
    have b := rng32 (n + kc)
    omega
  · rw [e, h3, Int.ediv_ediv_of_nonneg (Int.natCast_nonneg _), ← Int.natCast_mul, ← Nat.pow_add]
  · rw [e]
    have hp : (0 : Int) < ((2 ^ k : Nat) : Int) := by exact_mod_cast Nat.two_pow_pos k
    have := (Int.le_ediv_iff_mul_le hp (a := 1) (b := i.toInt)).mpr (by omega)
    omega
theorem own_dn {S k : Nat} {p i n : Int32} (I : NI S p i n) : NI (S + k) p i n := by
  obtain ⟨s, h1, h⟩ := I
  exact ⟨s, by omega, h⟩
theorem own_sh {i q : Int32} (k : Nat) (hk : q.toBitVec.toNat % 32 = k) (h0 : 0 < k) (hp : 0 < i.toInt) : ((i.toUInt32 >>> (q &&& 31).toUInt32).toInt32).toInt = i.toInt / ((2 ^ k : Nat) : Int) := by
  have e := c_iushr i q k hk h0
  have r := rng32 i
  have em : i.toInt % 4294967296 = i.toInt := by omega
  rw [em] at e; exact e
theorem NI.pos {S : Nat} {p i n : Int32} (I : NI S p i n) : 0 < i.toInt := by obtain ⟨_, _, _, _, h⟩ := I; exact h
theorem own_fin {p i n : Int32} (I : NI 30 p i n) (hlt : i.toInt < 4) : NlzI p (n - ((i.toUInt32 >>> ((1 : Int32) &&& 31).toUInt32).toInt32)) := by
  have e := own_sh 1 (q := 1) (by decide) (by decide) I.pos
  obtain ⟨s, h1, h2, h3, h4⟩ := I
  have a := c_isub n ((i.toUInt32 >>> ((1 : Int32) &&& 31).toUInt32).toInt32)
  have b := rng32 (n - ((i.toUInt32 >>> ((1 : Int32) &&& 31).toUInt32).toInt32))
  have rp := rng32 p
  have hps : (0 : Int) < ((2 ^ s : Nat) : Int) := by exact_mod_cast Nat.two_pow_pos s
  have hle : i.toInt * ((2 ^ s : Nat) : Int) ≤ p.toInt := by rw [h3]; exact Int.ediv_mul_le _ (by omega)
  have e' : ((2 ^ 1 : Nat) : Int) = 2 := by decide
  rw [e'] at e
  by_cases q : i.toInt < 2
  · have i1 : i.toInt = 1 := by omega
    refine ⟨s, h1, by omega, ?_⟩
    rw [i1, Int.one_mul] at hle; exact hle
  · have hp2 : ((2 ^ (s + 1) : Nat) : Int) ≤ p.toInt := by
      have : ((2 ^ (s + 1) : Nat) : Int) = 2 * ((2 ^ s : Nat) : Int) := by rw [Nat.pow_succ, Nat.mul_comm]; exact Int.natCast_mul 2 _
      rw [this]
      refine Int.le_trans ?_ hle
      exact Int.mul_le_mul_of_nonneg_right (by omega) (by omega)
    have hs : s + 1 ≤ 30 := by
      rcases Nat.lt_or_ge (s + 1) 31 with h | h
      · omega
      · have := Nat.pow_le_pow_right (n := 2) (by decide) h
        have : ((2 ^ 31 : Nat) : Int) ≤ ((2 ^ (s + 1) : Nat) : Int) := by exact_mod_cast this
        have e31 : ((2 ^ 31 : Nat) : Int) = 2147483648 := by decide
        omega
    exact ⟨s + 1, hs, by omega, hp2⟩
theorem own_hi {x : Int64} (h : (0 : Int64) < x) : (((x.toUInt64 >>> ((32 : Int32) &&& 0x3f).toInt64.toUInt64).toInt64).toInt32).toInt = x.toInt / 4294967296 ∧ 0 < x.toInt := by
  have e := c_lushr x 32 32 (by decide) (by decide)
  rw [Int64.lt_iff_toInt_lt, own_l0] at h
  have r := rng64 x
  have a := c_l2i ((x.toUInt64 >>> ((32 : Int32) &&& 0x3f).toInt64.toUInt64).toInt64)
  have b := rng32 ((x.toUInt64 >>> ((32 : Int32) &&& 0x3f).toInt64.toUInt64).toInt64).toInt32
  have e32 : ((2 ^ 32 : Nat) : Int) = 4294967296 := by decide
  rw [e32] at e
  omega
theorem own_hineg {x : Int64} (h : (0 : Int64) < x) (hn : (((x.toUInt64 >>> ((32 : Int32) &&& 0x3f).toInt64.toUInt64).toInt64).toInt32) < (0 : Int32)) : False := by
  obtain ⟨e, hx⟩ := own_hi h
  rw [Int32.lt_iff_toInt_lt, own_i0] at hn
  omega
theorem own_hi2 {x : Int64} {m : Int32} (h : (0 : Int64) < x) (hm : NlzI (((x.toUInt64 >>> ((32 : Int32) &&& 0x3f).toInt64.toUInt64).toInt64).toInt32) m) : NlzL x m := by
  obtain ⟨e, hx⟩ := own_hi h
  obtain ⟨k, h1, h2, h3⟩ := hm
  rw [e] at h3
  refine ⟨k + 32, by omega, by omega, ?_⟩
  have : ((2 ^ (k + 32) : Nat) : Int) = ((2 ^ k : Nat) : Int) * 4294967296 := by rw [Nat.pow_add]; exact Int.natCast_mul _ _
  rw [this]
  omega
theorem own_lo0 {x : Int64} (h : (0 : Int64) < x) (hz : (((x.toUInt64 >>> ((32 : Int32) &&& 0x3f).toInt64.toUInt64).toInt64).toInt32) = (0 : Int32)) : x.toInt < 4294967296 ∧ 0 < x.toInt := by
  obtain ⟨e, hx⟩ := own_hi h
  rw [hz, own_i0] at e
  omega
theorem own_lonz {x : Int64} (h : (0 : Int64) < x) (hz : (((x.toUInt64 >>> ((32 : Int32) &&& 0x3f).toInt64.toUInt64).toInt64).toInt32) = (0 : Int32)) : ¬ (x.toInt32 = (0 : Int32)) := fun q => by
  obtain ⟨h1, h2⟩ := own_lo0 h hz
  have a := c_l2i x
  rw [q, own_i0] at a
  omega
theorem own_xneg {x : Int64} (h : (0 : Int64) < x) (hz : (((x.toUInt64 >>> ((32 : Int32) &&& 0x3f).toInt64.toUInt64).toInt64).toInt32) = (0 : Int32)) (hn : x.toInt32 < (0 : Int32)) : NlzL x ((32 : Int32) + (0 : Int32)) := by
  obtain ⟨h1, h2⟩ := own_lo0 h hz
  have a := c_l2i x
  have b := rng32 x.toInt32
  rw [Int32.lt_iff_toInt_lt, own_i0] at hn
  refine ⟨31, by decide, by decide, ?_⟩
  have e31 : ((2 ^ 31 : Nat) : Int) = 2147483648 := by decide
  rw [e31]; omega
theorem own_xpos {x : Int64} {m : Int32} (h : (0 : Int64) < x) (hz : (((x.toUInt64 >>> ((32 : Int32) &&& 0x3f).toInt64.toUInt64).toInt64).toInt32) = (0 : Int32)) (hm : NlzI x.toInt32 m) : NlzL x ((32 : Int32) + m) := by
  obtain ⟨h1, h2⟩ := own_lo0 h hz
  obtain ⟨e, g1, g2, g3⟩ := hm
  have a := c_l2i x
  have b := rng32 x.toInt32
  have c := c_iadd 32 m
  have d := rng32 ((32 : Int32) + m)
  have e32 : (32 : Int32).toInt = 32 := by decide
  have hp : (0 : Int) < ((2 ^ e : Nat) : Int) := by exact_mod_cast Nat.two_pow_pos e
  exact ⟨e, by omega, by omega, by omega⟩
theorem own_dl {x : Int64} {k w : Int32} (D : Dbl x k) (h0 : ¬ (x = (0 : Int64))) (hw : NlzL x w) : k < w := by
  rcases D with D | ⟨n, h1, h2, h3, h4⟩
  · exact absurd D h0
  · obtain ⟨e, g1, g2, g3⟩ := hw
    rw [Int32.lt_iff_toInt_lt, h2, g2]
    by_cases q : e < 63 - n
    · omega
    · have := Nat.pow_le_pow_right (n := 2) (by decide) (Nat.le_of_not_lt q)
      have : ((2 ^ (63 - n) : Nat) : Int) ≤ ((2 ^ e : Nat) : Int) := by exact_mod_cast this
      omega
theorem own_dpos {x : Int64} {k : Int32} (D : Dbl x k) (h0 : ¬ (x = (0 : Int64))) : (0 : Int64) < x := by
  rcases D with D | ⟨n, h1, h2, h3, h4⟩
  · exact absurd D h0
  · rw [Int64.lt_iff_toInt_lt, own_l0]
    rcases Int.lt_or_eq_of_le h3 with q | q
    · exact q
    · exact absurd (Int64.toInt_inj.mp (q.symm.trans own_l0.symm)) h0
theorem own_nn (b : Int64) : ¬ ((b &&& (9223372036854775807 : Int64)) < (0 : Int64)) := by
  have e := c_maskL b 9223372036854775807 63 (by decide) (by decide)
  rw [Int64.lt_iff_toInt_lt, own_l0, e]
  have : ((2 ^ 63 : Nat) : Int) = 9223372036854775808 := by decide
  omega
/-- k = w - 1, where w is at least 1 -/
theorem own_k {w : Int32} (h : ¬ (w < (1 : Int32))) (hk : ¬ ((62 : Int32) < (w - (1 : Int32)))) : ∃ n : Nat, n ≤ 62 ∧ (w - (1 : Int32)).toInt = n := by
  rw [Int32.lt_iff_toInt_lt] at h hk
  have a := c_isub w 1
  have b := rng32 (w - 1)
  have r := rng32 w
  have e1 : (1 : Int32).toInt = 1 := by decide
  have e2 : (62 : Int32).toInt = 62 := by decide
  exact ⟨(w - (1 : Int32)).toInt.toNat, by omega, by omega⟩
theorem own_bits {k : Int32} {n : Nat} (h : k.toInt = n) (hn : n ≤ 62) : k.toBitVec.toNat % 64 = n := by
  have : k.toBitVec.toInt = n := h
  have h2 := BitVec.toInt_eq_toNat_cond k.toBitVec
  rw [this] at h2
  have := k.toBitVec.isLt
  split at h2 <;> omega
theorem own_msk {k : Int32} {n : Nat} (h : k.toInt = n) (hn : n ≤ 62) : ((((9223372036854775807 : Int64).toUInt64 >>> (k &&& 0x3f).toInt64.toUInt64).toInt64)).toBitVec.toNat = 2 ^ (63 - n) - 1 := by
  have hb := own_bits h hn
  rcases Nat.eq_zero_or_pos n with rfl | hp
  · have : k = (0 : Int32) := Int32.toInt_inj.mp (by rw [h]; decide)
    subst this; decide
  · have e := c_lushr 9223372036854775807 k n hb hp
    have m : (9223372036854775807 : Int64).toInt % 18446744073709551616 = 9223372036854775807 := by decide
    rw [m] at e
    have hd : (9223372036854775807 : Int) / ((2 ^ n : Nat) : Int) = ((2 ^ (63 - n) - 1 : Nat) : Int) := by
      have h1 : (9223372036854775807 / 2 ^ n : Nat) = 2 ^ (63 - n) - 1 := by
        have e63 : (9223372036854775807 : Nat) = 2 ^ n * (2 ^ (63 - n) - 1) + (2 ^ n - 1) := by
          have : 2 ^ n * 2 ^ (63 - n) = 2 ^ 63 := by rw [← Nat.pow_add]; congr 1; omega
          have hpp := Nat.two_pow_pos n
          have hq := Nat.two_pow_pos (63 - n)
          rw [Nat.mul_sub, this, Nat.mul_one]
          have : 2 ^ n ≤ 2 ^ 63 := Nat.pow_le_pow_right (by decide) (by omega)
          omega
        rw [e63, Nat.mul_add_div (Nat.two_pow_pos n), Nat.div_eq_of_lt (by have := Nat.two_pow_pos n; omega), Nat.add_zero]
      have h3 := congrArg (fun t : Nat => (t : Int)) h1
      rw [Int.natCast_ediv] at h3
      exact h3
    rw [hd] at e
    have h2 := BitVec.toInt_eq_toNat_cond (((9223372036854775807 : Int64).toUInt64 >>> (k &&& 0x3f).toInt64.toUInt64).toInt64).toBitVec
    have e' : (((9223372036854775807 : Int64).toUInt64 >>> (k &&& 0x3f).toInt64.toUInt64).toInt64).toBitVec.toInt = ((2 ^ (63 - n) - 1 : Nat) : Int) := e
    rw [e'] at h2
    have hl := (((9223372036854775807 : Int64).toUInt64 >>> (k &&& 0x3f).toInt64.toUInt64).toInt64).toBitVec.isLt
    generalize (((9223372036854775807 : Int64).toUInt64 >>> (k &&& 0x3f).toInt64.toUInt64).toInt64).toBitVec.toNat = t at *
    have : 2 ^ (63 - n) ≤ 2 ^ 63 := Nat.pow_le_pow_right (by decide) (by omega)
    split at h2 <;> omega
theorem own_base {w : Int32} (b : Int64) (h : ¬ (w < (1 : Int32))) (hk : ¬ ((62 : Int32) < (w - (1 : Int32)))) :
    ¬ ((b &&& (((9223372036854775807 : Int64).toUInt64 >>> ((w - (1 : Int32)) &&& 0x3f).toInt64.toUInt64).toInt64)) < (0 : Int64)) ∧ Dbl (b &&& (((9223372036854775807 : Int64).toUInt64 >>> ((w - (1 : Int32)) &&& 0x3f).toInt64.toUInt64).toInt64)) (w - (1 : Int32)) := by
  obtain ⟨n, hn, e⟩ := own_k h hk
  have m := c_maskL b _ (63 - n) (by omega) (own_msk e hn)
  have hp : (0 : Int) < ((2 ^ (63 - n) : Nat) : Int) := by exact_mod_cast Nat.two_pow_pos _
  have h1 := Int.emod_nonneg b.toInt (Int.ne_of_gt hp)
  have h2 := Int.emod_lt_of_pos b.toInt hp
  rw [← m] at h1 h2
  refine ⟨?_, Or.inr ⟨n, hn, e, h1, h2⟩⟩
  rw [Int64.lt_iff_toInt_lt, own_l0]; omega
theorem own_ge1 {p q : Int32} (h : p < q) : ¬ (q < p) := fun g => by rw [Int32.lt_iff_toInt_lt] at h g; omega
theorem own_nlt (p : Int32) : ¬ (p < p) := fun g => by rw [Int32.lt_iff_toInt_lt] at g; omega
theorem own_neg {p : Int32} (h1 : ¬ ((0 : Int32) < p)) (h2 : ¬ (p = (0 : Int32))) : p < (0 : Int32) := by
  rw [Int32.lt_iff_toInt_lt] at h1 ⊢
  rcases Int.lt_trichotomy p.toInt (0 : Int32).toInt with q | q | q
  · exact q
  · exact absurd (Int32.toInt_inj.mp q) h2
  · exact absurd q h1
theorem own_lt {i k : Int32} {n : Int} (hk : k.toInt = n) (h : i < k) : i.toInt < n := by rw [Int32.lt_iff_toInt_lt, hk] at h; exact h
theorem own_ge {i k : Int32} {n : Int} (hk : k.toInt = n) (h : ¬ (i < k)) : n ≤ i.toInt := by rw [Int32.lt_iff_toInt_lt, hk] at h; omega
theorem own_b4 {S : Nat} {p i n : Int32} (I : NI S p i n) (h : i < (16 : Int32)) : ((i.toUInt32 >>> ((2 : Int32) &&& 31).toUInt32).toInt32).toInt < 4 := by
  have e := own_sh 2 (q := 2) (by decide) (by decide) I.pos
  have h' := own_lt (n := 16) (by decide) h
  have e2 : ((2 ^ 2 : Nat) : Int) = 4 := by decide
  rw [e2] at e; omega
theorem own_b16 {S : Nat} {p i n : Int32} (I : NI S p i n) (h : i < (256 : Int32)) : ((i.toUInt32 >>> ((4 : Int32) &&& 31).toUInt32).toInt32) < (16 : Int32) := by
  have e := own_sh 4 (q := 4) (by decide) (by decide) I.pos
  have h' := own_lt (n := 256) (by decide) h
  have e2 : ((2 ^ 4 : Nat) : Int) = 16 := by decide
  rw [e2] at e; rw [Int32.lt_iff_toInt_lt]; have : (16 : Int32).toInt = 16 := by decide
  omega
theorem own_b256 {S : Nat} {p i n : Int32} (I : NI S p i n) (h : i < (65536 : Int32)) : ((i.toUInt32 >>> ((8 : Int32) &&& 31).toUInt32).toInt32) < (256 : Int32) := by
  have e := own_sh 8 (q := 8) (by decide) (by decide) I.pos
  have h' := own_lt (n := 65536) (by decide) h
  have e2 : ((2 ^ 8 : Nat) : Int) = 256 := by decide
  rw [e2] at e; rw [Int32.lt_iff_toInt_lt]; have : (256 : Int32).toInt = 256 := by decide
  omega
theorem own_b65536 {S : Nat} {p i n : Int32} (I : NI S p i n) : ((i.toUInt32 >>> ((16 : Int32) &&& 31).toUInt32).toInt32) < (65536 : Int32) := by
  have e := own_sh 16 (q := 16) (by decide) (by decide) I.pos
  have r := rng32 i
  have e2 : ((2 ^ 16 : Nat) : Int) = 65536 := by decide
  rw [e2] at e; rw [Int32.lt_iff_toInt_lt]; have : (65536 : Int32).toInt = 65536 := by decide
  omega
theorem own_wge (r : Int32) : ¬ (((1 : Int32) + (r &&& (63 : Int32))) < (1 : Int32)) := by
  have e := c_mask r 63 6 (by decide) (by decide)
  have a := c_iadd 1 (r &&& 63)
  have b := rng32 ((1 : Int32) + (r &&& 63))
  have o : (1 : Int32).toInt = 1 := by decide
  rw [Int32.lt_iff_toInt_lt]; omega
theorem own_shl (x : Int64) (k : Int64) : (x <<< k) = (x * ((1 : Int64) <<< k)) := shlmL rfl
theorem own_shl0 (k : Int64) : ((0 : Int64) <<< k) = (0 : Int64) := by rw [own_shl, Int64.zero_mul]
theorem d1_0 : decode jdk_29_method_65_code 0 = .ok (.iload_n 0, 1) := by decide +kernel
theorem d1_1 : decode jdk_29_method_65_code 1 = .ok (.iload_n 1, 1) := by decide +kernel
theorem d1_2 : decode jdk_29_method_65_code 2 = .ok (.if_icmp .lt 7, 3) := by decide +kernel
theorem d1_9 : decode jdk_29_method_65_code 9 = .ok (.iload_n 1, 1) := by decide +kernel
theorem d1_10 : decode jdk_29_method_65_code 10 = .ok (.ireturn, 1) := by decide +kernel
theorem d1_5 : decode jdk_29_method_65_code 5 = .ok (.iload_n 0, 1) := by decide +kernel
theorem d1_6 : decode jdk_29_method_65_code 6 = .ok (.goto 4, 3) := by decide +kernel
def Q1 (Z : State) (p1 : Int32) (p2 : Int32) (h0 : Heap) (n0 : Nat) (v : Option Value) (h : Heap) : Prop :=
  (∃ (m : Int32), v = some (.int m) ∧ ¬ (m < p1) ∧ h = h0)
theorem ef_1 (m : MethodId) (p1 : Int32) (p2 : Int32) : entryFrame m #[(.int p1), (.int p2)] 2 = mkF m 0 #[.val (.int p1), .val (.int p2)] [] := by first | (simp [entryFrame, mkF, argsToLocals, Value.category]; done) | rfl
set_option maxRecDepth 65536 in
set_option maxHeartbeats 40000000 in
theorem rm1 (l : Launch) (Z : State) (a0 : Array Value) (hw : ∀ d ∈ tables_1, d.before a0 Z = true) (ws : List Jvm.Cond) (p1 : Int32) (p2 : Int32) (h0 : Heap) (n0 : Nat) (O0 : Old Z n0 h0) :
    Meets l (⟨"java/lang/Math", "max", "(II)I"⟩ : MethodName) jdk_29_method_65_code 2 (some .int) ws ({ frames := 0, cells := 0, slots := 0, locals := 0 } : Room) ({ frames := 0, cells := 0, slots := 0, locals := 0 } : Room).cells ({ frames := 0, cells := 0, slots := 0, locals := 0 } : Room).slots Z #[(.int p1), (.int p2)] h0 n0 (Q1 Z p1 p2 h0 n0) := by
  refine Meets.of (F := fun m => mkF m 0 #[.val (.int p1), .val (.int p2)] []) (Jvm.Free.JP.mathPlain rfl (by decide +kernel)) (fun m => ef_1 m p1 p2) ?_
  intro p e s m below meth c T0 hx hby hml hown0 hnm hret hlk hZ X0 e0
  have hown : s.vm.findClass "java/lang/Math" = some m.cls := hown0
  have N0 := Fr.nil n0
  show Goes _ _ _ _ _ _ (T0.setTop (mkF m 0 #[.val (.int p1), .val (.int p2)] []))
  refine own_iloadN X0 hx (hb hby d1_0) rfl ?_
  show Goes _ _ _ _ _ _ (T0.setTop (mkF m 1 #[.val (.int p1), .val (.int p2)] [(.int p1)]))
  refine own_iloadN X0 hx (hb hby d1_1) rfl ?_
  show Goes _ _ _ _ _ _ (T0.setTop (mkF m 2 #[.val (.int p1), .val (.int p2)] [(.int p2), (.int p1)]))
  by_cases hc2_1 : p1 < p2
  ·
    refine own_icmpYes X0 hx (pc' := 9) (hb hby d1_2) (tlt (hc2_1 : p1 < p2)).1 (by decide) (by decide) ?_
    show Goes _ _ _ _ _ _ (T0.setTop (mkF m 9 #[.val (.int p1), .val (.int p2)] []))
    refine own_iloadN X0 hx (hb hby d1_9) rfl ?_
    show Goes _ _ _ _ _ _ (T0.setTop (mkF m 10 #[.val (.int p1), .val (.int p2)] [(.int p2)]))
    exact own_retI X0 hx N0 hlk (by decide) (by decide) hret (hb hby d1_10) (by rw [e0]; exact ⟨p2, rfl, (own_ge1 hc2_1), rfl⟩)
  ·
    refine own_icmpNo X0 hx (hb hby d1_2) (flt (hc2_1 : ¬ (p1 < p2))).1 ?_
    show Goes _ _ _ _ _ _ (T0.setTop (mkF m 5 #[.val (.int p1), .val (.int p2)] []))
    refine own_iloadN X0 hx (hb hby d1_5) rfl ?_
    show Goes _ _ _ _ _ _ (T0.setTop (mkF m 6 #[.val (.int p1), .val (.int p2)] [(.int p1)]))
    refine own_goto X0 hx (pc' := 10) (hb hby d1_6) (by decide) (by decide) ?_
    show Goes _ _ _ _ _ _ (T0.setTop (mkF m 10 #[.val (.int p1), .val (.int p2)] [(.int p1)]))
    exact own_retI X0 hx N0 hlk (by decide) (by decide) hret (hb hby d1_10) (by rw [e0]; exact ⟨p1, rfl, (own_nlt _), rfl⟩)
theorem d6_0 : decode jdk_33_method_47_code 0 = .ok (.iload_n 0, 1) := by decide +kernel
theorem d6_1 : decode jdk_33_method_47_code 1 = .ok (.ifCond .gt 14, 3) := by decide +kernel
theorem d6_15 : decode jdk_33_method_47_code 15 = .ok (.bipush 31, 2) := by decide +kernel
theorem d6_17 : decode jdk_33_method_47_code 17 = .ok (.istore_n 1, 1) := by decide +kernel
theorem d6_18 : decode jdk_33_method_47_code 18 = .ok (.iload_n 0, 1) := by decide +kernel
theorem d6_19 : decode jdk_33_method_47_code 19 = .ok (.ldc_w 264, 3) := by decide +kernel
theorem d6_22 : decode jdk_33_method_47_code 22 = .ok (.if_icmp .lt 11, 3) := by decide +kernel
theorem d6_33 : decode jdk_33_method_47_code 33 = .ok (.iload_n 0, 1) := by decide +kernel
theorem d6_34 : decode jdk_33_method_47_code 34 = .ok (.sipush 256, 3) := by decide +kernel
theorem d6_37 : decode jdk_33_method_47_code 37 = .ok (.if_icmp .lt 11, 3) := by decide +kernel
theorem d6_48 : decode jdk_33_method_47_code 48 = .ok (.iload_n 0, 1) := by decide +kernel
theorem d6_49 : decode jdk_33_method_47_code 49 = .ok (.bipush 16, 2) := by decide +kernel
theorem d6_51 : decode jdk_33_method_47_code 51 = .ok (.if_icmp .lt 10, 3) := by decide +kernel
theorem d6_61 : decode jdk_33_method_47_code 61 = .ok (.iload_n 0, 1) := by decide +kernel
theorem d6_62 : decode jdk_33_method_47_code 62 = .ok (.iconst 4, 1) := by decide +kernel
theorem d6_63 : decode jdk_33_method_47_code 63 = .ok (.if_icmp .lt 10, 3) := by decide +kernel
theorem d6_73 : decode jdk_33_method_47_code 73 = .ok (.iload_n 1, 1) := by decide +kernel
theorem d6_74 : decode jdk_33_method_47_code 74 = .ok (.iload_n 0, 1) := by decide +kernel
theorem d6_75 : decode jdk_33_method_47_code 75 = .ok (.iconst 1, 1) := by decide +kernel
theorem d6_76 : decode jdk_33_method_47_code 76 = .ok (.iushr, 1) := by decide +kernel
theorem d6_77 : decode jdk_33_method_47_code 77 = .ok (.isub, 1) := by decide +kernel
theorem d6_78 : decode jdk_33_method_47_code 78 = .ok (.ireturn, 1) := by decide +kernel
theorem d6_66 : decode jdk_33_method_47_code 66 = .ok (.iinc 1 (-2), 3) := by decide +kernel
theorem d6_69 : decode jdk_33_method_47_code 69 = .ok (.iload_n 0, 1) := by decide +kernel
theorem d6_70 : decode jdk_33_method_47_code 70 = .ok (.iconst 2, 1) := by decide +kernel
theorem d6_71 : decode jdk_33_method_47_code 71 = .ok (.iushr, 1) := by decide +kernel
theorem d6_72 : decode jdk_33_method_47_code 72 = .ok (.istore_n 0, 1) := by decide +kernel
theorem d6_54 : decode jdk_33_method_47_code 54 = .ok (.iinc 1 (-4), 3) := by decide +kernel
theorem d6_57 : decode jdk_33_method_47_code 57 = .ok (.iload_n 0, 1) := by decide +kernel
theorem d6_58 : decode jdk_33_method_47_code 58 = .ok (.iconst 4, 1) := by decide +kernel
theorem d6_59 : decode jdk_33_method_47_code 59 = .ok (.iushr, 1) := by decide +kernel
theorem d6_60 : decode jdk_33_method_47_code 60 = .ok (.istore_n 0, 1) := by decide +kernel
theorem d6_40 : decode jdk_33_method_47_code 40 = .ok (.iinc 1 (-8), 3) := by decide +kernel
theorem d6_43 : decode jdk_33_method_47_code 43 = .ok (.iload_n 0, 1) := by decide +kernel
theorem d6_44 : decode jdk_33_method_47_code 44 = .ok (.bipush 8, 2) := by decide +kernel
theorem d6_46 : decode jdk_33_method_47_code 46 = .ok (.iushr, 1) := by decide +kernel
theorem d6_47 : decode jdk_33_method_47_code 47 = .ok (.istore_n 0, 1) := by decide +kernel
theorem d6_25 : decode jdk_33_method_47_code 25 = .ok (.iinc 1 (-16), 3) := by decide +kernel
theorem d6_28 : decode jdk_33_method_47_code 28 = .ok (.iload_n 0, 1) := by decide +kernel
theorem d6_29 : decode jdk_33_method_47_code 29 = .ok (.bipush 16, 2) := by decide +kernel
theorem d6_31 : decode jdk_33_method_47_code 31 = .ok (.iushr, 1) := by decide +kernel
theorem d6_32 : decode jdk_33_method_47_code 32 = .ok (.istore_n 0, 1) := by decide +kernel
theorem d6_4 : decode jdk_33_method_47_code 4 = .ok (.iload_n 0, 1) := by decide +kernel
theorem d6_5 : decode jdk_33_method_47_code 5 = .ok (.ifCond .ne 8, 3) := by decide +kernel
theorem d6_13 : decode jdk_33_method_47_code 13 = .ok (.iconst 0, 1) := by decide +kernel
theorem d6_14 : decode jdk_33_method_47_code 14 = .ok (.ireturn, 1) := by decide +kernel
theorem pn_0 : plainName "java/lang/Integer" = true := by first | (simp [plainName, overriddenIn]; done) | decide +kernel
def Q6 (Z : State) (p1 : Int32) (h0 : Heap) (n0 : Nat) (v : Option Value) (h : Heap) : Prop :=
  (v = some (.int (0 : Int32)) ∧ p1 < (0 : Int32) ∧ h = h0) ∨
  (∃ (m : Int32), v = some (.int m) ∧ (0 : Int32) < p1 ∧ NlzI p1 m ∧ h = h0)
theorem ef_6 (m : MethodId) (p1 : Int32) : entryFrame m #[(.int p1)] 2 = mkF m 0 #[.val (.int p1), .unset] [] := by first | (simp [entryFrame, mkF, argsToLocals, Value.category]; done) | rfl
set_option maxRecDepth 65536 in
set_option maxHeartbeats 40000000 in
theorem rm6 (l : Launch) (Z : State) (a0 : Array Value) (hw : ∀ d ∈ tables_1, d.before a0 Z = true) (ws : List Jvm.Cond) (p1 : Int32) (h0 : Heap) (n0 : Nat) (O0 : Old Z n0 h0) (hnz : ¬ (p1 = (0 : Int32))) :
    Meets l (⟨"java/lang/Integer", "numberOfLeadingZeros", "(I)I"⟩ : MethodName) jdk_33_method_47_code 2 (some .int) ws ({ frames := 0, cells := 0, slots := 0, locals := 0 } : Room) ({ frames := 0, cells := 0, slots := 0, locals := 0 } : Room).cells ({ frames := 0, cells := 0, slots := 0, locals := 0 } : Room).slots Z #[(.int p1)] h0 n0 (Q6 Z p1 h0 n0) := by
  refine Meets.of (F := fun m => mkF m 0 #[.val (.int p1), .unset] []) (plainFor_of_name pn_0) (fun m => ef_6 m p1) ?_
  intro p e s m below meth c T0 hx hby hml hown0 hnm hret hlk hZ X0 e0
  have hown : s.vm.findClass "java/lang/Integer" = some m.cls := hown0
  have N0 := Fr.nil n0
  show Goes _ _ _ _ _ _ (T0.setTop (mkF m 0 #[.val (.int p1), .unset] []))
  refine own_iloadN X0 hx (hb hby d6_0) rfl ?_
  show Goes _ _ _ _ _ _ (T0.setTop (mkF m 1 #[.val (.int p1), .unset] [(.int p1)]))
  by_cases hc1_1 : (0 : Int32) < p1
  ·
    refine own_ifYes X0 hx (pc' := 15) (hb hby d6_1) ((if0 _ _).trans (tlt (hc1_1 : (0 : Int32) < p1)).2.2.1) (by decide) (by decide) ?_
    show Goes _ _ _ _ _ _ (T0.setTop (mkF m 15 #[.val (.int p1), .unset] []))
    refine own_bipush X0 hx (v := (31 : Int32)) (hb hby d6_15) rfl ?_
    show Goes _ _ _ _ _ _ (T0.setTop (mkF m 17 #[.val (.int p1), .unset] [(.int (31 : Int32))]))
    refine own_istoreN X0 hx (Ls' := #[.val (.int p1), .val (.int (31 : Int32))]) (hb hby d6_17) rfl ?_
    show Goes _ _ _ _ _ _ (T0.setTop (mkF m 18 #[.val (.int p1), .val (.int (31 : Int32))] []))
    refine own_iloadN X0 hx (hb hby d6_18) rfl ?_
    show Goes _ _ _ _ _ _ (T0.setTop (mkF m 19 #[.val (.int p1), .val (.int (31 : Int32))] [(.int p1)]))
    refine own_ldcwInt X0 hx hZ hown (hw _ (List.mem_of_getElem? (i := 34) rfl)) (hb hby d6_19) ?_
    show Goes _ _ _ _ _ _ (T0.setTop (mkF m 22 #[.val (.int p1), .val (.int (31 : Int32))] [(.int (65536 : Int32)), (.int p1)]))
    by_cases hc22_2 : p1 < (65536 : Int32)
    ·
      refine own_icmpYes X0 hx (pc' := 33) (hb hby d6_22) (tlt (hc22_2 : p1 < (65536 : Int32))).1 (by decide) (by decide) ?_
      show Goes _ _ _ _ _ _ (T0.setTop (mkF m 33 #[.val (.int p1), .val (.int (31 : Int32))] []))
      refine own_iloadN X0 hx (hb hby d6_33) rfl ?_
      show Goes _ _ _ _ _ _ (T0.setTop (mkF m 34 #[.val (.int p1), .val (.int (31 : Int32))] [(.int p1)]))
      refine own_sipush X0 hx (v := (256 : Int32)) (hb hby d6_34) rfl ?_
      show Goes _ _ _ _ _ _ (T0.setTop (mkF m 37 #[.val (.int p1), .val (.int (31 : Int32))] [(.int (256 : Int32)), (.int p1)]))
      by_cases hc37_3 : p1 < (256 : Int32)
      ·
        refine own_icmpYes X0 hx (pc' := 48) (hb hby d6_37) (tlt (hc37_3 : p1 < (256 : Int32))).1 (by decide) (by decide) ?_
        show Goes _ _ _ _ _ _ (T0.setTop (mkF m 48 #[.val (.int p1), .val (.int (31 : Int32))] []))
        refine own_iloadN X0 hx (hb hby d6_48) rfl ?_
        show Goes _ _ _ _ _ _ (T0.setTop (mkF m 49 #[.val (.int p1), .val (.int (31 : Int32))] [(.int p1)]))
        refine own_bipush X0 hx (v := (16 : Int32)) (hb hby d6_49) rfl ?_
        show Goes _ _ _ _ _ _ (T0.setTop (mkF m 51 #[.val (.int p1), .val (.int (31 : Int32))] [(.int (16 : Int32)), (.int p1)]))
        by_cases hc51_4 : p1 < (16 : Int32)
        ·
          refine own_icmpYes X0 hx (pc' := 61) (hb hby d6_51) (tlt (hc51_4 : p1 < (16 : Int32))).1 (by decide) (by decide) ?_
          show Goes _ _ _ _ _ _ (T0.setTop (mkF m 61 #[.val (.int p1), .val (.int (31 : Int32))] []))
          refine own_iloadN X0 hx (hb hby d6_61) rfl ?_
          show Goes _ _ _ _ _ _ (T0.setTop (mkF m 62 #[.val (.int p1), .val (.int (31 : Int32))] [(.int p1)]))
          refine own_iconst X0 hx (v := (4 : Int32)) (hb hby d6_62) rfl ?_
          show Goes _ _ _ _ _ _ (T0.setTop (mkF m 63 #[.val (.int p1), .val (.int (31 : Int32))] [(.int (4 : Int32)), (.int p1)]))
          by_cases hc63_5 : p1 < (4 : Int32)
          ·
            refine own_icmpYes X0 hx (pc' := 73) (hb hby d6_63) (tlt (hc63_5 : p1 < (4 : Int32))).1 (by decide) (by decide) ?_
            show Goes _ _ _ _ _ _ (T0.setTop (mkF m 73 #[.val (.int p1), .val (.int (31 : Int32))] []))
            refine own_iloadN X0 hx (hb hby d6_73) rfl ?_
            show Goes _ _ _ _ _ _ (T0.setTop (mkF m 74 #[.val (.int p1), .val (.int (31 : Int32))] [(.int (31 : Int32))]))
            refine own_iloadN X0 hx (hb hby d6_74) rfl ?_
            show Goes _ _ _ _ _ _ (T0.setTop (mkF m 75 #[.val (.int p1), .val (.int (31 : Int32))] [(.int p1), (.int (31 : Int32))]))
            refine own_iconst X0 hx (v := (1 : Int32)) (hb hby d6_75) rfl ?_
            show Goes _ _ _ _ _ _ (T0.setTop (mkF m 76 #[.val (.int p1), .val (.int (31 : Int32))] [(.int (1 : Int32)), (.int p1), (.int (31 : Int32))]))
            refine own_iushr X0 hx (hb hby d6_76) ?_
            show Goes _ _ _ _ _ _ (T0.setTop (mkF m 77 #[.val (.int p1), .val (.int (31 : Int32))] [(.int ((p1.toUInt32 >>> ((1 : Int32) &&& 31).toUInt32).toInt32)), (.int (31 : Int32))]))
            refine own_isub X0 hx (hb hby d6_77) ?_
            show Goes _ _ _ _ _ _ (T0.setTop (mkF m 78 #[.val (.int p1), .val (.int (31 : Int32))] [(.int ((31 : Int32) - ((p1.toUInt32 >>> ((1 : Int32) &&& 31).toUInt32).toInt32)))]))
            exact own_retI X0 hx N0 hlk (by decide) (by decide) hret (hb hby d6_78) (by rw [e0]; exact Or.inr (⟨((31 : Int32) - ((p1.toUInt32 >>> ((1 : Int32) &&& 31).toUInt32).toInt32)), rfl, hc1_1, (own_fin (own_dn (k := 2) (own_dn (k := 4) (own_dn (k := 8) (own_dn (k := 16) (own_NI0 hc1_1))))) (own_lt (by decide) hc63_5)), rfl⟩))
          ·
            refine own_icmpNo X0 hx (hb hby d6_63) (flt (hc63_5 : ¬ (p1 < (4 : Int32)))).1 ?_
            show Goes _ _ _ _ _ _ (T0.setTop (mkF m 66 #[.val (.int p1), .val (.int (31 : Int32))] []))
            refine own_iinc X0 hx (Ls' := #[.val (.int p1), .val (.int ((31 : Int32) + (-2 : Int32)))]) (hb hby d6_66) rfl rfl ?_
            show Goes _ _ _ _ _ _ (T0.setTop (mkF m 69 #[.val (.int p1), .val (.int ((31 : Int32) + (-2 : Int32)))] []))
            refine own_iloadN X0 hx (hb hby d6_69) rfl ?_
            show Goes _ _ _ _ _ _ (T0.setTop (mkF m 70 #[.val (.int p1), .val (.int ((31 : Int32) + (-2 : Int32)))] [(.int p1)]))
            refine own_iconst X0 hx (v := (2 : Int32)) (hb hby d6_70) rfl ?_
            show Goes _ _ _ _ _ _ (T0.setTop (mkF m 71 #[.val (.int p1), .val (.int ((31 : Int32) + (-2 : Int32)))] [(.int (2 : Int32)), (.int p1)]))
            refine own_iushr X0 hx (hb hby d6_71) ?_
            show Goes _ _ _ _ _ _ (T0.setTop (mkF m 72 #[.val (.int p1), .val (.int ((31 : Int32) + (-2 : Int32)))] [(.int ((p1.toUInt32 >>> ((2 : Int32) &&& 31).toUInt32).toInt32))]))
            refine own_istoreN X0 hx (Ls' := #[.val (.int ((p1.toUInt32 >>> ((2 : Int32) &&& 31).toUInt32).toInt32)), .val (.int ((31 : Int32) + (-2 : Int32)))]) (hb hby d6_72) rfl ?_
            show Goes _ _ _ _ _ _ (T0.setTop (mkF m 73 #[.val (.int ((p1.toUInt32 >>> ((2 : Int32) &&& 31).toUInt32).toInt32)), .val (.int ((31 : Int32) + (-2 : Int32)))] []))
            refine own_iloadN X0 hx (hb hby d6_73) rfl ?_
            show Goes _ _ _ _ _ _ (T0.setTop (mkF m 74 #[.val (.int ((p1.toUInt32 >>> ((2 : Int32) &&& 31).toUInt32).toInt32)), .val (.int ((31 : Int32) + (-2 : Int32)))] [(.int ((31 : Int32) + (-2 : Int32)))]))
            refine own_iloadN X0 hx (hb hby d6_74) rfl ?_
            show Goes _ _ _ _ _ _ (T0.setTop (mkF m 75 #[.val (.int ((p1.toUInt32 >>> ((2 : Int32) &&& 31).toUInt32).toInt32)), .val (.int ((31 : Int32) + (-2 : Int32)))] [(.int ((p1.toUInt32 >>> ((2 : Int32) &&& 31).toUInt32).toInt32)), (.int ((31 : Int32) + (-2 : Int32)))]))
            refine own_iconst X0 hx (v := (1 : Int32)) (hb hby d6_75) rfl ?_
            show Goes _ _ _ _ _ _ (T0.setTop (mkF m 76 #[.val (.int ((p1.toUInt32 >>> ((2 : Int32) &&& 31).toUInt32).toInt32)), .val (.int ((31 : Int32) + (-2 : Int32)))] [(.int (1 : Int32)), (.int ((p1.toUInt32 >>> ((2 : Int32) &&& 31).toUInt32).toInt32)), (.int ((31 : Int32) + (-2 : Int32)))]))
            refine own_iushr X0 hx (hb hby d6_76) ?_
            show Goes _ _ _ _ _ _ (T0.setTop (mkF m 77 #[.val (.int ((p1.toUInt32 >>> ((2 : Int32) &&& 31).toUInt32).toInt32)), .val (.int ((31 : Int32) + (-2 : Int32)))] [(.int ((((p1.toUInt32 >>> ((2 : Int32) &&& 31).toUInt32).toInt32).toUInt32 >>> ((1 : Int32) &&& 31).toUInt32).toInt32)), (.int ((31 : Int32) + (-2 : Int32)))]))
            refine own_isub X0 hx (hb hby d6_77) ?_
            show Goes _ _ _ _ _ _ (T0.setTop (mkF m 78 #[.val (.int ((p1.toUInt32 >>> ((2 : Int32) &&& 31).toUInt32).toInt32)), .val (.int ((31 : Int32) + (-2 : Int32)))] [(.int (((31 : Int32) + (-2 : Int32)) - ((((p1.toUInt32 >>> ((2 : Int32) &&& 31).toUInt32).toInt32).toUInt32 >>> ((1 : Int32) &&& 31).toUInt32).toInt32)))]))
            exact own_retI X0 hx N0 hlk (by decide) (by decide) hret (hb hby d6_78) (by rw [e0]; exact Or.inr (⟨(((31 : Int32) + (-2 : Int32)) - ((((p1.toUInt32 >>> ((2 : Int32) &&& 31).toUInt32).toInt32).toUInt32 >>> ((1 : Int32) &&& 31).toUInt32).toInt32)), rfl, hc1_1, (own_fin (own_up (q := 2) (kc := -2) 2 (by decide) (by decide) (by decide) (by decide) (own_dn (k := 4) (own_dn (k := 8) (own_dn (k := 16) (own_NI0 hc1_1)))) (own_ge (by decide) hc63_5)) (own_b4 (own_dn (k := 4) (own_dn (k := 8) (own_dn (k := 16) (own_NI0 hc1_1)))) hc51_4)), rfl⟩))
        ·
          refine own_icmpNo X0 hx (hb hby d6_51) (flt (hc51_4 : ¬ (p1 < (16 : Int32)))).1 ?_
          show Goes _ _ _ _ _ _ (T0.setTop (mkF m 54 #[.val (.int p1), .val (.int (31 : Int32))] []))
          refine own_iinc X0 hx (Ls' := #[.val (.int p1), .val (.int ((31 : Int32) + (-4 : Int32)))]) (hb hby d6_54) rfl rfl ?_
          show Goes _ _ _ _ _ _ (T0.setTop (mkF m 57 #[.val (.int p1), .val (.int ((31 : Int32) + (-4 : Int32)))] []))
          refine own_iloadN X0 hx (hb hby d6_57) rfl ?_
          show Goes _ _ _ _ _ _ (T0.setTop (mkF m 58 #[.val (.int p1), .val (.int ((31 : Int32) + (-4 : Int32)))] [(.int p1)]))
          refine own_iconst X0 hx (v := (4 : Int32)) (hb hby d6_58) rfl ?_
          show Goes _ _ _ _ _ _ (T0.setTop (mkF m 59 #[.val (.int p1), .val (.int ((31 : Int32) + (-4 : Int32)))] [(.int (4 : Int32)), (.int p1)]))
          refine own_iushr X0 hx (hb hby d6_59) ?_
          show Goes _ _ _ _ _ _ (T0.setTop (mkF m 60 #[.val (.int p1), .val (.int ((31 : Int32) + (-4 : Int32)))] [(.int ((p1.toUInt32 >>> ((4 : Int32) &&& 31).toUInt32).toInt32))]))
          refine own_istoreN X0 hx (Ls' := #[.val (.int ((p1.toUInt32 >>> ((4 : Int32) &&& 31).toUInt32).toInt32)), .val (.int ((31 : Int32) + (-4 : Int32)))]) (hb hby d6_60) rfl ?_
          show Goes _ _ _ _ _ _ (T0.setTop (mkF m 61 #[.val (.int ((p1.toUInt32 >>> ((4 : Int32) &&& 31).toUInt32).toInt32)), .val (.int ((31 : Int32) + (-4 : Int32)))] []))
          refine own_iloadN X0 hx (hb hby d6_61) rfl ?_
          show Goes _ _ _ _ _ _ (T0.setTop (mkF m 62 #[.val (.int ((p1.toUInt32 >>> ((4 : Int32) &&& 31).toUInt32).toInt32)), .val (.int ((31 : Int32) + (-4 : Int32)))] [(.int ((p1.toUInt32 >>> ((4 : Int32) &&& 31).toUInt32).toInt32))]))
          refine own_iconst X0 hx (v := (4 : Int32)) (hb hby d6_62) rfl ?_
          show Goes _ _ _ _ _ _ (T0.setTop (mkF m 63 #[.val (.int ((p1.toUInt32 >>> ((4 : Int32) &&& 31).toUInt32).toInt32)), .val (.int ((31 : Int32) + (-4 : Int32)))] [(.int (4 : Int32)), (.int ((p1.toUInt32 >>> ((4 : Int32) &&& 31).toUInt32).toInt32))]))
          by_cases hc63_6 : ((p1.toUInt32 >>> ((4 : Int32) &&& 31).toUInt32).toInt32) < (4 : Int32)
          ·
            refine own_icmpYes X0 hx (pc' := 73) (hb hby d6_63) (tlt (hc63_6 : ((p1.toUInt32 >>> ((4 : Int32) &&& 31).toUInt32).toInt32) < (4 : Int32))).1 (by decide) (by decide) ?_
            show Goes _ _ _ _ _ _ (T0.setTop (mkF m 73 #[.val (.int ((p1.toUInt32 >>> ((4 : Int32) &&& 31).toUInt32).toInt32)), .val (.int ((31 : Int32) + (-4 : Int32)))] []))
            refine own_iloadN X0 hx (hb hby d6_73) rfl ?_
            show Goes _ _ _ _ _ _ (T0.setTop (mkF m 74 #[.val (.int ((p1.toUInt32 >>> ((4 : Int32) &&& 31).toUInt32).toInt32)), .val (.int ((31 : Int32) + (-4 : Int32)))] [(.int ((31 : Int32) + (-4 : Int32)))]))
            refine own_iloadN X0 hx (hb hby d6_74) rfl ?_
            show Goes _ _ _ _ _ _ (T0.setTop (mkF m 75 #[.val (.int ((p1.toUInt32 >>> ((4 : Int32) &&& 31).toUInt32).toInt32)), .val (.int ((31 : Int32) + (-4 : Int32)))] [(.int ((p1.toUInt32 >>> ((4 : Int32) &&& 31).toUInt32).toInt32)), (.int ((31 : Int32) + (-4 : Int32)))]))
            refine own_iconst X0 hx (v := (1 : Int32)) (hb hby d6_75) rfl ?_
            show Goes _ _ _ _ _ _ (T0.setTop (mkF m 76 #[.val (.int ((p1.toUInt32 >>> ((4 : Int32) &&& 31).toUInt32).toInt32)), .val (.int ((31 : Int32) + (-4 : Int32)))] [(.int (1 : Int32)), (.int ((p1.toUInt32 >>> ((4 : Int32) &&& 31).toUInt32).toInt32)), (.int ((31 : Int32) + (-4 : Int32)))]))
            refine own_iushr X0 hx (hb hby d6_76) ?_
            show Goes _ _ _ _ _ _ (T0.setTop (mkF m 77 #[.val (.int ((p1.toUInt32 >>> ((4 : Int32) &&& 31).toUInt32).toInt32)), .val (.int ((31 : Int32) + (-4 : Int32)))] [(.int ((((p1.toUInt32 >>> ((4 : Int32) &&& 31).toUInt32).toInt32).toUInt32 >>> ((1 : Int32) &&& 31).toUInt32).toInt32)), (.int ((31 : Int32) + (-4 : Int32)))]))
            refine own_isub X0 hx (hb hby d6_77) ?_
            show Goes _ _ _ _ _ _ (T0.setTop (mkF m 78 #[.val (.int ((p1.toUInt32 >>> ((4 : Int32) &&& 31).toUInt32).toInt32)), .val (.int ((31 : Int32) + (-4 : Int32)))] [(.int (((31 : Int32) + (-4 : Int32)) - ((((p1.toUInt32 >>> ((4 : Int32) &&& 31).toUInt32).toInt32).toUInt32 >>> ((1 : Int32) &&& 31).toUInt32).toInt32)))]))
            exact own_retI X0 hx N0 hlk (by decide) (by decide) hret (hb hby d6_78) (by rw [e0]; exact Or.inr (⟨(((31 : Int32) + (-4 : Int32)) - ((((p1.toUInt32 >>> ((4 : Int32) &&& 31).toUInt32).toInt32).toUInt32 >>> ((1 : Int32) &&& 31).toUInt32).toInt32)), rfl, hc1_1, (own_fin (own_dn (k := 2) (own_up (q := 4) (kc := -4) 4 (by decide) (by decide) (by decide) (by decide) (own_dn (k := 8) (own_dn (k := 16) (own_NI0 hc1_1))) (own_ge (by decide) hc51_4))) (own_lt (by decide) hc63_6)), rfl⟩))
          ·
            refine own_icmpNo X0 hx (hb hby d6_63) (flt (hc63_6 : ¬ (((p1.toUInt32 >>> ((4 : Int32) &&& 31).toUInt32).toInt32) < (4 : Int32)))).1 ?_
            show Goes _ _ _ _ _ _ (T0.setTop (mkF m 66 #[.val (.int ((p1.toUInt32 >>> ((4 : Int32) &&& 31).toUInt32).toInt32)), .val (.int ((31 : Int32) + (-4 : Int32)))] []))
            refine own_iinc X0 hx (Ls' := #[.val (.int ((p1.toUInt32 >>> ((4 : Int32) &&& 31).toUInt32).toInt32)), .val (.int (((31 : Int32) + (-4 : Int32)) + (-2 : Int32)))]) (hb hby d6_66) rfl rfl ?_
            show Goes _ _ _ _ _ _ (T0.setTop (mkF m 69 #[.val (.int ((p1.toUInt32 >>> ((4 : Int32) &&& 31).toUInt32).toInt32)), .val (.int (((31 : Int32) + (-4 : Int32)) + (-2 : Int32)))] []))
            refine own_iloadN X0 hx (hb hby d6_69) rfl ?_
            show Goes _ _ _ _ _ _ (T0.setTop (mkF m 70 #[.val (.int ((p1.toUInt32 >>> ((4 : Int32) &&& 31).toUInt32).toInt32)), .val (.int (((31 : Int32) + (-4 : Int32)) + (-2 : Int32)))] [(.int ((p1.toUInt32 >>> ((4 : Int32) &&& 31).toUInt32).toInt32))]))
            refine own_iconst X0 hx (v := (2 : Int32)) (hb hby d6_70) rfl ?_
            show Goes _ _ _ _ _ _ (T0.setTop (mkF m 71 #[.val (.int ((p1.toUInt32 >>> ((4 : Int32) &&& 31).toUInt32).toInt32)), .val (.int (((31 : Int32) + (-4 : Int32)) + (-2 : Int32)))] [(.int (2 : Int32)), (.int ((p1.toUInt32 >>> ((4 : Int32) &&& 31).toUInt32).toInt32))]))
            refine own_iushr X0 hx (hb hby d6_71) ?_
            show Goes _ _ _ _ _ _ (T0.setTop (mkF m 72 #[.val (.int ((p1.toUInt32 >>> ((4 : Int32) &&& 31).toUInt32).toInt32)), .val (.int (((31 : Int32) + (-4 : Int32)) + (-2 : Int32)))] [(.int ((((p1.toUInt32 >>> ((4 : Int32) &&& 31).toUInt32).toInt32).toUInt32 >>> ((2 : Int32) &&& 31).toUInt32).toInt32))]))
            refine own_istoreN X0 hx (Ls' := #[.val (.int ((((p1.toUInt32 >>> ((4 : Int32) &&& 31).toUInt32).toInt32).toUInt32 >>> ((2 : Int32) &&& 31).toUInt32).toInt32)), .val (.int (((31 : Int32) + (-4 : Int32)) + (-2 : Int32)))]) (hb hby d6_72) rfl ?_
            show Goes _ _ _ _ _ _ (T0.setTop (mkF m 73 #[.val (.int ((((p1.toUInt32 >>> ((4 : Int32) &&& 31).toUInt32).toInt32).toUInt32 >>> ((2 : Int32) &&& 31).toUInt32).toInt32)), .val (.int (((31 : Int32) + (-4 : Int32)) + (-2 : Int32)))] []))
            refine own_iloadN X0 hx (hb hby d6_73) rfl ?_
            show Goes _ _ _ _ _ _ (T0.setTop (mkF m 74 #[.val (.int ((((p1.toUInt32 >>> ((4 : Int32) &&& 31).toUInt32).toInt32).toUInt32 >>> ((2 : Int32) &&& 31).toUInt32).toInt32)), .val (.int (((31 : Int32) + (-4 : Int32)) + (-2 : Int32)))] [(.int (((31 : Int32) + (-4 : Int32)) + (-2 : Int32)))]))
            refine own_iloadN X0 hx (hb hby d6_74) rfl ?_
            show Goes _ _ _ _ _ _ (T0.setTop (mkF m 75 #[.val (.int ((((p1.toUInt32 >>> ((4 : Int32) &&& 31).toUInt32).toInt32).toUInt32 >>> ((2 : Int32) &&& 31).toUInt32).toInt32)), .val (.int (((31 : Int32) + (-4 : Int32)) + (-2 : Int32)))] [(.int ((((p1.toUInt32 >>> ((4 : Int32) &&& 31).toUInt32).toInt32).toUInt32 >>> ((2 : Int32) &&& 31).toUInt32).toInt32)), (.int (((31 : Int32) + (-4 : Int32)) + (-2 : Int32)))]))
            refine own_iconst X0 hx (v := (1 : Int32)) (hb hby d6_75) rfl ?_
            show Goes _ _ _ _ _ _ (T0.setTop (mkF m 76 #[.val (.int ((((p1.toUInt32 >>> ((4 : Int32) &&& 31).toUInt32).toInt32).toUInt32 >>> ((2 : Int32) &&& 31).toUInt32).toInt32)), .val (.int (((31 : Int32) + (-4 : Int32)) + (-2 : Int32)))] [(.int (1 : Int32)), (.int ((((p1.toUInt32 >>> ((4 : Int32) &&& 31).toUInt32).toInt32).toUInt32 >>> ((2 : Int32) &&& 31).toUInt32).toInt32)), (.int (((31 : Int32) + (-4 : Int32)) + (-2 : Int32)))]))
            refine own_iushr X0 hx (hb hby d6_76) ?_
            show Goes _ _ _ _ _ _ (T0.setTop (mkF m 77 #[.val (.int ((((p1.toUInt32 >>> ((4 : Int32) &&& 31).toUInt32).toInt32).toUInt32 >>> ((2 : Int32) &&& 31).toUInt32).toInt32)), .val (.int (((31 : Int32) + (-4 : Int32)) + (-2 : Int32)))] [(.int ((((((p1.toUInt32 >>> ((4 : Int32) &&& 31).toUInt32).toInt32).toUInt32 >>> ((2 : Int32) &&& 31).toUInt32).toInt32).toUInt32 >>> ((1 : Int32) &&& 31).toUInt32).toInt32)), (.int (((31 : Int32) + (-4 : Int32)) + (-2 : Int32)))]))
            refine own_isub X0 hx (hb hby d6_77) ?_
            show Goes _ _ _ _ _ _ (T0.setTop (mkF m 78 #[.val (.int ((((p1.toUInt32 >>> ((4 : Int32) &&& 31).toUInt32).toInt32).toUInt32 >>> ((2 : Int32) &&& 31).toUInt32).toInt32)), .val (.int (((31 : Int32) + (-4 : Int32)) + (-2 : Int32)))] [(.int ((((31 : Int32) + (-4 : Int32)) + (-2 : Int32)) - ((((((p1.toUInt32 >>> ((4 : Int32) &&& 31).toUInt32).toInt32).toUInt32 >>> ((2 : Int32) &&& 31).toUInt32).toInt32).toUInt32 >>> ((1 : Int32) &&& 31).toUInt32).toInt32)))]))
            exact own_retI X0 hx N0 hlk (by decide) (by decide) hret (hb hby d6_78) (by rw [e0]; exact Or.inr (⟨((((31 : Int32) + (-4 : Int32)) + (-2 : Int32)) - ((((((p1.toUInt32 >>> ((4 : Int32) &&& 31).toUInt32).toInt32).toUInt32 >>> ((2 : Int32) &&& 31).toUInt32).toInt32).toUInt32 >>> ((1 : Int32) &&& 31).toUInt32).toInt32)), rfl, hc1_1, (own_fin (own_up (q := 2) (kc := -2) 2 (by decide) (by decide) (by decide) (by decide) (own_up (q := 4) (kc := -4) 4 (by decide) (by decide) (by decide) (by decide) (own_dn (k := 8) (own_dn (k := 16) (own_NI0 hc1_1))) (own_ge (by decide) hc51_4)) (own_ge (by decide) hc63_6)) (own_b4 (own_up (q := 4) (kc := -4) 4 (by decide) (by decide) (by decide) (by decide) (own_dn (k := 8) (own_dn (k := 16) (own_NI0 hc1_1))) (own_ge (by decide) hc51_4)) (own_b16 (own_dn (k := 8) (own_dn (k := 16) (own_NI0 hc1_1))) hc37_3))), rfl⟩))
      ·
        refine own_icmpNo X0 hx (hb hby d6_37) (flt (hc37_3 : ¬ (p1 < (256 : Int32)))).1 ?_
        show Goes _ _ _ _ _ _ (T0.setTop (mkF m 40 #[.val (.int p1), .val (.int (31 : Int32))] []))
        refine own_iinc X0 hx (Ls' := #[.val (.int p1), .val (.int ((31 : Int32) + (-8 : Int32)))]) (hb hby d6_40) rfl rfl ?_
        show Goes _ _ _ _ _ _ (T0.setTop (mkF m 43 #[.val (.int p1), .val (.int ((31 : Int32) + (-8 : Int32)))] []))
        refine own_iloadN X0 hx (hb hby d6_43) rfl ?_
        show Goes _ _ _ _ _ _ (T0.setTop (mkF m 44 #[.val (.int p1), .val (.int ((31 : Int32) + (-8 : Int32)))] [(.int p1)]))
        refine own_bipush X0 hx (v := (8 : Int32)) (hb hby d6_44) rfl ?_
        show Goes _ _ _ _ _ _ (T0.setTop (mkF m 46 #[.val (.int p1), .val (.int ((31 : Int32) + (-8 : Int32)))] [(.int (8 : Int32)), (.int p1)]))
        refine own_iushr X0 hx (hb hby d6_46) ?_
        show Goes _ _ _ _ _ _ (T0.setTop (mkF m 47 #[.val (.int p1), .val (.int ((31 : Int32) + (-8 : Int32)))] [(.int ((p1.toUInt32 >>> ((8 : Int32) &&& 31).toUInt32).toInt32))]))
        refine own_istoreN X0 hx (Ls' := #[.val (.int ((p1.toUInt32 >>> ((8 : Int32) &&& 31).toUInt32).toInt32)), .val (.int ((31 : Int32) + (-8 : Int32)))]) (hb hby d6_47) rfl ?_
        show Goes _ _ _ _ _ _ (T0.setTop (mkF m 48 #[.val (.int ((p1.toUInt32 >>> ((8 : Int32) &&& 31).toUInt32).toInt32)), .val (.int ((31 : Int32) + (-8 : Int32)))] []))
        refine own_iloadN X0 hx (hb hby d6_48) rfl ?_
        show Goes _ _ _ _ _ _ (T0.setTop (mkF m 49 #[.val (.int ((p1.toUInt32 >>> ((8 : Int32) &&& 31).toUInt32).toInt32)), .val (.int ((31 : Int32) + (-8 : Int32)))] [(.int ((p1.toUInt32 >>> ((8 : Int32) &&& 31).toUInt32).toInt32))]))
        refine own_bipush X0 hx (v := (16 : Int32)) (hb hby d6_49) rfl ?_
        show Goes _ _ _ _ _ _ (T0.setTop (mkF m 51 #[.val (.int ((p1.toUInt32 >>> ((8 : Int32) &&& 31).toUInt32).toInt32)), .val (.int ((31 : Int32) + (-8 : Int32)))] [(.int (16 : Int32)), (.int ((p1.toUInt32 >>> ((8 : Int32) &&& 31).toUInt32).toInt32))]))
        by_cases hc51_7 : ((p1.toUInt32 >>> ((8 : Int32) &&& 31).toUInt32).toInt32) < (16 : Int32)
        ·
          refine own_icmpYes X0 hx (pc' := 61) (hb hby d6_51) (tlt (hc51_7 : ((p1.toUInt32 >>> ((8 : Int32) &&& 31).toUInt32).toInt32) < (16 : Int32))).1 (by decide) (by decide) ?_
          show Goes _ _ _ _ _ _ (T0.setTop (mkF m 61 #[.val (.int ((p1.toUInt32 >>> ((8 : Int32) &&& 31).toUInt32).toInt32)), .val (.int ((31 : Int32) + (-8 : Int32)))] []))
          refine own_iloadN X0 hx (hb hby d6_61) rfl ?_
          show Goes _ _ _ _ _ _ (T0.setTop (mkF m 62 #[.val (.int ((p1.toUInt32 >>> ((8 : Int32) &&& 31).toUInt32).toInt32)), .val (.int ((31 : Int32) + (-8 : Int32)))] [(.int ((p1.toUInt32 >>> ((8 : Int32) &&& 31).toUInt32).toInt32))]))
          refine own_iconst X0 hx (v := (4 : Int32)) (hb hby d6_62) rfl ?_
          show Goes _ _ _ _ _ _ (T0.setTop (mkF m 63 #[.val (.int ((p1.toUInt32 >>> ((8 : Int32) &&& 31).toUInt32).toInt32)), .val (.int ((31 : Int32) + (-8 : Int32)))] [(.int (4 : Int32)), (.int ((p1.toUInt32 >>> ((8 : Int32) &&& 31).toUInt32).toInt32))]))
          by_cases hc63_8 : ((p1.toUInt32 >>> ((8 : Int32) &&& 31).toUInt32).toInt32) < (4 : Int32)
          ·
            refine own_icmpYes X0 hx (pc' := 73) (hb hby d6_63) (tlt (hc63_8 : ((p1.toUInt32 >>> ((8 : Int32) &&& 31).toUInt32).toInt32) < (4 : Int32))).1 (by decide) (by decide) ?_
            show Goes _ _ _ _ _ _ (T0.setTop (mkF m 73 #[.val (.int ((p1.toUInt32 >>> ((8 : Int32) &&& 31).toUInt32).toInt32)), .val (.int ((31 : Int32) + (-8 : Int32)))] []))
            refine own_iloadN X0 hx (hb hby d6_73) rfl ?_
            show Goes _ _ _ _ _ _ (T0.setTop (mkF m 74 #[.val (.int ((p1.toUInt32 >>> ((8 : Int32) &&& 31).toUInt32).toInt32)), .val (.int ((31 : Int32) + (-8 : Int32)))] [(.int ((31 : Int32) + (-8 : Int32)))]))
            refine own_iloadN X0 hx (hb hby d6_74) rfl ?_
            show Goes _ _ _ _ _ _ (T0.setTop (mkF m 75 #[.val (.int ((p1.toUInt32 >>> ((8 : Int32) &&& 31).toUInt32).toInt32)), .val (.int ((31 : Int32) + (-8 : Int32)))] [(.int ((p1.toUInt32 >>> ((8 : Int32) &&& 31).toUInt32).toInt32)), (.int ((31 : Int32) + (-8 : Int32)))]))
            refine own_iconst X0 hx (v := (1 : Int32)) (hb hby d6_75) rfl ?_
            show Goes _ _ _ _ _ _ (T0.setTop (mkF m 76 #[.val (.int ((p1.toUInt32 >>> ((8 : Int32) &&& 31).toUInt32).toInt32)), .val (.int ((31 : Int32) + (-8 : Int32)))] [(.int (1 : Int32)), (.int ((p1.toUInt32 >>> ((8 : Int32) &&& 31).toUInt32).toInt32)), (.int ((31 : Int32) + (-8 : Int32)))]))
            refine own_iushr X0 hx (hb hby d6_76) ?_
            show Goes _ _ _ _ _ _ (T0.setTop (mkF m 77 #[.val (.int ((p1.toUInt32 >>> ((8 : Int32) &&& 31).toUInt32).toInt32)), .val (.int ((31 : Int32) + (-8 : Int32)))] [(.int ((((p1.toUInt32 >>> ((8 : Int32) &&& 31).toUInt32).toInt32).toUInt32 >>> ((1 : Int32) &&& 31).toUInt32).toInt32)), (.int ((31 : Int32) + (-8 : Int32)))]))
            refine own_isub X0 hx (hb hby d6_77) ?_
            show Goes _ _ _ _ _ _ (T0.setTop (mkF m 78 #[.val (.int ((p1.toUInt32 >>> ((8 : Int32) &&& 31).toUInt32).toInt32)), .val (.int ((31 : Int32) + (-8 : Int32)))] [(.int (((31 : Int32) + (-8 : Int32)) - ((((p1.toUInt32 >>> ((8 : Int32) &&& 31).toUInt32).toInt32).toUInt32 >>> ((1 : Int32) &&& 31).toUInt32).toInt32)))]))
            exact own_retI X0 hx N0 hlk (by decide) (by decide) hret (hb hby d6_78) (by rw [e0]; exact Or.inr (⟨(((31 : Int32) + (-8 : Int32)) - ((((p1.toUInt32 >>> ((8 : Int32) &&& 31).toUInt32).toInt32).toUInt32 >>> ((1 : Int32) &&& 31).toUInt32).toInt32)), rfl, hc1_1, (own_fin (own_dn (k := 2) (own_dn (k := 4) (own_up (q := 8) (kc := -8) 8 (by decide) (by decide) (by decide) (by decide) (own_dn (k := 16) (own_NI0 hc1_1)) (own_ge (by decide) hc37_3)))) (own_lt (by decide) hc63_8)), rfl⟩))
          ·
            refine own_icmpNo X0 hx (hb hby d6_63) (flt (hc63_8 : ¬ (((p1.toUInt32 >>> ((8 : Int32) &&& 31).toUInt32).toInt32) < (4 : Int32)))).1 ?_
            show Goes _ _ _ _ _ _ (T0.setTop (mkF m 66 #[.val (.int ((p1.toUInt32 >>> ((8 : Int32) &&& 31).toUInt32).toInt32)), .val (.int ((31 : Int32) + (-8 : Int32)))] []))
            refine own_iinc X0 hx (Ls' := #[.val (.int ((p1.toUInt32 >>> ((8 : Int32) &&& 31).toUInt32).toInt32)), .val (.int (((31 : Int32) + (-8 : Int32)) + (-2 : Int32)))]) (hb hby d6_66) rfl rfl ?_
            show Goes _ _ _ _ _ _ (T0.setTop (mkF m 69 #[.val (.int ((p1.toUInt32 >>> ((8 : Int32) &&& 31).toUInt32).toInt32)), .val (.int (((31 : Int32) + (-8 : Int32)) + (-2 : Int32)))] []))
            refine own_iloadN X0 hx (hb hby d6_69) rfl ?_
            show Goes _ _ _ _ _ _ (T0.setTop (mkF m 70 #[.val (.int ((p1.toUInt32 >>> ((8 : Int32) &&& 31).toUInt32).toInt32)), .val (.int (((31 : Int32) + (-8 : Int32)) + (-2 : Int32)))] [(.int ((p1.toUInt32 >>> ((8 : Int32) &&& 31).toUInt32).toInt32))]))
            refine own_iconst X0 hx (v := (2 : Int32)) (hb hby d6_70) rfl ?_
            show Goes _ _ _ _ _ _ (T0.setTop (mkF m 71 #[.val (.int ((p1.toUInt32 >>> ((8 : Int32) &&& 31).toUInt32).toInt32)), .val (.int (((31 : Int32) + (-8 : Int32)) + (-2 : Int32)))] [(.int (2 : Int32)), (.int ((p1.toUInt32 >>> ((8 : Int32) &&& 31).toUInt32).toInt32))]))
            refine own_iushr X0 hx (hb hby d6_71) ?_
            show Goes _ _ _ _ _ _ (T0.setTop (mkF m 72 #[.val (.int ((p1.toUInt32 >>> ((8 : Int32) &&& 31).toUInt32).toInt32)), .val (.int (((31 : Int32) + (-8 : Int32)) + (-2 : Int32)))] [(.int ((((p1.toUInt32 >>> ((8 : Int32) &&& 31).toUInt32).toInt32).toUInt32 >>> ((2 : Int32) &&& 31).toUInt32).toInt32))]))
            refine own_istoreN X0 hx (Ls' := #[.val (.int ((((p1.toUInt32 >>> ((8 : Int32) &&& 31).toUInt32).toInt32).toUInt32 >>> ((2 : Int32) &&& 31).toUInt32).toInt32)), .val (.int (((31 : Int32) + (-8 : Int32)) + (-2 : Int32)))]) (hb hby d6_72) rfl ?_
            show Goes _ _ _ _ _ _ (T0.setTop (mkF m 73 #[.val (.int ((((p1.toUInt32 >>> ((8 : Int32) &&& 31).toUInt32).toInt32).toUInt32 >>> ((2 : Int32) &&& 31).toUInt32).toInt32)), .val (.int (((31 : Int32) + (-8 : Int32)) + (-2 : Int32)))] []))
            refine own_iloadN X0 hx (hb hby d6_73) rfl ?_
            show Goes _ _ _ _ _ _ (T0.setTop (mkF m 74 #[.val (.int ((((p1.toUInt32 >>> ((8 : Int32) &&& 31).toUInt32).toInt32).toUInt32 >>> ((2 : Int32) &&& 31).toUInt32).toInt32)), .val (.int (((31 : Int32) + (-8 : Int32)) + (-2 : Int32)))] [(.int (((31 : Int32) + (-8 : Int32)) + (-2 : Int32)))]))
            refine own_iloadN X0 hx (hb hby d6_74) rfl ?_
            show Goes _ _ _ _ _ _ (T0.setTop (mkF m 75 #[.val (.int ((((p1.toUInt32 >>> ((8 : Int32) &&& 31).toUInt32).toInt32).toUInt32 >>> ((2 : Int32) &&& 31).toUInt32).toInt32)), .val (.int (((31 : Int32) + (-8 : Int32)) + (-2 : Int32)))] [(.int ((((p1.toUInt32 >>> ((8 : Int32) &&& 31).toUInt32).toInt32).toUInt32 >>> ((2 : Int32) &&& 31).toUInt32).toInt32)), (.int (((31 : Int32) + (-8 : Int32)) + (-2 : Int32)))]))
            refine own_iconst X0 hx (v := (1 : Int32)) (hb hby d6_75) rfl ?_
            show Goes _ _ _ _ _ _ (T0.setTop (mkF m 76 #[.val (.int ((((p1.toUInt32 >>> ((8 : Int32) &&& 31).toUInt32).toInt32).toUInt32 >>> ((2 : Int32) &&& 31).toUInt32).toInt32)), .val (.int (((31 : Int32) + (-8 : Int32)) + (-2 : Int32)))] [(.int (1 : Int32)), (.int ((((p1.toUInt32 >>> ((8 : Int32) &&& 31).toUInt32).toInt32).toUInt32 >>> ((2 : Int32) &&& 31).toUInt32).toInt32)), (.int (((31 : Int32) + (-8 : Int32)) + (-2 : Int32)))]))
            refine own_iushr X0 hx (hb hby d6_76) ?_
            show Goes _ _ _ _ _ _ (T0.setTop (mkF m 77 #[.val (.int ((((p1.toUInt32 >>> ((8 : Int32) &&& 31).toUInt32).toInt32).toUInt32 >>> ((2 : Int32) &&& 31).toUInt32).toInt32)), .val (.int (((31 : Int32) + (-8 : Int32)) + (-2 : Int32)))] [(.int ((((((p1.toUInt32 >>> ((8 : Int32) &&& 31).toUInt32).toInt32).toUInt32 >>> ((2 : Int32) &&& 31).toUInt32).toInt32).toUInt32 >>> ((1 : Int32) &&& 31).toUInt32).toInt32)), (.int (((31 : Int32) + (-8 : Int32)) + (-2 : Int32)))]))
            refine own_isub X0 hx (hb hby d6_77) ?_
            show Goes _ _ _ _ _ _ (T0.setTop (mkF m 78 #[.val (.int ((((p1.toUInt32 >>> ((8 : Int32) &&& 31).toUInt32).toInt32).toUInt32 >>> ((2 : Int32) &&& 31).toUInt32).toInt32)), .val (.int (((31 : Int32) + (-8 : Int32)) + (-2 : Int32)))] [(.int ((((31 : Int32) + (-8 : Int32)) + (-2 : Int32)) - ((((((p1.toUInt32 >>> ((8 : Int32) &&& 31).toUInt32).toInt32).toUInt32 >>> ((2 : Int32) &&& 31).toUInt32).toInt32).toUInt32 >>> ((1 : Int32) &&& 31).toUInt32).toInt32)))]))
            exact own_retI X0 hx N0 hlk (by decide) (by decide) hret (hb hby d6_78) (by rw [e0]; exact Or.inr (⟨((((31 : Int32) + (-8 : Int32)) + (-2 : Int32)) - ((((((p1.toUInt32 >>> ((8 : Int32) &&& 31).toUInt32).toInt32).toUInt32 >>> ((2 : Int32) &&& 31).toUInt32).toInt32).toUInt32 >>> ((1 : Int32) &&& 31).toUInt32).toInt32)), rfl, hc1_1, (own_fin (own_up (q := 2) (kc := -2) 2 (by decide) (by decide) (by decide) (by decide) (own_dn (k := 4) (own_up (q := 8) (kc := -8) 8 (by decide) (by decide) (by decide) (by decide) (own_dn (k := 16) (own_NI0 hc1_1)) (own_ge (by decide) hc37_3))) (own_ge (by decide) hc63_8)) (own_b4 (own_dn (k := 4) (own_up (q := 8) (kc := -8) 8 (by decide) (by decide) (by decide) (by decide) (own_dn (k := 16) (own_NI0 hc1_1)) (own_ge (by decide) hc37_3))) hc51_7)), rfl⟩))
        ·
          refine own_icmpNo X0 hx (hb hby d6_51) (flt (hc51_7 : ¬ (((p1.toUInt32 >>> ((8 : Int32) &&& 31).toUInt32).toInt32) < (16 : Int32)))).1 ?_
          show Goes _ _ _ _ _ _ (T0.setTop (mkF m 54 #[.val (.int ((p1.toUInt32 >>> ((8 : Int32) &&& 31).toUInt32).toInt32)), .val (.int ((31 : Int32) + (-8 : Int32)))] []))
          refine own_iinc X0 hx (Ls' := #[.val (.int ((p1.toUInt32 >>> ((8 : Int32) &&& 31).toUInt32).toInt32)), .val (.int (((31 : Int32) + (-8 : Int32)) + (-4 : Int32)))]) (hb hby d6_54) rfl rfl ?_
          show Goes _ _ _ _ _ _ (T0.setTop (mkF m 57 #[.val (.int ((p1.toUInt32 >>> ((8 : Int32) &&& 31).toUInt32).toInt32)), .val (.int (((31 : Int32) + (-8 : Int32)) + (-4 : Int32)))] []))
          refine own_iloadN X0 hx (hb hby d6_57) rfl ?_
          show Goes _ _ _ _ _ _ (T0.setTop (mkF m 58 #[.val (.int ((p1.toUInt32 >>> ((8 : Int32) &&& 31).toUInt32).toInt32)), .val (.int (((31 : Int32) + (-8 : Int32)) + (-4 : Int32)))] [(.int ((p1.toUInt32 >>> ((8 : Int32) &&& 31).toUInt32).toInt32))]))
          refine own_iconst X0 hx (v := (4 : Int32)) (hb hby d6_58) rfl ?_
          show Goes _ _ _ _ _ _ (T0.setTop (mkF m 59 #[.val (.int ((p1.toUInt32 >>> ((8 : Int32) &&& 31).toUInt32).toInt32)), .val (.int (((31 : Int32) + (-8 : Int32)) + (-4 : Int32)))] [(.int (4 : Int32)), (.int ((p1.toUInt32 >>> ((8 : Int32) &&& 31).toUInt32).toInt32))]))
          refine own_iushr X0 hx (hb hby d6_59) ?_
          show Goes _ _ _ _ _ _ (T0.setTop (mkF m 60 #[.val (.int ((p1.toUInt32 >>> ((8 : Int32) &&& 31).toUInt32).toInt32)), .val (.int (((31 : Int32) + (-8 : Int32)) + (-4 : Int32)))] [(.int ((((p1.toUInt32 >>> ((8 : Int32) &&& 31).toUInt32).toInt32).toUInt32 >>> ((4 : Int32) &&& 31).toUInt32).toInt32))]))
          refine own_istoreN X0 hx (Ls' := #[.val (.int ((((p1.toUInt32 >>> ((8 : Int32) &&& 31).toUInt32).toInt32).toUInt32 >>> ((4 : Int32) &&& 31).toUInt32).toInt32)), .val (.int (((31 : Int32) + (-8 : Int32)) + (-4 : Int32)))]) (hb hby d6_60) rfl ?_
          show Goes _ _ _ _ _ _ (T0.setTop (mkF m 61 #[.val (.int ((((p1.toUInt32 >>> ((8 : Int32) &&& 31).toUInt32).toInt32).toUInt32 >>> ((4 : Int32) &&& 31).toUInt32).toInt32)), .val (.int (((31 : Int32) + (-8 : Int32)) + (-4 : Int32)))] []))
          refine own_iloadN X0 hx (hb hby d6_61) rfl ?_
          show Goes _ _ _ _ _ _ (T0.setTop (mkF m 62 #[.val (.int ((((p1.toUInt32 >>> ((8 : Int32) &&& 31).toUInt32).toInt32).toUInt32 >>> ((4 : Int32) &&& 31).toUInt32).toInt32)), .val (.int (((31 : Int32) + (-8 : Int32)) + (-4 : Int32)))] [(.int ((((p1.toUInt32 >>> ((8 : Int32) &&& 31).toUInt32).toInt32).toUInt32 >>> ((4 : Int32) &&& 31).toUInt32).toInt32))]))
          refine own_iconst X0 hx (v := (4 : Int32)) (hb hby d6_62) rfl ?_
          show Goes _ _ _ _ _ _ (T0.setTop (mkF m 63 #[.val (.int ((((p1.toUInt32 >>> ((8 : Int32) &&& 31).toUInt32).toInt32).toUInt32 >>> ((4 : Int32) &&& 31).toUInt32).toInt32)), .val (.int (((31 : Int32) + (-8 : Int32)) + (-4 : Int32)))] [(.int (4 : Int32)), (.int ((((p1.toUInt32 >>> ((8 : Int32) &&& 31).toUInt32).toInt32).toUInt32 >>> ((4 : Int32) &&& 31).toUInt32).toInt32))]))
          by_cases hc63_9 : ((((p1.toUInt32 >>> ((8 : Int32) &&& 31).toUInt32).toInt32).toUInt32 >>> ((4 : Int32) &&& 31).toUInt32).toInt32) < (4 : Int32)
          ·
            refine own_icmpYes X0 hx (pc' := 73) (hb hby d6_63) (tlt (hc63_9 : ((((p1.toUInt32 >>> ((8 : Int32) &&& 31).toUInt32).toInt32).toUInt32 >>> ((4 : Int32) &&& 31).toUInt32).toInt32) < (4 : Int32))).1 (by decide) (by decide) ?_
            show Goes _ _ _ _ _ _ (T0.setTop (mkF m 73 #[.val (.int ((((p1.toUInt32 >>> ((8 : Int32) &&& 31).toUInt32).toInt32).toUInt32 >>> ((4 : Int32) &&& 31).toUInt32).toInt32)), .val (.int (((31 : Int32) + (-8 : Int32)) + (-4 : Int32)))] []))
            refine own_iloadN X0 hx (hb hby d6_73) rfl ?_
            show Goes _ _ _ _ _ _ (T0.setTop (mkF m 74 #[.val (.int ((((p1.toUInt32 >>> ((8 : Int32) &&& 31).toUInt32).toInt32).toUInt32 >>> ((4 : Int32) &&& 31).toUInt32).toInt32)), .val (.int (((31 : Int32) + (-8 : Int32)) + (-4 : Int32)))] [(.int (((31 : Int32) + (-8 : Int32)) + (-4 : Int32)))]))
            refine own_iloadN X0 hx (hb hby d6_74) rfl ?_
            show Goes _ _ _ _ _ _ (T0.setTop (mkF m 75 #[.val (.int ((((p1.toUInt32 >>> ((8 : Int32) &&& 31).toUInt32).toInt32).toUInt32 >>> ((4 : Int32) &&& 31).toUInt32).toInt32)), .val (.int (((31 : Int32) + (-8 : Int32)) + (-4 : Int32)))] [(.int ((((p1.toUInt32 >>> ((8 : Int32) &&& 31).toUInt32).toInt32).toUInt32 >>> ((4 : Int32) &&& 31).toUInt32).toInt32)), (.int (((31 : Int32) + (-8 : Int32)) + (-4 : Int32)))]))
            refine own_iconst X0 hx (v := (1 : Int32)) (hb hby d6_75) rfl ?_
            show Goes _ _ _ _ _ _ (T0.setTop (mkF m 76 #[.val (.int ((((p1.toUInt32 >>> ((8 : Int32) &&& 31).toUInt32).toInt32).toUInt32 >>> ((4 : Int32) &&& 31).toUInt32).toInt32)), .val (.int (((31 : Int32) + (-8 : Int32)) + (-4 : Int32)))] [(.int (1 : Int32)), (.int ((((p1.toUInt32 >>> ((8 : Int32) &&& 31).toUInt32).toInt32).toUInt32 >>> ((4 : Int32) &&& 31).toUInt32).toInt32)), (.int (((31 : Int32) + (-8 : Int32)) + (-4 : Int32)))]))
            refine own_iushr X0 hx (hb hby d6_76) ?_
            show Goes _ _ _ _ _ _ (T0.setTop (mkF m 77 #[.val (.int ((((p1.toUInt32 >>> ((8 : Int32) &&& 31).toUInt32).toInt32).toUInt32 >>> ((4 : Int32) &&& 31).toUInt32).toInt32)), .val (.int (((31 : Int32) + (-8 : Int32)) + (-4 : Int32)))] [(.int ((((((p1.toUInt32 >>> ((8 : Int32) &&& 31).toUInt32).toInt32).toUInt32 >>> ((4 : Int32) &&& 31).toUInt32).toInt32).toUInt32 >>> ((1 : Int32) &&& 31).toUInt32).toInt32)), (.int (((31 : Int32) + (-8 : Int32)) + (-4 : Int32)))]))
            refine own_isub X0 hx (hb hby d6_77) ?_
            show Goes _ _ _ _ _ _ (T0.setTop (mkF m 78 #[.val (.int ((((p1.toUInt32 >>> ((8 : Int32) &&& 31).toUInt32).toInt32).toUInt32 >>> ((4 : Int32) &&& 31).toUInt32).toInt32)), .val (.int (((31 : Int32) + (-8 : Int32)) + (-4 : Int32)))] [(.int ((((31 : Int32) + (-8 : Int32)) + (-4 : Int32)) - ((((((p1.toUInt32 >>> ((8 : Int32) &&& 31).toUInt32).toInt32).toUInt32 >>> ((4 : Int32) &&& 31).toUInt32).toInt32).toUInt32 >>> ((1 : Int32) &&& 31).toUInt32).toInt32)))]))
            exact own_retI X0 hx N0 hlk (by decide) (by decide) hret (hb hby d6_78) (by rw [e0]; exact Or.inr (⟨((((31 : Int32) + (-8 : Int32)) + (-4 : Int32)) - ((((((p1.toUInt32 >>> ((8 : Int32) &&& 31).toUInt32).toInt32).toUInt32 >>> ((4 : Int32) &&& 31).toUInt32).toInt32).toUInt32 >>> ((1 : Int32) &&& 31).toUInt32).toInt32)), rfl, hc1_1, (own_fin (own_dn (k := 2) (own_up (q := 4) (kc := -4) 4 (by decide) (by decide) (by decide) (by decide) (own_up (q := 8) (kc := -8) 8 (by decide) (by decide) (by decide) (by decide) (own_dn (k := 16) (own_NI0 hc1_1)) (own_ge (by decide) hc37_3)) (own_ge (by decide) hc51_7))) (own_lt (by decide) hc63_9)), rfl⟩))
          ·
            refine own_icmpNo X0 hx (hb hby d6_63) (flt (hc63_9 : ¬ (((((p1.toUInt32 >>> ((8 : Int32) &&& 31).toUInt32).toInt32).toUInt32 >>> ((4 : Int32) &&& 31).toUInt32).toInt32) < (4 : Int32)))).1 ?_
            show Goes _ _ _ _ _ _ (T0.setTop (mkF m 66 #[.val (.int ((((p1.toUInt32 >>> ((8 : Int32) &&& 31).toUInt32).toInt32).toUInt32 >>> ((4 : Int32) &&& 31).toUInt32).toInt32)), .val (.int (((31 : Int32) + (-8 : Int32)) + (-4 : Int32)))] []))
            refine own_iinc X0 hx (Ls' := #[.val (.int ((((p1.toUInt32 >>> ((8 : Int32) &&& 31).toUInt32).toInt32).toUInt32 >>> ((4 : Int32) &&& 31).toUInt32).toInt32)), .val (.int ((((31 : Int32) + (-8 : Int32)) + (-4 : Int32)) + (-2 : Int32)))]) (hb hby d6_66) rfl rfl ?_
            show Goes _ _ _ _ _ _ (T0.setTop (mkF m 69 #[.val (.int ((((p1.toUInt32 >>> ((8 : Int32) &&& 31).toUInt32).toInt32).toUInt32 >>> ((4 : Int32) &&& 31).toUInt32).toInt32)), .val (.int ((((31 : Int32) + (-8 : Int32)) + (-4 : Int32)) + (-2 : Int32)))] []))
            refine own_iloadN X0 hx (hb hby d6_69) rfl ?_
            show Goes _ _ _ _ _ _ (T0.setTop (mkF m 70 #[.val (.int ((((p1.toUInt32 >>> ((8 : Int32) &&& 31).toUInt32).toInt32).toUInt32 >>> ((4 : Int32) &&& 31).toUInt32).toInt32)), .val (.int ((((31 : Int32) + (-8 : Int32)) + (-4 : Int32)) + (-2 : Int32)))] [(.int ((((p1.toUInt32 >>> ((8 : Int32) &&& 31).toUInt32).toInt32).toUInt32 >>> ((4 : Int32) &&& 31).toUInt32).toInt32))]))
            refine own_iconst X0 hx (v := (2 : Int32)) (hb hby d6_70) rfl ?_
            show Goes _ _ _ _ _ _ (T0.setTop (mkF m 71 #[.val (.int ((((p1.toUInt32 >>> ((8 : Int32) &&& 31).toUInt32).toInt32).toUInt32 >>> ((4 : Int32) &&& 31).toUInt32).toInt32)), .val (.int ((((31 : Int32) + (-8 : Int32)) + (-4 : Int32)) + (-2 : Int32)))] [(.int (2 : Int32)), (.int ((((p1.toUInt32 >>> ((8 : Int32) &&& 31).toUInt32).toInt32).toUInt32 >>> ((4 : Int32) &&& 31).toUInt32).toInt32))]))
            refine own_iushr X0 hx (hb hby d6_71) ?_
            show Goes _ _ _ _ _ _ (T0.setTop (mkF m 72 #[.val (.int ((((p1.toUInt32 >>> ((8 : Int32) &&& 31).toUInt32).toInt32).toUInt32 >>> ((4 : Int32) &&& 31).toUInt32).toInt32)), .val (.int ((((31 : Int32) + (-8 : Int32)) + (-4 : Int32)) + (-2 : Int32)))] [(.int ((((((p1.toUInt32 >>> ((8 : Int32) &&& 31).toUInt32).toInt32).toUInt32 >>> ((4 : Int32) &&& 31).toUInt32).toInt32).toUInt32 >>> ((2 : Int32) &&& 31).toUInt32).toInt32))]))
            refine own_istoreN X0 hx (Ls' := #[.val (.int ((((((p1.toUInt32 >>> ((8 : Int32) &&& 31).toUInt32).toInt32).toUInt32 >>> ((4 : Int32) &&& 31).toUInt32).toInt32).toUInt32 >>> ((2 : Int32) &&& 31).toUInt32).toInt32)), .val (.int ((((31 : Int32) + (-8 : Int32)) + (-4 : Int32)) + (-2 : Int32)))]) (hb hby d6_72) rfl ?_
            show Goes _ _ _ _ _ _ (T0.setTop (mkF m 73 #[.val (.int ((((((p1.toUInt32 >>> ((8 : Int32) &&& 31).toUInt32).toInt32).toUInt32 >>> ((4 : Int32) &&& 31).toUInt32).toInt32).toUInt32 >>> ((2 : Int32) &&& 31).toUInt32).toInt32)), .val (.int ((((31 : Int32) + (-8 : Int32)) + (-4 : Int32)) + (-2 : Int32)))] []))
            refine own_iloadN X0 hx (hb hby d6_73) rfl ?_
            show Goes _ _ _ _ _ _ (T0.setTop (mkF m 74 #[.val (.int ((((((p1.toUInt32 >>> ((8 : Int32) &&& 31).toUInt32).toInt32).toUInt32 >>> ((4 : Int32) &&& 31).toUInt32).toInt32).toUInt32 >>> ((2 : Int32) &&& 31).toUInt32).toInt32)), .val (.int ((((31 : Int32) + (-8 : Int32)) + (-4 : Int32)) + (-2 : Int32)))] [(.int ((((31 : Int32) + (-8 : Int32)) + (-4 : Int32)) + (-2 : Int32)))]))
            refine own_iloadN X0 hx (hb hby d6_74) rfl ?_
            show Goes _ _ _ _ _ _ (T0.setTop (mkF m 75 #[.val (.int ((((((p1.toUInt32 >>> ((8 : Int32) &&& 31).toUInt32).toInt32).toUInt32 >>> ((4 : Int32) &&& 31).toUInt32).toInt32).toUInt32 >>> ((2 : Int32) &&& 31).toUInt32).toInt32)), .val (.int ((((31 : Int32) + (-8 : Int32)) + (-4 : Int32)) + (-2 : Int32)))] [(.int ((((((p1.toUInt32 >>> ((8 : Int32) &&& 31).toUInt32).toInt32).toUInt32 >>> ((4 : Int32) &&& 31).toUInt32).toInt32).toUInt32 >>> ((2 : Int32) &&& 31).toUInt32).toInt32)), (.int ((((31 : Int32) + (-8 : Int32)) + (-4 : Int32)) + (-2 : Int32)))]))
            refine own_iconst X0 hx (v := (1 : Int32)) (hb hby d6_75) rfl ?_
            show Goes _ _ _ _ _ _ (T0.setTop (mkF m 76 #[.val (.int ((((((p1.toUInt32 >>> ((8 : Int32) &&& 31).toUInt32).toInt32).toUInt32 >>> ((4 : Int32) &&& 31).toUInt32).toInt32).toUInt32 >>> ((2 : Int32) &&& 31).toUInt32).toInt32)), .val (.int ((((31 : Int32) + (-8 : Int32)) + (-4 : Int32)) + (-2 : Int32)))] [(.int (1 : Int32)), (.int ((((((p1.toUInt32 >>> ((8 : Int32) &&& 31).toUInt32).toInt32).toUInt32 >>> ((4 : Int32) &&& 31).toUInt32).toInt32).toUInt32 >>> ((2 : Int32) &&& 31).toUInt32).toInt32)), (.int ((((31 : Int32) + (-8 : Int32)) + (-4 : Int32)) + (-2 : Int32)))]))
            refine own_iushr X0 hx (hb hby d6_76) ?_
            show Goes _ _ _ _ _ _ (T0.setTop (mkF m 77 #[.val (.int ((((((p1.toUInt32 >>> ((8 : Int32) &&& 31).toUInt32).toInt32).toUInt32 >>> ((4 : Int32) &&& 31).toUInt32).toInt32).toUInt32 >>> ((2 : Int32) &&& 31).toUInt32).toInt32)), .val (.int ((((31 : Int32) + (-8 : Int32)) + (-4 : Int32)) + (-2 : Int32)))] [(.int ((((((((p1.toUInt32 >>> ((8 : Int32) &&& 31).toUInt32).toInt32).toUInt32 >>> ((4 : Int32) &&& 31).toUInt32).toInt32).toUInt32 >>> ((2 : Int32) &&& 31).toUInt32).toInt32).toUInt32 >>> ((1 : Int32) &&& 31).toUInt32).toInt32)), (.int ((((31 : Int32) + (-8 : Int32)) + (-4 : Int32)) + (-2 : Int32)))]))
            refine own_isub X0 hx (hb hby d6_77) ?_
            show Goes _ _ _ _ _ _ (T0.setTop (mkF m 78 #[.val (.int ((((((p1.toUInt32 >>> ((8 : Int32) &&& 31).toUInt32).toInt32).toUInt32 >>> ((4 : Int32) &&& 31).toUInt32).toInt32).toUInt32 >>> ((2 : Int32) &&& 31).toUInt32).toInt32)), .val (.int ((((31 : Int32) + (-8 : Int32)) + (-4 : Int32)) + (-2 : Int32)))] [(.int (((((31 : Int32) + (-8 : Int32)) + (-4 : Int32)) + (-2 : Int32)) - ((((((((p1.toUInt32 >>> ((8 : Int32) &&& 31).toUInt32).toInt32).toUInt32 >>> ((4 : Int32) &&& 31).toUInt32).toInt32).toUInt32 >>> ((2 : Int32) &&& 31).toUInt32).toInt32).toUInt32 >>> ((1 : Int32) &&& 31).toUInt32).toInt32)))]))
            exact own_retI X0 hx N0 hlk (by decide) (by decide) hret (hb hby d6_78) (by rw [e0]; exact Or.inr (⟨(((((31 : Int32) + (-8 : Int32)) + (-4 : Int32)) + (-2 : Int32)) - ((((((((p1.toUInt32 >>> ((8 : Int32) &&& 31).toUInt32).toInt32).toUInt32 >>> ((4 : Int32) &&& 31).toUInt32).toInt32).toUInt32 >>> ((2 : Int32) &&& 31).toUInt32).toInt32).toUInt32 >>> ((1 : Int32) &&& 31).toUInt32).toInt32)), rfl, hc1_1, (own_fin (own_up (q := 2) (kc := -2) 2 (by decide) (by decide) (by decide) (by decide) (own_up (q := 4) (kc := -4) 4 (by decide) (by decide) (by decide) (by decide) (own_up (q := 8) (kc := -8) 8 (by decide) (by decide) (by decide) (by decide) (own_dn (k := 16) (own_NI0 hc1_1)) (own_ge (by decide) hc37_3)) (own_ge (by decide) hc51_7)) (own_ge (by decide) hc63_9)) (own_b4 (own_up (q := 4) (kc := -4) 4 (by decide) (by decide) (by decide) (by decide) (own_up (q := 8) (kc := -8) 8 (by decide) (by decide) (by decide) (by decide) (own_dn (k := 16) (own_NI0 hc1_1)) (own_ge (by decide) hc37_3)) (own_ge (by decide) hc51_7)) (own_b16 (own_up (q := 8) (kc := -8) 8 (by decide) (by decide) (by decide) (by decide) (own_dn (k := 16) (own_NI0 hc1_1)) (own_ge (by decide) hc37_3)) (own_b256 (own_dn (k := 16) (own_NI0 hc1_1)) hc22_2)))), rfl⟩))
    ·
      refine own_icmpNo X0 hx (hb hby d6_22) (flt (hc22_2 : ¬ (p1 < (65536 : Int32)))).1 ?_
      show Goes _ _ _ _ _ _ (T0.setTop (mkF m 25 #[.val (.int p1), .val (.int (31 : Int32))] []))
      refine own_iinc X0 hx (Ls' := #[.val (.int p1), .val (.int ((31 : Int32) + (-16 : Int32)))]) (hb hby d6_25) rfl rfl ?_
      show Goes _ _ _ _ _ _ (T0.setTop (mkF m 28 #[.val (.int p1), .val (.int ((31 : Int32) + (-16 : Int32)))] []))
      refine own_iloadN X0 hx (hb hby d6_28) rfl ?_
      show Goes _ _ _ _ _ _ (T0.setTop (mkF m 29 #[.val (.int p1), .val (.int ((31 : Int32) + (-16 : Int32)))] [(.int p1)]))
      refine own_bipush X0 hx (v := (16 : Int32)) (hb hby d6_29) rfl ?_
      show Goes _ _ _ _ _ _ (T0.setTop (mkF m 31 #[.val (.int p1), .val (.int ((31 : Int32) + (-16 : Int32)))] [(.int (16 : Int32)), (.int p1)]))
      refine own_iushr X0 hx (hb hby d6_31) ?_
      show Goes _ _ _ _ _ _ (T0.setTop (mkF m 32 #[.val (.int p1), .val (.int ((31 : Int32) + (-16 : Int32)))] [(.int ((p1.toUInt32 >>> ((16 : Int32) &&& 31).toUInt32).toInt32))]))
      refine own_istoreN X0 hx (Ls' := #[.val (.int ((p1.toUInt32 >>> ((16 : Int32) &&& 31).toUInt32).toInt32)), .val (.int ((31 : Int32) + (-16 : Int32)))]) (hb hby d6_32) rfl ?_
      show Goes _ _ _ _ _ _ (T0.setTop (mkF m 33 #[.val (.int ((p1.toUInt32 >>> ((16 : Int32) &&& 31).toUInt32).toInt32)), .val (.int ((31 : Int32) + (-16 : Int32)))] []))
      refine own_iloadN X0 hx (hb hby d6_33) rfl ?_
      show Goes _ _ _ _ _ _ (T0.setTop (mkF m 34 #[.val (.int ((p1.toUInt32 >>> ((16 : Int32) &&& 31).toUInt32).toInt32)), .val (.int ((31 : Int32) + (-16 : Int32)))] [(.int ((p1.toUInt32 >>> ((16 : Int32) &&& 31).toUInt32).toInt32))]))
      refine own_sipush X0 hx (v := (256 : Int32)) (hb hby d6_34) rfl ?_
      show Goes _ _ _ _ _ _ (T0.setTop (mkF m 37 #[.val (.int ((p1.toUInt32 >>> ((16 : Int32) &&& 31).toUInt32).toInt32)), .val (.int ((31 : Int32) + (-16 : Int32)))] [(.int (256 : Int32)), (.int ((p1.toUInt32 >>> ((16 : Int32) &&& 31).toUInt32).toInt32))]))
      by_cases hc37_10 : ((p1.toUInt32 >>> ((16 : Int32) &&& 31).toUInt32).toInt32) < (256 : Int32)
      ·
        refine own_icmpYes X0 hx (pc' := 48) (hb hby d6_37) (tlt (hc37_10 : ((p1.toUInt32 >>> ((16 : Int32) &&& 31).toUInt32).toInt32) < (256 : Int32))).1 (by decide) (by decide) ?_
        show Goes _ _ _ _ _ _ (T0.setTop (mkF m 48 #[.val (.int ((p1.toUInt32 >>> ((16 : Int32) &&& 31).toUInt32).toInt32)), .val (.int ((31 : Int32) + (-16 : Int32)))] []))
        refine own_iloadN X0 hx (hb hby d6_48) rfl ?_
        show Goes _ _ _ _ _ _ (T0.setTop (mkF m 49 #[.val (.int ((p1.toUInt32 >>> ((16 : Int32) &&& 31).toUInt32).toInt32)), .val (.int ((31 : Int32) + (-16 : Int32)))] [(.int ((p1.toUInt32 >>> ((16 : Int32) &&& 31).toUInt32).toInt32))]))
        refine own_bipush X0 hx (v := (16 : Int32)) (hb hby d6_49) rfl ?_
        show Goes _ _ _ _ _ _ (T0.setTop (mkF m 51 #[.val (.int ((p1.toUInt32 >>> ((16 : Int32) &&& 31).toUInt32).toInt32)), .val (.int ((31 : Int32) + (-16 : Int32)))] [(.int (16 : Int32)), (.int ((p1.toUInt32 >>> ((16 : Int32) &&& 31).toUInt32).toInt32))]))
        by_cases hc51_11 : ((p1.toUInt32 >>> ((16 : Int32) &&& 31).toUInt32).toInt32) < (16 : Int32)
        ·
          refine own_icmpYes X0 hx (pc' := 61) (hb hby d6_51) (tlt (hc51_11 : ((p1.toUInt32 >>> ((16 : Int32) &&& 31).toUInt32).toInt32) < (16 : Int32))).1 (by decide) (by decide) ?_
          show Goes _ _ _ _ _ _ (T0.setTop (mkF m 61 #[.val (.int ((p1.toUInt32 >>> ((16 : Int32) &&& 31).toUInt32).toInt32)), .val (.int ((31 : Int32) + (-16 : Int32)))] []))
          refine own_iloadN X0 hx (hb hby d6_61) rfl ?_
          show Goes _ _ _ _ _ _ (T0.setTop (mkF m 62 #[.val (.int ((p1.toUInt32 >>> ((16 : Int32) &&& 31).toUInt32).toInt32)), .val (.int ((31 : Int32) + (-16 : Int32)))] [(.int ((p1.toUInt32 >>> ((16 : Int32) &&& 31).toUInt32).toInt32))]))
          refine own_iconst X0 hx (v := (4 : Int32)) (hb hby d6_62) rfl ?_
          show Goes _ _ _ _ _ _ (T0.setTop (mkF m 63 #[.val (.int ((p1.toUInt32 >>> ((16 : Int32) &&& 31).toUInt32).toInt32)), .val (.int ((31 : Int32) + (-16 : Int32)))] [(.int (4 : Int32)), (.int ((p1.toUInt32 >>> ((16 : Int32) &&& 31).toUInt32).toInt32))]))
          by_cases hc63_12 : ((p1.toUInt32 >>> ((16 : Int32) &&& 31).toUInt32).toInt32) < (4 : Int32)
          ·
            refine own_icmpYes X0 hx (pc' := 73) (hb hby d6_63) (tlt (hc63_12 : ((p1.toUInt32 >>> ((16 : Int32) &&& 31).toUInt32).toInt32) < (4 : Int32))).1 (by decide) (by decide) ?_
            show Goes _ _ _ _ _ _ (T0.setTop (mkF m 73 #[.val (.int ((p1.toUInt32 >>> ((16 : Int32) &&& 31).toUInt32).toInt32)), .val (.int ((31 : Int32) + (-16 : Int32)))] []))
            refine own_iloadN X0 hx (hb hby d6_73) rfl ?_
            show Goes _ _ _ _ _ _ (T0.setTop (mkF m 74 #[.val (.int ((p1.toUInt32 >>> ((16 : Int32) &&& 31).toUInt32).toInt32)), .val (.int ((31 : Int32) + (-16 : Int32)))] [(.int ((31 : Int32) + (-16 : Int32)))]))
            refine own_iloadN X0 hx (hb hby d6_74) rfl ?_
            show Goes _ _ _ _ _ _ (T0.setTop (mkF m 75 #[.val (.int ((p1.toUInt32 >>> ((16 : Int32) &&& 31).toUInt32).toInt32)), .val (.int ((31 : Int32) + (-16 : Int32)))] [(.int ((p1.toUInt32 >>> ((16 : Int32) &&& 31).toUInt32).toInt32)), (.int ((31 : Int32) + (-16 : Int32)))]))
            refine own_iconst X0 hx (v := (1 : Int32)) (hb hby d6_75) rfl ?_
            show Goes _ _ _ _ _ _ (T0.setTop (mkF m 76 #[.val (.int ((p1.toUInt32 >>> ((16 : Int32) &&& 31).toUInt32).toInt32)), .val (.int ((31 : Int32) + (-16 : Int32)))] [(.int (1 : Int32)), (.int ((p1.toUInt32 >>> ((16 : Int32) &&& 31).toUInt32).toInt32)), (.int ((31 : Int32) + (-16 : Int32)))]))
            refine own_iushr X0 hx (hb hby d6_76) ?_
            show Goes _ _ _ _ _ _ (T0.setTop (mkF m 77 #[.val (.int ((p1.toUInt32 >>> ((16 : Int32) &&& 31).toUInt32).toInt32)), .val (.int ((31 : Int32) + (-16 : Int32)))] [(.int ((((p1.toUInt32 >>> ((16 : Int32) &&& 31).toUInt32).toInt32).toUInt32 >>> ((1 : Int32) &&& 31).toUInt32).toInt32)), (.int ((31 : Int32) + (-16 : Int32)))]))
            refine own_isub X0 hx (hb hby d6_77) ?_
            show Goes _ _ _ _ _ _ (T0.setTop (mkF m 78 #[.val (.int ((p1.toUInt32 >>> ((16 : Int32) &&& 31).toUInt32).toInt32)), .val (.int ((31 : Int32) + (-16 : Int32)))] [(.int (((31 : Int32) + (-16 : Int32)) - ((((p1.toUInt32 >>> ((16 : Int32) &&& 31).toUInt32).toInt32).toUInt32 >>> ((1 : Int32) &&& 31).toUInt32).toInt32)))]))
            exact own_retI X0 hx N0 hlk (by decide) (by decide) hret (hb hby d6_78) (by rw [e0]; exact Or.inr (⟨(((31 : Int32) + (-16 : Int32)) - ((((p1.toUInt32 >>> ((16 : Int32) &&& 31).toUInt32).toInt32).toUInt32 >>> ((1 : Int32) &&& 31).toUInt32).toInt32)), rfl, hc1_1, (own_fin (own_dn (k := 2) (own_dn (k := 4) (own_dn (k := 8) (own_up (q := 16) (kc := -16) 16 (by decide) (by decide) (by decide) (by decide) (own_NI0 hc1_1) (own_ge (by decide) hc22_2))))) (own_lt (by decide) hc63_12)), rfl⟩))
          ·
            refine own_icmpNo X0 hx (hb hby d6_63) (flt (hc63_12 : ¬ (((p1.toUInt32 >>> ((16 : Int32) &&& 31).toUInt32).toInt32) < (4 : Int32)))).1 ?_
            show Goes _ _ _ _ _ _ (T0.setTop (mkF m 66 #[.val (.int ((p1.toUInt32 >>> ((16 : Int32) &&& 31).toUInt32).toInt32)), .val (.int ((31 : Int32) + (-16 : Int32)))] []))
            refine own_iinc X0 hx (Ls' := #[.val (.int ((p1.toUInt32 >>> ((16 : Int32) &&& 31).toUInt32).toInt32)), .val (.int (((31 : Int32) + (-16 : Int32)) + (-2 : Int32)))]) (hb hby d6_66) rfl rfl ?_
            show Goes _ _ _ _ _ _ (T0.setTop (mkF m 69 #[.val (.int ((p1.toUInt32 >>> ((16 : Int32) &&& 31).toUInt32).toInt32)), .val (.int (((31 : Int32) + (-16 : Int32)) + (-2 : Int32)))] []))
            refine own_iloadN X0 hx (hb hby d6_69) rfl ?_
            show Goes _ _ _ _ _ _ (T0.setTop (mkF m 70 #[.val (.int ((p1.toUInt32 >>> ((16 : Int32) &&& 31).toUInt32).toInt32)), .val (.int (((31 : Int32) + (-16 : Int32)) + (-2 : Int32)))] [(.int ((p1.toUInt32 >>> ((16 : Int32) &&& 31).toUInt32).toInt32))]))
            refine own_iconst X0 hx (v := (2 : Int32)) (hb hby d6_70) rfl ?_
            show Goes _ _ _ _ _ _ (T0.setTop (mkF m 71 #[.val (.int ((p1.toUInt32 >>> ((16 : Int32) &&& 31).toUInt32).toInt32)), .val (.int (((31 : Int32) + (-16 : Int32)) + (-2 : Int32)))] [(.int (2 : Int32)), (.int ((p1.toUInt32 >>> ((16 : Int32) &&& 31).toUInt32).toInt32))]))
            refine own_iushr X0 hx (hb hby d6_71) ?_
            show Goes _ _ _ _ _ _ (T0.setTop (mkF m 72 #[.val (.int ((p1.toUInt32 >>> ((16 : Int32) &&& 31).toUInt32).toInt32)), .val (.int (((31 : Int32) + (-16 : Int32)) + (-2 : Int32)))] [(.int ((((p1.toUInt32 >>> ((16 : Int32) &&& 31).toUInt32).toInt32).toUInt32 >>> ((2 : Int32) &&& 31).toUInt32).toInt32))]))
            refine own_istoreN X0 hx (Ls' := #[.val (.int ((((p1.toUInt32 >>> ((16 : Int32) &&& 31).toUInt32).toInt32).toUInt32 >>> ((2 : Int32) &&& 31).toUInt32).toInt32)), .val (.int (((31 : Int32) + (-16 : Int32)) + (-2 : Int32)))]) (hb hby d6_72) rfl ?_
            show Goes _ _ _ _ _ _ (T0.setTop (mkF m 73 #[.val (.int ((((p1.toUInt32 >>> ((16 : Int32) &&& 31).toUInt32).toInt32).toUInt32 >>> ((2 : Int32) &&& 31).toUInt32).toInt32)), .val (.int (((31 : Int32) + (-16 : Int32)) + (-2 : Int32)))] []))
            refine own_iloadN X0 hx (hb hby d6_73) rfl ?_
            show Goes _ _ _ _ _ _ (T0.setTop (mkF m 74 #[.val (.int ((((p1.toUInt32 >>> ((16 : Int32) &&& 31).toUInt32).toInt32).toUInt32 >>> ((2 : Int32) &&& 31).toUInt32).toInt32)), .val (.int (((31 : Int32) + (-16 : Int32)) + (-2 : Int32)))] [(.int (((31 : Int32) + (-16 : Int32)) + (-2 : Int32)))]))
            refine own_iloadN X0 hx (hb hby d6_74) rfl ?_
            show Goes _ _ _ _ _ _ (T0.setTop (mkF m 75 #[.val (.int ((((p1.toUInt32 >>> ((16 : Int32) &&& 31).toUInt32).toInt32).toUInt32 >>> ((2 : Int32) &&& 31).toUInt32).toInt32)), .val (.int (((31 : Int32) + (-16 : Int32)) + (-2 : Int32)))] [(.int ((((p1.toUInt32 >>> ((16 : Int32) &&& 31).toUInt32).toInt32).toUInt32 >>> ((2 : Int32) &&& 31).toUInt32).toInt32)), (.int (((31 : Int32) + (-16 : Int32)) + (-2 : Int32)))]))
            refine own_iconst X0 hx (v := (1 : Int32)) (hb hby d6_75) rfl ?_
            show Goes _ _ _ _ _ _ (T0.setTop (mkF m 76 #[.val (.int ((((p1.toUInt32 >>> ((16 : Int32) &&& 31).toUInt32).toInt32).toUInt32 >>> ((2 : Int32) &&& 31).toUInt32).toInt32)), .val (.int (((31 : Int32) + (-16 : Int32)) + (-2 : Int32)))] [(.int (1 : Int32)), (.int ((((p1.toUInt32 >>> ((16 : Int32) &&& 31).toUInt32).toInt32).toUInt32 >>> ((2 : Int32) &&& 31).toUInt32).toInt32)), (.int (((31 : Int32) + (-16 : Int32)) + (-2 : Int32)))]))
            refine own_iushr X0 hx (hb hby d6_76) ?_
            show Goes _ _ _ _ _ _ (T0.setTop (mkF m 77 #[.val (.int ((((p1.toUInt32 >>> ((16 : Int32) &&& 31).toUInt32).toInt32).toUInt32 >>> ((2 : Int32) &&& 31).toUInt32).toInt32)), .val (.int (((31 : Int32) + (-16 : Int32)) + (-2 : Int32)))] [(.int ((((((p1.toUInt32 >>> ((16 : Int32) &&& 31).toUInt32).toInt32).toUInt32 >>> ((2 : Int32) &&& 31).toUInt32).toInt32).toUInt32 >>> ((1 : Int32) &&& 31).toUInt32).toInt32)), (.int (((31 : Int32) + (-16 : Int32)) + (-2 : Int32)))]))
            refine own_isub X0 hx (hb hby d6_77) ?_
            show Goes _ _ _ _ _ _ (T0.setTop (mkF m 78 #[.val (.int ((((p1.toUInt32 >>> ((16 : Int32) &&& 31).toUInt32).toInt32).toUInt32 >>> ((2 : Int32) &&& 31).toUInt32).toInt32)), .val (.int (((31 : Int32) + (-16 : Int32)) + (-2 : Int32)))] [(.int ((((31 : Int32) + (-16 : Int32)) + (-2 : Int32)) - ((((((p1.toUInt32 >>> ((16 : Int32) &&& 31).toUInt32).toInt32).toUInt32 >>> ((2 : Int32) &&& 31).toUInt32).toInt32).toUInt32 >>> ((1 : Int32) &&& 31).toUInt32).toInt32)))]))
            exact own_retI X0 hx N0 hlk (by decide) (by decide) hret (hb hby d6_78) (by rw [e0]; exact Or.inr (⟨((((31 : Int32) + (-16 : Int32)) + (-2 : Int32)) - ((((((p1.toUInt32 >>> ((16 : Int32) &&& 31).toUInt32).toInt32).toUInt32 >>> ((2 : Int32) &&& 31).toUInt32).toInt32).toUInt32 >>> ((1 : Int32) &&& 31).toUInt32).toInt32)), rfl, hc1_1, (own_fin (own_up (q := 2) (kc := -2) 2 (by decide) (by decide) (by decide) (by decide) (own_dn (k := 4) (own_dn (k := 8) (own_up (q := 16) (kc := -16) 16 (by decide) (by decide) (by decide) (by decide) (own_NI0 hc1_1) (own_ge (by decide) hc22_2)))) (own_ge (by decide) hc63_12)) (own_b4 (own_dn (k := 4) (own_dn (k := 8) (own_up (q := 16) (kc := -16) 16 (by decide) (by decide) (by decide) (by decide) (own_NI0 hc1_1) (own_ge (by decide) hc22_2)))) hc51_11)), rfl⟩))
        ·
          refine own_icmpNo X0 hx (hb hby d6_51) (flt (hc51_11 : ¬ (((p1.toUInt32 >>> ((16 : Int32) &&& 31).toUInt32).toInt32) < (16 : Int32)))).1 ?_
          show Goes _ _ _ _ _ _ (T0.setTop (mkF m 54 #[.val (.int ((p1.toUInt32 >>> ((16 : Int32) &&& 31).toUInt32).toInt32)), .val (.int ((31 : Int32) + (-16 : Int32)))] []))
          refine own_iinc X0 hx (Ls' := #[.val (.int ((p1.toUInt32 >>> ((16 : Int32) &&& 31).toUInt32).toInt32)), .val (.int (((31 : Int32) + (-16 : Int32)) + (-4 : Int32)))]) (hb hby d6_54) rfl rfl ?_
          show Goes _ _ _ _ _ _ (T0.setTop (mkF m 57 #[.val (.int ((p1.toUInt32 >>> ((16 : Int32) &&& 31).toUInt32).toInt32)), .val (.int (((31 : Int32) + (-16 : Int32)) + (-4 : Int32)))] []))
          refine own_iloadN X0 hx (hb hby d6_57) rfl ?_
          show Goes _ _ _ _ _ _ (T0.setTop (mkF m 58 #[.val (.int ((p1.toUInt32 >>> ((16 : Int32) &&& 31).toUInt32).toInt32)), .val (.int (((31 : Int32) + (-16 : Int32)) + (-4 : Int32)))] [(.int ((p1.toUInt32 >>> ((16 : Int32) &&& 31).toUInt32).toInt32))]))
          refine own_iconst X0 hx (v := (4 : Int32)) (hb hby d6_58) rfl ?_
          show Goes _ _ _ _ _ _ (T0.setTop (mkF m 59 #[.val (.int ((p1.toUInt32 >>> ((16 : Int32) &&& 31).toUInt32).toInt32)), .val (.int (((31 : Int32) + (-16 : Int32)) + (-4 : Int32)))] [(.int (4 : Int32)), (.int ((p1.toUInt32 >>> ((16 : Int32) &&& 31).toUInt32).toInt32))]))
          refine own_iushr X0 hx (hb hby d6_59) ?_
          show Goes _ _ _ _ _ _ (T0.setTop (mkF m 60 #[.val (.int ((p1.toUInt32 >>> ((16 : Int32) &&& 31).toUInt32).toInt32)), .val (.int (((31 : Int32) + (-16 : Int32)) + (-4 : Int32)))] [(.int ((((p1.toUInt32 >>> ((16 : Int32) &&& 31).toUInt32).toInt32).toUInt32 >>> ((4 : Int32) &&& 31).toUInt32).toInt32))]))
          refine own_istoreN X0 hx (Ls' := #[.val (.int ((((p1.toUInt32 >>> ((16 : Int32) &&& 31).toUInt32).toInt32).toUInt32 >>> ((4 : Int32) &&& 31).toUInt32).toInt32)), .val (.int (((31 : Int32) + (-16 : Int32)) + (-4 : Int32)))]) (hb hby d6_60) rfl ?_
          show Goes _ _ _ _ _ _ (T0.setTop (mkF m 61 #[.val (.int ((((p1.toUInt32 >>> ((16 : Int32) &&& 31).toUInt32).toInt32).toUInt32 >>> ((4 : Int32) &&& 31).toUInt32).toInt32)), .val (.int (((31 : Int32) + (-16 : Int32)) + (-4 : Int32)))] []))
          refine own_iloadN X0 hx (hb hby d6_61) rfl ?_
          show Goes _ _ _ _ _ _ (T0.setTop (mkF m 62 #[.val (.int ((((p1.toUInt32 >>> ((16 : Int32) &&& 31).toUInt32).toInt32).toUInt32 >>> ((4 : Int32) &&& 31).toUInt32).toInt32)), .val (.int (((31 : Int32) + (-16 : Int32)) + (-4 : Int32)))] [(.int ((((p1.toUInt32 >>> ((16 : Int32) &&& 31).toUInt32).toInt32).toUInt32 >>> ((4 : Int32) &&& 31).toUInt32).toInt32))]))
          refine own_iconst X0 hx (v := (4 : Int32)) (hb hby d6_62) rfl ?_
          show Goes _ _ _ _ _ _ (T0.setTop (mkF m 63 #[.val (.int ((((p1.toUInt32 >>> ((16 : Int32) &&& 31).toUInt32).toInt32).toUInt32 >>> ((4 : Int32) &&& 31).toUInt32).toInt32)), .val (.int (((31 : Int32) + (-16 : Int32)) + (-4 : Int32)))] [(.int (4 : Int32)), (.int ((((p1.toUInt32 >>> ((16 : Int32) &&& 31).toUInt32).toInt32).toUInt32 >>> ((4 : Int32) &&& 31).toUInt32).toInt32))]))
          by_cases hc63_13 : ((((p1.toUInt32 >>> ((16 : Int32) &&& 31).toUInt32).toInt32).toUInt32 >>> ((4 : Int32) &&& 31).toUInt32).toInt32) < (4 : Int32)
          ·
            refine own_icmpYes X0 hx (pc' := 73) (hb hby d6_63) (tlt (hc63_13 : ((((p1.toUInt32 >>> ((16 : Int32) &&& 31).toUInt32).toInt32).toUInt32 >>> ((4 : Int32) &&& 31).toUInt32).toInt32) < (4 : Int32))).1 (by decide) (by decide) ?_
            show Goes _ _ _ _ _ _ (T0.setTop (mkF m 73 #[.val (.int ((((p1.toUInt32 >>> ((16 : Int32) &&& 31).toUInt32).toInt32).toUInt32 >>> ((4 : Int32) &&& 31).toUInt32).toInt32)), .val (.int (((31 : Int32) + (-16 : Int32)) + (-4 : Int32)))] []))
            refine own_iloadN X0 hx (hb hby d6_73) rfl ?_
            show Goes _ _ _ _ _ _ (T0.setTop (mkF m 74 #[.val (.int ((((p1.toUInt32 >>> ((16 : Int32) &&& 31).toUInt32).toInt32).toUInt32 >>> ((4 : Int32) &&& 31).toUInt32).toInt32)), .val (.int (((31 : Int32) + (-16 : Int32)) + (-4 : Int32)))] [(.int (((31 : Int32) + (-16 : Int32)) + (-4 : Int32)))]))
            refine own_iloadN X0 hx (hb hby d6_74) rfl ?_
            show Goes _ _ _ _ _ _ (T0.setTop (mkF m 75 #[.val (.int ((((p1.toUInt32 >>> ((16 : Int32) &&& 31).toUInt32).toInt32).toUInt32 >>> ((4 : Int32) &&& 31).toUInt32).toInt32)), .val (.int (((31 : Int32) + (-16 : Int32)) + (-4 : Int32)))] [(.int ((((p1.toUInt32 >>> ((16 : Int32) &&& 31).toUInt32).toInt32).toUInt32 >>> ((4 : Int32) &&& 31).toUInt32).toInt32)), (.int (((31 : Int32) + (-16 : Int32)) + (-4 : Int32)))]))
            refine own_iconst X0 hx (v := (1 : Int32)) (hb hby d6_75) rfl ?_
            show Goes _ _ _ _ _ _ (T0.setTop (mkF m 76 #[.val (.int ((((p1.toUInt32 >>> ((16 : Int32) &&& 31).toUInt32).toInt32).toUInt32 >>> ((4 : Int32) &&& 31).toUInt32).toInt32)), .val (.int (((31 : Int32) + (-16 : Int32)) + (-4 : Int32)))] [(.int (1 : Int32)), (.int ((((p1.toUInt32 >>> ((16 : Int32) &&& 31).toUInt32).toInt32).toUInt32 >>> ((4 : Int32) &&& 31).toUInt32).toInt32)), (.int (((31 : Int32) + (-16 : Int32)) + (-4 : Int32)))]))
            refine own_iushr X0 hx (hb hby d6_76) ?_
            show Goes _ _ _ _ _ _ (T0.setTop (mkF m 77 #[.val (.int ((((p1.toUInt32 >>> ((16 : Int32) &&& 31).toUInt32).toInt32).toUInt32 >>> ((4 : Int32) &&& 31).toUInt32).toInt32)), .val (.int (((31 : Int32) + (-16 : Int32)) + (-4 : Int32)))] [(.int ((((((p1.toUInt32 >>> ((16 : Int32) &&& 31).toUInt32).toInt32).toUInt32 >>> ((4 : Int32) &&& 31).toUInt32).toInt32).toUInt32 >>> ((1 : Int32) &&& 31).toUInt32).toInt32)), (.int (((31 : Int32) + (-16 : Int32)) + (-4 : Int32)))]))
            refine own_isub X0 hx (hb hby d6_77) ?_
            show Goes _ _ _ _ _ _ (T0.setTop (mkF m 78 #[.val (.int ((((p1.toUInt32 >>> ((16 : Int32) &&& 31).toUInt32).toInt32).toUInt32 >>> ((4 : Int32) &&& 31).toUInt32).toInt32)), .val (.int (((31 : Int32) + (-16 : Int32)) + (-4 : Int32)))] [(.int ((((31 : Int32) + (-16 : Int32)) + (-4 : Int32)) - ((((((p1.toUInt32 >>> ((16 : Int32) &&& 31).toUInt32).toInt32).toUInt32 >>> ((4 : Int32) &&& 31).toUInt32).toInt32).toUInt32 >>> ((1 : Int32) &&& 31).toUInt32).toInt32)))]))
            exact own_retI X0 hx N0 hlk (by decide) (by decide) hret (hb hby d6_78) (by rw [e0]; exact Or.inr (⟨((((31 : Int32) + (-16 : Int32)) + (-4 : Int32)) - ((((((p1.toUInt32 >>> ((16 : Int32) &&& 31).toUInt32).toInt32).toUInt32 >>> ((4 : Int32) &&& 31).toUInt32).toInt32).toUInt32 >>> ((1 : Int32) &&& 31).toUInt32).toInt32)), rfl, hc1_1, (own_fin (own_dn (k := 2) (own_up (q := 4) (kc := -4) 4 (by decide) (by decide) (by decide) (by decide) (own_dn (k := 8) (own_up (q := 16) (kc := -16) 16 (by decide) (by decide) (by decide) (by decide) (own_NI0 hc1_1) (own_ge (by decide) hc22_2))) (own_ge (by decide) hc51_11))) (own_lt (by decide) hc63_13)), rfl⟩))
          ·
            refine own_icmpNo X0 hx (hb hby d6_63) (flt (hc63_13 : ¬ (((((p1.toUInt32 >>> ((16 : Int32) &&& 31).toUInt32).toInt32).toUInt32 >>> ((4 : Int32) &&& 31).toUInt32).toInt32) < (4 : Int32)))).1 ?_
            show Goes _ _ _ _ _ _ (T0.setTop (mkF m 66 #[.val (.int ((((p1.toUInt32 >>> ((16 : Int32) &&& 31).toUInt32).toInt32).toUInt32 >>> ((4 : Int32) &&& 31).toUInt32).toInt32)), .val (.int (((31 : Int32) + (-16 : Int32)) + (-4 : Int32)))] []))
            refine own_iinc X0 hx (Ls' := #[.val (.int ((((p1.toUInt32 >>> ((16 : Int32) &&& 31).toUInt32).toInt32).toUInt32 >>> ((4 : Int32) &&& 31).toUInt32).toInt32)), .val (.int ((((31 : Int32) + (-16 : Int32)) + (-4 : Int32)) + (-2 : Int32)))]) (hb hby d6_66) rfl rfl ?_
            show Goes _ _ _ _ _ _ (T0.setTop (mkF m 69 #[.val (.int ((((p1.toUInt32 >>> ((16 : Int32) &&& 31).toUInt32).toInt32).toUInt32 >>> ((4 : Int32) &&& 31).toUInt32).toInt32)), .val (.int ((((31 : Int32) + (-16 : Int32)) + (-4 : Int32)) + (-2 : Int32)))] []))
            refine own_iloadN X0 hx (hb hby d6_69) rfl ?_
            show Goes _ _ _ _ _ _ (T0.setTop (mkF m 70 #[.val (.int ((((p1.toUInt32 >>> ((16 : Int32) &&& 31).toUInt32).toInt32).toUInt32 >>> ((4 : Int32) &&& 31).toUInt32).toInt32)), .val (.int ((((31 : Int32) + (-16 : Int32)) + (-4 : Int32)) + (-2 : Int32)))] [(.int ((((p1.toUInt32 >>> ((16 : Int32) &&& 31).toUInt32).toInt32).toUInt32 >>> ((4 : Int32) &&& 31).toUInt32).toInt32))]))
            refine own_iconst X0 hx (v := (2 : Int32)) (hb hby d6_70) rfl ?_
            show Goes _ _ _ _ _ _ (T0.setTop (mkF m 71 #[.val (.int ((((p1.toUInt32 >>> ((16 : Int32) &&& 31).toUInt32).toInt32).toUInt32 >>> ((4 : Int32) &&& 31).toUInt32).toInt32)), .val (.int ((((31 : Int32) + (-16 : Int32)) + (-4 : Int32)) + (-2 : Int32)))] [(.int (2 : Int32)), (.int ((((p1.toUInt32 >>> ((16 : Int32) &&& 31).toUInt32).toInt32).toUInt32 >>> ((4 : Int32) &&& 31).toUInt32).toInt32))]))
            refine own_iushr X0 hx (hb hby d6_71) ?_
            show Goes _ _ _ _ _ _ (T0.setTop (mkF m 72 #[.val (.int ((((p1.toUInt32 >>> ((16 : Int32) &&& 31).toUInt32).toInt32).toUInt32 >>> ((4 : Int32) &&& 31).toUInt32).toInt32)), .val (.int ((((31 : Int32) + (-16 : Int32)) + (-4 : Int32)) + (-2 : Int32)))] [(.int ((((((p1.toUInt32 >>> ((16 : Int32) &&& 31).toUInt32).toInt32).toUInt32 >>> ((4 : Int32) &&& 31).toUInt32).toInt32).toUInt32 >>> ((2 : Int32) &&& 31).toUInt32).toInt32))]))
            refine own_istoreN X0 hx (Ls' := #[.val (.int ((((((p1.toUInt32 >>> ((16 : Int32) &&& 31).toUInt32).toInt32).toUInt32 >>> ((4 : Int32) &&& 31).toUInt32).toInt32).toUInt32 >>> ((2 : Int32) &&& 31).toUInt32).toInt32)), .val (.int ((((31 : Int32) + (-16 : Int32)) + (-4 : Int32)) + (-2 : Int32)))]) (hb hby d6_72) rfl ?_
            show Goes _ _ _ _ _ _ (T0.setTop (mkF m 73 #[.val (.int ((((((p1.toUInt32 >>> ((16 : Int32) &&& 31).toUInt32).toInt32).toUInt32 >>> ((4 : Int32) &&& 31).toUInt32).toInt32).toUInt32 >>> ((2 : Int32) &&& 31).toUInt32).toInt32)), .val (.int ((((31 : Int32) + (-16 : Int32)) + (-4 : Int32)) + (-2 : Int32)))] []))
            refine own_iloadN X0 hx (hb hby d6_73) rfl ?_
            show Goes _ _ _ _ _ _ (T0.setTop (mkF m 74 #[.val (.int ((((((p1.toUInt32 >>> ((16 : Int32) &&& 31).toUInt32).toInt32).toUInt32 >>> ((4 : Int32) &&& 31).toUInt32).toInt32).toUInt32 >>> ((2 : Int32) &&& 31).toUInt32).toInt32)), .val (.int ((((31 : Int32) + (-16 : Int32)) + (-4 : Int32)) + (-2 : Int32)))] [(.int ((((31 : Int32) + (-16 : Int32)) + (-4 : Int32)) + (-2 : Int32)))]))
            refine own_iloadN X0 hx (hb hby d6_74) rfl ?_
            show Goes _ _ _ _ _ _ (T0.setTop (mkF m 75 #[.val (.int ((((((p1.toUInt32 >>> ((16 : Int32) &&& 31).toUInt32).toInt32).toUInt32 >>> ((4 : Int32) &&& 31).toUInt32).toInt32).toUInt32 >>> ((2 : Int32) &&& 31).toUInt32).toInt32)), .val (.int ((((31 : Int32) + (-16 : Int32)) + (-4 : Int32)) + (-2 : Int32)))] [(.int ((((((p1.toUInt32 >>> ((16 : Int32) &&& 31).toUInt32).toInt32).toUInt32 >>> ((4 : Int32) &&& 31).toUInt32).toInt32).toUInt32 >>> ((2 : Int32) &&& 31).toUInt32).toInt32)), (.int ((((31 : Int32) + (-16 : Int32)) + (-4 : Int32)) + (-2 : Int32)))]))
            refine own_iconst X0 hx (v := (1 : Int32)) (hb hby d6_75) rfl ?_
            show Goes _ _ _ _ _ _ (T0.setTop (mkF m 76 #[.val (.int ((((((p1.toUInt32 >>> ((16 : Int32) &&& 31).toUInt32).toInt32).toUInt32 >>> ((4 : Int32) &&& 31).toUInt32).toInt32).toUInt32 >>> ((2 : Int32) &&& 31).toUInt32).toInt32)), .val (.int ((((31 : Int32) + (-16 : Int32)) + (-4 : Int32)) + (-2 : Int32)))] [(.int (1 : Int32)), (.int ((((((p1.toUInt32 >>> ((16 : Int32) &&& 31).toUInt32).toInt32).toUInt32 >>> ((4 : Int32) &&& 31).toUInt32).toInt32).toUInt32 >>> ((2 : Int32) &&& 31).toUInt32).toInt32)), (.int ((((31 : Int32) + (-16 : Int32)) + (-4 : Int32)) + (-2 : Int32)))]))
            refine own_iushr X0 hx (hb hby d6_76) ?_
            show Goes _ _ _ _ _ _ (T0.setTop (mkF m 77 #[.val (.int ((((((p1.toUInt32 >>> ((16 : Int32) &&& 31).toUInt32).toInt32).toUInt32 >>> ((4 : Int32) &&& 31).toUInt32).toInt32).toUInt32 >>> ((2 : Int32) &&& 31).toUInt32).toInt32)), .val (.int ((((31 : Int32) + (-16 : Int32)) + (-4 : Int32)) + (-2 : Int32)))] [(.int ((((((((p1.toUInt32 >>> ((16 : Int32) &&& 31).toUInt32).toInt32).toUInt32 >>> ((4 : Int32) &&& 31).toUInt32).toInt32).toUInt32 >>> ((2 : Int32) &&& 31).toUInt32).toInt32).toUInt32 >>> ((1 : Int32) &&& 31).toUInt32).toInt32)), (.int ((((31 : Int32) + (-16 : Int32)) + (-4 : Int32)) + (-2 : Int32)))]))
            refine own_isub X0 hx (hb hby d6_77) ?_
            show Goes _ _ _ _ _ _ (T0.setTop (mkF m 78 #[.val (.int ((((((p1.toUInt32 >>> ((16 : Int32) &&& 31).toUInt32).toInt32).toUInt32 >>> ((4 : Int32) &&& 31).toUInt32).toInt32).toUInt32 >>> ((2 : Int32) &&& 31).toUInt32).toInt32)), .val (.int ((((31 : Int32) + (-16 : Int32)) + (-4 : Int32)) + (-2 : Int32)))] [(.int (((((31 : Int32) + (-16 : Int32)) + (-4 : Int32)) + (-2 : Int32)) - ((((((((p1.toUInt32 >>> ((16 : Int32) &&& 31).toUInt32).toInt32).toUInt32 >>> ((4 : Int32) &&& 31).toUInt32).toInt32).toUInt32 >>> ((2 : Int32) &&& 31).toUInt32).toInt32).toUInt32 >>> ((1 : Int32) &&& 31).toUInt32).toInt32)))]))
            exact own_retI X0 hx N0 hlk (by decide) (by decide) hret (hb hby d6_78) (by rw [e0]; exact Or.inr (⟨(((((31 : Int32) + (-16 : Int32)) + (-4 : Int32)) + (-2 : Int32)) - ((((((((p1.toUInt32 >>> ((16 : Int32) &&& 31).toUInt32).toInt32).toUInt32 >>> ((4 : Int32) &&& 31).toUInt32).toInt32).toUInt32 >>> ((2 : Int32) &&& 31).toUInt32).toInt32).toUInt32 >>> ((1 : Int32) &&& 31).toUInt32).toInt32)), rfl, hc1_1, (own_fin (own_up (q := 2) (kc := -2) 2 (by decide) (by decide) (by decide) (by decide) (own_up (q := 4) (kc := -4) 4 (by decide) (by decide) (by decide) (by decide) (own_dn (k := 8) (own_up (q := 16) (kc := -16) 16 (by decide) (by decide) (by decide) (by decide) (own_NI0 hc1_1) (own_ge (by decide) hc22_2))) (own_ge (by decide) hc51_11)) (own_ge (by decide) hc63_13)) (own_b4 (own_up (q := 4) (kc := -4) 4 (by decide) (by decide) (by decide) (by decide) (own_dn (k := 8) (own_up (q := 16) (kc := -16) 16 (by decide) (by decide) (by decide) (by decide) (own_NI0 hc1_1) (own_ge (by decide) hc22_2))) (own_ge (by decide) hc51_11)) (own_b16 (own_dn (k := 8) (own_up (q := 16) (kc := -16) 16 (by decide) (by decide) (by decide) (by decide) (own_NI0 hc1_1) (own_ge (by decide) hc22_2))) hc37_10))), rfl⟩))
      ·
        refine own_icmpNo X0 hx (hb hby d6_37) (flt (hc37_10 : ¬ (((p1.toUInt32 >>> ((16 : Int32) &&& 31).toUInt32).toInt32) < (256 : Int32)))).1 ?_
        show Goes _ _ _ _ _ _ (T0.setTop (mkF m 40 #[.val (.int ((p1.toUInt32 >>> ((16 : Int32) &&& 31).toUInt32).toInt32)), .val (.int ((31 : Int32) + (-16 : Int32)))] []))
        refine own_iinc X0 hx (Ls' := #[.val (.int ((p1.toUInt32 >>> ((16 : Int32) &&& 31).toUInt32).toInt32)), .val (.int (((31 : Int32) + (-16 : Int32)) + (-8 : Int32)))]) (hb hby d6_40) rfl rfl ?_
        show Goes _ _ _ _ _ _ (T0.setTop (mkF m 43 #[.val (.int ((p1.toUInt32 >>> ((16 : Int32) &&& 31).toUInt32).toInt32)), .val (.int (((31 : Int32) + (-16 : Int32)) + (-8 : Int32)))] []))
        refine own_iloadN X0 hx (hb hby d6_43) rfl ?_
        show Goes _ _ _ _ _ _ (T0.setTop (mkF m 44 #[.val (.int ((p1.toUInt32 >>> ((16 : Int32) &&& 31).toUInt32).toInt32)), .val (.int (((31 : Int32) + (-16 : Int32)) + (-8 : Int32)))] [(.int ((p1.toUInt32 >>> ((16 : Int32) &&& 31).toUInt32).toInt32))]))
        refine own_bipush X0 hx (v := (8 : Int32)) (hb hby d6_44) rfl ?_
        show Goes _ _ _ _ _ _ (T0.setTop (mkF m 46 #[.val (.int ((p1.toUInt32 >>> ((16 : Int32) &&& 31).toUInt32).toInt32)), .val (.int (((31 : Int32) + (-16 : Int32)) + (-8 : Int32)))] [(.int (8 : Int32)), (.int ((p1.toUInt32 >>> ((16 : Int32) &&& 31).toUInt32).toInt32))]))
        refine own_iushr X0 hx (hb hby d6_46) ?_
        show Goes _ _ _ _ _ _ (T0.setTop (mkF m 47 #[.val (.int ((p1.toUInt32 >>> ((16 : Int32) &&& 31).toUInt32).toInt32)), .val (.int (((31 : Int32) + (-16 : Int32)) + (-8 : Int32)))] [(.int ((((p1.toUInt32 >>> ((16 : Int32) &&& 31).toUInt32).toInt32).toUInt32 >>> ((8 : Int32) &&& 31).toUInt32).toInt32))]))
        refine own_istoreN X0 hx (Ls' := #[.val (.int ((((p1.toUInt32 >>> ((16 : Int32) &&& 31).toUInt32).toInt32).toUInt32 >>> ((8 : Int32) &&& 31).toUInt32).toInt32)), .val (.int (((31 : Int32) + (-16 : Int32)) + (-8 : Int32)))]) (hb hby d6_47) rfl ?_
        show Goes _ _ _ _ _ _ (T0.setTop (mkF m 48 #[.val (.int ((((p1.toUInt32 >>> ((16 : Int32) &&& 31).toUInt32).toInt32).toUInt32 >>> ((8 : Int32) &&& 31).toUInt32).toInt32)), .val (.int (((31 : Int32) + (-16 : Int32)) + (-8 : Int32)))] []))
        refine own_iloadN X0 hx (hb hby d6_48) rfl ?_
        show Goes _ _ _ _ _ _ (T0.setTop (mkF m 49 #[.val (.int ((((p1.toUInt32 >>> ((16 : Int32) &&& 31).toUInt32).toInt32).toUInt32 >>> ((8 : Int32) &&& 31).toUInt32).toInt32)), .val (.int (((31 : Int32) + (-16 : Int32)) + (-8 : Int32)))] [(.int ((((p1.toUInt32 >>> ((16 : Int32) &&& 31).toUInt32).toInt32).toUInt32 >>> ((8 : Int32) &&& 31).toUInt32).toInt32))]))
        refine own_bipush X0 hx (v := (16 : Int32)) (hb hby d6_49) rfl ?_
        show Goes _ _ _ _ _ _ (T0.setTop (mkF m 51 #[.val (.int ((((p1.toUInt32 >>> ((16 : Int32) &&& 31).toUInt32).toInt32).toUInt32 >>> ((8 : Int32) &&& 31).toUInt32).toInt32)), .val (.int (((31 : Int32) + (-16 : Int32)) + (-8 : Int32)))] [(.int (16 : Int32)), (.int ((((p1.toUInt32 >>> ((16 : Int32) &&& 31).toUInt32).toInt32).toUInt32 >>> ((8 : Int32) &&& 31).toUInt32).toInt32))]))
        by_cases hc51_14 : ((((p1.toUInt32 >>> ((16 : Int32) &&& 31).toUInt32).toInt32).toUInt32 >>> ((8 : Int32) &&& 31).toUInt32).toInt32) < (16 : Int32)
        ·
          refine own_icmpYes X0 hx (pc' := 61) (hb hby d6_51) (tlt (hc51_14 : ((((p1.toUInt32 >>> ((16 : Int32) &&& 31).toUInt32).toInt32).toUInt32 >>> ((8 : Int32) &&& 31).toUInt32).toInt32) < (16 : Int32))).1 (by decide) (by decide) ?_
          show Goes _ _ _ _ _ _ (T0.setTop (mkF m 61 #[.val (.int ((((p1.toUInt32 >>> ((16 : Int32) &&& 31).toUInt32).toInt32).toUInt32 >>> ((8 : Int32) &&& 31).toUInt32).toInt32)), .val (.int (((31 : Int32) + (-16 : Int32)) + (-8 : Int32)))] []))
          refine own_iloadN X0 hx (hb hby d6_61) rfl ?_
          show Goes _ _ _ _ _ _ (T0.setTop (mkF m 62 #[.val (.int ((((p1.toUInt32 >>> ((16 : Int32) &&& 31).toUInt32).toInt32).toUInt32 >>> ((8 : Int32) &&& 31).toUInt32).toInt32)), .val (.int (((31 : Int32) + (-16 : Int32)) + (-8 : Int32)))] [(.int ((((p1.toUInt32 >>> ((16 : Int32) &&& 31).toUInt32).toInt32).toUInt32 >>> ((8 : Int32) &&& 31).toUInt32).toInt32))]))
          refine own_iconst X0 hx (v := (4 : Int32)) (hb hby d6_62) rfl ?_
          show Goes _ _ _ _ _ _ (T0.setTop (mkF m 63 #[.val (.int ((((p1.toUInt32 >>> ((16 : Int32) &&& 31).toUInt32).toInt32).toUInt32 >>> ((8 : Int32) &&& 31).toUInt32).toInt32)), .val (.int (((31 : Int32) + (-16 : Int32)) + (-8 : Int32)))] [(.int (4 : Int32)), (.int ((((p1.toUInt32 >>> ((16 : Int32) &&& 31).toUInt32).toInt32).toUInt32 >>> ((8 : Int32) &&& 31).toUInt32).toInt32))]))
          by_cases hc63_15 : ((((p1.toUInt32 >>> ((16 : Int32) &&& 31).toUInt32).toInt32).toUInt32 >>> ((8 : Int32) &&& 31).toUInt32).toInt32) < (4 : Int32)
          ·
            refine own_icmpYes X0 hx (pc' := 73) (hb hby d6_63) (tlt (hc63_15 : ((((p1.toUInt32 >>> ((16 : Int32) &&& 31).toUInt32).toInt32).toUInt32 >>> ((8 : Int32) &&& 31).toUInt32).toInt32) < (4 : Int32))).1 (by decide) (by decide) ?_
            show Goes _ _ _ _ _ _ (T0.setTop (mkF m 73 #[.val (.int ((((p1.toUInt32 >>> ((16 : Int32) &&& 31).toUInt32).toInt32).toUInt32 >>> ((8 : Int32) &&& 31).toUInt32).toInt32)), .val (.int (((31 : Int32) + (-16 : Int32)) + (-8 : Int32)))] []))
            refine own_iloadN X0 hx (hb hby d6_73) rfl ?_
            show Goes _ _ _ _ _ _ (T0.setTop (mkF m 74 #[.val (.int ((((p1.toUInt32 >>> ((16 : Int32) &&& 31).toUInt32).toInt32).toUInt32 >>> ((8 : Int32) &&& 31).toUInt32).toInt32)), .val (.int (((31 : Int32) + (-16 : Int32)) + (-8 : Int32)))] [(.int (((31 : Int32) + (-16 : Int32)) + (-8 : Int32)))]))
            refine own_iloadN X0 hx (hb hby d6_74) rfl ?_
            show Goes _ _ _ _ _ _ (T0.setTop (mkF m 75 #[.val (.int ((((p1.toUInt32 >>> ((16 : Int32) &&& 31).toUInt32).toInt32).toUInt32 >>> ((8 : Int32) &&& 31).toUInt32).toInt32)), .val (.int (((31 : Int32) + (-16 : Int32)) + (-8 : Int32)))] [(.int ((((p1.toUInt32 >>> ((16 : Int32) &&& 31).toUInt32).toInt32).toUInt32 >>> ((8 : Int32) &&& 31).toUInt32).toInt32)), (.int (((31 : Int32) + (-16 : Int32)) + (-8 : Int32)))]))
            refine own_iconst X0 hx (v := (1 : Int32)) (hb hby d6_75) rfl ?_
            show Goes _ _ _ _ _ _ (T0.setTop (mkF m 76 #[.val (.int ((((p1.toUInt32 >>> ((16 : Int32) &&& 31).toUInt32).toInt32).toUInt32 >>> ((8 : Int32) &&& 31).toUInt32).toInt32)), .val (.int (((31 : Int32) + (-16 : Int32)) + (-8 : Int32)))] [(.int (1 : Int32)), (.int ((((p1.toUInt32 >>> ((16 : Int32) &&& 31).toUInt32).toInt32).toUInt32 >>> ((8 : Int32) &&& 31).toUInt32).toInt32)), (.int (((31 : Int32) + (-16 : Int32)) + (-8 : Int32)))]))
            refine own_iushr X0 hx (hb hby d6_76) ?_
            show Goes _ _ _ _ _ _ (T0.setTop (mkF m 77 #[.val (.int ((((p1.toUInt32 >>> ((16 : Int32) &&& 31).toUInt32).toInt32).toUInt32 >>> ((8 : Int32) &&& 31).toUInt32).toInt32)), .val (.int (((31 : Int32) + (-16 : Int32)) + (-8 : Int32)))] [(.int ((((((p1.toUInt32 >>> ((16 : Int32) &&& 31).toUInt32).toInt32).toUInt32 >>> ((8 : Int32) &&& 31).toUInt32).toInt32).toUInt32 >>> ((1 : Int32) &&& 31).toUInt32).toInt32)), (.int (((31 : Int32) + (-16 : Int32)) + (-8 : Int32)))]))
            refine own_isub X0 hx (hb hby d6_77) ?_
            show Goes _ _ _ _ _ _ (T0.setTop (mkF m 78 #[.val (.int ((((p1.toUInt32 >>> ((16 : Int32) &&& 31).toUInt32).toInt32).toUInt32 >>> ((8 : Int32) &&& 31).toUInt32).toInt32)), .val (.int (((31 : Int32) + (-16 : Int32)) + (-8 : Int32)))] [(.int ((((31 : Int32) + (-16 : Int32)) + (-8 : Int32)) - ((((((p1.toUInt32 >>> ((16 : Int32) &&& 31).toUInt32).toInt32).toUInt32 >>> ((8 : Int32) &&& 31).toUInt32).toInt32).toUInt32 >>> ((1 : Int32) &&& 31).toUInt32).toInt32)))]))
            exact own_retI X0 hx N0 hlk (by decide) (by decide) hret (hb hby d6_78) (by rw [e0]; exact Or.inr (⟨((((31 : Int32) + (-16 : Int32)) + (-8 : Int32)) - ((((((p1.toUInt32 >>> ((16 : Int32) &&& 31).toUInt32).toInt32).toUInt32 >>> ((8 : Int32) &&& 31).toUInt32).toInt32).toUInt32 >>> ((1 : Int32) &&& 31).toUInt32).toInt32)), rfl, hc1_1, (own_fin (own_dn (k := 2) (own_dn (k := 4) (own_up (q := 8) (kc := -8) 8 (by decide) (by decide) (by decide) (by decide) (own_up (q := 16) (kc := -16) 16 (by decide) (by decide) (by decide) (by decide) (own_NI0 hc1_1) (own_ge (by decide) hc22_2)) (own_ge (by decide) hc37_10)))) (own_lt (by decide) hc63_15)), rfl⟩))
          ·
            refine own_icmpNo X0 hx (hb hby d6_63) (flt (hc63_15 : ¬ (((((p1.toUInt32 >>> ((16 : Int32) &&& 31).toUInt32).toInt32).toUInt32 >>> ((8 : Int32) &&& 31).toUInt32).toInt32) < (4 : Int32)))).1 ?_
            show Goes _ _ _ _ _ _ (T0.setTop (mkF m 66 #[.val (.int ((((p1.toUInt32 >>> ((16 : Int32) &&& 31).toUInt32).toInt32).toUInt32 >>> ((8 : Int32) &&& 31).toUInt32).toInt32)), .val (.int (((31 : Int32) + (-16 : Int32)) + (-8 : Int32)))] []))
            refine own_iinc X0 hx (Ls' := #[.val (.int ((((p1.toUInt32 >>> ((16 : Int32) &&& 31).toUInt32).toInt32).toUInt32 >>> ((8 : Int32) &&& 31).toUInt32).toInt32)), .val (.int ((((31 : Int32) + (-16 : Int32)) + (-8 : Int32)) + (-2 : Int32)))]) (hb hby d6_66) rfl rfl ?_
            show Goes _ _ _ _ _ _ (T0.setTop (mkF m 69 #[.val (.int ((((p1.toUInt32 >>> ((16 : Int32) &&& 31).toUInt32).toInt32).toUInt32 >>> ((8 : Int32) &&& 31).toUInt32).toInt32)), .val (.int ((((31 : Int32) + (-16 : Int32)) + (-8 : Int32)) + (-2 : Int32)))] []))
            refine own_iloadN X0 hx (hb hby d6_69) rfl ?_
            show Goes _ _ _ _ _ _ (T0.setTop (mkF m 70 #[.val (.int ((((p1.toUInt32 >>> ((16 : Int32) &&& 31).toUInt32).toInt32).toUInt32 >>> ((8 : Int32) &&& 31).toUInt32).toInt32)), .val (.int ((((31 : Int32) + (-16 : Int32)) + (-8 : Int32)) + (-2 : Int32)))] [(.int ((((p1.toUInt32 >>> ((16 : Int32) &&& 31).toUInt32).toInt32).toUInt32 >>> ((8 : Int32) &&& 31).toUInt32).toInt32))]))
            refine own_iconst X0 hx (v := (2 : Int32)) (hb hby d6_70) rfl ?_
            show Goes _ _ _ _ _ _ (T0.setTop (mkF m 71 #[.val (.int ((((p1.toUInt32 >>> ((16 : Int32) &&& 31).toUInt32).toInt32).toUInt32 >>> ((8 : Int32) &&& 31).toUInt32).toInt32)), .val (.int ((((31 : Int32) + (-16 : Int32)) + (-8 : Int32)) + (-2 : Int32)))] [(.int (2 : Int32)), (.int ((((p1.toUInt32 >>> ((16 : Int32) &&& 31).toUInt32).toInt32).toUInt32 >>> ((8 : Int32) &&& 31).toUInt32).toInt32))]))
            refine own_iushr X0 hx (hb hby d6_71) ?_
            show Goes _ _ _ _ _ _ (T0.setTop (mkF m 72 #[.val (.int ((((p1.toUInt32 >>> ((16 : Int32) &&& 31).toUInt32).toInt32).toUInt32 >>> ((8 : Int32) &&& 31).toUInt32).toInt32)), .val (.int ((((31 : Int32) + (-16 : Int32)) + (-8 : Int32)) + (-2 : Int32)))] [(.int ((((((p1.toUInt32 >>> ((16 : Int32) &&& 31).toUInt32).toInt32).toUInt32 >>> ((8 : Int32) &&& 31).toUInt32).toInt32).toUInt32 >>> ((2 : Int32) &&& 31).toUInt32).toInt32))]))
            refine own_istoreN X0 hx (Ls' := #[.val (.int ((((((p1.toUInt32 >>> ((16 : Int32) &&& 31).toUInt32).toInt32).toUInt32 >>> ((8 : Int32) &&& 31).toUInt32).toInt32).toUInt32 >>> ((2 : Int32) &&& 31).toUInt32).toInt32)), .val (.int ((((31 : Int32) + (-16 : Int32)) + (-8 : Int32)) + (-2 : Int32)))]) (hb hby d6_72) rfl ?_
            show Goes _ _ _ _ _ _ (T0.setTop (mkF m 73 #[.val (.int ((((((p1.toUInt32 >>> ((16 : Int32) &&& 31).toUInt32).toInt32).toUInt32 >>> ((8 : Int32) &&& 31).toUInt32).toInt32).toUInt32 >>> ((2 : Int32) &&& 31).toUInt32).toInt32)), .val (.int ((((31 : Int32) + (-16 : Int32)) + (-8 : Int32)) + (-2 : Int32)))] []))
            refine own_iloadN X0 hx (hb hby d6_73) rfl ?_
            show Goes _ _ _ _ _ _ (T0.setTop (mkF m 74 #[.val (.int ((((((p1.toUInt32 >>> ((16 : Int32) &&& 31).toUInt32).toInt32).toUInt32 >>> ((8 : Int32) &&& 31).toUInt32).toInt32).toUInt32 >>> ((2 : Int32) &&& 31).toUInt32).toInt32)), .val (.int ((((31 : Int32) + (-16 : Int32)) + (-8 : Int32)) + (-2 : Int32)))] [(.int ((((31 : Int32) + (-16 : Int32)) + (-8 : Int32)) + (-2 : Int32)))]))
            refine own_iloadN X0 hx (hb hby d6_74) rfl ?_
            show Goes _ _ _ _ _ _ (T0.setTop (mkF m 75 #[.val (.int ((((((p1.toUInt32 >>> ((16 : Int32) &&& 31).toUInt32).toInt32).toUInt32 >>> ((8 : Int32) &&& 31).toUInt32).toInt32).toUInt32 >>> ((2 : Int32) &&& 31).toUInt32).toInt32)), .val (.int ((((31 : Int32) + (-16 : Int32)) + (-8 : Int32)) + (-2 : Int32)))] [(.int ((((((p1.toUInt32 >>> ((16 : Int32) &&& 31).toUInt32).toInt32).toUInt32 >>> ((8 : Int32) &&& 31).toUInt32).toInt32).toUInt32 >>> ((2 : Int32) &&& 31).toUInt32).toInt32)), (.int ((((31 : Int32) + (-16 : Int32)) + (-8 : Int32)) + (-2 : Int32)))]))
            refine own_iconst X0 hx (v := (1 : Int32)) (hb hby d6_75) rfl ?_
            show Goes _ _ _ _ _ _ (T0.setTop (mkF m 76 #[.val (.int ((((((p1.toUInt32 >>> ((16 : Int32) &&& 31).toUInt32).toInt32).toUInt32 >>> ((8 : Int32) &&& 31).toUInt32).toInt32).toUInt32 >>> ((2 : Int32) &&& 31).toUInt32).toInt32)), .val (.int ((((31 : Int32) + (-16 : Int32)) + (-8 : Int32)) + (-2 : Int32)))] [(.int (1 : Int32)), (.int ((((((p1.toUInt32 >>> ((16 : Int32) &&& 31).toUInt32).toInt32).toUInt32 >>> ((8 : Int32) &&& 31).toUInt32).toInt32).toUInt32 >>> ((2 : Int32) &&& 31).toUInt32).toInt32)), (.int ((((31 : Int32) + (-16 : Int32)) + (-8 : Int32)) + (-2 : Int32)))]))
            refine own_iushr X0 hx (hb hby d6_76) ?_
            show Goes _ _ _ _ _ _ (T0.setTop (mkF m 77 #[.val (.int ((((((p1.toUInt32 >>> ((16 : Int32) &&& 31).toUInt32).toInt32).toUInt32 >>> ((8 : Int32) &&& 31).toUInt32).toInt32).toUInt32 >>> ((2 : Int32) &&& 31).toUInt32).toInt32)), .val (.int ((((31 : Int32) + (-16 : Int32)) + (-8 : Int32)) + (-2 : Int32)))] [(.int ((((((((p1.toUInt32 >>> ((16 : Int32) &&& 31).toUInt32).toInt32).toUInt32 >>> ((8 : Int32) &&& 31).toUInt32).toInt32).toUInt32 >>> ((2 : Int32) &&& 31).toUInt32).toInt32).toUInt32 >>> ((1 : Int32) &&& 31).toUInt32).toInt32)), (.int ((((31 : Int32) + (-16 : Int32)) + (-8 : Int32)) + (-2 : Int32)))]))
            refine own_isub X0 hx (hb hby d6_77) ?_
            show Goes _ _ _ _ _ _ (T0.setTop (mkF m 78 #[.val (.int ((((((p1.toUInt32 >>> ((16 : Int32) &&& 31).toUInt32).toInt32).toUInt32 >>> ((8 : Int32) &&& 31).toUInt32).toInt32).toUInt32 >>> ((2 : Int32) &&& 31).toUInt32).toInt32)), .val (.int ((((31 : Int32) + (-16 : Int32)) + (-8 : Int32)) + (-2 : Int32)))] [(.int (((((31 : Int32) + (-16 : Int32)) + (-8 : Int32)) + (-2 : Int32)) - ((((((((p1.toUInt32 >>> ((16 : Int32) &&& 31).toUInt32).toInt32).toUInt32 >>> ((8 : Int32) &&& 31).toUInt32).toInt32).toUInt32 >>> ((2 : Int32) &&& 31).toUInt32).toInt32).toUInt32 >>> ((1 : Int32) &&& 31).toUInt32).toInt32)))]))
            exact own_retI X0 hx N0 hlk (by decide) (by decide) hret (hb hby d6_78) (by rw [e0]; exact Or.inr (⟨(((((31 : Int32) + (-16 : Int32)) + (-8 : Int32)) + (-2 : Int32)) - ((((((((p1.toUInt32 >>> ((16 : Int32) &&& 31).toUInt32).toInt32).toUInt32 >>> ((8 : Int32) &&& 31).toUInt32).toInt32).toUInt32 >>> ((2 : Int32) &&& 31).toUInt32).toInt32).toUInt32 >>> ((1 : Int32) &&& 31).toUInt32).toInt32)), rfl, hc1_1, (own_fin (own_up (q := 2) (kc := -2) 2 (by decide) (by decide) (by decide) (by decide) (own_dn (k := 4) (own_up (q := 8) (kc := -8) 8 (by decide) (by decide) (by decide) (by decide) (own_up (q := 16) (kc := -16) 16 (by decide) (by decide) (by decide) (by decide) (own_NI0 hc1_1) (own_ge (by decide) hc22_2)) (own_ge (by decide) hc37_10))) (own_ge (by decide) hc63_15)) (own_b4 (own_dn (k := 4) (own_up (q := 8) (kc := -8) 8 (by decide) (by decide) (by decide) (by decide) (own_up (q := 16) (kc := -16) 16 (by decide) (by decide) (by decide) (by decide) (own_NI0 hc1_1) (own_ge (by decide) hc22_2)) (own_ge (by decide) hc37_10))) hc51_14)), rfl⟩))
        ·
          refine own_icmpNo X0 hx (hb hby d6_51) (flt (hc51_14 : ¬ (((((p1.toUInt32 >>> ((16 : Int32) &&& 31).toUInt32).toInt32).toUInt32 >>> ((8 : Int32) &&& 31).toUInt32).toInt32) < (16 : Int32)))).1 ?_
          show Goes _ _ _ _ _ _ (T0.setTop (mkF m 54 #[.val (.int ((((p1.toUInt32 >>> ((16 : Int32) &&& 31).toUInt32).toInt32).toUInt32 >>> ((8 : Int32) &&& 31).toUInt32).toInt32)), .val (.int (((31 : Int32) + (-16 : Int32)) + (-8 : Int32)))] []))
          refine own_iinc X0 hx (Ls' := #[.val (.int ((((p1.toUInt32 >>> ((16 : Int32) &&& 31).toUInt32).toInt32).toUInt32 >>> ((8 : Int32) &&& 31).toUInt32).toInt32)), .val (.int ((((31 : Int32) + (-16 : Int32)) + (-8 : Int32)) + (-4 : Int32)))]) (hb hby d6_54) rfl rfl ?_
          show Goes _ _ _ _ _ _ (T0.setTop (mkF m 57 #[.val (.int ((((p1.toUInt32 >>> ((16 : Int32) &&& 31).toUInt32).toInt32).toUInt32 >>> ((8 : Int32) &&& 31).toUInt32).toInt32)), .val (.int ((((31 : Int32) + (-16 : Int32)) + (-8 : Int32)) + (-4 : Int32)))] []))
          refine own_iloadN X0 hx (hb hby d6_57) rfl ?_
          show Goes _ _ _ _ _ _ (T0.setTop (mkF m 58 #[.val (.int ((((p1.toUInt32 >>> ((16 : Int32) &&& 31).toUInt32).toInt32).toUInt32 >>> ((8 : Int32) &&& 31).toUInt32).toInt32)), .val (.int ((((31 : Int32) + (-16 : Int32)) + (-8 : Int32)) + (-4 : Int32)))] [(.int ((((p1.toUInt32 >>> ((16 : Int32) &&& 31).toUInt32).toInt32).toUInt32 >>> ((8 : Int32) &&& 31).toUInt32).toInt32))]))
          refine own_iconst X0 hx (v := (4 : Int32)) (hb hby d6_58) rfl ?_
          show Goes _ _ _ _ _ _ (T0.setTop (mkF m 59 #[.val (.int ((((p1.toUInt32 >>> ((16 : Int32) &&& 31).toUInt32).toInt32).toUInt32 >>> ((8 : Int32) &&& 31).toUInt32).toInt32)), .val (.int ((((31 : Int32) + (-16 : Int32)) + (-8 : Int32)) + (-4 : Int32)))] [(.int (4 : Int32)), (.int ((((p1.toUInt32 >>> ((16 : Int32) &&& 31).toUInt32).toInt32).toUInt32 >>> ((8 : Int32) &&& 31).toUInt32).toInt32))]))
          refine own_iushr X0 hx (hb hby d6_59) ?_
          show Goes _ _ _ _ _ _ (T0.setTop (mkF m 60 #[.val (.int ((((p1.toUInt32 >>> ((16 : Int32) &&& 31).toUInt32).toInt32).toUInt32 >>> ((8 : Int32) &&& 31).toUInt32).toInt32)), .val (.int ((((31 : Int32) + (-16 : Int32)) + (-8 : Int32)) + (-4 : Int32)))] [(.int ((((((p1.toUInt32 >>> ((16 : Int32) &&& 31).toUInt32).toInt32).toUInt32 >>> ((8 : Int32) &&& 31).toUInt32).toInt32).toUInt32 >>> ((4 : Int32) &&& 31).toUInt32).toInt32))]))
          refine own_istoreN X0 hx (Ls' := #[.val (.int ((((((p1.toUInt32 >>> ((16 : Int32) &&& 31).toUInt32).toInt32).toUInt32 >>> ((8 : Int32) &&& 31).toUInt32).toInt32).toUInt32 >>> ((4 : Int32) &&& 31).toUInt32).toInt32)), .val (.int ((((31 : Int32) + (-16 : Int32)) + (-8 : Int32)) + (-4 : Int32)))]) (hb hby d6_60) rfl ?_
          show Goes _ _ _ _ _ _ (T0.setTop (mkF m 61 #[.val (.int ((((((p1.toUInt32 >>> ((16 : Int32) &&& 31).toUInt32).toInt32).toUInt32 >>> ((8 : Int32) &&& 31).toUInt32).toInt32).toUInt32 >>> ((4 : Int32) &&& 31).toUInt32).toInt32)), .val (.int ((((31 : Int32) + (-16 : Int32)) + (-8 : Int32)) + (-4 : Int32)))] []))
          refine own_iloadN X0 hx (hb hby d6_61) rfl ?_
          show Goes _ _ _ _ _ _ (T0.setTop (mkF m 62 #[.val (.int ((((((p1.toUInt32 >>> ((16 : Int32) &&& 31).toUInt32).toInt32).toUInt32 >>> ((8 : Int32) &&& 31).toUInt32).toInt32).toUInt32 >>> ((4 : Int32) &&& 31).toUInt32).toInt32)), .val (.int ((((31 : Int32) + (-16 : Int32)) + (-8 : Int32)) + (-4 : Int32)))] [(.int ((((((p1.toUInt32 >>> ((16 : Int32) &&& 31).toUInt32).toInt32).toUInt32 >>> ((8 : Int32) &&& 31).toUInt32).toInt32).toUInt32 >>> ((4 : Int32) &&& 31).toUInt32).toInt32))]))
          refine own_iconst X0 hx (v := (4 : Int32)) (hb hby d6_62) rfl ?_
          show Goes _ _ _ _ _ _ (T0.setTop (mkF m 63 #[.val (.int ((((((p1.toUInt32 >>> ((16 : Int32) &&& 31).toUInt32).toInt32).toUInt32 >>> ((8 : Int32) &&& 31).toUInt32).toInt32).toUInt32 >>> ((4 : Int32) &&& 31).toUInt32).toInt32)), .val (.int ((((31 : Int32) + (-16 : Int32)) + (-8 : Int32)) + (-4 : Int32)))] [(.int (4 : Int32)), (.int ((((((p1.toUInt32 >>> ((16 : Int32) &&& 31).toUInt32).toInt32).toUInt32 >>> ((8 : Int32) &&& 31).toUInt32).toInt32).toUInt32 >>> ((4 : Int32) &&& 31).toUInt32).toInt32))]))
          by_cases hc63_16 : ((((((p1.toUInt32 >>> ((16 : Int32) &&& 31).toUInt32).toInt32).toUInt32 >>> ((8 : Int32) &&& 31).toUInt32).toInt32).toUInt32 >>> ((4 : Int32) &&& 31).toUInt32).toInt32) < (4 : Int32)
          ·
            refine own_icmpYes X0 hx (pc' := 73) (hb hby d6_63) (tlt (hc63_16 : ((((((p1.toUInt32 >>> ((16 : Int32) &&& 31).toUInt32).toInt32).toUInt32 >>> ((8 : Int32) &&& 31).toUInt32).toInt32).toUInt32 >>> ((4 : Int32) &&& 31).toUInt32).toInt32) < (4 : Int32))).1 (by decide) (by decide) ?_
            show Goes _ _ _ _ _ _ (T0.setTop (mkF m 73 #[.val (.int ((((((p1.toUInt32 >>> ((16 : Int32) &&& 31).toUInt32).toInt32).toUInt32 >>> ((8 : Int32) &&& 31).toUInt32).toInt32).toUInt32 >>> ((4 : Int32) &&& 31).toUInt32).toInt32)), .val (.int ((((31 : Int32) + (-16 : Int32)) + (-8 : Int32)) + (-4 : Int32)))] []))
            refine own_iloadN X0 hx (hb hby d6_73) rfl ?_
            show Goes _ _ _ _ _ _ (T0.setTop (mkF m 74 #[.val (.int ((((((p1.toUInt32 >>> ((16 : Int32) &&& 31).toUInt32).toInt32).toUInt32 >>> ((8 : Int32) &&& 31).toUInt32).toInt32).toUInt32 >>> ((4 : Int32) &&& 31).toUInt32).toInt32)), .val (.int ((((31 : Int32) + (-16 : Int32)) + (-8 : Int32)) + (-4 : Int32)))] [(.int ((((31 : Int32) + (-16 : Int32)) + (-8 : Int32)) + (-4 : Int32)))]))
            refine own_iloadN X0 hx (hb hby d6_74) rfl ?_
            show Goes _ _ _ _ _ _ (T0.setTop (mkF m 75 #[.val (.int ((((((p1.toUInt32 >>> ((16 : Int32) &&& 31).toUInt32).toInt32).toUInt32 >>> ((8 : Int32) &&& 31).toUInt32).toInt32).toUInt32 >>> ((4 : Int32) &&& 31).toUInt32).toInt32)), .val (.int ((((31 : Int32) + (-16 : Int32)) + (-8 : Int32)) + (-4 : Int32)))] [(.int ((((((p1.toUInt32 >>> ((16 : Int32) &&& 31).toUInt32).toInt32).toUInt32 >>> ((8 : Int32) &&& 31).toUInt32).toInt32).toUInt32 >>> ((4 : Int32) &&& 31).toUInt32).toInt32)), (.int ((((31 : Int32) + (-16 : Int32)) + (-8 : Int32)) + (-4 : Int32)))]))
            refine own_iconst X0 hx (v := (1 : Int32)) (hb hby d6_75) rfl ?_
            show Goes _ _ _ _ _ _ (T0.setTop (mkF m 76 #[.val (.int ((((((p1.toUInt32 >>> ((16 : Int32) &&& 31).toUInt32).toInt32).toUInt32 >>> ((8 : Int32) &&& 31).toUInt32).toInt32).toUInt32 >>> ((4 : Int32) &&& 31).toUInt32).toInt32)), .val (.int ((((31 : Int32) + (-16 : Int32)) + (-8 : Int32)) + (-4 : Int32)))] [(.int (1 : Int32)), (.int ((((((p1.toUInt32 >>> ((16 : Int32) &&& 31).toUInt32).toInt32).toUInt32 >>> ((8 : Int32) &&& 31).toUInt32).toInt32).toUInt32 >>> ((4 : Int32) &&& 31).toUInt32).toInt32)), (.int ((((31 : Int32) + (-16 : Int32)) + (-8 : Int32)) + (-4 : Int32)))]))
            refine own_iushr X0 hx (hb hby d6_76) ?_
            show Goes _ _ _ _ _ _ (T0.setTop (mkF m 77 #[.val (.int ((((((p1.toUInt32 >>> ((16 : Int32) &&& 31).toUInt32).toInt32).toUInt32 >>> ((8 : Int32) &&& 31).toUInt32).toInt32).toUInt32 >>> ((4 : Int32) &&& 31).toUInt32).toInt32)), .val (.int ((((31 : Int32) + (-16 : Int32)) + (-8 : Int32)) + (-4 : Int32)))] [(.int ((((((((p1.toUInt32 >>> ((16 : Int32) &&& 31).toUInt32).toInt32).toUInt32 >>> ((8 : Int32) &&& 31).toUInt32).toInt32).toUInt32 >>> ((4 : Int32) &&& 31).toUInt32).toInt32).toUInt32 >>> ((1 : Int32) &&& 31).toUInt32).toInt32)), (.int ((((31 : Int32) + (-16 : Int32)) + (-8 : Int32)) + (-4 : Int32)))]))
            refine own_isub X0 hx (hb hby d6_77) ?_
            show Goes _ _ _ _ _ _ (T0.setTop (mkF m 78 #[.val (.int ((((((p1.toUInt32 >>> ((16 : Int32) &&& 31).toUInt32).toInt32).toUInt32 >>> ((8 : Int32) &&& 31).toUInt32).toInt32).toUInt32 >>> ((4 : Int32) &&& 31).toUInt32).toInt32)), .val (.int ((((31 : Int32) + (-16 : Int32)) + (-8 : Int32)) + (-4 : Int32)))] [(.int (((((31 : Int32) + (-16 : Int32)) + (-8 : Int32)) + (-4 : Int32)) - ((((((((p1.toUInt32 >>> ((16 : Int32) &&& 31).toUInt32).toInt32).toUInt32 >>> ((8 : Int32) &&& 31).toUInt32).toInt32).toUInt32 >>> ((4 : Int32) &&& 31).toUInt32).toInt32).toUInt32 >>> ((1 : Int32) &&& 31).toUInt32).toInt32)))]))
            exact own_retI X0 hx N0 hlk (by decide) (by decide) hret (hb hby d6_78) (by rw [e0]; exact Or.inr (⟨(((((31 : Int32) + (-16 : Int32)) + (-8 : Int32)) + (-4 : Int32)) - ((((((((p1.toUInt32 >>> ((16 : Int32) &&& 31).toUInt32).toInt32).toUInt32 >>> ((8 : Int32) &&& 31).toUInt32).toInt32).toUInt32 >>> ((4 : Int32) &&& 31).toUInt32).toInt32).toUInt32 >>> ((1 : Int32) &&& 31).toUInt32).toInt32)), rfl, hc1_1, (own_fin (own_dn (k := 2) (own_up (q := 4) (kc := -4) 4 (by decide) (by decide) (by decide) (by decide) (own_up (q := 8) (kc := -8) 8 (by decide) (by decide) (by decide) (by decide) (own_up (q := 16) (kc := -16) 16 (by decide) (by decide) (by decide) (by decide) (own_NI0 hc1_1) (own_ge (by decide) hc22_2)) (own_ge (by decide) hc37_10)) (own_ge (by decide) hc51_14))) (own_lt (by decide) hc63_16)), rfl⟩))
          ·
            refine own_icmpNo X0 hx (hb hby d6_63) (flt (hc63_16 : ¬ (((((((p1.toUInt32 >>> ((16 : Int32) &&& 31).toUInt32).toInt32).toUInt32 >>> ((8 : Int32) &&& 31).toUInt32).toInt32).toUInt32 >>> ((4 : Int32) &&& 31).toUInt32).toInt32) < (4 : Int32)))).1 ?_
            show Goes _ _ _ _ _ _ (T0.setTop (mkF m 66 #[.val (.int ((((((p1.toUInt32 >>> ((16 : Int32) &&& 31).toUInt32).toInt32).toUInt32 >>> ((8 : Int32) &&& 31).toUInt32).toInt32).toUInt32 >>> ((4 : Int32) &&& 31).toUInt32).toInt32)), .val (.int ((((31 : Int32) + (-16 : Int32)) + (-8 : Int32)) + (-4 : Int32)))] []))
            refine own_iinc X0 hx (Ls' := #[.val (.int ((((((p1.toUInt32 >>> ((16 : Int32) &&& 31).toUInt32).toInt32).toUInt32 >>> ((8 : Int32) &&& 31).toUInt32).toInt32).toUInt32 >>> ((4 : Int32) &&& 31).toUInt32).toInt32)), .val (.int (((((31 : Int32) + (-16 : Int32)) + (-8 : Int32)) + (-4 : Int32)) + (-2 : Int32)))]) (hb hby d6_66) rfl rfl ?_
            show Goes _ _ _ _ _ _ (T0.setTop (mkF m 69 #[.val (.int ((((((p1.toUInt32 >>> ((16 : Int32) &&& 31).toUInt32).toInt32).toUInt32 >>> ((8 : Int32) &&& 31).toUInt32).toInt32).toUInt32 >>> ((4 : Int32) &&& 31).toUInt32).toInt32)), .val (.int (((((31 : Int32) + (-16 : Int32)) + (-8 : Int32)) + (-4 : Int32)) + (-2 : Int32)))] []))
            refine own_iloadN X0 hx (hb hby d6_69) rfl ?_
            show Goes _ _ _ _ _ _ (T0.setTop (mkF m 70 #[.val (.int ((((((p1.toUInt32 >>> ((16 : Int32) &&& 31).toUInt32).toInt32).toUInt32 >>> ((8 : Int32) &&& 31).toUInt32).toInt32).toUInt32 >>> ((4 : Int32) &&& 31).toUInt32).toInt32)), .val (.int (((((31 : Int32) + (-16 : Int32)) + (-8 : Int32)) + (-4 : Int32)) + (-2 : Int32)))] [(.int ((((((p1.toUInt32 >>> ((16 : Int32) &&& 31).toUInt32).toInt32).toUInt32 >>> ((8 : Int32) &&& 31).toUInt32).toInt32).toUInt32 >>> ((4 : Int32) &&& 31).toUInt32).toInt32))]))
            refine own_iconst X0 hx (v := (2 : Int32)) (hb hby d6_70) rfl ?_
            show Goes _ _ _ _ _ _ (T0.setTop (mkF m 71 #[.val (.int ((((((p1.toUInt32 >>> ((16 : Int32) &&& 31).toUInt32).toInt32).toUInt32 >>> ((8 : Int32) &&& 31).toUInt32).toInt32).toUInt32 >>> ((4 : Int32) &&& 31).toUInt32).toInt32)), .val (.int (((((31 : Int32) + (-16 : Int32)) + (-8 : Int32)) + (-4 : Int32)) + (-2 : Int32)))] [(.int (2 : Int32)), (.int ((((((p1.toUInt32 >>> ((16 : Int32) &&& 31).toUInt32).toInt32).toUInt32 >>> ((8 : Int32) &&& 31).toUInt32).toInt32).toUInt32 >>> ((4 : Int32) &&& 31).toUInt32).toInt32))]))
            refine own_iushr X0 hx (hb hby d6_71) ?_
            show Goes _ _ _ _ _ _ (T0.setTop (mkF m 72 #[.val (.int ((((((p1.toUInt32 >>> ((16 : Int32) &&& 31).toUInt32).toInt32).toUInt32 >>> ((8 : Int32) &&& 31).toUInt32).toInt32).toUInt32 >>> ((4 : Int32) &&& 31).toUInt32).toInt32)), .val (.int (((((31 : Int32) + (-16 : Int32)) + (-8 : Int32)) + (-4 : Int32)) + (-2 : Int32)))] [(.int ((((((((p1.toUInt32 >>> ((16 : Int32) &&& 31).toUInt32).toInt32).toUInt32 >>> ((8 : Int32) &&& 31).toUInt32).toInt32).toUInt32 >>> ((4 : Int32) &&& 31).toUInt32).toInt32).toUInt32 >>> ((2 : Int32) &&& 31).toUInt32).toInt32))]))
            refine own_istoreN X0 hx (Ls' := #[.val (.int ((((((((p1.toUInt32 >>> ((16 : Int32) &&& 31).toUInt32).toInt32).toUInt32 >>> ((8 : Int32) &&& 31).toUInt32).toInt32).toUInt32 >>> ((4 : Int32) &&& 31).toUInt32).toInt32).toUInt32 >>> ((2 : Int32) &&& 31).toUInt32).toInt32)), .val (.int (((((31 : Int32) + (-16 : Int32)) + (-8 : Int32)) + (-4 : Int32)) + (-2 : Int32)))]) (hb hby d6_72) rfl ?_
            show Goes _ _ _ _ _ _ (T0.setTop (mkF m 73 #[.val (.int ((((((((p1.toUInt32 >>> ((16 : Int32) &&& 31).toUInt32).toInt32).toUInt32 >>> ((8 : Int32) &&& 31).toUInt32).toInt32).toUInt32 >>> ((4 : Int32) &&& 31).toUInt32).toInt32).toUInt32 >>> ((2 : Int32) &&& 31).toUInt32).toInt32)), .val (.int (((((31 : Int32) + (-16 : Int32)) + (-8 : Int32)) + (-4 : Int32)) + (-2 : Int32)))] []))
            refine own_iloadN X0 hx (hb hby d6_73) rfl ?_
            show Goes _ _ _ _ _ _ (T0.setTop (mkF m 74 #[.val (.int ((((((((p1.toUInt32 >>> ((16 : Int32) &&& 31).toUInt32).toInt32).toUInt32 >>> ((8 : Int32) &&& 31).toUInt32).toInt32).toUInt32 >>> ((4 : Int32) &&& 31).toUInt32).toInt32).toUInt32 >>> ((2 : Int32) &&& 31).toUInt32).toInt32)), .val (.int (((((31 : Int32) + (-16 : Int32)) + (-8 : Int32)) + (-4 : Int32)) + (-2 : Int32)))] [(.int (((((31 : Int32) + (-16 : Int32)) + (-8 : Int32)) + (-4 : Int32)) + (-2 : Int32)))]))
            refine own_iloadN X0 hx (hb hby d6_74) rfl ?_
            show Goes _ _ _ _ _ _ (T0.setTop (mkF m 75 #[.val (.int ((((((((p1.toUInt32 >>> ((16 : Int32) &&& 31).toUInt32).toInt32).toUInt32 >>> ((8 : Int32) &&& 31).toUInt32).toInt32).toUInt32 >>> ((4 : Int32) &&& 31).toUInt32).toInt32).toUInt32 >>> ((2 : Int32) &&& 31).toUInt32).toInt32)), .val (.int (((((31 : Int32) + (-16 : Int32)) + (-8 : Int32)) + (-4 : Int32)) + (-2 : Int32)))] [(.int ((((((((p1.toUInt32 >>> ((16 : Int32) &&& 31).toUInt32).toInt32).toUInt32 >>> ((8 : Int32) &&& 31).toUInt32).toInt32).toUInt32 >>> ((4 : Int32) &&& 31).toUInt32).toInt32).toUInt32 >>> ((2 : Int32) &&& 31).toUInt32).toInt32)), (.int (((((31 : Int32) + (-16 : Int32)) + (-8 : Int32)) + (-4 : Int32)) + (-2 : Int32)))]))
            refine own_iconst X0 hx (v := (1 : Int32)) (hb hby d6_75) rfl ?_
            show Goes _ _ _ _ _ _ (T0.setTop (mkF m 76 #[.val (.int ((((((((p1.toUInt32 >>> ((16 : Int32) &&& 31).toUInt32).toInt32).toUInt32 >>> ((8 : Int32) &&& 31).toUInt32).toInt32).toUInt32 >>> ((4 : Int32) &&& 31).toUInt32).toInt32).toUInt32 >>> ((2 : Int32) &&& 31).toUInt32).toInt32)), .val (.int (((((31 : Int32) + (-16 : Int32)) + (-8 : Int32)) + (-4 : Int32)) + (-2 : Int32)))] [(.int (1 : Int32)), (.int ((((((((p1.toUInt32 >>> ((16 : Int32) &&& 31).toUInt32).toInt32).toUInt32 >>> ((8 : Int32) &&& 31).toUInt32).toInt32).toUInt32 >>> ((4 : Int32) &&& 31).toUInt32).toInt32).toUInt32 >>> ((2 : Int32) &&& 31).toUInt32).toInt32)), (.int (((((31 : Int32) + (-16 : Int32)) + (-8 : Int32)) + (-4 : Int32)) + (-2 : Int32)))]))
            refine own_iushr X0 hx (hb hby d6_76) ?_
            show Goes _ _ _ _ _ _ (T0.setTop (mkF m 77 #[.val (.int ((((((((p1.toUInt32 >>> ((16 : Int32) &&& 31).toUInt32).toInt32).toUInt32 >>> ((8 : Int32) &&& 31).toUInt32).toInt32).toUInt32 >>> ((4 : Int32) &&& 31).toUInt32).toInt32).toUInt32 >>> ((2 : Int32) &&& 31).toUInt32).toInt32)), .val (.int (((((31 : Int32) + (-16 : Int32)) + (-8 : Int32)) + (-4 : Int32)) + (-2 : Int32)))] [(.int ((((((((((p1.toUInt32 >>> ((16 : Int32) &&& 31).toUInt32).toInt32).toUInt32 >>> ((8 : Int32) &&& 31).toUInt32).toInt32).toUInt32 >>> ((4 : Int32) &&& 31).toUInt32).toInt32).toUInt32 >>> ((2 : Int32) &&& 31).toUInt32).toInt32).toUInt32 >>> ((1 : Int32) &&& 31).toUInt32).toInt32)), (.int (((((31 : Int32) + (-16 : Int32)) + (-8 : Int32)) + (-4 : Int32)) + (-2 : Int32)))]))
            refine own_isub X0 hx (hb hby d6_77) ?_
            show Goes _ _ _ _ _ _ (T0.setTop (mkF m 78 #[.val (.int ((((((((p1.toUInt32 >>> ((16 : Int32) &&& 31).toUInt32).toInt32).toUInt32 >>> ((8 : Int32) &&& 31).toUInt32).toInt32).toUInt32 >>> ((4 : Int32) &&& 31).toUInt32).toInt32).toUInt32 >>> ((2 : Int32) &&& 31).toUInt32).toInt32)), .val (.int (((((31 : Int32) + (-16 : Int32)) + (-8 : Int32)) + (-4 : Int32)) + (-2 : Int32)))] [(.int ((((((31 : Int32) + (-16 : Int32)) + (-8 : Int32)) + (-4 : Int32)) + (-2 : Int32)) - ((((((((((p1.toUInt32 >>> ((16 : Int32) &&& 31).toUInt32).toInt32).toUInt32 >>> ((8 : Int32) &&& 31).toUInt32).toInt32).toUInt32 >>> ((4 : Int32) &&& 31).toUInt32).toInt32).toUInt32 >>> ((2 : Int32) &&& 31).toUInt32).toInt32).toUInt32 >>> ((1 : Int32) &&& 31).toUInt32).toInt32)))]))
            exact own_retI X0 hx N0 hlk (by decide) (by decide) hret (hb hby d6_78) (by rw [e0]; exact Or.inr (⟨((((((31 : Int32) + (-16 : Int32)) + (-8 : Int32)) + (-4 : Int32)) + (-2 : Int32)) - ((((((((((p1.toUInt32 >>> ((16 : Int32) &&& 31).toUInt32).toInt32).toUInt32 >>> ((8 : Int32) &&& 31).toUInt32).toInt32).toUInt32 >>> ((4 : Int32) &&& 31).toUInt32).toInt32).toUInt32 >>> ((2 : Int32) &&& 31).toUInt32).toInt32).toUInt32 >>> ((1 : Int32) &&& 31).toUInt32).toInt32)), rfl, hc1_1, (own_fin (own_up (q := 2) (kc := -2) 2 (by decide) (by decide) (by decide) (by decide) (own_up (q := 4) (kc := -4) 4 (by decide) (by decide) (by decide) (by decide) (own_up (q := 8) (kc := -8) 8 (by decide) (by decide) (by decide) (by decide) (own_up (q := 16) (kc := -16) 16 (by decide) (by decide) (by decide) (by decide) (own_NI0 hc1_1) (own_ge (by decide) hc22_2)) (own_ge (by decide) hc37_10)) (own_ge (by decide) hc51_14)) (own_ge (by decide) hc63_16)) (own_b4 (own_up (q := 4) (kc := -4) 4 (by decide) (by decide) (by decide) (by decide) (own_up (q := 8) (kc := -8) 8 (by decide) (by decide) (by decide) (by decide) (own_up (q := 16) (kc := -16) 16 (by decide) (by decide) (by decide) (by decide) (own_NI0 hc1_1) (own_ge (by decide) hc22_2)) (own_ge (by decide) hc37_10)) (own_ge (by decide) hc51_14)) (own_b16 (own_up (q := 8) (kc := -8) 8 (by decide) (by decide) (by decide) (by decide) (own_up (q := 16) (kc := -16) 16 (by decide) (by decide) (by decide) (by decide) (own_NI0 hc1_1) (own_ge (by decide) hc22_2)) (own_ge (by decide) hc37_10)) (own_b256 (own_up (q := 16) (kc := -16) 16 (by decide) (by decide) (by decide) (by decide) (own_NI0 hc1_1) (own_ge (by decide) hc22_2)) (own_b65536 (own_NI0 hc1_1)))))), rfl⟩))
  ·
    refine own_ifNo X0 hx (hb hby d6_1) ((if0 _ _).trans (flt (hc1_1 : ¬ ((0 : Int32) < p1))).2.2.1) ?_
    show Goes _ _ _ _ _ _ (T0.setTop (mkF m 4 #[.val (.int p1), .unset] []))
    refine own_iloadN X0 hx (hb hby d6_4) rfl ?_
    show Goes _ _ _ _ _ _ (T0.setTop (mkF m 5 #[.val (.int p1), .unset] [(.int p1)]))
    refine own_ifYes X0 hx (pc' := 13) (hb hby d6_5) ((if0 _ _).trans (feq (hnz : ¬ (p1 = (0 : Int32)))).2) (by decide) (by decide) ?_
    show Goes _ _ _ _ _ _ (T0.setTop (mkF m 13 #[.val (.int p1), .unset] []))
    refine own_iconst X0 hx (v := (0 : Int32)) (hb hby d6_13) rfl ?_
    show Goes _ _ _ _ _ _ (T0.setTop (mkF m 14 #[.val (.int p1), .unset] [(.int (0 : Int32))]))
    exact own_retI X0 hx N0 hlk (by decide) (by decide) hret (hb hby d6_14) (by rw [e0]; exact Or.inl ⟨rfl, (own_neg hc1_1 hnz), rfl⟩)
theorem d5_0 : decode jdk_35_method_48_code 0 = .ok (.lload_n 0, 1) := by decide +kernel
theorem d5_1 : decode jdk_35_method_48_code 1 = .ok (.bipush 32, 2) := by decide +kernel
theorem d5_3 : decode jdk_35_method_48_code 3 = .ok (.lushr, 1) := by decide +kernel
theorem d5_4 : decode jdk_35_method_48_code 4 = .ok (.l2i, 1) := by decide +kernel
theorem d5_5 : decode jdk_35_method_48_code 5 = .ok (.istore_n 2, 1) := by decide +kernel
theorem d5_6 : decode jdk_35_method_48_code 6 = .ok (.iload_n 2, 1) := by decide +kernel
theorem d5_7 : decode jdk_35_method_48_code 7 = .ok (.ifCond .ne 14, 3) := by decide +kernel
theorem d5_10 : decode jdk_35_method_48_code 10 = .ok (.bipush 32, 2) := by decide +kernel
theorem d5_12 : decode jdk_35_method_48_code 12 = .ok (.lload_n 0, 1) := by decide +kernel
theorem d5_13 : decode jdk_35_method_48_code 13 = .ok (.l2i, 1) := by decide +kernel
theorem d5_14 : decode jdk_35_method_48_code 14 = .ok (.invokestatic 308, 3) := by decide +kernel
theorem pd_0 : parseMethodDescriptor "(I)I" = some ⟨[.int], some .int⟩ := by decide +kernel
theorem d5_17 : decode jdk_35_method_48_code 17 = .ok (.iadd, 1) := by decide +kernel
theorem d5_18 : decode jdk_35_method_48_code 18 = .ok (.goto 7, 3) := by decide +kernel
theorem d5_25 : decode jdk_35_method_48_code 25 = .ok (.ireturn, 1) := by decide +kernel
theorem d5_21 : decode jdk_35_method_48_code 21 = .ok (.iload_n 2, 1) := by decide +kernel
theorem d5_22 : decode jdk_35_method_48_code 22 = .ok (.invokestatic 308, 3) := by decide +kernel
theorem pn_1 : plainName "java/lang/Long" = true := by first | (simp [plainName, overriddenIn]; done) | decide +kernel
def Q5 (Z : State) (q1 : Int64) (h0 : Heap) (n0 : Nat) (v : Option Value) (h : Heap) : Prop :=
  (∃ (m : Int32), v = some (.int m) ∧ NlzL q1 m ∧ h = h0)
theorem ef_5 (m : MethodId) (q1 : Int64) : entryFrame m #[(.long q1)] 3 = mkF m 0 #[.val (.long q1), .second, .unset] [] := by first | (simp [entryFrame, mkF, argsToLocals, Value.category]; done) | rfl
set_option maxRecDepth 65536 in
set_option maxHeartbeats 40000000 in
theorem rm5 (l : Launch) (Z : State) (a0 : Array Value) (hw : ∀ d ∈ tables_1, d.before a0 Z = true) (ws : List Jvm.Cond) (q1 : Int64) (h0 : Heap) (n0 : Nat) (O0 : Old Z n0 h0) (hpos : (0 : Int64) < q1) :
    Meets l (⟨"java/lang/Long", "numberOfLeadingZeros", "(J)I"⟩ : MethodName) jdk_35_method_48_code 3 (some .int) ws ({ frames := 1, cells := 0, slots := 0, locals := 14 } : Room) ({ frames := 1, cells := 0, slots := 0, locals := 14 } : Room).cells ({ frames := 1, cells := 0, slots := 0, locals := 14 } : Room).slots Z #[(.long q1)] h0 n0 (Q5 Z q1 h0 n0) := by
  refine Meets.of (F := fun m => mkF m 0 #[.val (.long q1), .second, .unset] []) (plainFor_of_name pn_1) (fun m => ef_5 m q1) ?_
  intro p e s m below meth c T0 hx hby hml hown0 hnm hret hlk hZ X0 e0
  have hown : s.vm.findClass "java/lang/Long" = some m.cls := hown0
  have N0 := Fr.nil n0
  show Goes _ _ _ _ _ _ (T0.setTop (mkF m 0 #[.val (.long q1), .second, .unset] []))
  refine own_lloadN X0 hx (hb hby d5_0) rfl ?_
  show Goes _ _ _ _ _ _ (T0.setTop (mkF m 1 #[.val (.long q1), .second, .unset] [(.long q1)]))
  refine own_bipush X0 hx (v := (32 : Int32)) (hb hby d5_1) rfl ?_
  show Goes _ _ _ _ _ _ (T0.setTop (mkF m 3 #[.val (.long q1), .second, .unset] [(.int (32 : Int32)), (.long q1)]))
  refine own_lushr X0 hx (hb hby d5_3) ?_
  show Goes _ _ _ _ _ _ (T0.setTop (mkF m 4 #[.val (.long q1), .second, .unset] [(.long ((q1.toUInt64 >>> ((32 : Int32) &&& 0x3f).toInt64.toUInt64).toInt64))]))
  refine own_l2i X0 hx (hb hby d5_4) ?_
  show Goes _ _ _ _ _ _ (T0.setTop (mkF m 5 #[.val (.long q1), .second, .unset] [(.int (((q1.toUInt64 >>> ((32 : Int32) &&& 0x3f).toInt64.toUInt64).toInt64).toInt32))]))
  refine own_istoreN X0 hx (Ls' := #[.val (.long q1), .second, .val (.int (((q1.toUInt64 >>> ((32 : Int32) &&& 0x3f).toInt64.toUInt64).toInt64).toInt32))]) (hb hby d5_5) rfl ?_
  show Goes _ _ _ _ _ _ (T0.setTop (mkF m 6 #[.val (.long q1), .second, .val (.int (((q1.toUInt64 >>> ((32 : Int32) &&& 0x3f).toInt64.toUInt64).toInt64).toInt32))] []))
  refine own_iloadN X0 hx (hb hby d5_6) rfl ?_
  show Goes _ _ _ _ _ _ (T0.setTop (mkF m 7 #[.val (.long q1), .second, .val (.int (((q1.toUInt64 >>> ((32 : Int32) &&& 0x3f).toInt64.toUInt64).toInt64).toInt32))] [(.int (((q1.toUInt64 >>> ((32 : Int32) &&& 0x3f).toInt64.toUInt64).toInt64).toInt32))]))
  by_cases hc7_1 : (((q1.toUInt64 >>> ((32 : Int32) &&& 0x3f).toInt64.toUInt64).toInt64).toInt32) = (0 : Int32)
  ·
    refine own_ifNo X0 hx (hb hby d5_7) ((if0 _ _).trans (teq (hc7_1 : (((q1.toUInt64 >>> ((32 : Int32) &&& 0x3f).toInt64.toUInt64).toInt64).toInt32) = (0 : Int32))).2) ?_
    show Goes _ _ _ _ _ _ (T0.setTop (mkF m 10 #[.val (.long q1), .second, .val (.int (((q1.toUInt64 >>> ((32 : Int32) &&& 0x3f).toInt64.toUInt64).toInt64).toInt32))] []))
    refine own_bipush X0 hx (v := (32 : Int32)) (hb hby d5_10) rfl ?_
    show Goes _ _ _ _ _ _ (T0.setTop (mkF m 12 #[.val (.long q1), .second, .val (.int (((q1.toUInt64 >>> ((32 : Int32) &&& 0x3f).toInt64.toUInt64).toInt64).toInt32))] [(.int (32 : Int32))]))
    refine own_lloadN X0 hx (hb hby d5_12) rfl ?_
    show Goes _ _ _ _ _ _ (T0.setTop (mkF m 13 #[.val (.long q1), .second, .val (.int (((q1.toUInt64 >>> ((32 : Int32) &&& 0x3f).toInt64.toUInt64).toInt64).toInt32))] [(.long q1), (.int (32 : Int32))]))
    refine own_l2i X0 hx (hb hby d5_13) ?_
    show Goes _ _ _ _ _ _ (T0.setTop (mkF m 14 #[.val (.long q1), .second, .val (.int (((q1.toUInt64 >>> ((32 : Int32) &&& 0x3f).toInt64.toUInt64).toInt64).toInt32))] [(.int (q1.toInt32)), (.int (32 : Int32))]))
    refine own_callS X0 hx hZ hown (y := (⟨"java/lang/Integer", "numberOfLeadingZeros", "(I)I"⟩ : MethodName)) (hw _ (List.mem_of_getElem? (i := 30) rfl)) (hw _ (List.mem_of_getElem? (i := 31) rfl)) (hw _ (List.mem_of_getElem? (i := 32) rfl)) (hw _ (List.mem_of_getElem? (i := 33) rfl)) (by decide) (W := 1) (by decide) (by decide) N0 e0 (by rw [hml]; rfl) (argsL := [(.int (q1.toInt32))]) (rest := [(.int (32 : Int32))]) (lenOf pd_0 rfl) (Nat.le_of_eq rfl) (by decide) (by decide) (rm6 l Z a0 hw [] (q1.toInt32) h0 n0 O0 (own_lonz hpos hc7_1)) rfl (hb hby d5_14) ?_
    intro v2 T2 lc2 X2 N2 hQ2
    rcases hQ2 with hQ2_0 | hQ2_1
    ·
      obtain ⟨rfl, hq2_0_0, e2⟩ := hQ2_0
      show Goes _ _ _ _ _ _ (T2.setTop (mkF m 17 #[.val (.long q1), .second, .val (.int (((q1.toUInt64 >>> ((32 : Int32) &&& 0x3f).toInt64.toUInt64).toInt64).toInt32))] [(.int (0 : Int32)), (.int (32 : Int32))]))
      refine own_iadd X2 hx (hb hby d5_17) ?_
      show Goes _ _ _ _ _ _ (T2.setTop (mkF m 18 #[.val (.long q1), .second, .val (.int (((q1.toUInt64 >>> ((32 : Int32) &&& 0x3f).toInt64.toUInt64).toInt64).toInt32))] [(.int ((32 : Int32) + (0 : Int32)))]))
      refine own_goto X2 hx (pc' := 25) (hb hby d5_18) (by decide) (by decide) ?_
      show Goes _ _ _ _ _ _ (T2.setTop (mkF m 25 #[.val (.long q1), .second, .val (.int (((q1.toUInt64 >>> ((32 : Int32) &&& 0x3f).toInt64.toUInt64).toInt64).toInt32))] [(.int ((32 : Int32) + (0 : Int32)))]))
      exact own_retI X2 hx N2 hlk (by decide) (by decide) hret (hb hby d5_25) (by rw [e2]; exact ⟨((32 : Int32) + (0 : Int32)), rfl, (own_xneg hpos hc7_1 hq2_0_0), rfl⟩)
    ·
      obtain ⟨m_2, rfl, hq2_1_0, hq2_1_1, e2⟩ := hQ2_1
      show Goes _ _ _ _ _ _ (T2.setTop (mkF m 17 #[.val (.long q1), .second, .val (.int (((q1.toUInt64 >>> ((32 : Int32) &&& 0x3f).toInt64.toUInt64).toInt64).toInt32))] [(.int m_2), (.int (32 : Int32))]))
      refine own_iadd X2 hx (hb hby d5_17) ?_
      show Goes _ _ _ _ _ _ (T2.setTop (mkF m 18 #[.val (.long q1), .second, .val (.int (((q1.toUInt64 >>> ((32 : Int32) &&& 0x3f).toInt64.toUInt64).toInt64).toInt32))] [(.int ((32 : Int32) + m_2))]))
      refine own_goto X2 hx (pc' := 25) (hb hby d5_18) (by decide) (by decide) ?_
      show Goes _ _ _ _ _ _ (T2.setTop (mkF m 25 #[.val (.long q1), .second, .val (.int (((q1.toUInt64 >>> ((32 : Int32) &&& 0x3f).toInt64.toUInt64).toInt64).toInt32))] [(.int ((32 : Int32) + m_2))]))
      exact own_retI X2 hx N2 hlk (by decide) (by decide) hret (hb hby d5_25) (by rw [e2]; exact ⟨((32 : Int32) + m_2), rfl, (own_xpos hpos hc7_1 hq2_1_1), rfl⟩)
  ·
    refine own_ifYes X0 hx (pc' := 21) (hb hby d5_7) ((if0 _ _).trans (feq (hc7_1 : ¬ ((((q1.toUInt64 >>> ((32 : Int32) &&& 0x3f).toInt64.toUInt64).toInt64).toInt32) = (0 : Int32)))).2) (by decide) (by decide) ?_
    show Goes _ _ _ _ _ _ (T0.setTop (mkF m 21 #[.val (.long q1), .second, .val (.int (((q1.toUInt64 >>> ((32 : Int32) &&& 0x3f).toInt64.toUInt64).toInt64).toInt32))] []))
    refine own_iloadN X0 hx (hb hby d5_21) rfl ?_
    show Goes _ _ _ _ _ _ (T0.setTop (mkF m 22 #[.val (.long q1), .second, .val (.int (((q1.toUInt64 >>> ((32 : Int32) &&& 0x3f).toInt64.toUInt64).toInt64).toInt32))] [(.int (((q1.toUInt64 >>> ((32 : Int32) &&& 0x3f).toInt64.toUInt64).toInt64).toInt32))]))
    refine own_callS X0 hx hZ hown (y := (⟨"java/lang/Integer", "numberOfLeadingZeros", "(I)I"⟩ : MethodName)) (hw _ (List.mem_of_getElem? (i := 30) rfl)) (hw _ (List.mem_of_getElem? (i := 31) rfl)) (hw _ (List.mem_of_getElem? (i := 32) rfl)) (hw _ (List.mem_of_getElem? (i := 33) rfl)) (by decide) (W := 0) (by decide) (by decide) N0 e0 (by rw [hml]; rfl) (argsL := [(.int (((q1.toUInt64 >>> ((32 : Int32) &&& 0x3f).toInt64.toUInt64).toInt64).toInt32))]) (rest := []) (lenOf pd_0 rfl) (Nat.le_of_eq rfl) (by decide) (by decide) (rm6 l Z a0 hw [] (((q1.toUInt64 >>> ((32 : Int32) &&& 0x3f).toInt64.toUInt64).toInt64).toInt32) h0 n0 O0 hc7_1) rfl (hb hby d5_22) ?_
    intro v3 T3 lc3 X3 N3 hQ3
    rcases hQ3 with hQ3_0 | hQ3_1
    ·
      obtain ⟨rfl, hq3_0_0, e3⟩ := hQ3_0
      exact (own_hineg hpos hq3_0_0).elim
    ·
      obtain ⟨m_3, rfl, hq3_1_0, hq3_1_1, e3⟩ := hQ3_1
      show Goes _ _ _ _ _ _ (T3.setTop (mkF m 25 #[.val (.long q1), .second, .val (.int (((q1.toUInt64 >>> ((32 : Int32) &&& 0x3f).toInt64.toUInt64).toInt64).toInt32))] [(.int m_3)]))
      exact own_retI X3 hx N3 hlk (by decide) (by decide) hret (hb hby d5_25) (by rw [e3]; exact ⟨m_3, rfl, (own_hi2 hpos hq3_1_1), rfl⟩)
theorem d4_0 : decode prog_22_method_7_code 0 = .ok (.lload_n 0, 1) := by decide +kernel
theorem d4_1 : decode prog_22_method_7_code 1 = .ok (.lconst 0, 1) := by decide +kernel
theorem d4_2 : decode prog_22_method_7_code 2 = .ok (.lcmp, 1) := by decide +kernel
theorem d4_3 : decode prog_22_method_7_code 3 = .ok (.ifCond .eq 26, 3) := by decide +kernel
theorem d4_29 : decode prog_22_method_7_code 29 = .ok (.lload_n 0, 1) := by decide +kernel
theorem d4_30 : decode prog_22_method_7_code 30 = .ok (.iload_n 2, 1) := by decide +kernel
theorem d4_31 : decode prog_22_method_7_code 31 = .ok (.lshl, 1) := by decide +kernel
theorem d4_32 : decode prog_22_method_7_code 32 = .ok (.lreturn, 1) := by decide +kernel
theorem d4_6 : decode prog_22_method_7_code 6 = .ok (.iload_n 2, 1) := by decide +kernel
theorem d4_7 : decode prog_22_method_7_code 7 = .ok (.lload_n 0, 1) := by decide +kernel
theorem d4_8 : decode prog_22_method_7_code 8 = .ok (.invokestatic 66, 3) := by decide +kernel
theorem pd_1 : parseMethodDescriptor "(J)I" = some ⟨[.long], some .int⟩ := by decide +kernel
theorem d4_11 : decode prog_22_method_7_code 11 = .ok (.if_icmp .lt 18, 3) := by decide +kernel
theorem pn_2 : plainName "com/example/lease/lease/model/RetryBackoff" = true := by first | (simp [plainName, overriddenIn]; done) | decide +kernel
def Q4 (Z : State) (q1 : Int64) (p2 : Int32) (h0 : Heap) (n0 : Nat) (v : Option Value) (h : Heap) : Prop :=
  (v = some (.long (q1 <<< (p2 &&& 0x3f).toInt64)) ∧ h = h0)
theorem ef_4 (m : MethodId) (q1 : Int64) (p2 : Int32) : entryFrame m #[(.long q1), (.int p2)] 3 = mkF m 0 #[.val (.long q1), .second, .val (.int p2)] [] := by first | (simp [entryFrame, mkF, argsToLocals, Value.category]; done) | rfl
set_option maxRecDepth 65536 in
set_option maxHeartbeats 40000000 in
theorem rm4 (l : Launch) (Z : State) (a0 : Array Value) (hw : ∀ d ∈ tables_1, d.before a0 Z = true) (ws : List Jvm.Cond) (q1 : Int64) (p2 : Int32) (h0 : Heap) (n0 : Nat) (O0 : Old Z n0 h0) (hD : Dbl q1 p2) :
    Meets l (⟨"com/example/lease/lease/model/RetryBackoff", "doubled", "(JI)J"⟩ : MethodName) prog_22_method_7_code 3 (some .long) ws ({ frames := 2, cells := 0, slots := 0, locals := 29 } : Room) ({ frames := 2, cells := 0, slots := 0, locals := 29 } : Room).cells ({ frames := 2, cells := 0, slots := 0, locals := 29 } : Room).slots Z #[(.long q1), (.int p2)] h0 n0 (Q4 Z q1 p2 h0 n0) := by
  refine Meets.of (F := fun m => mkF m 0 #[.val (.long q1), .second, .val (.int p2)] []) (plainFor_of_name pn_2) (fun m => ef_4 m q1 p2) ?_
  intro p e s m below meth c T0 hx hby hml hown0 hnm hret hlk hZ X0 e0
  have hown : s.vm.findClass "com/example/lease/lease/model/RetryBackoff" = some m.cls := hown0
  have N0 := Fr.nil n0
  show Goes _ _ _ _ _ _ (T0.setTop (mkF m 0 #[.val (.long q1), .second, .val (.int p2)] []))
  refine own_lloadN X0 hx (hb hby d4_0) rfl ?_
  show Goes _ _ _ _ _ _ (T0.setTop (mkF m 1 #[.val (.long q1), .second, .val (.int p2)] [(.long q1)]))
  refine own_lconst X0 hx (v := (0 : Int64)) (hb hby d4_1) rfl ?_
  show Goes _ _ _ _ _ _ (T0.setTop (mkF m 2 #[.val (.long q1), .second, .val (.int p2)] [(.long (0 : Int64)), (.long q1)]))
  refine own_lcmp X0 hx (hb hby d4_2) ?_
  show Goes _ _ _ _ _ _ (T0.setTop (mkF m 3 #[.val (.long q1), .second, .val (.int p2)] [(.int (lcmpW q1 (0 : Int64)))]))
  by_cases hc3_1 : q1 = (0 : Int64)
  ·
    refine own_ifYes X0 hx (pc' := 29) (hb hby d4_3) ((if0 _ _).trans (teq (((lw_eq _ _).mpr hc3_1) : (lcmpW q1 (0 : Int64)) = (0 : Int32))).1) (by decide) (by decide) ?_
    show Goes _ _ _ _ _ _ (T0.setTop (mkF m 29 #[.val (.long q1), .second, .val (.int p2)] []))
    refine own_lloadN X0 hx (hb hby d4_29) rfl ?_
    show Goes _ _ _ _ _ _ (T0.setTop (mkF m 30 #[.val (.long q1), .second, .val (.int p2)] [(.long q1)]))
    refine own_iloadN X0 hx (hb hby d4_30) rfl ?_
    show Goes _ _ _ _ _ _ (T0.setTop (mkF m 31 #[.val (.long q1), .second, .val (.int p2)] [(.int p2), (.long q1)]))
    refine own_lshl X0 hx (hb hby d4_31) ?_
    show Goes _ _ _ _ _ _ (T0.setTop (mkF m 32 #[.val (.long q1), .second, .val (.int p2)] [(.long (q1 <<< (p2 &&& 0x3f).toInt64))]))
    exact own_retJ X0 hx N0 hlk (by decide) (by decide) hret (hb hby d4_32) (by rw [e0]; exact ⟨rfl, rfl⟩)
  ·
    refine own_ifNo X0 hx (hb hby d4_3) ((if0 _ _).trans (feq ((fun q => hc3_1 ((lw_eq _ _).mp q)) : ¬ ((lcmpW q1 (0 : Int64)) = (0 : Int32)))).1) ?_
    show Goes _ _ _ _ _ _ (T0.setTop (mkF m 6 #[.val (.long q1), .second, .val (.int p2)] []))
    refine own_iloadN X0 hx (hb hby d4_6) rfl ?_
    show Goes _ _ _ _ _ _ (T0.setTop (mkF m 7 #[.val (.long q1), .second, .val (.int p2)] [(.int p2)]))
    refine own_lloadN X0 hx (hb hby d4_7) rfl ?_
    show Goes _ _ _ _ _ _ (T0.setTop (mkF m 8 #[.val (.long q1), .second, .val (.int p2)] [(.long q1), (.int p2)]))
    refine own_callS X0 hx hZ hown (y := (⟨"java/lang/Long", "numberOfLeadingZeros", "(J)I"⟩ : MethodName)) (hw _ (List.mem_of_getElem? (i := 26) rfl)) (hw _ (List.mem_of_getElem? (i := 27) rfl)) (hw _ (List.mem_of_getElem? (i := 28) rfl)) (hw _ (List.mem_of_getElem? (i := 29) rfl)) (by decide) (W := 1) (by decide) (by decide) N0 e0 (by rw [hml]; rfl) (argsL := [(.long q1)]) (rest := [(.int p2)]) (lenOf pd_1 rfl) (Nat.le_of_eq rfl) (by decide) (by decide) (rm5 l Z a0 hw [] q1 h0 n0 O0 (own_dpos hD hc3_1)) rfl (hb hby d4_8) ?_
    intro v2 T2 lc2 X2 N2 hQ2
    obtain ⟨m_2, rfl, hq2_0, e2⟩ := hQ2
    show Goes _ _ _ _ _ _ (T2.setTop (mkF m 11 #[.val (.long q1), .second, .val (.int p2)] [(.int m_2), (.int p2)]))
    refine own_icmpYes X2 hx (pc' := 29) (hb hby d4_11) (tlt ((own_dl hD hc3_1 hq2_0) : p2 < m_2)).1 (by decide) (by decide) ?_
    show Goes _ _ _ _ _ _ (T2.setTop (mkF m 29 #[.val (.long q1), .second, .val (.int p2)] []))
    refine own_lloadN X2 hx (hb hby d4_29) rfl ?_
    show Goes _ _ _ _ _ _ (T2.setTop (mkF m 30 #[.val (.long q1), .second, .val (.int p2)] [(.long q1)]))
    refine own_iloadN X2 hx (hb hby d4_30) rfl ?_
    show Goes _ _ _ _ _ _ (T2.setTop (mkF m 31 #[.val (.long q1), .second, .val (.int p2)] [(.int p2), (.long q1)]))
    refine own_lshl X2 hx (hb hby d4_31) ?_
    show Goes _ _ _ _ _ _ (T2.setTop (mkF m 32 #[.val (.long q1), .second, .val (.int p2)] [(.long (q1 <<< (p2 &&& 0x3f).toInt64))]))
    exact own_retJ X2 hx N2 hlk (by decide) (by decide) hret (hb hby d4_32) (by rw [e2]; exact ⟨rfl, rfl⟩)
theorem d3_0 : decode jdk_37_method_2_code 0 = .ok (.aload_n 0, 1) := by decide +kernel
theorem d3_1 : decode jdk_37_method_2_code 1 = .ok (.getfield 7, 3) := by decide +kernel
theorem d3_4 : decode jdk_37_method_2_code 4 = .ok (.ireturn, 1) := by decide +kernel
theorem pn_3 : plainName "java/lang/Enum" = true := by first | (simp [plainName, overriddenIn]; done) | decide +kernel
def Q3 (Z : State) (a1 : Addr) (w : Int32) (h0 : Heap) (n0 : Nat) (v : Option Value) (h : Heap) : Prop :=
  (v = some (.int w) ∧ h = h0)
theorem ef_3 (m : MethodId) (a1 : Addr) : entryFrame m #[(.ref a1)] 1 = mkF m 0 #[.val (.ref a1)] [] := by first | (simp [entryFrame, mkF, argsToLocals, Value.category]; done) | rfl
set_option maxRecDepth 65536 in
set_option maxHeartbeats 40000000 in
theorem rm3 (l : Launch) (Z : State) (a0 : Array Value) (hw : ∀ d ∈ tables_1, d.before a0 Z = true) (ws : List Jvm.Cond) (a1 : Addr) (w : Int32) (h0 : Heap) (n0 : Nat) (O0 : Old Z n0 h0) (f0 : Fld Z h0 a1 "java/lang/Enum" "ordinal" "I" (.int w)) :
    Meets l (⟨"java/lang/Enum", "ordinal", "()I"⟩ : MethodName) jdk_37_method_2_code 1 (some .int) ws ({ frames := 0, cells := 0, slots := 0, locals := 0 } : Room) ({ frames := 0, cells := 0, slots := 0, locals := 0 } : Room).cells ({ frames := 0, cells := 0, slots := 0, locals := 0 } : Room).slots Z #[(.ref a1)] h0 n0 (Q3 Z a1 w h0 n0) := by
  refine Meets.of (F := fun m => mkF m 0 #[.val (.ref a1)] []) (plainFor_of_name pn_3) (fun m => ef_3 m a1) ?_
  intro p e s m below meth c T0 hx hby hml hown0 hnm hret hlk hZ X0 e0
  have hown : s.vm.findClass "java/lang/Enum" = some m.cls := hown0
  have N0 := Fr.nil n0
  show Goes _ _ _ _ _ _ (T0.setTop (mkF m 0 #[.val (.ref a1)] []))
  refine own_aloadN X0 hx (hb hby d3_0) rfl rfl ?_
  show Goes _ _ _ _ _ _ (T0.setTop (mkF m 1 #[.val (.ref a1)] [(.ref a1)]))
  refine own_getF X0 hx hZ hown (host := "") (Or.inl (hw _ (List.mem_of_getElem? (i := 21) rfl))) Via.refl e0 f0 (hb hby d3_1) (fun T1 X1 e1 => ?_)
  show Goes _ _ _ _ _ _ (T1.setTop (mkF m 4 #[.val (.ref a1)] [(.int w)]))
  exact own_retI X1 hx N0 hlk (by decide) (by decide) hret (hb hby d3_4) (by rw [e1]; exact ⟨rfl, rfl⟩)
theorem d2_0 : decode prog_22_method_6_code 0 = .ok (.iload_n 1, 1) := by decide +kernel
theorem d2_1 : decode prog_22_method_6_code 1 = .ok (.iconst 1, 1) := by decide +kernel
theorem d2_2 : decode prog_22_method_6_code 2 = .ok (.if_icmp .ge 17, 3) := by decide +kernel
theorem d2_19 : decode prog_22_method_6_code 19 = .ok (.lload_n 2, 1) := by decide +kernel
theorem d2_20 : decode prog_22_method_6_code 20 = .ok (.lconst 0, 1) := by decide +kernel
theorem d2_21 : decode prog_22_method_6_code 21 = .ok (.lcmp, 1) := by decide +kernel
theorem d2_22 : decode prog_22_method_6_code 22 = .ok (.ifCond .ge 17, 3) := by decide +kernel
theorem d2_39 : decode prog_22_method_6_code 39 = .ok (.aload_n 0, 1) := by decide +kernel
theorem d2_40 : decode prog_22_method_6_code 40 = .ok (.invokevirtual 53, 3) := by decide +kernel
theorem pd_2 : parseMethodDescriptor "()I" = some ⟨[], some .int⟩ := by decide +kernel
theorem d2_43 : decode prog_22_method_6_code 43 = .ok (.lookupswitch 25 #[(0, 35), (1, 45)], 25) := by decide +kernel
theorem d2_88 : decode prog_22_method_6_code 88 = .ok (.lload_n 2, 1) := by decide +kernel
theorem d2_89 : decode prog_22_method_6_code 89 = .ok (.lreturn, 1) := by decide +kernel
def Q2F (Z : State) (a1 : Addr) (p2 : Int32) (q3 : Int64) (h0 : Heap) (n0 : Nat) (v : Option Value) (h : Heap) : Prop :=
  (v = some (.long q3) ∧ h = h0)
theorem ef_2F (m : MethodId) (a1 : Addr) (p2 : Int32) (q3 : Int64) : entryFrame m #[(.ref a1), (.int p2), (.long q3)] 4 = mkF m 0 #[.val (.ref a1), .val (.int p2), .val (.long q3), .second] [] := by first | (simp [entryFrame, mkF, argsToLocals, Value.category]; done) | rfl
set_option maxRecDepth 65536 in
set_option maxHeartbeats 40000000 in
theorem rm2F (l : Launch) (Z : State) (a0 : Array Value) (hw : ∀ d ∈ tables_1, d.before a0 Z = true) (ws : List Jvm.Cond) (a1 : Addr) (p2 : Int32) (q3 : Int64) (h0 : Heap) (n0 : Nat) (O0 : Old Z n0 h0) (f0 : Exa Z h0 a1 "com/example/lease/lease/model/RetryBackoff") (hp1 : ¬ (p2 < (1 : Int32))) (hq0 : ¬ (q3 < (0 : Int64))) (f3 : Fld Z h0 a1 "java/lang/Enum" "ordinal" "I" (.int (1 : Int32))) :
    Meets l (⟨"com/example/lease/lease/model/RetryBackoff", "delaySeconds", "(IJ)J"⟩ : MethodName) prog_22_method_6_code 4 (some .long) ws ({ frames := 1, cells := 0, slots := 0, locals := 12 } : Room) ({ frames := 1, cells := 0, slots := 0, locals := 12 } : Room).cells ({ frames := 1, cells := 0, slots := 0, locals := 12 } : Room).slots Z #[(.ref a1), (.int p2), (.long q3)] h0 n0 (Q2F Z a1 p2 q3 h0 n0) := by
  refine Meets.of (F := fun m => mkF m 0 #[.val (.ref a1), .val (.int p2), .val (.long q3), .second] []) (plainFor_of_name pn_2) (fun m => ef_2F m a1 p2 q3) ?_
  intro p e s m below meth c T0 hx hby hml hown0 hnm hret hlk hZ X0 e0
  have hown : s.vm.findClass "com/example/lease/lease/model/RetryBackoff" = some m.cls := hown0
  have N0 := Fr.nil n0
  show Goes _ _ _ _ _ _ (T0.setTop (mkF m 0 #[.val (.ref a1), .val (.int p2), .val (.long q3), .second] []))
  refine own_iloadN X0 hx (hb hby d2_0) rfl ?_
  show Goes _ _ _ _ _ _ (T0.setTop (mkF m 1 #[.val (.ref a1), .val (.int p2), .val (.long q3), .second] [(.int p2)]))
  refine own_iconst X0 hx (v := (1 : Int32)) (hb hby d2_1) rfl ?_
  show Goes _ _ _ _ _ _ (T0.setTop (mkF m 2 #[.val (.ref a1), .val (.int p2), .val (.long q3), .second] [(.int (1 : Int32)), (.int p2)]))
  refine own_icmpYes X0 hx (pc' := 19) (hb hby d2_2) (flt (hp1 : ¬ (p2 < (1 : Int32)))).2.1 (by decide) (by decide) ?_
  show Goes _ _ _ _ _ _ (T0.setTop (mkF m 19 #[.val (.ref a1), .val (.int p2), .val (.long q3), .second] []))
  refine own_lloadN X0 hx (hb hby d2_19) rfl ?_
  show Goes _ _ _ _ _ _ (T0.setTop (mkF m 20 #[.val (.ref a1), .val (.int p2), .val (.long q3), .second] [(.long q3)]))
  refine own_lconst X0 hx (v := (0 : Int64)) (hb hby d2_20) rfl ?_
  show Goes _ _ _ _ _ _ (T0.setTop (mkF m 21 #[.val (.ref a1), .val (.int p2), .val (.long q3), .second] [(.long (0 : Int64)), (.long q3)]))
  refine own_lcmp X0 hx (hb hby d2_21) ?_
  show Goes _ _ _ _ _ _ (T0.setTop (mkF m 22 #[.val (.ref a1), .val (.int p2), .val (.long q3), .second] [(.int (lcmpW q3 (0 : Int64)))]))
  refine own_ifYes X0 hx (pc' := 39) (hb hby d2_22) ((if0 _ _).trans (flt ((fun q => hq0 ((lw_lt _ _).mp q)) : ¬ ((lcmpW q3 (0 : Int64)) < (0 : Int32)))).2.1) (by decide) (by decide) ?_
  show Goes _ _ _ _ _ _ (T0.setTop (mkF m 39 #[.val (.ref a1), .val (.int p2), .val (.long q3), .second] []))
  refine own_aloadN X0 hx (hb hby d2_39) rfl rfl ?_
  show Goes _ _ _ _ _ _ (T0.setTop (mkF m 40 #[.val (.ref a1), .val (.int p2), .val (.long q3), .second] [(.ref a1)]))
  refine own_virtualUp X0 hx hZ hown (y := (⟨"com/example/lease/lease/model/RetryBackoff", "ordinal", "()I"⟩ : MethodName)) (z := (⟨"java/lang/Enum", "ordinal", "()I"⟩ : MethodName)) (owner := "java/lang/Enum") (hw _ (List.mem_of_getElem? (i := 14) rfl)) (hw _ (List.mem_of_getElem? (i := 15) rfl)) (hw _ (List.mem_of_getElem? (i := 16) rfl)) (hw _ (List.mem_of_getElem? (i := 18) rfl)) (hw _ (List.mem_of_getElem? (i := 17) rfl)) (hw _ (List.mem_of_getElem? (i := 19) rfl)) (hw _ (List.mem_of_getElem? (i := 20) rfl)) (a := a1) f0 (by decide) (W := 0) (by decide) (by decide) N0 e0 (by rw [hml]; rfl) (argsL := []) (rest := []) (lenOf pd_2 rfl) (Nat.le_of_eq rfl) (by decide) (by decide) (rm3 l Z a0 hw [] a1 (1 : Int32) h0 n0 O0 f3) rfl (hb hby d2_40) ?_
  intro v1 T1 lc1 X1 N1 hQ1
  obtain ⟨rfl, e1⟩ := hQ1
  show Goes _ _ _ _ _ _ (T1.setTop (mkF m 43 #[.val (.ref a1), .val (.int p2), .val (.long q3), .second] [(.int (1 : Int32))]))
  refine own_lsw X1 hx (pc' := 88) (hb hby d2_43) (kk := 1) (o := 45) (by decide) (by decide) (by decide) (by decide) ?_
  show Goes _ _ _ _ _ _ (T1.setTop (mkF m 88 #[.val (.ref a1), .val (.int p2), .val (.long q3), .second] []))
  refine own_lloadN X1 hx (hb hby d2_88) rfl ?_
  show Goes _ _ _ _ _ _ (T1.setTop (mkF m 89 #[.val (.ref a1), .val (.int p2), .val (.long q3), .second] [(.long q3)]))
  exact own_retJ X1 hx N1 hlk (by decide) (by decide) hret (hb hby d2_89) (by rw [e1]; exact ⟨rfl, rfl⟩)
theorem d2_78 : decode prog_22_method_6_code 78 = .ok (.lload_n 2, 1) := by decide +kernel
theorem d2_79 : decode prog_22_method_6_code 79 = .ok (.iload_n 1, 1) := by decide +kernel
theorem d2_80 : decode prog_22_method_6_code 80 = .ok (.iconst 1, 1) := by decide +kernel
theorem d2_81 : decode prog_22_method_6_code 81 = .ok (.isub, 1) := by decide +kernel
theorem d2_82 : decode prog_22_method_6_code 82 = .ok (.invokestatic 62, 3) := by decide +kernel
theorem pd_3 : parseMethodDescriptor "(JI)J" = some ⟨[.long, .int], some .long⟩ := by decide +kernel
theorem d2_85 : decode prog_22_method_6_code 85 = .ok (.goto 4, 3) := by decide +kernel
def Q2E (Z : State) (a1 : Addr) (p2 : Int32) (q3 : Int64) (h0 : Heap) (n0 : Nat) (v : Option Value) (h : Heap) : Prop :=
  (v = some (.long (q3 <<< ((p2 - (1 : Int32)) &&& 0x3f).toInt64)) ∧ h = h0)
theorem ef_2E (m : MethodId) (a1 : Addr) (p2 : Int32) (q3 : Int64) : entryFrame m #[(.ref a1), (.int p2), (.long q3)] 4 = mkF m 0 #[.val (.ref a1), .val (.int p2), .val (.long q3), .second] [] := by first | (simp [entryFrame, mkF, argsToLocals, Value.category]; done) | rfl
set_option maxRecDepth 65536 in
set_option maxHeartbeats 40000000 in
theorem rm2E (l : Launch) (Z : State) (a0 : Array Value) (hw : ∀ d ∈ tables_1, d.before a0 Z = true) (ws : List Jvm.Cond) (a1 : Addr) (p2 : Int32) (q3 : Int64) (h0 : Heap) (n0 : Nat) (O0 : Old Z n0 h0) (f0 : Exa Z h0 a1 "com/example/lease/lease/model/RetryBackoff") (hp1 : ¬ (p2 < (1 : Int32))) (hq0 : ¬ (q3 < (0 : Int64))) (f3 : Fld Z h0 a1 "java/lang/Enum" "ordinal" "I" (.int (0 : Int32))) (hD : Dbl q3 (p2 - (1 : Int32))) :
    Meets l (⟨"com/example/lease/lease/model/RetryBackoff", "delaySeconds", "(IJ)J"⟩ : MethodName) prog_22_method_6_code 4 (some .long) ws ({ frames := 3, cells := 0, slots := 0, locals := 43 } : Room) ({ frames := 3, cells := 0, slots := 0, locals := 43 } : Room).cells ({ frames := 3, cells := 0, slots := 0, locals := 43 } : Room).slots Z #[(.ref a1), (.int p2), (.long q3)] h0 n0 (Q2E Z a1 p2 q3 h0 n0) := by
  refine Meets.of (F := fun m => mkF m 0 #[.val (.ref a1), .val (.int p2), .val (.long q3), .second] []) (plainFor_of_name pn_2) (fun m => ef_2E m a1 p2 q3) ?_
  intro p e s m below meth c T0 hx hby hml hown0 hnm hret hlk hZ X0 e0
  have hown : s.vm.findClass "com/example/lease/lease/model/RetryBackoff" = some m.cls := hown0
  have N0 := Fr.nil n0
  show Goes _ _ _ _ _ _ (T0.setTop (mkF m 0 #[.val (.ref a1), .val (.int p2), .val (.long q3), .second] []))
  refine own_iloadN X0 hx (hb hby d2_0) rfl ?_
  show Goes _ _ _ _ _ _ (T0.setTop (mkF m 1 #[.val (.ref a1), .val (.int p2), .val (.long q3), .second] [(.int p2)]))
  refine own_iconst X0 hx (v := (1 : Int32)) (hb hby d2_1) rfl ?_
  show Goes _ _ _ _ _ _ (T0.setTop (mkF m 2 #[.val (.ref a1), .val (.int p2), .val (.long q3), .second] [(.int (1 : Int32)), (.int p2)]))
  refine own_icmpYes X0 hx (pc' := 19) (hb hby d2_2) (flt (hp1 : ¬ (p2 < (1 : Int32)))).2.1 (by decide) (by decide) ?_
  show Goes _ _ _ _ _ _ (T0.setTop (mkF m 19 #[.val (.ref a1), .val (.int p2), .val (.long q3), .second] []))
  refine own_lloadN X0 hx (hb hby d2_19) rfl ?_
  show Goes _ _ _ _ _ _ (T0.setTop (mkF m 20 #[.val (.ref a1), .val (.int p2), .val (.long q3), .second] [(.long q3)]))
  refine own_lconst X0 hx (v := (0 : Int64)) (hb hby d2_20) rfl ?_
  show Goes _ _ _ _ _ _ (T0.setTop (mkF m 21 #[.val (.ref a1), .val (.int p2), .val (.long q3), .second] [(.long (0 : Int64)), (.long q3)]))
  refine own_lcmp X0 hx (hb hby d2_21) ?_
  show Goes _ _ _ _ _ _ (T0.setTop (mkF m 22 #[.val (.ref a1), .val (.int p2), .val (.long q3), .second] [(.int (lcmpW q3 (0 : Int64)))]))
  refine own_ifYes X0 hx (pc' := 39) (hb hby d2_22) ((if0 _ _).trans (flt ((fun q => hq0 ((lw_lt _ _).mp q)) : ¬ ((lcmpW q3 (0 : Int64)) < (0 : Int32)))).2.1) (by decide) (by decide) ?_
  show Goes _ _ _ _ _ _ (T0.setTop (mkF m 39 #[.val (.ref a1), .val (.int p2), .val (.long q3), .second] []))
  refine own_aloadN X0 hx (hb hby d2_39) rfl rfl ?_
  show Goes _ _ _ _ _ _ (T0.setTop (mkF m 40 #[.val (.ref a1), .val (.int p2), .val (.long q3), .second] [(.ref a1)]))
  refine own_virtualUp X0 hx hZ hown (y := (⟨"com/example/lease/lease/model/RetryBackoff", "ordinal", "()I"⟩ : MethodName)) (z := (⟨"java/lang/Enum", "ordinal", "()I"⟩ : MethodName)) (owner := "java/lang/Enum") (hw _ (List.mem_of_getElem? (i := 14) rfl)) (hw _ (List.mem_of_getElem? (i := 15) rfl)) (hw _ (List.mem_of_getElem? (i := 16) rfl)) (hw _ (List.mem_of_getElem? (i := 18) rfl)) (hw _ (List.mem_of_getElem? (i := 17) rfl)) (hw _ (List.mem_of_getElem? (i := 19) rfl)) (hw _ (List.mem_of_getElem? (i := 20) rfl)) (a := a1) f0 (by decide) (W := 0) (by decide) (by decide) N0 e0 (by rw [hml]; rfl) (argsL := []) (rest := []) (lenOf pd_2 rfl) (Nat.le_of_eq rfl) (by decide) (by decide) (rm3 l Z a0 hw [] a1 (0 : Int32) h0 n0 O0 f3) rfl (hb hby d2_40) ?_
  intro v1 T1 lc1 X1 N1 hQ1
  obtain ⟨rfl, e1⟩ := hQ1
  show Goes _ _ _ _ _ _ (T1.setTop (mkF m 43 #[.val (.ref a1), .val (.int p2), .val (.long q3), .second] [(.int (0 : Int32))]))
  refine own_lsw X1 hx (pc' := 78) (hb hby d2_43) (kk := 0) (o := 35) (by decide) (by decide) (by decide) (by decide) ?_
  show Goes _ _ _ _ _ _ (T1.setTop (mkF m 78 #[.val (.ref a1), .val (.int p2), .val (.long q3), .second] []))
  refine own_lloadN X1 hx (hb hby d2_78) rfl ?_
  show Goes _ _ _ _ _ _ (T1.setTop (mkF m 79 #[.val (.ref a1), .val (.int p2), .val (.long q3), .second] [(.long q3)]))
  refine own_iloadN X1 hx (hb hby d2_79) rfl ?_
  show Goes _ _ _ _ _ _ (T1.setTop (mkF m 80 #[.val (.ref a1), .val (.int p2), .val (.long q3), .second] [(.int p2), (.long q3)]))
  refine own_iconst X1 hx (v := (1 : Int32)) (hb hby d2_80) rfl ?_
  show Goes _ _ _ _ _ _ (T1.setTop (mkF m 81 #[.val (.ref a1), .val (.int p2), .val (.long q3), .second] [(.int (1 : Int32)), (.int p2), (.long q3)]))
  refine own_isub X1 hx (hb hby d2_81) ?_
  show Goes _ _ _ _ _ _ (T1.setTop (mkF m 82 #[.val (.ref a1), .val (.int p2), .val (.long q3), .second] [(.int (p2 - (1 : Int32))), (.long q3)]))
  refine own_callS X1 hx hZ hown (y := (⟨"com/example/lease/lease/model/RetryBackoff", "doubled", "(JI)J"⟩ : MethodName)) (hw _ (List.mem_of_getElem? (i := 23) rfl)) (hw _ (List.mem_of_getElem? (i := 24) rfl)) (hw _ (List.mem_of_getElem? (i := 7) rfl)) (hw _ (List.mem_of_getElem? (i := 25) rfl)) (by decide) (W := 0) (by decide) (by decide) N1 e1 (by rw [hml]; rfl) (argsL := [(.long q3), (.int (p2 - (1 : Int32)))]) (rest := []) (lenOf pd_3 rfl) (Nat.le_of_eq rfl) (by decide) (by decide) (rm4 l Z a0 hw [] q3 (p2 - (1 : Int32)) h0 n0 O0 hD) rfl (hb hby d2_82) ?_
  intro v2 T2 lc2 X2 N2 hQ2
  obtain ⟨rfl, e2⟩ := hQ2
  show Goes _ _ _ _ _ _ (T2.setTop (mkF m 85 #[.val (.ref a1), .val (.int p2), .val (.long q3), .second] [(.long (q3 <<< ((p2 - (1 : Int32)) &&& 0x3f).toInt64))]))
  refine own_goto X2 hx (pc' := 89) (hb hby d2_85) (by decide) (by decide) ?_
  show Goes _ _ _ _ _ _ (T2.setTop (mkF m 89 #[.val (.ref a1), .val (.int p2), .val (.long q3), .second] [(.long (q3 <<< ((p2 - (1 : Int32)) &&& 0x3f).toInt64))]))
  exact own_retJ X2 hx N2 hlk (by decide) (by decide) hret (hb hby d2_89) (by rw [e2]; exact ⟨rfl, rfl⟩)
theorem pd_4 : parseMethodDescriptor "(IJ)J" = some ⟨[.int, .long], some .long⟩ := by decide +kernel
theorem pd_5 : parseMethodDescriptor "(II)I" = some ⟨[.int, .int], some .int⟩ := by decide +kernel
theorem pn_4 : plainName "com/example/lease/lease/model/RetryBackoffDelaySecondsPinLaw" = true := by first | (simp [plainName, overriddenIn]; done) | decide +kernel
def Q0 (Z : State) (p1 : Int32) (p2 : Int32) (q3 : Int64) (w_EXPONENTIAL : Addr) (w_FIXED : Addr) (h0 : Heap) (n0 : Nat) (v : Option Value) (h : Heap) : Prop :=
  (v = some (.int (1 : Int32)))
theorem ef_0 (m : MethodId) (p1 : Int32) (p2 : Int32) (q3 : Int64) : entryFrame m #[(.int p1), (.int p2), (.long q3)] maxLocals = mkF m 0 #[.val (.int p1), .val (.int p2), .val (.long q3), .second, .unset, .unset, .unset, .unset, .unset, .unset, .unset] [] := by first | (simp [entryFrame, mkF, argsToLocals, Value.category, maxLocals]; done) | rfl
set_option maxRecDepth 65536 in
set_option maxHeartbeats 40000000 in
theorem rm0 (l : Launch) (Z : State) (a0 : Array Value) (hw : ∀ d ∈ tables_1, d.before a0 Z = true) (ws : List Jvm.Cond) (p1 : Int32) (p2 : Int32) (q3 : Int64) (w_EXPONENTIAL : Addr) (w_FIXED : Addr) (h0 : Heap) (n0 : Nat) (O0 : Old Z n0 h0) (SF : Start Z w_EXPONENTIAL w_FIXED) :
    Meets l x code maxLocals ret ws room_1 0 0 Z #[(.int p1), (.int p2), (.long q3)] h0 n0 (Q0 Z p1 p2 q3 w_EXPONENTIAL w_FIXED h0 n0) := by
  refine Meets.of (F := fun m => mkF m 0 #[.val (.int p1), .val (.int p2), .val (.long q3), .second, .unset, .unset, .unset, .unset, .unset, .unset, .unset] []) (plainFor_of_name pn_4) (fun m => ef_0 m p1 p2 q3) ?_
  intro p e s m below meth c T0 hx hby hml hown0 hnm hret hlk hZ X0 e0
  have hown : s.vm.findClass "com/example/lease/lease/model/RetryBackoffDelaySecondsPinLaw" = some m.cls := hown0
  have N0 := Fr.nil n0
  obtain ⟨z0, z1, z2, z3, z4, z5, -⟩ := SF
  show Goes _ _ _ _ _ _ (T0.setTop (mkF m 0 #[.val (.int p1), .val (.int p2), .val (.long q3), .second, .unset, .unset, .unset, .unset, .unset, .unset, .unset] []))
  refine own_iloadN X0 hx (hb hby at_0) rfl ?_
  show Goes _ _ _ _ _ _ (T0.setTop (mkF m 1 #[.val (.int p1), .val (.int p2), .val (.long q3), .second, .unset, .unset, .unset, .unset, .unset, .unset, .unset] [(.int p1)]))
  refine own_iconst X0 hx (v := (1 : Int32)) (hb hby at_1) rfl ?_
  show Goes _ _ _ _ _ _ (T0.setTop (mkF m 2 #[.val (.int p1), .val (.int p2), .val (.long q3), .second, .unset, .unset, .unset, .unset, .unset, .unset, .unset] [(.int (1 : Int32)), (.int p1)]))
  refine own_iand X0 hx (hb hby at_2) ?_
  show Goes _ _ _ _ _ _ (T0.setTop (mkF m 3 #[.val (.int p1), .val (.int p2), .val (.long q3), .second, .unset, .unset, .unset, .unset, .unset, .unset, .unset] [(.int (p1 &&& (1 : Int32)))]))
  by_cases hc3_1 : (p1 &&& (1 : Int32)) = (0 : Int32)
  ·
    refine own_ifYes X0 hx (pc' := 45) (hb hby at_3) ((if0 _ _).trans (teq (hc3_1 : (p1 &&& (1 : Int32)) = (0 : Int32))).1) (by decide) (by decide) ?_
    show Goes _ _ _ _ _ _ (T0.setTop (mkF m 45 #[.val (.int p1), .val (.int p2), .val (.long q3), .second, .unset, .unset, .unset, .unset, .unset, .unset, .unset] []))
    refine own_iloadN X0 hx (hb hby at_45) rfl ?_
    show Goes _ _ _ _ _ _ (T0.setTop (mkF m 46 #[.val (.int p1), .val (.int p2), .val (.long q3), .second, .unset, .unset, .unset, .unset, .unset, .unset, .unset] [(.int p1)]))
    refine own_iconst X0 hx (v := (2 : Int32)) (hb hby at_46) rfl ?_
    show Goes _ _ _ _ _ _ (T0.setTop (mkF m 47 #[.val (.int p1), .val (.int p2), .val (.long q3), .second, .unset, .unset, .unset, .unset, .unset, .unset, .unset] [(.int (2 : Int32)), (.int p1)]))
    refine own_iand X0 hx (hb hby at_47) ?_
    show Goes _ _ _ _ _ _ (T0.setTop (mkF m 48 #[.val (.int p1), .val (.int p2), .val (.long q3), .second, .unset, .unset, .unset, .unset, .unset, .unset, .unset] [(.int (p1 &&& (2 : Int32)))]))
    have jn56_3 : ∀ (T3 : State) (lc3 : List Loc) (X3 : Stand p l e room_1 s m #[(.int p1), (.int p2), (.long q3)] below meth c T3 lc3 0 0) (N3 : Fr n0 lc3) (e3 : T3.heap = h0) (w3 : Int32) (hj3 : True), Goes p e below (fun o t L => FrameEnd s o t L (0) (0)) n0 (Q0 Z p1 p2 q3 w_EXPONENTIAL w_FIXED h0 n0) (T3.setTop (mkF m 56 #[.val (.int p1), .val (.int p2), .val (.long q3), .second, .unset, .unset, .unset, .unset, .unset, .unset, .unset] [(.int w3)])) := by
      intro T3 lc3 X3 N3 e3 w3 hj3
      show Goes _ _ _ _ _ _ (T3.setTop (mkF m 56 #[.val (.int p1), .val (.int p2), .val (.long q3), .second, .unset, .unset, .unset, .unset, .unset, .unset, .unset] [(.int w3)]))
      refine own_istore X3 hx (Ls' := #[.val (.int p1), .val (.int p2), .val (.long q3), .second, .val (.int w3), .unset, .unset, .unset, .unset, .unset, .unset]) (hb hby at_56) rfl ?_
      show Goes _ _ _ _ _ _ (T3.setTop (mkF m 58 #[.val (.int p1), .val (.int p2), .val (.long q3), .second, .val (.int w3), .unset, .unset, .unset, .unset, .unset, .unset] []))
      refine own_iload X3 hx (hb hby at_58) rfl ?_
      show Goes _ _ _ _ _ _ (T3.setTop (mkF m 60 #[.val (.int p1), .val (.int p2), .val (.long q3), .second, .val (.int w3), .unset, .unset, .unset, .unset, .unset, .unset] [(.int w3)]))
      have jn80_5 : ∀ (T5 : State) (lc5 : List Loc) (X5 : Stand p l e room_1 s m #[(.int p1), (.int p2), (.long q3)] below meth c T5 lc5 0 0) (N5 : Fr n0 lc5) (e5 : T5.heap = h0) (w5 : Int32) (hj5 : ¬ (w5 < (1 : Int32))), Goes p e below (fun o t L => FrameEnd s o t L (0) (0)) n0 (Q0 Z p1 p2 q3 w_EXPONENTIAL w_FIXED h0 n0) (T5.setTop (mkF m 80 #[.val (.int p1), .val (.int p2), .val (.long q3), .second, .val (.int w3), .unset, .unset, .unset, .unset, .unset, .unset] [(.int w5)])) := by
        intro T5 lc5 X5 N5 e5 w5 hj5
        show Goes _ _ _ _ _ _ (T5.setTop (mkF m 80 #[.val (.int p1), .val (.int p2), .val (.long q3), .second, .val (.int w3), .unset, .unset, .unset, .unset, .unset, .unset] [(.int w5)]))
        refine own_istore X5 hx (Ls' := #[.val (.int p1), .val (.int p2), .val (.long q3), .second, .val (.int w3), .val (.int w5), .unset, .unset, .unset, .unset, .unset]) (hb hby at_80) rfl ?_
        show Goes _ _ _ _ _ _ (T5.setTop (mkF m 82 #[.val (.int p1), .val (.int p2), .val (.long q3), .second, .val (.int w3), .val (.int w5), .unset, .unset, .unset, .unset, .unset] []))
        refine own_iload X5 hx (hb hby at_82) rfl ?_
        show Goes _ _ _ _ _ _ (T5.setTop (mkF m 84 #[.val (.int p1), .val (.int p2), .val (.long q3), .second, .val (.int w3), .val (.int w5), .unset, .unset, .unset, .unset, .unset] [(.int w5)]))
        refine own_iconst X5 hx (v := (1 : Int32)) (hb hby at_84) rfl ?_
        show Goes _ _ _ _ _ _ (T5.setTop (mkF m 85 #[.val (.int p1), .val (.int p2), .val (.long q3), .second, .val (.int w3), .val (.int w5), .unset, .unset, .unset, .unset, .unset] [(.int (1 : Int32)), (.int w5)]))
        refine own_isub X5 hx (hb hby at_85) ?_
        show Goes _ _ _ _ _ _ (T5.setTop (mkF m 86 #[.val (.int p1), .val (.int p2), .val (.long q3), .second, .val (.int w3), .val (.int w5), .unset, .unset, .unset, .unset, .unset] [(.int (w5 - (1 : Int32)))]))
        refine own_istore X5 hx (Ls' := #[.val (.int p1), .val (.int p2), .val (.long q3), .second, .val (.int w3), .val (.int w5), .val (.int (w5 - (1 : Int32))), .unset, .unset, .unset, .unset]) (hb hby at_86) rfl ?_
        show Goes _ _ _ _ _ _ (T5.setTop (mkF m 88 #[.val (.int p1), .val (.int p2), .val (.long q3), .second, .val (.int w3), .val (.int w5), .val (.int (w5 - (1 : Int32))), .unset, .unset, .unset, .unset] []))
        refine own_iload X5 hx (hb hby at_88) rfl ?_
        show Goes _ _ _ _ _ _ (T5.setTop (mkF m 90 #[.val (.int p1), .val (.int p2), .val (.long q3), .second, .val (.int w3), .val (.int w5), .val (.int (w5 - (1 : Int32))), .unset, .unset, .unset, .unset] [(.int (w5 - (1 : Int32)))]))
        refine own_bipush X5 hx (v := (62 : Int32)) (hb hby at_90) rfl ?_
        show Goes _ _ _ _ _ _ (T5.setTop (mkF m 92 #[.val (.int p1), .val (.int p2), .val (.long q3), .second, .val (.int w3), .val (.int w5), .val (.int (w5 - (1 : Int32))), .unset, .unset, .unset, .unset] [(.int (62 : Int32)), (.int (w5 - (1 : Int32)))]))
        by_cases hc92_6 : (62 : Int32) < (w5 - (1 : Int32))
        ·
          refine own_icmpYes X5 hx (pc' := 117) (hb hby at_92) (tlt (hc92_6 : (62 : Int32) < (w5 - (1 : Int32)))).2.2.1 (by decide) (by decide) ?_
          show Goes _ _ _ _ _ _ (T5.setTop (mkF m 117 #[.val (.int p1), .val (.int p2), .val (.long q3), .second, .val (.int w3), .val (.int w5), .val (.int (w5 - (1 : Int32))), .unset, .unset, .unset, .unset] []))
          refine own_lconst X5 hx (v := (0 : Int64)) (hb hby at_117) rfl ?_
          show Goes _ _ _ _ _ _ (T5.setTop (mkF m 118 #[.val (.int p1), .val (.int p2), .val (.long q3), .second, .val (.int w3), .val (.int w5), .val (.int (w5 - (1 : Int32))), .unset, .unset, .unset, .unset] [(.long (0 : Int64))]))
          refine own_lstore X5 hx (Ls' := #[.val (.int p1), .val (.int p2), .val (.long q3), .second, .val (.int w3), .val (.int w5), .val (.int (w5 - (1 : Int32))), .val (.long (0 : Int64)), .second, .unset, .unset]) (hb hby at_118) rfl ?_
          show Goes _ _ _ _ _ _ (T5.setTop (mkF m 120 #[.val (.int p1), .val (.int p2), .val (.long q3), .second, .val (.int w3), .val (.int w5), .val (.int (w5 - (1 : Int32))), .val (.long (0 : Int64)), .second, .unset, .unset] []))
          refine own_lconst X5 hx (v := (0 : Int64)) (hb hby at_120) rfl ?_
          show Goes _ _ _ _ _ _ (T5.setTop (mkF m 121 #[.val (.int p1), .val (.int p2), .val (.long q3), .second, .val (.int w3), .val (.int w5), .val (.int (w5 - (1 : Int32))), .val (.long (0 : Int64)), .second, .unset, .unset] [(.long (0 : Int64))]))
          refine own_lstore X5 hx (Ls' := #[.val (.int p1), .val (.int p2), .val (.long q3), .second, .val (.int w3), .val (.int w5), .val (.int (w5 - (1 : Int32))), .val (.long (0 : Int64)), .second, .val (.long (0 : Int64)), .second]) (hb hby at_121) rfl ?_
          show Goes _ _ _ _ _ _ (T5.setTop (mkF m 123 #[.val (.int p1), .val (.int p2), .val (.long q3), .second, .val (.int w3), .val (.int w5), .val (.int (w5 - (1 : Int32))), .val (.long (0 : Int64)), .second, .val (.long (0 : Int64)), .second] []))
          refine own_getS X5 hx hZ hown (host := "") (Or.inl (hw _ (List.mem_of_getElem? (i := 6) rfl))) Via.refl e5 (z0.ext O0.2) (hb hby at_123) (fun T7 X7 e7 => ?_)
          show Goes _ _ _ _ _ _ (T7.setTop (mkF m 126 #[.val (.int p1), .val (.int p2), .val (.long q3), .second, .val (.int w3), .val (.int w5), .val (.int (w5 - (1 : Int32))), .val (.long (0 : Int64)), .second, .val (.long (0 : Int64)), .second] [(.ref w_EXPONENTIAL)]))
          refine own_iload X7 hx (hb hby at_126) rfl ?_
          show Goes _ _ _ _ _ _ (T7.setTop (mkF m 128 #[.val (.int p1), .val (.int p2), .val (.long q3), .second, .val (.int w3), .val (.int w5), .val (.int (w5 - (1 : Int32))), .val (.long (0 : Int64)), .second, .val (.long (0 : Int64)), .second] [(.int w5), (.ref w_EXPONENTIAL)]))
          refine own_lload X7 hx (hb hby at_128) rfl ?_
          show Goes _ _ _ _ _ _ (T7.setTop (mkF m 130 #[.val (.int p1), .val (.int p2), .val (.long q3), .second, .val (.int w3), .val (.int w5), .val (.int (w5 - (1 : Int32))), .val (.long (0 : Int64)), .second, .val (.long (0 : Int64)), .second] [(.long (0 : Int64)), (.int w5), (.ref w_EXPONENTIAL)]))
          refine own_virtual X7 hx hZ hown (y := (⟨"com/example/lease/lease/model/RetryBackoff", "delaySeconds", "(IJ)J"⟩ : MethodName)) (z := (⟨"com/example/lease/lease/model/RetryBackoff", "delaySeconds", "(IJ)J"⟩ : MethodName)) (hw _ (List.mem_of_getElem? (i := 9) rfl)) (hw _ (List.mem_of_getElem? (i := 10) rfl)) (notFace_of_selects (args := #[]) (mvT hZ (hw _ (List.mem_of_getElem? (i := 12) rfl)))) (hw _ (List.mem_of_getElem? (i := 12) rfl)) (hw _ (List.mem_of_getElem? (i := 11) rfl)) (hw _ (List.mem_of_getElem? (i := 7) rfl)) (hw _ (List.mem_of_getElem? (i := 13) rfl)) (a := w_EXPONENTIAL) (z1.ext O0.2) (by decide) (W := 0) (by decide) (by decide) N5 e7 (by rw [hml]; rfl) (argsL := [(.int w5), (.long (0 : Int64))]) (rest := []) (lenOf pd_4 rfl) (Nat.le_of_eq rfl) (by decide) (by decide) (rm2E l Z a0 hw [] w_EXPONENTIAL w5 (0 : Int64) h0 n0 O0 (z1.ext O0.2) hj5 (by decide) (z4.ext O0.2) (Or.inl rfl)) rfl (hb hby at_130) ?_
          intro v8 T8 lc8 X8 N8 hQ8
          obtain ⟨rfl, e8⟩ := hQ8
          show Goes _ _ _ _ _ _ (T8.setTop (mkF m 133 #[.val (.int p1), .val (.int p2), .val (.long q3), .second, .val (.int w3), .val (.int w5), .val (.int (w5 - (1 : Int32))), .val (.long (0 : Int64)), .second, .val (.long (0 : Int64)), .second] [(.long ((0 : Int64) <<< ((w5 - (1 : Int32)) &&& 0x3f).toInt64))]))
          refine own_lload X8 hx (hb hby at_133) rfl ?_
          show Goes _ _ _ _ _ _ (T8.setTop (mkF m 135 #[.val (.int p1), .val (.int p2), .val (.long q3), .second, .val (.int w3), .val (.int w5), .val (.int (w5 - (1 : Int32))), .val (.long (0 : Int64)), .second, .val (.long (0 : Int64)), .second] [(.long (0 : Int64)), (.long ((0 : Int64) <<< ((w5 - (1 : Int32)) &&& 0x3f).toInt64))]))
          refine own_lcmp X8 hx (hb hby at_135) ?_
          show Goes _ _ _ _ _ _ (T8.setTop (mkF m 136 #[.val (.int p1), .val (.int p2), .val (.long q3), .second, .val (.int w3), .val (.int w5), .val (.int (w5 - (1 : Int32))), .val (.long (0 : Int64)), .second, .val (.long (0 : Int64)), .second] [(.int (lcmpW ((0 : Int64) <<< ((w5 - (1 : Int32)) &&& 0x3f).toInt64) (0 : Int64)))]))
          refine own_ifNo X8 hx (hb hby at_136) ((if0 _ _).trans (teq (((lw_eq _ _).mpr (own_shl0 _)) : (lcmpW ((0 : Int64) <<< ((w5 - (1 : Int32)) &&& 0x3f).toInt64) (0 : Int64)) = (0 : Int32))).2) ?_
          show Goes _ _ _ _ _ _ (T8.setTop (mkF m 139 #[.val (.int p1), .val (.int p2), .val (.long q3), .second, .val (.int w3), .val (.int w5), .val (.int (w5 - (1 : Int32))), .val (.long (0 : Int64)), .second, .val (.long (0 : Int64)), .second] []))
          refine own_iconst X8 hx (v := (1 : Int32)) (hb hby at_139) rfl ?_
          show Goes _ _ _ _ _ _ (T8.setTop (mkF m 140 #[.val (.int p1), .val (.int p2), .val (.long q3), .second, .val (.int w3), .val (.int w5), .val (.int (w5 - (1 : Int32))), .val (.long (0 : Int64)), .second, .val (.long (0 : Int64)), .second] [(.int (1 : Int32))]))
          refine own_goto X8 hx (pc' := 144) (hb hby at_140) (by decide) (by decide) ?_
          show Goes _ _ _ _ _ _ (T8.setTop (mkF m 144 #[.val (.int p1), .val (.int p2), .val (.long q3), .second, .val (.int w3), .val (.int w5), .val (.int (w5 - (1 : Int32))), .val (.long (0 : Int64)), .second, .val (.long (0 : Int64)), .second] [(.int (1 : Int32))]))
          exact own_retN X8 hx (t := .boolean) N8 hlk (by decide) (by decide) hret (by simp) (hb hby at_144) (by rw [e8]; exact rfl)
        ·
          refine own_icmpNo X5 hx (hb hby at_92) (flt (hc92_6 : ¬ ((62 : Int32) < (w5 - (1 : Int32))))).2.2.1 ?_
          show Goes _ _ _ _ _ _ (T5.setTop (mkF m 95 #[.val (.int p1), .val (.int p2), .val (.long q3), .second, .val (.int w3), .val (.int w5), .val (.int (w5 - (1 : Int32))), .unset, .unset, .unset, .unset] []))
          refine own_lloadN X5 hx (hb hby at_95) rfl ?_
          show Goes _ _ _ _ _ _ (T5.setTop (mkF m 96 #[.val (.int p1), .val (.int p2), .val (.long q3), .second, .val (.int w3), .val (.int w5), .val (.int (w5 - (1 : Int32))), .unset, .unset, .unset, .unset] [(.long q3)]))
          refine own_ldc2Long X5 hx hZ hown (hw _ (List.mem_of_getElem? (i := 5) rfl)) (hb hby at_96) ?_
          show Goes _ _ _ _ _ _ (T5.setTop (mkF m 99 #[.val (.int p1), .val (.int p2), .val (.long q3), .second, .val (.int w3), .val (.int w5), .val (.int (w5 - (1 : Int32))), .unset, .unset, .unset, .unset] [(.long (9223372036854775807 : Int64)), (.long q3)]))
          refine own_iload X5 hx (hb hby at_99) rfl ?_
          show Goes _ _ _ _ _ _ (T5.setTop (mkF m 101 #[.val (.int p1), .val (.int p2), .val (.long q3), .second, .val (.int w3), .val (.int w5), .val (.int (w5 - (1 : Int32))), .unset, .unset, .unset, .unset] [(.int (w5 - (1 : Int32))), (.long (9223372036854775807 : Int64)), (.long q3)]))
          refine own_lushr X5 hx (hb hby at_101) ?_
          show Goes _ _ _ _ _ _ (T5.setTop (mkF m 102 #[.val (.int p1), .val (.int p2), .val (.long q3), .second, .val (.int w3), .val (.int w5), .val (.int (w5 - (1 : Int32))), .unset, .unset, .unset, .unset] [(.long (((9223372036854775807 : Int64).toUInt64 >>> ((w5 - (1 : Int32)) &&& 0x3f).toInt64.toUInt64).toInt64)), (.long q3)]))
          refine own_land X5 hx (hb hby at_102) ?_
          show Goes _ _ _ _ _ _ (T5.setTop (mkF m 103 #[.val (.int p1), .val (.int p2), .val (.long q3), .second, .val (.int w3), .val (.int w5), .val (.int (w5 - (1 : Int32))), .unset, .unset, .unset, .unset] [(.long (q3 &&& (((9223372036854775807 : Int64).toUInt64 >>> ((w5 - (1 : Int32)) &&& 0x3f).toInt64.toUInt64).toInt64)))]))
          refine own_lstore X5 hx (Ls' := #[.val (.int p1), .val (.int p2), .val (.long q3), .second, .val (.int w3), .val (.int w5), .val (.int (w5 - (1 : Int32))), .val (.long (q3 &&& (((9223372036854775807 : Int64).toUInt64 >>> ((w5 - (1 : Int32)) &&& 0x3f).toInt64.toUInt64).toInt64))), .second, .unset, .unset]) (hb hby at_103) rfl ?_
          show Goes _ _ _ _ _ _ (T5.setTop (mkF m 105 #[.val (.int p1), .val (.int p2), .val (.long q3), .second, .val (.int w3), .val (.int w5), .val (.int (w5 - (1 : Int32))), .val (.long (q3 &&& (((9223372036854775807 : Int64).toUInt64 >>> ((w5 - (1 : Int32)) &&& 0x3f).toInt64.toUInt64).toInt64))), .second, .unset, .unset] []))
          refine own_lload X5 hx (hb hby at_105) rfl ?_
          show Goes _ _ _ _ _ _ (T5.setTop (mkF m 107 #[.val (.int p1), .val (.int p2), .val (.long q3), .second, .val (.int w3), .val (.int w5), .val (.int (w5 - (1 : Int32))), .val (.long (q3 &&& (((9223372036854775807 : Int64).toUInt64 >>> ((w5 - (1 : Int32)) &&& 0x3f).toInt64.toUInt64).toInt64))), .second, .unset, .unset] [(.long (q3 &&& (((9223372036854775807 : Int64).toUInt64 >>> ((w5 - (1 : Int32)) &&& 0x3f).toInt64.toUInt64).toInt64)))]))
          refine own_lconst X5 hx (v := (1 : Int64)) (hb hby at_107) rfl ?_
          show Goes _ _ _ _ _ _ (T5.setTop (mkF m 108 #[.val (.int p1), .val (.int p2), .val (.long q3), .second, .val (.int w3), .val (.int w5), .val (.int (w5 - (1 : Int32))), .val (.long (q3 &&& (((9223372036854775807 : Int64).toUInt64 >>> ((w5 - (1 : Int32)) &&& 0x3f).toInt64.toUInt64).toInt64))), .second, .unset, .unset] [(.long (1 : Int64)), (.long (q3 &&& (((9223372036854775807 : Int64).toUInt64 >>> ((w5 - (1 : Int32)) &&& 0x3f).toInt64.toUInt64).toInt64)))]))
          refine own_iload X5 hx (hb hby at_108) rfl ?_
          show Goes _ _ _ _ _ _ (T5.setTop (mkF m 110 #[.val (.int p1), .val (.int p2), .val (.long q3), .second, .val (.int w3), .val (.int w5), .val (.int (w5 - (1 : Int32))), .val (.long (q3 &&& (((9223372036854775807 : Int64).toUInt64 >>> ((w5 - (1 : Int32)) &&& 0x3f).toInt64.toUInt64).toInt64))), .second, .unset, .unset] [(.int (w5 - (1 : Int32))), (.long (1 : Int64)), (.long (q3 &&& (((9223372036854775807 : Int64).toUInt64 >>> ((w5 - (1 : Int32)) &&& 0x3f).toInt64.toUInt64).toInt64)))]))
          refine own_lshl X5 hx (hb hby at_110) ?_
          show Goes _ _ _ _ _ _ (T5.setTop (mkF m 111 #[.val (.int p1), .val (.int p2), .val (.long q3), .second, .val (.int w3), .val (.int w5), .val (.int (w5 - (1 : Int32))), .val (.long (q3 &&& (((9223372036854775807 : Int64).toUInt64 >>> ((w5 - (1 : Int32)) &&& 0x3f).toInt64.toUInt64).toInt64))), .second, .unset, .unset] [(.long ((1 : Int64) <<< ((w5 - (1 : Int32)) &&& 0x3f).toInt64)), (.long (q3 &&& (((9223372036854775807 : Int64).toUInt64 >>> ((w5 - (1 : Int32)) &&& 0x3f).toInt64.toUInt64).toInt64)))]))
          refine own_lmul X5 hx (hb hby at_111) ?_
          show Goes _ _ _ _ _ _ (T5.setTop (mkF m 112 #[.val (.int p1), .val (.int p2), .val (.long q3), .second, .val (.int w3), .val (.int w5), .val (.int (w5 - (1 : Int32))), .val (.long (q3 &&& (((9223372036854775807 : Int64).toUInt64 >>> ((w5 - (1 : Int32)) &&& 0x3f).toInt64.toUInt64).toInt64))), .second, .unset, .unset] [(.long ((q3 &&& (((9223372036854775807 : Int64).toUInt64 >>> ((w5 - (1 : Int32)) &&& 0x3f).toInt64.toUInt64).toInt64)) * ((1 : Int64) <<< ((w5 - (1 : Int32)) &&& 0x3f).toInt64)))]))
          refine own_lstore X5 hx (Ls' := #[.val (.int p1), .val (.int p2), .val (.long q3), .second, .val (.int w3), .val (.int w5), .val (.int (w5 - (1 : Int32))), .val (.long (q3 &&& (((9223372036854775807 : Int64).toUInt64 >>> ((w5 - (1 : Int32)) &&& 0x3f).toInt64.toUInt64).toInt64))), .second, .val (.long ((q3 &&& (((9223372036854775807 : Int64).toUInt64 >>> ((w5 - (1 : Int32)) &&& 0x3f).toInt64.toUInt64).toInt64)) * ((1 : Int64) <<< ((w5 - (1 : Int32)) &&& 0x3f).toInt64))), .second]) (hb hby at_112) rfl ?_
          show Goes _ _ _ _ _ _ (T5.setTop (mkF m 114 #[.val (.int p1), .val (.int p2), .val (.long q3), .second, .val (.int w3), .val (.int w5), .val (.int (w5 - (1 : Int32))), .val (.long (q3 &&& (((9223372036854775807 : Int64).toUInt64 >>> ((w5 - (1 : Int32)) &&& 0x3f).toInt64.toUInt64).toInt64))), .second, .val (.long ((q3 &&& (((9223372036854775807 : Int64).toUInt64 >>> ((w5 - (1 : Int32)) &&& 0x3f).toInt64.toUInt64).toInt64)) * ((1 : Int64) <<< ((w5 - (1 : Int32)) &&& 0x3f).toInt64))), .second] []))
          refine own_goto X5 hx (pc' := 123) (hb hby at_114) (by decide) (by decide) ?_
          show Goes _ _ _ _ _ _ (T5.setTop (mkF m 123 #[.val (.int p1), .val (.int p2), .val (.long q3), .second, .val (.int w3), .val (.int w5), .val (.int (w5 - (1 : Int32))), .val (.long (q3 &&& (((9223372036854775807 : Int64).toUInt64 >>> ((w5 - (1 : Int32)) &&& 0x3f).toInt64.toUInt64).toInt64))), .second, .val (.long ((q3 &&& (((9223372036854775807 : Int64).toUInt64 >>> ((w5 - (1 : Int32)) &&& 0x3f).toInt64.toUInt64).toInt64)) * ((1 : Int64) <<< ((w5 - (1 : Int32)) &&& 0x3f).toInt64))), .second] []))
          refine own_getS X5 hx hZ hown (host := "") (Or.inl (hw _ (List.mem_of_getElem? (i := 6) rfl))) Via.refl e5 (z0.ext O0.2) (hb hby at_123) (fun T9 X9 e9 => ?_)
          show Goes _ _ _ _ _ _ (T9.setTop (mkF m 126 #[.val (.int p1), .val (.int p2), .val (.long q3), .second, .val (.int w3), .val (.int w5), .val (.int (w5 - (1 : Int32))), .val (.long (q3 &&& (((9223372036854775807 : Int64).toUInt64 >>> ((w5 - (1 : Int32)) &&& 0x3f).toInt64.toUInt64).toInt64))), .second, .val (.long ((q3 &&& (((9223372036854775807 : Int64).toUInt64 >>> ((w5 - (1 : Int32)) &&& 0x3f).toInt64.toUInt64).toInt64)) * ((1 : Int64) <<< ((w5 - (1 : Int32)) &&& 0x3f).toInt64))), .second] [(.ref w_EXPONENTIAL)]))
          refine own_iload X9 hx (hb hby at_126) rfl ?_
          show Goes _ _ _ _ _ _ (T9.setTop (mkF m 128 #[.val (.int p1), .val (.int p2), .val (.long q3), .second, .val (.int w3), .val (.int w5), .val (.int (w5 - (1 : Int32))), .val (.long (q3 &&& (((9223372036854775807 : Int64).toUInt64 >>> ((w5 - (1 : Int32)) &&& 0x3f).toInt64.toUInt64).toInt64))), .second, .val (.long ((q3 &&& (((9223372036854775807 : Int64).toUInt64 >>> ((w5 - (1 : Int32)) &&& 0x3f).toInt64.toUInt64).toInt64)) * ((1 : Int64) <<< ((w5 - (1 : Int32)) &&& 0x3f).toInt64))), .second] [(.int w5), (.ref w_EXPONENTIAL)]))
          refine own_lload X9 hx (hb hby at_128) rfl ?_
          show Goes _ _ _ _ _ _ (T9.setTop (mkF m 130 #[.val (.int p1), .val (.int p2), .val (.long q3), .second, .val (.int w3), .val (.int w5), .val (.int (w5 - (1 : Int32))), .val (.long (q3 &&& (((9223372036854775807 : Int64).toUInt64 >>> ((w5 - (1 : Int32)) &&& 0x3f).toInt64.toUInt64).toInt64))), .second, .val (.long ((q3 &&& (((9223372036854775807 : Int64).toUInt64 >>> ((w5 - (1 : Int32)) &&& 0x3f).toInt64.toUInt64).toInt64)) * ((1 : Int64) <<< ((w5 - (1 : Int32)) &&& 0x3f).toInt64))), .second] [(.long (q3 &&& (((9223372036854775807 : Int64).toUInt64 >>> ((w5 - (1 : Int32)) &&& 0x3f).toInt64.toUInt64).toInt64))), (.int w5), (.ref w_EXPONENTIAL)]))
          refine own_virtual X9 hx hZ hown (y := (⟨"com/example/lease/lease/model/RetryBackoff", "delaySeconds", "(IJ)J"⟩ : MethodName)) (z := (⟨"com/example/lease/lease/model/RetryBackoff", "delaySeconds", "(IJ)J"⟩ : MethodName)) (hw _ (List.mem_of_getElem? (i := 9) rfl)) (hw _ (List.mem_of_getElem? (i := 10) rfl)) (notFace_of_selects (args := #[]) (mvT hZ (hw _ (List.mem_of_getElem? (i := 12) rfl)))) (hw _ (List.mem_of_getElem? (i := 12) rfl)) (hw _ (List.mem_of_getElem? (i := 11) rfl)) (hw _ (List.mem_of_getElem? (i := 7) rfl)) (hw _ (List.mem_of_getElem? (i := 13) rfl)) (a := w_EXPONENTIAL) (z1.ext O0.2) (by decide) (W := 0) (by decide) (by decide) N5 e9 (by rw [hml]; rfl) (argsL := [(.int w5), (.long (q3 &&& (((9223372036854775807 : Int64).toUInt64 >>> ((w5 - (1 : Int32)) &&& 0x3f).toInt64.toUInt64).toInt64)))]) (rest := []) (lenOf pd_4 rfl) (Nat.le_of_eq rfl) (by decide) (by decide) (rm2E l Z a0 hw [] w_EXPONENTIAL w5 (q3 &&& (((9223372036854775807 : Int64).toUInt64 >>> ((w5 - (1 : Int32)) &&& 0x3f).toInt64.toUInt64).toInt64)) h0 n0 O0 (z1.ext O0.2) hj5 (own_base _ hj5 hc92_6).1 (z4.ext O0.2) (own_base _ hj5 hc92_6).2) rfl (hb hby at_130) ?_
          intro v10 T10 lc10 X10 N10 hQ10
          obtain ⟨rfl, e10⟩ := hQ10
          show Goes _ _ _ _ _ _ (T10.setTop (mkF m 133 #[.val (.int p1), .val (.int p2), .val (.long q3), .second, .val (.int w3), .val (.int w5), .val (.int (w5 - (1 : Int32))), .val (.long (q3 &&& (((9223372036854775807 : Int64).toUInt64 >>> ((w5 - (1 : Int32)) &&& 0x3f).toInt64.toUInt64).toInt64))), .second, .val (.long ((q3 &&& (((9223372036854775807 : Int64).toUInt64 >>> ((w5 - (1 : Int32)) &&& 0x3f).toInt64.toUInt64).toInt64)) * ((1 : Int64) <<< ((w5 - (1 : Int32)) &&& 0x3f).toInt64))), .second] [(.long ((q3 &&& (((9223372036854775807 : Int64).toUInt64 >>> ((w5 - (1 : Int32)) &&& 0x3f).toInt64.toUInt64).toInt64)) <<< ((w5 - (1 : Int32)) &&& 0x3f).toInt64))]))
          refine own_lload X10 hx (hb hby at_133) rfl ?_
          show Goes _ _ _ _ _ _ (T10.setTop (mkF m 135 #[.val (.int p1), .val (.int p2), .val (.long q3), .second, .val (.int w3), .val (.int w5), .val (.int (w5 - (1 : Int32))), .val (.long (q3 &&& (((9223372036854775807 : Int64).toUInt64 >>> ((w5 - (1 : Int32)) &&& 0x3f).toInt64.toUInt64).toInt64))), .second, .val (.long ((q3 &&& (((9223372036854775807 : Int64).toUInt64 >>> ((w5 - (1 : Int32)) &&& 0x3f).toInt64.toUInt64).toInt64)) * ((1 : Int64) <<< ((w5 - (1 : Int32)) &&& 0x3f).toInt64))), .second] [(.long ((q3 &&& (((9223372036854775807 : Int64).toUInt64 >>> ((w5 - (1 : Int32)) &&& 0x3f).toInt64.toUInt64).toInt64)) * ((1 : Int64) <<< ((w5 - (1 : Int32)) &&& 0x3f).toInt64))), (.long ((q3 &&& (((9223372036854775807 : Int64).toUInt64 >>> ((w5 - (1 : Int32)) &&& 0x3f).toInt64.toUInt64).toInt64)) <<< ((w5 - (1 : Int32)) &&& 0x3f).toInt64))]))
          refine own_lcmp X10 hx (hb hby at_135) ?_
          show Goes _ _ _ _ _ _ (T10.setTop (mkF m 136 #[.val (.int p1), .val (.int p2), .val (.long q3), .second, .val (.int w3), .val (.int w5), .val (.int (w5 - (1 : Int32))), .val (.long (q3 &&& (((9223372036854775807 : Int64).toUInt64 >>> ((w5 - (1 : Int32)) &&& 0x3f).toInt64.toUInt64).toInt64))), .second, .val (.long ((q3 &&& (((9223372036854775807 : Int64).toUInt64 >>> ((w5 - (1 : Int32)) &&& 0x3f).toInt64.toUInt64).toInt64)) * ((1 : Int64) <<< ((w5 - (1 : Int32)) &&& 0x3f).toInt64))), .second] [(.int (lcmpW ((q3 &&& (((9223372036854775807 : Int64).toUInt64 >>> ((w5 - (1 : Int32)) &&& 0x3f).toInt64.toUInt64).toInt64)) <<< ((w5 - (1 : Int32)) &&& 0x3f).toInt64) ((q3 &&& (((9223372036854775807 : Int64).toUInt64 >>> ((w5 - (1 : Int32)) &&& 0x3f).toInt64.toUInt64).toInt64)) * ((1 : Int64) <<< ((w5 - (1 : Int32)) &&& 0x3f).toInt64))))]))
          refine own_ifNo X10 hx (hb hby at_136) ((if0 _ _).trans (teq (((lw_eq _ _).mpr (own_shl _ _)) : (lcmpW ((q3 &&& (((9223372036854775807 : Int64).toUInt64 >>> ((w5 - (1 : Int32)) &&& 0x3f).toInt64.toUInt64).toInt64)) <<< ((w5 - (1 : Int32)) &&& 0x3f).toInt64) ((q3 &&& (((9223372036854775807 : Int64).toUInt64 >>> ((w5 - (1 : Int32)) &&& 0x3f).toInt64.toUInt64).toInt64)) * ((1 : Int64) <<< ((w5 - (1 : Int32)) &&& 0x3f).toInt64))) = (0 : Int32))).2) ?_
          show Goes _ _ _ _ _ _ (T10.setTop (mkF m 139 #[.val (.int p1), .val (.int p2), .val (.long q3), .second, .val (.int w3), .val (.int w5), .val (.int (w5 - (1 : Int32))), .val (.long (q3 &&& (((9223372036854775807 : Int64).toUInt64 >>> ((w5 - (1 : Int32)) &&& 0x3f).toInt64.toUInt64).toInt64))), .second, .val (.long ((q3 &&& (((9223372036854775807 : Int64).toUInt64 >>> ((w5 - (1 : Int32)) &&& 0x3f).toInt64.toUInt64).toInt64)) * ((1 : Int64) <<< ((w5 - (1 : Int32)) &&& 0x3f).toInt64))), .second] []))
          refine own_iconst X10 hx (v := (1 : Int32)) (hb hby at_139) rfl ?_
          show Goes _ _ _ _ _ _ (T10.setTop (mkF m 140 #[.val (.int p1), .val (.int p2), .val (.long q3), .second, .val (.int w3), .val (.int w5), .val (.int (w5 - (1 : Int32))), .val (.long (q3 &&& (((9223372036854775807 : Int64).toUInt64 >>> ((w5 - (1 : Int32)) &&& 0x3f).toInt64.toUInt64).toInt64))), .second, .val (.long ((q3 &&& (((9223372036854775807 : Int64).toUInt64 >>> ((w5 - (1 : Int32)) &&& 0x3f).toInt64.toUInt64).toInt64)) * ((1 : Int64) <<< ((w5 - (1 : Int32)) &&& 0x3f).toInt64))), .second] [(.int (1 : Int32))]))
          refine own_goto X10 hx (pc' := 144) (hb hby at_140) (by decide) (by decide) ?_
          show Goes _ _ _ _ _ _ (T10.setTop (mkF m 144 #[.val (.int p1), .val (.int p2), .val (.long q3), .second, .val (.int w3), .val (.int w5), .val (.int (w5 - (1 : Int32))), .val (.long (q3 &&& (((9223372036854775807 : Int64).toUInt64 >>> ((w5 - (1 : Int32)) &&& 0x3f).toInt64.toUInt64).toInt64))), .second, .val (.long ((q3 &&& (((9223372036854775807 : Int64).toUInt64 >>> ((w5 - (1 : Int32)) &&& 0x3f).toInt64.toUInt64).toInt64)) * ((1 : Int64) <<< ((w5 - (1 : Int32)) &&& 0x3f).toInt64))), .second] [(.int (1 : Int32))]))
          exact own_retN X10 hx (t := .boolean) N10 hlk (by decide) (by decide) hret (by simp) (hb hby at_144) (by rw [e10]; exact rfl)
      by_cases hc60_4 : w3 = (0 : Int32)
      ·
        refine own_ifYes X3 hx (pc' := 72) (hb hby at_60) ((if0 _ _).trans (teq (hc60_4 : w3 = (0 : Int32))).1) (by decide) (by decide) ?_
        show Goes _ _ _ _ _ _ (T3.setTop (mkF m 72 #[.val (.int p1), .val (.int p2), .val (.long q3), .second, .val (.int w3), .unset, .unset, .unset, .unset, .unset, .unset] []))
        refine own_iconst X3 hx (v := (1 : Int32)) (hb hby at_72) rfl ?_
        show Goes _ _ _ _ _ _ (T3.setTop (mkF m 73 #[.val (.int p1), .val (.int p2), .val (.long q3), .second, .val (.int w3), .unset, .unset, .unset, .unset, .unset, .unset] [(.int (1 : Int32))]))
        refine own_iloadN X3 hx (hb hby at_73) rfl ?_
        show Goes _ _ _ _ _ _ (T3.setTop (mkF m 74 #[.val (.int p1), .val (.int p2), .val (.long q3), .second, .val (.int w3), .unset, .unset, .unset, .unset, .unset, .unset] [(.int p2), (.int (1 : Int32))]))
        refine own_ldcInt X3 hx hZ hown (hw _ (List.mem_of_getElem? (i := 0) rfl)) (hb hby at_74) ?_
        show Goes _ _ _ _ _ _ (T3.setTop (mkF m 76 #[.val (.int p1), .val (.int p2), .val (.long q3), .second, .val (.int w3), .unset, .unset, .unset, .unset, .unset, .unset] [(.int (2147483647 : Int32)), (.int p2), (.int (1 : Int32))]))
        refine own_iand X3 hx (hb hby at_76) ?_
        show Goes _ _ _ _ _ _ (T3.setTop (mkF m 77 #[.val (.int p1), .val (.int p2), .val (.long q3), .second, .val (.int w3), .unset, .unset, .unset, .unset, .unset, .unset] [(.int (p2 &&& (2147483647 : Int32))), (.int (1 : Int32))]))
        refine own_callS X3 hx hZ hown (y := (⟨"java/lang/Math", "max", "(II)I"⟩ : MethodName)) (hw _ (List.mem_of_getElem? (i := 1) rfl)) (hw _ (List.mem_of_getElem? (i := 2) rfl)) (hw _ (List.mem_of_getElem? (i := 3) rfl)) (hw _ (List.mem_of_getElem? (i := 4) rfl)) (by decide) (W := 0) (by decide) (by decide) N3 e3 (by rw [hml]; rfl) (argsL := [(.int (1 : Int32)), (.int (p2 &&& (2147483647 : Int32)))]) (rest := []) (lenOf pd_5 rfl) (Nat.le_of_eq rfl) (by decide) (by decide) (rm1 l Z a0 hw [] (1 : Int32) (p2 &&& (2147483647 : Int32)) h0 n0 O0) rfl (hb hby at_77) ?_
        intro v11 T11 lc11 X11 N11 hQ11
        obtain ⟨m_11, rfl, hq11_0, e11⟩ := hQ11
        show Goes _ _ _ _ _ _ (T11.setTop (mkF m 80 #[.val (.int p1), .val (.int p2), .val (.long q3), .second, .val (.int w3), .unset, .unset, .unset, .unset, .unset, .unset] [(.int m_11)]))
        exact jn80_5 T11 _ X11 N11 e11 m_11 hq11_0
      ·
        refine own_ifNo X3 hx (hb hby at_60) ((if0 _ _).trans (feq (hc60_4 : ¬ (w3 = (0 : Int32)))).1) ?_
        show Goes _ _ _ _ _ _ (T3.setTop (mkF m 63 #[.val (.int p1), .val (.int p2), .val (.long q3), .second, .val (.int w3), .unset, .unset, .unset, .unset, .unset, .unset] []))
        refine own_iconst X3 hx (v := (1 : Int32)) (hb hby at_63) rfl ?_
        show Goes _ _ _ _ _ _ (T3.setTop (mkF m 64 #[.val (.int p1), .val (.int p2), .val (.long q3), .second, .val (.int w3), .unset, .unset, .unset, .unset, .unset, .unset] [(.int (1 : Int32))]))
        refine own_iloadN X3 hx (hb hby at_64) rfl ?_
        show Goes _ _ _ _ _ _ (T3.setTop (mkF m 65 #[.val (.int p1), .val (.int p2), .val (.long q3), .second, .val (.int w3), .unset, .unset, .unset, .unset, .unset, .unset] [(.int p2), (.int (1 : Int32))]))
        refine own_bipush X3 hx (v := (63 : Int32)) (hb hby at_65) rfl ?_
        show Goes _ _ _ _ _ _ (T3.setTop (mkF m 67 #[.val (.int p1), .val (.int p2), .val (.long q3), .second, .val (.int w3), .unset, .unset, .unset, .unset, .unset, .unset] [(.int (63 : Int32)), (.int p2), (.int (1 : Int32))]))
        refine own_iand X3 hx (hb hby at_67) ?_
        show Goes _ _ _ _ _ _ (T3.setTop (mkF m 68 #[.val (.int p1), .val (.int p2), .val (.long q3), .second, .val (.int w3), .unset, .unset, .unset, .unset, .unset, .unset] [(.int (p2 &&& (63 : Int32))), (.int (1 : Int32))]))
        refine own_iadd X3 hx (hb hby at_68) ?_
        show Goes _ _ _ _ _ _ (T3.setTop (mkF m 69 #[.val (.int p1), .val (.int p2), .val (.long q3), .second, .val (.int w3), .unset, .unset, .unset, .unset, .unset, .unset] [(.int ((1 : Int32) + (p2 &&& (63 : Int32))))]))
        refine own_goto X3 hx (pc' := 80) (hb hby at_69) (by decide) (by decide) ?_
        show Goes _ _ _ _ _ _ (T3.setTop (mkF m 80 #[.val (.int p1), .val (.int p2), .val (.long q3), .second, .val (.int w3), .unset, .unset, .unset, .unset, .unset, .unset] [(.int ((1 : Int32) + (p2 &&& (63 : Int32))))]))
        exact jn80_5 T3 _ X3 N3 e3 ((1 : Int32) + (p2 &&& (63 : Int32))) (own_wge _)
    by_cases hc48_2 : (p1 &&& (2 : Int32)) = (0 : Int32)
    ·
      refine own_ifYes X0 hx (pc' := 55) (hb hby at_48) ((if0 _ _).trans (teq (hc48_2 : (p1 &&& (2 : Int32)) = (0 : Int32))).1) (by decide) (by decide) ?_
      show Goes _ _ _ _ _ _ (T0.setTop (mkF m 55 #[.val (.int p1), .val (.int p2), .val (.long q3), .second, .unset, .unset, .unset, .unset, .unset, .unset, .unset] []))
      refine own_iconst X0 hx (v := (0 : Int32)) (hb hby at_55) rfl ?_
      show Goes _ _ _ _ _ _ (T0.setTop (mkF m 56 #[.val (.int p1), .val (.int p2), .val (.long q3), .second, .unset, .unset, .unset, .unset, .unset, .unset, .unset] [(.int (0 : Int32))]))
      exact jn56_3 T0 _ X0 N0 e0 (0 : Int32) trivial
    ·
      refine own_ifNo X0 hx (hb hby at_48) ((if0 _ _).trans (feq (hc48_2 : ¬ ((p1 &&& (2 : Int32)) = (0 : Int32)))).1) ?_
      show Goes _ _ _ _ _ _ (T0.setTop (mkF m 51 #[.val (.int p1), .val (.int p2), .val (.long q3), .second, .unset, .unset, .unset, .unset, .unset, .unset, .unset] []))
      refine own_iconst X0 hx (v := (1 : Int32)) (hb hby at_51) rfl ?_
      show Goes _ _ _ _ _ _ (T0.setTop (mkF m 52 #[.val (.int p1), .val (.int p2), .val (.long q3), .second, .unset, .unset, .unset, .unset, .unset, .unset, .unset] [(.int (1 : Int32))]))
      refine own_goto X0 hx (pc' := 56) (hb hby at_52) (by decide) (by decide) ?_
      show Goes _ _ _ _ _ _ (T0.setTop (mkF m 56 #[.val (.int p1), .val (.int p2), .val (.long q3), .second, .unset, .unset, .unset, .unset, .unset, .unset, .unset] [(.int (1 : Int32))]))
      exact jn56_3 T0 _ X0 N0 e0 (1 : Int32) trivial
  ·
    refine own_ifNo X0 hx (hb hby at_3) ((if0 _ _).trans (feq (hc3_1 : ¬ ((p1 &&& (1 : Int32)) = (0 : Int32)))).1) ?_
    show Goes _ _ _ _ _ _ (T0.setTop (mkF m 6 #[.val (.int p1), .val (.int p2), .val (.long q3), .second, .unset, .unset, .unset, .unset, .unset, .unset, .unset] []))
    refine own_iconst X0 hx (v := (1 : Int32)) (hb hby at_6) rfl ?_
    show Goes _ _ _ _ _ _ (T0.setTop (mkF m 7 #[.val (.int p1), .val (.int p2), .val (.long q3), .second, .unset, .unset, .unset, .unset, .unset, .unset, .unset] [(.int (1 : Int32))]))
    refine own_iloadN X0 hx (hb hby at_7) rfl ?_
    show Goes _ _ _ _ _ _ (T0.setTop (mkF m 8 #[.val (.int p1), .val (.int p2), .val (.long q3), .second, .unset, .unset, .unset, .unset, .unset, .unset, .unset] [(.int p2), (.int (1 : Int32))]))
    refine own_ldcInt X0 hx hZ hown (hw _ (List.mem_of_getElem? (i := 0) rfl)) (hb hby at_8) ?_
    show Goes _ _ _ _ _ _ (T0.setTop (mkF m 10 #[.val (.int p1), .val (.int p2), .val (.long q3), .second, .unset, .unset, .unset, .unset, .unset, .unset, .unset] [(.int (2147483647 : Int32)), (.int p2), (.int (1 : Int32))]))
    refine own_iand X0 hx (hb hby at_10) ?_
    show Goes _ _ _ _ _ _ (T0.setTop (mkF m 11 #[.val (.int p1), .val (.int p2), .val (.long q3), .second, .unset, .unset, .unset, .unset, .unset, .unset, .unset] [(.int (p2 &&& (2147483647 : Int32))), (.int (1 : Int32))]))
    refine own_callS X0 hx hZ hown (y := (⟨"java/lang/Math", "max", "(II)I"⟩ : MethodName)) (hw _ (List.mem_of_getElem? (i := 1) rfl)) (hw _ (List.mem_of_getElem? (i := 2) rfl)) (hw _ (List.mem_of_getElem? (i := 3) rfl)) (hw _ (List.mem_of_getElem? (i := 4) rfl)) (by decide) (W := 0) (by decide) (by decide) N0 e0 (by rw [hml]; rfl) (argsL := [(.int (1 : Int32)), (.int (p2 &&& (2147483647 : Int32)))]) (rest := []) (lenOf pd_5 rfl) (Nat.le_of_eq rfl) (by decide) (by decide) (rm1 l Z a0 hw [] (1 : Int32) (p2 &&& (2147483647 : Int32)) h0 n0 O0) rfl (hb hby at_11) ?_
    intro v12 T12 lc12 X12 N12 hQ12
    obtain ⟨m_12, rfl, hq12_0, e12⟩ := hQ12
    show Goes _ _ _ _ _ _ (T12.setTop (mkF m 14 #[.val (.int p1), .val (.int p2), .val (.long q3), .second, .unset, .unset, .unset, .unset, .unset, .unset, .unset] [(.int m_12)]))
    refine own_istore X12 hx (Ls' := #[.val (.int p1), .val (.int p2), .val (.long q3), .second, .val (.int m_12), .unset, .unset, .unset, .unset, .unset, .unset]) (hb hby at_14) rfl ?_
    show Goes _ _ _ _ _ _ (T12.setTop (mkF m 16 #[.val (.int p1), .val (.int p2), .val (.long q3), .second, .val (.int m_12), .unset, .unset, .unset, .unset, .unset, .unset] []))
    refine own_lloadN X12 hx (hb hby at_16) rfl ?_
    show Goes _ _ _ _ _ _ (T12.setTop (mkF m 17 #[.val (.int p1), .val (.int p2), .val (.long q3), .second, .val (.int m_12), .unset, .unset, .unset, .unset, .unset, .unset] [(.long q3)]))
    refine own_ldc2Long X12 hx hZ hown (hw _ (List.mem_of_getElem? (i := 5) rfl)) (hb hby at_17) ?_
    show Goes _ _ _ _ _ _ (T12.setTop (mkF m 20 #[.val (.int p1), .val (.int p2), .val (.long q3), .second, .val (.int m_12), .unset, .unset, .unset, .unset, .unset, .unset] [(.long (9223372036854775807 : Int64)), (.long q3)]))
    refine own_land X12 hx (hb hby at_20) ?_
    show Goes _ _ _ _ _ _ (T12.setTop (mkF m 21 #[.val (.int p1), .val (.int p2), .val (.long q3), .second, .val (.int m_12), .unset, .unset, .unset, .unset, .unset, .unset] [(.long (q3 &&& (9223372036854775807 : Int64)))]))
    refine own_lstore X12 hx (Ls' := #[.val (.int p1), .val (.int p2), .val (.long q3), .second, .val (.int m_12), .val (.long (q3 &&& (9223372036854775807 : Int64))), .second, .unset, .unset, .unset, .unset]) (hb hby at_21) rfl ?_
    show Goes _ _ _ _ _ _ (T12.setTop (mkF m 23 #[.val (.int p1), .val (.int p2), .val (.long q3), .second, .val (.int m_12), .val (.long (q3 &&& (9223372036854775807 : Int64))), .second, .unset, .unset, .unset, .unset] []))
    refine own_getS X12 hx hZ hown (host := "") (Or.inl (hw _ (List.mem_of_getElem? (i := 35) rfl))) Via.refl e12 (z2.ext O0.2) (hb hby at_23) (fun T13 X13 e13 => ?_)
    show Goes _ _ _ _ _ _ (T13.setTop (mkF m 26 #[.val (.int p1), .val (.int p2), .val (.long q3), .second, .val (.int m_12), .val (.long (q3 &&& (9223372036854775807 : Int64))), .second, .unset, .unset, .unset, .unset] [(.ref w_FIXED)]))
    refine own_iload X13 hx (hb hby at_26) rfl ?_
    show Goes _ _ _ _ _ _ (T13.setTop (mkF m 28 #[.val (.int p1), .val (.int p2), .val (.long q3), .second, .val (.int m_12), .val (.long (q3 &&& (9223372036854775807 : Int64))), .second, .unset, .unset, .unset, .unset] [(.int m_12), (.ref w_FIXED)]))
    refine own_lload X13 hx (hb hby at_28) rfl ?_
    show Goes _ _ _ _ _ _ (T13.setTop (mkF m 30 #[.val (.int p1), .val (.int p2), .val (.long q3), .second, .val (.int m_12), .val (.long (q3 &&& (9223372036854775807 : Int64))), .second, .unset, .unset, .unset, .unset] [(.long (q3 &&& (9223372036854775807 : Int64))), (.int m_12), (.ref w_FIXED)]))
    refine own_virtual X13 hx hZ hown (y := (⟨"com/example/lease/lease/model/RetryBackoff", "delaySeconds", "(IJ)J"⟩ : MethodName)) (z := (⟨"com/example/lease/lease/model/RetryBackoff", "delaySeconds", "(IJ)J"⟩ : MethodName)) (hw _ (List.mem_of_getElem? (i := 9) rfl)) (hw _ (List.mem_of_getElem? (i := 10) rfl)) (notFace_of_selects (args := #[]) (mvT hZ (hw _ (List.mem_of_getElem? (i := 12) rfl)))) (hw _ (List.mem_of_getElem? (i := 12) rfl)) (hw _ (List.mem_of_getElem? (i := 11) rfl)) (hw _ (List.mem_of_getElem? (i := 7) rfl)) (hw _ (List.mem_of_getElem? (i := 13) rfl)) (a := w_FIXED) (z3.ext O0.2) (by decide) (W := 0) (by decide) (by decide) N12 e13 (by rw [hml]; rfl) (argsL := [(.int m_12), (.long (q3 &&& (9223372036854775807 : Int64)))]) (rest := []) (lenOf pd_4 rfl) (Nat.le_of_eq rfl) (by decide) (by decide) (rm2F l Z a0 hw [] w_FIXED m_12 (q3 &&& (9223372036854775807 : Int64)) h0 n0 O0 (z3.ext O0.2) hq12_0 (own_nn _) (z5.ext O0.2)) rfl (hb hby at_30) ?_
    intro v14 T14 lc14 X14 N14 hQ14
    obtain ⟨rfl, e14⟩ := hQ14
    show Goes _ _ _ _ _ _ (T14.setTop (mkF m 33 #[.val (.int p1), .val (.int p2), .val (.long q3), .second, .val (.int m_12), .val (.long (q3 &&& (9223372036854775807 : Int64))), .second, .unset, .unset, .unset, .unset] [(.long (q3 &&& (9223372036854775807 : Int64)))]))
    refine own_lload X14 hx (hb hby at_33) rfl ?_
    show Goes _ _ _ _ _ _ (T14.setTop (mkF m 35 #[.val (.int p1), .val (.int p2), .val (.long q3), .second, .val (.int m_12), .val (.long (q3 &&& (9223372036854775807 : Int64))), .second, .unset, .unset, .unset, .unset] [(.long (q3 &&& (9223372036854775807 : Int64))), (.long (q3 &&& (9223372036854775807 : Int64)))]))
    refine own_lcmp X14 hx (hb hby at_35) ?_
    show Goes _ _ _ _ _ _ (T14.setTop (mkF m 36 #[.val (.int p1), .val (.int p2), .val (.long q3), .second, .val (.int m_12), .val (.long (q3 &&& (9223372036854775807 : Int64))), .second, .unset, .unset, .unset, .unset] [(.int (lcmpW (q3 &&& (9223372036854775807 : Int64)) (q3 &&& (9223372036854775807 : Int64))))]))
    refine own_ifNo X14 hx (hb hby at_36) ((if0 _ _).trans (teq (((lw_eq _ _).mpr rfl) : (lcmpW (q3 &&& (9223372036854775807 : Int64)) (q3 &&& (9223372036854775807 : Int64))) = (0 : Int32))).2) ?_
    show Goes _ _ _ _ _ _ (T14.setTop (mkF m 39 #[.val (.int p1), .val (.int p2), .val (.long q3), .second, .val (.int m_12), .val (.long (q3 &&& (9223372036854775807 : Int64))), .second, .unset, .unset, .unset, .unset] []))
    refine own_iconst X14 hx (v := (1 : Int32)) (hb hby at_39) rfl ?_
    show Goes _ _ _ _ _ _ (T14.setTop (mkF m 40 #[.val (.int p1), .val (.int p2), .val (.long q3), .second, .val (.int m_12), .val (.long (q3 &&& (9223372036854775807 : Int64))), .second, .unset, .unset, .unset, .unset] [(.int (1 : Int32))]))
    refine own_goto X14 hx (pc' := 44) (hb hby at_40) (by decide) (by decide) ?_
    show Goes _ _ _ _ _ _ (T14.setTop (mkF m 44 #[.val (.int p1), .val (.int p2), .val (.long q3), .second, .val (.int m_12), .val (.long (q3 &&& (9223372036854775807 : Int64))), .second, .unset, .unset, .unset, .unset] [(.int (1 : Int32))]))
    exact own_retN X14 hx (t := .boolean) N14 hlk (by decide) (by decide) hret (by simp) (hb hby at_44) (by rw [e14]; exact rfl)
set_option maxRecDepth 65536 in
set_option maxHeartbeats 40000000 in
theorem comes_1 {Post : Tables → Env → Array Value → State → Outcome → State → Prop} (hpost : ∀ tb e args s v u, (limb_1_1.after args s (.returned v) u = true ∧ limb_1_2.after args s (.returned v) u = true ∧ True) → FrameEnd s (.returned v) u (Jvm.fieldLocs frame_1_writes args s ++ Jvm.arrayLocs frame_1_arrays args s ++ Jvm.staticLocs frame_1_statics s) 0 0 → Post tb e args s (.returned v) u) :
    ArmFor flags0 classFile x code maxLocals ret World_1 tables_1 room_1 Calls_1 rest_1 Pre_1 Post := by
  intro l hfl _ _ p e ha hc hk s m args below hf hA hF happ hP
  obtain ⟨hcalls, hrest, hpre⟩ := hP
  obtain ⟨-, -, -, hnamed, -, -, -, hat⟩ := (Spec.applies_iff hf).mp happ
  obtain ⟨hg, hn⟩ := and_e (Cond.before_iff.mp (show (Jvm.Cond.and given_1 narrow_1).before args s = true from hpre))
  obtain ⟨hg1a, hg1b⟩ := and_e hg
  obtain ⟨hg2a, hg2b⟩ := and_e hg1b
  obtain ⟨hg3a, hg3b⟩ := and_e hg2b
  obtain ⟨w0, w1, w2, rfl⟩ : ∃ w0 w1 w2 : Value, args = #[w0, w1, w2] := by
    have hs : args.size = 3 := by simpa [Cond.value, given_1] using hg1a
    obtain ⟨L⟩ := args
    match L, hs with
    | [w0, w1, w2], _ => exact ⟨w0, w1, w2, rfl⟩
  have hw := fun d (hd : d ∈ tables_1) => atoms_spec (ws := Jvm.Cond.code x code maxLocals ret :: tables_1) hat d (List.mem_cons_of_mem _ hd)
  have hfit : Fit s := fun {y c} hc i hi => by
    obtain ⟨ha, rfl⟩ := Array.getElem?_eq_some_iff.mp hc
    have q := List.all_eq_true.mp ((Array.all_eq_true_iff_forall_mem.mp hF) _ (Array.getElem_mem ha)) i (List.mem_range.mpr hi)
    simpa [Array.getElem?_eq_getElem hi] using q
  obtain ⟨i0, ei0⟩ := is_v hg2a
  obtain rfl : w0 = (.int i0) := Option.some.inj ei0
  obtain ⟨i1, ei1⟩ := is_v hg3a
  obtain rfl : w1 = (.int i1) := Option.some.inj ei1
  obtain ⟨i2, ei2⟩ := isL_v hg3b
  obtain rfl : w2 = (.long i2) := Option.some.inj ei2
  obtain ⟨hn1a, hn1b⟩ := and_e hn
  obtain ⟨hn2a, hn2b⟩ := and_e hn1b
  obtain ⟨hn3a, hn3b⟩ := and_e hn2b
  obtain ⟨w_EXPONENTIAL, ev_w_EXPONENTIAL⟩ := exa_v hn1a
  obtain ⟨w_FIXED, ev_w_FIXED⟩ := exa_v hn3a
  obtain ⟨n, o, h1, h2, h3, v, L, rfl, ⟨N, hQ⟩, hq⟩ := rm0 l s _ hw tables_1 i0 i1 i2 w_EXPONENTIAL w_FIXED s.heap s.heap.size (Old.start s) ⟨Sta.start ev_w_EXPONENTIAL (Or.inr ⟨(hw _ (List.mem_of_getElem? (i := 7) rfl)), (hw _ (List.mem_of_getElem? (i := 8) rfl))⟩), Exa.start ev_w_EXPONENTIAL hn1a, Sta.start ev_w_FIXED (Or.inr ⟨(hw _ (List.mem_of_getElem? (i := 7) rfl)), (hw _ (List.mem_of_getElem? (i := 36) rfl))⟩), Exa.start ev_w_FIXED hn3a, Fld.start ((fld_at ev_w_EXPONENTIAL).symm.trans (own_eq hn2a rfl)), Fld.start ((fld_at ev_w_FIXED).symm.trans (own_eq hn3b rfl)), trivial⟩ p e ha hc hk s m _ below hf ((Spec.applies_iff_loose hf).mp happ).1 ⟨rfl, State.Warmed39.refl s, rfl⟩ trivial
  have hv : v = some (.int (1 : Int32)) := hQ
  subst hv
  refine ⟨n, _, h1, h2, h3, hpost _ _ _ _ _ _ ⟨Cond.after_iff.mpr rfl, Cond.after_iff.mpr (eq_i res_at (Term.int_eval (1)) rfl), trivial⟩ ⟨hq.1, hq.2.1, hq.2.2.sift fun y hy => Or.inr (N y hy)⟩⟩
theorem main_1_1 : Claimed_1_1 := comes_1 fun _ _ _ _ _ _ h hF => ⟨h.1, hF⟩
theorem main_1_2 : Claimed_1_2 := comes_1 fun _ _ _ _ _ _ h hF => ⟨h.2.1, hF⟩
end Jvm.Pilot.@@N@@
namespace Jvm.Pilot.@@N@@
open Jvm Jvm.ClassFile Sem Op Lib Jvm.Free Jvm.Stand Jvm.Pilot.@@N@@.Jvm.D
/-! MADE BY PROGRAM (witnessworld.py) out of the Statement's table words and the real class files: 18 classes; the members and pool entries that the words name. The judged class is class 1, her method 1. -/
namespace start1
open Jvm.ClassFile
def u (s : String) : CpInfo := .utf8 (stringToUtf16 s)
/-- a pool by its gaps: so many unusable entries, then the entry; so many at the end -/
def gap : Nat → List CpInfo → List CpInfo
  | 0, r => r
  | n + 1, r => .unusable :: gap n r
def poolList (es : List (Nat × CpInfo)) (last : Nat) : List CpInfo := es.foldr (fun e r => gap e.1 (e.2 :: r)) (gap last [])
def pool (es : List (Nat × CpInfo)) (last : Nat) : Array CpInfo := ⟨poolList es last⟩
def fileOf (pool : Array CpInfo) (this : Nat) (attrs : Array Attribute := #[]) (ms : Array MethodInfo := #[]) (fl : Nat := 33) (sup : Nat := 0) (ifs : Array Nat := #[]) (fds : Array FieldInfo := #[]) : ClassFile where
  minorVersion := 0
  majorVersion := 65
  constantPool := pool
  accessFlags := fl
  thisClass := this
  superClass := sup
  interfaces := ifs
  fields := fds
  methods := ms
  attributes := attrs
def plain (name : String) (sup : Option ClassId) : Class where
  name := name
  kind := .ordinary
  loader := none
  accessFlags := 33
  super := sup
  interfaces := #[]
  cf := none
  fields := #[]
  methods := #[]
  instanceTypes := #[]
  staticTypes := #[]
  resolved := #[]
  callSites := []
  init := .initialized
  statics := none
  mirror := none

def pool0 : Array CpInfo := pool [(5, u "<init>"), (0, u "()V"), (1, .class_ 10), (1, u "java/lang/Object")] 113

def k0m0 : Method := { name := "<init>", desc := "()V", sig := { parameters := [], returnType := none }, accessFlags := 1, code := none }
/-- java/lang/Object -/
def k0 : Class := { plain "java/lang/Object" none with
  accessFlags := 33
  interfaces := #[]
  cf := some (fileOf pool0 8 #[] #[{ accessFlags := 1, nameIndex := 5, descriptorIndex := 6, attributes := #[] }] 33 0 #[] #[])
  fields := #[]
  methods := #[k0m0]
  instanceTypes := #[]
  staticTypes := #[]
  resolved := Array.replicate 124 none
  statics := none }

def pool1 : Array CpInfo := pool [(2, .class_ 4), (1, u "java/lang/Object"), (0, u "<init>"), (0, u "()V"), (0, .integer 2147483647), (0, .methodref 9 10), (0, .class_ 11), (0, .nameAndType 12 13), (0, u "java/lang/Math"), (0, u "max"), (0, u "(II)I"), (2, .long 9223372036854775807), (1, .fieldref 19 20), (0, .class_ 21), (0, .nameAndType 22 23), (0, u "com/example/lease/lease/model/RetryBackoff"), (0, u "FIXED"), (0, u "Lcom/example/lease/lease/model/RetryBackoff;"), (0, .methodref 19 25), (0, .nameAndType 26 27), (0, u "delaySeconds"), (0, u "(IJ)J"), (0, .fieldref 19 29), (0, .nameAndType 30 23), (0, u "EXPONENTIAL"), (0, .class_ 32), (0, u "com/example/lease/lease/model/RetryBackoffDelaySecondsPinLaw"), (2, u "law"), (0, u "(IIJ)Z")] 3

def k1m0 : Method := { name := "<init>", desc := "()V", sig := { parameters := [], returnType := none }, accessFlags := 1, code := none }
def k1c1 : Code := { maxStack := 5, maxLocals := 11, code := code, exceptionTable := #[], attributes := #[] }
def k1m1 : Method := { name := "law", desc := "(IIJ)Z", sig := { parameters := [.int, .int, .long], returnType := some .boolean }, accessFlags := 9, code := some k1c1 }
/-- com/example/lease/lease/model/RetryBackoffDelaySecondsPinLaw -/
def k1 : Class := { plain "com/example/lease/lease/model/RetryBackoffDelaySecondsPinLaw" (some 0) with
  accessFlags := 49
  interfaces := #[]
  cf := some (fileOf pool1 31 #[] #[{ accessFlags := 1, nameIndex := 5, descriptorIndex := 6, attributes := #[] }, { accessFlags := 9, nameIndex := 35, descriptorIndex := 36, attributes := #[] }] 49 2 #[] #[])
  fields := #[]
  methods := #[k1m0, k1m1]
  instanceTypes := #[]
  staticTypes := #[]
  resolved := Array.replicate 40 none
  statics := none }

def pool2 : Array CpInfo := pool [(1, .class_ 2), (0, u "java/lang/Math"), (1, .class_ 6), (1, u "java/lang/Object"), (0, u "<init>"), (0, u "()V"), (89, .class_ 100), (1, u "java/lang/Math$RandomNumberGeneratorHolder"), (71, u "negativeZeroFloatBits"), (0, u "J"), (2, u "negativeZeroDoubleBits"), (21, u "max"), (46, u "$assertionsDisabled"), (0, u "Z"), (88, u "(II)I"), (2, u "twoToTheDoubleScaleDown"), (0, u "D"), (4, u "twoToTheDoubleScaleUp"), (9, u "E"), (3, u "PI"), (2, u "TAU"), (2, u "DEGREES_TO_RADIANS"), (0, u "RADIANS_TO_DEGREES")] 94

def k2m0 : Method := { name := "<init>", desc := "()V", sig := { parameters := [], returnType := none }, accessFlags := 2, code := none }
def k2c1 : Code := { maxStack := 2, maxLocals := 2, code := jdk_29_method_65_code, exceptionTable := #[], attributes := #[] }
def k2m1 : Method := { name := "max", desc := "(II)I", sig := { parameters := [.int, .int], returnType := some .int }, accessFlags := 9, code := some k2c1 }
/-- java/lang/Math -/
def k2 : Class := { plain "java/lang/Math" (some 0) with
  accessFlags := 49
  interfaces := #[]
  cf := some (fileOf pool2 1 #[.nestMembers #[98]] #[{ accessFlags := 2, nameIndex := 7, descriptorIndex := 8, attributes := #[] }, { accessFlags := 9, nameIndex := 198, descriptorIndex := 335, attributes := #[] }] 49 4 #[] #[{ accessFlags := 25, nameIndex := 354, descriptorIndex := 339, attributes := #[] }, { accessFlags := 25, nameIndex := 358, descriptorIndex := 339, attributes := #[] }, { accessFlags := 25, nameIndex := 361, descriptorIndex := 339, attributes := #[] }, { accessFlags := 26, nameIndex := 364, descriptorIndex := 339, attributes := #[] }, { accessFlags := 26, nameIndex := 365, descriptorIndex := 339, attributes := #[] }, { accessFlags := 26, nameIndex := 172, descriptorIndex := 173, attributes := #[] }, { accessFlags := 26, nameIndex := 176, descriptorIndex := 173, attributes := #[] }, { accessFlags := 8, nameIndex := 344, descriptorIndex := 339, attributes := #[] }, { accessFlags := 8, nameIndex := 338, descriptorIndex := 339, attributes := #[] }, { accessFlags := 4120, nameIndex := 245, descriptorIndex := 246, attributes := #[] }])
  fields := #[{ name := "E", type := .double, accessFlags := 25, slot := 0, constantValue := 0 }, { name := "PI", type := .double, accessFlags := 25, slot := 1, constantValue := 0 }, { name := "TAU", type := .double, accessFlags := 25, slot := 2, constantValue := 0 }, { name := "DEGREES_TO_RADIANS", type := .double, accessFlags := 26, slot := 3, constantValue := 0 }, { name := "RADIANS_TO_DEGREES", type := .double, accessFlags := 26, slot := 4, constantValue := 0 }, { name := "negativeZeroFloatBits", type := .long, accessFlags := 26, slot := 5, constantValue := 0 }, { name := "negativeZeroDoubleBits", type := .long, accessFlags := 26, slot := 6, constantValue := 0 }, { name := "twoToTheDoubleScaleUp", type := .double, accessFlags := 8, slot := 7, constantValue := 0 }, { name := "twoToTheDoubleScaleDown", type := .double, accessFlags := 8, slot := 8, constantValue := 0 }, { name := "$assertionsDisabled", type := .boolean, accessFlags := 4120, slot := 9, constantValue := 0 }]
  methods := #[k2m0, k2m1]
  instanceTypes := #[]
  staticTypes := #[.double, .double, .double, .double, .double, .long, .long, .double, .double, .boolean]
  resolved := Array.replicate 460 none
  statics := none }

def pool3 : Array CpInfo := pool [(1, .class_ 2), (0, u "java/lang/constant/Constable"), (0, .class_ 4), (0, u "java/lang/Object")] 6

/-- java/lang/constant/Constable -/
def k3 : Class := { plain "java/lang/constant/Constable" (some 0) with
  accessFlags := 1537
  interfaces := #[]
  cf := some (fileOf pool3 1 #[] #[] 1537 3 #[] #[])
  fields := #[]
  methods := #[]
  instanceTypes := #[]
  staticTypes := #[]
  resolved := Array.replicate 11 none
  statics := none }

def pool4 : Array CpInfo := pool [(1, .class_ 2), (0, u "java/lang/Comparable"), (0, .class_ 4), (0, u "java/lang/Object")] 7

/-- java/lang/Comparable -/
def k4 : Class := { plain "java/lang/Comparable" (some 0) with
  accessFlags := 1537
  interfaces := #[]
  cf := some (fileOf pool4 1 #[] #[] 1537 3 #[] #[])
  fields := #[]
  methods := #[]
  instanceTypes := #[]
  staticTypes := #[]
  resolved := Array.replicate 12 none
  statics := none }

def pool5 : Array CpInfo := pool [(1, .class_ 2), (0, u "java/io/Serializable"), (0, .class_ 4), (0, u "java/lang/Object")] 2

/-- java/io/Serializable -/
def k5 : Class := { plain "java/io/Serializable" (some 0) with
  accessFlags := 1537
  interfaces := #[]
  cf := some (fileOf pool5 1 #[] #[] 1537 3 #[] #[])
  fields := #[]
  methods := #[]
  instanceTypes := #[]
  staticTypes := #[]
  resolved := Array.replicate 7 none
  statics := none }

def pool6 : Array CpInfo := pool [(2, .class_ 4), (1, u "java/lang/Enum"), (0, u "name"), (0, u "Ljava/lang/String;"), (0, .fieldref 2 8), (0, .nameAndType 9 10), (0, u "ordinal"), (0, u "I"), (1, .class_ 14), (1, u "java/lang/Object"), (4, u "hash"), (86, .class_ 108), (1, u "java/lang/Enum$EnumDesc"), (2, .class_ 112), (0, u "java/lang/constant/Constable"), (0, .class_ 114), (0, u "java/lang/Comparable"), (0, .class_ 116), (0, u "java/io/Serializable"), (9, u "()I")] 77

def k6c0 : Code := { maxStack := 1, maxLocals := 1, code := jdk_37_method_2_code, exceptionTable := #[], attributes := #[] }
def k6m0 : Method := { name := "ordinal", desc := "()I", sig := { parameters := [], returnType := some .int }, accessFlags := 17, code := some k6c0 }
/-- java/lang/Enum -/
def k6 : Class := { plain "java/lang/Enum" (some 0) with
  accessFlags := 1057
  interfaces := #[3, 4, 5]
  cf := some (fileOf pool6 2 #[.nestMembers #[106]] #[{ accessFlags := 17, nameIndex := 9, descriptorIndex := 126, attributes := #[] }] 1057 12 #[111, 113, 115] #[{ accessFlags := 18, nameIndex := 5, descriptorIndex := 6, attributes := #[] }, { accessFlags := 18, nameIndex := 9, descriptorIndex := 10, attributes := #[] }, { accessFlags := 2, nameIndex := 19, descriptorIndex := 10, attributes := #[] }])
  fields := #[{ name := "name", type := (.object "java/lang/String"), accessFlags := 18, slot := 0, constantValue := 0 }, { name := "ordinal", type := .int, accessFlags := 18, slot := 1, constantValue := 0 }, { name := "hash", type := .int, accessFlags := 2, slot := 2, constantValue := 0 }]
  methods := #[k6m0]
  instanceTypes := #[(.object "java/lang/String"), .int, .int]
  staticTypes := #[]
  resolved := Array.replicate 204 none
  statics := none }

def pool7 : Array CpInfo := pool [(9, .class_ 10), (0, u "com/example/lease/lease/model/WireNamed"), (62, .class_ 74), (0, u "java/lang/Object")] 43

/-- com/example/lease/lease/model/WireNamed -/
def k7 : Class := { plain "com/example/lease/lease/model/WireNamed" (some 0) with
  accessFlags := 1537
  interfaces := #[]
  cf := some (fileOf pool7 9 #[] #[] 1537 73 #[] #[])
  fields := #[]
  methods := #[]
  instanceTypes := #[]
  staticTypes := #[]
  resolved := Array.replicate 118 none
  statics := none }

def pool8 : Array CpInfo := pool [(1, .class_ 2), (0, u "com/example/lease/lease/model/RetryBackoff"), (2, u "EXPONENTIAL"), (0, u "Lcom/example/lease/lease/model/RetryBackoff;"), (2, u "FIXED"), (2, u "$VALUES"), (0, u "[Lcom/example/lease/lease/model/RetryBackoff;"), (6, .class_ 22), (1, u "java/lang/Enum"), (8, u "wireName"), (0, u "Ljava/lang/String;"), (3, .class_ 38), (1, u "com/example/lease/lease/model/WireNamed"), (14, .methodref 1 54), (0, .nameAndType 55 56), (0, u "ordinal"), (0, u "()I"), (5, .methodref 1 63), (0, .nameAndType 64 65), (0, u "doubled"), (0, u "(JI)J"), (0, .methodref 67 68), (0, .class_ 69), (0, .nameAndType 70 71), (0, u "java/lang/Long"), (0, u "numberOfLeadingZeros"), (0, u "(J)I"), (27, u "delaySeconds"), (0, u "(IJ)J")] 25

def k8c0 : Code := { maxStack := 4, maxLocals := 4, code := prog_22_method_6_code, exceptionTable := #[], attributes := #[] }
def k8m0 : Method := { name := "delaySeconds", desc := "(IJ)J", sig := { parameters := [.int, .long], returnType := some .long }, accessFlags := 1, code := some k8c0 }
def k8c1 : Code := { maxStack := 5, maxLocals := 3, code := prog_22_method_7_code, exceptionTable := #[], attributes := #[] }
def k8m1 : Method := { name := "doubled", desc := "(JI)J", sig := { parameters := [.long, .int], returnType := some .long }, accessFlags := 10, code := some k8c1 }
/-- com/example/lease/lease/model/RetryBackoff -/
def k8 : Class := { plain "com/example/lease/lease/model/RetryBackoff" (some 6) with
  accessFlags := 16433
  interfaces := #[7]
  cf := some (fileOf pool8 1 #[] #[{ accessFlags := 1, nameIndex := 99, descriptorIndex := 100, attributes := #[] }, { accessFlags := 10, nameIndex := 64, descriptorIndex := 65, attributes := #[] }] 16433 20 #[36] #[{ accessFlags := 16409, nameIndex := 5, descriptorIndex := 6, attributes := #[] }, { accessFlags := 16409, nameIndex := 9, descriptorIndex := 6, attributes := #[] }, { accessFlags := 18, nameIndex := 31, descriptorIndex := 32, attributes := #[] }, { accessFlags := 4122, nameIndex := 12, descriptorIndex := 13, attributes := #[] }])
  fields := #[{ name := "EXPONENTIAL", type := (.object "com/example/lease/lease/model/RetryBackoff"), accessFlags := 16409, slot := 0, constantValue := 0 }, { name := "FIXED", type := (.object "com/example/lease/lease/model/RetryBackoff"), accessFlags := 16409, slot := 1, constantValue := 0 }, { name := "wireName", type := (.object "java/lang/String"), accessFlags := 18, slot := 3, constantValue := 0 }, { name := "$VALUES", type := (.array (.object "com/example/lease/lease/model/RetryBackoff")), accessFlags := 4122, slot := 2, constantValue := 0 }]
  methods := #[k8m0, k8m1]
  instanceTypes := #[(.object "java/lang/String"), .int, .int, (.object "java/lang/String")]
  staticTypes := #[(.object "com/example/lease/lease/model/RetryBackoff"), (.object "com/example/lease/lease/model/RetryBackoff"), (.array (.object "com/example/lease/lease/model/RetryBackoff"))]
  resolved := Array.replicate 126 none
  statics := some 0 }

def pool9 : Array CpInfo := pool [(2, .class_ 4), (1, u "java/lang/Object"), (0, u "<init>"), (0, u "()V"), (1, .class_ 10), (1, u "java/lang/Number"), (2, .class_ 14), (0, u "java/io/Serializable"), (0, u "serialVersionUID"), (0, u "J")] 20

def k9m0 : Method := { name := "<init>", desc := "()V", sig := { parameters := [], returnType := none }, accessFlags := 1, code := none }
/-- java/lang/Number -/
def k9 : Class := { plain "java/lang/Number" (some 0) with
  accessFlags := 1057
  interfaces := #[5]
  cf := some (fileOf pool9 8 #[] #[{ accessFlags := 1, nameIndex := 5, descriptorIndex := 6, attributes := #[] }] 1057 2 #[13] #[{ accessFlags := 26, nameIndex := 15, descriptorIndex := 16, attributes := #[] }])
  fields := #[{ name := "serialVersionUID", type := .long, accessFlags := 26, slot := 0, constantValue := 0 }]
  methods := #[k9m0]
  instanceTypes := #[]
  staticTypes := #[.long]
  resolved := Array.replicate 37 none
  statics := none }

def pool10 : Array CpInfo := pool [(1, .class_ 2), (0, u "java/lang/constant/ConstantDesc"), (0, .class_ 4), (0, u "java/lang/Object")] 32

/-- java/lang/constant/ConstantDesc -/
def k10 : Class := { plain "java/lang/constant/ConstantDesc" (some 0) with
  accessFlags := 1537
  interfaces := #[]
  cf := some (fileOf pool10 1 #[] #[] 1537 3 #[] #[])
  fields := #[]
  methods := #[]
  instanceTypes := #[]
  staticTypes := #[]
  resolved := Array.replicate 37 none
  statics := none }

def pool11 : Array CpInfo := pool [(1, .class_ 2), (0, u "java/lang/Long"), (15, .class_ 20), (1, u "java/lang/Integer"), (79, u "numberOfLeadingZeros"), (0, u "(J)I"), (133, .class_ 237), (1, u "java/lang/Long$LongCache"), (33, .class_ 272), (0, u "java/lang/Number"), (2, u "value"), (0, u "J"), (31, .methodref 18 309), (0, .nameAndType 100 310), (0, u "(I)I"), (50, u "TYPE"), (0, u "Ljava/lang/Class;"), (0, .class_ 364), (0, u "java/lang/Comparable"), (0, .class_ 366), (0, u "java/lang/constant/Constable"), (0, .class_ 368), (0, u "java/lang/constant/ConstantDesc"), (0, u "MIN_VALUE"), (1, u "MAX_VALUE"), (4, u "SIZE"), (0, u "I"), (1, u "BYTES"), (1, u "serialVersionUID")] 142

def k11c0 : Code := { maxStack := 3, maxLocals := 3, code := jdk_35_method_48_code, exceptionTable := #[], attributes := #[] }
def k11m0 : Method := { name := "numberOfLeadingZeros", desc := "(J)I", sig := { parameters := [.long], returnType := some .int }, accessFlags := 9, code := some k11c0 }
/-- java/lang/Long -/
def k11 : Class := { plain "java/lang/Long" (some 9) with
  accessFlags := 49
  interfaces := #[4, 3, 10]
  cf := some (fileOf pool11 1 #[.nestMembers #[235]] #[{ accessFlags := 9, nameIndex := 100, descriptorIndex := 101, attributes := #[] }] 49 271 #[363, 365, 367] #[{ accessFlags := 25, nameIndex := 369, descriptorIndex := 276, attributes := #[] }, { accessFlags := 25, nameIndex := 371, descriptorIndex := 276, attributes := #[] }, { accessFlags := 25, nameIndex := 361, descriptorIndex := 362, attributes := #[] }, { accessFlags := 18, nameIndex := 275, descriptorIndex := 276, attributes := #[] }, { accessFlags := 25, nameIndex := 376, descriptorIndex := 377, attributes := #[] }, { accessFlags := 25, nameIndex := 379, descriptorIndex := 377, attributes := #[] }, { accessFlags := 26, nameIndex := 381, descriptorIndex := 276, attributes := #[] }])
  fields := #[{ name := "MIN_VALUE", type := .long, accessFlags := 25, slot := 0, constantValue := 0 }, { name := "MAX_VALUE", type := .long, accessFlags := 25, slot := 1, constantValue := 0 }, { name := "TYPE", type := (.object "java/lang/Class"), accessFlags := 25, slot := 2, constantValue := 0 }, { name := "value", type := .long, accessFlags := 18, slot := 0, constantValue := 0 }, { name := "SIZE", type := .int, accessFlags := 25, slot := 3, constantValue := 0 }, { name := "BYTES", type := .int, accessFlags := 25, slot := 4, constantValue := 0 }, { name := "serialVersionUID", type := .long, accessFlags := 26, slot := 5, constantValue := 0 }]
  methods := #[k11m0]
  instanceTypes := #[.long]
  staticTypes := #[.long, .long, (.object "java/lang/Class"), .int, .int, .long]
  resolved := Array.replicate 524 none
  statics := none }

def pool12 : Array CpInfo := pool [(1, .class_ 2), (0, u "java/lang/Integer"), (16, u "digits"), (0, u "[C"), (32, u "numberOfLeadingZeros"), (0, u "(I)I"), (30, u "DigitOnes"), (0, u "[B"), (2, u "DigitTens"), (99, .class_ 190), (0, u "java/lang/Integer$IntegerCache"), (3, u "I"), (8, .class_ 204), (0, u "java/lang/Number"), (2, u "value"), (56, .integer 65536), (37, u "TYPE"), (0, u "Ljava/lang/Class;"), (0, .class_ 305), (0, u "java/lang/Comparable"), (0, .class_ 307), (0, u "java/lang/constant/Constable"), (0, .class_ 309), (0, u "java/lang/constant/ConstantDesc"), (0, u "MIN_VALUE"), (1, u "MAX_VALUE"), (3, u "SIZE"), (1, u "BYTES"), (1, u "serialVersionUID"), (0, u "J")] 131

def k12c0 : Code := { maxStack := 3, maxLocals := 2, code := jdk_33_method_47_code, exceptionTable := #[], attributes := #[] }
def k12m0 : Method := { name := "numberOfLeadingZeros", desc := "(I)I", sig := { parameters := [.int], returnType := some .int }, accessFlags := 9, code := some k12c0 }
/-- java/lang/Integer -/
def k12 : Class := { plain "java/lang/Integer" (some 9) with
  accessFlags := 49
  interfaces := #[4, 3, 10]
  cf := some (fileOf pool12 1 #[.nestMembers #[189]] #[{ accessFlags := 9, nameIndex := 53, descriptorIndex := 54, attributes := #[] }] 49 203 #[304, 306, 308] #[{ accessFlags := 25, nameIndex := 310, descriptorIndex := 194, attributes := #[] }, { accessFlags := 25, nameIndex := 312, descriptorIndex := 194, attributes := #[] }, { accessFlags := 25, nameIndex := 302, descriptorIndex := 303, attributes := #[] }, { accessFlags := 24, nameIndex := 19, descriptorIndex := 20, attributes := #[] }, { accessFlags := 24, nameIndex := 89, descriptorIndex := 86, attributes := #[] }, { accessFlags := 24, nameIndex := 85, descriptorIndex := 86, attributes := #[] }, { accessFlags := 18, nameIndex := 207, descriptorIndex := 194, attributes := #[] }, { accessFlags := 25, nameIndex := 316, descriptorIndex := 194, attributes := #[] }, { accessFlags := 25, nameIndex := 318, descriptorIndex := 194, attributes := #[] }, { accessFlags := 26, nameIndex := 320, descriptorIndex := 321, attributes := #[] }])
  fields := #[{ name := "MIN_VALUE", type := .int, accessFlags := 25, slot := 0, constantValue := 0 }, { name := "MAX_VALUE", type := .int, accessFlags := 25, slot := 1, constantValue := 0 }, { name := "TYPE", type := (.object "java/lang/Class"), accessFlags := 25, slot := 2, constantValue := 0 }, { name := "digits", type := (.array .char), accessFlags := 24, slot := 3, constantValue := 0 }, { name := "DigitTens", type := (.array .byte), accessFlags := 24, slot := 4, constantValue := 0 }, { name := "DigitOnes", type := (.array .byte), accessFlags := 24, slot := 5, constantValue := 0 }, { name := "value", type := .int, accessFlags := 18, slot := 0, constantValue := 0 }, { name := "SIZE", type := .int, accessFlags := 25, slot := 6, constantValue := 0 }, { name := "BYTES", type := .int, accessFlags := 25, slot := 7, constantValue := 0 }, { name := "serialVersionUID", type := .long, accessFlags := 26, slot := 8, constantValue := 0 }]
  methods := #[k12m0]
  instanceTypes := #[.int]
  staticTypes := #[.int, .int, (.object "java/lang/Class"), (.array .char), (.array .byte), (.array .byte), .int, .int, .long]
  resolved := Array.replicate 453 none
  statics := none }

def pool13 : Array CpInfo := pool [(1, u "java/lang/Cloneable"), (0, .class_ 1), (0, u "java/lang/Object"), (0, .class_ 3)] 3

/-- java/lang/Cloneable -/
def k13 : Class := { plain "java/lang/Cloneable" (some 0) with
  accessFlags := 1537
  interfaces := #[]
  cf := some (fileOf pool13 2 #[] #[] 1537 4 #[] #[])
  fields := #[]
  methods := #[]
  instanceTypes := #[]
  staticTypes := #[]
  resolved := Array.replicate 8 none
  statics := none }

/-- the primitive byte -/
def k14 : Class := { plain "byte" none with kind := .primitive 'B', accessFlags := 0x411 }
/-- [B -/
def k15 : Class := { plain "[B" (some 0) with kind := .array 14 .byte, interfaces := #[13, 5], accessFlags := 1041 }

/-- the primitive int -/
def k16 : Class := { plain "int" none with kind := .primitive 'I', accessFlags := 0x411 }
/-- [I -/
def k17 : Class := { plain "[I" (some 0) with kind := .array 16 .int, interfaces := #[13, 5], accessFlags := 1041 }

def heap : Heap := #[{ cls := 8, slots := #[.ref 1, .ref 2, .null], vm := .statics 8 },
  { cls := 8, slots := #[.null, .int 0, .int 0, .null], vm := .none },
  { cls := 8, slots := #[.null, .int 1, .int 0, .null], vm := .none }]
def classes : Array Class := #[k0, k1, k2, k3, k4, k5, k6, k7, k8, k9, k10, k11, k12, k13, k14, k15, k16, k17]
def interned : List (Array UInt16 × Addr) := []
def slotsUsed : Nat := 11
def theMethod : MethodId := ⟨1, 1⟩
def args0 : Array Value := #[.int 5, .int 3, .long 7]
def aboutOver (below : List Frame) : State where
  vm := { classes := classes, interned := interned.toArray }
  heap := heap
  slotsUsed := slotsUsed
  threads := #[{ frames := .invoking theMethod args0 :: below }]
def below0 : List Frame := [.native { method := ⟨0, 0⟩, args := #[] }]
def about1 : State := aboutOver below0
def p0 : Program := .bare "" "" ""
def e0 : Env := launch0.env 0 0 0
theorem w_frames : about1.frames = Frame.invoking theMethod args0 :: below0 := rfl
set_option maxRecDepth 65536 in
theorem w_args : argsFit about1.vm theMethod args0 = true := by decide +kernel
set_option maxRecDepth 65536 in
theorem w_heap : heapFits about1 = true := by decide +kernel
set_option maxRecDepth 65536 in
theorem w_runnable : about1.curStatus? = some .runnable := by decide +kernel
set_option maxRecDepth 65536 in
theorem w_alone : about1.alone = true := by decide +kernel
set_option maxRecDepth 65536 in
theorem w_named : about1.methodNamed? x = some theMethod := by decide +kernel
set_option maxRecDepth 65536 in
theorem w_hears : about1.hears theMethod below0 = true := by decide +kernel
set_option maxRecDepth 65536 in
theorem w_ripe : about1.ripe theMethod args0 below0 = true := by decide +kernel
theorem w_running : about1.status = .running := rfl
set_option maxRecDepth 65536 in
theorem w_room : about1.hasRoom e0.platform room_1 = true :=
  launch0.hasRoom_least _ room_1 (by decide +kernel) (by decide +kernel) (by decide +kernel) (by decide +kernel) (by decide +kernel) (by decide +kernel)
theorem allAtoms_all (ts : List Jvm.Cond) (a : Array Jvm.Value) (st : Jvm.State) : (allAtoms ts).before a st = ts.all (fun c => c.before a st) := by
  induction ts with
  | nil => rfl
  | cons c t ih =>
    show (Jvm.Cond.and c (allAtoms t)).before a st = _
    rw [Jvm.Cond.before_and, ih, List.all_cons]
def words1 : List Jvm.Cond := Jvm.Cond.code x code maxLocals ret :: tables_1
/-- a 'code' word, met by the world's own term for the bytes: nothing is compared byte by byte -/
theorem code_word {y : MethodName} {bytes : ByteArray} {mx : Nat} {rt : Option FieldType} {a : Array Value} {s : State} {m : MethodId} {meth : Method} {c : Code} (h1 : s.methodNamed? y = some m) (h2 : s.vm.method? m = some meth) (h3 : meth.code = some c) (h4 : c.code = bytes)
    (h5 : (c.maxLocals == mx && c.exceptionTable.isEmpty && decide (c.maxStack ≤ mostOperands) && decide (meth.sig.returnType = rt) && !meth.locks && decide (parseMethodDescriptor y.desc = some meth.sig)) = true) : (Jvm.Cond.code y bytes mx rt).before a s = true := by
  simp only [Bool.and_eq_true, beq_iff_eq, Bool.not_eq_true', decide_eq_true_eq] at h5
  obtain ⟨⟨⟨⟨⟨g1, g2⟩, g3⟩, g4⟩, g5⟩, g6⟩ := h5
  simp [Cond.before, Cond.holds, Cond.value, h1, h2, h3, h4, g1, g2, g3, g4, g5, g6]
def isCode : Jvm.Cond → Bool
  | .code _ _ _ _ => true
  | _ => false
theorem all_split {L : List Jvm.Cond} {P : Jvm.Cond → Bool} (h1 : L.all (fun c => isCode c || P c) = true) (h2 : ∀ c ∈ L.filter isCode, P c = true) : L.all P = true := by
  refine List.all_eq_true.mpr fun c hc => ?_
  have h := List.all_eq_true.mp h1 c hc
  rcases Bool.eq_false_or_eq_true (isCode c) with hi | hi
  · exact h2 c (List.mem_filter.mpr ⟨hc, hi⟩)
  · simpa [hi] using h
set_option maxRecDepth 65536 in
theorem w_c0 : (Jvm.Cond.code x code maxLocals ret).before args0 about1 = true := code_word (m := ⟨1, 1⟩) (meth := k1m1) (c := k1c1) (by decide +kernel) rfl rfl rfl (by decide +kernel)
set_option maxRecDepth 65536 in
theorem w_c1 : (Jvm.Cond.code ({ cls := "java/lang/Math", name := "max", desc := "(II)I" } : Jvm.MethodName) jdk_29_method_65_code (2 : Nat) (Option.some Jvm.ClassFile.FieldType.int)).before args0 about1 = true := code_word (m := ⟨2, 1⟩) (meth := k2m1) (c := k2c1) (by decide +kernel) rfl rfl rfl (by decide +kernel)
set_option maxRecDepth 65536 in
theorem w_c2 : (Jvm.Cond.code ({ cls := "com/example/lease/lease/model/RetryBackoff", name := "delaySeconds", desc := "(IJ)J" } : Jvm.MethodName) prog_22_method_6_code (4 : Nat) (Option.some Jvm.ClassFile.FieldType.long)).before args0 about1 = true := code_word (m := ⟨8, 0⟩) (meth := k8m0) (c := k8c0) (by decide +kernel) rfl rfl rfl (by decide +kernel)
set_option maxRecDepth 65536 in
theorem w_c3 : (Jvm.Cond.code ({ cls := "java/lang/Enum", name := "ordinal", desc := "()I" } : Jvm.MethodName) jdk_37_method_2_code (1 : Nat) (Option.some Jvm.ClassFile.FieldType.int)).before args0 about1 = true := code_word (m := ⟨6, 0⟩) (meth := k6m0) (c := k6c0) (by decide +kernel) rfl rfl rfl (by decide +kernel)
set_option maxRecDepth 65536 in
theorem w_c4 : (Jvm.Cond.code ({ cls := "com/example/lease/lease/model/RetryBackoff", name := "doubled", desc := "(JI)J" } : Jvm.MethodName) prog_22_method_7_code (3 : Nat) (Option.some Jvm.ClassFile.FieldType.long)).before args0 about1 = true := code_word (m := ⟨8, 1⟩) (meth := k8m1) (c := k8c1) (by decide +kernel) rfl rfl rfl (by decide +kernel)
set_option maxRecDepth 65536 in
theorem w_c5 : (Jvm.Cond.code ({ cls := "java/lang/Long", name := "numberOfLeadingZeros", desc := "(J)I" } : Jvm.MethodName) jdk_35_method_48_code (3 : Nat) (Option.some Jvm.ClassFile.FieldType.int)).before args0 about1 = true := code_word (m := ⟨11, 0⟩) (meth := k11m0) (c := k11c0) (by decide +kernel) rfl rfl rfl (by decide +kernel)
set_option maxRecDepth 65536 in
theorem w_c6 : (Jvm.Cond.code ({ cls := "java/lang/Integer", name := "numberOfLeadingZeros", desc := "(I)I" } : Jvm.MethodName) jdk_33_method_47_code (2 : Nat) (Option.some Jvm.ClassFile.FieldType.int)).before args0 about1 = true := code_word (m := ⟨12, 0⟩) (meth := k12m0) (c := k12c0) (by decide +kernel) rfl rfl rfl (by decide +kernel)
def codes1 : List Jvm.Cond := [Jvm.Cond.code x code maxLocals ret, Jvm.Cond.code ({ cls := "java/lang/Math", name := "max", desc := "(II)I" } : Jvm.MethodName) jdk_29_method_65_code (2 : Nat) (Option.some Jvm.ClassFile.FieldType.int), Jvm.Cond.code ({ cls := "com/example/lease/lease/model/RetryBackoff", name := "delaySeconds", desc := "(IJ)J" } : Jvm.MethodName) prog_22_method_6_code (4 : Nat) (Option.some Jvm.ClassFile.FieldType.long), Jvm.Cond.code ({ cls := "java/lang/Enum", name := "ordinal", desc := "()I" } : Jvm.MethodName) jdk_37_method_2_code (1 : Nat) (Option.some Jvm.ClassFile.FieldType.int), Jvm.Cond.code ({ cls := "com/example/lease/lease/model/RetryBackoff", name := "doubled", desc := "(JI)J" } : Jvm.MethodName) prog_22_method_7_code (3 : Nat) (Option.some Jvm.ClassFile.FieldType.long), Jvm.Cond.code ({ cls := "java/lang/Long", name := "numberOfLeadingZeros", desc := "(J)I" } : Jvm.MethodName) jdk_35_method_48_code (3 : Nat) (Option.some Jvm.ClassFile.FieldType.int), Jvm.Cond.code ({ cls := "java/lang/Integer", name := "numberOfLeadingZeros", desc := "(I)I" } : Jvm.MethodName) jdk_33_method_47_code (2 : Nat) (Option.some Jvm.ClassFile.FieldType.int)]
set_option maxRecDepth 65536 in
theorem codes_eq : words1.filter isCode = codes1 := rfl
theorem w_codes : ∀ c ∈ words1.filter isCode, c.before args0 about1 = true := by
  rw [codes_eq]
  intro c hc
  simp only [codes1, List.mem_cons, List.not_mem_nil, or_false] at hc
  rcases hc with rfl | rfl | rfl | rfl | rfl | rfl | rfl
  · exact w_c0
  · exact w_c1
  · exact w_c2
  · exact w_c3
  · exact w_c4
  · exact w_c5
  · exact w_c6
set_option maxRecDepth 65536 in
theorem w_t1 : (words1.take 24).all (fun c => isCode c || c.before args0 about1) = true := by decide +kernel
set_option maxRecDepth 65536 in
theorem w_t2 : (words1.drop 24).all (fun c => isCode c || c.before args0 about1) = true := by decide +kernel
theorem w_tables : (allAtoms (Jvm.Cond.code x code maxLocals ret :: tables_1)).before args0 about1 = true := by
  rw [allAtoms_all]
  show words1.all (fun c => c.before args0 about1) = true
  refine all_split ?_ w_codes
  rw [← List.take_append_drop 24 words1, List.all_append, w_t1, w_t2]
  rfl
set_option maxRecDepth 65536 in
theorem w_case : (Jvm.Cond.and given_1 narrow_1).before args0 about1 = true := by decide +kernel
theorem w_applies : (headSpec (Jvm.Cond.code x code maxLocals ret :: tables_1) room_1).applies x e0.platform about1 = true :=
  (Spec.applies_iff w_frames).mpr ⟨w_running, w_runnable, w_alone, w_named, w_hears, w_ripe, w_room, w_tables⟩
theorem atStart : AtStart classFile x code maxLocals ret World_1 tables_1 room_1 Calls_1 rest_1 Pre_1 launch0 p0 e0 about1 theMethod args0 below0 :=
  ⟨lists_1, trivial, launch0.admits_env _ _ _, launch0.least_env, fairChoices_fair.cas, fairChoices_fair.clock, w_frames, w_args, w_heap, w_applies, trivial, trivial, w_case⟩
end start1
theorem witness_1 : WitnessClaimed_1 := ⟨start1.p0, start1.e0, start1.about1, start1.theMethod, start1.args0, start1.below0, start1.atStart⟩
end Jvm.Pilot.@@N@@
