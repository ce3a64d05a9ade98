import JvmDerived
import JvmDerived.Pilot.@@N@@Statement
import JvmDerived.Pilot.@@N@@Code
set_option linter.unusedVariables false
set_option linter.unusedSimpArgs false
namespace Jvm.Pilot.@@N@@
open Jvm Jvm.ClassFile Sem Op Lib Jvm.Free Jvm.Stand Jvm.LawKit Jvm.RoadKit Bundle Jvm.Pilot.@@N@@.Jvm.D
section Kit
variable {p : Program} {l : Launch} {e : Env} {R : Room} {s : State} {m : MethodId} {args : Array Value} {below : List Frame} {meth : Method} {c : Code} {T : State} {locs : List Loc} {cells slots : Nat} {Z : State} {a0 : Array Value} {h : Heap} {G : State → Prop} {pc pc' : Nat} {Ls Ls' : Array Slot} {st : List Value}
def Go (p : Program) (e : Env) (below : List Frame) (G : State → Prop) (S : State) : Prop := ∃ t, Steps p.tables e below S t ∧ G t
theorem Go.to {S S' : State} (h : ∀ t, Steps p.tables e below S' t → Steps p.tables e below S t) (k : Go p e below G S') : Go p e below G S := let ⟨t, h1, h2⟩ := k; ⟨t, h t h1, h2⟩
def Dn (s : State) (below : List Frame) (Q : Option Value → Heap → List Loc → Prop) (kc ks : Nat) (t : State) : Prop := ∃ o, t.status = .running ∧ Ended t below o ∧ ∃ v L, o = .returned v ∧ Q v t.heap L ∧ FrameEnd s o t L kc ks
def Ct (l : Launch) (Z : State) (y : MethodName) (bytes : ByteArray) (maxL : Nat) (ret : Option FieldType) (rm : Room) (as' : Array Value) (h0 : Heap) (Q : Option Value → Heap → List Loc → Prop) : Prop :=
  ∀ ws, MetFree l y (head1 (Jvm.Cond.code y bytes maxL ret :: ws) rm) (fun a U => a = as' ∧ Z.Warmed39 U.vm ∧ U.heap = h0) (fun _ _ _ _ _ => True) (fun _ U o U' => ∃ v L, o = .returned v ∧ Q v U'.heap L ∧ FrameEnd U o U' L rm.cells rm.slots)
theorem Ct.of {y : MethodName} {bytes : ByteArray} {maxL : Nat} {ret : Option FieldType} {rm : Room} {as' : Array Value} {h0 : Heap} {Q : Option Value → Heap → List Loc → Prop} (hn : plainName y.cls = true) (hef : ∀ m, entryFrame m as' maxL = mkF m 0 Ls [])
    (body : ∀ (p : Program) (e : Env) (s : State) (m : MethodId) (below : List Frame) (meth : Method) (c : Code) (T : State), Stand p l e rm s m as' below meth c T [] 0 0 → p.tables.exec = Jvm.exec → c.code = bytes → c.maxLocals = maxL → meth.sig.returnType = ret → meth.locks = false → Z.Warmed39 s.vm → s.vm.findClass y.cls = some m.cls → meth.name = y.name → T.heap = h0 →
      Go p e below (Dn s below Q rm.cells rm.slots) (T.setTop (mkF m 0 Ls []))) : Ct l Z y bytes maxL ret rm as' h0 Q := by
  intro ws
  refine MetFree.of_bodySF (plainFor_of_name hn) hisR ?_
  intro p e s m args below meth c s₁ Bd hml0 hP hK
  obtain ⟨rfl, hZ, hh⟩ := hP
  obtain ⟨t, h1, o, h2, h3, h4⟩ := body p e s m below meth c s₁ (Stand.of_body Bd) Bd.exec Bd.bytes hml0 Bd.returns Bd.notSynchronized hZ (findClass_of_methodNamed Bd.named) (name_of_methodNamed Bd.named Bd.method).1 (by rw [← hh, Bd.state]; rfl)
  exact ⟨t, o, castTop (hef m) h1, h2, h3, h4⟩
theorem g_aloadN (X : Stand p l e R s m args below meth c T locs cells slots) (hx : p.tables.exec = Jvm.exec) {k : Fin 4} {v : Value} (hd : decode c.code pc = .ok (.aload_n k, 1)) (hp : pc + 1 = pc') (hl : Ls[k.val]? = some (.val v)) (hv : v.isRef = true) (k : Go p e below G (T.setTop (mkF m pc' Ls (v :: st)))) : Go p e below G (T.setTop (mkF m pc Ls (st))) := by
  subst hp
  exact Go.to (fun t q => XS.aloadN X.here hx rfl hd hl hv q) k
theorem g_iloadN (X : Stand p l e R s m args below meth c T locs cells slots) (hx : p.tables.exec = Jvm.exec) {k : Fin 4} {v : Int32} (hd : decode c.code pc = .ok (.iload_n k, 1)) (hp : pc + 1 = pc') (hl : Ls[k.val]? = some (.val (.int v))) (k : Go p e below G (T.setTop (mkF m pc' Ls (.int v :: st)))) : Go p e below G (T.setTop (mkF m pc Ls (st))) := by
  subst hp
  exact Go.to (fun t q => XS.iloadN X.here hx rfl hd hl q) k
theorem g_lloadN (X : Stand p l e R s m args below meth c T locs cells slots) (hx : p.tables.exec = Jvm.exec) {k : Fin 4} {v : Int64} (hd : decode c.code pc = .ok (.lload_n k, 1)) (hp : pc + 1 = pc') (hl : Ls[k.val]? = some (.val (.long v))) (k : Go p e below G (T.setTop (mkF m pc' Ls (.long v :: st)))) : Go p e below G (T.setTop (mkF m pc Ls (st))) := by
  subst hp
  exact Go.to (fun t q => XT.lloadN X.here hx rfl hd hl q) k
theorem g_istoreN (X : Stand p l e R s m args below meth c T locs cells slots) (hx : p.tables.exec = Jvm.exec) {k : Fin 4} {x : Int32} (hd : decode c.code pc = .ok (.istore_n k, 1)) (hp : pc + 1 = pc') (hl : storeLocals Ls k.val (.int x) = some Ls') (k : Go p e below G (T.setTop (mkF m pc' Ls' (st)))) : Go p e below G (T.setTop (mkF m pc Ls (.int x :: st))) := by
  subst hp
  exact Go.to (fun t q => XS.istoreN X.here hx rfl hd rfl hl q) k
theorem g_lstoreN (X : Stand p l e R s m args below meth c T locs cells slots) (hx : p.tables.exec = Jvm.exec) {k : Fin 4} {x : Int64} (hd : decode c.code pc = .ok (.lstore_n k, 1)) (hp : pc + 1 = pc') (hl : storeLocals Ls k.val (.long x) = some Ls') (k : Go p e below G (T.setTop (mkF m pc' Ls' (st)))) : Go p e below G (T.setTop (mkF m pc Ls (.long x :: st))) := by
  subst hp
  exact Go.to (fun t q => XT.lstoreN X.here hx rfl hd rfl hl q) k
theorem g_astoreN (X : Stand p l e R s m args below meth c T locs cells slots) (hx : p.tables.exec = Jvm.exec) {k : Fin 4} {x : Value} (hd : decode c.code pc = .ok (.astore_n k, 1)) (hp : pc + 1 = pc') (hv : x.isRef = true) (hl : storeLocals Ls k.val x = some Ls') (k : Go p e below G (T.setTop (mkF m pc' Ls' (st)))) : Go p e below G (T.setTop (mkF m pc Ls (x :: st))) := by
  subst hp
  exact Go.to (fun t q => XS.astoreN X.here hx rfl hd rfl hv hl q) k
theorem g_aload (X : Stand p l e R s m args below meth c T locs cells slots) (hx : p.tables.exec = Jvm.exec) {k : Nat} {v : Value} (hd : decode c.code pc = .ok (.aload k, 2)) (hp : pc + 2 = pc') (hl : Ls[k]? = some (.val v)) (hv : v.isRef = true) (k : Go p e below G (T.setTop (mkF m pc' Ls (v :: st)))) : Go p e below G (T.setTop (mkF m pc Ls (st))) := by
  subst hp
  exact Go.to (fun t q => XS.aload X.here hx rfl hd hl hv q) k
theorem g_iload (X : Stand p l e R s m args below meth c T locs cells slots) (hx : p.tables.exec = Jvm.exec) {k : Nat} {v : Int32} (hd : decode c.code pc = .ok (.iload k, 2)) (hp : pc + 2 = pc') (hl : Ls[k]? = some (.val (.int v))) (k : Go p e below G (T.setTop (mkF m pc' Ls (.int v :: st)))) : Go p e below G (T.setTop (mkF m pc Ls (st))) := by
  subst hp
  exact Go.to (fun t q => XS.iload X.here hx rfl hd hl q) k
theorem g_lload (X : Stand p l e R s m args below meth c T locs cells slots) (hx : p.tables.exec = Jvm.exec) {k : Nat} {v : Int64} (hd : decode c.code pc = .ok (.lload k, 2)) (hp : pc + 2 = pc') (hl : Ls[k]? = some (.val (.long v))) (k : Go p e below G (T.setTop (mkF m pc' Ls (.long v :: st)))) : Go p e below G (T.setTop (mkF m pc Ls (st))) := by
  subst hp
  exact Go.to (fun t q => XT.lload X.here hx rfl hd hl q) k
theorem g_istore (X : Stand p l e R s m args below meth c T locs cells slots) (hx : p.tables.exec = Jvm.exec) {k : Nat} {x : Int32} (hd : decode c.code pc = .ok (.istore k, 2)) (hp : pc + 2 = pc') (hl : storeLocals Ls k (.int x) = some Ls') (k : Go p e below G (T.setTop (mkF m pc' Ls' (st)))) : Go p e below G (T.setTop (mkF m pc Ls (.int x :: st))) := by
  subst hp
  exact Go.to (fun t q => XS.istore X.here hx rfl hd rfl hl q) k
theorem g_lstore (X : Stand p l e R s m args below meth c T locs cells slots) (hx : p.tables.exec = Jvm.exec) {k : Nat} {x : Int64} (hd : decode c.code pc = .ok (.lstore k, 2)) (hp : pc + 2 = pc') (hl : storeLocals Ls k (.long x) = some Ls') (k : Go p e below G (T.setTop (mkF m pc' Ls' (st)))) : Go p e below G (T.setTop (mkF m pc Ls (.long x :: st))) := by
  subst hp
  exact Go.to (fun t q => XT.lstore X.here hx rfl hd rfl hl q) k
theorem g_astore (X : Stand p l e R s m args below meth c T locs cells slots) (hx : p.tables.exec = Jvm.exec) {k : Nat} {x : Value} (hd : decode c.code pc = .ok (.astore k, 2)) (hp : pc + 2 = pc') (hv : x.isRef = true) (hl : storeLocals Ls k x = some Ls') (k : Go p e below G (T.setTop (mkF m pc' Ls' (st)))) : Go p e below G (T.setTop (mkF m pc Ls (x :: st))) := by
  subst hp
  exact Go.to (fun t q => XS.astore X.here hx rfl hd rfl hv hl q) k
theorem g_iconst (X : Stand p l e R s m args below meth c T locs cells slots) (hx : p.tables.exec = Jvm.exec) {i : Int} {z : Int32} (hd : decode c.code pc = .ok (.iconst i, 1)) (hp : pc + 1 = pc') (hz : Int32.ofInt i = z) (k : Go p e below G (T.setTop (mkF m pc' Ls (.int z :: st)))) : Go p e below G (T.setTop (mkF m pc Ls (st))) := by
  subst hp hz
  exact Go.to (fun t q => XS.iconst X.here hx rfl hd  q) k
theorem g_bipush (X : Stand p l e R s m args below meth c T locs cells slots) (hx : p.tables.exec = Jvm.exec) {i : Int} {z : Int32} (hd : decode c.code pc = .ok (.bipush i, 2)) (hp : pc + 2 = pc') (hz : (Int8.ofInt i).toInt32 = z) (k : Go p e below G (T.setTop (mkF m pc' Ls (.int z :: st)))) : Go p e below G (T.setTop (mkF m pc Ls (st))) := by
  subst hp hz
  exact Go.to (fun t q => XS.bipush X.here hx rfl hd  q) k
theorem g_sipush (X : Stand p l e R s m args below meth c T locs cells slots) (hx : p.tables.exec = Jvm.exec) {i : Int} {z : Int32} (hd : decode c.code pc = .ok (.sipush i, 3)) (hp : pc + 3 = pc') (hz : (Int16.ofInt i).toInt32 = z) (k : Go p e below G (T.setTop (mkF m pc' Ls (.int z :: st)))) : Go p e below G (T.setTop (mkF m pc Ls (st))) := by
  subst hp hz
  exact Go.to (fun t q => XS.sipush X.here hx rfl hd  q) k
theorem g_lconst (X : Stand p l e R s m args below meth c T locs cells slots) (hx : p.tables.exec = Jvm.exec) {i : Fin 2} {z : Int64} (hd : decode c.code pc = .ok (.lconst i, 1)) (hp : pc + 1 = pc') (hz : Int64.ofNat i = z) (k : Go p e below G (T.setTop (mkF m pc' Ls (.long z :: st)))) : Go p e below G (T.setTop (mkF m pc Ls (st))) := by
  subst hp hz
  exact Go.to (fun t q => XT.lconst X.here hx rfl hd  q) k
theorem g_aconstNull (X : Stand p l e R s m args below meth c T locs cells slots) (hx : p.tables.exec = Jvm.exec)  (hd : decode c.code pc = .ok (.aconst_null, 1)) (hp : pc + 1 = pc')  (k : Go p e below G (T.setTop (mkF m pc' Ls (.null :: st)))) : Go p e below G (T.setTop (mkF m pc Ls (st))) := by
  subst hp
  exact Go.to (fun t q => XS.aconstNull X.here hx rfl hd  q) k
theorem g_iadd (X : Stand p l e R s m args below meth c T locs cells slots) (hx : p.tables.exec = Jvm.exec) {x y z : Int32} (hd : decode c.code pc = .ok (.iadd, 1)) (hp : pc + 1 = pc') (hz : x + y = z) (k : Go p e below G (T.setTop (mkF m pc' Ls (.int z :: st)))) : Go p e below G (T.setTop (mkF m pc Ls (.int y :: .int x :: st))) := by
  subst hp hz
  exact Go.to (fun t q => XS.iadd X.here hx rfl hd rfl q) k
theorem g_isub (X : Stand p l e R s m args below meth c T locs cells slots) (hx : p.tables.exec = Jvm.exec) {x y z : Int32} (hd : decode c.code pc = .ok (.isub, 1)) (hp : pc + 1 = pc') (hz : x - y = z) (k : Go p e below G (T.setTop (mkF m pc' Ls (.int z :: st)))) : Go p e below G (T.setTop (mkF m pc Ls (.int y :: .int x :: st))) := by
  subst hp hz
  exact Go.to (fun t q => XS.isub X.here hx rfl hd rfl q) k
theorem g_iand (X : Stand p l e R s m args below meth c T locs cells slots) (hx : p.tables.exec = Jvm.exec) {x y z : Int32} (hd : decode c.code pc = .ok (.iand, 1)) (hp : pc + 1 = pc') (hz : x &&& y = z) (k : Go p e below G (T.setTop (mkF m pc' Ls (.int z :: st)))) : Go p e below G (T.setTop (mkF m pc Ls (.int y :: .int x :: st))) := by
  subst hp hz
  exact Go.to (fun t q => XS.iand X.here hx rfl hd rfl q) k
theorem g_imul (X : Stand p l e R s m args below meth c T locs cells slots) (hx : p.tables.exec = Jvm.exec) {x y z : Int32} (hd : decode c.code pc = .ok (.imul, 1)) (hp : pc + 1 = pc') (hz : x * y = z) (k : Go p e below G (T.setTop (mkF m pc' Ls (.int z :: st)))) : Go p e below G (T.setTop (mkF m pc Ls (.int y :: .int x :: st))) := by
  subst hp hz
  exact Go.to (fun t q => XS.imul X.here hx rfl hd rfl q) k
theorem g_ixor (X : Stand p l e R s m args below meth c T locs cells slots) (hx : p.tables.exec = Jvm.exec) {x y z : Int32} (hd : decode c.code pc = .ok (.ixor, 1)) (hp : pc + 1 = pc') (hz : x ^^^ y = z) (k : Go p e below G (T.setTop (mkF m pc' Ls (.int z :: st)))) : Go p e below G (T.setTop (mkF m pc Ls (.int y :: .int x :: st))) := by
  subst hp hz
  exact Go.to (fun t q => XT.ixor X.here hx rfl hd rfl q) k
theorem g_ior (X : Stand p l e R s m args below meth c T locs cells slots) (hx : p.tables.exec = Jvm.exec) {x y z : Int32} (hd : decode c.code pc = .ok (.ior, 1)) (hp : pc + 1 = pc') (hz : x ||| y = z) (k : Go p e below G (T.setTop (mkF m pc' Ls (.int z :: st)))) : Go p e below G (T.setTop (mkF m pc Ls (.int y :: .int x :: st))) := by
  subst hp hz
  exact Go.to (fun t q => XT.ior X.here hx rfl hd rfl q) k
theorem g_ishl (X : Stand p l e R s m args below meth c T locs cells slots) (hx : p.tables.exec = Jvm.exec) {x y z : Int32} (hd : decode c.code pc = .ok (.ishl, 1)) (hp : pc + 1 = pc') (hz : x <<< (y &&& 31) = z) (k : Go p e below G (T.setTop (mkF m pc' Ls (.int z :: st)))) : Go p e below G (T.setTop (mkF m pc Ls (.int y :: .int x :: st))) := by
  subst hp hz
  exact Go.to (fun t q => XT.ishl X.here hx rfl hd rfl q) k
theorem g_ishr (X : Stand p l e R s m args below meth c T locs cells slots) (hx : p.tables.exec = Jvm.exec) {x y z : Int32} (hd : decode c.code pc = .ok (.ishr, 1)) (hp : pc + 1 = pc') (hz : x >>> (y &&& 31) = z) (k : Go p e below G (T.setTop (mkF m pc' Ls (.int z :: st)))) : Go p e below G (T.setTop (mkF m pc Ls (.int y :: .int x :: st))) := by
  subst hp hz
  exact Go.to (fun t q => XT.ishr X.here hx rfl hd rfl q) k
theorem g_iushr (X : Stand p l e R s m args below meth c T locs cells slots) (hx : p.tables.exec = Jvm.exec) {x y z : Int32} (hd : decode c.code pc = .ok (.iushr, 1)) (hp : pc + 1 = pc') (hz : XT.ushr x y = z) (k : Go p e below G (T.setTop (mkF m pc' Ls (.int z :: st)))) : Go p e below G (T.setTop (mkF m pc Ls (.int y :: .int x :: st))) := by
  subst hp hz
  exact Go.to (fun t q => XT.iushr X.here hx rfl hd rfl q) k
theorem g_irem (X : Stand p l e R s m args below meth c T locs cells slots) (hx : p.tables.exec = Jvm.exec) {x y z : Int32} (hd : decode c.code pc = .ok (.irem, 1)) (hp : pc + 1 = pc') (hy : y ≠ 0) (hz : x - (x / y) * y = z) (k : Go p e below G (T.setTop (mkF m pc' Ls (.int z :: st)))) : Go p e below G (T.setTop (mkF m pc Ls (.int y :: .int x :: st))) := by
  subst hp hz
  exact Go.to (fun t q => XS.irem X.here hx rfl hd rfl hy q) k
theorem g_idiv (X : Stand p l e R s m args below meth c T locs cells slots) (hx : p.tables.exec = Jvm.exec) {x y z : Int32} (hd : decode c.code pc = .ok (.idiv, 1)) (hp : pc + 1 = pc') (hy : y ≠ 0) (hz : x / y = z) (k : Go p e below G (T.setTop (mkF m pc' Ls (.int z :: st)))) : Go p e below G (T.setTop (mkF m pc Ls (.int y :: .int x :: st))) := by
  subst hp hz
  exact Go.to (fun t q => XS.idiv X.here hx rfl hd rfl hy q) k
theorem g_ladd (X : Stand p l e R s m args below meth c T locs cells slots) (hx : p.tables.exec = Jvm.exec) {x y z : Int64} (hd : decode c.code pc = .ok (.ladd, 1)) (hp : pc + 1 = pc') (hz : x + y = z) (k : Go p e below G (T.setTop (mkF m pc' Ls (.long z :: st)))) : Go p e below G (T.setTop (mkF m pc Ls (.long y :: .long x :: st))) := by
  subst hp hz
  exact Go.to (fun t q => XT.ladd X.here hx rfl hd rfl q) k
theorem g_lsub (X : Stand p l e R s m args below meth c T locs cells slots) (hx : p.tables.exec = Jvm.exec) {x y z : Int64} (hd : decode c.code pc = .ok (.lsub, 1)) (hp : pc + 1 = pc') (hz : x - y = z) (k : Go p e below G (T.setTop (mkF m pc' Ls (.long z :: st)))) : Go p e below G (T.setTop (mkF m pc Ls (.long y :: .long x :: st))) := by
  subst hp hz
  exact Go.to (fun t q => XT.lsub X.here hx rfl hd rfl q) k
theorem g_land (X : Stand p l e R s m args below meth c T locs cells slots) (hx : p.tables.exec = Jvm.exec) {x y z : Int64} (hd : decode c.code pc = .ok (.land, 1)) (hp : pc + 1 = pc') (hz : x &&& y = z) (k : Go p e below G (T.setTop (mkF m pc' Ls (.long z :: st)))) : Go p e below G (T.setTop (mkF m pc Ls (.long y :: .long x :: st))) := by
  subst hp hz
  exact Go.to (fun t q => XT.land X.here hx rfl hd rfl q) k
theorem g_lor (X : Stand p l e R s m args below meth c T locs cells slots) (hx : p.tables.exec = Jvm.exec) {x y z : Int64} (hd : decode c.code pc = .ok (.lor, 1)) (hp : pc + 1 = pc') (hz : x ||| y = z) (k : Go p e below G (T.setTop (mkF m pc' Ls (.long z :: st)))) : Go p e below G (T.setTop (mkF m pc Ls (.long y :: .long x :: st))) := by
  subst hp hz
  exact Go.to (fun t q => XT.lor X.here hx rfl hd rfl q) k
theorem g_lxor (X : Stand p l e R s m args below meth c T locs cells slots) (hx : p.tables.exec = Jvm.exec) {x y z : Int64} (hd : decode c.code pc = .ok (.lxor, 1)) (hp : pc + 1 = pc') (hz : x ^^^ y = z) (k : Go p e below G (T.setTop (mkF m pc' Ls (.long z :: st)))) : Go p e below G (T.setTop (mkF m pc Ls (.long y :: .long x :: st))) := by
  subst hp hz
  exact Go.to (fun t q => XT.lxor X.here hx rfl hd rfl q) k
theorem g_lmul (X : Stand p l e R s m args below meth c T locs cells slots) (hx : p.tables.exec = Jvm.exec) {x y z : Int64} (hd : decode c.code pc = .ok (.lmul, 1)) (hp : pc + 1 = pc') (hz : x * y = z) (k : Go p e below G (T.setTop (mkF m pc' Ls (.long z :: st)))) : Go p e below G (T.setTop (mkF m pc Ls (.long y :: .long x :: st))) := by
  subst hp hz
  exact Go.to (fun t q => XT.lmul X.here hx rfl hd rfl q) k
theorem g_lshl (X : Stand p l e R s m args below meth c T locs cells slots) (hx : p.tables.exec = Jvm.exec) {x z : Int64} {y : Int32} (hd : decode c.code pc = .ok (.lshl, 1)) (hp : pc + 1 = pc') (hz : x <<< (y.toInt64 &&& 63) = z) (k : Go p e below G (T.setTop (mkF m pc' Ls (.long z :: st)))) : Go p e below G (T.setTop (mkF m pc Ls (.int y :: .long x :: st))) := by
  subst hp hz
  exact Go.to (fun t q => XT.lshl X.here hx rfl hd rfl q) k
theorem g_lushr (X : Stand p l e R s m args below meth c T locs cells slots) (hx : p.tables.exec = Jvm.exec) {x z : Int64} {y : Int32} (hd : decode c.code pc = .ok (.lushr, 1)) (hp : pc + 1 = pc') (hz : XT.ushrL x y = z) (k : Go p e below G (T.setTop (mkF m pc' Ls (.long z :: st)))) : Go p e below G (T.setTop (mkF m pc Ls (.int y :: .long x :: st))) := by
  subst hp hz
  exact Go.to (fun t q => XT.lushr X.here hx rfl hd rfl q) k
theorem g_l2i (X : Stand p l e R s m args below meth c T locs cells slots) (hx : p.tables.exec = Jvm.exec) {x : Int64} {z : Int32} (hd : decode c.code pc = .ok (.l2i, 1)) (hp : pc + 1 = pc') (hz : x.toInt32 = z) (k : Go p e below G (T.setTop (mkF m pc' Ls (.int z :: st)))) : Go p e below G (T.setTop (mkF m pc Ls (.long x :: st))) := by
  subst hp hz
  exact Go.to (fun t q => XT.l2i X.here hx rfl hd rfl q) k
theorem g_i2l (X : Stand p l e R s m args below meth c T locs cells slots) (hx : p.tables.exec = Jvm.exec) {x : Int32} {z : Int64} (hd : decode c.code pc = .ok (.i2l, 1)) (hp : pc + 1 = pc') (hz : x.toInt64 = z) (k : Go p e below G (T.setTop (mkF m pc' Ls (.long z :: st)))) : Go p e below G (T.setTop (mkF m pc Ls (.int x :: st))) := by
  subst hp hz
  exact Go.to (fun t q => XT.i2l X.here hx rfl hd rfl q) k
theorem g_i2b (X : Stand p l e R s m args below meth c T locs cells slots) (hx : p.tables.exec = Jvm.exec) {x z : Int32} (hd : decode c.code pc = .ok (.i2b, 1)) (hp : pc + 1 = pc') (hz : x.toInt8.toInt32 = z) (k : Go p e below G (T.setTop (mkF m pc' Ls (.int z :: st)))) : Go p e below G (T.setTop (mkF m pc Ls (.int x :: st))) := by
  subst hp hz
  exact Go.to (fun t q => XT.i2b X.here hx rfl hd rfl q) k
theorem g_lcmp (X : Stand p l e R s m args below meth c T locs cells slots) (hx : p.tables.exec = Jvm.exec) {x y : Int64} {z : Int32} (hd : decode c.code pc = .ok (.lcmp, 1)) (hp : pc + 1 = pc') (hz : XT.cmpL x y = z) (k : Go p e below G (T.setTop (mkF m pc' Ls (.int z :: st)))) : Go p e below G (T.setTop (mkF m pc Ls (.long y :: .long x :: st))) := by
  subst hp hz
  exact Go.to (fun t q => XT.lcmp X.here hx rfl hd rfl q) k
theorem g_dup (X : Stand p l e R s m args below meth c T locs cells slots) (hx : p.tables.exec = Jvm.exec) {x : Value} (hd : decode c.code pc = .ok (.dup, 1)) (hp : pc + 1 = pc') (hc : x.category = 1) (k : Go p e below G (T.setTop (mkF m pc' Ls (x :: x :: st)))) : Go p e below G (T.setTop (mkF m pc Ls (x :: st))) := by
  subst hp
  exact Go.to (fun t q => XS.dup X.here hx rfl hd rfl hc q) k
theorem g_dupX1 (X : Stand p l e R s m args below meth c T locs cells slots) (hx : p.tables.exec = Jvm.exec) {x y : Value} (hd : decode c.code pc = .ok (.dup_x1, 1)) (hp : pc + 1 = pc') (hc : x.category = 1) (hc' : y.category = 1) (k : Go p e below G (T.setTop (mkF m pc' Ls (x :: y :: x :: st)))) : Go p e below G (T.setTop (mkF m pc Ls (x :: y :: st))) := by
  subst hp
  exact Go.to (fun t q => XT.dupX1 X.here hx rfl hd rfl hc hc' q) k
theorem g_pop (X : Stand p l e R s m args below meth c T locs cells slots) (hx : p.tables.exec = Jvm.exec) {x : Value} (hd : decode c.code pc = .ok (.pop, 1)) (hp : pc + 1 = pc') (hc : x.category = 1) (k : Go p e below G (T.setTop (mkF m pc' Ls (st)))) : Go p e below G (T.setTop (mkF m pc Ls (x :: st))) := by
  subst hp
  exact Go.to (fun t q => XT.pop X.here hx rfl hd rfl hc q) k
theorem g_iinc (X : Stand p l e R s m args below meth c T locs cells slots) (hx : p.tables.exec = Jvm.exec) {i : Nat} {cst : Int} {x z : Int32} (hd : decode c.code pc = .ok (.iinc i cst, 3)) (hp : pc + 3 = pc') (hl : Ls[i]? = some (.val (.int x))) (hz : x + Int32.ofInt cst = z) (hl' : storeLocals Ls i (.int z) = some Ls') (k : Go p e below G (T.setTop (mkF m pc' Ls' (st)))) : Go p e below G (T.setTop (mkF m pc Ls (st))) := by
  subst hp hz
  exact Go.to (fun t q => XS.iinc X.here hx rfl hd hl hl' q) k
theorem g_goto (X : Stand p l e R s m args below meth c T locs cells slots) (hx : p.tables.exec = Jvm.exec) {o : Int} (hd : decode c.code pc = .ok (.goto o, 3)) (ho : 0 ≤ (pc : Int) + o) (hp : ((pc : Int) + o).toNat = pc') (k : Go p e below G (T.setTop (mkF m pc' Ls st))) : Go p e below G (T.setTop (mkF m pc Ls st)) :=
  Go.to (fun t q => XS.goto X.here hx rfl (pc0 := pc) (pc' := pc') rfl hd ho hp q) k
theorem g_icmpB (X : Stand p l e R s m args below meth c T locs cells slots) (hx : p.tables.exec = Jvm.exec) {cd : ClassFile.Cond} {x y : Int32} {o : Int} {pcF : Nat} (hd : decode c.code pc = .ok (.if_icmp cd o, 3)) (ho : 0 ≤ (pc : Int) + o) (hp : ((pc : Int) + o).toNat = pc') (hq : pc + 3 = pcF) (kT : if_icmp.holds cd x y = true → Go p e below G (T.setTop (mkF m pc' Ls st))) (kF : if_icmp.holds cd x y = false → Go p e below G (T.setTop (mkF m pcF Ls st))) : Go p e below G (T.setTop (mkF m pc Ls (.int y :: .int x :: st))) := by
  cases q : if_icmp.holds cd x y
  · subst hq; exact Go.to (fun t r => XS.icmpNo X.here hx rfl hd rfl q r) (kF q)
  · exact Go.to (fun t r => XS.icmpYes X.here hx rfl (pc0 := pc) (pc' := pc') rfl hd rfl q ho hp r) (kT q)
theorem g_icmp_eq (X : Stand p l e R s m args below meth c T locs cells slots) (hx : p.tables.exec = Jvm.exec) {x y : Int32} {o : Int} {pcF : Nat} (hd : decode c.code pc = .ok (.if_icmp .eq o, 3)) (ho : 0 ≤ (pc : Int) + o) (hp : ((pc : Int) + o).toNat = pc') (hq : pc + 3 = pcF) (kT : x = y → Go p e below G (T.setTop (mkF m pc' Ls st))) (kF : ¬ x = y → Go p e below G (T.setTop (mkF m pcF Ls st))) : Go p e below G (T.setTop (mkF m pc Ls (.int y :: .int x :: st))) :=
  g_icmpB X hx hd ho hp hq (fun q => kT (by by_cases r : x = y <;> first | exact r | (rw [(teq r).1] at q; cases q) | (rw [(feq r).1] at q; cases q))) (fun q => kF (by by_cases r : x = y <;> first | exact r | (rw [(teq r).1] at q; cases q) | (rw [(feq r).1] at q; cases q)))
theorem g_icmp_ne (X : Stand p l e R s m args below meth c T locs cells slots) (hx : p.tables.exec = Jvm.exec) {x y : Int32} {o : Int} {pcF : Nat} (hd : decode c.code pc = .ok (.if_icmp .ne o, 3)) (ho : 0 ≤ (pc : Int) + o) (hp : ((pc : Int) + o).toNat = pc') (hq : pc + 3 = pcF) (kT : ¬ x = y → Go p e below G (T.setTop (mkF m pc' Ls st))) (kF : x = y → Go p e below G (T.setTop (mkF m pcF Ls st))) : Go p e below G (T.setTop (mkF m pc Ls (.int y :: .int x :: st))) :=
  g_icmpB X hx hd ho hp hq (fun q => kT (by by_cases r : x = y <;> first | exact r | (rw [(teq r).2] at q; cases q) | (rw [(feq r).2] at q; cases q))) (fun q => kF (by by_cases r : x = y <;> first | exact r | (rw [(teq r).2] at q; cases q) | (rw [(feq r).2] at q; cases q)))
theorem g_icmp_lt (X : Stand p l e R s m args below meth c T locs cells slots) (hx : p.tables.exec = Jvm.exec) {x y : Int32} {o : Int} {pcF : Nat} (hd : decode c.code pc = .ok (.if_icmp .lt o, 3)) (ho : 0 ≤ (pc : Int) + o) (hp : ((pc : Int) + o).toNat = pc') (hq : pc + 3 = pcF) (kT : x < y → Go p e below G (T.setTop (mkF m pc' Ls st))) (kF : ¬ x < y → Go p e below G (T.setTop (mkF m pcF Ls st))) : Go p e below G (T.setTop (mkF m pc Ls (.int y :: .int x :: st))) :=
  g_icmpB X hx hd ho hp hq (fun q => kT (by by_cases r : x < y <;> first | exact r | (rw [(tlt r).1] at q; cases q) | (rw [(flt r).1] at q; cases q))) (fun q => kF (by by_cases r : x < y <;> first | exact r | (rw [(tlt r).1] at q; cases q) | (rw [(flt r).1] at q; cases q)))
theorem g_icmp_ge (X : Stand p l e R s m args below meth c T locs cells slots) (hx : p.tables.exec = Jvm.exec) {x y : Int32} {o : Int} {pcF : Nat} (hd : decode c.code pc = .ok (.if_icmp .ge o, 3)) (ho : 0 ≤ (pc : Int) + o) (hp : ((pc : Int) + o).toNat = pc') (hq : pc + 3 = pcF) (kT : ¬ x < y → Go p e below G (T.setTop (mkF m pc' Ls st))) (kF : x < y → Go p e below G (T.setTop (mkF m pcF Ls st))) : Go p e below G (T.setTop (mkF m pc Ls (.int y :: .int x :: st))) :=
  g_icmpB X hx hd ho hp hq (fun q => kT (by by_cases r : x < y <;> first | exact r | (rw [(tlt r).2.1] at q; cases q) | (rw [(flt r).2.1] at q; cases q))) (fun q => kF (by by_cases r : x < y <;> first | exact r | (rw [(tlt r).2.1] at q; cases q) | (rw [(flt r).2.1] at q; cases q)))
theorem g_icmp_gt (X : Stand p l e R s m args below meth c T locs cells slots) (hx : p.tables.exec = Jvm.exec) {x y : Int32} {o : Int} {pcF : Nat} (hd : decode c.code pc = .ok (.if_icmp .gt o, 3)) (ho : 0 ≤ (pc : Int) + o) (hp : ((pc : Int) + o).toNat = pc') (hq : pc + 3 = pcF) (kT : y < x → Go p e below G (T.setTop (mkF m pc' Ls st))) (kF : ¬ y < x → Go p e below G (T.setTop (mkF m pcF Ls st))) : Go p e below G (T.setTop (mkF m pc Ls (.int y :: .int x :: st))) :=
  g_icmpB X hx hd ho hp hq (fun q => kT (by by_cases r : y < x <;> first | exact r | (rw [(tlt r).2.2.1] at q; cases q) | (rw [(flt r).2.2.1] at q; cases q))) (fun q => kF (by by_cases r : y < x <;> first | exact r | (rw [(tlt r).2.2.1] at q; cases q) | (rw [(flt r).2.2.1] at q; cases q)))
theorem g_icmp_le (X : Stand p l e R s m args below meth c T locs cells slots) (hx : p.tables.exec = Jvm.exec) {x y : Int32} {o : Int} {pcF : Nat} (hd : decode c.code pc = .ok (.if_icmp .le o, 3)) (ho : 0 ≤ (pc : Int) + o) (hp : ((pc : Int) + o).toNat = pc') (hq : pc + 3 = pcF) (kT : ¬ y < x → Go p e below G (T.setTop (mkF m pc' Ls st))) (kF : y < x → Go p e below G (T.setTop (mkF m pcF Ls st))) : Go p e below G (T.setTop (mkF m pc Ls (.int y :: .int x :: st))) :=
  g_icmpB X hx hd ho hp hq (fun q => kT (by by_cases r : y < x <;> first | exact r | (rw [(tlt r).2.2.2] at q; cases q) | (rw [(flt r).2.2.2] at q; cases q))) (fun q => kF (by by_cases r : y < x <;> first | exact r | (rw [(tlt r).2.2.2] at q; cases q) | (rw [(flt r).2.2.2] at q; cases q)))
theorem g_ifB (X : Stand p l e R s m args below meth c T locs cells slots) (hx : p.tables.exec = Jvm.exec) {cd : ClassFile.Cond} {x : Int32} {o : Int} {pcF : Nat} (hd : decode c.code pc = .ok (.ifCond cd o, 3)) (ho : 0 ≤ (pc : Int) + o) (hp : ((pc : Int) + o).toNat = pc') (hq : pc + 3 = pcF) (kT : ifCond.holds cd x = true → Go p e below G (T.setTop (mkF m pc' Ls st))) (kF : ifCond.holds cd x = false → Go p e below G (T.setTop (mkF m pcF Ls st))) : Go p e below G (T.setTop (mkF m pc Ls (.int x :: st))) := by
  cases q : ifCond.holds cd x
  · subst hq; exact Go.to (fun t r => XS.ifNo X.here hx rfl hd rfl q r) (kF q)
  · exact Go.to (fun t r => XS.ifYes X.here hx rfl (pc0 := pc) (pc' := pc') rfl hd rfl q ho hp r) (kT q)
theorem g_if_eq (X : Stand p l e R s m args below meth c T locs cells slots) (hx : p.tables.exec = Jvm.exec) {x : Int32} {o : Int} {pcF : Nat} (hd : decode c.code pc = .ok (.ifCond .eq o, 3)) (ho : 0 ≤ (pc : Int) + o) (hp : ((pc : Int) + o).toNat = pc') (hq : pc + 3 = pcF) (kT : x = 0 → Go p e below G (T.setTop (mkF m pc' Ls st))) (kF : ¬ x = 0 → Go p e below G (T.setTop (mkF m pcF Ls st))) : Go p e below G (T.setTop (mkF m pc Ls (.int x :: st))) :=
  g_ifB X hx hd ho hp hq (fun q => kT (by rw [if0] at q; by_cases r : x = 0 <;> first | exact r | (rw [(teq r).1] at q; cases q) | (rw [(feq r).1] at q; cases q))) (fun q => kF (by rw [if0] at q; by_cases r : x = 0 <;> first | exact r | (rw [(teq r).1] at q; cases q) | (rw [(feq r).1] at q; cases q)))
theorem g_if_ne (X : Stand p l e R s m args below meth c T locs cells slots) (hx : p.tables.exec = Jvm.exec) {x : Int32} {o : Int} {pcF : Nat} (hd : decode c.code pc = .ok (.ifCond .ne o, 3)) (ho : 0 ≤ (pc : Int) + o) (hp : ((pc : Int) + o).toNat = pc') (hq : pc + 3 = pcF) (kT : ¬ x = 0 → Go p e below G (T.setTop (mkF m pc' Ls st))) (kF : x = 0 → Go p e below G (T.setTop (mkF m pcF Ls st))) : Go p e below G (T.setTop (mkF m pc Ls (.int x :: st))) :=
  g_ifB X hx hd ho hp hq (fun q => kT (by rw [if0] at q; by_cases r : x = 0 <;> first | exact r | (rw [(teq r).2] at q; cases q) | (rw [(feq r).2] at q; cases q))) (fun q => kF (by rw [if0] at q; by_cases r : x = 0 <;> first | exact r | (rw [(teq r).2] at q; cases q) | (rw [(feq r).2] at q; cases q)))
theorem g_if_lt (X : Stand p l e R s m args below meth c T locs cells slots) (hx : p.tables.exec = Jvm.exec) {x : Int32} {o : Int} {pcF : Nat} (hd : decode c.code pc = .ok (.ifCond .lt o, 3)) (ho : 0 ≤ (pc : Int) + o) (hp : ((pc : Int) + o).toNat = pc') (hq : pc + 3 = pcF) (kT : x < 0 → Go p e below G (T.setTop (mkF m pc' Ls st))) (kF : ¬ x < 0 → Go p e below G (T.setTop (mkF m pcF Ls st))) : Go p e below G (T.setTop (mkF m pc Ls (.int x :: st))) :=
  g_ifB X hx hd ho hp hq (fun q => kT (by rw [if0] at q; by_cases r : x < 0 <;> first | exact r | (rw [(tlt r).1] at q; cases q) | (rw [(flt r).1] at q; cases q))) (fun q => kF (by rw [if0] at q; by_cases r : x < 0 <;> first | exact r | (rw [(tlt r).1] at q; cases q) | (rw [(flt r).1] at q; cases q)))
theorem g_if_ge (X : Stand p l e R s m args below meth c T locs cells slots) (hx : p.tables.exec = Jvm.exec) {x : Int32} {o : Int} {pcF : Nat} (hd : decode c.code pc = .ok (.ifCond .ge o, 3)) (ho : 0 ≤ (pc : Int) + o) (hp : ((pc : Int) + o).toNat = pc') (hq : pc + 3 = pcF) (kT : ¬ x < 0 → Go p e below G (T.setTop (mkF m pc' Ls st))) (kF : x < 0 → Go p e below G (T.setTop (mkF m pcF Ls st))) : Go p e below G (T.setTop (mkF m pc Ls (.int x :: st))) :=
  g_ifB X hx hd ho hp hq (fun q => kT (by rw [if0] at q; by_cases r : x < 0 <;> first | exact r | (rw [(tlt r).2.1] at q; cases q) | (rw [(flt r).2.1] at q; cases q))) (fun q => kF (by rw [if0] at q; by_cases r : x < 0 <;> first | exact r | (rw [(tlt r).2.1] at q; cases q) | (rw [(flt r).2.1] at q; cases q)))
theorem g_if_gt (X : Stand p l e R s m args below meth c T locs cells slots) (hx : p.tables.exec = Jvm.exec) {x : Int32} {o : Int} {pcF : Nat} (hd : decode c.code pc = .ok (.ifCond .gt o, 3)) (ho : 0 ≤ (pc : Int) + o) (hp : ((pc : Int) + o).toNat = pc') (hq : pc + 3 = pcF) (kT : 0 < x → Go p e below G (T.setTop (mkF m pc' Ls st))) (kF : ¬ 0 < x → Go p e below G (T.setTop (mkF m pcF Ls st))) : Go p e below G (T.setTop (mkF m pc Ls (.int x :: st))) :=
  g_ifB X hx hd ho hp hq (fun q => kT (by rw [if0] at q; by_cases r : 0 < x <;> first | exact r | (rw [(tlt r).2.2.1] at q; cases q) | (rw [(flt r).2.2.1] at q; cases q))) (fun q => kF (by rw [if0] at q; by_cases r : 0 < x <;> first | exact r | (rw [(tlt r).2.2.1] at q; cases q) | (rw [(flt r).2.2.1] at q; cases q)))
theorem g_if_le (X : Stand p l e R s m args below meth c T locs cells slots) (hx : p.tables.exec = Jvm.exec) {x : Int32} {o : Int} {pcF : Nat} (hd : decode c.code pc = .ok (.ifCond .le o, 3)) (ho : 0 ≤ (pc : Int) + o) (hp : ((pc : Int) + o).toNat = pc') (hq : pc + 3 = pcF) (kT : ¬ 0 < x → Go p e below G (T.setTop (mkF m pc' Ls st))) (kF : 0 < x → Go p e below G (T.setTop (mkF m pcF Ls st))) : Go p e below G (T.setTop (mkF m pc Ls (.int x :: st))) :=
  g_ifB X hx hd ho hp hq (fun q => kT (by rw [if0] at q; by_cases r : 0 < x <;> first | exact r | (rw [(tlt r).2.2.2] at q; cases q) | (rw [(flt r).2.2.2] at q; cases q))) (fun q => kF (by rw [if0] at q; by_cases r : 0 < x <;> first | exact r | (rw [(tlt r).2.2.2] at q; cases q) | (rw [(flt r).2.2.2] at q; cases q)))
theorem g_acmp (X : Stand p l e R s m args below meth c T locs cells slots) (hx : p.tables.exec = Jvm.exec) {cd : ClassFile.ACond} {x y : Value} {o : Int} {pcF : Nat} (P : Prop) [Decidable P] (hd : decode c.code pc = .ok (.if_acmp cd o, 3)) (hxr : x.isRef = true) (hyr : y.isRef = true) (hP : XT.acmp cd x y = decide P) (ho : 0 ≤ (pc : Int) + o) (hp : ((pc : Int) + o).toNat = pc') (hq : pc + 3 = pcF) (kT : P → Go p e below G (T.setTop (mkF m pc' Ls st))) (kF : ¬ P → Go p e below G (T.setTop (mkF m pcF Ls st))) : Go p e below G (T.setTop (mkF m pc Ls (y :: x :: st))) := by
  by_cases q : P
  · exact Go.to (fun t r => XT.acmpYes X.here hx rfl (pc0 := pc) (pc' := pc') rfl hd rfl hxr hyr (hP.trans (decide_eq_true q)) ho hp r) (kT q)
  · subst hq; exact Go.to (fun t r => XT.acmpNo X.here hx rfl hd rfl hxr hyr (hP.trans (decide_eq_false q)) r) (kF q)
theorem g_ifnullN (X : Stand p l e R s m args below meth c T locs cells slots) (hx : p.tables.exec = Jvm.exec) {o : Int} {b : Addr} (hd : decode c.code pc = .ok (.ifnull o, 3)) (hp : pc + 3 = pc') (k : Go p e below G (T.setTop (mkF m pc' Ls st))) : Go p e below G (T.setTop (mkF m pc Ls (.ref b :: st))) := by
  subst hp; exact Go.to (fun t q => XS.ifnullNo X.here hx rfl hd rfl q) k
theorem g_ifnullY (X : Stand p l e R s m args below meth c T locs cells slots) (hx : p.tables.exec = Jvm.exec) {o : Int} (hd : decode c.code pc = .ok (.ifnull o, 3)) (ho : 0 ≤ (pc : Int) + o) (hp : ((pc : Int) + o).toNat = pc') (k : Go p e below G (T.setTop (mkF m pc' Ls st))) : Go p e below G (T.setTop (mkF m pc Ls (.null :: st))) :=
  Go.to (fun t q => XS.ifnullYes X.here hx rfl (pc0 := pc) (pc' := pc') rfl hd rfl ho hp q) k
theorem g_ifnonnullN (X : Stand p l e R s m args below meth c T locs cells slots) (hx : p.tables.exec = Jvm.exec) {o : Int} (hd : decode c.code pc = .ok (.ifnonnull o, 3)) (hp : pc + 3 = pc') (k : Go p e below G (T.setTop (mkF m pc' Ls st))) : Go p e below G (T.setTop (mkF m pc Ls (.null :: st))) := by
  subst hp; exact Go.to (fun t q => XT.ifnonnullNo X.here hx rfl hd rfl q) k
theorem g_ifnonnullY (X : Stand p l e R s m args below meth c T locs cells slots) (hx : p.tables.exec = Jvm.exec) {o : Int} {b : Addr} (hd : decode c.code pc = .ok (.ifnonnull o, 3)) (ho : 0 ≤ (pc : Int) + o) (hp : ((pc : Int) + o).toNat = pc') (k : Go p e below G (T.setTop (mkF m pc' Ls st))) : Go p e below G (T.setTop (mkF m pc Ls (.ref b :: st))) :=
  Go.to (fun t q => XT.ifnonnullYes X.here hx rfl (pc0 := pc) (pc' := pc') rfl hd rfl ho hp q) k
theorem g_ldcI (X : Stand p l e R s m args below meth c T locs cells slots) (hx : p.tables.exec = Jvm.exec) (hZ : Z.Warmed39 s.vm) {own : String} {index : Nat} {v : Int32} (hown : s.vm.findClass own = some m.cls) (w : (Cond.constant own index v).before a0 Z = true) (hd : decode c.code pc = .ok (.ldc index, 2)) (hp : pc + 2 = pc') (k : Go p e below G (T.setTop (mkF m pc' Ls (.int v :: st)))) : Go p e below G (T.setTop (mkF m pc Ls st)) := by
  subst hp; exact Go.to (fun t q => X.ldcInt hx hown (mvT hZ w) (g := mkF m pc Ls st) rfl hd t q) k
theorem g_ldc2L (X : Stand p l e R s m args below meth c T locs cells slots) (hx : p.tables.exec = Jvm.exec) (hZ : Z.Warmed39 s.vm) {own : String} {index : Nat} {v : Int64} (hown : s.vm.findClass own = some m.cls) (w : (Cond.constantLong own index v).before a0 Z = true) (hd : decode c.code pc = .ok (.ldc2_w index, 3)) (hp : pc + 3 = pc') (k : Go p e below G (T.setTop (mkF m pc' Ls (.long v :: st)))) : Go p e below G (T.setTop (mkF m pc Ls st)) := by
  subst hp; exact Go.to (fun t q => X.ldc2Long hx hown (mvT hZ w) (g := mkF m pc Ls st) rfl hd t q) k
theorem g_ret (X : Stand p l e R s m args below meth c T locs cells slots) (hx : p.tables.exec = Jvm.exec) {w : Value} {t : FieldType} {i : Instr} {rest : List Value} {Q : Option Value → Heap → List Loc → Prop} {kc ks : Nat} (hret : meth.sig.returnType = some t) (hlk : meth.locks = false) (hn : narrow t w = w)
    (hi : (i = .ireturn ∧ (t = .int ∨ t = .boolean ∨ t = .byte ∨ t = .char ∨ t = .short) ∧ ∃ z, w = .int z) ∨ (i = .lreturn ∧ t = .long ∧ ∃ z, w = .long z) ∨ (i = .dreturn ∧ t = .double ∧ ∃ z, w = .double z) ∨ (i = .freturn ∧ t = .float ∧ ∃ z, w = .float z) ∨ (i = .areturn ∧ t.isReference = true ∧ w.isRef = true))
    (hd : decode c.code pc = .ok (i, 1)) (hc : cells ≤ kc) (hs : slots ≤ ks) (hq : Q (some w) T.heap locs) : Go p e below (Dn s below Q kc ks) (T.setTop (mkF m pc Ls (w :: rest))) := by
  obtain ⟨fs, hr, hrun, hended, hW, hsame⟩ := X.leave (v := some w) (fun h => by rw [hret] at h; cases h) hlk
  exact ⟨_, retOut X hx hret hn hi hd hr, _, hrun, hended, _, _, rfl, hq, ⟨_, rfl⟩, hW, hsame.mono hc hs⟩
theorem g_retI (X : Stand p l e R s m args below meth c T locs cells slots) (hx : p.tables.exec = Jvm.exec) {z : Int32} {rest : List Value} {Q : Option Value → Heap → List Loc → Prop} {kc ks : Nat} (hret : meth.sig.returnType = some .int) (hlk : meth.locks = false) (hd : decode c.code pc = .ok (.ireturn, 1)) (hc : cells ≤ kc) (hs : slots ≤ ks) (hq : Q (some (.int z)) T.heap locs) : Go p e below (Dn s below Q kc ks) (T.setTop (mkF m pc Ls (.int z :: rest))) :=
  g_ret X hx hret hlk rfl (Or.inl ⟨rfl, by simp, _, rfl⟩) hd hc hs hq
theorem g_retZ (X : Stand p l e R s m args below meth c T locs cells slots) (hx : p.tables.exec = Jvm.exec) {z : Int32} {rest : List Value} {Q : Option Value → Heap → List Loc → Prop} {kc ks : Nat} (hret : meth.sig.returnType = some .boolean) (hlk : meth.locks = false) (hz : nar .boolean z = z) (hd : decode c.code pc = .ok (.ireturn, 1)) (hc : cells ≤ kc) (hs : slots ≤ ks) (hq : Q (some (.int z)) T.heap locs) : Go p e below (Dn s below Q kc ks) (T.setTop (mkF m pc Ls (.int z :: rest))) :=
  g_ret X hx hret hlk (by show Value.int (nar .boolean z) = _; rw [hz]) (Or.inl ⟨rfl, by simp, _, rfl⟩) hd hc hs hq
theorem g_retR (X : Stand p l e R s m args below meth c T locs cells slots) (hx : p.tables.exec = Jvm.exec) {w : Value} {t : FieldType} {rest : List Value} {Q : Option Value → Heap → List Loc → Prop} {kc ks : Nat} (hret : meth.sig.returnType = some t) (hlk : meth.locks = false) (ht : t.isReference = true) (hw : w.isRef = true) (hd : decode c.code pc = .ok (.areturn, 1)) (hc : cells ≤ kc) (hs : slots ≤ ks) (hq : Q (some w) T.heap locs) : Go p e below (Dn s below Q kc ks) (T.setTop (mkF m pc Ls (w :: rest))) :=
  g_ret X hx hret hlk (by rcases ref_cases hw with rfl | ⟨a, rfl⟩ <;> cases t <;> first | rfl | cases ht) (Or.inr (Or.inr (Or.inr (Or.inr ⟨rfl, ht, hw⟩)))) hd hc hs hq
theorem g_retV (X : Stand p l e R s m args below meth c T locs cells slots) (hx : p.tables.exec = Jvm.exec) {Q : Option Value → Heap → List Loc → Prop} {kc ks : Nat} (hret : meth.sig.returnType = none) (hlk : meth.locks = false) (hd : decode c.code pc = .ok (.return_, 1)) (hc : cells ≤ kc) (hs : slots ≤ ks) (hq : Q none T.heap locs) : Go p e below (Dn s below Q kc ks) (T.setTop (mkF m pc Ls [])) := by
  obtain ⟨fs, hr, hrun, hended, hW, hsame⟩ := X.leave (v := none) (fun _ => rfl) hlk
  exact ⟨_, X.returnOut hx hret hd hr, _, hrun, hended, _, _, rfl, hq, ⟨_, rfl⟩, hW, hsame.mono hc hs⟩
theorem g_callS (X : Stand p l e R s m args below meth c T locs cells slots) (hx : p.tables.exec = Jvm.exec) (hZ : Z.Warmed39 s.vm) {own : String} {index : Nat} {y : MethodName} {bytes : ByteArray} {maxL : Nat} {ret : Option FieldType} {rm : Room} {as' : Array Value} {Q : Option Value → Heap → List Loc → Prop} (W : Nat) {argsL rest : List Value} (hown : s.vm.findClass own = some m.cls) (w1 : (Cond.methodLink own index y).before a0 Z = true) (w2 : (Cond.static y).before a0 Z = true) (w3 : (Cond.initialized y.cls).before a0 Z = true) (w4 : (Cond.code y bytes maxL ret).before a0 Z = true) (hy : y.cls ≠ "java/lang/invoke/MethodHandle" ∧ y.cls ≠ "java/lang/invoke/VarHandle")
    (eT : T.heap = h) (hM : Ct l Z y bytes maxL ret rm as' h Q) (hf : rm.frames + 1 ≤ R.frames) (hl : W + (maxL + 11) + rm.locals ≤ R.locals) (hsize : Ls.size = c.maxLocals) (hlen : ∀ sig, parseMethodDescriptor y.desc = some sig → argsL.length = sig.parameters.length) (has : argsL.toArray = as') (hW : (rest.map fun v => v.category).sum ≤ W) (hd : decode c.code pc = .ok (.invokestatic index, 3)) (hp : pc + 3 = pc') (hc : cells + rm.cells ≤ R.cells) (hs : slots + rm.slots ≤ R.slots)
    (hst : st = argsL.reverse ++ rest) (k : ∀ (T' : State) (v : Option Value) (L : List Loc), Stand p l e R s m args below meth c T' (locs ++ L) (cells + rm.cells) (slots + rm.slots) → Q v T'.heap L → Go p e below G (T'.setTop (mkF m pc' Ls (v.toList ++ rest)))) : Go p e below G (T.setTop (mkF m pc Ls st)) := by
  obtain ⟨v, vm₁, ⟨T', L', k', n'⟩, -, X', ⟨L, hQ, l', y', z'⟩, hst⟩ := Jvm.LawKit.callS X hx hown (mvT hZ w1) (mvT hZ w2) (mvT hZ w3) (mvT hZ w4) hy (backOf (W := W) (hM []) hZ w4 w3 hf hl) (g := mkF m pc Ls st) rfl hsize (argsL := argsL) (rest := rest) hlen hst (by show 2 * 0 + _ ≤ _; omega) hd (fun _ _ => ⟨has, eT, hc, hs⟩)
  dsimp only [Pt.U, Pt.locs, Pt.cells, Pt.slots] at X' l' y' z' hst hQ
  subst l' y' z' hp
  exact Go.to hst (k T' v L X' hQ)
theorem g_callI (X : Stand p l e R s m args below meth c T locs cells slots) (hx : p.tables.exec = Jvm.exec) (hZ : Z.Warmed39 s.vm) {own : String} {index : Nat} {y : MethodName} {bytes : ByteArray} {maxL : Nat} {rm : Room} {as' : Array Value} {Q : Option Value → Heap → List Loc → Prop} (W : Nat) {argsL rest : List Value} {a : Addr} (hown : s.vm.findClass own = some m.cls) (hy1 : y.name = "<init>") (w1 : (Cond.methodLink own index y).before a0 Z = true) (w2 : (Cond.instanceMethod y).before a0 Z = true) (w3 : (Cond.initialized y.cls).before a0 Z = true) (w4 : (Cond.code y bytes maxL none).before a0 Z = true) (hy : y.cls ≠ "java/lang/invoke/MethodHandle" ∧ y.cls ≠ "java/lang/invoke/VarHandle")
    (eT : T.heap = h) (hM : Ct l Z y bytes maxL none rm as' h Q) (hf : rm.frames + 1 ≤ R.frames) (hl : W + (maxL + 11) + rm.locals ≤ R.locals) (hsize : Ls.size = c.maxLocals) (hlen : ∀ sig, parseMethodDescriptor y.desc = some sig → argsL.length = sig.parameters.length) (has : (.ref a :: argsL).toArray = as') (hW : (rest.map fun v => v.category).sum ≤ W) (hd : decode c.code pc = .ok (.invokespecial index, 3)) (hp : pc + 3 = pc') (hc : cells + rm.cells ≤ R.cells) (hs : slots + rm.slots ≤ R.slots)
    (hst : st = argsL.reverse ++ .ref a :: rest) (k : ∀ (T' : State) (v : Option Value) (L : List Loc), Stand p l e R s m args below meth c T' (locs ++ L) (cells + rm.cells) (slots + rm.slots) → Q v T'.heap L → Go p e below G (T'.setTop (mkF m pc' Ls (v.toList ++ rest)))) : Go p e below G (T.setTop (mkF m pc Ls st)) := by
  obtain ⟨v, vm₁, ⟨T', L', k', n'⟩, -, X', ⟨L, hQ, l', y', z'⟩, hst⟩ := X.specialBack hx hy1 hown (mvT hZ w1) (mvT hZ w2) (mvT hZ w4) hy (backOf (W := W) (hM []) hZ w4 w3 hf hl) (g := mkF m pc Ls st) rfl hsize (Steps.refl _) (a := a) (argsL := argsL) (rest := rest) hlen hst (by show 2 * 0 + _ ≤ _; omega) hd (fun _ _ => ⟨has, eT, hc, hs⟩)
  dsimp only [Pt.U, Pt.locs, Pt.cells, Pt.slots] at X' l' y' z' hst hQ
  subst l' y' z' hp
  exact Go.to (fun t q => hst.trans q) (k T' v L X' hQ)
theorem g_callV (X : Stand p l e R s m args below meth c T locs cells slots) (hx : p.tables.exec = Jvm.exec) (hZ : Z.Warmed39 s.vm) {C : String} {own : String} {index : Nat} {y : MethodName} {bytes : ByteArray} {maxL : Nat} {ret : Option FieldType} {rm : Room} {as' : Array Value} {Q : Option Value → Heap → List Loc → Prop} (W : Nat) {argsL rest : List Value} {a : Addr} (hown : s.vm.findClass own = some m.cls) (w1 : (Cond.methodLink own index y).before a0 Z = true) (w2 : (Cond.declares y).before a0 Z = true) (w3 : (Cond.selects C y y).before a0 Z = true) (w4 : (Cond.instanceMethod y).before a0 Z = true) (w5 : (Cond.code y bytes maxL ret).before a0 Z = true) (w6 : (Cond.initialized y.cls).before a0 Z = true) (hy : y.cls ≠ "java/lang/invoke/MethodHandle" ∧ y.cls ≠ "java/lang/invoke/VarHandle")
    (eT : T.heap = h) (E : Exa Z h a C) (hM : Ct l Z y bytes maxL ret rm as' h Q) (hf : rm.frames + 1 ≤ R.frames) (hl : W + (maxL + 11) + rm.locals ≤ R.locals) (hsize : Ls.size = c.maxLocals) (hlen : ∀ sig, parseMethodDescriptor y.desc = some sig → argsL.length = sig.parameters.length) (has : (.ref a :: argsL).toArray = as') (hW : (rest.map fun v => v.category).sum ≤ W) (hd : decode c.code pc = .ok (.invokevirtual index, 3)) (hp : pc + 3 = pc') (hc : cells + rm.cells ≤ R.cells) (hs : slots + rm.slots ≤ R.slots)
    (hst : st = argsL.reverse ++ .ref a :: rest) (k : ∀ (T' : State) (v : Option Value) (L : List Loc), Stand p l e R s m args below meth c T' (locs ++ L) (cells + rm.cells) (slots + rm.slots) → Q v T'.heap L → Go p e below G (T'.setTop (mkF m pc' Ls (v.toList ++ rest)))) : Go p e below G (T.setTop (mkF m pc Ls st)) := by
  obtain ⟨cq, kq, qa, qb, qc⟩ := isOf hZ eT E
  obtain ⟨v, vm₁, ⟨T', L', k', n'⟩, -, X', ⟨L, hQ, l', y', z'⟩, hst⟩ := X.virtualBack hx hown (mvT hZ w1) (mvT hZ w2) (notFace_of_selects (args := #[]) (mvT hZ w3)) (mvT hZ w3) (mvT hZ w4) hy (backOf (W := W) (hM []) hZ w5 w6 hf hl) qa qc (g := mkF m pc Ls st) rfl hsize (Steps.refl _) (argsL := argsL) (rest := rest) hlen hst (by show 2 * 0 + _ ≤ _; omega) hd (fun _ _ => ⟨has, eT, hc, hs⟩)
  dsimp only [Pt.U, Pt.locs, Pt.cells, Pt.slots] at X' l' y' z' hst hQ
  subst l' y' z' hp
  exact Go.to (fun t q => hst.trans q) (k T' v L X' hQ)
theorem g_new (X : Stand p l e R s m args below meth c T locs cells slots) (hx : p.tables.exec = Jvm.exec) (hZ : Z.Warmed39 s.vm) {own C : String} {index n : Nat} (hown : s.vm.findClass own = some m.cls) (w : (Cond.classLink own index C).before a0 Z = true) (wi : (Cond.instantiable C n).before a0 Z = true) (wz : (Cond.initialized C).before a0 Z = true) (eT : T.heap = h) (hd : decode c.code pc = .ok (.new index, 3)) (hp : pc + 3 = pc') (hc : cells + 1 ≤ R.cells) (hl : slots + n ≤ R.slots)
    (k : ∀ (T' : State) (h' : Heap) (a : Addr), a = h.size → Stand p l e R s m args below meth c T' locs (cells + 1) (slots + n) → T'.heap = h' → Ext h h' → Exa Z h' a C → (∀ {O nm d : String} {ty : FieldType}, Laid Z a0 C O nm d → parseFieldDescriptor d = some ty → Fld Z h' a O nm d (defaultValue ty)) → Go p e below G (T'.setTop (mkF m pc' Ls (.ref a :: st)))) : Go p e below G (T.setTop (mkF m pc Ls st)) := by
  obtain ⟨T', h', X', e', E, A, D, -, hst⟩ := newO X hx hZ hown w wi wz eT (g := mkF m pc Ls st) rfl hd hc hl
  subst hp
  exact Go.to hst (k T' h' _ rfl X' e' E A D)
theorem g_initO (X : Stand p l e R s m args below meth c T locs cells slots) (hx : p.tables.exec = Jvm.exec) (hZ : Z.Warmed39 s.vm) {own : String} {index : Nat} {a : Addr} (hown : s.vm.findClass own = some m.cls) (w1 : (Cond.methodLink own index Lib.objectInit).before a0 Z = true) (w2 : (Cond.instanceMethod Lib.objectInit).before a0 Z = true) (w3 : (Cond.code Lib.objectInit object_method_1_code 1 none).before a0 Z = true)
    (eT : T.heap = h) (hsize : Ls.size = c.maxLocals) (hd : decode c.code pc = .ok (.invokespecial index, 3)) (hp : pc + 3 = pc') (hf : 1 ≤ R.frames) (W : Nat) (hW : (st.map fun v => v.category).sum ≤ W) (hl : W + 12 ≤ R.locals) (k : ∀ (T' : State), Stand p l e R s m args below meth c T' locs cells slots → T'.heap = h → Go p e below G (T'.setTop (mkF m pc' Ls st))) : Go p e below G (T.setTop (mkF m pc Ls (.ref a :: st))) := by
  obtain ⟨T', X', e', hst⟩ := initO X hx hZ hown w1 w2 w3 eT (g := mkF m pc Ls (.ref a :: st)) rfl hsize rfl hd hf (W := W) (by show 2 * 0 + _ ≤ _; omega) hl
  subst hp
  exact Go.to hst (k T' X' e')
theorem g_putF (X : Stand p l e R s m args below meth c T locs cells slots) (hx : p.tables.exec = Jvm.exec) (hZ : Z.Warmed39 s.vm) {own R0 O n d host C : String} {index kk : Nat} (ty : FieldType) {a : Addr} {v old : Value} (hown : s.vm.findClass own = some m.cls) (w : (Cond.fieldLink own index R0 n d).before a0 Z = true ∨ (Cond.fieldLinkNest own index R0 n d host).before a0 Z = true) (via : Via Z R0 O n d) (eT : T.heap = h) (F : Fld Z h a O n d old) (E : Exa Z h a C) (L : (Cond.lays C O n d).before a0 Z = true ∨ ((Cond.laysFinal C O n d).before a0 Z = true ∧ own = O ∧ meth.name = "<init>")) (wi : (Cond.instantiable C kk).before a0 Z = true)
    (hty : parseFieldDescriptor d = some ty) (hn : narrow ty v = v) (hf : fits ty v = true) (hd : decode c.code pc = .ok (.putfield index, 3)) (hp : pc + 3 = pc') (k : ∀ (T' : State) (h' : Heap), Stand p l e R s m args below meth c T' (locs ++ [⟨a, Jvm.RoadKit.slotOf Z O n d⟩]) cells slots → T'.heap = h' → Wr h h' a (Jvm.RoadKit.slotOf Z O n d) v → Go p e below G (T'.setTop (mkF m pc' Ls st))) : Go p e below G (T.setTop (mkF m pc Ls (v :: .ref a :: st))) := by
  obtain ⟨T', h', X', e', W, hst⟩ := putF X hx hZ hown w via eT F E L wi hty hn hf (g := mkF m pc Ls (v :: .ref a :: st)) rfl rfl hd
  subst hp
  exact Go.to hst (k T' h' X' e' W)
theorem g_getF (X : Stand p l e R s m args below meth c T locs cells slots) (hx : p.tables.exec = Jvm.exec) (hZ : Z.Warmed39 s.vm) {own R0 O n d host : String} {index : Nat} {a : Addr} {v : Value} (hown : s.vm.findClass own = some m.cls) (w : (Cond.fieldLink own index R0 n d).before a0 Z = true ∨ (Cond.fieldLinkNest own index R0 n d host).before a0 Z = true) (via : Via Z R0 O n d) (eT : T.heap = h) (F : Fld Z h a O n d v) (hd : decode c.code pc = .ok (.getfield index, 3)) (hp : pc + 3 = pc')
    (k : ∀ (T' : State), Stand p l e R s m args below meth c T' locs cells slots → T'.heap = h → Go p e below G (T'.setTop (mkF m pc' Ls (v :: st)))) : Go p e below G (T.setTop (mkF m pc Ls (.ref a :: st))) := by
  obtain ⟨T', X', e', hst⟩ := getF X hx hZ hown w via eT F (g := mkF m pc Ls (.ref a :: st)) rfl rfl hd
  subst hp
  exact Go.to hst (k T' X' e')
theorem g_getS (X : Stand p l e R s m args below meth c T locs cells slots) (hx : p.tables.exec = Jvm.exec) (hZ : Z.Warmed39 s.vm) {own R0 O n d : String} {index : Nat} {v : Value} (hown : s.vm.findClass own = some m.cls) (w : (Cond.fieldLink own index R0 n d).before a0 Z = true) (via : Via Z R0 O n d) (eT : T.heap = h) (F : Sta Z h O n d v) (hd : decode c.code pc = .ok (.getstatic index, 3)) (hp : pc + 3 = pc')
    (k : ∀ (T' : State), Stand p l e R s m args below meth c T' locs cells slots → T'.heap = h → Go p e below G (T'.setTop (mkF m pc' Ls (v :: st)))) : Go p e below G (T.setTop (mkF m pc Ls st)) := by
  obtain ⟨T', X', e', hst⟩ := getS (host := "") X hx hZ hown w via eT F (g := mkF m pc Ls st) rfl hd
  subst hp
  exact Go.to hst (k T' X' e')
/-- an array of ty with n places at a; place j holds f j -/
def Av (Z : State) (h : Heap) (a : Addr) (ty : FieldType) (n : Nat) (f : Nat → Value) : Prop := ∃ c : Cell, Arr Z h a c ty ∧ c.slots.size = n ∧ ∀ j, j < n → c.slots[j]? = some (f j)
def upd (f : Nat → Value) (i : Nat) (v : Value) : Nat → Value := fun j => if j = i then v else f j
theorem Av.lt {a : Addr} {ty : FieldType} {n : Nat} {f : Nat → Value} (A : Av Z h a ty n f) : a < h.size := by obtain ⟨c, A, -⟩ := A; exact A.lt
theorem Av.ext {h' : Heap} {a : Addr} {ty : FieldType} {n : Nat} {f : Nat → Value} (A : Av Z h a ty n f) (E : Ext h h') : Av Z h' a ty n f := by obtain ⟨c, A, r⟩ := A; exact ⟨c, A.ext E, r⟩
theorem Av.other {h' : Heap} {a b : Addr} {ty : FieldType} {n sl : Nat} {f : Nat → Value} {v : Value} (A : Av Z h b ty n f) (W : Wr h h' a sl v) (q : b ≠ a) : Av Z h' b ty n f := by obtain ⟨c, A, r⟩ := A; exact ⟨c, A.other W q, r⟩
theorem Av.keep {h' : Heap} {a : Addr} {ty : FieldType} {n : Nat} {f : Nat → Value} {ws : List Addr} (A : Av Z h a ty n f) (K : Keep h h' ws) (q : a ∉ ws) : Av Z h' a ty n f := by obtain ⟨c, A, r⟩ := A; exact ⟨c, ⟨K.2.1 a c A.1 q, A.2⟩, r⟩
theorem Av.same {h' : Heap} {a : Addr} {ty : FieldType} {n i : Nat} {f : Nat → Value} {v : Value} (A : Av Z h a ty n f) (W : Wr h h' a i v) : Av Z h' a ty n (upd f i v) := by
  obtain ⟨c, A, r1, r2⟩ := A
  refine ⟨_, A.same W, by rw [sz_set]; exact r1, fun j hj => ?_⟩
  by_cases u : j = i
  · subst u; simp [Cell.setSlot, upd, r1, hj]
  · simp only [Cell.setSlot, upd, if_neg u]; rw [Array.getElem?_setIfInBounds_ne (Ne.symm u)]; exact r2 j hj
theorem Av.congr {a : Addr} {ty : FieldType} {n : Nat} {f g : Nat → Value} (A : Av Z h a ty n f) (q : ∀ j, j < n → f j = g j) : Av Z h a ty n g := by obtain ⟨c, A, r1, r2⟩ := A; exact ⟨c, A, r1, fun j hj => by rw [← q j hj]; exact r2 j hj⟩
theorem Av.ne {a b : Addr} {ty ty' : FieldType} {n : Nat} {f : Nat → Value} (A : Av Z h a ty n f) (q : h.size ≤ b) : a ≠ b := fun e => absurd A.lt (Nat.not_lt.mpr (e ▸ q))
theorem in_of {c : Cell} {n i : Nat} {j : Int32} (S : c.slots.size = n) (q : ¬ j < 0) (hj : j.toNatClampNeg = i) (hi : i < n) : ¬ (j < 0 ∨ c.slots.size ≤ j.toNatClampNeg) := fun z => z.elim q fun y => absurd hi (Nat.not_lt.mpr (by rw [← hj, ← S]; exact y))
theorem g_newarr (X : Stand p l e R s m args below meth c T locs cells slots) (hx : p.tables.exec = Jvm.exec) (hZ : Z.Warmed39 s.vm) {aty : ArrayType} {ty : FieldType} (w : (Cond.arrayClass ty).before a0 Z = true) (hty : newarray.typeOf aty = ty) (eT : T.heap = h) (hd : decode c.code pc = .ok (.newarray aty, 2)) (hp : pc + 2 = pc') {z : Int32} {n : Nat} (hz : ¬ z < 0) (hn : z.toNatClampNeg = n) (cap : Nat) (hcap : n ≤ cap) (hb : cap * 8 ≤ 536870912) (hc : cells + 1 ≤ R.cells) (hl : slots + cap ≤ R.slots)
    (k : ∀ (T' : State) (h' : Heap) (a : Addr), a = h.size → Stand p l e R s m args below meth c T' locs (cells + 1) (slots + cap) → T'.heap = h' → Ext h h' → Av Z h' a ty n (fun _ => defaultValue ty) → Go p e below G (T'.setTop (mkF m pc' Ls (.ref a :: st)))) : Go p e below G (T.setTop (mkF m pc Ls (.int z :: st))) := by
  subst hty
  obtain ⟨T', h', cA, X', e', E, A, hst⟩ := newP X hx hZ w eT (g := mkF m pc Ls (.int z :: st)) rfl hd rfl hz (cap := cap) (by omega) hb hc hl
  subst hp
  exact Go.to hst (k T' h' _ rfl X' e' E ⟨_, A, by rw [sz_new]; exact hn, fun j hj => by rw [← hn] at hj; simp [newA, hj]⟩)
theorem g_newarrR (X : Stand p l e R s m args below meth c T locs cells slots) (hx : p.tables.exec = Jvm.exec) (hZ : Z.Warmed39 s.vm) {own C : String} {index : Nat} (hown : s.vm.findClass own = some m.cls) (w1 : (Cond.classLink own index C).before a0 Z = true) (w2 : (Cond.arrayOver (.object C)).before a0 Z = true) (eT : T.heap = h) (hd : decode c.code pc = .ok (.anewarray index, 3)) (hp : pc + 3 = pc') {z : Int32} {n : Nat} (hz : ¬ z < 0) (hn : z.toNatClampNeg = n) (cap : Nat) (hcap : n ≤ cap) (hb : cap * 8 ≤ 536870912) (hc : cells + 1 ≤ R.cells) (hl : slots + cap ≤ R.slots)
    (k : ∀ (T' : State) (h' : Heap) (a : Addr) (cA : ClassId), a = h.size → Stand p l e R s m args below meth c T' locs (cells + 1) (slots + cap) → T'.heap = h' → Ext h h' → Av Z h' a (.object C) n (fun _ => .null) → Ovr Z cA C → (∃ cl : Cell, h'[a]? = some cl ∧ cl.cls = cA) → Go p e below G (T'.setTop (mkF m pc' Ls (.ref a :: st)))) : Go p e below G (T.setTop (mkF m pc Ls (.int z :: st))) := by
  obtain ⟨T', h', cA, X', e', E, A, O, hst⟩ := newR X hx hZ hown w1 w2 eT (g := mkF m pc Ls (.int z :: st)) rfl hd rfl hz (cap := cap) (by omega) hb hc hl
  subst hp
  exact Go.to hst (k T' h' _ cA rfl X' e' E ⟨_, A, by rw [sz_new]; exact hn, fun j hj => by rw [← hn] at hj; simp [newA, hj, defaultValue]⟩ O ⟨_, A.1, rfl⟩)
theorem g_iaload (X : Stand p l e R s m args below meth c T locs cells slots) (hx : p.tables.exec = Jvm.exec) (hZ : Z.Warmed39 s.vm) {a : Addr} {n i : Nat} {f : Nat → Value} {j : Int32} {v : Int32} (eT : T.heap = h) (A : Av Z h a .int n f) (hj0 : ¬ j < 0) (hj : j.toNatClampNeg = i) (hi : i < n) (hv : f i = .int v) (hd : decode c.code pc = .ok (.iaload, 1)) (hp : pc + 1 = pc') (k : Go p e below G (T.setTop (mkF m pc' Ls (.int v :: st)))) : Go p e below G (T.setTop (mkF m pc Ls (.int j :: .ref a :: st))) := by
  obtain ⟨cl, Ar, S, H⟩ := A
  subst hp
  exact Go.to (fun t q => X.iaload hx (j := j) (v := .int v) (by rw [eT]; exact Ar.1) (State.isArrayOf_alike hZ.alike Ar.2.1) Ar.2.2 (in_of S hj0 hj hi) (by rw [hj, ← hv]; exact H i hi) (g := mkF m pc Ls (.int j :: .ref a :: st)) rfl rfl hd _ q) k
theorem g_baload (X : Stand p l e R s m args below meth c T locs cells slots) (hx : p.tables.exec = Jvm.exec) (hZ : Z.Warmed39 s.vm) {a : Addr} {n i : Nat} {f : Nat → Value} {j : Int32} {v : Int32} (eT : T.heap = h) (A : Av Z h a .byte n f) (hj0 : ¬ j < 0) (hj : j.toNatClampNeg = i) (hi : i < n) (hv : f i = .int v) (hd : decode c.code pc = .ok (.baload, 1)) (hp : pc + 1 = pc') (k : Go p e below G (T.setTop (mkF m pc' Ls (.int v :: st)))) : Go p e below G (T.setTop (mkF m pc Ls (.int j :: .ref a :: st))) := by
  obtain ⟨cl, Ar, S, H⟩ := A
  subst hp
  exact Go.to (fun t q => X.baloadBytes hx (j := j) (v := .int v) (by rw [eT]; exact Ar.1) (State.isArrayOf_alike hZ.alike Ar.2.1) Ar.2.2 (in_of S hj0 hj hi) (by rw [hj, ← hv]; exact H i hi) (g := mkF m pc Ls (.int j :: .ref a :: st)) rfl rfl hd _ q) k
theorem g_laload (X : Stand p l e R s m args below meth c T locs cells slots) (hx : p.tables.exec = Jvm.exec) (hZ : Z.Warmed39 s.vm) {a : Addr} {n i : Nat} {f : Nat → Value} {j : Int32} {v : Int64} (eT : T.heap = h) (A : Av Z h a .long n f) (hj0 : ¬ j < 0) (hj : j.toNatClampNeg = i) (hi : i < n) (hv : f i = .long v) (hd : decode c.code pc = .ok (.laload, 1)) (hp : pc + 1 = pc') (k : Go p e below G (T.setTop (mkF m pc' Ls (.long v :: st)))) : Go p e below G (T.setTop (mkF m pc Ls (.int j :: .ref a :: st))) := by
  obtain ⟨cl, Ar, S, H⟩ := A
  subst hp
  exact Go.to (fun t q => X.laload hx (j := j) (v := .long v) (by rw [eT]; exact Ar.1) (State.isArrayOf_alike hZ.alike Ar.2.1) Ar.2.2 (in_of S hj0 hj hi) (by rw [hj, ← hv]; exact H i hi) (g := mkF m pc Ls (.int j :: .ref a :: st)) rfl rfl hd _ q) k
theorem g_aaload (X : Stand p l e R s m args below meth c T locs cells slots) (hx : p.tables.exec = Jvm.exec) (hZ : Z.Warmed39 s.vm) {a : Addr} {n i : Nat} {f : Nat → Value} {j : Int32} {v : Value} {ty : FieldType} (eT : T.heap = h) (A : Av Z h a ty n f) (hty : ty.isReference = true) (hj0 : ¬ j < 0) (hj : j.toNatClampNeg = i) (hi : i < n) (hv : f i = v) (hd : decode c.code pc = .ok (.aaload, 1)) (hp : pc + 1 = pc') (k : Go p e below G (T.setTop (mkF m pc' Ls (v :: st)))) : Go p e below G (T.setTop (mkF m pc Ls (.int j :: .ref a :: st))) := by
  obtain ⟨cl, Ar, S, H⟩ := A
  subst hp
  exact Go.to (fun t q => X.aaload hx (j := j) (v := v) (by rw [eT]; exact Ar.1) (State.isArrayOf_alike hZ.alike Ar.2.1) hty Ar.2.2 (in_of S hj0 hj hi) (by rw [hj, ← hv]; exact H i hi) (g := mkF m pc Ls (.int j :: .ref a :: st)) rfl rfl hd _ q) k
theorem g_arraylength (X : Stand p l e R s m args below meth c T locs cells slots) (hx : p.tables.exec = Jvm.exec) (hZ : Z.Warmed39 s.vm) {a : Addr} {n : Nat} {f : Nat → Value} {z : Int32} {ty : FieldType} (eT : T.heap = h) (A : Av Z h a ty n f) (hz : n.toInt32 = z) (hd : decode c.code pc = .ok (.arraylength, 1)) (hp : pc + 1 = pc') (k : Go p e below G (T.setTop (mkF m pc' Ls (.int z :: st)))) : Go p e below G (T.setTop (mkF m pc Ls (.ref a :: st))) := by
  obtain ⟨cl, Ar, S, H⟩ := A
  subst hp hz S
  exact Go.to (fun t q => X.arraylength hx (by rw [eT]; exact Ar.1) (State.isArrayOf_alike hZ.alike Ar.2.1) (g := mkF m pc Ls (.ref a :: st)) rfl rfl hd _ q) k
theorem g_iastore (X : Stand p l e R s m args below meth c T locs cells slots) (hx : p.tables.exec = Jvm.exec) (hZ : Z.Warmed39 s.vm) {a : Addr} {n i : Nat} {f : Nat → Value} {j : Int32} {x : Int32} (eT : T.heap = h) (A : Av Z h a .int n f) (hj0 : ¬ j < 0) (hj : j.toNatClampNeg = i) (hi : i < n) (hd : decode c.code pc = .ok (.iastore, 1)) (hp : pc + 1 = pc')
    (k : ∀ (T' : State) (h' : Heap), Stand p l e R s m args below meth c T' (locs ++ [⟨a, i⟩]) cells slots → T'.heap = h' → Wr h h' a i (.int x) → Av Z h' a .int n (upd f i (.int x)) → Go p e below G (T'.setTop (mkF m pc' Ls st))) : Go p e below G (T.setTop (mkF m pc Ls (.int x :: .int j :: .ref a :: st))) := by
  obtain ⟨cl, Ar, S, H⟩ := id A
  obtain ⟨T', h', X', e', W, hst⟩ := stI X hx hZ eT Ar (in_of S hj0 hj hi) (g := mkF m pc Ls (.int x :: .int j :: .ref a :: st)) rfl rfl hd
  subst hp hj
  exact Go.to hst (k T' h' X' e' W (A.same W))
theorem g_lastore (X : Stand p l e R s m args below meth c T locs cells slots) (hx : p.tables.exec = Jvm.exec) (hZ : Z.Warmed39 s.vm) {a : Addr} {n i : Nat} {f : Nat → Value} {j : Int32} {x : Int64} (eT : T.heap = h) (A : Av Z h a .long n f) (hj0 : ¬ j < 0) (hj : j.toNatClampNeg = i) (hi : i < n) (hd : decode c.code pc = .ok (.lastore, 1)) (hp : pc + 1 = pc')
    (k : ∀ (T' : State) (h' : Heap), Stand p l e R s m args below meth c T' (locs ++ [⟨a, i⟩]) cells slots → T'.heap = h' → Wr h h' a i (.long x) → Av Z h' a .long n (upd f i (.long x)) → Go p e below G (T'.setTop (mkF m pc' Ls st))) : Go p e below G (T.setTop (mkF m pc Ls (.long x :: .int j :: .ref a :: st))) := by
  obtain ⟨cl, Ar, S, H⟩ := id A
  obtain ⟨T', h', X', e', W, hst⟩ := stJ X hx hZ eT Ar (in_of S hj0 hj hi) (g := mkF m pc Ls (.long x :: .int j :: .ref a :: st)) rfl rfl hd
  subst hp hj
  exact Go.to hst (k T' h' X' e' W (A.same W))
theorem g_bastore (X : Stand p l e R s m args below meth c T locs cells slots) (hx : p.tables.exec = Jvm.exec) (hZ : Z.Warmed39 s.vm) {a : Addr} {n i : Nat} {f : Nat → Value} {j : Int32} {x : Int32} (eT : T.heap = h) (A : Av Z h a .byte n f) (hj0 : ¬ j < 0) (hj : j.toNatClampNeg = i) (hi : i < n) (hd : decode c.code pc = .ok (.bastore, 1)) (hp : pc + 1 = pc')
    (k : ∀ (T' : State) (h' : Heap), Stand p l e R s m args below meth c T' (locs ++ [⟨a, i⟩]) cells slots → T'.heap = h' → Wr h h' a i (.int (nar .byte x)) → Av Z h' a .byte n (upd f i (.int (nar .byte x))) → Go p e below G (T'.setTop (mkF m pc' Ls st))) : Go p e below G (T.setTop (mkF m pc Ls (.int x :: .int j :: .ref a :: st))) := by
  obtain ⟨cl, Ar, S, H⟩ := id A
  obtain ⟨T', h', X', e', W, hst⟩ := stB X hx hZ eT Ar (in_of S hj0 hj hi) (g := mkF m pc Ls (.int x :: .int j :: .ref a :: st)) rfl rfl hd
  subst hp hj
  exact Go.to hst (k T' h' X' e' W (A.same W))
theorem g_aastore (X : Stand p l e R s m args below meth c T locs cells slots) (hx : p.tables.exec = Jvm.exec) (hZ : Z.Warmed39 s.vm) {a : Addr} {n i : Nat} {f : Nat → Value} {j : Int32} {v : Value} {ty : FieldType} (eT : T.heap = h) (A : Av Z h a ty n f) (hty : ty.isReference = true) (F : Sto Z h a v) (hj0 : ¬ j < 0) (hj : j.toNatClampNeg = i) (hi : i < n) (hd : decode c.code pc = .ok (.aastore, 1)) (hp : pc + 1 = pc')
    (k : ∀ (T' : State) (h' : Heap), Stand p l e R s m args below meth c T' (locs ++ [⟨a, i⟩]) cells slots → T'.heap = h' → Wr h h' a i v → Av Z h' a ty n (upd f i v) → Go p e below G (T'.setTop (mkF m pc' Ls st))) : Go p e below G (T.setTop (mkF m pc Ls (v :: .int j :: .ref a :: st))) := by
  obtain ⟨cl, Ar, S, H⟩ := id A
  obtain ⟨T', h', X', e', W, hst⟩ := stR X hx hZ eT Ar (in_of S hj0 hj hi) hty F (g := mkF m pc Ls (v :: .int j :: .ref a :: st)) rfl rfl hd
  subst hp hj
  exact Go.to hst (k T' h' X' e' W (A.same W))
end Kit
section Kit2
variable {p : Program} {l : Launch} {e : Env} {R : Room} {s : State} {m : MethodId} {args : Array Value} {below : List Frame} {meth : Method} {c : Code} {T : State} {locs : List Loc} {cells slots : Nat} {Z : State} {a0 : Array Value} {h : Heap} {G : State → Prop} {pc pc' : Nat} {Ls Ls' : Array Slot} {st : List Value}
theorem g_ifnull (X : Stand p l e R s m args below meth c T locs cells slots) (hx : p.tables.exec = Jvm.exec) {o : Int} {v : Value} {pcF : Nat} (hv : v.isRef = true) (hd : decode c.code pc = .ok (.ifnull o, 3)) (ho : 0 ≤ (pc : Int) + o) (hp : ((pc : Int) + o).toNat = pc') (hq : pc + 3 = pcF) (kT : v = .null → Go p e below G (T.setTop (mkF m pc' Ls st))) (kF : ∀ b, v = .ref b → Go p e below G (T.setTop (mkF m pcF Ls st))) : Go p e below G (T.setTop (mkF m pc Ls (v :: st))) := by
  rcases ref_cases hv with rfl | ⟨b, rfl⟩
  · exact g_ifnullY X hx hd ho hp (kT rfl)
  · exact g_ifnullN X hx hd hq (kF b rfl)
theorem g_ifnonnull (X : Stand p l e R s m args below meth c T locs cells slots) (hx : p.tables.exec = Jvm.exec) {o : Int} {v : Value} {pcF : Nat} (hv : v.isRef = true) (hd : decode c.code pc = .ok (.ifnonnull o, 3)) (ho : 0 ≤ (pc : Int) + o) (hp : ((pc : Int) + o).toNat = pc') (hq : pc + 3 = pcF) (kT : ∀ b, v = .ref b → Go p e below G (T.setTop (mkF m pc' Ls st))) (kF : v = .null → Go p e below G (T.setTop (mkF m pcF Ls st))) : Go p e below G (T.setTop (mkF m pc Ls (v :: st))) := by
  rcases ref_cases hv with rfl | ⟨b, rfl⟩
  · exact g_ifnonnullN X hx hd hq (kF rfl)
  · exact g_ifnonnullY X hx hd ho hp (kT b rfl)
/-- an object of class C at a; its fields (declaring class, name, descriptor) hold g name -/
def Ob (Z : State) (h : Heap) (a : Addr) (C : String) (fs : List (String × String × String)) (g : String → Value) : Prop := Exa Z h a C ∧ ∀ q ∈ fs, Fld Z h a q.1 q.2.1 q.2.2 (g q.2.1)
def set (g : String → Value) (n : String) (v : Value) : String → Value := fun k => if k = n then v else g k
def Lds (Z : State) (a0 : Array Value) (C : String) (fs : List (String × String × String)) : Prop := ∀ q ∈ fs, Laid Z a0 C q.1 q.2.1 q.2.2
theorem Ob.lt {a : Addr} {C : String} {fs : List (String × String × String)} {g : String → Value} (F : Ob Z h a C fs g) : a < h.size := F.1.lt
theorem Ob.ext {h' : Heap} {a : Addr} {C : String} {fs : List (String × String × String)} {g : String → Value} (F : Ob Z h a C fs g) (E : Ext h h') : Ob Z h' a C fs g := ⟨F.1.ext E, fun q hq => (F.2 q hq).ext E⟩
theorem Ob.other {h' : Heap} {a b : Addr} {C : String} {fs : List (String × String × String)} {g : String → Value} {sl : Nat} {v : Value} (F : Ob Z h b C fs g) (W : Wr h h' a sl v) (ne : b ≠ a) : Ob Z h' b C fs g := ⟨F.1.wr W, fun q hq => (F.2 q hq).other W (Or.inl ne)⟩
theorem Ob.keep {h' : Heap} {a : Addr} {C : String} {fs : List (String × String × String)} {g : String → Value} {ws : List Addr} (F : Ob Z h a C fs g) (K : Keep h h' ws) (ne : a ∉ ws) : Ob Z h' a C fs g := ⟨F.1.keep K, fun q hq => (F.2 q hq).keep K ne⟩
theorem Ob.congr {a : Addr} {C : String} {fs : List (String × String × String)} {g g' : String → Value} (F : Ob Z h a C fs g) (e : ∀ q ∈ fs, g q.2.1 = g' q.2.1) : Ob Z h a C fs g' := ⟨F.1, fun q hq => by rw [← e q hq]; exact F.2 q hq⟩
theorem Ob.put {h' : Heap} {a : Addr} {C O n d : String} {fs : List (String × String × String)} {g : String → Value} {v : Value} (L : Lds Z a0 C fs) (U : fs.all (fun q => fs.all (fun r => decide (q.2.1 = r.2.1 → q = r))) = true) (D : fs.all (fun q => (parseFieldDescriptor q.2.2).isSome) = true) (F : Ob Z h a C fs g) (hm : (O, n, d) ∈ fs) (W : Wr h h' a (Jvm.RoadKit.slotOf Z O n d) v) : Ob Z h' a C fs (set g n v) := by
  refine ⟨F.1.wr W, fun q hq => ?_⟩
  by_cases u : q.2.1 = n
  · have e : q = (O, n, d) := of_decide_eq_true (List.all_eq_true.mp (List.all_eq_true.mp U q hq) _ hm) u
    subst e
    have := (F.2 _ hm).same W
    simpa [set] using this
  · obtain ⟨t1, h1⟩ := Option.isSome_iff_exists.mp (List.all_eq_true.mp D q hq)
    obtain ⟨t2, h2⟩ := Option.isSome_iff_exists.mp (List.all_eq_true.mp D _ hm)
    have := (F.2 q hq).other W (Or.inr (slot_ne (L q hq) (L _ hm) u h1 h2))
    simpa [set, u] using this
theorem Ob.new {a : Addr} {C : String} {fs : List (String × String × String)} {g : String → Value} (L : Lds Z a0 C fs) (E : Exa Z h a C) (D : ∀ {O nm d : String} {ty : FieldType}, Laid Z a0 C O nm d → parseFieldDescriptor d = some ty → Fld Z h a O nm d (defaultValue ty)) (hg : fs.all (fun q => decide ((parseFieldDescriptor q.2.2).map defaultValue = some (g q.2.1))) = true) : Ob Z h a C fs g := by
  refine ⟨E, fun q hq => ?_⟩
  have := of_decide_eq_true (List.all_eq_true.mp hg q hq)
  obtain ⟨t, h1, h2⟩ := Option.map_eq_some_iff.mp this
  rw [← h2]; exact D (L q hq) h1
theorem ext_of_keep {h' : Heap} (K : Keep h h' []) : Ext h h' := ⟨K.1, fun a c q => K.2.1 a c q nin0⟩
def DnW (s : State) (below : List Frame) (Q : Option Value → Heap → List Loc → Prop) (kc ks : Nat) (t : State) : Prop := ∃ o, t.status = .running ∧ Ended t below o ∧ ∃ v L, o = .returned v ∧ Q v t.heap L ∧ ReturnedEndW s o t L kc ks
def CtW (l : Launch) (Z : State) (y : MethodName) (bytes : ByteArray) (maxL : Nat) (ret : Option FieldType) (rm : Room) (as' : Array Value) (h0 : Heap) (Q : Option Value → Heap → List Loc → Prop) : Prop :=
  ∀ ws, MetFree l y (head1 (Jvm.Cond.code y bytes maxL ret :: ws) rm) (fun a U => a = as' ∧ Z.Warmed39 U.vm ∧ U.heap = h0) (fun _ _ _ _ _ => True) (fun _ U o U' => ∃ v L, o = .returned v ∧ Q v U'.heap L ∧ ReturnedEndW U o U' L rm.cells rm.slots)
theorem CtW.of {y : MethodName} {bytes : ByteArray} {maxL : Nat} {ret : Option FieldType} {rm : Room} {as' : Array Value} {h0 : Heap} {Q : Option Value → Heap → List Loc → Prop} (hn : plainName y.cls = true) (hef : ∀ m, entryFrame m as' maxL = mkF m 0 Ls [])
    (body : ∀ (p : Program) (e : Env) (s : State) (m : MethodId) (below : List Frame) (meth : Method) (c : Code) (T : State) (vm0 : Vm), Stand p l e rm (s.setVm vm0) m as' below meth c T [] 0 0 → p.tables.exec = Jvm.exec → c.code = bytes → c.maxLocals = maxL → meth.sig.returnType = ret → meth.locks = false → Z.Warmed39 vm0 → vm0.findClass y.cls = some m.cls → meth.name = y.name → T.heap = h0 → s.Since vm0 h0.size →
      Go p e below (DnW s below Q rm.cells rm.slots) (T.setTop (mkF m 0 Ls []))) : CtW l Z y bytes maxL ret rm as' h0 Q := by
  intro ws
  refine MetFree.of_bodySF (plainFor_of_name hn) hisR ?_
  intro p e s m args below meth c s₁ Bd hml0 hP hK
  obtain ⟨rfl, hZ, hh⟩ := hP
  obtain ⟨t, h1, o, h2, h3, h4⟩ := body p e s m below meth c s₁ s.vm (Stand.of_body Bd) Bd.exec Bd.bytes hml0 Bd.returns Bd.notSynchronized hZ (findClass_of_methodNamed Bd.named) (name_of_methodNamed Bd.named Bd.method).1 (by rw [← hh, Bd.state]; rfl) ((State.WarmedH.refl s).since _)
  exact ⟨t, o, castTop (hef m) h1, h2, h3, h4⟩
theorem CtW.of_ct {y : MethodName} {bytes : ByteArray} {maxL : Nat} {ret : Option FieldType} {rm : Room} {as' : Array Value} {h0 : Heap} {Q : Option Value → Heap → List Loc → Prop} (H : Ct l Z y bytes maxL ret rm as' h0 Q) : CtW l Z y bytes maxL ret rm as' h0 Q := by
  intro ws p e ha hc hk s m args below hf happ hP hK
  obtain ⟨n, o, h1, h2, h3, v, L, h4, h5, h6⟩ := H ws p e ha hc hk s m args below hf happ hP hK
  exact ⟨n, o, h1, h2, h3, v, L, h4, h5, ReturnedEndW.of_narrow h6.1 h6.2.1 h6.2.2⟩
theorem g_retWG {vm0 : Vm} {k0 : Nat} (X : Stand p l e R (s.setVm vm0) m args below meth c T locs cells slots) (hx : p.tables.exec = Jvm.exec) (hS : s.Since vm0 k0) (hk : k0 ≤ T.heap.size) {w : Value} {t : FieldType} {i : Instr} {rest : List Value} {Q : Option Value → Heap → List Loc → Prop} {kc ks : Nat} (hret : meth.sig.returnType = some t) (hlk : meth.locks = false) (hn : narrow t w = w)
    (hi : (i = .ireturn ∧ (t = .int ∨ t = .boolean ∨ t = .byte ∨ t = .char ∨ t = .short) ∧ ∃ z, w = .int z) ∨ (i = .lreturn ∧ t = .long ∧ ∃ z, w = .long z) ∨ (i = .dreturn ∧ t = .double ∧ ∃ z, w = .double z) ∨ (i = .freturn ∧ t = .float ∧ ∃ z, w = .float z) ∨ (i = .areturn ∧ t.isReference = true ∧ w.isRef = true))
    (hd : decode c.code pc = .ok (i, 1)) (hc : cells ≤ kc) (hs : slots ≤ ks) (hq : Q (some w) T.heap locs) : Go p e below (DnW s below Q kc ks) (T.setTop (mkF m pc Ls (w :: rest))) := by
  obtain ⟨fs, hr, hrun, hended, hv, hW, hI, hsame⟩ := X.leaveW hS hk (v := some w) (fun h => by rw [hret] at h; cases h) hlk
  exact ⟨_, retOut X hx hret hn hi hd hr, _, hrun, hended, _, _, rfl, hq, hv, hW, hI, hsame.mono hc hs⟩
theorem g_retWZ {vm0 : Vm} {k0 : Nat} (X : Stand p l e R (s.setVm vm0) m args below meth c T locs cells slots) (hx : p.tables.exec = Jvm.exec) (hS : s.Since vm0 k0) (hk : k0 ≤ T.heap.size) {z : Int32} {rest : List Value} {Q : Option Value → Heap → List Loc → Prop} {kc ks : Nat} (hret : meth.sig.returnType = some .boolean) (hlk : meth.locks = false) (hz : nar .boolean z = z) (hd : decode c.code pc = .ok (.ireturn, 1)) (hc : cells ≤ kc) (hs : slots ≤ ks) (hq : Q (some (.int z)) T.heap locs) : Go p e below (DnW s below Q kc ks) (T.setTop (mkF m pc Ls (.int z :: rest))) :=
  g_retWG X hx hS hk hret hlk (by show Value.int (nar .boolean z) = _; rw [hz]) (Or.inl ⟨rfl, by simp, _, rfl⟩) hd hc hs hq
theorem g_retWV {vm0 : Vm} {k0 : Nat} (X : Stand p l e R (s.setVm vm0) m args below meth c T locs cells slots) (hx : p.tables.exec = Jvm.exec) (hS : s.Since vm0 k0) (hk : k0 ≤ T.heap.size) {Q : Option Value → Heap → List Loc → Prop} {kc ks : Nat} (hret : meth.sig.returnType = none) (hlk : meth.locks = false) (hd : decode c.code pc = .ok (.return_, 1)) (hc : cells ≤ kc) (hs : slots ≤ ks) (hq : Q none T.heap locs) : Go p e below (DnW s below Q kc ks) (T.setTop (mkF m pc Ls [])) := by
  obtain ⟨fs, hr, hrun, hended, hv, hW, hI, hsame⟩ := X.leaveW hS hk (v := none) (fun _ => rfl) hlk
  exact ⟨_, X.returnOut hx hret hd hr, _, hrun, hended, _, _, rfl, hq, hv, hW, hI, hsame.mono hc hs⟩
theorem g_ldcS {vm0 : Vm} {k0 : Nat} (X : Stand p l e R (s.setVm vm0) m args below meth c T locs cells slots) (hx : p.tables.exec = Jvm.exec) (hS : s.Since vm0 k0) (hZ : Z.Warmed39 vm0) {own text : String} {index : Nat} (hown : vm0.findClass own = some m.cls) (w : (Cond.stringLink own index text).before a0 Z = true) (wS : ∀ a ∈ Bundle.stringAtoms, a.before a0 Z = true) (eT : T.heap = h) (hk : k0 ≤ h.size) (hd : decode c.code pc = .ok (.ldc index, 2)) (hp : pc + 2 = pc') (n : Nat) (hn : 4 * text.toList.length ≤ n) (hbig : n ≤ 536870912) (hc : cells + 2 ≤ R.cells) (hl : slots + (n + 4) ≤ R.slots)
    (k : ∀ (T' : State) (h' : Heap) (a : Addr) (vm1 : Vm) (k1 : Nat), Stand p l e R (s.setVm vm1) m args below meth c T' locs (cells + 2) (slots + (n + 4)) → T'.heap = h' → Ext h h' → s.Since vm1 k1 → k1 ≤ h'.size → Z.Warmed39 vm1 → vm1.findClass own = some m.cls → Go p e below G (T'.setTop (mkF m pc' Ls (.ref a :: st)))) : Go p e below G (T.setTop (mkF m pc Ls st)) := by
  obtain ⟨a, T', h', k1, X', e', E, S', hk', hZ', ho', hst⟩ := ldcS X hx hZ hown w wS eT hS hk (g := mkF m pc Ls st) rfl hd hn hbig hc hl
  subst hp
  exact Go.to hst (k T' h' a T'.vm k1 X' e' E S' hk' hZ' ho')
theorem g_callSW {vm0 : Vm} {k0 : Nat} (X : Stand p l e R (s.setVm vm0) m args below meth c T locs cells slots) (hx : p.tables.exec = Jvm.exec) (hS : s.Since vm0 k0) (hZ : Z.Warmed39 vm0) {own : String} {index : Nat} {y : MethodName} {bytes : ByteArray} {maxL : Nat} {ret : Option FieldType} {rm : Room} {as' : Array Value} {Q : Option Value → Heap → List Loc → Prop} (W : Nat) {argsL rest : List Value} (hown : vm0.findClass own = some m.cls) (w1 : (Cond.methodLink own index y).before a0 Z = true) (w2 : (Cond.static y).before a0 Z = true) (w3 : (Cond.initialized y.cls).before a0 Z = true) (w4 : (Cond.code y bytes maxL ret).before a0 Z = true) (hy : y.cls ≠ "java/lang/invoke/MethodHandle" ∧ y.cls ≠ "java/lang/invoke/VarHandle")
    (eT : T.heap = h) (hk : k0 ≤ h.size) (hM : CtW l Z y bytes maxL ret rm as' h Q) (hf : rm.frames + 1 ≤ R.frames) (hl : W + (maxL + 11) + rm.locals ≤ R.locals) (hsize : Ls.size = c.maxLocals) (hlen : ∀ sig, parseMethodDescriptor y.desc = some sig → argsL.length = sig.parameters.length) (has : argsL.toArray = as') (hW : (rest.map fun v => v.category).sum ≤ W) (hd : decode c.code pc = .ok (.invokestatic index, 3)) (hp : pc + 3 = pc') (hc : cells + rm.cells ≤ R.cells) (hs : slots + rm.slots ≤ R.slots)
    (hst : st = argsL.reverse ++ rest) (k : ∀ (T' : State) (v : Option Value) (L : List Loc) (vm1 : Vm), Stand p l e R (s.setVm vm1) m args below meth c T' (locs ++ L) (cells + rm.cells) (slots + rm.slots) → Q v T'.heap L → s.Since vm1 T'.heap.size → Z.Warmed39 vm1 → vm1.findClass own = some m.cls → Go p e below G (T'.setTop (mkF m pc' Ls (v.toList ++ rest)))) : Go p e below G (T.setTop (mkF m pc Ls st)) := by
  obtain ⟨v, vm₁, ⟨T', L', k', n'⟩, -, X', hS', hsz, ⟨L, hQ, l', y', z'⟩, hst⟩ := callSS X hx hown (mvT (s := s.setVm vm0) hZ w1) (mvT (s := s.setVm vm0) hZ w2) (mvT (s := s.setVm vm0) hZ w3) (mvT (s := s.setVm vm0) hZ w4) hy (backOfS (s := s.setVm vm0) (W := W) (hM []) hZ w4 w3 hf hl) (g := mkF m pc Ls st) rfl hsize (argsL := argsL) (rest := rest) hlen hst (by show 2 * 0 + _ ≤ _; omega) hd (fun _ _ => ⟨has, eT, hc, hs⟩)
  dsimp only [Pt.U, Pt.locs, Pt.cells, Pt.slots] at X' l' y' z' hst hQ hS' hsz
  obtain ⟨X2, S2, Z2, o2⟩ := rebS hS (Nat.le_trans hk (Nat.le_of_eq (by rw [eT]))) X' hS' hsz hZ hown
  subst l' y' z' hp
  exact Go.to (fun t q => hst.trans q) (k T' v L T'.vm X2 hQ S2 Z2 o2)
theorem g_callU (X : Stand p l e R s m args below meth c T locs cells slots) (hx : p.tables.exec = Jvm.exec) (hZ : Z.Warmed39 s.vm) {C owner : String} {x y : MethodName} {own : String} {index : Nat} {bytes : ByteArray} {maxL : Nat} {ret : Option FieldType} {rm : Room} {as' : Array Value} {Q : Option Value → Heap → List Loc → Prop} (W : Nat) {argsL rest : List Value} {a : Addr} (hown : s.vm.findClass own = some m.cls) (w1 : (Cond.methodLink own index x).before a0 Z = true) (w2 : (Cond.sameMethod x.cls owner x.name x.desc).before a0 Z = true) (w3 : (Cond.declares ⟨owner, x.name, x.desc⟩).before a0 Z = true) (w4 : (Cond.selects C x y).before a0 Z = true) (w5 : (Cond.instanceMethod y).before a0 Z = true) (w6 : (Cond.code y bytes maxL ret).before a0 Z = true) (w7 : (Cond.initialized y.cls).before a0 Z = true) (hy : owner ≠ "java/lang/invoke/MethodHandle" ∧ owner ≠ "java/lang/invoke/VarHandle")
    (eT : T.heap = h) (E : Exa Z h a C) (hM : Ct l Z y bytes maxL ret rm as' h Q) (hf : rm.frames + 1 ≤ R.frames) (hl : W + (maxL + 11) + rm.locals ≤ R.locals) (hsize : Ls.size = c.maxLocals) (hlen : ∀ sig, parseMethodDescriptor x.desc = some sig → argsL.length = sig.parameters.length) (has : (.ref a :: argsL).toArray = as') (hW : (rest.map fun v => v.category).sum ≤ W) (hd : decode c.code pc = .ok (.invokevirtual index, 3)) (hp : pc + 3 = pc') (hc : cells + rm.cells ≤ R.cells) (hs : slots + rm.slots ≤ R.slots)
    (hst : st = argsL.reverse ++ .ref a :: rest) (k : ∀ (T' : State) (v : Option Value) (L : List Loc), Stand p l e R s m args below meth c T' (locs ++ L) (cells + rm.cells) (slots + rm.slots) → Q v T'.heap L → Go p e below G (T'.setTop (mkF m pc' Ls (v.toList ++ rest)))) : Go p e below G (T.setTop (mkF m pc Ls st)) := by
  obtain ⟨cq, kq, qa, qb, qc⟩ := isOf hZ eT E
  obtain ⟨v, vm₁, ⟨T', L', k', n'⟩, -, X', ⟨L, hQ, l', y', z'⟩, hst⟩ := X.virtualBackUp hx hown (mvT hZ w1) (mvT hZ w2) (mvT hZ w3) hy (mvT hZ w4) (mvT hZ w5) (backOf (W := W) (hM []) hZ w6 w7 hf hl) qa qc (g := mkF m pc Ls st) rfl hsize (Steps.refl _) (argsL := argsL) (rest := rest) hlen hst (by show 2 * 0 + _ ≤ _; omega) hd (fun _ _ => ⟨has, eT, hc, hs⟩)
  dsimp only [Pt.U, Pt.locs, Pt.cells, Pt.slots] at X' l' y' z' hst hQ
  subst l' y' z' hp
  exact Go.to (fun t q => hst.trans q) (k T' v L X' hQ)
theorem g_instY (X : Stand p l e R s m args below meth c T locs cells slots) (hx : p.tables.exec = Jvm.exec) (hZ : Z.Warmed39 s.vm) {own K : String} {index : Nat} {a : Addr} (hown : s.vm.findClass own = some m.cls) (w : (Cond.classLink own index K).before a0 Z = true) (eT : T.heap = h) (F : Ins Z h a K true) (hd : decode c.code pc = .ok (.instanceof index, 3)) (hp : pc + 3 = pc') (k : ∀ (T' : State), Stand p l e R s m args below meth c T' locs cells slots → T'.heap = h → Go p e below G (T'.setTop (mkF m pc' Ls (.int 1 :: st)))) : Go p e below G (T.setTop (mkF m pc Ls (.ref a :: st))) := by
  obtain ⟨T', X', e', hst⟩ := instY X hx hZ hown w eT F (g := mkF m pc Ls (.ref a :: st)) rfl rfl hd
  subst hp; exact Go.to hst (k T' X' e')
theorem g_instNo (X : Stand p l e R s m args below meth c T locs cells slots) (hx : p.tables.exec = Jvm.exec) (hZ : Z.Warmed39 s.vm) {own K C : String} {index : Nat} {a : Addr} (hown : s.vm.findClass own = some m.cls) (w : (Cond.classLink own index K).before a0 Z = true) (eT : T.heap = h) (E : Exa Z h a C) (F : ∃ c t, Z.vm.findClass C = some c ∧ Z.vm.findClass K = some t ∧ Z.vm.assignable c t = false) (hd : decode c.code pc = .ok (.instanceof index, 3)) (hp : pc + 3 = pc') (k : ∀ (T' : State), Stand p l e R s m args below meth c T' locs cells slots → T'.heap = h → Go p e below G (T'.setTop (mkF m pc' Ls (.int 0 :: st)))) : Go p e below G (T.setTop (mkF m pc Ls (.ref a :: st))) := by
  obtain ⟨T', X', e', hst⟩ := instNo X hx hZ hown w eT E F (g := mkF m pc Ls (.ref a :: st)) rfl rfl hd
  subst hp; exact Go.to hst (k T' X' e')
theorem g_castY (X : Stand p l e R s m args below meth c T locs cells slots) (hx : p.tables.exec = Jvm.exec) (hZ : Z.Warmed39 s.vm) {own K : String} {index : Nat} {a : Addr} (hown : s.vm.findClass own = some m.cls) (w : (Cond.classLink own index K).before a0 Z = true) (eT : T.heap = h) (F : Ins Z h a K true) (hd : decode c.code pc = .ok (.checkcast index, 3)) (hp : pc + 3 = pc') (k : ∀ (T' : State), Stand p l e R s m args below meth c T' locs cells slots → T'.heap = h → Go p e below G (T'.setTop (mkF m pc' Ls (.ref a :: st)))) : Go p e below G (T.setTop (mkF m pc Ls (.ref a :: st))) := by
  obtain ⟨T', X', e', hst⟩ := castY X hx hZ hown w eT F (g := mkF m pc Ls (.ref a :: st)) rfl rfl hd
  subst hp; exact Go.to hst (k T' X' e')
end Kit2

theorem own_nn {x : Int32} : ¬ x < 0 ↔ 0 ≤ x.toInt := by rw [Int32.lt_iff_toInt_lt]; simp
theorem own_div {x y : Int32} (hx : 0 ≤ x.toInt) (hy : 0 < y.toInt) : (x / y).toInt = x.toInt / y.toInt := by
  have r := rng32 x
  have q1 : 0 ≤ x.toInt / y.toInt := Int.ediv_nonneg hx (Int.le_of_lt hy)
  have q2 : x.toInt / y.toInt ≤ x.toInt := Int.ediv_le_self _ hx
  rw [Int32.toInt_div, Int.tdiv_eq_ediv_of_nonneg hx]
  exact Int.bmod_eq_of_le (by omega) (by omega)
theorem own_rem {x y : Int32} (hx : 0 ≤ x.toInt) (hy : 0 < y.toInt) : (x - x / y * y).toInt = x.toInt % y.toInt := by
  have r := rng32 x
  have ry := rng32 y
  have q1 : 0 ≤ x.toInt % y.toInt := Int.emod_nonneg _ (by omega)
  have q2 : x.toInt % y.toInt < y.toInt := Int.emod_lt_of_pos _ hy
  have q3 : x.toInt / y.toInt * y.toInt = x.toInt - x.toInt % y.toInt := by rw [Int.emod_def, Int.mul_comm]; omega
  have q4 := Int.emod_add_mul_ediv x.toInt y.toInt
  have c1 := c_imul (x / y) y
  rw [own_div hx hy, q3] at c1
  have q5 : x.toInt % y.toInt ≤ x.toInt := by
    have := Int.ediv_nonneg hx (Int.le_of_lt hy)
    have := Int.mul_nonneg this (Int.le_of_lt hy)
    omega
  have c2 := c_isub x (x / y * y)
  have r2 := rng32 (x - x / y * y)
  have r3 := rng32 (x / y * y)
  omega
theorem own_mask (x : Int32) : 0 ≤ (x &&& 2147483647).toInt := by
  have h : (x &&& 2147483647).toBitVec.msb = false := by
    rw [Int32.toBitVec_and, BitVec.msb_and]
    have : (2147483647 : Int32).toBitVec.msb = false := by decide
    rw [this, Bool.and_false]
  have := BitVec.toInt_nonneg_of_msb_false h
  exact this
theorem own_nat {x : Int32} {n : Nat} (h : x.toInt = n) : x.toNatClampNeg = n := by
  show x.toInt.toNat = n; rw [h]; rfl

def fs_F : List (String × String × String) := [("com/example/sundskrift/sundskrift/core/schema/SimpleType$Facets", "whitespace", "Lcom/example/sundskrift/sundskrift/core/schema/SimpleType$Whitespace;"), ("com/example/sundskrift/sundskrift/core/schema/SimpleType$Facets", "patterns", "Ljava/util/List;"), ("com/example/sundskrift/sundskrift/core/schema/SimpleType$Facets", "enumeration", "Ljava/util/List;"), ("com/example/sundskrift/sundskrift/core/schema/SimpleType$Facets", "length", "I"), ("com/example/sundskrift/sundskrift/core/schema/SimpleType$Facets", "minLength", "I"), ("com/example/sundskrift/sundskrift/core/schema/SimpleType$Facets", "maxLength", "I"), ("com/example/sundskrift/sundskrift/core/schema/SimpleType$Facets", "minimum", "Lcom/example/sundskrift/sundskrift/core/schema/SimpleType$Bound;"), ("com/example/sundskrift/sundskrift/core/schema/SimpleType$Facets", "maximum", "Lcom/example/sundskrift/sundskrift/core/schema/SimpleType$Bound;"), ("com/example/sundskrift/sundskrift/core/schema/SimpleType$Facets", "unfollowed", "Z")]
theorem lds_F {Z : State} {a0 : Array Value} (hw : ∀ d ∈ tables_1, d.before a0 Z = true) : Lds Z a0 "com/example/sundskrift/sundskrift/core/schema/SimpleType$Facets" fs_F := by
  intro q hq
  simp only [fs_F, List.mem_cons, List.not_mem_nil, or_false] at hq
  rcases hq with rfl | rfl | rfl | rfl | rfl | rfl | rfl | rfl | rfl
  · exact Or.inl (hw _ (List.mem_of_getElem? (i := 48) rfl))
  · exact Or.inl (hw _ (List.mem_of_getElem? (i := 50) rfl))
  · exact Or.inl (hw _ (List.mem_of_getElem? (i := 52) rfl))
  · exact Or.inl (hw _ (List.mem_of_getElem? (i := 10) rfl))
  · exact Or.inl (hw _ (List.mem_of_getElem? (i := 12) rfl))
  · exact Or.inl (hw _ (List.mem_of_getElem? (i := 14) rfl))
  · exact Or.inl (hw _ (List.mem_of_getElem? (i := 86) rfl))
  · exact Or.inl (hw _ (List.mem_of_getElem? (i := 83) rfl))
  · exact Or.inl (hw _ (List.mem_of_getElem? (i := 88) rfl))
theorem un_F : fs_F.all (fun q => fs_F.all (fun r => decide (q.2.1 = r.2.1 → q = r))) = true := by decide +kernel
theorem de_F : fs_F.all (fun q => (parseFieldDescriptor q.2.2).isSome) = true := by decide +kernel
def fs_B : List (String × String × String) := [("com/example/sundskrift/sundskrift/core/schema/SimpleType$Bound", "value", "Ljava/lang/String;"), ("com/example/sundskrift/sundskrift/core/schema/SimpleType$Bound", "inclusive", "Z")]
theorem lds_B {Z : State} {a0 : Array Value} (hw : ∀ d ∈ tables_1, d.before a0 Z = true) : Lds Z a0 "com/example/sundskrift/sundskrift/core/schema/SimpleType$Bound" fs_B := by
  intro q hq
  simp only [fs_B, List.mem_cons, List.not_mem_nil, or_false] at hq
  rcases hq with rfl | rfl
  · exact Or.inr (hw _ (List.mem_of_getElem? (i := 36) rfl))
  · exact Or.inr (hw _ (List.mem_of_getElem? (i := 38) rfl))
theorem un_B : fs_B.all (fun q => fs_B.all (fun r => decide (q.2.1 = r.2.1 → q = r))) = true := by decide +kernel
theorem de_B : fs_B.all (fun q => (parseFieldDescriptor q.2.2).isSome) = true := by decide +kernel
def fs_A : List (String × String × String) := [("java/util/AbstractList", "modCount", "I"), ("java/util/ArrayList", "elementData", "[Ljava/lang/Object;")]
theorem lds_A {Z : State} {a0 : Array Value} (hw : ∀ d ∈ tables_1, d.before a0 Z = true) : Lds Z a0 "java/util/ArrayList" fs_A := by
  intro q hq
  simp only [fs_A, List.mem_cons, List.not_mem_nil, or_false] at hq
  rcases hq with rfl | rfl
  · exact Or.inl (hw _ (List.mem_of_getElem? (i := 73) rfl))
  · exact Or.inl (hw _ (List.mem_of_getElem? (i := 76) rfl))
theorem un_A : fs_A.all (fun q => fs_A.all (fun r => decide (q.2.1 = r.2.1 → q = r))) = true := by decide +kernel
theorem de_A : fs_A.all (fun q => (parseFieldDescriptor q.2.2).isSome) = true := by decide +kernel
theorem mem_i {α : Type} {l : List α} {x : α} (i : Nat) (h : l[i]? = some x) : x ∈ l := List.mem_of_getElem? h
def QK (Z : State) (a : Addr) (C : String) (fs : List (String × String × String)) (g : String → Value) (h0 : Heap) (n0 : Nat) (v : Option Value) (h : Heap) (L : List Loc) : Prop := v = none ∧ Fr n0 L ∧ Keep h0 h [a] ∧ Ob Z h a C fs g
def QN (h0 : Heap) (n0 : Nat) (v : Option Value) (h : Heap) (L : List Loc) : Prop := v = none ∧ Fr n0 L ∧ h = h0
theorem d4_0 : decode jdk_30_method_1_code 0 = .ok (.aload_n 0, 1) := by decide +kernel
theorem d4_1 : decode jdk_30_method_1_code 1 = .ok (.invokespecial 1, 3) := by decide +kernel
theorem d4_4 : decode jdk_30_method_1_code 4 = .ok (.return_, 1) := by decide +kernel
theorem pn_R : plainName "java/lang/Record" = true := by first | (simp [plainName, overriddenIn]; done) | decide +kernel
theorem pd_R : parseMethodDescriptor "()V" = some ⟨[], none⟩ := by decide +kernel
theorem ef_R (m : MethodId) (x0 : Addr) : entryFrame m #[(.ref x0)] 1 = mkF m 0 #[.val (.ref x0)] [] := by first | (simp [entryFrame, mkF, argsToLocals, Value.category]; done) | rfl
set_option maxRecDepth 65536 in
set_option maxHeartbeats 40000000 in
theorem rmR (l : Launch) (Z : State) (a0 : Array Value) (hw : ∀ d ∈ tables_1, d.before a0 Z = true) (a : Addr) (h0 : Heap) (n0 : Nat) :
    Ct l Z (⟨"java/lang/Record", "<init>", "()V"⟩ : MethodName) jdk_30_method_1_code 1 none ({ frames := 1, cells := 0, slots := 0, locals := 12 } : Room) #[(.ref a)] h0 (QN h0 n0) := by
  refine Ct.of pn_R (fun m => ef_R m a) ?_
  intro p e s m below meth c T X0 hx hby hml hret hlk hZ hown hnm e0
  refine g_aloadN X0 hx (hb hby d4_0) (pc' := 1) rfl rfl rfl ?_
  refine g_initO X0 hx hZ hown (hw _ (List.mem_of_getElem? (i := 34) rfl)) (hw _ (List.mem_of_getElem? (i := 7) rfl)) (hw _ (List.mem_of_getElem? (i := 8) rfl)) e0 (by rw [hml]; rfl) (hb hby d4_1) (pc' := 4) rfl (by decide) 0 (Nat.le_of_eq rfl) (by decide) ?_
  intro T1 X1 e1
  exact g_retV X1 hx hret hlk (hb hby d4_4) (by decide) (by decide) ⟨rfl, Fr.nil _, e1⟩
theorem d8_0 : decode jdk_22_method_1_code 0 = .ok (.aload_n 0, 1) := by decide +kernel
theorem d8_1 : decode jdk_22_method_1_code 1 = .ok (.invokespecial 1, 3) := by decide +kernel
theorem d8_4 : decode jdk_22_method_1_code 4 = .ok (.return_, 1) := by decide +kernel
theorem pn_AC : plainName "java/util/AbstractCollection" = true := by first | (simp [plainName, overriddenIn]; done) | decide +kernel
theorem pd_AC : parseMethodDescriptor "()V" = some ⟨[], none⟩ := by decide +kernel
theorem ef_AC (m : MethodId) (x0 : Addr) : entryFrame m #[(.ref x0)] 1 = mkF m 0 #[.val (.ref x0)] [] := by first | (simp [entryFrame, mkF, argsToLocals, Value.category]; done) | rfl
set_option maxRecDepth 65536 in
set_option maxHeartbeats 40000000 in
theorem rmAC (l : Launch) (Z : State) (a0 : Array Value) (hw : ∀ d ∈ tables_1, d.before a0 Z = true) (a : Addr) (h0 : Heap) (n0 : Nat) :
    Ct l Z (⟨"java/util/AbstractCollection", "<init>", "()V"⟩ : MethodName) jdk_22_method_1_code 1 none ({ frames := 1, cells := 0, slots := 0, locals := 12 } : Room) #[(.ref a)] h0 (QN h0 n0) := by
  refine Ct.of pn_AC (fun m => ef_AC m a) ?_
  intro p e s m below meth c T X0 hx hby hml hret hlk hZ hown hnm e0
  refine g_aloadN X0 hx (hb hby d8_0) (pc' := 1) rfl rfl rfl ?_
  refine g_initO X0 hx hZ hown (hw _ (List.mem_of_getElem? (i := 71) rfl)) (hw _ (List.mem_of_getElem? (i := 7) rfl)) (hw _ (List.mem_of_getElem? (i := 8) rfl)) e0 (by rw [hml]; rfl) (hb hby d8_1) (pc' := 4) rfl (by decide) 0 (Nat.le_of_eq rfl) (by decide) ?_
  intro T1 X1 e1
  exact g_retV X1 hx hret hlk (hb hby d8_4) (by decide) (by decide) ⟨rfl, Fr.nil _, e1⟩
theorem d7_0 : decode jdk_39_method_1_code 0 = .ok (.aload_n 0, 1) := by decide +kernel
theorem d7_1 : decode jdk_39_method_1_code 1 = .ok (.invokespecial 1, 3) := by decide +kernel
theorem d7_4 : decode jdk_39_method_1_code 4 = .ok (.aload_n 0, 1) := by decide +kernel
theorem d7_5 : decode jdk_39_method_1_code 5 = .ok (.iconst 0, 1) := by decide +kernel
theorem d7_6 : decode jdk_39_method_1_code 6 = .ok (.putfield 7, 3) := by decide +kernel
theorem d7_9 : decode jdk_39_method_1_code 9 = .ok (.return_, 1) := by decide +kernel
theorem pn_AL : plainName "java/util/AbstractList" = true := by first | (simp [plainName, overriddenIn]; done) | decide +kernel
theorem pd_AL : parseMethodDescriptor "()V" = some ⟨[], none⟩ := by decide +kernel
theorem ef_AL (m : MethodId) (x0 : Addr) : entryFrame m #[(.ref x0)] 1 = mkF m 0 #[.val (.ref x0)] [] := by first | (simp [entryFrame, mkF, argsToLocals, Value.category]; done) | rfl
set_option maxRecDepth 65536 in
set_option maxHeartbeats 40000000 in
theorem rmAL (l : Launch) (Z : State) (a0 : Array Value) (hw : ∀ d ∈ tables_1, d.before a0 Z = true) (a : Addr) (g : String → Value) (h0 : Heap) (n0 : Nat) (O0 : Ob Z h0 a "java/util/ArrayList" fs_A g) (ga : n0 ≤ a) :
    Ct l Z (⟨"java/util/AbstractList", "<init>", "()V"⟩ : MethodName) jdk_39_method_1_code 1 none ({ frames := 2, cells := 0, slots := 0, locals := 24 } : Room) #[(.ref a)] h0 (QK Z a "java/util/ArrayList" fs_A (set g "modCount" (.int 0)) h0 n0) := by
  refine Ct.of pn_AL (fun m => ef_AL m a) ?_
  intro p e s m below meth c T X0 hx hby hml hret hlk hZ hown hnm e0
  refine g_aloadN X0 hx (hb hby d7_0) (pc' := 1) rfl rfl rfl ?_
  refine g_callI X0 hx hZ 0 (a := a) hown rfl (hw _ (List.mem_of_getElem? (i := 65) rfl)) (hw _ (List.mem_of_getElem? (i := 66) rfl)) (hw _ (List.mem_of_getElem? (i := 69) rfl)) (hw _ (List.mem_of_getElem? (i := 70) rfl)) (by decide) e0 (rmAC l Z a0 hw a h0 n0) (by decide) (by decide) (by rw [hml]; rfl) (argsL := []) (rest := []) (lenOf pd_AC rfl) rfl (Nat.le_of_eq rfl) (hb hby d7_1) (pc' := 4) rfl (by decide) (by decide) rfl ?_
  rintro T1 _ L1 X1 ⟨rfl, N1, e1⟩
  show Go p e below _ (T1.setTop (mkF m 4 #[.val (.ref a)] []))
  refine g_aloadN X1 hx (hb hby d7_4) (pc' := 5) rfl rfl rfl ?_
  refine g_iconst X1 hx (hb hby d7_5) (pc' := 6) rfl (z := 0) (by decide) ?_
  refine g_putF X1 hx hZ .int (host := "") hown (Or.inl (hw _ (List.mem_of_getElem? (i := 72) rfl))) Via.refl e1 (O0.2 ("java/util/AbstractList", "modCount", "I") (mem_i 0 rfl)) O0.1 (Or.inl (hw _ (List.mem_of_getElem? (i := 73) rfl))) (hw _ (List.mem_of_getElem? (i := 54) rfl)) (by decide) rfl rfl (hb hby d7_6) (pc' := 9) rfl ?_
  intro T2 h2 X2 e2 W2
  have O2 := O0.put (lds_A hw) un_A de_A (mem_i 0 rfl) W2
  exact g_retV X2 hx hret hlk (hb hby d7_9) (by decide) (by decide) ⟨rfl, Fr.snoc X2 ((Fr.nil _).app N1) ga, by rw [e2]; exact (Keep.refl _ _).wr W2 (Or.inl (mem_i 0 rfl)), by rw [e2]; exact O2⟩
theorem d6_0 : decode jdk_38_method_2_code 0 = .ok (.aload_n 0, 1) := by decide +kernel
theorem d6_1 : decode jdk_38_method_2_code 1 = .ok (.invokespecial 1, 3) := by decide +kernel
theorem d6_4 : decode jdk_38_method_2_code 4 = .ok (.aload_n 0, 1) := by decide +kernel
theorem d6_5 : decode jdk_38_method_2_code 5 = .ok (.getstatic 39, 3) := by decide +kernel
theorem d6_8 : decode jdk_38_method_2_code 8 = .ok (.putfield 9, 3) := by decide +kernel
theorem d6_11 : decode jdk_38_method_2_code 11 = .ok (.return_, 1) := by decide +kernel
theorem pn_A : plainName "java/util/ArrayList" = true := by first | (simp [plainName, overriddenIn]; done) | decide +kernel
theorem pd_A : parseMethodDescriptor "()V" = some ⟨[], none⟩ := by decide +kernel
theorem ef_A (m : MethodId) (x0 : Addr) : entryFrame m #[(.ref x0)] 1 = mkF m 0 #[.val (.ref x0)] [] := by first | (simp [entryFrame, mkF, argsToLocals, Value.category]; done) | rfl
def QA (Z : State) (a : Addr) (h0 : Heap) (n0 : Nat) (v : Option Value) (h : Heap) (L : List Loc) : Prop := v = none ∧ Fr n0 L ∧ Keep h0 h [a]
set_option maxRecDepth 65536 in
set_option maxHeartbeats 40000000 in
theorem rmA (l : Launch) (Z : State) (a0 : Array Value) (hw : ∀ d ∈ tables_1, d.before a0 Z = true) (a ad : Addr) (g : String → Value) (h0 : Heap) (n0 : Nat) (O0 : Ob Z h0 a "java/util/ArrayList" fs_A g) (ga : n0 ≤ a) (S0 : Sta Z h0 "java/util/ArrayList" "DEFAULTCAPACITY_EMPTY_ELEMENTDATA" "[Ljava/lang/Object;" (.ref ad)) (hst : ∀ h', Keep h0 h' [a] → Sta Z h' "java/util/ArrayList" "DEFAULTCAPACITY_EMPTY_ELEMENTDATA" "[Ljava/lang/Object;" (.ref ad)) :
    Ct l Z (⟨"java/util/ArrayList", "<init>", "()V"⟩ : MethodName) jdk_38_method_2_code 1 none ({ frames := 3, cells := 0, slots := 0, locals := 36 } : Room) #[(.ref a)] h0 (QA Z a h0 n0) := by
  refine Ct.of pn_A (fun m => ef_A m a) ?_
  intro p e s m below meth c T X0 hx hby hml hret hlk hZ hown hnm e0
  refine g_aloadN X0 hx (hb hby d6_0) (pc' := 1) rfl rfl rfl ?_
  refine g_callI X0 hx hZ 0 (a := a) hown rfl (hw _ (List.mem_of_getElem? (i := 59) rfl)) (hw _ (List.mem_of_getElem? (i := 60) rfl)) (hw _ (List.mem_of_getElem? (i := 63) rfl)) (hw _ (List.mem_of_getElem? (i := 64) rfl)) (by decide) e0 (rmAL l Z a0 hw a g h0 n0 O0 ga) (by decide) (by decide) (by rw [hml]; rfl) (argsL := []) (rest := []) (lenOf pd_AL rfl) rfl (Nat.le_of_eq rfl) (hb hby d6_1) (pc' := 4) rfl (by decide) (by decide) rfl ?_
  rintro T1 _ L1 X1 ⟨rfl, N1, K1, O1⟩
  show Go p e below _ (T1.setTop (mkF m 4 #[.val (.ref a)] []))
  refine g_aloadN X1 hx (hb hby d6_4) (pc' := 5) rfl rfl rfl ?_
  refine g_getS X1 hx hZ hown (hw _ (List.mem_of_getElem? (i := 74) rfl)) Via.refl rfl (hst _ K1) (hb hby d6_5) (pc' := 8) rfl ?_
  intro T2 X2 e2
  refine g_putF X2 hx hZ (.array (.object "java/lang/Object")) (host := "") hown (Or.inl (hw _ (List.mem_of_getElem? (i := 75) rfl))) Via.refl e2 (O1.2 ("java/util/ArrayList", "elementData", "[Ljava/lang/Object;") (mem_i 1 rfl)) O1.1 (Or.inl (hw _ (List.mem_of_getElem? (i := 76) rfl))) (hw _ (List.mem_of_getElem? (i := 54) rfl)) (by decide) rfl rfl (hb hby d6_8) (pc' := 11) rfl ?_
  intro T3 h3 X3 e3 W3
  have O3 := O1.put (lds_A hw) un_A de_A (mem_i 1 rfl) W3
  exact g_retV X3 hx hret hlk (hb hby d6_11) (by decide) (by decide) ⟨rfl, Fr.snoc X3 ((Fr.nil _).app N1) ga, by rw [e3]; exact K1.wr W3 (Or.inl (mem_i 0 rfl))⟩
theorem d1_0 : decode prog_104_method_1_code 0 = .ok (.aload_n 0, 1) := by decide +kernel
theorem d1_1 : decode prog_104_method_1_code 1 = .ok (.invokespecial 1, 3) := by decide +kernel
theorem d1_4 : decode prog_104_method_1_code 4 = .ok (.aload_n 0, 1) := by decide +kernel
theorem d1_5 : decode prog_104_method_1_code 5 = .ok (.iconst (-1), 1) := by decide +kernel
theorem d1_6 : decode prog_104_method_1_code 6 = .ok (.putfield 7, 3) := by decide +kernel
theorem d1_9 : decode prog_104_method_1_code 9 = .ok (.aload_n 0, 1) := by decide +kernel
theorem d1_10 : decode prog_104_method_1_code 10 = .ok (.iconst (-1), 1) := by decide +kernel
theorem d1_11 : decode prog_104_method_1_code 11 = .ok (.putfield 13, 3) := by decide +kernel
theorem d1_14 : decode prog_104_method_1_code 14 = .ok (.aload_n 0, 1) := by decide +kernel
theorem d1_15 : decode prog_104_method_1_code 15 = .ok (.iconst (-1), 1) := by decide +kernel
theorem d1_16 : decode prog_104_method_1_code 16 = .ok (.putfield 16, 3) := by decide +kernel
theorem d1_19 : decode prog_104_method_1_code 19 = .ok (.return_, 1) := by decide +kernel
theorem pn_F : plainName "com/example/sundskrift/sundskrift/core/schema/SimpleType$Facets" = true := by first | (simp [plainName, overriddenIn]; done) | decide +kernel
theorem pd_F : parseMethodDescriptor "()V" = some ⟨[], none⟩ := by decide +kernel
theorem ef_F (m : MethodId) (x0 : Addr) : entryFrame m #[(.ref x0)] 1 = mkF m 0 #[.val (.ref x0)] [] := by first | (simp [entryFrame, mkF, argsToLocals, Value.category]; done) | rfl
set_option maxRecDepth 65536 in
set_option maxHeartbeats 40000000 in
theorem rmF (l : Launch) (Z : State) (a0 : Array Value) (hw : ∀ d ∈ tables_1, d.before a0 Z = true) (a : Addr) (g : String → Value) (h0 : Heap) (n0 : Nat) (O0 : Ob Z h0 a "com/example/sundskrift/sundskrift/core/schema/SimpleType$Facets" fs_F g) (ga : n0 ≤ a) :
    Ct l Z (⟨"com/example/sundskrift/sundskrift/core/schema/SimpleType$Facets", "<init>", "()V"⟩ : MethodName) prog_104_method_1_code 1 none ({ frames := 1, cells := 0, slots := 0, locals := 12 } : Room) #[(.ref a)] h0 (QK Z a "com/example/sundskrift/sundskrift/core/schema/SimpleType$Facets" fs_F (set (set (set g "length" (.int (-1))) "minLength" (.int (-1))) "maxLength" (.int (-1))) h0 n0) := by
  refine Ct.of pn_F (fun m => ef_F m a) ?_
  intro p e s m below meth c T X0 hx hby hml hret hlk hZ hown hnm e0
  refine g_aloadN X0 hx (hb hby d1_0) (pc' := 1) rfl rfl rfl ?_
  refine g_initO X0 hx hZ hown (hw _ (List.mem_of_getElem? (i := 6) rfl)) (hw _ (List.mem_of_getElem? (i := 7) rfl)) (hw _ (List.mem_of_getElem? (i := 8) rfl)) e0 (by rw [hml]; rfl) (hb hby d1_1) (pc' := 4) rfl (by decide) 0 (Nat.le_of_eq rfl) (by decide) ?_
  intro T1 X1 e1
  refine g_aloadN X1 hx (hb hby d1_4) (pc' := 5) rfl rfl rfl ?_
  refine g_iconst X1 hx (hb hby d1_5) (pc' := 6) rfl (z := -1) (by decide) ?_
  refine g_putF X1 hx hZ .int (host := "") hown (Or.inl (hw _ (List.mem_of_getElem? (i := 9) rfl))) Via.refl e1 (O0.2 ("com/example/sundskrift/sundskrift/core/schema/SimpleType$Facets", "length", "I") (mem_i 3 rfl)) O0.1 (Or.inl (hw _ (List.mem_of_getElem? (i := 10) rfl))) (hw _ (List.mem_of_getElem? (i := 1) rfl)) (by decide) rfl rfl (hb hby d1_6) (pc' := 9) rfl ?_
  intro T2 h2 X2 e2 W2
  have O2 := O0.put (lds_F hw) un_F de_F (mem_i 3 rfl) W2
  refine g_aloadN X2 hx (hb hby d1_9) (pc' := 10) rfl rfl rfl ?_
  refine g_iconst X2 hx (hb hby d1_10) (pc' := 11) rfl (z := -1) (by decide) ?_
  refine g_putF X2 hx hZ .int (host := "") hown (Or.inl (hw _ (List.mem_of_getElem? (i := 11) rfl))) Via.refl e2 (O2.2 ("com/example/sundskrift/sundskrift/core/schema/SimpleType$Facets", "minLength", "I") (mem_i 4 rfl)) O2.1 (Or.inl (hw _ (List.mem_of_getElem? (i := 12) rfl))) (hw _ (List.mem_of_getElem? (i := 1) rfl)) (by decide) rfl rfl (hb hby d1_11) (pc' := 14) rfl ?_
  intro T3 h3 X3 e3 W3
  have O3 := O2.put (lds_F hw) un_F de_F (mem_i 4 rfl) W3
  refine g_aloadN X3 hx (hb hby d1_14) (pc' := 15) rfl rfl rfl ?_
  refine g_iconst X3 hx (hb hby d1_15) (pc' := 16) rfl (z := -1) (by decide) ?_
  refine g_putF X3 hx hZ .int (host := "") hown (Or.inl (hw _ (List.mem_of_getElem? (i := 13) rfl))) Via.refl e3 (O3.2 ("com/example/sundskrift/sundskrift/core/schema/SimpleType$Facets", "maxLength", "I") (mem_i 5 rfl)) O3.1 (Or.inl (hw _ (List.mem_of_getElem? (i := 14) rfl))) (hw _ (List.mem_of_getElem? (i := 1) rfl)) (by decide) rfl rfl (hb hby d1_16) (pc' := 19) rfl ?_
  intro T4 h4 X4 e4 W4
  have O4 := O3.put (lds_F hw) un_F de_F (mem_i 5 rfl) W4
  exact g_retV X4 hx hret hlk (hb hby d1_19) (by decide) (by decide) ⟨rfl, (Fr.snoc X4 (Fr.snoc X3 (Fr.snoc X2 (Fr.nil _) ga) ga) ga), by rw [e4]; exact ((((Keep.refl _ _).wr W2 (Or.inl (mem_i 0 rfl))).wr W3 (Or.inl (mem_i 0 rfl))).wr W4 (Or.inl (mem_i 0 rfl))), by rw [e4]; exact O4⟩
theorem d3_0 : decode prog_102_method_1_code 0 = .ok (.aload_n 0, 1) := by decide +kernel
theorem d3_1 : decode prog_102_method_1_code 1 = .ok (.invokespecial 1, 3) := by decide +kernel
theorem d3_4 : decode prog_102_method_1_code 4 = .ok (.aload_n 0, 1) := by decide +kernel
theorem d3_5 : decode prog_102_method_1_code 5 = .ok (.aload_n 1, 1) := by decide +kernel
theorem d3_6 : decode prog_102_method_1_code 6 = .ok (.putfield 7, 3) := by decide +kernel
theorem d3_9 : decode prog_102_method_1_code 9 = .ok (.aload_n 0, 1) := by decide +kernel
theorem d3_10 : decode prog_102_method_1_code 10 = .ok (.iload_n 2, 1) := by decide +kernel
theorem d3_11 : decode prog_102_method_1_code 11 = .ok (.putfield 13, 3) := by decide +kernel
theorem d3_14 : decode prog_102_method_1_code 14 = .ok (.return_, 1) := by decide +kernel
theorem pn_B : plainName "com/example/sundskrift/sundskrift/core/schema/SimpleType$Bound" = true := by first | (simp [plainName, overriddenIn]; done) | decide +kernel
theorem pd_B : parseMethodDescriptor "(Ljava/lang/String;Z)V" = some ⟨[.object "java/lang/String", .boolean], none⟩ := by decide +kernel
theorem ef_B (m : MethodId) (x0 : Addr) (x1 : Addr) (x2 : Int32) : entryFrame m #[(.ref x0), (.ref x1), (.int x2)] 3 = mkF m 0 #[.val (.ref x0), .val (.ref x1), .val (.int x2)] [] := by first | (simp [entryFrame, mkF, argsToLocals, Value.category]; done) | rfl
set_option maxRecDepth 65536 in
set_option maxHeartbeats 40000000 in
theorem rmB (l : Launch) (Z : State) (a0 : Array Value) (hw : ∀ d ∈ tables_1, d.before a0 Z = true) (a as : Addr) (g : String → Value) (h0 : Heap) (n0 : Nat) (O0 : Ob Z h0 a "com/example/sundskrift/sundskrift/core/schema/SimpleType$Bound" fs_B g) (ga : n0 ≤ a) :
    Ct l Z (⟨"com/example/sundskrift/sundskrift/core/schema/SimpleType$Bound", "<init>", "(Ljava/lang/String;Z)V"⟩ : MethodName) prog_102_method_1_code 3 none ({ frames := 2, cells := 0, slots := 0, locals := 24 } : Room) #[(.ref a), (.ref as), (.int 1)] h0 (QA Z a h0 n0) := by
  refine Ct.of pn_B (fun m => ef_B m a as 1) ?_
  intro p e s m below meth c T X0 hx hby hml hret hlk hZ hown hnm e0
  refine g_aloadN X0 hx (hb hby d3_0) (pc' := 1) rfl rfl rfl ?_
  refine g_callI X0 hx hZ 0 (a := a) hown rfl (hw _ (List.mem_of_getElem? (i := 29) rfl)) (hw _ (List.mem_of_getElem? (i := 30) rfl)) (hw _ (List.mem_of_getElem? (i := 32) rfl)) (hw _ (List.mem_of_getElem? (i := 33) rfl)) (by decide) e0 (rmR l Z a0 hw a h0 n0) (by decide) (by decide) (by rw [hml]; rfl) (argsL := []) (rest := []) (lenOf pd_R rfl) rfl (Nat.le_of_eq rfl) (hb hby d3_1) (pc' := 4) rfl (by decide) (by decide) rfl ?_
  rintro T1 _ L1 X1 ⟨rfl, N1, e1⟩
  show Go p e below _ (T1.setTop (mkF m 4 #[.val (.ref a), .val (.ref as), .val (.int (1 : Int32))] []))
  refine g_aloadN X1 hx (hb hby d3_4) (pc' := 5) rfl rfl rfl ?_
  refine g_aloadN X1 hx (hb hby d3_5) (pc' := 6) rfl rfl rfl ?_
  refine g_putF X1 hx hZ (.object "java/lang/String") (host := "") hown (Or.inl (hw _ (List.mem_of_getElem? (i := 35) rfl))) Via.refl e1 (O0.2 ("com/example/sundskrift/sundskrift/core/schema/SimpleType$Bound", "value", "Ljava/lang/String;") (mem_i 0 rfl)) O0.1 (Or.inr ⟨(hw _ (List.mem_of_getElem? (i := 36) rfl)), rfl, hnm⟩) (hw _ (List.mem_of_getElem? (i := 16) rfl)) (by decide) rfl rfl (hb hby d3_6) (pc' := 9) rfl ?_
  intro T2 h2 X2 e2 W2
  have O2 := O0.put (lds_B hw) un_B de_B (mem_i 0 rfl) W2
  refine g_aloadN X2 hx (hb hby d3_9) (pc' := 10) rfl rfl rfl ?_
  refine g_iloadN X2 hx (hb hby d3_10) (pc' := 11) rfl rfl ?_
  refine g_putF X2 hx hZ .boolean (host := "") hown (Or.inl (hw _ (List.mem_of_getElem? (i := 37) rfl))) Via.refl e2 (O2.2 ("com/example/sundskrift/sundskrift/core/schema/SimpleType$Bound", "inclusive", "Z") (mem_i 1 rfl)) O2.1 (Or.inr ⟨(hw _ (List.mem_of_getElem? (i := 38) rfl)), rfl, hnm⟩) (hw _ (List.mem_of_getElem? (i := 16) rfl)) (by decide) rfl rfl (hb hby d3_11) (pc' := 14) rfl ?_
  intro T3 h3 X3 e3 W3
  have O3 := O2.put (lds_B hw) un_B de_B (mem_i 1 rfl) W3
  exact g_retV X3 hx hret hlk (hb hby d3_14) (by decide) (by decide) ⟨rfl, Fr.snoc X3 (Fr.snoc X2 ((Fr.nil _).app N1) ga) ga, by rw [e3]; exact ((Keep.refl _ _).wr W2 (Or.inl (mem_i 0 rfl))).wr W3 (Or.inl (mem_i 0 rfl))⟩
theorem d5_0 : decode prog_104_method_3_code 0 = .ok (.aload_n 0, 1) := by decide +kernel
theorem d5_1 : decode prog_104_method_3_code 1 = .ok (.getfield 23, 3) := by decide +kernel
theorem d5_4 : decode prog_104_method_3_code 4 = .ok (.ifnonnull 63, 3) := by decide +kernel
theorem d5_7 : decode prog_104_method_3_code 7 = .ok (.aload_n 0, 1) := by decide +kernel
theorem d5_8 : decode prog_104_method_3_code 8 = .ok (.getfield 27, 3) := by decide +kernel
theorem d5_11 : decode prog_104_method_3_code 11 = .ok (.ifnonnull 56, 3) := by decide +kernel
theorem d5_14 : decode prog_104_method_3_code 14 = .ok (.aload_n 0, 1) := by decide +kernel
theorem d5_15 : decode prog_104_method_3_code 15 = .ok (.getfield 31, 3) := by decide +kernel
theorem d5_18 : decode prog_104_method_3_code 18 = .ok (.ifnonnull 49, 3) := by decide +kernel
theorem d5_21 : decode prog_104_method_3_code 21 = .ok (.aload_n 0, 1) := by decide +kernel
theorem d5_22 : decode prog_104_method_3_code 22 = .ok (.getfield 7, 3) := by decide +kernel
theorem d5_25 : decode prog_104_method_3_code 25 = .ok (.ifCond .ge 42, 3) := by decide +kernel
theorem d5_28 : decode prog_104_method_3_code 28 = .ok (.aload_n 0, 1) := by decide +kernel
theorem d5_29 : decode prog_104_method_3_code 29 = .ok (.getfield 13, 3) := by decide +kernel
theorem d5_32 : decode prog_104_method_3_code 32 = .ok (.ifCond .ge 35, 3) := by decide +kernel
theorem d5_35 : decode prog_104_method_3_code 35 = .ok (.aload_n 0, 1) := by decide +kernel
theorem d5_36 : decode prog_104_method_3_code 36 = .ok (.getfield 16, 3) := by decide +kernel
theorem d5_39 : decode prog_104_method_3_code 39 = .ok (.ifCond .ge 28, 3) := by decide +kernel
theorem d5_42 : decode prog_104_method_3_code 42 = .ok (.aload_n 0, 1) := by decide +kernel
theorem d5_43 : decode prog_104_method_3_code 43 = .ok (.getfield 34, 3) := by decide +kernel
theorem d5_46 : decode prog_104_method_3_code 46 = .ok (.ifnonnull 21, 3) := by decide +kernel
theorem d5_49 : decode prog_104_method_3_code 49 = .ok (.aload_n 0, 1) := by decide +kernel
theorem d5_50 : decode prog_104_method_3_code 50 = .ok (.getfield 38, 3) := by decide +kernel
theorem d5_53 : decode prog_104_method_3_code 53 = .ok (.ifnonnull 14, 3) := by decide +kernel
theorem d5_56 : decode prog_104_method_3_code 56 = .ok (.aload_n 0, 1) := by decide +kernel
theorem d5_57 : decode prog_104_method_3_code 57 = .ok (.getfield 19, 3) := by decide +kernel
theorem d5_60 : decode prog_104_method_3_code 60 = .ok (.ifCond .ne 7, 3) := by decide +kernel
theorem d5_63 : decode prog_104_method_3_code 63 = .ok (.iconst 1, 1) := by decide +kernel
theorem d5_64 : decode prog_104_method_3_code 64 = .ok (.goto 4, 3) := by decide +kernel
theorem d5_67 : decode prog_104_method_3_code 67 = .ok (.iconst 0, 1) := by decide +kernel
theorem d5_68 : decode prog_104_method_3_code 68 = .ok (.ireturn, 1) := by decide +kernel
theorem pn_N : plainName "com/example/sundskrift/sundskrift/core/schema/SimpleType$Facets" = true := by first | (simp [plainName, overriddenIn]; done) | decide +kernel
theorem pd_N : parseMethodDescriptor "()Z" = some ⟨[], some .boolean⟩ := by decide +kernel
theorem ef_N (m : MethodId) (x0 : Addr) : entryFrame m #[(.ref x0)] 1 = mkF m 0 #[.val (.ref x0)] [] := by first | (simp [entryFrame, mkF, argsToLocals, Value.category]; done) | rfl
abbrev All9 (g : String → Value) (ln mi ma u : Int32) : Prop := g "whitespace" = .null ∧ g "patterns" = .null ∧ g "enumeration" = .null ∧ ln < 0 ∧ mi < 0 ∧ ma < 0 ∧ g "minimum" = .null ∧ g "maximum" = .null ∧ u = 0
def QZ (D : Prop) (h0 : Heap) (n0 : Nat) (v : Option Value) (h : Heap) (L : List Loc) : Prop := Fr n0 L ∧ h = h0 ∧ ∃ z : Int32, v = some (.int z) ∧ ((z = 1 ∧ D) ∨ (z = 0 ∧ ¬ D))
set_option maxRecDepth 65536 in
set_option maxHeartbeats 40000000 in
theorem rmN (l : Launch) (Z : State) (a0 : Array Value) (hw : ∀ d ∈ tables_1, d.before a0 Z = true) (a : Addr) (g : String → Value) (ln mi ma u : Int32) (h0 : Heap) (n0 : Nat) (O0 : Ob Z h0 a "com/example/sundskrift/sundskrift/core/schema/SimpleType$Facets" fs_F g) (v1 : (g "whitespace").isRef = true) (v2 : (g "patterns").isRef = true) (v3 : (g "enumeration").isRef = true) (v4 : g "length" = .int ln) (v5 : g "minLength" = .int mi) (v6 : g "maxLength" = .int ma) (v7 : (g "minimum").isRef = true) (v8 : (g "maximum").isRef = true) (v9 : g "unfollowed" = .int u) :
    Ct l Z (⟨"com/example/sundskrift/sundskrift/core/schema/SimpleType$Facets", "none", "()Z"⟩ : MethodName) prog_104_method_3_code 1 (some .boolean) ({ frames := 0, cells := 0, slots := 0, locals := 0 } : Room) #[(.ref a)] h0 (QZ (All9 g ln mi ma u) h0 n0) := by
  refine Ct.of pn_N (fun m => ef_N m a) ?_
  intro p e s m below meth c T X0 hx hby hml hret hlk hZ hown hnm e0
  have no : ¬ All9 g ln mi ma u → ∀ T' : State, Stand p l e ({ frames := 0, cells := 0, slots := 0, locals := 0 } : Room) s m #[(.ref a)] below meth c T' [] 0 0 → T'.heap = h0 → Go p e below (Dn s below (QZ (All9 g ln mi ma u) h0 n0) 0 0) (T'.setTop (mkF m 67 #[.val (.ref a)] [])) := by
    intro hno T' X' e'
    refine g_iconst X' hx (hb hby d5_67) (pc' := 68) rfl (z := 0) (by decide) ?_
    exact g_retZ X' hx hret hlk (by decide) (hb hby d5_68) (by decide) (by decide) ⟨Fr.nil _, e', _, rfl, Or.inr ⟨rfl, hno⟩⟩
  refine g_aloadN X0 hx (hb hby d5_0) (pc' := 1) rfl rfl rfl ?_
  refine g_getF X0 hx hZ (host := "") hown (Or.inl (hw _ (List.mem_of_getElem? (i := 47) rfl))) Via.refl e0 (O0.2 ("com/example/sundskrift/sundskrift/core/schema/SimpleType$Facets", "whitespace", "Lcom/example/sundskrift/sundskrift/core/schema/SimpleType$Whitespace;") (mem_i 0 rfl)) (hb hby d5_1) (pc' := 4) rfl ?_
  intro T1 X1 e1
  refine g_ifnonnull X1 hx v1 (hb hby d5_4) (by decide) (pc' := 67) rfl (pcF := 7) rfl (fun b hc1 => ?_) (fun hc1 => ?_)
  · exact no (fun q => by have := (hc1.symm.trans (q.1)); cases this) T1 X1 e1
  refine g_aloadN X1 hx (hb hby d5_7) (pc' := 8) rfl rfl rfl ?_
  refine g_getF X1 hx hZ (host := "") hown (Or.inl (hw _ (List.mem_of_getElem? (i := 49) rfl))) Via.refl e1 (O0.2 ("com/example/sundskrift/sundskrift/core/schema/SimpleType$Facets", "patterns", "Ljava/util/List;") (mem_i 1 rfl)) (hb hby d5_8) (pc' := 11) rfl ?_
  intro T2 X2 e2
  refine g_ifnonnull X2 hx v2 (hb hby d5_11) (by decide) (pc' := 67) rfl (pcF := 14) rfl (fun b hc2 => ?_) (fun hc2 => ?_)
  · exact no (fun q => by have := (hc2.symm.trans (q.2.1)); cases this) T2 X2 e2
  refine g_aloadN X2 hx (hb hby d5_14) (pc' := 15) rfl rfl rfl ?_
  refine g_getF X2 hx hZ (host := "") hown (Or.inl (hw _ (List.mem_of_getElem? (i := 51) rfl))) Via.refl e2 (O0.2 ("com/example/sundskrift/sundskrift/core/schema/SimpleType$Facets", "enumeration", "Ljava/util/List;") (mem_i 2 rfl)) (hb hby d5_15) (pc' := 18) rfl ?_
  intro T3 X3 e3
  refine g_ifnonnull X3 hx v3 (hb hby d5_18) (by decide) (pc' := 67) rfl (pcF := 21) rfl (fun b hc3 => ?_) (fun hc3 => ?_)
  · exact no (fun q => by have := (hc3.symm.trans (q.2.2.1)); cases this) T3 X3 e3
  refine g_aloadN X3 hx (hb hby d5_21) (pc' := 22) rfl rfl rfl ?_
  refine g_getF X3 hx hZ (host := "") hown (Or.inl (hw _ (List.mem_of_getElem? (i := 9) rfl))) Via.refl e3 (v4 ▸ (O0.2 ("com/example/sundskrift/sundskrift/core/schema/SimpleType$Facets", "length", "I") (mem_i 3 rfl)) : Fld Z h0 a "com/example/sundskrift/sundskrift/core/schema/SimpleType$Facets" "length" "I" (.int ln)) (hb hby d5_22) (pc' := 25) rfl ?_
  intro T4 X4 e4
  refine g_if_ge X4 hx (hb hby d5_25) (by decide) (pc' := 67) rfl (pcF := 28) rfl (fun hc4 => ?_) (fun hc4 => ?_)
  · exact no (fun q => hc4 q.2.2.2.1) T4 X4 e4
  refine g_aloadN X4 hx (hb hby d5_28) (pc' := 29) rfl rfl rfl ?_
  refine g_getF X4 hx hZ (host := "") hown (Or.inl (hw _ (List.mem_of_getElem? (i := 11) rfl))) Via.refl e4 (v5 ▸ (O0.2 ("com/example/sundskrift/sundskrift/core/schema/SimpleType$Facets", "minLength", "I") (mem_i 4 rfl)) : Fld Z h0 a "com/example/sundskrift/sundskrift/core/schema/SimpleType$Facets" "minLength" "I" (.int mi)) (hb hby d5_29) (pc' := 32) rfl ?_
  intro T5 X5 e5
  refine g_if_ge X5 hx (hb hby d5_32) (by decide) (pc' := 67) rfl (pcF := 35) rfl (fun hc5 => ?_) (fun hc5 => ?_)
  · exact no (fun q => hc5 q.2.2.2.2.1) T5 X5 e5
  refine g_aloadN X5 hx (hb hby d5_35) (pc' := 36) rfl rfl rfl ?_
  refine g_getF X5 hx hZ (host := "") hown (Or.inl (hw _ (List.mem_of_getElem? (i := 13) rfl))) Via.refl e5 (v6 ▸ (O0.2 ("com/example/sundskrift/sundskrift/core/schema/SimpleType$Facets", "maxLength", "I") (mem_i 5 rfl)) : Fld Z h0 a "com/example/sundskrift/sundskrift/core/schema/SimpleType$Facets" "maxLength" "I" (.int ma)) (hb hby d5_36) (pc' := 39) rfl ?_
  intro T6 X6 e6
  refine g_if_ge X6 hx (hb hby d5_39) (by decide) (pc' := 67) rfl (pcF := 42) rfl (fun hc6 => ?_) (fun hc6 => ?_)
  · exact no (fun q => hc6 q.2.2.2.2.2.1) T6 X6 e6
  refine g_aloadN X6 hx (hb hby d5_42) (pc' := 43) rfl rfl rfl ?_
  refine g_getF X6 hx hZ (host := "") hown (Or.inl (hw _ (List.mem_of_getElem? (i := 93) rfl))) Via.refl e6 (O0.2 ("com/example/sundskrift/sundskrift/core/schema/SimpleType$Facets", "minimum", "Lcom/example/sundskrift/sundskrift/core/schema/SimpleType$Bound;") (mem_i 6 rfl)) (hb hby d5_43) (pc' := 46) rfl ?_
  intro T7 X7 e7
  refine g_ifnonnull X7 hx v7 (hb hby d5_46) (by decide) (pc' := 67) rfl (pcF := 49) rfl (fun b hc7 => ?_) (fun hc7 => ?_)
  · exact no (fun q => by have := (hc7.symm.trans (q.2.2.2.2.2.2.1)); cases this) T7 X7 e7
  refine g_aloadN X7 hx (hb hby d5_49) (pc' := 50) rfl rfl rfl ?_
  refine g_getF X7 hx hZ (host := "") hown (Or.inl (hw _ (List.mem_of_getElem? (i := 94) rfl))) Via.refl e7 (O0.2 ("com/example/sundskrift/sundskrift/core/schema/SimpleType$Facets", "maximum", "Lcom/example/sundskrift/sundskrift/core/schema/SimpleType$Bound;") (mem_i 7 rfl)) (hb hby d5_50) (pc' := 53) rfl ?_
  intro T8 X8 e8
  refine g_ifnonnull X8 hx v8 (hb hby d5_53) (by decide) (pc' := 67) rfl (pcF := 56) rfl (fun b hc8 => ?_) (fun hc8 => ?_)
  · exact no (fun q => by have := (hc8.symm.trans (q.2.2.2.2.2.2.2.1)); cases this) T8 X8 e8
  refine g_aloadN X8 hx (hb hby d5_56) (pc' := 57) rfl rfl rfl ?_
  refine g_getF X8 hx hZ (host := "") hown (Or.inl (hw _ (List.mem_of_getElem? (i := 95) rfl))) Via.refl e8 (v9 ▸ (O0.2 ("com/example/sundskrift/sundskrift/core/schema/SimpleType$Facets", "unfollowed", "Z") (mem_i 8 rfl)) : Fld Z h0 a "com/example/sundskrift/sundskrift/core/schema/SimpleType$Facets" "unfollowed" "Z" (.int u)) (hb hby d5_57) (pc' := 60) rfl ?_
  intro T9 X9 e9
  refine g_if_ne X9 hx (hb hby d5_60) (by decide) (pc' := 67) rfl (pcF := 63) rfl (fun hc9 => ?_) (fun hc9 => ?_)
  · exact no (fun q => hc9 q.2.2.2.2.2.2.2.2) T9 X9 e9
  refine g_iconst X9 hx (hb hby d5_63) (pc' := 64) rfl (z := 1) (by decide) ?_
  refine g_goto X9 hx (hb hby d5_64) (by decide) (pc' := 68) rfl ?_
  exact g_retZ X9 hx hret hlk (by decide) (hb hby d5_68) (by decide) (by decide) ⟨Fr.nil _, e9, _, rfl, Or.inl ⟨rfl, ⟨hc1, hc2, hc3, hc4, hc5, hc6, hc7, hc8, hc9⟩⟩⟩
theorem pn_0 : plainName "com/example/sundskrift/sundskrift/core/schema/FacetsNonePinLaw" = true := by first | (simp [plainName, overriddenIn]; done) | decide +kernel
theorem ef_0 (m : MethodId) (x0 : Int32) (x1 : Int32) (x2 : Int32) (x3 : Int32) : entryFrame m #[(.int x0), (.int x1), (.int x2), (.int x3)] maxLocals = mkF m 0 #[.val (.int x0), .val (.int x1), .val (.int x2), .val (.int x3), .unset, .unset, .unset, .unset, .unset, .unset, .unset, .unset, .unset, .unset, .unset] [] := by first | (simp [entryFrame, mkF, argsToLocals, Value.category, maxLocals]; done) | rfl
def Q0 (n0 : Nat) (v : Option Value) (h : Heap) (L : List Loc) : Prop := v = some (.int 1) ∧ Fr n0 L
def g0 : String → Value := fun n => if n = "length" ∨ n = "minLength" ∨ n = "maxLength" ∨ n = "unfollowed" then .int 0 else .null
def gB : String → Value := fun n => if n = "inclusive" then .int 0 else .null
def gA : String → Value := fun n => if n = "modCount" then .int 0 else .null
theorem strs {Z : State} {a0 : Array Value} (hw : ∀ d ∈ tables_1, d.before a0 Z = true) : ∀ a ∈ Bundle.stringAtoms, a.before a0 Z = true := by
  intro d hd
  simp only [Bundle.stringAtoms, List.mem_cons, List.not_mem_nil, or_false] at hd
  rcases hd with rfl | rfl | rfl | rfl | rfl | rfl | rfl
  · first | exact (hw _ (List.mem_of_getElem? (i := 18) rfl)) | exact (hw _ (List.mem_of_getElem? (i := 19) rfl)) | exact (hw _ (List.mem_of_getElem? (i := 20) rfl)) | exact (hw _ (List.mem_of_getElem? (i := 21) rfl)) | exact (hw _ (List.mem_of_getElem? (i := 22) rfl)) | exact (hw _ (List.mem_of_getElem? (i := 23) rfl)) | exact (hw _ (List.mem_of_getElem? (i := 24) rfl)) | exact (hw _ (List.mem_of_getElem? (i := 25) rfl))
  · first | exact (hw _ (List.mem_of_getElem? (i := 18) rfl)) | exact (hw _ (List.mem_of_getElem? (i := 19) rfl)) | exact (hw _ (List.mem_of_getElem? (i := 20) rfl)) | exact (hw _ (List.mem_of_getElem? (i := 21) rfl)) | exact (hw _ (List.mem_of_getElem? (i := 22) rfl)) | exact (hw _ (List.mem_of_getElem? (i := 23) rfl)) | exact (hw _ (List.mem_of_getElem? (i := 24) rfl)) | exact (hw _ (List.mem_of_getElem? (i := 25) rfl))
  · first | exact (hw _ (List.mem_of_getElem? (i := 18) rfl)) | exact (hw _ (List.mem_of_getElem? (i := 19) rfl)) | exact (hw _ (List.mem_of_getElem? (i := 20) rfl)) | exact (hw _ (List.mem_of_getElem? (i := 21) rfl)) | exact (hw _ (List.mem_of_getElem? (i := 22) rfl)) | exact (hw _ (List.mem_of_getElem? (i := 23) rfl)) | exact (hw _ (List.mem_of_getElem? (i := 24) rfl)) | exact (hw _ (List.mem_of_getElem? (i := 25) rfl))
  · first | exact (hw _ (List.mem_of_getElem? (i := 18) rfl)) | exact (hw _ (List.mem_of_getElem? (i := 19) rfl)) | exact (hw _ (List.mem_of_getElem? (i := 20) rfl)) | exact (hw _ (List.mem_of_getElem? (i := 21) rfl)) | exact (hw _ (List.mem_of_getElem? (i := 22) rfl)) | exact (hw _ (List.mem_of_getElem? (i := 23) rfl)) | exact (hw _ (List.mem_of_getElem? (i := 24) rfl)) | exact (hw _ (List.mem_of_getElem? (i := 25) rfl))
  · first | exact (hw _ (List.mem_of_getElem? (i := 18) rfl)) | exact (hw _ (List.mem_of_getElem? (i := 19) rfl)) | exact (hw _ (List.mem_of_getElem? (i := 20) rfl)) | exact (hw _ (List.mem_of_getElem? (i := 21) rfl)) | exact (hw _ (List.mem_of_getElem? (i := 22) rfl)) | exact (hw _ (List.mem_of_getElem? (i := 23) rfl)) | exact (hw _ (List.mem_of_getElem? (i := 24) rfl)) | exact (hw _ (List.mem_of_getElem? (i := 25) rfl))
  · first | exact (hw _ (List.mem_of_getElem? (i := 18) rfl)) | exact (hw _ (List.mem_of_getElem? (i := 19) rfl)) | exact (hw _ (List.mem_of_getElem? (i := 20) rfl)) | exact (hw _ (List.mem_of_getElem? (i := 21) rfl)) | exact (hw _ (List.mem_of_getElem? (i := 22) rfl)) | exact (hw _ (List.mem_of_getElem? (i := 23) rfl)) | exact (hw _ (List.mem_of_getElem? (i := 24) rfl)) | exact (hw _ (List.mem_of_getElem? (i := 25) rfl))
  · first | exact (hw _ (List.mem_of_getElem? (i := 18) rfl)) | exact (hw _ (List.mem_of_getElem? (i := 19) rfl)) | exact (hw _ (List.mem_of_getElem? (i := 20) rfl)) | exact (hw _ (List.mem_of_getElem? (i := 21) rfl)) | exact (hw _ (List.mem_of_getElem? (i := 22) rfl)) | exact (hw _ (List.mem_of_getElem? (i := 23) rfl)) | exact (hw _ (List.mem_of_getElem? (i := 24) rfl)) | exact (hw _ (List.mem_of_getElem? (i := 25) rfl))
set_option maxRecDepth 65536 in
set_option maxHeartbeats 40000000 in
theorem rm0 (l : Launch) (Z : State) (a0 : Array Value) (hw : ∀ d ∈ tables_1, d.before a0 Z = true) (p1 p2 p3 p4 : Int32) (s1 s2 s3 ad : Addr) (h0 : Heap) (n0 : Nat) (Z0 : n0 ≤ h0.size) (S1 : Sta Z h0 "com/example/sundskrift/sundskrift/core/schema/SimpleType$Whitespace" "PRESERVE" "Lcom/example/sundskrift/sundskrift/core/schema/SimpleType$Whitespace;" (.ref s1)) (S2 : Sta Z h0 "com/example/sundskrift/sundskrift/core/schema/SimpleType$Whitespace" "REPLACE" "Lcom/example/sundskrift/sundskrift/core/schema/SimpleType$Whitespace;" (.ref s2)) (S3 : Sta Z h0 "com/example/sundskrift/sundskrift/core/schema/SimpleType$Whitespace" "COLLAPSE" "Lcom/example/sundskrift/sundskrift/core/schema/SimpleType$Whitespace;" (.ref s3)) (SD : Sta Z h0 "java/util/ArrayList" "DEFAULTCAPACITY_EMPTY_ELEMENTDATA" "[Ljava/lang/Object;" (.ref ad)) :
    CtW l Z x code maxLocals ret room_1 #[(.int p1), (.int p2), (.int p3), (.int p4)] h0 (Q0 n0) := by
  refine CtW.of pn_0 (fun m => ef_0 m p1 p2 p3 p4) ?_
  intro p e s m below meth c T vm0 X0 hx hby hml hret hlk hZ hown hnm e0 hS0
  refine g_new X0 hx hZ hown (hw _ (List.mem_of_getElem? (i := 0) rfl)) (hw _ (List.mem_of_getElem? (i := 1) rfl)) (hw _ (List.mem_of_getElem? (i := 2) rfl)) e0 (hb hby at_0) (pc' := 3) rfl (by decide) (by decide) ?_
  intro T1 h1 af g1 X1 e1 E1 A1 D1
  have O1 : Ob Z h1 af "com/example/sundskrift/sundskrift/core/schema/SimpleType$Facets" fs_F g0 := Ob.new (lds_F hw) A1 D1 (by decide +kernel)
  have K1 : Keep h0 h1 [] := (Keep.refl h0 []).ext E1
  have gf0 : h0.size ≤ af := Nat.le_of_eq g1.symm
  have gf : n0 ≤ af := Nat.le_trans Z0 gf0
  refine g_dup X1 hx (hb hby at_3) (pc' := 4) rfl rfl ?_
  refine g_callI X1 hx hZ 1 (a := af) hown rfl (hw _ (List.mem_of_getElem? (i := 3) rfl)) (hw _ (List.mem_of_getElem? (i := 4) rfl)) (hw _ (List.mem_of_getElem? (i := 2) rfl)) (hw _ (List.mem_of_getElem? (i := 5) rfl)) (by decide) e1 (rmF l Z a0 hw af g0 h1 n0 O1 gf) (by decide) (by decide) (by rw [hml]; rfl) (argsL := []) (rest := [(.ref af)]) (lenOf pd_F rfl) rfl (Nat.le_of_eq rfl) (hb hby at_4) (pc' := 7) rfl (by decide) (by decide) rfl ?_
  rintro T2 _ L2 X2 ⟨rfl, N2, K2', O2⟩
  show Go p e below _ (T2.setTop (mkF m 7 #[.val (.int p1), .val (.int p2), .val (.int p3), .val (.int p4), .unset, .unset, .unset, .unset, .unset, .unset, .unset, .unset, .unset, .unset, .unset] [(.ref af)]))
  have K2 : Keep h0 T2.heap [] := K1.trans K2' (allS (Or.inr gf0) all0)
  refine g_astore X2 hx (hb hby at_7) (pc' := 9) rfl rfl (Ls' := #[.val (.int p1), .val (.int p2), .val (.int p3), .val (.int p4), .val (.ref af), .unset, .unset, .unset, .unset, .unset, .unset, .unset, .unset, .unset, .unset]) rfl ?_
  refine g_new X2 hx hZ hown (hw _ (List.mem_of_getElem? (i := 15) rfl)) (hw _ (List.mem_of_getElem? (i := 16) rfl)) (hw _ (List.mem_of_getElem? (i := 17) rfl)) rfl (hb hby at_9) (pc' := 12) rfl (by decide) (by decide) ?_
  intro T3 h3 ab g3 X3 e3 E3 A3 D3
  have O3 := O2.ext E3
  have K3 := K2.ext E3
  have gb0 : h0.size ≤ ab := Nat.le_trans K2.1 (Nat.le_of_eq g3.symm)
  have gb : n0 ≤ ab := Nat.le_trans Z0 gb0
  have nfb : af ≠ ab := Nat.ne_of_lt (g3 ▸ O2.lt)
  have B3 : Ob Z h3 ab "com/example/sundskrift/sundskrift/core/schema/SimpleType$Bound" fs_B gB := Ob.new (lds_B hw) A3 D3 (by decide +kernel)
  refine g_dup X3 hx (hb hby at_12) (pc' := 13) rfl rfl ?_
  refine g_ldcS X3 hx hS0 hZ hown (hw _ (List.mem_of_getElem? (i := 18) rfl)) (strs hw) e3 K3.1 (hb hby at_13) (pc' := 15) rfl 4 (by decide) (by decide) (by decide) (by decide) ?_
  clear hZ hown
  intro T4 h4 as vm1 k1 X4 e4 E4 hS hk1 hZ hown
  have O4 := O3.ext E4
  have K4 := K3.ext E4
  have B4 := B3.ext E4
  refine g_iconst X4 hx (hb hby at_15) (pc' := 16) rfl (z := 1) (by decide) ?_
  refine g_callI X4 hx hZ 1 (a := ab) hown rfl (hw _ (List.mem_of_getElem? (i := 26) rfl)) (hw _ (List.mem_of_getElem? (i := 27) rfl)) (hw _ (List.mem_of_getElem? (i := 17) rfl)) (hw _ (List.mem_of_getElem? (i := 28) rfl)) (by decide) e4 (rmB l Z a0 hw ab as gB h4 n0 B4 gb) (by decide) (by decide) (by rw [hml]; rfl) (argsL := [(.ref as), (.int (1 : Int32))]) (rest := [(.ref ab)]) (lenOf pd_B rfl) rfl (Nat.le_of_eq rfl) (hb hby at_16) (pc' := 19) rfl (by decide) (by decide) rfl ?_
  rintro T5 _ L5 X5 ⟨rfl, N5, K5'⟩
  show Go p e below _ (T5.setTop (mkF m 19 #[.val (.int p1), .val (.int p2), .val (.int p3), .val (.int p4), .val (.ref af), .unset, .unset, .unset, .unset, .unset, .unset, .unset, .unset, .unset, .unset] [(.ref ab)]))
  have O5 := O4.keep K5' (ninS nfb nin0)
  have K5 : Keep h0 T5.heap [] := K4.trans K5' (allS (Or.inr gb0) all0)
  have N5a := (((Fr.nil n0).app N2).app N5)
  have hk5 : k1 ≤ T5.heap.size := Nat.le_trans hk1 K5'.1
  obtain ⟨lc5, glc5⟩ : ∃ z, z = ([] : List Loc) ++ L2 ++ L5 := ⟨_, rfl⟩
  rw [← glc5] at X5 N5a
  refine g_astore X5 hx (hb hby at_19) (pc' := 21) rfl rfl (Ls' := #[.val (.int p1), .val (.int p2), .val (.int p3), .val (.int p4), .val (.ref af), .val (.ref ab), .unset, .unset, .unset, .unset, .unset, .unset, .unset, .unset, .unset]) rfl ?_
  refine g_iloadN X5 hx (hb hby at_21) (pc' := 22) rfl rfl ?_
  refine g_iconst X5 hx (hb hby at_22) (pc' := 23) rfl (z := 1) (by decide) ?_
  refine g_iand X5 hx (hb hby at_23) (pc' := 24) rfl rfl ?_
  suffices j_w : ∀ vw : Int32, (vw = 0 ∨ vw = 1) → Go p e below (DnW s below (Q0 n0) 24 1152) (T5.setTop (mkF m 32 #[.val (.int p1), .val (.int p2), .val (.int p3), .val (.int p4), .val (.ref af), .val (.ref ab), .unset, .unset, .unset, .unset, .unset, .unset, .unset, .unset, .unset] [(.int vw)])) by
    refine g_if_eq X5 hx (hb hby at_24) (by decide) (pc' := 31) rfl (pcF := 27) rfl (fun hc => ?_) (fun hc => ?_)
    ·
      refine g_iconst X5 hx (hb hby at_31) (pc' := 32) rfl (z := 0) (by decide) ?_
      exact j_w 0 (Or.inl rfl)
    ·
      refine g_iconst X5 hx (hb hby at_27) (pc' := 28) rfl (z := 1) (by decide) ?_
      refine g_goto X5 hx (hb hby at_28) (by decide) (pc' := 32) rfl ?_
      exact j_w 1 (Or.inr rfl)
  intro vw qw
  refine g_istore X5 hx (hb hby at_32) (pc' := 34) rfl (Ls' := #[.val (.int p1), .val (.int p2), .val (.int p3), .val (.int p4), .val (.ref af), .val (.ref ab), .val (.int vw), .unset, .unset, .unset, .unset, .unset, .unset, .unset, .unset]) rfl ?_
  refine g_iloadN X5 hx (hb hby at_34) (pc' := 35) rfl rfl ?_
  refine g_iconst X5 hx (hb hby at_35) (pc' := 36) rfl (z := 1) (by decide) ?_
  refine g_iushr X5 hx (hb hby at_36) (pc' := 37) rfl rfl ?_
  refine g_iconst X5 hx (hb hby at_37) (pc' := 38) rfl (z := 3) (by decide) ?_
  refine g_iand X5 hx (hb hby at_38) (pc' := 39) rfl rfl ?_
  refine g_istore X5 hx (hb hby at_39) (pc' := 41) rfl (Ls' := #[.val (.int p1), .val (.int p2), .val (.int p3), .val (.int p4), .val (.ref af), .val (.ref ab), .val (.int vw), .val (.int ((XT.ushr p1 (1 : Int32)) &&& (3 : Int32))), .unset, .unset, .unset, .unset, .unset, .unset, .unset]) rfl ?_
  refine g_iloadN X5 hx (hb hby at_41) (pc' := 42) rfl rfl ?_
  refine g_bipush X5 hx (hb hby at_42) (pc' := 44) rfl (z := 8) (by decide) ?_
  refine g_iand X5 hx (hb hby at_44) (pc' := 45) rfl rfl ?_
  suffices j_p : ∀ vp : Int32, (vp = 0 ∨ vp = 1) → Go p e below (DnW s below (Q0 n0) 24 1152) (T5.setTop (mkF m 53 #[.val (.int p1), .val (.int p2), .val (.int p3), .val (.int p4), .val (.ref af), .val (.ref ab), .val (.int vw), .val (.int ((XT.ushr p1 (1 : Int32)) &&& (3 : Int32))), .unset, .unset, .unset, .unset, .unset, .unset, .unset] [(.int vp)])) by
    refine g_if_eq X5 hx (hb hby at_45) (by decide) (pc' := 52) rfl (pcF := 48) rfl (fun hc => ?_) (fun hc => ?_)
    ·
      refine g_iconst X5 hx (hb hby at_52) (pc' := 53) rfl (z := 0) (by decide) ?_
      exact j_p 0 (Or.inl rfl)
    ·
      refine g_iconst X5 hx (hb hby at_48) (pc' := 49) rfl (z := 1) (by decide) ?_
      refine g_goto X5 hx (hb hby at_49) (by decide) (pc' := 53) rfl ?_
      exact j_p 1 (Or.inr rfl)
  intro vp qp
  refine g_istore X5 hx (hb hby at_53) (pc' := 55) rfl (Ls' := #[.val (.int p1), .val (.int p2), .val (.int p3), .val (.int p4), .val (.ref af), .val (.ref ab), .val (.int vw), .val (.int ((XT.ushr p1 (1 : Int32)) &&& (3 : Int32))), .val (.int vp), .unset, .unset, .unset, .unset, .unset, .unset]) rfl ?_
  refine g_iloadN X5 hx (hb hby at_55) (pc' := 56) rfl rfl ?_
  refine g_bipush X5 hx (hb hby at_56) (pc' := 58) rfl (z := 16) (by decide) ?_
  refine g_iand X5 hx (hb hby at_58) (pc' := 59) rfl rfl ?_
  suffices j_e : ∀ ve : Int32, (ve = 0 ∨ ve = 1) → Go p e below (DnW s below (Q0 n0) 24 1152) (T5.setTop (mkF m 67 #[.val (.int p1), .val (.int p2), .val (.int p3), .val (.int p4), .val (.ref af), .val (.ref ab), .val (.int vw), .val (.int ((XT.ushr p1 (1 : Int32)) &&& (3 : Int32))), .val (.int vp), .unset, .unset, .unset, .unset, .unset, .unset] [(.int ve)])) by
    refine g_if_eq X5 hx (hb hby at_59) (by decide) (pc' := 66) rfl (pcF := 62) rfl (fun hc => ?_) (fun hc => ?_)
    ·
      refine g_iconst X5 hx (hb hby at_66) (pc' := 67) rfl (z := 0) (by decide) ?_
      exact j_e 0 (Or.inl rfl)
    ·
      refine g_iconst X5 hx (hb hby at_62) (pc' := 63) rfl (z := 1) (by decide) ?_
      refine g_goto X5 hx (hb hby at_63) (by decide) (pc' := 67) rfl ?_
      exact j_e 1 (Or.inr rfl)
  intro ve qe
  refine g_istore X5 hx (hb hby at_67) (pc' := 69) rfl (Ls' := #[.val (.int p1), .val (.int p2), .val (.int p3), .val (.int p4), .val (.ref af), .val (.ref ab), .val (.int vw), .val (.int ((XT.ushr p1 (1 : Int32)) &&& (3 : Int32))), .val (.int vp), .val (.int ve), .unset, .unset, .unset, .unset, .unset]) rfl ?_
  refine g_iloadN X5 hx (hb hby at_69) (pc' := 70) rfl rfl ?_
  refine g_bipush X5 hx (hb hby at_70) (pc' := 72) rfl (z := 32) (by decide) ?_
  refine g_iand X5 hx (hb hby at_72) (pc' := 73) rfl rfl ?_
  suffices j_mn : ∀ vmn : Int32, (vmn = 0 ∨ vmn = 1) → Go p e below (DnW s below (Q0 n0) 24 1152) (T5.setTop (mkF m 81 #[.val (.int p1), .val (.int p2), .val (.int p3), .val (.int p4), .val (.ref af), .val (.ref ab), .val (.int vw), .val (.int ((XT.ushr p1 (1 : Int32)) &&& (3 : Int32))), .val (.int vp), .val (.int ve), .unset, .unset, .unset, .unset, .unset] [(.int vmn)])) by
    refine g_if_eq X5 hx (hb hby at_73) (by decide) (pc' := 80) rfl (pcF := 76) rfl (fun hc => ?_) (fun hc => ?_)
    ·
      refine g_iconst X5 hx (hb hby at_80) (pc' := 81) rfl (z := 0) (by decide) ?_
      exact j_mn 0 (Or.inl rfl)
    ·
      refine g_iconst X5 hx (hb hby at_76) (pc' := 77) rfl (z := 1) (by decide) ?_
      refine g_goto X5 hx (hb hby at_77) (by decide) (pc' := 81) rfl ?_
      exact j_mn 1 (Or.inr rfl)
  intro vmn qmn
  refine g_istore X5 hx (hb hby at_81) (pc' := 83) rfl (Ls' := #[.val (.int p1), .val (.int p2), .val (.int p3), .val (.int p4), .val (.ref af), .val (.ref ab), .val (.int vw), .val (.int ((XT.ushr p1 (1 : Int32)) &&& (3 : Int32))), .val (.int vp), .val (.int ve), .val (.int vmn), .unset, .unset, .unset, .unset]) rfl ?_
  refine g_iloadN X5 hx (hb hby at_83) (pc' := 84) rfl rfl ?_
  refine g_bipush X5 hx (hb hby at_84) (pc' := 86) rfl (z := 64) (by decide) ?_
  refine g_iand X5 hx (hb hby at_86) (pc' := 87) rfl rfl ?_
  suffices j_mx : ∀ vmx : Int32, (vmx = 0 ∨ vmx = 1) → Go p e below (DnW s below (Q0 n0) 24 1152) (T5.setTop (mkF m 95 #[.val (.int p1), .val (.int p2), .val (.int p3), .val (.int p4), .val (.ref af), .val (.ref ab), .val (.int vw), .val (.int ((XT.ushr p1 (1 : Int32)) &&& (3 : Int32))), .val (.int vp), .val (.int ve), .val (.int vmn), .unset, .unset, .unset, .unset] [(.int vmx)])) by
    refine g_if_eq X5 hx (hb hby at_87) (by decide) (pc' := 94) rfl (pcF := 90) rfl (fun hc => ?_) (fun hc => ?_)
    ·
      refine g_iconst X5 hx (hb hby at_94) (pc' := 95) rfl (z := 0) (by decide) ?_
      exact j_mx 0 (Or.inl rfl)
    ·
      refine g_iconst X5 hx (hb hby at_90) (pc' := 91) rfl (z := 1) (by decide) ?_
      refine g_goto X5 hx (hb hby at_91) (by decide) (pc' := 95) rfl ?_
      exact j_mx 1 (Or.inr rfl)
  intro vmx qmx
  refine g_istore X5 hx (hb hby at_95) (pc' := 97) rfl (Ls' := #[.val (.int p1), .val (.int p2), .val (.int p3), .val (.int p4), .val (.ref af), .val (.ref ab), .val (.int vw), .val (.int ((XT.ushr p1 (1 : Int32)) &&& (3 : Int32))), .val (.int vp), .val (.int ve), .val (.int vmn), .val (.int vmx), .unset, .unset, .unset]) rfl ?_
  refine g_iloadN X5 hx (hb hby at_97) (pc' := 98) rfl rfl ?_
  refine g_sipush X5 hx (hb hby at_98) (pc' := 101) rfl (z := 128) (by decide) ?_
  refine g_iand X5 hx (hb hby at_101) (pc' := 102) rfl rfl ?_
  suffices j_u : ∀ vu : Int32, (vu = 0 ∨ vu = 1) → Go p e below (DnW s below (Q0 n0) 24 1152) (T5.setTop (mkF m 110 #[.val (.int p1), .val (.int p2), .val (.int p3), .val (.int p4), .val (.ref af), .val (.ref ab), .val (.int vw), .val (.int ((XT.ushr p1 (1 : Int32)) &&& (3 : Int32))), .val (.int vp), .val (.int ve), .val (.int vmn), .val (.int vmx), .unset, .unset, .unset] [(.int vu)])) by
    refine g_if_eq X5 hx (hb hby at_102) (by decide) (pc' := 109) rfl (pcF := 105) rfl (fun hc => ?_) (fun hc => ?_)
    ·
      refine g_iconst X5 hx (hb hby at_109) (pc' := 110) rfl (z := 0) (by decide) ?_
      exact j_u 0 (Or.inl rfl)
    ·
      refine g_iconst X5 hx (hb hby at_105) (pc' := 106) rfl (z := 1) (by decide) ?_
      refine g_goto X5 hx (hb hby at_106) (by decide) (pc' := 110) rfl ?_
      exact j_u 1 (Or.inr rfl)
  intro vu qu
  refine g_istore X5 hx (hb hby at_110) (pc' := 112) rfl (Ls' := #[.val (.int p1), .val (.int p2), .val (.int p3), .val (.int p4), .val (.ref af), .val (.ref ab), .val (.int vw), .val (.int ((XT.ushr p1 (1 : Int32)) &&& (3 : Int32))), .val (.int vp), .val (.int ve), .val (.int vmn), .val (.int vmx), .val (.int vu), .unset, .unset]) rfl ?_
  obtain ⟨vk, gvk⟩ : ∃ z : Int32, z = ((XT.ushr p1 (1 : Int32)) &&& (3 : Int32)) := ⟨_, rfl⟩
  rw [← gvk]
  refine g_iload X5 hx (hb hby at_112) (pc' := 114) rfl rfl ?_
  suffices j_158 : ∀ (Tj : State) (hj : Heap) (lcj : List Loc) (g : String → Value), Stand p l e room_1 (s.setVm vm1) m #[(.int p1), (.int p2), (.int p3), (.int p4)] below meth c Tj lcj 4 19 → Tj.heap = hj → Fr n0 lcj → Keep h0 hj [] → k1 ≤ hj.size → Ob Z hj af "com/example/sundskrift/sundskrift/core/schema/SimpleType$Facets" fs_F g → ((g "whitespace").isRef = true ∧ (g "whitespace" = .null ↔ vw = 0)) → (g "patterns" = .null) → (g "enumeration" = .null) → (True) → (True) → (True) → (g "minimum" = .null) → (g "maximum" = .null) → (g "unfollowed" = .int 0) → Go p e below (DnW s below (Q0 n0) 24 1152) (Tj.setTop (mkF m 158 #[.val (.int p1), .val (.int p2), .val (.int p3), .val (.int p4), .val (.ref af), .val (.ref ab), .val (.int vw), .val (.int vk), .val (.int vp), .val (.int ve), .val (.int vmn), .val (.int vmx), .val (.int vu), .unset, .unset] [])) by
    refine g_if_eq X5 hx (hb hby at_114) (by decide) (pc' := 158) rfl (pcF := 117) rfl (fun hw0 => ?_) (fun hw0 => ?_)
    ·
      exact j_158 _ _ _ (set (set (set g0 "length" (.int (-1))) "minLength" (.int (-1))) "maxLength" (.int (-1))) (X5.more (by decide) (by decide)) rfl N5a K5 hk5 O5 ⟨rfl, ⟨fun _ => hw0, fun _ => rfl⟩⟩ (by first | trivial | rfl) (by first | trivial | rfl) (by first | trivial | rfl) (by first | trivial | rfl) (by first | trivial | rfl) (by first | trivial | rfl) (by first | trivial | rfl) (by first | trivial | rfl)
    ·
      refine g_iload X5 hx (hb hby at_117) (pc' := 119) rfl rfl ?_
      refine g_if_ne X5 hx (hb hby at_119) (by decide) (pc' := 133) rfl (pcF := 122) rfl (fun hk0 => ?_) (fun hk0 => ?_)
      ·
        refine g_iload X5 hx (hb hby at_133) (pc' := 135) rfl rfl ?_
        refine g_iconst X5 hx (hb hby at_135) (pc' := 136) rfl (z := 1) (by decide) ?_
        refine g_icmp_ne X5 hx (hb hby at_136) (by decide) (pc' := 150) rfl (pcF := 139) rfl (fun hk1 => ?_) (fun hk1 => ?_)
        ·
          refine g_aload X5 hx (hb hby at_150) (pc' := 152) rfl rfl rfl ?_
          refine g_getS X5 hx hZ hown (hw _ (List.mem_of_getElem? (i := 78) rfl)) Via.refl rfl (S3.ext (ext_of_keep K5)) (hb hby at_152) (pc' := 155) rfl ?_
          intro Tc1s Xc1s ec1s
          refine g_putF Xc1s hx hZ (.object "com/example/sundskrift/sundskrift/core/schema/SimpleType$Whitespace") (host := "") hown (Or.inl (hw _ (List.mem_of_getElem? (i := 81) rfl))) Via.refl ec1s (O5.2 ("com/example/sundskrift/sundskrift/core/schema/SimpleType$Facets", "whitespace", "Lcom/example/sundskrift/sundskrift/core/schema/SimpleType$Whitespace;") (mem_i 0 rfl)) O5.1 (Or.inl (hw _ (List.mem_of_getElem? (i := 48) rfl))) (hw _ (List.mem_of_getElem? (i := 1) rfl)) (by decide) rfl rfl (hb hby at_155) (pc' := 158) rfl ?_
          intro Tc1 hc1 Xc1 ec1 Wc1
          have Oc1 := O5.put (lds_F hw) un_F de_F (mem_i 0 rfl) Wc1
          have Kc1 := K5.wr Wc1 (Or.inr gf0)
          have Nc1 := Fr.snoc Xc1 N5a gf
          have hkc1 := Nat.le_trans hk5 (Nat.le_of_eq (Wr.size Wc1).symm)
          exact j_158 _ _ _ (set (set (set (set g0 "length" (.int (-1))) "minLength" (.int (-1))) "maxLength" (.int (-1))) "whitespace" (.ref s3)) (Xc1.more (by decide) (by decide)) ec1 Nc1 Kc1 hkc1 Oc1 ⟨rfl, ⟨fun z => (by cases z), fun z => absurd z hw0⟩⟩ (by first | trivial | rfl) (by first | trivial | rfl) (by first | trivial | rfl) (by first | trivial | rfl) (by first | trivial | rfl) (by first | trivial | rfl) (by first | trivial | rfl) (by first | trivial | rfl)
        ·
          refine g_aload X5 hx (hb hby at_139) (pc' := 141) rfl rfl rfl ?_
          refine g_getS X5 hx hZ hown (hw _ (List.mem_of_getElem? (i := 91) rfl)) Via.refl rfl (S2.ext (ext_of_keep K5)) (hb hby at_141) (pc' := 144) rfl ?_
          intro Tr1s Xr1s er1s
          refine g_putF Xr1s hx hZ (.object "com/example/sundskrift/sundskrift/core/schema/SimpleType$Whitespace") (host := "") hown (Or.inl (hw _ (List.mem_of_getElem? (i := 81) rfl))) Via.refl er1s (O5.2 ("com/example/sundskrift/sundskrift/core/schema/SimpleType$Facets", "whitespace", "Lcom/example/sundskrift/sundskrift/core/schema/SimpleType$Whitespace;") (mem_i 0 rfl)) O5.1 (Or.inl (hw _ (List.mem_of_getElem? (i := 48) rfl))) (hw _ (List.mem_of_getElem? (i := 1) rfl)) (by decide) rfl rfl (hb hby at_144) (pc' := 147) rfl ?_
          intro Tr1 hr1 Xr1 er1 Wr1
          have Or1 := O5.put (lds_F hw) un_F de_F (mem_i 0 rfl) Wr1
          have Kr1 := K5.wr Wr1 (Or.inr gf0)
          have Nr1 := Fr.snoc Xr1 N5a gf
          have hkr1 := Nat.le_trans hk5 (Nat.le_of_eq (Wr.size Wr1).symm)
          refine g_goto Xr1 hx (hb hby at_147) (by decide) (pc' := 158) rfl ?_
          exact j_158 _ _ _ (set (set (set (set g0 "length" (.int (-1))) "minLength" (.int (-1))) "maxLength" (.int (-1))) "whitespace" (.ref s2)) (Xr1.more (by decide) (by decide)) er1 Nr1 Kr1 hkr1 Or1 ⟨rfl, ⟨fun z => (by cases z), fun z => absurd z hw0⟩⟩ (by first | trivial | rfl) (by first | trivial | rfl) (by first | trivial | rfl) (by first | trivial | rfl) (by first | trivial | rfl) (by first | trivial | rfl) (by first | trivial | rfl) (by first | trivial | rfl)
      ·
        refine g_aload X5 hx (hb hby at_122) (pc' := 124) rfl rfl rfl ?_
        refine g_getS X5 hx hZ hown (hw _ (List.mem_of_getElem? (i := 89) rfl)) Via.refl rfl (S1.ext (ext_of_keep K5)) (hb hby at_124) (pc' := 127) rfl ?_
        intro Tv1s Xv1s ev1s
        refine g_putF Xv1s hx hZ (.object "com/example/sundskrift/sundskrift/core/schema/SimpleType$Whitespace") (host := "") hown (Or.inl (hw _ (List.mem_of_getElem? (i := 81) rfl))) Via.refl ev1s (O5.2 ("com/example/sundskrift/sundskrift/core/schema/SimpleType$Facets", "whitespace", "Lcom/example/sundskrift/sundskrift/core/schema/SimpleType$Whitespace;") (mem_i 0 rfl)) O5.1 (Or.inl (hw _ (List.mem_of_getElem? (i := 48) rfl))) (hw _ (List.mem_of_getElem? (i := 1) rfl)) (by decide) rfl rfl (hb hby at_127) (pc' := 130) rfl ?_
        intro Tv1 hv1 Xv1 ev1 Wv1
        have Ov1 := O5.put (lds_F hw) un_F de_F (mem_i 0 rfl) Wv1
        have Kv1 := K5.wr Wv1 (Or.inr gf0)
        have Nv1 := Fr.snoc Xv1 N5a gf
        have hkv1 := Nat.le_trans hk5 (Nat.le_of_eq (Wr.size Wv1).symm)
        refine g_goto Xv1 hx (hb hby at_130) (by decide) (pc' := 158) rfl ?_
        exact j_158 _ _ _ (set (set (set (set g0 "length" (.int (-1))) "minLength" (.int (-1))) "maxLength" (.int (-1))) "whitespace" (.ref s1)) (Xv1.more (by decide) (by decide)) ev1 Nv1 Kv1 hkv1 Ov1 ⟨rfl, ⟨fun z => (by cases z), fun z => absurd z hw0⟩⟩ (by first | trivial | rfl) (by first | trivial | rfl) (by first | trivial | rfl) (by first | trivial | rfl) (by first | trivial | rfl) (by first | trivial | rfl) (by first | trivial | rfl) (by first | trivial | rfl)
  intro Ta ha lca ga Xa ea Na Ka hka Oa f_whitespace f_patterns f_enumeration f_length f_minLength f_maxLength f_minimum f_maximum f_unfollowed
  refine g_iload Xa hx (hb hby at_158) (pc' := 160) rfl rfl ?_
  suffices j_175 : ∀ (Tj : State) (hj : Heap) (lcj : List Loc) (g : String → Value), Stand p l e room_1 (s.setVm vm1) m #[(.int p1), (.int p2), (.int p3), (.int p4)] below meth c Tj lcj 5 22 → Tj.heap = hj → Fr n0 lcj → Keep h0 hj [] → k1 ≤ hj.size → Ob Z hj af "com/example/sundskrift/sundskrift/core/schema/SimpleType$Facets" fs_F g → ((g "whitespace").isRef = true ∧ (g "whitespace" = .null ↔ vw = 0)) → ((g "patterns").isRef = true ∧ (g "patterns" = .null ↔ vp = 0)) → (g "enumeration" = .null) → (True) → (True) → (True) → (g "minimum" = .null) → (g "maximum" = .null) → (g "unfollowed" = .int 0) → Go p e below (DnW s below (Q0 n0) 24 1152) (Tj.setTop (mkF m 175 #[.val (.int p1), .val (.int p2), .val (.int p3), .val (.int p4), .val (.ref af), .val (.ref ab), .val (.int vw), .val (.int vk), .val (.int vp), .val (.int ve), .val (.int vmn), .val (.int vmx), .val (.int vu), .unset, .unset] [])) by
    refine g_if_eq Xa hx (hb hby at_160) (by decide) (pc' := 175) rfl (pcF := 163) rfl (fun hl => ?_) (fun hl => ?_)
    ·
      exact j_175 _ _ _ ga (Xa.more (by decide) (by decide)) ea Na Ka hka Oa (by first | trivial | rfl | simpa [set] using f_whitespace) ⟨by rw [f_patterns]; rfl, ⟨fun _ => hl, fun _ => f_patterns⟩⟩ (by first | trivial | rfl | simpa [set] using f_enumeration) (by first | trivial | rfl | simpa [set] using f_length) (by first | trivial | rfl | simpa [set] using f_minLength) (by first | trivial | rfl | simpa [set] using f_maxLength) (by first | trivial | rfl | simpa [set] using f_minimum) (by first | trivial | rfl | simpa [set] using f_maximum) (by first | trivial | rfl | simpa [set] using f_unfollowed)
    ·
      refine g_aload Xa hx (hb hby at_163) (pc' := 165) rfl rfl rfl ?_
      refine g_new Xa hx hZ hown (hw _ (List.mem_of_getElem? (i := 53) rfl)) (hw _ (List.mem_of_getElem? (i := 54) rfl)) (hw _ (List.mem_of_getElem? (i := 55) rfl)) ea (hb hby at_165) (pc' := 168) rfl (by decide) (by decide) ?_
      intro Tbn hbn alb gbn Xbn ebn Ebn Abn Dbn
      have Onb := Oa.ext Ebn
      have Knb := Ka.ext Ebn
      have ga0b : h0.size ≤ alb := Nat.le_trans Ka.1 (Nat.le_of_eq gbn.symm)
      have gab : n0 ≤ alb := Nat.le_trans Z0 ga0b
      have nfab : af ≠ alb := Nat.ne_of_lt (gbn ▸ Oa.lt)
      have Alb : Ob Z hbn alb "java/util/ArrayList" fs_A gA := Ob.new (lds_A hw) Abn Dbn (by decide +kernel)
      refine g_dup Xbn hx (hb hby at_168) (pc' := 169) rfl rfl ?_
      refine g_callI Xbn hx hZ 2 (a := alb) hown rfl (hw _ (List.mem_of_getElem? (i := 56) rfl)) (hw _ (List.mem_of_getElem? (i := 57) rfl)) (hw _ (List.mem_of_getElem? (i := 55) rfl)) (hw _ (List.mem_of_getElem? (i := 58) rfl)) (by decide) ebn (rmA l Z a0 hw alb ad gA hbn n0 Alb gab (SD.ext (ext_of_keep Knb)) (fun h' K' => SD.ext (ext_of_keep (Knb.trans K' (allS (Or.inr ga0b) all0))))) (by decide) (by decide) (by rw [hml]; rfl) (argsL := []) (rest := [(.ref alb), (.ref af)]) (lenOf pd_A rfl) rfl (Nat.le_of_eq rfl) (hb hby at_169) (pc' := 172) rfl (by decide) (by decide) rfl ?_
      rintro Tbi _ Lbi Xbi ⟨rfl, Nbi, Kbi'⟩
      show Go p e below _ (Tbi.setTop (mkF m 172 #[.val (.int p1), .val (.int p2), .val (.int p3), .val (.int p4), .val (.ref af), .val (.ref ab), .val (.int vw), .val (.int vk), .val (.int vp), .val (.int ve), .val (.int vmn), .val (.int vmx), .val (.int vu), .unset, .unset] [(.ref alb), (.ref af)]))
      have Oib := Onb.keep Kbi' (ninS nfab nin0)
      have Kib := Knb.trans Kbi' (allS (Or.inr ga0b) all0)
      have Nib := Na.app Nbi
      have hkib := Nat.le_trans (Nat.le_trans hka Ebn.1) Kbi'.1
      refine g_putF Xbi hx hZ (.object "java/util/List") (host := "") hown (Or.inl (hw _ (List.mem_of_getElem? (i := 77) rfl))) Via.refl rfl (Oib.2 ("com/example/sundskrift/sundskrift/core/schema/SimpleType$Facets", "patterns", "Ljava/util/List;") (mem_i 1 rfl)) Oib.1 (Or.inl (hw _ (List.mem_of_getElem? (i := 50) rfl))) (hw _ (List.mem_of_getElem? (i := 1) rfl)) (by decide) rfl rfl (hb hby at_172) (pc' := 175) rfl ?_
      intro Tbp hbp Xbp ebp Wbp
      have Obp := Oib.put (lds_F hw) un_F de_F (mem_i 1 rfl) Wbp
      have Kbp := Kib.wr Wbp (Or.inr gf0)
      have Nbp := Fr.snoc Xbp Nib gf
      have hkbp := Nat.le_trans hkib (Nat.le_of_eq (Wr.size Wbp).symm)
      exact j_175 _ _ _ (set ga "patterns" (.ref alb)) (Xbp.more (by decide) (by decide)) ebp Nbp Kbp hkbp Obp (by first | trivial | rfl | simpa [set] using f_whitespace) ⟨rfl, ⟨fun z => (by cases z), fun z => absurd z hl⟩⟩ (by first | trivial | rfl | simpa [set] using f_enumeration) (by first | trivial | rfl | simpa [set] using f_length) (by first | trivial | rfl | simpa [set] using f_minLength) (by first | trivial | rfl | simpa [set] using f_maxLength) (by first | trivial | rfl | simpa [set] using f_minimum) (by first | trivial | rfl | simpa [set] using f_maximum) (by first | trivial | rfl | simpa [set] using f_unfollowed)
  intro Tcc hcc lccc gcc Xcc ecc Ncc Kcc hkcc Occ f_whitespace f_patterns f_enumeration f_length f_minLength f_maxLength f_minimum f_maximum f_unfollowed
  refine g_iload Xcc hx (hb hby at_175) (pc' := 177) rfl rfl ?_
  suffices j_192 : ∀ (Tj : State) (hj : Heap) (lcj : List Loc) (g : String → Value), Stand p l e room_1 (s.setVm vm1) m #[(.int p1), (.int p2), (.int p3), (.int p4)] below meth c Tj lcj 6 25 → Tj.heap = hj → Fr n0 lcj → Keep h0 hj [] → k1 ≤ hj.size → Ob Z hj af "com/example/sundskrift/sundskrift/core/schema/SimpleType$Facets" fs_F g → ((g "whitespace").isRef = true ∧ (g "whitespace" = .null ↔ vw = 0)) → ((g "patterns").isRef = true ∧ (g "patterns" = .null ↔ vp = 0)) → ((g "enumeration").isRef = true ∧ (g "enumeration" = .null ↔ ve = 0)) → (True) → (True) → (True) → (g "minimum" = .null) → (g "maximum" = .null) → (g "unfollowed" = .int 0) → Go p e below (DnW s below (Q0 n0) 24 1152) (Tj.setTop (mkF m 192 #[.val (.int p1), .val (.int p2), .val (.int p3), .val (.int p4), .val (.ref af), .val (.ref ab), .val (.int vw), .val (.int vk), .val (.int vp), .val (.int ve), .val (.int vmn), .val (.int vmx), .val (.int vu), .unset, .unset] [])) by
    refine g_if_eq Xcc hx (hb hby at_177) (by decide) (pc' := 192) rfl (pcF := 180) rfl (fun hl => ?_) (fun hl => ?_)
    ·
      exact j_192 _ _ _ gcc (Xcc.more (by decide) (by decide)) ecc Ncc Kcc hkcc Occ (by first | trivial | rfl | simpa [set] using f_whitespace) (by first | trivial | rfl | simpa [set] using f_patterns) ⟨by rw [f_enumeration]; rfl, ⟨fun _ => hl, fun _ => f_enumeration⟩⟩ (by first | trivial | rfl | simpa [set] using f_length) (by first | trivial | rfl | simpa [set] using f_minLength) (by first | trivial | rfl | simpa [set] using f_maxLength) (by first | trivial | rfl | simpa [set] using f_minimum) (by first | trivial | rfl | simpa [set] using f_maximum) (by first | trivial | rfl | simpa [set] using f_unfollowed)
    ·
      refine g_aload Xcc hx (hb hby at_180) (pc' := 182) rfl rfl rfl ?_
      refine g_new Xcc hx hZ hown (hw _ (List.mem_of_getElem? (i := 53) rfl)) (hw _ (List.mem_of_getElem? (i := 54) rfl)) (hw _ (List.mem_of_getElem? (i := 55) rfl)) ecc (hb hby at_182) (pc' := 185) rfl (by decide) (by decide) ?_
      intro Tdn hdn ald gdn Xdn edn Edn Adn Ddn
      have Ond := Occ.ext Edn
      have Knd := Kcc.ext Edn
      have ga0d : h0.size ≤ ald := Nat.le_trans Kcc.1 (Nat.le_of_eq gdn.symm)
      have gad : n0 ≤ ald := Nat.le_trans Z0 ga0d
      have nfad : af ≠ ald := Nat.ne_of_lt (gdn ▸ Occ.lt)
      have Ald : Ob Z hdn ald "java/util/ArrayList" fs_A gA := Ob.new (lds_A hw) Adn Ddn (by decide +kernel)
      refine g_dup Xdn hx (hb hby at_185) (pc' := 186) rfl rfl ?_
      refine g_callI Xdn hx hZ 2 (a := ald) hown rfl (hw _ (List.mem_of_getElem? (i := 56) rfl)) (hw _ (List.mem_of_getElem? (i := 57) rfl)) (hw _ (List.mem_of_getElem? (i := 55) rfl)) (hw _ (List.mem_of_getElem? (i := 58) rfl)) (by decide) edn (rmA l Z a0 hw ald ad gA hdn n0 Ald gad (SD.ext (ext_of_keep Knd)) (fun h' K' => SD.ext (ext_of_keep (Knd.trans K' (allS (Or.inr ga0d) all0))))) (by decide) (by decide) (by rw [hml]; rfl) (argsL := []) (rest := [(.ref ald), (.ref af)]) (lenOf pd_A rfl) rfl (Nat.le_of_eq rfl) (hb hby at_186) (pc' := 189) rfl (by decide) (by decide) rfl ?_
      rintro Tdi _ Ldi Xdi ⟨rfl, Ndi, Kdi'⟩
      show Go p e below _ (Tdi.setTop (mkF m 189 #[.val (.int p1), .val (.int p2), .val (.int p3), .val (.int p4), .val (.ref af), .val (.ref ab), .val (.int vw), .val (.int vk), .val (.int vp), .val (.int ve), .val (.int vmn), .val (.int vmx), .val (.int vu), .unset, .unset] [(.ref ald), (.ref af)]))
      have Oid := Ond.keep Kdi' (ninS nfad nin0)
      have Kid := Knd.trans Kdi' (allS (Or.inr ga0d) all0)
      have Nid := Ncc.app Ndi
      have hkid := Nat.le_trans (Nat.le_trans hkcc Edn.1) Kdi'.1
      refine g_putF Xdi hx hZ (.object "java/util/List") (host := "") hown (Or.inl (hw _ (List.mem_of_getElem? (i := 84) rfl))) Via.refl rfl (Oid.2 ("com/example/sundskrift/sundskrift/core/schema/SimpleType$Facets", "enumeration", "Ljava/util/List;") (mem_i 2 rfl)) Oid.1 (Or.inl (hw _ (List.mem_of_getElem? (i := 52) rfl))) (hw _ (List.mem_of_getElem? (i := 1) rfl)) (by decide) rfl rfl (hb hby at_189) (pc' := 192) rfl ?_
      intro Tdp hdp Xdp edp Wdp
      have Odp := Oid.put (lds_F hw) un_F de_F (mem_i 2 rfl) Wdp
      have Kdp := Kid.wr Wdp (Or.inr gf0)
      have Ndp := Fr.snoc Xdp Nid gf
      have hkdp := Nat.le_trans hkid (Nat.le_of_eq (Wr.size Wdp).symm)
      exact j_192 _ _ _ (set gcc "enumeration" (.ref ald)) (Xdp.more (by decide) (by decide)) edp Ndp Kdp hkdp Odp (by first | trivial | rfl | simpa [set] using f_whitespace) (by first | trivial | rfl | simpa [set] using f_patterns) ⟨rfl, ⟨fun z => (by cases z), fun z => absurd z hl⟩⟩ (by first | trivial | rfl | simpa [set] using f_length) (by first | trivial | rfl | simpa [set] using f_minLength) (by first | trivial | rfl | simpa [set] using f_maxLength) (by first | trivial | rfl | simpa [set] using f_minimum) (by first | trivial | rfl | simpa [set] using f_maximum) (by first | trivial | rfl | simpa [set] using f_unfollowed)
  intro Tee hee lcee gee Xee eee Nee Kee hkee Oee f_whitespace f_patterns f_enumeration f_length f_minLength f_maxLength f_minimum f_maximum f_unfollowed
  refine g_aload Xee hx (hb hby at_192) (pc' := 194) rfl rfl rfl ?_
  refine g_iloadN Xee hx (hb hby at_194) (pc' := 195) rfl rfl ?_
  refine g_putF Xee hx hZ .int (host := "") hown (Or.inl (hw _ (List.mem_of_getElem? (i := 39) rfl))) Via.refl eee (Oee.2 ("com/example/sundskrift/sundskrift/core/schema/SimpleType$Facets", "length", "I") (mem_i 3 rfl)) Oee.1 (Or.inl (hw _ (List.mem_of_getElem? (i := 10) rfl))) (hw _ (List.mem_of_getElem? (i := 1) rfl)) (by decide) rfl rfl (hb hby at_195) (pc' := 198) rfl ?_
  intro Tl1 hl1 Xl1 el1 Wl1
  have Ol1 := Oee.put (lds_F hw) un_F de_F (mem_i 3 rfl) Wl1
  have Kl1 := Kee.wr Wl1 (Or.inr gf0)
  have Nl1 := Fr.snoc Xl1 Nee gf
  have hkl1 := Nat.le_trans hkee (Nat.le_of_eq (Wr.size Wl1).symm)
  refine g_aload Xl1 hx (hb hby at_198) (pc' := 200) rfl rfl rfl ?_
  refine g_iloadN Xl1 hx (hb hby at_200) (pc' := 201) rfl rfl ?_
  refine g_putF Xl1 hx hZ .int (host := "") hown (Or.inl (hw _ (List.mem_of_getElem? (i := 40) rfl))) Via.refl el1 (Ol1.2 ("com/example/sundskrift/sundskrift/core/schema/SimpleType$Facets", "minLength", "I") (mem_i 4 rfl)) Ol1.1 (Or.inl (hw _ (List.mem_of_getElem? (i := 12) rfl))) (hw _ (List.mem_of_getElem? (i := 1) rfl)) (by decide) rfl rfl (hb hby at_201) (pc' := 204) rfl ?_
  intro Tl2 hl2 Xl2 el2 Wl2
  have Ol2 := Ol1.put (lds_F hw) un_F de_F (mem_i 4 rfl) Wl2
  have Kl2 := Kl1.wr Wl2 (Or.inr gf0)
  have Nl2 := Fr.snoc Xl2 Nl1 gf
  have hkl2 := Nat.le_trans hkl1 (Nat.le_of_eq (Wr.size Wl2).symm)
  refine g_aload Xl2 hx (hb hby at_204) (pc' := 206) rfl rfl rfl ?_
  refine g_iloadN Xl2 hx (hb hby at_206) (pc' := 207) rfl rfl ?_
  refine g_putF Xl2 hx hZ .int (host := "") hown (Or.inl (hw _ (List.mem_of_getElem? (i := 41) rfl))) Via.refl el2 (Ol2.2 ("com/example/sundskrift/sundskrift/core/schema/SimpleType$Facets", "maxLength", "I") (mem_i 5 rfl)) Ol2.1 (Or.inl (hw _ (List.mem_of_getElem? (i := 14) rfl))) (hw _ (List.mem_of_getElem? (i := 1) rfl)) (by decide) rfl rfl (hb hby at_207) (pc' := 210) rfl ?_
  intro Tl3 hl3 Xl3 el3 Wl3
  have Ol3 := Ol2.put (lds_F hw) un_F de_F (mem_i 5 rfl) Wl3
  have Kl3 := Kl2.wr Wl3 (Or.inr gf0)
  have Nl3 := Fr.snoc Xl3 Nl2 gf
  have hkl3 := Nat.le_trans hkl2 (Nat.le_of_eq (Wr.size Wl3).symm)
  refine g_iload Xl3 hx (hb hby at_210) (pc' := 212) rfl rfl ?_
  suffices j_222 : ∀ (Tj : State) (hj : Heap) (lcj : List Loc) (g : String → Value), Stand p l e room_1 (s.setVm vm1) m #[(.int p1), (.int p2), (.int p3), (.int p4)] below meth c Tj lcj 6 25 → Tj.heap = hj → Fr n0 lcj → Keep h0 hj [] → k1 ≤ hj.size → Ob Z hj af "com/example/sundskrift/sundskrift/core/schema/SimpleType$Facets" fs_F g → ((g "whitespace").isRef = true ∧ (g "whitespace" = .null ↔ vw = 0)) → ((g "patterns").isRef = true ∧ (g "patterns" = .null ↔ vp = 0)) → ((g "enumeration").isRef = true ∧ (g "enumeration" = .null ↔ ve = 0)) → (g "length" = .int p2) → (g "minLength" = .int p3) → (g "maxLength" = .int p4) → ((g "minimum").isRef = true ∧ (g "minimum" = .null ↔ vmn = 0)) → (g "maximum" = .null) → (g "unfollowed" = .int 0) → Go p e below (DnW s below (Q0 n0) 24 1152) (Tj.setTop (mkF m 222 #[.val (.int p1), .val (.int p2), .val (.int p3), .val (.int p4), .val (.ref af), .val (.ref ab), .val (.int vw), .val (.int vk), .val (.int vp), .val (.int ve), .val (.int vmn), .val (.int vmx), .val (.int vu), .unset, .unset] [])) by
    refine g_if_eq Xl3 hx (hb hby at_212) (by decide) (pc' := 222) rfl (pcF := 215) rfl (fun hl => ?_) (fun hl => ?_)
    ·
      exact j_222 _ _ _ (set (set (set gee "length" (.int p2)) "minLength" (.int p3)) "maxLength" (.int p4)) (Xl3.more (by decide) (by decide)) el3 Nl3 Kl3 hkl3 Ol3 (by first | trivial | rfl | simpa [set] using f_whitespace) (by first | trivial | rfl | simpa [set] using f_patterns) (by first | trivial | rfl | simpa [set] using f_enumeration) rfl rfl rfl ⟨by show ((set (set (set gee "length" (.int p2)) "minLength" (.int p3)) "maxLength" (.int p4)) "minimum").isRef = true; rw [show (set (set (set gee "length" (.int p2)) "minLength" (.int p3)) "maxLength" (.int p4)) "minimum" = .null from by simpa [set] using f_minimum]; rfl, ⟨fun _ => hl, fun _ => by simpa [set] using f_minimum⟩⟩ (by first | trivial | rfl | simpa [set] using f_maximum) (by first | trivial | rfl | simpa [set] using f_unfollowed)
    ·
      refine g_aload Xl3 hx (hb hby at_215) (pc' := 217) rfl rfl rfl ?_
      refine g_aload Xl3 hx (hb hby at_217) (pc' := 219) rfl rfl rfl ?_
      refine g_putF Xl3 hx hZ (.object "com/example/sundskrift/sundskrift/core/schema/SimpleType$Bound") (host := "") hown (Or.inl (hw _ (List.mem_of_getElem? (i := 85) rfl))) Via.refl el3 (Ol3.2 ("com/example/sundskrift/sundskrift/core/schema/SimpleType$Facets", "minimum", "Lcom/example/sundskrift/sundskrift/core/schema/SimpleType$Bound;") (mem_i 6 rfl)) Ol3.1 (Or.inl (hw _ (List.mem_of_getElem? (i := 86) rfl))) (hw _ (List.mem_of_getElem? (i := 1) rfl)) (by decide) rfl rfl (hb hby at_219) (pc' := 222) rfl ?_
      intro Tmp hmp Xmp emp Wmp
      have Omp := Ol3.put (lds_F hw) un_F de_F (mem_i 6 rfl) Wmp
      have Kmp := Kl3.wr Wmp (Or.inr gf0)
      have Nmp := Fr.snoc Xmp Nl3 gf
      have hkmp := Nat.le_trans hkl3 (Nat.le_of_eq (Wr.size Wmp).symm)
      exact j_222 _ _ _ (set (set (set (set gee "length" (.int p2)) "minLength" (.int p3)) "maxLength" (.int p4)) "minimum" (.ref ab)) (Xmp.more (by decide) (by decide)) emp Nmp Kmp hkmp Omp (by first | trivial | rfl | simpa [set] using f_whitespace) (by first | trivial | rfl | simpa [set] using f_patterns) (by first | trivial | rfl | simpa [set] using f_enumeration) rfl rfl rfl ⟨rfl, ⟨fun z => (by cases z), fun z => absurd z hl⟩⟩ (by first | trivial | rfl | simpa [set] using f_maximum) (by first | trivial | rfl | simpa [set] using f_unfollowed)
  intro Tff hff lcff gff Xff eff Nff Kff hkff Off f_whitespace f_patterns f_enumeration f_length f_minLength f_maxLength f_minimum f_maximum f_unfollowed
  refine g_iload Xff hx (hb hby at_222) (pc' := 224) rfl rfl ?_
  suffices j_234 : ∀ (Tj : State) (hj : Heap) (lcj : List Loc) (g : String → Value), Stand p l e room_1 (s.setVm vm1) m #[(.int p1), (.int p2), (.int p3), (.int p4)] below meth c Tj lcj 6 25 → Tj.heap = hj → Fr n0 lcj → Keep h0 hj [] → k1 ≤ hj.size → Ob Z hj af "com/example/sundskrift/sundskrift/core/schema/SimpleType$Facets" fs_F g → ((g "whitespace").isRef = true ∧ (g "whitespace" = .null ↔ vw = 0)) → ((g "patterns").isRef = true ∧ (g "patterns" = .null ↔ vp = 0)) → ((g "enumeration").isRef = true ∧ (g "enumeration" = .null ↔ ve = 0)) → (g "length" = .int p2) → (g "minLength" = .int p3) → (g "maxLength" = .int p4) → ((g "minimum").isRef = true ∧ (g "minimum" = .null ↔ vmn = 0)) → ((g "maximum").isRef = true ∧ (g "maximum" = .null ↔ vmx = 0)) → (g "unfollowed" = .int 0) → Go p e below (DnW s below (Q0 n0) 24 1152) (Tj.setTop (mkF m 234 #[.val (.int p1), .val (.int p2), .val (.int p3), .val (.int p4), .val (.ref af), .val (.ref ab), .val (.int vw), .val (.int vk), .val (.int vp), .val (.int ve), .val (.int vmn), .val (.int vmx), .val (.int vu), .unset, .unset] [])) by
    refine g_if_eq Xff hx (hb hby at_224) (by decide) (pc' := 234) rfl (pcF := 227) rfl (fun hl => ?_) (fun hl => ?_)
    ·
      exact j_234 _ _ _ gff (Xff.more (by decide) (by decide)) eff Nff Kff hkff Off (by first | trivial | rfl | simpa [set] using f_whitespace) (by first | trivial | rfl | simpa [set] using f_patterns) (by first | trivial | rfl | simpa [set] using f_enumeration) (by first | trivial | rfl | simpa [set] using f_length) (by first | trivial | rfl | simpa [set] using f_minLength) (by first | trivial | rfl | simpa [set] using f_maxLength) (by first | trivial | rfl | simpa [set] using f_minimum) ⟨by show (gff "maximum").isRef = true; rw [show gff "maximum" = .null from by simpa [set] using f_maximum]; rfl, ⟨fun _ => hl, fun _ => by simpa [set] using f_maximum⟩⟩ (by first | trivial | rfl | simpa [set] using f_unfollowed)
    ·
      refine g_aload Xff hx (hb hby at_227) (pc' := 229) rfl rfl rfl ?_
      refine g_aload Xff hx (hb hby at_229) (pc' := 231) rfl rfl rfl ?_
      refine g_putF Xff hx hZ (.object "com/example/sundskrift/sundskrift/core/schema/SimpleType$Bound") (host := "") hown (Or.inl (hw _ (List.mem_of_getElem? (i := 82) rfl))) Via.refl eff (Off.2 ("com/example/sundskrift/sundskrift/core/schema/SimpleType$Facets", "maximum", "Lcom/example/sundskrift/sundskrift/core/schema/SimpleType$Bound;") (mem_i 7 rfl)) Off.1 (Or.inl (hw _ (List.mem_of_getElem? (i := 83) rfl))) (hw _ (List.mem_of_getElem? (i := 1) rfl)) (by decide) rfl rfl (hb hby at_231) (pc' := 234) rfl ?_
      intro Tnp hnp Xnp enp Wnp
      have Onp := Off.put (lds_F hw) un_F de_F (mem_i 7 rfl) Wnp
      have Knp := Kff.wr Wnp (Or.inr gf0)
      have Nnp := Fr.snoc Xnp Nff gf
      have hknp := Nat.le_trans hkff (Nat.le_of_eq (Wr.size Wnp).symm)
      exact j_234 _ _ _ (set gff "maximum" (.ref ab)) (Xnp.more (by decide) (by decide)) enp Nnp Knp hknp Onp (by first | trivial | rfl | simpa [set] using f_whitespace) (by first | trivial | rfl | simpa [set] using f_patterns) (by first | trivial | rfl | simpa [set] using f_enumeration) (by first | trivial | rfl | simpa [set] using f_length) (by first | trivial | rfl | simpa [set] using f_minLength) (by first | trivial | rfl | simpa [set] using f_maxLength) (by first | trivial | rfl | simpa [set] using f_minimum) ⟨rfl, ⟨fun z => (by cases z), fun z => absurd z hl⟩⟩ (by first | trivial | rfl | simpa [set] using f_unfollowed)
  intro Tgg hgg lcgg ggg Xgg egg Ngg Kgg hkgg Ogg f_whitespace f_patterns f_enumeration f_length f_minLength f_maxLength f_minimum f_maximum f_unfollowed
  refine g_iload Xgg hx (hb hby at_234) (pc' := 236) rfl rfl ?_
  suffices j_245 : ∀ (Tj : State) (hj : Heap) (lcj : List Loc) (g : String → Value), Stand p l e room_1 (s.setVm vm1) m #[(.int p1), (.int p2), (.int p3), (.int p4)] below meth c Tj lcj 6 25 → Tj.heap = hj → Fr n0 lcj → Keep h0 hj [] → k1 ≤ hj.size → Ob Z hj af "com/example/sundskrift/sundskrift/core/schema/SimpleType$Facets" fs_F g → ((g "whitespace").isRef = true ∧ (g "whitespace" = .null ↔ vw = 0)) → ((g "patterns").isRef = true ∧ (g "patterns" = .null ↔ vp = 0)) → ((g "enumeration").isRef = true ∧ (g "enumeration" = .null ↔ ve = 0)) → (g "length" = .int p2) → (g "minLength" = .int p3) → (g "maxLength" = .int p4) → ((g "minimum").isRef = true ∧ (g "minimum" = .null ↔ vmn = 0)) → ((g "maximum").isRef = true ∧ (g "maximum" = .null ↔ vmx = 0)) → (g "unfollowed" = .int vu) → Go p e below (DnW s below (Q0 n0) 24 1152) (Tj.setTop (mkF m 245 #[.val (.int p1), .val (.int p2), .val (.int p3), .val (.int p4), .val (.ref af), .val (.ref ab), .val (.int vw), .val (.int vk), .val (.int vp), .val (.int ve), .val (.int vmn), .val (.int vmx), .val (.int vu), .unset, .unset] [])) by
    refine g_if_eq Xgg hx (hb hby at_236) (by decide) (pc' := 245) rfl (pcF := 239) rfl (fun hl => ?_) (fun hl => ?_)
    ·
      exact j_245 _ _ _ ggg (Xgg.more (by decide) (by decide)) egg Ngg Kgg hkgg Ogg (by first | trivial | rfl | simpa [set] using f_whitespace) (by first | trivial | rfl | simpa [set] using f_patterns) (by first | trivial | rfl | simpa [set] using f_enumeration) (by first | trivial | rfl | simpa [set] using f_length) (by first | trivial | rfl | simpa [set] using f_minLength) (by first | trivial | rfl | simpa [set] using f_maxLength) (by first | trivial | rfl | simpa [set] using f_minimum) (by first | trivial | rfl | simpa [set] using f_maximum) (f_unfollowed.trans (congrArg Value.int hl.symm))
    ·
      refine g_aload Xgg hx (hb hby at_239) (pc' := 241) rfl rfl rfl ?_
      refine g_iconst Xgg hx (hb hby at_241) (pc' := 242) rfl (z := 1) (by decide) ?_
      refine g_putF Xgg hx hZ .boolean (host := "") hown (Or.inl (hw _ (List.mem_of_getElem? (i := 87) rfl))) Via.refl egg (Ogg.2 ("com/example/sundskrift/sundskrift/core/schema/SimpleType$Facets", "unfollowed", "Z") (mem_i 8 rfl)) Ogg.1 (Or.inl (hw _ (List.mem_of_getElem? (i := 88) rfl))) (hw _ (List.mem_of_getElem? (i := 1) rfl)) (by decide) rfl rfl (hb hby at_242) (pc' := 245) rfl ?_
      intro Top hop Xop eop Wop
      have Oop := Ogg.put (lds_F hw) un_F de_F (mem_i 8 rfl) Wop
      have Kop := Kgg.wr Wop (Or.inr gf0)
      have Nop := Fr.snoc Xop Ngg gf
      have hkop := Nat.le_trans hkgg (Nat.le_of_eq (Wr.size Wop).symm)
      exact j_245 _ _ _ (set ggg "unfollowed" (.int 1)) (Xop.more (by decide) (by decide)) eop Nop Kop hkop Oop (by first | trivial | rfl | simpa [set] using f_whitespace) (by first | trivial | rfl | simpa [set] using f_patterns) (by first | trivial | rfl | simpa [set] using f_enumeration) (by first | trivial | rfl | simpa [set] using f_length) (by first | trivial | rfl | simpa [set] using f_minLength) (by first | trivial | rfl | simpa [set] using f_maxLength) (by first | trivial | rfl | simpa [set] using f_minimum) (by first | trivial | rfl | simpa [set] using f_maximum) (congrArg Value.int (qu.resolve_left hl).symm)
  intro Thh hhh lchh ghh Xhh ehh Nhh Khh hkhh Ohh f_whitespace f_patterns f_enumeration f_length f_minLength f_maxLength f_minimum f_maximum f_unfollowed
  refine g_iloadN Xhh hx (hb hby at_245) (pc' := 246) rfl rfl ?_
  suffices j_262 : ∀ vl : Int32, ((vl = 1 ∧ p2 < 0 ∧ p3 < 0 ∧ p4 < 0) ∨ (vl = 0 ∧ ¬ (p2 < 0 ∧ p3 < 0 ∧ p4 < 0))) → Go p e below (DnW s below (Q0 n0) 24 1152) (Thh.setTop (mkF m 262 #[.val (.int p1), .val (.int p2), .val (.int p3), .val (.int p4), .val (.ref af), .val (.ref ab), .val (.int vw), .val (.int vk), .val (.int vp), .val (.int ve), .val (.int vmn), .val (.int vmx), .val (.int vu), .unset, .unset] [(.int vl)])) by
    refine g_if_ge Xhh hx (hb hby at_246) (by decide) (pc' := 261) rfl (pcF := 249) rfl (fun z1 => ?_) (fun z1 => ?_)
    ·
      refine g_iconst Xhh hx (hb hby at_261) (pc' := 262) rfl (z := 0) (by decide) ?_
      exact j_262 0 (Or.inr ⟨rfl, fun q => z1 q.1⟩)
    refine g_iloadN Xhh hx (hb hby at_249) (pc' := 250) rfl rfl ?_
    refine g_if_ge Xhh hx (hb hby at_250) (by decide) (pc' := 261) rfl (pcF := 253) rfl (fun z2 => ?_) (fun z2 => ?_)
    ·
      refine g_iconst Xhh hx (hb hby at_261) (pc' := 262) rfl (z := 0) (by decide) ?_
      exact j_262 0 (Or.inr ⟨rfl, fun q => z2 q.2.1⟩)
    refine g_iloadN Xhh hx (hb hby at_253) (pc' := 254) rfl rfl ?_
    refine g_if_ge Xhh hx (hb hby at_254) (by decide) (pc' := 261) rfl (pcF := 257) rfl (fun z3 => ?_) (fun z3 => ?_)
    ·
      refine g_iconst Xhh hx (hb hby at_261) (pc' := 262) rfl (z := 0) (by decide) ?_
      exact j_262 0 (Or.inr ⟨rfl, fun q => z3 q.2.2⟩)
    refine g_iconst Xhh hx (hb hby at_257) (pc' := 258) rfl (z := 1) (by decide) ?_
    refine g_goto Xhh hx (hb hby at_258) (by decide) (pc' := 262) rfl ?_
    exact j_262 1 (Or.inl ⟨rfl, z1, z2, z3⟩)
  intro vl ql
  refine g_istore Xhh hx (hb hby at_262) (pc' := 264) rfl (Ls' := #[.val (.int p1), .val (.int p2), .val (.int p3), .val (.int p4), .val (.ref af), .val (.ref ab), .val (.int vw), .val (.int vk), .val (.int vp), .val (.int ve), .val (.int vmn), .val (.int vmx), .val (.int vu), .val (.int vl), .unset]) rfl ?_
  refine g_iload Xhh hx (hb hby at_264) (pc' := 266) rfl rfl ?_
  suffices j_304 : ∀ vx : Int32, ((vx = 1 ∧ (vw = 0 ∧ vp = 0 ∧ ve = 0 ∧ (p2 < 0 ∧ p3 < 0 ∧ p4 < 0) ∧ vmn = 0 ∧ vmx = 0 ∧ vu = 0)) ∨ (vx = 0 ∧ ¬ (vw = 0 ∧ vp = 0 ∧ ve = 0 ∧ (p2 < 0 ∧ p3 < 0 ∧ p4 < 0) ∧ vmn = 0 ∧ vmx = 0 ∧ vu = 0))) → Go p e below (DnW s below (Q0 n0) 24 1152) (Thh.setTop (mkF m 304 #[.val (.int p1), .val (.int p2), .val (.int p3), .val (.int p4), .val (.ref af), .val (.ref ab), .val (.int vw), .val (.int vk), .val (.int vp), .val (.int ve), .val (.int vmn), .val (.int vmx), .val (.int vu), .val (.int vl), .unset] [(.int vx)])) by
    refine g_if_ne Xhh hx (hb hby at_266) (by decide) (pc' := 303) rfl (pcF := 269) rfl (fun y0 => ?_) (fun y0 => ?_)
    ·
      refine g_iconst Xhh hx (hb hby at_303) (pc' := 304) rfl (z := 0) (by decide) ?_
      exact j_304 0 (Or.inr ⟨rfl, fun q => y0 q.1⟩)
    refine g_iload Xhh hx (hb hby at_269) (pc' := 271) rfl rfl ?_
    refine g_if_ne Xhh hx (hb hby at_271) (by decide) (pc' := 303) rfl (pcF := 274) rfl (fun y1 => ?_) (fun y1 => ?_)
    ·
      refine g_iconst Xhh hx (hb hby at_303) (pc' := 304) rfl (z := 0) (by decide) ?_
      exact j_304 0 (Or.inr ⟨rfl, fun q => y1 q.2.1⟩)
    refine g_iload Xhh hx (hb hby at_274) (pc' := 276) rfl rfl ?_
    refine g_if_ne Xhh hx (hb hby at_276) (by decide) (pc' := 303) rfl (pcF := 279) rfl (fun y2 => ?_) (fun y2 => ?_)
    ·
      refine g_iconst Xhh hx (hb hby at_303) (pc' := 304) rfl (z := 0) (by decide) ?_
      exact j_304 0 (Or.inr ⟨rfl, fun q => y2 q.2.2.1⟩)
    refine g_iload Xhh hx (hb hby at_279) (pc' := 281) rfl rfl ?_
    refine g_if_eq Xhh hx (hb hby at_281) (by decide) (pc' := 303) rfl (pcF := 284) rfl (fun y3 => ?_) (fun y3 => ?_)
    ·
      refine g_iconst Xhh hx (hb hby at_303) (pc' := 304) rfl (z := 0) (by decide) ?_
      exact j_304 0 (Or.inr ⟨rfl, fun q => by rcases ql with ⟨r, -⟩ | ⟨-, r⟩ <;> first | exact r q.2.2.2.1 | (rw [r] at y3; exact absurd y3 (by decide))⟩)
    refine g_iload Xhh hx (hb hby at_284) (pc' := 286) rfl rfl ?_
    refine g_if_ne Xhh hx (hb hby at_286) (by decide) (pc' := 303) rfl (pcF := 289) rfl (fun y4 => ?_) (fun y4 => ?_)
    ·
      refine g_iconst Xhh hx (hb hby at_303) (pc' := 304) rfl (z := 0) (by decide) ?_
      exact j_304 0 (Or.inr ⟨rfl, fun q => y4 q.2.2.2.2.1⟩)
    refine g_iload Xhh hx (hb hby at_289) (pc' := 291) rfl rfl ?_
    refine g_if_ne Xhh hx (hb hby at_291) (by decide) (pc' := 303) rfl (pcF := 294) rfl (fun y5 => ?_) (fun y5 => ?_)
    ·
      refine g_iconst Xhh hx (hb hby at_303) (pc' := 304) rfl (z := 0) (by decide) ?_
      exact j_304 0 (Or.inr ⟨rfl, fun q => y5 q.2.2.2.2.2.1⟩)
    refine g_iload Xhh hx (hb hby at_294) (pc' := 296) rfl rfl ?_
    refine g_if_ne Xhh hx (hb hby at_296) (by decide) (pc' := 303) rfl (pcF := 299) rfl (fun y6 => ?_) (fun y6 => ?_)
    ·
      refine g_iconst Xhh hx (hb hby at_303) (pc' := 304) rfl (z := 0) (by decide) ?_
      exact j_304 0 (Or.inr ⟨rfl, fun q => y6 q.2.2.2.2.2.2⟩)
    refine g_iconst Xhh hx (hb hby at_299) (pc' := 300) rfl (z := 1) (by decide) ?_
    refine g_goto Xhh hx (hb hby at_300) (by decide) (pc' := 304) rfl ?_
    exact j_304 1 (Or.inl ⟨rfl, y0, y1, y2, (ql.resolve_right (fun z => y3 z.1)).2, y4, y5, y6⟩)
  intro vx qx
  refine g_istore Xhh hx (hb hby at_304) (pc' := 306) rfl (Ls' := #[.val (.int p1), .val (.int p2), .val (.int p3), .val (.int p4), .val (.ref af), .val (.ref ab), .val (.int vw), .val (.int vk), .val (.int vp), .val (.int ve), .val (.int vmn), .val (.int vmx), .val (.int vu), .val (.int vl), .val (.int vx)]) rfl ?_
  refine g_aload Xhh hx (hb hby at_306) (pc' := 308) rfl rfl rfl ?_
  refine g_callV Xhh hx hZ 0 hown (hw _ (List.mem_of_getElem? (i := 42) rfl)) (hw _ (List.mem_of_getElem? (i := 43) rfl)) (hw _ (List.mem_of_getElem? (i := 45) rfl)) (hw _ (List.mem_of_getElem? (i := 44) rfl)) (hw _ (List.mem_of_getElem? (i := 46) rfl)) (hw _ (List.mem_of_getElem? (i := 2) rfl)) (by decide) ehh Ohh.1 (rmN l Z a0 hw af ghh p2 p3 p4 vu hhh n0 Ohh f_whitespace.1 f_patterns.1 f_enumeration.1 f_length f_minLength f_maxLength f_minimum.1 f_maximum.1 f_unfollowed) (by decide) (by decide) (by rw [hml]; rfl) (argsL := []) (rest := []) (lenOf pd_N rfl) rfl (Nat.le_of_eq rfl) (hb hby at_308) (pc' := 311) rfl (by decide) (by decide) rfl ?_
  rintro Tz _ Lz Xz ⟨Mz, ez, z, rfl, cz⟩
  show Go p e below _ (Tz.setTop (mkF m 311 #[.val (.int p1), .val (.int p2), .val (.int p3), .val (.int p4), .val (.ref af), .val (.ref ab), .val (.int vw), .val (.int vk), .val (.int vp), .val (.int ve), .val (.int vmn), .val (.int vmx), .val (.int vu), .val (.int vl), .val (.int vx)] [(.int z)]))
  have dz : z = vx := by
    have hiff : All9 ghh p2 p3 p4 vu ↔ (vw = 0 ∧ vp = 0 ∧ ve = 0 ∧ (p2 < 0 ∧ p3 < 0 ∧ p4 < 0) ∧ vmn = 0 ∧ vmx = 0 ∧ vu = 0) := by
      constructor
      · rintro ⟨q1, q2, q3, q4, q5, q6, q7, q8, q9⟩
        exact ⟨f_whitespace.2.mp q1, f_patterns.2.mp q2, f_enumeration.2.mp q3, ⟨q4, q5, q6⟩, f_minimum.2.mp q7, f_maximum.2.mp q8, q9⟩
      · rintro ⟨q1, q2, q3, ⟨q4, q5, q6⟩, q7, q8, q9⟩
        exact ⟨f_whitespace.2.mpr q1, f_patterns.2.mpr q2, f_enumeration.2.mpr q3, q4, q5, q6, f_minimum.2.mpr q7, f_maximum.2.mpr q8, q9⟩
    rw [hiff] at cz
    rcases cz with ⟨rfl, q⟩ | ⟨rfl, q⟩ <;> rcases qx with ⟨rfl, r⟩ | ⟨rfl, r⟩ <;> first | rfl | exact absurd q r | exact absurd r q
  refine g_iload Xz hx (hb hby at_311) (pc' := 313) rfl rfl ?_
  refine g_icmp_ne Xz hx (hb hby at_313) (by decide) (pc' := 320) rfl (pcF := 316) rfl (fun hq => ?_) (fun hq => ?_)
  · exact absurd dz hq
  refine g_iconst Xz hx (hb hby at_316) (pc' := 317) rfl (z := 1) (by decide) ?_
  refine g_goto Xz hx (hb hby at_317) (by decide) (pc' := 321) rfl ?_
  exact g_retWZ Xz hx hS (Nat.le_trans hkhh (Nat.le_of_eq (by rw [ez]))) hret hlk (by decide) (hb hby at_321) (by decide) (by decide) ⟨rfl, Nhh.app Mz⟩
set_option maxRecDepth 65536 in
set_option maxHeartbeats 40000000 in
theorem comes_1 {Post : Tables → Env → Array Value → State → Outcome → State → Prop} (hpost : ∀ tb e args s v u, (limb_1_1.after args s (.returned v) u = true ∧ limb_1_2.after args s (.returned v) u = true ∧ True) → ReturnedEndW s (.returned v) u (Jvm.fieldLocs frame_1_writes args s ++ Jvm.arrayLocs frame_1_arrays args s ++ Jvm.staticLocs frame_1_statics s) 24 1152 → Post tb e args s (.returned v) u) :
    ArmFor flags0 classFile x code maxLocals ret World_1 tables_1 room_1 Calls_1 rest_1 Pre_1 Post := by
  intro l hfl _ _ p e ha hc hk s m args below hf hA hF happ hP
  obtain ⟨hcalls, hrest, hpre⟩ := hP
  obtain ⟨-, -, -, hnamed, -, -, -, hat⟩ := (Spec.applies_iff hf).mp happ
  obtain ⟨hg, hn⟩ := and_e (Cond.before_iff.mp (show (Jvm.Cond.and given_1 narrow_1).before args s = true from hpre))
  obtain ⟨hcount, k0⟩ := and_e hg
  obtain ⟨j0, k1⟩ := and_e k0
  obtain ⟨j1, k2⟩ := and_e k1
  obtain ⟨j2, k3⟩ := and_e k2
  have j3 := k3
  obtain ⟨w0, w1, w2, w3, rfl⟩ : ∃ w0 w1 w2 w3 : Value, args = #[w0, w1, w2, w3] := by
    have hs : args.size = 4 := by simpa [Cond.value, given_1] using hcount
    obtain ⟨L⟩ := args
    match L, hs with
    | [w0, w1, w2, w3], _ => exact ⟨w0, w1, w2, w3, rfl⟩
  have hw := fun d (hd : d ∈ tables_1) => atoms_spec (ws := Jvm.Cond.code x code maxLocals ret :: tables_1) hat d (List.mem_cons_of_mem _ hd)
  obtain ⟨i0, e0⟩ := is_v j0
  obtain rfl : w0 = (.int i0) := Option.some.inj e0
  obtain ⟨i1, e1⟩ := is_v j1
  obtain rfl : w1 = (.int i1) := Option.some.inj e1
  obtain ⟨i2, e2⟩ := is_v j2
  obtain rfl : w2 = (.int i2) := Option.some.inj e2
  obtain ⟨i3, e3⟩ := is_v j3
  obtain rfl : w3 = (.int i3) := Option.some.inj e3
  obtain ⟨n1, n23⟩ := and_e hn
  obtain ⟨n2, n3⟩ := and_e n23
  obtain ⟨s3, _, _, _, evC, -⟩ := Cond.exactly_spec (Cond.before_iff.mpr n1)
  have S3 := Sta.start evC (Or.inr ⟨(hw _ (List.mem_of_getElem? (i := 79) rfl)), (hw _ (List.mem_of_getElem? (i := 80) rfl))⟩)
  obtain ⟨s1, _, _, _, evP, -⟩ := Cond.exactly_spec (Cond.before_iff.mpr n2)
  have S1 := Sta.start evP (Or.inr ⟨(hw _ (List.mem_of_getElem? (i := 79) rfl)), (hw _ (List.mem_of_getElem? (i := 90) rfl))⟩)
  obtain ⟨s2, _, _, _, evR, -⟩ := Cond.exactly_spec (Cond.before_iff.mpr n3)
  have S2 := Sta.start evR (Or.inr ⟨(hw _ (List.mem_of_getElem? (i := 79) rfl)), (hw _ (List.mem_of_getElem? (i := 92) rfl))⟩)
  have hjs := atoms_of jdkStatics_1 (show (jdkStatics_1.foldr Cond.and restOwn_1).before _ s = true from hrest)
  obtain ⟨ad, _, _, _, evD, -⟩ := Cond.exactly_spec (hjs.1 _ (List.mem_of_getElem? (i := 7) rfl))
  have SD := Sta.start evD (Or.inr ⟨(hw _ (List.mem_of_getElem? (i := 55) rfl)), (hjs.1 _ (List.mem_of_getElem? (i := 2) rfl))⟩)
  obtain ⟨n, o, h1, h2, h3, _, L, rfl, ⟨rfl, N⟩, hq⟩ := rm0 l s _ hw i0 i1 i2 i3 s1 s2 s3 ad s.heap s.heap.size (Nat.le_refl _) S1 S2 S3 SD tables_1 p e ha hc hk s m _ below hf ((Spec.applies_iff_loose hf).mp happ).1 ⟨rfl, State.Warmed39.refl s, rfl⟩ trivial
  refine ⟨n, _, h1, h2, h3, hpost _ _ _ _ _ _ ⟨Cond.after_iff.mpr rfl, Cond.after_iff.mpr (eq_i res_at (Term.int_eval (1)) rfl), trivial⟩ ⟨hq.1, hq.2.1, hq.2.2.1, (hq.2.2.2.sift fun y hy => Or.inr (N y hy)).mono (by decide) (by decide)⟩⟩
theorem main_1_1 : Claimed_1_1 := comes_1 fun _ _ _ _ _ _ h hF => ⟨h.1, hF⟩
theorem main_1_2 : Claimed_1_2 := comes_1 fun _ _ _ _ _ _ h hF => ⟨h.2.1, hF⟩
end Jvm.Pilot.@@N@@
namespace Jvm.Pilot.@@N@@
open Jvm Jvm.ClassFile Sem Op Lib Jvm.Free Jvm.Stand Jvm.Pilot.@@N@@.Jvm.D
/-! MADE BY PROGRAM (witnessworld.py) out of the Statement's table words and the real class files: 27 classes; the members and pool entries that the words name. The judged class is class 1, her method 1. -/
namespace start1
open Jvm.ClassFile
def u (s : String) : CpInfo := .utf8 (stringToUtf16 s)
/-- a pool by its gaps: so many unusable entries, then the entry; so many at the end -/
def gap : Nat → List CpInfo → List CpInfo
  | 0, r => r
  | n + 1, r => .unusable :: gap n r
def poolList (es : List (Nat × CpInfo)) (last : Nat) : List CpInfo := es.foldr (fun e r => gap e.1 (e.2 :: r)) (gap last [])
def pool (es : List (Nat × CpInfo)) (last : Nat) : Array CpInfo := ⟨poolList es last⟩
def fileOf (pool : Array CpInfo) (this : Nat) (attrs : Array Attribute := #[]) (ms : Array MethodInfo := #[]) (fl : Nat := 33) (sup : Nat := 0) (ifs : Array Nat := #[]) (fds : Array FieldInfo := #[]) : ClassFile where
  minorVersion := 0
  majorVersion := 65
  constantPool := pool
  accessFlags := fl
  thisClass := this
  superClass := sup
  interfaces := ifs
  fields := fds
  methods := ms
  attributes := attrs
def plain (name : String) (sup : Option ClassId) : Class where
  name := name
  kind := .ordinary
  loader := none
  accessFlags := 33
  super := sup
  interfaces := #[]
  cf := none
  fields := #[]
  methods := #[]
  instanceTypes := #[]
  staticTypes := #[]
  resolved := #[]
  callSites := []
  init := .initialized
  statics := none
  mirror := none

def pool0 : Array CpInfo := pool [(5, u "<init>"), (0, u "()V"), (1, .class_ 10), (1, u "java/lang/Object")] 113

def k0c0 : Code := { maxStack := 0, maxLocals := 1, code := object_method_1_code, exceptionTable := #[], attributes := #[] }
def k0m0 : Method := { name := "<init>", desc := "()V", sig := { parameters := [], returnType := none }, accessFlags := 1, code := some k0c0 }
/-- java/lang/Object -/
def k0 : Class := { plain "java/lang/Object" none with
  accessFlags := 33
  interfaces := #[]
  cf := some (fileOf pool0 8 #[] #[{ accessFlags := 1, nameIndex := 5, descriptorIndex := 6, attributes := #[] }] 33 0 #[] #[])
  fields := #[]
  methods := #[k0m0]
  instanceTypes := #[]
  staticTypes := #[]
  resolved := Array.replicate 124 none
  statics := none }

def pool1 : Array CpInfo := pool [(2, .class_ 4), (0, .nameAndType 5 6), (0, u "java/lang/Object"), (0, u "<init>"), (0, u "()V"), (0, .class_ 8), (0, u "com/example/sundskrift/sundskrift/core/schema/SimpleType$Facets"), (0, .methodref 7 3), (0, .class_ 11), (0, u "com/example/sundskrift/sundskrift/core/schema/SimpleType$Bound"), (0, .string 13), (0, u "0"), (0, .methodref 10 15), (0, .nameAndType 5 16), (0, u "(Ljava/lang/String;Z)V"), (0, .fieldref 18 19), (0, .class_ 20), (0, .nameAndType 21 22), (0, u "com/example/sundskrift/sundskrift/core/schema/SimpleType$Whitespace"), (0, u "PRESERVE"), (0, u "Lcom/example/sundskrift/sundskrift/core/schema/SimpleType$Whitespace;"), (0, .fieldref 7 24), (0, .nameAndType 25 22), (0, u "whitespace"), (0, .fieldref 18 27), (0, .nameAndType 28 22), (0, u "REPLACE"), (0, .fieldref 18 30), (0, .nameAndType 31 22), (0, u "COLLAPSE"), (0, .class_ 33), (0, u "java/util/ArrayList"), (0, .methodref 32 3), (0, .fieldref 7 36), (0, .nameAndType 37 38), (0, u "patterns"), (0, u "Ljava/util/List;"), (0, .fieldref 7 40), (0, .nameAndType 41 38), (0, u "enumeration"), (0, .fieldref 7 43), (0, .nameAndType 44 45), (0, u "length"), (0, u "I"), (0, .fieldref 7 47), (0, .nameAndType 48 45), (0, u "minLength"), (0, .fieldref 7 50), (0, .nameAndType 51 45), (0, u "maxLength"), (0, .fieldref 7 53), (0, .nameAndType 54 55), (0, u "minimum"), (0, u "Lcom/example/sundskrift/sundskrift/core/schema/SimpleType$Bound;"), (0, .fieldref 7 57), (0, .nameAndType 58 55), (0, u "maximum"), (0, .fieldref 7 60), (0, .nameAndType 61 62), (0, u "unfollowed"), (0, u "Z"), (0, .methodref 7 64), (0, .nameAndType 65 66), (0, u "none"), (0, u "()Z"), (0, .class_ 68), (0, u "com/example/sundskrift/sundskrift/core/schema/FacetsNonePinLaw"), (2, u "law"), (0, u "(IIII)Z")] 9

def k1m0 : Method := { name := "<init>", desc := "()V", sig := { parameters := [], returnType := none }, accessFlags := 2, code := none }
def k1c1 : Code := { maxStack := 4, maxLocals := 15, code := code, exceptionTable := #[], attributes := #[] }
def k1m1 : Method := { name := "law", desc := "(IIII)Z", sig := { parameters := [.int, .int, .int, .int], returnType := some .boolean }, accessFlags := 9, code := some k1c1 }
/-- com/example/sundskrift/sundskrift/core/schema/FacetsNonePinLaw -/
def k1 : Class := { plain "com/example/sundskrift/sundskrift/core/schema/FacetsNonePinLaw" (some 0) with
  accessFlags := 49
  interfaces := #[]
  cf := some (fileOf pool1 67 #[] #[{ accessFlags := 2, nameIndex := 5, descriptorIndex := 6, attributes := #[] }, { accessFlags := 9, nameIndex := 71, descriptorIndex := 72, attributes := #[] }] 49 2 #[] #[])
  fields := #[]
  methods := #[k1m0, k1m1]
  instanceTypes := #[]
  staticTypes := #[]
  resolved := Array.replicate 82 none
  statics := none }

def pool2 : Array CpInfo := pool [(1, .methodref 2 3), (0, .class_ 4), (0, .nameAndType 5 6), (0, u "java/lang/Object"), (0, u "<init>"), (0, u "()V"), (0, .fieldref 8 9), (0, .class_ 10), (0, .nameAndType 11 12), (0, u "com/example/sundskrift/sundskrift/core/schema/SimpleType$Facets"), (0, u "length"), (0, u "I"), (0, .fieldref 8 14), (0, .nameAndType 15 12), (0, u "minLength"), (0, .fieldref 8 17), (0, .nameAndType 18 12), (0, u "maxLength"), (0, .fieldref 8 20), (0, .nameAndType 21 22), (0, u "unfollowed"), (0, u "Z"), (0, .fieldref 8 24), (0, .nameAndType 25 26), (0, u "whitespace"), (0, u "Lcom/example/sundskrift/sundskrift/core/schema/SimpleType$Whitespace;"), (0, .fieldref 8 28), (0, .nameAndType 29 30), (0, u "patterns"), (0, u "Ljava/util/List;"), (0, .fieldref 8 32), (0, .nameAndType 33 30), (0, u "enumeration"), (0, .fieldref 8 35), (0, .nameAndType 36 37), (0, u "minimum"), (0, u "Lcom/example/sundskrift/sundskrift/core/schema/SimpleType$Bound;"), (0, .fieldref 8 39), (0, .nameAndType 40 37), (0, u "maximum"), (6, u "()Z"), (1, u "none"), (3, .class_ 54), (0, u "com/example/sundskrift/sundskrift/core/schema/SimpleType")] 8

def k2c0 : Code := { maxStack := 2, maxLocals := 1, code := prog_104_method_1_code, exceptionTable := #[], attributes := #[] }
def k2m0 : Method := { name := "<init>", desc := "()V", sig := { parameters := [], returnType := none }, accessFlags := 0, code := some k2c0 }
def k2c1 : Code := { maxStack := 1, maxLocals := 1, code := prog_104_method_3_code, exceptionTable := #[], attributes := #[] }
def k2m1 : Method := { name := "none", desc := "()Z", sig := { parameters := [], returnType := some .boolean }, accessFlags := 0, code := some k2c1 }
/-- com/example/sundskrift/sundskrift/core/schema/SimpleType$Facets -/
def k2 : Class := { plain "com/example/sundskrift/sundskrift/core/schema/SimpleType$Facets" (some 0) with
  accessFlags := 48
  interfaces := #[]
  cf := some (fileOf pool2 8 #[.nestHost 53] #[{ accessFlags := 0, nameIndex := 5, descriptorIndex := 6, attributes := #[] }, { accessFlags := 0, nameIndex := 49, descriptorIndex := 47, attributes := #[] }] 48 2 #[] #[{ accessFlags := 0, nameIndex := 25, descriptorIndex := 26, attributes := #[] }, { accessFlags := 0, nameIndex := 29, descriptorIndex := 30, attributes := #[] }, { accessFlags := 0, nameIndex := 33, descriptorIndex := 30, attributes := #[] }, { accessFlags := 0, nameIndex := 11, descriptorIndex := 12, attributes := #[] }, { accessFlags := 0, nameIndex := 15, descriptorIndex := 12, attributes := #[] }, { accessFlags := 0, nameIndex := 18, descriptorIndex := 12, attributes := #[] }, { accessFlags := 0, nameIndex := 36, descriptorIndex := 37, attributes := #[] }, { accessFlags := 0, nameIndex := 40, descriptorIndex := 37, attributes := #[] }, { accessFlags := 0, nameIndex := 21, descriptorIndex := 22, attributes := #[] }])
  fields := #[{ name := "whitespace", type := (.object "com/example/sundskrift/sundskrift/core/schema/SimpleType$Whitespace"), accessFlags := 0, slot := 0, constantValue := 0 }, { name := "patterns", type := (.object "java/util/List"), accessFlags := 0, slot := 1, constantValue := 0 }, { name := "enumeration", type := (.object "java/util/List"), accessFlags := 0, slot := 2, constantValue := 0 }, { name := "length", type := .int, accessFlags := 0, slot := 3, constantValue := 0 }, { name := "minLength", type := .int, accessFlags := 0, slot := 4, constantValue := 0 }, { name := "maxLength", type := .int, accessFlags := 0, slot := 5, constantValue := 0 }, { name := "minimum", type := (.object "com/example/sundskrift/sundskrift/core/schema/SimpleType$Bound"), accessFlags := 0, slot := 6, constantValue := 0 }, { name := "maximum", type := (.object "com/example/sundskrift/sundskrift/core/schema/SimpleType$Bound"), accessFlags := 0, slot := 7, constantValue := 0 }, { name := "unfollowed", type := .boolean, accessFlags := 0, slot := 8, constantValue := 0 }]
  methods := #[k2m0, k2m1]
  instanceTypes := #[(.object "com/example/sundskrift/sundskrift/core/schema/SimpleType$Whitespace"), (.object "java/util/List"), (.object "java/util/List"), .int, .int, .int, (.object "com/example/sundskrift/sundskrift/core/schema/SimpleType$Bound"), (.object "com/example/sundskrift/sundskrift/core/schema/SimpleType$Bound"), .boolean]
  staticTypes := #[]
  resolved := Array.replicate 63 none
  statics := none }

def pool3 : Array CpInfo := pool [(1, .methodref 2 3), (0, .class_ 4), (0, .nameAndType 5 6), (0, u "java/lang/Object"), (0, u "<init>"), (0, u "()V"), (0, .class_ 8), (0, u "java/lang/Record")] 13

def k3c0 : Code := { maxStack := 1, maxLocals := 1, code := jdk_30_method_1_code, exceptionTable := #[], attributes := #[] }
def k3m0 : Method := { name := "<init>", desc := "()V", sig := { parameters := [], returnType := none }, accessFlags := 4, code := some k3c0 }
/-- java/lang/Record -/
def k3 : Class := { plain "java/lang/Record" (some 0) with
  accessFlags := 1057
  interfaces := #[]
  cf := some (fileOf pool3 7 #[] #[{ accessFlags := 4, nameIndex := 5, descriptorIndex := 6, attributes := #[] }] 1057 2 #[] #[])
  fields := #[]
  methods := #[k3m0]
  instanceTypes := #[]
  staticTypes := #[]
  resolved := Array.replicate 22 none
  statics := none }

def pool4 : Array CpInfo := pool [(1, .methodref 2 3), (0, .class_ 4), (0, .nameAndType 5 6), (0, u "java/lang/Record"), (0, u "<init>"), (0, u "()V"), (0, .fieldref 8 9), (0, .class_ 10), (0, .nameAndType 11 12), (0, u "com/example/sundskrift/sundskrift/core/schema/SimpleType$Bound"), (0, u "value"), (0, u "Ljava/lang/String;"), (0, .fieldref 8 14), (0, .nameAndType 15 16), (0, u "inclusive"), (0, u "Z"), (12, u "(Ljava/lang/String;Z)V"), (10, .class_ 41), (0, u "com/example/sundskrift/sundskrift/core/schema/SimpleType")] 20

def k4c0 : Code := { maxStack := 2, maxLocals := 3, code := prog_102_method_1_code, exceptionTable := #[], attributes := #[] }
def k4m0 : Method := { name := "<init>", desc := "(Ljava/lang/String;Z)V", sig := { parameters := [(.object "java/lang/String"), .boolean], returnType := none }, accessFlags := 0, code := some k4c0 }
/-- com/example/sundskrift/sundskrift/core/schema/SimpleType$Bound -/
def k4 : Class := { plain "com/example/sundskrift/sundskrift/core/schema/SimpleType$Bound" (some 3) with
  accessFlags := 48
  interfaces := #[]
  cf := some (fileOf pool4 8 #[.nestHost 40] #[{ accessFlags := 0, nameIndex := 5, descriptorIndex := 29, attributes := #[] }] 48 2 #[] #[{ accessFlags := 18, nameIndex := 11, descriptorIndex := 12, attributes := #[] }, { accessFlags := 18, nameIndex := 15, descriptorIndex := 16, attributes := #[] }])
  fields := #[{ name := "value", type := (.object "java/lang/String"), accessFlags := 18, slot := 0, constantValue := 0 }, { name := "inclusive", type := .boolean, accessFlags := 18, slot := 1, constantValue := 0 }]
  methods := #[k4m0]
  instanceTypes := #[(.object "java/lang/String"), .boolean]
  staticTypes := #[]
  resolved := Array.replicate 62 none
  statics := none }

def pool5 : Array CpInfo := pool [(1, .class_ 2), (0, u "java/io/Serializable"), (0, .class_ 4), (0, u "java/lang/Object")] 2

/-- java/io/Serializable -/
def k5 : Class := { plain "java/io/Serializable" (some 0) with
  accessFlags := 1537
  interfaces := #[]
  cf := some (fileOf pool5 1 #[] #[] 1537 3 #[] #[])
  fields := #[]
  methods := #[]
  instanceTypes := #[]
  staticTypes := #[]
  resolved := Array.replicate 7 none
  statics := none }

def pool6 : Array CpInfo := pool [(1, .class_ 2), (0, u "java/lang/Comparable"), (0, .class_ 4), (0, u "java/lang/Object")] 7

/-- java/lang/Comparable -/
def k6 : Class := { plain "java/lang/Comparable" (some 0) with
  accessFlags := 1537
  interfaces := #[]
  cf := some (fileOf pool6 1 #[] #[] 1537 3 #[] #[])
  fields := #[]
  methods := #[]
  instanceTypes := #[]
  staticTypes := #[]
  resolved := Array.replicate 12 none
  statics := none }

def pool7 : Array CpInfo := pool [(2, .class_ 4), (1, u "java/lang/CharSequence"), (42, .class_ 48), (0, u "java/lang/CharSequence$1CodePointIterator"), (10, .class_ 60), (0, u "java/lang/CharSequence$1CharIterator"), (5, .class_ 67), (0, u "java/lang/Object")] 63

/-- java/lang/CharSequence -/
def k7 : Class := { plain "java/lang/CharSequence" (some 0) with
  accessFlags := 1537
  interfaces := #[]
  cf := some (fileOf pool7 2 #[.nestMembers #[47, 59]] #[] 1537 66 #[] #[])
  fields := #[]
  methods := #[]
  instanceTypes := #[]
  staticTypes := #[]
  resolved := Array.replicate 131 none
  statics := none }

def pool8 : Array CpInfo := pool [(1, .class_ 2), (0, u "java/lang/constant/Constable"), (0, .class_ 4), (0, u "java/lang/Object")] 6

/-- java/lang/constant/Constable -/
def k8 : Class := { plain "java/lang/constant/Constable" (some 0) with
  accessFlags := 1537
  interfaces := #[]
  cf := some (fileOf pool8 1 #[] #[] 1537 3 #[] #[])
  fields := #[]
  methods := #[]
  instanceTypes := #[]
  staticTypes := #[]
  resolved := Array.replicate 11 none
  statics := none }

def pool9 : Array CpInfo := pool [(1, .class_ 2), (0, u "java/lang/constant/ConstantDesc"), (0, .class_ 4), (0, u "java/lang/Object")] 32

/-- java/lang/constant/ConstantDesc -/
def k9 : Class := { plain "java/lang/constant/ConstantDesc" (some 0) with
  accessFlags := 1537
  interfaces := #[]
  cf := some (fileOf pool9 1 #[] #[] 1537 3 #[] #[])
  fields := #[]
  methods := #[]
  instanceTypes := #[]
  staticTypes := #[]
  resolved := Array.replicate 37 none
  statics := none }

def pool10 : Array CpInfo := pool [(2, .class_ 4), (1, u "java/lang/Object"), (0, u "<init>"), (0, u "()V"), (3, .class_ 12), (1, u "java/lang/String"), (0, u "value"), (0, u "[B"), (2, u "coder"), (0, u "B"), (2, u "hash"), (0, u "I"), (2, u "hashIsZero"), (0, u "Z"), (13, u "COMPACT_STRINGS"), (534, .class_ 576), (0, u "java/lang/CharSequence"), (22, u "CASE_INSENSITIVE_ORDER"), (0, u "Ljava/util/Comparator;"), (500, u "serialPersistentFields"), (0, u "[Ljava/io/ObjectStreamField;"), (0, .class_ 1104), (0, u "java/lang/String$CaseInsensitiveComparator"), (1, .class_ 1107), (0, u "java/io/Serializable"), (0, .class_ 1109), (0, u "java/lang/Comparable"), (0, .class_ 1111), (0, u "java/lang/constant/Constable"), (0, .class_ 1113), (0, u "java/lang/constant/ConstantDesc"), (2, u "serialVersionUID"), (0, u "J"), (3, u "REPL"), (0, u "C"), (2, u "LATIN1"), (1, u "UTF16")] 323

def k10m0 : Method := { name := "<init>", desc := "()V", sig := { parameters := [], returnType := none }, accessFlags := 1, code := none }
/-- java/lang/String -/
def k10 : Class := { plain "java/lang/String" (some 0) with
  accessFlags := 49
  interfaces := #[5, 6, 7, 8, 9]
  cf := some (fileOf pool10 10 #[.nestMembers #[1103]] #[{ accessFlags := 1, nameIndex := 5, descriptorIndex := 6, attributes := #[] }] 49 2 #[1106, 1108, 575, 1110, 1112] #[{ accessFlags := 18, nameIndex := 13, descriptorIndex := 14, attributes := #[] }, { accessFlags := 18, nameIndex := 17, descriptorIndex := 18, attributes := #[] }, { accessFlags := 2, nameIndex := 21, descriptorIndex := 22, attributes := #[] }, { accessFlags := 2, nameIndex := 25, descriptorIndex := 26, attributes := #[] }, { accessFlags := 26, nameIndex := 1116, descriptorIndex := 1117, attributes := #[] }, { accessFlags := 24, nameIndex := 40, descriptorIndex := 26, attributes := #[] }, { accessFlags := 26, nameIndex := 1101, descriptorIndex := 1102, attributes := #[] }, { accessFlags := 26, nameIndex := 1121, descriptorIndex := 1122, attributes := #[] }, { accessFlags := 25, nameIndex := 599, descriptorIndex := 600, attributes := #[] }, { accessFlags := 24, nameIndex := 1125, descriptorIndex := 18, attributes := #[] }, { accessFlags := 24, nameIndex := 1127, descriptorIndex := 18, attributes := #[] }])
  fields := #[{ name := "value", type := (.array .byte), accessFlags := 18, slot := 0, constantValue := 0 }, { name := "coder", type := .byte, accessFlags := 18, slot := 1, constantValue := 0 }, { name := "hash", type := .int, accessFlags := 2, slot := 2, constantValue := 0 }, { name := "hashIsZero", type := .boolean, accessFlags := 2, slot := 3, constantValue := 0 }, { name := "serialVersionUID", type := .long, accessFlags := 26, slot := 0, constantValue := 0 }, { name := "COMPACT_STRINGS", type := .boolean, accessFlags := 24, slot := 1, constantValue := 0 }, { name := "serialPersistentFields", type := (.array (.object "java/io/ObjectStreamField")), accessFlags := 26, slot := 2, constantValue := 0 }, { name := "REPL", type := .char, accessFlags := 26, slot := 3, constantValue := 0 }, { name := "CASE_INSENSITIVE_ORDER", type := (.object "java/util/Comparator"), accessFlags := 25, slot := 4, constantValue := 0 }, { name := "LATIN1", type := .byte, accessFlags := 24, slot := 5, constantValue := 0 }, { name := "UTF16", type := .byte, accessFlags := 24, slot := 6, constantValue := 0 }]
  methods := #[k10m0]
  instanceTypes := #[(.array .byte), .byte, .int, .boolean]
  staticTypes := #[.long, .boolean, (.array (.object "java/io/ObjectStreamField")), .char, (.object "java/util/Comparator"), .byte, .byte]
  resolved := Array.replicate 1451 none
  statics := none }

def pool11 : Array CpInfo := pool [(8, .class_ 10), (1, u "java/lang/Iterable"), (24, .class_ 36), (0, u "java/lang/Object")] 25

/-- java/lang/Iterable -/
def k11 : Class := { plain "java/lang/Iterable" (some 0) with
  accessFlags := 1537
  interfaces := #[]
  cf := some (fileOf pool11 8 #[] #[] 1537 35 #[] #[])
  fields := #[]
  methods := #[]
  instanceTypes := #[]
  staticTypes := #[]
  resolved := Array.replicate 62 none
  statics := none }

def pool12 : Array CpInfo := pool [(10, .class_ 12), (1, u "java/util/Collection"), (47, .class_ 61), (0, u "java/lang/Object"), (0, .class_ 63), (0, u "java/lang/Iterable")] 51

/-- java/util/Collection -/
def k12 : Class := { plain "java/util/Collection" (some 0) with
  accessFlags := 1537
  interfaces := #[11]
  cf := some (fileOf pool12 10 #[] #[] 1537 60 #[62] #[])
  fields := #[]
  methods := #[]
  instanceTypes := #[]
  staticTypes := #[]
  resolved := Array.replicate 115 none
  statics := none }

def pool13 : Array CpInfo := pool [(1, .methodref 2 3), (0, .class_ 4), (0, .nameAndType 5 6), (0, u "java/lang/Object"), (0, u "<init>"), (0, u "()V"), (1, .class_ 10), (1, u "java/util/AbstractCollection"), (66, .class_ 78), (0, u "java/util/Collection")] 81

def k13c0 : Code := { maxStack := 1, maxLocals := 1, code := jdk_22_method_1_code, exceptionTable := #[], attributes := #[] }
def k13m0 : Method := { name := "<init>", desc := "()V", sig := { parameters := [], returnType := none }, accessFlags := 4, code := some k13c0 }
/-- java/util/AbstractCollection -/
def k13 : Class := { plain "java/util/AbstractCollection" (some 0) with
  accessFlags := 1057
  interfaces := #[12]
  cf := some (fileOf pool13 8 #[] #[{ accessFlags := 4, nameIndex := 5, descriptorIndex := 6, attributes := #[] }] 1057 2 #[77] #[])
  fields := #[]
  methods := #[k13m0]
  instanceTypes := #[]
  staticTypes := #[]
  resolved := Array.replicate 160 none
  statics := none }

def pool14 : Array CpInfo := pool [(8, .class_ 10), (1, u "java/util/SequencedCollection"), (15, .class_ 27), (0, u "java/lang/Object"), (0, .class_ 29), (0, u "java/util/Collection")] 27

/-- java/util/SequencedCollection -/
def k14 : Class := { plain "java/util/SequencedCollection" (some 0) with
  accessFlags := 1537
  interfaces := #[12]
  cf := some (fileOf pool14 8 #[] #[] 1537 26 #[28] #[])
  fields := #[]
  methods := #[]
  instanceTypes := #[]
  staticTypes := #[]
  resolved := Array.replicate 57 none
  statics := none }

def pool15 : Array CpInfo := pool [(8, .class_ 10), (1, u "java/util/List"), (92, .class_ 104), (0, u "java/lang/Object"), (15, .class_ 121), (0, u "java/util/SequencedCollection")] 129

/-- java/util/List -/
def k15 : Class := { plain "java/util/List" (some 0) with
  accessFlags := 1537
  interfaces := #[14]
  cf := some (fileOf pool15 8 #[] #[] 1537 103 #[120] #[])
  fields := #[]
  methods := #[]
  instanceTypes := #[]
  staticTypes := #[]
  resolved := Array.replicate 251 none
  statics := none }

def pool16 : Array CpInfo := pool [(1, .methodref 2 3), (0, .class_ 4), (0, .nameAndType 5 6), (0, u "java/util/AbstractCollection"), (0, u "<init>"), (0, u "()V"), (0, .fieldref 8 9), (0, .class_ 10), (0, .nameAndType 11 12), (0, u "java/util/AbstractList"), (0, u "modCount"), (0, u "I"), (64, .class_ 78), (0, u "java/util/AbstractList$Itr"), (3, .class_ 83), (0, u "java/util/AbstractList$ListItr"), (9, .class_ 94), (0, u "java/util/AbstractList$RandomAccessSubList"), (3, .class_ 99), (0, u "java/util/AbstractList$SubList"), (33, .class_ 134), (0, u "java/util/List"), (73, .class_ 209), (0, u "java/util/AbstractList$SubList$1"), (0, .class_ 211), (0, u "java/util/AbstractList$RandomAccessSpliterator")] 6

def k16c0 : Code := { maxStack := 2, maxLocals := 1, code := jdk_39_method_1_code, exceptionTable := #[], attributes := #[] }
def k16m0 : Method := { name := "<init>", desc := "()V", sig := { parameters := [], returnType := none }, accessFlags := 4, code := some k16c0 }
/-- java/util/AbstractList -/
def k16 : Class := { plain "java/util/AbstractList" (some 13) with
  accessFlags := 1057
  interfaces := #[15]
  cf := some (fileOf pool16 8 #[.nestMembers #[93, 98, 208, 210, 82, 77]] #[{ accessFlags := 4, nameIndex := 5, descriptorIndex := 6, attributes := #[] }] 1057 2 #[133] #[{ accessFlags := 132, nameIndex := 11, descriptorIndex := 12, attributes := #[] }])
  fields := #[{ name := "modCount", type := .int, accessFlags := 132, slot := 0, constantValue := 0 }]
  methods := #[k16m0]
  instanceTypes := #[.int]
  staticTypes := #[]
  resolved := Array.replicate 218 none
  statics := none }

def pool17 : Array CpInfo := pool [(1, .class_ 2), (0, u "java/util/RandomAccess"), (0, .class_ 4), (0, u "java/lang/Object")] 2

/-- java/util/RandomAccess -/
def k17 : Class := { plain "java/util/RandomAccess" (some 0) with
  accessFlags := 1537
  interfaces := #[]
  cf := some (fileOf pool17 1 #[] #[] 1537 3 #[] #[])
  fields := #[]
  methods := #[]
  instanceTypes := #[]
  staticTypes := #[]
  resolved := Array.replicate 7 none
  statics := none }

def pool18 : Array CpInfo := pool [(1, .class_ 2), (0, u "java/lang/Cloneable"), (0, .class_ 4), (0, u "java/lang/Object")] 2

/-- java/lang/Cloneable -/
def k18 : Class := { plain "java/lang/Cloneable" (some 0) with
  accessFlags := 1537
  interfaces := #[]
  cf := some (fileOf pool18 1 #[] #[] 1537 3 #[] #[])
  fields := #[]
  methods := #[]
  instanceTypes := #[]
  staticTypes := #[]
  resolved := Array.replicate 7 none
  statics := none }

def pool19 : Array CpInfo := pool [(1, .methodref 2 3), (0, .class_ 4), (0, .nameAndType 5 6), (0, u "java/util/AbstractList"), (0, u "<init>"), (0, u "()V"), (2, .fieldref 10 11), (0, .class_ 12), (0, .nameAndType 13 14), (0, u "java/util/ArrayList"), (0, u "elementData"), (0, u "[Ljava/lang/Object;"), (2, u "EMPTY_ELEMENTDATA"), (21, .fieldref 10 40), (0, .nameAndType 41 14), (0, u "DEFAULTCAPACITY_EMPTY_ELEMENTDATA"), (8, u "size"), (0, u "I"), (96, .class_ 149), (0, u "java/util/List"), (112, .class_ 263), (0, u "java/util/ArrayList$ListItr"), (3, .class_ 268), (0, u "java/util/ArrayList$Itr"), (7, .class_ 277), (0, u "java/util/ArrayList$SubList"), (12, .class_ 291), (0, u "java/util/ArrayList$ArrayListSpliterator"), (37, .class_ 330), (0, u "java/util/RandomAccess"), (0, .class_ 332), (0, u "java/lang/Cloneable"), (0, .class_ 334), (0, u "java/io/Serializable"), (0, u "serialVersionUID"), (0, u "J"), (3, u "DEFAULT_CAPACITY"), (159, .class_ 501), (0, u "java/util/ArrayList$SubList$2"), (0, .class_ 503), (0, u "java/util/ArrayList$SubList$1")] 5

def k19c0 : Code := { maxStack := 2, maxLocals := 1, code := jdk_38_method_2_code, exceptionTable := #[], attributes := #[] }
def k19m0 : Method := { name := "<init>", desc := "()V", sig := { parameters := [], returnType := none }, accessFlags := 1, code := some k19c0 }
/-- java/util/ArrayList -/
def k19 : Class := { plain "java/util/ArrayList" (some 16) with
  accessFlags := 33
  interfaces := #[15, 17, 18, 5]
  cf := some (fileOf pool19 10 #[.nestMembers #[290, 276, 500, 502, 262, 267]] #[{ accessFlags := 1, nameIndex := 5, descriptorIndex := 6, attributes := #[] }] 33 2 #[148, 329, 331, 333] #[{ accessFlags := 26, nameIndex := 335, descriptorIndex := 336, attributes := #[] }, { accessFlags := 26, nameIndex := 340, descriptorIndex := 51, attributes := #[] }, { accessFlags := 26, nameIndex := 17, descriptorIndex := 14, attributes := #[] }, { accessFlags := 26, nameIndex := 41, descriptorIndex := 14, attributes := #[] }, { accessFlags := 128, nameIndex := 13, descriptorIndex := 14, attributes := #[] }, { accessFlags := 2, nameIndex := 50, descriptorIndex := 51, attributes := #[] }])
  fields := #[{ name := "serialVersionUID", type := .long, accessFlags := 26, slot := 0, constantValue := 0 }, { name := "DEFAULT_CAPACITY", type := .int, accessFlags := 26, slot := 1, constantValue := 0 }, { name := "EMPTY_ELEMENTDATA", type := (.array (.object "java/lang/Object")), accessFlags := 26, slot := 2, constantValue := 0 }, { name := "DEFAULTCAPACITY_EMPTY_ELEMENTDATA", type := (.array (.object "java/lang/Object")), accessFlags := 26, slot := 3, constantValue := 0 }, { name := "elementData", type := (.array (.object "java/lang/Object")), accessFlags := 128, slot := 1, constantValue := 0 }, { name := "size", type := .int, accessFlags := 2, slot := 2, constantValue := 0 }]
  methods := #[k19m0]
  instanceTypes := #[.int, (.array (.object "java/lang/Object")), .int]
  staticTypes := #[.long, .int, (.array (.object "java/lang/Object")), (.array (.object "java/lang/Object"))]
  resolved := Array.replicate 509 none
  statics := some 0 }

def pool20 : Array CpInfo := pool [(2, .class_ 4), (1, u "java/lang/Enum"), (0, u "name"), (0, u "Ljava/lang/String;"), (2, u "ordinal"), (0, u "I"), (1, .class_ 14), (1, u "java/lang/Object"), (4, u "hash"), (86, .class_ 108), (1, u "java/lang/Enum$EnumDesc"), (2, .class_ 112), (0, u "java/lang/constant/Constable"), (0, .class_ 114), (0, u "java/lang/Comparable"), (0, .class_ 116), (0, u "java/io/Serializable")] 87

/-- java/lang/Enum -/
def k20 : Class := { plain "java/lang/Enum" (some 0) with
  accessFlags := 1057
  interfaces := #[8, 6, 5]
  cf := some (fileOf pool20 2 #[.nestMembers #[106]] #[] 1057 12 #[111, 113, 115] #[{ accessFlags := 18, nameIndex := 5, descriptorIndex := 6, attributes := #[] }, { accessFlags := 18, nameIndex := 9, descriptorIndex := 10, attributes := #[] }, { accessFlags := 2, nameIndex := 19, descriptorIndex := 10, attributes := #[] }])
  fields := #[{ name := "name", type := (.object "java/lang/String"), accessFlags := 18, slot := 0, constantValue := 0 }, { name := "ordinal", type := .int, accessFlags := 18, slot := 1, constantValue := 0 }, { name := "hash", type := .int, accessFlags := 2, slot := 2, constantValue := 0 }]
  methods := #[]
  instanceTypes := #[(.object "java/lang/String"), .int, .int]
  staticTypes := #[]
  resolved := Array.replicate 204 none
  statics := none }

def pool21 : Array CpInfo := pool [(1, .class_ 2), (0, u "com/example/sundskrift/sundskrift/core/schema/SimpleType$Whitespace"), (2, u "PRESERVE"), (0, u "Lcom/example/sundskrift/sundskrift/core/schema/SimpleType$Whitespace;"), (2, u "REPLACE"), (2, u "COLLAPSE"), (2, u "$VALUES"), (0, u "[Lcom/example/sundskrift/sundskrift/core/schema/SimpleType$Whitespace;"), (6, .class_ 25), (1, u "java/lang/Enum"), (26, .class_ 53), (0, u "com/example/sundskrift/sundskrift/core/schema/SimpleType")] 2

/-- com/example/sundskrift/sundskrift/core/schema/SimpleType$Whitespace -/
def k21 : Class := { plain "com/example/sundskrift/sundskrift/core/schema/SimpleType$Whitespace" (some 20) with
  accessFlags := 16432
  interfaces := #[]
  cf := some (fileOf pool21 1 #[.nestHost 52] #[] 16432 23 #[] #[{ accessFlags := 16409, nameIndex := 5, descriptorIndex := 6, attributes := #[] }, { accessFlags := 16409, nameIndex := 9, descriptorIndex := 6, attributes := #[] }, { accessFlags := 16409, nameIndex := 12, descriptorIndex := 6, attributes := #[] }, { accessFlags := 4122, nameIndex := 15, descriptorIndex := 16, attributes := #[] }])
  fields := #[{ name := "PRESERVE", type := (.object "com/example/sundskrift/sundskrift/core/schema/SimpleType$Whitespace"), accessFlags := 16409, slot := 0, constantValue := 0 }, { name := "REPLACE", type := (.object "com/example/sundskrift/sundskrift/core/schema/SimpleType$Whitespace"), accessFlags := 16409, slot := 1, constantValue := 0 }, { name := "COLLAPSE", type := (.object "com/example/sundskrift/sundskrift/core/schema/SimpleType$Whitespace"), accessFlags := 16409, slot := 2, constantValue := 0 }, { name := "$VALUES", type := (.array (.object "com/example/sundskrift/sundskrift/core/schema/SimpleType$Whitespace")), accessFlags := 4122, slot := 3, constantValue := 0 }]
  methods := #[]
  instanceTypes := #[(.object "java/lang/String"), .int, .int]
  staticTypes := #[(.object "com/example/sundskrift/sundskrift/core/schema/SimpleType$Whitespace"), (.object "com/example/sundskrift/sundskrift/core/schema/SimpleType$Whitespace"), (.object "com/example/sundskrift/sundskrift/core/schema/SimpleType$Whitespace"), (.array (.object "com/example/sundskrift/sundskrift/core/schema/SimpleType$Whitespace"))]
  resolved := Array.replicate 56 none
  statics := some 1 }

/-- the primitive byte -/
def k22 : Class := { plain "byte" none with kind := .primitive 'B', accessFlags := 0x411 }
/-- [B -/
def k23 : Class := { plain "[B" (some 0) with kind := .array 22 .byte, interfaces := #[18, 5], accessFlags := 1041 }

/-- the primitive int -/
def k24 : Class := { plain "int" none with kind := .primitive 'I', accessFlags := 0x411 }
/-- [I -/
def k25 : Class := { plain "[I" (some 0) with kind := .array 24 .int, interfaces := #[18, 5], accessFlags := 1041 }

/-- [Ljava/lang/Object; -/
def k26 : Class := { plain "[Ljava/lang/Object;" (some 0) with kind := .array 0 (.object "java/lang/Object"), interfaces := #[18, 5], accessFlags := 1041 }

def heap : Heap := #[{ cls := 19, slots := #[.long 0, .int 0, .ref 5, .ref 6], vm := .statics 19 },
  { cls := 21, slots := #[.ref 2, .ref 3, .ref 4, .null], vm := .statics 21 },
  { cls := 21, slots := #[.null, .int 0, .int 0], vm := .none },
  { cls := 21, slots := #[.null, .int 1, .int 0], vm := .none },
  { cls := 21, slots := #[.null, .int 2, .int 0], vm := .none },
  { cls := 26, slots := #[], vm := .none },
  { cls := 26, slots := #[], vm := .none }]
def classes : Array Class := #[k0, k1, k2, k3, k4, k5, k6, k7, k8, k9, k10, k11, k12, k13, k14, k15, k16, k17, k18, k19, k20, k21, k22, k23, k24, k25, k26]
def interned : List (Array UInt16 × Addr) := []
def slotsUsed : Nat := 17
def theMethod : MethodId := ⟨1, 1⟩
def args0 : Array Value := #[.int 0, .int 1, .int 2, .int 3]
def aboutOver (below : List Frame) : State where
  vm := { classes := classes, interned := interned.toArray }
  heap := heap
  slotsUsed := slotsUsed
  threads := #[{ frames := .invoking theMethod args0 :: below }]
def below0 : List Frame := [.native { method := ⟨0, 0⟩, args := #[] }]
def about1 : State := aboutOver below0
def p0 : Program := .bare "" "" ""
def e0 : Env := launch0.env 0 0 0
theorem w_frames : about1.frames = Frame.invoking theMethod args0 :: below0 := rfl
set_option maxRecDepth 65536 in
theorem w_args : argsFit about1.vm theMethod args0 = true := by decide +kernel
set_option maxRecDepth 65536 in
theorem w_heap : heapFits about1 = true := by decide +kernel
set_option maxRecDepth 65536 in
theorem w_runnable : about1.curStatus? = some .runnable := by decide +kernel
set_option maxRecDepth 65536 in
theorem w_alone : about1.alone = true := by decide +kernel
set_option maxRecDepth 65536 in
theorem w_named : about1.methodNamed? x = some theMethod := by decide +kernel
set_option maxRecDepth 65536 in
theorem w_hears : about1.hears theMethod below0 = true := by decide +kernel
set_option maxRecDepth 65536 in
theorem w_ripe : about1.ripe theMethod args0 below0 = true := by decide +kernel
theorem w_running : about1.status = .running := rfl
set_option maxRecDepth 65536 in
theorem w_room : about1.hasRoom e0.platform room_1 = true :=
  launch0.hasRoom_least _ room_1 (by decide +kernel) (by decide +kernel) (by decide +kernel) (by decide +kernel) (by decide +kernel) (by decide +kernel)
theorem allAtoms_all (ts : List Jvm.Cond) (a : Array Jvm.Value) (st : Jvm.State) : (allAtoms ts).before a st = ts.all (fun c => c.before a st) := by
  induction ts with
  | nil => rfl
  | cons c t ih =>
    show (Jvm.Cond.and c (allAtoms t)).before a st = _
    rw [Jvm.Cond.before_and, ih, List.all_cons]
def words1 : List Jvm.Cond := Jvm.Cond.code x code maxLocals ret :: tables_1
/-- a 'code' word, met by the world's own term for the bytes: nothing is compared byte by byte -/
theorem code_word {y : MethodName} {bytes : ByteArray} {mx : Nat} {rt : Option FieldType} {a : Array Value} {s : State} {m : MethodId} {meth : Method} {c : Code} (h1 : s.methodNamed? y = some m) (h2 : s.vm.method? m = some meth) (h3 : meth.code = some c) (h4 : c.code = bytes)
    (h5 : (c.maxLocals == mx && c.exceptionTable.isEmpty && decide (c.maxStack ≤ mostOperands) && decide (meth.sig.returnType = rt) && !meth.locks && decide (parseMethodDescriptor y.desc = some meth.sig)) = true) : (Jvm.Cond.code y bytes mx rt).before a s = true := by
  simp only [Bool.and_eq_true, beq_iff_eq, Bool.not_eq_true', decide_eq_true_eq] at h5
  obtain ⟨⟨⟨⟨⟨g1, g2⟩, g3⟩, g4⟩, g5⟩, g6⟩ := h5
  simp [Cond.before, Cond.holds, Cond.value, h1, h2, h3, h4, g1, g2, g3, g4, g5, g6]
def isCode : Jvm.Cond → Bool
  | .code _ _ _ _ => true
  | _ => false
theorem all_split {L : List Jvm.Cond} {P : Jvm.Cond → Bool} (h1 : L.all (fun c => isCode c || P c) = true) (h2 : ∀ c ∈ L.filter isCode, P c = true) : L.all P = true := by
  refine List.all_eq_true.mpr fun c hc => ?_
  have h := List.all_eq_true.mp h1 c hc
  rcases Bool.eq_false_or_eq_true (isCode c) with hi | hi
  · exact h2 c (List.mem_filter.mpr ⟨hc, hi⟩)
  · simpa [hi] using h
set_option maxRecDepth 65536 in
theorem w_c0 : (Jvm.Cond.code x code maxLocals ret).before args0 about1 = true := code_word (m := ⟨1, 1⟩) (meth := k1m1) (c := k1c1) (by decide +kernel) rfl rfl rfl (by decide +kernel)
set_option maxRecDepth 65536 in
theorem w_c1 : (Jvm.Cond.code ({ cls := "com/example/sundskrift/sundskrift/core/schema/SimpleType$Facets", name := "<init>", desc := "()V" } : Jvm.MethodName) prog_104_method_1_code (1 : Nat) (Option.none : Option Jvm.ClassFile.FieldType)).before args0 about1 = true := code_word (m := ⟨2, 0⟩) (meth := k2m0) (c := k2c0) (by decide +kernel) rfl rfl rfl (by decide +kernel)
set_option maxRecDepth 65536 in
theorem w_c2 : (Jvm.Cond.code ({ cls := "java/lang/Object", name := "<init>", desc := "()V" } : Jvm.MethodName) object_method_1_code (1 : Nat) (Option.none : Option Jvm.ClassFile.FieldType)).before args0 about1 = true := code_word (m := ⟨0, 0⟩) (meth := k0m0) (c := k0c0) (by decide +kernel) rfl rfl rfl (by decide +kernel)
set_option maxRecDepth 65536 in
theorem w_c3 : (Jvm.Cond.code ({ cls := "com/example/sundskrift/sundskrift/core/schema/SimpleType$Bound", name := "<init>", desc := "(Ljava/lang/String;Z)V" } : Jvm.MethodName) prog_102_method_1_code (3 : Nat) (Option.none : Option Jvm.ClassFile.FieldType)).before args0 about1 = true := code_word (m := ⟨4, 0⟩) (meth := k4m0) (c := k4c0) (by decide +kernel) rfl rfl rfl (by decide +kernel)
set_option maxRecDepth 65536 in
theorem w_c4 : (Jvm.Cond.code ({ cls := "java/lang/Record", name := "<init>", desc := "()V" } : Jvm.MethodName) jdk_30_method_1_code (1 : Nat) (Option.none : Option Jvm.ClassFile.FieldType)).before args0 about1 = true := code_word (m := ⟨3, 0⟩) (meth := k3m0) (c := k3c0) (by decide +kernel) rfl rfl rfl (by decide +kernel)
set_option maxRecDepth 65536 in
theorem w_c5 : (Jvm.Cond.code ({ cls := "com/example/sundskrift/sundskrift/core/schema/SimpleType$Facets", name := "none", desc := "()Z" } : Jvm.MethodName) prog_104_method_3_code (1 : Nat) (Option.some Jvm.ClassFile.FieldType.boolean)).before args0 about1 = true := code_word (m := ⟨2, 1⟩) (meth := k2m1) (c := k2c1) (by decide +kernel) rfl rfl rfl (by decide +kernel)
set_option maxRecDepth 65536 in
theorem w_c6 : (Jvm.Cond.code ({ cls := "java/util/ArrayList", name := "<init>", desc := "()V" } : Jvm.MethodName) jdk_38_method_2_code (1 : Nat) (Option.none : Option Jvm.ClassFile.FieldType)).before args0 about1 = true := code_word (m := ⟨19, 0⟩) (meth := k19m0) (c := k19c0) (by decide +kernel) rfl rfl rfl (by decide +kernel)
set_option maxRecDepth 65536 in
theorem w_c7 : (Jvm.Cond.code ({ cls := "java/util/AbstractList", name := "<init>", desc := "()V" } : Jvm.MethodName) jdk_39_method_1_code (1 : Nat) (Option.none : Option Jvm.ClassFile.FieldType)).before args0 about1 = true := code_word (m := ⟨16, 0⟩) (meth := k16m0) (c := k16c0) (by decide +kernel) rfl rfl rfl (by decide +kernel)
set_option maxRecDepth 65536 in
theorem w_c8 : (Jvm.Cond.code ({ cls := "java/util/AbstractCollection", name := "<init>", desc := "()V" } : Jvm.MethodName) jdk_22_method_1_code (1 : Nat) (Option.none : Option Jvm.ClassFile.FieldType)).before args0 about1 = true := code_word (m := ⟨13, 0⟩) (meth := k13m0) (c := k13c0) (by decide +kernel) rfl rfl rfl (by decide +kernel)
def codes1 : List Jvm.Cond := [Jvm.Cond.code x code maxLocals ret, Jvm.Cond.code ({ cls := "com/example/sundskrift/sundskrift/core/schema/SimpleType$Facets", name := "<init>", desc := "()V" } : Jvm.MethodName) prog_104_method_1_code (1 : Nat) (Option.none : Option Jvm.ClassFile.FieldType), Jvm.Cond.code ({ cls := "java/lang/Object", name := "<init>", desc := "()V" } : Jvm.MethodName) object_method_1_code (1 : Nat) (Option.none : Option Jvm.ClassFile.FieldType), Jvm.Cond.code ({ cls := "com/example/sundskrift/sundskrift/core/schema/SimpleType$Bound", name := "<init>", desc := "(Ljava/lang/String;Z)V" } : Jvm.MethodName) prog_102_method_1_code (3 : Nat) (Option.none : Option Jvm.ClassFile.FieldType), Jvm.Cond.code ({ cls := "java/lang/Record", name := "<init>", desc := "()V" } : Jvm.MethodName) jdk_30_method_1_code (1 : Nat) (Option.none : Option Jvm.ClassFile.FieldType), Jvm.Cond.code ({ cls := "com/example/sundskrift/sundskrift/core/schema/SimpleType$Facets", name := "none", desc := "()Z" } : Jvm.MethodName) prog_104_method_3_code (1 : Nat) (Option.some Jvm.ClassFile.FieldType.boolean), Jvm.Cond.code ({ cls := "java/util/ArrayList", name := "<init>", desc := "()V" } : Jvm.MethodName) jdk_38_method_2_code (1 : Nat) (Option.none : Option Jvm.ClassFile.FieldType), Jvm.Cond.code ({ cls := "java/util/AbstractList", name := "<init>", desc := "()V" } : Jvm.MethodName) jdk_39_method_1_code (1 : Nat) (Option.none : Option Jvm.ClassFile.FieldType), Jvm.Cond.code ({ cls := "java/util/AbstractCollection", name := "<init>", desc := "()V" } : Jvm.MethodName) jdk_22_method_1_code (1 : Nat) (Option.none : Option Jvm.ClassFile.FieldType)]
set_option maxRecDepth 65536 in
theorem codes_eq : words1.filter isCode = codes1 := rfl
theorem w_codes : ∀ c ∈ words1.filter isCode, c.before args0 about1 = true := by
  rw [codes_eq]
  intro c hc
  simp only [codes1, List.mem_cons, List.not_mem_nil, or_false] at hc
  rcases hc with rfl | rfl | rfl | rfl | rfl | rfl | rfl | rfl | rfl
  · exact w_c0
  · exact w_c1
  · exact w_c2
  · exact w_c3
  · exact w_c4
  · exact w_c5
  · exact w_c6
  · exact w_c7
  · exact w_c8
set_option maxRecDepth 65536 in
theorem w_t1 : (words1.take 24).all (fun c => isCode c || c.before args0 about1) = true := by decide +kernel
set_option maxRecDepth 65536 in
theorem w_t2 : ((words1.drop 24).take 24).all (fun c => isCode c || c.before args0 about1) = true := by decide +kernel
set_option maxRecDepth 65536 in
theorem w_t3 : (((words1.drop 24).drop 24).take 24).all (fun c => isCode c || c.before args0 about1) = true := by decide +kernel
set_option maxRecDepth 65536 in
theorem w_t4 : ((((words1.drop 24).drop 24).drop 24).take 24).all (fun c => isCode c || c.before args0 about1) = true := by decide +kernel
set_option maxRecDepth 65536 in
theorem w_t5 : ((((words1.drop 24).drop 24).drop 24).drop 24).all (fun c => isCode c || c.before args0 about1) = true := by decide +kernel
theorem w_tables : (allAtoms (Jvm.Cond.code x code maxLocals ret :: tables_1)).before args0 about1 = true := by
  rw [allAtoms_all]
  show words1.all (fun c => c.before args0 about1) = true
  refine all_split ?_ w_codes
  rw [← List.take_append_drop 24 words1, List.all_append, w_t1, ← List.take_append_drop 24 (words1.drop 24), List.all_append, w_t2, ← List.take_append_drop 24 ((words1.drop 24).drop 24), List.all_append, w_t3, ← List.take_append_drop 24 (((words1.drop 24).drop 24).drop 24), List.all_append, w_t4, w_t5]
  rfl
set_option maxRecDepth 65536 in
theorem w_rest : rest_1_c.before args0 about1 = true := by decide +kernel
set_option maxRecDepth 65536 in
theorem w_case : (Jvm.Cond.and given_1 narrow_1).before args0 about1 = true := by decide +kernel
theorem w_applies : (headSpec (Jvm.Cond.code x code maxLocals ret :: tables_1) room_1).applies x e0.platform about1 = true :=
  (Spec.applies_iff w_frames).mpr ⟨w_running, w_runnable, w_alone, w_named, w_hears, w_ripe, w_room, w_tables⟩
theorem atStart : AtStart classFile x code maxLocals ret World_1 tables_1 room_1 Calls_1 rest_1 Pre_1 launch0 p0 e0 about1 theMethod args0 below0 :=
  ⟨lists_1, trivial, launch0.admits_env _ _ _, launch0.least_env, fairChoices_fair.cas, fairChoices_fair.clock, w_frames, w_args, w_heap, w_applies, trivial, w_rest, w_case⟩
end start1
theorem witness_1 : WitnessClaimed_1 := ⟨start1.p0, start1.e0, start1.about1, start1.theMethod, start1.args0, start1.below0, start1.atStart⟩
end Jvm.Pilot.@@N@@
