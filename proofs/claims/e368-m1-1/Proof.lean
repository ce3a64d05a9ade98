import JvmDerived
import JvmDerived.Pilot.@@N@@Statement
import JvmDerived.Pilot.@@N@@Code
set_option linter.unusedVariables false
set_option linter.unusedSimpArgs false
namespace Jvm.Pilot.@@N@@
open Jvm Jvm.ClassFile Sem Op Lib Jvm.Free Jvm.Stand Jvm.LawKit Jvm.RoadKit Bundle Jvm.Pilot.@@N@@.Jvm.D
section Kit
variable {p : Program} {l : Launch} {e : Env} {R : Room} {s : State} {m : MethodId} {args : Array Value} {below : List Frame} {meth : Method} {c : Code} {T : State} {locs : List Loc} {cells slots : Nat} {Z : State} {a0 : Array Value} {h : Heap} {G : State → Prop} {pc pc' : Nat} {Ls Ls' : Array Slot} {st : List Value}
def Go (p : Program) (e : Env) (below : List Frame) (G : State → Prop) (S : State) : Prop := ∃ t, Steps p.tables e below S t ∧ G t
theorem Go.to {S S' : State} (h : ∀ t, Steps p.tables e below S' t → Steps p.tables e below S t) (k : Go p e below G S') : Go p e below G S := let ⟨t, h1, h2⟩ := k; ⟨t, h t h1, h2⟩
def Dn (s : State) (below : List Frame) (Q : Option Value → Heap → List Loc → Prop) (kc ks : Nat) (t : State) : Prop := ∃ o, t.status = .running ∧ Ended t below o ∧ ∃ v L, o = .returned v ∧ Q v t.heap L ∧ FrameEnd s o t L kc ks
def Ct (l : Launch) (Z : State) (y : MethodName) (bytes : ByteArray) (maxL : Nat) (ret : Option FieldType) (rm : Room) (as' : Array Value) (h0 : Heap) (Q : Option Value → Heap → List Loc → Prop) : Prop :=
  ∀ ws, MetFree l y (head1 (Jvm.Cond.code y bytes maxL ret :: ws) rm) (fun a U => a = as' ∧ Z.Warmed39 U.vm ∧ U.heap = h0) (fun _ _ _ _ _ => True) (fun _ U o U' => ∃ v L, o = .returned v ∧ Q v U'.heap L ∧ FrameEnd U o U' L rm.cells rm.slots)
theorem Ct.of {y : MethodName} {bytes : ByteArray} {maxL : Nat} {ret : Option FieldType} {rm : Room} {as' : Array Value} {h0 : Heap} {Q : Option Value → Heap → List Loc → Prop} (hn : plainName y.cls = true) (hef : ∀ m, entryFrame m as' maxL = mkF m 0 Ls [])
    (body : ∀ (p : Program) (e : Env) (s : State) (m : MethodId) (below : List Frame) (meth : Method) (c : Code) (T : State), Stand p l e rm s m as' below meth c T [] 0 0 → p.tables.exec = Jvm.exec → c.code = bytes → c.maxLocals = maxL → meth.sig.returnType = ret → meth.locks = false → Z.Warmed39 s.vm → s.vm.findClass y.cls = some m.cls → meth.name = y.name → T.heap = h0 →
      Go p e below (Dn s below Q rm.cells rm.slots) (T.setTop (mkF m 0 Ls []))) : Ct l Z y bytes maxL ret rm as' h0 Q := by
  intro ws
  refine MetFree.of_bodySF (plainFor_of_name hn) hisR ?_
  intro p e s m args below meth c s₁ Bd hml0 hP hK
  obtain ⟨rfl, hZ, hh⟩ := hP
  obtain ⟨t, h1, o, h2, h3, h4⟩ := body p e s m below meth c s₁ (Stand.of_body Bd) Bd.exec Bd.bytes hml0 Bd.returns Bd.notSynchronized hZ (findClass_of_methodNamed Bd.named) (name_of_methodNamed Bd.named Bd.method).1 (by rw [← hh, Bd.state]; rfl)
  exact ⟨t, o, castTop (hef m) h1, h2, h3, h4⟩
theorem g_aloadN (X : Stand p l e R s m args below meth c T locs cells slots) (hx : p.tables.exec = Jvm.exec) {k : Fin 4} {v : Value} (hd : decode c.code pc = .ok (.aload_n k, 1)) (hp : pc + 1 = pc') (hl : Ls[k.val]? = some (.val v)) (hv : v.isRef = true) (k : Go p e below G (T.setTop (mkF m pc' Ls (v :: st)))) : Go p e below G (T.setTop (mkF m pc Ls (st))) := by
  subst hp
  exact Go.to (fun t q => XS.aloadN X.here hx rfl hd hl hv q) k
theorem g_iloadN (X : Stand p l e R s m args below meth c T locs cells slots) (hx : p.tables.exec = Jvm.exec) {k : Fin 4} {v : Int32} (hd : decode c.code pc = .ok (.iload_n k, 1)) (hp : pc + 1 = pc') (hl : Ls[k.val]? = some (.val (.int v))) (k : Go p e below G (T.setTop (mkF m pc' Ls (.int v :: st)))) : Go p e below G (T.setTop (mkF m pc Ls (st))) := by
  subst hp
  exact Go.to (fun t q => XS.iloadN X.here hx rfl hd hl q) k
theorem g_lloadN (X : Stand p l e R s m args below meth c T locs cells slots) (hx : p.tables.exec = Jvm.exec) {k : Fin 4} {v : Int64} (hd : decode c.code pc = .ok (.lload_n k, 1)) (hp : pc + 1 = pc') (hl : Ls[k.val]? = some (.val (.long v))) (k : Go p e below G (T.setTop (mkF m pc' Ls (.long v :: st)))) : Go p e below G (T.setTop (mkF m pc Ls (st))) := by
  subst hp
  exact Go.to (fun t q => XT.lloadN X.here hx rfl hd hl q) k
theorem g_istoreN (X : Stand p l e R s m args below meth c T locs cells slots) (hx : p.tables.exec = Jvm.exec) {k : Fin 4} {x : Int32} (hd : decode c.code pc = .ok (.istore_n k, 1)) (hp : pc + 1 = pc') (hl : storeLocals Ls k.val (.int x) = some Ls') (k : Go p e below G (T.setTop (mkF m pc' Ls' (st)))) : Go p e below G (T.setTop (mkF m pc Ls (.int x :: st))) := by
  subst hp
  exact Go.to (fun t q => XS.istoreN X.here hx rfl hd rfl hl q) k
theorem g_lstoreN (X : Stand p l e R s m args below meth c T locs cells slots) (hx : p.tables.exec = Jvm.exec) {k : Fin 4} {x : Int64} (hd : decode c.code pc = .ok (.lstore_n k, 1)) (hp : pc + 1 = pc') (hl : storeLocals Ls k.val (.long x) = some Ls') (k : Go p e below G (T.setTop (mkF m pc' Ls' (st)))) : Go p e below G (T.setTop (mkF m pc Ls (.long x :: st))) := by
  subst hp
  exact Go.to (fun t q => XT.lstoreN X.here hx rfl hd rfl hl q) k
theorem g_astoreN (X : Stand p l e R s m args below meth c T locs cells slots) (hx : p.tables.exec = Jvm.exec) {k : Fin 4} {x : Value} (hd : decode c.code pc = .ok (.astore_n k, 1)) (hp : pc + 1 = pc') (hv : x.isRef = true) (hl : storeLocals Ls k.val x = some Ls') (k : Go p e below G (T.setTop (mkF m pc' Ls' (st)))) : Go p e below G (T.setTop (mkF m pc Ls (x :: st))) := by
  subst hp
  exact Go.to (fun t q => XS.astoreN X.here hx rfl hd rfl hv hl q) k
theorem g_aload (X : Stand p l e R s m args below meth c T locs cells slots) (hx : p.tables.exec = Jvm.exec) {k : Nat} {v : Value} (hd : decode c.code pc = .ok (.aload k, 2)) (hp : pc + 2 = pc') (hl : Ls[k]? = some (.val v)) (hv : v.isRef = true) (k : Go p e below G (T.setTop (mkF m pc' Ls (v :: st)))) : Go p e below G (T.setTop (mkF m pc Ls (st))) := by
  subst hp
  exact Go.to (fun t q => XS.aload X.here hx rfl hd hl hv q) k
theorem g_iload (X : Stand p l e R s m args below meth c T locs cells slots) (hx : p.tables.exec = Jvm.exec) {k : Nat} {v : Int32} (hd : decode c.code pc = .ok (.iload k, 2)) (hp : pc + 2 = pc') (hl : Ls[k]? = some (.val (.int v))) (k : Go p e below G (T.setTop (mkF m pc' Ls (.int v :: st)))) : Go p e below G (T.setTop (mkF m pc Ls (st))) := by
  subst hp
  exact Go.to (fun t q => XS.iload X.here hx rfl hd hl q) k
theorem g_lload (X : Stand p l e R s m args below meth c T locs cells slots) (hx : p.tables.exec = Jvm.exec) {k : Nat} {v : Int64} (hd : decode c.code pc = .ok (.lload k, 2)) (hp : pc + 2 = pc') (hl : Ls[k]? = some (.val (.long v))) (k : Go p e below G (T.setTop (mkF m pc' Ls (.long v :: st)))) : Go p e below G (T.setTop (mkF m pc Ls (st))) := by
  subst hp
  exact Go.to (fun t q => XT.lload X.here hx rfl hd hl q) k
theorem g_istore (X : Stand p l e R s m args below meth c T locs cells slots) (hx : p.tables.exec = Jvm.exec) {k : Nat} {x : Int32} (hd : decode c.code pc = .ok (.istore k, 2)) (hp : pc + 2 = pc') (hl : storeLocals Ls k (.int x) = some Ls') (k : Go p e below G (T.setTop (mkF m pc' Ls' (st)))) : Go p e below G (T.setTop (mkF m pc Ls (.int x :: st))) := by
  subst hp
  exact Go.to (fun t q => XS.istore X.here hx rfl hd rfl hl q) k
theorem g_lstore (X : Stand p l e R s m args below meth c T locs cells slots) (hx : p.tables.exec = Jvm.exec) {k : Nat} {x : Int64} (hd : decode c.code pc = .ok (.lstore k, 2)) (hp : pc + 2 = pc') (hl : storeLocals Ls k (.long x) = some Ls') (k : Go p e below G (T.setTop (mkF m pc' Ls' (st)))) : Go p e below G (T.setTop (mkF m pc Ls (.long x :: st))) := by
  subst hp
  exact Go.to (fun t q => XT.lstore X.here hx rfl hd rfl hl q) k
theorem g_astore (X : Stand p l e R s m args below meth c T locs cells slots) (hx : p.tables.exec = Jvm.exec) {k : Nat} {x : Value} (hd : decode c.code pc = .ok (.astore k, 2)) (hp : pc + 2 = pc') (hv : x.isRef = true) (hl : storeLocals Ls k x = some Ls') (k : Go p e below G (T.setTop (mkF m pc' Ls' (st)))) : Go p e below G (T.setTop (mkF m pc Ls (x :: st))) := by
  subst hp
  exact Go.to (fun t q => XS.astore X.here hx rfl hd rfl hv hl q) k
theorem g_iconst (X : Stand p l e R s m args below meth c T locs cells slots) (hx : p.tables.exec = Jvm.exec) {i : Int} {z : Int32} (hd : decode c.code pc = .ok (.iconst i, 1)) (hp : pc + 1 = pc') (hz : Int32.ofInt i = z) (k : Go p e below G (T.setTop (mkF m pc' Ls (.int z :: st)))) : Go p e below G (T.setTop (mkF m pc Ls (st))) := by
  subst hp hz
  exact Go.to (fun t q => XS.iconst X.here hx rfl hd  q) k
theorem g_bipush (X : Stand p l e R s m args below meth c T locs cells slots) (hx : p.tables.exec = Jvm.exec) {i : Int} {z : Int32} (hd : decode c.code pc = .ok (.bipush i, 2)) (hp : pc + 2 = pc') (hz : (Int8.ofInt i).toInt32 = z) (k : Go p e below G (T.setTop (mkF m pc' Ls (.int z :: st)))) : Go p e below G (T.setTop (mkF m pc Ls (st))) := by
  subst hp hz
  exact Go.to (fun t q => XS.bipush X.here hx rfl hd  q) k
theorem g_sipush (X : Stand p l e R s m args below meth c T locs cells slots) (hx : p.tables.exec = Jvm.exec) {i : Int} {z : Int32} (hd : decode c.code pc = .ok (.sipush i, 3)) (hp : pc + 3 = pc') (hz : (Int16.ofInt i).toInt32 = z) (k : Go p e below G (T.setTop (mkF m pc' Ls (.int z :: st)))) : Go p e below G (T.setTop (mkF m pc Ls (st))) := by
  subst hp hz
  exact Go.to (fun t q => XS.sipush X.here hx rfl hd  q) k
theorem g_lconst (X : Stand p l e R s m args below meth c T locs cells slots) (hx : p.tables.exec = Jvm.exec) {i : Fin 2} {z : Int64} (hd : decode c.code pc = .ok (.lconst i, 1)) (hp : pc + 1 = pc') (hz : Int64.ofNat i = z) (k : Go p e below G (T.setTop (mkF m pc' Ls (.long z :: st)))) : Go p e below G (T.setTop (mkF m pc Ls (st))) := by
  subst hp hz
  exact Go.to (fun t q => XT.lconst X.here hx rfl hd  q) k
theorem g_aconstNull (X : Stand p l e R s m args below meth c T locs cells slots) (hx : p.tables.exec = Jvm.exec)  (hd : decode c.code pc = .ok (.aconst_null, 1)) (hp : pc + 1 = pc')  (k : Go p e below G (T.setTop (mkF m pc' Ls (.null :: st)))) : Go p e below G (T.setTop (mkF m pc Ls (st))) := by
  subst hp
  exact Go.to (fun t q => XS.aconstNull X.here hx rfl hd  q) k
theorem g_iadd (X : Stand p l e R s m args below meth c T locs cells slots) (hx : p.tables.exec = Jvm.exec) {x y z : Int32} (hd : decode c.code pc = .ok (.iadd, 1)) (hp : pc + 1 = pc') (hz : x + y = z) (k : Go p e below G (T.setTop (mkF m pc' Ls (.int z :: st)))) : Go p e below G (T.setTop (mkF m pc Ls (.int y :: .int x :: st))) := by
  subst hp hz
  exact Go.to (fun t q => XS.iadd X.here hx rfl hd rfl q) k
theorem g_isub (X : Stand p l e R s m args below meth c T locs cells slots) (hx : p.tables.exec = Jvm.exec) {x y z : Int32} (hd : decode c.code pc = .ok (.isub, 1)) (hp : pc + 1 = pc') (hz : x - y = z) (k : Go p e below G (T.setTop (mkF m pc' Ls (.int z :: st)))) : Go p e below G (T.setTop (mkF m pc Ls (.int y :: .int x :: st))) := by
  subst hp hz
  exact Go.to (fun t q => XS.isub X.here hx rfl hd rfl q) k
theorem g_iand (X : Stand p l e R s m args below meth c T locs cells slots) (hx : p.tables.exec = Jvm.exec) {x y z : Int32} (hd : decode c.code pc = .ok (.iand, 1)) (hp : pc + 1 = pc') (hz : x &&& y = z) (k : Go p e below G (T.setTop (mkF m pc' Ls (.int z :: st)))) : Go p e below G (T.setTop (mkF m pc Ls (.int y :: .int x :: st))) := by
  subst hp hz
  exact Go.to (fun t q => XS.iand X.here hx rfl hd rfl q) k
theorem g_imul (X : Stand p l e R s m args below meth c T locs cells slots) (hx : p.tables.exec = Jvm.exec) {x y z : Int32} (hd : decode c.code pc = .ok (.imul, 1)) (hp : pc + 1 = pc') (hz : x * y = z) (k : Go p e below G (T.setTop (mkF m pc' Ls (.int z :: st)))) : Go p e below G (T.setTop (mkF m pc Ls (.int y :: .int x :: st))) := by
  subst hp hz
  exact Go.to (fun t q => XS.imul X.here hx rfl hd rfl q) k
theorem g_ixor (X : Stand p l e R s m args below meth c T locs cells slots) (hx : p.tables.exec = Jvm.exec) {x y z : Int32} (hd : decode c.code pc = .ok (.ixor, 1)) (hp : pc + 1 = pc') (hz : x ^^^ y = z) (k : Go p e below G (T.setTop (mkF m pc' Ls (.int z :: st)))) : Go p e below G (T.setTop (mkF m pc Ls (.int y :: .int x :: st))) := by
  subst hp hz
  exact Go.to (fun t q => XT.ixor X.here hx rfl hd rfl q) k
theorem g_ior (X : Stand p l e R s m args below meth c T locs cells slots) (hx : p.tables.exec = Jvm.exec) {x y z : Int32} (hd : decode c.code pc = .ok (.ior, 1)) (hp : pc + 1 = pc') (hz : x ||| y = z) (k : Go p e below G (T.setTop (mkF m pc' Ls (.int z :: st)))) : Go p e below G (T.setTop (mkF m pc Ls (.int y :: .int x :: st))) := by
  subst hp hz
  exact Go.to (fun t q => XT.ior X.here hx rfl hd rfl q) k
theorem g_ishl (X : Stand p l e R s m args below meth c T locs cells slots) (hx : p.tables.exec = Jvm.exec) {x y z : Int32} (hd : decode c.code pc = .ok (.ishl, 1)) (hp : pc + 1 = pc') (hz : x <<< (y &&& 31) = z) (k : Go p e below G (T.setTop (mkF m pc' Ls (.int z :: st)))) : Go p e below G (T.setTop (mkF m pc Ls (.int y :: .int x :: st))) := by
  subst hp hz
  exact Go.to (fun t q => XT.ishl X.here hx rfl hd rfl q) k
theorem g_ishr (X : Stand p l e R s m args below meth c T locs cells slots) (hx : p.tables.exec = Jvm.exec) {x y z : Int32} (hd : decode c.code pc = .ok (.ishr, 1)) (hp : pc + 1 = pc') (hz : x >>> (y &&& 31) = z) (k : Go p e below G (T.setTop (mkF m pc' Ls (.int z :: st)))) : Go p e below G (T.setTop (mkF m pc Ls (.int y :: .int x :: st))) := by
  subst hp hz
  exact Go.to (fun t q => XT.ishr X.here hx rfl hd rfl q) k
theorem g_iushr (X : Stand p l e R s m args below meth c T locs cells slots) (hx : p.tables.exec = Jvm.exec) {x y z : Int32} (hd : decode c.code pc = .ok (.iushr, 1)) (hp : pc + 1 = pc') (hz : XT.ushr x y = z) (k : Go p e below G (T.setTop (mkF m pc' Ls (.int z :: st)))) : Go p e below G (T.setTop (mkF m pc Ls (.int y :: .int x :: st))) := by
  subst hp hz
  exact Go.to (fun t q => XT.iushr X.here hx rfl hd rfl q) k
theorem g_irem (X : Stand p l e R s m args below meth c T locs cells slots) (hx : p.tables.exec = Jvm.exec) {x y z : Int32} (hd : decode c.code pc = .ok (.irem, 1)) (hp : pc + 1 = pc') (hy : y ≠ 0) (hz : x - (x / y) * y = z) (k : Go p e below G (T.setTop (mkF m pc' Ls (.int z :: st)))) : Go p e below G (T.setTop (mkF m pc Ls (.int y :: .int x :: st))) := by
  subst hp hz
  exact Go.to (fun t q => XS.irem X.here hx rfl hd rfl hy q) k
theorem g_idiv (X : Stand p l e R s m args below meth c T locs cells slots) (hx : p.tables.exec = Jvm.exec) {x y z : Int32} (hd : decode c.code pc = .ok (.idiv, 1)) (hp : pc + 1 = pc') (hy : y ≠ 0) (hz : x / y = z) (k : Go p e below G (T.setTop (mkF m pc' Ls (.int z :: st)))) : Go p e below G (T.setTop (mkF m pc Ls (.int y :: .int x :: st))) := by
  subst hp hz
  exact Go.to (fun t q => XS.idiv X.here hx rfl hd rfl hy q) k
theorem g_ladd (X : Stand p l e R s m args below meth c T locs cells slots) (hx : p.tables.exec = Jvm.exec) {x y z : Int64} (hd : decode c.code pc = .ok (.ladd, 1)) (hp : pc + 1 = pc') (hz : x + y = z) (k : Go p e below G (T.setTop (mkF m pc' Ls (.long z :: st)))) : Go p e below G (T.setTop (mkF m pc Ls (.long y :: .long x :: st))) := by
  subst hp hz
  exact Go.to (fun t q => XT.ladd X.here hx rfl hd rfl q) k
theorem g_lsub (X : Stand p l e R s m args below meth c T locs cells slots) (hx : p.tables.exec = Jvm.exec) {x y z : Int64} (hd : decode c.code pc = .ok (.lsub, 1)) (hp : pc + 1 = pc') (hz : x - y = z) (k : Go p e below G (T.setTop (mkF m pc' Ls (.long z :: st)))) : Go p e below G (T.setTop (mkF m pc Ls (.long y :: .long x :: st))) := by
  subst hp hz
  exact Go.to (fun t q => XT.lsub X.here hx rfl hd rfl q) k
theorem g_land (X : Stand p l e R s m args below meth c T locs cells slots) (hx : p.tables.exec = Jvm.exec) {x y z : Int64} (hd : decode c.code pc = .ok (.land, 1)) (hp : pc + 1 = pc') (hz : x &&& y = z) (k : Go p e below G (T.setTop (mkF m pc' Ls (.long z :: st)))) : Go p e below G (T.setTop (mkF m pc Ls (.long y :: .long x :: st))) := by
  subst hp hz
  exact Go.to (fun t q => XT.land X.here hx rfl hd rfl q) k
theorem g_lor (X : Stand p l e R s m args below meth c T locs cells slots) (hx : p.tables.exec = Jvm.exec) {x y z : Int64} (hd : decode c.code pc = .ok (.lor, 1)) (hp : pc + 1 = pc') (hz : x ||| y = z) (k : Go p e below G (T.setTop (mkF m pc' Ls (.long z :: st)))) : Go p e below G (T.setTop (mkF m pc Ls (.long y :: .long x :: st))) := by
  subst hp hz
  exact Go.to (fun t q => XT.lor X.here hx rfl hd rfl q) k
theorem g_lxor (X : Stand p l e R s m args below meth c T locs cells slots) (hx : p.tables.exec = Jvm.exec) {x y z : Int64} (hd : decode c.code pc = .ok (.lxor, 1)) (hp : pc + 1 = pc') (hz : x ^^^ y = z) (k : Go p e below G (T.setTop (mkF m pc' Ls (.long z :: st)))) : Go p e below G (T.setTop (mkF m pc Ls (.long y :: .long x :: st))) := by
  subst hp hz
  exact Go.to (fun t q => XT.lxor X.here hx rfl hd rfl q) k
theorem g_lmul (X : Stand p l e R s m args below meth c T locs cells slots) (hx : p.tables.exec = Jvm.exec) {x y z : Int64} (hd : decode c.code pc = .ok (.lmul, 1)) (hp : pc + 1 = pc') (hz : x * y = z) (k : Go p e below G (T.setTop (mkF m pc' Ls (.long z :: st)))) : Go p e below G (T.setTop (mkF m pc Ls (.long y :: .long x :: st))) := by
  subst hp hz
  exact Go.to (fun t q => XT.lmul X.here hx rfl hd rfl q) k
theorem g_lshl (X : Stand p l e R s m args below meth c T locs cells slots) (hx : p.tables.exec = Jvm.exec) {x z : Int64} {y : Int32} (hd : decode c.code pc = .ok (.lshl, 1)) (hp : pc + 1 = pc') (hz : x <<< (y.toInt64 &&& 63) = z) (k : Go p e below G (T.setTop (mkF m pc' Ls (.long z :: st)))) : Go p e below G (T.setTop (mkF m pc Ls (.int y :: .long x :: st))) := by
  subst hp hz
  exact Go.to (fun t q => XT.lshl X.here hx rfl hd rfl q) k
theorem g_lushr (X : Stand p l e R s m args below meth c T locs cells slots) (hx : p.tables.exec = Jvm.exec) {x z : Int64} {y : Int32} (hd : decode c.code pc = .ok (.lushr, 1)) (hp : pc + 1 = pc') (hz : XT.ushrL x y = z) (k : Go p e below G (T.setTop (mkF m pc' Ls (.long z :: st)))) : Go p e below G (T.setTop (mkF m pc Ls (.int y :: .long x :: st))) := by
  subst hp hz
  exact Go.to (fun t q => XT.lushr X.here hx rfl hd rfl q) k
theorem g_l2i (X : Stand p l e R s m args below meth c T locs cells slots) (hx : p.tables.exec = Jvm.exec) {x : Int64} {z : Int32} (hd : decode c.code pc = .ok (.l2i, 1)) (hp : pc + 1 = pc') (hz : x.toInt32 = z) (k : Go p e below G (T.setTop (mkF m pc' Ls (.int z :: st)))) : Go p e below G (T.setTop (mkF m pc Ls (.long x :: st))) := by
  subst hp hz
  exact Go.to (fun t q => XT.l2i X.here hx rfl hd rfl q) k
theorem g_i2l (X : Stand p l e R s m args below meth c T locs cells slots) (hx : p.tables.exec = Jvm.exec) {x : Int32} {z : Int64} (hd : decode c.code pc = .ok (.i2l, 1)) (hp : pc + 1 = pc') (hz : x.toInt64 = z) (k : Go p e below G (T.setTop (mkF m pc' Ls (.long z :: st)))) : Go p e below G (T.setTop (mkF m pc Ls (.int x :: st))) := by
  subst hp hz
  exact Go.to (fun t q => XT.i2l X.here hx rfl hd rfl q) k
theorem g_i2b (X : Stand p l e R s m args below meth c T locs cells slots) (hx : p.tables.exec = Jvm.exec) {x z : Int32} (hd : decode c.code pc = .ok (.i2b, 1)) (hp : pc + 1 = pc') (hz : x.toInt8.toInt32 = z) (k : Go p e below G (T.setTop (mkF m pc' Ls (.int z :: st)))) : Go p e below G (T.setTop (mkF m pc Ls (.int x :: st))) := by
  subst hp hz
  exact Go.to (fun t q => XT.i2b X.here hx rfl hd rfl q) k
theorem g_lcmp (X : Stand p l e R s m args below meth c T locs cells slots) (hx : p.tables.exec = Jvm.exec) {x y : Int64} {z : Int32} (hd : decode c.code pc = .ok (.lcmp, 1)) (hp : pc + 1 = pc') (hz : XT.cmpL x y = z) (k : Go p e below G (T.setTop (mkF m pc' Ls (.int z :: st)))) : Go p e below G (T.setTop (mkF m pc Ls (.long y :: .long x :: st))) := by
  subst hp hz
  exact Go.to (fun t q => XT.lcmp X.here hx rfl hd rfl q) k
theorem g_dup (X : Stand p l e R s m args below meth c T locs cells slots) (hx : p.tables.exec = Jvm.exec) {x : Value} (hd : decode c.code pc = .ok (.dup, 1)) (hp : pc + 1 = pc') (hc : x.category = 1) (k : Go p e below G (T.setTop (mkF m pc' Ls (x :: x :: st)))) : Go p e below G (T.setTop (mkF m pc Ls (x :: st))) := by
  subst hp
  exact Go.to (fun t q => XS.dup X.here hx rfl hd rfl hc q) k
theorem g_dupX1 (X : Stand p l e R s m args below meth c T locs cells slots) (hx : p.tables.exec = Jvm.exec) {x y : Value} (hd : decode c.code pc = .ok (.dup_x1, 1)) (hp : pc + 1 = pc') (hc : x.category = 1) (hc' : y.category = 1) (k : Go p e below G (T.setTop (mkF m pc' Ls (x :: y :: x :: st)))) : Go p e below G (T.setTop (mkF m pc Ls (x :: y :: st))) := by
  subst hp
  exact Go.to (fun t q => XT.dupX1 X.here hx rfl hd rfl hc hc' q) k
theorem g_pop (X : Stand p l e R s m args below meth c T locs cells slots) (hx : p.tables.exec = Jvm.exec) {x : Value} (hd : decode c.code pc = .ok (.pop, 1)) (hp : pc + 1 = pc') (hc : x.category = 1) (k : Go p e below G (T.setTop (mkF m pc' Ls (st)))) : Go p e below G (T.setTop (mkF m pc Ls (x :: st))) := by
  subst hp
  exact Go.to (fun t q => XT.pop X.here hx rfl hd rfl hc q) k
theorem g_iinc (X : Stand p l e R s m args below meth c T locs cells slots) (hx : p.tables.exec = Jvm.exec) {i : Nat} {cst : Int} {x z : Int32} (hd : decode c.code pc = .ok (.iinc i cst, 3)) (hp : pc + 3 = pc') (hl : Ls[i]? = some (.val (.int x))) (hz : x + Int32.ofInt cst = z) (hl' : storeLocals Ls i (.int z) = some Ls') (k : Go p e below G (T.setTop (mkF m pc' Ls' (st)))) : Go p e below G (T.setTop (mkF m pc Ls (st))) := by
  subst hp hz
  exact Go.to (fun t q => XS.iinc X.here hx rfl hd hl hl' q) k
theorem g_goto (X : Stand p l e R s m args below meth c T locs cells slots) (hx : p.tables.exec = Jvm.exec) {o : Int} (hd : decode c.code pc = .ok (.goto o, 3)) (ho : 0 ≤ (pc : Int) + o) (hp : ((pc : Int) + o).toNat = pc') (k : Go p e below G (T.setTop (mkF m pc' Ls st))) : Go p e below G (T.setTop (mkF m pc Ls st)) :=
  Go.to (fun t q => XS.goto X.here hx rfl (pc0 := pc) (pc' := pc') rfl hd ho hp q) k
theorem g_icmpB (X : Stand p l e R s m args below meth c T locs cells slots) (hx : p.tables.exec = Jvm.exec) {cd : ClassFile.Cond} {x y : Int32} {o : Int} {pcF : Nat} (hd : decode c.code pc = .ok (.if_icmp cd o, 3)) (ho : 0 ≤ (pc : Int) + o) (hp : ((pc : Int) + o).toNat = pc') (hq : pc + 3 = pcF) (kT : if_icmp.holds cd x y = true → Go p e below G (T.setTop (mkF m pc' Ls st))) (kF : if_icmp.holds cd x y = false → Go p e below G (T.setTop (mkF m pcF Ls st))) : Go p e below G (T.setTop (mkF m pc Ls (.int y :: .int x :: st))) := by
  cases q : if_icmp.holds cd x y
  · subst hq; exact Go.to (fun t r => XS.icmpNo X.here hx rfl hd rfl q r) (kF q)
  · exact Go.to (fun t r => XS.icmpYes X.here hx rfl (pc0 := pc) (pc' := pc') rfl hd rfl q ho hp r) (kT q)
theorem g_icmp_eq (X : Stand p l e R s m args below meth c T locs cells slots) (hx : p.tables.exec = Jvm.exec) {x y : Int32} {o : Int} {pcF : Nat} (hd : decode c.code pc = .ok (.if_icmp .eq o, 3)) (ho : 0 ≤ (pc : Int) + o) (hp : ((pc : Int) + o).toNat = pc') (hq : pc + 3 = pcF) (kT : x = y → Go p e below G (T.setTop (mkF m pc' Ls st))) (kF : ¬ x = y → Go p e below G (T.setTop (mkF m pcF Ls st))) : Go p e below G (T.setTop (mkF m pc Ls (.int y :: .int x :: st))) :=
  g_icmpB X hx hd ho hp hq (fun q => kT (by by_cases r : x = y <;> first | exact r | (rw [(teq r).1] at q; cases q) | (rw [(feq r).1] at q; cases q))) (fun q => kF (by by_cases r : x = y <;> first | exact r | (rw [(teq r).1] at q; cases q) | (rw [(feq r).1] at q; cases q)))
theorem g_icmp_ne (X : Stand p l e R s m args below meth c T locs cells slots) (hx : p.tables.exec = Jvm.exec) {x y : Int32} {o : Int} {pcF : Nat} (hd : decode c.code pc = .ok (.if_icmp .ne o, 3)) (ho : 0 ≤ (pc : Int) + o) (hp : ((pc : Int) + o).toNat = pc') (hq : pc + 3 = pcF) (kT : ¬ x = y → Go p e below G (T.setTop (mkF m pc' Ls st))) (kF : x = y → Go p e below G (T.setTop (mkF m pcF Ls st))) : Go p e below G (T.setTop (mkF m pc Ls (.int y :: .int x :: st))) :=
  g_icmpB X hx hd ho hp hq (fun q => kT (by by_cases r : x = y <;> first | exact r | (rw [(teq r).2] at q; cases q) | (rw [(feq r).2] at q; cases q))) (fun q => kF (by by_cases r : x = y <;> first | exact r | (rw [(teq r).2] at q; cases q) | (rw [(feq r).2] at q; cases q)))
theorem g_icmp_lt (X : Stand p l e R s m args below meth c T locs cells slots) (hx : p.tables.exec = Jvm.exec) {x y : Int32} {o : Int} {pcF : Nat} (hd : decode c.code pc = .ok (.if_icmp .lt o, 3)) (ho : 0 ≤ (pc : Int) + o) (hp : ((pc : Int) + o).toNat = pc') (hq : pc + 3 = pcF) (kT : x < y → Go p e below G (T.setTop (mkF m pc' Ls st))) (kF : ¬ x < y → Go p e below G (T.setTop (mkF m pcF Ls st))) : Go p e below G (T.setTop (mkF m pc Ls (.int y :: .int x :: st))) :=
  g_icmpB X hx hd ho hp hq (fun q => kT (by by_cases r : x < y <;> first | exact r | (rw [(tlt r).1] at q; cases q) | (rw [(flt r).1] at q; cases q))) (fun q => kF (by by_cases r : x < y <;> first | exact r | (rw [(tlt r).1] at q; cases q) | (rw [(flt r).1] at q; cases q)))
theorem g_icmp_ge (X : Stand p l e R s m args below meth c T locs cells slots) (hx : p.tables.exec = Jvm.exec) {x y : Int32} {o : Int} {pcF : Nat} (hd : decode c.code pc = .ok (.if_icmp .ge o, 3)) (ho : 0 ≤ (pc : Int) + o) (hp : ((pc : Int) + o).toNat = pc') (hq : pc + 3 = pcF) (kT : ¬ x < y → Go p e below G (T.setTop (mkF m pc' Ls st))) (kF : x < y → Go p e below G (T.setTop (mkF m pcF Ls st))) : Go p e below G (T.setTop (mkF m pc Ls (.int y :: .int x :: st))) :=
  g_icmpB X hx hd ho hp hq (fun q => kT (by by_cases r : x < y <;> first | exact r | (rw [(tlt r).2.1] at q; cases q) | (rw [(flt r).2.1] at q; cases q))) (fun q => kF (by by_cases r : x < y <;> first | exact r | (rw [(tlt r).2.1] at q; cases q) | (rw [(flt r).2.1] at q; cases q)))
theorem g_icmp_gt (X : Stand p l e R s m args below meth c T locs cells slots) (hx : p.tables.exec = Jvm.exec) {x y : Int32} {o : Int} {pcF : Nat} (hd : decode c.code pc = .ok (.if_icmp .gt o, 3)) (ho : 0 ≤ (pc : Int) + o) (hp : ((pc : Int) + o).toNat = pc') (hq : pc + 3 = pcF) (kT : y < x → Go p e below G (T.setTop (mkF m pc' Ls st))) (kF : ¬ y < x → Go p e below G (T.setTop (mkF m pcF Ls st))) : Go p e below G (T.setTop (mkF m pc Ls (.int y :: .int x :: st))) :=
  g_icmpB X hx hd ho hp hq (fun q => kT (by by_cases r : y < x <;> first | exact r | (rw [(tlt r).2.2.1] at q; cases q) | (rw [(flt r).2.2.1] at q; cases q))) (fun q => kF (by by_cases r : y < x <;> first | exact r | (rw [(tlt r).2.2.1] at q; cases q) | (rw [(flt r).2.2.1] at q; cases q)))
theorem g_icmp_le (X : Stand p l e R s m args below meth c T locs cells slots) (hx : p.tables.exec = Jvm.exec) {x y : Int32} {o : Int} {pcF : Nat} (hd : decode c.code pc = .ok (.if_icmp .le o, 3)) (ho : 0 ≤ (pc : Int) + o) (hp : ((pc : Int) + o).toNat = pc') (hq : pc + 3 = pcF) (kT : ¬ y < x → Go p e below G (T.setTop (mkF m pc' Ls st))) (kF : y < x → Go p e below G (T.setTop (mkF m pcF Ls st))) : Go p e below G (T.setTop (mkF m pc Ls (.int y :: .int x :: st))) :=
  g_icmpB X hx hd ho hp hq (fun q => kT (by by_cases r : y < x <;> first | exact r | (rw [(tlt r).2.2.2] at q; cases q) | (rw [(flt r).2.2.2] at q; cases q))) (fun q => kF (by by_cases r : y < x <;> first | exact r | (rw [(tlt r).2.2.2] at q; cases q) | (rw [(flt r).2.2.2] at q; cases q)))
theorem g_ifB (X : Stand p l e R s m args below meth c T locs cells slots) (hx : p.tables.exec = Jvm.exec) {cd : ClassFile.Cond} {x : Int32} {o : Int} {pcF : Nat} (hd : decode c.code pc = .ok (.ifCond cd o, 3)) (ho : 0 ≤ (pc : Int) + o) (hp : ((pc : Int) + o).toNat = pc') (hq : pc + 3 = pcF) (kT : ifCond.holds cd x = true → Go p e below G (T.setTop (mkF m pc' Ls st))) (kF : ifCond.holds cd x = false → Go p e below G (T.setTop (mkF m pcF Ls st))) : Go p e below G (T.setTop (mkF m pc Ls (.int x :: st))) := by
  cases q : ifCond.holds cd x
  · subst hq; exact Go.to (fun t r => XS.ifNo X.here hx rfl hd rfl q r) (kF q)
  · exact Go.to (fun t r => XS.ifYes X.here hx rfl (pc0 := pc) (pc' := pc') rfl hd rfl q ho hp r) (kT q)
theorem g_if_eq (X : Stand p l e R s m args below meth c T locs cells slots) (hx : p.tables.exec = Jvm.exec) {x : Int32} {o : Int} {pcF : Nat} (hd : decode c.code pc = .ok (.ifCond .eq o, 3)) (ho : 0 ≤ (pc : Int) + o) (hp : ((pc : Int) + o).toNat = pc') (hq : pc + 3 = pcF) (kT : x = 0 → Go p e below G (T.setTop (mkF m pc' Ls st))) (kF : ¬ x = 0 → Go p e below G (T.setTop (mkF m pcF Ls st))) : Go p e below G (T.setTop (mkF m pc Ls (.int x :: st))) :=
  g_ifB X hx hd ho hp hq (fun q => kT (by rw [if0] at q; by_cases r : x = 0 <;> first | exact r | (rw [(teq r).1] at q; cases q) | (rw [(feq r).1] at q; cases q))) (fun q => kF (by rw [if0] at q; by_cases r : x = 0 <;> first | exact r | (rw [(teq r).1] at q; cases q) | (rw [(feq r).1] at q; cases q)))
theorem g_if_ne (X : Stand p l e R s m args below meth c T locs cells slots) (hx : p.tables.exec = Jvm.exec) {x : Int32} {o : Int} {pcF : Nat} (hd : decode c.code pc = .ok (.ifCond .ne o, 3)) (ho : 0 ≤ (pc : Int) + o) (hp : ((pc : Int) + o).toNat = pc') (hq : pc + 3 = pcF) (kT : ¬ x = 0 → Go p e below G (T.setTop (mkF m pc' Ls st))) (kF : x = 0 → Go p e below G (T.setTop (mkF m pcF Ls st))) : Go p e below G (T.setTop (mkF m pc Ls (.int x :: st))) :=
  g_ifB X hx hd ho hp hq (fun q => kT (by rw [if0] at q; by_cases r : x = 0 <;> first | exact r | (rw [(teq r).2] at q; cases q) | (rw [(feq r).2] at q; cases q))) (fun q => kF (by rw [if0] at q; by_cases r : x = 0 <;> first | exact r | (rw [(teq r).2] at q; cases q) | (rw [(feq r).2] at q; cases q)))
theorem g_if_lt (X : Stand p l e R s m args below meth c T locs cells slots) (hx : p.tables.exec = Jvm.exec) {x : Int32} {o : Int} {pcF : Nat} (hd : decode c.code pc = .ok (.ifCond .lt o, 3)) (ho : 0 ≤ (pc : Int) + o) (hp : ((pc : Int) + o).toNat = pc') (hq : pc + 3 = pcF) (kT : x < 0 → Go p e below G (T.setTop (mkF m pc' Ls st))) (kF : ¬ x < 0 → Go p e below G (T.setTop (mkF m pcF Ls st))) : Go p e below G (T.setTop (mkF m pc Ls (.int x :: st))) :=
  g_ifB X hx hd ho hp hq (fun q => kT (by rw [if0] at q; by_cases r : x < 0 <;> first | exact r | (rw [(tlt r).1] at q; cases q) | (rw [(flt r).1] at q; cases q))) (fun q => kF (by rw [if0] at q; by_cases r : x < 0 <;> first | exact r | (rw [(tlt r).1] at q; cases q) | (rw [(flt r).1] at q; cases q)))
theorem g_if_ge (X : Stand p l e R s m args below meth c T locs cells slots) (hx : p.tables.exec = Jvm.exec) {x : Int32} {o : Int} {pcF : Nat} (hd : decode c.code pc = .ok (.ifCond .ge o, 3)) (ho : 0 ≤ (pc : Int) + o) (hp : ((pc : Int) + o).toNat = pc') (hq : pc + 3 = pcF) (kT : ¬ x < 0 → Go p e below G (T.setTop (mkF m pc' Ls st))) (kF : x < 0 → Go p e below G (T.setTop (mkF m pcF Ls st))) : Go p e below G (T.setTop (mkF m pc Ls (.int x :: st))) :=
  g_ifB X hx hd ho hp hq (fun q => kT (by rw [if0] at q; by_cases r : x < 0 <;> first | exact r | (rw [(tlt r).2.1] at q; cases q) | (rw [(flt r).2.1] at q; cases q))) (fun q => kF (by rw [if0] at q; by_cases r : x < 0 <;> first | exact r | (rw [(tlt r).2.1] at q; cases q) | (rw [(flt r).2.1] at q; cases q)))
theorem g_if_gt (X : Stand p l e R s m args below meth c T locs cells slots) (hx : p.tables.exec = Jvm.exec) {x : Int32} {o : Int} {pcF : Nat} (hd : decode c.code pc = .ok (.ifCond .gt o, 3)) (ho : 0 ≤ (pc : Int) + o) (hp : ((pc : Int) + o).toNat = pc') (hq : pc + 3 = pcF) (kT : 0 < x → Go p e below G (T.setTop (mkF m pc' Ls st))) (kF : ¬ 0 < x → Go p e below G (T.setTop (mkF m pcF Ls st))) : Go p e below G (T.setTop (mkF m pc Ls (.int x :: st))) :=
  g_ifB X hx hd ho hp hq (fun q => kT (by rw [if0] at q; by_cases r : 0 < x <;> first | exact r | (rw [(tlt r).2.2.1] at q; cases q) | (rw [(flt r).2.2.1] at q; cases q))) (fun q => kF (by rw [if0] at q; by_cases r : 0 < x <;> first | exact r | (rw [(tlt r).2.2.1] at q; cases q) | (rw [(flt r).2.2.1] at q; cases q)))
theorem g_if_le (X : Stand p l e R s m args below meth c T locs cells slots) (hx : p.tables.exec = Jvm.exec) {x : Int32} {o : Int} {pcF : Nat} (hd : decode c.code pc = .ok (.ifCond .le o, 3)) (ho : 0 ≤ (pc : Int) + o) (hp : ((pc : Int) + o).toNat = pc') (hq : pc + 3 = pcF) (kT : ¬ 0 < x → Go p e below G (T.setTop (mkF m pc' Ls st))) (kF : 0 < x → Go p e below G (T.setTop (mkF m pcF Ls st))) : Go p e below G (T.setTop (mkF m pc Ls (.int x :: st))) :=
  g_ifB X hx hd ho hp hq (fun q => kT (by rw [if0] at q; by_cases r : 0 < x <;> first | exact r | (rw [(tlt r).2.2.2] at q; cases q) | (rw [(flt r).2.2.2] at q; cases q))) (fun q => kF (by rw [if0] at q; by_cases r : 0 < x <;> first | exact r | (rw [(tlt r).2.2.2] at q; cases q) | (rw [(flt r).2.2.2] at q; cases q)))
theorem g_acmp (X : Stand p l e R s m args below meth c T locs cells slots) (hx : p.tables.exec = Jvm.exec) {cd : ClassFile.ACond} {x y : Value} {o : Int} {pcF : Nat} (P : Prop) [Decidable P] (hd : decode c.code pc = .ok (.if_acmp cd o, 3)) (hxr : x.isRef = true) (hyr : y.isRef = true) (hP : XT.acmp cd x y = decide P) (ho : 0 ≤ (pc : Int) + o) (hp : ((pc : Int) + o).toNat = pc') (hq : pc + 3 = pcF) (kT : P → Go p e below G (T.setTop (mkF m pc' Ls st))) (kF : ¬ P → Go p e below G (T.setTop (mkF m pcF Ls st))) : Go p e below G (T.setTop (mkF m pc Ls (y :: x :: st))) := by
  by_cases q : P
  · exact Go.to (fun t r => XT.acmpYes X.here hx rfl (pc0 := pc) (pc' := pc') rfl hd rfl hxr hyr (hP.trans (decide_eq_true q)) ho hp r) (kT q)
  · subst hq; exact Go.to (fun t r => XT.acmpNo X.here hx rfl hd rfl hxr hyr (hP.trans (decide_eq_false q)) r) (kF q)
theorem g_ifnullN (X : Stand p l e R s m args below meth c T locs cells slots) (hx : p.tables.exec = Jvm.exec) {o : Int} {b : Addr} (hd : decode c.code pc = .ok (.ifnull o, 3)) (hp : pc + 3 = pc') (k : Go p e below G (T.setTop (mkF m pc' Ls st))) : Go p e below G (T.setTop (mkF m pc Ls (.ref b :: st))) := by
  subst hp; exact Go.to (fun t q => XS.ifnullNo X.here hx rfl hd rfl q) k
theorem g_ifnullY (X : Stand p l e R s m args below meth c T locs cells slots) (hx : p.tables.exec = Jvm.exec) {o : Int} (hd : decode c.code pc = .ok (.ifnull o, 3)) (ho : 0 ≤ (pc : Int) + o) (hp : ((pc : Int) + o).toNat = pc') (k : Go p e below G (T.setTop (mkF m pc' Ls st))) : Go p e below G (T.setTop (mkF m pc Ls (.null :: st))) :=
  Go.to (fun t q => XS.ifnullYes X.here hx rfl (pc0 := pc) (pc' := pc') rfl hd rfl ho hp q) k
theorem g_ifnonnullN (X : Stand p l e R s m args below meth c T locs cells slots) (hx : p.tables.exec = Jvm.exec) {o : Int} (hd : decode c.code pc = .ok (.ifnonnull o, 3)) (hp : pc + 3 = pc') (k : Go p e below G (T.setTop (mkF m pc' Ls st))) : Go p e below G (T.setTop (mkF m pc Ls (.null :: st))) := by
  subst hp; exact Go.to (fun t q => XT.ifnonnullNo X.here hx rfl hd rfl q) k
theorem g_ifnonnullY (X : Stand p l e R s m args below meth c T locs cells slots) (hx : p.tables.exec = Jvm.exec) {o : Int} {b : Addr} (hd : decode c.code pc = .ok (.ifnonnull o, 3)) (ho : 0 ≤ (pc : Int) + o) (hp : ((pc : Int) + o).toNat = pc') (k : Go p e below G (T.setTop (mkF m pc' Ls st))) : Go p e below G (T.setTop (mkF m pc Ls (.ref b :: st))) :=
  Go.to (fun t q => XT.ifnonnullYes X.here hx rfl (pc0 := pc) (pc' := pc') rfl hd rfl ho hp q) k
theorem g_ldcI (X : Stand p l e R s m args below meth c T locs cells slots) (hx : p.tables.exec = Jvm.exec) (hZ : Z.Warmed39 s.vm) {own : String} {index : Nat} {v : Int32} (hown : s.vm.findClass own = some m.cls) (w : (Cond.constant own index v).before a0 Z = true) (hd : decode c.code pc = .ok (.ldc index, 2)) (hp : pc + 2 = pc') (k : Go p e below G (T.setTop (mkF m pc' Ls (.int v :: st)))) : Go p e below G (T.setTop (mkF m pc Ls st)) := by
  subst hp; exact Go.to (fun t q => X.ldcInt hx hown (mvT hZ w) (g := mkF m pc Ls st) rfl hd t q) k
theorem g_ldc2L (X : Stand p l e R s m args below meth c T locs cells slots) (hx : p.tables.exec = Jvm.exec) (hZ : Z.Warmed39 s.vm) {own : String} {index : Nat} {v : Int64} (hown : s.vm.findClass own = some m.cls) (w : (Cond.constantLong own index v).before a0 Z = true) (hd : decode c.code pc = .ok (.ldc2_w index, 3)) (hp : pc + 3 = pc') (k : Go p e below G (T.setTop (mkF m pc' Ls (.long v :: st)))) : Go p e below G (T.setTop (mkF m pc Ls st)) := by
  subst hp; exact Go.to (fun t q => X.ldc2Long hx hown (mvT hZ w) (g := mkF m pc Ls st) rfl hd t q) k
theorem g_ret (X : Stand p l e R s m args below meth c T locs cells slots) (hx : p.tables.exec = Jvm.exec) {w : Value} {t : FieldType} {i : Instr} {rest : List Value} {Q : Option Value → Heap → List Loc → Prop} {kc ks : Nat} (hret : meth.sig.returnType = some t) (hlk : meth.locks = false) (hn : narrow t w = w)
    (hi : (i = .ireturn ∧ (t = .int ∨ t = .boolean ∨ t = .byte ∨ t = .char ∨ t = .short) ∧ ∃ z, w = .int z) ∨ (i = .lreturn ∧ t = .long ∧ ∃ z, w = .long z) ∨ (i = .dreturn ∧ t = .double ∧ ∃ z, w = .double z) ∨ (i = .freturn ∧ t = .float ∧ ∃ z, w = .float z) ∨ (i = .areturn ∧ t.isReference = true ∧ w.isRef = true))
    (hd : decode c.code pc = .ok (i, 1)) (hc : cells ≤ kc) (hs : slots ≤ ks) (hq : Q (some w) T.heap locs) : Go p e below (Dn s below Q kc ks) (T.setTop (mkF m pc Ls (w :: rest))) := by
  obtain ⟨fs, hr, hrun, hended, hW, hsame⟩ := X.leave (v := some w) (fun h => by rw [hret] at h; cases h) hlk
  exact ⟨_, retOut X hx hret hn hi hd hr, _, hrun, hended, _, _, rfl, hq, ⟨_, rfl⟩, hW, hsame.mono hc hs⟩
theorem g_retI (X : Stand p l e R s m args below meth c T locs cells slots) (hx : p.tables.exec = Jvm.exec) {z : Int32} {rest : List Value} {Q : Option Value → Heap → List Loc → Prop} {kc ks : Nat} (hret : meth.sig.returnType = some .int) (hlk : meth.locks = false) (hd : decode c.code pc = .ok (.ireturn, 1)) (hc : cells ≤ kc) (hs : slots ≤ ks) (hq : Q (some (.int z)) T.heap locs) : Go p e below (Dn s below Q kc ks) (T.setTop (mkF m pc Ls (.int z :: rest))) :=
  g_ret X hx hret hlk rfl (Or.inl ⟨rfl, by simp, _, rfl⟩) hd hc hs hq
theorem g_retZ (X : Stand p l e R s m args below meth c T locs cells slots) (hx : p.tables.exec = Jvm.exec) {z : Int32} {rest : List Value} {Q : Option Value → Heap → List Loc → Prop} {kc ks : Nat} (hret : meth.sig.returnType = some .boolean) (hlk : meth.locks = false) (hz : nar .boolean z = z) (hd : decode c.code pc = .ok (.ireturn, 1)) (hc : cells ≤ kc) (hs : slots ≤ ks) (hq : Q (some (.int z)) T.heap locs) : Go p e below (Dn s below Q kc ks) (T.setTop (mkF m pc Ls (.int z :: rest))) :=
  g_ret X hx hret hlk (by show Value.int (nar .boolean z) = _; rw [hz]) (Or.inl ⟨rfl, by simp, _, rfl⟩) hd hc hs hq
theorem g_retR (X : Stand p l e R s m args below meth c T locs cells slots) (hx : p.tables.exec = Jvm.exec) {w : Value} {t : FieldType} {rest : List Value} {Q : Option Value → Heap → List Loc → Prop} {kc ks : Nat} (hret : meth.sig.returnType = some t) (hlk : meth.locks = false) (ht : t.isReference = true) (hw : w.isRef = true) (hd : decode c.code pc = .ok (.areturn, 1)) (hc : cells ≤ kc) (hs : slots ≤ ks) (hq : Q (some w) T.heap locs) : Go p e below (Dn s below Q kc ks) (T.setTop (mkF m pc Ls (w :: rest))) :=
  g_ret X hx hret hlk (by rcases ref_cases hw with rfl | ⟨a, rfl⟩ <;> cases t <;> first | rfl | cases ht) (Or.inr (Or.inr (Or.inr (Or.inr ⟨rfl, ht, hw⟩)))) hd hc hs hq
theorem g_retV (X : Stand p l e R s m args below meth c T locs cells slots) (hx : p.tables.exec = Jvm.exec) {Q : Option Value → Heap → List Loc → Prop} {kc ks : Nat} (hret : meth.sig.returnType = none) (hlk : meth.locks = false) (hd : decode c.code pc = .ok (.return_, 1)) (hc : cells ≤ kc) (hs : slots ≤ ks) (hq : Q none T.heap locs) : Go p e below (Dn s below Q kc ks) (T.setTop (mkF m pc Ls [])) := by
  obtain ⟨fs, hr, hrun, hended, hW, hsame⟩ := X.leave (v := none) (fun _ => rfl) hlk
  exact ⟨_, X.returnOut hx hret hd hr, _, hrun, hended, _, _, rfl, hq, ⟨_, rfl⟩, hW, hsame.mono hc hs⟩
theorem g_callS (X : Stand p l e R s m args below meth c T locs cells slots) (hx : p.tables.exec = Jvm.exec) (hZ : Z.Warmed39 s.vm) {own : String} {index : Nat} {y : MethodName} {bytes : ByteArray} {maxL : Nat} {ret : Option FieldType} {rm : Room} {as' : Array Value} {Q : Option Value → Heap → List Loc → Prop} (W : Nat) {argsL rest : List Value} (hown : s.vm.findClass own = some m.cls) (w1 : (Cond.methodLink own index y).before a0 Z = true) (w2 : (Cond.static y).before a0 Z = true) (w3 : (Cond.initialized y.cls).before a0 Z = true) (w4 : (Cond.code y bytes maxL ret).before a0 Z = true) (hy : y.cls ≠ "java/lang/invoke/MethodHandle" ∧ y.cls ≠ "java/lang/invoke/VarHandle")
    (eT : T.heap = h) (hM : Ct l Z y bytes maxL ret rm as' h Q) (hf : rm.frames + 1 ≤ R.frames) (hl : W + (maxL + 11) + rm.locals ≤ R.locals) (hsize : Ls.size = c.maxLocals) (hlen : ∀ sig, parseMethodDescriptor y.desc = some sig → argsL.length = sig.parameters.length) (has : argsL.toArray = as') (hW : (rest.map fun v => v.category).sum ≤ W) (hd : decode c.code pc = .ok (.invokestatic index, 3)) (hp : pc + 3 = pc') (hc : cells + rm.cells ≤ R.cells) (hs : slots + rm.slots ≤ R.slots)
    (hst : st = argsL.reverse ++ rest) (k : ∀ (T' : State) (v : Option Value) (L : List Loc), Stand p l e R s m args below meth c T' (locs ++ L) (cells + rm.cells) (slots + rm.slots) → Q v T'.heap L → Go p e below G (T'.setTop (mkF m pc' Ls (v.toList ++ rest)))) : Go p e below G (T.setTop (mkF m pc Ls st)) := by
  obtain ⟨v, vm₁, ⟨T', L', k', n'⟩, -, X', ⟨L, hQ, l', y', z'⟩, hst⟩ := Jvm.LawKit.callS X hx hown (mvT hZ w1) (mvT hZ w2) (mvT hZ w3) (mvT hZ w4) hy (backOf (W := W) (hM []) hZ w4 w3 hf hl) (g := mkF m pc Ls st) rfl hsize (argsL := argsL) (rest := rest) hlen hst (by show 2 * 0 + _ ≤ _; omega) hd (fun _ _ => ⟨has, eT, hc, hs⟩)
  dsimp only [Pt.U, Pt.locs, Pt.cells, Pt.slots] at X' l' y' z' hst hQ
  subst l' y' z' hp
  exact Go.to hst (k T' v L X' hQ)
theorem g_callI (X : Stand p l e R s m args below meth c T locs cells slots) (hx : p.tables.exec = Jvm.exec) (hZ : Z.Warmed39 s.vm) {own : String} {index : Nat} {y : MethodName} {bytes : ByteArray} {maxL : Nat} {rm : Room} {as' : Array Value} {Q : Option Value → Heap → List Loc → Prop} (W : Nat) {argsL rest : List Value} {a : Addr} (hown : s.vm.findClass own = some m.cls) (hy1 : y.name = "<init>") (w1 : (Cond.methodLink own index y).before a0 Z = true) (w2 : (Cond.instanceMethod y).before a0 Z = true) (w3 : (Cond.initialized y.cls).before a0 Z = true) (w4 : (Cond.code y bytes maxL none).before a0 Z = true) (hy : y.cls ≠ "java/lang/invoke/MethodHandle" ∧ y.cls ≠ "java/lang/invoke/VarHandle")
    (eT : T.heap = h) (hM : Ct l Z y bytes maxL none rm as' h Q) (hf : rm.frames + 1 ≤ R.frames) (hl : W + (maxL + 11) + rm.locals ≤ R.locals) (hsize : Ls.size = c.maxLocals) (hlen : ∀ sig, parseMethodDescriptor y.desc = some sig → argsL.length = sig.parameters.length) (has : (.ref a :: argsL).toArray = as') (hW : (rest.map fun v => v.category).sum ≤ W) (hd : decode c.code pc = .ok (.invokespecial index, 3)) (hp : pc + 3 = pc') (hc : cells + rm.cells ≤ R.cells) (hs : slots + rm.slots ≤ R.slots)
    (hst : st = argsL.reverse ++ .ref a :: rest) (k : ∀ (T' : State) (v : Option Value) (L : List Loc), Stand p l e R s m args below meth c T' (locs ++ L) (cells + rm.cells) (slots + rm.slots) → Q v T'.heap L → Go p e below G (T'.setTop (mkF m pc' Ls (v.toList ++ rest)))) : Go p e below G (T.setTop (mkF m pc Ls st)) := by
  obtain ⟨v, vm₁, ⟨T', L', k', n'⟩, -, X', ⟨L, hQ, l', y', z'⟩, hst⟩ := X.specialBack hx hy1 hown (mvT hZ w1) (mvT hZ w2) (mvT hZ w4) hy (backOf (W := W) (hM []) hZ w4 w3 hf hl) (g := mkF m pc Ls st) rfl hsize (Steps.refl _) (a := a) (argsL := argsL) (rest := rest) hlen hst (by show 2 * 0 + _ ≤ _; omega) hd (fun _ _ => ⟨has, eT, hc, hs⟩)
  dsimp only [Pt.U, Pt.locs, Pt.cells, Pt.slots] at X' l' y' z' hst hQ
  subst l' y' z' hp
  exact Go.to (fun t q => hst.trans q) (k T' v L X' hQ)
theorem g_callV (X : Stand p l e R s m args below meth c T locs cells slots) (hx : p.tables.exec = Jvm.exec) (hZ : Z.Warmed39 s.vm) {C : String} {own : String} {index : Nat} {y : MethodName} {bytes : ByteArray} {maxL : Nat} {ret : Option FieldType} {rm : Room} {as' : Array Value} {Q : Option Value → Heap → List Loc → Prop} (W : Nat) {argsL rest : List Value} {a : Addr} (hown : s.vm.findClass own = some m.cls) (w1 : (Cond.methodLink own index y).before a0 Z = true) (w2 : (Cond.declares y).before a0 Z = true) (w3 : (Cond.selects C y y).before a0 Z = true) (w4 : (Cond.instanceMethod y).before a0 Z = true) (w5 : (Cond.code y bytes maxL ret).before a0 Z = true) (w6 : (Cond.initialized y.cls).before a0 Z = true) (hy : y.cls ≠ "java/lang/invoke/MethodHandle" ∧ y.cls ≠ "java/lang/invoke/VarHandle")
    (eT : T.heap = h) (E : Exa Z h a C) (hM : Ct l Z y bytes maxL ret rm as' h Q) (hf : rm.frames + 1 ≤ R.frames) (hl : W + (maxL + 11) + rm.locals ≤ R.locals) (hsize : Ls.size = c.maxLocals) (hlen : ∀ sig, parseMethodDescriptor y.desc = some sig → argsL.length = sig.parameters.length) (has : (.ref a :: argsL).toArray = as') (hW : (rest.map fun v => v.category).sum ≤ W) (hd : decode c.code pc = .ok (.invokevirtual index, 3)) (hp : pc + 3 = pc') (hc : cells + rm.cells ≤ R.cells) (hs : slots + rm.slots ≤ R.slots)
    (hst : st = argsL.reverse ++ .ref a :: rest) (k : ∀ (T' : State) (v : Option Value) (L : List Loc), Stand p l e R s m args below meth c T' (locs ++ L) (cells + rm.cells) (slots + rm.slots) → Q v T'.heap L → Go p e below G (T'.setTop (mkF m pc' Ls (v.toList ++ rest)))) : Go p e below G (T.setTop (mkF m pc Ls st)) := by
  obtain ⟨cq, kq, qa, qb, qc⟩ := isOf hZ eT E
  obtain ⟨v, vm₁, ⟨T', L', k', n'⟩, -, X', ⟨L, hQ, l', y', z'⟩, hst⟩ := X.virtualBack hx hown (mvT hZ w1) (mvT hZ w2) (notFace_of_selects (args := #[]) (mvT hZ w3)) (mvT hZ w3) (mvT hZ w4) hy (backOf (W := W) (hM []) hZ w5 w6 hf hl) qa qc (g := mkF m pc Ls st) rfl hsize (Steps.refl _) (argsL := argsL) (rest := rest) hlen hst (by show 2 * 0 + _ ≤ _; omega) hd (fun _ _ => ⟨has, eT, hc, hs⟩)
  dsimp only [Pt.U, Pt.locs, Pt.cells, Pt.slots] at X' l' y' z' hst hQ
  subst l' y' z' hp
  exact Go.to (fun t q => hst.trans q) (k T' v L X' hQ)
theorem g_new (X : Stand p l e R s m args below meth c T locs cells slots) (hx : p.tables.exec = Jvm.exec) (hZ : Z.Warmed39 s.vm) {own C : String} {index n : Nat} (hown : s.vm.findClass own = some m.cls) (w : (Cond.classLink own index C).before a0 Z = true) (wi : (Cond.instantiable C n).before a0 Z = true) (wz : (Cond.initialized C).before a0 Z = true) (eT : T.heap = h) (hd : decode c.code pc = .ok (.new index, 3)) (hp : pc + 3 = pc') (hc : cells + 1 ≤ R.cells) (hl : slots + n ≤ R.slots)
    (k : ∀ (T' : State) (h' : Heap) (a : Addr), a = h.size → Stand p l e R s m args below meth c T' locs (cells + 1) (slots + n) → T'.heap = h' → Ext h h' → Exa Z h' a C → (∀ {O nm d : String} {ty : FieldType}, Laid Z a0 C O nm d → parseFieldDescriptor d = some ty → Fld Z h' a O nm d (defaultValue ty)) → Go p e below G (T'.setTop (mkF m pc' Ls (.ref a :: st)))) : Go p e below G (T.setTop (mkF m pc Ls st)) := by
  obtain ⟨T', h', X', e', E, A, D, -, hst⟩ := newO X hx hZ hown w wi wz eT (g := mkF m pc Ls st) rfl hd hc hl
  subst hp
  exact Go.to hst (k T' h' _ rfl X' e' E A D)
theorem g_putF (X : Stand p l e R s m args below meth c T locs cells slots) (hx : p.tables.exec = Jvm.exec) (hZ : Z.Warmed39 s.vm) {own R0 O n d host C : String} {index kk : Nat} (ty : FieldType) {a : Addr} {v old : Value} (hown : s.vm.findClass own = some m.cls) (w : (Cond.fieldLink own index R0 n d).before a0 Z = true ∨ (Cond.fieldLinkNest own index R0 n d host).before a0 Z = true) (via : Via Z R0 O n d) (eT : T.heap = h) (F : Fld Z h a O n d old) (E : Exa Z h a C) (L : (Cond.lays C O n d).before a0 Z = true ∨ ((Cond.laysFinal C O n d).before a0 Z = true ∧ own = O ∧ meth.name = "<init>")) (wi : (Cond.instantiable C kk).before a0 Z = true)
    (hty : parseFieldDescriptor d = some ty) (hn : narrow ty v = v) (hf : fits ty v = true) (hd : decode c.code pc = .ok (.putfield index, 3)) (hp : pc + 3 = pc') (k : ∀ (T' : State) (h' : Heap), Stand p l e R s m args below meth c T' (locs ++ [⟨a, Jvm.RoadKit.slotOf Z O n d⟩]) cells slots → T'.heap = h' → Wr h h' a (Jvm.RoadKit.slotOf Z O n d) v → Go p e below G (T'.setTop (mkF m pc' Ls st))) : Go p e below G (T.setTop (mkF m pc Ls (v :: .ref a :: st))) := by
  obtain ⟨T', h', X', e', W, hst⟩ := putF X hx hZ hown w via eT F E L wi hty hn hf (g := mkF m pc Ls (v :: .ref a :: st)) rfl rfl hd
  subst hp
  exact Go.to hst (k T' h' X' e' W)
theorem g_getF (X : Stand p l e R s m args below meth c T locs cells slots) (hx : p.tables.exec = Jvm.exec) (hZ : Z.Warmed39 s.vm) {own R0 O n d host : String} {index : Nat} {a : Addr} {v : Value} (hown : s.vm.findClass own = some m.cls) (w : (Cond.fieldLink own index R0 n d).before a0 Z = true ∨ (Cond.fieldLinkNest own index R0 n d host).before a0 Z = true) (via : Via Z R0 O n d) (eT : T.heap = h) (F : Fld Z h a O n d v) (hd : decode c.code pc = .ok (.getfield index, 3)) (hp : pc + 3 = pc')
    (k : ∀ (T' : State), Stand p l e R s m args below meth c T' locs cells slots → T'.heap = h → Go p e below G (T'.setTop (mkF m pc' Ls (v :: st)))) : Go p e below G (T.setTop (mkF m pc Ls (.ref a :: st))) := by
  obtain ⟨T', X', e', hst⟩ := getF X hx hZ hown w via eT F (g := mkF m pc Ls (.ref a :: st)) rfl rfl hd
  subst hp
  exact Go.to hst (k T' X' e')
theorem g_getS (X : Stand p l e R s m args below meth c T locs cells slots) (hx : p.tables.exec = Jvm.exec) (hZ : Z.Warmed39 s.vm) {own R0 O n d : String} {index : Nat} {v : Value} (hown : s.vm.findClass own = some m.cls) (w : (Cond.fieldLink own index R0 n d).before a0 Z = true) (via : Via Z R0 O n d) (eT : T.heap = h) (F : Sta Z h O n d v) (hd : decode c.code pc = .ok (.getstatic index, 3)) (hp : pc + 3 = pc')
    (k : ∀ (T' : State), Stand p l e R s m args below meth c T' locs cells slots → T'.heap = h → Go p e below G (T'.setTop (mkF m pc' Ls (v :: st)))) : Go p e below G (T.setTop (mkF m pc Ls st)) := by
  obtain ⟨T', X', e', hst⟩ := getS (host := "") X hx hZ hown w via eT F (g := mkF m pc Ls st) rfl hd
  subst hp
  exact Go.to hst (k T' X' e')
/-- an array of ty with n places at a; place j holds f j -/
def Av (Z : State) (h : Heap) (a : Addr) (ty : FieldType) (n : Nat) (f : Nat → Value) : Prop := ∃ c : Cell, Arr Z h a c ty ∧ c.slots.size = n ∧ ∀ j, j < n → c.slots[j]? = some (f j)
def upd (f : Nat → Value) (i : Nat) (v : Value) : Nat → Value := fun j => if j = i then v else f j
theorem Av.lt {a : Addr} {ty : FieldType} {n : Nat} {f : Nat → Value} (A : Av Z h a ty n f) : a < h.size := by obtain ⟨c, A, -⟩ := A; exact A.lt
theorem Av.ext {h' : Heap} {a : Addr} {ty : FieldType} {n : Nat} {f : Nat → Value} (A : Av Z h a ty n f) (E : Ext h h') : Av Z h' a ty n f := by obtain ⟨c, A, r⟩ := A; exact ⟨c, A.ext E, r⟩
theorem Av.other {h' : Heap} {a b : Addr} {ty : FieldType} {n sl : Nat} {f : Nat → Value} {v : Value} (A : Av Z h b ty n f) (W : Wr h h' a sl v) (q : b ≠ a) : Av Z h' b ty n f := by obtain ⟨c, A, r⟩ := A; exact ⟨c, A.other W q, r⟩
theorem Av.keep {h' : Heap} {a : Addr} {ty : FieldType} {n : Nat} {f : Nat → Value} {ws : List Addr} (A : Av Z h a ty n f) (K : Keep h h' ws) (q : a ∉ ws) : Av Z h' a ty n f := by obtain ⟨c, A, r⟩ := A; exact ⟨c, ⟨K.2.1 a c A.1 q, A.2⟩, r⟩
theorem Av.same {h' : Heap} {a : Addr} {ty : FieldType} {n i : Nat} {f : Nat → Value} {v : Value} (A : Av Z h a ty n f) (W : Wr h h' a i v) : Av Z h' a ty n (upd f i v) := by
  obtain ⟨c, A, r1, r2⟩ := A
  refine ⟨_, A.same W, by rw [sz_set]; exact r1, fun j hj => ?_⟩
  by_cases u : j = i
  · subst u; simp [Cell.setSlot, upd, r1, hj]
  · simp only [Cell.setSlot, upd, if_neg u]; rw [Array.getElem?_setIfInBounds_ne (Ne.symm u)]; exact r2 j hj
theorem Av.congr {a : Addr} {ty : FieldType} {n : Nat} {f g : Nat → Value} (A : Av Z h a ty n f) (q : ∀ j, j < n → f j = g j) : Av Z h a ty n g := by obtain ⟨c, A, r1, r2⟩ := A; exact ⟨c, A, r1, fun j hj => by rw [← q j hj]; exact r2 j hj⟩
theorem Av.ne {a b : Addr} {ty ty' : FieldType} {n : Nat} {f : Nat → Value} (A : Av Z h a ty n f) (q : h.size ≤ b) : a ≠ b := fun e => absurd A.lt (Nat.not_lt.mpr (e ▸ q))
theorem in_of {c : Cell} {n i : Nat} {j : Int32} (S : c.slots.size = n) (q : ¬ j < 0) (hj : j.toNatClampNeg = i) (hi : i < n) : ¬ (j < 0 ∨ c.slots.size ≤ j.toNatClampNeg) := fun z => z.elim q fun y => absurd hi (Nat.not_lt.mpr (by rw [← hj, ← S]; exact y))
theorem g_newarr (X : Stand p l e R s m args below meth c T locs cells slots) (hx : p.tables.exec = Jvm.exec) (hZ : Z.Warmed39 s.vm) {aty : ArrayType} {ty : FieldType} (w : (Cond.arrayClass ty).before a0 Z = true) (hty : newarray.typeOf aty = ty) (eT : T.heap = h) (hd : decode c.code pc = .ok (.newarray aty, 2)) (hp : pc + 2 = pc') {z : Int32} {n : Nat} (hz : ¬ z < 0) (hn : z.toNatClampNeg = n) (cap : Nat) (hcap : n ≤ cap) (hb : cap * 8 ≤ 536870912) (hc : cells + 1 ≤ R.cells) (hl : slots + cap ≤ R.slots)
    (k : ∀ (T' : State) (h' : Heap) (a : Addr), a = h.size → Stand p l e R s m args below meth c T' locs (cells + 1) (slots + cap) → T'.heap = h' → Ext h h' → Av Z h' a ty n (fun _ => defaultValue ty) → Go p e below G (T'.setTop (mkF m pc' Ls (.ref a :: st)))) : Go p e below G (T.setTop (mkF m pc Ls (.int z :: st))) := by
  subst hty
  obtain ⟨T', h', cA, X', e', E, A, hst⟩ := newP X hx hZ w eT (g := mkF m pc Ls (.int z :: st)) rfl hd rfl hz (cap := cap) (by omega) hb hc hl
  subst hp
  exact Go.to hst (k T' h' _ rfl X' e' E ⟨_, A, by rw [sz_new]; exact hn, fun j hj => by rw [← hn] at hj; simp [newA, hj]⟩)
theorem g_newarrR (X : Stand p l e R s m args below meth c T locs cells slots) (hx : p.tables.exec = Jvm.exec) (hZ : Z.Warmed39 s.vm) {own C : String} {index : Nat} (hown : s.vm.findClass own = some m.cls) (w1 : (Cond.classLink own index C).before a0 Z = true) (w2 : (Cond.arrayOver (.object C)).before a0 Z = true) (eT : T.heap = h) (hd : decode c.code pc = .ok (.anewarray index, 3)) (hp : pc + 3 = pc') {z : Int32} {n : Nat} (hz : ¬ z < 0) (hn : z.toNatClampNeg = n) (cap : Nat) (hcap : n ≤ cap) (hb : cap * 8 ≤ 536870912) (hc : cells + 1 ≤ R.cells) (hl : slots + cap ≤ R.slots)
    (k : ∀ (T' : State) (h' : Heap) (a : Addr) (cA : ClassId), a = h.size → Stand p l e R s m args below meth c T' locs (cells + 1) (slots + cap) → T'.heap = h' → Ext h h' → Av Z h' a (.object C) n (fun _ => .null) → Ovr Z cA C → (∃ cl : Cell, h'[a]? = some cl ∧ cl.cls = cA) → Go p e below G (T'.setTop (mkF m pc' Ls (.ref a :: st)))) : Go p e below G (T.setTop (mkF m pc Ls (.int z :: st))) := by
  obtain ⟨T', h', cA, X', e', E, A, O, hst⟩ := newR X hx hZ hown w1 w2 eT (g := mkF m pc Ls (.int z :: st)) rfl hd rfl hz (cap := cap) (by omega) hb hc hl
  subst hp
  exact Go.to hst (k T' h' _ cA rfl X' e' E ⟨_, A, by rw [sz_new]; exact hn, fun j hj => by rw [← hn] at hj; simp [newA, hj, defaultValue]⟩ O ⟨_, A.1, rfl⟩)
theorem g_iaload (X : Stand p l e R s m args below meth c T locs cells slots) (hx : p.tables.exec = Jvm.exec) (hZ : Z.Warmed39 s.vm) {a : Addr} {n i : Nat} {f : Nat → Value} {j : Int32} {v : Int32} (eT : T.heap = h) (A : Av Z h a .int n f) (hj0 : ¬ j < 0) (hj : j.toNatClampNeg = i) (hi : i < n) (hv : f i = .int v) (hd : decode c.code pc = .ok (.iaload, 1)) (hp : pc + 1 = pc') (k : Go p e below G (T.setTop (mkF m pc' Ls (.int v :: st)))) : Go p e below G (T.setTop (mkF m pc Ls (.int j :: .ref a :: st))) := by
  obtain ⟨cl, Ar, S, H⟩ := A
  subst hp
  exact Go.to (fun t q => X.iaload hx (j := j) (v := .int v) (by rw [eT]; exact Ar.1) (State.isArrayOf_alike hZ.alike Ar.2.1) Ar.2.2 (in_of S hj0 hj hi) (by rw [hj, ← hv]; exact H i hi) (g := mkF m pc Ls (.int j :: .ref a :: st)) rfl rfl hd _ q) k
theorem g_baload (X : Stand p l e R s m args below meth c T locs cells slots) (hx : p.tables.exec = Jvm.exec) (hZ : Z.Warmed39 s.vm) {a : Addr} {n i : Nat} {f : Nat → Value} {j : Int32} {v : Int32} (eT : T.heap = h) (A : Av Z h a .byte n f) (hj0 : ¬ j < 0) (hj : j.toNatClampNeg = i) (hi : i < n) (hv : f i = .int v) (hd : decode c.code pc = .ok (.baload, 1)) (hp : pc + 1 = pc') (k : Go p e below G (T.setTop (mkF m pc' Ls (.int v :: st)))) : Go p e below G (T.setTop (mkF m pc Ls (.int j :: .ref a :: st))) := by
  obtain ⟨cl, Ar, S, H⟩ := A
  subst hp
  exact Go.to (fun t q => X.baloadBytes hx (j := j) (v := .int v) (by rw [eT]; exact Ar.1) (State.isArrayOf_alike hZ.alike Ar.2.1) Ar.2.2 (in_of S hj0 hj hi) (by rw [hj, ← hv]; exact H i hi) (g := mkF m pc Ls (.int j :: .ref a :: st)) rfl rfl hd _ q) k
theorem g_laload (X : Stand p l e R s m args below meth c T locs cells slots) (hx : p.tables.exec = Jvm.exec) (hZ : Z.Warmed39 s.vm) {a : Addr} {n i : Nat} {f : Nat → Value} {j : Int32} {v : Int64} (eT : T.heap = h) (A : Av Z h a .long n f) (hj0 : ¬ j < 0) (hj : j.toNatClampNeg = i) (hi : i < n) (hv : f i = .long v) (hd : decode c.code pc = .ok (.laload, 1)) (hp : pc + 1 = pc') (k : Go p e below G (T.setTop (mkF m pc' Ls (.long v :: st)))) : Go p e below G (T.setTop (mkF m pc Ls (.int j :: .ref a :: st))) := by
  obtain ⟨cl, Ar, S, H⟩ := A
  subst hp
  exact Go.to (fun t q => X.laload hx (j := j) (v := .long v) (by rw [eT]; exact Ar.1) (State.isArrayOf_alike hZ.alike Ar.2.1) Ar.2.2 (in_of S hj0 hj hi) (by rw [hj, ← hv]; exact H i hi) (g := mkF m pc Ls (.int j :: .ref a :: st)) rfl rfl hd _ q) k
theorem g_aaload (X : Stand p l e R s m args below meth c T locs cells slots) (hx : p.tables.exec = Jvm.exec) (hZ : Z.Warmed39 s.vm) {a : Addr} {n i : Nat} {f : Nat → Value} {j : Int32} {v : Value} {ty : FieldType} (eT : T.heap = h) (A : Av Z h a ty n f) (hty : ty.isReference = true) (hj0 : ¬ j < 0) (hj : j.toNatClampNeg = i) (hi : i < n) (hv : f i = v) (hd : decode c.code pc = .ok (.aaload, 1)) (hp : pc + 1 = pc') (k : Go p e below G (T.setTop (mkF m pc' Ls (v :: st)))) : Go p e below G (T.setTop (mkF m pc Ls (.int j :: .ref a :: st))) := by
  obtain ⟨cl, Ar, S, H⟩ := A
  subst hp
  exact Go.to (fun t q => X.aaload hx (j := j) (v := v) (by rw [eT]; exact Ar.1) (State.isArrayOf_alike hZ.alike Ar.2.1) hty Ar.2.2 (in_of S hj0 hj hi) (by rw [hj, ← hv]; exact H i hi) (g := mkF m pc Ls (.int j :: .ref a :: st)) rfl rfl hd _ q) k
theorem g_arraylength (X : Stand p l e R s m args below meth c T locs cells slots) (hx : p.tables.exec = Jvm.exec) (hZ : Z.Warmed39 s.vm) {a : Addr} {n : Nat} {f : Nat → Value} {z : Int32} {ty : FieldType} (eT : T.heap = h) (A : Av Z h a ty n f) (hz : n.toInt32 = z) (hd : decode c.code pc = .ok (.arraylength, 1)) (hp : pc + 1 = pc') (k : Go p e below G (T.setTop (mkF m pc' Ls (.int z :: st)))) : Go p e below G (T.setTop (mkF m pc Ls (.ref a :: st))) := by
  obtain ⟨cl, Ar, S, H⟩ := A
  subst hp hz S
  exact Go.to (fun t q => X.arraylength hx (by rw [eT]; exact Ar.1) (State.isArrayOf_alike hZ.alike Ar.2.1) (g := mkF m pc Ls (.ref a :: st)) rfl rfl hd _ q) k
theorem g_iastore (X : Stand p l e R s m args below meth c T locs cells slots) (hx : p.tables.exec = Jvm.exec) (hZ : Z.Warmed39 s.vm) {a : Addr} {n i : Nat} {f : Nat → Value} {j : Int32} {x : Int32} (eT : T.heap = h) (A : Av Z h a .int n f) (hj0 : ¬ j < 0) (hj : j.toNatClampNeg = i) (hi : i < n) (hd : decode c.code pc = .ok (.iastore, 1)) (hp : pc + 1 = pc')
    (k : ∀ (T' : State) (h' : Heap), Stand p l e R s m args below meth c T' (locs ++ [⟨a, i⟩]) cells slots → T'.heap = h' → Wr h h' a i (.int x) → Av Z h' a .int n (upd f i (.int x)) → Go p e below G (T'.setTop (mkF m pc' Ls st))) : Go p e below G (T.setTop (mkF m pc Ls (.int x :: .int j :: .ref a :: st))) := by
  obtain ⟨cl, Ar, S, H⟩ := id A
  obtain ⟨T', h', X', e', W, hst⟩ := stI X hx hZ eT Ar (in_of S hj0 hj hi) (g := mkF m pc Ls (.int x :: .int j :: .ref a :: st)) rfl rfl hd
  subst hp hj
  exact Go.to hst (k T' h' X' e' W (A.same W))
theorem g_lastore (X : Stand p l e R s m args below meth c T locs cells slots) (hx : p.tables.exec = Jvm.exec) (hZ : Z.Warmed39 s.vm) {a : Addr} {n i : Nat} {f : Nat → Value} {j : Int32} {x : Int64} (eT : T.heap = h) (A : Av Z h a .long n f) (hj0 : ¬ j < 0) (hj : j.toNatClampNeg = i) (hi : i < n) (hd : decode c.code pc = .ok (.lastore, 1)) (hp : pc + 1 = pc')
    (k : ∀ (T' : State) (h' : Heap), Stand p l e R s m args below meth c T' (locs ++ [⟨a, i⟩]) cells slots → T'.heap = h' → Wr h h' a i (.long x) → Av Z h' a .long n (upd f i (.long x)) → Go p e below G (T'.setTop (mkF m pc' Ls st))) : Go p e below G (T.setTop (mkF m pc Ls (.long x :: .int j :: .ref a :: st))) := by
  obtain ⟨cl, Ar, S, H⟩ := id A
  obtain ⟨T', h', X', e', W, hst⟩ := stJ X hx hZ eT Ar (in_of S hj0 hj hi) (g := mkF m pc Ls (.long x :: .int j :: .ref a :: st)) rfl rfl hd
  subst hp hj
  exact Go.to hst (k T' h' X' e' W (A.same W))
theorem g_bastore (X : Stand p l e R s m args below meth c T locs cells slots) (hx : p.tables.exec = Jvm.exec) (hZ : Z.Warmed39 s.vm) {a : Addr} {n i : Nat} {f : Nat → Value} {j : Int32} {x : Int32} (eT : T.heap = h) (A : Av Z h a .byte n f) (hj0 : ¬ j < 0) (hj : j.toNatClampNeg = i) (hi : i < n) (hd : decode c.code pc = .ok (.bastore, 1)) (hp : pc + 1 = pc')
    (k : ∀ (T' : State) (h' : Heap), Stand p l e R s m args below meth c T' (locs ++ [⟨a, i⟩]) cells slots → T'.heap = h' → Wr h h' a i (.int (nar .byte x)) → Av Z h' a .byte n (upd f i (.int (nar .byte x))) → Go p e below G (T'.setTop (mkF m pc' Ls st))) : Go p e below G (T.setTop (mkF m pc Ls (.int x :: .int j :: .ref a :: st))) := by
  obtain ⟨cl, Ar, S, H⟩ := id A
  obtain ⟨T', h', X', e', W, hst⟩ := stB X hx hZ eT Ar (in_of S hj0 hj hi) (g := mkF m pc Ls (.int x :: .int j :: .ref a :: st)) rfl rfl hd
  subst hp hj
  exact Go.to hst (k T' h' X' e' W (A.same W))
theorem g_aastore (X : Stand p l e R s m args below meth c T locs cells slots) (hx : p.tables.exec = Jvm.exec) (hZ : Z.Warmed39 s.vm) {a : Addr} {n i : Nat} {f : Nat → Value} {j : Int32} {v : Value} {ty : FieldType} (eT : T.heap = h) (A : Av Z h a ty n f) (hty : ty.isReference = true) (F : Sto Z h a v) (hj0 : ¬ j < 0) (hj : j.toNatClampNeg = i) (hi : i < n) (hd : decode c.code pc = .ok (.aastore, 1)) (hp : pc + 1 = pc')
    (k : ∀ (T' : State) (h' : Heap), Stand p l e R s m args below meth c T' (locs ++ [⟨a, i⟩]) cells slots → T'.heap = h' → Wr h h' a i v → Av Z h' a ty n (upd f i v) → Go p e below G (T'.setTop (mkF m pc' Ls st))) : Go p e below G (T.setTop (mkF m pc Ls (v :: .int j :: .ref a :: st))) := by
  obtain ⟨cl, Ar, S, H⟩ := id A
  obtain ⟨T', h', X', e', W, hst⟩ := stR X hx hZ eT Ar (in_of S hj0 hj hi) hty F (g := mkF m pc Ls (v :: .int j :: .ref a :: st)) rfl rfl hd
  subst hp hj
  exact Go.to hst (k T' h' X' e' W (A.same W))
end Kit

theorem own_nn {x : Int32} : ¬ x < 0 ↔ 0 ≤ x.toInt := by rw [Int32.lt_iff_toInt_lt]; simp
theorem own_div {x y : Int32} (hx : 0 ≤ x.toInt) (hy : 0 < y.toInt) : (x / y).toInt = x.toInt / y.toInt := by
  have r := rng32 x
  have q1 : 0 ≤ x.toInt / y.toInt := Int.ediv_nonneg hx (Int.le_of_lt hy)
  have q2 : x.toInt / y.toInt ≤ x.toInt := Int.ediv_le_self _ hx
  rw [Int32.toInt_div, Int.tdiv_eq_ediv_of_nonneg hx]
  exact Int.bmod_eq_of_le (by omega) (by omega)
theorem own_rem {x y : Int32} (hx : 0 ≤ x.toInt) (hy : 0 < y.toInt) : (x - x / y * y).toInt = x.toInt % y.toInt := by
  have r := rng32 x
  have ry := rng32 y
  have q1 : 0 ≤ x.toInt % y.toInt := Int.emod_nonneg _ (by omega)
  have q2 : x.toInt % y.toInt < y.toInt := Int.emod_lt_of_pos _ hy
  have q3 : x.toInt / y.toInt * y.toInt = x.toInt - x.toInt % y.toInt := by rw [Int.emod_def, Int.mul_comm]; omega
  have q4 := Int.emod_add_mul_ediv x.toInt y.toInt
  have c1 := c_imul (x / y) y
  rw [own_div hx hy, q3] at c1
  have q5 : x.toInt % y.toInt ≤ x.toInt := by
    have := Int.ediv_nonneg hx (Int.le_of_lt hy)
    have := Int.mul_nonneg this (Int.le_of_lt hy)
    omega
  have c2 := c_isub x (x / y * y)
  have r2 := rng32 (x - x / y * y)
  have r3 := rng32 (x / y * y)
  omega
theorem own_mask (x : Int32) : 0 ≤ (x &&& 2147483647).toInt := by
  have h : (x &&& 2147483647).toBitVec.msb = false := by
    rw [Int32.toBitVec_and, BitVec.msb_and]
    have : (2147483647 : Int32).toBitVec.msb = false := by decide
    rw [this, Bool.and_false]
  have := BitVec.toInt_nonneg_of_msb_false h
  exact this
theorem own_nat {x : Int32} {n : Nat} (h : x.toInt = n) : x.toNatClampNeg = n := by
  show x.toInt.toNat = n; rw [h]; rfl

def bt (a : Int64) (i : Int32) : Int32 := (XT.ushrL a (8 * i)).toInt32.toInt8.toInt32
def byy (a c : Int64) (i len : Int32) : Int32 := if i < len then bt a i else bt c i
def bz (a : Int64) (i pos d : Int32) : Int32 := if i = pos then (bt a i ^^^ d).toInt8.toInt32 else bt a i
def hs (F : Nat → Int32) : Nat → Int32
  | 0 => 0
  | k + 1 => (hs F k ^^^ F k) * 16777619
def fin (h : Int32) : Int32 :=
  (((h ^^^ XT.ushr h 16) * -2048144789 ^^^ XT.ushr ((h ^^^ XT.ushr h 16) * -2048144789) 13) * -1028477387) ^^^ XT.ushr (((h ^^^ XT.ushr h 16) * -2048144789 ^^^ XT.ushr ((h ^^^ XT.ushr h 16) * -2048144789) 13) * -1028477387) 16
def Fx (a c : Int64) (len pos d : Int32) (t : Nat) : Int32 := nar .byte (bt a (Int32.ofNat t))
def Fy (a c : Int64) (len pos d : Int32) (t : Nat) : Int32 := nar .byte (byy a c (Int32.ofNat t) len)
def Fz (a c : Int64) (len pos d : Int32) (t : Nat) : Int32 := nar .byte (bz a (Int32.ofNat t) pos d)
theorem own_i {i : Nat} (h : i < 2 ^ 31) : (Int32.ofNat i).toInt = i := Int32.toInt_ofNat_small h
theorem own_i1 (i : Nat) : Int32.ofNat i + Int32.ofInt 1 = Int32.ofNat (i + 1) := by
  rw [Int32.ofNat_add]; rfl
theorem hs_congr {F G : Nat → Int32} : ∀ n : Nat, (∀ j, j < n → F j = G j) → hs F n = hs G n
  | 0, _ => rfl
  | n + 1, h => by simp only [hs]; rw [hs_congr n fun j hj => h j (by omega), h n (by omega)]
theorem mul_inj {x y k k' : Int32} (hk : k * k' = 1) (h : x * k = y * k) : x = y := by
  have := congrArg (· * k') h
  simpa only [Int32.mul_assoc, hk, Int32.mul_one] using this
theorem xor_injR {x y k : Int32} (h : x ^^^ k = y ^^^ k) : x = y := by
  have := congrArg (· ^^^ k) h
  simpa only [Int32.xor_assoc, Int32.xor_self, Int32.xor_zero] using this
theorem xor_injL {x y k : Int32} (h : k ^^^ x = k ^^^ y) : x = y := by
  rw [Int32.xor_comm k x, Int32.xor_comm k y] at h; exact xor_injR h
theorem hs_inj {F G : Nat → Int32} {q : Nat} (hne : F q ≠ G q) (heq : ∀ j, j < 9 → j ≠ q → F j = G j) : ∀ n : Nat, n ≤ 8 → q < n → hs F n ≠ hs G n
  | 0, _, h => absurd h (Nat.not_lt_zero _)
  | n + 1, h8, h => fun e => by
    simp only [hs] at e
    have e1 := mul_inj (k' := 899433627) (by decide) e
    by_cases u : q = n
    · subst u
      rw [hs_congr q fun j hj => heq j (by omega) (by omega)] at e1
      exact hne (xor_injL e1)
    · rw [heq n (by omega) (Ne.symm u)] at e1
      exact hs_inj hne heq n (by omega) (by omega) (xor_injR e1)
theorem own_bv (n : Nat) (X Y : BitVec 32) (hn : 32 ≤ n + n + n) (h : X ^^^ X >>> n = Y ^^^ Y >>> n) : X = Y := by
  have inv : ∀ X : BitVec 32, (X ^^^ X >>> n) ^^^ (X ^^^ X >>> n) >>> n ^^^ (X ^^^ X >>> n) >>> (n + n) = X := by
    intro X
    apply BitVec.eq_of_getLsbD_eq
    intro i hi
    have o1 : X.getLsbD (n + n + n + i) = false := BitVec.getLsbD_of_ge _ _ (by omega)
    have o2 : n + (n + n + i) = n + n + n + i := by omega
    have o3 : n + (n + i) = n + n + i := by omega
    have o4 : n + n + (n + i) = n + n + n + i := by omega
    simp only [BitVec.getLsbD_xor, BitVec.getLsbD_ushiftRight, o2, o3, o4, o1]
    cases X.getLsbD i <;> cases X.getLsbD (n + i) <;> cases X.getLsbD (n + n + i) <;> rfl
  rw [← inv X, ← inv Y, h]
theorem ushr_bv (x : Int32) (k : Int32) (n : Nat) (hk : ((k &&& 31).toUInt32.toNat % 32) = n) : (XT.ushr x k).toBitVec = x.toBitVec >>> n := by
  subst hk; rfl
theorem sx_inj {x y k : Int32} (n : Nat) (hk : ((k &&& 31).toUInt32.toNat % 32) = n) (hn : 32 ≤ n + n + n) (h : x ^^^ XT.ushr x k = y ^^^ XT.ushr y k) : x = y := by
  have q := congrArg Int32.toBitVec h
  rw [Int32.toBitVec_xor, Int32.toBitVec_xor, ushr_bv x k n hk, ushr_bv y k n hk] at q
  exact Int32.toBitVec_inj.mp (own_bv n _ _ hn q)
theorem fin_inj {x y : Int32} (h : fin x = fin y) : x = y := by
  have h1 := sx_inj (k := 16) 16 (by decide) (by decide) h
  have h2 := mul_inj (k' := 2127672349) (by decide) h1
  have h3 := sx_inj (k := 13) 13 (by decide) (by decide) h2
  have h4 := mul_inj (k' := 2781581891) (by decide) h3
  exact sx_inj (k := 16) 16 (by decide) (by decide) h4
theorem own_Fxy (a c : Int64) (len pos d : Int32) (n : Nat) (hn : len.toInt = n) (h8 : n ≤ 8) : fin (hs (Fx a c len pos d) n) = fin (hs (Fy a c len pos d) n) := by
  rw [hs_congr n]
  intro j hj
  have : Int32.ofNat j < len := Int32.lt_iff_toInt_lt.mpr (by rw [own_i (by omega)]; omega)
  simp only [Fx, Fy, byy, if_pos this]
theorem own_changed (a c : Int64) (len pos d : Int32) (n : Nat) (hn : len.toInt = n) (h8 : n ≤ 8) (hp : 0 ≤ pos.toInt ∧ pos.toInt < len.toInt) (d1 : 1 ≤ d.toInt) (d2 : d.toInt ≤ 255) : fin (hs (Fz a c len pos d) n) ≠ fin (hs (Fx a c len pos d) n) := by
  intro e
  obtain ⟨q, hq⟩ : ∃ q : Nat, pos.toInt = q := ⟨pos.toInt.toNat, by omega⟩
  have eq : Int32.ofNat q = pos := by rw [← Int32.toInt_inj, own_i (by omega), hq]
  refine hs_inj (q := q) ?_ ?_ n h8 (by omega) (fin_inj e)
  · simp only [Fz, Fx, bz, if_pos eq, eq]
    intro e2
    have e3 : ((bt a pos ^^^ d).toInt8.toInt32).toInt8.toInt32 = (bt a pos).toInt8.toInt32 := e2
    have e4 := congrArg Int32.toInt8 e3
    simp only [Int8.toInt8_toInt32, Int32.toInt8_xor] at e4
    have e5 : d.toInt8 = 0 := by
      have := congrArg ((bt a pos).toInt8 ^^^ ·) e4
      simpa only [← Int8.xor_assoc, Int8.xor_self, Int8.zero_xor] using this
    have c1 := c_i2b d
    rw [e5] at c1
    have : (Int8.toInt32 0).toInt = 0 := rfl
    omega
  · intro j hb hj
    have : ¬ Int32.ofNat j = pos := fun z => hj (by rw [← Int32.toInt_inj, own_i (by omega), hq] at z; omega)
    simp only [Fz, Fx, bz, if_neg this]
theorem own_len0 {len : Int32} {r : Int} (h : len.toInt = r % 9) (q : ¬ 0 < len) : len = 0 := by
  rw [Int32.lt_iff_toInt_lt] at q
  have e0 : (0 : Int32).toInt = 0 := rfl
  rw [← Int32.toInt_inj]; omega

theorem d1_0 : decode method_2_code 0 = .ok (.lload 4, 2) := by decide +kernel
theorem d1_2 : decode method_2_code 2 = .ok (.bipush 8, 2) := by decide +kernel
theorem d1_4 : decode method_2_code 4 = .ok (.iload_n 3, 1) := by decide +kernel
theorem d1_5 : decode method_2_code 5 = .ok (.imul, 1) := by decide +kernel
theorem d1_6 : decode method_2_code 6 = .ok (.lushr, 1) := by decide +kernel
theorem d1_7 : decode method_2_code 7 = .ok (.l2i, 1) := by decide +kernel
theorem d1_8 : decode method_2_code 8 = .ok (.i2b, 1) := by decide +kernel
theorem d1_9 : decode method_2_code 9 = .ok (.istore 11, 2) := by decide +kernel
theorem d1_11 : decode method_2_code 11 = .ok (.aload_n 0, 1) := by decide +kernel
theorem d1_12 : decode method_2_code 12 = .ok (.iload_n 3, 1) := by decide +kernel
theorem d1_13 : decode method_2_code 13 = .ok (.iload 11, 2) := by decide +kernel
theorem d1_15 : decode method_2_code 15 = .ok (.bastore, 1) := by decide +kernel
theorem d1_16 : decode method_2_code 16 = .ok (.aload_n 1, 1) := by decide +kernel
theorem d1_17 : decode method_2_code 17 = .ok (.iload_n 3, 1) := by decide +kernel
theorem d1_18 : decode method_2_code 18 = .ok (.iload_n 3, 1) := by decide +kernel
theorem d1_19 : decode method_2_code 19 = .ok (.iload 8, 2) := by decide +kernel
theorem d1_21 : decode method_2_code 21 = .ok (.if_icmp .ge 8, 3) := by decide +kernel
theorem d1_24 : decode method_2_code 24 = .ok (.iload 11, 2) := by decide +kernel
theorem d1_26 : decode method_2_code 26 = .ok (.goto 12, 3) := by decide +kernel
theorem d1_29 : decode method_2_code 29 = .ok (.lload 6, 2) := by decide +kernel
theorem d1_31 : decode method_2_code 31 = .ok (.bipush 8, 2) := by decide +kernel
theorem d1_33 : decode method_2_code 33 = .ok (.iload_n 3, 1) := by decide +kernel
theorem d1_34 : decode method_2_code 34 = .ok (.imul, 1) := by decide +kernel
theorem d1_35 : decode method_2_code 35 = .ok (.lushr, 1) := by decide +kernel
theorem d1_36 : decode method_2_code 36 = .ok (.l2i, 1) := by decide +kernel
theorem d1_37 : decode method_2_code 37 = .ok (.i2b, 1) := by decide +kernel
theorem d1_38 : decode method_2_code 38 = .ok (.bastore, 1) := by decide +kernel
theorem d1_39 : decode method_2_code 39 = .ok (.aload_n 2, 1) := by decide +kernel
theorem d1_40 : decode method_2_code 40 = .ok (.iload_n 3, 1) := by decide +kernel
theorem d1_41 : decode method_2_code 41 = .ok (.iload_n 3, 1) := by decide +kernel
theorem d1_42 : decode method_2_code 42 = .ok (.iload 9, 2) := by decide +kernel
theorem d1_44 : decode method_2_code 44 = .ok (.if_icmp .ne 12, 3) := by decide +kernel
theorem d1_47 : decode method_2_code 47 = .ok (.iload 11, 2) := by decide +kernel
theorem d1_49 : decode method_2_code 49 = .ok (.iload 10, 2) := by decide +kernel
theorem d1_51 : decode method_2_code 51 = .ok (.ixor, 1) := by decide +kernel
theorem d1_52 : decode method_2_code 52 = .ok (.i2b, 1) := by decide +kernel
theorem d1_53 : decode method_2_code 53 = .ok (.goto 5, 3) := by decide +kernel
theorem d1_56 : decode method_2_code 56 = .ok (.iload 11, 2) := by decide +kernel
theorem d1_58 : decode method_2_code 58 = .ok (.bastore, 1) := by decide +kernel
theorem d1_59 : decode method_2_code 59 = .ok (.return_, 1) := by decide +kernel
theorem pn_1 : plainName "com/example/charted/charted/engine/StateStoreHashPinLaw" = true := by first | (simp [plainName, overriddenIn]; done) | decide +kernel
theorem pd_1 : parseMethodDescriptor "([B[B[BIJJIII)V" = some ⟨[.array .byte, .array .byte, .array .byte, .int, .long, .long, .int, .int, .int], none⟩ := by decide +kernel
theorem ef_1 (m : MethodId) (x0 : Addr) (x1 : Addr) (x2 : Addr) (x3 : Int32) (x4 : Int64) (x5 : Int64) (x6 : Int32) (x7 : Int32) (x8 : Int32) : entryFrame m #[(.ref x0), (.ref x1), (.ref x2), (.int x3), (.long x4), (.long x5), (.int x6), (.int x7), (.int x8)] 12 = mkF m 0 #[.val (.ref x0), .val (.ref x1), .val (.ref x2), .val (.int x3), .val (.long x4), .second, .val (.long x5), .second, .val (.int x6), .val (.int x7), .val (.int x8), .unset] [] := by first | (simp [entryFrame, mkF, argsToLocals, Value.category]; done) | rfl
def QS (Z : State) (ax ay az : Addr) (fx fy fz : Nat → Value) (iN : Nat) (vx vy vz : Int32) (h0 : Heap) (n0 : Nat) (v : Option Value) (h : Heap) (L : List Loc) : Prop := Fr n0 L ∧ v = none ∧ Av Z h ax .byte 8 (upd fx iN (.int (nar .byte vx))) ∧ Av Z h ay .byte 8 (upd fy iN (.int (nar .byte vy))) ∧ Av Z h az .byte 8 (upd fz iN (.int (nar .byte vz)))
set_option maxRecDepth 65536 in
set_option maxHeartbeats 40000000 in
theorem rm1 (l : Launch) (Z : State) (a0 : Array Value) (hw : ∀ d ∈ tables_1, d.before a0 Z = true) (ax ay az : Addr) (fx fy fz : Nat → Value) (i : Int32) (iN : Nat) (a cc : Int64) (len pos d : Int32) (h0 : Heap) (n0 : Nat) (V1 : Av Z h0 ax .byte 8 fx) (V2 : Av Z h0 ay .byte 8 fy) (V3 : Av Z h0 az .byte 8 fz) (nxy : ax ≠ ay) (nxz : ax ≠ az) (nyz : ay ≠ az) (gx : n0 ≤ ax) (gy : n0 ≤ ay) (gz : n0 ≤ az) (hi : i.toInt = iN) (hN : iN < 8) :
    Ct l Z (⟨"com/example/charted/charted/engine/StateStoreHashPinLaw", "set", "([B[B[BIJJIII)V"⟩ : MethodName) method_2_code 12 none ({ frames := 0, cells := 0, slots := 0, locals := 0 } : Room) #[(.ref ax), (.ref ay), (.ref az), (.int i), (.long a), (.long cc), (.int len), (.int pos), (.int d)] h0 (QS Z ax ay az fx fy fz iN (bt a i) (byy a cc i len) (bz a i pos d) h0 n0) := by
  refine Ct.of pn_1 (fun m => ef_1 m ax ay az i a cc len pos d) ?_
  intro p e s m below meth c T X0 hx hby hml hret hlk hZ hown hnm e0
  have hi0 : ¬ i < 0 := own_nn.mpr (by omega)
  have hiN : i.toNatClampNeg = iN := own_nat hi
  refine g_lload X0 hx (hb hby d1_0) (pc' := 2) rfl rfl ?_
  refine g_bipush X0 hx (hb hby d1_2) (pc' := 4) rfl (z := 8) (by decide) ?_
  refine g_iloadN X0 hx (hb hby d1_4) (pc' := 5) rfl rfl ?_
  refine g_imul X0 hx (hb hby d1_5) (pc' := 6) rfl rfl ?_
  refine g_lushr X0 hx (hb hby d1_6) (pc' := 7) rfl rfl ?_
  refine g_l2i X0 hx (hb hby d1_7) (pc' := 8) rfl rfl ?_
  obtain ⟨b, gb⟩ : ∃ z : Int32, z = bt a i := ⟨_, rfl⟩
  refine g_i2b X0 hx (hb hby d1_8) (pc' := 9) rfl (z := b) gb.symm ?_
  refine g_istore X0 hx (hb hby d1_9) (pc' := 11) rfl (Ls' := #[.val (.ref ax), .val (.ref ay), .val (.ref az), .val (.int i), .val (.long a), .second, .val (.long cc), .second, .val (.int len), .val (.int pos), .val (.int d), .val (.int b)]) rfl ?_
  refine g_aloadN X0 hx (hb hby d1_11) (pc' := 12) rfl rfl rfl ?_
  refine g_iloadN X0 hx (hb hby d1_12) (pc' := 13) rfl rfl ?_
  refine g_iload X0 hx (hb hby d1_13) (pc' := 15) rfl rfl ?_
  refine g_bastore X0 hx hZ e0 V1 hi0 hiN hN (hb hby d1_15) (pc' := 16) rfl ?_
  intro T1 h1 X1 e1 W1 U1
  have Y1 := V2.other W1 (Ne.symm nxy)
  have Z1 := V3.other W1 (Ne.symm nxz)
  refine g_aloadN X1 hx (hb hby d1_16) (pc' := 17) rfl rfl rfl ?_
  refine g_iloadN X1 hx (hb hby d1_17) (pc' := 18) rfl rfl ?_
  refine g_iloadN X1 hx (hb hby d1_18) (pc' := 19) rfl rfl ?_
  refine g_iload X1 hx (hb hby d1_19) (pc' := 21) rfl rfl ?_
  have j38 : ∀ v : Int32, v = byy a cc i len → Go p e below (Dn s below (QS Z ax ay az fx fy fz iN (bt a i) (byy a cc i len) (bz a i pos d) h0 n0) 0 0) (T1.setTop (mkF m 38 #[.val (.ref ax), .val (.ref ay), .val (.ref az), .val (.int i), .val (.long a), .second, .val (.long cc), .second, .val (.int len), .val (.int pos), .val (.int d), .val (.int b)] [(.int v), (.int i), (.ref ay)])) := by
    intro v hv
    refine g_bastore X1 hx hZ e1 Y1 hi0 hiN hN (hb hby d1_38) (pc' := 39) rfl ?_
    intro T2 h2 X2 e2 W2 U2
    have A2 := U1.other W2 nxy
    have Z2 := Z1.other W2 (Ne.symm nyz)
    refine g_aloadN X2 hx (hb hby d1_39) (pc' := 40) rfl rfl rfl ?_
    refine g_iloadN X2 hx (hb hby d1_40) (pc' := 41) rfl rfl ?_
    refine g_iloadN X2 hx (hb hby d1_41) (pc' := 42) rfl rfl ?_
    refine g_iload X2 hx (hb hby d1_42) (pc' := 44) rfl rfl ?_
    have j58 : ∀ v' : Int32, v' = bz a i pos d → Go p e below (Dn s below (QS Z ax ay az fx fy fz iN (bt a i) (byy a cc i len) (bz a i pos d) h0 n0) 0 0) (T2.setTop (mkF m 58 #[.val (.ref ax), .val (.ref ay), .val (.ref az), .val (.int i), .val (.long a), .second, .val (.long cc), .second, .val (.int len), .val (.int pos), .val (.int d), .val (.int b)] [(.int v'), (.int i), (.ref az)])) := by
      intro v' hv'
      refine g_bastore X2 hx hZ e2 Z2 hi0 hiN hN (hb hby d1_58) (pc' := 59) rfl ?_
      intro T3 h3 X3 e3 W3 U3
      have A3 := A2.other W3 nxz
      have Y3 := U2.other W3 nyz
      subst hv hv' gb
      exact g_retV X3 hx hret hlk (hb hby d1_59) (by decide) (by decide) ⟨Fr.snoc X3 (Fr.snoc X2 (Fr.snoc X1 (Fr.nil n0) gx) gy) gz, rfl, by rw [e3]; exact A3, by rw [e3]; exact Y3, by rw [e3]; exact U3⟩
    refine g_icmp_ne X2 hx (hb hby d1_44) (by decide) (pc' := 56) rfl (pcF := 47) rfl (fun hc => ?_) (fun hc => ?_)
    ·
      refine g_iload X2 hx (hb hby d1_56) (pc' := 58) rfl rfl ?_
      exact j58 b (by rw [bz, if_neg hc, gb])
    ·
      refine g_iload X2 hx (hb hby d1_47) (pc' := 49) rfl rfl ?_
      refine g_iload X2 hx (hb hby d1_49) (pc' := 51) rfl rfl ?_
      refine g_ixor X2 hx (hb hby d1_51) (pc' := 52) rfl rfl ?_
      refine g_i2b X2 hx (hb hby d1_52) (pc' := 53) rfl rfl ?_
      refine g_goto X2 hx (hb hby d1_53) (by decide) (pc' := 58) rfl ?_
      exact j58 ((b ^^^ d).toInt8.toInt32) (by rw [bz, if_pos hc, gb])
  refine g_icmp_ge X1 hx (hb hby d1_21) (by decide) (pc' := 29) rfl (pcF := 24) rfl (fun hc => ?_) (fun hc => ?_)
  ·
    refine g_lload X1 hx (hb hby d1_29) (pc' := 31) rfl rfl ?_
    refine g_bipush X1 hx (hb hby d1_31) (pc' := 33) rfl (z := 8) (by decide) ?_
    refine g_iloadN X1 hx (hb hby d1_33) (pc' := 34) rfl rfl ?_
    refine g_imul X1 hx (hb hby d1_34) (pc' := 35) rfl rfl ?_
    refine g_lushr X1 hx (hb hby d1_35) (pc' := 36) rfl rfl ?_
    refine g_l2i X1 hx (hb hby d1_36) (pc' := 37) rfl rfl ?_
    refine g_i2b X1 hx (hb hby d1_37) (pc' := 38) rfl rfl ?_
    exact j38 (bt cc i) (by rw [byy, if_neg hc])
  ·
    refine g_iload X1 hx (hb hby d1_24) (pc' := 26) rfl rfl ?_
    refine g_goto X1 hx (hb hby d1_26) (by decide) (pc' := 38) rfl ?_
    exact j38 b (by rw [byy, if_pos hc, gb])
theorem d2_0 : decode prog_23_method_14_code 0 = .ok (.iconst 0, 1) := by decide +kernel
theorem d2_1 : decode prog_23_method_14_code 1 = .ok (.istore_n 2, 1) := by decide +kernel
theorem d2_2 : decode prog_23_method_14_code 2 = .ok (.iconst 0, 1) := by decide +kernel
theorem d2_3 : decode prog_23_method_14_code 3 = .ok (.istore_n 3, 1) := by decide +kernel
theorem d2_4 : decode prog_23_method_14_code 4 = .ok (.iload_n 3, 1) := by decide +kernel
theorem d2_5 : decode prog_23_method_14_code 5 = .ok (.iload_n 1, 1) := by decide +kernel
theorem d2_6 : decode prog_23_method_14_code 6 = .ok (.if_icmp .ge 18, 3) := by decide +kernel
theorem d2_9 : decode prog_23_method_14_code 9 = .ok (.iload_n 2, 1) := by decide +kernel
theorem d2_10 : decode prog_23_method_14_code 10 = .ok (.aload_n 0, 1) := by decide +kernel
theorem d2_11 : decode prog_23_method_14_code 11 = .ok (.iload_n 3, 1) := by decide +kernel
theorem d2_12 : decode prog_23_method_14_code 12 = .ok (.baload, 1) := by decide +kernel
theorem d2_13 : decode prog_23_method_14_code 13 = .ok (.ixor, 1) := by decide +kernel
theorem d2_14 : decode prog_23_method_14_code 14 = .ok (.ldc 170, 2) := by decide +kernel
theorem d2_16 : decode prog_23_method_14_code 16 = .ok (.imul, 1) := by decide +kernel
theorem d2_17 : decode prog_23_method_14_code 17 = .ok (.istore_n 2, 1) := by decide +kernel
theorem d2_18 : decode prog_23_method_14_code 18 = .ok (.iinc 3 1, 3) := by decide +kernel
theorem d2_21 : decode prog_23_method_14_code 21 = .ok (.goto (-17), 3) := by decide +kernel
theorem d2_24 : decode prog_23_method_14_code 24 = .ok (.iload_n 2, 1) := by decide +kernel
theorem d2_25 : decode prog_23_method_14_code 25 = .ok (.iload_n 2, 1) := by decide +kernel
theorem d2_26 : decode prog_23_method_14_code 26 = .ok (.bipush 16, 2) := by decide +kernel
theorem d2_28 : decode prog_23_method_14_code 28 = .ok (.iushr, 1) := by decide +kernel
theorem d2_29 : decode prog_23_method_14_code 29 = .ok (.ixor, 1) := by decide +kernel
theorem d2_30 : decode prog_23_method_14_code 30 = .ok (.istore_n 2, 1) := by decide +kernel
theorem d2_31 : decode prog_23_method_14_code 31 = .ok (.iload_n 2, 1) := by decide +kernel
theorem d2_32 : decode prog_23_method_14_code 32 = .ok (.ldc 171, 2) := by decide +kernel
theorem d2_34 : decode prog_23_method_14_code 34 = .ok (.imul, 1) := by decide +kernel
theorem d2_35 : decode prog_23_method_14_code 35 = .ok (.istore_n 2, 1) := by decide +kernel
theorem d2_36 : decode prog_23_method_14_code 36 = .ok (.iload_n 2, 1) := by decide +kernel
theorem d2_37 : decode prog_23_method_14_code 37 = .ok (.iload_n 2, 1) := by decide +kernel
theorem d2_38 : decode prog_23_method_14_code 38 = .ok (.bipush 13, 2) := by decide +kernel
theorem d2_40 : decode prog_23_method_14_code 40 = .ok (.iushr, 1) := by decide +kernel
theorem d2_41 : decode prog_23_method_14_code 41 = .ok (.ixor, 1) := by decide +kernel
theorem d2_42 : decode prog_23_method_14_code 42 = .ok (.istore_n 2, 1) := by decide +kernel
theorem d2_43 : decode prog_23_method_14_code 43 = .ok (.iload_n 2, 1) := by decide +kernel
theorem d2_44 : decode prog_23_method_14_code 44 = .ok (.ldc 172, 2) := by decide +kernel
theorem d2_46 : decode prog_23_method_14_code 46 = .ok (.imul, 1) := by decide +kernel
theorem d2_47 : decode prog_23_method_14_code 47 = .ok (.istore_n 2, 1) := by decide +kernel
theorem d2_48 : decode prog_23_method_14_code 48 = .ok (.iload_n 2, 1) := by decide +kernel
theorem d2_49 : decode prog_23_method_14_code 49 = .ok (.iload_n 2, 1) := by decide +kernel
theorem d2_50 : decode prog_23_method_14_code 50 = .ok (.bipush 16, 2) := by decide +kernel
theorem d2_52 : decode prog_23_method_14_code 52 = .ok (.iushr, 1) := by decide +kernel
theorem d2_53 : decode prog_23_method_14_code 53 = .ok (.ixor, 1) := by decide +kernel
theorem d2_54 : decode prog_23_method_14_code 54 = .ok (.istore_n 2, 1) := by decide +kernel
theorem d2_55 : decode prog_23_method_14_code 55 = .ok (.iload_n 2, 1) := by decide +kernel
theorem d2_56 : decode prog_23_method_14_code 56 = .ok (.ireturn, 1) := by decide +kernel
theorem pn_2 : plainName "com/example/charted/charted/engine/StateStore" = true := by first | (simp [plainName, overriddenIn]; done) | decide +kernel
theorem pd_2 : parseMethodDescriptor "([BI)I" = some ⟨[.array .byte, .int], some .int⟩ := by decide +kernel
theorem ef_2 (m : MethodId) (x0 : Addr) (x1 : Int32) : entryFrame m #[(.ref x0), (.int x1)] 4 = mkF m 0 #[.val (.ref x0), .val (.int x1), .unset, .unset] [] := by first | (simp [entryFrame, mkF, argsToLocals, Value.category]; done) | rfl
def QH (w : Int32) (h0 : Heap) (n0 : Nat) (v : Option Value) (h : Heap) (L : List Loc) : Prop := Fr n0 L ∧ h = h0 ∧ v = some (.int w)
set_option maxRecDepth 65536 in
set_option maxHeartbeats 40000000 in
theorem rm2 (l : Launch) (Z : State) (a0 : Array Value) (hw : ∀ d ∈ tables_1, d.before a0 Z = true) (a : Addr) (F : Nat → Int32) (len : Int32) (n : Nat) (h0 : Heap) (n0 : Nat) (V : Av Z h0 a .byte 8 (fun j => .int (F j))) (hlen : len.toInt = n) (hn : n ≤ 8) :
    Ct l Z (⟨"com/example/charted/charted/engine/StateStore", "hash", "([BI)I"⟩ : MethodName) prog_23_method_14_code 4 (some .int) ({ frames := 0, cells := 0, slots := 0, locals := 0 } : Room) #[(.ref a), (.int len)] h0 (QH (fin (hs F n)) h0 n0) := by
  refine Ct.of pn_2 (fun m => ef_2 m a len) ?_
  intro p e s m below meth c T X0 hx hby hml hret hlk hZ hown hnm e0
  have leaf : ∀ t : Int32, Go p e below (Dn s below (QH (fin (hs F n)) h0 n0) 0 0) (T.setTop (mkF m 24 #[.val (.ref a), .val (.int len), .val (.int (hs F n)), .val (.int t)] [])) := by
    intro t
    refine g_iloadN X0 hx (hb hby d2_24) (pc' := 25) rfl rfl ?_
    refine g_iloadN X0 hx (hb hby d2_25) (pc' := 26) rfl rfl ?_
    refine g_bipush X0 hx (hb hby d2_26) (pc' := 28) rfl (z := 16) (by decide) ?_
    refine g_iushr X0 hx (hb hby d2_28) (pc' := 29) rfl rfl ?_
    obtain ⟨a1, g_a1⟩ : ∃ z : Int32, ((hs F n) ^^^ (XT.ushr (hs F n) (16 : Int32))) = z := ⟨_, rfl⟩
    refine g_ixor X0 hx (hb hby d2_29) (pc' := 30) rfl (z := a1) g_a1 ?_
    refine g_istoreN X0 hx (hb hby d2_30) (pc' := 31) rfl (Ls' := #[.val (.ref a), .val (.int len), .val (.int a1), .val (.int t)]) rfl ?_
    refine g_iloadN X0 hx (hb hby d2_31) (pc' := 32) rfl rfl ?_
    refine g_ldcI X0 hx hZ hown (hw _ (List.mem_of_getElem? (i := 10) rfl)) (hb hby d2_32) (pc' := 34) rfl ?_
    obtain ⟨a2, g_a2⟩ : ∃ z : Int32, (a1 * (-2048144789 : Int32)) = z := ⟨_, rfl⟩
    refine g_imul X0 hx (hb hby d2_34) (pc' := 35) rfl (z := a2) g_a2 ?_
    refine g_istoreN X0 hx (hb hby d2_35) (pc' := 36) rfl (Ls' := #[.val (.ref a), .val (.int len), .val (.int a2), .val (.int t)]) rfl ?_
    refine g_iloadN X0 hx (hb hby d2_36) (pc' := 37) rfl rfl ?_
    refine g_iloadN X0 hx (hb hby d2_37) (pc' := 38) rfl rfl ?_
    refine g_bipush X0 hx (hb hby d2_38) (pc' := 40) rfl (z := 13) (by decide) ?_
    refine g_iushr X0 hx (hb hby d2_40) (pc' := 41) rfl rfl ?_
    obtain ⟨a3, g_a3⟩ : ∃ z : Int32, (a2 ^^^ (XT.ushr a2 (13 : Int32))) = z := ⟨_, rfl⟩
    refine g_ixor X0 hx (hb hby d2_41) (pc' := 42) rfl (z := a3) g_a3 ?_
    refine g_istoreN X0 hx (hb hby d2_42) (pc' := 43) rfl (Ls' := #[.val (.ref a), .val (.int len), .val (.int a3), .val (.int t)]) rfl ?_
    refine g_iloadN X0 hx (hb hby d2_43) (pc' := 44) rfl rfl ?_
    refine g_ldcI X0 hx hZ hown (hw _ (List.mem_of_getElem? (i := 11) rfl)) (hb hby d2_44) (pc' := 46) rfl ?_
    obtain ⟨a4, g_a4⟩ : ∃ z : Int32, (a3 * (-1028477387 : Int32)) = z := ⟨_, rfl⟩
    refine g_imul X0 hx (hb hby d2_46) (pc' := 47) rfl (z := a4) g_a4 ?_
    refine g_istoreN X0 hx (hb hby d2_47) (pc' := 48) rfl (Ls' := #[.val (.ref a), .val (.int len), .val (.int a4), .val (.int t)]) rfl ?_
    refine g_iloadN X0 hx (hb hby d2_48) (pc' := 49) rfl rfl ?_
    refine g_iloadN X0 hx (hb hby d2_49) (pc' := 50) rfl rfl ?_
    refine g_bipush X0 hx (hb hby d2_50) (pc' := 52) rfl (z := 16) (by decide) ?_
    refine g_iushr X0 hx (hb hby d2_52) (pc' := 53) rfl rfl ?_
    obtain ⟨a5, g_a5⟩ : ∃ z : Int32, (a4 ^^^ (XT.ushr a4 (16 : Int32))) = z := ⟨_, rfl⟩
    refine g_ixor X0 hx (hb hby d2_53) (pc' := 54) rfl (z := a5) g_a5 ?_
    refine g_istoreN X0 hx (hb hby d2_54) (pc' := 55) rfl (Ls' := #[.val (.ref a), .val (.int len), .val (.int a5), .val (.int t)]) rfl ?_
    refine g_iloadN X0 hx (hb hby d2_55) (pc' := 56) rfl rfl ?_
    exact g_retI X0 hx hret hlk (hb hby d2_56) (by decide) (by decide) ⟨Fr.nil _, e0, by rw [fin, g_a1, g_a2, g_a3, g_a4, g_a5]⟩
  have loop : ∀ (k i : Nat), i + k = n → Go p e below (Dn s below (QH (fin (hs F n)) h0 n0) 0 0) (T.setTop (mkF m 4 #[.val (.ref a), .val (.int len), .val (.int (hs F i)), .val (.int (Int32.ofNat i))] [])) := by
    intro k
    induction k with
    | zero =>
      intro i hik
      refine g_iloadN X0 hx (hb hby d2_4) (pc' := 5) rfl rfl ?_
      refine g_iloadN X0 hx (hb hby d2_5) (pc' := 6) rfl rfl ?_
      refine g_icmp_ge X0 hx (hb hby d2_6) (by decide) (pc' := 24) rfl (pcF := 9) rfl (fun hc => ?_) (fun hc => ?_)
      · obtain rfl : i = n := hik
        exact leaf _
      · exact absurd (Int32.lt_iff_toInt_lt.mp hc) (by rw [own_i (by omega)]; omega)
    | succ k ih =>
      intro i hik
      refine g_iloadN X0 hx (hb hby d2_4) (pc' := 5) rfl rfl ?_
      refine g_iloadN X0 hx (hb hby d2_5) (pc' := 6) rfl rfl ?_
      refine g_icmp_ge X0 hx (hb hby d2_6) (by decide) (pc' := 24) rfl (pcF := 9) rfl (fun hc => ?_) (fun hc => ?_)
      · exact absurd (Int32.lt_iff_toInt_lt.mpr (by rw [own_i (by omega)]; omega)) hc
      refine g_iloadN X0 hx (hb hby d2_9) (pc' := 10) rfl rfl ?_
      refine g_aloadN X0 hx (hb hby d2_10) (pc' := 11) rfl rfl rfl ?_
      refine g_iloadN X0 hx (hb hby d2_11) (pc' := 12) rfl rfl ?_
      refine g_baload X0 hx hZ e0 V (own_nn.mpr (by rw [own_i (by omega)]; omega)) (own_nat (own_i (by omega))) (by omega) (v := F i) rfl (hb hby d2_12) (pc' := 13) rfl ?_
      refine g_ixor X0 hx (hb hby d2_13) (pc' := 14) rfl rfl ?_
      refine g_ldcI X0 hx hZ hown (hw _ (List.mem_of_getElem? (i := 12) rfl)) (hb hby d2_14) (pc' := 16) rfl ?_
      refine g_imul X0 hx (hb hby d2_16) (pc' := 17) rfl rfl ?_
      refine g_istoreN X0 hx (hb hby d2_17) (pc' := 18) rfl (Ls' := #[.val (.ref a), .val (.int len), .val (.int (((hs F i) ^^^ (F i)) * (16777619 : Int32))), .val (.int (Int32.ofNat i))]) rfl ?_
      refine g_iinc X0 hx (hb hby d2_18) (pc' := 21) rfl rfl (z := Int32.ofNat (i + 1)) (own_i1 i) (Ls' := #[.val (.ref a), .val (.int len), .val (.int (((hs F i) ^^^ (F i)) * (16777619 : Int32))), .val (.int (Int32.ofNat (i + 1)))]) rfl ?_
      refine g_goto X0 hx (hb hby d2_21) (by decide) (pc' := 4) rfl ?_
      exact ih (i + 1) (by omega)
  refine g_iconst X0 hx (hb hby d2_0) (pc' := 1) rfl (z := 0) (by decide) ?_
  refine g_istoreN X0 hx (hb hby d2_1) (pc' := 2) rfl (Ls' := #[.val (.ref a), .val (.int len), .val (.int (0 : Int32)), .unset]) rfl ?_
  refine g_iconst X0 hx (hb hby d2_2) (pc' := 3) rfl (z := 0) (by decide) ?_
  refine g_istoreN X0 hx (hb hby d2_3) (pc' := 4) rfl (Ls' := #[.val (.ref a), .val (.int len), .val (.int (0 : Int32)), .val (.int (0 : Int32))]) rfl ?_
  exact loop n 0 (by omega)
theorem pn_0 : plainName "com/example/charted/charted/engine/StateStoreHashPinLaw" = true := by first | (simp [plainName, overriddenIn]; done) | decide +kernel
theorem ef_0 (m : MethodId) (x0 : Int64) (x1 : Int64) (x2 : Int32) (x3 : Int32) (x4 : Int32) : entryFrame m #[(.long x0), (.long x1), (.int x2), (.int x3), (.int x4)] maxLocals = mkF m 0 #[.val (.long x0), .second, .val (.long x1), .second, .val (.int x2), .val (.int x3), .val (.int x4), .unset, .unset, .unset, .unset, .unset, .unset, .unset, .unset, .unset, .unset] [] := by first | (simp [entryFrame, mkF, argsToLocals, Value.category, maxLocals]; done) | rfl
def Q0 (n0 : Nat) (v : Option Value) (h : Heap) (L : List Loc) : Prop := v = some (.int 1) ∧ Fr n0 L
set_option maxRecDepth 65536 in
set_option maxHeartbeats 40000000 in
theorem rm0 (l : Launch) (Z : State) (a0 : Array Value) (hw : ∀ d ∈ tables_1, d.before a0 Z = true) (a cc : Int64) (pn pp pd : Int32) (h0 : Heap) (n0 : Nat) (Z0 : n0 ≤ h0.size) :
    Ct l Z x code maxLocals ret room_1 #[(.long a), (.long cc), (.int pn), (.int pp), (.int pd)] h0 (Q0 n0) := by
  refine Ct.of pn_0 (fun m => ef_0 m a cc pn pp pd) ?_
  intro p e s m below meth c T X0 hx hby hml hret hlk hZ hown hnm e0
  refine g_iload X0 hx (hb hby at_0) (pc' := 2) rfl rfl ?_
  refine g_ldcI X0 hx hZ hown (hw _ (List.mem_of_getElem? (i := 0) rfl)) (hb hby at_2) (pc' := 4) rfl ?_
  refine g_iand X0 hx (hb hby at_4) (pc' := 5) rfl rfl ?_
  refine g_bipush X0 hx (hb hby at_5) (pc' := 7) rfl (z := 9) (by decide) ?_
  obtain ⟨len, g_len⟩ : ∃ z : Int32, z = (pn &&& 2147483647) - (pn &&& 2147483647) / 9 * 9 := ⟨_, rfl⟩
  have r_len : len.toInt = (pn &&& 2147483647).toInt % 9 := by rw [g_len]; exact own_rem (own_mask pn) (by decide)
  obtain ⟨n, hn⟩ : ∃ n : Nat, len.toInt = n := ⟨len.toInt.toNat, by omega⟩
  refine g_irem X0 hx (hb hby at_7) (pc' := 8) rfl (by decide) (z := len) g_len.symm ?_
  refine g_istore X0 hx (hb hby at_8) (pc' := 10) rfl (Ls' := #[.val (.long a), .second, .val (.long cc), .second, .val (.int pn), .val (.int pp), .val (.int pd), .val (.int len), .unset, .unset, .unset, .unset, .unset, .unset, .unset, .unset, .unset]) rfl ?_
  refine g_iload X0 hx (hb hby at_10) (pc' := 12) rfl rfl ?_
  have join : ∀ pos : Int32, (len = 0 ∨ (0 ≤ pos.toInt ∧ pos.toInt < len.toInt)) → Go p e below (Dn s below (Q0 n0) 16 128) (T.setTop (mkF m 27 #[.val (.long a), .second, .val (.long cc), .second, .val (.int pn), .val (.int pp), .val (.int pd), .val (.int len), .unset, .unset, .unset, .unset, .unset, .unset, .unset, .unset, .unset] [(.int pos)])) := by
    intro pos hpos
    refine g_istore X0 hx (hb hby at_27) (pc' := 29) rfl (Ls' := #[.val (.long a), .second, .val (.long cc), .second, .val (.int pn), .val (.int pp), .val (.int pd), .val (.int len), .val (.int pos), .unset, .unset, .unset, .unset, .unset, .unset, .unset, .unset]) rfl ?_
    refine g_iconst X0 hx (hb hby at_29) (pc' := 30) rfl (z := 1) (by decide) ?_
    refine g_iload X0 hx (hb hby at_30) (pc' := 32) rfl rfl ?_
    refine g_ldcI X0 hx hZ hown (hw _ (List.mem_of_getElem? (i := 0) rfl)) (hb hby at_32) (pc' := 34) rfl ?_
    refine g_iand X0 hx (hb hby at_34) (pc' := 35) rfl rfl ?_
    refine g_sipush X0 hx (hb hby at_35) (pc' := 38) rfl (z := 255) (by decide) ?_
    obtain ⟨dd, g_dd⟩ : ∃ z : Int32, z = (pd &&& 2147483647) - (pd &&& 2147483647) / 255 * 255 := ⟨_, rfl⟩
    have r_dd : dd.toInt = (pd &&& 2147483647).toInt % 255 := by rw [g_dd]; exact own_rem (own_mask pd) (by decide)
    refine g_irem X0 hx (hb hby at_38) (pc' := 39) rfl (by decide) (z := dd) g_dd.symm ?_
    obtain ⟨d, g_d⟩ : ∃ z : Int32, (1 : Int32) + dd = z := ⟨_, rfl⟩
    have r_d : d.toInt = 1 + dd.toInt := by have := c_iadd 1 dd; rw [g_d] at this; have := rng32 d; have e1 : (1 : Int32).toInt = 1 := rfl; omega
    refine g_iadd X0 hx (hb hby at_39) (pc' := 40) rfl (z := d) g_d ?_
    refine g_istore X0 hx (hb hby at_40) (pc' := 42) rfl (Ls' := #[.val (.long a), .second, .val (.long cc), .second, .val (.int pn), .val (.int pp), .val (.int pd), .val (.int len), .val (.int pos), .val (.int d), .unset, .unset, .unset, .unset, .unset, .unset, .unset]) rfl ?_
    refine g_bipush X0 hx (hb hby at_42) (pc' := 44) rfl (z := 8) (by decide) ?_
    refine g_newarr X0 hx hZ (hw _ (List.mem_of_getElem? (i := 1) rfl)) rfl e0 (hb hby at_44) (pc' := 46) rfl (by decide) (n := 8) (by decide) 8 (by decide) (by decide) (by decide) (by decide) ?_
    intro T1 h1 ax g1 X1 e1 E1 V1
    refine g_astore X1 hx (hb hby at_46) (pc' := 48) rfl rfl (Ls' := #[.val (.long a), .second, .val (.long cc), .second, .val (.int pn), .val (.int pp), .val (.int pd), .val (.int len), .val (.int pos), .val (.int d), .val (.ref ax), .unset, .unset, .unset, .unset, .unset, .unset]) rfl ?_
    refine g_bipush X1 hx (hb hby at_48) (pc' := 50) rfl (z := 8) (by decide) ?_
    refine g_newarr X1 hx hZ (hw _ (List.mem_of_getElem? (i := 1) rfl)) rfl e1 (hb hby at_50) (pc' := 52) rfl (by decide) (n := 8) (by decide) 8 (by decide) (by decide) (by decide) (by decide) ?_
    intro T2 h2 ay g2 X2 e2 E2 V2
    refine g_astore X2 hx (hb hby at_52) (pc' := 54) rfl rfl (Ls' := #[.val (.long a), .second, .val (.long cc), .second, .val (.int pn), .val (.int pp), .val (.int pd), .val (.int len), .val (.int pos), .val (.int d), .val (.ref ax), .val (.ref ay), .unset, .unset, .unset, .unset, .unset]) rfl ?_
    refine g_bipush X2 hx (hb hby at_54) (pc' := 56) rfl (z := 8) (by decide) ?_
    refine g_newarr X2 hx hZ (hw _ (List.mem_of_getElem? (i := 1) rfl)) rfl e2 (hb hby at_56) (pc' := 58) rfl (by decide) (n := 8) (by decide) 8 (by decide) (by decide) (by decide) (by decide) ?_
    intro T3 h3 az g3 X3 e3 E3 V3
    have gx : n0 ≤ ax := Nat.le_trans Z0 (Nat.le_of_eq g1.symm)
    have gy : n0 ≤ ay := Nat.le_trans (Nat.le_trans Z0 E1.1) (Nat.le_of_eq g2.symm)
    have gz : n0 ≤ az := Nat.le_trans (Nat.le_trans (Nat.le_trans Z0 E1.1) E2.1) (Nat.le_of_eq g3.symm)
    have nxy : ax ≠ ay := Nat.ne_of_lt (g2 ▸ V1.lt)
    have nxz : ax ≠ az := Nat.ne_of_lt (g3 ▸ (V1.ext E2).lt)
    have nyz : ay ≠ az := Nat.ne_of_lt (g3 ▸ V2.lt)
    have A_0 := (V1.ext E2).ext E3
    have B_0 := V2.ext E3
    have C_0 := V3
    refine g_astore X3 hx (hb hby at_58) (pc' := 60) rfl rfl (Ls' := #[.val (.long a), .second, .val (.long cc), .second, .val (.int pn), .val (.int pp), .val (.int pd), .val (.int len), .val (.int pos), .val (.int d), .val (.ref ax), .val (.ref ay), .val (.ref az), .unset, .unset, .unset, .unset]) rfl ?_
    refine g_aload X3 hx (hb hby at_60) (pc' := 62) rfl rfl rfl ?_
    refine g_aload X3 hx (hb hby at_62) (pc' := 64) rfl rfl rfl ?_
    refine g_aload X3 hx (hb hby at_64) (pc' := 66) rfl rfl rfl ?_
    refine g_iconst X3 hx (hb hby at_66) (pc' := 67) rfl (z := 0) (by decide) ?_
    refine g_lloadN X3 hx (hb hby at_67) (pc' := 68) rfl rfl ?_
    refine g_lloadN X3 hx (hb hby at_68) (pc' := 69) rfl rfl ?_
    refine g_iload X3 hx (hb hby at_69) (pc' := 71) rfl rfl ?_
    refine g_iload X3 hx (hb hby at_71) (pc' := 73) rfl rfl ?_
    refine g_iload X3 hx (hb hby at_73) (pc' := 75) rfl rfl ?_
    refine g_callS X3 hx hZ 0 hown (hw _ (List.mem_of_getElem? (i := 2) rfl)) (hw _ (List.mem_of_getElem? (i := 3) rfl)) (hw _ (List.mem_of_getElem? (i := 4) rfl)) (hw _ (List.mem_of_getElem? (i := 5) rfl)) (by decide) e3 (rm1 l Z a0 hw ax ay az _ _ _ (0 : Int32) 0 a cc len pos d _ n0 A_0 B_0 C_0 nxy nxz nyz gx gy gz rfl (by decide)) (by decide) (by decide) (by rw [hml]; rfl) (argsL := [(.ref ax), (.ref ay), (.ref az), (.int (0 : Int32)), (.long a), (.long cc), (.int len), (.int pos), (.int d)]) (rest := []) (lenOf pd_1 rfl) rfl (Nat.le_of_eq rfl) (hb hby at_75) (pc' := 78) rfl (by decide) (by decide) rfl ?_
    rintro T10 _ L10 X10 ⟨M10, rfl, A_1, B_1, C_1⟩
    show Go p e below _ (T10.setTop (mkF m 78 #[.val (.long a), .second, .val (.long cc), .second, .val (.int pn), .val (.int pp), .val (.int pd), .val (.int len), .val (.int pos), .val (.int d), .val (.ref ax), .val (.ref ay), .val (.ref az), .unset, .unset, .unset, .unset] []))
    refine g_aload X10 hx (hb hby at_78) (pc' := 80) rfl rfl rfl ?_
    refine g_aload X10 hx (hb hby at_80) (pc' := 82) rfl rfl rfl ?_
    refine g_aload X10 hx (hb hby at_82) (pc' := 84) rfl rfl rfl ?_
    refine g_iconst X10 hx (hb hby at_84) (pc' := 85) rfl (z := 1) (by decide) ?_
    refine g_lloadN X10 hx (hb hby at_85) (pc' := 86) rfl rfl ?_
    refine g_lloadN X10 hx (hb hby at_86) (pc' := 87) rfl rfl ?_
    refine g_iload X10 hx (hb hby at_87) (pc' := 89) rfl rfl ?_
    refine g_iload X10 hx (hb hby at_89) (pc' := 91) rfl rfl ?_
    refine g_iload X10 hx (hb hby at_91) (pc' := 93) rfl rfl ?_
    refine g_callS X10 hx hZ 0 hown (hw _ (List.mem_of_getElem? (i := 2) rfl)) (hw _ (List.mem_of_getElem? (i := 3) rfl)) (hw _ (List.mem_of_getElem? (i := 4) rfl)) (hw _ (List.mem_of_getElem? (i := 5) rfl)) (by decide) rfl (rm1 l Z a0 hw ax ay az _ _ _ (1 : Int32) 1 a cc len pos d _ n0 A_1 B_1 C_1 nxy nxz nyz gx gy gz rfl (by decide)) (by decide) (by decide) (by rw [hml]; rfl) (argsL := [(.ref ax), (.ref ay), (.ref az), (.int (1 : Int32)), (.long a), (.long cc), (.int len), (.int pos), (.int d)]) (rest := []) (lenOf pd_1 rfl) rfl (Nat.le_of_eq rfl) (hb hby at_93) (pc' := 96) rfl (by decide) (by decide) rfl ?_
    rintro T11 _ L11 X11 ⟨M11, rfl, A_2, B_2, C_2⟩
    show Go p e below _ (T11.setTop (mkF m 96 #[.val (.long a), .second, .val (.long cc), .second, .val (.int pn), .val (.int pp), .val (.int pd), .val (.int len), .val (.int pos), .val (.int d), .val (.ref ax), .val (.ref ay), .val (.ref az), .unset, .unset, .unset, .unset] []))
    refine g_aload X11 hx (hb hby at_96) (pc' := 98) rfl rfl rfl ?_
    refine g_aload X11 hx (hb hby at_98) (pc' := 100) rfl rfl rfl ?_
    refine g_aload X11 hx (hb hby at_100) (pc' := 102) rfl rfl rfl ?_
    refine g_iconst X11 hx (hb hby at_102) (pc' := 103) rfl (z := 2) (by decide) ?_
    refine g_lloadN X11 hx (hb hby at_103) (pc' := 104) rfl rfl ?_
    refine g_lloadN X11 hx (hb hby at_104) (pc' := 105) rfl rfl ?_
    refine g_iload X11 hx (hb hby at_105) (pc' := 107) rfl rfl ?_
    refine g_iload X11 hx (hb hby at_107) (pc' := 109) rfl rfl ?_
    refine g_iload X11 hx (hb hby at_109) (pc' := 111) rfl rfl ?_
    refine g_callS X11 hx hZ 0 hown (hw _ (List.mem_of_getElem? (i := 2) rfl)) (hw _ (List.mem_of_getElem? (i := 3) rfl)) (hw _ (List.mem_of_getElem? (i := 4) rfl)) (hw _ (List.mem_of_getElem? (i := 5) rfl)) (by decide) rfl (rm1 l Z a0 hw ax ay az _ _ _ (2 : Int32) 2 a cc len pos d _ n0 A_2 B_2 C_2 nxy nxz nyz gx gy gz rfl (by decide)) (by decide) (by decide) (by rw [hml]; rfl) (argsL := [(.ref ax), (.ref ay), (.ref az), (.int (2 : Int32)), (.long a), (.long cc), (.int len), (.int pos), (.int d)]) (rest := []) (lenOf pd_1 rfl) rfl (Nat.le_of_eq rfl) (hb hby at_111) (pc' := 114) rfl (by decide) (by decide) rfl ?_
    rintro T12 _ L12 X12 ⟨M12, rfl, A_3, B_3, C_3⟩
    show Go p e below _ (T12.setTop (mkF m 114 #[.val (.long a), .second, .val (.long cc), .second, .val (.int pn), .val (.int pp), .val (.int pd), .val (.int len), .val (.int pos), .val (.int d), .val (.ref ax), .val (.ref ay), .val (.ref az), .unset, .unset, .unset, .unset] []))
    refine g_aload X12 hx (hb hby at_114) (pc' := 116) rfl rfl rfl ?_
    refine g_aload X12 hx (hb hby at_116) (pc' := 118) rfl rfl rfl ?_
    refine g_aload X12 hx (hb hby at_118) (pc' := 120) rfl rfl rfl ?_
    refine g_iconst X12 hx (hb hby at_120) (pc' := 121) rfl (z := 3) (by decide) ?_
    refine g_lloadN X12 hx (hb hby at_121) (pc' := 122) rfl rfl ?_
    refine g_lloadN X12 hx (hb hby at_122) (pc' := 123) rfl rfl ?_
    refine g_iload X12 hx (hb hby at_123) (pc' := 125) rfl rfl ?_
    refine g_iload X12 hx (hb hby at_125) (pc' := 127) rfl rfl ?_
    refine g_iload X12 hx (hb hby at_127) (pc' := 129) rfl rfl ?_
    refine g_callS X12 hx hZ 0 hown (hw _ (List.mem_of_getElem? (i := 2) rfl)) (hw _ (List.mem_of_getElem? (i := 3) rfl)) (hw _ (List.mem_of_getElem? (i := 4) rfl)) (hw _ (List.mem_of_getElem? (i := 5) rfl)) (by decide) rfl (rm1 l Z a0 hw ax ay az _ _ _ (3 : Int32) 3 a cc len pos d _ n0 A_3 B_3 C_3 nxy nxz nyz gx gy gz rfl (by decide)) (by decide) (by decide) (by rw [hml]; rfl) (argsL := [(.ref ax), (.ref ay), (.ref az), (.int (3 : Int32)), (.long a), (.long cc), (.int len), (.int pos), (.int d)]) (rest := []) (lenOf pd_1 rfl) rfl (Nat.le_of_eq rfl) (hb hby at_129) (pc' := 132) rfl (by decide) (by decide) rfl ?_
    rintro T13 _ L13 X13 ⟨M13, rfl, A_4, B_4, C_4⟩
    show Go p e below _ (T13.setTop (mkF m 132 #[.val (.long a), .second, .val (.long cc), .second, .val (.int pn), .val (.int pp), .val (.int pd), .val (.int len), .val (.int pos), .val (.int d), .val (.ref ax), .val (.ref ay), .val (.ref az), .unset, .unset, .unset, .unset] []))
    refine g_aload X13 hx (hb hby at_132) (pc' := 134) rfl rfl rfl ?_
    refine g_aload X13 hx (hb hby at_134) (pc' := 136) rfl rfl rfl ?_
    refine g_aload X13 hx (hb hby at_136) (pc' := 138) rfl rfl rfl ?_
    refine g_iconst X13 hx (hb hby at_138) (pc' := 139) rfl (z := 4) (by decide) ?_
    refine g_lloadN X13 hx (hb hby at_139) (pc' := 140) rfl rfl ?_
    refine g_lloadN X13 hx (hb hby at_140) (pc' := 141) rfl rfl ?_
    refine g_iload X13 hx (hb hby at_141) (pc' := 143) rfl rfl ?_
    refine g_iload X13 hx (hb hby at_143) (pc' := 145) rfl rfl ?_
    refine g_iload X13 hx (hb hby at_145) (pc' := 147) rfl rfl ?_
    refine g_callS X13 hx hZ 0 hown (hw _ (List.mem_of_getElem? (i := 2) rfl)) (hw _ (List.mem_of_getElem? (i := 3) rfl)) (hw _ (List.mem_of_getElem? (i := 4) rfl)) (hw _ (List.mem_of_getElem? (i := 5) rfl)) (by decide) rfl (rm1 l Z a0 hw ax ay az _ _ _ (4 : Int32) 4 a cc len pos d _ n0 A_4 B_4 C_4 nxy nxz nyz gx gy gz rfl (by decide)) (by decide) (by decide) (by rw [hml]; rfl) (argsL := [(.ref ax), (.ref ay), (.ref az), (.int (4 : Int32)), (.long a), (.long cc), (.int len), (.int pos), (.int d)]) (rest := []) (lenOf pd_1 rfl) rfl (Nat.le_of_eq rfl) (hb hby at_147) (pc' := 150) rfl (by decide) (by decide) rfl ?_
    rintro T14 _ L14 X14 ⟨M14, rfl, A_5, B_5, C_5⟩
    show Go p e below _ (T14.setTop (mkF m 150 #[.val (.long a), .second, .val (.long cc), .second, .val (.int pn), .val (.int pp), .val (.int pd), .val (.int len), .val (.int pos), .val (.int d), .val (.ref ax), .val (.ref ay), .val (.ref az), .unset, .unset, .unset, .unset] []))
    refine g_aload X14 hx (hb hby at_150) (pc' := 152) rfl rfl rfl ?_
    refine g_aload X14 hx (hb hby at_152) (pc' := 154) rfl rfl rfl ?_
    refine g_aload X14 hx (hb hby at_154) (pc' := 156) rfl rfl rfl ?_
    refine g_iconst X14 hx (hb hby at_156) (pc' := 157) rfl (z := 5) (by decide) ?_
    refine g_lloadN X14 hx (hb hby at_157) (pc' := 158) rfl rfl ?_
    refine g_lloadN X14 hx (hb hby at_158) (pc' := 159) rfl rfl ?_
    refine g_iload X14 hx (hb hby at_159) (pc' := 161) rfl rfl ?_
    refine g_iload X14 hx (hb hby at_161) (pc' := 163) rfl rfl ?_
    refine g_iload X14 hx (hb hby at_163) (pc' := 165) rfl rfl ?_
    refine g_callS X14 hx hZ 0 hown (hw _ (List.mem_of_getElem? (i := 2) rfl)) (hw _ (List.mem_of_getElem? (i := 3) rfl)) (hw _ (List.mem_of_getElem? (i := 4) rfl)) (hw _ (List.mem_of_getElem? (i := 5) rfl)) (by decide) rfl (rm1 l Z a0 hw ax ay az _ _ _ (5 : Int32) 5 a cc len pos d _ n0 A_5 B_5 C_5 nxy nxz nyz gx gy gz rfl (by decide)) (by decide) (by decide) (by rw [hml]; rfl) (argsL := [(.ref ax), (.ref ay), (.ref az), (.int (5 : Int32)), (.long a), (.long cc), (.int len), (.int pos), (.int d)]) (rest := []) (lenOf pd_1 rfl) rfl (Nat.le_of_eq rfl) (hb hby at_165) (pc' := 168) rfl (by decide) (by decide) rfl ?_
    rintro T15 _ L15 X15 ⟨M15, rfl, A_6, B_6, C_6⟩
    show Go p e below _ (T15.setTop (mkF m 168 #[.val (.long a), .second, .val (.long cc), .second, .val (.int pn), .val (.int pp), .val (.int pd), .val (.int len), .val (.int pos), .val (.int d), .val (.ref ax), .val (.ref ay), .val (.ref az), .unset, .unset, .unset, .unset] []))
    refine g_aload X15 hx (hb hby at_168) (pc' := 170) rfl rfl rfl ?_
    refine g_aload X15 hx (hb hby at_170) (pc' := 172) rfl rfl rfl ?_
    refine g_aload X15 hx (hb hby at_172) (pc' := 174) rfl rfl rfl ?_
    refine g_bipush X15 hx (hb hby at_174) (pc' := 176) rfl (z := 6) (by decide) ?_
    refine g_lloadN X15 hx (hb hby at_176) (pc' := 177) rfl rfl ?_
    refine g_lloadN X15 hx (hb hby at_177) (pc' := 178) rfl rfl ?_
    refine g_iload X15 hx (hb hby at_178) (pc' := 180) rfl rfl ?_
    refine g_iload X15 hx (hb hby at_180) (pc' := 182) rfl rfl ?_
    refine g_iload X15 hx (hb hby at_182) (pc' := 184) rfl rfl ?_
    refine g_callS X15 hx hZ 0 hown (hw _ (List.mem_of_getElem? (i := 2) rfl)) (hw _ (List.mem_of_getElem? (i := 3) rfl)) (hw _ (List.mem_of_getElem? (i := 4) rfl)) (hw _ (List.mem_of_getElem? (i := 5) rfl)) (by decide) rfl (rm1 l Z a0 hw ax ay az _ _ _ (6 : Int32) 6 a cc len pos d _ n0 A_6 B_6 C_6 nxy nxz nyz gx gy gz rfl (by decide)) (by decide) (by decide) (by rw [hml]; rfl) (argsL := [(.ref ax), (.ref ay), (.ref az), (.int (6 : Int32)), (.long a), (.long cc), (.int len), (.int pos), (.int d)]) (rest := []) (lenOf pd_1 rfl) rfl (Nat.le_of_eq rfl) (hb hby at_184) (pc' := 187) rfl (by decide) (by decide) rfl ?_
    rintro T16 _ L16 X16 ⟨M16, rfl, A_7, B_7, C_7⟩
    show Go p e below _ (T16.setTop (mkF m 187 #[.val (.long a), .second, .val (.long cc), .second, .val (.int pn), .val (.int pp), .val (.int pd), .val (.int len), .val (.int pos), .val (.int d), .val (.ref ax), .val (.ref ay), .val (.ref az), .unset, .unset, .unset, .unset] []))
    refine g_aload X16 hx (hb hby at_187) (pc' := 189) rfl rfl rfl ?_
    refine g_aload X16 hx (hb hby at_189) (pc' := 191) rfl rfl rfl ?_
    refine g_aload X16 hx (hb hby at_191) (pc' := 193) rfl rfl rfl ?_
    refine g_bipush X16 hx (hb hby at_193) (pc' := 195) rfl (z := 7) (by decide) ?_
    refine g_lloadN X16 hx (hb hby at_195) (pc' := 196) rfl rfl ?_
    refine g_lloadN X16 hx (hb hby at_196) (pc' := 197) rfl rfl ?_
    refine g_iload X16 hx (hb hby at_197) (pc' := 199) rfl rfl ?_
    refine g_iload X16 hx (hb hby at_199) (pc' := 201) rfl rfl ?_
    refine g_iload X16 hx (hb hby at_201) (pc' := 203) rfl rfl ?_
    refine g_callS X16 hx hZ 0 hown (hw _ (List.mem_of_getElem? (i := 2) rfl)) (hw _ (List.mem_of_getElem? (i := 3) rfl)) (hw _ (List.mem_of_getElem? (i := 4) rfl)) (hw _ (List.mem_of_getElem? (i := 5) rfl)) (by decide) rfl (rm1 l Z a0 hw ax ay az _ _ _ (7 : Int32) 7 a cc len pos d _ n0 A_7 B_7 C_7 nxy nxz nyz gx gy gz rfl (by decide)) (by decide) (by decide) (by rw [hml]; rfl) (argsL := [(.ref ax), (.ref ay), (.ref az), (.int (7 : Int32)), (.long a), (.long cc), (.int len), (.int pos), (.int d)]) (rest := []) (lenOf pd_1 rfl) rfl (Nat.le_of_eq rfl) (hb hby at_203) (pc' := 206) rfl (by decide) (by decide) rfl ?_
    rintro T17 _ L17 X17 ⟨M17, rfl, A_8, B_8, C_8⟩
    show Go p e below _ (T17.setTop (mkF m 206 #[.val (.long a), .second, .val (.long cc), .second, .val (.int pn), .val (.int pp), .val (.int pd), .val (.int len), .val (.int pos), .val (.int d), .val (.ref ax), .val (.ref ay), .val (.ref az), .unset, .unset, .unset, .unset] []))
    have Vx : Av Z T17.heap ax .byte 8 (fun t => .int (Fx a cc len pos d t)) := A_8.congr (fun t ht => by
      have : t = 0 ∨ t = 1 ∨ t = 2 ∨ t = 3 ∨ t = 4 ∨ t = 5 ∨ t = 6 ∨ t = 7 := by omega
      rcases this with rfl | rfl | rfl | rfl | rfl | rfl | rfl | rfl <;> rfl)
    have Vy : Av Z T17.heap ay .byte 8 (fun t => .int (Fy a cc len pos d t)) := B_8.congr (fun t ht => by
      have : t = 0 ∨ t = 1 ∨ t = 2 ∨ t = 3 ∨ t = 4 ∨ t = 5 ∨ t = 6 ∨ t = 7 := by omega
      rcases this with rfl | rfl | rfl | rfl | rfl | rfl | rfl | rfl <;> rfl)
    have Vz : Av Z T17.heap az .byte 8 (fun t => .int (Fz a cc len pos d t)) := C_8.congr (fun t ht => by
      have : t = 0 ∨ t = 1 ∨ t = 2 ∨ t = 3 ∨ t = 4 ∨ t = 5 ∨ t = 6 ∨ t = 7 := by omega
      rcases this with rfl | rfl | rfl | rfl | rfl | rfl | rfl | rfl <;> rfl)
    refine g_aload X17 hx (hb hby at_206) (pc' := 208) rfl rfl rfl ?_
    refine g_iload X17 hx (hb hby at_208) (pc' := 210) rfl rfl ?_
    refine g_callS X17 hx hZ 0 hown (hw _ (List.mem_of_getElem? (i := 6) rfl)) (hw _ (List.mem_of_getElem? (i := 7) rfl)) (hw _ (List.mem_of_getElem? (i := 8) rfl)) (hw _ (List.mem_of_getElem? (i := 9) rfl)) (by decide) rfl (rm2 l Z a0 hw ax (Fx a cc len pos d) len n _ n0 Vx hn (by omega)) (by decide) (by decide) (by rw [hml]; rfl) (argsL := [(.ref ax), (.int len)]) (rest := []) (lenOf pd_2 rfl) rfl (Nat.le_of_eq rfl) (hb hby at_210) (pc' := 213) rfl (by decide) (by decide) rfl ?_
    rintro T21 _ L21 X21 ⟨M21, e21, rfl⟩
    show Go p e below _ (T21.setTop (mkF m 213 #[.val (.long a), .second, .val (.long cc), .second, .val (.int pn), .val (.int pp), .val (.int pd), .val (.int len), .val (.int pos), .val (.int d), .val (.ref ax), .val (.ref ay), .val (.ref az), .unset, .unset, .unset, .unset] [(.int (fin (hs (Fx a cc len pos d) n)))]))
    rw [own_Fxy a cc len pos d n hn (by omega)]
    obtain ⟨hv, ghv⟩ : ∃ z : Int32, z = fin (hs (Fy a cc len pos d) n) := ⟨_, rfl⟩
    rw [← ghv]
    refine g_istore X21 hx (hb hby at_213) (pc' := 215) rfl (Ls' := #[.val (.long a), .second, .val (.long cc), .second, .val (.int pn), .val (.int pp), .val (.int pd), .val (.int len), .val (.int pos), .val (.int d), .val (.ref ax), .val (.ref ay), .val (.ref az), .val (.int hv), .unset, .unset, .unset]) rfl ?_
    refine g_aload X21 hx (hb hby at_215) (pc' := 217) rfl rfl rfl ?_
    refine g_iload X21 hx (hb hby at_217) (pc' := 219) rfl rfl ?_
    refine g_callS X21 hx hZ 0 hown (hw _ (List.mem_of_getElem? (i := 6) rfl)) (hw _ (List.mem_of_getElem? (i := 7) rfl)) (hw _ (List.mem_of_getElem? (i := 8) rfl)) (hw _ (List.mem_of_getElem? (i := 9) rfl)) (by decide) e21 (rm2 l Z a0 hw ay (Fy a cc len pos d) len n _ n0 Vy hn (by omega)) (by decide) (by decide) (by rw [hml]; rfl) (argsL := [(.ref ay), (.int len)]) (rest := []) (lenOf pd_2 rfl) rfl (Nat.le_of_eq rfl) (hb hby at_219) (pc' := 222) rfl (by decide) (by decide) rfl ?_
    rintro T22 _ L22 X22 ⟨M22, e22, rfl⟩
    show Go p e below _ (T22.setTop (mkF m 222 #[.val (.long a), .second, .val (.long cc), .second, .val (.int pn), .val (.int pp), .val (.int pd), .val (.int len), .val (.int pos), .val (.int d), .val (.ref ax), .val (.ref ay), .val (.ref az), .val (.int hv), .unset, .unset, .unset] [(.int (fin (hs (Fy a cc len pos d) n)))]))
    rw [← ghv]
    refine g_istore X22 hx (hb hby at_222) (pc' := 224) rfl (Ls' := #[.val (.long a), .second, .val (.long cc), .second, .val (.int pn), .val (.int pp), .val (.int pd), .val (.int len), .val (.int pos), .val (.int d), .val (.ref ax), .val (.ref ay), .val (.ref az), .val (.int hv), .val (.int hv), .unset, .unset]) rfl ?_
    refine g_iload X22 hx (hb hby at_224) (pc' := 226) rfl rfl ?_
    refine g_iload X22 hx (hb hby at_226) (pc' := 228) rfl rfl ?_
    refine g_icmp_ne X22 hx (hb hby at_228) (by decide) (pc' := 235) rfl (pcF := 231) rfl (fun hq => ?_) (fun hq => ?_)
    · exact absurd rfl hq
    refine g_iconst X22 hx (hb hby at_231) (pc' := 232) rfl (z := 1) (by decide) ?_
    refine g_goto X22 hx (hb hby at_232) (by decide) (pc' := 236) rfl ?_
    refine g_istore X22 hx (hb hby at_236) (pc' := 238) rfl (Ls' := #[.val (.long a), .second, .val (.long cc), .second, .val (.int pn), .val (.int pp), .val (.int pd), .val (.int len), .val (.int pos), .val (.int d), .val (.ref ax), .val (.ref ay), .val (.ref az), .val (.int hv), .val (.int hv), .val (.int (1 : Int32)), .unset]) rfl ?_
    refine g_iload X22 hx (hb hby at_238) (pc' := 240) rfl rfl ?_
    refine g_if_eq X22 hx (hb hby at_240) (by decide) (pc' := 255) rfl (pcF := 243) rfl (fun h0len => ?_) (fun h0len => ?_)
    ·
      refine g_iconst X22 hx (hb hby at_255) (pc' := 256) rfl (z := 1) (by decide) ?_
      refine g_goto X22 hx (hb hby at_256) (by decide) (pc' := 260) rfl ?_
      refine g_istore X22 hx (hb hby at_260) (pc' := 262) rfl (Ls' := #[.val (.long a), .second, .val (.long cc), .second, .val (.int pn), .val (.int pp), .val (.int pd), .val (.int len), .val (.int pos), .val (.int d), .val (.ref ax), .val (.ref ay), .val (.ref az), .val (.int hv), .val (.int hv), .val (.int (1 : Int32)), .val (.int (1 : Int32))]) rfl ?_
      refine g_iload X22 hx (hb hby at_262) (pc' := 264) rfl rfl ?_
      refine g_if_eq X22 hx (hb hby at_264) (by decide) (pc' := 276) rfl (pcF := 267) rfl (fun r1 => ?_) (fun r1 => ?_)
      · exact absurd r1 (by decide)
      refine g_iload X22 hx (hb hby at_267) (pc' := 269) rfl rfl ?_
      refine g_if_eq X22 hx (hb hby at_269) (by decide) (pc' := 276) rfl (pcF := 272) rfl (fun r2 => ?_) (fun r2 => ?_)
      · exact absurd r2 (by decide)
      refine g_iconst X22 hx (hb hby at_272) (pc' := 273) rfl (z := 1) (by decide) ?_
      refine g_goto X22 hx (hb hby at_273) (by decide) (pc' := 277) rfl ?_
      exact g_retZ X22 hx hret hlk (by decide) (hb hby at_277) (by decide) (by decide) ⟨rfl, (((((((((((Fr.nil n0).app M10).app M11).app M12).app M13).app M14).app M15).app M16).app M17).app M21).app M22)⟩
    ·
      refine g_aload X22 hx (hb hby at_243) (pc' := 245) rfl rfl rfl ?_
      refine g_iload X22 hx (hb hby at_245) (pc' := 247) rfl rfl ?_
      refine g_callS X22 hx hZ 0 hown (hw _ (List.mem_of_getElem? (i := 6) rfl)) (hw _ (List.mem_of_getElem? (i := 7) rfl)) (hw _ (List.mem_of_getElem? (i := 8) rfl)) (hw _ (List.mem_of_getElem? (i := 9) rfl)) (by decide) e22 (rm2 l Z a0 hw az (Fz a cc len pos d) len n _ n0 Vz hn (by omega)) (by decide) (by decide) (by rw [hml]; rfl) (argsL := [(.ref az), (.int len)]) (rest := []) (lenOf pd_2 rfl) rfl (Nat.le_of_eq rfl) (hb hby at_247) (pc' := 250) rfl (by decide) (by decide) rfl ?_
      rintro T23 _ L23 X23 ⟨M23, e23, rfl⟩
      show Go p e below _ (T23.setTop (mkF m 250 #[.val (.long a), .second, .val (.long cc), .second, .val (.int pn), .val (.int pp), .val (.int pd), .val (.int len), .val (.int pos), .val (.int d), .val (.ref ax), .val (.ref ay), .val (.ref az), .val (.int hv), .val (.int hv), .val (.int (1 : Int32)), .unset] [(.int (fin (hs (Fz a cc len pos d) n)))]))
      refine g_iload X23 hx (hb hby at_250) (pc' := 252) rfl rfl ?_
      refine g_icmp_eq X23 hx (hb hby at_252) (by decide) (pc' := 259) rfl (pcF := 255) rfl (fun hz => ?_) (fun hz => ?_)
      · exact absurd hz (by rw [ghv, ← own_Fxy a cc len pos d n hn (by omega)]; exact own_changed a cc len pos d n hn (by omega) (hpos.resolve_left h0len) (by omega) (by omega))
      refine g_iconst X23 hx (hb hby at_255) (pc' := 256) rfl (z := 1) (by decide) ?_
      refine g_goto X23 hx (hb hby at_256) (by decide) (pc' := 260) rfl ?_
      refine g_istore X23 hx (hb hby at_260) (pc' := 262) rfl (Ls' := #[.val (.long a), .second, .val (.long cc), .second, .val (.int pn), .val (.int pp), .val (.int pd), .val (.int len), .val (.int pos), .val (.int d), .val (.ref ax), .val (.ref ay), .val (.ref az), .val (.int hv), .val (.int hv), .val (.int (1 : Int32)), .val (.int (1 : Int32))]) rfl ?_
      refine g_iload X23 hx (hb hby at_262) (pc' := 264) rfl rfl ?_
      refine g_if_eq X23 hx (hb hby at_264) (by decide) (pc' := 276) rfl (pcF := 267) rfl (fun r1 => ?_) (fun r1 => ?_)
      · exact absurd r1 (by decide)
      refine g_iload X23 hx (hb hby at_267) (pc' := 269) rfl rfl ?_
      refine g_if_eq X23 hx (hb hby at_269) (by decide) (pc' := 276) rfl (pcF := 272) rfl (fun r2 => ?_) (fun r2 => ?_)
      · exact absurd r2 (by decide)
      refine g_iconst X23 hx (hb hby at_272) (pc' := 273) rfl (z := 1) (by decide) ?_
      refine g_goto X23 hx (hb hby at_273) (by decide) (pc' := 277) rfl ?_
      exact g_retZ X23 hx hret hlk (by decide) (hb hby at_277) (by decide) (by decide) ⟨rfl, ((((((((((((Fr.nil n0).app M10).app M11).app M12).app M13).app M14).app M15).app M16).app M17).app M21).app M22).app M23)⟩
  refine g_if_le X0 hx (hb hby at_12) (by decide) (pc' := 26) rfl (pcF := 15) rfl (fun h12 => ?_) (fun h12 => ?_)
  ·
    refine g_iconst X0 hx (hb hby at_26) (pc' := 27) rfl (z := -1) (by decide) ?_
    exact join _ (Or.inl (own_len0 r_len h12))
  ·
    refine g_iload X0 hx (hb hby at_15) (pc' := 17) rfl rfl ?_
    refine g_ldcI X0 hx hZ hown (hw _ (List.mem_of_getElem? (i := 0) rfl)) (hb hby at_17) (pc' := 19) rfl ?_
    refine g_iand X0 hx (hb hby at_19) (pc' := 20) rfl rfl ?_
    refine g_iload X0 hx (hb hby at_20) (pc' := 22) rfl rfl ?_
    obtain ⟨ps, g_ps⟩ : ∃ z : Int32, z = (pp &&& 2147483647) - (pp &&& 2147483647) / len * len := ⟨_, rfl⟩
    have l0 : 0 < len.toInt := Int32.lt_iff_toInt_lt.mp h12
    have r_ps : ps.toInt = (pp &&& 2147483647).toInt % len.toInt := by rw [g_ps]; exact own_rem (own_mask pp) l0
    have q1 := Int.emod_nonneg (pp &&& 2147483647).toInt (Int.ne_of_gt l0)
    have q2 := Int.emod_lt_of_pos (pp &&& 2147483647).toInt l0
    refine g_irem X0 hx (hb hby at_22) (pc' := 23) rfl (fun z => by rw [z] at l0; exact absurd l0 (by decide)) (z := ps) g_ps.symm ?_
    refine g_goto X0 hx (hb hby at_23) (by decide) (pc' := 27) rfl ?_
    exact join ps (Or.inr ⟨by omega, by omega⟩)
set_option maxRecDepth 65536 in
set_option maxHeartbeats 40000000 in
theorem comes_1 {Post : Tables → Env → Array Value → State → Outcome → State → Prop} (hpost : ∀ tb e args s v u, (limb_1_1.after args s (.returned v) u = true ∧ limb_1_2.after args s (.returned v) u = true ∧ True) → FrameEnd s (.returned v) u (Jvm.fieldLocs frame_1_writes args s ++ Jvm.arrayLocs frame_1_arrays args s ++ Jvm.staticLocs frame_1_statics s) 16 128 → Post tb e args s (.returned v) u) :
    ArmFor flags0 classFile x code maxLocals ret World_1 tables_1 room_1 Calls_1 rest_1 Pre_1 Post := by
  intro l hfl _ _ p e ha hc hk s m args below hf hA hF happ hP
  obtain ⟨hcalls, hrest, hpre⟩ := hP
  obtain ⟨-, -, -, hnamed, -, -, -, hat⟩ := (Spec.applies_iff hf).mp happ
  obtain ⟨hg, hn⟩ := and_e (Cond.before_iff.mp (show (Jvm.Cond.and given_1 narrow_1).before args s = true from hpre))
  obtain ⟨hcount, k0⟩ := and_e hg
  obtain ⟨j0, k1⟩ := and_e k0
  obtain ⟨j1, k2⟩ := and_e k1
  obtain ⟨j2, k3⟩ := and_e k2
  obtain ⟨j3, k4⟩ := and_e k3
  have j4 := k4
  obtain ⟨w0, w1, w2, w3, w4, rfl⟩ : ∃ w0 w1 w2 w3 w4 : Value, args = #[w0, w1, w2, w3, w4] := by
    have hs : args.size = 5 := by simpa [Cond.value, given_1] using hcount
    obtain ⟨L⟩ := args
    match L, hs with
    | [w0, w1, w2, w3, w4], _ => exact ⟨w0, w1, w2, w3, w4, rfl⟩
  have hw := fun d (hd : d ∈ tables_1) => atoms_spec (ws := Jvm.Cond.code x code maxLocals ret :: tables_1) hat d (List.mem_cons_of_mem _ hd)
  obtain ⟨i0, e0⟩ := isL_v j0
  obtain rfl : w0 = (.long i0) := Option.some.inj e0
  obtain ⟨i1, e1⟩ := isL_v j1
  obtain rfl : w1 = (.long i1) := Option.some.inj e1
  obtain ⟨i2, e2⟩ := is_v j2
  obtain rfl : w2 = (.int i2) := Option.some.inj e2
  obtain ⟨i3, e3⟩ := is_v j3
  obtain rfl : w3 = (.int i3) := Option.some.inj e3
  obtain ⟨i4, e4⟩ := is_v j4
  obtain rfl : w4 = (.int i4) := Option.some.inj e4
  obtain ⟨n, o, h1, h2, h3, _, L, rfl, ⟨rfl, N⟩, hq⟩ := rm0 l s _ hw i0 i1 i2 i3 i4 s.heap s.heap.size (Nat.le_refl _) tables_1 p e ha hc hk s m _ below hf ((Spec.applies_iff_loose hf).mp happ).1 ⟨rfl, State.Warmed39.refl s, rfl⟩ trivial
  refine ⟨n, _, h1, h2, h3, hpost _ _ _ _ _ _ ⟨Cond.after_iff.mpr rfl, Cond.after_iff.mpr (eq_i res_at (Term.int_eval (1)) rfl), trivial⟩ ⟨hq.1, hq.2.1, (hq.2.2.sift fun y hy => Or.inr (N y hy)).mono (by decide) (by decide)⟩⟩
theorem main_1_1 : Claimed_1_1 := comes_1 fun _ _ _ _ _ _ h hF => ⟨h.1, hF⟩
theorem main_1_2 : Claimed_1_2 := comes_1 fun _ _ _ _ _ _ h hF => ⟨h.2.1, hF⟩
end Jvm.Pilot.@@N@@
namespace Jvm.Pilot.@@N@@
open Jvm Jvm.ClassFile Sem Op Lib Jvm.Free Jvm.Stand Jvm.Pilot.@@N@@.Jvm.D
/-! MADE BY PROGRAM (witnessworld.py) out of the Statement's table words and the real class files: 9 classes; the members and pool entries that the words name. The judged class is class 1, her method 2. -/
namespace start1
open Jvm.ClassFile
def u (s : String) : CpInfo := .utf8 (stringToUtf16 s)
/-- a pool by its gaps: so many unusable entries, then the entry; so many at the end -/
def gap : Nat → List CpInfo → List CpInfo
  | 0, r => r
  | n + 1, r => .unusable :: gap n r
def poolList (es : List (Nat × CpInfo)) (last : Nat) : List CpInfo := es.foldr (fun e r => gap e.1 (e.2 :: r)) (gap last [])
def pool (es : List (Nat × CpInfo)) (last : Nat) : Array CpInfo := ⟨poolList es last⟩
def fileOf (pool : Array CpInfo) (this : Nat) (attrs : Array Attribute := #[]) (ms : Array MethodInfo := #[]) (fl : Nat := 33) (sup : Nat := 0) (ifs : Array Nat := #[]) (fds : Array FieldInfo := #[]) : ClassFile where
  minorVersion := 0
  majorVersion := 65
  constantPool := pool
  accessFlags := fl
  thisClass := this
  superClass := sup
  interfaces := ifs
  fields := fds
  methods := ms
  attributes := attrs
def plain (name : String) (sup : Option ClassId) : Class where
  name := name
  kind := .ordinary
  loader := none
  accessFlags := 33
  super := sup
  interfaces := #[]
  cf := none
  fields := #[]
  methods := #[]
  instanceTypes := #[]
  staticTypes := #[]
  resolved := #[]
  callSites := []
  init := .initialized
  statics := none
  mirror := none

def pool0 : Array CpInfo := pool [(5, u "<init>"), (0, u "()V"), (1, .class_ 10), (1, u "java/lang/Object")] 113

def k0m0 : Method := { name := "<init>", desc := "()V", sig := { parameters := [], returnType := none }, accessFlags := 1, code := none }
/-- java/lang/Object -/
def k0 : Class := { plain "java/lang/Object" none with
  accessFlags := 33
  interfaces := #[]
  cf := some (fileOf pool0 8 #[] #[{ accessFlags := 1, nameIndex := 5, descriptorIndex := 6, attributes := #[] }] 33 0 #[] #[])
  fields := #[]
  methods := #[k0m0]
  instanceTypes := #[]
  staticTypes := #[]
  resolved := Array.replicate 124 none
  statics := none }

def pool1 : Array CpInfo := pool [(2, .class_ 4), (1, u "java/lang/Object"), (0, u "<init>"), (0, u "()V"), (0, .integer 2147483647), (0, .methodref 9 10), (0, .class_ 11), (0, .nameAndType 12 13), (0, u "com/example/charted/charted/engine/StateStoreHashPinLaw"), (0, u "set"), (0, u "([B[B[BIJJIII)V"), (0, .methodref 15 16), (0, .class_ 17), (0, .nameAndType 18 19), (0, u "com/example/charted/charted/engine/StateStore"), (0, u "hash"), (0, u "([BI)I"), (5, u "law"), (0, u "(JJIII)Z")] 2

def k1m0 : Method := { name := "<init>", desc := "()V", sig := { parameters := [], returnType := none }, accessFlags := 1, code := none }
def k1c1 : Code := { maxStack := 6, maxLocals := 12, code := method_2_code, exceptionTable := #[], attributes := #[] }
def k1m1 : Method := { name := "set", desc := "([B[B[BIJJIII)V", sig := { parameters := [(.array .byte), (.array .byte), (.array .byte), .int, .long, .long, .int, .int, .int], returnType := none }, accessFlags := 10, code := some k1c1 }
def k1c2 : Code := { maxStack := 11, maxLocals := 17, code := code, exceptionTable := #[], attributes := #[] }
def k1m2 : Method := { name := "law", desc := "(JJIII)Z", sig := { parameters := [.long, .long, .int, .int, .int], returnType := some .boolean }, accessFlags := 9, code := some k1c2 }
/-- com/example/charted/charted/engine/StateStoreHashPinLaw -/
def k1 : Class := { plain "com/example/charted/charted/engine/StateStoreHashPinLaw" (some 0) with
  accessFlags := 49
  interfaces := #[]
  cf := some (fileOf pool1 9 #[] #[{ accessFlags := 1, nameIndex := 5, descriptorIndex := 6, attributes := #[] }, { accessFlags := 10, nameIndex := 12, descriptorIndex := 13, attributes := #[] }, { accessFlags := 9, nameIndex := 25, descriptorIndex := 26, attributes := #[] }] 49 2 #[] #[])
  fields := #[]
  methods := #[k1m0, k1m1, k1m2]
  instanceTypes := #[]
  staticTypes := #[]
  resolved := Array.replicate 29 none
  statics := none }

def pool2 : Array CpInfo := pool [(1, .class_ 2), (0, u "com/example/charted/charted/engine/StateStore"), (1, .class_ 6), (1, u "java/lang/Object"), (7, u "objectNumbers"), (0, u "Ljava/util/Map;"), (5, u "objectStates"), (0, u "Ljava/util/List;"), (1, u "[B"), (3, u "blocks"), (0, u "[[B"), (2, u "blockCount"), (0, u "I"), (1, u "[J"), (2, u "places"), (0, u "[[J"), (2, u "slots"), (2, u "key"), (2, u "objectCount"), (6, u "keyLength"), (2, u "hash"), (0, u "([BI)I"), (6, u "size"), (81, u "used"), (21, .integer 16777619), (0, .integer 2246822507), (0, .integer 3266489909), (0, u "BLOCK_SIZE"), (1, u "PLACE_BITS"), (1, u "PLACE_BLOCK_SIZE"), (1, u "MAX_SLOTS"), (0, u "EMPTY"), (0, u "J")] 15

def k2c0 : Code := { maxStack := 3, maxLocals := 4, code := prog_23_method_14_code, exceptionTable := #[], attributes := #[] }
def k2m0 : Method := { name := "hash", desc := "([BI)I", sig := { parameters := [(.array .byte), .int], returnType := some .int }, accessFlags := 8, code := some k2c0 }
/-- com/example/charted/charted/engine/StateStore -/
def k2 : Class := { plain "com/example/charted/charted/engine/StateStore" (some 0) with
  accessFlags := 32
  interfaces := #[]
  cf := some (fileOf pool2 1 #[] #[{ accessFlags := 8, nameIndex := 58, descriptorIndex := 59, attributes := #[] }] 32 4 #[] #[{ accessFlags := 26, nameIndex := 173, descriptorIndex := 33, attributes := #[] }, { accessFlags := 26, nameIndex := 175, descriptorIndex := 33, attributes := #[] }, { accessFlags := 26, nameIndex := 177, descriptorIndex := 33, attributes := #[] }, { accessFlags := 26, nameIndex := 179, descriptorIndex := 33, attributes := #[] }, { accessFlags := 26, nameIndex := 180, descriptorIndex := 181, attributes := #[] }, { accessFlags := 18, nameIndex := 48, descriptorIndex := 33, attributes := #[] }, { accessFlags := 18, nameIndex := 14, descriptorIndex := 15, attributes := #[] }, { accessFlags := 18, nameIndex := 21, descriptorIndex := 22, attributes := #[] }, { accessFlags := 2, nameIndex := 28, descriptorIndex := 29, attributes := #[] }, { accessFlags := 2, nameIndex := 32, descriptorIndex := 33, attributes := #[] }, { accessFlags := 2, nameIndex := 148, descriptorIndex := 33, attributes := #[] }, { accessFlags := 2, nameIndex := 38, descriptorIndex := 39, attributes := #[] }, { accessFlags := 2, nameIndex := 42, descriptorIndex := 35, attributes := #[] }, { accessFlags := 2, nameIndex := 66, descriptorIndex := 33, attributes := #[] }, { accessFlags := 2, nameIndex := 45, descriptorIndex := 24, attributes := #[] }, { accessFlags := 2, nameIndex := 55, descriptorIndex := 33, attributes := #[] }])
  fields := #[{ name := "BLOCK_SIZE", type := .int, accessFlags := 26, slot := 0, constantValue := 0 }, { name := "PLACE_BITS", type := .int, accessFlags := 26, slot := 1, constantValue := 0 }, { name := "PLACE_BLOCK_SIZE", type := .int, accessFlags := 26, slot := 2, constantValue := 0 }, { name := "MAX_SLOTS", type := .int, accessFlags := 26, slot := 3, constantValue := 0 }, { name := "EMPTY", type := .long, accessFlags := 26, slot := 4, constantValue := 0 }, { name := "objectCount", type := .int, accessFlags := 18, slot := 0, constantValue := 0 }, { name := "objectNumbers", type := (.object "java/util/Map"), accessFlags := 18, slot := 1, constantValue := 0 }, { name := "objectStates", type := (.object "java/util/List"), accessFlags := 18, slot := 2, constantValue := 0 }, { name := "blocks", type := (.array (.array .byte)), accessFlags := 2, slot := 3, constantValue := 0 }, { name := "blockCount", type := .int, accessFlags := 2, slot := 4, constantValue := 0 }, { name := "used", type := .int, accessFlags := 2, slot := 5, constantValue := 0 }, { name := "places", type := (.array (.array .long)), accessFlags := 2, slot := 6, constantValue := 0 }, { name := "slots", type := (.array .long), accessFlags := 2, slot := 7, constantValue := 0 }, { name := "size", type := .int, accessFlags := 2, slot := 8, constantValue := 0 }, { name := "key", type := (.array .byte), accessFlags := 2, slot := 9, constantValue := 0 }, { name := "keyLength", type := .int, accessFlags := 2, slot := 10, constantValue := 0 }]
  methods := #[k2m0]
  instanceTypes := #[.int, (.object "java/util/Map"), (.object "java/util/List"), (.array (.array .byte)), .int, .int, (.array (.array .long)), (.array .long), .int, (.array .byte), .int]
  staticTypes := #[.int, .int, .int, .int, .long]
  resolved := Array.replicate 197 none
  statics := none }

def pool3 : Array CpInfo := pool [(1, u "java/lang/Cloneable"), (0, .class_ 1), (0, u "java/lang/Object"), (0, .class_ 3)] 3

/-- java/lang/Cloneable -/
def k3 : Class := { plain "java/lang/Cloneable" (some 0) with
  accessFlags := 1537
  interfaces := #[]
  cf := some (fileOf pool3 2 #[] #[] 1537 4 #[] #[])
  fields := #[]
  methods := #[]
  instanceTypes := #[]
  staticTypes := #[]
  resolved := Array.replicate 8 none
  statics := none }

def pool4 : Array CpInfo := pool [(1, u "java/io/Serializable"), (0, .class_ 1), (0, u "java/lang/Object"), (0, .class_ 3)] 3

/-- java/io/Serializable -/
def k4 : Class := { plain "java/io/Serializable" (some 0) with
  accessFlags := 1537
  interfaces := #[]
  cf := some (fileOf pool4 2 #[] #[] 1537 4 #[] #[])
  fields := #[]
  methods := #[]
  instanceTypes := #[]
  staticTypes := #[]
  resolved := Array.replicate 8 none
  statics := none }

/-- the primitive byte -/
def k5 : Class := { plain "byte" none with kind := .primitive 'B', accessFlags := 0x411 }
/-- [B -/
def k6 : Class := { plain "[B" (some 0) with kind := .array 5 .byte, interfaces := #[3, 4], accessFlags := 1041 }

/-- the primitive int -/
def k7 : Class := { plain "int" none with kind := .primitive 'I', accessFlags := 0x411 }
/-- [I -/
def k8 : Class := { plain "[I" (some 0) with kind := .array 7 .int, interfaces := #[3, 4], accessFlags := 1041 }

def heap : Heap := #[]
def classes : Array Class := #[k0, k1, k2, k3, k4, k5, k6, k7, k8]
def interned : List (Array UInt16 × Addr) := []
def slotsUsed : Nat := 0
def theMethod : MethodId := ⟨1, 2⟩
def args0 : Array Value := #[.long 5, .long 7, .int 3, .int 1, .int 2]
def aboutOver (below : List Frame) : State where
  vm := { classes := classes, interned := interned.toArray }
  heap := heap
  slotsUsed := slotsUsed
  threads := #[{ frames := .invoking theMethod args0 :: below }]
def below0 : List Frame := [.native { method := ⟨0, 0⟩, args := #[] }]
def about1 : State := aboutOver below0
def p0 : Program := .bare "" "" ""
def e0 : Env := launch0.env 0 0 0
theorem w_frames : about1.frames = Frame.invoking theMethod args0 :: below0 := rfl
set_option maxRecDepth 65536 in
theorem w_args : argsFit about1.vm theMethod args0 = true := by decide +kernel
set_option maxRecDepth 65536 in
theorem w_heap : heapFits about1 = true := by decide +kernel
set_option maxRecDepth 65536 in
theorem w_runnable : about1.curStatus? = some .runnable := by decide +kernel
set_option maxRecDepth 65536 in
theorem w_alone : about1.alone = true := by decide +kernel
set_option maxRecDepth 65536 in
theorem w_named : about1.methodNamed? x = some theMethod := by decide +kernel
set_option maxRecDepth 65536 in
theorem w_hears : about1.hears theMethod below0 = true := by decide +kernel
set_option maxRecDepth 65536 in
theorem w_ripe : about1.ripe theMethod args0 below0 = true := by decide +kernel
theorem w_running : about1.status = .running := rfl
set_option maxRecDepth 65536 in
theorem w_room : about1.hasRoom e0.platform room_1 = true :=
  launch0.hasRoom_least _ room_1 (by decide +kernel) (by decide +kernel) (by decide +kernel) (by decide +kernel) (by decide +kernel) (by decide +kernel)
theorem allAtoms_all (ts : List Jvm.Cond) (a : Array Jvm.Value) (st : Jvm.State) : (allAtoms ts).before a st = ts.all (fun c => c.before a st) := by
  induction ts with
  | nil => rfl
  | cons c t ih =>
    show (Jvm.Cond.and c (allAtoms t)).before a st = _
    rw [Jvm.Cond.before_and, ih, List.all_cons]
def words1 : List Jvm.Cond := Jvm.Cond.code x code maxLocals ret :: tables_1
/-- a 'code' word, met by the world's own term for the bytes: nothing is compared byte by byte -/
theorem code_word {y : MethodName} {bytes : ByteArray} {mx : Nat} {rt : Option FieldType} {a : Array Value} {s : State} {m : MethodId} {meth : Method} {c : Code} (h1 : s.methodNamed? y = some m) (h2 : s.vm.method? m = some meth) (h3 : meth.code = some c) (h4 : c.code = bytes)
    (h5 : (c.maxLocals == mx && c.exceptionTable.isEmpty && decide (c.maxStack ≤ mostOperands) && decide (meth.sig.returnType = rt) && !meth.locks && decide (parseMethodDescriptor y.desc = some meth.sig)) = true) : (Jvm.Cond.code y bytes mx rt).before a s = true := by
  simp only [Bool.and_eq_true, beq_iff_eq, Bool.not_eq_true', decide_eq_true_eq] at h5
  obtain ⟨⟨⟨⟨⟨g1, g2⟩, g3⟩, g4⟩, g5⟩, g6⟩ := h5
  simp [Cond.before, Cond.holds, Cond.value, h1, h2, h3, h4, g1, g2, g3, g4, g5, g6]
def isCode : Jvm.Cond → Bool
  | .code _ _ _ _ => true
  | _ => false
theorem all_split {L : List Jvm.Cond} {P : Jvm.Cond → Bool} (h1 : L.all (fun c => isCode c || P c) = true) (h2 : ∀ c ∈ L.filter isCode, P c = true) : L.all P = true := by
  refine List.all_eq_true.mpr fun c hc => ?_
  have h := List.all_eq_true.mp h1 c hc
  rcases Bool.eq_false_or_eq_true (isCode c) with hi | hi
  · exact h2 c (List.mem_filter.mpr ⟨hc, hi⟩)
  · simpa [hi] using h
set_option maxRecDepth 65536 in
theorem w_c0 : (Jvm.Cond.code x code maxLocals ret).before args0 about1 = true := code_word (m := ⟨1, 2⟩) (meth := k1m2) (c := k1c2) (by decide +kernel) rfl rfl rfl (by decide +kernel)
set_option maxRecDepth 65536 in
theorem w_c1 : (Jvm.Cond.code ({ cls := "com/example/charted/charted/engine/StateStoreHashPinLaw", name := "set", desc := "([B[B[BIJJIII)V" } : Jvm.MethodName) method_2_code (12 : Nat) (Option.none : Option Jvm.ClassFile.FieldType)).before args0 about1 = true := code_word (m := ⟨1, 1⟩) (meth := k1m1) (c := k1c1) (by decide +kernel) rfl rfl rfl (by decide +kernel)
set_option maxRecDepth 65536 in
theorem w_c2 : (Jvm.Cond.code ({ cls := "com/example/charted/charted/engine/StateStore", name := "hash", desc := "([BI)I" } : Jvm.MethodName) prog_23_method_14_code (4 : Nat) (Option.some Jvm.ClassFile.FieldType.int)).before args0 about1 = true := code_word (m := ⟨2, 0⟩) (meth := k2m0) (c := k2c0) (by decide +kernel) rfl rfl rfl (by decide +kernel)
def codes1 : List Jvm.Cond := [Jvm.Cond.code x code maxLocals ret, Jvm.Cond.code ({ cls := "com/example/charted/charted/engine/StateStoreHashPinLaw", name := "set", desc := "([B[B[BIJJIII)V" } : Jvm.MethodName) method_2_code (12 : Nat) (Option.none : Option Jvm.ClassFile.FieldType), Jvm.Cond.code ({ cls := "com/example/charted/charted/engine/StateStore", name := "hash", desc := "([BI)I" } : Jvm.MethodName) prog_23_method_14_code (4 : Nat) (Option.some Jvm.ClassFile.FieldType.int)]
set_option maxRecDepth 65536 in
theorem codes_eq : words1.filter isCode = codes1 := rfl
theorem w_codes : ∀ c ∈ words1.filter isCode, c.before args0 about1 = true := by
  rw [codes_eq]
  intro c hc
  simp only [codes1, List.mem_cons, List.not_mem_nil, or_false] at hc
  rcases hc with rfl | rfl | rfl
  · exact w_c0
  · exact w_c1
  · exact w_c2
set_option maxRecDepth 65536 in
theorem w_t1 : words1.all (fun c => isCode c || c.before args0 about1) = true := by decide +kernel
theorem w_tables : (allAtoms (Jvm.Cond.code x code maxLocals ret :: tables_1)).before args0 about1 = true := by
  rw [allAtoms_all]
  show words1.all (fun c => c.before args0 about1) = true
  refine all_split ?_ w_codes
  rw [w_t1]
set_option maxRecDepth 65536 in
theorem w_case : (Jvm.Cond.and given_1 narrow_1).before args0 about1 = true := by decide +kernel
theorem w_applies : (headSpec (Jvm.Cond.code x code maxLocals ret :: tables_1) room_1).applies x e0.platform about1 = true :=
  (Spec.applies_iff w_frames).mpr ⟨w_running, w_runnable, w_alone, w_named, w_hears, w_ripe, w_room, w_tables⟩
theorem atStart : AtStart classFile x code maxLocals ret World_1 tables_1 room_1 Calls_1 rest_1 Pre_1 launch0 p0 e0 about1 theMethod args0 below0 :=
  ⟨lists_1, trivial, launch0.admits_env _ _ _, launch0.least_env, fairChoices_fair.cas, fairChoices_fair.clock, w_frames, w_args, w_heap, w_applies, trivial, trivial, w_case⟩
end start1
theorem witness_1 : WitnessClaimed_1 := ⟨start1.p0, start1.e0, start1.about1, start1.theMethod, start1.args0, start1.below0, start1.atStart⟩
end Jvm.Pilot.@@N@@
