import JvmDerived
import JvmDerived.Pilot.@@N@@Statement
import JvmDerived.Pilot.@@N@@Code
set_option linter.unusedVariables false
set_option linter.unusedSimpArgs false
namespace Jvm.Pilot.@@N@@
open Jvm Jvm.ClassFile Sem Op Lib Jvm.Free Jvm.Stand Jvm.LawKit Jvm.RoadKit Bundle Jvm.Pilot.@@N@@.Jvm.D
section Kit
variable {p : Program} {l : Launch} {e : Env} {R : Room} {s : State} {m : MethodId} {args : Array Value} {below : List Frame} {meth : Method} {c : Code} {T : State} {locs : List Loc} {cells slots : Nat} {Z : State} {a0 : Array Value} {h : Heap} {G : State → Prop} {pc pc' : Nat} {Ls Ls' : Array Slot} {st : List Value}
def Go (p : Program) (e : Env) (below : List Frame) (G : State → Prop) (S : State) : Prop := ∃ t, Steps p.tables e below S t ∧ G t
theorem Go.to {S S' : State} (h : ∀ t, Steps p.tables e below S' t → Steps p.tables e below S t) (k : Go p e below G S') : Go p e below G S := let ⟨t, h1, h2⟩ := k; ⟨t, h t h1, h2⟩
def Dn (s : State) (below : List Frame) (Q : Option Value → Heap → List Loc → Prop) (kc ks : Nat) (t : State) : Prop := ∃ o, t.status = .running ∧ Ended t below o ∧ ∃ v L, o = .returned v ∧ Q v t.heap L ∧ FrameEnd s o t L kc ks
def Ct (l : Launch) (Z : State) (y : MethodName) (bytes : ByteArray) (maxL : Nat) (ret : Option FieldType) (rm : Room) (as' : Array Value) (h0 : Heap) (Q : Option Value → Heap → List Loc → Prop) : Prop :=
  ∀ ws, MetFree l y (head1 (Jvm.Cond.code y bytes maxL ret :: ws) rm) (fun a U => a = as' ∧ Z.Warmed39 U.vm ∧ U.heap = h0) (fun _ _ _ _ _ => True) (fun _ U o U' => ∃ v L, o = .returned v ∧ Q v U'.heap L ∧ FrameEnd U o U' L rm.cells rm.slots)
theorem Ct.of {y : MethodName} {bytes : ByteArray} {maxL : Nat} {ret : Option FieldType} {rm : Room} {as' : Array Value} {h0 : Heap} {Q : Option Value → Heap → List Loc → Prop} (hn : plainName y.cls = true) (hef : ∀ m, entryFrame m as' maxL = mkF m 0 Ls [])
    (body : ∀ (p : Program) (e : Env) (s : State) (m : MethodId) (below : List Frame) (meth : Method) (c : Code) (T : State), Stand p l e rm s m as' below meth c T [] 0 0 → p.tables.exec = Jvm.exec → c.code = bytes → c.maxLocals = maxL → meth.sig.returnType = ret → meth.locks = false → Z.Warmed39 s.vm → s.vm.findClass y.cls = some m.cls → meth.name = y.name → T.heap = h0 →
      Go p e below (Dn s below Q rm.cells rm.slots) (T.setTop (mkF m 0 Ls []))) : Ct l Z y bytes maxL ret rm as' h0 Q := by
  intro ws
  refine MetFree.of_bodySF (plainFor_of_name hn) hisR ?_
  intro p e s m args below meth c s₁ Bd hml0 hP hK
  obtain ⟨rfl, hZ, hh⟩ := hP
  obtain ⟨t, h1, o, h2, h3, h4⟩ := body p e s m below meth c s₁ (Stand.of_body Bd) Bd.exec Bd.bytes hml0 Bd.returns Bd.notSynchronized hZ (findClass_of_methodNamed Bd.named) (name_of_methodNamed Bd.named Bd.method).1 (by rw [← hh, Bd.state]; rfl)
  exact ⟨t, o, castTop (hef m) h1, h2, h3, h4⟩
theorem g_aloadN (X : Stand p l e R s m args below meth c T locs cells slots) (hx : p.tables.exec = Jvm.exec) {k : Fin 4} {v : Value} (hd : decode c.code pc = .ok (.aload_n k, 1)) (hp : pc + 1 = pc') (hl : Ls[k.val]? = some (.val v)) (hv : v.isRef = true) (k : Go p e below G (T.setTop (mkF m pc' Ls (v :: st)))) : Go p e below G (T.setTop (mkF m pc Ls (st))) := by
  subst hp
  exact Go.to (fun t q => XS.aloadN X.here hx rfl hd hl hv q) k
theorem g_iloadN (X : Stand p l e R s m args below meth c T locs cells slots) (hx : p.tables.exec = Jvm.exec) {k : Fin 4} {v : Int32} (hd : decode c.code pc = .ok (.iload_n k, 1)) (hp : pc + 1 = pc') (hl : Ls[k.val]? = some (.val (.int v))) (k : Go p e below G (T.setTop (mkF m pc' Ls (.int v :: st)))) : Go p e below G (T.setTop (mkF m pc Ls (st))) := by
  subst hp
  exact Go.to (fun t q => XS.iloadN X.here hx rfl hd hl q) k
theorem g_lloadN (X : Stand p l e R s m args below meth c T locs cells slots) (hx : p.tables.exec = Jvm.exec) {k : Fin 4} {v : Int64} (hd : decode c.code pc = .ok (.lload_n k, 1)) (hp : pc + 1 = pc') (hl : Ls[k.val]? = some (.val (.long v))) (k : Go p e below G (T.setTop (mkF m pc' Ls (.long v :: st)))) : Go p e below G (T.setTop (mkF m pc Ls (st))) := by
  subst hp
  exact Go.to (fun t q => XT.lloadN X.here hx rfl hd hl q) k
theorem g_istoreN (X : Stand p l e R s m args below meth c T locs cells slots) (hx : p.tables.exec = Jvm.exec) {k : Fin 4} {x : Int32} (hd : decode c.code pc = .ok (.istore_n k, 1)) (hp : pc + 1 = pc') (hl : storeLocals Ls k.val (.int x) = some Ls') (k : Go p e below G (T.setTop (mkF m pc' Ls' (st)))) : Go p e below G (T.setTop (mkF m pc Ls (.int x :: st))) := by
  subst hp
  exact Go.to (fun t q => XS.istoreN X.here hx rfl hd rfl hl q) k
theorem g_lstoreN (X : Stand p l e R s m args below meth c T locs cells slots) (hx : p.tables.exec = Jvm.exec) {k : Fin 4} {x : Int64} (hd : decode c.code pc = .ok (.lstore_n k, 1)) (hp : pc + 1 = pc') (hl : storeLocals Ls k.val (.long x) = some Ls') (k : Go p e below G (T.setTop (mkF m pc' Ls' (st)))) : Go p e below G (T.setTop (mkF m pc Ls (.long x :: st))) := by
  subst hp
  exact Go.to (fun t q => XT.lstoreN X.here hx rfl hd rfl hl q) k
theorem g_astoreN (X : Stand p l e R s m args below meth c T locs cells slots) (hx : p.tables.exec = Jvm.exec) {k : Fin 4} {x : Value} (hd : decode c.code pc = .ok (.astore_n k, 1)) (hp : pc + 1 = pc') (hv : x.isRef = true) (hl : storeLocals Ls k.val x = some Ls') (k : Go p e below G (T.setTop (mkF m pc' Ls' (st)))) : Go p e below G (T.setTop (mkF m pc Ls (x :: st))) := by
  subst hp
  exact Go.to (fun t q => XS.astoreN X.here hx rfl hd rfl hv hl q) k
theorem g_aload (X : Stand p l e R s m args below meth c T locs cells slots) (hx : p.tables.exec = Jvm.exec) {k : Nat} {v : Value} (hd : decode c.code pc = .ok (.aload k, 2)) (hp : pc + 2 = pc') (hl : Ls[k]? = some (.val v)) (hv : v.isRef = true) (k : Go p e below G (T.setTop (mkF m pc' Ls (v :: st)))) : Go p e below G (T.setTop (mkF m pc Ls (st))) := by
  subst hp
  exact Go.to (fun t q => XS.aload X.here hx rfl hd hl hv q) k
theorem g_iload (X : Stand p l e R s m args below meth c T locs cells slots) (hx : p.tables.exec = Jvm.exec) {k : Nat} {v : Int32} (hd : decode c.code pc = .ok (.iload k, 2)) (hp : pc + 2 = pc') (hl : Ls[k]? = some (.val (.int v))) (k : Go p e below G (T.setTop (mkF m pc' Ls (.int v :: st)))) : Go p e below G (T.setTop (mkF m pc Ls (st))) := by
  subst hp
  exact Go.to (fun t q => XS.iload X.here hx rfl hd hl q) k
theorem g_lload (X : Stand p l e R s m args below meth c T locs cells slots) (hx : p.tables.exec = Jvm.exec) {k : Nat} {v : Int64} (hd : decode c.code pc = .ok (.lload k, 2)) (hp : pc + 2 = pc') (hl : Ls[k]? = some (.val (.long v))) (k : Go p e below G (T.setTop (mkF m pc' Ls (.long v :: st)))) : Go p e below G (T.setTop (mkF m pc Ls (st))) := by
  subst hp
  exact Go.to (fun t q => XT.lload X.here hx rfl hd hl q) k
theorem g_istore (X : Stand p l e R s m args below meth c T locs cells slots) (hx : p.tables.exec = Jvm.exec) {k : Nat} {x : Int32} (hd : decode c.code pc = .ok (.istore k, 2)) (hp : pc + 2 = pc') (hl : storeLocals Ls k (.int x) = some Ls') (k : Go p e below G (T.setTop (mkF m pc' Ls' (st)))) : Go p e below G (T.setTop (mkF m pc Ls (.int x :: st))) := by
  subst hp
  exact Go.to (fun t q => XS.istore X.here hx rfl hd rfl hl q) k
theorem g_lstore (X : Stand p l e R s m args below meth c T locs cells slots) (hx : p.tables.exec = Jvm.exec) {k : Nat} {x : Int64} (hd : decode c.code pc = .ok (.lstore k, 2)) (hp : pc + 2 = pc') (hl : storeLocals Ls k (.long x) = some Ls') (k : Go p e below G (T.setTop (mkF m pc' Ls' (st)))) : Go p e below G (T.setTop (mkF m pc Ls (.long x :: st))) := by
  subst hp
  exact Go.to (fun t q => XT.lstore X.here hx rfl hd rfl hl q) k
theorem g_astore (X : Stand p l e R s m args below meth c T locs cells slots) (hx : p.tables.exec = Jvm.exec) {k : Nat} {x : Value} (hd : decode c.code pc = .ok (.astore k, 2)) (hp : pc + 2 = pc') (hv : x.isRef = true) (hl : storeLocals Ls k x = some Ls') (k : Go p e below G (T.setTop (mkF m pc' Ls' (st)))) : Go p e below G (T.setTop (mkF m pc Ls (x :: st))) := by
  subst hp
  exact Go.to (fun t q => XS.astore X.here hx rfl hd rfl hv hl q) k
theorem g_iconst (X : Stand p l e R s m args below meth c T locs cells slots) (hx : p.tables.exec = Jvm.exec) {i : Int} {z : Int32} (hd : decode c.code pc = .ok (.iconst i, 1)) (hp : pc + 1 = pc') (hz : Int32.ofInt i = z) (k : Go p e below G (T.setTop (mkF m pc' Ls (.int z :: st)))) : Go p e below G (T.setTop (mkF m pc Ls (st))) := by
  subst hp hz
  exact Go.to (fun t q => XS.iconst X.here hx rfl hd  q) k
theorem g_bipush (X : Stand p l e R s m args below meth c T locs cells slots) (hx : p.tables.exec = Jvm.exec) {i : Int} {z : Int32} (hd : decode c.code pc = .ok (.bipush i, 2)) (hp : pc + 2 = pc') (hz : (Int8.ofInt i).toInt32 = z) (k : Go p e below G (T.setTop (mkF m pc' Ls (.int z :: st)))) : Go p e below G (T.setTop (mkF m pc Ls (st))) := by
  subst hp hz
  exact Go.to (fun t q => XS.bipush X.here hx rfl hd  q) k
theorem g_sipush (X : Stand p l e R s m args below meth c T locs cells slots) (hx : p.tables.exec = Jvm.exec) {i : Int} {z : Int32} (hd : decode c.code pc = .ok (.sipush i, 3)) (hp : pc + 3 = pc') (hz : (Int16.ofInt i).toInt32 = z) (k : Go p e below G (T.setTop (mkF m pc' Ls (.int z :: st)))) : Go p e below G (T.setTop (mkF m pc Ls (st))) := by
  subst hp hz
  exact Go.to (fun t q => XS.sipush X.here hx rfl hd  q) k
theorem g_lconst (X : Stand p l e R s m args below meth c T locs cells slots) (hx : p.tables.exec = Jvm.exec) {i : Fin 2} {z : Int64} (hd : decode c.code pc = .ok (.lconst i, 1)) (hp : pc + 1 = pc') (hz : Int64.ofNat i = z) (k : Go p e below G (T.setTop (mkF m pc' Ls (.long z :: st)))) : Go p e below G (T.setTop (mkF m pc Ls (st))) := by
  subst hp hz
  exact Go.to (fun t q => XT.lconst X.here hx rfl hd  q) k
theorem g_aconstNull (X : Stand p l e R s m args below meth c T locs cells slots) (hx : p.tables.exec = Jvm.exec)  (hd : decode c.code pc = .ok (.aconst_null, 1)) (hp : pc + 1 = pc')  (k : Go p e below G (T.setTop (mkF m pc' Ls (.null :: st)))) : Go p e below G (T.setTop (mkF m pc Ls (st))) := by
  subst hp
  exact Go.to (fun t q => XS.aconstNull X.here hx rfl hd  q) k
theorem g_iadd (X : Stand p l e R s m args below meth c T locs cells slots) (hx : p.tables.exec = Jvm.exec) {x y z : Int32} (hd : decode c.code pc = .ok (.iadd, 1)) (hp : pc + 1 = pc') (hz : x + y = z) (k : Go p e below G (T.setTop (mkF m pc' Ls (.int z :: st)))) : Go p e below G (T.setTop (mkF m pc Ls (.int y :: .int x :: st))) := by
  subst hp hz
  exact Go.to (fun t q => XS.iadd X.here hx rfl hd rfl q) k
theorem g_isub (X : Stand p l e R s m args below meth c T locs cells slots) (hx : p.tables.exec = Jvm.exec) {x y z : Int32} (hd : decode c.code pc = .ok (.isub, 1)) (hp : pc + 1 = pc') (hz : x - y = z) (k : Go p e below G (T.setTop (mkF m pc' Ls (.int z :: st)))) : Go p e below G (T.setTop (mkF m pc Ls (.int y :: .int x :: st))) := by
  subst hp hz
  exact Go.to (fun t q => XS.isub X.here hx rfl hd rfl q) k
theorem g_iand (X : Stand p l e R s m args below meth c T locs cells slots) (hx : p.tables.exec = Jvm.exec) {x y z : Int32} (hd : decode c.code pc = .ok (.iand, 1)) (hp : pc + 1 = pc') (hz : x &&& y = z) (k : Go p e below G (T.setTop (mkF m pc' Ls (.int z :: st)))) : Go p e below G (T.setTop (mkF m pc Ls (.int y :: .int x :: st))) := by
  subst hp hz
  exact Go.to (fun t q => XS.iand X.here hx rfl hd rfl q) k
theorem g_imul (X : Stand p l e R s m args below meth c T locs cells slots) (hx : p.tables.exec = Jvm.exec) {x y z : Int32} (hd : decode c.code pc = .ok (.imul, 1)) (hp : pc + 1 = pc') (hz : x * y = z) (k : Go p e below G (T.setTop (mkF m pc' Ls (.int z :: st)))) : Go p e below G (T.setTop (mkF m pc Ls (.int y :: .int x :: st))) := by
  subst hp hz
  exact Go.to (fun t q => XS.imul X.here hx rfl hd rfl q) k
theorem g_ixor (X : Stand p l e R s m args below meth c T locs cells slots) (hx : p.tables.exec = Jvm.exec) {x y z : Int32} (hd : decode c.code pc = .ok (.ixor, 1)) (hp : pc + 1 = pc') (hz : x ^^^ y = z) (k : Go p e below G (T.setTop (mkF m pc' Ls (.int z :: st)))) : Go p e below G (T.setTop (mkF m pc Ls (.int y :: .int x :: st))) := by
  subst hp hz
  exact Go.to (fun t q => XT.ixor X.here hx rfl hd rfl q) k
theorem g_ior (X : Stand p l e R s m args below meth c T locs cells slots) (hx : p.tables.exec = Jvm.exec) {x y z : Int32} (hd : decode c.code pc = .ok (.ior, 1)) (hp : pc + 1 = pc') (hz : x ||| y = z) (k : Go p e below G (T.setTop (mkF m pc' Ls (.int z :: st)))) : Go p e below G (T.setTop (mkF m pc Ls (.int y :: .int x :: st))) := by
  subst hp hz
  exact Go.to (fun t q => XT.ior X.here hx rfl hd rfl q) k
theorem g_ishl (X : Stand p l e R s m args below meth c T locs cells slots) (hx : p.tables.exec = Jvm.exec) {x y z : Int32} (hd : decode c.code pc = .ok (.ishl, 1)) (hp : pc + 1 = pc') (hz : x <<< (y &&& 31) = z) (k : Go p e below G (T.setTop (mkF m pc' Ls (.int z :: st)))) : Go p e below G (T.setTop (mkF m pc Ls (.int y :: .int x :: st))) := by
  subst hp hz
  exact Go.to (fun t q => XT.ishl X.here hx rfl hd rfl q) k
theorem g_ishr (X : Stand p l e R s m args below meth c T locs cells slots) (hx : p.tables.exec = Jvm.exec) {x y z : Int32} (hd : decode c.code pc = .ok (.ishr, 1)) (hp : pc + 1 = pc') (hz : x >>> (y &&& 31) = z) (k : Go p e below G (T.setTop (mkF m pc' Ls (.int z :: st)))) : Go p e below G (T.setTop (mkF m pc Ls (.int y :: .int x :: st))) := by
  subst hp hz
  exact Go.to (fun t q => XT.ishr X.here hx rfl hd rfl q) k
theorem g_iushr (X : Stand p l e R s m args below meth c T locs cells slots) (hx : p.tables.exec = Jvm.exec) {x y z : Int32} (hd : decode c.code pc = .ok (.iushr, 1)) (hp : pc + 1 = pc') (hz : XT.ushr x y = z) (k : Go p e below G (T.setTop (mkF m pc' Ls (.int z :: st)))) : Go p e below G (T.setTop (mkF m pc Ls (.int y :: .int x :: st))) := by
  subst hp hz
  exact Go.to (fun t q => XT.iushr X.here hx rfl hd rfl q) k
theorem g_irem (X : Stand p l e R s m args below meth c T locs cells slots) (hx : p.tables.exec = Jvm.exec) {x y z : Int32} (hd : decode c.code pc = .ok (.irem, 1)) (hp : pc + 1 = pc') (hy : y ≠ 0) (hz : x - (x / y) * y = z) (k : Go p e below G (T.setTop (mkF m pc' Ls (.int z :: st)))) : Go p e below G (T.setTop (mkF m pc Ls (.int y :: .int x :: st))) := by
  subst hp hz
  exact Go.to (fun t q => XS.irem X.here hx rfl hd rfl hy q) k
theorem g_idiv (X : Stand p l e R s m args below meth c T locs cells slots) (hx : p.tables.exec = Jvm.exec) {x y z : Int32} (hd : decode c.code pc = .ok (.idiv, 1)) (hp : pc + 1 = pc') (hy : y ≠ 0) (hz : x / y = z) (k : Go p e below G (T.setTop (mkF m pc' Ls (.int z :: st)))) : Go p e below G (T.setTop (mkF m pc Ls (.int y :: .int x :: st))) := by
  subst hp hz
  exact Go.to (fun t q => XS.idiv X.here hx rfl hd rfl hy q) k
theorem g_ladd (X : Stand p l e R s m args below meth c T locs cells slots) (hx : p.tables.exec = Jvm.exec) {x y z : Int64} (hd : decode c.code pc = .ok (.ladd, 1)) (hp : pc + 1 = pc') (hz : x + y = z) (k : Go p e below G (T.setTop (mkF m pc' Ls (.long z :: st)))) : Go p e below G (T.setTop (mkF m pc Ls (.long y :: .long x :: st))) := by
  subst hp hz
  exact Go.to (fun t q => XT.ladd X.here hx rfl hd rfl q) k
theorem g_lsub (X : Stand p l e R s m args below meth c T locs cells slots) (hx : p.tables.exec = Jvm.exec) {x y z : Int64} (hd : decode c.code pc = .ok (.lsub, 1)) (hp : pc + 1 = pc') (hz : x - y = z) (k : Go p e below G (T.setTop (mkF m pc' Ls (.long z :: st)))) : Go p e below G (T.setTop (mkF m pc Ls (.long y :: .long x :: st))) := by
  subst hp hz
  exact Go.to (fun t q => XT.lsub X.here hx rfl hd rfl q) k
theorem g_land (X : Stand p l e R s m args below meth c T locs cells slots) (hx : p.tables.exec = Jvm.exec) {x y z : Int64} (hd : decode c.code pc = .ok (.land, 1)) (hp : pc + 1 = pc') (hz : x &&& y = z) (k : Go p e below G (T.setTop (mkF m pc' Ls (.long z :: st)))) : Go p e below G (T.setTop (mkF m pc Ls (.long y :: .long x :: st))) := by
  subst hp hz
  exact Go.to (fun t q => XT.land X.here hx rfl hd rfl q) k
theorem g_lor (X : Stand p l e R s m args below meth c T locs cells slots) (hx : p.tables.exec = Jvm.exec) {x y z : Int64} (hd : decode c.code pc = .ok (.lor, 1)) (hp : pc + 1 = pc') (hz : x ||| y = z) (k : Go p e below G (T.setTop (mkF m pc' Ls (.long z :: st)))) : Go p e below G (T.setTop (mkF m pc Ls (.long y :: .long x :: st))) := by
  subst hp hz
  exact Go.to (fun t q => XT.lor X.here hx rfl hd rfl q) k
theorem g_lxor (X : Stand p l e R s m args below meth c T locs cells slots) (hx : p.tables.exec = Jvm.exec) {x y z : Int64} (hd : decode c.code pc = .ok (.lxor, 1)) (hp : pc + 1 = pc') (hz : x ^^^ y = z) (k : Go p e below G (T.setTop (mkF m pc' Ls (.long z :: st)))) : Go p e below G (T.setTop (mkF m pc Ls (.long y :: .long x :: st))) := by
  subst hp hz
  exact Go.to (fun t q => XT.lxor X.here hx rfl hd rfl q) k
theorem g_lmul (X : Stand p l e R s m args below meth c T locs cells slots) (hx : p.tables.exec = Jvm.exec) {x y z : Int64} (hd : decode c.code pc = .ok (.lmul, 1)) (hp : pc + 1 = pc') (hz : x * y = z) (k : Go p e below G (T.setTop (mkF m pc' Ls (.long z :: st)))) : Go p e below G (T.setTop (mkF m pc Ls (.long y :: .long x :: st))) := by
  subst hp hz
  exact Go.to (fun t q => XT.lmul X.here hx rfl hd rfl q) k
theorem g_lshl (X : Stand p l e R s m args below meth c T locs cells slots) (hx : p.tables.exec = Jvm.exec) {x z : Int64} {y : Int32} (hd : decode c.code pc = .ok (.lshl, 1)) (hp : pc + 1 = pc') (hz : x <<< (y.toInt64 &&& 63) = z) (k : Go p e below G (T.setTop (mkF m pc' Ls (.long z :: st)))) : Go p e below G (T.setTop (mkF m pc Ls (.int y :: .long x :: st))) := by
  subst hp hz
  exact Go.to (fun t q => XT.lshl X.here hx rfl hd rfl q) k
theorem g_lushr (X : Stand p l e R s m args below meth c T locs cells slots) (hx : p.tables.exec = Jvm.exec) {x z : Int64} {y : Int32} (hd : decode c.code pc = .ok (.lushr, 1)) (hp : pc + 1 = pc') (hz : XT.ushrL x y = z) (k : Go p e below G (T.setTop (mkF m pc' Ls (.long z :: st)))) : Go p e below G (T.setTop (mkF m pc Ls (.int y :: .long x :: st))) := by
  subst hp hz
  exact Go.to (fun t q => XT.lushr X.here hx rfl hd rfl q) k
theorem g_l2i (X : Stand p l e R s m args below meth c T locs cells slots) (hx : p.tables.exec = Jvm.exec) {x : Int64} {z : Int32} (hd : decode c.code pc = .ok (.l2i, 1)) (hp : pc + 1 = pc') (hz : x.toInt32 = z) (k : Go p e below G (T.setTop (mkF m pc' Ls (.int z :: st)))) : Go p e below G (T.setTop (mkF m pc Ls (.long x :: st))) := by
  subst hp hz
  exact Go.to (fun t q => XT.l2i X.here hx rfl hd rfl q) k
theorem g_i2l (X : Stand p l e R s m args below meth c T locs cells slots) (hx : p.tables.exec = Jvm.exec) {x : Int32} {z : Int64} (hd : decode c.code pc = .ok (.i2l, 1)) (hp : pc + 1 = pc') (hz : x.toInt64 = z) (k : Go p e below G (T.setTop (mkF m pc' Ls (.long z :: st)))) : Go p e below G (T.setTop (mkF m pc Ls (.int x :: st))) := by
  subst hp hz
  exact Go.to (fun t q => XT.i2l X.here hx rfl hd rfl q) k
theorem g_i2b (X : Stand p l e R s m args below meth c T locs cells slots) (hx : p.tables.exec = Jvm.exec) {x z : Int32} (hd : decode c.code pc = .ok (.i2b, 1)) (hp : pc + 1 = pc') (hz : x.toInt8.toInt32 = z) (k : Go p e below G (T.setTop (mkF m pc' Ls (.int z :: st)))) : Go p e below G (T.setTop (mkF m pc Ls (.int x :: st))) := by
  subst hp hz
  exact Go.to (fun t q => XT.i2b X.here hx rfl hd rfl q) k
theorem g_lcmp (X : Stand p l e R s m args below meth c T locs cells slots) (hx : p.tables.exec = Jvm.exec) {x y : Int64} {z : Int32} (hd : decode c.code pc = .ok (.lcmp, 1)) (hp : pc + 1 = pc') (hz : XT.cmpL x y = z) (k : Go p e below G (T.setTop (mkF m pc' Ls (.int z :: st)))) : Go p e below G (T.setTop (mkF m pc Ls (.long y :: .long x :: st))) := by
  subst hp hz
  exact Go.to (fun t q => XT.lcmp X.here hx rfl hd rfl q) k
theorem g_dup (X : Stand p l e R s m args below meth c T locs cells slots) (hx : p.tables.exec = Jvm.exec) {x : Value} (hd : decode c.code pc = .ok (.dup, 1)) (hp : pc + 1 = pc') (hc : x.category = 1) (k : Go p e below G (T.setTop (mkF m pc' Ls (x :: x :: st)))) : Go p e below G (T.setTop (mkF m pc Ls (x :: st))) := by
  subst hp
  exact Go.to (fun t q => XS.dup X.here hx rfl hd rfl hc q) k
theorem g_dupX1 (X : Stand p l e R s m args below meth c T locs cells slots) (hx : p.tables.exec = Jvm.exec) {x y : Value} (hd : decode c.code pc = .ok (.dup_x1, 1)) (hp : pc + 1 = pc') (hc : x.category = 1) (hc' : y.category = 1) (k : Go p e below G (T.setTop (mkF m pc' Ls (x :: y :: x :: st)))) : Go p e below G (T.setTop (mkF m pc Ls (x :: y :: st))) := by
  subst hp
  exact Go.to (fun t q => XT.dupX1 X.here hx rfl hd rfl hc hc' q) k
theorem g_pop (X : Stand p l e R s m args below meth c T locs cells slots) (hx : p.tables.exec = Jvm.exec) {x : Value} (hd : decode c.code pc = .ok (.pop, 1)) (hp : pc + 1 = pc') (hc : x.category = 1) (k : Go p e below G (T.setTop (mkF m pc' Ls (st)))) : Go p e below G (T.setTop (mkF m pc Ls (x :: st))) := by
  subst hp
  exact Go.to (fun t q => XT.pop X.here hx rfl hd rfl hc q) k
theorem g_iinc (X : Stand p l e R s m args below meth c T locs cells slots) (hx : p.tables.exec = Jvm.exec) {i : Nat} {cst : Int} {x z : Int32} (hd : decode c.code pc = .ok (.iinc i cst, 3)) (hp : pc + 3 = pc') (hl : Ls[i]? = some (.val (.int x))) (hz : x + Int32.ofInt cst = z) (hl' : storeLocals Ls i (.int z) = some Ls') (k : Go p e below G (T.setTop (mkF m pc' Ls' (st)))) : Go p e below G (T.setTop (mkF m pc Ls (st))) := by
  subst hp hz
  exact Go.to (fun t q => XS.iinc X.here hx rfl hd hl hl' q) k
theorem g_goto (X : Stand p l e R s m args below meth c T locs cells slots) (hx : p.tables.exec = Jvm.exec) {o : Int} (hd : decode c.code pc = .ok (.goto o, 3)) (ho : 0 ≤ (pc : Int) + o) (hp : ((pc : Int) + o).toNat = pc') (k : Go p e below G (T.setTop (mkF m pc' Ls st))) : Go p e below G (T.setTop (mkF m pc Ls st)) :=
  Go.to (fun t q => XS.goto X.here hx rfl (pc0 := pc) (pc' := pc') rfl hd ho hp q) k
theorem g_icmpB (X : Stand p l e R s m args below meth c T locs cells slots) (hx : p.tables.exec = Jvm.exec) {cd : ClassFile.Cond} {x y : Int32} {o : Int} {pcF : Nat} (hd : decode c.code pc = .ok (.if_icmp cd o, 3)) (ho : 0 ≤ (pc : Int) + o) (hp : ((pc : Int) + o).toNat = pc') (hq : pc + 3 = pcF) (kT : if_icmp.holds cd x y = true → Go p e below G (T.setTop (mkF m pc' Ls st))) (kF : if_icmp.holds cd x y = false → Go p e below G (T.setTop (mkF m pcF Ls st))) : Go p e below G (T.setTop (mkF m pc Ls (.int y :: .int x :: st))) := by
  cases q : if_icmp.holds cd x y
  · subst hq; exact Go.to (fun t r => XS.icmpNo X.here hx rfl hd rfl q r) (kF q)
  · exact Go.to (fun t r => XS.icmpYes X.here hx rfl (pc0 := pc) (pc' := pc') rfl hd rfl q ho hp r) (kT q)
theorem g_icmp_eq (X : Stand p l e R s m args below meth c T locs cells slots) (hx : p.tables.exec = Jvm.exec) {x y : Int32} {o : Int} {pcF : Nat} (hd : decode c.code pc = .ok (.if_icmp .eq o, 3)) (ho : 0 ≤ (pc : Int) + o) (hp : ((pc : Int) + o).toNat = pc') (hq : pc + 3 = pcF) (kT : x = y → Go p e below G (T.setTop (mkF m pc' Ls st))) (kF : ¬ x = y → Go p e below G (T.setTop (mkF m pcF Ls st))) : Go p e below G (T.setTop (mkF m pc Ls (.int y :: .int x :: st))) :=
  g_icmpB X hx hd ho hp hq (fun q => kT (by by_cases r : x = y <;> first | exact r | (rw [(teq r).1] at q; cases q) | (rw [(feq r).1] at q; cases q))) (fun q => kF (by by_cases r : x = y <;> first | exact r | (rw [(teq r).1] at q; cases q) | (rw [(feq r).1] at q; cases q)))
theorem g_icmp_ne (X : Stand p l e R s m args below meth c T locs cells slots) (hx : p.tables.exec = Jvm.exec) {x y : Int32} {o : Int} {pcF : Nat} (hd : decode c.code pc = .ok (.if_icmp .ne o, 3)) (ho : 0 ≤ (pc : Int) + o) (hp : ((pc : Int) + o).toNat = pc') (hq : pc + 3 = pcF) (kT : ¬ x = y → Go p e below G (T.setTop (mkF m pc' Ls st))) (kF : x = y → Go p e below G (T.setTop (mkF m pcF Ls st))) : Go p e below G (T.setTop (mkF m pc Ls (.int y :: .int x :: st))) :=
  g_icmpB X hx hd ho hp hq (fun q => kT (by by_cases r : x = y <;> first | exact r | (rw [(teq r).2] at q; cases q) | (rw [(feq r).2] at q; cases q))) (fun q => kF (by by_cases r : x = y <;> first | exact r | (rw [(teq r).2] at q; cases q) | (rw [(feq r).2] at q; cases q)))
theorem g_icmp_lt (X : Stand p l e R s m args below meth c T locs cells slots) (hx : p.tables.exec = Jvm.exec) {x y : Int32} {o : Int} {pcF : Nat} (hd : decode c.code pc = .ok (.if_icmp .lt o, 3)) (ho : 0 ≤ (pc : Int) + o) (hp : ((pc : Int) + o).toNat = pc') (hq : pc + 3 = pcF) (kT : x < y → Go p e below G (T.setTop (mkF m pc' Ls st))) (kF : ¬ x < y → Go p e below G (T.setTop (mkF m pcF Ls st))) : Go p e below G (T.setTop (mkF m pc Ls (.int y :: .int x :: st))) :=
  g_icmpB X hx hd ho hp hq (fun q => kT (by by_cases r : x < y <;> first | exact r | (rw [(tlt r).1] at q; cases q) | (rw [(flt r).1] at q; cases q))) (fun q => kF (by by_cases r : x < y <;> first | exact r | (rw [(tlt r).1] at q; cases q) | (rw [(flt r).1] at q; cases q)))
theorem g_icmp_ge (X : Stand p l e R s m args below meth c T locs cells slots) (hx : p.tables.exec = Jvm.exec) {x y : Int32} {o : Int} {pcF : Nat} (hd : decode c.code pc = .ok (.if_icmp .ge o, 3)) (ho : 0 ≤ (pc : Int) + o) (hp : ((pc : Int) + o).toNat = pc') (hq : pc + 3 = pcF) (kT : ¬ x < y → Go p e below G (T.setTop (mkF m pc' Ls st))) (kF : x < y → Go p e below G (T.setTop (mkF m pcF Ls st))) : Go p e below G (T.setTop (mkF m pc Ls (.int y :: .int x :: st))) :=
  g_icmpB X hx hd ho hp hq (fun q => kT (by by_cases r : x < y <;> first | exact r | (rw [(tlt r).2.1] at q; cases q) | (rw [(flt r).2.1] at q; cases q))) (fun q => kF (by by_cases r : x < y <;> first | exact r | (rw [(tlt r).2.1] at q; cases q) | (rw [(flt r).2.1] at q; cases q)))
theorem g_icmp_gt (X : Stand p l e R s m args below meth c T locs cells slots) (hx : p.tables.exec = Jvm.exec) {x y : Int32} {o : Int} {pcF : Nat} (hd : decode c.code pc = .ok (.if_icmp .gt o, 3)) (ho : 0 ≤ (pc : Int) + o) (hp : ((pc : Int) + o).toNat = pc') (hq : pc + 3 = pcF) (kT : y < x → Go p e below G (T.setTop (mkF m pc' Ls st))) (kF : ¬ y < x → Go p e below G (T.setTop (mkF m pcF Ls st))) : Go p e below G (T.setTop (mkF m pc Ls (.int y :: .int x :: st))) :=
  g_icmpB X hx hd ho hp hq (fun q => kT (by by_cases r : y < x <;> first | exact r | (rw [(tlt r).2.2.1] at q; cases q) | (rw [(flt r).2.2.1] at q; cases q))) (fun q => kF (by by_cases r : y < x <;> first | exact r | (rw [(tlt r).2.2.1] at q; cases q) | (rw [(flt r).2.2.1] at q; cases q)))
theorem g_icmp_le (X : Stand p l e R s m args below meth c T locs cells slots) (hx : p.tables.exec = Jvm.exec) {x y : Int32} {o : Int} {pcF : Nat} (hd : decode c.code pc = .ok (.if_icmp .le o, 3)) (ho : 0 ≤ (pc : Int) + o) (hp : ((pc : Int) + o).toNat = pc') (hq : pc + 3 = pcF) (kT : ¬ y < x → Go p e below G (T.setTop (mkF m pc' Ls st))) (kF : y < x → Go p e below G (T.setTop (mkF m pcF Ls st))) : Go p e below G (T.setTop (mkF m pc Ls (.int y :: .int x :: st))) :=
  g_icmpB X hx hd ho hp hq (fun q => kT (by by_cases r : y < x <;> first | exact r | (rw [(tlt r).2.2.2] at q; cases q) | (rw [(flt r).2.2.2] at q; cases q))) (fun q => kF (by by_cases r : y < x <;> first | exact r | (rw [(tlt r).2.2.2] at q; cases q) | (rw [(flt r).2.2.2] at q; cases q)))
theorem g_ifB (X : Stand p l e R s m args below meth c T locs cells slots) (hx : p.tables.exec = Jvm.exec) {cd : ClassFile.Cond} {x : Int32} {o : Int} {pcF : Nat} (hd : decode c.code pc = .ok (.ifCond cd o, 3)) (ho : 0 ≤ (pc : Int) + o) (hp : ((pc : Int) + o).toNat = pc') (hq : pc + 3 = pcF) (kT : ifCond.holds cd x = true → Go p e below G (T.setTop (mkF m pc' Ls st))) (kF : ifCond.holds cd x = false → Go p e below G (T.setTop (mkF m pcF Ls st))) : Go p e below G (T.setTop (mkF m pc Ls (.int x :: st))) := by
  cases q : ifCond.holds cd x
  · subst hq; exact Go.to (fun t r => XS.ifNo X.here hx rfl hd rfl q r) (kF q)
  · exact Go.to (fun t r => XS.ifYes X.here hx rfl (pc0 := pc) (pc' := pc') rfl hd rfl q ho hp r) (kT q)
theorem g_if_eq (X : Stand p l e R s m args below meth c T locs cells slots) (hx : p.tables.exec = Jvm.exec) {x : Int32} {o : Int} {pcF : Nat} (hd : decode c.code pc = .ok (.ifCond .eq o, 3)) (ho : 0 ≤ (pc : Int) + o) (hp : ((pc : Int) + o).toNat = pc') (hq : pc + 3 = pcF) (kT : x = 0 → Go p e below G (T.setTop (mkF m pc' Ls st))) (kF : ¬ x = 0 → Go p e below G (T.setTop (mkF m pcF Ls st))) : Go p e below G (T.setTop (mkF m pc Ls (.int x :: st))) :=
  g_ifB X hx hd ho hp hq (fun q => kT (by rw [if0] at q; by_cases r : x = 0 <;> first | exact r | (rw [(teq r).1] at q; cases q) | (rw [(feq r).1] at q; cases q))) (fun q => kF (by rw [if0] at q; by_cases r : x = 0 <;> first | exact r | (rw [(teq r).1] at q; cases q) | (rw [(feq r).1] at q; cases q)))
theorem g_if_ne (X : Stand p l e R s m args below meth c T locs cells slots) (hx : p.tables.exec = Jvm.exec) {x : Int32} {o : Int} {pcF : Nat} (hd : decode c.code pc = .ok (.ifCond .ne o, 3)) (ho : 0 ≤ (pc : Int) + o) (hp : ((pc : Int) + o).toNat = pc') (hq : pc + 3 = pcF) (kT : ¬ x = 0 → Go p e below G (T.setTop (mkF m pc' Ls st))) (kF : x = 0 → Go p e below G (T.setTop (mkF m pcF Ls st))) : Go p e below G (T.setTop (mkF m pc Ls (.int x :: st))) :=
  g_ifB X hx hd ho hp hq (fun q => kT (by rw [if0] at q; by_cases r : x = 0 <;> first | exact r | (rw [(teq r).2] at q; cases q) | (rw [(feq r).2] at q; cases q))) (fun q => kF (by rw [if0] at q; by_cases r : x = 0 <;> first | exact r | (rw [(teq r).2] at q; cases q) | (rw [(feq r).2] at q; cases q)))
theorem g_if_lt (X : Stand p l e R s m args below meth c T locs cells slots) (hx : p.tables.exec = Jvm.exec) {x : Int32} {o : Int} {pcF : Nat} (hd : decode c.code pc = .ok (.ifCond .lt o, 3)) (ho : 0 ≤ (pc : Int) + o) (hp : ((pc : Int) + o).toNat = pc') (hq : pc + 3 = pcF) (kT : x < 0 → Go p e below G (T.setTop (mkF m pc' Ls st))) (kF : ¬ x < 0 → Go p e below G (T.setTop (mkF m pcF Ls st))) : Go p e below G (T.setTop (mkF m pc Ls (.int x :: st))) :=
  g_ifB X hx hd ho hp hq (fun q => kT (by rw [if0] at q; by_cases r : x < 0 <;> first | exact r | (rw [(tlt r).1] at q; cases q) | (rw [(flt r).1] at q; cases q))) (fun q => kF (by rw [if0] at q; by_cases r : x < 0 <;> first | exact r | (rw [(tlt r).1] at q; cases q) | (rw [(flt r).1] at q; cases q)))
theorem g_if_ge (X : Stand p l e R s m args below meth c T locs cells slots) (hx : p.tables.exec = Jvm.exec) {x : Int32} {o : Int} {pcF : Nat} (hd : decode c.code pc = .ok (.ifCond .ge o, 3)) (ho : 0 ≤ (pc : Int) + o) (hp : ((pc : Int) + o).toNat = pc') (hq : pc + 3 = pcF) (kT : ¬ x < 0 → Go p e below G (T.setTop (mkF m pc' Ls st))) (kF : x < 0 → Go p e below G (T.setTop (mkF m pcF Ls st))) : Go p e below G (T.setTop (mkF m pc Ls (.int x :: st))) :=
  g_ifB X hx hd ho hp hq (fun q => kT (by rw [if0] at q; by_cases r : x < 0 <;> first | exact r | (rw [(tlt r).2.1] at q; cases q) | (rw [(flt r).2.1] at q; cases q))) (fun q => kF (by rw [if0] at q; by_cases r : x < 0 <;> first | exact r | (rw [(tlt r).2.1] at q; cases q) | (rw [(flt r).2.1] at q; cases q)))
theorem g_if_gt (X : Stand p l e R s m args below meth c T locs cells slots) (hx : p.tables.exec = Jvm.exec) {x : Int32} {o : Int} {pcF : Nat} (hd : decode c.code pc = .ok (.ifCond .gt o, 3)) (ho : 0 ≤ (pc : Int) + o) (hp : ((pc : Int) + o).toNat = pc') (hq : pc + 3 = pcF) (kT : 0 < x → Go p e below G (T.setTop (mkF m pc' Ls st))) (kF : ¬ 0 < x → Go p e below G (T.setTop (mkF m pcF Ls st))) : Go p e below G (T.setTop (mkF m pc Ls (.int x :: st))) :=
  g_ifB X hx hd ho hp hq (fun q => kT (by rw [if0] at q; by_cases r : 0 < x <;> first | exact r | (rw [(tlt r).2.2.1] at q; cases q) | (rw [(flt r).2.2.1] at q; cases q))) (fun q => kF (by rw [if0] at q; by_cases r : 0 < x <;> first | exact r | (rw [(tlt r).2.2.1] at q; cases q) | (rw [(flt r).2.2.1] at q; cases q)))
theorem g_if_le (X : Stand p l e R s m args below meth c T locs cells slots) (hx : p.tables.exec = Jvm.exec) {x : Int32} {o : Int} {pcF : Nat} (hd : decode c.code pc = .ok (.ifCond .le o, 3)) (ho : 0 ≤ (pc : Int) + o) (hp : ((pc : Int) + o).toNat = pc') (hq : pc + 3 = pcF) (kT : ¬ 0 < x → Go p e below G (T.setTop (mkF m pc' Ls st))) (kF : 0 < x → Go p e below G (T.setTop (mkF m pcF Ls st))) : Go p e below G (T.setTop (mkF m pc Ls (.int x :: st))) :=
  g_ifB X hx hd ho hp hq (fun q => kT (by rw [if0] at q; by_cases r : 0 < x <;> first | exact r | (rw [(tlt r).2.2.2] at q; cases q) | (rw [(flt r).2.2.2] at q; cases q))) (fun q => kF (by rw [if0] at q; by_cases r : 0 < x <;> first | exact r | (rw [(tlt r).2.2.2] at q; cases q) | (rw [(flt r).2.2.2] at q; cases q)))
theorem g_acmp (X : Stand p l e R s m args below meth c T locs cells slots) (hx : p.tables.exec = Jvm.exec) {cd : ClassFile.ACond} {x y : Value} {o : Int} {pcF : Nat} (P : Prop) [Decidable P] (hd : decode c.code pc = .ok (.if_acmp cd o, 3)) (hxr : x.isRef = true) (hyr : y.isRef = true) (hP : XT.acmp cd x y = decide P) (ho : 0 ≤ (pc : Int) + o) (hp : ((pc : Int) + o).toNat = pc') (hq : pc + 3 = pcF) (kT : P → Go p e below G (T.setTop (mkF m pc' Ls st))) (kF : ¬ P → Go p e below G (T.setTop (mkF m pcF Ls st))) : Go p e below G (T.setTop (mkF m pc Ls (y :: x :: st))) := by
  by_cases q : P
  · exact Go.to (fun t r => XT.acmpYes X.here hx rfl (pc0 := pc) (pc' := pc') rfl hd rfl hxr hyr (hP.trans (decide_eq_true q)) ho hp r) (kT q)
  · subst hq; exact Go.to (fun t r => XT.acmpNo X.here hx rfl hd rfl hxr hyr (hP.trans (decide_eq_false q)) r) (kF q)
theorem g_ifnullN (X : Stand p l e R s m args below meth c T locs cells slots) (hx : p.tables.exec = Jvm.exec) {o : Int} {b : Addr} (hd : decode c.code pc = .ok (.ifnull o, 3)) (hp : pc + 3 = pc') (k : Go p e below G (T.setTop (mkF m pc' Ls st))) : Go p e below G (T.setTop (mkF m pc Ls (.ref b :: st))) := by
  subst hp; exact Go.to (fun t q => XS.ifnullNo X.here hx rfl hd rfl q) k
theorem g_ifnullY (X : Stand p l e R s m args below meth c T locs cells slots) (hx : p.tables.exec = Jvm.exec) {o : Int} (hd : decode c.code pc = .ok (.ifnull o, 3)) (ho : 0 ≤ (pc : Int) + o) (hp : ((pc : Int) + o).toNat = pc') (k : Go p e below G (T.setTop (mkF m pc' Ls st))) : Go p e below G (T.setTop (mkF m pc Ls (.null :: st))) :=
  Go.to (fun t q => XS.ifnullYes X.here hx rfl (pc0 := pc) (pc' := pc') rfl hd rfl ho hp q) k
theorem g_ifnonnullN (X : Stand p l e R s m args below meth c T locs cells slots) (hx : p.tables.exec = Jvm.exec) {o : Int} (hd : decode c.code pc = .ok (.ifnonnull o, 3)) (hp : pc + 3 = pc') (k : Go p e below G (T.setTop (mkF m pc' Ls st))) : Go p e below G (T.setTop (mkF m pc Ls (.null :: st))) := by
  subst hp; exact Go.to (fun t q => XT.ifnonnullNo X.here hx rfl hd rfl q) k
theorem g_ifnonnullY (X : Stand p l e R s m args below meth c T locs cells slots) (hx : p.tables.exec = Jvm.exec) {o : Int} {b : Addr} (hd : decode c.code pc = .ok (.ifnonnull o, 3)) (ho : 0 ≤ (pc : Int) + o) (hp : ((pc : Int) + o).toNat = pc') (k : Go p e below G (T.setTop (mkF m pc' Ls st))) : Go p e below G (T.setTop (mkF m pc Ls (.ref b :: st))) :=
  Go.to (fun t q => XT.ifnonnullYes X.here hx rfl (pc0 := pc) (pc' := pc') rfl hd rfl ho hp q) k
theorem g_ldcI (X : Stand p l e R s m args below meth c T locs cells slots) (hx : p.tables.exec = Jvm.exec) (hZ : Z.Warmed39 s.vm) {own : String} {index : Nat} {v : Int32} (hown : s.vm.findClass own = some m.cls) (w : (Cond.constant own index v).before a0 Z = true) (hd : decode c.code pc = .ok (.ldc index, 2)) (hp : pc + 2 = pc') (k : Go p e below G (T.setTop (mkF m pc' Ls (.int v :: st)))) : Go p e below G (T.setTop (mkF m pc Ls st)) := by
  subst hp; exact Go.to (fun t q => X.ldcInt hx hown (mvT hZ w) (g := mkF m pc Ls st) rfl hd t q) k
theorem g_ldc2L (X : Stand p l e R s m args below meth c T locs cells slots) (hx : p.tables.exec = Jvm.exec) (hZ : Z.Warmed39 s.vm) {own : String} {index : Nat} {v : Int64} (hown : s.vm.findClass own = some m.cls) (w : (Cond.constantLong own index v).before a0 Z = true) (hd : decode c.code pc = .ok (.ldc2_w index, 3)) (hp : pc + 3 = pc') (k : Go p e below G (T.setTop (mkF m pc' Ls (.long v :: st)))) : Go p e below G (T.setTop (mkF m pc Ls st)) := by
  subst hp; exact Go.to (fun t q => X.ldc2Long hx hown (mvT hZ w) (g := mkF m pc Ls st) rfl hd t q) k
theorem g_ret (X : Stand p l e R s m args below meth c T locs cells slots) (hx : p.tables.exec = Jvm.exec) {w : Value} {t : FieldType} {i : Instr} {rest : List Value} {Q : Option Value → Heap → List Loc → Prop} {kc ks : Nat} (hret : meth.sig.returnType = some t) (hlk : meth.locks = false) (hn : narrow t w = w)
    (hi : (i = .ireturn ∧ (t = .int ∨ t = .boolean ∨ t = .byte ∨ t = .char ∨ t = .short) ∧ ∃ z, w = .int z) ∨ (i = .lreturn ∧ t = .long ∧ ∃ z, w = .long z) ∨ (i = .dreturn ∧ t = .double ∧ ∃ z, w = .double z) ∨ (i = .freturn ∧ t = .float ∧ ∃ z, w = .float z) ∨ (i = .areturn ∧ t.isReference = true ∧ w.isRef = true))
    (hd : decode c.code pc = .ok (i, 1)) (hc : cells ≤ kc) (hs : slots ≤ ks) (hq : Q (some w) T.heap locs) : Go p e below (Dn s below Q kc ks) (T.setTop (mkF m pc Ls (w :: rest))) := by
  obtain ⟨fs, hr, hrun, hended, hW, hsame⟩ := X.leave (v := some w) (fun h => by rw [hret] at h; cases h) hlk
  exact ⟨_, retOut X hx hret hn hi hd hr, _, hrun, hended, _, _, rfl, hq, ⟨_, rfl⟩, hW, hsame.mono hc hs⟩
theorem g_retI (X : Stand p l e R s m args below meth c T locs cells slots) (hx : p.tables.exec = Jvm.exec) {z : Int32} {rest : List Value} {Q : Option Value → Heap → List Loc → Prop} {kc ks : Nat} (hret : meth.sig.returnType = some .int) (hlk : meth.locks = false) (hd : decode c.code pc = .ok (.ireturn, 1)) (hc : cells ≤ kc) (hs : slots ≤ ks) (hq : Q (some (.int z)) T.heap locs) : Go p e below (Dn s below Q kc ks) (T.setTop (mkF m pc Ls (.int z :: rest))) :=
  g_ret X hx hret hlk rfl (Or.inl ⟨rfl, by simp, _, rfl⟩) hd hc hs hq
theorem g_retZ (X : Stand p l e R s m args below meth c T locs cells slots) (hx : p.tables.exec = Jvm.exec) {z : Int32} {rest : List Value} {Q : Option Value → Heap → List Loc → Prop} {kc ks : Nat} (hret : meth.sig.returnType = some .boolean) (hlk : meth.locks = false) (hz : nar .boolean z = z) (hd : decode c.code pc = .ok (.ireturn, 1)) (hc : cells ≤ kc) (hs : slots ≤ ks) (hq : Q (some (.int z)) T.heap locs) : Go p e below (Dn s below Q kc ks) (T.setTop (mkF m pc Ls (.int z :: rest))) :=
  g_ret X hx hret hlk (by show Value.int (nar .boolean z) = _; rw [hz]) (Or.inl ⟨rfl, by simp, _, rfl⟩) hd hc hs hq
theorem g_retR (X : Stand p l e R s m args below meth c T locs cells slots) (hx : p.tables.exec = Jvm.exec) {w : Value} {t : FieldType} {rest : List Value} {Q : Option Value → Heap → List Loc → Prop} {kc ks : Nat} (hret : meth.sig.returnType = some t) (hlk : meth.locks = false) (ht : t.isReference = true) (hw : w.isRef = true) (hd : decode c.code pc = .ok (.areturn, 1)) (hc : cells ≤ kc) (hs : slots ≤ ks) (hq : Q (some w) T.heap locs) : Go p e below (Dn s below Q kc ks) (T.setTop (mkF m pc Ls (w :: rest))) :=
  g_ret X hx hret hlk (by rcases ref_cases hw with rfl | ⟨a, rfl⟩ <;> cases t <;> first | rfl | cases ht) (Or.inr (Or.inr (Or.inr (Or.inr ⟨rfl, ht, hw⟩)))) hd hc hs hq
theorem g_retV (X : Stand p l e R s m args below meth c T locs cells slots) (hx : p.tables.exec = Jvm.exec) {Q : Option Value → Heap → List Loc → Prop} {kc ks : Nat} (hret : meth.sig.returnType = none) (hlk : meth.locks = false) (hd : decode c.code pc = .ok (.return_, 1)) (hc : cells ≤ kc) (hs : slots ≤ ks) (hq : Q none T.heap locs) : Go p e below (Dn s below Q kc ks) (T.setTop (mkF m pc Ls [])) := by
  obtain ⟨fs, hr, hrun, hended, hW, hsame⟩ := X.leave (v := none) (fun _ => rfl) hlk
  exact ⟨_, X.returnOut hx hret hd hr, _, hrun, hended, _, _, rfl, hq, ⟨_, rfl⟩, hW, hsame.mono hc hs⟩
theorem g_callS (X : Stand p l e R s m args below meth c T locs cells slots) (hx : p.tables.exec = Jvm.exec) (hZ : Z.Warmed39 s.vm) {own : String} {index : Nat} {y : MethodName} {bytes : ByteArray} {maxL : Nat} {ret : Option FieldType} {rm : Room} {as' : Array Value} {Q : Option Value → Heap → List Loc → Prop} (W : Nat) {argsL rest : List Value} (hown : s.vm.findClass own = some m.cls) (w1 : (Cond.methodLink own index y).before a0 Z = true) (w2 : (Cond.static y).before a0 Z = true) (w3 : (Cond.initialized y.cls).before a0 Z = true) (w4 : (Cond.code y bytes maxL ret).before a0 Z = true) (hy : y.cls ≠ "java/lang/invoke/MethodHandle" ∧ y.cls ≠ "java/lang/invoke/VarHandle")
    (eT : T.heap = h) (hM : Ct l Z y bytes maxL ret rm as' h Q) (hf : rm.frames + 1 ≤ R.frames) (hl : W + (maxL + 11) + rm.locals ≤ R.locals) (hsize : Ls.size = c.maxLocals) (hlen : ∀ sig, parseMethodDescriptor y.desc = some sig → argsL.length = sig.parameters.length) (has : argsL.toArray = as') (hW : (rest.map fun v => v.category).sum ≤ W) (hd : decode c.code pc = .ok (.invokestatic index, 3)) (hp : pc + 3 = pc') (hc : cells + rm.cells ≤ R.cells) (hs : slots + rm.slots ≤ R.slots)
    (hst : st = argsL.reverse ++ rest) (k : ∀ (T' : State) (v : Option Value) (L : List Loc), Stand p l e R s m args below meth c T' (locs ++ L) (cells + rm.cells) (slots + rm.slots) → Q v T'.heap L → Go p e below G (T'.setTop (mkF m pc' Ls (v.toList ++ rest)))) : Go p e below G (T.setTop (mkF m pc Ls st)) := by
  obtain ⟨v, vm₁, ⟨T', L', k', n'⟩, -, X', ⟨L, hQ, l', y', z'⟩, hst⟩ := Jvm.LawKit.callS X hx hown (mvT hZ w1) (mvT hZ w2) (mvT hZ w3) (mvT hZ w4) hy (backOf (W := W) (hM []) hZ w4 w3 hf hl) (g := mkF m pc Ls st) rfl hsize (argsL := argsL) (rest := rest) hlen hst (by show 2 * 0 + _ ≤ _; omega) hd (fun _ _ => ⟨has, eT, hc, hs⟩)
  dsimp only [Pt.U, Pt.locs, Pt.cells, Pt.slots] at X' l' y' z' hst hQ
  subst l' y' z' hp
  exact Go.to hst (k T' v L X' hQ)
theorem g_callI (X : Stand p l e R s m args below meth c T locs cells slots) (hx : p.tables.exec = Jvm.exec) (hZ : Z.Warmed39 s.vm) {own : String} {index : Nat} {y : MethodName} {bytes : ByteArray} {maxL : Nat} {rm : Room} {as' : Array Value} {Q : Option Value → Heap → List Loc → Prop} (W : Nat) {argsL rest : List Value} {a : Addr} (hown : s.vm.findClass own = some m.cls) (hy1 : y.name = "<init>") (w1 : (Cond.methodLink own index y).before a0 Z = true) (w2 : (Cond.instanceMethod y).before a0 Z = true) (w3 : (Cond.initialized y.cls).before a0 Z = true) (w4 : (Cond.code y bytes maxL none).before a0 Z = true) (hy : y.cls ≠ "java/lang/invoke/MethodHandle" ∧ y.cls ≠ "java/lang/invoke/VarHandle")
    (eT : T.heap = h) (hM : Ct l Z y bytes maxL none rm as' h Q) (hf : rm.frames + 1 ≤ R.frames) (hl : W + (maxL + 11) + rm.locals ≤ R.locals) (hsize : Ls.size = c.maxLocals) (hlen : ∀ sig, parseMethodDescriptor y.desc = some sig → argsL.length = sig.parameters.length) (has : (.ref a :: argsL).toArray = as') (hW : (rest.map fun v => v.category).sum ≤ W) (hd : decode c.code pc = .ok (.invokespecial index, 3)) (hp : pc + 3 = pc') (hc : cells + rm.cells ≤ R.cells) (hs : slots + rm.slots ≤ R.slots)
    (hst : st = argsL.reverse ++ .ref a :: rest) (k : ∀ (T' : State) (v : Option Value) (L : List Loc), Stand p l e R s m args below meth c T' (locs ++ L) (cells + rm.cells) (slots + rm.slots) → Q v T'.heap L → Go p e below G (T'.setTop (mkF m pc' Ls (v.toList ++ rest)))) : Go p e below G (T.setTop (mkF m pc Ls st)) := by
  obtain ⟨v, vm₁, ⟨T', L', k', n'⟩, -, X', ⟨L, hQ, l', y', z'⟩, hst⟩ := X.specialBack hx hy1 hown (mvT hZ w1) (mvT hZ w2) (mvT hZ w4) hy (backOf (W := W) (hM []) hZ w4 w3 hf hl) (g := mkF m pc Ls st) rfl hsize (Steps.refl _) (a := a) (argsL := argsL) (rest := rest) hlen hst (by show 2 * 0 + _ ≤ _; omega) hd (fun _ _ => ⟨has, eT, hc, hs⟩)
  dsimp only [Pt.U, Pt.locs, Pt.cells, Pt.slots] at X' l' y' z' hst hQ
  subst l' y' z' hp
  exact Go.to (fun t q => hst.trans q) (k T' v L X' hQ)
theorem g_callV (X : Stand p l e R s m args below meth c T locs cells slots) (hx : p.tables.exec = Jvm.exec) (hZ : Z.Warmed39 s.vm) {C : String} {own : String} {index : Nat} {y : MethodName} {bytes : ByteArray} {maxL : Nat} {ret : Option FieldType} {rm : Room} {as' : Array Value} {Q : Option Value → Heap → List Loc → Prop} (W : Nat) {argsL rest : List Value} {a : Addr} (hown : s.vm.findClass own = some m.cls) (w1 : (Cond.methodLink own index y).before a0 Z = true) (w2 : (Cond.declares y).before a0 Z = true) (w3 : (Cond.selects C y y).before a0 Z = true) (w4 : (Cond.instanceMethod y).before a0 Z = true) (w5 : (Cond.code y bytes maxL ret).before a0 Z = true) (w6 : (Cond.initialized y.cls).before a0 Z = true) (hy : y.cls ≠ "java/lang/invoke/MethodHandle" ∧ y.cls ≠ "java/lang/invoke/VarHandle")
    (eT : T.heap = h) (E : Exa Z h a C) (hM : Ct l Z y bytes maxL ret rm as' h Q) (hf : rm.frames + 1 ≤ R.frames) (hl : W + (maxL + 11) + rm.locals ≤ R.locals) (hsize : Ls.size = c.maxLocals) (hlen : ∀ sig, parseMethodDescriptor y.desc = some sig → argsL.length = sig.parameters.length) (has : (.ref a :: argsL).toArray = as') (hW : (rest.map fun v => v.category).sum ≤ W) (hd : decode c.code pc = .ok (.invokevirtual index, 3)) (hp : pc + 3 = pc') (hc : cells + rm.cells ≤ R.cells) (hs : slots + rm.slots ≤ R.slots)
    (hst : st = argsL.reverse ++ .ref a :: rest) (k : ∀ (T' : State) (v : Option Value) (L : List Loc), Stand p l e R s m args below meth c T' (locs ++ L) (cells + rm.cells) (slots + rm.slots) → Q v T'.heap L → Go p e below G (T'.setTop (mkF m pc' Ls (v.toList ++ rest)))) : Go p e below G (T.setTop (mkF m pc Ls st)) := by
  obtain ⟨cq, kq, qa, qb, qc⟩ := isOf hZ eT E
  obtain ⟨v, vm₁, ⟨T', L', k', n'⟩, -, X', ⟨L, hQ, l', y', z'⟩, hst⟩ := X.virtualBack hx hown (mvT hZ w1) (mvT hZ w2) (notFace_of_selects (args := #[]) (mvT hZ w3)) (mvT hZ w3) (mvT hZ w4) hy (backOf (W := W) (hM []) hZ w5 w6 hf hl) qa qc (g := mkF m pc Ls st) rfl hsize (Steps.refl _) (argsL := argsL) (rest := rest) hlen hst (by show 2 * 0 + _ ≤ _; omega) hd (fun _ _ => ⟨has, eT, hc, hs⟩)
  dsimp only [Pt.U, Pt.locs, Pt.cells, Pt.slots] at X' l' y' z' hst hQ
  subst l' y' z' hp
  exact Go.to (fun t q => hst.trans q) (k T' v L X' hQ)
theorem g_new (X : Stand p l e R s m args below meth c T locs cells slots) (hx : p.tables.exec = Jvm.exec) (hZ : Z.Warmed39 s.vm) {own C : String} {index n : Nat} (hown : s.vm.findClass own = some m.cls) (w : (Cond.classLink own index C).before a0 Z = true) (wi : (Cond.instantiable C n).before a0 Z = true) (wz : (Cond.initialized C).before a0 Z = true) (eT : T.heap = h) (hd : decode c.code pc = .ok (.new index, 3)) (hp : pc + 3 = pc') (hc : cells + 1 ≤ R.cells) (hl : slots + n ≤ R.slots)
    (k : ∀ (T' : State) (h' : Heap) (a : Addr), a = h.size → Stand p l e R s m args below meth c T' locs (cells + 1) (slots + n) → T'.heap = h' → Ext h h' → Exa Z h' a C → (∀ {O nm d : String} {ty : FieldType}, Laid Z a0 C O nm d → parseFieldDescriptor d = some ty → Fld Z h' a O nm d (defaultValue ty)) → Go p e below G (T'.setTop (mkF m pc' Ls (.ref a :: st)))) : Go p e below G (T.setTop (mkF m pc Ls st)) := by
  obtain ⟨T', h', X', e', E, A, D, -, hst⟩ := newO X hx hZ hown w wi wz eT (g := mkF m pc Ls st) rfl hd hc hl
  subst hp
  exact Go.to hst (k T' h' _ rfl X' e' E A D)
theorem g_putF (X : Stand p l e R s m args below meth c T locs cells slots) (hx : p.tables.exec = Jvm.exec) (hZ : Z.Warmed39 s.vm) {own R0 O n d host C : String} {index kk : Nat} (ty : FieldType) {a : Addr} {v old : Value} (hown : s.vm.findClass own = some m.cls) (w : (Cond.fieldLink own index R0 n d).before a0 Z = true ∨ (Cond.fieldLinkNest own index R0 n d host).before a0 Z = true) (via : Via Z R0 O n d) (eT : T.heap = h) (F : Fld Z h a O n d old) (E : Exa Z h a C) (L : (Cond.lays C O n d).before a0 Z = true ∨ ((Cond.laysFinal C O n d).before a0 Z = true ∧ own = O ∧ meth.name = "<init>")) (wi : (Cond.instantiable C kk).before a0 Z = true)
    (hty : parseFieldDescriptor d = some ty) (hn : narrow ty v = v) (hf : fits ty v = true) (hd : decode c.code pc = .ok (.putfield index, 3)) (hp : pc + 3 = pc') (k : ∀ (T' : State) (h' : Heap), Stand p l e R s m args below meth c T' (locs ++ [⟨a, Jvm.RoadKit.slotOf Z O n d⟩]) cells slots → T'.heap = h' → Wr h h' a (Jvm.RoadKit.slotOf Z O n d) v → Go p e below G (T'.setTop (mkF m pc' Ls st))) : Go p e below G (T.setTop (mkF m pc Ls (v :: .ref a :: st))) := by
  obtain ⟨T', h', X', e', W, hst⟩ := putF X hx hZ hown w via eT F E L wi hty hn hf (g := mkF m pc Ls (v :: .ref a :: st)) rfl rfl hd
  subst hp
  exact Go.to hst (k T' h' X' e' W)
theorem g_getF (X : Stand p l e R s m args below meth c T locs cells slots) (hx : p.tables.exec = Jvm.exec) (hZ : Z.Warmed39 s.vm) {own R0 O n d host : String} {index : Nat} {a : Addr} {v : Value} (hown : s.vm.findClass own = some m.cls) (w : (Cond.fieldLink own index R0 n d).before a0 Z = true ∨ (Cond.fieldLinkNest own index R0 n d host).before a0 Z = true) (via : Via Z R0 O n d) (eT : T.heap = h) (F : Fld Z h a O n d v) (hd : decode c.code pc = .ok (.getfield index, 3)) (hp : pc + 3 = pc')
    (k : ∀ (T' : State), Stand p l e R s m args below meth c T' locs cells slots → T'.heap = h → Go p e below G (T'.setTop (mkF m pc' Ls (v :: st)))) : Go p e below G (T.setTop (mkF m pc Ls (.ref a :: st))) := by
  obtain ⟨T', X', e', hst⟩ := getF X hx hZ hown w via eT F (g := mkF m pc Ls (.ref a :: st)) rfl rfl hd
  subst hp
  exact Go.to hst (k T' X' e')
theorem g_getS (X : Stand p l e R s m args below meth c T locs cells slots) (hx : p.tables.exec = Jvm.exec) (hZ : Z.Warmed39 s.vm) {own R0 O n d : String} {index : Nat} {v : Value} (hown : s.vm.findClass own = some m.cls) (w : (Cond.fieldLink own index R0 n d).before a0 Z = true) (via : Via Z R0 O n d) (eT : T.heap = h) (F : Sta Z h O n d v) (hd : decode c.code pc = .ok (.getstatic index, 3)) (hp : pc + 3 = pc')
    (k : ∀ (T' : State), Stand p l e R s m args below meth c T' locs cells slots → T'.heap = h → Go p e below G (T'.setTop (mkF m pc' Ls (v :: st)))) : Go p e below G (T.setTop (mkF m pc Ls st)) := by
  obtain ⟨T', X', e', hst⟩ := getS (host := "") X hx hZ hown w via eT F (g := mkF m pc Ls st) rfl hd
  subst hp
  exact Go.to hst (k T' X' e')
/-- an array of ty with n places at a; place j holds f j -/
def Av (Z : State) (h : Heap) (a : Addr) (ty : FieldType) (n : Nat) (f : Nat → Value) : Prop := ∃ c : Cell, Arr Z h a c ty ∧ c.slots.size = n ∧ ∀ j, j < n → c.slots[j]? = some (f j)
def upd (f : Nat → Value) (i : Nat) (v : Value) : Nat → Value := fun j => if j = i then v else f j
theorem Av.lt {a : Addr} {ty : FieldType} {n : Nat} {f : Nat → Value} (A : Av Z h a ty n f) : a < h.size := by obtain ⟨c, A, -⟩ := A; exact A.lt
theorem Av.ext {h' : Heap} {a : Addr} {ty : FieldType} {n : Nat} {f : Nat → Value} (A : Av Z h a ty n f) (E : Ext h h') : Av Z h' a ty n f := by obtain ⟨c, A, r⟩ := A; exact ⟨c, A.ext E, r⟩
theorem Av.other {h' : Heap} {a b : Addr} {ty : FieldType} {n sl : Nat} {f : Nat → Value} {v : Value} (A : Av Z h b ty n f) (W : Wr h h' a sl v) (q : b ≠ a) : Av Z h' b ty n f := by obtain ⟨c, A, r⟩ := A; exact ⟨c, A.other W q, r⟩
theorem Av.keep {h' : Heap} {a : Addr} {ty : FieldType} {n : Nat} {f : Nat → Value} {ws : List Addr} (A : Av Z h a ty n f) (K : Keep h h' ws) (q : a ∉ ws) : Av Z h' a ty n f := by obtain ⟨c, A, r⟩ := A; exact ⟨c, ⟨K.2.1 a c A.1 q, A.2⟩, r⟩
theorem Av.same {h' : Heap} {a : Addr} {ty : FieldType} {n i : Nat} {f : Nat → Value} {v : Value} (A : Av Z h a ty n f) (W : Wr h h' a i v) : Av Z h' a ty n (upd f i v) := by
  obtain ⟨c, A, r1, r2⟩ := A
  refine ⟨_, A.same W, by rw [sz_set]; exact r1, fun j hj => ?_⟩
  by_cases u : j = i
  · subst u; simp [Cell.setSlot, upd, r1, hj]
  · simp only [Cell.setSlot, upd, if_neg u]; rw [Array.getElem?_setIfInBounds_ne (Ne.symm u)]; exact r2 j hj
theorem Av.congr {a : Addr} {ty : FieldType} {n : Nat} {f g : Nat → Value} (A : Av Z h a ty n f) (q : ∀ j, j < n → f j = g j) : Av Z h a ty n g := by obtain ⟨c, A, r1, r2⟩ := A; exact ⟨c, A, r1, fun j hj => by rw [← q j hj]; exact r2 j hj⟩
theorem Av.ne {a b : Addr} {ty ty' : FieldType} {n : Nat} {f : Nat → Value} (A : Av Z h a ty n f) (q : h.size ≤ b) : a ≠ b := fun e => absurd A.lt (Nat.not_lt.mpr (e ▸ q))
theorem in_of {c : Cell} {n i : Nat} {j : Int32} (S : c.slots.size = n) (q : ¬ j < 0) (hj : j.toNatClampNeg = i) (hi : i < n) : ¬ (j < 0 ∨ c.slots.size ≤ j.toNatClampNeg) := fun z => z.elim q fun y => absurd hi (Nat.not_lt.mpr (by rw [← hj, ← S]; exact y))
theorem g_newarr (X : Stand p l e R s m args below meth c T locs cells slots) (hx : p.tables.exec = Jvm.exec) (hZ : Z.Warmed39 s.vm) {aty : ArrayType} {ty : FieldType} (w : (Cond.arrayClass ty).before a0 Z = true) (hty : newarray.typeOf aty = ty) (eT : T.heap = h) (hd : decode c.code pc = .ok (.newarray aty, 2)) (hp : pc + 2 = pc') {z : Int32} {n : Nat} (hz : ¬ z < 0) (hn : z.toNatClampNeg = n) (cap : Nat) (hcap : n ≤ cap) (hb : cap * 8 ≤ 536870912) (hc : cells + 1 ≤ R.cells) (hl : slots + cap ≤ R.slots)
    (k : ∀ (T' : State) (h' : Heap) (a : Addr), a = h.size → Stand p l e R s m args below meth c T' locs (cells + 1) (slots + cap) → T'.heap = h' → Ext h h' → Av Z h' a ty n (fun _ => defaultValue ty) → Go p e below G (T'.setTop (mkF m pc' Ls (.ref a :: st)))) : Go p e below G (T.setTop (mkF m pc Ls (.int z :: st))) := by
  subst hty
  obtain ⟨T', h', cA, X', e', E, A, hst⟩ := newP X hx hZ w eT (g := mkF m pc Ls (.int z :: st)) rfl hd rfl hz (cap := cap) (by omega) hb hc hl
  subst hp
  exact Go.to hst (k T' h' _ rfl X' e' E ⟨_, A, by rw [sz_new]; exact hn, fun j hj => by rw [← hn] at hj; simp [newA, hj]⟩)
theorem g_newarrR (X : Stand p l e R s m args below meth c T locs cells slots) (hx : p.tables.exec = Jvm.exec) (hZ : Z.Warmed39 s.vm) {own C : String} {index : Nat} (hown : s.vm.findClass own = some m.cls) (w1 : (Cond.classLink own index C).before a0 Z = true) (w2 : (Cond.arrayOver (.object C)).before a0 Z = true) (eT : T.heap = h) (hd : decode c.code pc = .ok (.anewarray index, 3)) (hp : pc + 3 = pc') {z : Int32} {n : Nat} (hz : ¬ z < 0) (hn : z.toNatClampNeg = n) (cap : Nat) (hcap : n ≤ cap) (hb : cap * 8 ≤ 536870912) (hc : cells + 1 ≤ R.cells) (hl : slots + cap ≤ R.slots)
    (k : ∀ (T' : State) (h' : Heap) (a : Addr) (cA : ClassId), a = h.size → Stand p l e R s m args below meth c T' locs (cells + 1) (slots + cap) → T'.heap = h' → Ext h h' → Av Z h' a (.object C) n (fun _ => .null) → Ovr Z cA C → (∃ cl : Cell, h'[a]? = some cl ∧ cl.cls = cA) → Go p e below G (T'.setTop (mkF m pc' Ls (.ref a :: st)))) : Go p e below G (T.setTop (mkF m pc Ls (.int z :: st))) := by
  obtain ⟨T', h', cA, X', e', E, A, O, hst⟩ := newR X hx hZ hown w1 w2 eT (g := mkF m pc Ls (.int z :: st)) rfl hd rfl hz (cap := cap) (by omega) hb hc hl
  subst hp
  exact Go.to hst (k T' h' _ cA rfl X' e' E ⟨_, A, by rw [sz_new]; exact hn, fun j hj => by rw [← hn] at hj; simp [newA, hj, defaultValue]⟩ O ⟨_, A.1, rfl⟩)
theorem g_iaload (X : Stand p l e R s m args below meth c T locs cells slots) (hx : p.tables.exec = Jvm.exec) (hZ : Z.Warmed39 s.vm) {a : Addr} {n i : Nat} {f : Nat → Value} {j : Int32} {v : Int32} (eT : T.heap = h) (A : Av Z h a .int n f) (hj0 : ¬ j < 0) (hj : j.toNatClampNeg = i) (hi : i < n) (hv : f i = .int v) (hd : decode c.code pc = .ok (.iaload, 1)) (hp : pc + 1 = pc') (k : Go p e below G (T.setTop (mkF m pc' Ls (.int v :: st)))) : Go p e below G (T.setTop (mkF m pc Ls (.int j :: .ref a :: st))) := by
  obtain ⟨cl, Ar, S, H⟩ := A
  subst hp
  exact Go.to (fun t q => X.iaload hx (j := j) (v := .int v) (by rw [eT]; exact Ar.1) (State.isArrayOf_alike hZ.alike Ar.2.1) Ar.2.2 (in_of S hj0 hj hi) (by rw [hj, ← hv]; exact H i hi) (g := mkF m pc Ls (.int j :: .ref a :: st)) rfl rfl hd _ q) k
theorem g_baload (X : Stand p l e R s m args below meth c T locs cells slots) (hx : p.tables.exec = Jvm.exec) (hZ : Z.Warmed39 s.vm) {a : Addr} {n i : Nat} {f : Nat → Value} {j : Int32} {v : Int32} (eT : T.heap = h) (A : Av Z h a .byte n f) (hj0 : ¬ j < 0) (hj : j.toNatClampNeg = i) (hi : i < n) (hv : f i = .int v) (hd : decode c.code pc = .ok (.baload, 1)) (hp : pc + 1 = pc') (k : Go p e below G (T.setTop (mkF m pc' Ls (.int v :: st)))) : Go p e below G (T.setTop (mkF m pc Ls (.int j :: .ref a :: st))) := by
  obtain ⟨cl, Ar, S, H⟩ := A
  subst hp
  exact Go.to (fun t q => X.baloadBytes hx (j := j) (v := .int v) (by rw [eT]; exact Ar.1) (State.isArrayOf_alike hZ.alike Ar.2.1) Ar.2.2 (in_of S hj0 hj hi) (by rw [hj, ← hv]; exact H i hi) (g := mkF m pc Ls (.int j :: .ref a :: st)) rfl rfl hd _ q) k
theorem g_laload (X : Stand p l e R s m args below meth c T locs cells slots) (hx : p.tables.exec = Jvm.exec) (hZ : Z.Warmed39 s.vm) {a : Addr} {n i : Nat} {f : Nat → Value} {j : Int32} {v : Int64} (eT : T.heap = h) (A : Av Z h a .long n f) (hj0 : ¬ j < 0) (hj : j.toNatClampNeg = i) (hi : i < n) (hv : f i = .long v) (hd : decode c.code pc = .ok (.laload, 1)) (hp : pc + 1 = pc') (k : Go p e below G (T.setTop (mkF m pc' Ls (.long v :: st)))) : Go p e below G (T.setTop (mkF m pc Ls (.int j :: .ref a :: st))) := by
  obtain ⟨cl, Ar, S, H⟩ := A
  subst hp
  exact Go.to (fun t q => X.laload hx (j := j) (v := .long v) (by rw [eT]; exact Ar.1) (State.isArrayOf_alike hZ.alike Ar.2.1) Ar.2.2 (in_of S hj0 hj hi) (by rw [hj, ← hv]; exact H i hi) (g := mkF m pc Ls (.int j :: .ref a :: st)) rfl rfl hd _ q) k
theorem g_aaload (X : Stand p l e R s m args below meth c T locs cells slots) (hx : p.tables.exec = Jvm.exec) (hZ : Z.Warmed39 s.vm) {a : Addr} {n i : Nat} {f : Nat → Value} {j : Int32} {v : Value} {ty : FieldType} (eT : T.heap = h) (A : Av Z h a ty n f) (hty : ty.isReference = true) (hj0 : ¬ j < 0) (hj : j.toNatClampNeg = i) (hi : i < n) (hv : f i = v) (hd : decode c.code pc = .ok (.aaload, 1)) (hp : pc + 1 = pc') (k : Go p e below G (T.setTop (mkF m pc' Ls (v :: st)))) : Go p e below G (T.setTop (mkF m pc Ls (.int j :: .ref a :: st))) := by
  obtain ⟨cl, Ar, S, H⟩ := A
  subst hp
  exact Go.to (fun t q => X.aaload hx (j := j) (v := v) (by rw [eT]; exact Ar.1) (State.isArrayOf_alike hZ.alike Ar.2.1) hty Ar.2.2 (in_of S hj0 hj hi) (by rw [hj, ← hv]; exact H i hi) (g := mkF m pc Ls (.int j :: .ref a :: st)) rfl rfl hd _ q) k
theorem g_arraylength (X : Stand p l e R s m args below meth c T locs cells slots) (hx : p.tables.exec = Jvm.exec) (hZ : Z.Warmed39 s.vm) {a : Addr} {n : Nat} {f : Nat → Value} {z : Int32} {ty : FieldType} (eT : T.heap = h) (A : Av Z h a ty n f) (hz : n.toInt32 = z) (hd : decode c.code pc = .ok (.arraylength, 1)) (hp : pc + 1 = pc') (k : Go p e below G (T.setTop (mkF m pc' Ls (.int z :: st)))) : Go p e below G (T.setTop (mkF m pc Ls (.ref a :: st))) := by
  obtain ⟨cl, Ar, S, H⟩ := A
  subst hp hz S
  exact Go.to (fun t q => X.arraylength hx (by rw [eT]; exact Ar.1) (State.isArrayOf_alike hZ.alike Ar.2.1) (g := mkF m pc Ls (.ref a :: st)) rfl rfl hd _ q) k
theorem g_iastore (X : Stand p l e R s m args below meth c T locs cells slots) (hx : p.tables.exec = Jvm.exec) (hZ : Z.Warmed39 s.vm) {a : Addr} {n i : Nat} {f : Nat → Value} {j : Int32} {x : Int32} (eT : T.heap = h) (A : Av Z h a .int n f) (hj0 : ¬ j < 0) (hj : j.toNatClampNeg = i) (hi : i < n) (hd : decode c.code pc = .ok (.iastore, 1)) (hp : pc + 1 = pc')
    (k : ∀ (T' : State) (h' : Heap), Stand p l e R s m args below meth c T' (locs ++ [⟨a, i⟩]) cells slots → T'.heap = h' → Wr h h' a i (.int x) → Av Z h' a .int n (upd f i (.int x)) → Go p e below G (T'.setTop (mkF m pc' Ls st))) : Go p e below G (T.setTop (mkF m pc Ls (.int x :: .int j :: .ref a :: st))) := by
  obtain ⟨cl, Ar, S, H⟩ := id A
  obtain ⟨T', h', X', e', W, hst⟩ := stI X hx hZ eT Ar (in_of S hj0 hj hi) (g := mkF m pc Ls (.int x :: .int j :: .ref a :: st)) rfl rfl hd
  subst hp hj
  exact Go.to hst (k T' h' X' e' W (A.same W))
theorem g_lastore (X : Stand p l e R s m args below meth c T locs cells slots) (hx : p.tables.exec = Jvm.exec) (hZ : Z.Warmed39 s.vm) {a : Addr} {n i : Nat} {f : Nat → Value} {j : Int32} {x : Int64} (eT : T.heap = h) (A : Av Z h a .long n f) (hj0 : ¬ j < 0) (hj : j.toNatClampNeg = i) (hi : i < n) (hd : decode c.code pc = .ok (.lastore, 1)) (hp : pc + 1 = pc')
    (k : ∀ (T' : State) (h' : Heap), Stand p l e R s m args below meth c T' (locs ++ [⟨a, i⟩]) cells slots → T'.heap = h' → Wr h h' a i (.long x) → Av Z h' a .long n (upd f i (.long x)) → Go p e below G (T'.setTop (mkF m pc' Ls st))) : Go p e below G (T.setTop (mkF m pc Ls (.long x :: .int j :: .ref a :: st))) := by
  obtain ⟨cl, Ar, S, H⟩ := id A
  obtain ⟨T', h', X', e', W, hst⟩ := stJ X hx hZ eT Ar (in_of S hj0 hj hi) (g := mkF m pc Ls (.long x :: .int j :: .ref a :: st)) rfl rfl hd
  subst hp hj
  exact Go.to hst (k T' h' X' e' W (A.same W))
theorem g_bastore (X : Stand p l e R s m args below meth c T locs cells slots) (hx : p.tables.exec = Jvm.exec) (hZ : Z.Warmed39 s.vm) {a : Addr} {n i : Nat} {f : Nat → Value} {j : Int32} {x : Int32} (eT : T.heap = h) (A : Av Z h a .byte n f) (hj0 : ¬ j < 0) (hj : j.toNatClampNeg = i) (hi : i < n) (hd : decode c.code pc = .ok (.bastore, 1)) (hp : pc + 1 = pc')
    (k : ∀ (T' : State) (h' : Heap), Stand p l e R s m args below meth c T' (locs ++ [⟨a, i⟩]) cells slots → T'.heap = h' → Wr h h' a i (.int (nar .byte x)) → Av Z h' a .byte n (upd f i (.int (nar .byte x))) → Go p e below G (T'.setTop (mkF m pc' Ls st))) : Go p e below G (T.setTop (mkF m pc Ls (.int x :: .int j :: .ref a :: st))) := by
  obtain ⟨cl, Ar, S, H⟩ := id A
  obtain ⟨T', h', X', e', W, hst⟩ := stB X hx hZ eT Ar (in_of S hj0 hj hi) (g := mkF m pc Ls (.int x :: .int j :: .ref a :: st)) rfl rfl hd
  subst hp hj
  exact Go.to hst (k T' h' X' e' W (A.same W))
theorem g_aastore (X : Stand p l e R s m args below meth c T locs cells slots) (hx : p.tables.exec = Jvm.exec) (hZ : Z.Warmed39 s.vm) {a : Addr} {n i : Nat} {f : Nat → Value} {j : Int32} {v : Value} {ty : FieldType} (eT : T.heap = h) (A : Av Z h a ty n f) (hty : ty.isReference = true) (F : Sto Z h a v) (hj0 : ¬ j < 0) (hj : j.toNatClampNeg = i) (hi : i < n) (hd : decode c.code pc = .ok (.aastore, 1)) (hp : pc + 1 = pc')
    (k : ∀ (T' : State) (h' : Heap), Stand p l e R s m args below meth c T' (locs ++ [⟨a, i⟩]) cells slots → T'.heap = h' → Wr h h' a i v → Av Z h' a ty n (upd f i v) → Go p e below G (T'.setTop (mkF m pc' Ls st))) : Go p e below G (T.setTop (mkF m pc Ls (v :: .int j :: .ref a :: st))) := by
  obtain ⟨cl, Ar, S, H⟩ := id A
  obtain ⟨T', h', X', e', W, hst⟩ := stR X hx hZ eT Ar (in_of S hj0 hj hi) hty F (g := mkF m pc Ls (v :: .int j :: .ref a :: st)) rfl rfl hd
  subst hp hj
  exact Go.to hst (k T' h' X' e' W (A.same W))
end Kit

theorem own_nn {x : Int32} : ¬ x < 0 ↔ 0 ≤ x.toInt := by rw [Int32.lt_iff_toInt_lt]; simp
theorem own_div {x y : Int32} (hx : 0 ≤ x.toInt) (hy : 0 < y.toInt) : (x / y).toInt = x.toInt / y.toInt := by
  have r := rng32 x
  have q1 : 0 ≤ x.toInt / y.toInt := Int.ediv_nonneg hx (Int.le_of_lt hy)
  have q2 : x.toInt / y.toInt ≤ x.toInt := Int.ediv_le_self _ hx
  rw [Int32.toInt_div, Int.tdiv_eq_ediv_of_nonneg hx]
  exact Int.bmod_eq_of_le (by omega) (by omega)
theorem own_rem {x y : Int32} (hx : 0 ≤ x.toInt) (hy : 0 < y.toInt) : (x - x / y * y).toInt = x.toInt % y.toInt := by
  have r := rng32 x
  have ry := rng32 y
  have q1 : 0 ≤ x.toInt % y.toInt := Int.emod_nonneg _ (by omega)
  have q2 : x.toInt % y.toInt < y.toInt := Int.emod_lt_of_pos _ hy
  have q3 : x.toInt / y.toInt * y.toInt = x.toInt - x.toInt % y.toInt := by rw [Int.emod_def, Int.mul_comm]; omega
  have q4 := Int.emod_add_mul_ediv x.toInt y.toInt
  have c1 := c_imul (x / y) y
  rw [own_div hx hy, q3] at c1
  have q5 : x.toInt % y.toInt ≤ x.toInt := by
    have := Int.ediv_nonneg hx (Int.le_of_lt hy)
    have := Int.mul_nonneg this (Int.le_of_lt hy)
    omega
  have c2 := c_isub x (x / y * y)
  have r2 := rng32 (x - x / y * y)
  have r3 := rng32 (x / y * y)
  omega
theorem own_mask (x : Int32) : 0 ≤ (x &&& 2147483647).toInt := by
  have h : (x &&& 2147483647).toBitVec.msb = false := by
    rw [Int32.toBitVec_and, BitVec.msb_and]
    have : (2147483647 : Int32).toBitVec.msb = false := by decide
    rw [this, Bool.and_false]
  have := BitVec.toInt_nonneg_of_msb_false h
  exact this
theorem own_nat {x : Int32} {n : Nat} (h : x.toInt = n) : x.toNatClampNeg = n := by
  show x.toInt.toNat = n; rw [h]; rfl

def up1 (P : Nat → Int32) (x : Int32) : Int32 := if x < 0 then -1 else P x.toNatClampNeg
abbrev RF (P : Nat → Int32) (o i : Int32) : Prop := o = i ∨ o = up1 P i ∨ o = up1 P (up1 P i) ∨ o = up1 P (up1 P (up1 P i)) ∨ o = up1 P (up1 P (up1 P (up1 P i))) ∨ o = up1 P (up1 P (up1 P (up1 P (up1 P i))))
def con (P : Nat → Int32) (o : Int32) : Nat → Int32 → Bool
  | 0, t => decide (t = o)
  | k + 1, t => if o < t then con P o k (P t.toNatClampNeg) else decide (t = o)
theorem con_at (P : Nat → Int32) (o t : Int32) (q : ¬ o < t) : ∀ k, con P o k t = decide (t = o)
  | 0 => rfl
  | k + 1 => by simp only [con, if_neg q]
theorem con_up (P : Nat → Int32) (o t : Int32) (q : o < t) (k : Nat) : con P o (k + 1) t = con P o k (P t.toNatClampNeg) := by simp only [con, if_pos q]
def QU (w : Int32) (h0 : Heap) (n0 : Nat) (v : Option Value) (h : Heap) (L : List Loc) : Prop := Fr n0 L ∧ h = h0 ∧ v = some (.int w)
def QB (D : Prop) (h0 : Heap) (n0 : Nat) (v : Option Value) (h : Heap) (L : List Loc) : Prop := Fr n0 L ∧ h = h0 ∧ ∃ z : Int32, v = some (.int z) ∧ ((z = 1 ∧ D) ∨ (z = 0 ∧ ¬ D))
theorem up1_lt {P : Nat → Int32} (hP : ∀ j, (P j).toInt < 6) (x : Int32) : (up1 P x).toInt < 6 := by
  unfold up1; split
  · decide
  · exact hP _
theorem d2_0 : decode method_3_code 0 = .ok (.iload_n 1, 1) := by decide +kernel
theorem d2_1 : decode method_3_code 1 = .ok (.ifCond .ge 7, 3) := by decide +kernel
theorem d2_4 : decode method_3_code 4 = .ok (.iconst (-1), 1) := by decide +kernel
theorem d2_5 : decode method_3_code 5 = .ok (.goto 6, 3) := by decide +kernel
theorem d2_8 : decode method_3_code 8 = .ok (.aload_n 0, 1) := by decide +kernel
theorem d2_9 : decode method_3_code 9 = .ok (.iload_n 1, 1) := by decide +kernel
theorem d2_10 : decode method_3_code 10 = .ok (.iaload, 1) := by decide +kernel
theorem d2_11 : decode method_3_code 11 = .ok (.ireturn, 1) := by decide +kernel
theorem pn_1 : plainName "com/example/charted/charted/model/ModelClassContainsPinLaw" = true := by first | (simp [plainName, overriddenIn]; done) | decide +kernel
theorem pd_1 : parseMethodDescriptor "([II)I" = some ⟨[.array .int, .int], some .int⟩ := by decide +kernel
theorem ef_1 (m : MethodId) (x0 : Addr) (x1 : Int32) : entryFrame m #[(.ref x0), (.int x1)] 2 = mkF m 0 #[.val (.ref x0), .val (.int x1)] [] := by first | (simp [entryFrame, mkF, argsToLocals, Value.category]; done) | rfl
set_option maxRecDepth 65536 in
set_option maxHeartbeats 40000000 in
theorem rm1 (l : Launch) (Z : State) (a0 : Array Value) (hw : ∀ d ∈ tables_1, d.before a0 Z = true) (a : Addr) (P : Nat → Int32) (x1 : Int32) (h0 : Heap) (n0 : Nat) (V : Av Z h0 a .int 6 (fun j => .int (P j))) (hx1 : x1.toInt < 6) :
    Ct l Z (⟨"com/example/charted/charted/model/ModelClassContainsPinLaw", "up", "([II)I"⟩ : MethodName) method_3_code 2 (some .int) ({ frames := 0, cells := 0, slots := 0, locals := 0 } : Room) #[(.ref a), (.int x1)] h0 (QU (up1 P x1) h0 n0) := by
  refine Ct.of pn_1 (fun m => ef_1 m a x1) ?_
  intro p e s m below meth c T X0 hx hby hml hret hlk hZ hown hnm e0
  refine g_iloadN X0 hx (hb hby d2_0) (pc' := 1) rfl rfl ?_
  refine g_if_ge X0 hx (hb hby d2_1) (by decide) (pc' := 8) rfl (pcF := 4) rfl (fun hc => ?_) (fun hc => ?_)
  ·
    have hp : 0 ≤ x1.toInt := own_nn.mp hc
    obtain ⟨i1, hi1⟩ : ∃ n : Nat, x1.toInt = n := ⟨x1.toInt.toNat, by omega⟩
    refine g_aloadN X0 hx (hb hby d2_8) (pc' := 9) rfl rfl rfl ?_
    refine g_iloadN X0 hx (hb hby d2_9) (pc' := 10) rfl rfl ?_
    refine g_iaload X0 hx hZ e0 V hc (own_nat hi1) (by omega) (v := P i1) rfl (hb hby d2_10) (pc' := 11) rfl ?_
    exact g_retI X0 hx hret hlk (hb hby d2_11) (by decide) (by decide) ⟨Fr.nil _, e0, by rw [up1, if_neg hc, own_nat hi1]⟩
  ·
    refine g_iconst X0 hx (hb hby d2_4) (pc' := 5) rfl (z := -1) (by decide) ?_
    refine g_goto X0 hx (hb hby d2_5) (by decide) (pc' := 11) rfl ?_
    exact g_retI X0 hx hret hlk (hb hby d2_11) (by decide) (by decide) ⟨Fr.nil _, e0, by rw [up1, if_pos hc]⟩
theorem d1_0 : decode method_4_code 0 = .ok (.aload_n 0, 1) := by decide +kernel
theorem d1_1 : decode method_4_code 1 = .ok (.iload_n 2, 1) := by decide +kernel
theorem d1_2 : decode method_4_code 2 = .ok (.invokestatic 19, 3) := by decide +kernel
theorem d1_5 : decode method_4_code 5 = .ok (.istore_n 3, 1) := by decide +kernel
theorem d1_6 : decode method_4_code 6 = .ok (.aload_n 0, 1) := by decide +kernel
theorem d1_7 : decode method_4_code 7 = .ok (.iload_n 3, 1) := by decide +kernel
theorem d1_8 : decode method_4_code 8 = .ok (.invokestatic 19, 3) := by decide +kernel
theorem d1_11 : decode method_4_code 11 = .ok (.istore 4, 2) := by decide +kernel
theorem d1_13 : decode method_4_code 13 = .ok (.aload_n 0, 1) := by decide +kernel
theorem d1_14 : decode method_4_code 14 = .ok (.iload 4, 2) := by decide +kernel
theorem d1_16 : decode method_4_code 16 = .ok (.invokestatic 19, 3) := by decide +kernel
theorem d1_19 : decode method_4_code 19 = .ok (.istore 5, 2) := by decide +kernel
theorem d1_21 : decode method_4_code 21 = .ok (.aload_n 0, 1) := by decide +kernel
theorem d1_22 : decode method_4_code 22 = .ok (.iload 5, 2) := by decide +kernel
theorem d1_24 : decode method_4_code 24 = .ok (.invokestatic 19, 3) := by decide +kernel
theorem d1_27 : decode method_4_code 27 = .ok (.istore 6, 2) := by decide +kernel
theorem d1_29 : decode method_4_code 29 = .ok (.aload_n 0, 1) := by decide +kernel
theorem d1_30 : decode method_4_code 30 = .ok (.iload 6, 2) := by decide +kernel
theorem d1_32 : decode method_4_code 32 = .ok (.invokestatic 19, 3) := by decide +kernel
theorem d1_35 : decode method_4_code 35 = .ok (.istore 7, 2) := by decide +kernel
theorem d1_37 : decode method_4_code 37 = .ok (.iload_n 1, 1) := by decide +kernel
theorem d1_38 : decode method_4_code 38 = .ok (.iload_n 2, 1) := by decide +kernel
theorem d1_39 : decode method_4_code 39 = .ok (.if_icmp .eq 32, 3) := by decide +kernel
theorem d1_42 : decode method_4_code 42 = .ok (.iload_n 1, 1) := by decide +kernel
theorem d1_43 : decode method_4_code 43 = .ok (.iload_n 3, 1) := by decide +kernel
theorem d1_44 : decode method_4_code 44 = .ok (.if_icmp .eq 27, 3) := by decide +kernel
theorem d1_47 : decode method_4_code 47 = .ok (.iload_n 1, 1) := by decide +kernel
theorem d1_48 : decode method_4_code 48 = .ok (.iload 4, 2) := by decide +kernel
theorem d1_50 : decode method_4_code 50 = .ok (.if_icmp .eq 21, 3) := by decide +kernel
theorem d1_53 : decode method_4_code 53 = .ok (.iload_n 1, 1) := by decide +kernel
theorem d1_54 : decode method_4_code 54 = .ok (.iload 5, 2) := by decide +kernel
theorem d1_56 : decode method_4_code 56 = .ok (.if_icmp .eq 15, 3) := by decide +kernel
theorem d1_59 : decode method_4_code 59 = .ok (.iload_n 1, 1) := by decide +kernel
theorem d1_60 : decode method_4_code 60 = .ok (.iload 6, 2) := by decide +kernel
theorem d1_62 : decode method_4_code 62 = .ok (.if_icmp .eq 9, 3) := by decide +kernel
theorem d1_65 : decode method_4_code 65 = .ok (.iload_n 1, 1) := by decide +kernel
theorem d1_66 : decode method_4_code 66 = .ok (.iload 7, 2) := by decide +kernel
theorem d1_68 : decode method_4_code 68 = .ok (.if_icmp .ne 7, 3) := by decide +kernel
theorem d1_71 : decode method_4_code 71 = .ok (.iconst 1, 1) := by decide +kernel
theorem d1_72 : decode method_4_code 72 = .ok (.goto 4, 3) := by decide +kernel
theorem d1_75 : decode method_4_code 75 = .ok (.iconst 0, 1) := by decide +kernel
theorem d1_76 : decode method_4_code 76 = .ok (.ireturn, 1) := by decide +kernel
theorem pn_2 : plainName "com/example/charted/charted/model/ModelClassContainsPinLaw" = true := by first | (simp [plainName, overriddenIn]; done) | decide +kernel
theorem pd_2 : parseMethodDescriptor "([III)Z" = some ⟨[.array .int, .int, .int], some .boolean⟩ := by decide +kernel
theorem ef_2 (m : MethodId) (x0 : Addr) (x1 : Int32) (x2 : Int32) : entryFrame m #[(.ref x0), (.int x1), (.int x2)] 8 = mkF m 0 #[.val (.ref x0), .val (.int x1), .val (.int x2), .unset, .unset, .unset, .unset, .unset] [] := by first | (simp [entryFrame, mkF, argsToLocals, Value.category]; done) | rfl
set_option maxRecDepth 65536 in
set_option maxHeartbeats 40000000 in
theorem rm2 (l : Launch) (Z : State) (a0 : Array Value) (hw : ∀ d ∈ tables_1, d.before a0 Z = true) (a : Addr) (P : Nat → Int32) (o i : Int32) (h0 : Heap) (n0 : Nat) (V : Av Z h0 a .int 6 (fun j => .int (P j))) (hP : ∀ j, (P j).toInt < 6) (hi : i.toInt < 6) :
    Ct l Z (⟨"com/example/charted/charted/model/ModelClassContainsPinLaw", "ref", "([III)Z"⟩ : MethodName) method_4_code 8 (some .boolean) ({ frames := 1, cells := 0, slots := 0, locals := 13 } : Room) #[(.ref a), (.int o), (.int i)] h0 (QB (RF P o i) h0 n0) := by
  refine Ct.of pn_2 (fun m => ef_2 m a o i) ?_
  intro p e s m below meth c T X0 hx hby hml hret hlk hZ hown hnm e0
  refine g_aloadN X0 hx (hb hby d1_0) (pc' := 1) rfl rfl rfl ?_
  refine g_iloadN X0 hx (hb hby d1_1) (pc' := 2) rfl rfl ?_
  refine g_callS X0 hx hZ 0 hown (hw _ (List.mem_of_getElem? (i := 6) rfl)) (hw _ (List.mem_of_getElem? (i := 7) rfl)) (hw _ (List.mem_of_getElem? (i := 4) rfl)) (hw _ (List.mem_of_getElem? (i := 8) rfl)) (by decide) e0 (rm1 l Z a0 hw a P i h0 n0 V hi) (by decide) (by decide) (by rw [hml]; rfl) (argsL := [(.ref a), (.int i)]) (rest := []) (lenOf pd_1 rfl) rfl (Nat.le_of_eq rfl) (hb hby d1_2) (pc' := 5) rfl (by decide) (by decide) rfl ?_
  rintro T1 _ L1 X1 ⟨M1, e1, rfl⟩
  show Go p e below _ (T1.setTop (mkF m 5 #[.val (.ref a), .val (.int o), .val (.int i), .unset, .unset, .unset, .unset, .unset] [(.int (up1 P i))]))
  refine g_istoreN X1 hx (hb hby d1_5) (pc' := 6) rfl (Ls' := #[.val (.ref a), .val (.int o), .val (.int i), .val (.int (up1 P i)), .unset, .unset, .unset, .unset]) rfl ?_
  refine g_aloadN X1 hx (hb hby d1_6) (pc' := 7) rfl rfl rfl ?_
  refine g_iloadN X1 hx (hb hby d1_7) (pc' := 8) rfl rfl ?_
  refine g_callS X1 hx hZ 0 hown (hw _ (List.mem_of_getElem? (i := 6) rfl)) (hw _ (List.mem_of_getElem? (i := 7) rfl)) (hw _ (List.mem_of_getElem? (i := 4) rfl)) (hw _ (List.mem_of_getElem? (i := 8) rfl)) (by decide) e1 (rm1 l Z a0 hw a P (up1 P i) h0 n0 V (up1_lt hP _)) (by decide) (by decide) (by rw [hml]; rfl) (argsL := [(.ref a), (.int (up1 P i))]) (rest := []) (lenOf pd_1 rfl) rfl (Nat.le_of_eq rfl) (hb hby d1_8) (pc' := 11) rfl (by decide) (by decide) rfl ?_
  rintro T2 _ L2 X2 ⟨M2, e2, rfl⟩
  show Go p e below _ (T2.setTop (mkF m 11 #[.val (.ref a), .val (.int o), .val (.int i), .val (.int (up1 P i)), .unset, .unset, .unset, .unset] [(.int (up1 P (up1 P i)))]))
  refine g_istore X2 hx (hb hby d1_11) (pc' := 13) rfl (Ls' := #[.val (.ref a), .val (.int o), .val (.int i), .val (.int (up1 P i)), .val (.int (up1 P (up1 P i))), .unset, .unset, .unset]) rfl ?_
  refine g_aloadN X2 hx (hb hby d1_13) (pc' := 14) rfl rfl rfl ?_
  refine g_iload X2 hx (hb hby d1_14) (pc' := 16) rfl rfl ?_
  refine g_callS X2 hx hZ 0 hown (hw _ (List.mem_of_getElem? (i := 6) rfl)) (hw _ (List.mem_of_getElem? (i := 7) rfl)) (hw _ (List.mem_of_getElem? (i := 4) rfl)) (hw _ (List.mem_of_getElem? (i := 8) rfl)) (by decide) e2 (rm1 l Z a0 hw a P (up1 P (up1 P i)) h0 n0 V (up1_lt hP _)) (by decide) (by decide) (by rw [hml]; rfl) (argsL := [(.ref a), (.int (up1 P (up1 P i)))]) (rest := []) (lenOf pd_1 rfl) rfl (Nat.le_of_eq rfl) (hb hby d1_16) (pc' := 19) rfl (by decide) (by decide) rfl ?_
  rintro T3 _ L3 X3 ⟨M3, e3, rfl⟩
  show Go p e below _ (T3.setTop (mkF m 19 #[.val (.ref a), .val (.int o), .val (.int i), .val (.int (up1 P i)), .val (.int (up1 P (up1 P i))), .unset, .unset, .unset] [(.int (up1 P (up1 P (up1 P i))))]))
  refine g_istore X3 hx (hb hby d1_19) (pc' := 21) rfl (Ls' := #[.val (.ref a), .val (.int o), .val (.int i), .val (.int (up1 P i)), .val (.int (up1 P (up1 P i))), .val (.int (up1 P (up1 P (up1 P i)))), .unset, .unset]) rfl ?_
  refine g_aloadN X3 hx (hb hby d1_21) (pc' := 22) rfl rfl rfl ?_
  refine g_iload X3 hx (hb hby d1_22) (pc' := 24) rfl rfl ?_
  refine g_callS X3 hx hZ 0 hown (hw _ (List.mem_of_getElem? (i := 6) rfl)) (hw _ (List.mem_of_getElem? (i := 7) rfl)) (hw _ (List.mem_of_getElem? (i := 4) rfl)) (hw _ (List.mem_of_getElem? (i := 8) rfl)) (by decide) e3 (rm1 l Z a0 hw a P (up1 P (up1 P (up1 P i))) h0 n0 V (up1_lt hP _)) (by decide) (by decide) (by rw [hml]; rfl) (argsL := [(.ref a), (.int (up1 P (up1 P (up1 P i))))]) (rest := []) (lenOf pd_1 rfl) rfl (Nat.le_of_eq rfl) (hb hby d1_24) (pc' := 27) rfl (by decide) (by decide) rfl ?_
  rintro T4 _ L4 X4 ⟨M4, e4, rfl⟩
  show Go p e below _ (T4.setTop (mkF m 27 #[.val (.ref a), .val (.int o), .val (.int i), .val (.int (up1 P i)), .val (.int (up1 P (up1 P i))), .val (.int (up1 P (up1 P (up1 P i)))), .unset, .unset] [(.int (up1 P (up1 P (up1 P (up1 P i)))))]))
  refine g_istore X4 hx (hb hby d1_27) (pc' := 29) rfl (Ls' := #[.val (.ref a), .val (.int o), .val (.int i), .val (.int (up1 P i)), .val (.int (up1 P (up1 P i))), .val (.int (up1 P (up1 P (up1 P i)))), .val (.int (up1 P (up1 P (up1 P (up1 P i))))), .unset]) rfl ?_
  refine g_aloadN X4 hx (hb hby d1_29) (pc' := 30) rfl rfl rfl ?_
  refine g_iload X4 hx (hb hby d1_30) (pc' := 32) rfl rfl ?_
  refine g_callS X4 hx hZ 0 hown (hw _ (List.mem_of_getElem? (i := 6) rfl)) (hw _ (List.mem_of_getElem? (i := 7) rfl)) (hw _ (List.mem_of_getElem? (i := 4) rfl)) (hw _ (List.mem_of_getElem? (i := 8) rfl)) (by decide) e4 (rm1 l Z a0 hw a P (up1 P (up1 P (up1 P (up1 P i)))) h0 n0 V (up1_lt hP _)) (by decide) (by decide) (by rw [hml]; rfl) (argsL := [(.ref a), (.int (up1 P (up1 P (up1 P (up1 P i)))))]) (rest := []) (lenOf pd_1 rfl) rfl (Nat.le_of_eq rfl) (hb hby d1_32) (pc' := 35) rfl (by decide) (by decide) rfl ?_
  rintro T5 _ L5 X5 ⟨M5, e5, rfl⟩
  show Go p e below _ (T5.setTop (mkF m 35 #[.val (.ref a), .val (.int o), .val (.int i), .val (.int (up1 P i)), .val (.int (up1 P (up1 P i))), .val (.int (up1 P (up1 P (up1 P i)))), .val (.int (up1 P (up1 P (up1 P (up1 P i))))), .unset] [(.int (up1 P (up1 P (up1 P (up1 P (up1 P i))))))]))
  refine g_istore X5 hx (hb hby d1_35) (pc' := 37) rfl (Ls' := #[.val (.ref a), .val (.int o), .val (.int i), .val (.int (up1 P i)), .val (.int (up1 P (up1 P i))), .val (.int (up1 P (up1 P (up1 P i)))), .val (.int (up1 P (up1 P (up1 P (up1 P i))))), .val (.int (up1 P (up1 P (up1 P (up1 P (up1 P i))))))]) rfl ?_
  refine g_iloadN X5 hx (hb hby d1_37) (pc' := 38) rfl rfl ?_
  refine g_iloadN X5 hx (hb hby d1_38) (pc' := 39) rfl rfl ?_
  refine g_icmp_eq X5 hx (hb hby d1_39) (by decide) (pc' := 71) rfl (pcF := 42) rfl (fun hc39 => ?_) (fun hc39 => ?_)
  ·
    refine g_iconst X5 hx (hb hby d1_71) (pc' := 72) rfl (z := 1) (by decide) ?_
    refine g_goto X5 hx (hb hby d1_72) (by decide) (pc' := 76) rfl ?_
    exact g_retZ X5 hx hret hlk (by decide) (hb hby d1_76) (by decide) (by decide) ⟨((((( Fr.nil n0).app M1).app M2).app M3).app M4).app M5, e5, _, rfl, Or.inl ⟨rfl, Or.inl hc39⟩⟩
  refine g_iloadN X5 hx (hb hby d1_42) (pc' := 43) rfl rfl ?_
  refine g_iloadN X5 hx (hb hby d1_43) (pc' := 44) rfl rfl ?_
  refine g_icmp_eq X5 hx (hb hby d1_44) (by decide) (pc' := 71) rfl (pcF := 47) rfl (fun hc44 => ?_) (fun hc44 => ?_)
  ·
    refine g_iconst X5 hx (hb hby d1_71) (pc' := 72) rfl (z := 1) (by decide) ?_
    refine g_goto X5 hx (hb hby d1_72) (by decide) (pc' := 76) rfl ?_
    exact g_retZ X5 hx hret hlk (by decide) (hb hby d1_76) (by decide) (by decide) ⟨((((( Fr.nil n0).app M1).app M2).app M3).app M4).app M5, e5, _, rfl, Or.inl ⟨rfl, Or.inr (Or.inl hc44)⟩⟩
  refine g_iloadN X5 hx (hb hby d1_47) (pc' := 48) rfl rfl ?_
  refine g_iload X5 hx (hb hby d1_48) (pc' := 50) rfl rfl ?_
  refine g_icmp_eq X5 hx (hb hby d1_50) (by decide) (pc' := 71) rfl (pcF := 53) rfl (fun hc50 => ?_) (fun hc50 => ?_)
  ·
    refine g_iconst X5 hx (hb hby d1_71) (pc' := 72) rfl (z := 1) (by decide) ?_
    refine g_goto X5 hx (hb hby d1_72) (by decide) (pc' := 76) rfl ?_
    exact g_retZ X5 hx hret hlk (by decide) (hb hby d1_76) (by decide) (by decide) ⟨((((( Fr.nil n0).app M1).app M2).app M3).app M4).app M5, e5, _, rfl, Or.inl ⟨rfl, Or.inr (Or.inr (Or.inl hc50))⟩⟩
  refine g_iloadN X5 hx (hb hby d1_53) (pc' := 54) rfl rfl ?_
  refine g_iload X5 hx (hb hby d1_54) (pc' := 56) rfl rfl ?_
  refine g_icmp_eq X5 hx (hb hby d1_56) (by decide) (pc' := 71) rfl (pcF := 59) rfl (fun hc56 => ?_) (fun hc56 => ?_)
  ·
    refine g_iconst X5 hx (hb hby d1_71) (pc' := 72) rfl (z := 1) (by decide) ?_
    refine g_goto X5 hx (hb hby d1_72) (by decide) (pc' := 76) rfl ?_
    exact g_retZ X5 hx hret hlk (by decide) (hb hby d1_76) (by decide) (by decide) ⟨((((( Fr.nil n0).app M1).app M2).app M3).app M4).app M5, e5, _, rfl, Or.inl ⟨rfl, Or.inr (Or.inr (Or.inr (Or.inl hc56)))⟩⟩
  refine g_iloadN X5 hx (hb hby d1_59) (pc' := 60) rfl rfl ?_
  refine g_iload X5 hx (hb hby d1_60) (pc' := 62) rfl rfl ?_
  refine g_icmp_eq X5 hx (hb hby d1_62) (by decide) (pc' := 71) rfl (pcF := 65) rfl (fun hc62 => ?_) (fun hc62 => ?_)
  ·
    refine g_iconst X5 hx (hb hby d1_71) (pc' := 72) rfl (z := 1) (by decide) ?_
    refine g_goto X5 hx (hb hby d1_72) (by decide) (pc' := 76) rfl ?_
    exact g_retZ X5 hx hret hlk (by decide) (hb hby d1_76) (by decide) (by decide) ⟨((((( Fr.nil n0).app M1).app M2).app M3).app M4).app M5, e5, _, rfl, Or.inl ⟨rfl, Or.inr (Or.inr (Or.inr (Or.inr (Or.inl hc62))))⟩⟩
  refine g_iloadN X5 hx (hb hby d1_65) (pc' := 66) rfl rfl ?_
  refine g_iload X5 hx (hb hby d1_66) (pc' := 68) rfl rfl ?_
  refine g_icmp_ne X5 hx (hb hby d1_68) (by decide) (pc' := 75) rfl (pcF := 71) rfl (fun hc68 => ?_) (fun hc68 => ?_)
  ·
    refine g_iconst X5 hx (hb hby d1_75) (pc' := 76) rfl (z := 0) (by decide) ?_
    exact g_retZ X5 hx hret hlk (by decide) (hb hby d1_76) (by decide) (by decide) ⟨((((( Fr.nil n0).app M1).app M2).app M3).app M4).app M5, e5, _, rfl, Or.inr ⟨rfl, by simp only [RF, hc39, hc44, hc50, hc56, hc62, hc68, or_self, not_false_eq_true]⟩⟩
  ·
    refine g_iconst X5 hx (hb hby d1_71) (pc' := 72) rfl (z := 1) (by decide) ?_
    refine g_goto X5 hx (hb hby d1_72) (by decide) (pc' := 76) rfl ?_
    exact g_retZ X5 hx hret hlk (by decide) (hb hby d1_76) (by decide) (by decide) ⟨((((( Fr.nil n0).app M1).app M2).app M3).app M4).app M5, e5, _, rfl, Or.inl ⟨rfl, Or.inr (Or.inr (Or.inr (Or.inr (Or.inr (hc68)))))⟩⟩
theorem d3_0 : decode prog_116_method_11_code 0 = .ok (.iload_n 2, 1) := by decide +kernel
theorem d3_1 : decode prog_116_method_11_code 1 = .ok (.istore_n 3, 1) := by decide +kernel
theorem d3_2 : decode prog_116_method_11_code 2 = .ok (.iload_n 3, 1) := by decide +kernel
theorem d3_3 : decode prog_116_method_11_code 3 = .ok (.iload_n 1, 1) := by decide +kernel
theorem d3_4 : decode prog_116_method_11_code 4 = .ok (.if_icmp .le 10, 3) := by decide +kernel
theorem d3_7 : decode prog_116_method_11_code 7 = .ok (.aload_n 0, 1) := by decide +kernel
theorem d3_8 : decode prog_116_method_11_code 8 = .ok (.iload_n 3, 1) := by decide +kernel
theorem d3_9 : decode prog_116_method_11_code 9 = .ok (.iaload, 1) := by decide +kernel
theorem d3_10 : decode prog_116_method_11_code 10 = .ok (.istore_n 3, 1) := by decide +kernel
theorem d3_11 : decode prog_116_method_11_code 11 = .ok (.goto (-9), 3) := by decide +kernel
theorem d3_14 : decode prog_116_method_11_code 14 = .ok (.iload_n 3, 1) := by decide +kernel
theorem d3_15 : decode prog_116_method_11_code 15 = .ok (.iload_n 1, 1) := by decide +kernel
theorem d3_16 : decode prog_116_method_11_code 16 = .ok (.if_icmp .ne 7, 3) := by decide +kernel
theorem d3_19 : decode prog_116_method_11_code 19 = .ok (.iconst 1, 1) := by decide +kernel
theorem d3_20 : decode prog_116_method_11_code 20 = .ok (.goto 4, 3) := by decide +kernel
theorem d3_23 : decode prog_116_method_11_code 23 = .ok (.iconst 0, 1) := by decide +kernel
theorem d3_24 : decode prog_116_method_11_code 24 = .ok (.ireturn, 1) := by decide +kernel
theorem pn_3 : plainName "com/example/charted/charted/model/ModelClass" = true := by first | (simp [plainName, overriddenIn]; done) | decide +kernel
theorem pd_3 : parseMethodDescriptor "([III)Z" = some ⟨[.array .int, .int, .int], some .boolean⟩ := by decide +kernel
theorem ef_3 (m : MethodId) (x0 : Addr) (x1 : Int32) (x2 : Int32) : entryFrame m #[(.ref x0), (.int x1), (.int x2)] 4 = mkF m 0 #[.val (.ref x0), .val (.int x1), .val (.int x2), .unset] [] := by first | (simp [entryFrame, mkF, argsToLocals, Value.category]; done) | rfl
set_option maxRecDepth 65536 in
set_option maxHeartbeats 40000000 in
theorem rm3 (l : Launch) (Z : State) (a0 : Array Value) (hw : ∀ d ∈ tables_1, d.before a0 Z = true) (a : Addr) (P : Nat → Int32) (o i : Int32) (h0 : Heap) (n0 : Nat) (V : Av Z h0 a .int 6 (fun j => .int (P j))) (hP : ∀ j : Nat, j < 6 → (P j).toInt < j) (ho : 0 ≤ o.toInt) (hi : i.toInt < 6) :
    Ct l Z (⟨"com/example/charted/charted/model/ModelClass", "contains", "([III)Z"⟩ : MethodName) prog_116_method_11_code 4 (some .boolean) ({ frames := 0, cells := 0, slots := 0, locals := 0 } : Room) #[(.ref a), (.int o), (.int i)] h0 (QB (con P o 6 i = true) h0 n0) := by
  refine Ct.of pn_3 (fun m => ef_3 m a o i) ?_
  intro p e s m below meth c T X0 hx hby hml hret hlk hZ hown hnm e0
  have leaf : ∀ t : Int32, con P o 6 i = decide (t = o) → Go p e below (Dn s below (QB (con P o 6 i = true) h0 n0) 0 0) (T.setTop (mkF m 14 #[.val (.ref a), .val (.int o), .val (.int i), .val (.int t)] [])) := by
    intro t ht
    refine g_iloadN X0 hx (hb hby d3_14) (pc' := 15) rfl rfl ?_
    refine g_iloadN X0 hx (hb hby d3_15) (pc' := 16) rfl rfl ?_
    refine g_icmp_ne X0 hx (hb hby d3_16) (by decide) (pc' := 23) rfl (pcF := 19) rfl (fun hc => ?_) (fun hc => ?_)
    ·
      refine g_iconst X0 hx (hb hby d3_23) (pc' := 24) rfl (z := 0) (by decide) ?_
      exact g_retZ X0 hx hret hlk (by decide) (hb hby d3_24) (by decide) (by decide) ⟨Fr.nil _, e0, _, rfl, Or.inr ⟨rfl, by rw [ht, decide_eq_false hc]; decide⟩⟩
    ·
      refine g_iconst X0 hx (hb hby d3_19) (pc' := 20) rfl (z := 1) (by decide) ?_
      refine g_goto X0 hx (hb hby d3_20) (by decide) (pc' := 24) rfl ?_
      exact g_retZ X0 hx hret hlk (by decide) (hb hby d3_24) (by decide) (by decide) ⟨Fr.nil _, e0, _, rfl, Or.inl ⟨rfl, by rw [ht, decide_eq_true hc]⟩⟩
  have loop : ∀ (k : Nat) (t : Int32), t.toInt < k → k ≤ 6 → con P o 6 i = con P o k t → Go p e below (Dn s below (QB (con P o 6 i = true) h0 n0) 0 0) (T.setTop (mkF m 2 #[.val (.ref a), .val (.int o), .val (.int i), .val (.int t)] [])) := by
    intro k
    induction k with
    | zero =>
      intro t ht _ hcon
      refine g_iloadN X0 hx (hb hby d3_2) (pc' := 3) rfl rfl ?_
      refine g_iloadN X0 hx (hb hby d3_3) (pc' := 4) rfl rfl ?_
      refine g_icmp_le X0 hx (hb hby d3_4) (by decide) (pc' := 14) rfl (pcF := 7) rfl (fun hc => ?_) (fun hc => ?_)
      · exact leaf t (by rw [hcon, con_at P o t hc])
      · exact absurd (Int32.lt_iff_toInt_lt.mp hc) (by omega)
    | succ k ih =>
      intro t ht hk hcon
      refine g_iloadN X0 hx (hb hby d3_2) (pc' := 3) rfl rfl ?_
      refine g_iloadN X0 hx (hb hby d3_3) (pc' := 4) rfl rfl ?_
      refine g_icmp_le X0 hx (hb hby d3_4) (by decide) (pc' := 14) rfl (pcF := 7) rfl (fun hc => ?_) (fun hc => ?_)
      · exact leaf t (by rw [hcon, con_at P o t hc])
      have hlt := Int32.lt_iff_toInt_lt.mp hc
      obtain ⟨i1, hi1⟩ : ∃ n : Nat, t.toInt = n := ⟨t.toInt.toNat, by omega⟩
      refine g_aloadN X0 hx (hb hby d3_7) (pc' := 8) rfl rfl rfl ?_
      refine g_iloadN X0 hx (hb hby d3_8) (pc' := 9) rfl rfl ?_
      refine g_iaload X0 hx hZ e0 V (own_nn.mpr (by omega)) (own_nat hi1) (by omega) (v := P i1) rfl (hb hby d3_9) (pc' := 10) rfl ?_
      refine g_istoreN X0 hx (hb hby d3_10) (pc' := 11) rfl (Ls' := #[.val (.ref a), .val (.int o), .val (.int i), .val (.int (P i1))]) rfl ?_
      refine g_goto X0 hx (hb hby d3_11) (by decide) (pc' := 2) rfl ?_
      exact ih (P i1) (by have := hP i1 (by omega); omega) (by omega) (by rw [hcon, con_up P o t hc k, own_nat hi1])
  refine g_iloadN X0 hx (hb hby d3_0) (pc' := 1) rfl rfl ?_
  refine g_istoreN X0 hx (hb hby d3_1) (pc' := 2) rfl (Ls' := #[.val (.ref a), .val (.int o), .val (.int i), .val (.int i)]) rfl ?_
  exact loop 6 i hi (Nat.le_refl _) rfl
def own_P (q2 q3 q4 q5 : Int32) : Nat → Int32
  | 0 => -1
  | 1 => 0
  | 2 => q2
  | 3 => q3
  | 4 => q4
  | 5 => q5
  | _ => 0
def own_L (n : Nat) : List Int32 := (List.range n).map fun i => Int32.ofNat i
theorem own_in {q : Int32} {n : Nat} (h0 : 0 ≤ q.toInt) (h1 : q.toInt < n) (hn : n < 100) : q ∈ own_L n := by
  obtain ⟨i, hi⟩ : ∃ i : Nat, q.toInt = i := ⟨q.toInt.toNat, by omega⟩
  refine List.mem_map.mpr ⟨i, List.mem_range.mpr (by omega), ?_⟩
  rw [← Int32.toInt_inj, hi]
  exact Int32.toInt_ofNat_small (by omega)
set_option maxRecDepth 65536 in
set_option maxHeartbeats 40000000 in
theorem own_law : ∀ q2 ∈ own_L 2, ∀ q3 ∈ own_L 3, ∀ q4 ∈ own_L 4, ∀ q5 ∈ own_L 5, ∀ o ∈ own_L 6, ∀ i ∈ own_L 6, con (own_P q2 q3 q4 q5) o 6 i = decide (RF (own_P q2 q3 q4 q5) o i) := by decide +kernel
def Q0 (n0 : Nat) (v : Option Value) (h : Heap) (L : List Loc) : Prop := v = some (.int 1) ∧ Fr n0 L
theorem pn_0 : plainName "com/example/charted/charted/model/ModelClassContainsPinLaw" = true := by first | (simp [plainName, overriddenIn]; done) | decide +kernel
theorem ef_0 (m : MethodId) (x0 : Int32) (x1 : Int32) (x2 : Int32) (x3 : Int32) (x4 : Int32) (x5 : Int32) : entryFrame m #[(.int x0), (.int x1), (.int x2), (.int x3), (.int x4), (.int x5)] maxLocals = mkF m 0 #[.val (.int x0), .val (.int x1), .val (.int x2), .val (.int x3), .val (.int x4), .val (.int x5), .unset, .unset, .unset, .unset] [] := by first | (simp [entryFrame, mkF, argsToLocals, Value.category, maxLocals]; done) | rfl
set_option maxRecDepth 65536 in
set_option maxHeartbeats 40000000 in
theorem rm0 (l : Launch) (Z : State) (a0 : Array Value) (hw : ∀ d ∈ tables_1, d.before a0 Z = true) (p1 p2 p3 p4 p5 p6 : Int32) (h0 : Heap) (n0 : Nat) (Z0 : n0 ≤ h0.size) :
    Ct l Z x code maxLocals ret room_1 #[(.int p1), (.int p2), (.int p3), (.int p4), (.int p5), (.int p6)] h0 (Q0 n0) := by
  refine Ct.of pn_0 (fun m => ef_0 m p1 p2 p3 p4 p5 p6) ?_
  intro p e s m below meth c T X0 hx hby hml hret hlk hZ hown hnm e0
  have N0 := Fr.nil n0
  refine g_bipush X0 hx (hb hby at_0) (pc' := 2) rfl (z := 6) (by decide) ?_
  refine g_newarr X0 hx hZ (hw _ (List.mem_of_getElem? (i := 0) rfl)) rfl e0 (hb hby at_2) (pc' := 4) rfl (by decide) (n := 6) (by decide) 6 (by decide) (by decide) (by decide) (by decide) ?_
  intro T1 h1 b1 g1 X1 e1 E1 V1
  have gb : n0 ≤ b1 := Nat.le_trans Z0 (Nat.le_of_eq g1.symm)
  refine g_astore X1 hx (hb hby at_4) (pc' := 6) rfl rfl (Ls' := #[.val (.int p1), .val (.int p2), .val (.int p3), .val (.int p4), .val (.int p5), .val (.int p6), .val (.ref b1), .unset, .unset, .unset]) rfl ?_
  refine g_aload X1 hx (hb hby at_6) (pc' := 8) rfl rfl rfl ?_
  refine g_iconst X1 hx (hb hby at_8) (pc' := 9) rfl (z := 0) (by decide) ?_
  refine g_iconst X1 hx (hb hby at_9) (pc' := 10) rfl (z := -1) (by decide) ?_
  refine g_iastore X1 hx hZ e1 V1 (by decide) (i := 0) (by decide) (by decide) (hb hby at_10) (pc' := 11) rfl ?_
  intro T2 h2 X2 e2 W2 V2
  have N2 := Fr.snoc X2 N0 gb
  refine g_aload X2 hx (hb hby at_11) (pc' := 13) rfl rfl rfl ?_
  refine g_iconst X2 hx (hb hby at_13) (pc' := 14) rfl (z := 1) (by decide) ?_
  refine g_iconst X2 hx (hb hby at_14) (pc' := 15) rfl (z := 0) (by decide) ?_
  refine g_iastore X2 hx hZ e2 V2 (by decide) (i := 1) (by decide) (by decide) (hb hby at_15) (pc' := 16) rfl ?_
  intro T3 h3 X3 e3 W3 V3
  have N3 := Fr.snoc X3 N2 gb
  refine g_aload X3 hx (hb hby at_16) (pc' := 18) rfl rfl rfl ?_
  refine g_iconst X3 hx (hb hby at_18) (pc' := 19) rfl (z := 2) (by decide) ?_
  refine g_iloadN X3 hx (hb hby at_19) (pc' := 20) rfl rfl ?_
  refine g_ldcI X3 hx hZ hown (hw _ (List.mem_of_getElem? (i := 1) rfl)) (hb hby at_20) (pc' := 22) rfl ?_
  refine g_iand X3 hx (hb hby at_22) (pc' := 23) rfl rfl ?_
  refine g_iconst X3 hx (hb hby at_23) (pc' := 24) rfl (z := 2) (by decide) ?_
  obtain ⟨q2, g_q2⟩ : ∃ z : Int32, z = (p1 &&& 2147483647) - (p1 &&& 2147483647) / 2 * 2 := ⟨_, rfl⟩
  have r_q2 : q2.toInt = (p1 &&& 2147483647).toInt % 2 := by rw [g_q2]; exact own_rem (own_mask p1) (by decide)
  refine g_irem X3 hx (hb hby at_24) (pc' := 25) rfl (by decide) (z := q2) g_q2.symm ?_
  refine g_iastore X3 hx hZ e3 V3 (by decide) (i := 2) (by decide) (by decide) (hb hby at_25) (pc' := 26) rfl ?_
  intro T4 h4 X4 e4 W4 V4
  have N4 := Fr.snoc X4 N3 gb
  refine g_aload X4 hx (hb hby at_26) (pc' := 28) rfl rfl rfl ?_
  refine g_iconst X4 hx (hb hby at_28) (pc' := 29) rfl (z := 3) (by decide) ?_
  refine g_iloadN X4 hx (hb hby at_29) (pc' := 30) rfl rfl ?_
  refine g_ldcI X4 hx hZ hown (hw _ (List.mem_of_getElem? (i := 1) rfl)) (hb hby at_30) (pc' := 32) rfl ?_
  refine g_iand X4 hx (hb hby at_32) (pc' := 33) rfl rfl ?_
  refine g_iconst X4 hx (hb hby at_33) (pc' := 34) rfl (z := 3) (by decide) ?_
  obtain ⟨q3, g_q3⟩ : ∃ z : Int32, z = (p2 &&& 2147483647) - (p2 &&& 2147483647) / 3 * 3 := ⟨_, rfl⟩
  have r_q3 : q3.toInt = (p2 &&& 2147483647).toInt % 3 := by rw [g_q3]; exact own_rem (own_mask p2) (by decide)
  refine g_irem X4 hx (hb hby at_34) (pc' := 35) rfl (by decide) (z := q3) g_q3.symm ?_
  refine g_iastore X4 hx hZ e4 V4 (by decide) (i := 3) (by decide) (by decide) (hb hby at_35) (pc' := 36) rfl ?_
  intro T5 h5 X5 e5 W5 V5
  have N5 := Fr.snoc X5 N4 gb
  refine g_aload X5 hx (hb hby at_36) (pc' := 38) rfl rfl rfl ?_
  refine g_iconst X5 hx (hb hby at_38) (pc' := 39) rfl (z := 4) (by decide) ?_
  refine g_iloadN X5 hx (hb hby at_39) (pc' := 40) rfl rfl ?_
  refine g_ldcI X5 hx hZ hown (hw _ (List.mem_of_getElem? (i := 1) rfl)) (hb hby at_40) (pc' := 42) rfl ?_
  refine g_iand X5 hx (hb hby at_42) (pc' := 43) rfl rfl ?_
  refine g_iconst X5 hx (hb hby at_43) (pc' := 44) rfl (z := 4) (by decide) ?_
  obtain ⟨q4, g_q4⟩ : ∃ z : Int32, z = (p3 &&& 2147483647) - (p3 &&& 2147483647) / 4 * 4 := ⟨_, rfl⟩
  have r_q4 : q4.toInt = (p3 &&& 2147483647).toInt % 4 := by rw [g_q4]; exact own_rem (own_mask p3) (by decide)
  refine g_irem X5 hx (hb hby at_44) (pc' := 45) rfl (by decide) (z := q4) g_q4.symm ?_
  refine g_iastore X5 hx hZ e5 V5 (by decide) (i := 4) (by decide) (by decide) (hb hby at_45) (pc' := 46) rfl ?_
  intro T6 h6 X6 e6 W6 V6
  have N6 := Fr.snoc X6 N5 gb
  refine g_aload X6 hx (hb hby at_46) (pc' := 48) rfl rfl rfl ?_
  refine g_iconst X6 hx (hb hby at_48) (pc' := 49) rfl (z := 5) (by decide) ?_
  refine g_iloadN X6 hx (hb hby at_49) (pc' := 50) rfl rfl ?_
  refine g_ldcI X6 hx hZ hown (hw _ (List.mem_of_getElem? (i := 1) rfl)) (hb hby at_50) (pc' := 52) rfl ?_
  refine g_iand X6 hx (hb hby at_52) (pc' := 53) rfl rfl ?_
  refine g_iconst X6 hx (hb hby at_53) (pc' := 54) rfl (z := 5) (by decide) ?_
  obtain ⟨q5, g_q5⟩ : ∃ z : Int32, z = (p4 &&& 2147483647) - (p4 &&& 2147483647) / 5 * 5 := ⟨_, rfl⟩
  have r_q5 : q5.toInt = (p4 &&& 2147483647).toInt % 5 := by rw [g_q5]; exact own_rem (own_mask p4) (by decide)
  refine g_irem X6 hx (hb hby at_54) (pc' := 55) rfl (by decide) (z := q5) g_q5.symm ?_
  refine g_iastore X6 hx hZ e6 V6 (by decide) (i := 5) (by decide) (by decide) (hb hby at_55) (pc' := 56) rfl ?_
  intro T7 h7 X7 e7 W7 V7
  have N7 := Fr.snoc X7 N6 gb
  refine g_iload X7 hx (hb hby at_56) (pc' := 58) rfl rfl ?_
  refine g_ldcI X7 hx hZ hown (hw _ (List.mem_of_getElem? (i := 1) rfl)) (hb hby at_58) (pc' := 60) rfl ?_
  refine g_iand X7 hx (hb hby at_60) (pc' := 61) rfl rfl ?_
  refine g_bipush X7 hx (hb hby at_61) (pc' := 63) rfl (z := 6) (by decide) ?_
  obtain ⟨qo, g_qo⟩ : ∃ z : Int32, z = (p5 &&& 2147483647) - (p5 &&& 2147483647) / 6 * 6 := ⟨_, rfl⟩
  have r_qo : qo.toInt = (p5 &&& 2147483647).toInt % 6 := by rw [g_qo]; exact own_rem (own_mask p5) (by decide)
  refine g_irem X7 hx (hb hby at_63) (pc' := 64) rfl (by decide) (z := qo) g_qo.symm ?_
  refine g_istore X7 hx (hb hby at_64) (pc' := 66) rfl (Ls' := #[.val (.int p1), .val (.int p2), .val (.int p3), .val (.int p4), .val (.int p5), .val (.int p6), .val (.ref b1), .val (.int qo), .unset, .unset]) rfl ?_
  refine g_iload X7 hx (hb hby at_66) (pc' := 68) rfl rfl ?_
  refine g_ldcI X7 hx hZ hown (hw _ (List.mem_of_getElem? (i := 1) rfl)) (hb hby at_68) (pc' := 70) rfl ?_
  refine g_iand X7 hx (hb hby at_70) (pc' := 71) rfl rfl ?_
  refine g_bipush X7 hx (hb hby at_71) (pc' := 73) rfl (z := 6) (by decide) ?_
  obtain ⟨qi, g_qi⟩ : ∃ z : Int32, z = (p6 &&& 2147483647) - (p6 &&& 2147483647) / 6 * 6 := ⟨_, rfl⟩
  have r_qi : qi.toInt = (p6 &&& 2147483647).toInt % 6 := by rw [g_qi]; exact own_rem (own_mask p6) (by decide)
  refine g_irem X7 hx (hb hby at_73) (pc' := 74) rfl (by decide) (z := qi) g_qi.symm ?_
  refine g_istore X7 hx (hb hby at_74) (pc' := 76) rfl (Ls' := #[.val (.int p1), .val (.int p2), .val (.int p3), .val (.int p4), .val (.int p5), .val (.int p6), .val (.ref b1), .val (.int qo), .val (.int qi), .unset]) rfl ?_
  refine g_aload X7 hx (hb hby at_76) (pc' := 78) rfl rfl rfl ?_
  refine g_iload X7 hx (hb hby at_78) (pc' := 80) rfl rfl ?_
  refine g_iload X7 hx (hb hby at_80) (pc' := 82) rfl rfl ?_
  have VP : Av Z h7 b1 .int 6 (fun j => .int (own_P q2 q3 q4 q5 j)) := V7.congr (fun j hj => by
    have : j = 0 ∨ j = 1 ∨ j = 2 ∨ j = 3 ∨ j = 4 ∨ j = 5 := by omega
    rcases this with rfl | rfl | rfl | rfl | rfl | rfl <;> rfl)
  have hP1 : ∀ j : Nat, j < 6 → (own_P q2 q3 q4 q5 j).toInt < j := by
    intro j hj
    have : j = 0 ∨ j = 1 ∨ j = 2 ∨ j = 3 ∨ j = 4 ∨ j = 5 := by omega
    rcases this with rfl | rfl | rfl | rfl | rfl | rfl <;> first | (show (-1 : Int32).toInt < ((0 : Nat) : Int); decide) | (show (0 : Int32).toInt < ((1 : Nat) : Int); decide) | (simp only [own_P]; omega)
  have hP2 : ∀ j : Nat, (own_P q2 q3 q4 q5 j).toInt < 6 := by
    intro j
    by_cases hj : j < 6
    · have := hP1 j hj; omega
    · obtain ⟨j', rfl⟩ : ∃ j', j = j' + 6 := ⟨j - 6, by omega⟩
      show (0 : Int32).toInt < 6; decide
  refine g_callS X7 hx hZ 0 hown (hw _ (List.mem_of_getElem? (i := 2) rfl)) (hw _ (List.mem_of_getElem? (i := 3) rfl)) (hw _ (List.mem_of_getElem? (i := 4) rfl)) (hw _ (List.mem_of_getElem? (i := 5) rfl)) (by decide) e7 (rm2 l Z a0 hw b1 (own_P q2 q3 q4 q5) qo qi h7 n0 VP hP2 (by omega)) (by decide) (by decide) (by rw [hml]; rfl) (argsL := [(.ref b1), (.int qo), (.int qi)]) (rest := []) (lenOf pd_2 rfl) rfl (Nat.le_of_eq rfl) (hb hby at_82) (pc' := 85) rfl (by decide) (by decide) rfl ?_
  rintro T21 _ L21 X21 ⟨M21, e21, z21, rfl, c21⟩
  show Go p e below _ (T21.setTop (mkF m 85 #[.val (.int p1), .val (.int p2), .val (.int p3), .val (.int p4), .val (.int p5), .val (.int p6), .val (.ref b1), .val (.int qo), .val (.int qi), .unset] [(.int z21)]))
  refine g_istore X21 hx (hb hby at_85) (pc' := 87) rfl (Ls' := #[.val (.int p1), .val (.int p2), .val (.int p3), .val (.int p4), .val (.int p5), .val (.int p6), .val (.ref b1), .val (.int qo), .val (.int qi), .val (.int z21)]) rfl ?_
  refine g_aload X21 hx (hb hby at_87) (pc' := 89) rfl rfl rfl ?_
  refine g_iload X21 hx (hb hby at_89) (pc' := 91) rfl rfl ?_
  refine g_iload X21 hx (hb hby at_91) (pc' := 93) rfl rfl ?_
  refine g_callS X21 hx hZ 0 hown (hw _ (List.mem_of_getElem? (i := 9) rfl)) (hw _ (List.mem_of_getElem? (i := 10) rfl)) (hw _ (List.mem_of_getElem? (i := 11) rfl)) (hw _ (List.mem_of_getElem? (i := 12) rfl)) (by decide) e21 (rm3 l Z a0 hw b1 (own_P q2 q3 q4 q5) qo qi h7 n0 VP hP1 (by omega) (by omega)) (by decide) (by decide) (by rw [hml]; rfl) (argsL := [(.ref b1), (.int qo), (.int qi)]) (rest := []) (lenOf pd_3 rfl) rfl (Nat.le_of_eq rfl) (hb hby at_93) (pc' := 96) rfl (by decide) (by decide) rfl ?_
  rintro T22 _ L22 X22 ⟨M22, e22, z22, rfl, c22⟩
  show Go p e below _ (T22.setTop (mkF m 96 #[.val (.int p1), .val (.int p2), .val (.int p3), .val (.int p4), .val (.int p5), .val (.int p6), .val (.ref b1), .val (.int qo), .val (.int qi), .val (.int z21)] [(.int z22)]))
  have hl := own_law q2 (own_in (by omega) (by omega) (by omega)) q3 (own_in (by omega) (by omega) (by omega)) q4 (own_in (by omega) (by omega) (by omega)) q5 (own_in (by omega) (by omega) (by omega)) qo (own_in (by omega) (by omega) (by omega)) qi (own_in (by omega) (by omega) (by omega))
  have d1 : z22 = z21 := by
    rw [hl, decide_eq_true_iff] at c22
    rcases c21 with ⟨rfl, q⟩ | ⟨rfl, q⟩ <;> rcases c22 with ⟨rfl, r⟩ | ⟨rfl, r⟩ <;> first | rfl | exact absurd q r | exact absurd r q
  refine g_iload X22 hx (hb hby at_96) (pc' := 98) rfl rfl ?_
  refine g_icmp_ne X22 hx (hb hby at_98) (by decide) (pc' := 105) rfl (pcF := 101) rfl (fun hq => ?_) (fun hq => ?_)
  · exact absurd d1 hq
  refine g_iconst X22 hx (hb hby at_101) (pc' := 102) rfl (z := 1) (by decide) ?_
  refine g_goto X22 hx (hb hby at_102) (by decide) (pc' := 106) rfl ?_
  exact g_retZ X22 hx hret hlk (by decide) (hb hby at_106) (by decide) (by decide) ⟨rfl, (N7.app M21).app M22⟩
set_option maxRecDepth 65536 in
set_option maxHeartbeats 40000000 in
theorem comes_1 {Post : Tables → Env → Array Value → State → Outcome → State → Prop} (hpost : ∀ tb e args s v u, (limb_1_1.after args s (.returned v) u = true ∧ limb_1_2.after args s (.returned v) u = true ∧ True) → FrameEnd s (.returned v) u (Jvm.fieldLocs frame_1_writes args s ++ Jvm.arrayLocs frame_1_arrays args s ++ Jvm.staticLocs frame_1_statics s) 16 128 → Post tb e args s (.returned v) u) :
    ArmFor flags0 classFile x code maxLocals ret World_1 tables_1 room_1 Calls_1 rest_1 Pre_1 Post := by
  intro l hfl _ _ p e ha hc hk s m args below hf hA hF happ hP
  obtain ⟨hcalls, hrest, hpre⟩ := hP
  obtain ⟨-, -, -, hnamed, -, -, -, hat⟩ := (Spec.applies_iff hf).mp happ
  obtain ⟨hg, hn⟩ := and_e (Cond.before_iff.mp (show (Jvm.Cond.and given_1 narrow_1).before args s = true from hpre))
  obtain ⟨hcount, k0⟩ := and_e hg
  obtain ⟨j0, k1⟩ := and_e k0
  obtain ⟨j1, k2⟩ := and_e k1
  obtain ⟨j2, k3⟩ := and_e k2
  obtain ⟨j3, k4⟩ := and_e k3
  obtain ⟨j4, k5⟩ := and_e k4
  have j5 := k5
  obtain ⟨w0, w1, w2, w3, w4, w5, rfl⟩ : ∃ w0 w1 w2 w3 w4 w5 : Value, args = #[w0, w1, w2, w3, w4, w5] := by
    have hs : args.size = 6 := by simpa [Cond.value, given_1] using hcount
    obtain ⟨L⟩ := args
    match L, hs with
    | [w0, w1, w2, w3, w4, w5], _ => exact ⟨w0, w1, w2, w3, w4, w5, rfl⟩
  have hw := fun d (hd : d ∈ tables_1) => atoms_spec (ws := Jvm.Cond.code x code maxLocals ret :: tables_1) hat d (List.mem_cons_of_mem _ hd)
  obtain ⟨i0, e0⟩ := is_v j0
  obtain rfl : w0 = (.int i0) := Option.some.inj e0
  obtain ⟨i1, e1⟩ := is_v j1
  obtain rfl : w1 = (.int i1) := Option.some.inj e1
  obtain ⟨i2, e2⟩ := is_v j2
  obtain rfl : w2 = (.int i2) := Option.some.inj e2
  obtain ⟨i3, e3⟩ := is_v j3
  obtain rfl : w3 = (.int i3) := Option.some.inj e3
  obtain ⟨i4, e4⟩ := is_v j4
  obtain rfl : w4 = (.int i4) := Option.some.inj e4
  obtain ⟨i5, e5⟩ := is_v j5
  obtain rfl : w5 = (.int i5) := Option.some.inj e5
  obtain ⟨n, o, h1, h2, h3, _, L, rfl, ⟨rfl, N⟩, hq⟩ := rm0 l s _ hw i0 i1 i2 i3 i4 i5 s.heap s.heap.size (Nat.le_refl _) tables_1 p e ha hc hk s m _ below hf ((Spec.applies_iff_loose hf).mp happ).1 ⟨rfl, State.Warmed39.refl s, rfl⟩ trivial
  refine ⟨n, _, h1, h2, h3, hpost _ _ _ _ _ _ ⟨Cond.after_iff.mpr rfl, Cond.after_iff.mpr (eq_i res_at (Term.int_eval (1)) rfl), trivial⟩ ⟨hq.1, hq.2.1, (hq.2.2.sift fun y hy => Or.inr (N y hy)).mono (by decide) (by decide)⟩⟩
theorem main_1_1 : Claimed_1_1 := comes_1 fun _ _ _ _ _ _ h hF => ⟨h.1, hF⟩
theorem main_1_2 : Claimed_1_2 := comes_1 fun _ _ _ _ _ _ h hF => ⟨h.2.1, hF⟩
end Jvm.Pilot.@@N@@
namespace Jvm.Pilot.@@N@@
open Jvm Jvm.ClassFile Sem Op Lib Jvm.Free Jvm.Stand Jvm.Pilot.@@N@@.Jvm.D
/-! MADE BY PROGRAM (witnessworld.py) out of the Statement's table words and the real class files: 9 classes; the members and pool entries that the words name. The judged class is class 1, her method 1. -/
namespace start1
open Jvm.ClassFile
def u (s : String) : CpInfo := .utf8 (stringToUtf16 s)
/-- a pool by its gaps: so many unusable entries, then the entry; so many at the end -/
def gap : Nat → List CpInfo → List CpInfo
  | 0, r => r
  | n + 1, r => .unusable :: gap n r
def poolList (es : List (Nat × CpInfo)) (last : Nat) : List CpInfo := es.foldr (fun e r => gap e.1 (e.2 :: r)) (gap last [])
def pool (es : List (Nat × CpInfo)) (last : Nat) : Array CpInfo := ⟨poolList es last⟩
def fileOf (pool : Array CpInfo) (this : Nat) (attrs : Array Attribute := #[]) (ms : Array MethodInfo := #[]) (fl : Nat := 33) (sup : Nat := 0) (ifs : Array Nat := #[]) (fds : Array FieldInfo := #[]) : ClassFile where
  minorVersion := 0
  majorVersion := 65
  constantPool := pool
  accessFlags := fl
  thisClass := this
  superClass := sup
  interfaces := ifs
  fields := fds
  methods := ms
  attributes := attrs
def plain (name : String) (sup : Option ClassId) : Class where
  name := name
  kind := .ordinary
  loader := none
  accessFlags := 33
  super := sup
  interfaces := #[]
  cf := none
  fields := #[]
  methods := #[]
  instanceTypes := #[]
  staticTypes := #[]
  resolved := #[]
  callSites := []
  init := .initialized
  statics := none
  mirror := none

def pool0 : Array CpInfo := pool [(5, u "<init>"), (0, u "()V"), (1, .class_ 10), (1, u "java/lang/Object")] 113

def k0m0 : Method := { name := "<init>", desc := "()V", sig := { parameters := [], returnType := none }, accessFlags := 1, code := none }
/-- java/lang/Object -/
def k0 : Class := { plain "java/lang/Object" none with
  accessFlags := 33
  interfaces := #[]
  cf := some (fileOf pool0 8 #[] #[{ accessFlags := 1, nameIndex := 5, descriptorIndex := 6, attributes := #[] }] 33 0 #[] #[])
  fields := #[]
  methods := #[k0m0]
  instanceTypes := #[]
  staticTypes := #[]
  resolved := Array.replicate 124 none
  statics := none }

def pool1 : Array CpInfo := pool [(2, .class_ 4), (1, u "java/lang/Object"), (0, u "<init>"), (0, u "()V"), (0, .integer 2147483647), (0, .methodref 9 10), (0, .class_ 11), (0, .nameAndType 12 13), (0, u "com/example/charted/charted/model/ModelClassContainsPinLaw"), (0, u "ref"), (0, u "([III)Z"), (0, .methodref 15 16), (0, .class_ 17), (0, .nameAndType 18 13), (0, u "com/example/charted/charted/model/ModelClass"), (0, u "contains"), (0, .methodref 9 20), (0, .nameAndType 21 22), (0, u "up"), (0, u "([II)I"), (2, u "law"), (0, u "(IIIIII)Z")] 5

def k1m0 : Method := { name := "<init>", desc := "()V", sig := { parameters := [], returnType := none }, accessFlags := 1, code := none }
def k1c1 : Code := { maxStack := 4, maxLocals := 10, code := code, exceptionTable := #[], attributes := #[] }
def k1m1 : Method := { name := "law", desc := "(IIIIII)Z", sig := { parameters := [.int, .int, .int, .int, .int, .int], returnType := some .boolean }, accessFlags := 9, code := some k1c1 }
def k1c2 : Code := { maxStack := 2, maxLocals := 2, code := method_3_code, exceptionTable := #[], attributes := #[] }
def k1m2 : Method := { name := "up", desc := "([II)I", sig := { parameters := [(.array .int), .int], returnType := some .int }, accessFlags := 10, code := some k1c2 }
def k1c3 : Code := { maxStack := 2, maxLocals := 8, code := method_4_code, exceptionTable := #[], attributes := #[] }
def k1m3 : Method := { name := "ref", desc := "([III)Z", sig := { parameters := [(.array .int), .int, .int], returnType := some .boolean }, accessFlags := 10, code := some k1c3 }
/-- com/example/charted/charted/model/ModelClassContainsPinLaw -/
def k1 : Class := { plain "com/example/charted/charted/model/ModelClassContainsPinLaw" (some 0) with
  accessFlags := 49
  interfaces := #[]
  cf := some (fileOf pool1 9 #[] #[{ accessFlags := 1, nameIndex := 5, descriptorIndex := 6, attributes := #[] }, { accessFlags := 9, nameIndex := 25, descriptorIndex := 26, attributes := #[] }, { accessFlags := 10, nameIndex := 21, descriptorIndex := 22, attributes := #[] }, { accessFlags := 10, nameIndex := 12, descriptorIndex := 13, attributes := #[] }] 49 2 #[] #[])
  fields := #[]
  methods := #[k1m0, k1m1, k1m2, k1m3]
  instanceTypes := #[]
  staticTypes := #[]
  resolved := Array.replicate 32 none
  statics := none }

def pool2 : Array CpInfo := pool [(2, .class_ 4), (1, u "java/lang/Object"), (3, .class_ 10), (1, u "com/example/charted/charted/model/ModelClass"), (0, u "name"), (0, u "Ljava/lang/String;"), (8, u "signals"), (0, u "Ljava/util/List;"), (2, u "operations"), (2, u "attributes"), (2, u "states"), (6, u "parents"), (0, u "[I"), (11, u "transitions"), (14, u "contains"), (0, u "([III)Z"), (55, u "TOP_STATE"), (0, u "I")] 67

def k2c0 : Code := { maxStack := 2, maxLocals := 4, code := prog_116_method_11_code, exceptionTable := #[], attributes := #[] }
def k2m0 : Method := { name := "contains", desc := "([III)Z", sig := { parameters := [(.array .int), .int, .int], returnType := some .boolean }, accessFlags := 8, code := some k2c0 }
/-- com/example/charted/charted/model/ModelClass -/
def k2 : Class := { plain "com/example/charted/charted/model/ModelClass" (some 0) with
  accessFlags := 33
  interfaces := #[]
  cf := some (fileOf pool2 8 #[] #[{ accessFlags := 8, nameIndex := 66, descriptorIndex := 67, attributes := #[] }] 33 2 #[] #[{ accessFlags := 25, nameIndex := 123, descriptorIndex := 124, attributes := #[] }, { accessFlags := 18, nameIndex := 11, descriptorIndex := 12, attributes := #[] }, { accessFlags := 18, nameIndex := 21, descriptorIndex := 22, attributes := #[] }, { accessFlags := 18, nameIndex := 25, descriptorIndex := 22, attributes := #[] }, { accessFlags := 18, nameIndex := 28, descriptorIndex := 22, attributes := #[] }, { accessFlags := 18, nameIndex := 31, descriptorIndex := 22, attributes := #[] }, { accessFlags := 18, nameIndex := 38, descriptorIndex := 39, attributes := #[] }, { accessFlags := 18, nameIndex := 51, descriptorIndex := 22, attributes := #[] }])
  fields := #[{ name := "TOP_STATE", type := .int, accessFlags := 25, slot := 0, constantValue := 0 }, { name := "name", type := (.object "java/lang/String"), accessFlags := 18, slot := 0, constantValue := 0 }, { name := "signals", type := (.object "java/util/List"), accessFlags := 18, slot := 1, constantValue := 0 }, { name := "operations", type := (.object "java/util/List"), accessFlags := 18, slot := 2, constantValue := 0 }, { name := "attributes", type := (.object "java/util/List"), accessFlags := 18, slot := 3, constantValue := 0 }, { name := "states", type := (.object "java/util/List"), accessFlags := 18, slot := 4, constantValue := 0 }, { name := "parents", type := (.array .int), accessFlags := 18, slot := 5, constantValue := 0 }, { name := "transitions", type := (.object "java/util/List"), accessFlags := 18, slot := 6, constantValue := 0 }]
  methods := #[k2m0]
  instanceTypes := #[(.object "java/lang/String"), (.object "java/util/List"), (.object "java/util/List"), (.object "java/util/List"), (.object "java/util/List"), (.array .int), (.object "java/util/List")]
  staticTypes := #[.int]
  resolved := Array.replicate 192 none
  statics := none }

def pool3 : Array CpInfo := pool [(1, u "java/lang/Cloneable"), (0, .class_ 1), (0, u "java/lang/Object"), (0, .class_ 3)] 3

/-- java/lang/Cloneable -/
def k3 : Class := { plain "java/lang/Cloneable" (some 0) with
  accessFlags := 1537
  interfaces := #[]
  cf := some (fileOf pool3 2 #[] #[] 1537 4 #[] #[])
  fields := #[]
  methods := #[]
  instanceTypes := #[]
  staticTypes := #[]
  resolved := Array.replicate 8 none
  statics := none }

def pool4 : Array CpInfo := pool [(1, u "java/io/Serializable"), (0, .class_ 1), (0, u "java/lang/Object"), (0, .class_ 3)] 3

/-- java/io/Serializable -/
def k4 : Class := { plain "java/io/Serializable" (some 0) with
  accessFlags := 1537
  interfaces := #[]
  cf := some (fileOf pool4 2 #[] #[] 1537 4 #[] #[])
  fields := #[]
  methods := #[]
  instanceTypes := #[]
  staticTypes := #[]
  resolved := Array.replicate 8 none
  statics := none }

/-- the primitive byte -/
def k5 : Class := { plain "byte" none with kind := .primitive 'B', accessFlags := 0x411 }
/-- [B -/
def k6 : Class := { plain "[B" (some 0) with kind := .array 5 .byte, interfaces := #[3, 4], accessFlags := 1041 }

/-- the primitive int -/
def k7 : Class := { plain "int" none with kind := .primitive 'I', accessFlags := 0x411 }
/-- [I -/
def k8 : Class := { plain "[I" (some 0) with kind := .array 7 .int, interfaces := #[3, 4], accessFlags := 1041 }

def heap : Heap := #[]
def classes : Array Class := #[k0, k1, k2, k3, k4, k5, k6, k7, k8]
def interned : List (Array UInt16 × Addr) := []
def slotsUsed : Nat := 0
def theMethod : MethodId := ⟨1, 1⟩
def args0 : Array Value := #[.int 1, .int 1, .int 1, .int 1, .int 1, .int 1]
def aboutOver (below : List Frame) : State where
  vm := { classes := classes, interned := interned.toArray }
  heap := heap
  slotsUsed := slotsUsed
  threads := #[{ frames := .invoking theMethod args0 :: below }]
def below0 : List Frame := [.native { method := ⟨0, 0⟩, args := #[] }]
def about1 : State := aboutOver below0
def p0 : Program := .bare "" "" ""
def e0 : Env := launch0.env 0 0 0
theorem w_frames : about1.frames = Frame.invoking theMethod args0 :: below0 := rfl
set_option maxRecDepth 65536 in
theorem w_args : argsFit about1.vm theMethod args0 = true := by decide +kernel
set_option maxRecDepth 65536 in
theorem w_heap : heapFits about1 = true := by decide +kernel
set_option maxRecDepth 65536 in
theorem w_runnable : about1.curStatus? = some .runnable := by decide +kernel
set_option maxRecDepth 65536 in
theorem w_alone : about1.alone = true := by decide +kernel
set_option maxRecDepth 65536 in
theorem w_named : about1.methodNamed? x = some theMethod := by decide +kernel
set_option maxRecDepth 65536 in
theorem w_hears : about1.hears theMethod below0 = true := by decide +kernel
set_option maxRecDepth 65536 in
theorem w_ripe : about1.ripe theMethod args0 below0 = true := by decide +kernel
theorem w_running : about1.status = .running := rfl
set_option maxRecDepth 65536 in
theorem w_room : about1.hasRoom e0.platform room_1 = true :=
  launch0.hasRoom_least _ room_1 (by decide +kernel) (by decide +kernel) (by decide +kernel) (by decide +kernel) (by decide +kernel) (by decide +kernel)
theorem allAtoms_all (ts : List Jvm.Cond) (a : Array Jvm.Value) (st : Jvm.State) : (allAtoms ts).before a st = ts.all (fun c => c.before a st) := by
  induction ts with
  | nil => rfl
  | cons c t ih =>
    show (Jvm.Cond.and c (allAtoms t)).before a st = _
    rw [Jvm.Cond.before_and, ih, List.all_cons]
def words1 : List Jvm.Cond := Jvm.Cond.code x code maxLocals ret :: tables_1
/-- a 'code' word, met by the world's own term for the bytes: nothing is compared byte by byte -/
theorem code_word {y : MethodName} {bytes : ByteArray} {mx : Nat} {rt : Option FieldType} {a : Array Value} {s : State} {m : MethodId} {meth : Method} {c : Code} (h1 : s.methodNamed? y = some m) (h2 : s.vm.method? m = some meth) (h3 : meth.code = some c) (h4 : c.code = bytes)
    (h5 : (c.maxLocals == mx && c.exceptionTable.isEmpty && decide (c.maxStack ≤ mostOperands) && decide (meth.sig.returnType = rt) && !meth.locks && decide (parseMethodDescriptor y.desc = some meth.sig)) = true) : (Jvm.Cond.code y bytes mx rt).before a s = true := by
  simp only [Bool.and_eq_true, beq_iff_eq, Bool.not_eq_true', decide_eq_true_eq] at h5
  obtain ⟨⟨⟨⟨⟨g1, g2⟩, g3⟩, g4⟩, g5⟩, g6⟩ := h5
  simp [Cond.before, Cond.holds, Cond.value, h1, h2, h3, h4, g1, g2, g3, g4, g5, g6]
def isCode : Jvm.Cond → Bool
  | .code _ _ _ _ => true
  | _ => false
theorem all_split {L : List Jvm.Cond} {P : Jvm.Cond → Bool} (h1 : L.all (fun c => isCode c || P c) = true) (h2 : ∀ c ∈ L.filter isCode, P c = true) : L.all P = true := by
  refine List.all_eq_true.mpr fun c hc => ?_
  have h := List.all_eq_true.mp h1 c hc
  rcases Bool.eq_false_or_eq_true (isCode c) with hi | hi
  · exact h2 c (List.mem_filter.mpr ⟨hc, hi⟩)
  · simpa [hi] using h
set_option maxRecDepth 65536 in
theorem w_c0 : (Jvm.Cond.code x code maxLocals ret).before args0 about1 = true := code_word (m := ⟨1, 1⟩) (meth := k1m1) (c := k1c1) (by decide +kernel) rfl rfl rfl (by decide +kernel)
set_option maxRecDepth 65536 in
theorem w_c1 : (Jvm.Cond.code ({ cls := "com/example/charted/charted/model/ModelClassContainsPinLaw", name := "ref", desc := "([III)Z" } : Jvm.MethodName) method_4_code (8 : Nat) (Option.some Jvm.ClassFile.FieldType.boolean)).before args0 about1 = true := code_word (m := ⟨1, 3⟩) (meth := k1m3) (c := k1c3) (by decide +kernel) rfl rfl rfl (by decide +kernel)
set_option maxRecDepth 65536 in
theorem w_c2 : (Jvm.Cond.code ({ cls := "com/example/charted/charted/model/ModelClassContainsPinLaw", name := "up", desc := "([II)I" } : Jvm.MethodName) method_3_code (2 : Nat) (Option.some Jvm.ClassFile.FieldType.int)).before args0 about1 = true := code_word (m := ⟨1, 2⟩) (meth := k1m2) (c := k1c2) (by decide +kernel) rfl rfl rfl (by decide +kernel)
set_option maxRecDepth 65536 in
theorem w_c3 : (Jvm.Cond.code ({ cls := "com/example/charted/charted/model/ModelClass", name := "contains", desc := "([III)Z" } : Jvm.MethodName) prog_116_method_11_code (4 : Nat) (Option.some Jvm.ClassFile.FieldType.boolean)).before args0 about1 = true := code_word (m := ⟨2, 0⟩) (meth := k2m0) (c := k2c0) (by decide +kernel) rfl rfl rfl (by decide +kernel)
def codes1 : List Jvm.Cond := [Jvm.Cond.code x code maxLocals ret, Jvm.Cond.code ({ cls := "com/example/charted/charted/model/ModelClassContainsPinLaw", name := "ref", desc := "([III)Z" } : Jvm.MethodName) method_4_code (8 : Nat) (Option.some Jvm.ClassFile.FieldType.boolean), Jvm.Cond.code ({ cls := "com/example/charted/charted/model/ModelClassContainsPinLaw", name := "up", desc := "([II)I" } : Jvm.MethodName) method_3_code (2 : Nat) (Option.some Jvm.ClassFile.FieldType.int), Jvm.Cond.code ({ cls := "com/example/charted/charted/model/ModelClass", name := "contains", desc := "([III)Z" } : Jvm.MethodName) prog_116_method_11_code (4 : Nat) (Option.some Jvm.ClassFile.FieldType.boolean)]
set_option maxRecDepth 65536 in
theorem codes_eq : words1.filter isCode = codes1 := rfl
theorem w_codes : ∀ c ∈ words1.filter isCode, c.before args0 about1 = true := by
  rw [codes_eq]
  intro c hc
  simp only [codes1, List.mem_cons, List.not_mem_nil, or_false] at hc
  rcases hc with rfl | rfl | rfl | rfl
  · exact w_c0
  · exact w_c1
  · exact w_c2
  · exact w_c3
set_option maxRecDepth 65536 in
theorem w_t1 : words1.all (fun c => isCode c || c.before args0 about1) = true := by decide +kernel
theorem w_tables : (allAtoms (Jvm.Cond.code x code maxLocals ret :: tables_1)).before args0 about1 = true := by
  rw [allAtoms_all]
  show words1.all (fun c => c.before args0 about1) = true
  refine all_split ?_ w_codes
  rw [w_t1]
set_option maxRecDepth 65536 in
theorem w_case : (Jvm.Cond.and given_1 narrow_1).before args0 about1 = true := by decide +kernel
theorem w_applies : (headSpec (Jvm.Cond.code x code maxLocals ret :: tables_1) room_1).applies x e0.platform about1 = true :=
  (Spec.applies_iff w_frames).mpr ⟨w_running, w_runnable, w_alone, w_named, w_hears, w_ripe, w_room, w_tables⟩
theorem atStart : AtStart classFile x code maxLocals ret World_1 tables_1 room_1 Calls_1 rest_1 Pre_1 launch0 p0 e0 about1 theMethod args0 below0 :=
  ⟨lists_1, trivial, launch0.admits_env _ _ _, launch0.least_env, fairChoices_fair.cas, fairChoices_fair.clock, w_frames, w_args, w_heap, w_applies, trivial, trivial, w_case⟩
end start1
theorem witness_1 : WitnessClaimed_1 := ⟨start1.p0, start1.e0, start1.about1, start1.theMethod, start1.args0, start1.below0, start1.atStart⟩
end Jvm.Pilot.@@N@@
