import JvmDerived
import JvmDerived.Pilot.@@N@@Statement
import JvmDerived.Pilot.@@N@@Code
set_option linter.unusedVariables false
set_option linter.unusedSimpArgs false
namespace Jvm.Pilot.@@N@@
open Jvm Jvm.ClassFile Sem Op Lib Jvm.Free Jvm.Stand Jvm.LawKit Jvm.RoadKit Bundle Jvm.Pilot.@@N@@.Jvm.D
section Kit
variable {p : Program} {l : Launch} {e : Env} {R : Room} {s : State} {m : MethodId} {args : Array Value} {below : List Frame} {meth : Method} {c : Code} {T : State} {locs : List Loc} {cells slots : Nat} {Z : State} {a0 : Array Value} {h : Heap} {G : State → Prop} {pc pc' : Nat} {Ls Ls' : Array Slot} {st : List Value}
def Go (p : Program) (e : Env) (below : List Frame) (G : State → Prop) (S : State) : Prop := ∃ t, Steps p.tables e below S t ∧ G t
theorem Go.to {S S' : State} (h : ∀ t, Steps p.tables e below S' t → Steps p.tables e below S t) (k : Go p e below G S') : Go p e below G S := let ⟨t, h1, h2⟩ := k; ⟨t, h t h1, h2⟩
def Dn (s : State) (below : List Frame) (Q : Option Value → Heap → List Loc → Prop) (kc ks : Nat) (t : State) : Prop := ∃ o, t.status = .running ∧ Ended t below o ∧ ∃ v L, o = .returned v ∧ Q v t.heap L ∧ FrameEnd s o t L kc ks
def Ct (l : Launch) (Z : State) (y : MethodName) (bytes : ByteArray) (maxL : Nat) (ret : Option FieldType) (rm : Room) (as' : Array Value) (h0 : Heap) (Q : Option Value → Heap → List Loc → Prop) : Prop :=
  ∀ ws, MetFree l y (head1 (Jvm.Cond.code y bytes maxL ret :: ws) rm) (fun a U => a = as' ∧ Z.Warmed39 U.vm ∧ U.heap = h0) (fun _ _ _ _ _ => True) (fun _ U o U' => ∃ v L, o = .returned v ∧ Q v U'.heap L ∧ FrameEnd U o U' L rm.cells rm.slots)
theorem Ct.of {y : MethodName} {bytes : ByteArray} {maxL : Nat} {ret : Option FieldType} {rm : Room} {as' : Array Value} {h0 : Heap} {Q : Option Value → Heap → List Loc → Prop} (hn : plainFor y = true) (hef : ∀ m, entryFrame m as' maxL = mkF m 0 Ls [])
    (body : ∀ (p : Program) (e : Env) (s : State) (m : MethodId) (below : List Frame) (meth : Method) (c : Code) (T : State), Stand p l e rm s m as' below meth c T [] 0 0 → p.tables.exec = Jvm.exec → c.code = bytes → c.maxLocals = maxL → meth.sig.returnType = ret → meth.locks = false → Z.Warmed39 s.vm → s.vm.findClass y.cls = some m.cls → meth.name = y.name → T.heap = h0 →
      Go p e below (Dn s below Q rm.cells rm.slots) (T.setTop (mkF m 0 Ls []))) : Ct l Z y bytes maxL ret rm as' h0 Q := by
  intro ws
  refine MetFree.of_bodySF hn hisR ?_
  intro p e s m args below meth c s₁ Bd hml0 hP hK
  obtain ⟨rfl, hZ, hh⟩ := hP
  obtain ⟨t, h1, o, h2, h3, h4⟩ := body p e s m below meth c s₁ (Stand.of_body Bd) Bd.exec Bd.bytes hml0 Bd.returns Bd.notSynchronized hZ (findClass_of_methodNamed Bd.named) (name_of_methodNamed Bd.named Bd.method).1 (by rw [← hh, Bd.state]; rfl)
  exact ⟨t, o, castTop (hef m) h1, h2, h3, h4⟩
theorem g_aloadN (X : Stand p l e R s m args below meth c T locs cells slots) (hx : p.tables.exec = Jvm.exec) {k : Fin 4} {v : Value} (hd : decode c.code pc = .ok (.aload_n k, 1)) (hp : pc + 1 = pc') (hl : Ls[k.val]? = some (.val v)) (hv : v.isRef = true) (k : Go p e below G (T.setTop (mkF m pc' Ls (v :: st)))) : Go p e below G (T.setTop (mkF m pc Ls (st))) := by
  subst hp
  exact Go.to (fun t q => XS.aloadN X.here hx rfl hd hl hv q) k
theorem g_iloadN (X : Stand p l e R s m args below meth c T locs cells slots) (hx : p.tables.exec = Jvm.exec) {k : Fin 4} {v : Int32} (hd : decode c.code pc = .ok (.iload_n k, 1)) (hp : pc + 1 = pc') (hl : Ls[k.val]? = some (.val (.int v))) (k : Go p e below G (T.setTop (mkF m pc' Ls (.int v :: st)))) : Go p e below G (T.setTop (mkF m pc Ls (st))) := by
  subst hp
  exact Go.to (fun t q => XS.iloadN X.here hx rfl hd hl q) k
theorem g_lloadN (X : Stand p l e R s m args below meth c T locs cells slots) (hx : p.tables.exec = Jvm.exec) {k : Fin 4} {v : Int64} (hd : decode c.code pc = .ok (.lload_n k, 1)) (hp : pc + 1 = pc') (hl : Ls[k.val]? = some (.val (.long v))) (k : Go p e below G (T.setTop (mkF m pc' Ls (.long v :: st)))) : Go p e below G (T.setTop (mkF m pc Ls (st))) := by
  subst hp
  exact Go.to (fun t q => XT.lloadN X.here hx rfl hd hl q) k
theorem g_istoreN (X : Stand p l e R s m args below meth c T locs cells slots) (hx : p.tables.exec = Jvm.exec) {k : Fin 4} {x : Int32} (hd : decode c.code pc = .ok (.istore_n k, 1)) (hp : pc + 1 = pc') (hl : storeLocals Ls k.val (.int x) = some Ls') (k : Go p e below G (T.setTop (mkF m pc' Ls' (st)))) : Go p e below G (T.setTop (mkF m pc Ls (.int x :: st))) := by
  subst hp
  exact Go.to (fun t q => XS.istoreN X.here hx rfl hd rfl hl q) k
theorem g_lstoreN (X : Stand p l e R s m args below meth c T locs cells slots) (hx : p.tables.exec = Jvm.exec) {k : Fin 4} {x : Int64} (hd : decode c.code pc = .ok (.lstore_n k, 1)) (hp : pc + 1 = pc') (hl : storeLocals Ls k.val (.long x) = some Ls') (k : Go p e below G (T.setTop (mkF m pc' Ls' (st)))) : Go p e below G (T.setTop (mkF m pc Ls (.long x :: st))) := by
  subst hp
  exact Go.to (fun t q => XT.lstoreN X.here hx rfl hd rfl hl q) k
theorem g_astoreN (X : Stand p l e R s m args below meth c T locs cells slots) (hx : p.tables.exec = Jvm.exec) {k : Fin 4} {x : Value} (hd : decode c.code pc = .ok (.astore_n k, 1)) (hp : pc + 1 = pc') (hv : x.isRef = true) (hl : storeLocals Ls k.val x = some Ls') (k : Go p e below G (T.setTop (mkF m pc' Ls' (st)))) : Go p e below G (T.setTop (mkF m pc Ls (x :: st))) := by
  subst hp
  exact Go.to (fun t q => XS.astoreN X.here hx rfl hd rfl hv hl q) k
theorem g_aload (X : Stand p l e R s m args below meth c T locs cells slots) (hx : p.tables.exec = Jvm.exec) {k : Nat} {v : Value} (hd : decode c.code pc = .ok (.aload k, 2)) (hp : pc + 2 = pc') (hl : Ls[k]? = some (.val v)) (hv : v.isRef = true) (k : Go p e below G (T.setTop (mkF m pc' Ls (v :: st)))) : Go p e below G (T.setTop (mkF m pc Ls (st))) := by
  subst hp
  exact Go.to (fun t q => XS.aload X.here hx rfl hd hl hv q) k
theorem g_iload (X : Stand p l e R s m args below meth c T locs cells slots) (hx : p.tables.exec = Jvm.exec) {k : Nat} {v : Int32} (hd : decode c.code pc = .ok (.iload k, 2)) (hp : pc + 2 = pc') (hl : Ls[k]? = some (.val (.int v))) (k : Go p e below G (T.setTop (mkF m pc' Ls (.int v :: st)))) : Go p e below G (T.setTop (mkF m pc Ls (st))) := by
  subst hp
  exact Go.to (fun t q => XS.iload X.here hx rfl hd hl q) k
theorem g_lload (X : Stand p l e R s m args below meth c T locs cells slots) (hx : p.tables.exec = Jvm.exec) {k : Nat} {v : Int64} (hd : decode c.code pc = .ok (.lload k, 2)) (hp : pc + 2 = pc') (hl : Ls[k]? = some (.val (.long v))) (k : Go p e below G (T.setTop (mkF m pc' Ls (.long v :: st)))) : Go p e below G (T.setTop (mkF m pc Ls (st))) := by
  subst hp
  exact Go.to (fun t q => XT.lload X.here hx rfl hd hl q) k
theorem g_istore (X : Stand p l e R s m args below meth c T locs cells slots) (hx : p.tables.exec = Jvm.exec) {k : Nat} {x : Int32} (hd : decode c.code pc = .ok (.istore k, 2)) (hp : pc + 2 = pc') (hl : storeLocals Ls k (.int x) = some Ls') (k : Go p e below G (T.setTop (mkF m pc' Ls' (st)))) : Go p e below G (T.setTop (mkF m pc Ls (.int x :: st))) := by
  subst hp
  exact Go.to (fun t q => XS.istore X.here hx rfl hd rfl hl q) k
theorem g_lstore (X : Stand p l e R s m args below meth c T locs cells slots) (hx : p.tables.exec = Jvm.exec) {k : Nat} {x : Int64} (hd : decode c.code pc = .ok (.lstore k, 2)) (hp : pc + 2 = pc') (hl : storeLocals Ls k (.long x) = some Ls') (k : Go p e below G (T.setTop (mkF m pc' Ls' (st)))) : Go p e below G (T.setTop (mkF m pc Ls (.long x :: st))) := by
  subst hp
  exact Go.to (fun t q => XT.lstore X.here hx rfl hd rfl hl q) k
theorem g_astore (X : Stand p l e R s m args below meth c T locs cells slots) (hx : p.tables.exec = Jvm.exec) {k : Nat} {x : Value} (hd : decode c.code pc = .ok (.astore k, 2)) (hp : pc + 2 = pc') (hv : x.isRef = true) (hl : storeLocals Ls k x = some Ls') (k : Go p e below G (T.setTop (mkF m pc' Ls' (st)))) : Go p e below G (T.setTop (mkF m pc Ls (x :: st))) := by
  subst hp
  exact Go.to (fun t q => XS.astore X.here hx rfl hd rfl hv hl q) k
theorem g_iconst (X : Stand p l e R s m args below meth c T locs cells slots) (hx : p.tables.exec = Jvm.exec) {i : Int} {z : Int32} (hd : decode c.code pc = .ok (.iconst i, 1)) (hp : pc + 1 = pc') (hz : Int32.ofInt i = z) (k : Go p e below G (T.setTop (mkF m pc' Ls (.int z :: st)))) : Go p e below G (T.setTop (mkF m pc Ls (st))) := by
  subst hp hz
  exact Go.to (fun t q => XS.iconst X.here hx rfl hd  q) k
theorem g_bipush (X : Stand p l e R s m args below meth c T locs cells slots) (hx : p.tables.exec = Jvm.exec) {i : Int} {z : Int32} (hd : decode c.code pc = .ok (.bipush i, 2)) (hp : pc + 2 = pc') (hz : (Int8.ofInt i).toInt32 = z) (k : Go p e below G (T.setTop (mkF m pc' Ls (.int z :: st)))) : Go p e below G (T.setTop (mkF m pc Ls (st))) := by
  subst hp hz
  exact Go.to (fun t q => XS.bipush X.here hx rfl hd  q) k
theorem g_sipush (X : Stand p l e R s m args below meth c T locs cells slots) (hx : p.tables.exec = Jvm.exec) {i : Int} {z : Int32} (hd : decode c.code pc = .ok (.sipush i, 3)) (hp : pc + 3 = pc') (hz : (Int16.ofInt i).toInt32 = z) (k : Go p e below G (T.setTop (mkF m pc' Ls (.int z :: st)))) : Go p e below G (T.setTop (mkF m pc Ls (st))) := by
  subst hp hz
  exact Go.to (fun t q => XS.sipush X.here hx rfl hd  q) k
theorem g_lconst (X : Stand p l e R s m args below meth c T locs cells slots) (hx : p.tables.exec = Jvm.exec) {i : Fin 2} {z : Int64} (hd : decode c.code pc = .ok (.lconst i, 1)) (hp : pc + 1 = pc') (hz : Int64.ofNat i = z) (k : Go p e below G (T.setTop (mkF m pc' Ls (.long z :: st)))) : Go p e below G (T.setTop (mkF m pc Ls (st))) := by
  subst hp hz
  exact Go.to (fun t q => XT.lconst X.here hx rfl hd  q) k
theorem g_aconstNull (X : Stand p l e R s m args below meth c T locs cells slots) (hx : p.tables.exec = Jvm.exec)  (hd : decode c.code pc = .ok (.aconst_null, 1)) (hp : pc + 1 = pc')  (k : Go p e below G (T.setTop (mkF m pc' Ls (.null :: st)))) : Go p e below G (T.setTop (mkF m pc Ls (st))) := by
  subst hp
  exact Go.to (fun t q => XS.aconstNull X.here hx rfl hd  q) k
theorem g_iadd (X : Stand p l e R s m args below meth c T locs cells slots) (hx : p.tables.exec = Jvm.exec) {x y z : Int32} (hd : decode c.code pc = .ok (.iadd, 1)) (hp : pc + 1 = pc') (hz : x + y = z) (k : Go p e below G (T.setTop (mkF m pc' Ls (.int z :: st)))) : Go p e below G (T.setTop (mkF m pc Ls (.int y :: .int x :: st))) := by
  subst hp hz
  exact Go.to (fun t q => XS.iadd X.here hx rfl hd rfl q) k
theorem g_isub (X : Stand p l e R s m args below meth c T locs cells slots) (hx : p.tables.exec = Jvm.exec) {x y z : Int32} (hd : decode c.code pc = .ok (.isub, 1)) (hp : pc + 1 = pc') (hz : x - y = z) (k : Go p e below G (T.setTop (mkF m pc' Ls (.int z :: st)))) : Go p e below G (T.setTop (mkF m pc Ls (.int y :: .int x :: st))) := by
  subst hp hz
  exact Go.to (fun t q => XS.isub X.here hx rfl hd rfl q) k
theorem g_iand (X : Stand p l e R s m args below meth c T locs cells slots) (hx : p.tables.exec = Jvm.exec) {x y z : Int32} (hd : decode c.code pc = .ok (.iand, 1)) (hp : pc + 1 = pc') (hz : x &&& y = z) (k : Go p e below G (T.setTop (mkF m pc' Ls (.int z :: st)))) : Go p e below G (T.setTop (mkF m pc Ls (.int y :: .int x :: st))) := by
  subst hp hz
  exact Go.to (fun t q => XS.iand X.here hx rfl hd rfl q) k
theorem g_imul (X : Stand p l e R s m args below meth c T locs cells slots) (hx : p.tables.exec = Jvm.exec) {x y z : Int32} (hd : decode c.code pc = .ok (.imul, 1)) (hp : pc + 1 = pc') (hz : x * y = z) (k : Go p e below G (T.setTop (mkF m pc' Ls (.int z :: st)))) : Go p e below G (T.setTop (mkF m pc Ls (.int y :: .int x :: st))) := by
  subst hp hz
  exact Go.to (fun t q => XS.imul X.here hx rfl hd rfl q) k
theorem g_ixor (X : Stand p l e R s m args below meth c T locs cells slots) (hx : p.tables.exec = Jvm.exec) {x y z : Int32} (hd : decode c.code pc = .ok (.ixor, 1)) (hp : pc + 1 = pc') (hz : x ^^^ y = z) (k : Go p e below G (T.setTop (mkF m pc' Ls (.int z :: st)))) : Go p e below G (T.setTop (mkF m pc Ls (.int y :: .int x :: st))) := by
  subst hp hz
  exact Go.to (fun t q => XT.ixor X.here hx rfl hd rfl q) k
theorem g_ior (X : Stand p l e R s m args below meth c T locs cells slots) (hx : p.tables.exec = Jvm.exec) {x y z : Int32} (hd : decode c.code pc = .ok (.ior, 1)) (hp : pc + 1 = pc') (hz : x ||| y = z) (k : Go p e below G (T.setTop (mkF m pc' Ls (.int z :: st)))) : Go p e below G (T.setTop (mkF m pc Ls (.int y :: .int x :: st))) := by
  subst hp hz
  exact Go.to (fun t q => XT.ior X.here hx rfl hd rfl q) k
theorem g_ishl (X : Stand p l e R s m args below meth c T locs cells slots) (hx : p.tables.exec = Jvm.exec) {x y z : Int32} (hd : decode c.code pc = .ok (.ishl, 1)) (hp : pc + 1 = pc') (hz : x <<< (y &&& 31) = z) (k : Go p e below G (T.setTop (mkF m pc' Ls (.int z :: st)))) : Go p e below G (T.setTop (mkF m pc Ls (.int y :: .int x :: st))) := by
  subst hp hz
  exact Go.to (fun t q => XT.ishl X.here hx rfl hd rfl q) k
theorem g_ishr (X : Stand p l e R s m args below meth c T locs cells slots) (hx : p.tables.exec = Jvm.exec) {x y z : Int32} (hd : decode c.code pc = .ok (.ishr, 1)) (hp : pc + 1 = pc') (hz : x >>> (y &&& 31) = z) (k : Go p e below G (T.setTop (mkF m pc' Ls (.int z :: st)))) : Go p e below G (T.setTop (mkF m pc Ls (.int y :: .int x :: st))) := by
  subst hp hz
  exact Go.to (fun t q => XT.ishr X.here hx rfl hd rfl q) k
theorem g_iushr (X : Stand p l e R s m args below meth c T locs cells slots) (hx : p.tables.exec = Jvm.exec) {x y z : Int32} (hd : decode c.code pc = .ok (.iushr, 1)) (hp : pc + 1 = pc') (hz : XT.ushr x y = z) (k : Go p e below G (T.setTop (mkF m pc' Ls (.int z :: st)))) : Go p e below G (T.setTop (mkF m pc Ls (.int y :: .int x :: st))) := by
  subst hp hz
  exact Go.to (fun t q => XT.iushr X.here hx rfl hd rfl q) k
theorem g_irem (X : Stand p l e R s m args below meth c T locs cells slots) (hx : p.tables.exec = Jvm.exec) {x y z : Int32} (hd : decode c.code pc = .ok (.irem, 1)) (hp : pc + 1 = pc') (hy : y ≠ 0) (hz : x - (x / y) * y = z) (k : Go p e below G (T.setTop (mkF m pc' Ls (.int z :: st)))) : Go p e below G (T.setTop (mkF m pc Ls (.int y :: .int x :: st))) := by
  subst hp hz
  exact Go.to (fun t q => XS.irem X.here hx rfl hd rfl hy q) k
theorem g_idiv (X : Stand p l e R s m args below meth c T locs cells slots) (hx : p.tables.exec = Jvm.exec) {x y z : Int32} (hd : decode c.code pc = .ok (.idiv, 1)) (hp : pc + 1 = pc') (hy : y ≠ 0) (hz : x / y = z) (k : Go p e below G (T.setTop (mkF m pc' Ls (.int z :: st)))) : Go p e below G (T.setTop (mkF m pc Ls (.int y :: .int x :: st))) := by
  subst hp hz
  exact Go.to (fun t q => XS.idiv X.here hx rfl hd rfl hy q) k
theorem g_ladd (X : Stand p l e R s m args below meth c T locs cells slots) (hx : p.tables.exec = Jvm.exec) {x y z : Int64} (hd : decode c.code pc = .ok (.ladd, 1)) (hp : pc + 1 = pc') (hz : x + y = z) (k : Go p e below G (T.setTop (mkF m pc' Ls (.long z :: st)))) : Go p e below G (T.setTop (mkF m pc Ls (.long y :: .long x :: st))) := by
  subst hp hz
  exact Go.to (fun t q => XT.ladd X.here hx rfl hd rfl q) k
theorem g_lsub (X : Stand p l e R s m args below meth c T locs cells slots) (hx : p.tables.exec = Jvm.exec) {x y z : Int64} (hd : decode c.code pc = .ok (.lsub, 1)) (hp : pc + 1 = pc') (hz : x - y = z) (k : Go p e below G (T.setTop (mkF m pc' Ls (.long z :: st)))) : Go p e below G (T.setTop (mkF m pc Ls (.long y :: .long x :: st))) := by
  subst hp hz
  exact Go.to (fun t q => XT.lsub X.here hx rfl hd rfl q) k
theorem g_land (X : Stand p l e R s m args below meth c T locs cells slots) (hx : p.tables.exec = Jvm.exec) {x y z : Int64} (hd : decode c.code pc = .ok (.land, 1)) (hp : pc + 1 = pc') (hz : x &&& y = z) (k : Go p e below G (T.setTop (mkF m pc' Ls (.long z :: st)))) : Go p e below G (T.setTop (mkF m pc Ls (.long y :: .long x :: st))) := by
  subst hp hz
  exact Go.to (fun t q => XT.land X.here hx rfl hd rfl q) k
theorem g_lor (X : Stand p l e R s m args below meth c T locs cells slots) (hx : p.tables.exec = Jvm.exec) {x y z : Int64} (hd : decode c.code pc = .ok (.lor, 1)) (hp : pc + 1 = pc') (hz : x ||| y = z) (k : Go p e below G (T.setTop (mkF m pc' Ls (.long z :: st)))) : Go p e below G (T.setTop (mkF m pc Ls (.long y :: .long x :: st))) := by
  subst hp hz
  exact Go.to (fun t q => XT.lor X.here hx rfl hd rfl q) k
theorem g_lxor (X : Stand p l e R s m args below meth c T locs cells slots) (hx : p.tables.exec = Jvm.exec) {x y z : Int64} (hd : decode c.code pc = .ok (.lxor, 1)) (hp : pc + 1 = pc') (hz : x ^^^ y = z) (k : Go p e below G (T.setTop (mkF m pc' Ls (.long z :: st)))) : Go p e below G (T.setTop (mkF m pc Ls (.long y :: .long x :: st))) := by
  subst hp hz
  exact Go.to (fun t q => XT.lxor X.here hx rfl hd rfl q) k
theorem g_lmul (X : Stand p l e R s m args below meth c T locs cells slots) (hx : p.tables.exec = Jvm.exec) {x y z : Int64} (hd : decode c.code pc = .ok (.lmul, 1)) (hp : pc + 1 = pc') (hz : x * y = z) (k : Go p e below G (T.setTop (mkF m pc' Ls (.long z :: st)))) : Go p e below G (T.setTop (mkF m pc Ls (.long y :: .long x :: st))) := by
  subst hp hz
  exact Go.to (fun t q => XT.lmul X.here hx rfl hd rfl q) k
theorem g_lshl (X : Stand p l e R s m args below meth c T locs cells slots) (hx : p.tables.exec = Jvm.exec) {x z : Int64} {y : Int32} (hd : decode c.code pc = .ok (.lshl, 1)) (hp : pc + 1 = pc') (hz : x <<< (y.toInt64 &&& 63) = z) (k : Go p e below G (T.setTop (mkF m pc' Ls (.long z :: st)))) : Go p e below G (T.setTop (mkF m pc Ls (.int y :: .long x :: st))) := by
  subst hp hz
  exact Go.to (fun t q => XT.lshl X.here hx rfl hd rfl q) k
theorem g_lushr (X : Stand p l e R s m args below meth c T locs cells slots) (hx : p.tables.exec = Jvm.exec) {x z : Int64} {y : Int32} (hd : decode c.code pc = .ok (.lushr, 1)) (hp : pc + 1 = pc') (hz : XT.ushrL x y = z) (k : Go p e below G (T.setTop (mkF m pc' Ls (.long z :: st)))) : Go p e below G (T.setTop (mkF m pc Ls (.int y :: .long x :: st))) := by
  subst hp hz
  exact Go.to (fun t q => XT.lushr X.here hx rfl hd rfl q) k
theorem g_l2i (X : Stand p l e R s m args below meth c T locs cells slots) (hx : p.tables.exec = Jvm.exec) {x : Int64} {z : Int32} (hd : decode c.code pc = .ok (.l2i, 1)) (hp : pc + 1 = pc') (hz : x.toInt32 = z) (k : Go p e below G (T.setTop (mkF m pc' Ls (.int z :: st)))) : Go p e below G (T.setTop (mkF m pc Ls (.long x :: st))) := by
  subst hp hz
  exact Go.to (fun t q => XT.l2i X.here hx rfl hd rfl q) k
theorem g_i2l (X : Stand p l e R s m args below meth c T locs cells slots) (hx : p.tables.exec = Jvm.exec) {x : Int32} {z : Int64} (hd : decode c.code pc = .ok (.i2l, 1)) (hp : pc + 1 = pc') (hz : x.toInt64 = z) (k : Go p e below G (T.setTop (mkF m pc' Ls (.long z :: st)))) : Go p e below G (T.setTop (mkF m pc Ls (.int x :: st))) := by
  subst hp hz
  exact Go.to (fun t q => XT.i2l X.here hx rfl hd rfl q) k
theorem g_i2b (X : Stand p l e R s m args below meth c T locs cells slots) (hx : p.tables.exec = Jvm.exec) {x z : Int32} (hd : decode c.code pc = .ok (.i2b, 1)) (hp : pc + 1 = pc') (hz : x.toInt8.toInt32 = z) (k : Go p e below G (T.setTop (mkF m pc' Ls (.int z :: st)))) : Go p e below G (T.setTop (mkF m pc Ls (.int x :: st))) := by
  subst hp hz
  exact Go.to (fun t q => XT.i2b X.here hx rfl hd rfl q) k
theorem g_lcmp (X : Stand p l e R s m args below meth c T locs cells slots) (hx : p.tables.exec = Jvm.exec) {x y : Int64} {z : Int32} (hd : decode c.code pc = .ok (.lcmp, 1)) (hp : pc + 1 = pc') (hz : XT.cmpL x y = z) (k : Go p e below G (T.setTop (mkF m pc' Ls (.int z :: st)))) : Go p e below G (T.setTop (mkF m pc Ls (.long y :: .long x :: st))) := by
  subst hp hz
  exact Go.to (fun t q => XT.lcmp X.here hx rfl hd rfl q) k
theorem g_dup (X : Stand p l e R s m args below meth c T locs cells slots) (hx : p.tables.exec = Jvm.exec) {x : Value} (hd : decode c.code pc = .ok (.dup, 1)) (hp : pc + 1 = pc') (hc : x.category = 1) (k : Go p e below G (T.setTop (mkF m pc' Ls (x :: x :: st)))) : Go p e below G (T.setTop (mkF m pc Ls (x :: st))) := by
  subst hp
  exact Go.to (fun t q => XS.dup X.here hx rfl hd rfl hc q) k
theorem g_dupX1 (X : Stand p l e R s m args below meth c T locs cells slots) (hx : p.tables.exec = Jvm.exec) {x y : Value} (hd : decode c.code pc = .ok (.dup_x1, 1)) (hp : pc + 1 = pc') (hc : x.category = 1) (hc' : y.category = 1) (k : Go p e below G (T.setTop (mkF m pc' Ls (x :: y :: x :: st)))) : Go p e below G (T.setTop (mkF m pc Ls (x :: y :: st))) := by
  subst hp
  exact Go.to (fun t q => XT.dupX1 X.here hx rfl hd rfl hc hc' q) k
theorem g_pop (X : Stand p l e R s m args below meth c T locs cells slots) (hx : p.tables.exec = Jvm.exec) {x : Value} (hd : decode c.code pc = .ok (.pop, 1)) (hp : pc + 1 = pc') (hc : x.category = 1) (k : Go p e below G (T.setTop (mkF m pc' Ls (st)))) : Go p e below G (T.setTop (mkF m pc Ls (x :: st))) := by
  subst hp
  exact Go.to (fun t q => XT.pop X.here hx rfl hd rfl hc q) k
theorem g_iinc (X : Stand p l e R s m args below meth c T locs cells slots) (hx : p.tables.exec = Jvm.exec) {i : Nat} {cst : Int} {x z : Int32} (hd : decode c.code pc = .ok (.iinc i cst, 3)) (hp : pc + 3 = pc') (hl : Ls[i]? = some (.val (.int x))) (hz : x + Int32.ofInt cst = z) (hl' : storeLocals Ls i (.int z) = some Ls') (k : Go p e below G (T.setTop (mkF m pc' Ls' (st)))) : Go p e below G (T.setTop (mkF m pc Ls (st))) := by
  subst hp hz
  exact Go.to (fun t q => XS.iinc X.here hx rfl hd hl hl' q) k
theorem g_goto (X : Stand p l e R s m args below meth c T locs cells slots) (hx : p.tables.exec = Jvm.exec) {o : Int} (hd : decode c.code pc = .ok (.goto o, 3)) (ho : 0 ≤ (pc : Int) + o) (hp : ((pc : Int) + o).toNat = pc') (k : Go p e below G (T.setTop (mkF m pc' Ls st))) : Go p e below G (T.setTop (mkF m pc Ls st)) :=
  Go.to (fun t q => XS.goto X.here hx rfl (pc0 := pc) (pc' := pc') rfl hd ho hp q) k
theorem g_icmpB (X : Stand p l e R s m args below meth c T locs cells slots) (hx : p.tables.exec = Jvm.exec) {cd : ClassFile.Cond} {x y : Int32} {o : Int} {pcF : Nat} (hd : decode c.code pc = .ok (.if_icmp cd o, 3)) (ho : 0 ≤ (pc : Int) + o) (hp : ((pc : Int) + o).toNat = pc') (hq : pc + 3 = pcF) (kT : if_icmp.holds cd x y = true → Go p e below G (T.setTop (mkF m pc' Ls st))) (kF : if_icmp.holds cd x y = false → Go p e below G (T.setTop (mkF m pcF Ls st))) : Go p e below G (T.setTop (mkF m pc Ls (.int y :: .int x :: st))) := by
  cases q : if_icmp.holds cd x y
  · subst hq; exact Go.to (fun t r => XS.icmpNo X.here hx rfl hd rfl q r) (kF q)
  · exact Go.to (fun t r => XS.icmpYes X.here hx rfl (pc0 := pc) (pc' := pc') rfl hd rfl q ho hp r) (kT q)
theorem g_icmp_eq (X : Stand p l e R s m args below meth c T locs cells slots) (hx : p.tables.exec = Jvm.exec) {x y : Int32} {o : Int} {pcF : Nat} (hd : decode c.code pc = .ok (.if_icmp .eq o, 3)) (ho : 0 ≤ (pc : Int) + o) (hp : ((pc : Int) + o).toNat = pc') (hq : pc + 3 = pcF) (kT : x = y → Go p e below G (T.setTop (mkF m pc' Ls st))) (kF : ¬ x = y → Go p e below G (T.setTop (mkF m pcF Ls st))) : Go p e below G (T.setTop (mkF m pc Ls (.int y :: .int x :: st))) :=
  g_icmpB X hx hd ho hp hq (fun q => kT (by by_cases r : x = y <;> first | exact r | (rw [(teq r).1] at q; cases q) | (rw [(feq r).1] at q; cases q))) (fun q => kF (by by_cases r : x = y <;> first | exact r | (rw [(teq r).1] at q; cases q) | (rw [(feq r).1] at q; cases q)))
theorem g_icmp_ne (X : Stand p l e R s m args below meth c T locs cells slots) (hx : p.tables.exec = Jvm.exec) {x y : Int32} {o : Int} {pcF : Nat} (hd : decode c.code pc = .ok (.if_icmp .ne o, 3)) (ho : 0 ≤ (pc : Int) + o) (hp : ((pc : Int) + o).toNat = pc') (hq : pc + 3 = pcF) (kT : ¬ x = y → Go p e below G (T.setTop (mkF m pc' Ls st))) (kF : x = y → Go p e below G (T.setTop (mkF m pcF Ls st))) : Go p e below G (T.setTop (mkF m pc Ls (.int y :: .int x :: st))) :=
  g_icmpB X hx hd ho hp hq (fun q => kT (by by_cases r : x = y <;> first | exact r | (rw [(teq r).2] at q; cases q) | (rw [(feq r).2] at q; cases q))) (fun q => kF (by by_cases r : x = y <;> first | exact r | (rw [(teq r).2] at q; cases q) | (rw [(feq r).2] at q; cases q)))
theorem g_icmp_lt (X : Stand p l e R s m args below meth c T locs cells slots) (hx : p.tables.exec = Jvm.exec) {x y : Int32} {o : Int} {pcF : Nat} (hd : decode c.code pc = .ok (.if_icmp .lt o, 3)) (ho : 0 ≤ (pc : Int) + o) (hp : ((pc : Int) + o).toNat = pc') (hq : pc + 3 = pcF) (kT : x < y → Go p e below G (T.setTop (mkF m pc' Ls st))) (kF : ¬ x < y → Go p e below G (T.setTop (mkF m pcF Ls st))) : Go p e below G (T.setTop (mkF m pc Ls (.int y :: .int x :: st))) :=
  g_icmpB X hx hd ho hp hq (fun q => kT (by by_cases r : x < y <;> first | exact r | (rw [(tlt r).1] at q; cases q) | (rw [(flt r).1] at q; cases q))) (fun q => kF (by by_cases r : x < y <;> first | exact r | (rw [(tlt r).1] at q; cases q) | (rw [(flt r).1] at q; cases q)))
theorem g_icmp_ge (X : Stand p l e R s m args below meth c T locs cells slots) (hx : p.tables.exec = Jvm.exec) {x y : Int32} {o : Int} {pcF : Nat} (hd : decode c.code pc = .ok (.if_icmp .ge o, 3)) (ho : 0 ≤ (pc : Int) + o) (hp : ((pc : Int) + o).toNat = pc') (hq : pc + 3 = pcF) (kT : ¬ x < y → Go p e below G (T.setTop (mkF m pc' Ls st))) (kF : x < y → Go p e below G (T.setTop (mkF m pcF Ls st))) : Go p e below G (T.setTop (mkF m pc Ls (.int y :: .int x :: st))) :=
  g_icmpB X hx hd ho hp hq (fun q => kT (by by_cases r : x < y <;> first | exact r | (rw [(tlt r).2.1] at q; cases q) | (rw [(flt r).2.1] at q; cases q))) (fun q => kF (by by_cases r : x < y <;> first | exact r | (rw [(tlt r).2.1] at q; cases q) | (rw [(flt r).2.1] at q; cases q)))
theorem g_icmp_gt (X : Stand p l e R s m args below meth c T locs cells slots) (hx : p.tables.exec = Jvm.exec) {x y : Int32} {o : Int} {pcF : Nat} (hd : decode c.code pc = .ok (.if_icmp .gt o, 3)) (ho : 0 ≤ (pc : Int) + o) (hp : ((pc : Int) + o).toNat = pc') (hq : pc + 3 = pcF) (kT : y < x → Go p e below G (T.setTop (mkF m pc' Ls st))) (kF : ¬ y < x → Go p e below G (T.setTop (mkF m pcF Ls st))) : Go p e below G (T.setTop (mkF m pc Ls (.int y :: .int x :: st))) :=
  g_icmpB X hx hd ho hp hq (fun q => kT (by by_cases r : y < x <;> first | exact r | (rw [(tlt r).2.2.1] at q; cases q) | (rw [(flt r).2.2.1] at q; cases q))) (fun q => kF (by by_cases r : y < x <;> first | exact r | (rw [(tlt r).2.2.1] at q; cases q) | (rw [(flt r).2.2.1] at q; cases q)))
theorem g_icmp_le (X : Stand p l e R s m args below meth c T locs cells slots) (hx : p.tables.exec = Jvm.exec) {x y : Int32} {o : Int} {pcF : Nat} (hd : decode c.code pc = .ok (.if_icmp .le o, 3)) (ho : 0 ≤ (pc : Int) + o) (hp : ((pc : Int) + o).toNat = pc') (hq : pc + 3 = pcF) (kT : ¬ y < x → Go p e below G (T.setTop (mkF m pc' Ls st))) (kF : y < x → Go p e below G (T.setTop (mkF m pcF Ls st))) : Go p e below G (T.setTop (mkF m pc Ls (.int y :: .int x :: st))) :=
  g_icmpB X hx hd ho hp hq (fun q => kT (by by_cases r : y < x <;> first | exact r | (rw [(tlt r).2.2.2] at q; cases q) | (rw [(flt r).2.2.2] at q; cases q))) (fun q => kF (by by_cases r : y < x <;> first | exact r | (rw [(tlt r).2.2.2] at q; cases q) | (rw [(flt r).2.2.2] at q; cases q)))
theorem g_ifB (X : Stand p l e R s m args below meth c T locs cells slots) (hx : p.tables.exec = Jvm.exec) {cd : ClassFile.Cond} {x : Int32} {o : Int} {pcF : Nat} (hd : decode c.code pc = .ok (.ifCond cd o, 3)) (ho : 0 ≤ (pc : Int) + o) (hp : ((pc : Int) + o).toNat = pc') (hq : pc + 3 = pcF) (kT : ifCond.holds cd x = true → Go p e below G (T.setTop (mkF m pc' Ls st))) (kF : ifCond.holds cd x = false → Go p e below G (T.setTop (mkF m pcF Ls st))) : Go p e below G (T.setTop (mkF m pc Ls (.int x :: st))) := by
  cases q : ifCond.holds cd x
  · subst hq; exact Go.to (fun t r => XS.ifNo X.here hx rfl hd rfl q r) (kF q)
  · exact Go.to (fun t r => XS.ifYes X.here hx rfl (pc0 := pc) (pc' := pc') rfl hd rfl q ho hp r) (kT q)
theorem g_if_eq (X : Stand p l e R s m args below meth c T locs cells slots) (hx : p.tables.exec = Jvm.exec) {x : Int32} {o : Int} {pcF : Nat} (hd : decode c.code pc = .ok (.ifCond .eq o, 3)) (ho : 0 ≤ (pc : Int) + o) (hp : ((pc : Int) + o).toNat = pc') (hq : pc + 3 = pcF) (kT : x = 0 → Go p e below G (T.setTop (mkF m pc' Ls st))) (kF : ¬ x = 0 → Go p e below G (T.setTop (mkF m pcF Ls st))) : Go p e below G (T.setTop (mkF m pc Ls (.int x :: st))) :=
  g_ifB X hx hd ho hp hq (fun q => kT (by rw [if0] at q; by_cases r : x = 0 <;> first | exact r | (rw [(teq r).1] at q; cases q) | (rw [(feq r).1] at q; cases q))) (fun q => kF (by rw [if0] at q; by_cases r : x = 0 <;> first | exact r | (rw [(teq r).1] at q; cases q) | (rw [(feq r).1] at q; cases q)))
theorem g_if_ne (X : Stand p l e R s m args below meth c T locs cells slots) (hx : p.tables.exec = Jvm.exec) {x : Int32} {o : Int} {pcF : Nat} (hd : decode c.code pc = .ok (.ifCond .ne o, 3)) (ho : 0 ≤ (pc : Int) + o) (hp : ((pc : Int) + o).toNat = pc') (hq : pc + 3 = pcF) (kT : ¬ x = 0 → Go p e below G (T.setTop (mkF m pc' Ls st))) (kF : x = 0 → Go p e below G (T.setTop (mkF m pcF Ls st))) : Go p e below G (T.setTop (mkF m pc Ls (.int x :: st))) :=
  g_ifB X hx hd ho hp hq (fun q => kT (by rw [if0] at q; by_cases r : x = 0 <;> first | exact r | (rw [(teq r).2] at q; cases q) | (rw [(feq r).2] at q; cases q))) (fun q => kF (by rw [if0] at q; by_cases r : x = 0 <;> first | exact r | (rw [(teq r).2] at q; cases q) | (rw [(feq r).2] at q; cases q)))
theorem g_if_lt (X : Stand p l e R s m args below meth c T locs cells slots) (hx : p.tables.exec = Jvm.exec) {x : Int32} {o : Int} {pcF : Nat} (hd : decode c.code pc = .ok (.ifCond .lt o, 3)) (ho : 0 ≤ (pc : Int) + o) (hp : ((pc : Int) + o).toNat = pc') (hq : pc + 3 = pcF) (kT : x < 0 → Go p e below G (T.setTop (mkF m pc' Ls st))) (kF : ¬ x < 0 → Go p e below G (T.setTop (mkF m pcF Ls st))) : Go p e below G (T.setTop (mkF m pc Ls (.int x :: st))) :=
  g_ifB X hx hd ho hp hq (fun q => kT (by rw [if0] at q; by_cases r : x < 0 <;> first | exact r | (rw [(tlt r).1] at q; cases q) | (rw [(flt r).1] at q; cases q))) (fun q => kF (by rw [if0] at q; by_cases r : x < 0 <;> first | exact r | (rw [(tlt r).1] at q; cases q) | (rw [(flt r).1] at q; cases q)))
theorem g_if_ge (X : Stand p l e R s m args below meth c T locs cells slots) (hx : p.tables.exec = Jvm.exec) {x : Int32} {o : Int} {pcF : Nat} (hd : decode c.code pc = .ok (.ifCond .ge o, 3)) (ho : 0 ≤ (pc : Int) + o) (hp : ((pc : Int) + o).toNat = pc') (hq : pc + 3 = pcF) (kT : ¬ x < 0 → Go p e below G (T.setTop (mkF m pc' Ls st))) (kF : x < 0 → Go p e below G (T.setTop (mkF m pcF Ls st))) : Go p e below G (T.setTop (mkF m pc Ls (.int x :: st))) :=
  g_ifB X hx hd ho hp hq (fun q => kT (by rw [if0] at q; by_cases r : x < 0 <;> first | exact r | (rw [(tlt r).2.1] at q; cases q) | (rw [(flt r).2.1] at q; cases q))) (fun q => kF (by rw [if0] at q; by_cases r : x < 0 <;> first | exact r | (rw [(tlt r).2.1] at q; cases q) | (rw [(flt r).2.1] at q; cases q)))
theorem g_if_gt (X : Stand p l e R s m args below meth c T locs cells slots) (hx : p.tables.exec = Jvm.exec) {x : Int32} {o : Int} {pcF : Nat} (hd : decode c.code pc = .ok (.ifCond .gt o, 3)) (ho : 0 ≤ (pc : Int) + o) (hp : ((pc : Int) + o).toNat = pc') (hq : pc + 3 = pcF) (kT : 0 < x → Go p e below G (T.setTop (mkF m pc' Ls st))) (kF : ¬ 0 < x → Go p e below G (T.setTop (mkF m pcF Ls st))) : Go p e below G (T.setTop (mkF m pc Ls (.int x :: st))) :=
  g_ifB X hx hd ho hp hq (fun q => kT (by rw [if0] at q; by_cases r : 0 < x <;> first | exact r | (rw [(tlt r).2.2.1] at q; cases q) | (rw [(flt r).2.2.1] at q; cases q))) (fun q => kF (by rw [if0] at q; by_cases r : 0 < x <;> first | exact r | (rw [(tlt r).2.2.1] at q; cases q) | (rw [(flt r).2.2.1] at q; cases q)))
theorem g_if_le (X : Stand p l e R s m args below meth c T locs cells slots) (hx : p.tables.exec = Jvm.exec) {x : Int32} {o : Int} {pcF : Nat} (hd : decode c.code pc = .ok (.ifCond .le o, 3)) (ho : 0 ≤ (pc : Int) + o) (hp : ((pc : Int) + o).toNat = pc') (hq : pc + 3 = pcF) (kT : ¬ 0 < x → Go p e below G (T.setTop (mkF m pc' Ls st))) (kF : 0 < x → Go p e below G (T.setTop (mkF m pcF Ls st))) : Go p e below G (T.setTop (mkF m pc Ls (.int x :: st))) :=
  g_ifB X hx hd ho hp hq (fun q => kT (by rw [if0] at q; by_cases r : 0 < x <;> first | exact r | (rw [(tlt r).2.2.2] at q; cases q) | (rw [(flt r).2.2.2] at q; cases q))) (fun q => kF (by rw [if0] at q; by_cases r : 0 < x <;> first | exact r | (rw [(tlt r).2.2.2] at q; cases q) | (rw [(flt r).2.2.2] at q; cases q)))
theorem g_acmp (X : Stand p l e R s m args below meth c T locs cells slots) (hx : p.tables.exec = Jvm.exec) {cd : ClassFile.ACond} {x y : Value} {o : Int} {pcF : Nat} (P : Prop) [Decidable P] (hd : decode c.code pc = .ok (.if_acmp cd o, 3)) (hxr : x.isRef = true) (hyr : y.isRef = true) (hP : XT.acmp cd x y = decide P) (ho : 0 ≤ (pc : Int) + o) (hp : ((pc : Int) + o).toNat = pc') (hq : pc + 3 = pcF) (kT : P → Go p e below G (T.setTop (mkF m pc' Ls st))) (kF : ¬ P → Go p e below G (T.setTop (mkF m pcF Ls st))) : Go p e below G (T.setTop (mkF m pc Ls (y :: x :: st))) := by
  by_cases q : P
  · exact Go.to (fun t r => XT.acmpYes X.here hx rfl (pc0 := pc) (pc' := pc') rfl hd rfl hxr hyr (hP.trans (decide_eq_true q)) ho hp r) (kT q)
  · subst hq; exact Go.to (fun t r => XT.acmpNo X.here hx rfl hd rfl hxr hyr (hP.trans (decide_eq_false q)) r) (kF q)
theorem g_ifnullN (X : Stand p l e R s m args below meth c T locs cells slots) (hx : p.tables.exec = Jvm.exec) {o : Int} {b : Addr} (hd : decode c.code pc = .ok (.ifnull o, 3)) (hp : pc + 3 = pc') (k : Go p e below G (T.setTop (mkF m pc' Ls st))) : Go p e below G (T.setTop (mkF m pc Ls (.ref b :: st))) := by
  subst hp; exact Go.to (fun t q => XS.ifnullNo X.here hx rfl hd rfl q) k
theorem g_ifnullY (X : Stand p l e R s m args below meth c T locs cells slots) (hx : p.tables.exec = Jvm.exec) {o : Int} (hd : decode c.code pc = .ok (.ifnull o, 3)) (ho : 0 ≤ (pc : Int) + o) (hp : ((pc : Int) + o).toNat = pc') (k : Go p e below G (T.setTop (mkF m pc' Ls st))) : Go p e below G (T.setTop (mkF m pc Ls (.null :: st))) :=
  Go.to (fun t q => XS.ifnullYes X.here hx rfl (pc0 := pc) (pc' := pc') rfl hd rfl ho hp q) k
theorem g_ifnonnullN (X : Stand p l e R s m args below meth c T locs cells slots) (hx : p.tables.exec = Jvm.exec) {o : Int} (hd : decode c.code pc = .ok (.ifnonnull o, 3)) (hp : pc + 3 = pc') (k : Go p e below G (T.setTop (mkF m pc' Ls st))) : Go p e below G (T.setTop (mkF m pc Ls (.null :: st))) := by
  subst hp; exact Go.to (fun t q => XT.ifnonnullNo X.here hx rfl hd rfl q) k
theorem g_ifnonnullY (X : Stand p l e R s m args below meth c T locs cells slots) (hx : p.tables.exec = Jvm.exec) {o : Int} {b : Addr} (hd : decode c.code pc = .ok (.ifnonnull o, 3)) (ho : 0 ≤ (pc : Int) + o) (hp : ((pc : Int) + o).toNat = pc') (k : Go p e below G (T.setTop (mkF m pc' Ls st))) : Go p e below G (T.setTop (mkF m pc Ls (.ref b :: st))) :=
  Go.to (fun t q => XT.ifnonnullYes X.here hx rfl (pc0 := pc) (pc' := pc') rfl hd rfl ho hp q) k
theorem g_ldcI (X : Stand p l e R s m args below meth c T locs cells slots) (hx : p.tables.exec = Jvm.exec) (hZ : Z.Warmed39 s.vm) {own : String} {index : Nat} {v : Int32} (hown : s.vm.findClass own = some m.cls) (w : (Cond.constant own index v).before a0 Z = true) (hd : decode c.code pc = .ok (.ldc index, 2)) (hp : pc + 2 = pc') (k : Go p e below G (T.setTop (mkF m pc' Ls (.int v :: st)))) : Go p e below G (T.setTop (mkF m pc Ls st)) := by
  subst hp; exact Go.to (fun t q => X.ldcInt hx hown (mvT hZ w) (g := mkF m pc Ls st) rfl hd t q) k
theorem g_ldc2L (X : Stand p l e R s m args below meth c T locs cells slots) (hx : p.tables.exec = Jvm.exec) (hZ : Z.Warmed39 s.vm) {own : String} {index : Nat} {v : Int64} (hown : s.vm.findClass own = some m.cls) (w : (Cond.constantLong own index v).before a0 Z = true) (hd : decode c.code pc = .ok (.ldc2_w index, 3)) (hp : pc + 3 = pc') (k : Go p e below G (T.setTop (mkF m pc' Ls (.long v :: st)))) : Go p e below G (T.setTop (mkF m pc Ls st)) := by
  subst hp; exact Go.to (fun t q => X.ldc2Long hx hown (mvT hZ w) (g := mkF m pc Ls st) rfl hd t q) k
theorem g_ret (X : Stand p l e R s m args below meth c T locs cells slots) (hx : p.tables.exec = Jvm.exec) {w : Value} {t : FieldType} {i : Instr} {rest : List Value} {Q : Option Value → Heap → List Loc → Prop} {kc ks : Nat} (hret : meth.sig.returnType = some t) (hlk : meth.locks = false) (hn : narrow t w = w)
    (hi : (i = .ireturn ∧ (t = .int ∨ t = .boolean ∨ t = .byte ∨ t = .char ∨ t = .short) ∧ ∃ z, w = .int z) ∨ (i = .lreturn ∧ t = .long ∧ ∃ z, w = .long z) ∨ (i = .dreturn ∧ t = .double ∧ ∃ z, w = .double z) ∨ (i = .freturn ∧ t = .float ∧ ∃ z, w = .float z) ∨ (i = .areturn ∧ t.isReference = true ∧ w.isRef = true))
    (hd : decode c.code pc = .ok (i, 1)) (hc : cells ≤ kc) (hs : slots ≤ ks) (hq : Q (some w) T.heap locs) : Go p e below (Dn s below Q kc ks) (T.setTop (mkF m pc Ls (w :: rest))) := by
  obtain ⟨fs, hr, hrun, hended, hW, hsame⟩ := X.leave (v := some w) (fun h => by rw [hret] at h; cases h) hlk
  exact ⟨_, retOut X hx hret hn hi hd hr, _, hrun, hended, _, _, rfl, hq, ⟨_, rfl⟩, hW, hsame.mono hc hs⟩
theorem g_retI (X : Stand p l e R s m args below meth c T locs cells slots) (hx : p.tables.exec = Jvm.exec) {z : Int32} {rest : List Value} {Q : Option Value → Heap → List Loc → Prop} {kc ks : Nat} (hret : meth.sig.returnType = some .int) (hlk : meth.locks = false) (hd : decode c.code pc = .ok (.ireturn, 1)) (hc : cells ≤ kc) (hs : slots ≤ ks) (hq : Q (some (.int z)) T.heap locs) : Go p e below (Dn s below Q kc ks) (T.setTop (mkF m pc Ls (.int z :: rest))) :=
  g_ret X hx hret hlk rfl (Or.inl ⟨rfl, by simp, _, rfl⟩) hd hc hs hq
theorem g_retZ (X : Stand p l e R s m args below meth c T locs cells slots) (hx : p.tables.exec = Jvm.exec) {z : Int32} {rest : List Value} {Q : Option Value → Heap → List Loc → Prop} {kc ks : Nat} (hret : meth.sig.returnType = some .boolean) (hlk : meth.locks = false) (hz : nar .boolean z = z) (hd : decode c.code pc = .ok (.ireturn, 1)) (hc : cells ≤ kc) (hs : slots ≤ ks) (hq : Q (some (.int z)) T.heap locs) : Go p e below (Dn s below Q kc ks) (T.setTop (mkF m pc Ls (.int z :: rest))) :=
  g_ret X hx hret hlk (by show Value.int (nar .boolean z) = _; rw [hz]) (Or.inl ⟨rfl, by simp, _, rfl⟩) hd hc hs hq
theorem g_retR (X : Stand p l e R s m args below meth c T locs cells slots) (hx : p.tables.exec = Jvm.exec) {w : Value} {t : FieldType} {rest : List Value} {Q : Option Value → Heap → List Loc → Prop} {kc ks : Nat} (hret : meth.sig.returnType = some t) (hlk : meth.locks = false) (ht : t.isReference = true) (hw : w.isRef = true) (hd : decode c.code pc = .ok (.areturn, 1)) (hc : cells ≤ kc) (hs : slots ≤ ks) (hq : Q (some w) T.heap locs) : Go p e below (Dn s below Q kc ks) (T.setTop (mkF m pc Ls (w :: rest))) :=
  g_ret X hx hret hlk (by rcases ref_cases hw with rfl | ⟨a, rfl⟩ <;> cases t <;> first | rfl | cases ht) (Or.inr (Or.inr (Or.inr (Or.inr ⟨rfl, ht, hw⟩)))) hd hc hs hq
theorem g_retV (X : Stand p l e R s m args below meth c T locs cells slots) (hx : p.tables.exec = Jvm.exec) {Q : Option Value → Heap → List Loc → Prop} {kc ks : Nat} (hret : meth.sig.returnType = none) (hlk : meth.locks = false) (hd : decode c.code pc = .ok (.return_, 1)) (hc : cells ≤ kc) (hs : slots ≤ ks) (hq : Q none T.heap locs) : Go p e below (Dn s below Q kc ks) (T.setTop (mkF m pc Ls [])) := by
  obtain ⟨fs, hr, hrun, hended, hW, hsame⟩ := X.leave (v := none) (fun _ => rfl) hlk
  exact ⟨_, X.returnOut hx hret hd hr, _, hrun, hended, _, _, rfl, hq, ⟨_, rfl⟩, hW, hsame.mono hc hs⟩
theorem g_callS (X : Stand p l e R s m args below meth c T locs cells slots) (hx : p.tables.exec = Jvm.exec) (hZ : Z.Warmed39 s.vm) {own : String} {index : Nat} {y : MethodName} {bytes : ByteArray} {maxL : Nat} {ret : Option FieldType} {rm : Room} {as' : Array Value} {Q : Option Value → Heap → List Loc → Prop} (W : Nat) {argsL rest : List Value} (hown : s.vm.findClass own = some m.cls) (w1 : (Cond.methodLink own index y).before a0 Z = true) (w2 : (Cond.static y).before a0 Z = true) (w3 : (Cond.initialized y.cls).before a0 Z = true) (w4 : (Cond.code y bytes maxL ret).before a0 Z = true) (hy : y.cls ≠ "java/lang/invoke/MethodHandle" ∧ y.cls ≠ "java/lang/invoke/VarHandle")
    (eT : T.heap = h) (hM : Ct l Z y bytes maxL ret rm as' h Q) (hf : rm.frames + 1 ≤ R.frames) (hl : W + (maxL + 11) + rm.locals ≤ R.locals) (hsize : Ls.size = c.maxLocals) (hlen : ∀ sig, parseMethodDescriptor y.desc = some sig → argsL.length = sig.parameters.length) (has : argsL.toArray = as') (hW : (rest.map fun v => v.category).sum ≤ W) (hd : decode c.code pc = .ok (.invokestatic index, 3)) (hp : pc + 3 = pc') (hc : cells + rm.cells ≤ R.cells) (hs : slots + rm.slots ≤ R.slots)
    (hst : st = argsL.reverse ++ rest) (k : ∀ (T' : State) (v : Option Value) (L : List Loc), Stand p l e R s m args below meth c T' (locs ++ L) (cells + rm.cells) (slots + rm.slots) → Q v T'.heap L → Go p e below G (T'.setTop (mkF m pc' Ls (v.toList ++ rest)))) : Go p e below G (T.setTop (mkF m pc Ls st)) := by
  obtain ⟨v, vm₁, ⟨T', L', k', n'⟩, -, X', ⟨L, hQ, l', y', z'⟩, hst⟩ := Jvm.LawKit.callS X hx hown (mvT hZ w1) (mvT hZ w2) (mvT hZ w3) (mvT hZ w4) hy (backOf (W := W) (hM []) hZ w4 w3 hf hl) (g := mkF m pc Ls st) rfl hsize (argsL := argsL) (rest := rest) hlen hst (by show 2 * 0 + _ ≤ _; omega) hd (fun _ _ => ⟨has, eT, hc, hs⟩)
  dsimp only [Pt.U, Pt.locs, Pt.cells, Pt.slots] at X' l' y' z' hst hQ
  subst l' y' z' hp
  exact Go.to hst (k T' v L X' hQ)
theorem g_callI (X : Stand p l e R s m args below meth c T locs cells slots) (hx : p.tables.exec = Jvm.exec) (hZ : Z.Warmed39 s.vm) {own : String} {index : Nat} {y : MethodName} {bytes : ByteArray} {maxL : Nat} {rm : Room} {as' : Array Value} {Q : Option Value → Heap → List Loc → Prop} (W : Nat) {argsL rest : List Value} {a : Addr} (hown : s.vm.findClass own = some m.cls) (hy1 : y.name = "<init>") (w1 : (Cond.methodLink own index y).before a0 Z = true) (w2 : (Cond.instanceMethod y).before a0 Z = true) (w3 : (Cond.initialized y.cls).before a0 Z = true) (w4 : (Cond.code y bytes maxL none).before a0 Z = true) (hy : y.cls ≠ "java/lang/invoke/MethodHandle" ∧ y.cls ≠ "java/lang/invoke/VarHandle")
    (eT : T.heap = h) (hM : Ct l Z y bytes maxL none rm as' h Q) (hf : rm.frames + 1 ≤ R.frames) (hl : W + (maxL + 11) + rm.locals ≤ R.locals) (hsize : Ls.size = c.maxLocals) (hlen : ∀ sig, parseMethodDescriptor y.desc = some sig → argsL.length = sig.parameters.length) (has : (.ref a :: argsL).toArray = as') (hW : (rest.map fun v => v.category).sum ≤ W) (hd : decode c.code pc = .ok (.invokespecial index, 3)) (hp : pc + 3 = pc') (hc : cells + rm.cells ≤ R.cells) (hs : slots + rm.slots ≤ R.slots)
    (hst : st = argsL.reverse ++ .ref a :: rest) (k : ∀ (T' : State) (v : Option Value) (L : List Loc), Stand p l e R s m args below meth c T' (locs ++ L) (cells + rm.cells) (slots + rm.slots) → Q v T'.heap L → Go p e below G (T'.setTop (mkF m pc' Ls (v.toList ++ rest)))) : Go p e below G (T.setTop (mkF m pc Ls st)) := by
  obtain ⟨v, vm₁, ⟨T', L', k', n'⟩, -, X', ⟨L, hQ, l', y', z'⟩, hst⟩ := X.specialBack hx hy1 hown (mvT hZ w1) (mvT hZ w2) (mvT hZ w4) hy (backOf (W := W) (hM []) hZ w4 w3 hf hl) (g := mkF m pc Ls st) rfl hsize (Steps.refl _) (a := a) (argsL := argsL) (rest := rest) hlen hst (by show 2 * 0 + _ ≤ _; omega) hd (fun _ _ => ⟨has, eT, hc, hs⟩)
  dsimp only [Pt.U, Pt.locs, Pt.cells, Pt.slots] at X' l' y' z' hst hQ
  subst l' y' z' hp
  exact Go.to (fun t q => hst.trans q) (k T' v L X' hQ)
theorem g_callV (X : Stand p l e R s m args below meth c T locs cells slots) (hx : p.tables.exec = Jvm.exec) (hZ : Z.Warmed39 s.vm) {C : String} {own : String} {index : Nat} {y : MethodName} {bytes : ByteArray} {maxL : Nat} {ret : Option FieldType} {rm : Room} {as' : Array Value} {Q : Option Value → Heap → List Loc → Prop} (W : Nat) {argsL rest : List Value} {a : Addr} (hown : s.vm.findClass own = some m.cls) (w1 : (Cond.methodLink own index y).before a0 Z = true) (w2 : (Cond.declares y).before a0 Z = true) (w3 : (Cond.selects C y y).before a0 Z = true) (w4 : (Cond.instanceMethod y).before a0 Z = true) (w5 : (Cond.code y bytes maxL ret).before a0 Z = true) (w6 : (Cond.initialized y.cls).before a0 Z = true) (hy : y.cls ≠ "java/lang/invoke/MethodHandle" ∧ y.cls ≠ "java/lang/invoke/VarHandle")
    (eT : T.heap = h) (E : Exa Z h a C) (hM : Ct l Z y bytes maxL ret rm as' h Q) (hf : rm.frames + 1 ≤ R.frames) (hl : W + (maxL + 11) + rm.locals ≤ R.locals) (hsize : Ls.size = c.maxLocals) (hlen : ∀ sig, parseMethodDescriptor y.desc = some sig → argsL.length = sig.parameters.length) (has : (.ref a :: argsL).toArray = as') (hW : (rest.map fun v => v.category).sum ≤ W) (hd : decode c.code pc = .ok (.invokevirtual index, 3)) (hp : pc + 3 = pc') (hc : cells + rm.cells ≤ R.cells) (hs : slots + rm.slots ≤ R.slots)
    (hst : st = argsL.reverse ++ .ref a :: rest) (k : ∀ (T' : State) (v : Option Value) (L : List Loc), Stand p l e R s m args below meth c T' (locs ++ L) (cells + rm.cells) (slots + rm.slots) → Q v T'.heap L → Go p e below G (T'.setTop (mkF m pc' Ls (v.toList ++ rest)))) : Go p e below G (T.setTop (mkF m pc Ls st)) := by
  obtain ⟨cq, kq, qa, qb, qc⟩ := isOf hZ eT E
  obtain ⟨v, vm₁, ⟨T', L', k', n'⟩, -, X', ⟨L, hQ, l', y', z'⟩, hst⟩ := X.virtualBack hx hown (mvT hZ w1) (mvT hZ w2) (notFace_of_selects (args := #[]) (mvT hZ w3)) (mvT hZ w3) (mvT hZ w4) hy (backOf (W := W) (hM []) hZ w5 w6 hf hl) qa qc (g := mkF m pc Ls st) rfl hsize (Steps.refl _) (argsL := argsL) (rest := rest) hlen hst (by show 2 * 0 + _ ≤ _; omega) hd (fun _ _ => ⟨has, eT, hc, hs⟩)
  dsimp only [Pt.U, Pt.locs, Pt.cells, Pt.slots] at X' l' y' z' hst hQ
  subst l' y' z' hp
  exact Go.to (fun t q => hst.trans q) (k T' v L X' hQ)
theorem g_new (X : Stand p l e R s m args below meth c T locs cells slots) (hx : p.tables.exec = Jvm.exec) (hZ : Z.Warmed39 s.vm) {own C : String} {index n : Nat} (hown : s.vm.findClass own = some m.cls) (w : (Cond.classLink own index C).before a0 Z = true) (wi : (Cond.instantiable C n).before a0 Z = true) (wz : (Cond.initialized C).before a0 Z = true) (eT : T.heap = h) (hd : decode c.code pc = .ok (.new index, 3)) (hp : pc + 3 = pc') (hc : cells + 1 ≤ R.cells) (hl : slots + n ≤ R.slots)
    (k : ∀ (T' : State) (h' : Heap) (a : Addr), a = h.size → Stand p l e R s m args below meth c T' locs (cells + 1) (slots + n) → T'.heap = h' → Ext h h' → Exa Z h' a C → (∀ {O nm d : String} {ty : FieldType}, Laid Z a0 C O nm d → parseFieldDescriptor d = some ty → Fld Z h' a O nm d (defaultValue ty)) → Go p e below G (T'.setTop (mkF m pc' Ls (.ref a :: st)))) : Go p e below G (T.setTop (mkF m pc Ls st)) := by
  obtain ⟨T', h', X', e', E, A, D, -, hst⟩ := newO X hx hZ hown w wi wz eT (g := mkF m pc Ls st) rfl hd hc hl
  subst hp
  exact Go.to hst (k T' h' _ rfl X' e' E A D)
theorem g_initO (X : Stand p l e R s m args below meth c T locs cells slots) (hx : p.tables.exec = Jvm.exec) (hZ : Z.Warmed39 s.vm) {own : String} {index : Nat} {a : Addr} (hown : s.vm.findClass own = some m.cls) (w1 : (Cond.methodLink own index Lib.objectInit).before a0 Z = true) (w2 : (Cond.instanceMethod Lib.objectInit).before a0 Z = true) (w3 : (Cond.code Lib.objectInit object_method_1_code 1 none).before a0 Z = true)
    (eT : T.heap = h) (hsize : Ls.size = c.maxLocals) (hd : decode c.code pc = .ok (.invokespecial index, 3)) (hp : pc + 3 = pc') (hf : 1 ≤ R.frames) (W : Nat) (hW : (st.map fun v => v.category).sum ≤ W) (hl : W + 12 ≤ R.locals) (k : ∀ (T' : State), Stand p l e R s m args below meth c T' locs cells slots → T'.heap = h → Go p e below G (T'.setTop (mkF m pc' Ls st))) : Go p e below G (T.setTop (mkF m pc Ls (.ref a :: st))) := by
  obtain ⟨T', X', e', hst⟩ := initO X hx hZ hown w1 w2 w3 eT (g := mkF m pc Ls (.ref a :: st)) rfl hsize rfl hd hf (W := W) (by show 2 * 0 + _ ≤ _; omega) hl
  subst hp
  exact Go.to hst (k T' X' e')
theorem g_putF (X : Stand p l e R s m args below meth c T locs cells slots) (hx : p.tables.exec = Jvm.exec) (hZ : Z.Warmed39 s.vm) {own R0 O n d host C : String} {index kk : Nat} (ty : FieldType) {a : Addr} {v old : Value} (hown : s.vm.findClass own = some m.cls) (w : (Cond.fieldLink own index R0 n d).before a0 Z = true ∨ (Cond.fieldLinkNest own index R0 n d host).before a0 Z = true) (via : Via Z R0 O n d) (eT : T.heap = h) (F : Fld Z h a O n d old) (E : Exa Z h a C) (L : (Cond.lays C O n d).before a0 Z = true ∨ ((Cond.laysFinal C O n d).before a0 Z = true ∧ own = O ∧ meth.name = "<init>")) (wi : (Cond.instantiable C kk).before a0 Z = true)
    (hty : parseFieldDescriptor d = some ty) (hn : narrow ty v = v) (hf : fits ty v = true) (hd : decode c.code pc = .ok (.putfield index, 3)) (hp : pc + 3 = pc') (k : ∀ (T' : State) (h' : Heap), Stand p l e R s m args below meth c T' (locs ++ [⟨a, Jvm.RoadKit.slotOf Z O n d⟩]) cells slots → T'.heap = h' → Wr h h' a (Jvm.RoadKit.slotOf Z O n d) v → Go p e below G (T'.setTop (mkF m pc' Ls st))) : Go p e below G (T.setTop (mkF m pc Ls (v :: .ref a :: st))) := by
  obtain ⟨T', h', X', e', W, hst⟩ := putF X hx hZ hown w via eT F E L wi hty hn hf (g := mkF m pc Ls (v :: .ref a :: st)) rfl rfl hd
  subst hp
  exact Go.to hst (k T' h' X' e' W)
theorem g_getF (X : Stand p l e R s m args below meth c T locs cells slots) (hx : p.tables.exec = Jvm.exec) (hZ : Z.Warmed39 s.vm) {own R0 O n d host : String} {index : Nat} {a : Addr} {v : Value} (hown : s.vm.findClass own = some m.cls) (w : (Cond.fieldLink own index R0 n d).before a0 Z = true ∨ (Cond.fieldLinkNest own index R0 n d host).before a0 Z = true) (via : Via Z R0 O n d) (eT : T.heap = h) (F : Fld Z h a O n d v) (hd : decode c.code pc = .ok (.getfield index, 3)) (hp : pc + 3 = pc')
    (k : ∀ (T' : State), Stand p l e R s m args below meth c T' locs cells slots → T'.heap = h → Go p e below G (T'.setTop (mkF m pc' Ls (v :: st)))) : Go p e below G (T.setTop (mkF m pc Ls (.ref a :: st))) := by
  obtain ⟨T', X', e', hst⟩ := getF X hx hZ hown w via eT F (g := mkF m pc Ls (.ref a :: st)) rfl rfl hd
  subst hp
  exact Go.to hst (k T' X' e')
theorem g_getS (X : Stand p l e R s m args below meth c T locs cells slots) (hx : p.tables.exec = Jvm.exec) (hZ : Z.Warmed39 s.vm) {own R0 O n d : String} {index : Nat} {v : Value} (hown : s.vm.findClass own = some m.cls) (w : (Cond.fieldLink own index R0 n d).before a0 Z = true) (via : Via Z R0 O n d) (eT : T.heap = h) (F : Sta Z h O n d v) (hd : decode c.code pc = .ok (.getstatic index, 3)) (hp : pc + 3 = pc')
    (k : ∀ (T' : State), Stand p l e R s m args below meth c T' locs cells slots → T'.heap = h → Go p e below G (T'.setTop (mkF m pc' Ls (v :: st)))) : Go p e below G (T.setTop (mkF m pc Ls st)) := by
  obtain ⟨T', X', e', hst⟩ := getS (host := "") X hx hZ hown w via eT F (g := mkF m pc Ls st) rfl hd
  subst hp
  exact Go.to hst (k T' X' e')
/-- an array of ty with n places at a; place j holds f j -/
def Av (Z : State) (h : Heap) (a : Addr) (ty : FieldType) (n : Nat) (f : Nat → Value) : Prop := ∃ c : Cell, Arr Z h a c ty ∧ c.slots.size = n ∧ ∀ j, j < n → c.slots[j]? = some (f j)
def upd (f : Nat → Value) (i : Nat) (v : Value) : Nat → Value := fun j => if j = i then v else f j
theorem Av.lt {a : Addr} {ty : FieldType} {n : Nat} {f : Nat → Value} (A : Av Z h a ty n f) : a < h.size := by obtain ⟨c, A, -⟩ := A; exact A.lt
theorem Av.ext {h' : Heap} {a : Addr} {ty : FieldType} {n : Nat} {f : Nat → Value} (A : Av Z h a ty n f) (E : Ext h h') : Av Z h' a ty n f := by obtain ⟨c, A, r⟩ := A; exact ⟨c, A.ext E, r⟩
theorem Av.other {h' : Heap} {a b : Addr} {ty : FieldType} {n sl : Nat} {f : Nat → Value} {v : Value} (A : Av Z h b ty n f) (W : Wr h h' a sl v) (q : b ≠ a) : Av Z h' b ty n f := by obtain ⟨c, A, r⟩ := A; exact ⟨c, A.other W q, r⟩
theorem Av.keep {h' : Heap} {a : Addr} {ty : FieldType} {n : Nat} {f : Nat → Value} {ws : List Addr} (A : Av Z h a ty n f) (K : Keep h h' ws) (q : a ∉ ws) : Av Z h' a ty n f := by obtain ⟨c, A, r⟩ := A; exact ⟨c, ⟨K.2.1 a c A.1 q, A.2⟩, r⟩
theorem Av.same {h' : Heap} {a : Addr} {ty : FieldType} {n i : Nat} {f : Nat → Value} {v : Value} (A : Av Z h a ty n f) (W : Wr h h' a i v) : Av Z h' a ty n (upd f i v) := by
  obtain ⟨c, A, r1, r2⟩ := A
  refine ⟨_, A.same W, by rw [sz_set]; exact r1, fun j hj => ?_⟩
  by_cases u : j = i
  · subst u; simp [Cell.setSlot, upd, r1, hj]
  · simp only [Cell.setSlot, upd, if_neg u]; rw [Array.getElem?_setIfInBounds_ne (Ne.symm u)]; exact r2 j hj
theorem Av.congr {a : Addr} {ty : FieldType} {n : Nat} {f g : Nat → Value} (A : Av Z h a ty n f) (q : ∀ j, j < n → f j = g j) : Av Z h a ty n g := by obtain ⟨c, A, r1, r2⟩ := A; exact ⟨c, A, r1, fun j hj => by rw [← q j hj]; exact r2 j hj⟩
theorem Av.ne {a b : Addr} {ty ty' : FieldType} {n : Nat} {f : Nat → Value} (A : Av Z h a ty n f) (q : h.size ≤ b) : a ≠ b := fun e => absurd A.lt (Nat.not_lt.mpr (e ▸ q))
theorem in_of {c : Cell} {n i : Nat} {j : Int32} (S : c.slots.size = n) (q : ¬ j < 0) (hj : j.toNatClampNeg = i) (hi : i < n) : ¬ (j < 0 ∨ c.slots.size ≤ j.toNatClampNeg) := fun z => z.elim q fun y => absurd hi (Nat.not_lt.mpr (by rw [← hj, ← S]; exact y))
theorem g_newarr (X : Stand p l e R s m args below meth c T locs cells slots) (hx : p.tables.exec = Jvm.exec) (hZ : Z.Warmed39 s.vm) {aty : ArrayType} {ty : FieldType} (w : (Cond.arrayClass ty).before a0 Z = true) (hty : newarray.typeOf aty = ty) (eT : T.heap = h) (hd : decode c.code pc = .ok (.newarray aty, 2)) (hp : pc + 2 = pc') {z : Int32} {n : Nat} (hz : ¬ z < 0) (hn : z.toNatClampNeg = n) (cap : Nat) (hcap : n ≤ cap) (hb : cap * 8 ≤ 536870912) (hc : cells + 1 ≤ R.cells) (hl : slots + cap ≤ R.slots)
    (k : ∀ (T' : State) (h' : Heap) (a : Addr), a = h.size → Stand p l e R s m args below meth c T' locs (cells + 1) (slots + cap) → T'.heap = h' → Ext h h' → Av Z h' a ty n (fun _ => defaultValue ty) → Go p e below G (T'.setTop (mkF m pc' Ls (.ref a :: st)))) : Go p e below G (T.setTop (mkF m pc Ls (.int z :: st))) := by
  subst hty
  obtain ⟨T', h', cA, X', e', E, A, hst⟩ := newP X hx hZ w eT (g := mkF m pc Ls (.int z :: st)) rfl hd rfl hz (cap := cap) (by omega) hb hc hl
  subst hp
  exact Go.to hst (k T' h' _ rfl X' e' E ⟨_, A, by rw [sz_new]; exact hn, fun j hj => by rw [← hn] at hj; simp [newA, hj]⟩)
theorem g_newarrR (X : Stand p l e R s m args below meth c T locs cells slots) (hx : p.tables.exec = Jvm.exec) (hZ : Z.Warmed39 s.vm) {own C : String} {index : Nat} (hown : s.vm.findClass own = some m.cls) (w1 : (Cond.classLink own index C).before a0 Z = true) (w2 : (Cond.arrayOver (.object C)).before a0 Z = true) (eT : T.heap = h) (hd : decode c.code pc = .ok (.anewarray index, 3)) (hp : pc + 3 = pc') {z : Int32} {n : Nat} (hz : ¬ z < 0) (hn : z.toNatClampNeg = n) (cap : Nat) (hcap : n ≤ cap) (hb : cap * 8 ≤ 536870912) (hc : cells + 1 ≤ R.cells) (hl : slots + cap ≤ R.slots)
    (k : ∀ (T' : State) (h' : Heap) (a : Addr) (cA : ClassId), a = h.size → Stand p l e R s m args below meth c T' locs (cells + 1) (slots + cap) → T'.heap = h' → Ext h h' → Av Z h' a (.object C) n (fun _ => .null) → Ovr Z cA C → (∃ cl : Cell, h'[a]? = some cl ∧ cl.cls = cA) → Go p e below G (T'.setTop (mkF m pc' Ls (.ref a :: st)))) : Go p e below G (T.setTop (mkF m pc Ls (.int z :: st))) := by
  obtain ⟨T', h', cA, X', e', E, A, O, hst⟩ := newR X hx hZ hown w1 w2 eT (g := mkF m pc Ls (.int z :: st)) rfl hd rfl hz (cap := cap) (by omega) hb hc hl
  subst hp
  exact Go.to hst (k T' h' _ cA rfl X' e' E ⟨_, A, by rw [sz_new]; exact hn, fun j hj => by rw [← hn] at hj; simp [newA, hj, defaultValue]⟩ O ⟨_, A.1, rfl⟩)
theorem g_iaload (X : Stand p l e R s m args below meth c T locs cells slots) (hx : p.tables.exec = Jvm.exec) (hZ : Z.Warmed39 s.vm) {a : Addr} {n i : Nat} {f : Nat → Value} {j : Int32} {v : Int32} (eT : T.heap = h) (A : Av Z h a .int n f) (hj0 : ¬ j < 0) (hj : j.toNatClampNeg = i) (hi : i < n) (hv : f i = .int v) (hd : decode c.code pc = .ok (.iaload, 1)) (hp : pc + 1 = pc') (k : Go p e below G (T.setTop (mkF m pc' Ls (.int v :: st)))) : Go p e below G (T.setTop (mkF m pc Ls (.int j :: .ref a :: st))) := by
  obtain ⟨cl, Ar, S, H⟩ := A
  subst hp
  exact Go.to (fun t q => X.iaload hx (j := j) (v := .int v) (by rw [eT]; exact Ar.1) (State.isArrayOf_alike hZ.alike Ar.2.1) Ar.2.2 (in_of S hj0 hj hi) (by rw [hj, ← hv]; exact H i hi) (g := mkF m pc Ls (.int j :: .ref a :: st)) rfl rfl hd _ q) k
theorem g_baload (X : Stand p l e R s m args below meth c T locs cells slots) (hx : p.tables.exec = Jvm.exec) (hZ : Z.Warmed39 s.vm) {a : Addr} {n i : Nat} {f : Nat → Value} {j : Int32} {v : Int32} (eT : T.heap = h) (A : Av Z h a .byte n f) (hj0 : ¬ j < 0) (hj : j.toNatClampNeg = i) (hi : i < n) (hv : f i = .int v) (hd : decode c.code pc = .ok (.baload, 1)) (hp : pc + 1 = pc') (k : Go p e below G (T.setTop (mkF m pc' Ls (.int v :: st)))) : Go p e below G (T.setTop (mkF m pc Ls (.int j :: .ref a :: st))) := by
  obtain ⟨cl, Ar, S, H⟩ := A
  subst hp
  exact Go.to (fun t q => X.baloadBytes hx (j := j) (v := .int v) (by rw [eT]; exact Ar.1) (State.isArrayOf_alike hZ.alike Ar.2.1) Ar.2.2 (in_of S hj0 hj hi) (by rw [hj, ← hv]; exact H i hi) (g := mkF m pc Ls (.int j :: .ref a :: st)) rfl rfl hd _ q) k
theorem g_laload (X : Stand p l e R s m args below meth c T locs cells slots) (hx : p.tables.exec = Jvm.exec) (hZ : Z.Warmed39 s.vm) {a : Addr} {n i : Nat} {f : Nat → Value} {j : Int32} {v : Int64} (eT : T.heap = h) (A : Av Z h a .long n f) (hj0 : ¬ j < 0) (hj : j.toNatClampNeg = i) (hi : i < n) (hv : f i = .long v) (hd : decode c.code pc = .ok (.laload, 1)) (hp : pc + 1 = pc') (k : Go p e below G (T.setTop (mkF m pc' Ls (.long v :: st)))) : Go p e below G (T.setTop (mkF m pc Ls (.int j :: .ref a :: st))) := by
  obtain ⟨cl, Ar, S, H⟩ := A
  subst hp
  exact Go.to (fun t q => X.laload hx (j := j) (v := .long v) (by rw [eT]; exact Ar.1) (State.isArrayOf_alike hZ.alike Ar.2.1) Ar.2.2 (in_of S hj0 hj hi) (by rw [hj, ← hv]; exact H i hi) (g := mkF m pc Ls (.int j :: .ref a :: st)) rfl rfl hd _ q) k
theorem g_aaload (X : Stand p l e R s m args below meth c T locs cells slots) (hx : p.tables.exec = Jvm.exec) (hZ : Z.Warmed39 s.vm) {a : Addr} {n i : Nat} {f : Nat → Value} {j : Int32} {v : Value} {ty : FieldType} (eT : T.heap = h) (A : Av Z h a ty n f) (hty : ty.isReference = true) (hj0 : ¬ j < 0) (hj : j.toNatClampNeg = i) (hi : i < n) (hv : f i = v) (hd : decode c.code pc = .ok (.aaload, 1)) (hp : pc + 1 = pc') (k : Go p e below G (T.setTop (mkF m pc' Ls (v :: st)))) : Go p e below G (T.setTop (mkF m pc Ls (.int j :: .ref a :: st))) := by
  obtain ⟨cl, Ar, S, H⟩ := A
  subst hp
  exact Go.to (fun t q => X.aaload hx (j := j) (v := v) (by rw [eT]; exact Ar.1) (State.isArrayOf_alike hZ.alike Ar.2.1) hty Ar.2.2 (in_of S hj0 hj hi) (by rw [hj, ← hv]; exact H i hi) (g := mkF m pc Ls (.int j :: .ref a :: st)) rfl rfl hd _ q) k
theorem g_arraylength (X : Stand p l e R s m args below meth c T locs cells slots) (hx : p.tables.exec = Jvm.exec) (hZ : Z.Warmed39 s.vm) {a : Addr} {n : Nat} {f : Nat → Value} {z : Int32} {ty : FieldType} (eT : T.heap = h) (A : Av Z h a ty n f) (hz : n.toInt32 = z) (hd : decode c.code pc = .ok (.arraylength, 1)) (hp : pc + 1 = pc') (k : Go p e below G (T.setTop (mkF m pc' Ls (.int z :: st)))) : Go p e below G (T.setTop (mkF m pc Ls (.ref a :: st))) := by
  obtain ⟨cl, Ar, S, H⟩ := A
  subst hp hz S
  exact Go.to (fun t q => X.arraylength hx (by rw [eT]; exact Ar.1) (State.isArrayOf_alike hZ.alike Ar.2.1) (g := mkF m pc Ls (.ref a :: st)) rfl rfl hd _ q) k
theorem g_iastore (X : Stand p l e R s m args below meth c T locs cells slots) (hx : p.tables.exec = Jvm.exec) (hZ : Z.Warmed39 s.vm) {a : Addr} {n i : Nat} {f : Nat → Value} {j : Int32} {x : Int32} (eT : T.heap = h) (A : Av Z h a .int n f) (hj0 : ¬ j < 0) (hj : j.toNatClampNeg = i) (hi : i < n) (hd : decode c.code pc = .ok (.iastore, 1)) (hp : pc + 1 = pc')
    (k : ∀ (T' : State) (h' : Heap), Stand p l e R s m args below meth c T' (locs ++ [⟨a, i⟩]) cells slots → T'.heap = h' → Wr h h' a i (.int x) → Av Z h' a .int n (upd f i (.int x)) → Go p e below G (T'.setTop (mkF m pc' Ls st))) : Go p e below G (T.setTop (mkF m pc Ls (.int x :: .int j :: .ref a :: st))) := by
  obtain ⟨cl, Ar, S, H⟩ := id A
  obtain ⟨T', h', X', e', W, hst⟩ := stI X hx hZ eT Ar (in_of S hj0 hj hi) (g := mkF m pc Ls (.int x :: .int j :: .ref a :: st)) rfl rfl hd
  subst hp hj
  exact Go.to hst (k T' h' X' e' W (A.same W))
theorem g_lastore (X : Stand p l e R s m args below meth c T locs cells slots) (hx : p.tables.exec = Jvm.exec) (hZ : Z.Warmed39 s.vm) {a : Addr} {n i : Nat} {f : Nat → Value} {j : Int32} {x : Int64} (eT : T.heap = h) (A : Av Z h a .long n f) (hj0 : ¬ j < 0) (hj : j.toNatClampNeg = i) (hi : i < n) (hd : decode c.code pc = .ok (.lastore, 1)) (hp : pc + 1 = pc')
    (k : ∀ (T' : State) (h' : Heap), Stand p l e R s m args below meth c T' (locs ++ [⟨a, i⟩]) cells slots → T'.heap = h' → Wr h h' a i (.long x) → Av Z h' a .long n (upd f i (.long x)) → Go p e below G (T'.setTop (mkF m pc' Ls st))) : Go p e below G (T.setTop (mkF m pc Ls (.long x :: .int j :: .ref a :: st))) := by
  obtain ⟨cl, Ar, S, H⟩ := id A
  obtain ⟨T', h', X', e', W, hst⟩ := stJ X hx hZ eT Ar (in_of S hj0 hj hi) (g := mkF m pc Ls (.long x :: .int j :: .ref a :: st)) rfl rfl hd
  subst hp hj
  exact Go.to hst (k T' h' X' e' W (A.same W))
theorem g_bastore (X : Stand p l e R s m args below meth c T locs cells slots) (hx : p.tables.exec = Jvm.exec) (hZ : Z.Warmed39 s.vm) {a : Addr} {n i : Nat} {f : Nat → Value} {j : Int32} {x : Int32} (eT : T.heap = h) (A : Av Z h a .byte n f) (hj0 : ¬ j < 0) (hj : j.toNatClampNeg = i) (hi : i < n) (hd : decode c.code pc = .ok (.bastore, 1)) (hp : pc + 1 = pc')
    (k : ∀ (T' : State) (h' : Heap), Stand p l e R s m args below meth c T' (locs ++ [⟨a, i⟩]) cells slots → T'.heap = h' → Wr h h' a i (.int (nar .byte x)) → Av Z h' a .byte n (upd f i (.int (nar .byte x))) → Go p e below G (T'.setTop (mkF m pc' Ls st))) : Go p e below G (T.setTop (mkF m pc Ls (.int x :: .int j :: .ref a :: st))) := by
  obtain ⟨cl, Ar, S, H⟩ := id A
  obtain ⟨T', h', X', e', W, hst⟩ := stB X hx hZ eT Ar (in_of S hj0 hj hi) (g := mkF m pc Ls (.int x :: .int j :: .ref a :: st)) rfl rfl hd
  subst hp hj
  exact Go.to hst (k T' h' X' e' W (A.same W))
theorem g_aastore (X : Stand p l e R s m args below meth c T locs cells slots) (hx : p.tables.exec = Jvm.exec) (hZ : Z.Warmed39 s.vm) {a : Addr} {n i : Nat} {f : Nat → Value} {j : Int32} {v : Value} {ty : FieldType} (eT : T.heap = h) (A : Av Z h a ty n f) (hty : ty.isReference = true) (F : Sto Z h a v) (hj0 : ¬ j < 0) (hj : j.toNatClampNeg = i) (hi : i < n) (hd : decode c.code pc = .ok (.aastore, 1)) (hp : pc + 1 = pc')
    (k : ∀ (T' : State) (h' : Heap), Stand p l e R s m args below meth c T' (locs ++ [⟨a, i⟩]) cells slots → T'.heap = h' → Wr h h' a i v → Av Z h' a ty n (upd f i v) → Go p e below G (T'.setTop (mkF m pc' Ls st))) : Go p e below G (T.setTop (mkF m pc Ls (v :: .int j :: .ref a :: st))) := by
  obtain ⟨cl, Ar, S, H⟩ := id A
  obtain ⟨T', h', X', e', W, hst⟩ := stR X hx hZ eT Ar (in_of S hj0 hj hi) hty F (g := mkF m pc Ls (v :: .int j :: .ref a :: st)) rfl rfl hd
  subst hp hj
  exact Go.to hst (k T' h' X' e' W (A.same W))
end Kit
section Kit2
variable {p : Program} {l : Launch} {e : Env} {R : Room} {s : State} {m : MethodId} {args : Array Value} {below : List Frame} {meth : Method} {c : Code} {T : State} {locs : List Loc} {cells slots : Nat} {Z : State} {a0 : Array Value} {h : Heap} {G : State → Prop} {pc pc' : Nat} {Ls Ls' : Array Slot} {st : List Value}
theorem g_ifnull (X : Stand p l e R s m args below meth c T locs cells slots) (hx : p.tables.exec = Jvm.exec) {o : Int} {v : Value} {pcF : Nat} (hv : v.isRef = true) (hd : decode c.code pc = .ok (.ifnull o, 3)) (ho : 0 ≤ (pc : Int) + o) (hp : ((pc : Int) + o).toNat = pc') (hq : pc + 3 = pcF) (kT : v = .null → Go p e below G (T.setTop (mkF m pc' Ls st))) (kF : ∀ b, v = .ref b → Go p e below G (T.setTop (mkF m pcF Ls st))) : Go p e below G (T.setTop (mkF m pc Ls (v :: st))) := by
  rcases ref_cases hv with rfl | ⟨b, rfl⟩
  · exact g_ifnullY X hx hd ho hp (kT rfl)
  · exact g_ifnullN X hx hd hq (kF b rfl)
theorem g_ifnonnull (X : Stand p l e R s m args below meth c T locs cells slots) (hx : p.tables.exec = Jvm.exec) {o : Int} {v : Value} {pcF : Nat} (hv : v.isRef = true) (hd : decode c.code pc = .ok (.ifnonnull o, 3)) (ho : 0 ≤ (pc : Int) + o) (hp : ((pc : Int) + o).toNat = pc') (hq : pc + 3 = pcF) (kT : ∀ b, v = .ref b → Go p e below G (T.setTop (mkF m pc' Ls st))) (kF : v = .null → Go p e below G (T.setTop (mkF m pcF Ls st))) : Go p e below G (T.setTop (mkF m pc Ls (v :: st))) := by
  rcases ref_cases hv with rfl | ⟨b, rfl⟩
  · exact g_ifnonnullN X hx hd hq (kF rfl)
  · exact g_ifnonnullY X hx hd ho hp (kT b rfl)
/-- an object of class C at a; its fields (declaring class, name, descriptor) hold g name -/
def Ob (Z : State) (h : Heap) (a : Addr) (C : String) (fs : List (String × String × String)) (g : String → Value) : Prop := Exa Z h a C ∧ ∀ q ∈ fs, Fld Z h a q.1 q.2.1 q.2.2 (g q.2.1)
def set (g : String → Value) (n : String) (v : Value) : String → Value := fun k => if k = n then v else g k
def Lds (Z : State) (a0 : Array Value) (C : String) (fs : List (String × String × String)) : Prop := ∀ q ∈ fs, Laid Z a0 C q.1 q.2.1 q.2.2
theorem Ob.lt {a : Addr} {C : String} {fs : List (String × String × String)} {g : String → Value} (F : Ob Z h a C fs g) : a < h.size := F.1.lt
theorem Ob.ext {h' : Heap} {a : Addr} {C : String} {fs : List (String × String × String)} {g : String → Value} (F : Ob Z h a C fs g) (E : Ext h h') : Ob Z h' a C fs g := ⟨F.1.ext E, fun q hq => (F.2 q hq).ext E⟩
theorem Ob.other {h' : Heap} {a b : Addr} {C : String} {fs : List (String × String × String)} {g : String → Value} {sl : Nat} {v : Value} (F : Ob Z h b C fs g) (W : Wr h h' a sl v) (ne : b ≠ a) : Ob Z h' b C fs g := ⟨F.1.wr W, fun q hq => (F.2 q hq).other W (Or.inl ne)⟩
theorem Ob.keep {h' : Heap} {a : Addr} {C : String} {fs : List (String × String × String)} {g : String → Value} {ws : List Addr} (F : Ob Z h a C fs g) (K : Keep h h' ws) (ne : a ∉ ws) : Ob Z h' a C fs g := ⟨F.1.keep K, fun q hq => (F.2 q hq).keep K ne⟩
theorem Ob.congr {a : Addr} {C : String} {fs : List (String × String × String)} {g g' : String → Value} (F : Ob Z h a C fs g) (e : ∀ q ∈ fs, g q.2.1 = g' q.2.1) : Ob Z h a C fs g' := ⟨F.1, fun q hq => by rw [← e q hq]; exact F.2 q hq⟩
theorem Ob.put {h' : Heap} {a : Addr} {C O n d : String} {fs : List (String × String × String)} {g : String → Value} {v : Value} (L : Lds Z a0 C fs) (U : fs.all (fun q => fs.all (fun r => decide (q.2.1 = r.2.1 → q = r))) = true) (D : fs.all (fun q => (parseFieldDescriptor q.2.2).isSome) = true) (F : Ob Z h a C fs g) (hm : (O, n, d) ∈ fs) (W : Wr h h' a (Jvm.RoadKit.slotOf Z O n d) v) : Ob Z h' a C fs (set g n v) := by
  refine ⟨F.1.wr W, fun q hq => ?_⟩
  by_cases u : q.2.1 = n
  · have e : q = (O, n, d) := of_decide_eq_true (List.all_eq_true.mp (List.all_eq_true.mp U q hq) _ hm) u
    subst e
    have := (F.2 _ hm).same W
    simpa [set] using this
  · obtain ⟨t1, h1⟩ := Option.isSome_iff_exists.mp (List.all_eq_true.mp D q hq)
    obtain ⟨t2, h2⟩ := Option.isSome_iff_exists.mp (List.all_eq_true.mp D _ hm)
    have := (F.2 q hq).other W (Or.inr (slot_ne (L q hq) (L _ hm) u h1 h2))
    simpa [set, u] using this
theorem Ob.new {a : Addr} {C : String} {fs : List (String × String × String)} {g : String → Value} (L : Lds Z a0 C fs) (E : Exa Z h a C) (D : ∀ {O nm d : String} {ty : FieldType}, Laid Z a0 C O nm d → parseFieldDescriptor d = some ty → Fld Z h a O nm d (defaultValue ty)) (hg : fs.all (fun q => decide ((parseFieldDescriptor q.2.2).map defaultValue = some (g q.2.1))) = true) : Ob Z h a C fs g := by
  refine ⟨E, fun q hq => ?_⟩
  have := of_decide_eq_true (List.all_eq_true.mp hg q hq)
  obtain ⟨t, h1, h2⟩ := Option.map_eq_some_iff.mp this
  rw [← h2]; exact D (L q hq) h1
theorem ext_of_keep {h' : Heap} (K : Keep h h' []) : Ext h h' := ⟨K.1, fun a c q => K.2.1 a c q nin0⟩
def DnW (s : State) (below : List Frame) (Q : Option Value → Heap → List Loc → Prop) (kc ks : Nat) (t : State) : Prop := ∃ o, t.status = .running ∧ Ended t below o ∧ ∃ v L, o = .returned v ∧ Q v t.heap L ∧ ReturnedEndW s o t L kc ks
def CtW (l : Launch) (Z : State) (y : MethodName) (bytes : ByteArray) (maxL : Nat) (ret : Option FieldType) (rm : Room) (as' : Array Value) (h0 : Heap) (Q : Option Value → Heap → List Loc → Prop) : Prop :=
  ∀ ws, MetFree l y (head1 (Jvm.Cond.code y bytes maxL ret :: ws) rm) (fun a U => a = as' ∧ Z.Warmed39 U.vm ∧ U.heap = h0) (fun _ _ _ _ _ => True) (fun _ U o U' => ∃ v L, o = .returned v ∧ Q v U'.heap L ∧ ReturnedEndW U o U' L rm.cells rm.slots)
theorem CtW.of {y : MethodName} {bytes : ByteArray} {maxL : Nat} {ret : Option FieldType} {rm : Room} {as' : Array Value} {h0 : Heap} {Q : Option Value → Heap → List Loc → Prop} (hn : plainFor y = true) (hef : ∀ m, entryFrame m as' maxL = mkF m 0 Ls [])
    (body : ∀ (p : Program) (e : Env) (s : State) (m : MethodId) (below : List Frame) (meth : Method) (c : Code) (T : State) (vm0 : Vm), Stand p l e rm (s.setVm vm0) m as' below meth c T [] 0 0 → p.tables.exec = Jvm.exec → c.code = bytes → c.maxLocals = maxL → meth.sig.returnType = ret → meth.locks = false → Z.Warmed39 vm0 → vm0.findClass y.cls = some m.cls → meth.name = y.name → T.heap = h0 → s.Since vm0 h0.size →
      Go p e below (DnW s below Q rm.cells rm.slots) (T.setTop (mkF m 0 Ls []))) : CtW l Z y bytes maxL ret rm as' h0 Q := by
  intro ws
  refine MetFree.of_bodySF hn hisR ?_
  intro p e s m args below meth c s₁ Bd hml0 hP hK
  obtain ⟨rfl, hZ, hh⟩ := hP
  obtain ⟨t, h1, o, h2, h3, h4⟩ := body p e s m below meth c s₁ s.vm (Stand.of_body Bd) Bd.exec Bd.bytes hml0 Bd.returns Bd.notSynchronized hZ (findClass_of_methodNamed Bd.named) (name_of_methodNamed Bd.named Bd.method).1 (by rw [← hh, Bd.state]; rfl) ((State.WarmedH.refl s).since _)
  exact ⟨t, o, castTop (hef m) h1, h2, h3, h4⟩
theorem CtW.of_ct {y : MethodName} {bytes : ByteArray} {maxL : Nat} {ret : Option FieldType} {rm : Room} {as' : Array Value} {h0 : Heap} {Q : Option Value → Heap → List Loc → Prop} (H : Ct l Z y bytes maxL ret rm as' h0 Q) : CtW l Z y bytes maxL ret rm as' h0 Q := by
  intro ws p e ha hc hk s m args below hf happ hP hK
  obtain ⟨n, o, h1, h2, h3, v, L, h4, h5, h6⟩ := H ws p e ha hc hk s m args below hf happ hP hK
  exact ⟨n, o, h1, h2, h3, v, L, h4, h5, ReturnedEndW.of_narrow h6.1 h6.2.1 h6.2.2⟩
theorem g_retWG {vm0 : Vm} {k0 : Nat} (X : Stand p l e R (s.setVm vm0) m args below meth c T locs cells slots) (hx : p.tables.exec = Jvm.exec) (hS : s.Since vm0 k0) (hk : k0 ≤ T.heap.size) {w : Value} {t : FieldType} {i : Instr} {rest : List Value} {Q : Option Value → Heap → List Loc → Prop} {kc ks : Nat} (hret : meth.sig.returnType = some t) (hlk : meth.locks = false) (hn : narrow t w = w)
    (hi : (i = .ireturn ∧ (t = .int ∨ t = .boolean ∨ t = .byte ∨ t = .char ∨ t = .short) ∧ ∃ z, w = .int z) ∨ (i = .lreturn ∧ t = .long ∧ ∃ z, w = .long z) ∨ (i = .dreturn ∧ t = .double ∧ ∃ z, w = .double z) ∨ (i = .freturn ∧ t = .float ∧ ∃ z, w = .float z) ∨ (i = .areturn ∧ t.isReference = true ∧ w.isRef = true))
    (hd : decode c.code pc = .ok (i, 1)) (hc : cells ≤ kc) (hs : slots ≤ ks) (hq : Q (some w) T.heap locs) : Go p e below (DnW s below Q kc ks) (T.setTop (mkF m pc Ls (w :: rest))) := by
  obtain ⟨fs, hr, hrun, hended, hv, hW, hI, hsame⟩ := X.leaveW hS hk (v := some w) (fun h => by rw [hret] at h; cases h) hlk
  exact ⟨_, retOut X hx hret hn hi hd hr, _, hrun, hended, _, _, rfl, hq, hv, hW, hI, hsame.mono hc hs⟩
theorem g_retWZ {vm0 : Vm} {k0 : Nat} (X : Stand p l e R (s.setVm vm0) m args below meth c T locs cells slots) (hx : p.tables.exec = Jvm.exec) (hS : s.Since vm0 k0) (hk : k0 ≤ T.heap.size) {z : Int32} {rest : List Value} {Q : Option Value → Heap → List Loc → Prop} {kc ks : Nat} (hret : meth.sig.returnType = some .boolean) (hlk : meth.locks = false) (hz : nar .boolean z = z) (hd : decode c.code pc = .ok (.ireturn, 1)) (hc : cells ≤ kc) (hs : slots ≤ ks) (hq : Q (some (.int z)) T.heap locs) : Go p e below (DnW s below Q kc ks) (T.setTop (mkF m pc Ls (.int z :: rest))) :=
  g_retWG X hx hS hk hret hlk (by show Value.int (nar .boolean z) = _; rw [hz]) (Or.inl ⟨rfl, by simp, _, rfl⟩) hd hc hs hq
theorem g_retWV {vm0 : Vm} {k0 : Nat} (X : Stand p l e R (s.setVm vm0) m args below meth c T locs cells slots) (hx : p.tables.exec = Jvm.exec) (hS : s.Since vm0 k0) (hk : k0 ≤ T.heap.size) {Q : Option Value → Heap → List Loc → Prop} {kc ks : Nat} (hret : meth.sig.returnType = none) (hlk : meth.locks = false) (hd : decode c.code pc = .ok (.return_, 1)) (hc : cells ≤ kc) (hs : slots ≤ ks) (hq : Q none T.heap locs) : Go p e below (DnW s below Q kc ks) (T.setTop (mkF m pc Ls [])) := by
  obtain ⟨fs, hr, hrun, hended, hv, hW, hI, hsame⟩ := X.leaveW hS hk (v := none) (fun _ => rfl) hlk
  exact ⟨_, X.returnOut hx hret hd hr, _, hrun, hended, _, _, rfl, hq, hv, hW, hI, hsame.mono hc hs⟩
theorem g_ldcS {vm0 : Vm} {k0 : Nat} (X : Stand p l e R (s.setVm vm0) m args below meth c T locs cells slots) (hx : p.tables.exec = Jvm.exec) (hS : s.Since vm0 k0) (hZ : Z.Warmed39 vm0) {own text : String} {index : Nat} (hown : vm0.findClass own = some m.cls) (w : (Cond.stringLink own index text).before a0 Z = true) (wS : ∀ a ∈ Bundle.stringAtoms, a.before a0 Z = true) (eT : T.heap = h) (hk : k0 ≤ h.size) (hd : decode c.code pc = .ok (.ldc index, 2)) (hp : pc + 2 = pc') (n : Nat) (hn : 4 * text.toList.length ≤ n) (hbig : n ≤ 536870912) (hc : cells + 2 ≤ R.cells) (hl : slots + (n + 4) ≤ R.slots)
    (k : ∀ (T' : State) (h' : Heap) (a : Addr) (vm1 : Vm) (k1 : Nat), Stand p l e R (s.setVm vm1) m args below meth c T' locs (cells + 2) (slots + (n + 4)) → T'.heap = h' → Ext h h' → s.Since vm1 k1 → k1 ≤ h'.size → Z.Warmed39 vm1 → vm1.findClass own = some m.cls → Go p e below G (T'.setTop (mkF m pc' Ls (.ref a :: st)))) : Go p e below G (T.setTop (mkF m pc Ls st)) := by
  obtain ⟨a, T', h', k1, X', e', E, S', hk', hZ', ho', hst⟩ := ldcS X hx hZ hown w wS eT hS hk (g := mkF m pc Ls st) rfl hd hn hbig hc hl
  subst hp
  exact Go.to hst (k T' h' a T'.vm k1 X' e' E S' hk' hZ' ho')
theorem g_callSW {vm0 : Vm} {k0 : Nat} (X : Stand p l e R (s.setVm vm0) m args below meth c T locs cells slots) (hx : p.tables.exec = Jvm.exec) (hS : s.Since vm0 k0) (hZ : Z.Warmed39 vm0) {own : String} {index : Nat} {y : MethodName} {bytes : ByteArray} {maxL : Nat} {ret : Option FieldType} {rm : Room} {as' : Array Value} {Q : Option Value → Heap → List Loc → Prop} (W : Nat) {argsL rest : List Value} (hown : vm0.findClass own = some m.cls) (w1 : (Cond.methodLink own index y).before a0 Z = true) (w2 : (Cond.static y).before a0 Z = true) (w3 : (Cond.initialized y.cls).before a0 Z = true) (w4 : (Cond.code y bytes maxL ret).before a0 Z = true) (hy : y.cls ≠ "java/lang/invoke/MethodHandle" ∧ y.cls ≠ "java/lang/invoke/VarHandle")
    (eT : T.heap = h) (hk : k0 ≤ h.size) (hM : CtW l Z y bytes maxL ret rm as' h Q) (hf : rm.frames + 1 ≤ R.frames) (hl : W + (maxL + 11) + rm.locals ≤ R.locals) (hsize : Ls.size = c.maxLocals) (hlen : ∀ sig, parseMethodDescriptor y.desc = some sig → argsL.length = sig.parameters.length) (has : argsL.toArray = as') (hW : (rest.map fun v => v.category).sum ≤ W) (hd : decode c.code pc = .ok (.invokestatic index, 3)) (hp : pc + 3 = pc') (hc : cells + rm.cells ≤ R.cells) (hs : slots + rm.slots ≤ R.slots)
    (hst : st = argsL.reverse ++ rest) (k : ∀ (T' : State) (v : Option Value) (L : List Loc) (vm1 : Vm), Stand p l e R (s.setVm vm1) m args below meth c T' (locs ++ L) (cells + rm.cells) (slots + rm.slots) → Q v T'.heap L → s.Since vm1 T'.heap.size → Z.Warmed39 vm1 → vm1.findClass own = some m.cls → Go p e below G (T'.setTop (mkF m pc' Ls (v.toList ++ rest)))) : Go p e below G (T.setTop (mkF m pc Ls st)) := by
  obtain ⟨v, vm₁, ⟨T', L', k', n'⟩, -, X', hS', hsz, ⟨L, hQ, l', y', z'⟩, hst⟩ := callSS X hx hown (mvT (s := s.setVm vm0) hZ w1) (mvT (s := s.setVm vm0) hZ w2) (mvT (s := s.setVm vm0) hZ w3) (mvT (s := s.setVm vm0) hZ w4) hy (backOfS (s := s.setVm vm0) (W := W) (hM []) hZ w4 w3 hf hl) (g := mkF m pc Ls st) rfl hsize (argsL := argsL) (rest := rest) hlen hst (by show 2 * 0 + _ ≤ _; omega) hd (fun _ _ => ⟨has, eT, hc, hs⟩)
  dsimp only [Pt.U, Pt.locs, Pt.cells, Pt.slots] at X' l' y' z' hst hQ hS' hsz
  obtain ⟨X2, S2, Z2, o2⟩ := rebS hS (Nat.le_trans hk (Nat.le_of_eq (by rw [eT]))) X' hS' hsz hZ hown
  subst l' y' z' hp
  exact Go.to (fun t q => hst.trans q) (k T' v L T'.vm X2 hQ S2 Z2 o2)
theorem g_callU (X : Stand p l e R s m args below meth c T locs cells slots) (hx : p.tables.exec = Jvm.exec) (hZ : Z.Warmed39 s.vm) {C owner : String} {x y : MethodName} {own : String} {index : Nat} {bytes : ByteArray} {maxL : Nat} {ret : Option FieldType} {rm : Room} {as' : Array Value} {Q : Option Value → Heap → List Loc → Prop} (W : Nat) {argsL rest : List Value} {a : Addr} (hown : s.vm.findClass own = some m.cls) (w1 : (Cond.methodLink own index x).before a0 Z = true) (w2 : (Cond.sameMethod x.cls owner x.name x.desc).before a0 Z = true) (w3 : (Cond.declares ⟨owner, x.name, x.desc⟩).before a0 Z = true) (w4 : (Cond.selects C x y).before a0 Z = true) (w5 : (Cond.instanceMethod y).before a0 Z = true) (w6 : (Cond.code y bytes maxL ret).before a0 Z = true) (w7 : (Cond.initialized y.cls).before a0 Z = true) (hy : owner ≠ "java/lang/invoke/MethodHandle" ∧ owner ≠ "java/lang/invoke/VarHandle")
    (eT : T.heap = h) (E : Exa Z h a C) (hM : Ct l Z y bytes maxL ret rm as' h Q) (hf : rm.frames + 1 ≤ R.frames) (hl : W + (maxL + 11) + rm.locals ≤ R.locals) (hsize : Ls.size = c.maxLocals) (hlen : ∀ sig, parseMethodDescriptor x.desc = some sig → argsL.length = sig.parameters.length) (has : (.ref a :: argsL).toArray = as') (hW : (rest.map fun v => v.category).sum ≤ W) (hd : decode c.code pc = .ok (.invokevirtual index, 3)) (hp : pc + 3 = pc') (hc : cells + rm.cells ≤ R.cells) (hs : slots + rm.slots ≤ R.slots)
    (hst : st = argsL.reverse ++ .ref a :: rest) (k : ∀ (T' : State) (v : Option Value) (L : List Loc), Stand p l e R s m args below meth c T' (locs ++ L) (cells + rm.cells) (slots + rm.slots) → Q v T'.heap L → Go p e below G (T'.setTop (mkF m pc' Ls (v.toList ++ rest)))) : Go p e below G (T.setTop (mkF m pc Ls st)) := by
  obtain ⟨cq, kq, qa, qb, qc⟩ := isOf hZ eT E
  obtain ⟨v, vm₁, ⟨T', L', k', n'⟩, -, X', ⟨L, hQ, l', y', z'⟩, hst⟩ := X.virtualBackUp hx hown (mvT hZ w1) (mvT hZ w2) (mvT hZ w3) hy (mvT hZ w4) (mvT hZ w5) (backOf (W := W) (hM []) hZ w6 w7 hf hl) qa qc (g := mkF m pc Ls st) rfl hsize (Steps.refl _) (argsL := argsL) (rest := rest) hlen hst (by show 2 * 0 + _ ≤ _; omega) hd (fun _ _ => ⟨has, eT, hc, hs⟩)
  dsimp only [Pt.U, Pt.locs, Pt.cells, Pt.slots] at X' l' y' z' hst hQ
  subst l' y' z' hp
  exact Go.to (fun t q => hst.trans q) (k T' v L X' hQ)
theorem g_instY (X : Stand p l e R s m args below meth c T locs cells slots) (hx : p.tables.exec = Jvm.exec) (hZ : Z.Warmed39 s.vm) {own K : String} {index : Nat} {a : Addr} (hown : s.vm.findClass own = some m.cls) (w : (Cond.classLink own index K).before a0 Z = true) (eT : T.heap = h) (F : Ins Z h a K true) (hd : decode c.code pc = .ok (.instanceof index, 3)) (hp : pc + 3 = pc') (k : ∀ (T' : State), Stand p l e R s m args below meth c T' locs cells slots → T'.heap = h → Go p e below G (T'.setTop (mkF m pc' Ls (.int 1 :: st)))) : Go p e below G (T.setTop (mkF m pc Ls (.ref a :: st))) := by
  obtain ⟨T', X', e', hst⟩ := instY X hx hZ hown w eT F (g := mkF m pc Ls (.ref a :: st)) rfl rfl hd
  subst hp; exact Go.to hst (k T' X' e')
theorem g_instNo (X : Stand p l e R s m args below meth c T locs cells slots) (hx : p.tables.exec = Jvm.exec) (hZ : Z.Warmed39 s.vm) {own K C : String} {index : Nat} {a : Addr} (hown : s.vm.findClass own = some m.cls) (w : (Cond.classLink own index K).before a0 Z = true) (eT : T.heap = h) (E : Exa Z h a C) (F : ∃ c t, Z.vm.findClass C = some c ∧ Z.vm.findClass K = some t ∧ Z.vm.assignable c t = false) (hd : decode c.code pc = .ok (.instanceof index, 3)) (hp : pc + 3 = pc') (k : ∀ (T' : State), Stand p l e R s m args below meth c T' locs cells slots → T'.heap = h → Go p e below G (T'.setTop (mkF m pc' Ls (.int 0 :: st)))) : Go p e below G (T.setTop (mkF m pc Ls (.ref a :: st))) := by
  obtain ⟨T', X', e', hst⟩ := instNo X hx hZ hown w eT E F (g := mkF m pc Ls (.ref a :: st)) rfl rfl hd
  subst hp; exact Go.to hst (k T' X' e')
theorem g_castY (X : Stand p l e R s m args below meth c T locs cells slots) (hx : p.tables.exec = Jvm.exec) (hZ : Z.Warmed39 s.vm) {own K : String} {index : Nat} {a : Addr} (hown : s.vm.findClass own = some m.cls) (w : (Cond.classLink own index K).before a0 Z = true) (eT : T.heap = h) (F : Ins Z h a K true) (hd : decode c.code pc = .ok (.checkcast index, 3)) (hp : pc + 3 = pc') (k : ∀ (T' : State), Stand p l e R s m args below meth c T' locs cells slots → T'.heap = h → Go p e below G (T'.setTop (mkF m pc' Ls (.ref a :: st)))) : Go p e below G (T.setTop (mkF m pc Ls (.ref a :: st))) := by
  obtain ⟨T', X', e', hst⟩ := castY X hx hZ hown w eT F (g := mkF m pc Ls (.ref a :: st)) rfl rfl hd
  subst hp; exact Go.to hst (k T' X' e')
end Kit2

theorem own_nn {x : Int32} : ¬ x < 0 ↔ 0 ≤ x.toInt := by rw [Int32.lt_iff_toInt_lt]; simp
theorem own_div {x y : Int32} (hx : 0 ≤ x.toInt) (hy : 0 < y.toInt) : (x / y).toInt = x.toInt / y.toInt := by
  have r := rng32 x
  have q1 : 0 ≤ x.toInt / y.toInt := Int.ediv_nonneg hx (Int.le_of_lt hy)
  have q2 : x.toInt / y.toInt ≤ x.toInt := Int.ediv_le_self _ hx
  rw [Int32.toInt_div, Int.tdiv_eq_ediv_of_nonneg hx]
  exact Int.bmod_eq_of_le (by omega) (by omega)
theorem own_rem {x y : Int32} (hx : 0 ≤ x.toInt) (hy : 0 < y.toInt) : (x - x / y * y).toInt = x.toInt % y.toInt := by
  have r := rng32 x
  have ry := rng32 y
  have q1 : 0 ≤ x.toInt % y.toInt := Int.emod_nonneg _ (by omega)
  have q2 : x.toInt % y.toInt < y.toInt := Int.emod_lt_of_pos _ hy
  have q3 : x.toInt / y.toInt * y.toInt = x.toInt - x.toInt % y.toInt := by rw [Int.emod_def, Int.mul_comm]; omega
  have q4 := Int.emod_add_mul_ediv x.toInt y.toInt
  have c1 := c_imul (x / y) y
  rw [own_div hx hy, q3] at c1
  have q5 : x.toInt % y.toInt ≤ x.toInt := by
    have := Int.ediv_nonneg hx (Int.le_of_lt hy)
    have := Int.mul_nonneg this (Int.le_of_lt hy)
    omega
  have c2 := c_isub x (x / y * y)
  have r2 := rng32 (x - x / y * y)
  have r3 := rng32 (x / y * y)
  omega
theorem own_mask (x : Int32) : 0 ≤ (x &&& 2147483647).toInt := by
  have h : (x &&& 2147483647).toBitVec.msb = false := by
    rw [Int32.toBitVec_and, BitVec.msb_and]
    have : (2147483647 : Int32).toBitVec.msb = false := by decide
    rw [this, Bool.and_false]
  have := BitVec.toInt_nonneg_of_msb_false h
  exact this
theorem own_nat {x : Int32} {n : Nat} (h : x.toInt = n) : x.toNatClampNeg = n := by
  show x.toInt.toNat = n; rw [h]; rfl

theorem mem_i {α : Type} {l : List α} {x : α} (i : Nat) (h : l[i]? = some x) : x ∈ l := List.mem_of_getElem? h
def fs_E : List (String × String × String) := [("com/example/sundskrift/sundskrift/core/xml/ReadOnlyNode", "owner", "Lcom/example/sundskrift/sundskrift/core/xml/ReadOnlyDocument;"), ("com/example/sundskrift/sundskrift/core/xml/ReadOnlyNode", "parent", "Lcom/example/sundskrift/sundskrift/core/xml/ReadOnlyParent;"), ("com/example/sundskrift/sundskrift/core/xml/ReadOnlyNode", "previous", "Lcom/example/sundskrift/sundskrift/core/xml/ReadOnlyNode;"), ("com/example/sundskrift/sundskrift/core/xml/ReadOnlyNode", "next", "Lcom/example/sundskrift/sundskrift/core/xml/ReadOnlyNode;"), ("com/example/sundskrift/sundskrift/core/xml/ReadOnlyParent", "first", "Lcom/example/sundskrift/sundskrift/core/xml/ReadOnlyNode;"), ("com/example/sundskrift/sundskrift/core/xml/ReadOnlyParent", "last", "Lcom/example/sundskrift/sundskrift/core/xml/ReadOnlyNode;"), ("com/example/sundskrift/sundskrift/core/xml/ReadOnlyNamed", "name", "Ljava/lang/String;"), ("com/example/sundskrift/sundskrift/core/xml/ReadOnlyNamed", "prefix", "Ljava/lang/String;"), ("com/example/sundskrift/sundskrift/core/xml/ReadOnlyNamed", "localName", "Ljava/lang/String;"), ("com/example/sundskrift/sundskrift/core/xml/ReadOnlyNamed", "namespace", "Ljava/lang/String;"), ("com/example/sundskrift/sundskrift/core/xml/ReadOnlyElement", "attributes", "[Lcom/example/sundskrift/sundskrift/core/xml/ReadOnlyAttr;"), ("com/example/sundskrift/sundskrift/core/xml/ReadOnlyElement", "startTagEnd", "I"), ("com/example/sundskrift/sundskrift/core/xml/ReadOnlyElement", "endTagEnd", "I")]
theorem lds_E {Z : State} {a0 : Array Value} (hw : ∀ d ∈ tables_1, d.before a0 Z = true) : Lds Z a0 "com/example/sundskrift/sundskrift/core/xml/ReadOnlyElement" fs_E := by
  intro q hq
  simp only [fs_E, List.mem_cons, List.not_mem_nil, or_false] at hq
  rcases hq with rfl | rfl | rfl | rfl | rfl | rfl | rfl | rfl | rfl | rfl | rfl | rfl | rfl
  · exact Or.inr (hw _ (List.mem_of_getElem? (i := 46) rfl))
  · exact Or.inl (hw _ (List.mem_of_getElem? (i := 100) rfl))
  · exact Or.inl (hw _ (List.mem_of_getElem? (i := 101) rfl))
  · exact Or.inl (hw _ (List.mem_of_getElem? (i := 104) rfl))
  · exact Or.inl (hw _ (List.mem_of_getElem? (i := 99) rfl))
  · exact Or.inl (hw _ (List.mem_of_getElem? (i := 95) rfl))
  · exact Or.inr (hw _ (List.mem_of_getElem? (i := 48) rfl))
  · exact Or.inr (hw _ (List.mem_of_getElem? (i := 50) rfl))
  · exact Or.inr (hw _ (List.mem_of_getElem? (i := 52) rfl))
  · exact Or.inr (hw _ (List.mem_of_getElem? (i := 54) rfl))
  · exact Or.inr (hw _ (List.mem_of_getElem? (i := 56) rfl))
  · exact Or.inr (hw _ (List.mem_of_getElem? (i := 58) rfl))
  · exact Or.inl (hw _ (List.mem_of_getElem? (i := 60) rfl))
theorem un_E : fs_E.all (fun q => fs_E.all (fun r => decide (q.2.1 = r.2.1 → q = r))) = true := by decide +kernel
theorem de_E : fs_E.all (fun q => (parseFieldDescriptor q.2.2).isSome) = true := by decide +kernel
def fs_X : List (String × String × String) := [("com/example/sundskrift/sundskrift/core/xml/ReadOnlyNode", "owner", "Lcom/example/sundskrift/sundskrift/core/xml/ReadOnlyDocument;"), ("com/example/sundskrift/sundskrift/core/xml/ReadOnlyNode", "parent", "Lcom/example/sundskrift/sundskrift/core/xml/ReadOnlyParent;"), ("com/example/sundskrift/sundskrift/core/xml/ReadOnlyNode", "previous", "Lcom/example/sundskrift/sundskrift/core/xml/ReadOnlyNode;"), ("com/example/sundskrift/sundskrift/core/xml/ReadOnlyNode", "next", "Lcom/example/sundskrift/sundskrift/core/xml/ReadOnlyNode;"), ("com/example/sundskrift/sundskrift/core/xml/ReadOnlyCharacterData", "data", "Ljava/lang/String;"), ("com/example/sundskrift/sundskrift/core/xml/ReadOnlyText", "blank", "Z")]
theorem lds_X {Z : State} {a0 : Array Value} (hw : ∀ d ∈ tables_1, d.before a0 Z = true) : Lds Z a0 "com/example/sundskrift/sundskrift/core/xml/ReadOnlyText" fs_X := by
  intro q hq
  simp only [fs_X, List.mem_cons, List.not_mem_nil, or_false] at hq
  rcases hq with rfl | rfl | rfl | rfl | rfl | rfl
  · exact Or.inr (hw _ (List.mem_of_getElem? (i := 77) rfl))
  · exact Or.inl (hw _ (List.mem_of_getElem? (i := 93) rfl))
  · exact Or.inl (hw _ (List.mem_of_getElem? (i := 97) rfl))
  · exact Or.inl (hw _ (List.mem_of_getElem? (i := 103) rfl))
  · exact Or.inr (hw _ (List.mem_of_getElem? (i := 79) rfl))
  · exact Or.inr (hw _ (List.mem_of_getElem? (i := 81) rfl))
theorem un_X : fs_X.all (fun q => fs_X.all (fun r => decide (q.2.1 = r.2.1 → q = r))) = true := by decide +kernel
theorem de_X : fs_X.all (fun q => (parseFieldDescriptor q.2.2).isSome) = true := by decide +kernel
/-! the tree by numbers: nodes 0 .. 4 -/
def nup (f : Nat → Nat) (i v : Nat) : Nat → Nat := fun j => if j = i then v else f j
def sup (f : Nat → Option Nat) (i : Nat) (v : Option Nat) : Nat → Option Nat := fun j => if j = i then v else f j
def nZ : Nat → Nat := fun _ => 0
def oZ : Nat → Option Nat := fun _ => none
def stp (D : Nat → Nat) (r e : Nat) : Nat := if e < 4 ∧ D r < D (e + 1) then e + 1 else e
def en (D : Nat → Nat) (r : Nat) : Nat := stp D r (stp D r (stp D r (stp D r r)))
theorem stp_le (D : Nat → Nat) (r e : Nat) (h : e ≤ 4) : stp D r e ≤ 4 := by unfold stp; split <;> omega
def leaf (D : Nat → Nat) (i : Nat) : Bool := decide (i = 4) || !decide (D i < D (i + 1))
def upw (P N : Nat → Option Nat) (r : Nat) : Nat → Nat → Option (Option Nat)
  | 0, _ => none
  | k + 1, t => match N t with
    | some j => some (some j)
    | none => match P t with
      | none => none
      | some q => if q = r then some none else upw P N r k q
def aN (N : Nat → Option Nat) (L : Nat → Option Nat) (r i : Nat) : Nat → Option Nat := match L r with
  | none => N
  | some j => sup N j (some i)
def aF (F : Nat → Option Nat) (L : Nat → Option Nat) (r i : Nat) : Nat → Option Nat := match L r with
  | none => sup F r (some i)
  | some _ => F
def Bd (f : Nat → Option Nat) : Prop := ∀ i j, f i = some j → j < 5
theorem bd_Z : Bd oZ := fun i j h => by cases h
theorem bd_sup {f : Nat → Option Nat} (h : Bd f) (i v : Nat) (hv : v < 5) : Bd (sup f i (some v)) := fun k j q => by
  unfold sup at q
  split at q
  · cases q; exact hv
  · exact h k j q
theorem bd_aN {N L : Nat → Option Nat} (h : Bd N) (r i : Nat) (hv : i < 5) : Bd (aN N L r i) := by
  unfold aN
  split
  · exact h
  · exact bd_sup h _ _ hv
theorem bd_aF {N L : Nat → Option Nat} (h : Bd N) (r i : Nat) (hv : i < 5) : Bd (aF N L r i) := by
  unfold aF
  split
  · exact bd_sup h _ _ hv
  · exact h
def DD (d2 d3 d4 : Nat) : Nat → Nat := nup (nup (nup (nup nZ 1 1) 2 d2) 3 d3) 4 d4
def Qa : Nat → Nat := nup nZ 1 1
def Qb (d2 : Nat) : Nat → Nat := nup Qa d2 2
def Qc (d2 d3 : Nat) : Nat → Nat := nup (Qb d2) d3 3
def PP (d2 d3 d4 : Nat) : Nat → Nat := nup (nup (nup (nup nZ 1 (nZ 0)) 2 (Qa (d2 - 1))) 3 (Qb d2 (d3 - 1))) 4 (Qc d2 d3 (d4 - 1))
/-- the four lists behind the first k appends -/
def tP (p : Nat → Nat) : Nat → Nat → Option Nat
  | 0 => oZ
  | k + 1 => sup (tP p k) (k + 1) (some (p (k + 1)))
def tL (p : Nat → Nat) : Nat → Nat → Option Nat
  | 0 => oZ
  | k + 1 => sup (tL p k) (p (k + 1)) (some (k + 1))
def tN (p : Nat → Nat) : Nat → Nat → Option Nat
  | 0 => oZ
  | k + 1 => aN (tN p k) (tL p k) (p (k + 1)) (k + 1)
def tF (p : Nat → Nat) : Nat → Nat → Option Nat
  | 0 => oZ
  | k + 1 => aF (tF p k) (tL p k) (p (k + 1)) (k + 1)
def K5 (k1 k2 k3 k4 : Bool) : Nat → Bool
  | 1 => k1
  | 2 => k2
  | 3 => k3
  | 4 => k4
  | _ => false
def fol (kd : Nat → Bool) (P N F : Nat → Option Nat) (r x : Nat) : Option (Option Nat) := match kd x, F x with
  | false, some c => some (some c)
  | _, _ => upw P N r 5 x
def chkR (kd : Nat → Bool) (D : Nat → Nat) (P N F : Nat → Option Nat) (r : Nat) : Bool :=
  kd r || decide (en D r = r) || (List.range 5).all fun x => !(decide (r < x) && decide (x ≤ en D r)) || decide (fol kd P N F r x = some (if x < en D r then some (x + 1) else none))
def chk (d2 d3 d4 : Nat) (k1 k2 k3 k4 : Bool) : Bool :=
  let D := DD d2 d3 d4
  let p := PP d2 d3 d4
  let kd := K5 k1 k2 k3 k4
  !((!k1 || leaf D 1) && (!k2 || leaf D 2) && (!k3 || leaf D 3)) ||
  (!kd (p 1) && !kd (p 2) && !kd (p 3) && !kd (p 4) && decide (p 1 < 5) && decide (p 2 < 5) && decide (p 3 < 5) && decide (p 4 < 5) && decide (en D 0 = 4) &&
   (List.range 5).all fun r => chkR kd D (tP p 4) (tN p 4) (tF p 4) r)
def bools : List Bool := [false, true]
set_option maxRecDepth 65536 in
set_option maxHeartbeats 40000000 in
theorem own_chk : ((List.range 3).all fun d2 => (List.range 4).all fun d3 => (List.range 5).all fun d4 => !(decide (1 ≤ d2) && decide (1 ≤ d3) && decide (1 ≤ d4) && decide (d3 ≤ d2 + 1) && decide (d4 ≤ d3 + 1)) || bools.all fun k1 => bools.all fun k2 => bools.all fun k3 => bools.all fun k4 => chk d2 d3 d4 k1 k2 k3 k4) = true := by decide +kernel

def cl : Bool → String
  | true => "com/example/sundskrift/sundskrift/core/xml/ReadOnlyText"
  | false => "com/example/sundskrift/sundskrift/core/xml/ReadOnlyElement"
def fsN : Bool → List (String × String × String)
  | true => fs_X
  | false => fs_E
def ov (na : Nat → Addr) : Option Nat → Value
  | none => .null
  | some j => .ref (na j)
theorem ov_ref (na : Nat → Addr) (o : Option Nat) : (ov na o).isRef = true := by cases o <;> rfl
def gup (gs : Nat → String → Value) (i : Nat) (n : String) (v : Value) : Nat → String → Value := fun j => if j = i then set (gs i) n v else gs j
def TS (Z : State) (h : Heap) (na : Nat → Addr) (kd : Nat → Bool) (gs : Nat → String → Value) : Prop := ∀ i, i < 5 → Ob Z h (na i) (cl (kd i)) (fsN (kd i)) (gs i)
def Inj5 (na : Nat → Addr) (n0 : Nat) : Prop := (∀ i j, i < 5 → j < 5 → na i = na j → i = j) ∧ ∀ i, i < 5 → n0 ≤ na i
def nas (na : Nat → Addr) : List Addr := [na 0, na 1, na 2, na 3, na 4]
theorem nas_mem (na : Nat → Addr) {i : Nat} (hi : i < 5) : na i ∈ nas na := by
  have : i = 0 ∨ i = 1 ∨ i = 2 ∨ i = 3 ∨ i = 4 := by omega
  rcases this with rfl | rfl | rfl | rfl | rfl <;> simp [nas]
theorem nas_all (na : Nat → Addr) {P : Addr → Prop} (h : ∀ i, i < 5 → P (na i)) : ∀ x ∈ nas na, P x :=
  allS (h 0 (by decide)) (allS (h 1 (by decide)) (allS (h 2 (by decide)) (allS (h 3 (by decide)) (allS (h 4 (by decide)) all0))))
def RR (na : Nat → Addr) (gs : Nat → String → Value) (P N F L : Nat → Option Nat) : Prop := ∀ i, i < 5 → gs i "parent" = ov na (P i) ∧ gs i "next" = ov na (N i) ∧ gs i "first" = ov na (F i) ∧ gs i "last" = ov na (L i)
theorem TS.ext {Z : State} {h h' : Heap} {na : Nat → Addr} {kd : Nat → Bool} {gs : Nat → String → Value} (t : TS Z h na kd gs) (E : Ext h h') : TS Z h' na kd gs := fun i hi => (t i hi).ext E
theorem lds_N {Z : State} {a0 : Array Value} (hw : ∀ d ∈ tables_1, d.before a0 Z = true) (b : Bool) : Lds Z a0 (cl b) (fsN b) := by
  cases b
  · exact lds_E hw
  · exact lds_X hw
theorem un_N (b : Bool) : (fsN b).all (fun q => (fsN b).all (fun r => decide (q.2.1 = r.2.1 → q = r))) = true := by
  cases b
  · exact un_E
  · exact un_X
theorem de_N (b : Bool) : (fsN b).all (fun q => (parseFieldDescriptor q.2.2).isSome) = true := by
  cases b
  · exact de_E
  · exact de_X
theorem TS.put {Z : State} {a0 : Array Value} (hw : ∀ d ∈ tables_1, d.before a0 Z = true) {h h' : Heap} {na : Nat → Addr} {kd : Nat → Bool} {gs : Nat → String → Value} {n0 i : Nat} {O n d : String} {v : Value} (t : TS Z h na kd gs) (I : Inj5 na n0) (hi : i < 5) (hm : (O, n, d) ∈ fsN (kd i)) (W : Wr h h' (na i) (Jvm.RoadKit.slotOf Z O n d) v) : TS Z h' na kd (gup gs i n v) := fun j hj => by
  by_cases u : j = i
  · subst u
    have := (t j hj).put (lds_N hw (kd j)) (un_N (kd j)) (de_N (kd j)) hm W
    simpa [gup] using this
  · have := (t j hj).other W (fun z => u (I.1 j i hj hi z))
    simpa [gup, u] using this
theorem RR.parent {na : Nat → Addr} {gs : Nat → String → Value} {P N F L : Nat → Option Nat} (r : RR na gs P N F L) (i : Nat) (q : Option Nat) : RR na (gup gs i "parent" (ov na q)) (sup P i q) N F L := fun j hj => by
  by_cases u : j = i
  · subst u; have := r j hj; simp [gup, set, sup, this]
  · have := r j hj; simp [gup, sup, u, this]
theorem RR.previous {na : Nat → Addr} {gs : Nat → String → Value} {P N F L : Nat → Option Nat} (r : RR na gs P N F L) (i : Nat) (v : Value) : RR na (gup gs i "previous" v) P N F L := fun j hj => by
  by_cases u : j = i
  · subst u; have := r j hj; simp [gup, set, this]
  · have := r j hj; simp [gup, u, this]
theorem RR.next {na : Nat → Addr} {gs : Nat → String → Value} {P N F L : Nat → Option Nat} (r : RR na gs P N F L) (i : Nat) (q : Option Nat) : RR na (gup gs i "next" (ov na q)) P (sup N i q) F L := fun j hj => by
  by_cases u : j = i
  · subst u; have := r j hj; simp [gup, set, sup, this]
  · have := r j hj; simp [gup, sup, u, this]
theorem RR.first {na : Nat → Addr} {gs : Nat → String → Value} {P N F L : Nat → Option Nat} (r : RR na gs P N F L) (i : Nat) (q : Option Nat) : RR na (gup gs i "first" (ov na q)) P N (sup F i q) L := fun j hj => by
  by_cases u : j = i
  · subst u; have := r j hj; simp [gup, set, sup, this]
  · have := r j hj; simp [gup, sup, u, this]
theorem RR.last {na : Nat → Addr} {gs : Nat → String → Value} {P N F L : Nat → Option Nat} (r : RR na gs P N F L) (i : Nat) (q : Option Nat) : RR na (gup gs i "last" (ov na q)) P N F (sup L i q) := fun j hj => by
  by_cases u : j = i
  · subst u; have := r j hj; simp [gup, set, sup, this]
  · have := r j hj; simp [gup, sup, u, this]

def S4 (g g' : String → Value) : Prop := g' "parent" = g "parent" ∧ g' "next" = g "next" ∧ g' "first" = g "first" ∧ g' "last" = g "last"
theorem S4.refl (g : String → Value) : S4 g g := ⟨rfl, rfl, rfl, rfl⟩
theorem S4.set {g g' : String → Value} (s : S4 g g') (n : String) (v : Value) (h : decide ("parent" ≠ n) && decide ("next" ≠ n) && decide ("first" ≠ n) && decide ("last" ≠ n) = true) : S4 g (set g' n v) := by
  simp only [Bool.and_eq_true, decide_eq_true_eq] at h
  obtain ⟨⟨⟨h1, h2⟩, h3⟩, h4⟩ := h
  exact ⟨(if_neg h1).trans s.1, (if_neg h2).trans s.2.1, (if_neg h3).trans s.2.2.1, (if_neg h4).trans s.2.2.2⟩
def QO (Z : State) (a : Addr) (C : String) (fs : List (String × String × String)) (g : String → Value) (h0 : Heap) (n0 : Nat) (v : Option Value) (h : Heap) (L : List Loc) : Prop := v = none ∧ Fr n0 L ∧ Keep h0 h [a] ∧ ∃ g', Ob Z h a C fs g' ∧ S4 g g'
def QU (w : Value) (h0 : Heap) (n0 : Nat) (v : Option Value) (h : Heap) (L : List Loc) : Prop := Fr n0 L ∧ h = h0 ∧ v = some w
def bi : Bool → Int32
  | true => 1
  | false => 0
def gE : String → Value := fun n => if n = "startTagEnd" ∨ n = "endTagEnd" then .int 0 else .null
def gX : String → Value := fun n => if n = "blank" then .int 0 else .null
def OvA (Z : State) (h : Heap) (a : Addr) (C : String) : Prop := ∃ cl : Cell, h[a]? = some cl ∧ Ovr Z cl.cls C
theorem OvA.ext {Z : State} {h h' : Heap} {a : Addr} {C : String} (O : OvA Z h a C) (E : Ext h h') : OvA Z h' a C := by obtain ⟨cl, h1, h2⟩ := O; exact ⟨cl, E.2 _ _ h1, h2⟩
theorem OvA.keep {Z : State} {h h' : Heap} {a : Addr} {C : String} {ws : List Addr} (O : OvA Z h a C) (K : Keep h h' ws) : OvA Z h' a C := by
  obtain ⟨cl, h1, h2⟩ := O
  obtain ⟨c', q, r, -⟩ := K.2.2 a cl h1
  exact ⟨c', q, r ▸ h2⟩
theorem sto_of {Z : State} {h : Heap} {a y : Addr} {C : String} {ty : FieldType} {n : Nat} {f : Nat → Value} (V : Av Z h a ty n f) (O : OvA Z h a C) (E : Exa Z h y C) : Sto Z h a (.ref y) := by
  obtain ⟨c, Ar, -⟩ := V
  obtain ⟨cl, h1, h2⟩ := O
  cases h1.symm.trans Ar.1
  exact Sto.of Ar h2 (Ins.self E)
theorem ltN {a : Addr} {n : Nat} (h : a < n) : @LT.lt Nat instLTNat a n := h
theorem own_i {i : Nat} (h : i < 2 ^ 31) : (Int32.ofNat i).toInt = i := Int32.toInt_ofNat_small h
theorem own_eqn {x : Int32} {n : Nat} (h : x.toInt = n) : x = Int32.ofNat n := by
  have r := rng32 x
  rw [← Int32.toInt_inj, own_i (by omega), h]
theorem own_and (x k : Int32) (hk : 0 ≤ k) : 0 ≤ (x &&& k).toInt ∧ (x &&& k).toInt ≤ k.toInt := by
  have hk' : 0 ≤ k.toInt := by have := Int32.le_iff_toInt_le.mp hk; exact this
  have km : k.toBitVec.msb = false := by
    rw [BitVec.msb_eq_toInt]; exact decide_eq_false (by show ¬ k.toInt < 0; omega)
  have hm : (x &&& k).toBitVec.msb = false := by rw [Int32.toBitVec_and, BitVec.msb_and, km, Bool.and_false]
  have e1 : (x &&& k).toInt = (x &&& k).toBitVec.toNat := BitVec.toInt_eq_toNat_of_msb hm
  have e2 : k.toInt = k.toBitVec.toNat := BitVec.toInt_eq_toNat_of_msb km
  rw [e1, e2, Int32.toBitVec_and, BitVec.toNat_and]
  have := Nat.and_le_right (n := x.toBitVec.toNat) (m := k.toBitVec.toNat)
  omega
abbrev IA (Z : State) (h : Heap) (a : Addr) (D : Nat → Nat) : Prop := Av Z h a .int 5 (fun j => .int (Int32.ofNat (D j)))
theorem nup_upd (D : Nat → Nat) (i v : Nat) (j : Nat) : upd (fun j => .int (Int32.ofNat (D j))) i (.int (Int32.ofNat v)) j = .int (Int32.ofNat (nup D i v j)) := by
  unfold upd nup
  by_cases q : j = i
  · rw [if_pos q, if_pos q]
  · rw [if_neg q, if_neg q]
theorem d6_0 : decode prog_162_method_1_code 0 = .ok (.aload_n 0, 1) := by decide +kernel
theorem d6_1 : decode prog_162_method_1_code 1 = .ok (.invokespecial 1, 3) := by decide +kernel
theorem d6_4 : decode prog_162_method_1_code 4 = .ok (.aload_n 0, 1) := by decide +kernel
theorem d6_5 : decode prog_162_method_1_code 5 = .ok (.aload_n 1, 1) := by decide +kernel
theorem d6_6 : decode prog_162_method_1_code 6 = .ok (.putfield 7, 3) := by decide +kernel
theorem d6_9 : decode prog_162_method_1_code 9 = .ok (.return_, 1) := by decide +kernel
theorem pn_NE : plainFor (⟨"com/example/sundskrift/sundskrift/core/xml/ReadOnlyNode", "<init>", "(Lcom/example/sundskrift/sundskrift/core/xml/ReadOnlyDocument;)V"⟩ : MethodName) = true := plainFor_of_name (show plainName "com/example/sundskrift/sundskrift/core/xml/ReadOnlyNode" = true by first | (simp [plainName, overriddenIn]; done) | decide +kernel)
theorem pd_NE : parseMethodDescriptor "(Lcom/example/sundskrift/sundskrift/core/xml/ReadOnlyDocument;)V" = some ⟨[.object "com/example/sundskrift/sundskrift/core/xml/ReadOnlyDocument"], none⟩ := by decide +kernel
theorem ef_NE (m : MethodId) (x0 : Addr) : entryFrame m #[(.ref x0), .null] 2 = mkF m 0 #[.val (.ref x0), .val .null] [] := by first | (simp [entryFrame, mkF, argsToLocals, Value.category]; done) | rfl
set_option maxRecDepth 65536 in
set_option maxHeartbeats 40000000 in
theorem rmNE (l : Launch) (Z : State) (a0 : Array Value) (hw : ∀ d ∈ tables_1, d.before a0 Z = true) (a : Addr) (g : String → Value) (h0 : Heap) (n0 : Nat) (O0 : Ob Z h0 a "com/example/sundskrift/sundskrift/core/xml/ReadOnlyElement" fs_E g) (ga : n0 ≤ a) :
    Ct l Z (⟨"com/example/sundskrift/sundskrift/core/xml/ReadOnlyNode", "<init>", "(Lcom/example/sundskrift/sundskrift/core/xml/ReadOnlyDocument;)V"⟩ : MethodName) prog_162_method_1_code 2 none ({ frames := 1, cells := 0, slots := 0, locals := 12 } : Room) #[(.ref a), .null] h0 (QO Z a "com/example/sundskrift/sundskrift/core/xml/ReadOnlyElement" fs_E g h0 n0) := by
  refine Ct.of pn_NE (fun m => ef_NE m a) ?_
  intro p e s m below meth c T X0 hx hby hml hret hlk hZ hown hnm e0
  refine g_aloadN X0 hx (hb hby d6_0) (pc' := 1) rfl rfl rfl ?_
  refine g_initO X0 hx hZ hown (hw _ (List.mem_of_getElem? (i := 42) rfl)) (hw _ (List.mem_of_getElem? (i := 43) rfl)) (hw _ (List.mem_of_getElem? (i := 44) rfl)) e0 (by rw [hml]; rfl) (hb hby d6_1) (pc' := 4) rfl (by decide) 0 (Nat.le_of_eq rfl) (by decide) ?_
  intro T1 X1 e1
  refine g_aloadN X1 hx (hb hby d6_4) (pc' := 5) rfl rfl rfl ?_
  refine g_aloadN X1 hx (hb hby d6_5) (pc' := 6) rfl rfl rfl ?_
  refine g_putF X1 hx hZ (.object "com/example/sundskrift/sundskrift/core/xml/ReadOnlyDocument") (host := "") hown (Or.inl (hw _ (List.mem_of_getElem? (i := 45) rfl))) Via.refl e1 (O0.2 ("com/example/sundskrift/sundskrift/core/xml/ReadOnlyNode", "owner", "Lcom/example/sundskrift/sundskrift/core/xml/ReadOnlyDocument;") (mem_i 0 rfl)) O0.1 (Or.inr ⟨(hw _ (List.mem_of_getElem? (i := 46) rfl)), rfl, hnm⟩) (hw _ (List.mem_of_getElem? (i := 12) rfl)) (by decide) rfl rfl (hb hby d6_6) (pc' := 9) rfl ?_
  intro T2 h2 X2 e2 W2
  have O2 := O0.put (lds_E hw) un_E de_E (mem_i 0 rfl) W2
  exact g_retV X2 hx hret hlk (hb hby d6_9) (by decide) (by decide) ⟨rfl, Fr.snoc X2 (Fr.nil _) ga, by rw [e2]; exact (Keep.refl _ _).wr W2 (Or.inl (mem_i 0 rfl)), _, by rw [e2]; exact O2, (S4.refl g).set _ _ (by decide)⟩
theorem pn_NX : plainFor (⟨"com/example/sundskrift/sundskrift/core/xml/ReadOnlyNode", "<init>", "(Lcom/example/sundskrift/sundskrift/core/xml/ReadOnlyDocument;)V"⟩ : MethodName) = true := plainFor_of_name (show plainName "com/example/sundskrift/sundskrift/core/xml/ReadOnlyNode" = true by first | (simp [plainName, overriddenIn]; done) | decide +kernel)
theorem pd_NX : parseMethodDescriptor "(Lcom/example/sundskrift/sundskrift/core/xml/ReadOnlyDocument;)V" = some ⟨[.object "com/example/sundskrift/sundskrift/core/xml/ReadOnlyDocument"], none⟩ := by decide +kernel
theorem ef_NX (m : MethodId) (x0 : Addr) : entryFrame m #[(.ref x0), .null] 2 = mkF m 0 #[.val (.ref x0), .val .null] [] := by first | (simp [entryFrame, mkF, argsToLocals, Value.category]; done) | rfl
set_option maxRecDepth 65536 in
set_option maxHeartbeats 40000000 in
theorem rmNX (l : Launch) (Z : State) (a0 : Array Value) (hw : ∀ d ∈ tables_1, d.before a0 Z = true) (a : Addr) (g : String → Value) (h0 : Heap) (n0 : Nat) (O0 : Ob Z h0 a "com/example/sundskrift/sundskrift/core/xml/ReadOnlyText" fs_X g) (ga : n0 ≤ a) :
    Ct l Z (⟨"com/example/sundskrift/sundskrift/core/xml/ReadOnlyNode", "<init>", "(Lcom/example/sundskrift/sundskrift/core/xml/ReadOnlyDocument;)V"⟩ : MethodName) prog_162_method_1_code 2 none ({ frames := 1, cells := 0, slots := 0, locals := 12 } : Room) #[(.ref a), .null] h0 (QO Z a "com/example/sundskrift/sundskrift/core/xml/ReadOnlyText" fs_X g h0 n0) := by
  refine Ct.of pn_NX (fun m => ef_NX m a) ?_
  intro p e s m below meth c T X0 hx hby hml hret hlk hZ hown hnm e0
  refine g_aloadN X0 hx (hb hby d6_0) (pc' := 1) rfl rfl rfl ?_
  refine g_initO X0 hx hZ hown (hw _ (List.mem_of_getElem? (i := 42) rfl)) (hw _ (List.mem_of_getElem? (i := 43) rfl)) (hw _ (List.mem_of_getElem? (i := 44) rfl)) e0 (by rw [hml]; rfl) (hb hby d6_1) (pc' := 4) rfl (by decide) 0 (Nat.le_of_eq rfl) (by decide) ?_
  intro T1 X1 e1
  refine g_aloadN X1 hx (hb hby d6_4) (pc' := 5) rfl rfl rfl ?_
  refine g_aloadN X1 hx (hb hby d6_5) (pc' := 6) rfl rfl rfl ?_
  refine g_putF X1 hx hZ (.object "com/example/sundskrift/sundskrift/core/xml/ReadOnlyDocument") (host := "") hown (Or.inl (hw _ (List.mem_of_getElem? (i := 45) rfl))) Via.refl e1 (O0.2 ("com/example/sundskrift/sundskrift/core/xml/ReadOnlyNode", "owner", "Lcom/example/sundskrift/sundskrift/core/xml/ReadOnlyDocument;") (mem_i 0 rfl)) O0.1 (Or.inr ⟨(hw _ (List.mem_of_getElem? (i := 77) rfl)), rfl, hnm⟩) (hw _ (List.mem_of_getElem? (i := 65) rfl)) (by decide) rfl rfl (hb hby d6_6) (pc' := 9) rfl ?_
  intro T2 h2 X2 e2 W2
  have O2 := O0.put (lds_X hw) un_X de_X (mem_i 0 rfl) W2
  exact g_retV X2 hx hret hlk (hb hby d6_9) (by decide) (by decide) ⟨rfl, Fr.snoc X2 (Fr.nil _) ga, by rw [e2]; exact (Keep.refl _ _).wr W2 (Or.inl (mem_i 0 rfl)), _, by rw [e2]; exact O2, (S4.refl g).set _ _ (by decide)⟩
theorem d5_0 : decode prog_167_method_1_code 0 = .ok (.aload_n 0, 1) := by decide +kernel
theorem d5_1 : decode prog_167_method_1_code 1 = .ok (.aload_n 1, 1) := by decide +kernel
theorem d5_2 : decode prog_167_method_1_code 2 = .ok (.invokespecial 1, 3) := by decide +kernel
theorem d5_5 : decode prog_167_method_1_code 5 = .ok (.return_, 1) := by decide +kernel
theorem pn_PA : plainFor (⟨"com/example/sundskrift/sundskrift/core/xml/ReadOnlyParent", "<init>", "(Lcom/example/sundskrift/sundskrift/core/xml/ReadOnlyDocument;)V"⟩ : MethodName) = true := plainFor_of_name (show plainName "com/example/sundskrift/sundskrift/core/xml/ReadOnlyParent" = true by first | (simp [plainName, overriddenIn]; done) | decide +kernel)
theorem pd_PA : parseMethodDescriptor "(Lcom/example/sundskrift/sundskrift/core/xml/ReadOnlyDocument;)V" = some ⟨[.object "com/example/sundskrift/sundskrift/core/xml/ReadOnlyDocument"], none⟩ := by decide +kernel
theorem ef_PA (m : MethodId) (x0 : Addr) : entryFrame m #[(.ref x0), .null] 2 = mkF m 0 #[.val (.ref x0), .val .null] [] := by first | (simp [entryFrame, mkF, argsToLocals, Value.category]; done) | rfl
set_option maxRecDepth 65536 in
set_option maxHeartbeats 40000000 in
theorem rmPA (l : Launch) (Z : State) (a0 : Array Value) (hw : ∀ d ∈ tables_1, d.before a0 Z = true) (a : Addr)  (g : String → Value) (h0 : Heap) (n0 : Nat) (O0 : Ob Z h0 a "com/example/sundskrift/sundskrift/core/xml/ReadOnlyElement" fs_E g) (ga : n0 ≤ a) :
    Ct l Z (⟨"com/example/sundskrift/sundskrift/core/xml/ReadOnlyParent", "<init>", "(Lcom/example/sundskrift/sundskrift/core/xml/ReadOnlyDocument;)V"⟩ : MethodName) prog_167_method_1_code 2 none ({ frames := 2, cells := 0, slots := 0, locals := 25 } : Room) #[(.ref a), .null] h0 (QO Z a "com/example/sundskrift/sundskrift/core/xml/ReadOnlyElement" fs_E g h0 n0) := by
  refine Ct.of pn_PA (fun m => ef_PA m a) ?_
  intro p e s m below meth c T X0 hx hby hml hret hlk hZ hown hnm e0
  refine g_aloadN X0 hx (hb hby d5_0) (pc' := 1) rfl rfl rfl ?_
  refine g_aloadN X0 hx (hb hby d5_1) (pc' := 2) rfl rfl rfl ?_
  refine g_callI X0 hx hZ 0 (a := a) hown rfl (hw _ (List.mem_of_getElem? (i := 37) rfl)) (hw _ (List.mem_of_getElem? (i := 38) rfl)) (hw _ (List.mem_of_getElem? (i := 40) rfl)) (hw _ (List.mem_of_getElem? (i := 41) rfl)) (by decide) e0 (rmNE l Z a0 hw a g h0 n0 O0 ga) (by decide) (by decide) (by rw [hml]; rfl) (argsL := [.null]) (rest := []) (lenOf pd_NE rfl) rfl (Nat.le_of_eq rfl) (hb hby d5_2) (pc' := 5) rfl (by decide) (by decide) rfl ?_
  rintro T1 _ L1 X1 ⟨rfl, N1, K1, g1, O1, s1⟩
  show Go p e below _ (T1.setTop (mkF m 5 #[.val (.ref a), .val .null] []))
  exact g_retV X1 hx hret hlk (hb hby d5_5) (by decide) (by decide) ⟨rfl, (Fr.nil _).app N1, K1, _, O1, s1⟩
theorem d4_0 : decode prog_161_method_1_code 0 = .ok (.aload_n 0, 1) := by decide +kernel
theorem d4_1 : decode prog_161_method_1_code 1 = .ok (.aload_n 1, 1) := by decide +kernel
theorem d4_2 : decode prog_161_method_1_code 2 = .ok (.invokespecial 1, 3) := by decide +kernel
theorem d4_5 : decode prog_161_method_1_code 5 = .ok (.aload_n 0, 1) := by decide +kernel
theorem d4_6 : decode prog_161_method_1_code 6 = .ok (.aload_n 2, 1) := by decide +kernel
theorem d4_7 : decode prog_161_method_1_code 7 = .ok (.putfield 7, 3) := by decide +kernel
theorem d4_10 : decode prog_161_method_1_code 10 = .ok (.aload_n 0, 1) := by decide +kernel
theorem d4_11 : decode prog_161_method_1_code 11 = .ok (.aload_n 3, 1) := by decide +kernel
theorem d4_12 : decode prog_161_method_1_code 12 = .ok (.putfield 13, 3) := by decide +kernel
theorem d4_15 : decode prog_161_method_1_code 15 = .ok (.aload_n 0, 1) := by decide +kernel
theorem d4_16 : decode prog_161_method_1_code 16 = .ok (.aload 4, 2) := by decide +kernel
theorem d4_18 : decode prog_161_method_1_code 18 = .ok (.putfield 16, 3) := by decide +kernel
theorem d4_21 : decode prog_161_method_1_code 21 = .ok (.aload_n 0, 1) := by decide +kernel
theorem d4_22 : decode prog_161_method_1_code 22 = .ok (.aload 5, 2) := by decide +kernel
theorem d4_24 : decode prog_161_method_1_code 24 = .ok (.putfield 19, 3) := by decide +kernel
theorem d4_27 : decode prog_161_method_1_code 27 = .ok (.return_, 1) := by decide +kernel
theorem pn_NM : plainFor (⟨"com/example/sundskrift/sundskrift/core/xml/ReadOnlyNamed", "<init>", "(Lcom/example/sundskrift/sundskrift/core/xml/ReadOnlyDocument;Ljava/lang/String;Ljava/lang/String;Ljava/lang/String;Ljava/lang/String;)V"⟩ : MethodName) = true := plainFor_of_name (show plainName "com/example/sundskrift/sundskrift/core/xml/ReadOnlyNamed" = true by first | (simp [plainName, overriddenIn]; done) | decide +kernel)
theorem pd_NM : parseMethodDescriptor "(Lcom/example/sundskrift/sundskrift/core/xml/ReadOnlyDocument;Ljava/lang/String;Ljava/lang/String;Ljava/lang/String;Ljava/lang/String;)V" = some ⟨[.object "com/example/sundskrift/sundskrift/core/xml/ReadOnlyDocument", .object "java/lang/String", .object "java/lang/String", .object "java/lang/String", .object "java/lang/String"], none⟩ := by decide +kernel
theorem ef_NM (m : MethodId) (x0 : Addr) (x2 : Addr) (x4 : Addr) : entryFrame m #[(.ref x0), .null, (.ref x2), .null, (.ref x4), .null] 6 = mkF m 0 #[.val (.ref x0), .val .null, .val (.ref x2), .val .null, .val (.ref x4), .val .null] [] := by first | (simp [entryFrame, mkF, argsToLocals, Value.category]; done) | rfl
set_option maxRecDepth 65536 in
set_option maxHeartbeats 40000000 in
theorem rmNM (l : Launch) (Z : State) (a0 : Array Value) (hw : ∀ d ∈ tables_1, d.before a0 Z = true) (a : Addr) (u1 u2 : Addr) (g : String → Value) (h0 : Heap) (n0 : Nat) (O0 : Ob Z h0 a "com/example/sundskrift/sundskrift/core/xml/ReadOnlyElement" fs_E g) (ga : n0 ≤ a) :
    Ct l Z (⟨"com/example/sundskrift/sundskrift/core/xml/ReadOnlyNamed", "<init>", "(Lcom/example/sundskrift/sundskrift/core/xml/ReadOnlyDocument;Ljava/lang/String;Ljava/lang/String;Ljava/lang/String;Ljava/lang/String;)V"⟩ : MethodName) prog_161_method_1_code 6 none ({ frames := 3, cells := 0, slots := 0, locals := 38 } : Room) #[(.ref a), .null, (.ref u1), .null, (.ref u2), .null] h0 (QO Z a "com/example/sundskrift/sundskrift/core/xml/ReadOnlyElement" fs_E g h0 n0) := by
  refine Ct.of pn_NM (fun m => ef_NM m a u1 u2) ?_
  intro p e s m below meth c T X0 hx hby hml hret hlk hZ hown hnm e0
  refine g_aloadN X0 hx (hb hby d4_0) (pc' := 1) rfl rfl rfl ?_
  refine g_aloadN X0 hx (hb hby d4_1) (pc' := 2) rfl rfl rfl ?_
  refine g_callI X0 hx hZ 0 (a := a) hown rfl (hw _ (List.mem_of_getElem? (i := 32) rfl)) (hw _ (List.mem_of_getElem? (i := 33) rfl)) (hw _ (List.mem_of_getElem? (i := 35) rfl)) (hw _ (List.mem_of_getElem? (i := 36) rfl)) (by decide) e0 (rmPA l Z a0 hw a g h0 n0 O0 ga) (by decide) (by decide) (by rw [hml]; rfl) (argsL := [.null]) (rest := []) (lenOf pd_PA rfl) rfl (Nat.le_of_eq rfl) (hb hby d4_2) (pc' := 5) rfl (by decide) (by decide) rfl ?_
  rintro T1 _ L1 X1 ⟨rfl, N1, K1, g1, O1, s1⟩
  show Go p e below _ (T1.setTop (mkF m 5 #[.val (.ref a), .val .null, .val (.ref u1), .val .null, .val (.ref u2), .val .null] []))
  refine g_aloadN X1 hx (hb hby d4_5) (pc' := 6) rfl rfl rfl ?_
  refine g_aloadN X1 hx (hb hby d4_6) (pc' := 7) rfl rfl rfl ?_
  refine g_putF X1 hx hZ (.object "java/lang/String") (host := "") hown (Or.inl (hw _ (List.mem_of_getElem? (i := 47) rfl))) Via.refl rfl (O1.2 ("com/example/sundskrift/sundskrift/core/xml/ReadOnlyNamed", "name", "Ljava/lang/String;") (mem_i 6 rfl)) O1.1 (Or.inr ⟨(hw _ (List.mem_of_getElem? (i := 48) rfl)), rfl, hnm⟩) (hw _ (List.mem_of_getElem? (i := 12) rfl)) (by decide) rfl rfl (hb hby d4_7) (pc' := 10) rfl ?_
  intro T2 h2 X2 e2 W2
  have O2 := O1.put (lds_E hw) un_E de_E (mem_i 6 rfl) W2
  refine g_aloadN X2 hx (hb hby d4_10) (pc' := 11) rfl rfl rfl ?_
  refine g_aloadN X2 hx (hb hby d4_11) (pc' := 12) rfl rfl rfl ?_
  refine g_putF X2 hx hZ (.object "java/lang/String") (host := "") hown (Or.inl (hw _ (List.mem_of_getElem? (i := 49) rfl))) Via.refl e2 (O2.2 ("com/example/sundskrift/sundskrift/core/xml/ReadOnlyNamed", "prefix", "Ljava/lang/String;") (mem_i 7 rfl)) O2.1 (Or.inr ⟨(hw _ (List.mem_of_getElem? (i := 50) rfl)), rfl, hnm⟩) (hw _ (List.mem_of_getElem? (i := 12) rfl)) (by decide) rfl rfl (hb hby d4_12) (pc' := 15) rfl ?_
  intro T3 h3 X3 e3 W3
  have O3 := O2.put (lds_E hw) un_E de_E (mem_i 7 rfl) W3
  refine g_aloadN X3 hx (hb hby d4_15) (pc' := 16) rfl rfl rfl ?_
  refine g_aload X3 hx (hb hby d4_16) (pc' := 18) rfl rfl rfl ?_
  refine g_putF X3 hx hZ (.object "java/lang/String") (host := "") hown (Or.inl (hw _ (List.mem_of_getElem? (i := 51) rfl))) Via.refl e3 (O3.2 ("com/example/sundskrift/sundskrift/core/xml/ReadOnlyNamed", "localName", "Ljava/lang/String;") (mem_i 8 rfl)) O3.1 (Or.inr ⟨(hw _ (List.mem_of_getElem? (i := 52) rfl)), rfl, hnm⟩) (hw _ (List.mem_of_getElem? (i := 12) rfl)) (by decide) rfl rfl (hb hby d4_18) (pc' := 21) rfl ?_
  intro T4 h4 X4 e4 W4
  have O4 := O3.put (lds_E hw) un_E de_E (mem_i 8 rfl) W4
  refine g_aloadN X4 hx (hb hby d4_21) (pc' := 22) rfl rfl rfl ?_
  refine g_aload X4 hx (hb hby d4_22) (pc' := 24) rfl rfl rfl ?_
  refine g_putF X4 hx hZ (.object "java/lang/String") (host := "") hown (Or.inl (hw _ (List.mem_of_getElem? (i := 53) rfl))) Via.refl e4 (O4.2 ("com/example/sundskrift/sundskrift/core/xml/ReadOnlyNamed", "namespace", "Ljava/lang/String;") (mem_i 9 rfl)) O4.1 (Or.inr ⟨(hw _ (List.mem_of_getElem? (i := 54) rfl)), rfl, hnm⟩) (hw _ (List.mem_of_getElem? (i := 12) rfl)) (by decide) rfl rfl (hb hby d4_24) (pc' := 27) rfl ?_
  intro T5 h5 X5 e5 W5
  have O5 := O4.put (lds_E hw) un_E de_E (mem_i 9 rfl) W5
  exact g_retV X5 hx hret hlk (hb hby d4_27) (by decide) (by decide) ⟨rfl, (Fr.snoc X5 (Fr.snoc X4 (Fr.snoc X3 (Fr.snoc X2 ((Fr.nil _).app N1) ga) ga) ga) ga), by rw [e5]; exact ((((K1.wr W2 (Or.inl (mem_i 0 rfl))).wr W3 (Or.inl (mem_i 0 rfl))).wr W4 (Or.inl (mem_i 0 rfl))).wr W5 (Or.inl (mem_i 0 rfl))), _, by rw [e5]; exact O5, ((((s1.set _ _ (by decide)).set _ _ (by decide)).set _ _ (by decide)).set _ _ (by decide))⟩
theorem d3_0 : decode prog_159_method_1_code 0 = .ok (.aload_n 0, 1) := by decide +kernel
theorem d3_1 : decode prog_159_method_1_code 1 = .ok (.aload_n 1, 1) := by decide +kernel
theorem d3_2 : decode prog_159_method_1_code 2 = .ok (.aload_n 2, 1) := by decide +kernel
theorem d3_3 : decode prog_159_method_1_code 3 = .ok (.aload_n 3, 1) := by decide +kernel
theorem d3_4 : decode prog_159_method_1_code 4 = .ok (.aload 4, 2) := by decide +kernel
theorem d3_6 : decode prog_159_method_1_code 6 = .ok (.aload 5, 2) := by decide +kernel
theorem d3_8 : decode prog_159_method_1_code 8 = .ok (.invokespecial 3, 3) := by decide +kernel
theorem d3_11 : decode prog_159_method_1_code 11 = .ok (.aload_n 0, 1) := by decide +kernel
theorem d3_12 : decode prog_159_method_1_code 12 = .ok (.aload 6, 2) := by decide +kernel
theorem d3_14 : decode prog_159_method_1_code 14 = .ok (.putfield 9, 3) := by decide +kernel
theorem d3_17 : decode prog_159_method_1_code 17 = .ok (.aload 6, 2) := by decide +kernel
theorem d3_19 : decode prog_159_method_1_code 19 = .ok (.astore 8, 2) := by decide +kernel
theorem d3_21 : decode prog_159_method_1_code 21 = .ok (.aload 8, 2) := by decide +kernel
theorem d3_23 : decode prog_159_method_1_code 23 = .ok (.arraylength, 1) := by decide +kernel
theorem d3_24 : decode prog_159_method_1_code 24 = .ok (.istore 9, 2) := by decide +kernel
theorem d3_26 : decode prog_159_method_1_code 26 = .ok (.iconst 0, 1) := by decide +kernel
theorem d3_27 : decode prog_159_method_1_code 27 = .ok (.istore 10, 2) := by decide +kernel
theorem d3_29 : decode prog_159_method_1_code 29 = .ok (.iload 10, 2) := by decide +kernel
theorem d3_31 : decode prog_159_method_1_code 31 = .ok (.iload 9, 2) := by decide +kernel
theorem d3_33 : decode prog_159_method_1_code 33 = .ok (.if_icmp .ge 22, 3) := by decide +kernel
theorem d3_36 : decode prog_159_method_1_code 36 = .ok (.aload 8, 2) := by decide +kernel
theorem d3_38 : decode prog_159_method_1_code 38 = .ok (.iload 10, 2) := by decide +kernel
theorem d3_40 : decode prog_159_method_1_code 40 = .ok (.aaload, 1) := by decide +kernel
theorem d3_41 : decode prog_159_method_1_code 41 = .ok (.astore 11, 2) := by decide +kernel
theorem d3_43 : decode prog_159_method_1_code 43 = .ok (.aload 11, 2) := by decide +kernel
theorem d3_45 : decode prog_159_method_1_code 45 = .ok (.aload_n 0, 1) := by decide +kernel
theorem d3_46 : decode prog_159_method_1_code 46 = .ok (.putfield 15, 3) := by decide +kernel
theorem d3_49 : decode prog_159_method_1_code 49 = .ok (.iinc 10 1, 3) := by decide +kernel
theorem d3_52 : decode prog_159_method_1_code 52 = .ok (.goto (-23), 3) := by decide +kernel
theorem d3_55 : decode prog_159_method_1_code 55 = .ok (.aload_n 0, 1) := by decide +kernel
theorem d3_56 : decode prog_159_method_1_code 56 = .ok (.iload 7, 2) := by decide +kernel
theorem d3_58 : decode prog_159_method_1_code 58 = .ok (.putfield 21, 3) := by decide +kernel
theorem d3_61 : decode prog_159_method_1_code 61 = .ok (.aload_n 0, 1) := by decide +kernel
theorem d3_62 : decode prog_159_method_1_code 62 = .ok (.iload 7, 2) := by decide +kernel
theorem d3_64 : decode prog_159_method_1_code 64 = .ok (.putfield 25, 3) := by decide +kernel
theorem d3_67 : decode prog_159_method_1_code 67 = .ok (.return_, 1) := by decide +kernel
theorem pn_E : plainFor (⟨"com/example/sundskrift/sundskrift/core/xml/ReadOnlyElement", "<init>", "(Lcom/example/sundskrift/sundskrift/core/xml/ReadOnlyDocument;Ljava/lang/String;Ljava/lang/String;Ljava/lang/String;Ljava/lang/String;[Lcom/example/sundskrift/sundskrift/core/xml/ReadOnlyAttr;I)V"⟩ : MethodName) = true := plainFor_of_name (show plainName "com/example/sundskrift/sundskrift/core/xml/ReadOnlyElement" = true by first | (simp [plainName, overriddenIn]; done) | decide +kernel)
theorem pd_E : parseMethodDescriptor "(Lcom/example/sundskrift/sundskrift/core/xml/ReadOnlyDocument;Ljava/lang/String;Ljava/lang/String;Ljava/lang/String;Ljava/lang/String;[Lcom/example/sundskrift/sundskrift/core/xml/ReadOnlyAttr;I)V" = some ⟨[.object "com/example/sundskrift/sundskrift/core/xml/ReadOnlyDocument", .object "java/lang/String", .object "java/lang/String", .object "java/lang/String", .object "java/lang/String", .array (.object "com/example/sundskrift/sundskrift/core/xml/ReadOnlyAttr"), .int], none⟩ := by decide +kernel
theorem ef_E (m : MethodId) (x0 : Addr) (x2 : Addr) (x4 : Addr) (x6 : Addr) (x7 : Int32) : entryFrame m #[(.ref x0), .null, (.ref x2), .null, (.ref x4), .null, (.ref x6), (.int x7)] 12 = mkF m 0 #[.val (.ref x0), .val .null, .val (.ref x2), .val .null, .val (.ref x4), .val .null, .val (.ref x6), .val (.int x7), .unset, .unset, .unset, .unset] [] := by first | (simp [entryFrame, mkF, argsToLocals, Value.category]; done) | rfl
set_option maxRecDepth 65536 in
set_option maxHeartbeats 40000000 in
theorem rmE (l : Launch) (Z : State) (a0 : Array Value) (hw : ∀ d ∈ tables_1, d.before a0 Z = true) (a : Addr) (u1 u2 u3 : Addr) (g : String → Value) (h0 : Heap) (n0 : Nat) (V0 : Av Z h0 u3 (.object "com/example/sundskrift/sundskrift/core/xml/ReadOnlyAttr") 0 (fun _ => .null)) (ne3 : u3 ≠ a) (O0 : Ob Z h0 a "com/example/sundskrift/sundskrift/core/xml/ReadOnlyElement" fs_E g) (ga : n0 ≤ a) :
    Ct l Z (⟨"com/example/sundskrift/sundskrift/core/xml/ReadOnlyElement", "<init>", "(Lcom/example/sundskrift/sundskrift/core/xml/ReadOnlyDocument;Ljava/lang/String;Ljava/lang/String;Ljava/lang/String;Ljava/lang/String;[Lcom/example/sundskrift/sundskrift/core/xml/ReadOnlyAttr;I)V"⟩ : MethodName) prog_159_method_1_code 12 none ({ frames := 4, cells := 0, slots := 0, locals := 55 } : Room) #[(.ref a), .null, (.ref u1), .null, (.ref u2), .null, (.ref u3), (.int 0)] h0 (QO Z a "com/example/sundskrift/sundskrift/core/xml/ReadOnlyElement" fs_E g h0 n0) := by
  refine Ct.of pn_E (fun m => ef_E m a u1 u2 u3 0) ?_
  intro p e s m below meth c T X0 hx hby hml hret hlk hZ hown hnm e0
  refine g_aloadN X0 hx (hb hby d3_0) (pc' := 1) rfl rfl rfl ?_
  refine g_aloadN X0 hx (hb hby d3_1) (pc' := 2) rfl rfl rfl ?_
  refine g_aloadN X0 hx (hb hby d3_2) (pc' := 3) rfl rfl rfl ?_
  refine g_aloadN X0 hx (hb hby d3_3) (pc' := 4) rfl rfl rfl ?_
  refine g_aload X0 hx (hb hby d3_4) (pc' := 6) rfl rfl rfl ?_
  refine g_aload X0 hx (hb hby d3_6) (pc' := 8) rfl rfl rfl ?_
  refine g_callI X0 hx hZ 0 (a := a) hown rfl (hw _ (List.mem_of_getElem? (i := 27) rfl)) (hw _ (List.mem_of_getElem? (i := 28) rfl)) (hw _ (List.mem_of_getElem? (i := 30) rfl)) (hw _ (List.mem_of_getElem? (i := 31) rfl)) (by decide) e0 (rmNM l Z a0 hw a u1 u2 g h0 n0 O0 ga) (by decide) (by decide) (by rw [hml]; rfl) (argsL := [.null, (.ref u1), .null, (.ref u2), .null]) (rest := []) (lenOf pd_NM rfl) rfl (Nat.le_of_eq rfl) (hb hby d3_8) (pc' := 11) rfl (by decide) (by decide) rfl ?_
  rintro T1 _ L1 X1 ⟨rfl, N1, K1, g1, O1, s1⟩
  show Go p e below _ (T1.setTop (mkF m 11 #[.val (.ref a), .val .null, .val (.ref u1), .val .null, .val (.ref u2), .val .null, .val (.ref u3), .val (.int (0 : Int32)), .unset, .unset, .unset, .unset] []))
  have V1 := V0.keep K1 (ninS ne3 nin0)
  refine g_aloadN X1 hx (hb hby d3_11) (pc' := 12) rfl rfl rfl ?_
  refine g_aload X1 hx (hb hby d3_12) (pc' := 14) rfl rfl rfl ?_
  refine g_putF X1 hx hZ (.array (.object "com/example/sundskrift/sundskrift/core/xml/ReadOnlyAttr")) (host := "") hown (Or.inl (hw _ (List.mem_of_getElem? (i := 55) rfl))) Via.refl rfl (O1.2 ("com/example/sundskrift/sundskrift/core/xml/ReadOnlyElement", "attributes", "[Lcom/example/sundskrift/sundskrift/core/xml/ReadOnlyAttr;") (mem_i 10 rfl)) O1.1 (Or.inr ⟨(hw _ (List.mem_of_getElem? (i := 56) rfl)), rfl, hnm⟩) (hw _ (List.mem_of_getElem? (i := 12) rfl)) (by decide) rfl rfl (hb hby d3_14) (pc' := 17) rfl ?_
  intro T2 h2 X2 e2 W2
  have O2 := O1.put (lds_E hw) un_E de_E (mem_i 10 rfl) W2
  have V2 := V1.other W2 ne3
  refine g_aload X2 hx (hb hby d3_17) (pc' := 19) rfl rfl rfl ?_
  refine g_astore X2 hx (hb hby d3_19) (pc' := 21) rfl rfl (Ls' := #[.val (.ref a), .val .null, .val (.ref u1), .val .null, .val (.ref u2), .val .null, .val (.ref u3), .val (.int (0 : Int32)), .val (.ref u3), .unset, .unset, .unset]) rfl ?_
  refine g_aload X2 hx (hb hby d3_21) (pc' := 23) rfl rfl rfl ?_
  refine g_arraylength X2 hx hZ e2 V2 (z := 0) rfl (hb hby d3_23) (pc' := 24) rfl ?_
  refine g_istore X2 hx (hb hby d3_24) (pc' := 26) rfl (Ls' := #[.val (.ref a), .val .null, .val (.ref u1), .val .null, .val (.ref u2), .val .null, .val (.ref u3), .val (.int (0 : Int32)), .val (.ref u3), .val (.int (0 : Int32)), .unset, .unset]) rfl ?_
  refine g_iconst X2 hx (hb hby d3_26) (pc' := 27) rfl (z := 0) (by decide) ?_
  refine g_istore X2 hx (hb hby d3_27) (pc' := 29) rfl (Ls' := #[.val (.ref a), .val .null, .val (.ref u1), .val .null, .val (.ref u2), .val .null, .val (.ref u3), .val (.int (0 : Int32)), .val (.ref u3), .val (.int (0 : Int32)), .val (.int (0 : Int32)), .unset]) rfl ?_
  refine g_iload X2 hx (hb hby d3_29) (pc' := 31) rfl rfl ?_
  refine g_iload X2 hx (hb hby d3_31) (pc' := 33) rfl rfl ?_
  refine g_icmp_ge X2 hx (hb hby d3_33) (by decide) (pc' := 55) rfl (pcF := 36) rfl (fun hc => ?_) (fun hc => absurd hc (by decide))
  refine g_aloadN X2 hx (hb hby d3_55) (pc' := 56) rfl rfl rfl ?_
  refine g_iload X2 hx (hb hby d3_56) (pc' := 58) rfl rfl ?_
  refine g_putF X2 hx hZ .int (host := "") hown (Or.inl (hw _ (List.mem_of_getElem? (i := 57) rfl))) Via.refl e2 (O2.2 ("com/example/sundskrift/sundskrift/core/xml/ReadOnlyElement", "startTagEnd", "I") (mem_i 11 rfl)) O2.1 (Or.inr ⟨(hw _ (List.mem_of_getElem? (i := 58) rfl)), rfl, hnm⟩) (hw _ (List.mem_of_getElem? (i := 12) rfl)) (by decide) rfl rfl (hb hby d3_58) (pc' := 61) rfl ?_
  intro T3 h3 X3 e3 W3
  have O3 := O2.put (lds_E hw) un_E de_E (mem_i 11 rfl) W3
  refine g_aloadN X3 hx (hb hby d3_61) (pc' := 62) rfl rfl rfl ?_
  refine g_iload X3 hx (hb hby d3_62) (pc' := 64) rfl rfl ?_
  refine g_putF X3 hx hZ .int (host := "") hown (Or.inl (hw _ (List.mem_of_getElem? (i := 59) rfl))) Via.refl e3 (O3.2 ("com/example/sundskrift/sundskrift/core/xml/ReadOnlyElement", "endTagEnd", "I") (mem_i 12 rfl)) O3.1 (Or.inl (hw _ (List.mem_of_getElem? (i := 60) rfl))) (hw _ (List.mem_of_getElem? (i := 12) rfl)) (by decide) rfl rfl (hb hby d3_64) (pc' := 67) rfl ?_
  intro T4 h4 X4 e4 W4
  have O4 := O3.put (lds_E hw) un_E de_E (mem_i 12 rfl) W4
  exact g_retV X4 hx hret hlk (hb hby d3_67) (by decide) (by decide) ⟨rfl, (Fr.snoc X4 (Fr.snoc X3 (Fr.snoc X2 ((Fr.nil _).app N1) ga) ga) ga), by rw [e4]; exact (((K1.wr W2 (Or.inl (mem_i 0 rfl))).wr W3 (Or.inl (mem_i 0 rfl))).wr W4 (Or.inl (mem_i 0 rfl))), _, by rw [e4]; exact O4, (((s1.set _ _ (by decide)).set _ _ (by decide)).set _ _ (by decide))⟩
theorem d10_0 : decode prog_156_method_1_code 0 = .ok (.aload_n 0, 1) := by decide +kernel
theorem d10_1 : decode prog_156_method_1_code 1 = .ok (.aload_n 1, 1) := by decide +kernel
theorem d10_2 : decode prog_156_method_1_code 2 = .ok (.invokespecial 1, 3) := by decide +kernel
theorem d10_5 : decode prog_156_method_1_code 5 = .ok (.aload_n 0, 1) := by decide +kernel
theorem d10_6 : decode prog_156_method_1_code 6 = .ok (.aload_n 2, 1) := by decide +kernel
theorem d10_7 : decode prog_156_method_1_code 7 = .ok (.putfield 7, 3) := by decide +kernel
theorem d10_10 : decode prog_156_method_1_code 10 = .ok (.return_, 1) := by decide +kernel
theorem pn_CD : plainFor (⟨"com/example/sundskrift/sundskrift/core/xml/ReadOnlyCharacterData", "<init>", "(Lcom/example/sundskrift/sundskrift/core/xml/ReadOnlyDocument;Ljava/lang/String;)V"⟩ : MethodName) = true := plainFor_of_name (show plainName "com/example/sundskrift/sundskrift/core/xml/ReadOnlyCharacterData" = true by first | (simp [plainName, overriddenIn]; done) | decide +kernel)
theorem pd_CD : parseMethodDescriptor "(Lcom/example/sundskrift/sundskrift/core/xml/ReadOnlyDocument;Ljava/lang/String;)V" = some ⟨[.object "com/example/sundskrift/sundskrift/core/xml/ReadOnlyDocument", .object "java/lang/String"], none⟩ := by decide +kernel
theorem ef_CD (m : MethodId) (x0 : Addr) (x2 : Addr) : entryFrame m #[(.ref x0), .null, (.ref x2)] 3 = mkF m 0 #[.val (.ref x0), .val .null, .val (.ref x2)] [] := by first | (simp [entryFrame, mkF, argsToLocals, Value.category]; done) | rfl
set_option maxRecDepth 65536 in
set_option maxHeartbeats 40000000 in
theorem rmCD (l : Launch) (Z : State) (a0 : Array Value) (hw : ∀ d ∈ tables_1, d.before a0 Z = true) (a : Addr) (u1 : Addr) (g : String → Value) (h0 : Heap) (n0 : Nat) (O0 : Ob Z h0 a "com/example/sundskrift/sundskrift/core/xml/ReadOnlyText" fs_X g) (ga : n0 ≤ a) :
    Ct l Z (⟨"com/example/sundskrift/sundskrift/core/xml/ReadOnlyCharacterData", "<init>", "(Lcom/example/sundskrift/sundskrift/core/xml/ReadOnlyDocument;Ljava/lang/String;)V"⟩ : MethodName) prog_156_method_1_code 3 none ({ frames := 2, cells := 0, slots := 0, locals := 25 } : Room) #[(.ref a), .null, (.ref u1)] h0 (QO Z a "com/example/sundskrift/sundskrift/core/xml/ReadOnlyText" fs_X g h0 n0) := by
  refine Ct.of pn_CD (fun m => ef_CD m a u1) ?_
  intro p e s m below meth c T X0 hx hby hml hret hlk hZ hown hnm e0
  refine g_aloadN X0 hx (hb hby d10_0) (pc' := 1) rfl rfl rfl ?_
  refine g_aloadN X0 hx (hb hby d10_1) (pc' := 2) rfl rfl rfl ?_
  refine g_callI X0 hx hZ 0 (a := a) hown rfl (hw _ (List.mem_of_getElem? (i := 76) rfl)) (hw _ (List.mem_of_getElem? (i := 38) rfl)) (hw _ (List.mem_of_getElem? (i := 40) rfl)) (hw _ (List.mem_of_getElem? (i := 41) rfl)) (by decide) e0 (rmNX l Z a0 hw a g h0 n0 O0 ga) (by decide) (by decide) (by rw [hml]; rfl) (argsL := [.null]) (rest := []) (lenOf pd_NX rfl) rfl (Nat.le_of_eq rfl) (hb hby d10_2) (pc' := 5) rfl (by decide) (by decide) rfl ?_
  rintro T1 _ L1 X1 ⟨rfl, N1, K1, g1, O1, s1⟩
  show Go p e below _ (T1.setTop (mkF m 5 #[.val (.ref a), .val .null, .val (.ref u1)] []))
  refine g_aloadN X1 hx (hb hby d10_5) (pc' := 6) rfl rfl rfl ?_
  refine g_aloadN X1 hx (hb hby d10_6) (pc' := 7) rfl rfl rfl ?_
  refine g_putF X1 hx hZ (.object "java/lang/String") (host := "") hown (Or.inl (hw _ (List.mem_of_getElem? (i := 78) rfl))) Via.refl rfl (O1.2 ("com/example/sundskrift/sundskrift/core/xml/ReadOnlyCharacterData", "data", "Ljava/lang/String;") (mem_i 4 rfl)) O1.1 (Or.inr ⟨(hw _ (List.mem_of_getElem? (i := 79) rfl)), rfl, hnm⟩) (hw _ (List.mem_of_getElem? (i := 65) rfl)) (by decide) rfl rfl (hb hby d10_7) (pc' := 10) rfl ?_
  intro T2 h2 X2 e2 W2
  have O2 := O1.put (lds_X hw) un_X de_X (mem_i 4 rfl) W2
  exact g_retV X2 hx hret hlk (hb hby d10_10) (by decide) (by decide) ⟨rfl, Fr.snoc X2 ((Fr.nil _).app N1) ga, by rw [e2]; exact K1.wr W2 (Or.inl (mem_i 0 rfl)), _, by rw [e2]; exact O2, s1.set _ _ (by decide)⟩
theorem d9_0 : decode prog_169_method_1_code 0 = .ok (.aload_n 0, 1) := by decide +kernel
theorem d9_1 : decode prog_169_method_1_code 1 = .ok (.aload_n 1, 1) := by decide +kernel
theorem d9_2 : decode prog_169_method_1_code 2 = .ok (.aload_n 2, 1) := by decide +kernel
theorem d9_3 : decode prog_169_method_1_code 3 = .ok (.invokespecial 1, 3) := by decide +kernel
theorem d9_6 : decode prog_169_method_1_code 6 = .ok (.aload_n 0, 1) := by decide +kernel
theorem d9_7 : decode prog_169_method_1_code 7 = .ok (.iload_n 3, 1) := by decide +kernel
theorem d9_8 : decode prog_169_method_1_code 8 = .ok (.putfield 7, 3) := by decide +kernel
theorem d9_11 : decode prog_169_method_1_code 11 = .ok (.return_, 1) := by decide +kernel
theorem pn_X : plainFor (⟨"com/example/sundskrift/sundskrift/core/xml/ReadOnlyText", "<init>", "(Lcom/example/sundskrift/sundskrift/core/xml/ReadOnlyDocument;Ljava/lang/String;Z)V"⟩ : MethodName) = true := plainFor_of_name (show plainName "com/example/sundskrift/sundskrift/core/xml/ReadOnlyText" = true by first | (simp [plainName, overriddenIn]; done) | decide +kernel)
theorem pd_X : parseMethodDescriptor "(Lcom/example/sundskrift/sundskrift/core/xml/ReadOnlyDocument;Ljava/lang/String;Z)V" = some ⟨[.object "com/example/sundskrift/sundskrift/core/xml/ReadOnlyDocument", .object "java/lang/String", .boolean], none⟩ := by decide +kernel
theorem ef_X (m : MethodId) (x0 : Addr) (x2 : Addr) (x3 : Int32) : entryFrame m #[(.ref x0), .null, (.ref x2), (.int x3)] 4 = mkF m 0 #[.val (.ref x0), .val .null, .val (.ref x2), .val (.int x3)] [] := by first | (simp [entryFrame, mkF, argsToLocals, Value.category]; done) | rfl
set_option maxRecDepth 65536 in
set_option maxHeartbeats 40000000 in
theorem rmX (l : Launch) (Z : State) (a0 : Array Value) (hw : ∀ d ∈ tables_1, d.before a0 Z = true) (a : Addr) (u1 : Addr) (g : String → Value) (h0 : Heap) (n0 : Nat) (O0 : Ob Z h0 a "com/example/sundskrift/sundskrift/core/xml/ReadOnlyText" fs_X g) (ga : n0 ≤ a) :
    Ct l Z (⟨"com/example/sundskrift/sundskrift/core/xml/ReadOnlyText", "<init>", "(Lcom/example/sundskrift/sundskrift/core/xml/ReadOnlyDocument;Ljava/lang/String;Z)V"⟩ : MethodName) prog_169_method_1_code 4 none ({ frames := 3, cells := 0, slots := 0, locals := 39 } : Room) #[(.ref a), .null, (.ref u1), (.int 0)] h0 (QO Z a "com/example/sundskrift/sundskrift/core/xml/ReadOnlyText" fs_X g h0 n0) := by
  refine Ct.of pn_X (fun m => ef_X m a u1 0) ?_
  intro p e s m below meth c T X0 hx hby hml hret hlk hZ hown hnm e0
  refine g_aloadN X0 hx (hb hby d9_0) (pc' := 1) rfl rfl rfl ?_
  refine g_aloadN X0 hx (hb hby d9_1) (pc' := 2) rfl rfl rfl ?_
  refine g_aloadN X0 hx (hb hby d9_2) (pc' := 3) rfl rfl rfl ?_
  refine g_callI X0 hx hZ 0 (a := a) hown rfl (hw _ (List.mem_of_getElem? (i := 71) rfl)) (hw _ (List.mem_of_getElem? (i := 72) rfl)) (hw _ (List.mem_of_getElem? (i := 74) rfl)) (hw _ (List.mem_of_getElem? (i := 75) rfl)) (by decide) e0 (rmCD l Z a0 hw a u1 g h0 n0 O0 ga) (by decide) (by decide) (by rw [hml]; rfl) (argsL := [.null, (.ref u1)]) (rest := []) (lenOf pd_CD rfl) rfl (Nat.le_of_eq rfl) (hb hby d9_3) (pc' := 6) rfl (by decide) (by decide) rfl ?_
  rintro T1 _ L1 X1 ⟨rfl, N1, K1, g1, O1, s1⟩
  show Go p e below _ (T1.setTop (mkF m 6 #[.val (.ref a), .val .null, .val (.ref u1), .val (.int (0 : Int32))] []))
  refine g_aloadN X1 hx (hb hby d9_6) (pc' := 7) rfl rfl rfl ?_
  refine g_iloadN X1 hx (hb hby d9_7) (pc' := 8) rfl rfl ?_
  refine g_putF X1 hx hZ .boolean (host := "") hown (Or.inl (hw _ (List.mem_of_getElem? (i := 80) rfl))) Via.refl rfl (O1.2 ("com/example/sundskrift/sundskrift/core/xml/ReadOnlyText", "blank", "Z") (mem_i 5 rfl)) O1.1 (Or.inr ⟨(hw _ (List.mem_of_getElem? (i := 81) rfl)), rfl, hnm⟩) (hw _ (List.mem_of_getElem? (i := 65) rfl)) (by decide) rfl rfl (hb hby d9_8) (pc' := 11) rfl ?_
  intro T2 h2 X2 e2 W2
  have O2 := O1.put (lds_X hw) un_X de_X (mem_i 5 rfl) W2
  exact g_retV X2 hx hret hlk (hb hby d9_11) (by decide) (by decide) ⟨rfl, Fr.snoc X2 ((Fr.nil _).app N1) ga, by rw [e2]; exact K1.wr W2 (Or.inl (mem_i 0 rfl)), _, by rw [e2]; exact O2, s1.set _ _ (by decide)⟩
theorem strs {Z : State} {a0 : Array Value} (hw : ∀ d ∈ tables_1, d.before a0 Z = true) : ∀ a ∈ Bundle.stringAtoms, a.before a0 Z = true := by
  intro d hd
  simp only [Bundle.stringAtoms, List.mem_cons, List.not_mem_nil, or_false] at hd
  rcases hd with rfl | rfl | rfl | rfl | rfl | rfl | rfl
  · first | exact (hw _ (List.mem_of_getElem? (i := 15) rfl)) | exact (hw _ (List.mem_of_getElem? (i := 16) rfl)) | exact (hw _ (List.mem_of_getElem? (i := 17) rfl)) | exact (hw _ (List.mem_of_getElem? (i := 18) rfl)) | exact (hw _ (List.mem_of_getElem? (i := 19) rfl)) | exact (hw _ (List.mem_of_getElem? (i := 20) rfl)) | exact (hw _ (List.mem_of_getElem? (i := 21) rfl))
  · first | exact (hw _ (List.mem_of_getElem? (i := 15) rfl)) | exact (hw _ (List.mem_of_getElem? (i := 16) rfl)) | exact (hw _ (List.mem_of_getElem? (i := 17) rfl)) | exact (hw _ (List.mem_of_getElem? (i := 18) rfl)) | exact (hw _ (List.mem_of_getElem? (i := 19) rfl)) | exact (hw _ (List.mem_of_getElem? (i := 20) rfl)) | exact (hw _ (List.mem_of_getElem? (i := 21) rfl))
  · first | exact (hw _ (List.mem_of_getElem? (i := 15) rfl)) | exact (hw _ (List.mem_of_getElem? (i := 16) rfl)) | exact (hw _ (List.mem_of_getElem? (i := 17) rfl)) | exact (hw _ (List.mem_of_getElem? (i := 18) rfl)) | exact (hw _ (List.mem_of_getElem? (i := 19) rfl)) | exact (hw _ (List.mem_of_getElem? (i := 20) rfl)) | exact (hw _ (List.mem_of_getElem? (i := 21) rfl))
  · first | exact (hw _ (List.mem_of_getElem? (i := 15) rfl)) | exact (hw _ (List.mem_of_getElem? (i := 16) rfl)) | exact (hw _ (List.mem_of_getElem? (i := 17) rfl)) | exact (hw _ (List.mem_of_getElem? (i := 18) rfl)) | exact (hw _ (List.mem_of_getElem? (i := 19) rfl)) | exact (hw _ (List.mem_of_getElem? (i := 20) rfl)) | exact (hw _ (List.mem_of_getElem? (i := 21) rfl))
  · first | exact (hw _ (List.mem_of_getElem? (i := 15) rfl)) | exact (hw _ (List.mem_of_getElem? (i := 16) rfl)) | exact (hw _ (List.mem_of_getElem? (i := 17) rfl)) | exact (hw _ (List.mem_of_getElem? (i := 18) rfl)) | exact (hw _ (List.mem_of_getElem? (i := 19) rfl)) | exact (hw _ (List.mem_of_getElem? (i := 20) rfl)) | exact (hw _ (List.mem_of_getElem? (i := 21) rfl))
  · first | exact (hw _ (List.mem_of_getElem? (i := 15) rfl)) | exact (hw _ (List.mem_of_getElem? (i := 16) rfl)) | exact (hw _ (List.mem_of_getElem? (i := 17) rfl)) | exact (hw _ (List.mem_of_getElem? (i := 18) rfl)) | exact (hw _ (List.mem_of_getElem? (i := 19) rfl)) | exact (hw _ (List.mem_of_getElem? (i := 20) rfl)) | exact (hw _ (List.mem_of_getElem? (i := 21) rfl))
  · first | exact (hw _ (List.mem_of_getElem? (i := 15) rfl)) | exact (hw _ (List.mem_of_getElem? (i := 16) rfl)) | exact (hw _ (List.mem_of_getElem? (i := 17) rfl)) | exact (hw _ (List.mem_of_getElem? (i := 18) rfl)) | exact (hw _ (List.mem_of_getElem? (i := 19) rfl)) | exact (hw _ (List.mem_of_getElem? (i := 20) rfl)) | exact (hw _ (List.mem_of_getElem? (i := 21) rfl))
def N4 (g : String → Value) : Prop := g "parent" = .null ∧ g "next" = .null ∧ g "first" = .null ∧ g "last" = .null
def fE (b : Bool) (f : Nat → Value) (i : Nat) (v : Value) : Nat → Value := match b with
  | true => f
  | false => upd f i v
def fX (b : Bool) (f : Nat → Value) (i : Nat) (v : Value) : Nat → Value := match b with
  | true => upd f i v
  | false => f
abbrev EA (Z : State) (h : Heap) (a : Addr) (f : Nat → Value) : Prop := Av Z h a (.object "com/example/sundskrift/sundskrift/core/xml/ReadOnlyElement") 5 f
abbrev XA (Z : State) (h : Heap) (a : Addr) (f : Nat → Value) : Prop := Av Z h a (.object "com/example/sundskrift/sundskrift/core/xml/ReadOnlyText") 5 f
def QM (Z : State) (ae ax : Addr) (fe fx : Nat → Value) (b : Bool) (iN : Nat) (h0 : Heap) (n0 : Nat) (v : Option Value) (h : Heap) (L : List Loc) : Prop := ∃ nb, v = none ∧ Fr n0 L ∧ h0.size ≤ nb ∧ Keep h0 h [ae, ax] ∧ (∃ g, Ob Z h nb (cl b) (fsN b) g ∧ N4 g) ∧ EA Z h ae (fE b fe iN (.ref nb)) ∧ XA Z h ax (fX b fx iN (.ref nb))
theorem d2_0 : decode method_5_code 0 = .ok (.iload_n 3, 1) := by decide +kernel
theorem d2_1 : decode method_5_code 1 = .ok (.ifCond .eq 20, 3) := by decide +kernel
theorem d2_4 : decode method_5_code 4 = .ok (.aload_n 1, 1) := by decide +kernel
theorem d2_5 : decode method_5_code 5 = .ok (.iload_n 2, 1) := by decide +kernel
theorem d2_6 : decode method_5_code 6 = .ok (.new 15, 3) := by decide +kernel
theorem d2_9 : decode method_5_code 9 = .ok (.dup, 1) := by decide +kernel
theorem d2_10 : decode method_5_code 10 = .ok (.aconst_null, 1) := by decide +kernel
theorem d2_11 : decode method_5_code 11 = .ok (.ldc 42, 2) := by decide +kernel
theorem d2_13 : decode method_5_code 13 = .ok (.iconst 0, 1) := by decide +kernel
theorem d2_14 : decode method_5_code 14 = .ok (.invokespecial 44, 3) := by decide +kernel
theorem d2_17 : decode method_5_code 17 = .ok (.aastore, 1) := by decide +kernel
theorem d2_18 : decode method_5_code 18 = .ok (.goto 25, 3) := by decide +kernel
theorem d2_21 : decode method_5_code 21 = .ok (.aload_n 0, 1) := by decide +kernel
theorem d2_22 : decode method_5_code 22 = .ok (.iload_n 2, 1) := by decide +kernel
theorem d2_23 : decode method_5_code 23 = .ok (.new 13, 3) := by decide +kernel
theorem d2_26 : decode method_5_code 26 = .ok (.dup, 1) := by decide +kernel
theorem d2_27 : decode method_5_code 27 = .ok (.aconst_null, 1) := by decide +kernel
theorem d2_28 : decode method_5_code 28 = .ok (.ldc 47, 2) := by decide +kernel
theorem d2_30 : decode method_5_code 30 = .ok (.aconst_null, 1) := by decide +kernel
theorem d2_31 : decode method_5_code 31 = .ok (.ldc 47, 2) := by decide +kernel
theorem d2_33 : decode method_5_code 33 = .ok (.aconst_null, 1) := by decide +kernel
theorem d2_34 : decode method_5_code 34 = .ok (.iconst 0, 1) := by decide +kernel
theorem d2_35 : decode method_5_code 35 = .ok (.anewarray 49, 3) := by decide +kernel
theorem d2_38 : decode method_5_code 38 = .ok (.iconst 0, 1) := by decide +kernel
theorem d2_39 : decode method_5_code 39 = .ok (.invokespecial 51, 3) := by decide +kernel
theorem d2_42 : decode method_5_code 42 = .ok (.aastore, 1) := by decide +kernel
theorem d2_43 : decode method_5_code 43 = .ok (.return_, 1) := by decide +kernel
theorem pn_MK : plainFor (⟨"com/example/sundskrift/sundskrift/core/xml/ReadOnlyParentFollowingPinLaw", "make", "([Lcom/example/sundskrift/sundskrift/core/xml/ReadOnlyElement;[Lcom/example/sundskrift/sundskrift/core/xml/ReadOnlyText;IZ)V"⟩ : MethodName) = true := plainFor_of_name (show plainName "com/example/sundskrift/sundskrift/core/xml/ReadOnlyParentFollowingPinLaw" = true by first | (simp [plainName, overriddenIn]; done) | decide +kernel)
theorem pd_MK : parseMethodDescriptor "([Lcom/example/sundskrift/sundskrift/core/xml/ReadOnlyElement;[Lcom/example/sundskrift/sundskrift/core/xml/ReadOnlyText;IZ)V" = some ⟨[.array (.object "com/example/sundskrift/sundskrift/core/xml/ReadOnlyElement"), .array (.object "com/example/sundskrift/sundskrift/core/xml/ReadOnlyText"), .int, .boolean], none⟩ := by decide +kernel
theorem ef_MK (m : MethodId) (x0 : Addr) (x1 : Addr) (x2 : Int32) (x3 : Int32) : entryFrame m #[(.ref x0), (.ref x1), (.int x2), (.int x3)] 4 = mkF m 0 #[.val (.ref x0), .val (.ref x1), .val (.int x2), .val (.int x3)] [] := by first | (simp [entryFrame, mkF, argsToLocals, Value.category]; done) | rfl
set_option maxRecDepth 65536 in
set_option maxHeartbeats 40000000 in
theorem rmMK (l : Launch) (Z : State) (a0 : Array Value) (hw : ∀ d ∈ tables_1, d.before a0 Z = true) (ae ax : Addr) (fe fx : Nat → Value) (b : Bool) (i : Int32) (iN : Nat) (h0 : Heap) (n0 : Nat) (Z0 : n0 ≤ h0.size) (VE : EA Z h0 ae fe) (VX : XA Z h0 ax fx) (OE : OvA Z h0 ae "com/example/sundskrift/sundskrift/core/xml/ReadOnlyElement") (OX : OvA Z h0 ax "com/example/sundskrift/sundskrift/core/xml/ReadOnlyText") (nex : ae ≠ ax) (ge : n0 ≤ ae) (gx : n0 ≤ ax) (hi : i.toInt = iN) (hN : iN < 5) :
    CtW l Z (⟨"com/example/sundskrift/sundskrift/core/xml/ReadOnlyParentFollowingPinLaw", "make", "([Lcom/example/sundskrift/sundskrift/core/xml/ReadOnlyElement;[Lcom/example/sundskrift/sundskrift/core/xml/ReadOnlyText;IZ)V"⟩ : MethodName) method_5_code 4 none ({ frames := 5, cells := 6, slots := 30, locals := 81 } : Room) #[(.ref ae), (.ref ax), (.int i), (.int (bi b))] h0 (QM Z ae ax fe fx b iN h0 n0) := by
  refine CtW.of pn_MK (fun m => ef_MK m ae ax i (bi b)) ?_
  intro p e s m below meth c T vm0 X0 hx hby hml hret hlk hZ hown hnm e0 hS0
  have hi0 : ¬ i < 0 := own_nn.mpr (by omega)
  have hiN : i.toNatClampNeg = iN := own_nat hi
  refine g_iloadN X0 hx (hb hby d2_0) (pc' := 1) rfl rfl ?_
  refine g_if_eq X0 hx (hb hby d2_1) (by decide) (pc' := 21) rfl (pcF := 4) rfl (fun hc => ?_) (fun hc => ?_)
  · obtain rfl : b = false := by cases b <;> first | rfl | exact absurd hc (by decide)
    refine g_aloadN X0 hx (hb hby d2_21) (pc' := 22) rfl rfl rfl ?_
    refine g_iloadN X0 hx (hb hby d2_22) (pc' := 23) rfl rfl ?_
    refine g_new X0 hx hZ hown (hw _ (List.mem_of_getElem? (i := 5) rfl)) (hw _ (List.mem_of_getElem? (i := 12) rfl)) (hw _ (List.mem_of_getElem? (i := 13) rfl)) e0 (hb hby d2_23) (pc' := 26) rfl (by decide) (by decide) ?_
    intro T1 h1 nb g1 X1 e1 E1 A1 D1
    have O1 : Ob Z h1 nb "com/example/sundskrift/sundskrift/core/xml/ReadOnlyElement" fs_E gE := Ob.new (lds_E hw) A1 D1 (by decide +kernel)
    have gb0 : h0.size ≤ nb := Nat.le_of_eq g1.symm
    have gb : n0 ≤ nb := Nat.le_trans Z0 gb0
    refine g_dup X1 hx (hb hby d2_26) (pc' := 27) rfl rfl ?_
    refine g_aconstNull X1 hx (hb hby d2_27) (pc' := 28) rfl ?_
    refine g_ldcS X1 hx hS0 hZ hown (hw _ (List.mem_of_getElem? (i := 14) rfl)) (strs hw) e1 E1.1 (hb hby d2_28) (pc' := 30) rfl 4 (by decide) (by decide) (by decide) (by decide) ?_
    clear hZ hown
    intro T2 h2 u1 vm2 k2 X2 e2 E2 hS2 hk2 hZ hown
    refine g_aconstNull X2 hx (hb hby d2_30) (pc' := 31) rfl ?_
    refine g_ldcS X2 hx hS2 hZ hown (hw _ (List.mem_of_getElem? (i := 14) rfl)) (strs hw) e2 hk2 (hb hby d2_31) (pc' := 33) rfl 4 (by decide) (by decide) (by decide) (by decide) ?_
    clear hZ hown
    intro T3 h3 u2 vm3 k3 X3 e3 E3 hS3 hk3 hZ hown
    refine g_aconstNull X3 hx (hb hby d2_33) (pc' := 34) rfl ?_
    refine g_iconst X3 hx (hb hby d2_34) (pc' := 35) rfl (z := 0) (by decide) ?_
    refine g_newarrR X3 hx hZ hown (hw _ (List.mem_of_getElem? (i := 22) rfl)) (hw _ (List.mem_of_getElem? (i := 23) rfl)) e3 (hb hby d2_35) (pc' := 38) rfl (by decide) (n := 0) (by decide) 0 (by decide) (by decide) (by decide) (by decide) ?_
    intro T4 h4 u3 cA g4 X4 e4 E4 V4 _ _
    have O4 := ((O1.ext E2).ext E3).ext E4
    have ne3 : u3 ≠ nb := Nat.ne_of_gt (g4 ▸ ((O1.ext E2).ext E3).lt)
    have EE : Ext h0 h4 := ext_of_keep (((((Keep.refl h0 []).ext E1).ext E2).ext E3).ext E4)
    refine g_iconst X4 hx (hb hby d2_38) (pc' := 39) rfl (z := 0) (by decide) ?_
    refine g_callI X4 hx hZ 3 (a := nb) hown rfl (hw _ (List.mem_of_getElem? (i := 24) rfl)) (hw _ (List.mem_of_getElem? (i := 25) rfl)) (hw _ (List.mem_of_getElem? (i := 13) rfl)) (hw _ (List.mem_of_getElem? (i := 26) rfl)) (by decide) e4 (rmE l Z a0 hw nb u1 u2 u3 gE h4 n0 V4 ne3 O4 gb) (by decide) (by decide) (by rw [hml]; rfl) (argsL := [.null, (.ref u1), .null, (.ref u2), .null, (.ref u3), (.int (0 : Int32))]) (rest := [(.ref nb), (.int i), (.ref ae)]) (lenOf pd_E rfl) rfl (Nat.le_of_eq rfl) (hb hby d2_39) (pc' := 42) rfl (by decide) (by decide) rfl ?_
    rintro T5 _ L5 X5 ⟨rfl, N5, K5', g5, O5, s5⟩
    show Go p e below _ (T5.setTop (mkF m 42 #[.val (.ref ae), .val (.ref ax), .val (.int i), .val (.int (bi false))] [(.ref nb), (.int i), (.ref ae)]))
    have K5 : Keep h0 T5.heap [] := ((Keep.refl h0 []).ext EE).trans K5' (allS (Or.inr gb0) all0)
    have nne : nb ≠ ae := Nat.ne_of_gt (Nat.lt_of_lt_of_le VE.lt gb0)
    have VE5 := VE.keep K5 nin0
    have VX5 := VX.keep K5 nin0
    have OE5 := OE.keep K5
    refine g_aastore X5 hx hZ rfl VE5 rfl (sto_of VE5 OE5 O5.1) hi0 hiN hN (hb hby d2_42) (pc' := 43) rfl ?_
    intro T6 h6 X6 e6 W6 V6
    exact g_retWV X6 hx hS3 (Nat.le_trans hk3 (Nat.le_trans E4.1 (Nat.le_trans K5'.1 (Nat.le_of_eq (by rw [e6, W6.size]))))) hret hlk (hb hby d2_43) (by decide) (by decide) ⟨nb, rfl, Fr.snoc X6 ((Fr.nil _).app N5) ge, gb0, by rw [e6]; exact ((Keep.refl h0 [ae, ax]).trans K5 all0).wr W6 (Or.inl (mem_i 0 rfl)), ⟨g5, by rw [e6]; exact O5.other W6 nne, s5.1, s5.2.1, s5.2.2.1, s5.2.2.2⟩, by rw [e6]; exact V6, by rw [e6]; exact VX5.other W6 (Ne.symm nex)⟩
  · obtain rfl : b = true := by cases b <;> first | rfl | exact absurd rfl hc
    refine g_aloadN X0 hx (hb hby d2_4) (pc' := 5) rfl rfl rfl ?_
    refine g_iloadN X0 hx (hb hby d2_5) (pc' := 6) rfl rfl ?_
    refine g_new X0 hx hZ hown (hw _ (List.mem_of_getElem? (i := 7) rfl)) (hw _ (List.mem_of_getElem? (i := 65) rfl)) (hw _ (List.mem_of_getElem? (i := 66) rfl)) e0 (hb hby d2_6) (pc' := 9) rfl (by decide) (by decide) ?_
    intro T1 h1 nb g1 X1 e1 E1 A1 D1
    have O1 : Ob Z h1 nb "com/example/sundskrift/sundskrift/core/xml/ReadOnlyText" fs_X gX := Ob.new (lds_X hw) A1 D1 (by decide +kernel)
    have gb0 : h0.size ≤ nb := Nat.le_of_eq g1.symm
    have gb : n0 ≤ nb := Nat.le_trans Z0 gb0
    refine g_dup X1 hx (hb hby d2_9) (pc' := 10) rfl rfl ?_
    refine g_aconstNull X1 hx (hb hby d2_10) (pc' := 11) rfl ?_
    refine g_ldcS X1 hx hS0 hZ hown (hw _ (List.mem_of_getElem? (i := 67) rfl)) (strs hw) e1 E1.1 (hb hby d2_11) (pc' := 13) rfl 4 (by decide) (by decide) (by decide) (by decide) ?_
    clear hZ hown
    intro T2 h2 u1 vm2 k2 X2 e2 E2 hS2 hk2 hZ hown
    have O2 := O1.ext E2
    have EE : Ext h0 h2 := ext_of_keep (((Keep.refl h0 []).ext E1).ext E2)
    refine g_iconst X2 hx (hb hby d2_13) (pc' := 14) rfl (z := 0) (by decide) ?_
    refine g_callI X2 hx hZ 3 (a := nb) hown rfl (hw _ (List.mem_of_getElem? (i := 68) rfl)) (hw _ (List.mem_of_getElem? (i := 69) rfl)) (hw _ (List.mem_of_getElem? (i := 66) rfl)) (hw _ (List.mem_of_getElem? (i := 70) rfl)) (by decide) e2 (rmX l Z a0 hw nb u1 gX h2 n0 O2 gb) (by decide) (by decide) (by rw [hml]; rfl) (argsL := [.null, (.ref u1), (.int (0 : Int32))]) (rest := [(.ref nb), (.int i), (.ref ax)]) (lenOf pd_X rfl) rfl (Nat.le_of_eq rfl) (hb hby d2_14) (pc' := 17) rfl (by decide) (by decide) rfl ?_
    rintro T5 _ L5 X5 ⟨rfl, N5, K5', g5, O5, s5⟩
    show Go p e below _ (T5.setTop (mkF m 17 #[.val (.ref ae), .val (.ref ax), .val (.int i), .val (.int (bi true))] [(.ref nb), (.int i), (.ref ax)]))
    have K5 : Keep h0 T5.heap [] := ((Keep.refl h0 []).ext EE).trans K5' (allS (Or.inr gb0) all0)
    have nnx : nb ≠ ax := Nat.ne_of_gt (Nat.lt_of_lt_of_le VX.lt gb0)
    have VE5 := VE.keep K5 nin0
    have VX5 := VX.keep K5 nin0
    have OX5 := OX.keep K5
    refine g_aastore X5 hx hZ rfl VX5 rfl (sto_of VX5 OX5 O5.1) hi0 hiN hN (hb hby d2_17) (pc' := 18) rfl ?_
    intro T6 h6 X6 e6 W6 V6
    refine g_goto X6 hx (hb hby d2_18) (by decide) (pc' := 43) rfl ?_
    exact g_retWV X6 hx hS2 (Nat.le_trans hk2 (Nat.le_trans K5'.1 (Nat.le_of_eq (by rw [e6, W6.size])))) hret hlk (hb hby d2_43) (by decide) (by decide) ⟨nb, rfl, Fr.snoc X6 ((Fr.nil _).app N5) gx, gb0, by rw [e6]; exact ((Keep.refl h0 [ae, ax]).trans K5 all0).wr W6 (Or.inl (mem_i 1 rfl)), ⟨g5, by rw [e6]; exact O5.other W6 nnx, s5.1, s5.2.1, s5.2.2.1, s5.2.2.2⟩, by rw [e6]; exact VE5.other W6 nex, by rw [e6]; exact V6⟩
theorem d1_0 : decode method_3_code 0 = .ok (.iconst 1, 1) := by decide +kernel
theorem d1_1 : decode method_3_code 1 = .ok (.iload 4, 2) := by decide +kernel
theorem d1_3 : decode method_3_code 3 = .ok (.aload_n 0, 1) := by decide +kernel
theorem d1_4 : decode method_3_code 4 = .ok (.iload_n 3, 1) := by decide +kernel
theorem d1_5 : decode method_3_code 5 = .ok (.iconst 1, 1) := by decide +kernel
theorem d1_6 : decode method_3_code 6 = .ok (.isub, 1) := by decide +kernel
theorem d1_7 : decode method_3_code 7 = .ok (.iaload, 1) := by decide +kernel
theorem d1_8 : decode method_3_code 8 = .ok (.iconst 1, 1) := by decide +kernel
theorem d1_9 : decode method_3_code 9 = .ok (.iadd, 1) := by decide +kernel
theorem d1_10 : decode method_3_code 10 = .ok (.irem, 1) := by decide +kernel
theorem d1_11 : decode method_3_code 11 = .ok (.iadd, 1) := by decide +kernel
theorem d1_12 : decode method_3_code 12 = .ok (.istore 5, 2) := by decide +kernel
theorem d1_14 : decode method_3_code 14 = .ok (.aload_n 1, 1) := by decide +kernel
theorem d1_15 : decode method_3_code 15 = .ok (.iload_n 3, 1) := by decide +kernel
theorem d1_16 : decode method_3_code 16 = .ok (.aload_n 2, 1) := by decide +kernel
theorem d1_17 : decode method_3_code 17 = .ok (.iload 5, 2) := by decide +kernel
theorem d1_19 : decode method_3_code 19 = .ok (.iconst 1, 1) := by decide +kernel
theorem d1_20 : decode method_3_code 20 = .ok (.isub, 1) := by decide +kernel
theorem d1_21 : decode method_3_code 21 = .ok (.iaload, 1) := by decide +kernel
theorem d1_22 : decode method_3_code 22 = .ok (.iastore, 1) := by decide +kernel
theorem d1_23 : decode method_3_code 23 = .ok (.aload_n 0, 1) := by decide +kernel
theorem d1_24 : decode method_3_code 24 = .ok (.iload_n 3, 1) := by decide +kernel
theorem d1_25 : decode method_3_code 25 = .ok (.iload 5, 2) := by decide +kernel
theorem d1_27 : decode method_3_code 27 = .ok (.iastore, 1) := by decide +kernel
theorem d1_28 : decode method_3_code 28 = .ok (.aload_n 2, 1) := by decide +kernel
theorem d1_29 : decode method_3_code 29 = .ok (.iload 5, 2) := by decide +kernel
theorem d1_31 : decode method_3_code 31 = .ok (.iload_n 3, 1) := by decide +kernel
theorem d1_32 : decode method_3_code 32 = .ok (.iastore, 1) := by decide +kernel
theorem d1_33 : decode method_3_code 33 = .ok (.return_, 1) := by decide +kernel
theorem pn_PL : plainFor (⟨"com/example/sundskrift/sundskrift/core/xml/ReadOnlyParentFollowingPinLaw", "place", "([I[I[III)V"⟩ : MethodName) = true := plainFor_of_name (show plainName "com/example/sundskrift/sundskrift/core/xml/ReadOnlyParentFollowingPinLaw" = true by first | (simp [plainName, overriddenIn]; done) | decide +kernel)
theorem pd_PL : parseMethodDescriptor "([I[I[III)V" = some ⟨[.array .int, .array .int, .array .int, .int, .int], none⟩ := by decide +kernel
theorem ef_PL (m : MethodId) (x0 : Addr) (x1 : Addr) (x2 : Addr) (x3 : Int32) (x4 : Int32) : entryFrame m #[(.ref x0), (.ref x1), (.ref x2), (.int x3), (.int x4)] 6 = mkF m 0 #[.val (.ref x0), .val (.ref x1), .val (.ref x2), .val (.int x3), .val (.int x4), .unset] [] := by first | (simp [entryFrame, mkF, argsToLocals, Value.category]; done) | rfl
def QPl (Z : State) (ad ap aq : Addr) (D P Q : Nat → Nat) (iN dN : Nat) (h0 : Heap) (n0 : Nat) (v : Option Value) (h : Heap) (L : List Loc) : Prop := v = none ∧ Fr n0 L ∧ IA Z h ad (nup D iN dN) ∧ IA Z h ap (nup P iN (Q (dN - 1))) ∧ IA Z h aq (nup Q dN iN) ∧ h0.size ≤ h.size
set_option maxRecDepth 65536 in
set_option maxHeartbeats 40000000 in
theorem rmPL (l : Launch) (Z : State) (a0 : Array Value) (hw : ∀ d ∈ tables_1, d.before a0 Z = true) (ad ap aq : Addr) (D P Q : Nat → Nat) (i ch : Int32) (iN iM cN dN : Nat) (h0 : Heap) (n0 : Nat) (V1 : IA Z h0 ad D) (V2 : IA Z h0 ap P) (V3 : IA Z h0 aq Q) (n12 : ad ≠ ap) (n13 : ad ≠ aq) (n23 : ap ≠ aq) (g1 : n0 ≤ ad) (g2 : n0 ≤ ap) (g3 : n0 ≤ aq) (hi : i.toInt = iN) (hi' : (i - 1).toInt = iM) (hiN : iN < 5) (hiM : iM < 5) (hc : ch.toInt = cN) (hD : D iM < 4) (hd : dN = 1 + cN % (D iM + 1)) :
    Ct l Z (⟨"com/example/sundskrift/sundskrift/core/xml/ReadOnlyParentFollowingPinLaw", "place", "([I[I[III)V"⟩ : MethodName) method_3_code 6 none ({ frames := 0, cells := 0, slots := 0, locals := 0 } : Room) #[(.ref ad), (.ref ap), (.ref aq), (.int i), (.int ch)] h0 (QPl Z ad ap aq D P Q iN dN h0 n0) := by
  refine Ct.of pn_PL (fun m => ef_PL m ad ap aq i ch) ?_
  intro p e s m below meth c T X0 hx hby hml hret hlk hZ hown hnm e0
  have hm := Nat.mod_lt cN (show 0 < D iM + 1 by omega)
  have k1 : (1 : Int32).toInt = 1 := rfl
  refine g_iconst X0 hx (hb hby d1_0) (pc' := 1) rfl (z := 1) (by decide) ?_
  refine g_iload X0 hx (hb hby d1_1) (pc' := 3) rfl rfl ?_
  refine g_aloadN X0 hx (hb hby d1_3) (pc' := 4) rfl rfl rfl ?_
  refine g_iloadN X0 hx (hb hby d1_4) (pc' := 5) rfl rfl ?_
  refine g_iconst X0 hx (hb hby d1_5) (pc' := 6) rfl (z := 1) (by decide) ?_
  refine g_isub X0 hx (hb hby d1_6) (pc' := 7) rfl rfl ?_
  refine g_iaload X0 hx hZ e0 V1 (own_nn.mpr (by omega)) (own_nat hi') hiM rfl (hb hby d1_7) (pc' := 8) rfl ?_
  refine g_iconst X0 hx (hb hby d1_8) (pc' := 9) rfl (z := 1) (by decide) ?_
  obtain ⟨z1, gz1⟩ : ∃ z : Int32, Int32.ofNat (D iM) + 1 = z := ⟨_, rfl⟩
  have r1 : z1.toInt = D iM + 1 := by have := c_iadd (Int32.ofNat (D iM)) 1; have := rng32 z1; rw [gz1, own_i (by omega)] at *; omega
  refine g_iadd X0 hx (hb hby d1_9) (pc' := 10) rfl (z := z1) gz1 ?_
  obtain ⟨z2, gz2⟩ : ∃ z : Int32, z = ch - ch / z1 * z1 := ⟨_, rfl⟩
  have r2 : z2.toInt = ch.toInt % z1.toInt := by rw [gz2]; exact own_rem (by omega) (by omega)
  have r2' : z2.toInt = (cN % (D iM + 1) : Nat) := by rw [r2, hc, r1]; simp
  refine g_irem X0 hx (hb hby d1_10) (pc' := 11) rfl (fun z => by rw [z] at r1; have : (0 : Int32).toInt = 0 := rfl; omega) (z := z2) gz2.symm ?_
  obtain ⟨d, gd⟩ : ∃ z : Int32, (1 : Int32) + z2 = z := ⟨_, rfl⟩
  have rd : d.toInt = dN := by have := c_iadd 1 z2; have := rng32 d; rw [gd] at *; omega
  refine g_iadd X0 hx (hb hby d1_11) (pc' := 12) rfl (z := d) gd ?_
  have ed := own_eqn rd
  have ei := own_eqn hi
  refine g_istore X0 hx (hb hby d1_12) (pc' := 14) rfl (Ls' := #[.val (.ref ad), .val (.ref ap), .val (.ref aq), .val (.int i), .val (.int ch), .val (.int d)]) rfl ?_
  refine g_aloadN X0 hx (hb hby d1_14) (pc' := 15) rfl rfl rfl ?_
  refine g_iloadN X0 hx (hb hby d1_15) (pc' := 16) rfl rfl ?_
  refine g_aloadN X0 hx (hb hby d1_16) (pc' := 17) rfl rfl rfl ?_
  refine g_iload X0 hx (hb hby d1_17) (pc' := 19) rfl rfl ?_
  refine g_iconst X0 hx (hb hby d1_19) (pc' := 20) rfl (z := 1) (by decide) ?_
  obtain ⟨d1, gd1⟩ : ∃ z : Int32, d - 1 = z := ⟨_, rfl⟩
  have rd1 : d1.toInt = (dN - 1 : Nat) := by have := c_isub d 1; have := rng32 d1; rw [gd1] at *; omega
  refine g_isub X0 hx (hb hby d1_20) (pc' := 21) rfl (z := d1) gd1 ?_
  refine g_iaload X0 hx hZ e0 V3 (own_nn.mpr (by omega)) (own_nat rd1) (by omega) rfl (hb hby d1_21) (pc' := 22) rfl ?_
  refine g_iastore X0 hx hZ e0 V2 (own_nn.mpr (by omega)) (own_nat hi) hiN (hb hby d1_22) (pc' := 23) rfl ?_
  intro T1 h1 X1 e1 W1 U1
  have A1 := V1.other W1 n12
  have B1 : IA Z h1 ap (nup P iN (Q (dN - 1))) := U1.congr (fun j _ => nup_upd P iN (Q (dN - 1)) j)
  have C1 := V3.other W1 (Ne.symm n23)
  refine g_aloadN X1 hx (hb hby d1_23) (pc' := 24) rfl rfl rfl ?_
  refine g_iloadN X1 hx (hb hby d1_24) (pc' := 25) rfl rfl ?_
  refine g_iload X1 hx (hb hby d1_25) (pc' := 27) rfl rfl ?_
  refine g_iastore X1 hx hZ e1 A1 (own_nn.mpr (by omega)) (own_nat hi) hiN (hb hby d1_27) (pc' := 28) rfl ?_
  intro T2 h2 X2 e2 W2 U2
  have A2 : IA Z h2 ad (nup D iN dN) := U2.congr (fun j _ => by rw [ed]; exact nup_upd D iN dN j)
  have B2 := B1.other W2 (Ne.symm n12)
  have C2 := C1.other W2 (Ne.symm n13)
  refine g_aloadN X2 hx (hb hby d1_28) (pc' := 29) rfl rfl rfl ?_
  refine g_iload X2 hx (hb hby d1_29) (pc' := 31) rfl rfl ?_
  refine g_iloadN X2 hx (hb hby d1_31) (pc' := 32) rfl rfl ?_
  refine g_iastore X2 hx hZ e2 C2 (own_nn.mpr (by omega)) (own_nat rd) (by omega) (hb hby d1_32) (pc' := 33) rfl ?_
  intro T3 h3 X3 e3 W3 U3
  have A3 := A2.other W3 n13
  have B3 := B2.other W3 n23
  have C3 : IA Z h3 aq (nup Q dN iN) := U3.congr (fun j _ => by rw [ei]; exact nup_upd Q dN iN j)
  exact g_retV X3 hx hret hlk (hb hby d1_33) (by decide) (by decide) ⟨rfl, Fr.snoc X3 (Fr.snoc X2 (Fr.snoc X1 (Fr.nil _) g2) g1) g3, by rw [e3]; exact A3, by rw [e3]; exact B3, by rw [e3]; exact C3, by rw [e3, W3.size, W2.size, W1.size]; exact Nat.le_refl _⟩
theorem d8_0 : decode method_4_code 0 = .ok (.iload_n 2, 1) := by decide +kernel
theorem d8_1 : decode method_4_code 1 = .ok (.iconst 4, 1) := by decide +kernel
theorem d8_2 : decode method_4_code 2 = .ok (.if_icmp .eq 14, 3) := by decide +kernel
theorem d8_5 : decode method_4_code 5 = .ok (.aload_n 0, 1) := by decide +kernel
theorem d8_6 : decode method_4_code 6 = .ok (.iload_n 2, 1) := by decide +kernel
theorem d8_7 : decode method_4_code 7 = .ok (.iconst 1, 1) := by decide +kernel
theorem d8_8 : decode method_4_code 8 = .ok (.iadd, 1) := by decide +kernel
theorem d8_9 : decode method_4_code 9 = .ok (.iaload, 1) := by decide +kernel
theorem d8_10 : decode method_4_code 10 = .ok (.aload_n 0, 1) := by decide +kernel
theorem d8_11 : decode method_4_code 11 = .ok (.iload_n 2, 1) := by decide +kernel
theorem d8_12 : decode method_4_code 12 = .ok (.iaload, 1) := by decide +kernel
theorem d8_13 : decode method_4_code 13 = .ok (.if_icmp .gt 7, 3) := by decide +kernel
theorem d8_16 : decode method_4_code 16 = .ok (.iconst 1, 1) := by decide +kernel
theorem d8_17 : decode method_4_code 17 = .ok (.goto 4, 3) := by decide +kernel
theorem d8_20 : decode method_4_code 20 = .ok (.iconst 0, 1) := by decide +kernel
theorem d8_21 : decode method_4_code 21 = .ok (.istore_n 3, 1) := by decide +kernel
theorem d8_22 : decode method_4_code 22 = .ok (.iload_n 3, 1) := by decide +kernel
theorem d8_23 : decode method_4_code 23 = .ok (.ifCond .eq 15, 3) := by decide +kernel
theorem d8_26 : decode method_4_code 26 = .ok (.iload_n 1, 1) := by decide +kernel
theorem d8_27 : decode method_4_code 27 = .ok (.iload_n 2, 1) := by decide +kernel
theorem d8_28 : decode method_4_code 28 = .ok (.iushr, 1) := by decide +kernel
theorem d8_29 : decode method_4_code 29 = .ok (.iconst 1, 1) := by decide +kernel
theorem d8_30 : decode method_4_code 30 = .ok (.iand, 1) := by decide +kernel
theorem d8_31 : decode method_4_code 31 = .ok (.ifCond .eq 7, 3) := by decide +kernel
theorem d8_34 : decode method_4_code 34 = .ok (.iconst 1, 1) := by decide +kernel
theorem d8_35 : decode method_4_code 35 = .ok (.goto 4, 3) := by decide +kernel
theorem d8_38 : decode method_4_code 38 = .ok (.iconst 0, 1) := by decide +kernel
theorem d8_39 : decode method_4_code 39 = .ok (.ireturn, 1) := by decide +kernel
theorem pn_IT : plainFor (⟨"com/example/sundskrift/sundskrift/core/xml/ReadOnlyParentFollowingPinLaw", "isText", "([III)Z"⟩ : MethodName) = true := plainFor_of_name (show plainName "com/example/sundskrift/sundskrift/core/xml/ReadOnlyParentFollowingPinLaw" = true by first | (simp [plainName, overriddenIn]; done) | decide +kernel)
theorem pd_IT : parseMethodDescriptor "([III)Z" = some ⟨[.array .int, .int, .int], some .boolean⟩ := by decide +kernel
theorem ef_IT (m : MethodId) (x0 : Addr) (x1 : Int32) (x2 : Int32) : entryFrame m #[(.ref x0), (.int x1), (.int x2)] 4 = mkF m 0 #[.val (.ref x0), .val (.int x1), .val (.int x2), .unset] [] := by first | (simp [entryFrame, mkF, argsToLocals, Value.category]; done) | rfl
def QIT (D : Nat → Nat) (iN : Nat) (h0 : Heap) (n0 : Nat) (v : Option Value) (h : Heap) (L : List Loc) : Prop := Fr n0 L ∧ h = h0 ∧ ∃ b : Bool, v = some (.int (bi b)) ∧ (b = true → leaf D iN = true)
set_option maxRecDepth 65536 in
set_option maxHeartbeats 40000000 in
theorem rmIT (l : Launch) (Z : State) (a0 : Array Value) (hw : ∀ d ∈ tables_1, d.before a0 Z = true) (ad : Addr) (D : Nat → Nat) (kn i : Int32) (iN : Nat) (h0 : Heap) (n0 : Nat) (V : IA Z h0 ad D) (hi : i.toInt = iN) (hi1 : (i + 1).toInt = (iN + 1 : Nat)) (hN : iN < 5) (hD : ∀ j, D j < 5) :
    Ct l Z (⟨"com/example/sundskrift/sundskrift/core/xml/ReadOnlyParentFollowingPinLaw", "isText", "([III)Z"⟩ : MethodName) method_4_code 4 (some .boolean) ({ frames := 0, cells := 0, slots := 0, locals := 0 } : Room) #[(.ref ad), (.int kn), (.int i)] h0 (QIT D iN h0 n0) := by
  refine Ct.of pn_IT (fun m => ef_IT m ad kn i) ?_
  intro p e s m below meth c T X0 hx hby hml hret hlk hZ hown hnm e0
  have no : ∀ lf : Int32, Go p e below (Dn s below (QIT D iN h0 n0) 0 0) (T.setTop (mkF m 38 #[.val (.ref ad), .val (.int kn), .val (.int i), .val (.int lf)] [])) := by
    intro lf
    refine g_iconst X0 hx (hb hby d8_38) (pc' := 39) rfl (z := 0) (by decide) ?_
    exact g_retZ X0 hx hret hlk (by decide) (hb hby d8_39) (by decide) (by decide) ⟨Fr.nil _, e0, false, rfl, fun z => by cases z⟩
  have jn : ∀ lf : Int32, (lf ≠ 0 → leaf D iN = true) → Go p e below (Dn s below (QIT D iN h0 n0) 0 0) (T.setTop (mkF m 21 #[.val (.ref ad), .val (.int kn), .val (.int i), .unset] [(.int lf)])) := by
    intro lf hlf
    refine g_istoreN X0 hx (hb hby d8_21) (pc' := 22) rfl (Ls' := #[.val (.ref ad), .val (.int kn), .val (.int i), .val (.int lf)]) rfl ?_
    refine g_iloadN X0 hx (hb hby d8_22) (pc' := 23) rfl rfl ?_
    refine g_if_eq X0 hx (hb hby d8_23) (by decide) (pc' := 38) rfl (pcF := 26) rfl (fun hc => ?_) (fun hc => ?_)
    · exact no lf
    refine g_iloadN X0 hx (hb hby d8_26) (pc' := 27) rfl rfl ?_
    refine g_iloadN X0 hx (hb hby d8_27) (pc' := 28) rfl rfl ?_
    refine g_iushr X0 hx (hb hby d8_28) (pc' := 29) rfl rfl ?_
    refine g_iconst X0 hx (hb hby d8_29) (pc' := 30) rfl (z := 1) (by decide) ?_
    refine g_iand X0 hx (hb hby d8_30) (pc' := 31) rfl rfl ?_
    refine g_if_eq X0 hx (hb hby d8_31) (by decide) (pc' := 38) rfl (pcF := 34) rfl (fun hd => ?_) (fun hd => ?_)
    · exact no lf
    refine g_iconst X0 hx (hb hby d8_34) (pc' := 35) rfl (z := 1) (by decide) ?_
    refine g_goto X0 hx (hb hby d8_35) (by decide) (pc' := 39) rfl ?_
    exact g_retZ X0 hx hret hlk (by decide) (hb hby d8_39) (by decide) (by decide) ⟨Fr.nil _, e0, true, rfl, fun _ => hlf hc⟩
  refine g_iloadN X0 hx (hb hby d8_0) (pc' := 1) rfl rfl ?_
  refine g_iconst X0 hx (hb hby d8_1) (pc' := 2) rfl (z := 4) (by decide) ?_
  refine g_icmp_eq X0 hx (hb hby d8_2) (by decide) (pc' := 16) rfl (pcF := 5) rfl (fun h4 => ?_) (fun h4 => ?_)
  ·
    refine g_iconst X0 hx (hb hby d8_16) (pc' := 17) rfl (z := 1) (by decide) ?_
    refine g_goto X0 hx (hb hby d8_17) (by decide) (pc' := 21) rfl ?_
    exact jn 1 (fun _ => by have q4 : iN = 4 := (by have h5 := congrArg Int32.toInt h4; rw [hi] at h5; have h6 : (4 : Int32).toInt = 4 := rfl; omega); simp [leaf, q4])
  have h4' : iN ≠ 4 := fun z => h4 (by rw [← Int32.toInt_inj, hi, z]; rfl)
  refine g_aloadN X0 hx (hb hby d8_5) (pc' := 6) rfl rfl rfl ?_
  refine g_iloadN X0 hx (hb hby d8_6) (pc' := 7) rfl rfl ?_
  refine g_iconst X0 hx (hb hby d8_7) (pc' := 8) rfl (z := 1) (by decide) ?_
  refine g_iadd X0 hx (hb hby d8_8) (pc' := 9) rfl rfl ?_
  refine g_iaload X0 hx hZ e0 V (own_nn.mpr (by omega)) (own_nat hi1) (by omega) rfl (hb hby d8_9) (pc' := 10) rfl ?_
  refine g_aloadN X0 hx (hb hby d8_10) (pc' := 11) rfl rfl rfl ?_
  refine g_iloadN X0 hx (hb hby d8_11) (pc' := 12) rfl rfl ?_
  refine g_iaload X0 hx hZ e0 V (own_nn.mpr (by omega)) (own_nat hi) (by omega) rfl (hb hby d8_12) (pc' := 13) rfl ?_
  refine g_icmp_gt X0 hx (hb hby d8_13) (by decide) (pc' := 20) rfl (pcF := 16) rfl (fun hg => ?_) (fun hg => ?_)
  ·
    refine g_iconst X0 hx (hb hby d8_20) (pc' := 21) rfl (z := 0) (by decide) ?_
    exact jn 0 (fun z => absurd rfl z)
  ·
    refine g_iconst X0 hx (hb hby d8_16) (pc' := 17) rfl (z := 1) (by decide) ?_
    refine g_goto X0 hx (hb hby d8_17) (by decide) (pc' := 21) rfl ?_
    exact jn 1 (fun _ => by have := hD iN; have := hD (iN + 1); rw [Int32.lt_iff_toInt_lt, own_i (by omega), own_i (by omega)] at hg; simp only [leaf, Bool.or_eq_true, Bool.not_eq_true', decide_eq_false_iff_not]; right; omega)
theorem d13_0 : decode method_7_code 0 = .ok (.iload_n 1, 1) := by decide +kernel
theorem d13_1 : decode method_7_code 1 = .ok (.istore_n 2, 1) := by decide +kernel
theorem d13_2 : decode method_7_code 2 = .ok (.iload_n 2, 1) := by decide +kernel
theorem d13_3 : decode method_7_code 3 = .ok (.iconst 4, 1) := by decide +kernel
theorem d13_4 : decode method_7_code 4 = .ok (.if_icmp .ge 18, 3) := by decide +kernel
theorem d13_7 : decode method_7_code 7 = .ok (.aload_n 0, 1) := by decide +kernel
theorem d13_8 : decode method_7_code 8 = .ok (.iload_n 2, 1) := by decide +kernel
theorem d13_9 : decode method_7_code 9 = .ok (.iconst 1, 1) := by decide +kernel
theorem d13_10 : decode method_7_code 10 = .ok (.iadd, 1) := by decide +kernel
theorem d13_11 : decode method_7_code 11 = .ok (.iaload, 1) := by decide +kernel
theorem d13_12 : decode method_7_code 12 = .ok (.aload_n 0, 1) := by decide +kernel
theorem d13_13 : decode method_7_code 13 = .ok (.iload_n 1, 1) := by decide +kernel
theorem d13_14 : decode method_7_code 14 = .ok (.iaload, 1) := by decide +kernel
theorem d13_15 : decode method_7_code 15 = .ok (.if_icmp .le 7, 3) := by decide +kernel
theorem d13_18 : decode method_7_code 18 = .ok (.iload_n 2, 1) := by decide +kernel
theorem d13_19 : decode method_7_code 19 = .ok (.iconst 1, 1) := by decide +kernel
theorem d13_20 : decode method_7_code 20 = .ok (.iadd, 1) := by decide +kernel
theorem d13_21 : decode method_7_code 21 = .ok (.istore_n 2, 1) := by decide +kernel
theorem d13_22 : decode method_7_code 22 = .ok (.iload_n 2, 1) := by decide +kernel
theorem d13_23 : decode method_7_code 23 = .ok (.iconst 4, 1) := by decide +kernel
theorem d13_24 : decode method_7_code 24 = .ok (.if_icmp .ge 18, 3) := by decide +kernel
theorem d13_27 : decode method_7_code 27 = .ok (.aload_n 0, 1) := by decide +kernel
theorem d13_28 : decode method_7_code 28 = .ok (.iload_n 2, 1) := by decide +kernel
theorem d13_29 : decode method_7_code 29 = .ok (.iconst 1, 1) := by decide +kernel
theorem d13_30 : decode method_7_code 30 = .ok (.iadd, 1) := by decide +kernel
theorem d13_31 : decode method_7_code 31 = .ok (.iaload, 1) := by decide +kernel
theorem d13_32 : decode method_7_code 32 = .ok (.aload_n 0, 1) := by decide +kernel
theorem d13_33 : decode method_7_code 33 = .ok (.iload_n 1, 1) := by decide +kernel
theorem d13_34 : decode method_7_code 34 = .ok (.iaload, 1) := by decide +kernel
theorem d13_35 : decode method_7_code 35 = .ok (.if_icmp .le 7, 3) := by decide +kernel
theorem d13_38 : decode method_7_code 38 = .ok (.iload_n 2, 1) := by decide +kernel
theorem d13_39 : decode method_7_code 39 = .ok (.iconst 1, 1) := by decide +kernel
theorem d13_40 : decode method_7_code 40 = .ok (.iadd, 1) := by decide +kernel
theorem d13_41 : decode method_7_code 41 = .ok (.istore_n 2, 1) := by decide +kernel
theorem d13_42 : decode method_7_code 42 = .ok (.iload_n 2, 1) := by decide +kernel
theorem d13_43 : decode method_7_code 43 = .ok (.iconst 4, 1) := by decide +kernel
theorem d13_44 : decode method_7_code 44 = .ok (.if_icmp .ge 18, 3) := by decide +kernel
theorem d13_47 : decode method_7_code 47 = .ok (.aload_n 0, 1) := by decide +kernel
theorem d13_48 : decode method_7_code 48 = .ok (.iload_n 2, 1) := by decide +kernel
theorem d13_49 : decode method_7_code 49 = .ok (.iconst 1, 1) := by decide +kernel
theorem d13_50 : decode method_7_code 50 = .ok (.iadd, 1) := by decide +kernel
theorem d13_51 : decode method_7_code 51 = .ok (.iaload, 1) := by decide +kernel
theorem d13_52 : decode method_7_code 52 = .ok (.aload_n 0, 1) := by decide +kernel
theorem d13_53 : decode method_7_code 53 = .ok (.iload_n 1, 1) := by decide +kernel
theorem d13_54 : decode method_7_code 54 = .ok (.iaload, 1) := by decide +kernel
theorem d13_55 : decode method_7_code 55 = .ok (.if_icmp .le 7, 3) := by decide +kernel
theorem d13_58 : decode method_7_code 58 = .ok (.iload_n 2, 1) := by decide +kernel
theorem d13_59 : decode method_7_code 59 = .ok (.iconst 1, 1) := by decide +kernel
theorem d13_60 : decode method_7_code 60 = .ok (.iadd, 1) := by decide +kernel
theorem d13_61 : decode method_7_code 61 = .ok (.istore_n 2, 1) := by decide +kernel
theorem d13_62 : decode method_7_code 62 = .ok (.iload_n 2, 1) := by decide +kernel
theorem d13_63 : decode method_7_code 63 = .ok (.iconst 4, 1) := by decide +kernel
theorem d13_64 : decode method_7_code 64 = .ok (.if_icmp .ge 18, 3) := by decide +kernel
theorem d13_67 : decode method_7_code 67 = .ok (.aload_n 0, 1) := by decide +kernel
theorem d13_68 : decode method_7_code 68 = .ok (.iload_n 2, 1) := by decide +kernel
theorem d13_69 : decode method_7_code 69 = .ok (.iconst 1, 1) := by decide +kernel
theorem d13_70 : decode method_7_code 70 = .ok (.iadd, 1) := by decide +kernel
theorem d13_71 : decode method_7_code 71 = .ok (.iaload, 1) := by decide +kernel
theorem d13_72 : decode method_7_code 72 = .ok (.aload_n 0, 1) := by decide +kernel
theorem d13_73 : decode method_7_code 73 = .ok (.iload_n 1, 1) := by decide +kernel
theorem d13_74 : decode method_7_code 74 = .ok (.iaload, 1) := by decide +kernel
theorem d13_75 : decode method_7_code 75 = .ok (.if_icmp .le 7, 3) := by decide +kernel
theorem d13_78 : decode method_7_code 78 = .ok (.iload_n 2, 1) := by decide +kernel
theorem d13_79 : decode method_7_code 79 = .ok (.iconst 1, 1) := by decide +kernel
theorem d13_80 : decode method_7_code 80 = .ok (.iadd, 1) := by decide +kernel
theorem d13_81 : decode method_7_code 81 = .ok (.istore_n 2, 1) := by decide +kernel
theorem d13_82 : decode method_7_code 82 = .ok (.iload_n 2, 1) := by decide +kernel
theorem d13_83 : decode method_7_code 83 = .ok (.ireturn, 1) := by decide +kernel
theorem pn_EN : plainFor (⟨"com/example/sundskrift/sundskrift/core/xml/ReadOnlyParentFollowingPinLaw", "end", "([II)I"⟩ : MethodName) = true := plainFor_of_name (show plainName "com/example/sundskrift/sundskrift/core/xml/ReadOnlyParentFollowingPinLaw" = true by first | (simp [plainName, overriddenIn]; done) | decide +kernel)
theorem pd_EN : parseMethodDescriptor "([II)I" = some ⟨[.array .int, .int], some .int⟩ := by decide +kernel
theorem ef_EN (m : MethodId) (x0 : Addr) (x1 : Int32) : entryFrame m #[(.ref x0), (.int x1)] 3 = mkF m 0 #[.val (.ref x0), .val (.int x1), .unset] [] := by first | (simp [entryFrame, mkF, argsToLocals, Value.category]; done) | rfl
set_option maxRecDepth 65536 in
set_option maxHeartbeats 40000000 in
theorem rmEN (l : Launch) (Z : State) (a0 : Array Value) (hw : ∀ d ∈ tables_1, d.before a0 Z = true) (ad : Addr) (D : Nat → Nat) (r : Int32) (rN : Nat) (h0 : Heap) (n0 : Nat) (V : IA Z h0 ad D) (hr : r.toInt = rN) (hN : rN < 5) (hD : ∀ j, D j < 5) :
    Ct l Z (⟨"com/example/sundskrift/sundskrift/core/xml/ReadOnlyParentFollowingPinLaw", "end", "([II)I"⟩ : MethodName) method_7_code 3 (some .int) ({ frames := 0, cells := 0, slots := 0, locals := 0 } : Room) #[(.ref ad), (.int r)] h0 (QU (.int (Int32.ofNat (en D rN))) h0 n0) := by
  refine Ct.of pn_EN (fun m => ef_EN m ad r) ?_
  intro p e s m below meth c T X0 hx hby hml hret hlk hZ hown hnm e0
  have k1 : (1 : Int32).toInt = 1 := rfl
  have k4 : (4 : Int32).toInt = 4 := rfl
  have j82 : ∀ (ev : Int32) (eN : Nat), ev.toInt = eN → eN ≤ 4 → en D rN = eN → Go p e below (Dn s below (QU (.int (Int32.ofNat (en D rN))) h0 n0) 0 0) (T.setTop (mkF m 82 #[.val (.ref ad), .val (.int r), .val (.int ev)] [])) := by
    intro ev eN he hle hen
    refine g_iloadN X0 hx (hb hby d13_82) (pc' := 83) rfl rfl ?_
    exact g_retI X0 hx hret hlk (hb hby d13_83) (by decide) (by decide) ⟨Fr.nil _, e0, by rw [hen, own_eqn he]⟩
  have j62 : ∀ (ev : Int32) (eN : Nat), ev.toInt = eN → eN ≤ 4 → en D rN = stp D rN eN → Go p e below (Dn s below (QU (.int (Int32.ofNat (en D rN))) h0 n0) 0 0) (T.setTop (mkF m 62 #[.val (.ref ad), .val (.int r), .val (.int ev)] [])) := by
    intro ev eN he hle hen
    refine g_iloadN X0 hx (hb hby d13_62) (pc' := 63) rfl rfl ?_
    refine g_iconst X0 hx (hb hby d13_63) (pc' := 64) rfl (z := 4) (by decide) ?_
    refine g_icmp_ge X0 hx (hb hby d13_64) (by decide) (pc' := 82) rfl (pcF := 67) rfl (fun hc => ?_) (fun hc => ?_)
    · exact j82 ev eN he hle (hen.trans (congrArg (fun z => z) (show stp D rN eN = eN from if_neg (fun z => hc (Int32.lt_iff_toInt_lt.mpr (by omega))))))
    have hlt : eN < 4 := by have := Int32.lt_iff_toInt_lt.mp hc; omega
    obtain ⟨e1, ge1⟩ : ∃ z : Int32, ev + 1 = z := ⟨_, rfl⟩
    have he1 : e1.toInt = (eN + 1 : Nat) := by have := c_iadd ev 1; have := rng32 e1; rw [ge1] at *; omega
    refine g_aloadN X0 hx (hb hby d13_67) (pc' := 68) rfl rfl rfl ?_
    refine g_iloadN X0 hx (hb hby d13_68) (pc' := 69) rfl rfl ?_
    refine g_iconst X0 hx (hb hby d13_69) (pc' := 70) rfl (z := 1) (by decide) ?_
    refine g_iadd X0 hx (hb hby d13_70) (pc' := 71) rfl (z := e1) ge1 ?_
    refine g_iaload X0 hx hZ e0 V (own_nn.mpr (by omega)) (own_nat he1) (by omega) rfl (hb hby d13_71) (pc' := 72) rfl ?_
    refine g_aloadN X0 hx (hb hby d13_72) (pc' := 73) rfl rfl rfl ?_
    refine g_iloadN X0 hx (hb hby d13_73) (pc' := 74) rfl rfl ?_
    refine g_iaload X0 hx hZ e0 V (own_nn.mpr (by omega)) (own_nat hr) (by omega) rfl (hb hby d13_74) (pc' := 75) rfl ?_
    refine g_icmp_le X0 hx (hb hby d13_75) (by decide) (pc' := 82) rfl (pcF := 78) rfl (fun hg => ?_) (fun hg => ?_)
    · exact j82 ev eN he hle (hen.trans (congrArg (fun z => z) (show stp D rN eN = eN from if_neg (fun z => hg (Int32.lt_iff_toInt_lt.mpr (by have := hD rN; have := hD (eN + 1); rw [own_i (by omega), own_i (by omega)]; omega))))))
    refine g_iloadN X0 hx (hb hby d13_78) (pc' := 79) rfl rfl ?_
    refine g_iconst X0 hx (hb hby d13_79) (pc' := 80) rfl (z := 1) (by decide) ?_
    refine g_iadd X0 hx (hb hby d13_80) (pc' := 81) rfl (z := e1) ge1 ?_
    refine g_istoreN X0 hx (hb hby d13_81) (pc' := 82) rfl (Ls' := #[.val (.ref ad), .val (.int r), .val (.int e1)]) rfl ?_
    exact j82 e1 (eN + 1) he1 (by omega) (hen.trans (congrArg (fun z => z) (show stp D rN eN = eN + 1 from if_pos ⟨hlt, (by have h7 := Int32.lt_iff_toInt_lt.mp hg; have := hD rN; have := hD (eN + 1); rw [own_i (by omega), own_i (by omega)] at h7; omega)⟩)))
  have j42 : ∀ (ev : Int32) (eN : Nat), ev.toInt = eN → eN ≤ 4 → en D rN = stp D rN (stp D rN eN) → Go p e below (Dn s below (QU (.int (Int32.ofNat (en D rN))) h0 n0) 0 0) (T.setTop (mkF m 42 #[.val (.ref ad), .val (.int r), .val (.int ev)] [])) := by
    intro ev eN he hle hen
    refine g_iloadN X0 hx (hb hby d13_42) (pc' := 43) rfl rfl ?_
    refine g_iconst X0 hx (hb hby d13_43) (pc' := 44) rfl (z := 4) (by decide) ?_
    refine g_icmp_ge X0 hx (hb hby d13_44) (by decide) (pc' := 62) rfl (pcF := 47) rfl (fun hc => ?_) (fun hc => ?_)
    · exact j62 ev eN he hle (hen.trans (congrArg (fun z => stp D rN (z)) (show stp D rN eN = eN from if_neg (fun z => hc (Int32.lt_iff_toInt_lt.mpr (by omega))))))
    have hlt : eN < 4 := by have := Int32.lt_iff_toInt_lt.mp hc; omega
    obtain ⟨e1, ge1⟩ : ∃ z : Int32, ev + 1 = z := ⟨_, rfl⟩
    have he1 : e1.toInt = (eN + 1 : Nat) := by have := c_iadd ev 1; have := rng32 e1; rw [ge1] at *; omega
    refine g_aloadN X0 hx (hb hby d13_47) (pc' := 48) rfl rfl rfl ?_
    refine g_iloadN X0 hx (hb hby d13_48) (pc' := 49) rfl rfl ?_
    refine g_iconst X0 hx (hb hby d13_49) (pc' := 50) rfl (z := 1) (by decide) ?_
    refine g_iadd X0 hx (hb hby d13_50) (pc' := 51) rfl (z := e1) ge1 ?_
    refine g_iaload X0 hx hZ e0 V (own_nn.mpr (by omega)) (own_nat he1) (by omega) rfl (hb hby d13_51) (pc' := 52) rfl ?_
    refine g_aloadN X0 hx (hb hby d13_52) (pc' := 53) rfl rfl rfl ?_
    refine g_iloadN X0 hx (hb hby d13_53) (pc' := 54) rfl rfl ?_
    refine g_iaload X0 hx hZ e0 V (own_nn.mpr (by omega)) (own_nat hr) (by omega) rfl (hb hby d13_54) (pc' := 55) rfl ?_
    refine g_icmp_le X0 hx (hb hby d13_55) (by decide) (pc' := 62) rfl (pcF := 58) rfl (fun hg => ?_) (fun hg => ?_)
    · exact j62 ev eN he hle (hen.trans (congrArg (fun z => stp D rN (z)) (show stp D rN eN = eN from if_neg (fun z => hg (Int32.lt_iff_toInt_lt.mpr (by have := hD rN; have := hD (eN + 1); rw [own_i (by omega), own_i (by omega)]; omega))))))
    refine g_iloadN X0 hx (hb hby d13_58) (pc' := 59) rfl rfl ?_
    refine g_iconst X0 hx (hb hby d13_59) (pc' := 60) rfl (z := 1) (by decide) ?_
    refine g_iadd X0 hx (hb hby d13_60) (pc' := 61) rfl (z := e1) ge1 ?_
    refine g_istoreN X0 hx (hb hby d13_61) (pc' := 62) rfl (Ls' := #[.val (.ref ad), .val (.int r), .val (.int e1)]) rfl ?_
    exact j62 e1 (eN + 1) he1 (by omega) (hen.trans (congrArg (fun z => stp D rN (z)) (show stp D rN eN = eN + 1 from if_pos ⟨hlt, (by have h7 := Int32.lt_iff_toInt_lt.mp hg; have := hD rN; have := hD (eN + 1); rw [own_i (by omega), own_i (by omega)] at h7; omega)⟩)))
  have j22 : ∀ (ev : Int32) (eN : Nat), ev.toInt = eN → eN ≤ 4 → en D rN = stp D rN (stp D rN (stp D rN eN)) → Go p e below (Dn s below (QU (.int (Int32.ofNat (en D rN))) h0 n0) 0 0) (T.setTop (mkF m 22 #[.val (.ref ad), .val (.int r), .val (.int ev)] [])) := by
    intro ev eN he hle hen
    refine g_iloadN X0 hx (hb hby d13_22) (pc' := 23) rfl rfl ?_
    refine g_iconst X0 hx (hb hby d13_23) (pc' := 24) rfl (z := 4) (by decide) ?_
    refine g_icmp_ge X0 hx (hb hby d13_24) (by decide) (pc' := 42) rfl (pcF := 27) rfl (fun hc => ?_) (fun hc => ?_)
    · exact j42 ev eN he hle (hen.trans (congrArg (fun z => stp D rN (stp D rN (z))) (show stp D rN eN = eN from if_neg (fun z => hc (Int32.lt_iff_toInt_lt.mpr (by omega))))))
    have hlt : eN < 4 := by have := Int32.lt_iff_toInt_lt.mp hc; omega
    obtain ⟨e1, ge1⟩ : ∃ z : Int32, ev + 1 = z := ⟨_, rfl⟩
    have he1 : e1.toInt = (eN + 1 : Nat) := by have := c_iadd ev 1; have := rng32 e1; rw [ge1] at *; omega
    refine g_aloadN X0 hx (hb hby d13_27) (pc' := 28) rfl rfl rfl ?_
    refine g_iloadN X0 hx (hb hby d13_28) (pc' := 29) rfl rfl ?_
    refine g_iconst X0 hx (hb hby d13_29) (pc' := 30) rfl (z := 1) (by decide) ?_
    refine g_iadd X0 hx (hb hby d13_30) (pc' := 31) rfl (z := e1) ge1 ?_
    refine g_iaload X0 hx hZ e0 V (own_nn.mpr (by omega)) (own_nat he1) (by omega) rfl (hb hby d13_31) (pc' := 32) rfl ?_
    refine g_aloadN X0 hx (hb hby d13_32) (pc' := 33) rfl rfl rfl ?_
    refine g_iloadN X0 hx (hb hby d13_33) (pc' := 34) rfl rfl ?_
    refine g_iaload X0 hx hZ e0 V (own_nn.mpr (by omega)) (own_nat hr) (by omega) rfl (hb hby d13_34) (pc' := 35) rfl ?_
    refine g_icmp_le X0 hx (hb hby d13_35) (by decide) (pc' := 42) rfl (pcF := 38) rfl (fun hg => ?_) (fun hg => ?_)
    · exact j42 ev eN he hle (hen.trans (congrArg (fun z => stp D rN (stp D rN (z))) (show stp D rN eN = eN from if_neg (fun z => hg (Int32.lt_iff_toInt_lt.mpr (by have := hD rN; have := hD (eN + 1); rw [own_i (by omega), own_i (by omega)]; omega))))))
    refine g_iloadN X0 hx (hb hby d13_38) (pc' := 39) rfl rfl ?_
    refine g_iconst X0 hx (hb hby d13_39) (pc' := 40) rfl (z := 1) (by decide) ?_
    refine g_iadd X0 hx (hb hby d13_40) (pc' := 41) rfl (z := e1) ge1 ?_
    refine g_istoreN X0 hx (hb hby d13_41) (pc' := 42) rfl (Ls' := #[.val (.ref ad), .val (.int r), .val (.int e1)]) rfl ?_
    exact j42 e1 (eN + 1) he1 (by omega) (hen.trans (congrArg (fun z => stp D rN (stp D rN (z))) (show stp D rN eN = eN + 1 from if_pos ⟨hlt, (by have h7 := Int32.lt_iff_toInt_lt.mp hg; have := hD rN; have := hD (eN + 1); rw [own_i (by omega), own_i (by omega)] at h7; omega)⟩)))
  have j2 : ∀ (ev : Int32) (eN : Nat), ev.toInt = eN → eN ≤ 4 → en D rN = stp D rN (stp D rN (stp D rN (stp D rN eN))) → Go p e below (Dn s below (QU (.int (Int32.ofNat (en D rN))) h0 n0) 0 0) (T.setTop (mkF m 2 #[.val (.ref ad), .val (.int r), .val (.int ev)] [])) := by
    intro ev eN he hle hen
    refine g_iloadN X0 hx (hb hby d13_2) (pc' := 3) rfl rfl ?_
    refine g_iconst X0 hx (hb hby d13_3) (pc' := 4) rfl (z := 4) (by decide) ?_
    refine g_icmp_ge X0 hx (hb hby d13_4) (by decide) (pc' := 22) rfl (pcF := 7) rfl (fun hc => ?_) (fun hc => ?_)
    · exact j22 ev eN he hle (hen.trans (congrArg (fun z => stp D rN (stp D rN (stp D rN (z)))) (show stp D rN eN = eN from if_neg (fun z => hc (Int32.lt_iff_toInt_lt.mpr (by omega))))))
    have hlt : eN < 4 := by have := Int32.lt_iff_toInt_lt.mp hc; omega
    obtain ⟨e1, ge1⟩ : ∃ z : Int32, ev + 1 = z := ⟨_, rfl⟩
    have he1 : e1.toInt = (eN + 1 : Nat) := by have := c_iadd ev 1; have := rng32 e1; rw [ge1] at *; omega
    refine g_aloadN X0 hx (hb hby d13_7) (pc' := 8) rfl rfl rfl ?_
    refine g_iloadN X0 hx (hb hby d13_8) (pc' := 9) rfl rfl ?_
    refine g_iconst X0 hx (hb hby d13_9) (pc' := 10) rfl (z := 1) (by decide) ?_
    refine g_iadd X0 hx (hb hby d13_10) (pc' := 11) rfl (z := e1) ge1 ?_
    refine g_iaload X0 hx hZ e0 V (own_nn.mpr (by omega)) (own_nat he1) (by omega) rfl (hb hby d13_11) (pc' := 12) rfl ?_
    refine g_aloadN X0 hx (hb hby d13_12) (pc' := 13) rfl rfl rfl ?_
    refine g_iloadN X0 hx (hb hby d13_13) (pc' := 14) rfl rfl ?_
    refine g_iaload X0 hx hZ e0 V (own_nn.mpr (by omega)) (own_nat hr) (by omega) rfl (hb hby d13_14) (pc' := 15) rfl ?_
    refine g_icmp_le X0 hx (hb hby d13_15) (by decide) (pc' := 22) rfl (pcF := 18) rfl (fun hg => ?_) (fun hg => ?_)
    · exact j22 ev eN he hle (hen.trans (congrArg (fun z => stp D rN (stp D rN (stp D rN (z)))) (show stp D rN eN = eN from if_neg (fun z => hg (Int32.lt_iff_toInt_lt.mpr (by have := hD rN; have := hD (eN + 1); rw [own_i (by omega), own_i (by omega)]; omega))))))
    refine g_iloadN X0 hx (hb hby d13_18) (pc' := 19) rfl rfl ?_
    refine g_iconst X0 hx (hb hby d13_19) (pc' := 20) rfl (z := 1) (by decide) ?_
    refine g_iadd X0 hx (hb hby d13_20) (pc' := 21) rfl (z := e1) ge1 ?_
    refine g_istoreN X0 hx (hb hby d13_21) (pc' := 22) rfl (Ls' := #[.val (.ref ad), .val (.int r), .val (.int e1)]) rfl ?_
    exact j22 e1 (eN + 1) he1 (by omega) (hen.trans (congrArg (fun z => stp D rN (stp D rN (stp D rN (z)))) (show stp D rN eN = eN + 1 from if_pos ⟨hlt, (by have h7 := Int32.lt_iff_toInt_lt.mp hg; have := hD rN; have := hD (eN + 1); rw [own_i (by omega), own_i (by omega)] at h7; omega)⟩)))
  refine g_iloadN X0 hx (hb hby d13_0) (pc' := 1) rfl rfl ?_
  refine g_istoreN X0 hx (hb hby d13_1) (pc' := 2) rfl (Ls' := #[.val (.ref ad), .val (.int r), .val (.int r)]) rfl ?_
  exact j2 r rN hr (by omega) rfl
def fEl (na : Nat → Addr) (kd : Nat → Bool) : Nat → Value := fun j => if kd j then .null else .ref (na j)
def fTx (na : Nat → Addr) (kd : Nat → Bool) : Nat → Value := fun j => if kd j then .ref (na j) else .null
theorem fEl_f {na : Nat → Addr} {kd : Nat → Bool} {j : Nat} (h : kd j = false) : fEl na kd j = .ref (na j) := by simp [fEl, h]
theorem fTx_t {na : Nat → Addr} {kd : Nat → Bool} {j : Nat} (h : kd j = true) : fTx na kd j = .ref (na j) := by simp [fTx, h]
theorem fTx_f {na : Nat → Addr} {kd : Nat → Bool} {j : Nat} (h : kd j = false) : fTx na kd j = .null := by simp [fTx, h]
theorem d14_0 : decode method_8_code 0 = .ok (.aload_n 1, 1) := by decide +kernel
theorem d14_1 : decode method_8_code 1 = .ok (.iload_n 2, 1) := by decide +kernel
theorem d14_2 : decode method_8_code 2 = .ok (.aaload, 1) := by decide +kernel
theorem d14_3 : decode method_8_code 3 = .ok (.ifnull 7, 3) := by decide +kernel
theorem d14_6 : decode method_8_code 6 = .ok (.aload_n 1, 1) := by decide +kernel
theorem d14_7 : decode method_8_code 7 = .ok (.iload_n 2, 1) := by decide +kernel
theorem d14_8 : decode method_8_code 8 = .ok (.aaload, 1) := by decide +kernel
theorem d14_9 : decode method_8_code 9 = .ok (.areturn, 1) := by decide +kernel
theorem d14_10 : decode method_8_code 10 = .ok (.aload_n 0, 1) := by decide +kernel
theorem d14_11 : decode method_8_code 11 = .ok (.iload_n 2, 1) := by decide +kernel
theorem d14_12 : decode method_8_code 12 = .ok (.aaload, 1) := by decide +kernel
theorem d14_13 : decode method_8_code 13 = .ok (.areturn, 1) := by decide +kernel
theorem pn_ND : plainFor (⟨"com/example/sundskrift/sundskrift/core/xml/ReadOnlyParentFollowingPinLaw", "node", "([Lcom/example/sundskrift/sundskrift/core/xml/ReadOnlyElement;[Lcom/example/sundskrift/sundskrift/core/xml/ReadOnlyText;I)Ljava/lang/Object;"⟩ : MethodName) = true := plainFor_of_name (show plainName "com/example/sundskrift/sundskrift/core/xml/ReadOnlyParentFollowingPinLaw" = true by first | (simp [plainName, overriddenIn]; done) | decide +kernel)
theorem pd_ND : parseMethodDescriptor "([Lcom/example/sundskrift/sundskrift/core/xml/ReadOnlyElement;[Lcom/example/sundskrift/sundskrift/core/xml/ReadOnlyText;I)Ljava/lang/Object;" = some ⟨[.array (.object "com/example/sundskrift/sundskrift/core/xml/ReadOnlyElement"), .array (.object "com/example/sundskrift/sundskrift/core/xml/ReadOnlyText"), .int], some (.object "java/lang/Object")⟩ := by decide +kernel
theorem ef_ND (m : MethodId) (x0 : Addr) (x1 : Addr) (x2 : Int32) : entryFrame m #[(.ref x0), (.ref x1), (.int x2)] 3 = mkF m 0 #[.val (.ref x0), .val (.ref x1), .val (.int x2)] [] := by first | (simp [entryFrame, mkF, argsToLocals, Value.category]; done) | rfl
set_option maxRecDepth 65536 in
set_option maxHeartbeats 40000000 in
theorem rmND (l : Launch) (Z : State) (a0 : Array Value) (hw : ∀ d ∈ tables_1, d.before a0 Z = true) (ae ax : Addr) (na : Nat → Addr) (kd : Nat → Bool) (i : Int32) (iN : Nat) (h0 : Heap) (n0 : Nat) (VE : EA Z h0 ae (fEl na kd)) (VX : XA Z h0 ax (fTx na kd)) (hi : i.toInt = iN) (hN : iN < 5) :
    Ct l Z (⟨"com/example/sundskrift/sundskrift/core/xml/ReadOnlyParentFollowingPinLaw", "node", "([Lcom/example/sundskrift/sundskrift/core/xml/ReadOnlyElement;[Lcom/example/sundskrift/sundskrift/core/xml/ReadOnlyText;I)Ljava/lang/Object;"⟩ : MethodName) method_8_code 3 (some (.object "java/lang/Object")) ({ frames := 0, cells := 0, slots := 0, locals := 0 } : Room) #[(.ref ae), (.ref ax), (.int i)] h0 (QU (.ref (na iN)) h0 n0) := by
  refine Ct.of pn_ND (fun m => ef_ND m ae ax i) ?_
  intro p e s m below meth c T X0 hx hby hml hret hlk hZ hown hnm e0
  have hi0 : ¬ i < 0 := own_nn.mpr (by omega)
  have hiN : i.toNatClampNeg = iN := own_nat hi
  cases hk : kd iN
  ·
    refine g_aloadN X0 hx (hb hby d14_0) (pc' := 1) rfl rfl rfl ?_
    refine g_iloadN X0 hx (hb hby d14_1) (pc' := 2) rfl rfl ?_
    refine g_aaload X0 hx hZ e0 VX rfl hi0 hiN hN (fTx_f hk) (hb hby d14_2) (pc' := 3) rfl ?_
    refine g_ifnullY X0 hx (hb hby d14_3) (by decide) (pc' := 10) rfl ?_
    refine g_aloadN X0 hx (hb hby d14_10) (pc' := 11) rfl rfl rfl ?_
    refine g_iloadN X0 hx (hb hby d14_11) (pc' := 12) rfl rfl ?_
    refine g_aaload X0 hx hZ e0 VE rfl hi0 hiN hN (fEl_f hk) (hb hby d14_12) (pc' := 13) rfl ?_
    exact g_retR X0 hx hret hlk rfl rfl (hb hby d14_13) (by decide) (by decide) ⟨Fr.nil _, e0, rfl⟩
  ·
    refine g_aloadN X0 hx (hb hby d14_0) (pc' := 1) rfl rfl rfl ?_
    refine g_iloadN X0 hx (hb hby d14_1) (pc' := 2) rfl rfl ?_
    refine g_aaload X0 hx hZ e0 VX rfl hi0 hiN hN (fTx_t hk) (hb hby d14_2) (pc' := 3) rfl ?_
    refine g_ifnullN X0 hx (hb hby d14_3) (pc' := 6) rfl ?_
    refine g_aloadN X0 hx (hb hby d14_6) (pc' := 7) rfl rfl rfl ?_
    refine g_iloadN X0 hx (hb hby d14_7) (pc' := 8) rfl rfl ?_
    refine g_aaload X0 hx hZ e0 VX rfl hi0 hiN hN (fTx_t hk) (hb hby d14_8) (pc' := 9) rfl ?_
    exact g_retR X0 hx hret hlk rfl rfl (hb hby d14_9) (by decide) (by decide) ⟨Fr.nil _, e0, rfl⟩
theorem lays_parent {Z : State} {a0 : Array Value} (hw : ∀ d ∈ tables_1, d.before a0 Z = true) (b : Bool) : (Cond.lays (cl b) "com/example/sundskrift/sundskrift/core/xml/ReadOnlyNode" "parent" "Lcom/example/sundskrift/sundskrift/core/xml/ReadOnlyParent;").before a0 Z = true := by
  cases b
  · exact (hw _ (List.mem_of_getElem? (i := 100) rfl))
  · exact (hw _ (List.mem_of_getElem? (i := 93) rfl))
theorem mem_parent (b : Bool) : ("com/example/sundskrift/sundskrift/core/xml/ReadOnlyNode", "parent", "Lcom/example/sundskrift/sundskrift/core/xml/ReadOnlyParent;") ∈ fsN b := by
  cases b
  · exact mem_i 1 rfl
  · exact mem_i 1 rfl
theorem lays_previous {Z : State} {a0 : Array Value} (hw : ∀ d ∈ tables_1, d.before a0 Z = true) (b : Bool) : (Cond.lays (cl b) "com/example/sundskrift/sundskrift/core/xml/ReadOnlyNode" "previous" "Lcom/example/sundskrift/sundskrift/core/xml/ReadOnlyNode;").before a0 Z = true := by
  cases b
  · exact (hw _ (List.mem_of_getElem? (i := 101) rfl))
  · exact (hw _ (List.mem_of_getElem? (i := 97) rfl))
theorem mem_previous (b : Bool) : ("com/example/sundskrift/sundskrift/core/xml/ReadOnlyNode", "previous", "Lcom/example/sundskrift/sundskrift/core/xml/ReadOnlyNode;") ∈ fsN b := by
  cases b
  · exact mem_i 2 rfl
  · exact mem_i 2 rfl
theorem lays_next {Z : State} {a0 : Array Value} (hw : ∀ d ∈ tables_1, d.before a0 Z = true) (b : Bool) : (Cond.lays (cl b) "com/example/sundskrift/sundskrift/core/xml/ReadOnlyNode" "next" "Lcom/example/sundskrift/sundskrift/core/xml/ReadOnlyNode;").before a0 Z = true := by
  cases b
  · exact (hw _ (List.mem_of_getElem? (i := 104) rfl))
  · exact (hw _ (List.mem_of_getElem? (i := 103) rfl))
theorem mem_next (b : Bool) : ("com/example/sundskrift/sundskrift/core/xml/ReadOnlyNode", "next", "Lcom/example/sundskrift/sundskrift/core/xml/ReadOnlyNode;") ∈ fsN b := by
  cases b
  · exact mem_i 3 rfl
  · exact mem_i 3 rfl
theorem mem_first : ("com/example/sundskrift/sundskrift/core/xml/ReadOnlyParent", "first", "Lcom/example/sundskrift/sundskrift/core/xml/ReadOnlyNode;") ∈ fsN false := mem_i 4 rfl
theorem mem_last : ("com/example/sundskrift/sundskrift/core/xml/ReadOnlyParent", "last", "Lcom/example/sundskrift/sundskrift/core/xml/ReadOnlyNode;") ∈ fsN false := mem_i 5 rfl
def szN : Bool → Nat
  | true => 6
  | false => 14
theorem inst_N {Z : State} {a0 : Array Value} (hw : ∀ d ∈ tables_1, d.before a0 Z = true) (b : Bool) : (Cond.instantiable (cl b) (szN b)).before a0 Z = true := by
  cases b
  · exact (hw _ (List.mem_of_getElem? (i := 12) rfl))
  · exact (hw _ (List.mem_of_getElem? (i := 65) rfl))
theorem fits_ov (C : String) (na : Nat → Addr) (o : Option Nat) : fits (.object C) (ov na o) = true := by cases o <;> rfl
theorem nar_ov (C : String) (na : Nat → Addr) (o : Option Nat) : narrow (.object C) (ov na o) = ov na o := by cases o <;> rfl
def QAp (Z : State) (na : Nat → Addr) (kd : Nat → Bool) (P N F L : Nat → Option Nat) (h0 : Heap) (n0 : Nat) (v : Option Value) (h : Heap) (Lc : List Loc) : Prop := v = none ∧ Fr n0 Lc ∧ Keep h0 h (nas na) ∧ ∃ gs, TS Z h na kd gs ∧ RR na gs P N F L
theorem d12_0 : decode prog_167_method_2_code 0 = .ok (.aload_n 1, 1) := by decide +kernel
theorem d12_1 : decode prog_167_method_2_code 1 = .ok (.aload_n 0, 1) := by decide +kernel
theorem d12_2 : decode prog_167_method_2_code 2 = .ok (.putfield 7, 3) := by decide +kernel
theorem d12_5 : decode prog_167_method_2_code 5 = .ok (.aload_n 1, 1) := by decide +kernel
theorem d12_6 : decode prog_167_method_2_code 6 = .ok (.aload_n 0, 1) := by decide +kernel
theorem d12_7 : decode prog_167_method_2_code 7 = .ok (.getfield 11, 3) := by decide +kernel
theorem d12_10 : decode prog_167_method_2_code 10 = .ok (.putfield 17, 3) := by decide +kernel
theorem d12_13 : decode prog_167_method_2_code 13 = .ok (.aload_n 0, 1) := by decide +kernel
theorem d12_14 : decode prog_167_method_2_code 14 = .ok (.getfield 11, 3) := by decide +kernel
theorem d12_17 : decode prog_167_method_2_code 17 = .ok (.ifnonnull 11, 3) := by decide +kernel
theorem d12_20 : decode prog_167_method_2_code 20 = .ok (.aload_n 0, 1) := by decide +kernel
theorem d12_21 : decode prog_167_method_2_code 21 = .ok (.aload_n 1, 1) := by decide +kernel
theorem d12_22 : decode prog_167_method_2_code 22 = .ok (.putfield 20, 3) := by decide +kernel
theorem d12_25 : decode prog_167_method_2_code 25 = .ok (.goto 11, 3) := by decide +kernel
theorem d12_28 : decode prog_167_method_2_code 28 = .ok (.aload_n 0, 1) := by decide +kernel
theorem d12_29 : decode prog_167_method_2_code 29 = .ok (.getfield 11, 3) := by decide +kernel
theorem d12_32 : decode prog_167_method_2_code 32 = .ok (.aload_n 1, 1) := by decide +kernel
theorem d12_33 : decode prog_167_method_2_code 33 = .ok (.putfield 23, 3) := by decide +kernel
theorem d12_36 : decode prog_167_method_2_code 36 = .ok (.aload_n 0, 1) := by decide +kernel
theorem d12_37 : decode prog_167_method_2_code 37 = .ok (.aload_n 1, 1) := by decide +kernel
theorem d12_38 : decode prog_167_method_2_code 38 = .ok (.putfield 11, 3) := by decide +kernel
theorem d12_41 : decode prog_167_method_2_code 41 = .ok (.return_, 1) := by decide +kernel
theorem pn_AP : plainFor (⟨"com/example/sundskrift/sundskrift/core/xml/ReadOnlyParent", "append", "(Lcom/example/sundskrift/sundskrift/core/xml/ReadOnlyNode;)V"⟩ : MethodName) = true := plainFor_of_name (show plainName "com/example/sundskrift/sundskrift/core/xml/ReadOnlyParent" = true by first | (simp [plainName, overriddenIn]; done) | decide +kernel)
theorem pd_AP : parseMethodDescriptor "(Lcom/example/sundskrift/sundskrift/core/xml/ReadOnlyNode;)V" = some ⟨[.object "com/example/sundskrift/sundskrift/core/xml/ReadOnlyNode"], none⟩ := by decide +kernel
theorem ef_AP (m : MethodId) (x0 : Addr) (x1 : Addr) : entryFrame m #[(.ref x0), (.ref x1)] 2 = mkF m 0 #[.val (.ref x0), .val (.ref x1)] [] := by first | (simp [entryFrame, mkF, argsToLocals, Value.category]; done) | rfl
set_option maxRecDepth 65536 in
set_option maxHeartbeats 40000000 in
theorem rmAP (l : Launch) (Z : State) (a0 : Array Value) (hw : ∀ d ∈ tables_1, d.before a0 Z = true) (na : Nat → Addr) (kd : Nat → Bool) (gs : Nat → String → Value) (P N F L : Nat → Option Nat) (r i : Nat) (h0 : Heap) (n0 : Nat) (t : TS Z h0 na kd gs) (rr : RR na gs P N F L) (J : Inj5 na n0) (hr : r < 5) (hi : i < 5) (hkr : kd r = false) (bL : Bd L) :
    Ct l Z (⟨"com/example/sundskrift/sundskrift/core/xml/ReadOnlyParent", "append", "(Lcom/example/sundskrift/sundskrift/core/xml/ReadOnlyNode;)V"⟩ : MethodName) prog_167_method_2_code 2 none ({ frames := 0, cells := 0, slots := 0, locals := 0 } : Room) #[(.ref (na r)), (.ref (na i))] h0 (QAp Z na kd (sup P i (some r)) (aN N L r i) (aF F L r i) (sup L r (some i)) h0 n0) := by
  refine Ct.of pn_AP (fun m => ef_AP m (na r) (na i)) ?_
  intro p e s m below meth c T X0 hx hby hml hret hlk hZ hown hnm e0
  have mlast : ("com/example/sundskrift/sundskrift/core/xml/ReadOnlyParent", "last", "Lcom/example/sundskrift/sundskrift/core/xml/ReadOnlyNode;") ∈ fsN (kd r) := by rw [hkr]; exact mem_last
  have mfirst : ("com/example/sundskrift/sundskrift/core/xml/ReadOnlyParent", "first", "Lcom/example/sundskrift/sundskrift/core/xml/ReadOnlyNode;") ∈ fsN (kd r) := by rw [hkr]; exact mem_first
  have llast : (Cond.lays (cl (kd r)) "com/example/sundskrift/sundskrift/core/xml/ReadOnlyParent" "last" "Lcom/example/sundskrift/sundskrift/core/xml/ReadOnlyNode;").before a0 Z = true := by rw [hkr]; exact (hw _ (List.mem_of_getElem? (i := 95) rfl))
  have lfirst : (Cond.lays (cl (kd r)) "com/example/sundskrift/sundskrift/core/xml/ReadOnlyParent" "first" "Lcom/example/sundskrift/sundskrift/core/xml/ReadOnlyNode;").before a0 Z = true := by rw [hkr]; exact (hw _ (List.mem_of_getElem? (i := 99) rfl))
  refine g_aloadN X0 hx (hb hby d12_0) (pc' := 1) rfl rfl rfl ?_
  refine g_aloadN X0 hx (hb hby d12_1) (pc' := 2) rfl rfl rfl ?_
  refine g_putF X0 hx hZ (.object "com/example/sundskrift/sundskrift/core/xml/ReadOnlyParent") (host := "") (v := (.ref (na r))) hown (Or.inl (hw _ (List.mem_of_getElem? (i := 92) rfl))) Via.refl e0 ((t i hi).2 ("com/example/sundskrift/sundskrift/core/xml/ReadOnlyNode", "parent", "Lcom/example/sundskrift/sundskrift/core/xml/ReadOnlyParent;") (mem_parent _)) (t i hi).1 (Or.inl (lays_parent hw _)) (inst_N hw _) (by decide) rfl rfl (hb hby d12_2) (pc' := 5) rfl ?_
  intro T1 h1 X1 e1 W1
  have t1 := t.put hw J hi (mem_parent _) W1
  have r1 : RR na _ _ N F L := rr.parent i (some r)
  refine g_aloadN X1 hx (hb hby d12_5) (pc' := 6) rfl rfl rfl ?_
  refine g_aloadN X1 hx (hb hby d12_6) (pc' := 7) rfl rfl rfl ?_
  have hv2 : _ = (ov na (L r)) := (r1 r hr).2.2.2
  refine g_getF X1 hx hZ (host := "") (v := (ov na (L r))) hown (Or.inl (hw _ (List.mem_of_getElem? (i := 94) rfl))) Via.refl e1 (hv2 ▸ (t1 r hr).2 ("com/example/sundskrift/sundskrift/core/xml/ReadOnlyParent", "last", "Lcom/example/sundskrift/sundskrift/core/xml/ReadOnlyNode;") mlast) (hb hby d12_7) (pc' := 10) rfl ?_
  intro T2 X2 e2
  refine g_putF X2 hx hZ (.object "com/example/sundskrift/sundskrift/core/xml/ReadOnlyNode") (host := "") (v := (ov na (L r))) hown (Or.inl (hw _ (List.mem_of_getElem? (i := 96) rfl))) Via.refl e2 ((t1 i hi).2 ("com/example/sundskrift/sundskrift/core/xml/ReadOnlyNode", "previous", "Lcom/example/sundskrift/sundskrift/core/xml/ReadOnlyNode;") (mem_previous _)) (t1 i hi).1 (Or.inl (lays_previous hw _)) (inst_N hw _) (by decide) (nar_ov _ na (L r)) (fits_ov _ na (L r)) (hb hby d12_10) (pc' := 13) rfl ?_
  intro T3 h3 X3 e3 W3
  have t3 := t1.put hw J hi (mem_previous _) W3
  have r3 : RR na _ _ N F L := r1.previous i (ov na (L r))
  refine g_aloadN X3 hx (hb hby d12_13) (pc' := 14) rfl rfl rfl ?_
  have hv4 : _ = (ov na (L r)) := (r3 r hr).2.2.2
  refine g_getF X3 hx hZ (host := "") (v := (ov na (L r))) hown (Or.inl (hw _ (List.mem_of_getElem? (i := 94) rfl))) Via.refl e3 (hv4 ▸ (t3 r hr).2 ("com/example/sundskrift/sundskrift/core/xml/ReadOnlyParent", "last", "Lcom/example/sundskrift/sundskrift/core/xml/ReadOnlyNode;") mlast) (hb hby d12_14) (pc' := 17) rfl ?_
  intro T4 X4 e4
  have tail : ∀ (T5 : State) (h5 : Heap) (lc5 : List Loc) (gs5 : Nat → String → Value) (N5 F5 : Nat → Option Nat), Stand p l e ({ frames := 0, cells := 0, slots := 0, locals := 0 } : Room) s m #[(.ref (na r)), (.ref (na i))] below meth c T5 lc5 0 0 → T5.heap = h5 → Fr n0 lc5 → Keep h0 h5 (nas na) → TS Z h5 na kd gs5 → RR na gs5 (sup P i (some r)) N5 F5 L → N5 = aN N L r i → F5 = aF F L r i → Go p e below (Dn s below (QAp Z na kd (sup P i (some r)) (aN N L r i) (aF F L r i) (sup L r (some i)) h0 n0) 0 0) (T5.setTop (mkF m 36 #[.val (.ref (na r)), .val (.ref (na i))] [])) := by
    intro T5 h5 lc5 gs5 N5 F5 X5 e5 Nn5 K5 t5 r5 q1 q2
    refine g_aloadN X5 hx (hb hby d12_36) (pc' := 37) rfl rfl rfl ?_
    refine g_aloadN X5 hx (hb hby d12_37) (pc' := 38) rfl rfl rfl ?_
    refine g_putF X5 hx hZ (.object "com/example/sundskrift/sundskrift/core/xml/ReadOnlyNode") (host := "") (v := (.ref (na i))) hown (Or.inl (hw _ (List.mem_of_getElem? (i := 94) rfl))) Via.refl e5 ((t5 r hr).2 ("com/example/sundskrift/sundskrift/core/xml/ReadOnlyParent", "last", "Lcom/example/sundskrift/sundskrift/core/xml/ReadOnlyNode;") mlast) (t5 r hr).1 (Or.inl llast) (inst_N hw _) (by decide) rfl rfl (hb hby d12_38) (pc' := 41) rfl ?_
    intro T6 h6 X6 e6 W6
    have t6 := t5.put hw J hr mlast W6
    subst q1 q2
    exact g_retV X6 hx hret hlk (hb hby d12_41) (by decide) (by decide) ⟨rfl, Fr.snoc X6 Nn5 (J.2 r hr), by rw [e6]; exact K5.wr W6 (Or.inl (nas_mem na hr)), _, by rw [e6]; exact t6, r5.last r (some i)⟩
  rcases hL : L r with _ | j
  ·
    show Go p e below _ (T4.setTop (mkF m 17 #[.val (.ref (na r)), .val (.ref (na i))] [.null]))
    refine g_ifnonnullN X4 hx (hb hby d12_17) (pc' := 20) rfl ?_
    refine g_aloadN X4 hx (hb hby d12_20) (pc' := 21) rfl rfl rfl ?_
    refine g_aloadN X4 hx (hb hby d12_21) (pc' := 22) rfl rfl rfl ?_
    refine g_putF X4 hx hZ (.object "com/example/sundskrift/sundskrift/core/xml/ReadOnlyNode") (host := "") (v := (.ref (na i))) hown (Or.inl (hw _ (List.mem_of_getElem? (i := 98) rfl))) Via.refl e4 ((t3 r hr).2 ("com/example/sundskrift/sundskrift/core/xml/ReadOnlyParent", "first", "Lcom/example/sundskrift/sundskrift/core/xml/ReadOnlyNode;") mfirst) (t3 r hr).1 (Or.inl lfirst) (inst_N hw _) (by decide) rfl rfl (hb hby d12_22) (pc' := 25) rfl ?_
    intro Tf hf Xf ef Wf
    have tf := t3.put hw J hr mfirst Wf
    refine g_goto Xf hx (hb hby d12_25) (by decide) (pc' := 36) rfl ?_
    exact tail Tf hf _ _ _ _ Xf ef (Fr.snoc Xf (Fr.snoc X3 (Fr.snoc X1 (Fr.nil n0) (J.2 i hi)) (J.2 i hi)) (J.2 r hr)) ((((Keep.refl h0 (nas na)).wr W1 (Or.inl (nas_mem na hi))).wr W3 (Or.inl (nas_mem na hi))).wr Wf (Or.inl (nas_mem na hr))) tf (r3.first r (some i)) (by simp [aN, hL]) (by simp [aF, hL])
  ·
    show Go p e below _ (T4.setTop (mkF m 17 #[.val (.ref (na r)), .val (.ref (na i))] [(.ref (na j))]))
    have hj : j < 5 := bL r j hL
    refine g_ifnonnullY X4 hx (hb hby d12_17) (by decide) (pc' := 28) rfl ?_
    refine g_aloadN X4 hx (hb hby d12_28) (pc' := 29) rfl rfl rfl ?_
    have hvg : _ = (Value.ref (na j)) := ((r3 r hr).2.2.2.trans (congrArg (ov na) hL))
    refine g_getF X4 hx hZ (host := "") (v := (.ref (na j))) hown (Or.inl (hw _ (List.mem_of_getElem? (i := 94) rfl))) Via.refl e4 (hvg ▸ (t3 r hr).2 ("com/example/sundskrift/sundskrift/core/xml/ReadOnlyParent", "last", "Lcom/example/sundskrift/sundskrift/core/xml/ReadOnlyNode;") mlast) (hb hby d12_29) (pc' := 32) rfl ?_
    intro Tg Xg eg
    refine g_aloadN Xg hx (hb hby d12_32) (pc' := 33) rfl rfl rfl ?_
    refine g_putF Xg hx hZ (.object "com/example/sundskrift/sundskrift/core/xml/ReadOnlyNode") (host := "") (v := (.ref (na i))) hown (Or.inl (hw _ (List.mem_of_getElem? (i := 102) rfl))) Via.refl eg ((t3 j hj).2 ("com/example/sundskrift/sundskrift/core/xml/ReadOnlyNode", "next", "Lcom/example/sundskrift/sundskrift/core/xml/ReadOnlyNode;") (mem_next _)) (t3 j hj).1 (Or.inl (lays_next hw _)) (inst_N hw _) (by decide) rfl rfl (hb hby d12_33) (pc' := 36) rfl ?_
    intro Tx hx_ Xx ex Wx
    have tx := t3.put hw J hj (mem_next _) Wx
    exact tail Tx hx_ _ _ _ _ Xx ex (Fr.snoc Xx (Fr.snoc X3 (Fr.snoc X1 (Fr.nil n0) (J.2 i hi)) (J.2 i hi)) (J.2 j hj)) ((((Keep.refl h0 (nas na)).wr W1 (Or.inl (nas_mem na hi))).wr W3 (Or.inl (nas_mem na hi))).wr Wx (Or.inl (nas_mem na hj))) tx (r3.next j (some i)) (by simp [aN, hL]) (by simp [aF, hL])
theorem d11_0 : decode method_6_code 0 = .ok (.aload_n 1, 1) := by decide +kernel
theorem d11_1 : decode method_6_code 1 = .ok (.iload_n 3, 1) := by decide +kernel
theorem d11_2 : decode method_6_code 2 = .ok (.aaload, 1) := by decide +kernel
theorem d11_3 : decode method_6_code 3 = .ok (.ifnull 17, 3) := by decide +kernel
theorem d11_6 : decode method_6_code 6 = .ok (.aload_n 0, 1) := by decide +kernel
theorem d11_7 : decode method_6_code 7 = .ok (.aload_n 2, 1) := by decide +kernel
theorem d11_8 : decode method_6_code 8 = .ok (.iload_n 3, 1) := by decide +kernel
theorem d11_9 : decode method_6_code 9 = .ok (.iaload, 1) := by decide +kernel
theorem d11_10 : decode method_6_code 10 = .ok (.aaload, 1) := by decide +kernel
theorem d11_11 : decode method_6_code 11 = .ok (.aload_n 1, 1) := by decide +kernel
theorem d11_12 : decode method_6_code 12 = .ok (.iload_n 3, 1) := by decide +kernel
theorem d11_13 : decode method_6_code 13 = .ok (.aaload, 1) := by decide +kernel
theorem d11_14 : decode method_6_code 14 = .ok (.invokevirtual 54, 3) := by decide +kernel
theorem d11_17 : decode method_6_code 17 = .ok (.goto 14, 3) := by decide +kernel
theorem d11_20 : decode method_6_code 20 = .ok (.aload_n 0, 1) := by decide +kernel
theorem d11_21 : decode method_6_code 21 = .ok (.aload_n 2, 1) := by decide +kernel
theorem d11_22 : decode method_6_code 22 = .ok (.iload_n 3, 1) := by decide +kernel
theorem d11_23 : decode method_6_code 23 = .ok (.iaload, 1) := by decide +kernel
theorem d11_24 : decode method_6_code 24 = .ok (.aaload, 1) := by decide +kernel
theorem d11_25 : decode method_6_code 25 = .ok (.aload_n 0, 1) := by decide +kernel
theorem d11_26 : decode method_6_code 26 = .ok (.iload_n 3, 1) := by decide +kernel
theorem d11_27 : decode method_6_code 27 = .ok (.aaload, 1) := by decide +kernel
theorem d11_28 : decode method_6_code 28 = .ok (.invokevirtual 54, 3) := by decide +kernel
theorem d11_31 : decode method_6_code 31 = .ok (.return_, 1) := by decide +kernel
theorem pn_AT : plainFor (⟨"com/example/sundskrift/sundskrift/core/xml/ReadOnlyParentFollowingPinLaw", "attach", "([Lcom/example/sundskrift/sundskrift/core/xml/ReadOnlyElement;[Lcom/example/sundskrift/sundskrift/core/xml/ReadOnlyText;[II)V"⟩ : MethodName) = true := plainFor_of_name (show plainName "com/example/sundskrift/sundskrift/core/xml/ReadOnlyParentFollowingPinLaw" = true by first | (simp [plainName, overriddenIn]; done) | decide +kernel)
theorem pd_AT : parseMethodDescriptor "([Lcom/example/sundskrift/sundskrift/core/xml/ReadOnlyElement;[Lcom/example/sundskrift/sundskrift/core/xml/ReadOnlyText;[II)V" = some ⟨[.array (.object "com/example/sundskrift/sundskrift/core/xml/ReadOnlyElement"), .array (.object "com/example/sundskrift/sundskrift/core/xml/ReadOnlyText"), .array .int, .int], none⟩ := by decide +kernel
theorem ef_AT (m : MethodId) (x0 : Addr) (x1 : Addr) (x2 : Addr) (x3 : Int32) : entryFrame m #[(.ref x0), (.ref x1), (.ref x2), (.int x3)] 4 = mkF m 0 #[.val (.ref x0), .val (.ref x1), .val (.ref x2), .val (.int x3)] [] := by first | (simp [entryFrame, mkF, argsToLocals, Value.category]; done) | rfl
set_option maxRecDepth 65536 in
set_option maxHeartbeats 40000000 in
theorem rmAT (l : Launch) (Z : State) (a0 : Array Value) (hw : ∀ d ∈ tables_1, d.before a0 Z = true) (ae ax ap : Addr) (na : Nat → Addr) (kd : Nat → Bool) (gs : Nat → String → Value) (P N F L : Nat → Option Nat) (Pa : Nat → Nat) (i : Int32) (iN pN : Nat) (h0 : Heap) (n0 : Nat) (t : TS Z h0 na kd gs) (rr : RR na gs P N F L) (J : Inj5 na n0) (VE : EA Z h0 ae (fEl na kd)) (VX : XA Z h0 ax (fTx na kd)) (VP : IA Z h0 ap Pa) (hi : i.toInt = iN) (hN : iN < 5) (hp : Pa iN = pN) (hpN : pN < 5) (hkp : kd pN = false) (bL : Bd L) :
    Ct l Z (⟨"com/example/sundskrift/sundskrift/core/xml/ReadOnlyParentFollowingPinLaw", "attach", "([Lcom/example/sundskrift/sundskrift/core/xml/ReadOnlyElement;[Lcom/example/sundskrift/sundskrift/core/xml/ReadOnlyText;[II)V"⟩ : MethodName) method_6_code 4 none ({ frames := 1, cells := 0, slots := 0, locals := 13 } : Room) #[(.ref ae), (.ref ax), (.ref ap), (.int i)] h0 (QAp Z na kd (sup P iN (some pN)) (aN N L pN iN) (aF F L pN iN) (sup L pN (some iN)) h0 n0) := by
  refine Ct.of pn_AT (fun m => ef_AT m ae ax ap i) ?_
  intro p e s m below meth c T X0 hx hby hml hret hlk hZ hown hnm e0
  have hi0 : ¬ i < 0 := own_nn.mpr (by omega)
  have hiN : i.toNatClampNeg = iN := own_nat hi
  have hp0 : ¬ Int32.ofNat pN < 0 := own_nn.mpr (by rw [own_i (by omega)]; omega)
  have hpp : (Int32.ofNat pN).toNatClampNeg = pN := own_nat (own_i (by omega))
  have hE : Exa Z h0 (na pN) "com/example/sundskrift/sundskrift/core/xml/ReadOnlyElement" := by have := (t pN hpN).1; rw [hkp] at this; exact this
  cases hk : kd iN
  ·
    refine g_aloadN X0 hx (hb hby d11_0) (pc' := 1) rfl rfl rfl ?_
    refine g_iloadN X0 hx (hb hby d11_1) (pc' := 2) rfl rfl ?_
    refine g_aaload X0 hx hZ e0 VX rfl hi0 hiN hN (fTx_f hk) (hb hby d11_2) (pc' := 3) rfl ?_
    refine g_ifnullY X0 hx (hb hby d11_3) (by decide) (pc' := 20) rfl ?_
    refine g_aloadN X0 hx (hb hby d11_20) (pc' := 21) rfl rfl rfl ?_
    refine g_aloadN X0 hx (hb hby d11_21) (pc' := 22) rfl rfl rfl ?_
    refine g_iloadN X0 hx (hb hby d11_22) (pc' := 23) rfl rfl ?_
    refine g_iaload X0 hx hZ e0 VP hi0 hiN hN (v := Int32.ofNat pN) (by rw [hp]) (hb hby d11_23) (pc' := 24) rfl ?_
    refine g_aaload X0 hx hZ e0 VE rfl hp0 hpp hpN (fEl_f hkp) (hb hby d11_24) (pc' := 25) rfl ?_
    refine g_aloadN X0 hx (hb hby d11_25) (pc' := 26) rfl rfl rfl ?_
    refine g_iloadN X0 hx (hb hby d11_26) (pc' := 27) rfl rfl ?_
    refine g_aaload X0 hx hZ e0 VE rfl hi0 hiN hN (fEl_f hk) (hb hby d11_27) (pc' := 28) rfl ?_
    refine g_callU X0 hx hZ 0 (a := na pN) hown (hw _ (List.mem_of_getElem? (i := 86) rfl)) (hw _ (List.mem_of_getElem? (i := 87) rfl)) (hw _ (List.mem_of_getElem? (i := 88) rfl)) (hw _ (List.mem_of_getElem? (i := 90) rfl)) (hw _ (List.mem_of_getElem? (i := 89) rfl)) (hw _ (List.mem_of_getElem? (i := 91) rfl)) (hw _ (List.mem_of_getElem? (i := 35) rfl)) (by decide) e0 hE (rmAP l Z a0 hw na kd gs P N F L pN iN h0 n0 t rr J hpN hN hkp bL) (by decide) (by decide) (by rw [hml]; rfl) (argsL := [(.ref (na iN))]) (rest := []) (lenOf pd_AP rfl) rfl (Nat.le_of_eq rfl) (hb hby d11_28) (pc' := 31) rfl (by decide) (by decide) rfl ?_
    rintro T1 _ L1 X1 ⟨rfl, N1, K1, gs1, t1, r1⟩
    show Go p e below _ (T1.setTop (mkF m 31 #[.val (.ref ae), .val (.ref ax), .val (.ref ap), .val (.int i)] []))
    exact g_retV X1 hx hret hlk (hb hby d11_31) (by decide) (by decide) ⟨rfl, (Fr.nil _).app N1, K1, gs1, t1, r1⟩
  ·
    refine g_aloadN X0 hx (hb hby d11_0) (pc' := 1) rfl rfl rfl ?_
    refine g_iloadN X0 hx (hb hby d11_1) (pc' := 2) rfl rfl ?_
    refine g_aaload X0 hx hZ e0 VX rfl hi0 hiN hN (fTx_t hk) (hb hby d11_2) (pc' := 3) rfl ?_
    refine g_ifnullN X0 hx (hb hby d11_3) (pc' := 6) rfl ?_
    refine g_aloadN X0 hx (hb hby d11_6) (pc' := 7) rfl rfl rfl ?_
    refine g_aloadN X0 hx (hb hby d11_7) (pc' := 8) rfl rfl rfl ?_
    refine g_iloadN X0 hx (hb hby d11_8) (pc' := 9) rfl rfl ?_
    refine g_iaload X0 hx hZ e0 VP hi0 hiN hN (v := Int32.ofNat pN) (by rw [hp]) (hb hby d11_9) (pc' := 10) rfl ?_
    refine g_aaload X0 hx hZ e0 VE rfl hp0 hpp hpN (fEl_f hkp) (hb hby d11_10) (pc' := 11) rfl ?_
    refine g_aloadN X0 hx (hb hby d11_11) (pc' := 12) rfl rfl rfl ?_
    refine g_iloadN X0 hx (hb hby d11_12) (pc' := 13) rfl rfl ?_
    refine g_aaload X0 hx hZ e0 VX rfl hi0 hiN hN (fTx_t hk) (hb hby d11_13) (pc' := 14) rfl ?_
    refine g_callU X0 hx hZ 0 (a := na pN) hown (hw _ (List.mem_of_getElem? (i := 86) rfl)) (hw _ (List.mem_of_getElem? (i := 87) rfl)) (hw _ (List.mem_of_getElem? (i := 88) rfl)) (hw _ (List.mem_of_getElem? (i := 90) rfl)) (hw _ (List.mem_of_getElem? (i := 89) rfl)) (hw _ (List.mem_of_getElem? (i := 91) rfl)) (hw _ (List.mem_of_getElem? (i := 35) rfl)) (by decide) e0 hE (rmAP l Z a0 hw na kd gs P N F L pN iN h0 n0 t rr J hpN hN hkp bL) (by decide) (by decide) (by rw [hml]; rfl) (argsL := [(.ref (na iN))]) (rest := []) (lenOf pd_AP rfl) rfl (Nat.le_of_eq rfl) (hb hby d11_14) (pc' := 17) rfl (by decide) (by decide) rfl ?_
    rintro T1 _ L1 X1 ⟨rfl, N1, K1, gs1, t1, r1⟩
    show Go p e below _ (T1.setTop (mkF m 17 #[.val (.ref ae), .val (.ref ax), .val (.ref ap), .val (.int i)] []))
    refine g_goto X1 hx (hb hby d11_17) (by decide) (pc' := 31) rfl ?_
    exact g_retV X1 hx hret hlk (hb hby d11_31) (by decide) (by decide) ⟨rfl, (Fr.nil _).app N1, K1, gs1, t1, r1⟩
theorem own_noP {Z : State} {a0 : Array Value} (hw : ∀ d ∈ tables_1, d.before a0 Z = true) : ∃ c t, Z.vm.findClass "com/example/sundskrift/sundskrift/core/xml/ReadOnlyText" = some c ∧ Z.vm.findClass "com/example/sundskrift/sundskrift/core/xml/ReadOnlyParent" = some t ∧ Z.vm.assignable c t = false := by
  obtain ⟨-, -, mm, -, -, hm, -, kp, hkp, hki⟩ := Cond.selects_spec (hw _ (List.mem_of_getElem? (i := 90) rfl))
  have hP := findClass_of_methodNamed hm
  have w0 := (hw _ (List.mem_of_getElem? (i := 123) rfl))
  have w1 := (hw _ (List.mem_of_getElem? (i := 120) rfl))
  have w2 := (hw _ (List.mem_of_getElem? (i := 121) rfl))
  have w3 := (hw _ (List.mem_of_getElem? (i := 122) rfl))
  obtain ⟨cO, kO, o1, o2, o3, -, -⟩ := Cond.noSuperclass_spec w0
  have nO : NS Z "java/lang/Object" "com/example/sundskrift/sundskrift/core/xml/ReadOnlyParent" := by
    refine ⟨cO, mm.cls, o1, hP, fun fuel => ?_⟩
    have ne := ids_ne o1 hP (by decide)
    cases fuel with
    | zero => rfl
    | succ f => simp [Vm.isSubclassAux, ne, o2, o3]
  have nX := NS.step w1 (NS.step w2 (NS.step w3 nO (by decide)) (by decide)) (by decide)
  obtain ⟨c, t, h0, g0, n3⟩ := nX
  cases g0.symm.trans hP
  obtain ⟨q, k, kq, h1, h2, h3, h4, h5, -, h7⟩ := Cond.superclass_spec h0 w1
  have ne := ids_ne h0 hP (by decide)
  refine ⟨c, mm.cls, h0, hP, ?_⟩
  show Z.vm.assignableAux (255 + 1) c mm.cls = false
  cases hk : kp.kind <;> simp [Vm.assignableAux, ne, h2, hkp, h5, hk, hki, Vm.isSubclass, n3]
theorem d15_0 : decode prog_167_method_12_code 0 = .ok (.aload_n 1, 1) := by decide +kernel
theorem d15_1 : decode prog_167_method_12_code 1 = .ok (.instanceof 12, 3) := by decide +kernel
theorem d15_4 : decode prog_167_method_12_code 4 = .ok (.ifCond .eq 20, 3) := by decide +kernel
theorem d15_7 : decode prog_167_method_12_code 7 = .ok (.aload_n 1, 1) := by decide +kernel
theorem d15_8 : decode prog_167_method_12_code 8 = .ok (.checkcast 12, 3) := by decide +kernel
theorem d15_11 : decode prog_167_method_12_code 11 = .ok (.astore_n 2, 1) := by decide +kernel
theorem d15_12 : decode prog_167_method_12_code 12 = .ok (.aload_n 2, 1) := by decide +kernel
theorem d15_13 : decode prog_167_method_12_code 13 = .ok (.getfield 20, 3) := by decide +kernel
theorem d15_16 : decode prog_167_method_12_code 16 = .ok (.ifnull 8, 3) := by decide +kernel
theorem d15_19 : decode prog_167_method_12_code 19 = .ok (.aload_n 2, 1) := by decide +kernel
theorem d15_20 : decode prog_167_method_12_code 20 = .ok (.getfield 20, 3) := by decide +kernel
theorem d15_23 : decode prog_167_method_12_code 23 = .ok (.areturn, 1) := by decide +kernel
theorem d15_24 : decode prog_167_method_12_code 24 = .ok (.aload_n 1, 1) := by decide +kernel
theorem d15_25 : decode prog_167_method_12_code 25 = .ok (.astore_n 2, 1) := by decide +kernel
theorem d15_26 : decode prog_167_method_12_code 26 = .ok (.aload_n 2, 1) := by decide +kernel
theorem d15_27 : decode prog_167_method_12_code 27 = .ok (.getfield 23, 3) := by decide +kernel
theorem d15_30 : decode prog_167_method_12_code 30 = .ok (.ifnonnull 21, 3) := by decide +kernel
theorem d15_33 : decode prog_167_method_12_code 33 = .ok (.aload_n 2, 1) := by decide +kernel
theorem d15_34 : decode prog_167_method_12_code 34 = .ok (.getfield 7, 3) := by decide +kernel
theorem d15_37 : decode prog_167_method_12_code 37 = .ok (.aload_n 0, 1) := by decide +kernel
theorem d15_38 : decode prog_167_method_12_code 38 = .ok (.if_acmp .ne 5, 3) := by decide +kernel
theorem d15_41 : decode prog_167_method_12_code 41 = .ok (.aconst_null, 1) := by decide +kernel
theorem d15_42 : decode prog_167_method_12_code 42 = .ok (.areturn, 1) := by decide +kernel
theorem d15_43 : decode prog_167_method_12_code 43 = .ok (.aload_n 2, 1) := by decide +kernel
theorem d15_44 : decode prog_167_method_12_code 44 = .ok (.getfield 7, 3) := by decide +kernel
theorem d15_47 : decode prog_167_method_12_code 47 = .ok (.astore_n 2, 1) := by decide +kernel
theorem d15_48 : decode prog_167_method_12_code 48 = .ok (.goto (-22), 3) := by decide +kernel
theorem d15_51 : decode prog_167_method_12_code 51 = .ok (.aload_n 2, 1) := by decide +kernel
theorem d15_52 : decode prog_167_method_12_code 52 = .ok (.getfield 23, 3) := by decide +kernel
theorem d15_55 : decode prog_167_method_12_code 55 = .ok (.areturn, 1) := by decide +kernel
theorem pn_FO : plainFor (⟨"com/example/sundskrift/sundskrift/core/xml/ReadOnlyParent", "following", "(Lcom/example/sundskrift/sundskrift/core/xml/ReadOnlyNode;)Lcom/example/sundskrift/sundskrift/core/xml/ReadOnlyNode;"⟩ : MethodName) = true := plainFor_of_name (show plainName "com/example/sundskrift/sundskrift/core/xml/ReadOnlyParent" = true by first | (simp [plainName, overriddenIn]; done) | decide +kernel)
theorem pd_FO : parseMethodDescriptor "(Lcom/example/sundskrift/sundskrift/core/xml/ReadOnlyNode;)Lcom/example/sundskrift/sundskrift/core/xml/ReadOnlyNode;" = some ⟨[.object "com/example/sundskrift/sundskrift/core/xml/ReadOnlyNode"], some (.object "com/example/sundskrift/sundskrift/core/xml/ReadOnlyNode")⟩ := by decide +kernel
theorem ef_FO (m : MethodId) (x0 : Addr) (x1 : Addr) : entryFrame m #[(.ref x0), (.ref x1)] 3 = mkF m 0 #[.val (.ref x0), .val (.ref x1), .unset] [] := by first | (simp [entryFrame, mkF, argsToLocals, Value.category]; done) | rfl
set_option maxRecDepth 65536 in
set_option maxHeartbeats 40000000 in
theorem rmFO (l : Launch) (Z : State) (a0 : Array Value) (hw : ∀ d ∈ tables_1, d.before a0 Z = true) (na : Nat → Addr) (kd : Nat → Bool) (gs : Nat → String → Value) (P N F L : Nat → Option Nat) (r x : Nat) (res : Option Nat) (h0 : Heap) (n0 : Nat) (t : TS Z h0 na kd gs) (rr : RR na gs P N F L) (J : Inj5 na n0) (hr : r < 5) (hx5 : x < 5) (bP : Bd P) (hres : fol kd P N F r x = some res) :
    Ct l Z (⟨"com/example/sundskrift/sundskrift/core/xml/ReadOnlyParent", "following", "(Lcom/example/sundskrift/sundskrift/core/xml/ReadOnlyNode;)Lcom/example/sundskrift/sundskrift/core/xml/ReadOnlyNode;"⟩ : MethodName) prog_167_method_12_code 3 (some (.object "com/example/sundskrift/sundskrift/core/xml/ReadOnlyNode")) ({ frames := 0, cells := 0, slots := 0, locals := 0 } : Room) #[(.ref (na r)), (.ref (na x))] h0 (QU (ov na res) h0 n0) := by
  refine Ct.of pn_FO (fun m => ef_FO m (na r) (na x)) ?_
  intro p e s m below meth c T X0 hx hby hml hret hlk hZ hown hnm e0
  have loop : ∀ (k t0 : Nat) (T1 : State), t0 < 5 → upw P N r k t0 = some res → Stand p l e ({ frames := 0, cells := 0, slots := 0, locals := 0 } : Room) s m #[(.ref (na r)), (.ref (na x))] below meth c T1 [] 0 0 → T1.heap = h0 → Go p e below (Dn s below (QU (ov na res) h0 n0) 0 0) (T1.setTop (mkF m 26 #[.val (.ref (na r)), .val (.ref (na x)), .val (.ref (na t0))] [])) := by
    intro k
    induction k with
    | zero => intro t0 T1 ht hu; cases hu
    | succ k ih =>
      intro t0 T1 ht hu X1 e1
      refine g_aloadN X1 hx (hb hby d15_26) (pc' := 27) rfl rfl rfl ?_
      unfold upw at hu
      have hv2 : _ = (ov na (N t0)) := (rr t0 ht).2.1
      refine g_getF X1 hx hZ (host := "") (v := (ov na (N t0))) hown (Or.inl (hw _ (List.mem_of_getElem? (i := 102) rfl))) Via.refl e1 (hv2 ▸ (t t0 ht).2 ("com/example/sundskrift/sundskrift/core/xml/ReadOnlyNode", "next", "Lcom/example/sundskrift/sundskrift/core/xml/ReadOnlyNode;") (mem_next _)) (hb hby d15_27) (pc' := 30) rfl ?_
      intro T2 X2 e2
      rcases hN : N t0 with _ | j
      · try rw [hN] at hu
        show Go p e below _ (T2.setTop (mkF m 30 #[.val (.ref (na r)), .val (.ref (na x)), .val (.ref (na t0))] [.null]))
        refine g_ifnonnullN X2 hx (hb hby d15_30) (pc' := 33) rfl ?_
        refine g_aloadN X2 hx (hb hby d15_33) (pc' := 34) rfl rfl rfl ?_
        rcases hP : P t0 with _ | q
        · try rw [hP] at hu
          cases hu
        try rw [hP] at hu
        have hq : q < 5 := bP t0 q hP
        have hv3 : _ = (Value.ref (na q)) := ((rr t0 ht).1.trans (congrArg (ov na) hP))
        refine g_getF X2 hx hZ (host := "") (v := (.ref (na q))) hown (Or.inl (hw _ (List.mem_of_getElem? (i := 92) rfl))) Via.refl e2 (hv3 ▸ (t t0 ht).2 ("com/example/sundskrift/sundskrift/core/xml/ReadOnlyNode", "parent", "Lcom/example/sundskrift/sundskrift/core/xml/ReadOnlyParent;") (mem_parent _)) (hb hby d15_34) (pc' := 37) rfl ?_
        intro T3 X3 e3
        refine g_aloadN X3 hx (hb hby d15_37) (pc' := 38) rfl rfl rfl ?_
        refine g_acmp X3 hx (¬ (Value.ref (na q) = .ref (na r))) (hb hby d15_38) rfl rfl rfl (by decide) (pc' := 43) rfl (pcF := 41) rfl (fun hc => ?_) (fun hc => ?_)
        ·
          have hqr : ¬ q = r := fun z => hc (by rw [z])
          simp only [if_neg hqr] at hu
          refine g_aloadN X3 hx (hb hby d15_43) (pc' := 44) rfl rfl rfl ?_
          have hv4 : _ = (Value.ref (na q)) := ((rr t0 ht).1.trans (congrArg (ov na) hP))
          refine g_getF X3 hx hZ (host := "") (v := (.ref (na q))) hown (Or.inl (hw _ (List.mem_of_getElem? (i := 92) rfl))) Via.refl e3 (hv4 ▸ (t t0 ht).2 ("com/example/sundskrift/sundskrift/core/xml/ReadOnlyNode", "parent", "Lcom/example/sundskrift/sundskrift/core/xml/ReadOnlyParent;") (mem_parent _)) (hb hby d15_44) (pc' := 47) rfl ?_
          intro T4 X4 e4
          refine g_astoreN X4 hx (hb hby d15_47) (pc' := 48) rfl rfl (Ls' := #[.val (.ref (na r)), .val (.ref (na x)), .val (.ref (na q))]) rfl ?_
          refine g_goto X4 hx (hb hby d15_48) (by decide) (pc' := 26) rfl ?_
          exact ih q T4 hq hu X4 e4
        ·
          have hqr : q = r := J.1 q r hq hr (Value.ref.inj (Decidable.of_not_not hc))
          simp only [if_pos hqr] at hu
          cases hu
          refine g_aconstNull X3 hx (hb hby d15_41) (pc' := 42) rfl ?_
          exact g_retR X3 hx hret hlk rfl rfl (hb hby d15_42) (by decide) (by decide) ⟨Fr.nil _, e3, rfl⟩
      · try rw [hN] at hu
        cases hu
        show Go p e below _ (T2.setTop (mkF m 30 #[.val (.ref (na r)), .val (.ref (na x)), .val (.ref (na t0))] [(.ref (na j))]))
        refine g_ifnonnullY X2 hx (hb hby d15_30) (by decide) (pc' := 51) rfl ?_
        refine g_aloadN X2 hx (hb hby d15_51) (pc' := 52) rfl rfl rfl ?_
        have hv5 : _ = (Value.ref (na j)) := ((rr t0 ht).2.1.trans (congrArg (ov na) hN))
        refine g_getF X2 hx hZ (host := "") (v := (.ref (na j))) hown (Or.inl (hw _ (List.mem_of_getElem? (i := 102) rfl))) Via.refl e2 (hv5 ▸ (t t0 ht).2 ("com/example/sundskrift/sundskrift/core/xml/ReadOnlyNode", "next", "Lcom/example/sundskrift/sundskrift/core/xml/ReadOnlyNode;") (mem_next _)) (hb hby d15_52) (pc' := 55) rfl ?_
        intro T5 X5 e5
        exact g_retR X5 hx hret hlk rfl rfl (hb hby d15_55) (by decide) (by decide) ⟨Fr.nil _, e5, rfl⟩
  have from24 : ∀ (T1 : State) (s2 : Slot), (s2 = .unset ∨ ∃ z : Addr, s2 = .val (.ref z)) → upw P N r 5 x = some res → Stand p l e ({ frames := 0, cells := 0, slots := 0, locals := 0 } : Room) s m #[(.ref (na r)), (.ref (na x))] below meth c T1 [] 0 0 → T1.heap = h0 → Go p e below (Dn s below (QU (ov na res) h0 n0) 0 0) (T1.setTop (mkF m 24 #[.val (.ref (na r)), .val (.ref (na x)), s2] [])) := by
    intro T1 s2 hs2 hu X1 e1
    refine g_aloadN X1 hx (hb hby d15_24) (pc' := 25) rfl rfl rfl ?_
    refine g_astoreN X1 hx (hb hby d15_25) (pc' := 26) rfl rfl (Ls' := #[.val (.ref (na r)), .val (.ref (na x)), .val (.ref (na x))]) (by rcases hs2 with rfl | ⟨z, rfl⟩ <;> rfl) ?_
    exact loop 5 x T1 hx5 hu X1 e1
  refine g_aloadN X0 hx (hb hby d15_0) (pc' := 1) rfl rfl rfl ?_
  cases hk : kd x
  ·
    have hE : Exa Z h0 (na x) "com/example/sundskrift/sundskrift/core/xml/ReadOnlyElement" := by have := (t x hx5).1; rw [hk] at this; exact this
    have hIn := Ins.of_exa hE (hw _ (List.mem_of_getElem? (i := 119) rfl))
    have mfirst : ("com/example/sundskrift/sundskrift/core/xml/ReadOnlyParent", "first", "Lcom/example/sundskrift/sundskrift/core/xml/ReadOnlyNode;") ∈ fsN (kd x) := by rw [hk]; exact mem_first
    refine g_instY X0 hx hZ hown (hw _ (List.mem_of_getElem? (i := 118) rfl)) e0 hIn (hb hby d15_1) (pc' := 4) rfl ?_
    intro T1 X1 e1
    refine g_if_eq X1 hx (hb hby d15_4) (by decide) (pc' := 24) rfl (pcF := 7) rfl (fun hc => absurd hc (by decide)) (fun hc => ?_)
    refine g_aloadN X1 hx (hb hby d15_7) (pc' := 8) rfl rfl rfl ?_
    refine g_castY X1 hx hZ hown (hw _ (List.mem_of_getElem? (i := 118) rfl)) e1 hIn (hb hby d15_8) (pc' := 11) rfl ?_
    intro T2 X2 e2
    refine g_astoreN X2 hx (hb hby d15_11) (pc' := 12) rfl rfl (Ls' := #[.val (.ref (na r)), .val (.ref (na x)), .val (.ref (na x))]) rfl ?_
    refine g_aloadN X2 hx (hb hby d15_12) (pc' := 13) rfl rfl rfl ?_
    have hv3 : _ = (ov na (F x)) := (rr x hx5).2.2.1
    refine g_getF X2 hx hZ (host := "") (v := (ov na (F x))) hown (Or.inl (hw _ (List.mem_of_getElem? (i := 98) rfl))) Via.refl e2 (hv3 ▸ (t x hx5).2 ("com/example/sundskrift/sundskrift/core/xml/ReadOnlyParent", "first", "Lcom/example/sundskrift/sundskrift/core/xml/ReadOnlyNode;") mfirst) (hb hby d15_13) (pc' := 16) rfl ?_
    intro T3 X3 e3
    rcases hF : F x with _ | j
    ·
      show Go p e below _ (T3.setTop (mkF m 16 #[.val (.ref (na r)), .val (.ref (na x)), .val (.ref (na x))] [.null]))
      refine g_ifnullY X3 hx (hb hby d15_16) (by decide) (pc' := 24) rfl ?_
      exact from24 T3 _ (Or.inr ⟨_, rfl⟩) (by simpa [fol, hk, hF] using hres) X3 e3
    ·
      show Go p e below _ (T3.setTop (mkF m 16 #[.val (.ref (na r)), .val (.ref (na x)), .val (.ref (na x))] [(.ref (na j))]))
      have hj : res = some j := by have := hres; simp [fol, hk, hF] at this; exact this.symm
      refine g_ifnullN X3 hx (hb hby d15_16) (pc' := 19) rfl ?_
      refine g_aloadN X3 hx (hb hby d15_19) (pc' := 20) rfl rfl rfl ?_
      have hv4 : _ = (Value.ref (na j)) := ((rr x hx5).2.2.1.trans (congrArg (ov na) hF))
      refine g_getF X3 hx hZ (host := "") (v := (.ref (na j))) hown (Or.inl (hw _ (List.mem_of_getElem? (i := 98) rfl))) Via.refl e3 (hv4 ▸ (t x hx5).2 ("com/example/sundskrift/sundskrift/core/xml/ReadOnlyParent", "first", "Lcom/example/sundskrift/sundskrift/core/xml/ReadOnlyNode;") mfirst) (hb hby d15_20) (pc' := 23) rfl ?_
      intro T4 X4 e4
      exact g_retR X4 hx hret hlk rfl rfl (hb hby d15_23) (by decide) (by decide) ⟨Fr.nil _, e4, by rw [hj]; rfl⟩
  ·
    have hE : Exa Z h0 (na x) "com/example/sundskrift/sundskrift/core/xml/ReadOnlyText" := by have := (t x hx5).1; rw [hk] at this; exact this
    refine g_instNo X0 hx hZ hown (hw _ (List.mem_of_getElem? (i := 118) rfl)) e0 hE (own_noP hw) (hb hby d15_1) (pc' := 4) rfl ?_
    intro T1 X1 e1
    refine g_if_eq X1 hx (hb hby d15_4) (by decide) (pc' := 24) rfl (pcF := 7) rfl (fun hc => ?_) (fun hc => absurd rfl hc)
    exact from24 T1 _ (Or.inl rfl) (by simpa [fol, hk] using hres) X1 e1
theorem pn_0 : plainFor x = true := plainFor_of_name (show plainName "com/example/sundskrift/sundskrift/core/xml/ReadOnlyParentFollowingPinLaw" = true by first | (simp [plainName, overriddenIn]; done) | decide +kernel)
theorem ef_0 (m : MethodId) (x0 : Int32) (x1 : Int32) (x2 : Int32) (x3 : Int32) : entryFrame m #[(.int x0), (.int x1), (.int x2), (.int x3)] maxLocals = mkF m 0 #[.val (.int x0), .val (.int x1), .val (.int x2), .val (.int x3), .unset, .unset, .unset, .unset, .unset, .unset, .unset, .unset, .unset, .unset] [] := by first | (simp [entryFrame, mkF, argsToLocals, Value.category, maxLocals]; done) | rfl
def Q0 (n0 : Nat) (v : Option Value) (h : Heap) (L : List Loc) : Prop := v = some (.int 1) ∧ Fr n0 L
def na5 (b0 b1 b2 b3 b4 : Addr) : Nat → Addr
  | 0 => b0
  | 1 => b1
  | 2 => b2
  | 3 => b3
  | _ => b4
def gs5 (b0 b1 b2 b3 b4 : String → Value) : Nat → String → Value
  | 0 => b0
  | 1 => b1
  | 2 => b2
  | 3 => b3
  | _ => b4
theorem own_DD {d2 d3 d4 : Nat} (h2 : 1 ≤ d2 ∧ d2 ≤ 2) (h3 : 1 ≤ d3 ∧ d3 ≤ d2 + 1) (h4 : 1 ≤ d4 ∧ d4 ≤ d3 + 1) : ∀ j, DD d2 d3 d4 j < 5 := fun j => by
  unfold DD nup nZ
  split
  · omega
  · split
    · omega
    · split
      · omega
      · split <;> omega
theorem own_en (D : Nat → Nat) (r : Nat) (h : r < 5) : en D r ≤ 4 := stp_le _ _ _ (stp_le _ _ _ (stp_le _ _ _ (stp_le _ _ _ (by omega))))
theorem stp_ge (D : Nat → Nat) (r e : Nat) : e ≤ stp D r e := by unfold stp; split <;> omega
theorem own_ge (D : Nat → Nat) (r : Nat) : r ≤ en D r := Nat.le_trans (stp_ge _ _ _) (Nat.le_trans (stp_ge _ _ _) (Nat.le_trans (stp_ge _ _ _) (stp_ge _ _ _)))
theorem own_inj5 {b0 b1 b2 b3 b4 : Addr} {n0 : Nat} (h0 : n0 ≤ b0) (h1 : @LT.lt Nat instLTNat b0 b1) (h2 : @LT.lt Nat instLTNat b1 b2) (h3 : @LT.lt Nat instLTNat b2 b3) (h4 : @LT.lt Nat instLTNat b3 b4) : Inj5 (na5 b0 b1 b2 b3 b4) n0 := by
  constructor
  · intro i j hi hj h
    have i' : i = 0 ∨ i = 1 ∨ i = 2 ∨ i = 3 ∨ i = 4 := by omega
    have j' : j = 0 ∨ j = 1 ∨ j = 2 ∨ j = 3 ∨ j = 4 := by omega
    rcases i' with rfl | rfl | rfl | rfl | rfl <;> rcases j' with rfl | rfl | rfl | rfl | rfl <;> first | rfl | (simp only [na5] at h; exact absurd h (Nat.ne_of_lt (by omega))) | (simp only [na5] at h; exact absurd h (Nat.ne_of_gt (by omega)))
  · intro i hi
    have i' : i = 0 ∨ i = 1 ∨ i = 2 ∨ i = 3 ∨ i = 4 := by omega
    rcases i' with rfl | rfl | rfl | rfl | rfl <;> simp only [na5] <;> omega
theorem bool_mem (b : Bool) : b ∈ bools := by cases b <;> simp [bools]
theorem own_use (d2 d3 d4 : Nat) (k1 k2 k3 k4 : Bool) (h2 : 1 ≤ d2 ∧ d2 ≤ 2) (h3 : 1 ≤ d3 ∧ d3 ≤ d2 + 1) (h4 : 1 ≤ d4 ∧ d4 ≤ d3 + 1) (l1 : k1 = true → leaf (DD d2 d3 d4) 1 = true) (l2 : k2 = true → leaf (DD d2 d3 d4) 2 = true) (l3 : k3 = true → leaf (DD d2 d3 d4) 3 = true) :
    K5 k1 k2 k3 k4 (PP d2 d3 d4 1) = false ∧ K5 k1 k2 k3 k4 (PP d2 d3 d4 2) = false ∧ K5 k1 k2 k3 k4 (PP d2 d3 d4 3) = false ∧ K5 k1 k2 k3 k4 (PP d2 d3 d4 4) = false ∧ PP d2 d3 d4 1 < 5 ∧ PP d2 d3 d4 2 < 5 ∧ PP d2 d3 d4 3 < 5 ∧ PP d2 d3 d4 4 < 5 ∧ en (DD d2 d3 d4) 0 = 4 ∧
    ∀ r, r < 5 → K5 k1 k2 k3 k4 r = false → en (DD d2 d3 d4) r ≠ r → ∀ x, x < 5 → r < x → x ≤ en (DD d2 d3 d4) r → fol (K5 k1 k2 k3 k4) (tP (PP d2 d3 d4) 4) (tN (PP d2 d3 d4) 4) (tF (PP d2 d3 d4) 4) r x = some (if x < en (DD d2 d3 d4) r then some (x + 1) else none) := by
  have h := own_chk
  rw [List.all_eq_true] at h
  have h := h d2 (List.mem_range.mpr (by omega))
  rw [List.all_eq_true] at h
  have h := h d3 (List.mem_range.mpr (by omega))
  rw [List.all_eq_true] at h
  have h := h d4 (List.mem_range.mpr (by omega))
  have hb : (decide (1 ≤ d2) && decide (1 ≤ d3) && decide (1 ≤ d4) && decide (d3 ≤ d2 + 1) && decide (d4 ≤ d3 + 1)) = true := by
    simp only [Bool.and_eq_true, decide_eq_true_eq]; omega
  rw [hb, Bool.not_true, Bool.false_or, List.all_eq_true] at h
  have h := h k1 (bool_mem k1)
  rw [List.all_eq_true] at h
  have h := h k2 (bool_mem k2)
  rw [List.all_eq_true] at h
  have h := h k3 (bool_mem k3)
  rw [List.all_eq_true] at h
  have h := h k4 (bool_mem k4)
  unfold chk at h
  have lf : ((!k1 || leaf (DD d2 d3 d4) 1) && (!k2 || leaf (DD d2 d3 d4) 2) && (!k3 || leaf (DD d2 d3 d4) 3)) = true := by
    cases k1 <;> cases k2 <;> cases k3 <;> simp_all
  simp only [lf, Bool.not_true, Bool.false_or, Bool.and_eq_true, decide_eq_true_eq, Bool.not_eq_true', List.all_eq_true] at h
  obtain ⟨⟨⟨⟨⟨⟨⟨⟨⟨a1, a2⟩, a3⟩, a4⟩, a5⟩, a6⟩, a7⟩, a8⟩, a9⟩, a10⟩ := h
  refine ⟨a1, a2, a3, a4, a5, a6, a7, a8, a9, fun r hr hk hne x hx h1 h2 => ?_⟩
  have q := a10 r (List.mem_range.mpr hr)
  unfold chkR at q
  rw [hk, decide_eq_false hne, Bool.false_or, Bool.false_or, List.all_eq_true] at q
  have q := q x (List.mem_range.mpr hx)
  rw [decide_eq_true h1, decide_eq_true h2] at q
  simpa using q

set_option maxRecDepth 65536 in
set_option maxHeartbeats 40000000 in
theorem rm0 (l : Launch) (Z : State) (a0 : Array Value) (hw : ∀ d ∈ tables_1, d.before a0 Z = true) (p1 p2 p3 p4 : Int32) (h0 : Heap) (n0 : Nat) (Z0 : n0 ≤ h0.size) :
    CtW l Z x code maxLocals ret room_1 #[(.int p1), (.int p2), (.int p3), (.int p4)] h0 (Q0 n0) := by
  refine CtW.of pn_0 (fun m => ef_0 m p1 p2 p3 p4) ?_
  intro p e s m below meth c T vm0 X0 hx hby hml hret hlk hZ hown hnm e0 hS0
  have k7 : (7 : Int32).toInt = 7 := rfl
  refine g_iconst X0 hx (hb hby at_0) (pc' := 1) rfl (z := 5) (by decide) ?_
  refine g_newarr X0 hx hZ (hw _ (List.mem_of_getElem? (i := 0) rfl)) rfl e0 (hb hby at_1) (pc' := 3) rfl (by decide) (n := 5) (by decide) 5 (by decide) (by decide) (by decide) (by decide) ?_
  intro T1 h1 ad g1 X1 e1 E1 V1
  have ad0 : h0.size ≤ ad := Nat.le_of_eq g1.symm
  refine g_astore X1 hx (hb hby at_3) (pc' := 5) rfl rfl (Ls' := #[.val (.int p1), .val (.int p2), .val (.int p3), .val (.int p4), .val (.ref ad), .unset, .unset, .unset, .unset, .unset, .unset, .unset, .unset, .unset]) rfl ?_
  refine g_iconst X1 hx (hb hby at_5) (pc' := 6) rfl (z := 5) (by decide) ?_
  refine g_newarr X1 hx hZ (hw _ (List.mem_of_getElem? (i := 0) rfl)) rfl e1 (hb hby at_6) (pc' := 8) rfl (by decide) (n := 5) (by decide) 5 (by decide) (by decide) (by decide) (by decide) ?_
  intro T2 h2 ap g2 X2 e2 E2 V2
  have ap0 : h1.size ≤ ap := Nat.le_of_eq g2.symm
  refine g_astore X2 hx (hb hby at_8) (pc' := 10) rfl rfl (Ls' := #[.val (.int p1), .val (.int p2), .val (.int p3), .val (.int p4), .val (.ref ad), .val (.ref ap), .unset, .unset, .unset, .unset, .unset, .unset, .unset, .unset]) rfl ?_
  refine g_iconst X2 hx (hb hby at_10) (pc' := 11) rfl (z := 5) (by decide) ?_
  refine g_newarr X2 hx hZ (hw _ (List.mem_of_getElem? (i := 0) rfl)) rfl e2 (hb hby at_11) (pc' := 13) rfl (by decide) (n := 5) (by decide) 5 (by decide) (by decide) (by decide) (by decide) ?_
  intro T3 h3 aq g3 X3 e3 E3 V3
  have aq0 : h2.size ≤ aq := Nat.le_of_eq g3.symm
  have V1z : IA Z h1 ad nZ := V1
  have V2z : IA Z h2 ap nZ := V2
  have V3z : IA Z h3 aq nZ := V3
  have lad := ltN V1.lt; have lap := ltN V2.lt; have laq := ltN V3.lt
  have s12 := E2.1; have s23 := E3.1; have s01 := E1.1
  have n12 : ad ≠ ap := Nat.ne_of_lt (by omega)
  have n13 : ad ≠ aq := Nat.ne_of_lt (by omega)
  have n23 : ap ≠ aq := Nat.ne_of_lt (by omega)
  have gad : n0 ≤ ad := by omega
  have gap : n0 ≤ ap := by omega
  have gaq : n0 ≤ aq := by omega
  have A0 := (V1z.ext E2).ext E3
  have B0 := V2z.ext E3
  have C0 := V3z
  obtain ⟨c2, gc2⟩ : ∃ z : Int32, p1 &&& 7 = z := ⟨_, rfl⟩
  have rc2 := own_and p1 7 (by decide); rw [gc2] at rc2
  obtain ⟨m2, hm2⟩ : ∃ n : Nat, c2.toInt = n := ⟨c2.toInt.toNat, by omega⟩
  obtain ⟨c3, gc3⟩ : ∃ z : Int32, XT.ushr p1 3 &&& 7 = z := ⟨_, rfl⟩
  have rc3 := own_and (XT.ushr p1 3) 7 (by decide); rw [gc3] at rc3
  obtain ⟨m3, hm3⟩ : ∃ n : Nat, c3.toInt = n := ⟨c3.toInt.toNat, by omega⟩
  obtain ⟨c4, gc4⟩ : ∃ z : Int32, XT.ushr p1 6 &&& 7 = z := ⟨_, rfl⟩
  have rc4 := own_and (XT.ushr p1 6) 7 (by decide); rw [gc4] at rc4
  obtain ⟨m4, hm4⟩ : ∃ n : Nat, c4.toInt = n := ⟨c4.toInt.toNat, by omega⟩
  obtain ⟨d2, hd2⟩ : ∃ n : Nat, n = 1 + m2 % (1 + 1) := ⟨_, rfl⟩
  obtain ⟨d3, hd3⟩ : ∃ n : Nat, n = 1 + m3 % (d2 + 1) := ⟨_, rfl⟩
  obtain ⟨d4, hd4⟩ : ∃ n : Nat, n = 1 + m4 % (d3 + 1) := ⟨_, rfl⟩
  have bd2 : 1 ≤ d2 ∧ d2 ≤ 2 := by omega
  have bd3 : 1 ≤ d3 ∧ d3 ≤ d2 + 1 := by have := Nat.mod_lt m3 (show 0 < d2 + 1 by omega); omega
  have bd4 : 1 ≤ d4 ∧ d4 ≤ d3 + 1 := by have := Nat.mod_lt m4 (show 0 < d3 + 1 by omega); omega
  refine g_astore X3 hx (hb hby at_13) (pc' := 15) rfl rfl (Ls' := #[.val (.int p1), .val (.int p2), .val (.int p3), .val (.int p4), .val (.ref ad), .val (.ref ap), .val (.ref aq), .unset, .unset, .unset, .unset, .unset, .unset, .unset]) rfl ?_
  refine g_aload X3 hx (hb hby at_15) (pc' := 17) rfl rfl rfl ?_
  refine g_aload X3 hx (hb hby at_17) (pc' := 19) rfl rfl rfl ?_
  refine g_aload X3 hx (hb hby at_19) (pc' := 21) rfl rfl rfl ?_
  refine g_iconst X3 hx (hb hby at_21) (pc' := 22) rfl (z := 1) (by decide) ?_
  refine g_iconst X3 hx (hb hby at_22) (pc' := 23) rfl (z := 0) (by decide) ?_
  refine g_callS X3 hx hZ 0 hown (hw _ (List.mem_of_getElem? (i := 1) rfl)) (hw _ (List.mem_of_getElem? (i := 2) rfl)) (hw _ (List.mem_of_getElem? (i := 3) rfl)) (hw _ (List.mem_of_getElem? (i := 4) rfl)) (by decide) e3 (rmPL l Z a0 hw ad ap aq nZ nZ nZ (1 : Int32) (0 : Int32) 1 0 0 1 _ n0 A0 B0 C0 n12 n13 n23 gad gap gaq rfl rfl (by decide) (by decide) rfl (by decide) rfl) (by decide) (by decide) (by rw [hml]; rfl) (argsL := [(.ref ad), (.ref ap), (.ref aq), (.int (1 : Int32)), (.int (0 : Int32))]) (rest := []) (lenOf pd_PL rfl) rfl (Nat.le_of_eq rfl) (hb hby at_23) (pc' := 26) rfl (by decide) (by decide) rfl ?_
  rintro T11 _ L11 X11 ⟨rfl, N11, A1, B1, C1, s11⟩
  show Go p e below _ (T11.setTop (mkF m 26 #[.val (.int p1), .val (.int p2), .val (.int p3), .val (.int p4), .val (.ref ad), .val (.ref ap), .val (.ref aq), .unset, .unset, .unset, .unset, .unset, .unset, .unset] []))
  refine g_aload X11 hx (hb hby at_26) (pc' := 28) rfl rfl rfl ?_
  refine g_aload X11 hx (hb hby at_28) (pc' := 30) rfl rfl rfl ?_
  refine g_aload X11 hx (hb hby at_30) (pc' := 32) rfl rfl rfl ?_
  refine g_iconst X11 hx (hb hby at_32) (pc' := 33) rfl (z := 2) (by decide) ?_
  refine g_iloadN X11 hx (hb hby at_33) (pc' := 34) rfl rfl ?_
  refine g_bipush X11 hx (hb hby at_34) (pc' := 36) rfl (z := 7) (by decide) ?_
  refine g_iand X11 hx (hb hby at_36) (pc' := 37) rfl (z := c2) gc2 ?_
  refine g_callS X11 hx hZ 0 hown (hw _ (List.mem_of_getElem? (i := 1) rfl)) (hw _ (List.mem_of_getElem? (i := 2) rfl)) (hw _ (List.mem_of_getElem? (i := 3) rfl)) (hw _ (List.mem_of_getElem? (i := 4) rfl)) (by decide) rfl (rmPL l Z a0 hw ad ap aq (nup nZ 1 1) (nup nZ 1 (nZ 0)) Qa (2 : Int32) c2 2 1 m2 d2 _ n0 A1 B1 C1 n12 n13 n23 gad gap gaq rfl rfl (by decide) (by decide) hm2 (by show 1 < 4; decide) hd2) (by decide) (by decide) (by rw [hml]; rfl) (argsL := [(.ref ad), (.ref ap), (.ref aq), (.int (2 : Int32)), (.int c2)]) (rest := []) (lenOf pd_PL rfl) rfl (Nat.le_of_eq rfl) (hb hby at_37) (pc' := 40) rfl (by decide) (by decide) rfl ?_
  rintro T12 _ L12 X12 ⟨rfl, N12, A2, B2, C2, s12⟩
  show Go p e below _ (T12.setTop (mkF m 40 #[.val (.int p1), .val (.int p2), .val (.int p3), .val (.int p4), .val (.ref ad), .val (.ref ap), .val (.ref aq), .unset, .unset, .unset, .unset, .unset, .unset, .unset] []))
  refine g_aload X12 hx (hb hby at_40) (pc' := 42) rfl rfl rfl ?_
  refine g_aload X12 hx (hb hby at_42) (pc' := 44) rfl rfl rfl ?_
  refine g_aload X12 hx (hb hby at_44) (pc' := 46) rfl rfl rfl ?_
  refine g_iconst X12 hx (hb hby at_46) (pc' := 47) rfl (z := 3) (by decide) ?_
  refine g_iloadN X12 hx (hb hby at_47) (pc' := 48) rfl rfl ?_
  refine g_iconst X12 hx (hb hby at_48) (pc' := 49) rfl (z := 3) (by decide) ?_
  refine g_iushr X12 hx (hb hby at_49) (pc' := 50) rfl rfl ?_
  refine g_bipush X12 hx (hb hby at_50) (pc' := 52) rfl (z := 7) (by decide) ?_
  refine g_iand X12 hx (hb hby at_52) (pc' := 53) rfl (z := c3) gc3 ?_
  refine g_callS X12 hx hZ 0 hown (hw _ (List.mem_of_getElem? (i := 1) rfl)) (hw _ (List.mem_of_getElem? (i := 2) rfl)) (hw _ (List.mem_of_getElem? (i := 3) rfl)) (hw _ (List.mem_of_getElem? (i := 4) rfl)) (by decide) rfl (rmPL l Z a0 hw ad ap aq (nup (nup nZ 1 1) 2 d2) (nup (nup nZ 1 (nZ 0)) 2 (Qa (d2 - 1))) (Qb d2) (3 : Int32) c3 3 2 m3 d3 _ n0 A2 B2 C2 n12 n13 n23 gad gap gaq rfl rfl (by decide) (by decide) hm3 (by show d2 < 4; omega) hd3) (by decide) (by decide) (by rw [hml]; rfl) (argsL := [(.ref ad), (.ref ap), (.ref aq), (.int (3 : Int32)), (.int c3)]) (rest := []) (lenOf pd_PL rfl) rfl (Nat.le_of_eq rfl) (hb hby at_53) (pc' := 56) rfl (by decide) (by decide) rfl ?_
  rintro T13 _ L13 X13 ⟨rfl, N13, A3, B3, C3, s13⟩
  show Go p e below _ (T13.setTop (mkF m 56 #[.val (.int p1), .val (.int p2), .val (.int p3), .val (.int p4), .val (.ref ad), .val (.ref ap), .val (.ref aq), .unset, .unset, .unset, .unset, .unset, .unset, .unset] []))
  refine g_aload X13 hx (hb hby at_56) (pc' := 58) rfl rfl rfl ?_
  refine g_aload X13 hx (hb hby at_58) (pc' := 60) rfl rfl rfl ?_
  refine g_aload X13 hx (hb hby at_60) (pc' := 62) rfl rfl rfl ?_
  refine g_iconst X13 hx (hb hby at_62) (pc' := 63) rfl (z := 4) (by decide) ?_
  refine g_iloadN X13 hx (hb hby at_63) (pc' := 64) rfl rfl ?_
  refine g_bipush X13 hx (hb hby at_64) (pc' := 66) rfl (z := 6) (by decide) ?_
  refine g_iushr X13 hx (hb hby at_66) (pc' := 67) rfl rfl ?_
  refine g_bipush X13 hx (hb hby at_67) (pc' := 69) rfl (z := 7) (by decide) ?_
  refine g_iand X13 hx (hb hby at_69) (pc' := 70) rfl (z := c4) gc4 ?_
  refine g_callS X13 hx hZ 0 hown (hw _ (List.mem_of_getElem? (i := 1) rfl)) (hw _ (List.mem_of_getElem? (i := 2) rfl)) (hw _ (List.mem_of_getElem? (i := 3) rfl)) (hw _ (List.mem_of_getElem? (i := 4) rfl)) (by decide) rfl (rmPL l Z a0 hw ad ap aq (nup (nup (nup nZ 1 1) 2 d2) 3 d3) (nup (nup (nup nZ 1 (nZ 0)) 2 (Qa (d2 - 1))) 3 (Qb d2 (d3 - 1))) (Qc d2 d3) (4 : Int32) c4 4 3 m4 d4 _ n0 A3 B3 C3 n12 n13 n23 gad gap gaq rfl rfl (by decide) (by decide) hm4 (by show d3 < 4; omega) hd4) (by decide) (by decide) (by rw [hml]; rfl) (argsL := [(.ref ad), (.ref ap), (.ref aq), (.int (4 : Int32)), (.int c4)]) (rest := []) (lenOf pd_PL rfl) rfl (Nat.le_of_eq rfl) (hb hby at_70) (pc' := 73) rfl (by decide) (by decide) rfl ?_
  rintro T14 _ L14 X14 ⟨rfl, N14, A4, B4, C4, s14⟩
  show Go p e below _ (T14.setTop (mkF m 73 #[.val (.int p1), .val (.int p2), .val (.int p3), .val (.int p4), .val (.ref ad), .val (.ref ap), .val (.ref aq), .unset, .unset, .unset, .unset, .unset, .unset, .unset] []))
  have VD : IA Z T14.heap ad (DD d2 d3 d4) := A4
  have VP : IA Z T14.heap ap (PP d2 d3 d4) := B4
  have hD5 : ∀ j, DD d2 d3 d4 j < 5 := own_DD bd2 bd3 bd4
  refine g_iconst X14 hx (hb hby at_73) (pc' := 74) rfl (z := 5) (by decide) ?_
  refine g_newarrR X14 hx hZ hown (hw _ (List.mem_of_getElem? (i := 5) rfl)) (hw _ (List.mem_of_getElem? (i := 6) rfl)) rfl (hb hby at_74) (pc' := 77) rfl (by decide) (n := 5) (by decide) 5 (by decide) (by decide) (by decide) (by decide) ?_
  intro T20 h20 ae c20 g20 X20 e20 E20 V20 O20' Q20
  have O20 : OvA Z h20 ae "com/example/sundskrift/sundskrift/core/xml/ReadOnlyElement" := by obtain ⟨q, q1, q2⟩ := Q20; exact ⟨q, q1, q2 ▸ O20'⟩
  refine g_astore X20 hx (hb hby at_77) (pc' := 79) rfl rfl (Ls' := #[.val (.int p1), .val (.int p2), .val (.int p3), .val (.int p4), .val (.ref ad), .val (.ref ap), .val (.ref aq), .val (.ref ae), .unset, .unset, .unset, .unset, .unset, .unset]) rfl ?_
  refine g_iconst X20 hx (hb hby at_79) (pc' := 80) rfl (z := 5) (by decide) ?_
  refine g_newarrR X20 hx hZ hown (hw _ (List.mem_of_getElem? (i := 7) rfl)) (hw _ (List.mem_of_getElem? (i := 8) rfl)) e20 (hb hby at_80) (pc' := 83) rfl (by decide) (n := 5) (by decide) 5 (by decide) (by decide) (by decide) (by decide) ?_
  intro T21 h21 ax c21 g21 X21 e21 E21 V21 O21' Q21
  have O21 : OvA Z h21 ax "com/example/sundskrift/sundskrift/core/xml/ReadOnlyText" := by obtain ⟨q, q1, q2⟩ := Q21; exact ⟨q, q1, q2 ▸ O21'⟩
  have gae0 : T14.heap.size ≤ ae := Nat.le_of_eq g20.symm; have gax0 : h20.size ≤ ax := Nat.le_of_eq g21.symm
  have s20 := E20.1; have s21 := E21.1; have lae := ltN V20.lt; have lax := ltN V21.lt; have lap' := ltN VP.lt; have lad' := ltN VD.lt
  have nex : ae ≠ ax := Nat.ne_of_lt (by omega)
  have gae : n0 ≤ ae := by omega
  have gax : n0 ≤ ax := by omega
  have npe : ap ≠ ae := Nat.ne_of_lt (by omega)
  have npx : ap ≠ ax := Nat.ne_of_lt (by omega)
  have nde : ad ≠ ae := Nat.ne_of_lt (by omega)
  have ndx : ad ≠ ax := Nat.ne_of_lt (by omega)
  have VE0 : EA Z h21 ae (fun _ => .null) := V20.ext E21
  have VX0 : XA Z h21 ax (fun _ => .null) := V21
  have OE0 := O20.ext E21
  have OX0 := O21
  have VDa := (VD.ext E20).ext E21
  have VPa := (VP.ext E20).ext E21
  have Za : n0 ≤ h21.size := by omega
  refine g_astore X21 hx (hb hby at_83) (pc' := 85) rfl rfl (Ls' := #[.val (.int p1), .val (.int p2), .val (.int p3), .val (.int p4), .val (.ref ad), .val (.ref ap), .val (.ref aq), .val (.ref ae), .val (.ref ax), .unset, .unset, .unset, .unset, .unset]) rfl ?_
  refine g_aload X21 hx (hb hby at_85) (pc' := 87) rfl rfl rfl ?_
  refine g_aload X21 hx (hb hby at_87) (pc' := 89) rfl rfl rfl ?_
  refine g_iconst X21 hx (hb hby at_89) (pc' := 90) rfl (z := 0) (by decide) ?_
  refine g_iconst X21 hx (hb hby at_90) (pc' := 91) rfl (z := 0) (by decide) ?_
  refine g_callSW X21 hx hS0 hZ 0 hown (hw _ (List.mem_of_getElem? (i := 9) rfl)) (hw _ (List.mem_of_getElem? (i := 10) rfl)) (hw _ (List.mem_of_getElem? (i := 3) rfl)) (hw _ (List.mem_of_getElem? (i := 11) rfl)) (by decide) e21 (by omega) (rmMK l Z a0 hw ae ax (fun _ => .null) (fun _ => .null) false (0 : Int32) 0 _ n0 Za VE0 VX0 OE0 OX0 nex gae gax rfl (by decide)) (by decide) (by decide) (by rw [hml]; rfl) (argsL := [(.ref ae), (.ref ax), (.int (0 : Int32)), (.int (0 : Int32))]) (rest := []) (lenOf pd_MK rfl) rfl (Nat.le_of_eq rfl) (hb hby at_91) (pc' := 94) rfl (by decide) (by decide) rfl ?_
  clear hZ hown
  rintro T30 _ L30 vm30 X30 ⟨nb0, rfl, N30, gn0, K30, ⟨q0, P0, n40⟩, VE1, VX1⟩ hS30 hZ hown
  show Go p e below _ (T30.setTop (mkF m 94 #[.val (.int p1), .val (.int p2), .val (.int p3), .val (.int p4), .val (.ref ad), .val (.ref ap), .val (.ref aq), .val (.ref ae), .val (.ref ax), .unset, .unset, .unset, .unset, .unset] []))
  have lb0 := ltN P0.lt; have sz0 := K30.1
  have OE1 := OE0.keep K30; have OX1 := OX0.keep K30
  have VD1 := VDa.keep K30 (ninS nde (ninS ndx nin0)); have VP1 := VPa.keep K30 (ninS npe (ninS npx nin0))
  have Zm0 : n0 ≤ T30.heap.size := by omega
  refine g_aload X30 hx (hb hby at_94) (pc' := 96) rfl rfl rfl ?_
  refine g_aload X30 hx (hb hby at_96) (pc' := 98) rfl rfl rfl ?_
  refine g_iconst X30 hx (hb hby at_98) (pc' := 99) rfl (z := 1) (by decide) ?_
  refine g_aload X30 hx (hb hby at_99) (pc' := 101) rfl rfl rfl ?_
  refine g_iloadN X30 hx (hb hby at_101) (pc' := 102) rfl rfl ?_
  refine g_iconst X30 hx (hb hby at_102) (pc' := 103) rfl (z := 1) (by decide) ?_
  refine g_callS X30 hx hZ 3 hown (hw _ (List.mem_of_getElem? (i := 62) rfl)) (hw _ (List.mem_of_getElem? (i := 63) rfl)) (hw _ (List.mem_of_getElem? (i := 3) rfl)) (hw _ (List.mem_of_getElem? (i := 64) rfl)) (by decide) rfl (rmIT l Z a0 hw ad (DD d2 d3 d4) p2 (1 : Int32) 1 _ n0 VD1 rfl rfl (by decide) hD5) (by decide) (by decide) (by rw [hml]; rfl) (argsL := [(.ref ad), (.int p2), (.int (1 : Int32))]) (rest := [(.int (1 : Int32)), (.ref ax), (.ref ae)]) (lenOf pd_IT rfl) rfl (Nat.le_of_eq rfl) (hb hby at_103) (pc' := 106) rfl (by decide) (by decide) rfl ?_
  rintro T41 _ L41 X41 ⟨N41, e41, b1, rfl, l1⟩
  show Go p e below _ (T41.setTop (mkF m 106 #[.val (.int p1), .val (.int p2), .val (.int p3), .val (.int p4), .val (.ref ad), .val (.ref ap), .val (.ref aq), .val (.ref ae), .val (.ref ax), .unset, .unset, .unset, .unset, .unset] [(.int (bi b1)), (.int (1 : Int32)), (.ref ax), (.ref ae)]))
  refine g_callSW X41 hx hS30 hZ 0 hown (hw _ (List.mem_of_getElem? (i := 9) rfl)) (hw _ (List.mem_of_getElem? (i := 10) rfl)) (hw _ (List.mem_of_getElem? (i := 3) rfl)) (hw _ (List.mem_of_getElem? (i := 11) rfl)) (by decide) e41 (Nat.le_refl _) (rmMK l Z a0 hw ae ax (fE false (fun _ => .null) 0 (.ref nb0)) (fX false (fun _ => .null) 0 (.ref nb0)) b1 (1 : Int32) 1 _ n0 Zm0 VE1 VX1 OE1 OX1 nex gae gax rfl (by decide)) (by decide) (by decide) (by rw [hml]; rfl) (argsL := [(.ref ae), (.ref ax), (.int (1 : Int32)), (.int (bi b1))]) (rest := []) (lenOf pd_MK rfl) rfl (Nat.le_of_eq rfl) (hb hby at_106) (pc' := 109) rfl (by decide) (by decide) rfl ?_
  clear hZ hown
  rintro T31 _ L31 vm31 X31 ⟨nb1, rfl, N31, gn1, K31, ⟨q1, P1, n41⟩, VE2, VX2⟩ hS31 hZ hown
  show Go p e below _ (T31.setTop (mkF m 109 #[.val (.int p1), .val (.int p2), .val (.int p3), .val (.int p4), .val (.ref ad), .val (.ref ap), .val (.ref aq), .val (.ref ae), .val (.ref ax), .unset, .unset, .unset, .unset, .unset] []))
  have lb1 := ltN P1.lt; have sz1 := K31.1
  have OE2 := OE1.keep K31; have OX2 := OX1.keep K31
  have VD2 := VD1.keep K31 (ninS nde (ninS ndx nin0)); have VP2 := VP1.keep K31 (ninS npe (ninS npx nin0))
  have P0_1 := P0.keep K31 (ninS (Nat.ne_of_gt (by omega)) (ninS (Nat.ne_of_gt (by omega)) nin0))
  have Zm1 : n0 ≤ T31.heap.size := by omega
  refine g_aload X31 hx (hb hby at_109) (pc' := 111) rfl rfl rfl ?_
  refine g_aload X31 hx (hb hby at_111) (pc' := 113) rfl rfl rfl ?_
  refine g_iconst X31 hx (hb hby at_113) (pc' := 114) rfl (z := 2) (by decide) ?_
  refine g_aload X31 hx (hb hby at_114) (pc' := 116) rfl rfl rfl ?_
  refine g_iloadN X31 hx (hb hby at_116) (pc' := 117) rfl rfl ?_
  refine g_iconst X31 hx (hb hby at_117) (pc' := 118) rfl (z := 2) (by decide) ?_
  refine g_callS X31 hx hZ 3 hown (hw _ (List.mem_of_getElem? (i := 62) rfl)) (hw _ (List.mem_of_getElem? (i := 63) rfl)) (hw _ (List.mem_of_getElem? (i := 3) rfl)) (hw _ (List.mem_of_getElem? (i := 64) rfl)) (by decide) rfl (rmIT l Z a0 hw ad (DD d2 d3 d4) p2 (2 : Int32) 2 _ n0 VD2 rfl rfl (by decide) hD5) (by decide) (by decide) (by rw [hml]; rfl) (argsL := [(.ref ad), (.int p2), (.int (2 : Int32))]) (rest := [(.int (2 : Int32)), (.ref ax), (.ref ae)]) (lenOf pd_IT rfl) rfl (Nat.le_of_eq rfl) (hb hby at_118) (pc' := 121) rfl (by decide) (by decide) rfl ?_
  rintro T42 _ L42 X42 ⟨N42, e42, b2, rfl, l2⟩
  show Go p e below _ (T42.setTop (mkF m 121 #[.val (.int p1), .val (.int p2), .val (.int p3), .val (.int p4), .val (.ref ad), .val (.ref ap), .val (.ref aq), .val (.ref ae), .val (.ref ax), .unset, .unset, .unset, .unset, .unset] [(.int (bi b2)), (.int (2 : Int32)), (.ref ax), (.ref ae)]))
  refine g_callSW X42 hx hS31 hZ 0 hown (hw _ (List.mem_of_getElem? (i := 9) rfl)) (hw _ (List.mem_of_getElem? (i := 10) rfl)) (hw _ (List.mem_of_getElem? (i := 3) rfl)) (hw _ (List.mem_of_getElem? (i := 11) rfl)) (by decide) e42 (Nat.le_refl _) (rmMK l Z a0 hw ae ax (fE b1 (fE false (fun _ => .null) 0 (.ref nb0)) 1 (.ref nb1)) (fX b1 (fX false (fun _ => .null) 0 (.ref nb0)) 1 (.ref nb1)) b2 (2 : Int32) 2 _ n0 Zm1 VE2 VX2 OE2 OX2 nex gae gax rfl (by decide)) (by decide) (by decide) (by rw [hml]; rfl) (argsL := [(.ref ae), (.ref ax), (.int (2 : Int32)), (.int (bi b2))]) (rest := []) (lenOf pd_MK rfl) rfl (Nat.le_of_eq rfl) (hb hby at_121) (pc' := 124) rfl (by decide) (by decide) rfl ?_
  clear hZ hown
  rintro T32 _ L32 vm32 X32 ⟨nb2, rfl, N32, gn2, K32, ⟨q2, P2, n42⟩, VE3, VX3⟩ hS32 hZ hown
  show Go p e below _ (T32.setTop (mkF m 124 #[.val (.int p1), .val (.int p2), .val (.int p3), .val (.int p4), .val (.ref ad), .val (.ref ap), .val (.ref aq), .val (.ref ae), .val (.ref ax), .unset, .unset, .unset, .unset, .unset] []))
  have lb2 := ltN P2.lt; have sz2 := K32.1
  have OE3 := OE2.keep K32; have OX3 := OX2.keep K32
  have VD3 := VD2.keep K32 (ninS nde (ninS ndx nin0)); have VP3 := VP2.keep K32 (ninS npe (ninS npx nin0))
  have P0_2 := P0_1.keep K32 (ninS (Nat.ne_of_gt (by omega)) (ninS (Nat.ne_of_gt (by omega)) nin0))
  have P1_2 := P1.keep K32 (ninS (Nat.ne_of_gt (by omega)) (ninS (Nat.ne_of_gt (by omega)) nin0))
  have Zm2 : n0 ≤ T32.heap.size := by omega
  refine g_aload X32 hx (hb hby at_124) (pc' := 126) rfl rfl rfl ?_
  refine g_aload X32 hx (hb hby at_126) (pc' := 128) rfl rfl rfl ?_
  refine g_iconst X32 hx (hb hby at_128) (pc' := 129) rfl (z := 3) (by decide) ?_
  refine g_aload X32 hx (hb hby at_129) (pc' := 131) rfl rfl rfl ?_
  refine g_iloadN X32 hx (hb hby at_131) (pc' := 132) rfl rfl ?_
  refine g_iconst X32 hx (hb hby at_132) (pc' := 133) rfl (z := 3) (by decide) ?_
  refine g_callS X32 hx hZ 3 hown (hw _ (List.mem_of_getElem? (i := 62) rfl)) (hw _ (List.mem_of_getElem? (i := 63) rfl)) (hw _ (List.mem_of_getElem? (i := 3) rfl)) (hw _ (List.mem_of_getElem? (i := 64) rfl)) (by decide) rfl (rmIT l Z a0 hw ad (DD d2 d3 d4) p2 (3 : Int32) 3 _ n0 VD3 rfl rfl (by decide) hD5) (by decide) (by decide) (by rw [hml]; rfl) (argsL := [(.ref ad), (.int p2), (.int (3 : Int32))]) (rest := [(.int (3 : Int32)), (.ref ax), (.ref ae)]) (lenOf pd_IT rfl) rfl (Nat.le_of_eq rfl) (hb hby at_133) (pc' := 136) rfl (by decide) (by decide) rfl ?_
  rintro T43 _ L43 X43 ⟨N43, e43, b3, rfl, l3⟩
  show Go p e below _ (T43.setTop (mkF m 136 #[.val (.int p1), .val (.int p2), .val (.int p3), .val (.int p4), .val (.ref ad), .val (.ref ap), .val (.ref aq), .val (.ref ae), .val (.ref ax), .unset, .unset, .unset, .unset, .unset] [(.int (bi b3)), (.int (3 : Int32)), (.ref ax), (.ref ae)]))
  refine g_callSW X43 hx hS32 hZ 0 hown (hw _ (List.mem_of_getElem? (i := 9) rfl)) (hw _ (List.mem_of_getElem? (i := 10) rfl)) (hw _ (List.mem_of_getElem? (i := 3) rfl)) (hw _ (List.mem_of_getElem? (i := 11) rfl)) (by decide) e43 (Nat.le_refl _) (rmMK l Z a0 hw ae ax (fE b2 (fE b1 (fE false (fun _ => .null) 0 (.ref nb0)) 1 (.ref nb1)) 2 (.ref nb2)) (fX b2 (fX b1 (fX false (fun _ => .null) 0 (.ref nb0)) 1 (.ref nb1)) 2 (.ref nb2)) b3 (3 : Int32) 3 _ n0 Zm2 VE3 VX3 OE3 OX3 nex gae gax rfl (by decide)) (by decide) (by decide) (by rw [hml]; rfl) (argsL := [(.ref ae), (.ref ax), (.int (3 : Int32)), (.int (bi b3))]) (rest := []) (lenOf pd_MK rfl) rfl (Nat.le_of_eq rfl) (hb hby at_136) (pc' := 139) rfl (by decide) (by decide) rfl ?_
  clear hZ hown
  rintro T33 _ L33 vm33 X33 ⟨nb3, rfl, N33, gn3, K33, ⟨q3, P3, n43⟩, VE4, VX4⟩ hS33 hZ hown
  show Go p e below _ (T33.setTop (mkF m 139 #[.val (.int p1), .val (.int p2), .val (.int p3), .val (.int p4), .val (.ref ad), .val (.ref ap), .val (.ref aq), .val (.ref ae), .val (.ref ax), .unset, .unset, .unset, .unset, .unset] []))
  have lb3 := ltN P3.lt; have sz3 := K33.1
  have OE4 := OE3.keep K33; have OX4 := OX3.keep K33
  have VD4 := VD3.keep K33 (ninS nde (ninS ndx nin0)); have VP4 := VP3.keep K33 (ninS npe (ninS npx nin0))
  have P0_3 := P0_2.keep K33 (ninS (Nat.ne_of_gt (by omega)) (ninS (Nat.ne_of_gt (by omega)) nin0))
  have P1_3 := P1_2.keep K33 (ninS (Nat.ne_of_gt (by omega)) (ninS (Nat.ne_of_gt (by omega)) nin0))
  have P2_3 := P2.keep K33 (ninS (Nat.ne_of_gt (by omega)) (ninS (Nat.ne_of_gt (by omega)) nin0))
  have Zm3 : n0 ≤ T33.heap.size := by omega
  refine g_aload X33 hx (hb hby at_139) (pc' := 141) rfl rfl rfl ?_
  refine g_aload X33 hx (hb hby at_141) (pc' := 143) rfl rfl rfl ?_
  refine g_iconst X33 hx (hb hby at_143) (pc' := 144) rfl (z := 4) (by decide) ?_
  refine g_aload X33 hx (hb hby at_144) (pc' := 146) rfl rfl rfl ?_
  refine g_iloadN X33 hx (hb hby at_146) (pc' := 147) rfl rfl ?_
  refine g_iconst X33 hx (hb hby at_147) (pc' := 148) rfl (z := 4) (by decide) ?_
  refine g_callS X33 hx hZ 3 hown (hw _ (List.mem_of_getElem? (i := 62) rfl)) (hw _ (List.mem_of_getElem? (i := 63) rfl)) (hw _ (List.mem_of_getElem? (i := 3) rfl)) (hw _ (List.mem_of_getElem? (i := 64) rfl)) (by decide) rfl (rmIT l Z a0 hw ad (DD d2 d3 d4) p2 (4 : Int32) 4 _ n0 VD4 rfl rfl (by decide) hD5) (by decide) (by decide) (by rw [hml]; rfl) (argsL := [(.ref ad), (.int p2), (.int (4 : Int32))]) (rest := [(.int (4 : Int32)), (.ref ax), (.ref ae)]) (lenOf pd_IT rfl) rfl (Nat.le_of_eq rfl) (hb hby at_148) (pc' := 151) rfl (by decide) (by decide) rfl ?_
  rintro T44 _ L44 X44 ⟨N44, e44, b4, rfl, l4⟩
  show Go p e below _ (T44.setTop (mkF m 151 #[.val (.int p1), .val (.int p2), .val (.int p3), .val (.int p4), .val (.ref ad), .val (.ref ap), .val (.ref aq), .val (.ref ae), .val (.ref ax), .unset, .unset, .unset, .unset, .unset] [(.int (bi b4)), (.int (4 : Int32)), (.ref ax), (.ref ae)]))
  refine g_callSW X44 hx hS33 hZ 0 hown (hw _ (List.mem_of_getElem? (i := 9) rfl)) (hw _ (List.mem_of_getElem? (i := 10) rfl)) (hw _ (List.mem_of_getElem? (i := 3) rfl)) (hw _ (List.mem_of_getElem? (i := 11) rfl)) (by decide) e44 (Nat.le_refl _) (rmMK l Z a0 hw ae ax (fE b3 (fE b2 (fE b1 (fE false (fun _ => .null) 0 (.ref nb0)) 1 (.ref nb1)) 2 (.ref nb2)) 3 (.ref nb3)) (fX b3 (fX b2 (fX b1 (fX false (fun _ => .null) 0 (.ref nb0)) 1 (.ref nb1)) 2 (.ref nb2)) 3 (.ref nb3)) b4 (4 : Int32) 4 _ n0 Zm3 VE4 VX4 OE4 OX4 nex gae gax rfl (by decide)) (by decide) (by decide) (by rw [hml]; rfl) (argsL := [(.ref ae), (.ref ax), (.int (4 : Int32)), (.int (bi b4))]) (rest := []) (lenOf pd_MK rfl) rfl (Nat.le_of_eq rfl) (hb hby at_151) (pc' := 154) rfl (by decide) (by decide) rfl ?_
  clear hZ hown
  rintro T34 _ L34 vm34 X34 ⟨nb4, rfl, N34, gn4, K34, ⟨q4, P4, n44⟩, VE5, VX5⟩ hS34 hZ hown
  show Go p e below _ (T34.setTop (mkF m 154 #[.val (.int p1), .val (.int p2), .val (.int p3), .val (.int p4), .val (.ref ad), .val (.ref ap), .val (.ref aq), .val (.ref ae), .val (.ref ax), .unset, .unset, .unset, .unset, .unset] []))
  have lb4 := ltN P4.lt; have sz4 := K34.1
  have OE5 := OE4.keep K34; have OX5 := OX4.keep K34
  have VD5 := VD4.keep K34 (ninS nde (ninS ndx nin0)); have VP5 := VP4.keep K34 (ninS npe (ninS npx nin0))
  have P0_4 := P0_3.keep K34 (ninS (Nat.ne_of_gt (by omega)) (ninS (Nat.ne_of_gt (by omega)) nin0))
  have P1_4 := P1_3.keep K34 (ninS (Nat.ne_of_gt (by omega)) (ninS (Nat.ne_of_gt (by omega)) nin0))
  have P2_4 := P2_3.keep K34 (ninS (Nat.ne_of_gt (by omega)) (ninS (Nat.ne_of_gt (by omega)) nin0))
  have P3_4 := P3.keep K34 (ninS (Nat.ne_of_gt (by omega)) (ninS (Nat.ne_of_gt (by omega)) nin0))
  have Zm4 : n0 ≤ T34.heap.size := by omega
  have hchk := own_use d2 d3 d4 b1 b2 b3 b4 bd2 bd3 bd4 l1 l2 l3
  obtain ⟨hc1, hc2, hc3, hc4, hp1, hp2, hp3, hp4, hen0, hall⟩ := hchk
  have kdef : K5 b1 b2 b3 b4 = K5 b1 b2 b3 b4 := rfl
  have J : Inj5 (na5 nb0 nb1 nb2 nb3 nb4) n0 := own_inj5 (by omega) (by omega) (by omega) (by omega) (by omega)
  have t0 : TS Z T34.heap (na5 nb0 nb1 nb2 nb3 nb4) (K5 b1 b2 b3 b4) (gs5 q0 q1 q2 q3 q4) := fun i hi => by
    have : i = 0 ∨ i = 1 ∨ i = 2 ∨ i = 3 ∨ i = 4 := by omega
    rcases this with rfl | rfl | rfl | rfl | rfl
    · exact P0_4
    · exact P1_4
    · exact P2_4
    · exact P3_4
    · exact P4
  have r0 : RR (na5 nb0 nb1 nb2 nb3 nb4) (gs5 q0 q1 q2 q3 q4) oZ oZ oZ oZ := fun i hi => by
    have : i = 0 ∨ i = 1 ∨ i = 2 ∨ i = 3 ∨ i = 4 := by omega
    rcases this with rfl | rfl | rfl | rfl | rfl
    · exact n40
    · exact n41
    · exact n42
    · exact n43
    · exact n44
  have VEa : EA Z T34.heap ae (fEl (na5 nb0 nb1 nb2 nb3 nb4) (K5 b1 b2 b3 b4)) := VE5.congr (fun j hj => by
    have : j = 0 ∨ j = 1 ∨ j = 2 ∨ j = 3 ∨ j = 4 := by omega
    rcases this with rfl | rfl | rfl | rfl | rfl <;> cases b1 <;> cases b2 <;> cases b3 <;> cases b4 <;> rfl)
  have VXa : XA Z T34.heap ax (fTx (na5 nb0 nb1 nb2 nb3 nb4) (K5 b1 b2 b3 b4)) := VX5.congr (fun j hj => by
    have : j = 0 ∨ j = 1 ∨ j = 2 ∨ j = 3 ∨ j = 4 := by omega
    rcases this with rfl | rfl | rfl | rfl | rfl <;> cases b1 <;> cases b2 <;> cases b3 <;> cases b4 <;> rfl)
  have nda : ad ∉ nas (na5 nb0 nb1 nb2 nb3 nb4) := show ad ∉ [nb0, nb1, nb2, nb3, nb4] from ninS (Nat.ne_of_lt (by omega)) (ninS (Nat.ne_of_lt (by omega)) (ninS (Nat.ne_of_lt (by omega)) (ninS (Nat.ne_of_lt (by omega)) (ninS (Nat.ne_of_lt (by omega)) nin0))))
  have npa : ap ∉ nas (na5 nb0 nb1 nb2 nb3 nb4) := show ap ∉ [nb0, nb1, nb2, nb3, nb4] from ninS (Nat.ne_of_lt (by omega)) (ninS (Nat.ne_of_lt (by omega)) (ninS (Nat.ne_of_lt (by omega)) (ninS (Nat.ne_of_lt (by omega)) (ninS (Nat.ne_of_lt (by omega)) nin0))))
  have nea : ae ∉ nas (na5 nb0 nb1 nb2 nb3 nb4) := show ae ∉ [nb0, nb1, nb2, nb3, nb4] from ninS (Nat.ne_of_lt (by omega)) (ninS (Nat.ne_of_lt (by omega)) (ninS (Nat.ne_of_lt (by omega)) (ninS (Nat.ne_of_lt (by omega)) (ninS (Nat.ne_of_lt (by omega)) nin0))))
  have nxa : ax ∉ nas (na5 nb0 nb1 nb2 nb3 nb4) := show ax ∉ [nb0, nb1, nb2, nb3, nb4] from ninS (Nat.ne_of_lt (by omega)) (ninS (Nat.ne_of_lt (by omega)) (ninS (Nat.ne_of_lt (by omega)) (ninS (Nat.ne_of_lt (by omega)) (ninS (Nat.ne_of_lt (by omega)) nin0))))
  obtain ⟨na, gna⟩ : ∃ z, z = (na5 nb0 nb1 nb2 nb3 nb4) := ⟨_, rfl⟩
  obtain ⟨kd, gkd⟩ : ∃ z, z = (K5 b1 b2 b3 b4) := ⟨_, rfl⟩
  obtain ⟨gs, ggs⟩ : ∃ z, z = (gs5 q0 q1 q2 q3 q4) := ⟨_, rfl⟩
  obtain ⟨pp, gpp⟩ : ∃ z, z = PP d2 d3 d4 := ⟨_, rfl⟩
  obtain ⟨D, gD⟩ : ∃ z, z = DD d2 d3 d4 := ⟨_, rfl⟩
  rw [← gna] at J t0 r0 VEa VXa nda npa nea nxa
  rw [← gkd] at t0 VEa VXa hc1 hc2 hc3 hc4 hall
  rw [← ggs] at t0 r0
  rw [← gpp] at VP5 hc1 hc2 hc3 hc4 hp1 hp2 hp3 hp4 hall
  rw [← gD] at VD5 hen0 hall hD5
  have kd0 : kd 0 = false := by rw [gkd]; rfl
  have hkT := hS34
  have bl0 : Bd (tL pp 0) := bd_Z
  refine g_aload X34 hx (hb hby at_154) (pc' := 156) rfl rfl rfl ?_
  refine g_aload X34 hx (hb hby at_156) (pc' := 158) rfl rfl rfl ?_
  refine g_aload X34 hx (hb hby at_158) (pc' := 160) rfl rfl rfl ?_
  refine g_iconst X34 hx (hb hby at_160) (pc' := 161) rfl (z := 1) (by decide) ?_
  have bl1 : Bd (tL pp 1) := bd_sup bl0 _ _ (by decide)
  refine g_callS X34 hx hZ 0 hown (hw _ (List.mem_of_getElem? (i := 83) rfl)) (hw _ (List.mem_of_getElem? (i := 84) rfl)) (hw _ (List.mem_of_getElem? (i := 3) rfl)) (hw _ (List.mem_of_getElem? (i := 85) rfl)) (by decide) rfl (rmAT l Z a0 hw ae ax ap na kd gs (tP pp 0) (tN pp 0) (tF pp 0) (tL pp 0) pp (1 : Int32) 1 (pp 1) _ n0 t0 r0 J VEa VXa VP5 rfl (by decide) rfl hp1 hc1 bl0) (by decide) (by decide) (by rw [hml]; rfl) (argsL := [(.ref ae), (.ref ax), (.ref ap), (.int (1 : Int32))]) (rest := []) (lenOf pd_AT rfl) rfl (Nat.le_of_eq rfl) (hb hby at_161) (pc' := 164) rfl (by decide) (by decide) rfl ?_
  rintro T51 _ L51 X51 ⟨rfl, N51, K51, gs51, t51, r51⟩
  show Go p e below _ (T51.setTop (mkF m 164 #[.val (.int p1), .val (.int p2), .val (.int p3), .val (.int p4), .val (.ref ad), .val (.ref ap), .val (.ref aq), .val (.ref ae), .val (.ref ax), .unset, .unset, .unset, .unset, .unset] []))
  have VE51 := VEa.keep K51 nea
  have VX51 := VXa.keep K51 nxa
  have VD51 := VD5.keep K51 nda
  have VP51 := VP5.keep K51 npa
  refine g_aload X51 hx (hb hby at_164) (pc' := 166) rfl rfl rfl ?_
  refine g_aload X51 hx (hb hby at_166) (pc' := 168) rfl rfl rfl ?_
  refine g_aload X51 hx (hb hby at_168) (pc' := 170) rfl rfl rfl ?_
  refine g_iconst X51 hx (hb hby at_170) (pc' := 171) rfl (z := 2) (by decide) ?_
  have bl2 : Bd (tL pp 2) := bd_sup bl1 _ _ (by decide)
  refine g_callS X51 hx hZ 0 hown (hw _ (List.mem_of_getElem? (i := 83) rfl)) (hw _ (List.mem_of_getElem? (i := 84) rfl)) (hw _ (List.mem_of_getElem? (i := 3) rfl)) (hw _ (List.mem_of_getElem? (i := 85) rfl)) (by decide) rfl (rmAT l Z a0 hw ae ax ap na kd gs51 (tP pp 1) (tN pp 1) (tF pp 1) (tL pp 1) pp (2 : Int32) 2 (pp 2) _ n0 t51 r51 J VE51 VX51 VP51 rfl (by decide) rfl hp2 hc2 bl1) (by decide) (by decide) (by rw [hml]; rfl) (argsL := [(.ref ae), (.ref ax), (.ref ap), (.int (2 : Int32))]) (rest := []) (lenOf pd_AT rfl) rfl (Nat.le_of_eq rfl) (hb hby at_171) (pc' := 174) rfl (by decide) (by decide) rfl ?_
  rintro T52 _ L52 X52 ⟨rfl, N52, K52, gs52, t52, r52⟩
  show Go p e below _ (T52.setTop (mkF m 174 #[.val (.int p1), .val (.int p2), .val (.int p3), .val (.int p4), .val (.ref ad), .val (.ref ap), .val (.ref aq), .val (.ref ae), .val (.ref ax), .unset, .unset, .unset, .unset, .unset] []))
  have VE52 := VE51.keep K52 nea
  have VX52 := VX51.keep K52 nxa
  have VD52 := VD51.keep K52 nda
  have VP52 := VP51.keep K52 npa
  refine g_aload X52 hx (hb hby at_174) (pc' := 176) rfl rfl rfl ?_
  refine g_aload X52 hx (hb hby at_176) (pc' := 178) rfl rfl rfl ?_
  refine g_aload X52 hx (hb hby at_178) (pc' := 180) rfl rfl rfl ?_
  refine g_iconst X52 hx (hb hby at_180) (pc' := 181) rfl (z := 3) (by decide) ?_
  have bl3 : Bd (tL pp 3) := bd_sup bl2 _ _ (by decide)
  refine g_callS X52 hx hZ 0 hown (hw _ (List.mem_of_getElem? (i := 83) rfl)) (hw _ (List.mem_of_getElem? (i := 84) rfl)) (hw _ (List.mem_of_getElem? (i := 3) rfl)) (hw _ (List.mem_of_getElem? (i := 85) rfl)) (by decide) rfl (rmAT l Z a0 hw ae ax ap na kd gs52 (tP pp 2) (tN pp 2) (tF pp 2) (tL pp 2) pp (3 : Int32) 3 (pp 3) _ n0 t52 r52 J VE52 VX52 VP52 rfl (by decide) rfl hp3 hc3 bl2) (by decide) (by decide) (by rw [hml]; rfl) (argsL := [(.ref ae), (.ref ax), (.ref ap), (.int (3 : Int32))]) (rest := []) (lenOf pd_AT rfl) rfl (Nat.le_of_eq rfl) (hb hby at_181) (pc' := 184) rfl (by decide) (by decide) rfl ?_
  rintro T53 _ L53 X53 ⟨rfl, N53, K53, gs53, t53, r53⟩
  show Go p e below _ (T53.setTop (mkF m 184 #[.val (.int p1), .val (.int p2), .val (.int p3), .val (.int p4), .val (.ref ad), .val (.ref ap), .val (.ref aq), .val (.ref ae), .val (.ref ax), .unset, .unset, .unset, .unset, .unset] []))
  have VE53 := VE52.keep K53 nea
  have VX53 := VX52.keep K53 nxa
  have VD53 := VD52.keep K53 nda
  have VP53 := VP52.keep K53 npa
  refine g_aload X53 hx (hb hby at_184) (pc' := 186) rfl rfl rfl ?_
  refine g_aload X53 hx (hb hby at_186) (pc' := 188) rfl rfl rfl ?_
  refine g_aload X53 hx (hb hby at_188) (pc' := 190) rfl rfl rfl ?_
  refine g_iconst X53 hx (hb hby at_190) (pc' := 191) rfl (z := 4) (by decide) ?_
  have bl4 : Bd (tL pp 4) := bd_sup bl3 _ _ (by decide)
  refine g_callS X53 hx hZ 0 hown (hw _ (List.mem_of_getElem? (i := 83) rfl)) (hw _ (List.mem_of_getElem? (i := 84) rfl)) (hw _ (List.mem_of_getElem? (i := 3) rfl)) (hw _ (List.mem_of_getElem? (i := 85) rfl)) (by decide) rfl (rmAT l Z a0 hw ae ax ap na kd gs53 (tP pp 3) (tN pp 3) (tF pp 3) (tL pp 3) pp (4 : Int32) 4 (pp 4) _ n0 t53 r53 J VE53 VX53 VP53 rfl (by decide) rfl hp4 hc4 bl3) (by decide) (by decide) (by rw [hml]; rfl) (argsL := [(.ref ae), (.ref ax), (.ref ap), (.int (4 : Int32))]) (rest := []) (lenOf pd_AT rfl) rfl (Nat.le_of_eq rfl) (hb hby at_191) (pc' := 194) rfl (by decide) (by decide) rfl ?_
  rintro T54 _ L54 X54 ⟨rfl, N54, K54, gs54, t54, r54⟩
  show Go p e below _ (T54.setTop (mkF m 194 #[.val (.int p1), .val (.int p2), .val (.int p3), .val (.int p4), .val (.ref ad), .val (.ref ap), .val (.ref aq), .val (.ref ae), .val (.ref ax), .unset, .unset, .unset, .unset, .unset] []))
  have VE54 := VE53.keep K54 nea
  have VX54 := VX53.keep K54 nxa
  have VD54 := VD53.keep K54 nda
  have VP54 := VP53.keep K54 npa
  have bP : Bd (tP pp 4) := bd_sup (bd_sup (bd_sup (bd_sup bd_Z _ _ hp1) _ _ hp2) _ _ hp3) _ _ hp4
  have hkE : T34.heap.size ≤ T54.heap.size := Nat.le_trans (Nat.le_trans (Nat.le_trans K51.1 K52.1) K53.1) K54.1
  refine g_iloadN X54 hx (hb hby at_194) (pc' := 195) rfl rfl ?_
  refine g_ldcI X54 hx hZ hown (hw _ (List.mem_of_getElem? (i := 105) rfl)) (hb hby at_195) (pc' := 197) rfl ?_
  refine g_iand X54 hx (hb hby at_197) (pc' := 198) rfl rfl ?_
  refine g_iconst X54 hx (hb hby at_198) (pc' := 199) rfl (z := 5) (by decide) ?_
  obtain ⟨rv, grv⟩ : ∃ z : Int32, z = (p3 &&& 2147483647) - (p3 &&& 2147483647) / 5 * 5 := ⟨_, rfl⟩
  have rrv : rv.toInt = (p3 &&& 2147483647).toInt % 5 := by rw [grv]; exact own_rem (own_mask p3) (by decide)
  obtain ⟨rN0, hrN0⟩ : ∃ n : Nat, rv.toInt = n := ⟨rv.toInt.toNat, by omega⟩
  have hrN5 : rN0 < 5 := by omega
  refine g_irem X54 hx (hb hby at_199) (pc' := 200) rfl (by decide) (z := rv) grv.symm ?_
  refine g_istore X54 hx (hb hby at_200) (pc' := 202) rfl (Ls' := #[.val (.int p1), .val (.int p2), .val (.int p3), .val (.int p4), .val (.ref ad), .val (.ref ap), .val (.ref aq), .val (.ref ae), .val (.ref ax), .val (.int rv), .unset, .unset, .unset, .unset]) rfl ?_
  refine g_aload X54 hx (hb hby at_202) (pc' := 204) rfl rfl rfl ?_
  refine g_iload X54 hx (hb hby at_204) (pc' := 206) rfl rfl ?_
  suffices j225 : ∀ (Tj : State) (lcj : List Loc) (r1 : Int32) (rN : Nat), r1.toInt = rN → rN < 5 → kd rN = false → en D rN ≠ rN → Stand p l e room_1 (s.setVm vm34) m #[(.int p1), (.int p2), (.int p3), (.int p4)] below meth c Tj lcj 35 175 → Tj.heap = T54.heap → Fr n0 lcj → Go p e below (DnW s below (Q0 n0) 48 2368) (Tj.setTop (mkF m 225 #[.val (.int p1), .val (.int p2), .val (.int p3), .val (.int p4), .val (.ref ad), .val (.ref ap), .val (.ref aq), .val (.ref ae), .val (.ref ax), .val (.int r1), .unset, .unset, .unset, .unset] [])) by
    have hr0 : ¬ rv < 0 := own_nn.mpr (by omega)
    have hrn : rv.toNatClampNeg = rN0 := own_nat hrN0
    cases hk : kd rN0
    ·
      refine g_aaload X54 hx hZ rfl VX54 rfl hr0 hrn hrN5 (fTx_f hk) (hb hby at_206) (pc' := 207) rfl ?_
      refine g_ifnonnullN X54 hx (hb hby at_207) (pc' := 210) rfl ?_
      refine g_aload X54 hx (hb hby at_210) (pc' := 212) rfl rfl rfl ?_
      refine g_iload X54 hx (hb hby at_212) (pc' := 214) rfl rfl ?_
      refine g_callS X54 hx hZ 0 hown (hw _ (List.mem_of_getElem? (i := 106) rfl)) (hw _ (List.mem_of_getElem? (i := 107) rfl)) (hw _ (List.mem_of_getElem? (i := 3) rfl)) (hw _ (List.mem_of_getElem? (i := 108) rfl)) (by decide) rfl (rmEN l Z a0 hw ad D rv rN0 _ n0 VD54 hrN0 hrN5 hD5) (by decide) (by decide) (by rw [hml]; rfl) (argsL := [(.ref ad), (.int rv)]) (rest := []) (lenOf pd_EN rfl) rfl (Nat.le_of_eq rfl) (hb hby at_214) (pc' := 217) rfl (by decide) (by decide) rfl ?_
      rintro T60 _ L60 X60 ⟨N60, e60, rfl⟩
      show Go p e below _ (T60.setTop (mkF m 217 #[.val (.int p1), .val (.int p2), .val (.int p3), .val (.int p4), .val (.ref ad), .val (.ref ap), .val (.ref aq), .val (.ref ae), .val (.ref ax), .val (.int rv), .unset, .unset, .unset, .unset] [(.int (Int32.ofNat (en D rN0)))]))
      have hle := own_en D rN0 hrN5
      refine g_iload X60 hx (hb hby at_217) (pc' := 219) rfl rfl ?_
      refine g_icmp_ne X60 hx (hb hby at_219) (by decide) (pc' := 225) rfl (pcF := 222) rfl (fun hc => ?_) (fun hc => ?_)
      ·
        exact j225 T60 _ rv rN0 hrN0 hrN5 hk (fun z => hc (by rw [z, own_eqn hrN0])) X60 e60 (((((((((((((((((((Fr.nil n0).app N11).app N12).app N13).app N14).app N30).app N41).app N31).app N42).app N32).app N43).app N33).app N44).app N34).app N51).app N52).app N53).app N54).app N60)
      ·
        refine g_iconst X60 hx (hb hby at_222) (pc' := 223) rfl (z := 0) (by decide) ?_
        refine g_istore X60 hx (hb hby at_223) (pc' := 225) rfl (Ls' := #[.val (.int p1), .val (.int p2), .val (.int p3), .val (.int p4), .val (.ref ad), .val (.ref ap), .val (.ref aq), .val (.ref ae), .val (.ref ax), .val (.int (0 : Int32)), .unset, .unset, .unset, .unset]) rfl ?_
        exact j225 T60 _ 0 0 rfl (by decide) kd0 (by rw [hen0]; decide) X60 e60 (((((((((((((((((((Fr.nil n0).app N11).app N12).app N13).app N14).app N30).app N41).app N31).app N42).app N32).app N43).app N33).app N44).app N34).app N51).app N52).app N53).app N54).app N60)
    ·
      refine g_aaload X54 hx hZ rfl VX54 rfl hr0 hrn hrN5 (fTx_t hk) (hb hby at_206) (pc' := 207) rfl ?_
      refine g_ifnonnullY X54 hx (hb hby at_207) (by decide) (pc' := 222) rfl ?_
      refine g_iconst X54 hx (hb hby at_222) (pc' := 223) rfl (z := 0) (by decide) ?_
      refine g_istore X54 hx (hb hby at_223) (pc' := 225) rfl (Ls' := #[.val (.int p1), .val (.int p2), .val (.int p3), .val (.int p4), .val (.ref ad), .val (.ref ap), .val (.ref aq), .val (.ref ae), .val (.ref ax), .val (.int (0 : Int32)), .unset, .unset, .unset, .unset]) rfl ?_
      exact j225 T54 _ 0 0 rfl (by decide) kd0 (by rw [hen0]; decide) X54 rfl ((((((((((((((((((Fr.nil n0).app N11).app N12).app N13).app N14).app N30).app N41).app N31).app N42).app N32).app N43).app N33).app N44).app N34).app N51).app N52).app N53).app N54)
  intro Tj lcj r1 rN hrN hr5 hkr hner Xj ej Nj
  rw [← ej] at VE54 VX54 VD54 t54 hkE
  have hle := own_en D rN hr5
  have hge := own_ge D rN
  refine g_aload Xj hx (hb hby at_225) (pc' := 227) rfl rfl rfl ?_
  refine g_iload Xj hx (hb hby at_227) (pc' := 229) rfl rfl ?_
  refine g_callS Xj hx hZ 0 hown (hw _ (List.mem_of_getElem? (i := 106) rfl)) (hw _ (List.mem_of_getElem? (i := 107) rfl)) (hw _ (List.mem_of_getElem? (i := 3) rfl)) (hw _ (List.mem_of_getElem? (i := 108) rfl)) (by decide) rfl (rmEN l Z a0 hw ad D r1 rN _ n0 VD54 hrN hr5 hD5) (by decide) (by decide) (by rw [hml]; rfl) (argsL := [(.ref ad), (.int r1)]) (rest := []) (lenOf pd_EN rfl) rfl (Nat.le_of_eq rfl) (hb hby at_229) (pc' := 232) rfl (by decide) (by decide) rfl ?_
  rintro T61 _ L61 X61 ⟨N61, e61, rfl⟩
  show Go p e below _ (T61.setTop (mkF m 232 #[.val (.int p1), .val (.int p2), .val (.int p3), .val (.int p4), .val (.ref ad), .val (.ref ap), .val (.ref aq), .val (.ref ae), .val (.ref ax), .val (.int r1), .unset, .unset, .unset, .unset] [(.int (Int32.ofNat (en D rN)))]))
  obtain ⟨eN, geN⟩ : ∃ z, z = en D rN := ⟨_, rfl⟩
  rw [← geN] at hle hge hner ⊢
  obtain ⟨ev, gev⟩ : ∃ z, z = Int32.ofNat eN := ⟨_, rfl⟩
  have hev : ev.toInt = eN := by rw [gev]; exact own_i (by omega)
  rw [← gev]
  have hrlt : rN < eN := by omega
  refine g_istore X61 hx (hb hby at_232) (pc' := 234) rfl (Ls' := #[.val (.int p1), .val (.int p2), .val (.int p3), .val (.int p4), .val (.ref ad), .val (.ref ap), .val (.ref aq), .val (.ref ae), .val (.ref ax), .val (.int r1), .val (.int ev), .unset, .unset, .unset]) rfl ?_
  refine g_iload X61 hx (hb hby at_234) (pc' := 236) rfl rfl ?_
  refine g_iconst X61 hx (hb hby at_236) (pc' := 237) rfl (z := 1) (by decide) ?_
  obtain ⟨r2, gr2⟩ : ∃ z : Int32, r1 + 1 = z := ⟨_, rfl⟩
  have k1 : (1 : Int32).toInt = 1 := rfl
  have hr2 : r2.toInt = rN + 1 := by have := c_iadd r1 1; have := rng32 r2; rw [gr2] at *; omega
  refine g_iadd X61 hx (hb hby at_237) (pc' := 238) rfl (z := r2) gr2 ?_
  refine g_iloadN X61 hx (hb hby at_238) (pc' := 239) rfl rfl ?_
  refine g_ldcI X61 hx hZ hown (hw _ (List.mem_of_getElem? (i := 105) rfl)) (hb hby at_239) (pc' := 241) rfl ?_
  refine g_iand X61 hx (hb hby at_241) (pc' := 242) rfl rfl ?_
  refine g_iload X61 hx (hb hby at_242) (pc' := 244) rfl rfl ?_
  refine g_iload X61 hx (hb hby at_244) (pc' := 246) rfl rfl ?_
  obtain ⟨df, gdf⟩ : ∃ z : Int32, ev - r1 = z := ⟨_, rfl⟩
  have hdf : df.toInt = eN - rN := by have := c_isub ev r1; have := rng32 df; rw [gdf] at *; omega
  refine g_isub X61 hx (hb hby at_246) (pc' := 247) rfl (z := df) gdf ?_
  obtain ⟨md, gmd⟩ : ∃ z : Int32, z = (p4 &&& 2147483647) - (p4 &&& 2147483647) / df * df := ⟨_, rfl⟩
  have hmd : md.toInt = (p4 &&& 2147483647).toInt % df.toInt := by rw [gmd]; exact own_rem (own_mask p4) (by omega)
  have q1 := Int.emod_nonneg (p4 &&& 2147483647).toInt (show df.toInt ≠ 0 by omega)
  have q2 := Int.emod_lt_of_pos (p4 &&& 2147483647).toInt (show 0 < df.toInt by omega)
  refine g_irem X61 hx (hb hby at_247) (pc' := 248) rfl (fun z => by rw [z] at hdf; have : (0 : Int32).toInt = 0 := rfl; omega) (z := md) gmd.symm ?_
  obtain ⟨xv, gxv⟩ : ∃ z : Int32, r2 + md = z := ⟨_, rfl⟩
  have hxv0 : xv.toInt = r2.toInt + md.toInt := by have := c_iadd r2 md; have := rng32 xv; rw [gxv] at *; omega
  obtain ⟨xN, hxN⟩ : ∃ n : Nat, xv.toInt = n := ⟨xv.toInt.toNat, by omega⟩
  have hx1 : rN < xN ∧ xN ≤ eN := by omega
  refine g_iadd X61 hx (hb hby at_248) (pc' := 249) rfl (z := xv) gxv ?_
  have hx5 : xN < 5 := by omega
  have hfol := hall rN hr5 hkr (by rw [← geN]; omega) xN hx5 hx1.1 (by rw [← geN]; exact hx1.2)
  rw [← geN] at hfol
  obtain ⟨res, gres⟩ : ∃ z : Option Nat, z = (if xN < eN then some (xN + 1) else none) := ⟨_, rfl⟩
  rw [← gres] at hfol
  refine g_istore X61 hx (hb hby at_249) (pc' := 251) rfl (Ls' := #[.val (.int p1), .val (.int p2), .val (.int p3), .val (.int p4), .val (.ref ad), .val (.ref ap), .val (.ref aq), .val (.ref ae), .val (.ref ax), .val (.int r1), .val (.int ev), .val (.int xv), .unset, .unset]) rfl ?_
  refine g_iload X61 hx (hb hby at_251) (pc' := 253) rfl rfl ?_
  refine g_iload X61 hx (hb hby at_253) (pc' := 255) rfl rfl ?_
  rw [← e61] at VE54 VX54 t54 hkE
  suffices j273 : ∀ (Tk : State) (lck : List Loc), Stand p l e room_1 (s.setVm vm34) m #[(.int p1), (.int p2), (.int p3), (.int p4)] below meth c Tk lck 35 175 → Tk.heap = T61.heap → Fr n0 lck → Go p e below (DnW s below (Q0 n0) 48 2368) (Tk.setTop (mkF m 273 #[.val (.int p1), .val (.int p2), .val (.int p3), .val (.int p4), .val (.ref ad), .val (.ref ap), .val (.ref aq), .val (.ref ae), .val (.ref ax), .val (.int r1), .val (.int ev), .val (.int xv), .unset, .unset] [(ov na res)])) by
    refine g_icmp_ge X61 hx (hb hby at_255) (by decide) (pc' := 272) rfl (pcF := 258) rfl (fun hc => ?_) (fun hc => ?_)
    ·
      have hno : ¬ xN < eN := fun z => hc (Int32.lt_iff_toInt_lt.mpr (by omega))
      have hz : res = none := by rw [gres, if_neg hno]
      refine g_aconstNull X61 hx (hb hby at_272) (pc' := 273) rfl ?_
      have := j273 T61 _ X61 rfl (Nj.app N61)
      rw [hz] at this
      exact this
    ·
      have hyes : xN < eN := by have := Int32.lt_iff_toInt_lt.mp hc; omega
      have hz : res = some (xN + 1) := by rw [gres, if_pos hyes]
      refine g_aload X61 hx (hb hby at_258) (pc' := 260) rfl rfl rfl ?_
      refine g_aload X61 hx (hb hby at_260) (pc' := 262) rfl rfl rfl ?_
      refine g_iload X61 hx (hb hby at_262) (pc' := 264) rfl rfl ?_
      refine g_iconst X61 hx (hb hby at_264) (pc' := 265) rfl (z := 1) (by decide) ?_
      obtain ⟨x2, gx2⟩ : ∃ z : Int32, xv + 1 = z := ⟨_, rfl⟩
      have hx2 : x2.toInt = (xN + 1 : Nat) := by have := c_iadd xv 1; have := rng32 x2; rw [gx2] at *; omega
      refine g_iadd X61 hx (hb hby at_265) (pc' := 266) rfl (z := x2) gx2 ?_
      refine g_callS X61 hx hZ 0 hown (hw _ (List.mem_of_getElem? (i := 109) rfl)) (hw _ (List.mem_of_getElem? (i := 110) rfl)) (hw _ (List.mem_of_getElem? (i := 3) rfl)) (hw _ (List.mem_of_getElem? (i := 111) rfl)) (by decide) rfl (rmND l Z a0 hw ae ax na kd x2 (xN + 1) _ n0 VE54 VX54 hx2 (by omega)) (by decide) (by decide) (by rw [hml]; rfl) (argsL := [(.ref ae), (.ref ax), (.int x2)]) (rest := []) (lenOf pd_ND rfl) rfl (Nat.le_of_eq rfl) (hb hby at_266) (pc' := 269) rfl (by decide) (by decide) rfl ?_
      rintro T62 _ L62 X62 ⟨N62, e62, rfl⟩
      show Go p e below _ (T62.setTop (mkF m 269 #[.val (.int p1), .val (.int p2), .val (.int p3), .val (.int p4), .val (.ref ad), .val (.ref ap), .val (.ref aq), .val (.ref ae), .val (.ref ax), .val (.int r1), .val (.int ev), .val (.int xv), .unset, .unset] [(.ref (na (xN + 1)))]))
      refine g_goto X62 hx (hb hby at_269) (by decide) (pc' := 273) rfl ?_
      have := j273 T62 _ X62 e62 ((Nj.app N61).app N62)
      rw [hz] at this
      exact this
  intro Tk lck Xk ek Nk
  rw [← ek] at VE54 VX54 t54 hkE
  have ovr := ov_ref na res
  refine g_astore Xk hx (hb hby at_273) (pc' := 275) rfl ovr (Ls' := #[.val (.int p1), .val (.int p2), .val (.int p3), .val (.int p4), .val (.ref ad), .val (.ref ap), .val (.ref aq), .val (.ref ae), .val (.ref ax), .val (.int r1), .val (.int ev), .val (.int xv), .val (ov na res), .unset]) (by rcases ref_cases ovr with q | ⟨b, q⟩ <;> rw [q] <;> rfl) ?_
  refine g_aload Xk hx (hb hby at_275) (pc' := 277) rfl rfl rfl ?_
  refine g_iload Xk hx (hb hby at_277) (pc' := 279) rfl rfl ?_
  have hx0 : ¬ xv < 0 := own_nn.mpr (by omega)
  have hxn : xv.toNatClampNeg = xN := own_nat hxN
  have hr0' : ¬ r1 < 0 := own_nn.mpr (by omega)
  have hrn' : r1.toNatClampNeg = rN := own_nat hrN
  have hE : Exa Z Tk.heap (na rN) "com/example/sundskrift/sundskrift/core/xml/ReadOnlyElement" := by have := (t54 rN hr5).1; rw [hkr] at this; exact this
  suffices j316 : ∀ (Tm : State) (lcm : List Loc), Stand p l e room_1 (s.setVm vm34) m #[(.int p1), (.int p2), (.int p3), (.int p4)] below meth c Tm lcm 35 175 → Tm.heap = Tk.heap → Fr n0 lcm → Go p e below (DnW s below (Q0 n0) 48 2368) (Tm.setTop (mkF m 316 #[.val (.int p1), .val (.int p2), .val (.int p3), .val (.int p4), .val (.ref ad), .val (.ref ap), .val (.ref aq), .val (.ref ae), .val (.ref ax), .val (.int r1), .val (.int ev), .val (.int xv), .val (ov na res), .val (ov na res)] [])) by
    cases hkx : kd xN
    ·
      refine g_aaload Xk hx hZ rfl VX54 rfl hx0 hxn hx5 (fTx_f hkx) (hb hby at_279) (pc' := 280) rfl ?_
      refine g_ifnullY Xk hx (hb hby at_280) (by decide) (pc' := 301) rfl ?_
      refine g_aload Xk hx (hb hby at_301) (pc' := 303) rfl rfl rfl ?_
      refine g_iload Xk hx (hb hby at_303) (pc' := 305) rfl rfl ?_
      refine g_aaload Xk hx hZ rfl VE54 rfl hr0' hrn' hr5 (fEl_f hkr) (hb hby at_305) (pc' := 306) rfl ?_
      refine g_aload Xk hx (hb hby at_306) (pc' := 308) rfl rfl rfl ?_
      refine g_iload Xk hx (hb hby at_308) (pc' := 310) rfl rfl ?_
      refine g_aaload Xk hx hZ rfl VE54 rfl hx0 hxn hx5 (fEl_f hkx) (hb hby at_310) (pc' := 311) rfl ?_
      refine g_callU Xk hx hZ 0 (a := na rN) hown (hw _ (List.mem_of_getElem? (i := 112) rfl)) (hw _ (List.mem_of_getElem? (i := 113) rfl)) (hw _ (List.mem_of_getElem? (i := 114) rfl)) (hw _ (List.mem_of_getElem? (i := 116) rfl)) (hw _ (List.mem_of_getElem? (i := 115) rfl)) (hw _ (List.mem_of_getElem? (i := 117) rfl)) (hw _ (List.mem_of_getElem? (i := 35) rfl)) (by decide) rfl hE (rmFO l Z a0 hw na kd gs54 (tP pp 4) (tN pp 4) (tF pp 4) (tL pp 4) rN xN res _ n0 t54 r54 J hr5 hx5 bP hfol) (by decide) (by decide) (by rw [hml]; rfl) (argsL := [(.ref (na xN))]) (rest := []) (lenOf pd_FO rfl) rfl (Nat.le_of_eq rfl) (hb hby at_311) (pc' := 314) rfl (by decide) (by decide) rfl ?_
      rintro T63 _ L63 X63 ⟨N63, e63, rfl⟩
      show Go p e below _ (T63.setTop (mkF m 314 #[.val (.int p1), .val (.int p2), .val (.int p3), .val (.int p4), .val (.ref ad), .val (.ref ap), .val (.ref aq), .val (.ref ae), .val (.ref ax), .val (.int r1), .val (.int ev), .val (.int xv), .val (ov na res), .unset] [(ov na res)]))
      refine g_astore X63 hx (hb hby at_314) (pc' := 316) rfl ovr (Ls' := #[.val (.int p1), .val (.int p2), .val (.int p3), .val (.int p4), .val (.ref ad), .val (.ref ap), .val (.ref aq), .val (.ref ae), .val (.ref ax), .val (.int r1), .val (.int ev), .val (.int xv), .val (ov na res), .val (ov na res)]) (by rcases ref_cases ovr with q | ⟨b, q⟩ <;> rw [q] <;> rfl) ?_
      exact j316 T63 _ X63 e63 (Nk.app N63)
    ·
      refine g_aaload Xk hx hZ rfl VX54 rfl hx0 hxn hx5 (fTx_t hkx) (hb hby at_279) (pc' := 280) rfl ?_
      refine g_ifnullN Xk hx (hb hby at_280) (pc' := 283) rfl ?_
      refine g_aload Xk hx (hb hby at_283) (pc' := 285) rfl rfl rfl ?_
      refine g_iload Xk hx (hb hby at_285) (pc' := 287) rfl rfl ?_
      refine g_aaload Xk hx hZ rfl VE54 rfl hr0' hrn' hr5 (fEl_f hkr) (hb hby at_287) (pc' := 288) rfl ?_
      refine g_aload Xk hx (hb hby at_288) (pc' := 290) rfl rfl rfl ?_
      refine g_iload Xk hx (hb hby at_290) (pc' := 292) rfl rfl ?_
      refine g_aaload Xk hx hZ rfl VX54 rfl hx0 hxn hx5 (fTx_t hkx) (hb hby at_292) (pc' := 293) rfl ?_
      refine g_callU Xk hx hZ 0 (a := na rN) hown (hw _ (List.mem_of_getElem? (i := 112) rfl)) (hw _ (List.mem_of_getElem? (i := 113) rfl)) (hw _ (List.mem_of_getElem? (i := 114) rfl)) (hw _ (List.mem_of_getElem? (i := 116) rfl)) (hw _ (List.mem_of_getElem? (i := 115) rfl)) (hw _ (List.mem_of_getElem? (i := 117) rfl)) (hw _ (List.mem_of_getElem? (i := 35) rfl)) (by decide) rfl hE (rmFO l Z a0 hw na kd gs54 (tP pp 4) (tN pp 4) (tF pp 4) (tL pp 4) rN xN res _ n0 t54 r54 J hr5 hx5 bP hfol) (by decide) (by decide) (by rw [hml]; rfl) (argsL := [(.ref (na xN))]) (rest := []) (lenOf pd_FO rfl) rfl (Nat.le_of_eq rfl) (hb hby at_293) (pc' := 296) rfl (by decide) (by decide) rfl ?_
      rintro T63 _ L63 X63 ⟨N63, e63, rfl⟩
      show Go p e below _ (T63.setTop (mkF m 296 #[.val (.int p1), .val (.int p2), .val (.int p3), .val (.int p4), .val (.ref ad), .val (.ref ap), .val (.ref aq), .val (.ref ae), .val (.ref ax), .val (.int r1), .val (.int ev), .val (.int xv), .val (ov na res), .unset] [(ov na res)]))
      refine g_astore X63 hx (hb hby at_296) (pc' := 298) rfl ovr (Ls' := #[.val (.int p1), .val (.int p2), .val (.int p3), .val (.int p4), .val (.ref ad), .val (.ref ap), .val (.ref aq), .val (.ref ae), .val (.ref ax), .val (.int r1), .val (.int ev), .val (.int xv), .val (ov na res), .val (ov na res)]) (by rcases ref_cases ovr with q | ⟨b, q⟩ <;> rw [q] <;> rfl) ?_
      refine g_goto X63 hx (hb hby at_298) (by decide) (pc' := 316) rfl ?_
      exact j316 T63 _ X63 e63 (Nk.app N63)
  intro Tm lcm Xm em Nm
  refine g_aload Xm hx (hb hby at_316) (pc' := 318) rfl rfl ovr ?_
  refine g_aload Xm hx (hb hby at_318) (pc' := 320) rfl rfl ovr ?_
  refine g_acmp Xm hx (¬ (ov na res = ov na res)) (hb hby at_320) ovr ovr rfl (by decide) (pc' := 327) rfl (pcF := 323) rfl (fun hc => absurd rfl hc) (fun hc => ?_)
  refine g_iconst Xm hx (hb hby at_323) (pc' := 324) rfl (z := 1) (by decide) ?_
  refine g_goto Xm hx (hb hby at_324) (by decide) (pc' := 328) rfl ?_
  exact g_retWZ Xm hx hkT (by rw [em]; exact hkE) hret hlk (by decide) (hb hby at_328) (by decide) (by decide) ⟨rfl, Nm⟩
set_option maxRecDepth 65536 in
set_option maxHeartbeats 40000000 in
theorem comes_1 {Post : Tables → Env → Array Value → State → Outcome → State → Prop} (hpost : ∀ tb e args s v u, (limb_1_1.after args s (.returned v) u = true ∧ limb_1_2.after args s (.returned v) u = true ∧ True) → ReturnedEndW s (.returned v) u (Jvm.fieldLocs frame_1_writes args s ++ Jvm.arrayLocs frame_1_arrays args s ++ Jvm.staticLocs frame_1_statics s) 48 2368 → Post tb e args s (.returned v) u) :
    ArmFor flags0 classFile x code maxLocals ret World_1 tables_1 room_1 Calls_1 rest_1 Pre_1 Post := by
  intro l hfl _ _ p e ha hc hk s m args below hf hA hF happ hP
  obtain ⟨hcalls, hrest, hpre⟩ := hP
  obtain ⟨-, -, -, hnamed, -, -, -, hat⟩ := (Spec.applies_iff hf).mp happ
  obtain ⟨hg, hn⟩ := and_e (Cond.before_iff.mp (show (Jvm.Cond.and given_1 narrow_1).before args s = true from hpre))
  obtain ⟨hcount, k0⟩ := and_e hg
  obtain ⟨j0, k1⟩ := and_e k0
  obtain ⟨j1, k2⟩ := and_e k1
  obtain ⟨j2, k3⟩ := and_e k2
  have j3 := k3
  obtain ⟨w0, w1, w2, w3, rfl⟩ : ∃ w0 w1 w2 w3 : Value, args = #[w0, w1, w2, w3] := by
    have hs : args.size = 4 := by simpa [Cond.value, given_1] using hcount
    obtain ⟨L⟩ := args
    match L, hs with
    | [w0, w1, w2, w3], _ => exact ⟨w0, w1, w2, w3, rfl⟩
  have hw := fun d (hd : d ∈ tables_1) => atoms_spec (ws := Jvm.Cond.code x code maxLocals ret :: tables_1) hat d (List.mem_cons_of_mem _ hd)
  obtain ⟨i0, e0⟩ := is_v j0
  obtain rfl : w0 = (.int i0) := Option.some.inj e0
  obtain ⟨i1, e1⟩ := is_v j1
  obtain rfl : w1 = (.int i1) := Option.some.inj e1
  obtain ⟨i2, e2⟩ := is_v j2
  obtain rfl : w2 = (.int i2) := Option.some.inj e2
  obtain ⟨i3, e3⟩ := is_v j3
  obtain rfl : w3 = (.int i3) := Option.some.inj e3
  obtain ⟨n, o, h1, h2, h3, _, L, rfl, ⟨rfl, N⟩, hq⟩ := rm0 l s _ hw i0 i1 i2 i3 s.heap s.heap.size (Nat.le_refl _) tables_1 p e ha hc hk s m _ below hf ((Spec.applies_iff_loose hf).mp happ).1 ⟨rfl, State.Warmed39.refl s, rfl⟩ trivial
  refine ⟨n, _, h1, h2, h3, hpost _ _ _ _ _ _ ⟨Cond.after_iff.mpr rfl, Cond.after_iff.mpr (eq_i res_at (Term.int_eval (1)) rfl), trivial⟩ ⟨hq.1, hq.2.1, hq.2.2.1, (hq.2.2.2.sift fun y hy => Or.inr (N y hy)).mono (by decide) (by decide)⟩⟩
theorem main_1_1 : Claimed_1_1 := comes_1 fun _ _ _ _ _ _ h hF => ⟨h.1, hF⟩
theorem main_1_2 : Claimed_1_2 := comes_1 fun _ _ _ _ _ _ h hF => ⟨h.2.1, hF⟩
end Jvm.Pilot.@@N@@
namespace Jvm.Pilot.@@N@@
open Jvm Jvm.ClassFile Sem Op Lib Jvm.Free Jvm.Stand Jvm.Pilot.@@N@@.Jvm.D
/-! MADE BY PROGRAM (witnessworld.py) out of the Statement's table words and the real class files: 28 classes; the members and pool entries that the words name. The judged class is class 1, her method 1. -/
namespace start1
open Jvm.ClassFile
def u (s : String) : CpInfo := .utf8 (stringToUtf16 s)
/-- a pool by its gaps: so many unusable entries, then the entry; so many at the end -/
def gap : Nat → List CpInfo → List CpInfo
  | 0, r => r
  | n + 1, r => .unusable :: gap n r
def poolList (es : List (Nat × CpInfo)) (last : Nat) : List CpInfo := es.foldr (fun e r => gap e.1 (e.2 :: r)) (gap last [])
def pool (es : List (Nat × CpInfo)) (last : Nat) : Array CpInfo := ⟨poolList es last⟩
def fileOf (pool : Array CpInfo) (this : Nat) (attrs : Array Attribute := #[]) (ms : Array MethodInfo := #[]) (fl : Nat := 33) (sup : Nat := 0) (ifs : Array Nat := #[]) (fds : Array FieldInfo := #[]) : ClassFile where
  minorVersion := 0
  majorVersion := 65
  constantPool := pool
  accessFlags := fl
  thisClass := this
  superClass := sup
  interfaces := ifs
  fields := fds
  methods := ms
  attributes := attrs
def plain (name : String) (sup : Option ClassId) : Class where
  name := name
  kind := .ordinary
  loader := none
  accessFlags := 33
  super := sup
  interfaces := #[]
  cf := none
  fields := #[]
  methods := #[]
  instanceTypes := #[]
  staticTypes := #[]
  resolved := #[]
  callSites := []
  init := .initialized
  statics := none
  mirror := none

def pool0 : Array CpInfo := pool [(5, u "<init>"), (0, u "()V"), (1, .class_ 10), (1, u "java/lang/Object")] 113

def k0c0 : Code := { maxStack := 0, maxLocals := 1, code := object_method_1_code, exceptionTable := #[], attributes := #[] }
def k0m0 : Method := { name := "<init>", desc := "()V", sig := { parameters := [], returnType := none }, accessFlags := 1, code := some k0c0 }
/-- java/lang/Object -/
def k0 : Class := { plain "java/lang/Object" none with
  accessFlags := 33
  interfaces := #[]
  cf := some (fileOf pool0 8 #[] #[{ accessFlags := 1, nameIndex := 5, descriptorIndex := 6, attributes := #[] }] 33 0 #[] #[])
  fields := #[]
  methods := #[k0m0]
  instanceTypes := #[]
  staticTypes := #[]
  resolved := Array.replicate 124 none
  statics := none }

def pool1 : Array CpInfo := pool [(2, .class_ 4), (1, u "java/lang/Object"), (0, u "<init>"), (0, u "()V"), (0, .methodref 8 9), (0, .class_ 10), (0, .nameAndType 11 12), (0, u "com/example/sundskrift/sundskrift/core/xml/ReadOnlyParentFollowingPinLaw"), (0, u "place"), (0, u "([I[I[III)V"), (0, .class_ 14), (0, u "com/example/sundskrift/sundskrift/core/xml/ReadOnlyElement"), (0, .class_ 16), (0, u "com/example/sundskrift/sundskrift/core/xml/ReadOnlyText"), (0, .methodref 8 18), (0, .nameAndType 19 20), (0, u "make"), (0, u "([Lcom/example/sundskrift/sundskrift/core/xml/ReadOnlyElement;[Lcom/example/sundskrift/sundskrift/core/xml/ReadOnlyText;IZ)V"), (0, .methodref 8 22), (0, .nameAndType 23 24), (0, u "isText"), (0, u "([III)Z"), (0, .methodref 8 26), (0, .nameAndType 27 28), (0, u "attach"), (0, u "([Lcom/example/sundskrift/sundskrift/core/xml/ReadOnlyElement;[Lcom/example/sundskrift/sundskrift/core/xml/ReadOnlyText;[II)V"), (0, .integer 2147483647), (0, .methodref 8 31), (0, .nameAndType 32 33), (0, u "end"), (0, u "([II)I"), (0, .methodref 8 35), (0, .nameAndType 36 37), (0, u "node"), (0, u "([Lcom/example/sundskrift/sundskrift/core/xml/ReadOnlyElement;[Lcom/example/sundskrift/sundskrift/core/xml/ReadOnlyText;I)Ljava/lang/Object;"), (0, .methodref 13 39), (0, .nameAndType 40 41), (0, u "following"), (0, u "(Lcom/example/sundskrift/sundskrift/core/xml/ReadOnlyNode;)Lcom/example/sundskrift/sundskrift/core/xml/ReadOnlyNode;"), (0, .string 43), (0, u "t"), (0, .methodref 15 45), (0, .nameAndType 5 46), (0, u "(Lcom/example/sundskrift/sundskrift/core/xml/ReadOnlyDocument;Ljava/lang/String;Z)V"), (0, .string 48), (0, u "e"), (0, .class_ 50), (0, u "com/example/sundskrift/sundskrift/core/xml/ReadOnlyAttr"), (0, .methodref 13 52), (0, .nameAndType 5 53), (0, u "(Lcom/example/sundskrift/sundskrift/core/xml/ReadOnlyDocument;Ljava/lang/String;Ljava/lang/String;Ljava/lang/String;Ljava/lang/String;[Lcom/example/sundskrift/sundskrift/core/xml/ReadOnlyAttr;I)V"), (0, .methodref 13 55), (0, .nameAndType 56 57), (0, u "append"), (0, u "(Lcom/example/sundskrift/sundskrift/core/xml/ReadOnlyNode;)V"), (2, u "law"), (0, u "(IIII)Z")] 9

def k1m0 : Method := { name := "<init>", desc := "()V", sig := { parameters := [], returnType := none }, accessFlags := 1, code := none }
def k1c1 : Code := { maxStack := 6, maxLocals := 14, code := code, exceptionTable := #[], attributes := #[] }
def k1m1 : Method := { name := "law", desc := "(IIII)Z", sig := { parameters := [.int, .int, .int, .int], returnType := some .boolean }, accessFlags := 9, code := some k1c1 }
def k1c2 : Code := { maxStack := 5, maxLocals := 6, code := method_3_code, exceptionTable := #[], attributes := #[] }
def k1m2 : Method := { name := "place", desc := "([I[I[III)V", sig := { parameters := [(.array .int), (.array .int), (.array .int), .int, .int], returnType := none }, accessFlags := 10, code := some k1c2 }
def k1c3 : Code := { maxStack := 3, maxLocals := 4, code := method_4_code, exceptionTable := #[], attributes := #[] }
def k1m3 : Method := { name := "isText", desc := "([III)Z", sig := { parameters := [(.array .int), .int, .int], returnType := some .boolean }, accessFlags := 10, code := some k1c3 }
def k1c4 : Code := { maxStack := 11, maxLocals := 4, code := method_5_code, exceptionTable := #[], attributes := #[] }
def k1m4 : Method := { name := "make", desc := "([Lcom/example/sundskrift/sundskrift/core/xml/ReadOnlyElement;[Lcom/example/sundskrift/sundskrift/core/xml/ReadOnlyText;IZ)V", sig := { parameters := [(.array (.object "com/example/sundskrift/sundskrift/core/xml/ReadOnlyElement")), (.array (.object "com/example/sundskrift/sundskrift/core/xml/ReadOnlyText")), .int, .boolean], returnType := none }, accessFlags := 10, code := some k1c4 }
def k1c5 : Code := { maxStack := 3, maxLocals := 4, code := method_6_code, exceptionTable := #[], attributes := #[] }
def k1m5 : Method := { name := "attach", desc := "([Lcom/example/sundskrift/sundskrift/core/xml/ReadOnlyElement;[Lcom/example/sundskrift/sundskrift/core/xml/ReadOnlyText;[II)V", sig := { parameters := [(.array (.object "com/example/sundskrift/sundskrift/core/xml/ReadOnlyElement")), (.array (.object "com/example/sundskrift/sundskrift/core/xml/ReadOnlyText")), (.array .int), .int], returnType := none }, accessFlags := 10, code := some k1c5 }
def k1c6 : Code := { maxStack := 3, maxLocals := 3, code := method_7_code, exceptionTable := #[], attributes := #[] }
def k1m6 : Method := { name := "end", desc := "([II)I", sig := { parameters := [(.array .int), .int], returnType := some .int }, accessFlags := 10, code := some k1c6 }
def k1c7 : Code := { maxStack := 2, maxLocals := 3, code := method_8_code, exceptionTable := #[], attributes := #[] }
def k1m7 : Method := { name := "node", desc := "([Lcom/example/sundskrift/sundskrift/core/xml/ReadOnlyElement;[Lcom/example/sundskrift/sundskrift/core/xml/ReadOnlyText;I)Ljava/lang/Object;", sig := { parameters := [(.array (.object "com/example/sundskrift/sundskrift/core/xml/ReadOnlyElement")), (.array (.object "com/example/sundskrift/sundskrift/core/xml/ReadOnlyText")), .int], returnType := some (.object "java/lang/Object") }, accessFlags := 10, code := some k1c7 }
/-- com/example/sundskrift/sundskrift/core/xml/ReadOnlyParentFollowingPinLaw -/
def k1 : Class := { plain "com/example/sundskrift/sundskrift/core/xml/ReadOnlyParentFollowingPinLaw" (some 0) with
  accessFlags := 49
  interfaces := #[]
  cf := some (fileOf pool1 8 #[] #[{ accessFlags := 1, nameIndex := 5, descriptorIndex := 6, attributes := #[] }, { accessFlags := 9, nameIndex := 60, descriptorIndex := 61, attributes := #[] }, { accessFlags := 10, nameIndex := 11, descriptorIndex := 12, attributes := #[] }, { accessFlags := 10, nameIndex := 23, descriptorIndex := 24, attributes := #[] }, { accessFlags := 10, nameIndex := 19, descriptorIndex := 20, attributes := #[] }, { accessFlags := 10, nameIndex := 27, descriptorIndex := 28, attributes := #[] }, { accessFlags := 10, nameIndex := 32, descriptorIndex := 33, attributes := #[] }, { accessFlags := 10, nameIndex := 36, descriptorIndex := 37, attributes := #[] }] 49 2 #[] #[])
  fields := #[]
  methods := #[k1m0, k1m1, k1m2, k1m3, k1m4, k1m5, k1m6, k1m7]
  instanceTypes := #[]
  staticTypes := #[]
  resolved := Array.replicate 71 none
  statics := none }

def pool2 : Array CpInfo := pool [(1, u "org/w3c/dom/Node"), (0, .class_ 1), (0, u "java/lang/Object"), (0, .class_ 3)] 3

/-- org/w3c/dom/Node -/
def k2 : Class := { plain "org/w3c/dom/Node" (some 0) with
  accessFlags := 1537
  interfaces := #[]
  cf := some (fileOf pool2 2 #[] #[] 1537 4 #[] #[])
  fields := #[]
  methods := #[]
  instanceTypes := #[]
  staticTypes := #[]
  resolved := Array.replicate 8 none
  statics := none }

def pool3 : Array CpInfo := pool [(1, .methodref 2 3), (0, .class_ 4), (0, .nameAndType 5 6), (0, u "java/lang/Object"), (0, u "<init>"), (0, u "()V"), (0, .fieldref 8 9), (0, .class_ 10), (0, .nameAndType 11 12), (0, u "com/example/sundskrift/sundskrift/core/xml/ReadOnlyNode"), (0, u "owner"), (0, u "Lcom/example/sundskrift/sundskrift/core/xml/ReadOnlyDocument;"), (11, u "parent"), (0, u "Lcom/example/sundskrift/sundskrift/core/xml/ReadOnlyParent;"), (14, .class_ 42), (1, u "org/w3c/dom/Node"), (8, u "previous"), (0, u "Lcom/example/sundskrift/sundskrift/core/xml/ReadOnlyNode;"), (2, u "next"), (113, .class_ 170), (0, u "com/example/sundskrift/sundskrift/core/xml/ReadOnlyNode$1"), (3, u "NO_TYPE"), (0, u "Lorg/w3c/dom/TypeInfo;"), (0, u "(Lcom/example/sundskrift/sundskrift/core/xml/ReadOnlyDocument;)V")] 45

def k3c0 : Code := { maxStack := 2, maxLocals := 2, code := prog_162_method_1_code, exceptionTable := #[], attributes := #[] }
def k3m0 : Method := { name := "<init>", desc := "(Lcom/example/sundskrift/sundskrift/core/xml/ReadOnlyDocument;)V", sig := { parameters := [(.object "com/example/sundskrift/sundskrift/core/xml/ReadOnlyDocument")], returnType := none }, accessFlags := 0, code := some k3c0 }
/-- com/example/sundskrift/sundskrift/core/xml/ReadOnlyNode -/
def k3 : Class := { plain "com/example/sundskrift/sundskrift/core/xml/ReadOnlyNode" (some 0) with
  accessFlags := 1056
  interfaces := #[2]
  cf := some (fileOf pool3 8 #[.nestMembers #[169]] #[{ accessFlags := 0, nameIndex := 5, descriptorIndex := 176, attributes := #[] }] 1056 2 #[40] #[{ accessFlags := 24, nameIndex := 174, descriptorIndex := 175, attributes := #[] }, { accessFlags := 18, nameIndex := 11, descriptorIndex := 12, attributes := #[] }, { accessFlags := 0, nameIndex := 24, descriptorIndex := 25, attributes := #[] }, { accessFlags := 0, nameIndex := 51, descriptorIndex := 52, attributes := #[] }, { accessFlags := 0, nameIndex := 55, descriptorIndex := 52, attributes := #[] }])
  fields := #[{ name := "NO_TYPE", type := (.object "org/w3c/dom/TypeInfo"), accessFlags := 24, slot := 0, constantValue := 0 }, { name := "owner", type := (.object "com/example/sundskrift/sundskrift/core/xml/ReadOnlyDocument"), accessFlags := 18, slot := 0, constantValue := 0 }, { name := "parent", type := (.object "com/example/sundskrift/sundskrift/core/xml/ReadOnlyParent"), accessFlags := 0, slot := 1, constantValue := 0 }, { name := "previous", type := (.object "com/example/sundskrift/sundskrift/core/xml/ReadOnlyNode"), accessFlags := 0, slot := 2, constantValue := 0 }, { name := "next", type := (.object "com/example/sundskrift/sundskrift/core/xml/ReadOnlyNode"), accessFlags := 0, slot := 3, constantValue := 0 }]
  methods := #[k3m0]
  instanceTypes := #[(.object "com/example/sundskrift/sundskrift/core/xml/ReadOnlyDocument"), (.object "com/example/sundskrift/sundskrift/core/xml/ReadOnlyParent"), (.object "com/example/sundskrift/sundskrift/core/xml/ReadOnlyNode"), (.object "com/example/sundskrift/sundskrift/core/xml/ReadOnlyNode")]
  staticTypes := #[(.object "org/w3c/dom/TypeInfo")]
  resolved := Array.replicate 222 none
  statics := none }

def pool4 : Array CpInfo := pool [(1, .methodref 2 3), (0, .class_ 4), (0, .nameAndType 5 6), (0, u "com/example/sundskrift/sundskrift/core/xml/ReadOnlyNode"), (0, u "<init>"), (0, u "(Lcom/example/sundskrift/sundskrift/core/xml/ReadOnlyDocument;)V"), (0, .fieldref 2 8), (0, .nameAndType 9 10), (0, u "parent"), (0, u "Lcom/example/sundskrift/sundskrift/core/xml/ReadOnlyParent;"), (0, .fieldref 12 13), (0, .class_ 14), (0, .nameAndType 15 16), (0, u "com/example/sundskrift/sundskrift/core/xml/ReadOnlyParent"), (0, u "last"), (0, u "Lcom/example/sundskrift/sundskrift/core/xml/ReadOnlyNode;"), (0, .fieldref 2 18), (0, .nameAndType 19 16), (0, u "previous"), (0, .fieldref 12 21), (0, .nameAndType 22 16), (0, u "first"), (0, .fieldref 2 24), (0, .nameAndType 25 16), (0, u "next"), (39, u "following"), (0, u "(Lcom/example/sundskrift/sundskrift/core/xml/ReadOnlyNode;)Lcom/example/sundskrift/sundskrift/core/xml/ReadOnlyNode;"), (17, u "append"), (0, u "(Lcom/example/sundskrift/sundskrift/core/xml/ReadOnlyNode;)V")] 13

def k4c0 : Code := { maxStack := 2, maxLocals := 2, code := prog_167_method_1_code, exceptionTable := #[], attributes := #[] }
def k4m0 : Method := { name := "<init>", desc := "(Lcom/example/sundskrift/sundskrift/core/xml/ReadOnlyDocument;)V", sig := { parameters := [(.object "com/example/sundskrift/sundskrift/core/xml/ReadOnlyDocument")], returnType := none }, accessFlags := 0, code := some k4c0 }
def k4c1 : Code := { maxStack := 2, maxLocals := 2, code := prog_167_method_2_code, exceptionTable := #[], attributes := #[] }
def k4m1 : Method := { name := "append", desc := "(Lcom/example/sundskrift/sundskrift/core/xml/ReadOnlyNode;)V", sig := { parameters := [(.object "com/example/sundskrift/sundskrift/core/xml/ReadOnlyNode")], returnType := none }, accessFlags := 16, code := some k4c1 }
def k4c2 : Code := { maxStack := 2, maxLocals := 3, code := prog_167_method_12_code, exceptionTable := #[], attributes := #[] }
def k4m2 : Method := { name := "following", desc := "(Lcom/example/sundskrift/sundskrift/core/xml/ReadOnlyNode;)Lcom/example/sundskrift/sundskrift/core/xml/ReadOnlyNode;", sig := { parameters := [(.object "com/example/sundskrift/sundskrift/core/xml/ReadOnlyNode")], returnType := some (.object "com/example/sundskrift/sundskrift/core/xml/ReadOnlyNode") }, accessFlags := 16, code := some k4c2 }
/-- com/example/sundskrift/sundskrift/core/xml/ReadOnlyParent -/
def k4 : Class := { plain "com/example/sundskrift/sundskrift/core/xml/ReadOnlyParent" (some 3) with
  accessFlags := 1056
  interfaces := #[]
  cf := some (fileOf pool4 12 #[] #[{ accessFlags := 0, nameIndex := 5, descriptorIndex := 6, attributes := #[] }, { accessFlags := 16, nameIndex := 84, descriptorIndex := 85, attributes := #[] }, { accessFlags := 16, nameIndex := 65, descriptorIndex := 66, attributes := #[] }] 1056 2 #[] #[{ accessFlags := 0, nameIndex := 22, descriptorIndex := 16, attributes := #[] }, { accessFlags := 0, nameIndex := 15, descriptorIndex := 16, attributes := #[] }])
  fields := #[{ name := "first", type := (.object "com/example/sundskrift/sundskrift/core/xml/ReadOnlyNode"), accessFlags := 0, slot := 4, constantValue := 0 }, { name := "last", type := (.object "com/example/sundskrift/sundskrift/core/xml/ReadOnlyNode"), accessFlags := 0, slot := 5, constantValue := 0 }]
  methods := #[k4m0, k4m1, k4m2]
  instanceTypes := #[(.object "com/example/sundskrift/sundskrift/core/xml/ReadOnlyDocument"), (.object "com/example/sundskrift/sundskrift/core/xml/ReadOnlyParent"), (.object "com/example/sundskrift/sundskrift/core/xml/ReadOnlyNode"), (.object "com/example/sundskrift/sundskrift/core/xml/ReadOnlyNode"), (.object "com/example/sundskrift/sundskrift/core/xml/ReadOnlyNode"), (.object "com/example/sundskrift/sundskrift/core/xml/ReadOnlyNode")]
  staticTypes := #[]
  resolved := Array.replicate 99 none
  statics := none }

def pool5 : Array CpInfo := pool [(1, .methodref 2 3), (0, .class_ 4), (0, .nameAndType 5 6), (0, u "com/example/sundskrift/sundskrift/core/xml/ReadOnlyParent"), (0, u "<init>"), (0, u "(Lcom/example/sundskrift/sundskrift/core/xml/ReadOnlyDocument;)V"), (0, .fieldref 8 9), (0, .class_ 10), (0, .nameAndType 11 12), (0, u "com/example/sundskrift/sundskrift/core/xml/ReadOnlyNamed"), (0, u "name"), (0, u "Ljava/lang/String;"), (0, .fieldref 8 14), (0, .nameAndType 15 12), (0, u "prefix"), (0, .fieldref 8 17), (0, .nameAndType 18 12), (0, u "localName"), (0, .fieldref 8 20), (0, .nameAndType 21 12), (0, u "namespace"), (4, u "(Lcom/example/sundskrift/sundskrift/core/xml/ReadOnlyDocument;Ljava/lang/String;Ljava/lang/String;Ljava/lang/String;Ljava/lang/String;)V")] 11

def k5c0 : Code := { maxStack := 2, maxLocals := 6, code := prog_161_method_1_code, exceptionTable := #[], attributes := #[] }
def k5m0 : Method := { name := "<init>", desc := "(Lcom/example/sundskrift/sundskrift/core/xml/ReadOnlyDocument;Ljava/lang/String;Ljava/lang/String;Ljava/lang/String;Ljava/lang/String;)V", sig := { parameters := [(.object "com/example/sundskrift/sundskrift/core/xml/ReadOnlyDocument"), (.object "java/lang/String"), (.object "java/lang/String"), (.object "java/lang/String"), (.object "java/lang/String")], returnType := none }, accessFlags := 0, code := some k5c0 }
/-- com/example/sundskrift/sundskrift/core/xml/ReadOnlyNamed -/
def k5 : Class := { plain "com/example/sundskrift/sundskrift/core/xml/ReadOnlyNamed" (some 4) with
  accessFlags := 1056
  interfaces := #[]
  cf := some (fileOf pool5 8 #[] #[{ accessFlags := 0, nameIndex := 5, descriptorIndex := 26, attributes := #[] }] 1056 2 #[] #[{ accessFlags := 18, nameIndex := 11, descriptorIndex := 12, attributes := #[] }, { accessFlags := 18, nameIndex := 15, descriptorIndex := 12, attributes := #[] }, { accessFlags := 18, nameIndex := 18, descriptorIndex := 12, attributes := #[] }, { accessFlags := 18, nameIndex := 21, descriptorIndex := 12, attributes := #[] }])
  fields := #[{ name := "name", type := (.object "java/lang/String"), accessFlags := 18, slot := 6, constantValue := 0 }, { name := "prefix", type := (.object "java/lang/String"), accessFlags := 18, slot := 7, constantValue := 0 }, { name := "localName", type := (.object "java/lang/String"), accessFlags := 18, slot := 8, constantValue := 0 }, { name := "namespace", type := (.object "java/lang/String"), accessFlags := 18, slot := 9, constantValue := 0 }]
  methods := #[k5m0]
  instanceTypes := #[(.object "com/example/sundskrift/sundskrift/core/xml/ReadOnlyDocument"), (.object "com/example/sundskrift/sundskrift/core/xml/ReadOnlyParent"), (.object "com/example/sundskrift/sundskrift/core/xml/ReadOnlyNode"), (.object "com/example/sundskrift/sundskrift/core/xml/ReadOnlyNode"), (.object "com/example/sundskrift/sundskrift/core/xml/ReadOnlyNode"), (.object "com/example/sundskrift/sundskrift/core/xml/ReadOnlyNode"), (.object "java/lang/String"), (.object "java/lang/String"), (.object "java/lang/String"), (.object "java/lang/String")]
  staticTypes := #[]
  resolved := Array.replicate 38 none
  statics := none }

def pool6 : Array CpInfo := pool [(1, u "org/w3c/dom/Element"), (0, .class_ 1), (0, u "java/lang/Object"), (0, .class_ 3)] 3

/-- org/w3c/dom/Element -/
def k6 : Class := { plain "org/w3c/dom/Element" (some 0) with
  accessFlags := 1537
  interfaces := #[]
  cf := some (fileOf pool6 2 #[] #[] 1537 4 #[] #[])
  fields := #[]
  methods := #[]
  instanceTypes := #[]
  staticTypes := #[]
  resolved := Array.replicate 8 none
  statics := none }

def pool7 : Array CpInfo := pool [(3, .methodref 4 5), (0, .class_ 6), (0, .nameAndType 7 8), (0, u "com/example/sundskrift/sundskrift/core/xml/ReadOnlyNamed"), (0, u "<init>"), (0, u "(Lcom/example/sundskrift/sundskrift/core/xml/ReadOnlyDocument;Ljava/lang/String;Ljava/lang/String;Ljava/lang/String;Ljava/lang/String;)V"), (0, .fieldref 10 11), (0, .class_ 12), (0, .nameAndType 13 14), (0, u "com/example/sundskrift/sundskrift/core/xml/ReadOnlyElement"), (0, u "attributes"), (0, u "[Lcom/example/sundskrift/sundskrift/core/xml/ReadOnlyAttr;"), (6, .fieldref 10 22), (0, .nameAndType 23 24), (0, u "startTagEnd"), (0, u "I"), (0, .fieldref 10 26), (0, .nameAndType 27 24), (0, u "endTagEnd"), (8, u "map"), (0, u "Lcom/example/sundskrift/sundskrift/core/xml/ReadOnlyAttributes;"), (110, .class_ 149), (0, u "org/w3c/dom/Element"), (0, u "XMLNS"), (0, u "Ljava/lang/String;"), (1, u "(Lcom/example/sundskrift/sundskrift/core/xml/ReadOnlyDocument;Ljava/lang/String;Ljava/lang/String;Ljava/lang/String;Ljava/lang/String;[Lcom/example/sundskrift/sundskrift/core/xml/ReadOnlyAttr;I)V")] 71

def k7c0 : Code := { maxStack := 6, maxLocals := 12, code := prog_159_method_1_code, exceptionTable := #[], attributes := #[] }
def k7m0 : Method := { name := "<init>", desc := "(Lcom/example/sundskrift/sundskrift/core/xml/ReadOnlyDocument;Ljava/lang/String;Ljava/lang/String;Ljava/lang/String;Ljava/lang/String;[Lcom/example/sundskrift/sundskrift/core/xml/ReadOnlyAttr;I)V", sig := { parameters := [(.object "com/example/sundskrift/sundskrift/core/xml/ReadOnlyDocument"), (.object "java/lang/String"), (.object "java/lang/String"), (.object "java/lang/String"), (.object "java/lang/String"), (.array (.object "com/example/sundskrift/sundskrift/core/xml/ReadOnlyAttr")), .int], returnType := none }, accessFlags := 0, code := some k7c0 }
/-- com/example/sundskrift/sundskrift/core/xml/ReadOnlyElement -/
def k7 : Class := { plain "com/example/sundskrift/sundskrift/core/xml/ReadOnlyElement" (some 5) with
  accessFlags := 48
  interfaces := #[6]
  cf := some (fileOf pool7 10 #[] #[{ accessFlags := 0, nameIndex := 7, descriptorIndex := 153, attributes := #[] }] 48 4 #[148] #[{ accessFlags := 26, nameIndex := 150, descriptorIndex := 151, attributes := #[] }, { accessFlags := 18, nameIndex := 13, descriptorIndex := 14, attributes := #[] }, { accessFlags := 2, nameIndex := 36, descriptorIndex := 37, attributes := #[] }, { accessFlags := 18, nameIndex := 23, descriptorIndex := 24, attributes := #[] }, { accessFlags := 2, nameIndex := 27, descriptorIndex := 24, attributes := #[] }])
  fields := #[{ name := "XMLNS", type := (.object "java/lang/String"), accessFlags := 26, slot := 0, constantValue := 0 }, { name := "attributes", type := (.array (.object "com/example/sundskrift/sundskrift/core/xml/ReadOnlyAttr")), accessFlags := 18, slot := 10, constantValue := 0 }, { name := "map", type := (.object "com/example/sundskrift/sundskrift/core/xml/ReadOnlyAttributes"), accessFlags := 2, slot := 11, constantValue := 0 }, { name := "startTagEnd", type := .int, accessFlags := 18, slot := 12, constantValue := 0 }, { name := "endTagEnd", type := .int, accessFlags := 2, slot := 13, constantValue := 0 }]
  methods := #[k7m0]
  instanceTypes := #[(.object "com/example/sundskrift/sundskrift/core/xml/ReadOnlyDocument"), (.object "com/example/sundskrift/sundskrift/core/xml/ReadOnlyParent"), (.object "com/example/sundskrift/sundskrift/core/xml/ReadOnlyNode"), (.object "com/example/sundskrift/sundskrift/core/xml/ReadOnlyNode"), (.object "com/example/sundskrift/sundskrift/core/xml/ReadOnlyNode"), (.object "com/example/sundskrift/sundskrift/core/xml/ReadOnlyNode"), (.object "java/lang/String"), (.object "java/lang/String"), (.object "java/lang/String"), (.object "java/lang/String"), (.array (.object "com/example/sundskrift/sundskrift/core/xml/ReadOnlyAttr")), (.object "com/example/sundskrift/sundskrift/core/xml/ReadOnlyAttributes"), .int, .int]
  staticTypes := #[(.object "java/lang/String")]
  resolved := Array.replicate 225 none
  statics := none }

def pool8 : Array CpInfo := pool [(1, u "org/w3c/dom/CharacterData"), (0, .class_ 1), (0, u "java/lang/Object"), (0, .class_ 3)] 3

/-- org/w3c/dom/CharacterData -/
def k8 : Class := { plain "org/w3c/dom/CharacterData" (some 0) with
  accessFlags := 1537
  interfaces := #[]
  cf := some (fileOf pool8 2 #[] #[] 1537 4 #[] #[])
  fields := #[]
  methods := #[]
  instanceTypes := #[]
  staticTypes := #[]
  resolved := Array.replicate 8 none
  statics := none }

def pool9 : Array CpInfo := pool [(1, .methodref 2 3), (0, .class_ 4), (0, .nameAndType 5 6), (0, u "com/example/sundskrift/sundskrift/core/xml/ReadOnlyNode"), (0, u "<init>"), (0, u "(Lcom/example/sundskrift/sundskrift/core/xml/ReadOnlyDocument;)V"), (0, .fieldref 8 9), (0, .class_ 10), (0, .nameAndType 11 12), (0, u "com/example/sundskrift/sundskrift/core/xml/ReadOnlyCharacterData"), (0, u "data"), (0, u "Ljava/lang/String;"), (29, .class_ 43), (0, u "org/w3c/dom/CharacterData"), (0, u "(Lcom/example/sundskrift/sundskrift/core/xml/ReadOnlyDocument;Ljava/lang/String;)V")] 35

def k9c0 : Code := { maxStack := 2, maxLocals := 3, code := prog_156_method_1_code, exceptionTable := #[], attributes := #[] }
def k9m0 : Method := { name := "<init>", desc := "(Lcom/example/sundskrift/sundskrift/core/xml/ReadOnlyDocument;Ljava/lang/String;)V", sig := { parameters := [(.object "com/example/sundskrift/sundskrift/core/xml/ReadOnlyDocument"), (.object "java/lang/String")], returnType := none }, accessFlags := 0, code := some k9c0 }
/-- com/example/sundskrift/sundskrift/core/xml/ReadOnlyCharacterData -/
def k9 : Class := { plain "com/example/sundskrift/sundskrift/core/xml/ReadOnlyCharacterData" (some 3) with
  accessFlags := 1056
  interfaces := #[8]
  cf := some (fileOf pool9 8 #[] #[{ accessFlags := 0, nameIndex := 5, descriptorIndex := 44, attributes := #[] }] 1056 2 #[42] #[{ accessFlags := 18, nameIndex := 11, descriptorIndex := 12, attributes := #[] }])
  fields := #[{ name := "data", type := (.object "java/lang/String"), accessFlags := 18, slot := 4, constantValue := 0 }]
  methods := #[k9m0]
  instanceTypes := #[(.object "com/example/sundskrift/sundskrift/core/xml/ReadOnlyDocument"), (.object "com/example/sundskrift/sundskrift/core/xml/ReadOnlyParent"), (.object "com/example/sundskrift/sundskrift/core/xml/ReadOnlyNode"), (.object "com/example/sundskrift/sundskrift/core/xml/ReadOnlyNode"), (.object "java/lang/String")]
  staticTypes := #[]
  resolved := Array.replicate 80 none
  statics := none }

def pool10 : Array CpInfo := pool [(1, u "org/w3c/dom/Text"), (0, .class_ 1), (0, u "java/lang/Object"), (0, .class_ 3)] 3

/-- org/w3c/dom/Text -/
def k10 : Class := { plain "org/w3c/dom/Text" (some 0) with
  accessFlags := 1537
  interfaces := #[]
  cf := some (fileOf pool10 2 #[] #[] 1537 4 #[] #[])
  fields := #[]
  methods := #[]
  instanceTypes := #[]
  staticTypes := #[]
  resolved := Array.replicate 8 none
  statics := none }

def pool11 : Array CpInfo := pool [(1, .methodref 2 3), (0, .class_ 4), (0, .nameAndType 5 6), (0, u "com/example/sundskrift/sundskrift/core/xml/ReadOnlyCharacterData"), (0, u "<init>"), (0, u "(Lcom/example/sundskrift/sundskrift/core/xml/ReadOnlyDocument;Ljava/lang/String;)V"), (0, .fieldref 8 9), (0, .class_ 10), (0, .nameAndType 11 12), (0, u "com/example/sundskrift/sundskrift/core/xml/ReadOnlyText"), (0, u "blank"), (0, u "Z"), (33, .class_ 47), (0, u "org/w3c/dom/Text"), (0, u "(Lcom/example/sundskrift/sundskrift/core/xml/ReadOnlyDocument;Ljava/lang/String;Z)V")] 16

def k11c0 : Code := { maxStack := 3, maxLocals := 4, code := prog_169_method_1_code, exceptionTable := #[], attributes := #[] }
def k11m0 : Method := { name := "<init>", desc := "(Lcom/example/sundskrift/sundskrift/core/xml/ReadOnlyDocument;Ljava/lang/String;Z)V", sig := { parameters := [(.object "com/example/sundskrift/sundskrift/core/xml/ReadOnlyDocument"), (.object "java/lang/String"), .boolean], returnType := none }, accessFlags := 0, code := some k11c0 }
/-- com/example/sundskrift/sundskrift/core/xml/ReadOnlyText -/
def k11 : Class := { plain "com/example/sundskrift/sundskrift/core/xml/ReadOnlyText" (some 9) with
  accessFlags := 32
  interfaces := #[10]
  cf := some (fileOf pool11 8 #[] #[{ accessFlags := 0, nameIndex := 5, descriptorIndex := 48, attributes := #[] }] 32 2 #[46] #[{ accessFlags := 18, nameIndex := 11, descriptorIndex := 12, attributes := #[] }])
  fields := #[{ name := "blank", type := .boolean, accessFlags := 18, slot := 5, constantValue := 0 }]
  methods := #[k11m0]
  instanceTypes := #[(.object "com/example/sundskrift/sundskrift/core/xml/ReadOnlyDocument"), (.object "com/example/sundskrift/sundskrift/core/xml/ReadOnlyParent"), (.object "com/example/sundskrift/sundskrift/core/xml/ReadOnlyNode"), (.object "com/example/sundskrift/sundskrift/core/xml/ReadOnlyNode"), (.object "java/lang/String"), .boolean]
  staticTypes := #[]
  resolved := Array.replicate 65 none
  statics := none }

def pool12 : Array CpInfo := pool [(1, .class_ 2), (0, u "java/io/Serializable"), (0, .class_ 4), (0, u "java/lang/Object")] 2

/-- java/io/Serializable -/
def k12 : Class := { plain "java/io/Serializable" (some 0) with
  accessFlags := 1537
  interfaces := #[]
  cf := some (fileOf pool12 1 #[] #[] 1537 3 #[] #[])
  fields := #[]
  methods := #[]
  instanceTypes := #[]
  staticTypes := #[]
  resolved := Array.replicate 7 none
  statics := none }

def pool13 : Array CpInfo := pool [(1, .class_ 2), (0, u "java/lang/Comparable"), (0, .class_ 4), (0, u "java/lang/Object")] 7

/-- java/lang/Comparable -/
def k13 : Class := { plain "java/lang/Comparable" (some 0) with
  accessFlags := 1537
  interfaces := #[]
  cf := some (fileOf pool13 1 #[] #[] 1537 3 #[] #[])
  fields := #[]
  methods := #[]
  instanceTypes := #[]
  staticTypes := #[]
  resolved := Array.replicate 12 none
  statics := none }

def pool14 : Array CpInfo := pool [(2, .class_ 4), (1, u "java/lang/CharSequence"), (42, .class_ 48), (0, u "java/lang/CharSequence$1CodePointIterator"), (10, .class_ 60), (0, u "java/lang/CharSequence$1CharIterator"), (5, .class_ 67), (0, u "java/lang/Object")] 63

/-- java/lang/CharSequence -/
def k14 : Class := { plain "java/lang/CharSequence" (some 0) with
  accessFlags := 1537
  interfaces := #[]
  cf := some (fileOf pool14 2 #[.nestMembers #[47, 59]] #[] 1537 66 #[] #[])
  fields := #[]
  methods := #[]
  instanceTypes := #[]
  staticTypes := #[]
  resolved := Array.replicate 131 none
  statics := none }

def pool15 : Array CpInfo := pool [(1, .class_ 2), (0, u "java/lang/constant/Constable"), (0, .class_ 4), (0, u "java/lang/Object")] 6

/-- java/lang/constant/Constable -/
def k15 : Class := { plain "java/lang/constant/Constable" (some 0) with
  accessFlags := 1537
  interfaces := #[]
  cf := some (fileOf pool15 1 #[] #[] 1537 3 #[] #[])
  fields := #[]
  methods := #[]
  instanceTypes := #[]
  staticTypes := #[]
  resolved := Array.replicate 11 none
  statics := none }

def pool16 : Array CpInfo := pool [(1, .class_ 2), (0, u "java/lang/constant/ConstantDesc"), (0, .class_ 4), (0, u "java/lang/Object")] 32

/-- java/lang/constant/ConstantDesc -/
def k16 : Class := { plain "java/lang/constant/ConstantDesc" (some 0) with
  accessFlags := 1537
  interfaces := #[]
  cf := some (fileOf pool16 1 #[] #[] 1537 3 #[] #[])
  fields := #[]
  methods := #[]
  instanceTypes := #[]
  staticTypes := #[]
  resolved := Array.replicate 37 none
  statics := none }

def pool17 : Array CpInfo := pool [(2, .class_ 4), (1, u "java/lang/Object"), (0, u "<init>"), (0, u "()V"), (3, .class_ 12), (1, u "java/lang/String"), (0, u "value"), (0, u "[B"), (2, u "coder"), (0, u "B"), (2, u "hash"), (0, u "I"), (2, u "hashIsZero"), (0, u "Z"), (13, u "COMPACT_STRINGS"), (534, .class_ 576), (0, u "java/lang/CharSequence"), (22, u "CASE_INSENSITIVE_ORDER"), (0, u "Ljava/util/Comparator;"), (500, u "serialPersistentFields"), (0, u "[Ljava/io/ObjectStreamField;"), (0, .class_ 1104), (0, u "java/lang/String$CaseInsensitiveComparator"), (1, .class_ 1107), (0, u "java/io/Serializable"), (0, .class_ 1109), (0, u "java/lang/Comparable"), (0, .class_ 1111), (0, u "java/lang/constant/Constable"), (0, .class_ 1113), (0, u "java/lang/constant/ConstantDesc"), (2, u "serialVersionUID"), (0, u "J"), (3, u "REPL"), (0, u "C"), (2, u "LATIN1"), (1, u "UTF16")] 323

def k17m0 : Method := { name := "<init>", desc := "()V", sig := { parameters := [], returnType := none }, accessFlags := 1, code := none }
/-- java/lang/String -/
def k17 : Class := { plain "java/lang/String" (some 0) with
  accessFlags := 49
  interfaces := #[12, 13, 14, 15, 16]
  cf := some (fileOf pool17 10 #[.nestMembers #[1103]] #[{ accessFlags := 1, nameIndex := 5, descriptorIndex := 6, attributes := #[] }] 49 2 #[1106, 1108, 575, 1110, 1112] #[{ accessFlags := 18, nameIndex := 13, descriptorIndex := 14, attributes := #[] }, { accessFlags := 18, nameIndex := 17, descriptorIndex := 18, attributes := #[] }, { accessFlags := 2, nameIndex := 21, descriptorIndex := 22, attributes := #[] }, { accessFlags := 2, nameIndex := 25, descriptorIndex := 26, attributes := #[] }, { accessFlags := 26, nameIndex := 1116, descriptorIndex := 1117, attributes := #[] }, { accessFlags := 24, nameIndex := 40, descriptorIndex := 26, attributes := #[] }, { accessFlags := 26, nameIndex := 1101, descriptorIndex := 1102, attributes := #[] }, { accessFlags := 26, nameIndex := 1121, descriptorIndex := 1122, attributes := #[] }, { accessFlags := 25, nameIndex := 599, descriptorIndex := 600, attributes := #[] }, { accessFlags := 24, nameIndex := 1125, descriptorIndex := 18, attributes := #[] }, { accessFlags := 24, nameIndex := 1127, descriptorIndex := 18, attributes := #[] }])
  fields := #[{ name := "value", type := (.array .byte), accessFlags := 18, slot := 0, constantValue := 0 }, { name := "coder", type := .byte, accessFlags := 18, slot := 1, constantValue := 0 }, { name := "hash", type := .int, accessFlags := 2, slot := 2, constantValue := 0 }, { name := "hashIsZero", type := .boolean, accessFlags := 2, slot := 3, constantValue := 0 }, { name := "serialVersionUID", type := .long, accessFlags := 26, slot := 0, constantValue := 0 }, { name := "COMPACT_STRINGS", type := .boolean, accessFlags := 24, slot := 1, constantValue := 0 }, { name := "serialPersistentFields", type := (.array (.object "java/io/ObjectStreamField")), accessFlags := 26, slot := 2, constantValue := 0 }, { name := "REPL", type := .char, accessFlags := 26, slot := 3, constantValue := 0 }, { name := "CASE_INSENSITIVE_ORDER", type := (.object "java/util/Comparator"), accessFlags := 25, slot := 4, constantValue := 0 }, { name := "LATIN1", type := .byte, accessFlags := 24, slot := 5, constantValue := 0 }, { name := "UTF16", type := .byte, accessFlags := 24, slot := 6, constantValue := 0 }]
  methods := #[k17m0]
  instanceTypes := #[(.array .byte), .byte, .int, .boolean]
  staticTypes := #[.long, .boolean, (.array (.object "java/io/ObjectStreamField")), .char, (.object "java/util/Comparator"), .byte, .byte]
  resolved := Array.replicate 1451 none
  statics := none }

def pool18 : Array CpInfo := pool [(1, u "org/w3c/dom/Attr"), (0, .class_ 1), (0, u "java/lang/Object"), (0, .class_ 3)] 3

/-- org/w3c/dom/Attr -/
def k18 : Class := { plain "org/w3c/dom/Attr" (some 0) with
  accessFlags := 1537
  interfaces := #[]
  cf := some (fileOf pool18 2 #[] #[] 1537 4 #[] #[])
  fields := #[]
  methods := #[]
  instanceTypes := #[]
  staticTypes := #[]
  resolved := Array.replicate 8 none
  statics := none }

def pool19 : Array CpInfo := pool [(2, .class_ 4), (1, u "com/example/sundskrift/sundskrift/core/xml/ReadOnlyNamed"), (3, .class_ 10), (1, u "com/example/sundskrift/sundskrift/core/xml/ReadOnlyAttr"), (0, u "value"), (0, u "Ljava/lang/String;"), (2, u "place"), (0, u "I"), (2, u "owner"), (0, u "Lcom/example/sundskrift/sundskrift/core/xml/ReadOnlyElement;"), (41, .class_ 63), (0, u "org/w3c/dom/Attr")] 26

/-- com/example/sundskrift/sundskrift/core/xml/ReadOnlyAttr -/
def k19 : Class := { plain "com/example/sundskrift/sundskrift/core/xml/ReadOnlyAttr" (some 5) with
  accessFlags := 48
  interfaces := #[18]
  cf := some (fileOf pool19 8 #[] #[] 48 2 #[62] #[{ accessFlags := 18, nameIndex := 11, descriptorIndex := 12, attributes := #[] }, { accessFlags := 18, nameIndex := 15, descriptorIndex := 16, attributes := #[] }, { accessFlags := 0, nameIndex := 19, descriptorIndex := 20, attributes := #[] }])
  fields := #[{ name := "value", type := (.object "java/lang/String"), accessFlags := 18, slot := 10, constantValue := 0 }, { name := "place", type := .int, accessFlags := 18, slot := 11, constantValue := 0 }, { name := "owner", type := (.object "com/example/sundskrift/sundskrift/core/xml/ReadOnlyElement"), accessFlags := 0, slot := 12, constantValue := 0 }]
  methods := #[]
  instanceTypes := #[(.object "com/example/sundskrift/sundskrift/core/xml/ReadOnlyDocument"), (.object "com/example/sundskrift/sundskrift/core/xml/ReadOnlyParent"), (.object "com/example/sundskrift/sundskrift/core/xml/ReadOnlyNode"), (.object "com/example/sundskrift/sundskrift/core/xml/ReadOnlyNode"), (.object "com/example/sundskrift/sundskrift/core/xml/ReadOnlyNode"), (.object "com/example/sundskrift/sundskrift/core/xml/ReadOnlyNode"), (.object "java/lang/String"), (.object "java/lang/String"), (.object "java/lang/String"), (.object "java/lang/String"), (.object "java/lang/String"), .int, (.object "com/example/sundskrift/sundskrift/core/xml/ReadOnlyElement")]
  staticTypes := #[]
  resolved := Array.replicate 90 none
  statics := none }

def pool20 : Array CpInfo := pool [(1, u "java/lang/Cloneable"), (0, .class_ 1), (0, u "java/lang/Object"), (0, .class_ 3)] 3

/-- java/lang/Cloneable -/
def k20 : Class := { plain "java/lang/Cloneable" (some 0) with
  accessFlags := 1537
  interfaces := #[]
  cf := some (fileOf pool20 2 #[] #[] 1537 4 #[] #[])
  fields := #[]
  methods := #[]
  instanceTypes := #[]
  staticTypes := #[]
  resolved := Array.replicate 8 none
  statics := none }

/-- the primitive byte -/
def k21 : Class := { plain "byte" none with kind := .primitive 'B', accessFlags := 0x411 }
/-- [B -/
def k22 : Class := { plain "[B" (some 0) with kind := .array 21 .byte, interfaces := #[20, 12], accessFlags := 1041 }

/-- the primitive int -/
def k23 : Class := { plain "int" none with kind := .primitive 'I', accessFlags := 0x411 }
/-- [I -/
def k24 : Class := { plain "[I" (some 0) with kind := .array 23 .int, interfaces := #[20, 12], accessFlags := 1041 }

/-- [Lcom/example/sundskrift/sundskrift/core/xml/ReadOnlyAttr; -/
def k25 : Class := { plain "[Lcom/example/sundskrift/sundskrift/core/xml/ReadOnlyAttr;" (some 0) with kind := .array 19 (.object "com/example/sundskrift/sundskrift/core/xml/ReadOnlyAttr"), interfaces := #[20, 12], accessFlags := 1041 }

/-- [Lcom/example/sundskrift/sundskrift/core/xml/ReadOnlyElement; -/
def k26 : Class := { plain "[Lcom/example/sundskrift/sundskrift/core/xml/ReadOnlyElement;" (some 0) with kind := .array 7 (.object "com/example/sundskrift/sundskrift/core/xml/ReadOnlyElement"), interfaces := #[20, 12], accessFlags := 1041 }

/-- [Lcom/example/sundskrift/sundskrift/core/xml/ReadOnlyText; -/
def k27 : Class := { plain "[Lcom/example/sundskrift/sundskrift/core/xml/ReadOnlyText;" (some 0) with kind := .array 11 (.object "com/example/sundskrift/sundskrift/core/xml/ReadOnlyText"), interfaces := #[20, 12], accessFlags := 1041 }

def heap : Heap := #[]
def classes : Array Class := #[k0, k1, k2, k3, k4, k5, k6, k7, k8, k9, k10, k11, k12, k13, k14, k15, k16, k17, k18, k19, k20, k21, k22, k23, k24, k25, k26, k27]
def interned : List (Array UInt16 × Addr) := []
def slotsUsed : Nat := 0
def theMethod : MethodId := ⟨1, 1⟩
def args0 : Array Value := #[.int 5, .int 7, .int 1, .int 3]
def aboutOver (below : List Frame) : State where
  vm := { classes := classes, interned := interned.toArray }
  heap := heap
  slotsUsed := slotsUsed
  threads := #[{ frames := .invoking theMethod args0 :: below }]
def below0 : List Frame := [.native { method := ⟨0, 0⟩, args := #[] }]
def about1 : State := aboutOver below0
def p0 : Program := .bare "" "" ""
def e0 : Env := launch0.env 0 0 0
theorem w_frames : about1.frames = Frame.invoking theMethod args0 :: below0 := rfl
set_option maxRecDepth 65536 in
theorem w_args : argsFit about1.vm theMethod args0 = true := by decide +kernel
set_option maxRecDepth 65536 in
theorem w_heap : heapFits about1 = true := by decide +kernel
set_option maxRecDepth 65536 in
theorem w_runnable : about1.curStatus? = some .runnable := by decide +kernel
set_option maxRecDepth 65536 in
theorem w_alone : about1.alone = true := by decide +kernel
set_option maxRecDepth 65536 in
theorem w_named : about1.methodNamed? x = some theMethod := by decide +kernel
set_option maxRecDepth 65536 in
theorem w_hears : about1.hears theMethod below0 = true := by decide +kernel
set_option maxRecDepth 65536 in
theorem w_ripe : about1.ripe theMethod args0 below0 = true := by decide +kernel
theorem w_running : about1.status = .running := rfl
set_option maxRecDepth 65536 in
theorem w_room : about1.hasRoom e0.platform room_1 = true :=
  launch0.hasRoom_least _ room_1 (by decide +kernel) (by decide +kernel) (by decide +kernel) (by decide +kernel) (by decide +kernel) (by decide +kernel)
theorem allAtoms_all (ts : List Jvm.Cond) (a : Array Jvm.Value) (st : Jvm.State) : (allAtoms ts).before a st = ts.all (fun c => c.before a st) := by
  induction ts with
  | nil => rfl
  | cons c t ih =>
    show (Jvm.Cond.and c (allAtoms t)).before a st = _
    rw [Jvm.Cond.before_and, ih, List.all_cons]
def words1 : List Jvm.Cond := Jvm.Cond.code x code maxLocals ret :: tables_1
/-- a 'code' word, met by the world's own term for the bytes: nothing is compared byte by byte -/
theorem code_word {y : MethodName} {bytes : ByteArray} {mx : Nat} {rt : Option FieldType} {a : Array Value} {s : State} {m : MethodId} {meth : Method} {c : Code} (h1 : s.methodNamed? y = some m) (h2 : s.vm.method? m = some meth) (h3 : meth.code = some c) (h4 : c.code = bytes)
    (h5 : (c.maxLocals == mx && c.exceptionTable.isEmpty && decide (c.maxStack ≤ mostOperands) && decide (meth.sig.returnType = rt) && !meth.locks && decide (parseMethodDescriptor y.desc = some meth.sig)) = true) : (Jvm.Cond.code y bytes mx rt).before a s = true := by
  simp only [Bool.and_eq_true, beq_iff_eq, Bool.not_eq_true', decide_eq_true_eq] at h5
  obtain ⟨⟨⟨⟨⟨g1, g2⟩, g3⟩, g4⟩, g5⟩, g6⟩ := h5
  simp [Cond.before, Cond.holds, Cond.value, h1, h2, h3, h4, g1, g2, g3, g4, g5, g6]
def isCode : Jvm.Cond → Bool
  | .code _ _ _ _ => true
  | _ => false
theorem all_split {L : List Jvm.Cond} {P : Jvm.Cond → Bool} (h1 : L.all (fun c => isCode c || P c) = true) (h2 : ∀ c ∈ L.filter isCode, P c = true) : L.all P = true := by
  refine List.all_eq_true.mpr fun c hc => ?_
  have h := List.all_eq_true.mp h1 c hc
  rcases Bool.eq_false_or_eq_true (isCode c) with hi | hi
  · exact h2 c (List.mem_filter.mpr ⟨hc, hi⟩)
  · simpa [hi] using h
set_option maxRecDepth 65536 in
theorem w_c0 : (Jvm.Cond.code x code maxLocals ret).before args0 about1 = true := code_word (m := ⟨1, 1⟩) (meth := k1m1) (c := k1c1) (by decide +kernel) rfl rfl rfl (by decide +kernel)
set_option maxRecDepth 65536 in
theorem w_c1 : (Jvm.Cond.code ({ cls := "com/example/sundskrift/sundskrift/core/xml/ReadOnlyParentFollowingPinLaw", name := "place", desc := "([I[I[III)V" } : Jvm.MethodName) method_3_code (6 : Nat) (Option.none : Option Jvm.ClassFile.FieldType)).before args0 about1 = true := code_word (m := ⟨1, 2⟩) (meth := k1m2) (c := k1c2) (by decide +kernel) rfl rfl rfl (by decide +kernel)
set_option maxRecDepth 65536 in
theorem w_c2 : (Jvm.Cond.code ({ cls := "com/example/sundskrift/sundskrift/core/xml/ReadOnlyParentFollowingPinLaw", name := "make", desc := "([Lcom/example/sundskrift/sundskrift/core/xml/ReadOnlyElement;[Lcom/example/sundskrift/sundskrift/core/xml/ReadOnlyText;IZ)V" } : Jvm.MethodName) method_5_code (4 : Nat) (Option.none : Option Jvm.ClassFile.FieldType)).before args0 about1 = true := code_word (m := ⟨1, 4⟩) (meth := k1m4) (c := k1c4) (by decide +kernel) rfl rfl rfl (by decide +kernel)
set_option maxRecDepth 65536 in
theorem w_c3 : (Jvm.Cond.code ({ cls := "com/example/sundskrift/sundskrift/core/xml/ReadOnlyElement", name := "<init>", desc := "(Lcom/example/sundskrift/sundskrift/core/xml/ReadOnlyDocument;Ljava/lang/String;Ljava/lang/String;Ljava/lang/String;Ljava/lang/String;[Lcom/example/sundskrift/sundskrift/core/xml/ReadOnlyAttr;I)V" } : Jvm.MethodName) prog_159_method_1_code (12 : Nat) (Option.none : Option Jvm.ClassFile.FieldType)).before args0 about1 = true := code_word (m := ⟨7, 0⟩) (meth := k7m0) (c := k7c0) (by decide +kernel) rfl rfl rfl (by decide +kernel)
set_option maxRecDepth 65536 in
theorem w_c4 : (Jvm.Cond.code ({ cls := "com/example/sundskrift/sundskrift/core/xml/ReadOnlyNamed", name := "<init>", desc := "(Lcom/example/sundskrift/sundskrift/core/xml/ReadOnlyDocument;Ljava/lang/String;Ljava/lang/String;Ljava/lang/String;Ljava/lang/String;)V" } : Jvm.MethodName) prog_161_method_1_code (6 : Nat) (Option.none : Option Jvm.ClassFile.FieldType)).before args0 about1 = true := code_word (m := ⟨5, 0⟩) (meth := k5m0) (c := k5c0) (by decide +kernel) rfl rfl rfl (by decide +kernel)
set_option maxRecDepth 65536 in
theorem w_c5 : (Jvm.Cond.code ({ cls := "com/example/sundskrift/sundskrift/core/xml/ReadOnlyParent", name := "<init>", desc := "(Lcom/example/sundskrift/sundskrift/core/xml/ReadOnlyDocument;)V" } : Jvm.MethodName) prog_167_method_1_code (2 : Nat) (Option.none : Option Jvm.ClassFile.FieldType)).before args0 about1 = true := code_word (m := ⟨4, 0⟩) (meth := k4m0) (c := k4c0) (by decide +kernel) rfl rfl rfl (by decide +kernel)
set_option maxRecDepth 65536 in
theorem w_c6 : (Jvm.Cond.code ({ cls := "com/example/sundskrift/sundskrift/core/xml/ReadOnlyNode", name := "<init>", desc := "(Lcom/example/sundskrift/sundskrift/core/xml/ReadOnlyDocument;)V" } : Jvm.MethodName) prog_162_method_1_code (2 : Nat) (Option.none : Option Jvm.ClassFile.FieldType)).before args0 about1 = true := code_word (m := ⟨3, 0⟩) (meth := k3m0) (c := k3c0) (by decide +kernel) rfl rfl rfl (by decide +kernel)
set_option maxRecDepth 65536 in
theorem w_c7 : (Jvm.Cond.code ({ cls := "java/lang/Object", name := "<init>", desc := "()V" } : Jvm.MethodName) object_method_1_code (1 : Nat) (Option.none : Option Jvm.ClassFile.FieldType)).before args0 about1 = true := code_word (m := ⟨0, 0⟩) (meth := k0m0) (c := k0c0) (by decide +kernel) rfl rfl rfl (by decide +kernel)
set_option maxRecDepth 65536 in
theorem w_c8 : (Jvm.Cond.code ({ cls := "com/example/sundskrift/sundskrift/core/xml/ReadOnlyParentFollowingPinLaw", name := "isText", desc := "([III)Z" } : Jvm.MethodName) method_4_code (4 : Nat) (Option.some Jvm.ClassFile.FieldType.boolean)).before args0 about1 = true := code_word (m := ⟨1, 3⟩) (meth := k1m3) (c := k1c3) (by decide +kernel) rfl rfl rfl (by decide +kernel)
set_option maxRecDepth 65536 in
theorem w_c9 : (Jvm.Cond.code ({ cls := "com/example/sundskrift/sundskrift/core/xml/ReadOnlyText", name := "<init>", desc := "(Lcom/example/sundskrift/sundskrift/core/xml/ReadOnlyDocument;Ljava/lang/String;Z)V" } : Jvm.MethodName) prog_169_method_1_code (4 : Nat) (Option.none : Option Jvm.ClassFile.FieldType)).before args0 about1 = true := code_word (m := ⟨11, 0⟩) (meth := k11m0) (c := k11c0) (by decide +kernel) rfl rfl rfl (by decide +kernel)
set_option maxRecDepth 65536 in
theorem w_c10 : (Jvm.Cond.code ({ cls := "com/example/sundskrift/sundskrift/core/xml/ReadOnlyCharacterData", name := "<init>", desc := "(Lcom/example/sundskrift/sundskrift/core/xml/ReadOnlyDocument;Ljava/lang/String;)V" } : Jvm.MethodName) prog_156_method_1_code (3 : Nat) (Option.none : Option Jvm.ClassFile.FieldType)).before args0 about1 = true := code_word (m := ⟨9, 0⟩) (meth := k9m0) (c := k9c0) (by decide +kernel) rfl rfl rfl (by decide +kernel)
set_option maxRecDepth 65536 in
theorem w_c11 : (Jvm.Cond.code ({ cls := "com/example/sundskrift/sundskrift/core/xml/ReadOnlyParentFollowingPinLaw", name := "attach", desc := "([Lcom/example/sundskrift/sundskrift/core/xml/ReadOnlyElement;[Lcom/example/sundskrift/sundskrift/core/xml/ReadOnlyText;[II)V" } : Jvm.MethodName) method_6_code (4 : Nat) (Option.none : Option Jvm.ClassFile.FieldType)).before args0 about1 = true := code_word (m := ⟨1, 5⟩) (meth := k1m5) (c := k1c5) (by decide +kernel) rfl rfl rfl (by decide +kernel)
set_option maxRecDepth 65536 in
theorem w_c12 : (Jvm.Cond.code ({ cls := "com/example/sundskrift/sundskrift/core/xml/ReadOnlyParent", name := "append", desc := "(Lcom/example/sundskrift/sundskrift/core/xml/ReadOnlyNode;)V" } : Jvm.MethodName) prog_167_method_2_code (2 : Nat) (Option.none : Option Jvm.ClassFile.FieldType)).before args0 about1 = true := code_word (m := ⟨4, 1⟩) (meth := k4m1) (c := k4c1) (by decide +kernel) rfl rfl rfl (by decide +kernel)
set_option maxRecDepth 65536 in
theorem w_c13 : (Jvm.Cond.code ({ cls := "com/example/sundskrift/sundskrift/core/xml/ReadOnlyParentFollowingPinLaw", name := "end", desc := "([II)I" } : Jvm.MethodName) method_7_code (3 : Nat) (Option.some Jvm.ClassFile.FieldType.int)).before args0 about1 = true := code_word (m := ⟨1, 6⟩) (meth := k1m6) (c := k1c6) (by decide +kernel) rfl rfl rfl (by decide +kernel)
set_option maxRecDepth 65536 in
theorem w_c14 : (Jvm.Cond.code ({ cls := "com/example/sundskrift/sundskrift/core/xml/ReadOnlyParentFollowingPinLaw", name := "node", desc := "([Lcom/example/sundskrift/sundskrift/core/xml/ReadOnlyElement;[Lcom/example/sundskrift/sundskrift/core/xml/ReadOnlyText;I)Ljava/lang/Object;" } : Jvm.MethodName) method_8_code (3 : Nat) (Option.some (Jvm.ClassFile.FieldType.object "java/lang/Object"))).before args0 about1 = true := code_word (m := ⟨1, 7⟩) (meth := k1m7) (c := k1c7) (by decide +kernel) rfl rfl rfl (by decide +kernel)
set_option maxRecDepth 65536 in
theorem w_c15 : (Jvm.Cond.code ({ cls := "com/example/sundskrift/sundskrift/core/xml/ReadOnlyParent", name := "following", desc := "(Lcom/example/sundskrift/sundskrift/core/xml/ReadOnlyNode;)Lcom/example/sundskrift/sundskrift/core/xml/ReadOnlyNode;" } : Jvm.MethodName) prog_167_method_12_code (3 : Nat) (Option.some (Jvm.ClassFile.FieldType.object "com/example/sundskrift/sundskrift/core/xml/ReadOnlyNode"))).before args0 about1 = true := code_word (m := ⟨4, 2⟩) (meth := k4m2) (c := k4c2) (by decide +kernel) rfl rfl rfl (by decide +kernel)
def codes1 : List Jvm.Cond := [Jvm.Cond.code x code maxLocals ret, Jvm.Cond.code ({ cls := "com/example/sundskrift/sundskrift/core/xml/ReadOnlyParentFollowingPinLaw", name := "place", desc := "([I[I[III)V" } : Jvm.MethodName) method_3_code (6 : Nat) (Option.none : Option Jvm.ClassFile.FieldType), Jvm.Cond.code ({ cls := "com/example/sundskrift/sundskrift/core/xml/ReadOnlyParentFollowingPinLaw", name := "make", desc := "([Lcom/example/sundskrift/sundskrift/core/xml/ReadOnlyElement;[Lcom/example/sundskrift/sundskrift/core/xml/ReadOnlyText;IZ)V" } : Jvm.MethodName) method_5_code (4 : Nat) (Option.none : Option Jvm.ClassFile.FieldType), Jvm.Cond.code ({ cls := "com/example/sundskrift/sundskrift/core/xml/ReadOnlyElement", name := "<init>", desc := "(Lcom/example/sundskrift/sundskrift/core/xml/ReadOnlyDocument;Ljava/lang/String;Ljava/lang/String;Ljava/lang/String;Ljava/lang/String;[Lcom/example/sundskrift/sundskrift/core/xml/ReadOnlyAttr;I)V" } : Jvm.MethodName) prog_159_method_1_code (12 : Nat) (Option.none : Option Jvm.ClassFile.FieldType), Jvm.Cond.code ({ cls := "com/example/sundskrift/sundskrift/core/xml/ReadOnlyNamed", name := "<init>", desc := "(Lcom/example/sundskrift/sundskrift/core/xml/ReadOnlyDocument;Ljava/lang/String;Ljava/lang/String;Ljava/lang/String;Ljava/lang/String;)V" } : Jvm.MethodName) prog_161_method_1_code (6 : Nat) (Option.none : Option Jvm.ClassFile.FieldType), Jvm.Cond.code ({ cls := "com/example/sundskrift/sundskrift/core/xml/ReadOnlyParent", name := "<init>", desc := "(Lcom/example/sundskrift/sundskrift/core/xml/ReadOnlyDocument;)V" } : Jvm.MethodName) prog_167_method_1_code (2 : Nat) (Option.none : Option Jvm.ClassFile.FieldType), Jvm.Cond.code ({ cls := "com/example/sundskrift/sundskrift/core/xml/ReadOnlyNode", name := "<init>", desc := "(Lcom/example/sundskrift/sundskrift/core/xml/ReadOnlyDocument;)V" } : Jvm.MethodName) prog_162_method_1_code (2 : Nat) (Option.none : Option Jvm.ClassFile.FieldType), Jvm.Cond.code ({ cls := "java/lang/Object", name := "<init>", desc := "()V" } : Jvm.MethodName) object_method_1_code (1 : Nat) (Option.none : Option Jvm.ClassFile.FieldType), Jvm.Cond.code ({ cls := "com/example/sundskrift/sundskrift/core/xml/ReadOnlyParentFollowingPinLaw", name := "isText", desc := "([III)Z" } : Jvm.MethodName) method_4_code (4 : Nat) (Option.some Jvm.ClassFile.FieldType.boolean), Jvm.Cond.code ({ cls := "com/example/sundskrift/sundskrift/core/xml/ReadOnlyText", name := "<init>", desc := "(Lcom/example/sundskrift/sundskrift/core/xml/ReadOnlyDocument;Ljava/lang/String;Z)V" } : Jvm.MethodName) prog_169_method_1_code (4 : Nat) (Option.none : Option Jvm.ClassFile.FieldType), Jvm.Cond.code ({ cls := "com/example/sundskrift/sundskrift/core/xml/ReadOnlyCharacterData", name := "<init>", desc := "(Lcom/example/sundskrift/sundskrift/core/xml/ReadOnlyDocument;Ljava/lang/String;)V" } : Jvm.MethodName) prog_156_method_1_code (3 : Nat) (Option.none : Option Jvm.ClassFile.FieldType), Jvm.Cond.code ({ cls := "com/example/sundskrift/sundskrift/core/xml/ReadOnlyParentFollowingPinLaw", name := "attach", desc := "([Lcom/example/sundskrift/sundskrift/core/xml/ReadOnlyElement;[Lcom/example/sundskrift/sundskrift/core/xml/ReadOnlyText;[II)V" } : Jvm.MethodName) method_6_code (4 : Nat) (Option.none : Option Jvm.ClassFile.FieldType), Jvm.Cond.code ({ cls := "com/example/sundskrift/sundskrift/core/xml/ReadOnlyParent", name := "append", desc := "(Lcom/example/sundskrift/sundskrift/core/xml/ReadOnlyNode;)V" } : Jvm.MethodName) prog_167_method_2_code (2 : Nat) (Option.none : Option Jvm.ClassFile.FieldType), Jvm.Cond.code ({ cls := "com/example/sundskrift/sundskrift/core/xml/ReadOnlyParentFollowingPinLaw", name := "end", desc := "([II)I" } : Jvm.MethodName) method_7_code (3 : Nat) (Option.some Jvm.ClassFile.FieldType.int), Jvm.Cond.code ({ cls := "com/example/sundskrift/sundskrift/core/xml/ReadOnlyParentFollowingPinLaw", name := "node", desc := "([Lcom/example/sundskrift/sundskrift/core/xml/ReadOnlyElement;[Lcom/example/sundskrift/sundskrift/core/xml/ReadOnlyText;I)Ljava/lang/Object;" } : Jvm.MethodName) method_8_code (3 : Nat) (Option.some (Jvm.ClassFile.FieldType.object "java/lang/Object")), Jvm.Cond.code ({ cls := "com/example/sundskrift/sundskrift/core/xml/ReadOnlyParent", name := "following", desc := "(Lcom/example/sundskrift/sundskrift/core/xml/ReadOnlyNode;)Lcom/example/sundskrift/sundskrift/core/xml/ReadOnlyNode;" } : Jvm.MethodName) prog_167_method_12_code (3 : Nat) (Option.some (Jvm.ClassFile.FieldType.object "com/example/sundskrift/sundskrift/core/xml/ReadOnlyNode"))]
set_option maxRecDepth 65536 in
theorem codes_eq : words1.filter isCode = codes1 := rfl
theorem w_codes : ∀ c ∈ words1.filter isCode, c.before args0 about1 = true := by
  rw [codes_eq]
  intro c hc
  simp only [codes1, List.mem_cons, List.not_mem_nil, or_false] at hc
  rcases hc with rfl | rfl | rfl | rfl | rfl | rfl | rfl | rfl | rfl | rfl | rfl | rfl | rfl | rfl | rfl | rfl
  · exact w_c0
  · exact w_c1
  · exact w_c2
  · exact w_c3
  · exact w_c4
  · exact w_c5
  · exact w_c6
  · exact w_c7
  · exact w_c8
  · exact w_c9
  · exact w_c10
  · exact w_c11
  · exact w_c12
  · exact w_c13
  · exact w_c14
  · exact w_c15
set_option maxRecDepth 65536 in
theorem w_t1 : (words1.take 24).all (fun c => isCode c || c.before args0 about1) = true := by decide +kernel
set_option maxRecDepth 65536 in
theorem w_t2 : ((words1.drop 24).take 24).all (fun c => isCode c || c.before args0 about1) = true := by decide +kernel
set_option maxRecDepth 65536 in
theorem w_t3 : (((words1.drop 24).drop 24).take 24).all (fun c => isCode c || c.before args0 about1) = true := by decide +kernel
set_option maxRecDepth 65536 in
theorem w_t4 : ((((words1.drop 24).drop 24).drop 24).take 24).all (fun c => isCode c || c.before args0 about1) = true := by decide +kernel
set_option maxRecDepth 65536 in
theorem w_t5 : (((((words1.drop 24).drop 24).drop 24).drop 24).take 24).all (fun c => isCode c || c.before args0 about1) = true := by decide +kernel
set_option maxRecDepth 65536 in
theorem w_t6 : (((((words1.drop 24).drop 24).drop 24).drop 24).drop 24).all (fun c => isCode c || c.before args0 about1) = true := by decide +kernel
theorem w_tables : (allAtoms (Jvm.Cond.code x code maxLocals ret :: tables_1)).before args0 about1 = true := by
  rw [allAtoms_all]
  show words1.all (fun c => c.before args0 about1) = true
  refine all_split ?_ w_codes
  rw [← List.take_append_drop 24 words1, List.all_append, w_t1, ← List.take_append_drop 24 (words1.drop 24), List.all_append, w_t2, ← List.take_append_drop 24 ((words1.drop 24).drop 24), List.all_append, w_t3, ← List.take_append_drop 24 (((words1.drop 24).drop 24).drop 24), List.all_append, w_t4, ← List.take_append_drop 24 ((((words1.drop 24).drop 24).drop 24).drop 24), List.all_append, w_t5, w_t6]
  rfl
set_option maxRecDepth 65536 in
theorem w_case : (Jvm.Cond.and given_1 narrow_1).before args0 about1 = true := by decide +kernel
theorem w_applies : (headSpec (Jvm.Cond.code x code maxLocals ret :: tables_1) room_1).applies x e0.platform about1 = true :=
  (Spec.applies_iff w_frames).mpr ⟨w_running, w_runnable, w_alone, w_named, w_hears, w_ripe, w_room, w_tables⟩
theorem atStart : AtStart classFile x code maxLocals ret World_1 tables_1 room_1 Calls_1 rest_1 Pre_1 launch0 p0 e0 about1 theMethod args0 below0 :=
  ⟨lists_1, trivial, launch0.admits_env _ _ _, launch0.least_env, fairChoices_fair.cas, fairChoices_fair.clock, w_frames, w_args, w_heap, w_applies, trivial, trivial, w_case⟩
end start1
theorem witness_1 : WitnessClaimed_1 := ⟨start1.p0, start1.e0, start1.about1, start1.theMethod, start1.args0, start1.below0, start1.atStart⟩
end Jvm.Pilot.@@N@@
