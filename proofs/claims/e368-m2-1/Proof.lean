import JvmDerived
import JvmDerived.Pilot.@@N@@Statement
import JvmDerived.Pilot.@@N@@Code
set_option linter.unusedVariables false
set_option linter.unusedSimpArgs false
namespace Jvm.Pilot.@@N@@
open Jvm Jvm.ClassFile Sem Op Lib Jvm.Free Jvm.Stand Jvm.LawKit Jvm.RoadKit Bundle Jvm.Pilot.@@N@@.Jvm.D
section Kit
variable {p : Program} {l : Launch} {e : Env} {R : Room} {s : State} {m : MethodId} {args : Array Value} {below : List Frame} {meth : Method} {c : Code} {T : State} {locs : List Loc} {cells slots : Nat} {Z : State} {a0 : Array Value} {h : Heap} {G : State → Prop} {pc pc' : Nat} {Ls Ls' : Array Slot} {st : List Value}
def Go (p : Program) (e : Env) (below : List Frame) (G : State → Prop) (S : State) : Prop := ∃ t, Steps p.tables e below S t ∧ G t
theorem Go.to {S S' : State} (h : ∀ t, Steps p.tables e below S' t → Steps p.tables e below S t) (k : Go p e below G S') : Go p e below G S := let ⟨t, h1, h2⟩ := k; ⟨t, h t h1, h2⟩
def Dn (s : State) (below : List Frame) (Q : Option Value → Heap → List Loc → Prop) (kc ks : Nat) (t : State) : Prop := ∃ o, t.status = .running ∧ Ended t below o ∧ ∃ v L, o = .returned v ∧ Q v t.heap L ∧ FrameEnd s o t L kc ks
def Ct (l : Launch) (Z : State) (y : MethodName) (bytes : ByteArray) (maxL : Nat) (ret : Option FieldType) (rm : Room) (as' : Array Value) (h0 : Heap) (Q : Option Value → Heap → List Loc → Prop) : Prop :=
  ∀ ws, MetFree l y (head1 (Jvm.Cond.code y bytes maxL ret :: ws) rm) (fun a U => a = as' ∧ Z.Warmed39 U.vm ∧ U.heap = h0) (fun _ _ _ _ _ => True) (fun _ U o U' => ∃ v L, o = .returned v ∧ Q v U'.heap L ∧ FrameEnd U o U' L rm.cells rm.slots)
theorem Ct.of {y : MethodName} {bytes : ByteArray} {maxL : Nat} {ret : Option FieldType} {rm : Room} {as' : Array Value} {h0 : Heap} {Q : Option Value → Heap → List Loc → Prop} (hn : plainFor y = true) (hef : ∀ m, entryFrame m as' maxL = mkF m 0 Ls [])
    (body : ∀ (p : Program) (e : Env) (s : State) (m : MethodId) (below : List Frame) (meth : Method) (c : Code) (T : State), Stand p l e rm s m as' below meth c T [] 0 0 → p.tables.exec = Jvm.exec → c.code = bytes → c.maxLocals = maxL → meth.sig.returnType = ret → meth.locks = false → Z.Warmed39 s.vm → s.vm.findClass y.cls = some m.cls → meth.name = y.name → T.heap = h0 →
      Go p e below (Dn s below Q rm.cells rm.slots) (T.setTop (mkF m 0 Ls []))) : Ct l Z y bytes maxL ret rm as' h0 Q := by
  intro ws
  refine MetFree.of_bodySF hn hisR ?_
  intro p e s m args below meth c s₁ Bd hml0 hP hK
  obtain ⟨rfl, hZ, hh⟩ := hP
  obtain ⟨t, h1, o, h2, h3, h4⟩ := body p e s m below meth c s₁ (Stand.of_body Bd) Bd.exec Bd.bytes hml0 Bd.returns Bd.notSynchronized hZ (findClass_of_methodNamed Bd.named) (name_of_methodNamed Bd.named Bd.method).1 (by rw [← hh, Bd.state]; rfl)
  exact ⟨t, o, castTop (hef m) h1, h2, h3, h4⟩
theorem g_aloadN (X : Stand p l e R s m args below meth c T locs cells slots) (hx : p.tables.exec = Jvm.exec) {k : Fin 4} {v : Value} (hd : decode c.code pc = .ok (.aload_n k, 1)) (hp : pc + 1 = pc') (hl : Ls[k.val]? = some (.val v)) (hv : v.isRef = true) (k : Go p e below G (T.setTop (mkF m pc' Ls (v :: st)))) : Go p e below G (T.setTop (mkF m pc Ls (st))) := by
  subst hp
  exact Go.to (fun t q => XS.aloadN X.here hx rfl hd hl hv q) k
theorem g_iloadN (X : Stand p l e R s m args below meth c T locs cells slots) (hx : p.tables.exec = Jvm.exec) {k : Fin 4} {v : Int32} (hd : decode c.code pc = .ok (.iload_n k, 1)) (hp : pc + 1 = pc') (hl : Ls[k.val]? = some (.val (.int v))) (k : Go p e below G (T.setTop (mkF m pc' Ls (.int v :: st)))) : Go p e below G (T.setTop (mkF m pc Ls (st))) := by
  subst hp
  exact Go.to (fun t q => XS.iloadN X.here hx rfl hd hl q) k
theorem g_lloadN (X : Stand p l e R s m args below meth c T locs cells slots) (hx : p.tables.exec = Jvm.exec) {k : Fin 4} {v : Int64} (hd : decode c.code pc = .ok (.lload_n k, 1)) (hp : pc + 1 = pc') (hl : Ls[k.val]? = some (.val (.long v))) (k : Go p e below G (T.setTop (mkF m pc' Ls (.long v :: st)))) : Go p e below G (T.setTop (mkF m pc Ls (st))) := by
  subst hp
  exact Go.to (fun t q => XT.lloadN X.here hx rfl hd hl q) k
theorem g_istoreN (X : Stand p l e R s m args below meth c T locs cells slots) (hx : p.tables.exec = Jvm.exec) {k : Fin 4} {x : Int32} (hd : decode c.code pc = .ok (.istore_n k, 1)) (hp : pc + 1 = pc') (hl : storeLocals Ls k.val (.int x) = some Ls') (k : Go p e below G (T.setTop (mkF m pc' Ls' (st)))) : Go p e below G (T.setTop (mkF m pc Ls (.int x :: st))) := by
  subst hp
  exact Go.to (fun t q => XS.istoreN X.here hx rfl hd rfl hl q) k
theorem g_lstoreN (X : Stand p l e R s m args below meth c T locs cells slots) (hx : p.tables.exec = Jvm.exec) {k : Fin 4} {x : Int64} (hd : decode c.code pc = .ok (.lstore_n k, 1)) (hp : pc + 1 = pc') (hl : storeLocals Ls k.val (.long x) = some Ls') (k : Go p e below G (T.setTop (mkF m pc' Ls' (st)))) : Go p e below G (T.setTop (mkF m pc Ls (.long x :: st))) := by
  subst hp
  exact Go.to (fun t q => XT.lstoreN X.here hx rfl hd rfl hl q) k
theorem g_astoreN (X : Stand p l e R s m args below meth c T locs cells slots) (hx : p.tables.exec = Jvm.exec) {k : Fin 4} {x : Value} (hd : decode c.code pc = .ok (.astore_n k, 1)) (hp : pc + 1 = pc') (hv : x.isRef = true) (hl : storeLocals Ls k.val x = some Ls') (k : Go p e below G (T.setTop (mkF m pc' Ls' (st)))) : Go p e below G (T.setTop (mkF m pc Ls (x :: st))) := by
  subst hp
  exact Go.to (fun t q => XS.astoreN X.here hx rfl hd rfl hv hl q) k
theorem g_aload (X : Stand p l e R s m args below meth c T locs cells slots) (hx : p.tables.exec = Jvm.exec) {k : Nat} {v : Value} (hd : decode c.code pc = .ok (.aload k, 2)) (hp : pc + 2 = pc') (hl : Ls[k]? = some (.val v)) (hv : v.isRef = true) (k : Go p e below G (T.setTop (mkF m pc' Ls (v :: st)))) : Go p e below G (T.setTop (mkF m pc Ls (st))) := by
  subst hp
  exact Go.to (fun t q => XS.aload X.here hx rfl hd hl hv q) k
theorem g_iload (X : Stand p l e R s m args below meth c T locs cells slots) (hx : p.tables.exec = Jvm.exec) {k : Nat} {v : Int32} (hd : decode c.code pc = .ok (.iload k, 2)) (hp : pc + 2 = pc') (hl : Ls[k]? = some (.val (.int v))) (k : Go p e below G (T.setTop (mkF m pc' Ls (.int v :: st)))) : Go p e below G (T.setTop (mkF m pc Ls (st))) := by
  subst hp
  exact Go.to (fun t q => XS.iload X.here hx rfl hd hl q) k
theorem g_lload (X : Stand p l e R s m args below meth c T locs cells slots) (hx : p.tables.exec = Jvm.exec) {k : Nat} {v : Int64} (hd : decode c.code pc = .ok (.lload k, 2)) (hp : pc + 2 = pc') (hl : Ls[k]? = some (.val (.long v))) (k : Go p e below G (T.setTop (mkF m pc' Ls (.long v :: st)))) : Go p e below G (T.setTop (mkF m pc Ls (st))) := by
  subst hp
  exact Go.to (fun t q => XT.lload X.here hx rfl hd hl q) k
theorem g_istore (X : Stand p l e R s m args below meth c T locs cells slots) (hx : p.tables.exec = Jvm.exec) {k : Nat} {x : Int32} (hd : decode c.code pc = .ok (.istore k, 2)) (hp : pc + 2 = pc') (hl : storeLocals Ls k (.int x) = some Ls') (k : Go p e below G (T.setTop (mkF m pc' Ls' (st)))) : Go p e below G (T.setTop (mkF m pc Ls (.int x :: st))) := by
  subst hp
  exact Go.to (fun t q => XS.istore X.here hx rfl hd rfl hl q) k
theorem g_lstore (X : Stand p l e R s m args below meth c T locs cells slots) (hx : p.tables.exec = Jvm.exec) {k : Nat} {x : Int64} (hd : decode c.code pc = .ok (.lstore k, 2)) (hp : pc + 2 = pc') (hl : storeLocals Ls k (.long x) = some Ls') (k : Go p e below G (T.setTop (mkF m pc' Ls' (st)))) : Go p e below G (T.setTop (mkF m pc Ls (.long x :: st))) := by
  subst hp
  exact Go.to (fun t q => XT.lstore X.here hx rfl hd rfl hl q) k
theorem g_astore (X : Stand p l e R s m args below meth c T locs cells slots) (hx : p.tables.exec = Jvm.exec) {k : Nat} {x : Value} (hd : decode c.code pc = .ok (.astore k, 2)) (hp : pc + 2 = pc') (hv : x.isRef = true) (hl : storeLocals Ls k x = some Ls') (k : Go p e below G (T.setTop (mkF m pc' Ls' (st)))) : Go p e below G (T.setTop (mkF m pc Ls (x :: st))) := by
  subst hp
  exact Go.to (fun t q => XS.astore X.here hx rfl hd rfl hv hl q) k
theorem g_iconst (X : Stand p l e R s m args below meth c T locs cells slots) (hx : p.tables.exec = Jvm.exec) {i : Int} {z : Int32} (hd : decode c.code pc = .ok (.iconst i, 1)) (hp : pc + 1 = pc') (hz : Int32.ofInt i = z) (k : Go p e below G (T.setTop (mkF m pc' Ls (.int z :: st)))) : Go p e below G (T.setTop (mkF m pc Ls (st))) := by
  subst hp hz
  exact Go.to (fun t q => XS.iconst X.here hx rfl hd  q) k
theorem g_bipush (X : Stand p l e R s m args below meth c T locs cells slots) (hx : p.tables.exec = Jvm.exec) {i : Int} {z : Int32} (hd : decode c.code pc = .ok (.bipush i, 2)) (hp : pc + 2 = pc') (hz : (Int8.ofInt i).toInt32 = z) (k : Go p e below G (T.setTop (mkF m pc' Ls (.int z :: st)))) : Go p e below G (T.setTop (mkF m pc Ls (st))) := by
  subst hp hz
  exact Go.to (fun t q => XS.bipush X.here hx rfl hd  q) k
theorem g_sipush (X : Stand p l e R s m args below meth c T locs cells slots) (hx : p.tables.exec = Jvm.exec) {i : Int} {z : Int32} (hd : decode c.code pc = .ok (.sipush i, 3)) (hp : pc + 3 = pc') (hz : (Int16.ofInt i).toInt32 = z) (k : Go p e below G (T.setTop (mkF m pc' Ls (.int z :: st)))) : Go p e below G (T.setTop (mkF m pc Ls (st))) := by
  subst hp hz
  exact Go.to (fun t q => XS.sipush X.here hx rfl hd  q) k
theorem g_lconst (X : Stand p l e R s m args below meth c T locs cells slots) (hx : p.tables.exec = Jvm.exec) {i : Fin 2} {z : Int64} (hd : decode c.code pc = .ok (.lconst i, 1)) (hp : pc + 1 = pc') (hz : Int64.ofNat i = z) (k : Go p e below G (T.setTop (mkF m pc' Ls (.long z :: st)))) : Go p e below G (T.setTop (mkF m pc Ls (st))) := by
  subst hp hz
  exact Go.to (fun t q => XT.lconst X.here hx rfl hd  q) k
theorem g_aconstNull (X : Stand p l e R s m args below meth c T locs cells slots) (hx : p.tables.exec = Jvm.exec)  (hd : decode c.code pc = .ok (.aconst_null, 1)) (hp : pc + 1 = pc')  (k : Go p e below G (T.setTop (mkF m pc' Ls (.null :: st)))) : Go p e below G (T.setTop (mkF m pc Ls (st))) := by
  subst hp
  exact Go.to (fun t q => XS.aconstNull X.here hx rfl hd  q) k
theorem g_iadd (X : Stand p l e R s m args below meth c T locs cells slots) (hx : p.tables.exec = Jvm.exec) {x y z : Int32} (hd : decode c.code pc = .ok (.iadd, 1)) (hp : pc + 1 = pc') (hz : x + y = z) (k : Go p e below G (T.setTop (mkF m pc' Ls (.int z :: st)))) : Go p e below G (T.setTop (mkF m pc Ls (.int y :: .int x :: st))) := by
  subst hp hz
  exact Go.to (fun t q => XS.iadd X.here hx rfl hd rfl q) k
theorem g_isub (X : Stand p l e R s m args below meth c T locs cells slots) (hx : p.tables.exec = Jvm.exec) {x y z : Int32} (hd : decode c.code pc = .ok (.isub, 1)) (hp : pc + 1 = pc') (hz : x - y = z) (k : Go p e below G (T.setTop (mkF m pc' Ls (.int z :: st)))) : Go p e below G (T.setTop (mkF m pc Ls (.int y :: .int x :: st))) := by
  subst hp hz
  exact Go.to (fun t q => XS.isub X.here hx rfl hd rfl q) k
theorem g_iand (X : Stand p l e R s m args below meth c T locs cells slots) (hx : p.tables.exec = Jvm.exec) {x y z : Int32} (hd : decode c.code pc = .ok (.iand, 1)) (hp : pc + 1 = pc') (hz : x &&& y = z) (k : Go p e below G (T.setTop (mkF m pc' Ls (.int z :: st)))) : Go p e below G (T.setTop (mkF m pc Ls (.int y :: .int x :: st))) := by
  subst hp hz
  exact Go.to (fun t q => XS.iand X.here hx rfl hd rfl q) k
theorem g_imul (X : Stand p l e R s m args below meth c T locs cells slots) (hx : p.tables.exec = Jvm.exec) {x y z : Int32} (hd : decode c.code pc = .ok (.imul, 1)) (hp : pc + 1 = pc') (hz : x * y = z) (k : Go p e below G (T.setTop (mkF m pc' Ls (.int z :: st)))) : Go p e below G (T.setTop (mkF m pc Ls (.int y :: .int x :: st))) := by
  subst hp hz
  exact Go.to (fun t q => XS.imul X.here hx rfl hd rfl q) k
theorem g_ixor (X : Stand p l e R s m args below meth c T locs cells slots) (hx : p.tables.exec = Jvm.exec) {x y z : Int32} (hd : decode c.code pc = .ok (.ixor, 1)) (hp : pc + 1 = pc') (hz : x ^^^ y = z) (k : Go p e below G (T.setTop (mkF m pc' Ls (.int z :: st)))) : Go p e below G (T.setTop (mkF m pc Ls (.int y :: .int x :: st))) := by
  subst hp hz
  exact Go.to (fun t q => XT.ixor X.here hx rfl hd rfl q) k
theorem g_ior (X : Stand p l e R s m args below meth c T locs cells slots) (hx : p.tables.exec = Jvm.exec) {x y z : Int32} (hd : decode c.code pc = .ok (.ior, 1)) (hp : pc + 1 = pc') (hz : x ||| y = z) (k : Go p e below G (T.setTop (mkF m pc' Ls (.int z :: st)))) : Go p e below G (T.setTop (mkF m pc Ls (.int y :: .int x :: st))) := by
  subst hp hz
  exact Go.to (fun t q => XT.ior X.here hx rfl hd rfl q) k
theorem g_ishl (X : Stand p l e R s m args below meth c T locs cells slots) (hx : p.tables.exec = Jvm.exec) {x y z : Int32} (hd : decode c.code pc = .ok (.ishl, 1)) (hp : pc + 1 = pc') (hz : x <<< (y &&& 31) = z) (k : Go p e below G (T.setTop (mkF m pc' Ls (.int z :: st)))) : Go p e below G (T.setTop (mkF m pc Ls (.int y :: .int x :: st))) := by
  subst hp hz
  exact Go.to (fun t q => XT.ishl X.here hx rfl hd rfl q) k
theorem g_ishr (X : Stand p l e R s m args below meth c T locs cells slots) (hx : p.tables.exec = Jvm.exec) {x y z : Int32} (hd : decode c.code pc = .ok (.ishr, 1)) (hp : pc + 1 = pc') (hz : x >>> (y &&& 31) = z) (k : Go p e below G (T.setTop (mkF m pc' Ls (.int z :: st)))) : Go p e below G (T.setTop (mkF m pc Ls (.int y :: .int x :: st))) := by
  subst hp hz
  exact Go.to (fun t q => XT.ishr X.here hx rfl hd rfl q) k
theorem g_iushr (X : Stand p l e R s m args below meth c T locs cells slots) (hx : p.tables.exec = Jvm.exec) {x y z : Int32} (hd : decode c.code pc = .ok (.iushr, 1)) (hp : pc + 1 = pc') (hz : XT.ushr x y = z) (k : Go p e below G (T.setTop (mkF m pc' Ls (.int z :: st)))) : Go p e below G (T.setTop (mkF m pc Ls (.int y :: .int x :: st))) := by
  subst hp hz
  exact Go.to (fun t q => XT.iushr X.here hx rfl hd rfl q) k
theorem g_irem (X : Stand p l e R s m args below meth c T locs cells slots) (hx : p.tables.exec = Jvm.exec) {x y z : Int32} (hd : decode c.code pc = .ok (.irem, 1)) (hp : pc + 1 = pc') (hy : y ≠ 0) (hz : x - (x / y) * y = z) (k : Go p e below G (T.setTop (mkF m pc' Ls (.int z :: st)))) : Go p e below G (T.setTop (mkF m pc Ls (.int y :: .int x :: st))) := by
  subst hp hz
  exact Go.to (fun t q => XS.irem X.here hx rfl hd rfl hy q) k
theorem g_idiv (X : Stand p l e R s m args below meth c T locs cells slots) (hx : p.tables.exec = Jvm.exec) {x y z : Int32} (hd : decode c.code pc = .ok (.idiv, 1)) (hp : pc + 1 = pc') (hy : y ≠ 0) (hz : x / y = z) (k : Go p e below G (T.setTop (mkF m pc' Ls (.int z :: st)))) : Go p e below G (T.setTop (mkF m pc Ls (.int y :: .int x :: st))) := by
  subst hp hz
  exact Go.to (fun t q => XS.idiv X.here hx rfl hd rfl hy q) k
theorem g_ladd (X : Stand p l e R s m args below meth c T locs cells slots) (hx : p.tables.exec = Jvm.exec) {x y z : Int64} (hd : decode c.code pc = .ok (.ladd, 1)) (hp : pc + 1 = pc') (hz : x + y = z) (k : Go p e below G (T.setTop (mkF m pc' Ls (.long z :: st)))) : Go p e below G (T.setTop (mkF m pc Ls (.long y :: .long x :: st))) := by
  subst hp hz
  exact Go.to (fun t q => XT.ladd X.here hx rfl hd rfl q) k
theorem g_lsub (X : Stand p l e R s m args below meth c T locs cells slots) (hx : p.tables.exec = Jvm.exec) {x y z : Int64} (hd : decode c.code pc = .ok (.lsub, 1)) (hp : pc + 1 = pc') (hz : x - y = z) (k : Go p e below G (T.setTop (mkF m pc' Ls (.long z :: st)))) : Go p e below G (T.setTop (mkF m pc Ls (.long y :: .long x :: st))) := by
  subst hp hz
  exact Go.to (fun t q => XT.lsub X.here hx rfl hd rfl q) k
theorem g_land (X : Stand p l e R s m args below meth c T locs cells slots) (hx : p.tables.exec = Jvm.exec) {x y z : Int64} (hd : decode c.code pc = .ok (.land, 1)) (hp : pc + 1 = pc') (hz : x &&& y = z) (k : Go p e below G (T.setTop (mkF m pc' Ls (.long z :: st)))) : Go p e below G (T.setTop (mkF m pc Ls (.long y :: .long x :: st))) := by
  subst hp hz
  exact Go.to (fun t q => XT.land X.here hx rfl hd rfl q) k
theorem g_lor (X : Stand p l e R s m args below meth c T locs cells slots) (hx : p.tables.exec = Jvm.exec) {x y z : Int64} (hd : decode c.code pc = .ok (.lor, 1)) (hp : pc + 1 = pc') (hz : x ||| y = z) (k : Go p e below G (T.setTop (mkF m pc' Ls (.long z :: st)))) : Go p e below G (T.setTop (mkF m pc Ls (.long y :: .long x :: st))) := by
  subst hp hz
  exact Go.to (fun t q => XT.lor X.here hx rfl hd rfl q) k
theorem g_lxor (X : Stand p l e R s m args below meth c T locs cells slots) (hx : p.tables.exec = Jvm.exec) {x y z : Int64} (hd : decode c.code pc = .ok (.lxor, 1)) (hp : pc + 1 = pc') (hz : x ^^^ y = z) (k : Go p e below G (T.setTop (mkF m pc' Ls (.long z :: st)))) : Go p e below G (T.setTop (mkF m pc Ls (.long y :: .long x :: st))) := by
  subst hp hz
  exact Go.to (fun t q => XT.lxor X.here hx rfl hd rfl q) k
theorem g_lmul (X : Stand p l e R s m args below meth c T locs cells slots) (hx : p.tables.exec = Jvm.exec) {x y z : Int64} (hd : decode c.code pc = .ok (.lmul, 1)) (hp : pc + 1 = pc') (hz : x * y = z) (k : Go p e below G (T.setTop (mkF m pc' Ls (.long z :: st)))) : Go p e below G (T.setTop (mkF m pc Ls (.long y :: .long x :: st))) := by
  subst hp hz
  exact Go.to (fun t q => XT.lmul X.here hx rfl hd rfl q) k
theorem g_lshl (X : Stand p l e R s m args below meth c T locs cells slots) (hx : p.tables.exec = Jvm.exec) {x z : Int64} {y : Int32} (hd : decode c.code pc = .ok (.lshl, 1)) (hp : pc + 1 = pc') (hz : x <<< (y.toInt64 &&& 63) = z) (k : Go p e below G (T.setTop (mkF m pc' Ls (.long z :: st)))) : Go p e below G (T.setTop (mkF m pc Ls (.int y :: .long x :: st))) := by
  subst hp hz
  exact Go.to (fun t q => XT.lshl X.here hx rfl hd rfl q) k
theorem g_lushr (X : Stand p l e R s m args below meth c T locs cells slots) (hx : p.tables.exec = Jvm.exec) {x z : Int64} {y : Int32} (hd : decode c.code pc = .ok (.lushr, 1)) (hp : pc + 1 = pc') (hz : XT.ushrL x y = z) (k : Go p e below G (T.setTop (mkF m pc' Ls (.long z :: st)))) : Go p e below G (T.setTop (mkF m pc Ls (.int y :: .long x :: st))) := by
  subst hp hz
  exact Go.to (fun t q => XT.lushr X.here hx rfl hd rfl q) k
theorem g_l2i (X : Stand p l e R s m args below meth c T locs cells slots) (hx : p.tables.exec = Jvm.exec) {x : Int64} {z : Int32} (hd : decode c.code pc = .ok (.l2i, 1)) (hp : pc + 1 = pc') (hz : x.toInt32 = z) (k : Go p e below G (T.setTop (mkF m pc' Ls (.int z :: st)))) : Go p e below G (T.setTop (mkF m pc Ls (.long x :: st))) := by
  subst hp hz
  exact Go.to (fun t q => XT.l2i X.here hx rfl hd rfl q) k
theorem g_i2l (X : Stand p l e R s m args below meth c T locs cells slots) (hx : p.tables.exec = Jvm.exec) {x : Int32} {z : Int64} (hd : decode c.code pc = .ok (.i2l, 1)) (hp : pc + 1 = pc') (hz : x.toInt64 = z) (k : Go p e below G (T.setTop (mkF m pc' Ls (.long z :: st)))) : Go p e below G (T.setTop (mkF m pc Ls (.int x :: st))) := by
  subst hp hz
  exact Go.to (fun t q => XT.i2l X.here hx rfl hd rfl q) k
theorem g_i2b (X : Stand p l e R s m args below meth c T locs cells slots) (hx : p.tables.exec = Jvm.exec) {x z : Int32} (hd : decode c.code pc = .ok (.i2b, 1)) (hp : pc + 1 = pc') (hz : x.toInt8.toInt32 = z) (k : Go p e below G (T.setTop (mkF m pc' Ls (.int z :: st)))) : Go p e below G (T.setTop (mkF m pc Ls (.int x :: st))) := by
  subst hp hz
  exact Go.to (fun t q => XT.i2b X.here hx rfl hd rfl q) k
theorem g_lcmp (X : Stand p l e R s m args below meth c T locs cells slots) (hx : p.tables.exec = Jvm.exec) {x y : Int64} {z : Int32} (hd : decode c.code pc = .ok (.lcmp, 1)) (hp : pc + 1 = pc') (hz : XT.cmpL x y = z) (k : Go p e below G (T.setTop (mkF m pc' Ls (.int z :: st)))) : Go p e below G (T.setTop (mkF m pc Ls (.long y :: .long x :: st))) := by
  subst hp hz
  exact Go.to (fun t q => XT.lcmp X.here hx rfl hd rfl q) k
theorem g_dup (X : Stand p l e R s m args below meth c T locs cells slots) (hx : p.tables.exec = Jvm.exec) {x : Value} (hd : decode c.code pc = .ok (.dup, 1)) (hp : pc + 1 = pc') (hc : x.category = 1) (k : Go p e below G (T.setTop (mkF m pc' Ls (x :: x :: st)))) : Go p e below G (T.setTop (mkF m pc Ls (x :: st))) := by
  subst hp
  exact Go.to (fun t q => XS.dup X.here hx rfl hd rfl hc q) k
theorem g_dupX1 (X : Stand p l e R s m args below meth c T locs cells slots) (hx : p.tables.exec = Jvm.exec) {x y : Value} (hd : decode c.code pc = .ok (.dup_x1, 1)) (hp : pc + 1 = pc') (hc : x.category = 1) (hc' : y.category = 1) (k : Go p e below G (T.setTop (mkF m pc' Ls (x :: y :: x :: st)))) : Go p e below G (T.setTop (mkF m pc Ls (x :: y :: st))) := by
  subst hp
  exact Go.to (fun t q => XT.dupX1 X.here hx rfl hd rfl hc hc' q) k
theorem g_pop (X : Stand p l e R s m args below meth c T locs cells slots) (hx : p.tables.exec = Jvm.exec) {x : Value} (hd : decode c.code pc = .ok (.pop, 1)) (hp : pc + 1 = pc') (hc : x.category = 1) (k : Go p e below G (T.setTop (mkF m pc' Ls (st)))) : Go p e below G (T.setTop (mkF m pc Ls (x :: st))) := by
  subst hp
  exact Go.to (fun t q => XT.pop X.here hx rfl hd rfl hc q) k
theorem g_iinc (X : Stand p l e R s m args below meth c T locs cells slots) (hx : p.tables.exec = Jvm.exec) {i : Nat} {cst : Int} {x z : Int32} (hd : decode c.code pc = .ok (.iinc i cst, 3)) (hp : pc + 3 = pc') (hl : Ls[i]? = some (.val (.int x))) (hz : x + Int32.ofInt cst = z) (hl' : storeLocals Ls i (.int z) = some Ls') (k : Go p e below G (T.setTop (mkF m pc' Ls' (st)))) : Go p e below G (T.setTop (mkF m pc Ls (st))) := by
  subst hp hz
  exact Go.to (fun t q => XS.iinc X.here hx rfl hd hl hl' q) k
theorem g_goto (X : Stand p l e R s m args below meth c T locs cells slots) (hx : p.tables.exec = Jvm.exec) {o : Int} (hd : decode c.code pc = .ok (.goto o, 3)) (ho : 0 ≤ (pc : Int) + o) (hp : ((pc : Int) + o).toNat = pc') (k : Go p e below G (T.setTop (mkF m pc' Ls st))) : Go p e below G (T.setTop (mkF m pc Ls st)) :=
  Go.to (fun t q => XS.goto X.here hx rfl (pc0 := pc) (pc' := pc') rfl hd ho hp q) k
theorem g_icmpB (X : Stand p l e R s m args below meth c T locs cells slots) (hx : p.tables.exec = Jvm.exec) {cd : ClassFile.Cond} {x y : Int32} {o : Int} {pcF : Nat} (hd : decode c.code pc = .ok (.if_icmp cd o, 3)) (ho : 0 ≤ (pc : Int) + o) (hp : ((pc : Int) + o).toNat = pc') (hq : pc + 3 = pcF) (kT : if_icmp.holds cd x y = true → Go p e below G (T.setTop (mkF m pc' Ls st))) (kF : if_icmp.holds cd x y = false → Go p e below G (T.setTop (mkF m pcF Ls st))) : Go p e below G (T.setTop (mkF m pc Ls (.int y :: .int x :: st))) := by
  cases q : if_icmp.holds cd x y
  · subst hq; exact Go.to (fun t r => XS.icmpNo X.here hx rfl hd rfl q r) (kF q)
  · exact Go.to (fun t r => XS.icmpYes X.here hx rfl (pc0 := pc) (pc' := pc') rfl hd rfl q ho hp r) (kT q)
theorem g_icmp_eq (X : Stand p l e R s m args below meth c T locs cells slots) (hx : p.tables.exec = Jvm.exec) {x y : Int32} {o : Int} {pcF : Nat} (hd : decode c.code pc = .ok (.if_icmp .eq o, 3)) (ho : 0 ≤ (pc : Int) + o) (hp : ((pc : Int) + o).toNat = pc') (hq : pc + 3 = pcF) (kT : x = y → Go p e below G (T.setTop (mkF m pc' Ls st))) (kF : ¬ x = y → Go p e below G (T.setTop (mkF m pcF Ls st))) : Go p e below G (T.setTop (mkF m pc Ls (.int y :: .int x :: st))) :=
  g_icmpB X hx hd ho hp hq (fun q => kT (by by_cases r : x = y <;> first | exact r | (rw [(teq r).1] at q; cases q) | (rw [(feq r).1] at q; cases q))) (fun q => kF (by by_cases r : x = y <;> first | exact r | (rw [(teq r).1] at q; cases q) | (rw [(feq r).1] at q; cases q)))
theorem g_icmp_ne (X : Stand p l e R s m args below meth c T locs cells slots) (hx : p.tables.exec = Jvm.exec) {x y : Int32} {o : Int} {pcF : Nat} (hd : decode c.code pc = .ok (.if_icmp .ne o, 3)) (ho : 0 ≤ (pc : Int) + o) (hp : ((pc : Int) + o).toNat = pc') (hq : pc + 3 = pcF) (kT : ¬ x = y → Go p e below G (T.setTop (mkF m pc' Ls st))) (kF : x = y → Go p e below G (T.setTop (mkF m pcF Ls st))) : Go p e below G (T.setTop (mkF m pc Ls (.int y :: .int x :: st))) :=
  g_icmpB X hx hd ho hp hq (fun q => kT (by by_cases r : x = y <;> first | exact r | (rw [(teq r).2] at q; cases q) | (rw [(feq r).2] at q; cases q))) (fun q => kF (by by_cases r : x = y <;> first | exact r | (rw [(teq r).2] at q; cases q) | (rw [(feq r).2] at q; cases q)))
theorem g_icmp_lt (X : Stand p l e R s m args below meth c T locs cells slots) (hx : p.tables.exec = Jvm.exec) {x y : Int32} {o : Int} {pcF : Nat} (hd : decode c.code pc = .ok (.if_icmp .lt o, 3)) (ho : 0 ≤ (pc : Int) + o) (hp : ((pc : Int) + o).toNat = pc') (hq : pc + 3 = pcF) (kT : x < y → Go p e below G (T.setTop (mkF m pc' Ls st))) (kF : ¬ x < y → Go p e below G (T.setTop (mkF m pcF Ls st))) : Go p e below G (T.setTop (mkF m pc Ls (.int y :: .int x :: st))) :=
  g_icmpB X hx hd ho hp hq (fun q => kT (by by_cases r : x < y <;> first | exact r | (rw [(tlt r).1] at q; cases q) | (rw [(flt r).1] at q; cases q))) (fun q => kF (by by_cases r : x < y <;> first | exact r | (rw [(tlt r).1] at q; cases q) | (rw [(flt r).1] at q; cases q)))
theorem g_icmp_ge (X : Stand p l e R s m args below meth c T locs cells slots) (hx : p.tables.exec = Jvm.exec) {x y : Int32} {o : Int} {pcF : Nat} (hd : decode c.code pc = .ok (.if_icmp .ge o, 3)) (ho : 0 ≤ (pc : Int) + o) (hp : ((pc : Int) + o).toNat = pc') (hq : pc + 3 = pcF) (kT : ¬ x < y → Go p e below G (T.setTop (mkF m pc' Ls st))) (kF : x < y → Go p e below G (T.setTop (mkF m pcF Ls st))) : Go p e below G (T.setTop (mkF m pc Ls (.int y :: .int x :: st))) :=
  g_icmpB X hx hd ho hp hq (fun q => kT (by by_cases r : x < y <;> first | exact r | (rw [(tlt r).2.1] at q; cases q) | (rw [(flt r).2.1] at q; cases q))) (fun q => kF (by by_cases r : x < y <;> first | exact r | (rw [(tlt r).2.1] at q; cases q) | (rw [(flt r).2.1] at q; cases q)))
theorem g_icmp_gt (X : Stand p l e R s m args below meth c T locs cells slots) (hx : p.tables.exec = Jvm.exec) {x y : Int32} {o : Int} {pcF : Nat} (hd : decode c.code pc = .ok (.if_icmp .gt o, 3)) (ho : 0 ≤ (pc : Int) + o) (hp : ((pc : Int) + o).toNat = pc') (hq : pc + 3 = pcF) (kT : y < x → Go p e below G (T.setTop (mkF m pc' Ls st))) (kF : ¬ y < x → Go p e below G (T.setTop (mkF m pcF Ls st))) : Go p e below G (T.setTop (mkF m pc Ls (.int y :: .int x :: st))) :=
  g_icmpB X hx hd ho hp hq (fun q => kT (by by_cases r : y < x <;> first | exact r | (rw [(tlt r).2.2.1] at q; cases q) | (rw [(flt r).2.2.1] at q; cases q))) (fun q => kF (by by_cases r : y < x <;> first | exact r | (rw [(tlt r).2.2.1] at q; cases q) | (rw [(flt r).2.2.1] at q; cases q)))
theorem g_icmp_le (X : Stand p l e R s m args below meth c T locs cells slots) (hx : p.tables.exec = Jvm.exec) {x y : Int32} {o : Int} {pcF : Nat} (hd : decode c.code pc = .ok (.if_icmp .le o, 3)) (ho : 0 ≤ (pc : Int) + o) (hp : ((pc : Int) + o).toNat = pc') (hq : pc + 3 = pcF) (kT : ¬ y < x → Go p e below G (T.setTop (mkF m pc' Ls st))) (kF : y < x → Go p e below G (T.setTop (mkF m pcF Ls st))) : Go p e below G (T.setTop (mkF m pc Ls (.int y :: .int x :: st))) :=
  g_icmpB X hx hd ho hp hq (fun q => kT (by by_cases r : y < x <;> first | exact r | (rw [(tlt r).2.2.2] at q; cases q) | (rw [(flt r).2.2.2] at q; cases q))) (fun q => kF (by by_cases r : y < x <;> first | exact r | (rw [(tlt r).2.2.2] at q; cases q) | (rw [(flt r).2.2.2] at q; cases q)))
theorem g_ifB (X : Stand p l e R s m args below meth c T locs cells slots) (hx : p.tables.exec = Jvm.exec) {cd : ClassFile.Cond} {x : Int32} {o : Int} {pcF : Nat} (hd : decode c.code pc = .ok (.ifCond cd o, 3)) (ho : 0 ≤ (pc : Int) + o) (hp : ((pc : Int) + o).toNat = pc') (hq : pc + 3 = pcF) (kT : ifCond.holds cd x = true → Go p e below G (T.setTop (mkF m pc' Ls st))) (kF : ifCond.holds cd x = false → Go p e below G (T.setTop (mkF m pcF Ls st))) : Go p e below G (T.setTop (mkF m pc Ls (.int x :: st))) := by
  cases q : ifCond.holds cd x
  · subst hq; exact Go.to (fun t r => XS.ifNo X.here hx rfl hd rfl q r) (kF q)
  · exact Go.to (fun t r => XS.ifYes X.here hx rfl (pc0 := pc) (pc' := pc') rfl hd rfl q ho hp r) (kT q)
theorem g_if_eq (X : Stand p l e R s m args below meth c T locs cells slots) (hx : p.tables.exec = Jvm.exec) {x : Int32} {o : Int} {pcF : Nat} (hd : decode c.code pc = .ok (.ifCond .eq o, 3)) (ho : 0 ≤ (pc : Int) + o) (hp : ((pc : Int) + o).toNat = pc') (hq : pc + 3 = pcF) (kT : x = 0 → Go p e below G (T.setTop (mkF m pc' Ls st))) (kF : ¬ x = 0 → Go p e below G (T.setTop (mkF m pcF Ls st))) : Go p e below G (T.setTop (mkF m pc Ls (.int x :: st))) :=
  g_ifB X hx hd ho hp hq (fun q => kT (by rw [if0] at q; by_cases r : x = 0 <;> first | exact r | (rw [(teq r).1] at q; cases q) | (rw [(feq r).1] at q; cases q))) (fun q => kF (by rw [if0] at q; by_cases r : x = 0 <;> first | exact r | (rw [(teq r).1] at q; cases q) | (rw [(feq r).1] at q; cases q)))
theorem g_if_ne (X : Stand p l e R s m args below meth c T locs cells slots) (hx : p.tables.exec = Jvm.exec) {x : Int32} {o : Int} {pcF : Nat} (hd : decode c.code pc = .ok (.ifCond .ne o, 3)) (ho : 0 ≤ (pc : Int) + o) (hp : ((pc : Int) + o).toNat = pc') (hq : pc + 3 = pcF) (kT : ¬ x = 0 → Go p e below G (T.setTop (mkF m pc' Ls st))) (kF : x = 0 → Go p e below G (T.setTop (mkF m pcF Ls st))) : Go p e below G (T.setTop (mkF m pc Ls (.int x :: st))) :=
  g_ifB X hx hd ho hp hq (fun q => kT (by rw [if0] at q; by_cases r : x = 0 <;> first | exact r | (rw [(teq r).2] at q; cases q) | (rw [(feq r).2] at q; cases q))) (fun q => kF (by rw [if0] at q; by_cases r : x = 0 <;> first | exact r | (rw [(teq r).2] at q; cases q) | (rw [(feq r).2] at q; cases q)))
theorem g_if_lt (X : Stand p l e R s m args below meth c T locs cells slots) (hx : p.tables.exec = Jvm.exec) {x : Int32} {o : Int} {pcF : Nat} (hd : decode c.code pc = .ok (.ifCond .lt o, 3)) (ho : 0 ≤ (pc : Int) + o) (hp : ((pc : Int) + o).toNat = pc') (hq : pc + 3 = pcF) (kT : x < 0 → Go p e below G (T.setTop (mkF m pc' Ls st))) (kF : ¬ x < 0 → Go p e below G (T.setTop (mkF m pcF Ls st))) : Go p e below G (T.setTop (mkF m pc Ls (.int x :: st))) :=
  g_ifB X hx hd ho hp hq (fun q => kT (by rw [if0] at q; by_cases r : x < 0 <;> first | exact r | (rw [(tlt r).1] at q; cases q) | (rw [(flt r).1] at q; cases q))) (fun q => kF (by rw [if0] at q; by_cases r : x < 0 <;> first | exact r | (rw [(tlt r).1] at q; cases q) | (rw [(flt r).1] at q; cases q)))
theorem g_if_ge (X : Stand p l e R s m args below meth c T locs cells slots) (hx : p.tables.exec = Jvm.exec) {x : Int32} {o : Int} {pcF : Nat} (hd : decode c.code pc = .ok (.ifCond .ge o, 3)) (ho : 0 ≤ (pc : Int) + o) (hp : ((pc : Int) + o).toNat = pc') (hq : pc + 3 = pcF) (kT : ¬ x < 0 → Go p e below G (T.setTop (mkF m pc' Ls st))) (kF : x < 0 → Go p e below G (T.setTop (mkF m pcF Ls st))) : Go p e below G (T.setTop (mkF m pc Ls (.int x :: st))) :=
  g_ifB X hx hd ho hp hq (fun q => kT (by rw [if0] at q; by_cases r : x < 0 <;> first | exact r | (rw [(tlt r).2.1] at q; cases q) | (rw [(flt r).2.1] at q; cases q))) (fun q => kF (by rw [if0] at q; by_cases r : x < 0 <;> first | exact r | (rw [(tlt r).2.1] at q; cases q) | (rw [(flt r).2.1] at q; cases q)))
theorem g_if_gt (X : Stand p l e R s m args below meth c T locs cells slots) (hx : p.tables.exec = Jvm.exec) {x : Int32} {o : Int} {pcF : Nat} (hd : decode c.code pc = .ok (.ifCond .gt o, 3)) (ho : 0 ≤ (pc : Int) + o) (hp : ((pc : Int) + o).toNat = pc') (hq : pc + 3 = pcF) (kT : 0 < x → Go p e below G (T.setTop (mkF m pc' Ls st))) (kF : ¬ 0 < x → Go p e below G (T.setTop (mkF m pcF Ls st))) : Go p e below G (T.setTop (mkF m pc Ls (.int x :: st))) :=
  g_ifB X hx hd ho hp hq (fun q => kT (by rw [if0] at q; by_cases r : 0 < x <;> first | exact r | (rw [(tlt r).2.2.1] at q; cases q) | (rw [(flt r).2.2.1] at q; cases q))) (fun q => kF (by rw [if0] at q; by_cases r : 0 < x <;> first | exact r | (rw [(tlt r).2.2.1] at q; cases q) | (rw [(flt r).2.2.1] at q; cases q)))
theorem g_if_le (X : Stand p l e R s m args below meth c T locs cells slots) (hx : p.tables.exec = Jvm.exec) {x : Int32} {o : Int} {pcF : Nat} (hd : decode c.code pc = .ok (.ifCond .le o, 3)) (ho : 0 ≤ (pc : Int) + o) (hp : ((pc : Int) + o).toNat = pc') (hq : pc + 3 = pcF) (kT : ¬ 0 < x → Go p e below G (T.setTop (mkF m pc' Ls st))) (kF : 0 < x → Go p e below G (T.setTop (mkF m pcF Ls st))) : Go p e below G (T.setTop (mkF m pc Ls (.int x :: st))) :=
  g_ifB X hx hd ho hp hq (fun q => kT (by rw [if0] at q; by_cases r : 0 < x <;> first | exact r | (rw [(tlt r).2.2.2] at q; cases q) | (rw [(flt r).2.2.2] at q; cases q))) (fun q => kF (by rw [if0] at q; by_cases r : 0 < x <;> first | exact r | (rw [(tlt r).2.2.2] at q; cases q) | (rw [(flt r).2.2.2] at q; cases q)))
theorem g_acmp (X : Stand p l e R s m args below meth c T locs cells slots) (hx : p.tables.exec = Jvm.exec) {cd : ClassFile.ACond} {x y : Value} {o : Int} {pcF : Nat} (P : Prop) [Decidable P] (hd : decode c.code pc = .ok (.if_acmp cd o, 3)) (hxr : x.isRef = true) (hyr : y.isRef = true) (hP : XT.acmp cd x y = decide P) (ho : 0 ≤ (pc : Int) + o) (hp : ((pc : Int) + o).toNat = pc') (hq : pc + 3 = pcF) (kT : P → Go p e below G (T.setTop (mkF m pc' Ls st))) (kF : ¬ P → Go p e below G (T.setTop (mkF m pcF Ls st))) : Go p e below G (T.setTop (mkF m pc Ls (y :: x :: st))) := by
  by_cases q : P
  · exact Go.to (fun t r => XT.acmpYes X.here hx rfl (pc0 := pc) (pc' := pc') rfl hd rfl hxr hyr (hP.trans (decide_eq_true q)) ho hp r) (kT q)
  · subst hq; exact Go.to (fun t r => XT.acmpNo X.here hx rfl hd rfl hxr hyr (hP.trans (decide_eq_false q)) r) (kF q)
theorem g_ifnullN (X : Stand p l e R s m args below meth c T locs cells slots) (hx : p.tables.exec = Jvm.exec) {o : Int} {b : Addr} (hd : decode c.code pc = .ok (.ifnull o, 3)) (hp : pc + 3 = pc') (k : Go p e below G (T.setTop (mkF m pc' Ls st))) : Go p e below G (T.setTop (mkF m pc Ls (.ref b :: st))) := by
  subst hp; exact Go.to (fun t q => XS.ifnullNo X.here hx rfl hd rfl q) k
theorem g_ifnullY (X : Stand p l e R s m args below meth c T locs cells slots) (hx : p.tables.exec = Jvm.exec) {o : Int} (hd : decode c.code pc = .ok (.ifnull o, 3)) (ho : 0 ≤ (pc : Int) + o) (hp : ((pc : Int) + o).toNat = pc') (k : Go p e below G (T.setTop (mkF m pc' Ls st))) : Go p e below G (T.setTop (mkF m pc Ls (.null :: st))) :=
  Go.to (fun t q => XS.ifnullYes X.here hx rfl (pc0 := pc) (pc' := pc') rfl hd rfl ho hp q) k
theorem g_ifnonnullN (X : Stand p l e R s m args below meth c T locs cells slots) (hx : p.tables.exec = Jvm.exec) {o : Int} (hd : decode c.code pc = .ok (.ifnonnull o, 3)) (hp : pc + 3 = pc') (k : Go p e below G (T.setTop (mkF m pc' Ls st))) : Go p e below G (T.setTop (mkF m pc Ls (.null :: st))) := by
  subst hp; exact Go.to (fun t q => XT.ifnonnullNo X.here hx rfl hd rfl q) k
theorem g_ifnonnullY (X : Stand p l e R s m args below meth c T locs cells slots) (hx : p.tables.exec = Jvm.exec) {o : Int} {b : Addr} (hd : decode c.code pc = .ok (.ifnonnull o, 3)) (ho : 0 ≤ (pc : Int) + o) (hp : ((pc : Int) + o).toNat = pc') (k : Go p e below G (T.setTop (mkF m pc' Ls st))) : Go p e below G (T.setTop (mkF m pc Ls (.ref b :: st))) :=
  Go.to (fun t q => XT.ifnonnullYes X.here hx rfl (pc0 := pc) (pc' := pc') rfl hd rfl ho hp q) k
theorem g_ldcI (X : Stand p l e R s m args below meth c T locs cells slots) (hx : p.tables.exec = Jvm.exec) (hZ : Z.Warmed39 s.vm) {own : String} {index : Nat} {v : Int32} (hown : s.vm.findClass own = some m.cls) (w : (Cond.constant own index v).before a0 Z = true) (hd : decode c.code pc = .ok (.ldc index, 2)) (hp : pc + 2 = pc') (k : Go p e below G (T.setTop (mkF m pc' Ls (.int v :: st)))) : Go p e below G (T.setTop (mkF m pc Ls st)) := by
  subst hp; exact Go.to (fun t q => X.ldcInt hx hown (mvT hZ w) (g := mkF m pc Ls st) rfl hd t q) k
theorem g_ldc2L (X : Stand p l e R s m args below meth c T locs cells slots) (hx : p.tables.exec = Jvm.exec) (hZ : Z.Warmed39 s.vm) {own : String} {index : Nat} {v : Int64} (hown : s.vm.findClass own = some m.cls) (w : (Cond.constantLong own index v).before a0 Z = true) (hd : decode c.code pc = .ok (.ldc2_w index, 3)) (hp : pc + 3 = pc') (k : Go p e below G (T.setTop (mkF m pc' Ls (.long v :: st)))) : Go p e below G (T.setTop (mkF m pc Ls st)) := by
  subst hp; exact Go.to (fun t q => X.ldc2Long hx hown (mvT hZ w) (g := mkF m pc Ls st) rfl hd t q) k
theorem g_ret (X : Stand p l e R s m args below meth c T locs cells slots) (hx : p.tables.exec = Jvm.exec) {w : Value} {t : FieldType} {i : Instr} {rest : List Value} {Q : Option Value → Heap → List Loc → Prop} {kc ks : Nat} (hret : meth.sig.returnType = some t) (hlk : meth.locks = false) (hn : narrow t w = w)
    (hi : (i = .ireturn ∧ (t = .int ∨ t = .boolean ∨ t = .byte ∨ t = .char ∨ t = .short) ∧ ∃ z, w = .int z) ∨ (i = .lreturn ∧ t = .long ∧ ∃ z, w = .long z) ∨ (i = .dreturn ∧ t = .double ∧ ∃ z, w = .double z) ∨ (i = .freturn ∧ t = .float ∧ ∃ z, w = .float z) ∨ (i = .areturn ∧ t.isReference = true ∧ w.isRef = true))
    (hd : decode c.code pc = .ok (i, 1)) (hc : cells ≤ kc) (hs : slots ≤ ks) (hq : Q (some w) T.heap locs) : Go p e below (Dn s below Q kc ks) (T.setTop (mkF m pc Ls (w :: rest))) := by
  obtain ⟨fs, hr, hrun, hended, hW, hsame⟩ := X.leave (v := some w) (fun h => by rw [hret] at h; cases h) hlk
  exact ⟨_, retOut X hx hret hn hi hd hr, _, hrun, hended, _, _, rfl, hq, ⟨_, rfl⟩, hW, hsame.mono hc hs⟩
theorem g_retI (X : Stand p l e R s m args below meth c T locs cells slots) (hx : p.tables.exec = Jvm.exec) {z : Int32} {rest : List Value} {Q : Option Value → Heap → List Loc → Prop} {kc ks : Nat} (hret : meth.sig.returnType = some .int) (hlk : meth.locks = false) (hd : decode c.code pc = .ok (.ireturn, 1)) (hc : cells ≤ kc) (hs : slots ≤ ks) (hq : Q (some (.int z)) T.heap locs) : Go p e below (Dn s below Q kc ks) (T.setTop (mkF m pc Ls (.int z :: rest))) :=
  g_ret X hx hret hlk rfl (Or.inl ⟨rfl, by simp, _, rfl⟩) hd hc hs hq
theorem g_retZ (X : Stand p l e R s m args below meth c T locs cells slots) (hx : p.tables.exec = Jvm.exec) {z : Int32} {rest : List Value} {Q : Option Value → Heap → List Loc → Prop} {kc ks : Nat} (hret : meth.sig.returnType = some .boolean) (hlk : meth.locks = false) (hz : nar .boolean z = z) (hd : decode c.code pc = .ok (.ireturn, 1)) (hc : cells ≤ kc) (hs : slots ≤ ks) (hq : Q (some (.int z)) T.heap locs) : Go p e below (Dn s below Q kc ks) (T.setTop (mkF m pc Ls (.int z :: rest))) :=
  g_ret X hx hret hlk (by show Value.int (nar .boolean z) = _; rw [hz]) (Or.inl ⟨rfl, by simp, _, rfl⟩) hd hc hs hq
theorem g_retR (X : Stand p l e R s m args below meth c T locs cells slots) (hx : p.tables.exec = Jvm.exec) {w : Value} {t : FieldType} {rest : List Value} {Q : Option Value → Heap → List Loc → Prop} {kc ks : Nat} (hret : meth.sig.returnType = some t) (hlk : meth.locks = false) (ht : t.isReference = true) (hw : w.isRef = true) (hd : decode c.code pc = .ok (.areturn, 1)) (hc : cells ≤ kc) (hs : slots ≤ ks) (hq : Q (some w) T.heap locs) : Go p e below (Dn s below Q kc ks) (T.setTop (mkF m pc Ls (w :: rest))) :=
  g_ret X hx hret hlk (by rcases ref_cases hw with rfl | ⟨a, rfl⟩ <;> cases t <;> first | rfl | cases ht) (Or.inr (Or.inr (Or.inr (Or.inr ⟨rfl, ht, hw⟩)))) hd hc hs hq
theorem g_retV (X : Stand p l e R s m args below meth c T locs cells slots) (hx : p.tables.exec = Jvm.exec) {Q : Option Value → Heap → List Loc → Prop} {kc ks : Nat} (hret : meth.sig.returnType = none) (hlk : meth.locks = false) (hd : decode c.code pc = .ok (.return_, 1)) (hc : cells ≤ kc) (hs : slots ≤ ks) (hq : Q none T.heap locs) : Go p e below (Dn s below Q kc ks) (T.setTop (mkF m pc Ls [])) := by
  obtain ⟨fs, hr, hrun, hended, hW, hsame⟩ := X.leave (v := none) (fun _ => rfl) hlk
  exact ⟨_, X.returnOut hx hret hd hr, _, hrun, hended, _, _, rfl, hq, ⟨_, rfl⟩, hW, hsame.mono hc hs⟩
theorem g_callS (X : Stand p l e R s m args below meth c T locs cells slots) (hx : p.tables.exec = Jvm.exec) (hZ : Z.Warmed39 s.vm) {own : String} {index : Nat} {y : MethodName} {bytes : ByteArray} {maxL : Nat} {ret : Option FieldType} {rm : Room} {as' : Array Value} {Q : Option Value → Heap → List Loc → Prop} (W : Nat) {argsL rest : List Value} (hown : s.vm.findClass own = some m.cls) (w1 : (Cond.methodLink own index y).before a0 Z = true) (w2 : (Cond.static y).before a0 Z = true) (w3 : (Cond.initialized y.cls).before a0 Z = true) (w4 : (Cond.code y bytes maxL ret).before a0 Z = true) (hy : y.cls ≠ "java/lang/invoke/MethodHandle" ∧ y.cls ≠ "java/lang/invoke/VarHandle")
    (eT : T.heap = h) (hM : Ct l Z y bytes maxL ret rm as' h Q) (hf : rm.frames + 1 ≤ R.frames) (hl : W + (maxL + 11) + rm.locals ≤ R.locals) (hsize : Ls.size = c.maxLocals) (hlen : ∀ sig, parseMethodDescriptor y.desc = some sig → argsL.length = sig.parameters.length) (has : argsL.toArray = as') (hW : (rest.map fun v => v.category).sum ≤ W) (hd : decode c.code pc = .ok (.invokestatic index, 3)) (hp : pc + 3 = pc') (hc : cells + rm.cells ≤ R.cells) (hs : slots + rm.slots ≤ R.slots)
    (hst : st = argsL.reverse ++ rest) (k : ∀ (T' : State) (v : Option Value) (L : List Loc), Stand p l e R s m args below meth c T' (locs ++ L) (cells + rm.cells) (slots + rm.slots) → Q v T'.heap L → Go p e below G (T'.setTop (mkF m pc' Ls (v.toList ++ rest)))) : Go p e below G (T.setTop (mkF m pc Ls st)) := by
  obtain ⟨v, vm₁, ⟨T', L', k', n'⟩, -, X', ⟨L, hQ, l', y', z'⟩, hst⟩ := Jvm.LawKit.callS X hx hown (mvT hZ w1) (mvT hZ w2) (mvT hZ w3) (mvT hZ w4) hy (backOf (W := W) (hM []) hZ w4 w3 hf hl) (g := mkF m pc Ls st) rfl hsize (argsL := argsL) (rest := rest) hlen hst (by show 2 * 0 + _ ≤ _; omega) hd (fun _ _ => ⟨has, eT, hc, hs⟩)
  dsimp only [Pt.U, Pt.locs, Pt.cells, Pt.slots] at X' l' y' z' hst hQ
  subst l' y' z' hp
  exact Go.to hst (k T' v L X' hQ)
theorem g_callI (X : Stand p l e R s m args below meth c T locs cells slots) (hx : p.tables.exec = Jvm.exec) (hZ : Z.Warmed39 s.vm) {own : String} {index : Nat} {y : MethodName} {bytes : ByteArray} {maxL : Nat} {rm : Room} {as' : Array Value} {Q : Option Value → Heap → List Loc → Prop} (W : Nat) {argsL rest : List Value} {a : Addr} (hown : s.vm.findClass own = some m.cls) (hy1 : y.name = "<init>") (w1 : (Cond.methodLink own index y).before a0 Z = true) (w2 : (Cond.instanceMethod y).before a0 Z = true) (w3 : (Cond.initialized y.cls).before a0 Z = true) (w4 : (Cond.code y bytes maxL none).before a0 Z = true) (hy : y.cls ≠ "java/lang/invoke/MethodHandle" ∧ y.cls ≠ "java/lang/invoke/VarHandle")
    (eT : T.heap = h) (hM : Ct l Z y bytes maxL none rm as' h Q) (hf : rm.frames + 1 ≤ R.frames) (hl : W + (maxL + 11) + rm.locals ≤ R.locals) (hsize : Ls.size = c.maxLocals) (hlen : ∀ sig, parseMethodDescriptor y.desc = some sig → argsL.length = sig.parameters.length) (has : (.ref a :: argsL).toArray = as') (hW : (rest.map fun v => v.category).sum ≤ W) (hd : decode c.code pc = .ok (.invokespecial index, 3)) (hp : pc + 3 = pc') (hc : cells + rm.cells ≤ R.cells) (hs : slots + rm.slots ≤ R.slots)
    (hst : st = argsL.reverse ++ .ref a :: rest) (k : ∀ (T' : State) (v : Option Value) (L : List Loc), Stand p l e R s m args below meth c T' (locs ++ L) (cells + rm.cells) (slots + rm.slots) → Q v T'.heap L → Go p e below G (T'.setTop (mkF m pc' Ls (v.toList ++ rest)))) : Go p e below G (T.setTop (mkF m pc Ls st)) := by
  obtain ⟨v, vm₁, ⟨T', L', k', n'⟩, -, X', ⟨L, hQ, l', y', z'⟩, hst⟩ := X.specialBack hx hy1 hown (mvT hZ w1) (mvT hZ w2) (mvT hZ w4) hy (backOf (W := W) (hM []) hZ w4 w3 hf hl) (g := mkF m pc Ls st) rfl hsize (Steps.refl _) (a := a) (argsL := argsL) (rest := rest) hlen hst (by show 2 * 0 + _ ≤ _; omega) hd (fun _ _ => ⟨has, eT, hc, hs⟩)
  dsimp only [Pt.U, Pt.locs, Pt.cells, Pt.slots] at X' l' y' z' hst hQ
  subst l' y' z' hp
  exact Go.to (fun t q => hst.trans q) (k T' v L X' hQ)
theorem g_callV (X : Stand p l e R s m args below meth c T locs cells slots) (hx : p.tables.exec = Jvm.exec) (hZ : Z.Warmed39 s.vm) {C : String} {own : String} {index : Nat} {y : MethodName} {bytes : ByteArray} {maxL : Nat} {ret : Option FieldType} {rm : Room} {as' : Array Value} {Q : Option Value → Heap → List Loc → Prop} (W : Nat) {argsL rest : List Value} {a : Addr} (hown : s.vm.findClass own = some m.cls) (w1 : (Cond.methodLink own index y).before a0 Z = true) (w2 : (Cond.declares y).before a0 Z = true) (w3 : (Cond.selects C y y).before a0 Z = true) (w4 : (Cond.instanceMethod y).before a0 Z = true) (w5 : (Cond.code y bytes maxL ret).before a0 Z = true) (w6 : (Cond.initialized y.cls).before a0 Z = true) (hy : y.cls ≠ "java/lang/invoke/MethodHandle" ∧ y.cls ≠ "java/lang/invoke/VarHandle")
    (eT : T.heap = h) (E : Exa Z h a C) (hM : Ct l Z y bytes maxL ret rm as' h Q) (hf : rm.frames + 1 ≤ R.frames) (hl : W + (maxL + 11) + rm.locals ≤ R.locals) (hsize : Ls.size = c.maxLocals) (hlen : ∀ sig, parseMethodDescriptor y.desc = some sig → argsL.length = sig.parameters.length) (has : (.ref a :: argsL).toArray = as') (hW : (rest.map fun v => v.category).sum ≤ W) (hd : decode c.code pc = .ok (.invokevirtual index, 3)) (hp : pc + 3 = pc') (hc : cells + rm.cells ≤ R.cells) (hs : slots + rm.slots ≤ R.slots)
    (hst : st = argsL.reverse ++ .ref a :: rest) (k : ∀ (T' : State) (v : Option Value) (L : List Loc), Stand p l e R s m args below meth c T' (locs ++ L) (cells + rm.cells) (slots + rm.slots) → Q v T'.heap L → Go p e below G (T'.setTop (mkF m pc' Ls (v.toList ++ rest)))) : Go p e below G (T.setTop (mkF m pc Ls st)) := by
  obtain ⟨cq, kq, qa, qb, qc⟩ := isOf hZ eT E
  obtain ⟨v, vm₁, ⟨T', L', k', n'⟩, -, X', ⟨L, hQ, l', y', z'⟩, hst⟩ := X.virtualBack hx hown (mvT hZ w1) (mvT hZ w2) (notFace_of_selects (args := #[]) (mvT hZ w3)) (mvT hZ w3) (mvT hZ w4) hy (backOf (W := W) (hM []) hZ w5 w6 hf hl) qa qc (g := mkF m pc Ls st) rfl hsize (Steps.refl _) (argsL := argsL) (rest := rest) hlen hst (by show 2 * 0 + _ ≤ _; omega) hd (fun _ _ => ⟨has, eT, hc, hs⟩)
  dsimp only [Pt.U, Pt.locs, Pt.cells, Pt.slots] at X' l' y' z' hst hQ
  subst l' y' z' hp
  exact Go.to (fun t q => hst.trans q) (k T' v L X' hQ)
theorem g_new (X : Stand p l e R s m args below meth c T locs cells slots) (hx : p.tables.exec = Jvm.exec) (hZ : Z.Warmed39 s.vm) {own C : String} {index n : Nat} (hown : s.vm.findClass own = some m.cls) (w : (Cond.classLink own index C).before a0 Z = true) (wi : (Cond.instantiable C n).before a0 Z = true) (wz : (Cond.initialized C).before a0 Z = true) (eT : T.heap = h) (hd : decode c.code pc = .ok (.new index, 3)) (hp : pc + 3 = pc') (hc : cells + 1 ≤ R.cells) (hl : slots + n ≤ R.slots)
    (k : ∀ (T' : State) (h' : Heap) (a : Addr), a = h.size → Stand p l e R s m args below meth c T' locs (cells + 1) (slots + n) → T'.heap = h' → Ext h h' → Exa Z h' a C → (∀ {O nm d : String} {ty : FieldType}, Laid Z a0 C O nm d → parseFieldDescriptor d = some ty → Fld Z h' a O nm d (defaultValue ty)) → Go p e below G (T'.setTop (mkF m pc' Ls (.ref a :: st)))) : Go p e below G (T.setTop (mkF m pc Ls st)) := by
  obtain ⟨T', h', X', e', E, A, D, -, hst⟩ := newO X hx hZ hown w wi wz eT (g := mkF m pc Ls st) rfl hd hc hl
  subst hp
  exact Go.to hst (k T' h' _ rfl X' e' E A D)
theorem g_initO (X : Stand p l e R s m args below meth c T locs cells slots) (hx : p.tables.exec = Jvm.exec) (hZ : Z.Warmed39 s.vm) {own : String} {index : Nat} {a : Addr} (hown : s.vm.findClass own = some m.cls) (w1 : (Cond.methodLink own index Lib.objectInit).before a0 Z = true) (w2 : (Cond.instanceMethod Lib.objectInit).before a0 Z = true) (w3 : (Cond.code Lib.objectInit object_method_1_code 1 none).before a0 Z = true)
    (eT : T.heap = h) (hsize : Ls.size = c.maxLocals) (hd : decode c.code pc = .ok (.invokespecial index, 3)) (hp : pc + 3 = pc') (hf : 1 ≤ R.frames) (W : Nat) (hW : (st.map fun v => v.category).sum ≤ W) (hl : W + 12 ≤ R.locals) (k : ∀ (T' : State), Stand p l e R s m args below meth c T' locs cells slots → T'.heap = h → Go p e below G (T'.setTop (mkF m pc' Ls st))) : Go p e below G (T.setTop (mkF m pc Ls (.ref a :: st))) := by
  obtain ⟨T', X', e', hst⟩ := initO X hx hZ hown w1 w2 w3 eT (g := mkF m pc Ls (.ref a :: st)) rfl hsize rfl hd hf (W := W) (by show 2 * 0 + _ ≤ _; omega) hl
  subst hp
  exact Go.to hst (k T' X' e')
theorem g_putF (X : Stand p l e R s m args below meth c T locs cells slots) (hx : p.tables.exec = Jvm.exec) (hZ : Z.Warmed39 s.vm) {own R0 O n d host C : String} {index kk : Nat} (ty : FieldType) {a : Addr} {v old : Value} (hown : s.vm.findClass own = some m.cls) (w : (Cond.fieldLink own index R0 n d).before a0 Z = true ∨ (Cond.fieldLinkNest own index R0 n d host).before a0 Z = true) (via : Via Z R0 O n d) (eT : T.heap = h) (F : Fld Z h a O n d old) (E : Exa Z h a C) (L : (Cond.lays C O n d).before a0 Z = true ∨ ((Cond.laysFinal C O n d).before a0 Z = true ∧ own = O ∧ meth.name = "<init>")) (wi : (Cond.instantiable C kk).before a0 Z = true)
    (hty : parseFieldDescriptor d = some ty) (hn : narrow ty v = v) (hf : fits ty v = true) (hd : decode c.code pc = .ok (.putfield index, 3)) (hp : pc + 3 = pc') (k : ∀ (T' : State) (h' : Heap), Stand p l e R s m args below meth c T' (locs ++ [⟨a, Jvm.RoadKit.slotOf Z O n d⟩]) cells slots → T'.heap = h' → Wr h h' a (Jvm.RoadKit.slotOf Z O n d) v → Go p e below G (T'.setTop (mkF m pc' Ls st))) : Go p e below G (T.setTop (mkF m pc Ls (v :: .ref a :: st))) := by
  obtain ⟨T', h', X', e', W, hst⟩ := putF X hx hZ hown w via eT F E L wi hty hn hf (g := mkF m pc Ls (v :: .ref a :: st)) rfl rfl hd
  subst hp
  exact Go.to hst (k T' h' X' e' W)
theorem g_getF (X : Stand p l e R s m args below meth c T locs cells slots) (hx : p.tables.exec = Jvm.exec) (hZ : Z.Warmed39 s.vm) {own R0 O n d host : String} {index : Nat} {a : Addr} {v : Value} (hown : s.vm.findClass own = some m.cls) (w : (Cond.fieldLink own index R0 n d).before a0 Z = true ∨ (Cond.fieldLinkNest own index R0 n d host).before a0 Z = true) (via : Via Z R0 O n d) (eT : T.heap = h) (F : Fld Z h a O n d v) (hd : decode c.code pc = .ok (.getfield index, 3)) (hp : pc + 3 = pc')
    (k : ∀ (T' : State), Stand p l e R s m args below meth c T' locs cells slots → T'.heap = h → Go p e below G (T'.setTop (mkF m pc' Ls (v :: st)))) : Go p e below G (T.setTop (mkF m pc Ls (.ref a :: st))) := by
  obtain ⟨T', X', e', hst⟩ := getF X hx hZ hown w via eT F (g := mkF m pc Ls (.ref a :: st)) rfl rfl hd
  subst hp
  exact Go.to hst (k T' X' e')
theorem g_getS (X : Stand p l e R s m args below meth c T locs cells slots) (hx : p.tables.exec = Jvm.exec) (hZ : Z.Warmed39 s.vm) {own R0 O n d : String} {index : Nat} {v : Value} (hown : s.vm.findClass own = some m.cls) (w : (Cond.fieldLink own index R0 n d).before a0 Z = true) (via : Via Z R0 O n d) (eT : T.heap = h) (F : Sta Z h O n d v) (hd : decode c.code pc = .ok (.getstatic index, 3)) (hp : pc + 3 = pc')
    (k : ∀ (T' : State), Stand p l e R s m args below meth c T' locs cells slots → T'.heap = h → Go p e below G (T'.setTop (mkF m pc' Ls (v :: st)))) : Go p e below G (T.setTop (mkF m pc Ls st)) := by
  obtain ⟨T', X', e', hst⟩ := getS (host := "") X hx hZ hown w via eT F (g := mkF m pc Ls st) rfl hd
  subst hp
  exact Go.to hst (k T' X' e')
/-- an array of ty with n places at a; place j holds f j -/
def Av (Z : State) (h : Heap) (a : Addr) (ty : FieldType) (n : Nat) (f : Nat → Value) : Prop := ∃ c : Cell, Arr Z h a c ty ∧ c.slots.size = n ∧ ∀ j, j < n → c.slots[j]? = some (f j)
def upd (f : Nat → Value) (i : Nat) (v : Value) : Nat → Value := fun j => if j = i then v else f j
theorem Av.lt {a : Addr} {ty : FieldType} {n : Nat} {f : Nat → Value} (A : Av Z h a ty n f) : a < h.size := by obtain ⟨c, A, -⟩ := A; exact A.lt
theorem Av.ext {h' : Heap} {a : Addr} {ty : FieldType} {n : Nat} {f : Nat → Value} (A : Av Z h a ty n f) (E : Ext h h') : Av Z h' a ty n f := by obtain ⟨c, A, r⟩ := A; exact ⟨c, A.ext E, r⟩
theorem Av.other {h' : Heap} {a b : Addr} {ty : FieldType} {n sl : Nat} {f : Nat → Value} {v : Value} (A : Av Z h b ty n f) (W : Wr h h' a sl v) (q : b ≠ a) : Av Z h' b ty n f := by obtain ⟨c, A, r⟩ := A; exact ⟨c, A.other W q, r⟩
theorem Av.keep {h' : Heap} {a : Addr} {ty : FieldType} {n : Nat} {f : Nat → Value} {ws : List Addr} (A : Av Z h a ty n f) (K : Keep h h' ws) (q : a ∉ ws) : Av Z h' a ty n f := by obtain ⟨c, A, r⟩ := A; exact ⟨c, ⟨K.2.1 a c A.1 q, A.2⟩, r⟩
theorem Av.same {h' : Heap} {a : Addr} {ty : FieldType} {n i : Nat} {f : Nat → Value} {v : Value} (A : Av Z h a ty n f) (W : Wr h h' a i v) : Av Z h' a ty n (upd f i v) := by
  obtain ⟨c, A, r1, r2⟩ := A
  refine ⟨_, A.same W, by rw [sz_set]; exact r1, fun j hj => ?_⟩
  by_cases u : j = i
  · subst u; simp [Cell.setSlot, upd, r1, hj]
  · simp only [Cell.setSlot, upd, if_neg u]; rw [Array.getElem?_setIfInBounds_ne (Ne.symm u)]; exact r2 j hj
theorem Av.congr {a : Addr} {ty : FieldType} {n : Nat} {f g : Nat → Value} (A : Av Z h a ty n f) (q : ∀ j, j < n → f j = g j) : Av Z h a ty n g := by obtain ⟨c, A, r1, r2⟩ := A; exact ⟨c, A, r1, fun j hj => by rw [← q j hj]; exact r2 j hj⟩
theorem Av.ne {a b : Addr} {ty ty' : FieldType} {n : Nat} {f : Nat → Value} (A : Av Z h a ty n f) (q : h.size ≤ b) : a ≠ b := fun e => absurd A.lt (Nat.not_lt.mpr (e ▸ q))
theorem in_of {c : Cell} {n i : Nat} {j : Int32} (S : c.slots.size = n) (q : ¬ j < 0) (hj : j.toNatClampNeg = i) (hi : i < n) : ¬ (j < 0 ∨ c.slots.size ≤ j.toNatClampNeg) := fun z => z.elim q fun y => absurd hi (Nat.not_lt.mpr (by rw [← hj, ← S]; exact y))
theorem g_newarr (X : Stand p l e R s m args below meth c T locs cells slots) (hx : p.tables.exec = Jvm.exec) (hZ : Z.Warmed39 s.vm) {aty : ArrayType} {ty : FieldType} (w : (Cond.arrayClass ty).before a0 Z = true) (hty : newarray.typeOf aty = ty) (eT : T.heap = h) (hd : decode c.code pc = .ok (.newarray aty, 2)) (hp : pc + 2 = pc') {z : Int32} {n : Nat} (hz : ¬ z < 0) (hn : z.toNatClampNeg = n) (cap : Nat) (hcap : n ≤ cap) (hb : cap * 8 ≤ 536870912) (hc : cells + 1 ≤ R.cells) (hl : slots + cap ≤ R.slots)
    (k : ∀ (T' : State) (h' : Heap) (a : Addr), a = h.size → Stand p l e R s m args below meth c T' locs (cells + 1) (slots + cap) → T'.heap = h' → Ext h h' → Av Z h' a ty n (fun _ => defaultValue ty) → Go p e below G (T'.setTop (mkF m pc' Ls (.ref a :: st)))) : Go p e below G (T.setTop (mkF m pc Ls (.int z :: st))) := by
  subst hty
  obtain ⟨T', h', cA, X', e', E, A, hst⟩ := newP X hx hZ w eT (g := mkF m pc Ls (.int z :: st)) rfl hd rfl hz (cap := cap) (by omega) hb hc hl
  subst hp
  exact Go.to hst (k T' h' _ rfl X' e' E ⟨_, A, by rw [sz_new]; exact hn, fun j hj => by rw [← hn] at hj; simp [newA, hj]⟩)
theorem g_newarrR (X : Stand p l e R s m args below meth c T locs cells slots) (hx : p.tables.exec = Jvm.exec) (hZ : Z.Warmed39 s.vm) {own C : String} {index : Nat} (hown : s.vm.findClass own = some m.cls) (w1 : (Cond.classLink own index C).before a0 Z = true) (w2 : (Cond.arrayOver (.object C)).before a0 Z = true) (eT : T.heap = h) (hd : decode c.code pc = .ok (.anewarray index, 3)) (hp : pc + 3 = pc') {z : Int32} {n : Nat} (hz : ¬ z < 0) (hn : z.toNatClampNeg = n) (cap : Nat) (hcap : n ≤ cap) (hb : cap * 8 ≤ 536870912) (hc : cells + 1 ≤ R.cells) (hl : slots + cap ≤ R.slots)
    (k : ∀ (T' : State) (h' : Heap) (a : Addr) (cA : ClassId), a = h.size → Stand p l e R s m args below meth c T' locs (cells + 1) (slots + cap) → T'.heap = h' → Ext h h' → Av Z h' a (.object C) n (fun _ => .null) → Ovr Z cA C → (∃ cl : Cell, h'[a]? = some cl ∧ cl.cls = cA) → Go p e below G (T'.setTop (mkF m pc' Ls (.ref a :: st)))) : Go p e below G (T.setTop (mkF m pc Ls (.int z :: st))) := by
  obtain ⟨T', h', cA, X', e', E, A, O, hst⟩ := newR X hx hZ hown w1 w2 eT (g := mkF m pc Ls (.int z :: st)) rfl hd rfl hz (cap := cap) (by omega) hb hc hl
  subst hp
  exact Go.to hst (k T' h' _ cA rfl X' e' E ⟨_, A, by rw [sz_new]; exact hn, fun j hj => by rw [← hn] at hj; simp [newA, hj, defaultValue]⟩ O ⟨_, A.1, rfl⟩)
theorem g_iaload (X : Stand p l e R s m args below meth c T locs cells slots) (hx : p.tables.exec = Jvm.exec) (hZ : Z.Warmed39 s.vm) {a : Addr} {n i : Nat} {f : Nat → Value} {j : Int32} {v : Int32} (eT : T.heap = h) (A : Av Z h a .int n f) (hj0 : ¬ j < 0) (hj : j.toNatClampNeg = i) (hi : i < n) (hv : f i = .int v) (hd : decode c.code pc = .ok (.iaload, 1)) (hp : pc + 1 = pc') (k : Go p e below G (T.setTop (mkF m pc' Ls (.int v :: st)))) : Go p e below G (T.setTop (mkF m pc Ls (.int j :: .ref a :: st))) := by
  obtain ⟨cl, Ar, S, H⟩ := A
  subst hp
  exact Go.to (fun t q => X.iaload hx (j := j) (v := .int v) (by rw [eT]; exact Ar.1) (State.isArrayOf_alike hZ.alike Ar.2.1) Ar.2.2 (in_of S hj0 hj hi) (by rw [hj, ← hv]; exact H i hi) (g := mkF m pc Ls (.int j :: .ref a :: st)) rfl rfl hd _ q) k
theorem g_baload (X : Stand p l e R s m args below meth c T locs cells slots) (hx : p.tables.exec = Jvm.exec) (hZ : Z.Warmed39 s.vm) {a : Addr} {n i : Nat} {f : Nat → Value} {j : Int32} {v : Int32} (eT : T.heap = h) (A : Av Z h a .byte n f) (hj0 : ¬ j < 0) (hj : j.toNatClampNeg = i) (hi : i < n) (hv : f i = .int v) (hd : decode c.code pc = .ok (.baload, 1)) (hp : pc + 1 = pc') (k : Go p e below G (T.setTop (mkF m pc' Ls (.int v :: st)))) : Go p e below G (T.setTop (mkF m pc Ls (.int j :: .ref a :: st))) := by
  obtain ⟨cl, Ar, S, H⟩ := A
  subst hp
  exact Go.to (fun t q => X.baloadBytes hx (j := j) (v := .int v) (by rw [eT]; exact Ar.1) (State.isArrayOf_alike hZ.alike Ar.2.1) Ar.2.2 (in_of S hj0 hj hi) (by rw [hj, ← hv]; exact H i hi) (g := mkF m pc Ls (.int j :: .ref a :: st)) rfl rfl hd _ q) k
theorem g_laload (X : Stand p l e R s m args below meth c T locs cells slots) (hx : p.tables.exec = Jvm.exec) (hZ : Z.Warmed39 s.vm) {a : Addr} {n i : Nat} {f : Nat → Value} {j : Int32} {v : Int64} (eT : T.heap = h) (A : Av Z h a .long n f) (hj0 : ¬ j < 0) (hj : j.toNatClampNeg = i) (hi : i < n) (hv : f i = .long v) (hd : decode c.code pc = .ok (.laload, 1)) (hp : pc + 1 = pc') (k : Go p e below G (T.setTop (mkF m pc' Ls (.long v :: st)))) : Go p e below G (T.setTop (mkF m pc Ls (.int j :: .ref a :: st))) := by
  obtain ⟨cl, Ar, S, H⟩ := A
  subst hp
  exact Go.to (fun t q => X.laload hx (j := j) (v := .long v) (by rw [eT]; exact Ar.1) (State.isArrayOf_alike hZ.alike Ar.2.1) Ar.2.2 (in_of S hj0 hj hi) (by rw [hj, ← hv]; exact H i hi) (g := mkF m pc Ls (.int j :: .ref a :: st)) rfl rfl hd _ q) k
theorem g_aaload (X : Stand p l e R s m args below meth c T locs cells slots) (hx : p.tables.exec = Jvm.exec) (hZ : Z.Warmed39 s.vm) {a : Addr} {n i : Nat} {f : Nat → Value} {j : Int32} {v : Value} {ty : FieldType} (eT : T.heap = h) (A : Av Z h a ty n f) (hty : ty.isReference = true) (hj0 : ¬ j < 0) (hj : j.toNatClampNeg = i) (hi : i < n) (hv : f i = v) (hd : decode c.code pc = .ok (.aaload, 1)) (hp : pc + 1 = pc') (k : Go p e below G (T.setTop (mkF m pc' Ls (v :: st)))) : Go p e below G (T.setTop (mkF m pc Ls (.int j :: .ref a :: st))) := by
  obtain ⟨cl, Ar, S, H⟩ := A
  subst hp
  exact Go.to (fun t q => X.aaload hx (j := j) (v := v) (by rw [eT]; exact Ar.1) (State.isArrayOf_alike hZ.alike Ar.2.1) hty Ar.2.2 (in_of S hj0 hj hi) (by rw [hj, ← hv]; exact H i hi) (g := mkF m pc Ls (.int j :: .ref a :: st)) rfl rfl hd _ q) k
theorem g_arraylength (X : Stand p l e R s m args below meth c T locs cells slots) (hx : p.tables.exec = Jvm.exec) (hZ : Z.Warmed39 s.vm) {a : Addr} {n : Nat} {f : Nat → Value} {z : Int32} {ty : FieldType} (eT : T.heap = h) (A : Av Z h a ty n f) (hz : n.toInt32 = z) (hd : decode c.code pc = .ok (.arraylength, 1)) (hp : pc + 1 = pc') (k : Go p e below G (T.setTop (mkF m pc' Ls (.int z :: st)))) : Go p e below G (T.setTop (mkF m pc Ls (.ref a :: st))) := by
  obtain ⟨cl, Ar, S, H⟩ := A
  subst hp hz S
  exact Go.to (fun t q => X.arraylength hx (by rw [eT]; exact Ar.1) (State.isArrayOf_alike hZ.alike Ar.2.1) (g := mkF m pc Ls (.ref a :: st)) rfl rfl hd _ q) k
theorem g_iastore (X : Stand p l e R s m args below meth c T locs cells slots) (hx : p.tables.exec = Jvm.exec) (hZ : Z.Warmed39 s.vm) {a : Addr} {n i : Nat} {f : Nat → Value} {j : Int32} {x : Int32} (eT : T.heap = h) (A : Av Z h a .int n f) (hj0 : ¬ j < 0) (hj : j.toNatClampNeg = i) (hi : i < n) (hd : decode c.code pc = .ok (.iastore, 1)) (hp : pc + 1 = pc')
    (k : ∀ (T' : State) (h' : Heap), Stand p l e R s m args below meth c T' (locs ++ [⟨a, i⟩]) cells slots → T'.heap = h' → Wr h h' a i (.int x) → Av Z h' a .int n (upd f i (.int x)) → Go p e below G (T'.setTop (mkF m pc' Ls st))) : Go p e below G (T.setTop (mkF m pc Ls (.int x :: .int j :: .ref a :: st))) := by
  obtain ⟨cl, Ar, S, H⟩ := id A
  obtain ⟨T', h', X', e', W, hst⟩ := stI X hx hZ eT Ar (in_of S hj0 hj hi) (g := mkF m pc Ls (.int x :: .int j :: .ref a :: st)) rfl rfl hd
  subst hp hj
  exact Go.to hst (k T' h' X' e' W (A.same W))
theorem g_lastore (X : Stand p l e R s m args below meth c T locs cells slots) (hx : p.tables.exec = Jvm.exec) (hZ : Z.Warmed39 s.vm) {a : Addr} {n i : Nat} {f : Nat → Value} {j : Int32} {x : Int64} (eT : T.heap = h) (A : Av Z h a .long n f) (hj0 : ¬ j < 0) (hj : j.toNatClampNeg = i) (hi : i < n) (hd : decode c.code pc = .ok (.lastore, 1)) (hp : pc + 1 = pc')
    (k : ∀ (T' : State) (h' : Heap), Stand p l e R s m args below meth c T' (locs ++ [⟨a, i⟩]) cells slots → T'.heap = h' → Wr h h' a i (.long x) → Av Z h' a .long n (upd f i (.long x)) → Go p e below G (T'.setTop (mkF m pc' Ls st))) : Go p e below G (T.setTop (mkF m pc Ls (.long x :: .int j :: .ref a :: st))) := by
  obtain ⟨cl, Ar, S, H⟩ := id A
  obtain ⟨T', h', X', e', W, hst⟩ := stJ X hx hZ eT Ar (in_of S hj0 hj hi) (g := mkF m pc Ls (.long x :: .int j :: .ref a :: st)) rfl rfl hd
  subst hp hj
  exact Go.to hst (k T' h' X' e' W (A.same W))
theorem g_bastore (X : Stand p l e R s m args below meth c T locs cells slots) (hx : p.tables.exec = Jvm.exec) (hZ : Z.Warmed39 s.vm) {a : Addr} {n i : Nat} {f : Nat → Value} {j : Int32} {x : Int32} (eT : T.heap = h) (A : Av Z h a .byte n f) (hj0 : ¬ j < 0) (hj : j.toNatClampNeg = i) (hi : i < n) (hd : decode c.code pc = .ok (.bastore, 1)) (hp : pc + 1 = pc')
    (k : ∀ (T' : State) (h' : Heap), Stand p l e R s m args below meth c T' (locs ++ [⟨a, i⟩]) cells slots → T'.heap = h' → Wr h h' a i (.int (nar .byte x)) → Av Z h' a .byte n (upd f i (.int (nar .byte x))) → Go p e below G (T'.setTop (mkF m pc' Ls st))) : Go p e below G (T.setTop (mkF m pc Ls (.int x :: .int j :: .ref a :: st))) := by
  obtain ⟨cl, Ar, S, H⟩ := id A
  obtain ⟨T', h', X', e', W, hst⟩ := stB X hx hZ eT Ar (in_of S hj0 hj hi) (g := mkF m pc Ls (.int x :: .int j :: .ref a :: st)) rfl rfl hd
  subst hp hj
  exact Go.to hst (k T' h' X' e' W (A.same W))
theorem g_aastore (X : Stand p l e R s m args below meth c T locs cells slots) (hx : p.tables.exec = Jvm.exec) (hZ : Z.Warmed39 s.vm) {a : Addr} {n i : Nat} {f : Nat → Value} {j : Int32} {v : Value} {ty : FieldType} (eT : T.heap = h) (A : Av Z h a ty n f) (hty : ty.isReference = true) (F : Sto Z h a v) (hj0 : ¬ j < 0) (hj : j.toNatClampNeg = i) (hi : i < n) (hd : decode c.code pc = .ok (.aastore, 1)) (hp : pc + 1 = pc')
    (k : ∀ (T' : State) (h' : Heap), Stand p l e R s m args below meth c T' (locs ++ [⟨a, i⟩]) cells slots → T'.heap = h' → Wr h h' a i v → Av Z h' a ty n (upd f i v) → Go p e below G (T'.setTop (mkF m pc' Ls st))) : Go p e below G (T.setTop (mkF m pc Ls (v :: .int j :: .ref a :: st))) := by
  obtain ⟨cl, Ar, S, H⟩ := id A
  obtain ⟨T', h', X', e', W, hst⟩ := stR X hx hZ eT Ar (in_of S hj0 hj hi) hty F (g := mkF m pc Ls (v :: .int j :: .ref a :: st)) rfl rfl hd
  subst hp hj
  exact Go.to hst (k T' h' X' e' W (A.same W))
end Kit
section Kit2
variable {p : Program} {l : Launch} {e : Env} {R : Room} {s : State} {m : MethodId} {args : Array Value} {below : List Frame} {meth : Method} {c : Code} {T : State} {locs : List Loc} {cells slots : Nat} {Z : State} {a0 : Array Value} {h : Heap} {G : State → Prop} {pc pc' : Nat} {Ls Ls' : Array Slot} {st : List Value}
theorem g_ifnull (X : Stand p l e R s m args below meth c T locs cells slots) (hx : p.tables.exec = Jvm.exec) {o : Int} {v : Value} {pcF : Nat} (hv : v.isRef = true) (hd : decode c.code pc = .ok (.ifnull o, 3)) (ho : 0 ≤ (pc : Int) + o) (hp : ((pc : Int) + o).toNat = pc') (hq : pc + 3 = pcF) (kT : v = .null → Go p e below G (T.setTop (mkF m pc' Ls st))) (kF : ∀ b, v = .ref b → Go p e below G (T.setTop (mkF m pcF Ls st))) : Go p e below G (T.setTop (mkF m pc Ls (v :: st))) := by
  rcases ref_cases hv with rfl | ⟨b, rfl⟩
  · exact g_ifnullY X hx hd ho hp (kT rfl)
  · exact g_ifnullN X hx hd hq (kF b rfl)
theorem g_ifnonnull (X : Stand p l e R s m args below meth c T locs cells slots) (hx : p.tables.exec = Jvm.exec) {o : Int} {v : Value} {pcF : Nat} (hv : v.isRef = true) (hd : decode c.code pc = .ok (.ifnonnull o, 3)) (ho : 0 ≤ (pc : Int) + o) (hp : ((pc : Int) + o).toNat = pc') (hq : pc + 3 = pcF) (kT : ∀ b, v = .ref b → Go p e below G (T.setTop (mkF m pc' Ls st))) (kF : v = .null → Go p e below G (T.setTop (mkF m pcF Ls st))) : Go p e below G (T.setTop (mkF m pc Ls (v :: st))) := by
  rcases ref_cases hv with rfl | ⟨b, rfl⟩
  · exact g_ifnonnullN X hx hd hq (kF rfl)
  · exact g_ifnonnullY X hx hd ho hp (kT b rfl)
/-- an object of class C at a; its fields (declaring class, name, descriptor) hold g name -/
def Ob (Z : State) (h : Heap) (a : Addr) (C : String) (fs : List (String × String × String)) (g : String → Value) : Prop := Exa Z h a C ∧ ∀ q ∈ fs, Fld Z h a q.1 q.2.1 q.2.2 (g q.2.1)
def set (g : String → Value) (n : String) (v : Value) : String → Value := fun k => if k = n then v else g k
def Lds (Z : State) (a0 : Array Value) (C : String) (fs : List (String × String × String)) : Prop := ∀ q ∈ fs, Laid Z a0 C q.1 q.2.1 q.2.2
theorem Ob.lt {a : Addr} {C : String} {fs : List (String × String × String)} {g : String → Value} (F : Ob Z h a C fs g) : a < h.size := F.1.lt
theorem Ob.ext {h' : Heap} {a : Addr} {C : String} {fs : List (String × String × String)} {g : String → Value} (F : Ob Z h a C fs g) (E : Ext h h') : Ob Z h' a C fs g := ⟨F.1.ext E, fun q hq => (F.2 q hq).ext E⟩
theorem Ob.other {h' : Heap} {a b : Addr} {C : String} {fs : List (String × String × String)} {g : String → Value} {sl : Nat} {v : Value} (F : Ob Z h b C fs g) (W : Wr h h' a sl v) (ne : b ≠ a) : Ob Z h' b C fs g := ⟨F.1.wr W, fun q hq => (F.2 q hq).other W (Or.inl ne)⟩
theorem Ob.keep {h' : Heap} {a : Addr} {C : String} {fs : List (String × String × String)} {g : String → Value} {ws : List Addr} (F : Ob Z h a C fs g) (K : Keep h h' ws) (ne : a ∉ ws) : Ob Z h' a C fs g := ⟨F.1.keep K, fun q hq => (F.2 q hq).keep K ne⟩
theorem Ob.congr {a : Addr} {C : String} {fs : List (String × String × String)} {g g' : String → Value} (F : Ob Z h a C fs g) (e : ∀ q ∈ fs, g q.2.1 = g' q.2.1) : Ob Z h a C fs g' := ⟨F.1, fun q hq => by rw [← e q hq]; exact F.2 q hq⟩
theorem Ob.put {h' : Heap} {a : Addr} {C O n d : String} {fs : List (String × String × String)} {g : String → Value} {v : Value} (L : Lds Z a0 C fs) (U : fs.all (fun q => fs.all (fun r => decide (q.2.1 = r.2.1 → q = r))) = true) (D : fs.all (fun q => (parseFieldDescriptor q.2.2).isSome) = true) (F : Ob Z h a C fs g) (hm : (O, n, d) ∈ fs) (W : Wr h h' a (Jvm.RoadKit.slotOf Z O n d) v) : Ob Z h' a C fs (set g n v) := by
  refine ⟨F.1.wr W, fun q hq => ?_⟩
  by_cases u : q.2.1 = n
  · have e : q = (O, n, d) := of_decide_eq_true (List.all_eq_true.mp (List.all_eq_true.mp U q hq) _ hm) u
    subst e
    have := (F.2 _ hm).same W
    simpa [set] using this
  · obtain ⟨t1, h1⟩ := Option.isSome_iff_exists.mp (List.all_eq_true.mp D q hq)
    obtain ⟨t2, h2⟩ := Option.isSome_iff_exists.mp (List.all_eq_true.mp D _ hm)
    have := (F.2 q hq).other W (Or.inr (slot_ne (L q hq) (L _ hm) u h1 h2))
    simpa [set, u] using this
theorem Ob.new {a : Addr} {C : String} {fs : List (String × String × String)} {g : String → Value} (L : Lds Z a0 C fs) (E : Exa Z h a C) (D : ∀ {O nm d : String} {ty : FieldType}, Laid Z a0 C O nm d → parseFieldDescriptor d = some ty → Fld Z h a O nm d (defaultValue ty)) (hg : fs.all (fun q => decide ((parseFieldDescriptor q.2.2).map defaultValue = some (g q.2.1))) = true) : Ob Z h a C fs g := by
  refine ⟨E, fun q hq => ?_⟩
  have := of_decide_eq_true (List.all_eq_true.mp hg q hq)
  obtain ⟨t, h1, h2⟩ := Option.map_eq_some_iff.mp this
  rw [← h2]; exact D (L q hq) h1
theorem ext_of_keep {h' : Heap} (K : Keep h h' []) : Ext h h' := ⟨K.1, fun a c q => K.2.1 a c q nin0⟩
def DnW (s : State) (below : List Frame) (Q : Option Value → Heap → List Loc → Prop) (kc ks : Nat) (t : State) : Prop := ∃ o, t.status = .running ∧ Ended t below o ∧ ∃ v L, o = .returned v ∧ Q v t.heap L ∧ ReturnedEndW s o t L kc ks
def CtW (l : Launch) (Z : State) (y : MethodName) (bytes : ByteArray) (maxL : Nat) (ret : Option FieldType) (rm : Room) (as' : Array Value) (h0 : Heap) (Q : Option Value → Heap → List Loc → Prop) : Prop :=
  ∀ ws, MetFree l y (head1 (Jvm.Cond.code y bytes maxL ret :: ws) rm) (fun a U => a = as' ∧ Z.Warmed39 U.vm ∧ U.heap = h0) (fun _ _ _ _ _ => True) (fun _ U o U' => ∃ v L, o = .returned v ∧ Q v U'.heap L ∧ ReturnedEndW U o U' L rm.cells rm.slots)
theorem CtW.of {y : MethodName} {bytes : ByteArray} {maxL : Nat} {ret : Option FieldType} {rm : Room} {as' : Array Value} {h0 : Heap} {Q : Option Value → Heap → List Loc → Prop} (hn : plainFor y = true) (hef : ∀ m, entryFrame m as' maxL = mkF m 0 Ls [])
    (body : ∀ (p : Program) (e : Env) (s : State) (m : MethodId) (below : List Frame) (meth : Method) (c : Code) (T : State) (vm0 : Vm), Stand p l e rm (s.setVm vm0) m as' below meth c T [] 0 0 → p.tables.exec = Jvm.exec → c.code = bytes → c.maxLocals = maxL → meth.sig.returnType = ret → meth.locks = false → Z.Warmed39 vm0 → vm0.findClass y.cls = some m.cls → meth.name = y.name → T.heap = h0 → s.Since vm0 h0.size →
      Go p e below (DnW s below Q rm.cells rm.slots) (T.setTop (mkF m 0 Ls []))) : CtW l Z y bytes maxL ret rm as' h0 Q := by
  intro ws
  refine MetFree.of_bodySF hn hisR ?_
  intro p e s m args below meth c s₁ Bd hml0 hP hK
  obtain ⟨rfl, hZ, hh⟩ := hP
  obtain ⟨t, h1, o, h2, h3, h4⟩ := body p e s m below meth c s₁ s.vm (Stand.of_body Bd) Bd.exec Bd.bytes hml0 Bd.returns Bd.notSynchronized hZ (findClass_of_methodNamed Bd.named) (name_of_methodNamed Bd.named Bd.method).1 (by rw [← hh, Bd.state]; rfl) ((State.WarmedH.refl s).since _)
  exact ⟨t, o, castTop (hef m) h1, h2, h3, h4⟩
theorem CtW.of_ct {y : MethodName} {bytes : ByteArray} {maxL : Nat} {ret : Option FieldType} {rm : Room} {as' : Array Value} {h0 : Heap} {Q : Option Value → Heap → List Loc → Prop} (H : Ct l Z y bytes maxL ret rm as' h0 Q) : CtW l Z y bytes maxL ret rm as' h0 Q := by
  intro ws p e ha hc hk s m args below hf happ hP hK
  obtain ⟨n, o, h1, h2, h3, v, L, h4, h5, h6⟩ := H ws p e ha hc hk s m args below hf happ hP hK
  exact ⟨n, o, h1, h2, h3, v, L, h4, h5, ReturnedEndW.of_narrow h6.1 h6.2.1 h6.2.2⟩
theorem g_retWG {vm0 : Vm} {k0 : Nat} (X : Stand p l e R (s.setVm vm0) m args below meth c T locs cells slots) (hx : p.tables.exec = Jvm.exec) (hS : s.Since vm0 k0) (hk : k0 ≤ T.heap.size) {w : Value} {t : FieldType} {i : Instr} {rest : List Value} {Q : Option Value → Heap → List Loc → Prop} {kc ks : Nat} (hret : meth.sig.returnType = some t) (hlk : meth.locks = false) (hn : narrow t w = w)
    (hi : (i = .ireturn ∧ (t = .int ∨ t = .boolean ∨ t = .byte ∨ t = .char ∨ t = .short) ∧ ∃ z, w = .int z) ∨ (i = .lreturn ∧ t = .long ∧ ∃ z, w = .long z) ∨ (i = .dreturn ∧ t = .double ∧ ∃ z, w = .double z) ∨ (i = .freturn ∧ t = .float ∧ ∃ z, w = .float z) ∨ (i = .areturn ∧ t.isReference = true ∧ w.isRef = true))
    (hd : decode c.code pc = .ok (i, 1)) (hc : cells ≤ kc) (hs : slots ≤ ks) (hq : Q (some w) T.heap locs) : Go p e below (DnW s below Q kc ks) (T.setTop (mkF m pc Ls (w :: rest))) := by
  obtain ⟨fs, hr, hrun, hended, hv, hW, hI, hsame⟩ := X.leaveW hS hk (v := some w) (fun h => by rw [hret] at h; cases h) hlk
  exact ⟨_, retOut X hx hret hn hi hd hr, _, hrun, hended, _, _, rfl, hq, hv, hW, hI, hsame.mono hc hs⟩
theorem g_retWZ {vm0 : Vm} {k0 : Nat} (X : Stand p l e R (s.setVm vm0) m args below meth c T locs cells slots) (hx : p.tables.exec = Jvm.exec) (hS : s.Since vm0 k0) (hk : k0 ≤ T.heap.size) {z : Int32} {rest : List Value} {Q : Option Value → Heap → List Loc → Prop} {kc ks : Nat} (hret : meth.sig.returnType = some .boolean) (hlk : meth.locks = false) (hz : nar .boolean z = z) (hd : decode c.code pc = .ok (.ireturn, 1)) (hc : cells ≤ kc) (hs : slots ≤ ks) (hq : Q (some (.int z)) T.heap locs) : Go p e below (DnW s below Q kc ks) (T.setTop (mkF m pc Ls (.int z :: rest))) :=
  g_retWG X hx hS hk hret hlk (by show Value.int (nar .boolean z) = _; rw [hz]) (Or.inl ⟨rfl, by simp, _, rfl⟩) hd hc hs hq
theorem g_retWV {vm0 : Vm} {k0 : Nat} (X : Stand p l e R (s.setVm vm0) m args below meth c T locs cells slots) (hx : p.tables.exec = Jvm.exec) (hS : s.Since vm0 k0) (hk : k0 ≤ T.heap.size) {Q : Option Value → Heap → List Loc → Prop} {kc ks : Nat} (hret : meth.sig.returnType = none) (hlk : meth.locks = false) (hd : decode c.code pc = .ok (.return_, 1)) (hc : cells ≤ kc) (hs : slots ≤ ks) (hq : Q none T.heap locs) : Go p e below (DnW s below Q kc ks) (T.setTop (mkF m pc Ls [])) := by
  obtain ⟨fs, hr, hrun, hended, hv, hW, hI, hsame⟩ := X.leaveW hS hk (v := none) (fun _ => rfl) hlk
  exact ⟨_, X.returnOut hx hret hd hr, _, hrun, hended, _, _, rfl, hq, hv, hW, hI, hsame.mono hc hs⟩
theorem g_ldcS {vm0 : Vm} {k0 : Nat} (X : Stand p l e R (s.setVm vm0) m args below meth c T locs cells slots) (hx : p.tables.exec = Jvm.exec) (hS : s.Since vm0 k0) (hZ : Z.Warmed39 vm0) {own text : String} {index : Nat} (hown : vm0.findClass own = some m.cls) (w : (Cond.stringLink own index text).before a0 Z = true) (wS : ∀ a ∈ Bundle.stringAtoms, a.before a0 Z = true) (eT : T.heap = h) (hk : k0 ≤ h.size) (hd : decode c.code pc = .ok (.ldc index, 2)) (hp : pc + 2 = pc') (n : Nat) (hn : 4 * text.toList.length ≤ n) (hbig : n ≤ 536870912) (hc : cells + 2 ≤ R.cells) (hl : slots + (n + 4) ≤ R.slots)
    (k : ∀ (T' : State) (h' : Heap) (a : Addr) (vm1 : Vm) (k1 : Nat), Stand p l e R (s.setVm vm1) m args below meth c T' locs (cells + 2) (slots + (n + 4)) → T'.heap = h' → Ext h h' → s.Since vm1 k1 → k1 ≤ h'.size → Z.Warmed39 vm1 → vm1.findClass own = some m.cls → Go p e below G (T'.setTop (mkF m pc' Ls (.ref a :: st)))) : Go p e below G (T.setTop (mkF m pc Ls st)) := by
  obtain ⟨a, T', h', k1, X', e', E, S', hk', hZ', ho', hst⟩ := ldcS X hx hZ hown w wS eT hS hk (g := mkF m pc Ls st) rfl hd hn hbig hc hl
  subst hp
  exact Go.to hst (k T' h' a T'.vm k1 X' e' E S' hk' hZ' ho')
theorem g_callSW {vm0 : Vm} {k0 : Nat} (X : Stand p l e R (s.setVm vm0) m args below meth c T locs cells slots) (hx : p.tables.exec = Jvm.exec) (hS : s.Since vm0 k0) (hZ : Z.Warmed39 vm0) {own : String} {index : Nat} {y : MethodName} {bytes : ByteArray} {maxL : Nat} {ret : Option FieldType} {rm : Room} {as' : Array Value} {Q : Option Value → Heap → List Loc → Prop} (W : Nat) {argsL rest : List Value} (hown : vm0.findClass own = some m.cls) (w1 : (Cond.methodLink own index y).before a0 Z = true) (w2 : (Cond.static y).before a0 Z = true) (w3 : (Cond.initialized y.cls).before a0 Z = true) (w4 : (Cond.code y bytes maxL ret).before a0 Z = true) (hy : y.cls ≠ "java/lang/invoke/MethodHandle" ∧ y.cls ≠ "java/lang/invoke/VarHandle")
    (eT : T.heap = h) (hk : k0 ≤ h.size) (hM : CtW l Z y bytes maxL ret rm as' h Q) (hf : rm.frames + 1 ≤ R.frames) (hl : W + (maxL + 11) + rm.locals ≤ R.locals) (hsize : Ls.size = c.maxLocals) (hlen : ∀ sig, parseMethodDescriptor y.desc = some sig → argsL.length = sig.parameters.length) (has : argsL.toArray = as') (hW : (rest.map fun v => v.category).sum ≤ W) (hd : decode c.code pc = .ok (.invokestatic index, 3)) (hp : pc + 3 = pc') (hc : cells + rm.cells ≤ R.cells) (hs : slots + rm.slots ≤ R.slots)
    (hst : st = argsL.reverse ++ rest) (k : ∀ (T' : State) (v : Option Value) (L : List Loc) (vm1 : Vm), Stand p l e R (s.setVm vm1) m args below meth c T' (locs ++ L) (cells + rm.cells) (slots + rm.slots) → Q v T'.heap L → s.Since vm1 T'.heap.size → Z.Warmed39 vm1 → vm1.findClass own = some m.cls → Go p e below G (T'.setTop (mkF m pc' Ls (v.toList ++ rest)))) : Go p e below G (T.setTop (mkF m pc Ls st)) := by
  obtain ⟨v, vm₁, ⟨T', L', k', n'⟩, -, X', hS', hsz, ⟨L, hQ, l', y', z'⟩, hst⟩ := callSS X hx hown (mvT (s := s.setVm vm0) hZ w1) (mvT (s := s.setVm vm0) hZ w2) (mvT (s := s.setVm vm0) hZ w3) (mvT (s := s.setVm vm0) hZ w4) hy (backOfS (s := s.setVm vm0) (W := W) (hM []) hZ w4 w3 hf hl) (g := mkF m pc Ls st) rfl hsize (argsL := argsL) (rest := rest) hlen hst (by show 2 * 0 + _ ≤ _; omega) hd (fun _ _ => ⟨has, eT, hc, hs⟩)
  dsimp only [Pt.U, Pt.locs, Pt.cells, Pt.slots] at X' l' y' z' hst hQ hS' hsz
  obtain ⟨X2, S2, Z2, o2⟩ := rebS hS (Nat.le_trans hk (Nat.le_of_eq (by rw [eT]))) X' hS' hsz hZ hown
  subst l' y' z' hp
  exact Go.to (fun t q => hst.trans q) (k T' v L T'.vm X2 hQ S2 Z2 o2)
theorem g_callU (X : Stand p l e R s m args below meth c T locs cells slots) (hx : p.tables.exec = Jvm.exec) (hZ : Z.Warmed39 s.vm) {C owner : String} {x y : MethodName} {own : String} {index : Nat} {bytes : ByteArray} {maxL : Nat} {ret : Option FieldType} {rm : Room} {as' : Array Value} {Q : Option Value → Heap → List Loc → Prop} (W : Nat) {argsL rest : List Value} {a : Addr} (hown : s.vm.findClass own = some m.cls) (w1 : (Cond.methodLink own index x).before a0 Z = true) (w2 : (Cond.sameMethod x.cls owner x.name x.desc).before a0 Z = true) (w3 : (Cond.declares ⟨owner, x.name, x.desc⟩).before a0 Z = true) (w4 : (Cond.selects C x y).before a0 Z = true) (w5 : (Cond.instanceMethod y).before a0 Z = true) (w6 : (Cond.code y bytes maxL ret).before a0 Z = true) (w7 : (Cond.initialized y.cls).before a0 Z = true) (hy : owner ≠ "java/lang/invoke/MethodHandle" ∧ owner ≠ "java/lang/invoke/VarHandle")
    (eT : T.heap = h) (E : Exa Z h a C) (hM : Ct l Z y bytes maxL ret rm as' h Q) (hf : rm.frames + 1 ≤ R.frames) (hl : W + (maxL + 11) + rm.locals ≤ R.locals) (hsize : Ls.size = c.maxLocals) (hlen : ∀ sig, parseMethodDescriptor x.desc = some sig → argsL.length = sig.parameters.length) (has : (.ref a :: argsL).toArray = as') (hW : (rest.map fun v => v.category).sum ≤ W) (hd : decode c.code pc = .ok (.invokevirtual index, 3)) (hp : pc + 3 = pc') (hc : cells + rm.cells ≤ R.cells) (hs : slots + rm.slots ≤ R.slots)
    (hst : st = argsL.reverse ++ .ref a :: rest) (k : ∀ (T' : State) (v : Option Value) (L : List Loc), Stand p l e R s m args below meth c T' (locs ++ L) (cells + rm.cells) (slots + rm.slots) → Q v T'.heap L → Go p e below G (T'.setTop (mkF m pc' Ls (v.toList ++ rest)))) : Go p e below G (T.setTop (mkF m pc Ls st)) := by
  obtain ⟨cq, kq, qa, qb, qc⟩ := isOf hZ eT E
  obtain ⟨v, vm₁, ⟨T', L', k', n'⟩, -, X', ⟨L, hQ, l', y', z'⟩, hst⟩ := X.virtualBackUp hx hown (mvT hZ w1) (mvT hZ w2) (mvT hZ w3) hy (mvT hZ w4) (mvT hZ w5) (backOf (W := W) (hM []) hZ w6 w7 hf hl) qa qc (g := mkF m pc Ls st) rfl hsize (Steps.refl _) (argsL := argsL) (rest := rest) hlen hst (by show 2 * 0 + _ ≤ _; omega) hd (fun _ _ => ⟨has, eT, hc, hs⟩)
  dsimp only [Pt.U, Pt.locs, Pt.cells, Pt.slots] at X' l' y' z' hst hQ
  subst l' y' z' hp
  exact Go.to (fun t q => hst.trans q) (k T' v L X' hQ)
theorem g_instY (X : Stand p l e R s m args below meth c T locs cells slots) (hx : p.tables.exec = Jvm.exec) (hZ : Z.Warmed39 s.vm) {own K : String} {index : Nat} {a : Addr} (hown : s.vm.findClass own = some m.cls) (w : (Cond.classLink own index K).before a0 Z = true) (eT : T.heap = h) (F : Ins Z h a K true) (hd : decode c.code pc = .ok (.instanceof index, 3)) (hp : pc + 3 = pc') (k : ∀ (T' : State), Stand p l e R s m args below meth c T' locs cells slots → T'.heap = h → Go p e below G (T'.setTop (mkF m pc' Ls (.int 1 :: st)))) : Go p e below G (T.setTop (mkF m pc Ls (.ref a :: st))) := by
  obtain ⟨T', X', e', hst⟩ := instY X hx hZ hown w eT F (g := mkF m pc Ls (.ref a :: st)) rfl rfl hd
  subst hp; exact Go.to hst (k T' X' e')
theorem g_instNo (X : Stand p l e R s m args below meth c T locs cells slots) (hx : p.tables.exec = Jvm.exec) (hZ : Z.Warmed39 s.vm) {own K C : String} {index : Nat} {a : Addr} (hown : s.vm.findClass own = some m.cls) (w : (Cond.classLink own index K).before a0 Z = true) (eT : T.heap = h) (E : Exa Z h a C) (F : ∃ c t, Z.vm.findClass C = some c ∧ Z.vm.findClass K = some t ∧ Z.vm.assignable c t = false) (hd : decode c.code pc = .ok (.instanceof index, 3)) (hp : pc + 3 = pc') (k : ∀ (T' : State), Stand p l e R s m args below meth c T' locs cells slots → T'.heap = h → Go p e below G (T'.setTop (mkF m pc' Ls (.int 0 :: st)))) : Go p e below G (T.setTop (mkF m pc Ls (.ref a :: st))) := by
  obtain ⟨T', X', e', hst⟩ := instNo X hx hZ hown w eT E F (g := mkF m pc Ls (.ref a :: st)) rfl rfl hd
  subst hp; exact Go.to hst (k T' X' e')
theorem g_castY (X : Stand p l e R s m args below meth c T locs cells slots) (hx : p.tables.exec = Jvm.exec) (hZ : Z.Warmed39 s.vm) {own K : String} {index : Nat} {a : Addr} (hown : s.vm.findClass own = some m.cls) (w : (Cond.classLink own index K).before a0 Z = true) (eT : T.heap = h) (F : Ins Z h a K true) (hd : decode c.code pc = .ok (.checkcast index, 3)) (hp : pc + 3 = pc') (k : ∀ (T' : State), Stand p l e R s m args below meth c T' locs cells slots → T'.heap = h → Go p e below G (T'.setTop (mkF m pc' Ls (.ref a :: st)))) : Go p e below G (T.setTop (mkF m pc Ls (.ref a :: st))) := by
  obtain ⟨T', X', e', hst⟩ := castY X hx hZ hown w eT F (g := mkF m pc Ls (.ref a :: st)) rfl rfl hd
  subst hp; exact Go.to hst (k T' X' e')
end Kit2
section Kit3
variable {p : Program} {l : Launch} {e : Env} {R : Room} {s : State} {m : MethodId} {args : Array Value} {below : List Frame} {meth : Method} {c : Code} {T : State} {locs : List Loc} {cells slots : Nat} {Z : State} {a0 : Array Value} {h : Heap} {G : State → Prop} {pc pc' : Nat} {Ls Ls' : Array Slot} {st : List Value}
theorem g_callF (X : Stand p l e R s m args below meth c T locs cells slots) (hx : p.tables.exec = Jvm.exec) (hZ : Z.Warmed39 s.vm) {C : String} {xi : MethodName} {count : Nat} {own : String} {index : Nat} {y : MethodName} {bytes : ByteArray} {maxL : Nat} {ret : Option FieldType} {rm : Room} {as' : Array Value} {Q : Option Value → Heap → List Loc → Prop} (W : Nat) {argsL rest : List Value} {a : Addr} (hown : s.vm.findClass own = some m.cls) (w1 : (Cond.methodLink own index xi).before a0 Z = true) (w2 : (Cond.declares xi).before a0 Z = true) (w3 : (Cond.interfaceMethod xi.cls xi.cls xi.name xi.desc).before args s = true) (w4 : (Cond.selects C xi y).before a0 Z = true) (w5 : (Cond.instanceMethod y).before a0 Z = true) (w6 : (Cond.publicMethod y).before a0 Z = true) (w7 : (Cond.unhidden C xi.name xi.desc).before a0 Z = true) (w8 : (Cond.castable C xi.cls).before a0 Z = true) (w9 : (Cond.code y bytes maxL ret).before a0 Z = true) (w10 : (Cond.initialized y.cls).before a0 Z = true) (hy : xi.cls ≠ "java/lang/invoke/MethodHandle" ∧ xi.cls ≠ "java/lang/invoke/VarHandle")
    (eT : T.heap = h) (E : Exa Z h a C) (hM : Ct l Z y bytes maxL ret rm as' h Q) (hf : rm.frames + 1 ≤ R.frames) (hl : W + (maxL + 11) + rm.locals ≤ R.locals) (hsize : Ls.size = c.maxLocals) (hlen : ∀ sig, parseMethodDescriptor xi.desc = some sig → argsL.length = sig.parameters.length) (has : (.ref a :: argsL).toArray = as') (hW : (rest.map fun v => v.category).sum ≤ W) (hd : decode c.code pc = .ok (.invokeinterface index count, 5)) (hp : pc + 5 = pc') (hc : cells + rm.cells ≤ R.cells) (hs : slots + rm.slots ≤ R.slots)
    (hst : st = argsL.reverse ++ .ref a :: rest) (k : ∀ (T' : State) (v : Option Value) (L : List Loc), Stand p l e R s m args below meth c T' (locs ++ L) (cells + rm.cells) (slots + rm.slots) → Q v T'.heap L → Go p e below G (T'.setTop (mkF m pc' Ls (v.toList ++ rest)))) : Go p e below G (T.setTop (mkF m pc Ls st)) := by
  obtain ⟨cq, kq, qa, qb, qc⟩ := isOf hZ eT E
  obtain ⟨v, vm₁, ⟨T', L', k', n'⟩, -, X', ⟨L, hQ, l', y', z'⟩, hst⟩ := X.interfaceBack hx hown (mvT hZ w1) (mvT hZ w2) w3 (mvT hZ w4) (mvT hZ w5) (mvT hZ w6) (mvT hZ w7) (mvT hZ w8) hy (backOf (W := W) (hM []) hZ w9 w10 hf hl) qa qb qc (g := mkF m pc Ls st) rfl hsize (Steps.refl _) (argsL := argsL) (rest := rest) hlen hst (by show 2 * 0 + _ ≤ _; omega) hd (fun _ _ => ⟨has, eT, hc, hs⟩)
  dsimp only [Pt.U, Pt.locs, Pt.cells, Pt.slots] at X' l' y' z' hst hQ
  subst l' y' z' hp
  exact Go.to (fun t q => hst.trans q) (k T' v L X' hQ)
theorem g_newarrA (X : Stand p l e R s m args below meth c T locs cells slots) (hx : p.tables.exec = Jvm.exec) (hZ : Z.Warmed39 s.vm) {own C : String} {ty : FieldType} {index : Nat} (hown : s.vm.findClass own = some m.cls) (hC : (FieldType.array ty).toString = C) (w1 : (Cond.classLink own index C).before a0 Z = true) (w2 : (Cond.arrayOver (.array ty)).before a0 Z = true) (eT : T.heap = h) (hd : decode c.code pc = .ok (.anewarray index, 3)) (hp : pc + 3 = pc') {z : Int32} (hz : ¬ z < 0) (cap : Nat) (hcap : z.toNatClampNeg ≤ cap) (hb : cap * 8 ≤ 536870912) (hc : cells + 1 ≤ R.cells) (hl : slots + cap ≤ R.slots)
    (k : ∀ (T' : State) (h' : Heap) (a : Addr), a = h.size → Stand p l e R s m args below meth c T' locs (cells + 1) (slots + cap) → T'.heap = h' → Ext h h' → Go p e below G (T'.setTop (mkF m pc' Ls (.ref a :: st)))) : Go p e below G (T.setTop (mkF m pc Ls (.int z :: st))) := by
  obtain ⟨T', h', cA, X', e', E, A, -, -, hst⟩ := newRA X hx hZ hown hC w1 w2 eT (g := mkF m pc Ls (.int z :: st)) rfl hd rfl hz (cap := cap) hcap hb hc hl (ad := "[" ++ C) rfl
  subst hp
  exact Go.to hst (k T' h' _ rfl X' e' E)
theorem g_ldcF (X : Stand p l e R s m args below meth c T locs cells slots) (hx : p.tables.exec = Jvm.exec) (hZ : Z.Warmed39 s.vm) {own : String} {index : Nat} {b : UInt32} (hown : s.vm.findClass own = some m.cls) (w : (Cond.constantFloat own index b).before a0 Z = true) (hd : decode c.code pc = .ok (.ldc index, 2)) (hp : pc + 2 = pc') (k : Go p e below G (T.setTop (mkF m pc' Ls (.float b :: st)))) : Go p e below G (T.setTop (mkF m pc Ls st)) := by
  subst hp; exact Go.to (fun t q => X.ldcFloatC hx hown (mvT hZ w) (g := mkF m pc Ls st) rfl hd t q) k
theorem Av.arv {a : Addr} {ty : FieldType} {n : Nat} {f : Nat → Value} {z : Int32} {dv : Value} (A : Av Z h a ty n f) (hz : z.toInt = n) (hf : ∀ j, j < n → fits ty (f j) = true) : ∃ k, Arv Z h a k ty z ((List.range n).map f) dv := by
  obtain ⟨c, A, r1, r2⟩ := A
  have e1 : z.toNatClampNeg = n := by show z.toInt.toNat = n; rw [hz]; rfl
  have e2 : ∀ i, i < n → ((List.range n).map f).getD i dv = f i := fun i hi => by simp [List.getD_eq_getElem?_getD, hi]
  refine ⟨c.cls, c, A, rfl, by rw [e1]; exact r1, ?_, fun i hi => ?_, fun i hi => ?_⟩
  · rw [Int32.lt_iff_toInt_lt, hz]; show ¬ (n : Int) < 0; omega
  · rw [e2 i (r1 ▸ hi)]; exact r2 i (r1 ▸ hi)
  · rw [e2 i (r1 ▸ hi)]; exact hf i (r1 ▸ hi)
theorem g_acopy (X : Stand p l e R s m args below meth c T locs cells slots) (hx : p.tables.exec = Jvm.exec) (hZ : Z.Warmed39 s.vm) {own : String} {index : Nat} {a b : Addr} {ty : FieldType} {n m' cnt : Nat} {f f' : Nat → Value} {z : Int32} {n0 : Nat} (hown : s.vm.findClass own = some m.cls) (w1 : (Cond.methodLink own index Jvm.Stand.acN).before a0 Z = true) (w2 : (Cond.native Jvm.Stand.acN).before a0 Z = true) (w3 : (Cond.static Jvm.Stand.acN).before a0 Z = true) (w4 : (Cond.initialized "java/lang/System").before a0 Z = true)
    (eT : T.heap = h) (A : Av Z h a ty n f) (B : Av Z h b ty m' f') (hty : refKind ty = false) (hf : ∀ j, j < n → fits ty (f j) = true) (hf' : ∀ j, j < m' → fits ty (f' j) = true) (hz : z.toInt = cnt) (hn : n < 2147483648) (h1 : cnt ≤ n) (h2 : cnt ≤ m') (hm : m' < 2147483648) (N : Fr n0 locs) (ge : n0 ≤ b)
    (hsize : Ls.size = c.maxLocals) (hd : decode c.code pc = .ok (.invokestatic index, 3)) (hp : pc + 3 = pc') (hfr : 1 ≤ R.frames) (W : Nat) (hW : (st.map fun v => v.category).sum ≤ W) (hlo : W + (nativeFrameWords "java/lang/System" "arraycopy" 5 + 11) ≤ R.locals)
    (k : ∀ (T' : State) (h' : Heap) (L : List Loc), Stand p l e R s m args below meth c T' L cells slots → T'.heap = h' → Fr n0 L → Keep h h' [b] → Av Z h' b ty m' (fun j => if j < cnt then f j else f' j) → Go p e below G (T'.setTop (mkF m pc' Ls st))) : Go p e below G (T.setTop (mkF m pc Ls (.int z :: .int 0 :: .ref b :: .int 0 :: .ref a :: st))) := by
  have i1 : ∀ x : Nat, x < 2147483648 → (Int32.ofNat x).toInt = x := fun x hx => Int32.toInt_ofNat_small hx
  have cl : ∀ {x : Int32} {y : Nat}, x.toInt = y → x.toNatClampNeg = y := fun {x y} q => by show x.toInt.toNat = y; rw [q]; rfl
  obtain ⟨k1, A'⟩ := A.arv (dv := .null) (i1 n hn) hf
  obtain ⟨k2, B'⟩ := B.arv (dv := .null) (i1 m' hm) hf'
  have c0 : (0 : Int32).toNatClampNeg = 0 := rfl
  obtain ⟨T', h', L, X', e', N', K', V', hst⟩ := cpA X hx hZ hown w1 w2 w3 w4 eT A' B' (Or.inl ⟨rfl, hty⟩) (sp := 0) (dp := 0) (nn := z) (by decide) (by decide) (by rw [Int32.lt_iff_toInt_lt, hz]; show ¬ (cnt : Int) < 0; omega) (by rw [c0, cl hz, cl (i1 n hn)]; omega) (by rw [c0, cl hz, cl (i1 m' hm)]; omega) rfl (by rw [c0, cl hz]; simp; omega) N ge (g := mkF m pc Ls (.int z :: .int 0 :: .ref b :: .int 0 :: .ref a :: st)) rfl hsize rfl hd hfr (W := W) (by show 2 * 0 + _ ≤ _; omega) hlo
  subst hp
  refine Go.to hst (k T' h' L X' e' N' K' ?_)
  obtain ⟨cc, Ac, -, Sc, -, Hc, -⟩ := V'
  rw [cl (i1 m' hm)] at Sc
  refine ⟨cc, Ac, Sc, fun j hj => ?_⟩
  rw [Hc j (by rw [Sc]; exact hj)]
  congr 1
  rw [c0, cl hz]
  simp only [List.getD_eq_getElem?_getD, Nat.zero_add, List.take_zero, List.nil_append]
  by_cases q : j < cnt
  · rw [if_pos q, List.getElem?_append_left (by simpa using q)]
    have : j < n := by omega
    simp [q, this]
  · rw [if_neg q, List.getElem?_append_right (by simpa using Nat.le_of_not_lt q)]
    simp only [List.length_map, List.length_range, List.getElem?_drop]
    have e : cnt + (j - cnt) = j := by omega
    rw [e]; simp [hj]
theorem own_ne_av {C : String} {a b : Addr} {ty : FieldType} {n kk : Nat} {f : Nat → Value} (E : Exa Z h a C) (wi : (Cond.instantiable C kk).before a0 Z = true) (A : Av Z h b ty n f) : a ≠ b := by
  obtain ⟨c, Ar, -⟩ := A
  exact ne_arr E wi Ar

end Kit3

theorem own_nn {x : Int32} : ¬ x < 0 ↔ 0 ≤ x.toInt := by rw [Int32.lt_iff_toInt_lt]; simp
theorem own_div {x y : Int32} (hx : 0 ≤ x.toInt) (hy : 0 < y.toInt) : (x / y).toInt = x.toInt / y.toInt := by
  have r := rng32 x
  have q1 : 0 ≤ x.toInt / y.toInt := Int.ediv_nonneg hx (Int.le_of_lt hy)
  have q2 : x.toInt / y.toInt ≤ x.toInt := Int.ediv_le_self _ hx
  rw [Int32.toInt_div, Int.tdiv_eq_ediv_of_nonneg hx]
  exact Int.bmod_eq_of_le (by omega) (by omega)
theorem own_rem {x y : Int32} (hx : 0 ≤ x.toInt) (hy : 0 < y.toInt) : (x - x / y * y).toInt = x.toInt % y.toInt := by
  have r := rng32 x
  have ry := rng32 y
  have q1 : 0 ≤ x.toInt % y.toInt := Int.emod_nonneg _ (by omega)
  have q2 : x.toInt % y.toInt < y.toInt := Int.emod_lt_of_pos _ hy
  have q3 : x.toInt / y.toInt * y.toInt = x.toInt - x.toInt % y.toInt := by rw [Int.emod_def, Int.mul_comm]; omega
  have q4 := Int.emod_add_mul_ediv x.toInt y.toInt
  have c1 := c_imul (x / y) y
  rw [own_div hx hy, q3] at c1
  have q5 : x.toInt % y.toInt ≤ x.toInt := by
    have := Int.ediv_nonneg hx (Int.le_of_lt hy)
    have := Int.mul_nonneg this (Int.le_of_lt hy)
    omega
  have c2 := c_isub x (x / y * y)
  have r2 := rng32 (x - x / y * y)
  have r3 := rng32 (x / y * y)
  omega
theorem own_mask (x : Int32) : 0 ≤ (x &&& 2147483647).toInt := by
  have h : (x &&& 2147483647).toBitVec.msb = false := by
    rw [Int32.toBitVec_and, BitVec.msb_and]
    have : (2147483647 : Int32).toBitVec.msb = false := by decide
    rw [this, Bool.and_false]
  have := BitVec.toInt_nonneg_of_msb_false h
  exact this
theorem own_nat {x : Int32} {n : Nat} (h : x.toInt = n) : x.toNatClampNeg = n := by
  show x.toInt.toNat = n; rw [h]; rfl

theorem mem_i {α : Type} {l : List α} {x : α} (i : Nat) (h : l[i]? = some x) : x ∈ l := List.mem_of_getElem? h
def fs_T : List (String × String × String) := [("com/example/charted/charted/engine/TransitionTable", "firstOf", "[J"), ("com/example/charted/charted/engine/TransitionTable", "countOf", "[I"), ("com/example/charted/charted/engine/TransitionTable", "targets", "[[I"), ("com/example/charted/charted/engine/TransitionTable", "narrowLabels", "[[B"), ("com/example/charted/charted/engine/TransitionTable", "wideLabels", "[[I"), ("com/example/charted/charted/engine/TransitionTable", "labelLists", "Ljava/util/List;"), ("com/example/charted/charted/engine/TransitionTable", "labelListNumbers", "Ljava/util/Map;"), ("com/example/charted/charted/engine/TransitionTable", "size", "J")]
theorem lds_T {Z : State} {a0 : Array Value} (hw : ∀ d ∈ tables_1, d.before a0 Z = true) : Lds Z a0 "com/example/charted/charted/engine/TransitionTable" fs_T := by
  intro q hq
  simp only [fs_T, List.mem_cons, List.not_mem_nil, or_false] at hq
  rcases hq with rfl | rfl | rfl | rfl | rfl | rfl | rfl | rfl
  · exact Or.inl (hw _ (List.mem_of_getElem? (i := 11) rfl))
  · exact Or.inl (hw _ (List.mem_of_getElem? (i := 14) rfl))
  · exact Or.inl (hw _ (List.mem_of_getElem? (i := 18) rfl))
  · exact Or.inl (hw _ (List.mem_of_getElem? (i := 22) rfl))
  · exact Or.inl (hw _ (List.mem_of_getElem? (i := 24) rfl))
  · exact Or.inr (hw _ (List.mem_of_getElem? (i := 50) rfl))
  · exact Or.inr (hw _ (List.mem_of_getElem? (i := 68) rfl))
  · exact Or.inl (hw _ (List.mem_of_getElem? (i := 82) rfl))
theorem un_T : fs_T.all (fun q => fs_T.all (fun r => decide (q.2.1 = r.2.1 → q = r))) = true := by decide +kernel
theorem de_T : fs_T.all (fun q => (parseFieldDescriptor q.2.2).isSome) = true := by decide +kernel
def fs_A : List (String × String × String) := [("java/util/AbstractList", "modCount", "I"), ("java/util/ArrayList", "elementData", "[Ljava/lang/Object;"), ("java/util/ArrayList", "size", "I")]
theorem lds_A {Z : State} {a0 : Array Value} (hw : ∀ d ∈ tables_1, d.before a0 Z = true) : Lds Z a0 "java/util/ArrayList" fs_A := by
  intro q hq
  simp only [fs_A, List.mem_cons, List.not_mem_nil, or_false] at hq
  rcases hq with rfl | rfl | rfl
  · exact Or.inl (hw _ (List.mem_of_getElem? (i := 45) rfl))
  · exact Or.inl (hw _ (List.mem_of_getElem? (i := 48) rfl))
  · exact Or.inl (hw _ (List.mem_of_getElem? (i := 93) rfl))
theorem un_A : fs_A.all (fun q => fs_A.all (fun r => decide (q.2.1 = r.2.1 → q = r))) = true := by decide +kernel
theorem de_A : fs_A.all (fun q => (parseFieldDescriptor q.2.2).isSome) = true := by decide +kernel
def fs_I : List (String × String × String) := [("java/util/ArrayList$Itr", "this$0", "Ljava/util/ArrayList;"), ("java/util/ArrayList$Itr", "lastRet", "I"), ("java/util/ArrayList$Itr", "expectedModCount", "I"), ("java/util/ArrayList$Itr", "cursor", "I")]
theorem lds_I {Z : State} {a0 : Array Value} (hw : ∀ d ∈ tables_1, d.before a0 Z = true) : Lds Z a0 "java/util/ArrayList$Itr" fs_I := by
  intro q hq
  simp only [fs_I, List.mem_cons, List.not_mem_nil, or_false] at hq
  rcases hq with rfl | rfl | rfl | rfl
  · exact Or.inr (hw _ (List.mem_of_getElem? (i := 110) rfl))
  · exact Or.inl (hw _ (List.mem_of_getElem? (i := 113) rfl))
  · exact Or.inl (hw _ (List.mem_of_getElem? (i := 117) rfl))
  · exact Or.inl (hw _ (List.mem_of_getElem? (i := 128) rfl))
theorem un_I : fs_I.all (fun q => fs_I.all (fun r => decide (q.2.1 = r.2.1 → q = r))) = true := by decide +kernel
theorem de_I : fs_I.all (fun q => (parseFieldDescriptor q.2.2).isSome) = true := by decide +kernel
def fs_M : List (String × String × String) := [("java/util/HashMap", "loadFactor", "F")]
theorem lds_M {Z : State} {a0 : Array Value} (hw : ∀ d ∈ tables_1, d.before a0 Z = true) : Lds Z a0 "java/util/HashMap" fs_M := by
  intro q hq
  simp only [fs_M, List.mem_cons, List.not_mem_nil, or_false] at hq
  rcases hq with rfl
  · exact Or.inr (hw _ (List.mem_of_getElem? (i := 66) rfl))
theorem un_M : fs_M.all (fun q => fs_M.all (fun r => decide (q.2.1 = r.2.1 → q = r))) = true := by decide +kernel
theorem de_M : fs_M.all (fun q => (parseFieldDescriptor q.2.2).isSome) = true := by decide +kernel
def AI (f : Nat → Value) : Prop := ∀ j, ∃ v : Int32, f j = .int v
theorem AI.upd {f : Nat → Value} (q : AI f) (i : Nat) (x : Int32) : AI (upd f i (.int x)) := fun j => by
  by_cases u : j = i
  · exact ⟨x, if_pos u⟩
  · obtain ⟨v, hv⟩ := q j; exact ⟨v, (if_neg u).trans hv⟩
def QN (h0 : Heap) (n0 : Nat) (v : Option Value) (h : Heap) (L : List Loc) : Prop := v = none ∧ Fr n0 L ∧ h = h0
def QK (Z : State) (a : Addr) (C : String) (fs : List (String × String × String)) (g : String → Value) (h0 : Heap) (n0 : Nat) (v : Option Value) (h : Heap) (L : List Loc) : Prop := v = none ∧ Fr n0 L ∧ Keep h0 h [a] ∧ Ob Z h a C fs g
def QU (w : Value) (h0 : Heap) (n0 : Nat) (v : Option Value) (h : Heap) (L : List Loc) : Prop := Fr n0 L ∧ h = h0 ∧ v = some w
def QB (D : Prop) (h0 : Heap) (n0 : Nat) (v : Option Value) (h : Heap) (L : List Loc) : Prop := Fr n0 L ∧ h = h0 ∧ ∃ z : Int32, v = some (.int z) ∧ ((z = 1 ∧ D) ∨ (z = 0 ∧ ¬ D))
def QV (Z : State) (a : Addr) (ty : FieldType) (n : Nat) (f : Nat → Value) (h0 : Heap) (n0 : Nat) (v : Option Value) (h : Heap) (L : List Loc) : Prop := v = none ∧ Fr n0 L ∧ Keep h0 h [a] ∧ Av Z h a ty n f
def QF (Z : State) (ty : FieldType) (n : Nat) (f : Nat → Value) (h0 : Heap) (n0 : Nat) (v : Option Value) (h : Heap) (L : List Loc) : Prop := ∃ b, v = some (.ref b) ∧ Fr n0 L ∧ h0.size ≤ b ∧ Ext h0 h ∧ Av Z h b ty n f
/-- the cells below n0 stand as they stood -/
def Kp (n0 : Nat) (h h' : Heap) : Prop := h.size ≤ h'.size ∧ ∀ (x : Addr) (c : Cell), x < n0 → h[x]? = some c → h'[x]? = some c
theorem Kp.refl (n0 : Nat) (h : Heap) : Kp n0 h h := ⟨Nat.le_refl _, fun _ _ _ q => q⟩
theorem Kp.trans {n0 : Nat} {h h1 h2 : Heap} (K : Kp n0 h h1) (L : Kp n0 h1 h2) : Kp n0 h h2 := ⟨Nat.le_trans K.1 L.1, fun x c q r => L.2 x c q (K.2 x c q r)⟩
theorem Kp.ext {n0 : Nat} {h h1 : Heap} (E : Ext h h1) : Kp n0 h h1 := ⟨E.1, fun x c _ r => E.2 x c r⟩
theorem Kp.keep {n0 : Nat} {h h1 : Heap} {ws : List Addr} (K : Keep h h1 ws) (q : ∀ x ∈ ws, n0 ≤ x) : Kp n0 h h1 := ⟨K.1, fun x c r s => K.2.1 x c s fun z => absurd r (Nat.not_lt.mpr (q x z))⟩
theorem Kp.wr {n0 : Nat} {h h1 : Heap} {a : Addr} {sl : Nat} {v : Value} (W : Wr h h1 a sl v) (q : n0 ≤ a) : Kp n0 h h1 := Kp.keep (Keep.of_wr W) (allS q all0)
theorem Kp.toExt {h h1 : Heap} (K : Kp h.size h h1) : Ext h h1 := ⟨K.1, fun a c q => K.2 a c (Array.getElem?_eq_some_iff.mp q).1 q⟩
theorem own_i {i : Nat} (h : i < 2 ^ 31) : (Int32.ofNat i).toInt = i := Int32.toInt_ofNat_small h
theorem own_i1 (i : Nat) : Int32.ofNat i + Int32.ofInt 1 = Int32.ofNat (i + 1) := by rw [Int32.ofNat_add]; rfl
theorem own_eqn {x : Int32} {n : Nat} (h : x.toInt = n) : x = Int32.ofNat n := by
  have r := rng32 x
  rw [← Int32.toInt_inj, own_i (by omega), h]
def gA : String → Value := fun n => if n = "elementData" then .null else .int 0
def gM : String → Value := fun n => .float 0
theorem own_upd_if (i j : Nat) (x : Int64) (f : Nat → Value) : upd (fun j => if j < i then .long x else f j) i (.long x) j = (if j < i + 1 then .long x else f j) := by
  unfold upd
  by_cases h1 : j = i
  · rw [if_pos h1, if_pos (by omega)]
  · by_cases h2 : j < i
    · simp [h1, h2, show j < i + 1 by omega]
    · simp [h1, h2, show ¬ j < i + 1 by omega]
theorem own_upd_if2 (lo i j : Nat) (hli : lo ≤ i) (x : Int64) (f : Nat → Value) : upd (fun j => if lo ≤ j ∧ j < i then .long x else f j) i (.long x) j = (if lo ≤ j ∧ j < i + 1 then .long x else f j) := by
  unfold upd
  by_cases h1 : j = i
  · rw [if_pos h1, if_pos (by omega)]
  · by_cases h2 : lo ≤ j ∧ j < i
    · rw [if_neg h1]; show (if lo ≤ j ∧ j < i then Value.long x else f j) = _; rw [if_pos h2, if_pos (by omega)]
    · rw [if_neg h1]; show (if lo ≤ j ∧ j < i then Value.long x else f j) = _; rw [if_neg h2, if_neg (by omega)]
theorem own_nlt {x y : Nat} (hx : x < 2 ^ 31) (hy : y < 2 ^ 31) (h : x ≤ y) : ¬ Int32.ofNat y < Int32.ofNat x := by
  rw [Int32.lt_iff_toInt_lt, own_i hx, own_i hy]; omega
theorem own_cmp (x : Int64) : XT.cmpL x 0 < 0 ↔ x < 0 := by
  unfold XT.cmpL
  split
  · rename_i q
    refine ⟨fun z => absurd z (by decide), fun z => ?_⟩
    rw [Int64.lt_iff_toInt_lt] at q z
    omega
  · split
    · rename_i q; subst q; exact ⟨fun z => absurd z (by decide), fun z => absurd z (by decide)⟩
    · rename_i q r
      refine ⟨fun _ => ?_, fun _ => by decide⟩
      rw [Int64.lt_iff_toInt_lt] at q ⊢
      rw [← Int64.toInt_inj] at r
      omega
theorem own_and (x k : Int32) (hk : 0 ≤ k) : 0 ≤ (x &&& k).toInt ∧ (x &&& k).toInt ≤ k.toInt := by
  have hk' : 0 ≤ k.toInt := by have := Int32.le_iff_toInt_le.mp hk; exact this
  have km : k.toBitVec.msb = false := by
    rw [BitVec.msb_eq_toInt]; exact decide_eq_false (by show ¬ k.toInt < 0; omega)
  have hm : (x &&& k).toBitVec.msb = false := by rw [Int32.toBitVec_and, BitVec.msb_and, km, Bool.and_false]
  have e1 : (x &&& k).toInt = (x &&& k).toBitVec.toNat := BitVec.toInt_eq_toNat_of_msb hm
  have e2 : k.toInt = k.toBitVec.toNat := BitVec.toInt_eq_toNat_of_msb km
  rw [e1, e2, Int32.toBitVec_and, BitVec.toNat_and]
  have := Nat.and_le_right (n := x.toBitVec.toNat) (m := k.toBitVec.toNat)
  omega
theorem own_xor {x y : Int32} (hx : 0 ≤ x.toInt) (hy : 0 ≤ y.toInt) : 0 ≤ (x ^^^ y).toInt := by
  have xm : x.toBitVec.msb = false := by rw [BitVec.msb_eq_toInt]; exact decide_eq_false (by show ¬ x.toInt < 0; omega)
  have ym : y.toBitVec.msb = false := by rw [BitVec.msb_eq_toInt]; exact decide_eq_false (by show ¬ y.toInt < 0; omega)
  have hm : (x ^^^ y).toBitVec.msb = false := by rw [Int32.toBitVec_xor, BitVec.msb_xor, xm, ym]; rfl
  have e1 : (x ^^^ y).toInt = (x ^^^ y).toBitVec.toNat := BitVec.toInt_eq_toNat_of_msb hm
  omega
theorem own_max {i : Int32} {iN n : Nat} (hi : i.toInt = iN) (h1 : iN < 1024) (h2 : n ≤ 1024) : (if i + (1 : Int32) < Int32.ofNat n * (2 : Int32) then Int32.ofNat n * (2 : Int32) else i + (1 : Int32)) = Int32.ofNat (if iN + 1 < 2 * n then 2 * n else iN + 1) := by
  have e0 := own_i (i := n) (by omega)
  have k1 : (1 : Int32).toInt = 1 := rfl
  have k2 : (2 : Int32).toInt = 2 := rfl
  have a1 : (i + 1).toInt = (iN + 1 : Nat) := by have := c_iadd i 1; have := rng32 (i + 1); omega
  have a2 : (Int32.ofNat n * 2).toInt = (2 * n : Nat) := by have := c_imul (Int32.ofNat n) 2; have := rng32 (Int32.ofNat n * 2); rw [e0, k2] at *; omega
  have b1 : i + 1 = Int32.ofNat (iN + 1) := by rw [← Int32.toInt_inj, a1, own_i (by omega)]
  have b2 : Int32.ofNat n * 2 = Int32.ofNat (2 * n) := by rw [← Int32.toInt_inj, a2, own_i (by omega)]
  by_cases q : iN + 1 < 2 * n
  · rw [if_pos q, if_pos (Int32.lt_iff_toInt_lt.mpr (by rw [a1, a2]; omega)), b2]
  · rw [if_neg q, if_neg (fun z => q (by have := Int32.lt_iff_toInt_lt.mp z; rw [a1, a2] at this; omega)), b1]
theorem own_inj {x y : Int32} {a b : Nat} (hx : x.toInt = a) (hy : y.toInt = b) (h : a = b) : x = y := by rw [← Int32.toInt_inj]; omega
theorem own_injN {x y : Int32} {a b : Nat} (hx : x.toInt = a) (hy : y.toInt = b) (h : x = y) : a = b := by subst h; omega
theorem own_neg {x y : Int32} (h : ¬ x < y) : y.toInt ≤ x.toInt := by rw [Int32.lt_iff_toInt_lt] at h; omega
theorem d5_0 : decode jdk_22_method_1_code 0 = .ok (.aload_n 0, 1) := by decide +kernel
theorem d5_1 : decode jdk_22_method_1_code 1 = .ok (.invokespecial 1, 3) := by decide +kernel
theorem d5_4 : decode jdk_22_method_1_code 4 = .ok (.return_, 1) := by decide +kernel
theorem pn_AC : plainFor (⟨"java/util/AbstractCollection", "<init>", "()V"⟩ : MethodName) = true := plainFor_of_name (show plainName "java/util/AbstractCollection" = true by first | (simp [plainName, overriddenIn]; done) | decide +kernel)
theorem pd_AC : parseMethodDescriptor "()V" = some ⟨[], none⟩ := by decide +kernel
theorem ef_AC (m : MethodId) (x0 : Addr) : entryFrame m #[(.ref x0)] 1 = mkF m 0 #[.val (.ref x0)] [] := by first | (simp [entryFrame, mkF, argsToLocals, Value.category]; done) | rfl
set_option maxRecDepth 65536 in
set_option maxHeartbeats 40000000 in
theorem rmAC (l : Launch) (Z : State) (a0 : Array Value) (hw : ∀ d ∈ tables_1, d.before a0 Z = true) (a : Addr) (h0 : Heap) (n0 : Nat) :
    Ct l Z (⟨"java/util/AbstractCollection", "<init>", "()V"⟩ : MethodName) jdk_22_method_1_code 1 none ({ frames := 1, cells := 0, slots := 0, locals := 12 } : Room) #[(.ref a)] h0 (QN h0 n0) := by
  refine Ct.of pn_AC (fun m => ef_AC m a) ?_
  intro p e s m below meth c T X0 hx hby hml hret hlk hZ hown hnm e0
  refine g_aloadN X0 hx (hb hby d5_0) (pc' := 1) rfl rfl rfl ?_
  refine g_initO X0 hx hZ hown (hw _ (List.mem_of_getElem? (i := 43) rfl)) (hw _ (List.mem_of_getElem? (i := 7) rfl)) (hw _ (List.mem_of_getElem? (i := 8) rfl)) e0 (by rw [hml]; rfl) (hb hby d5_1) (pc' := 4) rfl (by decide) 0 (Nat.le_of_eq rfl) (by decide) ?_
  intro T1 X1 e1
  exact g_retV X1 hx hret hlk (hb hby d5_4) (by decide) (by decide) ⟨rfl, Fr.nil _, e1⟩
theorem d7_0 : decode jdk_71_method_1_code 0 = .ok (.aload_n 0, 1) := by decide +kernel
theorem d7_1 : decode jdk_71_method_1_code 1 = .ok (.invokespecial 1, 3) := by decide +kernel
theorem d7_4 : decode jdk_71_method_1_code 4 = .ok (.return_, 1) := by decide +kernel
theorem pn_AM : plainFor (⟨"java/util/AbstractMap", "<init>", "()V"⟩ : MethodName) = true := plainFor_of_name (show plainName "java/util/AbstractMap" = true by first | (simp [plainName, overriddenIn]; done) | decide +kernel)
theorem pd_AM : parseMethodDescriptor "()V" = some ⟨[], none⟩ := by decide +kernel
theorem ef_AM (m : MethodId) (x0 : Addr) : entryFrame m #[(.ref x0)] 1 = mkF m 0 #[.val (.ref x0)] [] := by first | (simp [entryFrame, mkF, argsToLocals, Value.category]; done) | rfl
set_option maxRecDepth 65536 in
set_option maxHeartbeats 40000000 in
theorem rmAM (l : Launch) (Z : State) (a0 : Array Value) (hw : ∀ d ∈ tables_1, d.before a0 Z = true) (a : Addr) (h0 : Heap) (n0 : Nat) :
    Ct l Z (⟨"java/util/AbstractMap", "<init>", "()V"⟩ : MethodName) jdk_71_method_1_code 1 none ({ frames := 1, cells := 0, slots := 0, locals := 12 } : Room) #[(.ref a)] h0 (QN h0 n0) := by
  refine Ct.of pn_AM (fun m => ef_AM m a) ?_
  intro p e s m below meth c T X0 hx hby hml hret hlk hZ hown hnm e0
  refine g_aloadN X0 hx (hb hby d7_0) (pc' := 1) rfl rfl rfl ?_
  refine g_initO X0 hx hZ hown (hw _ (List.mem_of_getElem? (i := 63) rfl)) (hw _ (List.mem_of_getElem? (i := 7) rfl)) (hw _ (List.mem_of_getElem? (i := 8) rfl)) e0 (by rw [hml]; rfl) (hb hby d7_1) (pc' := 4) rfl (by decide) 0 (Nat.le_of_eq rfl) (by decide) ?_
  intro T1 X1 e1
  exact g_retV X1 hx hret hlk (hb hby d7_4) (by decide) (by decide) ⟨rfl, Fr.nil _, e1⟩
theorem d4_0 : decode jdk_39_method_1_code 0 = .ok (.aload_n 0, 1) := by decide +kernel
theorem d4_1 : decode jdk_39_method_1_code 1 = .ok (.invokespecial 1, 3) := by decide +kernel
theorem d4_4 : decode jdk_39_method_1_code 4 = .ok (.aload_n 0, 1) := by decide +kernel
theorem d4_5 : decode jdk_39_method_1_code 5 = .ok (.iconst 0, 1) := by decide +kernel
theorem d4_6 : decode jdk_39_method_1_code 6 = .ok (.putfield 7, 3) := by decide +kernel
theorem d4_9 : decode jdk_39_method_1_code 9 = .ok (.return_, 1) := by decide +kernel
theorem pn_AL : plainFor (⟨"java/util/AbstractList", "<init>", "()V"⟩ : MethodName) = true := plainFor_of_name (show plainName "java/util/AbstractList" = true by first | (simp [plainName, overriddenIn]; done) | decide +kernel)
theorem pd_AL : parseMethodDescriptor "()V" = some ⟨[], none⟩ := by decide +kernel
theorem ef_AL (m : MethodId) (x0 : Addr) : entryFrame m #[(.ref x0)] 1 = mkF m 0 #[.val (.ref x0)] [] := by first | (simp [entryFrame, mkF, argsToLocals, Value.category]; done) | rfl
set_option maxRecDepth 65536 in
set_option maxHeartbeats 40000000 in
theorem rmAL (l : Launch) (Z : State) (a0 : Array Value) (hw : ∀ d ∈ tables_1, d.before a0 Z = true) (a : Addr) (g : String → Value) (h0 : Heap) (n0 : Nat) (O0 : Ob Z h0 a "java/util/ArrayList" fs_A g) (ga : n0 ≤ a) :
    Ct l Z (⟨"java/util/AbstractList", "<init>", "()V"⟩ : MethodName) jdk_39_method_1_code 1 none ({ frames := 2, cells := 0, slots := 0, locals := 24 } : Room) #[(.ref a)] h0 (QK Z a "java/util/ArrayList" fs_A (set g "modCount" (.int 0)) h0 n0) := by
  refine Ct.of pn_AL (fun m => ef_AL m a) ?_
  intro p e s m below meth c T X0 hx hby hml hret hlk hZ hown hnm e0
  refine g_aloadN X0 hx (hb hby d4_0) (pc' := 1) rfl rfl rfl ?_
  refine g_callI X0 hx hZ 0 (a := a) hown rfl (hw _ (List.mem_of_getElem? (i := 37) rfl)) (hw _ (List.mem_of_getElem? (i := 38) rfl)) (hw _ (List.mem_of_getElem? (i := 41) rfl)) (hw _ (List.mem_of_getElem? (i := 42) rfl)) (by decide) e0 (rmAC l Z a0 hw a h0 n0) (by decide) (by decide) (by rw [hml]; rfl) (argsL := []) (rest := []) (lenOf pd_AC rfl) rfl (Nat.le_of_eq rfl) (hb hby d4_1) (pc' := 4) rfl (by decide) (by decide) rfl ?_
  rintro T1 _ L1 X1 ⟨rfl, N1, e1⟩
  show Go p e below _ (T1.setTop (mkF m 4 #[.val (.ref a)] []))
  refine g_aloadN X1 hx (hb hby d4_4) (pc' := 5) rfl rfl rfl ?_
  refine g_iconst X1 hx (hb hby d4_5) (pc' := 6) rfl (z := 0) (by decide) ?_
  refine g_putF X1 hx hZ .int (host := "") hown (Or.inl (hw _ (List.mem_of_getElem? (i := 44) rfl))) Via.refl e1 (O0.2 ("java/util/AbstractList", "modCount", "I") (mem_i 0 rfl)) O0.1 (Or.inl (hw _ (List.mem_of_getElem? (i := 45) rfl))) (hw _ (List.mem_of_getElem? (i := 26) rfl)) (by decide) rfl rfl (hb hby d4_6) (pc' := 9) rfl ?_
  intro T2 h2 X2 e2 W2
  have O2 := O0.put (lds_A hw) un_A de_A (mem_i 0 rfl) W2
  exact g_retV X2 hx hret hlk (hb hby d4_9) (by decide) (by decide) ⟨rfl, Fr.snoc X2 ((Fr.nil _).app N1) ga, by rw [e2]; exact (Keep.refl _ _).wr W2 (Or.inl (mem_i 0 rfl)), by rw [e2]; exact O2⟩
theorem d3_0 : decode jdk_38_method_2_code 0 = .ok (.aload_n 0, 1) := by decide +kernel
theorem d3_1 : decode jdk_38_method_2_code 1 = .ok (.invokespecial 1, 3) := by decide +kernel
theorem d3_4 : decode jdk_38_method_2_code 4 = .ok (.aload_n 0, 1) := by decide +kernel
theorem d3_5 : decode jdk_38_method_2_code 5 = .ok (.getstatic 39, 3) := by decide +kernel
theorem d3_8 : decode jdk_38_method_2_code 8 = .ok (.putfield 9, 3) := by decide +kernel
theorem d3_11 : decode jdk_38_method_2_code 11 = .ok (.return_, 1) := by decide +kernel
theorem pn_A : plainFor (⟨"java/util/ArrayList", "<init>", "()V"⟩ : MethodName) = true := plainFor_of_name (show plainName "java/util/ArrayList" = true by first | (simp [plainName, overriddenIn]; done) | decide +kernel)
theorem pd_A : parseMethodDescriptor "()V" = some ⟨[], none⟩ := by decide +kernel
theorem ef_A (m : MethodId) (x0 : Addr) : entryFrame m #[(.ref x0)] 1 = mkF m 0 #[.val (.ref x0)] [] := by first | (simp [entryFrame, mkF, argsToLocals, Value.category]; done) | rfl
set_option maxRecDepth 65536 in
set_option maxHeartbeats 40000000 in
theorem rmA (l : Launch) (Z : State) (a0 : Array Value) (hw : ∀ d ∈ tables_1, d.before a0 Z = true) (a ad : Addr) (g : String → Value) (h0 : Heap) (n0 : Nat) (O0 : Ob Z h0 a "java/util/ArrayList" fs_A g) (ga : n0 ≤ a) (hst : ∀ h', Keep h0 h' [a] → Sta Z h' "java/util/ArrayList" "DEFAULTCAPACITY_EMPTY_ELEMENTDATA" "[Ljava/lang/Object;" (.ref ad)) :
    Ct l Z (⟨"java/util/ArrayList", "<init>", "()V"⟩ : MethodName) jdk_38_method_2_code 1 none ({ frames := 3, cells := 0, slots := 0, locals := 36 } : Room) #[(.ref a)] h0 (QK Z a "java/util/ArrayList" fs_A (set (set g "modCount" (.int 0)) "elementData" (.ref ad)) h0 n0) := by
  refine Ct.of pn_A (fun m => ef_A m a) ?_
  intro p e s m below meth c T X0 hx hby hml hret hlk hZ hown hnm e0
  refine g_aloadN X0 hx (hb hby d3_0) (pc' := 1) rfl rfl rfl ?_
  refine g_callI X0 hx hZ 0 (a := a) hown rfl (hw _ (List.mem_of_getElem? (i := 31) rfl)) (hw _ (List.mem_of_getElem? (i := 32) rfl)) (hw _ (List.mem_of_getElem? (i := 35) rfl)) (hw _ (List.mem_of_getElem? (i := 36) rfl)) (by decide) e0 (rmAL l Z a0 hw a g h0 n0 O0 ga) (by decide) (by decide) (by rw [hml]; rfl) (argsL := []) (rest := []) (lenOf pd_AL rfl) rfl (Nat.le_of_eq rfl) (hb hby d3_1) (pc' := 4) rfl (by decide) (by decide) rfl ?_
  rintro T1 _ L1 X1 ⟨rfl, N1, K1, O1⟩
  show Go p e below _ (T1.setTop (mkF m 4 #[.val (.ref a)] []))
  refine g_aloadN X1 hx (hb hby d3_4) (pc' := 5) rfl rfl rfl ?_
  refine g_getS X1 hx hZ hown (hw _ (List.mem_of_getElem? (i := 46) rfl)) Via.refl rfl (hst _ K1) (hb hby d3_5) (pc' := 8) rfl ?_
  intro T2 X2 e2
  refine g_putF X2 hx hZ (.array (.object "java/lang/Object")) (host := "") hown (Or.inl (hw _ (List.mem_of_getElem? (i := 47) rfl))) Via.refl e2 (O1.2 ("java/util/ArrayList", "elementData", "[Ljava/lang/Object;") (mem_i 1 rfl)) O1.1 (Or.inl (hw _ (List.mem_of_getElem? (i := 48) rfl))) (hw _ (List.mem_of_getElem? (i := 26) rfl)) (by decide) rfl rfl (hb hby d3_8) (pc' := 11) rfl ?_
  intro T3 h3 X3 e3 W3
  have O3 := O1.put (lds_A hw) un_A de_A (mem_i 1 rfl) W3
  exact g_retV X3 hx hret hlk (hb hby d3_11) (by decide) (by decide) ⟨rfl, Fr.snoc X3 ((Fr.nil _).app N1) ga, by rw [e3]; exact K1.wr W3 (Or.inl (mem_i 0 rfl)), by rw [e3]; exact O3⟩
theorem d6_0 : decode jdk_69_method_7_code 0 = .ok (.aload_n 0, 1) := by decide +kernel
theorem d6_1 : decode jdk_69_method_7_code 1 = .ok (.invokespecial 43, 3) := by decide +kernel
theorem d6_4 : decode jdk_69_method_7_code 4 = .ok (.aload_n 0, 1) := by decide +kernel
theorem d6_5 : decode jdk_69_method_7_code 5 = .ok (.ldc 92, 2) := by decide +kernel
theorem d6_7 : decode jdk_69_method_7_code 7 = .ok (.putfield 81, 3) := by decide +kernel
theorem d6_10 : decode jdk_69_method_7_code 10 = .ok (.return_, 1) := by decide +kernel
theorem pn_M : plainFor (⟨"java/util/HashMap", "<init>", "()V"⟩ : MethodName) = true := plainFor_of_name (show plainName "java/util/HashMap" = true by first | (simp [plainName, overriddenIn]; done) | decide +kernel)
theorem pd_M : parseMethodDescriptor "()V" = some ⟨[], none⟩ := by decide +kernel
theorem ef_M (m : MethodId) (x0 : Addr) : entryFrame m #[(.ref x0)] 1 = mkF m 0 #[.val (.ref x0)] [] := by first | (simp [entryFrame, mkF, argsToLocals, Value.category]; done) | rfl
def QA (a : Addr) (h0 : Heap) (n0 : Nat) (v : Option Value) (h : Heap) (L : List Loc) : Prop := v = none ∧ Fr n0 L ∧ Keep h0 h [a]
set_option maxRecDepth 65536 in
set_option maxHeartbeats 40000000 in
theorem rmM (l : Launch) (Z : State) (a0 : Array Value) (hw : ∀ d ∈ tables_1, d.before a0 Z = true) (a : Addr) (g : String → Value) (h0 : Heap) (n0 : Nat) (O0 : Ob Z h0 a "java/util/HashMap" fs_M g) (ga : n0 ≤ a) :
    Ct l Z (⟨"java/util/HashMap", "<init>", "()V"⟩ : MethodName) jdk_69_method_7_code 1 none ({ frames := 2, cells := 0, slots := 0, locals := 24 } : Room) #[(.ref a)] h0 (QA a h0 n0) := by
  refine Ct.of pn_M (fun m => ef_M m a) ?_
  intro p e s m below meth c T X0 hx hby hml hret hlk hZ hown hnm e0
  refine g_aloadN X0 hx (hb hby d6_0) (pc' := 1) rfl rfl rfl ?_
  refine g_callI X0 hx hZ 0 (a := a) hown rfl (hw _ (List.mem_of_getElem? (i := 57) rfl)) (hw _ (List.mem_of_getElem? (i := 58) rfl)) (hw _ (List.mem_of_getElem? (i := 61) rfl)) (hw _ (List.mem_of_getElem? (i := 62) rfl)) (by decide) e0 (rmAM l Z a0 hw a h0 n0) (by decide) (by decide) (by rw [hml]; rfl) (argsL := []) (rest := []) (lenOf pd_AM rfl) rfl (Nat.le_of_eq rfl) (hb hby d6_1) (pc' := 4) rfl (by decide) (by decide) rfl ?_
  rintro T1 _ L1 X1 ⟨rfl, N1, e1⟩
  show Go p e below _ (T1.setTop (mkF m 4 #[.val (.ref a)] []))
  refine g_aloadN X1 hx (hb hby d6_4) (pc' := 5) rfl rfl rfl ?_
  refine g_ldcF X1 hx hZ hown (hw _ (List.mem_of_getElem? (i := 64) rfl)) (hb hby d6_5) (pc' := 7) rfl ?_
  refine g_putF X1 hx hZ .float (host := "") hown (Or.inl (hw _ (List.mem_of_getElem? (i := 65) rfl))) Via.refl e1 (O0.2 ("java/util/HashMap", "loadFactor", "F") (mem_i 0 rfl)) O0.1 (Or.inr ⟨(hw _ (List.mem_of_getElem? (i := 66) rfl)), rfl, hnm⟩) (hw _ (List.mem_of_getElem? (i := 52) rfl)) (by decide) rfl rfl (hb hby d6_7) (pc' := 10) rfl ?_
  intro T2 h2 X2 e2 W2
  have O2 := O0.put (lds_M hw) un_M de_M (mem_i 0 rfl) W2
  exact g_retV X2 hx hret hlk (hb hby d6_10) (by decide) (by decide) ⟨rfl, Fr.snoc X2 ((Fr.nil _).app N1) ga, by rw [e2]; exact (Keep.refl _ _).wr W2 (Or.inl (mem_i 0 rfl))⟩
theorem d15_0 : decode jdk_29_method_65_code 0 = .ok (.iload_n 0, 1) := by decide +kernel
theorem d15_1 : decode jdk_29_method_65_code 1 = .ok (.iload_n 1, 1) := by decide +kernel
theorem d15_2 : decode jdk_29_method_65_code 2 = .ok (.if_icmp .lt 7, 3) := by decide +kernel
theorem d15_5 : decode jdk_29_method_65_code 5 = .ok (.iload_n 0, 1) := by decide +kernel
theorem d15_6 : decode jdk_29_method_65_code 6 = .ok (.goto 4, 3) := by decide +kernel
theorem d15_9 : decode jdk_29_method_65_code 9 = .ok (.iload_n 1, 1) := by decide +kernel
theorem d15_10 : decode jdk_29_method_65_code 10 = .ok (.ireturn, 1) := by decide +kernel
theorem pn_MX : plainFor (⟨"java/lang/Math", "max", "(II)I"⟩ : MethodName) = true := by decide +kernel
theorem pd_MX : parseMethodDescriptor "(II)I" = some ⟨[.int, .int], some .int⟩ := by decide +kernel
theorem ef_MX (m : MethodId) (x0 : Int32) (x1 : Int32) : entryFrame m #[(.int x0), (.int x1)] 2 = mkF m 0 #[.val (.int x0), .val (.int x1)] [] := by first | (simp [entryFrame, mkF, argsToLocals, Value.category]; done) | rfl
set_option maxRecDepth 65536 in
set_option maxHeartbeats 40000000 in
theorem rmMX (l : Launch) (Z : State) (a0 : Array Value) (hw : ∀ d ∈ tables_1, d.before a0 Z = true) (x y : Int32) (h0 : Heap) (n0 : Nat) :
    Ct l Z (⟨"java/lang/Math", "max", "(II)I"⟩ : MethodName) jdk_29_method_65_code 2 (some .int) ({ frames := 0, cells := 0, slots := 0, locals := 0 } : Room) #[(.int x), (.int y)] h0 (QU (.int (if x < y then y else x)) h0 n0) := by
  refine Ct.of pn_MX (fun m => ef_MX m x y) ?_
  intro p e s m below meth c T X0 hx hby hml hret hlk hZ hown hnm e0
  refine g_iloadN X0 hx (hb hby d15_0) (pc' := 1) rfl rfl ?_
  refine g_iloadN X0 hx (hb hby d15_1) (pc' := 2) rfl rfl ?_
  refine g_icmp_lt X0 hx (hb hby d15_2) (by decide) (pc' := 9) rfl (pcF := 5) rfl (fun hc => ?_) (fun hc => ?_)
  ·
    refine g_iloadN X0 hx (hb hby d15_9) (pc' := 10) rfl rfl ?_
    exact g_retI X0 hx hret hlk (hb hby d15_10) (by decide) (by decide) ⟨Fr.nil _, e0, by rw [if_pos hc]⟩
  ·
    refine g_iloadN X0 hx (hb hby d15_5) (pc' := 6) rfl rfl ?_
    refine g_goto X0 hx (hb hby d15_6) (by decide) (pc' := 10) rfl ?_
    exact g_retI X0 hx hret hlk (hb hby d15_10) (by decide) (by decide) ⟨Fr.nil _, e0, by rw [if_neg hc]⟩
theorem d17_0 : decode jdk_29_method_69_code 0 = .ok (.iload_n 0, 1) := by decide +kernel
theorem d17_1 : decode jdk_29_method_69_code 1 = .ok (.iload_n 1, 1) := by decide +kernel
theorem d17_2 : decode jdk_29_method_69_code 2 = .ok (.if_icmp .gt 7, 3) := by decide +kernel
theorem d17_5 : decode jdk_29_method_69_code 5 = .ok (.iload_n 0, 1) := by decide +kernel
theorem d17_6 : decode jdk_29_method_69_code 6 = .ok (.goto 4, 3) := by decide +kernel
theorem d17_9 : decode jdk_29_method_69_code 9 = .ok (.iload_n 1, 1) := by decide +kernel
theorem d17_10 : decode jdk_29_method_69_code 10 = .ok (.ireturn, 1) := by decide +kernel
theorem pn_MN : plainFor (⟨"java/lang/Math", "min", "(II)I"⟩ : MethodName) = true := by decide +kernel
theorem pd_MN : parseMethodDescriptor "(II)I" = some ⟨[.int, .int], some .int⟩ := by decide +kernel
theorem ef_MN (m : MethodId) (x0 : Int32) (x1 : Int32) : entryFrame m #[(.int x0), (.int x1)] 2 = mkF m 0 #[.val (.int x0), .val (.int x1)] [] := by first | (simp [entryFrame, mkF, argsToLocals, Value.category]; done) | rfl
set_option maxRecDepth 65536 in
set_option maxHeartbeats 40000000 in
theorem rmMN (l : Launch) (Z : State) (a0 : Array Value) (hw : ∀ d ∈ tables_1, d.before a0 Z = true) (x y : Int32) (h0 : Heap) (n0 : Nat) :
    Ct l Z (⟨"java/lang/Math", "min", "(II)I"⟩ : MethodName) jdk_29_method_69_code 2 (some .int) ({ frames := 0, cells := 0, slots := 0, locals := 0 } : Room) #[(.int x), (.int y)] h0 (QU (.int (if y < x then y else x)) h0 n0) := by
  refine Ct.of pn_MN (fun m => ef_MN m x y) ?_
  intro p e s m below meth c T X0 hx hby hml hret hlk hZ hown hnm e0
  refine g_iloadN X0 hx (hb hby d17_0) (pc' := 1) rfl rfl ?_
  refine g_iloadN X0 hx (hb hby d17_1) (pc' := 2) rfl rfl ?_
  refine g_icmp_gt X0 hx (hb hby d17_2) (by decide) (pc' := 9) rfl (pcF := 5) rfl (fun hc => ?_) (fun hc => ?_)
  ·
    refine g_iloadN X0 hx (hb hby d17_9) (pc' := 10) rfl rfl ?_
    exact g_retI X0 hx hret hlk (hb hby d17_10) (by decide) (by decide) ⟨Fr.nil _, e0, by rw [if_pos hc]⟩
  ·
    refine g_iloadN X0 hx (hb hby d17_5) (pc' := 6) rfl rfl ?_
    refine g_goto X0 hx (hb hby d17_6) (by decide) (pc' := 10) rfl ?_
    exact g_retI X0 hx hret hlk (hb hby d17_10) (by decide) (by decide) ⟨Fr.nil _, e0, by rw [if_neg hc]⟩
theorem d8_0 : decode jdk_65_method_101_code 0 = .ok (.iconst 0, 1) := by decide +kernel
theorem d8_1 : decode jdk_65_method_101_code 1 = .ok (.istore_n 3, 1) := by decide +kernel
theorem d8_2 : decode jdk_65_method_101_code 2 = .ok (.aload_n 0, 1) := by decide +kernel
theorem d8_3 : decode jdk_65_method_101_code 3 = .ok (.arraylength, 1) := by decide +kernel
theorem d8_4 : decode jdk_65_method_101_code 4 = .ok (.istore 4, 2) := by decide +kernel
theorem d8_6 : decode jdk_65_method_101_code 6 = .ok (.iload_n 3, 1) := by decide +kernel
theorem d8_7 : decode jdk_65_method_101_code 7 = .ok (.iload 4, 2) := by decide +kernel
theorem d8_9 : decode jdk_65_method_101_code 9 = .ok (.if_icmp .ge 13, 3) := by decide +kernel
theorem d8_12 : decode jdk_65_method_101_code 12 = .ok (.aload_n 0, 1) := by decide +kernel
theorem d8_13 : decode jdk_65_method_101_code 13 = .ok (.iload_n 3, 1) := by decide +kernel
theorem d8_14 : decode jdk_65_method_101_code 14 = .ok (.lload_n 1, 1) := by decide +kernel
theorem d8_15 : decode jdk_65_method_101_code 15 = .ok (.lastore, 1) := by decide +kernel
theorem d8_16 : decode jdk_65_method_101_code 16 = .ok (.iinc 3 1, 3) := by decide +kernel
theorem d8_19 : decode jdk_65_method_101_code 19 = .ok (.goto (-13), 3) := by decide +kernel
theorem d8_22 : decode jdk_65_method_101_code 22 = .ok (.return_, 1) := by decide +kernel
theorem pn_FJ : plainFor (⟨"java/util/Arrays", "fill", "([JJ)V"⟩ : MethodName) = true := plainFor_of_name (show plainName "java/util/Arrays" = true by first | (simp [plainName, overriddenIn]; done) | decide +kernel)
theorem pd_FJ : parseMethodDescriptor "([JJ)V" = some ⟨[.array .long, .long], none⟩ := by decide +kernel
theorem ef_FJ (m : MethodId) (x0 : Addr) (x1 : Int64) : entryFrame m #[(.ref x0), (.long x1)] 5 = mkF m 0 #[.val (.ref x0), .val (.long x1), .second, .unset, .unset] [] := by first | (simp [entryFrame, mkF, argsToLocals, Value.category]; done) | rfl
set_option maxRecDepth 65536 in
set_option maxHeartbeats 40000000 in
theorem rmFJ (l : Launch) (Z : State) (a0 : Array Value) (hw : ∀ d ∈ tables_1, d.before a0 Z = true) (a : Addr) (n : Nat) (f : Nat → Value) (x : Int64) (h0 : Heap) (n0 : Nat) (V : Av Z h0 a .long n f) (hn : n ≤ 4096) (ga : n0 ≤ a) :
    Ct l Z (⟨"java/util/Arrays", "fill", "([JJ)V"⟩ : MethodName) jdk_65_method_101_code 5 none ({ frames := 0, cells := 0, slots := 0, locals := 0 } : Room) #[(.ref a), (.long x)] h0 (QV Z a .long n (fun _ => .long x) h0 n0) := by
  refine Ct.of pn_FJ (fun m => ef_FJ m a x) ?_
  intro p e s m below meth c T X0 hx hby hml hret hlk hZ hown hnm e0
  have loop : ∀ (k i : Nat) (T1 : State) (h1 : Heap) (lc1 : List Loc), i + k = n → Stand p l e ({ frames := 0, cells := 0, slots := 0, locals := 0 } : Room) s m #[(.ref a), (.long x)] below meth c T1 lc1 0 0 → T1.heap = h1 → Fr n0 lc1 → Keep h0 h1 [a] → Av Z h1 a .long n (fun j => if j < i then .long x else f j) → Go p e below (Dn s below (QV Z a .long n (fun _ => .long x) h0 n0) 0 0) (T1.setTop (mkF m 6 #[.val (.ref a), .val (.long x), .second, .val (.int (Int32.ofNat i)), .val (.int (Int32.ofNat n))] [])) := by
    intro k
    induction k with
    | zero =>
      intro i T1 h1 lc1 hik X1 e1 N1 K1 V1
      refine g_iloadN X1 hx (hb hby d8_6) (pc' := 7) rfl rfl ?_
      refine g_iload X1 hx (hb hby d8_7) (pc' := 9) rfl rfl ?_
      refine g_icmp_ge X1 hx (hb hby d8_9) (by decide) (pc' := 22) rfl (pcF := 12) rfl (fun hc => ?_) (fun hc => ?_)
      ·
        exact g_retV X1 hx hret hlk (hb hby d8_22) (by decide) (by decide) ⟨rfl, N1, by rw [e1]; exact K1, by rw [e1]; exact V1.congr (fun j hj => if_pos (by omega))⟩
      · exact absurd (Int32.lt_iff_toInt_lt.mp hc) (by rw [own_i (by omega), own_i (by omega)]; omega)
    | succ k ih =>
      intro i T1 h1 lc1 hik X1 e1 N1 K1 V1
      refine g_iloadN X1 hx (hb hby d8_6) (pc' := 7) rfl rfl ?_
      refine g_iload X1 hx (hb hby d8_7) (pc' := 9) rfl rfl ?_
      refine g_icmp_ge X1 hx (hb hby d8_9) (by decide) (pc' := 22) rfl (pcF := 12) rfl (fun hc => ?_) (fun hc => ?_)
      · exact absurd (Int32.lt_iff_toInt_lt.mpr (by rw [own_i (by omega), own_i (by omega)]; omega)) hc
      refine g_aloadN X1 hx (hb hby d8_12) (pc' := 13) rfl rfl rfl ?_
      refine g_iloadN X1 hx (hb hby d8_13) (pc' := 14) rfl rfl ?_
      refine g_lloadN X1 hx (hb hby d8_14) (pc' := 15) rfl rfl ?_
      refine g_lastore X1 hx hZ e1 V1 (own_nn.mpr (by rw [own_i (by omega)]; omega)) (own_nat (own_i (by omega))) (by omega) (hb hby d8_15) (pc' := 16) rfl ?_
      intro T2 h2 X2 e2 W2 V2
      refine g_iinc X2 hx (hb hby d8_16) (pc' := 19) rfl rfl (z := Int32.ofNat (i + 1)) (own_i1 i) (Ls' := #[.val (.ref a), .val (.long x), .second, .val (.int (Int32.ofNat (i + 1))), .val (.int (Int32.ofNat n))]) rfl ?_
      refine g_goto X2 hx (hb hby d8_19) (by decide) (pc' := 6) rfl ?_
      exact ih (i + 1) T2 h2 _ (by omega) X2 e2 (Fr.snoc X2 N1 ga) (K1.wr W2 (Or.inl (mem_i 0 rfl))) (V2.congr (fun j hj => own_upd_if i j x f))
  refine g_iconst X0 hx (hb hby d8_0) (pc' := 1) rfl (z := 0) (by decide) ?_
  refine g_istoreN X0 hx (hb hby d8_1) (pc' := 2) rfl (Ls' := #[.val (.ref a), .val (.long x), .second, .val (.int (0 : Int32)), .unset]) rfl ?_
  refine g_aloadN X0 hx (hb hby d8_2) (pc' := 3) rfl rfl rfl ?_
  refine g_arraylength X0 hx hZ e0 V (z := Int32.ofNat n) rfl (hb hby d8_3) (pc' := 4) rfl ?_
  refine g_istore X0 hx (hb hby d8_4) (pc' := 6) rfl (Ls' := #[.val (.ref a), .val (.long x), .second, .val (.int (0 : Int32)), .val (.int (Int32.ofNat n))]) rfl ?_
  exact loop n 0 T h0 [] (by omega) X0 e0 (Fr.nil _) (Keep.refl _ _) (V.congr (fun j hj => (if_neg (Nat.not_lt_zero j)).symm))
theorem d19_0 : decode jdk_65_method_30_code 0 = .ok (.iload_n 1, 1) := by decide +kernel
theorem d19_1 : decode jdk_65_method_30_code 1 = .ok (.iload_n 2, 1) := by decide +kernel
theorem d19_2 : decode jdk_65_method_30_code 2 = .ok (.if_icmp .le 44, 3) := by decide +kernel
theorem d19_5 : decode jdk_65_method_30_code 5 = .ok (.new 43, 3) := by decide +kernel
theorem d19_8 : decode jdk_65_method_30_code 8 = .ok (.dup, 1) := by decide +kernel
theorem d19_9 : decode jdk_65_method_30_code 9 = .ok (.new 45, 3) := by decide +kernel
theorem d19_12 : decode jdk_65_method_30_code 12 = .ok (.dup, 1) := by decide +kernel
theorem d19_13 : decode jdk_65_method_30_code 13 = .ok (.invokespecial 47, 3) := by decide +kernel
theorem d19_16 : decode jdk_65_method_30_code 16 = .ok (.ldc 48, 2) := by decide +kernel
theorem d19_18 : decode jdk_65_method_30_code 18 = .ok (.invokevirtual 50, 3) := by decide +kernel
theorem d19_21 : decode jdk_65_method_30_code 21 = .ok (.iload_n 1, 1) := by decide +kernel
theorem d19_22 : decode jdk_65_method_30_code 22 = .ok (.invokevirtual 54, 3) := by decide +kernel
theorem d19_25 : decode jdk_65_method_30_code 25 = .ok (.ldc 57, 2) := by decide +kernel
theorem d19_27 : decode jdk_65_method_30_code 27 = .ok (.invokevirtual 50, 3) := by decide +kernel
theorem d19_30 : decode jdk_65_method_30_code 30 = .ok (.iload_n 2, 1) := by decide +kernel
theorem d19_31 : decode jdk_65_method_30_code 31 = .ok (.invokevirtual 54, 3) := by decide +kernel
theorem d19_34 : decode jdk_65_method_30_code 34 = .ok (.ldc 59, 2) := by decide +kernel
theorem d19_36 : decode jdk_65_method_30_code 36 = .ok (.invokevirtual 50, 3) := by decide +kernel
theorem d19_39 : decode jdk_65_method_30_code 39 = .ok (.invokevirtual 61, 3) := by decide +kernel
theorem d19_42 : decode jdk_65_method_30_code 42 = .ok (.invokespecial 65, 3) := by decide +kernel
theorem d19_45 : decode jdk_65_method_30_code 45 = .ok (.athrow, 1) := by decide +kernel
theorem d19_46 : decode jdk_65_method_30_code 46 = .ok (.iload_n 1, 1) := by decide +kernel
theorem d19_47 : decode jdk_65_method_30_code 47 = .ok (.ifCond .ge 12, 3) := by decide +kernel
theorem d19_50 : decode jdk_65_method_30_code 50 = .ok (.new 68, 3) := by decide +kernel
theorem d19_53 : decode jdk_65_method_30_code 53 = .ok (.dup, 1) := by decide +kernel
theorem d19_54 : decode jdk_65_method_30_code 54 = .ok (.iload_n 1, 1) := by decide +kernel
theorem d19_55 : decode jdk_65_method_30_code 55 = .ok (.invokespecial 70, 3) := by decide +kernel
theorem d19_58 : decode jdk_65_method_30_code 58 = .ok (.athrow, 1) := by decide +kernel
theorem d19_59 : decode jdk_65_method_30_code 59 = .ok (.iload_n 2, 1) := by decide +kernel
theorem d19_60 : decode jdk_65_method_30_code 60 = .ok (.iload_n 0, 1) := by decide +kernel
theorem d19_61 : decode jdk_65_method_30_code 61 = .ok (.if_icmp .le 12, 3) := by decide +kernel
theorem d19_64 : decode jdk_65_method_30_code 64 = .ok (.new 68, 3) := by decide +kernel
theorem d19_67 : decode jdk_65_method_30_code 67 = .ok (.dup, 1) := by decide +kernel
theorem d19_68 : decode jdk_65_method_30_code 68 = .ok (.iload_n 2, 1) := by decide +kernel
theorem d19_69 : decode jdk_65_method_30_code 69 = .ok (.invokespecial 70, 3) := by decide +kernel
theorem d19_72 : decode jdk_65_method_30_code 72 = .ok (.athrow, 1) := by decide +kernel
theorem d19_73 : decode jdk_65_method_30_code 73 = .ok (.return_, 1) := by decide +kernel
theorem pn_RC : plainFor (⟨"java/util/Arrays", "rangeCheck", "(III)V"⟩ : MethodName) = true := plainFor_of_name (show plainName "java/util/Arrays" = true by first | (simp [plainName, overriddenIn]; done) | decide +kernel)
theorem pd_RC : parseMethodDescriptor "(III)V" = some ⟨[.int, .int, .int], none⟩ := by decide +kernel
theorem ef_RC (m : MethodId) (x0 : Int32) (x1 : Int32) (x2 : Int32) : entryFrame m #[(.int x0), (.int x1), (.int x2)] 3 = mkF m 0 #[.val (.int x0), .val (.int x1), .val (.int x2)] [] := by first | (simp [entryFrame, mkF, argsToLocals, Value.category]; done) | rfl
set_option maxRecDepth 65536 in
set_option maxHeartbeats 40000000 in
theorem rmRC (l : Launch) (Z : State) (a0 : Array Value) (hw : ∀ d ∈ tables_1, d.before a0 Z = true) (x y z : Int32) (h0 : Heap) (n0 : Nat) (h1 : ¬ z < y) (h2 : ¬ y < 0) (h3 : ¬ x < z) :
    Ct l Z (⟨"java/util/Arrays", "rangeCheck", "(III)V"⟩ : MethodName) jdk_65_method_30_code 3 none ({ frames := 0, cells := 0, slots := 0, locals := 0 } : Room) #[(.int x), (.int y), (.int z)] h0 (QN h0 n0) := by
  refine Ct.of pn_RC (fun m => ef_RC m x y z) ?_
  intro p e s m below meth c T X0 hx hby hml hret hlk hZ hown hnm e0
  refine g_iloadN X0 hx (hb hby d19_0) (pc' := 1) rfl rfl ?_
  refine g_iloadN X0 hx (hb hby d19_1) (pc' := 2) rfl rfl ?_
  refine g_icmp_le X0 hx (hb hby d19_2) (by decide) (pc' := 46) rfl (pcF := 5) rfl (fun hc => ?_) (fun hc => absurd hc h1)
  refine g_iloadN X0 hx (hb hby d19_46) (pc' := 47) rfl rfl ?_
  refine g_if_ge X0 hx (hb hby d19_47) (by decide) (pc' := 59) rfl (pcF := 50) rfl (fun hc => ?_) (fun hc => absurd hc h2)
  refine g_iloadN X0 hx (hb hby d19_59) (pc' := 60) rfl rfl ?_
  refine g_iloadN X0 hx (hb hby d19_60) (pc' := 61) rfl rfl ?_
  refine g_icmp_le X0 hx (hb hby d19_61) (by decide) (pc' := 73) rfl (pcF := 64) rfl (fun hc => ?_) (fun hc => absurd hc h3)
  exact g_retV X0 hx hret hlk (hb hby d19_73) (by decide) (by decide) ⟨rfl, Fr.nil _, e0⟩
theorem d18_0 : decode jdk_65_method_102_code 0 = .ok (.aload_n 0, 1) := by decide +kernel
theorem d18_1 : decode jdk_65_method_102_code 1 = .ok (.arraylength, 1) := by decide +kernel
theorem d18_2 : decode jdk_65_method_102_code 2 = .ok (.iload_n 1, 1) := by decide +kernel
theorem d18_3 : decode jdk_65_method_102_code 3 = .ok (.iload_n 2, 1) := by decide +kernel
theorem d18_4 : decode jdk_65_method_102_code 4 = .ok (.invokestatic 13, 3) := by decide +kernel
theorem d18_7 : decode jdk_65_method_102_code 7 = .ok (.iload_n 1, 1) := by decide +kernel
theorem d18_8 : decode jdk_65_method_102_code 8 = .ok (.istore 5, 2) := by decide +kernel
theorem d18_10 : decode jdk_65_method_102_code 10 = .ok (.iload 5, 2) := by decide +kernel
theorem d18_12 : decode jdk_65_method_102_code 12 = .ok (.iload_n 2, 1) := by decide +kernel
theorem d18_13 : decode jdk_65_method_102_code 13 = .ok (.if_icmp .ge 14, 3) := by decide +kernel
theorem d18_16 : decode jdk_65_method_102_code 16 = .ok (.aload_n 0, 1) := by decide +kernel
theorem d18_17 : decode jdk_65_method_102_code 17 = .ok (.iload 5, 2) := by decide +kernel
theorem d18_19 : decode jdk_65_method_102_code 19 = .ok (.lload_n 3, 1) := by decide +kernel
theorem d18_20 : decode jdk_65_method_102_code 20 = .ok (.lastore, 1) := by decide +kernel
theorem d18_21 : decode jdk_65_method_102_code 21 = .ok (.iinc 5 1, 3) := by decide +kernel
theorem d18_24 : decode jdk_65_method_102_code 24 = .ok (.goto (-14), 3) := by decide +kernel
theorem d18_27 : decode jdk_65_method_102_code 27 = .ok (.return_, 1) := by decide +kernel
theorem pn_FR : plainFor (⟨"java/util/Arrays", "fill", "([JIIJ)V"⟩ : MethodName) = true := plainFor_of_name (show plainName "java/util/Arrays" = true by first | (simp [plainName, overriddenIn]; done) | decide +kernel)
theorem pd_FR : parseMethodDescriptor "([JIIJ)V" = some ⟨[.array .long, .int, .int, .long], none⟩ := by decide +kernel
theorem ef_FR (m : MethodId) (x0 : Addr) (x1 : Int32) (x2 : Int32) (x3 : Int64) : entryFrame m #[(.ref x0), (.int x1), (.int x2), (.long x3)] 6 = mkF m 0 #[.val (.ref x0), .val (.int x1), .val (.int x2), .val (.long x3), .second, .unset] [] := by first | (simp [entryFrame, mkF, argsToLocals, Value.category]; done) | rfl
set_option maxRecDepth 65536 in
set_option maxHeartbeats 40000000 in
theorem rmFR (l : Launch) (Z : State) (a0 : Array Value) (hw : ∀ d ∈ tables_1, d.before a0 Z = true) (a : Addr) (n lo hi : Nat) (f : Nat → Value) (x : Int64) (h0 : Heap) (n0 : Nat) (V : Av Z h0 a .long n f) (hn : n ≤ 4096) (hlo : lo ≤ hi) (hhi : hi ≤ n) (ga : n0 ≤ a) :
    Ct l Z (⟨"java/util/Arrays", "fill", "([JIIJ)V"⟩ : MethodName) jdk_65_method_102_code 6 none ({ frames := 1, cells := 0, slots := 0, locals := 14 } : Room) #[(.ref a), (.int (Int32.ofNat lo)), (.int (Int32.ofNat hi)), (.long x)] h0 (QV Z a .long n (fun j => if lo ≤ j ∧ j < hi then .long x else f j) h0 n0) := by
  refine Ct.of pn_FR (fun m => ef_FR m a (Int32.ofNat lo) (Int32.ofNat hi) x) ?_
  intro p e s m below meth c T X0 hx hby hml hret hlk hZ hown hnm e0
  have loop : ∀ (k i : Nat) (T1 : State) (h1 : Heap) (lc1 : List Loc), i + k = hi → lo ≤ i → Stand p l e ({ frames := 1, cells := 0, slots := 0, locals := 14 } : Room) s m #[(.ref a), (.int (Int32.ofNat lo)), (.int (Int32.ofNat hi)), (.long x)] below meth c T1 lc1 0 0 → T1.heap = h1 → Fr n0 lc1 → Keep h0 h1 [a] → Av Z h1 a .long n (fun j => if lo ≤ j ∧ j < i then .long x else f j) → Go p e below (Dn s below (QV Z a .long n (fun j => if lo ≤ j ∧ j < hi then .long x else f j) h0 n0) 0 0) (T1.setTop (mkF m 10 #[.val (.ref a), .val (.int (Int32.ofNat lo)), .val (.int (Int32.ofNat hi)), .val (.long x), .second, .val (.int (Int32.ofNat i))] [])) := by
    intro k
    induction k with
    | zero =>
      intro i T1 h1 lc1 hik hli X1 e1 N1 K1 V1
      refine g_iload X1 hx (hb hby d18_10) (pc' := 12) rfl rfl ?_
      refine g_iloadN X1 hx (hb hby d18_12) (pc' := 13) rfl rfl ?_
      refine g_icmp_ge X1 hx (hb hby d18_13) (by decide) (pc' := 27) rfl (pcF := 16) rfl (fun hc => ?_) (fun hc => ?_)
      ·
        obtain rfl : i = hi := hik
        exact g_retV X1 hx hret hlk (hb hby d18_27) (by decide) (by decide) ⟨rfl, N1, by rw [e1]; exact K1, by rw [e1]; exact V1⟩
      · exact absurd (Int32.lt_iff_toInt_lt.mp hc) (by rw [own_i (by omega), own_i (by omega)]; omega)
    | succ k ih =>
      intro i T1 h1 lc1 hik hli X1 e1 N1 K1 V1
      refine g_iload X1 hx (hb hby d18_10) (pc' := 12) rfl rfl ?_
      refine g_iloadN X1 hx (hb hby d18_12) (pc' := 13) rfl rfl ?_
      refine g_icmp_ge X1 hx (hb hby d18_13) (by decide) (pc' := 27) rfl (pcF := 16) rfl (fun hc => ?_) (fun hc => ?_)
      · exact absurd (Int32.lt_iff_toInt_lt.mpr (by rw [own_i (by omega), own_i (by omega)]; omega)) hc
      refine g_aloadN X1 hx (hb hby d18_16) (pc' := 17) rfl rfl rfl ?_
      refine g_iload X1 hx (hb hby d18_17) (pc' := 19) rfl rfl ?_
      refine g_lloadN X1 hx (hb hby d18_19) (pc' := 20) rfl rfl ?_
      refine g_lastore X1 hx hZ e1 V1 (own_nn.mpr (by rw [own_i (by omega)]; omega)) (own_nat (own_i (by omega))) (by omega) (hb hby d18_20) (pc' := 21) rfl ?_
      intro T2 h2 X2 e2 W2 V2
      refine g_iinc X2 hx (hb hby d18_21) (pc' := 24) rfl rfl (z := Int32.ofNat (i + 1)) (own_i1 i) (Ls' := #[.val (.ref a), .val (.int (Int32.ofNat lo)), .val (.int (Int32.ofNat hi)), .val (.long x), .second, .val (.int (Int32.ofNat (i + 1)))]) rfl ?_
      refine g_goto X2 hx (hb hby d18_24) (by decide) (pc' := 10) rfl ?_
      exact ih (i + 1) T2 h2 _ (by omega) (by omega) X2 e2 (Fr.snoc X2 N1 ga) (K1.wr W2 (Or.inl (mem_i 0 rfl))) (V2.congr (fun j hj => own_upd_if2 lo i j hli x f))
  refine g_aloadN X0 hx (hb hby d18_0) (pc' := 1) rfl rfl rfl ?_
  refine g_arraylength X0 hx hZ e0 V (z := Int32.ofNat n) rfl (hb hby d18_1) (pc' := 2) rfl ?_
  refine g_iloadN X0 hx (hb hby d18_2) (pc' := 3) rfl rfl ?_
  refine g_iloadN X0 hx (hb hby d18_3) (pc' := 4) rfl rfl ?_
  refine g_callS X0 hx hZ 0 hown (hw _ (List.mem_of_getElem? (i := 153) rfl)) (hw _ (List.mem_of_getElem? (i := 154) rfl)) (hw _ (List.mem_of_getElem? (i := 72) rfl)) (hw _ (List.mem_of_getElem? (i := 155) rfl)) (by decide) e0 (rmRC l Z a0 hw (Int32.ofNat n) (Int32.ofNat lo) (Int32.ofNat hi) h0 n0 (own_nlt (by omega) (by omega) hlo) (own_nn.mpr (by rw [own_i (by omega)]; omega)) (own_nlt (by omega) (by omega) hhi)) (by decide) (by decide) (by rw [hml]; rfl) (argsL := [(.int (Int32.ofNat n)), (.int (Int32.ofNat lo)), (.int (Int32.ofNat hi))]) (rest := []) (lenOf pd_RC rfl) rfl (Nat.le_of_eq rfl) (hb hby d18_4) (pc' := 7) rfl (by decide) (by decide) rfl ?_
  rintro T1 _ L1 X1 ⟨rfl, N1, e1⟩
  show Go p e below _ (T1.setTop (mkF m 7 #[.val (.ref a), .val (.int (Int32.ofNat lo)), .val (.int (Int32.ofNat hi)), .val (.long x), .second, .unset] []))
  refine g_iloadN X1 hx (hb hby d18_7) (pc' := 8) rfl rfl ?_
  refine g_istore X1 hx (hb hby d18_8) (pc' := 10) rfl (Ls' := #[.val (.ref a), .val (.int (Int32.ofNat lo)), .val (.int (Int32.ofNat hi)), .val (.long x), .second, .val (.int (Int32.ofNat lo))]) rfl ?_
  exact loop (hi - lo) lo T1 h0 _ (by omega) (Nat.le_refl _) X1 e1 ((Fr.nil _).app N1) (Keep.refl _ _) (V.congr (fun j hj => (if_neg (by omega)).symm))
theorem d16_0 : decode jdk_65_method_124_code 0 = .ok (.iload_n 1, 1) := by decide +kernel
theorem d16_1 : decode jdk_65_method_124_code 1 = .ok (.aload_n 0, 1) := by decide +kernel
theorem d16_2 : decode jdk_65_method_124_code 2 = .ok (.arraylength, 1) := by decide +kernel
theorem d16_3 : decode jdk_65_method_124_code 3 = .ok (.if_icmp .ne 11, 3) := by decide +kernel
theorem d16_6 : decode jdk_65_method_124_code 6 = .ok (.aload_n 0, 1) := by decide +kernel
theorem d16_7 : decode jdk_65_method_124_code 7 = .ok (.invokevirtual 319, 3) := by decide +kernel
theorem d16_10 : decode jdk_65_method_124_code 10 = .ok (.checkcast 320, 3) := by decide +kernel
theorem d16_13 : decode jdk_65_method_124_code 13 = .ok (.areturn, 1) := by decide +kernel
theorem d16_14 : decode jdk_65_method_124_code 14 = .ok (.iload_n 1, 1) := by decide +kernel
theorem d16_15 : decode jdk_65_method_124_code 15 = .ok (.newarray .long, 2) := by decide +kernel
theorem d16_17 : decode jdk_65_method_124_code 17 = .ok (.astore_n 2, 1) := by decide +kernel
theorem d16_18 : decode jdk_65_method_124_code 18 = .ok (.aload_n 0, 1) := by decide +kernel
theorem d16_19 : decode jdk_65_method_124_code 19 = .ok (.iconst 0, 1) := by decide +kernel
theorem d16_20 : decode jdk_65_method_124_code 20 = .ok (.aload_n 2, 1) := by decide +kernel
theorem d16_21 : decode jdk_65_method_124_code 21 = .ok (.iconst 0, 1) := by decide +kernel
theorem d16_22 : decode jdk_65_method_124_code 22 = .ok (.aload_n 0, 1) := by decide +kernel
theorem d16_23 : decode jdk_65_method_124_code 23 = .ok (.arraylength, 1) := by decide +kernel
theorem d16_24 : decode jdk_65_method_124_code 24 = .ok (.iload_n 1, 1) := by decide +kernel
theorem d16_25 : decode jdk_65_method_124_code 25 = .ok (.invokestatic 304, 3) := by decide +kernel
theorem d16_28 : decode jdk_65_method_124_code 28 = .ok (.invokestatic 150, 3) := by decide +kernel
theorem d16_31 : decode jdk_65_method_124_code 31 = .ok (.aload_n 2, 1) := by decide +kernel
theorem d16_32 : decode jdk_65_method_124_code 32 = .ok (.areturn, 1) := by decide +kernel
theorem pn_CJ : plainFor (⟨"java/util/Arrays", "copyOf", "([JI)[J"⟩ : MethodName) = true := plainFor_of_name (show plainName "java/util/Arrays" = true by first | (simp [plainName, overriddenIn]; done) | decide +kernel)
theorem pd_CJ : parseMethodDescriptor "([JI)[J" = some ⟨[.array .long, .int], some (.array .long)⟩ := by decide +kernel
theorem ef_CJ (m : MethodId) (x0 : Addr) (x1 : Int32) : entryFrame m #[(.ref x0), (.int x1)] 3 = mkF m 0 #[.val (.ref x0), .val (.int x1), .unset] [] := by first | (simp [entryFrame, mkF, argsToLocals, Value.category]; done) | rfl
set_option maxRecDepth 65536 in
set_option maxHeartbeats 40000000 in
theorem rmCJ (l : Launch) (Z : State) (a0 : Array Value) (hw : ∀ d ∈ tables_1, d.before a0 Z = true) (a : Addr) (n m' : Nat) (f : Nat → Value) (h0 : Heap) (n0 : Nat) (V : Av Z h0 a .long n f) (hf : ∀ j, ∃ v : Int64, f j = .long v) (hn : n < m') (hm : m' ≤ 2048) (Z0 : n0 ≤ h0.size) :
    Ct l Z (⟨"java/util/Arrays", "copyOf", "([JI)[J"⟩ : MethodName) jdk_65_method_124_code 3 (some (.array .long)) ({ frames := 1, cells := 1, slots := 2048, locals := 18 } : Room) #[(.ref a), (.int (Int32.ofNat m'))] h0 (QF Z .long m' (fun j => if j < n then f j else .long 0) h0 n0) := by
  refine Ct.of pn_CJ (fun m => ef_CJ m a (Int32.ofNat m')) ?_
  intro p e s m below meth c T X0 hx hby hml hret hlk hZ hown hnm e0
  refine g_iloadN X0 hx (hb hby d16_0) (pc' := 1) rfl rfl ?_
  refine g_aloadN X0 hx (hb hby d16_1) (pc' := 2) rfl rfl rfl ?_
  refine g_arraylength X0 hx hZ e0 V (z := Int32.ofNat n) rfl (hb hby d16_2) (pc' := 3) rfl ?_
  refine g_icmp_ne X0 hx (hb hby d16_3) (by decide) (pc' := 14) rfl (pcF := 6) rfl (fun hc => ?_) (fun hc => absurd (congrArg Int32.toInt hc) (by rw [own_i (by omega), own_i (by omega)]; omega))
  refine g_iloadN X0 hx (hb hby d16_14) (pc' := 15) rfl rfl ?_
  refine g_newarr X0 hx hZ (hw _ (List.mem_of_getElem? (i := 9) rfl)) rfl e0 (hb hby d16_15) (pc' := 17) rfl (own_nn.mpr (by rw [own_i (by omega)]; omega)) (n := m') (own_nat (own_i (by omega))) 2048 hm (by decide) (by decide) (by decide) ?_
  intro T1 h1 b g1 X1 e1 E1 V1
  refine g_astoreN X1 hx (hb hby d16_17) (pc' := 18) rfl rfl (Ls' := #[.val (.ref a), .val (.int (Int32.ofNat m')), .val (.ref b)]) rfl ?_
  refine g_aloadN X1 hx (hb hby d16_18) (pc' := 19) rfl rfl rfl ?_
  refine g_iconst X1 hx (hb hby d16_19) (pc' := 20) rfl (z := 0) (by decide) ?_
  refine g_aloadN X1 hx (hb hby d16_20) (pc' := 21) rfl rfl rfl ?_
  refine g_iconst X1 hx (hb hby d16_21) (pc' := 22) rfl (z := 0) (by decide) ?_
  refine g_aloadN X1 hx (hb hby d16_22) (pc' := 23) rfl rfl rfl ?_
  refine g_arraylength X1 hx hZ e1 (V.ext E1) (z := Int32.ofNat n) rfl (hb hby d16_23) (pc' := 24) rfl ?_
  refine g_iloadN X1 hx (hb hby d16_24) (pc' := 25) rfl rfl ?_
  refine g_callS X1 hx hZ 4 hown (hw _ (List.mem_of_getElem? (i := 143) rfl)) (hw _ (List.mem_of_getElem? (i := 144) rfl)) (hw _ (List.mem_of_getElem? (i := 138) rfl)) (hw _ (List.mem_of_getElem? (i := 145) rfl)) (by decide) e1 (rmMN l Z a0 hw (Int32.ofNat n) (Int32.ofNat m') h1 n0) (by decide) (by decide) (by rw [hml]; rfl) (argsL := [(.int (Int32.ofNat n)), (.int (Int32.ofNat m'))]) (rest := [(.int (0 : Int32)), (.ref b), (.int (0 : Int32)), (.ref a)]) (lenOf pd_MN rfl) rfl (Nat.le_of_eq rfl) (hb hby d16_25) (pc' := 28) rfl (by decide) (by decide) rfl ?_
  rintro T2 _ L2 X2 ⟨N2, e2, rfl⟩
  show Go p e below _ (T2.setTop (mkF m 28 #[.val (.ref a), .val (.int (Int32.ofNat m')), .val (.ref b)] [(.int (if Int32.ofNat m' < Int32.ofNat n then Int32.ofNat m' else Int32.ofNat n)), (.int (0 : Int32)), (.ref b), (.int (0 : Int32)), (.ref a)]))
  rw [if_neg (own_nlt (by omega) (by omega) (Nat.le_of_lt hn))]
  refine g_acopy X2 hx hZ hown (hw _ (List.mem_of_getElem? (i := 146) rfl)) (hw _ (List.mem_of_getElem? (i := 149) rfl)) (hw _ (List.mem_of_getElem? (i := 147) rfl)) (hw _ (List.mem_of_getElem? (i := 148) rfl)) e2 (V.ext E1) V1 rfl (fun j hj => by obtain ⟨v, hv⟩ := hf j; rw [hv]; rfl) (fun j hj => rfl) (own_i (by omega)) (by omega) (Nat.le_refl _) (by omega) (by omega) ((Fr.nil n0).app N2) (Nat.le_trans Z0 (Nat.le_of_eq g1.symm)) (by rw [hml]; rfl) (hb hby d16_28) (pc' := 31) rfl (by decide) 0 (Nat.le_of_eq rfl) (by decide) ?_
  intro T3 h3 L3 X3 e3 N3 K3 V3
  refine g_aloadN X3 hx (hb hby d16_31) (pc' := 32) rfl rfl rfl ?_
  exact g_retR X3 hx hret hlk rfl rfl (hb hby d16_32) (by decide) (by decide) ⟨b, rfl, N3, Nat.le_of_eq g1.symm, by rw [e3]; exact ext_of_keep ((Keep.refl h0 []).ext E1 |>.trans K3 (allS (Or.inr (Nat.le_of_eq g1.symm)) all0)), by rw [e3]; exact V3⟩
theorem d20_0 : decode jdk_65_method_123_code 0 = .ok (.iload_n 1, 1) := by decide +kernel
theorem d20_1 : decode jdk_65_method_123_code 1 = .ok (.aload_n 0, 1) := by decide +kernel
theorem d20_2 : decode jdk_65_method_123_code 2 = .ok (.arraylength, 1) := by decide +kernel
theorem d20_3 : decode jdk_65_method_123_code 3 = .ok (.if_icmp .ne 11, 3) := by decide +kernel
theorem d20_6 : decode jdk_65_method_123_code 6 = .ok (.aload_n 0, 1) := by decide +kernel
theorem d20_7 : decode jdk_65_method_123_code 7 = .ok (.invokevirtual 316, 3) := by decide +kernel
theorem d20_10 : decode jdk_65_method_123_code 10 = .ok (.checkcast 317, 3) := by decide +kernel
theorem d20_13 : decode jdk_65_method_123_code 13 = .ok (.areturn, 1) := by decide +kernel
theorem d20_14 : decode jdk_65_method_123_code 14 = .ok (.iload_n 1, 1) := by decide +kernel
theorem d20_15 : decode jdk_65_method_123_code 15 = .ok (.newarray .int, 2) := by decide +kernel
theorem d20_17 : decode jdk_65_method_123_code 17 = .ok (.astore_n 2, 1) := by decide +kernel
theorem d20_18 : decode jdk_65_method_123_code 18 = .ok (.aload_n 0, 1) := by decide +kernel
theorem d20_19 : decode jdk_65_method_123_code 19 = .ok (.iconst 0, 1) := by decide +kernel
theorem d20_20 : decode jdk_65_method_123_code 20 = .ok (.aload_n 2, 1) := by decide +kernel
theorem d20_21 : decode jdk_65_method_123_code 21 = .ok (.iconst 0, 1) := by decide +kernel
theorem d20_22 : decode jdk_65_method_123_code 22 = .ok (.aload_n 0, 1) := by decide +kernel
theorem d20_23 : decode jdk_65_method_123_code 23 = .ok (.arraylength, 1) := by decide +kernel
theorem d20_24 : decode jdk_65_method_123_code 24 = .ok (.iload_n 1, 1) := by decide +kernel
theorem d20_25 : decode jdk_65_method_123_code 25 = .ok (.invokestatic 304, 3) := by decide +kernel
theorem d20_28 : decode jdk_65_method_123_code 28 = .ok (.invokestatic 150, 3) := by decide +kernel
theorem d20_31 : decode jdk_65_method_123_code 31 = .ok (.aload_n 2, 1) := by decide +kernel
theorem d20_32 : decode jdk_65_method_123_code 32 = .ok (.areturn, 1) := by decide +kernel
theorem pn_CI : plainFor (⟨"java/util/Arrays", "copyOf", "([II)[I"⟩ : MethodName) = true := plainFor_of_name (show plainName "java/util/Arrays" = true by first | (simp [plainName, overriddenIn]; done) | decide +kernel)
theorem pd_CI : parseMethodDescriptor "([II)[I" = some ⟨[.array .int, .int], some (.array .int)⟩ := by decide +kernel
theorem ef_CI (m : MethodId) (x0 : Addr) (x1 : Int32) : entryFrame m #[(.ref x0), (.int x1)] 3 = mkF m 0 #[.val (.ref x0), .val (.int x1), .unset] [] := by first | (simp [entryFrame, mkF, argsToLocals, Value.category]; done) | rfl
set_option maxRecDepth 65536 in
set_option maxHeartbeats 40000000 in
theorem rmCI (l : Launch) (Z : State) (a0 : Array Value) (hw : ∀ d ∈ tables_1, d.before a0 Z = true) (a : Addr) (n m' : Nat) (f : Nat → Value) (h0 : Heap) (n0 : Nat) (V : Av Z h0 a .int n f) (hf : ∀ j, ∃ v : Int32, f j = .int v) (hn : n < m') (hm : m' ≤ 2048) (Z0 : n0 ≤ h0.size) :
    Ct l Z (⟨"java/util/Arrays", "copyOf", "([II)[I"⟩ : MethodName) jdk_65_method_123_code 3 (some (.array .int)) ({ frames := 1, cells := 1, slots := 2048, locals := 18 } : Room) #[(.ref a), (.int (Int32.ofNat m'))] h0 (QF Z .int m' (fun j => if j < n then f j else .int 0) h0 n0) := by
  refine Ct.of pn_CI (fun m => ef_CI m a (Int32.ofNat m')) ?_
  intro p e s m below meth c T X0 hx hby hml hret hlk hZ hown hnm e0
  refine g_iloadN X0 hx (hb hby d20_0) (pc' := 1) rfl rfl ?_
  refine g_aloadN X0 hx (hb hby d20_1) (pc' := 2) rfl rfl rfl ?_
  refine g_arraylength X0 hx hZ e0 V (z := Int32.ofNat n) rfl (hb hby d20_2) (pc' := 3) rfl ?_
  refine g_icmp_ne X0 hx (hb hby d20_3) (by decide) (pc' := 14) rfl (pcF := 6) rfl (fun hc => ?_) (fun hc => absurd (congrArg Int32.toInt hc) (by rw [own_i (by omega), own_i (by omega)]; omega))
  refine g_iloadN X0 hx (hb hby d20_14) (pc' := 15) rfl rfl ?_
  refine g_newarr X0 hx hZ (hw _ (List.mem_of_getElem? (i := 12) rfl)) rfl e0 (hb hby d20_15) (pc' := 17) rfl (own_nn.mpr (by rw [own_i (by omega)]; omega)) (n := m') (own_nat (own_i (by omega))) 2048 hm (by decide) (by decide) (by decide) ?_
  intro T1 h1 b g1 X1 e1 E1 V1
  refine g_astoreN X1 hx (hb hby d20_17) (pc' := 18) rfl rfl (Ls' := #[.val (.ref a), .val (.int (Int32.ofNat m')), .val (.ref b)]) rfl ?_
  refine g_aloadN X1 hx (hb hby d20_18) (pc' := 19) rfl rfl rfl ?_
  refine g_iconst X1 hx (hb hby d20_19) (pc' := 20) rfl (z := 0) (by decide) ?_
  refine g_aloadN X1 hx (hb hby d20_20) (pc' := 21) rfl rfl rfl ?_
  refine g_iconst X1 hx (hb hby d20_21) (pc' := 22) rfl (z := 0) (by decide) ?_
  refine g_aloadN X1 hx (hb hby d20_22) (pc' := 23) rfl rfl rfl ?_
  refine g_arraylength X1 hx hZ e1 (V.ext E1) (z := Int32.ofNat n) rfl (hb hby d20_23) (pc' := 24) rfl ?_
  refine g_iloadN X1 hx (hb hby d20_24) (pc' := 25) rfl rfl ?_
  refine g_callS X1 hx hZ 4 hown (hw _ (List.mem_of_getElem? (i := 143) rfl)) (hw _ (List.mem_of_getElem? (i := 144) rfl)) (hw _ (List.mem_of_getElem? (i := 138) rfl)) (hw _ (List.mem_of_getElem? (i := 145) rfl)) (by decide) e1 (rmMN l Z a0 hw (Int32.ofNat n) (Int32.ofNat m') h1 n0) (by decide) (by decide) (by rw [hml]; rfl) (argsL := [(.int (Int32.ofNat n)), (.int (Int32.ofNat m'))]) (rest := [(.int (0 : Int32)), (.ref b), (.int (0 : Int32)), (.ref a)]) (lenOf pd_MN rfl) rfl (Nat.le_of_eq rfl) (hb hby d20_25) (pc' := 28) rfl (by decide) (by decide) rfl ?_
  rintro T2 _ L2 X2 ⟨N2, e2, rfl⟩
  show Go p e below _ (T2.setTop (mkF m 28 #[.val (.ref a), .val (.int (Int32.ofNat m')), .val (.ref b)] [(.int (if Int32.ofNat m' < Int32.ofNat n then Int32.ofNat m' else Int32.ofNat n)), (.int (0 : Int32)), (.ref b), (.int (0 : Int32)), (.ref a)]))
  rw [if_neg (own_nlt (by omega) (by omega) (Nat.le_of_lt hn))]
  refine g_acopy X2 hx hZ hown (hw _ (List.mem_of_getElem? (i := 146) rfl)) (hw _ (List.mem_of_getElem? (i := 149) rfl)) (hw _ (List.mem_of_getElem? (i := 147) rfl)) (hw _ (List.mem_of_getElem? (i := 148) rfl)) e2 (V.ext E1) V1 rfl (fun j hj => by obtain ⟨v, hv⟩ := hf j; rw [hv]; rfl) (fun j hj => rfl) (own_i (by omega)) (by omega) (Nat.le_refl _) (by omega) (by omega) ((Fr.nil n0).app N2) (Nat.le_trans Z0 (Nat.le_of_eq g1.symm)) (by rw [hml]; rfl) (hb hby d20_28) (pc' := 31) rfl (by decide) 0 (Nat.le_of_eq rfl) (by decide) ?_
  intro T3 h3 L3 X3 e3 N3 K3 V3
  refine g_aloadN X3 hx (hb hby d20_31) (pc' := 32) rfl rfl rfl ?_
  exact g_retR X3 hx hret hlk rfl rfl (hb hby d20_32) (by decide) (by decide) ⟨b, rfl, N3, Nat.le_of_eq g1.symm, by rw [e3]; exact ext_of_keep ((Keep.refl h0 []).ext E1 |>.trans K3 (allS (Or.inr (Nat.le_of_eq g1.symm)) all0)), by rw [e3]; exact V3⟩
theorem d10_0 : decode jdk_38_method_8_code 0 = .ok (.aload_n 0, 1) := by decide +kernel
theorem d10_1 : decode jdk_38_method_8_code 1 = .ok (.getfield 48, 3) := by decide +kernel
theorem d10_4 : decode jdk_38_method_8_code 4 = .ok (.ireturn, 1) := by decide +kernel
theorem pn_SZ : plainFor (⟨"java/util/ArrayList", "size", "()I"⟩ : MethodName) = true := plainFor_of_name (show plainName "java/util/ArrayList" = true by first | (simp [plainName, overriddenIn]; done) | decide +kernel)
theorem pd_SZ : parseMethodDescriptor "()I" = some ⟨[], some .int⟩ := by decide +kernel
theorem ef_SZ (m : MethodId) (x0 : Addr) : entryFrame m #[(.ref x0)] 1 = mkF m 0 #[.val (.ref x0)] [] := by first | (simp [entryFrame, mkF, argsToLocals, Value.category]; done) | rfl
set_option maxRecDepth 65536 in
set_option maxHeartbeats 40000000 in
theorem rmSZ (l : Launch) (Z : State) (a0 : Array Value) (hw : ∀ d ∈ tables_1, d.before a0 Z = true) (a : Addr) (g : String → Value) (h0 : Heap) (n0 : Nat) (O0 : Ob Z h0 a "java/util/ArrayList" fs_A g) (v1 : g "size" = .int 0) :
    Ct l Z (⟨"java/util/ArrayList", "size", "()I"⟩ : MethodName) jdk_38_method_8_code 1 (some .int) ({ frames := 0, cells := 0, slots := 0, locals := 0 } : Room) #[(.ref a)] h0 (QU (.int 0) h0 n0) := by
  refine Ct.of pn_SZ (fun m => ef_SZ m a) ?_
  intro p e s m below meth c T X0 hx hby hml hret hlk hZ hown hnm e0
  refine g_aloadN X0 hx (hb hby d10_0) (pc' := 1) rfl rfl rfl ?_
  refine g_getF X0 hx hZ (host := "") (v := (.int (0 : Int32))) hown (Or.inl (hw _ (List.mem_of_getElem? (i := 92) rfl))) Via.refl e0 (v1 ▸ (O0.2 ("java/util/ArrayList", "size", "I") (mem_i 2 rfl))) (hb hby d10_1) (pc' := 4) rfl ?_
  intro T1 X1 e1
  exact g_retI X1 hx hret hlk (hb hby d10_4) (by decide) (by decide) ⟨Fr.nil _, e1, rfl⟩
theorem d12_0 : decode jdk_49_method_1_code 0 = .ok (.aload_n 0, 1) := by decide +kernel
theorem d12_1 : decode jdk_49_method_1_code 1 = .ok (.aload_n 1, 1) := by decide +kernel
theorem d12_2 : decode jdk_49_method_1_code 2 = .ok (.putfield 1, 3) := by decide +kernel
theorem d12_5 : decode jdk_49_method_1_code 5 = .ok (.aload_n 0, 1) := by decide +kernel
theorem d12_6 : decode jdk_49_method_1_code 6 = .ok (.invokespecial 7, 3) := by decide +kernel
theorem d12_9 : decode jdk_49_method_1_code 9 = .ok (.aload_n 0, 1) := by decide +kernel
theorem d12_10 : decode jdk_49_method_1_code 10 = .ok (.iconst (-1), 1) := by decide +kernel
theorem d12_11 : decode jdk_49_method_1_code 11 = .ok (.putfield 13, 3) := by decide +kernel
theorem d12_14 : decode jdk_49_method_1_code 14 = .ok (.aload_n 0, 1) := by decide +kernel
theorem d12_15 : decode jdk_49_method_1_code 15 = .ok (.aload_n 0, 1) := by decide +kernel
theorem d12_16 : decode jdk_49_method_1_code 16 = .ok (.getfield 1, 3) := by decide +kernel
theorem d12_19 : decode jdk_49_method_1_code 19 = .ok (.getfield 17, 3) := by decide +kernel
theorem d12_22 : decode jdk_49_method_1_code 22 = .ok (.putfield 22, 3) := by decide +kernel
theorem d12_25 : decode jdk_49_method_1_code 25 = .ok (.return_, 1) := by decide +kernel
theorem pn_II : plainFor (⟨"java/util/ArrayList$Itr", "<init>", "(Ljava/util/ArrayList;)V"⟩ : MethodName) = true := plainFor_of_name (show plainName "java/util/ArrayList$Itr" = true by first | (simp [plainName, overriddenIn]; done) | decide +kernel)
theorem pd_II : parseMethodDescriptor "(Ljava/util/ArrayList;)V" = some ⟨[.object "java/util/ArrayList"], none⟩ := by decide +kernel
theorem ef_II (m : MethodId) (x0 : Addr) (x1 : Addr) : entryFrame m #[(.ref x0), (.ref x1)] 2 = mkF m 0 #[.val (.ref x0), .val (.ref x1)] [] := by first | (simp [entryFrame, mkF, argsToLocals, Value.category]; done) | rfl
set_option maxRecDepth 65536 in
set_option maxHeartbeats 40000000 in
theorem rmII (l : Launch) (Z : State) (a0 : Array Value) (hw : ∀ d ∈ tables_1, d.before a0 Z = true) (a al : Addr) (g gl : String → Value) (h0 : Heap) (n0 : Nat) (O0 : Ob Z h0 a "java/util/ArrayList$Itr" fs_I g) (P0 : Ob Z h0 al "java/util/ArrayList" fs_A gl) (v1 : gl "modCount" = .int 0) (ne : al ≠ a) (ga : n0 ≤ a) :
    Ct l Z (⟨"java/util/ArrayList$Itr", "<init>", "(Ljava/util/ArrayList;)V"⟩ : MethodName) jdk_49_method_1_code 2 none ({ frames := 1, cells := 0, slots := 0, locals := 12 } : Room) #[(.ref a), (.ref al)] h0 (QK Z a "java/util/ArrayList$Itr" fs_I (set (set (set g "this$0" (.ref al)) "lastRet" (.int (-1))) "expectedModCount" (.int 0)) h0 n0) := by
  refine Ct.of pn_II (fun m => ef_II m a al) ?_
  intro p e s m below meth c T X0 hx hby hml hret hlk hZ hown hnm e0
  refine g_aloadN X0 hx (hb hby d12_0) (pc' := 1) rfl rfl rfl ?_
  refine g_aloadN X0 hx (hb hby d12_1) (pc' := 2) rfl rfl rfl ?_
  refine g_putF X0 hx hZ (.object "java/util/ArrayList") (host := "") hown (Or.inl (hw _ (List.mem_of_getElem? (i := 109) rfl))) Via.refl e0 (O0.2 ("java/util/ArrayList$Itr", "this$0", "Ljava/util/ArrayList;") (mem_i 0 rfl)) O0.1 (Or.inr ⟨(hw _ (List.mem_of_getElem? (i := 110) rfl)), rfl, hnm⟩) (hw _ (List.mem_of_getElem? (i := 103) rfl)) (by decide) rfl rfl (hb hby d12_2) (pc' := 5) rfl ?_
  intro T1 h1 X1 e1 W1
  have O1 := O0.put (lds_I hw) un_I de_I (mem_i 0 rfl) W1
  have P1 := P0.other W1 ne
  refine g_aloadN X1 hx (hb hby d12_5) (pc' := 6) rfl rfl rfl ?_
  refine g_initO X1 hx hZ hown (hw _ (List.mem_of_getElem? (i := 111) rfl)) (hw _ (List.mem_of_getElem? (i := 7) rfl)) (hw _ (List.mem_of_getElem? (i := 8) rfl)) e1 (by rw [hml]; rfl) (hb hby d12_6) (pc' := 9) rfl (by decide) 0 (Nat.le_of_eq rfl) (by decide) ?_
  intro T2 X2 e2
  refine g_aloadN X2 hx (hb hby d12_9) (pc' := 10) rfl rfl rfl ?_
  refine g_iconst X2 hx (hb hby d12_10) (pc' := 11) rfl (z := -1) (by decide) ?_
  refine g_putF X2 hx hZ .int (host := "") hown (Or.inl (hw _ (List.mem_of_getElem? (i := 112) rfl))) Via.refl e2 (O1.2 ("java/util/ArrayList$Itr", "lastRet", "I") (mem_i 1 rfl)) O1.1 (Or.inl (hw _ (List.mem_of_getElem? (i := 113) rfl))) (hw _ (List.mem_of_getElem? (i := 103) rfl)) (by decide) rfl rfl (hb hby d12_11) (pc' := 14) rfl ?_
  intro T3 h3 X3 e3 W3
  have O3 := O1.put (lds_I hw) un_I de_I (mem_i 1 rfl) W3
  have P3 := P1.other W3 ne
  refine g_aloadN X3 hx (hb hby d12_14) (pc' := 15) rfl rfl rfl ?_
  refine g_aloadN X3 hx (hb hby d12_15) (pc' := 16) rfl rfl rfl ?_
  refine g_getF X3 hx hZ (host := "") (v := (.ref al)) hown (Or.inl (hw _ (List.mem_of_getElem? (i := 109) rfl))) Via.refl e3 (O3.2 ("java/util/ArrayList$Itr", "this$0", "Ljava/util/ArrayList;") (mem_i 0 rfl)) (hb hby d12_16) (pc' := 19) rfl ?_
  intro T4 X4 e4
  refine g_getF X4 hx hZ (host := "") (v := (.int (0 : Int32))) hown (Or.inl (hw _ (List.mem_of_getElem? (i := 114) rfl))) (Via.of (hw _ (List.mem_of_getElem? (i := 115) rfl))) e4 (v1 ▸ (P3.2 ("java/util/AbstractList", "modCount", "I") (mem_i 0 rfl))) (hb hby d12_19) (pc' := 22) rfl ?_
  intro T5 X5 e5
  refine g_putF X5 hx hZ .int (host := "") hown (Or.inl (hw _ (List.mem_of_getElem? (i := 116) rfl))) Via.refl e5 (O3.2 ("java/util/ArrayList$Itr", "expectedModCount", "I") (mem_i 2 rfl)) O3.1 (Or.inl (hw _ (List.mem_of_getElem? (i := 117) rfl))) (hw _ (List.mem_of_getElem? (i := 103) rfl)) (by decide) rfl rfl (hb hby d12_22) (pc' := 25) rfl ?_
  intro T6 h6 X6 e6 W6
  have O6 := O3.put (lds_I hw) un_I de_I (mem_i 2 rfl) W6
  exact g_retV X6 hx hret hlk (hb hby d12_25) (by decide) (by decide) ⟨rfl, Fr.snoc X6 (Fr.snoc X3 (Fr.snoc X1 (Fr.nil _) ga) ga) ga, by rw [e6]; exact (((Keep.refl _ _).wr W1 (Or.inl (mem_i 0 rfl))).wr W3 (Or.inl (mem_i 0 rfl))).wr W6 (Or.inl (mem_i 0 rfl)), by rw [e6]; exact O6⟩
theorem d11_0 : decode jdk_38_method_55_code 0 = .ok (.new 267, 3) := by decide +kernel
theorem d11_3 : decode jdk_38_method_55_code 3 = .ok (.dup, 1) := by decide +kernel
theorem d11_4 : decode jdk_38_method_55_code 4 = .ok (.aload_n 0, 1) := by decide +kernel
theorem d11_5 : decode jdk_38_method_55_code 5 = .ok (.invokespecial 269, 3) := by decide +kernel
theorem d11_8 : decode jdk_38_method_55_code 8 = .ok (.areturn, 1) := by decide +kernel
theorem pn_IT : plainFor (⟨"java/util/ArrayList", "iterator", "()Ljava/util/Iterator;"⟩ : MethodName) = true := plainFor_of_name (show plainName "java/util/ArrayList" = true by first | (simp [plainName, overriddenIn]; done) | decide +kernel)
theorem pd_IT : parseMethodDescriptor "()Ljava/util/Iterator;" = some ⟨[], some (.object "java/util/Iterator")⟩ := by decide +kernel
theorem ef_IT (m : MethodId) (x0 : Addr) : entryFrame m #[(.ref x0)] 1 = mkF m 0 #[.val (.ref x0)] [] := by first | (simp [entryFrame, mkF, argsToLocals, Value.category]; done) | rfl
def gI : String → Value := fun n => if n = "this$0" then .null else .int 0
def QI (Z : State) (al : Addr) (h0 : Heap) (n0 : Nat) (v : Option Value) (h : Heap) (L : List Loc) : Prop := ∃ b, v = some (.ref b) ∧ Fr n0 L ∧ h0.size ≤ b ∧ Ext h0 h ∧ ∃ g, Ob Z h b "java/util/ArrayList$Itr" fs_I g ∧ g "this$0" = .ref al ∧ g "cursor" = .int 0
set_option maxRecDepth 65536 in
set_option maxHeartbeats 40000000 in
theorem rmIT (l : Launch) (Z : State) (a0 : Array Value) (hw : ∀ d ∈ tables_1, d.before a0 Z = true) (al : Addr) (gl : String → Value) (h0 : Heap) (n0 : Nat) (P0 : Ob Z h0 al "java/util/ArrayList" fs_A gl) (v1 : gl "modCount" = .int 0) (Z0 : n0 ≤ h0.size) :
    Ct l Z (⟨"java/util/ArrayList", "iterator", "()Ljava/util/Iterator;"⟩ : MethodName) jdk_38_method_55_code 1 (some (.object "java/util/Iterator")) ({ frames := 2, cells := 1, slots := 4, locals := 30 } : Room) #[(.ref al)] h0 (QI Z al h0 n0) := by
  refine Ct.of pn_IT (fun m => ef_IT m al) ?_
  intro p e s m below meth c T X0 hx hby hml hret hlk hZ hown hnm e0
  refine g_new X0 hx hZ hown (hw _ (List.mem_of_getElem? (i := 102) rfl)) (hw _ (List.mem_of_getElem? (i := 103) rfl)) (hw _ (List.mem_of_getElem? (i := 104) rfl)) e0 (hb hby d11_0) (pc' := 3) rfl (by decide) (by decide) ?_
  intro T1 h1 b g1 X1 e1 E1 A1 D1
  have O1 : Ob Z h1 b "java/util/ArrayList$Itr" fs_I gI := Ob.new (lds_I hw) A1 D1 (by decide +kernel)
  have gb0 : h0.size ≤ b := Nat.le_of_eq g1.symm
  refine g_dup X1 hx (hb hby d11_3) (pc' := 4) rfl rfl ?_
  refine g_aloadN X1 hx (hb hby d11_4) (pc' := 5) rfl rfl rfl ?_
  refine g_callI X1 hx hZ 1 (a := b) hown rfl (hw _ (List.mem_of_getElem? (i := 105) rfl)) (hw _ (List.mem_of_getElem? (i := 106) rfl)) (hw _ (List.mem_of_getElem? (i := 104) rfl)) (hw _ (List.mem_of_getElem? (i := 108) rfl)) (by decide) e1 (rmII l Z a0 hw b al gI gl h1 n0 O1 (P0.ext E1) v1 (Nat.ne_of_lt (g1 ▸ P0.lt)) (Nat.le_trans Z0 gb0)) (by decide) (by decide) (by rw [hml]; rfl) (argsL := [(.ref al)]) (rest := [(.ref b)]) (lenOf pd_II rfl) rfl (Nat.le_of_eq rfl) (hb hby d11_5) (pc' := 8) rfl (by decide) (by decide) rfl ?_
  rintro T2 _ L2 X2 ⟨rfl, N2, K2, O2⟩
  show Go p e below _ (T2.setTop (mkF m 8 #[.val (.ref al)] [(.ref b)]))
  exact g_retR X2 hx hret hlk rfl rfl (hb hby d11_8) (by decide) (by decide) ⟨b, rfl, (Fr.nil _).app N2, gb0, ext_of_keep ((Keep.refl h0 []).ext E1 |>.trans K2 (allS (Or.inr gb0) all0)), _, O2, rfl, rfl⟩
theorem d13_0 : decode jdk_49_method_2_code 0 = .ok (.aload_n 0, 1) := by decide +kernel
theorem d13_1 : decode jdk_49_method_2_code 1 = .ok (.getfield 25, 3) := by decide +kernel
theorem d13_4 : decode jdk_49_method_2_code 4 = .ok (.aload_n 0, 1) := by decide +kernel
theorem d13_5 : decode jdk_49_method_2_code 5 = .ok (.getfield 1, 3) := by decide +kernel
theorem d13_8 : decode jdk_49_method_2_code 8 = .ok (.getfield 28, 3) := by decide +kernel
theorem d13_11 : decode jdk_49_method_2_code 11 = .ok (.if_icmp .eq 7, 3) := by decide +kernel
theorem d13_14 : decode jdk_49_method_2_code 14 = .ok (.iconst 1, 1) := by decide +kernel
theorem d13_15 : decode jdk_49_method_2_code 15 = .ok (.goto 4, 3) := by decide +kernel
theorem d13_18 : decode jdk_49_method_2_code 18 = .ok (.iconst 0, 1) := by decide +kernel
theorem d13_19 : decode jdk_49_method_2_code 19 = .ok (.ireturn, 1) := by decide +kernel
theorem pn_HN : plainFor (⟨"java/util/ArrayList$Itr", "hasNext", "()Z"⟩ : MethodName) = true := plainFor_of_name (show plainName "java/util/ArrayList$Itr" = true by first | (simp [plainName, overriddenIn]; done) | decide +kernel)
theorem pd_HN : parseMethodDescriptor "()Z" = some ⟨[], some .boolean⟩ := by decide +kernel
theorem ef_HN (m : MethodId) (x0 : Addr) : entryFrame m #[(.ref x0)] 1 = mkF m 0 #[.val (.ref x0)] [] := by first | (simp [entryFrame, mkF, argsToLocals, Value.category]; done) | rfl
set_option maxRecDepth 65536 in
set_option maxHeartbeats 40000000 in
theorem rmHN (l : Launch) (Z : State) (a0 : Array Value) (hw : ∀ d ∈ tables_1, d.before a0 Z = true) (a al : Addr) (g gl : String → Value) (h0 : Heap) (n0 : Nat) (O0 : Ob Z h0 a "java/util/ArrayList$Itr" fs_I g) (P0 : Ob Z h0 al "java/util/ArrayList" fs_A gl) (v0 : g "this$0" = .ref al) (v1 : g "cursor" = .int 0) (v2 : gl "size" = .int 0) :
    Ct l Z (⟨"java/util/ArrayList$Itr", "hasNext", "()Z"⟩ : MethodName) jdk_49_method_2_code 1 (some .boolean) ({ frames := 0, cells := 0, slots := 0, locals := 0 } : Room) #[(.ref a)] h0 (QU (.int 0) h0 n0) := by
  refine Ct.of pn_HN (fun m => ef_HN m a) ?_
  intro p e s m below meth c T X0 hx hby hml hret hlk hZ hown hnm e0
  refine g_aloadN X0 hx (hb hby d13_0) (pc' := 1) rfl rfl rfl ?_
  refine g_getF X0 hx hZ (host := "") (v := (.int (0 : Int32))) hown (Or.inl (hw _ (List.mem_of_getElem? (i := 127) rfl))) Via.refl e0 (v1 ▸ (O0.2 ("java/util/ArrayList$Itr", "cursor", "I") (mem_i 3 rfl))) (hb hby d13_1) (pc' := 4) rfl ?_
  intro T1 X1 e1
  refine g_aloadN X1 hx (hb hby d13_4) (pc' := 5) rfl rfl rfl ?_
  refine g_getF X1 hx hZ (host := "") (v := (.ref al)) hown (Or.inl (hw _ (List.mem_of_getElem? (i := 109) rfl))) Via.refl e1 (v0 ▸ (O0.2 ("java/util/ArrayList$Itr", "this$0", "Ljava/util/ArrayList;") (mem_i 0 rfl))) (hb hby d13_5) (pc' := 8) rfl ?_
  intro T2 X2 e2
  refine g_getF X2 hx hZ (host := "java/util/ArrayList") (v := (.int (0 : Int32))) hown (Or.inr (hw _ (List.mem_of_getElem? (i := 129) rfl))) Via.refl e2 (v2 ▸ (P0.2 ("java/util/ArrayList", "size", "I") (mem_i 2 rfl))) (hb hby d13_8) (pc' := 11) rfl ?_
  intro T3 X3 e3
  refine g_icmp_eq X3 hx (hb hby d13_11) (by decide) (pc' := 18) rfl (pcF := 14) rfl (fun hc => ?_) (fun hc => absurd rfl hc)
  refine g_iconst X3 hx (hb hby d13_18) (pc' := 19) rfl (z := 0) (by decide) ?_
  exact g_retZ X3 hx hret hlk (by decide) (hb hby d13_19) (by decide) (by decide) ⟨Fr.nil _, e3, rfl⟩
def TT (Z : State) (h : Heap) (n0 : Nat) (a : Addr) (n : Nat) (F : Nat → Int64) : Prop := ∃ (af ac : Addr) (g : String → Value) (fc : Nat → Value), Ob Z h a "com/example/charted/charted/engine/TransitionTable" fs_T g ∧ g "firstOf" = .ref af ∧ g "countOf" = .ref ac ∧ g "size" = .long 0 ∧ Av Z h af .long n (fun j => .long (F j)) ∧ Av Z h ac .int n fc ∧ AI fc ∧ af ≠ ac ∧ a ≠ af ∧ a ≠ ac ∧ n0 ≤ a ∧ n0 ≤ af ∧ n0 ≤ ac
theorem TT.ext {Z : State} {h h' : Heap} {n0 : Nat} {a : Addr} {n : Nat} {F : Nat → Int64} (t : TT Z h n0 a n F) (E : Ext h h') : TT Z h' n0 a n F := by
  obtain ⟨af, ac, g, fc, t1, t2, t3, t4, t5, t6, r⟩ := t
  exact ⟨af, ac, g, fc, t1.ext E, t2, t3, t4, t5.ext E, t6.ext E, r⟩
theorem TT.keep {Z : State} {h h' : Heap} {n0 : Nat} {a b : Addr} {n : Nat} {F : Nat → Int64} (t : TT Z h n0 a n F) (K : Keep h h' [b]) (q : h.size ≤ b) : TT Z h' n0 a n F := by
  obtain ⟨af, ac, g, fc, t1, t2, t3, t4, t5, t6, r⟩ := t
  exact ⟨af, ac, g, fc, t1.keep K (ninS (Nat.ne_of_lt (Nat.lt_of_lt_of_le t1.lt q)) nin0), t2, t3, t4, t5.keep K (ninS (Nat.ne_of_lt (Nat.lt_of_lt_of_le t5.lt q)) nin0), t6.keep K (ninS (Nat.ne_of_lt (Nat.lt_of_lt_of_le t6.lt q)) nin0), r⟩
theorem TT.congr {Z : State} {h : Heap} {n0 : Nat} {a : Addr} {n : Nat} {F F' : Nat → Int64} (t : TT Z h n0 a n F) (e : ∀ j, j < n → F j = F' j) : TT Z h n0 a n F' := by
  obtain ⟨af, ac, g, fc, t1, t2, t3, t4, t5, r⟩ := t
  exact ⟨af, ac, g, fc, t1, t2, t3, t4, t5.congr (fun j hj => by rw [e j hj]), r⟩
theorem TT.lt {Z : State} {h : Heap} {n0 : Nat} {a : Addr} {n : Nat} {F : Nat → Int64} (t : TT Z h n0 a n F) : a < h.size := by obtain ⟨af, ac, g, fc, t1, r⟩ := t; exact t1.lt
def QT (Z : State) (a : Addr) (h0 : Heap) (n0 : Nat) (v : Option Value) (h : Heap) (L : List Loc) : Prop := v = none ∧ Fr n0 L ∧ Keep h0 h [a] ∧ TT Z h n0 a 64 (fun _ => -1)
def gT : String → Value := fun n => if n = "size" then .long 0 else .null
theorem d1_0 : decode prog_26_method_1_code 0 = .ok (.aload_n 0, 1) := by decide +kernel
theorem d1_1 : decode prog_26_method_1_code 1 = .ok (.invokespecial 3, 3) := by decide +kernel
theorem d1_4 : decode prog_26_method_1_code 4 = .ok (.aload_n 0, 1) := by decide +kernel
theorem d1_5 : decode prog_26_method_1_code 5 = .ok (.bipush 64, 2) := by decide +kernel
theorem d1_7 : decode prog_26_method_1_code 7 = .ok (.newarray .long, 2) := by decide +kernel
theorem d1_9 : decode prog_26_method_1_code 9 = .ok (.putfield 9, 3) := by decide +kernel
theorem d1_12 : decode prog_26_method_1_code 12 = .ok (.aload_n 0, 1) := by decide +kernel
theorem d1_13 : decode prog_26_method_1_code 13 = .ok (.bipush 64, 2) := by decide +kernel
theorem d1_15 : decode prog_26_method_1_code 15 = .ok (.newarray .int, 2) := by decide +kernel
theorem d1_17 : decode prog_26_method_1_code 17 = .ok (.putfield 13, 3) := by decide +kernel
theorem d1_20 : decode prog_26_method_1_code 20 = .ok (.aload_n 0, 1) := by decide +kernel
theorem d1_21 : decode prog_26_method_1_code 21 = .ok (.iconst 0, 1) := by decide +kernel
theorem d1_22 : decode prog_26_method_1_code 22 = .ok (.anewarray 17, 3) := by decide +kernel
theorem d1_25 : decode prog_26_method_1_code 25 = .ok (.putfield 18, 3) := by decide +kernel
theorem d1_28 : decode prog_26_method_1_code 28 = .ok (.aload_n 0, 1) := by decide +kernel
theorem d1_29 : decode prog_26_method_1_code 29 = .ok (.iconst 0, 1) := by decide +kernel
theorem d1_30 : decode prog_26_method_1_code 30 = .ok (.anewarray 22, 3) := by decide +kernel
theorem d1_33 : decode prog_26_method_1_code 33 = .ok (.putfield 24, 3) := by decide +kernel
theorem d1_36 : decode prog_26_method_1_code 36 = .ok (.aload_n 0, 1) := by decide +kernel
theorem d1_37 : decode prog_26_method_1_code 37 = .ok (.iconst 0, 1) := by decide +kernel
theorem d1_38 : decode prog_26_method_1_code 38 = .ok (.anewarray 17, 3) := by decide +kernel
theorem d1_41 : decode prog_26_method_1_code 41 = .ok (.putfield 28, 3) := by decide +kernel
theorem d1_44 : decode prog_26_method_1_code 44 = .ok (.aload_n 0, 1) := by decide +kernel
theorem d1_45 : decode prog_26_method_1_code 45 = .ok (.new 31, 3) := by decide +kernel
theorem d1_48 : decode prog_26_method_1_code 48 = .ok (.dup, 1) := by decide +kernel
theorem d1_49 : decode prog_26_method_1_code 49 = .ok (.invokespecial 33, 3) := by decide +kernel
theorem d1_52 : decode prog_26_method_1_code 52 = .ok (.putfield 34, 3) := by decide +kernel
theorem d1_55 : decode prog_26_method_1_code 55 = .ok (.aload_n 0, 1) := by decide +kernel
theorem d1_56 : decode prog_26_method_1_code 56 = .ok (.new 38, 3) := by decide +kernel
theorem d1_59 : decode prog_26_method_1_code 59 = .ok (.dup, 1) := by decide +kernel
theorem d1_60 : decode prog_26_method_1_code 60 = .ok (.invokespecial 40, 3) := by decide +kernel
theorem d1_63 : decode prog_26_method_1_code 63 = .ok (.putfield 41, 3) := by decide +kernel
theorem d1_66 : decode prog_26_method_1_code 66 = .ok (.aload_n 0, 1) := by decide +kernel
theorem d1_67 : decode prog_26_method_1_code 67 = .ok (.getfield 9, 3) := by decide +kernel
theorem d1_70 : decode prog_26_method_1_code 70 = .ok (.ldc2_w 45, 3) := by decide +kernel
theorem d1_73 : decode prog_26_method_1_code 73 = .ok (.invokestatic 47, 3) := by decide +kernel
theorem d1_76 : decode prog_26_method_1_code 76 = .ok (.return_, 1) := by decide +kernel
theorem pn_T : plainFor (⟨"com/example/charted/charted/engine/TransitionTable", "<init>", "()V"⟩ : MethodName) = true := plainFor_of_name (show plainName "com/example/charted/charted/engine/TransitionTable" = true by first | (simp [plainName, overriddenIn]; done) | decide +kernel)
theorem pd_T : parseMethodDescriptor "()V" = some ⟨[], none⟩ := by decide +kernel
theorem ef_T (m : MethodId) (x0 : Addr) : entryFrame m #[(.ref x0)] 1 = mkF m 0 #[.val (.ref x0)] [] := by first | (simp [entryFrame, mkF, argsToLocals, Value.category]; done) | rfl
set_option maxRecDepth 65536 in
set_option maxHeartbeats 40000000 in
theorem rmT (l : Launch) (Z : State) (a0 : Array Value) (hw : ∀ d ∈ tables_1, d.before a0 Z = true) (a ad : Addr) (h0 : Heap) (n0 : Nat) (Z0 : n0 ≤ h0.size) (O0 : Ob Z h0 a "com/example/charted/charted/engine/TransitionTable" fs_T gT) (ga : n0 ≤ a) (hst : ∀ h', Keep h0 h' [a] → Sta Z h' "java/util/ArrayList" "DEFAULTCAPACITY_EMPTY_ELEMENTDATA" "[Ljava/lang/Object;" (.ref ad)) :
    Ct l Z (⟨"com/example/charted/charted/engine/TransitionTable", "<init>", "()V"⟩ : MethodName) prog_26_method_1_code 1 none ({ frames := 4, cells := 7, slots := 139, locals := 54 } : Room) #[(.ref a)] h0 (QT Z a h0 n0) := by
  refine Ct.of pn_T (fun m => ef_T m a) ?_
  intro p e s m below meth c T X0 hx hby hml hret hlk hZ hown hnm e0
  refine g_aloadN X0 hx (hb hby d1_0) (pc' := 1) rfl rfl rfl ?_
  refine g_initO X0 hx hZ hown (hw _ (List.mem_of_getElem? (i := 6) rfl)) (hw _ (List.mem_of_getElem? (i := 7) rfl)) (hw _ (List.mem_of_getElem? (i := 8) rfl)) e0 (by rw [hml]; rfl) (hb hby d1_1) (pc' := 4) rfl (by decide) 0 (Nat.le_of_eq rfl) (by decide) ?_
  intro Ti Xi ei
  refine g_aloadN Xi hx (hb hby d1_4) (pc' := 5) rfl rfl rfl ?_
  refine g_bipush Xi hx (hb hby d1_5) (pc' := 7) rfl (z := 64) (by decide) ?_
  have K0 := Keep.refl h0 [a]
  have N0 := Fr.nil n0
  have al0 := O0.lt
  refine g_newarr Xi hx hZ (hw _ (List.mem_of_getElem? (i := 9) rfl)) rfl ei (hb hby d1_7) (pc' := 9) rfl (by decide) (n := 64) (by decide) 64 (by decide) (by decide) (by decide) (by decide) ?_
  intro Tf hf af gf Xf ef Ef Vf
  have Of := O0.ext Ef
  have Kf := K0.ext Ef
  have gf0 : h0.size ≤ af := Nat.le_of_eq gf.symm
  have naf : a ≠ af := Nat.ne_of_lt (Nat.lt_of_lt_of_le al0 gf0)
  refine g_putF Xf hx hZ (.array .long) (host := "") hown (Or.inl (hw _ (List.mem_of_getElem? (i := 10) rfl))) Via.refl ef (Of.2 ("com/example/charted/charted/engine/TransitionTable", "firstOf", "[J") (mem_i 0 rfl)) Of.1 (Or.inl (hw _ (List.mem_of_getElem? (i := 11) rfl))) (hw _ (List.mem_of_getElem? (i := 1) rfl)) (by decide) rfl rfl (hb hby d1_9) (pc' := 12) rfl ?_
  intro Tf2 hf2 Xf2 ef2 Wf2
  have Of2 := Of.put (lds_T hw) un_T de_T (mem_i 0 rfl) Wf2
  have Kf2 := Kf.wr Wf2 (Or.inl (mem_i 0 rfl))
  have Nf2 := Fr.snoc Xf2 N0 ga
  have Vf2 := Vf.other Wf2 (Ne.symm naf)
  refine g_aloadN Xf2 hx (hb hby d1_12) (pc' := 13) rfl rfl rfl ?_
  refine g_bipush Xf2 hx (hb hby d1_13) (pc' := 15) rfl (z := 64) (by decide) ?_
  refine g_newarr Xf2 hx hZ (hw _ (List.mem_of_getElem? (i := 12) rfl)) rfl ef2 (hb hby d1_15) (pc' := 17) rfl (by decide) (n := 64) (by decide) 64 (by decide) (by decide) (by decide) (by decide) ?_
  intro Tc hc ac gc Xc ec Ec Vc
  have Oc := Of2.ext Ec
  have Kc := Kf2.ext Ec
  have VFc := Vf2.ext Ec
  have gc0 : h0.size ≤ ac := Nat.le_trans Kf2.1 (Nat.le_of_eq gc.symm)
  have nac : a ≠ ac := Nat.ne_of_lt (Nat.lt_of_lt_of_le al0 gc0)
  have nfc : af ≠ ac := Nat.ne_of_lt (gc ▸ Vf2.lt)
  refine g_putF Xc hx hZ (.array .int) (host := "") hown (Or.inl (hw _ (List.mem_of_getElem? (i := 13) rfl))) Via.refl ec (Oc.2 ("com/example/charted/charted/engine/TransitionTable", "countOf", "[I") (mem_i 1 rfl)) Oc.1 (Or.inl (hw _ (List.mem_of_getElem? (i := 14) rfl))) (hw _ (List.mem_of_getElem? (i := 1) rfl)) (by decide) rfl rfl (hb hby d1_17) (pc' := 20) rfl ?_
  intro Tc2 hc2 Xc2 ec2 Wc2
  have Oc2 := Oc.put (lds_T hw) un_T de_T (mem_i 1 rfl) Wc2
  have Kc2 := Kc.wr Wc2 (Or.inl (mem_i 0 rfl))
  have Nc2 := Fr.snoc Xc2 Nf2 ga
  have VFc2 := VFc.other Wc2 (Ne.symm naf)
  have VCc2 := Vc.other Wc2 (Ne.symm nac)
  refine g_aloadN Xc2 hx (hb hby d1_20) (pc' := 21) rfl rfl rfl ?_
  refine g_iconst Xc2 hx (hb hby d1_21) (pc' := 22) rfl (z := 0) (by decide) ?_
  refine g_newarrA Xc2 hx hZ hown (by decide) (hw _ (List.mem_of_getElem? (i := 15) rfl)) (hw _ (List.mem_of_getElem? (i := 16) rfl)) ec2 (hb hby d1_22) (pc' := 25) rfl (by decide) 0 (by decide) (by decide) (by decide) (by decide) ?_
  intro Tt ht atg gt Xt et Et
  have Ot := Oc2.ext Et
  have Kt := Kc2.ext Et
  have VFt := VFc2.ext Et
  have VCt := VCc2.ext Et
  refine g_putF Xt hx hZ (.array (.array .int)) (host := "") hown (Or.inl (hw _ (List.mem_of_getElem? (i := 17) rfl))) Via.refl et (Ot.2 ("com/example/charted/charted/engine/TransitionTable", "targets", "[[I") (mem_i 2 rfl)) Ot.1 (Or.inl (hw _ (List.mem_of_getElem? (i := 18) rfl))) (hw _ (List.mem_of_getElem? (i := 1) rfl)) (by decide) rfl rfl (hb hby d1_25) (pc' := 28) rfl ?_
  intro Tt2 ht2 Xt2 et2 Wt2
  have Ot2 := Ot.put (lds_T hw) un_T de_T (mem_i 2 rfl) Wt2
  have Kt2 := Kt.wr Wt2 (Or.inl (mem_i 0 rfl))
  have Nt2 := Fr.snoc Xt2 Nc2 ga
  have VFt2 := VFt.other Wt2 (Ne.symm naf)
  have VCt2 := VCt.other Wt2 (Ne.symm nac)
  refine g_aloadN Xt2 hx (hb hby d1_28) (pc' := 29) rfl rfl rfl ?_
  refine g_iconst Xt2 hx (hb hby d1_29) (pc' := 30) rfl (z := 0) (by decide) ?_
  refine g_newarrA Xt2 hx hZ hown (by decide) (hw _ (List.mem_of_getElem? (i := 19) rfl)) (hw _ (List.mem_of_getElem? (i := 20) rfl)) et2 (hb hby d1_30) (pc' := 33) rfl (by decide) 0 (by decide) (by decide) (by decide) (by decide) ?_
  intro Tn hn an gn Xn en En
  have On := Ot2.ext En
  have Kn := Kt2.ext En
  have VFn := VFt2.ext En
  have VCn := VCt2.ext En
  refine g_putF Xn hx hZ (.array (.array .byte)) (host := "") hown (Or.inl (hw _ (List.mem_of_getElem? (i := 21) rfl))) Via.refl en (On.2 ("com/example/charted/charted/engine/TransitionTable", "narrowLabels", "[[B") (mem_i 3 rfl)) On.1 (Or.inl (hw _ (List.mem_of_getElem? (i := 22) rfl))) (hw _ (List.mem_of_getElem? (i := 1) rfl)) (by decide) rfl rfl (hb hby d1_33) (pc' := 36) rfl ?_
  intro Tn2 hn2 Xn2 en2 Wn2
  have On2 := On.put (lds_T hw) un_T de_T (mem_i 3 rfl) Wn2
  have Kn2 := Kn.wr Wn2 (Or.inl (mem_i 0 rfl))
  have Nn2 := Fr.snoc Xn2 Nt2 ga
  have VFn2 := VFn.other Wn2 (Ne.symm naf)
  have VCn2 := VCn.other Wn2 (Ne.symm nac)
  refine g_aloadN Xn2 hx (hb hby d1_36) (pc' := 37) rfl rfl rfl ?_
  refine g_iconst Xn2 hx (hb hby d1_37) (pc' := 38) rfl (z := 0) (by decide) ?_
  refine g_newarrA Xn2 hx hZ hown (by decide) (hw _ (List.mem_of_getElem? (i := 15) rfl)) (hw _ (List.mem_of_getElem? (i := 16) rfl)) en2 (hb hby d1_38) (pc' := 41) rfl (by decide) 0 (by decide) (by decide) (by decide) (by decide) ?_
  intro Twd hwd aw gwd Xwd ewd Ewd
  have Owd := On2.ext Ewd
  have Kwd := Kn2.ext Ewd
  have VFwd := VFn2.ext Ewd
  have VCwd := VCn2.ext Ewd
  refine g_putF Xwd hx hZ (.array (.array .int)) (host := "") hown (Or.inl (hw _ (List.mem_of_getElem? (i := 23) rfl))) Via.refl ewd (Owd.2 ("com/example/charted/charted/engine/TransitionTable", "wideLabels", "[[I") (mem_i 4 rfl)) Owd.1 (Or.inl (hw _ (List.mem_of_getElem? (i := 24) rfl))) (hw _ (List.mem_of_getElem? (i := 1) rfl)) (by decide) rfl rfl (hb hby d1_41) (pc' := 44) rfl ?_
  intro Twd2 hwd2 Xwd2 ewd2 Wwd2
  have Owd2 := Owd.put (lds_T hw) un_T de_T (mem_i 4 rfl) Wwd2
  have Kwd2 := Kwd.wr Wwd2 (Or.inl (mem_i 0 rfl))
  have Nwd2 := Fr.snoc Xwd2 Nn2 ga
  have VFwd2 := VFwd.other Wwd2 (Ne.symm naf)
  have VCwd2 := VCwd.other Wwd2 (Ne.symm nac)
  refine g_aloadN Xwd2 hx (hb hby d1_44) (pc' := 45) rfl rfl rfl ?_
  refine g_new Xwd2 hx hZ hown (hw _ (List.mem_of_getElem? (i := 25) rfl)) (hw _ (List.mem_of_getElem? (i := 26) rfl)) (hw _ (List.mem_of_getElem? (i := 27) rfl)) ewd2 (hb hby d1_45) (pc' := 48) rfl (by decide) (by decide) ?_
  intro Tl hl al gl Xl el El Al Dl
  have Ol := Owd2.ext El
  have Kl := Kwd2.ext El
  have VFl := VFwd2.ext El
  have VCl := VCwd2.ext El
  have gl0 : h0.size ≤ al := Nat.le_trans Kwd2.1 (Nat.le_of_eq gl.symm)
  have gnl : n0 ≤ al := Nat.le_trans Z0 gl0
  have nal : a ≠ al := Nat.ne_of_lt (Nat.lt_of_lt_of_le al0 gl0)
  have nfl : af ≠ al := Nat.ne_of_lt (gl ▸ VFwd2.lt)
  have ncl : ac ≠ al := Nat.ne_of_lt (gl ▸ VCwd2.lt)
  have Bl : Ob Z hl al "java/util/ArrayList" fs_A gA := Ob.new (lds_A hw) Al Dl (by decide +kernel)
  refine g_dup Xl hx (hb hby d1_48) (pc' := 49) rfl rfl ?_
  refine g_callI Xl hx hZ 2 (a := al) hown rfl (hw _ (List.mem_of_getElem? (i := 28) rfl)) (hw _ (List.mem_of_getElem? (i := 29) rfl)) (hw _ (List.mem_of_getElem? (i := 27) rfl)) (hw _ (List.mem_of_getElem? (i := 30) rfl)) (by decide) el (rmA l Z a0 hw al ad gA hl n0 Bl gnl (fun h' K' => hst h' (Kl.trans K' (allS (Or.inr gl0) all0)))) (by decide) (by decide) (by rw [hml]; rfl) (argsL := []) (rest := [(.ref al), (.ref a)]) (lenOf pd_A rfl) rfl (Nat.le_of_eq rfl) (hb hby d1_49) (pc' := 52) rfl (by decide) (by decide) rfl ?_
  rintro Tl1 _ Ll1 Xl1 ⟨rfl, Nl1, Kl1, -⟩
  show Go p e below _ (Tl1.setTop (mkF m 52 #[.val (.ref a)] [(.ref al), (.ref a)]))
  have Ol1 := Ol.keep Kl1 (ninS nal nin0)
  have VFl1 := VFl.keep Kl1 (ninS nfl nin0)
  have VCl1 := VCl.keep Kl1 (ninS ncl nin0)
  have KKl := Kl.trans Kl1 (allS (Or.inr gl0) all0)
  have NNl := Fr.app Nwd2 Nl1
  refine g_putF Xl1 hx hZ (.object "java/util/List") (host := "") hown (Or.inl (hw _ (List.mem_of_getElem? (i := 49) rfl))) Via.refl rfl (Ol1.2 ("com/example/charted/charted/engine/TransitionTable", "labelLists", "Ljava/util/List;") (mem_i 5 rfl)) Ol1.1 (Or.inr ⟨(hw _ (List.mem_of_getElem? (i := 50) rfl)), rfl, hnm⟩) (hw _ (List.mem_of_getElem? (i := 1) rfl)) (by decide) rfl rfl (hb hby d1_52) (pc' := 55) rfl ?_
  intro Tl2 hl2 Xl2 el2 Wl2
  have Ol2 := Ol1.put (lds_T hw) un_T de_T (mem_i 5 rfl) Wl2
  have Kl2 := KKl.wr Wl2 (Or.inl (mem_i 0 rfl))
  have Nl2 := Fr.snoc Xl2 NNl ga
  have VFl2 := VFl1.other Wl2 (Ne.symm naf)
  have VCl2 := VCl1.other Wl2 (Ne.symm nac)
  refine g_aloadN Xl2 hx (hb hby d1_55) (pc' := 56) rfl rfl rfl ?_
  refine g_new Xl2 hx hZ hown (hw _ (List.mem_of_getElem? (i := 51) rfl)) (hw _ (List.mem_of_getElem? (i := 52) rfl)) (hw _ (List.mem_of_getElem? (i := 53) rfl)) el2 (hb hby d1_56) (pc' := 59) rfl (by decide) (by decide) ?_
  intro Tm hm am gm Xm em Em Am Dm
  have Om := Ol2.ext Em
  have Km := Kl2.ext Em
  have VFm := VFl2.ext Em
  have VCm := VCl2.ext Em
  have gm0 : h0.size ≤ am := Nat.le_trans Kl2.1 (Nat.le_of_eq gm.symm)
  have gnm : n0 ≤ am := Nat.le_trans Z0 gm0
  have nam : a ≠ am := Nat.ne_of_lt (Nat.lt_of_lt_of_le al0 gm0)
  have nfm : af ≠ am := Nat.ne_of_lt (gm ▸ VFl2.lt)
  have ncm : ac ≠ am := Nat.ne_of_lt (gm ▸ VCl2.lt)
  have Bm : Ob Z hm am "java/util/HashMap" fs_M gM := Ob.new (lds_M hw) Am Dm (by decide +kernel)
  refine g_dup Xm hx (hb hby d1_59) (pc' := 60) rfl rfl ?_
  refine g_callI Xm hx hZ 2 (a := am) hown rfl (hw _ (List.mem_of_getElem? (i := 54) rfl)) (hw _ (List.mem_of_getElem? (i := 55) rfl)) (hw _ (List.mem_of_getElem? (i := 53) rfl)) (hw _ (List.mem_of_getElem? (i := 56) rfl)) (by decide) em (rmM l Z a0 hw am gM hm n0 Bm gnm) (by decide) (by decide) (by rw [hml]; rfl) (argsL := []) (rest := [(.ref am), (.ref a)]) (lenOf pd_M rfl) rfl (Nat.le_of_eq rfl) (hb hby d1_60) (pc' := 63) rfl (by decide) (by decide) rfl ?_
  rintro Tm1 _ Lm1 Xm1 ⟨rfl, Nm1, Km1⟩
  show Go p e below _ (Tm1.setTop (mkF m 63 #[.val (.ref a)] [(.ref am), (.ref a)]))
  have Om1 := Om.keep Km1 (ninS nam nin0)
  have VFm1 := VFm.keep Km1 (ninS nfm nin0)
  have VCm1 := VCm.keep Km1 (ninS ncm nin0)
  have KKm := Km.trans Km1 (allS (Or.inr gm0) all0)
  have NNm := Fr.app Nl2 Nm1
  refine g_putF Xm1 hx hZ (.object "java/util/Map") (host := "") hown (Or.inl (hw _ (List.mem_of_getElem? (i := 67) rfl))) Via.refl rfl (Om1.2 ("com/example/charted/charted/engine/TransitionTable", "labelListNumbers", "Ljava/util/Map;") (mem_i 6 rfl)) Om1.1 (Or.inr ⟨(hw _ (List.mem_of_getElem? (i := 68) rfl)), rfl, hnm⟩) (hw _ (List.mem_of_getElem? (i := 1) rfl)) (by decide) rfl rfl (hb hby d1_63) (pc' := 66) rfl ?_
  intro Tm2 hm2 Xm2 em2 Wm2
  have Om2 := Om1.put (lds_T hw) un_T de_T (mem_i 6 rfl) Wm2
  have Km2 := KKm.wr Wm2 (Or.inl (mem_i 0 rfl))
  have Nm2 := Fr.snoc Xm2 NNm ga
  have VFm2 := VFm1.other Wm2 (Ne.symm naf)
  have VCm2 := VCm1.other Wm2 (Ne.symm nac)
  refine g_aloadN Xm2 hx (hb hby d1_66) (pc' := 67) rfl rfl rfl ?_
  refine g_getF Xm2 hx hZ (host := "") (v := (.ref af)) hown (Or.inl (hw _ (List.mem_of_getElem? (i := 10) rfl))) Via.refl em2 (Om2.2 ("com/example/charted/charted/engine/TransitionTable", "firstOf", "[J") (mem_i 0 rfl)) (hb hby d1_67) (pc' := 70) rfl ?_
  intro Tz Xz ez
  refine g_ldc2L Xz hx hZ hown (hw _ (List.mem_of_getElem? (i := 69) rfl)) (hb hby d1_70) (pc' := 73) rfl ?_
  refine g_callS Xz hx hZ 0 hown (hw _ (List.mem_of_getElem? (i := 70) rfl)) (hw _ (List.mem_of_getElem? (i := 71) rfl)) (hw _ (List.mem_of_getElem? (i := 72) rfl)) (hw _ (List.mem_of_getElem? (i := 73) rfl)) (by decide) ez (rmFJ l Z a0 hw af 64 _ (-1) hm2 n0 VFm2 (by decide) (Nat.le_trans Z0 gf0)) (by decide) (by decide) (by rw [hml]; rfl) (argsL := [(.ref af), (.long (-1 : Int64))]) (rest := []) (lenOf pd_FJ rfl) rfl (Nat.le_of_eq rfl) (hb hby d1_73) (pc' := 76) rfl (by decide) (by decide) rfl ?_
  rintro Ty _ Ly Xy ⟨rfl, Ny, Ky, Vy⟩
  show Go p e below _ (Ty.setTop (mkF m 76 #[.val (.ref a)] []))
  exact g_retV Xy hx hret hlk (hb hby d1_76) (by decide) (by decide) ⟨rfl, Fr.app Nm2 Ny, Km2.trans Ky (allS (Or.inr gf0) all0), af, ac, _, _, Om2.keep Ky (ninS naf nin0), rfl, rfl, rfl, Vy, VCm2.keep Ky (ninS (Ne.symm nfc) nin0), (fun j => ⟨0, rfl⟩), nfc, naf, nac, ga, Nat.le_trans Z0 gf0, Nat.le_trans Z0 gc0⟩
theorem d14_0 : decode prog_26_method_2_code 0 = .ok (.iload_n 1, 1) := by decide +kernel
theorem d14_1 : decode prog_26_method_2_code 1 = .ok (.aload_n 0, 1) := by decide +kernel
theorem d14_2 : decode prog_26_method_2_code 2 = .ok (.getfield 9, 3) := by decide +kernel
theorem d14_5 : decode prog_26_method_2_code 5 = .ok (.arraylength, 1) := by decide +kernel
theorem d14_6 : decode prog_26_method_2_code 6 = .ok (.if_icmp .ge 18, 3) := by decide +kernel
theorem d14_9 : decode prog_26_method_2_code 9 = .ok (.aload_n 0, 1) := by decide +kernel
theorem d14_10 : decode prog_26_method_2_code 10 = .ok (.getfield 9, 3) := by decide +kernel
theorem d14_13 : decode prog_26_method_2_code 13 = .ok (.iload_n 1, 1) := by decide +kernel
theorem d14_14 : decode prog_26_method_2_code 14 = .ok (.laload, 1) := by decide +kernel
theorem d14_15 : decode prog_26_method_2_code 15 = .ok (.lconst 0, 1) := by decide +kernel
theorem d14_16 : decode prog_26_method_2_code 16 = .ok (.lcmp, 1) := by decide +kernel
theorem d14_17 : decode prog_26_method_2_code 17 = .ok (.ifCond .lt 7, 3) := by decide +kernel
theorem d14_20 : decode prog_26_method_2_code 20 = .ok (.iconst 1, 1) := by decide +kernel
theorem d14_21 : decode prog_26_method_2_code 21 = .ok (.goto 4, 3) := by decide +kernel
theorem d14_24 : decode prog_26_method_2_code 24 = .ok (.iconst 0, 1) := by decide +kernel
theorem d14_25 : decode prog_26_method_2_code 25 = .ok (.ireturn, 1) := by decide +kernel
theorem pn_H : plainFor (⟨"com/example/charted/charted/engine/TransitionTable", "has", "(I)Z"⟩ : MethodName) = true := plainFor_of_name (show plainName "com/example/charted/charted/engine/TransitionTable" = true by first | (simp [plainName, overriddenIn]; done) | decide +kernel)
theorem pd_H : parseMethodDescriptor "(I)Z" = some ⟨[.int], some .boolean⟩ := by decide +kernel
theorem ef_H (m : MethodId) (x0 : Addr) (x1 : Int32) : entryFrame m #[(.ref x0), (.int x1)] 2 = mkF m 0 #[.val (.ref x0), .val (.int x1)] [] := by first | (simp [entryFrame, mkF, argsToLocals, Value.category]; done) | rfl
set_option maxRecDepth 65536 in
set_option maxHeartbeats 40000000 in
theorem rmH (l : Launch) (Z : State) (a0 : Array Value) (hw : ∀ d ∈ tables_1, d.before a0 Z = true) (a : Addr) (q : Int32) (qN n : Nat) (F : Nat → Int64) (h0 : Heap) (n0 : Nat) (t : TT Z h0 n0 a n F) (hq : q.toInt = qN) (hn : n ≤ 4096) :
    Ct l Z (⟨"com/example/charted/charted/engine/TransitionTable", "has", "(I)Z"⟩ : MethodName) prog_26_method_2_code 2 (some .boolean) ({ frames := 0, cells := 0, slots := 0, locals := 0 } : Room) #[(.ref a), (.int q)] h0 (QB (qN < n ∧ ¬ F qN < 0) h0 n0) := by
  refine Ct.of pn_H (fun m => ef_H m a q) ?_
  intro p e s m below meth c T X0 hx hby hml hret hlk hZ hown hnm e0
  obtain ⟨af, ac, g, fc, t1, t2, t3, t4, t5, t6, t7, t8, t9, t10, t11, t12, t13⟩ := t
  refine g_iloadN X0 hx (hb hby d14_0) (pc' := 1) rfl rfl ?_
  refine g_aloadN X0 hx (hb hby d14_1) (pc' := 2) rfl rfl rfl ?_
  refine g_getF X0 hx hZ (host := "") (v := (.ref af)) hown (Or.inl (hw _ (List.mem_of_getElem? (i := 10) rfl))) Via.refl e0 (t2 ▸ (t1.2 ("com/example/charted/charted/engine/TransitionTable", "firstOf", "[J") (mem_i 0 rfl))) (hb hby d14_2) (pc' := 5) rfl ?_
  intro T1 X1 e1
  refine g_arraylength X1 hx hZ e1 t5 (z := Int32.ofNat n) rfl (hb hby d14_5) (pc' := 6) rfl ?_
  refine g_icmp_ge X1 hx (hb hby d14_6) (by decide) (pc' := 24) rfl (pcF := 9) rfl (fun hc => ?_) (fun hc => ?_)
  ·
    refine g_iconst X1 hx (hb hby d14_24) (pc' := 25) rfl (z := 0) (by decide) ?_
    exact g_retZ X1 hx hret hlk (by decide) (hb hby d14_25) (by decide) (by decide) ⟨Fr.nil _, e1, _, rfl, Or.inr ⟨rfl, fun z => by have := own_neg hc; rw [own_i (by omega)] at this; omega⟩⟩
  have hlt := Int32.lt_iff_toInt_lt.mp hc
  rw [own_i (by omega)] at hlt
  refine g_aloadN X1 hx (hb hby d14_9) (pc' := 10) rfl rfl rfl ?_
  refine g_getF X1 hx hZ (host := "") (v := (.ref af)) hown (Or.inl (hw _ (List.mem_of_getElem? (i := 10) rfl))) Via.refl e1 (t2 ▸ (t1.2 ("com/example/charted/charted/engine/TransitionTable", "firstOf", "[J") (mem_i 0 rfl))) (hb hby d14_10) (pc' := 13) rfl ?_
  intro T2 X2 e2
  refine g_iloadN X2 hx (hb hby d14_13) (pc' := 14) rfl rfl ?_
  refine g_laload X2 hx hZ e2 t5 (own_nn.mpr (by omega)) (own_nat hq) (by omega) (v := F qN) rfl (hb hby d14_14) (pc' := 15) rfl ?_
  refine g_lconst X2 hx (hb hby d14_15) (pc' := 16) rfl (z := 0) (by decide) ?_
  refine g_lcmp X2 hx (hb hby d14_16) (pc' := 17) rfl rfl ?_
  refine g_if_lt X2 hx (hb hby d14_17) (by decide) (pc' := 24) rfl (pcF := 20) rfl (fun hd => ?_) (fun hd => ?_)
  ·
    refine g_iconst X2 hx (hb hby d14_24) (pc' := 25) rfl (z := 0) (by decide) ?_
    exact g_retZ X2 hx hret hlk (by decide) (hb hby d14_25) (by decide) (by decide) ⟨Fr.nil _, e2, _, rfl, Or.inr ⟨rfl, fun z => z.2 ((own_cmp _).mp hd)⟩⟩
  ·
    refine g_iconst X2 hx (hb hby d14_20) (pc' := 21) rfl (z := 1) (by decide) ?_
    refine g_goto X2 hx (hb hby d14_21) (by decide) (pc' := 25) rfl ?_
    exact g_retZ X2 hx hret hlk (by decide) (hb hby d14_25) (by decide) (by decide) ⟨Fr.nil _, e2, _, rfl, Or.inl ⟨rfl, by omega, fun z => hd ((own_cmp _).mpr z)⟩⟩
theorem d9_0 : decode prog_26_method_3_code 0 = .ok (.iload_n 1, 1) := by decide +kernel
theorem d9_1 : decode prog_26_method_3_code 1 = .ok (.aload_n 0, 1) := by decide +kernel
theorem d9_2 : decode prog_26_method_3_code 2 = .ok (.getfield 9, 3) := by decide +kernel
theorem d9_5 : decode prog_26_method_3_code 5 = .ok (.arraylength, 1) := by decide +kernel
theorem d9_6 : decode prog_26_method_3_code 6 = .ok (.if_icmp .lt 61, 3) := by decide +kernel
theorem d9_9 : decode prog_26_method_3_code 9 = .ok (.aload_n 0, 1) := by decide +kernel
theorem d9_10 : decode prog_26_method_3_code 10 = .ok (.getfield 9, 3) := by decide +kernel
theorem d9_13 : decode prog_26_method_3_code 13 = .ok (.arraylength, 1) := by decide +kernel
theorem d9_14 : decode prog_26_method_3_code 14 = .ok (.istore_n 3, 1) := by decide +kernel
theorem d9_15 : decode prog_26_method_3_code 15 = .ok (.aload_n 0, 1) := by decide +kernel
theorem d9_16 : decode prog_26_method_3_code 16 = .ok (.aload_n 0, 1) := by decide +kernel
theorem d9_17 : decode prog_26_method_3_code 17 = .ok (.getfield 9, 3) := by decide +kernel
theorem d9_20 : decode prog_26_method_3_code 20 = .ok (.iload_n 1, 1) := by decide +kernel
theorem d9_21 : decode prog_26_method_3_code 21 = .ok (.iconst 1, 1) := by decide +kernel
theorem d9_22 : decode prog_26_method_3_code 22 = .ok (.iadd, 1) := by decide +kernel
theorem d9_23 : decode prog_26_method_3_code 23 = .ok (.iload_n 3, 1) := by decide +kernel
theorem d9_24 : decode prog_26_method_3_code 24 = .ok (.iconst 2, 1) := by decide +kernel
theorem d9_25 : decode prog_26_method_3_code 25 = .ok (.imul, 1) := by decide +kernel
theorem d9_26 : decode prog_26_method_3_code 26 = .ok (.invokestatic 53, 3) := by decide +kernel
theorem d9_29 : decode prog_26_method_3_code 29 = .ok (.invokestatic 59, 3) := by decide +kernel
theorem d9_32 : decode prog_26_method_3_code 32 = .ok (.putfield 9, 3) := by decide +kernel
theorem d9_35 : decode prog_26_method_3_code 35 = .ok (.aload_n 0, 1) := by decide +kernel
theorem d9_36 : decode prog_26_method_3_code 36 = .ok (.getfield 9, 3) := by decide +kernel
theorem d9_39 : decode prog_26_method_3_code 39 = .ok (.iload_n 3, 1) := by decide +kernel
theorem d9_40 : decode prog_26_method_3_code 40 = .ok (.aload_n 0, 1) := by decide +kernel
theorem d9_41 : decode prog_26_method_3_code 41 = .ok (.getfield 9, 3) := by decide +kernel
theorem d9_44 : decode prog_26_method_3_code 44 = .ok (.arraylength, 1) := by decide +kernel
theorem d9_45 : decode prog_26_method_3_code 45 = .ok (.ldc2_w 45, 3) := by decide +kernel
theorem d9_48 : decode prog_26_method_3_code 48 = .ok (.invokestatic 63, 3) := by decide +kernel
theorem d9_51 : decode prog_26_method_3_code 51 = .ok (.aload_n 0, 1) := by decide +kernel
theorem d9_52 : decode prog_26_method_3_code 52 = .ok (.aload_n 0, 1) := by decide +kernel
theorem d9_53 : decode prog_26_method_3_code 53 = .ok (.getfield 13, 3) := by decide +kernel
theorem d9_56 : decode prog_26_method_3_code 56 = .ok (.aload_n 0, 1) := by decide +kernel
theorem d9_57 : decode prog_26_method_3_code 57 = .ok (.getfield 9, 3) := by decide +kernel
theorem d9_60 : decode prog_26_method_3_code 60 = .ok (.arraylength, 1) := by decide +kernel
theorem d9_61 : decode prog_26_method_3_code 61 = .ok (.invokestatic 66, 3) := by decide +kernel
theorem d9_64 : decode prog_26_method_3_code 64 = .ok (.putfield 13, 3) := by decide +kernel
theorem d9_67 : decode prog_26_method_3_code 67 = .ok (.aload_n 0, 1) := by decide +kernel
theorem d9_68 : decode prog_26_method_3_code 68 = .ok (.getfield 9, 3) := by decide +kernel
theorem d9_71 : decode prog_26_method_3_code 71 = .ok (.iload_n 1, 1) := by decide +kernel
theorem d9_72 : decode prog_26_method_3_code 72 = .ok (.aload_n 0, 1) := by decide +kernel
theorem d9_73 : decode prog_26_method_3_code 73 = .ok (.getfield 69, 3) := by decide +kernel
theorem d9_76 : decode prog_26_method_3_code 76 = .ok (.lastore, 1) := by decide +kernel
theorem d9_77 : decode prog_26_method_3_code 77 = .ok (.aload_n 0, 1) := by decide +kernel
theorem d9_78 : decode prog_26_method_3_code 78 = .ok (.getfield 13, 3) := by decide +kernel
theorem d9_81 : decode prog_26_method_3_code 81 = .ok (.iload_n 1, 1) := by decide +kernel
theorem d9_82 : decode prog_26_method_3_code 82 = .ok (.aload_n 2, 1) := by decide +kernel
theorem d9_83 : decode prog_26_method_3_code 83 = .ok (.invokeinterface 73 1, 5) := by decide +kernel
theorem d9_88 : decode prog_26_method_3_code 88 = .ok (.iastore, 1) := by decide +kernel
theorem d9_89 : decode prog_26_method_3_code 89 = .ok (.aload_n 2, 1) := by decide +kernel
theorem d9_90 : decode prog_26_method_3_code 90 = .ok (.invokeinterface 78 1, 5) := by decide +kernel
theorem d9_95 : decode prog_26_method_3_code 95 = .ok (.astore_n 3, 1) := by decide +kernel
theorem d9_96 : decode prog_26_method_3_code 96 = .ok (.aload_n 3, 1) := by decide +kernel
theorem d9_97 : decode prog_26_method_3_code 97 = .ok (.invokeinterface 82 1, 5) := by decide +kernel
theorem d9_102 : decode prog_26_method_3_code 102 = .ok (.ifCond .eq 35, 3) := by decide +kernel
theorem d9_105 : decode prog_26_method_3_code 105 = .ok (.aload_n 3, 1) := by decide +kernel
theorem d9_106 : decode prog_26_method_3_code 106 = .ok (.invokeinterface 88 1, 5) := by decide +kernel
theorem d9_111 : decode prog_26_method_3_code 111 = .ok (.checkcast 92, 3) := by decide +kernel
theorem d9_114 : decode prog_26_method_3_code 114 = .ok (.astore 4, 2) := by decide +kernel
theorem d9_116 : decode prog_26_method_3_code 116 = .ok (.aload_n 0, 1) := by decide +kernel
theorem d9_117 : decode prog_26_method_3_code 117 = .ok (.aload 4, 2) := by decide +kernel
theorem d9_119 : decode prog_26_method_3_code 119 = .ok (.invokevirtual 94, 3) := by decide +kernel
theorem d9_122 : decode prog_26_method_3_code 122 = .ok (.aload_n 0, 1) := by decide +kernel
theorem d9_123 : decode prog_26_method_3_code 123 = .ok (.aload 4, 2) := by decide +kernel
theorem d9_125 : decode prog_26_method_3_code 125 = .ok (.invokevirtual 97, 3) := by decide +kernel
theorem d9_128 : decode prog_26_method_3_code 128 = .ok (.invokevirtual 101, 3) := by decide +kernel
theorem d9_131 : decode prog_26_method_3_code 131 = .ok (.invokevirtual 105, 3) := by decide +kernel
theorem d9_134 : decode prog_26_method_3_code 134 = .ok (.goto (-38), 3) := by decide +kernel
theorem d9_137 : decode prog_26_method_3_code 137 = .ok (.return_, 1) := by decide +kernel
theorem pn_P : plainFor (⟨"com/example/charted/charted/engine/TransitionTable", "put", "(ILjava/util/Collection;)V"⟩ : MethodName) = true := plainFor_of_name (show plainName "com/example/charted/charted/engine/TransitionTable" = true by first | (simp [plainName, overriddenIn]; done) | decide +kernel)
theorem pd_P : parseMethodDescriptor "(ILjava/util/Collection;)V" = some ⟨[.int, .object "java/util/Collection"], none⟩ := by decide +kernel
theorem ef_P (m : MethodId) (x0 : Addr) (x1 : Int32) (x2 : Addr) : entryFrame m #[(.ref x0), (.int x1), (.ref x2)] 5 = mkF m 0 #[.val (.ref x0), .val (.int x1), .val (.ref x2), .unset, .unset] [] := by first | (simp [entryFrame, mkF, argsToLocals, Value.category]; done) | rfl
def F1 (F : Nat → Int64) (n : Nat) : Nat → Int64 := fun j => if j < n then F j else -1
def F2 (F : Nat → Int64) (n i : Nat) : Nat → Int64 := fun j => if j = i then 0 else F1 F n j
theorem own_F1 (F : Nat → Int64) (n M j : Nat) (hj : j < M) : (if n ≤ j ∧ j < M then Value.long (-1) else (if j < n then .long (F j) else .long 0)) = .long (F1 F n j) := by
  unfold F1
  by_cases q : j < n
  · rw [if_neg (by omega), if_pos q, if_pos q]
  · rw [if_pos ⟨by omega, hj⟩, if_neg q]
theorem own_F2 (F : Nat → Int64) (n i j : Nat) : upd (fun j => .long (F1 F n j)) i (.long 0) j = .long (F2 F n i j) := by
  unfold upd F2
  by_cases q : j = i
  · rw [if_pos q, if_pos q]
  · rw [if_neg q, if_neg q]
theorem own_AI (f : Nat → Value) (n : Nat) (h : AI f) : AI (fun j => if j < n then f j else .int 0) := fun j => by
  by_cases q : j < n
  · obtain ⟨v, hv⟩ := h j; exact ⟨v, by show (if j < n then f j else .int 0) = _; rw [if_pos q, hv]⟩
  · exact ⟨0, if_neg q⟩
theorem own_TT {Z : State} {h h1 h2 : Heap} {n0 n : Nat} {a b : Addr} {F : Nat → Int64} (t : TT Z h n0 a n F) (E : Ext h h1) (g : b = h.size) (K : Keep h1 h2 [b]) : TT Z h2 n0 a n F := by
  obtain ⟨af, ac, g', fc, t1, t2, t3, t4, t5, t6, r⟩ := t
  exact ⟨af, ac, g', fc, (t1.ext E).keep K (ninS (Nat.ne_of_lt (g ▸ t1.lt)) nin0), t2, t3, t4, (t5.ext E).keep K (ninS (Nat.ne_of_lt (g ▸ t5.lt)) nin0), (t6.ext E).keep K (ninS (Nat.ne_of_lt (g ▸ t6.lt)) nin0), r⟩
theorem own_TTe {Z : State} {h : Heap} {n0 n : Nat} {a : Addr} {F : Nat → Int64} (t : TT Z h n0 a n F) : Exa Z h a "com/example/charted/charted/engine/TransitionTable" := by
  obtain ⟨af, ac, g', fc, t1, r⟩ := t; exact t1.1
theorem own_fact0 {fa : Int32} {aN : Nat} (hc : fa = 0) : ∀ q : Nat, (q < 64 ∧ ¬ (fun _ : Nat => (-1 : Int64)) q < 0) ↔ (fa ≠ 0 ∧ q = aN) := fun q =>
  ⟨fun z => absurd (by decide : (-1 : Int64) < 0) z.2, fun z => absurd hc z.1⟩
theorem own_fact1 {fa : Int32} {aN np : Nat} (hc : ¬ fa = 0) (r3 : aN < np) : ∀ q : Nat, (q < np ∧ ¬ F2 (fun _ => -1) 64 aN q < 0) ↔ (fa ≠ 0 ∧ q = aN) := fun q => by
  unfold F2 F1
  by_cases h : q = aN
  · subst h; rw [if_pos rfl]; exact ⟨fun _ => ⟨hc, rfl⟩, fun _ => ⟨r3, by decide⟩⟩
  · rw [if_neg h]
    refine ⟨fun z => absurd ?_ z.2, fun z => absurd z.2 h⟩
    split <;> exact (show (-1 : Int64) < 0 by decide)
theorem own_fact2 {fa fb : Int32} {aN bN n : Nat} {F : Nat → Int64} (hc : fb = 0) (f : ∀ q : Nat, (q < n ∧ ¬ F q < 0) ↔ (fa ≠ 0 ∧ q = aN)) : ∀ q : Nat, (q < n ∧ ¬ F q < 0) ↔ ((fa ≠ 0 ∧ q = aN) ∨ (fb ≠ 0 ∧ q = bN)) := fun q => by
  rw [f q]; exact ⟨Or.inl, fun z => z.elim id fun z => absurd hc z.1⟩
theorem own_fact3 {fa fb : Int32} {aN bN n np : Nat} {F : Nat → Int64} (hc : ¬ fb = 0) (r1 : n ≤ np) (r3 : bN < np) (f : ∀ q : Nat, (q < n ∧ ¬ F q < 0) ↔ (fa ≠ 0 ∧ q = aN)) : ∀ q : Nat, (q < np ∧ ¬ F2 F n bN q < 0) ↔ ((fa ≠ 0 ∧ q = aN) ∨ (fb ≠ 0 ∧ q = bN)) := fun q => by
  unfold F2 F1
  by_cases h : q = bN
  · subst h; rw [if_pos rfl]; exact ⟨fun _ => Or.inr ⟨hc, rfl⟩, fun _ => ⟨r3, by decide⟩⟩
  · rw [if_neg h]
    by_cases h2 : q < n
    · rw [if_pos h2]
      have := f q
      exact ⟨fun z => Or.inl (this.mp ⟨h2, z.2⟩), fun z => z.elim (fun z => ⟨by omega, (this.mpr z).2⟩) fun z => absurd z.2 h⟩
    · rw [if_neg h2]
      refine ⟨fun z => absurd (by decide : (-1 : Int64) < 0) z.2, fun z => z.elim (fun z => absurd ((f q).mpr z).1 h2) fun z => absurd z.2 h⟩
def QP (Z : State) (a : Addr) (n i : Nat) (F : Nat → Int64) (h0 : Heap) (n0 : Nat) (v : Option Value) (h : Heap) (L : List Loc) : Prop := v = none ∧ Fr n0 L ∧ Kp n0 h0 h ∧ ∃ n', n ≤ n' ∧ n' ≤ 2 * n + 1024 ∧ (n' ≤ 2 * n ∨ n' ≤ 1024) ∧ i < n' ∧ TT Z h n0 a n' (F2 F n i)
set_option maxRecDepth 65536 in
set_option maxHeartbeats 40000000 in
theorem rmP (l : Launch) (Z : State) (a0 : Array Value) (hw : ∀ d ∈ tables_1, d.before a0 Z = true) (a al : Addr) (i : Int32) (iN n : Nat) (F : Nat → Int64) (gl : String → Value) (h0 : Heap) (n0 : Nat) (Z0 : n0 ≤ h0.size) (t : TT Z h0 n0 a n F) (P0 : Ob Z h0 al "java/util/ArrayList" fs_A gl) (pm : gl "modCount" = .int 0) (ps : gl "size" = .int 0) (hi : i.toInt = iN) (hi2 : iN < 1024) (hn : 64 ≤ n) (hn2 : n ≤ 1024) :
    Ct l Z (⟨"com/example/charted/charted/engine/TransitionTable", "put", "(ILjava/util/Collection;)V"⟩ : MethodName) prog_26_method_3_code 5 none ({ frames := 3, cells := 3, slots := 4100, locals := 60 } : Room) #[(.ref a), (.int i), (.ref al)] h0 (QP Z a n iN F h0 n0) := by
  refine Ct.of pn_P (fun m => ef_P m a i al) ?_
  intro p e s m below meth c T X0 hx hby hml hret hlk hZ hown hnm e0
  have hi0 : ¬ i < 0 := own_nn.mpr (by omega)
  have hiN : i.toNatClampNeg = iN := own_nat hi
  have join : ∀ (Tj : State) (hj : Heap) (lcj : List Loc) (n1 : Nat) (s3 : Slot), (s3 = .unset ∨ ∃ z : Int32, s3 = .val (.int z)) → Stand p l e ({ frames := 3, cells := 3, slots := 4100, locals := 60 } : Room) s m #[(.ref a), (.int i), (.ref al)] below meth c Tj lcj 2 4096 → Tj.heap = hj → Fr n0 lcj → Kp n0 h0 hj → n0 ≤ hj.size → TT Z hj n0 a n1 (F1 F n) → Ob Z hj al "java/util/ArrayList" fs_A gl → n ≤ n1 → n1 ≤ 2048 → n1 ≤ 2 * n + 1024 → (n1 ≤ 2 * n ∨ n1 ≤ 1024) → iN < n1 → Go p e below (Dn s below (QP Z a n iN F h0 n0) 3 4100) (Tj.setTop (mkF m 67 #[.val (.ref a), .val (.int i), .val (.ref al), s3, .unset] [])) := by
    intro Tj hj lcj n1 s3 hs3 Xj ej Nj Kj Zj t P1 q1 q2 q3 q3' q4
    obtain ⟨af, ac, g, fc, t1, t2, t3, t4, t5, t6, t7, t8, t9, t10, t11, t12, t13⟩ := t
    have nla : al ≠ a := ne_exa P1.1 t1.1 (by decide)
    have nlf : al ≠ af := own_ne_av P1.1 (hw _ (List.mem_of_getElem? (i := 26) rfl)) t5
    have nlc : al ≠ ac := own_ne_av P1.1 (hw _ (List.mem_of_getElem? (i := 26) rfl)) t6
    refine g_aloadN Xj hx (hb hby d9_67) (pc' := 68) rfl rfl rfl ?_
    refine g_getF Xj hx hZ (host := "") (v := (.ref af)) hown (Or.inl (hw _ (List.mem_of_getElem? (i := 10) rfl))) Via.refl ej (t2 ▸ (t1.2 ("com/example/charted/charted/engine/TransitionTable", "firstOf", "[J") (mem_i 0 rfl))) (hb hby d9_68) (pc' := 71) rfl ?_
    intro T1 X1 e1
    refine g_iloadN X1 hx (hb hby d9_71) (pc' := 72) rfl rfl ?_
    refine g_aloadN X1 hx (hb hby d9_72) (pc' := 73) rfl rfl rfl ?_
    refine g_getF X1 hx hZ (host := "") (v := (.long (0 : Int64))) hown (Or.inl (hw _ (List.mem_of_getElem? (i := 81) rfl))) Via.refl e1 (t4 ▸ (t1.2 ("com/example/charted/charted/engine/TransitionTable", "size", "J") (mem_i 7 rfl))) (hb hby d9_73) (pc' := 76) rfl ?_
    intro T2 X2 e2
    refine g_lastore X2 hx hZ e2 t5 hi0 hiN q4 (hb hby d9_76) (pc' := 77) rfl ?_
    intro T3 h3 X3 e3 W3 V3
    have O3 := t1.other W3 t9
    have C3 := t6.other W3 (Ne.symm t8)
    have P3 := P1.other W3 nlf
    have K3 := Kj.trans (Kp.wr W3 t12)
    have N3 := Fr.snoc X3 Nj t12
    refine g_aloadN X3 hx (hb hby d9_77) (pc' := 78) rfl rfl rfl ?_
    refine g_getF X3 hx hZ (host := "") (v := (.ref ac)) hown (Or.inl (hw _ (List.mem_of_getElem? (i := 13) rfl))) Via.refl e3 (t3 ▸ (O3.2 ("com/example/charted/charted/engine/TransitionTable", "countOf", "[I") (mem_i 1 rfl))) (hb hby d9_78) (pc' := 81) rfl ?_
    intro T4 X4 e4
    refine g_iloadN X4 hx (hb hby d9_81) (pc' := 82) rfl rfl ?_
    refine g_aloadN X4 hx (hb hby d9_82) (pc' := 83) rfl rfl rfl ?_
    refine g_callF X4 hx hZ 2 (a := al) hown (hw _ (List.mem_of_getElem? (i := 83) rfl)) (hw _ (List.mem_of_getElem? (i := 84) rfl)) (mvT hZ (hw _ (List.mem_of_getElem? (i := 85) rfl))) (hw _ (List.mem_of_getElem? (i := 86) rfl)) (hw _ (List.mem_of_getElem? (i := 87) rfl)) (hw _ (List.mem_of_getElem? (i := 88) rfl)) (hw _ (List.mem_of_getElem? (i := 89) rfl)) (hw _ (List.mem_of_getElem? (i := 90) rfl)) (hw _ (List.mem_of_getElem? (i := 91) rfl)) (hw _ (List.mem_of_getElem? (i := 27) rfl)) (by decide) e4 P3.1 (rmSZ l Z a0 hw al gl h3 n0 P3 ps) (by decide) (by decide) (by rw [hml]; rfl) (argsL := []) (rest := [(.int i), (.ref ac)]) (lenOf pd_SZ rfl) rfl (Nat.le_of_eq rfl) (hb hby d9_83) (pc' := 88) rfl (by decide) (by decide) rfl ?_
    rintro T5 _ L5 X5 ⟨N5, e5, rfl⟩
    show Go p e below _ (T5.setTop (mkF m 88 #[.val (.ref a), .val (.int i), .val (.ref al), s3, .unset] [(.int (0 : Int32)), (.int i), (.ref ac)]))
    refine g_iastore X5 hx hZ e5 C3 hi0 hiN q4 (hb hby d9_88) (pc' := 89) rfl ?_
    intro T6 h6 X6 e6 W6 C6
    have O6 := O3.other W6 t10
    have V6 := V3.other W6 t8
    have P6 := P3.other W6 nlc
    have K6 := K3.trans (Kp.wr W6 t13)
    have N6 := Fr.snoc X6 (N3.app N5) t13
    have Z6 : n0 ≤ h6.size := by rw [W6.size, W3.size]; exact Zj
    refine g_aloadN X6 hx (hb hby d9_89) (pc' := 90) rfl rfl rfl ?_
    refine g_callF X6 hx hZ 0 (a := al) hown (hw _ (List.mem_of_getElem? (i := 94) rfl)) (hw _ (List.mem_of_getElem? (i := 95) rfl)) (mvT hZ (hw _ (List.mem_of_getElem? (i := 96) rfl))) (hw _ (List.mem_of_getElem? (i := 97) rfl)) (hw _ (List.mem_of_getElem? (i := 98) rfl)) (hw _ (List.mem_of_getElem? (i := 99) rfl)) (hw _ (List.mem_of_getElem? (i := 100) rfl)) (hw _ (List.mem_of_getElem? (i := 90) rfl)) (hw _ (List.mem_of_getElem? (i := 101) rfl)) (hw _ (List.mem_of_getElem? (i := 27) rfl)) (by decide) e6 P6.1 (rmIT l Z a0 hw al gl h6 n0 P6 pm Z6) (by decide) (by decide) (by rw [hml]; rfl) (argsL := []) (rest := []) (lenOf pd_IT rfl) rfl (Nat.le_of_eq rfl) (hb hby d9_90) (pc' := 95) rfl (by decide) (by decide) rfl ?_
    rintro T7 _ L7 X7 ⟨bi, rfl, N7, gi, E7, gi', O7, i1, i2⟩
    show Go p e below _ (T7.setTop (mkF m 95 #[.val (.ref a), .val (.int i), .val (.ref al), s3, .unset] [(.ref bi)]))
    refine g_astoreN X7 hx (hb hby d9_95) (pc' := 96) rfl rfl (Ls' := #[.val (.ref a), .val (.int i), .val (.ref al), .val (.ref bi), .unset]) (by rcases hs3 with rfl | ⟨z, rfl⟩ <;> rfl) ?_
    refine g_aloadN X7 hx (hb hby d9_96) (pc' := 97) rfl rfl rfl ?_
    refine g_callF X7 hx hZ 0 (a := bi) hown (hw _ (List.mem_of_getElem? (i := 118) rfl)) (hw _ (List.mem_of_getElem? (i := 119) rfl)) (mvT hZ (hw _ (List.mem_of_getElem? (i := 120) rfl))) (hw _ (List.mem_of_getElem? (i := 121) rfl)) (hw _ (List.mem_of_getElem? (i := 122) rfl)) (hw _ (List.mem_of_getElem? (i := 123) rfl)) (hw _ (List.mem_of_getElem? (i := 124) rfl)) (hw _ (List.mem_of_getElem? (i := 125) rfl)) (hw _ (List.mem_of_getElem? (i := 126) rfl)) (hw _ (List.mem_of_getElem? (i := 104) rfl)) (by decide) rfl O7.1 (rmHN l Z a0 hw bi al gi' gl _ n0 O7 (P6.ext E7) i1 i2 ps) (by decide) (by decide) (by rw [hml]; rfl) (argsL := []) (rest := []) (lenOf pd_HN rfl) rfl (Nat.le_of_eq rfl) (hb hby d9_97) (pc' := 102) rfl (by decide) (by decide) rfl ?_
    rintro T8 _ L8 X8 ⟨N8, e8, rfl⟩
    show Go p e below _ (T8.setTop (mkF m 102 #[.val (.ref a), .val (.int i), .val (.ref al), .val (.ref bi), .unset] [(.int (0 : Int32))]))
    refine g_if_eq X8 hx (hb hby d9_102) (by decide) (pc' := 137) rfl (pcF := 105) rfl (fun hc => ?_) (fun hc => absurd rfl hc)
    exact g_retV X8 hx hret hlk (hb hby d9_137) (by decide) (by decide) ⟨rfl, (N6.app N7).app N8, by rw [e8]; exact K6.trans (Kp.ext E7), n1, q1, q3, q3', q4, by rw [e8]; exact ⟨af, ac, g, _, O6.ext E7, t2, t3, t4, (V6.ext E7).congr (fun j hj => own_F2 F n iN j), C6.ext E7, t7.upd _ _, t8, t9, t10, t11, t12, t13⟩⟩
  have t' := t
  obtain ⟨af, ac, g, fc, t1, t2, t3, t4, t5, t6, t7, t8, t9, t10, t11, t12, t13⟩ := t
  have nla : al ≠ a := ne_exa P0.1 t1.1 (by decide)
  have nlf : al ≠ af := own_ne_av P0.1 (hw _ (List.mem_of_getElem? (i := 26) rfl)) t5
  refine g_iloadN X0 hx (hb hby d9_0) (pc' := 1) rfl rfl ?_
  refine g_aloadN X0 hx (hb hby d9_1) (pc' := 2) rfl rfl rfl ?_
  refine g_getF X0 hx hZ (host := "") (v := (.ref af)) hown (Or.inl (hw _ (List.mem_of_getElem? (i := 10) rfl))) Via.refl e0 (t2 ▸ (t1.2 ("com/example/charted/charted/engine/TransitionTable", "firstOf", "[J") (mem_i 0 rfl))) (hb hby d9_2) (pc' := 5) rfl ?_
  intro T1 X1 e1
  refine g_arraylength X1 hx hZ e1 t5 (z := Int32.ofNat n) rfl (hb hby d9_5) (pc' := 6) rfl ?_
  refine g_icmp_lt X1 hx (hb hby d9_6) (by decide) (pc' := 67) rfl (pcF := 9) rfl (fun hc => ?_) (fun hc => ?_)
  · have hlt := Int32.lt_iff_toInt_lt.mp hc
    rw [own_i (by omega)] at hlt
    exact join T1 h0 [] n .unset (Or.inl rfl) (X1.more (by decide) (by decide)) e1 (Fr.nil _) (Kp.refl _ _) Z0 (t'.congr (fun j hj => (if_pos hj).symm)) P0 (Nat.le_refl _) (by omega) (by omega) (by omega) (by omega)
  have hge := own_neg hc
  rw [own_i (by omega)] at hge
  obtain ⟨M, hM⟩ : ∃ M : Nat, M = (if iN + 1 < 2 * n then 2 * n else iN + 1) := ⟨_, rfl⟩
  have hM1 : n < M ∧ M ≤ 2048 ∧ iN < M ∧ M ≤ 2 * n + 1024 ∧ (M ≤ 2 * n ∨ M ≤ 1024) := by rw [hM]; split <;> omega
  refine g_aloadN X1 hx (hb hby d9_9) (pc' := 10) rfl rfl rfl ?_
  refine g_getF X1 hx hZ (host := "") (v := (.ref af)) hown (Or.inl (hw _ (List.mem_of_getElem? (i := 10) rfl))) Via.refl e1 (t2 ▸ (t1.2 ("com/example/charted/charted/engine/TransitionTable", "firstOf", "[J") (mem_i 0 rfl))) (hb hby d9_10) (pc' := 13) rfl ?_
  intro T2 X2 e2
  refine g_arraylength X2 hx hZ e2 t5 (z := Int32.ofNat n) rfl (hb hby d9_13) (pc' := 14) rfl ?_
  refine g_istoreN X2 hx (hb hby d9_14) (pc' := 15) rfl (Ls' := #[.val (.ref a), .val (.int i), .val (.ref al), .val (.int (Int32.ofNat n)), .unset]) rfl ?_
  refine g_aloadN X2 hx (hb hby d9_15) (pc' := 16) rfl rfl rfl ?_
  refine g_aloadN X2 hx (hb hby d9_16) (pc' := 17) rfl rfl rfl ?_
  refine g_getF X2 hx hZ (host := "") (v := (.ref af)) hown (Or.inl (hw _ (List.mem_of_getElem? (i := 10) rfl))) Via.refl e2 (t2 ▸ (t1.2 ("com/example/charted/charted/engine/TransitionTable", "firstOf", "[J") (mem_i 0 rfl))) (hb hby d9_17) (pc' := 20) rfl ?_
  intro T3 X3 e3
  refine g_iloadN X3 hx (hb hby d9_20) (pc' := 21) rfl rfl ?_
  refine g_iconst X3 hx (hb hby d9_21) (pc' := 22) rfl (z := 1) (by decide) ?_
  refine g_iadd X3 hx (hb hby d9_22) (pc' := 23) rfl rfl ?_
  refine g_iloadN X3 hx (hb hby d9_23) (pc' := 24) rfl rfl ?_
  refine g_iconst X3 hx (hb hby d9_24) (pc' := 25) rfl (z := 2) (by decide) ?_
  refine g_imul X3 hx (hb hby d9_25) (pc' := 26) rfl rfl ?_
  refine g_callS X3 hx hZ 2 hown (hw _ (List.mem_of_getElem? (i := 136) rfl)) (hw _ (List.mem_of_getElem? (i := 137) rfl)) (hw _ (List.mem_of_getElem? (i := 138) rfl)) (hw _ (List.mem_of_getElem? (i := 139) rfl)) (by decide) e3 (rmMX l Z a0 hw (i + (1 : Int32)) ((Int32.ofNat n) * (2 : Int32)) h0 n0) (by decide) (by decide) (by rw [hml]; rfl) (argsL := [(.int (i + (1 : Int32))), (.int ((Int32.ofNat n) * (2 : Int32)))]) (rest := [(.ref af), (.ref a)]) (lenOf pd_MX rfl) rfl (Nat.le_of_eq rfl) (hb hby d9_26) (pc' := 29) rfl (by decide) (by decide) rfl ?_
  rintro T4 _ L4 X4 ⟨N4, e4, rfl⟩
  show Go p e below _ (T4.setTop (mkF m 29 #[.val (.ref a), .val (.int i), .val (.ref al), .val (.int (Int32.ofNat n)), .unset] [(.int (if (i + (1 : Int32)) < ((Int32.ofNat n) * (2 : Int32)) then ((Int32.ofNat n) * (2 : Int32)) else (i + (1 : Int32)))), (.ref af), (.ref a)]))
  rw [own_max hi hi2 hn2, ← hM]
  refine g_callS X4 hx hZ 1 hown (hw _ (List.mem_of_getElem? (i := 140) rfl)) (hw _ (List.mem_of_getElem? (i := 141) rfl)) (hw _ (List.mem_of_getElem? (i := 72) rfl)) (hw _ (List.mem_of_getElem? (i := 142) rfl)) (by decide) e4 (rmCJ l Z a0 hw af n M _ h0 n0 t5 (fun j => ⟨_, rfl⟩) hM1.1 hM1.2.1 Z0) (by decide) (by decide) (by rw [hml]; rfl) (argsL := [(.ref af), (.int (Int32.ofNat M))]) (rest := [(.ref a)]) (lenOf pd_CJ rfl) rfl (Nat.le_of_eq rfl) (hb hby d9_29) (pc' := 32) rfl (by decide) (by decide) rfl ?_
  rintro T5 _ L5 X5 ⟨b1, rfl, N5, gb, E5, V5⟩
  show Go p e below _ (T5.setTop (mkF m 32 #[.val (.ref a), .val (.int i), .val (.ref al), .val (.int (Int32.ofNat n)), .unset] [(.ref b1), (.ref a)]))
  have O5 := t1.ext E5
  have nab : a ≠ b1 := Nat.ne_of_lt (Nat.lt_of_lt_of_le t1.lt gb)
  have ncb : ac ≠ b1 := Nat.ne_of_lt (Nat.lt_of_lt_of_le t6.lt gb)
  have nlb : al ≠ b1 := Nat.ne_of_lt (Nat.lt_of_lt_of_le P0.lt gb)
  refine g_putF X5 hx hZ (.array .long) (host := "") hown (Or.inl (hw _ (List.mem_of_getElem? (i := 10) rfl))) Via.refl rfl (O5.2 ("com/example/charted/charted/engine/TransitionTable", "firstOf", "[J") (mem_i 0 rfl)) O5.1 (Or.inl (hw _ (List.mem_of_getElem? (i := 11) rfl))) (hw _ (List.mem_of_getElem? (i := 1) rfl)) (by decide) rfl rfl (hb hby d9_32) (pc' := 35) rfl ?_
  intro T6 h6 X6 e6 W6
  have O6 := O5.put (lds_T hw) un_T de_T (mem_i 0 rfl) W6
  have V6 := V5.other W6 (Ne.symm nab)
  have C6 := (t6.ext E5).other W6 (Ne.symm t10)
  have P6 := (P0.ext E5).other W6 nla
  have K6 := (Kp.ext (n0 := n0) E5).trans (Kp.wr W6 t11)
  have N6 := Fr.snoc X6 (((Fr.nil n0).app N4).app N5) t11
  refine g_aloadN X6 hx (hb hby d9_35) (pc' := 36) rfl rfl rfl ?_
  refine g_getF X6 hx hZ (host := "") (v := (.ref b1)) hown (Or.inl (hw _ (List.mem_of_getElem? (i := 10) rfl))) Via.refl e6 (O6.2 ("com/example/charted/charted/engine/TransitionTable", "firstOf", "[J") (mem_i 0 rfl)) (hb hby d9_36) (pc' := 39) rfl ?_
  intro T7 X7 e7
  refine g_iloadN X7 hx (hb hby d9_39) (pc' := 40) rfl rfl ?_
  refine g_aloadN X7 hx (hb hby d9_40) (pc' := 41) rfl rfl rfl ?_
  refine g_getF X7 hx hZ (host := "") (v := (.ref b1)) hown (Or.inl (hw _ (List.mem_of_getElem? (i := 10) rfl))) Via.refl e7 (O6.2 ("com/example/charted/charted/engine/TransitionTable", "firstOf", "[J") (mem_i 0 rfl)) (hb hby d9_41) (pc' := 44) rfl ?_
  intro T8 X8 e8
  refine g_arraylength X8 hx hZ e8 V6 (z := Int32.ofNat M) rfl (hb hby d9_44) (pc' := 45) rfl ?_
  refine g_ldc2L X8 hx hZ hown (hw _ (List.mem_of_getElem? (i := 69) rfl)) (hb hby d9_45) (pc' := 48) rfl ?_
  refine g_callS X8 hx hZ 0 hown (hw _ (List.mem_of_getElem? (i := 150) rfl)) (hw _ (List.mem_of_getElem? (i := 151) rfl)) (hw _ (List.mem_of_getElem? (i := 72) rfl)) (hw _ (List.mem_of_getElem? (i := 152) rfl)) (by decide) e8 (rmFR l Z a0 hw b1 M n M _ (-1) h6 n0 V6 (by omega) (by omega) (Nat.le_refl _) (Nat.le_trans Z0 gb)) (by decide) (by decide) (by rw [hml]; rfl) (argsL := [(.ref b1), (.int (Int32.ofNat n)), (.int (Int32.ofNat M)), (.long (-1 : Int64))]) (rest := []) (lenOf pd_FR rfl) rfl (Nat.le_of_eq rfl) (hb hby d9_48) (pc' := 51) rfl (by decide) (by decide) rfl ?_
  rintro T9 _ L9 X9 ⟨rfl, N9, K9', V9⟩
  show Go p e below _ (T9.setTop (mkF m 51 #[.val (.ref a), .val (.int i), .val (.ref al), .val (.int (Int32.ofNat n)), .unset] []))
  have O9 := O6.keep K9' (ninS nab nin0)
  have C9 := C6.keep K9' (ninS ncb nin0)
  have P9 := P6.keep K9' (ninS nlb nin0)
  have gb2 : n0 ≤ b1 := Nat.le_trans Z0 gb
  have K9 := K6.trans (Kp.keep K9' (allS gb2 all0))
  have N9a := N6.app N9
  have Z9 : n0 ≤ T9.heap.size := Nat.le_trans Z0 K9.1
  refine g_aloadN X9 hx (hb hby d9_51) (pc' := 52) rfl rfl rfl ?_
  refine g_aloadN X9 hx (hb hby d9_52) (pc' := 53) rfl rfl rfl ?_
  refine g_getF X9 hx hZ (host := "") (v := (.ref ac)) hown (Or.inl (hw _ (List.mem_of_getElem? (i := 13) rfl))) Via.refl rfl ((show set g "firstOf" (.ref b1) "countOf" = .ref ac from t3) ▸ (O9.2 ("com/example/charted/charted/engine/TransitionTable", "countOf", "[I") (mem_i 1 rfl))) (hb hby d9_53) (pc' := 56) rfl ?_
  intro T10 X10 e10
  refine g_aloadN X10 hx (hb hby d9_56) (pc' := 57) rfl rfl rfl ?_
  refine g_getF X10 hx hZ (host := "") (v := (.ref b1)) hown (Or.inl (hw _ (List.mem_of_getElem? (i := 10) rfl))) Via.refl e10 (O9.2 ("com/example/charted/charted/engine/TransitionTable", "firstOf", "[J") (mem_i 0 rfl)) (hb hby d9_57) (pc' := 60) rfl ?_
  intro T11 X11 e11
  refine g_arraylength X11 hx hZ e11 V9 (z := Int32.ofNat M) rfl (hb hby d9_60) (pc' := 61) rfl ?_
  refine g_callS X11 hx hZ 1 hown (hw _ (List.mem_of_getElem? (i := 156) rfl)) (hw _ (List.mem_of_getElem? (i := 157) rfl)) (hw _ (List.mem_of_getElem? (i := 72) rfl)) (hw _ (List.mem_of_getElem? (i := 158) rfl)) (by decide) e11 (rmCI l Z a0 hw ac n M fc T9.heap n0 C9 t7 hM1.1 hM1.2.1 Z9) (by decide) (by decide) (by rw [hml]; rfl) (argsL := [(.ref ac), (.int (Int32.ofNat M))]) (rest := [(.ref a)]) (lenOf pd_CI rfl) rfl (Nat.le_of_eq rfl) (hb hby d9_61) (pc' := 64) rfl (by decide) (by decide) rfl ?_
  rintro T12 _ L12 X12 ⟨b2, rfl, N12, gc, E12, V12⟩
  show Go p e below _ (T12.setTop (mkF m 64 #[.val (.ref a), .val (.int i), .val (.ref al), .val (.int (Int32.ofNat n)), .unset] [(.ref b2), (.ref a)]))
  have O12 := O9.ext E12
  have nac2 : a ≠ b2 := Nat.ne_of_lt (Nat.lt_of_lt_of_le O9.lt gc)
  have nbc2 : b1 ≠ b2 := Nat.ne_of_lt (Nat.lt_of_lt_of_le V9.lt gc)
  refine g_putF X12 hx hZ (.array .int) (host := "") hown (Or.inl (hw _ (List.mem_of_getElem? (i := 13) rfl))) Via.refl rfl (O12.2 ("com/example/charted/charted/engine/TransitionTable", "countOf", "[I") (mem_i 1 rfl)) O12.1 (Or.inl (hw _ (List.mem_of_getElem? (i := 14) rfl))) (hw _ (List.mem_of_getElem? (i := 1) rfl)) (by decide) rfl rfl (hb hby d9_64) (pc' := 67) rfl ?_
  intro T13 h13 X13 e13 W13
  have O13 := O12.put (lds_T hw) un_T de_T (mem_i 1 rfl) W13
  have V13 := V12.other W13 (Ne.symm nac2)
  have F13 := (V9.ext E12).other W13 (Ne.symm nab)
  have P13 := (P9.ext E12).other W13 nla
  have K13 := (K9.trans (Kp.ext E12)).trans (Kp.wr W13 t11)
  have N13 := Fr.snoc X13 (N9a.app N12) t11
  exact join T13 h13 _ M (.val (.int (Int32.ofNat n))) (Or.inr ⟨_, rfl⟩) (X13.more (by decide) (by decide)) e13 N13 K13 (Nat.le_trans Z0 K13.1) ⟨b1, b2, _, _, O13, rfl, rfl, t4, F13.congr (fun j hj => own_F1 F n M j hj), V13, own_AI fc n t7, nbc2, nab, nac2, t11, gb2, Nat.le_trans Z9 gc⟩ P13 (by omega) hM1.2.1 hM1.2.2.2.1 hM1.2.2.2.2 hM1.2.2.1
theorem pn_0 : plainFor x = true := plainFor_of_name (show plainName "com/example/charted/charted/engine/TransitionTableHasPinLaw" = true by first | (simp [plainName, overriddenIn]; done) | decide +kernel)
theorem ef_0 (m : MethodId) (x0 : Int32) (x1 : Int32) (x2 : Int32) (x3 : Int32) : entryFrame m #[(.int x0), (.int x1), (.int x2), (.int x3)] maxLocals = mkF m 0 #[.val (.int x0), .val (.int x1), .val (.int x2), .val (.int x3), .unset, .unset, .unset, .unset, .unset, .unset, .unset, .unset] [] := by first | (simp [entryFrame, mkF, argsToLocals, Value.category, maxLocals]; done) | rfl
def Q0 (n0 : Nat) (v : Option Value) (h : Heap) (L : List Loc) : Prop := v = some (.int 1) ∧ Fr n0 L
set_option maxRecDepth 65536 in
set_option maxHeartbeats 40000000 in
theorem rm0 (l : Launch) (Z : State) (a0 : Array Value) (hw : ∀ d ∈ tables_1, d.before a0 Z = true) (p1 p2 p3 p4 : Int32) (ad : Addr) (h0 : Heap) (n0 : Nat) (Z0 : n0 = h0.size) (SD : Sta Z h0 "java/util/ArrayList" "DEFAULTCAPACITY_EMPTY_ELEMENTDATA" "[Ljava/lang/Object;" (.ref ad)) :
    Ct l Z x code maxLocals ret room_1 #[(.int p1), (.int p2), (.int p3), (.int p4)] h0 (Q0 n0) := by
  refine Ct.of pn_0 (fun m => ef_0 m p1 p2 p3 p4) ?_
  intro p e s m below meth c T X0 hx hby hml hret hlk hZ hown hnm e0
  obtain ⟨va, gva⟩ : ∃ z : Int32, p1 &&& 1023 = z := ⟨_, rfl⟩
  have ra := own_and p1 1023 (by decide); rw [gva] at ra
  obtain ⟨aN, haN⟩ : ∃ n : Nat, va.toInt = n := ⟨va.toInt.toNat, by omega⟩
  obtain ⟨vb, gvb⟩ : ∃ z : Int32, p2 &&& 1023 = z := ⟨_, rfl⟩
  have rb := own_and p2 1023 (by decide); rw [gvb] at rb
  obtain ⟨bN, hbN⟩ : ∃ n : Nat, vb.toInt = n := ⟨vb.toInt.toNat, by omega⟩
  have k1023 : (1023 : Int32).toInt = 1023 := rfl
  refine g_iloadN X0 hx (hb hby at_0) (pc' := 1) rfl rfl ?_
  refine g_sipush X0 hx (hb hby at_1) (pc' := 4) rfl (z := 1023) (by decide) ?_
  refine g_iand X0 hx (hb hby at_4) (pc' := 5) rfl (z := va) gva ?_
  refine g_istore X0 hx (hb hby at_5) (pc' := 7) rfl (Ls' := #[.val (.int p1), .val (.int p2), .val (.int p3), .val (.int p4), .val (.int va), .unset, .unset, .unset, .unset, .unset, .unset, .unset]) rfl ?_
  refine g_iloadN X0 hx (hb hby at_7) (pc' := 8) rfl rfl ?_
  refine g_sipush X0 hx (hb hby at_8) (pc' := 11) rfl (z := 1023) (by decide) ?_
  refine g_iand X0 hx (hb hby at_11) (pc' := 12) rfl (z := vb) gvb ?_
  refine g_istore X0 hx (hb hby at_12) (pc' := 14) rfl (Ls' := #[.val (.int p1), .val (.int p2), .val (.int p3), .val (.int p4), .val (.int va), .val (.int vb), .unset, .unset, .unset, .unset, .unset, .unset]) rfl ?_
  refine g_iloadN X0 hx (hb hby at_14) (pc' := 15) rfl rfl ?_
  refine g_iconst X0 hx (hb hby at_15) (pc' := 16) rfl (z := 1) (by decide) ?_
  refine g_iand X0 hx (hb hby at_16) (pc' := 17) rfl rfl ?_
  suffices j_25 : ∀ fa : Int32, Go p e below (Dn s below (Q0 n0) 40 12608) (T.setTop (mkF m 25 #[.val (.int p1), .val (.int p2), .val (.int p3), .val (.int p4), .val (.int va), .val (.int vb), .unset, .unset, .unset, .unset, .unset, .unset] [(.int fa)])) by
    refine g_if_eq X0 hx (hb hby at_17) (by decide) (pc' := 24) rfl (pcF := 20) rfl (fun hc => ?_) (fun hc => ?_)
    ·
      refine g_iconst X0 hx (hb hby at_24) (pc' := 25) rfl (z := 0) (by decide) ?_
      exact j_25 _
    ·
      refine g_iconst X0 hx (hb hby at_20) (pc' := 21) rfl (z := 1) (by decide) ?_
      refine g_goto X0 hx (hb hby at_21) (by decide) (pc' := 25) rfl ?_
      exact j_25 _
  intro fa
  refine g_istore X0 hx (hb hby at_25) (pc' := 27) rfl (Ls' := #[.val (.int p1), .val (.int p2), .val (.int p3), .val (.int p4), .val (.int va), .val (.int vb), .val (.int fa), .unset, .unset, .unset, .unset, .unset]) rfl ?_
  refine g_iloadN X0 hx (hb hby at_27) (pc' := 28) rfl rfl ?_
  refine g_iconst X0 hx (hb hby at_28) (pc' := 29) rfl (z := 2) (by decide) ?_
  refine g_iand X0 hx (hb hby at_29) (pc' := 30) rfl rfl ?_
  suffices j_45 : ∀ fb : Int32, Go p e below (Dn s below (Q0 n0) 40 12608) (T.setTop (mkF m 45 #[.val (.int p1), .val (.int p2), .val (.int p3), .val (.int p4), .val (.int va), .val (.int vb), .val (.int fa), .unset, .unset, .unset, .unset, .unset] [(.int fb)])) by
    refine g_if_eq X0 hx (hb hby at_30) (by decide) (pc' := 44) rfl (pcF := 33) rfl (fun hc => ?_) (fun hc => ?_)
    ·
      refine g_iconst X0 hx (hb hby at_44) (pc' := 45) rfl (z := 0) (by decide) ?_
      exact j_45 _
    ·
      refine g_iload X0 hx (hb hby at_33) (pc' := 35) rfl rfl ?_
      refine g_iload X0 hx (hb hby at_35) (pc' := 37) rfl rfl ?_
      refine g_icmp_eq X0 hx (hb hby at_37) (by decide) (pc' := 44) rfl (pcF := 40) rfl (fun hd => ?_) (fun hd => ?_)
      ·
        refine g_iconst X0 hx (hb hby at_44) (pc' := 45) rfl (z := 0) (by decide) ?_
        exact j_45 _
      ·
        refine g_iconst X0 hx (hb hby at_40) (pc' := 41) rfl (z := 1) (by decide) ?_
        refine g_goto X0 hx (hb hby at_41) (by decide) (pc' := 45) rfl ?_
        exact j_45 _
  intro fb
  refine g_istore X0 hx (hb hby at_45) (pc' := 47) rfl (Ls' := #[.val (.int p1), .val (.int p2), .val (.int p3), .val (.int p4), .val (.int va), .val (.int vb), .val (.int fa), .val (.int fb), .unset, .unset, .unset, .unset]) rfl ?_
  refine g_iloadN X0 hx (hb hby at_47) (pc' := 48) rfl rfl ?_
  refine g_iconst X0 hx (hb hby at_48) (pc' := 49) rfl (z := 2) (by decide) ?_
  refine g_iushr X0 hx (hb hby at_49) (pc' := 50) rfl rfl ?_
  refine g_iconst X0 hx (hb hby at_50) (pc' := 51) rfl (z := 3) (by decide) ?_
  refine g_iand X0 hx (hb hby at_51) (pc' := 52) rfl rfl ?_
  refine g_istore X0 hx (hb hby at_52) (pc' := 54) rfl (Ls' := #[.val (.int p1), .val (.int p2), .val (.int p3), .val (.int p4), .val (.int va), .val (.int vb), .val (.int fa), .val (.int fb), .val (.int ((XT.ushr p4 (2 : Int32)) &&& (3 : Int32))), .unset, .unset, .unset]) rfl ?_
  refine g_iload X0 hx (hb hby at_54) (pc' := 56) rfl rfl ?_
  obtain ⟨md, gmd⟩ : ∃ z : Int32, z = ((XT.ushr p4 (2 : Int32)) &&& (3 : Int32)) := ⟨_, rfl⟩
  rw [← gmd]
  suffices j_103 : ∀ vq : Int32, 0 ≤ vq.toInt → Go p e below (Dn s below (Q0 n0) 40 12608) (T.setTop (mkF m 103 #[.val (.int p1), .val (.int p2), .val (.int p3), .val (.int p4), .val (.int va), .val (.int vb), .val (.int fa), .val (.int fb), .val (.int md), .val (.int vq), .unset, .unset] [])) by
    refine g_if_ne X0 hx (hb hby at_56) (by decide) (pc' := 66) rfl (pcF := 59) rfl (fun m0 => ?_) (fun m0 => ?_)
    ·
      refine g_iload X0 hx (hb hby at_66) (pc' := 68) rfl rfl ?_
      refine g_iconst X0 hx (hb hby at_68) (pc' := 69) rfl (z := 1) (by decide) ?_
      refine g_icmp_ne X0 hx (hb hby at_69) (by decide) (pc' := 79) rfl (pcF := 72) rfl (fun m1 => ?_) (fun m1 => ?_)
      ·
        refine g_iload X0 hx (hb hby at_79) (pc' := 81) rfl rfl ?_
        refine g_iconst X0 hx (hb hby at_81) (pc' := 82) rfl (z := 2) (by decide) ?_
        refine g_icmp_ne X0 hx (hb hby at_82) (by decide) (pc' := 94) rfl (pcF := 85) rfl (fun m2 => ?_) (fun m2 => ?_)
        ·
          refine g_iload X0 hx (hb hby at_94) (pc' := 96) rfl rfl ?_
          refine g_iloadN X0 hx (hb hby at_96) (pc' := 97) rfl rfl ?_
          refine g_bipush X0 hx (hb hby at_97) (pc' := 99) rfl (z := 127) (by decide) ?_
          refine g_iand X0 hx (hb hby at_99) (pc' := 100) rfl rfl ?_
          refine g_ixor X0 hx (hb hby at_100) (pc' := 101) rfl rfl ?_
          refine g_istore X0 hx (hb hby at_101) (pc' := 103) rfl (Ls' := #[.val (.int p1), .val (.int p2), .val (.int p3), .val (.int p4), .val (.int va), .val (.int vb), .val (.int fa), .val (.int fb), .val (.int md), .val (.int (va ^^^ (p3 &&& (127 : Int32)))), .unset, .unset]) rfl ?_
          exact j_103 (va ^^^ (p3 &&& 127)) (own_xor (by omega) (own_and p3 127 (by decide)).1)
        ·
          refine g_iloadN X0 hx (hb hby at_85) (pc' := 86) rfl rfl ?_
          refine g_ldcI X0 hx hZ hown (hw _ (List.mem_of_getElem? (i := 135) rfl)) (hb hby at_86) (pc' := 88) rfl ?_
          refine g_iand X0 hx (hb hby at_88) (pc' := 89) rfl rfl ?_
          refine g_istore X0 hx (hb hby at_89) (pc' := 91) rfl (Ls' := #[.val (.int p1), .val (.int p2), .val (.int p3), .val (.int p4), .val (.int va), .val (.int vb), .val (.int fa), .val (.int fb), .val (.int md), .val (.int (p3 &&& (2147483647 : Int32))), .unset, .unset]) rfl ?_
          refine g_goto X0 hx (hb hby at_91) (by decide) (pc' := 103) rfl ?_
          exact j_103 (p3 &&& 2147483647) (own_mask p3)
      ·
        refine g_iload X0 hx (hb hby at_72) (pc' := 74) rfl rfl ?_
        refine g_istore X0 hx (hb hby at_74) (pc' := 76) rfl (Ls' := #[.val (.int p1), .val (.int p2), .val (.int p3), .val (.int p4), .val (.int va), .val (.int vb), .val (.int fa), .val (.int fb), .val (.int md), .val (.int vb), .unset, .unset]) rfl ?_
        refine g_goto X0 hx (hb hby at_76) (by decide) (pc' := 103) rfl ?_
        exact j_103 vb (by omega)
    ·
      refine g_iload X0 hx (hb hby at_59) (pc' := 61) rfl rfl ?_
      refine g_istore X0 hx (hb hby at_61) (pc' := 63) rfl (Ls' := #[.val (.int p1), .val (.int p2), .val (.int p3), .val (.int p4), .val (.int va), .val (.int vb), .val (.int fa), .val (.int fb), .val (.int md), .val (.int va), .unset, .unset]) rfl ?_
      refine g_goto X0 hx (hb hby at_63) (by decide) (pc' := 103) rfl ?_
      exact j_103 va (by omega)
  intro vq hvq
  obtain ⟨qN, hqN⟩ : ∃ n : Nat, vq.toInt = n := ⟨vq.toInt.toNat, by omega⟩
  refine g_new X0 hx hZ hown (hw _ (List.mem_of_getElem? (i := 0) rfl)) (hw _ (List.mem_of_getElem? (i := 1) rfl)) (hw _ (List.mem_of_getElem? (i := 2) rfl)) e0 (hb hby at_103) (pc' := 106) rfl (by decide) (by decide) ?_
  intro T1 h1 a g1 X1 e1 E1 A1 D1
  have ga0 : n0 ≤ a := Nat.le_of_eq (Z0.trans g1.symm)
  have K1 : Kp n0 h0 h1 := Kp.ext E1
  have O1 : Ob Z h1 a "com/example/charted/charted/engine/TransitionTable" fs_T gT := Ob.new (lds_T hw) A1 D1 (by decide +kernel)
  refine g_dup X1 hx (hb hby at_106) (pc' := 107) rfl rfl ?_
  have SD' : ∀ hx, Kp n0 h0 hx → Sta Z hx "java/util/ArrayList" "DEFAULTCAPACITY_EMPTY_ELEMENTDATA" "[Ljava/lang/Object;" (.ref ad) := fun hx Kx => SD.ext (Kp.toExt (Z0 ▸ Kx))
  refine g_callI X1 hx hZ 1 (a := a) hown rfl (hw _ (List.mem_of_getElem? (i := 3) rfl)) (hw _ (List.mem_of_getElem? (i := 4) rfl)) (hw _ (List.mem_of_getElem? (i := 2) rfl)) (hw _ (List.mem_of_getElem? (i := 5) rfl)) (by decide) e1 (rmT l Z a0 hw a ad h1 n0 (Nat.le_trans (Nat.le_of_eq Z0) K1.1) O1 ga0 (fun h' K' => SD' h' (K1.trans (Kp.keep K' (allS ga0 all0))))) (by decide) (by decide) (by rw [hml]; rfl) (argsL := []) (rest := [(.ref a)]) (lenOf pd_T rfl) rfl (Nat.le_of_eq rfl) (hb hby at_107) (pc' := 110) rfl (by decide) (by decide) rfl ?_
  rintro T2 _ L2 X2 ⟨rfl, N2, K2', t2⟩
  show Go p e below _ (T2.setTop (mkF m 110 #[.val (.int p1), .val (.int p2), .val (.int p3), .val (.int p4), .val (.int va), .val (.int vb), .val (.int fa), .val (.int fb), .val (.int md), .val (.int vq), .unset, .unset] [(.ref a)]))
  have K2 := K1.trans (Kp.keep K2' (allS ga0 all0))
  refine g_astore X2 hx (hb hby at_110) (pc' := 112) rfl rfl (Ls' := #[.val (.int p1), .val (.int p2), .val (.int p3), .val (.int p4), .val (.int va), .val (.int vb), .val (.int fa), .val (.int fb), .val (.int md), .val (.int vq), .val (.ref a), .unset]) rfl ?_
  refine g_iload X2 hx (hb hby at_112) (pc' := 114) rfl rfl ?_
  suffices j_131 : ∀ (Tj : State) (hj : Heap) (lcj : List Loc) (n : Nat) (F : Nat → Int64), Stand p l e room_1 s m #[(.int p1), (.int p2), (.int p3), (.int p4)] below meth c Tj lcj 12 4250 → Tj.heap = hj → Fr n0 lcj → Kp n0 h0 hj → 64 ≤ n → n ≤ 1024 → TT Z hj n0 a n F → (∀ q, (q < n ∧ ¬ F q < 0) ↔ (fa ≠ 0 ∧ q = aN)) → Go p e below (Dn s below (Q0 n0) 40 12608) (Tj.setTop (mkF m 131 #[.val (.int p1), .val (.int p2), .val (.int p3), .val (.int p4), .val (.int va), .val (.int vb), .val (.int fa), .val (.int fb), .val (.int md), .val (.int vq), .val (.ref a), .unset] [])) by
    refine g_if_eq X2 hx (hb hby at_114) (by decide) (pc' := 131) rfl (pcF := 117) rfl (fun hc => ?_) (fun hc => ?_)
    · exact j_131 T2 _ _ 64 (fun _ => -1) (X2.more (by decide) (by decide)) rfl ((Fr.nil n0).app N2) K2 (by omega) (by omega) t2 (own_fact0 hc)
    ·
      refine g_aload X2 hx (hb hby at_117) (pc' := 119) rfl rfl rfl ?_
      refine g_iload X2 hx (hb hby at_119) (pc' := 121) rfl rfl ?_
      refine g_new X2 hx hZ hown (hw _ (List.mem_of_getElem? (i := 74) rfl)) (hw _ (List.mem_of_getElem? (i := 26) rfl)) (hw _ (List.mem_of_getElem? (i := 27) rfl)) rfl (hb hby at_121) (pc' := 124) rfl (by decide) (by decide) ?_
      intro Tn1 hn1 al1 gn1 Xn1 en1 En1 An1 Dn1
      have On : Ob Z hn1 al1 "java/util/ArrayList" fs_A gA := Ob.new (lds_A hw) An1 Dn1 (by decide +kernel)
      have gl0 : n0 ≤ al1 := Nat.le_trans (Nat.le_trans (Nat.le_of_eq Z0) K2.1) (Nat.le_of_eq gn1.symm)
      have Kn := K2.trans (Kp.ext En1)
      refine g_dup Xn1 hx (hb hby at_124) (pc' := 125) rfl rfl ?_
      refine g_callI Xn1 hx hZ 3 (a := al1) hown rfl (hw _ (List.mem_of_getElem? (i := 75) rfl)) (hw _ (List.mem_of_getElem? (i := 29) rfl)) (hw _ (List.mem_of_getElem? (i := 27) rfl)) (hw _ (List.mem_of_getElem? (i := 30) rfl)) (by decide) en1 (rmA l Z a0 hw al1 ad gA hn1 n0 On gl0 (fun h' K' => SD' h' (Kn.trans (Kp.keep K' (allS gl0 all0))))) (by decide) (by decide) (by rw [hml]; rfl) (argsL := []) (rest := [(.ref al1), (.int va), (.ref a)]) (lenOf pd_A rfl) rfl (Nat.le_of_eq rfl) (hb hby at_125) (pc' := 128) rfl (by decide) (by decide) rfl ?_
      rintro Ti _ Li Xi ⟨rfl, Ni, Ki', Oi⟩
      show Go p e below _ (Ti.setTop (mkF m 128 #[.val (.int p1), .val (.int p2), .val (.int p3), .val (.int p4), .val (.int va), .val (.int vb), .val (.int fa), .val (.int fb), .val (.int md), .val (.int vq), .val (.ref a), .unset] [(.ref al1), (.int va), (.ref a)]))
      have Ki := Kn.trans (Kp.keep Ki' (allS gl0 all0))
      have ti := own_TT t2 En1 gn1 Ki'
      refine g_callV Xi hx hZ 0 (a := a) hown (hw _ (List.mem_of_getElem? (i := 76) rfl)) (hw _ (List.mem_of_getElem? (i := 77) rfl)) (hw _ (List.mem_of_getElem? (i := 79) rfl)) (hw _ (List.mem_of_getElem? (i := 78) rfl)) (hw _ (List.mem_of_getElem? (i := 80) rfl)) (hw _ (List.mem_of_getElem? (i := 2) rfl)) (by decide) rfl (own_TTe ti) (rmP l Z a0 hw a al1 va aN 64 (fun _ => -1) _ _ n0 (Nat.le_trans (Nat.le_of_eq Z0) Ki.1) ti Oi rfl rfl haN (by omega) (by omega) (by omega)) (by decide) (by decide) (by rw [hml]; rfl) (argsL := [(.int va), (.ref al1)]) (rest := []) (lenOf pd_P rfl) rfl (Nat.le_of_eq rfl) (hb hby at_128) (pc' := 131) rfl (by decide) (by decide) rfl ?_
      rintro Tp _ Lp Xp ⟨rfl, Np, Kp', np, r1, r2, r2', r3, tp⟩
      show Go p e below _ (Tp.setTop (mkF m 131 #[.val (.int p1), .val (.int p2), .val (.int p3), .val (.int p4), .val (.int va), .val (.int vb), .val (.int fa), .val (.int fb), .val (.int md), .val (.int vq), .val (.ref a), .unset] []))
      exact j_131 Tp _ _ np (F2 (fun _ => -1) 64 aN) (Xp.more (by decide) (by decide)) rfl ((((Fr.nil n0).app N2).app Ni).app Np) (Ki.trans Kp') (by omega) (by omega) tp (own_fact1 hc r3)
  intro T3 h3 lc3 n F X3 e3 N3 K3 ln1 ln2 t3 fact
  refine g_iload X3 hx (hb hby at_131) (pc' := 133) rfl rfl ?_
  rw [← e3] at t3 K3
  suffices j_150 : ∀ (Tj : State) (hj : Heap) (lcj : List Loc) (n : Nat) (F : Nat → Int64), Stand p l e room_1 s m #[(.int p1), (.int p2), (.int p3), (.int p4)] below meth c Tj lcj 16 8353 → Tj.heap = hj → Fr n0 lcj → Kp n0 h0 hj → 64 ≤ n → n ≤ 2048 → TT Z hj n0 a n F → (∀ q, (q < n ∧ ¬ F q < 0) ↔ ((fa ≠ 0 ∧ q = aN) ∨ (fb ≠ 0 ∧ q = bN))) → Go p e below (Dn s below (Q0 n0) 40 12608) (Tj.setTop (mkF m 150 #[.val (.int p1), .val (.int p2), .val (.int p3), .val (.int p4), .val (.int va), .val (.int vb), .val (.int fa), .val (.int fb), .val (.int md), .val (.int vq), .val (.ref a), .unset] [])) by
    refine g_if_eq X3 hx (hb hby at_133) (by decide) (pc' := 150) rfl (pcF := 136) rfl (fun hc => ?_) (fun hc => ?_)
    · exact j_150 T3 _ _ n F (X3.more (by decide) (by decide)) rfl N3 K3 ln1 (by omega) t3 (own_fact2 hc fact)
    ·
      refine g_aload X3 hx (hb hby at_136) (pc' := 138) rfl rfl rfl ?_
      refine g_iload X3 hx (hb hby at_138) (pc' := 140) rfl rfl ?_
      refine g_new X3 hx hZ hown (hw _ (List.mem_of_getElem? (i := 74) rfl)) (hw _ (List.mem_of_getElem? (i := 26) rfl)) (hw _ (List.mem_of_getElem? (i := 27) rfl)) rfl (hb hby at_140) (pc' := 143) rfl (by decide) (by decide) ?_
      intro Tn2 hn2 al2 gn2 Xn2 en2 En2 An2 Dn2
      have On : Ob Z hn2 al2 "java/util/ArrayList" fs_A gA := Ob.new (lds_A hw) An2 Dn2 (by decide +kernel)
      have gl0 : n0 ≤ al2 := Nat.le_trans (Nat.le_trans (Nat.le_of_eq Z0) K3.1) (Nat.le_of_eq gn2.symm)
      have Kn := K3.trans (Kp.ext En2)
      refine g_dup Xn2 hx (hb hby at_143) (pc' := 144) rfl rfl ?_
      refine g_callI Xn2 hx hZ 3 (a := al2) hown rfl (hw _ (List.mem_of_getElem? (i := 75) rfl)) (hw _ (List.mem_of_getElem? (i := 29) rfl)) (hw _ (List.mem_of_getElem? (i := 27) rfl)) (hw _ (List.mem_of_getElem? (i := 30) rfl)) (by decide) en2 (rmA l Z a0 hw al2 ad gA hn2 n0 On gl0 (fun h' K' => SD' h' (Kn.trans (Kp.keep K' (allS gl0 all0))))) (by decide) (by decide) (by rw [hml]; rfl) (argsL := []) (rest := [(.ref al2), (.int vb), (.ref a)]) (lenOf pd_A rfl) rfl (Nat.le_of_eq rfl) (hb hby at_144) (pc' := 147) rfl (by decide) (by decide) rfl ?_
      rintro Ti _ Li Xi ⟨rfl, Ni, Ki', Oi⟩
      show Go p e below _ (Ti.setTop (mkF m 147 #[.val (.int p1), .val (.int p2), .val (.int p3), .val (.int p4), .val (.int va), .val (.int vb), .val (.int fa), .val (.int fb), .val (.int md), .val (.int vq), .val (.ref a), .unset] [(.ref al2), (.int vb), (.ref a)]))
      have Ki := Kn.trans (Kp.keep Ki' (allS gl0 all0))
      have ti := own_TT t3 En2 gn2 Ki'
      refine g_callV Xi hx hZ 0 (a := a) hown (hw _ (List.mem_of_getElem? (i := 76) rfl)) (hw _ (List.mem_of_getElem? (i := 77) rfl)) (hw _ (List.mem_of_getElem? (i := 79) rfl)) (hw _ (List.mem_of_getElem? (i := 78) rfl)) (hw _ (List.mem_of_getElem? (i := 80) rfl)) (hw _ (List.mem_of_getElem? (i := 2) rfl)) (by decide) rfl (own_TTe ti) (rmP l Z a0 hw a al2 vb bN n F _ _ n0 (Nat.le_trans (Nat.le_of_eq Z0) Ki.1) ti Oi rfl rfl hbN (by omega) (by omega) (by omega)) (by decide) (by decide) (by rw [hml]; rfl) (argsL := [(.int vb), (.ref al2)]) (rest := []) (lenOf pd_P rfl) rfl (Nat.le_of_eq rfl) (hb hby at_147) (pc' := 150) rfl (by decide) (by decide) rfl ?_
      rintro Tp _ Lp Xp ⟨rfl, Np, Kp', np, r1, r2, r2', r3, tp⟩
      show Go p e below _ (Tp.setTop (mkF m 150 #[.val (.int p1), .val (.int p2), .val (.int p3), .val (.int p4), .val (.int va), .val (.int vb), .val (.int fa), .val (.int fb), .val (.int md), .val (.int vq), .val (.ref a), .unset] []))
      exact j_150 Tp _ _ np (F2 F n bN) (Xp.more (by decide) (by decide)) rfl ((N3.app Ni).app Np) (Ki.trans Kp') (by omega) (by omega) tp (own_fact3 hc r1 r3 fact)
  intro T4 h4 lc4 n' F' X4 e4 N4 K4 ln3 ln4 t4 fact2
  refine g_iload X4 hx (hb hby at_150) (pc' := 152) rfl rfl ?_
  suffices j_179 : ∀ vx : Int32, ((vx = 1 ∧ ((fa ≠ 0 ∧ qN = aN) ∨ (fb ≠ 0 ∧ qN = bN))) ∨ (vx = 0 ∧ ¬ ((fa ≠ 0 ∧ qN = aN) ∨ (fb ≠ 0 ∧ qN = bN)))) → Go p e below (Dn s below (Q0 n0) 40 12608) (T4.setTop (mkF m 179 #[.val (.int p1), .val (.int p2), .val (.int p3), .val (.int p4), .val (.int va), .val (.int vb), .val (.int fa), .val (.int fb), .val (.int md), .val (.int vq), .val (.ref a), .unset] [(.int vx)])) by
    have second : ¬ (fa ≠ 0 ∧ qN = aN) → Go p e below (Dn s below (Q0 n0) 40 12608) (T4.setTop (mkF m 162 #[.val (.int p1), .val (.int p2), .val (.int p3), .val (.int p4), .val (.int va), .val (.int vb), .val (.int fa), .val (.int fb), .val (.int md), .val (.int vq), .val (.ref a), .unset] [])) := by
      intro no
      refine g_iload X4 hx (hb hby at_162) (pc' := 164) rfl rfl ?_
      refine g_if_eq X4 hx (hb hby at_164) (by decide) (pc' := 178) rfl (pcF := 167) rfl (fun hB0 => ?_) (fun hB0 => ?_)
      ·
        refine g_iconst X4 hx (hb hby at_178) (pc' := 179) rfl (z := 0) (by decide) ?_
        exact j_179 0 (Or.inr ⟨rfl, fun z => z.elim no (fun z => z.1 hB0)⟩)
      ·
        refine g_iload X4 hx (hb hby at_167) (pc' := 169) rfl rfl ?_
        refine g_iload X4 hx (hb hby at_169) (pc' := 171) rfl rfl ?_
        refine g_icmp_ne X4 hx (hb hby at_171) (by decide) (pc' := 178) rfl (pcF := 174) rfl (fun hB2 => ?_) (fun hB2 => ?_)
        ·
          refine g_iconst X4 hx (hb hby at_178) (pc' := 179) rfl (z := 0) (by decide) ?_
          exact j_179 0 (Or.inr ⟨rfl, fun z => z.elim no (fun z => hB2 (own_inj hqN hbN z.2))⟩)
        ·
          refine g_iconst X4 hx (hb hby at_174) (pc' := 175) rfl (z := 1) (by decide) ?_
          refine g_goto X4 hx (hb hby at_175) (by decide) (pc' := 179) rfl ?_
          exact j_179 1 (Or.inl ⟨rfl, Or.inr ⟨hB0, own_injN hqN hbN hB2⟩⟩)
    refine g_if_eq X4 hx (hb hby at_152) (by decide) (pc' := 162) rfl (pcF := 155) rfl (fun ha => ?_) (fun ha => ?_)
    · exact second (fun z => z.1 ha)
    ·
      refine g_iload X4 hx (hb hby at_155) (pc' := 157) rfl rfl ?_
      refine g_iload X4 hx (hb hby at_157) (pc' := 159) rfl rfl ?_
      refine g_icmp_eq X4 hx (hb hby at_159) (by decide) (pc' := 174) rfl (pcF := 162) rfl (fun ha2 => ?_) (fun ha2 => ?_)
      ·
        refine g_iconst X4 hx (hb hby at_174) (pc' := 175) rfl (z := 1) (by decide) ?_
        refine g_goto X4 hx (hb hby at_175) (by decide) (pc' := 179) rfl ?_
        exact j_179 1 (Or.inl ⟨rfl, Or.inl ⟨ha, own_injN hqN haN ha2⟩⟩)
      · exact second (fun z => ha2 (own_inj hqN haN z.2))
  intro vx qx
  refine g_istore X4 hx (hb hby at_179) (pc' := 181) rfl (Ls' := #[.val (.int p1), .val (.int p2), .val (.int p3), .val (.int p4), .val (.int va), .val (.int vb), .val (.int fa), .val (.int fb), .val (.int md), .val (.int vq), .val (.ref a), .val (.int vx)]) rfl ?_
  refine g_aload X4 hx (hb hby at_181) (pc' := 183) rfl rfl rfl ?_
  refine g_iload X4 hx (hb hby at_183) (pc' := 185) rfl rfl ?_
  refine g_callV X4 hx hZ 0 (a := a) hown (hw _ (List.mem_of_getElem? (i := 130) rfl)) (hw _ (List.mem_of_getElem? (i := 131) rfl)) (hw _ (List.mem_of_getElem? (i := 133) rfl)) (hw _ (List.mem_of_getElem? (i := 132) rfl)) (hw _ (List.mem_of_getElem? (i := 134) rfl)) (hw _ (List.mem_of_getElem? (i := 2) rfl)) (by decide) e4 (own_TTe t4) (rmH l Z a0 hw a vq qN n' F' h4 n0 t4 hqN (by omega)) (by decide) (by decide) (by rw [hml]; rfl) (argsL := [(.int vq)]) (rest := []) (lenOf pd_H rfl) rfl (Nat.le_of_eq rfl) (hb hby at_185) (pc' := 188) rfl (by decide) (by decide) rfl ?_
  rintro Tz _ Lz Xz ⟨Nz, ez, z, rfl, cz⟩
  show Go p e below _ (Tz.setTop (mkF m 188 #[.val (.int p1), .val (.int p2), .val (.int p3), .val (.int p4), .val (.int va), .val (.int vb), .val (.int fa), .val (.int fb), .val (.int md), .val (.int vq), .val (.ref a), .val (.int vx)] [(.int z)]))
  have dz : z = vx := by
    rw [fact2 qN] at cz
    rcases cz with ⟨rfl, q⟩ | ⟨rfl, q⟩ <;> rcases qx with ⟨rfl, r⟩ | ⟨rfl, r⟩ <;> first | rfl | exact absurd q r | exact absurd r q
  refine g_iload Xz hx (hb hby at_188) (pc' := 190) rfl rfl ?_
  refine g_icmp_ne Xz hx (hb hby at_190) (by decide) (pc' := 197) rfl (pcF := 193) rfl (fun hq => ?_) (fun hq => ?_)
  · exact absurd dz hq
  refine g_iconst Xz hx (hb hby at_193) (pc' := 194) rfl (z := 1) (by decide) ?_
  refine g_goto Xz hx (hb hby at_194) (by decide) (pc' := 198) rfl ?_
  exact g_retZ Xz hx hret hlk (by decide) (hb hby at_198) (by decide) (by decide) ⟨rfl, N4.app Nz⟩
set_option maxRecDepth 65536 in
set_option maxHeartbeats 40000000 in
theorem comes_1 {Post : Tables → Env → Array Value → State → Outcome → State → Prop} (hpost : ∀ tb e args s v u, (limb_1_1.after args s (.returned v) u = true ∧ limb_1_2.after args s (.returned v) u = true ∧ True) → FrameEnd s (.returned v) u (Jvm.fieldLocs frame_1_writes args s ++ Jvm.arrayLocs frame_1_arrays args s ++ Jvm.staticLocs frame_1_statics s) 40 12608 → Post tb e args s (.returned v) u) :
    ArmFor flags0 classFile x code maxLocals ret World_1 tables_1 room_1 Calls_1 rest_1 Pre_1 Post := by
  intro l hfl _ _ p e ha hc hk s m args below hf hA hF happ hP
  obtain ⟨hcalls, hrest, hpre⟩ := hP
  obtain ⟨-, -, -, hnamed, -, -, -, hat⟩ := (Spec.applies_iff hf).mp happ
  obtain ⟨hg, hn⟩ := and_e (Cond.before_iff.mp (show (Jvm.Cond.and given_1 narrow_1).before args s = true from hpre))
  obtain ⟨hcount, k0⟩ := and_e hg
  obtain ⟨j0, k1⟩ := and_e k0
  obtain ⟨j1, k2⟩ := and_e k1
  obtain ⟨j2, k3⟩ := and_e k2
  have j3 := k3
  obtain ⟨w0, w1, w2, w3, rfl⟩ : ∃ w0 w1 w2 w3 : Value, args = #[w0, w1, w2, w3] := by
    have hs : args.size = 4 := by simpa [Cond.value, given_1] using hcount
    obtain ⟨L⟩ := args
    match L, hs with
    | [w0, w1, w2, w3], _ => exact ⟨w0, w1, w2, w3, rfl⟩
  have hw := fun d (hd : d ∈ tables_1) => atoms_spec (ws := Jvm.Cond.code x code maxLocals ret :: tables_1) hat d (List.mem_cons_of_mem _ hd)
  obtain ⟨i0, e0⟩ := is_v j0
  obtain rfl : w0 = (.int i0) := Option.some.inj e0
  obtain ⟨i1, e1⟩ := is_v j1
  obtain rfl : w1 = (.int i1) := Option.some.inj e1
  obtain ⟨i2, e2⟩ := is_v j2
  obtain rfl : w2 = (.int i2) := Option.some.inj e2
  obtain ⟨i3, e3⟩ := is_v j3
  obtain rfl : w3 = (.int i3) := Option.some.inj e3
  have hjs := atoms_of jdkStatics_1 (show (jdkStatics_1.foldr Cond.and restOwn_1).before _ s = true from hrest)
  obtain ⟨ad, _, _, _, evD, -⟩ := Cond.exactly_spec (hjs.1 _ (List.mem_of_getElem? (i := 7) rfl))
  have SD := Sta.start evD (Or.inr ⟨(hw _ (List.mem_of_getElem? (i := 27) rfl)), (hjs.1 _ (List.mem_of_getElem? (i := 2) rfl))⟩)
  obtain ⟨n, o, h1, h2, h3, _, L, rfl, ⟨rfl, N⟩, hq⟩ := rm0 l s _ hw i0 i1 i2 i3 ad s.heap s.heap.size rfl SD tables_1 p e ha hc hk s m _ below hf ((Spec.applies_iff_loose hf).mp happ).1 ⟨rfl, State.Warmed39.refl s, rfl⟩ trivial
  refine ⟨n, _, h1, h2, h3, hpost _ _ _ _ _ _ ⟨Cond.after_iff.mpr rfl, Cond.after_iff.mpr (eq_i res_at (Term.int_eval (1)) rfl), trivial⟩ ⟨hq.1, hq.2.1, (hq.2.2.sift fun y hy => Or.inr (N y hy)).mono (by decide) (by decide)⟩⟩
theorem main_1_1 : Claimed_1_1 := comes_1 fun _ _ _ _ _ _ h hF => ⟨h.1, hF⟩
theorem main_1_2 : Claimed_1_2 := comes_1 fun _ _ _ _ _ _ h hF => ⟨h.2.1, hF⟩
end Jvm.Pilot.@@N@@
namespace Jvm.Pilot.@@N@@
open Jvm Jvm.ClassFile Sem Op Lib Jvm.Free Jvm.Stand Jvm.Pilot.@@N@@.Jvm.D
/-! MADE BY PROGRAM (witnessworld.py) out of the Statement's table words and the real class files: 28 classes; the members and pool entries that the words name. The judged class is class 1, her method 1. -/
namespace start1
open Jvm.ClassFile
def u (s : String) : CpInfo := .utf8 (stringToUtf16 s)
/-- a pool by its gaps: so many unusable entries, then the entry; so many at the end -/
def gap : Nat → List CpInfo → List CpInfo
  | 0, r => r
  | n + 1, r => .unusable :: gap n r
def poolList (es : List (Nat × CpInfo)) (last : Nat) : List CpInfo := es.foldr (fun e r => gap e.1 (e.2 :: r)) (gap last [])
def pool (es : List (Nat × CpInfo)) (last : Nat) : Array CpInfo := ⟨poolList es last⟩
def fileOf (pool : Array CpInfo) (this : Nat) (attrs : Array Attribute := #[]) (ms : Array MethodInfo := #[]) (fl : Nat := 33) (sup : Nat := 0) (ifs : Array Nat := #[]) (fds : Array FieldInfo := #[]) : ClassFile where
  minorVersion := 0
  majorVersion := 65
  constantPool := pool
  accessFlags := fl
  thisClass := this
  superClass := sup
  interfaces := ifs
  fields := fds
  methods := ms
  attributes := attrs
def plain (name : String) (sup : Option ClassId) : Class where
  name := name
  kind := .ordinary
  loader := none
  accessFlags := 33
  super := sup
  interfaces := #[]
  cf := none
  fields := #[]
  methods := #[]
  instanceTypes := #[]
  staticTypes := #[]
  resolved := #[]
  callSites := []
  init := .initialized
  statics := none
  mirror := none

def pool0 : Array CpInfo := pool [(5, u "<init>"), (0, u "()V"), (1, .class_ 10), (1, u "java/lang/Object")] 113

def k0c0 : Code := { maxStack := 0, maxLocals := 1, code := object_method_1_code, exceptionTable := #[], attributes := #[] }
def k0m0 : Method := { name := "<init>", desc := "()V", sig := { parameters := [], returnType := none }, accessFlags := 1, code := some k0c0 }
/-- java/lang/Object -/
def k0 : Class := { plain "java/lang/Object" none with
  accessFlags := 33
  interfaces := #[]
  cf := some (fileOf pool0 8 #[] #[{ accessFlags := 1, nameIndex := 5, descriptorIndex := 6, attributes := #[] }] 33 0 #[] #[])
  fields := #[]
  methods := #[k0m0]
  instanceTypes := #[]
  staticTypes := #[]
  resolved := Array.replicate 124 none
  statics := none }

def pool1 : Array CpInfo := pool [(2, .class_ 4), (0, .nameAndType 5 6), (0, u "java/lang/Object"), (0, u "<init>"), (0, u "()V"), (0, .integer 2147483647), (0, .class_ 9), (0, u "com/example/charted/charted/engine/TransitionTable"), (0, .methodref 8 3), (0, .class_ 12), (0, u "java/util/ArrayList"), (0, .methodref 11 3), (0, .methodref 8 15), (0, .nameAndType 16 17), (0, u "put"), (0, u "(ILjava/util/Collection;)V"), (0, .methodref 8 19), (0, .nameAndType 20 21), (0, u "has"), (0, u "(I)Z"), (0, .class_ 23), (0, u "com/example/charted/charted/engine/TransitionTableHasPinLaw"), (2, u "law"), (0, u "(IIII)Z")] 3

def k1m0 : Method := { name := "<init>", desc := "()V", sig := { parameters := [], returnType := none }, accessFlags := 1, code := none }
def k1c1 : Code := { maxStack := 4, maxLocals := 12, code := code, exceptionTable := #[], attributes := #[] }
def k1m1 : Method := { name := "law", desc := "(IIII)Z", sig := { parameters := [.int, .int, .int, .int], returnType := some .boolean }, accessFlags := 9, code := some k1c1 }
/-- com/example/charted/charted/engine/TransitionTableHasPinLaw -/
def k1 : Class := { plain "com/example/charted/charted/engine/TransitionTableHasPinLaw" (some 0) with
  accessFlags := 49
  interfaces := #[]
  cf := some (fileOf pool1 22 #[] #[{ accessFlags := 1, nameIndex := 5, descriptorIndex := 6, attributes := #[] }, { accessFlags := 9, nameIndex := 26, descriptorIndex := 27, attributes := #[] }] 49 2 #[] #[])
  fields := #[]
  methods := #[k1m0, k1m1]
  instanceTypes := #[]
  staticTypes := #[]
  resolved := Array.replicate 31 none
  statics := none }

def pool2 : Array CpInfo := pool [(1, .class_ 2), (0, u "com/example/charted/charted/engine/TransitionTable"), (0, .methodref 4 5), (0, .class_ 6), (0, .nameAndType 7 8), (0, u "java/lang/Object"), (0, u "<init>"), (0, u "()V"), (0, .fieldref 1 10), (0, .nameAndType 11 12), (0, u "firstOf"), (0, u "[J"), (0, .fieldref 1 14), (0, .nameAndType 15 16), (0, u "countOf"), (0, u "[I"), (0, .class_ 16), (0, .fieldref 1 19), (0, .nameAndType 20 21), (0, u "targets"), (0, u "[[I"), (0, .class_ 23), (0, u "[B"), (0, .fieldref 1 25), (0, .nameAndType 26 27), (0, u "narrowLabels"), (0, u "[[B"), (0, .fieldref 1 29), (0, .nameAndType 30 21), (0, u "wideLabels"), (0, .class_ 32), (0, u "java/util/ArrayList"), (0, .methodref 31 5), (0, .fieldref 1 35), (0, .nameAndType 36 37), (0, u "labelLists"), (0, u "Ljava/util/List;"), (0, .class_ 39), (0, u "java/util/HashMap"), (0, .methodref 38 5), (0, .fieldref 1 42), (0, .nameAndType 43 44), (0, u "labelListNumbers"), (0, u "Ljava/util/Map;"), (0, .long 18446744073709551615), (1, .methodref 48 49), (0, .class_ 50), (0, .nameAndType 51 52), (0, u "java/util/Arrays"), (0, u "fill"), (0, u "([JJ)V"), (0, .methodref 54 55), (0, .class_ 56), (0, .nameAndType 57 58), (0, u "java/lang/Math"), (0, u "max"), (0, u "(II)I"), (0, .methodref 48 60), (0, .nameAndType 61 62), (0, u "copyOf"), (0, u "([JI)[J"), (0, .methodref 48 64), (0, .nameAndType 51 65), (0, u "([JIIJ)V"), (0, .methodref 48 67), (0, .nameAndType 61 68), (0, u "([II)[I"), (0, .fieldref 1 70), (0, .nameAndType 71 72), (0, u "size"), (0, u "J"), (0, .interfaceMethodref 74 75), (0, .class_ 76), (0, .nameAndType 71 77), (0, u "java/util/Collection"), (0, u "()I"), (0, .interfaceMethodref 74 79), (0, .nameAndType 80 81), (0, u "iterator"), (0, u "()Ljava/util/Iterator;"), (0, .interfaceMethodref 83 84), (0, .class_ 85), (0, .nameAndType 86 87), (0, u "java/util/Iterator"), (0, u "hasNext"), (0, u "()Z"), (21, .class_ 110), (0, u "com/example/charted/charted/engine/TransitionTable$Transitions"), (20, u "put"), (20, u "BLOCK_BITS"), (0, u "I"), (2, u "BLOCK_SIZE"), (1, u "NARROW_NUMBERS"), (6, u "has"), (0, u "(I)Z"), (1, u "(ILjava/util/Collection;)V")] 15

def k2c0 : Code := { maxStack := 3, maxLocals := 1, code := prog_26_method_1_code, exceptionTable := #[], attributes := #[] }
def k2m0 : Method := { name := "<init>", desc := "()V", sig := { parameters := [], returnType := none }, accessFlags := 0, code := some k2c0 }
def k2c1 : Code := { maxStack := 4, maxLocals := 2, code := prog_26_method_2_code, exceptionTable := #[], attributes := #[] }
def k2m1 : Method := { name := "has", desc := "(I)Z", sig := { parameters := [.int], returnType := some .boolean }, accessFlags := 0, code := some k2c1 }
def k2c2 : Code := { maxStack := 5, maxLocals := 5, code := prog_26_method_3_code, exceptionTable := #[], attributes := #[] }
def k2m2 : Method := { name := "put", desc := "(ILjava/util/Collection;)V", sig := { parameters := [.int, (.object "java/util/Collection")], returnType := none }, accessFlags := 0, code := some k2c2 }
/-- com/example/charted/charted/engine/TransitionTable -/
def k2 : Class := { plain "com/example/charted/charted/engine/TransitionTable" (some 0) with
  accessFlags := 32
  interfaces := #[]
  cf := some (fileOf pool2 1 #[.nestMembers #[109]] #[{ accessFlags := 0, nameIndex := 7, descriptorIndex := 8, attributes := #[] }, { accessFlags := 0, nameIndex := 165, descriptorIndex := 166, attributes := #[] }, { accessFlags := 0, nameIndex := 131, descriptorIndex := 168, attributes := #[] }] 32 4 #[] #[{ accessFlags := 26, nameIndex := 152, descriptorIndex := 153, attributes := #[] }, { accessFlags := 26, nameIndex := 156, descriptorIndex := 153, attributes := #[] }, { accessFlags := 26, nameIndex := 158, descriptorIndex := 153, attributes := #[] }, { accessFlags := 2, nameIndex := 11, descriptorIndex := 12, attributes := #[] }, { accessFlags := 2, nameIndex := 15, descriptorIndex := 16, attributes := #[] }, { accessFlags := 2, nameIndex := 20, descriptorIndex := 21, attributes := #[] }, { accessFlags := 2, nameIndex := 26, descriptorIndex := 27, attributes := #[] }, { accessFlags := 2, nameIndex := 30, descriptorIndex := 21, attributes := #[] }, { accessFlags := 2, nameIndex := 71, descriptorIndex := 72, attributes := #[] }, { accessFlags := 18, nameIndex := 36, descriptorIndex := 37, attributes := #[] }, { accessFlags := 18, nameIndex := 43, descriptorIndex := 44, attributes := #[] }])
  fields := #[{ name := "BLOCK_BITS", type := .int, accessFlags := 26, slot := 0, constantValue := 0 }, { name := "BLOCK_SIZE", type := .int, accessFlags := 26, slot := 1, constantValue := 0 }, { name := "NARROW_NUMBERS", type := .int, accessFlags := 26, slot := 2, constantValue := 0 }, { name := "firstOf", type := (.array .long), accessFlags := 2, slot := 0, constantValue := 0 }, { name := "countOf", type := (.array .int), accessFlags := 2, slot := 1, constantValue := 0 }, { name := "targets", type := (.array (.array .int)), accessFlags := 2, slot := 2, constantValue := 0 }, { name := "narrowLabels", type := (.array (.array .byte)), accessFlags := 2, slot := 3, constantValue := 0 }, { name := "wideLabels", type := (.array (.array .int)), accessFlags := 2, slot := 4, constantValue := 0 }, { name := "size", type := .long, accessFlags := 2, slot := 5, constantValue := 0 }, { name := "labelLists", type := (.object "java/util/List"), accessFlags := 18, slot := 6, constantValue := 0 }, { name := "labelListNumbers", type := (.object "java/util/Map"), accessFlags := 18, slot := 7, constantValue := 0 }]
  methods := #[k2m0, k2m1, k2m2]
  instanceTypes := #[(.array .long), (.array .int), (.array (.array .int)), (.array (.array .byte)), (.array (.array .int)), .long, (.object "java/util/List"), (.object "java/util/Map")]
  staticTypes := #[.int, .int, .int]
  resolved := Array.replicate 184 none
  statics := none }

def pool3 : Array CpInfo := pool [(8, .class_ 10), (1, u "java/lang/Iterable"), (24, .class_ 36), (0, u "java/lang/Object")] 25

/-- java/lang/Iterable -/
def k3 : Class := { plain "java/lang/Iterable" (some 0) with
  accessFlags := 1537
  interfaces := #[]
  cf := some (fileOf pool3 8 #[] #[] 1537 35 #[] #[])
  fields := #[]
  methods := #[]
  instanceTypes := #[]
  staticTypes := #[]
  resolved := Array.replicate 62 none
  statics := none }

def pool4 : Array CpInfo := pool [(10, .class_ 12), (1, u "java/util/Collection"), (10, u "iterator"), (0, u "()Ljava/util/Iterator;"), (35, .class_ 61), (0, u "java/lang/Object"), (0, .class_ 63), (0, u "java/lang/Iterable"), (0, u "size"), (0, u "()I")] 49

def k4m0 : Method := { name := "size", desc := "()I", sig := { parameters := [], returnType := some .int }, accessFlags := 1025, code := none }
def k4m1 : Method := { name := "iterator", desc := "()Ljava/util/Iterator;", sig := { parameters := [], returnType := some (.object "java/util/Iterator") }, accessFlags := 1025, code := none }
/-- java/util/Collection -/
def k4 : Class := { plain "java/util/Collection" (some 0) with
  accessFlags := 1537
  interfaces := #[3]
  cf := some (fileOf pool4 10 #[] #[{ accessFlags := 1025, nameIndex := 64, descriptorIndex := 65, attributes := #[] }, { accessFlags := 1025, nameIndex := 23, descriptorIndex := 24, attributes := #[] }] 1537 60 #[62] #[])
  fields := #[]
  methods := #[k4m0, k4m1]
  instanceTypes := #[]
  staticTypes := #[]
  resolved := Array.replicate 115 none
  statics := none }

def pool5 : Array CpInfo := pool [(1, .methodref 2 3), (0, .class_ 4), (0, .nameAndType 5 6), (0, u "java/lang/Object"), (0, u "<init>"), (0, u "()V"), (1, .class_ 10), (1, u "java/util/AbstractCollection"), (66, .class_ 78), (0, u "java/util/Collection")] 81

def k5c0 : Code := { maxStack := 1, maxLocals := 1, code := jdk_22_method_1_code, exceptionTable := #[], attributes := #[] }
def k5m0 : Method := { name := "<init>", desc := "()V", sig := { parameters := [], returnType := none }, accessFlags := 4, code := some k5c0 }
/-- java/util/AbstractCollection -/
def k5 : Class := { plain "java/util/AbstractCollection" (some 0) with
  accessFlags := 1057
  interfaces := #[4]
  cf := some (fileOf pool5 8 #[] #[{ accessFlags := 4, nameIndex := 5, descriptorIndex := 6, attributes := #[] }] 1057 2 #[77] #[])
  fields := #[]
  methods := #[k5m0]
  instanceTypes := #[]
  staticTypes := #[]
  resolved := Array.replicate 160 none
  statics := none }

def pool6 : Array CpInfo := pool [(8, .class_ 10), (1, u "java/util/SequencedCollection"), (15, .class_ 27), (0, u "java/lang/Object"), (0, .class_ 29), (0, u "java/util/Collection")] 27

/-- java/util/SequencedCollection -/
def k6 : Class := { plain "java/util/SequencedCollection" (some 0) with
  accessFlags := 1537
  interfaces := #[4]
  cf := some (fileOf pool6 8 #[] #[] 1537 26 #[28] #[])
  fields := #[]
  methods := #[]
  instanceTypes := #[]
  staticTypes := #[]
  resolved := Array.replicate 57 none
  statics := none }

def pool7 : Array CpInfo := pool [(8, .class_ 10), (1, u "java/util/List"), (92, .class_ 104), (0, u "java/lang/Object"), (15, .class_ 121), (0, u "java/util/SequencedCollection")] 129

/-- java/util/List -/
def k7 : Class := { plain "java/util/List" (some 0) with
  accessFlags := 1537
  interfaces := #[6]
  cf := some (fileOf pool7 8 #[] #[] 1537 103 #[120] #[])
  fields := #[]
  methods := #[]
  instanceTypes := #[]
  staticTypes := #[]
  resolved := Array.replicate 251 none
  statics := none }

def pool8 : Array CpInfo := pool [(1, .methodref 2 3), (0, .class_ 4), (0, .nameAndType 5 6), (0, u "java/util/AbstractCollection"), (0, u "<init>"), (0, u "()V"), (0, .fieldref 8 9), (0, .class_ 10), (0, .nameAndType 11 12), (0, u "java/util/AbstractList"), (0, u "modCount"), (0, u "I"), (64, .class_ 78), (0, u "java/util/AbstractList$Itr"), (3, .class_ 83), (0, u "java/util/AbstractList$ListItr"), (9, .class_ 94), (0, u "java/util/AbstractList$RandomAccessSubList"), (3, .class_ 99), (0, u "java/util/AbstractList$SubList"), (33, .class_ 134), (0, u "java/util/List"), (73, .class_ 209), (0, u "java/util/AbstractList$SubList$1"), (0, .class_ 211), (0, u "java/util/AbstractList$RandomAccessSpliterator")] 6

def k8c0 : Code := { maxStack := 2, maxLocals := 1, code := jdk_39_method_1_code, exceptionTable := #[], attributes := #[] }
def k8m0 : Method := { name := "<init>", desc := "()V", sig := { parameters := [], returnType := none }, accessFlags := 4, code := some k8c0 }
/-- java/util/AbstractList -/
def k8 : Class := { plain "java/util/AbstractList" (some 5) with
  accessFlags := 1057
  interfaces := #[7]
  cf := some (fileOf pool8 8 #[.nestMembers #[93, 98, 208, 210, 82, 77]] #[{ accessFlags := 4, nameIndex := 5, descriptorIndex := 6, attributes := #[] }] 1057 2 #[133] #[{ accessFlags := 132, nameIndex := 11, descriptorIndex := 12, attributes := #[] }])
  fields := #[{ name := "modCount", type := .int, accessFlags := 132, slot := 0, constantValue := 0 }]
  methods := #[k8m0]
  instanceTypes := #[.int]
  staticTypes := #[]
  resolved := Array.replicate 218 none
  statics := none }

def pool9 : Array CpInfo := pool [(1, .class_ 2), (0, u "java/util/RandomAccess"), (0, .class_ 4), (0, u "java/lang/Object")] 2

/-- java/util/RandomAccess -/
def k9 : Class := { plain "java/util/RandomAccess" (some 0) with
  accessFlags := 1537
  interfaces := #[]
  cf := some (fileOf pool9 1 #[] #[] 1537 3 #[] #[])
  fields := #[]
  methods := #[]
  instanceTypes := #[]
  staticTypes := #[]
  resolved := Array.replicate 7 none
  statics := none }

def pool10 : Array CpInfo := pool [(1, .class_ 2), (0, u "java/lang/Cloneable"), (0, .class_ 4), (0, u "java/lang/Object")] 2

/-- java/lang/Cloneable -/
def k10 : Class := { plain "java/lang/Cloneable" (some 0) with
  accessFlags := 1537
  interfaces := #[]
  cf := some (fileOf pool10 1 #[] #[] 1537 3 #[] #[])
  fields := #[]
  methods := #[]
  instanceTypes := #[]
  staticTypes := #[]
  resolved := Array.replicate 7 none
  statics := none }

def pool11 : Array CpInfo := pool [(1, .class_ 2), (0, u "java/io/Serializable"), (0, .class_ 4), (0, u "java/lang/Object")] 2

/-- java/io/Serializable -/
def k11 : Class := { plain "java/io/Serializable" (some 0) with
  accessFlags := 1537
  interfaces := #[]
  cf := some (fileOf pool11 1 #[] #[] 1537 3 #[] #[])
  fields := #[]
  methods := #[]
  instanceTypes := #[]
  staticTypes := #[]
  resolved := Array.replicate 7 none
  statics := none }

def pool12 : Array CpInfo := pool [(1, .methodref 2 3), (0, .class_ 4), (0, .nameAndType 5 6), (0, u "java/util/AbstractList"), (0, u "<init>"), (0, u "()V"), (2, .fieldref 10 11), (0, .class_ 12), (0, .nameAndType 13 14), (0, u "java/util/ArrayList"), (0, u "elementData"), (0, u "[Ljava/lang/Object;"), (2, u "EMPTY_ELEMENTDATA"), (21, .fieldref 10 40), (0, .nameAndType 41 14), (0, u "DEFAULTCAPACITY_EMPTY_ELEMENTDATA"), (6, .fieldref 10 49), (0, .nameAndType 50 51), (0, u "size"), (0, u "I"), (96, .class_ 149), (0, u "java/util/List"), (16, u "iterator"), (0, u "()Ljava/util/Iterator;"), (18, u "()I"), (75, .class_ 263), (0, u "java/util/ArrayList$ListItr"), (3, .class_ 268), (0, u "java/util/ArrayList$Itr"), (0, .methodref 267 270), (0, .nameAndType 5 271), (0, u "(Ljava/util/ArrayList;)V"), (4, .class_ 277), (0, u "java/util/ArrayList$SubList"), (12, .class_ 291), (0, u "java/util/ArrayList$ArrayListSpliterator"), (37, .class_ 330), (0, u "java/util/RandomAccess"), (0, .class_ 332), (0, u "java/lang/Cloneable"), (0, .class_ 334), (0, u "java/io/Serializable"), (0, u "serialVersionUID"), (0, u "J"), (3, u "DEFAULT_CAPACITY"), (159, .class_ 501), (0, u "java/util/ArrayList$SubList$2"), (0, .class_ 503), (0, u "java/util/ArrayList$SubList$1")] 5

def k12c0 : Code := { maxStack := 2, maxLocals := 1, code := jdk_38_method_2_code, exceptionTable := #[], attributes := #[] }
def k12m0 : Method := { name := "<init>", desc := "()V", sig := { parameters := [], returnType := none }, accessFlags := 1, code := some k12c0 }
def k12c1 : Code := { maxStack := 1, maxLocals := 1, code := jdk_38_method_8_code, exceptionTable := #[], attributes := #[] }
def k12m1 : Method := { name := "size", desc := "()I", sig := { parameters := [], returnType := some .int }, accessFlags := 1, code := some k12c1 }
def k12c2 : Code := { maxStack := 3, maxLocals := 1, code := jdk_38_method_55_code, exceptionTable := #[], attributes := #[] }
def k12m2 : Method := { name := "iterator", desc := "()Ljava/util/Iterator;", sig := { parameters := [], returnType := some (.object "java/util/Iterator") }, accessFlags := 1, code := some k12c2 }
/-- java/util/ArrayList -/
def k12 : Class := { plain "java/util/ArrayList" (some 8) with
  accessFlags := 33
  interfaces := #[7, 9, 10, 11]
  cf := some (fileOf pool12 10 #[.nestMembers #[290, 276, 500, 502, 262, 267]] #[{ accessFlags := 1, nameIndex := 5, descriptorIndex := 6, attributes := #[] }, { accessFlags := 1, nameIndex := 50, descriptorIndex := 186, attributes := #[] }, { accessFlags := 1, nameIndex := 166, descriptorIndex := 167, attributes := #[] }] 33 2 #[148, 329, 331, 333] #[{ accessFlags := 26, nameIndex := 335, descriptorIndex := 336, attributes := #[] }, { accessFlags := 26, nameIndex := 340, descriptorIndex := 51, attributes := #[] }, { accessFlags := 26, nameIndex := 17, descriptorIndex := 14, attributes := #[] }, { accessFlags := 26, nameIndex := 41, descriptorIndex := 14, attributes := #[] }, { accessFlags := 128, nameIndex := 13, descriptorIndex := 14, attributes := #[] }, { accessFlags := 2, nameIndex := 50, descriptorIndex := 51, attributes := #[] }])
  fields := #[{ name := "serialVersionUID", type := .long, accessFlags := 26, slot := 0, constantValue := 0 }, { name := "DEFAULT_CAPACITY", type := .int, accessFlags := 26, slot := 1, constantValue := 0 }, { name := "EMPTY_ELEMENTDATA", type := (.array (.object "java/lang/Object")), accessFlags := 26, slot := 2, constantValue := 0 }, { name := "DEFAULTCAPACITY_EMPTY_ELEMENTDATA", type := (.array (.object "java/lang/Object")), accessFlags := 26, slot := 3, constantValue := 0 }, { name := "elementData", type := (.array (.object "java/lang/Object")), accessFlags := 128, slot := 1, constantValue := 0 }, { name := "size", type := .int, accessFlags := 2, slot := 2, constantValue := 0 }]
  methods := #[k12m0, k12m1, k12m2]
  instanceTypes := #[.int, (.array (.object "java/lang/Object")), .int]
  staticTypes := #[.long, .int, (.array (.object "java/lang/Object")), (.array (.object "java/lang/Object"))]
  resolved := Array.replicate 509 none
  statics := some 0 }

def pool13 : Array CpInfo := pool [(2, .class_ 4), (1, u "java/util/Map"), (31, .class_ 37), (0, u "java/util/Map$Entry"), (55, .class_ 94), (0, u "java/lang/Object")] 168

/-- java/util/Map -/
def k13 : Class := { plain "java/util/Map" (some 0) with
  accessFlags := 1537
  interfaces := #[]
  cf := some (fileOf pool13 2 #[.nestMembers #[36]] #[] 1537 93 #[] #[])
  fields := #[]
  methods := #[]
  instanceTypes := #[]
  staticTypes := #[]
  resolved := Array.replicate 263 none
  statics := none }

def pool14 : Array CpInfo := pool [(1, .methodref 2 3), (0, .class_ 4), (0, .nameAndType 5 6), (0, u "java/lang/Object"), (0, u "<init>"), (0, u "()V"), (1, .class_ 10), (1, u "java/util/AbstractMap"), (42, .class_ 54), (0, u "java/util/Map"), (9, u "keySet"), (0, u "Ljava/util/Set;"), (0, .class_ 67), (0, u "java/util/AbstractMap$1"), (5, u "values"), (0, u "Ljava/util/Collection;"), (0, .class_ 76), (0, u "java/util/AbstractMap$2"), (104, .class_ 182), (0, u "java/util/AbstractMap$ViewCollection"), (0, .class_ 184), (0, u "java/util/AbstractMap$SimpleImmutableEntry"), (0, .class_ 186), (0, u "java/util/AbstractMap$SimpleEntry"), (0, .class_ 188), (0, u "java/util/AbstractMap$2$1"), (0, .class_ 190), (0, u "java/util/AbstractMap$1$1")] 5

def k14c0 : Code := { maxStack := 1, maxLocals := 1, code := jdk_71_method_1_code, exceptionTable := #[], attributes := #[] }
def k14m0 : Method := { name := "<init>", desc := "()V", sig := { parameters := [], returnType := none }, accessFlags := 4, code := some k14c0 }
/-- java/util/AbstractMap -/
def k14 : Class := { plain "java/util/AbstractMap" (some 0) with
  accessFlags := 1057
  interfaces := #[13]
  cf := some (fileOf pool14 8 #[.nestMembers #[181, 183, 185, 75, 187, 66, 189]] #[{ accessFlags := 4, nameIndex := 5, descriptorIndex := 6, attributes := #[] }] 1057 2 #[53] #[{ accessFlags := 128, nameIndex := 64, descriptorIndex := 65, attributes := #[] }, { accessFlags := 128, nameIndex := 73, descriptorIndex := 74, attributes := #[] }])
  fields := #[{ name := "keySet", type := (.object "java/util/Set"), accessFlags := 128, slot := 0, constantValue := 0 }, { name := "values", type := (.object "java/util/Collection"), accessFlags := 128, slot := 1, constantValue := 0 }]
  methods := #[k14m0]
  instanceTypes := #[(.object "java/util/Set"), (.object "java/util/Collection")]
  staticTypes := #[]
  resolved := Array.replicate 196 none
  statics := none }

def pool15 : Array CpInfo := pool [(40, .class_ 41), (0, u "java/util/HashMap"), (1, .methodref 44 45), (0, .class_ 46), (0, .nameAndType 47 48), (0, u "java/util/AbstractMap"), (0, u "<init>"), (0, u "()V"), (32, .fieldref 40 82), (0, .nameAndType 83 84), (0, u "loadFactor"), (0, u "F"), (5, u "threshold"), (0, u "I"), (0, .float 1061158912), (8, .class_ 103), (1, u "java/util/Map"), (0, u "size"), (2, u "table"), (0, u "[Ljava/util/HashMap$Node;"), (14, u "entrySet"), (39, .class_ 165), (1, u "java/util/HashMap$Node"), (14, .class_ 181), (0, u "java/util/HashMap$TreeNode"), (22, u "modCount"), (37, u "Ljava/util/Set;"), (0, .class_ 244), (0, u "java/util/HashMap$KeySet"), (18, .class_ 264), (0, u "java/util/HashMap$Values"), (3, .class_ 269), (0, u "java/util/HashMap$EntrySet"), (76, .class_ 348), (1, u "java/util/HashMap$UnsafeHolder"), (43, .class_ 393), (0, u "java/lang/Cloneable"), (0, .class_ 395), (0, u "java/io/Serializable"), (0, u "serialVersionUID"), (0, u "J"), (3, u "DEFAULT_INITIAL_CAPACITY"), (1, u "MAXIMUM_CAPACITY"), (0, u "DEFAULT_LOAD_FACTOR"), (0, u "TREEIFY_THRESHOLD"), (1, u "UNTREEIFY_THRESHOLD"), (1, u "MIN_TREEIFY_CAPACITY"), (186, .class_ 597), (0, u "java/util/HashMap$EntrySpliterator"), (0, .class_ 599), (0, u "java/util/HashMap$ValueSpliterator"), (0, .class_ 601), (0, u "java/util/HashMap$KeySpliterator"), (0, .class_ 603), (0, u "java/util/HashMap$HashMapSpliterator"), (0, .class_ 605), (0, u "java/util/HashMap$EntryIterator"), (0, .class_ 607), (0, u "java/util/HashMap$ValueIterator"), (0, .class_ 609), (0, u "java/util/HashMap$KeyIterator"), (0, .class_ 611), (0, u "java/util/HashMap$HashIterator")] 17

def k15c0 : Code := { maxStack := 2, maxLocals := 1, code := jdk_69_method_7_code, exceptionTable := #[], attributes := #[] }
def k15m0 : Method := { name := "<init>", desc := "()V", sig := { parameters := [], returnType := none }, accessFlags := 1, code := some k15c0 }
/-- java/util/HashMap -/
def k15 : Class := { plain "java/util/HashMap" (some 14) with
  accessFlags := 33
  interfaces := #[13, 10, 11]
  cf := some (fileOf pool15 40 #[.nestMembers #[180, 596, 598, 600, 602, 604, 606, 608, 610, 346, 268, 263, 243, 163]] #[{ accessFlags := 1, nameIndex := 47, descriptorIndex := 48, attributes := #[] }] 33 44 #[101, 392, 394] #[{ accessFlags := 26, nameIndex := 396, descriptorIndex := 397, attributes := #[] }, { accessFlags := 24, nameIndex := 401, descriptorIndex := 91, attributes := #[] }, { accessFlags := 24, nameIndex := 403, descriptorIndex := 91, attributes := #[] }, { accessFlags := 24, nameIndex := 404, descriptorIndex := 84, attributes := #[] }, { accessFlags := 24, nameIndex := 405, descriptorIndex := 91, attributes := #[] }, { accessFlags := 24, nameIndex := 407, descriptorIndex := 91, attributes := #[] }, { accessFlags := 24, nameIndex := 409, descriptorIndex := 91, attributes := #[] }, { accessFlags := 128, nameIndex := 107, descriptorIndex := 108, attributes := #[] }, { accessFlags := 128, nameIndex := 123, descriptorIndex := 242, attributes := #[] }, { accessFlags := 128, nameIndex := 104, descriptorIndex := 91, attributes := #[] }, { accessFlags := 128, nameIndex := 204, descriptorIndex := 91, attributes := #[] }, { accessFlags := 0, nameIndex := 90, descriptorIndex := 91, attributes := #[] }, { accessFlags := 16, nameIndex := 83, descriptorIndex := 84, attributes := #[] }])
  fields := #[{ name := "serialVersionUID", type := .long, accessFlags := 26, slot := 0, constantValue := 0 }, { name := "DEFAULT_INITIAL_CAPACITY", type := .int, accessFlags := 24, slot := 1, constantValue := 0 }, { name := "MAXIMUM_CAPACITY", type := .int, accessFlags := 24, slot := 2, constantValue := 0 }, { name := "DEFAULT_LOAD_FACTOR", type := .float, accessFlags := 24, slot := 3, constantValue := 0 }, { name := "TREEIFY_THRESHOLD", type := .int, accessFlags := 24, slot := 4, constantValue := 0 }, { name := "UNTREEIFY_THRESHOLD", type := .int, accessFlags := 24, slot := 5, constantValue := 0 }, { name := "MIN_TREEIFY_CAPACITY", type := .int, accessFlags := 24, slot := 6, constantValue := 0 }, { name := "table", type := (.array (.object "java/util/HashMap$Node")), accessFlags := 128, slot := 2, constantValue := 0 }, { name := "entrySet", type := (.object "java/util/Set"), accessFlags := 128, slot := 3, constantValue := 0 }, { name := "size", type := .int, accessFlags := 128, slot := 4, constantValue := 0 }, { name := "modCount", type := .int, accessFlags := 128, slot := 5, constantValue := 0 }, { name := "threshold", type := .int, accessFlags := 0, slot := 6, constantValue := 0 }, { name := "loadFactor", type := .float, accessFlags := 16, slot := 7, constantValue := 0 }]
  methods := #[k15m0]
  instanceTypes := #[(.object "java/util/Set"), (.object "java/util/Collection"), (.array (.object "java/util/HashMap$Node")), (.object "java/util/Set"), .int, .int, .int, .float]
  staticTypes := #[.long, .int, .int, .float, .int, .int, .int]
  resolved := Array.replicate 629 none
  statics := none }

def pool16 : Array CpInfo := pool [(2, .class_ 4), (1, u "java/lang/Object"), (0, u "<init>"), (0, u "()V"), (6, .methodref 14 15), (0, .class_ 16), (0, .nameAndType 17 18), (0, u "java/util/Arrays"), (0, u "rangeCheck"), (0, u "(III)V"), (55, .class_ 76), (1, u "java/util/Arrays$NaturalOrder"), (36, .class_ 115), (1, u "java/util/Arrays$LegacyMergeSort"), (1, u "Z"), (32, .methodref 151 152), (0, .class_ 153), (0, .nameAndType 154 155), (0, u "java/lang/System"), (0, u "arraycopy"), (0, u "(Ljava/lang/Object;ILjava/lang/Object;II)V"), (146, u "copyOf"), (1, .methodref 305 306), (0, .class_ 307), (0, .nameAndType 308 309), (0, u "java/lang/Math"), (0, u "min"), (0, u "(II)I"), (65, .class_ 376), (0, u "java/util/Arrays$ArrayList"), (68, u "$assertionsDisabled"), (269, u "MIN_ARRAY_SORT_GRAN"), (0, u "I"), (2, u "INSERTIONSORT_THRESHOLD"), (120, u "fill"), (0, u "([JJ)V"), (2, u "([JIIJ)V"), (26, u "([II)[I"), (0, u "([JI)[J"), (102, .class_ 976), (0, u "java/util/Arrays$ArrayItr")] 52

def k16m0 : Method := { name := "<init>", desc := "()V", sig := { parameters := [], returnType := none }, accessFlags := 2, code := none }
def k16c1 : Code := { maxStack := 4, maxLocals := 3, code := jdk_65_method_30_code, exceptionTable := #[], attributes := #[] }
def k16m1 : Method := { name := "rangeCheck", desc := "(III)V", sig := { parameters := [.int, .int, .int], returnType := none }, accessFlags := 8, code := some k16c1 }
def k16c2 : Code := { maxStack := 4, maxLocals := 5, code := jdk_65_method_101_code, exceptionTable := #[], attributes := #[] }
def k16m2 : Method := { name := "fill", desc := "([JJ)V", sig := { parameters := [(.array .long), .long], returnType := none }, accessFlags := 9, code := some k16c2 }
def k16c3 : Code := { maxStack := 4, maxLocals := 6, code := jdk_65_method_102_code, exceptionTable := #[], attributes := #[] }
def k16m3 : Method := { name := "fill", desc := "([JIIJ)V", sig := { parameters := [(.array .long), .int, .int, .long], returnType := none }, accessFlags := 9, code := some k16c3 }
def k16c4 : Code := { maxStack := 6, maxLocals := 3, code := jdk_65_method_123_code, exceptionTable := #[], attributes := #[] }
def k16m4 : Method := { name := "copyOf", desc := "([II)[I", sig := { parameters := [(.array .int), .int], returnType := some (.array .int) }, accessFlags := 9, code := some k16c4 }
def k16c5 : Code := { maxStack := 6, maxLocals := 3, code := jdk_65_method_124_code, exceptionTable := #[], attributes := #[] }
def k16m5 : Method := { name := "copyOf", desc := "([JI)[J", sig := { parameters := [(.array .long), .int], returnType := some (.array .long) }, accessFlags := 9, code := some k16c5 }
/-- java/util/Arrays -/
def k16 : Class := { plain "java/util/Arrays" (some 0) with
  accessFlags := 49
  interfaces := #[]
  cf := some (fileOf pool16 14 #[.nestMembers #[975, 375, 113, 74]] #[{ accessFlags := 2, nameIndex := 5, descriptorIndex := 6, attributes := #[] }, { accessFlags := 8, nameIndex := 17, descriptorIndex := 18, attributes := #[] }, { accessFlags := 9, nameIndex := 840, descriptorIndex := 841, attributes := #[] }, { accessFlags := 9, nameIndex := 840, descriptorIndex := 844, attributes := #[] }, { accessFlags := 9, nameIndex := 302, descriptorIndex := 871, attributes := #[] }, { accessFlags := 9, nameIndex := 302, descriptorIndex := 872, attributes := #[] }] 49 2 #[] #[{ accessFlags := 26, nameIndex := 715, descriptorIndex := 716, attributes := #[] }, { accessFlags := 26, nameIndex := 719, descriptorIndex := 716, attributes := #[] }, { accessFlags := 4120, nameIndex := 445, descriptorIndex := 117, attributes := #[] }])
  fields := #[{ name := "MIN_ARRAY_SORT_GRAN", type := .int, accessFlags := 26, slot := 0, constantValue := 0 }, { name := "INSERTIONSORT_THRESHOLD", type := .int, accessFlags := 26, slot := 1, constantValue := 0 }, { name := "$assertionsDisabled", type := .boolean, accessFlags := 4120, slot := 2, constantValue := 0 }]
  methods := #[k16m0, k16m1, k16m2, k16m3, k16m4, k16m5]
  instanceTypes := #[]
  staticTypes := #[.int, .int, .boolean]
  resolved := Array.replicate 1029 none
  statics := none }

def pool17 : Array CpInfo := pool [(16, .class_ 18), (1, u "java/util/Iterator"), (0, u "hasNext"), (0, u "()Z"), (10, .class_ 32), (0, u "java/lang/Object")] 20

def k17m0 : Method := { name := "hasNext", desc := "()Z", sig := { parameters := [], returnType := some .boolean }, accessFlags := 1025, code := none }
/-- java/util/Iterator -/
def k17 : Class := { plain "java/util/Iterator" (some 0) with
  accessFlags := 1537
  interfaces := #[]
  cf := some (fileOf pool17 16 #[] #[{ accessFlags := 1025, nameIndex := 19, descriptorIndex := 20, attributes := #[] }] 1537 31 #[] #[])
  fields := #[]
  methods := #[k17m0]
  instanceTypes := #[]
  staticTypes := #[]
  resolved := Array.replicate 53 none
  statics := none }

def pool18 : Array CpInfo := pool [(1, .fieldref 2 3), (0, .class_ 4), (0, .nameAndType 5 6), (0, u "java/util/ArrayList$Itr"), (0, u "this$0"), (0, u "Ljava/util/ArrayList;"), (0, .methodref 8 9), (0, .class_ 10), (0, .nameAndType 11 12), (0, u "java/lang/Object"), (0, u "<init>"), (0, u "()V"), (0, .fieldref 2 14), (0, .nameAndType 15 16), (0, u "lastRet"), (0, u "I"), (0, .fieldref 18 19), (0, .class_ 20), (0, .nameAndType 21 16), (0, u "java/util/ArrayList"), (0, u "modCount"), (0, .fieldref 2 23), (0, .nameAndType 24 16), (0, u "expectedModCount"), (0, .fieldref 2 26), (0, .nameAndType 27 16), (0, u "cursor"), (0, .fieldref 18 29), (0, .nameAndType 30 16), (0, u "size"), (38, .class_ 70), (0, u "java/util/Iterator"), (0, u "(Ljava/util/ArrayList;)V"), (8, u "hasNext"), (0, u "()Z")] 22

def k18c0 : Code := { maxStack := 2, maxLocals := 2, code := jdk_49_method_1_code, exceptionTable := #[], attributes := #[] }
def k18m0 : Method := { name := "<init>", desc := "(Ljava/util/ArrayList;)V", sig := { parameters := [(.object "java/util/ArrayList")], returnType := none }, accessFlags := 0, code := some k18c0 }
def k18c1 : Code := { maxStack := 2, maxLocals := 1, code := jdk_49_method_2_code, exceptionTable := #[], attributes := #[] }
def k18m1 : Method := { name := "hasNext", desc := "()Z", sig := { parameters := [], returnType := some .boolean }, accessFlags := 1, code := some k18c1 }
/-- java/util/ArrayList$Itr -/
def k18 : Class := { plain "java/util/ArrayList$Itr" (some 0) with
  accessFlags := 32
  interfaces := #[17]
  cf := some (fileOf pool18 2 #[.nestHost 18] #[{ accessFlags := 0, nameIndex := 11, descriptorIndex := 71, attributes := #[] }, { accessFlags := 1, nameIndex := 80, descriptorIndex := 81, attributes := #[] }] 32 8 #[69] #[{ accessFlags := 0, nameIndex := 27, descriptorIndex := 16, attributes := #[] }, { accessFlags := 0, nameIndex := 15, descriptorIndex := 16, attributes := #[] }, { accessFlags := 0, nameIndex := 24, descriptorIndex := 16, attributes := #[] }, { accessFlags := 4112, nameIndex := 5, descriptorIndex := 6, attributes := #[] }])
  fields := #[{ name := "cursor", type := .int, accessFlags := 0, slot := 0, constantValue := 0 }, { name := "lastRet", type := .int, accessFlags := 0, slot := 1, constantValue := 0 }, { name := "expectedModCount", type := .int, accessFlags := 0, slot := 2, constantValue := 0 }, { name := "this$0", type := (.object "java/util/ArrayList"), accessFlags := 4112, slot := 3, constantValue := 0 }]
  methods := #[k18m0, k18m1]
  instanceTypes := #[.int, .int, .int, (.object "java/util/ArrayList")]
  staticTypes := #[]
  resolved := Array.replicate 104 none
  statics := none }

def pool19 : Array CpInfo := pool [(1, .class_ 2), (0, u "java/lang/Math"), (1, .class_ 6), (1, u "java/lang/Object"), (0, u "<init>"), (0, u "()V"), (89, .class_ 100), (1, u "java/lang/Math$RandomNumberGeneratorHolder"), (71, u "negativeZeroFloatBits"), (0, u "J"), (2, u "negativeZeroDoubleBits"), (21, u "max"), (2, u "min"), (43, u "$assertionsDisabled"), (0, u "Z"), (88, u "(II)I"), (2, u "twoToTheDoubleScaleDown"), (0, u "D"), (4, u "twoToTheDoubleScaleUp"), (9, u "E"), (3, u "PI"), (2, u "TAU"), (2, u "DEGREES_TO_RADIANS"), (0, u "RADIANS_TO_DEGREES")] 94

def k19m0 : Method := { name := "<init>", desc := "()V", sig := { parameters := [], returnType := none }, accessFlags := 2, code := none }
def k19c1 : Code := { maxStack := 2, maxLocals := 2, code := jdk_29_method_65_code, exceptionTable := #[], attributes := #[] }
def k19m1 : Method := { name := "max", desc := "(II)I", sig := { parameters := [.int, .int], returnType := some .int }, accessFlags := 9, code := some k19c1 }
def k19c2 : Code := { maxStack := 2, maxLocals := 2, code := jdk_29_method_69_code, exceptionTable := #[], attributes := #[] }
def k19m2 : Method := { name := "min", desc := "(II)I", sig := { parameters := [.int, .int], returnType := some .int }, accessFlags := 9, code := some k19c2 }
/-- java/lang/Math -/
def k19 : Class := { plain "java/lang/Math" (some 0) with
  accessFlags := 49
  interfaces := #[]
  cf := some (fileOf pool19 1 #[.nestMembers #[98]] #[{ accessFlags := 2, nameIndex := 7, descriptorIndex := 8, attributes := #[] }, { accessFlags := 9, nameIndex := 198, descriptorIndex := 335, attributes := #[] }, { accessFlags := 9, nameIndex := 201, descriptorIndex := 335, attributes := #[] }] 49 4 #[] #[{ accessFlags := 25, nameIndex := 354, descriptorIndex := 339, attributes := #[] }, { accessFlags := 25, nameIndex := 358, descriptorIndex := 339, attributes := #[] }, { accessFlags := 25, nameIndex := 361, descriptorIndex := 339, attributes := #[] }, { accessFlags := 26, nameIndex := 364, descriptorIndex := 339, attributes := #[] }, { accessFlags := 26, nameIndex := 365, descriptorIndex := 339, attributes := #[] }, { accessFlags := 26, nameIndex := 172, descriptorIndex := 173, attributes := #[] }, { accessFlags := 26, nameIndex := 176, descriptorIndex := 173, attributes := #[] }, { accessFlags := 8, nameIndex := 344, descriptorIndex := 339, attributes := #[] }, { accessFlags := 8, nameIndex := 338, descriptorIndex := 339, attributes := #[] }, { accessFlags := 4120, nameIndex := 245, descriptorIndex := 246, attributes := #[] }])
  fields := #[{ name := "E", type := .double, accessFlags := 25, slot := 0, constantValue := 0 }, { name := "PI", type := .double, accessFlags := 25, slot := 1, constantValue := 0 }, { name := "TAU", type := .double, accessFlags := 25, slot := 2, constantValue := 0 }, { name := "DEGREES_TO_RADIANS", type := .double, accessFlags := 26, slot := 3, constantValue := 0 }, { name := "RADIANS_TO_DEGREES", type := .double, accessFlags := 26, slot := 4, constantValue := 0 }, { name := "negativeZeroFloatBits", type := .long, accessFlags := 26, slot := 5, constantValue := 0 }, { name := "negativeZeroDoubleBits", type := .long, accessFlags := 26, slot := 6, constantValue := 0 }, { name := "twoToTheDoubleScaleUp", type := .double, accessFlags := 8, slot := 7, constantValue := 0 }, { name := "twoToTheDoubleScaleDown", type := .double, accessFlags := 8, slot := 8, constantValue := 0 }, { name := "$assertionsDisabled", type := .boolean, accessFlags := 4120, slot := 9, constantValue := 0 }]
  methods := #[k19m0, k19m1, k19m2]
  instanceTypes := #[]
  staticTypes := #[.double, .double, .double, .double, .double, .long, .long, .double, .double, .boolean]
  resolved := Array.replicate 460 none
  statics := none }

def pool20 : Array CpInfo := pool [(2, .class_ 4), (1, u "java/lang/Object"), (0, u "<init>"), (0, u "()V"), (1, .class_ 10), (1, u "java/lang/System"), (0, u "allowSecurityManager"), (0, u "I"), (16, u "cons"), (0, u "Ljava/io/Console;"), (77, .class_ 110), (1, u "java/lang/System$CallersHolder"), (43, u "initialErrStream"), (0, u "Ljava/io/PrintStream;"), (19, u "security"), (0, u "Ljava/lang/SecurityManager;"), (31, .class_ 209), (0, u "java/lang/System$1"), (7, u "props"), (0, u "Ljava/util/Properties;"), (2, u "lineSeparator"), (0, u "Ljava/lang/String;"), (96, .class_ 321), (1, u "java/lang/System$LoggerFinder"), (5, .class_ 328), (0, u "java/lang/System$Logger"), (67, u "err"), (2, u "out"), (91, u "notSupportedJnuEncoding"), (15, u "in"), (17, u "initialIn"), (0, u "Ljava/io/InputStream;"), (35, u "bootLayer"), (0, u "Ljava/lang/ModuleLayer;"), (99, .class_ 664), (0, u "java/lang/System$2"), (9, u "NEVER"), (2, u "MAYBE"), (49, u "arraycopy"), (0, u "(Ljava/lang/Object;ILjava/lang/Object;II)V"), (72, .class_ 802), (0, u "java/lang/System$Logger$Level")] 31

def k20m0 : Method := { name := "<init>", desc := "()V", sig := { parameters := [], returnType := none }, accessFlags := 2, code := none }
def k20m1 : Method := { name := "arraycopy", desc := "(Ljava/lang/Object;ILjava/lang/Object;II)V", sig := { parameters := [(.object "java/lang/Object"), .int, (.object "java/lang/Object"), .int, .int], returnType := none }, accessFlags := 265, code := none }
/-- java/lang/System -/
def k20 : Class := { plain "java/lang/System" (some 0) with
  accessFlags := 49
  interfaces := #[]
  cf := some (fileOf pool20 8 #[.nestMembers #[319, 327, 801, 108, 663, 208]] #[{ accessFlags := 2, nameIndex := 5, descriptorIndex := 6, attributes := #[] }, { accessFlags := 265, nameIndex := 727, descriptorIndex := 728, attributes := #[] }] 49 2 #[] #[{ accessFlags := 25, nameIndex := 507, descriptorIndex := 526, attributes := #[] }, { accessFlags := 25, nameIndex := 399, descriptorIndex := 155, attributes := #[] }, { accessFlags := 25, nameIndex := 396, descriptorIndex := 155, attributes := #[] }, { accessFlags := 10, nameIndex := 525, descriptorIndex := 526, attributes := #[] }, { accessFlags := 26, nameIndex := 674, descriptorIndex := 12, attributes := #[] }, { accessFlags := 26, nameIndex := 677, descriptorIndex := 12, attributes := #[] }, { accessFlags := 10, nameIndex := 11, descriptorIndex := 12, attributes := #[] }, { accessFlags := 74, nameIndex := 175, descriptorIndex := 176, attributes := #[] }, { accessFlags := 10, nameIndex := 491, descriptorIndex := 222, attributes := #[] }, { accessFlags := 74, nameIndex := 29, descriptorIndex := 30, attributes := #[] }, { accessFlags := 74, nameIndex := 154, descriptorIndex := 155, attributes := #[] }, { accessFlags := 10, nameIndex := 217, descriptorIndex := 218, attributes := #[] }, { accessFlags := 10, nameIndex := 221, descriptorIndex := 222, attributes := #[] }, { accessFlags := 8, nameIndex := 562, descriptorIndex := 563, attributes := #[] }])
  fields := #[{ name := "in", type := (.object "java/io/InputStream"), accessFlags := 25, slot := 0, constantValue := 0 }, { name := "out", type := (.object "java/io/PrintStream"), accessFlags := 25, slot := 1, constantValue := 0 }, { name := "err", type := (.object "java/io/PrintStream"), accessFlags := 25, slot := 2, constantValue := 0 }, { name := "initialIn", type := (.object "java/io/InputStream"), accessFlags := 10, slot := 3, constantValue := 0 }, { name := "NEVER", type := .int, accessFlags := 26, slot := 4, constantValue := 0 }, { name := "MAYBE", type := .int, accessFlags := 26, slot := 5, constantValue := 0 }, { name := "allowSecurityManager", type := .int, accessFlags := 10, slot := 6, constantValue := 0 }, { name := "security", type := (.object "java/lang/SecurityManager"), accessFlags := 74, slot := 7, constantValue := 0 }, { name := "notSupportedJnuEncoding", type := (.object "java/lang/String"), accessFlags := 10, slot := 8, constantValue := 0 }, { name := "cons", type := (.object "java/io/Console"), accessFlags := 74, slot := 9, constantValue := 0 }, { name := "initialErrStream", type := (.object "java/io/PrintStream"), accessFlags := 74, slot := 10, constantValue := 0 }, { name := "props", type := (.object "java/util/Properties"), accessFlags := 10, slot := 11, constantValue := 0 }, { name := "lineSeparator", type := (.object "java/lang/String"), accessFlags := 10, slot := 12, constantValue := 0 }, { name := "bootLayer", type := (.object "java/lang/ModuleLayer"), accessFlags := 8, slot := 13, constantValue := 0 }]
  methods := #[k20m0, k20m1]
  instanceTypes := #[]
  staticTypes := #[(.object "java/io/InputStream"), (.object "java/io/PrintStream"), (.object "java/io/PrintStream"), (.object "java/io/InputStream"), .int, .int, .int, (.object "java/lang/SecurityManager"), (.object "java/lang/String"), (.object "java/io/Console"), (.object "java/io/PrintStream"), (.object "java/util/Properties"), (.object "java/lang/String"), (.object "java/lang/ModuleLayer")]
  resolved := Array.replicate 834 none
  statics := none }

/-- the primitive byte -/
def k21 : Class := { plain "byte" none with kind := .primitive 'B', accessFlags := 0x411 }
/-- [B -/
def k22 : Class := { plain "[B" (some 0) with kind := .array 21 .byte, interfaces := #[10, 11], accessFlags := 1041 }

/-- the primitive int -/
def k23 : Class := { plain "int" none with kind := .primitive 'I', accessFlags := 0x411 }
/-- [I -/
def k24 : Class := { plain "[I" (some 0) with kind := .array 23 .int, interfaces := #[10, 11], accessFlags := 1041 }

/-- the primitive long -/
def k25 : Class := { plain "long" none with kind := .primitive 'J', accessFlags := 0x411 }
/-- [J -/
def k26 : Class := { plain "[J" (some 0) with kind := .array 25 .long, interfaces := #[10, 11], accessFlags := 1041 }

/-- [Ljava/lang/Object; -/
def k27 : Class := { plain "[Ljava/lang/Object;" (some 0) with kind := .array 0 (.object "java/lang/Object"), interfaces := #[10, 11], accessFlags := 1041 }

/-- [[I -/
def k28 : Class := { plain "[[I" (some 0) with kind := .array 24 (.array .int), interfaces := #[10, 11], accessFlags := 1041 }
/-- [[B -/
def k29 : Class := { plain "[[B" (some 0) with kind := .array 22 (.array .byte), interfaces := #[10, 11], accessFlags := 1041 }

def heap : Heap := #[{ cls := 12, slots := #[.long 0, .int 0, .ref 1, .ref 2], vm := .statics 12 },
  { cls := 27, slots := #[], vm := .none },
  { cls := 27, slots := #[], vm := .none }]
def classes : Array Class := #[k0, k1, k2, k3, k4, k5, k6, k7, k8, k9, k10, k11, k12, k13, k14, k15, k16, k17, k18, k19, k20, k21, k22, k23, k24, k25, k26, k27, k28, k29]
def interned : List (Array UInt16 × Addr) := []
def slotsUsed : Nat := 4
def theMethod : MethodId := ⟨1, 1⟩
def args0 : Array Value := #[.int 5, .int 7, .int 1, .int 3]
def aboutOver (below : List Frame) : State where
  vm := { classes := classes, interned := interned.toArray }
  heap := heap
  slotsUsed := slotsUsed
  threads := #[{ frames := .invoking theMethod args0 :: below }]
def below0 : List Frame := [.native { method := ⟨0, 0⟩, args := #[] }]
def about1 : State := aboutOver below0
def p0 : Program := .bare "" "" ""
def e0 : Env := launch0.env 0 0 0
theorem w_frames : about1.frames = Frame.invoking theMethod args0 :: below0 := rfl
set_option maxRecDepth 65536 in
theorem w_args : argsFit about1.vm theMethod args0 = true := by decide +kernel
set_option maxRecDepth 65536 in
theorem w_heap : heapFits about1 = true := by decide +kernel
set_option maxRecDepth 65536 in
theorem w_runnable : about1.curStatus? = some .runnable := by decide +kernel
set_option maxRecDepth 65536 in
theorem w_alone : about1.alone = true := by decide +kernel
set_option maxRecDepth 65536 in
theorem w_named : about1.methodNamed? x = some theMethod := by decide +kernel
set_option maxRecDepth 65536 in
theorem w_hears : about1.hears theMethod below0 = true := by decide +kernel
set_option maxRecDepth 65536 in
theorem w_ripe : about1.ripe theMethod args0 below0 = true := by decide +kernel
theorem w_running : about1.status = .running := rfl
set_option maxRecDepth 65536 in
theorem w_room : about1.hasRoom e0.platform room_1 = true :=
  launch0.hasRoom_least _ room_1 (by decide +kernel) (by decide +kernel) (by decide +kernel) (by decide +kernel) (by decide +kernel) (by decide +kernel)
theorem allAtoms_all (ts : List Jvm.Cond) (a : Array Jvm.Value) (st : Jvm.State) : (allAtoms ts).before a st = ts.all (fun c => c.before a st) := by
  induction ts with
  | nil => rfl
  | cons c t ih =>
    show (Jvm.Cond.and c (allAtoms t)).before a st = _
    rw [Jvm.Cond.before_and, ih, List.all_cons]
def words1 : List Jvm.Cond := Jvm.Cond.code x code maxLocals ret :: tables_1
/-- a 'code' word, met by the world's own term for the bytes: nothing is compared byte by byte -/
theorem code_word {y : MethodName} {bytes : ByteArray} {mx : Nat} {rt : Option FieldType} {a : Array Value} {s : State} {m : MethodId} {meth : Method} {c : Code} (h1 : s.methodNamed? y = some m) (h2 : s.vm.method? m = some meth) (h3 : meth.code = some c) (h4 : c.code = bytes)
    (h5 : (c.maxLocals == mx && c.exceptionTable.isEmpty && decide (c.maxStack ≤ mostOperands) && decide (meth.sig.returnType = rt) && !meth.locks && decide (parseMethodDescriptor y.desc = some meth.sig)) = true) : (Jvm.Cond.code y bytes mx rt).before a s = true := by
  simp only [Bool.and_eq_true, beq_iff_eq, Bool.not_eq_true', decide_eq_true_eq] at h5
  obtain ⟨⟨⟨⟨⟨g1, g2⟩, g3⟩, g4⟩, g5⟩, g6⟩ := h5
  simp [Cond.before, Cond.holds, Cond.value, h1, h2, h3, h4, g1, g2, g3, g4, g5, g6]
def isCode : Jvm.Cond → Bool
  | .code _ _ _ _ => true
  | _ => false
theorem all_split {L : List Jvm.Cond} {P : Jvm.Cond → Bool} (h1 : L.all (fun c => isCode c || P c) = true) (h2 : ∀ c ∈ L.filter isCode, P c = true) : L.all P = true := by
  refine List.all_eq_true.mpr fun c hc => ?_
  have h := List.all_eq_true.mp h1 c hc
  rcases Bool.eq_false_or_eq_true (isCode c) with hi | hi
  · exact h2 c (List.mem_filter.mpr ⟨hc, hi⟩)
  · simpa [hi] using h
set_option maxRecDepth 65536 in
theorem w_c0 : (Jvm.Cond.code x code maxLocals ret).before args0 about1 = true := code_word (m := ⟨1, 1⟩) (meth := k1m1) (c := k1c1) (by decide +kernel) rfl rfl rfl (by decide +kernel)
set_option maxRecDepth 65536 in
theorem w_c1 : (Jvm.Cond.code ({ cls := "com/example/charted/charted/engine/TransitionTable", name := "<init>", desc := "()V" } : Jvm.MethodName) prog_26_method_1_code (1 : Nat) (Option.none : Option Jvm.ClassFile.FieldType)).before args0 about1 = true := code_word (m := ⟨2, 0⟩) (meth := k2m0) (c := k2c0) (by decide +kernel) rfl rfl rfl (by decide +kernel)
set_option maxRecDepth 65536 in
theorem w_c2 : (Jvm.Cond.code ({ cls := "java/lang/Object", name := "<init>", desc := "()V" } : Jvm.MethodName) object_method_1_code (1 : Nat) (Option.none : Option Jvm.ClassFile.FieldType)).before args0 about1 = true := code_word (m := ⟨0, 0⟩) (meth := k0m0) (c := k0c0) (by decide +kernel) rfl rfl rfl (by decide +kernel)
set_option maxRecDepth 65536 in
theorem w_c3 : (Jvm.Cond.code ({ cls := "java/util/ArrayList", name := "<init>", desc := "()V" } : Jvm.MethodName) jdk_38_method_2_code (1 : Nat) (Option.none : Option Jvm.ClassFile.FieldType)).before args0 about1 = true := code_word (m := ⟨12, 0⟩) (meth := k12m0) (c := k12c0) (by decide +kernel) rfl rfl rfl (by decide +kernel)
set_option maxRecDepth 65536 in
theorem w_c4 : (Jvm.Cond.code ({ cls := "java/util/AbstractList", name := "<init>", desc := "()V" } : Jvm.MethodName) jdk_39_method_1_code (1 : Nat) (Option.none : Option Jvm.ClassFile.FieldType)).before args0 about1 = true := code_word (m := ⟨8, 0⟩) (meth := k8m0) (c := k8c0) (by decide +kernel) rfl rfl rfl (by decide +kernel)
set_option maxRecDepth 65536 in
theorem w_c5 : (Jvm.Cond.code ({ cls := "java/util/AbstractCollection", name := "<init>", desc := "()V" } : Jvm.MethodName) jdk_22_method_1_code (1 : Nat) (Option.none : Option Jvm.ClassFile.FieldType)).before args0 about1 = true := code_word (m := ⟨5, 0⟩) (meth := k5m0) (c := k5c0) (by decide +kernel) rfl rfl rfl (by decide +kernel)
set_option maxRecDepth 65536 in
theorem w_c6 : (Jvm.Cond.code ({ cls := "java/util/HashMap", name := "<init>", desc := "()V" } : Jvm.MethodName) jdk_69_method_7_code (1 : Nat) (Option.none : Option Jvm.ClassFile.FieldType)).before args0 about1 = true := code_word (m := ⟨15, 0⟩) (meth := k15m0) (c := k15c0) (by decide +kernel) rfl rfl rfl (by decide +kernel)
set_option maxRecDepth 65536 in
theorem w_c7 : (Jvm.Cond.code ({ cls := "java/util/AbstractMap", name := "<init>", desc := "()V" } : Jvm.MethodName) jdk_71_method_1_code (1 : Nat) (Option.none : Option Jvm.ClassFile.FieldType)).before args0 about1 = true := code_word (m := ⟨14, 0⟩) (meth := k14m0) (c := k14c0) (by decide +kernel) rfl rfl rfl (by decide +kernel)
set_option maxRecDepth 65536 in
theorem w_c8 : (Jvm.Cond.code ({ cls := "java/util/Arrays", name := "fill", desc := "([JJ)V" } : Jvm.MethodName) jdk_65_method_101_code (5 : Nat) (Option.none : Option Jvm.ClassFile.FieldType)).before args0 about1 = true := code_word (m := ⟨16, 2⟩) (meth := k16m2) (c := k16c2) (by decide +kernel) rfl rfl rfl (by decide +kernel)
set_option maxRecDepth 65536 in
theorem w_c9 : (Jvm.Cond.code ({ cls := "com/example/charted/charted/engine/TransitionTable", name := "put", desc := "(ILjava/util/Collection;)V" } : Jvm.MethodName) prog_26_method_3_code (5 : Nat) (Option.none : Option Jvm.ClassFile.FieldType)).before args0 about1 = true := code_word (m := ⟨2, 2⟩) (meth := k2m2) (c := k2c2) (by decide +kernel) rfl rfl rfl (by decide +kernel)
set_option maxRecDepth 65536 in
theorem w_c10 : (Jvm.Cond.code ({ cls := "java/util/ArrayList", name := "size", desc := "()I" } : Jvm.MethodName) jdk_38_method_8_code (1 : Nat) (Option.some Jvm.ClassFile.FieldType.int)).before args0 about1 = true := code_word (m := ⟨12, 1⟩) (meth := k12m1) (c := k12c1) (by decide +kernel) rfl rfl rfl (by decide +kernel)
set_option maxRecDepth 65536 in
theorem w_c11 : (Jvm.Cond.code ({ cls := "java/util/ArrayList", name := "iterator", desc := "()Ljava/util/Iterator;" } : Jvm.MethodName) jdk_38_method_55_code (1 : Nat) (Option.some (Jvm.ClassFile.FieldType.object "java/util/Iterator"))).before args0 about1 = true := code_word (m := ⟨12, 2⟩) (meth := k12m2) (c := k12c2) (by decide +kernel) rfl rfl rfl (by decide +kernel)
set_option maxRecDepth 65536 in
theorem w_c12 : (Jvm.Cond.code ({ cls := "java/util/ArrayList$Itr", name := "<init>", desc := "(Ljava/util/ArrayList;)V" } : Jvm.MethodName) jdk_49_method_1_code (2 : Nat) (Option.none : Option Jvm.ClassFile.FieldType)).before args0 about1 = true := code_word (m := ⟨18, 0⟩) (meth := k18m0) (c := k18c0) (by decide +kernel) rfl rfl rfl (by decide +kernel)
set_option maxRecDepth 65536 in
theorem w_c13 : (Jvm.Cond.code ({ cls := "java/util/ArrayList$Itr", name := "hasNext", desc := "()Z" } : Jvm.MethodName) jdk_49_method_2_code (1 : Nat) (Option.some Jvm.ClassFile.FieldType.boolean)).before args0 about1 = true := code_word (m := ⟨18, 1⟩) (meth := k18m1) (c := k18c1) (by decide +kernel) rfl rfl rfl (by decide +kernel)
set_option maxRecDepth 65536 in
theorem w_c14 : (Jvm.Cond.code ({ cls := "com/example/charted/charted/engine/TransitionTable", name := "has", desc := "(I)Z" } : Jvm.MethodName) prog_26_method_2_code (2 : Nat) (Option.some Jvm.ClassFile.FieldType.boolean)).before args0 about1 = true := code_word (m := ⟨2, 1⟩) (meth := k2m1) (c := k2c1) (by decide +kernel) rfl rfl rfl (by decide +kernel)
set_option maxRecDepth 65536 in
theorem w_c15 : (Jvm.Cond.code ({ cls := "java/lang/Math", name := "max", desc := "(II)I" } : Jvm.MethodName) jdk_29_method_65_code (2 : Nat) (Option.some Jvm.ClassFile.FieldType.int)).before args0 about1 = true := code_word (m := ⟨19, 1⟩) (meth := k19m1) (c := k19c1) (by decide +kernel) rfl rfl rfl (by decide +kernel)
set_option maxRecDepth 65536 in
theorem w_c16 : (Jvm.Cond.code ({ cls := "java/util/Arrays", name := "copyOf", desc := "([JI)[J" } : Jvm.MethodName) jdk_65_method_124_code (3 : Nat) (Option.some (Jvm.ClassFile.FieldType.array Jvm.ClassFile.FieldType.long))).before args0 about1 = true := code_word (m := ⟨16, 5⟩) (meth := k16m5) (c := k16c5) (by decide +kernel) rfl rfl rfl (by decide +kernel)
set_option maxRecDepth 65536 in
theorem w_c17 : (Jvm.Cond.code ({ cls := "java/lang/Math", name := "min", desc := "(II)I" } : Jvm.MethodName) jdk_29_method_69_code (2 : Nat) (Option.some Jvm.ClassFile.FieldType.int)).before args0 about1 = true := code_word (m := ⟨19, 2⟩) (meth := k19m2) (c := k19c2) (by decide +kernel) rfl rfl rfl (by decide +kernel)
set_option maxRecDepth 65536 in
theorem w_c18 : (Jvm.Cond.code ({ cls := "java/util/Arrays", name := "fill", desc := "([JIIJ)V" } : Jvm.MethodName) jdk_65_method_102_code (6 : Nat) (Option.none : Option Jvm.ClassFile.FieldType)).before args0 about1 = true := code_word (m := ⟨16, 3⟩) (meth := k16m3) (c := k16c3) (by decide +kernel) rfl rfl rfl (by decide +kernel)
set_option maxRecDepth 65536 in
theorem w_c19 : (Jvm.Cond.code ({ cls := "java/util/Arrays", name := "rangeCheck", desc := "(III)V" } : Jvm.MethodName) jdk_65_method_30_code (3 : Nat) (Option.none : Option Jvm.ClassFile.FieldType)).before args0 about1 = true := code_word (m := ⟨16, 1⟩) (meth := k16m1) (c := k16c1) (by decide +kernel) rfl rfl rfl (by decide +kernel)
set_option maxRecDepth 65536 in
theorem w_c20 : (Jvm.Cond.code ({ cls := "java/util/Arrays", name := "copyOf", desc := "([II)[I" } : Jvm.MethodName) jdk_65_method_123_code (3 : Nat) (Option.some (Jvm.ClassFile.FieldType.array Jvm.ClassFile.FieldType.int))).before args0 about1 = true := code_word (m := ⟨16, 4⟩) (meth := k16m4) (c := k16c4) (by decide +kernel) rfl rfl rfl (by decide +kernel)
def codes1 : List Jvm.Cond := [Jvm.Cond.code x code maxLocals ret, Jvm.Cond.code ({ cls := "com/example/charted/charted/engine/TransitionTable", name := "<init>", desc := "()V" } : Jvm.MethodName) prog_26_method_1_code (1 : Nat) (Option.none : Option Jvm.ClassFile.FieldType), Jvm.Cond.code ({ cls := "java/lang/Object", name := "<init>", desc := "()V" } : Jvm.MethodName) object_method_1_code (1 : Nat) (Option.none : Option Jvm.ClassFile.FieldType), Jvm.Cond.code ({ cls := "java/util/ArrayList", name := "<init>", desc := "()V" } : Jvm.MethodName) jdk_38_method_2_code (1 : Nat) (Option.none : Option Jvm.ClassFile.FieldType), Jvm.Cond.code ({ cls := "java/util/AbstractList", name := "<init>", desc := "()V" } : Jvm.MethodName) jdk_39_method_1_code (1 : Nat) (Option.none : Option Jvm.ClassFile.FieldType), Jvm.Cond.code ({ cls := "java/util/AbstractCollection", name := "<init>", desc := "()V" } : Jvm.MethodName) jdk_22_method_1_code (1 : Nat) (Option.none : Option Jvm.ClassFile.FieldType), Jvm.Cond.code ({ cls := "java/util/HashMap", name := "<init>", desc := "()V" } : Jvm.MethodName) jdk_69_method_7_code (1 : Nat) (Option.none : Option Jvm.ClassFile.FieldType), Jvm.Cond.code ({ cls := "java/util/AbstractMap", name := "<init>", desc := "()V" } : Jvm.MethodName) jdk_71_method_1_code (1 : Nat) (Option.none : Option Jvm.ClassFile.FieldType), Jvm.Cond.code ({ cls := "java/util/Arrays", name := "fill", desc := "([JJ)V" } : Jvm.MethodName) jdk_65_method_101_code (5 : Nat) (Option.none : Option Jvm.ClassFile.FieldType), Jvm.Cond.code ({ cls := "com/example/charted/charted/engine/TransitionTable", name := "put", desc := "(ILjava/util/Collection;)V" } : Jvm.MethodName) prog_26_method_3_code (5 : Nat) (Option.none : Option Jvm.ClassFile.FieldType), Jvm.Cond.code ({ cls := "java/util/ArrayList", name := "size", desc := "()I" } : Jvm.MethodName) jdk_38_method_8_code (1 : Nat) (Option.some Jvm.ClassFile.FieldType.int), Jvm.Cond.code ({ cls := "java/util/ArrayList", name := "iterator", desc := "()Ljava/util/Iterator;" } : Jvm.MethodName) jdk_38_method_55_code (1 : Nat) (Option.some (Jvm.ClassFile.FieldType.object "java/util/Iterator")), Jvm.Cond.code ({ cls := "java/util/ArrayList$Itr", name := "<init>", desc := "(Ljava/util/ArrayList;)V" } : Jvm.MethodName) jdk_49_method_1_code (2 : Nat) (Option.none : Option Jvm.ClassFile.FieldType), Jvm.Cond.code ({ cls := "java/util/ArrayList$Itr", name := "hasNext", desc := "()Z" } : Jvm.MethodName) jdk_49_method_2_code (1 : Nat) (Option.some Jvm.ClassFile.FieldType.boolean), Jvm.Cond.code ({ cls := "com/example/charted/charted/engine/TransitionTable", name := "has", desc := "(I)Z" } : Jvm.MethodName) prog_26_method_2_code (2 : Nat) (Option.some Jvm.ClassFile.FieldType.boolean), Jvm.Cond.code ({ cls := "java/lang/Math", name := "max", desc := "(II)I" } : Jvm.MethodName) jdk_29_method_65_code (2 : Nat) (Option.some Jvm.ClassFile.FieldType.int), Jvm.Cond.code ({ cls := "java/util/Arrays", name := "copyOf", desc := "([JI)[J" } : Jvm.MethodName) jdk_65_method_124_code (3 : Nat) (Option.some (Jvm.ClassFile.FieldType.array Jvm.ClassFile.FieldType.long)), Jvm.Cond.code ({ cls := "java/lang/Math", name := "min", desc := "(II)I" } : Jvm.MethodName) jdk_29_method_69_code (2 : Nat) (Option.some Jvm.ClassFile.FieldType.int), Jvm.Cond.code ({ cls := "java/util/Arrays", name := "fill", desc := "([JIIJ)V" } : Jvm.MethodName) jdk_65_method_102_code (6 : Nat) (Option.none : Option Jvm.ClassFile.FieldType), Jvm.Cond.code ({ cls := "java/util/Arrays", name := "rangeCheck", desc := "(III)V" } : Jvm.MethodName) jdk_65_method_30_code (3 : Nat) (Option.none : Option Jvm.ClassFile.FieldType), Jvm.Cond.code ({ cls := "java/util/Arrays", name := "copyOf", desc := "([II)[I" } : Jvm.MethodName) jdk_65_method_123_code (3 : Nat) (Option.some (Jvm.ClassFile.FieldType.array Jvm.ClassFile.FieldType.int))]
set_option maxRecDepth 65536 in
theorem codes_eq : words1.filter isCode = codes1 := rfl
theorem w_codes : ∀ c ∈ words1.filter isCode, c.before args0 about1 = true := by
  rw [codes_eq]
  intro c hc
  simp only [codes1, List.mem_cons, List.not_mem_nil, or_false] at hc
  rcases hc with rfl | rfl | rfl | rfl | rfl | rfl | rfl | rfl | rfl | rfl | rfl | rfl | rfl | rfl | rfl | rfl | rfl | rfl | rfl | rfl | rfl
  · exact w_c0
  · exact w_c1
  · exact w_c2
  · exact w_c3
  · exact w_c4
  · exact w_c5
  · exact w_c6
  · exact w_c7
  · exact w_c8
  · exact w_c9
  · exact w_c10
  · exact w_c11
  · exact w_c12
  · exact w_c13
  · exact w_c14
  · exact w_c15
  · exact w_c16
  · exact w_c17
  · exact w_c18
  · exact w_c19
  · exact w_c20
set_option maxRecDepth 65536 in
theorem w_t1 : (words1.take 24).all (fun c => isCode c || c.before args0 about1) = true := by decide +kernel
set_option maxRecDepth 65536 in
theorem w_t2 : ((words1.drop 24).take 24).all (fun c => isCode c || c.before args0 about1) = true := by decide +kernel
set_option maxRecDepth 65536 in
theorem w_t3 : (((words1.drop 24).drop 24).take 24).all (fun c => isCode c || c.before args0 about1) = true := by decide +kernel
set_option maxRecDepth 65536 in
theorem w_t4 : ((((words1.drop 24).drop 24).drop 24).take 24).all (fun c => isCode c || c.before args0 about1) = true := by decide +kernel
set_option maxRecDepth 65536 in
theorem w_t5 : (((((words1.drop 24).drop 24).drop 24).drop 24).take 24).all (fun c => isCode c || c.before args0 about1) = true := by decide +kernel
set_option maxRecDepth 65536 in
theorem w_t6 : ((((((words1.drop 24).drop 24).drop 24).drop 24).drop 24).take 24).all (fun c => isCode c || c.before args0 about1) = true := by decide +kernel
set_option maxRecDepth 65536 in
theorem w_t7 : ((((((words1.drop 24).drop 24).drop 24).drop 24).drop 24).drop 24).all (fun c => isCode c || c.before args0 about1) = true := by decide +kernel
theorem w_tables : (allAtoms (Jvm.Cond.code x code maxLocals ret :: tables_1)).before args0 about1 = true := by
  rw [allAtoms_all]
  show words1.all (fun c => c.before args0 about1) = true
  refine all_split ?_ w_codes
  rw [← List.take_append_drop 24 words1, List.all_append, w_t1, ← List.take_append_drop 24 (words1.drop 24), List.all_append, w_t2, ← List.take_append_drop 24 ((words1.drop 24).drop 24), List.all_append, w_t3, ← List.take_append_drop 24 (((words1.drop 24).drop 24).drop 24), List.all_append, w_t4, ← List.take_append_drop 24 ((((words1.drop 24).drop 24).drop 24).drop 24), List.all_append, w_t5, ← List.take_append_drop 24 (((((words1.drop 24).drop 24).drop 24).drop 24).drop 24), List.all_append, w_t6, w_t7]
  rfl
set_option maxRecDepth 65536 in
theorem w_rest : rest_1_c.before args0 about1 = true := by decide +kernel
set_option maxRecDepth 65536 in
theorem w_case : (Jvm.Cond.and given_1 narrow_1).before args0 about1 = true := by decide +kernel
theorem w_applies : (headSpec (Jvm.Cond.code x code maxLocals ret :: tables_1) room_1).applies x e0.platform about1 = true :=
  (Spec.applies_iff w_frames).mpr ⟨w_running, w_runnable, w_alone, w_named, w_hears, w_ripe, w_room, w_tables⟩
theorem atStart : AtStart classFile x code maxLocals ret World_1 tables_1 room_1 Calls_1 rest_1 Pre_1 launch0 p0 e0 about1 theMethod args0 below0 :=
  ⟨lists_1, trivial, launch0.admits_env _ _ _, launch0.least_env, fairChoices_fair.cas, fairChoices_fair.clock, w_frames, w_args, w_heap, w_applies, trivial, w_rest, w_case⟩
end start1
theorem witness_1 : WitnessClaimed_1 := ⟨start1.p0, start1.e0, start1.about1, start1.theMethod, start1.args0, start1.below0, start1.atStart⟩
end Jvm.Pilot.@@N@@
