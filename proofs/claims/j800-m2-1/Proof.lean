import JvmDerived
import JvmDerived.Pilot.@@N@@Statement
import JvmDerived.Pilot.@@N@@Code
set_option linter.unusedVariables false
set_option linter.unusedSimpArgs false
@@BLOCK:LamKit.lean.txt@@
namespace Jvm.Pilot.@@N@@
open Jvm Jvm.ClassFile Sem Op Lib Jvm.Free Jvm.Stand Jvm.LawKit Jvm.RoadKit Bundle Jvm.Pilot.@@N@@.Jvm.D
/-! ## the shared layer: own_Go and its laws -/
def Go (p : Program) (e : Env) (below : List Frame) (P : State → Outcome → Prop) (T : State) (g : JFrame) : Prop := ∃ t o, Steps p.tables e below (T.setTop g) t ∧ t.status = .running ∧ Ended t below o ∧ P t o
def RP (s : State) (k n : Nat) (Q : Option Value → Heap → List Loc → Prop) (t : State) (o : Outcome) : Prop := ∃ v L, o = .returned v ∧ Q v t.heap L ∧ FrameEnd s o t L k n
theorem wd {a0 : Array Value} {Z : State} (hw : ∀ d ∈ tables_1, d.before a0 Z = true) (k : Nat) {d : Jvm.Cond} (h : tables_1[k]? = some d) : d.before a0 Z = true := hw _ (List.mem_of_getElem? h)
section OwnGo
variable {p : Program} {l : Launch} {e : Env} {R : Room} {s : State} {m : MethodId} {args : Array Value} {below : List Frame} {meth : Method} {c : Code} {T : State} {locs : List Loc} {cells slots : Nat} {P : State → Outcome → Prop} {pc : Nat} {Ls : Array Slot} {st : List Value} {Z : State} {a0 : Array Value} {h : Heap}
theorem Go.stp {T' : State} {g g' : JFrame} (G : Go p e below P T' g') (k : ∀ t, Steps p.tables e below (T'.setTop g') t → Steps p.tables e below (T.setTop g) t) : Go p e below P T g := by
  obtain ⟨t, o, h, r⟩ := G
  exact ⟨t, o, k t h, r⟩
theorem Go.cast {g g' : JFrame} (q : g = g') (G : Go p e below P T g') : Go p e below P T g := q ▸ G
theorem g_iload (X : Stand p l e R s m args below meth c T locs cells slots) (hx : p.tables.exec = Jvm.exec) {k : Nat} {v : Int32} (hl : Ls[k]? = some (.val (.int v))) (hd : decode c.code pc = .ok (.iload k, 2)) (pc' : Nat) (hp : pc + 2 = pc') (G : Go p e below P T (mkF m pc' Ls (.int v :: st))) : Go p e below P T (mkF m pc Ls st) := by
  subst hp
  exact G.stp fun _ h => XS.iload X.here hx rfl hd hl h
theorem g_iloadN (X : Stand p l e R s m args below meth c T locs cells slots) (hx : p.tables.exec = Jvm.exec) {k : Fin 4} {v : Int32} (hl : Ls[k.val]? = some (.val (.int v))) (hd : decode c.code pc = .ok (.iload_n k, 1)) (pc' : Nat) (hp : pc + 1 = pc') (G : Go p e below P T (mkF m pc' Ls (.int v :: st))) : Go p e below P T (mkF m pc Ls st) := by
  subst hp
  exact G.stp fun _ h => XS.iloadN X.here hx rfl hd hl h
theorem g_istore (X : Stand p l e R s m args below meth c T locs cells slots) (hx : p.tables.exec = Jvm.exec) {k : Nat} {v : Int32} (l' : Array Slot) (hl : storeLocals Ls k (.int v) = some l') (hd : decode c.code pc = .ok (.istore k, 2)) (pc' : Nat) (hp : pc + 2 = pc') (G : Go p e below P T (mkF m pc' l' st)) : Go p e below P T (mkF m pc Ls (.int v :: st)) := by
  subst hp
  exact G.stp fun _ h => XS.istore X.here hx rfl hd rfl hl h
theorem g_istoreN (X : Stand p l e R s m args below meth c T locs cells slots) (hx : p.tables.exec = Jvm.exec) {k : Fin 4} {v : Int32} (l' : Array Slot) (hl : storeLocals Ls k.val (.int v) = some l') (hd : decode c.code pc = .ok (.istore_n k, 1)) (pc' : Nat) (hp : pc + 1 = pc') (G : Go p e below P T (mkF m pc' l' st)) : Go p e below P T (mkF m pc Ls (.int v :: st)) := by
  subst hp
  exact G.stp fun _ h => XS.istoreN X.here hx rfl hd rfl hl h
theorem g_lload (X : Stand p l e R s m args below meth c T locs cells slots) (hx : p.tables.exec = Jvm.exec) {k : Nat} {v : Int64} (hl : Ls[k]? = some (.val (.long v))) (hd : decode c.code pc = .ok (.lload k, 2)) (pc' : Nat) (hp : pc + 2 = pc') (G : Go p e below P T (mkF m pc' Ls (.long v :: st))) : Go p e below P T (mkF m pc Ls st) := by
  subst hp
  exact G.stp fun _ h => XT.lload X.here hx rfl hd hl h
theorem g_lloadN (X : Stand p l e R s m args below meth c T locs cells slots) (hx : p.tables.exec = Jvm.exec) {k : Fin 4} {v : Int64} (hl : Ls[k.val]? = some (.val (.long v))) (hd : decode c.code pc = .ok (.lload_n k, 1)) (pc' : Nat) (hp : pc + 1 = pc') (G : Go p e below P T (mkF m pc' Ls (.long v :: st))) : Go p e below P T (mkF m pc Ls st) := by
  subst hp
  exact G.stp fun _ h => XT.lloadN X.here hx rfl hd hl h
theorem g_lstore (X : Stand p l e R s m args below meth c T locs cells slots) (hx : p.tables.exec = Jvm.exec) {k : Nat} {v : Int64} (l' : Array Slot) (hl : storeLocals Ls k (.long v) = some l') (hd : decode c.code pc = .ok (.lstore k, 2)) (pc' : Nat) (hp : pc + 2 = pc') (G : Go p e below P T (mkF m pc' l' st)) : Go p e below P T (mkF m pc Ls (.long v :: st)) := by
  subst hp
  exact G.stp fun _ h => XT.lstore X.here hx rfl hd rfl hl h
theorem g_lstoreN (X : Stand p l e R s m args below meth c T locs cells slots) (hx : p.tables.exec = Jvm.exec) {k : Fin 4} {v : Int64} (l' : Array Slot) (hl : storeLocals Ls k.val (.long v) = some l') (hd : decode c.code pc = .ok (.lstore_n k, 1)) (pc' : Nat) (hp : pc + 1 = pc') (G : Go p e below P T (mkF m pc' l' st)) : Go p e below P T (mkF m pc Ls (.long v :: st)) := by
  subst hp
  exact G.stp fun _ h => XT.lstoreN X.here hx rfl hd rfl hl h
theorem g_aload (X : Stand p l e R s m args below meth c T locs cells slots) (hx : p.tables.exec = Jvm.exec) {k : Nat} {v : Value} (hl : Ls[k]? = some (.val v)) (hv : v.isRef = true) (hd : decode c.code pc = .ok (.aload k, 2)) (pc' : Nat) (hp : pc + 2 = pc') (G : Go p e below P T (mkF m pc' Ls (v :: st))) : Go p e below P T (mkF m pc Ls st) := by
  subst hp
  exact G.stp fun _ h => XS.aload X.here hx rfl hd hl hv h
theorem g_aloadN (X : Stand p l e R s m args below meth c T locs cells slots) (hx : p.tables.exec = Jvm.exec) {k : Fin 4} {v : Value} (hl : Ls[k.val]? = some (.val v)) (hv : v.isRef = true) (hd : decode c.code pc = .ok (.aload_n k, 1)) (pc' : Nat) (hp : pc + 1 = pc') (G : Go p e below P T (mkF m pc' Ls (v :: st))) : Go p e below P T (mkF m pc Ls st) := by
  subst hp
  exact G.stp fun _ h => XS.aloadN X.here hx rfl hd hl hv h
theorem g_astore (X : Stand p l e R s m args below meth c T locs cells slots) (hx : p.tables.exec = Jvm.exec) {k : Nat} {v : Value} (l' : Array Slot) (hv : v.isRef = true) (hl : storeLocals Ls k v = some l') (hd : decode c.code pc = .ok (.astore k, 2)) (pc' : Nat) (hp : pc + 2 = pc') (G : Go p e below P T (mkF m pc' l' st)) : Go p e below P T (mkF m pc Ls (v :: st)) := by
  subst hp
  exact G.stp fun _ h => XS.astore X.here hx rfl hd rfl hv hl h
theorem g_astoreN (X : Stand p l e R s m args below meth c T locs cells slots) (hx : p.tables.exec = Jvm.exec) {k : Fin 4} {v : Value} (l' : Array Slot) (hv : v.isRef = true) (hl : storeLocals Ls k.val v = some l') (hd : decode c.code pc = .ok (.astore_n k, 1)) (pc' : Nat) (hp : pc + 1 = pc') (G : Go p e below P T (mkF m pc' l' st)) : Go p e below P T (mkF m pc Ls (v :: st)) := by
  subst hp
  exact G.stp fun _ h => XS.astoreN X.here hx rfl hd rfl hv hl h
theorem g_iconst (X : Stand p l e R s m args below meth c T locs cells slots) (hx : p.tables.exec = Jvm.exec) {i : Int} (v : Int32) (hv : Int32.ofInt i = v) (hd : decode c.code pc = .ok (.iconst i, 1)) (pc' : Nat) (hp : pc + 1 = pc') (G : Go p e below P T (mkF m pc' Ls (.int v :: st))) : Go p e below P T (mkF m pc Ls st) := by
  subst hp
  exact G.stp fun _ h => XT.iconstV X.here hx rfl v hd hv h
theorem g_bipush (X : Stand p l e R s m args below meth c T locs cells slots) (hx : p.tables.exec = Jvm.exec) {i : Int} (v : Int32) (hv : (Int8.ofInt i).toInt32 = v) (hd : decode c.code pc = .ok (.bipush i, 2)) (pc' : Nat) (hp : pc + 2 = pc') (G : Go p e below P T (mkF m pc' Ls (.int v :: st))) : Go p e below P T (mkF m pc Ls st) := by
  subst hp
  exact G.stp fun _ h => XT.bipushV X.here hx rfl v hd hv h
theorem g_sipush (X : Stand p l e R s m args below meth c T locs cells slots) (hx : p.tables.exec = Jvm.exec) {i : Int} (v : Int32) (hv : (Int16.ofInt i).toInt32 = v) (hd : decode c.code pc = .ok (.sipush i, 3)) (pc' : Nat) (hp : pc + 3 = pc') (G : Go p e below P T (mkF m pc' Ls (.int v :: st))) : Go p e below P T (mkF m pc Ls st) := by
  subst hp
  exact G.stp fun _ h => XT.sipushV X.here hx rfl v hd hv h
theorem g_lconst (X : Stand p l e R s m args below meth c T locs cells slots) (hx : p.tables.exec = Jvm.exec) {i : Fin 2} (v : Int64) (hv : Int64.ofNat i = v) (hd : decode c.code pc = .ok (.lconst i, 1)) (pc' : Nat) (hp : pc + 1 = pc') (G : Go p e below P T (mkF m pc' Ls (.long v :: st))) : Go p e below P T (mkF m pc Ls st) := by
  subst hp
  exact G.stp fun _ h => XT.lconstV X.here hx rfl v hd hv h
theorem g_aconst_null (X : Stand p l e R s m args below meth c T locs cells slots) (hx : p.tables.exec = Jvm.exec)  (hd : decode c.code pc = .ok (.aconst_null, 1)) (pc' : Nat) (hp : pc + 1 = pc') (G : Go p e below P T (mkF m pc' Ls (.null :: st))) : Go p e below P T (mkF m pc Ls st) := by
  subst hp
  exact G.stp fun _ h => XS.aconstNull X.here hx rfl hd h
theorem g_iadd (X : Stand p l e R s m args below meth c T locs cells slots) (hx : p.tables.exec = Jvm.exec) {x y : Int32} (hd : decode c.code pc = .ok (.iadd, 1)) (pc' : Nat) (hp : pc + 1 = pc') (G : Go p e below P T (mkF m pc' Ls (.int (x + y) :: st))) : Go p e below P T (mkF m pc Ls (.int y :: .int x :: st)) := by
  subst hp
  exact G.stp fun _ h => XS.iadd X.here hx rfl hd rfl h
theorem g_ladd (X : Stand p l e R s m args below meth c T locs cells slots) (hx : p.tables.exec = Jvm.exec) {x y : Int64} (hd : decode c.code pc = .ok (.ladd, 1)) (pc' : Nat) (hp : pc + 1 = pc') (G : Go p e below P T (mkF m pc' Ls (.long (x + y) :: st))) : Go p e below P T (mkF m pc Ls (.long y :: .long x :: st)) := by
  subst hp
  exact G.stp fun _ h => XT.ladd X.here hx rfl hd rfl h
theorem g_isub (X : Stand p l e R s m args below meth c T locs cells slots) (hx : p.tables.exec = Jvm.exec) {x y : Int32} (hd : decode c.code pc = .ok (.isub, 1)) (pc' : Nat) (hp : pc + 1 = pc') (G : Go p e below P T (mkF m pc' Ls (.int (x - y) :: st))) : Go p e below P T (mkF m pc Ls (.int y :: .int x :: st)) := by
  subst hp
  exact G.stp fun _ h => XS.isub X.here hx rfl hd rfl h
theorem g_lsub (X : Stand p l e R s m args below meth c T locs cells slots) (hx : p.tables.exec = Jvm.exec) {x y : Int64} (hd : decode c.code pc = .ok (.lsub, 1)) (pc' : Nat) (hp : pc + 1 = pc') (G : Go p e below P T (mkF m pc' Ls (.long (x - y) :: st))) : Go p e below P T (mkF m pc Ls (.long y :: .long x :: st)) := by
  subst hp
  exact G.stp fun _ h => XT.lsub X.here hx rfl hd rfl h
theorem g_imul (X : Stand p l e R s m args below meth c T locs cells slots) (hx : p.tables.exec = Jvm.exec) {x y : Int32} (hd : decode c.code pc = .ok (.imul, 1)) (pc' : Nat) (hp : pc + 1 = pc') (G : Go p e below P T (mkF m pc' Ls (.int (x * y) :: st))) : Go p e below P T (mkF m pc Ls (.int y :: .int x :: st)) := by
  subst hp
  exact G.stp fun _ h => XS.imul X.here hx rfl hd rfl h
theorem g_lmul (X : Stand p l e R s m args below meth c T locs cells slots) (hx : p.tables.exec = Jvm.exec) {x y : Int64} (hd : decode c.code pc = .ok (.lmul, 1)) (pc' : Nat) (hp : pc + 1 = pc') (G : Go p e below P T (mkF m pc' Ls (.long (x * y) :: st))) : Go p e below P T (mkF m pc Ls (.long y :: .long x :: st)) := by
  subst hp
  exact G.stp fun _ h => XT.lmul X.here hx rfl hd rfl h
theorem g_iand (X : Stand p l e R s m args below meth c T locs cells slots) (hx : p.tables.exec = Jvm.exec) {x y : Int32} (hd : decode c.code pc = .ok (.iand, 1)) (pc' : Nat) (hp : pc + 1 = pc') (G : Go p e below P T (mkF m pc' Ls (.int (x &&& y) :: st))) : Go p e below P T (mkF m pc Ls (.int y :: .int x :: st)) := by
  subst hp
  exact G.stp fun _ h => XS.iand X.here hx rfl hd rfl h
theorem g_land (X : Stand p l e R s m args below meth c T locs cells slots) (hx : p.tables.exec = Jvm.exec) {x y : Int64} (hd : decode c.code pc = .ok (.land, 1)) (pc' : Nat) (hp : pc + 1 = pc') (G : Go p e below P T (mkF m pc' Ls (.long (x &&& y) :: st))) : Go p e below P T (mkF m pc Ls (.long y :: .long x :: st)) := by
  subst hp
  exact G.stp fun _ h => XT.land X.here hx rfl hd rfl h
theorem g_ior (X : Stand p l e R s m args below meth c T locs cells slots) (hx : p.tables.exec = Jvm.exec) {x y : Int32} (hd : decode c.code pc = .ok (.ior, 1)) (pc' : Nat) (hp : pc + 1 = pc') (G : Go p e below P T (mkF m pc' Ls (.int (x ||| y) :: st))) : Go p e below P T (mkF m pc Ls (.int y :: .int x :: st)) := by
  subst hp
  exact G.stp fun _ h => XT.ior X.here hx rfl hd rfl h
theorem g_lor (X : Stand p l e R s m args below meth c T locs cells slots) (hx : p.tables.exec = Jvm.exec) {x y : Int64} (hd : decode c.code pc = .ok (.lor, 1)) (pc' : Nat) (hp : pc + 1 = pc') (G : Go p e below P T (mkF m pc' Ls (.long (x ||| y) :: st))) : Go p e below P T (mkF m pc Ls (.long y :: .long x :: st)) := by
  subst hp
  exact G.stp fun _ h => XT.lor X.here hx rfl hd rfl h
theorem g_ixor (X : Stand p l e R s m args below meth c T locs cells slots) (hx : p.tables.exec = Jvm.exec) {x y : Int32} (hd : decode c.code pc = .ok (.ixor, 1)) (pc' : Nat) (hp : pc + 1 = pc') (G : Go p e below P T (mkF m pc' Ls (.int (x ^^^ y) :: st))) : Go p e below P T (mkF m pc Ls (.int y :: .int x :: st)) := by
  subst hp
  exact G.stp fun _ h => XT.ixor X.here hx rfl hd rfl h
theorem g_lxor (X : Stand p l e R s m args below meth c T locs cells slots) (hx : p.tables.exec = Jvm.exec) {x y : Int64} (hd : decode c.code pc = .ok (.lxor, 1)) (pc' : Nat) (hp : pc + 1 = pc') (G : Go p e below P T (mkF m pc' Ls (.long (x ^^^ y) :: st))) : Go p e below P T (mkF m pc Ls (.long y :: .long x :: st)) := by
  subst hp
  exact G.stp fun _ h => XT.lxor X.here hx rfl hd rfl h
theorem g_idiv (X : Stand p l e R s m args below meth c T locs cells slots) (hx : p.tables.exec = Jvm.exec) {x y : Int32} (hy : y ≠ 0) (hd : decode c.code pc = .ok (.idiv, 1)) (pc' : Nat) (hp : pc + 1 = pc') (G : Go p e below P T (mkF m pc' Ls (.int (x / y) :: st))) : Go p e below P T (mkF m pc Ls (.int y :: .int x :: st)) := by
  subst hp
  exact G.stp fun _ h => XS.idiv X.here hx rfl hd rfl hy h
theorem g_irem (X : Stand p l e R s m args below meth c T locs cells slots) (hx : p.tables.exec = Jvm.exec) {x y : Int32} (hy : y ≠ 0) (hd : decode c.code pc = .ok (.irem, 1)) (pc' : Nat) (hp : pc + 1 = pc') (G : Go p e below P T (mkF m pc' Ls (.int (x % y) :: st))) : Go p e below P T (mkF m pc Ls (.int y :: .int x :: st)) := by
  subst hp
  exact G.stp fun _ h => iremM X hx rfl hd rfl hy h
theorem g_ldiv (X : Stand p l e R s m args below meth c T locs cells slots) (hx : p.tables.exec = Jvm.exec) {x y : Int64} (hy : y ≠ 0) (hd : decode c.code pc = .ok (.ldiv, 1)) (pc' : Nat) (hp : pc + 1 = pc') (G : Go p e below P T (mkF m pc' Ls (.long (x / y) :: st))) : Go p e below P T (mkF m pc Ls (.long y :: .long x :: st)) := by
  subst hp
  exact G.stp fun _ h => XT.ldiv X.here hx rfl hd rfl hy h
theorem g_lrem (X : Stand p l e R s m args below meth c T locs cells slots) (hx : p.tables.exec = Jvm.exec) {x y : Int64} (hy : y ≠ 0) (hd : decode c.code pc = .ok (.lrem, 1)) (pc' : Nat) (hp : pc + 1 = pc') (G : Go p e below P T (mkF m pc' Ls (.long (x % y) :: st))) : Go p e below P T (mkF m pc Ls (.long y :: .long x :: st)) := by
  subst hp
  rw [← lrem_mod] at G
  exact G.stp fun _ h => XT.lrem X.here hx rfl hd rfl hy h
theorem g_ishl (X : Stand p l e R s m args below meth c T locs cells slots) (hx : p.tables.exec = Jvm.exec) {x y : Int32} (hd : decode c.code pc = .ok (.ishl, 1)) (pc' : Nat) (hp : pc + 1 = pc') (G : Go p e below P T (mkF m pc' Ls (.int (x <<< (y &&& 31)) :: st))) : Go p e below P T (mkF m pc Ls (.int y :: .int x :: st)) := by
  subst hp
  exact G.stp fun _ h => XT.ishl X.here hx rfl hd rfl h
theorem g_ishr (X : Stand p l e R s m args below meth c T locs cells slots) (hx : p.tables.exec = Jvm.exec) {x y : Int32} (hd : decode c.code pc = .ok (.ishr, 1)) (pc' : Nat) (hp : pc + 1 = pc') (G : Go p e below P T (mkF m pc' Ls (.int (x >>> (y &&& 31)) :: st))) : Go p e below P T (mkF m pc Ls (.int y :: .int x :: st)) := by
  subst hp
  exact G.stp fun _ h => XT.ishr X.here hx rfl hd rfl h
theorem g_iushr (X : Stand p l e R s m args below meth c T locs cells slots) (hx : p.tables.exec = Jvm.exec) {x y : Int32} (hd : decode c.code pc = .ok (.iushr, 1)) (pc' : Nat) (hp : pc + 1 = pc') (G : Go p e below P T (mkF m pc' Ls (.int (XT.ushr x y) :: st))) : Go p e below P T (mkF m pc Ls (.int y :: .int x :: st)) := by
  subst hp
  exact G.stp fun _ h => XT.iushr X.here hx rfl hd rfl h
theorem g_lshl (X : Stand p l e R s m args below meth c T locs cells slots) (hx : p.tables.exec = Jvm.exec) {x : Int64} {y : Int32} (hd : decode c.code pc = .ok (.lshl, 1)) (pc' : Nat) (hp : pc + 1 = pc') (G : Go p e below P T (mkF m pc' Ls (.long (x <<< (y &&& 0x3f).toInt64) :: st))) : Go p e below P T (mkF m pc Ls (.int y :: .long x :: st)) := by
  subst hp
  exact G.stp fun _ h => XS.lshl X.here hx rfl hd rfl h
theorem g_lshr (X : Stand p l e R s m args below meth c T locs cells slots) (hx : p.tables.exec = Jvm.exec) {x : Int64} {y : Int32} (hd : decode c.code pc = .ok (.lshr, 1)) (pc' : Nat) (hp : pc + 1 = pc') (G : Go p e below P T (mkF m pc' Ls (.long (x >>> (y &&& 0x3f).toInt64) :: st))) : Go p e below P T (mkF m pc Ls (.int y :: .long x :: st)) := by
  subst hp
  exact G.stp fun _ h => XS.lshr X.here hx rfl hd rfl h
theorem g_lushr (X : Stand p l e R s m args below meth c T locs cells slots) (hx : p.tables.exec = Jvm.exec) {x : Int64} {y : Int32} (hd : decode c.code pc = .ok (.lushr, 1)) (pc' : Nat) (hp : pc + 1 = pc') (G : Go p e below P T (mkF m pc' Ls (.long (XT.ushrL x y) :: st))) : Go p e below P T (mkF m pc Ls (.int y :: .long x :: st)) := by
  subst hp
  exact G.stp fun _ h => XT.lushr X.here hx rfl hd rfl h
theorem g_ineg (X : Stand p l e R s m args below meth c T locs cells slots) (hx : p.tables.exec = Jvm.exec) {x : Int32} (hd : decode c.code pc = .ok (.ineg, 1)) (pc' : Nat) (hp : pc + 1 = pc') (G : Go p e below P T (mkF m pc' Ls (.int (-x) :: st))) : Go p e below P T (mkF m pc Ls (.int x :: st)) := by
  subst hp
  exact G.stp fun _ h => XS.ineg X.here hx rfl hd rfl h
theorem g_i2l (X : Stand p l e R s m args below meth c T locs cells slots) (hx : p.tables.exec = Jvm.exec) {x : Int32} (hd : decode c.code pc = .ok (.i2l, 1)) (pc' : Nat) (hp : pc + 1 = pc') (G : Go p e below P T (mkF m pc' Ls (.long x.toInt64 :: st))) : Go p e below P T (mkF m pc Ls (.int x :: st)) := by
  subst hp
  exact G.stp fun _ h => XT.i2l X.here hx rfl hd rfl h
theorem g_l2i (X : Stand p l e R s m args below meth c T locs cells slots) (hx : p.tables.exec = Jvm.exec) {x : Int64} (hd : decode c.code pc = .ok (.l2i, 1)) (pc' : Nat) (hp : pc + 1 = pc') (G : Go p e below P T (mkF m pc' Ls (.int x.toInt32 :: st))) : Go p e below P T (mkF m pc Ls (.long x :: st)) := by
  subst hp
  exact G.stp fun _ h => XT.l2i X.here hx rfl hd rfl h
theorem g_i2b (X : Stand p l e R s m args below meth c T locs cells slots) (hx : p.tables.exec = Jvm.exec) {x : Int32} (hd : decode c.code pc = .ok (.i2b, 1)) (pc' : Nat) (hp : pc + 1 = pc') (G : Go p e below P T (mkF m pc' Ls (.int x.toInt8.toInt32 :: st))) : Go p e below P T (mkF m pc Ls (.int x :: st)) := by
  subst hp
  exact G.stp fun _ h => XT.i2b X.here hx rfl hd rfl h
theorem g_i2s (X : Stand p l e R s m args below meth c T locs cells slots) (hx : p.tables.exec = Jvm.exec) {x : Int32} (hd : decode c.code pc = .ok (.i2s, 1)) (pc' : Nat) (hp : pc + 1 = pc') (G : Go p e below P T (mkF m pc' Ls (.int x.toInt16.toInt32 :: st))) : Go p e below P T (mkF m pc Ls (.int x :: st)) := by
  subst hp
  exact G.stp fun _ h => XT.i2s X.here hx rfl hd rfl h
theorem g_i2c (X : Stand p l e R s m args below meth c T locs cells slots) (hx : p.tables.exec = Jvm.exec) {x : Int32} (hd : decode c.code pc = .ok (.i2c, 1)) (pc' : Nat) (hp : pc + 1 = pc') (G : Go p e below P T (mkF m pc' Ls (.int x.toUInt32.toUInt16.toUInt32.toInt32 :: st))) : Go p e below P T (mkF m pc Ls (.int x :: st)) := by
  subst hp
  exact G.stp fun _ h => XT.i2c X.here hx rfl hd rfl h
theorem g_pop (X : Stand p l e R s m args below meth c T locs cells slots) (hx : p.tables.exec = Jvm.exec) {x : Value} (hc : x.category = 1) (hd : decode c.code pc = .ok (.pop, 1)) (pc' : Nat) (hp : pc + 1 = pc') (G : Go p e below P T (mkF m pc' Ls st)) : Go p e below P T (mkF m pc Ls (x :: st)) := by
  subst hp
  exact G.stp fun _ h => XT.pop X.here hx rfl hd rfl hc h
theorem g_dup (X : Stand p l e R s m args below meth c T locs cells slots) (hx : p.tables.exec = Jvm.exec) {x : Value} (hc : x.category = 1) (hd : decode c.code pc = .ok (.dup, 1)) (pc' : Nat) (hp : pc + 1 = pc') (G : Go p e below P T (mkF m pc' Ls (x :: x :: st))) : Go p e below P T (mkF m pc Ls (x :: st)) := by
  subst hp
  exact G.stp fun _ h => XS.dup X.here hx rfl hd rfl hc h
theorem g_dup_x1 (X : Stand p l e R s m args below meth c T locs cells slots) (hx : p.tables.exec = Jvm.exec) {x y : Value} (hc : x.category = 1) (hc' : y.category = 1) (hd : decode c.code pc = .ok (.dup_x1, 1)) (pc' : Nat) (hp : pc + 1 = pc') (G : Go p e below P T (mkF m pc' Ls (x :: y :: x :: st))) : Go p e below P T (mkF m pc Ls (x :: y :: st)) := by
  subst hp
  exact G.stp fun _ h => XT.dupX1 X.here hx rfl hd rfl hc hc' h
theorem g_dup2 (X : Stand p l e R s m args below meth c T locs cells slots) (hx : p.tables.exec = Jvm.exec) {x y : Value} (hc : x.category = 1) (hc' : y.category = 1) (hd : decode c.code pc = .ok (.dup2, 1)) (pc' : Nat) (hp : pc + 1 = pc') (G : Go p e below P T (mkF m pc' Ls (x :: y :: x :: y :: st))) : Go p e below P T (mkF m pc Ls (x :: y :: st)) := by
  subst hp
  exact G.stp fun _ h => XT.dup2 X.here hx rfl hd rfl hc hc' h
theorem g_iinc (X : Stand p l e R s m args below meth c T locs cells slots) (hx : p.tables.exec = Jvm.exec) {k : Nat} {cst : Int} {x : Int32} (v : Int32) (hv : Int32.ofInt cst = v) (hl : Ls[k]? = some (.val (.int x))) (l' : Array Slot) (hl' : storeLocals Ls k (.int (x + v)) = some l') (hd : decode c.code pc = .ok (.iinc k cst, 3)) (pc' : Nat) (hp : pc + 3 = pc') (G : Go p e below P T (mkF m pc' l' st)) : Go p e below P T (mkF m pc Ls st) := by
  subst hp
  exact G.stp fun _ h => XT.iincV X.here hx rfl v hd hv hl hl' h
theorem g_goto (X : Stand p l e R s m args below meth c T locs cells slots) (hx : p.tables.exec = Jvm.exec) {o : Int} (hd : decode c.code pc = .ok (.goto o, 3)) (pc' : Nat) (ho : 0 ≤ (pc : Int) + o) (hp : ((pc : Int) + o).toNat = pc') (G : Go p e below P T (mkF m pc' Ls st)) : Go p e below P T (mkF m pc Ls st) := by
  exact G.stp fun _ h => XS.goto X.here hx rfl rfl hd ho hp h
theorem g_icmp_eq (X : Stand p l e R s m args below meth c T locs cells slots) (hx : p.tables.exec = Jvm.exec) {x y : Int32} {o : Int} (hd : decode c.code pc = .ok (.if_icmp .eq o, 3)) (pcT pcF : Nat) (ho : 0 ≤ (pc : Int) + o) (hT : ((pc : Int) + o).toNat = pcT) (hF : pc + 3 = pcF) (G1 : x = y → Go p e below P T (mkF m pcT Ls st)) (G2 : ¬ x = y → Go p e below P T (mkF m pcF Ls st)) : Go p e below P T (mkF m pc Ls (.int y :: .int x :: st)) := by
  by_cases q : x = y
  · exact (G1 q).stp fun _ h => XS.icmpYes X.here hx rfl rfl hd rfl (XT.ii_eq_t q) ho hT h
  · subst hF
    exact (G2 q).stp fun _ h => XS.icmpNo X.here hx rfl hd rfl (XT.ii_eq_f q) h
theorem g_if_eq (X : Stand p l e R s m args below meth c T locs cells slots) (hx : p.tables.exec = Jvm.exec) {x : Int32} {o : Int} (hd : decode c.code pc = .ok (.ifCond .eq o, 3)) (pcT pcF : Nat) (ho : 0 ≤ (pc : Int) + o) (hT : ((pc : Int) + o).toNat = pcT) (hF : pc + 3 = pcF) (G1 : x = 0 → Go p e below P T (mkF m pcT Ls st)) (G2 : ¬ x = 0 → Go p e below P T (mkF m pcF Ls st)) : Go p e below P T (mkF m pc Ls (.int x :: st)) := by
  by_cases q : x = 0
  · exact (G1 q).stp fun _ h => XS.ifYes X.here hx rfl rfl hd rfl (XT.i0_eq_t q) ho hT h
  · subst hF
    exact (G2 q).stp fun _ h => XS.ifNo X.here hx rfl hd rfl (XT.i0_eq_f q) h
theorem g_lif_eq (X : Stand p l e R s m args below meth c T locs cells slots) (hx : p.tables.exec = Jvm.exec) {x y : Int64} {o : Int} (hd0 : decode c.code pc = .ok (.lcmp, 1)) (pc1 : Nat) (hp1 : pc + 1 = pc1) (hd : decode c.code pc1 = .ok (.ifCond .eq o, 3)) (pcT pcF : Nat) (ho : 0 ≤ (pc1 : Int) + o) (hT : ((pc1 : Int) + o).toNat = pcT) (hF : pc1 + 3 = pcF) (G1 : x = y → Go p e below P T (mkF m pcT Ls st)) (G2 : ¬ x = y → Go p e below P T (mkF m pcF Ls st)) : Go p e below P T (mkF m pc Ls (.long y :: .long x :: st)) := by
  subst hp1
  by_cases q : x = y
  · exact (G1 q).stp fun _ h => XT.lcmp X.here hx rfl hd0 rfl (XS.ifYes X.here hx rfl rfl hd rfl (XT.ll_eq_t q) ho hT h)
  · subst hF
    exact (G2 q).stp fun _ h => XT.lcmp X.here hx rfl hd0 rfl (XS.ifNo X.here hx rfl hd rfl (XT.ll_eq_f q) h)
theorem g_icmp_ne (X : Stand p l e R s m args below meth c T locs cells slots) (hx : p.tables.exec = Jvm.exec) {x y : Int32} {o : Int} (hd : decode c.code pc = .ok (.if_icmp .ne o, 3)) (pcT pcF : Nat) (ho : 0 ≤ (pc : Int) + o) (hT : ((pc : Int) + o).toNat = pcT) (hF : pc + 3 = pcF) (G1 : ¬ x = y → Go p e below P T (mkF m pcT Ls st)) (G2 : x = y → Go p e below P T (mkF m pcF Ls st)) : Go p e below P T (mkF m pc Ls (.int y :: .int x :: st)) := by
  by_cases q : ¬ x = y
  · exact (G1 q).stp fun _ h => XS.icmpYes X.here hx rfl rfl hd rfl (XT.ii_ne_t q) ho hT h
  · subst hF
    exact (G2 (Classical.not_not.mp q)).stp fun _ h => XS.icmpNo X.here hx rfl hd rfl (XT.ii_ne_f (Classical.not_not.mp q)) h
theorem g_if_ne (X : Stand p l e R s m args below meth c T locs cells slots) (hx : p.tables.exec = Jvm.exec) {x : Int32} {o : Int} (hd : decode c.code pc = .ok (.ifCond .ne o, 3)) (pcT pcF : Nat) (ho : 0 ≤ (pc : Int) + o) (hT : ((pc : Int) + o).toNat = pcT) (hF : pc + 3 = pcF) (G1 : ¬ x = 0 → Go p e below P T (mkF m pcT Ls st)) (G2 : x = 0 → Go p e below P T (mkF m pcF Ls st)) : Go p e below P T (mkF m pc Ls (.int x :: st)) := by
  by_cases q : ¬ x = 0
  · exact (G1 q).stp fun _ h => XS.ifYes X.here hx rfl rfl hd rfl (XT.i0_ne_t q) ho hT h
  · subst hF
    exact (G2 (Classical.not_not.mp q)).stp fun _ h => XS.ifNo X.here hx rfl hd rfl (XT.i0_ne_f (Classical.not_not.mp q)) h
theorem g_lif_ne (X : Stand p l e R s m args below meth c T locs cells slots) (hx : p.tables.exec = Jvm.exec) {x y : Int64} {o : Int} (hd0 : decode c.code pc = .ok (.lcmp, 1)) (pc1 : Nat) (hp1 : pc + 1 = pc1) (hd : decode c.code pc1 = .ok (.ifCond .ne o, 3)) (pcT pcF : Nat) (ho : 0 ≤ (pc1 : Int) + o) (hT : ((pc1 : Int) + o).toNat = pcT) (hF : pc1 + 3 = pcF) (G1 : ¬ x = y → Go p e below P T (mkF m pcT Ls st)) (G2 : x = y → Go p e below P T (mkF m pcF Ls st)) : Go p e below P T (mkF m pc Ls (.long y :: .long x :: st)) := by
  subst hp1
  by_cases q : ¬ x = y
  · exact (G1 q).stp fun _ h => XT.lcmp X.here hx rfl hd0 rfl (XS.ifYes X.here hx rfl rfl hd rfl (XT.ll_ne_t q) ho hT h)
  · subst hF
    exact (G2 (Classical.not_not.mp q)).stp fun _ h => XT.lcmp X.here hx rfl hd0 rfl (XS.ifNo X.here hx rfl hd rfl (XT.ll_ne_f (Classical.not_not.mp q)) h)
theorem g_icmp_lt (X : Stand p l e R s m args below meth c T locs cells slots) (hx : p.tables.exec = Jvm.exec) {x y : Int32} {o : Int} (hd : decode c.code pc = .ok (.if_icmp .lt o, 3)) (pcT pcF : Nat) (ho : 0 ≤ (pc : Int) + o) (hT : ((pc : Int) + o).toNat = pcT) (hF : pc + 3 = pcF) (G1 : x < y → Go p e below P T (mkF m pcT Ls st)) (G2 : ¬ x < y → Go p e below P T (mkF m pcF Ls st)) : Go p e below P T (mkF m pc Ls (.int y :: .int x :: st)) := by
  by_cases q : x < y
  · exact (G1 q).stp fun _ h => XS.icmpYes X.here hx rfl rfl hd rfl (XT.ii_lt_t q) ho hT h
  · subst hF
    exact (G2 q).stp fun _ h => XS.icmpNo X.here hx rfl hd rfl (XT.ii_lt_f q) h
theorem g_if_lt (X : Stand p l e R s m args below meth c T locs cells slots) (hx : p.tables.exec = Jvm.exec) {x : Int32} {o : Int} (hd : decode c.code pc = .ok (.ifCond .lt o, 3)) (pcT pcF : Nat) (ho : 0 ≤ (pc : Int) + o) (hT : ((pc : Int) + o).toNat = pcT) (hF : pc + 3 = pcF) (G1 : x < 0 → Go p e below P T (mkF m pcT Ls st)) (G2 : ¬ x < 0 → Go p e below P T (mkF m pcF Ls st)) : Go p e below P T (mkF m pc Ls (.int x :: st)) := by
  by_cases q : x < 0
  · exact (G1 q).stp fun _ h => XS.ifYes X.here hx rfl rfl hd rfl (XT.i0_lt_t q) ho hT h
  · subst hF
    exact (G2 q).stp fun _ h => XS.ifNo X.here hx rfl hd rfl (XT.i0_lt_f q) h
theorem g_lif_lt (X : Stand p l e R s m args below meth c T locs cells slots) (hx : p.tables.exec = Jvm.exec) {x y : Int64} {o : Int} (hd0 : decode c.code pc = .ok (.lcmp, 1)) (pc1 : Nat) (hp1 : pc + 1 = pc1) (hd : decode c.code pc1 = .ok (.ifCond .lt o, 3)) (pcT pcF : Nat) (ho : 0 ≤ (pc1 : Int) + o) (hT : ((pc1 : Int) + o).toNat = pcT) (hF : pc1 + 3 = pcF) (G1 : x < y → Go p e below P T (mkF m pcT Ls st)) (G2 : ¬ x < y → Go p e below P T (mkF m pcF Ls st)) : Go p e below P T (mkF m pc Ls (.long y :: .long x :: st)) := by
  subst hp1
  by_cases q : x < y
  · exact (G1 q).stp fun _ h => XT.lcmp X.here hx rfl hd0 rfl (XS.ifYes X.here hx rfl rfl hd rfl (XT.ll_lt_t q) ho hT h)
  · subst hF
    exact (G2 q).stp fun _ h => XT.lcmp X.here hx rfl hd0 rfl (XS.ifNo X.here hx rfl hd rfl (XT.ll_lt_f q) h)
theorem g_icmp_ge (X : Stand p l e R s m args below meth c T locs cells slots) (hx : p.tables.exec = Jvm.exec) {x y : Int32} {o : Int} (hd : decode c.code pc = .ok (.if_icmp .ge o, 3)) (pcT pcF : Nat) (ho : 0 ≤ (pc : Int) + o) (hT : ((pc : Int) + o).toNat = pcT) (hF : pc + 3 = pcF) (G1 : ¬ x < y → Go p e below P T (mkF m pcT Ls st)) (G2 : x < y → Go p e below P T (mkF m pcF Ls st)) : Go p e below P T (mkF m pc Ls (.int y :: .int x :: st)) := by
  by_cases q : ¬ x < y
  · exact (G1 q).stp fun _ h => XS.icmpYes X.here hx rfl rfl hd rfl (XT.ii_ge_t q) ho hT h
  · subst hF
    exact (G2 (Classical.not_not.mp q)).stp fun _ h => XS.icmpNo X.here hx rfl hd rfl (XT.ii_ge_f (Classical.not_not.mp q)) h
theorem g_if_ge (X : Stand p l e R s m args below meth c T locs cells slots) (hx : p.tables.exec = Jvm.exec) {x : Int32} {o : Int} (hd : decode c.code pc = .ok (.ifCond .ge o, 3)) (pcT pcF : Nat) (ho : 0 ≤ (pc : Int) + o) (hT : ((pc : Int) + o).toNat = pcT) (hF : pc + 3 = pcF) (G1 : ¬ x < 0 → Go p e below P T (mkF m pcT Ls st)) (G2 : x < 0 → Go p e below P T (mkF m pcF Ls st)) : Go p e below P T (mkF m pc Ls (.int x :: st)) := by
  by_cases q : ¬ x < 0
  · exact (G1 q).stp fun _ h => XS.ifYes X.here hx rfl rfl hd rfl (XT.i0_ge_t q) ho hT h
  · subst hF
    exact (G2 (Classical.not_not.mp q)).stp fun _ h => XS.ifNo X.here hx rfl hd rfl (XT.i0_ge_f (Classical.not_not.mp q)) h
theorem g_lif_ge (X : Stand p l e R s m args below meth c T locs cells slots) (hx : p.tables.exec = Jvm.exec) {x y : Int64} {o : Int} (hd0 : decode c.code pc = .ok (.lcmp, 1)) (pc1 : Nat) (hp1 : pc + 1 = pc1) (hd : decode c.code pc1 = .ok (.ifCond .ge o, 3)) (pcT pcF : Nat) (ho : 0 ≤ (pc1 : Int) + o) (hT : ((pc1 : Int) + o).toNat = pcT) (hF : pc1 + 3 = pcF) (G1 : ¬ x < y → Go p e below P T (mkF m pcT Ls st)) (G2 : x < y → Go p e below P T (mkF m pcF Ls st)) : Go p e below P T (mkF m pc Ls (.long y :: .long x :: st)) := by
  subst hp1
  by_cases q : ¬ x < y
  · exact (G1 q).stp fun _ h => XT.lcmp X.here hx rfl hd0 rfl (XS.ifYes X.here hx rfl rfl hd rfl (XT.ll_ge_t q) ho hT h)
  · subst hF
    exact (G2 (Classical.not_not.mp q)).stp fun _ h => XT.lcmp X.here hx rfl hd0 rfl (XS.ifNo X.here hx rfl hd rfl (XT.ll_ge_f (Classical.not_not.mp q)) h)
theorem g_icmp_gt (X : Stand p l e R s m args below meth c T locs cells slots) (hx : p.tables.exec = Jvm.exec) {x y : Int32} {o : Int} (hd : decode c.code pc = .ok (.if_icmp .gt o, 3)) (pcT pcF : Nat) (ho : 0 ≤ (pc : Int) + o) (hT : ((pc : Int) + o).toNat = pcT) (hF : pc + 3 = pcF) (G1 : y < x → Go p e below P T (mkF m pcT Ls st)) (G2 : ¬ y < x → Go p e below P T (mkF m pcF Ls st)) : Go p e below P T (mkF m pc Ls (.int y :: .int x :: st)) := by
  by_cases q : y < x
  · exact (G1 q).stp fun _ h => XS.icmpYes X.here hx rfl rfl hd rfl (XT.ii_gt_t q) ho hT h
  · subst hF
    exact (G2 q).stp fun _ h => XS.icmpNo X.here hx rfl hd rfl (XT.ii_gt_f q) h
theorem g_if_gt (X : Stand p l e R s m args below meth c T locs cells slots) (hx : p.tables.exec = Jvm.exec) {x : Int32} {o : Int} (hd : decode c.code pc = .ok (.ifCond .gt o, 3)) (pcT pcF : Nat) (ho : 0 ≤ (pc : Int) + o) (hT : ((pc : Int) + o).toNat = pcT) (hF : pc + 3 = pcF) (G1 : 0 < x → Go p e below P T (mkF m pcT Ls st)) (G2 : ¬ 0 < x → Go p e below P T (mkF m pcF Ls st)) : Go p e below P T (mkF m pc Ls (.int x :: st)) := by
  by_cases q : 0 < x
  · exact (G1 q).stp fun _ h => XS.ifYes X.here hx rfl rfl hd rfl (XT.i0_gt_t q) ho hT h
  · subst hF
    exact (G2 q).stp fun _ h => XS.ifNo X.here hx rfl hd rfl (XT.i0_gt_f q) h
theorem g_lif_gt (X : Stand p l e R s m args below meth c T locs cells slots) (hx : p.tables.exec = Jvm.exec) {x y : Int64} {o : Int} (hd0 : decode c.code pc = .ok (.lcmp, 1)) (pc1 : Nat) (hp1 : pc + 1 = pc1) (hd : decode c.code pc1 = .ok (.ifCond .gt o, 3)) (pcT pcF : Nat) (ho : 0 ≤ (pc1 : Int) + o) (hT : ((pc1 : Int) + o).toNat = pcT) (hF : pc1 + 3 = pcF) (G1 : y < x → Go p e below P T (mkF m pcT Ls st)) (G2 : ¬ y < x → Go p e below P T (mkF m pcF Ls st)) : Go p e below P T (mkF m pc Ls (.long y :: .long x :: st)) := by
  subst hp1
  by_cases q : y < x
  · exact (G1 q).stp fun _ h => XT.lcmp X.here hx rfl hd0 rfl (XS.ifYes X.here hx rfl rfl hd rfl (XT.ll_gt_t q) ho hT h)
  · subst hF
    exact (G2 q).stp fun _ h => XT.lcmp X.here hx rfl hd0 rfl (XS.ifNo X.here hx rfl hd rfl (XT.ll_gt_f q) h)
theorem g_icmp_le (X : Stand p l e R s m args below meth c T locs cells slots) (hx : p.tables.exec = Jvm.exec) {x y : Int32} {o : Int} (hd : decode c.code pc = .ok (.if_icmp .le o, 3)) (pcT pcF : Nat) (ho : 0 ≤ (pc : Int) + o) (hT : ((pc : Int) + o).toNat = pcT) (hF : pc + 3 = pcF) (G1 : ¬ y < x → Go p e below P T (mkF m pcT Ls st)) (G2 : y < x → Go p e below P T (mkF m pcF Ls st)) : Go p e below P T (mkF m pc Ls (.int y :: .int x :: st)) := by
  by_cases q : ¬ y < x
  · exact (G1 q).stp fun _ h => XS.icmpYes X.here hx rfl rfl hd rfl (XT.ii_le_t q) ho hT h
  · subst hF
    exact (G2 (Classical.not_not.mp q)).stp fun _ h => XS.icmpNo X.here hx rfl hd rfl (XT.ii_le_f (Classical.not_not.mp q)) h
theorem g_if_le (X : Stand p l e R s m args below meth c T locs cells slots) (hx : p.tables.exec = Jvm.exec) {x : Int32} {o : Int} (hd : decode c.code pc = .ok (.ifCond .le o, 3)) (pcT pcF : Nat) (ho : 0 ≤ (pc : Int) + o) (hT : ((pc : Int) + o).toNat = pcT) (hF : pc + 3 = pcF) (G1 : ¬ 0 < x → Go p e below P T (mkF m pcT Ls st)) (G2 : 0 < x → Go p e below P T (mkF m pcF Ls st)) : Go p e below P T (mkF m pc Ls (.int x :: st)) := by
  by_cases q : ¬ 0 < x
  · exact (G1 q).stp fun _ h => XS.ifYes X.here hx rfl rfl hd rfl (XT.i0_le_t q) ho hT h
  · subst hF
    exact (G2 (Classical.not_not.mp q)).stp fun _ h => XS.ifNo X.here hx rfl hd rfl (XT.i0_le_f (Classical.not_not.mp q)) h
theorem g_lif_le (X : Stand p l e R s m args below meth c T locs cells slots) (hx : p.tables.exec = Jvm.exec) {x y : Int64} {o : Int} (hd0 : decode c.code pc = .ok (.lcmp, 1)) (pc1 : Nat) (hp1 : pc + 1 = pc1) (hd : decode c.code pc1 = .ok (.ifCond .le o, 3)) (pcT pcF : Nat) (ho : 0 ≤ (pc1 : Int) + o) (hT : ((pc1 : Int) + o).toNat = pcT) (hF : pc1 + 3 = pcF) (G1 : ¬ y < x → Go p e below P T (mkF m pcT Ls st)) (G2 : y < x → Go p e below P T (mkF m pcF Ls st)) : Go p e below P T (mkF m pc Ls (.long y :: .long x :: st)) := by
  subst hp1
  by_cases q : ¬ y < x
  · exact (G1 q).stp fun _ h => XT.lcmp X.here hx rfl hd0 rfl (XS.ifYes X.here hx rfl rfl hd rfl (XT.ll_le_t q) ho hT h)
  · subst hF
    exact (G2 (Classical.not_not.mp q)).stp fun _ h => XT.lcmp X.here hx rfl hd0 rfl (XS.ifNo X.here hx rfl hd rfl (XT.ll_le_f (Classical.not_not.mp q)) h)
theorem g_acmp_eq (X : Stand p l e R s m args below meth c T locs cells slots) (hx : p.tables.exec = Jvm.exec) {x y : Value} (hx' : x.isRef = true) (hy' : y.isRef = true) {o : Int} (hd : decode c.code pc = .ok (.if_acmp .eq o, 3)) (pcT pcF : Nat) (ho : 0 ≤ (pc : Int) + o) (hT : ((pc : Int) + o).toNat = pcT) (hF : pc + 3 = pcF) (G1 : x = y → Go p e below P T (mkF m pcT Ls st)) (G2 : ¬ x = y → Go p e below P T (mkF m pcF Ls st)) : Go p e below P T (mkF m pc Ls (y :: x :: st)) := by
  by_cases q : x = y
  · exact (G1 q).stp fun _ h => XT.acmpYes X.here hx rfl rfl hd rfl hx' hy' (XT.aa_eq_t q) ho hT h
  · subst hF
    exact (G2 q).stp fun _ h => XT.acmpNo X.here hx rfl hd rfl hx' hy' (XT.aa_eq_f q) h
theorem g_acmp_ne (X : Stand p l e R s m args below meth c T locs cells slots) (hx : p.tables.exec = Jvm.exec) {x y : Value} (hx' : x.isRef = true) (hy' : y.isRef = true) {o : Int} (hd : decode c.code pc = .ok (.if_acmp .ne o, 3)) (pcT pcF : Nat) (ho : 0 ≤ (pc : Int) + o) (hT : ((pc : Int) + o).toNat = pcT) (hF : pc + 3 = pcF) (G1 : ¬ x = y → Go p e below P T (mkF m pcT Ls st)) (G2 : x = y → Go p e below P T (mkF m pcF Ls st)) : Go p e below P T (mkF m pc Ls (y :: x :: st)) := by
  by_cases q : ¬ x = y
  · exact (G1 q).stp fun _ h => XT.acmpYes X.here hx rfl rfl hd rfl hx' hy' (XT.aa_ne_t q) ho hT h
  · subst hF
    exact (G2 (Classical.not_not.mp q)).stp fun _ h => XT.acmpNo X.here hx rfl hd rfl hx' hy' (XT.aa_ne_f (Classical.not_not.mp q)) h
theorem g_ifnull (X : Stand p l e R s m args below meth c T locs cells slots) (hx : p.tables.exec = Jvm.exec) {x : Value} (hx' : x.isRef = true) {o : Int} (hd : decode c.code pc = .ok (.ifnull o, 3)) (pcT pcF : Nat) (ho : 0 ≤ (pc : Int) + o) (hT : ((pc : Int) + o).toNat = pcT) (hF : pc + 3 = pcF) (G1 : x = .null → Go p e below P T (mkF m pcT Ls st)) (G2 : ¬ x = .null → Go p e below P T (mkF m pcF Ls st)) : Go p e below P T (mkF m pc Ls (x :: st)) := by
  by_cases q : x = .null
  · exact (G1 q).stp fun _ h => XT.nullYes X.here hx rfl rfl hd rfl q ho hT h
  · subst hF
    exact (G2 q).stp fun _ h => XT.nullNo X.here hx rfl hd rfl hx' q h
theorem g_ifnonnull (X : Stand p l e R s m args below meth c T locs cells slots) (hx : p.tables.exec = Jvm.exec) {x : Value} (hx' : x.isRef = true) {o : Int} (hd : decode c.code pc = .ok (.ifnonnull o, 3)) (pcT pcF : Nat) (ho : 0 ≤ (pc : Int) + o) (hT : ((pc : Int) + o).toNat = pcT) (hF : pc + 3 = pcF) (G1 : ¬ x = .null → Go p e below P T (mkF m pcT Ls st)) (G2 : x = .null → Go p e below P T (mkF m pcF Ls st)) : Go p e below P T (mkF m pc Ls (x :: st)) := by
  by_cases q : x = .null
  · subst hF
    exact (G2 q).stp fun _ h => XT.nonnullNo X.here hx rfl hd rfl q h
  · exact (G1 q).stp fun _ h => XT.nonnullYes X.here hx rfl rfl hd rfl hx' q ho hT h
theorem g_ldc (X : Stand p l e R s m args below meth c T locs cells slots) (hx : p.tables.exec = Jvm.exec) (hZ : Z.Warmed39 s.vm) {own : String} (hown : s.vm.findClass own = some m.cls) {i : Nat} {v : Int32} (w : (Cond.constant own i v).before a0 Z = true) (hd : decode c.code pc = .ok (.ldc i, 2)) (pc' : Nat) (hp : pc + 2 = pc') (G : Go p e below P T (mkF m pc' Ls (.int v :: st))) : Go p e below P T (mkF m pc Ls st) := by
  subst hp
  exact G.stp fun _ h => Jvm.Stand.ldcI X hx hown (mv hZ w) rfl hd h
theorem g_ldc_w (X : Stand p l e R s m args below meth c T locs cells slots) (hx : p.tables.exec = Jvm.exec) (hZ : Z.Warmed39 s.vm) {own : String} (hown : s.vm.findClass own = some m.cls) {i : Nat} {v : Int32} (w : (Cond.constant own i v).before a0 Z = true) (hd : decode c.code pc = .ok (.ldc_w i, 3)) (pc' : Nat) (hp : pc + 3 = pc') (G : Go p e below P T (mkF m pc' Ls (.int v :: st))) : Go p e below P T (mkF m pc Ls st) := by
  subst hp
  exact G.stp fun _ h => Jvm.Stand.ldcWI X hx hown (mv hZ w) rfl hd h
theorem g_ldc2_w (X : Stand p l e R s m args below meth c T locs cells slots) (hx : p.tables.exec = Jvm.exec) (hZ : Z.Warmed39 s.vm) {own : String} (hown : s.vm.findClass own = some m.cls) {i : Nat} {v : Int64} (w : (Cond.constantLong own i v).before a0 Z = true) (hd : decode c.code pc = .ok (.ldc2_w i, 3)) (pc' : Nat) (hp : pc + 3 = pc') (G : Go p e below P T (mkF m pc' Ls (.long v :: st))) : Go p e below P T (mkF m pc Ls st) := by
  subst hp
  exact G.stp fun _ h => Jvm.Stand.ldc2J X hx hown (mv hZ w) rfl hd h
theorem g_getfield (X : Stand p l e R s m args below meth c T locs cells slots) (hx : p.tables.exec = Jvm.exec) (hZ : Z.Warmed39 s.vm) {own : String} (hown : s.vm.findClass own = some m.cls) {R0 O n d host : String} {i : Nat} (w : (Cond.fieldLink own i R0 n d).before a0 Z = true ∨ (Cond.fieldLinkNest own i R0 n d host).before a0 Z = true) (via : Via Z R0 O n d) {a : Addr} {v : Value} (F : Fld Z h a O n d v) (eT : T.heap = h) (hd : decode c.code pc = .ok (.getfield i, 3)) (pc' : Nat) (hp : pc + 3 = pc') (G : ∀ T', Stand p l e R s m args below meth c T' locs cells slots → T'.heap = h → Go p e below P T' (mkF m pc' Ls (v :: st))) : Go p e below P T (mkF m pc Ls (.ref a :: st)) := by
  subst hp
  obtain ⟨T', X', e', k⟩ := getF X hx hZ hown w via eT F (g := mkF m pc Ls (.ref a :: st)) rfl rfl hd
  exact (G T' X' e').stp k
theorem g_getstatic (X : Stand p l e R s m args below meth c T locs cells slots) (hx : p.tables.exec = Jvm.exec) (hZ : Z.Warmed39 s.vm) {own : String} (hown : s.vm.findClass own = some m.cls) {R0 O n d host : String} {i : Nat} (w : (Cond.fieldLink own i R0 n d).before a0 Z = true ∨ (Cond.fieldLinkNest own i R0 n d host).before a0 Z = true) (via : Via Z R0 O n d) {v : Value} (F : Sta Z h O n d v) (eT : T.heap = h) (hd : decode c.code pc = .ok (.getstatic i, 3)) (pc' : Nat) (hp : pc + 3 = pc') (G : ∀ T', Stand p l e R s m args below meth c T' locs cells slots → T'.heap = h → Go p e below P T' (mkF m pc' Ls (v :: st))) : Go p e below P T (mkF m pc Ls st) := by
  subst hp
  obtain ⟨T', X', e', k⟩ := getS2 X hx hZ hown w via eT F (g := mkF m pc Ls st) rfl hd
  exact (G T' X' e').stp k
theorem g_putfield (X : Stand p l e R s m args below meth c T locs cells slots) (hx : p.tables.exec = Jvm.exec) (hZ : Z.Warmed39 s.vm) {own : String} (hown : s.vm.findClass own = some m.cls) {R0 O n d host C : String} {i kk : Nat} {ty : FieldType} (w : (Cond.fieldLink own i R0 n d).before a0 Z = true ∨ (Cond.fieldLinkNest own i R0 n d host).before a0 Z = true) (via : Via Z R0 O n d) (eT : T.heap = h) {a : Addr} {v old : Value} (F : Fld Z h a O n d old) (E : Exa Z h a C) (L : (Cond.lays C O n d).before a0 Z = true ∨ ((Cond.laysFinal C O n d).before a0 Z = true ∧ own = O ∧ meth.name = "<init>")) (wi : (Cond.instantiable C kk).before a0 Z = true) (hty : parseFieldDescriptor d = some ty) (hn : narrow ty v = v) (hf : fits ty v = true) (hd : decode c.code pc = .ok (.putfield i, 3)) (pc' : Nat) (hp : pc + 3 = pc') (G : ∀ T' h', Stand p l e R s m args below meth c T' (locs ++ [⟨a, Jvm.RoadKit.slotOf Z O n d⟩]) cells slots → T'.heap = h' → Wr h h' a (Jvm.RoadKit.slotOf Z O n d) v → Go p e below P T' (mkF m pc' Ls st)) : Go p e below P T (mkF m pc Ls (v :: .ref a :: st)) := by
  subst hp
  obtain ⟨T', h', X', e', W, k⟩ := putF X hx hZ hown w via eT F E L wi hty hn hf (g := mkF m pc Ls (v :: .ref a :: st)) rfl rfl hd
  exact (G T' h' X' e' W).stp k
theorem g_initO (X : Stand p l e R s m args below meth c T locs cells slots) (hx : p.tables.exec = Jvm.exec) (hZ : Z.Warmed39 s.vm) {own : String} (hown : s.vm.findClass own = some m.cls) {i : Nat} (w1 : (Cond.methodLink own i Lib.objectInit).before a0 Z = true) (w2 : (Cond.instanceMethod Lib.objectInit).before a0 Z = true) (w3 : (Cond.code Lib.objectInit ⟨#[0xb1]⟩ 1 none).before a0 Z = true) (eT : T.heap = h) (hsz : Ls.size = c.maxLocals) {a : Addr} (hd : decode c.code pc = .ok (.invokespecial i, 3)) (hf : 1 ≤ R.frames) (W : Nat) (hW : (st.map fun v => v.category).sum ≤ W) (hl : W + 12 ≤ R.locals) (pc' : Nat) (hp : pc + 3 = pc') (G : ∀ T', Stand p l e R s m args below meth c T' locs cells slots → T'.heap = h → Go p e below P T' (mkF m pc' Ls st)) : Go p e below P T (mkF m pc Ls (.ref a :: st)) := by
  subst hp
  obtain ⟨T', X', e', k⟩ := initO X hx hZ hown w1 w2 w3 eT (g := mkF m pc Ls (.ref a :: st)) rfl hsz rfl hd hf (W := W) (by show 2 * 0 + _ ≤ W; omega) hl
  exact (G T' X' e').stp k
theorem g_new (X : Stand p l e R s m args below meth c T locs cells slots) (hx : p.tables.exec = Jvm.exec) (hZ : Z.Warmed39 s.vm) {own : String} (hown : s.vm.findClass own = some m.cls) {C : String} {i n : Nat} (w : (Cond.classLink own i C).before a0 Z = true) (wi : (Cond.instantiable C n).before a0 Z = true) (wz : (Cond.initialized C).before a0 Z = true) (eT : T.heap = h) (hd : decode c.code pc = .ok (.new i, 3)) (hc : cells + 1 ≤ R.cells) (hl : slots + n ≤ R.slots) (pc' : Nat) (hp : pc + 3 = pc') (G : ∀ T' h' b, Stand p l e R s m args below meth c T' locs (cells + 1) (slots + n) → T'.heap = h' → b = h.size → Ext h h' → Exa Z h' b C → (∀ {O nm d : String} {ty : FieldType}, Laid Z a0 C O nm d → parseFieldDescriptor d = some ty → Fld Z h' b O nm d (defaultValue ty)) → Go p e below P T' (mkF m pc' Ls (.ref b :: st))) : Go p e below P T (mkF m pc Ls st) := by
  subst hp
  obtain ⟨T', h', X', e', E, A, D, -, k⟩ := newO X hx hZ hown w wi wz eT (g := mkF m pc Ls st) rfl hd hc hl
  exact (G T' h' h.size X' e' rfl E A D).stp k
/-- the array at a: of that kind, holding just these values -/
def AV (Z : State) (h : Heap) (a : Addr) (ty : FieldType) (vs : List Value) : Prop := ∃ c : Cell, Arr Z h a c ty ∧ c.slots = vs.toArray ∧ vs.length < 2 ^ 31
theorem AV.lt {a : Addr} {ty : FieldType} {vs : List Value} (F : AV Z h a ty vs) : a < h.size := by obtain ⟨c, A, -⟩ := F; exact A.lt
theorem AV.ext {h' : Heap} {a : Addr} {ty : FieldType} {vs : List Value} (F : AV Z h a ty vs) (E : Ext h h') : AV Z h' a ty vs := by obtain ⟨c, A, r⟩ := F; exact ⟨c, A.ext E, r⟩
theorem AV.other {h' : Heap} {a b : Addr} {sl : Nat} {v : Value} {ty : FieldType} {vs : List Value} (F : AV Z h b ty vs) (W : Wr h h' a sl v) (q : b ≠ a) : AV Z h' b ty vs := by obtain ⟨c, A, r⟩ := F; exact ⟨c, A.other W q, r⟩
theorem AV.keep {h' : Heap} {a : Addr} {ws : List Addr} {ty : FieldType} {vs : List Value} (F : AV Z h a ty vs) (K : Keep h h' ws) (q : a ∉ ws) : AV Z h' a ty vs := by obtain ⟨c, A, r⟩ := F; exact ⟨c, ⟨K.2.1 a c A.1 q, A.2⟩, r⟩
theorem AV.same {h' : Heap} {a : Addr} {sl : Nat} {v : Value} {ty : FieldType} {vs : List Value} (F : AV Z h a ty vs) (W : Wr h h' a sl v) : AV Z h' a ty (vs.set sl v) := by
  obtain ⟨c, A, r1, r2⟩ := F
  exact ⟨_, A.same W, by simp [Cell.setSlot, r1], by simpa using r2⟩
theorem AV.new {a : Addr} {k : ClassId} {ty : FieldType} {n : Int32} (A : Arr Z h a (newA k ty n) ty) (vs : List Value) (q : vs = List.replicate n.toNatClampNeg (defaultValue ty)) (q2 : n.toNatClampNeg < 2 ^ 31) : AV Z h a ty vs := ⟨_, A, by subst q; simp [newA], by subst q; simpa using q2⟩
theorem AV.nostat {a : Addr} {ty : FieldType} {vs : List Value} (F : AV Z h a ty vs) : ∀ cell : Cell, h[a]? = some cell → cell.vm.isStatics = false := by obtain ⟨c, A, -⟩ := F; exact A.nostat
theorem in_of {vs : List Value} {c : Cell} {j : Int32} {v : Value} (r : c.slots = vs.toArray) (hj : ¬ j < 0) (hv : vs[j.toNatClampNeg]? = some v) : ¬ (j < 0 ∨ c.slots.size ≤ j.toNatClampNeg) := by
  have q := (List.getElem?_eq_some_iff.mp hv).1
  intro u
  rcases u with u | u
  · exact hj u
  · rw [r] at u; simp at u; omega
theorem g_iaload (X : Stand p l e R s m args below meth c T locs cells slots) (hx : p.tables.exec = Jvm.exec) (hZ : Z.Warmed39 s.vm) (eT : T.heap = h) {a : Addr} {vs : List Value} {j : Int32} {v : Value} (A : AV Z h a .int vs) (hj : ¬ j < 0) (hv : vs[j.toNatClampNeg]? = some v) (hd : decode c.code pc = .ok (.iaload, 1)) (pc' : Nat) (hp : pc + 1 = pc') (G : Go p e below P T (mkF m pc' Ls (v :: st))) : Go p e below P T (mkF m pc Ls (.int j :: .ref a :: st)) := by
  subst hp
  obtain ⟨cl, A, r1, r2⟩ := A
  exact G.stp fun _ k => X.iaload hx (j := j) (v := v) (by rw [eT]; exact A.1) (State.isArrayOf_alike hZ.alike A.2.1) A.2.2 (in_of r1 hj hv) (by rw [r1]; simpa using hv) (g := mkF m pc Ls (.int j :: .ref a :: st)) rfl rfl hd _ k
theorem g_caload (X : Stand p l e R s m args below meth c T locs cells slots) (hx : p.tables.exec = Jvm.exec) (hZ : Z.Warmed39 s.vm) (eT : T.heap = h) {a : Addr} {vs : List Value} {j : Int32} {v : Value} (A : AV Z h a .char vs) (hj : ¬ j < 0) (hv : vs[j.toNatClampNeg]? = some v) (hd : decode c.code pc = .ok (.caload, 1)) (pc' : Nat) (hp : pc + 1 = pc') (G : Go p e below P T (mkF m pc' Ls (v :: st))) : Go p e below P T (mkF m pc Ls (.int j :: .ref a :: st)) := by
  subst hp
  obtain ⟨cl, A, r1, r2⟩ := A
  exact G.stp fun _ k => X.caload hx (j := j) (v := v) (by rw [eT]; exact A.1) (State.isArrayOf_alike hZ.alike A.2.1) A.2.2 (in_of r1 hj hv) (by rw [r1]; simpa using hv) (g := mkF m pc Ls (.int j :: .ref a :: st)) rfl rfl hd _ k
theorem g_baload (X : Stand p l e R s m args below meth c T locs cells slots) (hx : p.tables.exec = Jvm.exec) (hZ : Z.Warmed39 s.vm) (eT : T.heap = h) {a : Addr} {vs : List Value} {j : Int32} {v : Value} (A : AV Z h a .byte vs) (hj : ¬ j < 0) (hv : vs[j.toNatClampNeg]? = some v) (hd : decode c.code pc = .ok (.baload, 1)) (pc' : Nat) (hp : pc + 1 = pc') (G : Go p e below P T (mkF m pc' Ls (v :: st))) : Go p e below P T (mkF m pc Ls (.int j :: .ref a :: st)) := by
  subst hp
  obtain ⟨cl, A, r1, r2⟩ := A
  exact G.stp fun _ k => X.baloadBytes hx (j := j) (v := v) (by rw [eT]; exact A.1) (State.isArrayOf_alike hZ.alike A.2.1) A.2.2 (in_of r1 hj hv) (by rw [r1]; simpa using hv) (g := mkF m pc Ls (.int j :: .ref a :: st)) rfl rfl hd _ k
theorem g_aaload (X : Stand p l e R s m args below meth c T locs cells slots) (hx : p.tables.exec = Jvm.exec) (hZ : Z.Warmed39 s.vm) (eT : T.heap = h) {a : Addr} {ty : FieldType} {vs : List Value} {j : Int32} {v : Value} (A : AV Z h a ty vs) (hty : ty.isReference = true) (hj : ¬ j < 0) (hv : vs[j.toNatClampNeg]? = some v) (hd : decode c.code pc = .ok (.aaload, 1)) (pc' : Nat) (hp : pc + 1 = pc') (G : Go p e below P T (mkF m pc' Ls (v :: st))) : Go p e below P T (mkF m pc Ls (.int j :: .ref a :: st)) := by
  subst hp
  obtain ⟨cl, A, r1, r2⟩ := A
  exact G.stp fun _ k => X.aaload hx (j := j) (v := v) (by rw [eT]; exact A.1) (State.isArrayOf_alike hZ.alike A.2.1) hty A.2.2 (in_of r1 hj hv) (by rw [r1]; simpa using hv) (g := mkF m pc Ls (.int j :: .ref a :: st)) rfl rfl hd _ k
theorem g_arraylength (X : Stand p l e R s m args below meth c T locs cells slots) (hx : p.tables.exec = Jvm.exec) (hZ : Z.Warmed39 s.vm) (eT : T.heap = h) {a : Addr} {ty : FieldType} {vs : List Value} (A : AV Z h a ty vs) (n : Int32) (hn : Int32.ofNat vs.length = n) (hd : decode c.code pc = .ok (.arraylength, 1)) (pc' : Nat) (hp : pc + 1 = pc') (G : Go p e below P T (mkF m pc' Ls (.int n :: st))) : Go p e below P T (mkF m pc Ls (.ref a :: st)) := by
  subst hp
  obtain ⟨cl, A, r1, r2⟩ := A
  have q : cl.slots.size.toInt32 = n := by rw [r1, ← hn]; simp
  rw [← q] at G
  exact G.stp fun _ k => X.arraylength hx (cell := cl) (by rw [eT]; exact A.1) (State.isArrayOf_alike hZ.alike A.2.1) (g := mkF m pc Ls (.ref a :: st)) rfl rfl hd _ k
theorem g_iastore (X : Stand p l e R s m args below meth c T locs cells slots) (hx : p.tables.exec = Jvm.exec) (hZ : Z.Warmed39 s.vm) (eT : T.heap = h) {a : Addr} {vs : List Value} {j x : Int32} (A : AV Z h a .int vs) (hj : ¬ j < 0) (hi : j.toNatClampNeg < vs.length) (hd : decode c.code pc = .ok (.iastore, 1)) (pc' : Nat) (hp : pc + 1 = pc') (G : ∀ T' h', Stand p l e R s m args below meth c T' (locs ++ [⟨a, j.toNatClampNeg⟩]) cells slots → T'.heap = h' → Wr h h' a j.toNatClampNeg (.int x) → AV Z h' a .int (vs.set j.toNatClampNeg (.int x)) → Go p e below P T' (mkF m pc' Ls st)) : Go p e below P T (mkF m pc Ls (.int x :: .int j :: .ref a :: st)) := by
  subst hp
  have A0 := A
  obtain ⟨cl, A, r1, r2⟩ := A
  obtain ⟨T', h', X', e', W, k⟩ := stI X hx hZ eT A (j := j) (x := x) (in_of r1 hj (List.getElem?_eq_getElem hi)) (g := mkF m pc Ls (.int x :: .int j :: .ref a :: st)) rfl rfl hd
  exact (G T' h' X' e' W (A0.same W)).stp k
theorem g_castore (X : Stand p l e R s m args below meth c T locs cells slots) (hx : p.tables.exec = Jvm.exec) (hZ : Z.Warmed39 s.vm) (eT : T.heap = h) {a : Addr} {vs : List Value} {j x : Int32} (A : AV Z h a .char vs) (hj : ¬ j < 0) (hi : j.toNatClampNeg < vs.length) (hd : decode c.code pc = .ok (.castore, 1)) (pc' : Nat) (hp : pc + 1 = pc') (G : ∀ T' h', Stand p l e R s m args below meth c T' (locs ++ [⟨a, j.toNatClampNeg⟩]) cells slots → T'.heap = h' → Wr h h' a j.toNatClampNeg (.int (nar .char x)) → AV Z h' a .char (vs.set j.toNatClampNeg (.int (nar .char x))) → Go p e below P T' (mkF m pc' Ls st)) : Go p e below P T (mkF m pc Ls (.int x :: .int j :: .ref a :: st)) := by
  subst hp
  have A0 := A
  obtain ⟨cl, A, r1, r2⟩ := A
  obtain ⟨T', h', X', e', W, k⟩ := stC X hx hZ eT A (j := j) (x := x) (in_of r1 hj (List.getElem?_eq_getElem hi)) (g := mkF m pc Ls (.int x :: .int j :: .ref a :: st)) rfl rfl hd
  exact (G T' h' X' e' W (A0.same W)).stp k
theorem g_bastore (X : Stand p l e R s m args below meth c T locs cells slots) (hx : p.tables.exec = Jvm.exec) (hZ : Z.Warmed39 s.vm) (eT : T.heap = h) {a : Addr} {vs : List Value} {j x : Int32} (A : AV Z h a .byte vs) (hj : ¬ j < 0) (hi : j.toNatClampNeg < vs.length) (hd : decode c.code pc = .ok (.bastore, 1)) (pc' : Nat) (hp : pc + 1 = pc') (G : ∀ T' h', Stand p l e R s m args below meth c T' (locs ++ [⟨a, j.toNatClampNeg⟩]) cells slots → T'.heap = h' → Wr h h' a j.toNatClampNeg (.int (nar .byte x)) → AV Z h' a .byte (vs.set j.toNatClampNeg (.int (nar .byte x))) → Go p e below P T' (mkF m pc' Ls st)) : Go p e below P T (mkF m pc Ls (.int x :: .int j :: .ref a :: st)) := by
  subst hp
  have A0 := A
  obtain ⟨cl, A, r1, r2⟩ := A
  obtain ⟨T', h', X', e', W, k⟩ := stB X hx hZ eT A (j := j) (x := x) (in_of r1 hj (List.getElem?_eq_getElem hi)) (g := mkF m pc Ls (.int x :: .int j :: .ref a :: st)) rfl rfl hd
  exact (G T' h' X' e' W (A0.same W)).stp k
theorem g_newarray (X : Stand p l e R s m args below meth c T locs cells slots) (hx : p.tables.exec = Jvm.exec) (hZ : Z.Warmed39 s.vm) {aty : ArrayType} (w : (Cond.arrayClass (newarray.typeOf aty)).before a0 Z = true) (eT : T.heap = h) {n : Int32} (hn : ¬ n < 0) (cap : Nat) (hcap : n.toNatClampNeg ≤ cap) (hb : cap * 8 ≤ 536870912) (hc : cells + 1 ≤ R.cells) (hl : slots + cap ≤ R.slots) (vs : List Value) (hvs : vs = List.replicate n.toNatClampNeg (defaultValue (newarray.typeOf aty))) (hd : decode c.code pc = .ok (.newarray aty, 2)) (pc' : Nat) (hp : pc + 2 = pc') (G : ∀ T' h' b, Stand p l e R s m args below meth c T' locs (cells + 1) (slots + cap) → T'.heap = h' → b = h.size → Ext h h' → AV Z h' b (newarray.typeOf aty) vs → Go p e below P T' (mkF m pc' Ls (.ref b :: st))) : Go p e below P T (mkF m pc Ls (.int n :: st)) := by
  subst hp
  obtain ⟨T', h', cA, X', e', E, A, k⟩ := newP X hx hZ w eT (g := mkF m pc Ls (.int n :: st)) rfl hd rfl hn hcap hb hc hl
  exact (G T' h' h.size X' e' rfl E (AV.new A vs hvs (by omega))).stp k
theorem g_checkcast (X : Stand p l e R s m args below meth c T locs cells slots) (hx : p.tables.exec = Jvm.exec) (hZ : Z.Warmed39 s.vm) {own : String} (hown : s.vm.findClass own = some m.cls) {K : String} {i : Nat} (w : (Cond.classLink own i K).before a0 Z = true) {a : Addr} (F : Ins Z h a K true) (eT : T.heap = h) (hd : decode c.code pc = .ok (.checkcast i, 3)) (pc' : Nat) (hp : pc + 3 = pc') (G : ∀ T', Stand p l e R s m args below meth c T' locs cells slots → T'.heap = h → Go p e below P T' (mkF m pc' Ls (.ref a :: st))) : Go p e below P T (mkF m pc Ls (.ref a :: st)) := by
  subst hp
  obtain ⟨T', X', e', k⟩ := castY X hx hZ hown w eT F (g := mkF m pc Ls (.ref a :: st)) rfl rfl hd
  exact (G T' X' e').stp k
theorem g_instYes (X : Stand p l e R s m args below meth c T locs cells slots) (hx : p.tables.exec = Jvm.exec) (hZ : Z.Warmed39 s.vm) {own : String} (hown : s.vm.findClass own = some m.cls) {K : String} {i : Nat} (w : (Cond.classLink own i K).before a0 Z = true) {a : Addr} (F : Ins Z h a K true) (eT : T.heap = h) (hd : decode c.code pc = .ok (.instanceof i, 3)) (pc' : Nat) (hp : pc + 3 = pc') (G : ∀ T', Stand p l e R s m args below meth c T' locs cells slots → T'.heap = h → Go p e below P T' (mkF m pc' Ls (.int 1 :: st))) : Go p e below P T (mkF m pc Ls (.ref a :: st)) := by
  subst hp
  obtain ⟨T', X', e', k⟩ := instY X hx hZ hown w eT F (g := mkF m pc Ls (.ref a :: st)) rfl rfl hd
  exact (G T' X' e').stp k
theorem g_instNo (X : Stand p l e R s m args below meth c T locs cells slots) (hx : p.tables.exec = Jvm.exec) (hZ : Z.Warmed39 s.vm) {own : String} (hown : s.vm.findClass own = some m.cls) {K C : String} {i : Nat} (w : (Cond.classLink own i K).before a0 Z = true) {a : Addr} (E : Exa Z h a C) (F : ∃ c t, Z.vm.findClass C = some c ∧ Z.vm.findClass K = some t ∧ Z.vm.assignable c t = false) (eT : T.heap = h) (hd : decode c.code pc = .ok (.instanceof i, 3)) (pc' : Nat) (hp : pc + 3 = pc') (G : ∀ T', Stand p l e R s m args below meth c T' locs cells slots → T'.heap = h → Go p e below P T' (mkF m pc' Ls (.int 0 :: st))) : Go p e below P T (mkF m pc Ls (.ref a :: st)) := by
  subst hp
  obtain ⟨T', X', e', k⟩ := instNo X hx hZ hown w eT E F (g := mkF m pc Ls (.ref a :: st)) rfl rfl hd
  exact (G T' X' e').stp k
theorem g_instNull (X : Stand p l e R s m args below meth c T locs cells slots) (hx : p.tables.exec = Jvm.exec) {i : Nat} (hd : decode c.code pc = .ok (.instanceof i, 3)) (pc' : Nat) (hp : pc + 3 = pc') (G : Go p e below P T (mkF m pc' Ls (.int 0 :: st))) : Go p e below P T (mkF m pc Ls (.null :: st)) := by
  subst hp
  exact G.stp fun _ h => X.instanceofNull hx (g := mkF m pc Ls (.null :: st)) rfl rfl hd _ h
theorem g_aastore (X : Stand p l e R s m args below meth c T locs cells slots) (hx : p.tables.exec = Jvm.exec) (hZ : Z.Warmed39 s.vm) (eT : T.heap = h) {a : Addr} {ty : FieldType} {vs : List Value} {j : Int32} {x : Value} (A : AV Z h a ty vs) (hty : ty.isReference = true) (F : Sto Z h a x) (hj : ¬ j < 0) (hi : j.toNatClampNeg < vs.length) (hd : decode c.code pc = .ok (.aastore, 1)) (pc' : Nat) (hp : pc + 1 = pc') (G : ∀ T' h', Stand p l e R s m args below meth c T' (locs ++ [⟨a, j.toNatClampNeg⟩]) cells slots → T'.heap = h' → Wr h h' a j.toNatClampNeg x → AV Z h' a ty (vs.set j.toNatClampNeg x) → Go p e below P T' (mkF m pc' Ls st)) : Go p e below P T (mkF m pc Ls (x :: .int j :: .ref a :: st)) := by
  subst hp
  have A0 := A
  obtain ⟨cl, A, r1, r2⟩ := A
  obtain ⟨T', h', X', e', W, k⟩ := stR X hx hZ eT A (j := j) (v := x) (in_of r1 hj (List.getElem?_eq_getElem hi)) hty F (g := mkF m pc Ls (x :: .int j :: .ref a :: st)) rfl rfl hd
  exact (G T' h' X' e' W (A0.same W)).stp k
/-- what may lie in the array at a: objects of C -/
def Ov (Z : State) (h : Heap) (a : Addr) (C : String) : Prop := ∃ c : Cell, h[a]? = some c ∧ Ovr Z c.cls C
theorem Ov.keep {h' : Heap} {a : Addr} {ws : List Addr} {C : String} (F : Ov Z h a C) (K : Keep h h' ws) : Ov Z h' a C := by obtain ⟨c, h1, o⟩ := F; obtain ⟨c', h2, e, -⟩ := K.2.2 a c h1; exact ⟨c', h2, by rw [e]; exact o⟩
theorem Ov.ext {h' : Heap} {a : Addr} {C : String} (F : Ov Z h a C) (E : Ext h h') : Ov Z h' a C := by obtain ⟨c, h1, o⟩ := F; exact ⟨c, E.2 _ _ h1, o⟩
theorem Ov.wr {h' : Heap} {a b : Addr} {sl : Nat} {v : Value} {C : String} (F : Ov Z h a C) (W : Wr h h' b sl v) : Ov Z h' a C := by obtain ⟨c, h1, o⟩ := F; obtain ⟨c', h2, e, -⟩ := wr_at W h1; exact ⟨c', h2, by rw [e]; exact o⟩
theorem Ov.lt {a : Addr} {C : String} (F : Ov Z h a C) : a < h.size := by obtain ⟨c, h1, -⟩ := F; exact (Array.getElem?_eq_some_iff.mp h1).1
theorem Ov.sto {a y : Addr} {C : String} {ty : FieldType} {vs : List Value} (F : Ov Z h a C) (A : AV Z h a ty vs) (I : Ins Z h y C true) : Sto Z h a (.ref y) := by
  obtain ⟨c, h1, o⟩ := F
  obtain ⟨c', A', -⟩ := A
  cases h1.symm.trans A'.1
  exact Sto.of A' o I
theorem g_anewarray (X : Stand p l e R s m args below meth c T locs cells slots) (hx : p.tables.exec = Jvm.exec) (hZ : Z.Warmed39 s.vm) {own : String} (hown : s.vm.findClass own = some m.cls) {C : String} {i : Nat} (w1 : (Cond.classLink own i C).before a0 Z = true) (w2 : (Cond.arrayOver (.object C)).before a0 Z = true) (eT : T.heap = h) {n : Int32} (hn : ¬ n < 0) (cap : Nat) (hcap : n.toNatClampNeg ≤ cap) (hb : cap * 8 ≤ 536870912) (hc : cells + 1 ≤ R.cells) (hl : slots + cap ≤ R.slots) (vs : List Value) (hvs : vs = List.replicate n.toNatClampNeg .null) (hd : decode c.code pc = .ok (.anewarray i, 3)) (pc' : Nat) (hp : pc + 3 = pc') (G : ∀ T' h' b, Stand p l e R s m args below meth c T' locs (cells + 1) (slots + cap) → T'.heap = h' → b = h.size → Ext h h' → AV Z h' b (.object C) vs → Ov Z h' b C → Go p e below P T' (mkF m pc' Ls (.ref b :: st))) : Go p e below P T (mkF m pc Ls (.int n :: st)) := by
  subst hp
  obtain ⟨T', h', cA, X', e', E, A, O, k⟩ := newR X hx hZ hown w1 w2 eT (g := mkF m pc Ls (.int n :: st)) rfl hd rfl hn hcap hb hc hl
  exact (G T' h' h.size X' e' rfl E (AV.new A vs hvs (by omega)) ⟨_, A.1, O⟩).stp k
theorem g_reti (X : Stand p l e R s m args below meth c T locs cells slots) (hx : p.tables.exec = Jvm.exec) {z : Int32} (hret : meth.sig.returnType = some .int) (hlk : meth.locks = false) {k n : Nat} {Q : Option Value → Heap → List Loc → Prop} (hk : cells ≤ k) (hn : slots ≤ n) (hd : decode c.code pc = .ok (.ireturn, 1)) (hq : Q (some (.int z)) T.heap locs) : Go p e below (RP s k n Q) T (mkF m pc Ls (.int z :: st)) := by
  obtain ⟨fs, hr, hrun, hended, hW, hsame⟩ := X.leave (v := (some (.int z))) (fun h => by first | rfl | (rw [hret] at h; cases h)) hlk
  exact ⟨_, _, retOut X hx hret rfl (Or.inl ⟨rfl, Or.inl rfl, z, rfl⟩) hd hr, hrun, hended, _, _, rfl, hq, ⟨_, rfl⟩, hW, hsame.mono hk hn⟩
theorem g_retz (X : Stand p l e R s m args below meth c T locs cells slots) (hx : p.tables.exec = Jvm.exec) {z : Int32} (hret : meth.sig.returnType = some .boolean) (hlk : meth.locks = false) {k n : Nat} {Q : Option Value → Heap → List Loc → Prop} (hk : cells ≤ k) (hn : slots ≤ n) (hd : decode c.code pc = .ok (.ireturn, 1)) (hq : Q (some (.int (z &&& 1))) T.heap locs) : Go p e below (RP s k n Q) T (mkF m pc Ls (.int z :: st)) := by
  obtain ⟨fs, hr, hrun, hended, hW, hsame⟩ := X.leave (v := (some (.int (z &&& 1)))) (fun h => by first | rfl | (rw [hret] at h; cases h)) hlk
  exact ⟨_, _, retN X hx (t := .boolean) hret (by simp) hd hr, hrun, hended, _, _, rfl, hq, ⟨_, rfl⟩, hW, hsame.mono hk hn⟩
theorem g_retb (X : Stand p l e R s m args below meth c T locs cells slots) (hx : p.tables.exec = Jvm.exec) {z : Int32} (hret : meth.sig.returnType = some .byte) (hlk : meth.locks = false) {k n : Nat} {Q : Option Value → Heap → List Loc → Prop} (hk : cells ≤ k) (hn : slots ≤ n) (hd : decode c.code pc = .ok (.ireturn, 1)) (hq : Q (some (.int z.toInt8.toInt32)) T.heap locs) : Go p e below (RP s k n Q) T (mkF m pc Ls (.int z :: st)) := by
  obtain ⟨fs, hr, hrun, hended, hW, hsame⟩ := X.leave (v := (some (.int z.toInt8.toInt32))) (fun h => by first | rfl | (rw [hret] at h; cases h)) hlk
  exact ⟨_, _, retN X hx (t := .byte) hret (by simp) hd hr, hrun, hended, _, _, rfl, hq, ⟨_, rfl⟩, hW, hsame.mono hk hn⟩
theorem g_retl (X : Stand p l e R s m args below meth c T locs cells slots) (hx : p.tables.exec = Jvm.exec) {z : Int64} (hret : meth.sig.returnType = some .long) (hlk : meth.locks = false) {k n : Nat} {Q : Option Value → Heap → List Loc → Prop} (hk : cells ≤ k) (hn : slots ≤ n) (hd : decode c.code pc = .ok (.lreturn, 1)) (hq : Q (some (.long z)) T.heap locs) : Go p e below (RP s k n Q) T (mkF m pc Ls (.long z :: st)) := by
  obtain ⟨fs, hr, hrun, hended, hW, hsame⟩ := X.leave (v := (some (.long z))) (fun h => by first | rfl | (rw [hret] at h; cases h)) hlk
  exact ⟨_, _, retOut X hx hret rfl (Or.inr (Or.inl ⟨rfl, rfl, z, rfl⟩)) hd hr, hrun, hended, _, _, rfl, hq, ⟨_, rfl⟩, hW, hsame.mono hk hn⟩
theorem g_reta (X : Stand p l e R s m args below meth c T locs cells slots) (hx : p.tables.exec = Jvm.exec) {v : Value} {t : FieldType} (hv : v.isRef = true) (ht : t.isReference = true) (hret : meth.sig.returnType = some t) (hlk : meth.locks = false) {k n : Nat} {Q : Option Value → Heap → List Loc → Prop} (hk : cells ≤ k) (hn : slots ≤ n) (hd : decode c.code pc = .ok (.areturn, 1)) (hq : Q (some v) T.heap locs) : Go p e below (RP s k n Q) T (mkF m pc Ls (v :: st)) := by
  obtain ⟨fs, hr, hrun, hended, hW, hsame⟩ := X.leave (v := (some v)) (fun h => by first | rfl | (rw [hret] at h; cases h)) hlk
  exact ⟨_, _, retOut X hx hret (by cases t <;> first | (cases ht; done) | rfl) (Or.inr (Or.inr (Or.inr (Or.inr ⟨rfl, ht, hv⟩)))) hd hr, hrun, hended, _, _, rfl, hq, ⟨_, rfl⟩, hW, hsame.mono hk hn⟩
theorem g_retv (X : Stand p l e R s m args below meth c T locs cells slots) (hx : p.tables.exec = Jvm.exec) (hret : meth.sig.returnType = none) (hlk : meth.locks = false) {k n : Nat} {Q : Option Value → Heap → List Loc → Prop} (hk : cells ≤ k) (hn : slots ≤ n) (hd : decode c.code pc = .ok (.return_, 1)) (hq : Q none T.heap locs) : Go p e below (RP s k n Q) T (mkF m pc Ls []) := by
  obtain ⟨fs, hr, hrun, hended, hW, hsame⟩ := X.leave (v := none) (fun _ => rfl) hlk
  exact ⟨_, _, X.returnOut hx hret hd hr, hrun, hended, _, _, rfl, hq, ⟨_, rfl⟩, hW, hsame.mono hk hn⟩
/-- what a method does, called with these arguments over this heap -/
def Co (l : Launch) (y : MethodName) (bytes : ByteArray) (maxL : Nat) (ret : Option FieldType) (ws : List Jvm.Cond) (rm : Room) (Z : State) (h : Heap) (as : Array Value) (Q : Option Value → Heap → List Loc → Prop) : Prop := MetFree l y (head1 (Jvm.Cond.code y bytes maxL ret :: ws) rm) (fun a U => a = as ∧ Z.Warmed39 U.vm ∧ U.heap = h) (fun _ _ _ _ _ => True) (fun _ U o U' => ∃ v L, o = .returned v ∧ Q v U'.heap L ∧ FrameEnd U o U' L rm.cells rm.slots)
theorem Co.of {y : MethodName} {bytes : ByteArray} {maxL : Nat} {ret : Option FieldType} {ws : List Jvm.Cond} {rm : Room} {as : Array Value} {Q : Option Value → Heap → List Loc → Prop} (hpl : plainFor y = true) (body : ∀ (p : Program) (e : Env) (s : State) (m : MethodId) (below : List Frame) (meth : Method) (c : Code) (T : State), Stand p l e rm s m as below meth c T [] 0 0 → p.tables.exec = Jvm.exec → c.code = bytes → c.maxLocals = maxL → s.vm.findClass y.cls = some m.cls → meth.name = y.name → meth.sig.returnType = ret → meth.locks = false → Z.Warmed39 s.vm → T.heap = h → Go p e below (RP s rm.cells rm.slots Q) T (entryFrame m as maxL)) : Co l y bytes maxL ret ws rm Z h as Q := by
  refine MetFree.of_bodySF hpl hisR ?_
  intro p e s m args below meth c s₁ Bd hml hP hK
  obtain ⟨rfl, hZ, hh⟩ := hP
  exact body p e s m below meth c s₁ (Stand.of_body Bd) Bd.exec Bd.bytes hml (findClass_of_methodNamed Bd.named) (name_of_methodNamed Bd.named Bd.method).1 Bd.returns (BodyLoose.notSynchronized Bd) hZ (by rw [← hh, Bd.state]; rfl)
theorem g_callS (X : Stand p l e R s m args below meth c T locs cells slots) (hx : p.tables.exec = Jvm.exec) (hZ : Z.Warmed39 s.vm) {own : String} (hown : s.vm.findClass own = some m.cls) {i : Nat} {y : MethodName} {bytes : ByteArray} {maxL : Nat} {ret : Option FieldType} (w1 : (Cond.methodLink own i y).before a0 Z = true) (w2 : (Cond.static y).before a0 Z = true) (w3 : (Cond.initialized y.cls).before a0 Z = true) (w4 : (Cond.code y bytes maxL ret).before a0 Z = true)  (hy : y.cls ≠ "java/lang/invoke/MethodHandle" ∧ y.cls ≠ "java/lang/invoke/VarHandle") (eT : T.heap = h) {rm : Room} {Q : Option Value → Heap → List Loc → Prop} {St : List Value} (argsL rest : List Value) (hs : St = argsL.reverse ++ rest) (M : Co l y bytes maxL ret [] rm Z h argsL.toArray Q) (hlen : ∀ sig, parseMethodDescriptor y.desc = some sig → argsL.length = sig.parameters.length) (W : Nat) (hW : (rest.map fun v => v.category).sum ≤ W) (hf : rm.frames + 1 ≤ R.frames) (hl : W + (maxL + 11) + rm.locals ≤ R.locals) (hc : cells + rm.cells ≤ R.cells) (hsl : slots + rm.slots ≤ R.slots) (hsz : Ls.size = c.maxLocals) (hd : decode c.code pc = .ok (.invokestatic i, 3)) (pc' : Nat) (hp : pc + 3 = pc') (G : ∀ v T' L, Stand p l e R s m args below meth c T' (locs ++ L) (cells + rm.cells) (slots + rm.slots) → Q v T'.heap L → Go p e below P T' (mkF m pc' Ls (v.toList ++ rest))) : Go p e below P T (mkF m pc Ls St) := by
  subst hp
  obtain ⟨v, vm1, ⟨T', L', k', n'⟩, -, X', ⟨L, hQ, h1, h2, h3⟩, k⟩ := Jvm.LawKit.callS X hx (y := y) hown (mvT hZ w1) (mvT hZ w2) (mvT hZ w3) (mvT hZ w4) hy (backOf (W := W) M hZ w4 w3 hf hl) (g := mkF m pc Ls St) rfl hsz (argsL := argsL) (rest := rest) hlen hs (by show 2 * 0 + _ ≤ W; omega) hd (fun _ _ => ⟨rfl, eT, hc, hsl⟩)
  dsimp only [Pt.U, Pt.locs, Pt.cells, Pt.slots] at X' h1 h2 h3 k hQ
  subst h1 h2 h3
  exact (G v T' L X' hQ).stp k
theorem g_init (X : Stand p l e R s m args below meth c T locs cells slots) (hx : p.tables.exec = Jvm.exec) (hZ : Z.Warmed39 s.vm) {own : String} (hown : s.vm.findClass own = some m.cls) {i : Nat} {y : MethodName} {bytes : ByteArray} {maxL : Nat} (w1 : (Cond.methodLink own i y).before a0 Z = true) (hnm : y.name = "<init>") (w2 : (Cond.instanceMethod y).before a0 Z = true) (w3 : (Cond.initialized y.cls).before a0 Z = true) (w4 : (Cond.code y bytes maxL none).before a0 Z = true)  (hy : y.cls ≠ "java/lang/invoke/MethodHandle" ∧ y.cls ≠ "java/lang/invoke/VarHandle") (eT : T.heap = h) {rm : Room} {Q : Option Value → Heap → List Loc → Prop} {St : List Value} (argsL rest : List Value) {a : Addr} (hs : St = argsL.reverse ++ .ref a :: rest) (M : Co l y bytes maxL none [] rm Z h (.ref a :: argsL).toArray Q) (hlen : ∀ sig, parseMethodDescriptor y.desc = some sig → argsL.length = sig.parameters.length) (W : Nat) (hW : (rest.map fun v => v.category).sum ≤ W) (hf : rm.frames + 1 ≤ R.frames) (hl : W + (maxL + 11) + rm.locals ≤ R.locals) (hc : cells + rm.cells ≤ R.cells) (hsl : slots + rm.slots ≤ R.slots) (hsz : Ls.size = c.maxLocals) (hd : decode c.code pc = .ok (.invokespecial i, 3)) (pc' : Nat) (hp : pc + 3 = pc') (G : ∀ v T' L, Stand p l e R s m args below meth c T' (locs ++ L) (cells + rm.cells) (slots + rm.slots) → Q v T'.heap L → Go p e below P T' (mkF m pc' Ls (v.toList ++ rest))) : Go p e below P T (mkF m pc Ls St) := by
  subst hp
  obtain ⟨v, vm1, ⟨T', L', k', n'⟩, -, X', ⟨L, hQ, h1, h2, h3⟩, k⟩ := X.specialBack hx (y := y) hnm hown (mvT hZ w1) (mvT hZ w2) (mvT hZ w4) hy (backOf (W := W) M hZ w4 w3 hf hl) (g := mkF m pc Ls St) rfl hsz (Steps.refl _) (a := a) (argsL := argsL) (rest := rest) hlen hs (by show 2 * 0 + _ ≤ W; omega) hd (fun _ _ => ⟨rfl, eT, hc, hsl⟩)
  dsimp only [Pt.U, Pt.locs, Pt.cells, Pt.slots] at X' h1 h2 h3 k hQ
  subst h1 h2 h3
  exact (G v T' L X' hQ).stp fun _ j => k.trans j
theorem g_callV (X : Stand p l e R s m args below meth c T locs cells slots) (hx : p.tables.exec = Jvm.exec) (hZ : Z.Warmed39 s.vm) {own : String} (hown : s.vm.findClass own = some m.cls) {i : Nat} {y : MethodName} {bytes : ByteArray} {maxL : Nat} {ret : Option FieldType} (w1 : (Cond.methodLink own i y).before a0 Z = true) {C : String} (w2 : (Cond.declares y).before a0 Z = true) (w5 : (Cond.selects C y y).before a0 Z = true) (w6 : (Cond.instanceMethod y).before a0 Z = true) (w3 : (Cond.initialized y.cls).before a0 Z = true) (w4 : (Cond.code y bytes maxL ret).before a0 Z = true)  (hy : y.cls ≠ "java/lang/invoke/MethodHandle" ∧ y.cls ≠ "java/lang/invoke/VarHandle") (eT : T.heap = h) {rm : Room} {Q : Option Value → Heap → List Loc → Prop} {St : List Value} (argsL rest : List Value) {a : Addr} (E : Exa Z h a C) (hs : St = argsL.reverse ++ .ref a :: rest) (M : Co l y bytes maxL ret [] rm Z h (.ref a :: argsL).toArray Q) (hlen : ∀ sig, parseMethodDescriptor y.desc = some sig → argsL.length = sig.parameters.length) (W : Nat) (hW : (rest.map fun v => v.category).sum ≤ W) (hf : rm.frames + 1 ≤ R.frames) (hl : W + (maxL + 11) + rm.locals ≤ R.locals) (hc : cells + rm.cells ≤ R.cells) (hsl : slots + rm.slots ≤ R.slots) (hsz : Ls.size = c.maxLocals) (hd : decode c.code pc = .ok (.invokevirtual i, 3)) (pc' : Nat) (hp : pc + 3 = pc') (G : ∀ v T' L, Stand p l e R s m args below meth c T' (locs ++ L) (cells + rm.cells) (slots + rm.slots) → Q v T'.heap L → Go p e below P T' (mkF m pc' Ls (v.toList ++ rest))) : Go p e below P T (mkF m pc Ls St) := by
  subst hp
  obtain ⟨cq, kq, qa, qb, qc⟩ := isOf hZ eT E
  obtain ⟨v, vm1, ⟨T', L', k', n'⟩, -, X', ⟨L, hQ, h1, h2, h3⟩, k⟩ := X.virtualBack hx (y := y) (z := y) hown (mvT hZ w1) (mvT hZ w2) (notFace_of_selects (args := #[]) (mvT hZ w5)) (mvT hZ w5) (mvT hZ w6) hy (backOf (W := W) M hZ w4 w3 hf hl) qa qc (g := mkF m pc Ls St) rfl hsz (Steps.refl _) (argsL := argsL) (rest := rest) hlen hs (by show 2 * 0 + _ ≤ W; omega) hd (fun _ _ => ⟨rfl, eT, hc, hsl⟩)
  dsimp only [Pt.U, Pt.locs, Pt.cells, Pt.slots] at X' h1 h2 h3 k hQ
  subst h1 h2 h3
  exact (G v T' L X' hQ).stp fun _ j => k.trans j
theorem g_callP (X : Stand p l e R s m args below meth c T locs cells slots) (hx : p.tables.exec = Jvm.exec) (hZ : Z.Warmed39 s.vm) {own : String} (hown : s.vm.findClass own = some m.cls) {i : Nat} {y : MethodName} {bytes : ByteArray} {maxL : Nat} {ret : Option FieldType} (w1 : (Cond.methodLink own i y).before a0 Z = true) {n : Nat} (w2 : (Cond.instanceMethod y).before a0 Z = true) (w5 : (Cond.privateMethod y).before a0 Z = true) (wi : (Cond.instantiable y.cls n).before a0 Z = true) (w3 : (Cond.initialized y.cls).before a0 Z = true) (w4 : (Cond.code y bytes maxL ret).before a0 Z = true)  (hy : y.cls ≠ "java/lang/invoke/MethodHandle" ∧ y.cls ≠ "java/lang/invoke/VarHandle") (eT : T.heap = h) {rm : Room} {Q : Option Value → Heap → List Loc → Prop} {St : List Value} (argsL rest : List Value) {a : Addr} (E : Exa Z h a y.cls) (hs : St = argsL.reverse ++ .ref a :: rest) (M : Co l y bytes maxL ret [] rm Z h (.ref a :: argsL).toArray Q) (hlen : ∀ sig, parseMethodDescriptor y.desc = some sig → argsL.length = sig.parameters.length) (W : Nat) (hW : (rest.map fun v => v.category).sum ≤ W) (hf : rm.frames + 1 ≤ R.frames) (hl : W + (maxL + 11) + rm.locals ≤ R.locals) (hc : cells + rm.cells ≤ R.cells) (hsl : slots + rm.slots ≤ R.slots) (hsz : Ls.size = c.maxLocals) (hd : decode c.code pc = .ok (.invokevirtual i, 3)) (pc' : Nat) (hp : pc + 3 = pc') (G : ∀ v T' L, Stand p l e R s m args below meth c T' (locs ++ L) (cells + rm.cells) (slots + rm.slots) → Q v T'.heap L → Go p e below P T' (mkF m pc' Ls (v.toList ++ rest))) : Go p e below P T (mkF m pc Ls St) := by
  subst hp
  obtain ⟨cl, q1, q2⟩ := E.cell
  have wi' : (Cond.instantiable y.cls n).before args s = true := mv hZ wi
  obtain ⟨ci, ki, i1, i2, i3, i4, -⟩ := Cond.instantiable_spec wi'
  have hpr : s.PrivateAt y := Cond.privateMethod_at (mvP hZ w5 (args := #[]))
  have hsel : (Cond.selects y.cls y y).before args s = true := selects_self_of_private i1 i2 (by simp only [Bool.or_eq_false_iff] at i4; exact i4.1) hpr (mv hZ w2) hy
  obtain ⟨v, vm1, ⟨T', L', k', n'⟩, -, X', ⟨L, hQ, h1, h2, h3⟩, k⟩ := X.privateBack hx (y := y) hown (mvT hZ w1) (mvT hZ w2) hsel hpr (mvT hZ w4) hy (backOf (W := W) M hZ w4 w3 hf hl) (g := mkF m pc Ls St) rfl hsz (Steps.refl _) (a := a) (by rw [eT]; exact q1) q2 (argsL := argsL) (rest := rest) hlen hs (by show 2 * 0 + _ ≤ W; omega) hd (fun _ _ => ⟨rfl, eT, hc, hsl⟩)
  dsimp only [Pt.U, Pt.locs, Pt.cells, Pt.slots] at X' h1 h2 h3 k hQ
  subst h1 h2 h3
  exact (G v T' L X' hQ).stp fun _ j => k.trans j
def Pu (h : Heap) (v : Option Value) (r : Option Value) (h' : Heap) (L : List Loc) : Prop := r = v ∧ h' = h ∧ L = []
theorem pu_cont {v : Option Value} {fr lo : Nat} {pc' : Nat} {rest : List Value} (G : ∀ T', Stand p l e R s m args below meth c T' locs cells slots → T'.heap = h → Go p e below P T' (mkF m pc' Ls (v.toList ++ rest))) : ∀ v' T' L, Stand p l e R s m args below meth c T' (locs ++ L) (cells + ({ frames := fr, cells := 0, slots := 0, locals := lo } : Room).cells) (slots + ({ frames := fr, cells := 0, slots := 0, locals := lo } : Room).slots) → Pu h v v' T'.heap L → Go p e below P T' (mkF m pc' Ls (v'.toList ++ rest)) := by
  rintro v' T' L X ⟨rfl, e1, rfl⟩
  exact G T' (by simpa using X) e1
theorem Go.joinT {α : Type} {g : JFrame} (X : Stand p l e R s m args below meth c T locs cells slots) (eT : T.heap = h) (f : α → JFrame) (Pz : α → Prop) (J : ∀ T', Stand p l e R s m args below meth c T' locs cells slots → T'.heap = h → ∀ z, Pz z → Go p e below P T' (f z)) (K : (∀ T', Stand p l e R s m args below meth c T' locs cells slots → T'.heap = h → ∀ z, Pz z → Go p e below P T' (f z)) → Go p e below P T g) : Go p e below P T g := K J
theorem Go.joinH {α : Type} {g : JFrame} (X : Stand p l e R s m args below meth c T locs cells slots) (f : α → JFrame) (Pz : Heap → List Loc → α → Prop) (kc kn : Nat) (J : ∀ T' h' locs', Stand p l e R s m args below meth c T' locs' kc kn → T'.heap = h' → ∀ z, Pz h' locs' z → Go p e below P T' (f z)) (K : (∀ T' h' locs', Stand p l e R s m args below meth c T' locs' kc kn → T'.heap = h' → ∀ z, Pz h' locs' z → Go p e below P T' (f z)) → Go p e below P T g) : Go p e below P T g := K J
theorem Go.loop {α : Type} (X : Stand p l e R s m args below meth c T locs cells slots) (eT : T.heap = h) (f : α → JFrame) (μ : α → Nat) (Pz : α → Prop) (body : ∀ z, Pz z → (∀ T', Stand p l e R s m args below meth c T' locs cells slots → T'.heap = h → ∀ z', Pz z' → μ z' < μ z → Go p e below P T' (f z')) → ∀ T', Stand p l e R s m args below meth c T' locs cells slots → T'.heap = h → Go p e below P T' (f z)) (z : α) (hz : Pz z) : Go p e below P T (f z) := by
  have key : ∀ n, ∀ z, μ z < n → Pz z → ∀ T', Stand p l e R s m args below meth c T' locs cells slots → T'.heap = h → Go p e below P T' (f z) := by
    intro n
    induction n with
    | zero => intro z hn; exact absurd hn (Nat.not_lt_zero _)
    | succ n ih =>
      intro z hn hz T' X' e'
      exact body z hz (fun T2 X2 e2 z2 hz2 hlt => ih z2 (by omega) hz2 T2 X2 e2) T' X' e'
  exact key (μ z + 1) z (Nat.lt_succ_self _) hz T X eT
theorem Go.loopH {α : Type} (X : Stand p l e R s m args below meth c T locs cells slots) (eT : T.heap = h) (f : α → JFrame) (μ : α → Nat) (Pz : Heap → List Loc → α → Prop) (body : ∀ z h' locs', Pz h' locs' z → (∀ T' h2 locs2, Stand p l e R s m args below meth c T' locs2 cells slots → T'.heap = h2 → ∀ z', Pz h2 locs2 z' → μ z' < μ z → Go p e below P T' (f z')) → ∀ T', Stand p l e R s m args below meth c T' locs' cells slots → T'.heap = h' → Go p e below P T' (f z)) (z : α) (hz : Pz h locs z) : Go p e below P T (f z) := by
  have key : ∀ n, ∀ z h' locs', μ z < n → Pz h' locs' z → ∀ T', Stand p l e R s m args below meth c T' locs' cells slots → T'.heap = h' → Go p e below P T' (f z) := by
    intro n
    induction n with
    | zero => intro z h' locs' hn; exact absurd hn (Nat.not_lt_zero _)
    | succ n ih =>
      intro z h' locs' hn hz T' X' e'
      exact body z h' locs' hz (fun T2 h2 locs2 X2 e2 z2 hz2 hlt => ih z2 h2 locs2 (by omega) hz2 T2 X2 e2) T' X' e'
  exact key (μ z + 1) z h locs (Nat.lt_succ_self _) hz T X eT
theorem own_sta_keep {C n d : String} {v : Value} {h' : Heap} {ws : List Addr} (F : Sta Z h C n d v) (K : Keep h h' ws) (q : ∀ x ∈ ws, ∀ cell : Cell, h[x]? = some cell → cell.vm.isStatics = false) : Sta Z h' C n d v := by
  obtain ⟨cf, i, k, f, st, cell, h1, h2, h3, h4, h5, h6, h7⟩ := F
  exact ⟨cf, i, k, f, st, cell, h1, h2, h3, h4, K.2.1 st cell h5 (fun hm => by rw [q st hm cell h5] at h6; cases h6), h6, h7⟩
end OwnGo
section OwnWide
variable {p : Program} {l : Launch} {e : Env} {R : Room} {s : State} {m : MethodId} {args : Array Value} {below : List Frame} {meth : Method} {c : Code} {T : State} {locs : List Loc} {cells slots : Nat} {P : State → Outcome → Prop} {pc : Nat} {Ls : Array Slot} {st : List Value} {Z : State} {a0 : Array Value} {h : Heap} {vm : Vm} {EL : List (String × Nat)} {k0 : Nat}
def RPH (s : State) (Z : State) (EL : List (String × Nat)) (k n : Nat) (Q : Option Value → Heap → List Loc → Prop) (t : State) (o : Outcome) : Prop := ∃ v L, o = .returned v ∧ Q v t.heap L ∧ CHr Z EL s.vm s.heap t.vm t.heap ∧ ReturnedEndW s o t L k n
def CoH (l : Launch) (y : MethodName) (bytes : ByteArray) (maxL : Nat) (ret : Option FieldType) (ws : List Jvm.Cond) (rm : Room) (Z : State) (EL : List (String × Nat)) (h : Heap) (as : Array Value) (Q : Option Value → Heap → List Loc → Prop) : Prop := MetFree l y (head1 (Jvm.Cond.code y bytes maxL ret :: ws) rm) (fun a U => a = as ∧ Z.Warmed39 U.vm ∧ U.heap = h ∧ CHv Z EL U.vm h) (fun _ _ _ _ _ => True) (fun _ U o U' => ∃ v L, o = .returned v ∧ Q v U'.heap L ∧ CHr Z EL U.vm U.heap U'.vm U'.heap ∧ ReturnedEndW U o U' L rm.cells rm.slots)
theorem CoH.of {y : MethodName} {bytes : ByteArray} {maxL : Nat} {ret : Option FieldType} {ws : List Jvm.Cond} {rm : Room} {as : Array Value} {Q : Option Value → Heap → List Loc → Prop} (hpl : plainFor y = true) (body : ∀ (p : Program) (e : Env) (s : State) (m : MethodId) (below : List Frame) (meth : Method) (c : Code) (T : State), Stand p l e rm (s.setVm s.vm) m as below meth c T [] 0 0 → p.tables.exec = Jvm.exec → c.code = bytes → c.maxLocals = maxL → s.vm.findClass y.cls = some m.cls → meth.name = y.name → meth.sig.returnType = ret → meth.locks = false → Z.Warmed39 s.vm → T.heap = h → s.heap = h → s.Since s.vm h.size → CHr Z EL s.vm s.heap s.vm h → Go p e below (RPH s Z EL rm.cells rm.slots Q) T (entryFrame m as maxL)) : CoH l y bytes maxL ret ws rm Z EL h as Q := by
  refine MetFree.of_bodySF hpl hisR ?_
  intro p e s m args below meth c s₁ Bd hml hP hK
  obtain ⟨rfl, hZ, hh, hC⟩ := hP
  have Xb : Stand p l e rm s m args below meth c s₁ [] 0 0 := Stand.of_body Bd
  refine body p e s m below meth c s₁ Xb Bd.exec Bd.bytes hml (findClass_of_methodNamed Bd.named) (name_of_methodNamed Bd.named Bd.method).1 Bd.returns (BodyLoose.notSynchronized Bd) hZ (by rw [← hh, Bd.state]; rfl) hh ((State.WarmedH.refl s).since _) ?_
  rw [hh]
  exact CHr.refl hC
theorem g_retiH (X : Stand p l e R (s.setVm vm) m args below meth c T locs cells slots) (hx : p.tables.exec = Jvm.exec) {z : Int32} (hret : meth.sig.returnType = some .int) (hlk : meth.locks = false) {k n : Nat} {Q : Option Value → Heap → List Loc → Prop} (hk : cells ≤ k) (hn : slots ≤ n) (hd : decode c.code pc = .ok (.ireturn, 1)) (eT : T.heap = h) (hZ : Z.Warmed39 vm) (hS : s.Since vm k0) (hk0 : k0 ≤ h.size) (hEL : EW Z a0 EL) (H : CHr Z EL s.vm s.heap vm h) (hq : Q (some (.int z)) h locs) : Go p e below (RPH s Z EL k n Q) T (mkF m pc Ls (.int z :: st)) := by
  obtain ⟨fs, hr, hrun, hended, hW, hsame⟩ := X.leave (v := (some (.int z))) (fun h => by first | rfl | (rw [hret] at h; cases h)) hlk
  have en := hS.ended hW (by show k0 ≤ T.heap.size; rw [eT]; exact hk0) (hsame.mono hk hn)
  refine ⟨_, _, retOut X hx hret rfl (Or.inl ⟨rfl, Or.inl rfl, z, rfl⟩) hd hr, hrun, hended, _, _, rfl, ?_, ?_, ⟨_, rfl⟩, en.1, en.2.1, en.2.2⟩
  · show Q _ T.heap _
    rw [eT]; exact hq
  · show CHr Z EL s.vm s.heap T.vm T.heap
    rw [eT]; exact H.trans (CHv.at X hZ hEL H.1)
theorem g_retzH (X : Stand p l e R (s.setVm vm) m args below meth c T locs cells slots) (hx : p.tables.exec = Jvm.exec) {z : Int32} (hret : meth.sig.returnType = some .boolean) (hlk : meth.locks = false) {k n : Nat} {Q : Option Value → Heap → List Loc → Prop} (hk : cells ≤ k) (hn : slots ≤ n) (hd : decode c.code pc = .ok (.ireturn, 1)) (eT : T.heap = h) (hZ : Z.Warmed39 vm) (hS : s.Since vm k0) (hk0 : k0 ≤ h.size) (hEL : EW Z a0 EL) (H : CHr Z EL s.vm s.heap vm h) (hq : Q (some (.int (z &&& 1))) h locs) : Go p e below (RPH s Z EL k n Q) T (mkF m pc Ls (.int z :: st)) := by
  obtain ⟨fs, hr, hrun, hended, hW, hsame⟩ := X.leave (v := (some (.int (z &&& 1)))) (fun h => by first | rfl | (rw [hret] at h; cases h)) hlk
  have en := hS.ended hW (by show k0 ≤ T.heap.size; rw [eT]; exact hk0) (hsame.mono hk hn)
  refine ⟨_, _, retN X hx (t := .boolean) hret (by simp) hd hr, hrun, hended, _, _, rfl, ?_, ?_, ⟨_, rfl⟩, en.1, en.2.1, en.2.2⟩
  · show Q _ T.heap _
    rw [eT]; exact hq
  · show CHr Z EL s.vm s.heap T.vm T.heap
    rw [eT]; exact H.trans (CHv.at X hZ hEL H.1)
theorem g_retaH (X : Stand p l e R (s.setVm vm) m args below meth c T locs cells slots) (hx : p.tables.exec = Jvm.exec) {v : Value} {t : FieldType} (hv : v.isRef = true) (ht : t.isReference = true) (hret : meth.sig.returnType = some t) (hlk : meth.locks = false) {k n : Nat} {Q : Option Value → Heap → List Loc → Prop} (hk : cells ≤ k) (hn : slots ≤ n) (hd : decode c.code pc = .ok (.areturn, 1)) (eT : T.heap = h) (hZ : Z.Warmed39 vm) (hS : s.Since vm k0) (hk0 : k0 ≤ h.size) (hEL : EW Z a0 EL) (H : CHr Z EL s.vm s.heap vm h) (hq : Q (some v) h locs) : Go p e below (RPH s Z EL k n Q) T (mkF m pc Ls (v :: st)) := by
  obtain ⟨fs, hr, hrun, hended, hW, hsame⟩ := X.leave (v := (some v)) (fun h => by first | rfl | (rw [hret] at h; cases h)) hlk
  have en := hS.ended hW (by show k0 ≤ T.heap.size; rw [eT]; exact hk0) (hsame.mono hk hn)
  refine ⟨_, _, retOut X hx hret (by cases t <;> first | (cases ht; done) | rfl) (Or.inr (Or.inr (Or.inr (Or.inr ⟨rfl, ht, hv⟩)))) hd hr, hrun, hended, _, _, rfl, ?_, ?_, ⟨_, rfl⟩, en.1, en.2.1, en.2.2⟩
  · show Q _ T.heap _
    rw [eT]; exact hq
  · show CHr Z EL s.vm s.heap T.vm T.heap
    rw [eT]; exact H.trans (CHv.at X hZ hEL H.1)
theorem g_retvH (X : Stand p l e R (s.setVm vm) m args below meth c T locs cells slots) (hx : p.tables.exec = Jvm.exec)  (hret : meth.sig.returnType = none) (hlk : meth.locks = false) {k n : Nat} {Q : Option Value → Heap → List Loc → Prop} (hk : cells ≤ k) (hn : slots ≤ n) (hd : decode c.code pc = .ok (.return_, 1)) (eT : T.heap = h) (hZ : Z.Warmed39 vm) (hS : s.Since vm k0) (hk0 : k0 ≤ h.size) (hEL : EW Z a0 EL) (H : CHr Z EL s.vm s.heap vm h) (hq : Q none h locs) : Go p e below (RPH s Z EL k n Q) T (mkF m pc Ls []) := by
  obtain ⟨fs, hr, hrun, hended, hW, hsame⟩ := X.leave (v := none) (fun h => by first | rfl | (rw [hret] at h; cases h)) hlk
  have en := hS.ended hW (by show k0 ≤ T.heap.size; rw [eT]; exact hk0) (hsame.mono hk hn)
  refine ⟨_, _, X.returnOut hx hret hd hr, hrun, hended, _, _, rfl, ?_, ?_, ⟨_, rfl⟩, en.1, en.2.1, en.2.2⟩
  · show Q _ T.heap _
    rw [eT]; exact hq
  · show CHr Z EL s.vm s.heap T.vm T.heap
    rw [eT]; exact H.trans (CHv.at X hZ hEL H.1)
theorem g_ldcO (X : Stand p l e R (s.setVm vm) m args below meth c T locs cells slots) (hx : p.tables.exec = Jvm.exec) {own text : String} {i : Nat} (hown : vm.findClass own = some m.cls) (ws : (Cond.stringLink own i text).before a0 Z = true) (wS : ∀ a ∈ Bundle.stringAtoms, a.before a0 Z = true) (eT : T.heap = h) (hZ : Z.Warmed39 vm) (hS : s.Since vm k0) (hk0 : k0 ≤ h.size) (hEL : EW Z a0 EL) (H : CHr Z EL s.vm s.heap vm h) (hd : decode c.code pc = .ok (.ldc i, 2)) {n : Nat} (hn : 4 * text.toList.length ≤ n) (hbig : n ≤ 536870912) (hc : cells + 2 ≤ R.cells) (hl : slots + (n + 4) ≤ R.slots) (pc' : Nat) (hp : pc + 2 = pc') (G : ∀ a T' h' k1, Stand p l e R (s.setVm T'.vm) m args below meth c T' locs (cells + 2) (slots + (n + 4)) → T'.heap = h' → Ext h h' → Z.Warmed39 T'.vm → T'.vm.findClass own = some m.cls → s.Since T'.vm k1 → k1 ≤ h'.size → CHr Z EL s.vm s.heap T'.vm h' → Go p e below P T' (mkF m pc' Ls (.ref a :: st))) : Go p e below P T (mkF m pc Ls st) := by
  subst hp
  obtain ⟨a, T', h', k1, X', e', E, hS', hk', hZ', ho', hC, -, k⟩ := ldcOH X hx hZ hown ws wS eT hS hk0 hEL H.1 (g := mkF m pc Ls st) rfl hd hn hbig hc hl
  exact (G a T' h' k1 X' e' E hZ' ho' hS' hk' (H.trans hC)).stp k
theorem av_of_arv {a : Addr} {k : ClassId} {ty : FieldType} {z : Int32} {vs : List Value} {d : Value} (F : Arv Z h a k ty z vs d) (hl : z.toNatClampNeg = vs.length) (hb : vs.length < 2 ^ 31) : AV Z h a ty vs := by
  obtain ⟨c, A, -, S, -, Hs, -⟩ := F
  refine ⟨c, A, ?_, hb⟩
  apply Array.ext
  · simp [S, hl]
  · intro i h1 h2
    have q := Hs i h1
    rw [Array.getElem?_eq_getElem h1] at q
    have h3 : i < vs.length := by simpa using h2
    simpa [List.getD_eq_getElem?_getD, List.getElem?_eq_getElem h3] using q
theorem g_ldcC (X : Stand p l e R (s.setVm vm) m args below meth c T locs cells slots) (hx : p.tables.exec = Jvm.exec) {own text : String} {i : Nat} (hown : vm.findClass own = some m.cls) (ws : (Cond.stringLink own i text).before a0 Z = true) (wS : ∀ a ∈ Bundle.stringAtoms, a.before a0 Z = true) (eT : T.heap = h) (hZ : Z.Warmed39 vm) (hS : s.Since vm k0) (hk0 : k0 ≤ h.size) (hEL : EW Z a0 EL) (H : CHr Z EL s.vm s.heap vm h) (hmem : (own, i) ∈ EL) {vs : List Value} {z : Int32} (ht : (∀ c ∈ text.toList, c.toNat < 256) ∧ text.toList.map (fun c => Value.int (Jvm.Lit.byteI c.toNat.toUInt16)) = vs) (hz : ¬ z < 0) (hzl : z.toNatClampNeg = vs.length) (hvl : vs.length < 2 ^ 31) (hd : decode c.code pc = .ok (.ldc i, 2)) {n : Nat} (hn : 4 * text.toList.length ≤ n) (hbig : n ≤ 536870912) (hc : cells + 2 ≤ R.cells) (hl : slots + (n + 4) ≤ R.slots) (pc' : Nat) (hp : pc + 2 = pc') (G : ∀ a b T' h' k1, Stand p l e R (s.setVm T'.vm) m args below meth c T' locs (cells + 2) (slots + (n + 4)) → T'.heap = h' → Ext h h' → Z.Warmed39 T'.vm → T'.vm.findClass own = some m.cls → s.Since T'.vm k1 → k1 ≤ h'.size → CHr Z EL s.vm s.heap T'.vm h' → Exa Z h' a "java/lang/String" → Fld Z h' a "java/lang/String" "coder" "B" (.int 0) → Fld Z h' a "java/lang/String" "value" "[B" (.ref b) → AV Z h' b .byte vs → (∀ x, Safe Z EL T'.vm h' x → x ≠ a ∧ x ≠ b) → Go p e below P T' (mkF m pc' Ls (.ref a :: st))) : Go p e below P T (mkF m pc Ls st) := by
  subst hp
  obtain ⟨a, T', h', k1, b, kk, X', e', E, hS', hk', hZ', ho', EA, FC, FV, AB, -, -, hC, -, hsf, k⟩ := ldcCH X hx hZ hown ws wS eT hS hk0 hEL hmem H.1 ht hz hzl (g := mkF m pc Ls st) rfl hd hn hbig hc hl
  exact (G a b T' h' k1 X' e' E hZ' ho' hS' hk' (H.trans hC) EA FC FV (av_of_arv AB hzl hvl) hsf).stp k
theorem g_callSH (X : Stand p l e R (s.setVm vm) m args below meth c T locs cells slots) (hx : p.tables.exec = Jvm.exec) {own : String} (hown : vm.findClass own = some m.cls) {i : Nat} {y : MethodName} {bytes : ByteArray} {maxL : Nat} {ret : Option FieldType} (w1 : (Cond.methodLink own i y).before a0 Z = true) (w2 : (Cond.static y).before a0 Z = true) (w3 : (Cond.initialized y.cls).before a0 Z = true) (w4 : (Cond.code y bytes maxL ret).before a0 Z = true)  (hy : y.cls ≠ "java/lang/invoke/MethodHandle" ∧ y.cls ≠ "java/lang/invoke/VarHandle") (eT : T.heap = h) {rm : Room} {Q : Option Value → Heap → List Loc → Prop} {St : List Value} (argsL rest : List Value) (hZ : Z.Warmed39 vm) (hS : s.Since vm k0) (hk0 : k0 ≤ h.size) (hEL : EW Z a0 EL) (H : CHr Z EL s.vm s.heap vm h) (hs : St = argsL.reverse ++ rest) (M : CoH l y bytes maxL ret [] rm Z EL h argsL.toArray Q) (hlen : ∀ sig, parseMethodDescriptor y.desc = some sig → argsL.length = sig.parameters.length) (W : Nat) (hW : (rest.map fun v => v.category).sum ≤ W) (hf : rm.frames + 1 ≤ R.frames) (hl : W + (maxL + 11) + rm.locals ≤ R.locals) (hc : cells + rm.cells ≤ R.cells) (hsl : slots + rm.slots ≤ R.slots) (hsz : Ls.size = c.maxLocals) (hd : decode c.code pc = .ok (.invokestatic i, 3)) (pc' : Nat) (hp : pc + 3 = pc') (G : ∀ v T' h' L, Stand p l e R (s.setVm T'.vm) m args below meth c T' (locs ++ L) (cells + rm.cells) (slots + rm.slots) → T'.heap = h' → Z.Warmed39 T'.vm → T'.vm.findClass own = some m.cls → s.Since T'.vm h'.size → CHr Z EL s.vm s.heap T'.vm h' → Q v h' L → Go p e below P T' (mkF m pc' Ls (v.toList ++ rest))) : Go p e below P T (mkF m pc Ls St) := by
  subst hp
  obtain ⟨v, vm1, ⟨T', L', k', n'⟩, -, X', hS', hgr, ⟨L, hQ, h1, h2, h3, h4⟩, k⟩ := callSS X hx (y := y) hown (mvT (s := s.setVm vm) hZ w1) (mvT (s := s.setVm vm) hZ w2) (mvT (s := s.setVm vm) hZ w3) (mvT (s := s.setVm vm) hZ w4) hy (backOfSH (W := W) M hZ w4 w3 hf hl hEL H.1) (g := mkF m pc Ls St) rfl hsz (argsL := argsL) (rest := rest) hlen hs (by show 2 * 0 + _ ≤ W; omega) hd (fun _ _ => ⟨rfl, eT, hc, hsl⟩)
  dsimp only [Pt.U, Pt.locs, Pt.cells, Pt.slots] at X' h1 h2 h3 h4 k hQ hS' hgr
  subst h1 h2 h3
  have hZ' : Z.Warmed39 T'.vm := State.Warmed39.trans (t := s.setVm vm) hZ hS'.1
  have ho' : T'.vm.findClass own = some m.cls := by rw [hS'.1.alike.findClass]; exact hown
  refine (G v T' _ L X' rfl hZ' ho' (hS.trans hS' (by rw [← eT] at hk0; omega)) (H.trans h4) hQ).stp ?_
  exact fun _ j => k.trans j
theorem g_initH (X : Stand p l e R (s.setVm vm) m args below meth c T locs cells slots) (hx : p.tables.exec = Jvm.exec) {own : String} (hown : vm.findClass own = some m.cls) {i : Nat} {y : MethodName} {bytes : ByteArray} {maxL : Nat} (w1 : (Cond.methodLink own i y).before a0 Z = true) (hnm : y.name = "<init>") (w2 : (Cond.instanceMethod y).before a0 Z = true) (w3 : (Cond.initialized y.cls).before a0 Z = true) (w4 : (Cond.code y bytes maxL none).before a0 Z = true)  (hy : y.cls ≠ "java/lang/invoke/MethodHandle" ∧ y.cls ≠ "java/lang/invoke/VarHandle") (eT : T.heap = h) {rm : Room} {Q : Option Value → Heap → List Loc → Prop} {St : List Value} (argsL rest : List Value) (hZ : Z.Warmed39 vm) (hS : s.Since vm k0) (hk0 : k0 ≤ h.size) (hEL : EW Z a0 EL) (H : CHr Z EL s.vm s.heap vm h) {a : Addr} (hs : St = argsL.reverse ++ .ref a :: rest) (M : CoH l y bytes maxL none [] rm Z EL h (.ref a :: argsL).toArray Q) (hlen : ∀ sig, parseMethodDescriptor y.desc = some sig → argsL.length = sig.parameters.length) (W : Nat) (hW : (rest.map fun v => v.category).sum ≤ W) (hf : rm.frames + 1 ≤ R.frames) (hl : W + (maxL + 11) + rm.locals ≤ R.locals) (hc : cells + rm.cells ≤ R.cells) (hsl : slots + rm.slots ≤ R.slots) (hsz : Ls.size = c.maxLocals) (hd : decode c.code pc = .ok (.invokespecial i, 3)) (pc' : Nat) (hp : pc + 3 = pc') (G : ∀ v T' h' L, Stand p l e R (s.setVm T'.vm) m args below meth c T' (locs ++ L) (cells + rm.cells) (slots + rm.slots) → T'.heap = h' → Z.Warmed39 T'.vm → T'.vm.findClass own = some m.cls → s.Since T'.vm h'.size → CHr Z EL s.vm s.heap T'.vm h' → Q v h' L → Go p e below P T' (mkF m pc' Ls (v.toList ++ rest))) : Go p e below P T (mkF m pc Ls St) := by
  subst hp
  obtain ⟨v, vm1, ⟨T', L', k', n'⟩, -, X', hS', hgr, ⟨L, hQ, h1, h2, h3, h4⟩, k⟩ := X.specialBackS hx (y := y) hnm hown (mvT (s := s.setVm vm) hZ w1) (mvT (s := s.setVm vm) hZ w2) (mvT (s := s.setVm vm) hZ w4) hy (backOfSH (W := W) M hZ w4 w3 hf hl hEL H.1) (g := mkF m pc Ls St) rfl hsz (Steps.refl _) (a := a) (argsL := argsL) (rest := rest) hlen hs (by show 2 * 0 + _ ≤ W; omega) hd (fun _ _ => ⟨rfl, eT, hc, hsl⟩)
  dsimp only [Pt.U, Pt.locs, Pt.cells, Pt.slots] at X' h1 h2 h3 h4 k hQ hS' hgr
  subst h1 h2 h3
  have hZ' : Z.Warmed39 T'.vm := State.Warmed39.trans (t := s.setVm vm) hZ hS'.1
  have ho' : T'.vm.findClass own = some m.cls := by rw [hS'.1.alike.findClass]; exact hown
  refine (G v T' _ L X' rfl hZ' ho' (hS.trans hS' (by rw [← eT] at hk0; omega)) (H.trans h4) hQ).stp ?_
  exact fun _ j => k.trans j
theorem AV.safe {a : Addr} {ty : FieldType} {vs : List Value} (hal : Z.vm.Alike vm) (F : AV Z h a ty vs) (ht : ty ≠ .byte) : Safe Z EL vm h a := by obtain ⟨c, A, -⟩ := F; exact Safe.arr hal A ht
theorem own_safe_new {h' : Heap} {b : Addr} (H : CHv Z EL vm h) (E : Ext h h') (gb : b = h.size) : Safe Z EL vm h' b := Safe.ext E H (Safe.new (Nat.le_of_eq gb.symm))
theorem own_safe_null {x : Addr} (hal : Z.vm.Alike vm) (E : Exa Z h x "java/lang/String") (F : Fld Z h x "java/lang/String" "value" "[B" .null) : Safe Z EL vm h x := fun B => by
  obtain ⟨cell, k, e1, e2, e3, -, -⟩ := E
  obtain ⟨p, -, u, a, -, q, -, G, rfl | rfl⟩ := B
  · obtain ⟨cell', cf, k', i, f, g1, g2, -, -, -, -, g7⟩ := F
    cases (show h[q.sa]? = some q.sC from G.ha).symm.trans g1
    obtain ⟨cS, ⟨⟨-, -, -, ⟨c1, k1, i1, f1, -⟩, -, -, -, v1, -⟩, -⟩, -⟩ := G
    obtain ⟨k3, e4⟩ := ff_back (U := Wst Z vm h) hal f1
    have e5 := e4.symm.trans g2
    simp only [Option.some.injEq, Prod.mk.injEq] at e5
    rw [e5.2.2.2, g7] at v1
    cases v1
  · cases (show h[q.sd]? = some q.SA from G.hd).symm.trans e1
    obtain ⟨cS, -, -, f, -⟩ := G
    have f : vm.findClass "[B" = some q.SA.cls := f
    rw [hal.findClass] at f
    obtain ⟨k1, q1, q2⟩ := Vm.findClass_spec f
    obtain ⟨k2, q3, q4⟩ := Vm.findClass_spec e2
    cases q1.symm.trans q3
    exact absurd (q2.symm.trans q4) (by decide)
end OwnWide
theorem own_made39 {s : State} {vm' : Vm} (hW : s.Warmed39 vm') {d c : ClassId} {sg : Lambda.Shape} (h : Lambda.isMade { classPath := fun _ => none } s.vm d sg c = true) : Lambda.isMade { classPath := fun _ => none } vm' d sg c = true := by
  have hA := hW.alike
  simp only [Lambda.isMade, Option.bind_eq_bind, Option.pure_def, Option.getD_eq_iff, Option.bind_eq_some_iff, Bool.false_eq_true, and_false, or_false] at h ⊢
  obtain ⟨dk, h2, k, h3, file, h4, cf, h5, object, ho, iface, hi, ok, h6, lay, h7, methods, h8, t, ht, tk, htk, h⟩ := h
  obtain ⟨dk', h2', e2⟩ := hA.2.2 _ _ h2
  obtain ⟨k', h3', e3, -, hres, -⟩ := hW.2.2.2 _ _ h3
  obtain ⟨ok', h6', e6⟩ := hA.2.2 _ _ h6
  obtain ⟨tk', htk', e7⟩ := hA.2.2 _ _ htk
  rw [e2] at h2'; rw [e6] at h6'; rw [e7] at htk'
  generalize k'.resolved = r1 at e3 hres
  generalize k'.nestHost = r2 at e3
  generalize k'.nestHostError = r3 at e3
  subst e3
  refine ⟨_, h2', _, h3', file, h4, cf, h5, object, by rw [hA.findClass]; exact ho, iface, by rw [hA.findClass]; exact hi, _, h6', lay, h7, methods, h8, t, by rw [hA.findClass]; exact ht, _, htk', ?_⟩
  rw [Lambda.methodIn_ask_alike hA, Lambda.methodIn_ask_alike hA]
  cases hg : ((methodIn t sg.implName sg.implDesc.toString tk.isInterface none).ask { classPath := fun _ => none } s.vm).1 with
  | error x => simp [hg] at h
  | ok target =>
    cases hf : ((methodIn iface sg.name sg.sam.toString true none).ask { classPath := fun _ => none } s.vm).1 with
    | error x => simp [hg, hf] at h
    | ok found =>
      have hg' : ((methodIn t sg.implName sg.implDesc.toString (Class.isInterface { tk with resolved := tk'.resolved, nestHost := tk'.nestHost, nestHostError := tk'.nestHostError }) none).ask { classPath := fun _ => none } s.vm).1 = .ok target := hg
      simp only [hg, hg', hf, Option.some.injEq, Bool.and_eq_true] at h ⊢
      rw [Lambda.resolvedOf_alike hA, hA.selectMethod]
      obtain ⟨⟨hl, b13⟩, b14⟩ := h
      refine ⟨⟨hl, ?_⟩, b14⟩
      rw [List.all_eq_true] at b13 ⊢
      intro y hy
      have := b13 y hy
      obtain ⟨x, i⟩ := y
      cases x with
      | none => rfl
      | some r =>
        simp only [Option.isNone_some, Bool.false_or, decide_eq_true_eq] at this ⊢
        rcases hres i with h1 | ⟨h1, -⟩
        · rw [h1]; exact this
        · rw [this] at h1; cases h1
section OwnLam
variable {p : Program} {l : Launch} {e : Env} {R : Room} {s : State} {m : MethodId} {args : Array Value} {below : List Frame} {meth : Method} {c : Code} {T : State} {locs : List Loc} {cells slots : Nat} {P : State → Outcome → Prop} {pc : Nat} {Ls : Array Slot} {st : List Value} {Z : State} {a0 : Array Value} {h : Heap}
theorem own_site {x : MethodName} {pc0 index : Nat} {sg : Lambda.Shape} (w : (Cond.lambdaSite x pc0 index sg).before a0 Z = true) (hcap : sg.captured = []) : ∃ (m0 : MethodId) (k : Class) (i0 p0 : Nat) (a : Addr) (cK : ClassId), Z.methodNamed? x = some m0 ∧ Z.vm.classes[m0.cls]? = some k ∧ (k.callSites.find? fun y => y.1 == m0.idx && y.2.1 == pc0) = some (i0, p0, .constant a) ∧ Jvm.LamKit.Made Z x.cls sg cK ∧ Jvm.LamKit.FnAt Z.heap a cK := by
  obtain ⟨cK, one, hat⟩ := Cond.lambdaSite_spec w
  obtain ⟨mD, kD, cfD, i0, p0, lk, hmD, hkD, -, -, -, hfind, hmade, hcan, hl⟩ := State.lambdaAt?_spec hat
  obtain ⟨kD', hkD', hnameD⟩ := className_of_methodNamed hmD
  cases hkD.symm.trans hkD'
  rcases hl with ⟨a, cell, rfl, -, -, hcell, hcls, hvm, -⟩ | ⟨-, -, hne⟩
  · exact ⟨mD, kD, i0, p0, a, cK, hmD, hkD, hfind, ⟨_, kD, hkD, hnameD, hmade, hcan⟩, ⟨cell, hcell, hcls, hvm⟩⟩
  · exact absurd hcap hne
theorem own_made_warm {host : String} {sg : Lambda.Shape} {cK : ClassId} (hZ : Z.Warmed39 s.vm) (M : Jvm.LamKit.Made Z host sg cK) : Jvm.LamKit.Made s host sg cK := by
  obtain ⟨d, dk, h1, h2, h3, h4⟩ := M
  obtain ⟨dk', h1', e⟩ := hZ.alike.2.2 _ _ h1
  refine ⟨d, dk', h1', by rw [e]; exact h2, own_made39 hZ h3, ?_⟩
  have hA := hZ.alike
  simp only [State.lambdaCallable, hA.findClass, hA.assignable, hA.superclasses, hA.declaredIn] at h4 ⊢
  exact h4
theorem g_indy (X : Stand p l e R s m args below meth c T locs cells slots) (hx : p.tables.exec = Jvm.exec) (hZ : Z.Warmed39 s.vm) {k : Class} {i0 p0 index : Nat} {a : Addr} (hk : Z.vm.classes[m.cls]? = some k) (hsite : (k.callSites.find? fun y => y.1 == m.idx && y.2.1 == pc) = some (i0, p0, .constant a)) (hsz : Ls.size = c.maxLocals) (hd : decode c.code pc = .ok (.invokedynamic index, 5)) (W : Nat) (hW : (st.map fun v => v.category).sum ≤ W) (hl : W + 3072 ≤ R.locals) (pc' : Nat) (hp : pc + 5 = pc') (G : Go p e below P T (mkF m pc' Ls (.ref a :: st))) : Go p e below P T (mkF m pc Ls st) := by
  subst hp
  obtain ⟨k', hk', ek⟩ := hZ.alike.2.2 _ _ hk
  have hw : e.platform.lambdaLinkWords = 3072 := by rw [X.admits.platform]
  exact G.stp fun _ j => X.lambdaConstant hx (g := mkF m pc Ls st) rfl hsz hd hk' (by rw [ek]; exact hsite) (by rw [hw]; show 2 * 0 + (st.map fun v => v.category).sum + 3072 ≤ R.locals; omega) j
end OwnLam
section OwnMet
theorem own_met {l : Launch} {Z : State} {h : Heap} {y : MethodName} {bytes : ByteArray} {maxL : Nat} {ret : Option FieldType} {rm : Room} {as : Array Value} {Q : Option Value → Heap → List Loc → Prop} {n0 : Nat} (M : Co l y bytes maxL ret [] rm Z h as Q) (Q' : Option Value → Heap → Prop) (hQ : ∀ v h' L, Q v h' L → Q' v h' ∧ Fr n0 L) : Met l y [Jvm.Cond.code y bytes maxL ret] rm (fun a U => a = as ∧ Z.Warmed39 U.vm ∧ U.heap = h) (fun _ _ o t => ∃ v, o = .returned v ∧ Q' v t.heap) rm.cells rm.slots (fun b => n0 ≤ b) := by
  refine MetFree.mono M (fun _ _ h => h) (fun _ _ _ _ _ _ => trivial) ?_
  rintro a st o t hP ⟨v, L, rfl, hq, hf⟩
  obtain ⟨q1, q2⟩ := hQ _ _ _ hq
  exact ⟨⟨v, rfl, q1⟩, L, hf, q2⟩
end OwnMet
section OwnEnt
def Sg : Lambda.Shape := Jvm.Lambda.Shape.mk "java/util/function/Function" "apply" (Jvm.ClassFile.MethodDescriptor.mk [.object "java/lang/Object"] (some (.object "java/lang/Object"))) [] 6 "com/example/bindwick/bindwick/Attribute" "lambda$new$0" (Jvm.ClassFile.MethodDescriptor.mk [.object "java/lang/String"] (some (.array .byte))) false (Jvm.ClassFile.MethodDescriptor.mk [.object "java/lang/String"] (some (.array .byte)))
def fcode : ByteArray := ⟨#[0x2b, 0xc0, 0x00, 0x0e, 0xb8, 0x00, 0x14, 0xb0]⟩
set_option maxRecDepth 65536 in
theorem own_fwd : Jvm.LamKit.fwdOK Sg "com/example/bindwick/bindwick/Attribute" fcode 2 (some (.object "java/lang/Object")) 20 16 = true := by decide +kernel
theorem fd0 : decode fcode 0 = .ok (.aload_n 1, 1) := by decide +kernel
theorem fd1 : decode fcode 1 = .ok (.checkcast 14, 3) := by decide +kernel
theorem fd4 : decode fcode 4 = .ok (.invokestatic 20, 3) := by decide +kernel
theorem fd7 : decode fcode 7 = .ok (.areturn, 1) := by decide +kernel
def entOK (sg : Lambda.Shape) (host : String) (i : Nat) (name : String) : Bool :=
  match sg.file host with
  | none => false
  | some D => match D.constantPool[i]? with
    | some (.class_ n) => decide (i ≠ D.thisClass) && decide (D.constantPool.string? n = some name)
    | _ => false
set_option maxRecDepth 65536 in
theorem own_ent : entOK Sg "com/example/bindwick/bindwick/Attribute" 14 "java/lang/String" = true := by decide +kernel
theorem own_ent_ready {vm : Vm} {d c : ClassId} {dk : Class} {sg : Lambda.Shape} {host name : String} {i : Nat} {x : ClassId} (hok : entOK sg host i name = true) (hd : vm.classes[d]? = some dk) (hn : dk.name = host) (h : Lambda.isMade { classPath := fun _ => none } vm d sg c = true) (hf : vm.findClass name = some x) : vm.classReady c i x := by
  obtain ⟨dk', k, ok, tk, file, cf, object, iface, toy, lay, methods, target, found, hd', hk, hfile, hcf, -, -, -, -, hms, ht, htk, hg, -, hrec, -, -, -, -, hpool, hmeth, -, -, hres, -⟩ := Lambda.isMade_spec h
  cases hd.symm.trans hd'
  rw [hn] at hcf
  unfold entOK at hok
  rw [hcf] at hok
  dsimp only at hok
  split at hok
  · rename_i n hi
    simp only [Bool.and_eq_true, decide_eq_true_eq] at hok
    exact ⟨k, hk, hres i _ (Lambda.resolvedOf_class hi hok.1 hok.2 hf)⟩
  · cases hok
end OwnEnt

section OwnArr
variable {p : Program} {l : Launch} {e : Env} {R : Room} {s : State} {m : MethodId} {args : Array Value} {below : List Frame} {meth : Method} {c : Code} {T : State} {locs : List Loc} {cells slots : Nat} {P : State → Outcome → Prop} {pc : Nat} {Ls : Array Slot} {st : List Value} {Z : State} {a0 : Array Value} {h : Heap} {vm : Vm} {EL : List (String × Nat)} {k0 : Nat}
theorem AV.cast {a : Addr} {ty : FieldType} {vs vs' : List Value} (F : AV Z h a ty vs) (q : vs = vs') : AV Z h a ty vs' := q ▸ F
theorem g_newarrayE (X : Stand p l e R s m args below meth c T locs cells slots) (hx : p.tables.exec = Jvm.exec) (hZ : Z.Warmed39 s.vm) {aty : ArrayType} (w : (Cond.arrayClass (newarray.typeOf aty)).before a0 Z = true) (eT : T.heap = h) {n : Int32} (hn : ¬ n < 0) (cap : Nat) (hcap : n.toNatClampNeg ≤ cap) (hb : cap * 8 ≤ 536870912) (hc : cells + 1 ≤ R.cells) (hl : slots + cap ≤ R.slots) (vs : List Value) (hvs : vs = List.replicate n.toNatClampNeg (defaultValue (newarray.typeOf aty))) {ad : String} (had : "[" ++ (newarray.typeOf aty).toString = ad) (hd : decode c.code pc = .ok (.newarray aty, 2)) (pc' : Nat) (hp : pc + 2 = pc') (G : ∀ T' h' b, Stand p l e R s m args below meth c T' locs (cells + 1) (slots + cap) → T'.heap = h' → b = h.size → Ext h h' → AV Z h' b (newarray.typeOf aty) vs → Exa Z h' b ad → Go p e below P T' (mkF m pc' Ls (.ref b :: st))) : Go p e below P T (mkF m pc Ls (.int n :: st)) := by
  subst hp
  obtain ⟨T', h', cA, X', e', E, A, XA, k⟩ := newPE X hx hZ w eT (g := mkF m pc Ls (.int n :: st)) rfl hd rfl hn hcap hb hc hl had
  exact (G T' h' h.size X' e' rfl E (AV.new A vs hvs (by omega)) XA).stp k
theorem g_clone (X : Stand p l e R s m args below meth c T locs cells slots) (hx : p.tables.exec = Jvm.exec) (hZ : Z.Warmed39 s.vm) {own : String} (hown : s.vm.findClass own = some m.cls) {i : Nat} {ad : String} (w1 : (Cond.methodLink own i ⟨ad, "clone", "()Ljava/lang/Object;"⟩).before a0 Z = true) (w2 : (Cond.sameMethod ad "java/lang/Object" "clone" "()Ljava/lang/Object;").before a0 Z = true) (w3 : (Cond.native ⟨"java/lang/Object", "clone", "()Ljava/lang/Object;"⟩).before a0 Z = true) (w4 : (Cond.instanceMethod ⟨"java/lang/Object", "clone", "()Ljava/lang/Object;"⟩).before a0 Z = true) (w5 : (Cond.selects ad ⟨ad, "clone", "()Ljava/lang/Object;"⟩ ⟨"java/lang/Object", "clone", "()Ljava/lang/Object;"⟩).before a0 Z = true) (w6 : (Cond.castable ad "java/lang/Cloneable").before a0 Z = true) (eT : T.heap = h) {a : Addr} {ty : FieldType} {vs : List Value} (A : AV Z h a ty vs) (hfit : ∀ v ∈ vs, fits ty v = true) (E : Exa Z h a ad) (hsz : Ls.size = c.maxLocals) (W : Nat) (hW : (st.map fun v => v.category).sum ≤ W) (hf : 1 ≤ R.frames) (hl : W + 14 ≤ R.locals) (cap : Nat) (hcap : vs.length ≤ cap) (hc : cells + 1 ≤ R.cells) (hsl : slots + cap ≤ R.slots) (hd : decode c.code pc = .ok (.invokevirtual i, 3)) (pc' : Nat) (hp : pc + 3 = pc') (G : ∀ T' h' b, Stand p l e R s m args below meth c T' locs (cells + 1) (slots + cap) → T'.heap = h' → b = h.size → Ext h h' → AV Z h' b ty vs → Exa Z h' b ad → Go p e below P T' (mkF m pc' Ls (.ref b :: st))) : Go p e below P T (mkF m pc Ls (.ref a :: st)) := by
  subst hp
  obtain ⟨cl, A1, e1, hlt⟩ := A
  have FC : FitC Z cl := fitC_of A1 fun i hi v hv => hfit v (by rw [e1] at hv; first | (rw [List.getElem?_toArray] at hv; exact List.mem_of_getElem? hv) | exact List.mem_of_getElem? (by simpa using hv))
  obtain ⟨T', h', X', e', E', A', X2, k⟩ := cloneA X hx hZ hown w1 w2 w3 w4 w5 w6 eT A1 E FC (g := mkF m pc Ls (.ref a :: st)) rfl hsz rfl hd hf (W := W) (by show 2 * 0 + _ ≤ W; omega) hl (cap := cap) (by rw [e1]; simpa using hcap) hc hsl
  exact (G T' h' h.size X' e' rfl E' ⟨_, A', e1, hlt⟩ X2).stp k
theorem av_arv {a : Addr} {ty : FieldType} {vs : List Value} (d : Value) (F : AV Z h a ty vs) (hf : ∀ v ∈ vs, fits ty v = true) (z : Int32) (hz : ¬ z < 0) (hl : z.toNatClampNeg = vs.length) : ∃ k, Arv Z h a k ty z vs d := by
  obtain ⟨c, A, r, -⟩ := F
  have sz : c.slots.size = vs.length := by rw [r]; simp
  refine ⟨c.cls, c, A, rfl, by rw [sz, hl], hz, ?_, ?_⟩
  · intro i hi
    have hi' : i < vs.length := by rw [← sz]; exact hi
    rw [r]
    simp [List.getD_eq_getElem?_getD, List.getElem?_eq_getElem hi']
  · intro i hi
    have hi' : i < vs.length := by rw [← sz]; exact hi
    rw [List.getD_eq_getElem?_getD, List.getElem?_eq_getElem hi']
    exact hf _ (List.getElem_mem hi')
theorem g_arraycopy (X : Stand p l e R s m args below meth c T locs cells slots) (hx : p.tables.exec = Jvm.exec) (hZ : Z.Warmed39 s.vm) {own : String} (hown : s.vm.findClass own = some m.cls) {i : Nat} (w1 : (Cond.methodLink own i Jvm.Stand.acN).before a0 Z = true) (w2 : (Cond.native Jvm.Stand.acN).before a0 Z = true) (w3 : (Cond.static Jvm.Stand.acN).before a0 Z = true) (w4 : (Cond.initialized "java/lang/System").before a0 Z = true) (eT : T.heap = h) {a b : Addr} {vs vd us : List Value} (z z' nn : Int32) (A : AV Z h a .byte vs) (B : AV Z h b .byte vd) (fa : ∀ v ∈ vs, fits .byte v = true) (fb : ∀ v ∈ vd, fits .byte v = true) (hz : ¬ z < 0) (hzl : z.toNatClampNeg = vs.length) (hz' : ¬ z' < 0) (hzl' : z'.toNatClampNeg = vd.length) (hn : ¬ nn < 0) (hn1 : nn.toNatClampNeg ≤ vs.length) (hn2 : nn.toNatClampNeg = vd.length) (hus : (List.range vd.length).map (fun i => vs.getD i (.int 0)) = us) {n0 : Nat} (N : Fr n0 locs) (ge : n0 ≤ b) (hsz : Ls.size = c.maxLocals) (W : Nat) (hW : (st.map fun v => v.category).sum ≤ W) (hf : 1 ≤ R.frames) (hlo : W + (nativeFrameWords "java/lang/System" "arraycopy" 5 + 11) ≤ R.locals) (hd : decode c.code pc = .ok (.invokestatic i, 3)) (pc' : Nat) (hp : pc + 3 = pc') (G : ∀ T' h' L, Stand p l e R s m args below meth c T' L cells slots → T'.heap = h' → Fr n0 L → Keep h h' [b] → AV Z h' b .byte us → Go p e below P T' (mkF m pc' Ls st)) : Go p e below P T (mkF m pc Ls (.int nn :: .int 0 :: .ref b :: .int 0 :: .ref a :: st)) := by
  subst hp
  obtain ⟨k, F⟩ := av_arv (.int 0) A fa z hz hzl
  obtain ⟨k', F'⟩ := av_arv (.int 0) B fb z' hz' hzl'
  obtain ⟨-, -, -, hlt⟩ := B
  have e0 : (0 : Int32).toNatClampNeg = 0 := by decide
  have el : us.length = vd.length := by rw [← hus]; simp
  obtain ⟨T', h', L, X', e', N', K, F2, kk⟩ := cpA X hx hZ hown w1 w2 w3 w4 eT (sp := 0) (dp := 0) (nn := nn) (us := us) F F' (Or.inl ⟨rfl, rfl⟩) (by decide) (by decide) hn (by rw [e0, hzl]; omega) (by rw [e0, hzl']; omega) (by rw [hn2, ← hus]; simp [e0]) (by rw [e0]; omega) N ge (g := mkF m pc Ls (.int nn :: .int 0 :: .ref b :: .int 0 :: .ref a :: st)) rfl hsz rfl hd hf (W := W) (by show 2 * 0 + _ ≤ W; omega) hlo
  have ee : vd.take (0 : Int32).toNatClampNeg ++ us ++ vd.drop ((0 : Int32).toNatClampNeg + nn.toNatClampNeg) = us := by rw [e0, hn2]; simp
  rw [ee] at F2
  exact (G T' h' L X' e' N' K (av_of_arv F2 (by rw [hzl', el]) (by rw [el]; exact hlt))).stp kk
def OvA (Z : State) (h : Heap) (a : Addr) (ty : FieldType) (C : String) : Prop := ∃ c : Cell, h[a]? = some c ∧ OvrA Z c.cls ty C
theorem OvA.keep {h' : Heap} {a : Addr} {ws : List Addr} {ty : FieldType} {C : String} (F : OvA Z h a ty C) (K : Keep h h' ws) : OvA Z h' a ty C := by obtain ⟨c, h1, o⟩ := F; obtain ⟨c', h2, e, -⟩ := K.2.2 a c h1; exact ⟨c', h2, by rw [e]; exact o⟩
theorem OvA.ext {h' : Heap} {a : Addr} {ty : FieldType} {C : String} (F : OvA Z h a ty C) (E : Ext h h') : OvA Z h' a ty C := by obtain ⟨c, h1, o⟩ := F; exact ⟨c, E.2 _ _ h1, o⟩
theorem OvA.wr {h' : Heap} {a b : Addr} {sl : Nat} {v : Value} {ty : FieldType} {C : String} (F : OvA Z h a ty C) (W : Wr h h' b sl v) : OvA Z h' a ty C := by obtain ⟨c, h1, o⟩ := F; obtain ⟨c', h2, e, -⟩ := wr_at W h1; exact ⟨c', h2, by rw [e]; exact o⟩
theorem OvA.lt {a : Addr} {ty : FieldType} {C : String} (F : OvA Z h a ty C) : a < h.size := by obtain ⟨c, h1, -⟩ := F; exact (Array.getElem?_eq_some_iff.mp h1).1
theorem OvA.sto {a y : Addr} {C : String} {t0 ty : FieldType} {vs : List Value} (F : OvA Z h a ty C) (A : AV Z h a t0 vs) (I : Ins Z h y C true) : Sto Z h a (.ref y) := by
  obtain ⟨c, h1, o⟩ := F
  obtain ⟨c', A', -⟩ := A
  cases h1.symm.trans A'.1
  exact Sto.ofVA A' rfl o I
theorem g_anewarrayA (X : Stand p l e R s m args below meth c T locs cells slots) (hx : p.tables.exec = Jvm.exec) (hZ : Z.Warmed39 s.vm) {own : String} (hown : s.vm.findClass own = some m.cls) {C : String} {ty : FieldType} {i : Nat} (hC : (FieldType.array ty).toString = C) (w1 : (Cond.classLink own i C).before a0 Z = true) (w2 : (Cond.arrayOver (.array ty)).before a0 Z = true) (eT : T.heap = h) {n : Int32} (hn : ¬ n < 0) (cap : Nat) (hcap : n.toNatClampNeg ≤ cap) (hb : cap * 8 ≤ 536870912) (hc : cells + 1 ≤ R.cells) (hl : slots + cap ≤ R.slots) (vs : List Value) (hvs : vs = List.replicate n.toNatClampNeg .null) (hd : decode c.code pc = .ok (.anewarray i, 3)) (pc' : Nat) (hp : pc + 3 = pc') (G : ∀ T' h' b, Stand p l e R s m args below meth c T' locs (cells + 1) (slots + cap) → T'.heap = h' → b = h.size → Ext h h' → AV Z h' b (.array ty) vs → OvA Z h' b ty C → Go p e below P T' (mkF m pc' Ls (.ref b :: st))) : Go p e below P T (mkF m pc Ls (.int n :: st)) := by
  subst hp
  obtain ⟨T', h', cA, X', e', E, A, -, O, k⟩ := newRA X hx hZ hown hC w1 w2 eT (g := mkF m pc Ls (.int n :: st)) rfl hd rfl hn hcap hb hc hl rfl
  exact (G T' h' h.size X' e' rfl E (AV.new A vs hvs (by omega)) ⟨_, A.1, O⟩).stp k
theorem own_bk_exa {a b : Addr} {k : ClassId} {z : Int32} {vs : List Value} {d : Value} (hal : Z.vm.Alike vm) (F : Arv Z h b k .byte z vs d) (hsf : ∀ x, Safe Z EL vm h x → x ≠ a ∧ x ≠ b) : Exa Z h b "[B" := by
  have nb : ¬ Safe Z EL vm h b := fun S => (hsf b S).2 rfl
  obtain ⟨p, -, u, a', -, q, -, G, e⟩ := Classical.not_not.mp (show ¬ ¬ Bk Z EL vm h b from nb)
  obtain ⟨c, A, -⟩ := F
  have pl := A.plain
  obtain ⟨A1, ⟨hst, kA, hkA, comp, hkind⟩, -⟩ := A
  rcases e with rfl | rfl
  · exfalso
    cases (show h[q.sa]? = some q.sC from G.ha).symm.trans A1
    obtain ⟨cS, ⟨-, -, hcS⟩, ⟨kS, k1, k2, -⟩, -⟩ := G
    have k1 : vm.classes[cS]? = some kS := k1
    obtain ⟨k', z1, z2⟩ := hal.2.2 _ _ hkA
    rw [hcS] at z1
    cases k1.symm.trans z1
    have k3 : kA.kind = .ordinary := by rw [z2] at k2; exact k2
    rw [hkind] at k3
    cases k3
  · have A2 : h[q.sd]? = some q.SA := G.hd
    cases A2.symm.trans A1
    obtain ⟨cS, -, -, hB, -⟩ := G
    have hB : vm.findClass "[B" = some q.SA.cls := hB
    rw [hal.findClass] at hB
    exact ⟨q.SA, kA, A2, hB, hkA, pl, fun o => by rw [hkind] at o; cases o⟩
theorem g_ldcCE (X : Stand p l e R (s.setVm vm) m args below meth c T locs cells slots) (hx : p.tables.exec = Jvm.exec) {own text : String} {i : Nat} (hown : vm.findClass own = some m.cls) (ws : (Cond.stringLink own i text).before a0 Z = true) (wS : ∀ a ∈ Bundle.stringAtoms, a.before a0 Z = true) (eT : T.heap = h) (hZ : Z.Warmed39 vm) (hS : s.Since vm k0) (hk0 : k0 ≤ h.size) (hEL : EW Z a0 EL) (H : CHr Z EL s.vm s.heap vm h) (hmem : (own, i) ∈ EL) {vs : List Value} {z : Int32} (ht : (∀ c ∈ text.toList, c.toNat < 256) ∧ text.toList.map (fun c => Value.int (Jvm.Lit.byteI c.toNat.toUInt16)) = vs) (hz : ¬ z < 0) (hzl : z.toNatClampNeg = vs.length) (hvl : vs.length < 2 ^ 31) (hd : decode c.code pc = .ok (.ldc i, 2)) {n : Nat} (hn : 4 * text.toList.length ≤ n) (hbig : n ≤ 536870912) (hc : cells + 2 ≤ R.cells) (hl : slots + (n + 4) ≤ R.slots) (pc' : Nat) (hp : pc + 2 = pc') (G : ∀ a b T' h' k1, Stand p l e R (s.setVm T'.vm) m args below meth c T' locs (cells + 2) (slots + (n + 4)) → T'.heap = h' → Ext h h' → Z.Warmed39 T'.vm → T'.vm.findClass own = some m.cls → s.Since T'.vm k1 → k1 ≤ h'.size → CHr Z EL s.vm s.heap T'.vm h' → Exa Z h' a "java/lang/String" → Fld Z h' a "java/lang/String" "coder" "B" (.int 0) → Fld Z h' a "java/lang/String" "value" "[B" (.ref b) → AV Z h' b .byte vs → (∀ x, Safe Z EL T'.vm h' x → x ≠ a ∧ x ≠ b) → Exa Z h' b "[B" → Go p e below P T' (mkF m pc' Ls (.ref a :: st))) : Go p e below P T (mkF m pc Ls st) := by
  subst hp
  obtain ⟨a, T', h', k1, b, kk, X', e', E, hS', hk', hZ', ho', EA, FC, FV, AB, -, -, hC, -, hsf, k⟩ := ldcCH X hx hZ hown ws wS eT hS hk0 hEL hmem H.1 ht hz hzl (g := mkF m pc Ls st) rfl hd hn hbig hc hl
  have hZ2 : Z.Warmed39 T'.vm := hZ'
  exact (G a b T' h' k1 X' e' E hZ' ho' hS' hk' (H.trans hC) EA FC FV (av_of_arv AB hzl hvl) hsf (own_bk_exa hZ2.alike AB hsf)).stp k
theorem CoH.ofN {y : MethodName} {bytes : ByteArray} {maxL : Nat} {ret : Option FieldType} {ws : List Jvm.Cond} {rm : Room} {as : Array Value} {Q : Option Value → Heap → List Loc → Prop} (hpl : plainFor y = true) (body : ∀ (p : Program) (e : Env) (s : State) (m : MethodId) (below : List Frame) (meth : Method) (c : Code) (T : State), Stand p l e rm (s.setVm s.vm) m as below meth c T [] 0 0 → p.tables.exec = Jvm.exec → c.code = bytes → c.maxLocals = maxL → s.vm.findClass y.cls = some m.cls → meth.name = y.name → meth.sig.returnType = ret → meth.locks = false → Z.Warmed39 s.vm → T.heap = h → s.heap = h → s.Since s.vm h.size → CHr Z EL s.vm s.heap s.vm h → s.methodNamed? y = some m → Go p e below (RPH s Z EL rm.cells rm.slots Q) T (entryFrame m as maxL)) : CoH l y bytes maxL ret ws rm Z EL h as Q := by
  refine MetFree.of_bodySF hpl hisR ?_
  intro p e s m args below meth c s₁ Bd hml hP hK
  obtain ⟨rfl, hZ, hh, hC⟩ := hP
  have Xb : Stand p l e rm s m args below meth c s₁ [] 0 0 := Stand.of_body Bd
  refine body p e s m below meth c s₁ Xb Bd.exec Bd.bytes hml (findClass_of_methodNamed Bd.named) (name_of_methodNamed Bd.named Bd.method).1 Bd.returns (BodyLoose.notSynchronized Bd) hZ (by rw [← hh, Bd.state]; rfl) hh ((State.WarmedH.refl s).since _) ?_ Bd.named
  rw [hh]
  exact CHr.refl hC
theorem own_same {y : MethodName} {m0 m1 : MethodId} (hZ : Z.Warmed39 s.vm) (h1 : Z.methodNamed? y = some m0) (h2 : s.methodNamed? y = some m1) : m1 = m0 := by
  have q : (Z.setVm s.vm).methodNamed? y = Z.methodNamed? y := State.methodNamed?_setVm hZ.alike y
  have q2 : (Z.setVm s.vm).methodNamed? y = s.methodNamed? y := rfl
  rw [q2, h2, h1] at q
  exact Option.some.inj q
def Fna (h : Heap) (a : Addr) (cK : ClassId) : Prop := Jvm.LamKit.FnAt h a cK
theorem Fna.keep {h' : Heap} {a : Addr} {ws : List Addr} {cK : ClassId} (F : Fna h a cK) (K : Keep h h' ws) : Fna h' a cK := by obtain ⟨c, h1, h2, h3⟩ := F; obtain ⟨c', q1, q2, q3, -⟩ := K.2.2 a c h1; exact ⟨c', q1, q2.trans h2, q3.trans h3⟩
theorem Fna.ext {h' : Heap} {a : Addr} {cK : ClassId} (F : Fna h a cK) (E : Ext h h') : Fna h' a cK := by obtain ⟨c, h1, r⟩ := F; exact ⟨c, E.2 _ _ h1, r⟩
theorem Fna.wr {h' : Heap} {a b : Addr} {sl : Nat} {v : Value} {cK : ClassId} (F : Fna h a cK) (W : Wr h h' b sl v) : Fna h' a cK := by obtain ⟨c, h1, h2, h3⟩ := F; obtain ⟨c', q1, q2, q3, -⟩ := wr_at W h1; exact ⟨c', q1, q2.trans h2, q3.trans h3⟩
theorem Fna.lt {a : Addr} {cK : ClassId} (F : Fna h a cK) : a < h.size := by obtain ⟨c, h1, -⟩ := F; exact (Array.getElem?_eq_some_iff.mp h1).1
def Site (Z : State) (fa : Addr) (cK : ClassId) : Prop := ∃ (m0 : MethodId) (k : Class) (i0 p0 : Nat), Z.methodNamed? (⟨"com/example/bindwick/bindwick/Attribute", "<init>", "(Ljava/lang/String;[Ljava/lang/String;)V"⟩ : MethodName) = some m0 ∧ Z.vm.classes[m0.cls]? = some k ∧ (k.callSites.find? fun y => y.1 == m0.idx && y.2.1 == 18) = some (i0, p0, .constant fa) ∧ Jvm.LamKit.Made Z "com/example/bindwick/bindwick/Attribute" Sg cK
theorem own_cast {U : State} {mk : MethodId} {ck : Code} {bl : List Frame} (hU : At U mk ck bl) (hx : p.tables.exec = Jvm.exec) {g : JFrame} (hg : g.method = mk) {index cT : Nat} {a : Addr} {rest : List Value} (hr : U.vm.classReady mk.cls index cT) (hstack : g.stack = .ref a :: rest) {cell : Cell} {ks kt : Class} (h1 : U.heap[a]? = some cell) (h2 : ∀ k, cell.vm ≠ .statics k) (h3 : U.vm.classes[cell.cls]? = some ks) (h4 : U.vm.classes[cT]? = some kt) (h5 : U.vm.assignable cell.cls cT = true) (hdg : decode ck.code g.pc = .ok (.checkcast index, 3)) {target : State} (k : Steps p.tables e bl (U.setTop { g with pc := g.pc + 3 }) target) : Steps p.tables e bl (U.setTop g) target := by
  subst hg
  jvm_step hU [hx, hdg, checkcast.wp_ready (e := e) (s := U) (c := cT) (x := .ref a) (rest := rest) (f := g) hU.top hr hstack]
  exact ⟨cell, h1, h2, ks, h3, kt, h4, by rw [if_pos h5]; exact k⟩
def LXi : MethodName := ⟨"java/util/function/Function", "apply", "(Ljava/lang/Object;)Ljava/lang/Object;"⟩
def LY : MethodName := ⟨"com/example/bindwick/bindwick/Attribute", "lambda$new$0", "(Ljava/lang/String;)[B"⟩
theorem pdX : parseMethodDescriptor "(Ljava/lang/Object;)Ljava/lang/Object;" = some ⟨[.object "java/lang/Object"], some (.object "java/lang/Object")⟩ := by decide +kernel
theorem pdY : parseMethodDescriptor "(Ljava/lang/String;)[B" = some ⟨[.object "java/lang/String"], some (.array .byte)⟩ := by decide +kernel
theorem own_load (hx : p.tables.exec = Jvm.exec) (hZ : Z.Warmed39 s.vm) {fa r : Addr} {cK : ClassId} (hmd : Jvm.LamKit.Made Z "com/example/bindwick/bindwick/Attribute" Sg cK) (E : Exa Z h r "java/lang/String") (U : State) (ck : Code) (bl : List Frame) (target : State) (hU : At U ⟨cK, 1⟩ ck bl) (hck : ck.code = fcode) (hh : U.heap = h) (hW : s.WarmedH U.vm)
    (k : Steps p.tables e bl (U.setTop { method := ⟨cK, 1⟩, pc := 4, locals := #[.val (.ref fa), .val (.ref r)], stack := [Value.ref r].reverse, locked := none }) target) : Steps p.tables e bl (U.setTop { method := ⟨cK, 1⟩, pc := 0, locals := #[.val (.ref fa), .val (.ref r)], stack := [], locked := none }) target := by
  have hZU : Z.Warmed39 U.vm := wtrans hZ hW
  obtain ⟨d, dk, q1, q2, q3, -⟩ := own_made_warm (s := U) hZU hmd
  obtain ⟨cell, cT, i1, i2, i3⟩ := Ins.self E
  obtain ⟨cell2, y1, y2⟩ := E.cell
  cases i1.symm.trans y1
  simp only [Bool.and_eq_true, Bool.not_eq_true'] at i3
  obtain ⟨kt, z1⟩ := Vm.classAt_of_findClass i2
  obtain ⟨kc, z2⟩ := Vm.classAt_of_assignable i3.2 ⟨kt, z1⟩
  obtain ⟨kt', z1', -⟩ := hZU.alike.2.2 _ _ z1
  obtain ⟨kc', z2', -⟩ := hZU.alike.2.2 _ _ z2
  have hf : U.vm.findClass "java/lang/String" = some cT := by rw [hZU.alike.findClass]; exact i2
  refine XS.aloadN hU hx rfl (hb hck fd0) rfl rfl ?_
  exact own_cast hU hx (g := mkF ⟨cK, 1⟩ 1 #[.val (.ref fa), .val (.ref r)] [.ref r]) rfl (own_ent_ready own_ent q1 q2 q3 hf) rfl (by rw [hh]; exact i1) y2 z2' z1' (by rw [hZU.alike.assignable]; exact i3.2) (hb hck fd1) k
theorem g_lam (X : Stand p l e R s m args below meth c T locs cells slots) (hx : p.tables.exec = Jvm.exec) (hZ : Z.Warmed39 s.vm) {own : String} (hown : s.vm.findClass own = some m.cls) {i count : Nat} {bytes : ByteArray} {maxL : Nat} (w1 : (Cond.methodLink own i LXi).before a0 Z = true) (w2 : (Cond.declares LXi).before a0 Z = true) (w3 : (Cond.interfaceMethod LXi.cls LXi.cls LXi.name LXi.desc).before a0 Z = true) (w4 : (Cond.code LY bytes maxL (some (.array .byte))).before a0 Z = true) (w5 : (Cond.static LY).before a0 Z = true) (w6 : (Cond.initialized LY.cls).before a0 Z = true) (eT : T.heap = h) {fa r : Addr} {cK : ClassId} (hmd : Jvm.LamKit.Made Z "com/example/bindwick/bindwick/Attribute" Sg cK) (hfn : Fna h fa cK) (E : Exa Z h r "java/lang/String")
    {rm : Room} {Q : Option Value → Heap → List Loc → Prop} (n0 : Nat) (M : Co l LY bytes maxL (some (.array .byte)) [] rm Z h #[.ref r] Q) (Q' : Addr → Heap → Prop) (hQ : ∀ v h' L, Q v h' L → (∃ d, v = some (.ref d) ∧ Q' d h') ∧ Fr n0 L) (hsz : Ls.size = c.maxLocals) (W : Nat) (hW : (st.map fun v => v.category).sum ≤ W) (hf : rm.frames + 2 ≤ R.frames) (hl : W + 13 + ((maxL + 11) + rm.locals) ≤ R.locals) (hc : cells + rm.cells ≤ R.cells) (hsl : slots + rm.slots ≤ R.slots) (hd : decode c.code pc = .ok (.invokeinterface i count, 5)) (pc' : Nat) (hp : pc + 5 = pc')
    (G : ∀ d T' L, Stand p l e R s m args below meth c T' (locs ++ L) (cells + rm.cells) (slots + rm.slots) → Fr n0 L → Q' d T'.heap → Go p e below P T' (mkF m pc' Ls (.ref d :: st))) : Go p e below P T (mkF m pc Ls (.ref r :: .ref fa :: st)) := by
  subst hp
  subst eT
  have hfn' : Jvm.LamKit.FnAt T.heap fa cK := hfn
  have hA : (LXi.cls ≠ "java/lang/invoke/MethodHandle" ∧ LXi.cls ≠ "java/lang/invoke/VarHandle") := by decide
  obtain ⟨v, st', t, T', L, X', hL, e1, -, hq, k⟩ := Jvm.LamKit.callLamS X hx (own := own) (host := "com/example/bindwick/bindwick/Attribute") (index := i) (count := count) (xi := LXi) (y := LY) (σ := Sg) (bytes := bytes) (maxL := maxL) (ret := some (.array .byte)) (mc := rm.cells) (ms := rm.slots) (rm := rm)
    (own_met M (fun v h' => ∃ d, v = some (.ref d) ∧ Q' d h') hQ) (fun a U g mk hp => hp) rfl rfl
    (fun w hw' a' U hU => by rw [List.mem_singleton] at hw'; subst hw'; exact word_at hU (Or.inl (by first | rfl | simp [Cond.onTables, Cond.keeps, Cond.steady])) (mvT (args := #[]) hZ w4)) (List.mem_singleton.mpr rfl)
    hown (mvT hZ w1) (mvT hZ w2) (mvT hZ w3 (by simp [Cond.onTables, Cond.keepsFace, Cond.keeps, Cond.steady, Cond.faceAtom, hA.1, hA.2])) (mvT hZ w4) (mvT hZ w5) (mvT hZ w6)
    ⟨rfl, rfl, by decide +kernel⟩ ⟨rfl, rfl, by decide +kernel⟩ ⟨hA, by decide, by decide⟩
    (own_made_warm hZ hmd) hfn' own_fwd fd4 fd7 (g := mkF m pc Ls (.ref r :: .ref fa :: st)) rfl hsz (argsL := [.ref r]) (argsT := [.ref r]) (rest := st) (L0 := #[.val (.ref fa), .val (.ref r)])
    (lenOf pdX rfl) (lenOf pdY rfl) rfl hd (fun mk => by first | rfl | (simp [entryFrame, argsToLocals, Value.category]; done)) rfl (own_load hx hZ hmd E)
    (fun st v t hq => by obtain ⟨v', ev, d, rfl, -⟩ := hq; cases ev; exact Or.inr (Or.inr (Or.inl ⟨_, _, rfl, rfl, rfl, rfl, rfl⟩)))
    hf (by show 2 * 0 + _ + (2 + 11) + _ ≤ _; omega) hc hsl (fun U hU hh => ⟨rfl, wtrans hZ hU, hh⟩)
  obtain ⟨v', ev, d, hv, hq'⟩ := hq
  cases ev
  subst hv
  exact (G d T' L X' hL (by rw [e1]; exact hq')).stp k
end OwnArr
def EL : List (String × Nat) := [("java/lang/String", 7)]
theorem own_wS {a0 : Array Value} {Z : State} (hw : ∀ d ∈ tables_1, d.before a0 Z = true) : ∀ a ∈ Bundle.stringAtoms, a.before a0 Z = true := by
  intro d hd
  simp only [Bundle.stringAtoms, List.mem_cons, List.not_mem_nil, or_false] at hd
  rcases hd with rfl | rfl | rfl | rfl | rfl | rfl | rfl
  · exact wd hw 6 rfl
  · exact wd hw 5 rfl
  · exact wd hw 19 rfl
  · exact wd hw 20 rfl
  · exact wd hw 21 rfl
  · exact wd hw 22 rfl
  · exact wd hw 23 rfl
theorem own_clamp {n : Nat} (h : n < 2 ^ 31) : n.toInt32.toNatClampNeg = n := by
  show (Int32.ofNat n).toNatClampNeg = n
  rw [Int32.toNatClampNeg, Int32.toInt_ofNat_of_lt h]
  simp
theorem own_bn : "[" ++ (newarray.typeOf .byte).toString = "[B" := by first | rfl | decide
theorem own_bn2 : (FieldType.array .byte).toString = "[B" := by first | rfl | decide
def Ch (c : Int32) : Prop := ∃ k : Fin 256, c = Int32.ofNat k.val
def byt (c : Int32) : Int32 := c.toInt8.toInt32
def hi0 (c : Int32) : Int32 := ((192 : Int32) ||| (c >>> ((6 : Int32) &&& 31))).toInt8.toInt32
def hi1 (c : Int32) : Int32 := ((128 : Int32) ||| (c &&& (63 : Int32))).toInt8.toInt32
def eb (c : Int32) : List Value := if c < (128 : Int32) then [.int (byt c)] else [.int (hi0 c), .int (hi1 c)]
def raw : List Int32 → List Value
  | [] => []
  | c :: r => .int (byt c) :: raw r
def enc : List Int32 → List Value
  | [] => []
  | c :: r => eb c ++ enc r
def lt3 (n x y : Int32) : List Int32 := if n = (0 : Int32) then [] else if n = (1 : Int32) then [x] else [x, y]
def Oks (ks : List Int32) : Prop := ks = [] ∨ (∃ c, Ch c ∧ ks = [c]) ∨ ∃ c d, Ch c ∧ Ch d ∧ ks = [c, d]
theorem ch_of {c : Int32} (h0 : 0 ≤ c.toInt) (h1 : c.toInt < 256) : Ch c := by
  refine ⟨⟨c.toInt.toNat, by omega⟩, ?_⟩
  show c = Int32.ofNat c.toInt.toNat
  apply Int32.toInt_inj.mp
  have e : (Int32.ofNat c.toInt.toNat).toInt = (c.toInt.toNat : Int) := Int32.toInt_ofNat_of_lt (by omega)
  omega
theorem fit_0 : fits .byte (.int (0 : Int32)) = true := by decide
theorem ch_mk (x : Int32) : Ch (x &&& (255 : Int32)).toUInt32.toUInt16.toUInt32.toInt32 := by
  have e := c_and x 255 (by decide)
  have a := c_i2c (x &&& 255)
  simp only [show (255 : Int32).toInt = 255 from rfl] at e
  exact ch_of (by omega) (by omega)
theorem own_cnt (x : Int32) : (x &&& (3 : Int32)) % (3 : Int32) = 0 ∨ (x &&& (3 : Int32)) % (3 : Int32) = 1 ∨ (x &&& (3 : Int32)) % (3 : Int32) = 2 := by
  have e := c_and x 3 (by decide)
  simp only [show (3 : Int32).toInt = 3 from rfl] at e
  have e2 := (c_irem (x &&& (3 : Int32)) (3 : Int32) 3 (by decide)).1 (by omega)
  simp only [← Int32.toInt_inj, show (0 : Int32).toInt = 0 from rfl, show (1 : Int32).toInt = 1 from rfl, show (2 : Int32).toInt = 2 from rfl]
  omega
theorem fit_n8 (x : Int32) : fits .byte (.int x.toInt8.toInt32) = true := by
  have e := c_i2b x
  show (decide (-128 ≤ x.toInt8.toInt32) && decide (x.toInt8.toInt32 ≤ 127)) = true
  rw [Bool.and_eq_true, decide_eq_true_eq, decide_eq_true_eq, Int32.le_iff_toInt_le, Int32.le_iff_toInt_le]
  simp only [show (-128 : Int32).toInt = -128 from rfl, show (127 : Int32).toInt = 127 from rfl]
  omega
theorem k_lo_ : ∀ k : Fin 256, (Int32.ofNat k.val) < (128 : Int32) → ¬ byt (Int32.ofNat k.val) < (0 : Int32) := by decide +kernel
theorem k_lo {c : Int32} (h : Ch c) : c < (128 : Int32) → ¬ byt c < (0 : Int32) := by obtain ⟨k, rfl⟩ := h; exact k_lo_ k
theorem k_hi_ : ∀ k : Fin 256, ¬ (Int32.ofNat k.val) < (128 : Int32) → byt (Int32.ofNat k.val) < (0 : Int32) := by decide +kernel
theorem k_hi {c : Int32} (h : Ch c) : ¬ c < (128 : Int32) → byt c < (0 : Int32) := by obtain ⟨k, rfl⟩ := h; exact k_hi_ k
theorem k_w0_ : ∀ k : Fin 256, ((192 : Int32) ||| ((byt (Int32.ofNat k.val) &&& (255 : Int32)) >>> ((6 : Int32) &&& 31))).toInt8.toInt32.toInt8.toInt32 = hi0 (Int32.ofNat k.val) := by decide +kernel
theorem k_w0 {c : Int32} (h : Ch c) : ((192 : Int32) ||| ((byt c &&& (255 : Int32)) >>> ((6 : Int32) &&& 31))).toInt8.toInt32.toInt8.toInt32 = hi0 c := by obtain ⟨k, rfl⟩ := h; exact k_w0_ k
theorem k_w1_ : ∀ k : Fin 256, ((128 : Int32) ||| (byt (Int32.ofNat k.val) &&& (63 : Int32))).toInt8.toInt32.toInt8.toInt32 = hi1 (Int32.ofNat k.val) := by decide +kernel
theorem k_w1 {c : Int32} (h : Ch c) : ((128 : Int32) ||| (byt c &&& (63 : Int32))).toInt8.toInt32.toInt8.toInt32 = hi1 c := by obtain ⟨k, rfl⟩ := h; exact k_w1_ k
theorem k_w2_ : ∀ k : Fin 256, (byt (Int32.ofNat k.val)).toInt8.toInt32 = byt (Int32.ofNat k.val) := by decide +kernel
theorem k_w2 {c : Int32} (h : Ch c) : (byt c).toInt8.toInt32 = byt c := by obtain ⟨k, rfl⟩ := h; exact k_w2_ k
theorem k_p0_ : ∀ k : Fin 256, ((192 : Int32) ||| ((Int32.ofNat k.val) >>> ((6 : Int32) &&& 31))).toInt8.toInt32.toInt8.toInt32 = hi0 (Int32.ofNat k.val) := by decide +kernel
theorem k_p0 {c : Int32} (h : Ch c) : ((192 : Int32) ||| (c >>> ((6 : Int32) &&& 31))).toInt8.toInt32.toInt8.toInt32 = hi0 c := by obtain ⟨k, rfl⟩ := h; exact k_p0_ k
theorem k_p1_ : ∀ k : Fin 256, ((128 : Int32) ||| ((Int32.ofNat k.val) &&& (63 : Int32))).toInt8.toInt32.toInt8.toInt32 = hi1 (Int32.ofNat k.val) := by decide +kernel
theorem k_p1 {c : Int32} (h : Ch c) : ((128 : Int32) ||| (c &&& (63 : Int32))).toInt8.toInt32.toInt8.toInt32 = hi1 c := by obtain ⟨k, rfl⟩ := h; exact k_p1_ k
theorem k_p2_ : ∀ k : Fin 256, (Int32.ofNat k.val).toInt8.toInt32.toInt8.toInt32 = byt (Int32.ofNat k.val) := by decide +kernel
theorem k_p2 {c : Int32} (h : Ch c) : c.toInt8.toInt32.toInt8.toInt32 = byt c := by obtain ⟨k, rfl⟩ := h; exact k_p2_ k
theorem k_wc_ : ∀ k : Fin 256, (Int32.ofNat k.val).toUInt32.toUInt16.toUInt32.toInt32.toInt8.toInt32.toInt8.toInt32 = byt (Int32.ofNat k.val) := by decide +kernel
theorem k_wc {c : Int32} (h : Ch c) : c.toUInt32.toUInt16.toUInt32.toInt32.toInt8.toInt32.toInt8.toInt32 = byt c := by obtain ⟨k, rfl⟩ := h; exact k_wc_ k
theorem k_lat_ : ∀ k : Fin 256, ¬ (255 : Int32) < (Int32.ofNat k.val).toUInt32.toUInt16.toUInt32.toInt32 := by decide +kernel
theorem k_lat {c : Int32} (h : Ch c) : ¬ (255 : Int32) < c.toUInt32.toUInt16.toUInt32.toInt32 := by obtain ⟨k, rfl⟩ := h; exact k_lat_ k
theorem f_a0 {P : Value → Prop} : ∀ v ∈ ([] : List Value), P v := fun _ q => nomatch q
theorem f_aS {P : Value → Prop} {y : Value} {L : List Value} (q : P y) (r : ∀ x ∈ L, P x) : ∀ x ∈ y :: L, P x := fun x z => (List.mem_cons.mp z).elim (fun u => u ▸ q) (r x)
theorem f_app {P : Value → Prop} {L M : List Value} (q : ∀ x ∈ L, P x) (r : ∀ x ∈ M, P x) : ∀ x ∈ L ++ M, P x := fun x z => (List.mem_append.mp z).elim (q x) (r x)
theorem raw_fits (ks : List Int32) : ∀ v ∈ raw ks, fits .byte v = true := by
  induction ks with
  | nil => exact (show ∀ v ∈ ([] : List Value), fits .byte v = true from f_a0)
  | cons c r ih => exact (show ∀ v ∈ Value.int (byt c) :: raw r, fits .byte v = true from f_aS (P := fun v => fits .byte v = true) (fit_n8 c) ih)
theorem eb_fits (c : Int32) : ∀ v ∈ eb c, fits .byte v = true := by
  unfold eb
  split
  · exact f_aS (P := fun v => fits .byte v = true) (fit_n8 c) f_a0
  · exact f_aS (P := fun v => fits .byte v = true) (fit_n8 _) (f_aS (fit_n8 _) f_a0)
theorem enc_fits (ks : List Int32) : ∀ v ∈ enc ks, fits .byte v = true := by
  induction ks with
  | nil => exact (show ∀ v ∈ ([] : List Value), fits .byte v = true from f_a0)
  | cons c r ih => exact (show ∀ v ∈ eb c ++ enc r, fits .byte v = true from f_app (eb_fits c) ih)
theorem eb_len (c : Int32) : (eb c).length ≤ 2 := by
  unfold eb
  split <;> simp
theorem enc_len {ks : List Int32} (h : Oks ks) : (enc ks).length ≤ 4 := by
  rcases h with rfl | ⟨c, -, rfl⟩ | ⟨c, d, -, -, rfl⟩
  · simp [enc]
  · have := eb_len c
    simp only [enc, List.length_append, List.length_nil]
    omega
  · have := eb_len c
    have := eb_len d
    simp only [enc, List.length_append, List.length_nil]
    omega
theorem eb_p {c : Int32} (s : c < (128 : Int32)) : eb c = [.int (byt c)] := if_pos s
theorem eb_m {c : Int32} (s : ¬ c < (128 : Int32)) : eb c = [.int (hi0 c), .int (hi1 c)] := if_neg s
theorem lt_0 {n x y : Int32} (q : n = (0 : Int32)) : lt3 n x y = [] := if_pos q
theorem lt_1 {n x y : Int32} (q : ¬ n = (0 : Int32)) (q' : n = (1 : Int32)) : lt3 n x y = [x] := (if_neg q).trans (if_pos q')
theorem lt_2 {n x y : Int32} (q : ¬ n = (0 : Int32)) (q' : ¬ n = (1 : Int32)) : lt3 n x y = [x, y] := (if_neg q).trans (if_neg q')
theorem oks_lt {n x y : Int32} (hx : Ch x) (hy : Ch y) : Oks (lt3 n x y) := by
  unfold lt3
  split
  · exact Or.inl rfl
  · split
    · exact Or.inr (Or.inl ⟨x, hx, rfl⟩)
    · exact Or.inr (Or.inr ⟨x, y, hx, hy, rfl⟩)
theorem en_  : enc [] = [] := by
  rfl
theorem en_p {c0 : Int32} (s0 : c0 < (128 : Int32)) : enc [c0] = [(.int (byt c0))] := by
  simp only [enc, eb_p s0, List.cons_append, List.nil_append, List.append_nil]
theorem en_m {c0 : Int32} (s0 : ¬ c0 < (128 : Int32)) : enc [c0] = [(.int (hi0 c0)), (.int (hi1 c0))] := by
  simp only [enc, eb_m s0, List.cons_append, List.nil_append, List.append_nil]
theorem en_pp {c0 : Int32} (s0 : c0 < (128 : Int32)) {c1 : Int32} (s1 : c1 < (128 : Int32)) : enc [c0, c1] = [(.int (byt c0)), (.int (byt c1))] := by
  simp only [enc, eb_p s0, eb_p s1, List.cons_append, List.nil_append, List.append_nil]
theorem en_pm {c0 : Int32} (s0 : c0 < (128 : Int32)) {c1 : Int32} (s1 : ¬ c1 < (128 : Int32)) : enc [c0, c1] = [(.int (byt c0)), (.int (hi0 c1)), (.int (hi1 c1))] := by
  simp only [enc, eb_p s0, eb_m s1, List.cons_append, List.nil_append, List.append_nil]
theorem en_mp {c0 : Int32} (s0 : ¬ c0 < (128 : Int32)) {c1 : Int32} (s1 : c1 < (128 : Int32)) : enc [c0, c1] = [(.int (hi0 c0)), (.int (hi1 c0)), (.int (byt c1))] := by
  simp only [enc, eb_m s0, eb_p s1, List.cons_append, List.nil_append, List.append_nil]
theorem en_mm {c0 : Int32} (s0 : ¬ c0 < (128 : Int32)) {c1 : Int32} (s1 : ¬ c1 < (128 : Int32)) : enc [c0, c1] = [(.int (hi0 c0)), (.int (hi1 c0)), (.int (hi0 c1)), (.int (hi1 c1))] := by
  simp only [enc, eb_m s0, eb_m s1, List.cons_append, List.nil_append, List.append_nil]
theorem ef26 (m_ : MethodId)   : entryFrame m_ #[(.int (4 : Int32)), (.int (3 : Int32))] 2 = mkF m_ 0 #[.val (.int (4 : Int32)), .val (.int (3 : Int32))] [] := by first | (simp [entryFrame, mkF, argsToLocals, Value.category]; done) | rfl
theorem d26_0 : decode jdk_29_method_69_code 0 = .ok (.iload_n 0, 1) := by decide +kernel
theorem d26_1 : decode jdk_29_method_69_code 1 = .ok (.iload_n 1, 1) := by decide +kernel
theorem d26_2 : decode jdk_29_method_69_code 2 = .ok (.if_icmp .gt 7, 3) := by decide +kernel
theorem d26_9 : decode jdk_29_method_69_code 9 = .ok (.iload_n 1, 1) := by decide +kernel
theorem d26_10 : decode jdk_29_method_69_code 10 = .ok (.ireturn, 1) := by decide +kernel
set_option maxRecDepth 65536 in
set_option maxHeartbeats 40000000 in
theorem co26 (l : Launch) (Z : State) (a0 : Array Value) (hw : ∀ d ∈ tables_1, d.before a0 Z = true)  (h0 : Heap)  : Co l (⟨"java/lang/Math", "min", "(II)I"⟩ : MethodName) jdk_29_method_69_code 2 (some .int) [] ({ frames := 0, cells := 0, slots := 0, locals := 0 } : Room) Z h0 #[(.int (4 : Int32)), (.int (3 : Int32))] (Pu h0 (some (.int ((3 : Int32) )))) := by
  refine Co.of (by decide +kernel) ?_
  intro p_ e_ s_ m_ below meth c_ T0 X0 hx hby hml hown hnm hret hlk hZ eq0
  refine Go.cast (ef26 m_  ) ?_
  refine g_iloadN X0 hx rfl (hb hby d26_0) 1 rfl ?_
  refine g_iloadN X0 hx rfl (hb hby d26_1) 2 rfl ?_
  refine g_icmp_gt X0 hx (hb hby d26_2) 9 5 (by decide) rfl rfl (fun q2 => ?_) (fun q2 => ?_)
  · refine g_iloadN X0 hx rfl (hb hby d26_9) 10 rfl ?_
    exact g_reti X0 hx hret hlk (by decide) (by decide) (hb hby d26_10) ⟨congrArg (fun z => some (Value.int z)) rfl, eq0, rfl⟩
  · exact absurd q2 (by decide)
def Q25 (Z : State) (a : Addr) (v0 : Value) (v1 : Value) (v2 : Value) (v3 : Value) (h0 : Heap) (n0 : Nat) (v : Option Value) (h : Heap) (L : List Loc) : Prop := ∃ d, v = some (.ref d) ∧ Fr n0 L ∧ Keep h0 h [] ∧ h0.size ≤ d ∧ AV Z h d .byte [v0, v1, v2] ∧ Exa Z h d "[B"
theorem ef25 (m_ : MethodId) (a : Addr)  : entryFrame m_ #[(.ref a), (.int (3 : Int32))] 3 = mkF m_ 0 #[.val (.ref a), .val (.int (3 : Int32)), .unset] [] := by first | (simp [entryFrame, mkF, argsToLocals, Value.category]; done) | rfl
theorem pn_0 : plainName "java/util/Arrays" = true := by first | (simp [plainName, overriddenIn]; done) | decide +kernel
theorem d25_0 : decode jdk_65_method_121_code 0 = .ok (.iload_n 1, 1) := by decide +kernel
theorem d25_1 : decode jdk_65_method_121_code 1 = .ok (.aload_n 0, 1) := by decide +kernel
theorem d25_2 : decode jdk_65_method_121_code 2 = .ok (.arraylength, 1) := by decide +kernel
theorem d25_3 : decode jdk_65_method_121_code 3 = .ok (.if_icmp .ne 11, 3) := by decide +kernel
theorem d25_14 : decode jdk_65_method_121_code 14 = .ok (.iload_n 1, 1) := by decide +kernel
theorem d25_15 : decode jdk_65_method_121_code 15 = .ok (.newarray .byte, 2) := by decide +kernel
theorem d25_17 : decode jdk_65_method_121_code 17 = .ok (.astore_n 2, 1) := by decide +kernel
theorem d25_18 : decode jdk_65_method_121_code 18 = .ok (.aload_n 0, 1) := by decide +kernel
theorem d25_19 : decode jdk_65_method_121_code 19 = .ok (.iconst 0, 1) := by decide +kernel
theorem d25_20 : decode jdk_65_method_121_code 20 = .ok (.aload_n 2, 1) := by decide +kernel
theorem d25_21 : decode jdk_65_method_121_code 21 = .ok (.iconst 0, 1) := by decide +kernel
theorem d25_22 : decode jdk_65_method_121_code 22 = .ok (.aload_n 0, 1) := by decide +kernel
theorem d25_23 : decode jdk_65_method_121_code 23 = .ok (.arraylength, 1) := by decide +kernel
theorem d25_24 : decode jdk_65_method_121_code 24 = .ok (.iload_n 1, 1) := by decide +kernel
theorem pd_0 : parseMethodDescriptor "(II)I" = some ⟨[.int, .int], some .int⟩ := by decide +kernel
theorem d25_25 : decode jdk_65_method_121_code 25 = .ok (.invokestatic 304, 3) := by decide +kernel
theorem d25_28 : decode jdk_65_method_121_code 28 = .ok (.invokestatic 150, 3) := by decide +kernel
theorem d25_31 : decode jdk_65_method_121_code 31 = .ok (.aload_n 2, 1) := by decide +kernel
theorem d25_32 : decode jdk_65_method_121_code 32 = .ok (.areturn, 1) := by decide +kernel
set_option maxRecDepth 65536 in
set_option maxHeartbeats 40000000 in
theorem co25 (l : Launch) (Z : State) (a0 : Array Value) (hw : ∀ d ∈ tables_1, d.before a0 Z = true) (a : Addr) (v0 : Value) (v1 : Value) (v2 : Value) (v3 : Value) (h0 : Heap) (n0 : Nat) (Z0 : n0 ≤ h0.size)   (A_a : AV Z h0 a .byte [v0, v1, v2, v3]) (fA : ∀ v ∈ [v0, v1, v2, v3], fits .byte v = true) : Co l (⟨"java/util/Arrays", "copyOf", "([BI)[B"⟩ : MethodName) jdk_65_method_121_code 3 (some (.array .byte)) [] ({ frames := 1, cells := 1, slots := 3, locals := 40 } : Room) Z h0 #[(.ref a), (.int (3 : Int32))] (Q25 Z a v0 v1 v2 v3 h0 n0) := by
  refine Co.of (plainFor_of_name pn_0) ?_
  intro p_ e_ s_ m_ below meth c_ T0 X0 hx hby hml hown hnm hret hlk hZ eq0
  have N0 := Fr.nil n0
  refine Go.cast (ef25 m_ a ) ?_
  refine g_iloadN X0 hx rfl (hb hby d25_0) 1 rfl ?_
  refine g_aloadN X0 hx rfl rfl (hb hby d25_1) 2 rfl ?_
  refine g_arraylength X0 hx hZ eq0 A_a (4 : Int32) rfl (hb hby d25_2) 3 rfl ?_
  refine g_icmp_ne X0 hx (hb hby d25_3) 14 6 (by decide) rfl rfl (fun q3 => ?_) (fun q3 => ?_)
  · refine g_iloadN X0 hx rfl (hb hby d25_14) 15 rfl ?_
    refine g_newarrayE X0 hx hZ (aty := .byte) (wd hw 19 rfl) eq0 (by decide) 3 (by decide) (by decide) (by decide) (by decide) [(.int (0 : Int32)), (.int (0 : Int32)), (.int (0 : Int32))] rfl own_bn (hb hby d25_15) 17 rfl (fun T101 h102 b103 X104 e105 g106 E107 A108 E109 => ?_)
    have ne110 : a ≠ b103 := Nat.ne_of_lt (Nat.lt_of_lt_of_eq A_a.lt g106.symm)
    have F111 := A_a.ext E107
    have sz112 : n0 ≤ b103 := Nat.le_trans Z0 (Nat.le_of_eq g106.symm)
    have szh113 : n0 ≤ h102.size := Nat.le_trans Z0 E107.1
    have szk114 : h0.size ≤ b103 := Nat.le_trans (Keep.refl h0 []).1 (Nat.le_of_eq g106.symm)
    have K115 := (Keep.refl h0 []).ext E107
    have A116 : AV Z h102 b103 .byte [(.int (0 : Int32)), (.int (0 : Int32)), (.int (0 : Int32))] := A108
    show Go p_ e_ below _ T101 (mkF m_ 17 #[.val (.ref a), .val (.int (3 : Int32)), .unset] [(.ref b103)])
    refine g_astoreN X104 hx #[.val (.ref a), .val (.int (3 : Int32)), .val (.ref b103)] rfl rfl (hb hby d25_17) 18 rfl ?_
    refine g_aloadN X104 hx rfl rfl (hb hby d25_18) 19 rfl ?_
    refine g_iconst X104 hx (0 : Int32) rfl (hb hby d25_19) 20 rfl ?_
    refine g_aloadN X104 hx rfl rfl (hb hby d25_20) 21 rfl ?_
    refine g_iconst X104 hx (0 : Int32) rfl (hb hby d25_21) 22 rfl ?_
    refine g_aloadN X104 hx rfl rfl (hb hby d25_22) 23 rfl ?_
    refine g_arraylength X104 hx hZ e105 F111 (4 : Int32) rfl (hb hby d25_23) 24 rfl ?_
    refine g_iloadN X104 hx rfl (hb hby d25_24) 25 rfl ?_
    refine g_callS X104 hx hZ hown (wd hw 134 rfl) (wd hw 135 rfl) (wd hw 136 rfl) (wd hw 137 rfl) (by decide) e105 [(.int (4 : Int32)), (.int (3 : Int32))] [(.int (0 : Int32)), (.ref b103), (.int (0 : Int32)), (.ref a)]  rfl (co26 l Z a0 hw   h102 ) (lenOf pd_0 rfl) 4 (Nat.le_of_eq rfl) (by decide) (by decide) (by decide) (by decide) (by rw [hml]; rfl) (hb hby d25_25) 28 rfl (pu_cont fun T118 X117 e119 => ?_)
    show Go p_ e_ below _ T118 (mkF m_ 28 #[.val (.ref a), .val (.int (3 : Int32)), .val (.ref b103)] [(.int (3 : Int32)), (.int (0 : Int32)), (.ref b103), (.int (0 : Int32)), (.ref a)])
    refine g_arraycopy X117 hx hZ hown (wd hw 138 rfl) (wd hw 141 rfl) (wd hw 139 rfl) (wd hw 140 rfl) e119 (us := [v0, v1, v2]) (4 : Int32) (3 : Int32) (3 : Int32) F111 A116 fA (f_aS fit_0 (f_aS fit_0 (f_aS fit_0 f_a0))) (by decide) rfl (by decide) rfl (by decide) (Nat.le_of_ble_eq_true rfl) rfl rfl N0 sz112 (by rw [hml]; rfl) 0 (Nat.le_of_eq rfl) (by decide) (by decide +kernel) (hb hby d25_28) 31 rfl (fun T120 h121 L122 X123 e124 N125 K126 A127 => ?_)
    have F128 := F111.keep K126 (ninS ne110 nin0)
    have F129 := E109.keep K126
    have szh130 : n0 ≤ h121.size := Nat.le_trans szh113 K126.1
    have K131 := K115.trans K126 (allS (Or.inr szk114) all0)
    show Go p_ e_ below _ T120 (mkF m_ 31 #[.val (.ref a), .val (.int (3 : Int32)), .val (.ref b103)] [])
    refine g_aloadN X123 hx rfl rfl (hb hby d25_31) 32 rfl ?_
    exact g_reta X123 hx rfl rfl hret hlk (by decide) (by decide) (hb hby d25_32) (by rw [e124]; exact ⟨b103, rfl, N125, K131, szk114, A127, F129⟩)
  · exact absurd q3 (by decide)
theorem ef24_1 (m_ : MethodId)   : entryFrame m_ #[(.int (1 : Int32))] 1 = mkF m_ 0 #[.val (.int (1 : Int32))] [] := by first | (simp [entryFrame, mkF, argsToLocals, Value.category]; done) | rfl
theorem pn_1 : plainName "java/lang/StringUTF16" = true := by first | (simp [plainName, overriddenIn]; done) | decide +kernel
theorem d24_0 : decode jdk_52_method_3_code 0 = .ok (.iload_n 0, 1) := by decide +kernel
theorem d24_1 : decode jdk_52_method_3_code 1 = .ok (.ifCond .ge 11, 3) := by decide +kernel
theorem d24_12 : decode jdk_52_method_3_code 12 = .ok (.iload_n 0, 1) := by decide +kernel
theorem d24_13 : decode jdk_52_method_3_code 13 = .ok (.ldc 20, 2) := by decide +kernel
theorem d24_15 : decode jdk_52_method_3_code 15 = .ok (.if_icmp .lt 40, 3) := by decide +kernel
theorem d24_55 : decode jdk_52_method_3_code 55 = .ok (.iload_n 0, 1) := by decide +kernel
theorem d24_56 : decode jdk_52_method_3_code 56 = .ok (.iconst 1, 1) := by decide +kernel
theorem d24_57 : decode jdk_52_method_3_code 57 = .ok (.ishl, 1) := by decide +kernel
theorem d24_58 : decode jdk_52_method_3_code 58 = .ok (.ireturn, 1) := by decide +kernel
set_option maxRecDepth 65536 in
set_option maxHeartbeats 40000000 in
theorem co24_1 (l : Launch) (Z : State) (a0 : Array Value) (hw : ∀ d ∈ tables_1, d.before a0 Z = true)  (h0 : Heap)  : Co l (⟨"java/lang/StringUTF16", "newBytesLength", "(I)I"⟩ : MethodName) jdk_52_method_3_code 1 (some .int) [] ({ frames := 0, cells := 0, slots := 0, locals := 0 } : Room) Z h0 #[(.int (1 : Int32))] (Pu h0 (some (.int ((2 : Int32) )))) := by
  refine Co.of (plainFor_of_name pn_1) ?_
  intro p_ e_ s_ m_ below meth c_ T0 X0 hx hby hml hown hnm hret hlk hZ eq0
  refine Go.cast (ef24_1 m_  ) ?_
  refine g_iloadN X0 hx rfl (hb hby d24_0) 1 rfl ?_
  refine g_if_ge X0 hx (hb hby d24_1) 12 4 (by decide) rfl rfl (fun q1 => ?_) (fun q1 => ?_)
  · refine g_iloadN X0 hx rfl (hb hby d24_12) 13 rfl ?_
    refine g_ldc X0 hx hZ hown (wd hw 129 rfl) (hb hby d24_13) 15 rfl ?_
    refine g_icmp_lt X0 hx (hb hby d24_15) 55 18 (by decide) rfl rfl (fun q15 => ?_) (fun q15 => ?_)
    · refine g_iloadN X0 hx rfl (hb hby d24_55) 56 rfl ?_
      refine g_iconst X0 hx (1 : Int32) rfl (hb hby d24_56) 57 rfl ?_
      refine g_ishl X0 hx (hb hby d24_57) 58 rfl ?_
      exact g_reti X0 hx hret hlk (by decide) (by decide) (hb hby d24_58) ⟨congrArg (fun z => some (Value.int z)) (by decide), eq0, rfl⟩
    · exact absurd q15 (by decide)
  · exact absurd q1 (by decide)
def Q23_1 (Z : State)  (h0 : Heap) (n0 : Nat) (v : Option Value) (h : Heap) (L : List Loc) : Prop := ∃ d, v = some (.ref d) ∧ Fr n0 L ∧ Keep h0 h [] ∧ h0.size ≤ d ∧ AV Z h d .byte [(.int (0 : Int32)), (.int (0 : Int32))] ∧ Exa Z h d "[B"
theorem ef23_1 (m_ : MethodId)   : entryFrame m_ #[(.int (1 : Int32))] 1 = mkF m_ 0 #[.val (.int (1 : Int32))] [] := by first | (simp [entryFrame, mkF, argsToLocals, Value.category]; done) | rfl
theorem d23_0 : decode jdk_52_method_2_code 0 = .ok (.iload_n 0, 1) := by decide +kernel
theorem pd_1 : parseMethodDescriptor "(I)I" = some ⟨[.int], some .int⟩ := by decide +kernel
theorem d23_1 : decode jdk_52_method_2_code 1 = .ok (.invokestatic 11, 3) := by decide +kernel
theorem d23_4 : decode jdk_52_method_2_code 4 = .ok (.newarray .byte, 2) := by decide +kernel
theorem d23_6 : decode jdk_52_method_2_code 6 = .ok (.areturn, 1) := by decide +kernel
set_option maxRecDepth 65536 in
set_option maxHeartbeats 40000000 in
theorem co23_1 (l : Launch) (Z : State) (a0 : Array Value) (hw : ∀ d ∈ tables_1, d.before a0 Z = true)  (h0 : Heap) (n0 : Nat) (Z0 : n0 ≤ h0.size)    : Co l (⟨"java/lang/StringUTF16", "newBytesFor", "(I)[B"⟩ : MethodName) jdk_52_method_2_code 1 (some (.array .byte)) [] ({ frames := 1, cells := 1, slots := 2, locals := 12 } : Room) Z h0 #[(.int (1 : Int32))] (Q23_1 Z  h0 n0) := by
  refine Co.of (plainFor_of_name pn_1) ?_
  intro p_ e_ s_ m_ below meth c_ T0 X0 hx hby hml hown hnm hret hlk hZ eq0
  have N0 := Fr.nil n0
  refine Go.cast (ef23_1 m_  ) ?_
  refine g_iloadN X0 hx rfl (hb hby d23_0) 1 rfl ?_
  refine g_callS X0 hx hZ hown (wd hw 126 rfl) (wd hw 127 rfl) (wd hw 64 rfl) (wd hw 128 rfl) (by decide) eq0 [(.int (1 : Int32))] []  rfl (co24_1 l Z a0 hw   h0 ) (lenOf pd_1 rfl) 0 (Nat.le_of_eq rfl) (by decide) (by decide) (by decide) (by decide) (by rw [hml]; rfl) (hb hby d23_1) 4 rfl (pu_cont fun T102 X101 e103 => ?_)
  show Go p_ e_ below _ T102 (mkF m_ 4 #[.val (.int (1 : Int32))] [(.int (2 : Int32))])
  refine g_newarrayE X101 hx hZ (aty := .byte) (wd hw 19 rfl) e103 (by decide) 2 (by decide) (by decide) (by decide) (by decide) [(.int (0 : Int32)), (.int (0 : Int32))] rfl own_bn (hb hby d23_4) 6 rfl (fun T104 h105 b106 X107 e108 g109 E110 A111 E112 => ?_)
  have sz113 : n0 ≤ b106 := Nat.le_trans Z0 (Nat.le_of_eq g109.symm)
  have szh114 : n0 ≤ h105.size := Nat.le_trans Z0 E110.1
  have szk115 : h0.size ≤ b106 := Nat.le_trans (Keep.refl h0 []).1 (Nat.le_of_eq g109.symm)
  have K116 := (Keep.refl h0 []).ext E110
  have A117 : AV Z h105 b106 .byte [(.int (0 : Int32)), (.int (0 : Int32))] := A111
  show Go p_ e_ below _ T104 (mkF m_ 6 #[.val (.int (1 : Int32))] [(.ref b106)])
  exact g_reta X107 hx rfl rfl hret hlk (by decide) (by decide) (hb hby d23_6) (by rw [e108]; exact ⟨b106, rfl, N0, K116, szk115, A117, E112⟩)
theorem ef24_2 (m_ : MethodId)   : entryFrame m_ #[(.int (2 : Int32))] 1 = mkF m_ 0 #[.val (.int (2 : Int32))] [] := by first | (simp [entryFrame, mkF, argsToLocals, Value.category]; done) | rfl
set_option maxRecDepth 65536 in
set_option maxHeartbeats 40000000 in
theorem co24_2 (l : Launch) (Z : State) (a0 : Array Value) (hw : ∀ d ∈ tables_1, d.before a0 Z = true)  (h0 : Heap)  : Co l (⟨"java/lang/StringUTF16", "newBytesLength", "(I)I"⟩ : MethodName) jdk_52_method_3_code 1 (some .int) [] ({ frames := 0, cells := 0, slots := 0, locals := 0 } : Room) Z h0 #[(.int (2 : Int32))] (Pu h0 (some (.int ((4 : Int32) )))) := by
  refine Co.of (plainFor_of_name pn_1) ?_
  intro p_ e_ s_ m_ below meth c_ T0 X0 hx hby hml hown hnm hret hlk hZ eq0
  refine Go.cast (ef24_2 m_  ) ?_
  refine g_iloadN X0 hx rfl (hb hby d24_0) 1 rfl ?_
  refine g_if_ge X0 hx (hb hby d24_1) 12 4 (by decide) rfl rfl (fun q1 => ?_) (fun q1 => ?_)
  · refine g_iloadN X0 hx rfl (hb hby d24_12) 13 rfl ?_
    refine g_ldc X0 hx hZ hown (wd hw 129 rfl) (hb hby d24_13) 15 rfl ?_
    refine g_icmp_lt X0 hx (hb hby d24_15) 55 18 (by decide) rfl rfl (fun q15 => ?_) (fun q15 => ?_)
    · refine g_iloadN X0 hx rfl (hb hby d24_55) 56 rfl ?_
      refine g_iconst X0 hx (1 : Int32) rfl (hb hby d24_56) 57 rfl ?_
      refine g_ishl X0 hx (hb hby d24_57) 58 rfl ?_
      exact g_reti X0 hx hret hlk (by decide) (by decide) (hb hby d24_58) ⟨congrArg (fun z => some (Value.int z)) (by decide), eq0, rfl⟩
    · exact absurd q15 (by decide)
  · exact absurd q1 (by decide)
def Q23_2 (Z : State)  (h0 : Heap) (n0 : Nat) (v : Option Value) (h : Heap) (L : List Loc) : Prop := ∃ d, v = some (.ref d) ∧ Fr n0 L ∧ Keep h0 h [] ∧ h0.size ≤ d ∧ AV Z h d .byte [(.int (0 : Int32)), (.int (0 : Int32)), (.int (0 : Int32)), (.int (0 : Int32))] ∧ Exa Z h d "[B"
theorem ef23_2 (m_ : MethodId)   : entryFrame m_ #[(.int (2 : Int32))] 1 = mkF m_ 0 #[.val (.int (2 : Int32))] [] := by first | (simp [entryFrame, mkF, argsToLocals, Value.category]; done) | rfl
set_option maxRecDepth 65536 in
set_option maxHeartbeats 40000000 in
theorem co23_2 (l : Launch) (Z : State) (a0 : Array Value) (hw : ∀ d ∈ tables_1, d.before a0 Z = true)  (h0 : Heap) (n0 : Nat) (Z0 : n0 ≤ h0.size)    : Co l (⟨"java/lang/StringUTF16", "newBytesFor", "(I)[B"⟩ : MethodName) jdk_52_method_2_code 1 (some (.array .byte)) [] ({ frames := 1, cells := 1, slots := 4, locals := 12 } : Room) Z h0 #[(.int (2 : Int32))] (Q23_2 Z  h0 n0) := by
  refine Co.of (plainFor_of_name pn_1) ?_
  intro p_ e_ s_ m_ below meth c_ T0 X0 hx hby hml hown hnm hret hlk hZ eq0
  have N0 := Fr.nil n0
  refine Go.cast (ef23_2 m_  ) ?_
  refine g_iloadN X0 hx rfl (hb hby d23_0) 1 rfl ?_
  refine g_callS X0 hx hZ hown (wd hw 126 rfl) (wd hw 127 rfl) (wd hw 64 rfl) (wd hw 128 rfl) (by decide) eq0 [(.int (2 : Int32))] []  rfl (co24_2 l Z a0 hw   h0 ) (lenOf pd_1 rfl) 0 (Nat.le_of_eq rfl) (by decide) (by decide) (by decide) (by decide) (by rw [hml]; rfl) (hb hby d23_1) 4 rfl (pu_cont fun T102 X101 e103 => ?_)
  show Go p_ e_ below _ T102 (mkF m_ 4 #[.val (.int (2 : Int32))] [(.int (4 : Int32))])
  refine g_newarrayE X101 hx hZ (aty := .byte) (wd hw 19 rfl) e103 (by decide) 4 (by decide) (by decide) (by decide) (by decide) [(.int (0 : Int32)), (.int (0 : Int32)), (.int (0 : Int32)), (.int (0 : Int32))] rfl own_bn (hb hby d23_4) 6 rfl (fun T104 h105 b106 X107 e108 g109 E110 A111 E112 => ?_)
  have sz113 : n0 ≤ b106 := Nat.le_trans Z0 (Nat.le_of_eq g109.symm)
  have szh114 : n0 ≤ h105.size := Nat.le_trans Z0 E110.1
  have szk115 : h0.size ≤ b106 := Nat.le_trans (Keep.refl h0 []).1 (Nat.le_of_eq g109.symm)
  have K116 := (Keep.refl h0 []).ext E110
  have A117 : AV Z h105 b106 .byte [(.int (0 : Int32)), (.int (0 : Int32)), (.int (0 : Int32)), (.int (0 : Int32))] := A111
  show Go p_ e_ below _ T104 (mkF m_ 6 #[.val (.int (2 : Int32))] [(.ref b106)])
  exact g_reta X107 hx rfl rfl hret hlk (by decide) (by decide) (hb hby d23_6) (by rw [e108]; exact ⟨b106, rfl, N0, K116, szk115, A117, E112⟩)
theorem ef19_ (m_ : MethodId) (a : Addr)  : entryFrame m_ #[(.ref a), (.int (0 : Int32)), (.int (0 : Int32))] 5 = mkF m_ 0 #[.val (.ref a), .val (.int (0 : Int32)), .val (.int (0 : Int32)), .unset, .unset] [] := by first | (simp [entryFrame, mkF, argsToLocals, Value.category]; done) | rfl
theorem pn_2 : plainName "java/lang/StringCoding" = true := by first | (simp [plainName, overriddenIn]; done) | decide +kernel
theorem d19_0 : decode jdk_123_method_3_code 0 = .ok (.iload_n 1, 1) := by decide +kernel
theorem d19_1 : decode jdk_123_method_3_code 1 = .ok (.iload_n 2, 1) := by decide +kernel
theorem d19_2 : decode jdk_123_method_3_code 2 = .ok (.iadd, 1) := by decide +kernel
theorem d19_3 : decode jdk_123_method_3_code 3 = .ok (.istore_n 3, 1) := by decide +kernel
theorem d19_4 : decode jdk_123_method_3_code 4 = .ok (.iload_n 1, 1) := by decide +kernel
theorem d19_5 : decode jdk_123_method_3_code 5 = .ok (.istore 4, 2) := by decide +kernel
theorem d19_7 : decode jdk_123_method_3_code 7 = .ok (.iload 4, 2) := by decide +kernel
theorem d19_9 : decode jdk_123_method_3_code 9 = .ok (.iload_n 3, 1) := by decide +kernel
theorem d19_10 : decode jdk_123_method_3_code 10 = .ok (.if_icmp .ge 21, 3) := by decide +kernel
theorem d19_31 : decode jdk_123_method_3_code 31 = .ok (.iload_n 2, 1) := by decide +kernel
theorem d19_32 : decode jdk_123_method_3_code 32 = .ok (.ireturn, 1) := by decide +kernel
set_option maxRecDepth 65536 in
set_option maxHeartbeats 40000000 in
theorem co19_ (l : Launch) (Z : State) (a0 : Array Value) (hw : ∀ d ∈ tables_1, d.before a0 Z = true) (a : Addr) (h0 : Heap) (A_a : AV Z h0 a .byte []) : Co l (⟨"java/lang/StringCoding", "countPositives", "([BII)I"⟩ : MethodName) jdk_123_method_3_code 5 (some .int) [] ({ frames := 0, cells := 0, slots := 0, locals := 0 } : Room) Z h0 #[(.ref a), (.int (0 : Int32)), (.int (0 : Int32))] (Pu h0 (some (.int ((0 : Int32) )))) := by
  refine Co.of (plainFor_of_name pn_2) ?_
  intro p_ e_ s_ m_ below meth c_ T0 X0 hx hby hml hown hnm hret hlk hZ eq0
  refine Go.cast (ef19_ m_ a ) ?_
  refine g_iloadN X0 hx rfl (hb hby d19_0) 1 rfl ?_
  refine g_iloadN X0 hx rfl (hb hby d19_1) 2 rfl ?_
  refine g_iadd X0 hx (hb hby d19_2) 3 rfl ?_
  show Go p_ e_ below _ T0 (mkF m_ 3 #[.val (.ref a), .val (.int (0 : Int32)), .val (.int (0 : Int32)), .unset, .unset] [(.int (0 : Int32))])
  refine g_istoreN X0 hx #[.val (.ref a), .val (.int (0 : Int32)), .val (.int (0 : Int32)), .val (.int (0 : Int32)), .unset] rfl (hb hby d19_3) 4 rfl ?_
  refine g_iloadN X0 hx rfl (hb hby d19_4) 5 rfl ?_
  refine g_istore X0 hx #[.val (.ref a), .val (.int (0 : Int32)), .val (.int (0 : Int32)), .val (.int (0 : Int32)), .val (.int (0 : Int32))] rfl (hb hby d19_5) 7 rfl ?_
  refine g_iload X0 hx rfl (hb hby d19_7) 9 rfl ?_
  refine g_iloadN X0 hx rfl (hb hby d19_9) 10 rfl ?_
  refine g_icmp_ge X0 hx (hb hby d19_10) 31 13 (by decide) rfl rfl (fun q101 => ?_) (fun q101 => ?_)
  · refine g_iloadN X0 hx rfl (hb hby d19_31) 32 rfl ?_
    exact g_reti X0 hx hret hlk (by decide) (by decide) (hb hby d19_32) ⟨congrArg (fun z => some (Value.int z)) rfl, eq0, rfl⟩
  · exact absurd q101 (by decide)
theorem ef18_ (m_ : MethodId) (a : Addr)  : entryFrame m_ #[(.ref a), (.int (0 : Int32)), (.int (0 : Int32))] 3 = mkF m_ 0 #[.val (.ref a), .val (.int (0 : Int32)), .val (.int (0 : Int32))] [] := by first | (simp [entryFrame, mkF, argsToLocals, Value.category]; done) | rfl
theorem d18_0 : decode jdk_123_method_2_code 0 = .ok (.aload_n 0, 1) := by decide +kernel
theorem d18_1 : decode jdk_123_method_2_code 1 = .ok (.iload_n 1, 1) := by decide +kernel
theorem d18_2 : decode jdk_123_method_2_code 2 = .ok (.iload_n 2, 1) := by decide +kernel
theorem pd_2 : parseMethodDescriptor "([BII)I" = some ⟨[(.array .byte), .int, .int], some .int⟩ := by decide +kernel
theorem d18_3 : decode jdk_123_method_2_code 3 = .ok (.invokestatic 7, 3) := by decide +kernel
theorem d18_6 : decode jdk_123_method_2_code 6 = .ok (.iload_n 2, 1) := by decide +kernel
theorem d18_7 : decode jdk_123_method_2_code 7 = .ok (.if_icmp .eq 7, 3) := by decide +kernel
theorem d18_14 : decode jdk_123_method_2_code 14 = .ok (.iconst 0, 1) := by decide +kernel
theorem d18_15 : decode jdk_123_method_2_code 15 = .ok (.ireturn, 1) := by decide +kernel
set_option maxRecDepth 65536 in
set_option maxHeartbeats 40000000 in
theorem co18_ (l : Launch) (Z : State) (a0 : Array Value) (hw : ∀ d ∈ tables_1, d.before a0 Z = true) (a : Addr) (h0 : Heap) (A_a : AV Z h0 a .byte []) : Co l (⟨"java/lang/StringCoding", "hasNegatives", "([BII)Z"⟩ : MethodName) jdk_123_method_2_code 3 (some .boolean) [] ({ frames := 1, cells := 0, slots := 0, locals := 16 } : Room) Z h0 #[(.ref a), (.int (0 : Int32)), (.int (0 : Int32))] (Pu h0 (some (.int ((0 : Int32) )))) := by
  refine Co.of (plainFor_of_name pn_2) ?_
  intro p_ e_ s_ m_ below meth c_ T0 X0 hx hby hml hown hnm hret hlk hZ eq0
  refine Go.cast (ef18_ m_ a ) ?_
  refine g_aloadN X0 hx rfl rfl (hb hby d18_0) 1 rfl ?_
  refine g_iloadN X0 hx rfl (hb hby d18_1) 2 rfl ?_
  refine g_iloadN X0 hx rfl (hb hby d18_2) 3 rfl ?_
  refine g_callS X0 hx hZ hown (wd hw 101 rfl) (wd hw 102 rfl) (wd hw 99 rfl) (wd hw 103 rfl) (by decide) eq0 [(.ref a), (.int (0 : Int32)), (.int (0 : Int32))] []  rfl (co19_ l Z a0 hw a  h0 A_a) (lenOf pd_2 rfl) 0 (Nat.le_of_eq rfl) (by decide) (by decide) (by decide) (by decide) (by rw [hml]; rfl) (hb hby d18_3) 6 rfl (pu_cont fun T102 X101 e103 => ?_)
  show Go p_ e_ below _ T102 (mkF m_ 6 #[.val (.ref a), .val (.int (0 : Int32)), .val (.int (0 : Int32))] [(.int (0 : Int32))])
  refine g_iloadN X101 hx rfl (hb hby d18_6) 7 rfl ?_
  refine g_icmp_eq X101 hx (hb hby d18_7) 14 10 (by decide) rfl rfl (fun q104 => ?_) (fun q104 => ?_)
  · refine g_iconst X101 hx (0 : Int32) rfl (hb hby d18_14) 15 rfl ?_
    exact g_retz X101 hx hret hlk (by decide) (by decide) (hb hby d18_15) ⟨congrArg (fun z => some (Value.int z)) (by decide), e103, rfl⟩
  · exact absurd rfl q104
def Q17_ (Z : State) (a : Addr) (h0 : Heap) (n0 : Nat) (v : Option Value) (h : Heap) (L : List Loc) : Prop := ∃ d, v = some (.ref d) ∧ Fr n0 L ∧ Keep h0 h [] ∧ h0.size ≤ d ∧ AV Z h d .byte (enc []) ∧ Exa Z h d "[B"
theorem ef17_ (m_ : MethodId) (a : Addr)  : entryFrame m_ #[(.int (0 : Int32)), (.ref a), (.int (1 : Int32))] 9 = mkF m_ 0 #[.val (.int (0 : Int32)), .val (.ref a), .val (.int (1 : Int32)), .unset, .unset, .unset, .unset, .unset, .unset] [] := by first | (simp [entryFrame, mkF, argsToLocals, Value.category]; done) | rfl
theorem pn_3 : plainName "java/lang/String" = true := by first | (simp [plainName, overriddenIn]; done) | decide +kernel
theorem d17_0 : decode jdk_42_method_46_code 0 = .ok (.iload_n 0, 1) := by decide +kernel
theorem d17_1 : decode jdk_42_method_46_code 1 = .ok (.iconst 1, 1) := by decide +kernel
theorem d17_2 : decode jdk_42_method_46_code 2 = .ok (.if_icmp .ne 9, 3) := by decide +kernel
theorem d17_11 : decode jdk_42_method_46_code 11 = .ok (.aload_n 1, 1) := by decide +kernel
theorem d17_12 : decode jdk_42_method_46_code 12 = .ok (.iconst 0, 1) := by decide +kernel
theorem d17_13 : decode jdk_42_method_46_code 13 = .ok (.aload_n 1, 1) := by decide +kernel
theorem d17_14 : decode jdk_42_method_46_code 14 = .ok (.arraylength, 1) := by decide +kernel
theorem pd_3 : parseMethodDescriptor "([BII)Z" = some ⟨[(.array .byte), .int, .int], some .boolean⟩ := by decide +kernel
theorem d17_15 : decode jdk_42_method_46_code 15 = .ok (.invokestatic 128, 3) := by decide +kernel
theorem d17_18 : decode jdk_42_method_46_code 18 = .ok (.ifCond .ne 11, 3) := by decide +kernel
theorem d17_21 : decode jdk_42_method_46_code 21 = .ok (.aload_n 1, 1) := by decide +kernel
theorem d17_22 : decode jdk_42_method_46_code 22 = .ok (.invokevirtual 279, 3) := by decide +kernel
theorem d17_25 : decode jdk_42_method_46_code 25 = .ok (.checkcast 280, 3) := by decide +kernel
theorem d17_28 : decode jdk_42_method_46_code 28 = .ok (.areturn, 1) := by decide +kernel
set_option maxRecDepth 65536 in
set_option maxHeartbeats 40000000 in
theorem co17_ (l : Launch) (Z : State) (a0 : Array Value) (hw : ∀ d ∈ tables_1, d.before a0 Z = true) (a : Addr) (h0 : Heap) (n0 : Nat) (Z0 : n0 ≤ h0.size)   (A_a : AV Z h0 a .byte []) (E_a : Exa Z h0 a "[B") : Co l (⟨"java/lang/String", "encodeUTF8", "(B[BZ)[B"⟩ : MethodName) jdk_42_method_46_code 9 (some (.array .byte)) [] ({ frames := 2, cells := 2, slots := 7, locals := 54 } : Room) Z h0 #[(.int (0 : Int32)), (.ref a), (.int (1 : Int32))] (Q17_ Z a h0 n0) := by
  refine Co.of (plainFor_of_name pn_3) ?_
  intro p_ e_ s_ m_ below meth c_ T0 X0 hx hby hml hown hnm hret hlk hZ eq0
  have N0 := Fr.nil n0
  refine Go.cast (ef17_ m_ a ) ?_
  refine g_iloadN X0 hx rfl (hb hby d17_0) 1 rfl ?_
  refine g_iconst X0 hx (1 : Int32) rfl (hb hby d17_1) 2 rfl ?_
  refine g_icmp_ne X0 hx (hb hby d17_2) 11 5 (by decide) rfl rfl (fun q101 => ?_) (fun q101 => ?_)
  · refine g_aloadN X0 hx rfl rfl (hb hby d17_11) 12 rfl ?_
    refine g_iconst X0 hx (0 : Int32) rfl (hb hby d17_12) 13 rfl ?_
    refine g_aloadN X0 hx rfl rfl (hb hby d17_13) 14 rfl ?_
    refine g_arraylength X0 hx hZ eq0 A_a (0 : Int32) rfl (hb hby d17_14) 15 rfl ?_
    refine g_callS X0 hx hZ hown (wd hw 97 rfl) (wd hw 98 rfl) (wd hw 99 rfl) (wd hw 100 rfl) (by decide) eq0 [(.ref a), (.int (0 : Int32)), (.int (0 : Int32))] []  rfl (co18_ l Z a0 hw a  h0 A_a) (lenOf pd_3 rfl) 0 (Nat.le_of_eq rfl) (by decide) (by decide) (by decide) (by decide) (by rw [hml]; rfl) (hb hby d17_15) 18 rfl (pu_cont fun T103 X102 e104 => ?_)
    show Go p_ e_ below _ T103 (mkF m_ 18 #[.val (.int (0 : Int32)), .val (.ref a), .val (.int (1 : Int32)), .unset, .unset, .unset, .unset, .unset, .unset] [(.int (0 : Int32))])
    refine g_if_ne X102 hx (hb hby d17_18) 29 21 (by decide) rfl rfl (fun q105 => ?_) (fun q105 => ?_)
    · exact absurd rfl q105
    · refine g_aloadN X102 hx rfl rfl (hb hby d17_21) 22 rfl ?_
      refine g_clone X102 hx hZ hown (wd hw 104 rfl) (wd hw 105 rfl) (wd hw 109 rfl) (wd hw 107 rfl) (wd hw 108 rfl) (wd hw 110 rfl) e104 A_a (raw_fits []) E_a (by rw [hml]; rfl) 0 (Nat.le_of_eq rfl) (by decide) (by decide) 0 (Nat.le_of_eq rfl) (by decide) (by decide) (hb hby d17_22) 25 rfl (fun T106 h107 b108 X109 e110 g111 E112 A113 E114 => ?_)
      have ne115 : a ≠ b108 := Nat.ne_of_lt (Nat.lt_of_lt_of_eq A_a.lt g111.symm)
      have F116 := A_a.ext E112
      have F117 := E_a.ext E112
      have sz118 : n0 ≤ b108 := Nat.le_trans Z0 (Nat.le_of_eq g111.symm)
      have szh119 : n0 ≤ h107.size := Nat.le_trans Z0 E112.1
      have szk120 : h0.size ≤ b108 := Nat.le_trans (Keep.refl h0 []).1 (Nat.le_of_eq g111.symm)
      have K121 := (Keep.refl h0 []).ext E112
      show Go p_ e_ below _ T106 (mkF m_ 25 #[.val (.int (0 : Int32)), .val (.ref a), .val (.int (1 : Int32)), .unset, .unset, .unset, .unset, .unset, .unset] [(.ref b108)])
      refine g_checkcast X109 hx hZ hown (wd hw 111 rfl) (Ins.self E114) e110 (hb hby d17_25) 28 rfl (fun T122 X123 e124 => ?_)
      show Go p_ e_ below _ T122 (mkF m_ 28 #[.val (.int (0 : Int32)), .val (.ref a), .val (.int (1 : Int32)), .unset, .unset, .unset, .unset, .unset, .unset] [(.ref b108)])
      exact g_reta X123 hx rfl rfl hret hlk (by decide) (by decide) (hb hby d17_28) (by rw [e124]; exact ⟨b108, rfl, N0, K121, szk120, (AV.cast A113 (by rfl)), E114⟩)
  · exact absurd q101 (by decide)
theorem ef19_p (m_ : MethodId) (a : Addr)  : entryFrame m_ #[(.ref a), (.int (0 : Int32)), (.int (1 : Int32))] 5 = mkF m_ 0 #[.val (.ref a), .val (.int (0 : Int32)), .val (.int (1 : Int32)), .unset, .unset] [] := by first | (simp [entryFrame, mkF, argsToLocals, Value.category]; done) | rfl
theorem d19_13 : decode jdk_123_method_3_code 13 = .ok (.aload_n 0, 1) := by decide +kernel
theorem d19_14 : decode jdk_123_method_3_code 14 = .ok (.iload 4, 2) := by decide +kernel
theorem d19_16 : decode jdk_123_method_3_code 16 = .ok (.baload, 1) := by decide +kernel
theorem d19_17 : decode jdk_123_method_3_code 17 = .ok (.ifCond .ge 8, 3) := by decide +kernel
theorem d19_25 : decode jdk_123_method_3_code 25 = .ok (.iinc 4 1, 3) := by decide +kernel
theorem d19_28 : decode jdk_123_method_3_code 28 = .ok (.goto (-21), 3) := by decide +kernel
set_option maxRecDepth 65536 in
set_option maxHeartbeats 40000000 in
theorem co19_p (l : Launch) (Z : State) (a0 : Array Value) (hw : ∀ d ∈ tables_1, d.before a0 Z = true) (a : Addr) (c0 : Int32) (h0 : Heap) (A_a : AV Z h0 a .byte [(.int (byt c0))]) (s0 : ¬ byt c0 < (0 : Int32)) : Co l (⟨"java/lang/StringCoding", "countPositives", "([BII)I"⟩ : MethodName) jdk_123_method_3_code 5 (some .int) [] ({ frames := 0, cells := 0, slots := 0, locals := 0 } : Room) Z h0 #[(.ref a), (.int (0 : Int32)), (.int (1 : Int32))] (Pu h0 (some (.int ((1 : Int32) )))) := by
  refine Co.of (plainFor_of_name pn_2) ?_
  intro p_ e_ s_ m_ below meth c_ T0 X0 hx hby hml hown hnm hret hlk hZ eq0
  refine Go.cast (ef19_p m_ a ) ?_
  refine g_iloadN X0 hx rfl (hb hby d19_0) 1 rfl ?_
  refine g_iloadN X0 hx rfl (hb hby d19_1) 2 rfl ?_
  refine g_iadd X0 hx (hb hby d19_2) 3 rfl ?_
  show Go p_ e_ below _ T0 (mkF m_ 3 #[.val (.ref a), .val (.int (0 : Int32)), .val (.int (1 : Int32)), .unset, .unset] [(.int (1 : Int32))])
  refine g_istoreN X0 hx #[.val (.ref a), .val (.int (0 : Int32)), .val (.int (1 : Int32)), .val (.int (1 : Int32)), .unset] rfl (hb hby d19_3) 4 rfl ?_
  refine g_iloadN X0 hx rfl (hb hby d19_4) 5 rfl ?_
  refine g_istore X0 hx #[.val (.ref a), .val (.int (0 : Int32)), .val (.int (1 : Int32)), .val (.int (1 : Int32)), .val (.int (0 : Int32))] rfl (hb hby d19_5) 7 rfl ?_
  refine g_iload X0 hx rfl (hb hby d19_7) 9 rfl ?_
  refine g_iloadN X0 hx rfl (hb hby d19_9) 10 rfl ?_
  refine g_icmp_ge X0 hx (hb hby d19_10) 31 13 (by decide) rfl rfl (fun q101 => ?_) (fun q101 => ?_)
  · exact absurd q101 (by decide)
  · refine g_aloadN X0 hx rfl rfl (hb hby d19_13) 14 rfl ?_
    refine g_iload X0 hx rfl (hb hby d19_14) 16 rfl ?_
    refine g_baload X0 hx hZ eq0 A_a (by decide) rfl (hb hby d19_16) 17 rfl ?_
    show Go p_ e_ below _ T0 (mkF m_ 17 #[.val (.ref a), .val (.int (0 : Int32)), .val (.int (1 : Int32)), .val (.int (1 : Int32)), .val (.int (0 : Int32))] [(.int (byt c0))])
    refine g_if_ge X0 hx (hb hby d19_17) 25 20 (by decide) rfl rfl (fun q102 => ?_) (fun q102 => ?_)
    · refine g_iinc X0 hx (1 : Int32) rfl rfl #[.val (.ref a), .val (.int (0 : Int32)), .val (.int (1 : Int32)), .val (.int (1 : Int32)), .val (.int (1 : Int32))] rfl (hb hby d19_25) 28 rfl ?_
      refine g_goto X0 hx (hb hby d19_28) 7 (by decide) rfl ?_
      refine g_iload X0 hx rfl (hb hby d19_7) 9 rfl ?_
      refine g_iloadN X0 hx rfl (hb hby d19_9) 10 rfl ?_
      refine g_icmp_ge X0 hx (hb hby d19_10) 31 13 (by decide) rfl rfl (fun q103 => ?_) (fun q103 => ?_)
      · refine g_iloadN X0 hx rfl (hb hby d19_31) 32 rfl ?_
        exact g_reti X0 hx hret hlk (by decide) (by decide) (hb hby d19_32) ⟨congrArg (fun z => some (Value.int z)) rfl, eq0, rfl⟩
      · exact absurd q103 (by decide)
    · exact absurd q102 s0
theorem ef18_p (m_ : MethodId) (a : Addr)  : entryFrame m_ #[(.ref a), (.int (0 : Int32)), (.int (1 : Int32))] 3 = mkF m_ 0 #[.val (.ref a), .val (.int (0 : Int32)), .val (.int (1 : Int32))] [] := by first | (simp [entryFrame, mkF, argsToLocals, Value.category]; done) | rfl
set_option maxRecDepth 65536 in
set_option maxHeartbeats 40000000 in
theorem co18_p (l : Launch) (Z : State) (a0 : Array Value) (hw : ∀ d ∈ tables_1, d.before a0 Z = true) (a : Addr) (c0 : Int32) (h0 : Heap) (A_a : AV Z h0 a .byte [(.int (byt c0))]) (s0 : ¬ byt c0 < (0 : Int32)) : Co l (⟨"java/lang/StringCoding", "hasNegatives", "([BII)Z"⟩ : MethodName) jdk_123_method_2_code 3 (some .boolean) [] ({ frames := 1, cells := 0, slots := 0, locals := 16 } : Room) Z h0 #[(.ref a), (.int (0 : Int32)), (.int (1 : Int32))] (Pu h0 (some (.int ((0 : Int32) )))) := by
  refine Co.of (plainFor_of_name pn_2) ?_
  intro p_ e_ s_ m_ below meth c_ T0 X0 hx hby hml hown hnm hret hlk hZ eq0
  refine Go.cast (ef18_p m_ a ) ?_
  refine g_aloadN X0 hx rfl rfl (hb hby d18_0) 1 rfl ?_
  refine g_iloadN X0 hx rfl (hb hby d18_1) 2 rfl ?_
  refine g_iloadN X0 hx rfl (hb hby d18_2) 3 rfl ?_
  refine g_callS X0 hx hZ hown (wd hw 101 rfl) (wd hw 102 rfl) (wd hw 99 rfl) (wd hw 103 rfl) (by decide) eq0 [(.ref a), (.int (0 : Int32)), (.int (1 : Int32))] []  rfl (co19_p l Z a0 hw a c0 h0 A_a s0) (lenOf pd_2 rfl) 0 (Nat.le_of_eq rfl) (by decide) (by decide) (by decide) (by decide) (by rw [hml]; rfl) (hb hby d18_3) 6 rfl (pu_cont fun T102 X101 e103 => ?_)
  show Go p_ e_ below _ T102 (mkF m_ 6 #[.val (.ref a), .val (.int (0 : Int32)), .val (.int (1 : Int32))] [(.int (1 : Int32))])
  refine g_iloadN X101 hx rfl (hb hby d18_6) 7 rfl ?_
  refine g_icmp_eq X101 hx (hb hby d18_7) 14 10 (by decide) rfl rfl (fun q104 => ?_) (fun q104 => ?_)
  · refine g_iconst X101 hx (0 : Int32) rfl (hb hby d18_14) 15 rfl ?_
    exact g_retz X101 hx hret hlk (by decide) (by decide) (hb hby d18_15) ⟨congrArg (fun z => some (Value.int z)) (by decide), e103, rfl⟩
  · exact absurd rfl q104
def Q17_p (Z : State) (a : Addr) (c0 : Int32) (h0 : Heap) (n0 : Nat) (v : Option Value) (h : Heap) (L : List Loc) : Prop := ∃ d, v = some (.ref d) ∧ Fr n0 L ∧ Keep h0 h [] ∧ h0.size ≤ d ∧ AV Z h d .byte (enc [c0]) ∧ Exa Z h d "[B"
theorem ef17_p (m_ : MethodId) (a : Addr)  : entryFrame m_ #[(.int (0 : Int32)), (.ref a), (.int (1 : Int32))] 9 = mkF m_ 0 #[.val (.int (0 : Int32)), .val (.ref a), .val (.int (1 : Int32)), .unset, .unset, .unset, .unset, .unset, .unset] [] := by first | (simp [entryFrame, mkF, argsToLocals, Value.category]; done) | rfl
set_option maxRecDepth 65536 in
set_option maxHeartbeats 40000000 in
theorem co17_p (l : Launch) (Z : State) (a0 : Array Value) (hw : ∀ d ∈ tables_1, d.before a0 Z = true) (a : Addr) (c0 : Int32) (h0 : Heap) (n0 : Nat) (Z0 : n0 ≤ h0.size)   (A_a : AV Z h0 a .byte [(.int (byt c0))]) (E_a : Exa Z h0 a "[B") (s0 : ¬ byt c0 < (0 : Int32)) (hc0 : Ch c0) (k0 : c0 < (128 : Int32)) : Co l (⟨"java/lang/String", "encodeUTF8", "(B[BZ)[B"⟩ : MethodName) jdk_42_method_46_code 9 (some (.array .byte)) [] ({ frames := 2, cells := 2, slots := 7, locals := 54 } : Room) Z h0 #[(.int (0 : Int32)), (.ref a), (.int (1 : Int32))] (Q17_p Z a c0 h0 n0) := by
  refine Co.of (plainFor_of_name pn_3) ?_
  intro p_ e_ s_ m_ below meth c_ T0 X0 hx hby hml hown hnm hret hlk hZ eq0
  have N0 := Fr.nil n0
  refine Go.cast (ef17_p m_ a ) ?_
  refine g_iloadN X0 hx rfl (hb hby d17_0) 1 rfl ?_
  refine g_iconst X0 hx (1 : Int32) rfl (hb hby d17_1) 2 rfl ?_
  refine g_icmp_ne X0 hx (hb hby d17_2) 11 5 (by decide) rfl rfl (fun q101 => ?_) (fun q101 => ?_)
  · refine g_aloadN X0 hx rfl rfl (hb hby d17_11) 12 rfl ?_
    refine g_iconst X0 hx (0 : Int32) rfl (hb hby d17_12) 13 rfl ?_
    refine g_aloadN X0 hx rfl rfl (hb hby d17_13) 14 rfl ?_
    refine g_arraylength X0 hx hZ eq0 A_a (1 : Int32) rfl (hb hby d17_14) 15 rfl ?_
    refine g_callS X0 hx hZ hown (wd hw 97 rfl) (wd hw 98 rfl) (wd hw 99 rfl) (wd hw 100 rfl) (by decide) eq0 [(.ref a), (.int (0 : Int32)), (.int (1 : Int32))] []  rfl (co18_p l Z a0 hw a c0 h0 A_a s0) (lenOf pd_3 rfl) 0 (Nat.le_of_eq rfl) (by decide) (by decide) (by decide) (by decide) (by rw [hml]; rfl) (hb hby d17_15) 18 rfl (pu_cont fun T103 X102 e104 => ?_)
    show Go p_ e_ below _ T103 (mkF m_ 18 #[.val (.int (0 : Int32)), .val (.ref a), .val (.int (1 : Int32)), .unset, .unset, .unset, .unset, .unset, .unset] [(.int (0 : Int32))])
    refine g_if_ne X102 hx (hb hby d17_18) 29 21 (by decide) rfl rfl (fun q105 => ?_) (fun q105 => ?_)
    · exact absurd rfl q105
    · refine g_aloadN X102 hx rfl rfl (hb hby d17_21) 22 rfl ?_
      refine g_clone X102 hx hZ hown (wd hw 104 rfl) (wd hw 105 rfl) (wd hw 109 rfl) (wd hw 107 rfl) (wd hw 108 rfl) (wd hw 110 rfl) e104 A_a (raw_fits [c0]) E_a (by rw [hml]; rfl) 0 (Nat.le_of_eq rfl) (by decide) (by decide) 1 (Nat.le_of_eq rfl) (by decide) (by decide) (hb hby d17_22) 25 rfl (fun T106 h107 b108 X109 e110 g111 E112 A113 E114 => ?_)
      have ne115 : a ≠ b108 := Nat.ne_of_lt (Nat.lt_of_lt_of_eq A_a.lt g111.symm)
      have F116 := A_a.ext E112
      have F117 := E_a.ext E112
      have sz118 : n0 ≤ b108 := Nat.le_trans Z0 (Nat.le_of_eq g111.symm)
      have szh119 : n0 ≤ h107.size := Nat.le_trans Z0 E112.1
      have szk120 : h0.size ≤ b108 := Nat.le_trans (Keep.refl h0 []).1 (Nat.le_of_eq g111.symm)
      have K121 := (Keep.refl h0 []).ext E112
      show Go p_ e_ below _ T106 (mkF m_ 25 #[.val (.int (0 : Int32)), .val (.ref a), .val (.int (1 : Int32)), .unset, .unset, .unset, .unset, .unset, .unset] [(.ref b108)])
      refine g_checkcast X109 hx hZ hown (wd hw 111 rfl) (Ins.self E114) e110 (hb hby d17_25) 28 rfl (fun T122 X123 e124 => ?_)
      show Go p_ e_ below _ T122 (mkF m_ 28 #[.val (.int (0 : Int32)), .val (.ref a), .val (.int (1 : Int32)), .unset, .unset, .unset, .unset, .unset, .unset] [(.ref b108)])
      exact g_reta X123 hx rfl rfl hret hlk (by decide) (by decide) (hb hby d17_28) (by rw [e124]; exact ⟨b108, rfl, N0, K121, szk120, (AV.cast A113 (by rw [en_p k0])), E114⟩)
  · exact absurd q101 (by decide)
theorem ef19_m (m_ : MethodId) (a : Addr)  : entryFrame m_ #[(.ref a), (.int (0 : Int32)), (.int (1 : Int32))] 5 = mkF m_ 0 #[.val (.ref a), .val (.int (0 : Int32)), .val (.int (1 : Int32)), .unset, .unset] [] := by first | (simp [entryFrame, mkF, argsToLocals, Value.category]; done) | rfl
theorem d19_20 : decode jdk_123_method_3_code 20 = .ok (.iload 4, 2) := by decide +kernel
theorem d19_22 : decode jdk_123_method_3_code 22 = .ok (.iload_n 1, 1) := by decide +kernel
theorem d19_23 : decode jdk_123_method_3_code 23 = .ok (.isub, 1) := by decide +kernel
theorem d19_24 : decode jdk_123_method_3_code 24 = .ok (.ireturn, 1) := by decide +kernel
set_option maxRecDepth 65536 in
set_option maxHeartbeats 40000000 in
theorem co19_m (l : Launch) (Z : State) (a0 : Array Value) (hw : ∀ d ∈ tables_1, d.before a0 Z = true) (a : Addr) (c0 : Int32) (h0 : Heap) (A_a : AV Z h0 a .byte [(.int (byt c0))]) (s0 : byt c0 < (0 : Int32)) : Co l (⟨"java/lang/StringCoding", "countPositives", "([BII)I"⟩ : MethodName) jdk_123_method_3_code 5 (some .int) [] ({ frames := 0, cells := 0, slots := 0, locals := 0 } : Room) Z h0 #[(.ref a), (.int (0 : Int32)), (.int (1 : Int32))] (Pu h0 (some (.int ((0 : Int32) )))) := by
  refine Co.of (plainFor_of_name pn_2) ?_
  intro p_ e_ s_ m_ below meth c_ T0 X0 hx hby hml hown hnm hret hlk hZ eq0
  refine Go.cast (ef19_m m_ a ) ?_
  refine g_iloadN X0 hx rfl (hb hby d19_0) 1 rfl ?_
  refine g_iloadN X0 hx rfl (hb hby d19_1) 2 rfl ?_
  refine g_iadd X0 hx (hb hby d19_2) 3 rfl ?_
  show Go p_ e_ below _ T0 (mkF m_ 3 #[.val (.ref a), .val (.int (0 : Int32)), .val (.int (1 : Int32)), .unset, .unset] [(.int (1 : Int32))])
  refine g_istoreN X0 hx #[.val (.ref a), .val (.int (0 : Int32)), .val (.int (1 : Int32)), .val (.int (1 : Int32)), .unset] rfl (hb hby d19_3) 4 rfl ?_
  refine g_iloadN X0 hx rfl (hb hby d19_4) 5 rfl ?_
  refine g_istore X0 hx #[.val (.ref a), .val (.int (0 : Int32)), .val (.int (1 : Int32)), .val (.int (1 : Int32)), .val (.int (0 : Int32))] rfl (hb hby d19_5) 7 rfl ?_
  refine g_iload X0 hx rfl (hb hby d19_7) 9 rfl ?_
  refine g_iloadN X0 hx rfl (hb hby d19_9) 10 rfl ?_
  refine g_icmp_ge X0 hx (hb hby d19_10) 31 13 (by decide) rfl rfl (fun q101 => ?_) (fun q101 => ?_)
  · exact absurd q101 (by decide)
  · refine g_aloadN X0 hx rfl rfl (hb hby d19_13) 14 rfl ?_
    refine g_iload X0 hx rfl (hb hby d19_14) 16 rfl ?_
    refine g_baload X0 hx hZ eq0 A_a (by decide) rfl (hb hby d19_16) 17 rfl ?_
    show Go p_ e_ below _ T0 (mkF m_ 17 #[.val (.ref a), .val (.int (0 : Int32)), .val (.int (1 : Int32)), .val (.int (1 : Int32)), .val (.int (0 : Int32))] [(.int (byt c0))])
    refine g_if_ge X0 hx (hb hby d19_17) 25 20 (by decide) rfl rfl (fun q102 => ?_) (fun q102 => ?_)
    · exact absurd s0 q102
    · refine g_iload X0 hx rfl (hb hby d19_20) 22 rfl ?_
      refine g_iloadN X0 hx rfl (hb hby d19_22) 23 rfl ?_
      refine g_isub X0 hx (hb hby d19_23) 24 rfl ?_
      show Go p_ e_ below _ T0 (mkF m_ 24 #[.val (.ref a), .val (.int (0 : Int32)), .val (.int (1 : Int32)), .val (.int (1 : Int32)), .val (.int (0 : Int32))] [(.int (0 : Int32))])
      exact g_reti X0 hx hret hlk (by decide) (by decide) (hb hby d19_24) ⟨congrArg (fun z => some (Value.int z)) rfl, eq0, rfl⟩
theorem ef18_m (m_ : MethodId) (a : Addr)  : entryFrame m_ #[(.ref a), (.int (0 : Int32)), (.int (1 : Int32))] 3 = mkF m_ 0 #[.val (.ref a), .val (.int (0 : Int32)), .val (.int (1 : Int32))] [] := by first | (simp [entryFrame, mkF, argsToLocals, Value.category]; done) | rfl
theorem d18_10 : decode jdk_123_method_2_code 10 = .ok (.iconst 1, 1) := by decide +kernel
theorem d18_11 : decode jdk_123_method_2_code 11 = .ok (.goto 4, 3) := by decide +kernel
set_option maxRecDepth 65536 in
set_option maxHeartbeats 40000000 in
theorem co18_m (l : Launch) (Z : State) (a0 : Array Value) (hw : ∀ d ∈ tables_1, d.before a0 Z = true) (a : Addr) (c0 : Int32) (h0 : Heap) (A_a : AV Z h0 a .byte [(.int (byt c0))]) (s0 : byt c0 < (0 : Int32)) : Co l (⟨"java/lang/StringCoding", "hasNegatives", "([BII)Z"⟩ : MethodName) jdk_123_method_2_code 3 (some .boolean) [] ({ frames := 1, cells := 0, slots := 0, locals := 16 } : Room) Z h0 #[(.ref a), (.int (0 : Int32)), (.int (1 : Int32))] (Pu h0 (some (.int ((1 : Int32) )))) := by
  refine Co.of (plainFor_of_name pn_2) ?_
  intro p_ e_ s_ m_ below meth c_ T0 X0 hx hby hml hown hnm hret hlk hZ eq0
  refine Go.cast (ef18_m m_ a ) ?_
  refine g_aloadN X0 hx rfl rfl (hb hby d18_0) 1 rfl ?_
  refine g_iloadN X0 hx rfl (hb hby d18_1) 2 rfl ?_
  refine g_iloadN X0 hx rfl (hb hby d18_2) 3 rfl ?_
  refine g_callS X0 hx hZ hown (wd hw 101 rfl) (wd hw 102 rfl) (wd hw 99 rfl) (wd hw 103 rfl) (by decide) eq0 [(.ref a), (.int (0 : Int32)), (.int (1 : Int32))] []  rfl (co19_m l Z a0 hw a c0 h0 A_a s0) (lenOf pd_2 rfl) 0 (Nat.le_of_eq rfl) (by decide) (by decide) (by decide) (by decide) (by rw [hml]; rfl) (hb hby d18_3) 6 rfl (pu_cont fun T102 X101 e103 => ?_)
  show Go p_ e_ below _ T102 (mkF m_ 6 #[.val (.ref a), .val (.int (0 : Int32)), .val (.int (1 : Int32))] [(.int (0 : Int32))])
  refine g_iloadN X101 hx rfl (hb hby d18_6) 7 rfl ?_
  refine g_icmp_eq X101 hx (hb hby d18_7) 14 10 (by decide) rfl rfl (fun q104 => ?_) (fun q104 => ?_)
  · exact absurd q104 (by decide)
  · refine g_iconst X101 hx (1 : Int32) rfl (hb hby d18_10) 11 rfl ?_
    refine g_goto X101 hx (hb hby d18_11) 15 (by decide) rfl ?_
    exact g_retz X101 hx hret hlk (by decide) (by decide) (hb hby d18_15) ⟨congrArg (fun z => some (Value.int z)) (by decide), e103, rfl⟩
def Q17_m (Z : State) (a : Addr) (c0 : Int32) (h0 : Heap) (n0 : Nat) (v : Option Value) (h : Heap) (L : List Loc) : Prop := ∃ d, v = some (.ref d) ∧ Fr n0 L ∧ Keep h0 h [] ∧ h0.size ≤ d ∧ AV Z h d .byte (enc [c0]) ∧ Exa Z h d "[B"
theorem ef17_m (m_ : MethodId) (a : Addr)  : entryFrame m_ #[(.int (0 : Int32)), (.ref a), (.int (1 : Int32))] 9 = mkF m_ 0 #[.val (.int (0 : Int32)), .val (.ref a), .val (.int (1 : Int32)), .unset, .unset, .unset, .unset, .unset, .unset] [] := by first | (simp [entryFrame, mkF, argsToLocals, Value.category]; done) | rfl
theorem d17_29 : decode jdk_42_method_46_code 29 = .ok (.iconst 0, 1) := by decide +kernel
theorem d17_30 : decode jdk_42_method_46_code 30 = .ok (.istore_n 3, 1) := by decide +kernel
theorem d17_31 : decode jdk_42_method_46_code 31 = .ok (.aload_n 1, 1) := by decide +kernel
theorem d17_32 : decode jdk_42_method_46_code 32 = .ok (.arraylength, 1) := by decide +kernel
theorem pd_4 : parseMethodDescriptor "(I)[B" = some ⟨[.int], some (.array .byte)⟩ := by decide +kernel
theorem d17_33 : decode jdk_42_method_46_code 33 = .ok (.invokestatic 60, 3) := by decide +kernel
theorem d17_36 : decode jdk_42_method_46_code 36 = .ok (.astore 4, 2) := by decide +kernel
theorem d17_38 : decode jdk_42_method_46_code 38 = .ok (.aload_n 1, 1) := by decide +kernel
theorem d17_39 : decode jdk_42_method_46_code 39 = .ok (.astore 5, 2) := by decide +kernel
theorem d17_41 : decode jdk_42_method_46_code 41 = .ok (.aload 5, 2) := by decide +kernel
theorem d17_43 : decode jdk_42_method_46_code 43 = .ok (.arraylength, 1) := by decide +kernel
theorem d17_44 : decode jdk_42_method_46_code 44 = .ok (.istore 6, 2) := by decide +kernel
theorem d17_46 : decode jdk_42_method_46_code 46 = .ok (.iconst 0, 1) := by decide +kernel
theorem d17_47 : decode jdk_42_method_46_code 47 = .ok (.istore 7, 2) := by decide +kernel
theorem d17_49 : decode jdk_42_method_46_code 49 = .ok (.iload 7, 2) := by decide +kernel
theorem d17_51 : decode jdk_42_method_46_code 51 = .ok (.iload 6, 2) := by decide +kernel
theorem d17_53 : decode jdk_42_method_46_code 53 = .ok (.if_icmp .ge 71, 3) := by decide +kernel
theorem d17_56 : decode jdk_42_method_46_code 56 = .ok (.aload 5, 2) := by decide +kernel
theorem d17_58 : decode jdk_42_method_46_code 58 = .ok (.iload 7, 2) := by decide +kernel
theorem d17_60 : decode jdk_42_method_46_code 60 = .ok (.baload, 1) := by decide +kernel
theorem d17_61 : decode jdk_42_method_46_code 61 = .ok (.istore 8, 2) := by decide +kernel
theorem d17_63 : decode jdk_42_method_46_code 63 = .ok (.iload 8, 2) := by decide +kernel
theorem d17_65 : decode jdk_42_method_46_code 65 = .ok (.ifCond .ge 44, 3) := by decide +kernel
theorem d17_68 : decode jdk_42_method_46_code 68 = .ok (.aload 4, 2) := by decide +kernel
theorem d17_70 : decode jdk_42_method_46_code 70 = .ok (.iload_n 3, 1) := by decide +kernel
theorem d17_71 : decode jdk_42_method_46_code 71 = .ok (.iinc 3 1, 3) := by decide +kernel
theorem d17_74 : decode jdk_42_method_46_code 74 = .ok (.sipush 192, 3) := by decide +kernel
theorem d17_77 : decode jdk_42_method_46_code 77 = .ok (.iload 8, 2) := by decide +kernel
theorem d17_79 : decode jdk_42_method_46_code 79 = .ok (.sipush 255, 3) := by decide +kernel
theorem d17_82 : decode jdk_42_method_46_code 82 = .ok (.iand, 1) := by decide +kernel
theorem d17_83 : decode jdk_42_method_46_code 83 = .ok (.bipush 6, 2) := by decide +kernel
theorem d17_85 : decode jdk_42_method_46_code 85 = .ok (.ishr, 1) := by decide +kernel
theorem d17_86 : decode jdk_42_method_46_code 86 = .ok (.ior, 1) := by decide +kernel
theorem d17_87 : decode jdk_42_method_46_code 87 = .ok (.i2b, 1) := by decide +kernel
theorem d17_88 : decode jdk_42_method_46_code 88 = .ok (.bastore, 1) := by decide +kernel
theorem d17_89 : decode jdk_42_method_46_code 89 = .ok (.aload 4, 2) := by decide +kernel
theorem d17_91 : decode jdk_42_method_46_code 91 = .ok (.iload_n 3, 1) := by decide +kernel
theorem d17_92 : decode jdk_42_method_46_code 92 = .ok (.iinc 3 1, 3) := by decide +kernel
theorem d17_95 : decode jdk_42_method_46_code 95 = .ok (.sipush 128, 3) := by decide +kernel
theorem d17_98 : decode jdk_42_method_46_code 98 = .ok (.iload 8, 2) := by decide +kernel
theorem d17_100 : decode jdk_42_method_46_code 100 = .ok (.bipush 63, 2) := by decide +kernel
theorem d17_102 : decode jdk_42_method_46_code 102 = .ok (.iand, 1) := by decide +kernel
theorem d17_103 : decode jdk_42_method_46_code 103 = .ok (.ior, 1) := by decide +kernel
theorem d17_104 : decode jdk_42_method_46_code 104 = .ok (.i2b, 1) := by decide +kernel
theorem d17_105 : decode jdk_42_method_46_code 105 = .ok (.bastore, 1) := by decide +kernel
theorem d17_106 : decode jdk_42_method_46_code 106 = .ok (.goto 12, 3) := by decide +kernel
theorem d17_118 : decode jdk_42_method_46_code 118 = .ok (.iinc 7 1, 3) := by decide +kernel
theorem d17_121 : decode jdk_42_method_46_code 121 = .ok (.goto (-72), 3) := by decide +kernel
theorem d17_124 : decode jdk_42_method_46_code 124 = .ok (.iload_n 3, 1) := by decide +kernel
theorem d17_125 : decode jdk_42_method_46_code 125 = .ok (.aload 4, 2) := by decide +kernel
theorem d17_127 : decode jdk_42_method_46_code 127 = .ok (.arraylength, 1) := by decide +kernel
theorem d17_128 : decode jdk_42_method_46_code 128 = .ok (.if_icmp .ne 6, 3) := by decide +kernel
theorem d17_131 : decode jdk_42_method_46_code 131 = .ok (.aload 4, 2) := by decide +kernel
theorem d17_133 : decode jdk_42_method_46_code 133 = .ok (.areturn, 1) := by decide +kernel
set_option maxRecDepth 65536 in
set_option maxHeartbeats 40000000 in
theorem co17_m (l : Launch) (Z : State) (a0 : Array Value) (hw : ∀ d ∈ tables_1, d.before a0 Z = true) (a : Addr) (c0 : Int32) (h0 : Heap) (n0 : Nat) (Z0 : n0 ≤ h0.size)   (A_a : AV Z h0 a .byte [(.int (byt c0))]) (E_a : Exa Z h0 a "[B") (s0 : byt c0 < (0 : Int32)) (hc0 : Ch c0) (k0 : ¬ c0 < (128 : Int32)) : Co l (⟨"java/lang/String", "encodeUTF8", "(B[BZ)[B"⟩ : MethodName) jdk_42_method_46_code 9 (some (.array .byte)) [] ({ frames := 2, cells := 2, slots := 7, locals := 54 } : Room) Z h0 #[(.int (0 : Int32)), (.ref a), (.int (1 : Int32))] (Q17_m Z a c0 h0 n0) := by
  refine Co.of (plainFor_of_name pn_3) ?_
  intro p_ e_ s_ m_ below meth c_ T0 X0 hx hby hml hown hnm hret hlk hZ eq0
  have N0 := Fr.nil n0
  refine Go.cast (ef17_m m_ a ) ?_
  refine g_iloadN X0 hx rfl (hb hby d17_0) 1 rfl ?_
  refine g_iconst X0 hx (1 : Int32) rfl (hb hby d17_1) 2 rfl ?_
  refine g_icmp_ne X0 hx (hb hby d17_2) 11 5 (by decide) rfl rfl (fun q101 => ?_) (fun q101 => ?_)
  · refine g_aloadN X0 hx rfl rfl (hb hby d17_11) 12 rfl ?_
    refine g_iconst X0 hx (0 : Int32) rfl (hb hby d17_12) 13 rfl ?_
    refine g_aloadN X0 hx rfl rfl (hb hby d17_13) 14 rfl ?_
    refine g_arraylength X0 hx hZ eq0 A_a (1 : Int32) rfl (hb hby d17_14) 15 rfl ?_
    refine g_callS X0 hx hZ hown (wd hw 97 rfl) (wd hw 98 rfl) (wd hw 99 rfl) (wd hw 100 rfl) (by decide) eq0 [(.ref a), (.int (0 : Int32)), (.int (1 : Int32))] []  rfl (co18_m l Z a0 hw a c0 h0 A_a s0) (lenOf pd_3 rfl) 0 (Nat.le_of_eq rfl) (by decide) (by decide) (by decide) (by decide) (by rw [hml]; rfl) (hb hby d17_15) 18 rfl (pu_cont fun T103 X102 e104 => ?_)
    show Go p_ e_ below _ T103 (mkF m_ 18 #[.val (.int (0 : Int32)), .val (.ref a), .val (.int (1 : Int32)), .unset, .unset, .unset, .unset, .unset, .unset] [(.int (1 : Int32))])
    refine g_if_ne X102 hx (hb hby d17_18) 29 21 (by decide) rfl rfl (fun q105 => ?_) (fun q105 => ?_)
    · refine g_iconst X102 hx (0 : Int32) rfl (hb hby d17_29) 30 rfl ?_
      refine g_istoreN X102 hx #[.val (.int (0 : Int32)), .val (.ref a), .val (.int (1 : Int32)), .val (.int (0 : Int32)), .unset, .unset, .unset, .unset, .unset] rfl (hb hby d17_30) 31 rfl ?_
      refine g_aloadN X102 hx rfl rfl (hb hby d17_31) 32 rfl ?_
      refine g_arraylength X102 hx hZ e104 A_a (1 : Int32) rfl (hb hby d17_32) 33 rfl ?_
      refine g_callS X102 hx hZ hown (wd hw 123 rfl) (wd hw 124 rfl) (wd hw 64 rfl) (wd hw 125 rfl) (by decide) e104 [(.int (1 : Int32))] [] rfl (co23_1 l Z a0 hw h0 n0 Z0) (lenOf pd_4 rfl) 0 (Nat.le_of_eq rfl) (by decide) (by decide) (by decide) (by decide) (by rw [hml]; rfl) (hb hby d17_33) 36 rfl (fun r106 T107 L108 X109 Q110 => ?_)
      obtain ⟨h111, e112⟩ : ∃ h, T107.heap = h := ⟨_, rfl⟩
      rw [e112] at Q110
      obtain ⟨b113, rfl, n114, K115, g116, A117, E118⟩ := Q110
      have N119 := Fr.app N0 n114
      have ne120 : a ≠ b113 := Nat.ne_of_lt (Nat.lt_of_lt_of_le A_a.lt g116)
      have sz121 : n0 ≤ b113 := Nat.le_trans Z0 g116
      have szk122 : h0.size ≤ b113 := Nat.le_trans (Keep.refl h0 []).1 g116
      have F123 := A_a.keep K115 nin0
      have F124 := E_a.keep K115
      have szh125 : n0 ≤ h111.size := Nat.le_trans Z0 K115.1
      have K126 := (Keep.refl h0 []).trans K115 all0
      show Go p_ e_ below _ T107 (mkF m_ 36 #[.val (.int (0 : Int32)), .val (.ref a), .val (.int (1 : Int32)), .val (.int (0 : Int32)), .unset, .unset, .unset, .unset, .unset] [(.ref b113)])
      refine g_astore X109 hx #[.val (.int (0 : Int32)), .val (.ref a), .val (.int (1 : Int32)), .val (.int (0 : Int32)), .val (.ref b113), .unset, .unset, .unset, .unset] rfl rfl (hb hby d17_36) 38 rfl ?_
      refine g_aloadN X109 hx rfl rfl (hb hby d17_38) 39 rfl ?_
      refine g_astore X109 hx #[.val (.int (0 : Int32)), .val (.ref a), .val (.int (1 : Int32)), .val (.int (0 : Int32)), .val (.ref b113), .val (.ref a), .unset, .unset, .unset] rfl rfl (hb hby d17_39) 41 rfl ?_
      refine g_aload X109 hx rfl rfl (hb hby d17_41) 43 rfl ?_
      refine g_arraylength X109 hx hZ e112 F123 (1 : Int32) rfl (hb hby d17_43) 44 rfl ?_
      refine g_istore X109 hx #[.val (.int (0 : Int32)), .val (.ref a), .val (.int (1 : Int32)), .val (.int (0 : Int32)), .val (.ref b113), .val (.ref a), .val (.int (1 : Int32)), .unset, .unset] rfl (hb hby d17_44) 46 rfl ?_
      refine g_iconst X109 hx (0 : Int32) rfl (hb hby d17_46) 47 rfl ?_
      refine g_istore X109 hx #[.val (.int (0 : Int32)), .val (.ref a), .val (.int (1 : Int32)), .val (.int (0 : Int32)), .val (.ref b113), .val (.ref a), .val (.int (1 : Int32)), .val (.int (0 : Int32)), .unset] rfl (hb hby d17_47) 49 rfl ?_
      refine g_iload X109 hx rfl (hb hby d17_49) 51 rfl ?_
      refine g_iload X109 hx rfl (hb hby d17_51) 53 rfl ?_
      refine g_icmp_ge X109 hx (hb hby d17_53) 124 56 (by decide) rfl rfl (fun q127 => ?_) (fun q127 => ?_)
      · exact absurd q127 (by decide)
      · refine g_aload X109 hx rfl rfl (hb hby d17_56) 58 rfl ?_
        refine g_iload X109 hx rfl (hb hby d17_58) 60 rfl ?_
        refine g_baload X109 hx hZ e112 F123 (by decide) rfl (hb hby d17_60) 61 rfl ?_
        show Go p_ e_ below _ T107 (mkF m_ 61 #[.val (.int (0 : Int32)), .val (.ref a), .val (.int (1 : Int32)), .val (.int (0 : Int32)), .val (.ref b113), .val (.ref a), .val (.int (1 : Int32)), .val (.int (0 : Int32)), .unset] [(.int (byt c0))])
        refine g_istore X109 hx #[.val (.int (0 : Int32)), .val (.ref a), .val (.int (1 : Int32)), .val (.int (0 : Int32)), .val (.ref b113), .val (.ref a), .val (.int (1 : Int32)), .val (.int (0 : Int32)), .val (.int (byt c0))] rfl (hb hby d17_61) 63 rfl ?_
        refine g_iload X109 hx rfl (hb hby d17_63) 65 rfl ?_
        refine g_if_ge X109 hx (hb hby d17_65) 109 68 (by decide) rfl rfl (fun q128 => ?_) (fun q128 => ?_)
        · exact absurd s0 q128
        · refine g_aload X109 hx rfl rfl (hb hby d17_68) 70 rfl ?_
          refine g_iloadN X109 hx rfl (hb hby d17_70) 71 rfl ?_
          refine g_iinc X109 hx (1 : Int32) rfl rfl #[.val (.int (0 : Int32)), .val (.ref a), .val (.int (1 : Int32)), .val (.int (1 : Int32)), .val (.ref b113), .val (.ref a), .val (.int (1 : Int32)), .val (.int (0 : Int32)), .val (.int (byt c0))] rfl (hb hby d17_71) 74 rfl ?_
          refine g_sipush X109 hx (192 : Int32) rfl (hb hby d17_74) 77 rfl ?_
          refine g_iload X109 hx rfl (hb hby d17_77) 79 rfl ?_
          refine g_sipush X109 hx (255 : Int32) rfl (hb hby d17_79) 82 rfl ?_
          refine g_iand X109 hx (hb hby d17_82) 83 rfl ?_
          refine g_bipush X109 hx (6 : Int32) rfl (hb hby d17_83) 85 rfl ?_
          refine g_ishr X109 hx (hb hby d17_85) 86 rfl ?_
          refine g_ior X109 hx (hb hby d17_86) 87 rfl ?_
          refine g_i2b X109 hx (hb hby d17_87) 88 rfl ?_
          refine g_bastore X109 hx hZ e112 A117 (by decide) (Nat.le_of_ble_eq_true rfl) (hb hby d17_88) 89 rfl (fun T129 h130 X131 e132 W133 A134 => ?_)
          have A135 : AV Z h130 b113 .byte [(.int ((192 : Int32) ||| (((byt c0) &&& (255 : Int32)) >>> ((6 : Int32) &&& 31))).toInt8.toInt32.toInt8.toInt32), (.int (0 : Int32))] := A134
          have F136 := F123.other W133 ne120
          have F137 := F124.wr W133
          have F138 := A135
          have F139 := E118.wr W133
          have N140 := Fr.snoc X131 N119 sz121
          have szh141 : n0 ≤ h130.size := Nat.le_trans szh125 (Nat.le_of_eq W133.size.symm)
          have K142 := K126.wr W133 (Or.inr szk122)
          show Go p_ e_ below _ T129 (mkF m_ 89 #[.val (.int (0 : Int32)), .val (.ref a), .val (.int (1 : Int32)), .val (.int (1 : Int32)), .val (.ref b113), .val (.ref a), .val (.int (1 : Int32)), .val (.int (0 : Int32)), .val (.int (byt c0))] [])
          refine g_aload X131 hx rfl rfl (hb hby d17_89) 91 rfl ?_
          refine g_iloadN X131 hx rfl (hb hby d17_91) 92 rfl ?_
          refine g_iinc X131 hx (1 : Int32) rfl rfl #[.val (.int (0 : Int32)), .val (.ref a), .val (.int (1 : Int32)), .val (.int (2 : Int32)), .val (.ref b113), .val (.ref a), .val (.int (1 : Int32)), .val (.int (0 : Int32)), .val (.int (byt c0))] rfl (hb hby d17_92) 95 rfl ?_
          refine g_sipush X131 hx (128 : Int32) rfl (hb hby d17_95) 98 rfl ?_
          refine g_iload X131 hx rfl (hb hby d17_98) 100 rfl ?_
          refine g_bipush X131 hx (63 : Int32) rfl (hb hby d17_100) 102 rfl ?_
          refine g_iand X131 hx (hb hby d17_102) 103 rfl ?_
          refine g_ior X131 hx (hb hby d17_103) 104 rfl ?_
          refine g_i2b X131 hx (hb hby d17_104) 105 rfl ?_
          refine g_bastore X131 hx hZ e132 A135 (by decide) (Nat.le_of_ble_eq_true rfl) (hb hby d17_105) 106 rfl (fun T143 h144 X145 e146 W147 A148 => ?_)
          have A149 : AV Z h144 b113 .byte [(.int ((192 : Int32) ||| (((byt c0) &&& (255 : Int32)) >>> ((6 : Int32) &&& 31))).toInt8.toInt32.toInt8.toInt32), (.int ((128 : Int32) ||| ((byt c0) &&& (63 : Int32))).toInt8.toInt32.toInt8.toInt32)] := A148
          have F150 := F136.other W147 ne120
          have F151 := F137.wr W147
          have F152 := A149
          have F153 := F139.wr W147
          have N154 := Fr.snoc X145 N140 sz121
          have szh155 : n0 ≤ h144.size := Nat.le_trans szh141 (Nat.le_of_eq W147.size.symm)
          have K156 := K142.wr W147 (Or.inr szk122)
          show Go p_ e_ below _ T143 (mkF m_ 106 #[.val (.int (0 : Int32)), .val (.ref a), .val (.int (1 : Int32)), .val (.int (2 : Int32)), .val (.ref b113), .val (.ref a), .val (.int (1 : Int32)), .val (.int (0 : Int32)), .val (.int (byt c0))] [])
          refine g_goto X145 hx (hb hby d17_106) 118 (by decide) rfl ?_
          refine g_iinc X145 hx (1 : Int32) rfl rfl #[.val (.int (0 : Int32)), .val (.ref a), .val (.int (1 : Int32)), .val (.int (2 : Int32)), .val (.ref b113), .val (.ref a), .val (.int (1 : Int32)), .val (.int (1 : Int32)), .val (.int (byt c0))] rfl (hb hby d17_118) 121 rfl ?_
          refine g_goto X145 hx (hb hby d17_121) 49 (by decide) rfl ?_
          refine g_iload X145 hx rfl (hb hby d17_49) 51 rfl ?_
          refine g_iload X145 hx rfl (hb hby d17_51) 53 rfl ?_
          refine g_icmp_ge X145 hx (hb hby d17_53) 124 56 (by decide) rfl rfl (fun q157 => ?_) (fun q157 => ?_)
          · refine g_iloadN X145 hx rfl (hb hby d17_124) 125 rfl ?_
            refine g_aload X145 hx rfl rfl (hb hby d17_125) 127 rfl ?_
            refine g_arraylength X145 hx hZ e146 A149 (2 : Int32) rfl (hb hby d17_127) 128 rfl ?_
            refine g_icmp_ne X145 hx (hb hby d17_128) 134 131 (by decide) rfl rfl (fun q158 => ?_) (fun q158 => ?_)
            · exact absurd rfl q158
            · refine g_aload X145 hx rfl rfl (hb hby d17_131) 133 rfl ?_
              exact g_reta X145 hx rfl rfl hret hlk (by decide) (by decide) (hb hby d17_133) (by rw [e146]; exact ⟨b113, rfl, N154, K156, szk122, (AV.cast A149 (by rw [en_m k0, k_w0 hc0, k_w1 hc0])), F153⟩)
          · exact absurd q157 (by decide)
    · exact absurd q105 (by decide)
  · exact absurd q101 (by decide)
theorem ef19_pp (m_ : MethodId) (a : Addr)  : entryFrame m_ #[(.ref a), (.int (0 : Int32)), (.int (2 : Int32))] 5 = mkF m_ 0 #[.val (.ref a), .val (.int (0 : Int32)), .val (.int (2 : Int32)), .unset, .unset] [] := by first | (simp [entryFrame, mkF, argsToLocals, Value.category]; done) | rfl
set_option maxRecDepth 65536 in
set_option maxHeartbeats 40000000 in
theorem co19_pp (l : Launch) (Z : State) (a0 : Array Value) (hw : ∀ d ∈ tables_1, d.before a0 Z = true) (a : Addr) (c0 : Int32) (c1 : Int32) (h0 : Heap) (A_a : AV Z h0 a .byte [(.int (byt c0)), (.int (byt c1))]) (s0 : ¬ byt c0 < (0 : Int32)) (s1 : ¬ byt c1 < (0 : Int32)) : Co l (⟨"java/lang/StringCoding", "countPositives", "([BII)I"⟩ : MethodName) jdk_123_method_3_code 5 (some .int) [] ({ frames := 0, cells := 0, slots := 0, locals := 0 } : Room) Z h0 #[(.ref a), (.int (0 : Int32)), (.int (2 : Int32))] (Pu h0 (some (.int ((2 : Int32) )))) := by
  refine Co.of (plainFor_of_name pn_2) ?_
  intro p_ e_ s_ m_ below meth c_ T0 X0 hx hby hml hown hnm hret hlk hZ eq0
  refine Go.cast (ef19_pp m_ a ) ?_
  refine g_iloadN X0 hx rfl (hb hby d19_0) 1 rfl ?_
  refine g_iloadN X0 hx rfl (hb hby d19_1) 2 rfl ?_
  refine g_iadd X0 hx (hb hby d19_2) 3 rfl ?_
  show Go p_ e_ below _ T0 (mkF m_ 3 #[.val (.ref a), .val (.int (0 : Int32)), .val (.int (2 : Int32)), .unset, .unset] [(.int (2 : Int32))])
  refine g_istoreN X0 hx #[.val (.ref a), .val (.int (0 : Int32)), .val (.int (2 : Int32)), .val (.int (2 : Int32)), .unset] rfl (hb hby d19_3) 4 rfl ?_
  refine g_iloadN X0 hx rfl (hb hby d19_4) 5 rfl ?_
  refine g_istore X0 hx #[.val (.ref a), .val (.int (0 : Int32)), .val (.int (2 : Int32)), .val (.int (2 : Int32)), .val (.int (0 : Int32))] rfl (hb hby d19_5) 7 rfl ?_
  refine g_iload X0 hx rfl (hb hby d19_7) 9 rfl ?_
  refine g_iloadN X0 hx rfl (hb hby d19_9) 10 rfl ?_
  refine g_icmp_ge X0 hx (hb hby d19_10) 31 13 (by decide) rfl rfl (fun q101 => ?_) (fun q101 => ?_)
  · exact absurd q101 (by decide)
  · refine g_aloadN X0 hx rfl rfl (hb hby d19_13) 14 rfl ?_
    refine g_iload X0 hx rfl (hb hby d19_14) 16 rfl ?_
    refine g_baload X0 hx hZ eq0 A_a (by decide) rfl (hb hby d19_16) 17 rfl ?_
    show Go p_ e_ below _ T0 (mkF m_ 17 #[.val (.ref a), .val (.int (0 : Int32)), .val (.int (2 : Int32)), .val (.int (2 : Int32)), .val (.int (0 : Int32))] [(.int (byt c0))])
    refine g_if_ge X0 hx (hb hby d19_17) 25 20 (by decide) rfl rfl (fun q102 => ?_) (fun q102 => ?_)
    · refine g_iinc X0 hx (1 : Int32) rfl rfl #[.val (.ref a), .val (.int (0 : Int32)), .val (.int (2 : Int32)), .val (.int (2 : Int32)), .val (.int (1 : Int32))] rfl (hb hby d19_25) 28 rfl ?_
      refine g_goto X0 hx (hb hby d19_28) 7 (by decide) rfl ?_
      refine g_iload X0 hx rfl (hb hby d19_7) 9 rfl ?_
      refine g_iloadN X0 hx rfl (hb hby d19_9) 10 rfl ?_
      refine g_icmp_ge X0 hx (hb hby d19_10) 31 13 (by decide) rfl rfl (fun q103 => ?_) (fun q103 => ?_)
      · exact absurd q103 (by decide)
      · refine g_aloadN X0 hx rfl rfl (hb hby d19_13) 14 rfl ?_
        refine g_iload X0 hx rfl (hb hby d19_14) 16 rfl ?_
        refine g_baload X0 hx hZ eq0 A_a (by decide) rfl (hb hby d19_16) 17 rfl ?_
        show Go p_ e_ below _ T0 (mkF m_ 17 #[.val (.ref a), .val (.int (0 : Int32)), .val (.int (2 : Int32)), .val (.int (2 : Int32)), .val (.int (1 : Int32))] [(.int (byt c1))])
        refine g_if_ge X0 hx (hb hby d19_17) 25 20 (by decide) rfl rfl (fun q104 => ?_) (fun q104 => ?_)
        · refine g_iinc X0 hx (1 : Int32) rfl rfl #[.val (.ref a), .val (.int (0 : Int32)), .val (.int (2 : Int32)), .val (.int (2 : Int32)), .val (.int (2 : Int32))] rfl (hb hby d19_25) 28 rfl ?_
          refine g_goto X0 hx (hb hby d19_28) 7 (by decide) rfl ?_
          refine g_iload X0 hx rfl (hb hby d19_7) 9 rfl ?_
          refine g_iloadN X0 hx rfl (hb hby d19_9) 10 rfl ?_
          refine g_icmp_ge X0 hx (hb hby d19_10) 31 13 (by decide) rfl rfl (fun q105 => ?_) (fun q105 => ?_)
          · refine g_iloadN X0 hx rfl (hb hby d19_31) 32 rfl ?_
            exact g_reti X0 hx hret hlk (by decide) (by decide) (hb hby d19_32) ⟨congrArg (fun z => some (Value.int z)) rfl, eq0, rfl⟩
          · exact absurd q105 (by decide)
        · exact absurd q104 s1
    · exact absurd q102 s0
theorem ef18_pp (m_ : MethodId) (a : Addr)  : entryFrame m_ #[(.ref a), (.int (0 : Int32)), (.int (2 : Int32))] 3 = mkF m_ 0 #[.val (.ref a), .val (.int (0 : Int32)), .val (.int (2 : Int32))] [] := by first | (simp [entryFrame, mkF, argsToLocals, Value.category]; done) | rfl
set_option maxRecDepth 65536 in
set_option maxHeartbeats 40000000 in
theorem co18_pp (l : Launch) (Z : State) (a0 : Array Value) (hw : ∀ d ∈ tables_1, d.before a0 Z = true) (a : Addr) (c0 : Int32) (c1 : Int32) (h0 : Heap) (A_a : AV Z h0 a .byte [(.int (byt c0)), (.int (byt c1))]) (s0 : ¬ byt c0 < (0 : Int32)) (s1 : ¬ byt c1 < (0 : Int32)) : Co l (⟨"java/lang/StringCoding", "hasNegatives", "([BII)Z"⟩ : MethodName) jdk_123_method_2_code 3 (some .boolean) [] ({ frames := 1, cells := 0, slots := 0, locals := 16 } : Room) Z h0 #[(.ref a), (.int (0 : Int32)), (.int (2 : Int32))] (Pu h0 (some (.int ((0 : Int32) )))) := by
  refine Co.of (plainFor_of_name pn_2) ?_
  intro p_ e_ s_ m_ below meth c_ T0 X0 hx hby hml hown hnm hret hlk hZ eq0
  refine Go.cast (ef18_pp m_ a ) ?_
  refine g_aloadN X0 hx rfl rfl (hb hby d18_0) 1 rfl ?_
  refine g_iloadN X0 hx rfl (hb hby d18_1) 2 rfl ?_
  refine g_iloadN X0 hx rfl (hb hby d18_2) 3 rfl ?_
  refine g_callS X0 hx hZ hown (wd hw 101 rfl) (wd hw 102 rfl) (wd hw 99 rfl) (wd hw 103 rfl) (by decide) eq0 [(.ref a), (.int (0 : Int32)), (.int (2 : Int32))] []  rfl (co19_pp l Z a0 hw a c0 c1 h0 A_a s0 s1) (lenOf pd_2 rfl) 0 (Nat.le_of_eq rfl) (by decide) (by decide) (by decide) (by decide) (by rw [hml]; rfl) (hb hby d18_3) 6 rfl (pu_cont fun T102 X101 e103 => ?_)
  show Go p_ e_ below _ T102 (mkF m_ 6 #[.val (.ref a), .val (.int (0 : Int32)), .val (.int (2 : Int32))] [(.int (2 : Int32))])
  refine g_iloadN X101 hx rfl (hb hby d18_6) 7 rfl ?_
  refine g_icmp_eq X101 hx (hb hby d18_7) 14 10 (by decide) rfl rfl (fun q104 => ?_) (fun q104 => ?_)
  · refine g_iconst X101 hx (0 : Int32) rfl (hb hby d18_14) 15 rfl ?_
    exact g_retz X101 hx hret hlk (by decide) (by decide) (hb hby d18_15) ⟨congrArg (fun z => some (Value.int z)) (by decide), e103, rfl⟩
  · exact absurd rfl q104
def Q17_pp (Z : State) (a : Addr) (c0 : Int32) (c1 : Int32) (h0 : Heap) (n0 : Nat) (v : Option Value) (h : Heap) (L : List Loc) : Prop := ∃ d, v = some (.ref d) ∧ Fr n0 L ∧ Keep h0 h [] ∧ h0.size ≤ d ∧ AV Z h d .byte (enc [c0, c1]) ∧ Exa Z h d "[B"
theorem ef17_pp (m_ : MethodId) (a : Addr)  : entryFrame m_ #[(.int (0 : Int32)), (.ref a), (.int (1 : Int32))] 9 = mkF m_ 0 #[.val (.int (0 : Int32)), .val (.ref a), .val (.int (1 : Int32)), .unset, .unset, .unset, .unset, .unset, .unset] [] := by first | (simp [entryFrame, mkF, argsToLocals, Value.category]; done) | rfl
set_option maxRecDepth 65536 in
set_option maxHeartbeats 40000000 in
theorem co17_pp (l : Launch) (Z : State) (a0 : Array Value) (hw : ∀ d ∈ tables_1, d.before a0 Z = true) (a : Addr) (c0 : Int32) (c1 : Int32) (h0 : Heap) (n0 : Nat) (Z0 : n0 ≤ h0.size)   (A_a : AV Z h0 a .byte [(.int (byt c0)), (.int (byt c1))]) (E_a : Exa Z h0 a "[B") (s0 : ¬ byt c0 < (0 : Int32)) (s1 : ¬ byt c1 < (0 : Int32)) (hc0 : Ch c0) (hc1 : Ch c1) (k0 : c0 < (128 : Int32)) (k1 : c1 < (128 : Int32)) : Co l (⟨"java/lang/String", "encodeUTF8", "(B[BZ)[B"⟩ : MethodName) jdk_42_method_46_code 9 (some (.array .byte)) [] ({ frames := 2, cells := 2, slots := 7, locals := 54 } : Room) Z h0 #[(.int (0 : Int32)), (.ref a), (.int (1 : Int32))] (Q17_pp Z a c0 c1 h0 n0) := by
  refine Co.of (plainFor_of_name pn_3) ?_
  intro p_ e_ s_ m_ below meth c_ T0 X0 hx hby hml hown hnm hret hlk hZ eq0
  have N0 := Fr.nil n0
  refine Go.cast (ef17_pp m_ a ) ?_
  refine g_iloadN X0 hx rfl (hb hby d17_0) 1 rfl ?_
  refine g_iconst X0 hx (1 : Int32) rfl (hb hby d17_1) 2 rfl ?_
  refine g_icmp_ne X0 hx (hb hby d17_2) 11 5 (by decide) rfl rfl (fun q101 => ?_) (fun q101 => ?_)
  · refine g_aloadN X0 hx rfl rfl (hb hby d17_11) 12 rfl ?_
    refine g_iconst X0 hx (0 : Int32) rfl (hb hby d17_12) 13 rfl ?_
    refine g_aloadN X0 hx rfl rfl (hb hby d17_13) 14 rfl ?_
    refine g_arraylength X0 hx hZ eq0 A_a (2 : Int32) rfl (hb hby d17_14) 15 rfl ?_
    refine g_callS X0 hx hZ hown (wd hw 97 rfl) (wd hw 98 rfl) (wd hw 99 rfl) (wd hw 100 rfl) (by decide) eq0 [(.ref a), (.int (0 : Int32)), (.int (2 : Int32))] []  rfl (co18_pp l Z a0 hw a c0 c1 h0 A_a s0 s1) (lenOf pd_3 rfl) 0 (Nat.le_of_eq rfl) (by decide) (by decide) (by decide) (by decide) (by rw [hml]; rfl) (hb hby d17_15) 18 rfl (pu_cont fun T103 X102 e104 => ?_)
    show Go p_ e_ below _ T103 (mkF m_ 18 #[.val (.int (0 : Int32)), .val (.ref a), .val (.int (1 : Int32)), .unset, .unset, .unset, .unset, .unset, .unset] [(.int (0 : Int32))])
    refine g_if_ne X102 hx (hb hby d17_18) 29 21 (by decide) rfl rfl (fun q105 => ?_) (fun q105 => ?_)
    · exact absurd rfl q105
    · refine g_aloadN X102 hx rfl rfl (hb hby d17_21) 22 rfl ?_
      refine g_clone X102 hx hZ hown (wd hw 104 rfl) (wd hw 105 rfl) (wd hw 109 rfl) (wd hw 107 rfl) (wd hw 108 rfl) (wd hw 110 rfl) e104 A_a (raw_fits [c0, c1]) E_a (by rw [hml]; rfl) 0 (Nat.le_of_eq rfl) (by decide) (by decide) 2 (Nat.le_of_eq rfl) (by decide) (by decide) (hb hby d17_22) 25 rfl (fun T106 h107 b108 X109 e110 g111 E112 A113 E114 => ?_)
      have ne115 : a ≠ b108 := Nat.ne_of_lt (Nat.lt_of_lt_of_eq A_a.lt g111.symm)
      have F116 := A_a.ext E112
      have F117 := E_a.ext E112
      have sz118 : n0 ≤ b108 := Nat.le_trans Z0 (Nat.le_of_eq g111.symm)
      have szh119 : n0 ≤ h107.size := Nat.le_trans Z0 E112.1
      have szk120 : h0.size ≤ b108 := Nat.le_trans (Keep.refl h0 []).1 (Nat.le_of_eq g111.symm)
      have K121 := (Keep.refl h0 []).ext E112
      show Go p_ e_ below _ T106 (mkF m_ 25 #[.val (.int (0 : Int32)), .val (.ref a), .val (.int (1 : Int32)), .unset, .unset, .unset, .unset, .unset, .unset] [(.ref b108)])
      refine g_checkcast X109 hx hZ hown (wd hw 111 rfl) (Ins.self E114) e110 (hb hby d17_25) 28 rfl (fun T122 X123 e124 => ?_)
      show Go p_ e_ below _ T122 (mkF m_ 28 #[.val (.int (0 : Int32)), .val (.ref a), .val (.int (1 : Int32)), .unset, .unset, .unset, .unset, .unset, .unset] [(.ref b108)])
      exact g_reta X123 hx rfl rfl hret hlk (by decide) (by decide) (hb hby d17_28) (by rw [e124]; exact ⟨b108, rfl, N0, K121, szk120, (AV.cast A113 (by rw [en_pp k0 k1])), E114⟩)
  · exact absurd q101 (by decide)
theorem ef19_pm (m_ : MethodId) (a : Addr)  : entryFrame m_ #[(.ref a), (.int (0 : Int32)), (.int (2 : Int32))] 5 = mkF m_ 0 #[.val (.ref a), .val (.int (0 : Int32)), .val (.int (2 : Int32)), .unset, .unset] [] := by first | (simp [entryFrame, mkF, argsToLocals, Value.category]; done) | rfl
set_option maxRecDepth 65536 in
set_option maxHeartbeats 40000000 in
theorem co19_pm (l : Launch) (Z : State) (a0 : Array Value) (hw : ∀ d ∈ tables_1, d.before a0 Z = true) (a : Addr) (c0 : Int32) (c1 : Int32) (h0 : Heap) (A_a : AV Z h0 a .byte [(.int (byt c0)), (.int (byt c1))]) (s0 : ¬ byt c0 < (0 : Int32)) (s1 : byt c1 < (0 : Int32)) : Co l (⟨"java/lang/StringCoding", "countPositives", "([BII)I"⟩ : MethodName) jdk_123_method_3_code 5 (some .int) [] ({ frames := 0, cells := 0, slots := 0, locals := 0 } : Room) Z h0 #[(.ref a), (.int (0 : Int32)), (.int (2 : Int32))] (Pu h0 (some (.int ((1 : Int32) )))) := by
  refine Co.of (plainFor_of_name pn_2) ?_
  intro p_ e_ s_ m_ below meth c_ T0 X0 hx hby hml hown hnm hret hlk hZ eq0
  refine Go.cast (ef19_pm m_ a ) ?_
  refine g_iloadN X0 hx rfl (hb hby d19_0) 1 rfl ?_
  refine g_iloadN X0 hx rfl (hb hby d19_1) 2 rfl ?_
  refine g_iadd X0 hx (hb hby d19_2) 3 rfl ?_
  show Go p_ e_ below _ T0 (mkF m_ 3 #[.val (.ref a), .val (.int (0 : Int32)), .val (.int (2 : Int32)), .unset, .unset] [(.int (2 : Int32))])
  refine g_istoreN X0 hx #[.val (.ref a), .val (.int (0 : Int32)), .val (.int (2 : Int32)), .val (.int (2 : Int32)), .unset] rfl (hb hby d19_3) 4 rfl ?_
  refine g_iloadN X0 hx rfl (hb hby d19_4) 5 rfl ?_
  refine g_istore X0 hx #[.val (.ref a), .val (.int (0 : Int32)), .val (.int (2 : Int32)), .val (.int (2 : Int32)), .val (.int (0 : Int32))] rfl (hb hby d19_5) 7 rfl ?_
  refine g_iload X0 hx rfl (hb hby d19_7) 9 rfl ?_
  refine g_iloadN X0 hx rfl (hb hby d19_9) 10 rfl ?_
  refine g_icmp_ge X0 hx (hb hby d19_10) 31 13 (by decide) rfl rfl (fun q101 => ?_) (fun q101 => ?_)
  · exact absurd q101 (by decide)
  · refine g_aloadN X0 hx rfl rfl (hb hby d19_13) 14 rfl ?_
    refine g_iload X0 hx rfl (hb hby d19_14) 16 rfl ?_
    refine g_baload X0 hx hZ eq0 A_a (by decide) rfl (hb hby d19_16) 17 rfl ?_
    show Go p_ e_ below _ T0 (mkF m_ 17 #[.val (.ref a), .val (.int (0 : Int32)), .val (.int (2 : Int32)), .val (.int (2 : Int32)), .val (.int (0 : Int32))] [(.int (byt c0))])
    refine g_if_ge X0 hx (hb hby d19_17) 25 20 (by decide) rfl rfl (fun q102 => ?_) (fun q102 => ?_)
    · refine g_iinc X0 hx (1 : Int32) rfl rfl #[.val (.ref a), .val (.int (0 : Int32)), .val (.int (2 : Int32)), .val (.int (2 : Int32)), .val (.int (1 : Int32))] rfl (hb hby d19_25) 28 rfl ?_
      refine g_goto X0 hx (hb hby d19_28) 7 (by decide) rfl ?_
      refine g_iload X0 hx rfl (hb hby d19_7) 9 rfl ?_
      refine g_iloadN X0 hx rfl (hb hby d19_9) 10 rfl ?_
      refine g_icmp_ge X0 hx (hb hby d19_10) 31 13 (by decide) rfl rfl (fun q103 => ?_) (fun q103 => ?_)
      · exact absurd q103 (by decide)
      · refine g_aloadN X0 hx rfl rfl (hb hby d19_13) 14 rfl ?_
        refine g_iload X0 hx rfl (hb hby d19_14) 16 rfl ?_
        refine g_baload X0 hx hZ eq0 A_a (by decide) rfl (hb hby d19_16) 17 rfl ?_
        show Go p_ e_ below _ T0 (mkF m_ 17 #[.val (.ref a), .val (.int (0 : Int32)), .val (.int (2 : Int32)), .val (.int (2 : Int32)), .val (.int (1 : Int32))] [(.int (byt c1))])
        refine g_if_ge X0 hx (hb hby d19_17) 25 20 (by decide) rfl rfl (fun q104 => ?_) (fun q104 => ?_)
        · exact absurd s1 q104
        · refine g_iload X0 hx rfl (hb hby d19_20) 22 rfl ?_
          refine g_iloadN X0 hx rfl (hb hby d19_22) 23 rfl ?_
          refine g_isub X0 hx (hb hby d19_23) 24 rfl ?_
          show Go p_ e_ below _ T0 (mkF m_ 24 #[.val (.ref a), .val (.int (0 : Int32)), .val (.int (2 : Int32)), .val (.int (2 : Int32)), .val (.int (1 : Int32))] [(.int (1 : Int32))])
          exact g_reti X0 hx hret hlk (by decide) (by decide) (hb hby d19_24) ⟨congrArg (fun z => some (Value.int z)) rfl, eq0, rfl⟩
    · exact absurd q102 s0
theorem ef18_pm (m_ : MethodId) (a : Addr)  : entryFrame m_ #[(.ref a), (.int (0 : Int32)), (.int (2 : Int32))] 3 = mkF m_ 0 #[.val (.ref a), .val (.int (0 : Int32)), .val (.int (2 : Int32))] [] := by first | (simp [entryFrame, mkF, argsToLocals, Value.category]; done) | rfl
set_option maxRecDepth 65536 in
set_option maxHeartbeats 40000000 in
theorem co18_pm (l : Launch) (Z : State) (a0 : Array Value) (hw : ∀ d ∈ tables_1, d.before a0 Z = true) (a : Addr) (c0 : Int32) (c1 : Int32) (h0 : Heap) (A_a : AV Z h0 a .byte [(.int (byt c0)), (.int (byt c1))]) (s0 : ¬ byt c0 < (0 : Int32)) (s1 : byt c1 < (0 : Int32)) : Co l (⟨"java/lang/StringCoding", "hasNegatives", "([BII)Z"⟩ : MethodName) jdk_123_method_2_code 3 (some .boolean) [] ({ frames := 1, cells := 0, slots := 0, locals := 16 } : Room) Z h0 #[(.ref a), (.int (0 : Int32)), (.int (2 : Int32))] (Pu h0 (some (.int ((1 : Int32) )))) := by
  refine Co.of (plainFor_of_name pn_2) ?_
  intro p_ e_ s_ m_ below meth c_ T0 X0 hx hby hml hown hnm hret hlk hZ eq0
  refine Go.cast (ef18_pm m_ a ) ?_
  refine g_aloadN X0 hx rfl rfl (hb hby d18_0) 1 rfl ?_
  refine g_iloadN X0 hx rfl (hb hby d18_1) 2 rfl ?_
  refine g_iloadN X0 hx rfl (hb hby d18_2) 3 rfl ?_
  refine g_callS X0 hx hZ hown (wd hw 101 rfl) (wd hw 102 rfl) (wd hw 99 rfl) (wd hw 103 rfl) (by decide) eq0 [(.ref a), (.int (0 : Int32)), (.int (2 : Int32))] []  rfl (co19_pm l Z a0 hw a c0 c1 h0 A_a s0 s1) (lenOf pd_2 rfl) 0 (Nat.le_of_eq rfl) (by decide) (by decide) (by decide) (by decide) (by rw [hml]; rfl) (hb hby d18_3) 6 rfl (pu_cont fun T102 X101 e103 => ?_)
  show Go p_ e_ below _ T102 (mkF m_ 6 #[.val (.ref a), .val (.int (0 : Int32)), .val (.int (2 : Int32))] [(.int (1 : Int32))])
  refine g_iloadN X101 hx rfl (hb hby d18_6) 7 rfl ?_
  refine g_icmp_eq X101 hx (hb hby d18_7) 14 10 (by decide) rfl rfl (fun q104 => ?_) (fun q104 => ?_)
  · exact absurd q104 (by decide)
  · refine g_iconst X101 hx (1 : Int32) rfl (hb hby d18_10) 11 rfl ?_
    refine g_goto X101 hx (hb hby d18_11) 15 (by decide) rfl ?_
    exact g_retz X101 hx hret hlk (by decide) (by decide) (hb hby d18_15) ⟨congrArg (fun z => some (Value.int z)) (by decide), e103, rfl⟩
def Q17_pm (Z : State) (a : Addr) (c0 : Int32) (c1 : Int32) (h0 : Heap) (n0 : Nat) (v : Option Value) (h : Heap) (L : List Loc) : Prop := ∃ d, v = some (.ref d) ∧ Fr n0 L ∧ Keep h0 h [] ∧ h0.size ≤ d ∧ AV Z h d .byte (enc [c0, c1]) ∧ Exa Z h d "[B"
theorem ef17_pm (m_ : MethodId) (a : Addr)  : entryFrame m_ #[(.int (0 : Int32)), (.ref a), (.int (1 : Int32))] 9 = mkF m_ 0 #[.val (.int (0 : Int32)), .val (.ref a), .val (.int (1 : Int32)), .unset, .unset, .unset, .unset, .unset, .unset] [] := by first | (simp [entryFrame, mkF, argsToLocals, Value.category]; done) | rfl
theorem d17_109 : decode jdk_42_method_46_code 109 = .ok (.aload 4, 2) := by decide +kernel
theorem d17_111 : decode jdk_42_method_46_code 111 = .ok (.iload_n 3, 1) := by decide +kernel
theorem d17_112 : decode jdk_42_method_46_code 112 = .ok (.iinc 3 1, 3) := by decide +kernel
theorem d17_115 : decode jdk_42_method_46_code 115 = .ok (.iload 8, 2) := by decide +kernel
theorem d17_117 : decode jdk_42_method_46_code 117 = .ok (.bastore, 1) := by decide +kernel
theorem d17_134 : decode jdk_42_method_46_code 134 = .ok (.aload 4, 2) := by decide +kernel
theorem d17_136 : decode jdk_42_method_46_code 136 = .ok (.iload_n 3, 1) := by decide +kernel
theorem pd_5 : parseMethodDescriptor "([BI)[B" = some ⟨[(.array .byte), .int], some (.array .byte)⟩ := by decide +kernel
theorem d17_137 : decode jdk_42_method_46_code 137 = .ok (.invokestatic 102, 3) := by decide +kernel
theorem d17_140 : decode jdk_42_method_46_code 140 = .ok (.areturn, 1) := by decide +kernel
set_option maxRecDepth 65536 in
set_option maxHeartbeats 40000000 in
theorem co17_pm (l : Launch) (Z : State) (a0 : Array Value) (hw : ∀ d ∈ tables_1, d.before a0 Z = true) (a : Addr) (c0 : Int32) (c1 : Int32) (h0 : Heap) (n0 : Nat) (Z0 : n0 ≤ h0.size)   (A_a : AV Z h0 a .byte [(.int (byt c0)), (.int (byt c1))]) (E_a : Exa Z h0 a "[B") (s0 : ¬ byt c0 < (0 : Int32)) (s1 : byt c1 < (0 : Int32)) (hc0 : Ch c0) (hc1 : Ch c1) (k0 : c0 < (128 : Int32)) (k1 : ¬ c1 < (128 : Int32)) : Co l (⟨"java/lang/String", "encodeUTF8", "(B[BZ)[B"⟩ : MethodName) jdk_42_method_46_code 9 (some (.array .byte)) [] ({ frames := 2, cells := 2, slots := 7, locals := 54 } : Room) Z h0 #[(.int (0 : Int32)), (.ref a), (.int (1 : Int32))] (Q17_pm Z a c0 c1 h0 n0) := by
  refine Co.of (plainFor_of_name pn_3) ?_
  intro p_ e_ s_ m_ below meth c_ T0 X0 hx hby hml hown hnm hret hlk hZ eq0
  have N0 := Fr.nil n0
  refine Go.cast (ef17_pm m_ a ) ?_
  refine g_iloadN X0 hx rfl (hb hby d17_0) 1 rfl ?_
  refine g_iconst X0 hx (1 : Int32) rfl (hb hby d17_1) 2 rfl ?_
  refine g_icmp_ne X0 hx (hb hby d17_2) 11 5 (by decide) rfl rfl (fun q101 => ?_) (fun q101 => ?_)
  · refine g_aloadN X0 hx rfl rfl (hb hby d17_11) 12 rfl ?_
    refine g_iconst X0 hx (0 : Int32) rfl (hb hby d17_12) 13 rfl ?_
    refine g_aloadN X0 hx rfl rfl (hb hby d17_13) 14 rfl ?_
    refine g_arraylength X0 hx hZ eq0 A_a (2 : Int32) rfl (hb hby d17_14) 15 rfl ?_
    refine g_callS X0 hx hZ hown (wd hw 97 rfl) (wd hw 98 rfl) (wd hw 99 rfl) (wd hw 100 rfl) (by decide) eq0 [(.ref a), (.int (0 : Int32)), (.int (2 : Int32))] []  rfl (co18_pm l Z a0 hw a c0 c1 h0 A_a s0 s1) (lenOf pd_3 rfl) 0 (Nat.le_of_eq rfl) (by decide) (by decide) (by decide) (by decide) (by rw [hml]; rfl) (hb hby d17_15) 18 rfl (pu_cont fun T103 X102 e104 => ?_)
    show Go p_ e_ below _ T103 (mkF m_ 18 #[.val (.int (0 : Int32)), .val (.ref a), .val (.int (1 : Int32)), .unset, .unset, .unset, .unset, .unset, .unset] [(.int (1 : Int32))])
    refine g_if_ne X102 hx (hb hby d17_18) 29 21 (by decide) rfl rfl (fun q105 => ?_) (fun q105 => ?_)
    · refine g_iconst X102 hx (0 : Int32) rfl (hb hby d17_29) 30 rfl ?_
      refine g_istoreN X102 hx #[.val (.int (0 : Int32)), .val (.ref a), .val (.int (1 : Int32)), .val (.int (0 : Int32)), .unset, .unset, .unset, .unset, .unset] rfl (hb hby d17_30) 31 rfl ?_
      refine g_aloadN X102 hx rfl rfl (hb hby d17_31) 32 rfl ?_
      refine g_arraylength X102 hx hZ e104 A_a (2 : Int32) rfl (hb hby d17_32) 33 rfl ?_
      refine g_callS X102 hx hZ hown (wd hw 123 rfl) (wd hw 124 rfl) (wd hw 64 rfl) (wd hw 125 rfl) (by decide) e104 [(.int (2 : Int32))] [] rfl (co23_2 l Z a0 hw h0 n0 Z0) (lenOf pd_4 rfl) 0 (Nat.le_of_eq rfl) (by decide) (by decide) (by decide) (by decide) (by rw [hml]; rfl) (hb hby d17_33) 36 rfl (fun r106 T107 L108 X109 Q110 => ?_)
      obtain ⟨h111, e112⟩ : ∃ h, T107.heap = h := ⟨_, rfl⟩
      rw [e112] at Q110
      obtain ⟨b113, rfl, n114, K115, g116, A117, E118⟩ := Q110
      have N119 := Fr.app N0 n114
      have ne120 : a ≠ b113 := Nat.ne_of_lt (Nat.lt_of_lt_of_le A_a.lt g116)
      have sz121 : n0 ≤ b113 := Nat.le_trans Z0 g116
      have szk122 : h0.size ≤ b113 := Nat.le_trans (Keep.refl h0 []).1 g116
      have F123 := A_a.keep K115 nin0
      have F124 := E_a.keep K115
      have szh125 : n0 ≤ h111.size := Nat.le_trans Z0 K115.1
      have K126 := (Keep.refl h0 []).trans K115 all0
      show Go p_ e_ below _ T107 (mkF m_ 36 #[.val (.int (0 : Int32)), .val (.ref a), .val (.int (1 : Int32)), .val (.int (0 : Int32)), .unset, .unset, .unset, .unset, .unset] [(.ref b113)])
      refine g_astore X109 hx #[.val (.int (0 : Int32)), .val (.ref a), .val (.int (1 : Int32)), .val (.int (0 : Int32)), .val (.ref b113), .unset, .unset, .unset, .unset] rfl rfl (hb hby d17_36) 38 rfl ?_
      refine g_aloadN X109 hx rfl rfl (hb hby d17_38) 39 rfl ?_
      refine g_astore X109 hx #[.val (.int (0 : Int32)), .val (.ref a), .val (.int (1 : Int32)), .val (.int (0 : Int32)), .val (.ref b113), .val (.ref a), .unset, .unset, .unset] rfl rfl (hb hby d17_39) 41 rfl ?_
      refine g_aload X109 hx rfl rfl (hb hby d17_41) 43 rfl ?_
      refine g_arraylength X109 hx hZ e112 F123 (2 : Int32) rfl (hb hby d17_43) 44 rfl ?_
      refine g_istore X109 hx #[.val (.int (0 : Int32)), .val (.ref a), .val (.int (1 : Int32)), .val (.int (0 : Int32)), .val (.ref b113), .val (.ref a), .val (.int (2 : Int32)), .unset, .unset] rfl (hb hby d17_44) 46 rfl ?_
      refine g_iconst X109 hx (0 : Int32) rfl (hb hby d17_46) 47 rfl ?_
      refine g_istore X109 hx #[.val (.int (0 : Int32)), .val (.ref a), .val (.int (1 : Int32)), .val (.int (0 : Int32)), .val (.ref b113), .val (.ref a), .val (.int (2 : Int32)), .val (.int (0 : Int32)), .unset] rfl (hb hby d17_47) 49 rfl ?_
      refine g_iload X109 hx rfl (hb hby d17_49) 51 rfl ?_
      refine g_iload X109 hx rfl (hb hby d17_51) 53 rfl ?_
      refine g_icmp_ge X109 hx (hb hby d17_53) 124 56 (by decide) rfl rfl (fun q127 => ?_) (fun q127 => ?_)
      · exact absurd q127 (by decide)
      · refine g_aload X109 hx rfl rfl (hb hby d17_56) 58 rfl ?_
        refine g_iload X109 hx rfl (hb hby d17_58) 60 rfl ?_
        refine g_baload X109 hx hZ e112 F123 (by decide) rfl (hb hby d17_60) 61 rfl ?_
        show Go p_ e_ below _ T107 (mkF m_ 61 #[.val (.int (0 : Int32)), .val (.ref a), .val (.int (1 : Int32)), .val (.int (0 : Int32)), .val (.ref b113), .val (.ref a), .val (.int (2 : Int32)), .val (.int (0 : Int32)), .unset] [(.int (byt c0))])
        refine g_istore X109 hx #[.val (.int (0 : Int32)), .val (.ref a), .val (.int (1 : Int32)), .val (.int (0 : Int32)), .val (.ref b113), .val (.ref a), .val (.int (2 : Int32)), .val (.int (0 : Int32)), .val (.int (byt c0))] rfl (hb hby d17_61) 63 rfl ?_
        refine g_iload X109 hx rfl (hb hby d17_63) 65 rfl ?_
        refine g_if_ge X109 hx (hb hby d17_65) 109 68 (by decide) rfl rfl (fun q128 => ?_) (fun q128 => ?_)
        · refine g_aload X109 hx rfl rfl (hb hby d17_109) 111 rfl ?_
          refine g_iloadN X109 hx rfl (hb hby d17_111) 112 rfl ?_
          refine g_iinc X109 hx (1 : Int32) rfl rfl #[.val (.int (0 : Int32)), .val (.ref a), .val (.int (1 : Int32)), .val (.int (1 : Int32)), .val (.ref b113), .val (.ref a), .val (.int (2 : Int32)), .val (.int (0 : Int32)), .val (.int (byt c0))] rfl (hb hby d17_112) 115 rfl ?_
          refine g_iload X109 hx rfl (hb hby d17_115) 117 rfl ?_
          refine g_bastore X109 hx hZ e112 A117 (by decide) (Nat.le_of_ble_eq_true rfl) (hb hby d17_117) 118 rfl (fun T129 h130 X131 e132 W133 A134 => ?_)
          have A135 : AV Z h130 b113 .byte [(.int (byt c0).toInt8.toInt32), (.int (0 : Int32)), (.int (0 : Int32)), (.int (0 : Int32))] := A134
          have F136 := F123.other W133 ne120
          have F137 := F124.wr W133
          have F138 := A135
          have F139 := E118.wr W133
          have N140 := Fr.snoc X131 N119 sz121
          have szh141 : n0 ≤ h130.size := Nat.le_trans szh125 (Nat.le_of_eq W133.size.symm)
          have K142 := K126.wr W133 (Or.inr szk122)
          show Go p_ e_ below _ T129 (mkF m_ 118 #[.val (.int (0 : Int32)), .val (.ref a), .val (.int (1 : Int32)), .val (.int (1 : Int32)), .val (.ref b113), .val (.ref a), .val (.int (2 : Int32)), .val (.int (0 : Int32)), .val (.int (byt c0))] [])
          refine g_iinc X131 hx (1 : Int32) rfl rfl #[.val (.int (0 : Int32)), .val (.ref a), .val (.int (1 : Int32)), .val (.int (1 : Int32)), .val (.ref b113), .val (.ref a), .val (.int (2 : Int32)), .val (.int (1 : Int32)), .val (.int (byt c0))] rfl (hb hby d17_118) 121 rfl ?_
          refine g_goto X131 hx (hb hby d17_121) 49 (by decide) rfl ?_
          refine g_iload X131 hx rfl (hb hby d17_49) 51 rfl ?_
          refine g_iload X131 hx rfl (hb hby d17_51) 53 rfl ?_
          refine g_icmp_ge X131 hx (hb hby d17_53) 124 56 (by decide) rfl rfl (fun q143 => ?_) (fun q143 => ?_)
          · exact absurd q143 (by decide)
          · refine g_aload X131 hx rfl rfl (hb hby d17_56) 58 rfl ?_
            refine g_iload X131 hx rfl (hb hby d17_58) 60 rfl ?_
            refine g_baload X131 hx hZ e132 F136 (by decide) rfl (hb hby d17_60) 61 rfl ?_
            show Go p_ e_ below _ T129 (mkF m_ 61 #[.val (.int (0 : Int32)), .val (.ref a), .val (.int (1 : Int32)), .val (.int (1 : Int32)), .val (.ref b113), .val (.ref a), .val (.int (2 : Int32)), .val (.int (1 : Int32)), .val (.int (byt c0))] [(.int (byt c1))])
            refine g_istore X131 hx #[.val (.int (0 : Int32)), .val (.ref a), .val (.int (1 : Int32)), .val (.int (1 : Int32)), .val (.ref b113), .val (.ref a), .val (.int (2 : Int32)), .val (.int (1 : Int32)), .val (.int (byt c1))] rfl (hb hby d17_61) 63 rfl ?_
            refine g_iload X131 hx rfl (hb hby d17_63) 65 rfl ?_
            refine g_if_ge X131 hx (hb hby d17_65) 109 68 (by decide) rfl rfl (fun q144 => ?_) (fun q144 => ?_)
            · exact absurd s1 q144
            · refine g_aload X131 hx rfl rfl (hb hby d17_68) 70 rfl ?_
              refine g_iloadN X131 hx rfl (hb hby d17_70) 71 rfl ?_
              refine g_iinc X131 hx (1 : Int32) rfl rfl #[.val (.int (0 : Int32)), .val (.ref a), .val (.int (1 : Int32)), .val (.int (2 : Int32)), .val (.ref b113), .val (.ref a), .val (.int (2 : Int32)), .val (.int (1 : Int32)), .val (.int (byt c1))] rfl (hb hby d17_71) 74 rfl ?_
              refine g_sipush X131 hx (192 : Int32) rfl (hb hby d17_74) 77 rfl ?_
              refine g_iload X131 hx rfl (hb hby d17_77) 79 rfl ?_
              refine g_sipush X131 hx (255 : Int32) rfl (hb hby d17_79) 82 rfl ?_
              refine g_iand X131 hx (hb hby d17_82) 83 rfl ?_
              refine g_bipush X131 hx (6 : Int32) rfl (hb hby d17_83) 85 rfl ?_
              refine g_ishr X131 hx (hb hby d17_85) 86 rfl ?_
              refine g_ior X131 hx (hb hby d17_86) 87 rfl ?_
              refine g_i2b X131 hx (hb hby d17_87) 88 rfl ?_
              refine g_bastore X131 hx hZ e132 A135 (by decide) (Nat.le_of_ble_eq_true rfl) (hb hby d17_88) 89 rfl (fun T145 h146 X147 e148 W149 A150 => ?_)
              have A151 : AV Z h146 b113 .byte [(.int (byt c0).toInt8.toInt32), (.int ((192 : Int32) ||| (((byt c1) &&& (255 : Int32)) >>> ((6 : Int32) &&& 31))).toInt8.toInt32.toInt8.toInt32), (.int (0 : Int32)), (.int (0 : Int32))] := A150
              have F152 := F136.other W149 ne120
              have F153 := F137.wr W149
              have F154 := A151
              have F155 := F139.wr W149
              have N156 := Fr.snoc X147 N140 sz121
              have szh157 : n0 ≤ h146.size := Nat.le_trans szh141 (Nat.le_of_eq W149.size.symm)
              have K158 := K142.wr W149 (Or.inr szk122)
              show Go p_ e_ below _ T145 (mkF m_ 89 #[.val (.int (0 : Int32)), .val (.ref a), .val (.int (1 : Int32)), .val (.int (2 : Int32)), .val (.ref b113), .val (.ref a), .val (.int (2 : Int32)), .val (.int (1 : Int32)), .val (.int (byt c1))] [])
              refine g_aload X147 hx rfl rfl (hb hby d17_89) 91 rfl ?_
              refine g_iloadN X147 hx rfl (hb hby d17_91) 92 rfl ?_
              refine g_iinc X147 hx (1 : Int32) rfl rfl #[.val (.int (0 : Int32)), .val (.ref a), .val (.int (1 : Int32)), .val (.int (3 : Int32)), .val (.ref b113), .val (.ref a), .val (.int (2 : Int32)), .val (.int (1 : Int32)), .val (.int (byt c1))] rfl (hb hby d17_92) 95 rfl ?_
              refine g_sipush X147 hx (128 : Int32) rfl (hb hby d17_95) 98 rfl ?_
              refine g_iload X147 hx rfl (hb hby d17_98) 100 rfl ?_
              refine g_bipush X147 hx (63 : Int32) rfl (hb hby d17_100) 102 rfl ?_
              refine g_iand X147 hx (hb hby d17_102) 103 rfl ?_
              refine g_ior X147 hx (hb hby d17_103) 104 rfl ?_
              refine g_i2b X147 hx (hb hby d17_104) 105 rfl ?_
              refine g_bastore X147 hx hZ e148 A151 (by decide) (Nat.le_of_ble_eq_true rfl) (hb hby d17_105) 106 rfl (fun T159 h160 X161 e162 W163 A164 => ?_)
              have A165 : AV Z h160 b113 .byte [(.int (byt c0).toInt8.toInt32), (.int ((192 : Int32) ||| (((byt c1) &&& (255 : Int32)) >>> ((6 : Int32) &&& 31))).toInt8.toInt32.toInt8.toInt32), (.int ((128 : Int32) ||| ((byt c1) &&& (63 : Int32))).toInt8.toInt32.toInt8.toInt32), (.int (0 : Int32))] := A164
              have F166 := F152.other W163 ne120
              have F167 := F153.wr W163
              have F168 := A165
              have F169 := F155.wr W163
              have N170 := Fr.snoc X161 N156 sz121
              have szh171 : n0 ≤ h160.size := Nat.le_trans szh157 (Nat.le_of_eq W163.size.symm)
              have K172 := K158.wr W163 (Or.inr szk122)
              show Go p_ e_ below _ T159 (mkF m_ 106 #[.val (.int (0 : Int32)), .val (.ref a), .val (.int (1 : Int32)), .val (.int (3 : Int32)), .val (.ref b113), .val (.ref a), .val (.int (2 : Int32)), .val (.int (1 : Int32)), .val (.int (byt c1))] [])
              refine g_goto X161 hx (hb hby d17_106) 118 (by decide) rfl ?_
              refine g_iinc X161 hx (1 : Int32) rfl rfl #[.val (.int (0 : Int32)), .val (.ref a), .val (.int (1 : Int32)), .val (.int (3 : Int32)), .val (.ref b113), .val (.ref a), .val (.int (2 : Int32)), .val (.int (2 : Int32)), .val (.int (byt c1))] rfl (hb hby d17_118) 121 rfl ?_
              refine g_goto X161 hx (hb hby d17_121) 49 (by decide) rfl ?_
              refine g_iload X161 hx rfl (hb hby d17_49) 51 rfl ?_
              refine g_iload X161 hx rfl (hb hby d17_51) 53 rfl ?_
              refine g_icmp_ge X161 hx (hb hby d17_53) 124 56 (by decide) rfl rfl (fun q173 => ?_) (fun q173 => ?_)
              · refine g_iloadN X161 hx rfl (hb hby d17_124) 125 rfl ?_
                refine g_aload X161 hx rfl rfl (hb hby d17_125) 127 rfl ?_
                refine g_arraylength X161 hx hZ e162 A165 (4 : Int32) rfl (hb hby d17_127) 128 rfl ?_
                refine g_icmp_ne X161 hx (hb hby d17_128) 134 131 (by decide) rfl rfl (fun q174 => ?_) (fun q174 => ?_)
                · refine g_aload X161 hx rfl rfl (hb hby d17_134) 136 rfl ?_
                  refine g_iloadN X161 hx rfl (hb hby d17_136) 137 rfl ?_
                  refine g_callS X161 hx hZ hown (wd hw 130 rfl) (wd hw 131 rfl) (wd hw 132 rfl) (wd hw 133 rfl) (by decide) e162 [(.ref b113), (.int (3 : Int32))] [] rfl (co25 l Z a0 hw b113 (.int (byt c0).toInt8.toInt32) (.int ((192 : Int32) ||| (((byt c1) &&& (255 : Int32)) >>> ((6 : Int32) &&& 31))).toInt8.toInt32.toInt8.toInt32) (.int ((128 : Int32) ||| ((byt c1) &&& (63 : Int32))).toInt8.toInt32.toInt8.toInt32) (.int (0 : Int32)) h160 n0 szh171 A165 (f_aS (fit_n8 _) (f_aS (fit_n8 _) (f_aS (fit_n8 _) (f_aS fit_0 f_a0))))) (lenOf pd_5 rfl) 0 (Nat.le_of_eq rfl) (by decide) (by decide) (by decide) (by decide) (by rw [hml]; rfl) (hb hby d17_137) 140 rfl (fun r175 T176 L177 X178 Q179 => ?_)
                  obtain ⟨h180, e181⟩ : ∃ h, T176.heap = h := ⟨_, rfl⟩
                  rw [e181] at Q179
                  obtain ⟨b182, rfl, n183, K184, g185, A186, E187⟩ := Q179
                  have N188 := Fr.app N170 n183
                  have ne189 : a ≠ b182 := Nat.ne_of_lt (Nat.lt_of_lt_of_le F166.lt g185)
                  have ne190 : b113 ≠ b182 := Nat.ne_of_lt (Nat.lt_of_lt_of_le A165.lt g185)
                  have sz191 : n0 ≤ b182 := Nat.le_trans szh171 g185
                  have szk192 : h0.size ≤ b182 := Nat.le_trans K172.1 g185
                  have F193 := F166.keep K184 nin0
                  have F194 := F167.keep K184
                  have F195 := A165.keep K184 nin0
                  have F196 := F169.keep K184
                  have szh197 : n0 ≤ h180.size := Nat.le_trans szh171 K184.1
                  have K198 := K172.trans K184 all0
                  show Go p_ e_ below _ T176 (mkF m_ 140 #[.val (.int (0 : Int32)), .val (.ref a), .val (.int (1 : Int32)), .val (.int (3 : Int32)), .val (.ref b113), .val (.ref a), .val (.int (2 : Int32)), .val (.int (2 : Int32)), .val (.int (byt c1))] [(.ref b182)])
                  exact g_reta X178 hx rfl rfl hret hlk (by decide) (by decide) (hb hby d17_140) (by rw [e181]; exact ⟨b182, rfl, N188, K198, szk192, (AV.cast A186 (by rw [en_pm k0 k1, k_w2 hc0, k_w0 hc1, k_w1 hc1])), E187⟩)
                · exact absurd q174 (by decide)
              · exact absurd q173 (by decide)
        · exact absurd q128 s0
    · exact absurd q105 (by decide)
  · exact absurd q101 (by decide)
theorem ef19_mp (m_ : MethodId) (a : Addr)  : entryFrame m_ #[(.ref a), (.int (0 : Int32)), (.int (2 : Int32))] 5 = mkF m_ 0 #[.val (.ref a), .val (.int (0 : Int32)), .val (.int (2 : Int32)), .unset, .unset] [] := by first | (simp [entryFrame, mkF, argsToLocals, Value.category]; done) | rfl
set_option maxRecDepth 65536 in
set_option maxHeartbeats 40000000 in
theorem co19_mp (l : Launch) (Z : State) (a0 : Array Value) (hw : ∀ d ∈ tables_1, d.before a0 Z = true) (a : Addr) (c0 : Int32) (c1 : Int32) (h0 : Heap) (A_a : AV Z h0 a .byte [(.int (byt c0)), (.int (byt c1))]) (s0 : byt c0 < (0 : Int32)) (s1 : ¬ byt c1 < (0 : Int32)) : Co l (⟨"java/lang/StringCoding", "countPositives", "([BII)I"⟩ : MethodName) jdk_123_method_3_code 5 (some .int) [] ({ frames := 0, cells := 0, slots := 0, locals := 0 } : Room) Z h0 #[(.ref a), (.int (0 : Int32)), (.int (2 : Int32))] (Pu h0 (some (.int ((0 : Int32) )))) := by
  refine Co.of (plainFor_of_name pn_2) ?_
  intro p_ e_ s_ m_ below meth c_ T0 X0 hx hby hml hown hnm hret hlk hZ eq0
  refine Go.cast (ef19_mp m_ a ) ?_
  refine g_iloadN X0 hx rfl (hb hby d19_0) 1 rfl ?_
  refine g_iloadN X0 hx rfl (hb hby d19_1) 2 rfl ?_
  refine g_iadd X0 hx (hb hby d19_2) 3 rfl ?_
  show Go p_ e_ below _ T0 (mkF m_ 3 #[.val (.ref a), .val (.int (0 : Int32)), .val (.int (2 : Int32)), .unset, .unset] [(.int (2 : Int32))])
  refine g_istoreN X0 hx #[.val (.ref a), .val (.int (0 : Int32)), .val (.int (2 : Int32)), .val (.int (2 : Int32)), .unset] rfl (hb hby d19_3) 4 rfl ?_
  refine g_iloadN X0 hx rfl (hb hby d19_4) 5 rfl ?_
  refine g_istore X0 hx #[.val (.ref a), .val (.int (0 : Int32)), .val (.int (2 : Int32)), .val (.int (2 : Int32)), .val (.int (0 : Int32))] rfl (hb hby d19_5) 7 rfl ?_
  refine g_iload X0 hx rfl (hb hby d19_7) 9 rfl ?_
  refine g_iloadN X0 hx rfl (hb hby d19_9) 10 rfl ?_
  refine g_icmp_ge X0 hx (hb hby d19_10) 31 13 (by decide) rfl rfl (fun q101 => ?_) (fun q101 => ?_)
  · exact absurd q101 (by decide)
  · refine g_aloadN X0 hx rfl rfl (hb hby d19_13) 14 rfl ?_
    refine g_iload X0 hx rfl (hb hby d19_14) 16 rfl ?_
    refine g_baload X0 hx hZ eq0 A_a (by decide) rfl (hb hby d19_16) 17 rfl ?_
    show Go p_ e_ below _ T0 (mkF m_ 17 #[.val (.ref a), .val (.int (0 : Int32)), .val (.int (2 : Int32)), .val (.int (2 : Int32)), .val (.int (0 : Int32))] [(.int (byt c0))])
    refine g_if_ge X0 hx (hb hby d19_17) 25 20 (by decide) rfl rfl (fun q102 => ?_) (fun q102 => ?_)
    · exact absurd s0 q102
    · refine g_iload X0 hx rfl (hb hby d19_20) 22 rfl ?_
      refine g_iloadN X0 hx rfl (hb hby d19_22) 23 rfl ?_
      refine g_isub X0 hx (hb hby d19_23) 24 rfl ?_
      show Go p_ e_ below _ T0 (mkF m_ 24 #[.val (.ref a), .val (.int (0 : Int32)), .val (.int (2 : Int32)), .val (.int (2 : Int32)), .val (.int (0 : Int32))] [(.int (0 : Int32))])
      exact g_reti X0 hx hret hlk (by decide) (by decide) (hb hby d19_24) ⟨congrArg (fun z => some (Value.int z)) rfl, eq0, rfl⟩
theorem ef18_mp (m_ : MethodId) (a : Addr)  : entryFrame m_ #[(.ref a), (.int (0 : Int32)), (.int (2 : Int32))] 3 = mkF m_ 0 #[.val (.ref a), .val (.int (0 : Int32)), .val (.int (2 : Int32))] [] := by first | (simp [entryFrame, mkF, argsToLocals, Value.category]; done) | rfl
set_option maxRecDepth 65536 in
set_option maxHeartbeats 40000000 in
theorem co18_mp (l : Launch) (Z : State) (a0 : Array Value) (hw : ∀ d ∈ tables_1, d.before a0 Z = true) (a : Addr) (c0 : Int32) (c1 : Int32) (h0 : Heap) (A_a : AV Z h0 a .byte [(.int (byt c0)), (.int (byt c1))]) (s0 : byt c0 < (0 : Int32)) (s1 : ¬ byt c1 < (0 : Int32)) : Co l (⟨"java/lang/StringCoding", "hasNegatives", "([BII)Z"⟩ : MethodName) jdk_123_method_2_code 3 (some .boolean) [] ({ frames := 1, cells := 0, slots := 0, locals := 16 } : Room) Z h0 #[(.ref a), (.int (0 : Int32)), (.int (2 : Int32))] (Pu h0 (some (.int ((1 : Int32) )))) := by
  refine Co.of (plainFor_of_name pn_2) ?_
  intro p_ e_ s_ m_ below meth c_ T0 X0 hx hby hml hown hnm hret hlk hZ eq0
  refine Go.cast (ef18_mp m_ a ) ?_
  refine g_aloadN X0 hx rfl rfl (hb hby d18_0) 1 rfl ?_
  refine g_iloadN X0 hx rfl (hb hby d18_1) 2 rfl ?_
  refine g_iloadN X0 hx rfl (hb hby d18_2) 3 rfl ?_
  refine g_callS X0 hx hZ hown (wd hw 101 rfl) (wd hw 102 rfl) (wd hw 99 rfl) (wd hw 103 rfl) (by decide) eq0 [(.ref a), (.int (0 : Int32)), (.int (2 : Int32))] []  rfl (co19_mp l Z a0 hw a c0 c1 h0 A_a s0 s1) (lenOf pd_2 rfl) 0 (Nat.le_of_eq rfl) (by decide) (by decide) (by decide) (by decide) (by rw [hml]; rfl) (hb hby d18_3) 6 rfl (pu_cont fun T102 X101 e103 => ?_)
  show Go p_ e_ below _ T102 (mkF m_ 6 #[.val (.ref a), .val (.int (0 : Int32)), .val (.int (2 : Int32))] [(.int (0 : Int32))])
  refine g_iloadN X101 hx rfl (hb hby d18_6) 7 rfl ?_
  refine g_icmp_eq X101 hx (hb hby d18_7) 14 10 (by decide) rfl rfl (fun q104 => ?_) (fun q104 => ?_)
  · exact absurd q104 (by decide)
  · refine g_iconst X101 hx (1 : Int32) rfl (hb hby d18_10) 11 rfl ?_
    refine g_goto X101 hx (hb hby d18_11) 15 (by decide) rfl ?_
    exact g_retz X101 hx hret hlk (by decide) (by decide) (hb hby d18_15) ⟨congrArg (fun z => some (Value.int z)) (by decide), e103, rfl⟩
def Q17_mp (Z : State) (a : Addr) (c0 : Int32) (c1 : Int32) (h0 : Heap) (n0 : Nat) (v : Option Value) (h : Heap) (L : List Loc) : Prop := ∃ d, v = some (.ref d) ∧ Fr n0 L ∧ Keep h0 h [] ∧ h0.size ≤ d ∧ AV Z h d .byte (enc [c0, c1]) ∧ Exa Z h d "[B"
theorem ef17_mp (m_ : MethodId) (a : Addr)  : entryFrame m_ #[(.int (0 : Int32)), (.ref a), (.int (1 : Int32))] 9 = mkF m_ 0 #[.val (.int (0 : Int32)), .val (.ref a), .val (.int (1 : Int32)), .unset, .unset, .unset, .unset, .unset, .unset] [] := by first | (simp [entryFrame, mkF, argsToLocals, Value.category]; done) | rfl
set_option maxRecDepth 65536 in
set_option maxHeartbeats 40000000 in
theorem co17_mp (l : Launch) (Z : State) (a0 : Array Value) (hw : ∀ d ∈ tables_1, d.before a0 Z = true) (a : Addr) (c0 : Int32) (c1 : Int32) (h0 : Heap) (n0 : Nat) (Z0 : n0 ≤ h0.size)   (A_a : AV Z h0 a .byte [(.int (byt c0)), (.int (byt c1))]) (E_a : Exa Z h0 a "[B") (s0 : byt c0 < (0 : Int32)) (s1 : ¬ byt c1 < (0 : Int32)) (hc0 : Ch c0) (hc1 : Ch c1) (k0 : ¬ c0 < (128 : Int32)) (k1 : c1 < (128 : Int32)) : Co l (⟨"java/lang/String", "encodeUTF8", "(B[BZ)[B"⟩ : MethodName) jdk_42_method_46_code 9 (some (.array .byte)) [] ({ frames := 2, cells := 2, slots := 7, locals := 54 } : Room) Z h0 #[(.int (0 : Int32)), (.ref a), (.int (1 : Int32))] (Q17_mp Z a c0 c1 h0 n0) := by
  refine Co.of (plainFor_of_name pn_3) ?_
  intro p_ e_ s_ m_ below meth c_ T0 X0 hx hby hml hown hnm hret hlk hZ eq0
  have N0 := Fr.nil n0
  refine Go.cast (ef17_mp m_ a ) ?_
  refine g_iloadN X0 hx rfl (hb hby d17_0) 1 rfl ?_
  refine g_iconst X0 hx (1 : Int32) rfl (hb hby d17_1) 2 rfl ?_
  refine g_icmp_ne X0 hx (hb hby d17_2) 11 5 (by decide) rfl rfl (fun q101 => ?_) (fun q101 => ?_)
  · refine g_aloadN X0 hx rfl rfl (hb hby d17_11) 12 rfl ?_
    refine g_iconst X0 hx (0 : Int32) rfl (hb hby d17_12) 13 rfl ?_
    refine g_aloadN X0 hx rfl rfl (hb hby d17_13) 14 rfl ?_
    refine g_arraylength X0 hx hZ eq0 A_a (2 : Int32) rfl (hb hby d17_14) 15 rfl ?_
    refine g_callS X0 hx hZ hown (wd hw 97 rfl) (wd hw 98 rfl) (wd hw 99 rfl) (wd hw 100 rfl) (by decide) eq0 [(.ref a), (.int (0 : Int32)), (.int (2 : Int32))] []  rfl (co18_mp l Z a0 hw a c0 c1 h0 A_a s0 s1) (lenOf pd_3 rfl) 0 (Nat.le_of_eq rfl) (by decide) (by decide) (by decide) (by decide) (by rw [hml]; rfl) (hb hby d17_15) 18 rfl (pu_cont fun T103 X102 e104 => ?_)
    show Go p_ e_ below _ T103 (mkF m_ 18 #[.val (.int (0 : Int32)), .val (.ref a), .val (.int (1 : Int32)), .unset, .unset, .unset, .unset, .unset, .unset] [(.int (1 : Int32))])
    refine g_if_ne X102 hx (hb hby d17_18) 29 21 (by decide) rfl rfl (fun q105 => ?_) (fun q105 => ?_)
    · refine g_iconst X102 hx (0 : Int32) rfl (hb hby d17_29) 30 rfl ?_
      refine g_istoreN X102 hx #[.val (.int (0 : Int32)), .val (.ref a), .val (.int (1 : Int32)), .val (.int (0 : Int32)), .unset, .unset, .unset, .unset, .unset] rfl (hb hby d17_30) 31 rfl ?_
      refine g_aloadN X102 hx rfl rfl (hb hby d17_31) 32 rfl ?_
      refine g_arraylength X102 hx hZ e104 A_a (2 : Int32) rfl (hb hby d17_32) 33 rfl ?_
      refine g_callS X102 hx hZ hown (wd hw 123 rfl) (wd hw 124 rfl) (wd hw 64 rfl) (wd hw 125 rfl) (by decide) e104 [(.int (2 : Int32))] [] rfl (co23_2 l Z a0 hw h0 n0 Z0) (lenOf pd_4 rfl) 0 (Nat.le_of_eq rfl) (by decide) (by decide) (by decide) (by decide) (by rw [hml]; rfl) (hb hby d17_33) 36 rfl (fun r106 T107 L108 X109 Q110 => ?_)
      obtain ⟨h111, e112⟩ : ∃ h, T107.heap = h := ⟨_, rfl⟩
      rw [e112] at Q110
      obtain ⟨b113, rfl, n114, K115, g116, A117, E118⟩ := Q110
      have N119 := Fr.app N0 n114
      have ne120 : a ≠ b113 := Nat.ne_of_lt (Nat.lt_of_lt_of_le A_a.lt g116)
      have sz121 : n0 ≤ b113 := Nat.le_trans Z0 g116
      have szk122 : h0.size ≤ b113 := Nat.le_trans (Keep.refl h0 []).1 g116
      have F123 := A_a.keep K115 nin0
      have F124 := E_a.keep K115
      have szh125 : n0 ≤ h111.size := Nat.le_trans Z0 K115.1
      have K126 := (Keep.refl h0 []).trans K115 all0
      show Go p_ e_ below _ T107 (mkF m_ 36 #[.val (.int (0 : Int32)), .val (.ref a), .val (.int (1 : Int32)), .val (.int (0 : Int32)), .unset, .unset, .unset, .unset, .unset] [(.ref b113)])
      refine g_astore X109 hx #[.val (.int (0 : Int32)), .val (.ref a), .val (.int (1 : Int32)), .val (.int (0 : Int32)), .val (.ref b113), .unset, .unset, .unset, .unset] rfl rfl (hb hby d17_36) 38 rfl ?_
      refine g_aloadN X109 hx rfl rfl (hb hby d17_38) 39 rfl ?_
      refine g_astore X109 hx #[.val (.int (0 : Int32)), .val (.ref a), .val (.int (1 : Int32)), .val (.int (0 : Int32)), .val (.ref b113), .val (.ref a), .unset, .unset, .unset] rfl rfl (hb hby d17_39) 41 rfl ?_
      refine g_aload X109 hx rfl rfl (hb hby d17_41) 43 rfl ?_
      refine g_arraylength X109 hx hZ e112 F123 (2 : Int32) rfl (hb hby d17_43) 44 rfl ?_
      refine g_istore X109 hx #[.val (.int (0 : Int32)), .val (.ref a), .val (.int (1 : Int32)), .val (.int (0 : Int32)), .val (.ref b113), .val (.ref a), .val (.int (2 : Int32)), .unset, .unset] rfl (hb hby d17_44) 46 rfl ?_
      refine g_iconst X109 hx (0 : Int32) rfl (hb hby d17_46) 47 rfl ?_
      refine g_istore X109 hx #[.val (.int (0 : Int32)), .val (.ref a), .val (.int (1 : Int32)), .val (.int (0 : Int32)), .val (.ref b113), .val (.ref a), .val (.int (2 : Int32)), .val (.int (0 : Int32)), .unset] rfl (hb hby d17_47) 49 rfl ?_
      refine g_iload X109 hx rfl (hb hby d17_49) 51 rfl ?_
      refine g_iload X109 hx rfl (hb hby d17_51) 53 rfl ?_
      refine g_icmp_ge X109 hx (hb hby d17_53) 124 56 (by decide) rfl rfl (fun q127 => ?_) (fun q127 => ?_)
      · exact absurd q127 (by decide)
      · refine g_aload X109 hx rfl rfl (hb hby d17_56) 58 rfl ?_
        refine g_iload X109 hx rfl (hb hby d17_58) 60 rfl ?_
        refine g_baload X109 hx hZ e112 F123 (by decide) rfl (hb hby d17_60) 61 rfl ?_
        show Go p_ e_ below _ T107 (mkF m_ 61 #[.val (.int (0 : Int32)), .val (.ref a), .val (.int (1 : Int32)), .val (.int (0 : Int32)), .val (.ref b113), .val (.ref a), .val (.int (2 : Int32)), .val (.int (0 : Int32)), .unset] [(.int (byt c0))])
        refine g_istore X109 hx #[.val (.int (0 : Int32)), .val (.ref a), .val (.int (1 : Int32)), .val (.int (0 : Int32)), .val (.ref b113), .val (.ref a), .val (.int (2 : Int32)), .val (.int (0 : Int32)), .val (.int (byt c0))] rfl (hb hby d17_61) 63 rfl ?_
        refine g_iload X109 hx rfl (hb hby d17_63) 65 rfl ?_
        refine g_if_ge X109 hx (hb hby d17_65) 109 68 (by decide) rfl rfl (fun q128 => ?_) (fun q128 => ?_)
        · exact absurd s0 q128
        · refine g_aload X109 hx rfl rfl (hb hby d17_68) 70 rfl ?_
          refine g_iloadN X109 hx rfl (hb hby d17_70) 71 rfl ?_
          refine g_iinc X109 hx (1 : Int32) rfl rfl #[.val (.int (0 : Int32)), .val (.ref a), .val (.int (1 : Int32)), .val (.int (1 : Int32)), .val (.ref b113), .val (.ref a), .val (.int (2 : Int32)), .val (.int (0 : Int32)), .val (.int (byt c0))] rfl (hb hby d17_71) 74 rfl ?_
          refine g_sipush X109 hx (192 : Int32) rfl (hb hby d17_74) 77 rfl ?_
          refine g_iload X109 hx rfl (hb hby d17_77) 79 rfl ?_
          refine g_sipush X109 hx (255 : Int32) rfl (hb hby d17_79) 82 rfl ?_
          refine g_iand X109 hx (hb hby d17_82) 83 rfl ?_
          refine g_bipush X109 hx (6 : Int32) rfl (hb hby d17_83) 85 rfl ?_
          refine g_ishr X109 hx (hb hby d17_85) 86 rfl ?_
          refine g_ior X109 hx (hb hby d17_86) 87 rfl ?_
          refine g_i2b X109 hx (hb hby d17_87) 88 rfl ?_
          refine g_bastore X109 hx hZ e112 A117 (by decide) (Nat.le_of_ble_eq_true rfl) (hb hby d17_88) 89 rfl (fun T129 h130 X131 e132 W133 A134 => ?_)
          have A135 : AV Z h130 b113 .byte [(.int ((192 : Int32) ||| (((byt c0) &&& (255 : Int32)) >>> ((6 : Int32) &&& 31))).toInt8.toInt32.toInt8.toInt32), (.int (0 : Int32)), (.int (0 : Int32)), (.int (0 : Int32))] := A134
          have F136 := F123.other W133 ne120
          have F137 := F124.wr W133
          have F138 := A135
          have F139 := E118.wr W133
          have N140 := Fr.snoc X131 N119 sz121
          have szh141 : n0 ≤ h130.size := Nat.le_trans szh125 (Nat.le_of_eq W133.size.symm)
          have K142 := K126.wr W133 (Or.inr szk122)
          show Go p_ e_ below _ T129 (mkF m_ 89 #[.val (.int (0 : Int32)), .val (.ref a), .val (.int (1 : Int32)), .val (.int (1 : Int32)), .val (.ref b113), .val (.ref a), .val (.int (2 : Int32)), .val (.int (0 : Int32)), .val (.int (byt c0))] [])
          refine g_aload X131 hx rfl rfl (hb hby d17_89) 91 rfl ?_
          refine g_iloadN X131 hx rfl (hb hby d17_91) 92 rfl ?_
          refine g_iinc X131 hx (1 : Int32) rfl rfl #[.val (.int (0 : Int32)), .val (.ref a), .val (.int (1 : Int32)), .val (.int (2 : Int32)), .val (.ref b113), .val (.ref a), .val (.int (2 : Int32)), .val (.int (0 : Int32)), .val (.int (byt c0))] rfl (hb hby d17_92) 95 rfl ?_
          refine g_sipush X131 hx (128 : Int32) rfl (hb hby d17_95) 98 rfl ?_
          refine g_iload X131 hx rfl (hb hby d17_98) 100 rfl ?_
          refine g_bipush X131 hx (63 : Int32) rfl (hb hby d17_100) 102 rfl ?_
          refine g_iand X131 hx (hb hby d17_102) 103 rfl ?_
          refine g_ior X131 hx (hb hby d17_103) 104 rfl ?_
          refine g_i2b X131 hx (hb hby d17_104) 105 rfl ?_
          refine g_bastore X131 hx hZ e132 A135 (by decide) (Nat.le_of_ble_eq_true rfl) (hb hby d17_105) 106 rfl (fun T143 h144 X145 e146 W147 A148 => ?_)
          have A149 : AV Z h144 b113 .byte [(.int ((192 : Int32) ||| (((byt c0) &&& (255 : Int32)) >>> ((6 : Int32) &&& 31))).toInt8.toInt32.toInt8.toInt32), (.int ((128 : Int32) ||| ((byt c0) &&& (63 : Int32))).toInt8.toInt32.toInt8.toInt32), (.int (0 : Int32)), (.int (0 : Int32))] := A148
          have F150 := F136.other W147 ne120
          have F151 := F137.wr W147
          have F152 := A149
          have F153 := F139.wr W147
          have N154 := Fr.snoc X145 N140 sz121
          have szh155 : n0 ≤ h144.size := Nat.le_trans szh141 (Nat.le_of_eq W147.size.symm)
          have K156 := K142.wr W147 (Or.inr szk122)
          show Go p_ e_ below _ T143 (mkF m_ 106 #[.val (.int (0 : Int32)), .val (.ref a), .val (.int (1 : Int32)), .val (.int (2 : Int32)), .val (.ref b113), .val (.ref a), .val (.int (2 : Int32)), .val (.int (0 : Int32)), .val (.int (byt c0))] [])
          refine g_goto X145 hx (hb hby d17_106) 118 (by decide) rfl ?_
          refine g_iinc X145 hx (1 : Int32) rfl rfl #[.val (.int (0 : Int32)), .val (.ref a), .val (.int (1 : Int32)), .val (.int (2 : Int32)), .val (.ref b113), .val (.ref a), .val (.int (2 : Int32)), .val (.int (1 : Int32)), .val (.int (byt c0))] rfl (hb hby d17_118) 121 rfl ?_
          refine g_goto X145 hx (hb hby d17_121) 49 (by decide) rfl ?_
          refine g_iload X145 hx rfl (hb hby d17_49) 51 rfl ?_
          refine g_iload X145 hx rfl (hb hby d17_51) 53 rfl ?_
          refine g_icmp_ge X145 hx (hb hby d17_53) 124 56 (by decide) rfl rfl (fun q157 => ?_) (fun q157 => ?_)
          · exact absurd q157 (by decide)
          · refine g_aload X145 hx rfl rfl (hb hby d17_56) 58 rfl ?_
            refine g_iload X145 hx rfl (hb hby d17_58) 60 rfl ?_
            refine g_baload X145 hx hZ e146 F150 (by decide) rfl (hb hby d17_60) 61 rfl ?_
            show Go p_ e_ below _ T143 (mkF m_ 61 #[.val (.int (0 : Int32)), .val (.ref a), .val (.int (1 : Int32)), .val (.int (2 : Int32)), .val (.ref b113), .val (.ref a), .val (.int (2 : Int32)), .val (.int (1 : Int32)), .val (.int (byt c0))] [(.int (byt c1))])
            refine g_istore X145 hx #[.val (.int (0 : Int32)), .val (.ref a), .val (.int (1 : Int32)), .val (.int (2 : Int32)), .val (.ref b113), .val (.ref a), .val (.int (2 : Int32)), .val (.int (1 : Int32)), .val (.int (byt c1))] rfl (hb hby d17_61) 63 rfl ?_
            refine g_iload X145 hx rfl (hb hby d17_63) 65 rfl ?_
            refine g_if_ge X145 hx (hb hby d17_65) 109 68 (by decide) rfl rfl (fun q158 => ?_) (fun q158 => ?_)
            · refine g_aload X145 hx rfl rfl (hb hby d17_109) 111 rfl ?_
              refine g_iloadN X145 hx rfl (hb hby d17_111) 112 rfl ?_
              refine g_iinc X145 hx (1 : Int32) rfl rfl #[.val (.int (0 : Int32)), .val (.ref a), .val (.int (1 : Int32)), .val (.int (3 : Int32)), .val (.ref b113), .val (.ref a), .val (.int (2 : Int32)), .val (.int (1 : Int32)), .val (.int (byt c1))] rfl (hb hby d17_112) 115 rfl ?_
              refine g_iload X145 hx rfl (hb hby d17_115) 117 rfl ?_
              refine g_bastore X145 hx hZ e146 A149 (by decide) (Nat.le_of_ble_eq_true rfl) (hb hby d17_117) 118 rfl (fun T159 h160 X161 e162 W163 A164 => ?_)
              have A165 : AV Z h160 b113 .byte [(.int ((192 : Int32) ||| (((byt c0) &&& (255 : Int32)) >>> ((6 : Int32) &&& 31))).toInt8.toInt32.toInt8.toInt32), (.int ((128 : Int32) ||| ((byt c0) &&& (63 : Int32))).toInt8.toInt32.toInt8.toInt32), (.int (byt c1).toInt8.toInt32), (.int (0 : Int32))] := A164
              have F166 := F150.other W163 ne120
              have F167 := F151.wr W163
              have F168 := A165
              have F169 := F153.wr W163
              have N170 := Fr.snoc X161 N154 sz121
              have szh171 : n0 ≤ h160.size := Nat.le_trans szh155 (Nat.le_of_eq W163.size.symm)
              have K172 := K156.wr W163 (Or.inr szk122)
              show Go p_ e_ below _ T159 (mkF m_ 118 #[.val (.int (0 : Int32)), .val (.ref a), .val (.int (1 : Int32)), .val (.int (3 : Int32)), .val (.ref b113), .val (.ref a), .val (.int (2 : Int32)), .val (.int (1 : Int32)), .val (.int (byt c1))] [])
              refine g_iinc X161 hx (1 : Int32) rfl rfl #[.val (.int (0 : Int32)), .val (.ref a), .val (.int (1 : Int32)), .val (.int (3 : Int32)), .val (.ref b113), .val (.ref a), .val (.int (2 : Int32)), .val (.int (2 : Int32)), .val (.int (byt c1))] rfl (hb hby d17_118) 121 rfl ?_
              refine g_goto X161 hx (hb hby d17_121) 49 (by decide) rfl ?_
              refine g_iload X161 hx rfl (hb hby d17_49) 51 rfl ?_
              refine g_iload X161 hx rfl (hb hby d17_51) 53 rfl ?_
              refine g_icmp_ge X161 hx (hb hby d17_53) 124 56 (by decide) rfl rfl (fun q173 => ?_) (fun q173 => ?_)
              · refine g_iloadN X161 hx rfl (hb hby d17_124) 125 rfl ?_
                refine g_aload X161 hx rfl rfl (hb hby d17_125) 127 rfl ?_
                refine g_arraylength X161 hx hZ e162 A165 (4 : Int32) rfl (hb hby d17_127) 128 rfl ?_
                refine g_icmp_ne X161 hx (hb hby d17_128) 134 131 (by decide) rfl rfl (fun q174 => ?_) (fun q174 => ?_)
                · refine g_aload X161 hx rfl rfl (hb hby d17_134) 136 rfl ?_
                  refine g_iloadN X161 hx rfl (hb hby d17_136) 137 rfl ?_
                  refine g_callS X161 hx hZ hown (wd hw 130 rfl) (wd hw 131 rfl) (wd hw 132 rfl) (wd hw 133 rfl) (by decide) e162 [(.ref b113), (.int (3 : Int32))] [] rfl (co25 l Z a0 hw b113 (.int ((192 : Int32) ||| (((byt c0) &&& (255 : Int32)) >>> ((6 : Int32) &&& 31))).toInt8.toInt32.toInt8.toInt32) (.int ((128 : Int32) ||| ((byt c0) &&& (63 : Int32))).toInt8.toInt32.toInt8.toInt32) (.int (byt c1).toInt8.toInt32) (.int (0 : Int32)) h160 n0 szh171 A165 (f_aS (fit_n8 _) (f_aS (fit_n8 _) (f_aS (fit_n8 _) (f_aS fit_0 f_a0))))) (lenOf pd_5 rfl) 0 (Nat.le_of_eq rfl) (by decide) (by decide) (by decide) (by decide) (by rw [hml]; rfl) (hb hby d17_137) 140 rfl (fun r175 T176 L177 X178 Q179 => ?_)
                  obtain ⟨h180, e181⟩ : ∃ h, T176.heap = h := ⟨_, rfl⟩
                  rw [e181] at Q179
                  obtain ⟨b182, rfl, n183, K184, g185, A186, E187⟩ := Q179
                  have N188 := Fr.app N170 n183
                  have ne189 : a ≠ b182 := Nat.ne_of_lt (Nat.lt_of_lt_of_le F166.lt g185)
                  have ne190 : b113 ≠ b182 := Nat.ne_of_lt (Nat.lt_of_lt_of_le A165.lt g185)
                  have sz191 : n0 ≤ b182 := Nat.le_trans szh171 g185
                  have szk192 : h0.size ≤ b182 := Nat.le_trans K172.1 g185
                  have F193 := F166.keep K184 nin0
                  have F194 := F167.keep K184
                  have F195 := A165.keep K184 nin0
                  have F196 := F169.keep K184
                  have szh197 : n0 ≤ h180.size := Nat.le_trans szh171 K184.1
                  have K198 := K172.trans K184 all0
                  show Go p_ e_ below _ T176 (mkF m_ 140 #[.val (.int (0 : Int32)), .val (.ref a), .val (.int (1 : Int32)), .val (.int (3 : Int32)), .val (.ref b113), .val (.ref a), .val (.int (2 : Int32)), .val (.int (2 : Int32)), .val (.int (byt c1))] [(.ref b182)])
                  exact g_reta X178 hx rfl rfl hret hlk (by decide) (by decide) (hb hby d17_140) (by rw [e181]; exact ⟨b182, rfl, N188, K198, szk192, (AV.cast A186 (by rw [en_mp k0 k1, k_w0 hc0, k_w1 hc0, k_w2 hc1])), E187⟩)
                · exact absurd q174 (by decide)
              · exact absurd q173 (by decide)
            · exact absurd q158 s1
    · exact absurd q105 (by decide)
  · exact absurd q101 (by decide)
theorem ef19_mm (m_ : MethodId) (a : Addr)  : entryFrame m_ #[(.ref a), (.int (0 : Int32)), (.int (2 : Int32))] 5 = mkF m_ 0 #[.val (.ref a), .val (.int (0 : Int32)), .val (.int (2 : Int32)), .unset, .unset] [] := by first | (simp [entryFrame, mkF, argsToLocals, Value.category]; done) | rfl
set_option maxRecDepth 65536 in
set_option maxHeartbeats 40000000 in
theorem co19_mm (l : Launch) (Z : State) (a0 : Array Value) (hw : ∀ d ∈ tables_1, d.before a0 Z = true) (a : Addr) (c0 : Int32) (c1 : Int32) (h0 : Heap) (A_a : AV Z h0 a .byte [(.int (byt c0)), (.int (byt c1))]) (s0 : byt c0 < (0 : Int32)) (s1 : byt c1 < (0 : Int32)) : Co l (⟨"java/lang/StringCoding", "countPositives", "([BII)I"⟩ : MethodName) jdk_123_method_3_code 5 (some .int) [] ({ frames := 0, cells := 0, slots := 0, locals := 0 } : Room) Z h0 #[(.ref a), (.int (0 : Int32)), (.int (2 : Int32))] (Pu h0 (some (.int ((0 : Int32) )))) := by
  refine Co.of (plainFor_of_name pn_2) ?_
  intro p_ e_ s_ m_ below meth c_ T0 X0 hx hby hml hown hnm hret hlk hZ eq0
  refine Go.cast (ef19_mm m_ a ) ?_
  refine g_iloadN X0 hx rfl (hb hby d19_0) 1 rfl ?_
  refine g_iloadN X0 hx rfl (hb hby d19_1) 2 rfl ?_
  refine g_iadd X0 hx (hb hby d19_2) 3 rfl ?_
  show Go p_ e_ below _ T0 (mkF m_ 3 #[.val (.ref a), .val (.int (0 : Int32)), .val (.int (2 : Int32)), .unset, .unset] [(.int (2 : Int32))])
  refine g_istoreN X0 hx #[.val (.ref a), .val (.int (0 : Int32)), .val (.int (2 : Int32)), .val (.int (2 : Int32)), .unset] rfl (hb hby d19_3) 4 rfl ?_
  refine g_iloadN X0 hx rfl (hb hby d19_4) 5 rfl ?_
  refine g_istore X0 hx #[.val (.ref a), .val (.int (0 : Int32)), .val (.int (2 : Int32)), .val (.int (2 : Int32)), .val (.int (0 : Int32))] rfl (hb hby d19_5) 7 rfl ?_
  refine g_iload X0 hx rfl (hb hby d19_7) 9 rfl ?_
  refine g_iloadN X0 hx rfl (hb hby d19_9) 10 rfl ?_
  refine g_icmp_ge X0 hx (hb hby d19_10) 31 13 (by decide) rfl rfl (fun q101 => ?_) (fun q101 => ?_)
  · exact absurd q101 (by decide)
  · refine g_aloadN X0 hx rfl rfl (hb hby d19_13) 14 rfl ?_
    refine g_iload X0 hx rfl (hb hby d19_14) 16 rfl ?_
    refine g_baload X0 hx hZ eq0 A_a (by decide) rfl (hb hby d19_16) 17 rfl ?_
    show Go p_ e_ below _ T0 (mkF m_ 17 #[.val (.ref a), .val (.int (0 : Int32)), .val (.int (2 : Int32)), .val (.int (2 : Int32)), .val (.int (0 : Int32))] [(.int (byt c0))])
    refine g_if_ge X0 hx (hb hby d19_17) 25 20 (by decide) rfl rfl (fun q102 => ?_) (fun q102 => ?_)
    · exact absurd s0 q102
    · refine g_iload X0 hx rfl (hb hby d19_20) 22 rfl ?_
      refine g_iloadN X0 hx rfl (hb hby d19_22) 23 rfl ?_
      refine g_isub X0 hx (hb hby d19_23) 24 rfl ?_
      show Go p_ e_ below _ T0 (mkF m_ 24 #[.val (.ref a), .val (.int (0 : Int32)), .val (.int (2 : Int32)), .val (.int (2 : Int32)), .val (.int (0 : Int32))] [(.int (0 : Int32))])
      exact g_reti X0 hx hret hlk (by decide) (by decide) (hb hby d19_24) ⟨congrArg (fun z => some (Value.int z)) rfl, eq0, rfl⟩
theorem ef18_mm (m_ : MethodId) (a : Addr)  : entryFrame m_ #[(.ref a), (.int (0 : Int32)), (.int (2 : Int32))] 3 = mkF m_ 0 #[.val (.ref a), .val (.int (0 : Int32)), .val (.int (2 : Int32))] [] := by first | (simp [entryFrame, mkF, argsToLocals, Value.category]; done) | rfl
set_option maxRecDepth 65536 in
set_option maxHeartbeats 40000000 in
theorem co18_mm (l : Launch) (Z : State) (a0 : Array Value) (hw : ∀ d ∈ tables_1, d.before a0 Z = true) (a : Addr) (c0 : Int32) (c1 : Int32) (h0 : Heap) (A_a : AV Z h0 a .byte [(.int (byt c0)), (.int (byt c1))]) (s0 : byt c0 < (0 : Int32)) (s1 : byt c1 < (0 : Int32)) : Co l (⟨"java/lang/StringCoding", "hasNegatives", "([BII)Z"⟩ : MethodName) jdk_123_method_2_code 3 (some .boolean) [] ({ frames := 1, cells := 0, slots := 0, locals := 16 } : Room) Z h0 #[(.ref a), (.int (0 : Int32)), (.int (2 : Int32))] (Pu h0 (some (.int ((1 : Int32) )))) := by
  refine Co.of (plainFor_of_name pn_2) ?_
  intro p_ e_ s_ m_ below meth c_ T0 X0 hx hby hml hown hnm hret hlk hZ eq0
  refine Go.cast (ef18_mm m_ a ) ?_
  refine g_aloadN X0 hx rfl rfl (hb hby d18_0) 1 rfl ?_
  refine g_iloadN X0 hx rfl (hb hby d18_1) 2 rfl ?_
  refine g_iloadN X0 hx rfl (hb hby d18_2) 3 rfl ?_
  refine g_callS X0 hx hZ hown (wd hw 101 rfl) (wd hw 102 rfl) (wd hw 99 rfl) (wd hw 103 rfl) (by decide) eq0 [(.ref a), (.int (0 : Int32)), (.int (2 : Int32))] []  rfl (co19_mm l Z a0 hw a c0 c1 h0 A_a s0 s1) (lenOf pd_2 rfl) 0 (Nat.le_of_eq rfl) (by decide) (by decide) (by decide) (by decide) (by rw [hml]; rfl) (hb hby d18_3) 6 rfl (pu_cont fun T102 X101 e103 => ?_)
  show Go p_ e_ below _ T102 (mkF m_ 6 #[.val (.ref a), .val (.int (0 : Int32)), .val (.int (2 : Int32))] [(.int (0 : Int32))])
  refine g_iloadN X101 hx rfl (hb hby d18_6) 7 rfl ?_
  refine g_icmp_eq X101 hx (hb hby d18_7) 14 10 (by decide) rfl rfl (fun q104 => ?_) (fun q104 => ?_)
  · exact absurd q104 (by decide)
  · refine g_iconst X101 hx (1 : Int32) rfl (hb hby d18_10) 11 rfl ?_
    refine g_goto X101 hx (hb hby d18_11) 15 (by decide) rfl ?_
    exact g_retz X101 hx hret hlk (by decide) (by decide) (hb hby d18_15) ⟨congrArg (fun z => some (Value.int z)) (by decide), e103, rfl⟩
def Q17_mm (Z : State) (a : Addr) (c0 : Int32) (c1 : Int32) (h0 : Heap) (n0 : Nat) (v : Option Value) (h : Heap) (L : List Loc) : Prop := ∃ d, v = some (.ref d) ∧ Fr n0 L ∧ Keep h0 h [] ∧ h0.size ≤ d ∧ AV Z h d .byte (enc [c0, c1]) ∧ Exa Z h d "[B"
theorem ef17_mm (m_ : MethodId) (a : Addr)  : entryFrame m_ #[(.int (0 : Int32)), (.ref a), (.int (1 : Int32))] 9 = mkF m_ 0 #[.val (.int (0 : Int32)), .val (.ref a), .val (.int (1 : Int32)), .unset, .unset, .unset, .unset, .unset, .unset] [] := by first | (simp [entryFrame, mkF, argsToLocals, Value.category]; done) | rfl
set_option maxRecDepth 65536 in
set_option maxHeartbeats 40000000 in
theorem co17_mm (l : Launch) (Z : State) (a0 : Array Value) (hw : ∀ d ∈ tables_1, d.before a0 Z = true) (a : Addr) (c0 : Int32) (c1 : Int32) (h0 : Heap) (n0 : Nat) (Z0 : n0 ≤ h0.size)   (A_a : AV Z h0 a .byte [(.int (byt c0)), (.int (byt c1))]) (E_a : Exa Z h0 a "[B") (s0 : byt c0 < (0 : Int32)) (s1 : byt c1 < (0 : Int32)) (hc0 : Ch c0) (hc1 : Ch c1) (k0 : ¬ c0 < (128 : Int32)) (k1 : ¬ c1 < (128 : Int32)) : Co l (⟨"java/lang/String", "encodeUTF8", "(B[BZ)[B"⟩ : MethodName) jdk_42_method_46_code 9 (some (.array .byte)) [] ({ frames := 2, cells := 2, slots := 7, locals := 54 } : Room) Z h0 #[(.int (0 : Int32)), (.ref a), (.int (1 : Int32))] (Q17_mm Z a c0 c1 h0 n0) := by
  refine Co.of (plainFor_of_name pn_3) ?_
  intro p_ e_ s_ m_ below meth c_ T0 X0 hx hby hml hown hnm hret hlk hZ eq0
  have N0 := Fr.nil n0
  refine Go.cast (ef17_mm m_ a ) ?_
  refine g_iloadN X0 hx rfl (hb hby d17_0) 1 rfl ?_
  refine g_iconst X0 hx (1 : Int32) rfl (hb hby d17_1) 2 rfl ?_
  refine g_icmp_ne X0 hx (hb hby d17_2) 11 5 (by decide) rfl rfl (fun q101 => ?_) (fun q101 => ?_)
  · refine g_aloadN X0 hx rfl rfl (hb hby d17_11) 12 rfl ?_
    refine g_iconst X0 hx (0 : Int32) rfl (hb hby d17_12) 13 rfl ?_
    refine g_aloadN X0 hx rfl rfl (hb hby d17_13) 14 rfl ?_
    refine g_arraylength X0 hx hZ eq0 A_a (2 : Int32) rfl (hb hby d17_14) 15 rfl ?_
    refine g_callS X0 hx hZ hown (wd hw 97 rfl) (wd hw 98 rfl) (wd hw 99 rfl) (wd hw 100 rfl) (by decide) eq0 [(.ref a), (.int (0 : Int32)), (.int (2 : Int32))] []  rfl (co18_mm l Z a0 hw a c0 c1 h0 A_a s0 s1) (lenOf pd_3 rfl) 0 (Nat.le_of_eq rfl) (by decide) (by decide) (by decide) (by decide) (by rw [hml]; rfl) (hb hby d17_15) 18 rfl (pu_cont fun T103 X102 e104 => ?_)
    show Go p_ e_ below _ T103 (mkF m_ 18 #[.val (.int (0 : Int32)), .val (.ref a), .val (.int (1 : Int32)), .unset, .unset, .unset, .unset, .unset, .unset] [(.int (1 : Int32))])
    refine g_if_ne X102 hx (hb hby d17_18) 29 21 (by decide) rfl rfl (fun q105 => ?_) (fun q105 => ?_)
    · refine g_iconst X102 hx (0 : Int32) rfl (hb hby d17_29) 30 rfl ?_
      refine g_istoreN X102 hx #[.val (.int (0 : Int32)), .val (.ref a), .val (.int (1 : Int32)), .val (.int (0 : Int32)), .unset, .unset, .unset, .unset, .unset] rfl (hb hby d17_30) 31 rfl ?_
      refine g_aloadN X102 hx rfl rfl (hb hby d17_31) 32 rfl ?_
      refine g_arraylength X102 hx hZ e104 A_a (2 : Int32) rfl (hb hby d17_32) 33 rfl ?_
      refine g_callS X102 hx hZ hown (wd hw 123 rfl) (wd hw 124 rfl) (wd hw 64 rfl) (wd hw 125 rfl) (by decide) e104 [(.int (2 : Int32))] [] rfl (co23_2 l Z a0 hw h0 n0 Z0) (lenOf pd_4 rfl) 0 (Nat.le_of_eq rfl) (by decide) (by decide) (by decide) (by decide) (by rw [hml]; rfl) (hb hby d17_33) 36 rfl (fun r106 T107 L108 X109 Q110 => ?_)
      obtain ⟨h111, e112⟩ : ∃ h, T107.heap = h := ⟨_, rfl⟩
      rw [e112] at Q110
      obtain ⟨b113, rfl, n114, K115, g116, A117, E118⟩ := Q110
      have N119 := Fr.app N0 n114
      have ne120 : a ≠ b113 := Nat.ne_of_lt (Nat.lt_of_lt_of_le A_a.lt g116)
      have sz121 : n0 ≤ b113 := Nat.le_trans Z0 g116
      have szk122 : h0.size ≤ b113 := Nat.le_trans (Keep.refl h0 []).1 g116
      have F123 := A_a.keep K115 nin0
      have F124 := E_a.keep K115
      have szh125 : n0 ≤ h111.size := Nat.le_trans Z0 K115.1
      have K126 := (Keep.refl h0 []).trans K115 all0
      show Go p_ e_ below _ T107 (mkF m_ 36 #[.val (.int (0 : Int32)), .val (.ref a), .val (.int (1 : Int32)), .val (.int (0 : Int32)), .unset, .unset, .unset, .unset, .unset] [(.ref b113)])
      refine g_astore X109 hx #[.val (.int (0 : Int32)), .val (.ref a), .val (.int (1 : Int32)), .val (.int (0 : Int32)), .val (.ref b113), .unset, .unset, .unset, .unset] rfl rfl (hb hby d17_36) 38 rfl ?_
      refine g_aloadN X109 hx rfl rfl (hb hby d17_38) 39 rfl ?_
      refine g_astore X109 hx #[.val (.int (0 : Int32)), .val (.ref a), .val (.int (1 : Int32)), .val (.int (0 : Int32)), .val (.ref b113), .val (.ref a), .unset, .unset, .unset] rfl rfl (hb hby d17_39) 41 rfl ?_
      refine g_aload X109 hx rfl rfl (hb hby d17_41) 43 rfl ?_
      refine g_arraylength X109 hx hZ e112 F123 (2 : Int32) rfl (hb hby d17_43) 44 rfl ?_
      refine g_istore X109 hx #[.val (.int (0 : Int32)), .val (.ref a), .val (.int (1 : Int32)), .val (.int (0 : Int32)), .val (.ref b113), .val (.ref a), .val (.int (2 : Int32)), .unset, .unset] rfl (hb hby d17_44) 46 rfl ?_
      refine g_iconst X109 hx (0 : Int32) rfl (hb hby d17_46) 47 rfl ?_
      refine g_istore X109 hx #[.val (.int (0 : Int32)), .val (.ref a), .val (.int (1 : Int32)), .val (.int (0 : Int32)), .val (.ref b113), .val (.ref a), .val (.int (2 : Int32)), .val (.int (0 : Int32)), .unset] rfl (hb hby d17_47) 49 rfl ?_
      refine g_iload X109 hx rfl (hb hby d17_49) 51 rfl ?_
      refine g_iload X109 hx rfl (hb hby d17_51) 53 rfl ?_
      refine g_icmp_ge X109 hx (hb hby d17_53) 124 56 (by decide) rfl rfl (fun q127 => ?_) (fun q127 => ?_)
      · exact absurd q127 (by decide)
      · refine g_aload X109 hx rfl rfl (hb hby d17_56) 58 rfl ?_
        refine g_iload X109 hx rfl (hb hby d17_58) 60 rfl ?_
        refine g_baload X109 hx hZ e112 F123 (by decide) rfl (hb hby d17_60) 61 rfl ?_
        show Go p_ e_ below _ T107 (mkF m_ 61 #[.val (.int (0 : Int32)), .val (.ref a), .val (.int (1 : Int32)), .val (.int (0 : Int32)), .val (.ref b113), .val (.ref a), .val (.int (2 : Int32)), .val (.int (0 : Int32)), .unset] [(.int (byt c0))])
        refine g_istore X109 hx #[.val (.int (0 : Int32)), .val (.ref a), .val (.int (1 : Int32)), .val (.int (0 : Int32)), .val (.ref b113), .val (.ref a), .val (.int (2 : Int32)), .val (.int (0 : Int32)), .val (.int (byt c0))] rfl (hb hby d17_61) 63 rfl ?_
        refine g_iload X109 hx rfl (hb hby d17_63) 65 rfl ?_
        refine g_if_ge X109 hx (hb hby d17_65) 109 68 (by decide) rfl rfl (fun q128 => ?_) (fun q128 => ?_)
        · exact absurd s0 q128
        · refine g_aload X109 hx rfl rfl (hb hby d17_68) 70 rfl ?_
          refine g_iloadN X109 hx rfl (hb hby d17_70) 71 rfl ?_
          refine g_iinc X109 hx (1 : Int32) rfl rfl #[.val (.int (0 : Int32)), .val (.ref a), .val (.int (1 : Int32)), .val (.int (1 : Int32)), .val (.ref b113), .val (.ref a), .val (.int (2 : Int32)), .val (.int (0 : Int32)), .val (.int (byt c0))] rfl (hb hby d17_71) 74 rfl ?_
          refine g_sipush X109 hx (192 : Int32) rfl (hb hby d17_74) 77 rfl ?_
          refine g_iload X109 hx rfl (hb hby d17_77) 79 rfl ?_
          refine g_sipush X109 hx (255 : Int32) rfl (hb hby d17_79) 82 rfl ?_
          refine g_iand X109 hx (hb hby d17_82) 83 rfl ?_
          refine g_bipush X109 hx (6 : Int32) rfl (hb hby d17_83) 85 rfl ?_
          refine g_ishr X109 hx (hb hby d17_85) 86 rfl ?_
          refine g_ior X109 hx (hb hby d17_86) 87 rfl ?_
          refine g_i2b X109 hx (hb hby d17_87) 88 rfl ?_
          refine g_bastore X109 hx hZ e112 A117 (by decide) (Nat.le_of_ble_eq_true rfl) (hb hby d17_88) 89 rfl (fun T129 h130 X131 e132 W133 A134 => ?_)
          have A135 : AV Z h130 b113 .byte [(.int ((192 : Int32) ||| (((byt c0) &&& (255 : Int32)) >>> ((6 : Int32) &&& 31))).toInt8.toInt32.toInt8.toInt32), (.int (0 : Int32)), (.int (0 : Int32)), (.int (0 : Int32))] := A134
          have F136 := F123.other W133 ne120
          have F137 := F124.wr W133
          have F138 := A135
          have F139 := E118.wr W133
          have N140 := Fr.snoc X131 N119 sz121
          have szh141 : n0 ≤ h130.size := Nat.le_trans szh125 (Nat.le_of_eq W133.size.symm)
          have K142 := K126.wr W133 (Or.inr szk122)
          show Go p_ e_ below _ T129 (mkF m_ 89 #[.val (.int (0 : Int32)), .val (.ref a), .val (.int (1 : Int32)), .val (.int (1 : Int32)), .val (.ref b113), .val (.ref a), .val (.int (2 : Int32)), .val (.int (0 : Int32)), .val (.int (byt c0))] [])
          refine g_aload X131 hx rfl rfl (hb hby d17_89) 91 rfl ?_
          refine g_iloadN X131 hx rfl (hb hby d17_91) 92 rfl ?_
          refine g_iinc X131 hx (1 : Int32) rfl rfl #[.val (.int (0 : Int32)), .val (.ref a), .val (.int (1 : Int32)), .val (.int (2 : Int32)), .val (.ref b113), .val (.ref a), .val (.int (2 : Int32)), .val (.int (0 : Int32)), .val (.int (byt c0))] rfl (hb hby d17_92) 95 rfl ?_
          refine g_sipush X131 hx (128 : Int32) rfl (hb hby d17_95) 98 rfl ?_
          refine g_iload X131 hx rfl (hb hby d17_98) 100 rfl ?_
          refine g_bipush X131 hx (63 : Int32) rfl (hb hby d17_100) 102 rfl ?_
          refine g_iand X131 hx (hb hby d17_102) 103 rfl ?_
          refine g_ior X131 hx (hb hby d17_103) 104 rfl ?_
          refine g_i2b X131 hx (hb hby d17_104) 105 rfl ?_
          refine g_bastore X131 hx hZ e132 A135 (by decide) (Nat.le_of_ble_eq_true rfl) (hb hby d17_105) 106 rfl (fun T143 h144 X145 e146 W147 A148 => ?_)
          have A149 : AV Z h144 b113 .byte [(.int ((192 : Int32) ||| (((byt c0) &&& (255 : Int32)) >>> ((6 : Int32) &&& 31))).toInt8.toInt32.toInt8.toInt32), (.int ((128 : Int32) ||| ((byt c0) &&& (63 : Int32))).toInt8.toInt32.toInt8.toInt32), (.int (0 : Int32)), (.int (0 : Int32))] := A148
          have F150 := F136.other W147 ne120
          have F151 := F137.wr W147
          have F152 := A149
          have F153 := F139.wr W147
          have N154 := Fr.snoc X145 N140 sz121
          have szh155 : n0 ≤ h144.size := Nat.le_trans szh141 (Nat.le_of_eq W147.size.symm)
          have K156 := K142.wr W147 (Or.inr szk122)
          show Go p_ e_ below _ T143 (mkF m_ 106 #[.val (.int (0 : Int32)), .val (.ref a), .val (.int (1 : Int32)), .val (.int (2 : Int32)), .val (.ref b113), .val (.ref a), .val (.int (2 : Int32)), .val (.int (0 : Int32)), .val (.int (byt c0))] [])
          refine g_goto X145 hx (hb hby d17_106) 118 (by decide) rfl ?_
          refine g_iinc X145 hx (1 : Int32) rfl rfl #[.val (.int (0 : Int32)), .val (.ref a), .val (.int (1 : Int32)), .val (.int (2 : Int32)), .val (.ref b113), .val (.ref a), .val (.int (2 : Int32)), .val (.int (1 : Int32)), .val (.int (byt c0))] rfl (hb hby d17_118) 121 rfl ?_
          refine g_goto X145 hx (hb hby d17_121) 49 (by decide) rfl ?_
          refine g_iload X145 hx rfl (hb hby d17_49) 51 rfl ?_
          refine g_iload X145 hx rfl (hb hby d17_51) 53 rfl ?_
          refine g_icmp_ge X145 hx (hb hby d17_53) 124 56 (by decide) rfl rfl (fun q157 => ?_) (fun q157 => ?_)
          · exact absurd q157 (by decide)
          · refine g_aload X145 hx rfl rfl (hb hby d17_56) 58 rfl ?_
            refine g_iload X145 hx rfl (hb hby d17_58) 60 rfl ?_
            refine g_baload X145 hx hZ e146 F150 (by decide) rfl (hb hby d17_60) 61 rfl ?_
            show Go p_ e_ below _ T143 (mkF m_ 61 #[.val (.int (0 : Int32)), .val (.ref a), .val (.int (1 : Int32)), .val (.int (2 : Int32)), .val (.ref b113), .val (.ref a), .val (.int (2 : Int32)), .val (.int (1 : Int32)), .val (.int (byt c0))] [(.int (byt c1))])
            refine g_istore X145 hx #[.val (.int (0 : Int32)), .val (.ref a), .val (.int (1 : Int32)), .val (.int (2 : Int32)), .val (.ref b113), .val (.ref a), .val (.int (2 : Int32)), .val (.int (1 : Int32)), .val (.int (byt c1))] rfl (hb hby d17_61) 63 rfl ?_
            refine g_iload X145 hx rfl (hb hby d17_63) 65 rfl ?_
            refine g_if_ge X145 hx (hb hby d17_65) 109 68 (by decide) rfl rfl (fun q158 => ?_) (fun q158 => ?_)
            · exact absurd s1 q158
            · refine g_aload X145 hx rfl rfl (hb hby d17_68) 70 rfl ?_
              refine g_iloadN X145 hx rfl (hb hby d17_70) 71 rfl ?_
              refine g_iinc X145 hx (1 : Int32) rfl rfl #[.val (.int (0 : Int32)), .val (.ref a), .val (.int (1 : Int32)), .val (.int (3 : Int32)), .val (.ref b113), .val (.ref a), .val (.int (2 : Int32)), .val (.int (1 : Int32)), .val (.int (byt c1))] rfl (hb hby d17_71) 74 rfl ?_
              refine g_sipush X145 hx (192 : Int32) rfl (hb hby d17_74) 77 rfl ?_
              refine g_iload X145 hx rfl (hb hby d17_77) 79 rfl ?_
              refine g_sipush X145 hx (255 : Int32) rfl (hb hby d17_79) 82 rfl ?_
              refine g_iand X145 hx (hb hby d17_82) 83 rfl ?_
              refine g_bipush X145 hx (6 : Int32) rfl (hb hby d17_83) 85 rfl ?_
              refine g_ishr X145 hx (hb hby d17_85) 86 rfl ?_
              refine g_ior X145 hx (hb hby d17_86) 87 rfl ?_
              refine g_i2b X145 hx (hb hby d17_87) 88 rfl ?_
              refine g_bastore X145 hx hZ e146 A149 (by decide) (Nat.le_of_ble_eq_true rfl) (hb hby d17_88) 89 rfl (fun T159 h160 X161 e162 W163 A164 => ?_)
              have A165 : AV Z h160 b113 .byte [(.int ((192 : Int32) ||| (((byt c0) &&& (255 : Int32)) >>> ((6 : Int32) &&& 31))).toInt8.toInt32.toInt8.toInt32), (.int ((128 : Int32) ||| ((byt c0) &&& (63 : Int32))).toInt8.toInt32.toInt8.toInt32), (.int ((192 : Int32) ||| (((byt c1) &&& (255 : Int32)) >>> ((6 : Int32) &&& 31))).toInt8.toInt32.toInt8.toInt32), (.int (0 : Int32))] := A164
              have F166 := F150.other W163 ne120
              have F167 := F151.wr W163
              have F168 := A165
              have F169 := F153.wr W163
              have N170 := Fr.snoc X161 N154 sz121
              have szh171 : n0 ≤ h160.size := Nat.le_trans szh155 (Nat.le_of_eq W163.size.symm)
              have K172 := K156.wr W163 (Or.inr szk122)
              show Go p_ e_ below _ T159 (mkF m_ 89 #[.val (.int (0 : Int32)), .val (.ref a), .val (.int (1 : Int32)), .val (.int (3 : Int32)), .val (.ref b113), .val (.ref a), .val (.int (2 : Int32)), .val (.int (1 : Int32)), .val (.int (byt c1))] [])
              refine g_aload X161 hx rfl rfl (hb hby d17_89) 91 rfl ?_
              refine g_iloadN X161 hx rfl (hb hby d17_91) 92 rfl ?_
              refine g_iinc X161 hx (1 : Int32) rfl rfl #[.val (.int (0 : Int32)), .val (.ref a), .val (.int (1 : Int32)), .val (.int (4 : Int32)), .val (.ref b113), .val (.ref a), .val (.int (2 : Int32)), .val (.int (1 : Int32)), .val (.int (byt c1))] rfl (hb hby d17_92) 95 rfl ?_
              refine g_sipush X161 hx (128 : Int32) rfl (hb hby d17_95) 98 rfl ?_
              refine g_iload X161 hx rfl (hb hby d17_98) 100 rfl ?_
              refine g_bipush X161 hx (63 : Int32) rfl (hb hby d17_100) 102 rfl ?_
              refine g_iand X161 hx (hb hby d17_102) 103 rfl ?_
              refine g_ior X161 hx (hb hby d17_103) 104 rfl ?_
              refine g_i2b X161 hx (hb hby d17_104) 105 rfl ?_
              refine g_bastore X161 hx hZ e162 A165 (by decide) (Nat.le_of_ble_eq_true rfl) (hb hby d17_105) 106 rfl (fun T173 h174 X175 e176 W177 A178 => ?_)
              have A179 : AV Z h174 b113 .byte [(.int ((192 : Int32) ||| (((byt c0) &&& (255 : Int32)) >>> ((6 : Int32) &&& 31))).toInt8.toInt32.toInt8.toInt32), (.int ((128 : Int32) ||| ((byt c0) &&& (63 : Int32))).toInt8.toInt32.toInt8.toInt32), (.int ((192 : Int32) ||| (((byt c1) &&& (255 : Int32)) >>> ((6 : Int32) &&& 31))).toInt8.toInt32.toInt8.toInt32), (.int ((128 : Int32) ||| ((byt c1) &&& (63 : Int32))).toInt8.toInt32.toInt8.toInt32)] := A178
              have F180 := F166.other W177 ne120
              have F181 := F167.wr W177
              have F182 := A179
              have F183 := F169.wr W177
              have N184 := Fr.snoc X175 N170 sz121
              have szh185 : n0 ≤ h174.size := Nat.le_trans szh171 (Nat.le_of_eq W177.size.symm)
              have K186 := K172.wr W177 (Or.inr szk122)
              show Go p_ e_ below _ T173 (mkF m_ 106 #[.val (.int (0 : Int32)), .val (.ref a), .val (.int (1 : Int32)), .val (.int (4 : Int32)), .val (.ref b113), .val (.ref a), .val (.int (2 : Int32)), .val (.int (1 : Int32)), .val (.int (byt c1))] [])
              refine g_goto X175 hx (hb hby d17_106) 118 (by decide) rfl ?_
              refine g_iinc X175 hx (1 : Int32) rfl rfl #[.val (.int (0 : Int32)), .val (.ref a), .val (.int (1 : Int32)), .val (.int (4 : Int32)), .val (.ref b113), .val (.ref a), .val (.int (2 : Int32)), .val (.int (2 : Int32)), .val (.int (byt c1))] rfl (hb hby d17_118) 121 rfl ?_
              refine g_goto X175 hx (hb hby d17_121) 49 (by decide) rfl ?_
              refine g_iload X175 hx rfl (hb hby d17_49) 51 rfl ?_
              refine g_iload X175 hx rfl (hb hby d17_51) 53 rfl ?_
              refine g_icmp_ge X175 hx (hb hby d17_53) 124 56 (by decide) rfl rfl (fun q187 => ?_) (fun q187 => ?_)
              · refine g_iloadN X175 hx rfl (hb hby d17_124) 125 rfl ?_
                refine g_aload X175 hx rfl rfl (hb hby d17_125) 127 rfl ?_
                refine g_arraylength X175 hx hZ e176 A179 (4 : Int32) rfl (hb hby d17_127) 128 rfl ?_
                refine g_icmp_ne X175 hx (hb hby d17_128) 134 131 (by decide) rfl rfl (fun q188 => ?_) (fun q188 => ?_)
                · exact absurd rfl q188
                · refine g_aload X175 hx rfl rfl (hb hby d17_131) 133 rfl ?_
                  exact g_reta X175 hx rfl rfl hret hlk (by decide) (by decide) (hb hby d17_133) (by rw [e176]; exact ⟨b113, rfl, N184, K186, szk122, (AV.cast A179 (by rw [en_mm k0 k1, k_w0 hc0, k_w1 hc0, k_w0 hc1, k_w1 hc1])), F183⟩)
              · exact absurd q187 (by decide)
    · exact absurd q105 (by decide)
  · exact absurd q101 (by decide)
def QE (Z : State) (ks : List Int32) (h0 : Heap) (n0 : Nat) (v : Option Value) (h : Heap) (L : List Loc) : Prop := ∃ d, v = some (.ref d) ∧ Fr n0 L ∧ Keep h0 h [] ∧ h0.size ≤ d ∧ AV Z h d .byte (enc ks) ∧ Exa Z h d "[B"
theorem coE (l : Launch) (Z : State) (a0 : Array Value) (hw : ∀ d ∈ tables_1, d.before a0 Z = true) (a : Addr) (ks : List Int32) (h0 : Heap) (n0 : Nat) (Z0 : n0 ≤ h0.size) (ho : Oks ks) (A_a : AV Z h0 a .byte (raw ks)) (E_a : Exa Z h0 a "[B") : Co l (⟨"java/lang/String", "encodeUTF8", "(B[BZ)[B"⟩ : MethodName) jdk_42_method_46_code 9 (some (.array .byte)) [] ({ frames := 2, cells := 2, slots := 7, locals := 54 } : Room) Z h0 #[.int (0 : Int32), .ref a, .int (1 : Int32)] (QE Z ks h0 n0) := by
  rcases ho with rfl | ⟨c, hc, rfl⟩ | ⟨c, d, hc, hd, rfl⟩
  · exact co17_ l Z a0 hw a h0 n0 Z0 A_a E_a
  · by_cases sc : c < (128 : Int32)
    · exact co17_p l Z a0 hw a c h0 n0 Z0 A_a E_a (k_lo hc sc) hc sc
    · exact co17_m l Z a0 hw a c h0 n0 Z0 A_a E_a (k_hi hc sc) hc sc
  · by_cases sc : c < (128 : Int32)
    · by_cases sd : d < (128 : Int32)
      · exact co17_pp l Z a0 hw a c d h0 n0 Z0 A_a E_a (k_lo hc sc) (k_lo hd sd) hc hd sc sd
      · exact co17_pm l Z a0 hw a c d h0 n0 Z0 A_a E_a (k_lo hc sc) (k_hi hd sd) hc hd sc sd
    · by_cases sd : d < (128 : Int32)
      · exact co17_mp l Z a0 hw a c d h0 n0 Z0 A_a E_a (k_hi hc sc) (k_lo hd sd) hc hd sc sd
      · exact co17_mm l Z a0 hw a c d h0 n0 Z0 A_a E_a (k_hi hc sc) (k_hi hd sd) hc hd sc sd
def Q16 (Z : State) (u : Addr) (a : Addr) (ks : List Int32) (h0 : Heap) (n0 : Nat) (v : Option Value) (h : Heap) (L : List Loc) : Prop := ∃ d, v = some (.ref d) ∧ Fr n0 L ∧ Keep h0 h [] ∧ h0.size ≤ d ∧ AV Z h d .byte (enc ks) ∧ Exa Z h d "[B"
theorem ef16 (m_ : MethodId) (u : Addr) (a : Addr)  : entryFrame m_ #[(.ref u), (.int (0 : Int32)), (.ref a)] 3 = mkF m_ 0 #[.val (.ref u), .val (.int (0 : Int32)), .val (.ref a)] [] := by first | (simp [entryFrame, mkF, argsToLocals, Value.category]; done) | rfl
theorem d16_0 : decode jdk_42_method_18_code 0 = .ok (.aload_n 0, 1) := by decide +kernel
theorem d16_1 : decode jdk_42_method_18_code 1 = .ok (.getstatic 86, 3) := by decide +kernel
theorem d16_4 : decode jdk_42_method_18_code 4 = .ok (.if_acmp .ne 10, 3) := by decide +kernel
theorem d16_7 : decode jdk_42_method_18_code 7 = .ok (.iload_n 1, 1) := by decide +kernel
theorem d16_8 : decode jdk_42_method_18_code 8 = .ok (.aload_n 2, 1) := by decide +kernel
theorem d16_9 : decode jdk_42_method_18_code 9 = .ok (.iconst 1, 1) := by decide +kernel
theorem pd_6 : parseMethodDescriptor "(B[BZ)[B" = some ⟨[.byte, (.array .byte), .boolean], some (.array .byte)⟩ := by decide +kernel
theorem d16_10 : decode jdk_42_method_18_code 10 = .ok (.invokestatic 252, 3) := by decide +kernel
theorem d16_13 : decode jdk_42_method_18_code 13 = .ok (.areturn, 1) := by decide +kernel
set_option maxRecDepth 65536 in
set_option maxHeartbeats 40000000 in
theorem co16 (l : Launch) (Z : State) (a0 : Array Value) (hw : ∀ d ∈ tables_1, d.before a0 Z = true) (u : Addr) (a : Addr) (ks : List Int32) (h0 : Heap) (n0 : Nat) (Z0 : n0 ≤ h0.size)   (ho : Oks ks) (A_a : AV Z h0 a .byte (raw ks)) (E_a : Exa Z h0 a "[B") (S_i : Sta Z h0 "sun/nio/cs/UTF_8" "INSTANCE" "Lsun/nio/cs/UTF_8;" (.ref u)) : Co l (⟨"java/lang/String", "encode", "(Ljava/nio/charset/Charset;B[B)[B"⟩ : MethodName) jdk_42_method_18_code 3 (some (.array .byte)) [] ({ frames := 3, cells := 2, slots := 7, locals := 74 } : Room) Z h0 #[(.ref u), (.int (0 : Int32)), (.ref a)] (Q16 Z u a ks h0 n0) := by
  refine Co.of (plainFor_of_name pn_3) ?_
  intro p_ e_ s_ m_ below meth c_ T0 X0 hx hby hml hown hnm hret hlk hZ eq0
  have N0 := Fr.nil n0
  refine Go.cast (ef16 m_ u a ) ?_
  refine g_aloadN X0 hx rfl rfl (hb hby d16_0) 1 rfl ?_
  refine g_getstatic X0 hx hZ hown (host := "") (Or.inl (wd hw 92 rfl)) Via.refl S_i eq0 (hb hby d16_1) 4 rfl (fun T101 X102 e103 => ?_)
  show Go p_ e_ below _ T101 (mkF m_ 4 #[.val (.ref u), .val (.int (0 : Int32)), .val (.ref a)] [(.ref u), (.ref u)])
  refine g_acmp_ne X102 hx rfl rfl (hb hby d16_4) 14 7 (by decide) rfl rfl (fun q4 => ?_) (fun q4 => ?_)
  · exact absurd rfl q4
  · refine g_iloadN X102 hx rfl (hb hby d16_7) 8 rfl ?_
    refine g_aloadN X102 hx rfl rfl (hb hby d16_8) 9 rfl ?_
    refine g_iconst X102 hx (1 : Int32) rfl (hb hby d16_9) 10 rfl ?_
    refine g_callS X102 hx hZ hown (wd hw 94 rfl) (wd hw 95 rfl) (wd hw 6 rfl) (wd hw 96 rfl) (by decide) e103 [(.int (0 : Int32)), (.ref a), (.int (1 : Int32))] [] rfl (coE l Z a0 hw a ks h0 n0 Z0 ho A_a E_a) (lenOf pd_6 rfl) 0 (Nat.le_of_eq rfl) (by decide) (by decide) (by decide) (by decide) (by rw [hml]; rfl) (hb hby d16_10) 13 rfl (fun r104 T105 L106 X107 Q108 => ?_)
    unfold QE at Q108
    obtain ⟨h109, e110⟩ : ∃ h, T105.heap = h := ⟨_, rfl⟩
    rw [e110] at Q108
    obtain ⟨b111, rfl, n112, K113, g114, A115, E116⟩ := Q108
    have N117 := Fr.app N0 n112
    have ne118 : a ≠ b111 := Nat.ne_of_lt (Nat.lt_of_lt_of_le A_a.lt g114)
    have sz119 : n0 ≤ b111 := Nat.le_trans Z0 g114
    have szk120 : h0.size ≤ b111 := Nat.le_trans (Keep.refl h0 []).1 g114
    have F121 := A_a.keep K113 nin0
    have F122 := E_a.keep K113
    have F123 := own_sta_keep S_i K113 ns0
    have szh124 : n0 ≤ h109.size := Nat.le_trans Z0 K113.1
    have K125 := (Keep.refl h0 []).trans K113 all0
    show Go p_ e_ below _ T105 (mkF m_ 13 #[.val (.ref u), .val (.int (0 : Int32)), .val (.ref a)] [(.ref b111)])
    exact g_reta X107 hx rfl rfl hret hlk (by decide) (by decide) (hb hby d16_13) (by rw [e110]; exact ⟨b111, rfl, N117, K125, szk120, A115, E116⟩)
theorem ef15 (m_ : MethodId) (r : Addr)  : entryFrame m_ #[(.ref r)] 1 = mkF m_ 0 #[.val (.ref r)] [] := by first | (simp [entryFrame, mkF, argsToLocals, Value.category]; done) | rfl
theorem d15_0 : decode jdk_42_method_152_code 0 = .ok (.getstatic 38, 3) := by decide +kernel
theorem d15_3 : decode jdk_42_method_152_code 3 = .ok (.ifCond .eq 10, 3) := by decide +kernel
theorem d15_6 : decode jdk_42_method_152_code 6 = .ok (.aload_n 0, 1) := by decide +kernel
theorem d15_7 : decode jdk_42_method_152_code 7 = .ok (.getfield 15, 3) := by decide +kernel
theorem d15_10 : decode jdk_42_method_152_code 10 = .ok (.goto 4, 3) := by decide +kernel
theorem d15_14 : decode jdk_42_method_152_code 14 = .ok (.ireturn, 1) := by decide +kernel
set_option maxRecDepth 65536 in
set_option maxHeartbeats 40000000 in
theorem co15 (l : Launch) (Z : State) (a0 : Array Value) (hw : ∀ d ∈ tables_1, d.before a0 Z = true) (r : Addr) (cs : Int32) (h0 : Heap) (E_r : Exa Z h0 r "java/lang/String") (F_c : Fld Z h0 r "java/lang/String" "coder" "B" (.int (0 : Int32))) (S_cs : Sta Z h0 "java/lang/String" "COMPACT_STRINGS" "Z" (.int cs)) (hcs : ¬ cs = (0 : Int32)) : Co l (⟨"java/lang/String", "coder", "()B"⟩ : MethodName) jdk_42_method_152_code 1 (some .byte) [] ({ frames := 0, cells := 0, slots := 0, locals := 0 } : Room) Z h0 #[(.ref r)] (Pu h0 (some (.int ((0 : Int32) )))) := by
  refine Co.of (plainFor_of_name pn_3) ?_
  intro p_ e_ s_ m_ below meth c_ T0 X0 hx hby hml hown hnm hret hlk hZ eq0
  refine Go.cast (ef15 m_ r ) ?_
  refine g_getstatic X0 hx hZ hown (host := "") (Or.inl (wd hw 61 rfl)) Via.refl S_cs eq0 (hb hby d15_0) 3 rfl (fun T101 X102 e103 => ?_)
  show Go p_ e_ below _ T101 (mkF m_ 3 #[.val (.ref r)] [(.int cs)])
  refine g_if_eq X102 hx (hb hby d15_3) 13 6 (by decide) rfl rfl (fun q3 => ?_) (fun q3 => ?_)
  · exact absurd q3 hcs
  · refine g_aloadN X102 hx rfl rfl (hb hby d15_6) 7 rfl ?_
    refine g_getfield X102 hx hZ hown (host := "") (Or.inl (wd hw 25 rfl)) Via.refl F_c e103 (hb hby d15_7) 10 rfl (fun T104 X105 e106 => ?_)
    show Go p_ e_ below _ T104 (mkF m_ 10 #[.val (.ref r)] [(.int (0 : Int32))])
    refine g_goto X105 hx (hb hby d15_10) 14 (by decide) rfl ?_
    exact g_retb X105 hx hret hlk (by decide) (by decide) (hb hby d15_14) ⟨congrArg (fun z => some (Value.int z)) rfl, e106, rfl⟩
def Q14 (Z : State) (r : Addr) (u : Addr) (b : Addr) (ks : List Int32) (cs : Int32) (h0 : Heap) (n0 : Nat) (v : Option Value) (h : Heap) (L : List Loc) : Prop := ∃ d, v = some (.ref d) ∧ Fr n0 L ∧ Keep h0 h [] ∧ h0.size ≤ d ∧ AV Z h d .byte (enc ks) ∧ Exa Z h d "[B"
theorem ef14 (m_ : MethodId) (r : Addr) (u : Addr)  : entryFrame m_ #[(.ref r), (.ref u)] 2 = mkF m_ 0 #[.val (.ref r), .val (.ref u)] [] := by first | (simp [entryFrame, mkF, argsToLocals, Value.category]; done) | rfl
theorem d14_0 : decode jdk_42_method_64_code 0 = .ok (.aload_n 1, 1) := by decide +kernel
theorem d14_1 : decode jdk_42_method_64_code 1 = .ok (.ifnonnull 11, 3) := by decide +kernel
theorem d14_12 : decode jdk_42_method_64_code 12 = .ok (.aload_n 1, 1) := by decide +kernel
theorem d14_13 : decode jdk_42_method_64_code 13 = .ok (.aload_n 0, 1) := by decide +kernel
theorem pd_7 : parseMethodDescriptor "()B" = some ⟨[], some .byte⟩ := by decide +kernel
theorem d14_14 : decode jdk_42_method_64_code 14 = .ok (.invokevirtual 335, 3) := by decide +kernel
theorem d14_17 : decode jdk_42_method_64_code 17 = .ok (.aload_n 0, 1) := by decide +kernel
theorem d14_18 : decode jdk_42_method_64_code 18 = .ok (.getfield 9, 3) := by decide +kernel
theorem pd_8 : parseMethodDescriptor "(Ljava/nio/charset/Charset;B[B)[B" = some ⟨[(.object "java/nio/charset/Charset"), .byte, (.array .byte)], some (.array .byte)⟩ := by decide +kernel
theorem d14_21 : decode jdk_42_method_64_code 21 = .ok (.invokestatic 535, 3) := by decide +kernel
theorem d14_24 : decode jdk_42_method_64_code 24 = .ok (.areturn, 1) := by decide +kernel
set_option maxRecDepth 65536 in
set_option maxHeartbeats 40000000 in
theorem co14 (l : Launch) (Z : State) (a0 : Array Value) (hw : ∀ d ∈ tables_1, d.before a0 Z = true) (r : Addr) (u : Addr) (b : Addr) (ks : List Int32) (cs : Int32) (h0 : Heap) (n0 : Nat) (Z0 : n0 ≤ h0.size)   (E_r : Exa Z h0 r "java/lang/String") (F_c : Fld Z h0 r "java/lang/String" "coder" "B" (.int (0 : Int32))) (F_v : Fld Z h0 r "java/lang/String" "value" "[B" (.ref b)) (A_b : AV Z h0 b .byte (raw ks)) (E_b : Exa Z h0 b "[B") (ho : Oks ks) (S_cs : Sta Z h0 "java/lang/String" "COMPACT_STRINGS" "Z" (.int cs)) (hcs : ¬ cs = (0 : Int32)) (S_i : Sta Z h0 "sun/nio/cs/UTF_8" "INSTANCE" "Lsun/nio/cs/UTF_8;" (.ref u)) : Co l (⟨"java/lang/String", "getBytes", "(Ljava/nio/charset/Charset;)[B"⟩ : MethodName) jdk_42_method_64_code 2 (some (.array .byte)) [] ({ frames := 4, cells := 2, slots := 7, locals := 88 } : Room) Z h0 #[(.ref r), (.ref u)] (Q14 Z r u b ks cs h0 n0) := by
  refine Co.of (plainFor_of_name pn_3) ?_
  intro p_ e_ s_ m_ below meth c_ T0 X0 hx hby hml hown hnm hret hlk hZ eq0
  have N0 := Fr.nil n0
  refine Go.cast (ef14 m_ r u ) ?_
  refine g_aloadN X0 hx rfl rfl (hb hby d14_0) 1 rfl ?_
  refine g_ifnonnull X0 hx rfl (hb hby d14_1) 12 4 (by decide) rfl rfl (fun q1 => ?_) (fun q1 => ?_)
  · refine g_aloadN X0 hx rfl rfl (hb hby d14_12) 13 rfl ?_
    refine g_aloadN X0 hx rfl rfl (hb hby d14_13) 14 rfl ?_
    refine g_callV X0 hx hZ hown (wd hw 84 rfl) (C := "java/lang/String") (wd hw 85 rfl) (wd hw 87 rfl) (wd hw 86 rfl) (wd hw 6 rfl) (wd hw 88 rfl) (by decide) eq0 [] [(.ref u)] E_r rfl (co15 l Z a0 hw r cs h0 E_r F_c S_cs hcs) (lenOf pd_7 rfl) 1 (Nat.le_of_eq rfl) (by decide) (by decide) (by decide) (by decide) (by rw [hml]; rfl) (hb hby d14_14) 17 rfl (pu_cont fun T102 X101 e103 => ?_)
    show Go p_ e_ below _ T102 (mkF m_ 17 #[.val (.ref r), .val (.ref u)] [(.int (0 : Int32)), (.ref u)])
    refine g_aloadN X101 hx rfl rfl (hb hby d14_17) 18 rfl ?_
    refine g_getfield X101 hx hZ hown (host := "") (Or.inl (wd hw 24 rfl)) Via.refl F_v e103 (hb hby d14_18) 21 rfl (fun T104 X105 e106 => ?_)
    show Go p_ e_ below _ T104 (mkF m_ 21 #[.val (.ref r), .val (.ref u)] [(.ref b), (.int (0 : Int32)), (.ref u)])
    refine g_callS X105 hx hZ hown (wd hw 89 rfl) (wd hw 90 rfl) (wd hw 6 rfl) (wd hw 91 rfl) (by decide) e106 [(.ref u), (.int (0 : Int32)), (.ref b)] [] rfl (co16 l Z a0 hw u b ks h0 n0 Z0 ho A_b E_b S_i) (lenOf pd_8 rfl) 0 (Nat.le_of_eq rfl) (by decide) (by decide) (by decide) (by decide) (by rw [hml]; rfl) (hb hby d14_21) 24 rfl (fun r107 T108 L109 X110 Q111 => ?_)
    obtain ⟨h112, e113⟩ : ∃ h, T108.heap = h := ⟨_, rfl⟩
    rw [e113] at Q111
    obtain ⟨b114, rfl, n115, K116, g117, A118, E119⟩ := Q111
    have N120 := Fr.app N0 n115
    have ne121 : b ≠ b114 := Nat.ne_of_lt (Nat.lt_of_lt_of_le A_b.lt g117)
    have ne122 : r ≠ b114 := Nat.ne_of_lt (Nat.lt_of_lt_of_le E_r.lt g117)
    have sz123 : n0 ≤ b114 := Nat.le_trans Z0 g117
    have szk124 : h0.size ≤ b114 := Nat.le_trans (Keep.refl h0 []).1 g117
    have F125 := E_r.keep K116
    have F126 := F_c.keep K116 nin0
    have F127 := F_v.keep K116 nin0
    have F128 := A_b.keep K116 nin0
    have F129 := E_b.keep K116
    have F130 := own_sta_keep S_cs K116 ns0
    have F131 := own_sta_keep S_i K116 ns0
    have szh132 : n0 ≤ h112.size := Nat.le_trans Z0 K116.1
    have K133 := (Keep.refl h0 []).trans K116 all0
    show Go p_ e_ below _ T108 (mkF m_ 24 #[.val (.ref r), .val (.ref u)] [(.ref b114)])
    exact g_reta X110 hx rfl rfl hret hlk (by decide) (by decide) (hb hby d14_24) (by rw [e113]; exact ⟨b114, rfl, N120, K133, szk124, A118, E119⟩)
  · exact (by cases q1)
def Q13 (Z : State) (r : Addr) (b : Addr) (ks : List Int32) (cs : Int32) (u : Addr) (h0 : Heap) (n0 : Nat) (v : Option Value) (h : Heap) (L : List Loc) : Prop := ∃ d, v = some (.ref d) ∧ Fr n0 L ∧ Keep h0 h [] ∧ h0.size ≤ d ∧ AV Z h d .byte (enc ks) ∧ Exa Z h d "[B"
theorem ef13 (m_ : MethodId) (r : Addr)  : entryFrame m_ #[(.ref r)] 1 = mkF m_ 0 #[.val (.ref r)] [] := by first | (simp [entryFrame, mkF, argsToLocals, Value.category]; done) | rfl
theorem pn_4 : plainName "com/example/bindwick/bindwick/Attribute" = true := by first | (simp [plainName, overriddenIn]; done) | decide +kernel
theorem d13_0 : decode prog_25_method_13_code 0 = .ok (.aload_n 0, 1) := by decide +kernel
theorem d13_1 : decode prog_25_method_13_code 1 = .ok (.getstatic 66, 3) := by decide +kernel
theorem pd_9 : parseMethodDescriptor "(Ljava/nio/charset/Charset;)[B" = some ⟨[(.object "java/nio/charset/Charset")], some (.array .byte)⟩ := by decide +kernel
theorem d13_4 : decode prog_25_method_13_code 4 = .ok (.invokevirtual 98, 3) := by decide +kernel
theorem d13_7 : decode prog_25_method_13_code 7 = .ok (.areturn, 1) := by decide +kernel
set_option maxRecDepth 65536 in
set_option maxHeartbeats 40000000 in
theorem co13 (l : Launch) (Z : State) (a0 : Array Value) (hw : ∀ d ∈ tables_1, d.before a0 Z = true) (r : Addr) (b : Addr) (ks : List Int32) (cs : Int32) (u : Addr) (h0 : Heap) (n0 : Nat) (Z0 : n0 ≤ h0.size)   (E_r : Exa Z h0 r "java/lang/String") (F_c : Fld Z h0 r "java/lang/String" "coder" "B" (.int (0 : Int32))) (F_v : Fld Z h0 r "java/lang/String" "value" "[B" (.ref b)) (A_b : AV Z h0 b .byte (raw ks)) (E_b : Exa Z h0 b "[B") (ho : Oks ks) (S_cs : Sta Z h0 "java/lang/String" "COMPACT_STRINGS" "Z" (.int cs)) (hcs : ¬ cs = (0 : Int32)) (S_i : Sta Z h0 "sun/nio/cs/UTF_8" "INSTANCE" "Lsun/nio/cs/UTF_8;" (.ref u)) (S_u : Sta Z h0 "java/nio/charset/StandardCharsets" "UTF_8" "Ljava/nio/charset/Charset;" (.ref u)) : Co l (⟨"com/example/bindwick/bindwick/Attribute", "lambda$new$0", "(Ljava/lang/String;)[B"⟩ : MethodName) prog_25_method_13_code 1 (some (.array .byte)) [] ({ frames := 5, cells := 2, slots := 7, locals := 101 } : Room) Z h0 #[(.ref r)] (Q13 Z r b ks cs u h0 n0) := by
  refine Co.of (plainFor_of_name pn_4) ?_
  intro p_ e_ s_ m_ below meth c_ T0 X0 hx hby hml hown hnm hret hlk hZ eq0
  have N0 := Fr.nil n0
  refine Go.cast (ef13 m_ r ) ?_
  refine g_aloadN X0 hx rfl rfl (hb hby d13_0) 1 rfl ?_
  refine g_getstatic X0 hx hZ hown (host := "") (Or.inl (wd hw 77 rfl)) Via.refl S_u eq0 (hb hby d13_1) 4 rfl (fun T101 X102 e103 => ?_)
  show Go p_ e_ below _ T101 (mkF m_ 4 #[.val (.ref r)] [(.ref u), (.ref r)])
  refine g_callV X102 hx hZ hown (wd hw 79 rfl) (C := "java/lang/String") (wd hw 80 rfl) (wd hw 82 rfl) (wd hw 81 rfl) (wd hw 6 rfl) (wd hw 83 rfl) (by decide) e103 [(.ref u)] [] E_r rfl (co14 l Z a0 hw r u b ks cs h0 n0 Z0 E_r F_c F_v A_b E_b ho S_cs hcs S_i) (lenOf pd_9 rfl) 0 (Nat.le_of_eq rfl) (by decide) (by decide) (by decide) (by decide) (by rw [hml]; rfl) (hb hby d13_4) 7 rfl (fun r104 T105 L106 X107 Q108 => ?_)
  obtain ⟨h109, e110⟩ : ∃ h, T105.heap = h := ⟨_, rfl⟩
  rw [e110] at Q108
  obtain ⟨b111, rfl, n112, K113, g114, A115, E116⟩ := Q108
  have N117 := Fr.app N0 n112
  have ne118 : b ≠ b111 := Nat.ne_of_lt (Nat.lt_of_lt_of_le A_b.lt g114)
  have ne119 : r ≠ b111 := Nat.ne_of_lt (Nat.lt_of_lt_of_le E_r.lt g114)
  have sz120 : n0 ≤ b111 := Nat.le_trans Z0 g114
  have szk121 : h0.size ≤ b111 := Nat.le_trans (Keep.refl h0 []).1 g114
  have F122 := E_r.keep K113
  have F123 := F_c.keep K113 nin0
  have F124 := F_v.keep K113 nin0
  have F125 := A_b.keep K113 nin0
  have F126 := E_b.keep K113
  have F127 := own_sta_keep S_cs K113 ns0
  have F128 := own_sta_keep S_i K113 ns0
  have F129 := own_sta_keep S_u K113 ns0
  have szh130 : n0 ≤ h109.size := Nat.le_trans Z0 K113.1
  have K131 := (Keep.refl h0 []).trans K113 all0
  show Go p_ e_ below _ T105 (mkF m_ 7 #[.val (.ref r)] [(.ref b111)])
  exact g_reta X107 hx rfl rfl hret hlk (by decide) (by decide) (hb hby d13_7) (by rw [e110]; exact ⟨b111, rfl, N117, K131, szk121, A115, E116⟩)
theorem ef6 (m_ : MethodId) (o : Addr) (q : Addr)  : entryFrame m_ #[(.ref o), (.ref q)] 2 = mkF m_ 0 #[.val (.ref o), .val (.ref q)] [] := by first | (simp [entryFrame, mkF, argsToLocals, Value.category]; done) | rfl
theorem pn_5 : plainName "com/example/bindwick/bindwick/LDAPException" = true := by first | (simp [plainName, overriddenIn]; done) | decide +kernel
theorem d6_0 : decode prog_72_method_7_code 0 = .ok (.aload_n 0, 1) := by decide +kernel
theorem d6_1 : decode prog_72_method_7_code 1 = .ok (.ifnonnull 20, 3) := by decide +kernel
theorem d6_21 : decode prog_72_method_7_code 21 = .ok (.aload_n 0, 1) := by decide +kernel
theorem d6_22 : decode prog_72_method_7_code 22 = .ok (.areturn, 1) := by decide +kernel
set_option maxRecDepth 65536 in
set_option maxHeartbeats 40000000 in
theorem co6 (l : Launch) (Z : State) (a0 : Array Value) (hw : ∀ d ∈ tables_1, d.before a0 Z = true) (o : Addr) (q : Addr) (h0 : Heap)  : Co l (⟨"com/example/bindwick/bindwick/LDAPException", "requireArgument", "(Ljava/lang/Object;Ljava/lang/String;)Ljava/lang/Object;"⟩ : MethodName) prog_72_method_7_code 2 (some (.object "java/lang/Object")) [] ({ frames := 0, cells := 0, slots := 0, locals := 0 } : Room) Z h0 #[(.ref o), (.ref q)] (Pu h0 (some (.ref (o )))) := by
  refine Co.of (plainFor_of_name pn_5) ?_
  intro p_ e_ s_ m_ below meth c_ T0 X0 hx hby hml hown hnm hret hlk hZ eq0
  refine Go.cast (ef6 m_ o q ) ?_
  refine g_aloadN X0 hx rfl rfl (hb hby d6_0) 1 rfl ?_
  refine g_ifnonnull X0 hx rfl (hb hby d6_1) 21 4 (by decide) rfl rfl (fun q1 => ?_) (fun q1 => ?_)
  · refine g_aloadN X0 hx rfl rfl (hb hby d6_21) 22 rfl ?_
    exact g_reta X0 hx rfl rfl hret hlk (by decide) (by decide) (hb hby d6_22) ⟨congrArg (fun z => some (Value.ref z)) rfl, eq0, rfl⟩
  · exact (by cases q1)
def Q7_0 (Z : State) (va : Addr) (fa : Addr) (cs : Int32) (u : Addr) (cK : ClassId) (h0 : Heap) (n0 : Nat) (v : Option Value) (h : Heap) (L : List Loc) : Prop := ∃ d, v = some (.ref d) ∧ Fr n0 L ∧ Keep h0 h [] ∧ h0.size ≤ d ∧ AV Z h d (.array .byte) []
theorem ef7_0 (m_ : MethodId) (va : Addr) (fa : Addr)  : entryFrame m_ #[(.ref va), (.ref fa)] 4 = mkF m_ 0 #[.val (.ref va), .val (.ref fa), .unset, .unset] [] := by first | (simp [entryFrame, mkF, argsToLocals, Value.category]; done) | rfl
theorem d7_0 : decode prog_25_method_4_code 0 = .ok (.aload_n 0, 1) := by decide +kernel
theorem d7_1 : decode prog_25_method_4_code 1 = .ok (.ldc 42, 2) := by decide +kernel
theorem pd_10 : parseMethodDescriptor "(Ljava/lang/Object;Ljava/lang/String;)Ljava/lang/Object;" = some ⟨[(.object "java/lang/Object"), (.object "java/lang/String")], some (.object "java/lang/Object")⟩ := by decide +kernel
theorem d7_3 : decode prog_25_method_4_code 3 = .ok (.invokestatic 9, 3) := by decide +kernel
theorem d7_6 : decode prog_25_method_4_code 6 = .ok (.pop, 1) := by decide +kernel
theorem d7_7 : decode prog_25_method_4_code 7 = .ok (.aload_n 0, 1) := by decide +kernel
theorem d7_8 : decode prog_25_method_4_code 8 = .ok (.arraylength, 1) := by decide +kernel
theorem d7_9 : decode prog_25_method_4_code 9 = .ok (.anewarray 33, 3) := by decide +kernel
theorem d7_12 : decode prog_25_method_4_code 12 = .ok (.astore_n 2, 1) := by decide +kernel
theorem d7_13 : decode prog_25_method_4_code 13 = .ok (.iconst 0, 1) := by decide +kernel
theorem d7_14 : decode prog_25_method_4_code 14 = .ok (.istore_n 3, 1) := by decide +kernel
theorem d7_15 : decode prog_25_method_4_code 15 = .ok (.iload_n 3, 1) := by decide +kernel
theorem d7_16 : decode prog_25_method_4_code 16 = .ok (.aload_n 0, 1) := by decide +kernel
theorem d7_17 : decode prog_25_method_4_code 17 = .ok (.arraylength, 1) := by decide +kernel
theorem d7_18 : decode prog_25_method_4_code 18 = .ok (.if_icmp .ge 33, 3) := by decide +kernel
theorem d7_51 : decode prog_25_method_4_code 51 = .ok (.aload_n 2, 1) := by decide +kernel
theorem d7_52 : decode prog_25_method_4_code 52 = .ok (.areturn, 1) := by decide +kernel
set_option maxRecDepth 65536 in
set_option maxHeartbeats 40000000 in
theorem co7_0 (l : Launch) (Z : State) (a0 : Array Value) (hw : ∀ d ∈ tables_1, d.before a0 Z = true) (hEL : EW Z a0 EL) (va : Addr) (fa : Addr) (cs : Int32) (u : Addr) (cK : ClassId) (h0 : Heap) (n0 : Nat) (Z0 : n0 ≤ h0.size)   (A_v : AV Z h0 va (.object "java/lang/String") []) (S_cs : Sta Z h0 "java/lang/String" "COMPACT_STRINGS" "Z" (.int cs)) (hcs : ¬ cs = (0 : Int32)) (S_i : Sta Z h0 "sun/nio/cs/UTF_8" "INSTANCE" "Lsun/nio/cs/UTF_8;" (.ref u)) (S_u : Sta Z h0 "java/nio/charset/StandardCharsets" "UTF_8" "Ljava/nio/charset/Charset;" (.ref u)) (Fn : Fna h0 fa cK) (hmd : Jvm.LamKit.Made Z "com/example/bindwick/bindwick/Attribute" Sg cK) : CoH l (⟨"com/example/bindwick/bindwick/Attribute", "toOctets", "([Ljava/lang/Object;Ljava/util/function/Function;)[[B"⟩ : MethodName) prog_25_method_4_code 4 (some (.array (.array .byte))) [] ({ frames := 7, cells := 3, slots := 28, locals := 140 } : Room) Z EL h0 #[(.ref va), (.ref fa)] (Q7_0 Z va fa cs u cK h0 n0) := by
  refine CoH.of (plainFor_of_name pn_4) ?_
  intro p_ e_ s_ m_ below meth c_ T0 X0 hx hby hml hown hnm hret hlk hZ eq0 hs0 hS H
  have N0 := Fr.nil n0
  have hk0 := Nat.le_refl h0.size
  refine Go.cast (ef7_0 m_ va fa ) ?_
  refine g_aloadN X0 hx rfl rfl (hb hby d7_0) 1 rfl ?_
  refine g_ldcO X0 hx hown (wd hw 48 rfl) (own_wS hw) eq0 hZ hS hk0 hEL H (hb hby d7_1) (n := 24) (by decide) (by decide) (by decide) (by decide) 3 rfl (fun b103 T101 h102 k105 X106 e107 E108 hZ hown hS hk0 H => ?_)
  have F109 := A_v.ext E108
  have F110 := S_cs.ext E108
  have F111 := S_i.ext E108
  have F112 := S_u.ext E108
  have F113 := Fn.ext E108
  have szh114 : n0 ≤ h102.size := Nat.le_trans Z0 E108.1
  have K115 := (Keep.refl h0 []).ext E108
  show Go p_ e_ below _ T101 (mkF m_ 3 #[.val (.ref va), .val (.ref fa), .unset, .unset] [(.ref b103), (.ref va)])
  refine g_callS X106 hx hZ hown (wd hw 36 rfl) (wd hw 37 rfl) (wd hw 38 rfl) (wd hw 39 rfl) (by decide) e107 [(.ref va), (.ref b103)] []  rfl (co6 l Z a0 hw va b103  h102 ) (lenOf pd_10 rfl) 0 (Nat.le_of_eq rfl) (by decide) (by decide) (by decide) (by decide) (by rw [hml]; rfl) (hb hby d7_3) 6 rfl (pu_cont fun T117 X116 e118 => ?_)
  show Go p_ e_ below _ T117 (mkF m_ 6 #[.val (.ref va), .val (.ref fa), .unset, .unset] [(.ref va)])
  refine g_pop X116 hx rfl (hb hby d7_6) 7 rfl ?_
  refine g_aloadN X116 hx rfl rfl (hb hby d7_7) 8 rfl ?_
  refine g_arraylength X116 hx hZ e118 F109 (0 : Int32) rfl (hb hby d7_8) 9 rfl ?_
  refine g_anewarrayA X116 hx hZ hown (ty := .byte) own_bn2 (wd hw 49 rfl) (wd hw 50 rfl) e118 (by decide) 0 (by decide) (by decide) (by decide) (by decide) [] rfl (hb hby d7_9) 12 rfl (fun T119 h120 b121 X122 e123 g124 E125 A126 O127 => ?_)
  have ne128 : fa ≠ b121 := Nat.ne_of_lt (Nat.lt_of_lt_of_eq F113.lt g124.symm)
  have ne129 : va ≠ b121 := Nat.ne_of_lt (Nat.lt_of_lt_of_eq F109.lt g124.symm)
  have F130 := F109.ext E125
  have F131 := F110.ext E125
  have F132 := F111.ext E125
  have F133 := F112.ext E125
  have F134 := F113.ext E125
  have sz135 : n0 ≤ b121 := Nat.le_trans szh114 (Nat.le_of_eq g124.symm)
  have szh136 : n0 ≤ h120.size := Nat.le_trans szh114 E125.1
  have szk137 : h0.size ≤ b121 := Nat.le_trans K115.1 (Nat.le_of_eq g124.symm)
  have K138 := K115.ext E125
  have H := H.trans (CHr.ext E125 H.1)
  have hk0 := Nat.le_trans hk0 E125.1
  show Go p_ e_ below _ T119 (mkF m_ 12 #[.val (.ref va), .val (.ref fa), .unset, .unset] [(.ref b121)])
  refine g_astoreN X122 hx #[.val (.ref va), .val (.ref fa), .val (.ref b121), .unset] rfl rfl (hb hby d7_12) 13 rfl ?_
  refine g_iconst X122 hx (0 : Int32) rfl (hb hby d7_13) 14 rfl ?_
  refine g_istoreN X122 hx #[.val (.ref va), .val (.ref fa), .val (.ref b121), .val (.int (0 : Int32))] rfl (hb hby d7_14) 15 rfl ?_
  refine g_iloadN X122 hx rfl (hb hby d7_15) 16 rfl ?_
  refine g_aloadN X122 hx rfl rfl (hb hby d7_16) 17 rfl ?_
  refine g_arraylength X122 hx hZ e123 F130 (0 : Int32) rfl (hb hby d7_17) 18 rfl ?_
  refine g_icmp_ge X122 hx (hb hby d7_18) 51 21 (by decide) rfl rfl (fun q139 => ?_) (fun q139 => ?_)
  · refine g_aloadN X122 hx rfl rfl (hb hby d7_51) 52 rfl ?_
    exact g_retaH X122 hx rfl rfl hret hlk (by decide) (by decide) (hb hby d7_52) e123 hZ hS hk0 hEL H ⟨b121, rfl, N0, K138, szk137, A126⟩
  · exact absurd q139 (by decide)
def Q7_1 (Z : State) (va : Addr) (fa : Addr) (r0 : Addr) (b0 : Addr) (ks0 : List Int32) (cs : Int32) (u : Addr) (cK : ClassId) (h0 : Heap) (n0 : Nat) (v : Option Value) (h : Heap) (L : List Loc) : Prop := ∃ d e0, v = some (.ref d) ∧ Fr n0 L ∧ Keep h0 h [] ∧ h0.size ≤ d ∧ h0.size ≤ e0 ∧ AV Z h d (.array .byte) [(.ref e0)] ∧ AV Z h e0 .byte (enc ks0) ∧ Exa Z h e0 "[B"
theorem ef7_1 (m_ : MethodId) (va : Addr) (fa : Addr)  : entryFrame m_ #[(.ref va), (.ref fa)] 4 = mkF m_ 0 #[.val (.ref va), .val (.ref fa), .unset, .unset] [] := by first | (simp [entryFrame, mkF, argsToLocals, Value.category]; done) | rfl
theorem d7_21 : decode prog_25_method_4_code 21 = .ok (.aload_n 0, 1) := by decide +kernel
theorem d7_22 : decode prog_25_method_4_code 22 = .ok (.iload_n 3, 1) := by decide +kernel
theorem d7_23 : decode prog_25_method_4_code 23 = .ok (.aaload, 1) := by decide +kernel
theorem d7_24 : decode prog_25_method_4_code 24 = .ok (.ldc 42, 2) := by decide +kernel
theorem d7_26 : decode prog_25_method_4_code 26 = .ok (.invokestatic 9, 3) := by decide +kernel
theorem d7_29 : decode prog_25_method_4_code 29 = .ok (.pop, 1) := by decide +kernel
theorem d7_30 : decode prog_25_method_4_code 30 = .ok (.aload_n 2, 1) := by decide +kernel
theorem d7_31 : decode prog_25_method_4_code 31 = .ok (.iload_n 3, 1) := by decide +kernel
theorem d7_32 : decode prog_25_method_4_code 32 = .ok (.aload_n 1, 1) := by decide +kernel
theorem d7_33 : decode prog_25_method_4_code 33 = .ok (.aload_n 0, 1) := by decide +kernel
theorem d7_34 : decode prog_25_method_4_code 34 = .ok (.iload_n 3, 1) := by decide +kernel
theorem d7_35 : decode prog_25_method_4_code 35 = .ok (.aaload, 1) := by decide +kernel
theorem d7_36 : decode prog_25_method_4_code 36 = .ok (.invokeinterface 43 2, 5) := by decide +kernel
theorem d7_41 : decode prog_25_method_4_code 41 = .ok (.checkcast 33, 3) := by decide +kernel
theorem d7_44 : decode prog_25_method_4_code 44 = .ok (.aastore, 1) := by decide +kernel
theorem d7_45 : decode prog_25_method_4_code 45 = .ok (.iinc 3 1, 3) := by decide +kernel
theorem d7_48 : decode prog_25_method_4_code 48 = .ok (.goto (-33), 3) := by decide +kernel
set_option maxRecDepth 65536 in
set_option maxHeartbeats 40000000 in
theorem co7_1 (l : Launch) (Z : State) (a0 : Array Value) (hw : ∀ d ∈ tables_1, d.before a0 Z = true) (hEL : EW Z a0 EL) (va : Addr) (fa : Addr) (r0 : Addr) (b0 : Addr) (ks0 : List Int32) (cs : Int32) (u : Addr) (cK : ClassId) (h0 : Heap) (n0 : Nat) (Z0 : n0 ≤ h0.size)   (A_v : AV Z h0 va (.object "java/lang/String") [(.ref r0)]) (E_r0 : Exa Z h0 r0 "java/lang/String") (F_c0 : Fld Z h0 r0 "java/lang/String" "coder" "B" (.int (0 : Int32))) (F_v0 : Fld Z h0 r0 "java/lang/String" "value" "[B" (.ref b0)) (A_b0 : AV Z h0 b0 .byte (raw ks0)) (E_b0 : Exa Z h0 b0 "[B") (ho0 : Oks ks0) (S_cs : Sta Z h0 "java/lang/String" "COMPACT_STRINGS" "Z" (.int cs)) (hcs : ¬ cs = (0 : Int32)) (S_i : Sta Z h0 "sun/nio/cs/UTF_8" "INSTANCE" "Lsun/nio/cs/UTF_8;" (.ref u)) (S_u : Sta Z h0 "java/nio/charset/StandardCharsets" "UTF_8" "Ljava/nio/charset/Charset;" (.ref u)) (Fn : Fna h0 fa cK) (hmd : Jvm.LamKit.Made Z "com/example/bindwick/bindwick/Attribute" Sg cK) : CoH l (⟨"com/example/bindwick/bindwick/Attribute", "toOctets", "([Ljava/lang/Object;Ljava/util/function/Function;)[[B"⟩ : MethodName) prog_25_method_4_code 4 (some (.array (.array .byte))) [] ({ frames := 7, cells := 7, slots := 64, locals := 140 } : Room) Z EL h0 #[(.ref va), (.ref fa)] (Q7_1 Z va fa r0 b0 ks0 cs u cK h0 n0) := by
  refine CoH.of (plainFor_of_name pn_4) ?_
  intro p_ e_ s_ m_ below meth c_ T0 X0 hx hby hml hown hnm hret hlk hZ eq0 hs0 hS H
  have N0 := Fr.nil n0
  have hk0 := Nat.le_refl h0.size
  refine Go.cast (ef7_1 m_ va fa ) ?_
  refine g_aloadN X0 hx rfl rfl (hb hby d7_0) 1 rfl ?_
  refine g_ldcO X0 hx hown (wd hw 48 rfl) (own_wS hw) eq0 hZ hS hk0 hEL H (hb hby d7_1) (n := 24) (by decide) (by decide) (by decide) (by decide) 3 rfl (fun b103 T101 h102 k105 X106 e107 E108 hZ hown hS hk0 H => ?_)
  have F109 := A_v.ext E108
  have F110 := E_r0.ext E108
  have F111 := F_c0.ext E108
  have F112 := F_v0.ext E108
  have F113 := A_b0.ext E108
  have F114 := E_b0.ext E108
  have F115 := S_cs.ext E108
  have F116 := S_i.ext E108
  have F117 := S_u.ext E108
  have F118 := Fn.ext E108
  have szh119 : n0 ≤ h102.size := Nat.le_trans Z0 E108.1
  have K120 := (Keep.refl h0 []).ext E108
  show Go p_ e_ below _ T101 (mkF m_ 3 #[.val (.ref va), .val (.ref fa), .unset, .unset] [(.ref b103), (.ref va)])
  refine g_callS X106 hx hZ hown (wd hw 36 rfl) (wd hw 37 rfl) (wd hw 38 rfl) (wd hw 39 rfl) (by decide) e107 [(.ref va), (.ref b103)] []  rfl (co6 l Z a0 hw va b103  h102 ) (lenOf pd_10 rfl) 0 (Nat.le_of_eq rfl) (by decide) (by decide) (by decide) (by decide) (by rw [hml]; rfl) (hb hby d7_3) 6 rfl (pu_cont fun T122 X121 e123 => ?_)
  show Go p_ e_ below _ T122 (mkF m_ 6 #[.val (.ref va), .val (.ref fa), .unset, .unset] [(.ref va)])
  refine g_pop X121 hx rfl (hb hby d7_6) 7 rfl ?_
  refine g_aloadN X121 hx rfl rfl (hb hby d7_7) 8 rfl ?_
  refine g_arraylength X121 hx hZ e123 F109 (1 : Int32) rfl (hb hby d7_8) 9 rfl ?_
  refine g_anewarrayA X121 hx hZ hown (ty := .byte) own_bn2 (wd hw 49 rfl) (wd hw 50 rfl) e123 (by decide) 1 (by decide) (by decide) (by decide) (by decide) [.null] rfl (hb hby d7_9) 12 rfl (fun T124 h125 b126 X127 e128 g129 E130 A131 O132 => ?_)
  have ne133 : b0 ≠ b126 := Nat.ne_of_lt (Nat.lt_of_lt_of_eq F113.lt g129.symm)
  have ne134 : fa ≠ b126 := Nat.ne_of_lt (Nat.lt_of_lt_of_eq F118.lt g129.symm)
  have ne135 : r0 ≠ b126 := Nat.ne_of_lt (Nat.lt_of_lt_of_eq F110.lt g129.symm)
  have ne136 : va ≠ b126 := Nat.ne_of_lt (Nat.lt_of_lt_of_eq F109.lt g129.symm)
  have F137 := F109.ext E130
  have F138 := F110.ext E130
  have F139 := F111.ext E130
  have F140 := F112.ext E130
  have F141 := F113.ext E130
  have F142 := F114.ext E130
  have F143 := F115.ext E130
  have F144 := F116.ext E130
  have F145 := F117.ext E130
  have F146 := F118.ext E130
  have sz147 : n0 ≤ b126 := Nat.le_trans szh119 (Nat.le_of_eq g129.symm)
  have szh148 : n0 ≤ h125.size := Nat.le_trans szh119 E130.1
  have szk149 : h0.size ≤ b126 := Nat.le_trans K120.1 (Nat.le_of_eq g129.symm)
  have K150 := K120.ext E130
  have H := H.trans (CHr.ext E130 H.1)
  have hk0 := Nat.le_trans hk0 E130.1
  show Go p_ e_ below _ T124 (mkF m_ 12 #[.val (.ref va), .val (.ref fa), .unset, .unset] [(.ref b126)])
  refine g_astoreN X127 hx #[.val (.ref va), .val (.ref fa), .val (.ref b126), .unset] rfl rfl (hb hby d7_12) 13 rfl ?_
  refine g_iconst X127 hx (0 : Int32) rfl (hb hby d7_13) 14 rfl ?_
  refine g_istoreN X127 hx #[.val (.ref va), .val (.ref fa), .val (.ref b126), .val (.int (0 : Int32))] rfl (hb hby d7_14) 15 rfl ?_
  refine g_iloadN X127 hx rfl (hb hby d7_15) 16 rfl ?_
  refine g_aloadN X127 hx rfl rfl (hb hby d7_16) 17 rfl ?_
  refine g_arraylength X127 hx hZ e128 F137 (1 : Int32) rfl (hb hby d7_17) 18 rfl ?_
  refine g_icmp_ge X127 hx (hb hby d7_18) 51 21 (by decide) rfl rfl (fun q151 => ?_) (fun q151 => ?_)
  · exact absurd q151 (by decide)
  · refine g_aloadN X127 hx rfl rfl (hb hby d7_21) 22 rfl ?_
    refine g_iloadN X127 hx rfl (hb hby d7_22) 23 rfl ?_
    refine g_aaload X127 hx hZ e128 F137 rfl (by decide) rfl (hb hby d7_23) 24 rfl ?_
    show Go p_ e_ below _ T124 (mkF m_ 24 #[.val (.ref va), .val (.ref fa), .val (.ref b126), .val (.int (0 : Int32))] [(.ref r0)])
    refine g_ldcO X127 hx hown (wd hw 48 rfl) (own_wS hw) e128 hZ hS hk0 hEL H (hb hby d7_24) (n := 24) (by decide) (by decide) (by decide) (by decide) 26 rfl (fun b154 T152 h153 k156 X157 e158 E159 hZ hown hS hk0 H => ?_)
    have F160 := F137.ext E159
    have F161 := F138.ext E159
    have F162 := F139.ext E159
    have F163 := F140.ext E159
    have F164 := F141.ext E159
    have F165 := F142.ext E159
    have F166 := F143.ext E159
    have F167 := F144.ext E159
    have F168 := F145.ext E159
    have F169 := F146.ext E159
    have F170 := A131.ext E159
    have F171 := O132.ext E159
    have szh172 : n0 ≤ h153.size := Nat.le_trans szh148 E159.1
    have K173 := K150.ext E159
    show Go p_ e_ below _ T152 (mkF m_ 26 #[.val (.ref va), .val (.ref fa), .val (.ref b126), .val (.int (0 : Int32))] [(.ref b154), (.ref r0)])
    refine g_callS X157 hx hZ hown (wd hw 36 rfl) (wd hw 37 rfl) (wd hw 38 rfl) (wd hw 39 rfl) (by decide) e158 [(.ref r0), (.ref b154)] []  rfl (co6 l Z a0 hw r0 b154  h153 ) (lenOf pd_10 rfl) 0 (Nat.le_of_eq rfl) (by decide) (by decide) (by decide) (by decide) (by rw [hml]; rfl) (hb hby d7_26) 29 rfl (pu_cont fun T175 X174 e176 => ?_)
    show Go p_ e_ below _ T175 (mkF m_ 29 #[.val (.ref va), .val (.ref fa), .val (.ref b126), .val (.int (0 : Int32))] [(.ref r0)])
    refine g_pop X174 hx rfl (hb hby d7_29) 30 rfl ?_
    refine g_aloadN X174 hx rfl rfl (hb hby d7_30) 31 rfl ?_
    refine g_iloadN X174 hx rfl (hb hby d7_31) 32 rfl ?_
    refine g_aloadN X174 hx rfl rfl (hb hby d7_32) 33 rfl ?_
    refine g_aloadN X174 hx rfl rfl (hb hby d7_33) 34 rfl ?_
    refine g_iloadN X174 hx rfl (hb hby d7_34) 35 rfl ?_
    refine g_aaload X174 hx hZ e176 F160 rfl (by decide) rfl (hb hby d7_35) 36 rfl ?_
    show Go p_ e_ below _ T175 (mkF m_ 36 #[.val (.ref va), .val (.ref fa), .val (.ref b126), .val (.int (0 : Int32))] [(.ref r0), (.ref fa), (.int (0 : Int32)), (.ref b126)])
    refine g_lam X174 hx hZ hown (wd hw 72 rfl) (wd hw 73 rfl) (wd hw 74 rfl) (wd hw 76 rfl) (wd hw 75 rfl) (wd hw 29 rfl) e176 hmd F169 F161 n0 (co13 l Z a0 hw r0 b0 ks0 cs u h153 n0 szh172 F161 F162 F163 F164 F165 ho0 F166 hcs F167 F168) (fun d h' => Keep h153 h' [] ∧ h153.size ≤ d ∧ AV Z h' d .byte (enc ks0) ∧ Exa Z h' d "[B") (fun v h' L q => by obtain ⟨d, e, n, k, s, a, x⟩ := q; exact ⟨⟨d, e, k, s, a, x⟩, n⟩) (by rw [hml]; rfl) 2 (Nat.le_of_eq rfl) (by decide) (by decide) (by decide) (by decide) (hb hby d7_36) 41 rfl (fun b177 T178 L179 X180 n181 Q182 => ?_)
    obtain ⟨h183, e184⟩ : ∃ h, T178.heap = h := ⟨_, rfl⟩
    rw [e184] at Q182
    obtain ⟨K185, g186, A187, E188⟩ := Q182
    have N189 := Fr.app N0 n181
    have ne190 : b0 ≠ b177 := Nat.ne_of_lt (Nat.lt_of_lt_of_le F164.lt g186)
    have ne191 : b126 ≠ b177 := Nat.ne_of_lt (Nat.lt_of_lt_of_le F170.lt g186)
    have ne192 : fa ≠ b177 := Nat.ne_of_lt (Nat.lt_of_lt_of_le F169.lt g186)
    have ne193 : r0 ≠ b177 := Nat.ne_of_lt (Nat.lt_of_lt_of_le F161.lt g186)
    have ne194 : va ≠ b177 := Nat.ne_of_lt (Nat.lt_of_lt_of_le F160.lt g186)
    have sz195 : n0 ≤ b177 := Nat.le_trans szh172 g186
    have szk196 : h0.size ≤ b177 := Nat.le_trans K173.1 g186
    have H := H.trans (CHr.keep K185 sf0 H.1)
    have hk0 := Nat.le_trans hk0 K185.1
    have F197 := F160.keep K185 nin0
    have F198 := F161.keep K185
    have F199 := F162.keep K185 nin0
    have F200 := F163.keep K185 nin0
    have F201 := F164.keep K185 nin0
    have F202 := F165.keep K185
    have F203 := own_sta_keep F166 K185 ns0
    have F204 := own_sta_keep F167 K185 ns0
    have F205 := own_sta_keep F168 K185 ns0
    have F206 := F169.keep K185
    have F207 := F170.keep K185 nin0
    have F208 := F171.keep K185
    have szh209 : n0 ≤ h183.size := Nat.le_trans szh172 K185.1
    have K210 := K173.trans K185 all0
    show Go p_ e_ below _ T178 (mkF m_ 41 #[.val (.ref va), .val (.ref fa), .val (.ref b126), .val (.int (0 : Int32))] [(.ref b177), (.int (0 : Int32)), (.ref b126)])
    refine g_checkcast X180 hx hZ hown (wd hw 49 rfl) (Ins.self E188) e184 (hb hby d7_41) 44 rfl (fun T211 X212 e213 => ?_)
    show Go p_ e_ below _ T211 (mkF m_ 44 #[.val (.ref va), .val (.ref fa), .val (.ref b126), .val (.int (0 : Int32))] [(.ref b177), (.int (0 : Int32)), (.ref b126)])
    refine g_aastore X212 hx hZ e213 F207 rfl (F208.sto F207 (Ins.self E188)) (by decide) (Nat.le_of_ble_eq_true rfl) (hb hby d7_44) 45 rfl (fun T214 h215 X216 e217 W218 A219 => ?_)
    have A220 : AV Z h215 b126 (.array .byte) [(.ref b177)] := A219
    have H := H.trans (CHr.wr W218 (AV.safe hZ.alike F207 (by decide)) H.1)
    have hk0 := Nat.le_trans hk0 (Nat.le_of_eq W218.size.symm)
    have F221 := F197.other W218 ne136
    have F222 := F198.wr W218
    have F223 := F199.other W218 (Or.inl ne135)
    have F224 := F200.other W218 (Or.inl ne135)
    have F225 := F201.other W218 ne133
    have F226 := F202.wr W218
    have F227 := F203.wr W218
    have F228 := F204.wr W218
    have F229 := F205.wr W218
    have F230 := F206.wr W218
    have F231 := A220
    have F232 := F208.wr W218
    have F233 := A187.other W218 (Ne.symm ne191)
    have F234 := E188.wr W218
    have N235 := Fr.snoc X216 N189 sz147
    have szh236 : n0 ≤ h215.size := Nat.le_trans szh209 (Nat.le_of_eq W218.size.symm)
    have K237 := K210.wr W218 (Or.inr szk149)
    show Go p_ e_ below _ T214 (mkF m_ 45 #[.val (.ref va), .val (.ref fa), .val (.ref b126), .val (.int (0 : Int32))] [])
    refine g_iinc X216 hx (1 : Int32) rfl rfl #[.val (.ref va), .val (.ref fa), .val (.ref b126), .val (.int (1 : Int32))] rfl (hb hby d7_45) 48 rfl ?_
    refine g_goto X216 hx (hb hby d7_48) 15 (by decide) rfl ?_
    refine g_iloadN X216 hx rfl (hb hby d7_15) 16 rfl ?_
    refine g_aloadN X216 hx rfl rfl (hb hby d7_16) 17 rfl ?_
    refine g_arraylength X216 hx hZ e217 F221 (1 : Int32) rfl (hb hby d7_17) 18 rfl ?_
    refine g_icmp_ge X216 hx (hb hby d7_18) 51 21 (by decide) rfl rfl (fun q238 => ?_) (fun q238 => ?_)
    · refine g_aloadN X216 hx rfl rfl (hb hby d7_51) 52 rfl ?_
      exact g_retaH X216 hx rfl rfl hret hlk (by decide) (by decide) (hb hby d7_52) e217 hZ hS hk0 hEL H ⟨b126, b177, rfl, N235, K237, szk149, szk196, A220, F233, F234⟩
    · exact absurd q238 (by decide)
def Q7_2 (Z : State) (va : Addr) (fa : Addr) (r0 : Addr) (b0 : Addr) (ks0 : List Int32) (r1 : Addr) (b1 : Addr) (ks1 : List Int32) (cs : Int32) (u : Addr) (cK : ClassId) (h0 : Heap) (n0 : Nat) (v : Option Value) (h : Heap) (L : List Loc) : Prop := ∃ d e0 e1, v = some (.ref d) ∧ Fr n0 L ∧ Keep h0 h [] ∧ h0.size ≤ d ∧ h0.size ≤ e0 ∧ h0.size ≤ e1 ∧ AV Z h d (.array .byte) [(.ref e0), (.ref e1)] ∧ AV Z h e0 .byte (enc ks0) ∧ Exa Z h e0 "[B" ∧ AV Z h e1 .byte (enc ks1) ∧ Exa Z h e1 "[B"
theorem ef7_2 (m_ : MethodId) (va : Addr) (fa : Addr)  : entryFrame m_ #[(.ref va), (.ref fa)] 4 = mkF m_ 0 #[.val (.ref va), .val (.ref fa), .unset, .unset] [] := by first | (simp [entryFrame, mkF, argsToLocals, Value.category]; done) | rfl
set_option maxRecDepth 65536 in
set_option maxHeartbeats 40000000 in
theorem co7_2 (l : Launch) (Z : State) (a0 : Array Value) (hw : ∀ d ∈ tables_1, d.before a0 Z = true) (hEL : EW Z a0 EL) (va : Addr) (fa : Addr) (r0 : Addr) (b0 : Addr) (ks0 : List Int32) (r1 : Addr) (b1 : Addr) (ks1 : List Int32) (cs : Int32) (u : Addr) (cK : ClassId) (h0 : Heap) (n0 : Nat) (Z0 : n0 ≤ h0.size)   (A_v : AV Z h0 va (.object "java/lang/String") [(.ref r0), (.ref r1)]) (E_r0 : Exa Z h0 r0 "java/lang/String") (F_c0 : Fld Z h0 r0 "java/lang/String" "coder" "B" (.int (0 : Int32))) (F_v0 : Fld Z h0 r0 "java/lang/String" "value" "[B" (.ref b0)) (A_b0 : AV Z h0 b0 .byte (raw ks0)) (E_b0 : Exa Z h0 b0 "[B") (ho0 : Oks ks0) (E_r1 : Exa Z h0 r1 "java/lang/String") (F_c1 : Fld Z h0 r1 "java/lang/String" "coder" "B" (.int (0 : Int32))) (F_v1 : Fld Z h0 r1 "java/lang/String" "value" "[B" (.ref b1)) (A_b1 : AV Z h0 b1 .byte (raw ks1)) (E_b1 : Exa Z h0 b1 "[B") (ho1 : Oks ks1) (S_cs : Sta Z h0 "java/lang/String" "COMPACT_STRINGS" "Z" (.int cs)) (hcs : ¬ cs = (0 : Int32)) (S_i : Sta Z h0 "sun/nio/cs/UTF_8" "INSTANCE" "Lsun/nio/cs/UTF_8;" (.ref u)) (S_u : Sta Z h0 "java/nio/charset/StandardCharsets" "UTF_8" "Ljava/nio/charset/Charset;" (.ref u)) (Fn : Fna h0 fa cK) (hmd : Jvm.LamKit.Made Z "com/example/bindwick/bindwick/Attribute" Sg cK) : CoH l (⟨"com/example/bindwick/bindwick/Attribute", "toOctets", "([Ljava/lang/Object;Ljava/util/function/Function;)[[B"⟩ : MethodName) prog_25_method_4_code 4 (some (.array (.array .byte))) [] ({ frames := 7, cells := 11, slots := 100, locals := 140 } : Room) Z EL h0 #[(.ref va), (.ref fa)] (Q7_2 Z va fa r0 b0 ks0 r1 b1 ks1 cs u cK h0 n0) := by
  refine CoH.of (plainFor_of_name pn_4) ?_
  intro p_ e_ s_ m_ below meth c_ T0 X0 hx hby hml hown hnm hret hlk hZ eq0 hs0 hS H
  have N0 := Fr.nil n0
  have hk0 := Nat.le_refl h0.size
  refine Go.cast (ef7_2 m_ va fa ) ?_
  refine g_aloadN X0 hx rfl rfl (hb hby d7_0) 1 rfl ?_
  refine g_ldcO X0 hx hown (wd hw 48 rfl) (own_wS hw) eq0 hZ hS hk0 hEL H (hb hby d7_1) (n := 24) (by decide) (by decide) (by decide) (by decide) 3 rfl (fun b103 T101 h102 k105 X106 e107 E108 hZ hown hS hk0 H => ?_)
  have F109 := A_v.ext E108
  have F110 := E_r0.ext E108
  have F111 := F_c0.ext E108
  have F112 := F_v0.ext E108
  have F113 := A_b0.ext E108
  have F114 := E_b0.ext E108
  have F115 := E_r1.ext E108
  have F116 := F_c1.ext E108
  have F117 := F_v1.ext E108
  have F118 := A_b1.ext E108
  have F119 := E_b1.ext E108
  have F120 := S_cs.ext E108
  have F121 := S_i.ext E108
  have F122 := S_u.ext E108
  have F123 := Fn.ext E108
  have szh124 : n0 ≤ h102.size := Nat.le_trans Z0 E108.1
  have K125 := (Keep.refl h0 []).ext E108
  show Go p_ e_ below _ T101 (mkF m_ 3 #[.val (.ref va), .val (.ref fa), .unset, .unset] [(.ref b103), (.ref va)])
  refine g_callS X106 hx hZ hown (wd hw 36 rfl) (wd hw 37 rfl) (wd hw 38 rfl) (wd hw 39 rfl) (by decide) e107 [(.ref va), (.ref b103)] []  rfl (co6 l Z a0 hw va b103  h102 ) (lenOf pd_10 rfl) 0 (Nat.le_of_eq rfl) (by decide) (by decide) (by decide) (by decide) (by rw [hml]; rfl) (hb hby d7_3) 6 rfl (pu_cont fun T127 X126 e128 => ?_)
  show Go p_ e_ below _ T127 (mkF m_ 6 #[.val (.ref va), .val (.ref fa), .unset, .unset] [(.ref va)])
  refine g_pop X126 hx rfl (hb hby d7_6) 7 rfl ?_
  refine g_aloadN X126 hx rfl rfl (hb hby d7_7) 8 rfl ?_
  refine g_arraylength X126 hx hZ e128 F109 (2 : Int32) rfl (hb hby d7_8) 9 rfl ?_
  refine g_anewarrayA X126 hx hZ hown (ty := .byte) own_bn2 (wd hw 49 rfl) (wd hw 50 rfl) e128 (by decide) 2 (by decide) (by decide) (by decide) (by decide) [.null, .null] rfl (hb hby d7_9) 12 rfl (fun T129 h130 b131 X132 e133 g134 E135 A136 O137 => ?_)
  have ne138 : b0 ≠ b131 := Nat.ne_of_lt (Nat.lt_of_lt_of_eq F113.lt g134.symm)
  have ne139 : b1 ≠ b131 := Nat.ne_of_lt (Nat.lt_of_lt_of_eq F118.lt g134.symm)
  have ne140 : fa ≠ b131 := Nat.ne_of_lt (Nat.lt_of_lt_of_eq F123.lt g134.symm)
  have ne141 : r0 ≠ b131 := Nat.ne_of_lt (Nat.lt_of_lt_of_eq F110.lt g134.symm)
  have ne142 : r1 ≠ b131 := Nat.ne_of_lt (Nat.lt_of_lt_of_eq F115.lt g134.symm)
  have ne143 : va ≠ b131 := Nat.ne_of_lt (Nat.lt_of_lt_of_eq F109.lt g134.symm)
  have F144 := F109.ext E135
  have F145 := F110.ext E135
  have F146 := F111.ext E135
  have F147 := F112.ext E135
  have F148 := F113.ext E135
  have F149 := F114.ext E135
  have F150 := F115.ext E135
  have F151 := F116.ext E135
  have F152 := F117.ext E135
  have F153 := F118.ext E135
  have F154 := F119.ext E135
  have F155 := F120.ext E135
  have F156 := F121.ext E135
  have F157 := F122.ext E135
  have F158 := F123.ext E135
  have sz159 : n0 ≤ b131 := Nat.le_trans szh124 (Nat.le_of_eq g134.symm)
  have szh160 : n0 ≤ h130.size := Nat.le_trans szh124 E135.1
  have szk161 : h0.size ≤ b131 := Nat.le_trans K125.1 (Nat.le_of_eq g134.symm)
  have K162 := K125.ext E135
  have H := H.trans (CHr.ext E135 H.1)
  have hk0 := Nat.le_trans hk0 E135.1
  show Go p_ e_ below _ T129 (mkF m_ 12 #[.val (.ref va), .val (.ref fa), .unset, .unset] [(.ref b131)])
  refine g_astoreN X132 hx #[.val (.ref va), .val (.ref fa), .val (.ref b131), .unset] rfl rfl (hb hby d7_12) 13 rfl ?_
  refine g_iconst X132 hx (0 : Int32) rfl (hb hby d7_13) 14 rfl ?_
  refine g_istoreN X132 hx #[.val (.ref va), .val (.ref fa), .val (.ref b131), .val (.int (0 : Int32))] rfl (hb hby d7_14) 15 rfl ?_
  refine g_iloadN X132 hx rfl (hb hby d7_15) 16 rfl ?_
  refine g_aloadN X132 hx rfl rfl (hb hby d7_16) 17 rfl ?_
  refine g_arraylength X132 hx hZ e133 F144 (2 : Int32) rfl (hb hby d7_17) 18 rfl ?_
  refine g_icmp_ge X132 hx (hb hby d7_18) 51 21 (by decide) rfl rfl (fun q163 => ?_) (fun q163 => ?_)
  · exact absurd q163 (by decide)
  · refine g_aloadN X132 hx rfl rfl (hb hby d7_21) 22 rfl ?_
    refine g_iloadN X132 hx rfl (hb hby d7_22) 23 rfl ?_
    refine g_aaload X132 hx hZ e133 F144 rfl (by decide) rfl (hb hby d7_23) 24 rfl ?_
    show Go p_ e_ below _ T129 (mkF m_ 24 #[.val (.ref va), .val (.ref fa), .val (.ref b131), .val (.int (0 : Int32))] [(.ref r0)])
    refine g_ldcO X132 hx hown (wd hw 48 rfl) (own_wS hw) e133 hZ hS hk0 hEL H (hb hby d7_24) (n := 24) (by decide) (by decide) (by decide) (by decide) 26 rfl (fun b166 T164 h165 k168 X169 e170 E171 hZ hown hS hk0 H => ?_)
    have F172 := F144.ext E171
    have F173 := F145.ext E171
    have F174 := F146.ext E171
    have F175 := F147.ext E171
    have F176 := F148.ext E171
    have F177 := F149.ext E171
    have F178 := F150.ext E171
    have F179 := F151.ext E171
    have F180 := F152.ext E171
    have F181 := F153.ext E171
    have F182 := F154.ext E171
    have F183 := F155.ext E171
    have F184 := F156.ext E171
    have F185 := F157.ext E171
    have F186 := F158.ext E171
    have F187 := A136.ext E171
    have F188 := O137.ext E171
    have szh189 : n0 ≤ h165.size := Nat.le_trans szh160 E171.1
    have K190 := K162.ext E171
    show Go p_ e_ below _ T164 (mkF m_ 26 #[.val (.ref va), .val (.ref fa), .val (.ref b131), .val (.int (0 : Int32))] [(.ref b166), (.ref r0)])
    refine g_callS X169 hx hZ hown (wd hw 36 rfl) (wd hw 37 rfl) (wd hw 38 rfl) (wd hw 39 rfl) (by decide) e170 [(.ref r0), (.ref b166)] []  rfl (co6 l Z a0 hw r0 b166  h165 ) (lenOf pd_10 rfl) 0 (Nat.le_of_eq rfl) (by decide) (by decide) (by decide) (by decide) (by rw [hml]; rfl) (hb hby d7_26) 29 rfl (pu_cont fun T192 X191 e193 => ?_)
    show Go p_ e_ below _ T192 (mkF m_ 29 #[.val (.ref va), .val (.ref fa), .val (.ref b131), .val (.int (0 : Int32))] [(.ref r0)])
    refine g_pop X191 hx rfl (hb hby d7_29) 30 rfl ?_
    refine g_aloadN X191 hx rfl rfl (hb hby d7_30) 31 rfl ?_
    refine g_iloadN X191 hx rfl (hb hby d7_31) 32 rfl ?_
    refine g_aloadN X191 hx rfl rfl (hb hby d7_32) 33 rfl ?_
    refine g_aloadN X191 hx rfl rfl (hb hby d7_33) 34 rfl ?_
    refine g_iloadN X191 hx rfl (hb hby d7_34) 35 rfl ?_
    refine g_aaload X191 hx hZ e193 F172 rfl (by decide) rfl (hb hby d7_35) 36 rfl ?_
    show Go p_ e_ below _ T192 (mkF m_ 36 #[.val (.ref va), .val (.ref fa), .val (.ref b131), .val (.int (0 : Int32))] [(.ref r0), (.ref fa), (.int (0 : Int32)), (.ref b131)])
    refine g_lam X191 hx hZ hown (wd hw 72 rfl) (wd hw 73 rfl) (wd hw 74 rfl) (wd hw 76 rfl) (wd hw 75 rfl) (wd hw 29 rfl) e193 hmd F186 F173 n0 (co13 l Z a0 hw r0 b0 ks0 cs u h165 n0 szh189 F173 F174 F175 F176 F177 ho0 F183 hcs F184 F185) (fun d h' => Keep h165 h' [] ∧ h165.size ≤ d ∧ AV Z h' d .byte (enc ks0) ∧ Exa Z h' d "[B") (fun v h' L q => by obtain ⟨d, e, n, k, s, a, x⟩ := q; exact ⟨⟨d, e, k, s, a, x⟩, n⟩) (by rw [hml]; rfl) 2 (Nat.le_of_eq rfl) (by decide) (by decide) (by decide) (by decide) (hb hby d7_36) 41 rfl (fun b194 T195 L196 X197 n198 Q199 => ?_)
    obtain ⟨h200, e201⟩ : ∃ h, T195.heap = h := ⟨_, rfl⟩
    rw [e201] at Q199
    obtain ⟨K202, g203, A204, E205⟩ := Q199
    have N206 := Fr.app N0 n198
    have ne207 : b0 ≠ b194 := Nat.ne_of_lt (Nat.lt_of_lt_of_le F176.lt g203)
    have ne208 : b1 ≠ b194 := Nat.ne_of_lt (Nat.lt_of_lt_of_le F181.lt g203)
    have ne209 : b131 ≠ b194 := Nat.ne_of_lt (Nat.lt_of_lt_of_le F187.lt g203)
    have ne210 : fa ≠ b194 := Nat.ne_of_lt (Nat.lt_of_lt_of_le F186.lt g203)
    have ne211 : r0 ≠ b194 := Nat.ne_of_lt (Nat.lt_of_lt_of_le F173.lt g203)
    have ne212 : r1 ≠ b194 := Nat.ne_of_lt (Nat.lt_of_lt_of_le F178.lt g203)
    have ne213 : va ≠ b194 := Nat.ne_of_lt (Nat.lt_of_lt_of_le F172.lt g203)
    have sz214 : n0 ≤ b194 := Nat.le_trans szh189 g203
    have szk215 : h0.size ≤ b194 := Nat.le_trans K190.1 g203
    have H := H.trans (CHr.keep K202 sf0 H.1)
    have hk0 := Nat.le_trans hk0 K202.1
    have F216 := F172.keep K202 nin0
    have F217 := F173.keep K202
    have F218 := F174.keep K202 nin0
    have F219 := F175.keep K202 nin0
    have F220 := F176.keep K202 nin0
    have F221 := F177.keep K202
    have F222 := F178.keep K202
    have F223 := F179.keep K202 nin0
    have F224 := F180.keep K202 nin0
    have F225 := F181.keep K202 nin0
    have F226 := F182.keep K202
    have F227 := own_sta_keep F183 K202 ns0
    have F228 := own_sta_keep F184 K202 ns0
    have F229 := own_sta_keep F185 K202 ns0
    have F230 := F186.keep K202
    have F231 := F187.keep K202 nin0
    have F232 := F188.keep K202
    have szh233 : n0 ≤ h200.size := Nat.le_trans szh189 K202.1
    have K234 := K190.trans K202 all0
    show Go p_ e_ below _ T195 (mkF m_ 41 #[.val (.ref va), .val (.ref fa), .val (.ref b131), .val (.int (0 : Int32))] [(.ref b194), (.int (0 : Int32)), (.ref b131)])
    refine g_checkcast X197 hx hZ hown (wd hw 49 rfl) (Ins.self E205) e201 (hb hby d7_41) 44 rfl (fun T235 X236 e237 => ?_)
    show Go p_ e_ below _ T235 (mkF m_ 44 #[.val (.ref va), .val (.ref fa), .val (.ref b131), .val (.int (0 : Int32))] [(.ref b194), (.int (0 : Int32)), (.ref b131)])
    refine g_aastore X236 hx hZ e237 F231 rfl (F232.sto F231 (Ins.self E205)) (by decide) (Nat.le_of_ble_eq_true rfl) (hb hby d7_44) 45 rfl (fun T238 h239 X240 e241 W242 A243 => ?_)
    have A244 : AV Z h239 b131 (.array .byte) [(.ref b194), .null] := A243
    have H := H.trans (CHr.wr W242 (AV.safe hZ.alike F231 (by decide)) H.1)
    have hk0 := Nat.le_trans hk0 (Nat.le_of_eq W242.size.symm)
    have F245 := F216.other W242 ne143
    have F246 := F217.wr W242
    have F247 := F218.other W242 (Or.inl ne141)
    have F248 := F219.other W242 (Or.inl ne141)
    have F249 := F220.other W242 ne138
    have F250 := F221.wr W242
    have F251 := F222.wr W242
    have F252 := F223.other W242 (Or.inl ne142)
    have F253 := F224.other W242 (Or.inl ne142)
    have F254 := F225.other W242 ne139
    have F255 := F226.wr W242
    have F256 := F227.wr W242
    have F257 := F228.wr W242
    have F258 := F229.wr W242
    have F259 := F230.wr W242
    have F260 := A244
    have F261 := F232.wr W242
    have F262 := A204.other W242 (Ne.symm ne209)
    have F263 := E205.wr W242
    have N264 := Fr.snoc X240 N206 sz159
    have szh265 : n0 ≤ h239.size := Nat.le_trans szh233 (Nat.le_of_eq W242.size.symm)
    have K266 := K234.wr W242 (Or.inr szk161)
    show Go p_ e_ below _ T238 (mkF m_ 45 #[.val (.ref va), .val (.ref fa), .val (.ref b131), .val (.int (0 : Int32))] [])
    refine g_iinc X240 hx (1 : Int32) rfl rfl #[.val (.ref va), .val (.ref fa), .val (.ref b131), .val (.int (1 : Int32))] rfl (hb hby d7_45) 48 rfl ?_
    refine g_goto X240 hx (hb hby d7_48) 15 (by decide) rfl ?_
    refine g_iloadN X240 hx rfl (hb hby d7_15) 16 rfl ?_
    refine g_aloadN X240 hx rfl rfl (hb hby d7_16) 17 rfl ?_
    refine g_arraylength X240 hx hZ e241 F245 (2 : Int32) rfl (hb hby d7_17) 18 rfl ?_
    refine g_icmp_ge X240 hx (hb hby d7_18) 51 21 (by decide) rfl rfl (fun q267 => ?_) (fun q267 => ?_)
    · exact absurd q267 (by decide)
    · refine g_aloadN X240 hx rfl rfl (hb hby d7_21) 22 rfl ?_
      refine g_iloadN X240 hx rfl (hb hby d7_22) 23 rfl ?_
      refine g_aaload X240 hx hZ e241 F245 rfl (by decide) rfl (hb hby d7_23) 24 rfl ?_
      show Go p_ e_ below _ T238 (mkF m_ 24 #[.val (.ref va), .val (.ref fa), .val (.ref b131), .val (.int (1 : Int32))] [(.ref r1)])
      refine g_ldcO X240 hx hown (wd hw 48 rfl) (own_wS hw) e241 hZ hS hk0 hEL H (hb hby d7_24) (n := 24) (by decide) (by decide) (by decide) (by decide) 26 rfl (fun b270 T268 h269 k272 X273 e274 E275 hZ hown hS hk0 H => ?_)
      have F276 := F245.ext E275
      have F277 := F246.ext E275
      have F278 := F247.ext E275
      have F279 := F248.ext E275
      have F280 := F249.ext E275
      have F281 := F250.ext E275
      have F282 := F251.ext E275
      have F283 := F252.ext E275
      have F284 := F253.ext E275
      have F285 := F254.ext E275
      have F286 := F255.ext E275
      have F287 := F256.ext E275
      have F288 := F257.ext E275
      have F289 := F258.ext E275
      have F290 := F259.ext E275
      have F291 := A244.ext E275
      have F292 := F261.ext E275
      have F293 := F262.ext E275
      have F294 := F263.ext E275
      have szh295 : n0 ≤ h269.size := Nat.le_trans szh265 E275.1
      have K296 := K266.ext E275
      show Go p_ e_ below _ T268 (mkF m_ 26 #[.val (.ref va), .val (.ref fa), .val (.ref b131), .val (.int (1 : Int32))] [(.ref b270), (.ref r1)])
      refine g_callS X273 hx hZ hown (wd hw 36 rfl) (wd hw 37 rfl) (wd hw 38 rfl) (wd hw 39 rfl) (by decide) e274 [(.ref r1), (.ref b270)] []  rfl (co6 l Z a0 hw r1 b270  h269 ) (lenOf pd_10 rfl) 0 (Nat.le_of_eq rfl) (by decide) (by decide) (by decide) (by decide) (by rw [hml]; rfl) (hb hby d7_26) 29 rfl (pu_cont fun T298 X297 e299 => ?_)
      show Go p_ e_ below _ T298 (mkF m_ 29 #[.val (.ref va), .val (.ref fa), .val (.ref b131), .val (.int (1 : Int32))] [(.ref r1)])
      refine g_pop X297 hx rfl (hb hby d7_29) 30 rfl ?_
      refine g_aloadN X297 hx rfl rfl (hb hby d7_30) 31 rfl ?_
      refine g_iloadN X297 hx rfl (hb hby d7_31) 32 rfl ?_
      refine g_aloadN X297 hx rfl rfl (hb hby d7_32) 33 rfl ?_
      refine g_aloadN X297 hx rfl rfl (hb hby d7_33) 34 rfl ?_
      refine g_iloadN X297 hx rfl (hb hby d7_34) 35 rfl ?_
      refine g_aaload X297 hx hZ e299 F276 rfl (by decide) rfl (hb hby d7_35) 36 rfl ?_
      show Go p_ e_ below _ T298 (mkF m_ 36 #[.val (.ref va), .val (.ref fa), .val (.ref b131), .val (.int (1 : Int32))] [(.ref r1), (.ref fa), (.int (1 : Int32)), (.ref b131)])
      refine g_lam X297 hx hZ hown (wd hw 72 rfl) (wd hw 73 rfl) (wd hw 74 rfl) (wd hw 76 rfl) (wd hw 75 rfl) (wd hw 29 rfl) e299 hmd F290 F282 n0 (co13 l Z a0 hw r1 b1 ks1 cs u h269 n0 szh295 F282 F283 F284 F285 F286 ho1 F287 hcs F288 F289) (fun d h' => Keep h269 h' [] ∧ h269.size ≤ d ∧ AV Z h' d .byte (enc ks1) ∧ Exa Z h' d "[B") (fun v h' L q => by obtain ⟨d, e, n, k, s, a, x⟩ := q; exact ⟨⟨d, e, k, s, a, x⟩, n⟩) (by rw [hml]; rfl) 2 (Nat.le_of_eq rfl) (by decide) (by decide) (by decide) (by decide) (hb hby d7_36) 41 rfl (fun b300 T301 L302 X303 n304 Q305 => ?_)
      obtain ⟨h306, e307⟩ : ∃ h, T301.heap = h := ⟨_, rfl⟩
      rw [e307] at Q305
      obtain ⟨K308, g309, A310, E311⟩ := Q305
      have N312 := Fr.app N264 n304
      have ne313 : b0 ≠ b300 := Nat.ne_of_lt (Nat.lt_of_lt_of_le F280.lt g309)
      have ne314 : b1 ≠ b300 := Nat.ne_of_lt (Nat.lt_of_lt_of_le F285.lt g309)
      have ne315 : b131 ≠ b300 := Nat.ne_of_lt (Nat.lt_of_lt_of_le F291.lt g309)
      have ne316 : b194 ≠ b300 := Nat.ne_of_lt (Nat.lt_of_lt_of_le F293.lt g309)
      have ne317 : fa ≠ b300 := Nat.ne_of_lt (Nat.lt_of_lt_of_le F290.lt g309)
      have ne318 : r0 ≠ b300 := Nat.ne_of_lt (Nat.lt_of_lt_of_le F277.lt g309)
      have ne319 : r1 ≠ b300 := Nat.ne_of_lt (Nat.lt_of_lt_of_le F282.lt g309)
      have ne320 : va ≠ b300 := Nat.ne_of_lt (Nat.lt_of_lt_of_le F276.lt g309)
      have sz321 : n0 ≤ b300 := Nat.le_trans szh295 g309
      have szk322 : h0.size ≤ b300 := Nat.le_trans K296.1 g309
      have H := H.trans (CHr.keep K308 sf0 H.1)
      have hk0 := Nat.le_trans hk0 K308.1
      have F323 := F276.keep K308 nin0
      have F324 := F277.keep K308
      have F325 := F278.keep K308 nin0
      have F326 := F279.keep K308 nin0
      have F327 := F280.keep K308 nin0
      have F328 := F281.keep K308
      have F329 := F282.keep K308
      have F330 := F283.keep K308 nin0
      have F331 := F284.keep K308 nin0
      have F332 := F285.keep K308 nin0
      have F333 := F286.keep K308
      have F334 := own_sta_keep F287 K308 ns0
      have F335 := own_sta_keep F288 K308 ns0
      have F336 := own_sta_keep F289 K308 ns0
      have F337 := F290.keep K308
      have F338 := F291.keep K308 nin0
      have F339 := F292.keep K308
      have F340 := F293.keep K308 nin0
      have F341 := F294.keep K308
      have szh342 : n0 ≤ h306.size := Nat.le_trans szh295 K308.1
      have K343 := K296.trans K308 all0
      show Go p_ e_ below _ T301 (mkF m_ 41 #[.val (.ref va), .val (.ref fa), .val (.ref b131), .val (.int (1 : Int32))] [(.ref b300), (.int (1 : Int32)), (.ref b131)])
      refine g_checkcast X303 hx hZ hown (wd hw 49 rfl) (Ins.self E311) e307 (hb hby d7_41) 44 rfl (fun T344 X345 e346 => ?_)
      show Go p_ e_ below _ T344 (mkF m_ 44 #[.val (.ref va), .val (.ref fa), .val (.ref b131), .val (.int (1 : Int32))] [(.ref b300), (.int (1 : Int32)), (.ref b131)])
      refine g_aastore X345 hx hZ e346 F338 rfl (F339.sto F338 (Ins.self E311)) (by decide) (Nat.le_of_ble_eq_true rfl) (hb hby d7_44) 45 rfl (fun T347 h348 X349 e350 W351 A352 => ?_)
      have A353 : AV Z h348 b131 (.array .byte) [(.ref b194), (.ref b300)] := A352
      have H := H.trans (CHr.wr W351 (AV.safe hZ.alike F338 (by decide)) H.1)
      have hk0 := Nat.le_trans hk0 (Nat.le_of_eq W351.size.symm)
      have F354 := F323.other W351 ne143
      have F355 := F324.wr W351
      have F356 := F325.other W351 (Or.inl ne141)
      have F357 := F326.other W351 (Or.inl ne141)
      have F358 := F327.other W351 ne138
      have F359 := F328.wr W351
      have F360 := F329.wr W351
      have F361 := F330.other W351 (Or.inl ne142)
      have F362 := F331.other W351 (Or.inl ne142)
      have F363 := F332.other W351 ne139
      have F364 := F333.wr W351
      have F365 := F334.wr W351
      have F366 := F335.wr W351
      have F367 := F336.wr W351
      have F368 := F337.wr W351
      have F369 := A353
      have F370 := F339.wr W351
      have F371 := F340.other W351 (Ne.symm ne209)
      have F372 := F341.wr W351
      have F373 := A310.other W351 (Ne.symm ne315)
      have F374 := E311.wr W351
      have N375 := Fr.snoc X349 N312 sz159
      have szh376 : n0 ≤ h348.size := Nat.le_trans szh342 (Nat.le_of_eq W351.size.symm)
      have K377 := K343.wr W351 (Or.inr szk161)
      show Go p_ e_ below _ T347 (mkF m_ 45 #[.val (.ref va), .val (.ref fa), .val (.ref b131), .val (.int (1 : Int32))] [])
      refine g_iinc X349 hx (1 : Int32) rfl rfl #[.val (.ref va), .val (.ref fa), .val (.ref b131), .val (.int (2 : Int32))] rfl (hb hby d7_45) 48 rfl ?_
      refine g_goto X349 hx (hb hby d7_48) 15 (by decide) rfl ?_
      refine g_iloadN X349 hx rfl (hb hby d7_15) 16 rfl ?_
      refine g_aloadN X349 hx rfl rfl (hb hby d7_16) 17 rfl ?_
      refine g_arraylength X349 hx hZ e350 F354 (2 : Int32) rfl (hb hby d7_17) 18 rfl ?_
      refine g_icmp_ge X349 hx (hb hby d7_18) 51 21 (by decide) rfl rfl (fun q378 => ?_) (fun q378 => ?_)
      · refine g_aloadN X349 hx rfl rfl (hb hby d7_51) 52 rfl ?_
        exact g_retaH X349 hx rfl rfl hret hlk (by decide) (by decide) (hb hby d7_52) e350 hZ hS hk0 hEL H ⟨b131, b194, b300, rfl, N375, K377, szk161, szk215, szk322, A353, F371, F372, F373, F374⟩
      · exact absurd q378 (by decide)
def Q5_0 (Z : State) (a : Addr) (q : Addr) (va : Addr) (cs : Int32) (u : Addr) (fa : Addr) (cK : ClassId) (h0 : Heap) (n0 : Nat) (v : Option Value) (h : Heap) (L : List Loc) : Prop := v = none ∧ Fr n0 L ∧ Keep h0 h [a] ∧ Exa Z h a "com/example/bindwick/bindwick/Attribute" ∧ ∃ d, Fld Z h a "com/example/bindwick/bindwick/Attribute" "values" "[[B" (.ref d) ∧ AV Z h d (.array .byte) []
theorem ef5_0 (m_ : MethodId) (a : Addr) (q : Addr) (va : Addr)  : entryFrame m_ #[(.ref a), (.ref q), (.ref va)] 3 = mkF m_ 0 #[.val (.ref a), .val (.ref q), .val (.ref va)] [] := by first | (simp [entryFrame, mkF, argsToLocals, Value.category]; done) | rfl
theorem d5_0 : decode prog_25_method_1_code 0 = .ok (.aload_n 0, 1) := by decide +kernel
theorem d5_1 : decode prog_25_method_1_code 1 = .ok (.invokespecial 1, 3) := by decide +kernel
theorem d5_4 : decode prog_25_method_1_code 4 = .ok (.aload_n 1, 1) := by decide +kernel
theorem d5_5 : decode prog_25_method_1_code 5 = .ok (.ldc 7, 2) := by decide +kernel
theorem d5_7 : decode prog_25_method_1_code 7 = .ok (.invokestatic 9, 3) := by decide +kernel
theorem d5_10 : decode prog_25_method_1_code 10 = .ok (.pop, 1) := by decide +kernel
theorem d5_11 : decode prog_25_method_1_code 11 = .ok (.aload_n 0, 1) := by decide +kernel
theorem d5_12 : decode prog_25_method_1_code 12 = .ok (.aload_n 1, 1) := by decide +kernel
theorem d5_13 : decode prog_25_method_1_code 13 = .ok (.putfield 15, 3) := by decide +kernel
theorem d5_16 : decode prog_25_method_1_code 16 = .ok (.aload_n 0, 1) := by decide +kernel
theorem d5_17 : decode prog_25_method_1_code 17 = .ok (.aload_n 2, 1) := by decide +kernel
theorem d5_18 : decode prog_25_method_1_code 18 = .ok (.invokedynamic 20, 5) := by decide +kernel
theorem pd_11 : parseMethodDescriptor "([Ljava/lang/Object;Ljava/util/function/Function;)[[B" = some ⟨[(.array (.object "java/lang/Object")), (.object "java/util/function/Function")], some (.array (.array .byte))⟩ := by decide +kernel
theorem d5_23 : decode prog_25_method_1_code 23 = .ok (.invokestatic 24, 3) := by decide +kernel
theorem d5_26 : decode prog_25_method_1_code 26 = .ok (.putfield 28, 3) := by decide +kernel
theorem d5_29 : decode prog_25_method_1_code 29 = .ok (.return_, 1) := by decide +kernel
set_option maxRecDepth 65536 in
set_option maxHeartbeats 40000000 in
theorem co5_0 (l : Launch) (Z : State) (a0 : Array Value) (hw : ∀ d ∈ tables_1, d.before a0 Z = true) (hEL : EW Z a0 EL) (a : Addr) (q : Addr) (va : Addr) (cs : Int32) (u : Addr) (fa : Addr) (cK : ClassId) (h0 : Heap) (n0 : Nat) (Z0 : n0 ≤ h0.size)  (g_a : n0 ≤ a) (E_a : Exa Z h0 a "com/example/bindwick/bindwick/Attribute") (F_n : Fld Z h0 a "com/example/bindwick/bindwick/Attribute" "name" "Ljava/lang/String;" .null) (F_w : Fld Z h0 a "com/example/bindwick/bindwick/Attribute" "values" "[[B" .null) (A_v : AV Z h0 va (.object "java/lang/String") []) (ne_va : va ≠ a) (S_cs : Sta Z h0 "java/lang/String" "COMPACT_STRINGS" "Z" (.int cs)) (hcs : ¬ cs = (0 : Int32)) (S_i : Sta Z h0 "sun/nio/cs/UTF_8" "INSTANCE" "Lsun/nio/cs/UTF_8;" (.ref u)) (S_u : Sta Z h0 "java/nio/charset/StandardCharsets" "UTF_8" "Ljava/nio/charset/Charset;" (.ref u)) (Fn : Fna h0 fa cK) (hsite : Site Z fa cK) : CoH l (⟨"com/example/bindwick/bindwick/Attribute", "<init>", "(Ljava/lang/String;[Ljava/lang/String;)V"⟩ : MethodName) prog_25_method_1_code 3 none [] ({ frames := 8, cells := 5, slots := 48, locals := 3074 } : Room) Z EL h0 #[(.ref a), (.ref q), (.ref va)] (Q5_0 Z a q va cs u fa cK h0 n0) := by
  refine CoH.ofN (plainFor_of_name pn_4) ?_
  intro p_ e_ s_ m_ below meth c_ T0 X0 hx hby hml hown hnm hret hlk hZ eq0 hs0 hS H hnam
  have N0 := Fr.nil n0
  have hk0 := Nat.le_refl h0.size
  refine Go.cast (ef5_0 m_ a q va ) ?_
  obtain ⟨m0, kk, i0, p0, hm0, hsk, hss, hmd⟩ := hsite
  have hmm := own_same hZ hm0 hnam
  subst hmm
  refine g_aloadN X0 hx rfl rfl (hb hby d5_0) 1 rfl ?_
  refine g_initO X0 hx hZ hown (wd hw 34 rfl) (wd hw 16 rfl) (wd hw 17 rfl) eq0 (by rw [hml]; rfl) (hb hby d5_1) (by decide) 0 (Nat.le_of_eq rfl) (by decide) 4 rfl (fun T101 X102 e103 => ?_)
  show Go p_ e_ below _ T101 (mkF m_ 4 #[.val (.ref a), .val (.ref q), .val (.ref va)] [])
  refine g_aloadN X102 hx rfl rfl (hb hby d5_4) 5 rfl ?_
  refine g_ldcO X102 hx hown (wd hw 35 rfl) (own_wS hw) e103 hZ hS hk0 hEL H (hb hby d5_5) (n := 16) (by decide) (by decide) (by decide) (by decide) 7 rfl (fun b106 T104 h105 k108 X109 e110 E111 hZ hown hS hk0 H => ?_)
  have F112 := A_v.ext E111
  have F113 := S_cs.ext E111
  have F114 := S_i.ext E111
  have F115 := S_u.ext E111
  have F116 := Fn.ext E111
  have F117 := E_a.ext E111
  have F118 := F_n.ext E111
  have F119 := F_w.ext E111
  have szh120 : n0 ≤ h105.size := Nat.le_trans Z0 E111.1
  have K121 := (Keep.refl h0 [a]).ext E111
  show Go p_ e_ below _ T104 (mkF m_ 7 #[.val (.ref a), .val (.ref q), .val (.ref va)] [(.ref b106), (.ref q)])
  refine g_callS X109 hx hZ hown (wd hw 36 rfl) (wd hw 37 rfl) (wd hw 38 rfl) (wd hw 39 rfl) (by decide) e110 [(.ref q), (.ref b106)] []  rfl (co6 l Z a0 hw q b106  h105 ) (lenOf pd_10 rfl) 0 (Nat.le_of_eq rfl) (by decide) (by decide) (by decide) (by decide) (by rw [hml]; rfl) (hb hby d5_7) 10 rfl (pu_cont fun T123 X122 e124 => ?_)
  show Go p_ e_ below _ T123 (mkF m_ 10 #[.val (.ref a), .val (.ref q), .val (.ref va)] [(.ref q)])
  refine g_pop X122 hx rfl (hb hby d5_10) 11 rfl ?_
  refine g_aloadN X122 hx rfl rfl (hb hby d5_11) 12 rfl ?_
  refine g_aloadN X122 hx rfl rfl (hb hby d5_12) 13 rfl ?_
  refine g_putfield X122 hx hZ hown (host := "") (Or.inl (wd hw 40 rfl)) Via.refl e124 F118 F117 (Or.inr ⟨(wd hw 41 rfl), rfl, hnm⟩) (wd hw 28 rfl) (ty := (.object "java/lang/String")) (by decide) rfl rfl (hb hby d5_13) 16 rfl (fun T125 h126 X127 e128 W129 => ?_)
  have H := H.trans (CHr.wr W129 (Safe.exa hZ.alike F117 (by decide) (by decide)) H.1)
  have hk0 := Nat.le_trans hk0 (Nat.le_of_eq W129.size.symm)
  have F130 := F112.other W129 ne_va
  have F131 := F113.wr W129
  have F132 := F114.wr W129
  have F133 := F115.wr W129
  have F134 := F116.wr W129
  have F135 := F117.wr W129
  have F136 := F118.same W129
  have F137 := F119.other W129 (Or.inr (slot_ne (Or.inr (wd hw 52 rfl)) (Or.inr (wd hw 41 rfl)) (by decide) (t := (.array (.array .byte))) (t' := (.object "java/lang/String")) (by decide) (by decide)))
  have N138 := Fr.snoc X127 N0 g_a
  have szh139 : n0 ≤ h126.size := Nat.le_trans szh120 (Nat.le_of_eq W129.size.symm)
  have K140 := K121.wr W129 (Or.inl (List.mem_of_getElem? (i := 0) rfl))
  show Go p_ e_ below _ T125 (mkF m_ 16 #[.val (.ref a), .val (.ref q), .val (.ref va)] [])
  refine g_aloadN X127 hx rfl rfl (hb hby d5_16) 17 rfl ?_
  refine g_aloadN X127 hx rfl rfl (hb hby d5_17) 18 rfl ?_
  refine g_indy X127 hx hZ hsk hss (by rw [hml]; rfl) (hb hby d5_18) 2 (Nat.le_of_eq rfl) (by decide) 23 rfl ?_
  show Go p_ e_ below _ T125 (mkF m_ 23 #[.val (.ref a), .val (.ref q), .val (.ref va)] [(.ref fa), (.ref va), (.ref a)])
  refine g_callSH X127 hx hown (wd hw 45 rfl) (wd hw 46 rfl) (wd hw 29 rfl) (wd hw 47 rfl) (by decide) e128 [(.ref va), (.ref fa)] [(.ref a)] hZ hS hk0 hEL H rfl (co7_0 l Z a0 hw hEL va fa  cs u cK h126 n0 szh139 F130  F131 hcs F132 F133 F134 hmd) (lenOf pd_11 rfl) 1 (Nat.le_of_eq rfl) (by decide) (by decide) (by decide) (by decide) (by rw [hml]; rfl) (hb hby d5_23) 26 rfl (fun r141 T142 h143 L144 X145 e146 hZ hown hS H Q147 => ?_)
  have hk0 := Nat.le_refl h143.size
  obtain ⟨b148, rfl, n149, K150, g152, A151⟩ := Q147
  have N153 := Fr.app N138 n149
  have ne154 : a ≠ b148 := Nat.ne_of_lt (Nat.lt_of_lt_of_le F135.lt g152)
  have ne155 : fa ≠ b148 := Nat.ne_of_lt (Nat.lt_of_lt_of_le F134.lt g152)
  have ne156 : va ≠ b148 := Nat.ne_of_lt (Nat.lt_of_lt_of_le F130.lt g152)
  have sz157 : n0 ≤ b148 := Nat.le_trans szh139 g152
  have szk158 : h0.size ≤ b148 := Nat.le_trans K140.1 g152
  have F159 := F130.keep K150 nin0
  have F160 := own_sta_keep F131 K150 ns0
  have F161 := own_sta_keep F132 K150 ns0
  have F162 := own_sta_keep F133 K150 ns0
  have F163 := F134.keep K150
  have F164 := F135.keep K150
  have F165 := F136.keep K150 nin0
  have F166 := F137.keep K150 nin0
  have szh167 : n0 ≤ h143.size := Nat.le_trans szh139 K150.1
  have K168 := K140.trans K150 all0
  show Go p_ e_ below _ T142 (mkF m_ 26 #[.val (.ref a), .val (.ref q), .val (.ref va)] [(.ref b148), (.ref a)])
  refine g_putfield X145 hx hZ hown (host := "") (Or.inl (wd hw 51 rfl)) Via.refl e146 F166 F164 (Or.inr ⟨(wd hw 52 rfl), rfl, hnm⟩) (wd hw 28 rfl) (ty := (.array (.array .byte))) (by decide) rfl rfl (hb hby d5_26) 29 rfl (fun T169 h170 X171 e172 W173 => ?_)
  have H := H.trans (CHr.wr W173 (Safe.exa hZ.alike F164 (by decide) (by decide)) H.1)
  have hk0 := Nat.le_trans hk0 (Nat.le_of_eq W173.size.symm)
  have F174 := F159.other W173 ne_va
  have F175 := F160.wr W173
  have F176 := F161.wr W173
  have F177 := F162.wr W173
  have F178 := F163.wr W173
  have F179 := F164.wr W173
  have F180 := F165.other W173 (Or.inr (slot_ne (Or.inr (wd hw 41 rfl)) (Or.inr (wd hw 52 rfl)) (by decide) (t := (.object "java/lang/String")) (t' := (.array (.array .byte))) (by decide) (by decide)))
  have F181 := F166.same W173
  have F182 := A151.other W173 (Ne.symm ne154)
  have N183 := Fr.snoc X171 N153 g_a
  have szh184 : n0 ≤ h170.size := Nat.le_trans szh167 (Nat.le_of_eq W173.size.symm)
  have K185 := K168.wr W173 (Or.inl (List.mem_of_getElem? (i := 0) rfl))
  show Go p_ e_ below _ T169 (mkF m_ 29 #[.val (.ref a), .val (.ref q), .val (.ref va)] [])
  exact g_retvH X171 hx hret hlk (by decide) (by decide) (hb hby d5_29) e172 hZ hS hk0 hEL H ⟨rfl, N183, K185, F179, b148, F181, F182⟩
def Q5_1 (Z : State) (a : Addr) (q : Addr) (va : Addr) (r0 : Addr) (b0 : Addr) (ks0 : List Int32) (cs : Int32) (u : Addr) (fa : Addr) (cK : ClassId) (h0 : Heap) (n0 : Nat) (v : Option Value) (h : Heap) (L : List Loc) : Prop := v = none ∧ Fr n0 L ∧ Keep h0 h [a] ∧ Exa Z h a "com/example/bindwick/bindwick/Attribute" ∧ ∃ d e0, Fld Z h a "com/example/bindwick/bindwick/Attribute" "values" "[[B" (.ref d) ∧ AV Z h d (.array .byte) [(.ref e0)] ∧ AV Z h e0 .byte (enc ks0) ∧ Exa Z h e0 "[B"
theorem ef5_1 (m_ : MethodId) (a : Addr) (q : Addr) (va : Addr)  : entryFrame m_ #[(.ref a), (.ref q), (.ref va)] 3 = mkF m_ 0 #[.val (.ref a), .val (.ref q), .val (.ref va)] [] := by first | (simp [entryFrame, mkF, argsToLocals, Value.category]; done) | rfl
set_option maxRecDepth 65536 in
set_option maxHeartbeats 40000000 in
theorem co5_1 (l : Launch) (Z : State) (a0 : Array Value) (hw : ∀ d ∈ tables_1, d.before a0 Z = true) (hEL : EW Z a0 EL) (a : Addr) (q : Addr) (va : Addr) (r0 : Addr) (b0 : Addr) (ks0 : List Int32) (cs : Int32) (u : Addr) (fa : Addr) (cK : ClassId) (h0 : Heap) (n0 : Nat) (Z0 : n0 ≤ h0.size)  (g_a : n0 ≤ a) (E_a : Exa Z h0 a "com/example/bindwick/bindwick/Attribute") (F_n : Fld Z h0 a "com/example/bindwick/bindwick/Attribute" "name" "Ljava/lang/String;" .null) (F_w : Fld Z h0 a "com/example/bindwick/bindwick/Attribute" "values" "[[B" .null) (A_v : AV Z h0 va (.object "java/lang/String") [(.ref r0)]) (E_r0 : Exa Z h0 r0 "java/lang/String") (F_c0 : Fld Z h0 r0 "java/lang/String" "coder" "B" (.int (0 : Int32))) (F_v0 : Fld Z h0 r0 "java/lang/String" "value" "[B" (.ref b0)) (A_b0 : AV Z h0 b0 .byte (raw ks0)) (E_b0 : Exa Z h0 b0 "[B") (ho0 : Oks ks0) (ne_va : va ≠ a) (ne_r0 : r0 ≠ a) (ne_b0 : b0 ≠ a) (S_cs : Sta Z h0 "java/lang/String" "COMPACT_STRINGS" "Z" (.int cs)) (hcs : ¬ cs = (0 : Int32)) (S_i : Sta Z h0 "sun/nio/cs/UTF_8" "INSTANCE" "Lsun/nio/cs/UTF_8;" (.ref u)) (S_u : Sta Z h0 "java/nio/charset/StandardCharsets" "UTF_8" "Ljava/nio/charset/Charset;" (.ref u)) (Fn : Fna h0 fa cK) (hsite : Site Z fa cK) : CoH l (⟨"com/example/bindwick/bindwick/Attribute", "<init>", "(Ljava/lang/String;[Ljava/lang/String;)V"⟩ : MethodName) prog_25_method_1_code 3 none [] ({ frames := 8, cells := 9, slots := 84, locals := 3074 } : Room) Z EL h0 #[(.ref a), (.ref q), (.ref va)] (Q5_1 Z a q va r0 b0 ks0 cs u fa cK h0 n0) := by
  refine CoH.ofN (plainFor_of_name pn_4) ?_
  intro p_ e_ s_ m_ below meth c_ T0 X0 hx hby hml hown hnm hret hlk hZ eq0 hs0 hS H hnam
  have N0 := Fr.nil n0
  have hk0 := Nat.le_refl h0.size
  refine Go.cast (ef5_1 m_ a q va ) ?_
  obtain ⟨m0, kk, i0, p0, hm0, hsk, hss, hmd⟩ := hsite
  have hmm := own_same hZ hm0 hnam
  subst hmm
  refine g_aloadN X0 hx rfl rfl (hb hby d5_0) 1 rfl ?_
  refine g_initO X0 hx hZ hown (wd hw 34 rfl) (wd hw 16 rfl) (wd hw 17 rfl) eq0 (by rw [hml]; rfl) (hb hby d5_1) (by decide) 0 (Nat.le_of_eq rfl) (by decide) 4 rfl (fun T101 X102 e103 => ?_)
  show Go p_ e_ below _ T101 (mkF m_ 4 #[.val (.ref a), .val (.ref q), .val (.ref va)] [])
  refine g_aloadN X102 hx rfl rfl (hb hby d5_4) 5 rfl ?_
  refine g_ldcO X102 hx hown (wd hw 35 rfl) (own_wS hw) e103 hZ hS hk0 hEL H (hb hby d5_5) (n := 16) (by decide) (by decide) (by decide) (by decide) 7 rfl (fun b106 T104 h105 k108 X109 e110 E111 hZ hown hS hk0 H => ?_)
  have F112 := A_v.ext E111
  have F113 := E_r0.ext E111
  have F114 := F_c0.ext E111
  have F115 := F_v0.ext E111
  have F116 := A_b0.ext E111
  have F117 := E_b0.ext E111
  have F118 := S_cs.ext E111
  have F119 := S_i.ext E111
  have F120 := S_u.ext E111
  have F121 := Fn.ext E111
  have F122 := E_a.ext E111
  have F123 := F_n.ext E111
  have F124 := F_w.ext E111
  have szh125 : n0 ≤ h105.size := Nat.le_trans Z0 E111.1
  have K126 := (Keep.refl h0 [a]).ext E111
  show Go p_ e_ below _ T104 (mkF m_ 7 #[.val (.ref a), .val (.ref q), .val (.ref va)] [(.ref b106), (.ref q)])
  refine g_callS X109 hx hZ hown (wd hw 36 rfl) (wd hw 37 rfl) (wd hw 38 rfl) (wd hw 39 rfl) (by decide) e110 [(.ref q), (.ref b106)] []  rfl (co6 l Z a0 hw q b106  h105 ) (lenOf pd_10 rfl) 0 (Nat.le_of_eq rfl) (by decide) (by decide) (by decide) (by decide) (by rw [hml]; rfl) (hb hby d5_7) 10 rfl (pu_cont fun T128 X127 e129 => ?_)
  show Go p_ e_ below _ T128 (mkF m_ 10 #[.val (.ref a), .val (.ref q), .val (.ref va)] [(.ref q)])
  refine g_pop X127 hx rfl (hb hby d5_10) 11 rfl ?_
  refine g_aloadN X127 hx rfl rfl (hb hby d5_11) 12 rfl ?_
  refine g_aloadN X127 hx rfl rfl (hb hby d5_12) 13 rfl ?_
  refine g_putfield X127 hx hZ hown (host := "") (Or.inl (wd hw 40 rfl)) Via.refl e129 F123 F122 (Or.inr ⟨(wd hw 41 rfl), rfl, hnm⟩) (wd hw 28 rfl) (ty := (.object "java/lang/String")) (by decide) rfl rfl (hb hby d5_13) 16 rfl (fun T130 h131 X132 e133 W134 => ?_)
  have H := H.trans (CHr.wr W134 (Safe.exa hZ.alike F122 (by decide) (by decide)) H.1)
  have hk0 := Nat.le_trans hk0 (Nat.le_of_eq W134.size.symm)
  have F135 := F112.other W134 ne_va
  have F136 := F113.wr W134
  have F137 := F114.other W134 (Or.inl ne_r0)
  have F138 := F115.other W134 (Or.inl ne_r0)
  have F139 := F116.other W134 ne_b0
  have F140 := F117.wr W134
  have F141 := F118.wr W134
  have F142 := F119.wr W134
  have F143 := F120.wr W134
  have F144 := F121.wr W134
  have F145 := F122.wr W134
  have F146 := F123.same W134
  have F147 := F124.other W134 (Or.inr (slot_ne (Or.inr (wd hw 52 rfl)) (Or.inr (wd hw 41 rfl)) (by decide) (t := (.array (.array .byte))) (t' := (.object "java/lang/String")) (by decide) (by decide)))
  have N148 := Fr.snoc X132 N0 g_a
  have szh149 : n0 ≤ h131.size := Nat.le_trans szh125 (Nat.le_of_eq W134.size.symm)
  have K150 := K126.wr W134 (Or.inl (List.mem_of_getElem? (i := 0) rfl))
  show Go p_ e_ below _ T130 (mkF m_ 16 #[.val (.ref a), .val (.ref q), .val (.ref va)] [])
  refine g_aloadN X132 hx rfl rfl (hb hby d5_16) 17 rfl ?_
  refine g_aloadN X132 hx rfl rfl (hb hby d5_17) 18 rfl ?_
  refine g_indy X132 hx hZ hsk hss (by rw [hml]; rfl) (hb hby d5_18) 2 (Nat.le_of_eq rfl) (by decide) 23 rfl ?_
  show Go p_ e_ below _ T130 (mkF m_ 23 #[.val (.ref a), .val (.ref q), .val (.ref va)] [(.ref fa), (.ref va), (.ref a)])
  refine g_callSH X132 hx hown (wd hw 45 rfl) (wd hw 46 rfl) (wd hw 29 rfl) (wd hw 47 rfl) (by decide) e133 [(.ref va), (.ref fa)] [(.ref a)] hZ hS hk0 hEL H rfl (co7_1 l Z a0 hw hEL va fa r0 b0 ks0 cs u cK h131 n0 szh149 F135 F136 F137 F138 F139 F140 ho0 F141 hcs F142 F143 F144 hmd) (lenOf pd_11 rfl) 1 (Nat.le_of_eq rfl) (by decide) (by decide) (by decide) (by decide) (by rw [hml]; rfl) (hb hby d5_23) 26 rfl (fun r151 T152 h153 L154 X155 e156 hZ hown hS H Q157 => ?_)
  have hk0 := Nat.le_refl h153.size
  obtain ⟨b158, b162, rfl, n159, K160, g165, g166, A161, A163, E164⟩ := Q157
  have N167 := Fr.app N148 n159
  have ne168 : a ≠ b158 := Nat.ne_of_lt (Nat.lt_of_lt_of_le F145.lt g165)
  have ne169 : b0 ≠ b158 := Nat.ne_of_lt (Nat.lt_of_lt_of_le F139.lt g165)
  have ne170 : fa ≠ b158 := Nat.ne_of_lt (Nat.lt_of_lt_of_le F144.lt g165)
  have ne171 : r0 ≠ b158 := Nat.ne_of_lt (Nat.lt_of_lt_of_le F136.lt g165)
  have ne172 : va ≠ b158 := Nat.ne_of_lt (Nat.lt_of_lt_of_le F135.lt g165)
  have sz173 : n0 ≤ b158 := Nat.le_trans szh149 g165
  have szk174 : h0.size ≤ b158 := Nat.le_trans K150.1 g165
  have ne175 : a ≠ b162 := Nat.ne_of_lt (Nat.lt_of_lt_of_le F145.lt g166)
  have ne176 : b0 ≠ b162 := Nat.ne_of_lt (Nat.lt_of_lt_of_le F139.lt g166)
  have ne177 : fa ≠ b162 := Nat.ne_of_lt (Nat.lt_of_lt_of_le F144.lt g166)
  have ne178 : r0 ≠ b162 := Nat.ne_of_lt (Nat.lt_of_lt_of_le F136.lt g166)
  have ne179 : va ≠ b162 := Nat.ne_of_lt (Nat.lt_of_lt_of_le F135.lt g166)
  have sz180 : n0 ≤ b162 := Nat.le_trans szh149 g166
  have szk181 : h0.size ≤ b162 := Nat.le_trans K150.1 g166
  have F182 := F135.keep K160 nin0
  have F183 := F136.keep K160
  have F184 := F137.keep K160 nin0
  have F185 := F138.keep K160 nin0
  have F186 := F139.keep K160 nin0
  have F187 := F140.keep K160
  have F188 := own_sta_keep F141 K160 ns0
  have F189 := own_sta_keep F142 K160 ns0
  have F190 := own_sta_keep F143 K160 ns0
  have F191 := F144.keep K160
  have F192 := F145.keep K160
  have F193 := F146.keep K160 nin0
  have F194 := F147.keep K160 nin0
  have szh195 : n0 ≤ h153.size := Nat.le_trans szh149 K160.1
  have K196 := K150.trans K160 all0
  show Go p_ e_ below _ T152 (mkF m_ 26 #[.val (.ref a), .val (.ref q), .val (.ref va)] [(.ref b158), (.ref a)])
  refine g_putfield X155 hx hZ hown (host := "") (Or.inl (wd hw 51 rfl)) Via.refl e156 F194 F192 (Or.inr ⟨(wd hw 52 rfl), rfl, hnm⟩) (wd hw 28 rfl) (ty := (.array (.array .byte))) (by decide) rfl rfl (hb hby d5_26) 29 rfl (fun T197 h198 X199 e200 W201 => ?_)
  have H := H.trans (CHr.wr W201 (Safe.exa hZ.alike F192 (by decide) (by decide)) H.1)
  have hk0 := Nat.le_trans hk0 (Nat.le_of_eq W201.size.symm)
  have F202 := F182.other W201 ne_va
  have F203 := F183.wr W201
  have F204 := F184.other W201 (Or.inl ne_r0)
  have F205 := F185.other W201 (Or.inl ne_r0)
  have F206 := F186.other W201 ne_b0
  have F207 := F187.wr W201
  have F208 := F188.wr W201
  have F209 := F189.wr W201
  have F210 := F190.wr W201
  have F211 := F191.wr W201
  have F212 := F192.wr W201
  have F213 := F193.other W201 (Or.inr (slot_ne (Or.inr (wd hw 41 rfl)) (Or.inr (wd hw 52 rfl)) (by decide) (t := (.object "java/lang/String")) (t' := (.array (.array .byte))) (by decide) (by decide)))
  have F214 := F194.same W201
  have F215 := A161.other W201 (Ne.symm ne168)
  have F216 := A163.other W201 (Ne.symm ne175)
  have F217 := E164.wr W201
  have N218 := Fr.snoc X199 N167 g_a
  have szh219 : n0 ≤ h198.size := Nat.le_trans szh195 (Nat.le_of_eq W201.size.symm)
  have K220 := K196.wr W201 (Or.inl (List.mem_of_getElem? (i := 0) rfl))
  show Go p_ e_ below _ T197 (mkF m_ 29 #[.val (.ref a), .val (.ref q), .val (.ref va)] [])
  exact g_retvH X199 hx hret hlk (by decide) (by decide) (hb hby d5_29) e200 hZ hS hk0 hEL H ⟨rfl, N218, K220, F212, b158, b162, F214, F215, F216, F217⟩
def Q5_2 (Z : State) (a : Addr) (q : Addr) (va : Addr) (r0 : Addr) (b0 : Addr) (ks0 : List Int32) (r1 : Addr) (b1 : Addr) (ks1 : List Int32) (cs : Int32) (u : Addr) (fa : Addr) (cK : ClassId) (h0 : Heap) (n0 : Nat) (v : Option Value) (h : Heap) (L : List Loc) : Prop := v = none ∧ Fr n0 L ∧ Keep h0 h [a] ∧ Exa Z h a "com/example/bindwick/bindwick/Attribute" ∧ ∃ d e0 e1, Fld Z h a "com/example/bindwick/bindwick/Attribute" "values" "[[B" (.ref d) ∧ AV Z h d (.array .byte) [(.ref e0), (.ref e1)] ∧ AV Z h e0 .byte (enc ks0) ∧ Exa Z h e0 "[B" ∧ AV Z h e1 .byte (enc ks1) ∧ Exa Z h e1 "[B"
theorem ef5_2 (m_ : MethodId) (a : Addr) (q : Addr) (va : Addr)  : entryFrame m_ #[(.ref a), (.ref q), (.ref va)] 3 = mkF m_ 0 #[.val (.ref a), .val (.ref q), .val (.ref va)] [] := by first | (simp [entryFrame, mkF, argsToLocals, Value.category]; done) | rfl
set_option maxRecDepth 65536 in
set_option maxHeartbeats 40000000 in
theorem co5_2 (l : Launch) (Z : State) (a0 : Array Value) (hw : ∀ d ∈ tables_1, d.before a0 Z = true) (hEL : EW Z a0 EL) (a : Addr) (q : Addr) (va : Addr) (r0 : Addr) (b0 : Addr) (ks0 : List Int32) (r1 : Addr) (b1 : Addr) (ks1 : List Int32) (cs : Int32) (u : Addr) (fa : Addr) (cK : ClassId) (h0 : Heap) (n0 : Nat) (Z0 : n0 ≤ h0.size)  (g_a : n0 ≤ a) (E_a : Exa Z h0 a "com/example/bindwick/bindwick/Attribute") (F_n : Fld Z h0 a "com/example/bindwick/bindwick/Attribute" "name" "Ljava/lang/String;" .null) (F_w : Fld Z h0 a "com/example/bindwick/bindwick/Attribute" "values" "[[B" .null) (A_v : AV Z h0 va (.object "java/lang/String") [(.ref r0), (.ref r1)]) (E_r0 : Exa Z h0 r0 "java/lang/String") (F_c0 : Fld Z h0 r0 "java/lang/String" "coder" "B" (.int (0 : Int32))) (F_v0 : Fld Z h0 r0 "java/lang/String" "value" "[B" (.ref b0)) (A_b0 : AV Z h0 b0 .byte (raw ks0)) (E_b0 : Exa Z h0 b0 "[B") (ho0 : Oks ks0) (E_r1 : Exa Z h0 r1 "java/lang/String") (F_c1 : Fld Z h0 r1 "java/lang/String" "coder" "B" (.int (0 : Int32))) (F_v1 : Fld Z h0 r1 "java/lang/String" "value" "[B" (.ref b1)) (A_b1 : AV Z h0 b1 .byte (raw ks1)) (E_b1 : Exa Z h0 b1 "[B") (ho1 : Oks ks1) (ne_va : va ≠ a) (ne_r0 : r0 ≠ a) (ne_b0 : b0 ≠ a) (ne_r1 : r1 ≠ a) (ne_b1 : b1 ≠ a) (S_cs : Sta Z h0 "java/lang/String" "COMPACT_STRINGS" "Z" (.int cs)) (hcs : ¬ cs = (0 : Int32)) (S_i : Sta Z h0 "sun/nio/cs/UTF_8" "INSTANCE" "Lsun/nio/cs/UTF_8;" (.ref u)) (S_u : Sta Z h0 "java/nio/charset/StandardCharsets" "UTF_8" "Ljava/nio/charset/Charset;" (.ref u)) (Fn : Fna h0 fa cK) (hsite : Site Z fa cK) : CoH l (⟨"com/example/bindwick/bindwick/Attribute", "<init>", "(Ljava/lang/String;[Ljava/lang/String;)V"⟩ : MethodName) prog_25_method_1_code 3 none [] ({ frames := 8, cells := 13, slots := 120, locals := 3074 } : Room) Z EL h0 #[(.ref a), (.ref q), (.ref va)] (Q5_2 Z a q va r0 b0 ks0 r1 b1 ks1 cs u fa cK h0 n0) := by
  refine CoH.ofN (plainFor_of_name pn_4) ?_
  intro p_ e_ s_ m_ below meth c_ T0 X0 hx hby hml hown hnm hret hlk hZ eq0 hs0 hS H hnam
  have N0 := Fr.nil n0
  have hk0 := Nat.le_refl h0.size
  refine Go.cast (ef5_2 m_ a q va ) ?_
  obtain ⟨m0, kk, i0, p0, hm0, hsk, hss, hmd⟩ := hsite
  have hmm := own_same hZ hm0 hnam
  subst hmm
  refine g_aloadN X0 hx rfl rfl (hb hby d5_0) 1 rfl ?_
  refine g_initO X0 hx hZ hown (wd hw 34 rfl) (wd hw 16 rfl) (wd hw 17 rfl) eq0 (by rw [hml]; rfl) (hb hby d5_1) (by decide) 0 (Nat.le_of_eq rfl) (by decide) 4 rfl (fun T101 X102 e103 => ?_)
  show Go p_ e_ below _ T101 (mkF m_ 4 #[.val (.ref a), .val (.ref q), .val (.ref va)] [])
  refine g_aloadN X102 hx rfl rfl (hb hby d5_4) 5 rfl ?_
  refine g_ldcO X102 hx hown (wd hw 35 rfl) (own_wS hw) e103 hZ hS hk0 hEL H (hb hby d5_5) (n := 16) (by decide) (by decide) (by decide) (by decide) 7 rfl (fun b106 T104 h105 k108 X109 e110 E111 hZ hown hS hk0 H => ?_)
  have F112 := A_v.ext E111
  have F113 := E_r0.ext E111
  have F114 := F_c0.ext E111
  have F115 := F_v0.ext E111
  have F116 := A_b0.ext E111
  have F117 := E_b0.ext E111
  have F118 := E_r1.ext E111
  have F119 := F_c1.ext E111
  have F120 := F_v1.ext E111
  have F121 := A_b1.ext E111
  have F122 := E_b1.ext E111
  have F123 := S_cs.ext E111
  have F124 := S_i.ext E111
  have F125 := S_u.ext E111
  have F126 := Fn.ext E111
  have F127 := E_a.ext E111
  have F128 := F_n.ext E111
  have F129 := F_w.ext E111
  have szh130 : n0 ≤ h105.size := Nat.le_trans Z0 E111.1
  have K131 := (Keep.refl h0 [a]).ext E111
  show Go p_ e_ below _ T104 (mkF m_ 7 #[.val (.ref a), .val (.ref q), .val (.ref va)] [(.ref b106), (.ref q)])
  refine g_callS X109 hx hZ hown (wd hw 36 rfl) (wd hw 37 rfl) (wd hw 38 rfl) (wd hw 39 rfl) (by decide) e110 [(.ref q), (.ref b106)] []  rfl (co6 l Z a0 hw q b106  h105 ) (lenOf pd_10 rfl) 0 (Nat.le_of_eq rfl) (by decide) (by decide) (by decide) (by decide) (by rw [hml]; rfl) (hb hby d5_7) 10 rfl (pu_cont fun T133 X132 e134 => ?_)
  show Go p_ e_ below _ T133 (mkF m_ 10 #[.val (.ref a), .val (.ref q), .val (.ref va)] [(.ref q)])
  refine g_pop X132 hx rfl (hb hby d5_10) 11 rfl ?_
  refine g_aloadN X132 hx rfl rfl (hb hby d5_11) 12 rfl ?_
  refine g_aloadN X132 hx rfl rfl (hb hby d5_12) 13 rfl ?_
  refine g_putfield X132 hx hZ hown (host := "") (Or.inl (wd hw 40 rfl)) Via.refl e134 F128 F127 (Or.inr ⟨(wd hw 41 rfl), rfl, hnm⟩) (wd hw 28 rfl) (ty := (.object "java/lang/String")) (by decide) rfl rfl (hb hby d5_13) 16 rfl (fun T135 h136 X137 e138 W139 => ?_)
  have H := H.trans (CHr.wr W139 (Safe.exa hZ.alike F127 (by decide) (by decide)) H.1)
  have hk0 := Nat.le_trans hk0 (Nat.le_of_eq W139.size.symm)
  have F140 := F112.other W139 ne_va
  have F141 := F113.wr W139
  have F142 := F114.other W139 (Or.inl ne_r0)
  have F143 := F115.other W139 (Or.inl ne_r0)
  have F144 := F116.other W139 ne_b0
  have F145 := F117.wr W139
  have F146 := F118.wr W139
  have F147 := F119.other W139 (Or.inl ne_r1)
  have F148 := F120.other W139 (Or.inl ne_r1)
  have F149 := F121.other W139 ne_b1
  have F150 := F122.wr W139
  have F151 := F123.wr W139
  have F152 := F124.wr W139
  have F153 := F125.wr W139
  have F154 := F126.wr W139
  have F155 := F127.wr W139
  have F156 := F128.same W139
  have F157 := F129.other W139 (Or.inr (slot_ne (Or.inr (wd hw 52 rfl)) (Or.inr (wd hw 41 rfl)) (by decide) (t := (.array (.array .byte))) (t' := (.object "java/lang/String")) (by decide) (by decide)))
  have N158 := Fr.snoc X137 N0 g_a
  have szh159 : n0 ≤ h136.size := Nat.le_trans szh130 (Nat.le_of_eq W139.size.symm)
  have K160 := K131.wr W139 (Or.inl (List.mem_of_getElem? (i := 0) rfl))
  show Go p_ e_ below _ T135 (mkF m_ 16 #[.val (.ref a), .val (.ref q), .val (.ref va)] [])
  refine g_aloadN X137 hx rfl rfl (hb hby d5_16) 17 rfl ?_
  refine g_aloadN X137 hx rfl rfl (hb hby d5_17) 18 rfl ?_
  refine g_indy X137 hx hZ hsk hss (by rw [hml]; rfl) (hb hby d5_18) 2 (Nat.le_of_eq rfl) (by decide) 23 rfl ?_
  show Go p_ e_ below _ T135 (mkF m_ 23 #[.val (.ref a), .val (.ref q), .val (.ref va)] [(.ref fa), (.ref va), (.ref a)])
  refine g_callSH X137 hx hown (wd hw 45 rfl) (wd hw 46 rfl) (wd hw 29 rfl) (wd hw 47 rfl) (by decide) e138 [(.ref va), (.ref fa)] [(.ref a)] hZ hS hk0 hEL H rfl (co7_2 l Z a0 hw hEL va fa r0 b0 ks0 r1 b1 ks1 cs u cK h136 n0 szh159 F140 F141 F142 F143 F144 F145 ho0 F146 F147 F148 F149 F150 ho1 F151 hcs F152 F153 F154 hmd) (lenOf pd_11 rfl) 1 (Nat.le_of_eq rfl) (by decide) (by decide) (by decide) (by decide) (by rw [hml]; rfl) (hb hby d5_23) 26 rfl (fun r161 T162 h163 L164 X165 e166 hZ hown hS H Q167 => ?_)
  have hk0 := Nat.le_refl h163.size
  obtain ⟨b168, b172, b173, rfl, n169, K170, g178, g179, g180, A171, A174, E175, A176, E177⟩ := Q167
  have N181 := Fr.app N158 n169
  have ne182 : a ≠ b168 := Nat.ne_of_lt (Nat.lt_of_lt_of_le F155.lt g178)
  have ne183 : b0 ≠ b168 := Nat.ne_of_lt (Nat.lt_of_lt_of_le F144.lt g178)
  have ne184 : b1 ≠ b168 := Nat.ne_of_lt (Nat.lt_of_lt_of_le F149.lt g178)
  have ne185 : fa ≠ b168 := Nat.ne_of_lt (Nat.lt_of_lt_of_le F154.lt g178)
  have ne186 : r0 ≠ b168 := Nat.ne_of_lt (Nat.lt_of_lt_of_le F141.lt g178)
  have ne187 : r1 ≠ b168 := Nat.ne_of_lt (Nat.lt_of_lt_of_le F146.lt g178)
  have ne188 : va ≠ b168 := Nat.ne_of_lt (Nat.lt_of_lt_of_le F140.lt g178)
  have sz189 : n0 ≤ b168 := Nat.le_trans szh159 g178
  have szk190 : h0.size ≤ b168 := Nat.le_trans K160.1 g178
  have ne191 : a ≠ b172 := Nat.ne_of_lt (Nat.lt_of_lt_of_le F155.lt g179)
  have ne192 : b0 ≠ b172 := Nat.ne_of_lt (Nat.lt_of_lt_of_le F144.lt g179)
  have ne193 : b1 ≠ b172 := Nat.ne_of_lt (Nat.lt_of_lt_of_le F149.lt g179)
  have ne194 : fa ≠ b172 := Nat.ne_of_lt (Nat.lt_of_lt_of_le F154.lt g179)
  have ne195 : r0 ≠ b172 := Nat.ne_of_lt (Nat.lt_of_lt_of_le F141.lt g179)
  have ne196 : r1 ≠ b172 := Nat.ne_of_lt (Nat.lt_of_lt_of_le F146.lt g179)
  have ne197 : va ≠ b172 := Nat.ne_of_lt (Nat.lt_of_lt_of_le F140.lt g179)
  have sz198 : n0 ≤ b172 := Nat.le_trans szh159 g179
  have szk199 : h0.size ≤ b172 := Nat.le_trans K160.1 g179
  have ne200 : a ≠ b173 := Nat.ne_of_lt (Nat.lt_of_lt_of_le F155.lt g180)
  have ne201 : b0 ≠ b173 := Nat.ne_of_lt (Nat.lt_of_lt_of_le F144.lt g180)
  have ne202 : b1 ≠ b173 := Nat.ne_of_lt (Nat.lt_of_lt_of_le F149.lt g180)
  have ne203 : fa ≠ b173 := Nat.ne_of_lt (Nat.lt_of_lt_of_le F154.lt g180)
  have ne204 : r0 ≠ b173 := Nat.ne_of_lt (Nat.lt_of_lt_of_le F141.lt g180)
  have ne205 : r1 ≠ b173 := Nat.ne_of_lt (Nat.lt_of_lt_of_le F146.lt g180)
  have ne206 : va ≠ b173 := Nat.ne_of_lt (Nat.lt_of_lt_of_le F140.lt g180)
  have sz207 : n0 ≤ b173 := Nat.le_trans szh159 g180
  have szk208 : h0.size ≤ b173 := Nat.le_trans K160.1 g180
  have F209 := F140.keep K170 nin0
  have F210 := F141.keep K170
  have F211 := F142.keep K170 nin0
  have F212 := F143.keep K170 nin0
  have F213 := F144.keep K170 nin0
  have F214 := F145.keep K170
  have F215 := F146.keep K170
  have F216 := F147.keep K170 nin0
  have F217 := F148.keep K170 nin0
  have F218 := F149.keep K170 nin0
  have F219 := F150.keep K170
  have F220 := own_sta_keep F151 K170 ns0
  have F221 := own_sta_keep F152 K170 ns0
  have F222 := own_sta_keep F153 K170 ns0
  have F223 := F154.keep K170
  have F224 := F155.keep K170
  have F225 := F156.keep K170 nin0
  have F226 := F157.keep K170 nin0
  have szh227 : n0 ≤ h163.size := Nat.le_trans szh159 K170.1
  have K228 := K160.trans K170 all0
  show Go p_ e_ below _ T162 (mkF m_ 26 #[.val (.ref a), .val (.ref q), .val (.ref va)] [(.ref b168), (.ref a)])
  refine g_putfield X165 hx hZ hown (host := "") (Or.inl (wd hw 51 rfl)) Via.refl e166 F226 F224 (Or.inr ⟨(wd hw 52 rfl), rfl, hnm⟩) (wd hw 28 rfl) (ty := (.array (.array .byte))) (by decide) rfl rfl (hb hby d5_26) 29 rfl (fun T229 h230 X231 e232 W233 => ?_)
  have H := H.trans (CHr.wr W233 (Safe.exa hZ.alike F224 (by decide) (by decide)) H.1)
  have hk0 := Nat.le_trans hk0 (Nat.le_of_eq W233.size.symm)
  have F234 := F209.other W233 ne_va
  have F235 := F210.wr W233
  have F236 := F211.other W233 (Or.inl ne_r0)
  have F237 := F212.other W233 (Or.inl ne_r0)
  have F238 := F213.other W233 ne_b0
  have F239 := F214.wr W233
  have F240 := F215.wr W233
  have F241 := F216.other W233 (Or.inl ne_r1)
  have F242 := F217.other W233 (Or.inl ne_r1)
  have F243 := F218.other W233 ne_b1
  have F244 := F219.wr W233
  have F245 := F220.wr W233
  have F246 := F221.wr W233
  have F247 := F222.wr W233
  have F248 := F223.wr W233
  have F249 := F224.wr W233
  have F250 := F225.other W233 (Or.inr (slot_ne (Or.inr (wd hw 41 rfl)) (Or.inr (wd hw 52 rfl)) (by decide) (t := (.object "java/lang/String")) (t' := (.array (.array .byte))) (by decide) (by decide)))
  have F251 := F226.same W233
  have F252 := A171.other W233 (Ne.symm ne182)
  have F253 := A174.other W233 (Ne.symm ne191)
  have F254 := E175.wr W233
  have F255 := A176.other W233 (Ne.symm ne200)
  have F256 := E177.wr W233
  have N257 := Fr.snoc X231 N181 g_a
  have szh258 : n0 ≤ h230.size := Nat.le_trans szh227 (Nat.le_of_eq W233.size.symm)
  have K259 := K228.wr W233 (Or.inl (List.mem_of_getElem? (i := 0) rfl))
  show Go p_ e_ below _ T229 (mkF m_ 29 #[.val (.ref a), .val (.ref q), .val (.ref va)] [])
  exact g_retvH X231 hx hret hlk (by decide) (by decide) (hb hby d5_29) e232 hZ hS hk0 hEL H ⟨rfl, N257, K259, F249, b168, b172, b173, F251, F252, F253, F254, F255, F256⟩
def Q8_0 (Z : State) (a : Addr) (d : Addr) (h0 : Heap) (n0 : Nat) (v : Option Value) (h : Heap) (L : List Loc) : Prop := ∃ b, v = some (.ref b) ∧ Fr n0 L ∧ Keep h0 h [] ∧ h0.size ≤ b ∧ AV Z h b (.array .byte) []
theorem ef8_0 (m_ : MethodId) (a : Addr)  : entryFrame m_ #[(.ref a)] 3 = mkF m_ 0 #[.val (.ref a), .unset, .unset] [] := by first | (simp [entryFrame, mkF, argsToLocals, Value.category]; done) | rfl
theorem d8_0 : decode prog_25_method_10_code 0 = .ok (.aload_n 0, 1) := by decide +kernel
theorem d8_1 : decode prog_25_method_10_code 1 = .ok (.getfield 28, 3) := by decide +kernel
theorem d8_4 : decode prog_25_method_10_code 4 = .ok (.arraylength, 1) := by decide +kernel
theorem d8_5 : decode prog_25_method_10_code 5 = .ok (.anewarray 33, 3) := by decide +kernel
theorem d8_8 : decode prog_25_method_10_code 8 = .ok (.astore_n 1, 1) := by decide +kernel
theorem d8_9 : decode prog_25_method_10_code 9 = .ok (.iconst 0, 1) := by decide +kernel
theorem d8_10 : decode prog_25_method_10_code 10 = .ok (.istore_n 2, 1) := by decide +kernel
theorem d8_11 : decode prog_25_method_10_code 11 = .ok (.iload_n 2, 1) := by decide +kernel
theorem d8_12 : decode prog_25_method_10_code 12 = .ok (.aload_n 0, 1) := by decide +kernel
theorem d8_13 : decode prog_25_method_10_code 13 = .ok (.getfield 28, 3) := by decide +kernel
theorem d8_16 : decode prog_25_method_10_code 16 = .ok (.arraylength, 1) := by decide +kernel
theorem d8_17 : decode prog_25_method_10_code 17 = .ok (.if_icmp .ge 24, 3) := by decide +kernel
theorem d8_41 : decode prog_25_method_10_code 41 = .ok (.aload_n 1, 1) := by decide +kernel
theorem d8_42 : decode prog_25_method_10_code 42 = .ok (.areturn, 1) := by decide +kernel
set_option maxRecDepth 65536 in
set_option maxHeartbeats 40000000 in
theorem co8_0 (l : Launch) (Z : State) (a0 : Array Value) (hw : ∀ d ∈ tables_1, d.before a0 Z = true) (a : Addr) (d : Addr) (h0 : Heap) (n0 : Nat) (Z0 : n0 ≤ h0.size)   (F_w : Fld Z h0 a "com/example/bindwick/bindwick/Attribute" "values" "[[B" (.ref d)) (E_a : Exa Z h0 a "com/example/bindwick/bindwick/Attribute") (A_d : AV Z h0 d (.array .byte) []) : Co l (⟨"com/example/bindwick/bindwick/Attribute", "getValueByteArrays", "()[[B"⟩ : MethodName) prog_25_method_10_code 3 (some (.array (.array .byte))) [] ({ frames := 1, cells := 1, slots := 0, locals := 16 } : Room) Z h0 #[(.ref a)] (Q8_0 Z a d h0 n0) := by
  refine Co.of (plainFor_of_name pn_4) ?_
  intro p_ e_ s_ m_ below meth c_ T0 X0 hx hby hml hown hnm hret hlk hZ eq0
  have N0 := Fr.nil n0
  refine Go.cast (ef8_0 m_ a ) ?_
  refine g_aloadN X0 hx rfl rfl (hb hby d8_0) 1 rfl ?_
  refine g_getfield X0 hx hZ hown (host := "") (Or.inl (wd hw 51 rfl)) Via.refl F_w eq0 (hb hby d8_1) 4 rfl (fun T101 X102 e103 => ?_)
  show Go p_ e_ below _ T101 (mkF m_ 4 #[.val (.ref a), .unset, .unset] [(.ref d)])
  refine g_arraylength X102 hx hZ e103 A_d (0 : Int32) rfl (hb hby d8_4) 5 rfl ?_
  refine g_anewarrayA X102 hx hZ hown (ty := .byte) own_bn2 (wd hw 49 rfl) (wd hw 50 rfl) e103 (by decide) 0 (by decide) (by decide) (by decide) (by decide) [] rfl (hb hby d8_5) 8 rfl (fun T104 h105 b106 X107 e108 g109 E110 A111 O112 => ?_)
  have ne113 : a ≠ b106 := Nat.ne_of_lt (Nat.lt_of_lt_of_eq E_a.lt g109.symm)
  have ne114 : d ≠ b106 := Nat.ne_of_lt (Nat.lt_of_lt_of_eq A_d.lt g109.symm)
  have F115 := E_a.ext E110
  have F116 := F_w.ext E110
  have F117 := A_d.ext E110
  have sz118 : n0 ≤ b106 := Nat.le_trans Z0 (Nat.le_of_eq g109.symm)
  have szh119 : n0 ≤ h105.size := Nat.le_trans Z0 E110.1
  have szk120 : h0.size ≤ b106 := Nat.le_trans (Keep.refl h0 []).1 (Nat.le_of_eq g109.symm)
  have K121 := (Keep.refl h0 []).ext E110
  show Go p_ e_ below _ T104 (mkF m_ 8 #[.val (.ref a), .unset, .unset] [(.ref b106)])
  refine g_astoreN X107 hx #[.val (.ref a), .val (.ref b106), .unset] rfl rfl (hb hby d8_8) 9 rfl ?_
  refine g_iconst X107 hx (0 : Int32) rfl (hb hby d8_9) 10 rfl ?_
  refine g_istoreN X107 hx #[.val (.ref a), .val (.ref b106), .val (.int (0 : Int32))] rfl (hb hby d8_10) 11 rfl ?_
  refine g_iloadN X107 hx rfl (hb hby d8_11) 12 rfl ?_
  refine g_aloadN X107 hx rfl rfl (hb hby d8_12) 13 rfl ?_
  refine g_getfield X107 hx hZ hown (host := "") (Or.inl (wd hw 51 rfl)) Via.refl F116 e108 (hb hby d8_13) 16 rfl (fun T122 X123 e124 => ?_)
  show Go p_ e_ below _ T122 (mkF m_ 16 #[.val (.ref a), .val (.ref b106), .val (.int (0 : Int32))] [(.ref d), (.int (0 : Int32))])
  refine g_arraylength X123 hx hZ e124 F117 (0 : Int32) rfl (hb hby d8_16) 17 rfl ?_
  refine g_icmp_ge X123 hx (hb hby d8_17) 41 20 (by decide) rfl rfl (fun q125 => ?_) (fun q125 => ?_)
  · refine g_aloadN X123 hx rfl rfl (hb hby d8_41) 42 rfl ?_
    exact g_reta X123 hx rfl rfl hret hlk (by decide) (by decide) (hb hby d8_42) (by rw [e124]; exact ⟨b106, rfl, N0, K121, szk120, A111⟩)
  · exact absurd q125 (by decide)
def Q8_1 (Z : State) (a : Addr) (d : Addr) (e0 : Addr) (ks0 : List Int32) (h0 : Heap) (n0 : Nat) (v : Option Value) (h : Heap) (L : List Loc) : Prop := ∃ b f0, v = some (.ref b) ∧ Fr n0 L ∧ Keep h0 h [] ∧ h0.size ≤ b ∧ AV Z h b (.array .byte) [(.ref f0)] ∧ h0.size ≤ f0 ∧ AV Z h f0 .byte (enc ks0) ∧ Exa Z h f0 "[B" ∧ b ≠ f0
theorem ef8_1 (m_ : MethodId) (a : Addr)  : entryFrame m_ #[(.ref a)] 3 = mkF m_ 0 #[.val (.ref a), .unset, .unset] [] := by first | (simp [entryFrame, mkF, argsToLocals, Value.category]; done) | rfl
theorem d8_20 : decode prog_25_method_10_code 20 = .ok (.aload_n 1, 1) := by decide +kernel
theorem d8_21 : decode prog_25_method_10_code 21 = .ok (.iload_n 2, 1) := by decide +kernel
theorem d8_22 : decode prog_25_method_10_code 22 = .ok (.aload_n 0, 1) := by decide +kernel
theorem d8_23 : decode prog_25_method_10_code 23 = .ok (.getfield 28, 3) := by decide +kernel
theorem d8_26 : decode prog_25_method_10_code 26 = .ok (.iload_n 2, 1) := by decide +kernel
theorem d8_27 : decode prog_25_method_10_code 27 = .ok (.aaload, 1) := by decide +kernel
theorem d8_28 : decode prog_25_method_10_code 28 = .ok (.invokevirtual 75, 3) := by decide +kernel
theorem d8_31 : decode prog_25_method_10_code 31 = .ok (.checkcast 33, 3) := by decide +kernel
theorem d8_34 : decode prog_25_method_10_code 34 = .ok (.aastore, 1) := by decide +kernel
theorem d8_35 : decode prog_25_method_10_code 35 = .ok (.iinc 2 1, 3) := by decide +kernel
theorem d8_38 : decode prog_25_method_10_code 38 = .ok (.goto (-27), 3) := by decide +kernel
set_option maxRecDepth 65536 in
set_option maxHeartbeats 40000000 in
theorem co8_1 (l : Launch) (Z : State) (a0 : Array Value) (hw : ∀ d ∈ tables_1, d.before a0 Z = true) (a : Addr) (d : Addr) (e0 : Addr) (ks0 : List Int32) (h0 : Heap) (n0 : Nat) (Z0 : n0 ≤ h0.size)   (F_w : Fld Z h0 a "com/example/bindwick/bindwick/Attribute" "values" "[[B" (.ref d)) (E_a : Exa Z h0 a "com/example/bindwick/bindwick/Attribute") (A_d : AV Z h0 d (.array .byte) [(.ref e0)]) (A_0 : AV Z h0 e0 .byte (enc ks0)) (E_0 : Exa Z h0 e0 "[B") (ho0 : Oks ks0) : Co l (⟨"com/example/bindwick/bindwick/Attribute", "getValueByteArrays", "()[[B"⟩ : MethodName) prog_25_method_10_code 3 (some (.array (.array .byte))) [] ({ frames := 1, cells := 2, slots := 5, locals := 16 } : Room) Z h0 #[(.ref a)] (Q8_1 Z a d e0 ks0 h0 n0) := by
  refine Co.of (plainFor_of_name pn_4) ?_
  intro p_ e_ s_ m_ below meth c_ T0 X0 hx hby hml hown hnm hret hlk hZ eq0
  have N0 := Fr.nil n0
  refine Go.cast (ef8_1 m_ a ) ?_
  refine g_aloadN X0 hx rfl rfl (hb hby d8_0) 1 rfl ?_
  refine g_getfield X0 hx hZ hown (host := "") (Or.inl (wd hw 51 rfl)) Via.refl F_w eq0 (hb hby d8_1) 4 rfl (fun T101 X102 e103 => ?_)
  show Go p_ e_ below _ T101 (mkF m_ 4 #[.val (.ref a), .unset, .unset] [(.ref d)])
  refine g_arraylength X102 hx hZ e103 A_d (1 : Int32) rfl (hb hby d8_4) 5 rfl ?_
  refine g_anewarrayA X102 hx hZ hown (ty := .byte) own_bn2 (wd hw 49 rfl) (wd hw 50 rfl) e103 (by decide) 1 (by decide) (by decide) (by decide) (by decide) [.null] rfl (hb hby d8_5) 8 rfl (fun T104 h105 b106 X107 e108 g109 E110 A111 O112 => ?_)
  have ne113 : a ≠ b106 := Nat.ne_of_lt (Nat.lt_of_lt_of_eq E_a.lt g109.symm)
  have ne114 : d ≠ b106 := Nat.ne_of_lt (Nat.lt_of_lt_of_eq A_d.lt g109.symm)
  have ne115 : e0 ≠ b106 := Nat.ne_of_lt (Nat.lt_of_lt_of_eq A_0.lt g109.symm)
  have F116 := E_a.ext E110
  have F117 := F_w.ext E110
  have F118 := A_d.ext E110
  have F119 := A_0.ext E110
  have F120 := E_0.ext E110
  have sz121 : n0 ≤ b106 := Nat.le_trans Z0 (Nat.le_of_eq g109.symm)
  have szh122 : n0 ≤ h105.size := Nat.le_trans Z0 E110.1
  have szk123 : h0.size ≤ b106 := Nat.le_trans (Keep.refl h0 []).1 (Nat.le_of_eq g109.symm)
  have K124 := (Keep.refl h0 []).ext E110
  show Go p_ e_ below _ T104 (mkF m_ 8 #[.val (.ref a), .unset, .unset] [(.ref b106)])
  refine g_astoreN X107 hx #[.val (.ref a), .val (.ref b106), .unset] rfl rfl (hb hby d8_8) 9 rfl ?_
  refine g_iconst X107 hx (0 : Int32) rfl (hb hby d8_9) 10 rfl ?_
  refine g_istoreN X107 hx #[.val (.ref a), .val (.ref b106), .val (.int (0 : Int32))] rfl (hb hby d8_10) 11 rfl ?_
  refine g_iloadN X107 hx rfl (hb hby d8_11) 12 rfl ?_
  refine g_aloadN X107 hx rfl rfl (hb hby d8_12) 13 rfl ?_
  refine g_getfield X107 hx hZ hown (host := "") (Or.inl (wd hw 51 rfl)) Via.refl F117 e108 (hb hby d8_13) 16 rfl (fun T125 X126 e127 => ?_)
  show Go p_ e_ below _ T125 (mkF m_ 16 #[.val (.ref a), .val (.ref b106), .val (.int (0 : Int32))] [(.ref d), (.int (0 : Int32))])
  refine g_arraylength X126 hx hZ e127 F118 (1 : Int32) rfl (hb hby d8_16) 17 rfl ?_
  refine g_icmp_ge X126 hx (hb hby d8_17) 41 20 (by decide) rfl rfl (fun q128 => ?_) (fun q128 => ?_)
  · exact absurd q128 (by decide)
  · refine g_aloadN X126 hx rfl rfl (hb hby d8_20) 21 rfl ?_
    refine g_iloadN X126 hx rfl (hb hby d8_21) 22 rfl ?_
    refine g_aloadN X126 hx rfl rfl (hb hby d8_22) 23 rfl ?_
    refine g_getfield X126 hx hZ hown (host := "") (Or.inl (wd hw 51 rfl)) Via.refl F117 e127 (hb hby d8_23) 26 rfl (fun T129 X130 e131 => ?_)
    show Go p_ e_ below _ T129 (mkF m_ 26 #[.val (.ref a), .val (.ref b106), .val (.int (0 : Int32))] [(.ref d), (.int (0 : Int32)), (.ref b106)])
    refine g_iloadN X130 hx rfl (hb hby d8_26) 27 rfl ?_
    refine g_aaload X130 hx hZ e131 F118 rfl (by decide) rfl (hb hby d8_27) 28 rfl ?_
    show Go p_ e_ below _ T129 (mkF m_ 28 #[.val (.ref a), .val (.ref b106), .val (.int (0 : Int32))] [(.ref e0), (.int (0 : Int32)), (.ref b106)])
    refine g_clone X130 hx hZ hown (wd hw 113 rfl) (wd hw 105 rfl) (wd hw 109 rfl) (wd hw 107 rfl) (wd hw 108 rfl) (wd hw 110 rfl) e131 F119 (enc_fits ks0) F120 (by rw [hml]; rfl) 2 (Nat.le_of_eq rfl) (by decide) (by decide) 4 (enc_len ho0) (by decide) (by decide) (hb hby d8_28) 31 rfl (fun T132 h133 b134 X135 e136 g137 E138 A139 E140 => ?_)
    have ne141 : a ≠ b134 := Nat.ne_of_lt (Nat.lt_of_lt_of_eq F116.lt g137.symm)
    have ne142 : b106 ≠ b134 := Nat.ne_of_lt (Nat.lt_of_lt_of_eq A111.lt g137.symm)
    have ne143 : d ≠ b134 := Nat.ne_of_lt (Nat.lt_of_lt_of_eq F118.lt g137.symm)
    have ne144 : e0 ≠ b134 := Nat.ne_of_lt (Nat.lt_of_lt_of_eq F119.lt g137.symm)
    have F145 := F116.ext E138
    have F146 := F117.ext E138
    have F147 := F118.ext E138
    have F148 := F119.ext E138
    have F149 := F120.ext E138
    have F150 := A111.ext E138
    have F151 := O112.ext E138
    have sz152 : n0 ≤ b134 := Nat.le_trans szh122 (Nat.le_of_eq g137.symm)
    have szh153 : n0 ≤ h133.size := Nat.le_trans szh122 E138.1
    have szk154 : h0.size ≤ b134 := Nat.le_trans K124.1 (Nat.le_of_eq g137.symm)
    have K155 := K124.ext E138
    show Go p_ e_ below _ T132 (mkF m_ 31 #[.val (.ref a), .val (.ref b106), .val (.int (0 : Int32))] [(.ref b134), (.int (0 : Int32)), (.ref b106)])
    refine g_checkcast X135 hx hZ hown (wd hw 49 rfl) (Ins.self E140) e136 (hb hby d8_31) 34 rfl (fun T156 X157 e158 => ?_)
    show Go p_ e_ below _ T156 (mkF m_ 34 #[.val (.ref a), .val (.ref b106), .val (.int (0 : Int32))] [(.ref b134), (.int (0 : Int32)), (.ref b106)])
    refine g_aastore X157 hx hZ e158 F150 rfl (F151.sto F150 (Ins.self E140)) (by decide) (Nat.le_of_ble_eq_true rfl) (hb hby d8_34) 35 rfl (fun T159 h160 X161 e162 W163 A164 => ?_)
    have A165 : AV Z h160 b106 (.array .byte) [(.ref b134)] := A164
    have F166 := F145.wr W163
    have F167 := F146.other W163 (Or.inl ne113)
    have F168 := F147.other W163 ne114
    have F169 := F148.other W163 ne115
    have F170 := F149.wr W163
    have F171 := A165
    have F172 := F151.wr W163
    have F173 := A139.other W163 (Ne.symm ne142)
    have F174 := E140.wr W163
    have N175 := Fr.snoc X161 N0 sz121
    have szh176 : n0 ≤ h160.size := Nat.le_trans szh153 (Nat.le_of_eq W163.size.symm)
    have K177 := K155.wr W163 (Or.inr szk123)
    show Go p_ e_ below _ T159 (mkF m_ 35 #[.val (.ref a), .val (.ref b106), .val (.int (0 : Int32))] [])
    refine g_iinc X161 hx (1 : Int32) rfl rfl #[.val (.ref a), .val (.ref b106), .val (.int (1 : Int32))] rfl (hb hby d8_35) 38 rfl ?_
    refine g_goto X161 hx (hb hby d8_38) 11 (by decide) rfl ?_
    refine g_iloadN X161 hx rfl (hb hby d8_11) 12 rfl ?_
    refine g_aloadN X161 hx rfl rfl (hb hby d8_12) 13 rfl ?_
    refine g_getfield X161 hx hZ hown (host := "") (Or.inl (wd hw 51 rfl)) Via.refl F167 e162 (hb hby d8_13) 16 rfl (fun T178 X179 e180 => ?_)
    show Go p_ e_ below _ T178 (mkF m_ 16 #[.val (.ref a), .val (.ref b106), .val (.int (1 : Int32))] [(.ref d), (.int (1 : Int32))])
    refine g_arraylength X179 hx hZ e180 F168 (1 : Int32) rfl (hb hby d8_16) 17 rfl ?_
    refine g_icmp_ge X179 hx (hb hby d8_17) 41 20 (by decide) rfl rfl (fun q181 => ?_) (fun q181 => ?_)
    · refine g_aloadN X179 hx rfl rfl (hb hby d8_41) 42 rfl ?_
      exact g_reta X179 hx rfl rfl hret hlk (by decide) (by decide) (hb hby d8_42) (by rw [e180]; exact ⟨b106, b134, rfl, N175, K177, szk123, A165, szk154, F173, F174, ne142⟩)
    · exact absurd q181 (by decide)
def Q8_2 (Z : State) (a : Addr) (d : Addr) (e0 : Addr) (ks0 : List Int32) (e1 : Addr) (ks1 : List Int32) (h0 : Heap) (n0 : Nat) (v : Option Value) (h : Heap) (L : List Loc) : Prop := ∃ b f0 f1, v = some (.ref b) ∧ Fr n0 L ∧ Keep h0 h [] ∧ h0.size ≤ b ∧ AV Z h b (.array .byte) [(.ref f0), (.ref f1)] ∧ h0.size ≤ f0 ∧ AV Z h f0 .byte (enc ks0) ∧ Exa Z h f0 "[B" ∧ b ≠ f0 ∧ h0.size ≤ f1 ∧ AV Z h f1 .byte (enc ks1) ∧ Exa Z h f1 "[B" ∧ b ≠ f1 ∧ f0 ≠ f1
theorem ef8_2 (m_ : MethodId) (a : Addr)  : entryFrame m_ #[(.ref a)] 3 = mkF m_ 0 #[.val (.ref a), .unset, .unset] [] := by first | (simp [entryFrame, mkF, argsToLocals, Value.category]; done) | rfl
set_option maxRecDepth 65536 in
set_option maxHeartbeats 40000000 in
theorem co8_2 (l : Launch) (Z : State) (a0 : Array Value) (hw : ∀ d ∈ tables_1, d.before a0 Z = true) (a : Addr) (d : Addr) (e0 : Addr) (ks0 : List Int32) (e1 : Addr) (ks1 : List Int32) (h0 : Heap) (n0 : Nat) (Z0 : n0 ≤ h0.size)   (F_w : Fld Z h0 a "com/example/bindwick/bindwick/Attribute" "values" "[[B" (.ref d)) (E_a : Exa Z h0 a "com/example/bindwick/bindwick/Attribute") (A_d : AV Z h0 d (.array .byte) [(.ref e0), (.ref e1)]) (A_0 : AV Z h0 e0 .byte (enc ks0)) (E_0 : Exa Z h0 e0 "[B") (ho0 : Oks ks0) (A_1 : AV Z h0 e1 .byte (enc ks1)) (E_1 : Exa Z h0 e1 "[B") (ho1 : Oks ks1) : Co l (⟨"com/example/bindwick/bindwick/Attribute", "getValueByteArrays", "()[[B"⟩ : MethodName) prog_25_method_10_code 3 (some (.array (.array .byte))) [] ({ frames := 1, cells := 3, slots := 10, locals := 16 } : Room) Z h0 #[(.ref a)] (Q8_2 Z a d e0 ks0 e1 ks1 h0 n0) := by
  refine Co.of (plainFor_of_name pn_4) ?_
  intro p_ e_ s_ m_ below meth c_ T0 X0 hx hby hml hown hnm hret hlk hZ eq0
  have N0 := Fr.nil n0
  refine Go.cast (ef8_2 m_ a ) ?_
  refine g_aloadN X0 hx rfl rfl (hb hby d8_0) 1 rfl ?_
  refine g_getfield X0 hx hZ hown (host := "") (Or.inl (wd hw 51 rfl)) Via.refl F_w eq0 (hb hby d8_1) 4 rfl (fun T101 X102 e103 => ?_)
  show Go p_ e_ below _ T101 (mkF m_ 4 #[.val (.ref a), .unset, .unset] [(.ref d)])
  refine g_arraylength X102 hx hZ e103 A_d (2 : Int32) rfl (hb hby d8_4) 5 rfl ?_
  refine g_anewarrayA X102 hx hZ hown (ty := .byte) own_bn2 (wd hw 49 rfl) (wd hw 50 rfl) e103 (by decide) 2 (by decide) (by decide) (by decide) (by decide) [.null, .null] rfl (hb hby d8_5) 8 rfl (fun T104 h105 b106 X107 e108 g109 E110 A111 O112 => ?_)
  have ne113 : a ≠ b106 := Nat.ne_of_lt (Nat.lt_of_lt_of_eq E_a.lt g109.symm)
  have ne114 : d ≠ b106 := Nat.ne_of_lt (Nat.lt_of_lt_of_eq A_d.lt g109.symm)
  have ne115 : e0 ≠ b106 := Nat.ne_of_lt (Nat.lt_of_lt_of_eq A_0.lt g109.symm)
  have ne116 : e1 ≠ b106 := Nat.ne_of_lt (Nat.lt_of_lt_of_eq A_1.lt g109.symm)
  have F117 := E_a.ext E110
  have F118 := F_w.ext E110
  have F119 := A_d.ext E110
  have F120 := A_0.ext E110
  have F121 := E_0.ext E110
  have F122 := A_1.ext E110
  have F123 := E_1.ext E110
  have sz124 : n0 ≤ b106 := Nat.le_trans Z0 (Nat.le_of_eq g109.symm)
  have szh125 : n0 ≤ h105.size := Nat.le_trans Z0 E110.1
  have szk126 : h0.size ≤ b106 := Nat.le_trans (Keep.refl h0 []).1 (Nat.le_of_eq g109.symm)
  have K127 := (Keep.refl h0 []).ext E110
  show Go p_ e_ below _ T104 (mkF m_ 8 #[.val (.ref a), .unset, .unset] [(.ref b106)])
  refine g_astoreN X107 hx #[.val (.ref a), .val (.ref b106), .unset] rfl rfl (hb hby d8_8) 9 rfl ?_
  refine g_iconst X107 hx (0 : Int32) rfl (hb hby d8_9) 10 rfl ?_
  refine g_istoreN X107 hx #[.val (.ref a), .val (.ref b106), .val (.int (0 : Int32))] rfl (hb hby d8_10) 11 rfl ?_
  refine g_iloadN X107 hx rfl (hb hby d8_11) 12 rfl ?_
  refine g_aloadN X107 hx rfl rfl (hb hby d8_12) 13 rfl ?_
  refine g_getfield X107 hx hZ hown (host := "") (Or.inl (wd hw 51 rfl)) Via.refl F118 e108 (hb hby d8_13) 16 rfl (fun T128 X129 e130 => ?_)
  show Go p_ e_ below _ T128 (mkF m_ 16 #[.val (.ref a), .val (.ref b106), .val (.int (0 : Int32))] [(.ref d), (.int (0 : Int32))])
  refine g_arraylength X129 hx hZ e130 F119 (2 : Int32) rfl (hb hby d8_16) 17 rfl ?_
  refine g_icmp_ge X129 hx (hb hby d8_17) 41 20 (by decide) rfl rfl (fun q131 => ?_) (fun q131 => ?_)
  · exact absurd q131 (by decide)
  · refine g_aloadN X129 hx rfl rfl (hb hby d8_20) 21 rfl ?_
    refine g_iloadN X129 hx rfl (hb hby d8_21) 22 rfl ?_
    refine g_aloadN X129 hx rfl rfl (hb hby d8_22) 23 rfl ?_
    refine g_getfield X129 hx hZ hown (host := "") (Or.inl (wd hw 51 rfl)) Via.refl F118 e130 (hb hby d8_23) 26 rfl (fun T132 X133 e134 => ?_)
    show Go p_ e_ below _ T132 (mkF m_ 26 #[.val (.ref a), .val (.ref b106), .val (.int (0 : Int32))] [(.ref d), (.int (0 : Int32)), (.ref b106)])
    refine g_iloadN X133 hx rfl (hb hby d8_26) 27 rfl ?_
    refine g_aaload X133 hx hZ e134 F119 rfl (by decide) rfl (hb hby d8_27) 28 rfl ?_
    show Go p_ e_ below _ T132 (mkF m_ 28 #[.val (.ref a), .val (.ref b106), .val (.int (0 : Int32))] [(.ref e0), (.int (0 : Int32)), (.ref b106)])
    refine g_clone X133 hx hZ hown (wd hw 113 rfl) (wd hw 105 rfl) (wd hw 109 rfl) (wd hw 107 rfl) (wd hw 108 rfl) (wd hw 110 rfl) e134 F120 (enc_fits ks0) F121 (by rw [hml]; rfl) 2 (Nat.le_of_eq rfl) (by decide) (by decide) 4 (enc_len ho0) (by decide) (by decide) (hb hby d8_28) 31 rfl (fun T135 h136 b137 X138 e139 g140 E141 A142 E143 => ?_)
    have ne144 : a ≠ b137 := Nat.ne_of_lt (Nat.lt_of_lt_of_eq F117.lt g140.symm)
    have ne145 : b106 ≠ b137 := Nat.ne_of_lt (Nat.lt_of_lt_of_eq A111.lt g140.symm)
    have ne146 : d ≠ b137 := Nat.ne_of_lt (Nat.lt_of_lt_of_eq F119.lt g140.symm)
    have ne147 : e0 ≠ b137 := Nat.ne_of_lt (Nat.lt_of_lt_of_eq F120.lt g140.symm)
    have ne148 : e1 ≠ b137 := Nat.ne_of_lt (Nat.lt_of_lt_of_eq F122.lt g140.symm)
    have F149 := F117.ext E141
    have F150 := F118.ext E141
    have F151 := F119.ext E141
    have F152 := F120.ext E141
    have F153 := F121.ext E141
    have F154 := F122.ext E141
    have F155 := F123.ext E141
    have F156 := A111.ext E141
    have F157 := O112.ext E141
    have sz158 : n0 ≤ b137 := Nat.le_trans szh125 (Nat.le_of_eq g140.symm)
    have szh159 : n0 ≤ h136.size := Nat.le_trans szh125 E141.1
    have szk160 : h0.size ≤ b137 := Nat.le_trans K127.1 (Nat.le_of_eq g140.symm)
    have K161 := K127.ext E141
    show Go p_ e_ below _ T135 (mkF m_ 31 #[.val (.ref a), .val (.ref b106), .val (.int (0 : Int32))] [(.ref b137), (.int (0 : Int32)), (.ref b106)])
    refine g_checkcast X138 hx hZ hown (wd hw 49 rfl) (Ins.self E143) e139 (hb hby d8_31) 34 rfl (fun T162 X163 e164 => ?_)
    show Go p_ e_ below _ T162 (mkF m_ 34 #[.val (.ref a), .val (.ref b106), .val (.int (0 : Int32))] [(.ref b137), (.int (0 : Int32)), (.ref b106)])
    refine g_aastore X163 hx hZ e164 F156 rfl (F157.sto F156 (Ins.self E143)) (by decide) (Nat.le_of_ble_eq_true rfl) (hb hby d8_34) 35 rfl (fun T165 h166 X167 e168 W169 A170 => ?_)
    have A171 : AV Z h166 b106 (.array .byte) [(.ref b137), .null] := A170
    have F172 := F149.wr W169
    have F173 := F150.other W169 (Or.inl ne113)
    have F174 := F151.other W169 ne114
    have F175 := F152.other W169 ne115
    have F176 := F153.wr W169
    have F177 := F154.other W169 ne116
    have F178 := F155.wr W169
    have F179 := A171
    have F180 := F157.wr W169
    have F181 := A142.other W169 (Ne.symm ne145)
    have F182 := E143.wr W169
    have N183 := Fr.snoc X167 N0 sz124
    have szh184 : n0 ≤ h166.size := Nat.le_trans szh159 (Nat.le_of_eq W169.size.symm)
    have K185 := K161.wr W169 (Or.inr szk126)
    show Go p_ e_ below _ T165 (mkF m_ 35 #[.val (.ref a), .val (.ref b106), .val (.int (0 : Int32))] [])
    refine g_iinc X167 hx (1 : Int32) rfl rfl #[.val (.ref a), .val (.ref b106), .val (.int (1 : Int32))] rfl (hb hby d8_35) 38 rfl ?_
    refine g_goto X167 hx (hb hby d8_38) 11 (by decide) rfl ?_
    refine g_iloadN X167 hx rfl (hb hby d8_11) 12 rfl ?_
    refine g_aloadN X167 hx rfl rfl (hb hby d8_12) 13 rfl ?_
    refine g_getfield X167 hx hZ hown (host := "") (Or.inl (wd hw 51 rfl)) Via.refl F173 e168 (hb hby d8_13) 16 rfl (fun T186 X187 e188 => ?_)
    show Go p_ e_ below _ T186 (mkF m_ 16 #[.val (.ref a), .val (.ref b106), .val (.int (1 : Int32))] [(.ref d), (.int (1 : Int32))])
    refine g_arraylength X187 hx hZ e188 F174 (2 : Int32) rfl (hb hby d8_16) 17 rfl ?_
    refine g_icmp_ge X187 hx (hb hby d8_17) 41 20 (by decide) rfl rfl (fun q189 => ?_) (fun q189 => ?_)
    · exact absurd q189 (by decide)
    · refine g_aloadN X187 hx rfl rfl (hb hby d8_20) 21 rfl ?_
      refine g_iloadN X187 hx rfl (hb hby d8_21) 22 rfl ?_
      refine g_aloadN X187 hx rfl rfl (hb hby d8_22) 23 rfl ?_
      refine g_getfield X187 hx hZ hown (host := "") (Or.inl (wd hw 51 rfl)) Via.refl F173 e188 (hb hby d8_23) 26 rfl (fun T190 X191 e192 => ?_)
      show Go p_ e_ below _ T190 (mkF m_ 26 #[.val (.ref a), .val (.ref b106), .val (.int (1 : Int32))] [(.ref d), (.int (1 : Int32)), (.ref b106)])
      refine g_iloadN X191 hx rfl (hb hby d8_26) 27 rfl ?_
      refine g_aaload X191 hx hZ e192 F174 rfl (by decide) rfl (hb hby d8_27) 28 rfl ?_
      show Go p_ e_ below _ T190 (mkF m_ 28 #[.val (.ref a), .val (.ref b106), .val (.int (1 : Int32))] [(.ref e1), (.int (1 : Int32)), (.ref b106)])
      refine g_clone X191 hx hZ hown (wd hw 113 rfl) (wd hw 105 rfl) (wd hw 109 rfl) (wd hw 107 rfl) (wd hw 108 rfl) (wd hw 110 rfl) e192 F177 (enc_fits ks1) F178 (by rw [hml]; rfl) 2 (Nat.le_of_eq rfl) (by decide) (by decide) 4 (enc_len ho1) (by decide) (by decide) (hb hby d8_28) 31 rfl (fun T193 h194 b195 X196 e197 g198 E199 A200 E201 => ?_)
      have ne202 : a ≠ b195 := Nat.ne_of_lt (Nat.lt_of_lt_of_eq F172.lt g198.symm)
      have ne203 : b106 ≠ b195 := Nat.ne_of_lt (Nat.lt_of_lt_of_eq A171.lt g198.symm)
      have ne204 : b137 ≠ b195 := Nat.ne_of_lt (Nat.lt_of_lt_of_eq F181.lt g198.symm)
      have ne205 : d ≠ b195 := Nat.ne_of_lt (Nat.lt_of_lt_of_eq F174.lt g198.symm)
      have ne206 : e0 ≠ b195 := Nat.ne_of_lt (Nat.lt_of_lt_of_eq F175.lt g198.symm)
      have ne207 : e1 ≠ b195 := Nat.ne_of_lt (Nat.lt_of_lt_of_eq F177.lt g198.symm)
      have F208 := F172.ext E199
      have F209 := F173.ext E199
      have F210 := F174.ext E199
      have F211 := F175.ext E199
      have F212 := F176.ext E199
      have F213 := F177.ext E199
      have F214 := F178.ext E199
      have F215 := A171.ext E199
      have F216 := F180.ext E199
      have F217 := F181.ext E199
      have F218 := F182.ext E199
      have sz219 : n0 ≤ b195 := Nat.le_trans szh184 (Nat.le_of_eq g198.symm)
      have szh220 : n0 ≤ h194.size := Nat.le_trans szh184 E199.1
      have szk221 : h0.size ≤ b195 := Nat.le_trans K185.1 (Nat.le_of_eq g198.symm)
      have K222 := K185.ext E199
      show Go p_ e_ below _ T193 (mkF m_ 31 #[.val (.ref a), .val (.ref b106), .val (.int (1 : Int32))] [(.ref b195), (.int (1 : Int32)), (.ref b106)])
      refine g_checkcast X196 hx hZ hown (wd hw 49 rfl) (Ins.self E201) e197 (hb hby d8_31) 34 rfl (fun T223 X224 e225 => ?_)
      show Go p_ e_ below _ T223 (mkF m_ 34 #[.val (.ref a), .val (.ref b106), .val (.int (1 : Int32))] [(.ref b195), (.int (1 : Int32)), (.ref b106)])
      refine g_aastore X224 hx hZ e225 F215 rfl (F216.sto F215 (Ins.self E201)) (by decide) (Nat.le_of_ble_eq_true rfl) (hb hby d8_34) 35 rfl (fun T226 h227 X228 e229 W230 A231 => ?_)
      have A232 : AV Z h227 b106 (.array .byte) [(.ref b137), (.ref b195)] := A231
      have F233 := F208.wr W230
      have F234 := F209.other W230 (Or.inl ne113)
      have F235 := F210.other W230 ne114
      have F236 := F211.other W230 ne115
      have F237 := F212.wr W230
      have F238 := F213.other W230 ne116
      have F239 := F214.wr W230
      have F240 := A232
      have F241 := F216.wr W230
      have F242 := F217.other W230 (Ne.symm ne145)
      have F243 := F218.wr W230
      have F244 := A200.other W230 (Ne.symm ne203)
      have F245 := E201.wr W230
      have N246 := Fr.snoc X228 N183 sz124
      have szh247 : n0 ≤ h227.size := Nat.le_trans szh220 (Nat.le_of_eq W230.size.symm)
      have K248 := K222.wr W230 (Or.inr szk126)
      show Go p_ e_ below _ T226 (mkF m_ 35 #[.val (.ref a), .val (.ref b106), .val (.int (1 : Int32))] [])
      refine g_iinc X228 hx (1 : Int32) rfl rfl #[.val (.ref a), .val (.ref b106), .val (.int (2 : Int32))] rfl (hb hby d8_35) 38 rfl ?_
      refine g_goto X228 hx (hb hby d8_38) 11 (by decide) rfl ?_
      refine g_iloadN X228 hx rfl (hb hby d8_11) 12 rfl ?_
      refine g_aloadN X228 hx rfl rfl (hb hby d8_12) 13 rfl ?_
      refine g_getfield X228 hx hZ hown (host := "") (Or.inl (wd hw 51 rfl)) Via.refl F234 e229 (hb hby d8_13) 16 rfl (fun T249 X250 e251 => ?_)
      show Go p_ e_ below _ T249 (mkF m_ 16 #[.val (.ref a), .val (.ref b106), .val (.int (2 : Int32))] [(.ref d), (.int (2 : Int32))])
      refine g_arraylength X250 hx hZ e251 F235 (2 : Int32) rfl (hb hby d8_16) 17 rfl ?_
      refine g_icmp_ge X250 hx (hb hby d8_17) 41 20 (by decide) rfl rfl (fun q252 => ?_) (fun q252 => ?_)
      · refine g_aloadN X250 hx rfl rfl (hb hby d8_41) 42 rfl ?_
        exact g_reta X250 hx rfl rfl hret hlk (by decide) (by decide) (hb hby d8_42) (by rw [e251]; exact ⟨b106, b137, b195, rfl, N246, K248, szk126, A232, szk160, F242, F243, ne145, szk221, F244, F245, ne203, ne204⟩)
      · exact absurd q252 (by decide)
def Q22_0p (Z : State) (e : Addr) (c : Int32) (v0 : Value) (v1 : Value) (v2 : Value) (v3 : Value) (h0 : Heap) (n0 : Nat) (v : Option Value) (h : Heap) (L : List Loc) : Prop := v = some (.int (1 : Int32)) ∧ Fr n0 L ∧ Keep h0 h [e] ∧ AV Z h e .byte [(.int (byt c)), v1, v2, v3]
theorem ef22_0p (m_ : MethodId) (e : Addr) (c : Int32)  : entryFrame m_ #[(.ref e), (.int (0 : Int32)), (.int c)] 3 = mkF m_ 0 #[.val (.ref e), .val (.int (0 : Int32)), .val (.int c)] [] := by first | (simp [entryFrame, mkF, argsToLocals, Value.category]; done) | rfl
theorem pn_6 : plainName "com/example/bindwick/bindwick/AttributeGetValueByteArraysPinLaw" = true := by first | (simp [plainName, overriddenIn]; done) | decide +kernel
theorem d22_0 : decode method_6_code 0 = .ok (.iload_n 2, 1) := by decide +kernel
theorem d22_1 : decode method_6_code 1 = .ok (.sipush 128, 3) := by decide +kernel
theorem d22_4 : decode method_6_code 4 = .ok (.if_icmp .ge 12, 3) := by decide +kernel
theorem d22_7 : decode method_6_code 7 = .ok (.aload_n 0, 1) := by decide +kernel
theorem d22_8 : decode method_6_code 8 = .ok (.iload_n 1, 1) := by decide +kernel
theorem d22_9 : decode method_6_code 9 = .ok (.iload_n 2, 1) := by decide +kernel
theorem d22_10 : decode method_6_code 10 = .ok (.i2b, 1) := by decide +kernel
theorem d22_11 : decode method_6_code 11 = .ok (.bastore, 1) := by decide +kernel
theorem d22_12 : decode method_6_code 12 = .ok (.iload_n 1, 1) := by decide +kernel
theorem d22_13 : decode method_6_code 13 = .ok (.iconst 1, 1) := by decide +kernel
theorem d22_14 : decode method_6_code 14 = .ok (.iadd, 1) := by decide +kernel
theorem d22_15 : decode method_6_code 15 = .ok (.ireturn, 1) := by decide +kernel
set_option maxRecDepth 65536 in
set_option maxHeartbeats 40000000 in
theorem co22_0p (l : Launch) (Z : State) (a0 : Array Value) (hw : ∀ d ∈ tables_1, d.before a0 Z = true) (e : Addr) (c : Int32) (v0 : Value) (v1 : Value) (v2 : Value) (v3 : Value) (h0 : Heap) (n0 : Nat) (Z0 : n0 ≤ h0.size)  (g_e : n0 ≤ e) (A_e : AV Z h0 e .byte [v0, v1, v2, v3]) (hc : Ch c) (s : c < (128 : Int32)) : Co l (⟨"com/example/bindwick/bindwick/AttributeGetValueByteArraysPinLaw", "put", "([BIC)I"⟩ : MethodName) method_6_code 3 (some .int) [] ({ frames := 0, cells := 0, slots := 0, locals := 0 } : Room) Z h0 #[(.ref e), (.int (0 : Int32)), (.int c)] (Q22_0p Z e c v0 v1 v2 v3 h0 n0) := by
  refine Co.of (plainFor_of_name pn_6) ?_
  intro p_ e_ s_ m_ below meth c_ T0 X0 hx hby hml hown hnm hret hlk hZ eq0
  have N0 := Fr.nil n0
  refine Go.cast (ef22_0p m_ e c ) ?_
  refine g_iloadN X0 hx rfl (hb hby d22_0) 1 rfl ?_
  refine g_sipush X0 hx (128 : Int32) rfl (hb hby d22_1) 4 rfl ?_
  refine g_icmp_ge X0 hx (hb hby d22_4) 16 7 (by decide) rfl rfl (fun q101 => ?_) (fun q101 => ?_)
  · exact absurd s q101
  · refine g_aloadN X0 hx rfl rfl (hb hby d22_7) 8 rfl ?_
    refine g_iloadN X0 hx rfl (hb hby d22_8) 9 rfl ?_
    refine g_iloadN X0 hx rfl (hb hby d22_9) 10 rfl ?_
    refine g_i2b X0 hx (hb hby d22_10) 11 rfl ?_
    refine g_bastore X0 hx hZ eq0 A_e (by decide) (Nat.le_of_ble_eq_true rfl) (hb hby d22_11) 12 rfl (fun T102 h103 X104 e105 W106 A107 => ?_)
    have A108 : AV Z h103 e .byte [(.int c.toInt8.toInt32.toInt8.toInt32), v1, v2, v3] := A107
    have F109 := A108
    have N110 := Fr.snoc X104 N0 g_e
    have szh111 : n0 ≤ h103.size := Nat.le_trans Z0 (Nat.le_of_eq W106.size.symm)
    have K112 := (Keep.refl h0 [e]).wr W106 (Or.inl (List.mem_of_getElem? (i := 0) rfl))
    show Go p_ e_ below _ T102 (mkF m_ 12 #[.val (.ref e), .val (.int (0 : Int32)), .val (.int c)] [])
    refine g_iloadN X104 hx rfl (hb hby d22_12) 13 rfl ?_
    refine g_iconst X104 hx (1 : Int32) rfl (hb hby d22_13) 14 rfl ?_
    refine g_iadd X104 hx (hb hby d22_14) 15 rfl ?_
    show Go p_ e_ below _ T102 (mkF m_ 15 #[.val (.ref e), .val (.int (0 : Int32)), .val (.int c)] [(.int (1 : Int32))])
    exact g_reti X104 hx hret hlk (by decide) (by decide) (hb hby d22_15) (by rw [e105]; exact ⟨rfl, N110, K112, AV.cast A108 (by rw [k_p2 hc])⟩)
def Q22_0m (Z : State) (e : Addr) (c : Int32) (v0 : Value) (v1 : Value) (v2 : Value) (v3 : Value) (h0 : Heap) (n0 : Nat) (v : Option Value) (h : Heap) (L : List Loc) : Prop := v = some (.int (2 : Int32)) ∧ Fr n0 L ∧ Keep h0 h [e] ∧ AV Z h e .byte [(.int (hi0 c)), (.int (hi1 c)), v2, v3]
theorem ef22_0m (m_ : MethodId) (e : Addr) (c : Int32)  : entryFrame m_ #[(.ref e), (.int (0 : Int32)), (.int c)] 3 = mkF m_ 0 #[.val (.ref e), .val (.int (0 : Int32)), .val (.int c)] [] := by first | (simp [entryFrame, mkF, argsToLocals, Value.category]; done) | rfl
theorem d22_16 : decode method_6_code 16 = .ok (.aload_n 0, 1) := by decide +kernel
theorem d22_17 : decode method_6_code 17 = .ok (.iload_n 1, 1) := by decide +kernel
theorem d22_18 : decode method_6_code 18 = .ok (.sipush 192, 3) := by decide +kernel
theorem d22_21 : decode method_6_code 21 = .ok (.iload_n 2, 1) := by decide +kernel
theorem d22_22 : decode method_6_code 22 = .ok (.bipush 6, 2) := by decide +kernel
theorem d22_24 : decode method_6_code 24 = .ok (.ishr, 1) := by decide +kernel
theorem d22_25 : decode method_6_code 25 = .ok (.ior, 1) := by decide +kernel
theorem d22_26 : decode method_6_code 26 = .ok (.i2b, 1) := by decide +kernel
theorem d22_27 : decode method_6_code 27 = .ok (.bastore, 1) := by decide +kernel
theorem d22_28 : decode method_6_code 28 = .ok (.aload_n 0, 1) := by decide +kernel
theorem d22_29 : decode method_6_code 29 = .ok (.iload_n 1, 1) := by decide +kernel
theorem d22_30 : decode method_6_code 30 = .ok (.iconst 1, 1) := by decide +kernel
theorem d22_31 : decode method_6_code 31 = .ok (.iadd, 1) := by decide +kernel
theorem d22_32 : decode method_6_code 32 = .ok (.sipush 128, 3) := by decide +kernel
theorem d22_35 : decode method_6_code 35 = .ok (.iload_n 2, 1) := by decide +kernel
theorem d22_36 : decode method_6_code 36 = .ok (.bipush 63, 2) := by decide +kernel
theorem d22_38 : decode method_6_code 38 = .ok (.iand, 1) := by decide +kernel
theorem d22_39 : decode method_6_code 39 = .ok (.ior, 1) := by decide +kernel
theorem d22_40 : decode method_6_code 40 = .ok (.i2b, 1) := by decide +kernel
theorem d22_41 : decode method_6_code 41 = .ok (.bastore, 1) := by decide +kernel
theorem d22_42 : decode method_6_code 42 = .ok (.iload_n 1, 1) := by decide +kernel
theorem d22_43 : decode method_6_code 43 = .ok (.iconst 2, 1) := by decide +kernel
theorem d22_44 : decode method_6_code 44 = .ok (.iadd, 1) := by decide +kernel
theorem d22_45 : decode method_6_code 45 = .ok (.ireturn, 1) := by decide +kernel
set_option maxRecDepth 65536 in
set_option maxHeartbeats 40000000 in
theorem co22_0m (l : Launch) (Z : State) (a0 : Array Value) (hw : ∀ d ∈ tables_1, d.before a0 Z = true) (e : Addr) (c : Int32) (v0 : Value) (v1 : Value) (v2 : Value) (v3 : Value) (h0 : Heap) (n0 : Nat) (Z0 : n0 ≤ h0.size)  (g_e : n0 ≤ e) (A_e : AV Z h0 e .byte [v0, v1, v2, v3]) (hc : Ch c) (s : ¬ c < (128 : Int32)) : Co l (⟨"com/example/bindwick/bindwick/AttributeGetValueByteArraysPinLaw", "put", "([BIC)I"⟩ : MethodName) method_6_code 3 (some .int) [] ({ frames := 0, cells := 0, slots := 0, locals := 0 } : Room) Z h0 #[(.ref e), (.int (0 : Int32)), (.int c)] (Q22_0m Z e c v0 v1 v2 v3 h0 n0) := by
  refine Co.of (plainFor_of_name pn_6) ?_
  intro p_ e_ s_ m_ below meth c_ T0 X0 hx hby hml hown hnm hret hlk hZ eq0
  have N0 := Fr.nil n0
  refine Go.cast (ef22_0m m_ e c ) ?_
  refine g_iloadN X0 hx rfl (hb hby d22_0) 1 rfl ?_
  refine g_sipush X0 hx (128 : Int32) rfl (hb hby d22_1) 4 rfl ?_
  refine g_icmp_ge X0 hx (hb hby d22_4) 16 7 (by decide) rfl rfl (fun q101 => ?_) (fun q101 => ?_)
  · refine g_aloadN X0 hx rfl rfl (hb hby d22_16) 17 rfl ?_
    refine g_iloadN X0 hx rfl (hb hby d22_17) 18 rfl ?_
    refine g_sipush X0 hx (192 : Int32) rfl (hb hby d22_18) 21 rfl ?_
    refine g_iloadN X0 hx rfl (hb hby d22_21) 22 rfl ?_
    refine g_bipush X0 hx (6 : Int32) rfl (hb hby d22_22) 24 rfl ?_
    refine g_ishr X0 hx (hb hby d22_24) 25 rfl ?_
    refine g_ior X0 hx (hb hby d22_25) 26 rfl ?_
    refine g_i2b X0 hx (hb hby d22_26) 27 rfl ?_
    refine g_bastore X0 hx hZ eq0 A_e (by decide) (Nat.le_of_ble_eq_true rfl) (hb hby d22_27) 28 rfl (fun T102 h103 X104 e105 W106 A107 => ?_)
    have A108 : AV Z h103 e .byte [(.int ((192 : Int32) ||| (c >>> ((6 : Int32) &&& 31))).toInt8.toInt32.toInt8.toInt32), v1, v2, v3] := A107
    have F109 := A108
    have N110 := Fr.snoc X104 N0 g_e
    have szh111 : n0 ≤ h103.size := Nat.le_trans Z0 (Nat.le_of_eq W106.size.symm)
    have K112 := (Keep.refl h0 [e]).wr W106 (Or.inl (List.mem_of_getElem? (i := 0) rfl))
    show Go p_ e_ below _ T102 (mkF m_ 28 #[.val (.ref e), .val (.int (0 : Int32)), .val (.int c)] [])
    refine g_aloadN X104 hx rfl rfl (hb hby d22_28) 29 rfl ?_
    refine g_iloadN X104 hx rfl (hb hby d22_29) 30 rfl ?_
    refine g_iconst X104 hx (1 : Int32) rfl (hb hby d22_30) 31 rfl ?_
    refine g_iadd X104 hx (hb hby d22_31) 32 rfl ?_
    show Go p_ e_ below _ T102 (mkF m_ 32 #[.val (.ref e), .val (.int (0 : Int32)), .val (.int c)] [(.int (1 : Int32)), (.ref e)])
    refine g_sipush X104 hx (128 : Int32) rfl (hb hby d22_32) 35 rfl ?_
    refine g_iloadN X104 hx rfl (hb hby d22_35) 36 rfl ?_
    refine g_bipush X104 hx (63 : Int32) rfl (hb hby d22_36) 38 rfl ?_
    refine g_iand X104 hx (hb hby d22_38) 39 rfl ?_
    refine g_ior X104 hx (hb hby d22_39) 40 rfl ?_
    refine g_i2b X104 hx (hb hby d22_40) 41 rfl ?_
    refine g_bastore X104 hx hZ e105 A108 (by decide) (Nat.le_of_ble_eq_true rfl) (hb hby d22_41) 42 rfl (fun T113 h114 X115 e116 W117 A118 => ?_)
    have A119 : AV Z h114 e .byte [(.int ((192 : Int32) ||| (c >>> ((6 : Int32) &&& 31))).toInt8.toInt32.toInt8.toInt32), (.int ((128 : Int32) ||| (c &&& (63 : Int32))).toInt8.toInt32.toInt8.toInt32), v2, v3] := A118
    have F120 := A119
    have N121 := Fr.snoc X115 N110 g_e
    have szh122 : n0 ≤ h114.size := Nat.le_trans szh111 (Nat.le_of_eq W117.size.symm)
    have K123 := K112.wr W117 (Or.inl (List.mem_of_getElem? (i := 0) rfl))
    show Go p_ e_ below _ T113 (mkF m_ 42 #[.val (.ref e), .val (.int (0 : Int32)), .val (.int c)] [])
    refine g_iloadN X115 hx rfl (hb hby d22_42) 43 rfl ?_
    refine g_iconst X115 hx (2 : Int32) rfl (hb hby d22_43) 44 rfl ?_
    refine g_iadd X115 hx (hb hby d22_44) 45 rfl ?_
    show Go p_ e_ below _ T113 (mkF m_ 45 #[.val (.ref e), .val (.int (0 : Int32)), .val (.int c)] [(.int (2 : Int32))])
    exact g_reti X115 hx hret hlk (by decide) (by decide) (hb hby d22_45) (by rw [e116]; exact ⟨rfl, N121, K123, AV.cast A119 (by rw [k_p0 hc, k_p1 hc])⟩)
  · exact absurd q101 s
def Q22_1p (Z : State) (e : Addr) (c : Int32) (v0 : Value) (v1 : Value) (v2 : Value) (v3 : Value) (h0 : Heap) (n0 : Nat) (v : Option Value) (h : Heap) (L : List Loc) : Prop := v = some (.int (2 : Int32)) ∧ Fr n0 L ∧ Keep h0 h [e] ∧ AV Z h e .byte [v0, (.int (byt c)), v2, v3]
theorem ef22_1p (m_ : MethodId) (e : Addr) (c : Int32)  : entryFrame m_ #[(.ref e), (.int (1 : Int32)), (.int c)] 3 = mkF m_ 0 #[.val (.ref e), .val (.int (1 : Int32)), .val (.int c)] [] := by first | (simp [entryFrame, mkF, argsToLocals, Value.category]; done) | rfl
set_option maxRecDepth 65536 in
set_option maxHeartbeats 40000000 in
theorem co22_1p (l : Launch) (Z : State) (a0 : Array Value) (hw : ∀ d ∈ tables_1, d.before a0 Z = true) (e : Addr) (c : Int32) (v0 : Value) (v1 : Value) (v2 : Value) (v3 : Value) (h0 : Heap) (n0 : Nat) (Z0 : n0 ≤ h0.size)  (g_e : n0 ≤ e) (A_e : AV Z h0 e .byte [v0, v1, v2, v3]) (hc : Ch c) (s : c < (128 : Int32)) : Co l (⟨"com/example/bindwick/bindwick/AttributeGetValueByteArraysPinLaw", "put", "([BIC)I"⟩ : MethodName) method_6_code 3 (some .int) [] ({ frames := 0, cells := 0, slots := 0, locals := 0 } : Room) Z h0 #[(.ref e), (.int (1 : Int32)), (.int c)] (Q22_1p Z e c v0 v1 v2 v3 h0 n0) := by
  refine Co.of (plainFor_of_name pn_6) ?_
  intro p_ e_ s_ m_ below meth c_ T0 X0 hx hby hml hown hnm hret hlk hZ eq0
  have N0 := Fr.nil n0
  refine Go.cast (ef22_1p m_ e c ) ?_
  refine g_iloadN X0 hx rfl (hb hby d22_0) 1 rfl ?_
  refine g_sipush X0 hx (128 : Int32) rfl (hb hby d22_1) 4 rfl ?_
  refine g_icmp_ge X0 hx (hb hby d22_4) 16 7 (by decide) rfl rfl (fun q101 => ?_) (fun q101 => ?_)
  · exact absurd s q101
  · refine g_aloadN X0 hx rfl rfl (hb hby d22_7) 8 rfl ?_
    refine g_iloadN X0 hx rfl (hb hby d22_8) 9 rfl ?_
    refine g_iloadN X0 hx rfl (hb hby d22_9) 10 rfl ?_
    refine g_i2b X0 hx (hb hby d22_10) 11 rfl ?_
    refine g_bastore X0 hx hZ eq0 A_e (by decide) (Nat.le_of_ble_eq_true rfl) (hb hby d22_11) 12 rfl (fun T102 h103 X104 e105 W106 A107 => ?_)
    have A108 : AV Z h103 e .byte [v0, (.int c.toInt8.toInt32.toInt8.toInt32), v2, v3] := A107
    have F109 := A108
    have N110 := Fr.snoc X104 N0 g_e
    have szh111 : n0 ≤ h103.size := Nat.le_trans Z0 (Nat.le_of_eq W106.size.symm)
    have K112 := (Keep.refl h0 [e]).wr W106 (Or.inl (List.mem_of_getElem? (i := 0) rfl))
    show Go p_ e_ below _ T102 (mkF m_ 12 #[.val (.ref e), .val (.int (1 : Int32)), .val (.int c)] [])
    refine g_iloadN X104 hx rfl (hb hby d22_12) 13 rfl ?_
    refine g_iconst X104 hx (1 : Int32) rfl (hb hby d22_13) 14 rfl ?_
    refine g_iadd X104 hx (hb hby d22_14) 15 rfl ?_
    show Go p_ e_ below _ T102 (mkF m_ 15 #[.val (.ref e), .val (.int (1 : Int32)), .val (.int c)] [(.int (2 : Int32))])
    exact g_reti X104 hx hret hlk (by decide) (by decide) (hb hby d22_15) (by rw [e105]; exact ⟨rfl, N110, K112, AV.cast A108 (by rw [k_p2 hc])⟩)
def Q22_1m (Z : State) (e : Addr) (c : Int32) (v0 : Value) (v1 : Value) (v2 : Value) (v3 : Value) (h0 : Heap) (n0 : Nat) (v : Option Value) (h : Heap) (L : List Loc) : Prop := v = some (.int (3 : Int32)) ∧ Fr n0 L ∧ Keep h0 h [e] ∧ AV Z h e .byte [v0, (.int (hi0 c)), (.int (hi1 c)), v3]
theorem ef22_1m (m_ : MethodId) (e : Addr) (c : Int32)  : entryFrame m_ #[(.ref e), (.int (1 : Int32)), (.int c)] 3 = mkF m_ 0 #[.val (.ref e), .val (.int (1 : Int32)), .val (.int c)] [] := by first | (simp [entryFrame, mkF, argsToLocals, Value.category]; done) | rfl
set_option maxRecDepth 65536 in
set_option maxHeartbeats 40000000 in
theorem co22_1m (l : Launch) (Z : State) (a0 : Array Value) (hw : ∀ d ∈ tables_1, d.before a0 Z = true) (e : Addr) (c : Int32) (v0 : Value) (v1 : Value) (v2 : Value) (v3 : Value) (h0 : Heap) (n0 : Nat) (Z0 : n0 ≤ h0.size)  (g_e : n0 ≤ e) (A_e : AV Z h0 e .byte [v0, v1, v2, v3]) (hc : Ch c) (s : ¬ c < (128 : Int32)) : Co l (⟨"com/example/bindwick/bindwick/AttributeGetValueByteArraysPinLaw", "put", "([BIC)I"⟩ : MethodName) method_6_code 3 (some .int) [] ({ frames := 0, cells := 0, slots := 0, locals := 0 } : Room) Z h0 #[(.ref e), (.int (1 : Int32)), (.int c)] (Q22_1m Z e c v0 v1 v2 v3 h0 n0) := by
  refine Co.of (plainFor_of_name pn_6) ?_
  intro p_ e_ s_ m_ below meth c_ T0 X0 hx hby hml hown hnm hret hlk hZ eq0
  have N0 := Fr.nil n0
  refine Go.cast (ef22_1m m_ e c ) ?_
  refine g_iloadN X0 hx rfl (hb hby d22_0) 1 rfl ?_
  refine g_sipush X0 hx (128 : Int32) rfl (hb hby d22_1) 4 rfl ?_
  refine g_icmp_ge X0 hx (hb hby d22_4) 16 7 (by decide) rfl rfl (fun q101 => ?_) (fun q101 => ?_)
  · refine g_aloadN X0 hx rfl rfl (hb hby d22_16) 17 rfl ?_
    refine g_iloadN X0 hx rfl (hb hby d22_17) 18 rfl ?_
    refine g_sipush X0 hx (192 : Int32) rfl (hb hby d22_18) 21 rfl ?_
    refine g_iloadN X0 hx rfl (hb hby d22_21) 22 rfl ?_
    refine g_bipush X0 hx (6 : Int32) rfl (hb hby d22_22) 24 rfl ?_
    refine g_ishr X0 hx (hb hby d22_24) 25 rfl ?_
    refine g_ior X0 hx (hb hby d22_25) 26 rfl ?_
    refine g_i2b X0 hx (hb hby d22_26) 27 rfl ?_
    refine g_bastore X0 hx hZ eq0 A_e (by decide) (Nat.le_of_ble_eq_true rfl) (hb hby d22_27) 28 rfl (fun T102 h103 X104 e105 W106 A107 => ?_)
    have A108 : AV Z h103 e .byte [v0, (.int ((192 : Int32) ||| (c >>> ((6 : Int32) &&& 31))).toInt8.toInt32.toInt8.toInt32), v2, v3] := A107
    have F109 := A108
    have N110 := Fr.snoc X104 N0 g_e
    have szh111 : n0 ≤ h103.size := Nat.le_trans Z0 (Nat.le_of_eq W106.size.symm)
    have K112 := (Keep.refl h0 [e]).wr W106 (Or.inl (List.mem_of_getElem? (i := 0) rfl))
    show Go p_ e_ below _ T102 (mkF m_ 28 #[.val (.ref e), .val (.int (1 : Int32)), .val (.int c)] [])
    refine g_aloadN X104 hx rfl rfl (hb hby d22_28) 29 rfl ?_
    refine g_iloadN X104 hx rfl (hb hby d22_29) 30 rfl ?_
    refine g_iconst X104 hx (1 : Int32) rfl (hb hby d22_30) 31 rfl ?_
    refine g_iadd X104 hx (hb hby d22_31) 32 rfl ?_
    show Go p_ e_ below _ T102 (mkF m_ 32 #[.val (.ref e), .val (.int (1 : Int32)), .val (.int c)] [(.int (2 : Int32)), (.ref e)])
    refine g_sipush X104 hx (128 : Int32) rfl (hb hby d22_32) 35 rfl ?_
    refine g_iloadN X104 hx rfl (hb hby d22_35) 36 rfl ?_
    refine g_bipush X104 hx (63 : Int32) rfl (hb hby d22_36) 38 rfl ?_
    refine g_iand X104 hx (hb hby d22_38) 39 rfl ?_
    refine g_ior X104 hx (hb hby d22_39) 40 rfl ?_
    refine g_i2b X104 hx (hb hby d22_40) 41 rfl ?_
    refine g_bastore X104 hx hZ e105 A108 (by decide) (Nat.le_of_ble_eq_true rfl) (hb hby d22_41) 42 rfl (fun T113 h114 X115 e116 W117 A118 => ?_)
    have A119 : AV Z h114 e .byte [v0, (.int ((192 : Int32) ||| (c >>> ((6 : Int32) &&& 31))).toInt8.toInt32.toInt8.toInt32), (.int ((128 : Int32) ||| (c &&& (63 : Int32))).toInt8.toInt32.toInt8.toInt32), v3] := A118
    have F120 := A119
    have N121 := Fr.snoc X115 N110 g_e
    have szh122 : n0 ≤ h114.size := Nat.le_trans szh111 (Nat.le_of_eq W117.size.symm)
    have K123 := K112.wr W117 (Or.inl (List.mem_of_getElem? (i := 0) rfl))
    show Go p_ e_ below _ T113 (mkF m_ 42 #[.val (.ref e), .val (.int (1 : Int32)), .val (.int c)] [])
    refine g_iloadN X115 hx rfl (hb hby d22_42) 43 rfl ?_
    refine g_iconst X115 hx (2 : Int32) rfl (hb hby d22_43) 44 rfl ?_
    refine g_iadd X115 hx (hb hby d22_44) 45 rfl ?_
    show Go p_ e_ below _ T113 (mkF m_ 45 #[.val (.ref e), .val (.int (1 : Int32)), .val (.int c)] [(.int (3 : Int32))])
    exact g_reti X115 hx hret hlk (by decide) (by decide) (hb hby d22_45) (by rw [e116]; exact ⟨rfl, N121, K123, AV.cast A119 (by rw [k_p0 hc, k_p1 hc])⟩)
  · exact absurd q101 s
def Q22_2p (Z : State) (e : Addr) (c : Int32) (v0 : Value) (v1 : Value) (v2 : Value) (v3 : Value) (h0 : Heap) (n0 : Nat) (v : Option Value) (h : Heap) (L : List Loc) : Prop := v = some (.int (3 : Int32)) ∧ Fr n0 L ∧ Keep h0 h [e] ∧ AV Z h e .byte [v0, v1, (.int (byt c)), v3]
theorem ef22_2p (m_ : MethodId) (e : Addr) (c : Int32)  : entryFrame m_ #[(.ref e), (.int (2 : Int32)), (.int c)] 3 = mkF m_ 0 #[.val (.ref e), .val (.int (2 : Int32)), .val (.int c)] [] := by first | (simp [entryFrame, mkF, argsToLocals, Value.category]; done) | rfl
set_option maxRecDepth 65536 in
set_option maxHeartbeats 40000000 in
theorem co22_2p (l : Launch) (Z : State) (a0 : Array Value) (hw : ∀ d ∈ tables_1, d.before a0 Z = true) (e : Addr) (c : Int32) (v0 : Value) (v1 : Value) (v2 : Value) (v3 : Value) (h0 : Heap) (n0 : Nat) (Z0 : n0 ≤ h0.size)  (g_e : n0 ≤ e) (A_e : AV Z h0 e .byte [v0, v1, v2, v3]) (hc : Ch c) (s : c < (128 : Int32)) : Co l (⟨"com/example/bindwick/bindwick/AttributeGetValueByteArraysPinLaw", "put", "([BIC)I"⟩ : MethodName) method_6_code 3 (some .int) [] ({ frames := 0, cells := 0, slots := 0, locals := 0 } : Room) Z h0 #[(.ref e), (.int (2 : Int32)), (.int c)] (Q22_2p Z e c v0 v1 v2 v3 h0 n0) := by
  refine Co.of (plainFor_of_name pn_6) ?_
  intro p_ e_ s_ m_ below meth c_ T0 X0 hx hby hml hown hnm hret hlk hZ eq0
  have N0 := Fr.nil n0
  refine Go.cast (ef22_2p m_ e c ) ?_
  refine g_iloadN X0 hx rfl (hb hby d22_0) 1 rfl ?_
  refine g_sipush X0 hx (128 : Int32) rfl (hb hby d22_1) 4 rfl ?_
  refine g_icmp_ge X0 hx (hb hby d22_4) 16 7 (by decide) rfl rfl (fun q101 => ?_) (fun q101 => ?_)
  · exact absurd s q101
  · refine g_aloadN X0 hx rfl rfl (hb hby d22_7) 8 rfl ?_
    refine g_iloadN X0 hx rfl (hb hby d22_8) 9 rfl ?_
    refine g_iloadN X0 hx rfl (hb hby d22_9) 10 rfl ?_
    refine g_i2b X0 hx (hb hby d22_10) 11 rfl ?_
    refine g_bastore X0 hx hZ eq0 A_e (by decide) (Nat.le_of_ble_eq_true rfl) (hb hby d22_11) 12 rfl (fun T102 h103 X104 e105 W106 A107 => ?_)
    have A108 : AV Z h103 e .byte [v0, v1, (.int c.toInt8.toInt32.toInt8.toInt32), v3] := A107
    have F109 := A108
    have N110 := Fr.snoc X104 N0 g_e
    have szh111 : n0 ≤ h103.size := Nat.le_trans Z0 (Nat.le_of_eq W106.size.symm)
    have K112 := (Keep.refl h0 [e]).wr W106 (Or.inl (List.mem_of_getElem? (i := 0) rfl))
    show Go p_ e_ below _ T102 (mkF m_ 12 #[.val (.ref e), .val (.int (2 : Int32)), .val (.int c)] [])
    refine g_iloadN X104 hx rfl (hb hby d22_12) 13 rfl ?_
    refine g_iconst X104 hx (1 : Int32) rfl (hb hby d22_13) 14 rfl ?_
    refine g_iadd X104 hx (hb hby d22_14) 15 rfl ?_
    show Go p_ e_ below _ T102 (mkF m_ 15 #[.val (.ref e), .val (.int (2 : Int32)), .val (.int c)] [(.int (3 : Int32))])
    exact g_reti X104 hx hret hlk (by decide) (by decide) (hb hby d22_15) (by rw [e105]; exact ⟨rfl, N110, K112, AV.cast A108 (by rw [k_p2 hc])⟩)
def Q22_2m (Z : State) (e : Addr) (c : Int32) (v0 : Value) (v1 : Value) (v2 : Value) (v3 : Value) (h0 : Heap) (n0 : Nat) (v : Option Value) (h : Heap) (L : List Loc) : Prop := v = some (.int (4 : Int32)) ∧ Fr n0 L ∧ Keep h0 h [e] ∧ AV Z h e .byte [v0, v1, (.int (hi0 c)), (.int (hi1 c))]
theorem ef22_2m (m_ : MethodId) (e : Addr) (c : Int32)  : entryFrame m_ #[(.ref e), (.int (2 : Int32)), (.int c)] 3 = mkF m_ 0 #[.val (.ref e), .val (.int (2 : Int32)), .val (.int c)] [] := by first | (simp [entryFrame, mkF, argsToLocals, Value.category]; done) | rfl
set_option maxRecDepth 65536 in
set_option maxHeartbeats 40000000 in
theorem co22_2m (l : Launch) (Z : State) (a0 : Array Value) (hw : ∀ d ∈ tables_1, d.before a0 Z = true) (e : Addr) (c : Int32) (v0 : Value) (v1 : Value) (v2 : Value) (v3 : Value) (h0 : Heap) (n0 : Nat) (Z0 : n0 ≤ h0.size)  (g_e : n0 ≤ e) (A_e : AV Z h0 e .byte [v0, v1, v2, v3]) (hc : Ch c) (s : ¬ c < (128 : Int32)) : Co l (⟨"com/example/bindwick/bindwick/AttributeGetValueByteArraysPinLaw", "put", "([BIC)I"⟩ : MethodName) method_6_code 3 (some .int) [] ({ frames := 0, cells := 0, slots := 0, locals := 0 } : Room) Z h0 #[(.ref e), (.int (2 : Int32)), (.int c)] (Q22_2m Z e c v0 v1 v2 v3 h0 n0) := by
  refine Co.of (plainFor_of_name pn_6) ?_
  intro p_ e_ s_ m_ below meth c_ T0 X0 hx hby hml hown hnm hret hlk hZ eq0
  have N0 := Fr.nil n0
  refine Go.cast (ef22_2m m_ e c ) ?_
  refine g_iloadN X0 hx rfl (hb hby d22_0) 1 rfl ?_
  refine g_sipush X0 hx (128 : Int32) rfl (hb hby d22_1) 4 rfl ?_
  refine g_icmp_ge X0 hx (hb hby d22_4) 16 7 (by decide) rfl rfl (fun q101 => ?_) (fun q101 => ?_)
  · refine g_aloadN X0 hx rfl rfl (hb hby d22_16) 17 rfl ?_
    refine g_iloadN X0 hx rfl (hb hby d22_17) 18 rfl ?_
    refine g_sipush X0 hx (192 : Int32) rfl (hb hby d22_18) 21 rfl ?_
    refine g_iloadN X0 hx rfl (hb hby d22_21) 22 rfl ?_
    refine g_bipush X0 hx (6 : Int32) rfl (hb hby d22_22) 24 rfl ?_
    refine g_ishr X0 hx (hb hby d22_24) 25 rfl ?_
    refine g_ior X0 hx (hb hby d22_25) 26 rfl ?_
    refine g_i2b X0 hx (hb hby d22_26) 27 rfl ?_
    refine g_bastore X0 hx hZ eq0 A_e (by decide) (Nat.le_of_ble_eq_true rfl) (hb hby d22_27) 28 rfl (fun T102 h103 X104 e105 W106 A107 => ?_)
    have A108 : AV Z h103 e .byte [v0, v1, (.int ((192 : Int32) ||| (c >>> ((6 : Int32) &&& 31))).toInt8.toInt32.toInt8.toInt32), v3] := A107
    have F109 := A108
    have N110 := Fr.snoc X104 N0 g_e
    have szh111 : n0 ≤ h103.size := Nat.le_trans Z0 (Nat.le_of_eq W106.size.symm)
    have K112 := (Keep.refl h0 [e]).wr W106 (Or.inl (List.mem_of_getElem? (i := 0) rfl))
    show Go p_ e_ below _ T102 (mkF m_ 28 #[.val (.ref e), .val (.int (2 : Int32)), .val (.int c)] [])
    refine g_aloadN X104 hx rfl rfl (hb hby d22_28) 29 rfl ?_
    refine g_iloadN X104 hx rfl (hb hby d22_29) 30 rfl ?_
    refine g_iconst X104 hx (1 : Int32) rfl (hb hby d22_30) 31 rfl ?_
    refine g_iadd X104 hx (hb hby d22_31) 32 rfl ?_
    show Go p_ e_ below _ T102 (mkF m_ 32 #[.val (.ref e), .val (.int (2 : Int32)), .val (.int c)] [(.int (3 : Int32)), (.ref e)])
    refine g_sipush X104 hx (128 : Int32) rfl (hb hby d22_32) 35 rfl ?_
    refine g_iloadN X104 hx rfl (hb hby d22_35) 36 rfl ?_
    refine g_bipush X104 hx (63 : Int32) rfl (hb hby d22_36) 38 rfl ?_
    refine g_iand X104 hx (hb hby d22_38) 39 rfl ?_
    refine g_ior X104 hx (hb hby d22_39) 40 rfl ?_
    refine g_i2b X104 hx (hb hby d22_40) 41 rfl ?_
    refine g_bastore X104 hx hZ e105 A108 (by decide) (Nat.le_of_ble_eq_true rfl) (hb hby d22_41) 42 rfl (fun T113 h114 X115 e116 W117 A118 => ?_)
    have A119 : AV Z h114 e .byte [v0, v1, (.int ((192 : Int32) ||| (c >>> ((6 : Int32) &&& 31))).toInt8.toInt32.toInt8.toInt32), (.int ((128 : Int32) ||| (c &&& (63 : Int32))).toInt8.toInt32.toInt8.toInt32)] := A118
    have F120 := A119
    have N121 := Fr.snoc X115 N110 g_e
    have szh122 : n0 ≤ h114.size := Nat.le_trans szh111 (Nat.le_of_eq W117.size.symm)
    have K123 := K112.wr W117 (Or.inl (List.mem_of_getElem? (i := 0) rfl))
    show Go p_ e_ below _ T113 (mkF m_ 42 #[.val (.ref e), .val (.int (2 : Int32)), .val (.int c)] [])
    refine g_iloadN X115 hx rfl (hb hby d22_42) 43 rfl ?_
    refine g_iconst X115 hx (2 : Int32) rfl (hb hby d22_43) 44 rfl ?_
    refine g_iadd X115 hx (hb hby d22_44) 45 rfl ?_
    show Go p_ e_ below _ T113 (mkF m_ 45 #[.val (.ref e), .val (.int (2 : Int32)), .val (.int c)] [(.int (4 : Int32))])
    exact g_reti X115 hx hret hlk (by decide) (by decide) (hb hby d22_45) (by rw [e116]; exact ⟨rfl, N121, K123, AV.cast A119 (by rw [k_p0 hc, k_p1 hc])⟩)
  · exact absurd q101 s
def Q20_ (Z : State) (g : Addr) (x : Int32) (y : Int32) (h0 : Heap) (n0 : Nat) (v : Option Value) (h : Heap) (L : List Loc) : Prop := v = some (.int (1 : Int32)) ∧ Fr n0 L ∧ Keep h0 h []
theorem ef20_ (m_ : MethodId) (g : Addr) (x : Int32) (y : Int32)  : entryFrame m_ #[(.ref g), (.int (0 : Int32)), (.int x), (.int y)] 6 = mkF m_ 0 #[.val (.ref g), .val (.int (0 : Int32)), .val (.int x), .val (.int y), .unset, .unset] [] := by first | (simp [entryFrame, mkF, argsToLocals, Value.category]; done) | rfl
theorem d20_0 : decode method_7_code 0 = .ok (.aload_n 0, 1) := by decide +kernel
theorem d20_1 : decode method_7_code 1 = .ok (.ifnonnull 5, 3) := by decide +kernel
theorem d20_6 : decode method_7_code 6 = .ok (.iconst 4, 1) := by decide +kernel
theorem d20_7 : decode method_7_code 7 = .ok (.newarray .byte, 2) := by decide +kernel
theorem d20_9 : decode method_7_code 9 = .ok (.astore 4, 2) := by decide +kernel
theorem d20_11 : decode method_7_code 11 = .ok (.iconst 0, 1) := by decide +kernel
theorem d20_12 : decode method_7_code 12 = .ok (.istore 5, 2) := by decide +kernel
theorem d20_14 : decode method_7_code 14 = .ok (.iload_n 1, 1) := by decide +kernel
theorem d20_15 : decode method_7_code 15 = .ok (.iconst 1, 1) := by decide +kernel
theorem d20_16 : decode method_7_code 16 = .ok (.if_icmp .lt 13, 3) := by decide +kernel
theorem d20_29 : decode method_7_code 29 = .ok (.iload_n 1, 1) := by decide +kernel
theorem d20_30 : decode method_7_code 30 = .ok (.iconst 2, 1) := by decide +kernel
theorem d20_31 : decode method_7_code 31 = .ok (.if_icmp .ne 13, 3) := by decide +kernel
theorem d20_44 : decode method_7_code 44 = .ok (.aload_n 0, 1) := by decide +kernel
theorem d20_45 : decode method_7_code 45 = .ok (.arraylength, 1) := by decide +kernel
theorem d20_46 : decode method_7_code 46 = .ok (.iload 5, 2) := by decide +kernel
theorem d20_48 : decode method_7_code 48 = .ok (.if_icmp .eq 5, 3) := by decide +kernel
theorem d20_53 : decode method_7_code 53 = .ok (.iload 5, 2) := by decide +kernel
theorem d20_55 : decode method_7_code 55 = .ok (.iconst 1, 1) := by decide +kernel
theorem d20_56 : decode method_7_code 56 = .ok (.if_icmp .lt 13, 3) := by decide +kernel
theorem d20_69 : decode method_7_code 69 = .ok (.iload 5, 2) := by decide +kernel
theorem d20_71 : decode method_7_code 71 = .ok (.iconst 2, 1) := by decide +kernel
theorem d20_72 : decode method_7_code 72 = .ok (.if_icmp .lt 13, 3) := by decide +kernel
theorem d20_85 : decode method_7_code 85 = .ok (.iload 5, 2) := by decide +kernel
theorem d20_87 : decode method_7_code 87 = .ok (.iconst 3, 1) := by decide +kernel
theorem d20_88 : decode method_7_code 88 = .ok (.if_icmp .lt 13, 3) := by decide +kernel
theorem d20_101 : decode method_7_code 101 = .ok (.iload 5, 2) := by decide +kernel
theorem d20_103 : decode method_7_code 103 = .ok (.iconst 4, 1) := by decide +kernel
theorem d20_104 : decode method_7_code 104 = .ok (.if_icmp .lt 13, 3) := by decide +kernel
theorem d20_117 : decode method_7_code 117 = .ok (.iconst 1, 1) := by decide +kernel
theorem d20_118 : decode method_7_code 118 = .ok (.goto 4, 3) := by decide +kernel
theorem d20_122 : decode method_7_code 122 = .ok (.ireturn, 1) := by decide +kernel
set_option maxRecDepth 65536 in
set_option maxHeartbeats 40000000 in
theorem co20_ (l : Launch) (Z : State) (a0 : Array Value) (hw : ∀ d ∈ tables_1, d.before a0 Z = true) (g : Addr) (x : Int32) (y : Int32) (h0 : Heap) (n0 : Nat) (Z0 : n0 ≤ h0.size)   (A_g : AV Z h0 g .byte []) : Co l (⟨"com/example/bindwick/bindwick/AttributeGetValueByteArraysPinLaw", "same", "([BICC)Z"⟩ : MethodName) method_7_code 6 (some .boolean) [] ({ frames := 1, cells := 1, slots := 4, locals := 14 } : Room) Z h0 #[(.ref g), (.int (0 : Int32)), (.int x), (.int y)] (Q20_ Z g x y h0 n0) := by
  refine Co.of (plainFor_of_name pn_6) ?_
  intro p_ e_ s_ m_ below meth c_ T0 X0 hx hby hml hown hnm hret hlk hZ eq0
  have N0 := Fr.nil n0
  refine Go.cast (ef20_ m_ g x y ) ?_
  refine g_aloadN X0 hx rfl rfl (hb hby d20_0) 1 rfl ?_
  refine g_ifnonnull X0 hx rfl (hb hby d20_1) 6 4 (by decide) rfl rfl (fun q101 => ?_) (fun q101 => ?_)
  · refine g_iconst X0 hx (4 : Int32) rfl (hb hby d20_6) 7 rfl ?_
    refine g_newarrayE X0 hx hZ (aty := .byte) (wd hw 19 rfl) eq0 (by decide) 4 (by decide) (by decide) (by decide) (by decide) [(.int (0 : Int32)), (.int (0 : Int32)), (.int (0 : Int32)), (.int (0 : Int32))] rfl own_bn (hb hby d20_7) 9 rfl (fun T102 h103 b104 X105 e106 g107 E108 A109 E110 => ?_)
    have ne111 : g ≠ b104 := Nat.ne_of_lt (Nat.lt_of_lt_of_eq A_g.lt g107.symm)
    have F112 := A_g.ext E108
    have sz113 : n0 ≤ b104 := Nat.le_trans Z0 (Nat.le_of_eq g107.symm)
    have szh114 : n0 ≤ h103.size := Nat.le_trans Z0 E108.1
    have szk115 : h0.size ≤ b104 := Nat.le_trans (Keep.refl h0 []).1 (Nat.le_of_eq g107.symm)
    have K116 := (Keep.refl h0 []).ext E108
    have A117 : AV Z h103 b104 .byte [(.int (0 : Int32)), (.int (0 : Int32)), (.int (0 : Int32)), (.int (0 : Int32))] := A109
    show Go p_ e_ below _ T102 (mkF m_ 9 #[.val (.ref g), .val (.int (0 : Int32)), .val (.int x), .val (.int y), .unset, .unset] [(.ref b104)])
    refine g_astore X105 hx #[.val (.ref g), .val (.int (0 : Int32)), .val (.int x), .val (.int y), .val (.ref b104), .unset] rfl rfl (hb hby d20_9) 11 rfl ?_
    refine g_iconst X105 hx (0 : Int32) rfl (hb hby d20_11) 12 rfl ?_
    refine g_istore X105 hx #[.val (.ref g), .val (.int (0 : Int32)), .val (.int x), .val (.int y), .val (.ref b104), .val (.int (0 : Int32))] rfl (hb hby d20_12) 14 rfl ?_
    refine g_iloadN X105 hx rfl (hb hby d20_14) 15 rfl ?_
    refine g_iconst X105 hx (1 : Int32) rfl (hb hby d20_15) 16 rfl ?_
    refine g_icmp_lt X105 hx (hb hby d20_16) 29 19 (by decide) rfl rfl (fun q118 => ?_) (fun q118 => ?_)
    · refine g_iloadN X105 hx rfl (hb hby d20_29) 30 rfl ?_
      refine g_iconst X105 hx (2 : Int32) rfl (hb hby d20_30) 31 rfl ?_
      refine g_icmp_ne X105 hx (hb hby d20_31) 44 34 (by decide) rfl rfl (fun q119 => ?_) (fun q119 => ?_)
      · refine g_aloadN X105 hx rfl rfl (hb hby d20_44) 45 rfl ?_
        refine g_arraylength X105 hx hZ e106 F112 (0 : Int32) rfl (hb hby d20_45) 46 rfl ?_
        refine g_iload X105 hx rfl (hb hby d20_46) 48 rfl ?_
        refine g_icmp_eq X105 hx (hb hby d20_48) 53 51 (by decide) rfl rfl (fun q120 => ?_) (fun q120 => ?_)
        · refine g_iload X105 hx rfl (hb hby d20_53) 55 rfl ?_
          refine g_iconst X105 hx (1 : Int32) rfl (hb hby d20_55) 56 rfl ?_
          refine g_icmp_lt X105 hx (hb hby d20_56) 69 59 (by decide) rfl rfl (fun q121 => ?_) (fun q121 => ?_)
          · refine g_iload X105 hx rfl (hb hby d20_69) 71 rfl ?_
            refine g_iconst X105 hx (2 : Int32) rfl (hb hby d20_71) 72 rfl ?_
            refine g_icmp_lt X105 hx (hb hby d20_72) 85 75 (by decide) rfl rfl (fun q122 => ?_) (fun q122 => ?_)
            · refine g_iload X105 hx rfl (hb hby d20_85) 87 rfl ?_
              refine g_iconst X105 hx (3 : Int32) rfl (hb hby d20_87) 88 rfl ?_
              refine g_icmp_lt X105 hx (hb hby d20_88) 101 91 (by decide) rfl rfl (fun q123 => ?_) (fun q123 => ?_)
              · refine g_iload X105 hx rfl (hb hby d20_101) 103 rfl ?_
                refine g_iconst X105 hx (4 : Int32) rfl (hb hby d20_103) 104 rfl ?_
                refine g_icmp_lt X105 hx (hb hby d20_104) 117 107 (by decide) rfl rfl (fun q124 => ?_) (fun q124 => ?_)
                · refine g_iconst X105 hx (1 : Int32) rfl (hb hby d20_117) 118 rfl ?_
                  refine g_goto X105 hx (hb hby d20_118) 122 (by decide) rfl ?_
                  exact g_retz X105 hx hret hlk (by decide) (by decide) (hb hby d20_122) (by rw [e106]; exact ⟨rfl, N0, K116⟩)
                · exact absurd q124 (by decide)
              · exact absurd q123 (by decide)
            · exact absurd q122 (by decide)
          · exact absurd q121 (by decide)
        · exact absurd rfl q120
      · exact absurd q119 (by decide)
    · exact absurd q118 (by decide)
  · exact (by cases q101)
def Q20_p (Z : State) (g : Addr) (x : Int32) (y : Int32) (h0 : Heap) (n0 : Nat) (v : Option Value) (h : Heap) (L : List Loc) : Prop := v = some (.int (1 : Int32)) ∧ Fr n0 L ∧ Keep h0 h []
theorem ef20_p (m_ : MethodId) (g : Addr) (x : Int32) (y : Int32)  : entryFrame m_ #[(.ref g), (.int (1 : Int32)), (.int x), (.int y)] 6 = mkF m_ 0 #[.val (.ref g), .val (.int (1 : Int32)), .val (.int x), .val (.int y), .unset, .unset] [] := by first | (simp [entryFrame, mkF, argsToLocals, Value.category]; done) | rfl
theorem d20_19 : decode method_7_code 19 = .ok (.aload 4, 2) := by decide +kernel
theorem d20_21 : decode method_7_code 21 = .ok (.iload 5, 2) := by decide +kernel
theorem d20_23 : decode method_7_code 23 = .ok (.iload_n 2, 1) := by decide +kernel
theorem pd_12 : parseMethodDescriptor "([BIC)I" = some ⟨[(.array .byte), .int, .char], some .int⟩ := by decide +kernel
theorem d20_24 : decode method_7_code 24 = .ok (.invokestatic 41, 3) := by decide +kernel
theorem d20_27 : decode method_7_code 27 = .ok (.istore 5, 2) := by decide +kernel
theorem d20_59 : decode method_7_code 59 = .ok (.aload_n 0, 1) := by decide +kernel
theorem d20_60 : decode method_7_code 60 = .ok (.iconst 0, 1) := by decide +kernel
theorem d20_61 : decode method_7_code 61 = .ok (.baload, 1) := by decide +kernel
theorem d20_62 : decode method_7_code 62 = .ok (.aload 4, 2) := by decide +kernel
theorem d20_64 : decode method_7_code 64 = .ok (.iconst 0, 1) := by decide +kernel
theorem d20_65 : decode method_7_code 65 = .ok (.baload, 1) := by decide +kernel
theorem d20_66 : decode method_7_code 66 = .ok (.if_icmp .ne 55, 3) := by decide +kernel
set_option maxRecDepth 65536 in
set_option maxHeartbeats 40000000 in
theorem co20_p (l : Launch) (Z : State) (a0 : Array Value) (hw : ∀ d ∈ tables_1, d.before a0 Z = true) (g : Addr) (x : Int32) (y : Int32) (h0 : Heap) (n0 : Nat) (Z0 : n0 ≤ h0.size)   (A_g : AV Z h0 g .byte [(.int (byt x))]) (h_x : Ch x) (s_x : x < (128 : Int32)) : Co l (⟨"com/example/bindwick/bindwick/AttributeGetValueByteArraysPinLaw", "same", "([BICC)Z"⟩ : MethodName) method_7_code 6 (some .boolean) [] ({ frames := 1, cells := 1, slots := 4, locals := 14 } : Room) Z h0 #[(.ref g), (.int (1 : Int32)), (.int x), (.int y)] (Q20_p Z g x y h0 n0) := by
  refine Co.of (plainFor_of_name pn_6) ?_
  intro p_ e_ s_ m_ below meth c_ T0 X0 hx hby hml hown hnm hret hlk hZ eq0
  have N0 := Fr.nil n0
  refine Go.cast (ef20_p m_ g x y ) ?_
  refine g_aloadN X0 hx rfl rfl (hb hby d20_0) 1 rfl ?_
  refine g_ifnonnull X0 hx rfl (hb hby d20_1) 6 4 (by decide) rfl rfl (fun q101 => ?_) (fun q101 => ?_)
  · refine g_iconst X0 hx (4 : Int32) rfl (hb hby d20_6) 7 rfl ?_
    refine g_newarrayE X0 hx hZ (aty := .byte) (wd hw 19 rfl) eq0 (by decide) 4 (by decide) (by decide) (by decide) (by decide) [(.int (0 : Int32)), (.int (0 : Int32)), (.int (0 : Int32)), (.int (0 : Int32))] rfl own_bn (hb hby d20_7) 9 rfl (fun T102 h103 b104 X105 e106 g107 E108 A109 E110 => ?_)
    have ne111 : g ≠ b104 := Nat.ne_of_lt (Nat.lt_of_lt_of_eq A_g.lt g107.symm)
    have F112 := A_g.ext E108
    have sz113 : n0 ≤ b104 := Nat.le_trans Z0 (Nat.le_of_eq g107.symm)
    have szh114 : n0 ≤ h103.size := Nat.le_trans Z0 E108.1
    have szk115 : h0.size ≤ b104 := Nat.le_trans (Keep.refl h0 []).1 (Nat.le_of_eq g107.symm)
    have K116 := (Keep.refl h0 []).ext E108
    have A117 : AV Z h103 b104 .byte [(.int (0 : Int32)), (.int (0 : Int32)), (.int (0 : Int32)), (.int (0 : Int32))] := A109
    show Go p_ e_ below _ T102 (mkF m_ 9 #[.val (.ref g), .val (.int (1 : Int32)), .val (.int x), .val (.int y), .unset, .unset] [(.ref b104)])
    refine g_astore X105 hx #[.val (.ref g), .val (.int (1 : Int32)), .val (.int x), .val (.int y), .val (.ref b104), .unset] rfl rfl (hb hby d20_9) 11 rfl ?_
    refine g_iconst X105 hx (0 : Int32) rfl (hb hby d20_11) 12 rfl ?_
    refine g_istore X105 hx #[.val (.ref g), .val (.int (1 : Int32)), .val (.int x), .val (.int y), .val (.ref b104), .val (.int (0 : Int32))] rfl (hb hby d20_12) 14 rfl ?_
    refine g_iloadN X105 hx rfl (hb hby d20_14) 15 rfl ?_
    refine g_iconst X105 hx (1 : Int32) rfl (hb hby d20_15) 16 rfl ?_
    refine g_icmp_lt X105 hx (hb hby d20_16) 29 19 (by decide) rfl rfl (fun q118 => ?_) (fun q118 => ?_)
    · exact absurd q118 (by decide)
    · refine g_aload X105 hx rfl rfl (hb hby d20_19) 21 rfl ?_
      refine g_iload X105 hx rfl (hb hby d20_21) 23 rfl ?_
      refine g_iloadN X105 hx rfl (hb hby d20_23) 24 rfl ?_
      refine g_callS X105 hx hZ hown (wd hw 120 rfl) (wd hw 121 rfl) (wd hw 2 rfl) (wd hw 122 rfl) (by decide) e106 [(.ref b104), (.int (0 : Int32)), (.int x)] [] rfl (co22_0p l Z a0 hw b104 x (.int (0 : Int32)) (.int (0 : Int32)) (.int (0 : Int32)) (.int (0 : Int32)) h103 n0 szh114 sz113 A117 h_x s_x) (lenOf pd_12 rfl) 0 (Nat.le_of_eq rfl) (by decide) (by decide) (by decide) (by decide) (by rw [hml]; rfl) (hb hby d20_24) 27 rfl (fun r119 T120 L121 X122 Q123 => ?_)
      obtain ⟨h124, e125⟩ : ∃ h, T120.heap = h := ⟨_, rfl⟩
      rw [e125] at Q123
      obtain ⟨rfl, n126, K127, A128⟩ := Q123
      have N129 := Fr.app N0 n126
      have F130 := F112.keep K127 (ninS ne111 nin0)
      have F131 := E110.keep K127
      have szh132 : n0 ≤ h124.size := Nat.le_trans szh114 K127.1
      have K133 := K116.trans K127 (allS (Or.inr szk115) all0)
      show Go p_ e_ below _ T120 (mkF m_ 27 #[.val (.ref g), .val (.int (1 : Int32)), .val (.int x), .val (.int y), .val (.ref b104), .val (.int (0 : Int32))] [(.int (1 : Int32))])
      refine g_istore X122 hx #[.val (.ref g), .val (.int (1 : Int32)), .val (.int x), .val (.int y), .val (.ref b104), .val (.int (1 : Int32))] rfl (hb hby d20_27) 29 rfl ?_
      refine g_iloadN X122 hx rfl (hb hby d20_29) 30 rfl ?_
      refine g_iconst X122 hx (2 : Int32) rfl (hb hby d20_30) 31 rfl ?_
      refine g_icmp_ne X122 hx (hb hby d20_31) 44 34 (by decide) rfl rfl (fun q134 => ?_) (fun q134 => ?_)
      · refine g_aloadN X122 hx rfl rfl (hb hby d20_44) 45 rfl ?_
        refine g_arraylength X122 hx hZ e125 F130 (1 : Int32) rfl (hb hby d20_45) 46 rfl ?_
        refine g_iload X122 hx rfl (hb hby d20_46) 48 rfl ?_
        refine g_icmp_eq X122 hx (hb hby d20_48) 53 51 (by decide) rfl rfl (fun q135 => ?_) (fun q135 => ?_)
        · refine g_iload X122 hx rfl (hb hby d20_53) 55 rfl ?_
          refine g_iconst X122 hx (1 : Int32) rfl (hb hby d20_55) 56 rfl ?_
          refine g_icmp_lt X122 hx (hb hby d20_56) 69 59 (by decide) rfl rfl (fun q136 => ?_) (fun q136 => ?_)
          · exact absurd q136 (by decide)
          · refine g_aloadN X122 hx rfl rfl (hb hby d20_59) 60 rfl ?_
            refine g_iconst X122 hx (0 : Int32) rfl (hb hby d20_60) 61 rfl ?_
            refine g_baload X122 hx hZ e125 F130 (by decide) rfl (hb hby d20_61) 62 rfl ?_
            show Go p_ e_ below _ T120 (mkF m_ 62 #[.val (.ref g), .val (.int (1 : Int32)), .val (.int x), .val (.int y), .val (.ref b104), .val (.int (1 : Int32))] [(.int (byt x))])
            refine g_aload X122 hx rfl rfl (hb hby d20_62) 64 rfl ?_
            refine g_iconst X122 hx (0 : Int32) rfl (hb hby d20_64) 65 rfl ?_
            refine g_baload X122 hx hZ e125 A128 (by decide) rfl (hb hby d20_65) 66 rfl ?_
            show Go p_ e_ below _ T120 (mkF m_ 66 #[.val (.ref g), .val (.int (1 : Int32)), .val (.int x), .val (.int y), .val (.ref b104), .val (.int (1 : Int32))] [(.int (byt x)), (.int (byt x))])
            refine g_icmp_ne X122 hx (hb hby d20_66) 121 69 (by decide) rfl rfl (fun q137 => ?_) (fun q137 => ?_)
            · exact absurd rfl q137
            · refine g_iload X122 hx rfl (hb hby d20_69) 71 rfl ?_
              refine g_iconst X122 hx (2 : Int32) rfl (hb hby d20_71) 72 rfl ?_
              refine g_icmp_lt X122 hx (hb hby d20_72) 85 75 (by decide) rfl rfl (fun q138 => ?_) (fun q138 => ?_)
              · refine g_iload X122 hx rfl (hb hby d20_85) 87 rfl ?_
                refine g_iconst X122 hx (3 : Int32) rfl (hb hby d20_87) 88 rfl ?_
                refine g_icmp_lt X122 hx (hb hby d20_88) 101 91 (by decide) rfl rfl (fun q139 => ?_) (fun q139 => ?_)
                · refine g_iload X122 hx rfl (hb hby d20_101) 103 rfl ?_
                  refine g_iconst X122 hx (4 : Int32) rfl (hb hby d20_103) 104 rfl ?_
                  refine g_icmp_lt X122 hx (hb hby d20_104) 117 107 (by decide) rfl rfl (fun q140 => ?_) (fun q140 => ?_)
                  · refine g_iconst X122 hx (1 : Int32) rfl (hb hby d20_117) 118 rfl ?_
                    refine g_goto X122 hx (hb hby d20_118) 122 (by decide) rfl ?_
                    exact g_retz X122 hx hret hlk (by decide) (by decide) (hb hby d20_122) (by rw [e125]; exact ⟨rfl, N129, K133⟩)
                  · exact absurd q140 (by decide)
                · exact absurd q139 (by decide)
              · exact absurd q138 (by decide)
        · exact absurd rfl q135
      · exact absurd q134 (by decide)
  · exact (by cases q101)
def Q20_m (Z : State) (g : Addr) (x : Int32) (y : Int32) (h0 : Heap) (n0 : Nat) (v : Option Value) (h : Heap) (L : List Loc) : Prop := v = some (.int (1 : Int32)) ∧ Fr n0 L ∧ Keep h0 h []
theorem ef20_m (m_ : MethodId) (g : Addr) (x : Int32) (y : Int32)  : entryFrame m_ #[(.ref g), (.int (1 : Int32)), (.int x), (.int y)] 6 = mkF m_ 0 #[.val (.ref g), .val (.int (1 : Int32)), .val (.int x), .val (.int y), .unset, .unset] [] := by first | (simp [entryFrame, mkF, argsToLocals, Value.category]; done) | rfl
theorem d20_75 : decode method_7_code 75 = .ok (.aload_n 0, 1) := by decide +kernel
theorem d20_76 : decode method_7_code 76 = .ok (.iconst 1, 1) := by decide +kernel
theorem d20_77 : decode method_7_code 77 = .ok (.baload, 1) := by decide +kernel
theorem d20_78 : decode method_7_code 78 = .ok (.aload 4, 2) := by decide +kernel
theorem d20_80 : decode method_7_code 80 = .ok (.iconst 1, 1) := by decide +kernel
theorem d20_81 : decode method_7_code 81 = .ok (.baload, 1) := by decide +kernel
theorem d20_82 : decode method_7_code 82 = .ok (.if_icmp .ne 39, 3) := by decide +kernel
set_option maxRecDepth 65536 in
set_option maxHeartbeats 40000000 in
theorem co20_m (l : Launch) (Z : State) (a0 : Array Value) (hw : ∀ d ∈ tables_1, d.before a0 Z = true) (g : Addr) (x : Int32) (y : Int32) (h0 : Heap) (n0 : Nat) (Z0 : n0 ≤ h0.size)   (A_g : AV Z h0 g .byte [(.int (hi0 x)), (.int (hi1 x))]) (h_x : Ch x) (s_x : ¬ x < (128 : Int32)) : Co l (⟨"com/example/bindwick/bindwick/AttributeGetValueByteArraysPinLaw", "same", "([BICC)Z"⟩ : MethodName) method_7_code 6 (some .boolean) [] ({ frames := 1, cells := 1, slots := 4, locals := 14 } : Room) Z h0 #[(.ref g), (.int (1 : Int32)), (.int x), (.int y)] (Q20_m Z g x y h0 n0) := by
  refine Co.of (plainFor_of_name pn_6) ?_
  intro p_ e_ s_ m_ below meth c_ T0 X0 hx hby hml hown hnm hret hlk hZ eq0
  have N0 := Fr.nil n0
  refine Go.cast (ef20_m m_ g x y ) ?_
  refine g_aloadN X0 hx rfl rfl (hb hby d20_0) 1 rfl ?_
  refine g_ifnonnull X0 hx rfl (hb hby d20_1) 6 4 (by decide) rfl rfl (fun q101 => ?_) (fun q101 => ?_)
  · refine g_iconst X0 hx (4 : Int32) rfl (hb hby d20_6) 7 rfl ?_
    refine g_newarrayE X0 hx hZ (aty := .byte) (wd hw 19 rfl) eq0 (by decide) 4 (by decide) (by decide) (by decide) (by decide) [(.int (0 : Int32)), (.int (0 : Int32)), (.int (0 : Int32)), (.int (0 : Int32))] rfl own_bn (hb hby d20_7) 9 rfl (fun T102 h103 b104 X105 e106 g107 E108 A109 E110 => ?_)
    have ne111 : g ≠ b104 := Nat.ne_of_lt (Nat.lt_of_lt_of_eq A_g.lt g107.symm)
    have F112 := A_g.ext E108
    have sz113 : n0 ≤ b104 := Nat.le_trans Z0 (Nat.le_of_eq g107.symm)
    have szh114 : n0 ≤ h103.size := Nat.le_trans Z0 E108.1
    have szk115 : h0.size ≤ b104 := Nat.le_trans (Keep.refl h0 []).1 (Nat.le_of_eq g107.symm)
    have K116 := (Keep.refl h0 []).ext E108
    have A117 : AV Z h103 b104 .byte [(.int (0 : Int32)), (.int (0 : Int32)), (.int (0 : Int32)), (.int (0 : Int32))] := A109
    show Go p_ e_ below _ T102 (mkF m_ 9 #[.val (.ref g), .val (.int (1 : Int32)), .val (.int x), .val (.int y), .unset, .unset] [(.ref b104)])
    refine g_astore X105 hx #[.val (.ref g), .val (.int (1 : Int32)), .val (.int x), .val (.int y), .val (.ref b104), .unset] rfl rfl (hb hby d20_9) 11 rfl ?_
    refine g_iconst X105 hx (0 : Int32) rfl (hb hby d20_11) 12 rfl ?_
    refine g_istore X105 hx #[.val (.ref g), .val (.int (1 : Int32)), .val (.int x), .val (.int y), .val (.ref b104), .val (.int (0 : Int32))] rfl (hb hby d20_12) 14 rfl ?_
    refine g_iloadN X105 hx rfl (hb hby d20_14) 15 rfl ?_
    refine g_iconst X105 hx (1 : Int32) rfl (hb hby d20_15) 16 rfl ?_
    refine g_icmp_lt X105 hx (hb hby d20_16) 29 19 (by decide) rfl rfl (fun q118 => ?_) (fun q118 => ?_)
    · exact absurd q118 (by decide)
    · refine g_aload X105 hx rfl rfl (hb hby d20_19) 21 rfl ?_
      refine g_iload X105 hx rfl (hb hby d20_21) 23 rfl ?_
      refine g_iloadN X105 hx rfl (hb hby d20_23) 24 rfl ?_
      refine g_callS X105 hx hZ hown (wd hw 120 rfl) (wd hw 121 rfl) (wd hw 2 rfl) (wd hw 122 rfl) (by decide) e106 [(.ref b104), (.int (0 : Int32)), (.int x)] [] rfl (co22_0m l Z a0 hw b104 x (.int (0 : Int32)) (.int (0 : Int32)) (.int (0 : Int32)) (.int (0 : Int32)) h103 n0 szh114 sz113 A117 h_x s_x) (lenOf pd_12 rfl) 0 (Nat.le_of_eq rfl) (by decide) (by decide) (by decide) (by decide) (by rw [hml]; rfl) (hb hby d20_24) 27 rfl (fun r119 T120 L121 X122 Q123 => ?_)
      obtain ⟨h124, e125⟩ : ∃ h, T120.heap = h := ⟨_, rfl⟩
      rw [e125] at Q123
      obtain ⟨rfl, n126, K127, A128⟩ := Q123
      have N129 := Fr.app N0 n126
      have F130 := F112.keep K127 (ninS ne111 nin0)
      have F131 := E110.keep K127
      have szh132 : n0 ≤ h124.size := Nat.le_trans szh114 K127.1
      have K133 := K116.trans K127 (allS (Or.inr szk115) all0)
      show Go p_ e_ below _ T120 (mkF m_ 27 #[.val (.ref g), .val (.int (1 : Int32)), .val (.int x), .val (.int y), .val (.ref b104), .val (.int (0 : Int32))] [(.int (2 : Int32))])
      refine g_istore X122 hx #[.val (.ref g), .val (.int (1 : Int32)), .val (.int x), .val (.int y), .val (.ref b104), .val (.int (2 : Int32))] rfl (hb hby d20_27) 29 rfl ?_
      refine g_iloadN X122 hx rfl (hb hby d20_29) 30 rfl ?_
      refine g_iconst X122 hx (2 : Int32) rfl (hb hby d20_30) 31 rfl ?_
      refine g_icmp_ne X122 hx (hb hby d20_31) 44 34 (by decide) rfl rfl (fun q134 => ?_) (fun q134 => ?_)
      · refine g_aloadN X122 hx rfl rfl (hb hby d20_44) 45 rfl ?_
        refine g_arraylength X122 hx hZ e125 F130 (2 : Int32) rfl (hb hby d20_45) 46 rfl ?_
        refine g_iload X122 hx rfl (hb hby d20_46) 48 rfl ?_
        refine g_icmp_eq X122 hx (hb hby d20_48) 53 51 (by decide) rfl rfl (fun q135 => ?_) (fun q135 => ?_)
        · refine g_iload X122 hx rfl (hb hby d20_53) 55 rfl ?_
          refine g_iconst X122 hx (1 : Int32) rfl (hb hby d20_55) 56 rfl ?_
          refine g_icmp_lt X122 hx (hb hby d20_56) 69 59 (by decide) rfl rfl (fun q136 => ?_) (fun q136 => ?_)
          · exact absurd q136 (by decide)
          · refine g_aloadN X122 hx rfl rfl (hb hby d20_59) 60 rfl ?_
            refine g_iconst X122 hx (0 : Int32) rfl (hb hby d20_60) 61 rfl ?_
            refine g_baload X122 hx hZ e125 F130 (by decide) rfl (hb hby d20_61) 62 rfl ?_
            show Go p_ e_ below _ T120 (mkF m_ 62 #[.val (.ref g), .val (.int (1 : Int32)), .val (.int x), .val (.int y), .val (.ref b104), .val (.int (2 : Int32))] [(.int (hi0 x))])
            refine g_aload X122 hx rfl rfl (hb hby d20_62) 64 rfl ?_
            refine g_iconst X122 hx (0 : Int32) rfl (hb hby d20_64) 65 rfl ?_
            refine g_baload X122 hx hZ e125 A128 (by decide) rfl (hb hby d20_65) 66 rfl ?_
            show Go p_ e_ below _ T120 (mkF m_ 66 #[.val (.ref g), .val (.int (1 : Int32)), .val (.int x), .val (.int y), .val (.ref b104), .val (.int (2 : Int32))] [(.int (hi0 x)), (.int (hi0 x))])
            refine g_icmp_ne X122 hx (hb hby d20_66) 121 69 (by decide) rfl rfl (fun q137 => ?_) (fun q137 => ?_)
            · exact absurd rfl q137
            · refine g_iload X122 hx rfl (hb hby d20_69) 71 rfl ?_
              refine g_iconst X122 hx (2 : Int32) rfl (hb hby d20_71) 72 rfl ?_
              refine g_icmp_lt X122 hx (hb hby d20_72) 85 75 (by decide) rfl rfl (fun q138 => ?_) (fun q138 => ?_)
              · exact absurd q138 (by decide)
              · refine g_aloadN X122 hx rfl rfl (hb hby d20_75) 76 rfl ?_
                refine g_iconst X122 hx (1 : Int32) rfl (hb hby d20_76) 77 rfl ?_
                refine g_baload X122 hx hZ e125 F130 (by decide) rfl (hb hby d20_77) 78 rfl ?_
                show Go p_ e_ below _ T120 (mkF m_ 78 #[.val (.ref g), .val (.int (1 : Int32)), .val (.int x), .val (.int y), .val (.ref b104), .val (.int (2 : Int32))] [(.int (hi1 x))])
                refine g_aload X122 hx rfl rfl (hb hby d20_78) 80 rfl ?_
                refine g_iconst X122 hx (1 : Int32) rfl (hb hby d20_80) 81 rfl ?_
                refine g_baload X122 hx hZ e125 A128 (by decide) rfl (hb hby d20_81) 82 rfl ?_
                show Go p_ e_ below _ T120 (mkF m_ 82 #[.val (.ref g), .val (.int (1 : Int32)), .val (.int x), .val (.int y), .val (.ref b104), .val (.int (2 : Int32))] [(.int (hi1 x)), (.int (hi1 x))])
                refine g_icmp_ne X122 hx (hb hby d20_82) 121 85 (by decide) rfl rfl (fun q139 => ?_) (fun q139 => ?_)
                · exact absurd rfl q139
                · refine g_iload X122 hx rfl (hb hby d20_85) 87 rfl ?_
                  refine g_iconst X122 hx (3 : Int32) rfl (hb hby d20_87) 88 rfl ?_
                  refine g_icmp_lt X122 hx (hb hby d20_88) 101 91 (by decide) rfl rfl (fun q140 => ?_) (fun q140 => ?_)
                  · refine g_iload X122 hx rfl (hb hby d20_101) 103 rfl ?_
                    refine g_iconst X122 hx (4 : Int32) rfl (hb hby d20_103) 104 rfl ?_
                    refine g_icmp_lt X122 hx (hb hby d20_104) 117 107 (by decide) rfl rfl (fun q141 => ?_) (fun q141 => ?_)
                    · refine g_iconst X122 hx (1 : Int32) rfl (hb hby d20_117) 118 rfl ?_
                      refine g_goto X122 hx (hb hby d20_118) 122 (by decide) rfl ?_
                      exact g_retz X122 hx hret hlk (by decide) (by decide) (hb hby d20_122) (by rw [e125]; exact ⟨rfl, N129, K133⟩)
                    · exact absurd q141 (by decide)
                  · exact absurd q140 (by decide)
        · exact absurd rfl q135
      · exact absurd q134 (by decide)
  · exact (by cases q101)
def Q20_pp (Z : State) (g : Addr) (x : Int32) (y : Int32) (h0 : Heap) (n0 : Nat) (v : Option Value) (h : Heap) (L : List Loc) : Prop := v = some (.int (1 : Int32)) ∧ Fr n0 L ∧ Keep h0 h []
theorem ef20_pp (m_ : MethodId) (g : Addr) (x : Int32) (y : Int32)  : entryFrame m_ #[(.ref g), (.int (2 : Int32)), (.int x), (.int y)] 6 = mkF m_ 0 #[.val (.ref g), .val (.int (2 : Int32)), .val (.int x), .val (.int y), .unset, .unset] [] := by first | (simp [entryFrame, mkF, argsToLocals, Value.category]; done) | rfl
theorem d20_34 : decode method_7_code 34 = .ok (.aload 4, 2) := by decide +kernel
theorem d20_36 : decode method_7_code 36 = .ok (.iload 5, 2) := by decide +kernel
theorem d20_38 : decode method_7_code 38 = .ok (.iload_n 3, 1) := by decide +kernel
theorem d20_39 : decode method_7_code 39 = .ok (.invokestatic 41, 3) := by decide +kernel
theorem d20_42 : decode method_7_code 42 = .ok (.istore 5, 2) := by decide +kernel
set_option maxRecDepth 65536 in
set_option maxHeartbeats 40000000 in
theorem co20_pp (l : Launch) (Z : State) (a0 : Array Value) (hw : ∀ d ∈ tables_1, d.before a0 Z = true) (g : Addr) (x : Int32) (y : Int32) (h0 : Heap) (n0 : Nat) (Z0 : n0 ≤ h0.size)   (A_g : AV Z h0 g .byte [(.int (byt x)), (.int (byt y))]) (h_x : Ch x) (h_y : Ch y) (s_x : x < (128 : Int32)) (s_y : y < (128 : Int32)) : Co l (⟨"com/example/bindwick/bindwick/AttributeGetValueByteArraysPinLaw", "same", "([BICC)Z"⟩ : MethodName) method_7_code 6 (some .boolean) [] ({ frames := 1, cells := 1, slots := 4, locals := 14 } : Room) Z h0 #[(.ref g), (.int (2 : Int32)), (.int x), (.int y)] (Q20_pp Z g x y h0 n0) := by
  refine Co.of (plainFor_of_name pn_6) ?_
  intro p_ e_ s_ m_ below meth c_ T0 X0 hx hby hml hown hnm hret hlk hZ eq0
  have N0 := Fr.nil n0
  refine Go.cast (ef20_pp m_ g x y ) ?_
  refine g_aloadN X0 hx rfl rfl (hb hby d20_0) 1 rfl ?_
  refine g_ifnonnull X0 hx rfl (hb hby d20_1) 6 4 (by decide) rfl rfl (fun q101 => ?_) (fun q101 => ?_)
  · refine g_iconst X0 hx (4 : Int32) rfl (hb hby d20_6) 7 rfl ?_
    refine g_newarrayE X0 hx hZ (aty := .byte) (wd hw 19 rfl) eq0 (by decide) 4 (by decide) (by decide) (by decide) (by decide) [(.int (0 : Int32)), (.int (0 : Int32)), (.int (0 : Int32)), (.int (0 : Int32))] rfl own_bn (hb hby d20_7) 9 rfl (fun T102 h103 b104 X105 e106 g107 E108 A109 E110 => ?_)
    have ne111 : g ≠ b104 := Nat.ne_of_lt (Nat.lt_of_lt_of_eq A_g.lt g107.symm)
    have F112 := A_g.ext E108
    have sz113 : n0 ≤ b104 := Nat.le_trans Z0 (Nat.le_of_eq g107.symm)
    have szh114 : n0 ≤ h103.size := Nat.le_trans Z0 E108.1
    have szk115 : h0.size ≤ b104 := Nat.le_trans (Keep.refl h0 []).1 (Nat.le_of_eq g107.symm)
    have K116 := (Keep.refl h0 []).ext E108
    have A117 : AV Z h103 b104 .byte [(.int (0 : Int32)), (.int (0 : Int32)), (.int (0 : Int32)), (.int (0 : Int32))] := A109
    show Go p_ e_ below _ T102 (mkF m_ 9 #[.val (.ref g), .val (.int (2 : Int32)), .val (.int x), .val (.int y), .unset, .unset] [(.ref b104)])
    refine g_astore X105 hx #[.val (.ref g), .val (.int (2 : Int32)), .val (.int x), .val (.int y), .val (.ref b104), .unset] rfl rfl (hb hby d20_9) 11 rfl ?_
    refine g_iconst X105 hx (0 : Int32) rfl (hb hby d20_11) 12 rfl ?_
    refine g_istore X105 hx #[.val (.ref g), .val (.int (2 : Int32)), .val (.int x), .val (.int y), .val (.ref b104), .val (.int (0 : Int32))] rfl (hb hby d20_12) 14 rfl ?_
    refine g_iloadN X105 hx rfl (hb hby d20_14) 15 rfl ?_
    refine g_iconst X105 hx (1 : Int32) rfl (hb hby d20_15) 16 rfl ?_
    refine g_icmp_lt X105 hx (hb hby d20_16) 29 19 (by decide) rfl rfl (fun q118 => ?_) (fun q118 => ?_)
    · exact absurd q118 (by decide)
    · refine g_aload X105 hx rfl rfl (hb hby d20_19) 21 rfl ?_
      refine g_iload X105 hx rfl (hb hby d20_21) 23 rfl ?_
      refine g_iloadN X105 hx rfl (hb hby d20_23) 24 rfl ?_
      refine g_callS X105 hx hZ hown (wd hw 120 rfl) (wd hw 121 rfl) (wd hw 2 rfl) (wd hw 122 rfl) (by decide) e106 [(.ref b104), (.int (0 : Int32)), (.int x)] [] rfl (co22_0p l Z a0 hw b104 x (.int (0 : Int32)) (.int (0 : Int32)) (.int (0 : Int32)) (.int (0 : Int32)) h103 n0 szh114 sz113 A117 h_x s_x) (lenOf pd_12 rfl) 0 (Nat.le_of_eq rfl) (by decide) (by decide) (by decide) (by decide) (by rw [hml]; rfl) (hb hby d20_24) 27 rfl (fun r119 T120 L121 X122 Q123 => ?_)
      obtain ⟨h124, e125⟩ : ∃ h, T120.heap = h := ⟨_, rfl⟩
      rw [e125] at Q123
      obtain ⟨rfl, n126, K127, A128⟩ := Q123
      have N129 := Fr.app N0 n126
      have F130 := F112.keep K127 (ninS ne111 nin0)
      have F131 := E110.keep K127
      have szh132 : n0 ≤ h124.size := Nat.le_trans szh114 K127.1
      have K133 := K116.trans K127 (allS (Or.inr szk115) all0)
      show Go p_ e_ below _ T120 (mkF m_ 27 #[.val (.ref g), .val (.int (2 : Int32)), .val (.int x), .val (.int y), .val (.ref b104), .val (.int (0 : Int32))] [(.int (1 : Int32))])
      refine g_istore X122 hx #[.val (.ref g), .val (.int (2 : Int32)), .val (.int x), .val (.int y), .val (.ref b104), .val (.int (1 : Int32))] rfl (hb hby d20_27) 29 rfl ?_
      refine g_iloadN X122 hx rfl (hb hby d20_29) 30 rfl ?_
      refine g_iconst X122 hx (2 : Int32) rfl (hb hby d20_30) 31 rfl ?_
      refine g_icmp_ne X122 hx (hb hby d20_31) 44 34 (by decide) rfl rfl (fun q134 => ?_) (fun q134 => ?_)
      · exact absurd rfl q134
      · refine g_aload X122 hx rfl rfl (hb hby d20_34) 36 rfl ?_
        refine g_iload X122 hx rfl (hb hby d20_36) 38 rfl ?_
        refine g_iloadN X122 hx rfl (hb hby d20_38) 39 rfl ?_
        refine g_callS X122 hx hZ hown (wd hw 120 rfl) (wd hw 121 rfl) (wd hw 2 rfl) (wd hw 122 rfl) (by decide) e125 [(.ref b104), (.int (1 : Int32)), (.int y)] [] rfl (co22_1p l Z a0 hw b104 y (.int (byt x)) (.int (0 : Int32)) (.int (0 : Int32)) (.int (0 : Int32)) h124 n0 szh132 sz113 A128 h_y s_y) (lenOf pd_12 rfl) 0 (Nat.le_of_eq rfl) (by decide) (by decide) (by decide) (by decide) (by rw [hml]; rfl) (hb hby d20_39) 42 rfl (fun r135 T136 L137 X138 Q139 => ?_)
        obtain ⟨h140, e141⟩ : ∃ h, T136.heap = h := ⟨_, rfl⟩
        rw [e141] at Q139
        obtain ⟨rfl, n142, K143, A144⟩ := Q139
        have N145 := Fr.app N129 n142
        have F146 := F130.keep K143 (ninS ne111 nin0)
        have F147 := F131.keep K143
        have szh148 : n0 ≤ h140.size := Nat.le_trans szh132 K143.1
        have K149 := K133.trans K143 (allS (Or.inr szk115) all0)
        show Go p_ e_ below _ T136 (mkF m_ 42 #[.val (.ref g), .val (.int (2 : Int32)), .val (.int x), .val (.int y), .val (.ref b104), .val (.int (1 : Int32))] [(.int (2 : Int32))])
        refine g_istore X138 hx #[.val (.ref g), .val (.int (2 : Int32)), .val (.int x), .val (.int y), .val (.ref b104), .val (.int (2 : Int32))] rfl (hb hby d20_42) 44 rfl ?_
        refine g_aloadN X138 hx rfl rfl (hb hby d20_44) 45 rfl ?_
        refine g_arraylength X138 hx hZ e141 F146 (2 : Int32) rfl (hb hby d20_45) 46 rfl ?_
        refine g_iload X138 hx rfl (hb hby d20_46) 48 rfl ?_
        refine g_icmp_eq X138 hx (hb hby d20_48) 53 51 (by decide) rfl rfl (fun q150 => ?_) (fun q150 => ?_)
        · refine g_iload X138 hx rfl (hb hby d20_53) 55 rfl ?_
          refine g_iconst X138 hx (1 : Int32) rfl (hb hby d20_55) 56 rfl ?_
          refine g_icmp_lt X138 hx (hb hby d20_56) 69 59 (by decide) rfl rfl (fun q151 => ?_) (fun q151 => ?_)
          · exact absurd q151 (by decide)
          · refine g_aloadN X138 hx rfl rfl (hb hby d20_59) 60 rfl ?_
            refine g_iconst X138 hx (0 : Int32) rfl (hb hby d20_60) 61 rfl ?_
            refine g_baload X138 hx hZ e141 F146 (by decide) rfl (hb hby d20_61) 62 rfl ?_
            show Go p_ e_ below _ T136 (mkF m_ 62 #[.val (.ref g), .val (.int (2 : Int32)), .val (.int x), .val (.int y), .val (.ref b104), .val (.int (2 : Int32))] [(.int (byt x))])
            refine g_aload X138 hx rfl rfl (hb hby d20_62) 64 rfl ?_
            refine g_iconst X138 hx (0 : Int32) rfl (hb hby d20_64) 65 rfl ?_
            refine g_baload X138 hx hZ e141 A144 (by decide) rfl (hb hby d20_65) 66 rfl ?_
            show Go p_ e_ below _ T136 (mkF m_ 66 #[.val (.ref g), .val (.int (2 : Int32)), .val (.int x), .val (.int y), .val (.ref b104), .val (.int (2 : Int32))] [(.int (byt x)), (.int (byt x))])
            refine g_icmp_ne X138 hx (hb hby d20_66) 121 69 (by decide) rfl rfl (fun q152 => ?_) (fun q152 => ?_)
            · exact absurd rfl q152
            · refine g_iload X138 hx rfl (hb hby d20_69) 71 rfl ?_
              refine g_iconst X138 hx (2 : Int32) rfl (hb hby d20_71) 72 rfl ?_
              refine g_icmp_lt X138 hx (hb hby d20_72) 85 75 (by decide) rfl rfl (fun q153 => ?_) (fun q153 => ?_)
              · exact absurd q153 (by decide)
              · refine g_aloadN X138 hx rfl rfl (hb hby d20_75) 76 rfl ?_
                refine g_iconst X138 hx (1 : Int32) rfl (hb hby d20_76) 77 rfl ?_
                refine g_baload X138 hx hZ e141 F146 (by decide) rfl (hb hby d20_77) 78 rfl ?_
                show Go p_ e_ below _ T136 (mkF m_ 78 #[.val (.ref g), .val (.int (2 : Int32)), .val (.int x), .val (.int y), .val (.ref b104), .val (.int (2 : Int32))] [(.int (byt y))])
                refine g_aload X138 hx rfl rfl (hb hby d20_78) 80 rfl ?_
                refine g_iconst X138 hx (1 : Int32) rfl (hb hby d20_80) 81 rfl ?_
                refine g_baload X138 hx hZ e141 A144 (by decide) rfl (hb hby d20_81) 82 rfl ?_
                show Go p_ e_ below _ T136 (mkF m_ 82 #[.val (.ref g), .val (.int (2 : Int32)), .val (.int x), .val (.int y), .val (.ref b104), .val (.int (2 : Int32))] [(.int (byt y)), (.int (byt y))])
                refine g_icmp_ne X138 hx (hb hby d20_82) 121 85 (by decide) rfl rfl (fun q154 => ?_) (fun q154 => ?_)
                · exact absurd rfl q154
                · refine g_iload X138 hx rfl (hb hby d20_85) 87 rfl ?_
                  refine g_iconst X138 hx (3 : Int32) rfl (hb hby d20_87) 88 rfl ?_
                  refine g_icmp_lt X138 hx (hb hby d20_88) 101 91 (by decide) rfl rfl (fun q155 => ?_) (fun q155 => ?_)
                  · refine g_iload X138 hx rfl (hb hby d20_101) 103 rfl ?_
                    refine g_iconst X138 hx (4 : Int32) rfl (hb hby d20_103) 104 rfl ?_
                    refine g_icmp_lt X138 hx (hb hby d20_104) 117 107 (by decide) rfl rfl (fun q156 => ?_) (fun q156 => ?_)
                    · refine g_iconst X138 hx (1 : Int32) rfl (hb hby d20_117) 118 rfl ?_
                      refine g_goto X138 hx (hb hby d20_118) 122 (by decide) rfl ?_
                      exact g_retz X138 hx hret hlk (by decide) (by decide) (hb hby d20_122) (by rw [e141]; exact ⟨rfl, N145, K149⟩)
                    · exact absurd q156 (by decide)
                  · exact absurd q155 (by decide)
        · exact absurd rfl q150
  · exact (by cases q101)
def Q20_pm (Z : State) (g : Addr) (x : Int32) (y : Int32) (h0 : Heap) (n0 : Nat) (v : Option Value) (h : Heap) (L : List Loc) : Prop := v = some (.int (1 : Int32)) ∧ Fr n0 L ∧ Keep h0 h []
theorem ef20_pm (m_ : MethodId) (g : Addr) (x : Int32) (y : Int32)  : entryFrame m_ #[(.ref g), (.int (2 : Int32)), (.int x), (.int y)] 6 = mkF m_ 0 #[.val (.ref g), .val (.int (2 : Int32)), .val (.int x), .val (.int y), .unset, .unset] [] := by first | (simp [entryFrame, mkF, argsToLocals, Value.category]; done) | rfl
theorem d20_91 : decode method_7_code 91 = .ok (.aload_n 0, 1) := by decide +kernel
theorem d20_92 : decode method_7_code 92 = .ok (.iconst 2, 1) := by decide +kernel
theorem d20_93 : decode method_7_code 93 = .ok (.baload, 1) := by decide +kernel
theorem d20_94 : decode method_7_code 94 = .ok (.aload 4, 2) := by decide +kernel
theorem d20_96 : decode method_7_code 96 = .ok (.iconst 2, 1) := by decide +kernel
theorem d20_97 : decode method_7_code 97 = .ok (.baload, 1) := by decide +kernel
theorem d20_98 : decode method_7_code 98 = .ok (.if_icmp .ne 23, 3) := by decide +kernel
set_option maxRecDepth 65536 in
set_option maxHeartbeats 40000000 in
theorem co20_pm (l : Launch) (Z : State) (a0 : Array Value) (hw : ∀ d ∈ tables_1, d.before a0 Z = true) (g : Addr) (x : Int32) (y : Int32) (h0 : Heap) (n0 : Nat) (Z0 : n0 ≤ h0.size)   (A_g : AV Z h0 g .byte [(.int (byt x)), (.int (hi0 y)), (.int (hi1 y))]) (h_x : Ch x) (h_y : Ch y) (s_x : x < (128 : Int32)) (s_y : ¬ y < (128 : Int32)) : Co l (⟨"com/example/bindwick/bindwick/AttributeGetValueByteArraysPinLaw", "same", "([BICC)Z"⟩ : MethodName) method_7_code 6 (some .boolean) [] ({ frames := 1, cells := 1, slots := 4, locals := 14 } : Room) Z h0 #[(.ref g), (.int (2 : Int32)), (.int x), (.int y)] (Q20_pm Z g x y h0 n0) := by
  refine Co.of (plainFor_of_name pn_6) ?_
  intro p_ e_ s_ m_ below meth c_ T0 X0 hx hby hml hown hnm hret hlk hZ eq0
  have N0 := Fr.nil n0
  refine Go.cast (ef20_pm m_ g x y ) ?_
  refine g_aloadN X0 hx rfl rfl (hb hby d20_0) 1 rfl ?_
  refine g_ifnonnull X0 hx rfl (hb hby d20_1) 6 4 (by decide) rfl rfl (fun q101 => ?_) (fun q101 => ?_)
  · refine g_iconst X0 hx (4 : Int32) rfl (hb hby d20_6) 7 rfl ?_
    refine g_newarrayE X0 hx hZ (aty := .byte) (wd hw 19 rfl) eq0 (by decide) 4 (by decide) (by decide) (by decide) (by decide) [(.int (0 : Int32)), (.int (0 : Int32)), (.int (0 : Int32)), (.int (0 : Int32))] rfl own_bn (hb hby d20_7) 9 rfl (fun T102 h103 b104 X105 e106 g107 E108 A109 E110 => ?_)
    have ne111 : g ≠ b104 := Nat.ne_of_lt (Nat.lt_of_lt_of_eq A_g.lt g107.symm)
    have F112 := A_g.ext E108
    have sz113 : n0 ≤ b104 := Nat.le_trans Z0 (Nat.le_of_eq g107.symm)
    have szh114 : n0 ≤ h103.size := Nat.le_trans Z0 E108.1
    have szk115 : h0.size ≤ b104 := Nat.le_trans (Keep.refl h0 []).1 (Nat.le_of_eq g107.symm)
    have K116 := (Keep.refl h0 []).ext E108
    have A117 : AV Z h103 b104 .byte [(.int (0 : Int32)), (.int (0 : Int32)), (.int (0 : Int32)), (.int (0 : Int32))] := A109
    show Go p_ e_ below _ T102 (mkF m_ 9 #[.val (.ref g), .val (.int (2 : Int32)), .val (.int x), .val (.int y), .unset, .unset] [(.ref b104)])
    refine g_astore X105 hx #[.val (.ref g), .val (.int (2 : Int32)), .val (.int x), .val (.int y), .val (.ref b104), .unset] rfl rfl (hb hby d20_9) 11 rfl ?_
    refine g_iconst X105 hx (0 : Int32) rfl (hb hby d20_11) 12 rfl ?_
    refine g_istore X105 hx #[.val (.ref g), .val (.int (2 : Int32)), .val (.int x), .val (.int y), .val (.ref b104), .val (.int (0 : Int32))] rfl (hb hby d20_12) 14 rfl ?_
    refine g_iloadN X105 hx rfl (hb hby d20_14) 15 rfl ?_
    refine g_iconst X105 hx (1 : Int32) rfl (hb hby d20_15) 16 rfl ?_
    refine g_icmp_lt X105 hx (hb hby d20_16) 29 19 (by decide) rfl rfl (fun q118 => ?_) (fun q118 => ?_)
    · exact absurd q118 (by decide)
    · refine g_aload X105 hx rfl rfl (hb hby d20_19) 21 rfl ?_
      refine g_iload X105 hx rfl (hb hby d20_21) 23 rfl ?_
      refine g_iloadN X105 hx rfl (hb hby d20_23) 24 rfl ?_
      refine g_callS X105 hx hZ hown (wd hw 120 rfl) (wd hw 121 rfl) (wd hw 2 rfl) (wd hw 122 rfl) (by decide) e106 [(.ref b104), (.int (0 : Int32)), (.int x)] [] rfl (co22_0p l Z a0 hw b104 x (.int (0 : Int32)) (.int (0 : Int32)) (.int (0 : Int32)) (.int (0 : Int32)) h103 n0 szh114 sz113 A117 h_x s_x) (lenOf pd_12 rfl) 0 (Nat.le_of_eq rfl) (by decide) (by decide) (by decide) (by decide) (by rw [hml]; rfl) (hb hby d20_24) 27 rfl (fun r119 T120 L121 X122 Q123 => ?_)
      obtain ⟨h124, e125⟩ : ∃ h, T120.heap = h := ⟨_, rfl⟩
      rw [e125] at Q123
      obtain ⟨rfl, n126, K127, A128⟩ := Q123
      have N129 := Fr.app N0 n126
      have F130 := F112.keep K127 (ninS ne111 nin0)
      have F131 := E110.keep K127
      have szh132 : n0 ≤ h124.size := Nat.le_trans szh114 K127.1
      have K133 := K116.trans K127 (allS (Or.inr szk115) all0)
      show Go p_ e_ below _ T120 (mkF m_ 27 #[.val (.ref g), .val (.int (2 : Int32)), .val (.int x), .val (.int y), .val (.ref b104), .val (.int (0 : Int32))] [(.int (1 : Int32))])
      refine g_istore X122 hx #[.val (.ref g), .val (.int (2 : Int32)), .val (.int x), .val (.int y), .val (.ref b104), .val (.int (1 : Int32))] rfl (hb hby d20_27) 29 rfl ?_
      refine g_iloadN X122 hx rfl (hb hby d20_29) 30 rfl ?_
      refine g_iconst X122 hx (2 : Int32) rfl (hb hby d20_30) 31 rfl ?_
      refine g_icmp_ne X122 hx (hb hby d20_31) 44 34 (by decide) rfl rfl (fun q134 => ?_) (fun q134 => ?_)
      · exact absurd rfl q134
      · refine g_aload X122 hx rfl rfl (hb hby d20_34) 36 rfl ?_
        refine g_iload X122 hx rfl (hb hby d20_36) 38 rfl ?_
        refine g_iloadN X122 hx rfl (hb hby d20_38) 39 rfl ?_
        refine g_callS X122 hx hZ hown (wd hw 120 rfl) (wd hw 121 rfl) (wd hw 2 rfl) (wd hw 122 rfl) (by decide) e125 [(.ref b104), (.int (1 : Int32)), (.int y)] [] rfl (co22_1m l Z a0 hw b104 y (.int (byt x)) (.int (0 : Int32)) (.int (0 : Int32)) (.int (0 : Int32)) h124 n0 szh132 sz113 A128 h_y s_y) (lenOf pd_12 rfl) 0 (Nat.le_of_eq rfl) (by decide) (by decide) (by decide) (by decide) (by rw [hml]; rfl) (hb hby d20_39) 42 rfl (fun r135 T136 L137 X138 Q139 => ?_)
        obtain ⟨h140, e141⟩ : ∃ h, T136.heap = h := ⟨_, rfl⟩
        rw [e141] at Q139
        obtain ⟨rfl, n142, K143, A144⟩ := Q139
        have N145 := Fr.app N129 n142
        have F146 := F130.keep K143 (ninS ne111 nin0)
        have F147 := F131.keep K143
        have szh148 : n0 ≤ h140.size := Nat.le_trans szh132 K143.1
        have K149 := K133.trans K143 (allS (Or.inr szk115) all0)
        show Go p_ e_ below _ T136 (mkF m_ 42 #[.val (.ref g), .val (.int (2 : Int32)), .val (.int x), .val (.int y), .val (.ref b104), .val (.int (1 : Int32))] [(.int (3 : Int32))])
        refine g_istore X138 hx #[.val (.ref g), .val (.int (2 : Int32)), .val (.int x), .val (.int y), .val (.ref b104), .val (.int (3 : Int32))] rfl (hb hby d20_42) 44 rfl ?_
        refine g_aloadN X138 hx rfl rfl (hb hby d20_44) 45 rfl ?_
        refine g_arraylength X138 hx hZ e141 F146 (3 : Int32) rfl (hb hby d20_45) 46 rfl ?_
        refine g_iload X138 hx rfl (hb hby d20_46) 48 rfl ?_
        refine g_icmp_eq X138 hx (hb hby d20_48) 53 51 (by decide) rfl rfl (fun q150 => ?_) (fun q150 => ?_)
        · refine g_iload X138 hx rfl (hb hby d20_53) 55 rfl ?_
          refine g_iconst X138 hx (1 : Int32) rfl (hb hby d20_55) 56 rfl ?_
          refine g_icmp_lt X138 hx (hb hby d20_56) 69 59 (by decide) rfl rfl (fun q151 => ?_) (fun q151 => ?_)
          · exact absurd q151 (by decide)
          · refine g_aloadN X138 hx rfl rfl (hb hby d20_59) 60 rfl ?_
            refine g_iconst X138 hx (0 : Int32) rfl (hb hby d20_60) 61 rfl ?_
            refine g_baload X138 hx hZ e141 F146 (by decide) rfl (hb hby d20_61) 62 rfl ?_
            show Go p_ e_ below _ T136 (mkF m_ 62 #[.val (.ref g), .val (.int (2 : Int32)), .val (.int x), .val (.int y), .val (.ref b104), .val (.int (3 : Int32))] [(.int (byt x))])
            refine g_aload X138 hx rfl rfl (hb hby d20_62) 64 rfl ?_
            refine g_iconst X138 hx (0 : Int32) rfl (hb hby d20_64) 65 rfl ?_
            refine g_baload X138 hx hZ e141 A144 (by decide) rfl (hb hby d20_65) 66 rfl ?_
            show Go p_ e_ below _ T136 (mkF m_ 66 #[.val (.ref g), .val (.int (2 : Int32)), .val (.int x), .val (.int y), .val (.ref b104), .val (.int (3 : Int32))] [(.int (byt x)), (.int (byt x))])
            refine g_icmp_ne X138 hx (hb hby d20_66) 121 69 (by decide) rfl rfl (fun q152 => ?_) (fun q152 => ?_)
            · exact absurd rfl q152
            · refine g_iload X138 hx rfl (hb hby d20_69) 71 rfl ?_
              refine g_iconst X138 hx (2 : Int32) rfl (hb hby d20_71) 72 rfl ?_
              refine g_icmp_lt X138 hx (hb hby d20_72) 85 75 (by decide) rfl rfl (fun q153 => ?_) (fun q153 => ?_)
              · exact absurd q153 (by decide)
              · refine g_aloadN X138 hx rfl rfl (hb hby d20_75) 76 rfl ?_
                refine g_iconst X138 hx (1 : Int32) rfl (hb hby d20_76) 77 rfl ?_
                refine g_baload X138 hx hZ e141 F146 (by decide) rfl (hb hby d20_77) 78 rfl ?_
                show Go p_ e_ below _ T136 (mkF m_ 78 #[.val (.ref g), .val (.int (2 : Int32)), .val (.int x), .val (.int y), .val (.ref b104), .val (.int (3 : Int32))] [(.int (hi0 y))])
                refine g_aload X138 hx rfl rfl (hb hby d20_78) 80 rfl ?_
                refine g_iconst X138 hx (1 : Int32) rfl (hb hby d20_80) 81 rfl ?_
                refine g_baload X138 hx hZ e141 A144 (by decide) rfl (hb hby d20_81) 82 rfl ?_
                show Go p_ e_ below _ T136 (mkF m_ 82 #[.val (.ref g), .val (.int (2 : Int32)), .val (.int x), .val (.int y), .val (.ref b104), .val (.int (3 : Int32))] [(.int (hi0 y)), (.int (hi0 y))])
                refine g_icmp_ne X138 hx (hb hby d20_82) 121 85 (by decide) rfl rfl (fun q154 => ?_) (fun q154 => ?_)
                · exact absurd rfl q154
                · refine g_iload X138 hx rfl (hb hby d20_85) 87 rfl ?_
                  refine g_iconst X138 hx (3 : Int32) rfl (hb hby d20_87) 88 rfl ?_
                  refine g_icmp_lt X138 hx (hb hby d20_88) 101 91 (by decide) rfl rfl (fun q155 => ?_) (fun q155 => ?_)
                  · exact absurd q155 (by decide)
                  · refine g_aloadN X138 hx rfl rfl (hb hby d20_91) 92 rfl ?_
                    refine g_iconst X138 hx (2 : Int32) rfl (hb hby d20_92) 93 rfl ?_
                    refine g_baload X138 hx hZ e141 F146 (by decide) rfl (hb hby d20_93) 94 rfl ?_
                    show Go p_ e_ below _ T136 (mkF m_ 94 #[.val (.ref g), .val (.int (2 : Int32)), .val (.int x), .val (.int y), .val (.ref b104), .val (.int (3 : Int32))] [(.int (hi1 y))])
                    refine g_aload X138 hx rfl rfl (hb hby d20_94) 96 rfl ?_
                    refine g_iconst X138 hx (2 : Int32) rfl (hb hby d20_96) 97 rfl ?_
                    refine g_baload X138 hx hZ e141 A144 (by decide) rfl (hb hby d20_97) 98 rfl ?_
                    show Go p_ e_ below _ T136 (mkF m_ 98 #[.val (.ref g), .val (.int (2 : Int32)), .val (.int x), .val (.int y), .val (.ref b104), .val (.int (3 : Int32))] [(.int (hi1 y)), (.int (hi1 y))])
                    refine g_icmp_ne X138 hx (hb hby d20_98) 121 101 (by decide) rfl rfl (fun q156 => ?_) (fun q156 => ?_)
                    · exact absurd rfl q156
                    · refine g_iload X138 hx rfl (hb hby d20_101) 103 rfl ?_
                      refine g_iconst X138 hx (4 : Int32) rfl (hb hby d20_103) 104 rfl ?_
                      refine g_icmp_lt X138 hx (hb hby d20_104) 117 107 (by decide) rfl rfl (fun q157 => ?_) (fun q157 => ?_)
                      · refine g_iconst X138 hx (1 : Int32) rfl (hb hby d20_117) 118 rfl ?_
                        refine g_goto X138 hx (hb hby d20_118) 122 (by decide) rfl ?_
                        exact g_retz X138 hx hret hlk (by decide) (by decide) (hb hby d20_122) (by rw [e141]; exact ⟨rfl, N145, K149⟩)
                      · exact absurd q157 (by decide)
        · exact absurd rfl q150
  · exact (by cases q101)
def Q20_mp (Z : State) (g : Addr) (x : Int32) (y : Int32) (h0 : Heap) (n0 : Nat) (v : Option Value) (h : Heap) (L : List Loc) : Prop := v = some (.int (1 : Int32)) ∧ Fr n0 L ∧ Keep h0 h []
theorem ef20_mp (m_ : MethodId) (g : Addr) (x : Int32) (y : Int32)  : entryFrame m_ #[(.ref g), (.int (2 : Int32)), (.int x), (.int y)] 6 = mkF m_ 0 #[.val (.ref g), .val (.int (2 : Int32)), .val (.int x), .val (.int y), .unset, .unset] [] := by first | (simp [entryFrame, mkF, argsToLocals, Value.category]; done) | rfl
set_option maxRecDepth 65536 in
set_option maxHeartbeats 40000000 in
theorem co20_mp (l : Launch) (Z : State) (a0 : Array Value) (hw : ∀ d ∈ tables_1, d.before a0 Z = true) (g : Addr) (x : Int32) (y : Int32) (h0 : Heap) (n0 : Nat) (Z0 : n0 ≤ h0.size)   (A_g : AV Z h0 g .byte [(.int (hi0 x)), (.int (hi1 x)), (.int (byt y))]) (h_x : Ch x) (h_y : Ch y) (s_x : ¬ x < (128 : Int32)) (s_y : y < (128 : Int32)) : Co l (⟨"com/example/bindwick/bindwick/AttributeGetValueByteArraysPinLaw", "same", "([BICC)Z"⟩ : MethodName) method_7_code 6 (some .boolean) [] ({ frames := 1, cells := 1, slots := 4, locals := 14 } : Room) Z h0 #[(.ref g), (.int (2 : Int32)), (.int x), (.int y)] (Q20_mp Z g x y h0 n0) := by
  refine Co.of (plainFor_of_name pn_6) ?_
  intro p_ e_ s_ m_ below meth c_ T0 X0 hx hby hml hown hnm hret hlk hZ eq0
  have N0 := Fr.nil n0
  refine Go.cast (ef20_mp m_ g x y ) ?_
  refine g_aloadN X0 hx rfl rfl (hb hby d20_0) 1 rfl ?_
  refine g_ifnonnull X0 hx rfl (hb hby d20_1) 6 4 (by decide) rfl rfl (fun q101 => ?_) (fun q101 => ?_)
  · refine g_iconst X0 hx (4 : Int32) rfl (hb hby d20_6) 7 rfl ?_
    refine g_newarrayE X0 hx hZ (aty := .byte) (wd hw 19 rfl) eq0 (by decide) 4 (by decide) (by decide) (by decide) (by decide) [(.int (0 : Int32)), (.int (0 : Int32)), (.int (0 : Int32)), (.int (0 : Int32))] rfl own_bn (hb hby d20_7) 9 rfl (fun T102 h103 b104 X105 e106 g107 E108 A109 E110 => ?_)
    have ne111 : g ≠ b104 := Nat.ne_of_lt (Nat.lt_of_lt_of_eq A_g.lt g107.symm)
    have F112 := A_g.ext E108
    have sz113 : n0 ≤ b104 := Nat.le_trans Z0 (Nat.le_of_eq g107.symm)
    have szh114 : n0 ≤ h103.size := Nat.le_trans Z0 E108.1
    have szk115 : h0.size ≤ b104 := Nat.le_trans (Keep.refl h0 []).1 (Nat.le_of_eq g107.symm)
    have K116 := (Keep.refl h0 []).ext E108
    have A117 : AV Z h103 b104 .byte [(.int (0 : Int32)), (.int (0 : Int32)), (.int (0 : Int32)), (.int (0 : Int32))] := A109
    show Go p_ e_ below _ T102 (mkF m_ 9 #[.val (.ref g), .val (.int (2 : Int32)), .val (.int x), .val (.int y), .unset, .unset] [(.ref b104)])
    refine g_astore X105 hx #[.val (.ref g), .val (.int (2 : Int32)), .val (.int x), .val (.int y), .val (.ref b104), .unset] rfl rfl (hb hby d20_9) 11 rfl ?_
    refine g_iconst X105 hx (0 : Int32) rfl (hb hby d20_11) 12 rfl ?_
    refine g_istore X105 hx #[.val (.ref g), .val (.int (2 : Int32)), .val (.int x), .val (.int y), .val (.ref b104), .val (.int (0 : Int32))] rfl (hb hby d20_12) 14 rfl ?_
    refine g_iloadN X105 hx rfl (hb hby d20_14) 15 rfl ?_
    refine g_iconst X105 hx (1 : Int32) rfl (hb hby d20_15) 16 rfl ?_
    refine g_icmp_lt X105 hx (hb hby d20_16) 29 19 (by decide) rfl rfl (fun q118 => ?_) (fun q118 => ?_)
    · exact absurd q118 (by decide)
    · refine g_aload X105 hx rfl rfl (hb hby d20_19) 21 rfl ?_
      refine g_iload X105 hx rfl (hb hby d20_21) 23 rfl ?_
      refine g_iloadN X105 hx rfl (hb hby d20_23) 24 rfl ?_
      refine g_callS X105 hx hZ hown (wd hw 120 rfl) (wd hw 121 rfl) (wd hw 2 rfl) (wd hw 122 rfl) (by decide) e106 [(.ref b104), (.int (0 : Int32)), (.int x)] [] rfl (co22_0m l Z a0 hw b104 x (.int (0 : Int32)) (.int (0 : Int32)) (.int (0 : Int32)) (.int (0 : Int32)) h103 n0 szh114 sz113 A117 h_x s_x) (lenOf pd_12 rfl) 0 (Nat.le_of_eq rfl) (by decide) (by decide) (by decide) (by decide) (by rw [hml]; rfl) (hb hby d20_24) 27 rfl (fun r119 T120 L121 X122 Q123 => ?_)
      obtain ⟨h124, e125⟩ : ∃ h, T120.heap = h := ⟨_, rfl⟩
      rw [e125] at Q123
      obtain ⟨rfl, n126, K127, A128⟩ := Q123
      have N129 := Fr.app N0 n126
      have F130 := F112.keep K127 (ninS ne111 nin0)
      have F131 := E110.keep K127
      have szh132 : n0 ≤ h124.size := Nat.le_trans szh114 K127.1
      have K133 := K116.trans K127 (allS (Or.inr szk115) all0)
      show Go p_ e_ below _ T120 (mkF m_ 27 #[.val (.ref g), .val (.int (2 : Int32)), .val (.int x), .val (.int y), .val (.ref b104), .val (.int (0 : Int32))] [(.int (2 : Int32))])
      refine g_istore X122 hx #[.val (.ref g), .val (.int (2 : Int32)), .val (.int x), .val (.int y), .val (.ref b104), .val (.int (2 : Int32))] rfl (hb hby d20_27) 29 rfl ?_
      refine g_iloadN X122 hx rfl (hb hby d20_29) 30 rfl ?_
      refine g_iconst X122 hx (2 : Int32) rfl (hb hby d20_30) 31 rfl ?_
      refine g_icmp_ne X122 hx (hb hby d20_31) 44 34 (by decide) rfl rfl (fun q134 => ?_) (fun q134 => ?_)
      · exact absurd rfl q134
      · refine g_aload X122 hx rfl rfl (hb hby d20_34) 36 rfl ?_
        refine g_iload X122 hx rfl (hb hby d20_36) 38 rfl ?_
        refine g_iloadN X122 hx rfl (hb hby d20_38) 39 rfl ?_
        refine g_callS X122 hx hZ hown (wd hw 120 rfl) (wd hw 121 rfl) (wd hw 2 rfl) (wd hw 122 rfl) (by decide) e125 [(.ref b104), (.int (2 : Int32)), (.int y)] [] rfl (co22_2p l Z a0 hw b104 y (.int (hi0 x)) (.int (hi1 x)) (.int (0 : Int32)) (.int (0 : Int32)) h124 n0 szh132 sz113 A128 h_y s_y) (lenOf pd_12 rfl) 0 (Nat.le_of_eq rfl) (by decide) (by decide) (by decide) (by decide) (by rw [hml]; rfl) (hb hby d20_39) 42 rfl (fun r135 T136 L137 X138 Q139 => ?_)
        obtain ⟨h140, e141⟩ : ∃ h, T136.heap = h := ⟨_, rfl⟩
        rw [e141] at Q139
        obtain ⟨rfl, n142, K143, A144⟩ := Q139
        have N145 := Fr.app N129 n142
        have F146 := F130.keep K143 (ninS ne111 nin0)
        have F147 := F131.keep K143
        have szh148 : n0 ≤ h140.size := Nat.le_trans szh132 K143.1
        have K149 := K133.trans K143 (allS (Or.inr szk115) all0)
        show Go p_ e_ below _ T136 (mkF m_ 42 #[.val (.ref g), .val (.int (2 : Int32)), .val (.int x), .val (.int y), .val (.ref b104), .val (.int (2 : Int32))] [(.int (3 : Int32))])
        refine g_istore X138 hx #[.val (.ref g), .val (.int (2 : Int32)), .val (.int x), .val (.int y), .val (.ref b104), .val (.int (3 : Int32))] rfl (hb hby d20_42) 44 rfl ?_
        refine g_aloadN X138 hx rfl rfl (hb hby d20_44) 45 rfl ?_
        refine g_arraylength X138 hx hZ e141 F146 (3 : Int32) rfl (hb hby d20_45) 46 rfl ?_
        refine g_iload X138 hx rfl (hb hby d20_46) 48 rfl ?_
        refine g_icmp_eq X138 hx (hb hby d20_48) 53 51 (by decide) rfl rfl (fun q150 => ?_) (fun q150 => ?_)
        · refine g_iload X138 hx rfl (hb hby d20_53) 55 rfl ?_
          refine g_iconst X138 hx (1 : Int32) rfl (hb hby d20_55) 56 rfl ?_
          refine g_icmp_lt X138 hx (hb hby d20_56) 69 59 (by decide) rfl rfl (fun q151 => ?_) (fun q151 => ?_)
          · exact absurd q151 (by decide)
          · refine g_aloadN X138 hx rfl rfl (hb hby d20_59) 60 rfl ?_
            refine g_iconst X138 hx (0 : Int32) rfl (hb hby d20_60) 61 rfl ?_
            refine g_baload X138 hx hZ e141 F146 (by decide) rfl (hb hby d20_61) 62 rfl ?_
            show Go p_ e_ below _ T136 (mkF m_ 62 #[.val (.ref g), .val (.int (2 : Int32)), .val (.int x), .val (.int y), .val (.ref b104), .val (.int (3 : Int32))] [(.int (hi0 x))])
            refine g_aload X138 hx rfl rfl (hb hby d20_62) 64 rfl ?_
            refine g_iconst X138 hx (0 : Int32) rfl (hb hby d20_64) 65 rfl ?_
            refine g_baload X138 hx hZ e141 A144 (by decide) rfl (hb hby d20_65) 66 rfl ?_
            show Go p_ e_ below _ T136 (mkF m_ 66 #[.val (.ref g), .val (.int (2 : Int32)), .val (.int x), .val (.int y), .val (.ref b104), .val (.int (3 : Int32))] [(.int (hi0 x)), (.int (hi0 x))])
            refine g_icmp_ne X138 hx (hb hby d20_66) 121 69 (by decide) rfl rfl (fun q152 => ?_) (fun q152 => ?_)
            · exact absurd rfl q152
            · refine g_iload X138 hx rfl (hb hby d20_69) 71 rfl ?_
              refine g_iconst X138 hx (2 : Int32) rfl (hb hby d20_71) 72 rfl ?_
              refine g_icmp_lt X138 hx (hb hby d20_72) 85 75 (by decide) rfl rfl (fun q153 => ?_) (fun q153 => ?_)
              · exact absurd q153 (by decide)
              · refine g_aloadN X138 hx rfl rfl (hb hby d20_75) 76 rfl ?_
                refine g_iconst X138 hx (1 : Int32) rfl (hb hby d20_76) 77 rfl ?_
                refine g_baload X138 hx hZ e141 F146 (by decide) rfl (hb hby d20_77) 78 rfl ?_
                show Go p_ e_ below _ T136 (mkF m_ 78 #[.val (.ref g), .val (.int (2 : Int32)), .val (.int x), .val (.int y), .val (.ref b104), .val (.int (3 : Int32))] [(.int (hi1 x))])
                refine g_aload X138 hx rfl rfl (hb hby d20_78) 80 rfl ?_
                refine g_iconst X138 hx (1 : Int32) rfl (hb hby d20_80) 81 rfl ?_
                refine g_baload X138 hx hZ e141 A144 (by decide) rfl (hb hby d20_81) 82 rfl ?_
                show Go p_ e_ below _ T136 (mkF m_ 82 #[.val (.ref g), .val (.int (2 : Int32)), .val (.int x), .val (.int y), .val (.ref b104), .val (.int (3 : Int32))] [(.int (hi1 x)), (.int (hi1 x))])
                refine g_icmp_ne X138 hx (hb hby d20_82) 121 85 (by decide) rfl rfl (fun q154 => ?_) (fun q154 => ?_)
                · exact absurd rfl q154
                · refine g_iload X138 hx rfl (hb hby d20_85) 87 rfl ?_
                  refine g_iconst X138 hx (3 : Int32) rfl (hb hby d20_87) 88 rfl ?_
                  refine g_icmp_lt X138 hx (hb hby d20_88) 101 91 (by decide) rfl rfl (fun q155 => ?_) (fun q155 => ?_)
                  · exact absurd q155 (by decide)
                  · refine g_aloadN X138 hx rfl rfl (hb hby d20_91) 92 rfl ?_
                    refine g_iconst X138 hx (2 : Int32) rfl (hb hby d20_92) 93 rfl ?_
                    refine g_baload X138 hx hZ e141 F146 (by decide) rfl (hb hby d20_93) 94 rfl ?_
                    show Go p_ e_ below _ T136 (mkF m_ 94 #[.val (.ref g), .val (.int (2 : Int32)), .val (.int x), .val (.int y), .val (.ref b104), .val (.int (3 : Int32))] [(.int (byt y))])
                    refine g_aload X138 hx rfl rfl (hb hby d20_94) 96 rfl ?_
                    refine g_iconst X138 hx (2 : Int32) rfl (hb hby d20_96) 97 rfl ?_
                    refine g_baload X138 hx hZ e141 A144 (by decide) rfl (hb hby d20_97) 98 rfl ?_
                    show Go p_ e_ below _ T136 (mkF m_ 98 #[.val (.ref g), .val (.int (2 : Int32)), .val (.int x), .val (.int y), .val (.ref b104), .val (.int (3 : Int32))] [(.int (byt y)), (.int (byt y))])
                    refine g_icmp_ne X138 hx (hb hby d20_98) 121 101 (by decide) rfl rfl (fun q156 => ?_) (fun q156 => ?_)
                    · exact absurd rfl q156
                    · refine g_iload X138 hx rfl (hb hby d20_101) 103 rfl ?_
                      refine g_iconst X138 hx (4 : Int32) rfl (hb hby d20_103) 104 rfl ?_
                      refine g_icmp_lt X138 hx (hb hby d20_104) 117 107 (by decide) rfl rfl (fun q157 => ?_) (fun q157 => ?_)
                      · refine g_iconst X138 hx (1 : Int32) rfl (hb hby d20_117) 118 rfl ?_
                        refine g_goto X138 hx (hb hby d20_118) 122 (by decide) rfl ?_
                        exact g_retz X138 hx hret hlk (by decide) (by decide) (hb hby d20_122) (by rw [e141]; exact ⟨rfl, N145, K149⟩)
                      · exact absurd q157 (by decide)
        · exact absurd rfl q150
  · exact (by cases q101)
def Q20_mm (Z : State) (g : Addr) (x : Int32) (y : Int32) (h0 : Heap) (n0 : Nat) (v : Option Value) (h : Heap) (L : List Loc) : Prop := v = some (.int (1 : Int32)) ∧ Fr n0 L ∧ Keep h0 h []
theorem ef20_mm (m_ : MethodId) (g : Addr) (x : Int32) (y : Int32)  : entryFrame m_ #[(.ref g), (.int (2 : Int32)), (.int x), (.int y)] 6 = mkF m_ 0 #[.val (.ref g), .val (.int (2 : Int32)), .val (.int x), .val (.int y), .unset, .unset] [] := by first | (simp [entryFrame, mkF, argsToLocals, Value.category]; done) | rfl
theorem d20_107 : decode method_7_code 107 = .ok (.aload_n 0, 1) := by decide +kernel
theorem d20_108 : decode method_7_code 108 = .ok (.iconst 3, 1) := by decide +kernel
theorem d20_109 : decode method_7_code 109 = .ok (.baload, 1) := by decide +kernel
theorem d20_110 : decode method_7_code 110 = .ok (.aload 4, 2) := by decide +kernel
theorem d20_112 : decode method_7_code 112 = .ok (.iconst 3, 1) := by decide +kernel
theorem d20_113 : decode method_7_code 113 = .ok (.baload, 1) := by decide +kernel
theorem d20_114 : decode method_7_code 114 = .ok (.if_icmp .ne 7, 3) := by decide +kernel
set_option maxRecDepth 65536 in
set_option maxHeartbeats 40000000 in
theorem co20_mm (l : Launch) (Z : State) (a0 : Array Value) (hw : ∀ d ∈ tables_1, d.before a0 Z = true) (g : Addr) (x : Int32) (y : Int32) (h0 : Heap) (n0 : Nat) (Z0 : n0 ≤ h0.size)   (A_g : AV Z h0 g .byte [(.int (hi0 x)), (.int (hi1 x)), (.int (hi0 y)), (.int (hi1 y))]) (h_x : Ch x) (h_y : Ch y) (s_x : ¬ x < (128 : Int32)) (s_y : ¬ y < (128 : Int32)) : Co l (⟨"com/example/bindwick/bindwick/AttributeGetValueByteArraysPinLaw", "same", "([BICC)Z"⟩ : MethodName) method_7_code 6 (some .boolean) [] ({ frames := 1, cells := 1, slots := 4, locals := 14 } : Room) Z h0 #[(.ref g), (.int (2 : Int32)), (.int x), (.int y)] (Q20_mm Z g x y h0 n0) := by
  refine Co.of (plainFor_of_name pn_6) ?_
  intro p_ e_ s_ m_ below meth c_ T0 X0 hx hby hml hown hnm hret hlk hZ eq0
  have N0 := Fr.nil n0
  refine Go.cast (ef20_mm m_ g x y ) ?_
  refine g_aloadN X0 hx rfl rfl (hb hby d20_0) 1 rfl ?_
  refine g_ifnonnull X0 hx rfl (hb hby d20_1) 6 4 (by decide) rfl rfl (fun q101 => ?_) (fun q101 => ?_)
  · refine g_iconst X0 hx (4 : Int32) rfl (hb hby d20_6) 7 rfl ?_
    refine g_newarrayE X0 hx hZ (aty := .byte) (wd hw 19 rfl) eq0 (by decide) 4 (by decide) (by decide) (by decide) (by decide) [(.int (0 : Int32)), (.int (0 : Int32)), (.int (0 : Int32)), (.int (0 : Int32))] rfl own_bn (hb hby d20_7) 9 rfl (fun T102 h103 b104 X105 e106 g107 E108 A109 E110 => ?_)
    have ne111 : g ≠ b104 := Nat.ne_of_lt (Nat.lt_of_lt_of_eq A_g.lt g107.symm)
    have F112 := A_g.ext E108
    have sz113 : n0 ≤ b104 := Nat.le_trans Z0 (Nat.le_of_eq g107.symm)
    have szh114 : n0 ≤ h103.size := Nat.le_trans Z0 E108.1
    have szk115 : h0.size ≤ b104 := Nat.le_trans (Keep.refl h0 []).1 (Nat.le_of_eq g107.symm)
    have K116 := (Keep.refl h0 []).ext E108
    have A117 : AV Z h103 b104 .byte [(.int (0 : Int32)), (.int (0 : Int32)), (.int (0 : Int32)), (.int (0 : Int32))] := A109
    show Go p_ e_ below _ T102 (mkF m_ 9 #[.val (.ref g), .val (.int (2 : Int32)), .val (.int x), .val (.int y), .unset, .unset] [(.ref b104)])
    refine g_astore X105 hx #[.val (.ref g), .val (.int (2 : Int32)), .val (.int x), .val (.int y), .val (.ref b104), .unset] rfl rfl (hb hby d20_9) 11 rfl ?_
    refine g_iconst X105 hx (0 : Int32) rfl (hb hby d20_11) 12 rfl ?_
    refine g_istore X105 hx #[.val (.ref g), .val (.int (2 : Int32)), .val (.int x), .val (.int y), .val (.ref b104), .val (.int (0 : Int32))] rfl (hb hby d20_12) 14 rfl ?_
    refine g_iloadN X105 hx rfl (hb hby d20_14) 15 rfl ?_
    refine g_iconst X105 hx (1 : Int32) rfl (hb hby d20_15) 16 rfl ?_
    refine g_icmp_lt X105 hx (hb hby d20_16) 29 19 (by decide) rfl rfl (fun q118 => ?_) (fun q118 => ?_)
    · exact absurd q118 (by decide)
    · refine g_aload X105 hx rfl rfl (hb hby d20_19) 21 rfl ?_
      refine g_iload X105 hx rfl (hb hby d20_21) 23 rfl ?_
      refine g_iloadN X105 hx rfl (hb hby d20_23) 24 rfl ?_
      refine g_callS X105 hx hZ hown (wd hw 120 rfl) (wd hw 121 rfl) (wd hw 2 rfl) (wd hw 122 rfl) (by decide) e106 [(.ref b104), (.int (0 : Int32)), (.int x)] [] rfl (co22_0m l Z a0 hw b104 x (.int (0 : Int32)) (.int (0 : Int32)) (.int (0 : Int32)) (.int (0 : Int32)) h103 n0 szh114 sz113 A117 h_x s_x) (lenOf pd_12 rfl) 0 (Nat.le_of_eq rfl) (by decide) (by decide) (by decide) (by decide) (by rw [hml]; rfl) (hb hby d20_24) 27 rfl (fun r119 T120 L121 X122 Q123 => ?_)
      obtain ⟨h124, e125⟩ : ∃ h, T120.heap = h := ⟨_, rfl⟩
      rw [e125] at Q123
      obtain ⟨rfl, n126, K127, A128⟩ := Q123
      have N129 := Fr.app N0 n126
      have F130 := F112.keep K127 (ninS ne111 nin0)
      have F131 := E110.keep K127
      have szh132 : n0 ≤ h124.size := Nat.le_trans szh114 K127.1
      have K133 := K116.trans K127 (allS (Or.inr szk115) all0)
      show Go p_ e_ below _ T120 (mkF m_ 27 #[.val (.ref g), .val (.int (2 : Int32)), .val (.int x), .val (.int y), .val (.ref b104), .val (.int (0 : Int32))] [(.int (2 : Int32))])
      refine g_istore X122 hx #[.val (.ref g), .val (.int (2 : Int32)), .val (.int x), .val (.int y), .val (.ref b104), .val (.int (2 : Int32))] rfl (hb hby d20_27) 29 rfl ?_
      refine g_iloadN X122 hx rfl (hb hby d20_29) 30 rfl ?_
      refine g_iconst X122 hx (2 : Int32) rfl (hb hby d20_30) 31 rfl ?_
      refine g_icmp_ne X122 hx (hb hby d20_31) 44 34 (by decide) rfl rfl (fun q134 => ?_) (fun q134 => ?_)
      · exact absurd rfl q134
      · refine g_aload X122 hx rfl rfl (hb hby d20_34) 36 rfl ?_
        refine g_iload X122 hx rfl (hb hby d20_36) 38 rfl ?_
        refine g_iloadN X122 hx rfl (hb hby d20_38) 39 rfl ?_
        refine g_callS X122 hx hZ hown (wd hw 120 rfl) (wd hw 121 rfl) (wd hw 2 rfl) (wd hw 122 rfl) (by decide) e125 [(.ref b104), (.int (2 : Int32)), (.int y)] [] rfl (co22_2m l Z a0 hw b104 y (.int (hi0 x)) (.int (hi1 x)) (.int (0 : Int32)) (.int (0 : Int32)) h124 n0 szh132 sz113 A128 h_y s_y) (lenOf pd_12 rfl) 0 (Nat.le_of_eq rfl) (by decide) (by decide) (by decide) (by decide) (by rw [hml]; rfl) (hb hby d20_39) 42 rfl (fun r135 T136 L137 X138 Q139 => ?_)
        obtain ⟨h140, e141⟩ : ∃ h, T136.heap = h := ⟨_, rfl⟩
        rw [e141] at Q139
        obtain ⟨rfl, n142, K143, A144⟩ := Q139
        have N145 := Fr.app N129 n142
        have F146 := F130.keep K143 (ninS ne111 nin0)
        have F147 := F131.keep K143
        have szh148 : n0 ≤ h140.size := Nat.le_trans szh132 K143.1
        have K149 := K133.trans K143 (allS (Or.inr szk115) all0)
        show Go p_ e_ below _ T136 (mkF m_ 42 #[.val (.ref g), .val (.int (2 : Int32)), .val (.int x), .val (.int y), .val (.ref b104), .val (.int (2 : Int32))] [(.int (4 : Int32))])
        refine g_istore X138 hx #[.val (.ref g), .val (.int (2 : Int32)), .val (.int x), .val (.int y), .val (.ref b104), .val (.int (4 : Int32))] rfl (hb hby d20_42) 44 rfl ?_
        refine g_aloadN X138 hx rfl rfl (hb hby d20_44) 45 rfl ?_
        refine g_arraylength X138 hx hZ e141 F146 (4 : Int32) rfl (hb hby d20_45) 46 rfl ?_
        refine g_iload X138 hx rfl (hb hby d20_46) 48 rfl ?_
        refine g_icmp_eq X138 hx (hb hby d20_48) 53 51 (by decide) rfl rfl (fun q150 => ?_) (fun q150 => ?_)
        · refine g_iload X138 hx rfl (hb hby d20_53) 55 rfl ?_
          refine g_iconst X138 hx (1 : Int32) rfl (hb hby d20_55) 56 rfl ?_
          refine g_icmp_lt X138 hx (hb hby d20_56) 69 59 (by decide) rfl rfl (fun q151 => ?_) (fun q151 => ?_)
          · exact absurd q151 (by decide)
          · refine g_aloadN X138 hx rfl rfl (hb hby d20_59) 60 rfl ?_
            refine g_iconst X138 hx (0 : Int32) rfl (hb hby d20_60) 61 rfl ?_
            refine g_baload X138 hx hZ e141 F146 (by decide) rfl (hb hby d20_61) 62 rfl ?_
            show Go p_ e_ below _ T136 (mkF m_ 62 #[.val (.ref g), .val (.int (2 : Int32)), .val (.int x), .val (.int y), .val (.ref b104), .val (.int (4 : Int32))] [(.int (hi0 x))])
            refine g_aload X138 hx rfl rfl (hb hby d20_62) 64 rfl ?_
            refine g_iconst X138 hx (0 : Int32) rfl (hb hby d20_64) 65 rfl ?_
            refine g_baload X138 hx hZ e141 A144 (by decide) rfl (hb hby d20_65) 66 rfl ?_
            show Go p_ e_ below _ T136 (mkF m_ 66 #[.val (.ref g), .val (.int (2 : Int32)), .val (.int x), .val (.int y), .val (.ref b104), .val (.int (4 : Int32))] [(.int (hi0 x)), (.int (hi0 x))])
            refine g_icmp_ne X138 hx (hb hby d20_66) 121 69 (by decide) rfl rfl (fun q152 => ?_) (fun q152 => ?_)
            · exact absurd rfl q152
            · refine g_iload X138 hx rfl (hb hby d20_69) 71 rfl ?_
              refine g_iconst X138 hx (2 : Int32) rfl (hb hby d20_71) 72 rfl ?_
              refine g_icmp_lt X138 hx (hb hby d20_72) 85 75 (by decide) rfl rfl (fun q153 => ?_) (fun q153 => ?_)
              · exact absurd q153 (by decide)
              · refine g_aloadN X138 hx rfl rfl (hb hby d20_75) 76 rfl ?_
                refine g_iconst X138 hx (1 : Int32) rfl (hb hby d20_76) 77 rfl ?_
                refine g_baload X138 hx hZ e141 F146 (by decide) rfl (hb hby d20_77) 78 rfl ?_
                show Go p_ e_ below _ T136 (mkF m_ 78 #[.val (.ref g), .val (.int (2 : Int32)), .val (.int x), .val (.int y), .val (.ref b104), .val (.int (4 : Int32))] [(.int (hi1 x))])
                refine g_aload X138 hx rfl rfl (hb hby d20_78) 80 rfl ?_
                refine g_iconst X138 hx (1 : Int32) rfl (hb hby d20_80) 81 rfl ?_
                refine g_baload X138 hx hZ e141 A144 (by decide) rfl (hb hby d20_81) 82 rfl ?_
                show Go p_ e_ below _ T136 (mkF m_ 82 #[.val (.ref g), .val (.int (2 : Int32)), .val (.int x), .val (.int y), .val (.ref b104), .val (.int (4 : Int32))] [(.int (hi1 x)), (.int (hi1 x))])
                refine g_icmp_ne X138 hx (hb hby d20_82) 121 85 (by decide) rfl rfl (fun q154 => ?_) (fun q154 => ?_)
                · exact absurd rfl q154
                · refine g_iload X138 hx rfl (hb hby d20_85) 87 rfl ?_
                  refine g_iconst X138 hx (3 : Int32) rfl (hb hby d20_87) 88 rfl ?_
                  refine g_icmp_lt X138 hx (hb hby d20_88) 101 91 (by decide) rfl rfl (fun q155 => ?_) (fun q155 => ?_)
                  · exact absurd q155 (by decide)
                  · refine g_aloadN X138 hx rfl rfl (hb hby d20_91) 92 rfl ?_
                    refine g_iconst X138 hx (2 : Int32) rfl (hb hby d20_92) 93 rfl ?_
                    refine g_baload X138 hx hZ e141 F146 (by decide) rfl (hb hby d20_93) 94 rfl ?_
                    show Go p_ e_ below _ T136 (mkF m_ 94 #[.val (.ref g), .val (.int (2 : Int32)), .val (.int x), .val (.int y), .val (.ref b104), .val (.int (4 : Int32))] [(.int (hi0 y))])
                    refine g_aload X138 hx rfl rfl (hb hby d20_94) 96 rfl ?_
                    refine g_iconst X138 hx (2 : Int32) rfl (hb hby d20_96) 97 rfl ?_
                    refine g_baload X138 hx hZ e141 A144 (by decide) rfl (hb hby d20_97) 98 rfl ?_
                    show Go p_ e_ below _ T136 (mkF m_ 98 #[.val (.ref g), .val (.int (2 : Int32)), .val (.int x), .val (.int y), .val (.ref b104), .val (.int (4 : Int32))] [(.int (hi0 y)), (.int (hi0 y))])
                    refine g_icmp_ne X138 hx (hb hby d20_98) 121 101 (by decide) rfl rfl (fun q156 => ?_) (fun q156 => ?_)
                    · exact absurd rfl q156
                    · refine g_iload X138 hx rfl (hb hby d20_101) 103 rfl ?_
                      refine g_iconst X138 hx (4 : Int32) rfl (hb hby d20_103) 104 rfl ?_
                      refine g_icmp_lt X138 hx (hb hby d20_104) 117 107 (by decide) rfl rfl (fun q157 => ?_) (fun q157 => ?_)
                      · exact absurd q157 (by decide)
                      · refine g_aloadN X138 hx rfl rfl (hb hby d20_107) 108 rfl ?_
                        refine g_iconst X138 hx (3 : Int32) rfl (hb hby d20_108) 109 rfl ?_
                        refine g_baload X138 hx hZ e141 F146 (by decide) rfl (hb hby d20_109) 110 rfl ?_
                        show Go p_ e_ below _ T136 (mkF m_ 110 #[.val (.ref g), .val (.int (2 : Int32)), .val (.int x), .val (.int y), .val (.ref b104), .val (.int (4 : Int32))] [(.int (hi1 y))])
                        refine g_aload X138 hx rfl rfl (hb hby d20_110) 112 rfl ?_
                        refine g_iconst X138 hx (3 : Int32) rfl (hb hby d20_112) 113 rfl ?_
                        refine g_baload X138 hx hZ e141 A144 (by decide) rfl (hb hby d20_113) 114 rfl ?_
                        show Go p_ e_ below _ T136 (mkF m_ 114 #[.val (.ref g), .val (.int (2 : Int32)), .val (.int x), .val (.int y), .val (.ref b104), .val (.int (4 : Int32))] [(.int (hi1 y)), (.int (hi1 y))])
                        refine g_icmp_ne X138 hx (hb hby d20_114) 121 117 (by decide) rfl rfl (fun q158 => ?_) (fun q158 => ?_)
                        · exact absurd rfl q158
                        · refine g_iconst X138 hx (1 : Int32) rfl (hb hby d20_117) 118 rfl ?_
                          refine g_goto X138 hx (hb hby d20_118) 122 (by decide) rfl ?_
                          exact g_retz X138 hx hret hlk (by decide) (by decide) (hb hby d20_122) (by rw [e141]; exact ⟨rfl, N145, K149⟩)
        · exact absurd rfl q150
  · exact (by cases q101)
def QS (h0 : Heap) (n0 : Nat) (v : Option Value) (h : Heap) (L : List Loc) : Prop := v = some (.int (1 : Int32)) ∧ Fr n0 L ∧ Keep h0 h []
theorem coS (l : Launch) (Z : State) (a0 : Array Value) (hw : ∀ d ∈ tables_1, d.before a0 Z = true) (g : Addr) (n x y : Int32) (h0 : Heap) (n0 : Nat) (Z0 : n0 ≤ h0.size) (A_g : AV Z h0 g .byte (enc (lt3 n x y))) (hn : n = 0 ∨ n = 1 ∨ n = 2) (hx : Ch x) (hy : Ch y) : Co l (⟨"com/example/bindwick/bindwick/AttributeGetValueByteArraysPinLaw", "same", "([BICC)Z"⟩ : MethodName) method_7_code 6 (some .boolean) [] ({ frames := 1, cells := 1, slots := 4, locals := 14 } : Room) Z h0 #[.ref g, .int n, .int x, .int y] (QS h0 n0) := by
  rcases hn with rfl | rfl | rfl
  · exact co20_ l Z a0 hw g x y h0 n0 Z0 (A_g.cast (by rw [lt_0 rfl] <;> rfl))
  · have A_g : AV Z h0 g .byte (enc [x]) := A_g.cast (by rw [lt_1 (by decide) rfl])
    by_cases sx : x < (128 : Int32)
    · exact co20_p l Z a0 hw g x y h0 n0 Z0 (A_g.cast (en_p sx)) hx sx
    · exact co20_m l Z a0 hw g x y h0 n0 Z0 (A_g.cast (en_m sx)) hx sx
  · have A_g : AV Z h0 g .byte (enc [x, y]) := A_g.cast (by rw [lt_2 (by decide) (by decide)])
    by_cases sx : x < (128 : Int32)
    · by_cases sy : y < (128 : Int32)
      · exact co20_pp l Z a0 hw g x y h0 n0 Z0 (A_g.cast (en_pp sx sy)) hx hy sx sy
      · exact co20_pm l Z a0 hw g x y h0 n0 Z0 (A_g.cast (en_pm sx sy)) hx hy sx sy
    · by_cases sy : y < (128 : Int32)
      · exact co20_mp l Z a0 hw g x y h0 n0 Z0 (A_g.cast (en_mp sx sy)) hx hy sx sy
      · exact co20_mm l Z a0 hw g x y h0 n0 Z0 (A_g.cast (en_mm sx sy)) hx hy sx sy
def Q9_0 (Z : State) (b : Addr) (p0 : Int32) (x0 : Int32) (y0 : Int32) (p1 : Int32) (x1 : Int32) (y1 : Int32) (h0 : Heap) (n0 : Nat) (v : Option Value) (h : Heap) (L : List Loc) : Prop := v = some (.int (1 : Int32)) ∧ Fr n0 L ∧ Keep h0 h []
theorem ef9_0 (m_ : MethodId) (b : Addr) (p0 : Int32) (x0 : Int32) (y0 : Int32) (p1 : Int32) (x1 : Int32) (y1 : Int32)  : entryFrame m_ #[(.ref b), (.int (0 : Int32)), (.int p0), (.int x0), (.int y0), (.int p1), (.int x1), (.int y1)] 8 = mkF m_ 0 #[.val (.ref b), .val (.int (0 : Int32)), .val (.int p0), .val (.int x0), .val (.int y0), .val (.int p1), .val (.int x1), .val (.int y1)] [] := by first | (simp [entryFrame, mkF, argsToLocals, Value.category]; done) | rfl
theorem d9_0 : decode method_5_code 0 = .ok (.aload_n 0, 1) := by decide +kernel
theorem d9_1 : decode method_5_code 1 = .ok (.ifnull 9, 3) := by decide +kernel
theorem d9_4 : decode method_5_code 4 = .ok (.aload_n 0, 1) := by decide +kernel
theorem d9_5 : decode method_5_code 5 = .ok (.arraylength, 1) := by decide +kernel
theorem d9_6 : decode method_5_code 6 = .ok (.iload_n 1, 1) := by decide +kernel
theorem d9_7 : decode method_5_code 7 = .ok (.if_icmp .eq 5, 3) := by decide +kernel
theorem d9_12 : decode method_5_code 12 = .ok (.iload_n 1, 1) := by decide +kernel
theorem d9_13 : decode method_5_code 13 = .ok (.iconst 1, 1) := by decide +kernel
theorem d9_14 : decode method_5_code 14 = .ok (.if_icmp .lt 18, 3) := by decide +kernel
theorem d9_32 : decode method_5_code 32 = .ok (.iload_n 1, 1) := by decide +kernel
theorem d9_33 : decode method_5_code 33 = .ok (.iconst 2, 1) := by decide +kernel
theorem d9_34 : decode method_5_code 34 = .ok (.if_icmp .ne 20, 3) := by decide +kernel
theorem d9_54 : decode method_5_code 54 = .ok (.iconst 1, 1) := by decide +kernel
theorem d9_55 : decode method_5_code 55 = .ok (.ireturn, 1) := by decide +kernel
set_option maxRecDepth 65536 in
set_option maxHeartbeats 40000000 in
theorem co9_0 (l : Launch) (Z : State) (a0 : Array Value) (hw : ∀ d ∈ tables_1, d.before a0 Z = true) (b : Addr) (p0 : Int32) (x0 : Int32) (y0 : Int32) (p1 : Int32) (x1 : Int32) (y1 : Int32) (h0 : Heap) (n0 : Nat) (Z0 : n0 ≤ h0.size)   (A_b : AV Z h0 b (.array .byte) []) : Co l (⟨"com/example/bindwick/bindwick/AttributeGetValueByteArraysPinLaw", "all", "([[BIICCICC)Z"⟩ : MethodName) method_5_code 8 (some .boolean) [] ({ frames := 2, cells := 2, slots := 8, locals := 31 } : Room) Z h0 #[(.ref b), (.int (0 : Int32)), (.int p0), (.int x0), (.int y0), (.int p1), (.int x1), (.int y1)] (Q9_0 Z b p0 x0 y0 p1 x1 y1 h0 n0) := by
  refine Co.of (plainFor_of_name pn_6) ?_
  intro p_ e_ s_ m_ below meth c_ T0 X0 hx hby hml hown hnm hret hlk hZ eq0
  have N0 := Fr.nil n0
  refine Go.cast (ef9_0 m_ b p0 x0 y0 p1 x1 y1 ) ?_
  refine g_aloadN X0 hx rfl rfl (hb hby d9_0) 1 rfl ?_
  refine g_ifnull X0 hx rfl (hb hby d9_1) 10 4 (by decide) rfl rfl (fun q101 => ?_) (fun q101 => ?_)
  · exact (by cases q101)
  · refine g_aloadN X0 hx rfl rfl (hb hby d9_4) 5 rfl ?_
    refine g_arraylength X0 hx hZ eq0 A_b (0 : Int32) rfl (hb hby d9_5) 6 rfl ?_
    refine g_iloadN X0 hx rfl (hb hby d9_6) 7 rfl ?_
    refine g_icmp_eq X0 hx (hb hby d9_7) 12 10 (by decide) rfl rfl (fun q102 => ?_) (fun q102 => ?_)
    · refine g_iloadN X0 hx rfl (hb hby d9_12) 13 rfl ?_
      refine g_iconst X0 hx (1 : Int32) rfl (hb hby d9_13) 14 rfl ?_
      refine g_icmp_lt X0 hx (hb hby d9_14) 32 17 (by decide) rfl rfl (fun q103 => ?_) (fun q103 => ?_)
      · refine g_iloadN X0 hx rfl (hb hby d9_32) 33 rfl ?_
        refine g_iconst X0 hx (2 : Int32) rfl (hb hby d9_33) 34 rfl ?_
        refine g_icmp_ne X0 hx (hb hby d9_34) 54 37 (by decide) rfl rfl (fun q104 => ?_) (fun q104 => ?_)
        · refine g_iconst X0 hx (1 : Int32) rfl (hb hby d9_54) 55 rfl ?_
          exact g_retz X0 hx hret hlk (by decide) (by decide) (hb hby d9_55) (by rw [eq0]; exact ⟨rfl, N0, (Keep.refl h0 [])⟩)
        · exact absurd q104 (by decide)
      · exact absurd q103 (by decide)
    · exact absurd rfl q102
def Q9_1 (Z : State) (b : Addr) (p0 : Int32) (x0 : Int32) (y0 : Int32) (p1 : Int32) (x1 : Int32) (y1 : Int32) (f0 : Addr) (h0 : Heap) (n0 : Nat) (v : Option Value) (h : Heap) (L : List Loc) : Prop := v = some (.int (1 : Int32)) ∧ Fr n0 L ∧ Keep h0 h []
theorem ef9_1 (m_ : MethodId) (b : Addr) (p0 : Int32) (x0 : Int32) (y0 : Int32) (p1 : Int32) (x1 : Int32) (y1 : Int32)  : entryFrame m_ #[(.ref b), (.int (1 : Int32)), (.int p0), (.int x0), (.int y0), (.int p1), (.int x1), (.int y1)] 8 = mkF m_ 0 #[.val (.ref b), .val (.int (1 : Int32)), .val (.int p0), .val (.int x0), .val (.int y0), .val (.int p1), .val (.int x1), .val (.int y1)] [] := by first | (simp [entryFrame, mkF, argsToLocals, Value.category]; done) | rfl
theorem d9_17 : decode method_5_code 17 = .ok (.aload_n 0, 1) := by decide +kernel
theorem d9_18 : decode method_5_code 18 = .ok (.iconst 0, 1) := by decide +kernel
theorem d9_19 : decode method_5_code 19 = .ok (.aaload, 1) := by decide +kernel
theorem d9_20 : decode method_5_code 20 = .ok (.iload_n 2, 1) := by decide +kernel
theorem d9_21 : decode method_5_code 21 = .ok (.iload_n 3, 1) := by decide +kernel
theorem d9_22 : decode method_5_code 22 = .ok (.iload 4, 2) := by decide +kernel
theorem pd_13 : parseMethodDescriptor "([BICC)Z" = some ⟨[(.array .byte), .int, .char, .char], some .boolean⟩ := by decide +kernel
theorem d9_24 : decode method_5_code 24 = .ok (.invokestatic 37, 3) := by decide +kernel
theorem d9_27 : decode method_5_code 27 = .ok (.ifCond .ne 5, 3) := by decide +kernel
set_option maxRecDepth 65536 in
set_option maxHeartbeats 40000000 in
theorem co9_1 (l : Launch) (Z : State) (a0 : Array Value) (hw : ∀ d ∈ tables_1, d.before a0 Z = true) (b : Addr) (p0 : Int32) (x0 : Int32) (y0 : Int32) (p1 : Int32) (x1 : Int32) (y1 : Int32) (f0 : Addr) (h0 : Heap) (n0 : Nat) (Z0 : n0 ≤ h0.size)   (A_b : AV Z h0 b (.array .byte) [(.ref f0)]) (A_0 : AV Z h0 f0 .byte (enc (lt3 p0 x0 y0))) (hp0 : p0 = 0 ∨ p0 = 1 ∨ p0 = 2) (hx0 : Ch x0) (hy0 : Ch y0) : Co l (⟨"com/example/bindwick/bindwick/AttributeGetValueByteArraysPinLaw", "all", "([[BIICCICC)Z"⟩ : MethodName) method_5_code 8 (some .boolean) [] ({ frames := 2, cells := 2, slots := 8, locals := 31 } : Room) Z h0 #[(.ref b), (.int (1 : Int32)), (.int p0), (.int x0), (.int y0), (.int p1), (.int x1), (.int y1)] (Q9_1 Z b p0 x0 y0 p1 x1 y1 f0 h0 n0) := by
  refine Co.of (plainFor_of_name pn_6) ?_
  intro p_ e_ s_ m_ below meth c_ T0 X0 hx hby hml hown hnm hret hlk hZ eq0
  have N0 := Fr.nil n0
  refine Go.cast (ef9_1 m_ b p0 x0 y0 p1 x1 y1 ) ?_
  refine g_aloadN X0 hx rfl rfl (hb hby d9_0) 1 rfl ?_
  refine g_ifnull X0 hx rfl (hb hby d9_1) 10 4 (by decide) rfl rfl (fun q101 => ?_) (fun q101 => ?_)
  · exact (by cases q101)
  · refine g_aloadN X0 hx rfl rfl (hb hby d9_4) 5 rfl ?_
    refine g_arraylength X0 hx hZ eq0 A_b (1 : Int32) rfl (hb hby d9_5) 6 rfl ?_
    refine g_iloadN X0 hx rfl (hb hby d9_6) 7 rfl ?_
    refine g_icmp_eq X0 hx (hb hby d9_7) 12 10 (by decide) rfl rfl (fun q102 => ?_) (fun q102 => ?_)
    · refine g_iloadN X0 hx rfl (hb hby d9_12) 13 rfl ?_
      refine g_iconst X0 hx (1 : Int32) rfl (hb hby d9_13) 14 rfl ?_
      refine g_icmp_lt X0 hx (hb hby d9_14) 32 17 (by decide) rfl rfl (fun q103 => ?_) (fun q103 => ?_)
      · exact absurd q103 (by decide)
      · refine g_aloadN X0 hx rfl rfl (hb hby d9_17) 18 rfl ?_
        refine g_iconst X0 hx (0 : Int32) rfl (hb hby d9_18) 19 rfl ?_
        refine g_aaload X0 hx hZ eq0 A_b rfl (by decide) rfl (hb hby d9_19) 20 rfl ?_
        show Go p_ e_ below _ T0 (mkF m_ 20 #[.val (.ref b), .val (.int (1 : Int32)), .val (.int p0), .val (.int x0), .val (.int y0), .val (.int p1), .val (.int x1), .val (.int y1)] [(.ref f0)])
        refine g_iloadN X0 hx rfl (hb hby d9_20) 21 rfl ?_
        refine g_iloadN X0 hx rfl (hb hby d9_21) 22 rfl ?_
        refine g_iload X0 hx rfl (hb hby d9_22) 24 rfl ?_
        refine g_callS X0 hx hZ hown (wd hw 114 rfl) (wd hw 115 rfl) (wd hw 2 rfl) (wd hw 116 rfl) (by decide) eq0 [(.ref f0), (.int p0), (.int x0), (.int y0)] [] rfl (coS l Z a0 hw f0 p0 x0 y0 h0 n0 Z0 A_0 hp0 hx0 hy0) (lenOf pd_13 rfl) 0 (Nat.le_of_eq rfl) (by decide) (by decide) (by decide) (by decide) (by rw [hml]; rfl) (hb hby d9_24) 27 rfl (fun r104 T105 L106 X107 Q108 => ?_)
        unfold QS at Q108
        obtain ⟨h109, e110⟩ : ∃ h, T105.heap = h := ⟨_, rfl⟩
        rw [e110] at Q108
        obtain ⟨rfl, n111, K112⟩ := Q108
        have N113 := Fr.app N0 n111
        have F114 := A_b.keep K112 nin0
        have F115 := A_0.keep K112 nin0
        have szh116 : n0 ≤ h109.size := Nat.le_trans Z0 K112.1
        have K117 := (Keep.refl h0 []).trans K112 all0
        show Go p_ e_ below _ T105 (mkF m_ 27 #[.val (.ref b), .val (.int (1 : Int32)), .val (.int p0), .val (.int x0), .val (.int y0), .val (.int p1), .val (.int x1), .val (.int y1)] [(.int (1 : Int32))])
        refine g_if_ne X107 hx (hb hby d9_27) 32 30 (by decide) rfl rfl (fun q118 => ?_) (fun q118 => ?_)
        · refine g_iloadN X107 hx rfl (hb hby d9_32) 33 rfl ?_
          refine g_iconst X107 hx (2 : Int32) rfl (hb hby d9_33) 34 rfl ?_
          refine g_icmp_ne X107 hx (hb hby d9_34) 54 37 (by decide) rfl rfl (fun q119 => ?_) (fun q119 => ?_)
          · refine g_iconst X107 hx (1 : Int32) rfl (hb hby d9_54) 55 rfl ?_
            exact g_retz X107 hx hret hlk (by decide) (by decide) (hb hby d9_55) (by rw [e110]; exact ⟨rfl, N113, K117⟩)
          · exact absurd q119 (by decide)
        · exact absurd q118 (by decide)
    · exact absurd rfl q102
def Q9_2 (Z : State) (b : Addr) (p0 : Int32) (x0 : Int32) (y0 : Int32) (p1 : Int32) (x1 : Int32) (y1 : Int32) (f0 : Addr) (f1 : Addr) (h0 : Heap) (n0 : Nat) (v : Option Value) (h : Heap) (L : List Loc) : Prop := v = some (.int (1 : Int32)) ∧ Fr n0 L ∧ Keep h0 h []
theorem ef9_2 (m_ : MethodId) (b : Addr) (p0 : Int32) (x0 : Int32) (y0 : Int32) (p1 : Int32) (x1 : Int32) (y1 : Int32)  : entryFrame m_ #[(.ref b), (.int (2 : Int32)), (.int p0), (.int x0), (.int y0), (.int p1), (.int x1), (.int y1)] 8 = mkF m_ 0 #[.val (.ref b), .val (.int (2 : Int32)), .val (.int p0), .val (.int x0), .val (.int y0), .val (.int p1), .val (.int x1), .val (.int y1)] [] := by first | (simp [entryFrame, mkF, argsToLocals, Value.category]; done) | rfl
theorem d9_37 : decode method_5_code 37 = .ok (.aload_n 0, 1) := by decide +kernel
theorem d9_38 : decode method_5_code 38 = .ok (.iconst 1, 1) := by decide +kernel
theorem d9_39 : decode method_5_code 39 = .ok (.aaload, 1) := by decide +kernel
theorem d9_40 : decode method_5_code 40 = .ok (.iload 5, 2) := by decide +kernel
theorem d9_42 : decode method_5_code 42 = .ok (.iload 6, 2) := by decide +kernel
theorem d9_44 : decode method_5_code 44 = .ok (.iload 7, 2) := by decide +kernel
theorem d9_46 : decode method_5_code 46 = .ok (.invokestatic 37, 3) := by decide +kernel
theorem d9_49 : decode method_5_code 49 = .ok (.ifCond .ne 5, 3) := by decide +kernel
set_option maxRecDepth 65536 in
set_option maxHeartbeats 40000000 in
theorem co9_2 (l : Launch) (Z : State) (a0 : Array Value) (hw : ∀ d ∈ tables_1, d.before a0 Z = true) (b : Addr) (p0 : Int32) (x0 : Int32) (y0 : Int32) (p1 : Int32) (x1 : Int32) (y1 : Int32) (f0 : Addr) (f1 : Addr) (h0 : Heap) (n0 : Nat) (Z0 : n0 ≤ h0.size)   (A_b : AV Z h0 b (.array .byte) [(.ref f0), (.ref f1)]) (A_0 : AV Z h0 f0 .byte (enc (lt3 p0 x0 y0))) (hp0 : p0 = 0 ∨ p0 = 1 ∨ p0 = 2) (hx0 : Ch x0) (hy0 : Ch y0) (A_1 : AV Z h0 f1 .byte (enc (lt3 p1 x1 y1))) (hp1 : p1 = 0 ∨ p1 = 1 ∨ p1 = 2) (hx1 : Ch x1) (hy1 : Ch y1) : Co l (⟨"com/example/bindwick/bindwick/AttributeGetValueByteArraysPinLaw", "all", "([[BIICCICC)Z"⟩ : MethodName) method_5_code 8 (some .boolean) [] ({ frames := 2, cells := 2, slots := 8, locals := 31 } : Room) Z h0 #[(.ref b), (.int (2 : Int32)), (.int p0), (.int x0), (.int y0), (.int p1), (.int x1), (.int y1)] (Q9_2 Z b p0 x0 y0 p1 x1 y1 f0 f1 h0 n0) := by
  refine Co.of (plainFor_of_name pn_6) ?_
  intro p_ e_ s_ m_ below meth c_ T0 X0 hx hby hml hown hnm hret hlk hZ eq0
  have N0 := Fr.nil n0
  refine Go.cast (ef9_2 m_ b p0 x0 y0 p1 x1 y1 ) ?_
  refine g_aloadN X0 hx rfl rfl (hb hby d9_0) 1 rfl ?_
  refine g_ifnull X0 hx rfl (hb hby d9_1) 10 4 (by decide) rfl rfl (fun q101 => ?_) (fun q101 => ?_)
  · exact (by cases q101)
  · refine g_aloadN X0 hx rfl rfl (hb hby d9_4) 5 rfl ?_
    refine g_arraylength X0 hx hZ eq0 A_b (2 : Int32) rfl (hb hby d9_5) 6 rfl ?_
    refine g_iloadN X0 hx rfl (hb hby d9_6) 7 rfl ?_
    refine g_icmp_eq X0 hx (hb hby d9_7) 12 10 (by decide) rfl rfl (fun q102 => ?_) (fun q102 => ?_)
    · refine g_iloadN X0 hx rfl (hb hby d9_12) 13 rfl ?_
      refine g_iconst X0 hx (1 : Int32) rfl (hb hby d9_13) 14 rfl ?_
      refine g_icmp_lt X0 hx (hb hby d9_14) 32 17 (by decide) rfl rfl (fun q103 => ?_) (fun q103 => ?_)
      · exact absurd q103 (by decide)
      · refine g_aloadN X0 hx rfl rfl (hb hby d9_17) 18 rfl ?_
        refine g_iconst X0 hx (0 : Int32) rfl (hb hby d9_18) 19 rfl ?_
        refine g_aaload X0 hx hZ eq0 A_b rfl (by decide) rfl (hb hby d9_19) 20 rfl ?_
        show Go p_ e_ below _ T0 (mkF m_ 20 #[.val (.ref b), .val (.int (2 : Int32)), .val (.int p0), .val (.int x0), .val (.int y0), .val (.int p1), .val (.int x1), .val (.int y1)] [(.ref f0)])
        refine g_iloadN X0 hx rfl (hb hby d9_20) 21 rfl ?_
        refine g_iloadN X0 hx rfl (hb hby d9_21) 22 rfl ?_
        refine g_iload X0 hx rfl (hb hby d9_22) 24 rfl ?_
        refine g_callS X0 hx hZ hown (wd hw 114 rfl) (wd hw 115 rfl) (wd hw 2 rfl) (wd hw 116 rfl) (by decide) eq0 [(.ref f0), (.int p0), (.int x0), (.int y0)] [] rfl (coS l Z a0 hw f0 p0 x0 y0 h0 n0 Z0 A_0 hp0 hx0 hy0) (lenOf pd_13 rfl) 0 (Nat.le_of_eq rfl) (by decide) (by decide) (by decide) (by decide) (by rw [hml]; rfl) (hb hby d9_24) 27 rfl (fun r104 T105 L106 X107 Q108 => ?_)
        unfold QS at Q108
        obtain ⟨h109, e110⟩ : ∃ h, T105.heap = h := ⟨_, rfl⟩
        rw [e110] at Q108
        obtain ⟨rfl, n111, K112⟩ := Q108
        have N113 := Fr.app N0 n111
        have F114 := A_b.keep K112 nin0
        have F115 := A_0.keep K112 nin0
        have F116 := A_1.keep K112 nin0
        have szh117 : n0 ≤ h109.size := Nat.le_trans Z0 K112.1
        have K118 := (Keep.refl h0 []).trans K112 all0
        show Go p_ e_ below _ T105 (mkF m_ 27 #[.val (.ref b), .val (.int (2 : Int32)), .val (.int p0), .val (.int x0), .val (.int y0), .val (.int p1), .val (.int x1), .val (.int y1)] [(.int (1 : Int32))])
        refine g_if_ne X107 hx (hb hby d9_27) 32 30 (by decide) rfl rfl (fun q119 => ?_) (fun q119 => ?_)
        · refine g_iloadN X107 hx rfl (hb hby d9_32) 33 rfl ?_
          refine g_iconst X107 hx (2 : Int32) rfl (hb hby d9_33) 34 rfl ?_
          refine g_icmp_ne X107 hx (hb hby d9_34) 54 37 (by decide) rfl rfl (fun q120 => ?_) (fun q120 => ?_)
          · exact absurd rfl q120
          · refine g_aloadN X107 hx rfl rfl (hb hby d9_37) 38 rfl ?_
            refine g_iconst X107 hx (1 : Int32) rfl (hb hby d9_38) 39 rfl ?_
            refine g_aaload X107 hx hZ e110 F114 rfl (by decide) rfl (hb hby d9_39) 40 rfl ?_
            show Go p_ e_ below _ T105 (mkF m_ 40 #[.val (.ref b), .val (.int (2 : Int32)), .val (.int p0), .val (.int x0), .val (.int y0), .val (.int p1), .val (.int x1), .val (.int y1)] [(.ref f1)])
            refine g_iload X107 hx rfl (hb hby d9_40) 42 rfl ?_
            refine g_iload X107 hx rfl (hb hby d9_42) 44 rfl ?_
            refine g_iload X107 hx rfl (hb hby d9_44) 46 rfl ?_
            refine g_callS X107 hx hZ hown (wd hw 114 rfl) (wd hw 115 rfl) (wd hw 2 rfl) (wd hw 116 rfl) (by decide) e110 [(.ref f1), (.int p1), (.int x1), (.int y1)] [] rfl (coS l Z a0 hw f1 p1 x1 y1 h109 n0 szh117 F116 hp1 hx1 hy1) (lenOf pd_13 rfl) 0 (Nat.le_of_eq rfl) (by decide) (by decide) (by decide) (by decide) (by rw [hml]; rfl) (hb hby d9_46) 49 rfl (fun r121 T122 L123 X124 Q125 => ?_)
            unfold QS at Q125
            obtain ⟨h126, e127⟩ : ∃ h, T122.heap = h := ⟨_, rfl⟩
            rw [e127] at Q125
            obtain ⟨rfl, n128, K129⟩ := Q125
            have N130 := Fr.app N113 n128
            have F131 := F114.keep K129 nin0
            have F132 := F115.keep K129 nin0
            have F133 := F116.keep K129 nin0
            have szh134 : n0 ≤ h126.size := Nat.le_trans szh117 K129.1
            have K135 := K118.trans K129 all0
            show Go p_ e_ below _ T122 (mkF m_ 49 #[.val (.ref b), .val (.int (2 : Int32)), .val (.int p0), .val (.int x0), .val (.int y0), .val (.int p1), .val (.int x1), .val (.int y1)] [(.int (1 : Int32))])
            refine g_if_ne X124 hx (hb hby d9_49) 54 52 (by decide) rfl rfl (fun q136 => ?_) (fun q136 => ?_)
            · refine g_iconst X124 hx (1 : Int32) rfl (hb hby d9_54) 55 rfl ?_
              exact g_retz X124 hx hret hlk (by decide) (by decide) (hb hby d9_55) (by rw [e127]; exact ⟨rfl, N130, K135⟩)
            · exact absurd q136 (by decide)
        · exact absurd q119 (by decide)
    · exact absurd rfl q102
def Q21_0 (Z : State) (e : Addr) (h0 : Heap) (n0 : Nat) (v : Option Value) (h : Heap) (L : List Loc) : Prop := v = none ∧ Fr n0 L ∧ Keep h0 h [e]
theorem ef21_0 (m_ : MethodId) (e : Addr)  : entryFrame m_ #[(.ref e)] 1 = mkF m_ 0 #[.val (.ref e)] [] := by first | (simp [entryFrame, mkF, argsToLocals, Value.category]; done) | rfl
theorem d21_0 : decode method_4_code 0 = .ok (.aload_n 0, 1) := by decide +kernel
theorem d21_1 : decode method_4_code 1 = .ok (.ifnull 17, 3) := by decide +kernel
theorem d21_4 : decode method_4_code 4 = .ok (.aload_n 0, 1) := by decide +kernel
theorem d21_5 : decode method_4_code 5 = .ok (.arraylength, 1) := by decide +kernel
theorem d21_6 : decode method_4_code 6 = .ok (.ifCond .le 12, 3) := by decide +kernel
theorem d21_18 : decode method_4_code 18 = .ok (.return_, 1) := by decide +kernel
set_option maxRecDepth 65536 in
set_option maxHeartbeats 40000000 in
theorem co21_0 (l : Launch) (Z : State) (a0 : Array Value) (hw : ∀ d ∈ tables_1, d.before a0 Z = true) (e : Addr) (h0 : Heap) (n0 : Nat) (Z0 : n0 ≤ h0.size)  (g_e : n0 ≤ e) (A_e : AV Z h0 e .byte []) : Co l (⟨"com/example/bindwick/bindwick/AttributeGetValueByteArraysPinLaw", "spoil", "([B)V"⟩ : MethodName) method_4_code 1 none [] ({ frames := 0, cells := 0, slots := 0, locals := 0 } : Room) Z h0 #[(.ref e)] (Q21_0 Z e h0 n0) := by
  refine Co.of (plainFor_of_name pn_6) ?_
  intro p_ e_ s_ m_ below meth c_ T0 X0 hx hby hml hown hnm hret hlk hZ eq0
  have N0 := Fr.nil n0
  refine Go.cast (ef21_0 m_ e ) ?_
  refine g_aloadN X0 hx rfl rfl (hb hby d21_0) 1 rfl ?_
  refine g_ifnull X0 hx rfl (hb hby d21_1) 18 4 (by decide) rfl rfl (fun q101 => ?_) (fun q101 => ?_)
  · exact (by cases q101)
  · refine g_aloadN X0 hx rfl rfl (hb hby d21_4) 5 rfl ?_
    refine g_arraylength X0 hx hZ eq0 A_e (0 : Int32) rfl (hb hby d21_5) 6 rfl ?_
    refine g_if_le X0 hx (hb hby d21_6) 18 9 (by decide) rfl rfl (fun q102 => ?_) (fun q102 => ?_)
    · exact g_retv X0 hx hret hlk (by decide) (by decide) (hb hby d21_18) (by rw [eq0]; exact ⟨rfl, N0, (Keep.refl h0 [e])⟩)
    · exact absurd q102 (by decide)
def Q21_1 (Z : State) (e : Addr) (z : Int32) (h0 : Heap) (n0 : Nat) (v : Option Value) (h : Heap) (L : List Loc) : Prop := v = none ∧ Fr n0 L ∧ Keep h0 h [e]
theorem ef21_1 (m_ : MethodId) (e : Addr)  : entryFrame m_ #[(.ref e)] 1 = mkF m_ 0 #[.val (.ref e)] [] := by first | (simp [entryFrame, mkF, argsToLocals, Value.category]; done) | rfl
theorem d21_9 : decode method_4_code 9 = .ok (.aload_n 0, 1) := by decide +kernel
theorem d21_10 : decode method_4_code 10 = .ok (.iconst 0, 1) := by decide +kernel
theorem d21_11 : decode method_4_code 11 = .ok (.aload_n 0, 1) := by decide +kernel
theorem d21_12 : decode method_4_code 12 = .ok (.iconst 0, 1) := by decide +kernel
theorem d21_13 : decode method_4_code 13 = .ok (.baload, 1) := by decide +kernel
theorem d21_14 : decode method_4_code 14 = .ok (.iconst 1, 1) := by decide +kernel
theorem d21_15 : decode method_4_code 15 = .ok (.ixor, 1) := by decide +kernel
theorem d21_16 : decode method_4_code 16 = .ok (.i2b, 1) := by decide +kernel
theorem d21_17 : decode method_4_code 17 = .ok (.bastore, 1) := by decide +kernel
set_option maxRecDepth 65536 in
set_option maxHeartbeats 40000000 in
theorem co21_1 (l : Launch) (Z : State) (a0 : Array Value) (hw : ∀ d ∈ tables_1, d.before a0 Z = true) (e : Addr) (z : Int32) (h0 : Heap) (n0 : Nat) (Z0 : n0 ≤ h0.size)  (g_e : n0 ≤ e) (A_e : AV Z h0 e .byte [(.int z)]) : Co l (⟨"com/example/bindwick/bindwick/AttributeGetValueByteArraysPinLaw", "spoil", "([B)V"⟩ : MethodName) method_4_code 1 none [] ({ frames := 0, cells := 0, slots := 0, locals := 0 } : Room) Z h0 #[(.ref e)] (Q21_1 Z e z h0 n0) := by
  refine Co.of (plainFor_of_name pn_6) ?_
  intro p_ e_ s_ m_ below meth c_ T0 X0 hx hby hml hown hnm hret hlk hZ eq0
  have N0 := Fr.nil n0
  refine Go.cast (ef21_1 m_ e ) ?_
  refine g_aloadN X0 hx rfl rfl (hb hby d21_0) 1 rfl ?_
  refine g_ifnull X0 hx rfl (hb hby d21_1) 18 4 (by decide) rfl rfl (fun q101 => ?_) (fun q101 => ?_)
  · exact (by cases q101)
  · refine g_aloadN X0 hx rfl rfl (hb hby d21_4) 5 rfl ?_
    refine g_arraylength X0 hx hZ eq0 A_e (1 : Int32) rfl (hb hby d21_5) 6 rfl ?_
    refine g_if_le X0 hx (hb hby d21_6) 18 9 (by decide) rfl rfl (fun q102 => ?_) (fun q102 => ?_)
    · exact absurd q102 (by decide)
    · refine g_aloadN X0 hx rfl rfl (hb hby d21_9) 10 rfl ?_
      refine g_iconst X0 hx (0 : Int32) rfl (hb hby d21_10) 11 rfl ?_
      refine g_aloadN X0 hx rfl rfl (hb hby d21_11) 12 rfl ?_
      refine g_iconst X0 hx (0 : Int32) rfl (hb hby d21_12) 13 rfl ?_
      refine g_baload X0 hx hZ eq0 A_e (by decide) rfl (hb hby d21_13) 14 rfl ?_
      show Go p_ e_ below _ T0 (mkF m_ 14 #[.val (.ref e)] [(.int z), (.int (0 : Int32)), (.ref e)])
      refine g_iconst X0 hx (1 : Int32) rfl (hb hby d21_14) 15 rfl ?_
      refine g_ixor X0 hx (hb hby d21_15) 16 rfl ?_
      refine g_i2b X0 hx (hb hby d21_16) 17 rfl ?_
      refine g_bastore X0 hx hZ eq0 A_e (by decide) (Nat.le_of_ble_eq_true rfl) (hb hby d21_17) 18 rfl (fun T103 h104 X105 e106 W107 A108 => ?_)
      have A109 : AV Z h104 e .byte [(.int (z ^^^ (1 : Int32)).toInt8.toInt32.toInt8.toInt32)] := A108
      have F110 := A109
      have N111 := Fr.snoc X105 N0 g_e
      have szh112 : n0 ≤ h104.size := Nat.le_trans Z0 (Nat.le_of_eq W107.size.symm)
      have K113 := (Keep.refl h0 [e]).wr W107 (Or.inl (List.mem_of_getElem? (i := 0) rfl))
      show Go p_ e_ below _ T103 (mkF m_ 18 #[.val (.ref e)] [])
      exact g_retv X105 hx hret hlk (by decide) (by decide) (hb hby d21_18) (by rw [e106]; exact ⟨rfl, N111, K113⟩)
def Q21_2 (Z : State) (e : Addr) (z : Int32) (v1 : Value) (h0 : Heap) (n0 : Nat) (v : Option Value) (h : Heap) (L : List Loc) : Prop := v = none ∧ Fr n0 L ∧ Keep h0 h [e]
theorem ef21_2 (m_ : MethodId) (e : Addr)  : entryFrame m_ #[(.ref e)] 1 = mkF m_ 0 #[.val (.ref e)] [] := by first | (simp [entryFrame, mkF, argsToLocals, Value.category]; done) | rfl
set_option maxRecDepth 65536 in
set_option maxHeartbeats 40000000 in
theorem co21_2 (l : Launch) (Z : State) (a0 : Array Value) (hw : ∀ d ∈ tables_1, d.before a0 Z = true) (e : Addr) (z : Int32) (v1 : Value) (h0 : Heap) (n0 : Nat) (Z0 : n0 ≤ h0.size)  (g_e : n0 ≤ e) (A_e : AV Z h0 e .byte [(.int z), v1]) : Co l (⟨"com/example/bindwick/bindwick/AttributeGetValueByteArraysPinLaw", "spoil", "([B)V"⟩ : MethodName) method_4_code 1 none [] ({ frames := 0, cells := 0, slots := 0, locals := 0 } : Room) Z h0 #[(.ref e)] (Q21_2 Z e z v1 h0 n0) := by
  refine Co.of (plainFor_of_name pn_6) ?_
  intro p_ e_ s_ m_ below meth c_ T0 X0 hx hby hml hown hnm hret hlk hZ eq0
  have N0 := Fr.nil n0
  refine Go.cast (ef21_2 m_ e ) ?_
  refine g_aloadN X0 hx rfl rfl (hb hby d21_0) 1 rfl ?_
  refine g_ifnull X0 hx rfl (hb hby d21_1) 18 4 (by decide) rfl rfl (fun q101 => ?_) (fun q101 => ?_)
  · exact (by cases q101)
  · refine g_aloadN X0 hx rfl rfl (hb hby d21_4) 5 rfl ?_
    refine g_arraylength X0 hx hZ eq0 A_e (2 : Int32) rfl (hb hby d21_5) 6 rfl ?_
    refine g_if_le X0 hx (hb hby d21_6) 18 9 (by decide) rfl rfl (fun q102 => ?_) (fun q102 => ?_)
    · exact absurd q102 (by decide)
    · refine g_aloadN X0 hx rfl rfl (hb hby d21_9) 10 rfl ?_
      refine g_iconst X0 hx (0 : Int32) rfl (hb hby d21_10) 11 rfl ?_
      refine g_aloadN X0 hx rfl rfl (hb hby d21_11) 12 rfl ?_
      refine g_iconst X0 hx (0 : Int32) rfl (hb hby d21_12) 13 rfl ?_
      refine g_baload X0 hx hZ eq0 A_e (by decide) rfl (hb hby d21_13) 14 rfl ?_
      show Go p_ e_ below _ T0 (mkF m_ 14 #[.val (.ref e)] [(.int z), (.int (0 : Int32)), (.ref e)])
      refine g_iconst X0 hx (1 : Int32) rfl (hb hby d21_14) 15 rfl ?_
      refine g_ixor X0 hx (hb hby d21_15) 16 rfl ?_
      refine g_i2b X0 hx (hb hby d21_16) 17 rfl ?_
      refine g_bastore X0 hx hZ eq0 A_e (by decide) (Nat.le_of_ble_eq_true rfl) (hb hby d21_17) 18 rfl (fun T103 h104 X105 e106 W107 A108 => ?_)
      have A109 : AV Z h104 e .byte [(.int (z ^^^ (1 : Int32)).toInt8.toInt32.toInt8.toInt32), v1] := A108
      have F110 := A109
      have N111 := Fr.snoc X105 N0 g_e
      have szh112 : n0 ≤ h104.size := Nat.le_trans Z0 (Nat.le_of_eq W107.size.symm)
      have K113 := (Keep.refl h0 [e]).wr W107 (Or.inl (List.mem_of_getElem? (i := 0) rfl))
      show Go p_ e_ below _ T103 (mkF m_ 18 #[.val (.ref e)] [])
      exact g_retv X105 hx hret hlk (by decide) (by decide) (hb hby d21_18) (by rw [e106]; exact ⟨rfl, N111, K113⟩)
def Q21_3 (Z : State) (e : Addr) (z : Int32) (v1 : Value) (v2 : Value) (h0 : Heap) (n0 : Nat) (v : Option Value) (h : Heap) (L : List Loc) : Prop := v = none ∧ Fr n0 L ∧ Keep h0 h [e]
theorem ef21_3 (m_ : MethodId) (e : Addr)  : entryFrame m_ #[(.ref e)] 1 = mkF m_ 0 #[.val (.ref e)] [] := by first | (simp [entryFrame, mkF, argsToLocals, Value.category]; done) | rfl
set_option maxRecDepth 65536 in
set_option maxHeartbeats 40000000 in
theorem co21_3 (l : Launch) (Z : State) (a0 : Array Value) (hw : ∀ d ∈ tables_1, d.before a0 Z = true) (e : Addr) (z : Int32) (v1 : Value) (v2 : Value) (h0 : Heap) (n0 : Nat) (Z0 : n0 ≤ h0.size)  (g_e : n0 ≤ e) (A_e : AV Z h0 e .byte [(.int z), v1, v2]) : Co l (⟨"com/example/bindwick/bindwick/AttributeGetValueByteArraysPinLaw", "spoil", "([B)V"⟩ : MethodName) method_4_code 1 none [] ({ frames := 0, cells := 0, slots := 0, locals := 0 } : Room) Z h0 #[(.ref e)] (Q21_3 Z e z v1 v2 h0 n0) := by
  refine Co.of (plainFor_of_name pn_6) ?_
  intro p_ e_ s_ m_ below meth c_ T0 X0 hx hby hml hown hnm hret hlk hZ eq0
  have N0 := Fr.nil n0
  refine Go.cast (ef21_3 m_ e ) ?_
  refine g_aloadN X0 hx rfl rfl (hb hby d21_0) 1 rfl ?_
  refine g_ifnull X0 hx rfl (hb hby d21_1) 18 4 (by decide) rfl rfl (fun q101 => ?_) (fun q101 => ?_)
  · exact (by cases q101)
  · refine g_aloadN X0 hx rfl rfl (hb hby d21_4) 5 rfl ?_
    refine g_arraylength X0 hx hZ eq0 A_e (3 : Int32) rfl (hb hby d21_5) 6 rfl ?_
    refine g_if_le X0 hx (hb hby d21_6) 18 9 (by decide) rfl rfl (fun q102 => ?_) (fun q102 => ?_)
    · exact absurd q102 (by decide)
    · refine g_aloadN X0 hx rfl rfl (hb hby d21_9) 10 rfl ?_
      refine g_iconst X0 hx (0 : Int32) rfl (hb hby d21_10) 11 rfl ?_
      refine g_aloadN X0 hx rfl rfl (hb hby d21_11) 12 rfl ?_
      refine g_iconst X0 hx (0 : Int32) rfl (hb hby d21_12) 13 rfl ?_
      refine g_baload X0 hx hZ eq0 A_e (by decide) rfl (hb hby d21_13) 14 rfl ?_
      show Go p_ e_ below _ T0 (mkF m_ 14 #[.val (.ref e)] [(.int z), (.int (0 : Int32)), (.ref e)])
      refine g_iconst X0 hx (1 : Int32) rfl (hb hby d21_14) 15 rfl ?_
      refine g_ixor X0 hx (hb hby d21_15) 16 rfl ?_
      refine g_i2b X0 hx (hb hby d21_16) 17 rfl ?_
      refine g_bastore X0 hx hZ eq0 A_e (by decide) (Nat.le_of_ble_eq_true rfl) (hb hby d21_17) 18 rfl (fun T103 h104 X105 e106 W107 A108 => ?_)
      have A109 : AV Z h104 e .byte [(.int (z ^^^ (1 : Int32)).toInt8.toInt32.toInt8.toInt32), v1, v2] := A108
      have F110 := A109
      have N111 := Fr.snoc X105 N0 g_e
      have szh112 : n0 ≤ h104.size := Nat.le_trans Z0 (Nat.le_of_eq W107.size.symm)
      have K113 := (Keep.refl h0 [e]).wr W107 (Or.inl (List.mem_of_getElem? (i := 0) rfl))
      show Go p_ e_ below _ T103 (mkF m_ 18 #[.val (.ref e)] [])
      exact g_retv X105 hx hret hlk (by decide) (by decide) (hb hby d21_18) (by rw [e106]; exact ⟨rfl, N111, K113⟩)
def Q21_4 (Z : State) (e : Addr) (z : Int32) (v1 : Value) (v2 : Value) (v3 : Value) (h0 : Heap) (n0 : Nat) (v : Option Value) (h : Heap) (L : List Loc) : Prop := v = none ∧ Fr n0 L ∧ Keep h0 h [e]
theorem ef21_4 (m_ : MethodId) (e : Addr)  : entryFrame m_ #[(.ref e)] 1 = mkF m_ 0 #[.val (.ref e)] [] := by first | (simp [entryFrame, mkF, argsToLocals, Value.category]; done) | rfl
set_option maxRecDepth 65536 in
set_option maxHeartbeats 40000000 in
theorem co21_4 (l : Launch) (Z : State) (a0 : Array Value) (hw : ∀ d ∈ tables_1, d.before a0 Z = true) (e : Addr) (z : Int32) (v1 : Value) (v2 : Value) (v3 : Value) (h0 : Heap) (n0 : Nat) (Z0 : n0 ≤ h0.size)  (g_e : n0 ≤ e) (A_e : AV Z h0 e .byte [(.int z), v1, v2, v3]) : Co l (⟨"com/example/bindwick/bindwick/AttributeGetValueByteArraysPinLaw", "spoil", "([B)V"⟩ : MethodName) method_4_code 1 none [] ({ frames := 0, cells := 0, slots := 0, locals := 0 } : Room) Z h0 #[(.ref e)] (Q21_4 Z e z v1 v2 v3 h0 n0) := by
  refine Co.of (plainFor_of_name pn_6) ?_
  intro p_ e_ s_ m_ below meth c_ T0 X0 hx hby hml hown hnm hret hlk hZ eq0
  have N0 := Fr.nil n0
  refine Go.cast (ef21_4 m_ e ) ?_
  refine g_aloadN X0 hx rfl rfl (hb hby d21_0) 1 rfl ?_
  refine g_ifnull X0 hx rfl (hb hby d21_1) 18 4 (by decide) rfl rfl (fun q101 => ?_) (fun q101 => ?_)
  · exact (by cases q101)
  · refine g_aloadN X0 hx rfl rfl (hb hby d21_4) 5 rfl ?_
    refine g_arraylength X0 hx hZ eq0 A_e (4 : Int32) rfl (hb hby d21_5) 6 rfl ?_
    refine g_if_le X0 hx (hb hby d21_6) 18 9 (by decide) rfl rfl (fun q102 => ?_) (fun q102 => ?_)
    · exact absurd q102 (by decide)
    · refine g_aloadN X0 hx rfl rfl (hb hby d21_9) 10 rfl ?_
      refine g_iconst X0 hx (0 : Int32) rfl (hb hby d21_10) 11 rfl ?_
      refine g_aloadN X0 hx rfl rfl (hb hby d21_11) 12 rfl ?_
      refine g_iconst X0 hx (0 : Int32) rfl (hb hby d21_12) 13 rfl ?_
      refine g_baload X0 hx hZ eq0 A_e (by decide) rfl (hb hby d21_13) 14 rfl ?_
      show Go p_ e_ below _ T0 (mkF m_ 14 #[.val (.ref e)] [(.int z), (.int (0 : Int32)), (.ref e)])
      refine g_iconst X0 hx (1 : Int32) rfl (hb hby d21_14) 15 rfl ?_
      refine g_ixor X0 hx (hb hby d21_15) 16 rfl ?_
      refine g_i2b X0 hx (hb hby d21_16) 17 rfl ?_
      refine g_bastore X0 hx hZ eq0 A_e (by decide) (Nat.le_of_ble_eq_true rfl) (hb hby d21_17) 18 rfl (fun T103 h104 X105 e106 W107 A108 => ?_)
      have A109 : AV Z h104 e .byte [(.int (z ^^^ (1 : Int32)).toInt8.toInt32.toInt8.toInt32), v1, v2, v3] := A108
      have F110 := A109
      have N111 := Fr.snoc X105 N0 g_e
      have szh112 : n0 ≤ h104.size := Nat.le_trans Z0 (Nat.le_of_eq W107.size.symm)
      have K113 := (Keep.refl h0 [e]).wr W107 (Or.inl (List.mem_of_getElem? (i := 0) rfl))
      show Go p_ e_ below _ T103 (mkF m_ 18 #[.val (.ref e)] [])
      exact g_retv X105 hx hret hlk (by decide) (by decide) (hb hby d21_18) (by rw [e106]; exact ⟨rfl, N111, K113⟩)
def QP (h0 : Heap) (n0 : Nat) (e : Addr) (v : Option Value) (h : Heap) (L : List Loc) : Prop := v = none ∧ Fr n0 L ∧ Keep h0 h [e]
theorem coP (l : Launch) (Z : State) (a0 : Array Value) (hw : ∀ d ∈ tables_1, d.before a0 Z = true) (e : Addr) (ks : List Int32) (h0 : Heap) (n0 : Nat) (Z0 : n0 ≤ h0.size) (g_e : n0 ≤ e) (ho : Oks ks) (A_e : AV Z h0 e .byte (enc ks)) : Co l (⟨"com/example/bindwick/bindwick/AttributeGetValueByteArraysPinLaw", "spoil", "([B)V"⟩ : MethodName) method_4_code 1 none [] ({ frames := 0, cells := 0, slots := 0, locals := 0 } : Room) Z h0 #[.ref e] (QP h0 n0 e) := by
  rcases ho with rfl | ⟨c, hc, rfl⟩ | ⟨c, d, hc, hd, rfl⟩
  · exact co21_0 l Z a0 hw e h0 n0 Z0 g_e A_e
  · by_cases sc : c < (128 : Int32)
    · exact co21_1 l Z a0 hw e _ h0 n0 Z0 g_e (A_e.cast (en_p sc))
    · exact co21_2 l Z a0 hw e _ _ h0 n0 Z0 g_e (A_e.cast (en_m sc))
  · by_cases sc : c < (128 : Int32)
    · by_cases sd : d < (128 : Int32)
      · exact co21_2 l Z a0 hw e _ _ h0 n0 Z0 g_e (A_e.cast (en_pp sc sd))
      · exact co21_3 l Z a0 hw e _ _ _ h0 n0 Z0 g_e (A_e.cast (en_pm sc sd))
    · by_cases sd : d < (128 : Int32)
      · exact co21_3 l Z a0 hw e _ _ _ h0 n0 Z0 g_e (A_e.cast (en_mp sc sd))
      · exact co21_4 l Z a0 hw e _ _ _ _ h0 n0 Z0 g_e (A_e.cast (en_mm sc sd))
def Q11_1 (Z : State) (b : Addr) (d : Addr) (c0 : Int32) (h0 : Heap) (n0 : Nat) (v : Option Value) (h : Heap) (L : List Loc) : Prop := v = some (.int (1 : Int32)) ∧ Fr n0 L ∧ Keep h0 h [d] ∧ AV Z h d .byte [(.int c0.toInt8.toInt32.toInt8.toInt32)]
theorem ef11_1 (m_ : MethodId) (b : Addr) (d : Addr)  : entryFrame m_ #[(.ref b), (.int (0 : Int32)), (.ref d), (.int (0 : Int32)), (.int (1 : Int32))] 7 = mkF m_ 0 #[.val (.ref b), .val (.int (0 : Int32)), .val (.ref d), .val (.int (0 : Int32)), .val (.int (1 : Int32)), .unset, .unset] [] := by first | (simp [entryFrame, mkF, argsToLocals, Value.category]; done) | rfl
theorem d11_0 : decode jdk_52_method_21_code 0 = .ok (.iconst 0, 1) := by decide +kernel
theorem d11_1 : decode jdk_52_method_21_code 1 = .ok (.istore 5, 2) := by decide +kernel
theorem d11_3 : decode jdk_52_method_21_code 3 = .ok (.iload 5, 2) := by decide +kernel
theorem d11_5 : decode jdk_52_method_21_code 5 = .ok (.iload 4, 2) := by decide +kernel
theorem d11_7 : decode jdk_52_method_21_code 7 = .ok (.if_icmp .ge 37, 3) := by decide +kernel
theorem d11_10 : decode jdk_52_method_21_code 10 = .ok (.aload_n 0, 1) := by decide +kernel
theorem d11_11 : decode jdk_52_method_21_code 11 = .ok (.iload_n 1, 1) := by decide +kernel
theorem d11_12 : decode jdk_52_method_21_code 12 = .ok (.caload, 1) := by decide +kernel
theorem d11_13 : decode jdk_52_method_21_code 13 = .ok (.istore 6, 2) := by decide +kernel
theorem d11_15 : decode jdk_52_method_21_code 15 = .ok (.iload 6, 2) := by decide +kernel
theorem d11_17 : decode jdk_52_method_21_code 17 = .ok (.sipush 255, 3) := by decide +kernel
theorem d11_20 : decode jdk_52_method_21_code 20 = .ok (.if_icmp .le 6, 3) := by decide +kernel
theorem d11_26 : decode jdk_52_method_21_code 26 = .ok (.aload_n 2, 1) := by decide +kernel
theorem d11_27 : decode jdk_52_method_21_code 27 = .ok (.iload_n 3, 1) := by decide +kernel
theorem d11_28 : decode jdk_52_method_21_code 28 = .ok (.iload 6, 2) := by decide +kernel
theorem d11_30 : decode jdk_52_method_21_code 30 = .ok (.i2b, 1) := by decide +kernel
theorem d11_31 : decode jdk_52_method_21_code 31 = .ok (.bastore, 1) := by decide +kernel
theorem d11_32 : decode jdk_52_method_21_code 32 = .ok (.iinc 1 1, 3) := by decide +kernel
theorem d11_35 : decode jdk_52_method_21_code 35 = .ok (.iinc 3 1, 3) := by decide +kernel
theorem d11_38 : decode jdk_52_method_21_code 38 = .ok (.iinc 5 1, 3) := by decide +kernel
theorem d11_41 : decode jdk_52_method_21_code 41 = .ok (.goto (-38), 3) := by decide +kernel
theorem d11_44 : decode jdk_52_method_21_code 44 = .ok (.iload 4, 2) := by decide +kernel
theorem d11_46 : decode jdk_52_method_21_code 46 = .ok (.ireturn, 1) := by decide +kernel
set_option maxRecDepth 65536 in
set_option maxHeartbeats 40000000 in
theorem co11_1 (l : Launch) (Z : State) (a0 : Array Value) (hw : ∀ d ∈ tables_1, d.before a0 Z = true) (b : Addr) (d : Addr) (c0 : Int32) (h0 : Heap) (n0 : Nat) (Z0 : n0 ≤ h0.size)  (g_d : n0 ≤ d) (A_b : AV Z h0 b .char [(.int c0)]) (A_d : AV Z h0 d .byte [(.int (0 : Int32))]) (nbd : b ≠ d) (l0 : ¬ (255 : Int32) < c0) : Co l (⟨"java/lang/StringUTF16", "compress", "([CI[BII)I"⟩ : MethodName) jdk_52_method_21_code 7 (some .int) [] ({ frames := 0, cells := 0, slots := 0, locals := 0 } : Room) Z h0 #[(.ref b), (.int (0 : Int32)), (.ref d), (.int (0 : Int32)), (.int (1 : Int32))] (Q11_1 Z b d c0 h0 n0) := by
  refine Co.of (plainFor_of_name pn_1) ?_
  intro p_ e_ s_ m_ below meth c_ T0 X0 hx hby hml hown hnm hret hlk hZ eq0
  have N0 := Fr.nil n0
  refine Go.cast (ef11_1 m_ b d ) ?_
  refine g_iconst X0 hx (0 : Int32) rfl (hb hby d11_0) 1 rfl ?_
  refine g_istore X0 hx #[.val (.ref b), .val (.int (0 : Int32)), .val (.ref d), .val (.int (0 : Int32)), .val (.int (1 : Int32)), .val (.int (0 : Int32)), .unset] rfl (hb hby d11_1) 3 rfl ?_
  refine g_iload X0 hx rfl (hb hby d11_3) 5 rfl ?_
  refine g_iload X0 hx rfl (hb hby d11_5) 7 rfl ?_
  refine g_icmp_ge X0 hx (hb hby d11_7) 44 10 (by decide) rfl rfl (fun q101 => ?_) (fun q101 => ?_)
  · exact absurd q101 (by decide)
  · refine g_aloadN X0 hx rfl rfl (hb hby d11_10) 11 rfl ?_
    refine g_iloadN X0 hx rfl (hb hby d11_11) 12 rfl ?_
    refine g_caload X0 hx hZ eq0 A_b (by decide) rfl (hb hby d11_12) 13 rfl ?_
    show Go p_ e_ below _ T0 (mkF m_ 13 #[.val (.ref b), .val (.int (0 : Int32)), .val (.ref d), .val (.int (0 : Int32)), .val (.int (1 : Int32)), .val (.int (0 : Int32)), .unset] [(.int c0)])
    refine g_istore X0 hx #[.val (.ref b), .val (.int (0 : Int32)), .val (.ref d), .val (.int (0 : Int32)), .val (.int (1 : Int32)), .val (.int (0 : Int32)), .val (.int c0)] rfl (hb hby d11_13) 15 rfl ?_
    refine g_iload X0 hx rfl (hb hby d11_15) 17 rfl ?_
    refine g_sipush X0 hx (255 : Int32) rfl (hb hby d11_17) 20 rfl ?_
    refine g_icmp_le X0 hx (hb hby d11_20) 26 23 (by decide) rfl rfl (fun q102 => ?_) (fun q102 => ?_)
    · refine g_aloadN X0 hx rfl rfl (hb hby d11_26) 27 rfl ?_
      refine g_iloadN X0 hx rfl (hb hby d11_27) 28 rfl ?_
      refine g_iload X0 hx rfl (hb hby d11_28) 30 rfl ?_
      refine g_i2b X0 hx (hb hby d11_30) 31 rfl ?_
      refine g_bastore X0 hx hZ eq0 A_d (by decide) (Nat.le_of_ble_eq_true rfl) (hb hby d11_31) 32 rfl (fun T103 h104 X105 e106 W107 A108 => ?_)
      have A109 : AV Z h104 d .byte [(.int c0.toInt8.toInt32.toInt8.toInt32)] := A108
      have F110 := A_b.other W107 nbd
      have F111 := A109
      have N112 := Fr.snoc X105 N0 g_d
      have szh113 : n0 ≤ h104.size := Nat.le_trans Z0 (Nat.le_of_eq W107.size.symm)
      have K114 := (Keep.refl h0 [d]).wr W107 (Or.inl (List.mem_of_getElem? (i := 0) rfl))
      show Go p_ e_ below _ T103 (mkF m_ 32 #[.val (.ref b), .val (.int (0 : Int32)), .val (.ref d), .val (.int (0 : Int32)), .val (.int (1 : Int32)), .val (.int (0 : Int32)), .val (.int c0)] [])
      refine g_iinc X105 hx (1 : Int32) rfl rfl #[.val (.ref b), .val (.int (1 : Int32)), .val (.ref d), .val (.int (0 : Int32)), .val (.int (1 : Int32)), .val (.int (0 : Int32)), .val (.int c0)] rfl (hb hby d11_32) 35 rfl ?_
      refine g_iinc X105 hx (1 : Int32) rfl rfl #[.val (.ref b), .val (.int (1 : Int32)), .val (.ref d), .val (.int (1 : Int32)), .val (.int (1 : Int32)), .val (.int (0 : Int32)), .val (.int c0)] rfl (hb hby d11_35) 38 rfl ?_
      refine g_iinc X105 hx (1 : Int32) rfl rfl #[.val (.ref b), .val (.int (1 : Int32)), .val (.ref d), .val (.int (1 : Int32)), .val (.int (1 : Int32)), .val (.int (1 : Int32)), .val (.int c0)] rfl (hb hby d11_38) 41 rfl ?_
      refine g_goto X105 hx (hb hby d11_41) 3 (by decide) rfl ?_
      refine g_iload X105 hx rfl (hb hby d11_3) 5 rfl ?_
      refine g_iload X105 hx rfl (hb hby d11_5) 7 rfl ?_
      refine g_icmp_ge X105 hx (hb hby d11_7) 44 10 (by decide) rfl rfl (fun q115 => ?_) (fun q115 => ?_)
      · refine g_iload X105 hx rfl (hb hby d11_44) 46 rfl ?_
        exact g_reti X105 hx hret hlk (by decide) (by decide) (hb hby d11_46) (by rw [e106]; exact ⟨rfl, N112, K114, A109⟩)
      · exact absurd q115 (by decide)
    · exact absurd q102 l0
def Q10_1 (Z : State) (b : Addr) (c0 : Int32) (h0 : Heap) (n0 : Nat) (v : Option Value) (h : Heap) (L : List Loc) : Prop := ∃ d, v = some (.ref d) ∧ Fr n0 L ∧ Keep h0 h [] ∧ h0.size ≤ d ∧ AV Z h d .byte [(.int c0.toInt8.toInt32.toInt8.toInt32)] ∧ Exa Z h d "[B"
theorem ef10_1 (m_ : MethodId) (b : Addr)  : entryFrame m_ #[(.ref b), (.int (0 : Int32)), (.int (1 : Int32))] 6 = mkF m_ 0 #[.val (.ref b), .val (.int (0 : Int32)), .val (.int (1 : Int32)), .unset, .unset, .unset] [] := by first | (simp [entryFrame, mkF, argsToLocals, Value.category]; done) | rfl
theorem d10_0 : decode jdk_52_method_16_code 0 = .ok (.iload_n 2, 1) := by decide +kernel
theorem d10_1 : decode jdk_52_method_16_code 1 = .ok (.newarray .byte, 2) := by decide +kernel
theorem d10_3 : decode jdk_52_method_16_code 3 = .ok (.astore_n 3, 1) := by decide +kernel
theorem d10_4 : decode jdk_52_method_16_code 4 = .ok (.aload_n 0, 1) := by decide +kernel
theorem d10_5 : decode jdk_52_method_16_code 5 = .ok (.iload_n 1, 1) := by decide +kernel
theorem d10_6 : decode jdk_52_method_16_code 6 = .ok (.aload_n 3, 1) := by decide +kernel
theorem d10_7 : decode jdk_52_method_16_code 7 = .ok (.iconst 0, 1) := by decide +kernel
theorem d10_8 : decode jdk_52_method_16_code 8 = .ok (.iload_n 2, 1) := by decide +kernel
theorem pd_14 : parseMethodDescriptor "([CI[BII)I" = some ⟨[(.array .char), .int, (.array .byte), .int, .int], some .int⟩ := by decide +kernel
theorem d10_9 : decode jdk_52_method_16_code 9 = .ok (.invokestatic 115, 3) := by decide +kernel
theorem d10_12 : decode jdk_52_method_16_code 12 = .ok (.istore 4, 2) := by decide +kernel
theorem d10_14 : decode jdk_52_method_16_code 14 = .ok (.iload 4, 2) := by decide +kernel
theorem d10_16 : decode jdk_52_method_16_code 16 = .ok (.iload_n 2, 1) := by decide +kernel
theorem d10_17 : decode jdk_52_method_16_code 17 = .ok (.if_icmp .eq 40, 3) := by decide +kernel
theorem d10_57 : decode jdk_52_method_16_code 57 = .ok (.aload_n 3, 1) := by decide +kernel
theorem d10_58 : decode jdk_52_method_16_code 58 = .ok (.areturn, 1) := by decide +kernel
set_option maxRecDepth 65536 in
set_option maxHeartbeats 40000000 in
theorem co10_1 (l : Launch) (Z : State) (a0 : Array Value) (hw : ∀ d ∈ tables_1, d.before a0 Z = true) (b : Addr) (c0 : Int32) (h0 : Heap) (n0 : Nat) (Z0 : n0 ≤ h0.size)   (A_b : AV Z h0 b .char [(.int c0)]) (l0 : ¬ (255 : Int32) < c0) : Co l (⟨"java/lang/StringUTF16", "compress", "([CII)[B"⟩ : MethodName) jdk_52_method_16_code 6 (some (.array .byte)) [] ({ frames := 1, cells := 1, slots := 1, locals := 18 } : Room) Z h0 #[(.ref b), (.int (0 : Int32)), (.int (1 : Int32))] (Q10_1 Z b c0 h0 n0) := by
  refine Co.of (plainFor_of_name pn_1) ?_
  intro p_ e_ s_ m_ below meth c_ T0 X0 hx hby hml hown hnm hret hlk hZ eq0
  have N0 := Fr.nil n0
  refine Go.cast (ef10_1 m_ b ) ?_
  refine g_iloadN X0 hx rfl (hb hby d10_0) 1 rfl ?_
  refine g_newarrayE X0 hx hZ (aty := .byte) (wd hw 19 rfl) eq0 (by decide) 1 (by decide) (by decide) (by decide) (by decide) [(.int (0 : Int32))] rfl own_bn (hb hby d10_1) 3 rfl (fun T101 h102 b103 X104 e105 g106 E107 A108 E109 => ?_)
  have ne110 : b ≠ b103 := Nat.ne_of_lt (Nat.lt_of_lt_of_eq A_b.lt g106.symm)
  have F111 := A_b.ext E107
  have sz112 : n0 ≤ b103 := Nat.le_trans Z0 (Nat.le_of_eq g106.symm)
  have szh113 : n0 ≤ h102.size := Nat.le_trans Z0 E107.1
  have szk114 : h0.size ≤ b103 := Nat.le_trans (Keep.refl h0 []).1 (Nat.le_of_eq g106.symm)
  have K115 := (Keep.refl h0 []).ext E107
  have A116 : AV Z h102 b103 .byte [(.int (0 : Int32))] := A108
  show Go p_ e_ below _ T101 (mkF m_ 3 #[.val (.ref b), .val (.int (0 : Int32)), .val (.int (1 : Int32)), .unset, .unset, .unset] [(.ref b103)])
  refine g_astoreN X104 hx #[.val (.ref b), .val (.int (0 : Int32)), .val (.int (1 : Int32)), .val (.ref b103), .unset, .unset] rfl rfl (hb hby d10_3) 4 rfl ?_
  refine g_aloadN X104 hx rfl rfl (hb hby d10_4) 5 rfl ?_
  refine g_iloadN X104 hx rfl (hb hby d10_5) 6 rfl ?_
  refine g_aloadN X104 hx rfl rfl (hb hby d10_6) 7 rfl ?_
  refine g_iconst X104 hx (0 : Int32) rfl (hb hby d10_7) 8 rfl ?_
  refine g_iloadN X104 hx rfl (hb hby d10_8) 9 rfl ?_
  refine g_callS X104 hx hZ hown (wd hw 66 rfl) (wd hw 67 rfl) (wd hw 64 rfl) (wd hw 68 rfl) (by decide) e105 [(.ref b), (.int (0 : Int32)), (.ref b103), (.int (0 : Int32)), (.int (1 : Int32))] [] rfl (co11_1 l Z a0 hw b b103 c0 h102 n0 szh113 sz112 F111 A116 ne110 l0) (lenOf pd_14 rfl) 0 (Nat.le_of_eq rfl) (by decide) (by decide) (by decide) (by decide) (by rw [hml]; rfl) (hb hby d10_9) 12 rfl (fun r117 T118 L119 X120 Q121 => ?_)
  obtain ⟨h122, e123⟩ : ∃ h, T118.heap = h := ⟨_, rfl⟩
  rw [e123] at Q121
  obtain ⟨rfl, n124, K125, A126⟩ := Q121
  have N127 := Fr.app N0 n124
  have F128 := F111.keep K125 (ninS ne110 nin0)
  have F129 := E109.keep K125
  have szh130 : n0 ≤ h122.size := Nat.le_trans szh113 K125.1
  have K131 := K115.trans K125 (allS (Or.inr szk114) all0)
  show Go p_ e_ below _ T118 (mkF m_ 12 #[.val (.ref b), .val (.int (0 : Int32)), .val (.int (1 : Int32)), .val (.ref b103), .unset, .unset] [(.int (1 : Int32))])
  refine g_istore X120 hx #[.val (.ref b), .val (.int (0 : Int32)), .val (.int (1 : Int32)), .val (.ref b103), .val (.int (1 : Int32)), .unset] rfl (hb hby d10_12) 14 rfl ?_
  refine g_iload X120 hx rfl (hb hby d10_14) 16 rfl ?_
  refine g_iloadN X120 hx rfl (hb hby d10_16) 17 rfl ?_
  refine g_icmp_eq X120 hx (hb hby d10_17) 57 20 (by decide) rfl rfl (fun q17 => ?_) (fun q17 => ?_)
  · refine g_aloadN X120 hx rfl rfl (hb hby d10_57) 58 rfl ?_
    exact g_reta X120 hx rfl rfl hret hlk (by decide) (by decide) (hb hby d10_58) (by rw [e123]; exact ⟨b103, rfl, N127, K131, szk114, A126, F129⟩)
  · exact absurd rfl q17
theorem ef12_1 (m_ : MethodId) (b : Addr)  : entryFrame m_ #[(.ref b), (.int (1 : Int32))] 2 = mkF m_ 0 #[.val (.ref b), .val (.int (1 : Int32))] [] := by first | (simp [entryFrame, mkF, argsToLocals, Value.category]; done) | rfl
theorem d12_0 : decode jdk_52_method_15_code 0 = .ok (.iload_n 1, 1) := by decide +kernel
theorem d12_1 : decode jdk_52_method_15_code 1 = .ok (.aload_n 0, 1) := by decide +kernel
theorem d12_2 : decode jdk_52_method_15_code 2 = .ok (.arraylength, 1) := by decide +kernel
theorem d12_3 : decode jdk_52_method_15_code 3 = .ok (.isub, 1) := by decide +kernel
theorem d12_4 : decode jdk_52_method_15_code 4 = .ok (.bipush 31, 2) := by decide +kernel
theorem d12_6 : decode jdk_52_method_15_code 6 = .ok (.iushr, 1) := by decide +kernel
theorem d12_7 : decode jdk_52_method_15_code 7 = .ok (.i2b, 1) := by decide +kernel
theorem d12_8 : decode jdk_52_method_15_code 8 = .ok (.ireturn, 1) := by decide +kernel
set_option maxRecDepth 65536 in
set_option maxHeartbeats 40000000 in
theorem co12_1 (l : Launch) (Z : State) (a0 : Array Value) (hw : ∀ d ∈ tables_1, d.before a0 Z = true) (b : Addr) (v0 : Value) (h0 : Heap) (A_b : AV Z h0 b .byte [v0]) : Co l (⟨"java/lang/StringUTF16", "coderFromArrayLen", "([BI)B"⟩ : MethodName) jdk_52_method_15_code 2 (some .byte) [] ({ frames := 0, cells := 0, slots := 0, locals := 0 } : Room) Z h0 #[(.ref b), (.int (1 : Int32))] (Pu h0 (some (.int ((0 : Int32) )))) := by
  refine Co.of (plainFor_of_name pn_1) ?_
  intro p_ e_ s_ m_ below meth c_ T0 X0 hx hby hml hown hnm hret hlk hZ eq0
  refine Go.cast (ef12_1 m_ b ) ?_
  refine g_iloadN X0 hx rfl (hb hby d12_0) 1 rfl ?_
  refine g_aloadN X0 hx rfl rfl (hb hby d12_1) 2 rfl ?_
  refine g_arraylength X0 hx hZ eq0 A_b (1 : Int32) rfl (hb hby d12_2) 3 rfl ?_
  refine g_isub X0 hx (hb hby d12_3) 4 rfl ?_
  show Go p_ e_ below _ T0 (mkF m_ 4 #[.val (.ref b), .val (.int (1 : Int32))] [(.int (0 : Int32))])
  refine g_bipush X0 hx (31 : Int32) rfl (hb hby d12_4) 6 rfl ?_
  refine g_iushr X0 hx (hb hby d12_6) 7 rfl ?_
  refine g_i2b X0 hx (hb hby d12_7) 8 rfl ?_
  exact g_retb X0 hx hret hlk (by decide) (by decide) (hb hby d12_8) ⟨congrArg (fun z => some (Value.int z)) (by decide), eq0, rfl⟩
def Q3_1 (Z : State) (a : Addr) (b : Addr) (c0 : Int32) (cs : Int32) (h0 : Heap) (n0 : Nat) (v : Option Value) (h : Heap) (L : List Loc) : Prop := v = none ∧ Fr n0 L ∧ Keep h0 h [a] ∧ Exa Z h a "java/lang/String" ∧ Fld Z h a "java/lang/String" "coder" "B" (.int (0 : Int32)) ∧ ∃ d, h0.size ≤ d ∧ Fld Z h a "java/lang/String" "value" "[B" (.ref d) ∧ AV Z h d .byte [(.int c0.toInt8.toInt32.toInt8.toInt32)] ∧ Exa Z h d "[B"
theorem ef3_1 (m_ : MethodId) (a : Addr) (b : Addr)  : entryFrame m_ #[(.ref a), (.ref b), (.int (0 : Int32)), (.int (1 : Int32)), .null] 6 = mkF m_ 0 #[.val (.ref a), .val (.ref b), .val (.int (0 : Int32)), .val (.int (1 : Int32)), .val .null, .unset] [] := by first | (simp [entryFrame, mkF, argsToLocals, Value.category]; done) | rfl
theorem d3_0 : decode jdk_42_method_149_code 0 = .ok (.aload_n 0, 1) := by decide +kernel
theorem d3_1 : decode jdk_42_method_149_code 1 = .ok (.invokespecial 1, 3) := by decide +kernel
theorem d3_4 : decode jdk_42_method_149_code 4 = .ok (.iload_n 3, 1) := by decide +kernel
theorem d3_5 : decode jdk_42_method_149_code 5 = .ok (.ifCond .ne 22, 3) := by decide +kernel
theorem d3_27 : decode jdk_42_method_149_code 27 = .ok (.getstatic 38, 3) := by decide +kernel
theorem d3_30 : decode jdk_42_method_149_code 30 = .ok (.ifCond .eq 28, 3) := by decide +kernel
theorem d3_33 : decode jdk_42_method_149_code 33 = .ok (.aload_n 1, 1) := by decide +kernel
theorem d3_34 : decode jdk_42_method_149_code 34 = .ok (.iload_n 2, 1) := by decide +kernel
theorem d3_35 : decode jdk_42_method_149_code 35 = .ok (.iload_n 3, 1) := by decide +kernel
theorem pd_15 : parseMethodDescriptor "([CII)[B" = some ⟨[(.array .char), .int, .int], some (.array .byte)⟩ := by decide +kernel
theorem d3_36 : decode jdk_42_method_149_code 36 = .ok (.invokestatic 177, 3) := by decide +kernel
theorem d3_39 : decode jdk_42_method_149_code 39 = .ok (.astore 5, 2) := by decide +kernel
theorem d3_41 : decode jdk_42_method_149_code 41 = .ok (.aload_n 0, 1) := by decide +kernel
theorem d3_42 : decode jdk_42_method_149_code 42 = .ok (.aload 5, 2) := by decide +kernel
theorem d3_44 : decode jdk_42_method_149_code 44 = .ok (.iload_n 3, 1) := by decide +kernel
theorem pd_16 : parseMethodDescriptor "([BI)B" = some ⟨[(.array .byte), .int], some .byte⟩ := by decide +kernel
theorem d3_45 : decode jdk_42_method_149_code 45 = .ok (.invokestatic 47, 3) := by decide +kernel
theorem d3_48 : decode jdk_42_method_149_code 48 = .ok (.putfield 15, 3) := by decide +kernel
theorem d3_51 : decode jdk_42_method_149_code 51 = .ok (.aload_n 0, 1) := by decide +kernel
theorem d3_52 : decode jdk_42_method_149_code 52 = .ok (.aload 5, 2) := by decide +kernel
theorem d3_54 : decode jdk_42_method_149_code 54 = .ok (.putfield 9, 3) := by decide +kernel
theorem d3_57 : decode jdk_42_method_149_code 57 = .ok (.return_, 1) := by decide +kernel
set_option maxRecDepth 65536 in
set_option maxHeartbeats 40000000 in
theorem co3_1 (l : Launch) (Z : State) (a0 : Array Value) (hw : ∀ d ∈ tables_1, d.before a0 Z = true) (a : Addr) (b : Addr) (c0 : Int32) (cs : Int32) (h0 : Heap) (n0 : Nat) (Z0 : n0 ≤ h0.size)  (g_a : n0 ≤ a) (E_a : Exa Z h0 a "java/lang/String") (F_c : Fld Z h0 a "java/lang/String" "coder" "B" (.int (0 : Int32))) (F_v : Fld Z h0 a "java/lang/String" "value" "[B" .null) (A_b : AV Z h0 b .char [(.int c0)]) (nba : a ≠ b) (S_cs : Sta Z h0 "java/lang/String" "COMPACT_STRINGS" "Z" (.int cs)) (hcs : ¬ cs = (0 : Int32)) (l0 : ¬ (255 : Int32) < c0) : Co l (⟨"java/lang/String", "<init>", "([CIILjava/lang/Void;)V"⟩ : MethodName) jdk_42_method_149_code 6 none [] ({ frames := 2, cells := 1, slots := 1, locals := 35 } : Room) Z h0 #[(.ref a), (.ref b), (.int (0 : Int32)), (.int (1 : Int32)), .null] (Q3_1 Z a b c0 cs h0 n0) := by
  refine Co.of (plainFor_of_name pn_3) ?_
  intro p_ e_ s_ m_ below meth c_ T0 X0 hx hby hml hown hnm hret hlk hZ eq0
  have N0 := Fr.nil n0
  refine Go.cast (ef3_1 m_ a b ) ?_
  refine g_aloadN X0 hx rfl rfl (hb hby d3_0) 1 rfl ?_
  refine g_initO X0 hx hZ hown (wd hw 15 rfl) (wd hw 16 rfl) (wd hw 17 rfl) eq0 (by rw [hml]; rfl) (hb hby d3_1) (by decide) 0 (Nat.le_of_eq rfl) (by decide) 4 rfl (fun T101 X102 e103 => ?_)
  show Go p_ e_ below _ T101 (mkF m_ 4 #[.val (.ref a), .val (.ref b), .val (.int (0 : Int32)), .val (.int (1 : Int32)), .val .null, .unset] [])
  refine g_iloadN X102 hx rfl (hb hby d3_4) 5 rfl ?_
  refine g_if_ne X102 hx (hb hby d3_5) 27 8 (by decide) rfl rfl (fun q5 => ?_) (fun q5 => ?_)
  · refine g_getstatic X102 hx hZ hown (host := "") (Or.inl (wd hw 61 rfl)) Via.refl S_cs e103 (hb hby d3_27) 30 rfl (fun T104 X105 e106 => ?_)
    show Go p_ e_ below _ T104 (mkF m_ 30 #[.val (.ref a), .val (.ref b), .val (.int (0 : Int32)), .val (.int (1 : Int32)), .val .null, .unset] [(.int cs)])
    refine g_if_eq X105 hx (hb hby d3_30) 58 33 (by decide) rfl rfl (fun q30 => ?_) (fun q30 => ?_)
    · exact absurd q30 hcs
    · refine g_aloadN X105 hx rfl rfl (hb hby d3_33) 34 rfl ?_
      refine g_iloadN X105 hx rfl (hb hby d3_34) 35 rfl ?_
      refine g_iloadN X105 hx rfl (hb hby d3_35) 36 rfl ?_
      refine g_callS X105 hx hZ hown (wd hw 62 rfl) (wd hw 63 rfl) (wd hw 64 rfl) (wd hw 65 rfl) (by decide) e106 [(.ref b), (.int (0 : Int32)), (.int (1 : Int32))] [] rfl (co10_1 l Z a0 hw b c0 h0 n0 Z0 A_b l0) (lenOf pd_15 rfl) 0 (Nat.le_of_eq rfl) (by decide) (by decide) (by decide) (by decide) (by rw [hml]; rfl) (hb hby d3_36) 39 rfl (fun r107 T108 L109 X110 Q111 => ?_)
      obtain ⟨h112, e113⟩ : ∃ h, T108.heap = h := ⟨_, rfl⟩
      rw [e113] at Q111
      obtain ⟨b114, rfl, n115, K116, sz117, A118, E119⟩ := Q111
      have N120 := Fr.app N0 n115
      have ne121 : a ≠ b114 := Nat.ne_of_lt (Nat.lt_of_lt_of_le E_a.lt sz117)
      have ne122 : b ≠ b114 := Nat.ne_of_lt (Nat.lt_of_lt_of_le A_b.lt sz117)
      have F123 := E_a.keep K116
      have F124 := F_c.keep K116 nin0
      have F125 := F_v.keep K116 nin0
      have F126 := A_b.keep K116 nin0
      have F127 := own_sta_keep S_cs K116 ns0
      have szh128 : n0 ≤ h112.size := Nat.le_trans Z0 K116.1
      have K129 := (Keep.refl h0 [a]).trans K116 all0
      show Go p_ e_ below _ T108 (mkF m_ 39 #[.val (.ref a), .val (.ref b), .val (.int (0 : Int32)), .val (.int (1 : Int32)), .val .null, .unset] [(.ref b114)])
      refine g_astore X110 hx #[.val (.ref a), .val (.ref b), .val (.int (0 : Int32)), .val (.int (1 : Int32)), .val .null, .val (.ref b114)] rfl rfl (hb hby d3_39) 41 rfl ?_
      refine g_aloadN X110 hx rfl rfl (hb hby d3_41) 42 rfl ?_
      refine g_aload X110 hx rfl rfl (hb hby d3_42) 44 rfl ?_
      refine g_iloadN X110 hx rfl (hb hby d3_44) 45 rfl ?_
      refine g_callS X110 hx hZ hown (wd hw 69 rfl) (wd hw 70 rfl) (wd hw 64 rfl) (wd hw 71 rfl) (by decide) e113 [(.ref b114), (.int (1 : Int32))] [(.ref a)]  rfl (co12_1 l Z a0 hw b114 (.int c0.toInt8.toInt32.toInt8.toInt32) h112 A118) (lenOf pd_16 rfl) 1 (Nat.le_of_eq rfl) (by decide) (by decide) (by decide) (by decide) (by rw [hml]; rfl) (hb hby d3_45) 48 rfl (pu_cont fun T131 X130 e132 => ?_)
      show Go p_ e_ below _ T131 (mkF m_ 48 #[.val (.ref a), .val (.ref b), .val (.int (0 : Int32)), .val (.int (1 : Int32)), .val .null, .val (.ref b114)] [(.int (0 : Int32)), (.ref a)])
      refine g_putfield X130 hx hZ hown (host := "") (Or.inl (wd hw 25 rfl)) Via.refl e132 F124 F123 (Or.inr ⟨(wd hw 21 rfl), rfl, hnm⟩) (wd hw 5 rfl) (ty := .byte) (by decide) rfl rfl (hb hby d3_48) 51 rfl (fun T133 h134 X135 e136 W137 => ?_)
      have F138 := F123.wr W137
      have F139 := F124.same W137
      have F140 := F125.other W137 (Or.inr (slot_ne (Or.inr (wd hw 20 rfl)) (Or.inr (wd hw 21 rfl)) (by decide) (t := (.array .byte)) (t' := .byte) (by decide) (by decide)))
      have F141 := F126.other W137 (Ne.symm nba)
      have F142 := F127.wr W137
      have F143 := A118.other W137 (Ne.symm ne121)
      have F144 := E119.wr W137
      have N145 := Fr.snoc X135 N120 g_a
      have szh146 : n0 ≤ h134.size := Nat.le_trans szh128 (Nat.le_of_eq W137.size.symm)
      have K147 := K129.wr W137 (Or.inl (List.mem_of_getElem? (i := 0) rfl))
      show Go p_ e_ below _ T133 (mkF m_ 51 #[.val (.ref a), .val (.ref b), .val (.int (0 : Int32)), .val (.int (1 : Int32)), .val .null, .val (.ref b114)] [])
      refine g_aloadN X135 hx rfl rfl (hb hby d3_51) 52 rfl ?_
      refine g_aload X135 hx rfl rfl (hb hby d3_52) 54 rfl ?_
      refine g_putfield X135 hx hZ hown (host := "") (Or.inl (wd hw 24 rfl)) Via.refl e136 F140 F138 (Or.inr ⟨(wd hw 20 rfl), rfl, hnm⟩) (wd hw 5 rfl) (ty := (.array .byte)) (by decide) rfl rfl (hb hby d3_54) 57 rfl (fun T148 h149 X150 e151 W152 => ?_)
      have F153 := F138.wr W152
      have F154 := F139.other W152 (Or.inr (slot_ne (Or.inr (wd hw 21 rfl)) (Or.inr (wd hw 20 rfl)) (by decide) (t := .byte) (t' := (.array .byte)) (by decide) (by decide)))
      have F155 := F140.same W152
      have F156 := F141.other W152 (Ne.symm nba)
      have F157 := F142.wr W152
      have F158 := F143.other W152 (Ne.symm ne121)
      have F159 := F144.wr W152
      have N160 := Fr.snoc X150 N145 g_a
      have szh161 : n0 ≤ h149.size := Nat.le_trans szh146 (Nat.le_of_eq W152.size.symm)
      have K162 := K147.wr W152 (Or.inl (List.mem_of_getElem? (i := 0) rfl))
      show Go p_ e_ below _ T148 (mkF m_ 57 #[.val (.ref a), .val (.ref b), .val (.int (0 : Int32)), .val (.int (1 : Int32)), .val .null, .val (.ref b114)] [])
      exact g_retv X150 hx hret hlk (by decide) (by decide) (hb hby d3_57) (by rw [e151]; exact ⟨rfl, N160, K162, F153, F154, b114, sz117, F155, F158, F159⟩)
  · exact absurd q5 (by decide)
def Q2_1 (Z : State) (a : Addr) (b : Addr) (c0 : Int32) (cs : Int32) (h0 : Heap) (n0 : Nat) (v : Option Value) (h : Heap) (L : List Loc) : Prop := v = none ∧ Fr n0 L ∧ Keep h0 h [a] ∧ Exa Z h a "java/lang/String" ∧ Fld Z h a "java/lang/String" "coder" "B" (.int (0 : Int32)) ∧ ∃ d, h0.size ≤ d ∧ Fld Z h a "java/lang/String" "value" "[B" (.ref d) ∧ AV Z h d .byte [(.int c0.toInt8.toInt32.toInt8.toInt32)] ∧ Exa Z h d "[B"
theorem ef2_1 (m_ : MethodId) (a : Addr) (b : Addr)  : entryFrame m_ #[(.ref a), (.ref b)] 2 = mkF m_ 0 #[.val (.ref a), .val (.ref b)] [] := by first | (simp [entryFrame, mkF, argsToLocals, Value.category]; done) | rfl
theorem d2_0 : decode jdk_42_method_3_code 0 = .ok (.aload_n 0, 1) := by decide +kernel
theorem d2_1 : decode jdk_42_method_3_code 1 = .ok (.aload_n 1, 1) := by decide +kernel
theorem d2_2 : decode jdk_42_method_3_code 2 = .ok (.iconst 0, 1) := by decide +kernel
theorem d2_3 : decode jdk_42_method_3_code 3 = .ok (.aload_n 1, 1) := by decide +kernel
theorem d2_4 : decode jdk_42_method_3_code 4 = .ok (.arraylength, 1) := by decide +kernel
theorem d2_5 : decode jdk_42_method_3_code 5 = .ok (.aconst_null, 1) := by decide +kernel
theorem pd_17 : parseMethodDescriptor "([CIILjava/lang/Void;)V" = some ⟨[(.array .char), .int, .int, (.object "java/lang/Void")], none⟩ := by decide +kernel
theorem d2_6 : decode jdk_42_method_3_code 6 = .ok (.invokespecial 27, 3) := by decide +kernel
theorem d2_9 : decode jdk_42_method_3_code 9 = .ok (.return_, 1) := by decide +kernel
set_option maxRecDepth 65536 in
set_option maxHeartbeats 40000000 in
theorem co2_1 (l : Launch) (Z : State) (a0 : Array Value) (hw : ∀ d ∈ tables_1, d.before a0 Z = true) (a : Addr) (b : Addr) (c0 : Int32) (cs : Int32) (h0 : Heap) (n0 : Nat) (Z0 : n0 ≤ h0.size)  (g_a : n0 ≤ a) (E_a : Exa Z h0 a "java/lang/String") (F_c : Fld Z h0 a "java/lang/String" "coder" "B" (.int (0 : Int32))) (F_v : Fld Z h0 a "java/lang/String" "value" "[B" .null) (A_b : AV Z h0 b .char [(.int c0)]) (nba : a ≠ b) (S_cs : Sta Z h0 "java/lang/String" "COMPACT_STRINGS" "Z" (.int cs)) (hcs : ¬ cs = (0 : Int32)) (l0 : ¬ (255 : Int32) < c0) : Co l (⟨"java/lang/String", "<init>", "([C)V"⟩ : MethodName) jdk_42_method_3_code 2 none [] ({ frames := 3, cells := 1, slots := 1, locals := 52 } : Room) Z h0 #[(.ref a), (.ref b)] (Q2_1 Z a b c0 cs h0 n0) := by
  refine Co.of (plainFor_of_name pn_3) ?_
  intro p_ e_ s_ m_ below meth c_ T0 X0 hx hby hml hown hnm hret hlk hZ eq0
  have N0 := Fr.nil n0
  refine Go.cast (ef2_1 m_ a b ) ?_
  refine g_aloadN X0 hx rfl rfl (hb hby d2_0) 1 rfl ?_
  refine g_aloadN X0 hx rfl rfl (hb hby d2_1) 2 rfl ?_
  refine g_iconst X0 hx (0 : Int32) rfl (hb hby d2_2) 3 rfl ?_
  refine g_aloadN X0 hx rfl rfl (hb hby d2_3) 4 rfl ?_
  refine g_arraylength X0 hx hZ eq0 A_b (1 : Int32) rfl (hb hby d2_4) 5 rfl ?_
  refine g_aconst_null X0 hx (hb hby d2_5) 6 rfl ?_
  refine g_init X0 hx hZ hown (wd hw 11 rfl) rfl (wd hw 12 rfl) (wd hw 6 rfl) (wd hw 14 rfl) (by decide) eq0 [(.ref b), (.int (0 : Int32)), (.int (1 : Int32)), .null] [] rfl (co3_1 l Z a0 hw a b c0 cs h0 n0 Z0 g_a E_a F_c F_v A_b nba S_cs hcs l0) (lenOf pd_17 rfl) 0 (Nat.le_of_eq rfl) (by decide) (by decide) (by decide) (by decide) (by rw [hml]; rfl) (hb hby d2_6) 9 rfl (fun r101 T102 L103 X104 Q105 => ?_)
  obtain ⟨h106, e107⟩ : ∃ h, T102.heap = h := ⟨_, rfl⟩
  rw [e107] at Q105
  obtain ⟨rfl, n108, K109, E110, F111, b112, sz113, F114, A115, E116⟩ := Q105
  have N117 := Fr.app N0 n108
  have ne118 : a ≠ b112 := Nat.ne_of_lt (Nat.lt_of_lt_of_le E_a.lt sz113)
  have ne119 : b ≠ b112 := Nat.ne_of_lt (Nat.lt_of_lt_of_le A_b.lt sz113)
  have F120 := E_a.keep K109
  have F121 := A_b.keep K109 (ninS (Ne.symm nba) nin0)
  have F122 := own_sta_keep S_cs K109 (nsS E_a.nostat ns0)
  have szh123 : n0 ≤ h106.size := Nat.le_trans Z0 K109.1
  have K124 := (Keep.refl h0 [a]).trans K109 (allS (Or.inl (List.mem_of_getElem? (i := 0) rfl)) all0)
  show Go p_ e_ below _ T102 (mkF m_ 9 #[.val (.ref a), .val (.ref b)] [])
  exact g_retv X104 hx hret hlk (by decide) (by decide) (hb hby d2_9) (by rw [e107]; exact ⟨rfl, N117, K124, E110, F111, b112, sz113, F114, A115, E116⟩)
def Q11_2 (Z : State) (b : Addr) (d : Addr) (c0 : Int32) (c1 : Int32) (h0 : Heap) (n0 : Nat) (v : Option Value) (h : Heap) (L : List Loc) : Prop := v = some (.int (2 : Int32)) ∧ Fr n0 L ∧ Keep h0 h [d] ∧ AV Z h d .byte [(.int c0.toInt8.toInt32.toInt8.toInt32), (.int c1.toInt8.toInt32.toInt8.toInt32)]
theorem ef11_2 (m_ : MethodId) (b : Addr) (d : Addr)  : entryFrame m_ #[(.ref b), (.int (0 : Int32)), (.ref d), (.int (0 : Int32)), (.int (2 : Int32))] 7 = mkF m_ 0 #[.val (.ref b), .val (.int (0 : Int32)), .val (.ref d), .val (.int (0 : Int32)), .val (.int (2 : Int32)), .unset, .unset] [] := by first | (simp [entryFrame, mkF, argsToLocals, Value.category]; done) | rfl
set_option maxRecDepth 65536 in
set_option maxHeartbeats 40000000 in
theorem co11_2 (l : Launch) (Z : State) (a0 : Array Value) (hw : ∀ d ∈ tables_1, d.before a0 Z = true) (b : Addr) (d : Addr) (c0 : Int32) (c1 : Int32) (h0 : Heap) (n0 : Nat) (Z0 : n0 ≤ h0.size)  (g_d : n0 ≤ d) (A_b : AV Z h0 b .char [(.int c0), (.int c1)]) (A_d : AV Z h0 d .byte [(.int (0 : Int32)), (.int (0 : Int32))]) (nbd : b ≠ d) (l0 : ¬ (255 : Int32) < c0) (l1 : ¬ (255 : Int32) < c1) : Co l (⟨"java/lang/StringUTF16", "compress", "([CI[BII)I"⟩ : MethodName) jdk_52_method_21_code 7 (some .int) [] ({ frames := 0, cells := 0, slots := 0, locals := 0 } : Room) Z h0 #[(.ref b), (.int (0 : Int32)), (.ref d), (.int (0 : Int32)), (.int (2 : Int32))] (Q11_2 Z b d c0 c1 h0 n0) := by
  refine Co.of (plainFor_of_name pn_1) ?_
  intro p_ e_ s_ m_ below meth c_ T0 X0 hx hby hml hown hnm hret hlk hZ eq0
  have N0 := Fr.nil n0
  refine Go.cast (ef11_2 m_ b d ) ?_
  refine g_iconst X0 hx (0 : Int32) rfl (hb hby d11_0) 1 rfl ?_
  refine g_istore X0 hx #[.val (.ref b), .val (.int (0 : Int32)), .val (.ref d), .val (.int (0 : Int32)), .val (.int (2 : Int32)), .val (.int (0 : Int32)), .unset] rfl (hb hby d11_1) 3 rfl ?_
  refine g_iload X0 hx rfl (hb hby d11_3) 5 rfl ?_
  refine g_iload X0 hx rfl (hb hby d11_5) 7 rfl ?_
  refine g_icmp_ge X0 hx (hb hby d11_7) 44 10 (by decide) rfl rfl (fun q101 => ?_) (fun q101 => ?_)
  · exact absurd q101 (by decide)
  · refine g_aloadN X0 hx rfl rfl (hb hby d11_10) 11 rfl ?_
    refine g_iloadN X0 hx rfl (hb hby d11_11) 12 rfl ?_
    refine g_caload X0 hx hZ eq0 A_b (by decide) rfl (hb hby d11_12) 13 rfl ?_
    show Go p_ e_ below _ T0 (mkF m_ 13 #[.val (.ref b), .val (.int (0 : Int32)), .val (.ref d), .val (.int (0 : Int32)), .val (.int (2 : Int32)), .val (.int (0 : Int32)), .unset] [(.int c0)])
    refine g_istore X0 hx #[.val (.ref b), .val (.int (0 : Int32)), .val (.ref d), .val (.int (0 : Int32)), .val (.int (2 : Int32)), .val (.int (0 : Int32)), .val (.int c0)] rfl (hb hby d11_13) 15 rfl ?_
    refine g_iload X0 hx rfl (hb hby d11_15) 17 rfl ?_
    refine g_sipush X0 hx (255 : Int32) rfl (hb hby d11_17) 20 rfl ?_
    refine g_icmp_le X0 hx (hb hby d11_20) 26 23 (by decide) rfl rfl (fun q102 => ?_) (fun q102 => ?_)
    · refine g_aloadN X0 hx rfl rfl (hb hby d11_26) 27 rfl ?_
      refine g_iloadN X0 hx rfl (hb hby d11_27) 28 rfl ?_
      refine g_iload X0 hx rfl (hb hby d11_28) 30 rfl ?_
      refine g_i2b X0 hx (hb hby d11_30) 31 rfl ?_
      refine g_bastore X0 hx hZ eq0 A_d (by decide) (Nat.le_of_ble_eq_true rfl) (hb hby d11_31) 32 rfl (fun T103 h104 X105 e106 W107 A108 => ?_)
      have A109 : AV Z h104 d .byte [(.int c0.toInt8.toInt32.toInt8.toInt32), (.int (0 : Int32))] := A108
      have F110 := A_b.other W107 nbd
      have F111 := A109
      have N112 := Fr.snoc X105 N0 g_d
      have szh113 : n0 ≤ h104.size := Nat.le_trans Z0 (Nat.le_of_eq W107.size.symm)
      have K114 := (Keep.refl h0 [d]).wr W107 (Or.inl (List.mem_of_getElem? (i := 0) rfl))
      show Go p_ e_ below _ T103 (mkF m_ 32 #[.val (.ref b), .val (.int (0 : Int32)), .val (.ref d), .val (.int (0 : Int32)), .val (.int (2 : Int32)), .val (.int (0 : Int32)), .val (.int c0)] [])
      refine g_iinc X105 hx (1 : Int32) rfl rfl #[.val (.ref b), .val (.int (1 : Int32)), .val (.ref d), .val (.int (0 : Int32)), .val (.int (2 : Int32)), .val (.int (0 : Int32)), .val (.int c0)] rfl (hb hby d11_32) 35 rfl ?_
      refine g_iinc X105 hx (1 : Int32) rfl rfl #[.val (.ref b), .val (.int (1 : Int32)), .val (.ref d), .val (.int (1 : Int32)), .val (.int (2 : Int32)), .val (.int (0 : Int32)), .val (.int c0)] rfl (hb hby d11_35) 38 rfl ?_
      refine g_iinc X105 hx (1 : Int32) rfl rfl #[.val (.ref b), .val (.int (1 : Int32)), .val (.ref d), .val (.int (1 : Int32)), .val (.int (2 : Int32)), .val (.int (1 : Int32)), .val (.int c0)] rfl (hb hby d11_38) 41 rfl ?_
      refine g_goto X105 hx (hb hby d11_41) 3 (by decide) rfl ?_
      refine g_iload X105 hx rfl (hb hby d11_3) 5 rfl ?_
      refine g_iload X105 hx rfl (hb hby d11_5) 7 rfl ?_
      refine g_icmp_ge X105 hx (hb hby d11_7) 44 10 (by decide) rfl rfl (fun q115 => ?_) (fun q115 => ?_)
      · exact absurd q115 (by decide)
      · refine g_aloadN X105 hx rfl rfl (hb hby d11_10) 11 rfl ?_
        refine g_iloadN X105 hx rfl (hb hby d11_11) 12 rfl ?_
        refine g_caload X105 hx hZ e106 F110 (by decide) rfl (hb hby d11_12) 13 rfl ?_
        show Go p_ e_ below _ T103 (mkF m_ 13 #[.val (.ref b), .val (.int (1 : Int32)), .val (.ref d), .val (.int (1 : Int32)), .val (.int (2 : Int32)), .val (.int (1 : Int32)), .val (.int c0)] [(.int c1)])
        refine g_istore X105 hx #[.val (.ref b), .val (.int (1 : Int32)), .val (.ref d), .val (.int (1 : Int32)), .val (.int (2 : Int32)), .val (.int (1 : Int32)), .val (.int c1)] rfl (hb hby d11_13) 15 rfl ?_
        refine g_iload X105 hx rfl (hb hby d11_15) 17 rfl ?_
        refine g_sipush X105 hx (255 : Int32) rfl (hb hby d11_17) 20 rfl ?_
        refine g_icmp_le X105 hx (hb hby d11_20) 26 23 (by decide) rfl rfl (fun q116 => ?_) (fun q116 => ?_)
        · refine g_aloadN X105 hx rfl rfl (hb hby d11_26) 27 rfl ?_
          refine g_iloadN X105 hx rfl (hb hby d11_27) 28 rfl ?_
          refine g_iload X105 hx rfl (hb hby d11_28) 30 rfl ?_
          refine g_i2b X105 hx (hb hby d11_30) 31 rfl ?_
          refine g_bastore X105 hx hZ e106 A109 (by decide) (Nat.le_of_ble_eq_true rfl) (hb hby d11_31) 32 rfl (fun T117 h118 X119 e120 W121 A122 => ?_)
          have A123 : AV Z h118 d .byte [(.int c0.toInt8.toInt32.toInt8.toInt32), (.int c1.toInt8.toInt32.toInt8.toInt32)] := A122
          have F124 := F110.other W121 nbd
          have F125 := A123
          have N126 := Fr.snoc X119 N112 g_d
          have szh127 : n0 ≤ h118.size := Nat.le_trans szh113 (Nat.le_of_eq W121.size.symm)
          have K128 := K114.wr W121 (Or.inl (List.mem_of_getElem? (i := 0) rfl))
          show Go p_ e_ below _ T117 (mkF m_ 32 #[.val (.ref b), .val (.int (1 : Int32)), .val (.ref d), .val (.int (1 : Int32)), .val (.int (2 : Int32)), .val (.int (1 : Int32)), .val (.int c1)] [])
          refine g_iinc X119 hx (1 : Int32) rfl rfl #[.val (.ref b), .val (.int (2 : Int32)), .val (.ref d), .val (.int (1 : Int32)), .val (.int (2 : Int32)), .val (.int (1 : Int32)), .val (.int c1)] rfl (hb hby d11_32) 35 rfl ?_
          refine g_iinc X119 hx (1 : Int32) rfl rfl #[.val (.ref b), .val (.int (2 : Int32)), .val (.ref d), .val (.int (2 : Int32)), .val (.int (2 : Int32)), .val (.int (1 : Int32)), .val (.int c1)] rfl (hb hby d11_35) 38 rfl ?_
          refine g_iinc X119 hx (1 : Int32) rfl rfl #[.val (.ref b), .val (.int (2 : Int32)), .val (.ref d), .val (.int (2 : Int32)), .val (.int (2 : Int32)), .val (.int (2 : Int32)), .val (.int c1)] rfl (hb hby d11_38) 41 rfl ?_
          refine g_goto X119 hx (hb hby d11_41) 3 (by decide) rfl ?_
          refine g_iload X119 hx rfl (hb hby d11_3) 5 rfl ?_
          refine g_iload X119 hx rfl (hb hby d11_5) 7 rfl ?_
          refine g_icmp_ge X119 hx (hb hby d11_7) 44 10 (by decide) rfl rfl (fun q129 => ?_) (fun q129 => ?_)
          · refine g_iload X119 hx rfl (hb hby d11_44) 46 rfl ?_
            exact g_reti X119 hx hret hlk (by decide) (by decide) (hb hby d11_46) (by rw [e120]; exact ⟨rfl, N126, K128, A123⟩)
          · exact absurd q129 (by decide)
        · exact absurd q116 l1
    · exact absurd q102 l0
def Q10_2 (Z : State) (b : Addr) (c0 : Int32) (c1 : Int32) (h0 : Heap) (n0 : Nat) (v : Option Value) (h : Heap) (L : List Loc) : Prop := ∃ d, v = some (.ref d) ∧ Fr n0 L ∧ Keep h0 h [] ∧ h0.size ≤ d ∧ AV Z h d .byte [(.int c0.toInt8.toInt32.toInt8.toInt32), (.int c1.toInt8.toInt32.toInt8.toInt32)] ∧ Exa Z h d "[B"
theorem ef10_2 (m_ : MethodId) (b : Addr)  : entryFrame m_ #[(.ref b), (.int (0 : Int32)), (.int (2 : Int32))] 6 = mkF m_ 0 #[.val (.ref b), .val (.int (0 : Int32)), .val (.int (2 : Int32)), .unset, .unset, .unset] [] := by first | (simp [entryFrame, mkF, argsToLocals, Value.category]; done) | rfl
set_option maxRecDepth 65536 in
set_option maxHeartbeats 40000000 in
theorem co10_2 (l : Launch) (Z : State) (a0 : Array Value) (hw : ∀ d ∈ tables_1, d.before a0 Z = true) (b : Addr) (c0 : Int32) (c1 : Int32) (h0 : Heap) (n0 : Nat) (Z0 : n0 ≤ h0.size)   (A_b : AV Z h0 b .char [(.int c0), (.int c1)]) (l0 : ¬ (255 : Int32) < c0) (l1 : ¬ (255 : Int32) < c1) : Co l (⟨"java/lang/StringUTF16", "compress", "([CII)[B"⟩ : MethodName) jdk_52_method_16_code 6 (some (.array .byte)) [] ({ frames := 1, cells := 1, slots := 2, locals := 18 } : Room) Z h0 #[(.ref b), (.int (0 : Int32)), (.int (2 : Int32))] (Q10_2 Z b c0 c1 h0 n0) := by
  refine Co.of (plainFor_of_name pn_1) ?_
  intro p_ e_ s_ m_ below meth c_ T0 X0 hx hby hml hown hnm hret hlk hZ eq0
  have N0 := Fr.nil n0
  refine Go.cast (ef10_2 m_ b ) ?_
  refine g_iloadN X0 hx rfl (hb hby d10_0) 1 rfl ?_
  refine g_newarrayE X0 hx hZ (aty := .byte) (wd hw 19 rfl) eq0 (by decide) 2 (by decide) (by decide) (by decide) (by decide) [(.int (0 : Int32)), (.int (0 : Int32))] rfl own_bn (hb hby d10_1) 3 rfl (fun T101 h102 b103 X104 e105 g106 E107 A108 E109 => ?_)
  have ne110 : b ≠ b103 := Nat.ne_of_lt (Nat.lt_of_lt_of_eq A_b.lt g106.symm)
  have F111 := A_b.ext E107
  have sz112 : n0 ≤ b103 := Nat.le_trans Z0 (Nat.le_of_eq g106.symm)
  have szh113 : n0 ≤ h102.size := Nat.le_trans Z0 E107.1
  have szk114 : h0.size ≤ b103 := Nat.le_trans (Keep.refl h0 []).1 (Nat.le_of_eq g106.symm)
  have K115 := (Keep.refl h0 []).ext E107
  have A116 : AV Z h102 b103 .byte [(.int (0 : Int32)), (.int (0 : Int32))] := A108
  show Go p_ e_ below _ T101 (mkF m_ 3 #[.val (.ref b), .val (.int (0 : Int32)), .val (.int (2 : Int32)), .unset, .unset, .unset] [(.ref b103)])
  refine g_astoreN X104 hx #[.val (.ref b), .val (.int (0 : Int32)), .val (.int (2 : Int32)), .val (.ref b103), .unset, .unset] rfl rfl (hb hby d10_3) 4 rfl ?_
  refine g_aloadN X104 hx rfl rfl (hb hby d10_4) 5 rfl ?_
  refine g_iloadN X104 hx rfl (hb hby d10_5) 6 rfl ?_
  refine g_aloadN X104 hx rfl rfl (hb hby d10_6) 7 rfl ?_
  refine g_iconst X104 hx (0 : Int32) rfl (hb hby d10_7) 8 rfl ?_
  refine g_iloadN X104 hx rfl (hb hby d10_8) 9 rfl ?_
  refine g_callS X104 hx hZ hown (wd hw 66 rfl) (wd hw 67 rfl) (wd hw 64 rfl) (wd hw 68 rfl) (by decide) e105 [(.ref b), (.int (0 : Int32)), (.ref b103), (.int (0 : Int32)), (.int (2 : Int32))] [] rfl (co11_2 l Z a0 hw b b103 c0 c1 h102 n0 szh113 sz112 F111 A116 ne110 l0 l1) (lenOf pd_14 rfl) 0 (Nat.le_of_eq rfl) (by decide) (by decide) (by decide) (by decide) (by rw [hml]; rfl) (hb hby d10_9) 12 rfl (fun r117 T118 L119 X120 Q121 => ?_)
  obtain ⟨h122, e123⟩ : ∃ h, T118.heap = h := ⟨_, rfl⟩
  rw [e123] at Q121
  obtain ⟨rfl, n124, K125, A126⟩ := Q121
  have N127 := Fr.app N0 n124
  have F128 := F111.keep K125 (ninS ne110 nin0)
  have F129 := E109.keep K125
  have szh130 : n0 ≤ h122.size := Nat.le_trans szh113 K125.1
  have K131 := K115.trans K125 (allS (Or.inr szk114) all0)
  show Go p_ e_ below _ T118 (mkF m_ 12 #[.val (.ref b), .val (.int (0 : Int32)), .val (.int (2 : Int32)), .val (.ref b103), .unset, .unset] [(.int (2 : Int32))])
  refine g_istore X120 hx #[.val (.ref b), .val (.int (0 : Int32)), .val (.int (2 : Int32)), .val (.ref b103), .val (.int (2 : Int32)), .unset] rfl (hb hby d10_12) 14 rfl ?_
  refine g_iload X120 hx rfl (hb hby d10_14) 16 rfl ?_
  refine g_iloadN X120 hx rfl (hb hby d10_16) 17 rfl ?_
  refine g_icmp_eq X120 hx (hb hby d10_17) 57 20 (by decide) rfl rfl (fun q17 => ?_) (fun q17 => ?_)
  · refine g_aloadN X120 hx rfl rfl (hb hby d10_57) 58 rfl ?_
    exact g_reta X120 hx rfl rfl hret hlk (by decide) (by decide) (hb hby d10_58) (by rw [e123]; exact ⟨b103, rfl, N127, K131, szk114, A126, F129⟩)
  · exact absurd rfl q17
theorem ef12_2 (m_ : MethodId) (b : Addr)  : entryFrame m_ #[(.ref b), (.int (2 : Int32))] 2 = mkF m_ 0 #[.val (.ref b), .val (.int (2 : Int32))] [] := by first | (simp [entryFrame, mkF, argsToLocals, Value.category]; done) | rfl
set_option maxRecDepth 65536 in
set_option maxHeartbeats 40000000 in
theorem co12_2 (l : Launch) (Z : State) (a0 : Array Value) (hw : ∀ d ∈ tables_1, d.before a0 Z = true) (b : Addr) (v0 : Value) (v1 : Value) (h0 : Heap) (A_b : AV Z h0 b .byte [v0, v1]) : Co l (⟨"java/lang/StringUTF16", "coderFromArrayLen", "([BI)B"⟩ : MethodName) jdk_52_method_15_code 2 (some .byte) [] ({ frames := 0, cells := 0, slots := 0, locals := 0 } : Room) Z h0 #[(.ref b), (.int (2 : Int32))] (Pu h0 (some (.int ((0 : Int32) )))) := by
  refine Co.of (plainFor_of_name pn_1) ?_
  intro p_ e_ s_ m_ below meth c_ T0 X0 hx hby hml hown hnm hret hlk hZ eq0
  refine Go.cast (ef12_2 m_ b ) ?_
  refine g_iloadN X0 hx rfl (hb hby d12_0) 1 rfl ?_
  refine g_aloadN X0 hx rfl rfl (hb hby d12_1) 2 rfl ?_
  refine g_arraylength X0 hx hZ eq0 A_b (2 : Int32) rfl (hb hby d12_2) 3 rfl ?_
  refine g_isub X0 hx (hb hby d12_3) 4 rfl ?_
  show Go p_ e_ below _ T0 (mkF m_ 4 #[.val (.ref b), .val (.int (2 : Int32))] [(.int (0 : Int32))])
  refine g_bipush X0 hx (31 : Int32) rfl (hb hby d12_4) 6 rfl ?_
  refine g_iushr X0 hx (hb hby d12_6) 7 rfl ?_
  refine g_i2b X0 hx (hb hby d12_7) 8 rfl ?_
  exact g_retb X0 hx hret hlk (by decide) (by decide) (hb hby d12_8) ⟨congrArg (fun z => some (Value.int z)) (by decide), eq0, rfl⟩
def Q3_2 (Z : State) (a : Addr) (b : Addr) (c0 : Int32) (c1 : Int32) (cs : Int32) (h0 : Heap) (n0 : Nat) (v : Option Value) (h : Heap) (L : List Loc) : Prop := v = none ∧ Fr n0 L ∧ Keep h0 h [a] ∧ Exa Z h a "java/lang/String" ∧ Fld Z h a "java/lang/String" "coder" "B" (.int (0 : Int32)) ∧ ∃ d, h0.size ≤ d ∧ Fld Z h a "java/lang/String" "value" "[B" (.ref d) ∧ AV Z h d .byte [(.int c0.toInt8.toInt32.toInt8.toInt32), (.int c1.toInt8.toInt32.toInt8.toInt32)] ∧ Exa Z h d "[B"
theorem ef3_2 (m_ : MethodId) (a : Addr) (b : Addr)  : entryFrame m_ #[(.ref a), (.ref b), (.int (0 : Int32)), (.int (2 : Int32)), .null] 6 = mkF m_ 0 #[.val (.ref a), .val (.ref b), .val (.int (0 : Int32)), .val (.int (2 : Int32)), .val .null, .unset] [] := by first | (simp [entryFrame, mkF, argsToLocals, Value.category]; done) | rfl
set_option maxRecDepth 65536 in
set_option maxHeartbeats 40000000 in
theorem co3_2 (l : Launch) (Z : State) (a0 : Array Value) (hw : ∀ d ∈ tables_1, d.before a0 Z = true) (a : Addr) (b : Addr) (c0 : Int32) (c1 : Int32) (cs : Int32) (h0 : Heap) (n0 : Nat) (Z0 : n0 ≤ h0.size)  (g_a : n0 ≤ a) (E_a : Exa Z h0 a "java/lang/String") (F_c : Fld Z h0 a "java/lang/String" "coder" "B" (.int (0 : Int32))) (F_v : Fld Z h0 a "java/lang/String" "value" "[B" .null) (A_b : AV Z h0 b .char [(.int c0), (.int c1)]) (nba : a ≠ b) (S_cs : Sta Z h0 "java/lang/String" "COMPACT_STRINGS" "Z" (.int cs)) (hcs : ¬ cs = (0 : Int32)) (l0 : ¬ (255 : Int32) < c0) (l1 : ¬ (255 : Int32) < c1) : Co l (⟨"java/lang/String", "<init>", "([CIILjava/lang/Void;)V"⟩ : MethodName) jdk_42_method_149_code 6 none [] ({ frames := 2, cells := 1, slots := 2, locals := 35 } : Room) Z h0 #[(.ref a), (.ref b), (.int (0 : Int32)), (.int (2 : Int32)), .null] (Q3_2 Z a b c0 c1 cs h0 n0) := by
  refine Co.of (plainFor_of_name pn_3) ?_
  intro p_ e_ s_ m_ below meth c_ T0 X0 hx hby hml hown hnm hret hlk hZ eq0
  have N0 := Fr.nil n0
  refine Go.cast (ef3_2 m_ a b ) ?_
  refine g_aloadN X0 hx rfl rfl (hb hby d3_0) 1 rfl ?_
  refine g_initO X0 hx hZ hown (wd hw 15 rfl) (wd hw 16 rfl) (wd hw 17 rfl) eq0 (by rw [hml]; rfl) (hb hby d3_1) (by decide) 0 (Nat.le_of_eq rfl) (by decide) 4 rfl (fun T101 X102 e103 => ?_)
  show Go p_ e_ below _ T101 (mkF m_ 4 #[.val (.ref a), .val (.ref b), .val (.int (0 : Int32)), .val (.int (2 : Int32)), .val .null, .unset] [])
  refine g_iloadN X102 hx rfl (hb hby d3_4) 5 rfl ?_
  refine g_if_ne X102 hx (hb hby d3_5) 27 8 (by decide) rfl rfl (fun q5 => ?_) (fun q5 => ?_)
  · refine g_getstatic X102 hx hZ hown (host := "") (Or.inl (wd hw 61 rfl)) Via.refl S_cs e103 (hb hby d3_27) 30 rfl (fun T104 X105 e106 => ?_)
    show Go p_ e_ below _ T104 (mkF m_ 30 #[.val (.ref a), .val (.ref b), .val (.int (0 : Int32)), .val (.int (2 : Int32)), .val .null, .unset] [(.int cs)])
    refine g_if_eq X105 hx (hb hby d3_30) 58 33 (by decide) rfl rfl (fun q30 => ?_) (fun q30 => ?_)
    · exact absurd q30 hcs
    · refine g_aloadN X105 hx rfl rfl (hb hby d3_33) 34 rfl ?_
      refine g_iloadN X105 hx rfl (hb hby d3_34) 35 rfl ?_
      refine g_iloadN X105 hx rfl (hb hby d3_35) 36 rfl ?_
      refine g_callS X105 hx hZ hown (wd hw 62 rfl) (wd hw 63 rfl) (wd hw 64 rfl) (wd hw 65 rfl) (by decide) e106 [(.ref b), (.int (0 : Int32)), (.int (2 : Int32))] [] rfl (co10_2 l Z a0 hw b c0 c1 h0 n0 Z0 A_b l0 l1) (lenOf pd_15 rfl) 0 (Nat.le_of_eq rfl) (by decide) (by decide) (by decide) (by decide) (by rw [hml]; rfl) (hb hby d3_36) 39 rfl (fun r107 T108 L109 X110 Q111 => ?_)
      obtain ⟨h112, e113⟩ : ∃ h, T108.heap = h := ⟨_, rfl⟩
      rw [e113] at Q111
      obtain ⟨b114, rfl, n115, K116, sz117, A118, E119⟩ := Q111
      have N120 := Fr.app N0 n115
      have ne121 : a ≠ b114 := Nat.ne_of_lt (Nat.lt_of_lt_of_le E_a.lt sz117)
      have ne122 : b ≠ b114 := Nat.ne_of_lt (Nat.lt_of_lt_of_le A_b.lt sz117)
      have F123 := E_a.keep K116
      have F124 := F_c.keep K116 nin0
      have F125 := F_v.keep K116 nin0
      have F126 := A_b.keep K116 nin0
      have F127 := own_sta_keep S_cs K116 ns0
      have szh128 : n0 ≤ h112.size := Nat.le_trans Z0 K116.1
      have K129 := (Keep.refl h0 [a]).trans K116 all0
      show Go p_ e_ below _ T108 (mkF m_ 39 #[.val (.ref a), .val (.ref b), .val (.int (0 : Int32)), .val (.int (2 : Int32)), .val .null, .unset] [(.ref b114)])
      refine g_astore X110 hx #[.val (.ref a), .val (.ref b), .val (.int (0 : Int32)), .val (.int (2 : Int32)), .val .null, .val (.ref b114)] rfl rfl (hb hby d3_39) 41 rfl ?_
      refine g_aloadN X110 hx rfl rfl (hb hby d3_41) 42 rfl ?_
      refine g_aload X110 hx rfl rfl (hb hby d3_42) 44 rfl ?_
      refine g_iloadN X110 hx rfl (hb hby d3_44) 45 rfl ?_
      refine g_callS X110 hx hZ hown (wd hw 69 rfl) (wd hw 70 rfl) (wd hw 64 rfl) (wd hw 71 rfl) (by decide) e113 [(.ref b114), (.int (2 : Int32))] [(.ref a)]  rfl (co12_2 l Z a0 hw b114 (.int c0.toInt8.toInt32.toInt8.toInt32) (.int c1.toInt8.toInt32.toInt8.toInt32) h112 A118) (lenOf pd_16 rfl) 1 (Nat.le_of_eq rfl) (by decide) (by decide) (by decide) (by decide) (by rw [hml]; rfl) (hb hby d3_45) 48 rfl (pu_cont fun T131 X130 e132 => ?_)
      show Go p_ e_ below _ T131 (mkF m_ 48 #[.val (.ref a), .val (.ref b), .val (.int (0 : Int32)), .val (.int (2 : Int32)), .val .null, .val (.ref b114)] [(.int (0 : Int32)), (.ref a)])
      refine g_putfield X130 hx hZ hown (host := "") (Or.inl (wd hw 25 rfl)) Via.refl e132 F124 F123 (Or.inr ⟨(wd hw 21 rfl), rfl, hnm⟩) (wd hw 5 rfl) (ty := .byte) (by decide) rfl rfl (hb hby d3_48) 51 rfl (fun T133 h134 X135 e136 W137 => ?_)
      have F138 := F123.wr W137
      have F139 := F124.same W137
      have F140 := F125.other W137 (Or.inr (slot_ne (Or.inr (wd hw 20 rfl)) (Or.inr (wd hw 21 rfl)) (by decide) (t := (.array .byte)) (t' := .byte) (by decide) (by decide)))
      have F141 := F126.other W137 (Ne.symm nba)
      have F142 := F127.wr W137
      have F143 := A118.other W137 (Ne.symm ne121)
      have F144 := E119.wr W137
      have N145 := Fr.snoc X135 N120 g_a
      have szh146 : n0 ≤ h134.size := Nat.le_trans szh128 (Nat.le_of_eq W137.size.symm)
      have K147 := K129.wr W137 (Or.inl (List.mem_of_getElem? (i := 0) rfl))
      show Go p_ e_ below _ T133 (mkF m_ 51 #[.val (.ref a), .val (.ref b), .val (.int (0 : Int32)), .val (.int (2 : Int32)), .val .null, .val (.ref b114)] [])
      refine g_aloadN X135 hx rfl rfl (hb hby d3_51) 52 rfl ?_
      refine g_aload X135 hx rfl rfl (hb hby d3_52) 54 rfl ?_
      refine g_putfield X135 hx hZ hown (host := "") (Or.inl (wd hw 24 rfl)) Via.refl e136 F140 F138 (Or.inr ⟨(wd hw 20 rfl), rfl, hnm⟩) (wd hw 5 rfl) (ty := (.array .byte)) (by decide) rfl rfl (hb hby d3_54) 57 rfl (fun T148 h149 X150 e151 W152 => ?_)
      have F153 := F138.wr W152
      have F154 := F139.other W152 (Or.inr (slot_ne (Or.inr (wd hw 21 rfl)) (Or.inr (wd hw 20 rfl)) (by decide) (t := .byte) (t' := (.array .byte)) (by decide) (by decide)))
      have F155 := F140.same W152
      have F156 := F141.other W152 (Ne.symm nba)
      have F157 := F142.wr W152
      have F158 := F143.other W152 (Ne.symm ne121)
      have F159 := F144.wr W152
      have N160 := Fr.snoc X150 N145 g_a
      have szh161 : n0 ≤ h149.size := Nat.le_trans szh146 (Nat.le_of_eq W152.size.symm)
      have K162 := K147.wr W152 (Or.inl (List.mem_of_getElem? (i := 0) rfl))
      show Go p_ e_ below _ T148 (mkF m_ 57 #[.val (.ref a), .val (.ref b), .val (.int (0 : Int32)), .val (.int (2 : Int32)), .val .null, .val (.ref b114)] [])
      exact g_retv X150 hx hret hlk (by decide) (by decide) (hb hby d3_57) (by rw [e151]; exact ⟨rfl, N160, K162, F153, F154, b114, sz117, F155, F158, F159⟩)
  · exact absurd q5 (by decide)
def Q2_2 (Z : State) (a : Addr) (b : Addr) (c0 : Int32) (c1 : Int32) (cs : Int32) (h0 : Heap) (n0 : Nat) (v : Option Value) (h : Heap) (L : List Loc) : Prop := v = none ∧ Fr n0 L ∧ Keep h0 h [a] ∧ Exa Z h a "java/lang/String" ∧ Fld Z h a "java/lang/String" "coder" "B" (.int (0 : Int32)) ∧ ∃ d, h0.size ≤ d ∧ Fld Z h a "java/lang/String" "value" "[B" (.ref d) ∧ AV Z h d .byte [(.int c0.toInt8.toInt32.toInt8.toInt32), (.int c1.toInt8.toInt32.toInt8.toInt32)] ∧ Exa Z h d "[B"
theorem ef2_2 (m_ : MethodId) (a : Addr) (b : Addr)  : entryFrame m_ #[(.ref a), (.ref b)] 2 = mkF m_ 0 #[.val (.ref a), .val (.ref b)] [] := by first | (simp [entryFrame, mkF, argsToLocals, Value.category]; done) | rfl
set_option maxRecDepth 65536 in
set_option maxHeartbeats 40000000 in
theorem co2_2 (l : Launch) (Z : State) (a0 : Array Value) (hw : ∀ d ∈ tables_1, d.before a0 Z = true) (a : Addr) (b : Addr) (c0 : Int32) (c1 : Int32) (cs : Int32) (h0 : Heap) (n0 : Nat) (Z0 : n0 ≤ h0.size)  (g_a : n0 ≤ a) (E_a : Exa Z h0 a "java/lang/String") (F_c : Fld Z h0 a "java/lang/String" "coder" "B" (.int (0 : Int32))) (F_v : Fld Z h0 a "java/lang/String" "value" "[B" .null) (A_b : AV Z h0 b .char [(.int c0), (.int c1)]) (nba : a ≠ b) (S_cs : Sta Z h0 "java/lang/String" "COMPACT_STRINGS" "Z" (.int cs)) (hcs : ¬ cs = (0 : Int32)) (l0 : ¬ (255 : Int32) < c0) (l1 : ¬ (255 : Int32) < c1) : Co l (⟨"java/lang/String", "<init>", "([C)V"⟩ : MethodName) jdk_42_method_3_code 2 none [] ({ frames := 3, cells := 1, slots := 2, locals := 52 } : Room) Z h0 #[(.ref a), (.ref b)] (Q2_2 Z a b c0 c1 cs h0 n0) := by
  refine Co.of (plainFor_of_name pn_3) ?_
  intro p_ e_ s_ m_ below meth c_ T0 X0 hx hby hml hown hnm hret hlk hZ eq0
  have N0 := Fr.nil n0
  refine Go.cast (ef2_2 m_ a b ) ?_
  refine g_aloadN X0 hx rfl rfl (hb hby d2_0) 1 rfl ?_
  refine g_aloadN X0 hx rfl rfl (hb hby d2_1) 2 rfl ?_
  refine g_iconst X0 hx (0 : Int32) rfl (hb hby d2_2) 3 rfl ?_
  refine g_aloadN X0 hx rfl rfl (hb hby d2_3) 4 rfl ?_
  refine g_arraylength X0 hx hZ eq0 A_b (2 : Int32) rfl (hb hby d2_4) 5 rfl ?_
  refine g_aconst_null X0 hx (hb hby d2_5) 6 rfl ?_
  refine g_init X0 hx hZ hown (wd hw 11 rfl) rfl (wd hw 12 rfl) (wd hw 6 rfl) (wd hw 14 rfl) (by decide) eq0 [(.ref b), (.int (0 : Int32)), (.int (2 : Int32)), .null] [] rfl (co3_2 l Z a0 hw a b c0 c1 cs h0 n0 Z0 g_a E_a F_c F_v A_b nba S_cs hcs l0 l1) (lenOf pd_17 rfl) 0 (Nat.le_of_eq rfl) (by decide) (by decide) (by decide) (by decide) (by rw [hml]; rfl) (hb hby d2_6) 9 rfl (fun r101 T102 L103 X104 Q105 => ?_)
  obtain ⟨h106, e107⟩ : ∃ h, T102.heap = h := ⟨_, rfl⟩
  rw [e107] at Q105
  obtain ⟨rfl, n108, K109, E110, F111, b112, sz113, F114, A115, E116⟩ := Q105
  have N117 := Fr.app N0 n108
  have ne118 : a ≠ b112 := Nat.ne_of_lt (Nat.lt_of_lt_of_le E_a.lt sz113)
  have ne119 : b ≠ b112 := Nat.ne_of_lt (Nat.lt_of_lt_of_le A_b.lt sz113)
  have F120 := E_a.keep K109
  have F121 := A_b.keep K109 (ninS (Ne.symm nba) nin0)
  have F122 := own_sta_keep S_cs K109 (nsS E_a.nostat ns0)
  have szh123 : n0 ≤ h106.size := Nat.le_trans Z0 K109.1
  have K124 := (Keep.refl h0 [a]).trans K109 (allS (Or.inl (List.mem_of_getElem? (i := 0) rfl)) all0)
  show Go p_ e_ below _ T102 (mkF m_ 9 #[.val (.ref a), .val (.ref b)] [])
  exact g_retv X104 hx hret hlk (by decide) (by decide) (hb hby d2_9) (by rw [e107]; exact ⟨rfl, N117, K124, E110, F111, b112, sz113, F114, A115, E116⟩)
def Q3_0 (Z : State) (a : Addr) (b : Addr) (h0 : Heap) (n0 : Nat) (v : Option Value) (h : Heap) (L : List Loc) : Prop := v = none ∧ Fr n0 L ∧ Keep h0 h [a] ∧ Exa Z h a "java/lang/String" ∧ Fld Z h a "java/lang/String" "coder" "B" (.int (0 : Int32)) ∧ ∃ d, Fld Z h a "java/lang/String" "value" "[B" (.ref d) ∧ AV Z h d .byte [] ∧ Exa Z h d "[B"
theorem ef3_0 (m_ : MethodId) (a : Addr) (b : Addr)  : entryFrame m_ #[(.ref a), (.ref b), (.int (0 : Int32)), (.int (0 : Int32)), .null] 6 = mkF m_ 0 #[.val (.ref a), .val (.ref b), .val (.int (0 : Int32)), .val (.int (0 : Int32)), .val .null, .unset] [] := by first | (simp [entryFrame, mkF, argsToLocals, Value.category]; done) | rfl
theorem d3_8 : decode jdk_42_method_149_code 8 = .ok (.aload_n 0, 1) := by decide +kernel
theorem d3_9 : decode jdk_42_method_149_code 9 = .ok (.ldc 7, 2) := by decide +kernel
theorem d3_11 : decode jdk_42_method_149_code 11 = .ok (.getfield 9, 3) := by decide +kernel
theorem d3_14 : decode jdk_42_method_149_code 14 = .ok (.putfield 9, 3) := by decide +kernel
theorem d3_17 : decode jdk_42_method_149_code 17 = .ok (.aload_n 0, 1) := by decide +kernel
theorem d3_18 : decode jdk_42_method_149_code 18 = .ok (.ldc 7, 2) := by decide +kernel
theorem d3_20 : decode jdk_42_method_149_code 20 = .ok (.getfield 15, 3) := by decide +kernel
theorem d3_23 : decode jdk_42_method_149_code 23 = .ok (.putfield 15, 3) := by decide +kernel
theorem d3_26 : decode jdk_42_method_149_code 26 = .ok (.return_, 1) := by decide +kernel
set_option maxRecDepth 65536 in
set_option maxHeartbeats 40000000 in
theorem co3_0 (l : Launch) (Z : State) (a0 : Array Value) (hw : ∀ d ∈ tables_1, d.before a0 Z = true) (hEL : EW Z a0 EL) (a : Addr) (b : Addr) (h0 : Heap) (n0 : Nat) (Z0 : n0 ≤ h0.size)  (g_a : n0 ≤ a) (E_a : Exa Z h0 a "java/lang/String") (F_c : Fld Z h0 a "java/lang/String" "coder" "B" (.int (0 : Int32))) (F_v : Fld Z h0 a "java/lang/String" "value" "[B" .null) (A_b : AV Z h0 b .char []) : CoH l (⟨"java/lang/String", "<init>", "([CIILjava/lang/Void;)V"⟩ : MethodName) jdk_42_method_149_code 6 none [] ({ frames := 1, cells := 4, slots := 8, locals := 12 } : Room) Z EL h0 #[(.ref a), (.ref b), (.int (0 : Int32)), (.int (0 : Int32)), .null] (Q3_0 Z a b h0 n0) := by
  refine CoH.of (plainFor_of_name pn_3) ?_
  intro p_ e_ s_ m_ below meth c_ T0 X0 hx hby hml hown hnm hret hlk hZ eq0 hs0 hS H
  have N0 := Fr.nil n0
  have hk0 := Nat.le_refl h0.size
  refine Go.cast (ef3_0 m_ a b ) ?_
  have sfa : Safe Z EL s_.vm s_.heap a := by rw [hs0]; exact own_safe_null hZ.alike E_a F_v
  refine g_aloadN X0 hx rfl rfl (hb hby d3_0) 1 rfl ?_
  refine g_initO X0 hx hZ hown (wd hw 15 rfl) (wd hw 16 rfl) (wd hw 17 rfl) eq0 (by rw [hml]; rfl) (hb hby d3_1) (by decide) 0 (Nat.le_of_eq rfl) (by decide) 4 rfl (fun T101 X102 e103 => ?_)
  show Go p_ e_ below _ T101 (mkF m_ 4 #[.val (.ref a), .val (.ref b), .val (.int (0 : Int32)), .val (.int (0 : Int32)), .val .null, .unset] [])
  refine g_iloadN X102 hx rfl (hb hby d3_4) 5 rfl ?_
  refine g_if_ne X102 hx (hb hby d3_5) 27 8 (by decide) rfl rfl (fun q5 => ?_) (fun q5 => ?_)
  · exact absurd rfl q5
  · refine g_aloadN X102 hx rfl rfl (hb hby d3_8) 9 rfl ?_
    refine g_ldcCE X102 hx hown (wd hw 18 rfl) (own_wS hw) e103 hZ hS hk0 hEL H (by decide) (vs := []) (z := (0 : Int32)) (by decide +kernel) (by decide) rfl (by decide) (hb hby d3_9) (n := 0) (by decide) (by decide) (by decide) (by decide) 11 rfl (fun b106 b107 T104 h105 k108 X109 e110 E111 hZ hown hS hk0 H E112 F113 F114 A115 sf116 E117 => ?_)
    have F118 := E_a.ext E111
    have F119 := F_c.ext E111
    have F120 := F_v.ext E111
    have szh121 : n0 ≤ h105.size := Nat.le_trans Z0 E111.1
    have K122 := (Keep.refl h0 [a]).ext E111
    have ne123 : a ≠ b106 := (sf116 _ (H.safe (by rw [hs0]; exact E_a.lt) sfa)).1
    have ne124 : a ≠ b107 := (sf116 _ (H.safe (by rw [hs0]; exact E_a.lt) sfa)).2
    show Go p_ e_ below _ T104 (mkF m_ 11 #[.val (.ref a), .val (.ref b), .val (.int (0 : Int32)), .val (.int (0 : Int32)), .val .null, .unset] [(.ref b106), (.ref a)])
    refine g_getfield X109 hx hZ hown (host := "") (Or.inl (wd hw 24 rfl)) Via.refl F114 e110 (hb hby d3_11) 14 rfl (fun T125 X126 e127 => ?_)
    show Go p_ e_ below _ T125 (mkF m_ 14 #[.val (.ref a), .val (.ref b), .val (.int (0 : Int32)), .val (.int (0 : Int32)), .val .null, .unset] [(.ref b107), (.ref a)])
    refine g_putfield X126 hx hZ hown (host := "") (Or.inl (wd hw 24 rfl)) Via.refl e127 F120 F118 (Or.inr ⟨(wd hw 20 rfl), rfl, hnm⟩) (wd hw 5 rfl) (ty := (.array .byte)) (by decide) rfl rfl (hb hby d3_14) 17 rfl (fun T128 h129 X130 e131 W132 => ?_)
    have H := H.trans (CHr.wr W132 (H.safe (by rw [hs0]; exact E_a.lt) sfa) H.1)
    have hk0 := Nat.le_trans hk0 (Nat.le_of_eq W132.size.symm)
    have F133 := F118.wr W132
    have F134 := F119.other W132 (Or.inr (slot_ne (Or.inr (wd hw 21 rfl)) (Or.inr (wd hw 20 rfl)) (by decide) (t := .byte) (t' := (.array .byte)) (by decide) (by decide)))
    have F135 := F120.same W132
    have F136 := E112.wr W132
    have F137 := F113.other W132 (Or.inl (Ne.symm ne123))
    have F138 := F114.other W132 (Or.inl (Ne.symm ne123))
    have F139 := A115.other W132 (Ne.symm ne124)
    have F140 := E117.wr W132
    have N141 := Fr.snoc X130 N0 g_a
    have szh142 : n0 ≤ h129.size := Nat.le_trans szh121 (Nat.le_of_eq W132.size.symm)
    have K143 := K122.wr W132 (Or.inl (List.mem_of_getElem? (i := 0) rfl))
    show Go p_ e_ below _ T128 (mkF m_ 17 #[.val (.ref a), .val (.ref b), .val (.int (0 : Int32)), .val (.int (0 : Int32)), .val .null, .unset] [])
    refine g_aloadN X130 hx rfl rfl (hb hby d3_17) 18 rfl ?_
    refine g_ldcCE X130 hx hown (wd hw 18 rfl) (own_wS hw) e131 hZ hS hk0 hEL H (by decide) (vs := []) (z := (0 : Int32)) (by decide +kernel) (by decide) rfl (by decide) (hb hby d3_18) (n := 0) (by decide) (by decide) (by decide) (by decide) 20 rfl (fun b146 b147 T144 h145 k148 X149 e150 E151 hZ hown hS hk0 H E152 F153 F154 A155 sf156 E157 => ?_)
    have F158 := F133.ext E151
    have F159 := F134.ext E151
    have F160 := F135.ext E151
    have F161 := F136.ext E151
    have F162 := F137.ext E151
    have F163 := F138.ext E151
    have F164 := F139.ext E151
    have F165 := F140.ext E151
    have szh166 : n0 ≤ h145.size := Nat.le_trans szh142 E151.1
    have K167 := K143.ext E151
    have ne168 : a ≠ b146 := (sf156 _ (H.safe (by rw [hs0]; exact E_a.lt) sfa)).1
    have ne169 : a ≠ b147 := (sf156 _ (H.safe (by rw [hs0]; exact E_a.lt) sfa)).2
    show Go p_ e_ below _ T144 (mkF m_ 20 #[.val (.ref a), .val (.ref b), .val (.int (0 : Int32)), .val (.int (0 : Int32)), .val .null, .unset] [(.ref b146), (.ref a)])
    refine g_getfield X149 hx hZ hown (host := "") (Or.inl (wd hw 25 rfl)) Via.refl F153 e150 (hb hby d3_20) 23 rfl (fun T170 X171 e172 => ?_)
    show Go p_ e_ below _ T170 (mkF m_ 23 #[.val (.ref a), .val (.ref b), .val (.int (0 : Int32)), .val (.int (0 : Int32)), .val .null, .unset] [(.int (0 : Int32)), (.ref a)])
    refine g_putfield X171 hx hZ hown (host := "") (Or.inl (wd hw 25 rfl)) Via.refl e172 F159 F158 (Or.inr ⟨(wd hw 21 rfl), rfl, hnm⟩) (wd hw 5 rfl) (ty := .byte) (by decide) rfl rfl (hb hby d3_23) 26 rfl (fun T173 h174 X175 e176 W177 => ?_)
    have H := H.trans (CHr.wr W177 (H.safe (by rw [hs0]; exact E_a.lt) sfa) H.1)
    have hk0 := Nat.le_trans hk0 (Nat.le_of_eq W177.size.symm)
    have F178 := F158.wr W177
    have F179 := F159.same W177
    have F180 := F160.other W177 (Or.inr (slot_ne (Or.inr (wd hw 20 rfl)) (Or.inr (wd hw 21 rfl)) (by decide) (t := (.array .byte)) (t' := .byte) (by decide) (by decide)))
    have F181 := F161.wr W177
    have F182 := F162.other W177 (Or.inl (Ne.symm ne123))
    have F183 := F163.other W177 (Or.inl (Ne.symm ne123))
    have F184 := F164.other W177 (Ne.symm ne124)
    have F185 := F165.wr W177
    have F186 := E152.wr W177
    have F187 := F153.other W177 (Or.inl (Ne.symm ne168))
    have F188 := F154.other W177 (Or.inl (Ne.symm ne168))
    have F189 := A155.other W177 (Ne.symm ne169)
    have F190 := E157.wr W177
    have N191 := Fr.snoc X175 N141 g_a
    have szh192 : n0 ≤ h174.size := Nat.le_trans szh166 (Nat.le_of_eq W177.size.symm)
    have K193 := K167.wr W177 (Or.inl (List.mem_of_getElem? (i := 0) rfl))
    show Go p_ e_ below _ T173 (mkF m_ 26 #[.val (.ref a), .val (.ref b), .val (.int (0 : Int32)), .val (.int (0 : Int32)), .val .null, .unset] [])
    exact g_retvH X175 hx hret hlk (by decide) (by decide) (hb hby d3_26) e176 hZ hS hk0 hEL H ⟨rfl, N191, K193, F178, F179, b107, F180, F184, F185⟩
def Q2_0 (Z : State) (a : Addr) (b : Addr) (h0 : Heap) (n0 : Nat) (v : Option Value) (h : Heap) (L : List Loc) : Prop := v = none ∧ Fr n0 L ∧ Keep h0 h [a] ∧ Exa Z h a "java/lang/String" ∧ Fld Z h a "java/lang/String" "coder" "B" (.int (0 : Int32)) ∧ ∃ d, Fld Z h a "java/lang/String" "value" "[B" (.ref d) ∧ AV Z h d .byte [] ∧ Exa Z h d "[B"
theorem ef2_0 (m_ : MethodId) (a : Addr) (b : Addr)  : entryFrame m_ #[(.ref a), (.ref b)] 2 = mkF m_ 0 #[.val (.ref a), .val (.ref b)] [] := by first | (simp [entryFrame, mkF, argsToLocals, Value.category]; done) | rfl
set_option maxRecDepth 65536 in
set_option maxHeartbeats 40000000 in
theorem co2_0 (l : Launch) (Z : State) (a0 : Array Value) (hw : ∀ d ∈ tables_1, d.before a0 Z = true) (hEL : EW Z a0 EL) (a : Addr) (b : Addr) (h0 : Heap) (n0 : Nat) (Z0 : n0 ≤ h0.size)  (g_a : n0 ≤ a) (E_a : Exa Z h0 a "java/lang/String") (F_c : Fld Z h0 a "java/lang/String" "coder" "B" (.int (0 : Int32))) (F_v : Fld Z h0 a "java/lang/String" "value" "[B" .null) (A_b : AV Z h0 b .char []) : CoH l (⟨"java/lang/String", "<init>", "([C)V"⟩ : MethodName) jdk_42_method_3_code 2 none [] ({ frames := 2, cells := 4, slots := 8, locals := 29 } : Room) Z EL h0 #[(.ref a), (.ref b)] (Q2_0 Z a b h0 n0) := by
  refine CoH.of (plainFor_of_name pn_3) ?_
  intro p_ e_ s_ m_ below meth c_ T0 X0 hx hby hml hown hnm hret hlk hZ eq0 hs0 hS H
  have N0 := Fr.nil n0
  have hk0 := Nat.le_refl h0.size
  refine Go.cast (ef2_0 m_ a b ) ?_
  refine g_aloadN X0 hx rfl rfl (hb hby d2_0) 1 rfl ?_
  refine g_aloadN X0 hx rfl rfl (hb hby d2_1) 2 rfl ?_
  refine g_iconst X0 hx (0 : Int32) rfl (hb hby d2_2) 3 rfl ?_
  refine g_aloadN X0 hx rfl rfl (hb hby d2_3) 4 rfl ?_
  refine g_arraylength X0 hx hZ eq0 A_b (0 : Int32) rfl (hb hby d2_4) 5 rfl ?_
  refine g_aconst_null X0 hx (hb hby d2_5) 6 rfl ?_
  refine g_initH X0 hx hown (wd hw 11 rfl) rfl (wd hw 12 rfl) (wd hw 6 rfl) (wd hw 14 rfl) (by decide) eq0 [(.ref b), (.int (0 : Int32)), (.int (0 : Int32)), .null] [] hZ hS hk0 hEL H rfl (co3_0 l Z a0 hw hEL a b h0 n0 Z0 g_a E_a F_c F_v A_b) (lenOf pd_17 rfl) 0 (Nat.le_of_eq rfl) (by decide) (by decide) (by decide) (by decide) (by rw [hml]; rfl) (hb hby d2_6) 9 rfl (fun r101 T102 h103 L104 X105 e106 hZ hown hS H Q107 => ?_)
  have hk0 := Nat.le_refl h103.size
  obtain ⟨rfl, n108, K109, E110, F111, b112, F113, A114, E115⟩ := Q107
  have N116 := Fr.app N0 n108
  have F117 := E_a.keep K109
  have szh118 : n0 ≤ h103.size := Nat.le_trans Z0 K109.1
  have K119 := (Keep.refl h0 [a]).trans K109 (allS (Or.inl (List.mem_of_getElem? (i := 0) rfl)) all0)
  show Go p_ e_ below _ T102 (mkF m_ 9 #[.val (.ref a), .val (.ref b)] [])
  exact g_retvH X105 hx hret hlk (by decide) (by decide) (hb hby d2_9) e106 hZ hS hk0 hEL H ⟨rfl, N116, K119, E110, F111, b112, F113, A114, E115⟩
def Q1 (Z : State) (n : Int32) (x : Int32) (y : Int32) (cs : Int32) (h0 : Heap) (n0 : Nat) (v : Option Value) (h : Heap) (L : List Loc) : Prop := ∃ r d, v = some (.ref r) ∧ Fr n0 L ∧ Keep h0 h [] ∧ Exa Z h r "java/lang/String" ∧ Fld Z h r "java/lang/String" "coder" "B" (.int (0 : Int32)) ∧ Fld Z h r "java/lang/String" "value" "[B" (.ref d) ∧ AV Z h d .byte (raw (lt3 n x y)) ∧ Exa Z h d "[B"
theorem ef1 (m_ : MethodId) (n : Int32) (x : Int32) (y : Int32)  : entryFrame m_ #[(.int n), (.int x), (.int y)] 4 = mkF m_ 0 #[.val (.int n), .val (.int x), .val (.int y), .unset] [] := by first | (simp [entryFrame, mkF, argsToLocals, Value.category]; done) | rfl
theorem d1_0 : decode method_3_code 0 = .ok (.iload_n 0, 1) := by decide +kernel
theorem d1_1 : decode method_3_code 1 = .ok (.ifCond .ne 14, 3) := by decide +kernel
theorem d1_15 : decode method_3_code 15 = .ok (.iload_n 0, 1) := by decide +kernel
theorem d1_16 : decode method_3_code 16 = .ok (.iconst 1, 1) := by decide +kernel
theorem d1_17 : decode method_3_code 17 = .ok (.if_icmp .ne 20, 3) := by decide +kernel
theorem d1_37 : decode method_3_code 37 = .ok (.iconst 2, 1) := by decide +kernel
theorem d1_38 : decode method_3_code 38 = .ok (.newarray .char, 2) := by decide +kernel
theorem d1_40 : decode method_3_code 40 = .ok (.astore_n 3, 1) := by decide +kernel
theorem d1_41 : decode method_3_code 41 = .ok (.aload_n 3, 1) := by decide +kernel
theorem d1_42 : decode method_3_code 42 = .ok (.iconst 0, 1) := by decide +kernel
theorem d1_43 : decode method_3_code 43 = .ok (.iload_n 1, 1) := by decide +kernel
theorem d1_44 : decode method_3_code 44 = .ok (.castore, 1) := by decide +kernel
theorem d1_45 : decode method_3_code 45 = .ok (.aload_n 3, 1) := by decide +kernel
theorem d1_46 : decode method_3_code 46 = .ok (.iconst 1, 1) := by decide +kernel
theorem d1_47 : decode method_3_code 47 = .ok (.iload_n 2, 1) := by decide +kernel
theorem d1_48 : decode method_3_code 48 = .ok (.castore, 1) := by decide +kernel
theorem d1_49 : decode method_3_code 49 = .ok (.new 13, 3) := by decide +kernel
theorem d1_52 : decode method_3_code 52 = .ok (.dup, 1) := by decide +kernel
theorem d1_53 : decode method_3_code 53 = .ok (.aload_n 3, 1) := by decide +kernel
theorem pd_18 : parseMethodDescriptor "([C)V" = some ⟨[(.array .char)], none⟩ := by decide +kernel
theorem d1_54 : decode method_3_code 54 = .ok (.invokespecial 34, 3) := by decide +kernel
theorem d1_57 : decode method_3_code 57 = .ok (.areturn, 1) := by decide +kernel
theorem d1_20 : decode method_3_code 20 = .ok (.iconst 1, 1) := by decide +kernel
theorem d1_21 : decode method_3_code 21 = .ok (.newarray .char, 2) := by decide +kernel
theorem d1_23 : decode method_3_code 23 = .ok (.astore_n 3, 1) := by decide +kernel
theorem d1_24 : decode method_3_code 24 = .ok (.aload_n 3, 1) := by decide +kernel
theorem d1_25 : decode method_3_code 25 = .ok (.iconst 0, 1) := by decide +kernel
theorem d1_26 : decode method_3_code 26 = .ok (.iload_n 1, 1) := by decide +kernel
theorem d1_27 : decode method_3_code 27 = .ok (.castore, 1) := by decide +kernel
theorem d1_28 : decode method_3_code 28 = .ok (.new 13, 3) := by decide +kernel
theorem d1_31 : decode method_3_code 31 = .ok (.dup, 1) := by decide +kernel
theorem d1_32 : decode method_3_code 32 = .ok (.aload_n 3, 1) := by decide +kernel
theorem d1_33 : decode method_3_code 33 = .ok (.invokespecial 34, 3) := by decide +kernel
theorem d1_36 : decode method_3_code 36 = .ok (.areturn, 1) := by decide +kernel
theorem d1_4 : decode method_3_code 4 = .ok (.new 13, 3) := by decide +kernel
theorem d1_7 : decode method_3_code 7 = .ok (.dup, 1) := by decide +kernel
theorem d1_8 : decode method_3_code 8 = .ok (.iconst 0, 1) := by decide +kernel
theorem d1_9 : decode method_3_code 9 = .ok (.newarray .char, 2) := by decide +kernel
theorem d1_11 : decode method_3_code 11 = .ok (.invokespecial 34, 3) := by decide +kernel
theorem d1_14 : decode method_3_code 14 = .ok (.areturn, 1) := by decide +kernel
set_option maxRecDepth 65536 in
set_option maxHeartbeats 40000000 in
theorem co1 (l : Launch) (Z : State) (a0 : Array Value) (hw : ∀ d ∈ tables_1, d.before a0 Z = true) (hEL : EW Z a0 EL) (n : Int32) (x : Int32) (y : Int32) (cs : Int32) (h0 : Heap) (n0 : Nat) (Z0 : n0 ≤ h0.size)   (jx : Ch x) (jy : Ch y) (S_cs : Sta Z h0 "java/lang/String" "COMPACT_STRINGS" "Z" (.int cs)) (hcs : ¬ cs = (0 : Int32)) : CoH l (⟨"com/example/bindwick/bindwick/AttributeGetValueByteArraysPinLaw", "str", "(ICC)Ljava/lang/String;"⟩ : MethodName) method_3_code 4 (some (.object "java/lang/String")) [] ({ frames := 4, cells := 6, slots := 12, locals := 66 } : Room) Z EL h0 #[(.int n), (.int x), (.int y)] (Q1 Z n x y cs h0 n0) := by
  refine CoH.of (plainFor_of_name pn_6) ?_
  intro p_ e_ s_ m_ below meth c_ T0 X0 hx hby hml hown hnm hret hlk hZ eq0 hs0 hS H
  have N0 := Fr.nil n0
  have hk0 := Nat.le_refl h0.size
  refine Go.cast (ef1 m_ n x y ) ?_
  refine g_iloadN X0 hx rfl (hb hby d1_0) 1 rfl ?_
  refine g_if_ne X0 hx (hb hby d1_1) 15 4 (by decide) rfl rfl (fun q1 => ?_) (fun q1 => ?_)
  · refine g_iloadN X0 hx rfl (hb hby d1_15) 16 rfl ?_
    refine g_iconst X0 hx (1 : Int32) rfl (hb hby d1_16) 17 rfl ?_
    refine g_icmp_ne X0 hx (hb hby d1_17) 37 20 (by decide) rfl rfl (fun q17 => ?_) (fun q17 => ?_)
    · refine g_iconst X0 hx (2 : Int32) rfl (hb hby d1_37) 38 rfl ?_
      refine g_newarray X0 hx hZ (aty := .char) (wd hw 7 rfl) eq0 (by decide) 2 (by decide) (by decide) (by decide) (by decide) [(.int (0 : Int32)), (.int (0 : Int32))] rfl (hb hby d1_38) 40 rfl (fun T101 h102 b103 X104 e105 g106 E107 A108 => ?_)
      have F109 := S_cs.ext E107
      have sz110 : n0 ≤ b103 := Nat.le_trans Z0 (Nat.le_of_eq g106.symm)
      have szh111 : n0 ≤ h102.size := Nat.le_trans Z0 E107.1
      have szk112 : h0.size ≤ b103 := Nat.le_trans (Keep.refl h0 []).1 (Nat.le_of_eq g106.symm)
      have K113 := (Keep.refl h0 []).ext E107
      have H := H.trans (CHr.ext E107 H.1)
      have hk0 := Nat.le_trans hk0 E107.1
      have A114 : AV Z h102 b103 .char [(.int (0 : Int32)), (.int (0 : Int32))] := A108
      show Go p_ e_ below _ T101 (mkF m_ 40 #[.val (.int n), .val (.int x), .val (.int y), .unset] [(.ref b103)])
      refine g_astoreN X104 hx #[.val (.int n), .val (.int x), .val (.int y), .val (.ref b103)] rfl rfl (hb hby d1_40) 41 rfl ?_
      refine g_aloadN X104 hx rfl rfl (hb hby d1_41) 42 rfl ?_
      refine g_iconst X104 hx (0 : Int32) rfl (hb hby d1_42) 43 rfl ?_
      refine g_iloadN X104 hx rfl (hb hby d1_43) 44 rfl ?_
      refine g_castore X104 hx hZ e105 A114 (by decide) (Nat.le_of_ble_eq_true rfl) (hb hby d1_44) 45 rfl (fun T115 h116 X117 e118 W119 A120 => ?_)
      have A121 : AV Z h116 b103 .char [(.int x.toUInt32.toUInt16.toUInt32.toInt32), (.int (0 : Int32))] := A120
      have H := H.trans (CHr.wr W119 (AV.safe hZ.alike A114 (by decide)) H.1)
      have hk0 := Nat.le_trans hk0 (Nat.le_of_eq W119.size.symm)
      have F122 := F109.wr W119
      have F123 := A121
      have N124 := Fr.snoc X117 N0 sz110
      have szh125 : n0 ≤ h116.size := Nat.le_trans szh111 (Nat.le_of_eq W119.size.symm)
      have K126 := K113.wr W119 (Or.inr szk112)
      show Go p_ e_ below _ T115 (mkF m_ 45 #[.val (.int n), .val (.int x), .val (.int y), .val (.ref b103)] [])
      refine g_aloadN X117 hx rfl rfl (hb hby d1_45) 46 rfl ?_
      refine g_iconst X117 hx (1 : Int32) rfl (hb hby d1_46) 47 rfl ?_
      refine g_iloadN X117 hx rfl (hb hby d1_47) 48 rfl ?_
      refine g_castore X117 hx hZ e118 A121 (by decide) (Nat.le_of_ble_eq_true rfl) (hb hby d1_48) 49 rfl (fun T127 h128 X129 e130 W131 A132 => ?_)
      have A133 : AV Z h128 b103 .char [(.int x.toUInt32.toUInt16.toUInt32.toInt32), (.int y.toUInt32.toUInt16.toUInt32.toInt32)] := A132
      have H := H.trans (CHr.wr W131 (AV.safe hZ.alike A121 (by decide)) H.1)
      have hk0 := Nat.le_trans hk0 (Nat.le_of_eq W131.size.symm)
      have F134 := F122.wr W131
      have F135 := A133
      have N136 := Fr.snoc X129 N124 sz110
      have szh137 : n0 ≤ h128.size := Nat.le_trans szh125 (Nat.le_of_eq W131.size.symm)
      have K138 := K126.wr W131 (Or.inr szk112)
      show Go p_ e_ below _ T127 (mkF m_ 49 #[.val (.int n), .val (.int x), .val (.int y), .val (.ref b103)] [])
      refine g_new X129 hx hZ hown (wd hw 4 rfl) (wd hw 5 rfl) (wd hw 6 rfl) e130 (hb hby d1_49) (by decide) (by decide) 52 rfl (fun T139 h140 b141 X142 e143 g144 E145 A146 D147 => ?_)
      have ne148 : b103 ≠ b141 := Nat.ne_of_lt (Nat.lt_of_lt_of_eq A133.lt g144.symm)
      have F149 := F134.ext E145
      have F150 := A133.ext E145
      have sz151 : n0 ≤ b141 := Nat.le_trans szh137 (Nat.le_of_eq g144.symm)
      have szh152 : n0 ≤ h140.size := Nat.le_trans szh137 E145.1
      have szk153 : h0.size ≤ b141 := Nat.le_trans K138.1 (Nat.le_of_eq g144.symm)
      have K154 := K138.ext E145
      have H := H.trans (CHr.ext E145 H.1)
      have hk0 := Nat.le_trans hk0 E145.1
      have F155 : Fld Z h140 b141 "java/lang/String" "value" "[B" .null := D147 (Or.inr (wd hw 20 rfl)) (ty := (.array .byte)) (by decide)
      have F156 : Fld Z h140 b141 "java/lang/String" "coder" "B" (.int (0 : Int32)) := D147 (Or.inr (wd hw 21 rfl)) (ty := .byte) (by decide)
      show Go p_ e_ below _ T139 (mkF m_ 52 #[.val (.int n), .val (.int x), .val (.int y), .val (.ref b103)] [(.ref b141)])
      refine g_dup X142 hx rfl (hb hby d1_52) 53 rfl ?_
      refine g_aloadN X142 hx rfl rfl (hb hby d1_53) 54 rfl ?_
      refine g_init X142 hx hZ hown (wd hw 8 rfl) rfl (wd hw 9 rfl) (wd hw 6 rfl) (wd hw 10 rfl) (by decide) e143 [(.ref b103)] [(.ref b141)] rfl (co2_2 l Z a0 hw b141 b103 x.toUInt32.toUInt16.toUInt32.toInt32 y.toUInt32.toUInt16.toUInt32.toInt32 cs h140 n0 szh152 sz151 A146 F156 F155 F150 (Ne.symm ne148) F149 hcs (k_lat jx) (k_lat jy)) (lenOf pd_18 rfl) 1 (Nat.le_of_eq rfl) (by decide) (by decide) (by decide) (by decide) (by rw [hml]; rfl) (hb hby d1_54) 57 rfl (fun r157 T158 L159 X160 Q161 => ?_)
      obtain ⟨h162, e163⟩ : ∃ h, T158.heap = h := ⟨_, rfl⟩
      rw [e163] at Q161
      obtain ⟨rfl, n164, K165, E166, F167, b168, sz169, F170, A171, E172⟩ := Q161
      have N173 := Fr.app N136 n164
      have ne174 : b103 ≠ b168 := Nat.ne_of_lt (Nat.lt_of_lt_of_le F150.lt sz169)
      have ne175 : b141 ≠ b168 := Nat.ne_of_lt (Nat.lt_of_lt_of_le A146.lt sz169)
      have H := H.trans (CHr.keep K165 (sfS (own_safe_null hZ.alike A146 F155) sf0) H.1)
      have hk0 := Nat.le_trans hk0 K165.1
      have F176 := own_sta_keep F149 K165 (nsS A146.nostat ns0)
      have F177 := F150.keep K165 (ninS ne148 nin0)
      have F178 := A146.keep K165
      have szh179 : n0 ≤ h162.size := Nat.le_trans szh152 K165.1
      have K180 := K154.trans K165 (allS (Or.inr szk153) all0)
      show Go p_ e_ below _ T158 (mkF m_ 57 #[.val (.int n), .val (.int x), .val (.int y), .val (.ref b103)] [(.ref b141)])
      exact g_retaH X160 hx rfl rfl hret hlk (by decide) (by decide) (hb hby d1_57) e163 hZ hS hk0 hEL H ⟨b141, b168, rfl, N173, K180, E166, F167, F170, AV.cast A171 (by rw [lt_2 q1 q17]; show _ = [Value.int (byt x), Value.int (byt y)]; rw [k_wc jx, k_wc jy]), E172⟩
    · refine g_iconst X0 hx (1 : Int32) rfl (hb hby d1_20) 21 rfl ?_
      refine g_newarray X0 hx hZ (aty := .char) (wd hw 7 rfl) eq0 (by decide) 1 (by decide) (by decide) (by decide) (by decide) [(.int (0 : Int32))] rfl (hb hby d1_21) 23 rfl (fun T181 h182 b183 X184 e185 g186 E187 A188 => ?_)
      have F189 := S_cs.ext E187
      have sz190 : n0 ≤ b183 := Nat.le_trans Z0 (Nat.le_of_eq g186.symm)
      have szh191 : n0 ≤ h182.size := Nat.le_trans Z0 E187.1
      have szk192 : h0.size ≤ b183 := Nat.le_trans (Keep.refl h0 []).1 (Nat.le_of_eq g186.symm)
      have K193 := (Keep.refl h0 []).ext E187
      have H := H.trans (CHr.ext E187 H.1)
      have hk0 := Nat.le_trans hk0 E187.1
      have A194 : AV Z h182 b183 .char [(.int (0 : Int32))] := A188
      show Go p_ e_ below _ T181 (mkF m_ 23 #[.val (.int n), .val (.int x), .val (.int y), .unset] [(.ref b183)])
      refine g_astoreN X184 hx #[.val (.int n), .val (.int x), .val (.int y), .val (.ref b183)] rfl rfl (hb hby d1_23) 24 rfl ?_
      refine g_aloadN X184 hx rfl rfl (hb hby d1_24) 25 rfl ?_
      refine g_iconst X184 hx (0 : Int32) rfl (hb hby d1_25) 26 rfl ?_
      refine g_iloadN X184 hx rfl (hb hby d1_26) 27 rfl ?_
      refine g_castore X184 hx hZ e185 A194 (by decide) (Nat.le_of_ble_eq_true rfl) (hb hby d1_27) 28 rfl (fun T195 h196 X197 e198 W199 A200 => ?_)
      have A201 : AV Z h196 b183 .char [(.int x.toUInt32.toUInt16.toUInt32.toInt32)] := A200
      have H := H.trans (CHr.wr W199 (AV.safe hZ.alike A194 (by decide)) H.1)
      have hk0 := Nat.le_trans hk0 (Nat.le_of_eq W199.size.symm)
      have F202 := F189.wr W199
      have F203 := A201
      have N204 := Fr.snoc X197 N0 sz190
      have szh205 : n0 ≤ h196.size := Nat.le_trans szh191 (Nat.le_of_eq W199.size.symm)
      have K206 := K193.wr W199 (Or.inr szk192)
      show Go p_ e_ below _ T195 (mkF m_ 28 #[.val (.int n), .val (.int x), .val (.int y), .val (.ref b183)] [])
      refine g_new X197 hx hZ hown (wd hw 4 rfl) (wd hw 5 rfl) (wd hw 6 rfl) e198 (hb hby d1_28) (by decide) (by decide) 31 rfl (fun T207 h208 b209 X210 e211 g212 E213 A214 D215 => ?_)
      have ne216 : b183 ≠ b209 := Nat.ne_of_lt (Nat.lt_of_lt_of_eq A201.lt g212.symm)
      have F217 := F202.ext E213
      have F218 := A201.ext E213
      have sz219 : n0 ≤ b209 := Nat.le_trans szh205 (Nat.le_of_eq g212.symm)
      have szh220 : n0 ≤ h208.size := Nat.le_trans szh205 E213.1
      have szk221 : h0.size ≤ b209 := Nat.le_trans K206.1 (Nat.le_of_eq g212.symm)
      have K222 := K206.ext E213
      have H := H.trans (CHr.ext E213 H.1)
      have hk0 := Nat.le_trans hk0 E213.1
      have F223 : Fld Z h208 b209 "java/lang/String" "value" "[B" .null := D215 (Or.inr (wd hw 20 rfl)) (ty := (.array .byte)) (by decide)
      have F224 : Fld Z h208 b209 "java/lang/String" "coder" "B" (.int (0 : Int32)) := D215 (Or.inr (wd hw 21 rfl)) (ty := .byte) (by decide)
      show Go p_ e_ below _ T207 (mkF m_ 31 #[.val (.int n), .val (.int x), .val (.int y), .val (.ref b183)] [(.ref b209)])
      refine g_dup X210 hx rfl (hb hby d1_31) 32 rfl ?_
      refine g_aloadN X210 hx rfl rfl (hb hby d1_32) 33 rfl ?_
      refine g_init X210 hx hZ hown (wd hw 8 rfl) rfl (wd hw 9 rfl) (wd hw 6 rfl) (wd hw 10 rfl) (by decide) e211 [(.ref b183)] [(.ref b209)] rfl (co2_1 l Z a0 hw b209 b183 x.toUInt32.toUInt16.toUInt32.toInt32 cs h208 n0 szh220 sz219 A214 F224 F223 F218 (Ne.symm ne216) F217 hcs (k_lat jx)) (lenOf pd_18 rfl) 1 (Nat.le_of_eq rfl) (by decide) (by decide) (by decide) (by decide) (by rw [hml]; rfl) (hb hby d1_33) 36 rfl (fun r225 T226 L227 X228 Q229 => ?_)
      obtain ⟨h230, e231⟩ : ∃ h, T226.heap = h := ⟨_, rfl⟩
      rw [e231] at Q229
      obtain ⟨rfl, n232, K233, E234, F235, b236, sz237, F238, A239, E240⟩ := Q229
      have N241 := Fr.app N204 n232
      have ne242 : b183 ≠ b236 := Nat.ne_of_lt (Nat.lt_of_lt_of_le F218.lt sz237)
      have ne243 : b209 ≠ b236 := Nat.ne_of_lt (Nat.lt_of_lt_of_le A214.lt sz237)
      have H := H.trans (CHr.keep K233 (sfS (own_safe_null hZ.alike A214 F223) sf0) H.1)
      have hk0 := Nat.le_trans hk0 K233.1
      have F244 := own_sta_keep F217 K233 (nsS A214.nostat ns0)
      have F245 := F218.keep K233 (ninS ne216 nin0)
      have F246 := A214.keep K233
      have szh247 : n0 ≤ h230.size := Nat.le_trans szh220 K233.1
      have K248 := K222.trans K233 (allS (Or.inr szk221) all0)
      show Go p_ e_ below _ T226 (mkF m_ 36 #[.val (.int n), .val (.int x), .val (.int y), .val (.ref b183)] [(.ref b209)])
      exact g_retaH X228 hx rfl rfl hret hlk (by decide) (by decide) (hb hby d1_36) e231 hZ hS hk0 hEL H ⟨b209, b236, rfl, N241, K248, E234, F235, F238, AV.cast A239 (by rw [lt_1 q1 q17]; show _ = [Value.int (byt x)]; rw [k_wc jx]), E240⟩
  · refine g_new X0 hx hZ hown (wd hw 4 rfl) (wd hw 5 rfl) (wd hw 6 rfl) eq0 (hb hby d1_4) (by decide) (by decide) 7 rfl (fun T249 h250 b251 X252 e253 g254 E255 A256 D257 => ?_)
    have F258 := S_cs.ext E255
    have sz259 : n0 ≤ b251 := Nat.le_trans Z0 (Nat.le_of_eq g254.symm)
    have szh260 : n0 ≤ h250.size := Nat.le_trans Z0 E255.1
    have szk261 : h0.size ≤ b251 := Nat.le_trans (Keep.refl h0 []).1 (Nat.le_of_eq g254.symm)
    have K262 := (Keep.refl h0 []).ext E255
    have H := H.trans (CHr.ext E255 H.1)
    have hk0 := Nat.le_trans hk0 E255.1
    have F263 : Fld Z h250 b251 "java/lang/String" "value" "[B" .null := D257 (Or.inr (wd hw 20 rfl)) (ty := (.array .byte)) (by decide)
    have F264 : Fld Z h250 b251 "java/lang/String" "coder" "B" (.int (0 : Int32)) := D257 (Or.inr (wd hw 21 rfl)) (ty := .byte) (by decide)
    show Go p_ e_ below _ T249 (mkF m_ 7 #[.val (.int n), .val (.int x), .val (.int y), .unset] [(.ref b251)])
    refine g_dup X252 hx rfl (hb hby d1_7) 8 rfl ?_
    refine g_iconst X252 hx (0 : Int32) rfl (hb hby d1_8) 9 rfl ?_
    refine g_newarray X252 hx hZ (aty := .char) (wd hw 7 rfl) e253 (by decide) 0 (by decide) (by decide) (by decide) (by decide) [] rfl (hb hby d1_9) 11 rfl (fun T265 h266 b267 X268 e269 g270 E271 A272 => ?_)
    have ne273 : b251 ≠ b267 := Nat.ne_of_lt (Nat.lt_of_lt_of_eq A256.lt g270.symm)
    have F274 := F258.ext E271
    have F275 := A256.ext E271
    have F276 := F263.ext E271
    have F277 := F264.ext E271
    have sz278 : n0 ≤ b267 := Nat.le_trans szh260 (Nat.le_of_eq g270.symm)
    have szh279 : n0 ≤ h266.size := Nat.le_trans szh260 E271.1
    have szk280 : h0.size ≤ b267 := Nat.le_trans K262.1 (Nat.le_of_eq g270.symm)
    have K281 := K262.ext E271
    have H := H.trans (CHr.ext E271 H.1)
    have hk0 := Nat.le_trans hk0 E271.1
    have A282 : AV Z h266 b267 .char [] := A272
    show Go p_ e_ below _ T265 (mkF m_ 11 #[.val (.int n), .val (.int x), .val (.int y), .unset] [(.ref b267), (.ref b251), (.ref b251)])
    refine g_initH X268 hx hown (wd hw 8 rfl) rfl (wd hw 9 rfl) (wd hw 6 rfl) (wd hw 10 rfl) (by decide) e269 [(.ref b267)] [(.ref b251)] hZ hS hk0 hEL H rfl (co2_0 l Z a0 hw hEL b251 b267 h266 n0 szh279 sz259 F275 F277 F276 A282) (lenOf pd_18 rfl) 1 (Nat.le_of_eq rfl) (by decide) (by decide) (by decide) (by decide) (by rw [hml]; rfl) (hb hby d1_11) 14 rfl (fun r283 T284 h285 L286 X287 e288 hZ hown hS H Q289 => ?_)
    have hk0 := Nat.le_refl h285.size
    obtain ⟨rfl, n290, K291, E292, F293, b294, F295, A296, E297⟩ := Q289
    have N298 := Fr.app N0 n290
    have F299 := own_sta_keep F274 K291 (nsS F275.nostat ns0)
    have F300 := F275.keep K291
    have szh301 : n0 ≤ h285.size := Nat.le_trans szh279 K291.1
    have K302 := K281.trans K291 (allS (Or.inr szk261) all0)
    show Go p_ e_ below _ T284 (mkF m_ 14 #[.val (.int n), .val (.int x), .val (.int y), .unset] [(.ref b251)])
    exact g_retaH X287 hx rfl rfl hret hlk (by decide) (by decide) (hb hby d1_14) e288 hZ hS hk0 hEL H ⟨b251, b294, rfl, N298, K302, E292, F293, F295, AV.cast A296 (by rw [lt_0 q1] <;> rfl), E297⟩
theorem ef0 (m_ : MethodId) (x0 : Int32) (x1 : Int32) (x2 : Int32) (x3 : Int32) (x4 : Int32)  : entryFrame m_ #[(.int x0), (.int x1), (.int x2), (.int x3), (.int x4)] maxLocals = mkF m_ 0 #[.val (.int x0), .val (.int x1), .val (.int x2), .val (.int x3), .val (.int x4), .unset, .unset, .unset, .unset, .unset, .unset, .unset, .unset, .unset, .unset, .unset, .unset, .unset] [] := by first | (simp [entryFrame, mkF, argsToLocals, Value.category, maxLocals]; done) | rfl
theorem pd_19 : parseMethodDescriptor "(ICC)Ljava/lang/String;" = some ⟨[.int, .char, .char], some (.object "java/lang/String")⟩ := by decide +kernel
theorem pd_20 : parseMethodDescriptor "(Ljava/lang/String;[Ljava/lang/String;)V" = some ⟨[(.object "java/lang/String"), (.array (.object "java/lang/String"))], none⟩ := by decide +kernel
theorem pd_21 : parseMethodDescriptor "()[[B" = some ⟨[], some (.array (.array .byte))⟩ := by decide +kernel
theorem pd_22 : parseMethodDescriptor "([[BIICCICC)Z" = some ⟨[(.array (.array .byte)), .int, .int, .char, .char, .int, .char, .char], some .boolean⟩ := by decide +kernel
theorem pd_23 : parseMethodDescriptor "([B)V" = some ⟨[(.array .byte)], none⟩ := by decide +kernel
set_option maxRecDepth 65536 in
set_option maxHeartbeats 40000000 in
theorem rm0 (l : Launch) (Z : State) (a0 : Array Value) (hw : ∀ d ∈ tables_1, d.before a0 Z = true) (hEL : EW Z a0 EL) (ws : List Jvm.Cond) (x0 : Int32) (x1 : Int32) (x2 : Int32) (x3 : Int32) (x4 : Int32) (h0 : Heap) (cs : Int32) (S_cs : Sta Z h0 "java/lang/String" "COMPACT_STRINGS" "Z" (.int cs)) (hcs : ¬ cs = (0 : Int32)) (u : Addr) (S_i : Sta Z h0 "sun/nio/cs/UTF_8" "INSTANCE" "Lsun/nio/cs/UTF_8;" (.ref u)) (S_u : Sta Z h0 "java/nio/charset/StandardCharsets" "UTF_8" "Ljava/nio/charset/Charset;" (.ref u)) (fa : Addr) (cK : ClassId) (hsite : Site Z fa cK) (Fn : Fna h0 fa cK) : CoH l x code maxLocals ret ws room_1 Z EL h0 #[(.int x0), (.int x1), (.int x2), (.int x3), (.int x4)] (fun v h L => v = some (.int 1) ∧ Fr h0.size L) := by
  refine CoH.of (plainFor_of_name pn_6) ?_
  intro p_ e_ s_ m_ below meth c_ T0 X0 hx hby hml hown hnm hret hlk hZ eq0 hs0 hS H
  have N0 := Fr.nil h0.size
  have hk0 := Nat.le_refl h0.size
  refine Go.cast (ef0 m_ x0 x1 x2 x3 x4) ?_
  refine g_iloadN X0 hx rfl (hb hby at_0) 1 rfl ?_
  refine g_iconst X0 hx (3 : Int32) rfl (hb hby at_1) 2 rfl ?_
  refine g_iand X0 hx (hb hby at_2) 3 rfl ?_
  refine g_iconst X0 hx (3 : Int32) rfl (hb hby at_3) 4 rfl ?_
  refine g_irem X0 hx (by decide) (hb hby at_4) 5 rfl ?_
  generalize hv101 : ((x0 &&& (3 : Int32)) % (3 : Int32)) = v101
  refine g_istore X0 hx #[.val (.int x0), .val (.int x1), .val (.int x2), .val (.int x3), .val (.int x4), .val (.int v101), .unset, .unset, .unset, .unset, .unset, .unset, .unset, .unset, .unset, .unset, .unset, .unset] rfl (hb hby at_5) 7 rfl ?_
  refine g_iloadN X0 hx rfl (hb hby at_7) 8 rfl ?_
  refine g_iconst X0 hx (2 : Int32) rfl (hb hby at_8) 9 rfl ?_
  refine g_iushr X0 hx (hb hby at_9) 10 rfl ?_
  refine g_iconst X0 hx (3 : Int32) rfl (hb hby at_10) 11 rfl ?_
  refine g_iand X0 hx (hb hby at_11) 12 rfl ?_
  refine g_iconst X0 hx (3 : Int32) rfl (hb hby at_12) 13 rfl ?_
  refine g_irem X0 hx (by decide) (hb hby at_13) 14 rfl ?_
  generalize hv102 : (((XT.ushr x0 (2 : Int32)) &&& (3 : Int32)) % (3 : Int32)) = v102
  refine g_istore X0 hx #[.val (.int x0), .val (.int x1), .val (.int x2), .val (.int x3), .val (.int x4), .val (.int v101), .val (.int v102), .unset, .unset, .unset, .unset, .unset, .unset, .unset, .unset, .unset, .unset, .unset] rfl (hb hby at_14) 16 rfl ?_
  refine g_iloadN X0 hx rfl (hb hby at_16) 17 rfl ?_
  refine g_iconst X0 hx (4 : Int32) rfl (hb hby at_17) 18 rfl ?_
  refine g_iushr X0 hx (hb hby at_18) 19 rfl ?_
  refine g_iconst X0 hx (3 : Int32) rfl (hb hby at_19) 20 rfl ?_
  refine g_iand X0 hx (hb hby at_20) 21 rfl ?_
  refine g_iconst X0 hx (3 : Int32) rfl (hb hby at_21) 22 rfl ?_
  refine g_irem X0 hx (by decide) (hb hby at_22) 23 rfl ?_
  generalize hv103 : (((XT.ushr x0 (4 : Int32)) &&& (3 : Int32)) % (3 : Int32)) = v103
  refine g_istore X0 hx #[.val (.int x0), .val (.int x1), .val (.int x2), .val (.int x3), .val (.int x4), .val (.int v101), .val (.int v102), .val (.int v103), .unset, .unset, .unset, .unset, .unset, .unset, .unset, .unset, .unset, .unset] rfl (hb hby at_23) 25 rfl ?_
  refine g_iloadN X0 hx rfl (hb hby at_25) 26 rfl ?_
  refine g_sipush X0 hx (255 : Int32) rfl (hb hby at_26) 29 rfl ?_
  refine g_iand X0 hx (hb hby at_29) 30 rfl ?_
  refine g_i2c X0 hx (hb hby at_30) 31 rfl ?_
  generalize hv104 : (x1 &&& (255 : Int32)).toUInt32.toUInt16.toUInt32.toInt32 = v104
  refine g_istore X0 hx #[.val (.int x0), .val (.int x1), .val (.int x2), .val (.int x3), .val (.int x4), .val (.int v101), .val (.int v102), .val (.int v103), .val (.int v104), .unset, .unset, .unset, .unset, .unset, .unset, .unset, .unset, .unset] rfl (hb hby at_31) 33 rfl ?_
  refine g_iloadN X0 hx rfl (hb hby at_33) 34 rfl ?_
  refine g_sipush X0 hx (255 : Int32) rfl (hb hby at_34) 37 rfl ?_
  refine g_iand X0 hx (hb hby at_37) 38 rfl ?_
  refine g_i2c X0 hx (hb hby at_38) 39 rfl ?_
  generalize hv105 : (x2 &&& (255 : Int32)).toUInt32.toUInt16.toUInt32.toInt32 = v105
  refine g_istore X0 hx #[.val (.int x0), .val (.int x1), .val (.int x2), .val (.int x3), .val (.int x4), .val (.int v101), .val (.int v102), .val (.int v103), .val (.int v104), .val (.int v105), .unset, .unset, .unset, .unset, .unset, .unset, .unset, .unset] rfl (hb hby at_39) 41 rfl ?_
  refine g_iloadN X0 hx rfl (hb hby at_41) 42 rfl ?_
  refine g_sipush X0 hx (255 : Int32) rfl (hb hby at_42) 45 rfl ?_
  refine g_iand X0 hx (hb hby at_45) 46 rfl ?_
  refine g_i2c X0 hx (hb hby at_46) 47 rfl ?_
  generalize hv106 : (x3 &&& (255 : Int32)).toUInt32.toUInt16.toUInt32.toInt32 = v106
  refine g_istore X0 hx #[.val (.int x0), .val (.int x1), .val (.int x2), .val (.int x3), .val (.int x4), .val (.int v101), .val (.int v102), .val (.int v103), .val (.int v104), .val (.int v105), .val (.int v106), .unset, .unset, .unset, .unset, .unset, .unset, .unset] rfl (hb hby at_47) 49 rfl ?_
  refine g_iload X0 hx rfl (hb hby at_49) 51 rfl ?_
  refine g_sipush X0 hx (255 : Int32) rfl (hb hby at_51) 54 rfl ?_
  refine g_iand X0 hx (hb hby at_54) 55 rfl ?_
  refine g_i2c X0 hx (hb hby at_55) 56 rfl ?_
  generalize hv107 : (x4 &&& (255 : Int32)).toUInt32.toUInt16.toUInt32.toInt32 = v107
  refine g_istore X0 hx #[.val (.int x0), .val (.int x1), .val (.int x2), .val (.int x3), .val (.int x4), .val (.int v101), .val (.int v102), .val (.int v103), .val (.int v104), .val (.int v105), .val (.int v106), .val (.int v107), .unset, .unset, .unset, .unset, .unset, .unset] rfl (hb hby at_56) 58 rfl ?_
  have hh108 : v102 = 0 ∨ v102 = 1 ∨ v102 = 2 := (by rw [← hv102]; exact own_cnt _)
  have hh109 : v103 = 0 ∨ v103 = 1 ∨ v103 = 2 := (by rw [← hv103]; exact own_cnt _)
  have hh110 : Ch v104 := (by rw [← hv104]; exact ch_mk _)
  have hh111 : Ch v105 := (by rw [← hv105]; exact ch_mk _)
  have hh112 : Ch v106 := (by rw [← hv106]; exact ch_mk _)
  have hh113 : Ch v107 := (by rw [← hv107]; exact ch_mk _)
  refine g_iload X0 hx rfl (hb hby at_58) 60 rfl ?_
  refine g_iload X0 hx rfl (hb hby at_60) 62 rfl ?_
  refine g_iload X0 hx rfl (hb hby at_62) 64 rfl ?_
  refine g_callSH X0 hx hown (wd hw 0 rfl) (wd hw 1 rfl) (wd hw 2 rfl) (wd hw 3 rfl) (by decide) eq0 [(.int v102), (.int v104), (.int v105)] [] hZ hS hk0 hEL H rfl (co1 l Z a0 hw hEL v102 v104 v105 cs h0 h0.size (Nat.le_refl h0.size) hh110 hh111 S_cs hcs) (lenOf pd_19 rfl) 0 (Nat.le_of_eq rfl) (by decide) (by decide) (by decide) (by decide) (by rw [hml]; rfl) (hb hby at_64) 67 rfl (fun r114 T115 h116 L117 X118 e119 hZ hown hS H Q120 => ?_)
  have hk0 := Nat.le_refl h116.size
  obtain ⟨r121, b122, rfl, n123, K124, E125, F126, F127, A128, E129⟩ := Q120
  have N130 := Fr.app N0 n123
  have F131 := own_sta_keep S_cs K124 ns0
  have F132 := own_sta_keep S_i K124 ns0
  have F133 := own_sta_keep S_u K124 ns0
  have F134 := Fn.keep K124
  have szh135 : h0.size ≤ h116.size := Nat.le_trans (Nat.le_refl h0.size) K124.1
  show Go p_ e_ below _ T115 (mkF m_ 67 #[.val (.int x0), .val (.int x1), .val (.int x2), .val (.int x3), .val (.int x4), .val (.int v101), .val (.int v102), .val (.int v103), .val (.int v104), .val (.int v105), .val (.int v106), .val (.int v107), .unset, .unset, .unset, .unset, .unset, .unset] [(.ref r121)])
  refine g_astore X118 hx #[.val (.int x0), .val (.int x1), .val (.int x2), .val (.int x3), .val (.int x4), .val (.int v101), .val (.int v102), .val (.int v103), .val (.int v104), .val (.int v105), .val (.int v106), .val (.int v107), .val (.ref r121), .unset, .unset, .unset, .unset, .unset] rfl rfl (hb hby at_67) 69 rfl ?_
  refine g_iload X118 hx rfl (hb hby at_69) 71 rfl ?_
  refine g_iload X118 hx rfl (hb hby at_71) 73 rfl ?_
  refine g_iload X118 hx rfl (hb hby at_73) 75 rfl ?_
  refine g_callSH X118 hx hown (wd hw 0 rfl) (wd hw 1 rfl) (wd hw 2 rfl) (wd hw 3 rfl) (by decide) e119 [(.int v103), (.int v106), (.int v107)] [] hZ hS hk0 hEL H rfl (co1 l Z a0 hw hEL v103 v106 v107 cs h116 h0.size szh135 hh112 hh113 F131 hcs) (lenOf pd_19 rfl) 0 (Nat.le_of_eq rfl) (by decide) (by decide) (by decide) (by decide) (by rw [hml]; rfl) (hb hby at_75) 78 rfl (fun r136 T137 h138 L139 X140 e141 hZ hown hS H Q142 => ?_)
  have hk0 := Nat.le_refl h138.size
  obtain ⟨r143, b144, rfl, n145, K146, E147, F148, F149, A150, E151⟩ := Q142
  have N152 := Fr.app N130 n145
  have F153 := own_sta_keep F131 K146 ns0
  have F154 := own_sta_keep F132 K146 ns0
  have F155 := own_sta_keep F133 K146 ns0
  have F156 := F134.keep K146
  have F157 := E125.keep K146
  have F158 := F126.keep K146 nin0
  have F159 := F127.keep K146 nin0
  have F160 := A128.keep K146 nin0
  have F161 := E129.keep K146
  have szh162 : h0.size ≤ h138.size := Nat.le_trans szh135 K146.1
  show Go p_ e_ below _ T137 (mkF m_ 78 #[.val (.int x0), .val (.int x1), .val (.int x2), .val (.int x3), .val (.int x4), .val (.int v101), .val (.int v102), .val (.int v103), .val (.int v104), .val (.int v105), .val (.int v106), .val (.int v107), .val (.ref r121), .unset, .unset, .unset, .unset, .unset] [(.ref r143)])
  refine g_astore X140 hx #[.val (.int x0), .val (.int x1), .val (.int x2), .val (.int x3), .val (.int x4), .val (.int v101), .val (.int v102), .val (.int v103), .val (.int v104), .val (.int v105), .val (.int v106), .val (.int v107), .val (.ref r121), .val (.ref r143), .unset, .unset, .unset, .unset] rfl rfl (hb hby at_78) 80 rfl ?_
  rcases (show v101 = 0 ∨ v101 = 1 ∨ v101 = 2 by rw [← hv101]; exact own_cnt _) with rfl | rfl | rfl
  · show Go p_ e_ below _ T137 (mkF m_ 80 #[.val (.int x0), .val (.int x1), .val (.int x2), .val (.int x3), .val (.int x4), .val (.int (0 : Int32)), .val (.int v102), .val (.int v103), .val (.int v104), .val (.int v105), .val (.int v106), .val (.int v107), .val (.ref r121), .val (.ref r143), .unset, .unset, .unset, .unset] [])
    refine g_iload X140 hx rfl (hb hby at_80) 82 rfl ?_
    refine g_if_ne X140 hx (hb hby at_82) 94 85 (by decide) rfl rfl (fun q164 => ?_) (fun q164 => ?_)
    · exact absurd rfl q164
    · refine g_iconst X140 hx (0 : Int32) rfl (hb hby at_85) 86 rfl ?_
      refine g_anewarray X140 hx hZ hown (wd hw 4 rfl) (wd hw 26 rfl) e141 (by decide) 0 (by decide) (by decide) (by decide) (by decide) [] rfl (hb hby at_86) 89 rfl (fun T165 h166 b167 X168 e169 g170 E171 A172 O173 => ?_)
      have ne174 : b122 ≠ b167 := Nat.ne_of_lt (Nat.lt_of_lt_of_eq F160.lt g170.symm)
      have ne175 : b144 ≠ b167 := Nat.ne_of_lt (Nat.lt_of_lt_of_eq A150.lt g170.symm)
      have ne176 : fa ≠ b167 := Nat.ne_of_lt (Nat.lt_of_lt_of_eq F156.lt g170.symm)
      have ne177 : r121 ≠ b167 := Nat.ne_of_lt (Nat.lt_of_lt_of_eq F157.lt g170.symm)
      have ne178 : r143 ≠ b167 := Nat.ne_of_lt (Nat.lt_of_lt_of_eq E147.lt g170.symm)
      have F179 := F153.ext E171
      have F180 := F154.ext E171
      have F181 := F155.ext E171
      have F182 := F156.ext E171
      have F183 := F157.ext E171
      have F184 := F158.ext E171
      have F185 := F159.ext E171
      have F186 := F160.ext E171
      have F187 := F161.ext E171
      have F188 := E147.ext E171
      have F189 := F148.ext E171
      have F190 := F149.ext E171
      have F191 := A150.ext E171
      have F192 := E151.ext E171
      have sz193 : h0.size ≤ b167 := Nat.le_trans szh162 (Nat.le_of_eq g170.symm)
      have szh194 : h0.size ≤ h166.size := Nat.le_trans szh162 E171.1
      have H := H.trans (CHr.ext E171 H.1)
      have hk0 := Nat.le_trans hk0 E171.1
      show Go p_ e_ below _ T165 (mkF m_ 89 #[.val (.int x0), .val (.int x1), .val (.int x2), .val (.int x3), .val (.int x4), .val (.int (0 : Int32)), .val (.int v102), .val (.int v103), .val (.int v104), .val (.int v105), .val (.int v106), .val (.int v107), .val (.ref r121), .val (.ref r143), .unset, .unset, .unset, .unset] [(.ref b167)])
      refine g_astore X168 hx #[.val (.int x0), .val (.int x1), .val (.int x2), .val (.int x3), .val (.int x4), .val (.int (0 : Int32)), .val (.int v102), .val (.int v103), .val (.int v104), .val (.int v105), .val (.int v106), .val (.int v107), .val (.ref r121), .val (.ref r143), .val (.ref b167), .unset, .unset, .unset] rfl rfl (hb hby at_89) 91 rfl ?_
      refine g_goto X168 hx (hb hby at_91) 133 (by decide) rfl ?_
      refine g_new X168 hx hZ hown (wd hw 27 rfl) (wd hw 28 rfl) (wd hw 29 rfl) e169 (hb hby at_133) (by decide) (by decide) 136 rfl (fun T195 h196 b197 X198 e199 g200 E201 A202 D203 => ?_)
      have ne204 : b122 ≠ b197 := Nat.ne_of_lt (Nat.lt_of_lt_of_eq F186.lt g200.symm)
      have ne205 : b144 ≠ b197 := Nat.ne_of_lt (Nat.lt_of_lt_of_eq F191.lt g200.symm)
      have ne206 : b167 ≠ b197 := Nat.ne_of_lt (Nat.lt_of_lt_of_eq A172.lt g200.symm)
      have ne207 : fa ≠ b197 := Nat.ne_of_lt (Nat.lt_of_lt_of_eq F182.lt g200.symm)
      have ne208 : r121 ≠ b197 := Nat.ne_of_lt (Nat.lt_of_lt_of_eq F183.lt g200.symm)
      have ne209 : r143 ≠ b197 := Nat.ne_of_lt (Nat.lt_of_lt_of_eq F188.lt g200.symm)
      have F210 := F179.ext E201
      have F211 := F180.ext E201
      have F212 := F181.ext E201
      have F213 := F182.ext E201
      have F214 := F183.ext E201
      have F215 := F184.ext E201
      have F216 := F185.ext E201
      have F217 := F186.ext E201
      have F218 := F187.ext E201
      have F219 := F188.ext E201
      have F220 := F189.ext E201
      have F221 := F190.ext E201
      have F222 := F191.ext E201
      have F223 := F192.ext E201
      have F224 := A172.ext E201
      have F225 := O173.ext E201
      have sz226 : h0.size ≤ b197 := Nat.le_trans szh194 (Nat.le_of_eq g200.symm)
      have szh227 : h0.size ≤ h196.size := Nat.le_trans szh194 E201.1
      have H := H.trans (CHr.ext E201 H.1)
      have hk0 := Nat.le_trans hk0 E201.1
      have F228 : Fld Z h196 b197 "com/example/bindwick/bindwick/Attribute" "name" "Ljava/lang/String;" .null := D203 (Or.inr (wd hw 41 rfl)) (ty := (.object "java/lang/String")) (by decide)
      have F229 : Fld Z h196 b197 "com/example/bindwick/bindwick/Attribute" "values" "[[B" .null := D203 (Or.inr (wd hw 52 rfl)) (ty := (.array (.array .byte))) (by decide)
      show Go p_ e_ below _ T195 (mkF m_ 136 #[.val (.int x0), .val (.int x1), .val (.int x2), .val (.int x3), .val (.int x4), .val (.int (0 : Int32)), .val (.int v102), .val (.int v103), .val (.int v104), .val (.int v105), .val (.int v106), .val (.int v107), .val (.ref r121), .val (.ref r143), .val (.ref b167), .unset, .unset, .unset] [(.ref b197)])
      refine g_dup X198 hx rfl (hb hby at_136) 137 rfl ?_
      refine g_ldcO X198 hx hown (wd hw 30 rfl) (own_wS hw) e199 hZ hS hk0 hEL H (hb hby at_137) (n := 8) (by decide) (by decide) (by decide) (by decide) 139 rfl (fun b232 T230 h231 k234 X235 e236 E237 hZ hown hS hk0 H => ?_)
      have F238 := F210.ext E237
      have F239 := F211.ext E237
      have F240 := F212.ext E237
      have F241 := F213.ext E237
      have F242 := F214.ext E237
      have F243 := F215.ext E237
      have F244 := F216.ext E237
      have F245 := F217.ext E237
      have F246 := F218.ext E237
      have F247 := F219.ext E237
      have F248 := F220.ext E237
      have F249 := F221.ext E237
      have F250 := F222.ext E237
      have F251 := F223.ext E237
      have F252 := F224.ext E237
      have F253 := F225.ext E237
      have F254 := A202.ext E237
      have F255 := F228.ext E237
      have F256 := F229.ext E237
      have szh257 : h0.size ≤ h231.size := Nat.le_trans szh227 E237.1
      show Go p_ e_ below _ T230 (mkF m_ 139 #[.val (.int x0), .val (.int x1), .val (.int x2), .val (.int x3), .val (.int x4), .val (.int (0 : Int32)), .val (.int v102), .val (.int v103), .val (.int v104), .val (.int v105), .val (.int v106), .val (.int v107), .val (.ref r121), .val (.ref r143), .val (.ref b167), .unset, .unset, .unset] [(.ref b232), (.ref b197), (.ref b197)])
      refine g_aload X235 hx rfl rfl (hb hby at_139) 141 rfl ?_
      refine g_initH X235 hx hown (wd hw 31 rfl) rfl (wd hw 32 rfl) (wd hw 29 rfl) (wd hw 33 rfl) (by decide) e236 [(.ref b232), (.ref b167)] [(.ref b197)] hZ hS hk0 hEL H rfl (co5_0 l Z a0 hw hEL b197 b232 b167  cs u fa cK h231 h0.size szh257 sz226 F254 F255 F256 F252  ne206 F238 hcs F239 F240 F241 hsite) (lenOf pd_20 rfl) 1 (Nat.le_of_eq rfl) (by decide) (by decide) (by decide) (by decide) (by rw [hml]; rfl) (hb hby at_141) 144 rfl (fun r258 T259 h260 L261 X262 e263 hZ hown hS H Q264 => ?_)
      have hk0 := Nat.le_refl h260.size
      obtain ⟨rfl, n266, K267, E269, b265, F270, A268⟩ := Q264
      have N271 := Fr.app N152 n266
      have F272 := F254.keep K267
      have szh273 : h0.size ≤ h260.size := Nat.le_trans szh257 K267.1
      show Go p_ e_ below _ T259 (mkF m_ 144 #[.val (.int x0), .val (.int x1), .val (.int x2), .val (.int x3), .val (.int x4), .val (.int (0 : Int32)), .val (.int v102), .val (.int v103), .val (.int v104), .val (.int v105), .val (.int v106), .val (.int v107), .val (.ref r121), .val (.ref r143), .val (.ref b167), .unset, .unset, .unset] [(.ref b197)])
      refine g_astore X262 hx #[.val (.int x0), .val (.int x1), .val (.int x2), .val (.int x3), .val (.int x4), .val (.int (0 : Int32)), .val (.int v102), .val (.int v103), .val (.int v104), .val (.int v105), .val (.int v106), .val (.int v107), .val (.ref r121), .val (.ref r143), .val (.ref b167), .val (.ref b197), .unset, .unset] rfl rfl (hb hby at_144) 146 rfl ?_
      refine g_aload X262 hx rfl rfl (hb hby at_146) 148 rfl ?_
      refine g_callV X262 hx hZ hown (wd hw 53 rfl) (C := "com/example/bindwick/bindwick/Attribute") (wd hw 54 rfl) (wd hw 56 rfl) (wd hw 55 rfl) (wd hw 29 rfl) (wd hw 57 rfl) (by decide) e263 [] [] E269 rfl (co8_0 l Z a0 hw b197 b265  h260 h0.size szh273 F270 E269 A268 ) (lenOf pd_21 rfl) 0 (Nat.le_of_eq rfl) (by decide) (by decide) (by decide) (by decide) (by rw [hml]; rfl) (hb hby at_148) 151 rfl (fun r274 T275 L276 X277 Q278 => ?_)
      obtain ⟨h279, e280⟩ : ∃ h, T275.heap = h := ⟨_, rfl⟩
      rw [e280] at Q278
      obtain ⟨b281, rfl, n282, K283, g284, A285⟩ := Q278
      have N286 := Fr.app N271 n282
      have ne287 : b197 ≠ b281 := Nat.ne_of_lt (Nat.lt_of_lt_of_le E269.lt g284)
      have ne288 : b265 ≠ b281 := Nat.ne_of_lt (Nat.lt_of_lt_of_le A268.lt g284)
      have sz289 : h0.size ≤ b281 := Nat.le_trans szh273 g284
      have sf290 := Safe.keep K283 sf0 H.1 (Safe.new g284)
      have H := H.trans (CHr.keep K283 sf0 H.1)
      have hk0 := Nat.le_trans hk0 K283.1
      have F291 := E269.keep K283
      have F292 := F270.keep K283 nin0
      have F293 := A268.keep K283 nin0
      have szh294 : h0.size ≤ h279.size := Nat.le_trans szh273 K283.1
      show Go p_ e_ below _ T275 (mkF m_ 151 #[.val (.int x0), .val (.int x1), .val (.int x2), .val (.int x3), .val (.int x4), .val (.int (0 : Int32)), .val (.int v102), .val (.int v103), .val (.int v104), .val (.int v105), .val (.int v106), .val (.int v107), .val (.ref r121), .val (.ref r143), .val (.ref b167), .val (.ref b197), .unset, .unset] [(.ref b281)])
      refine g_astore X277 hx #[.val (.int x0), .val (.int x1), .val (.int x2), .val (.int x3), .val (.int x4), .val (.int (0 : Int32)), .val (.int v102), .val (.int v103), .val (.int v104), .val (.int v105), .val (.int v106), .val (.int v107), .val (.ref r121), .val (.ref r143), .val (.ref b167), .val (.ref b197), .val (.ref b281), .unset] rfl rfl (hb hby at_151) 153 rfl ?_
      refine g_aload X277 hx rfl rfl (hb hby at_153) 155 rfl ?_
      refine g_iload X277 hx rfl (hb hby at_155) 157 rfl ?_
      refine g_iload X277 hx rfl (hb hby at_157) 159 rfl ?_
      refine g_iload X277 hx rfl (hb hby at_159) 161 rfl ?_
      refine g_iload X277 hx rfl (hb hby at_161) 163 rfl ?_
      refine g_iload X277 hx rfl (hb hby at_163) 165 rfl ?_
      refine g_iload X277 hx rfl (hb hby at_165) 167 rfl ?_
      refine g_iload X277 hx rfl (hb hby at_167) 169 rfl ?_
      refine g_callS X277 hx hZ hown (wd hw 58 rfl) (wd hw 59 rfl) (wd hw 2 rfl) (wd hw 60 rfl) (by decide) e280 [(.ref b281), (.int (0 : Int32)), (.int v102), (.int v104), (.int v105), (.int v103), (.int v106), (.int v107)] [] rfl (co9_0 l Z a0 hw b281 v102 v104 v105 v103 v106 v107  h279 h0.size szh294 A285 ) (lenOf pd_22 rfl) 0 (Nat.le_of_eq rfl) (by decide) (by decide) (by decide) (by decide) (by rw [hml]; rfl) (hb hby at_169) 172 rfl (fun r295 T296 L297 X298 Q299 => ?_)
      obtain ⟨h300, e301⟩ : ∃ h, T296.heap = h := ⟨_, rfl⟩
      rw [e301] at Q299
      obtain ⟨rfl, n302, K303⟩ := Q299
      have N304 := Fr.app N286 n302
      have sf305 := Safe.keep K303 sf0 H.1 sf290
      have H := H.trans (CHr.keep K303 sf0 H.1)
      have hk0 := Nat.le_trans hk0 K303.1
      have F306 := F291.keep K303
      have F307 := F292.keep K303 nin0
      have F308 := F293.keep K303 nin0
      have F309 := A285.keep K303 nin0
      have szh310 : h0.size ≤ h300.size := Nat.le_trans szh294 K303.1
      show Go p_ e_ below _ T296 (mkF m_ 172 #[.val (.int x0), .val (.int x1), .val (.int x2), .val (.int x3), .val (.int x4), .val (.int (0 : Int32)), .val (.int v102), .val (.int v103), .val (.int v104), .val (.int v105), .val (.int v106), .val (.int v107), .val (.ref r121), .val (.ref r143), .val (.ref b167), .val (.ref b197), .val (.ref b281), .unset] [(.int (1 : Int32))])
      refine g_if_ne X298 hx (hb hby at_172) 177 175 (by decide) rfl rfl (fun q311 => ?_) (fun q311 => ?_)
      · refine g_iload X298 hx rfl (hb hby at_177) 179 rfl ?_
        refine g_iconst X298 hx (1 : Int32) rfl (hb hby at_179) 180 rfl ?_
        refine g_icmp_lt X298 hx (hb hby at_180) 195 183 (by decide) rfl rfl (fun q312 => ?_) (fun q312 => ?_)
        · refine g_iload X298 hx rfl (hb hby at_195) 197 rfl ?_
          refine g_iconst X298 hx (2 : Int32) rfl (hb hby at_197) 198 rfl ?_
          refine g_icmp_ne X298 hx (hb hby at_198) 213 201 (by decide) rfl rfl (fun q313 => ?_) (fun q313 => ?_)
          · refine g_aload X298 hx rfl rfl (hb hby at_213) 215 rfl ?_
            refine g_callV X298 hx hZ hown (wd hw 53 rfl) (C := "com/example/bindwick/bindwick/Attribute") (wd hw 54 rfl) (wd hw 56 rfl) (wd hw 55 rfl) (wd hw 29 rfl) (wd hw 57 rfl) (by decide) e301 [] [] F306 rfl (co8_0 l Z a0 hw b197 b265  h300 h0.size szh310 F307 F306 F308 ) (lenOf pd_21 rfl) 0 (Nat.le_of_eq rfl) (by decide) (by decide) (by decide) (by decide) (by rw [hml]; rfl) (hb hby at_215) 218 rfl (fun r314 T315 L316 X317 Q318 => ?_)
            obtain ⟨h319, e320⟩ : ∃ h, T315.heap = h := ⟨_, rfl⟩
            rw [e320] at Q318
            obtain ⟨b321, rfl, n322, K323, g324, A325⟩ := Q318
            have N326 := Fr.app N304 n322
            have ne327 : b197 ≠ b321 := Nat.ne_of_lt (Nat.lt_of_lt_of_le F306.lt g324)
            have ne328 : b265 ≠ b321 := Nat.ne_of_lt (Nat.lt_of_lt_of_le F308.lt g324)
            have ne329 : b281 ≠ b321 := Nat.ne_of_lt (Nat.lt_of_lt_of_le F309.lt g324)
            have sz330 : h0.size ≤ b321 := Nat.le_trans szh310 g324
            have sf331 := Safe.keep K323 sf0 H.1 sf305
            have sf332 := Safe.keep K323 sf0 H.1 (Safe.new g324)
            have H := H.trans (CHr.keep K323 sf0 H.1)
            have hk0 := Nat.le_trans hk0 K323.1
            have F333 := F306.keep K323
            have F334 := F307.keep K323 nin0
            have F335 := F308.keep K323 nin0
            have F336 := F309.keep K323 nin0
            have szh337 : h0.size ≤ h319.size := Nat.le_trans szh310 K323.1
            show Go p_ e_ below _ T315 (mkF m_ 218 #[.val (.int x0), .val (.int x1), .val (.int x2), .val (.int x3), .val (.int x4), .val (.int (0 : Int32)), .val (.int v102), .val (.int v103), .val (.int v104), .val (.int v105), .val (.int v106), .val (.int v107), .val (.ref r121), .val (.ref r143), .val (.ref b167), .val (.ref b197), .val (.ref b281), .unset] [(.ref b321)])
            refine g_astore X317 hx #[.val (.int x0), .val (.int x1), .val (.int x2), .val (.int x3), .val (.int x4), .val (.int (0 : Int32)), .val (.int v102), .val (.int v103), .val (.int v104), .val (.int v105), .val (.int v106), .val (.int v107), .val (.ref r121), .val (.ref r143), .val (.ref b167), .val (.ref b197), .val (.ref b281), .val (.ref b321)] rfl rfl (hb hby at_218) 220 rfl ?_
            refine g_aload X317 hx rfl rfl (hb hby at_220) 222 rfl ?_
            refine g_iload X317 hx rfl (hb hby at_222) 224 rfl ?_
            refine g_iload X317 hx rfl (hb hby at_224) 226 rfl ?_
            refine g_iload X317 hx rfl (hb hby at_226) 228 rfl ?_
            refine g_iload X317 hx rfl (hb hby at_228) 230 rfl ?_
            refine g_iload X317 hx rfl (hb hby at_230) 232 rfl ?_
            refine g_iload X317 hx rfl (hb hby at_232) 234 rfl ?_
            refine g_iload X317 hx rfl (hb hby at_234) 236 rfl ?_
            refine g_callS X317 hx hZ hown (wd hw 58 rfl) (wd hw 59 rfl) (wd hw 2 rfl) (wd hw 60 rfl) (by decide) e320 [(.ref b321), (.int (0 : Int32)), (.int v102), (.int v104), (.int v105), (.int v103), (.int v106), (.int v107)] [] rfl (co9_0 l Z a0 hw b321 v102 v104 v105 v103 v106 v107  h319 h0.size szh337 A325 ) (lenOf pd_22 rfl) 0 (Nat.le_of_eq rfl) (by decide) (by decide) (by decide) (by decide) (by rw [hml]; rfl) (hb hby at_236) 239 rfl (fun r338 T339 L340 X341 Q342 => ?_)
            obtain ⟨h343, e344⟩ : ∃ h, T339.heap = h := ⟨_, rfl⟩
            rw [e344] at Q342
            obtain ⟨rfl, n345, K346⟩ := Q342
            have N347 := Fr.app N326 n345
            have sf348 := Safe.keep K346 sf0 H.1 sf331
            have sf349 := Safe.keep K346 sf0 H.1 sf332
            have H := H.trans (CHr.keep K346 sf0 H.1)
            have hk0 := Nat.le_trans hk0 K346.1
            have F350 := F333.keep K346
            have F351 := F334.keep K346 nin0
            have F352 := F335.keep K346 nin0
            have F353 := F336.keep K346 nin0
            have F354 := A325.keep K346 nin0
            have szh355 : h0.size ≤ h343.size := Nat.le_trans szh337 K346.1
            show Go p_ e_ below _ T339 (mkF m_ 239 #[.val (.int x0), .val (.int x1), .val (.int x2), .val (.int x3), .val (.int x4), .val (.int (0 : Int32)), .val (.int v102), .val (.int v103), .val (.int v104), .val (.int v105), .val (.int v106), .val (.int v107), .val (.ref r121), .val (.ref r143), .val (.ref b167), .val (.ref b197), .val (.ref b281), .val (.ref b321)] [(.int (1 : Int32))])
            exact g_retzH X341 hx hret hlk (by decide) (by decide) (hb hby at_239) e344 hZ hS hk0 hEL H ⟨rfl, N347⟩
          · exact absurd q313 (by decide)
        · exact absurd q312 (by decide)
      · exact absurd q311 (by decide)
  · show Go p_ e_ below _ T137 (mkF m_ 80 #[.val (.int x0), .val (.int x1), .val (.int x2), .val (.int x3), .val (.int x4), .val (.int (1 : Int32)), .val (.int v102), .val (.int v103), .val (.int v104), .val (.int v105), .val (.int v106), .val (.int v107), .val (.ref r121), .val (.ref r143), .unset, .unset, .unset, .unset] [])
    refine g_iload X140 hx rfl (hb hby at_80) 82 rfl ?_
    refine g_if_ne X140 hx (hb hby at_82) 94 85 (by decide) rfl rfl (fun q356 => ?_) (fun q356 => ?_)
    · refine g_iload X140 hx rfl (hb hby at_94) 96 rfl ?_
      refine g_iconst X140 hx (1 : Int32) rfl (hb hby at_96) 97 rfl ?_
      refine g_icmp_ne X140 hx (hb hby at_97) 115 100 (by decide) rfl rfl (fun q357 => ?_) (fun q357 => ?_)
      · exact absurd rfl q357
      · refine g_iconst X140 hx (1 : Int32) rfl (hb hby at_100) 101 rfl ?_
        refine g_anewarray X140 hx hZ hown (wd hw 4 rfl) (wd hw 26 rfl) e141 (by decide) 1 (by decide) (by decide) (by decide) (by decide) [.null] rfl (hb hby at_101) 104 rfl (fun T358 h359 b360 X361 e362 g363 E364 A365 O366 => ?_)
        have ne367 : b122 ≠ b360 := Nat.ne_of_lt (Nat.lt_of_lt_of_eq F160.lt g363.symm)
        have ne368 : b144 ≠ b360 := Nat.ne_of_lt (Nat.lt_of_lt_of_eq A150.lt g363.symm)
        have ne369 : fa ≠ b360 := Nat.ne_of_lt (Nat.lt_of_lt_of_eq F156.lt g363.symm)
        have ne370 : r121 ≠ b360 := Nat.ne_of_lt (Nat.lt_of_lt_of_eq F157.lt g363.symm)
        have ne371 : r143 ≠ b360 := Nat.ne_of_lt (Nat.lt_of_lt_of_eq E147.lt g363.symm)
        have F372 := F153.ext E364
        have F373 := F154.ext E364
        have F374 := F155.ext E364
        have F375 := F156.ext E364
        have F376 := F157.ext E364
        have F377 := F158.ext E364
        have F378 := F159.ext E364
        have F379 := F160.ext E364
        have F380 := F161.ext E364
        have F381 := E147.ext E364
        have F382 := F148.ext E364
        have F383 := F149.ext E364
        have F384 := A150.ext E364
        have F385 := E151.ext E364
        have sz386 : h0.size ≤ b360 := Nat.le_trans szh162 (Nat.le_of_eq g363.symm)
        have szh387 : h0.size ≤ h359.size := Nat.le_trans szh162 E364.1
        have H := H.trans (CHr.ext E364 H.1)
        have hk0 := Nat.le_trans hk0 E364.1
        show Go p_ e_ below _ T358 (mkF m_ 104 #[.val (.int x0), .val (.int x1), .val (.int x2), .val (.int x3), .val (.int x4), .val (.int (1 : Int32)), .val (.int v102), .val (.int v103), .val (.int v104), .val (.int v105), .val (.int v106), .val (.int v107), .val (.ref r121), .val (.ref r143), .unset, .unset, .unset, .unset] [(.ref b360)])
        refine g_astore X361 hx #[.val (.int x0), .val (.int x1), .val (.int x2), .val (.int x3), .val (.int x4), .val (.int (1 : Int32)), .val (.int v102), .val (.int v103), .val (.int v104), .val (.int v105), .val (.int v106), .val (.int v107), .val (.ref r121), .val (.ref r143), .val (.ref b360), .unset, .unset, .unset] rfl rfl (hb hby at_104) 106 rfl ?_
        refine g_aload X361 hx rfl rfl (hb hby at_106) 108 rfl ?_
        refine g_iconst X361 hx (0 : Int32) rfl (hb hby at_108) 109 rfl ?_
        refine g_aload X361 hx rfl rfl (hb hby at_109) 111 rfl ?_
        refine g_aastore X361 hx hZ e362 A365 rfl (O366.sto A365 (Ins.self F376)) (by decide) (Nat.le_of_ble_eq_true rfl) (hb hby at_111) 112 rfl (fun T388 h389 X390 e391 W392 A393 => ?_)
        have A394 : AV Z h389 b360 (.object "java/lang/String") [(.ref r121)] := A393
        have H := H.trans (CHr.wr W392 (AV.safe hZ.alike A365 (by decide)) H.1)
        have hk0 := Nat.le_trans hk0 (Nat.le_of_eq W392.size.symm)
        have F395 := F372.wr W392
        have F396 := F373.wr W392
        have F397 := F374.wr W392
        have F398 := F375.wr W392
        have F399 := F376.wr W392
        have F400 := F377.other W392 (Or.inl ne370)
        have F401 := F378.other W392 (Or.inl ne370)
        have F402 := F379.other W392 ne367
        have F403 := F380.wr W392
        have F404 := F381.wr W392
        have F405 := F382.other W392 (Or.inl ne371)
        have F406 := F383.other W392 (Or.inl ne371)
        have F407 := F384.other W392 ne368
        have F408 := F385.wr W392
        have F409 := A394
        have F410 := O366.wr W392
        have N411 := Fr.snoc X390 N152 sz386
        have szh412 : h0.size ≤ h389.size := Nat.le_trans szh387 (Nat.le_of_eq W392.size.symm)
        show Go p_ e_ below _ T388 (mkF m_ 112 #[.val (.int x0), .val (.int x1), .val (.int x2), .val (.int x3), .val (.int x4), .val (.int (1 : Int32)), .val (.int v102), .val (.int v103), .val (.int v104), .val (.int v105), .val (.int v106), .val (.int v107), .val (.ref r121), .val (.ref r143), .val (.ref b360), .unset, .unset, .unset] [])
        refine g_goto X390 hx (hb hby at_112) 133 (by decide) rfl ?_
        refine g_new X390 hx hZ hown (wd hw 27 rfl) (wd hw 28 rfl) (wd hw 29 rfl) e391 (hb hby at_133) (by decide) (by decide) 136 rfl (fun T413 h414 b415 X416 e417 g418 E419 A420 D421 => ?_)
        have ne422 : b122 ≠ b415 := Nat.ne_of_lt (Nat.lt_of_lt_of_eq F402.lt g418.symm)
        have ne423 : b144 ≠ b415 := Nat.ne_of_lt (Nat.lt_of_lt_of_eq F407.lt g418.symm)
        have ne424 : b360 ≠ b415 := Nat.ne_of_lt (Nat.lt_of_lt_of_eq A394.lt g418.symm)
        have ne425 : fa ≠ b415 := Nat.ne_of_lt (Nat.lt_of_lt_of_eq F398.lt g418.symm)
        have ne426 : r121 ≠ b415 := Nat.ne_of_lt (Nat.lt_of_lt_of_eq F399.lt g418.symm)
        have ne427 : r143 ≠ b415 := Nat.ne_of_lt (Nat.lt_of_lt_of_eq F404.lt g418.symm)
        have F428 := F395.ext E419
        have F429 := F396.ext E419
        have F430 := F397.ext E419
        have F431 := F398.ext E419
        have F432 := F399.ext E419
        have F433 := F400.ext E419
        have F434 := F401.ext E419
        have F435 := F402.ext E419
        have F436 := F403.ext E419
        have F437 := F404.ext E419
        have F438 := F405.ext E419
        have F439 := F406.ext E419
        have F440 := F407.ext E419
        have F441 := F408.ext E419
        have F442 := A394.ext E419
        have F443 := F410.ext E419
        have sz444 : h0.size ≤ b415 := Nat.le_trans szh412 (Nat.le_of_eq g418.symm)
        have szh445 : h0.size ≤ h414.size := Nat.le_trans szh412 E419.1
        have H := H.trans (CHr.ext E419 H.1)
        have hk0 := Nat.le_trans hk0 E419.1
        have F446 : Fld Z h414 b415 "com/example/bindwick/bindwick/Attribute" "name" "Ljava/lang/String;" .null := D421 (Or.inr (wd hw 41 rfl)) (ty := (.object "java/lang/String")) (by decide)
        have F447 : Fld Z h414 b415 "com/example/bindwick/bindwick/Attribute" "values" "[[B" .null := D421 (Or.inr (wd hw 52 rfl)) (ty := (.array (.array .byte))) (by decide)
        show Go p_ e_ below _ T413 (mkF m_ 136 #[.val (.int x0), .val (.int x1), .val (.int x2), .val (.int x3), .val (.int x4), .val (.int (1 : Int32)), .val (.int v102), .val (.int v103), .val (.int v104), .val (.int v105), .val (.int v106), .val (.int v107), .val (.ref r121), .val (.ref r143), .val (.ref b360), .unset, .unset, .unset] [(.ref b415)])
        refine g_dup X416 hx rfl (hb hby at_136) 137 rfl ?_
        refine g_ldcO X416 hx hown (wd hw 30 rfl) (own_wS hw) e417 hZ hS hk0 hEL H (hb hby at_137) (n := 8) (by decide) (by decide) (by decide) (by decide) 139 rfl (fun b450 T448 h449 k452 X453 e454 E455 hZ hown hS hk0 H => ?_)
        have F456 := F428.ext E455
        have F457 := F429.ext E455
        have F458 := F430.ext E455
        have F459 := F431.ext E455
        have F460 := F432.ext E455
        have F461 := F433.ext E455
        have F462 := F434.ext E455
        have F463 := F435.ext E455
        have F464 := F436.ext E455
        have F465 := F437.ext E455
        have F466 := F438.ext E455
        have F467 := F439.ext E455
        have F468 := F440.ext E455
        have F469 := F441.ext E455
        have F470 := F442.ext E455
        have F471 := F443.ext E455
        have F472 := A420.ext E455
        have F473 := F446.ext E455
        have F474 := F447.ext E455
        have szh475 : h0.size ≤ h449.size := Nat.le_trans szh445 E455.1
        show Go p_ e_ below _ T448 (mkF m_ 139 #[.val (.int x0), .val (.int x1), .val (.int x2), .val (.int x3), .val (.int x4), .val (.int (1 : Int32)), .val (.int v102), .val (.int v103), .val (.int v104), .val (.int v105), .val (.int v106), .val (.int v107), .val (.ref r121), .val (.ref r143), .val (.ref b360), .unset, .unset, .unset] [(.ref b450), (.ref b415), (.ref b415)])
        refine g_aload X453 hx rfl rfl (hb hby at_139) 141 rfl ?_
        refine g_initH X453 hx hown (wd hw 31 rfl) rfl (wd hw 32 rfl) (wd hw 29 rfl) (wd hw 33 rfl) (by decide) e454 [(.ref b450), (.ref b360)] [(.ref b415)] hZ hS hk0 hEL H rfl (co5_1 l Z a0 hw hEL b415 b450 b360 r121 b122 (lt3 v102 v104 v105) cs u fa cK h449 h0.size szh475 sz444 F472 F473 F474 F470 F460 F461 F462 F463 F464 (oks_lt hh110 hh111) ne424 ne426 ne422 F456 hcs F457 F458 F459 hsite) (lenOf pd_20 rfl) 1 (Nat.le_of_eq rfl) (by decide) (by decide) (by decide) (by decide) (by rw [hml]; rfl) (hb hby at_141) 144 rfl (fun r476 T477 h478 L479 X480 e481 hZ hown hS H Q482 => ?_)
        have hk0 := Nat.le_refl h478.size
        obtain ⟨rfl, n484, K485, E487, b483, b489, F488, A486, A490, E491⟩ := Q482
        have N492 := Fr.app N411 n484
        have F493 := F472.keep K485
        have szh494 : h0.size ≤ h478.size := Nat.le_trans szh475 K485.1
        show Go p_ e_ below _ T477 (mkF m_ 144 #[.val (.int x0), .val (.int x1), .val (.int x2), .val (.int x3), .val (.int x4), .val (.int (1 : Int32)), .val (.int v102), .val (.int v103), .val (.int v104), .val (.int v105), .val (.int v106), .val (.int v107), .val (.ref r121), .val (.ref r143), .val (.ref b360), .unset, .unset, .unset] [(.ref b415)])
        refine g_astore X480 hx #[.val (.int x0), .val (.int x1), .val (.int x2), .val (.int x3), .val (.int x4), .val (.int (1 : Int32)), .val (.int v102), .val (.int v103), .val (.int v104), .val (.int v105), .val (.int v106), .val (.int v107), .val (.ref r121), .val (.ref r143), .val (.ref b360), .val (.ref b415), .unset, .unset] rfl rfl (hb hby at_144) 146 rfl ?_
        refine g_aload X480 hx rfl rfl (hb hby at_146) 148 rfl ?_
        refine g_callV X480 hx hZ hown (wd hw 53 rfl) (C := "com/example/bindwick/bindwick/Attribute") (wd hw 54 rfl) (wd hw 56 rfl) (wd hw 55 rfl) (wd hw 29 rfl) (wd hw 57 rfl) (by decide) e481 [] [] E487 rfl (co8_1 l Z a0 hw b415 b483 b489 (lt3 v102 v104 v105) h478 h0.size szh494 F488 E487 A486 A490 E491 (oks_lt hh110 hh111)) (lenOf pd_21 rfl) 0 (Nat.le_of_eq rfl) (by decide) (by decide) (by decide) (by decide) (by rw [hml]; rfl) (hb hby at_148) 151 rfl (fun r495 T496 L497 X498 Q499 => ?_)
        obtain ⟨h500, e501⟩ : ∃ h, T496.heap = h := ⟨_, rfl⟩
        rw [e501] at Q499
        obtain ⟨b502, b507, rfl, n503, K504, g505, A506, g508, A509, E510, ne511⟩ := Q499
        have N512 := Fr.app N492 n503
        have ne513 : b415 ≠ b502 := Nat.ne_of_lt (Nat.lt_of_lt_of_le E487.lt g505)
        have ne514 : b483 ≠ b502 := Nat.ne_of_lt (Nat.lt_of_lt_of_le A486.lt g505)
        have ne515 : b489 ≠ b502 := Nat.ne_of_lt (Nat.lt_of_lt_of_le A490.lt g505)
        have sz516 : h0.size ≤ b502 := Nat.le_trans szh494 g505
        have ne517 : b415 ≠ b507 := Nat.ne_of_lt (Nat.lt_of_lt_of_le E487.lt g508)
        have ne518 : b483 ≠ b507 := Nat.ne_of_lt (Nat.lt_of_lt_of_le A486.lt g508)
        have ne519 : b489 ≠ b507 := Nat.ne_of_lt (Nat.lt_of_lt_of_le A490.lt g508)
        have sz520 : h0.size ≤ b507 := Nat.le_trans szh494 g508
        have sf521 := Safe.keep K504 sf0 H.1 (Safe.new g505)
        have sf522 := Safe.keep K504 sf0 H.1 (Safe.new g508)
        have H := H.trans (CHr.keep K504 sf0 H.1)
        have hk0 := Nat.le_trans hk0 K504.1
        have F523 := E487.keep K504
        have F524 := F488.keep K504 nin0
        have F525 := A486.keep K504 nin0
        have F526 := A490.keep K504 nin0
        have F527 := E491.keep K504
        have szh528 : h0.size ≤ h500.size := Nat.le_trans szh494 K504.1
        show Go p_ e_ below _ T496 (mkF m_ 151 #[.val (.int x0), .val (.int x1), .val (.int x2), .val (.int x3), .val (.int x4), .val (.int (1 : Int32)), .val (.int v102), .val (.int v103), .val (.int v104), .val (.int v105), .val (.int v106), .val (.int v107), .val (.ref r121), .val (.ref r143), .val (.ref b360), .val (.ref b415), .unset, .unset] [(.ref b502)])
        refine g_astore X498 hx #[.val (.int x0), .val (.int x1), .val (.int x2), .val (.int x3), .val (.int x4), .val (.int (1 : Int32)), .val (.int v102), .val (.int v103), .val (.int v104), .val (.int v105), .val (.int v106), .val (.int v107), .val (.ref r121), .val (.ref r143), .val (.ref b360), .val (.ref b415), .val (.ref b502), .unset] rfl rfl (hb hby at_151) 153 rfl ?_
        refine g_aload X498 hx rfl rfl (hb hby at_153) 155 rfl ?_
        refine g_iload X498 hx rfl (hb hby at_155) 157 rfl ?_
        refine g_iload X498 hx rfl (hb hby at_157) 159 rfl ?_
        refine g_iload X498 hx rfl (hb hby at_159) 161 rfl ?_
        refine g_iload X498 hx rfl (hb hby at_161) 163 rfl ?_
        refine g_iload X498 hx rfl (hb hby at_163) 165 rfl ?_
        refine g_iload X498 hx rfl (hb hby at_165) 167 rfl ?_
        refine g_iload X498 hx rfl (hb hby at_167) 169 rfl ?_
        refine g_callS X498 hx hZ hown (wd hw 58 rfl) (wd hw 59 rfl) (wd hw 2 rfl) (wd hw 60 rfl) (by decide) e501 [(.ref b502), (.int (1 : Int32)), (.int v102), (.int v104), (.int v105), (.int v103), (.int v106), (.int v107)] [] rfl (co9_1 l Z a0 hw b502 v102 v104 v105 v103 v106 v107 b507 h500 h0.size szh528 A506 A509 hh108 hh110 hh111) (lenOf pd_22 rfl) 0 (Nat.le_of_eq rfl) (by decide) (by decide) (by decide) (by decide) (by rw [hml]; rfl) (hb hby at_169) 172 rfl (fun r529 T530 L531 X532 Q533 => ?_)
        obtain ⟨h534, e535⟩ : ∃ h, T530.heap = h := ⟨_, rfl⟩
        rw [e535] at Q533
        obtain ⟨rfl, n536, K537⟩ := Q533
        have N538 := Fr.app N512 n536
        have sf539 := Safe.keep K537 sf0 H.1 sf521
        have sf540 := Safe.keep K537 sf0 H.1 sf522
        have H := H.trans (CHr.keep K537 sf0 H.1)
        have hk0 := Nat.le_trans hk0 K537.1
        have F541 := F523.keep K537
        have F542 := F524.keep K537 nin0
        have F543 := F525.keep K537 nin0
        have F544 := F526.keep K537 nin0
        have F545 := F527.keep K537
        have F546 := A506.keep K537 nin0
        have F547 := A509.keep K537 nin0
        have F548 := E510.keep K537
        have szh549 : h0.size ≤ h534.size := Nat.le_trans szh528 K537.1
        show Go p_ e_ below _ T530 (mkF m_ 172 #[.val (.int x0), .val (.int x1), .val (.int x2), .val (.int x3), .val (.int x4), .val (.int (1 : Int32)), .val (.int v102), .val (.int v103), .val (.int v104), .val (.int v105), .val (.int v106), .val (.int v107), .val (.ref r121), .val (.ref r143), .val (.ref b360), .val (.ref b415), .val (.ref b502), .unset] [(.int (1 : Int32))])
        refine g_if_ne X532 hx (hb hby at_172) 177 175 (by decide) rfl rfl (fun q550 => ?_) (fun q550 => ?_)
        · refine g_iload X532 hx rfl (hb hby at_177) 179 rfl ?_
          refine g_iconst X532 hx (1 : Int32) rfl (hb hby at_179) 180 rfl ?_
          refine g_icmp_lt X532 hx (hb hby at_180) 195 183 (by decide) rfl rfl (fun q551 => ?_) (fun q551 => ?_)
          · exact absurd q551 (by decide)
          · refine g_aload X532 hx rfl rfl (hb hby at_183) 185 rfl ?_
            refine g_iconst X532 hx (0 : Int32) rfl (hb hby at_185) 186 rfl ?_
            refine g_aaload X532 hx hZ e535 F546 rfl (by decide) rfl (hb hby at_186) 187 rfl ?_
            show Go p_ e_ below _ T530 (mkF m_ 187 #[.val (.int x0), .val (.int x1), .val (.int x2), .val (.int x3), .val (.int x4), .val (.int (1 : Int32)), .val (.int v102), .val (.int v103), .val (.int v104), .val (.int v105), .val (.int v106), .val (.int v107), .val (.ref r121), .val (.ref r143), .val (.ref b360), .val (.ref b415), .val (.ref b502), .unset] [(.ref b507)])
            refine g_callS X532 hx hZ hown (wd hw 117 rfl) (wd hw 118 rfl) (wd hw 2 rfl) (wd hw 119 rfl) (by decide) e535 [(.ref b507)] [] rfl (coP l Z a0 hw b507 (lt3 v102 v104 v105) h534 h0.size szh549 sz520 (oks_lt hh110 hh111) F547) (lenOf pd_23 rfl) 0 (Nat.le_of_eq rfl) (by decide) (by decide) (by decide) (by decide) (by rw [hml]; rfl) (hb hby at_187) 190 rfl (fun r552 T553 L554 X555 Q556 => ?_)
            unfold QP at Q556
            obtain ⟨h557, e558⟩ : ∃ h, T553.heap = h := ⟨_, rfl⟩
            rw [e558] at Q556
            obtain ⟨rfl, n559, K560⟩ := Q556
            have N561 := Fr.app N538 n559
            have sf562 := Safe.keep K560 (sfS sf540 sf0) H.1 sf539
            have sf563 := Safe.keep K560 (sfS sf540 sf0) H.1 sf540
            have H := H.trans (CHr.keep K560 (sfS sf540 sf0) H.1)
            have hk0 := Nat.le_trans hk0 K560.1
            have F564 := F541.keep K560
            have F565 := F542.keep K560 (ninS ne517 nin0)
            have F566 := F543.keep K560 (ninS ne518 nin0)
            have F567 := F544.keep K560 (ninS ne519 nin0)
            have F568 := F545.keep K560
            have F569 := F546.keep K560 (ninS ne511 nin0)
            have F570 := F548.keep K560
            have szh571 : h0.size ≤ h557.size := Nat.le_trans szh549 K560.1
            show Go p_ e_ below _ T553 (mkF m_ 190 #[.val (.int x0), .val (.int x1), .val (.int x2), .val (.int x3), .val (.int x4), .val (.int (1 : Int32)), .val (.int v102), .val (.int v103), .val (.int v104), .val (.int v105), .val (.int v106), .val (.int v107), .val (.ref r121), .val (.ref r143), .val (.ref b360), .val (.ref b415), .val (.ref b502), .unset] [])
            refine g_aload X555 hx rfl rfl (hb hby at_190) 192 rfl ?_
            refine g_iconst X555 hx (0 : Int32) rfl (hb hby at_192) 193 rfl ?_
            refine g_aconst_null X555 hx (hb hby at_193) 194 rfl ?_
            refine g_aastore X555 hx hZ e558 F569 rfl (Or.inl rfl) (by decide) (Nat.le_of_ble_eq_true rfl) (hb hby at_194) 195 rfl (fun T572 h573 X574 e575 W576 A577 => ?_)
            have A578 : AV Z h573 b502 (.array .byte) [.null] := A577
            have sf579 := Safe.wr W576 (AV.safe hZ.alike F569 (by decide)) H.1 sf562
            have sf580 := Safe.wr W576 (AV.safe hZ.alike F569 (by decide)) H.1 sf563
            have H := H.trans (CHr.wr W576 (AV.safe hZ.alike F569 (by decide)) H.1)
            have hk0 := Nat.le_trans hk0 (Nat.le_of_eq W576.size.symm)
            have F581 := F564.wr W576
            have F582 := F565.other W576 (Or.inl ne513)
            have F583 := F566.other W576 ne514
            have F584 := F567.other W576 ne515
            have F585 := F568.wr W576
            have F586 := A578
            have F587 := F570.wr W576
            have N588 := Fr.snoc X574 N561 sz516
            have szh589 : h0.size ≤ h573.size := Nat.le_trans szh571 (Nat.le_of_eq W576.size.symm)
            show Go p_ e_ below _ T572 (mkF m_ 195 #[.val (.int x0), .val (.int x1), .val (.int x2), .val (.int x3), .val (.int x4), .val (.int (1 : Int32)), .val (.int v102), .val (.int v103), .val (.int v104), .val (.int v105), .val (.int v106), .val (.int v107), .val (.ref r121), .val (.ref r143), .val (.ref b360), .val (.ref b415), .val (.ref b502), .unset] [])
            refine g_iload X574 hx rfl (hb hby at_195) 197 rfl ?_
            refine g_iconst X574 hx (2 : Int32) rfl (hb hby at_197) 198 rfl ?_
            refine g_icmp_ne X574 hx (hb hby at_198) 213 201 (by decide) rfl rfl (fun q590 => ?_) (fun q590 => ?_)
            · refine g_aload X574 hx rfl rfl (hb hby at_213) 215 rfl ?_
              refine g_callV X574 hx hZ hown (wd hw 53 rfl) (C := "com/example/bindwick/bindwick/Attribute") (wd hw 54 rfl) (wd hw 56 rfl) (wd hw 55 rfl) (wd hw 29 rfl) (wd hw 57 rfl) (by decide) e575 [] [] F581 rfl (co8_1 l Z a0 hw b415 b483 b489 (lt3 v102 v104 v105) h573 h0.size szh589 F582 F581 F583 F584 F585 (oks_lt hh110 hh111)) (lenOf pd_21 rfl) 0 (Nat.le_of_eq rfl) (by decide) (by decide) (by decide) (by decide) (by rw [hml]; rfl) (hb hby at_215) 218 rfl (fun r591 T592 L593 X594 Q595 => ?_)
              obtain ⟨h596, e597⟩ : ∃ h, T592.heap = h := ⟨_, rfl⟩
              rw [e597] at Q595
              obtain ⟨b598, b603, rfl, n599, K600, g601, A602, g604, A605, E606, ne607⟩ := Q595
              have N608 := Fr.app N588 n599
              have ne609 : b415 ≠ b598 := Nat.ne_of_lt (Nat.lt_of_lt_of_le F581.lt g601)
              have ne610 : b483 ≠ b598 := Nat.ne_of_lt (Nat.lt_of_lt_of_le F583.lt g601)
              have ne611 : b489 ≠ b598 := Nat.ne_of_lt (Nat.lt_of_lt_of_le F584.lt g601)
              have ne612 : b502 ≠ b598 := Nat.ne_of_lt (Nat.lt_of_lt_of_le A578.lt g601)
              have ne613 : b507 ≠ b598 := Nat.ne_of_lt (Nat.lt_of_lt_of_le F587.lt g601)
              have sz614 : h0.size ≤ b598 := Nat.le_trans szh589 g601
              have ne615 : b415 ≠ b603 := Nat.ne_of_lt (Nat.lt_of_lt_of_le F581.lt g604)
              have ne616 : b483 ≠ b603 := Nat.ne_of_lt (Nat.lt_of_lt_of_le F583.lt g604)
              have ne617 : b489 ≠ b603 := Nat.ne_of_lt (Nat.lt_of_lt_of_le F584.lt g604)
              have ne618 : b502 ≠ b603 := Nat.ne_of_lt (Nat.lt_of_lt_of_le A578.lt g604)
              have ne619 : b507 ≠ b603 := Nat.ne_of_lt (Nat.lt_of_lt_of_le F587.lt g604)
              have sz620 : h0.size ≤ b603 := Nat.le_trans szh589 g604
              have sf621 := Safe.keep K600 sf0 H.1 sf579
              have sf622 := Safe.keep K600 sf0 H.1 sf580
              have sf623 := Safe.keep K600 sf0 H.1 (Safe.new g601)
              have sf624 := Safe.keep K600 sf0 H.1 (Safe.new g604)
              have H := H.trans (CHr.keep K600 sf0 H.1)
              have hk0 := Nat.le_trans hk0 K600.1
              have F625 := F581.keep K600
              have F626 := F582.keep K600 nin0
              have F627 := F583.keep K600 nin0
              have F628 := F584.keep K600 nin0
              have F629 := F585.keep K600
              have F630 := A578.keep K600 nin0
              have F631 := F587.keep K600
              have szh632 : h0.size ≤ h596.size := Nat.le_trans szh589 K600.1
              show Go p_ e_ below _ T592 (mkF m_ 218 #[.val (.int x0), .val (.int x1), .val (.int x2), .val (.int x3), .val (.int x4), .val (.int (1 : Int32)), .val (.int v102), .val (.int v103), .val (.int v104), .val (.int v105), .val (.int v106), .val (.int v107), .val (.ref r121), .val (.ref r143), .val (.ref b360), .val (.ref b415), .val (.ref b502), .unset] [(.ref b598)])
              refine g_astore X594 hx #[.val (.int x0), .val (.int x1), .val (.int x2), .val (.int x3), .val (.int x4), .val (.int (1 : Int32)), .val (.int v102), .val (.int v103), .val (.int v104), .val (.int v105), .val (.int v106), .val (.int v107), .val (.ref r121), .val (.ref r143), .val (.ref b360), .val (.ref b415), .val (.ref b502), .val (.ref b598)] rfl rfl (hb hby at_218) 220 rfl ?_
              refine g_aload X594 hx rfl rfl (hb hby at_220) 222 rfl ?_
              refine g_iload X594 hx rfl (hb hby at_222) 224 rfl ?_
              refine g_iload X594 hx rfl (hb hby at_224) 226 rfl ?_
              refine g_iload X594 hx rfl (hb hby at_226) 228 rfl ?_
              refine g_iload X594 hx rfl (hb hby at_228) 230 rfl ?_
              refine g_iload X594 hx rfl (hb hby at_230) 232 rfl ?_
              refine g_iload X594 hx rfl (hb hby at_232) 234 rfl ?_
              refine g_iload X594 hx rfl (hb hby at_234) 236 rfl ?_
              refine g_callS X594 hx hZ hown (wd hw 58 rfl) (wd hw 59 rfl) (wd hw 2 rfl) (wd hw 60 rfl) (by decide) e597 [(.ref b598), (.int (1 : Int32)), (.int v102), (.int v104), (.int v105), (.int v103), (.int v106), (.int v107)] [] rfl (co9_1 l Z a0 hw b598 v102 v104 v105 v103 v106 v107 b603 h596 h0.size szh632 A602 A605 hh108 hh110 hh111) (lenOf pd_22 rfl) 0 (Nat.le_of_eq rfl) (by decide) (by decide) (by decide) (by decide) (by rw [hml]; rfl) (hb hby at_236) 239 rfl (fun r633 T634 L635 X636 Q637 => ?_)
              obtain ⟨h638, e639⟩ : ∃ h, T634.heap = h := ⟨_, rfl⟩
              rw [e639] at Q637
              obtain ⟨rfl, n640, K641⟩ := Q637
              have N642 := Fr.app N608 n640
              have sf643 := Safe.keep K641 sf0 H.1 sf621
              have sf644 := Safe.keep K641 sf0 H.1 sf622
              have sf645 := Safe.keep K641 sf0 H.1 sf623
              have sf646 := Safe.keep K641 sf0 H.1 sf624
              have H := H.trans (CHr.keep K641 sf0 H.1)
              have hk0 := Nat.le_trans hk0 K641.1
              have F647 := F625.keep K641
              have F648 := F626.keep K641 nin0
              have F649 := F627.keep K641 nin0
              have F650 := F628.keep K641 nin0
              have F651 := F629.keep K641
              have F652 := F630.keep K641 nin0
              have F653 := F631.keep K641
              have F654 := A602.keep K641 nin0
              have F655 := A605.keep K641 nin0
              have F656 := E606.keep K641
              have szh657 : h0.size ≤ h638.size := Nat.le_trans szh632 K641.1
              show Go p_ e_ below _ T634 (mkF m_ 239 #[.val (.int x0), .val (.int x1), .val (.int x2), .val (.int x3), .val (.int x4), .val (.int (1 : Int32)), .val (.int v102), .val (.int v103), .val (.int v104), .val (.int v105), .val (.int v106), .val (.int v107), .val (.ref r121), .val (.ref r143), .val (.ref b360), .val (.ref b415), .val (.ref b502), .val (.ref b598)] [(.int (1 : Int32))])
              exact g_retzH X636 hx hret hlk (by decide) (by decide) (hb hby at_239) e639 hZ hS hk0 hEL H ⟨rfl, N642⟩
            · exact absurd q590 (by decide)
        · exact absurd q550 (by decide)
    · exact absurd q356 (by decide)
  · show Go p_ e_ below _ T137 (mkF m_ 80 #[.val (.int x0), .val (.int x1), .val (.int x2), .val (.int x3), .val (.int x4), .val (.int (2 : Int32)), .val (.int v102), .val (.int v103), .val (.int v104), .val (.int v105), .val (.int v106), .val (.int v107), .val (.ref r121), .val (.ref r143), .unset, .unset, .unset, .unset] [])
    refine g_iload X140 hx rfl (hb hby at_80) 82 rfl ?_
    refine g_if_ne X140 hx (hb hby at_82) 94 85 (by decide) rfl rfl (fun q658 => ?_) (fun q658 => ?_)
    · refine g_iload X140 hx rfl (hb hby at_94) 96 rfl ?_
      refine g_iconst X140 hx (1 : Int32) rfl (hb hby at_96) 97 rfl ?_
      refine g_icmp_ne X140 hx (hb hby at_97) 115 100 (by decide) rfl rfl (fun q659 => ?_) (fun q659 => ?_)
      · refine g_iconst X140 hx (2 : Int32) rfl (hb hby at_115) 116 rfl ?_
        refine g_anewarray X140 hx hZ hown (wd hw 4 rfl) (wd hw 26 rfl) e141 (by decide) 2 (by decide) (by decide) (by decide) (by decide) [.null, .null] rfl (hb hby at_116) 119 rfl (fun T660 h661 b662 X663 e664 g665 E666 A667 O668 => ?_)
        have ne669 : b122 ≠ b662 := Nat.ne_of_lt (Nat.lt_of_lt_of_eq F160.lt g665.symm)
        have ne670 : b144 ≠ b662 := Nat.ne_of_lt (Nat.lt_of_lt_of_eq A150.lt g665.symm)
        have ne671 : fa ≠ b662 := Nat.ne_of_lt (Nat.lt_of_lt_of_eq F156.lt g665.symm)
        have ne672 : r121 ≠ b662 := Nat.ne_of_lt (Nat.lt_of_lt_of_eq F157.lt g665.symm)
        have ne673 : r143 ≠ b662 := Nat.ne_of_lt (Nat.lt_of_lt_of_eq E147.lt g665.symm)
        have F674 := F153.ext E666
        have F675 := F154.ext E666
        have F676 := F155.ext E666
        have F677 := F156.ext E666
        have F678 := F157.ext E666
        have F679 := F158.ext E666
        have F680 := F159.ext E666
        have F681 := F160.ext E666
        have F682 := F161.ext E666
        have F683 := E147.ext E666
        have F684 := F148.ext E666
        have F685 := F149.ext E666
        have F686 := A150.ext E666
        have F687 := E151.ext E666
        have sz688 : h0.size ≤ b662 := Nat.le_trans szh162 (Nat.le_of_eq g665.symm)
        have szh689 : h0.size ≤ h661.size := Nat.le_trans szh162 E666.1
        have H := H.trans (CHr.ext E666 H.1)
        have hk0 := Nat.le_trans hk0 E666.1
        show Go p_ e_ below _ T660 (mkF m_ 119 #[.val (.int x0), .val (.int x1), .val (.int x2), .val (.int x3), .val (.int x4), .val (.int (2 : Int32)), .val (.int v102), .val (.int v103), .val (.int v104), .val (.int v105), .val (.int v106), .val (.int v107), .val (.ref r121), .val (.ref r143), .unset, .unset, .unset, .unset] [(.ref b662)])
        refine g_astore X663 hx #[.val (.int x0), .val (.int x1), .val (.int x2), .val (.int x3), .val (.int x4), .val (.int (2 : Int32)), .val (.int v102), .val (.int v103), .val (.int v104), .val (.int v105), .val (.int v106), .val (.int v107), .val (.ref r121), .val (.ref r143), .val (.ref b662), .unset, .unset, .unset] rfl rfl (hb hby at_119) 121 rfl ?_
        refine g_aload X663 hx rfl rfl (hb hby at_121) 123 rfl ?_
        refine g_iconst X663 hx (0 : Int32) rfl (hb hby at_123) 124 rfl ?_
        refine g_aload X663 hx rfl rfl (hb hby at_124) 126 rfl ?_
        refine g_aastore X663 hx hZ e664 A667 rfl (O668.sto A667 (Ins.self F678)) (by decide) (Nat.le_of_ble_eq_true rfl) (hb hby at_126) 127 rfl (fun T690 h691 X692 e693 W694 A695 => ?_)
        have A696 : AV Z h691 b662 (.object "java/lang/String") [(.ref r121), .null] := A695
        have H := H.trans (CHr.wr W694 (AV.safe hZ.alike A667 (by decide)) H.1)
        have hk0 := Nat.le_trans hk0 (Nat.le_of_eq W694.size.symm)
        have F697 := F674.wr W694
        have F698 := F675.wr W694
        have F699 := F676.wr W694
        have F700 := F677.wr W694
        have F701 := F678.wr W694
        have F702 := F679.other W694 (Or.inl ne672)
        have F703 := F680.other W694 (Or.inl ne672)
        have F704 := F681.other W694 ne669
        have F705 := F682.wr W694
        have F706 := F683.wr W694
        have F707 := F684.other W694 (Or.inl ne673)
        have F708 := F685.other W694 (Or.inl ne673)
        have F709 := F686.other W694 ne670
        have F710 := F687.wr W694
        have F711 := A696
        have F712 := O668.wr W694
        have N713 := Fr.snoc X692 N152 sz688
        have szh714 : h0.size ≤ h691.size := Nat.le_trans szh689 (Nat.le_of_eq W694.size.symm)
        show Go p_ e_ below _ T690 (mkF m_ 127 #[.val (.int x0), .val (.int x1), .val (.int x2), .val (.int x3), .val (.int x4), .val (.int (2 : Int32)), .val (.int v102), .val (.int v103), .val (.int v104), .val (.int v105), .val (.int v106), .val (.int v107), .val (.ref r121), .val (.ref r143), .val (.ref b662), .unset, .unset, .unset] [])
        refine g_aload X692 hx rfl rfl (hb hby at_127) 129 rfl ?_
        refine g_iconst X692 hx (1 : Int32) rfl (hb hby at_129) 130 rfl ?_
        refine g_aload X692 hx rfl rfl (hb hby at_130) 132 rfl ?_
        refine g_aastore X692 hx hZ e693 A696 rfl (F712.sto A696 (Ins.self F706)) (by decide) (Nat.le_of_ble_eq_true rfl) (hb hby at_132) 133 rfl (fun T715 h716 X717 e718 W719 A720 => ?_)
        have A721 : AV Z h716 b662 (.object "java/lang/String") [(.ref r121), (.ref r143)] := A720
        have H := H.trans (CHr.wr W719 (AV.safe hZ.alike A696 (by decide)) H.1)
        have hk0 := Nat.le_trans hk0 (Nat.le_of_eq W719.size.symm)
        have F722 := F697.wr W719
        have F723 := F698.wr W719
        have F724 := F699.wr W719
        have F725 := F700.wr W719
        have F726 := F701.wr W719
        have F727 := F702.other W719 (Or.inl ne672)
        have F728 := F703.other W719 (Or.inl ne672)
        have F729 := F704.other W719 ne669
        have F730 := F705.wr W719
        have F731 := F706.wr W719
        have F732 := F707.other W719 (Or.inl ne673)
        have F733 := F708.other W719 (Or.inl ne673)
        have F734 := F709.other W719 ne670
        have F735 := F710.wr W719
        have F736 := A721
        have F737 := F712.wr W719
        have N738 := Fr.snoc X717 N713 sz688
        have szh739 : h0.size ≤ h716.size := Nat.le_trans szh714 (Nat.le_of_eq W719.size.symm)
        show Go p_ e_ below _ T715 (mkF m_ 133 #[.val (.int x0), .val (.int x1), .val (.int x2), .val (.int x3), .val (.int x4), .val (.int (2 : Int32)), .val (.int v102), .val (.int v103), .val (.int v104), .val (.int v105), .val (.int v106), .val (.int v107), .val (.ref r121), .val (.ref r143), .val (.ref b662), .unset, .unset, .unset] [])
        refine g_new X717 hx hZ hown (wd hw 27 rfl) (wd hw 28 rfl) (wd hw 29 rfl) e718 (hb hby at_133) (by decide) (by decide) 136 rfl (fun T740 h741 b742 X743 e744 g745 E746 A747 D748 => ?_)
        have ne749 : b122 ≠ b742 := Nat.ne_of_lt (Nat.lt_of_lt_of_eq F729.lt g745.symm)
        have ne750 : b144 ≠ b742 := Nat.ne_of_lt (Nat.lt_of_lt_of_eq F734.lt g745.symm)
        have ne751 : b662 ≠ b742 := Nat.ne_of_lt (Nat.lt_of_lt_of_eq A721.lt g745.symm)
        have ne752 : fa ≠ b742 := Nat.ne_of_lt (Nat.lt_of_lt_of_eq F725.lt g745.symm)
        have ne753 : r121 ≠ b742 := Nat.ne_of_lt (Nat.lt_of_lt_of_eq F726.lt g745.symm)
        have ne754 : r143 ≠ b742 := Nat.ne_of_lt (Nat.lt_of_lt_of_eq F731.lt g745.symm)
        have F755 := F722.ext E746
        have F756 := F723.ext E746
        have F757 := F724.ext E746
        have F758 := F725.ext E746
        have F759 := F726.ext E746
        have F760 := F727.ext E746
        have F761 := F728.ext E746
        have F762 := F729.ext E746
        have F763 := F730.ext E746
        have F764 := F731.ext E746
        have F765 := F732.ext E746
        have F766 := F733.ext E746
        have F767 := F734.ext E746
        have F768 := F735.ext E746
        have F769 := A721.ext E746
        have F770 := F737.ext E746
        have sz771 : h0.size ≤ b742 := Nat.le_trans szh739 (Nat.le_of_eq g745.symm)
        have szh772 : h0.size ≤ h741.size := Nat.le_trans szh739 E746.1
        have H := H.trans (CHr.ext E746 H.1)
        have hk0 := Nat.le_trans hk0 E746.1
        have F773 : Fld Z h741 b742 "com/example/bindwick/bindwick/Attribute" "name" "Ljava/lang/String;" .null := D748 (Or.inr (wd hw 41 rfl)) (ty := (.object "java/lang/String")) (by decide)
        have F774 : Fld Z h741 b742 "com/example/bindwick/bindwick/Attribute" "values" "[[B" .null := D748 (Or.inr (wd hw 52 rfl)) (ty := (.array (.array .byte))) (by decide)
        show Go p_ e_ below _ T740 (mkF m_ 136 #[.val (.int x0), .val (.int x1), .val (.int x2), .val (.int x3), .val (.int x4), .val (.int (2 : Int32)), .val (.int v102), .val (.int v103), .val (.int v104), .val (.int v105), .val (.int v106), .val (.int v107), .val (.ref r121), .val (.ref r143), .val (.ref b662), .unset, .unset, .unset] [(.ref b742)])
        refine g_dup X743 hx rfl (hb hby at_136) 137 rfl ?_
        refine g_ldcO X743 hx hown (wd hw 30 rfl) (own_wS hw) e744 hZ hS hk0 hEL H (hb hby at_137) (n := 8) (by decide) (by decide) (by decide) (by decide) 139 rfl (fun b777 T775 h776 k779 X780 e781 E782 hZ hown hS hk0 H => ?_)
        have F783 := F755.ext E782
        have F784 := F756.ext E782
        have F785 := F757.ext E782
        have F786 := F758.ext E782
        have F787 := F759.ext E782
        have F788 := F760.ext E782
        have F789 := F761.ext E782
        have F790 := F762.ext E782
        have F791 := F763.ext E782
        have F792 := F764.ext E782
        have F793 := F765.ext E782
        have F794 := F766.ext E782
        have F795 := F767.ext E782
        have F796 := F768.ext E782
        have F797 := F769.ext E782
        have F798 := F770.ext E782
        have F799 := A747.ext E782
        have F800 := F773.ext E782
        have F801 := F774.ext E782
        have szh802 : h0.size ≤ h776.size := Nat.le_trans szh772 E782.1
        show Go p_ e_ below _ T775 (mkF m_ 139 #[.val (.int x0), .val (.int x1), .val (.int x2), .val (.int x3), .val (.int x4), .val (.int (2 : Int32)), .val (.int v102), .val (.int v103), .val (.int v104), .val (.int v105), .val (.int v106), .val (.int v107), .val (.ref r121), .val (.ref r143), .val (.ref b662), .unset, .unset, .unset] [(.ref b777), (.ref b742), (.ref b742)])
        refine g_aload X780 hx rfl rfl (hb hby at_139) 141 rfl ?_
        refine g_initH X780 hx hown (wd hw 31 rfl) rfl (wd hw 32 rfl) (wd hw 29 rfl) (wd hw 33 rfl) (by decide) e781 [(.ref b777), (.ref b662)] [(.ref b742)] hZ hS hk0 hEL H rfl (co5_2 l Z a0 hw hEL b742 b777 b662 r121 b122 (lt3 v102 v104 v105) r143 b144 (lt3 v103 v106 v107) cs u fa cK h776 h0.size szh802 sz771 F799 F800 F801 F797 F787 F788 F789 F790 F791 (oks_lt hh110 hh111) F792 F793 F794 F795 F796 (oks_lt hh112 hh113) ne751 ne753 ne749 ne754 ne750 F783 hcs F784 F785 F786 hsite) (lenOf pd_20 rfl) 1 (Nat.le_of_eq rfl) (by decide) (by decide) (by decide) (by decide) (by rw [hml]; rfl) (hb hby at_141) 144 rfl (fun r803 T804 h805 L806 X807 e808 hZ hown hS H Q809 => ?_)
        have hk0 := Nat.le_refl h805.size
        obtain ⟨rfl, n811, K812, E814, b810, b816, b817, F815, A813, A818, E819, A820, E821⟩ := Q809
        have N822 := Fr.app N738 n811
        have F823 := F799.keep K812
        have szh824 : h0.size ≤ h805.size := Nat.le_trans szh802 K812.1
        show Go p_ e_ below _ T804 (mkF m_ 144 #[.val (.int x0), .val (.int x1), .val (.int x2), .val (.int x3), .val (.int x4), .val (.int (2 : Int32)), .val (.int v102), .val (.int v103), .val (.int v104), .val (.int v105), .val (.int v106), .val (.int v107), .val (.ref r121), .val (.ref r143), .val (.ref b662), .unset, .unset, .unset] [(.ref b742)])
        refine g_astore X807 hx #[.val (.int x0), .val (.int x1), .val (.int x2), .val (.int x3), .val (.int x4), .val (.int (2 : Int32)), .val (.int v102), .val (.int v103), .val (.int v104), .val (.int v105), .val (.int v106), .val (.int v107), .val (.ref r121), .val (.ref r143), .val (.ref b662), .val (.ref b742), .unset, .unset] rfl rfl (hb hby at_144) 146 rfl ?_
        refine g_aload X807 hx rfl rfl (hb hby at_146) 148 rfl ?_
        refine g_callV X807 hx hZ hown (wd hw 53 rfl) (C := "com/example/bindwick/bindwick/Attribute") (wd hw 54 rfl) (wd hw 56 rfl) (wd hw 55 rfl) (wd hw 29 rfl) (wd hw 57 rfl) (by decide) e808 [] [] E814 rfl (co8_2 l Z a0 hw b742 b810 b816 (lt3 v102 v104 v105) b817 (lt3 v103 v106 v107) h805 h0.size szh824 F815 E814 A813 A818 E819 (oks_lt hh110 hh111) A820 E821 (oks_lt hh112 hh113)) (lenOf pd_21 rfl) 0 (Nat.le_of_eq rfl) (by decide) (by decide) (by decide) (by decide) (by rw [hml]; rfl) (hb hby at_148) 151 rfl (fun r825 T826 L827 X828 Q829 => ?_)
        obtain ⟨h830, e831⟩ : ∃ h, T826.heap = h := ⟨_, rfl⟩
        rw [e831] at Q829
        obtain ⟨b832, b837, b838, rfl, n833, K834, g835, A836, g839, A840, E841, ne842, g843, A844, E845, ne846, ne847⟩ := Q829
        have N848 := Fr.app N822 n833
        have ne849 : b742 ≠ b832 := Nat.ne_of_lt (Nat.lt_of_lt_of_le E814.lt g835)
        have ne850 : b810 ≠ b832 := Nat.ne_of_lt (Nat.lt_of_lt_of_le A813.lt g835)
        have ne851 : b816 ≠ b832 := Nat.ne_of_lt (Nat.lt_of_lt_of_le A818.lt g835)
        have ne852 : b817 ≠ b832 := Nat.ne_of_lt (Nat.lt_of_lt_of_le A820.lt g835)
        have sz853 : h0.size ≤ b832 := Nat.le_trans szh824 g835
        have ne854 : b742 ≠ b837 := Nat.ne_of_lt (Nat.lt_of_lt_of_le E814.lt g839)
        have ne855 : b810 ≠ b837 := Nat.ne_of_lt (Nat.lt_of_lt_of_le A813.lt g839)
        have ne856 : b816 ≠ b837 := Nat.ne_of_lt (Nat.lt_of_lt_of_le A818.lt g839)
        have ne857 : b817 ≠ b837 := Nat.ne_of_lt (Nat.lt_of_lt_of_le A820.lt g839)
        have sz858 : h0.size ≤ b837 := Nat.le_trans szh824 g839
        have ne859 : b742 ≠ b838 := Nat.ne_of_lt (Nat.lt_of_lt_of_le E814.lt g843)
        have ne860 : b810 ≠ b838 := Nat.ne_of_lt (Nat.lt_of_lt_of_le A813.lt g843)
        have ne861 : b816 ≠ b838 := Nat.ne_of_lt (Nat.lt_of_lt_of_le A818.lt g843)
        have ne862 : b817 ≠ b838 := Nat.ne_of_lt (Nat.lt_of_lt_of_le A820.lt g843)
        have sz863 : h0.size ≤ b838 := Nat.le_trans szh824 g843
        have sf864 := Safe.keep K834 sf0 H.1 (Safe.new g835)
        have sf865 := Safe.keep K834 sf0 H.1 (Safe.new g839)
        have sf866 := Safe.keep K834 sf0 H.1 (Safe.new g843)
        have H := H.trans (CHr.keep K834 sf0 H.1)
        have hk0 := Nat.le_trans hk0 K834.1
        have F867 := E814.keep K834
        have F868 := F815.keep K834 nin0
        have F869 := A813.keep K834 nin0
        have F870 := A818.keep K834 nin0
        have F871 := E819.keep K834
        have F872 := A820.keep K834 nin0
        have F873 := E821.keep K834
        have szh874 : h0.size ≤ h830.size := Nat.le_trans szh824 K834.1
        show Go p_ e_ below _ T826 (mkF m_ 151 #[.val (.int x0), .val (.int x1), .val (.int x2), .val (.int x3), .val (.int x4), .val (.int (2 : Int32)), .val (.int v102), .val (.int v103), .val (.int v104), .val (.int v105), .val (.int v106), .val (.int v107), .val (.ref r121), .val (.ref r143), .val (.ref b662), .val (.ref b742), .unset, .unset] [(.ref b832)])
        refine g_astore X828 hx #[.val (.int x0), .val (.int x1), .val (.int x2), .val (.int x3), .val (.int x4), .val (.int (2 : Int32)), .val (.int v102), .val (.int v103), .val (.int v104), .val (.int v105), .val (.int v106), .val (.int v107), .val (.ref r121), .val (.ref r143), .val (.ref b662), .val (.ref b742), .val (.ref b832), .unset] rfl rfl (hb hby at_151) 153 rfl ?_
        refine g_aload X828 hx rfl rfl (hb hby at_153) 155 rfl ?_
        refine g_iload X828 hx rfl (hb hby at_155) 157 rfl ?_
        refine g_iload X828 hx rfl (hb hby at_157) 159 rfl ?_
        refine g_iload X828 hx rfl (hb hby at_159) 161 rfl ?_
        refine g_iload X828 hx rfl (hb hby at_161) 163 rfl ?_
        refine g_iload X828 hx rfl (hb hby at_163) 165 rfl ?_
        refine g_iload X828 hx rfl (hb hby at_165) 167 rfl ?_
        refine g_iload X828 hx rfl (hb hby at_167) 169 rfl ?_
        refine g_callS X828 hx hZ hown (wd hw 58 rfl) (wd hw 59 rfl) (wd hw 2 rfl) (wd hw 60 rfl) (by decide) e831 [(.ref b832), (.int (2 : Int32)), (.int v102), (.int v104), (.int v105), (.int v103), (.int v106), (.int v107)] [] rfl (co9_2 l Z a0 hw b832 v102 v104 v105 v103 v106 v107 b837 b838 h830 h0.size szh874 A836 A840 hh108 hh110 hh111 A844 hh109 hh112 hh113) (lenOf pd_22 rfl) 0 (Nat.le_of_eq rfl) (by decide) (by decide) (by decide) (by decide) (by rw [hml]; rfl) (hb hby at_169) 172 rfl (fun r875 T876 L877 X878 Q879 => ?_)
        obtain ⟨h880, e881⟩ : ∃ h, T876.heap = h := ⟨_, rfl⟩
        rw [e881] at Q879
        obtain ⟨rfl, n882, K883⟩ := Q879
        have N884 := Fr.app N848 n882
        have sf885 := Safe.keep K883 sf0 H.1 sf864
        have sf886 := Safe.keep K883 sf0 H.1 sf865
        have sf887 := Safe.keep K883 sf0 H.1 sf866
        have H := H.trans (CHr.keep K883 sf0 H.1)
        have hk0 := Nat.le_trans hk0 K883.1
        have F888 := F867.keep K883
        have F889 := F868.keep K883 nin0
        have F890 := F869.keep K883 nin0
        have F891 := F870.keep K883 nin0
        have F892 := F871.keep K883
        have F893 := F872.keep K883 nin0
        have F894 := F873.keep K883
        have F895 := A836.keep K883 nin0
        have F896 := A840.keep K883 nin0
        have F897 := E841.keep K883
        have F898 := A844.keep K883 nin0
        have F899 := E845.keep K883
        have szh900 : h0.size ≤ h880.size := Nat.le_trans szh874 K883.1
        show Go p_ e_ below _ T876 (mkF m_ 172 #[.val (.int x0), .val (.int x1), .val (.int x2), .val (.int x3), .val (.int x4), .val (.int (2 : Int32)), .val (.int v102), .val (.int v103), .val (.int v104), .val (.int v105), .val (.int v106), .val (.int v107), .val (.ref r121), .val (.ref r143), .val (.ref b662), .val (.ref b742), .val (.ref b832), .unset] [(.int (1 : Int32))])
        refine g_if_ne X878 hx (hb hby at_172) 177 175 (by decide) rfl rfl (fun q901 => ?_) (fun q901 => ?_)
        · refine g_iload X878 hx rfl (hb hby at_177) 179 rfl ?_
          refine g_iconst X878 hx (1 : Int32) rfl (hb hby at_179) 180 rfl ?_
          refine g_icmp_lt X878 hx (hb hby at_180) 195 183 (by decide) rfl rfl (fun q902 => ?_) (fun q902 => ?_)
          · exact absurd q902 (by decide)
          · refine g_aload X878 hx rfl rfl (hb hby at_183) 185 rfl ?_
            refine g_iconst X878 hx (0 : Int32) rfl (hb hby at_185) 186 rfl ?_
            refine g_aaload X878 hx hZ e881 F895 rfl (by decide) rfl (hb hby at_186) 187 rfl ?_
            show Go p_ e_ below _ T876 (mkF m_ 187 #[.val (.int x0), .val (.int x1), .val (.int x2), .val (.int x3), .val (.int x4), .val (.int (2 : Int32)), .val (.int v102), .val (.int v103), .val (.int v104), .val (.int v105), .val (.int v106), .val (.int v107), .val (.ref r121), .val (.ref r143), .val (.ref b662), .val (.ref b742), .val (.ref b832), .unset] [(.ref b837)])
            refine g_callS X878 hx hZ hown (wd hw 117 rfl) (wd hw 118 rfl) (wd hw 2 rfl) (wd hw 119 rfl) (by decide) e881 [(.ref b837)] [] rfl (coP l Z a0 hw b837 (lt3 v102 v104 v105) h880 h0.size szh900 sz858 (oks_lt hh110 hh111) F896) (lenOf pd_23 rfl) 0 (Nat.le_of_eq rfl) (by decide) (by decide) (by decide) (by decide) (by rw [hml]; rfl) (hb hby at_187) 190 rfl (fun r903 T904 L905 X906 Q907 => ?_)
            unfold QP at Q907
            obtain ⟨h908, e909⟩ : ∃ h, T904.heap = h := ⟨_, rfl⟩
            rw [e909] at Q907
            obtain ⟨rfl, n910, K911⟩ := Q907
            have N912 := Fr.app N884 n910
            have sf913 := Safe.keep K911 (sfS sf886 sf0) H.1 sf885
            have sf914 := Safe.keep K911 (sfS sf886 sf0) H.1 sf886
            have sf915 := Safe.keep K911 (sfS sf886 sf0) H.1 sf887
            have H := H.trans (CHr.keep K911 (sfS sf886 sf0) H.1)
            have hk0 := Nat.le_trans hk0 K911.1
            have F916 := F888.keep K911
            have F917 := F889.keep K911 (ninS ne854 nin0)
            have F918 := F890.keep K911 (ninS ne855 nin0)
            have F919 := F891.keep K911 (ninS ne856 nin0)
            have F920 := F892.keep K911
            have F921 := F893.keep K911 (ninS ne857 nin0)
            have F922 := F894.keep K911
            have F923 := F895.keep K911 (ninS ne842 nin0)
            have F924 := F897.keep K911
            have F925 := F898.keep K911 (ninS (Ne.symm ne847) nin0)
            have F926 := F899.keep K911
            have szh927 : h0.size ≤ h908.size := Nat.le_trans szh900 K911.1
            show Go p_ e_ below _ T904 (mkF m_ 190 #[.val (.int x0), .val (.int x1), .val (.int x2), .val (.int x3), .val (.int x4), .val (.int (2 : Int32)), .val (.int v102), .val (.int v103), .val (.int v104), .val (.int v105), .val (.int v106), .val (.int v107), .val (.ref r121), .val (.ref r143), .val (.ref b662), .val (.ref b742), .val (.ref b832), .unset] [])
            refine g_aload X906 hx rfl rfl (hb hby at_190) 192 rfl ?_
            refine g_iconst X906 hx (0 : Int32) rfl (hb hby at_192) 193 rfl ?_
            refine g_aconst_null X906 hx (hb hby at_193) 194 rfl ?_
            refine g_aastore X906 hx hZ e909 F923 rfl (Or.inl rfl) (by decide) (Nat.le_of_ble_eq_true rfl) (hb hby at_194) 195 rfl (fun T928 h929 X930 e931 W932 A933 => ?_)
            have A934 : AV Z h929 b832 (.array .byte) [.null, (.ref b838)] := A933
            have sf935 := Safe.wr W932 (AV.safe hZ.alike F923 (by decide)) H.1 sf913
            have sf936 := Safe.wr W932 (AV.safe hZ.alike F923 (by decide)) H.1 sf914
            have sf937 := Safe.wr W932 (AV.safe hZ.alike F923 (by decide)) H.1 sf915
            have H := H.trans (CHr.wr W932 (AV.safe hZ.alike F923 (by decide)) H.1)
            have hk0 := Nat.le_trans hk0 (Nat.le_of_eq W932.size.symm)
            have F938 := F916.wr W932
            have F939 := F917.other W932 (Or.inl ne849)
            have F940 := F918.other W932 ne850
            have F941 := F919.other W932 ne851
            have F942 := F920.wr W932
            have F943 := F921.other W932 ne852
            have F944 := F922.wr W932
            have F945 := A934
            have F946 := F924.wr W932
            have F947 := F925.other W932 (Ne.symm ne846)
            have F948 := F926.wr W932
            have N949 := Fr.snoc X930 N912 sz853
            have szh950 : h0.size ≤ h929.size := Nat.le_trans szh927 (Nat.le_of_eq W932.size.symm)
            show Go p_ e_ below _ T928 (mkF m_ 195 #[.val (.int x0), .val (.int x1), .val (.int x2), .val (.int x3), .val (.int x4), .val (.int (2 : Int32)), .val (.int v102), .val (.int v103), .val (.int v104), .val (.int v105), .val (.int v106), .val (.int v107), .val (.ref r121), .val (.ref r143), .val (.ref b662), .val (.ref b742), .val (.ref b832), .unset] [])
            refine g_iload X930 hx rfl (hb hby at_195) 197 rfl ?_
            refine g_iconst X930 hx (2 : Int32) rfl (hb hby at_197) 198 rfl ?_
            refine g_icmp_ne X930 hx (hb hby at_198) 213 201 (by decide) rfl rfl (fun q951 => ?_) (fun q951 => ?_)
            · exact absurd rfl q951
            · refine g_aload X930 hx rfl rfl (hb hby at_201) 203 rfl ?_
              refine g_iconst X930 hx (1 : Int32) rfl (hb hby at_203) 204 rfl ?_
              refine g_aaload X930 hx hZ e931 A934 rfl (by decide) rfl (hb hby at_204) 205 rfl ?_
              show Go p_ e_ below _ T928 (mkF m_ 205 #[.val (.int x0), .val (.int x1), .val (.int x2), .val (.int x3), .val (.int x4), .val (.int (2 : Int32)), .val (.int v102), .val (.int v103), .val (.int v104), .val (.int v105), .val (.int v106), .val (.int v107), .val (.ref r121), .val (.ref r143), .val (.ref b662), .val (.ref b742), .val (.ref b832), .unset] [(.ref b838)])
              refine g_callS X930 hx hZ hown (wd hw 117 rfl) (wd hw 118 rfl) (wd hw 2 rfl) (wd hw 119 rfl) (by decide) e931 [(.ref b838)] [] rfl (coP l Z a0 hw b838 (lt3 v103 v106 v107) h929 h0.size szh950 sz863 (oks_lt hh112 hh113) F947) (lenOf pd_23 rfl) 0 (Nat.le_of_eq rfl) (by decide) (by decide) (by decide) (by decide) (by rw [hml]; rfl) (hb hby at_205) 208 rfl (fun r952 T953 L954 X955 Q956 => ?_)
              unfold QP at Q956
              obtain ⟨h957, e958⟩ : ∃ h, T953.heap = h := ⟨_, rfl⟩
              rw [e958] at Q956
              obtain ⟨rfl, n959, K960⟩ := Q956
              have N961 := Fr.app N949 n959
              have sf962 := Safe.keep K960 (sfS sf937 sf0) H.1 sf935
              have sf963 := Safe.keep K960 (sfS sf937 sf0) H.1 sf936
              have sf964 := Safe.keep K960 (sfS sf937 sf0) H.1 sf937
              have H := H.trans (CHr.keep K960 (sfS sf937 sf0) H.1)
              have hk0 := Nat.le_trans hk0 K960.1
              have F965 := F938.keep K960
              have F966 := F939.keep K960 (ninS ne859 nin0)
              have F967 := F940.keep K960 (ninS ne860 nin0)
              have F968 := F941.keep K960 (ninS ne861 nin0)
              have F969 := F942.keep K960
              have F970 := F943.keep K960 (ninS ne862 nin0)
              have F971 := F944.keep K960
              have F972 := A934.keep K960 (ninS ne846 nin0)
              have F973 := F946.keep K960
              have F974 := F948.keep K960
              have szh975 : h0.size ≤ h957.size := Nat.le_trans szh950 K960.1
              show Go p_ e_ below _ T953 (mkF m_ 208 #[.val (.int x0), .val (.int x1), .val (.int x2), .val (.int x3), .val (.int x4), .val (.int (2 : Int32)), .val (.int v102), .val (.int v103), .val (.int v104), .val (.int v105), .val (.int v106), .val (.int v107), .val (.ref r121), .val (.ref r143), .val (.ref b662), .val (.ref b742), .val (.ref b832), .unset] [])
              refine g_aload X955 hx rfl rfl (hb hby at_208) 210 rfl ?_
              refine g_iconst X955 hx (1 : Int32) rfl (hb hby at_210) 211 rfl ?_
              refine g_aconst_null X955 hx (hb hby at_211) 212 rfl ?_
              refine g_aastore X955 hx hZ e958 F972 rfl (Or.inl rfl) (by decide) (Nat.le_of_ble_eq_true rfl) (hb hby at_212) 213 rfl (fun T976 h977 X978 e979 W980 A981 => ?_)
              have A982 : AV Z h977 b832 (.array .byte) [.null, .null] := A981
              have sf983 := Safe.wr W980 (AV.safe hZ.alike F972 (by decide)) H.1 sf962
              have sf984 := Safe.wr W980 (AV.safe hZ.alike F972 (by decide)) H.1 sf963
              have sf985 := Safe.wr W980 (AV.safe hZ.alike F972 (by decide)) H.1 sf964
              have H := H.trans (CHr.wr W980 (AV.safe hZ.alike F972 (by decide)) H.1)
              have hk0 := Nat.le_trans hk0 (Nat.le_of_eq W980.size.symm)
              have F986 := F965.wr W980
              have F987 := F966.other W980 (Or.inl ne849)
              have F988 := F967.other W980 ne850
              have F989 := F968.other W980 ne851
              have F990 := F969.wr W980
              have F991 := F970.other W980 ne852
              have F992 := F971.wr W980
              have F993 := A982
              have F994 := F973.wr W980
              have F995 := F974.wr W980
              have N996 := Fr.snoc X978 N961 sz853
              have szh997 : h0.size ≤ h977.size := Nat.le_trans szh975 (Nat.le_of_eq W980.size.symm)
              show Go p_ e_ below _ T976 (mkF m_ 213 #[.val (.int x0), .val (.int x1), .val (.int x2), .val (.int x3), .val (.int x4), .val (.int (2 : Int32)), .val (.int v102), .val (.int v103), .val (.int v104), .val (.int v105), .val (.int v106), .val (.int v107), .val (.ref r121), .val (.ref r143), .val (.ref b662), .val (.ref b742), .val (.ref b832), .unset] [])
              refine g_aload X978 hx rfl rfl (hb hby at_213) 215 rfl ?_
              refine g_callV X978 hx hZ hown (wd hw 53 rfl) (C := "com/example/bindwick/bindwick/Attribute") (wd hw 54 rfl) (wd hw 56 rfl) (wd hw 55 rfl) (wd hw 29 rfl) (wd hw 57 rfl) (by decide) e979 [] [] F986 rfl (co8_2 l Z a0 hw b742 b810 b816 (lt3 v102 v104 v105) b817 (lt3 v103 v106 v107) h977 h0.size szh997 F987 F986 F988 F989 F990 (oks_lt hh110 hh111) F991 F992 (oks_lt hh112 hh113)) (lenOf pd_21 rfl) 0 (Nat.le_of_eq rfl) (by decide) (by decide) (by decide) (by decide) (by rw [hml]; rfl) (hb hby at_215) 218 rfl (fun r998 T999 L1000 X1001 Q1002 => ?_)
              obtain ⟨h1003, e1004⟩ : ∃ h, T999.heap = h := ⟨_, rfl⟩
              rw [e1004] at Q1002
              obtain ⟨b1005, b1010, b1011, rfl, n1006, K1007, g1008, A1009, g1012, A1013, E1014, ne1015, g1016, A1017, E1018, ne1019, ne1020⟩ := Q1002
              have N1021 := Fr.app N996 n1006
              have ne1022 : b742 ≠ b1005 := Nat.ne_of_lt (Nat.lt_of_lt_of_le F986.lt g1008)
              have ne1023 : b810 ≠ b1005 := Nat.ne_of_lt (Nat.lt_of_lt_of_le F988.lt g1008)
              have ne1024 : b816 ≠ b1005 := Nat.ne_of_lt (Nat.lt_of_lt_of_le F989.lt g1008)
              have ne1025 : b817 ≠ b1005 := Nat.ne_of_lt (Nat.lt_of_lt_of_le F991.lt g1008)
              have ne1026 : b832 ≠ b1005 := Nat.ne_of_lt (Nat.lt_of_lt_of_le A982.lt g1008)
              have ne1027 : b837 ≠ b1005 := Nat.ne_of_lt (Nat.lt_of_lt_of_le F994.lt g1008)
              have ne1028 : b838 ≠ b1005 := Nat.ne_of_lt (Nat.lt_of_lt_of_le F995.lt g1008)
              have sz1029 : h0.size ≤ b1005 := Nat.le_trans szh997 g1008
              have ne1030 : b742 ≠ b1010 := Nat.ne_of_lt (Nat.lt_of_lt_of_le F986.lt g1012)
              have ne1031 : b810 ≠ b1010 := Nat.ne_of_lt (Nat.lt_of_lt_of_le F988.lt g1012)
              have ne1032 : b816 ≠ b1010 := Nat.ne_of_lt (Nat.lt_of_lt_of_le F989.lt g1012)
              have ne1033 : b817 ≠ b1010 := Nat.ne_of_lt (Nat.lt_of_lt_of_le F991.lt g1012)
              have ne1034 : b832 ≠ b1010 := Nat.ne_of_lt (Nat.lt_of_lt_of_le A982.lt g1012)
              have ne1035 : b837 ≠ b1010 := Nat.ne_of_lt (Nat.lt_of_lt_of_le F994.lt g1012)
              have ne1036 : b838 ≠ b1010 := Nat.ne_of_lt (Nat.lt_of_lt_of_le F995.lt g1012)
              have sz1037 : h0.size ≤ b1010 := Nat.le_trans szh997 g1012
              have ne1038 : b742 ≠ b1011 := Nat.ne_of_lt (Nat.lt_of_lt_of_le F986.lt g1016)
              have ne1039 : b810 ≠ b1011 := Nat.ne_of_lt (Nat.lt_of_lt_of_le F988.lt g1016)
              have ne1040 : b816 ≠ b1011 := Nat.ne_of_lt (Nat.lt_of_lt_of_le F989.lt g1016)
              have ne1041 : b817 ≠ b1011 := Nat.ne_of_lt (Nat.lt_of_lt_of_le F991.lt g1016)
              have ne1042 : b832 ≠ b1011 := Nat.ne_of_lt (Nat.lt_of_lt_of_le A982.lt g1016)
              have ne1043 : b837 ≠ b1011 := Nat.ne_of_lt (Nat.lt_of_lt_of_le F994.lt g1016)
              have ne1044 : b838 ≠ b1011 := Nat.ne_of_lt (Nat.lt_of_lt_of_le F995.lt g1016)
              have sz1045 : h0.size ≤ b1011 := Nat.le_trans szh997 g1016
              have sf1046 := Safe.keep K1007 sf0 H.1 sf983
              have sf1047 := Safe.keep K1007 sf0 H.1 sf984
              have sf1048 := Safe.keep K1007 sf0 H.1 sf985
              have sf1049 := Safe.keep K1007 sf0 H.1 (Safe.new g1008)
              have sf1050 := Safe.keep K1007 sf0 H.1 (Safe.new g1012)
              have sf1051 := Safe.keep K1007 sf0 H.1 (Safe.new g1016)
              have H := H.trans (CHr.keep K1007 sf0 H.1)
              have hk0 := Nat.le_trans hk0 K1007.1
              have F1052 := F986.keep K1007
              have F1053 := F987.keep K1007 nin0
              have F1054 := F988.keep K1007 nin0
              have F1055 := F989.keep K1007 nin0
              have F1056 := F990.keep K1007
              have F1057 := F991.keep K1007 nin0
              have F1058 := F992.keep K1007
              have F1059 := A982.keep K1007 nin0
              have F1060 := F994.keep K1007
              have F1061 := F995.keep K1007
              have szh1062 : h0.size ≤ h1003.size := Nat.le_trans szh997 K1007.1
              show Go p_ e_ below _ T999 (mkF m_ 218 #[.val (.int x0), .val (.int x1), .val (.int x2), .val (.int x3), .val (.int x4), .val (.int (2 : Int32)), .val (.int v102), .val (.int v103), .val (.int v104), .val (.int v105), .val (.int v106), .val (.int v107), .val (.ref r121), .val (.ref r143), .val (.ref b662), .val (.ref b742), .val (.ref b832), .unset] [(.ref b1005)])
              refine g_astore X1001 hx #[.val (.int x0), .val (.int x1), .val (.int x2), .val (.int x3), .val (.int x4), .val (.int (2 : Int32)), .val (.int v102), .val (.int v103), .val (.int v104), .val (.int v105), .val (.int v106), .val (.int v107), .val (.ref r121), .val (.ref r143), .val (.ref b662), .val (.ref b742), .val (.ref b832), .val (.ref b1005)] rfl rfl (hb hby at_218) 220 rfl ?_
              refine g_aload X1001 hx rfl rfl (hb hby at_220) 222 rfl ?_
              refine g_iload X1001 hx rfl (hb hby at_222) 224 rfl ?_
              refine g_iload X1001 hx rfl (hb hby at_224) 226 rfl ?_
              refine g_iload X1001 hx rfl (hb hby at_226) 228 rfl ?_
              refine g_iload X1001 hx rfl (hb hby at_228) 230 rfl ?_
              refine g_iload X1001 hx rfl (hb hby at_230) 232 rfl ?_
              refine g_iload X1001 hx rfl (hb hby at_232) 234 rfl ?_
              refine g_iload X1001 hx rfl (hb hby at_234) 236 rfl ?_
              refine g_callS X1001 hx hZ hown (wd hw 58 rfl) (wd hw 59 rfl) (wd hw 2 rfl) (wd hw 60 rfl) (by decide) e1004 [(.ref b1005), (.int (2 : Int32)), (.int v102), (.int v104), (.int v105), (.int v103), (.int v106), (.int v107)] [] rfl (co9_2 l Z a0 hw b1005 v102 v104 v105 v103 v106 v107 b1010 b1011 h1003 h0.size szh1062 A1009 A1013 hh108 hh110 hh111 A1017 hh109 hh112 hh113) (lenOf pd_22 rfl) 0 (Nat.le_of_eq rfl) (by decide) (by decide) (by decide) (by decide) (by rw [hml]; rfl) (hb hby at_236) 239 rfl (fun r1063 T1064 L1065 X1066 Q1067 => ?_)
              obtain ⟨h1068, e1069⟩ : ∃ h, T1064.heap = h := ⟨_, rfl⟩
              rw [e1069] at Q1067
              obtain ⟨rfl, n1070, K1071⟩ := Q1067
              have N1072 := Fr.app N1021 n1070
              have sf1073 := Safe.keep K1071 sf0 H.1 sf1046
              have sf1074 := Safe.keep K1071 sf0 H.1 sf1047
              have sf1075 := Safe.keep K1071 sf0 H.1 sf1048
              have sf1076 := Safe.keep K1071 sf0 H.1 sf1049
              have sf1077 := Safe.keep K1071 sf0 H.1 sf1050
              have sf1078 := Safe.keep K1071 sf0 H.1 sf1051
              have H := H.trans (CHr.keep K1071 sf0 H.1)
              have hk0 := Nat.le_trans hk0 K1071.1
              have F1079 := F1052.keep K1071
              have F1080 := F1053.keep K1071 nin0
              have F1081 := F1054.keep K1071 nin0
              have F1082 := F1055.keep K1071 nin0
              have F1083 := F1056.keep K1071
              have F1084 := F1057.keep K1071 nin0
              have F1085 := F1058.keep K1071
              have F1086 := F1059.keep K1071 nin0
              have F1087 := F1060.keep K1071
              have F1088 := F1061.keep K1071
              have F1089 := A1009.keep K1071 nin0
              have F1090 := A1013.keep K1071 nin0
              have F1091 := E1014.keep K1071
              have F1092 := A1017.keep K1071 nin0
              have F1093 := E1018.keep K1071
              have szh1094 : h0.size ≤ h1068.size := Nat.le_trans szh1062 K1071.1
              show Go p_ e_ below _ T1064 (mkF m_ 239 #[.val (.int x0), .val (.int x1), .val (.int x2), .val (.int x3), .val (.int x4), .val (.int (2 : Int32)), .val (.int v102), .val (.int v103), .val (.int v104), .val (.int v105), .val (.int v106), .val (.int v107), .val (.ref r121), .val (.ref r143), .val (.ref b662), .val (.ref b742), .val (.ref b832), .val (.ref b1005)] [(.int (1 : Int32))])
              exact g_retzH X1066 hx hret hlk (by decide) (by decide) (hb hby at_239) e1069 hZ hS hk0 hEL H ⟨rfl, N1072⟩
        · exact absurd q901 (by decide)
      · exact absurd q659 (by decide)
    · exact absurd q658 (by decide)
theorem own_eqR {args : Array Value} {s : State} {t1 t2 : Term} {x y : Addr} (h : (Jvm.Cond.eq t1 t2).value args s none s [] = some true) (e1 : t1.eval args s none [] s = some (.ref x)) (e2 : t2.eval args s none [] s = some (.ref y)) : x = y := by
  simp only [Cond.value, e1, e2, Option.some.injEq, decide_eq_true_eq] at h
  exact h
set_option maxRecDepth 65536 in
set_option maxHeartbeats 40000000 in
theorem comes_1 {Post : Tables → Env → Array Value → State → Outcome → State → Prop} (hpost : ∀ tb e args s v u, (limb_1_1.after args s (.returned v) u = true ∧ limb_1_2.after args s (.returned v) u = true ∧ True) → ReturnedEndW s (.returned v) u (Jvm.fieldLocs frame_1_writes args s ++ Jvm.arrayLocs frame_1_arrays args s ++ Jvm.staticLocs frame_1_statics s) 64 4352 → Post tb e args s (.returned v) u) :
    ArmFor flags0 classFile x code maxLocals ret World_1 tables_1 room_1 Calls_1 rest_1 Pre_1 Post := by
  intro l hfl _ _ p e ha hc hk s m args below hf hA hF happ hP
  obtain ⟨hcalls, hrest, hpre⟩ := hP
  obtain ⟨-, -, -, hnamed, -, -, -, hat⟩ := (Spec.applies_iff hf).mp happ
  obtain ⟨hg, hn⟩ := and_e (Cond.before_iff.mp (show (Jvm.Cond.and given_1 narrow_1).before args s = true from hpre))
  obtain ⟨h1, g0⟩ := and_e hg
  obtain ⟨w0, w1, w2, w3, w4, rfl⟩ : ∃ w0 w1 w2 w3 w4 : Value, args = #[w0, w1, w2, w3, w4] := by
    have hs : args.size = 5 := by simpa [Cond.value, given_1] using h1
    obtain ⟨L⟩ := args
    match L, hs with
    | [w0, w1, w2, w3, w4], _ => exact ⟨w0, w1, w2, w3, w4, rfl⟩
  have hw := fun d (hd : d ∈ tables_1) => atoms_spec (ws := Jvm.Cond.code x code maxLocals ret :: tables_1) hat d (List.mem_cons_of_mem _ hd)
  have hfit : Fit s := fun {y c} hc i hi => by
    obtain ⟨ha, rfl⟩ := Array.getElem?_eq_some_iff.mp hc
    have q := List.all_eq_true.mp ((Array.all_eq_true_iff_forall_mem.mp hF) _ (Array.getElem_mem ha)) i (List.mem_range.mpr hi)
    simpa [Array.getElem?_eq_getElem hi] using q
  obtain ⟨hk_0, hg_1⟩ := and_e g0
  obtain ⟨x0, r0⟩ := is_v hk_0
  obtain rfl : w0 = (.int x0) := Option.some.inj r0
  obtain ⟨hk_1, hg_2⟩ := and_e hg_1
  obtain ⟨x1, r1⟩ := is_v hk_1
  obtain rfl : w1 = (.int x1) := Option.some.inj r1
  obtain ⟨hk_2, hg_3⟩ := and_e hg_2
  obtain ⟨x2, r2⟩ := is_v hk_2
  obtain rfl : w2 = (.int x2) := Option.some.inj r2
  obtain ⟨hk_3, hg_4⟩ := and_e hg_3
  obtain ⟨x3, r3⟩ := is_v hk_3
  obtain rfl : w3 = (.int x3) := Option.some.inj r3
  obtain ⟨x4, r4⟩ := is_v hg_4
  obtain rfl : w4 = (.int x4) := Option.some.inj r4
  have hr0 := hrest
  rw [show rest_1 = Jvm.D.preC rest_1_c from rfl] at hr0
  have hr1 : rest_1_c.before _ s = true := hr0
  rw [rest_1_c_eq] at hr1
  obtain ⟨hsets, -⟩ := atoms_of jdkStatics_1 hr1
  have k0 := hsets _ (List.mem_of_getElem? (i := 0) rfl)
  obtain ⟨cs, evc⟩ := is_v (Cond.before_iff.mp (hsets _ (List.mem_of_getElem? (i := 1) rfl)))
  have S_cs := Sta.start evc (Or.inl k0)
  have hcs : ¬ cs = (0 : Int32) := fun q => by
    have u := not_v (Cond.before_iff.mp (hsets _ (List.mem_of_getElem? (i := 2) rfl)))
    subst q
    exact absurd (u.symm.trans (eq_i evc (Term.int_eval 0) rfl)) (by decide)
  have m10 := hsets _ (List.mem_of_getElem? (i := 10) rfl)
  have m12 := hsets _ (List.mem_of_getElem? (i := 12) rfl)
  have m13 := hsets _ (List.mem_of_getElem? (i := 13) rfl)
  have m14 := hsets _ (List.mem_of_getElem? (i := 14) rfl)
  have m17 := hsets _ (List.mem_of_getElem? (i := 17) rfl)
  obtain ⟨u, ev⟩ := exa_v (Cond.before_iff.mp m14)
  obtain ⟨u2, ev2⟩ := exa_v (Cond.before_iff.mp m17)
  obtain rfl := own_eqR (Cond.before_iff.mp m13) ev ev2
  have S_u := Sta.start ev (Or.inl m10)
  have S_i := Sta.start ev2 (Or.inl m12)
  obtain ⟨m0, kk, i0, p0, fa, cK, q1, q2, q3, q4, q5⟩ := own_site (wd hw 42 rfl) rfl
  have hsite : Site s fa cK := ⟨m0, kk, i0, p0, q1, q2, q3, q4⟩
  have hheld : ∀ p ∈ EL, Jvm.Lit.constHeld s p.1 p.2 := fun p hp => hcalls.1 p (by simp only [EL, List.mem_singleton] at hp; subst hp; exact List.mem_of_getElem? (i := 3) rfl)
  have hEL : EW s _ EL := (EW.cons (wd hw 18 rfl) (by decide +kernel) EW.nil)
  have hCH : CHv s EL s.vm s.heap := CHv.start hEL hheld (hsets _ (List.mem_of_getElem? (i := 2) rfl)) (wd hw 19 rfl) (wd hw 5 rfl)
  obtain ⟨n, o, h1, h2, h3, _, L, rfl, ⟨rfl, N⟩, -, hq⟩ := rm0 l s _ hw hEL tables_1 x0 x1 x2 x3 x4 s.heap cs S_cs hcs u S_i S_u fa cK hsite q5 p e ha hc hk s m _ below hf ((Spec.applies_iff_loose hf).mp happ).1 ⟨rfl, State.Warmed39.refl s, rfl, hCH⟩ trivial
  refine ⟨n, _, h1, h2, h3, hpost _ _ _ _ _ _ ⟨Cond.after_iff.mpr rfl, Cond.after_iff.mpr (eq_i res_at (Term.int_eval (1)) rfl), trivial⟩ ⟨hq.1, hq.2.1, hq.2.2.1, (hq.2.2.2.sift fun y hy => Or.inr (N y hy)).mono (by decide) (by decide)⟩⟩
theorem main_1_1 : Claimed_1_1 := comes_1 fun _ _ _ _ _ _ h hF => ⟨h.1, hF⟩
theorem main_1_2 : Claimed_1_2 := comes_1 fun _ _ _ _ _ _ h hF => ⟨h.2.1, hF⟩
end Jvm.Pilot.@@N@@
namespace Jvm.Pilot.@@N@@
open Jvm Jvm.ClassFile Sem Op Lib Jvm.Free Jvm.Stand Jvm.Pilot.@@N@@.Jvm.D
/-! MADE BY PROGRAM (witnessworld.py) out of the Statement's table words and the real class files: 35 classes; the members and pool entries that the words name. The judged class is class 1, her method 1. -/
namespace start1
open Jvm.ClassFile
def u (s : String) : CpInfo := .utf8 (stringToUtf16 s)
/-- a pool by its gaps: so many unusable entries, then the entry; so many at the end -/
def gap : Nat → List CpInfo → List CpInfo
  | 0, r => r
  | n + 1, r => .unusable :: gap n r
def poolList (es : List (Nat × CpInfo)) (last : Nat) : List CpInfo := es.foldr (fun e r => gap e.1 (e.2 :: r)) (gap last [])
def pool (es : List (Nat × CpInfo)) (last : Nat) : Array CpInfo := ⟨poolList es last⟩
def fileOf (pool : Array CpInfo) (this : Nat) (attrs : Array Attribute := #[]) (ms : Array MethodInfo := #[]) (fl : Nat := 33) (sup : Nat := 0) (ifs : Array Nat := #[]) (fds : Array FieldInfo := #[]) : ClassFile where
  minorVersion := 0
  majorVersion := 65
  constantPool := pool
  accessFlags := fl
  thisClass := this
  superClass := sup
  interfaces := ifs
  fields := fds
  methods := ms
  attributes := attrs
def plain (name : String) (sup : Option ClassId) : Class where
  name := name
  kind := .ordinary
  loader := none
  accessFlags := 33
  super := sup
  interfaces := #[]
  cf := none
  fields := #[]
  methods := #[]
  instanceTypes := #[]
  staticTypes := #[]
  resolved := #[]
  callSites := []
  init := .initialized
  statics := none
  mirror := none

def pool0 : Array CpInfo := pool [(5, u "<init>"), (0, u "()V"), (1, .class_ 10), (1, u "java/lang/Object"), (85, u "clone"), (0, u "()Ljava/lang/Object;")] 26

def k0c0 : Code := { maxStack := 0, maxLocals := 1, code := object_method_1_code, exceptionTable := #[], attributes := #[] }
def k0m0 : Method := { name := "<init>", desc := "()V", sig := { parameters := [], returnType := none }, accessFlags := 1, code := some k0c0 }
def k0m1 : Method := { name := "clone", desc := "()Ljava/lang/Object;", sig := { parameters := [], returnType := some (.object "java/lang/Object") }, accessFlags := 260, code := none }
/-- java/lang/Object -/
def k0 : Class := { plain "java/lang/Object" none with
  accessFlags := 33
  interfaces := #[]
  cf := some (fileOf pool0 8 #[] #[{ accessFlags := 1, nameIndex := 5, descriptorIndex := 6, attributes := #[] }, { accessFlags := 260, nameIndex := 96, descriptorIndex := 97, attributes := #[] }] 33 0 #[] #[])
  fields := #[]
  methods := #[k0m0, k0m1]
  instanceTypes := #[]
  staticTypes := #[]
  resolved := Array.replicate 124 none
  statics := none }

def pool1 : Array CpInfo := pool [(2, .class_ 4), (1, u "java/lang/Object"), (0, u "<init>"), (0, u "()V"), (0, .methodref 8 9), (0, .class_ 10), (0, .nameAndType 11 12), (0, u "com/example/bindwick/bindwick/AttributeGetValueByteArraysPinLaw"), (0, u "str"), (0, u "(ICC)Ljava/lang/String;"), (0, .class_ 14), (0, u "java/lang/String"), (0, .class_ 16), (0, u "com/example/bindwick/bindwick/Attribute"), (0, .string 18), (0, u "cn"), (0, .methodref 15 20), (0, .nameAndType 5 21), (0, u "(Ljava/lang/String;[Ljava/lang/String;)V"), (0, .methodref 15 23), (0, .nameAndType 24 25), (0, u "getValueByteArrays"), (0, u "()[[B"), (0, .methodref 8 27), (0, .nameAndType 28 29), (0, u "all"), (0, u "([[BIICCICC)Z"), (0, .methodref 8 31), (0, .nameAndType 32 33), (0, u "spoil"), (0, u "([B)V"), (0, .methodref 13 35), (0, .nameAndType 5 36), (0, u "([C)V"), (0, .methodref 8 38), (0, .nameAndType 39 40), (0, u "same"), (0, u "([BICC)Z"), (0, .methodref 8 42), (0, .nameAndType 43 44), (0, u "put"), (0, u "([BIC)I"), (2, u "law"), (0, u "(IIIII)Z")] 12

def k1m0 : Method := { name := "<init>", desc := "()V", sig := { parameters := [], returnType := none }, accessFlags := 1, code := none }
def k1c1 : Code := { maxStack := 8, maxLocals := 18, code := code, exceptionTable := #[], attributes := #[] }
def k1m1 : Method := { name := "law", desc := "(IIIII)Z", sig := { parameters := [.int, .int, .int, .int, .int], returnType := some .boolean }, accessFlags := 9, code := some k1c1 }
def k1c2 : Code := { maxStack := 3, maxLocals := 4, code := method_3_code, exceptionTable := #[], attributes := #[] }
def k1m2 : Method := { name := "str", desc := "(ICC)Ljava/lang/String;", sig := { parameters := [.int, .char, .char], returnType := some (.object "java/lang/String") }, accessFlags := 10, code := some k1c2 }
def k1c3 : Code := { maxStack := 4, maxLocals := 1, code := method_4_code, exceptionTable := #[], attributes := #[] }
def k1m3 : Method := { name := "spoil", desc := "([B)V", sig := { parameters := [(.array .byte)], returnType := none }, accessFlags := 10, code := some k1c3 }
def k1c4 : Code := { maxStack := 4, maxLocals := 8, code := method_5_code, exceptionTable := #[], attributes := #[] }
def k1m4 : Method := { name := "all", desc := "([[BIICCICC)Z", sig := { parameters := [(.array (.array .byte)), .int, .int, .char, .char, .int, .char, .char], returnType := some .boolean }, accessFlags := 10, code := some k1c4 }
def k1c5 : Code := { maxStack := 5, maxLocals := 3, code := method_6_code, exceptionTable := #[], attributes := #[] }
def k1m5 : Method := { name := "put", desc := "([BIC)I", sig := { parameters := [(.array .byte), .int, .char], returnType := some .int }, accessFlags := 10, code := some k1c5 }
def k1c6 : Code := { maxStack := 3, maxLocals := 6, code := method_7_code, exceptionTable := #[], attributes := #[] }
def k1m6 : Method := { name := "same", desc := "([BICC)Z", sig := { parameters := [(.array .byte), .int, .char, .char], returnType := some .boolean }, accessFlags := 10, code := some k1c6 }
/-- com/example/bindwick/bindwick/AttributeGetValueByteArraysPinLaw -/
def k1 : Class := { plain "com/example/bindwick/bindwick/AttributeGetValueByteArraysPinLaw" (some 0) with
  accessFlags := 49
  interfaces := #[]
  cf := some (fileOf pool1 8 #[] #[{ accessFlags := 1, nameIndex := 5, descriptorIndex := 6, attributes := #[] }, { accessFlags := 9, nameIndex := 47, descriptorIndex := 48, attributes := #[] }, { accessFlags := 10, nameIndex := 11, descriptorIndex := 12, attributes := #[] }, { accessFlags := 10, nameIndex := 32, descriptorIndex := 33, attributes := #[] }, { accessFlags := 10, nameIndex := 28, descriptorIndex := 29, attributes := #[] }, { accessFlags := 10, nameIndex := 43, descriptorIndex := 44, attributes := #[] }, { accessFlags := 10, nameIndex := 39, descriptorIndex := 40, attributes := #[] }] 49 2 #[] #[])
  fields := #[]
  methods := #[k1m0, k1m1, k1m2, k1m3, k1m4, k1m5, k1m6]
  instanceTypes := #[]
  staticTypes := #[]
  resolved := Array.replicate 61 none
  statics := none }

def pool2 : Array CpInfo := pool [(1, .class_ 2), (0, u "java/io/Serializable"), (0, .class_ 4), (0, u "java/lang/Object")] 2

/-- java/io/Serializable -/
def k2 : Class := { plain "java/io/Serializable" (some 0) with
  accessFlags := 1537
  interfaces := #[]
  cf := some (fileOf pool2 1 #[] #[] 1537 3 #[] #[])
  fields := #[]
  methods := #[]
  instanceTypes := #[]
  staticTypes := #[]
  resolved := Array.replicate 7 none
  statics := none }

def pool3 : Array CpInfo := pool [(1, .class_ 2), (0, u "java/lang/Comparable"), (0, .class_ 4), (0, u "java/lang/Object")] 7

/-- java/lang/Comparable -/
def k3 : Class := { plain "java/lang/Comparable" (some 0) with
  accessFlags := 1537
  interfaces := #[]
  cf := some (fileOf pool3 1 #[] #[] 1537 3 #[] #[])
  fields := #[]
  methods := #[]
  instanceTypes := #[]
  staticTypes := #[]
  resolved := Array.replicate 12 none
  statics := none }

def pool4 : Array CpInfo := pool [(2, .class_ 4), (1, u "java/lang/CharSequence"), (42, .class_ 48), (0, u "java/lang/CharSequence$1CodePointIterator"), (10, .class_ 60), (0, u "java/lang/CharSequence$1CharIterator"), (5, .class_ 67), (0, u "java/lang/Object")] 63

/-- java/lang/CharSequence -/
def k4 : Class := { plain "java/lang/CharSequence" (some 0) with
  accessFlags := 1537
  interfaces := #[]
  cf := some (fileOf pool4 2 #[.nestMembers #[47, 59]] #[] 1537 66 #[] #[])
  fields := #[]
  methods := #[]
  instanceTypes := #[]
  staticTypes := #[]
  resolved := Array.replicate 131 none
  statics := none }

def pool5 : Array CpInfo := pool [(1, .class_ 2), (0, u "java/lang/constant/Constable"), (0, .class_ 4), (0, u "java/lang/Object")] 6

/-- java/lang/constant/Constable -/
def k5 : Class := { plain "java/lang/constant/Constable" (some 0) with
  accessFlags := 1537
  interfaces := #[]
  cf := some (fileOf pool5 1 #[] #[] 1537 3 #[] #[])
  fields := #[]
  methods := #[]
  instanceTypes := #[]
  staticTypes := #[]
  resolved := Array.replicate 11 none
  statics := none }

def pool6 : Array CpInfo := pool [(1, .class_ 2), (0, u "java/lang/constant/ConstantDesc"), (0, .class_ 4), (0, u "java/lang/Object")] 32

/-- java/lang/constant/ConstantDesc -/
def k6 : Class := { plain "java/lang/constant/ConstantDesc" (some 0) with
  accessFlags := 1537
  interfaces := #[]
  cf := some (fileOf pool6 1 #[] #[] 1537 3 #[] #[])
  fields := #[]
  methods := #[]
  instanceTypes := #[]
  staticTypes := #[]
  resolved := Array.replicate 37 none
  statics := none }

def pool7 : Array CpInfo := pool [(1, .methodref 2 3), (0, .class_ 4), (0, .nameAndType 5 6), (0, u "java/lang/Object"), (0, u "<init>"), (0, u "()V"), (0, .string 8), (0, u ""), (0, .fieldref 10 11), (0, .class_ 12), (0, .nameAndType 13 14), (0, u "java/lang/String"), (0, u "value"), (0, u "[B"), (0, .fieldref 10 16), (0, .nameAndType 17 18), (0, u "coder"), (0, u "B"), (2, u "hash"), (0, u "I"), (2, u "hashIsZero"), (0, u "Z"), (0, .methodref 10 28), (0, .nameAndType 5 29), (0, u "([CIILjava/lang/Void;)V"), (8, .fieldref 10 39), (0, .nameAndType 40 26), (0, u "COMPACT_STRINGS"), (1, .class_ 44), (1, u "java/lang/StringUTF16"), (0, u "compress"), (1, .methodref 42 48), (0, .nameAndType 49 50), (0, u "coderFromArrayLen"), (0, u "([BI)B"), (4, .class_ 57), (1, u "java/util/Arrays"), (2, .methodref 42 61), (0, .nameAndType 62 63), (0, u "newBytesFor"), (0, u "(I)[B"), (22, .fieldref 87 88), (0, .class_ 89), (0, .nameAndType 90 91), (0, u "sun/nio/cs/UTF_8"), (0, u "INSTANCE"), (0, u "Lsun/nio/cs/UTF_8;"), (1, .class_ 95), (1, u "java/lang/StringCoding"), (6, .methodref 55 103), (0, .nameAndType 104 105), (0, u "copyOf"), (0, u "([BI)[B"), (22, .methodref 93 129), (0, .nameAndType 130 131), (0, u "hasNegatives"), (0, u "([BII)Z"), (45, .methodref 42 178), (0, .nameAndType 45 179), (0, u "([CII)[B"), (72, .methodref 10 253), (0, .nameAndType 254 255), (0, u "encodeUTF8"), (0, u "(B[BZ)[B"), (23, .methodref 280 281), (0, .class_ 14), (0, .nameAndType 282 283), (0, u "clone"), (0, u "()Ljava/lang/Object;"), (33, u "encode"), (17, .methodref 10 336), (0, .nameAndType 17 337), (0, u "()B"), (194, u "getBytes"), (2, .methodref 10 536), (0, .nameAndType 317 537), (0, u "(Ljava/nio/charset/Charset;B[B)[B"), (37, .class_ 576), (0, u "java/lang/CharSequence"), (22, u "CASE_INSENSITIVE_ORDER"), (0, u "Ljava/util/Comparator;"), (409, u "([C)V"), (90, u "serialPersistentFields"), (0, u "[Ljava/io/ObjectStreamField;"), (0, .class_ 1104), (0, u "java/lang/String$CaseInsensitiveComparator"), (1, .class_ 1107), (0, u "java/io/Serializable"), (0, .class_ 1109), (0, u "java/lang/Comparable"), (0, .class_ 1111), (0, u "java/lang/constant/Constable"), (0, .class_ 1113), (0, u "java/lang/constant/ConstantDesc"), (2, u "serialVersionUID"), (0, u "J"), (3, u "REPL"), (0, u "C"), (2, u "LATIN1"), (1, u "UTF16"), (117, u "(Ljava/nio/charset/Charset;)[B")] 205

def k7m0 : Method := { name := "<init>", desc := "()V", sig := { parameters := [], returnType := none }, accessFlags := 1, code := none }
def k7c1 : Code := { maxStack := 5, maxLocals := 2, code := jdk_42_method_3_code, exceptionTable := #[], attributes := #[] }
def k7m1 : Method := { name := "<init>", desc := "([C)V", sig := { parameters := [(.array .char)], returnType := none }, accessFlags := 1, code := some k7c1 }
def k7c2 : Code := { maxStack := 4, maxLocals := 3, code := jdk_42_method_18_code, exceptionTable := #[], attributes := #[] }
def k7m2 : Method := { name := "encode", desc := "(Ljava/nio/charset/Charset;B[B)[B", sig := { parameters := [(.object "java/nio/charset/Charset"), .byte, (.array .byte)], returnType := some (.array .byte) }, accessFlags := 10, code := some k7c2 }
def k7c3 : Code := { maxStack := 5, maxLocals := 9, code := jdk_42_method_46_code, exceptionTable := #[], attributes := #[] }
def k7m3 : Method := { name := "encodeUTF8", desc := "(B[BZ)[B", sig := { parameters := [.byte, (.array .byte), .boolean], returnType := some (.array .byte) }, accessFlags := 10, code := some k7c3 }
def k7c4 : Code := { maxStack := 3, maxLocals := 2, code := jdk_42_method_64_code, exceptionTable := #[], attributes := #[] }
def k7m4 : Method := { name := "getBytes", desc := "(Ljava/nio/charset/Charset;)[B", sig := { parameters := [(.object "java/nio/charset/Charset")], returnType := some (.array .byte) }, accessFlags := 1, code := some k7c4 }
def k7c5 : Code := { maxStack := 4, maxLocals := 6, code := jdk_42_method_149_code, exceptionTable := #[], attributes := #[] }
def k7m5 : Method := { name := "<init>", desc := "([CIILjava/lang/Void;)V", sig := { parameters := [(.array .char), .int, .int, (.object "java/lang/Void")], returnType := none }, accessFlags := 2, code := some k7c5 }
def k7c6 : Code := { maxStack := 1, maxLocals := 1, code := jdk_42_method_152_code, exceptionTable := #[], attributes := #[] }
def k7m6 : Method := { name := "coder", desc := "()B", sig := { parameters := [], returnType := some .byte }, accessFlags := 0, code := some k7c6 }
/-- java/lang/String -/
def k7 : Class := { plain "java/lang/String" (some 0) with
  accessFlags := 49
  interfaces := #[2, 3, 4, 5, 6]
  cf := some (fileOf pool7 10 #[.nestMembers #[1103]] #[{ accessFlags := 1, nameIndex := 5, descriptorIndex := 6, attributes := #[] }, { accessFlags := 1, nameIndex := 5, descriptorIndex := 1010, attributes := #[] }, { accessFlags := 10, nameIndex := 317, descriptorIndex := 537, attributes := #[] }, { accessFlags := 10, nameIndex := 254, descriptorIndex := 255, attributes := #[] }, { accessFlags := 1, nameIndex := 532, descriptorIndex := 1245, attributes := #[] }, { accessFlags := 2, nameIndex := 5, descriptorIndex := 29, attributes := #[] }, { accessFlags := 0, nameIndex := 17, descriptorIndex := 337, attributes := #[] }] 49 2 #[1106, 1108, 575, 1110, 1112] #[{ accessFlags := 18, nameIndex := 13, descriptorIndex := 14, attributes := #[] }, { accessFlags := 18, nameIndex := 17, descriptorIndex := 18, attributes := #[] }, { accessFlags := 2, nameIndex := 21, descriptorIndex := 22, attributes := #[] }, { accessFlags := 2, nameIndex := 25, descriptorIndex := 26, attributes := #[] }, { accessFlags := 26, nameIndex := 1116, descriptorIndex := 1117, attributes := #[] }, { accessFlags := 24, nameIndex := 40, descriptorIndex := 26, attributes := #[] }, { accessFlags := 26, nameIndex := 1101, descriptorIndex := 1102, attributes := #[] }, { accessFlags := 26, nameIndex := 1121, descriptorIndex := 1122, attributes := #[] }, { accessFlags := 25, nameIndex := 599, descriptorIndex := 600, attributes := #[] }, { accessFlags := 24, nameIndex := 1125, descriptorIndex := 18, attributes := #[] }, { accessFlags := 24, nameIndex := 1127, descriptorIndex := 18, attributes := #[] }])
  fields := #[{ name := "value", type := (.array .byte), accessFlags := 18, slot := 0, constantValue := 0 }, { name := "coder", type := .byte, accessFlags := 18, slot := 1, constantValue := 0 }, { name := "hash", type := .int, accessFlags := 2, slot := 2, constantValue := 0 }, { name := "hashIsZero", type := .boolean, accessFlags := 2, slot := 3, constantValue := 0 }, { name := "serialVersionUID", type := .long, accessFlags := 26, slot := 0, constantValue := 0 }, { name := "COMPACT_STRINGS", type := .boolean, accessFlags := 24, slot := 1, constantValue := 0 }, { name := "serialPersistentFields", type := (.array (.object "java/io/ObjectStreamField")), accessFlags := 26, slot := 2, constantValue := 0 }, { name := "REPL", type := .char, accessFlags := 26, slot := 3, constantValue := 0 }, { name := "CASE_INSENSITIVE_ORDER", type := (.object "java/util/Comparator"), accessFlags := 25, slot := 4, constantValue := 0 }, { name := "LATIN1", type := .byte, accessFlags := 24, slot := 5, constantValue := 0 }, { name := "UTF16", type := .byte, accessFlags := 24, slot := 6, constantValue := 0 }]
  methods := #[k7m0, k7m1, k7m2, k7m3, k7m4, k7m5, k7m6]
  instanceTypes := #[(.array .byte), .byte, .int, .boolean]
  staticTypes := #[.long, .boolean, (.array (.object "java/io/ObjectStreamField")), .char, (.object "java/util/Comparator"), .byte, .byte]
  resolved := Array.replicate 1451 none
  statics := some 0 }

def pool8 : Array CpInfo := pool [(1, .methodref 2 3), (0, .class_ 4), (0, .nameAndType 5 6), (0, u "java/lang/Object"), (0, u "<init>"), (0, u "()V"), (0, .string 8), (0, u "name"), (0, .methodref 10 11), (0, .class_ 12), (0, .nameAndType 13 14), (0, u "com/example/bindwick/bindwick/LDAPException"), (0, u "requireArgument"), (0, u "(Ljava/lang/Object;Ljava/lang/String;)Ljava/lang/Object;"), (0, .fieldref 16 17), (0, .class_ 18), (0, .nameAndType 8 19), (0, u "com/example/bindwick/bindwick/Attribute"), (0, u "Ljava/lang/String;"), (0, .invokeDynamic 0 21), (0, .nameAndType 22 23), (0, u "apply"), (0, u "()Ljava/util/function/Function;"), (0, .methodref 16 25), (0, .nameAndType 26 27), (0, u "toOctets"), (0, u "([Ljava/lang/Object;Ljava/util/function/Function;)[[B"), (0, .fieldref 16 29), (0, .nameAndType 30 31), (0, u "values"), (0, u "[[B"), (1, .class_ 34), (0, u "[B"), (7, .string 30), (0, .interfaceMethodref 44 45), (0, .class_ 46), (0, .nameAndType 22 47), (0, u "java/util/function/Function"), (0, u "(Ljava/lang/Object;)Ljava/lang/Object;"), (2, u "DESCRIPTION"), (0, u "Ljava/util/regex/Pattern;"), (12, .class_ 65), (0, u "java/lang/String"), (0, .fieldref 67 68), (0, .class_ 69), (0, .nameAndType 70 71), (0, u "java/nio/charset/StandardCharsets"), (0, u "UTF_8"), (0, u "Ljava/nio/charset/Charset;"), (3, .methodref 33 76), (0, .nameAndType 77 78), (0, u "clone"), (0, u "()Ljava/lang/Object;"), (19, .methodref 64 99), (0, .nameAndType 100 101), (0, u "getBytes"), (0, u "(Ljava/nio/charset/Charset;)[B"), (6, u "(Ljava/lang/String;[Ljava/lang/String;)V"), (20, u "getValueByteArrays"), (0, u "()[[B"), (4, u "lambda$new$0"), (0, u "(Ljava/lang/String;)[B"), (4, .methodType 47), (0, .methodHandle 6 143), (0, .methodref 16 144), (0, .nameAndType 135 136), (0, .methodType 136), (5, .methodHandle 6 152), (0, .methodref 153 154), (0, .class_ 155), (0, .nameAndType 156 157), (0, u "java/lang/invoke/LambdaMetafactory"), (0, u "metafactory"), (0, u "(Ljava/lang/invoke/MethodHandles$Lookup;Ljava/lang/String;Ljava/lang/invoke/MethodType;Ljava/lang/invoke/MethodType;Ljava/lang/invoke/MethodHandle;Ljava/lang/invoke/MethodType;)Ljava/lang/invoke/CallSite;")] 6

def k8c0 : Code := { maxStack := 3, maxLocals := 3, code := prog_25_method_1_code, exceptionTable := #[], attributes := #[] }
def k8m0 : Method := { name := "<init>", desc := "(Ljava/lang/String;[Ljava/lang/String;)V", sig := { parameters := [(.object "java/lang/String"), (.array (.object "java/lang/String"))], returnType := none }, accessFlags := 129, code := some k8c0 }
def k8c1 : Code := { maxStack := 5, maxLocals := 4, code := prog_25_method_4_code, exceptionTable := #[], attributes := #[] }
def k8m1 : Method := { name := "toOctets", desc := "([Ljava/lang/Object;Ljava/util/function/Function;)[[B", sig := { parameters := [(.array (.object "java/lang/Object")), (.object "java/util/function/Function")], returnType := some (.array (.array .byte)) }, accessFlags := 10, code := some k8c1 }
def k8c2 : Code := { maxStack := 4, maxLocals := 3, code := prog_25_method_10_code, exceptionTable := #[], attributes := #[] }
def k8m2 : Method := { name := "getValueByteArrays", desc := "()[[B", sig := { parameters := [], returnType := some (.array (.array .byte)) }, accessFlags := 1, code := some k8c2 }
def k8c3 : Code := { maxStack := 2, maxLocals := 1, code := prog_25_method_13_code, exceptionTable := #[], attributes := #[] }
def k8m3 : Method := { name := "lambda$new$0", desc := "(Ljava/lang/String;)[B", sig := { parameters := [(.object "java/lang/String")], returnType := some (.array .byte) }, accessFlags := 4106, code := some k8c3 }
/-- com/example/bindwick/bindwick/Attribute -/
def k8 : Class := { plain "com/example/bindwick/bindwick/Attribute" (some 0) with
  accessFlags := 49
  interfaces := #[]
  cf := some (fileOf pool8 16 #[.bootstrapMethods #[⟨151, #[141, 142, 145]⟩, ⟨0, #[]⟩]] #[{ accessFlags := 129, nameIndex := 5, descriptorIndex := 108, attributes := #[] }, { accessFlags := 10, nameIndex := 26, descriptorIndex := 27, attributes := #[] }, { accessFlags := 1, nameIndex := 129, descriptorIndex := 130, attributes := #[] }, { accessFlags := 4106, nameIndex := 135, descriptorIndex := 136, attributes := #[] }] 49 2 #[] #[{ accessFlags := 26, nameIndex := 50, descriptorIndex := 51, attributes := #[] }, { accessFlags := 18, nameIndex := 8, descriptorIndex := 19, attributes := #[] }, { accessFlags := 18, nameIndex := 30, descriptorIndex := 31, attributes := #[] }])
  fields := #[{ name := "DESCRIPTION", type := (.object "java/util/regex/Pattern"), accessFlags := 26, slot := 0, constantValue := 0 }, { name := "name", type := (.object "java/lang/String"), accessFlags := 18, slot := 0, constantValue := 0 }, { name := "values", type := (.array (.array .byte)), accessFlags := 18, slot := 1, constantValue := 0 }]
  methods := #[k8m0, k8m1, k8m2, k8m3]
  instanceTypes := #[(.object "java/lang/String"), (.array (.array .byte))]
  staticTypes := #[(.object "java/util/regex/Pattern")]
  resolved := Array.replicate 164 none
  callSites := [(0, 18, .constant 4)]
  statics := none }

def pool9 : Array CpInfo := pool [(2, .class_ 4), (1, u "java/lang/Object"), (0, u "<init>"), (0, u "()V"), (1, .class_ 10), (1, u "java/lang/Throwable"), (0, u "cause"), (0, u "Ljava/lang/Throwable;"), (2, u "UNASSIGNED_STACK"), (0, u "[Ljava/lang/StackTraceElement;"), (2, u "stackTrace"), (2, u "SUPPRESSED_SENTINEL"), (0, u "Ljava/util/List;"), (2, u "suppressedExceptions"), (6, u "detailMessage"), (0, u "Ljava/lang/String;"), (58, .class_ 94), (0, u "java/lang/Throwable$WrappedPrintStream"), (6, .class_ 103), (1, u "java/lang/Throwable$PrintStreamOrWriter"), (61, u "$assertionsDisabled"), (0, u "Z"), (26, .class_ 194), (0, u "java/lang/Throwable$WrappedPrintWriter"), (5, u "backtrace"), (0, u "Ljava/lang/Object;"), (9, u "depth"), (0, u "I"), (56, .class_ 271), (1, u "java/lang/Throwable$SentinelHolder"), (32, u "EMPTY_THROWABLE_ARRAY"), (0, u "[Ljava/lang/Throwable;"), (12, .class_ 319), (0, u "java/io/Serializable"), (0, u "serialVersionUID"), (0, u "J"), (5, u "NULL_CAUSE_MESSAGE"), (0, u "SELF_SUPPRESSION_MESSAGE"), (0, u "CAUSE_CAPTION"), (0, u "SUPPRESSED_CAPTION")] 73

def k9m0 : Method := { name := "<init>", desc := "()V", sig := { parameters := [], returnType := none }, accessFlags := 1, code := none }
/-- java/lang/Throwable -/
def k9 : Class := { plain "java/lang/Throwable" (some 0) with
  accessFlags := 33
  interfaces := #[2]
  cf := some (fileOf pool9 8 #[.nestMembers #[193, 93, 101, 269]] #[{ accessFlags := 1, nameIndex := 5, descriptorIndex := 6, attributes := #[] }] 33 2 #[318] #[{ accessFlags := 26, nameIndex := 320, descriptorIndex := 321, attributes := #[] }, { accessFlags := 130, nameIndex := 200, descriptorIndex := 201, attributes := #[] }, { accessFlags := 2, nameIndex := 33, descriptorIndex := 34, attributes := #[] }, { accessFlags := 26, nameIndex := 15, descriptorIndex := 16, attributes := #[] }, { accessFlags := 2, nameIndex := 11, descriptorIndex := 12, attributes := #[] }, { accessFlags := 2, nameIndex := 19, descriptorIndex := 16, attributes := #[] }, { accessFlags := 130, nameIndex := 211, descriptorIndex := 212, attributes := #[] }, { accessFlags := 26, nameIndex := 22, descriptorIndex := 23, attributes := #[] }, { accessFlags := 2, nameIndex := 26, descriptorIndex := 23, attributes := #[] }, { accessFlags := 26, nameIndex := 327, descriptorIndex := 34, attributes := #[] }, { accessFlags := 26, nameIndex := 328, descriptorIndex := 34, attributes := #[] }, { accessFlags := 26, nameIndex := 329, descriptorIndex := 34, attributes := #[] }, { accessFlags := 26, nameIndex := 330, descriptorIndex := 34, attributes := #[] }, { accessFlags := 26, nameIndex := 304, descriptorIndex := 305, attributes := #[] }, { accessFlags := 4120, nameIndex := 165, descriptorIndex := 166, attributes := #[] }])
  fields := #[{ name := "serialVersionUID", type := .long, accessFlags := 26, slot := 0, constantValue := 0 }, { name := "backtrace", type := (.object "java/lang/Object"), accessFlags := 130, slot := 0, constantValue := 0 }, { name := "detailMessage", type := (.object "java/lang/String"), accessFlags := 2, slot := 1, constantValue := 0 }, { name := "UNASSIGNED_STACK", type := (.array (.object "java/lang/StackTraceElement")), accessFlags := 26, slot := 1, constantValue := 0 }, { name := "cause", type := (.object "java/lang/Throwable"), accessFlags := 2, slot := 2, constantValue := 0 }, { name := "stackTrace", type := (.array (.object "java/lang/StackTraceElement")), accessFlags := 2, slot := 3, constantValue := 0 }, { name := "depth", type := .int, accessFlags := 130, slot := 4, constantValue := 0 }, { name := "SUPPRESSED_SENTINEL", type := (.object "java/util/List"), accessFlags := 26, slot := 2, constantValue := 0 }, { name := "suppressedExceptions", type := (.object "java/util/List"), accessFlags := 2, slot := 5, constantValue := 0 }, { name := "NULL_CAUSE_MESSAGE", type := (.object "java/lang/String"), accessFlags := 26, slot := 3, constantValue := 0 }, { name := "SELF_SUPPRESSION_MESSAGE", type := (.object "java/lang/String"), accessFlags := 26, slot := 4, constantValue := 0 }, { name := "CAUSE_CAPTION", type := (.object "java/lang/String"), accessFlags := 26, slot := 5, constantValue := 0 }, { name := "SUPPRESSED_CAPTION", type := (.object "java/lang/String"), accessFlags := 26, slot := 6, constantValue := 0 }, { name := "EMPTY_THROWABLE_ARRAY", type := (.array (.object "java/lang/Throwable")), accessFlags := 26, slot := 7, constantValue := 0 }, { name := "$assertionsDisabled", type := .boolean, accessFlags := 4120, slot := 8, constantValue := 0 }]
  methods := #[k9m0]
  instanceTypes := #[(.object "java/lang/Object"), (.object "java/lang/String"), (.object "java/lang/Throwable"), (.array (.object "java/lang/StackTraceElement")), .int, (.object "java/util/List")]
  staticTypes := #[.long, (.array (.object "java/lang/StackTraceElement")), (.object "java/util/List"), (.object "java/lang/String"), (.object "java/lang/String"), (.object "java/lang/String"), (.object "java/lang/String"), (.array (.object "java/lang/Throwable")), .boolean]
  resolved := Array.replicate 404 none
  statics := none }

def pool10 : Array CpInfo := pool [(2, .class_ 4), (1, u "java/lang/Throwable"), (0, u "<init>"), (0, u "()V"), (12, .class_ 20), (0, u "java/lang/Exception"), (0, u "serialVersionUID"), (0, u "J")] 17

def k10m0 : Method := { name := "<init>", desc := "()V", sig := { parameters := [], returnType := none }, accessFlags := 1, code := none }
/-- java/lang/Exception -/
def k10 : Class := { plain "java/lang/Exception" (some 9) with
  accessFlags := 33
  interfaces := #[]
  cf := some (fileOf pool10 19 #[] #[{ accessFlags := 1, nameIndex := 5, descriptorIndex := 6, attributes := #[] }] 33 2 #[] #[{ accessFlags := 24, nameIndex := 21, descriptorIndex := 22, attributes := #[] }])
  fields := #[{ name := "serialVersionUID", type := .long, accessFlags := 24, slot := 0, constantValue := 0 }]
  methods := #[k10m0]
  instanceTypes := #[(.object "java/lang/Object"), (.object "java/lang/String"), (.object "java/lang/Throwable"), (.array (.object "java/lang/StackTraceElement")), .int, (.object "java/util/List")]
  staticTypes := #[.long]
  resolved := Array.replicate 40 none
  statics := none }

def pool11 : Array CpInfo := pool [(4, .class_ 6), (1, u "com/example/bindwick/bindwick/LDAPException"), (12, .class_ 21), (1, u "java/lang/Exception"), (3, u "resultCode"), (0, u "Lcom/example/bindwick/bindwick/ResultCode;"), (2, u "diagnosticMessage"), (0, u "Ljava/lang/String;"), (6, u "matchedDN"), (30, u "requireArgument"), (0, u "(Ljava/lang/Object;Ljava/lang/String;)Ljava/lang/Object;"), (46, u "serialVersionUID"), (0, u "J")] 32

def k11c0 : Code := { maxStack := 4, maxLocals := 2, code := prog_72_method_7_code, exceptionTable := #[], attributes := #[] }
def k11m0 : Method := { name := "requireArgument", desc := "(Ljava/lang/Object;Ljava/lang/String;)Ljava/lang/Object;", sig := { parameters := [(.object "java/lang/Object"), (.object "java/lang/String")], returnType := some (.object "java/lang/Object") }, accessFlags := 8, code := some k11c0 }
/-- com/example/bindwick/bindwick/LDAPException -/
def k11 : Class := { plain "com/example/bindwick/bindwick/LDAPException" (some 10) with
  accessFlags := 33
  interfaces := #[]
  cf := some (fileOf pool11 4 #[] #[{ accessFlags := 8, nameIndex := 68, descriptorIndex := 69, attributes := #[] }] 33 19 #[] #[{ accessFlags := 26, nameIndex := 116, descriptorIndex := 117, attributes := #[] }, { accessFlags := 18, nameIndex := 25, descriptorIndex := 26, attributes := #[] }, { accessFlags := 18, nameIndex := 29, descriptorIndex := 30, attributes := #[] }, { accessFlags := 18, nameIndex := 37, descriptorIndex := 30, attributes := #[] }])
  fields := #[{ name := "serialVersionUID", type := .long, accessFlags := 26, slot := 0, constantValue := 0 }, { name := "resultCode", type := (.object "com/example/bindwick/bindwick/ResultCode"), accessFlags := 18, slot := 6, constantValue := 0 }, { name := "diagnosticMessage", type := (.object "java/lang/String"), accessFlags := 18, slot := 7, constantValue := 0 }, { name := "matchedDN", type := (.object "java/lang/String"), accessFlags := 18, slot := 8, constantValue := 0 }]
  methods := #[k11m0]
  instanceTypes := #[(.object "java/lang/Object"), (.object "java/lang/String"), (.object "java/lang/Throwable"), (.array (.object "java/lang/StackTraceElement")), .int, (.object "java/util/List"), (.object "com/example/bindwick/bindwick/ResultCode"), (.object "java/lang/String"), (.object "java/lang/String")]
  staticTypes := #[.long]
  resolved := Array.replicate 150 none
  statics := none }

def pool12 : Array CpInfo := pool [(6, u "(Ljava/lang/Object;)Ljava/lang/Object;"), (2, u "apply"), (6, .class_ 18), (1, u "java/util/function/Function"), (0, .class_ 20), (0, u "java/lang/Object")] 56

def k12m0 : Method := { name := "apply", desc := "(Ljava/lang/Object;)Ljava/lang/Object;", sig := { parameters := [(.object "java/lang/Object")], returnType := some (.object "java/lang/Object") }, accessFlags := 1025, code := none }
/-- java/util/function/Function -/
def k12 : Class := { plain "java/util/function/Function" (some 0) with
  accessFlags := 1537
  interfaces := #[]
  cf := some (fileOf pool12 16 #[] #[{ accessFlags := 1025, nameIndex := 9, descriptorIndex := 6, attributes := #[] }] 1537 19 #[] #[])
  fields := #[]
  methods := #[k12m0]
  instanceTypes := #[]
  staticTypes := #[]
  resolved := Array.replicate 77 none
  statics := none }

def pool13 : Array CpInfo := pool [(6, .class_ 8), (1, u "java/lang/Object"), (0, u "<init>"), (0, u "()V"), (0, .methodref 12 13), (0, .class_ 14), (0, .nameAndType 15 16), (0, u "java/lang/StringUTF16"), (0, u "newBytesLength"), (0, u "(I)I"), (3, .integer 1073741823), (25, u "$assertionsDisabled"), (0, u "Z"), (13, u "HI_BYTE_SHIFT"), (0, u "I"), (2, u "LO_BYTE_SHIFT"), (43, u "newBytesFor"), (0, u "(I)[B"), (4, .methodref 12 116), (0, .nameAndType 117 118), (0, u "compress"), (0, u "([CI[BII)I"), (3, u "([CII)[B"), (138, u "coderFromArrayLen"), (0, u "([BI)B"), (106, .class_ 371), (1, u "java/lang/StringUTF16$LinesSpliterator"), (58, u "MAX_LENGTH"), (196, .class_ 628), (0, u "java/lang/StringUTF16$CodePointsSpliterator"), (0, .class_ 630), (0, u "java/lang/StringUTF16$CharsSpliterator")] 4

def k13m0 : Method := { name := "<init>", desc := "()V", sig := { parameters := [], returnType := none }, accessFlags := 0, code := none }
def k13c1 : Code := { maxStack := 1, maxLocals := 1, code := jdk_52_method_2_code, exceptionTable := #[], attributes := #[] }
def k13m1 : Method := { name := "newBytesFor", desc := "(I)[B", sig := { parameters := [.int], returnType := some (.array .byte) }, accessFlags := 9, code := some k13c1 }
def k13c2 : Code := { maxStack := 4, maxLocals := 1, code := jdk_52_method_3_code, exceptionTable := #[], attributes := #[] }
def k13m2 : Method := { name := "newBytesLength", desc := "(I)I", sig := { parameters := [.int], returnType := some .int }, accessFlags := 9, code := some k13c2 }
def k13c3 : Code := { maxStack := 2, maxLocals := 2, code := jdk_52_method_15_code, exceptionTable := #[], attributes := #[] }
def k13m3 : Method := { name := "coderFromArrayLen", desc := "([BI)B", sig := { parameters := [(.array .byte), .int], returnType := some .byte }, accessFlags := 8, code := some k13c3 }
def k13c4 : Code := { maxStack := 5, maxLocals := 6, code := jdk_52_method_16_code, exceptionTable := #[], attributes := #[] }
def k13m4 : Method := { name := "compress", desc := "([CII)[B", sig := { parameters := [(.array .char), .int, .int], returnType := some (.array .byte) }, accessFlags := 9, code := some k13c4 }
def k13c5 : Code := { maxStack := 3, maxLocals := 7, code := jdk_52_method_21_code, exceptionTable := #[], attributes := #[] }
def k13m5 : Method := { name := "compress", desc := "([CI[BII)I", sig := { parameters := [(.array .char), .int, (.array .byte), .int, .int], returnType := some .int }, accessFlags := 9, code := some k13c5 }
/-- java/lang/StringUTF16 -/
def k13 : Class := { plain "java/lang/StringUTF16" (some 0) with
  accessFlags := 48
  interfaces := #[]
  cf := some (fileOf pool13 12 #[.nestMembers #[627, 629, 369]] #[{ accessFlags := 0, nameIndex := 9, descriptorIndex := 10, attributes := #[] }, { accessFlags := 9, nameIndex := 109, descriptorIndex := 110, attributes := #[] }, { accessFlags := 9, nameIndex := 15, descriptorIndex := 16, attributes := #[] }, { accessFlags := 8, nameIndex := 261, descriptorIndex := 262, attributes := #[] }, { accessFlags := 9, nameIndex := 117, descriptorIndex := 122, attributes := #[] }, { accessFlags := 9, nameIndex := 117, descriptorIndex := 118, attributes := #[] }] 48 6 #[] #[{ accessFlags := 26, nameIndex := 61, descriptorIndex := 62, attributes := #[] }, { accessFlags := 26, nameIndex := 65, descriptorIndex := 62, attributes := #[] }, { accessFlags := 24, nameIndex := 430, descriptorIndex := 62, attributes := #[] }, { accessFlags := 4120, nameIndex := 46, descriptorIndex := 47, attributes := #[] }])
  fields := #[{ name := "HI_BYTE_SHIFT", type := .int, accessFlags := 26, slot := 0, constantValue := 0 }, { name := "LO_BYTE_SHIFT", type := .int, accessFlags := 26, slot := 1, constantValue := 0 }, { name := "MAX_LENGTH", type := .int, accessFlags := 24, slot := 2, constantValue := 0 }, { name := "$assertionsDisabled", type := .boolean, accessFlags := 4120, slot := 3, constantValue := 0 }]
  methods := #[k13m0, k13m1, k13m2, k13m3, k13m4, k13m5]
  instanceTypes := #[]
  staticTypes := #[.int, .int, .int, .boolean]
  resolved := Array.replicate 635 none
  statics := none }

def pool14 : Array CpInfo := pool [(2, .class_ 4), (1, u "java/lang/Object"), (0, u "<init>"), (0, u "()V"), (14, .class_ 23), (1, u "java/nio/charset/StandardCharsets"), (0, u "US_ASCII"), (0, u "Ljava/nio/charset/Charset;"), (7, u "ISO_8859_1"), (7, u "UTF_8"), (5, u "UTF_16BE"), (5, u "UTF_16LE"), (5, u "UTF_16")] 8

def k14m0 : Method := { name := "<init>", desc := "()V", sig := { parameters := [], returnType := none }, accessFlags := 2, code := none }
/-- java/nio/charset/StandardCharsets -/
def k14 : Class := { plain "java/nio/charset/StandardCharsets" (some 0) with
  accessFlags := 49
  interfaces := #[]
  cf := some (fileOf pool14 21 #[] #[{ accessFlags := 2, nameIndex := 5, descriptorIndex := 6, attributes := #[] }] 49 2 #[] #[{ accessFlags := 25, nameIndex := 24, descriptorIndex := 25, attributes := #[] }, { accessFlags := 25, nameIndex := 33, descriptorIndex := 25, attributes := #[] }, { accessFlags := 25, nameIndex := 41, descriptorIndex := 25, attributes := #[] }, { accessFlags := 25, nameIndex := 47, descriptorIndex := 25, attributes := #[] }, { accessFlags := 25, nameIndex := 53, descriptorIndex := 25, attributes := #[] }, { accessFlags := 25, nameIndex := 59, descriptorIndex := 25, attributes := #[] }])
  fields := #[{ name := "US_ASCII", type := (.object "java/nio/charset/Charset"), accessFlags := 25, slot := 0, constantValue := 0 }, { name := "ISO_8859_1", type := (.object "java/nio/charset/Charset"), accessFlags := 25, slot := 1, constantValue := 0 }, { name := "UTF_8", type := (.object "java/nio/charset/Charset"), accessFlags := 25, slot := 2, constantValue := 0 }, { name := "UTF_16BE", type := (.object "java/nio/charset/Charset"), accessFlags := 25, slot := 3, constantValue := 0 }, { name := "UTF_16LE", type := (.object "java/nio/charset/Charset"), accessFlags := 25, slot := 4, constantValue := 0 }, { name := "UTF_16", type := (.object "java/nio/charset/Charset"), accessFlags := 25, slot := 5, constantValue := 0 }]
  methods := #[k14m0]
  instanceTypes := #[]
  staticTypes := #[(.object "java/nio/charset/Charset"), (.object "java/nio/charset/Charset"), (.object "java/nio/charset/Charset"), (.object "java/nio/charset/Charset"), (.object "java/nio/charset/Charset"), (.object "java/nio/charset/Charset")]
  resolved := Array.replicate 68 none
  statics := some 1 }

def pool15 : Array CpInfo := pool [(18, .class_ 20), (1, u "java/nio/charset/Charset"), (0, u "cache1"), (0, u "[Ljava/lang/Object;"), (2, u "cache2"), (0, .class_ 27), (0, u "java/lang/Object"), (0, .class_ 29), (0, u "java/nio/charset/Charset$1"), (4, .class_ 36), (1, u "java/nio/charset/Charset$ThreadTrackHolder"), (21, .class_ 59), (0, u "java/nio/charset/Charset$2"), (11, .class_ 73), (1, u "java/nio/charset/Charset$ExtendedProviderHolder"), (22, u "standardProvider"), (0, u "Ljava/nio/charset/spi/CharsetProvider;"), (29, u "name"), (7, .class_ 136), (0, u "java/nio/charset/Charset$3"), (5, u "defaultCharset"), (0, u "Ljava/nio/charset/Charset;"), (14, u "zeroAliases"), (0, u "[Ljava/lang/String;"), (29, u "Ljava/lang/String;"), (2, u "aliases"), (2, u "aliasSet"), (0, u "Ljava/util/Set;"), (82, .class_ 280), (0, u "java/lang/Comparable"), (84, .class_ 366), (0, u "java/nio/charset/Charset$ExtendedProviderHolder$1")] 3

/-- java/nio/charset/Charset -/
def k15 : Class := { plain "java/nio/charset/Charset" (some 0) with
  accessFlags := 1057
  interfaces := #[3]
  cf := some (fileOf pool15 18 #[.nestMembers #[71, 365, 34, 135, 58, 28]] #[] 1057 26 #[279] #[{ accessFlags := 26, nameIndex := 96, descriptorIndex := 97, attributes := #[] }, { accessFlags := 26, nameIndex := 158, descriptorIndex := 159, attributes := #[] }, { accessFlags := 74, nameIndex := 21, descriptorIndex := 22, attributes := #[] }, { accessFlags := 74, nameIndex := 25, descriptorIndex := 22, attributes := #[] }, { accessFlags := 10, nameIndex := 142, descriptorIndex := 143, attributes := #[] }, { accessFlags := 18, nameIndex := 127, descriptorIndex := 189, attributes := #[] }, { accessFlags := 18, nameIndex := 192, descriptorIndex := 159, attributes := #[] }, { accessFlags := 2, nameIndex := 195, descriptorIndex := 196, attributes := #[] }])
  fields := #[{ name := "standardProvider", type := (.object "java/nio/charset/spi/CharsetProvider"), accessFlags := 26, slot := 0, constantValue := 0 }, { name := "zeroAliases", type := (.array (.object "java/lang/String")), accessFlags := 26, slot := 1, constantValue := 0 }, { name := "cache1", type := (.array (.object "java/lang/Object")), accessFlags := 74, slot := 2, constantValue := 0 }, { name := "cache2", type := (.array (.object "java/lang/Object")), accessFlags := 74, slot := 3, constantValue := 0 }, { name := "defaultCharset", type := (.object "java/nio/charset/Charset"), accessFlags := 10, slot := 4, constantValue := 0 }, { name := "name", type := (.object "java/lang/String"), accessFlags := 18, slot := 0, constantValue := 0 }, { name := "aliases", type := (.array (.object "java/lang/String")), accessFlags := 18, slot := 1, constantValue := 0 }, { name := "aliasSet", type := (.object "java/util/Set"), accessFlags := 2, slot := 2, constantValue := 0 }]
  methods := #[]
  instanceTypes := #[(.object "java/lang/String"), (.array (.object "java/lang/String")), (.object "java/util/Set")]
  staticTypes := #[(.object "java/nio/charset/spi/CharsetProvider"), (.array (.object "java/lang/String")), (.array (.object "java/lang/Object")), (.array (.object "java/lang/Object")), (.object "java/nio/charset/Charset")]
  resolved := Array.replicate 370 none
  statics := none }

def pool16 : Array CpInfo := pool [(1, .class_ 2), (0, u "sun/nio/cs/HistoricallyNamedCharset"), (0, .class_ 4), (0, u "java/lang/Object")] 4

/-- sun/nio/cs/HistoricallyNamedCharset -/
def k16 : Class := { plain "sun/nio/cs/HistoricallyNamedCharset" (some 0) with
  accessFlags := 1537
  interfaces := #[]
  cf := some (fileOf pool16 1 #[] #[] 1537 3 #[] #[])
  fields := #[]
  methods := #[]
  instanceTypes := #[]
  staticTypes := #[]
  resolved := Array.replicate 9 none
  statics := none }

def pool17 : Array CpInfo := pool [(2, .class_ 4), (1, u "java/nio/charset/Charset"), (130, .class_ 136), (0, u "sun/nio/cs/Unicode"), (0, .class_ 138), (0, u "sun/nio/cs/HistoricallyNamedCharset")] 15

/-- sun/nio/cs/Unicode -/
def k17 : Class := { plain "sun/nio/cs/Unicode" (some 15) with
  accessFlags := 1056
  interfaces := #[16]
  cf := some (fileOf pool17 135 #[] #[] 1056 2 #[137] #[])
  fields := #[]
  methods := #[]
  instanceTypes := #[(.object "java/lang/String"), (.array (.object "java/lang/String")), (.object "java/util/Set")]
  staticTypes := #[]
  resolved := Array.replicate 154 none
  statics := none }

def pool18 : Array CpInfo := pool [(10, .class_ 12), (1, u "sun/nio/cs/Unicode"), (0, u "<init>"), (3, .class_ 18), (0, u "sun/nio/cs/UTF_8$Decoder"), (3, .class_ 23), (0, u "sun/nio/cs/UTF_8$Encoder"), (15, .class_ 40), (0, u "sun/nio/cs/UTF_8"), (2, u "()V"), (2, u "INSTANCE"), (0, u "Lsun/nio/cs/UTF_8;"), (8, u "JLA"), (0, u "Ljdk/internal/access/JavaLangAccess;")] 26

def k18m0 : Method := { name := "<init>", desc := "()V", sig := { parameters := [], returnType := none }, accessFlags := 1, code := none }
/-- sun/nio/cs/UTF_8 -/
def k18 : Class := { plain "sun/nio/cs/UTF_8" (some 17) with
  accessFlags := 49
  interfaces := #[]
  cf := some (fileOf pool18 39 #[.nestMembers #[22, 17]] #[{ accessFlags := 1, nameIndex := 13, descriptorIndex := 43, attributes := #[] }] 49 10 #[] #[{ accessFlags := 25, nameIndex := 46, descriptorIndex := 47, attributes := #[] }, { accessFlags := 26, nameIndex := 56, descriptorIndex := 57, attributes := #[] }])
  fields := #[{ name := "INSTANCE", type := (.object "sun/nio/cs/UTF_8"), accessFlags := 25, slot := 0, constantValue := 0 }, { name := "JLA", type := (.object "jdk/internal/access/JavaLangAccess"), accessFlags := 26, slot := 1, constantValue := 0 }]
  methods := #[k18m0]
  instanceTypes := #[(.object "java/lang/String"), (.array (.object "java/lang/String")), (.object "java/util/Set")]
  staticTypes := #[(.object "sun/nio/cs/UTF_8"), (.object "jdk/internal/access/JavaLangAccess")]
  resolved := Array.replicate 84 none
  statics := some 2 }

def pool19 : Array CpInfo := pool [(2, .class_ 4), (1, u "java/lang/Object"), (0, u "<init>"), (0, u "()V"), (0, .methodref 8 9), (0, .class_ 10), (0, .nameAndType 11 12), (0, u "java/lang/StringCoding"), (0, u "countPositives"), (0, u "([BII)I"), (11, u "hasNegatives"), (0, u "([BII)Z")] 23

def k19m0 : Method := { name := "<init>", desc := "()V", sig := { parameters := [], returnType := none }, accessFlags := 2, code := none }
def k19c1 : Code := { maxStack := 3, maxLocals := 3, code := jdk_123_method_2_code, exceptionTable := #[], attributes := #[] }
def k19m1 : Method := { name := "hasNegatives", desc := "([BII)Z", sig := { parameters := [(.array .byte), .int, .int], returnType := some .boolean }, accessFlags := 9, code := some k19c1 }
def k19c2 : Code := { maxStack := 2, maxLocals := 5, code := jdk_123_method_3_code, exceptionTable := #[], attributes := #[] }
def k19m2 : Method := { name := "countPositives", desc := "([BII)I", sig := { parameters := [(.array .byte), .int, .int], returnType := some .int }, accessFlags := 9, code := some k19c2 }
/-- java/lang/StringCoding -/
def k19 : Class := { plain "java/lang/StringCoding" (some 0) with
  accessFlags := 32
  interfaces := #[]
  cf := some (fileOf pool19 8 #[] #[{ accessFlags := 2, nameIndex := 5, descriptorIndex := 6, attributes := #[] }, { accessFlags := 9, nameIndex := 24, descriptorIndex := 25, attributes := #[] }, { accessFlags := 9, nameIndex := 11, descriptorIndex := 12, attributes := #[] }] 32 2 #[] #[])
  fields := #[]
  methods := #[k19m0, k19m1, k19m2]
  instanceTypes := #[]
  staticTypes := #[]
  resolved := Array.replicate 49 none
  statics := none }

def pool20 : Array CpInfo := pool [(1, .class_ 2), (0, u "java/lang/Cloneable"), (0, .class_ 4), (0, u "java/lang/Object")] 2

/-- java/lang/Cloneable -/
def k20 : Class := { plain "java/lang/Cloneable" (some 0) with
  accessFlags := 1537
  interfaces := #[]
  cf := some (fileOf pool20 1 #[] #[] 1537 3 #[] #[])
  fields := #[]
  methods := #[]
  instanceTypes := #[]
  staticTypes := #[]
  resolved := Array.replicate 7 none
  statics := none }

def pool21 : Array CpInfo := pool [(2, .class_ 4), (1, u "java/lang/Object"), (0, u "<init>"), (0, u "()V"), (7, .class_ 16), (1, u "java/util/Arrays"), (57, .class_ 76), (1, u "java/util/Arrays$NaturalOrder"), (36, .class_ 115), (1, u "java/util/Arrays$LegacyMergeSort"), (1, u "Z"), (32, .methodref 151 152), (0, .class_ 153), (0, .nameAndType 154 155), (0, u "java/lang/System"), (0, u "arraycopy"), (0, u "(Ljava/lang/Object;ILjava/lang/Object;II)V"), (146, u "copyOf"), (1, .methodref 305 306), (0, .class_ 307), (0, .nameAndType 308 309), (0, u "java/lang/Math"), (0, u "min"), (0, u "(II)I"), (65, .class_ 376), (0, u "java/util/Arrays$ArrayList"), (68, u "$assertionsDisabled"), (269, u "MIN_ARRAY_SORT_GRAN"), (0, u "I"), (2, u "INSERTIONSORT_THRESHOLD"), (149, u "([BI)[B"), (105, .class_ 976), (0, u "java/util/Arrays$ArrayItr")] 52

def k21m0 : Method := { name := "<init>", desc := "()V", sig := { parameters := [], returnType := none }, accessFlags := 2, code := none }
def k21c1 : Code := { maxStack := 6, maxLocals := 3, code := jdk_65_method_121_code, exceptionTable := #[], attributes := #[] }
def k21m1 : Method := { name := "copyOf", desc := "([BI)[B", sig := { parameters := [(.array .byte), .int], returnType := some (.array .byte) }, accessFlags := 9, code := some k21c1 }
/-- java/util/Arrays -/
def k21 : Class := { plain "java/util/Arrays" (some 0) with
  accessFlags := 49
  interfaces := #[]
  cf := some (fileOf pool21 14 #[.nestMembers #[975, 375, 113, 74]] #[{ accessFlags := 2, nameIndex := 5, descriptorIndex := 6, attributes := #[] }, { accessFlags := 9, nameIndex := 302, descriptorIndex := 869, attributes := #[] }] 49 2 #[] #[{ accessFlags := 26, nameIndex := 715, descriptorIndex := 716, attributes := #[] }, { accessFlags := 26, nameIndex := 719, descriptorIndex := 716, attributes := #[] }, { accessFlags := 4120, nameIndex := 445, descriptorIndex := 117, attributes := #[] }])
  fields := #[{ name := "MIN_ARRAY_SORT_GRAN", type := .int, accessFlags := 26, slot := 0, constantValue := 0 }, { name := "INSERTIONSORT_THRESHOLD", type := .int, accessFlags := 26, slot := 1, constantValue := 0 }, { name := "$assertionsDisabled", type := .boolean, accessFlags := 4120, slot := 2, constantValue := 0 }]
  methods := #[k21m0, k21m1]
  instanceTypes := #[]
  staticTypes := #[.int, .int, .boolean]
  resolved := Array.replicate 1029 none
  statics := none }

def pool22 : Array CpInfo := pool [(1, .class_ 2), (0, u "java/lang/Math"), (1, .class_ 6), (1, u "java/lang/Object"), (0, u "<init>"), (0, u "()V"), (89, .class_ 100), (1, u "java/lang/Math$RandomNumberGeneratorHolder"), (71, u "negativeZeroFloatBits"), (0, u "J"), (2, u "negativeZeroDoubleBits"), (24, u "min"), (43, u "$assertionsDisabled"), (0, u "Z"), (88, u "(II)I"), (2, u "twoToTheDoubleScaleDown"), (0, u "D"), (4, u "twoToTheDoubleScaleUp"), (9, u "E"), (3, u "PI"), (2, u "TAU"), (2, u "DEGREES_TO_RADIANS"), (0, u "RADIANS_TO_DEGREES")] 94

def k22m0 : Method := { name := "<init>", desc := "()V", sig := { parameters := [], returnType := none }, accessFlags := 2, code := none }
def k22c1 : Code := { maxStack := 2, maxLocals := 2, code := jdk_29_method_69_code, exceptionTable := #[], attributes := #[] }
def k22m1 : Method := { name := "min", desc := "(II)I", sig := { parameters := [.int, .int], returnType := some .int }, accessFlags := 9, code := some k22c1 }
/-- java/lang/Math -/
def k22 : Class := { plain "java/lang/Math" (some 0) with
  accessFlags := 49
  interfaces := #[]
  cf := some (fileOf pool22 1 #[.nestMembers #[98]] #[{ accessFlags := 2, nameIndex := 7, descriptorIndex := 8, attributes := #[] }, { accessFlags := 9, nameIndex := 201, descriptorIndex := 335, attributes := #[] }] 49 4 #[] #[{ accessFlags := 25, nameIndex := 354, descriptorIndex := 339, attributes := #[] }, { accessFlags := 25, nameIndex := 358, descriptorIndex := 339, attributes := #[] }, { accessFlags := 25, nameIndex := 361, descriptorIndex := 339, attributes := #[] }, { accessFlags := 26, nameIndex := 364, descriptorIndex := 339, attributes := #[] }, { accessFlags := 26, nameIndex := 365, descriptorIndex := 339, attributes := #[] }, { accessFlags := 26, nameIndex := 172, descriptorIndex := 173, attributes := #[] }, { accessFlags := 26, nameIndex := 176, descriptorIndex := 173, attributes := #[] }, { accessFlags := 8, nameIndex := 344, descriptorIndex := 339, attributes := #[] }, { accessFlags := 8, nameIndex := 338, descriptorIndex := 339, attributes := #[] }, { accessFlags := 4120, nameIndex := 245, descriptorIndex := 246, attributes := #[] }])
  fields := #[{ name := "E", type := .double, accessFlags := 25, slot := 0, constantValue := 0 }, { name := "PI", type := .double, accessFlags := 25, slot := 1, constantValue := 0 }, { name := "TAU", type := .double, accessFlags := 25, slot := 2, constantValue := 0 }, { name := "DEGREES_TO_RADIANS", type := .double, accessFlags := 26, slot := 3, constantValue := 0 }, { name := "RADIANS_TO_DEGREES", type := .double, accessFlags := 26, slot := 4, constantValue := 0 }, { name := "negativeZeroFloatBits", type := .long, accessFlags := 26, slot := 5, constantValue := 0 }, { name := "negativeZeroDoubleBits", type := .long, accessFlags := 26, slot := 6, constantValue := 0 }, { name := "twoToTheDoubleScaleUp", type := .double, accessFlags := 8, slot := 7, constantValue := 0 }, { name := "twoToTheDoubleScaleDown", type := .double, accessFlags := 8, slot := 8, constantValue := 0 }, { name := "$assertionsDisabled", type := .boolean, accessFlags := 4120, slot := 9, constantValue := 0 }]
  methods := #[k22m0, k22m1]
  instanceTypes := #[]
  staticTypes := #[.double, .double, .double, .double, .double, .long, .long, .double, .double, .boolean]
  resolved := Array.replicate 460 none
  statics := none }

def pool23 : Array CpInfo := pool [(2, .class_ 4), (1, u "java/lang/Object"), (0, u "<init>"), (0, u "()V"), (1, .class_ 10), (1, u "java/lang/System"), (0, u "allowSecurityManager"), (0, u "I"), (16, u "cons"), (0, u "Ljava/io/Console;"), (77, .class_ 110), (1, u "java/lang/System$CallersHolder"), (43, u "initialErrStream"), (0, u "Ljava/io/PrintStream;"), (19, u "security"), (0, u "Ljava/lang/SecurityManager;"), (31, .class_ 209), (0, u "java/lang/System$1"), (7, u "props"), (0, u "Ljava/util/Properties;"), (2, u "lineSeparator"), (0, u "Ljava/lang/String;"), (96, .class_ 321), (1, u "java/lang/System$LoggerFinder"), (5, .class_ 328), (0, u "java/lang/System$Logger"), (67, u "err"), (2, u "out"), (91, u "notSupportedJnuEncoding"), (15, u "in"), (17, u "initialIn"), (0, u "Ljava/io/InputStream;"), (35, u "bootLayer"), (0, u "Ljava/lang/ModuleLayer;"), (99, .class_ 664), (0, u "java/lang/System$2"), (9, u "NEVER"), (2, u "MAYBE"), (49, u "arraycopy"), (0, u "(Ljava/lang/Object;ILjava/lang/Object;II)V"), (72, .class_ 802), (0, u "java/lang/System$Logger$Level")] 31

def k23m0 : Method := { name := "<init>", desc := "()V", sig := { parameters := [], returnType := none }, accessFlags := 2, code := none }
def k23m1 : Method := { name := "arraycopy", desc := "(Ljava/lang/Object;ILjava/lang/Object;II)V", sig := { parameters := [(.object "java/lang/Object"), .int, (.object "java/lang/Object"), .int, .int], returnType := none }, accessFlags := 265, code := none }
/-- java/lang/System -/
def k23 : Class := { plain "java/lang/System" (some 0) with
  accessFlags := 49
  interfaces := #[]
  cf := some (fileOf pool23 8 #[.nestMembers #[319, 327, 801, 108, 663, 208]] #[{ accessFlags := 2, nameIndex := 5, descriptorIndex := 6, attributes := #[] }, { accessFlags := 265, nameIndex := 727, descriptorIndex := 728, attributes := #[] }] 49 2 #[] #[{ accessFlags := 25, nameIndex := 507, descriptorIndex := 526, attributes := #[] }, { accessFlags := 25, nameIndex := 399, descriptorIndex := 155, attributes := #[] }, { accessFlags := 25, nameIndex := 396, descriptorIndex := 155, attributes := #[] }, { accessFlags := 10, nameIndex := 525, descriptorIndex := 526, attributes := #[] }, { accessFlags := 26, nameIndex := 674, descriptorIndex := 12, attributes := #[] }, { accessFlags := 26, nameIndex := 677, descriptorIndex := 12, attributes := #[] }, { accessFlags := 10, nameIndex := 11, descriptorIndex := 12, attributes := #[] }, { accessFlags := 74, nameIndex := 175, descriptorIndex := 176, attributes := #[] }, { accessFlags := 10, nameIndex := 491, descriptorIndex := 222, attributes := #[] }, { accessFlags := 74, nameIndex := 29, descriptorIndex := 30, attributes := #[] }, { accessFlags := 74, nameIndex := 154, descriptorIndex := 155, attributes := #[] }, { accessFlags := 10, nameIndex := 217, descriptorIndex := 218, attributes := #[] }, { accessFlags := 10, nameIndex := 221, descriptorIndex := 222, attributes := #[] }, { accessFlags := 8, nameIndex := 562, descriptorIndex := 563, attributes := #[] }])
  fields := #[{ name := "in", type := (.object "java/io/InputStream"), accessFlags := 25, slot := 0, constantValue := 0 }, { name := "out", type := (.object "java/io/PrintStream"), accessFlags := 25, slot := 1, constantValue := 0 }, { name := "err", type := (.object "java/io/PrintStream"), accessFlags := 25, slot := 2, constantValue := 0 }, { name := "initialIn", type := (.object "java/io/InputStream"), accessFlags := 10, slot := 3, constantValue := 0 }, { name := "NEVER", type := .int, accessFlags := 26, slot := 4, constantValue := 0 }, { name := "MAYBE", type := .int, accessFlags := 26, slot := 5, constantValue := 0 }, { name := "allowSecurityManager", type := .int, accessFlags := 10, slot := 6, constantValue := 0 }, { name := "security", type := (.object "java/lang/SecurityManager"), accessFlags := 74, slot := 7, constantValue := 0 }, { name := "notSupportedJnuEncoding", type := (.object "java/lang/String"), accessFlags := 10, slot := 8, constantValue := 0 }, { name := "cons", type := (.object "java/io/Console"), accessFlags := 74, slot := 9, constantValue := 0 }, { name := "initialErrStream", type := (.object "java/io/PrintStream"), accessFlags := 74, slot := 10, constantValue := 0 }, { name := "props", type := (.object "java/util/Properties"), accessFlags := 10, slot := 11, constantValue := 0 }, { name := "lineSeparator", type := (.object "java/lang/String"), accessFlags := 10, slot := 12, constantValue := 0 }, { name := "bootLayer", type := (.object "java/lang/ModuleLayer"), accessFlags := 8, slot := 13, constantValue := 0 }]
  methods := #[k23m0, k23m1]
  instanceTypes := #[]
  staticTypes := #[(.object "java/io/InputStream"), (.object "java/io/PrintStream"), (.object "java/io/PrintStream"), (.object "java/io/InputStream"), .int, .int, .int, (.object "java/lang/SecurityManager"), (.object "java/lang/String"), (.object "java/io/Console"), (.object "java/io/PrintStream"), (.object "java/util/Properties"), (.object "java/lang/String"), (.object "java/lang/ModuleLayer")]
  resolved := Array.replicate 834 none
  statics := none }

def pool24 : Array CpInfo := pool [(4, .class_ 6), (1, u "java/lang/Object"), (0, u "<init>"), (0, u "()V"), (5, .class_ 16), (1, u "java/lang/StringLatin1"), (104, u "$assertionsDisabled"), (0, u "Z"), (98, .class_ 223), (1, u "java/lang/StringLatin1$LinesSpliterator"), (166, .class_ 391), (0, u "java/lang/StringLatin1$CharsSpliterator")] 3

def k24m0 : Method := { name := "<init>", desc := "()V", sig := { parameters := [], returnType := none }, accessFlags := 0, code := none }
/-- java/lang/StringLatin1 -/
def k24 : Class := { plain "java/lang/StringLatin1" (some 0) with
  accessFlags := 48
  interfaces := #[]
  cf := some (fileOf pool24 14 #[.nestMembers #[390, 221]] #[{ accessFlags := 0, nameIndex := 7, descriptorIndex := 8, attributes := #[] }] 48 4 #[] #[{ accessFlags := 4120, nameIndex := 121, descriptorIndex := 122, attributes := #[] }])
  fields := #[{ name := "$assertionsDisabled", type := .boolean, accessFlags := 4120, slot := 0, constantValue := 0 }]
  methods := #[k24m0]
  instanceTypes := #[]
  staticTypes := #[.boolean]
  resolved := Array.replicate 395 none
  statics := none }

def pool25 : Array CpInfo := pool [(2, .class_ 4), (1, u "java/lang/Object"), (0, u "<init>"), (0, u "()V"), (17, .class_ 26), (1, u "jdk/internal/util/Preconditions"), (28, .class_ 56), (0, u "jdk/internal/util/Preconditions$4"), (57, .class_ 115), (0, u "jdk/internal/util/Preconditions$1"), (7, u "SIOOBE_FORMATTER"), (0, u "Ljava/util/function/BiFunction;"), (0, .class_ 126), (0, u "jdk/internal/util/Preconditions$2"), (3, u "AIOOBE_FORMATTER"), (0, .class_ 132), (0, u "jdk/internal/util/Preconditions$3"), (3, u "IOOBE_FORMATTER")] 57

def k25m0 : Method := { name := "<init>", desc := "()V", sig := { parameters := [], returnType := none }, accessFlags := 1, code := none }
/-- jdk/internal/util/Preconditions -/
def k25 : Class := { plain "jdk/internal/util/Preconditions" (some 0) with
  accessFlags := 33
  interfaces := #[]
  cf := some (fileOf pool25 24 #[.nestMembers #[55, 131, 125, 114]] #[{ accessFlags := 1, nameIndex := 5, descriptorIndex := 6, attributes := #[] }] 33 2 #[] #[{ accessFlags := 25, nameIndex := 123, descriptorIndex := 124, attributes := #[] }, { accessFlags := 25, nameIndex := 130, descriptorIndex := 124, attributes := #[] }, { accessFlags := 25, nameIndex := 136, descriptorIndex := 124, attributes := #[] }])
  fields := #[{ name := "SIOOBE_FORMATTER", type := (.object "java/util/function/BiFunction"), accessFlags := 25, slot := 0, constantValue := 0 }, { name := "AIOOBE_FORMATTER", type := (.object "java/util/function/BiFunction"), accessFlags := 25, slot := 1, constantValue := 0 }, { name := "IOOBE_FORMATTER", type := (.object "java/util/function/BiFunction"), accessFlags := 25, slot := 2, constantValue := 0 }]
  methods := #[k25m0]
  instanceTypes := #[]
  staticTypes := #[(.object "java/util/function/BiFunction"), (.object "java/util/function/BiFunction"), (.object "java/util/function/BiFunction")]
  resolved := Array.replicate 194 none
  statics := some 3 }

def pool26 : Array CpInfo := pool [(9, u "<init>"), (6, .class_ 18), (1, u "java/lang/Object"), (0, u "()V"), (1, .class_ 23), (1, u "jdk/internal/util/ArraysSupport"), (0, u "LOG2_ARRAY_LONG_INDEX_SCALE"), (0, u "I"), (2, u "U"), (0, u "Ljdk/internal/misc/Unsafe;"), (8, u "BIG_ENDIAN"), (0, u "Z"), (8, u "LOG2_BYTE_BIT_SIZE"), (4, u "LOG2_ARRAY_INT_INDEX_SCALE"), (54, u "JLA"), (0, u "Ljdk/internal/access/JavaLangAccess;"), (11, u "LOG2_ARRAY_BOOLEAN_INDEX_SCALE"), (9, u "LOG2_ARRAY_BYTE_INDEX_SCALE"), (5, u "LOG2_ARRAY_CHAR_INDEX_SCALE"), (5, u "LOG2_ARRAY_SHORT_INDEX_SCALE"), (18, u "LOG2_ARRAY_FLOAT_INDEX_SCALE"), (24, u "LOG2_ARRAY_DOUBLE_INDEX_SCALE"), (89, u "T_BOOLEAN"), (2, u "T_CHAR"), (1, u "T_FLOAT"), (1, u "T_DOUBLE"), (1, u "T_BYTE"), (1, u "T_SHORT"), (1, u "T_INT"), (1, u "T_LONG"), (1, u "SOFT_MAX_ARRAY_LENGTH")] 83

def k26m0 : Method := { name := "<init>", desc := "()V", sig := { parameters := [], returnType := none }, accessFlags := 2, code := none }
/-- jdk/internal/util/ArraysSupport -/
def k26 : Class := { plain "jdk/internal/util/ArraysSupport" (some 0) with
  accessFlags := 33
  interfaces := #[]
  cf := some (fileOf pool26 21 #[] #[{ accessFlags := 2, nameIndex := 9, descriptorIndex := 19, attributes := #[] }] 33 16 #[] #[{ accessFlags := 24, nameIndex := 28, descriptorIndex := 29, attributes := #[] }, { accessFlags := 26, nameIndex := 38, descriptorIndex := 39, attributes := #[] }, { accessFlags := 25, nameIndex := 121, descriptorIndex := 25, attributes := #[] }, { accessFlags := 25, nameIndex := 131, descriptorIndex := 25, attributes := #[] }, { accessFlags := 25, nameIndex := 137, descriptorIndex := 25, attributes := #[] }, { accessFlags := 25, nameIndex := 143, descriptorIndex := 25, attributes := #[] }, { accessFlags := 25, nameIndex := 53, descriptorIndex := 25, attributes := #[] }, { accessFlags := 25, nameIndex := 24, descriptorIndex := 25, attributes := #[] }, { accessFlags := 25, nameIndex := 162, descriptorIndex := 25, attributes := #[] }, { accessFlags := 25, nameIndex := 187, descriptorIndex := 25, attributes := #[] }, { accessFlags := 26, nameIndex := 48, descriptorIndex := 25, attributes := #[] }, { accessFlags := 25, nameIndex := 277, descriptorIndex := 25, attributes := #[] }, { accessFlags := 25, nameIndex := 280, descriptorIndex := 25, attributes := #[] }, { accessFlags := 25, nameIndex := 282, descriptorIndex := 25, attributes := #[] }, { accessFlags := 25, nameIndex := 284, descriptorIndex := 25, attributes := #[] }, { accessFlags := 25, nameIndex := 286, descriptorIndex := 25, attributes := #[] }, { accessFlags := 25, nameIndex := 288, descriptorIndex := 25, attributes := #[] }, { accessFlags := 25, nameIndex := 290, descriptorIndex := 25, attributes := #[] }, { accessFlags := 25, nameIndex := 292, descriptorIndex := 25, attributes := #[] }, { accessFlags := 26, nameIndex := 108, descriptorIndex := 109, attributes := #[] }, { accessFlags := 25, nameIndex := 294, descriptorIndex := 25, attributes := #[] }])
  fields := #[{ name := "U", type := (.object "jdk/internal/misc/Unsafe"), accessFlags := 24, slot := 0, constantValue := 0 }, { name := "BIG_ENDIAN", type := .boolean, accessFlags := 26, slot := 1, constantValue := 0 }, { name := "LOG2_ARRAY_BOOLEAN_INDEX_SCALE", type := .int, accessFlags := 25, slot := 2, constantValue := 0 }, { name := "LOG2_ARRAY_BYTE_INDEX_SCALE", type := .int, accessFlags := 25, slot := 3, constantValue := 0 }, { name := "LOG2_ARRAY_CHAR_INDEX_SCALE", type := .int, accessFlags := 25, slot := 4, constantValue := 0 }, { name := "LOG2_ARRAY_SHORT_INDEX_SCALE", type := .int, accessFlags := 25, slot := 5, constantValue := 0 }, { name := "LOG2_ARRAY_INT_INDEX_SCALE", type := .int, accessFlags := 25, slot := 6, constantValue := 0 }, { name := "LOG2_ARRAY_LONG_INDEX_SCALE", type := .int, accessFlags := 25, slot := 7, constantValue := 0 }, { name := "LOG2_ARRAY_FLOAT_INDEX_SCALE", type := .int, accessFlags := 25, slot := 8, constantValue := 0 }, { name := "LOG2_ARRAY_DOUBLE_INDEX_SCALE", type := .int, accessFlags := 25, slot := 9, constantValue := 0 }, { name := "LOG2_BYTE_BIT_SIZE", type := .int, accessFlags := 26, slot := 10, constantValue := 0 }, { name := "T_BOOLEAN", type := .int, accessFlags := 25, slot := 11, constantValue := 0 }, { name := "T_CHAR", type := .int, accessFlags := 25, slot := 12, constantValue := 0 }, { name := "T_FLOAT", type := .int, accessFlags := 25, slot := 13, constantValue := 0 }, { name := "T_DOUBLE", type := .int, accessFlags := 25, slot := 14, constantValue := 0 }, { name := "T_BYTE", type := .int, accessFlags := 25, slot := 15, constantValue := 0 }, { name := "T_SHORT", type := .int, accessFlags := 25, slot := 16, constantValue := 0 }, { name := "T_INT", type := .int, accessFlags := 25, slot := 17, constantValue := 0 }, { name := "T_LONG", type := .int, accessFlags := 25, slot := 18, constantValue := 0 }, { name := "JLA", type := (.object "jdk/internal/access/JavaLangAccess"), accessFlags := 26, slot := 19, constantValue := 0 }, { name := "SOFT_MAX_ARRAY_LENGTH", type := .int, accessFlags := 25, slot := 20, constantValue := 0 }]
  methods := #[k26m0]
  instanceTypes := #[]
  staticTypes := #[(.object "jdk/internal/misc/Unsafe"), .boolean, .int, .int, .int, .int, .int, .int, .int, .int, .int, .int, .int, .int, .int, .int, .int, .int, .int, (.object "jdk/internal/access/JavaLangAccess"), .int]
  resolved := Array.replicate 378 none
  statics := none }

/-- the primitive byte -/
def k27 : Class := { plain "byte" none with kind := .primitive 'B', accessFlags := 0x411 }
/-- [B -/
def k28 : Class := { plain "[B" (some 0) with kind := .array 27 .byte, interfaces := #[20, 2], accessFlags := 1041 }

/-- the primitive char -/
def k29 : Class := { plain "char" none with kind := .primitive 'C', accessFlags := 0x411 }
/-- [C -/
def k30 : Class := { plain "[C" (some 0) with kind := .array 29 .char, interfaces := #[20, 2], accessFlags := 1041 }

/-- the primitive int -/
def k31 : Class := { plain "int" none with kind := .primitive 'I', accessFlags := 0x411 }
/-- [I -/
def k32 : Class := { plain "[I" (some 0) with kind := .array 31 .int, interfaces := #[20, 2], accessFlags := 1041 }

/-- [Ljava/lang/String; -/
def k33 : Class := { plain "[Ljava/lang/String;" (some 0) with kind := .array 7 (.object "java/lang/String"), interfaces := #[20, 2], accessFlags := 1041 }

def classes0 : Array Class := #[k0, k1, k2, k3, k4, k5, k6, k7, k8, k9, k10, k11, k12, k13, k14, k15, k16, k17, k18, k19, k20, k21, k22, k23, k24, k25, k26, k27, k28, k29, k30, k31, k32, k33]
/-- the class that the rule has made for the site at 18 of com/example/bindwick/bindwick/Attribute.<init> -/
def k34 : Class := Jvm.LamKit.madeRec { classes := classes0 } "com/example/bindwick/bindwick/Attribute" (Jvm.Lambda.Shape.mk "java/util/function/Function" "apply" (Jvm.ClassFile.MethodDescriptor.mk ([(Jvm.ClassFile.FieldType.object "java/lang/Object")] : List Jvm.ClassFile.FieldType) (Option.some (Jvm.ClassFile.FieldType.object "java/lang/Object"))) ([] : List Jvm.ClassFile.FieldType) (6 : Nat) "com/example/bindwick/bindwick/Attribute" "lambda$new$0" (Jvm.ClassFile.MethodDescriptor.mk ([(Jvm.ClassFile.FieldType.object "java/lang/String")] : List Jvm.ClassFile.FieldType) (Option.some (Jvm.ClassFile.FieldType.array Jvm.ClassFile.FieldType.byte))) false (Jvm.ClassFile.MethodDescriptor.mk ([(Jvm.ClassFile.FieldType.object "java/lang/String")] : List Jvm.ClassFile.FieldType) (Option.some (Jvm.ClassFile.FieldType.array Jvm.ClassFile.FieldType.byte)))) 34

def heap : Heap := #[{ cls := 7, slots := #[.long 0, .int 1, .null, .int 0, .null, .int 0, .int 0], vm := .statics 7 },
  { cls := 14, slots := #[.null, .null, .ref 5, .null, .null, .null], vm := .statics 14 },
  { cls := 18, slots := #[.ref 5, .null], vm := .statics 18 },
  { cls := 25, slots := #[.null, .null, .null], vm := .statics 25 },
  { cls := 34, slots := #[], vm := .none },
  { cls := 18, slots := #[.null, .null, .null], vm := .none }]
/-- [[B -/
def k35 : Class := { plain "[[B" (some 0) with kind := .array 28 (.array .byte), interfaces := #[20, 2], accessFlags := 1041 }
def classes : Array Class := #[k0, k1, k2, k3, k4, k5, k6, k7, k8, k9, k10, k11, k12, k13, k14, k15, k16, k17, k18, k19, k20, k21, k22, k23, k24, k25, k26, k27, k28, k29, k30, k31, k32, k33, k34, k35]
def interned : List (Array UInt16 × Addr) := []
def slotsUsed : Nat := 21
def theMethod : MethodId := ⟨1, 1⟩
def args0 : Array Value := #[.int 5, .int 7, .int 200, .int 3, .int 250]
def aboutOver (below : List Frame) : State where
  vm := { classes := classes, interned := interned.toArray }
  heap := heap
  slotsUsed := slotsUsed
  threads := #[{ frames := .invoking theMethod args0 :: below }]
def below0 : List Frame := [.native { method := ⟨0, 0⟩, args := #[] }]
def about1 : State := aboutOver below0
def p0 : Program := .bare "" "" ""
def e0 : Env := launch0.env 0 0 0
theorem w_frames : about1.frames = Frame.invoking theMethod args0 :: below0 := rfl
set_option maxRecDepth 65536 in
theorem w_args : argsFit about1.vm theMethod args0 = true := by decide +kernel
set_option maxRecDepth 65536 in
theorem w_heap : heapFits about1 = true := by decide +kernel
set_option maxRecDepth 65536 in
theorem w_runnable : about1.curStatus? = some .runnable := by decide +kernel
set_option maxRecDepth 65536 in
theorem w_alone : about1.alone = true := by decide +kernel
set_option maxRecDepth 65536 in
theorem w_named : about1.methodNamed? x = some theMethod := by decide +kernel
set_option maxRecDepth 65536 in
theorem w_hears : about1.hears theMethod below0 = true := by decide +kernel
set_option maxRecDepth 65536 in
theorem w_ripe : about1.ripe theMethod args0 below0 = true := by decide +kernel
theorem w_running : about1.status = .running := rfl
set_option maxRecDepth 65536 in
theorem w_room : about1.hasRoom e0.platform room_1 = true :=
  launch0.hasRoom_least _ room_1 (by decide +kernel) (by decide +kernel) (by decide +kernel) (by decide +kernel) (by decide +kernel) (by decide +kernel)
theorem allAtoms_all (ts : List Jvm.Cond) (a : Array Jvm.Value) (st : Jvm.State) : (allAtoms ts).before a st = ts.all (fun c => c.before a st) := by
  induction ts with
  | nil => rfl
  | cons c t ih =>
    show (Jvm.Cond.and c (allAtoms t)).before a st = _
    rw [Jvm.Cond.before_and, ih, List.all_cons]
def words1 : List Jvm.Cond := Jvm.Cond.code x code maxLocals ret :: tables_1
/-- a 'code' word, met by the world's own term for the bytes: nothing is compared byte by byte -/
theorem code_word {y : MethodName} {bytes : ByteArray} {mx : Nat} {rt : Option FieldType} {a : Array Value} {s : State} {m : MethodId} {meth : Method} {c : Code} (h1 : s.methodNamed? y = some m) (h2 : s.vm.method? m = some meth) (h3 : meth.code = some c) (h4 : c.code = bytes)
    (h5 : (c.maxLocals == mx && c.exceptionTable.isEmpty && decide (c.maxStack ≤ mostOperands) && decide (meth.sig.returnType = rt) && !meth.locks && decide (parseMethodDescriptor y.desc = some meth.sig)) = true) : (Jvm.Cond.code y bytes mx rt).before a s = true := by
  simp only [Bool.and_eq_true, beq_iff_eq, Bool.not_eq_true', decide_eq_true_eq] at h5
  obtain ⟨⟨⟨⟨⟨g1, g2⟩, g3⟩, g4⟩, g5⟩, g6⟩ := h5
  simp [Cond.before, Cond.holds, Cond.value, h1, h2, h3, h4, g1, g2, g3, g4, g5, g6]
def isCode : Jvm.Cond → Bool
  | .code _ _ _ _ => true
  | _ => false
theorem all_split {L : List Jvm.Cond} {P : Jvm.Cond → Bool} (h1 : L.all (fun c => isCode c || P c) = true) (h2 : ∀ c ∈ L.filter isCode, P c = true) : L.all P = true := by
  refine List.all_eq_true.mpr fun c hc => ?_
  have h := List.all_eq_true.mp h1 c hc
  rcases Bool.eq_false_or_eq_true (isCode c) with hi | hi
  · exact h2 c (List.mem_filter.mpr ⟨hc, hi⟩)
  · simpa [hi] using h
set_option maxRecDepth 65536 in
theorem w_c0 : (Jvm.Cond.code x code maxLocals ret).before args0 about1 = true := code_word (m := ⟨1, 1⟩) (meth := k1m1) (c := k1c1) (by decide +kernel) rfl rfl rfl (by decide +kernel)
set_option maxRecDepth 65536 in
theorem w_c1 : (Jvm.Cond.code ({ cls := "com/example/bindwick/bindwick/AttributeGetValueByteArraysPinLaw", name := "str", desc := "(ICC)Ljava/lang/String;" } : Jvm.MethodName) method_3_code (4 : Nat) (Option.some (Jvm.ClassFile.FieldType.object "java/lang/String"))).before args0 about1 = true := code_word (m := ⟨1, 2⟩) (meth := k1m2) (c := k1c2) (by decide +kernel) rfl rfl rfl (by decide +kernel)
set_option maxRecDepth 65536 in
theorem w_c2 : (Jvm.Cond.code ({ cls := "java/lang/String", name := "<init>", desc := "([C)V" } : Jvm.MethodName) jdk_42_method_3_code (2 : Nat) (Option.none : Option Jvm.ClassFile.FieldType)).before args0 about1 = true := code_word (m := ⟨7, 1⟩) (meth := k7m1) (c := k7c1) (by decide +kernel) rfl rfl rfl (by decide +kernel)
set_option maxRecDepth 65536 in
theorem w_c3 : (Jvm.Cond.code ({ cls := "java/lang/String", name := "<init>", desc := "([CIILjava/lang/Void;)V" } : Jvm.MethodName) jdk_42_method_149_code (6 : Nat) (Option.none : Option Jvm.ClassFile.FieldType)).before args0 about1 = true := code_word (m := ⟨7, 5⟩) (meth := k7m5) (c := k7c5) (by decide +kernel) rfl rfl rfl (by decide +kernel)
set_option maxRecDepth 65536 in
theorem w_c4 : (Jvm.Cond.code ({ cls := "java/lang/Object", name := "<init>", desc := "()V" } : Jvm.MethodName) object_method_1_code (1 : Nat) (Option.none : Option Jvm.ClassFile.FieldType)).before args0 about1 = true := code_word (m := ⟨0, 0⟩) (meth := k0m0) (c := k0c0) (by decide +kernel) rfl rfl rfl (by decide +kernel)
set_option maxRecDepth 65536 in
theorem w_c5 : (Jvm.Cond.code ({ cls := "com/example/bindwick/bindwick/Attribute", name := "<init>", desc := "(Ljava/lang/String;[Ljava/lang/String;)V" } : Jvm.MethodName) prog_25_method_1_code (3 : Nat) (Option.none : Option Jvm.ClassFile.FieldType)).before args0 about1 = true := code_word (m := ⟨8, 0⟩) (meth := k8m0) (c := k8c0) (by decide +kernel) rfl rfl rfl (by decide +kernel)
set_option maxRecDepth 65536 in
theorem w_c6 : (Jvm.Cond.code ({ cls := "com/example/bindwick/bindwick/LDAPException", name := "requireArgument", desc := "(Ljava/lang/Object;Ljava/lang/String;)Ljava/lang/Object;" } : Jvm.MethodName) prog_72_method_7_code (2 : Nat) (Option.some (Jvm.ClassFile.FieldType.object "java/lang/Object"))).before args0 about1 = true := code_word (m := ⟨11, 0⟩) (meth := k11m0) (c := k11c0) (by decide +kernel) rfl rfl rfl (by decide +kernel)
set_option maxRecDepth 65536 in
theorem w_c7 : (Jvm.Cond.code ({ cls := "com/example/bindwick/bindwick/Attribute", name := "toOctets", desc := "([Ljava/lang/Object;Ljava/util/function/Function;)[[B" } : Jvm.MethodName) prog_25_method_4_code (4 : Nat) (Option.some (Jvm.ClassFile.FieldType.array (Jvm.ClassFile.FieldType.array Jvm.ClassFile.FieldType.byte)))).before args0 about1 = true := code_word (m := ⟨8, 1⟩) (meth := k8m1) (c := k8c1) (by decide +kernel) rfl rfl rfl (by decide +kernel)
set_option maxRecDepth 65536 in
theorem w_c8 : (Jvm.Cond.code ({ cls := "com/example/bindwick/bindwick/Attribute", name := "getValueByteArrays", desc := "()[[B" } : Jvm.MethodName) prog_25_method_10_code (3 : Nat) (Option.some (Jvm.ClassFile.FieldType.array (Jvm.ClassFile.FieldType.array Jvm.ClassFile.FieldType.byte)))).before args0 about1 = true := code_word (m := ⟨8, 2⟩) (meth := k8m2) (c := k8c2) (by decide +kernel) rfl rfl rfl (by decide +kernel)
set_option maxRecDepth 65536 in
theorem w_c9 : (Jvm.Cond.code ({ cls := "com/example/bindwick/bindwick/AttributeGetValueByteArraysPinLaw", name := "all", desc := "([[BIICCICC)Z" } : Jvm.MethodName) method_5_code (8 : Nat) (Option.some Jvm.ClassFile.FieldType.boolean)).before args0 about1 = true := code_word (m := ⟨1, 4⟩) (meth := k1m4) (c := k1c4) (by decide +kernel) rfl rfl rfl (by decide +kernel)
set_option maxRecDepth 65536 in
theorem w_c10 : (Jvm.Cond.code ({ cls := "java/lang/StringUTF16", name := "compress", desc := "([CII)[B" } : Jvm.MethodName) jdk_52_method_16_code (6 : Nat) (Option.some (Jvm.ClassFile.FieldType.array Jvm.ClassFile.FieldType.byte))).before args0 about1 = true := code_word (m := ⟨13, 4⟩) (meth := k13m4) (c := k13c4) (by decide +kernel) rfl rfl rfl (by decide +kernel)
set_option maxRecDepth 65536 in
theorem w_c11 : (Jvm.Cond.code ({ cls := "java/lang/StringUTF16", name := "compress", desc := "([CI[BII)I" } : Jvm.MethodName) jdk_52_method_21_code (7 : Nat) (Option.some Jvm.ClassFile.FieldType.int)).before args0 about1 = true := code_word (m := ⟨13, 5⟩) (meth := k13m5) (c := k13c5) (by decide +kernel) rfl rfl rfl (by decide +kernel)
set_option maxRecDepth 65536 in
theorem w_c12 : (Jvm.Cond.code ({ cls := "java/lang/StringUTF16", name := "coderFromArrayLen", desc := "([BI)B" } : Jvm.MethodName) jdk_52_method_15_code (2 : Nat) (Option.some Jvm.ClassFile.FieldType.byte)).before args0 about1 = true := code_word (m := ⟨13, 3⟩) (meth := k13m3) (c := k13c3) (by decide +kernel) rfl rfl rfl (by decide +kernel)
set_option maxRecDepth 65536 in
theorem w_c13 : (Jvm.Cond.code ({ cls := "com/example/bindwick/bindwick/Attribute", name := "lambda$new$0", desc := "(Ljava/lang/String;)[B" } : Jvm.MethodName) prog_25_method_13_code (1 : Nat) (Option.some (Jvm.ClassFile.FieldType.array Jvm.ClassFile.FieldType.byte))).before args0 about1 = true := code_word (m := ⟨8, 3⟩) (meth := k8m3) (c := k8c3) (by decide +kernel) rfl rfl rfl (by decide +kernel)
set_option maxRecDepth 65536 in
theorem w_c14 : (Jvm.Cond.code ({ cls := "java/lang/String", name := "getBytes", desc := "(Ljava/nio/charset/Charset;)[B" } : Jvm.MethodName) jdk_42_method_64_code (2 : Nat) (Option.some (Jvm.ClassFile.FieldType.array Jvm.ClassFile.FieldType.byte))).before args0 about1 = true := code_word (m := ⟨7, 4⟩) (meth := k7m4) (c := k7c4) (by decide +kernel) rfl rfl rfl (by decide +kernel)
set_option maxRecDepth 65536 in
theorem w_c15 : (Jvm.Cond.code ({ cls := "java/lang/String", name := "coder", desc := "()B" } : Jvm.MethodName) jdk_42_method_152_code (1 : Nat) (Option.some Jvm.ClassFile.FieldType.byte)).before args0 about1 = true := code_word (m := ⟨7, 6⟩) (meth := k7m6) (c := k7c6) (by decide +kernel) rfl rfl rfl (by decide +kernel)
set_option maxRecDepth 65536 in
theorem w_c16 : (Jvm.Cond.code ({ cls := "java/lang/String", name := "encode", desc := "(Ljava/nio/charset/Charset;B[B)[B" } : Jvm.MethodName) jdk_42_method_18_code (3 : Nat) (Option.some (Jvm.ClassFile.FieldType.array Jvm.ClassFile.FieldType.byte))).before args0 about1 = true := code_word (m := ⟨7, 2⟩) (meth := k7m2) (c := k7c2) (by decide +kernel) rfl rfl rfl (by decide +kernel)
set_option maxRecDepth 65536 in
theorem w_c17 : (Jvm.Cond.code ({ cls := "java/lang/String", name := "encodeUTF8", desc := "(B[BZ)[B" } : Jvm.MethodName) jdk_42_method_46_code (9 : Nat) (Option.some (Jvm.ClassFile.FieldType.array Jvm.ClassFile.FieldType.byte))).before args0 about1 = true := code_word (m := ⟨7, 3⟩) (meth := k7m3) (c := k7c3) (by decide +kernel) rfl rfl rfl (by decide +kernel)
set_option maxRecDepth 65536 in
theorem w_c18 : (Jvm.Cond.code ({ cls := "java/lang/StringCoding", name := "hasNegatives", desc := "([BII)Z" } : Jvm.MethodName) jdk_123_method_2_code (3 : Nat) (Option.some Jvm.ClassFile.FieldType.boolean)).before args0 about1 = true := code_word (m := ⟨19, 1⟩) (meth := k19m1) (c := k19c1) (by decide +kernel) rfl rfl rfl (by decide +kernel)
set_option maxRecDepth 65536 in
theorem w_c19 : (Jvm.Cond.code ({ cls := "java/lang/StringCoding", name := "countPositives", desc := "([BII)I" } : Jvm.MethodName) jdk_123_method_3_code (5 : Nat) (Option.some Jvm.ClassFile.FieldType.int)).before args0 about1 = true := code_word (m := ⟨19, 2⟩) (meth := k19m2) (c := k19c2) (by decide +kernel) rfl rfl rfl (by decide +kernel)
set_option maxRecDepth 65536 in
theorem w_c20 : (Jvm.Cond.code ({ cls := "com/example/bindwick/bindwick/AttributeGetValueByteArraysPinLaw", name := "same", desc := "([BICC)Z" } : Jvm.MethodName) method_7_code (6 : Nat) (Option.some Jvm.ClassFile.FieldType.boolean)).before args0 about1 = true := code_word (m := ⟨1, 6⟩) (meth := k1m6) (c := k1c6) (by decide +kernel) rfl rfl rfl (by decide +kernel)
set_option maxRecDepth 65536 in
theorem w_c21 : (Jvm.Cond.code ({ cls := "com/example/bindwick/bindwick/AttributeGetValueByteArraysPinLaw", name := "spoil", desc := "([B)V" } : Jvm.MethodName) method_4_code (1 : Nat) (Option.none : Option Jvm.ClassFile.FieldType)).before args0 about1 = true := code_word (m := ⟨1, 3⟩) (meth := k1m3) (c := k1c3) (by decide +kernel) rfl rfl rfl (by decide +kernel)
set_option maxRecDepth 65536 in
theorem w_c22 : (Jvm.Cond.code ({ cls := "com/example/bindwick/bindwick/AttributeGetValueByteArraysPinLaw", name := "put", desc := "([BIC)I" } : Jvm.MethodName) method_6_code (3 : Nat) (Option.some Jvm.ClassFile.FieldType.int)).before args0 about1 = true := code_word (m := ⟨1, 5⟩) (meth := k1m5) (c := k1c5) (by decide +kernel) rfl rfl rfl (by decide +kernel)
set_option maxRecDepth 65536 in
theorem w_c23 : (Jvm.Cond.code ({ cls := "java/lang/StringUTF16", name := "newBytesFor", desc := "(I)[B" } : Jvm.MethodName) jdk_52_method_2_code (1 : Nat) (Option.some (Jvm.ClassFile.FieldType.array Jvm.ClassFile.FieldType.byte))).before args0 about1 = true := code_word (m := ⟨13, 1⟩) (meth := k13m1) (c := k13c1) (by decide +kernel) rfl rfl rfl (by decide +kernel)
set_option maxRecDepth 65536 in
theorem w_c24 : (Jvm.Cond.code ({ cls := "java/lang/StringUTF16", name := "newBytesLength", desc := "(I)I" } : Jvm.MethodName) jdk_52_method_3_code (1 : Nat) (Option.some Jvm.ClassFile.FieldType.int)).before args0 about1 = true := code_word (m := ⟨13, 2⟩) (meth := k13m2) (c := k13c2) (by decide +kernel) rfl rfl rfl (by decide +kernel)
set_option maxRecDepth 65536 in
theorem w_c25 : (Jvm.Cond.code ({ cls := "java/util/Arrays", name := "copyOf", desc := "([BI)[B" } : Jvm.MethodName) jdk_65_method_121_code (3 : Nat) (Option.some (Jvm.ClassFile.FieldType.array Jvm.ClassFile.FieldType.byte))).before args0 about1 = true := code_word (m := ⟨21, 1⟩) (meth := k21m1) (c := k21c1) (by decide +kernel) rfl rfl rfl (by decide +kernel)
set_option maxRecDepth 65536 in
theorem w_c26 : (Jvm.Cond.code ({ cls := "java/lang/Math", name := "min", desc := "(II)I" } : Jvm.MethodName) jdk_29_method_69_code (2 : Nat) (Option.some Jvm.ClassFile.FieldType.int)).before args0 about1 = true := code_word (m := ⟨22, 1⟩) (meth := k22m1) (c := k22c1) (by decide +kernel) rfl rfl rfl (by decide +kernel)
def codes1 : List Jvm.Cond := [Jvm.Cond.code x code maxLocals ret, Jvm.Cond.code ({ cls := "com/example/bindwick/bindwick/AttributeGetValueByteArraysPinLaw", name := "str", desc := "(ICC)Ljava/lang/String;" } : Jvm.MethodName) method_3_code (4 : Nat) (Option.some (Jvm.ClassFile.FieldType.object "java/lang/String")), Jvm.Cond.code ({ cls := "java/lang/String", name := "<init>", desc := "([C)V" } : Jvm.MethodName) jdk_42_method_3_code (2 : Nat) (Option.none : Option Jvm.ClassFile.FieldType), Jvm.Cond.code ({ cls := "java/lang/String", name := "<init>", desc := "([CIILjava/lang/Void;)V" } : Jvm.MethodName) jdk_42_method_149_code (6 : Nat) (Option.none : Option Jvm.ClassFile.FieldType), Jvm.Cond.code ({ cls := "java/lang/Object", name := "<init>", desc := "()V" } : Jvm.MethodName) object_method_1_code (1 : Nat) (Option.none : Option Jvm.ClassFile.FieldType), Jvm.Cond.code ({ cls := "com/example/bindwick/bindwick/Attribute", name := "<init>", desc := "(Ljava/lang/String;[Ljava/lang/String;)V" } : Jvm.MethodName) prog_25_method_1_code (3 : Nat) (Option.none : Option Jvm.ClassFile.FieldType), Jvm.Cond.code ({ cls := "com/example/bindwick/bindwick/LDAPException", name := "requireArgument", desc := "(Ljava/lang/Object;Ljava/lang/String;)Ljava/lang/Object;" } : Jvm.MethodName) prog_72_method_7_code (2 : Nat) (Option.some (Jvm.ClassFile.FieldType.object "java/lang/Object")), Jvm.Cond.code ({ cls := "com/example/bindwick/bindwick/Attribute", name := "toOctets", desc := "([Ljava/lang/Object;Ljava/util/function/Function;)[[B" } : Jvm.MethodName) prog_25_method_4_code (4 : Nat) (Option.some (Jvm.ClassFile.FieldType.array (Jvm.ClassFile.FieldType.array Jvm.ClassFile.FieldType.byte))), Jvm.Cond.code ({ cls := "com/example/bindwick/bindwick/Attribute", name := "getValueByteArrays", desc := "()[[B" } : Jvm.MethodName) prog_25_method_10_code (3 : Nat) (Option.some (Jvm.ClassFile.FieldType.array (Jvm.ClassFile.FieldType.array Jvm.ClassFile.FieldType.byte))), Jvm.Cond.code ({ cls := "com/example/bindwick/bindwick/AttributeGetValueByteArraysPinLaw", name := "all", desc := "([[BIICCICC)Z" } : Jvm.MethodName) method_5_code (8 : Nat) (Option.some Jvm.ClassFile.FieldType.boolean), Jvm.Cond.code ({ cls := "java/lang/StringUTF16", name := "compress", desc := "([CII)[B" } : Jvm.MethodName) jdk_52_method_16_code (6 : Nat) (Option.some (Jvm.ClassFile.FieldType.array Jvm.ClassFile.FieldType.byte)), Jvm.Cond.code ({ cls := "java/lang/StringUTF16", name := "compress", desc := "([CI[BII)I" } : Jvm.MethodName) jdk_52_method_21_code (7 : Nat) (Option.some Jvm.ClassFile.FieldType.int), Jvm.Cond.code ({ cls := "java/lang/StringUTF16", name := "coderFromArrayLen", desc := "([BI)B" } : Jvm.MethodName) jdk_52_method_15_code (2 : Nat) (Option.some Jvm.ClassFile.FieldType.byte), Jvm.Cond.code ({ cls := "com/example/bindwick/bindwick/Attribute", name := "lambda$new$0", desc := "(Ljava/lang/String;)[B" } : Jvm.MethodName) prog_25_method_13_code (1 : Nat) (Option.some (Jvm.ClassFile.FieldType.array Jvm.ClassFile.FieldType.byte)), Jvm.Cond.code ({ cls := "java/lang/String", name := "getBytes", desc := "(Ljava/nio/charset/Charset;)[B" } : Jvm.MethodName) jdk_42_method_64_code (2 : Nat) (Option.some (Jvm.ClassFile.FieldType.array Jvm.ClassFile.FieldType.byte)), Jvm.Cond.code ({ cls := "java/lang/String", name := "coder", desc := "()B" } : Jvm.MethodName) jdk_42_method_152_code (1 : Nat) (Option.some Jvm.ClassFile.FieldType.byte), Jvm.Cond.code ({ cls := "java/lang/String", name := "encode", desc := "(Ljava/nio/charset/Charset;B[B)[B" } : Jvm.MethodName) jdk_42_method_18_code (3 : Nat) (Option.some (Jvm.ClassFile.FieldType.array Jvm.ClassFile.FieldType.byte)), Jvm.Cond.code ({ cls := "java/lang/String", name := "encodeUTF8", desc := "(B[BZ)[B" } : Jvm.MethodName) jdk_42_method_46_code (9 : Nat) (Option.some (Jvm.ClassFile.FieldType.array Jvm.ClassFile.FieldType.byte)), Jvm.Cond.code ({ cls := "java/lang/StringCoding", name := "hasNegatives", desc := "([BII)Z" } : Jvm.MethodName) jdk_123_method_2_code (3 : Nat) (Option.some Jvm.ClassFile.FieldType.boolean), Jvm.Cond.code ({ cls := "java/lang/StringCoding", name := "countPositives", desc := "([BII)I" } : Jvm.MethodName) jdk_123_method_3_code (5 : Nat) (Option.some Jvm.ClassFile.FieldType.int), Jvm.Cond.code ({ cls := "com/example/bindwick/bindwick/AttributeGetValueByteArraysPinLaw", name := "same", desc := "([BICC)Z" } : Jvm.MethodName) method_7_code (6 : Nat) (Option.some Jvm.ClassFile.FieldType.boolean), Jvm.Cond.code ({ cls := "com/example/bindwick/bindwick/AttributeGetValueByteArraysPinLaw", name := "spoil", desc := "([B)V" } : Jvm.MethodName) method_4_code (1 : Nat) (Option.none : Option Jvm.ClassFile.FieldType), Jvm.Cond.code ({ cls := "com/example/bindwick/bindwick/AttributeGetValueByteArraysPinLaw", name := "put", desc := "([BIC)I" } : Jvm.MethodName) method_6_code (3 : Nat) (Option.some Jvm.ClassFile.FieldType.int), Jvm.Cond.code ({ cls := "java/lang/StringUTF16", name := "newBytesFor", desc := "(I)[B" } : Jvm.MethodName) jdk_52_method_2_code (1 : Nat) (Option.some (Jvm.ClassFile.FieldType.array Jvm.ClassFile.FieldType.byte)), Jvm.Cond.code ({ cls := "java/lang/StringUTF16", name := "newBytesLength", desc := "(I)I" } : Jvm.MethodName) jdk_52_method_3_code (1 : Nat) (Option.some Jvm.ClassFile.FieldType.int), Jvm.Cond.code ({ cls := "java/util/Arrays", name := "copyOf", desc := "([BI)[B" } : Jvm.MethodName) jdk_65_method_121_code (3 : Nat) (Option.some (Jvm.ClassFile.FieldType.array Jvm.ClassFile.FieldType.byte)), Jvm.Cond.code ({ cls := "java/lang/Math", name := "min", desc := "(II)I" } : Jvm.MethodName) jdk_29_method_69_code (2 : Nat) (Option.some Jvm.ClassFile.FieldType.int)]
set_option maxRecDepth 65536 in
theorem codes_eq : words1.filter isCode = codes1 := rfl
theorem w_codes : ∀ c ∈ words1.filter isCode, c.before args0 about1 = true := by
  rw [codes_eq]
  intro c hc
  simp only [codes1, List.mem_cons, List.not_mem_nil, or_false] at hc
  rcases hc with rfl | rfl | rfl | rfl | rfl | rfl | rfl | rfl | rfl | rfl | rfl | rfl | rfl | rfl | rfl | rfl | rfl | rfl | rfl | rfl | rfl | rfl | rfl | rfl | rfl | rfl | rfl
  · exact w_c0
  · exact w_c1
  · exact w_c2
  · exact w_c3
  · exact w_c4
  · exact w_c5
  · exact w_c6
  · exact w_c7
  · exact w_c8
  · exact w_c9
  · exact w_c10
  · exact w_c11
  · exact w_c12
  · exact w_c13
  · exact w_c14
  · exact w_c15
  · exact w_c16
  · exact w_c17
  · exact w_c18
  · exact w_c19
  · exact w_c20
  · exact w_c21
  · exact w_c22
  · exact w_c23
  · exact w_c24
  · exact w_c25
  · exact w_c26
set_option maxRecDepth 65536 in
theorem w_t1 : (words1.take 24).all (fun c => isCode c || c.before args0 about1) = true := by decide +kernel
set_option maxRecDepth 65536 in
theorem w_t2 : ((words1.drop 24).take 24).all (fun c => isCode c || c.before args0 about1) = true := by decide +kernel
set_option maxRecDepth 65536 in
theorem w_t3 : (((words1.drop 24).drop 24).take 24).all (fun c => isCode c || c.before args0 about1) = true := by decide +kernel
set_option maxRecDepth 65536 in
theorem w_t4 : ((((words1.drop 24).drop 24).drop 24).take 24).all (fun c => isCode c || c.before args0 about1) = true := by decide +kernel
set_option maxRecDepth 65536 in
theorem w_t5 : (((((words1.drop 24).drop 24).drop 24).drop 24).take 24).all (fun c => isCode c || c.before args0 about1) = true := by decide +kernel
set_option maxRecDepth 65536 in
theorem w_t6 : (((((words1.drop 24).drop 24).drop 24).drop 24).drop 24).all (fun c => isCode c || c.before args0 about1) = true := by decide +kernel
theorem w_tables : (allAtoms (Jvm.Cond.code x code maxLocals ret :: tables_1)).before args0 about1 = true := by
  rw [allAtoms_all]
  show words1.all (fun c => c.before args0 about1) = true
  refine all_split ?_ w_codes
  rw [← List.take_append_drop 24 words1, List.all_append, w_t1, ← List.take_append_drop 24 (words1.drop 24), List.all_append, w_t2, ← List.take_append_drop 24 ((words1.drop 24).drop 24), List.all_append, w_t3, ← List.take_append_drop 24 (((words1.drop 24).drop 24).drop 24), List.all_append, w_t4, ← List.take_append_drop 24 ((((words1.drop 24).drop 24).drop 24).drop 24), List.all_append, w_t5, w_t6]
  rfl
set_option maxRecDepth 65536 in
theorem w_rest : rest_1_c.before args0 about1 = true := by decide +kernel
set_option maxRecDepth 65536 in
theorem w_case : (Jvm.Cond.and given_1 narrow_1).before args0 about1 = true := by decide +kernel
set_option maxRecDepth 65536 in
theorem w_consts : constsHeld consts_1 about1 := Jvm.Lit.constsHeldB_iff.mp (by decide +kernel)
theorem w_applies : (headSpec (Jvm.Cond.code x code maxLocals ret :: tables_1) room_1).applies x e0.platform about1 = true :=
  (Spec.applies_iff w_frames).mpr ⟨w_running, w_runnable, w_alone, w_named, w_hears, w_ripe, w_room, w_tables⟩
theorem atStart : AtStart classFile x code maxLocals ret World_1 tables_1 room_1 Calls_1 rest_1 Pre_1 launch0 p0 e0 about1 theMethod args0 below0 :=
  ⟨lists_1, trivial, launch0.admits_env _ _ _, launch0.least_env, fairChoices_fair.cas, fairChoices_fair.clock, w_frames, w_args, w_heap, w_applies, ⟨w_consts, trivial⟩, w_rest, w_case⟩
end start1
theorem witness_1 : WitnessClaimed_1 := ⟨start1.p0, start1.e0, start1.about1, start1.theMethod, start1.args0, start1.below0, start1.atStart⟩
end Jvm.Pilot.@@N@@
