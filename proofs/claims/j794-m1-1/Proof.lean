import JvmDerived
import JvmDerived.Pilot.@@N@@Statement
import JvmDerived.Pilot.@@N@@Code
set_option linter.unusedVariables false
set_option linter.unusedSimpArgs false
namespace Jvm.Pilot.@@N@@
open Jvm Jvm.ClassFile Sem Op Lib Jvm.Free Jvm.Stand Jvm.LawKit Jvm.RoadKit Bundle Jvm.Pilot.@@N@@.Jvm.D
/-! ## the shared layer: own_Go and its laws -/
def Go (p : Program) (e : Env) (below : List Frame) (P : State → Outcome → Prop) (T : State) (g : JFrame) : Prop := ∃ t o, Steps p.tables e below (T.setTop g) t ∧ t.status = .running ∧ Ended t below o ∧ P t o
def RP (s : State) (k n : Nat) (Q : Option Value → Heap → List Loc → Prop) (t : State) (o : Outcome) : Prop := ∃ v L, o = .returned v ∧ Q v t.heap L ∧ FrameEnd s o t L k n
theorem wd {a0 : Array Value} {Z : State} (hw : ∀ d ∈ tables_1, d.before a0 Z = true) (k : Nat) {d : Jvm.Cond} (h : tables_1[k]? = some d) : d.before a0 Z = true := hw _ (List.mem_of_getElem? h)
section OwnGo
variable {p : Program} {l : Launch} {e : Env} {R : Room} {s : State} {m : MethodId} {args : Array Value} {below : List Frame} {meth : Method} {c : Code} {T : State} {locs : List Loc} {cells slots : Nat} {P : State → Outcome → Prop} {pc : Nat} {Ls : Array Slot} {st : List Value} {Z : State} {a0 : Array Value} {h : Heap}
theorem Go.stp {T' : State} {g g' : JFrame} (G : Go p e below P T' g') (k : ∀ t, Steps p.tables e below (T'.setTop g') t → Steps p.tables e below (T.setTop g) t) : Go p e below P T g := by
  obtain ⟨t, o, h, r⟩ := G
  exact ⟨t, o, k t h, r⟩
theorem Go.cast {g g' : JFrame} (q : g = g') (G : Go p e below P T g') : Go p e below P T g := q ▸ G
theorem g_iload (X : Stand p l e R s m args below meth c T locs cells slots) (hx : p.tables.exec = Jvm.exec) {k : Nat} {v : Int32} (hl : Ls[k]? = some (.val (.int v))) (hd : decode c.code pc = .ok (.iload k, 2)) (pc' : Nat) (hp : pc + 2 = pc') (G : Go p e below P T (mkF m pc' Ls (.int v :: st))) : Go p e below P T (mkF m pc Ls st) := by
  subst hp
  exact G.stp fun _ h => XS.iload X.here hx rfl hd hl h
theorem g_iloadN (X : Stand p l e R s m args below meth c T locs cells slots) (hx : p.tables.exec = Jvm.exec) {k : Fin 4} {v : Int32} (hl : Ls[k.val]? = some (.val (.int v))) (hd : decode c.code pc = .ok (.iload_n k, 1)) (pc' : Nat) (hp : pc + 1 = pc') (G : Go p e below P T (mkF m pc' Ls (.int v :: st))) : Go p e below P T (mkF m pc Ls st) := by
  subst hp
  exact G.stp fun _ h => XS.iloadN X.here hx rfl hd hl h
theorem g_istore (X : Stand p l e R s m args below meth c T locs cells slots) (hx : p.tables.exec = Jvm.exec) {k : Nat} {v : Int32} (l' : Array Slot) (hl : storeLocals Ls k (.int v) = some l') (hd : decode c.code pc = .ok (.istore k, 2)) (pc' : Nat) (hp : pc + 2 = pc') (G : Go p e below P T (mkF m pc' l' st)) : Go p e below P T (mkF m pc Ls (.int v :: st)) := by
  subst hp
  exact G.stp fun _ h => XS.istore X.here hx rfl hd rfl hl h
theorem g_istoreN (X : Stand p l e R s m args below meth c T locs cells slots) (hx : p.tables.exec = Jvm.exec) {k : Fin 4} {v : Int32} (l' : Array Slot) (hl : storeLocals Ls k.val (.int v) = some l') (hd : decode c.code pc = .ok (.istore_n k, 1)) (pc' : Nat) (hp : pc + 1 = pc') (G : Go p e below P T (mkF m pc' l' st)) : Go p e below P T (mkF m pc Ls (.int v :: st)) := by
  subst hp
  exact G.stp fun _ h => XS.istoreN X.here hx rfl hd rfl hl h
theorem g_lload (X : Stand p l e R s m args below meth c T locs cells slots) (hx : p.tables.exec = Jvm.exec) {k : Nat} {v : Int64} (hl : Ls[k]? = some (.val (.long v))) (hd : decode c.code pc = .ok (.lload k, 2)) (pc' : Nat) (hp : pc + 2 = pc') (G : Go p e below P T (mkF m pc' Ls (.long v :: st))) : Go p e below P T (mkF m pc Ls st) := by
  subst hp
  exact G.stp fun _ h => XT.lload X.here hx rfl hd hl h
theorem g_lloadN (X : Stand p l e R s m args below meth c T locs cells slots) (hx : p.tables.exec = Jvm.exec) {k : Fin 4} {v : Int64} (hl : Ls[k.val]? = some (.val (.long v))) (hd : decode c.code pc = .ok (.lload_n k, 1)) (pc' : Nat) (hp : pc + 1 = pc') (G : Go p e below P T (mkF m pc' Ls (.long v :: st))) : Go p e below P T (mkF m pc Ls st) := by
  subst hp
  exact G.stp fun _ h => XT.lloadN X.here hx rfl hd hl h
theorem g_lstore (X : Stand p l e R s m args below meth c T locs cells slots) (hx : p.tables.exec = Jvm.exec) {k : Nat} {v : Int64} (l' : Array Slot) (hl : storeLocals Ls k (.long v) = some l') (hd : decode c.code pc = .ok (.lstore k, 2)) (pc' : Nat) (hp : pc + 2 = pc') (G : Go p e below P T (mkF m pc' l' st)) : Go p e below P T (mkF m pc Ls (.long v :: st)) := by
  subst hp
  exact G.stp fun _ h => XT.lstore X.here hx rfl hd rfl hl h
theorem g_lstoreN (X : Stand p l e R s m args below meth c T locs cells slots) (hx : p.tables.exec = Jvm.exec) {k : Fin 4} {v : Int64} (l' : Array Slot) (hl : storeLocals Ls k.val (.long v) = some l') (hd : decode c.code pc = .ok (.lstore_n k, 1)) (pc' : Nat) (hp : pc + 1 = pc') (G : Go p e below P T (mkF m pc' l' st)) : Go p e below P T (mkF m pc Ls (.long v :: st)) := by
  subst hp
  exact G.stp fun _ h => XT.lstoreN X.here hx rfl hd rfl hl h
theorem g_aload (X : Stand p l e R s m args below meth c T locs cells slots) (hx : p.tables.exec = Jvm.exec) {k : Nat} {v : Value} (hl : Ls[k]? = some (.val v)) (hv : v.isRef = true) (hd : decode c.code pc = .ok (.aload k, 2)) (pc' : Nat) (hp : pc + 2 = pc') (G : Go p e below P T (mkF m pc' Ls (v :: st))) : Go p e below P T (mkF m pc Ls st) := by
  subst hp
  exact G.stp fun _ h => XS.aload X.here hx rfl hd hl hv h
theorem g_aloadN (X : Stand p l e R s m args below meth c T locs cells slots) (hx : p.tables.exec = Jvm.exec) {k : Fin 4} {v : Value} (hl : Ls[k.val]? = some (.val v)) (hv : v.isRef = true) (hd : decode c.code pc = .ok (.aload_n k, 1)) (pc' : Nat) (hp : pc + 1 = pc') (G : Go p e below P T (mkF m pc' Ls (v :: st))) : Go p e below P T (mkF m pc Ls st) := by
  subst hp
  exact G.stp fun _ h => XS.aloadN X.here hx rfl hd hl hv h
theorem g_astore (X : Stand p l e R s m args below meth c T locs cells slots) (hx : p.tables.exec = Jvm.exec) {k : Nat} {v : Value} (l' : Array Slot) (hv : v.isRef = true) (hl : storeLocals Ls k v = some l') (hd : decode c.code pc = .ok (.astore k, 2)) (pc' : Nat) (hp : pc + 2 = pc') (G : Go p e below P T (mkF m pc' l' st)) : Go p e below P T (mkF m pc Ls (v :: st)) := by
  subst hp
  exact G.stp fun _ h => XS.astore X.here hx rfl hd rfl hv hl h
theorem g_astoreN (X : Stand p l e R s m args below meth c T locs cells slots) (hx : p.tables.exec = Jvm.exec) {k : Fin 4} {v : Value} (l' : Array Slot) (hv : v.isRef = true) (hl : storeLocals Ls k.val v = some l') (hd : decode c.code pc = .ok (.astore_n k, 1)) (pc' : Nat) (hp : pc + 1 = pc') (G : Go p e below P T (mkF m pc' l' st)) : Go p e below P T (mkF m pc Ls (v :: st)) := by
  subst hp
  exact G.stp fun _ h => XS.astoreN X.here hx rfl hd rfl hv hl h
theorem g_iconst (X : Stand p l e R s m args below meth c T locs cells slots) (hx : p.tables.exec = Jvm.exec) {i : Int} (v : Int32) (hv : Int32.ofInt i = v) (hd : decode c.code pc = .ok (.iconst i, 1)) (pc' : Nat) (hp : pc + 1 = pc') (G : Go p e below P T (mkF m pc' Ls (.int v :: st))) : Go p e below P T (mkF m pc Ls st) := by
  subst hp
  exact G.stp fun _ h => XT.iconstV X.here hx rfl v hd hv h
theorem g_bipush (X : Stand p l e R s m args below meth c T locs cells slots) (hx : p.tables.exec = Jvm.exec) {i : Int} (v : Int32) (hv : (Int8.ofInt i).toInt32 = v) (hd : decode c.code pc = .ok (.bipush i, 2)) (pc' : Nat) (hp : pc + 2 = pc') (G : Go p e below P T (mkF m pc' Ls (.int v :: st))) : Go p e below P T (mkF m pc Ls st) := by
  subst hp
  exact G.stp fun _ h => XT.bipushV X.here hx rfl v hd hv h
theorem g_sipush (X : Stand p l e R s m args below meth c T locs cells slots) (hx : p.tables.exec = Jvm.exec) {i : Int} (v : Int32) (hv : (Int16.ofInt i).toInt32 = v) (hd : decode c.code pc = .ok (.sipush i, 3)) (pc' : Nat) (hp : pc + 3 = pc') (G : Go p e below P T (mkF m pc' Ls (.int v :: st))) : Go p e below P T (mkF m pc Ls st) := by
  subst hp
  exact G.stp fun _ h => XT.sipushV X.here hx rfl v hd hv h
theorem g_lconst (X : Stand p l e R s m args below meth c T locs cells slots) (hx : p.tables.exec = Jvm.exec) {i : Fin 2} (v : Int64) (hv : Int64.ofNat i = v) (hd : decode c.code pc = .ok (.lconst i, 1)) (pc' : Nat) (hp : pc + 1 = pc') (G : Go p e below P T (mkF m pc' Ls (.long v :: st))) : Go p e below P T (mkF m pc Ls st) := by
  subst hp
  exact G.stp fun _ h => XT.lconstV X.here hx rfl v hd hv h
theorem g_aconst_null (X : Stand p l e R s m args below meth c T locs cells slots) (hx : p.tables.exec = Jvm.exec)  (hd : decode c.code pc = .ok (.aconst_null, 1)) (pc' : Nat) (hp : pc + 1 = pc') (G : Go p e below P T (mkF m pc' Ls (.null :: st))) : Go p e below P T (mkF m pc Ls st) := by
  subst hp
  exact G.stp fun _ h => XS.aconstNull X.here hx rfl hd h
theorem g_iadd (X : Stand p l e R s m args below meth c T locs cells slots) (hx : p.tables.exec = Jvm.exec) {x y : Int32} (hd : decode c.code pc = .ok (.iadd, 1)) (pc' : Nat) (hp : pc + 1 = pc') (G : Go p e below P T (mkF m pc' Ls (.int (x + y) :: st))) : Go p e below P T (mkF m pc Ls (.int y :: .int x :: st)) := by
  subst hp
  exact G.stp fun _ h => XS.iadd X.here hx rfl hd rfl h
theorem g_ladd (X : Stand p l e R s m args below meth c T locs cells slots) (hx : p.tables.exec = Jvm.exec) {x y : Int64} (hd : decode c.code pc = .ok (.ladd, 1)) (pc' : Nat) (hp : pc + 1 = pc') (G : Go p e below P T (mkF m pc' Ls (.long (x + y) :: st))) : Go p e below P T (mkF m pc Ls (.long y :: .long x :: st)) := by
  subst hp
  exact G.stp fun _ h => XT.ladd X.here hx rfl hd rfl h
theorem g_isub (X : Stand p l e R s m args below meth c T locs cells slots) (hx : p.tables.exec = Jvm.exec) {x y : Int32} (hd : decode c.code pc = .ok (.isub, 1)) (pc' : Nat) (hp : pc + 1 = pc') (G : Go p e below P T (mkF m pc' Ls (.int (x - y) :: st))) : Go p e below P T (mkF m pc Ls (.int y :: .int x :: st)) := by
  subst hp
  exact G.stp fun _ h => XS.isub X.here hx rfl hd rfl h
theorem g_lsub (X : Stand p l e R s m args below meth c T locs cells slots) (hx : p.tables.exec = Jvm.exec) {x y : Int64} (hd : decode c.code pc = .ok (.lsub, 1)) (pc' : Nat) (hp : pc + 1 = pc') (G : Go p e below P T (mkF m pc' Ls (.long (x - y) :: st))) : Go p e below P T (mkF m pc Ls (.long y :: .long x :: st)) := by
  subst hp
  exact G.stp fun _ h => XT.lsub X.here hx rfl hd rfl h
theorem g_imul (X : Stand p l e R s m args below meth c T locs cells slots) (hx : p.tables.exec = Jvm.exec) {x y : Int32} (hd : decode c.code pc = .ok (.imul, 1)) (pc' : Nat) (hp : pc + 1 = pc') (G : Go p e below P T (mkF m pc' Ls (.int (x * y) :: st))) : Go p e below P T (mkF m pc Ls (.int y :: .int x :: st)) := by
  subst hp
  exact G.stp fun _ h => XS.imul X.here hx rfl hd rfl h
theorem g_lmul (X : Stand p l e R s m args below meth c T locs cells slots) (hx : p.tables.exec = Jvm.exec) {x y : Int64} (hd : decode c.code pc = .ok (.lmul, 1)) (pc' : Nat) (hp : pc + 1 = pc') (G : Go p e below P T (mkF m pc' Ls (.long (x * y) :: st))) : Go p e below P T (mkF m pc Ls (.long y :: .long x :: st)) := by
  subst hp
  exact G.stp fun _ h => XT.lmul X.here hx rfl hd rfl h
theorem g_iand (X : Stand p l e R s m args below meth c T locs cells slots) (hx : p.tables.exec = Jvm.exec) {x y : Int32} (hd : decode c.code pc = .ok (.iand, 1)) (pc' : Nat) (hp : pc + 1 = pc') (G : Go p e below P T (mkF m pc' Ls (.int (x &&& y) :: st))) : Go p e below P T (mkF m pc Ls (.int y :: .int x :: st)) := by
  subst hp
  exact G.stp fun _ h => XS.iand X.here hx rfl hd rfl h
theorem g_land (X : Stand p l e R s m args below meth c T locs cells slots) (hx : p.tables.exec = Jvm.exec) {x y : Int64} (hd : decode c.code pc = .ok (.land, 1)) (pc' : Nat) (hp : pc + 1 = pc') (G : Go p e below P T (mkF m pc' Ls (.long (x &&& y) :: st))) : Go p e below P T (mkF m pc Ls (.long y :: .long x :: st)) := by
  subst hp
  exact G.stp fun _ h => XT.land X.here hx rfl hd rfl h
theorem g_ior (X : Stand p l e R s m args below meth c T locs cells slots) (hx : p.tables.exec = Jvm.exec) {x y : Int32} (hd : decode c.code pc = .ok (.ior, 1)) (pc' : Nat) (hp : pc + 1 = pc') (G : Go p e below P T (mkF m pc' Ls (.int (x ||| y) :: st))) : Go p e below P T (mkF m pc Ls (.int y :: .int x :: st)) := by
  subst hp
  exact G.stp fun _ h => XT.ior X.here hx rfl hd rfl h
theorem g_lor (X : Stand p l e R s m args below meth c T locs cells slots) (hx : p.tables.exec = Jvm.exec) {x y : Int64} (hd : decode c.code pc = .ok (.lor, 1)) (pc' : Nat) (hp : pc + 1 = pc') (G : Go p e below P T (mkF m pc' Ls (.long (x ||| y) :: st))) : Go p e below P T (mkF m pc Ls (.long y :: .long x :: st)) := by
  subst hp
  exact G.stp fun _ h => XT.lor X.here hx rfl hd rfl h
theorem g_ixor (X : Stand p l e R s m args below meth c T locs cells slots) (hx : p.tables.exec = Jvm.exec) {x y : Int32} (hd : decode c.code pc = .ok (.ixor, 1)) (pc' : Nat) (hp : pc + 1 = pc') (G : Go p e below P T (mkF m pc' Ls (.int (x ^^^ y) :: st))) : Go p e below P T (mkF m pc Ls (.int y :: .int x :: st)) := by
  subst hp
  exact G.stp fun _ h => XT.ixor X.here hx rfl hd rfl h
theorem g_lxor (X : Stand p l e R s m args below meth c T locs cells slots) (hx : p.tables.exec = Jvm.exec) {x y : Int64} (hd : decode c.code pc = .ok (.lxor, 1)) (pc' : Nat) (hp : pc + 1 = pc') (G : Go p e below P T (mkF m pc' Ls (.long (x ^^^ y) :: st))) : Go p e below P T (mkF m pc Ls (.long y :: .long x :: st)) := by
  subst hp
  exact G.stp fun _ h => XT.lxor X.here hx rfl hd rfl h
theorem g_idiv (X : Stand p l e R s m args below meth c T locs cells slots) (hx : p.tables.exec = Jvm.exec) {x y : Int32} (hy : y ≠ 0) (hd : decode c.code pc = .ok (.idiv, 1)) (pc' : Nat) (hp : pc + 1 = pc') (G : Go p e below P T (mkF m pc' Ls (.int (x / y) :: st))) : Go p e below P T (mkF m pc Ls (.int y :: .int x :: st)) := by
  subst hp
  exact G.stp fun _ h => XS.idiv X.here hx rfl hd rfl hy h
theorem g_irem (X : Stand p l e R s m args below meth c T locs cells slots) (hx : p.tables.exec = Jvm.exec) {x y : Int32} (hy : y ≠ 0) (hd : decode c.code pc = .ok (.irem, 1)) (pc' : Nat) (hp : pc + 1 = pc') (G : Go p e below P T (mkF m pc' Ls (.int (x % y) :: st))) : Go p e below P T (mkF m pc Ls (.int y :: .int x :: st)) := by
  subst hp
  exact G.stp fun _ h => iremM X hx rfl hd rfl hy h
theorem g_ldiv (X : Stand p l e R s m args below meth c T locs cells slots) (hx : p.tables.exec = Jvm.exec) {x y : Int64} (hy : y ≠ 0) (hd : decode c.code pc = .ok (.ldiv, 1)) (pc' : Nat) (hp : pc + 1 = pc') (G : Go p e below P T (mkF m pc' Ls (.long (x / y) :: st))) : Go p e below P T (mkF m pc Ls (.long y :: .long x :: st)) := by
  subst hp
  exact G.stp fun _ h => XT.ldiv X.here hx rfl hd rfl hy h
theorem g_lrem (X : Stand p l e R s m args below meth c T locs cells slots) (hx : p.tables.exec = Jvm.exec) {x y : Int64} (hy : y ≠ 0) (hd : decode c.code pc = .ok (.lrem, 1)) (pc' : Nat) (hp : pc + 1 = pc') (G : Go p e below P T (mkF m pc' Ls (.long (x % y) :: st))) : Go p e below P T (mkF m pc Ls (.long y :: .long x :: st)) := by
  subst hp
  rw [← lrem_mod] at G
  exact G.stp fun _ h => XT.lrem X.here hx rfl hd rfl hy h
theorem g_ishl (X : Stand p l e R s m args below meth c T locs cells slots) (hx : p.tables.exec = Jvm.exec) {x y : Int32} (hd : decode c.code pc = .ok (.ishl, 1)) (pc' : Nat) (hp : pc + 1 = pc') (G : Go p e below P T (mkF m pc' Ls (.int (x <<< (y &&& 31)) :: st))) : Go p e below P T (mkF m pc Ls (.int y :: .int x :: st)) := by
  subst hp
  exact G.stp fun _ h => XT.ishl X.here hx rfl hd rfl h
theorem g_ishr (X : Stand p l e R s m args below meth c T locs cells slots) (hx : p.tables.exec = Jvm.exec) {x y : Int32} (hd : decode c.code pc = .ok (.ishr, 1)) (pc' : Nat) (hp : pc + 1 = pc') (G : Go p e below P T (mkF m pc' Ls (.int (x >>> (y &&& 31)) :: st))) : Go p e below P T (mkF m pc Ls (.int y :: .int x :: st)) := by
  subst hp
  exact G.stp fun _ h => XT.ishr X.here hx rfl hd rfl h
theorem g_iushr (X : Stand p l e R s m args below meth c T locs cells slots) (hx : p.tables.exec = Jvm.exec) {x y : Int32} (hd : decode c.code pc = .ok (.iushr, 1)) (pc' : Nat) (hp : pc + 1 = pc') (G : Go p e below P T (mkF m pc' Ls (.int (XT.ushr x y) :: st))) : Go p e below P T (mkF m pc Ls (.int y :: .int x :: st)) := by
  subst hp
  exact G.stp fun _ h => XT.iushr X.here hx rfl hd rfl h
theorem g_lshl (X : Stand p l e R s m args below meth c T locs cells slots) (hx : p.tables.exec = Jvm.exec) {x : Int64} {y : Int32} (hd : decode c.code pc = .ok (.lshl, 1)) (pc' : Nat) (hp : pc + 1 = pc') (G : Go p e below P T (mkF m pc' Ls (.long (x <<< (y &&& 0x3f).toInt64) :: st))) : Go p e below P T (mkF m pc Ls (.int y :: .long x :: st)) := by
  subst hp
  exact G.stp fun _ h => XS.lshl X.here hx rfl hd rfl h
theorem g_lshr (X : Stand p l e R s m args below meth c T locs cells slots) (hx : p.tables.exec = Jvm.exec) {x : Int64} {y : Int32} (hd : decode c.code pc = .ok (.lshr, 1)) (pc' : Nat) (hp : pc + 1 = pc') (G : Go p e below P T (mkF m pc' Ls (.long (x >>> (y &&& 0x3f).toInt64) :: st))) : Go p e below P T (mkF m pc Ls (.int y :: .long x :: st)) := by
  subst hp
  exact G.stp fun _ h => XS.lshr X.here hx rfl hd rfl h
theorem g_lushr (X : Stand p l e R s m args below meth c T locs cells slots) (hx : p.tables.exec = Jvm.exec) {x : Int64} {y : Int32} (hd : decode c.code pc = .ok (.lushr, 1)) (pc' : Nat) (hp : pc + 1 = pc') (G : Go p e below P T (mkF m pc' Ls (.long (XT.ushrL x y) :: st))) : Go p e below P T (mkF m pc Ls (.int y :: .long x :: st)) := by
  subst hp
  exact G.stp fun _ h => XT.lushr X.here hx rfl hd rfl h
theorem g_ineg (X : Stand p l e R s m args below meth c T locs cells slots) (hx : p.tables.exec = Jvm.exec) {x : Int32} (hd : decode c.code pc = .ok (.ineg, 1)) (pc' : Nat) (hp : pc + 1 = pc') (G : Go p e below P T (mkF m pc' Ls (.int (-x) :: st))) : Go p e below P T (mkF m pc Ls (.int x :: st)) := by
  subst hp
  exact G.stp fun _ h => XS.ineg X.here hx rfl hd rfl h
theorem g_i2l (X : Stand p l e R s m args below meth c T locs cells slots) (hx : p.tables.exec = Jvm.exec) {x : Int32} (hd : decode c.code pc = .ok (.i2l, 1)) (pc' : Nat) (hp : pc + 1 = pc') (G : Go p e below P T (mkF m pc' Ls (.long x.toInt64 :: st))) : Go p e below P T (mkF m pc Ls (.int x :: st)) := by
  subst hp
  exact G.stp fun _ h => XT.i2l X.here hx rfl hd rfl h
theorem g_l2i (X : Stand p l e R s m args below meth c T locs cells slots) (hx : p.tables.exec = Jvm.exec) {x : Int64} (hd : decode c.code pc = .ok (.l2i, 1)) (pc' : Nat) (hp : pc + 1 = pc') (G : Go p e below P T (mkF m pc' Ls (.int x.toInt32 :: st))) : Go p e below P T (mkF m pc Ls (.long x :: st)) := by
  subst hp
  exact G.stp fun _ h => XT.l2i X.here hx rfl hd rfl h
theorem g_i2b (X : Stand p l e R s m args below meth c T locs cells slots) (hx : p.tables.exec = Jvm.exec) {x : Int32} (hd : decode c.code pc = .ok (.i2b, 1)) (pc' : Nat) (hp : pc + 1 = pc') (G : Go p e below P T (mkF m pc' Ls (.int x.toInt8.toInt32 :: st))) : Go p e below P T (mkF m pc Ls (.int x :: st)) := by
  subst hp
  exact G.stp fun _ h => XT.i2b X.here hx rfl hd rfl h
theorem g_i2s (X : Stand p l e R s m args below meth c T locs cells slots) (hx : p.tables.exec = Jvm.exec) {x : Int32} (hd : decode c.code pc = .ok (.i2s, 1)) (pc' : Nat) (hp : pc + 1 = pc') (G : Go p e below P T (mkF m pc' Ls (.int x.toInt16.toInt32 :: st))) : Go p e below P T (mkF m pc Ls (.int x :: st)) := by
  subst hp
  exact G.stp fun _ h => XT.i2s X.here hx rfl hd rfl h
theorem g_i2c (X : Stand p l e R s m args below meth c T locs cells slots) (hx : p.tables.exec = Jvm.exec) {x : Int32} (hd : decode c.code pc = .ok (.i2c, 1)) (pc' : Nat) (hp : pc + 1 = pc') (G : Go p e below P T (mkF m pc' Ls (.int x.toUInt32.toUInt16.toUInt32.toInt32 :: st))) : Go p e below P T (mkF m pc Ls (.int x :: st)) := by
  subst hp
  exact G.stp fun _ h => XT.i2c X.here hx rfl hd rfl h
theorem g_pop (X : Stand p l e R s m args below meth c T locs cells slots) (hx : p.tables.exec = Jvm.exec) {x : Value} (hc : x.category = 1) (hd : decode c.code pc = .ok (.pop, 1)) (pc' : Nat) (hp : pc + 1 = pc') (G : Go p e below P T (mkF m pc' Ls st)) : Go p e below P T (mkF m pc Ls (x :: st)) := by
  subst hp
  exact G.stp fun _ h => XT.pop X.here hx rfl hd rfl hc h
theorem g_dup (X : Stand p l e R s m args below meth c T locs cells slots) (hx : p.tables.exec = Jvm.exec) {x : Value} (hc : x.category = 1) (hd : decode c.code pc = .ok (.dup, 1)) (pc' : Nat) (hp : pc + 1 = pc') (G : Go p e below P T (mkF m pc' Ls (x :: x :: st))) : Go p e below P T (mkF m pc Ls (x :: st)) := by
  subst hp
  exact G.stp fun _ h => XS.dup X.here hx rfl hd rfl hc h
theorem g_dup_x1 (X : Stand p l e R s m args below meth c T locs cells slots) (hx : p.tables.exec = Jvm.exec) {x y : Value} (hc : x.category = 1) (hc' : y.category = 1) (hd : decode c.code pc = .ok (.dup_x1, 1)) (pc' : Nat) (hp : pc + 1 = pc') (G : Go p e below P T (mkF m pc' Ls (x :: y :: x :: st))) : Go p e below P T (mkF m pc Ls (x :: y :: st)) := by
  subst hp
  exact G.stp fun _ h => XT.dupX1 X.here hx rfl hd rfl hc hc' h
theorem g_dup2 (X : Stand p l e R s m args below meth c T locs cells slots) (hx : p.tables.exec = Jvm.exec) {x y : Value} (hc : x.category = 1) (hc' : y.category = 1) (hd : decode c.code pc = .ok (.dup2, 1)) (pc' : Nat) (hp : pc + 1 = pc') (G : Go p e below P T (mkF m pc' Ls (x :: y :: x :: y :: st))) : Go p e below P T (mkF m pc Ls (x :: y :: st)) := by
  subst hp
  exact G.stp fun _ h => XT.dup2 X.here hx rfl hd rfl hc hc' h
theorem g_iinc (X : Stand p l e R s m args below meth c T locs cells slots) (hx : p.tables.exec = Jvm.exec) {k : Nat} {cst : Int} {x : Int32} (v : Int32) (hv : Int32.ofInt cst = v) (hl : Ls[k]? = some (.val (.int x))) (l' : Array Slot) (hl' : storeLocals Ls k (.int (x + v)) = some l') (hd : decode c.code pc = .ok (.iinc k cst, 3)) (pc' : Nat) (hp : pc + 3 = pc') (G : Go p e below P T (mkF m pc' l' st)) : Go p e below P T (mkF m pc Ls st) := by
  subst hp
  exact G.stp fun _ h => XT.iincV X.here hx rfl v hd hv hl hl' h
theorem g_goto (X : Stand p l e R s m args below meth c T locs cells slots) (hx : p.tables.exec = Jvm.exec) {o : Int} (hd : decode c.code pc = .ok (.goto o, 3)) (pc' : Nat) (ho : 0 ≤ (pc : Int) + o) (hp : ((pc : Int) + o).toNat = pc') (G : Go p e below P T (mkF m pc' Ls st)) : Go p e below P T (mkF m pc Ls st) := by
  exact G.stp fun _ h => XS.goto X.here hx rfl rfl hd ho hp h
theorem g_icmp_eq (X : Stand p l e R s m args below meth c T locs cells slots) (hx : p.tables.exec = Jvm.exec) {x y : Int32} {o : Int} (hd : decode c.code pc = .ok (.if_icmp .eq o, 3)) (pcT pcF : Nat) (ho : 0 ≤ (pc : Int) + o) (hT : ((pc : Int) + o).toNat = pcT) (hF : pc + 3 = pcF) (G1 : x = y → Go p e below P T (mkF m pcT Ls st)) (G2 : ¬ x = y → Go p e below P T (mkF m pcF Ls st)) : Go p e below P T (mkF m pc Ls (.int y :: .int x :: st)) := by
  by_cases q : x = y
  · exact (G1 q).stp fun _ h => XS.icmpYes X.here hx rfl rfl hd rfl (XT.ii_eq_t q) ho hT h
  · subst hF
    exact (G2 q).stp fun _ h => XS.icmpNo X.here hx rfl hd rfl (XT.ii_eq_f q) h
theorem g_if_eq (X : Stand p l e R s m args below meth c T locs cells slots) (hx : p.tables.exec = Jvm.exec) {x : Int32} {o : Int} (hd : decode c.code pc = .ok (.ifCond .eq o, 3)) (pcT pcF : Nat) (ho : 0 ≤ (pc : Int) + o) (hT : ((pc : Int) + o).toNat = pcT) (hF : pc + 3 = pcF) (G1 : x = 0 → Go p e below P T (mkF m pcT Ls st)) (G2 : ¬ x = 0 → Go p e below P T (mkF m pcF Ls st)) : Go p e below P T (mkF m pc Ls (.int x :: st)) := by
  by_cases q : x = 0
  · exact (G1 q).stp fun _ h => XS.ifYes X.here hx rfl rfl hd rfl (XT.i0_eq_t q) ho hT h
  · subst hF
    exact (G2 q).stp fun _ h => XS.ifNo X.here hx rfl hd rfl (XT.i0_eq_f q) h
theorem g_lif_eq (X : Stand p l e R s m args below meth c T locs cells slots) (hx : p.tables.exec = Jvm.exec) {x y : Int64} {o : Int} (hd0 : decode c.code pc = .ok (.lcmp, 1)) (pc1 : Nat) (hp1 : pc + 1 = pc1) (hd : decode c.code pc1 = .ok (.ifCond .eq o, 3)) (pcT pcF : Nat) (ho : 0 ≤ (pc1 : Int) + o) (hT : ((pc1 : Int) + o).toNat = pcT) (hF : pc1 + 3 = pcF) (G1 : x = y → Go p e below P T (mkF m pcT Ls st)) (G2 : ¬ x = y → Go p e below P T (mkF m pcF Ls st)) : Go p e below P T (mkF m pc Ls (.long y :: .long x :: st)) := by
  subst hp1
  by_cases q : x = y
  · exact (G1 q).stp fun _ h => XT.lcmp X.here hx rfl hd0 rfl (XS.ifYes X.here hx rfl rfl hd rfl (XT.ll_eq_t q) ho hT h)
  · subst hF
    exact (G2 q).stp fun _ h => XT.lcmp X.here hx rfl hd0 rfl (XS.ifNo X.here hx rfl hd rfl (XT.ll_eq_f q) h)
theorem g_icmp_ne (X : Stand p l e R s m args below meth c T locs cells slots) (hx : p.tables.exec = Jvm.exec) {x y : Int32} {o : Int} (hd : decode c.code pc = .ok (.if_icmp .ne o, 3)) (pcT pcF : Nat) (ho : 0 ≤ (pc : Int) + o) (hT : ((pc : Int) + o).toNat = pcT) (hF : pc + 3 = pcF) (G1 : ¬ x = y → Go p e below P T (mkF m pcT Ls st)) (G2 : x = y → Go p e below P T (mkF m pcF Ls st)) : Go p e below P T (mkF m pc Ls (.int y :: .int x :: st)) := by
  by_cases q : ¬ x = y
  · exact (G1 q).stp fun _ h => XS.icmpYes X.here hx rfl rfl hd rfl (XT.ii_ne_t q) ho hT h
  · subst hF
    exact (G2 (Classical.not_not.mp q)).stp fun _ h => XS.icmpNo X.here hx rfl hd rfl (XT.ii_ne_f (Classical.not_not.mp q)) h
theorem g_if_ne (X : Stand p l e R s m args below meth c T locs cells slots) (hx : p.tables.exec = Jvm.exec) {x : Int32} {o : Int} (hd : decode c.code pc = .ok (.ifCond .ne o, 3)) (pcT pcF : Nat) (ho : 0 ≤ (pc : Int) + o) (hT : ((pc : Int) + o).toNat = pcT) (hF : pc + 3 = pcF) (G1 : ¬ x = 0 → Go p e below P T (mkF m pcT Ls st)) (G2 : x = 0 → Go p e below P T (mkF m pcF Ls st)) : Go p e below P T (mkF m pc Ls (.int x :: st)) := by
  by_cases q : ¬ x = 0
  · exact (G1 q).stp fun _ h => XS.ifYes X.here hx rfl rfl hd rfl (XT.i0_ne_t q) ho hT h
  · subst hF
    exact (G2 (Classical.not_not.mp q)).stp fun _ h => XS.ifNo X.here hx rfl hd rfl (XT.i0_ne_f (Classical.not_not.mp q)) h
theorem g_lif_ne (X : Stand p l e R s m args below meth c T locs cells slots) (hx : p.tables.exec = Jvm.exec) {x y : Int64} {o : Int} (hd0 : decode c.code pc = .ok (.lcmp, 1)) (pc1 : Nat) (hp1 : pc + 1 = pc1) (hd : decode c.code pc1 = .ok (.ifCond .ne o, 3)) (pcT pcF : Nat) (ho : 0 ≤ (pc1 : Int) + o) (hT : ((pc1 : Int) + o).toNat = pcT) (hF : pc1 + 3 = pcF) (G1 : ¬ x = y → Go p e below P T (mkF m pcT Ls st)) (G2 : x = y → Go p e below P T (mkF m pcF Ls st)) : Go p e below P T (mkF m pc Ls (.long y :: .long x :: st)) := by
  subst hp1
  by_cases q : ¬ x = y
  · exact (G1 q).stp fun _ h => XT.lcmp X.here hx rfl hd0 rfl (XS.ifYes X.here hx rfl rfl hd rfl (XT.ll_ne_t q) ho hT h)
  · subst hF
    exact (G2 (Classical.not_not.mp q)).stp fun _ h => XT.lcmp X.here hx rfl hd0 rfl (XS.ifNo X.here hx rfl hd rfl (XT.ll_ne_f (Classical.not_not.mp q)) h)
theorem g_icmp_lt (X : Stand p l e R s m args below meth c T locs cells slots) (hx : p.tables.exec = Jvm.exec) {x y : Int32} {o : Int} (hd : decode c.code pc = .ok (.if_icmp .lt o, 3)) (pcT pcF : Nat) (ho : 0 ≤ (pc : Int) + o) (hT : ((pc : Int) + o).toNat = pcT) (hF : pc + 3 = pcF) (G1 : x < y → Go p e below P T (mkF m pcT Ls st)) (G2 : ¬ x < y → Go p e below P T (mkF m pcF Ls st)) : Go p e below P T (mkF m pc Ls (.int y :: .int x :: st)) := by
  by_cases q : x < y
  · exact (G1 q).stp fun _ h => XS.icmpYes X.here hx rfl rfl hd rfl (XT.ii_lt_t q) ho hT h
  · subst hF
    exact (G2 q).stp fun _ h => XS.icmpNo X.here hx rfl hd rfl (XT.ii_lt_f q) h
theorem g_if_lt (X : Stand p l e R s m args below meth c T locs cells slots) (hx : p.tables.exec = Jvm.exec) {x : Int32} {o : Int} (hd : decode c.code pc = .ok (.ifCond .lt o, 3)) (pcT pcF : Nat) (ho : 0 ≤ (pc : Int) + o) (hT : ((pc : Int) + o).toNat = pcT) (hF : pc + 3 = pcF) (G1 : x < 0 → Go p e below P T (mkF m pcT Ls st)) (G2 : ¬ x < 0 → Go p e below P T (mkF m pcF Ls st)) : Go p e below P T (mkF m pc Ls (.int x :: st)) := by
  by_cases q : x < 0
  · exact (G1 q).stp fun _ h => XS.ifYes X.here hx rfl rfl hd rfl (XT.i0_lt_t q) ho hT h
  · subst hF
    exact (G2 q).stp fun _ h => XS.ifNo X.here hx rfl hd rfl (XT.i0_lt_f q) h
theorem g_lif_lt (X : Stand p l e R s m args below meth c T locs cells slots) (hx : p.tables.exec = Jvm.exec) {x y : Int64} {o : Int} (hd0 : decode c.code pc = .ok (.lcmp, 1)) (pc1 : Nat) (hp1 : pc + 1 = pc1) (hd : decode c.code pc1 = .ok (.ifCond .lt o, 3)) (pcT pcF : Nat) (ho : 0 ≤ (pc1 : Int) + o) (hT : ((pc1 : Int) + o).toNat = pcT) (hF : pc1 + 3 = pcF) (G1 : x < y → Go p e below P T (mkF m pcT Ls st)) (G2 : ¬ x < y → Go p e below P T (mkF m pcF Ls st)) : Go p e below P T (mkF m pc Ls (.long y :: .long x :: st)) := by
  subst hp1
  by_cases q : x < y
  · exact (G1 q).stp fun _ h => XT.lcmp X.here hx rfl hd0 rfl (XS.ifYes X.here hx rfl rfl hd rfl (XT.ll_lt_t q) ho hT h)
  · subst hF
    exact (G2 q).stp fun _ h => XT.lcmp X.here hx rfl hd0 rfl (XS.ifNo X.here hx rfl hd rfl (XT.ll_lt_f q) h)
theorem g_icmp_ge (X : Stand p l e R s m args below meth c T locs cells slots) (hx : p.tables.exec = Jvm.exec) {x y : Int32} {o : Int} (hd : decode c.code pc = .ok (.if_icmp .ge o, 3)) (pcT pcF : Nat) (ho : 0 ≤ (pc : Int) + o) (hT : ((pc : Int) + o).toNat = pcT) (hF : pc + 3 = pcF) (G1 : ¬ x < y → Go p e below P T (mkF m pcT Ls st)) (G2 : x < y → Go p e below P T (mkF m pcF Ls st)) : Go p e below P T (mkF m pc Ls (.int y :: .int x :: st)) := by
  by_cases q : ¬ x < y
  · exact (G1 q).stp fun _ h => XS.icmpYes X.here hx rfl rfl hd rfl (XT.ii_ge_t q) ho hT h
  · subst hF
    exact (G2 (Classical.not_not.mp q)).stp fun _ h => XS.icmpNo X.here hx rfl hd rfl (XT.ii_ge_f (Classical.not_not.mp q)) h
theorem g_if_ge (X : Stand p l e R s m args below meth c T locs cells slots) (hx : p.tables.exec = Jvm.exec) {x : Int32} {o : Int} (hd : decode c.code pc = .ok (.ifCond .ge o, 3)) (pcT pcF : Nat) (ho : 0 ≤ (pc : Int) + o) (hT : ((pc : Int) + o).toNat = pcT) (hF : pc + 3 = pcF) (G1 : ¬ x < 0 → Go p e below P T (mkF m pcT Ls st)) (G2 : x < 0 → Go p e below P T (mkF m pcF Ls st)) : Go p e below P T (mkF m pc Ls (.int x :: st)) := by
  by_cases q : ¬ x < 0
  · exact (G1 q).stp fun _ h => XS.ifYes X.here hx rfl rfl hd rfl (XT.i0_ge_t q) ho hT h
  · subst hF
    exact (G2 (Classical.not_not.mp q)).stp fun _ h => XS.ifNo X.here hx rfl hd rfl (XT.i0_ge_f (Classical.not_not.mp q)) h
theorem g_lif_ge (X : Stand p l e R s m args below meth c T locs cells slots) (hx : p.tables.exec = Jvm.exec) {x y : Int64} {o : Int} (hd0 : decode c.code pc = .ok (.lcmp, 1)) (pc1 : Nat) (hp1 : pc + 1 = pc1) (hd : decode c.code pc1 = .ok (.ifCond .ge o, 3)) (pcT pcF : Nat) (ho : 0 ≤ (pc1 : Int) + o) (hT : ((pc1 : Int) + o).toNat = pcT) (hF : pc1 + 3 = pcF) (G1 : ¬ x < y → Go p e below P T (mkF m pcT Ls st)) (G2 : x < y → Go p e below P T (mkF m pcF Ls st)) : Go p e below P T (mkF m pc Ls (.long y :: .long x :: st)) := by
  subst hp1
  by_cases q : ¬ x < y
  · exact (G1 q).stp fun _ h => XT.lcmp X.here hx rfl hd0 rfl (XS.ifYes X.here hx rfl rfl hd rfl (XT.ll_ge_t q) ho hT h)
  · subst hF
    exact (G2 (Classical.not_not.mp q)).stp fun _ h => XT.lcmp X.here hx rfl hd0 rfl (XS.ifNo X.here hx rfl hd rfl (XT.ll_ge_f (Classical.not_not.mp q)) h)
theorem g_icmp_gt (X : Stand p l e R s m args below meth c T locs cells slots) (hx : p.tables.exec = Jvm.exec) {x y : Int32} {o : Int} (hd : decode c.code pc = .ok (.if_icmp .gt o, 3)) (pcT pcF : Nat) (ho : 0 ≤ (pc : Int) + o) (hT : ((pc : Int) + o).toNat = pcT) (hF : pc + 3 = pcF) (G1 : y < x → Go p e below P T (mkF m pcT Ls st)) (G2 : ¬ y < x → Go p e below P T (mkF m pcF Ls st)) : Go p e below P T (mkF m pc Ls (.int y :: .int x :: st)) := by
  by_cases q : y < x
  · exact (G1 q).stp fun _ h => XS.icmpYes X.here hx rfl rfl hd rfl (XT.ii_gt_t q) ho hT h
  · subst hF
    exact (G2 q).stp fun _ h => XS.icmpNo X.here hx rfl hd rfl (XT.ii_gt_f q) h
theorem g_if_gt (X : Stand p l e R s m args below meth c T locs cells slots) (hx : p.tables.exec = Jvm.exec) {x : Int32} {o : Int} (hd : decode c.code pc = .ok (.ifCond .gt o, 3)) (pcT pcF : Nat) (ho : 0 ≤ (pc : Int) + o) (hT : ((pc : Int) + o).toNat = pcT) (hF : pc + 3 = pcF) (G1 : 0 < x → Go p e below P T (mkF m pcT Ls st)) (G2 : ¬ 0 < x → Go p e below P T (mkF m pcF Ls st)) : Go p e below P T (mkF m pc Ls (.int x :: st)) := by
  by_cases q : 0 < x
  · exact (G1 q).stp fun _ h => XS.ifYes X.here hx rfl rfl hd rfl (XT.i0_gt_t q) ho hT h
  · subst hF
    exact (G2 q).stp fun _ h => XS.ifNo X.here hx rfl hd rfl (XT.i0_gt_f q) h
theorem g_lif_gt (X : Stand p l e R s m args below meth c T locs cells slots) (hx : p.tables.exec = Jvm.exec) {x y : Int64} {o : Int} (hd0 : decode c.code pc = .ok (.lcmp, 1)) (pc1 : Nat) (hp1 : pc + 1 = pc1) (hd : decode c.code pc1 = .ok (.ifCond .gt o, 3)) (pcT pcF : Nat) (ho : 0 ≤ (pc1 : Int) + o) (hT : ((pc1 : Int) + o).toNat = pcT) (hF : pc1 + 3 = pcF) (G1 : y < x → Go p e below P T (mkF m pcT Ls st)) (G2 : ¬ y < x → Go p e below P T (mkF m pcF Ls st)) : Go p e below P T (mkF m pc Ls (.long y :: .long x :: st)) := by
  subst hp1
  by_cases q : y < x
  · exact (G1 q).stp fun _ h => XT.lcmp X.here hx rfl hd0 rfl (XS.ifYes X.here hx rfl rfl hd rfl (XT.ll_gt_t q) ho hT h)
  · subst hF
    exact (G2 q).stp fun _ h => XT.lcmp X.here hx rfl hd0 rfl (XS.ifNo X.here hx rfl hd rfl (XT.ll_gt_f q) h)
theorem g_icmp_le (X : Stand p l e R s m args below meth c T locs cells slots) (hx : p.tables.exec = Jvm.exec) {x y : Int32} {o : Int} (hd : decode c.code pc = .ok (.if_icmp .le o, 3)) (pcT pcF : Nat) (ho : 0 ≤ (pc : Int) + o) (hT : ((pc : Int) + o).toNat = pcT) (hF : pc + 3 = pcF) (G1 : ¬ y < x → Go p e below P T (mkF m pcT Ls st)) (G2 : y < x → Go p e below P T (mkF m pcF Ls st)) : Go p e below P T (mkF m pc Ls (.int y :: .int x :: st)) := by
  by_cases q : ¬ y < x
  · exact (G1 q).stp fun _ h => XS.icmpYes X.here hx rfl rfl hd rfl (XT.ii_le_t q) ho hT h
  · subst hF
    exact (G2 (Classical.not_not.mp q)).stp fun _ h => XS.icmpNo X.here hx rfl hd rfl (XT.ii_le_f (Classical.not_not.mp q)) h
theorem g_if_le (X : Stand p l e R s m args below meth c T locs cells slots) (hx : p.tables.exec = Jvm.exec) {x : Int32} {o : Int} (hd : decode c.code pc = .ok (.ifCond .le o, 3)) (pcT pcF : Nat) (ho : 0 ≤ (pc : Int) + o) (hT : ((pc : Int) + o).toNat = pcT) (hF : pc + 3 = pcF) (G1 : ¬ 0 < x → Go p e below P T (mkF m pcT Ls st)) (G2 : 0 < x → Go p e below P T (mkF m pcF Ls st)) : Go p e below P T (mkF m pc Ls (.int x :: st)) := by
  by_cases q : ¬ 0 < x
  · exact (G1 q).stp fun _ h => XS.ifYes X.here hx rfl rfl hd rfl (XT.i0_le_t q) ho hT h
  · subst hF
    exact (G2 (Classical.not_not.mp q)).stp fun _ h => XS.ifNo X.here hx rfl hd rfl (XT.i0_le_f (Classical.not_not.mp q)) h
theorem g_lif_le (X : Stand p l e R s m args below meth c T locs cells slots) (hx : p.tables.exec = Jvm.exec) {x y : Int64} {o : Int} (hd0 : decode c.code pc = .ok (.lcmp, 1)) (pc1 : Nat) (hp1 : pc + 1 = pc1) (hd : decode c.code pc1 = .ok (.ifCond .le o, 3)) (pcT pcF : Nat) (ho : 0 ≤ (pc1 : Int) + o) (hT : ((pc1 : Int) + o).toNat = pcT) (hF : pc1 + 3 = pcF) (G1 : ¬ y < x → Go p e below P T (mkF m pcT Ls st)) (G2 : y < x → Go p e below P T (mkF m pcF Ls st)) : Go p e below P T (mkF m pc Ls (.long y :: .long x :: st)) := by
  subst hp1
  by_cases q : ¬ y < x
  · exact (G1 q).stp fun _ h => XT.lcmp X.here hx rfl hd0 rfl (XS.ifYes X.here hx rfl rfl hd rfl (XT.ll_le_t q) ho hT h)
  · subst hF
    exact (G2 (Classical.not_not.mp q)).stp fun _ h => XT.lcmp X.here hx rfl hd0 rfl (XS.ifNo X.here hx rfl hd rfl (XT.ll_le_f (Classical.not_not.mp q)) h)
theorem g_acmp_eq (X : Stand p l e R s m args below meth c T locs cells slots) (hx : p.tables.exec = Jvm.exec) {x y : Value} (hx' : x.isRef = true) (hy' : y.isRef = true) {o : Int} (hd : decode c.code pc = .ok (.if_acmp .eq o, 3)) (pcT pcF : Nat) (ho : 0 ≤ (pc : Int) + o) (hT : ((pc : Int) + o).toNat = pcT) (hF : pc + 3 = pcF) (G1 : x = y → Go p e below P T (mkF m pcT Ls st)) (G2 : ¬ x = y → Go p e below P T (mkF m pcF Ls st)) : Go p e below P T (mkF m pc Ls (y :: x :: st)) := by
  by_cases q : x = y
  · exact (G1 q).stp fun _ h => XT.acmpYes X.here hx rfl rfl hd rfl hx' hy' (XT.aa_eq_t q) ho hT h
  · subst hF
    exact (G2 q).stp fun _ h => XT.acmpNo X.here hx rfl hd rfl hx' hy' (XT.aa_eq_f q) h
theorem g_acmp_ne (X : Stand p l e R s m args below meth c T locs cells slots) (hx : p.tables.exec = Jvm.exec) {x y : Value} (hx' : x.isRef = true) (hy' : y.isRef = true) {o : Int} (hd : decode c.code pc = .ok (.if_acmp .ne o, 3)) (pcT pcF : Nat) (ho : 0 ≤ (pc : Int) + o) (hT : ((pc : Int) + o).toNat = pcT) (hF : pc + 3 = pcF) (G1 : ¬ x = y → Go p e below P T (mkF m pcT Ls st)) (G2 : x = y → Go p e below P T (mkF m pcF Ls st)) : Go p e below P T (mkF m pc Ls (y :: x :: st)) := by
  by_cases q : ¬ x = y
  · exact (G1 q).stp fun _ h => XT.acmpYes X.here hx rfl rfl hd rfl hx' hy' (XT.aa_ne_t q) ho hT h
  · subst hF
    exact (G2 (Classical.not_not.mp q)).stp fun _ h => XT.acmpNo X.here hx rfl hd rfl hx' hy' (XT.aa_ne_f (Classical.not_not.mp q)) h
theorem g_ifnull (X : Stand p l e R s m args below meth c T locs cells slots) (hx : p.tables.exec = Jvm.exec) {x : Value} (hx' : x.isRef = true) {o : Int} (hd : decode c.code pc = .ok (.ifnull o, 3)) (pcT pcF : Nat) (ho : 0 ≤ (pc : Int) + o) (hT : ((pc : Int) + o).toNat = pcT) (hF : pc + 3 = pcF) (G1 : x = .null → Go p e below P T (mkF m pcT Ls st)) (G2 : ¬ x = .null → Go p e below P T (mkF m pcF Ls st)) : Go p e below P T (mkF m pc Ls (x :: st)) := by
  by_cases q : x = .null
  · exact (G1 q).stp fun _ h => XT.nullYes X.here hx rfl rfl hd rfl q ho hT h
  · subst hF
    exact (G2 q).stp fun _ h => XT.nullNo X.here hx rfl hd rfl hx' q h
theorem g_ifnonnull (X : Stand p l e R s m args below meth c T locs cells slots) (hx : p.tables.exec = Jvm.exec) {x : Value} (hx' : x.isRef = true) {o : Int} (hd : decode c.code pc = .ok (.ifnonnull o, 3)) (pcT pcF : Nat) (ho : 0 ≤ (pc : Int) + o) (hT : ((pc : Int) + o).toNat = pcT) (hF : pc + 3 = pcF) (G1 : ¬ x = .null → Go p e below P T (mkF m pcT Ls st)) (G2 : x = .null → Go p e below P T (mkF m pcF Ls st)) : Go p e below P T (mkF m pc Ls (x :: st)) := by
  by_cases q : x = .null
  · subst hF
    exact (G2 q).stp fun _ h => XT.nonnullNo X.here hx rfl hd rfl q h
  · exact (G1 q).stp fun _ h => XT.nonnullYes X.here hx rfl rfl hd rfl hx' q ho hT h
theorem g_ldc (X : Stand p l e R s m args below meth c T locs cells slots) (hx : p.tables.exec = Jvm.exec) (hZ : Z.Warmed39 s.vm) {own : String} (hown : s.vm.findClass own = some m.cls) {i : Nat} {v : Int32} (w : (Cond.constant own i v).before a0 Z = true) (hd : decode c.code pc = .ok (.ldc i, 2)) (pc' : Nat) (hp : pc + 2 = pc') (G : Go p e below P T (mkF m pc' Ls (.int v :: st))) : Go p e below P T (mkF m pc Ls st) := by
  subst hp
  exact G.stp fun _ h => Jvm.Stand.ldcI X hx hown (mv hZ w) rfl hd h
theorem g_ldc_w (X : Stand p l e R s m args below meth c T locs cells slots) (hx : p.tables.exec = Jvm.exec) (hZ : Z.Warmed39 s.vm) {own : String} (hown : s.vm.findClass own = some m.cls) {i : Nat} {v : Int32} (w : (Cond.constant own i v).before a0 Z = true) (hd : decode c.code pc = .ok (.ldc_w i, 3)) (pc' : Nat) (hp : pc + 3 = pc') (G : Go p e below P T (mkF m pc' Ls (.int v :: st))) : Go p e below P T (mkF m pc Ls st) := by
  subst hp
  exact G.stp fun _ h => Jvm.Stand.ldcWI X hx hown (mv hZ w) rfl hd h
theorem g_ldc2_w (X : Stand p l e R s m args below meth c T locs cells slots) (hx : p.tables.exec = Jvm.exec) (hZ : Z.Warmed39 s.vm) {own : String} (hown : s.vm.findClass own = some m.cls) {i : Nat} {v : Int64} (w : (Cond.constantLong own i v).before a0 Z = true) (hd : decode c.code pc = .ok (.ldc2_w i, 3)) (pc' : Nat) (hp : pc + 3 = pc') (G : Go p e below P T (mkF m pc' Ls (.long v :: st))) : Go p e below P T (mkF m pc Ls st) := by
  subst hp
  exact G.stp fun _ h => Jvm.Stand.ldc2J X hx hown (mv hZ w) rfl hd h
theorem g_getfield (X : Stand p l e R s m args below meth c T locs cells slots) (hx : p.tables.exec = Jvm.exec) (hZ : Z.Warmed39 s.vm) {own : String} (hown : s.vm.findClass own = some m.cls) {R0 O n d host : String} {i : Nat} (w : (Cond.fieldLink own i R0 n d).before a0 Z = true ∨ (Cond.fieldLinkNest own i R0 n d host).before a0 Z = true) (via : Via Z R0 O n d) {a : Addr} {v : Value} (F : Fld Z h a O n d v) (eT : T.heap = h) (hd : decode c.code pc = .ok (.getfield i, 3)) (pc' : Nat) (hp : pc + 3 = pc') (G : ∀ T', Stand p l e R s m args below meth c T' locs cells slots → T'.heap = h → Go p e below P T' (mkF m pc' Ls (v :: st))) : Go p e below P T (mkF m pc Ls (.ref a :: st)) := by
  subst hp
  obtain ⟨T', X', e', k⟩ := getF X hx hZ hown w via eT F (g := mkF m pc Ls (.ref a :: st)) rfl rfl hd
  exact (G T' X' e').stp k
theorem g_getstatic (X : Stand p l e R s m args below meth c T locs cells slots) (hx : p.tables.exec = Jvm.exec) (hZ : Z.Warmed39 s.vm) {own : String} (hown : s.vm.findClass own = some m.cls) {R0 O n d host : String} {i : Nat} (w : (Cond.fieldLink own i R0 n d).before a0 Z = true ∨ (Cond.fieldLinkNest own i R0 n d host).before a0 Z = true) (via : Via Z R0 O n d) {v : Value} (F : Sta Z h O n d v) (eT : T.heap = h) (hd : decode c.code pc = .ok (.getstatic i, 3)) (pc' : Nat) (hp : pc + 3 = pc') (G : ∀ T', Stand p l e R s m args below meth c T' locs cells slots → T'.heap = h → Go p e below P T' (mkF m pc' Ls (v :: st))) : Go p e below P T (mkF m pc Ls st) := by
  subst hp
  obtain ⟨T', X', e', k⟩ := getS2 X hx hZ hown w via eT F (g := mkF m pc Ls st) rfl hd
  exact (G T' X' e').stp k
theorem g_putfield (X : Stand p l e R s m args below meth c T locs cells slots) (hx : p.tables.exec = Jvm.exec) (hZ : Z.Warmed39 s.vm) {own : String} (hown : s.vm.findClass own = some m.cls) {R0 O n d host C : String} {i kk : Nat} {ty : FieldType} (w : (Cond.fieldLink own i R0 n d).before a0 Z = true ∨ (Cond.fieldLinkNest own i R0 n d host).before a0 Z = true) (via : Via Z R0 O n d) (eT : T.heap = h) {a : Addr} {v old : Value} (F : Fld Z h a O n d old) (E : Exa Z h a C) (L : (Cond.lays C O n d).before a0 Z = true ∨ ((Cond.laysFinal C O n d).before a0 Z = true ∧ own = O ∧ meth.name = "<init>")) (wi : (Cond.instantiable C kk).before a0 Z = true) (hty : parseFieldDescriptor d = some ty) (hn : narrow ty v = v) (hf : fits ty v = true) (hd : decode c.code pc = .ok (.putfield i, 3)) (pc' : Nat) (hp : pc + 3 = pc') (G : ∀ T' h', Stand p l e R s m args below meth c T' (locs ++ [⟨a, Jvm.RoadKit.slotOf Z O n d⟩]) cells slots → T'.heap = h' → Wr h h' a (Jvm.RoadKit.slotOf Z O n d) v → Go p e below P T' (mkF m pc' Ls st)) : Go p e below P T (mkF m pc Ls (v :: .ref a :: st)) := by
  subst hp
  obtain ⟨T', h', X', e', W, k⟩ := putF X hx hZ hown w via eT F E L wi hty hn hf (g := mkF m pc Ls (v :: .ref a :: st)) rfl rfl hd
  exact (G T' h' X' e' W).stp k
theorem g_initO (X : Stand p l e R s m args below meth c T locs cells slots) (hx : p.tables.exec = Jvm.exec) (hZ : Z.Warmed39 s.vm) {own : String} (hown : s.vm.findClass own = some m.cls) {i : Nat} (w1 : (Cond.methodLink own i Lib.objectInit).before a0 Z = true) (w2 : (Cond.instanceMethod Lib.objectInit).before a0 Z = true) (w3 : (Cond.code Lib.objectInit ⟨#[0xb1]⟩ 1 none).before a0 Z = true) (eT : T.heap = h) (hsz : Ls.size = c.maxLocals) {a : Addr} (hd : decode c.code pc = .ok (.invokespecial i, 3)) (hf : 1 ≤ R.frames) (W : Nat) (hW : (st.map fun v => v.category).sum ≤ W) (hl : W + 12 ≤ R.locals) (pc' : Nat) (hp : pc + 3 = pc') (G : ∀ T', Stand p l e R s m args below meth c T' locs cells slots → T'.heap = h → Go p e below P T' (mkF m pc' Ls st)) : Go p e below P T (mkF m pc Ls (.ref a :: st)) := by
  subst hp
  obtain ⟨T', X', e', k⟩ := initO X hx hZ hown w1 w2 w3 eT (g := mkF m pc Ls (.ref a :: st)) rfl hsz rfl hd hf (W := W) (by show 2 * 0 + _ ≤ W; omega) hl
  exact (G T' X' e').stp k
theorem g_new (X : Stand p l e R s m args below meth c T locs cells slots) (hx : p.tables.exec = Jvm.exec) (hZ : Z.Warmed39 s.vm) {own : String} (hown : s.vm.findClass own = some m.cls) {C : String} {i n : Nat} (w : (Cond.classLink own i C).before a0 Z = true) (wi : (Cond.instantiable C n).before a0 Z = true) (wz : (Cond.initialized C).before a0 Z = true) (eT : T.heap = h) (hd : decode c.code pc = .ok (.new i, 3)) (hc : cells + 1 ≤ R.cells) (hl : slots + n ≤ R.slots) (pc' : Nat) (hp : pc + 3 = pc') (G : ∀ T' h' b, Stand p l e R s m args below meth c T' locs (cells + 1) (slots + n) → T'.heap = h' → b = h.size → Ext h h' → Exa Z h' b C → (∀ {O nm d : String} {ty : FieldType}, Laid Z a0 C O nm d → parseFieldDescriptor d = some ty → Fld Z h' b O nm d (defaultValue ty)) → Go p e below P T' (mkF m pc' Ls (.ref b :: st))) : Go p e below P T (mkF m pc Ls st) := by
  subst hp
  obtain ⟨T', h', X', e', E, A, D, -, k⟩ := newO X hx hZ hown w wi wz eT (g := mkF m pc Ls st) rfl hd hc hl
  exact (G T' h' h.size X' e' rfl E A D).stp k
/-- the array at a: of that kind, holding just these values -/
def AV (Z : State) (h : Heap) (a : Addr) (ty : FieldType) (vs : List Value) : Prop := ∃ c : Cell, Arr Z h a c ty ∧ c.slots = vs.toArray ∧ vs.length < 2 ^ 31
theorem AV.lt {a : Addr} {ty : FieldType} {vs : List Value} (F : AV Z h a ty vs) : a < h.size := by obtain ⟨c, A, -⟩ := F; exact A.lt
theorem AV.ext {h' : Heap} {a : Addr} {ty : FieldType} {vs : List Value} (F : AV Z h a ty vs) (E : Ext h h') : AV Z h' a ty vs := by obtain ⟨c, A, r⟩ := F; exact ⟨c, A.ext E, r⟩
theorem AV.other {h' : Heap} {a b : Addr} {sl : Nat} {v : Value} {ty : FieldType} {vs : List Value} (F : AV Z h b ty vs) (W : Wr h h' a sl v) (q : b ≠ a) : AV Z h' b ty vs := by obtain ⟨c, A, r⟩ := F; exact ⟨c, A.other W q, r⟩
theorem AV.keep {h' : Heap} {a : Addr} {ws : List Addr} {ty : FieldType} {vs : List Value} (F : AV Z h a ty vs) (K : Keep h h' ws) (q : a ∉ ws) : AV Z h' a ty vs := by obtain ⟨c, A, r⟩ := F; exact ⟨c, ⟨K.2.1 a c A.1 q, A.2⟩, r⟩
theorem AV.same {h' : Heap} {a : Addr} {sl : Nat} {v : Value} {ty : FieldType} {vs : List Value} (F : AV Z h a ty vs) (W : Wr h h' a sl v) : AV Z h' a ty (vs.set sl v) := by
  obtain ⟨c, A, r1, r2⟩ := F
  exact ⟨_, A.same W, by simp [Cell.setSlot, r1], by simpa using r2⟩
theorem AV.new {a : Addr} {k : ClassId} {ty : FieldType} {n : Int32} (A : Arr Z h a (newA k ty n) ty) (vs : List Value) (q : vs = List.replicate n.toNatClampNeg (defaultValue ty)) (q2 : n.toNatClampNeg < 2 ^ 31) : AV Z h a ty vs := ⟨_, A, by subst q; simp [newA], by subst q; simpa using q2⟩
theorem AV.nostat {a : Addr} {ty : FieldType} {vs : List Value} (F : AV Z h a ty vs) : ∀ cell : Cell, h[a]? = some cell → cell.vm.isStatics = false := by obtain ⟨c, A, -⟩ := F; exact A.nostat
theorem in_of {vs : List Value} {c : Cell} {j : Int32} {v : Value} (r : c.slots = vs.toArray) (hj : ¬ j < 0) (hv : vs[j.toNatClampNeg]? = some v) : ¬ (j < 0 ∨ c.slots.size ≤ j.toNatClampNeg) := by
  have q := (List.getElem?_eq_some_iff.mp hv).1
  intro u
  rcases u with u | u
  · exact hj u
  · rw [r] at u; simp at u; omega
theorem g_iaload (X : Stand p l e R s m args below meth c T locs cells slots) (hx : p.tables.exec = Jvm.exec) (hZ : Z.Warmed39 s.vm) (eT : T.heap = h) {a : Addr} {vs : List Value} {j : Int32} {v : Value} (A : AV Z h a .int vs) (hj : ¬ j < 0) (hv : vs[j.toNatClampNeg]? = some v) (hd : decode c.code pc = .ok (.iaload, 1)) (pc' : Nat) (hp : pc + 1 = pc') (G : Go p e below P T (mkF m pc' Ls (v :: st))) : Go p e below P T (mkF m pc Ls (.int j :: .ref a :: st)) := by
  subst hp
  obtain ⟨cl, A, r1, r2⟩ := A
  exact G.stp fun _ k => X.iaload hx (j := j) (v := v) (by rw [eT]; exact A.1) (State.isArrayOf_alike hZ.alike A.2.1) A.2.2 (in_of r1 hj hv) (by rw [r1]; simpa using hv) (g := mkF m pc Ls (.int j :: .ref a :: st)) rfl rfl hd _ k
theorem g_caload (X : Stand p l e R s m args below meth c T locs cells slots) (hx : p.tables.exec = Jvm.exec) (hZ : Z.Warmed39 s.vm) (eT : T.heap = h) {a : Addr} {vs : List Value} {j : Int32} {v : Value} (A : AV Z h a .char vs) (hj : ¬ j < 0) (hv : vs[j.toNatClampNeg]? = some v) (hd : decode c.code pc = .ok (.caload, 1)) (pc' : Nat) (hp : pc + 1 = pc') (G : Go p e below P T (mkF m pc' Ls (v :: st))) : Go p e below P T (mkF m pc Ls (.int j :: .ref a :: st)) := by
  subst hp
  obtain ⟨cl, A, r1, r2⟩ := A
  exact G.stp fun _ k => X.caload hx (j := j) (v := v) (by rw [eT]; exact A.1) (State.isArrayOf_alike hZ.alike A.2.1) A.2.2 (in_of r1 hj hv) (by rw [r1]; simpa using hv) (g := mkF m pc Ls (.int j :: .ref a :: st)) rfl rfl hd _ k
theorem g_baload (X : Stand p l e R s m args below meth c T locs cells slots) (hx : p.tables.exec = Jvm.exec) (hZ : Z.Warmed39 s.vm) (eT : T.heap = h) {a : Addr} {vs : List Value} {j : Int32} {v : Value} (A : AV Z h a .byte vs) (hj : ¬ j < 0) (hv : vs[j.toNatClampNeg]? = some v) (hd : decode c.code pc = .ok (.baload, 1)) (pc' : Nat) (hp : pc + 1 = pc') (G : Go p e below P T (mkF m pc' Ls (v :: st))) : Go p e below P T (mkF m pc Ls (.int j :: .ref a :: st)) := by
  subst hp
  obtain ⟨cl, A, r1, r2⟩ := A
  exact G.stp fun _ k => X.baloadBytes hx (j := j) (v := v) (by rw [eT]; exact A.1) (State.isArrayOf_alike hZ.alike A.2.1) A.2.2 (in_of r1 hj hv) (by rw [r1]; simpa using hv) (g := mkF m pc Ls (.int j :: .ref a :: st)) rfl rfl hd _ k
theorem g_aaload (X : Stand p l e R s m args below meth c T locs cells slots) (hx : p.tables.exec = Jvm.exec) (hZ : Z.Warmed39 s.vm) (eT : T.heap = h) {a : Addr} {ty : FieldType} {vs : List Value} {j : Int32} {v : Value} (A : AV Z h a ty vs) (hty : ty.isReference = true) (hj : ¬ j < 0) (hv : vs[j.toNatClampNeg]? = some v) (hd : decode c.code pc = .ok (.aaload, 1)) (pc' : Nat) (hp : pc + 1 = pc') (G : Go p e below P T (mkF m pc' Ls (v :: st))) : Go p e below P T (mkF m pc Ls (.int j :: .ref a :: st)) := by
  subst hp
  obtain ⟨cl, A, r1, r2⟩ := A
  exact G.stp fun _ k => X.aaload hx (j := j) (v := v) (by rw [eT]; exact A.1) (State.isArrayOf_alike hZ.alike A.2.1) hty A.2.2 (in_of r1 hj hv) (by rw [r1]; simpa using hv) (g := mkF m pc Ls (.int j :: .ref a :: st)) rfl rfl hd _ k
theorem g_arraylength (X : Stand p l e R s m args below meth c T locs cells slots) (hx : p.tables.exec = Jvm.exec) (hZ : Z.Warmed39 s.vm) (eT : T.heap = h) {a : Addr} {ty : FieldType} {vs : List Value} (A : AV Z h a ty vs) (n : Int32) (hn : Int32.ofNat vs.length = n) (hd : decode c.code pc = .ok (.arraylength, 1)) (pc' : Nat) (hp : pc + 1 = pc') (G : Go p e below P T (mkF m pc' Ls (.int n :: st))) : Go p e below P T (mkF m pc Ls (.ref a :: st)) := by
  subst hp
  obtain ⟨cl, A, r1, r2⟩ := A
  have q : cl.slots.size.toInt32 = n := by rw [r1, ← hn]; simp
  rw [← q] at G
  exact G.stp fun _ k => X.arraylength hx (cell := cl) (by rw [eT]; exact A.1) (State.isArrayOf_alike hZ.alike A.2.1) (g := mkF m pc Ls (.ref a :: st)) rfl rfl hd _ k
theorem g_iastore (X : Stand p l e R s m args below meth c T locs cells slots) (hx : p.tables.exec = Jvm.exec) (hZ : Z.Warmed39 s.vm) (eT : T.heap = h) {a : Addr} {vs : List Value} {j x : Int32} (A : AV Z h a .int vs) (hj : ¬ j < 0) (hi : j.toNatClampNeg < vs.length) (hd : decode c.code pc = .ok (.iastore, 1)) (pc' : Nat) (hp : pc + 1 = pc') (G : ∀ T' h', Stand p l e R s m args below meth c T' (locs ++ [⟨a, j.toNatClampNeg⟩]) cells slots → T'.heap = h' → Wr h h' a j.toNatClampNeg (.int x) → AV Z h' a .int (vs.set j.toNatClampNeg (.int x)) → Go p e below P T' (mkF m pc' Ls st)) : Go p e below P T (mkF m pc Ls (.int x :: .int j :: .ref a :: st)) := by
  subst hp
  have A0 := A
  obtain ⟨cl, A, r1, r2⟩ := A
  obtain ⟨T', h', X', e', W, k⟩ := stI X hx hZ eT A (j := j) (x := x) (in_of r1 hj (List.getElem?_eq_getElem hi)) (g := mkF m pc Ls (.int x :: .int j :: .ref a :: st)) rfl rfl hd
  exact (G T' h' X' e' W (A0.same W)).stp k
theorem g_castore (X : Stand p l e R s m args below meth c T locs cells slots) (hx : p.tables.exec = Jvm.exec) (hZ : Z.Warmed39 s.vm) (eT : T.heap = h) {a : Addr} {vs : List Value} {j x : Int32} (A : AV Z h a .char vs) (hj : ¬ j < 0) (hi : j.toNatClampNeg < vs.length) (hd : decode c.code pc = .ok (.castore, 1)) (pc' : Nat) (hp : pc + 1 = pc') (G : ∀ T' h', Stand p l e R s m args below meth c T' (locs ++ [⟨a, j.toNatClampNeg⟩]) cells slots → T'.heap = h' → Wr h h' a j.toNatClampNeg (.int (nar .char x)) → AV Z h' a .char (vs.set j.toNatClampNeg (.int (nar .char x))) → Go p e below P T' (mkF m pc' Ls st)) : Go p e below P T (mkF m pc Ls (.int x :: .int j :: .ref a :: st)) := by
  subst hp
  have A0 := A
  obtain ⟨cl, A, r1, r2⟩ := A
  obtain ⟨T', h', X', e', W, k⟩ := stC X hx hZ eT A (j := j) (x := x) (in_of r1 hj (List.getElem?_eq_getElem hi)) (g := mkF m pc Ls (.int x :: .int j :: .ref a :: st)) rfl rfl hd
  exact (G T' h' X' e' W (A0.same W)).stp k
theorem g_bastore (X : Stand p l e R s m args below meth c T locs cells slots) (hx : p.tables.exec = Jvm.exec) (hZ : Z.Warmed39 s.vm) (eT : T.heap = h) {a : Addr} {vs : List Value} {j x : Int32} (A : AV Z h a .byte vs) (hj : ¬ j < 0) (hi : j.toNatClampNeg < vs.length) (hd : decode c.code pc = .ok (.bastore, 1)) (pc' : Nat) (hp : pc + 1 = pc') (G : ∀ T' h', Stand p l e R s m args below meth c T' (locs ++ [⟨a, j.toNatClampNeg⟩]) cells slots → T'.heap = h' → Wr h h' a j.toNatClampNeg (.int (nar .byte x)) → AV Z h' a .byte (vs.set j.toNatClampNeg (.int (nar .byte x))) → Go p e below P T' (mkF m pc' Ls st)) : Go p e below P T (mkF m pc Ls (.int x :: .int j :: .ref a :: st)) := by
  subst hp
  have A0 := A
  obtain ⟨cl, A, r1, r2⟩ := A
  obtain ⟨T', h', X', e', W, k⟩ := stB X hx hZ eT A (j := j) (x := x) (in_of r1 hj (List.getElem?_eq_getElem hi)) (g := mkF m pc Ls (.int x :: .int j :: .ref a :: st)) rfl rfl hd
  exact (G T' h' X' e' W (A0.same W)).stp k
theorem g_newarray (X : Stand p l e R s m args below meth c T locs cells slots) (hx : p.tables.exec = Jvm.exec) (hZ : Z.Warmed39 s.vm) {aty : ArrayType} (w : (Cond.arrayClass (newarray.typeOf aty)).before a0 Z = true) (eT : T.heap = h) {n : Int32} (hn : ¬ n < 0) (cap : Nat) (hcap : n.toNatClampNeg ≤ cap) (hb : cap * 8 ≤ 536870912) (hc : cells + 1 ≤ R.cells) (hl : slots + cap ≤ R.slots) (vs : List Value) (hvs : vs = List.replicate n.toNatClampNeg (defaultValue (newarray.typeOf aty))) (hd : decode c.code pc = .ok (.newarray aty, 2)) (pc' : Nat) (hp : pc + 2 = pc') (G : ∀ T' h' b, Stand p l e R s m args below meth c T' locs (cells + 1) (slots + cap) → T'.heap = h' → b = h.size → Ext h h' → AV Z h' b (newarray.typeOf aty) vs → Go p e below P T' (mkF m pc' Ls (.ref b :: st))) : Go p e below P T (mkF m pc Ls (.int n :: st)) := by
  subst hp
  obtain ⟨T', h', cA, X', e', E, A, k⟩ := newP X hx hZ w eT (g := mkF m pc Ls (.int n :: st)) rfl hd rfl hn hcap hb hc hl
  exact (G T' h' h.size X' e' rfl E (AV.new A vs hvs (by omega))).stp k
theorem g_checkcast (X : Stand p l e R s m args below meth c T locs cells slots) (hx : p.tables.exec = Jvm.exec) (hZ : Z.Warmed39 s.vm) {own : String} (hown : s.vm.findClass own = some m.cls) {K : String} {i : Nat} (w : (Cond.classLink own i K).before a0 Z = true) {a : Addr} (F : Ins Z h a K true) (eT : T.heap = h) (hd : decode c.code pc = .ok (.checkcast i, 3)) (pc' : Nat) (hp : pc + 3 = pc') (G : ∀ T', Stand p l e R s m args below meth c T' locs cells slots → T'.heap = h → Go p e below P T' (mkF m pc' Ls (.ref a :: st))) : Go p e below P T (mkF m pc Ls (.ref a :: st)) := by
  subst hp
  obtain ⟨T', X', e', k⟩ := castY X hx hZ hown w eT F (g := mkF m pc Ls (.ref a :: st)) rfl rfl hd
  exact (G T' X' e').stp k
theorem g_instYes (X : Stand p l e R s m args below meth c T locs cells slots) (hx : p.tables.exec = Jvm.exec) (hZ : Z.Warmed39 s.vm) {own : String} (hown : s.vm.findClass own = some m.cls) {K : String} {i : Nat} (w : (Cond.classLink own i K).before a0 Z = true) {a : Addr} (F : Ins Z h a K true) (eT : T.heap = h) (hd : decode c.code pc = .ok (.instanceof i, 3)) (pc' : Nat) (hp : pc + 3 = pc') (G : ∀ T', Stand p l e R s m args below meth c T' locs cells slots → T'.heap = h → Go p e below P T' (mkF m pc' Ls (.int 1 :: st))) : Go p e below P T (mkF m pc Ls (.ref a :: st)) := by
  subst hp
  obtain ⟨T', X', e', k⟩ := instY X hx hZ hown w eT F (g := mkF m pc Ls (.ref a :: st)) rfl rfl hd
  exact (G T' X' e').stp k
theorem g_instNo (X : Stand p l e R s m args below meth c T locs cells slots) (hx : p.tables.exec = Jvm.exec) (hZ : Z.Warmed39 s.vm) {own : String} (hown : s.vm.findClass own = some m.cls) {K C : String} {i : Nat} (w : (Cond.classLink own i K).before a0 Z = true) {a : Addr} (E : Exa Z h a C) (F : ∃ c t, Z.vm.findClass C = some c ∧ Z.vm.findClass K = some t ∧ Z.vm.assignable c t = false) (eT : T.heap = h) (hd : decode c.code pc = .ok (.instanceof i, 3)) (pc' : Nat) (hp : pc + 3 = pc') (G : ∀ T', Stand p l e R s m args below meth c T' locs cells slots → T'.heap = h → Go p e below P T' (mkF m pc' Ls (.int 0 :: st))) : Go p e below P T (mkF m pc Ls (.ref a :: st)) := by
  subst hp
  obtain ⟨T', X', e', k⟩ := instNo X hx hZ hown w eT E F (g := mkF m pc Ls (.ref a :: st)) rfl rfl hd
  exact (G T' X' e').stp k
theorem g_instNull (X : Stand p l e R s m args below meth c T locs cells slots) (hx : p.tables.exec = Jvm.exec) {i : Nat} (hd : decode c.code pc = .ok (.instanceof i, 3)) (pc' : Nat) (hp : pc + 3 = pc') (G : Go p e below P T (mkF m pc' Ls (.int 0 :: st))) : Go p e below P T (mkF m pc Ls (.null :: st)) := by
  subst hp
  exact G.stp fun _ h => X.instanceofNull hx (g := mkF m pc Ls (.null :: st)) rfl rfl hd _ h
theorem g_aastore (X : Stand p l e R s m args below meth c T locs cells slots) (hx : p.tables.exec = Jvm.exec) (hZ : Z.Warmed39 s.vm) (eT : T.heap = h) {a : Addr} {ty : FieldType} {vs : List Value} {j : Int32} {x : Value} (A : AV Z h a ty vs) (hty : ty.isReference = true) (F : Sto Z h a x) (hj : ¬ j < 0) (hi : j.toNatClampNeg < vs.length) (hd : decode c.code pc = .ok (.aastore, 1)) (pc' : Nat) (hp : pc + 1 = pc') (G : ∀ T' h', Stand p l e R s m args below meth c T' (locs ++ [⟨a, j.toNatClampNeg⟩]) cells slots → T'.heap = h' → Wr h h' a j.toNatClampNeg x → AV Z h' a ty (vs.set j.toNatClampNeg x) → Go p e below P T' (mkF m pc' Ls st)) : Go p e below P T (mkF m pc Ls (x :: .int j :: .ref a :: st)) := by
  subst hp
  have A0 := A
  obtain ⟨cl, A, r1, r2⟩ := A
  obtain ⟨T', h', X', e', W, k⟩ := stR X hx hZ eT A (j := j) (v := x) (in_of r1 hj (List.getElem?_eq_getElem hi)) hty F (g := mkF m pc Ls (x :: .int j :: .ref a :: st)) rfl rfl hd
  exact (G T' h' X' e' W (A0.same W)).stp k
/-- what may lie in the array at a: objects of C -/
def Ov (Z : State) (h : Heap) (a : Addr) (C : String) : Prop := ∃ c : Cell, h[a]? = some c ∧ Ovr Z c.cls C
theorem Ov.keep {h' : Heap} {a : Addr} {ws : List Addr} {C : String} (F : Ov Z h a C) (K : Keep h h' ws) : Ov Z h' a C := by obtain ⟨c, h1, o⟩ := F; obtain ⟨c', h2, e, -⟩ := K.2.2 a c h1; exact ⟨c', h2, by rw [e]; exact o⟩
theorem Ov.ext {h' : Heap} {a : Addr} {C : String} (F : Ov Z h a C) (E : Ext h h') : Ov Z h' a C := by obtain ⟨c, h1, o⟩ := F; exact ⟨c, E.2 _ _ h1, o⟩
theorem Ov.wr {h' : Heap} {a b : Addr} {sl : Nat} {v : Value} {C : String} (F : Ov Z h a C) (W : Wr h h' b sl v) : Ov Z h' a C := by obtain ⟨c, h1, o⟩ := F; obtain ⟨c', h2, e, -⟩ := wr_at W h1; exact ⟨c', h2, by rw [e]; exact o⟩
theorem Ov.lt {a : Addr} {C : String} (F : Ov Z h a C) : a < h.size := by obtain ⟨c, h1, -⟩ := F; exact (Array.getElem?_eq_some_iff.mp h1).1
theorem Ov.sto {a y : Addr} {C : String} {ty : FieldType} {vs : List Value} (F : Ov Z h a C) (A : AV Z h a ty vs) (I : Ins Z h y C true) : Sto Z h a (.ref y) := by
  obtain ⟨c, h1, o⟩ := F
  obtain ⟨c', A', -⟩ := A
  cases h1.symm.trans A'.1
  exact Sto.of A' o I
theorem g_anewarray (X : Stand p l e R s m args below meth c T locs cells slots) (hx : p.tables.exec = Jvm.exec) (hZ : Z.Warmed39 s.vm) {own : String} (hown : s.vm.findClass own = some m.cls) {C : String} {i : Nat} (w1 : (Cond.classLink own i C).before a0 Z = true) (w2 : (Cond.arrayOver (.object C)).before a0 Z = true) (eT : T.heap = h) {n : Int32} (hn : ¬ n < 0) (cap : Nat) (hcap : n.toNatClampNeg ≤ cap) (hb : cap * 8 ≤ 536870912) (hc : cells + 1 ≤ R.cells) (hl : slots + cap ≤ R.slots) (vs : List Value) (hvs : vs = List.replicate n.toNatClampNeg .null) (hd : decode c.code pc = .ok (.anewarray i, 3)) (pc' : Nat) (hp : pc + 3 = pc') (G : ∀ T' h' b, Stand p l e R s m args below meth c T' locs (cells + 1) (slots + cap) → T'.heap = h' → b = h.size → Ext h h' → AV Z h' b (.object C) vs → Ov Z h' b C → Go p e below P T' (mkF m pc' Ls (.ref b :: st))) : Go p e below P T (mkF m pc Ls (.int n :: st)) := by
  subst hp
  obtain ⟨T', h', cA, X', e', E, A, O, k⟩ := newR X hx hZ hown w1 w2 eT (g := mkF m pc Ls (.int n :: st)) rfl hd rfl hn hcap hb hc hl
  exact (G T' h' h.size X' e' rfl E (AV.new A vs hvs (by omega)) ⟨_, A.1, O⟩).stp k
theorem g_reti (X : Stand p l e R s m args below meth c T locs cells slots) (hx : p.tables.exec = Jvm.exec) {z : Int32} (hret : meth.sig.returnType = some .int) (hlk : meth.locks = false) {k n : Nat} {Q : Option Value → Heap → List Loc → Prop} (hk : cells ≤ k) (hn : slots ≤ n) (hd : decode c.code pc = .ok (.ireturn, 1)) (hq : Q (some (.int z)) T.heap locs) : Go p e below (RP s k n Q) T (mkF m pc Ls (.int z :: st)) := by
  obtain ⟨fs, hr, hrun, hended, hW, hsame⟩ := X.leave (v := (some (.int z))) (fun h => by first | rfl | (rw [hret] at h; cases h)) hlk
  exact ⟨_, _, retOut X hx hret rfl (Or.inl ⟨rfl, Or.inl rfl, z, rfl⟩) hd hr, hrun, hended, _, _, rfl, hq, ⟨_, rfl⟩, hW, hsame.mono hk hn⟩
theorem g_retz (X : Stand p l e R s m args below meth c T locs cells slots) (hx : p.tables.exec = Jvm.exec) {z : Int32} (hret : meth.sig.returnType = some .boolean) (hlk : meth.locks = false) {k n : Nat} {Q : Option Value → Heap → List Loc → Prop} (hk : cells ≤ k) (hn : slots ≤ n) (hd : decode c.code pc = .ok (.ireturn, 1)) (hq : Q (some (.int (z &&& 1))) T.heap locs) : Go p e below (RP s k n Q) T (mkF m pc Ls (.int z :: st)) := by
  obtain ⟨fs, hr, hrun, hended, hW, hsame⟩ := X.leave (v := (some (.int (z &&& 1)))) (fun h => by first | rfl | (rw [hret] at h; cases h)) hlk
  exact ⟨_, _, retN X hx (t := .boolean) hret (by simp) hd hr, hrun, hended, _, _, rfl, hq, ⟨_, rfl⟩, hW, hsame.mono hk hn⟩
theorem g_retb (X : Stand p l e R s m args below meth c T locs cells slots) (hx : p.tables.exec = Jvm.exec) {z : Int32} (hret : meth.sig.returnType = some .byte) (hlk : meth.locks = false) {k n : Nat} {Q : Option Value → Heap → List Loc → Prop} (hk : cells ≤ k) (hn : slots ≤ n) (hd : decode c.code pc = .ok (.ireturn, 1)) (hq : Q (some (.int z.toInt8.toInt32)) T.heap locs) : Go p e below (RP s k n Q) T (mkF m pc Ls (.int z :: st)) := by
  obtain ⟨fs, hr, hrun, hended, hW, hsame⟩ := X.leave (v := (some (.int z.toInt8.toInt32))) (fun h => by first | rfl | (rw [hret] at h; cases h)) hlk
  exact ⟨_, _, retN X hx (t := .byte) hret (by simp) hd hr, hrun, hended, _, _, rfl, hq, ⟨_, rfl⟩, hW, hsame.mono hk hn⟩
theorem g_retl (X : Stand p l e R s m args below meth c T locs cells slots) (hx : p.tables.exec = Jvm.exec) {z : Int64} (hret : meth.sig.returnType = some .long) (hlk : meth.locks = false) {k n : Nat} {Q : Option Value → Heap → List Loc → Prop} (hk : cells ≤ k) (hn : slots ≤ n) (hd : decode c.code pc = .ok (.lreturn, 1)) (hq : Q (some (.long z)) T.heap locs) : Go p e below (RP s k n Q) T (mkF m pc Ls (.long z :: st)) := by
  obtain ⟨fs, hr, hrun, hended, hW, hsame⟩ := X.leave (v := (some (.long z))) (fun h => by first | rfl | (rw [hret] at h; cases h)) hlk
  exact ⟨_, _, retOut X hx hret rfl (Or.inr (Or.inl ⟨rfl, rfl, z, rfl⟩)) hd hr, hrun, hended, _, _, rfl, hq, ⟨_, rfl⟩, hW, hsame.mono hk hn⟩
theorem g_reta (X : Stand p l e R s m args below meth c T locs cells slots) (hx : p.tables.exec = Jvm.exec) {v : Value} {t : FieldType} (hv : v.isRef = true) (ht : t.isReference = true) (hret : meth.sig.returnType = some t) (hlk : meth.locks = false) {k n : Nat} {Q : Option Value → Heap → List Loc → Prop} (hk : cells ≤ k) (hn : slots ≤ n) (hd : decode c.code pc = .ok (.areturn, 1)) (hq : Q (some v) T.heap locs) : Go p e below (RP s k n Q) T (mkF m pc Ls (v :: st)) := by
  obtain ⟨fs, hr, hrun, hended, hW, hsame⟩ := X.leave (v := (some v)) (fun h => by first | rfl | (rw [hret] at h; cases h)) hlk
  exact ⟨_, _, retOut X hx hret (by cases t <;> first | (cases ht; done) | rfl) (Or.inr (Or.inr (Or.inr (Or.inr ⟨rfl, ht, hv⟩)))) hd hr, hrun, hended, _, _, rfl, hq, ⟨_, rfl⟩, hW, hsame.mono hk hn⟩
theorem g_retv (X : Stand p l e R s m args below meth c T locs cells slots) (hx : p.tables.exec = Jvm.exec) (hret : meth.sig.returnType = none) (hlk : meth.locks = false) {k n : Nat} {Q : Option Value → Heap → List Loc → Prop} (hk : cells ≤ k) (hn : slots ≤ n) (hd : decode c.code pc = .ok (.return_, 1)) (hq : Q none T.heap locs) : Go p e below (RP s k n Q) T (mkF m pc Ls []) := by
  obtain ⟨fs, hr, hrun, hended, hW, hsame⟩ := X.leave (v := none) (fun _ => rfl) hlk
  exact ⟨_, _, X.returnOut hx hret hd hr, hrun, hended, _, _, rfl, hq, ⟨_, rfl⟩, hW, hsame.mono hk hn⟩
/-- what a method does, called with these arguments over this heap -/
def Co (l : Launch) (y : MethodName) (bytes : ByteArray) (maxL : Nat) (ret : Option FieldType) (ws : List Jvm.Cond) (rm : Room) (Z : State) (h : Heap) (as : Array Value) (Q : Option Value → Heap → List Loc → Prop) : Prop := MetFree l y (head1 (Jvm.Cond.code y bytes maxL ret :: ws) rm) (fun a U => a = as ∧ Z.Warmed39 U.vm ∧ U.heap = h) (fun _ _ _ _ _ => True) (fun _ U o U' => ∃ v L, o = .returned v ∧ Q v U'.heap L ∧ FrameEnd U o U' L rm.cells rm.slots)
theorem Co.of {y : MethodName} {bytes : ByteArray} {maxL : Nat} {ret : Option FieldType} {ws : List Jvm.Cond} {rm : Room} {as : Array Value} {Q : Option Value → Heap → List Loc → Prop} (hpl : plainFor y = true) (body : ∀ (p : Program) (e : Env) (s : State) (m : MethodId) (below : List Frame) (meth : Method) (c : Code) (T : State), Stand p l e rm s m as below meth c T [] 0 0 → p.tables.exec = Jvm.exec → c.code = bytes → c.maxLocals = maxL → s.vm.findClass y.cls = some m.cls → meth.name = y.name → meth.sig.returnType = ret → meth.locks = false → Z.Warmed39 s.vm → T.heap = h → Go p e below (RP s rm.cells rm.slots Q) T (entryFrame m as maxL)) : Co l y bytes maxL ret ws rm Z h as Q := by
  refine MetFree.of_bodySF hpl hisR ?_
  intro p e s m args below meth c s₁ Bd hml hP hK
  obtain ⟨rfl, hZ, hh⟩ := hP
  exact body p e s m below meth c s₁ (Stand.of_body Bd) Bd.exec Bd.bytes hml (findClass_of_methodNamed Bd.named) (name_of_methodNamed Bd.named Bd.method).1 Bd.returns (BodyLoose.notSynchronized Bd) hZ (by rw [← hh, Bd.state]; rfl)
theorem g_callS (X : Stand p l e R s m args below meth c T locs cells slots) (hx : p.tables.exec = Jvm.exec) (hZ : Z.Warmed39 s.vm) {own : String} (hown : s.vm.findClass own = some m.cls) {i : Nat} {y : MethodName} {bytes : ByteArray} {maxL : Nat} {ret : Option FieldType} (w1 : (Cond.methodLink own i y).before a0 Z = true) (w2 : (Cond.static y).before a0 Z = true) (w3 : (Cond.initialized y.cls).before a0 Z = true) (w4 : (Cond.code y bytes maxL ret).before a0 Z = true)  (hy : y.cls ≠ "java/lang/invoke/MethodHandle" ∧ y.cls ≠ "java/lang/invoke/VarHandle") (eT : T.heap = h) {rm : Room} {Q : Option Value → Heap → List Loc → Prop} {St : List Value} (argsL rest : List Value) (hs : St = argsL.reverse ++ rest) (M : Co l y bytes maxL ret [] rm Z h argsL.toArray Q) (hlen : ∀ sig, parseMethodDescriptor y.desc = some sig → argsL.length = sig.parameters.length) (W : Nat) (hW : (rest.map fun v => v.category).sum ≤ W) (hf : rm.frames + 1 ≤ R.frames) (hl : W + (maxL + 11) + rm.locals ≤ R.locals) (hc : cells + rm.cells ≤ R.cells) (hsl : slots + rm.slots ≤ R.slots) (hsz : Ls.size = c.maxLocals) (hd : decode c.code pc = .ok (.invokestatic i, 3)) (pc' : Nat) (hp : pc + 3 = pc') (G : ∀ v T' L, Stand p l e R s m args below meth c T' (locs ++ L) (cells + rm.cells) (slots + rm.slots) → Q v T'.heap L → Go p e below P T' (mkF m pc' Ls (v.toList ++ rest))) : Go p e below P T (mkF m pc Ls St) := by
  subst hp
  obtain ⟨v, vm1, ⟨T', L', k', n'⟩, -, X', ⟨L, hQ, h1, h2, h3⟩, k⟩ := Jvm.LawKit.callS X hx (y := y) hown (mvT hZ w1) (mvT hZ w2) (mvT hZ w3) (mvT hZ w4) hy (backOf (W := W) M hZ w4 w3 hf hl) (g := mkF m pc Ls St) rfl hsz (argsL := argsL) (rest := rest) hlen hs (by show 2 * 0 + _ ≤ W; omega) hd (fun _ _ => ⟨rfl, eT, hc, hsl⟩)
  dsimp only [Pt.U, Pt.locs, Pt.cells, Pt.slots] at X' h1 h2 h3 k hQ
  subst h1 h2 h3
  exact (G v T' L X' hQ).stp k
theorem g_init (X : Stand p l e R s m args below meth c T locs cells slots) (hx : p.tables.exec = Jvm.exec) (hZ : Z.Warmed39 s.vm) {own : String} (hown : s.vm.findClass own = some m.cls) {i : Nat} {y : MethodName} {bytes : ByteArray} {maxL : Nat} (w1 : (Cond.methodLink own i y).before a0 Z = true) (hnm : y.name = "<init>") (w2 : (Cond.instanceMethod y).before a0 Z = true) (w3 : (Cond.initialized y.cls).before a0 Z = true) (w4 : (Cond.code y bytes maxL none).before a0 Z = true)  (hy : y.cls ≠ "java/lang/invoke/MethodHandle" ∧ y.cls ≠ "java/lang/invoke/VarHandle") (eT : T.heap = h) {rm : Room} {Q : Option Value → Heap → List Loc → Prop} {St : List Value} (argsL rest : List Value) {a : Addr} (hs : St = argsL.reverse ++ .ref a :: rest) (M : Co l y bytes maxL none [] rm Z h (.ref a :: argsL).toArray Q) (hlen : ∀ sig, parseMethodDescriptor y.desc = some sig → argsL.length = sig.parameters.length) (W : Nat) (hW : (rest.map fun v => v.category).sum ≤ W) (hf : rm.frames + 1 ≤ R.frames) (hl : W + (maxL + 11) + rm.locals ≤ R.locals) (hc : cells + rm.cells ≤ R.cells) (hsl : slots + rm.slots ≤ R.slots) (hsz : Ls.size = c.maxLocals) (hd : decode c.code pc = .ok (.invokespecial i, 3)) (pc' : Nat) (hp : pc + 3 = pc') (G : ∀ v T' L, Stand p l e R s m args below meth c T' (locs ++ L) (cells + rm.cells) (slots + rm.slots) → Q v T'.heap L → Go p e below P T' (mkF m pc' Ls (v.toList ++ rest))) : Go p e below P T (mkF m pc Ls St) := by
  subst hp
  obtain ⟨v, vm1, ⟨T', L', k', n'⟩, -, X', ⟨L, hQ, h1, h2, h3⟩, k⟩ := X.specialBack hx (y := y) hnm hown (mvT hZ w1) (mvT hZ w2) (mvT hZ w4) hy (backOf (W := W) M hZ w4 w3 hf hl) (g := mkF m pc Ls St) rfl hsz (Steps.refl _) (a := a) (argsL := argsL) (rest := rest) hlen hs (by show 2 * 0 + _ ≤ W; omega) hd (fun _ _ => ⟨rfl, eT, hc, hsl⟩)
  dsimp only [Pt.U, Pt.locs, Pt.cells, Pt.slots] at X' h1 h2 h3 k hQ
  subst h1 h2 h3
  exact (G v T' L X' hQ).stp fun _ j => k.trans j
theorem g_callV (X : Stand p l e R s m args below meth c T locs cells slots) (hx : p.tables.exec = Jvm.exec) (hZ : Z.Warmed39 s.vm) {own : String} (hown : s.vm.findClass own = some m.cls) {i : Nat} {y : MethodName} {bytes : ByteArray} {maxL : Nat} {ret : Option FieldType} (w1 : (Cond.methodLink own i y).before a0 Z = true) {C : String} (w2 : (Cond.declares y).before a0 Z = true) (w5 : (Cond.selects C y y).before a0 Z = true) (w6 : (Cond.instanceMethod y).before a0 Z = true) (w3 : (Cond.initialized y.cls).before a0 Z = true) (w4 : (Cond.code y bytes maxL ret).before a0 Z = true)  (hy : y.cls ≠ "java/lang/invoke/MethodHandle" ∧ y.cls ≠ "java/lang/invoke/VarHandle") (eT : T.heap = h) {rm : Room} {Q : Option Value → Heap → List Loc → Prop} {St : List Value} (argsL rest : List Value) {a : Addr} (E : Exa Z h a C) (hs : St = argsL.reverse ++ .ref a :: rest) (M : Co l y bytes maxL ret [] rm Z h (.ref a :: argsL).toArray Q) (hlen : ∀ sig, parseMethodDescriptor y.desc = some sig → argsL.length = sig.parameters.length) (W : Nat) (hW : (rest.map fun v => v.category).sum ≤ W) (hf : rm.frames + 1 ≤ R.frames) (hl : W + (maxL + 11) + rm.locals ≤ R.locals) (hc : cells + rm.cells ≤ R.cells) (hsl : slots + rm.slots ≤ R.slots) (hsz : Ls.size = c.maxLocals) (hd : decode c.code pc = .ok (.invokevirtual i, 3)) (pc' : Nat) (hp : pc + 3 = pc') (G : ∀ v T' L, Stand p l e R s m args below meth c T' (locs ++ L) (cells + rm.cells) (slots + rm.slots) → Q v T'.heap L → Go p e below P T' (mkF m pc' Ls (v.toList ++ rest))) : Go p e below P T (mkF m pc Ls St) := by
  subst hp
  obtain ⟨cq, kq, qa, qb, qc⟩ := isOf hZ eT E
  obtain ⟨v, vm1, ⟨T', L', k', n'⟩, -, X', ⟨L, hQ, h1, h2, h3⟩, k⟩ := X.virtualBack hx (y := y) (z := y) hown (mvT hZ w1) (mvT hZ w2) (notFace_of_selects (args := #[]) (mvT hZ w5)) (mvT hZ w5) (mvT hZ w6) hy (backOf (W := W) M hZ w4 w3 hf hl) qa qc (g := mkF m pc Ls St) rfl hsz (Steps.refl _) (argsL := argsL) (rest := rest) hlen hs (by show 2 * 0 + _ ≤ W; omega) hd (fun _ _ => ⟨rfl, eT, hc, hsl⟩)
  dsimp only [Pt.U, Pt.locs, Pt.cells, Pt.slots] at X' h1 h2 h3 k hQ
  subst h1 h2 h3
  exact (G v T' L X' hQ).stp fun _ j => k.trans j
theorem g_callP (X : Stand p l e R s m args below meth c T locs cells slots) (hx : p.tables.exec = Jvm.exec) (hZ : Z.Warmed39 s.vm) {own : String} (hown : s.vm.findClass own = some m.cls) {i : Nat} {y : MethodName} {bytes : ByteArray} {maxL : Nat} {ret : Option FieldType} (w1 : (Cond.methodLink own i y).before a0 Z = true) {n : Nat} (w2 : (Cond.instanceMethod y).before a0 Z = true) (w5 : (Cond.privateMethod y).before a0 Z = true) (wi : (Cond.instantiable y.cls n).before a0 Z = true) (w3 : (Cond.initialized y.cls).before a0 Z = true) (w4 : (Cond.code y bytes maxL ret).before a0 Z = true)  (hy : y.cls ≠ "java/lang/invoke/MethodHandle" ∧ y.cls ≠ "java/lang/invoke/VarHandle") (eT : T.heap = h) {rm : Room} {Q : Option Value → Heap → List Loc → Prop} {St : List Value} (argsL rest : List Value) {a : Addr} (E : Exa Z h a y.cls) (hs : St = argsL.reverse ++ .ref a :: rest) (M : Co l y bytes maxL ret [] rm Z h (.ref a :: argsL).toArray Q) (hlen : ∀ sig, parseMethodDescriptor y.desc = some sig → argsL.length = sig.parameters.length) (W : Nat) (hW : (rest.map fun v => v.category).sum ≤ W) (hf : rm.frames + 1 ≤ R.frames) (hl : W + (maxL + 11) + rm.locals ≤ R.locals) (hc : cells + rm.cells ≤ R.cells) (hsl : slots + rm.slots ≤ R.slots) (hsz : Ls.size = c.maxLocals) (hd : decode c.code pc = .ok (.invokevirtual i, 3)) (pc' : Nat) (hp : pc + 3 = pc') (G : ∀ v T' L, Stand p l e R s m args below meth c T' (locs ++ L) (cells + rm.cells) (slots + rm.slots) → Q v T'.heap L → Go p e below P T' (mkF m pc' Ls (v.toList ++ rest))) : Go p e below P T (mkF m pc Ls St) := by
  subst hp
  obtain ⟨cl, q1, q2⟩ := E.cell
  have wi' : (Cond.instantiable y.cls n).before args s = true := mv hZ wi
  obtain ⟨ci, ki, i1, i2, i3, i4, -⟩ := Cond.instantiable_spec wi'
  have hpr : s.PrivateAt y := Cond.privateMethod_at (mvP hZ w5 (args := #[]))
  have hsel : (Cond.selects y.cls y y).before args s = true := selects_self_of_private i1 i2 (by simp only [Bool.or_eq_false_iff] at i4; exact i4.1) hpr (mv hZ w2) hy
  obtain ⟨v, vm1, ⟨T', L', k', n'⟩, -, X', ⟨L, hQ, h1, h2, h3⟩, k⟩ := X.privateBack hx (y := y) hown (mvT hZ w1) (mvT hZ w2) hsel hpr (mvT hZ w4) hy (backOf (W := W) M hZ w4 w3 hf hl) (g := mkF m pc Ls St) rfl hsz (Steps.refl _) (a := a) (by rw [eT]; exact q1) q2 (argsL := argsL) (rest := rest) hlen hs (by show 2 * 0 + _ ≤ W; omega) hd (fun _ _ => ⟨rfl, eT, hc, hsl⟩)
  dsimp only [Pt.U, Pt.locs, Pt.cells, Pt.slots] at X' h1 h2 h3 k hQ
  subst h1 h2 h3
  exact (G v T' L X' hQ).stp fun _ j => k.trans j
def Pu (h : Heap) (v : Option Value) (r : Option Value) (h' : Heap) (L : List Loc) : Prop := r = v ∧ h' = h ∧ L = []
theorem pu_cont {v : Option Value} {fr lo : Nat} {pc' : Nat} {rest : List Value} (G : ∀ T', Stand p l e R s m args below meth c T' locs cells slots → T'.heap = h → Go p e below P T' (mkF m pc' Ls (v.toList ++ rest))) : ∀ v' T' L, Stand p l e R s m args below meth c T' (locs ++ L) (cells + ({ frames := fr, cells := 0, slots := 0, locals := lo } : Room).cells) (slots + ({ frames := fr, cells := 0, slots := 0, locals := lo } : Room).slots) → Pu h v v' T'.heap L → Go p e below P T' (mkF m pc' Ls (v'.toList ++ rest)) := by
  rintro v' T' L X ⟨rfl, e1, rfl⟩
  exact G T' (by simpa using X) e1
theorem Go.joinT {α : Type} {g : JFrame} (X : Stand p l e R s m args below meth c T locs cells slots) (eT : T.heap = h) (f : α → JFrame) (Pz : α → Prop) (J : ∀ T', Stand p l e R s m args below meth c T' locs cells slots → T'.heap = h → ∀ z, Pz z → Go p e below P T' (f z)) (K : (∀ T', Stand p l e R s m args below meth c T' locs cells slots → T'.heap = h → ∀ z, Pz z → Go p e below P T' (f z)) → Go p e below P T g) : Go p e below P T g := K J
theorem Go.joinH {α : Type} {g : JFrame} (X : Stand p l e R s m args below meth c T locs cells slots) (f : α → JFrame) (Pz : Heap → List Loc → α → Prop) (kc kn : Nat) (J : ∀ T' h' locs', Stand p l e R s m args below meth c T' locs' kc kn → T'.heap = h' → ∀ z, Pz h' locs' z → Go p e below P T' (f z)) (K : (∀ T' h' locs', Stand p l e R s m args below meth c T' locs' kc kn → T'.heap = h' → ∀ z, Pz h' locs' z → Go p e below P T' (f z)) → Go p e below P T g) : Go p e below P T g := K J
theorem Go.loop {α : Type} (X : Stand p l e R s m args below meth c T locs cells slots) (eT : T.heap = h) (f : α → JFrame) (μ : α → Nat) (Pz : α → Prop) (body : ∀ z, Pz z → (∀ T', Stand p l e R s m args below meth c T' locs cells slots → T'.heap = h → ∀ z', Pz z' → μ z' < μ z → Go p e below P T' (f z')) → ∀ T', Stand p l e R s m args below meth c T' locs cells slots → T'.heap = h → Go p e below P T' (f z)) (z : α) (hz : Pz z) : Go p e below P T (f z) := by
  have key : ∀ n, ∀ z, μ z < n → Pz z → ∀ T', Stand p l e R s m args below meth c T' locs cells slots → T'.heap = h → Go p e below P T' (f z) := by
    intro n
    induction n with
    | zero => intro z hn; exact absurd hn (Nat.not_lt_zero _)
    | succ n ih =>
      intro z hn hz T' X' e'
      exact body z hz (fun T2 X2 e2 z2 hz2 hlt => ih z2 (by omega) hz2 T2 X2 e2) T' X' e'
  exact key (μ z + 1) z (Nat.lt_succ_self _) hz T X eT
theorem Go.loopH {α : Type} (X : Stand p l e R s m args below meth c T locs cells slots) (eT : T.heap = h) (f : α → JFrame) (μ : α → Nat) (Pz : Heap → List Loc → α → Prop) (body : ∀ z h' locs', Pz h' locs' z → (∀ T' h2 locs2, Stand p l e R s m args below meth c T' locs2 cells slots → T'.heap = h2 → ∀ z', Pz h2 locs2 z' → μ z' < μ z → Go p e below P T' (f z')) → ∀ T', Stand p l e R s m args below meth c T' locs' cells slots → T'.heap = h' → Go p e below P T' (f z)) (z : α) (hz : Pz h locs z) : Go p e below P T (f z) := by
  have key : ∀ n, ∀ z h' locs', μ z < n → Pz h' locs' z → ∀ T', Stand p l e R s m args below meth c T' locs' cells slots → T'.heap = h' → Go p e below P T' (f z) := by
    intro n
    induction n with
    | zero => intro z h' locs' hn; exact absurd hn (Nat.not_lt_zero _)
    | succ n ih =>
      intro z h' locs' hn hz T' X' e'
      exact body z h' locs' hz (fun T2 h2 locs2 X2 e2 z2 hz2 hlt => ih z2 h2 locs2 (by omega) hz2 T2 X2 e2) T' X' e'
  exact key (μ z + 1) z h locs (Nat.lt_succ_self _) hz T X eT
theorem own_sta_keep {C n d : String} {v : Value} {h' : Heap} {ws : List Addr} (F : Sta Z h C n d v) (K : Keep h h' ws) (q : ∀ x ∈ ws, ∀ cell : Cell, h[x]? = some cell → cell.vm.isStatics = false) : Sta Z h' C n d v := by
  obtain ⟨cf, i, k, f, st, cell, h1, h2, h3, h4, h5, h6, h7⟩ := F
  exact ⟨cf, i, k, f, st, cell, h1, h2, h3, h4, K.2.1 st cell h5 (fun hm => by rw [q st hm cell h5] at h6; cases h6), h6, h7⟩
end OwnGo
def Q1 (Z : State) (a : Addr) (x : Int64) (h0 : Heap) (n0 : Nat) (v : Option Value) (h : Heap) (L : List Loc) : Prop := v = none ∧ Fr n0 L ∧ Keep h0 h [a] ∧ Exa Z h a "com/example/usher/usher/FrameCodec$Room" ∧ Fld Z h a "com/example/usher/usher/FrameCodec$Room" "limit" "J" (.long x) ∧ Fld Z h a "com/example/usher/usher/FrameCodec$Room" "moreLimit" "J" (.long (x - (x / (4 : Int64)))) ∧ Fld Z h a "com/example/usher/usher/FrameCodec$Room" "held" "J" (.long (0 : Int64))
theorem ef1 (m : MethodId) (a : Addr) (x : Int64)  : entryFrame m #[(.ref a), (.long x)] 3 = mkF m 0 #[.val (.ref a), .val (.long x), .second] [] := by first | (simp [entryFrame, mkF, argsToLocals, Value.category]; done) | rfl
theorem pn_0 : plainName "com/example/usher/usher/FrameCodec$Room" = true := by first | (simp [plainName, overriddenIn]; done) | decide +kernel
theorem d1_0 : decode prog_10_method_1_code 0 = .ok (.aload_n 0, 1) := by decide +kernel
theorem d1_1 : decode prog_10_method_1_code 1 = .ok (.invokespecial 3, 3) := by decide +kernel
theorem d1_4 : decode prog_10_method_1_code 4 = .ok (.aload_n 0, 1) := by decide +kernel
theorem d1_5 : decode prog_10_method_1_code 5 = .ok (.lload_n 1, 1) := by decide +kernel
theorem d1_6 : decode prog_10_method_1_code 6 = .ok (.putfield 9, 3) := by decide +kernel
theorem d1_9 : decode prog_10_method_1_code 9 = .ok (.aload_n 0, 1) := by decide +kernel
theorem d1_10 : decode prog_10_method_1_code 10 = .ok (.lload_n 1, 1) := by decide +kernel
theorem d1_11 : decode prog_10_method_1_code 11 = .ok (.lload_n 1, 1) := by decide +kernel
theorem d1_12 : decode prog_10_method_1_code 12 = .ok (.ldc2_w 15, 3) := by decide +kernel
theorem d1_15 : decode prog_10_method_1_code 15 = .ok (.ldiv, 1) := by decide +kernel
theorem d1_16 : decode prog_10_method_1_code 16 = .ok (.lsub, 1) := by decide +kernel
theorem d1_17 : decode prog_10_method_1_code 17 = .ok (.putfield 17, 3) := by decide +kernel
theorem d1_20 : decode prog_10_method_1_code 20 = .ok (.return_, 1) := by decide +kernel
set_option maxRecDepth 65536 in
set_option maxHeartbeats 40000000 in
theorem co1 (l : Launch) (Z : State) (a0 : Array Value) (hw : ∀ d ∈ tables_1, d.before a0 Z = true) (a : Addr) (x : Int64) (h0 : Heap) (n0 : Nat) (Z0 : n0 ≤ h0.size)  (g_a : n0 ≤ a) (E_a : Exa Z h0 a "com/example/usher/usher/FrameCodec$Room") (F_limit : Fld Z h0 a "com/example/usher/usher/FrameCodec$Room" "limit" "J" (.long (0 : Int64))) (F_moreLimit : Fld Z h0 a "com/example/usher/usher/FrameCodec$Room" "moreLimit" "J" (.long (0 : Int64))) (F_held : Fld Z h0 a "com/example/usher/usher/FrameCodec$Room" "held" "J" (.long (0 : Int64))) : Co l (⟨"com/example/usher/usher/FrameCodec$Room", "<init>", "(J)V"⟩ : MethodName) prog_10_method_1_code 3 none [] ({ frames := 1, cells := 0, slots := 0, locals := 12 } : Room) Z h0 #[(.ref a), (.long x)] (Q1 Z a x h0 n0) := by
  refine Co.of (plainFor_of_name pn_0) ?_
  intro p e s m below meth c T0 X0 hx hby hml hown hnm hret hlk hZ e0
  have N0 := Fr.nil n0
  refine Go.cast (ef1 m a x ) ?_
  refine g_aloadN X0 hx rfl rfl (hb hby d1_0) 1 rfl ?_
  refine g_initO X0 hx hZ hown (wd hw 8 rfl) (wd hw 9 rfl) (wd hw 10 rfl) e0 (by rw [hml]; rfl) (hb hby d1_1) (by decide) 0 (Nat.le_of_eq rfl) (by decide) 4 rfl (fun T1 X2 e3 => ?_)
  show Go p e below _ T1 (mkF m 4 #[.val (.ref a), .val (.long x), .second] [])
  refine g_aloadN X2 hx rfl rfl (hb hby d1_4) 5 rfl ?_
  refine g_lloadN X2 hx rfl (hb hby d1_5) 6 rfl ?_
  refine g_putfield X2 hx hZ hown (host := "") (Or.inl (wd hw 11 rfl)) Via.refl e3 F_limit E_a (Or.inr ⟨(wd hw 12 rfl), rfl, hnm⟩) (wd hw 3 rfl) (ty := .long) (by decide) rfl rfl (hb hby d1_6) 9 rfl (fun T4 h5 X6 e7 W8 => ?_)
  have F9 := E_a.wr W8
  have F10 := F_limit.same W8
  have F11 := F_moreLimit.other W8 (Or.inr (slot_ne (Or.inr (wd hw 15 rfl)) (Or.inr (wd hw 12 rfl)) (by decide) (t := .long) (t' := .long) (by decide) (by decide)))
  have F12 := F_held.other W8 (Or.inr (slot_ne (Or.inl (wd hw 27 rfl)) (Or.inr (wd hw 12 rfl)) (by decide) (t := .long) (t' := .long) (by decide) (by decide)))
  have N13 := Fr.snoc X6 N0 g_a
  have szh14 : n0 ≤ h5.size := Nat.le_trans Z0 (Nat.le_of_eq W8.size.symm)
  have K15 := (Keep.refl h0 [a]).wr W8 (Or.inl (List.mem_of_getElem? (i := 0) rfl))
  show Go p e below _ T4 (mkF m 9 #[.val (.ref a), .val (.long x), .second] [])
  refine g_aloadN X6 hx rfl rfl (hb hby d1_9) 10 rfl ?_
  refine g_lloadN X6 hx rfl (hb hby d1_10) 11 rfl ?_
  refine g_lloadN X6 hx rfl (hb hby d1_11) 12 rfl ?_
  refine g_ldc2_w X6 hx hZ hown (wd hw 13 rfl) (hb hby d1_12) 15 rfl ?_
  refine g_ldiv X6 hx (by decide) (hb hby d1_15) 16 rfl ?_
  refine g_lsub X6 hx (hb hby d1_16) 17 rfl ?_
  refine g_putfield X6 hx hZ hown (host := "") (Or.inl (wd hw 14 rfl)) Via.refl e7 F11 F9 (Or.inr ⟨(wd hw 15 rfl), rfl, hnm⟩) (wd hw 3 rfl) (ty := .long) (by decide) rfl rfl (hb hby d1_17) 20 rfl (fun T16 h17 X18 e19 W20 => ?_)
  have F21 := F9.wr W20
  have F22 := F10.other W20 (Or.inr (slot_ne (Or.inr (wd hw 12 rfl)) (Or.inr (wd hw 15 rfl)) (by decide) (t := .long) (t' := .long) (by decide) (by decide)))
  have F23 := F11.same W20
  have F24 := F12.other W20 (Or.inr (slot_ne (Or.inl (wd hw 27 rfl)) (Or.inr (wd hw 15 rfl)) (by decide) (t := .long) (t' := .long) (by decide) (by decide)))
  have N25 := Fr.snoc X18 N13 g_a
  have szh26 : n0 ≤ h17.size := Nat.le_trans szh14 (Nat.le_of_eq W20.size.symm)
  have K27 := K15.wr W20 (Or.inl (List.mem_of_getElem? (i := 0) rfl))
  show Go p e below _ T16 (mkF m 20 #[.val (.ref a), .val (.long x), .second] [])
  exact g_retv X18 hx hret hlk (by decide) (by decide) (hb hby d1_20) (by rw [e19]; exact ⟨rfl, N25, K27, F21, F22, F23, F24⟩)
def Q4 (Z : State) (a : Addr) (x1 : Int32) (x2 : Int32) (lm : Int64) (mr : Int64) (hd : Int64) (h0 : Heap) (n0 : Nat) (v : Option Value) (h : Heap) (L : List Loc) : Prop := v = none ∧ Fr n0 L ∧ Keep h0 h [a] ∧ Exa Z h a "com/example/usher/usher/FrameCodec$Room" ∧ Fld Z h a "com/example/usher/usher/FrameCodec$Room" "limit" "J" (.long lm) ∧ Fld Z h a "com/example/usher/usher/FrameCodec$Room" "moreLimit" "J" (.long mr) ∧ Fld Z h a "com/example/usher/usher/FrameCodec$Room" "held" "J" (.long (hd + x1.toInt64))
theorem ef4 (m : MethodId) (a : Addr) (x1 : Int32) (x2 : Int32)  : entryFrame m #[(.ref a), (.int x1), (.int x2)] 5 = mkF m 0 #[.val (.ref a), .val (.int x1), .val (.int x2), .unset, .unset] [] := by first | (simp [entryFrame, mkF, argsToLocals, Value.category]; done) | rfl
theorem d4_0 : decode prog_10_method_2_code 0 = .ok (.iload_n 1, 1) := by decide +kernel
theorem d4_1 : decode prog_10_method_2_code 1 = .ok (.sipush 4096, 3) := by decide +kernel
theorem d4_4 : decode prog_10_method_2_code 4 = .ok (.if_icmp .gt 10, 3) := by decide +kernel
theorem d4_14 : decode prog_10_method_2_code 14 = .ok (.aload_n 0, 1) := by decide +kernel
theorem d4_15 : decode prog_10_method_2_code 15 = .ok (.getfield 17, 3) := by decide +kernel
theorem d4_18 : decode prog_10_method_2_code 18 = .ok (.lstore_n 3, 1) := by decide +kernel
theorem d4_19 : decode prog_10_method_2_code 19 = .ok (.iload_n 1, 1) := by decide +kernel
theorem d4_20 : decode prog_10_method_2_code 20 = .ok (.i2l, 1) := by decide +kernel
theorem d4_21 : decode prog_10_method_2_code 21 = .ok (.lload_n 3, 1) := by decide +kernel
theorem d4_22 : decode prog_10_method_2_code 22 = .ok (.aload_n 0, 1) := by decide +kernel
theorem d4_23 : decode prog_10_method_2_code 23 = .ok (.getfield 20, 3) := by decide +kernel
theorem d4_26 : decode prog_10_method_2_code 26 = .ok (.lsub, 1) := by decide +kernel
theorem d4_27 : decode prog_10_method_2_code 27 = .ok (.lcmp, 1) := by decide +kernel
theorem d4_28 : decode prog_10_method_2_code 28 = .ok (.ifCond .le 23, 3) := by decide +kernel
theorem d4_51 : decode prog_10_method_2_code 51 = .ok (.aload_n 0, 1) := by decide +kernel
theorem d4_52 : decode prog_10_method_2_code 52 = .ok (.dup, 1) := by decide +kernel
theorem d4_53 : decode prog_10_method_2_code 53 = .ok (.getfield 20, 3) := by decide +kernel
theorem d4_56 : decode prog_10_method_2_code 56 = .ok (.iload_n 1, 1) := by decide +kernel
theorem d4_57 : decode prog_10_method_2_code 57 = .ok (.i2l, 1) := by decide +kernel
theorem d4_58 : decode prog_10_method_2_code 58 = .ok (.ladd, 1) := by decide +kernel
theorem d4_59 : decode prog_10_method_2_code 59 = .ok (.putfield 20, 3) := by decide +kernel
theorem d4_62 : decode prog_10_method_2_code 62 = .ok (.return_, 1) := by decide +kernel
theorem d4_7 : decode prog_10_method_2_code 7 = .ok (.aload_n 0, 1) := by decide +kernel
theorem d4_8 : decode prog_10_method_2_code 8 = .ok (.getfield 9, 3) := by decide +kernel
theorem d4_11 : decode prog_10_method_2_code 11 = .ok (.goto 7, 3) := by decide +kernel
set_option maxRecDepth 65536 in
set_option maxHeartbeats 40000000 in
theorem co4 (l : Launch) (Z : State) (a0 : Array Value) (hw : ∀ d ∈ tables_1, d.before a0 Z = true) (a : Addr) (x1 : Int32) (x2 : Int32) (lm : Int64) (mr : Int64) (hd : Int64) (h0 : Heap) (n0 : Nat) (Z0 : n0 ≤ h0.size)  (g_a : n0 ≤ a) (E_a : Exa Z h0 a "com/example/usher/usher/FrameCodec$Room") (F_limit : Fld Z h0 a "com/example/usher/usher/FrameCodec$Room" "limit" "J" (.long lm)) (F_moreLimit : Fld Z h0 a "com/example/usher/usher/FrameCodec$Room" "moreLimit" "J" (.long mr)) (F_held : Fld Z h0 a "com/example/usher/usher/FrameCodec$Room" "held" "J" (.long hd)) (hp : ¬ ((if (4096 : Int32) < x1 then mr else lm) - hd < x1.toInt64)) : Co l (⟨"com/example/usher/usher/FrameCodec$Room", "take", "(II)V"⟩ : MethodName) prog_10_method_2_code 5 none [] ({ frames := 0, cells := 0, slots := 0, locals := 0 } : Room) Z h0 #[(.ref a), (.int x1), (.int x2)] (Q4 Z a x1 x2 lm mr hd h0 n0) := by
  refine Co.of (plainFor_of_name pn_0) ?_
  intro p e s m below meth c T0 X0 hx hby hml hown hnm hret hlk hZ e0
  have N0 := Fr.nil n0
  refine Go.cast (ef4 m a x1 x2 ) ?_
  refine g_iloadN X0 hx rfl (hb hby d4_0) 1 rfl ?_
  refine g_sipush X0 hx (4096 : Int32) rfl (hb hby d4_1) 4 rfl ?_
  refine g_icmp_gt X0 hx (hb hby d4_4) 14 7 (by decide) rfl rfl (fun q4 => ?_) (fun q4 => ?_)
  · refine g_aloadN X0 hx rfl rfl (hb hby d4_14) 15 rfl ?_
    refine g_getfield X0 hx hZ hown (host := "") (Or.inl (wd hw 14 rfl)) Via.refl F_moreLimit e0 (hb hby d4_15) 18 rfl (fun T1 X2 e3 => ?_)
    show Go p e below _ T1 (mkF m 18 #[.val (.ref a), .val (.int x1), .val (.int x2), .unset, .unset] [(.long mr)])
    refine g_lstoreN X2 hx #[.val (.ref a), .val (.int x1), .val (.int x2), .val (.long mr), .second] rfl (hb hby d4_18) 19 rfl ?_
    refine g_iloadN X2 hx rfl (hb hby d4_19) 20 rfl ?_
    refine g_i2l X2 hx (hb hby d4_20) 21 rfl ?_
    refine g_lloadN X2 hx rfl (hb hby d4_21) 22 rfl ?_
    refine g_aloadN X2 hx rfl rfl (hb hby d4_22) 23 rfl ?_
    refine g_getfield X2 hx hZ hown (host := "") (Or.inl (wd hw 26 rfl)) Via.refl F_held e3 (hb hby d4_23) 26 rfl (fun T4 X5 e6 => ?_)
    show Go p e below _ T4 (mkF m 26 #[.val (.ref a), .val (.int x1), .val (.int x2), .val (.long mr), .second] [(.long hd), (.long mr), (.long x1.toInt64)])
    refine g_lsub X5 hx (hb hby d4_26) 27 rfl ?_
    refine g_lif_le X5 hx (hb hby d4_27) 28 rfl (hb hby d4_28) 51 31 (by decide) rfl rfl (fun q27 => ?_) (fun q27 => ?_)
    · refine g_aloadN X5 hx rfl rfl (hb hby d4_51) 52 rfl ?_
      refine g_dup X5 hx rfl (hb hby d4_52) 53 rfl ?_
      refine g_getfield X5 hx hZ hown (host := "") (Or.inl (wd hw 26 rfl)) Via.refl F_held e6 (hb hby d4_53) 56 rfl (fun T7 X8 e9 => ?_)
      show Go p e below _ T7 (mkF m 56 #[.val (.ref a), .val (.int x1), .val (.int x2), .val (.long mr), .second] [(.long hd), (.ref a)])
      refine g_iloadN X8 hx rfl (hb hby d4_56) 57 rfl ?_
      refine g_i2l X8 hx (hb hby d4_57) 58 rfl ?_
      refine g_ladd X8 hx (hb hby d4_58) 59 rfl ?_
      refine g_putfield X8 hx hZ hown (host := "") (Or.inl (wd hw 26 rfl)) Via.refl e9 F_held E_a (Or.inl (wd hw 27 rfl)) (wd hw 3 rfl) (ty := .long) (by decide) rfl rfl (hb hby d4_59) 62 rfl (fun T10 h11 X12 e13 W14 => ?_)
      have F15 := E_a.wr W14
      have F16 := F_limit.other W14 (Or.inr (slot_ne (Or.inr (wd hw 12 rfl)) (Or.inl (wd hw 27 rfl)) (by decide) (t := .long) (t' := .long) (by decide) (by decide)))
      have F17 := F_moreLimit.other W14 (Or.inr (slot_ne (Or.inr (wd hw 15 rfl)) (Or.inl (wd hw 27 rfl)) (by decide) (t := .long) (t' := .long) (by decide) (by decide)))
      have F18 := F_held.same W14
      have N19 := Fr.snoc X12 N0 g_a
      have szh20 : n0 ≤ h11.size := Nat.le_trans Z0 (Nat.le_of_eq W14.size.symm)
      have K21 := (Keep.refl h0 [a]).wr W14 (Or.inl (List.mem_of_getElem? (i := 0) rfl))
      show Go p e below _ T10 (mkF m 62 #[.val (.ref a), .val (.int x1), .val (.int x2), .val (.long mr), .second] [])
      exact g_retv X12 hx hret hlk (by decide) (by decide) (hb hby d4_62) (by rw [e13]; exact ⟨rfl, N19, K21, F15, F16, F17, F18⟩)
    · exact absurd (by rw [if_pos q4]; exact q27) hp
  · refine g_aloadN X0 hx rfl rfl (hb hby d4_7) 8 rfl ?_
    refine g_getfield X0 hx hZ hown (host := "") (Or.inl (wd hw 11 rfl)) Via.refl F_limit e0 (hb hby d4_8) 11 rfl (fun T22 X23 e24 => ?_)
    show Go p e below _ T22 (mkF m 11 #[.val (.ref a), .val (.int x1), .val (.int x2), .unset, .unset] [(.long lm)])
    refine g_goto X23 hx (hb hby d4_11) 18 (by decide) rfl ?_
    refine g_lstoreN X23 hx #[.val (.ref a), .val (.int x1), .val (.int x2), .val (.long lm), .second] rfl (hb hby d4_18) 19 rfl ?_
    refine g_iloadN X23 hx rfl (hb hby d4_19) 20 rfl ?_
    refine g_i2l X23 hx (hb hby d4_20) 21 rfl ?_
    refine g_lloadN X23 hx rfl (hb hby d4_21) 22 rfl ?_
    refine g_aloadN X23 hx rfl rfl (hb hby d4_22) 23 rfl ?_
    refine g_getfield X23 hx hZ hown (host := "") (Or.inl (wd hw 26 rfl)) Via.refl F_held e24 (hb hby d4_23) 26 rfl (fun T25 X26 e27 => ?_)
    show Go p e below _ T25 (mkF m 26 #[.val (.ref a), .val (.int x1), .val (.int x2), .val (.long lm), .second] [(.long hd), (.long lm), (.long x1.toInt64)])
    refine g_lsub X26 hx (hb hby d4_26) 27 rfl ?_
    refine g_lif_le X26 hx (hb hby d4_27) 28 rfl (hb hby d4_28) 51 31 (by decide) rfl rfl (fun q27 => ?_) (fun q27 => ?_)
    · refine g_aloadN X26 hx rfl rfl (hb hby d4_51) 52 rfl ?_
      refine g_dup X26 hx rfl (hb hby d4_52) 53 rfl ?_
      refine g_getfield X26 hx hZ hown (host := "") (Or.inl (wd hw 26 rfl)) Via.refl F_held e27 (hb hby d4_53) 56 rfl (fun T28 X29 e30 => ?_)
      show Go p e below _ T28 (mkF m 56 #[.val (.ref a), .val (.int x1), .val (.int x2), .val (.long lm), .second] [(.long hd), (.ref a)])
      refine g_iloadN X29 hx rfl (hb hby d4_56) 57 rfl ?_
      refine g_i2l X29 hx (hb hby d4_57) 58 rfl ?_
      refine g_ladd X29 hx (hb hby d4_58) 59 rfl ?_
      refine g_putfield X29 hx hZ hown (host := "") (Or.inl (wd hw 26 rfl)) Via.refl e30 F_held E_a (Or.inl (wd hw 27 rfl)) (wd hw 3 rfl) (ty := .long) (by decide) rfl rfl (hb hby d4_59) 62 rfl (fun T31 h32 X33 e34 W35 => ?_)
      have F36 := E_a.wr W35
      have F37 := F_limit.other W35 (Or.inr (slot_ne (Or.inr (wd hw 12 rfl)) (Or.inl (wd hw 27 rfl)) (by decide) (t := .long) (t' := .long) (by decide) (by decide)))
      have F38 := F_moreLimit.other W35 (Or.inr (slot_ne (Or.inr (wd hw 15 rfl)) (Or.inl (wd hw 27 rfl)) (by decide) (t := .long) (t' := .long) (by decide) (by decide)))
      have F39 := F_held.same W35
      have N40 := Fr.snoc X33 N0 g_a
      have szh41 : n0 ≤ h32.size := Nat.le_trans Z0 (Nat.le_of_eq W35.size.symm)
      have K42 := (Keep.refl h0 [a]).wr W35 (Or.inl (List.mem_of_getElem? (i := 0) rfl))
      show Go p e below _ T31 (mkF m 62 #[.val (.ref a), .val (.int x1), .val (.int x2), .val (.long lm), .second] [])
      exact g_retv X33 hx hret hlk (by decide) (by decide) (hb hby d4_62) (by rw [e34]; exact ⟨rfl, N40, K42, F36, F37, F38, F39⟩)
    · exact absurd (by rw [if_neg q4]; exact q27) hp
def Q6 (Z : State) (a : Addr) (x1 : Int32) (lm : Int64) (mr : Int64) (hd : Int64) (h0 : Heap) (n0 : Nat) (v : Option Value) (h : Heap) (L : List Loc) : Prop := v = none ∧ Fr n0 L ∧ Keep h0 h [a] ∧ Exa Z h a "com/example/usher/usher/FrameCodec$Room" ∧ Fld Z h a "com/example/usher/usher/FrameCodec$Room" "limit" "J" (.long lm) ∧ Fld Z h a "com/example/usher/usher/FrameCodec$Room" "moreLimit" "J" (.long mr) ∧ Fld Z h a "com/example/usher/usher/FrameCodec$Room" "held" "J" (.long (hd - x1.toInt64))
theorem ef6 (m : MethodId) (a : Addr) (x1 : Int32)  : entryFrame m #[(.ref a), (.int x1)] 2 = mkF m 0 #[.val (.ref a), .val (.int x1)] [] := by first | (simp [entryFrame, mkF, argsToLocals, Value.category]; done) | rfl
theorem d6_0 : decode prog_10_method_3_code 0 = .ok (.aload_n 0, 1) := by decide +kernel
theorem d6_1 : decode prog_10_method_3_code 1 = .ok (.dup, 1) := by decide +kernel
theorem d6_2 : decode prog_10_method_3_code 2 = .ok (.getfield 20, 3) := by decide +kernel
theorem d6_5 : decode prog_10_method_3_code 5 = .ok (.iload_n 1, 1) := by decide +kernel
theorem d6_6 : decode prog_10_method_3_code 6 = .ok (.i2l, 1) := by decide +kernel
theorem d6_7 : decode prog_10_method_3_code 7 = .ok (.lsub, 1) := by decide +kernel
theorem d6_8 : decode prog_10_method_3_code 8 = .ok (.putfield 20, 3) := by decide +kernel
theorem d6_11 : decode prog_10_method_3_code 11 = .ok (.return_, 1) := by decide +kernel
set_option maxRecDepth 65536 in
set_option maxHeartbeats 40000000 in
theorem co6 (l : Launch) (Z : State) (a0 : Array Value) (hw : ∀ d ∈ tables_1, d.before a0 Z = true) (a : Addr) (x1 : Int32) (lm : Int64) (mr : Int64) (hd : Int64) (h0 : Heap) (n0 : Nat) (Z0 : n0 ≤ h0.size)  (g_a : n0 ≤ a) (E_a : Exa Z h0 a "com/example/usher/usher/FrameCodec$Room") (F_limit : Fld Z h0 a "com/example/usher/usher/FrameCodec$Room" "limit" "J" (.long lm)) (F_moreLimit : Fld Z h0 a "com/example/usher/usher/FrameCodec$Room" "moreLimit" "J" (.long mr)) (F_held : Fld Z h0 a "com/example/usher/usher/FrameCodec$Room" "held" "J" (.long hd)) : Co l (⟨"com/example/usher/usher/FrameCodec$Room", "give", "(I)V"⟩ : MethodName) prog_10_method_3_code 2 none [] ({ frames := 0, cells := 0, slots := 0, locals := 0 } : Room) Z h0 #[(.ref a), (.int x1)] (Q6 Z a x1 lm mr hd h0 n0) := by
  refine Co.of (plainFor_of_name pn_0) ?_
  intro p e s m below meth c T0 X0 hx hby hml hown hnm hret hlk hZ e0
  have N0 := Fr.nil n0
  refine Go.cast (ef6 m a x1 ) ?_
  refine g_aloadN X0 hx rfl rfl (hb hby d6_0) 1 rfl ?_
  refine g_dup X0 hx rfl (hb hby d6_1) 2 rfl ?_
  refine g_getfield X0 hx hZ hown (host := "") (Or.inl (wd hw 26 rfl)) Via.refl F_held e0 (hb hby d6_2) 5 rfl (fun T1 X2 e3 => ?_)
  show Go p e below _ T1 (mkF m 5 #[.val (.ref a), .val (.int x1)] [(.long hd), (.ref a)])
  refine g_iloadN X2 hx rfl (hb hby d6_5) 6 rfl ?_
  refine g_i2l X2 hx (hb hby d6_6) 7 rfl ?_
  refine g_lsub X2 hx (hb hby d6_7) 8 rfl ?_
  refine g_putfield X2 hx hZ hown (host := "") (Or.inl (wd hw 26 rfl)) Via.refl e3 F_held E_a (Or.inl (wd hw 27 rfl)) (wd hw 3 rfl) (ty := .long) (by decide) rfl rfl (hb hby d6_8) 11 rfl (fun T4 h5 X6 e7 W8 => ?_)
  have F9 := E_a.wr W8
  have F10 := F_limit.other W8 (Or.inr (slot_ne (Or.inr (wd hw 12 rfl)) (Or.inl (wd hw 27 rfl)) (by decide) (t := .long) (t' := .long) (by decide) (by decide)))
  have F11 := F_moreLimit.other W8 (Or.inr (slot_ne (Or.inr (wd hw 15 rfl)) (Or.inl (wd hw 27 rfl)) (by decide) (t := .long) (t' := .long) (by decide) (by decide)))
  have F12 := F_held.same W8
  have N13 := Fr.snoc X6 N0 g_a
  have szh14 : n0 ≤ h5.size := Nat.le_trans Z0 (Nat.le_of_eq W8.size.symm)
  have K15 := (Keep.refl h0 [a]).wr W8 (Or.inl (List.mem_of_getElem? (i := 0) rfl))
  show Go p e below _ T4 (mkF m 11 #[.val (.ref a), .val (.int x1)] [])
  exact g_retv X6 hx hret hlk (by decide) (by decide) (hb hby d6_11) (by rw [e7]; exact ⟨rfl, N13, K15, F9, F10, F11, F12⟩)
theorem d3_0 : decode method_2_code 0 = .ok (.iload_n 0, 1) := by decide +kernel
theorem d3_1 : decode method_2_code 1 = .ok (.sipush 4096, 3) := by decide +kernel
theorem d3_4 : decode method_2_code 4 = .ok (.if_icmp .gt 7, 3) := by decide +kernel
theorem d3_11 : decode method_2_code 11 = .ok (.lload_n 1, 1) := by decide +kernel
theorem d3_12 : decode method_2_code 12 = .ok (.lload_n 1, 1) := by decide +kernel
theorem d3_13 : decode method_2_code 13 = .ok (.ldc2_w 7, 3) := by decide +kernel
theorem d3_16 : decode method_2_code 16 = .ok (.ldiv, 1) := by decide +kernel
theorem d3_17 : decode method_2_code 17 = .ok (.lsub, 1) := by decide +kernel
theorem d3_7 : decode method_2_code 7 = .ok (.lload_n 1, 1) := by decide +kernel
theorem d3_8 : decode method_2_code 8 = .ok (.goto 10, 3) := by decide +kernel
def f3 (x0 : Int32) (lm : Int64) : Int64 := if (4096 : Int32) < x0 then (lm - (lm / (4 : Int64))) else lm
theorem ef3 (m : MethodId) (x0 : Int32) (lm : Int64)  : entryFrame m #[(.int x0), (.long lm)] 3 = mkF m 0 #[.val (.int x0), .val (.long lm), .second] [] := by first | (simp [entryFrame, mkF, argsToLocals, Value.category]; done) | rfl
theorem pn_1 : plainName "com/example/usher/usher/RoomTakePinLaw" = true := by first | (simp [plainName, overriddenIn]; done) | decide +kernel
theorem d3_18 : decode method_2_code 18 = .ok (.lreturn, 1) := by decide +kernel
set_option maxRecDepth 65536 in
set_option maxHeartbeats 40000000 in
theorem co3 (l : Launch) (Z : State) (a0 : Array Value) (hw : ∀ d ∈ tables_1, d.before a0 Z = true) (x0 : Int32) (lm : Int64) (h0 : Heap)  : Co l (⟨"com/example/usher/usher/RoomTakePinLaw", "most", "(IJ)J"⟩ : MethodName) method_2_code 3 (some .long) [] ({ frames := 0, cells := 0, slots := 0, locals := 0 } : Room) Z h0 #[(.int x0), (.long lm)] (Pu h0 (some (.long (f3 x0 lm)))) := by
  refine Co.of (plainFor_of_name pn_1) ?_
  intro p e s m below meth c T0 X0 hx hby hml hown hnm hret hlk hZ e0
  refine Go.cast (ef3 m x0 lm ) ?_
  refine g_iloadN X0 hx rfl (hb hby d3_0) 1 rfl ?_
  refine g_sipush X0 hx (4096 : Int32) rfl (hb hby d3_1) 4 rfl ?_
  refine g_icmp_gt X0 hx (hb hby d3_4) 11 7 (by decide) rfl rfl (fun q4 => ?_) (fun q4 => ?_)
  · refine g_lloadN X0 hx rfl (hb hby d3_11) 12 rfl ?_
    refine g_lloadN X0 hx rfl (hb hby d3_12) 13 rfl ?_
    refine g_ldc2_w X0 hx hZ hown (wd hw 1 rfl) (hb hby d3_13) 16 rfl ?_
    refine g_ldiv X0 hx (by decide) (hb hby d3_16) 17 rfl ?_
    refine g_lsub X0 hx (hb hby d3_17) 18 rfl ?_
    exact g_retl X0 hx hret hlk (by decide) (by decide) (hb hby d3_18) ⟨congrArg (fun z => some (Value.long z)) (show f3 x0 lm = _ from ((if_pos q4).trans rfl)).symm, e0, rfl⟩
  · refine g_lloadN X0 hx rfl (hb hby d3_7) 8 rfl ?_
    refine g_goto X0 hx (hb hby d3_8) 18 (by decide) rfl ?_
    exact g_retl X0 hx hret hlk (by decide) (by decide) (hb hby d3_18) ⟨congrArg (fun z => some (Value.long z)) (show f3 x0 lm = _ from ((if_neg q4).trans rfl)).symm, e0, rfl⟩
theorem d5_0 : decode method_3_code 0 = .ok (.iload_n 3, 1) := by decide +kernel
theorem d5_1 : decode method_3_code 1 = .ok (.ifCond .ne 17, 3) := by decide +kernel
theorem d5_18 : decode method_3_code 18 = .ok (.iload_n 2, 1) := by decide +kernel
theorem d5_19 : decode method_3_code 19 = .ok (.ldc 13, 2) := by decide +kernel
theorem d5_21 : decode method_3_code 21 = .ok (.iand, 1) := by decide +kernel
theorem d5_4 : decode method_3_code 4 = .ok (.lload_n 0, 1) := by decide +kernel
theorem d5_5 : decode method_3_code 5 = .ok (.lconst 0, 1) := by decide +kernel
theorem d5_6 : decode method_3_code 6 = .ok (.lcmp, 1) := by decide +kernel
theorem d5_7 : decode method_3_code 7 = .ok (.ifCond .lt 11, 3) := by decide +kernel
theorem d5_10 : decode method_3_code 10 = .ok (.lload_n 0, 1) := by decide +kernel
theorem d5_11 : decode method_3_code 11 = .ok (.ldc2_w 11, 3) := by decide +kernel
theorem d5_14 : decode method_3_code 14 = .ok (.lcmp, 1) := by decide +kernel
theorem d5_15 : decode method_3_code 15 = .ok (.ifCond .le 8, 3) := by decide +kernel
theorem d5_23 : decode method_3_code 23 = .ok (.lload_n 0, 1) := by decide +kernel
theorem d5_24 : decode method_3_code 24 = .ok (.l2i, 1) := by decide +kernel
def f5 (ed : Int64) (x1 : Int32) (x2 : Int32) : Int32 := if x2 = (0 : Int32) then (if ed < (0 : Int64) then (x1 &&& (2147483647 : Int32)) else (if (2147483647 : Int64) < ed then (x1 &&& (2147483647 : Int32)) else ed.toInt32)) else (x1 &&& (2147483647 : Int32))
theorem ef5 (m : MethodId) (ed : Int64) (x1 : Int32) (x2 : Int32)  : entryFrame m #[(.long ed), (.int x1), (.int x2)] 4 = mkF m 0 #[.val (.long ed), .second, .val (.int x1), .val (.int x2)] [] := by first | (simp [entryFrame, mkF, argsToLocals, Value.category]; done) | rfl
theorem d5_22 : decode method_3_code 22 = .ok (.ireturn, 1) := by decide +kernel
theorem d5_25 : decode method_3_code 25 = .ok (.ireturn, 1) := by decide +kernel
set_option maxRecDepth 65536 in
set_option maxHeartbeats 40000000 in
theorem co5 (l : Launch) (Z : State) (a0 : Array Value) (hw : ∀ d ∈ tables_1, d.before a0 Z = true) (ed : Int64) (x1 : Int32) (x2 : Int32) (h0 : Heap)  : Co l (⟨"com/example/usher/usher/RoomTakePinLaw", "pick", "(JIZ)I"⟩ : MethodName) method_3_code 4 (some .int) [] ({ frames := 0, cells := 0, slots := 0, locals := 0 } : Room) Z h0 #[(.long ed), (.int x1), (.int x2)] (Pu h0 (some (.int (f5 ed x1 x2)))) := by
  refine Co.of (plainFor_of_name pn_1) ?_
  intro p e s m below meth c T0 X0 hx hby hml hown hnm hret hlk hZ e0
  refine Go.cast (ef5 m ed x1 x2 ) ?_
  refine g_iloadN X0 hx rfl (hb hby d5_0) 1 rfl ?_
  refine g_if_ne X0 hx (hb hby d5_1) 18 4 (by decide) rfl rfl (fun q1 => ?_) (fun q1 => ?_)
  · refine g_iloadN X0 hx rfl (hb hby d5_18) 19 rfl ?_
    refine g_ldc X0 hx hZ hown (wd hw 16 rfl) (hb hby d5_19) 21 rfl ?_
    refine g_iand X0 hx (hb hby d5_21) 22 rfl ?_
    exact g_reti X0 hx hret hlk (by decide) (by decide) (hb hby d5_22) ⟨congrArg (fun z => some (Value.int z)) (show f5 ed x1 x2 = _ from ((if_neg q1).trans rfl)).symm, e0, rfl⟩
  · refine g_lloadN X0 hx rfl (hb hby d5_4) 5 rfl ?_
    refine g_lconst X0 hx (0 : Int64) rfl (hb hby d5_5) 6 rfl ?_
    refine g_lif_lt X0 hx (hb hby d5_6) 7 rfl (hb hby d5_7) 18 10 (by decide) rfl rfl (fun q6 => ?_) (fun q6 => ?_)
    · refine g_iloadN X0 hx rfl (hb hby d5_18) 19 rfl ?_
      refine g_ldc X0 hx hZ hown (wd hw 16 rfl) (hb hby d5_19) 21 rfl ?_
      refine g_iand X0 hx (hb hby d5_21) 22 rfl ?_
      exact g_reti X0 hx hret hlk (by decide) (by decide) (hb hby d5_22) ⟨congrArg (fun z => some (Value.int z)) (show f5 ed x1 x2 = _ from ((if_pos q1).trans ((if_pos q6).trans rfl))).symm, e0, rfl⟩
    · refine g_lloadN X0 hx rfl (hb hby d5_10) 11 rfl ?_
      refine g_ldc2_w X0 hx hZ hown (wd hw 36 rfl) (hb hby d5_11) 14 rfl ?_
      refine g_lif_le X0 hx (hb hby d5_14) 15 rfl (hb hby d5_15) 23 18 (by decide) rfl rfl (fun q14 => ?_) (fun q14 => ?_)
      · refine g_lloadN X0 hx rfl (hb hby d5_23) 24 rfl ?_
        refine g_l2i X0 hx (hb hby d5_24) 25 rfl ?_
        exact g_reti X0 hx hret hlk (by decide) (by decide) (hb hby d5_25) ⟨congrArg (fun z => some (Value.int z)) (show f5 ed x1 x2 = _ from ((if_pos q1).trans ((if_neg q6).trans ((if_neg q14).trans rfl)))).symm, e0, rfl⟩
      · refine g_iloadN X0 hx rfl (hb hby d5_18) 19 rfl ?_
        refine g_ldc X0 hx hZ hown (wd hw 16 rfl) (hb hby d5_19) 21 rfl ?_
        refine g_iand X0 hx (hb hby d5_21) 22 rfl ?_
        exact g_reti X0 hx hret hlk (by decide) (by decide) (hb hby d5_22) ⟨congrArg (fun z => some (Value.int z)) (show f5 ed x1 x2 = _ from ((if_pos q1).trans ((if_neg q6).trans ((if_pos q14).trans rfl)))).symm, e0, rfl⟩
theorem own_c1 (a : Int64) : ((0 : Int64) + a) - a = 0 := by
  have e1 := c_ladd 0 a
  have e2 := c_lsub (0 + a) a
  have r := rng64 ((0 + a) - a)
  apply Int64.toInt_inj.mp
  simp only [show (0 : Int64).toInt = 0 from rfl] at *
  omega
theorem own_c2 (a b : Int64) : ((((0 : Int64) + a) + b) - a) - b = 0 := by
  have e1 := c_ladd 0 a
  have e2 := c_ladd (0 + a) b
  have e3 := c_lsub ((0 + a) + b) a
  have e4 := c_lsub (((0 + a) + b) - a) b
  have r := rng64 ((((0 + a) + b) - a) - b)
  apply Int64.toInt_inj.mp
  simp only [show (0 : Int64).toInt = 0 from rfl] at *
  omega
theorem ef0 (m : MethodId) (x0 : Int64) (x1 : Int32) (x2 : Int32) (x3 : Int32) (x4 : Int32) (x5 : Int32)  : entryFrame m #[(.long x0), (.int x1), (.int x2), (.int x3), (.int x4), (.int x5)] maxLocals = mkF m 0 #[.val (.long x0), .second, .val (.int x1), .val (.int x2), .val (.int x3), .val (.int x4), .val (.int x5), .unset, .unset, .unset, .unset, .unset, .unset, .unset, .unset, .unset, .unset, .unset, .unset, .unset, .unset, .unset, .unset, .unset] [] := by first | (simp [entryFrame, mkF, argsToLocals, Value.category, maxLocals]; done) | rfl
theorem pd_0 : parseMethodDescriptor "(J)V" = some ⟨[.long], none⟩ := by decide +kernel
theorem pd_1 : parseMethodDescriptor "(IJ)J" = some ⟨[.int, .long], some .long⟩ := by decide +kernel
theorem pd_2 : parseMethodDescriptor "(JIZ)I" = some ⟨[.long, .int, .boolean], some .int⟩ := by decide +kernel
theorem pd_3 : parseMethodDescriptor "(II)V" = some ⟨[.int, .int], none⟩ := by decide +kernel
theorem pd_4 : parseMethodDescriptor "(I)V" = some ⟨[.int], none⟩ := by decide +kernel
set_option maxRecDepth 65536 in
set_option maxHeartbeats 40000000 in
theorem rm0 (l : Launch) (Z : State) (a0 : Array Value) (hw : ∀ d ∈ tables_1, d.before a0 Z = true) (ws : List Jvm.Cond) (x0 : Int64) (x1 : Int32) (x2 : Int32) (x3 : Int32) (x4 : Int32) (x5 : Int32) (h0 : Heap)  : Co l x code maxLocals ret ws room_1 Z h0 #[(.long x0), (.int x1), (.int x2), (.int x3), (.int x4), (.int x5)] (fun v h L => v = some (.int 1) ∧ Fr h0.size L) := by
  refine Co.of (plainFor_of_name pn_1) ?_
  intro p e s m below meth c T0 X0 hx hby hml hown hnm hret hlk hZ e0
  have N0 := Fr.nil h0.size
  refine Go.cast (ef0 m x0 x1 x2 x3 x4 x5) ?_
  refine g_lloadN X0 hx rfl (hb hby at_0) 1 rfl ?_
  refine g_ldc2_w X0 hx hZ hown (wd hw 0 rfl) (hb hby at_1) 4 rfl ?_
  refine g_land X0 hx (hb hby at_4) 5 rfl ?_
  generalize hv1 : (x0 &&& (9223372036854775807 : Int64)) = v1
  refine g_lstore X0 hx #[.val (.long x0), .second, .val (.int x1), .val (.int x2), .val (.int x3), .val (.int x4), .val (.int x5), .val (.long v1), .second, .unset, .unset, .unset, .unset, .unset, .unset, .unset, .unset, .unset, .unset, .unset, .unset, .unset, .unset, .unset] rfl (hb hby at_5) 7 rfl ?_
  refine g_lload X0 hx rfl (hb hby at_7) 9 rfl ?_
  refine g_lload X0 hx rfl (hb hby at_9) 11 rfl ?_
  refine g_ldc2_w X0 hx hZ hown (wd hw 1 rfl) (hb hby at_11) 14 rfl ?_
  refine g_ldiv X0 hx (by decide) (hb hby at_14) 15 rfl ?_
  refine g_lsub X0 hx (hb hby at_15) 16 rfl ?_
  generalize hv2 : (v1 - (v1 / (4 : Int64))) = v2
  refine g_lstore X0 hx #[.val (.long x0), .second, .val (.int x1), .val (.int x2), .val (.int x3), .val (.int x4), .val (.int x5), .val (.long v1), .second, .val (.long v2), .second, .unset, .unset, .unset, .unset, .unset, .unset, .unset, .unset, .unset, .unset, .unset, .unset, .unset] rfl (hb hby at_16) 18 rfl ?_
  refine g_new X0 hx hZ hown (wd hw 2 rfl) (wd hw 3 rfl) (wd hw 4 rfl) e0 (hb hby at_18) (by decide) (by decide) 21 rfl (fun T3 h4 b5 X6 e7 g8 E9 A10 D11 => ?_)
  have sz12 : h0.size ≤ b5 := Nat.le_trans (Nat.le_refl h0.size) (Nat.le_of_eq g8.symm)
  have szh13 : h0.size ≤ h4.size := Nat.le_trans (Nat.le_refl h0.size) E9.1
  have F14 : Fld Z h4 b5 "com/example/usher/usher/FrameCodec$Room" "limit" "J" (.long (0 : Int64)) := D11 (Or.inr (wd hw 12 rfl)) (ty := .long) (by decide)
  have F15 : Fld Z h4 b5 "com/example/usher/usher/FrameCodec$Room" "moreLimit" "J" (.long (0 : Int64)) := D11 (Or.inr (wd hw 15 rfl)) (ty := .long) (by decide)
  have F16 : Fld Z h4 b5 "com/example/usher/usher/FrameCodec$Room" "held" "J" (.long (0 : Int64)) := D11 (Or.inl (wd hw 27 rfl)) (ty := .long) (by decide)
  show Go p e below _ T3 (mkF m 21 #[.val (.long x0), .second, .val (.int x1), .val (.int x2), .val (.int x3), .val (.int x4), .val (.int x5), .val (.long v1), .second, .val (.long v2), .second, .unset, .unset, .unset, .unset, .unset, .unset, .unset, .unset, .unset, .unset, .unset, .unset, .unset] [(.ref b5)])
  refine g_dup X6 hx rfl (hb hby at_21) 22 rfl ?_
  refine g_lload X6 hx rfl (hb hby at_22) 24 rfl ?_
  refine g_init X6 hx hZ hown (wd hw 5 rfl) rfl (wd hw 6 rfl) (wd hw 4 rfl) (wd hw 7 rfl) (by decide) e7 [(.long v1)] [(.ref b5)] rfl (co1 l Z a0 hw b5 v1 h4 h0.size szh13 sz12 A10 F14 F15 F16) (lenOf pd_0 rfl) 1 (Nat.le_of_eq rfl) (by decide) (by decide) (by decide) (by decide) (by rw [hml]; rfl) (hb hby at_24) 27 rfl (fun r17 T18 L19 X20 Q21 => ?_)
  obtain ⟨h22, e23⟩ : ∃ h, T18.heap = h := ⟨_, rfl⟩
  rw [e23] at Q21
  obtain ⟨rfl, n24, K25, E26, F27, F28, F29⟩ := Q21
  have N30 := Fr.app N0 n24
  have F31 := A10.keep K25
  have szh32 : h0.size ≤ h22.size := Nat.le_trans szh13 K25.1
  show Go p e below _ T18 (mkF m 27 #[.val (.long x0), .second, .val (.int x1), .val (.int x2), .val (.int x3), .val (.int x4), .val (.int x5), .val (.long v1), .second, .val (.long v2), .second, .unset, .unset, .unset, .unset, .unset, .unset, .unset, .unset, .unset, .unset, .unset, .unset, .unset] [(.ref b5)])
  refine g_astore X20 hx #[.val (.long x0), .second, .val (.int x1), .val (.int x2), .val (.int x3), .val (.int x4), .val (.int x5), .val (.long v1), .second, .val (.long v2), .second, .val (.ref b5), .unset, .unset, .unset, .unset, .unset, .unset, .unset, .unset, .unset, .unset, .unset, .unset] rfl rfl (hb hby at_27) 29 rfl ?_
  refine g_lconst X20 hx (0 : Int64) rfl (hb hby at_29) 30 rfl ?_
  refine g_lstore X20 hx #[.val (.long x0), .second, .val (.int x1), .val (.int x2), .val (.int x3), .val (.int x4), .val (.int x5), .val (.long v1), .second, .val (.long v2), .second, .val (.ref b5), .val (.long (0 : Int64)), .second, .unset, .unset, .unset, .unset, .unset, .unset, .unset, .unset, .unset, .unset] rfl (hb hby at_30) 32 rfl ?_
  refine g_iloadN X20 hx rfl (hb hby at_32) 33 rfl ?_
  refine g_ldc X20 hx hZ hown (wd hw 16 rfl) (hb hby at_33) 35 rfl ?_
  refine g_iand X20 hx (hb hby at_35) 36 rfl ?_
  generalize hv33 : (x1 &&& (2147483647 : Int32)) = v33
  refine g_istore X20 hx #[.val (.long x0), .second, .val (.int x1), .val (.int x2), .val (.int x3), .val (.int x4), .val (.int x5), .val (.long v1), .second, .val (.long v2), .second, .val (.ref b5), .val (.long (0 : Int64)), .second, .val (.int v33), .unset, .unset, .unset, .unset, .unset, .unset, .unset, .unset, .unset] rfl (hb hby at_36) 38 rfl ?_
  refine g_iload X20 hx rfl (hb hby at_38) 40 rfl ?_
  refine g_i2l X20 hx (hb hby at_40) 41 rfl ?_
  refine g_iload X20 hx rfl (hb hby at_41) 43 rfl ?_
  refine g_lload X20 hx rfl (hb hby at_43) 45 rfl ?_
  refine g_callS X20 hx hZ hown (wd hw 17 rfl) (wd hw 18 rfl) (wd hw 19 rfl) (wd hw 20 rfl) (by decide) e23 [(.int v33), (.long v1)] [(.long v33.toInt64)]  rfl (co3 l Z a0 hw v33 v1  h22 ) (lenOf pd_1 rfl) 2 (Nat.le_of_eq rfl) (by decide) (by decide) (by decide) (by decide) (by rw [hml]; rfl) (hb hby at_45) 48 rfl (pu_cont fun T35 X34 e36 => ?_)
  show Go p e below _ T35 (mkF m 48 #[.val (.long x0), .second, .val (.int x1), .val (.int x2), .val (.int x3), .val (.int x4), .val (.int x5), .val (.long v1), .second, .val (.long v2), .second, .val (.ref b5), .val (.long (0 : Int64)), .second, .val (.int v33), .unset, .unset, .unset, .unset, .unset, .unset, .unset, .unset, .unset] [(.long (f3 v33 v1)), (.long v33.toInt64)])
  refine g_lload X34 hx rfl (hb hby at_48) 50 rfl ?_
  refine g_lsub X34 hx (hb hby at_50) 51 rfl ?_
  refine g_lif_gt X34 hx (hb hby at_51) 52 rfl (hb hby at_52) 59 55 (by decide) rfl rfl (fun q51 => ?_) (fun q51 => ?_)
  · refine g_iconst X34 hx (0 : Int32) rfl (hb hby at_59) 60 rfl ?_
    refine g_istore X34 hx #[.val (.long x0), .second, .val (.int x1), .val (.int x2), .val (.int x3), .val (.int x4), .val (.int x5), .val (.long v1), .second, .val (.long v2), .second, .val (.ref b5), .val (.long (0 : Int64)), .second, .val (.int v33), .val (.int (0 : Int32)), .unset, .unset, .unset, .unset, .unset, .unset, .unset, .unset] rfl (hb hby at_60) 62 rfl ?_
    refine g_iload X34 hx rfl (hb hby at_62) 64 rfl ?_
    refine g_if_eq X34 hx (hb hby at_64) 84 67 (by decide) rfl rfl (fun q64 => ?_) (fun q64 => ?_)
    · refine g_iload X34 hx rfl (hb hby at_84) 86 rfl ?_
      refine g_iconst X34 hx (2 : Int32) rfl (hb hby at_86) 87 rfl ?_
      refine g_iand X34 hx (hb hby at_87) 88 rfl ?_
      refine Go.joinT (α := Int64) X34 e36 (fun z => mkF m 98 #[.val (.long x0), .second, .val (.int x1), .val (.int x2), .val (.int x3), .val (.int x4), .val (.int x5), .val (.long v1), .second, .val (.long v2), .second, .val (.ref b5), .val (.long (0 : Int64)), .second, .val (.int v33), .val (.int (0 : Int32)), .unset, .unset, .unset, .unset, .unset, .unset, .unset, .unset] [(.long z)]) (fun z => z = (if (x4 &&& (2 : Int32)) = (0 : Int32) then v2 else v1)) ?_ (fun J38 => ?_)
      · rintro T39 X40 e41 z37 hz37
        show Go p e below _ T39 (mkF m 98 #[.val (.long x0), .second, .val (.int x1), .val (.int x2), .val (.int x3), .val (.int x4), .val (.int x5), .val (.long v1), .second, .val (.long v2), .second, .val (.ref b5), .val (.long (0 : Int64)), .second, .val (.int v33), .val (.int (0 : Int32)), .unset, .unset, .unset, .unset, .unset, .unset, .unset, .unset] [(.long z37)])
        refine g_lload X40 hx rfl (hb hby at_98) 100 rfl ?_
        refine g_lsub X40 hx (hb hby at_100) 101 rfl ?_
        refine g_iloadN X40 hx rfl (hb hby at_101) 102 rfl ?_
        refine g_iconst X40 hx (3 : Int32) rfl (hb hby at_102) 103 rfl ?_
        refine g_iand X40 hx (hb hby at_103) 104 rfl ?_
        refine g_i2l X40 hx (hb hby at_104) 105 rfl ?_
        refine g_lsub X40 hx (hb hby at_105) 106 rfl ?_
        generalize hv44 : ((z37 - (0 : Int64)) - (x2 &&& (3 : Int32)).toInt64) = v44
        refine g_lstore X40 hx #[.val (.long x0), .second, .val (.int x1), .val (.int x2), .val (.int x3), .val (.int x4), .val (.int x5), .val (.long v1), .second, .val (.long v2), .second, .val (.ref b5), .val (.long (0 : Int64)), .second, .val (.int v33), .val (.int (0 : Int32)), .val (.long v44), .second, .unset, .unset, .unset, .unset, .unset, .unset] rfl (hb hby at_106) 108 rfl ?_
        refine g_lload X40 hx rfl (hb hby at_108) 110 rfl ?_
        refine g_iloadN X40 hx rfl (hb hby at_110) 111 rfl ?_
        refine g_iload X40 hx rfl (hb hby at_111) 113 rfl ?_
        refine g_iconst X40 hx (1 : Int32) rfl (hb hby at_113) 114 rfl ?_
        refine g_iand X40 hx (hb hby at_114) 115 rfl ?_
        refine Go.joinT (α := Int32) X40 e41 (fun z => mkF m 123 #[.val (.long x0), .second, .val (.int x1), .val (.int x2), .val (.int x3), .val (.int x4), .val (.int x5), .val (.long v1), .second, .val (.long v2), .second, .val (.ref b5), .val (.long (0 : Int64)), .second, .val (.int v33), .val (.int (0 : Int32)), .val (.long v44), .second, .unset, .unset, .unset, .unset, .unset, .unset] [(.int z), (.int x2), (.long v44)]) (fun z => z = (if (x4 &&& (1 : Int32)) = (0 : Int32) then (0 : Int32) else (1 : Int32))) ?_ (fun J46 => ?_)
        · rintro T47 X48 e49 z45 hz45
          show Go p e below _ T47 (mkF m 123 #[.val (.long x0), .second, .val (.int x1), .val (.int x2), .val (.int x3), .val (.int x4), .val (.int x5), .val (.long v1), .second, .val (.long v2), .second, .val (.ref b5), .val (.long (0 : Int64)), .second, .val (.int v33), .val (.int (0 : Int32)), .val (.long v44), .second, .unset, .unset, .unset, .unset, .unset, .unset] [(.int z45), (.int x2), (.long v44)])
          refine g_callS X48 hx hZ hown (wd hw 28 rfl) (wd hw 29 rfl) (wd hw 19 rfl) (wd hw 30 rfl) (by decide) e49 [(.long v44), (.int x2), (.int z45)] []  rfl (co5 l Z a0 hw v44 x2 z45  h22 ) (lenOf pd_2 rfl) 0 (Nat.le_of_eq rfl) (by decide) (by decide) (by decide) (by decide) (by rw [hml]; rfl) (hb hby at_123) 126 rfl (pu_cont fun T53 X52 e54 => ?_)
          show Go p e below _ T53 (mkF m 126 #[.val (.long x0), .second, .val (.int x1), .val (.int x2), .val (.int x3), .val (.int x4), .val (.int x5), .val (.long v1), .second, .val (.long v2), .second, .val (.ref b5), .val (.long (0 : Int64)), .second, .val (.int v33), .val (.int (0 : Int32)), .val (.long v44), .second, .unset, .unset, .unset, .unset, .unset, .unset] [(.int (f5 v44 x2 z45))])
          generalize hv55 : (f5 v44 x2 z45) = v55
          refine g_istore X52 hx #[.val (.long x0), .second, .val (.int x1), .val (.int x2), .val (.int x3), .val (.int x4), .val (.int x5), .val (.long v1), .second, .val (.long v2), .second, .val (.ref b5), .val (.long (0 : Int64)), .second, .val (.int v33), .val (.int (0 : Int32)), .val (.long v44), .second, .val (.int v55), .unset, .unset, .unset, .unset, .unset] rfl (hb hby at_126) 128 rfl ?_
          refine g_iload X52 hx rfl (hb hby at_128) 130 rfl ?_
          refine g_i2l X52 hx (hb hby at_130) 131 rfl ?_
          refine g_iload X52 hx rfl (hb hby at_131) 133 rfl ?_
          refine g_lload X52 hx rfl (hb hby at_133) 135 rfl ?_
          refine g_callS X52 hx hZ hown (wd hw 17 rfl) (wd hw 18 rfl) (wd hw 19 rfl) (wd hw 20 rfl) (by decide) e54 [(.int v55), (.long v1)] [(.long v55.toInt64)]  rfl (co3 l Z a0 hw v55 v1  h22 ) (lenOf pd_1 rfl) 2 (Nat.le_of_eq rfl) (by decide) (by decide) (by decide) (by decide) (by rw [hml]; rfl) (hb hby at_135) 138 rfl (pu_cont fun T57 X56 e58 => ?_)
          show Go p e below _ T57 (mkF m 138 #[.val (.long x0), .second, .val (.int x1), .val (.int x2), .val (.int x3), .val (.int x4), .val (.int x5), .val (.long v1), .second, .val (.long v2), .second, .val (.ref b5), .val (.long (0 : Int64)), .second, .val (.int v33), .val (.int (0 : Int32)), .val (.long v44), .second, .val (.int v55), .unset, .unset, .unset, .unset, .unset] [(.long (f3 v55 v1)), (.long v55.toInt64)])
          refine g_lload X56 hx rfl (hb hby at_138) 140 rfl ?_
          refine g_lsub X56 hx (hb hby at_140) 141 rfl ?_
          refine g_lif_gt X56 hx (hb hby at_141) 142 rfl (hb hby at_142) 149 145 (by decide) rfl rfl (fun q141 => ?_) (fun q141 => ?_)
          · refine g_iconst X56 hx (0 : Int32) rfl (hb hby at_149) 150 rfl ?_
            refine g_istore X56 hx #[.val (.long x0), .second, .val (.int x1), .val (.int x2), .val (.int x3), .val (.int x4), .val (.int x5), .val (.long v1), .second, .val (.long v2), .second, .val (.ref b5), .val (.long (0 : Int64)), .second, .val (.int v33), .val (.int (0 : Int32)), .val (.long v44), .second, .val (.int v55), .val (.int (0 : Int32)), .unset, .unset, .unset, .unset] rfl (hb hby at_150) 152 rfl ?_
            refine g_iload X56 hx rfl (hb hby at_152) 154 rfl ?_
            refine g_if_eq X56 hx (hb hby at_154) 174 157 (by decide) rfl rfl (fun q154 => ?_) (fun q154 => ?_)
            · refine g_iload X56 hx rfl (hb hby at_174) 176 rfl ?_
              refine g_if_eq X56 hx (hb hby at_176) 186 179 (by decide) rfl rfl (fun q176 => ?_) (fun q176 => ?_)
              · refine g_iload X56 hx rfl (hb hby at_186) 188 rfl ?_
                refine g_if_eq X56 hx (hb hby at_188) 198 191 (by decide) rfl rfl (fun q188 => ?_) (fun q188 => ?_)
                · refine g_lconst X56 hx (0 : Int64) rfl (hb hby at_198) 199 rfl ?_
                  refine g_lstore X56 hx #[.val (.long x0), .second, .val (.int x1), .val (.int x2), .val (.int x3), .val (.int x4), .val (.int x5), .val (.long v1), .second, .val (.long v2), .second, .val (.ref b5), .val (.long (0 : Int64)), .second, .val (.int v33), .val (.int (0 : Int32)), .val (.long v44), .second, .val (.int v55), .val (.int (0 : Int32)), .unset, .unset, .unset, .unset] rfl (hb hby at_199) 201 rfl ?_
                  refine g_iload X56 hx rfl (hb hby at_201) 203 rfl ?_
                  refine g_bipush X56 hx (8 : Int32) rfl (hb hby at_203) 205 rfl ?_
                  refine g_iand X56 hx (hb hby at_205) 206 rfl ?_
                  refine Go.joinT (α := Int64) X56 e58 (fun z => mkF m 216 #[.val (.long x0), .second, .val (.int x1), .val (.int x2), .val (.int x3), .val (.int x4), .val (.int x5), .val (.long v1), .second, .val (.long v2), .second, .val (.ref b5), .val (.long (0 : Int64)), .second, .val (.int v33), .val (.int (0 : Int32)), .val (.long v44), .second, .val (.int v55), .val (.int (0 : Int32)), .unset, .unset, .unset, .unset] [(.long z)]) (fun z => z = (if (x4 &&& (8 : Int32)) = (0 : Int32) then v2 else v1)) ?_ (fun J60 => ?_)
                  · rintro T61 X62 e63 z59 hz59
                    show Go p e below _ T61 (mkF m 216 #[.val (.long x0), .second, .val (.int x1), .val (.int x2), .val (.int x3), .val (.int x4), .val (.int x5), .val (.long v1), .second, .val (.long v2), .second, .val (.ref b5), .val (.long (0 : Int64)), .second, .val (.int v33), .val (.int (0 : Int32)), .val (.long v44), .second, .val (.int v55), .val (.int (0 : Int32)), .unset, .unset, .unset, .unset] [(.long z59)])
                    refine g_lload X62 hx rfl (hb hby at_216) 218 rfl ?_
                    refine g_lsub X62 hx (hb hby at_218) 219 rfl ?_
                    refine g_iload X62 hx rfl (hb hby at_219) 221 rfl ?_
                    refine g_iconst X62 hx (3 : Int32) rfl (hb hby at_221) 222 rfl ?_
                    refine g_iand X62 hx (hb hby at_222) 223 rfl ?_
                    refine g_i2l X62 hx (hb hby at_223) 224 rfl ?_
                    refine g_lsub X62 hx (hb hby at_224) 225 rfl ?_
                    generalize hv66 : ((z59 - (0 : Int64)) - (x3 &&& (3 : Int32)).toInt64) = v66
                    refine g_lstore X62 hx #[.val (.long x0), .second, .val (.int x1), .val (.int x2), .val (.int x3), .val (.int x4), .val (.int x5), .val (.long v1), .second, .val (.long v2), .second, .val (.ref b5), .val (.long (0 : Int64)), .second, .val (.int v33), .val (.int (0 : Int32)), .val (.long v44), .second, .val (.int v55), .val (.int (0 : Int32)), .val (.long v66), .second, .unset, .unset] rfl (hb hby at_225) 227 rfl ?_
                    refine g_lload X62 hx rfl (hb hby at_227) 229 rfl ?_
                    refine g_iload X62 hx rfl (hb hby at_229) 231 rfl ?_
                    refine g_iload X62 hx rfl (hb hby at_231) 233 rfl ?_
                    refine g_iconst X62 hx (4 : Int32) rfl (hb hby at_233) 234 rfl ?_
                    refine g_iand X62 hx (hb hby at_234) 235 rfl ?_
                    refine Go.joinT (α := Int32) X62 e63 (fun z => mkF m 243 #[.val (.long x0), .second, .val (.int x1), .val (.int x2), .val (.int x3), .val (.int x4), .val (.int x5), .val (.long v1), .second, .val (.long v2), .second, .val (.ref b5), .val (.long (0 : Int64)), .second, .val (.int v33), .val (.int (0 : Int32)), .val (.long v44), .second, .val (.int v55), .val (.int (0 : Int32)), .val (.long v66), .second, .unset, .unset] [(.int z), (.int x3), (.long v66)]) (fun z => z = (if (x4 &&& (4 : Int32)) = (0 : Int32) then (0 : Int32) else (1 : Int32))) ?_ (fun J68 => ?_)
                    · rintro T69 X70 e71 z67 hz67
                      show Go p e below _ T69 (mkF m 243 #[.val (.long x0), .second, .val (.int x1), .val (.int x2), .val (.int x3), .val (.int x4), .val (.int x5), .val (.long v1), .second, .val (.long v2), .second, .val (.ref b5), .val (.long (0 : Int64)), .second, .val (.int v33), .val (.int (0 : Int32)), .val (.long v44), .second, .val (.int v55), .val (.int (0 : Int32)), .val (.long v66), .second, .unset, .unset] [(.int z67), (.int x3), (.long v66)])
                      refine g_callS X70 hx hZ hown (wd hw 28 rfl) (wd hw 29 rfl) (wd hw 19 rfl) (wd hw 30 rfl) (by decide) e71 [(.long v66), (.int x3), (.int z67)] []  rfl (co5 l Z a0 hw v66 x3 z67  h22 ) (lenOf pd_2 rfl) 0 (Nat.le_of_eq rfl) (by decide) (by decide) (by decide) (by decide) (by rw [hml]; rfl) (hb hby at_243) 246 rfl (pu_cont fun T75 X74 e76 => ?_)
                      show Go p e below _ T75 (mkF m 246 #[.val (.long x0), .second, .val (.int x1), .val (.int x2), .val (.int x3), .val (.int x4), .val (.int x5), .val (.long v1), .second, .val (.long v2), .second, .val (.ref b5), .val (.long (0 : Int64)), .second, .val (.int v33), .val (.int (0 : Int32)), .val (.long v44), .second, .val (.int v55), .val (.int (0 : Int32)), .val (.long v66), .second, .unset, .unset] [(.int (f5 v66 x3 z67))])
                      generalize hv77 : (f5 v66 x3 z67) = v77
                      refine g_istore X74 hx #[.val (.long x0), .second, .val (.int x1), .val (.int x2), .val (.int x3), .val (.int x4), .val (.int x5), .val (.long v1), .second, .val (.long v2), .second, .val (.ref b5), .val (.long (0 : Int64)), .second, .val (.int v33), .val (.int (0 : Int32)), .val (.long v44), .second, .val (.int v55), .val (.int (0 : Int32)), .val (.long v66), .second, .val (.int v77), .unset] rfl (hb hby at_246) 248 rfl ?_
                      refine g_iload X74 hx rfl (hb hby at_248) 250 rfl ?_
                      refine g_i2l X74 hx (hb hby at_250) 251 rfl ?_
                      refine g_iload X74 hx rfl (hb hby at_251) 253 rfl ?_
                      refine g_lload X74 hx rfl (hb hby at_253) 255 rfl ?_
                      refine g_callS X74 hx hZ hown (wd hw 17 rfl) (wd hw 18 rfl) (wd hw 19 rfl) (wd hw 20 rfl) (by decide) e76 [(.int v77), (.long v1)] [(.long v77.toInt64)]  rfl (co3 l Z a0 hw v77 v1  h22 ) (lenOf pd_1 rfl) 2 (Nat.le_of_eq rfl) (by decide) (by decide) (by decide) (by decide) (by rw [hml]; rfl) (hb hby at_255) 258 rfl (pu_cont fun T79 X78 e80 => ?_)
                      show Go p e below _ T79 (mkF m 258 #[.val (.long x0), .second, .val (.int x1), .val (.int x2), .val (.int x3), .val (.int x4), .val (.int x5), .val (.long v1), .second, .val (.long v2), .second, .val (.ref b5), .val (.long (0 : Int64)), .second, .val (.int v33), .val (.int (0 : Int32)), .val (.long v44), .second, .val (.int v55), .val (.int (0 : Int32)), .val (.long v66), .second, .val (.int v77), .unset] [(.long (f3 v77 v1)), (.long v77.toInt64)])
                      refine g_lload X78 hx rfl (hb hby at_258) 260 rfl ?_
                      refine g_lsub X78 hx (hb hby at_260) 261 rfl ?_
                      refine g_lif_gt X78 hx (hb hby at_261) 262 rfl (hb hby at_262) 269 265 (by decide) rfl rfl (fun q261 => ?_) (fun q261 => ?_)
                      · refine g_iconst X78 hx (0 : Int32) rfl (hb hby at_269) 270 rfl ?_
                        refine g_istore X78 hx #[.val (.long x0), .second, .val (.int x1), .val (.int x2), .val (.int x3), .val (.int x4), .val (.int x5), .val (.long v1), .second, .val (.long v2), .second, .val (.ref b5), .val (.long (0 : Int64)), .second, .val (.int v33), .val (.int (0 : Int32)), .val (.long v44), .second, .val (.int v55), .val (.int (0 : Int32)), .val (.long v66), .second, .val (.int v77), .val (.int (0 : Int32))] rfl (hb hby at_270) 272 rfl ?_
                        refine g_iload X78 hx rfl (hb hby at_272) 274 rfl ?_
                        refine g_if_eq X78 hx (hb hby at_274) 286 277 (by decide) rfl rfl (fun q274 => ?_) (fun q274 => ?_)
                        · refine g_iconst X78 hx (1 : Int32) rfl (hb hby at_286) 287 rfl ?_
                          exact g_retz X78 hx hret hlk (by decide) (by decide) (hb hby at_287) ⟨rfl, N30⟩
                        · exact absurd rfl q274
                      · refine g_iconst X78 hx (1 : Int32) rfl (hb hby at_265) 266 rfl ?_
                        refine g_goto X78 hx (hb hby at_266) 270 (by decide) rfl ?_
                        refine g_istore X78 hx #[.val (.long x0), .second, .val (.int x1), .val (.int x2), .val (.int x3), .val (.int x4), .val (.int x5), .val (.long v1), .second, .val (.long v2), .second, .val (.ref b5), .val (.long (0 : Int64)), .second, .val (.int v33), .val (.int (0 : Int32)), .val (.long v44), .second, .val (.int v55), .val (.int (0 : Int32)), .val (.long v66), .second, .val (.int v77), .val (.int (1 : Int32))] rfl (hb hby at_270) 272 rfl ?_
                        refine g_iload X78 hx rfl (hb hby at_272) 274 rfl ?_
                        refine g_if_eq X78 hx (hb hby at_274) 286 277 (by decide) rfl rfl (fun q274 => ?_) (fun q274 => ?_)
                        · exact absurd q274 (by decide)
                        · refine g_aload X78 hx rfl rfl (hb hby at_277) 279 rfl ?_
                          refine g_iload X78 hx rfl (hb hby at_279) 281 rfl ?_
                          refine g_iload X78 hx rfl (hb hby at_281) 283 rfl ?_
                          refine g_callV X78 hx hZ hown (wd hw 21 rfl) (C := "com/example/usher/usher/FrameCodec$Room") (wd hw 22 rfl) (wd hw 24 rfl) (wd hw 23 rfl) (wd hw 4 rfl) (wd hw 25 rfl) (by decide) e80 [(.int v77), (.int x5)] [] E26 rfl (co4 l Z a0 hw b5 v77 x5 v1 (v1 - (v1 / (4 : Int64))) (0 : Int64) h22 h0.size szh32 sz12 E26 F27 F28 F29 q261) (lenOf pd_3 rfl) 0 (Nat.le_of_eq rfl) (by decide) (by decide) (by decide) (by decide) (by rw [hml]; rfl) (hb hby at_283) 286 rfl (fun r81 T82 L83 X84 Q85 => ?_)
                          obtain ⟨h86, e87⟩ : ∃ h, T82.heap = h := ⟨_, rfl⟩
                          rw [e87] at Q85
                          obtain ⟨rfl, n88, K89, E90, F91, F92, F93⟩ := Q85
                          have N94 := Fr.app N30 n88
                          have F95 := E26.keep K89
                          have szh96 : h0.size ≤ h86.size := Nat.le_trans szh32 K89.1
                          show Go p e below _ T82 (mkF m 286 #[.val (.long x0), .second, .val (.int x1), .val (.int x2), .val (.int x3), .val (.int x4), .val (.int x5), .val (.long v1), .second, .val (.long v2), .second, .val (.ref b5), .val (.long (0 : Int64)), .second, .val (.int v33), .val (.int (0 : Int32)), .val (.long v44), .second, .val (.int v55), .val (.int (0 : Int32)), .val (.long v66), .second, .val (.int v77), .val (.int (1 : Int32))] [])
                          refine g_iconst X84 hx (1 : Int32) rfl (hb hby at_286) 287 rfl ?_
                          exact g_retz X84 hx hret hlk (by decide) (by decide) (hb hby at_287) ⟨rfl, N94⟩
                    · refine g_if_eq X62 hx (hb hby at_235) 242 238 (by decide) rfl rfl (fun q235 => ?_) (fun q235 => ?_)
                      · refine g_iconst X62 hx (0 : Int32) rfl (hb hby at_242) 243 rfl ?_
                        exact J68 T61 X62 e63 ((0 : Int32)) ((if_pos q235).trans rfl).symm
                      · refine g_iconst X62 hx (1 : Int32) rfl (hb hby at_238) 239 rfl ?_
                        refine g_goto X62 hx (hb hby at_239) 243 (by decide) rfl ?_
                        exact J68 T61 X62 e63 ((1 : Int32)) ((if_neg q235).trans rfl).symm
                  · refine g_if_eq X56 hx (hb hby at_206) 214 209 (by decide) rfl rfl (fun q206 => ?_) (fun q206 => ?_)
                    · refine g_lload X56 hx rfl (hb hby at_214) 216 rfl ?_
                      exact J60 T57 X56 e58 (v2) ((if_pos q206).trans rfl).symm
                    · refine g_lload X56 hx rfl (hb hby at_209) 211 rfl ?_
                      refine g_goto X56 hx (hb hby at_211) 216 (by decide) rfl ?_
                      exact J60 T57 X56 e58 (v1) ((if_neg q206).trans rfl).symm
                · exact absurd rfl q188
              · exact absurd rfl q176
            · exact absurd rfl q154
          · refine g_iconst X56 hx (1 : Int32) rfl (hb hby at_145) 146 rfl ?_
            refine g_goto X56 hx (hb hby at_146) 150 (by decide) rfl ?_
            refine g_istore X56 hx #[.val (.long x0), .second, .val (.int x1), .val (.int x2), .val (.int x3), .val (.int x4), .val (.int x5), .val (.long v1), .second, .val (.long v2), .second, .val (.ref b5), .val (.long (0 : Int64)), .second, .val (.int v33), .val (.int (0 : Int32)), .val (.long v44), .second, .val (.int v55), .val (.int (1 : Int32)), .unset, .unset, .unset, .unset] rfl (hb hby at_150) 152 rfl ?_
            refine g_iload X56 hx rfl (hb hby at_152) 154 rfl ?_
            refine g_if_eq X56 hx (hb hby at_154) 174 157 (by decide) rfl rfl (fun q154 => ?_) (fun q154 => ?_)
            · exact absurd q154 (by decide)
            · refine g_aload X56 hx rfl rfl (hb hby at_157) 159 rfl ?_
              refine g_iload X56 hx rfl (hb hby at_159) 161 rfl ?_
              refine g_iload X56 hx rfl (hb hby at_161) 163 rfl ?_
              refine g_callV X56 hx hZ hown (wd hw 21 rfl) (C := "com/example/usher/usher/FrameCodec$Room") (wd hw 22 rfl) (wd hw 24 rfl) (wd hw 23 rfl) (wd hw 4 rfl) (wd hw 25 rfl) (by decide) e58 [(.int v55), (.int x5)] [] E26 rfl (co4 l Z a0 hw b5 v55 x5 v1 (v1 - (v1 / (4 : Int64))) (0 : Int64) h22 h0.size szh32 sz12 E26 F27 F28 F29 q141) (lenOf pd_3 rfl) 0 (Nat.le_of_eq rfl) (by decide) (by decide) (by decide) (by decide) (by rw [hml]; rfl) (hb hby at_163) 166 rfl (fun r97 T98 L99 X100 Q101 => ?_)
              obtain ⟨h102, e103⟩ : ∃ h, T98.heap = h := ⟨_, rfl⟩
              rw [e103] at Q101
              obtain ⟨rfl, n104, K105, E106, F107, F108, F109⟩ := Q101
              have N110 := Fr.app N30 n104
              have F111 := E26.keep K105
              have szh112 : h0.size ≤ h102.size := Nat.le_trans szh32 K105.1
              show Go p e below _ T98 (mkF m 166 #[.val (.long x0), .second, .val (.int x1), .val (.int x2), .val (.int x3), .val (.int x4), .val (.int x5), .val (.long v1), .second, .val (.long v2), .second, .val (.ref b5), .val (.long (0 : Int64)), .second, .val (.int v33), .val (.int (0 : Int32)), .val (.long v44), .second, .val (.int v55), .val (.int (1 : Int32)), .unset, .unset, .unset, .unset] [])
              refine g_lload X100 hx rfl (hb hby at_166) 168 rfl ?_
              refine g_iload X100 hx rfl (hb hby at_168) 170 rfl ?_
              refine g_i2l X100 hx (hb hby at_170) 171 rfl ?_
              refine g_ladd X100 hx (hb hby at_171) 172 rfl ?_
              refine g_lstore X100 hx #[.val (.long x0), .second, .val (.int x1), .val (.int x2), .val (.int x3), .val (.int x4), .val (.int x5), .val (.long v1), .second, .val (.long v2), .second, .val (.ref b5), .val (.long ((0 : Int64) + v55.toInt64)), .second, .val (.int v33), .val (.int (0 : Int32)), .val (.long v44), .second, .val (.int v55), .val (.int (1 : Int32)), .unset, .unset, .unset, .unset] rfl (hb hby at_172) 174 rfl ?_
              refine g_iload X100 hx rfl (hb hby at_174) 176 rfl ?_
              refine g_if_eq X100 hx (hb hby at_176) 186 179 (by decide) rfl rfl (fun q176 => ?_) (fun q176 => ?_)
              · refine g_iload X100 hx rfl (hb hby at_186) 188 rfl ?_
                refine g_if_eq X100 hx (hb hby at_188) 198 191 (by decide) rfl rfl (fun q188 => ?_) (fun q188 => ?_)
                · exact absurd q188 (by decide)
                · refine g_aload X100 hx rfl rfl (hb hby at_191) 193 rfl ?_
                  refine g_iload X100 hx rfl (hb hby at_193) 195 rfl ?_
                  refine g_callV X100 hx hZ hown (wd hw 31 rfl) (C := "com/example/usher/usher/FrameCodec$Room") (wd hw 32 rfl) (wd hw 34 rfl) (wd hw 33 rfl) (wd hw 4 rfl) (wd hw 35 rfl) (by decide) e103 [(.int v55)] [] E106 rfl (co6 l Z a0 hw b5 v55 v1 (v1 - (v1 / (4 : Int64))) ((0 : Int64) + v55.toInt64) h102 h0.size szh112 sz12 E106 F107 F108 F109) (lenOf pd_4 rfl) 0 (Nat.le_of_eq rfl) (by decide) (by decide) (by decide) (by decide) (by rw [hml]; rfl) (hb hby at_195) 198 rfl (fun r113 T114 L115 X116 Q117 => ?_)
                  obtain ⟨h118, e119⟩ : ∃ h, T114.heap = h := ⟨_, rfl⟩
                  rw [e119] at Q117
                  obtain ⟨rfl, n120, K121, E122, F123, F124, F125⟩ := Q117
                  have N126 := Fr.app N110 n120
                  have F127 := E106.keep K121
                  have szh128 : h0.size ≤ h118.size := Nat.le_trans szh112 K121.1
                  show Go p e below _ T114 (mkF m 198 #[.val (.long x0), .second, .val (.int x1), .val (.int x2), .val (.int x3), .val (.int x4), .val (.int x5), .val (.long v1), .second, .val (.long v2), .second, .val (.ref b5), .val (.long ((0 : Int64) + v55.toInt64)), .second, .val (.int v33), .val (.int (0 : Int32)), .val (.long v44), .second, .val (.int v55), .val (.int (1 : Int32)), .unset, .unset, .unset, .unset] [])
                  have hz129 : (((0 : Int64) + v55.toInt64) - v55.toInt64) = (0 : Int64) := own_c1 _
                  have F130 := F125
                  rw [hz129] at F130
                  refine g_lconst X116 hx (0 : Int64) rfl (hb hby at_198) 199 rfl ?_
                  refine g_lstore X116 hx #[.val (.long x0), .second, .val (.int x1), .val (.int x2), .val (.int x3), .val (.int x4), .val (.int x5), .val (.long v1), .second, .val (.long v2), .second, .val (.ref b5), .val (.long (0 : Int64)), .second, .val (.int v33), .val (.int (0 : Int32)), .val (.long v44), .second, .val (.int v55), .val (.int (1 : Int32)), .unset, .unset, .unset, .unset] rfl (hb hby at_199) 201 rfl ?_
                  refine g_iload X116 hx rfl (hb hby at_201) 203 rfl ?_
                  refine g_bipush X116 hx (8 : Int32) rfl (hb hby at_203) 205 rfl ?_
                  refine g_iand X116 hx (hb hby at_205) 206 rfl ?_
                  refine Go.joinT (α := Int64) X116 e119 (fun z => mkF m 216 #[.val (.long x0), .second, .val (.int x1), .val (.int x2), .val (.int x3), .val (.int x4), .val (.int x5), .val (.long v1), .second, .val (.long v2), .second, .val (.ref b5), .val (.long (0 : Int64)), .second, .val (.int v33), .val (.int (0 : Int32)), .val (.long v44), .second, .val (.int v55), .val (.int (1 : Int32)), .unset, .unset, .unset, .unset] [(.long z)]) (fun z => z = (if (x4 &&& (8 : Int32)) = (0 : Int32) then v2 else v1)) ?_ (fun J132 => ?_)
                  · rintro T133 X134 e135 z131 hz131
                    show Go p e below _ T133 (mkF m 216 #[.val (.long x0), .second, .val (.int x1), .val (.int x2), .val (.int x3), .val (.int x4), .val (.int x5), .val (.long v1), .second, .val (.long v2), .second, .val (.ref b5), .val (.long (0 : Int64)), .second, .val (.int v33), .val (.int (0 : Int32)), .val (.long v44), .second, .val (.int v55), .val (.int (1 : Int32)), .unset, .unset, .unset, .unset] [(.long z131)])
                    refine g_lload X134 hx rfl (hb hby at_216) 218 rfl ?_
                    refine g_lsub X134 hx (hb hby at_218) 219 rfl ?_
                    refine g_iload X134 hx rfl (hb hby at_219) 221 rfl ?_
                    refine g_iconst X134 hx (3 : Int32) rfl (hb hby at_221) 222 rfl ?_
                    refine g_iand X134 hx (hb hby at_222) 223 rfl ?_
                    refine g_i2l X134 hx (hb hby at_223) 224 rfl ?_
                    refine g_lsub X134 hx (hb hby at_224) 225 rfl ?_
                    generalize hv138 : ((z131 - (0 : Int64)) - (x3 &&& (3 : Int32)).toInt64) = v138
                    refine g_lstore X134 hx #[.val (.long x0), .second, .val (.int x1), .val (.int x2), .val (.int x3), .val (.int x4), .val (.int x5), .val (.long v1), .second, .val (.long v2), .second, .val (.ref b5), .val (.long (0 : Int64)), .second, .val (.int v33), .val (.int (0 : Int32)), .val (.long v44), .second, .val (.int v55), .val (.int (1 : Int32)), .val (.long v138), .second, .unset, .unset] rfl (hb hby at_225) 227 rfl ?_
                    refine g_lload X134 hx rfl (hb hby at_227) 229 rfl ?_
                    refine g_iload X134 hx rfl (hb hby at_229) 231 rfl ?_
                    refine g_iload X134 hx rfl (hb hby at_231) 233 rfl ?_
                    refine g_iconst X134 hx (4 : Int32) rfl (hb hby at_233) 234 rfl ?_
                    refine g_iand X134 hx (hb hby at_234) 235 rfl ?_
                    refine Go.joinT (α := Int32) X134 e135 (fun z => mkF m 243 #[.val (.long x0), .second, .val (.int x1), .val (.int x2), .val (.int x3), .val (.int x4), .val (.int x5), .val (.long v1), .second, .val (.long v2), .second, .val (.ref b5), .val (.long (0 : Int64)), .second, .val (.int v33), .val (.int (0 : Int32)), .val (.long v44), .second, .val (.int v55), .val (.int (1 : Int32)), .val (.long v138), .second, .unset, .unset] [(.int z), (.int x3), (.long v138)]) (fun z => z = (if (x4 &&& (4 : Int32)) = (0 : Int32) then (0 : Int32) else (1 : Int32))) ?_ (fun J140 => ?_)
                    · rintro T141 X142 e143 z139 hz139
                      show Go p e below _ T141 (mkF m 243 #[.val (.long x0), .second, .val (.int x1), .val (.int x2), .val (.int x3), .val (.int x4), .val (.int x5), .val (.long v1), .second, .val (.long v2), .second, .val (.ref b5), .val (.long (0 : Int64)), .second, .val (.int v33), .val (.int (0 : Int32)), .val (.long v44), .second, .val (.int v55), .val (.int (1 : Int32)), .val (.long v138), .second, .unset, .unset] [(.int z139), (.int x3), (.long v138)])
                      refine g_callS X142 hx hZ hown (wd hw 28 rfl) (wd hw 29 rfl) (wd hw 19 rfl) (wd hw 30 rfl) (by decide) e143 [(.long v138), (.int x3), (.int z139)] []  rfl (co5 l Z a0 hw v138 x3 z139  h118 ) (lenOf pd_2 rfl) 0 (Nat.le_of_eq rfl) (by decide) (by decide) (by decide) (by decide) (by rw [hml]; rfl) (hb hby at_243) 246 rfl (pu_cont fun T147 X146 e148 => ?_)
                      show Go p e below _ T147 (mkF m 246 #[.val (.long x0), .second, .val (.int x1), .val (.int x2), .val (.int x3), .val (.int x4), .val (.int x5), .val (.long v1), .second, .val (.long v2), .second, .val (.ref b5), .val (.long (0 : Int64)), .second, .val (.int v33), .val (.int (0 : Int32)), .val (.long v44), .second, .val (.int v55), .val (.int (1 : Int32)), .val (.long v138), .second, .unset, .unset] [(.int (f5 v138 x3 z139))])
                      generalize hv149 : (f5 v138 x3 z139) = v149
                      refine g_istore X146 hx #[.val (.long x0), .second, .val (.int x1), .val (.int x2), .val (.int x3), .val (.int x4), .val (.int x5), .val (.long v1), .second, .val (.long v2), .second, .val (.ref b5), .val (.long (0 : Int64)), .second, .val (.int v33), .val (.int (0 : Int32)), .val (.long v44), .second, .val (.int v55), .val (.int (1 : Int32)), .val (.long v138), .second, .val (.int v149), .unset] rfl (hb hby at_246) 248 rfl ?_
                      refine g_iload X146 hx rfl (hb hby at_248) 250 rfl ?_
                      refine g_i2l X146 hx (hb hby at_250) 251 rfl ?_
                      refine g_iload X146 hx rfl (hb hby at_251) 253 rfl ?_
                      refine g_lload X146 hx rfl (hb hby at_253) 255 rfl ?_
                      refine g_callS X146 hx hZ hown (wd hw 17 rfl) (wd hw 18 rfl) (wd hw 19 rfl) (wd hw 20 rfl) (by decide) e148 [(.int v149), (.long v1)] [(.long v149.toInt64)]  rfl (co3 l Z a0 hw v149 v1  h118 ) (lenOf pd_1 rfl) 2 (Nat.le_of_eq rfl) (by decide) (by decide) (by decide) (by decide) (by rw [hml]; rfl) (hb hby at_255) 258 rfl (pu_cont fun T151 X150 e152 => ?_)
                      show Go p e below _ T151 (mkF m 258 #[.val (.long x0), .second, .val (.int x1), .val (.int x2), .val (.int x3), .val (.int x4), .val (.int x5), .val (.long v1), .second, .val (.long v2), .second, .val (.ref b5), .val (.long (0 : Int64)), .second, .val (.int v33), .val (.int (0 : Int32)), .val (.long v44), .second, .val (.int v55), .val (.int (1 : Int32)), .val (.long v138), .second, .val (.int v149), .unset] [(.long (f3 v149 v1)), (.long v149.toInt64)])
                      refine g_lload X150 hx rfl (hb hby at_258) 260 rfl ?_
                      refine g_lsub X150 hx (hb hby at_260) 261 rfl ?_
                      refine g_lif_gt X150 hx (hb hby at_261) 262 rfl (hb hby at_262) 269 265 (by decide) rfl rfl (fun q261 => ?_) (fun q261 => ?_)
                      · refine g_iconst X150 hx (0 : Int32) rfl (hb hby at_269) 270 rfl ?_
                        refine g_istore X150 hx #[.val (.long x0), .second, .val (.int x1), .val (.int x2), .val (.int x3), .val (.int x4), .val (.int x5), .val (.long v1), .second, .val (.long v2), .second, .val (.ref b5), .val (.long (0 : Int64)), .second, .val (.int v33), .val (.int (0 : Int32)), .val (.long v44), .second, .val (.int v55), .val (.int (1 : Int32)), .val (.long v138), .second, .val (.int v149), .val (.int (0 : Int32))] rfl (hb hby at_270) 272 rfl ?_
                        refine g_iload X150 hx rfl (hb hby at_272) 274 rfl ?_
                        refine g_if_eq X150 hx (hb hby at_274) 286 277 (by decide) rfl rfl (fun q274 => ?_) (fun q274 => ?_)
                        · refine g_iconst X150 hx (1 : Int32) rfl (hb hby at_286) 287 rfl ?_
                          exact g_retz X150 hx hret hlk (by decide) (by decide) (hb hby at_287) ⟨rfl, N126⟩
                        · exact absurd rfl q274
                      · refine g_iconst X150 hx (1 : Int32) rfl (hb hby at_265) 266 rfl ?_
                        refine g_goto X150 hx (hb hby at_266) 270 (by decide) rfl ?_
                        refine g_istore X150 hx #[.val (.long x0), .second, .val (.int x1), .val (.int x2), .val (.int x3), .val (.int x4), .val (.int x5), .val (.long v1), .second, .val (.long v2), .second, .val (.ref b5), .val (.long (0 : Int64)), .second, .val (.int v33), .val (.int (0 : Int32)), .val (.long v44), .second, .val (.int v55), .val (.int (1 : Int32)), .val (.long v138), .second, .val (.int v149), .val (.int (1 : Int32))] rfl (hb hby at_270) 272 rfl ?_
                        refine g_iload X150 hx rfl (hb hby at_272) 274 rfl ?_
                        refine g_if_eq X150 hx (hb hby at_274) 286 277 (by decide) rfl rfl (fun q274 => ?_) (fun q274 => ?_)
                        · exact absurd q274 (by decide)
                        · refine g_aload X150 hx rfl rfl (hb hby at_277) 279 rfl ?_
                          refine g_iload X150 hx rfl (hb hby at_279) 281 rfl ?_
                          refine g_iload X150 hx rfl (hb hby at_281) 283 rfl ?_
                          refine g_callV X150 hx hZ hown (wd hw 21 rfl) (C := "com/example/usher/usher/FrameCodec$Room") (wd hw 22 rfl) (wd hw 24 rfl) (wd hw 23 rfl) (wd hw 4 rfl) (wd hw 25 rfl) (by decide) e152 [(.int v149), (.int x5)] [] E122 rfl (co4 l Z a0 hw b5 v149 x5 v1 (v1 - (v1 / (4 : Int64))) (0 : Int64) h118 h0.size szh128 sz12 E122 F123 F124 F130 q261) (lenOf pd_3 rfl) 0 (Nat.le_of_eq rfl) (by decide) (by decide) (by decide) (by decide) (by rw [hml]; rfl) (hb hby at_283) 286 rfl (fun r153 T154 L155 X156 Q157 => ?_)
                          obtain ⟨h158, e159⟩ : ∃ h, T154.heap = h := ⟨_, rfl⟩
                          rw [e159] at Q157
                          obtain ⟨rfl, n160, K161, E162, F163, F164, F165⟩ := Q157
                          have N166 := Fr.app N126 n160
                          have F167 := E122.keep K161
                          have szh168 : h0.size ≤ h158.size := Nat.le_trans szh128 K161.1
                          show Go p e below _ T154 (mkF m 286 #[.val (.long x0), .second, .val (.int x1), .val (.int x2), .val (.int x3), .val (.int x4), .val (.int x5), .val (.long v1), .second, .val (.long v2), .second, .val (.ref b5), .val (.long (0 : Int64)), .second, .val (.int v33), .val (.int (0 : Int32)), .val (.long v44), .second, .val (.int v55), .val (.int (1 : Int32)), .val (.long v138), .second, .val (.int v149), .val (.int (1 : Int32))] [])
                          refine g_iconst X156 hx (1 : Int32) rfl (hb hby at_286) 287 rfl ?_
                          exact g_retz X156 hx hret hlk (by decide) (by decide) (hb hby at_287) ⟨rfl, N166⟩
                    · refine g_if_eq X134 hx (hb hby at_235) 242 238 (by decide) rfl rfl (fun q235 => ?_) (fun q235 => ?_)
                      · refine g_iconst X134 hx (0 : Int32) rfl (hb hby at_242) 243 rfl ?_
                        exact J140 T133 X134 e135 ((0 : Int32)) ((if_pos q235).trans rfl).symm
                      · refine g_iconst X134 hx (1 : Int32) rfl (hb hby at_238) 239 rfl ?_
                        refine g_goto X134 hx (hb hby at_239) 243 (by decide) rfl ?_
                        exact J140 T133 X134 e135 ((1 : Int32)) ((if_neg q235).trans rfl).symm
                  · refine g_if_eq X116 hx (hb hby at_206) 214 209 (by decide) rfl rfl (fun q206 => ?_) (fun q206 => ?_)
                    · refine g_lload X116 hx rfl (hb hby at_214) 216 rfl ?_
                      exact J132 T114 X116 e119 (v2) ((if_pos q206).trans rfl).symm
                    · refine g_lload X116 hx rfl (hb hby at_209) 211 rfl ?_
                      refine g_goto X116 hx (hb hby at_211) 216 (by decide) rfl ?_
                      exact J132 T114 X116 e119 (v1) ((if_neg q206).trans rfl).symm
              · exact absurd rfl q176
        · refine g_if_eq X40 hx (hb hby at_115) 122 118 (by decide) rfl rfl (fun q115 => ?_) (fun q115 => ?_)
          · refine g_iconst X40 hx (0 : Int32) rfl (hb hby at_122) 123 rfl ?_
            exact J46 T39 X40 e41 ((0 : Int32)) ((if_pos q115).trans rfl).symm
          · refine g_iconst X40 hx (1 : Int32) rfl (hb hby at_118) 119 rfl ?_
            refine g_goto X40 hx (hb hby at_119) 123 (by decide) rfl ?_
            exact J46 T39 X40 e41 ((1 : Int32)) ((if_neg q115).trans rfl).symm
      · refine g_if_eq X34 hx (hb hby at_88) 96 91 (by decide) rfl rfl (fun q88 => ?_) (fun q88 => ?_)
        · refine g_lload X34 hx rfl (hb hby at_96) 98 rfl ?_
          exact J38 T35 X34 e36 (v2) ((if_pos q88).trans rfl).symm
        · refine g_lload X34 hx rfl (hb hby at_91) 93 rfl ?_
          refine g_goto X34 hx (hb hby at_93) 98 (by decide) rfl ?_
          exact J38 T35 X34 e36 (v1) ((if_neg q88).trans rfl).symm
    · exact absurd rfl q64
  · refine g_iconst X34 hx (1 : Int32) rfl (hb hby at_55) 56 rfl ?_
    refine g_goto X34 hx (hb hby at_56) 60 (by decide) rfl ?_
    refine g_istore X34 hx #[.val (.long x0), .second, .val (.int x1), .val (.int x2), .val (.int x3), .val (.int x4), .val (.int x5), .val (.long v1), .second, .val (.long v2), .second, .val (.ref b5), .val (.long (0 : Int64)), .second, .val (.int v33), .val (.int (1 : Int32)), .unset, .unset, .unset, .unset, .unset, .unset, .unset, .unset] rfl (hb hby at_60) 62 rfl ?_
    refine g_iload X34 hx rfl (hb hby at_62) 64 rfl ?_
    refine g_if_eq X34 hx (hb hby at_64) 84 67 (by decide) rfl rfl (fun q64 => ?_) (fun q64 => ?_)
    · exact absurd q64 (by decide)
    · refine g_aload X34 hx rfl rfl (hb hby at_67) 69 rfl ?_
      refine g_iload X34 hx rfl (hb hby at_69) 71 rfl ?_
      refine g_iload X34 hx rfl (hb hby at_71) 73 rfl ?_
      refine g_callV X34 hx hZ hown (wd hw 21 rfl) (C := "com/example/usher/usher/FrameCodec$Room") (wd hw 22 rfl) (wd hw 24 rfl) (wd hw 23 rfl) (wd hw 4 rfl) (wd hw 25 rfl) (by decide) e36 [(.int v33), (.int x5)] [] E26 rfl (co4 l Z a0 hw b5 v33 x5 v1 (v1 - (v1 / (4 : Int64))) (0 : Int64) h22 h0.size szh32 sz12 E26 F27 F28 F29 q51) (lenOf pd_3 rfl) 0 (Nat.le_of_eq rfl) (by decide) (by decide) (by decide) (by decide) (by rw [hml]; rfl) (hb hby at_73) 76 rfl (fun r169 T170 L171 X172 Q173 => ?_)
      obtain ⟨h174, e175⟩ : ∃ h, T170.heap = h := ⟨_, rfl⟩
      rw [e175] at Q173
      obtain ⟨rfl, n176, K177, E178, F179, F180, F181⟩ := Q173
      have N182 := Fr.app N30 n176
      have F183 := E26.keep K177
      have szh184 : h0.size ≤ h174.size := Nat.le_trans szh32 K177.1
      show Go p e below _ T170 (mkF m 76 #[.val (.long x0), .second, .val (.int x1), .val (.int x2), .val (.int x3), .val (.int x4), .val (.int x5), .val (.long v1), .second, .val (.long v2), .second, .val (.ref b5), .val (.long (0 : Int64)), .second, .val (.int v33), .val (.int (1 : Int32)), .unset, .unset, .unset, .unset, .unset, .unset, .unset, .unset] [])
      refine g_lload X172 hx rfl (hb hby at_76) 78 rfl ?_
      refine g_iload X172 hx rfl (hb hby at_78) 80 rfl ?_
      refine g_i2l X172 hx (hb hby at_80) 81 rfl ?_
      refine g_ladd X172 hx (hb hby at_81) 82 rfl ?_
      refine g_lstore X172 hx #[.val (.long x0), .second, .val (.int x1), .val (.int x2), .val (.int x3), .val (.int x4), .val (.int x5), .val (.long v1), .second, .val (.long v2), .second, .val (.ref b5), .val (.long ((0 : Int64) + v33.toInt64)), .second, .val (.int v33), .val (.int (1 : Int32)), .unset, .unset, .unset, .unset, .unset, .unset, .unset, .unset] rfl (hb hby at_82) 84 rfl ?_
      refine g_iload X172 hx rfl (hb hby at_84) 86 rfl ?_
      refine g_iconst X172 hx (2 : Int32) rfl (hb hby at_86) 87 rfl ?_
      refine g_iand X172 hx (hb hby at_87) 88 rfl ?_
      refine Go.joinT (α := Int64) X172 e175 (fun z => mkF m 98 #[.val (.long x0), .second, .val (.int x1), .val (.int x2), .val (.int x3), .val (.int x4), .val (.int x5), .val (.long v1), .second, .val (.long v2), .second, .val (.ref b5), .val (.long ((0 : Int64) + v33.toInt64)), .second, .val (.int v33), .val (.int (1 : Int32)), .unset, .unset, .unset, .unset, .unset, .unset, .unset, .unset] [(.long z)]) (fun z => z = (if (x4 &&& (2 : Int32)) = (0 : Int32) then v2 else v1)) ?_ (fun J186 => ?_)
      · rintro T187 X188 e189 z185 hz185
        show Go p e below _ T187 (mkF m 98 #[.val (.long x0), .second, .val (.int x1), .val (.int x2), .val (.int x3), .val (.int x4), .val (.int x5), .val (.long v1), .second, .val (.long v2), .second, .val (.ref b5), .val (.long ((0 : Int64) + v33.toInt64)), .second, .val (.int v33), .val (.int (1 : Int32)), .unset, .unset, .unset, .unset, .unset, .unset, .unset, .unset] [(.long z185)])
        refine g_lload X188 hx rfl (hb hby at_98) 100 rfl ?_
        refine g_lsub X188 hx (hb hby at_100) 101 rfl ?_
        refine g_iloadN X188 hx rfl (hb hby at_101) 102 rfl ?_
        refine g_iconst X188 hx (3 : Int32) rfl (hb hby at_102) 103 rfl ?_
        refine g_iand X188 hx (hb hby at_103) 104 rfl ?_
        refine g_i2l X188 hx (hb hby at_104) 105 rfl ?_
        refine g_lsub X188 hx (hb hby at_105) 106 rfl ?_
        generalize hv192 : ((z185 - ((0 : Int64) + v33.toInt64)) - (x2 &&& (3 : Int32)).toInt64) = v192
        refine g_lstore X188 hx #[.val (.long x0), .second, .val (.int x1), .val (.int x2), .val (.int x3), .val (.int x4), .val (.int x5), .val (.long v1), .second, .val (.long v2), .second, .val (.ref b5), .val (.long ((0 : Int64) + v33.toInt64)), .second, .val (.int v33), .val (.int (1 : Int32)), .val (.long v192), .second, .unset, .unset, .unset, .unset, .unset, .unset] rfl (hb hby at_106) 108 rfl ?_
        refine g_lload X188 hx rfl (hb hby at_108) 110 rfl ?_
        refine g_iloadN X188 hx rfl (hb hby at_110) 111 rfl ?_
        refine g_iload X188 hx rfl (hb hby at_111) 113 rfl ?_
        refine g_iconst X188 hx (1 : Int32) rfl (hb hby at_113) 114 rfl ?_
        refine g_iand X188 hx (hb hby at_114) 115 rfl ?_
        refine Go.joinT (α := Int32) X188 e189 (fun z => mkF m 123 #[.val (.long x0), .second, .val (.int x1), .val (.int x2), .val (.int x3), .val (.int x4), .val (.int x5), .val (.long v1), .second, .val (.long v2), .second, .val (.ref b5), .val (.long ((0 : Int64) + v33.toInt64)), .second, .val (.int v33), .val (.int (1 : Int32)), .val (.long v192), .second, .unset, .unset, .unset, .unset, .unset, .unset] [(.int z), (.int x2), (.long v192)]) (fun z => z = (if (x4 &&& (1 : Int32)) = (0 : Int32) then (0 : Int32) else (1 : Int32))) ?_ (fun J194 => ?_)
        · rintro T195 X196 e197 z193 hz193
          show Go p e below _ T195 (mkF m 123 #[.val (.long x0), .second, .val (.int x1), .val (.int x2), .val (.int x3), .val (.int x4), .val (.int x5), .val (.long v1), .second, .val (.long v2), .second, .val (.ref b5), .val (.long ((0 : Int64) + v33.toInt64)), .second, .val (.int v33), .val (.int (1 : Int32)), .val (.long v192), .second, .unset, .unset, .unset, .unset, .unset, .unset] [(.int z193), (.int x2), (.long v192)])
          refine g_callS X196 hx hZ hown (wd hw 28 rfl) (wd hw 29 rfl) (wd hw 19 rfl) (wd hw 30 rfl) (by decide) e197 [(.long v192), (.int x2), (.int z193)] []  rfl (co5 l Z a0 hw v192 x2 z193  h174 ) (lenOf pd_2 rfl) 0 (Nat.le_of_eq rfl) (by decide) (by decide) (by decide) (by decide) (by rw [hml]; rfl) (hb hby at_123) 126 rfl (pu_cont fun T201 X200 e202 => ?_)
          show Go p e below _ T201 (mkF m 126 #[.val (.long x0), .second, .val (.int x1), .val (.int x2), .val (.int x3), .val (.int x4), .val (.int x5), .val (.long v1), .second, .val (.long v2), .second, .val (.ref b5), .val (.long ((0 : Int64) + v33.toInt64)), .second, .val (.int v33), .val (.int (1 : Int32)), .val (.long v192), .second, .unset, .unset, .unset, .unset, .unset, .unset] [(.int (f5 v192 x2 z193))])
          generalize hv203 : (f5 v192 x2 z193) = v203
          refine g_istore X200 hx #[.val (.long x0), .second, .val (.int x1), .val (.int x2), .val (.int x3), .val (.int x4), .val (.int x5), .val (.long v1), .second, .val (.long v2), .second, .val (.ref b5), .val (.long ((0 : Int64) + v33.toInt64)), .second, .val (.int v33), .val (.int (1 : Int32)), .val (.long v192), .second, .val (.int v203), .unset, .unset, .unset, .unset, .unset] rfl (hb hby at_126) 128 rfl ?_
          refine g_iload X200 hx rfl (hb hby at_128) 130 rfl ?_
          refine g_i2l X200 hx (hb hby at_130) 131 rfl ?_
          refine g_iload X200 hx rfl (hb hby at_131) 133 rfl ?_
          refine g_lload X200 hx rfl (hb hby at_133) 135 rfl ?_
          refine g_callS X200 hx hZ hown (wd hw 17 rfl) (wd hw 18 rfl) (wd hw 19 rfl) (wd hw 20 rfl) (by decide) e202 [(.int v203), (.long v1)] [(.long v203.toInt64)]  rfl (co3 l Z a0 hw v203 v1  h174 ) (lenOf pd_1 rfl) 2 (Nat.le_of_eq rfl) (by decide) (by decide) (by decide) (by decide) (by rw [hml]; rfl) (hb hby at_135) 138 rfl (pu_cont fun T205 X204 e206 => ?_)
          show Go p e below _ T205 (mkF m 138 #[.val (.long x0), .second, .val (.int x1), .val (.int x2), .val (.int x3), .val (.int x4), .val (.int x5), .val (.long v1), .second, .val (.long v2), .second, .val (.ref b5), .val (.long ((0 : Int64) + v33.toInt64)), .second, .val (.int v33), .val (.int (1 : Int32)), .val (.long v192), .second, .val (.int v203), .unset, .unset, .unset, .unset, .unset] [(.long (f3 v203 v1)), (.long v203.toInt64)])
          refine g_lload X204 hx rfl (hb hby at_138) 140 rfl ?_
          refine g_lsub X204 hx (hb hby at_140) 141 rfl ?_
          refine g_lif_gt X204 hx (hb hby at_141) 142 rfl (hb hby at_142) 149 145 (by decide) rfl rfl (fun q141 => ?_) (fun q141 => ?_)
          · refine g_iconst X204 hx (0 : Int32) rfl (hb hby at_149) 150 rfl ?_
            refine g_istore X204 hx #[.val (.long x0), .second, .val (.int x1), .val (.int x2), .val (.int x3), .val (.int x4), .val (.int x5), .val (.long v1), .second, .val (.long v2), .second, .val (.ref b5), .val (.long ((0 : Int64) + v33.toInt64)), .second, .val (.int v33), .val (.int (1 : Int32)), .val (.long v192), .second, .val (.int v203), .val (.int (0 : Int32)), .unset, .unset, .unset, .unset] rfl (hb hby at_150) 152 rfl ?_
            refine g_iload X204 hx rfl (hb hby at_152) 154 rfl ?_
            refine g_if_eq X204 hx (hb hby at_154) 174 157 (by decide) rfl rfl (fun q154 => ?_) (fun q154 => ?_)
            · refine g_iload X204 hx rfl (hb hby at_174) 176 rfl ?_
              refine g_if_eq X204 hx (hb hby at_176) 186 179 (by decide) rfl rfl (fun q176 => ?_) (fun q176 => ?_)
              · exact absurd q176 (by decide)
              · refine g_aload X204 hx rfl rfl (hb hby at_179) 181 rfl ?_
                refine g_iload X204 hx rfl (hb hby at_181) 183 rfl ?_
                refine g_callV X204 hx hZ hown (wd hw 31 rfl) (C := "com/example/usher/usher/FrameCodec$Room") (wd hw 32 rfl) (wd hw 34 rfl) (wd hw 33 rfl) (wd hw 4 rfl) (wd hw 35 rfl) (by decide) e206 [(.int v33)] [] E178 rfl (co6 l Z a0 hw b5 v33 v1 (v1 - (v1 / (4 : Int64))) ((0 : Int64) + v33.toInt64) h174 h0.size szh184 sz12 E178 F179 F180 F181) (lenOf pd_4 rfl) 0 (Nat.le_of_eq rfl) (by decide) (by decide) (by decide) (by decide) (by rw [hml]; rfl) (hb hby at_183) 186 rfl (fun r207 T208 L209 X210 Q211 => ?_)
                obtain ⟨h212, e213⟩ : ∃ h, T208.heap = h := ⟨_, rfl⟩
                rw [e213] at Q211
                obtain ⟨rfl, n214, K215, E216, F217, F218, F219⟩ := Q211
                have N220 := Fr.app N182 n214
                have F221 := E178.keep K215
                have szh222 : h0.size ≤ h212.size := Nat.le_trans szh184 K215.1
                show Go p e below _ T208 (mkF m 186 #[.val (.long x0), .second, .val (.int x1), .val (.int x2), .val (.int x3), .val (.int x4), .val (.int x5), .val (.long v1), .second, .val (.long v2), .second, .val (.ref b5), .val (.long ((0 : Int64) + v33.toInt64)), .second, .val (.int v33), .val (.int (1 : Int32)), .val (.long v192), .second, .val (.int v203), .val (.int (0 : Int32)), .unset, .unset, .unset, .unset] [])
                refine g_iload X210 hx rfl (hb hby at_186) 188 rfl ?_
                refine g_if_eq X210 hx (hb hby at_188) 198 191 (by decide) rfl rfl (fun q188 => ?_) (fun q188 => ?_)
                · have hz223 : (((0 : Int64) + v33.toInt64) - v33.toInt64) = (0 : Int64) := own_c1 _
                  have F224 := F219
                  rw [hz223] at F224
                  refine g_lconst X210 hx (0 : Int64) rfl (hb hby at_198) 199 rfl ?_
                  refine g_lstore X210 hx #[.val (.long x0), .second, .val (.int x1), .val (.int x2), .val (.int x3), .val (.int x4), .val (.int x5), .val (.long v1), .second, .val (.long v2), .second, .val (.ref b5), .val (.long (0 : Int64)), .second, .val (.int v33), .val (.int (1 : Int32)), .val (.long v192), .second, .val (.int v203), .val (.int (0 : Int32)), .unset, .unset, .unset, .unset] rfl (hb hby at_199) 201 rfl ?_
                  refine g_iload X210 hx rfl (hb hby at_201) 203 rfl ?_
                  refine g_bipush X210 hx (8 : Int32) rfl (hb hby at_203) 205 rfl ?_
                  refine g_iand X210 hx (hb hby at_205) 206 rfl ?_
                  refine Go.joinT (α := Int64) X210 e213 (fun z => mkF m 216 #[.val (.long x0), .second, .val (.int x1), .val (.int x2), .val (.int x3), .val (.int x4), .val (.int x5), .val (.long v1), .second, .val (.long v2), .second, .val (.ref b5), .val (.long (0 : Int64)), .second, .val (.int v33), .val (.int (1 : Int32)), .val (.long v192), .second, .val (.int v203), .val (.int (0 : Int32)), .unset, .unset, .unset, .unset] [(.long z)]) (fun z => z = (if (x4 &&& (8 : Int32)) = (0 : Int32) then v2 else v1)) ?_ (fun J226 => ?_)
                  · rintro T227 X228 e229 z225 hz225
                    show Go p e below _ T227 (mkF m 216 #[.val (.long x0), .second, .val (.int x1), .val (.int x2), .val (.int x3), .val (.int x4), .val (.int x5), .val (.long v1), .second, .val (.long v2), .second, .val (.ref b5), .val (.long (0 : Int64)), .second, .val (.int v33), .val (.int (1 : Int32)), .val (.long v192), .second, .val (.int v203), .val (.int (0 : Int32)), .unset, .unset, .unset, .unset] [(.long z225)])
                    refine g_lload X228 hx rfl (hb hby at_216) 218 rfl ?_
                    refine g_lsub X228 hx (hb hby at_218) 219 rfl ?_
                    refine g_iload X228 hx rfl (hb hby at_219) 221 rfl ?_
                    refine g_iconst X228 hx (3 : Int32) rfl (hb hby at_221) 222 rfl ?_
                    refine g_iand X228 hx (hb hby at_222) 223 rfl ?_
                    refine g_i2l X228 hx (hb hby at_223) 224 rfl ?_
                    refine g_lsub X228 hx (hb hby at_224) 225 rfl ?_
                    generalize hv232 : ((z225 - (0 : Int64)) - (x3 &&& (3 : Int32)).toInt64) = v232
                    refine g_lstore X228 hx #[.val (.long x0), .second, .val (.int x1), .val (.int x2), .val (.int x3), .val (.int x4), .val (.int x5), .val (.long v1), .second, .val (.long v2), .second, .val (.ref b5), .val (.long (0 : Int64)), .second, .val (.int v33), .val (.int (1 : Int32)), .val (.long v192), .second, .val (.int v203), .val (.int (0 : Int32)), .val (.long v232), .second, .unset, .unset] rfl (hb hby at_225) 227 rfl ?_
                    refine g_lload X228 hx rfl (hb hby at_227) 229 rfl ?_
                    refine g_iload X228 hx rfl (hb hby at_229) 231 rfl ?_
                    refine g_iload X228 hx rfl (hb hby at_231) 233 rfl ?_
                    refine g_iconst X228 hx (4 : Int32) rfl (hb hby at_233) 234 rfl ?_
                    refine g_iand X228 hx (hb hby at_234) 235 rfl ?_
                    refine Go.joinT (α := Int32) X228 e229 (fun z => mkF m 243 #[.val (.long x0), .second, .val (.int x1), .val (.int x2), .val (.int x3), .val (.int x4), .val (.int x5), .val (.long v1), .second, .val (.long v2), .second, .val (.ref b5), .val (.long (0 : Int64)), .second, .val (.int v33), .val (.int (1 : Int32)), .val (.long v192), .second, .val (.int v203), .val (.int (0 : Int32)), .val (.long v232), .second, .unset, .unset] [(.int z), (.int x3), (.long v232)]) (fun z => z = (if (x4 &&& (4 : Int32)) = (0 : Int32) then (0 : Int32) else (1 : Int32))) ?_ (fun J234 => ?_)
                    · rintro T235 X236 e237 z233 hz233
                      show Go p e below _ T235 (mkF m 243 #[.val (.long x0), .second, .val (.int x1), .val (.int x2), .val (.int x3), .val (.int x4), .val (.int x5), .val (.long v1), .second, .val (.long v2), .second, .val (.ref b5), .val (.long (0 : Int64)), .second, .val (.int v33), .val (.int (1 : Int32)), .val (.long v192), .second, .val (.int v203), .val (.int (0 : Int32)), .val (.long v232), .second, .unset, .unset] [(.int z233), (.int x3), (.long v232)])
                      refine g_callS X236 hx hZ hown (wd hw 28 rfl) (wd hw 29 rfl) (wd hw 19 rfl) (wd hw 30 rfl) (by decide) e237 [(.long v232), (.int x3), (.int z233)] []  rfl (co5 l Z a0 hw v232 x3 z233  h212 ) (lenOf pd_2 rfl) 0 (Nat.le_of_eq rfl) (by decide) (by decide) (by decide) (by decide) (by rw [hml]; rfl) (hb hby at_243) 246 rfl (pu_cont fun T241 X240 e242 => ?_)
                      show Go p e below _ T241 (mkF m 246 #[.val (.long x0), .second, .val (.int x1), .val (.int x2), .val (.int x3), .val (.int x4), .val (.int x5), .val (.long v1), .second, .val (.long v2), .second, .val (.ref b5), .val (.long (0 : Int64)), .second, .val (.int v33), .val (.int (1 : Int32)), .val (.long v192), .second, .val (.int v203), .val (.int (0 : Int32)), .val (.long v232), .second, .unset, .unset] [(.int (f5 v232 x3 z233))])
                      generalize hv243 : (f5 v232 x3 z233) = v243
                      refine g_istore X240 hx #[.val (.long x0), .second, .val (.int x1), .val (.int x2), .val (.int x3), .val (.int x4), .val (.int x5), .val (.long v1), .second, .val (.long v2), .second, .val (.ref b5), .val (.long (0 : Int64)), .second, .val (.int v33), .val (.int (1 : Int32)), .val (.long v192), .second, .val (.int v203), .val (.int (0 : Int32)), .val (.long v232), .second, .val (.int v243), .unset] rfl (hb hby at_246) 248 rfl ?_
                      refine g_iload X240 hx rfl (hb hby at_248) 250 rfl ?_
                      refine g_i2l X240 hx (hb hby at_250) 251 rfl ?_
                      refine g_iload X240 hx rfl (hb hby at_251) 253 rfl ?_
                      refine g_lload X240 hx rfl (hb hby at_253) 255 rfl ?_
                      refine g_callS X240 hx hZ hown (wd hw 17 rfl) (wd hw 18 rfl) (wd hw 19 rfl) (wd hw 20 rfl) (by decide) e242 [(.int v243), (.long v1)] [(.long v243.toInt64)]  rfl (co3 l Z a0 hw v243 v1  h212 ) (lenOf pd_1 rfl) 2 (Nat.le_of_eq rfl) (by decide) (by decide) (by decide) (by decide) (by rw [hml]; rfl) (hb hby at_255) 258 rfl (pu_cont fun T245 X244 e246 => ?_)
                      show Go p e below _ T245 (mkF m 258 #[.val (.long x0), .second, .val (.int x1), .val (.int x2), .val (.int x3), .val (.int x4), .val (.int x5), .val (.long v1), .second, .val (.long v2), .second, .val (.ref b5), .val (.long (0 : Int64)), .second, .val (.int v33), .val (.int (1 : Int32)), .val (.long v192), .second, .val (.int v203), .val (.int (0 : Int32)), .val (.long v232), .second, .val (.int v243), .unset] [(.long (f3 v243 v1)), (.long v243.toInt64)])
                      refine g_lload X244 hx rfl (hb hby at_258) 260 rfl ?_
                      refine g_lsub X244 hx (hb hby at_260) 261 rfl ?_
                      refine g_lif_gt X244 hx (hb hby at_261) 262 rfl (hb hby at_262) 269 265 (by decide) rfl rfl (fun q261 => ?_) (fun q261 => ?_)
                      · refine g_iconst X244 hx (0 : Int32) rfl (hb hby at_269) 270 rfl ?_
                        refine g_istore X244 hx #[.val (.long x0), .second, .val (.int x1), .val (.int x2), .val (.int x3), .val (.int x4), .val (.int x5), .val (.long v1), .second, .val (.long v2), .second, .val (.ref b5), .val (.long (0 : Int64)), .second, .val (.int v33), .val (.int (1 : Int32)), .val (.long v192), .second, .val (.int v203), .val (.int (0 : Int32)), .val (.long v232), .second, .val (.int v243), .val (.int (0 : Int32))] rfl (hb hby at_270) 272 rfl ?_
                        refine g_iload X244 hx rfl (hb hby at_272) 274 rfl ?_
                        refine g_if_eq X244 hx (hb hby at_274) 286 277 (by decide) rfl rfl (fun q274 => ?_) (fun q274 => ?_)
                        · refine g_iconst X244 hx (1 : Int32) rfl (hb hby at_286) 287 rfl ?_
                          exact g_retz X244 hx hret hlk (by decide) (by decide) (hb hby at_287) ⟨rfl, N220⟩
                        · exact absurd rfl q274
                      · refine g_iconst X244 hx (1 : Int32) rfl (hb hby at_265) 266 rfl ?_
                        refine g_goto X244 hx (hb hby at_266) 270 (by decide) rfl ?_
                        refine g_istore X244 hx #[.val (.long x0), .second, .val (.int x1), .val (.int x2), .val (.int x3), .val (.int x4), .val (.int x5), .val (.long v1), .second, .val (.long v2), .second, .val (.ref b5), .val (.long (0 : Int64)), .second, .val (.int v33), .val (.int (1 : Int32)), .val (.long v192), .second, .val (.int v203), .val (.int (0 : Int32)), .val (.long v232), .second, .val (.int v243), .val (.int (1 : Int32))] rfl (hb hby at_270) 272 rfl ?_
                        refine g_iload X244 hx rfl (hb hby at_272) 274 rfl ?_
                        refine g_if_eq X244 hx (hb hby at_274) 286 277 (by decide) rfl rfl (fun q274 => ?_) (fun q274 => ?_)
                        · exact absurd q274 (by decide)
                        · refine g_aload X244 hx rfl rfl (hb hby at_277) 279 rfl ?_
                          refine g_iload X244 hx rfl (hb hby at_279) 281 rfl ?_
                          refine g_iload X244 hx rfl (hb hby at_281) 283 rfl ?_
                          refine g_callV X244 hx hZ hown (wd hw 21 rfl) (C := "com/example/usher/usher/FrameCodec$Room") (wd hw 22 rfl) (wd hw 24 rfl) (wd hw 23 rfl) (wd hw 4 rfl) (wd hw 25 rfl) (by decide) e246 [(.int v243), (.int x5)] [] E216 rfl (co4 l Z a0 hw b5 v243 x5 v1 (v1 - (v1 / (4 : Int64))) (0 : Int64) h212 h0.size szh222 sz12 E216 F217 F218 F224 q261) (lenOf pd_3 rfl) 0 (Nat.le_of_eq rfl) (by decide) (by decide) (by decide) (by decide) (by rw [hml]; rfl) (hb hby at_283) 286 rfl (fun r247 T248 L249 X250 Q251 => ?_)
                          obtain ⟨h252, e253⟩ : ∃ h, T248.heap = h := ⟨_, rfl⟩
                          rw [e253] at Q251
                          obtain ⟨rfl, n254, K255, E256, F257, F258, F259⟩ := Q251
                          have N260 := Fr.app N220 n254
                          have F261 := E216.keep K255
                          have szh262 : h0.size ≤ h252.size := Nat.le_trans szh222 K255.1
                          show Go p e below _ T248 (mkF m 286 #[.val (.long x0), .second, .val (.int x1), .val (.int x2), .val (.int x3), .val (.int x4), .val (.int x5), .val (.long v1), .second, .val (.long v2), .second, .val (.ref b5), .val (.long (0 : Int64)), .second, .val (.int v33), .val (.int (1 : Int32)), .val (.long v192), .second, .val (.int v203), .val (.int (0 : Int32)), .val (.long v232), .second, .val (.int v243), .val (.int (1 : Int32))] [])
                          refine g_iconst X250 hx (1 : Int32) rfl (hb hby at_286) 287 rfl ?_
                          exact g_retz X250 hx hret hlk (by decide) (by decide) (hb hby at_287) ⟨rfl, N260⟩
                    · refine g_if_eq X228 hx (hb hby at_235) 242 238 (by decide) rfl rfl (fun q235 => ?_) (fun q235 => ?_)
                      · refine g_iconst X228 hx (0 : Int32) rfl (hb hby at_242) 243 rfl ?_
                        exact J234 T227 X228 e229 ((0 : Int32)) ((if_pos q235).trans rfl).symm
                      · refine g_iconst X228 hx (1 : Int32) rfl (hb hby at_238) 239 rfl ?_
                        refine g_goto X228 hx (hb hby at_239) 243 (by decide) rfl ?_
                        exact J234 T227 X228 e229 ((1 : Int32)) ((if_neg q235).trans rfl).symm
                  · refine g_if_eq X210 hx (hb hby at_206) 214 209 (by decide) rfl rfl (fun q206 => ?_) (fun q206 => ?_)
                    · refine g_lload X210 hx rfl (hb hby at_214) 216 rfl ?_
                      exact J226 T208 X210 e213 (v2) ((if_pos q206).trans rfl).symm
                    · refine g_lload X210 hx rfl (hb hby at_209) 211 rfl ?_
                      refine g_goto X210 hx (hb hby at_211) 216 (by decide) rfl ?_
                      exact J226 T208 X210 e213 (v1) ((if_neg q206).trans rfl).symm
                · exact absurd rfl q188
            · exact absurd rfl q154
          · refine g_iconst X204 hx (1 : Int32) rfl (hb hby at_145) 146 rfl ?_
            refine g_goto X204 hx (hb hby at_146) 150 (by decide) rfl ?_
            refine g_istore X204 hx #[.val (.long x0), .second, .val (.int x1), .val (.int x2), .val (.int x3), .val (.int x4), .val (.int x5), .val (.long v1), .second, .val (.long v2), .second, .val (.ref b5), .val (.long ((0 : Int64) + v33.toInt64)), .second, .val (.int v33), .val (.int (1 : Int32)), .val (.long v192), .second, .val (.int v203), .val (.int (1 : Int32)), .unset, .unset, .unset, .unset] rfl (hb hby at_150) 152 rfl ?_
            refine g_iload X204 hx rfl (hb hby at_152) 154 rfl ?_
            refine g_if_eq X204 hx (hb hby at_154) 174 157 (by decide) rfl rfl (fun q154 => ?_) (fun q154 => ?_)
            · exact absurd q154 (by decide)
            · refine g_aload X204 hx rfl rfl (hb hby at_157) 159 rfl ?_
              refine g_iload X204 hx rfl (hb hby at_159) 161 rfl ?_
              refine g_iload X204 hx rfl (hb hby at_161) 163 rfl ?_
              refine g_callV X204 hx hZ hown (wd hw 21 rfl) (C := "com/example/usher/usher/FrameCodec$Room") (wd hw 22 rfl) (wd hw 24 rfl) (wd hw 23 rfl) (wd hw 4 rfl) (wd hw 25 rfl) (by decide) e206 [(.int v203), (.int x5)] [] E178 rfl (co4 l Z a0 hw b5 v203 x5 v1 (v1 - (v1 / (4 : Int64))) ((0 : Int64) + v33.toInt64) h174 h0.size szh184 sz12 E178 F179 F180 F181 q141) (lenOf pd_3 rfl) 0 (Nat.le_of_eq rfl) (by decide) (by decide) (by decide) (by decide) (by rw [hml]; rfl) (hb hby at_163) 166 rfl (fun r263 T264 L265 X266 Q267 => ?_)
              obtain ⟨h268, e269⟩ : ∃ h, T264.heap = h := ⟨_, rfl⟩
              rw [e269] at Q267
              obtain ⟨rfl, n270, K271, E272, F273, F274, F275⟩ := Q267
              have N276 := Fr.app N182 n270
              have F277 := E178.keep K271
              have szh278 : h0.size ≤ h268.size := Nat.le_trans szh184 K271.1
              show Go p e below _ T264 (mkF m 166 #[.val (.long x0), .second, .val (.int x1), .val (.int x2), .val (.int x3), .val (.int x4), .val (.int x5), .val (.long v1), .second, .val (.long v2), .second, .val (.ref b5), .val (.long ((0 : Int64) + v33.toInt64)), .second, .val (.int v33), .val (.int (1 : Int32)), .val (.long v192), .second, .val (.int v203), .val (.int (1 : Int32)), .unset, .unset, .unset, .unset] [])
              refine g_lload X266 hx rfl (hb hby at_166) 168 rfl ?_
              refine g_iload X266 hx rfl (hb hby at_168) 170 rfl ?_
              refine g_i2l X266 hx (hb hby at_170) 171 rfl ?_
              refine g_ladd X266 hx (hb hby at_171) 172 rfl ?_
              refine g_lstore X266 hx #[.val (.long x0), .second, .val (.int x1), .val (.int x2), .val (.int x3), .val (.int x4), .val (.int x5), .val (.long v1), .second, .val (.long v2), .second, .val (.ref b5), .val (.long (((0 : Int64) + v33.toInt64) + v203.toInt64)), .second, .val (.int v33), .val (.int (1 : Int32)), .val (.long v192), .second, .val (.int v203), .val (.int (1 : Int32)), .unset, .unset, .unset, .unset] rfl (hb hby at_172) 174 rfl ?_
              refine g_iload X266 hx rfl (hb hby at_174) 176 rfl ?_
              refine g_if_eq X266 hx (hb hby at_176) 186 179 (by decide) rfl rfl (fun q176 => ?_) (fun q176 => ?_)
              · exact absurd q176 (by decide)
              · refine g_aload X266 hx rfl rfl (hb hby at_179) 181 rfl ?_
                refine g_iload X266 hx rfl (hb hby at_181) 183 rfl ?_
                refine g_callV X266 hx hZ hown (wd hw 31 rfl) (C := "com/example/usher/usher/FrameCodec$Room") (wd hw 32 rfl) (wd hw 34 rfl) (wd hw 33 rfl) (wd hw 4 rfl) (wd hw 35 rfl) (by decide) e269 [(.int v33)] [] E272 rfl (co6 l Z a0 hw b5 v33 v1 (v1 - (v1 / (4 : Int64))) (((0 : Int64) + v33.toInt64) + v203.toInt64) h268 h0.size szh278 sz12 E272 F273 F274 F275) (lenOf pd_4 rfl) 0 (Nat.le_of_eq rfl) (by decide) (by decide) (by decide) (by decide) (by rw [hml]; rfl) (hb hby at_183) 186 rfl (fun r279 T280 L281 X282 Q283 => ?_)
                obtain ⟨h284, e285⟩ : ∃ h, T280.heap = h := ⟨_, rfl⟩
                rw [e285] at Q283
                obtain ⟨rfl, n286, K287, E288, F289, F290, F291⟩ := Q283
                have N292 := Fr.app N276 n286
                have F293 := E272.keep K287
                have szh294 : h0.size ≤ h284.size := Nat.le_trans szh278 K287.1
                show Go p e below _ T280 (mkF m 186 #[.val (.long x0), .second, .val (.int x1), .val (.int x2), .val (.int x3), .val (.int x4), .val (.int x5), .val (.long v1), .second, .val (.long v2), .second, .val (.ref b5), .val (.long (((0 : Int64) + v33.toInt64) + v203.toInt64)), .second, .val (.int v33), .val (.int (1 : Int32)), .val (.long v192), .second, .val (.int v203), .val (.int (1 : Int32)), .unset, .unset, .unset, .unset] [])
                refine g_iload X282 hx rfl (hb hby at_186) 188 rfl ?_
                refine g_if_eq X282 hx (hb hby at_188) 198 191 (by decide) rfl rfl (fun q188 => ?_) (fun q188 => ?_)
                · exact absurd q188 (by decide)
                · refine g_aload X282 hx rfl rfl (hb hby at_191) 193 rfl ?_
                  refine g_iload X282 hx rfl (hb hby at_193) 195 rfl ?_
                  refine g_callV X282 hx hZ hown (wd hw 31 rfl) (C := "com/example/usher/usher/FrameCodec$Room") (wd hw 32 rfl) (wd hw 34 rfl) (wd hw 33 rfl) (wd hw 4 rfl) (wd hw 35 rfl) (by decide) e285 [(.int v203)] [] E288 rfl (co6 l Z a0 hw b5 v203 v1 (v1 - (v1 / (4 : Int64))) ((((0 : Int64) + v33.toInt64) + v203.toInt64) - v33.toInt64) h284 h0.size szh294 sz12 E288 F289 F290 F291) (lenOf pd_4 rfl) 0 (Nat.le_of_eq rfl) (by decide) (by decide) (by decide) (by decide) (by rw [hml]; rfl) (hb hby at_195) 198 rfl (fun r295 T296 L297 X298 Q299 => ?_)
                  obtain ⟨h300, e301⟩ : ∃ h, T296.heap = h := ⟨_, rfl⟩
                  rw [e301] at Q299
                  obtain ⟨rfl, n302, K303, E304, F305, F306, F307⟩ := Q299
                  have N308 := Fr.app N292 n302
                  have F309 := E288.keep K303
                  have szh310 : h0.size ≤ h300.size := Nat.le_trans szh294 K303.1
                  show Go p e below _ T296 (mkF m 198 #[.val (.long x0), .second, .val (.int x1), .val (.int x2), .val (.int x3), .val (.int x4), .val (.int x5), .val (.long v1), .second, .val (.long v2), .second, .val (.ref b5), .val (.long (((0 : Int64) + v33.toInt64) + v203.toInt64)), .second, .val (.int v33), .val (.int (1 : Int32)), .val (.long v192), .second, .val (.int v203), .val (.int (1 : Int32)), .unset, .unset, .unset, .unset] [])
                  have hz311 : (((((0 : Int64) + v33.toInt64) + v203.toInt64) - v33.toInt64) - v203.toInt64) = (0 : Int64) := own_c2 _ _
                  have F312 := F307
                  rw [hz311] at F312
                  refine g_lconst X298 hx (0 : Int64) rfl (hb hby at_198) 199 rfl ?_
                  refine g_lstore X298 hx #[.val (.long x0), .second, .val (.int x1), .val (.int x2), .val (.int x3), .val (.int x4), .val (.int x5), .val (.long v1), .second, .val (.long v2), .second, .val (.ref b5), .val (.long (0 : Int64)), .second, .val (.int v33), .val (.int (1 : Int32)), .val (.long v192), .second, .val (.int v203), .val (.int (1 : Int32)), .unset, .unset, .unset, .unset] rfl (hb hby at_199) 201 rfl ?_
                  refine g_iload X298 hx rfl (hb hby at_201) 203 rfl ?_
                  refine g_bipush X298 hx (8 : Int32) rfl (hb hby at_203) 205 rfl ?_
                  refine g_iand X298 hx (hb hby at_205) 206 rfl ?_
                  refine Go.joinT (α := Int64) X298 e301 (fun z => mkF m 216 #[.val (.long x0), .second, .val (.int x1), .val (.int x2), .val (.int x3), .val (.int x4), .val (.int x5), .val (.long v1), .second, .val (.long v2), .second, .val (.ref b5), .val (.long (0 : Int64)), .second, .val (.int v33), .val (.int (1 : Int32)), .val (.long v192), .second, .val (.int v203), .val (.int (1 : Int32)), .unset, .unset, .unset, .unset] [(.long z)]) (fun z => z = (if (x4 &&& (8 : Int32)) = (0 : Int32) then v2 else v1)) ?_ (fun J314 => ?_)
                  · rintro T315 X316 e317 z313 hz313
                    show Go p e below _ T315 (mkF m 216 #[.val (.long x0), .second, .val (.int x1), .val (.int x2), .val (.int x3), .val (.int x4), .val (.int x5), .val (.long v1), .second, .val (.long v2), .second, .val (.ref b5), .val (.long (0 : Int64)), .second, .val (.int v33), .val (.int (1 : Int32)), .val (.long v192), .second, .val (.int v203), .val (.int (1 : Int32)), .unset, .unset, .unset, .unset] [(.long z313)])
                    refine g_lload X316 hx rfl (hb hby at_216) 218 rfl ?_
                    refine g_lsub X316 hx (hb hby at_218) 219 rfl ?_
                    refine g_iload X316 hx rfl (hb hby at_219) 221 rfl ?_
                    refine g_iconst X316 hx (3 : Int32) rfl (hb hby at_221) 222 rfl ?_
                    refine g_iand X316 hx (hb hby at_222) 223 rfl ?_
                    refine g_i2l X316 hx (hb hby at_223) 224 rfl ?_
                    refine g_lsub X316 hx (hb hby at_224) 225 rfl ?_
                    generalize hv320 : ((z313 - (0 : Int64)) - (x3 &&& (3 : Int32)).toInt64) = v320
                    refine g_lstore X316 hx #[.val (.long x0), .second, .val (.int x1), .val (.int x2), .val (.int x3), .val (.int x4), .val (.int x5), .val (.long v1), .second, .val (.long v2), .second, .val (.ref b5), .val (.long (0 : Int64)), .second, .val (.int v33), .val (.int (1 : Int32)), .val (.long v192), .second, .val (.int v203), .val (.int (1 : Int32)), .val (.long v320), .second, .unset, .unset] rfl (hb hby at_225) 227 rfl ?_
                    refine g_lload X316 hx rfl (hb hby at_227) 229 rfl ?_
                    refine g_iload X316 hx rfl (hb hby at_229) 231 rfl ?_
                    refine g_iload X316 hx rfl (hb hby at_231) 233 rfl ?_
                    refine g_iconst X316 hx (4 : Int32) rfl (hb hby at_233) 234 rfl ?_
                    refine g_iand X316 hx (hb hby at_234) 235 rfl ?_
                    refine Go.joinT (α := Int32) X316 e317 (fun z => mkF m 243 #[.val (.long x0), .second, .val (.int x1), .val (.int x2), .val (.int x3), .val (.int x4), .val (.int x5), .val (.long v1), .second, .val (.long v2), .second, .val (.ref b5), .val (.long (0 : Int64)), .second, .val (.int v33), .val (.int (1 : Int32)), .val (.long v192), .second, .val (.int v203), .val (.int (1 : Int32)), .val (.long v320), .second, .unset, .unset] [(.int z), (.int x3), (.long v320)]) (fun z => z = (if (x4 &&& (4 : Int32)) = (0 : Int32) then (0 : Int32) else (1 : Int32))) ?_ (fun J322 => ?_)
                    · rintro T323 X324 e325 z321 hz321
                      show Go p e below _ T323 (mkF m 243 #[.val (.long x0), .second, .val (.int x1), .val (.int x2), .val (.int x3), .val (.int x4), .val (.int x5), .val (.long v1), .second, .val (.long v2), .second, .val (.ref b5), .val (.long (0 : Int64)), .second, .val (.int v33), .val (.int (1 : Int32)), .val (.long v192), .second, .val (.int v203), .val (.int (1 : Int32)), .val (.long v320), .second, .unset, .unset] [(.int z321), (.int x3), (.long v320)])
                      refine g_callS X324 hx hZ hown (wd hw 28 rfl) (wd hw 29 rfl) (wd hw 19 rfl) (wd hw 30 rfl) (by decide) e325 [(.long v320), (.int x3), (.int z321)] []  rfl (co5 l Z a0 hw v320 x3 z321  h300 ) (lenOf pd_2 rfl) 0 (Nat.le_of_eq rfl) (by decide) (by decide) (by decide) (by decide) (by rw [hml]; rfl) (hb hby at_243) 246 rfl (pu_cont fun T329 X328 e330 => ?_)
                      show Go p e below _ T329 (mkF m 246 #[.val (.long x0), .second, .val (.int x1), .val (.int x2), .val (.int x3), .val (.int x4), .val (.int x5), .val (.long v1), .second, .val (.long v2), .second, .val (.ref b5), .val (.long (0 : Int64)), .second, .val (.int v33), .val (.int (1 : Int32)), .val (.long v192), .second, .val (.int v203), .val (.int (1 : Int32)), .val (.long v320), .second, .unset, .unset] [(.int (f5 v320 x3 z321))])
                      generalize hv331 : (f5 v320 x3 z321) = v331
                      refine g_istore X328 hx #[.val (.long x0), .second, .val (.int x1), .val (.int x2), .val (.int x3), .val (.int x4), .val (.int x5), .val (.long v1), .second, .val (.long v2), .second, .val (.ref b5), .val (.long (0 : Int64)), .second, .val (.int v33), .val (.int (1 : Int32)), .val (.long v192), .second, .val (.int v203), .val (.int (1 : Int32)), .val (.long v320), .second, .val (.int v331), .unset] rfl (hb hby at_246) 248 rfl ?_
                      refine g_iload X328 hx rfl (hb hby at_248) 250 rfl ?_
                      refine g_i2l X328 hx (hb hby at_250) 251 rfl ?_
                      refine g_iload X328 hx rfl (hb hby at_251) 253 rfl ?_
                      refine g_lload X328 hx rfl (hb hby at_253) 255 rfl ?_
                      refine g_callS X328 hx hZ hown (wd hw 17 rfl) (wd hw 18 rfl) (wd hw 19 rfl) (wd hw 20 rfl) (by decide) e330 [(.int v331), (.long v1)] [(.long v331.toInt64)]  rfl (co3 l Z a0 hw v331 v1  h300 ) (lenOf pd_1 rfl) 2 (Nat.le_of_eq rfl) (by decide) (by decide) (by decide) (by decide) (by rw [hml]; rfl) (hb hby at_255) 258 rfl (pu_cont fun T333 X332 e334 => ?_)
                      show Go p e below _ T333 (mkF m 258 #[.val (.long x0), .second, .val (.int x1), .val (.int x2), .val (.int x3), .val (.int x4), .val (.int x5), .val (.long v1), .second, .val (.long v2), .second, .val (.ref b5), .val (.long (0 : Int64)), .second, .val (.int v33), .val (.int (1 : Int32)), .val (.long v192), .second, .val (.int v203), .val (.int (1 : Int32)), .val (.long v320), .second, .val (.int v331), .unset] [(.long (f3 v331 v1)), (.long v331.toInt64)])
                      refine g_lload X332 hx rfl (hb hby at_258) 260 rfl ?_
                      refine g_lsub X332 hx (hb hby at_260) 261 rfl ?_
                      refine g_lif_gt X332 hx (hb hby at_261) 262 rfl (hb hby at_262) 269 265 (by decide) rfl rfl (fun q261 => ?_) (fun q261 => ?_)
                      · refine g_iconst X332 hx (0 : Int32) rfl (hb hby at_269) 270 rfl ?_
                        refine g_istore X332 hx #[.val (.long x0), .second, .val (.int x1), .val (.int x2), .val (.int x3), .val (.int x4), .val (.int x5), .val (.long v1), .second, .val (.long v2), .second, .val (.ref b5), .val (.long (0 : Int64)), .second, .val (.int v33), .val (.int (1 : Int32)), .val (.long v192), .second, .val (.int v203), .val (.int (1 : Int32)), .val (.long v320), .second, .val (.int v331), .val (.int (0 : Int32))] rfl (hb hby at_270) 272 rfl ?_
                        refine g_iload X332 hx rfl (hb hby at_272) 274 rfl ?_
                        refine g_if_eq X332 hx (hb hby at_274) 286 277 (by decide) rfl rfl (fun q274 => ?_) (fun q274 => ?_)
                        · refine g_iconst X332 hx (1 : Int32) rfl (hb hby at_286) 287 rfl ?_
                          exact g_retz X332 hx hret hlk (by decide) (by decide) (hb hby at_287) ⟨rfl, N308⟩
                        · exact absurd rfl q274
                      · refine g_iconst X332 hx (1 : Int32) rfl (hb hby at_265) 266 rfl ?_
                        refine g_goto X332 hx (hb hby at_266) 270 (by decide) rfl ?_
                        refine g_istore X332 hx #[.val (.long x0), .second, .val (.int x1), .val (.int x2), .val (.int x3), .val (.int x4), .val (.int x5), .val (.long v1), .second, .val (.long v2), .second, .val (.ref b5), .val (.long (0 : Int64)), .second, .val (.int v33), .val (.int (1 : Int32)), .val (.long v192), .second, .val (.int v203), .val (.int (1 : Int32)), .val (.long v320), .second, .val (.int v331), .val (.int (1 : Int32))] rfl (hb hby at_270) 272 rfl ?_
                        refine g_iload X332 hx rfl (hb hby at_272) 274 rfl ?_
                        refine g_if_eq X332 hx (hb hby at_274) 286 277 (by decide) rfl rfl (fun q274 => ?_) (fun q274 => ?_)
                        · exact absurd q274 (by decide)
                        · refine g_aload X332 hx rfl rfl (hb hby at_277) 279 rfl ?_
                          refine g_iload X332 hx rfl (hb hby at_279) 281 rfl ?_
                          refine g_iload X332 hx rfl (hb hby at_281) 283 rfl ?_
                          refine g_callV X332 hx hZ hown (wd hw 21 rfl) (C := "com/example/usher/usher/FrameCodec$Room") (wd hw 22 rfl) (wd hw 24 rfl) (wd hw 23 rfl) (wd hw 4 rfl) (wd hw 25 rfl) (by decide) e334 [(.int v331), (.int x5)] [] E304 rfl (co4 l Z a0 hw b5 v331 x5 v1 (v1 - (v1 / (4 : Int64))) (0 : Int64) h300 h0.size szh310 sz12 E304 F305 F306 F312 q261) (lenOf pd_3 rfl) 0 (Nat.le_of_eq rfl) (by decide) (by decide) (by decide) (by decide) (by rw [hml]; rfl) (hb hby at_283) 286 rfl (fun r335 T336 L337 X338 Q339 => ?_)
                          obtain ⟨h340, e341⟩ : ∃ h, T336.heap = h := ⟨_, rfl⟩
                          rw [e341] at Q339
                          obtain ⟨rfl, n342, K343, E344, F345, F346, F347⟩ := Q339
                          have N348 := Fr.app N308 n342
                          have F349 := E304.keep K343
                          have szh350 : h0.size ≤ h340.size := Nat.le_trans szh310 K343.1
                          show Go p e below _ T336 (mkF m 286 #[.val (.long x0), .second, .val (.int x1), .val (.int x2), .val (.int x3), .val (.int x4), .val (.int x5), .val (.long v1), .second, .val (.long v2), .second, .val (.ref b5), .val (.long (0 : Int64)), .second, .val (.int v33), .val (.int (1 : Int32)), .val (.long v192), .second, .val (.int v203), .val (.int (1 : Int32)), .val (.long v320), .second, .val (.int v331), .val (.int (1 : Int32))] [])
                          refine g_iconst X338 hx (1 : Int32) rfl (hb hby at_286) 287 rfl ?_
                          exact g_retz X338 hx hret hlk (by decide) (by decide) (hb hby at_287) ⟨rfl, N348⟩
                    · refine g_if_eq X316 hx (hb hby at_235) 242 238 (by decide) rfl rfl (fun q235 => ?_) (fun q235 => ?_)
                      · refine g_iconst X316 hx (0 : Int32) rfl (hb hby at_242) 243 rfl ?_
                        exact J322 T315 X316 e317 ((0 : Int32)) ((if_pos q235).trans rfl).symm
                      · refine g_iconst X316 hx (1 : Int32) rfl (hb hby at_238) 239 rfl ?_
                        refine g_goto X316 hx (hb hby at_239) 243 (by decide) rfl ?_
                        exact J322 T315 X316 e317 ((1 : Int32)) ((if_neg q235).trans rfl).symm
                  · refine g_if_eq X298 hx (hb hby at_206) 214 209 (by decide) rfl rfl (fun q206 => ?_) (fun q206 => ?_)
                    · refine g_lload X298 hx rfl (hb hby at_214) 216 rfl ?_
                      exact J314 T296 X298 e301 (v2) ((if_pos q206).trans rfl).symm
                    · refine g_lload X298 hx rfl (hb hby at_209) 211 rfl ?_
                      refine g_goto X298 hx (hb hby at_211) 216 (by decide) rfl ?_
                      exact J314 T296 X298 e301 (v1) ((if_neg q206).trans rfl).symm
        · refine g_if_eq X188 hx (hb hby at_115) 122 118 (by decide) rfl rfl (fun q115 => ?_) (fun q115 => ?_)
          · refine g_iconst X188 hx (0 : Int32) rfl (hb hby at_122) 123 rfl ?_
            exact J194 T187 X188 e189 ((0 : Int32)) ((if_pos q115).trans rfl).symm
          · refine g_iconst X188 hx (1 : Int32) rfl (hb hby at_118) 119 rfl ?_
            refine g_goto X188 hx (hb hby at_119) 123 (by decide) rfl ?_
            exact J194 T187 X188 e189 ((1 : Int32)) ((if_neg q115).trans rfl).symm
      · refine g_if_eq X172 hx (hb hby at_88) 96 91 (by decide) rfl rfl (fun q88 => ?_) (fun q88 => ?_)
        · refine g_lload X172 hx rfl (hb hby at_96) 98 rfl ?_
          exact J186 T170 X172 e175 (v2) ((if_pos q88).trans rfl).symm
        · refine g_lload X172 hx rfl (hb hby at_91) 93 rfl ?_
          refine g_goto X172 hx (hb hby at_93) 98 (by decide) rfl ?_
          exact J186 T170 X172 e175 (v1) ((if_neg q88).trans rfl).symm
set_option maxRecDepth 65536 in
set_option maxHeartbeats 40000000 in
theorem comes_1 {Post : Tables → Env → Array Value → State → Outcome → State → Prop} (hpost : ∀ tb e args s v u, (limb_1_1.after args s (.returned v) u = true ∧ limb_1_2.after args s (.returned v) u = true ∧ True) → FrameEnd s (.returned v) u (Jvm.fieldLocs frame_1_writes args s ++ Jvm.arrayLocs frame_1_arrays args s ++ Jvm.staticLocs frame_1_statics s) 16 128 → Post tb e args s (.returned v) u) :
    ArmFor flags0 classFile x code maxLocals ret World_1 tables_1 room_1 Calls_1 rest_1 Pre_1 Post := by
  intro l hfl _ _ p e ha hc hk s m args below hf hA hF happ hP
  obtain ⟨hcalls, hrest, hpre⟩ := hP
  obtain ⟨-, -, -, hnamed, -, -, -, hat⟩ := (Spec.applies_iff hf).mp happ
  obtain ⟨hg, hn⟩ := and_e (Cond.before_iff.mp (show (Jvm.Cond.and given_1 narrow_1).before args s = true from hpre))
  obtain ⟨h1, g0⟩ := and_e hg
  obtain ⟨w0, w1, w2, w3, w4, w5, rfl⟩ : ∃ w0 w1 w2 w3 w4 w5 : Value, args = #[w0, w1, w2, w3, w4, w5] := by
    have hs : args.size = 6 := by simpa [Cond.value, given_1] using h1
    obtain ⟨L⟩ := args
    match L, hs with
    | [w0, w1, w2, w3, w4, w5], _ => exact ⟨w0, w1, w2, w3, w4, w5, rfl⟩
  have hw := fun d (hd : d ∈ tables_1) => atoms_spec (ws := Jvm.Cond.code x code maxLocals ret :: tables_1) hat d (List.mem_cons_of_mem _ hd)
  have hfit : Fit s := fun {y c} hc i hi => by
    obtain ⟨ha, rfl⟩ := Array.getElem?_eq_some_iff.mp hc
    have q := List.all_eq_true.mp ((Array.all_eq_true_iff_forall_mem.mp hF) _ (Array.getElem_mem ha)) i (List.mem_range.mpr hi)
    simpa [Array.getElem?_eq_getElem hi] using q
  obtain ⟨k0, g1⟩ := and_e g0
  obtain ⟨x0, r0⟩ := isL_v k0
  obtain rfl : w0 = (.long x0) := Option.some.inj r0
  obtain ⟨k1, g2⟩ := and_e g1
  obtain ⟨x1, r1⟩ := is_v k1
  obtain rfl : w1 = (.int x1) := Option.some.inj r1
  obtain ⟨k2, g3⟩ := and_e g2
  obtain ⟨x2, r2⟩ := is_v k2
  obtain rfl : w2 = (.int x2) := Option.some.inj r2
  obtain ⟨k3, g4⟩ := and_e g3
  obtain ⟨x3, r3⟩ := is_v k3
  obtain rfl : w3 = (.int x3) := Option.some.inj r3
  obtain ⟨k4, g5⟩ := and_e g4
  obtain ⟨x4, r4⟩ := is_v k4
  obtain rfl : w4 = (.int x4) := Option.some.inj r4
  obtain ⟨x5, r5⟩ := is_v g5
  obtain rfl : w5 = (.int x5) := Option.some.inj r5
  obtain ⟨n, o, h1, h2, h3, _, L, rfl, ⟨rfl, N⟩, hq⟩ := rm0 l s _ hw tables_1 x0 x1 x2 x3 x4 x5 s.heap  p e ha hc hk s m _ below hf ((Spec.applies_iff_loose hf).mp happ).1 ⟨rfl, State.Warmed39.refl s, rfl⟩ trivial
  refine ⟨n, _, h1, h2, h3, hpost _ _ _ _ _ _ ⟨Cond.after_iff.mpr rfl, Cond.after_iff.mpr (eq_i res_at (Term.int_eval (1)) rfl), trivial⟩ ⟨hq.1, hq.2.1, (hq.2.2.sift fun y hy => Or.inr (N y hy)).mono (by decide) (by decide)⟩⟩
theorem main_1_1 : Claimed_1_1 := comes_1 fun _ _ _ _ _ _ h hF => ⟨h.1, hF⟩
theorem main_1_2 : Claimed_1_2 := comes_1 fun _ _ _ _ _ _ h hF => ⟨h.2.1, hF⟩
end Jvm.Pilot.@@N@@
namespace Jvm.Pilot.@@N@@
open Jvm Jvm.ClassFile Sem Op Lib Jvm.Free Jvm.Stand Jvm.Pilot.@@N@@.Jvm.D
/-! MADE BY PROGRAM (witnessworld.py) out of the Statement's table words and the real class files: 9 classes; the members and pool entries that the words name. The judged class is class 1, her method 3. -/
namespace start1
open Jvm.ClassFile
def u (s : String) : CpInfo := .utf8 (stringToUtf16 s)
/-- a pool by its gaps: so many unusable entries, then the entry; so many at the end -/
def gap : Nat → List CpInfo → List CpInfo
  | 0, r => r
  | n + 1, r => .unusable :: gap n r
def poolList (es : List (Nat × CpInfo)) (last : Nat) : List CpInfo := es.foldr (fun e r => gap e.1 (e.2 :: r)) (gap last [])
def pool (es : List (Nat × CpInfo)) (last : Nat) : Array CpInfo := ⟨poolList es last⟩
def fileOf (pool : Array CpInfo) (this : Nat) (attrs : Array Attribute := #[]) (ms : Array MethodInfo := #[]) (fl : Nat := 33) (sup : Nat := 0) (ifs : Array Nat := #[]) (fds : Array FieldInfo := #[]) : ClassFile where
  minorVersion := 0
  majorVersion := 65
  constantPool := pool
  accessFlags := fl
  thisClass := this
  superClass := sup
  interfaces := ifs
  fields := fds
  methods := ms
  attributes := attrs
def plain (name : String) (sup : Option ClassId) : Class where
  name := name
  kind := .ordinary
  loader := none
  accessFlags := 33
  super := sup
  interfaces := #[]
  cf := none
  fields := #[]
  methods := #[]
  instanceTypes := #[]
  staticTypes := #[]
  resolved := #[]
  callSites := []
  init := .initialized
  statics := none
  mirror := none

def pool0 : Array CpInfo := pool [(5, u "<init>"), (0, u "()V"), (1, .class_ 10), (1, u "java/lang/Object")] 113

def k0c0 : Code := { maxStack := 0, maxLocals := 1, code := object_method_1_code, exceptionTable := #[], attributes := #[] }
def k0m0 : Method := { name := "<init>", desc := "()V", sig := { parameters := [], returnType := none }, accessFlags := 1, code := some k0c0 }
/-- java/lang/Object -/
def k0 : Class := { plain "java/lang/Object" none with
  accessFlags := 33
  interfaces := #[]
  cf := some (fileOf pool0 8 #[] #[{ accessFlags := 1, nameIndex := 5, descriptorIndex := 6, attributes := #[] }] 33 0 #[] #[])
  fields := #[]
  methods := #[k0m0]
  instanceTypes := #[]
  staticTypes := #[]
  resolved := Array.replicate 124 none
  statics := none }

def pool1 : Array CpInfo := pool [(2, .class_ 4), (1, u "java/lang/Object"), (0, u "<init>"), (0, u "()V"), (0, .long 4), (3, .long 2147483647), (1, .integer 2147483647), (2, .long 9223372036854775807), (1, .class_ 19), (0, u "com/example/usher/usher/FrameCodec$Room"), (0, .methodref 18 21), (0, .nameAndType 5 22), (0, u "(J)V"), (0, .methodref 24 25), (0, .class_ 26), (0, .nameAndType 27 28), (0, u "com/example/usher/usher/RoomTakePinLaw"), (0, u "most"), (0, u "(IJ)J"), (0, .methodref 18 30), (0, .nameAndType 31 32), (0, u "take"), (0, u "(II)V"), (0, .methodref 24 34), (0, .nameAndType 35 36), (0, u "pick"), (0, u "(JIZ)I"), (0, .methodref 18 38), (0, .nameAndType 39 40), (0, u "give"), (0, u "(I)V"), (3, u "law"), (0, u "(JIIIII)Z")] 9

def k1m0 : Method := { name := "<init>", desc := "()V", sig := { parameters := [], returnType := none }, accessFlags := 1, code := none }
def k1c1 : Code := { maxStack := 6, maxLocals := 3, code := method_2_code, exceptionTable := #[], attributes := #[] }
def k1m1 : Method := { name := "most", desc := "(IJ)J", sig := { parameters := [.int, .long], returnType := some .long }, accessFlags := 10, code := some k1c1 }
def k1c2 : Code := { maxStack := 4, maxLocals := 4, code := method_3_code, exceptionTable := #[], attributes := #[] }
def k1m2 : Method := { name := "pick", desc := "(JIZ)I", sig := { parameters := [.long, .int, .boolean], returnType := some .int }, accessFlags := 10, code := some k1c2 }
def k1c3 : Code := { maxStack := 6, maxLocals := 24, code := code, exceptionTable := #[], attributes := #[] }
def k1m3 : Method := { name := "law", desc := "(JIIIII)Z", sig := { parameters := [.long, .int, .int, .int, .int, .int], returnType := some .boolean }, accessFlags := 9, code := some k1c3 }
/-- com/example/usher/usher/RoomTakePinLaw -/
def k1 : Class := { plain "com/example/usher/usher/RoomTakePinLaw" (some 0) with
  accessFlags := 49
  interfaces := #[]
  cf := some (fileOf pool1 24 #[] #[{ accessFlags := 1, nameIndex := 5, descriptorIndex := 6, attributes := #[] }, { accessFlags := 10, nameIndex := 27, descriptorIndex := 28, attributes := #[] }, { accessFlags := 10, nameIndex := 35, descriptorIndex := 36, attributes := #[] }, { accessFlags := 9, nameIndex := 44, descriptorIndex := 45, attributes := #[] }] 49 2 #[] #[])
  fields := #[]
  methods := #[k1m0, k1m1, k1m2, k1m3]
  instanceTypes := #[]
  staticTypes := #[]
  resolved := Array.replicate 55 none
  statics := none }

def pool2 : Array CpInfo := pool [(1, .class_ 2), (0, u "com/example/usher/usher/FrameCodec"), (0, .methodref 4 5), (0, .class_ 6), (0, .nameAndType 7 8), (0, u "java/lang/Object"), (0, u "<init>"), (0, u "()V"), (0, .fieldref 10 11), (0, .class_ 12), (0, .nameAndType 13 14), (0, u "com/example/usher/usher/FrameCodec$Room"), (0, u "limit"), (0, u "J"), (0, .long 4), (1, .fieldref 10 18), (0, .nameAndType 19 14), (0, u "moreLimit"), (0, .fieldref 10 21), (0, .nameAndType 22 14), (0, u "held"), (9, u "(J)V"), (2, u "take"), (0, u "(II)V"), (2, u "give"), (0, u "(I)V")] 19

def k2c0 : Code := { maxStack := 7, maxLocals := 3, code := prog_10_method_1_code, exceptionTable := #[], attributes := #[] }
def k2m0 : Method := { name := "<init>", desc := "(J)V", sig := { parameters := [.long], returnType := none }, accessFlags := 0, code := some k2c0 }
def k2c1 : Code := { maxStack := 8, maxLocals := 5, code := prog_10_method_2_code, exceptionTable := #[], attributes := #[] }
def k2m1 : Method := { name := "take", desc := "(II)V", sig := { parameters := [.int, .int], returnType := none }, accessFlags := 0, code := some k2c1 }
def k2c2 : Code := { maxStack := 5, maxLocals := 2, code := prog_10_method_3_code, exceptionTable := #[], attributes := #[] }
def k2m2 : Method := { name := "give", desc := "(I)V", sig := { parameters := [.int], returnType := none }, accessFlags := 0, code := some k2c2 }
/-- com/example/usher/usher/FrameCodec$Room -/
def k2 : Class := { plain "com/example/usher/usher/FrameCodec$Room" (some 0) with
  accessFlags := 48
  interfaces := #[]
  cf := some (fileOf pool2 10 #[.nestHost 1] #[{ accessFlags := 0, nameIndex := 7, descriptorIndex := 32, attributes := #[] }, { accessFlags := 0, nameIndex := 35, descriptorIndex := 36, attributes := #[] }, { accessFlags := 0, nameIndex := 39, descriptorIndex := 40, attributes := #[] }] 48 4 #[] #[{ accessFlags := 18, nameIndex := 13, descriptorIndex := 14, attributes := #[] }, { accessFlags := 18, nameIndex := 19, descriptorIndex := 14, attributes := #[] }, { accessFlags := 2, nameIndex := 22, descriptorIndex := 14, attributes := #[] }])
  fields := #[{ name := "limit", type := .long, accessFlags := 18, slot := 0, constantValue := 0 }, { name := "moreLimit", type := .long, accessFlags := 18, slot := 1, constantValue := 0 }, { name := "held", type := .long, accessFlags := 2, slot := 2, constantValue := 0 }]
  methods := #[k2m0, k2m1, k2m2]
  instanceTypes := #[.long, .long, .long]
  staticTypes := #[]
  resolved := Array.replicate 60 none
  statics := none }

def pool3 : Array CpInfo := pool [(1, u "java/lang/Cloneable"), (0, .class_ 1), (0, u "java/lang/Object"), (0, .class_ 3)] 3

/-- java/lang/Cloneable -/
def k3 : Class := { plain "java/lang/Cloneable" (some 0) with
  accessFlags := 1537
  interfaces := #[]
  cf := some (fileOf pool3 2 #[] #[] 1537 4 #[] #[])
  fields := #[]
  methods := #[]
  instanceTypes := #[]
  staticTypes := #[]
  resolved := Array.replicate 8 none
  statics := none }

def pool4 : Array CpInfo := pool [(1, u "java/io/Serializable"), (0, .class_ 1), (0, u "java/lang/Object"), (0, .class_ 3)] 3

/-- java/io/Serializable -/
def k4 : Class := { plain "java/io/Serializable" (some 0) with
  accessFlags := 1537
  interfaces := #[]
  cf := some (fileOf pool4 2 #[] #[] 1537 4 #[] #[])
  fields := #[]
  methods := #[]
  instanceTypes := #[]
  staticTypes := #[]
  resolved := Array.replicate 8 none
  statics := none }

/-- the primitive byte -/
def k5 : Class := { plain "byte" none with kind := .primitive 'B', accessFlags := 0x411 }
/-- [B -/
def k6 : Class := { plain "[B" (some 0) with kind := .array 5 .byte, interfaces := #[3, 4], accessFlags := 1041 }

/-- the primitive int -/
def k7 : Class := { plain "int" none with kind := .primitive 'I', accessFlags := 0x411 }
/-- [I -/
def k8 : Class := { plain "[I" (some 0) with kind := .array 7 .int, interfaces := #[3, 4], accessFlags := 1041 }

def heap : Heap := #[]
def classes : Array Class := #[k0, k1, k2, k3, k4, k5, k6, k7, k8]
def interned : List (Array UInt16 × Addr) := []
def slotsUsed : Nat := 0
def theMethod : MethodId := ⟨1, 3⟩
def args0 : Array Value := #[.long 5000, .int 2, .int 3, .int 4, .int 5, .int 6]
def aboutOver (below : List Frame) : State where
  vm := { classes := classes, interned := interned.toArray }
  heap := heap
  slotsUsed := slotsUsed
  threads := #[{ frames := .invoking theMethod args0 :: below }]
def below0 : List Frame := [.native { method := ⟨0, 0⟩, args := #[] }]
def about1 : State := aboutOver below0
def p0 : Program := .bare "" "" ""
def e0 : Env := launch0.env 0 0 0
theorem w_frames : about1.frames = Frame.invoking theMethod args0 :: below0 := rfl
set_option maxRecDepth 65536 in
theorem w_args : argsFit about1.vm theMethod args0 = true := by decide +kernel
set_option maxRecDepth 65536 in
theorem w_heap : heapFits about1 = true := by decide +kernel
set_option maxRecDepth 65536 in
theorem w_runnable : about1.curStatus? = some .runnable := by decide +kernel
set_option maxRecDepth 65536 in
theorem w_alone : about1.alone = true := by decide +kernel
set_option maxRecDepth 65536 in
theorem w_named : about1.methodNamed? x = some theMethod := by decide +kernel
set_option maxRecDepth 65536 in
theorem w_hears : about1.hears theMethod below0 = true := by decide +kernel
set_option maxRecDepth 65536 in
theorem w_ripe : about1.ripe theMethod args0 below0 = true := by decide +kernel
theorem w_running : about1.status = .running := rfl
set_option maxRecDepth 65536 in
theorem w_room : about1.hasRoom e0.platform room_1 = true :=
  launch0.hasRoom_least _ room_1 (by decide +kernel) (by decide +kernel) (by decide +kernel) (by decide +kernel) (by decide +kernel) (by decide +kernel)
theorem allAtoms_all (ts : List Jvm.Cond) (a : Array Jvm.Value) (st : Jvm.State) : (allAtoms ts).before a st = ts.all (fun c => c.before a st) := by
  induction ts with
  | nil => rfl
  | cons c t ih =>
    show (Jvm.Cond.and c (allAtoms t)).before a st = _
    rw [Jvm.Cond.before_and, ih, List.all_cons]
def words1 : List Jvm.Cond := Jvm.Cond.code x code maxLocals ret :: tables_1
/-- a 'code' word, met by the world's own term for the bytes: nothing is compared byte by byte -/
theorem code_word {y : MethodName} {bytes : ByteArray} {mx : Nat} {rt : Option FieldType} {a : Array Value} {s : State} {m : MethodId} {meth : Method} {c : Code} (h1 : s.methodNamed? y = some m) (h2 : s.vm.method? m = some meth) (h3 : meth.code = some c) (h4 : c.code = bytes)
    (h5 : (c.maxLocals == mx && c.exceptionTable.isEmpty && decide (c.maxStack ≤ mostOperands) && decide (meth.sig.returnType = rt) && !meth.locks && decide (parseMethodDescriptor y.desc = some meth.sig)) = true) : (Jvm.Cond.code y bytes mx rt).before a s = true := by
  simp only [Bool.and_eq_true, beq_iff_eq, Bool.not_eq_true', decide_eq_true_eq] at h5
  obtain ⟨⟨⟨⟨⟨g1, g2⟩, g3⟩, g4⟩, g5⟩, g6⟩ := h5
  simp [Cond.before, Cond.holds, Cond.value, h1, h2, h3, h4, g1, g2, g3, g4, g5, g6]
def isCode : Jvm.Cond → Bool
  | .code _ _ _ _ => true
  | _ => false
theorem all_split {L : List Jvm.Cond} {P : Jvm.Cond → Bool} (h1 : L.all (fun c => isCode c || P c) = true) (h2 : ∀ c ∈ L.filter isCode, P c = true) : L.all P = true := by
  refine List.all_eq_true.mpr fun c hc => ?_
  have h := List.all_eq_true.mp h1 c hc
  rcases Bool.eq_false_or_eq_true (isCode c) with hi | hi
  · exact h2 c (List.mem_filter.mpr ⟨hc, hi⟩)
  · simpa [hi] using h
set_option maxRecDepth 65536 in
theorem w_c0 : (Jvm.Cond.code x code maxLocals ret).before args0 about1 = true := code_word (m := ⟨1, 3⟩) (meth := k1m3) (c := k1c3) (by decide +kernel) rfl rfl rfl (by decide +kernel)
set_option maxRecDepth 65536 in
theorem w_c1 : (Jvm.Cond.code ({ cls := "com/example/usher/usher/FrameCodec$Room", name := "<init>", desc := "(J)V" } : Jvm.MethodName) prog_10_method_1_code (3 : Nat) (Option.none : Option Jvm.ClassFile.FieldType)).before args0 about1 = true := code_word (m := ⟨2, 0⟩) (meth := k2m0) (c := k2c0) (by decide +kernel) rfl rfl rfl (by decide +kernel)
set_option maxRecDepth 65536 in
theorem w_c2 : (Jvm.Cond.code ({ cls := "java/lang/Object", name := "<init>", desc := "()V" } : Jvm.MethodName) object_method_1_code (1 : Nat) (Option.none : Option Jvm.ClassFile.FieldType)).before args0 about1 = true := code_word (m := ⟨0, 0⟩) (meth := k0m0) (c := k0c0) (by decide +kernel) rfl rfl rfl (by decide +kernel)
set_option maxRecDepth 65536 in
theorem w_c3 : (Jvm.Cond.code ({ cls := "com/example/usher/usher/RoomTakePinLaw", name := "most", desc := "(IJ)J" } : Jvm.MethodName) method_2_code (3 : Nat) (Option.some Jvm.ClassFile.FieldType.long)).before args0 about1 = true := code_word (m := ⟨1, 1⟩) (meth := k1m1) (c := k1c1) (by decide +kernel) rfl rfl rfl (by decide +kernel)
set_option maxRecDepth 65536 in
theorem w_c4 : (Jvm.Cond.code ({ cls := "com/example/usher/usher/FrameCodec$Room", name := "take", desc := "(II)V" } : Jvm.MethodName) prog_10_method_2_code (5 : Nat) (Option.none : Option Jvm.ClassFile.FieldType)).before args0 about1 = true := code_word (m := ⟨2, 1⟩) (meth := k2m1) (c := k2c1) (by decide +kernel) rfl rfl rfl (by decide +kernel)
set_option maxRecDepth 65536 in
theorem w_c5 : (Jvm.Cond.code ({ cls := "com/example/usher/usher/RoomTakePinLaw", name := "pick", desc := "(JIZ)I" } : Jvm.MethodName) method_3_code (4 : Nat) (Option.some Jvm.ClassFile.FieldType.int)).before args0 about1 = true := code_word (m := ⟨1, 2⟩) (meth := k1m2) (c := k1c2) (by decide +kernel) rfl rfl rfl (by decide +kernel)
set_option maxRecDepth 65536 in
theorem w_c6 : (Jvm.Cond.code ({ cls := "com/example/usher/usher/FrameCodec$Room", name := "give", desc := "(I)V" } : Jvm.MethodName) prog_10_method_3_code (2 : Nat) (Option.none : Option Jvm.ClassFile.FieldType)).before args0 about1 = true := code_word (m := ⟨2, 2⟩) (meth := k2m2) (c := k2c2) (by decide +kernel) rfl rfl rfl (by decide +kernel)
def codes1 : List Jvm.Cond := [Jvm.Cond.code x code maxLocals ret, Jvm.Cond.code ({ cls := "com/example/usher/usher/FrameCodec$Room", name := "<init>", desc := "(J)V" } : Jvm.MethodName) prog_10_method_1_code (3 : Nat) (Option.none : Option Jvm.ClassFile.FieldType), Jvm.Cond.code ({ cls := "java/lang/Object", name := "<init>", desc := "()V" } : Jvm.MethodName) object_method_1_code (1 : Nat) (Option.none : Option Jvm.ClassFile.FieldType), Jvm.Cond.code ({ cls := "com/example/usher/usher/RoomTakePinLaw", name := "most", desc := "(IJ)J" } : Jvm.MethodName) method_2_code (3 : Nat) (Option.some Jvm.ClassFile.FieldType.long), Jvm.Cond.code ({ cls := "com/example/usher/usher/FrameCodec$Room", name := "take", desc := "(II)V" } : Jvm.MethodName) prog_10_method_2_code (5 : Nat) (Option.none : Option Jvm.ClassFile.FieldType), Jvm.Cond.code ({ cls := "com/example/usher/usher/RoomTakePinLaw", name := "pick", desc := "(JIZ)I" } : Jvm.MethodName) method_3_code (4 : Nat) (Option.some Jvm.ClassFile.FieldType.int), Jvm.Cond.code ({ cls := "com/example/usher/usher/FrameCodec$Room", name := "give", desc := "(I)V" } : Jvm.MethodName) prog_10_method_3_code (2 : Nat) (Option.none : Option Jvm.ClassFile.FieldType)]
set_option maxRecDepth 65536 in
theorem codes_eq : words1.filter isCode = codes1 := rfl
theorem w_codes : ∀ c ∈ words1.filter isCode, c.before args0 about1 = true := by
  rw [codes_eq]
  intro c hc
  simp only [codes1, List.mem_cons, List.not_mem_nil, or_false] at hc
  rcases hc with rfl | rfl | rfl | rfl | rfl | rfl | rfl
  · exact w_c0
  · exact w_c1
  · exact w_c2
  · exact w_c3
  · exact w_c4
  · exact w_c5
  · exact w_c6
set_option maxRecDepth 65536 in
theorem w_t1 : (words1.take 24).all (fun c => isCode c || c.before args0 about1) = true := by decide +kernel
set_option maxRecDepth 65536 in
theorem w_t2 : (words1.drop 24).all (fun c => isCode c || c.before args0 about1) = true := by decide +kernel
theorem w_tables : (allAtoms (Jvm.Cond.code x code maxLocals ret :: tables_1)).before args0 about1 = true := by
  rw [allAtoms_all]
  show words1.all (fun c => c.before args0 about1) = true
  refine all_split ?_ w_codes
  rw [← List.take_append_drop 24 words1, List.all_append, w_t1, w_t2]
  rfl
set_option maxRecDepth 65536 in
theorem w_case : (Jvm.Cond.and given_1 narrow_1).before args0 about1 = true := by decide +kernel
theorem w_applies : (headSpec (Jvm.Cond.code x code maxLocals ret :: tables_1) room_1).applies x e0.platform about1 = true :=
  (Spec.applies_iff w_frames).mpr ⟨w_running, w_runnable, w_alone, w_named, w_hears, w_ripe, w_room, w_tables⟩
theorem atStart : AtStart classFile x code maxLocals ret World_1 tables_1 room_1 Calls_1 rest_1 Pre_1 launch0 p0 e0 about1 theMethod args0 below0 :=
  ⟨lists_1, trivial, launch0.admits_env _ _ _, launch0.least_env, fairChoices_fair.cas, fairChoices_fair.clock, w_frames, w_args, w_heap, w_applies, trivial, trivial, w_case⟩
end start1
theorem witness_1 : WitnessClaimed_1 := ⟨start1.p0, start1.e0, start1.about1, start1.theMethod, start1.args0, start1.below0, start1.atStart⟩
end Jvm.Pilot.@@N@@
