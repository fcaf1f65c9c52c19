import JvmDerived
import JvmDerived.Pilot.@@N@@Statement
import JvmDerived.Pilot.@@N@@Code
set_option linter.unusedVariables false
set_option linter.unusedSimpArgs false
namespace Jvm.Pilot.@@N@@
open Jvm Jvm.ClassFile Sem Op Lib Jvm.Free Jvm.Stand Jvm.LawKit Jvm.RoadKit Bundle Jvm.Pilot.@@N@@.Jvm.D
/-! ## the shared layer: own_Go and its laws -/
def Go (p : Program) (e : Env) (below : List Frame) (P : State → Outcome → Prop) (T : State) (g : JFrame) : Prop := ∃ t o, Steps p.tables e below (T.setTop g) t ∧ t.status = .running ∧ Ended t below o ∧ P t o
def RP (s : State) (k n : Nat) (Q : Option Value → Heap → List Loc → Prop) (t : State) (o : Outcome) : Prop := ∃ v L, o = .returned v ∧ Q v t.heap L ∧ FrameEnd s o t L k n
theorem wd {a0 : Array Value} {Z : State} (hw : ∀ d ∈ tables_1, d.before a0 Z = true) (k : Nat) {d : Jvm.Cond} (h : tables_1[k]? = some d) : d.before a0 Z = true := hw _ (List.mem_of_getElem? h)
section OwnGo
variable {p : Program} {l : Launch} {e : Env} {R : Room} {s : State} {m : MethodId} {args : Array Value} {below : List Frame} {meth : Method} {c : Code} {T : State} {locs : List Loc} {cells slots : Nat} {P : State → Outcome → Prop} {pc : Nat} {Ls : Array Slot} {st : List Value} {Z : State} {a0 : Array Value} {h : Heap}
theorem Go.stp {T' : State} {g g' : JFrame} (G : Go p e below P T' g') (k : ∀ t, Steps p.tables e below (T'.setTop g') t → Steps p.tables e below (T.setTop g) t) : Go p e below P T g := by
  obtain ⟨t, o, h, r⟩ := G
  exact ⟨t, o, k t h, r⟩
theorem Go.cast {g g' : JFrame} (q : g = g') (G : Go p e below P T g') : Go p e below P T g := q ▸ G
theorem g_iload (X : Stand p l e R s m args below meth c T locs cells slots) (hx : p.tables.exec = Jvm.exec) {k : Nat} {v : Int32} (hl : Ls[k]? = some (.val (.int v))) (hd : decode c.code pc = .ok (.iload k, 2)) (pc' : Nat) (hp : pc + 2 = pc') (G : Go p e below P T (mkF m pc' Ls (.int v :: st))) : Go p e below P T (mkF m pc Ls st) := by
  subst hp
  exact G.stp fun _ h => XS.iload X.here hx rfl hd hl h
theorem g_iloadN (X : Stand p l e R s m args below meth c T locs cells slots) (hx : p.tables.exec = Jvm.exec) {k : Fin 4} {v : Int32} (hl : Ls[k.val]? = some (.val (.int v))) (hd : decode c.code pc = .ok (.iload_n k, 1)) (pc' : Nat) (hp : pc + 1 = pc') (G : Go p e below P T (mkF m pc' Ls (.int v :: st))) : Go p e below P T (mkF m pc Ls st) := by
  subst hp
  exact G.stp fun _ h => XS.iloadN X.here hx rfl hd hl h
theorem g_istore (X : Stand p l e R s m args below meth c T locs cells slots) (hx : p.tables.exec = Jvm.exec) {k : Nat} {v : Int32} (l' : Array Slot) (hl : storeLocals Ls k (.int v) = some l') (hd : decode c.code pc = .ok (.istore k, 2)) (pc' : Nat) (hp : pc + 2 = pc') (G : Go p e below P T (mkF m pc' l' st)) : Go p e below P T (mkF m pc Ls (.int v :: st)) := by
  subst hp
  exact G.stp fun _ h => XS.istore X.here hx rfl hd rfl hl h
theorem g_istoreN (X : Stand p l e R s m args below meth c T locs cells slots) (hx : p.tables.exec = Jvm.exec) {k : Fin 4} {v : Int32} (l' : Array Slot) (hl : storeLocals Ls k.val (.int v) = some l') (hd : decode c.code pc = .ok (.istore_n k, 1)) (pc' : Nat) (hp : pc + 1 = pc') (G : Go p e below P T (mkF m pc' l' st)) : Go p e below P T (mkF m pc Ls (.int v :: st)) := by
  subst hp
  exact G.stp fun _ h => XS.istoreN X.here hx rfl hd rfl hl h
theorem g_lload (X : Stand p l e R s m args below meth c T locs cells slots) (hx : p.tables.exec = Jvm.exec) {k : Nat} {v : Int64} (hl : Ls[k]? = some (.val (.long v))) (hd : decode c.code pc = .ok (.lload k, 2)) (pc' : Nat) (hp : pc + 2 = pc') (G : Go p e below P T (mkF m pc' Ls (.long v :: st))) : Go p e below P T (mkF m pc Ls st) := by
  subst hp
  exact G.stp fun _ h => XT.lload X.here hx rfl hd hl h
theorem g_lloadN (X : Stand p l e R s m args below meth c T locs cells slots) (hx : p.tables.exec = Jvm.exec) {k : Fin 4} {v : Int64} (hl : Ls[k.val]? = some (.val (.long v))) (hd : decode c.code pc = .ok (.lload_n k, 1)) (pc' : Nat) (hp : pc + 1 = pc') (G : Go p e below P T (mkF m pc' Ls (.long v :: st))) : Go p e below P T (mkF m pc Ls st) := by
  subst hp
  exact G.stp fun _ h => XT.lloadN X.here hx rfl hd hl h
theorem g_lstore (X : Stand p l e R s m args below meth c T locs cells slots) (hx : p.tables.exec = Jvm.exec) {k : Nat} {v : Int64} (l' : Array Slot) (hl : storeLocals Ls k (.long v) = some l') (hd : decode c.code pc = .ok (.lstore k, 2)) (pc' : Nat) (hp : pc + 2 = pc') (G : Go p e below P T (mkF m pc' l' st)) : Go p e below P T (mkF m pc Ls (.long v :: st)) := by
  subst hp
  exact G.stp fun _ h => XT.lstore X.here hx rfl hd rfl hl h
theorem g_lstoreN (X : Stand p l e R s m args below meth c T locs cells slots) (hx : p.tables.exec = Jvm.exec) {k : Fin 4} {v : Int64} (l' : Array Slot) (hl : storeLocals Ls k.val (.long v) = some l') (hd : decode c.code pc = .ok (.lstore_n k, 1)) (pc' : Nat) (hp : pc + 1 = pc') (G : Go p e below P T (mkF m pc' l' st)) : Go p e below P T (mkF m pc Ls (.long v :: st)) := by
  subst hp
  exact G.stp fun _ h => XT.lstoreN X.here hx rfl hd rfl hl h
theorem g_aload (X : Stand p l e R s m args below meth c T locs cells slots) (hx : p.tables.exec = Jvm.exec) {k : Nat} {v : Value} (hl : Ls[k]? = some (.val v)) (hv : v.isRef = true) (hd : decode c.code pc = .ok (.aload k, 2)) (pc' : Nat) (hp : pc + 2 = pc') (G : Go p e below P T (mkF m pc' Ls (v :: st))) : Go p e below P T (mkF m pc Ls st) := by
  subst hp
  exact G.stp fun _ h => XS.aload X.here hx rfl hd hl hv h
theorem g_aloadN (X : Stand p l e R s m args below meth c T locs cells slots) (hx : p.tables.exec = Jvm.exec) {k : Fin 4} {v : Value} (hl : Ls[k.val]? = some (.val v)) (hv : v.isRef = true) (hd : decode c.code pc = .ok (.aload_n k, 1)) (pc' : Nat) (hp : pc + 1 = pc') (G : Go p e below P T (mkF m pc' Ls (v :: st))) : Go p e below P T (mkF m pc Ls st) := by
  subst hp
  exact G.stp fun _ h => XS.aloadN X.here hx rfl hd hl hv h
theorem g_astore (X : Stand p l e R s m args below meth c T locs cells slots) (hx : p.tables.exec = Jvm.exec) {k : Nat} {v : Value} (l' : Array Slot) (hv : v.isRef = true) (hl : storeLocals Ls k v = some l') (hd : decode c.code pc = .ok (.astore k, 2)) (pc' : Nat) (hp : pc + 2 = pc') (G : Go p e below P T (mkF m pc' l' st)) : Go p e below P T (mkF m pc Ls (v :: st)) := by
  subst hp
  exact G.stp fun _ h => XS.astore X.here hx rfl hd rfl hv hl h
theorem g_astoreN (X : Stand p l e R s m args below meth c T locs cells slots) (hx : p.tables.exec = Jvm.exec) {k : Fin 4} {v : Value} (l' : Array Slot) (hv : v.isRef = true) (hl : storeLocals Ls k.val v = some l') (hd : decode c.code pc = .ok (.astore_n k, 1)) (pc' : Nat) (hp : pc + 1 = pc') (G : Go p e below P T (mkF m pc' l' st)) : Go p e below P T (mkF m pc Ls (v :: st)) := by
  subst hp
  exact G.stp fun _ h => XS.astoreN X.here hx rfl hd rfl hv hl h
theorem g_iconst (X : Stand p l e R s m args below meth c T locs cells slots) (hx : p.tables.exec = Jvm.exec) {i : Int} (v : Int32) (hv : Int32.ofInt i = v) (hd : decode c.code pc = .ok (.iconst i, 1)) (pc' : Nat) (hp : pc + 1 = pc') (G : Go p e below P T (mkF m pc' Ls (.int v :: st))) : Go p e below P T (mkF m pc Ls st) := by
  subst hp
  exact G.stp fun _ h => XT.iconstV X.here hx rfl v hd hv h
theorem g_bipush (X : Stand p l e R s m args below meth c T locs cells slots) (hx : p.tables.exec = Jvm.exec) {i : Int} (v : Int32) (hv : (Int8.ofInt i).toInt32 = v) (hd : decode c.code pc = .ok (.bipush i, 2)) (pc' : Nat) (hp : pc + 2 = pc') (G : Go p e below P T (mkF m pc' Ls (.int v :: st))) : Go p e below P T (mkF m pc Ls st) := by
  subst hp
  exact G.stp fun _ h => XT.bipushV X.here hx rfl v hd hv h
theorem g_sipush (X : Stand p l e R s m args below meth c T locs cells slots) (hx : p.tables.exec = Jvm.exec) {i : Int} (v : Int32) (hv : (Int16.ofInt i).toInt32 = v) (hd : decode c.code pc = .ok (.sipush i, 3)) (pc' : Nat) (hp : pc + 3 = pc') (G : Go p e below P T (mkF m pc' Ls (.int v :: st))) : Go p e below P T (mkF m pc Ls st) := by
  subst hp
  exact G.stp fun _ h => XT.sipushV X.here hx rfl v hd hv h
theorem g_lconst (X : Stand p l e R s m args below meth c T locs cells slots) (hx : p.tables.exec = Jvm.exec) {i : Fin 2} (v : Int64) (hv : Int64.ofNat i = v) (hd : decode c.code pc = .ok (.lconst i, 1)) (pc' : Nat) (hp : pc + 1 = pc') (G : Go p e below P T (mkF m pc' Ls (.long v :: st))) : Go p e below P T (mkF m pc Ls st) := by
  subst hp
  exact G.stp fun _ h => XT.lconstV X.here hx rfl v hd hv h
theorem g_aconst_null (X : Stand p l e R s m args below meth c T locs cells slots) (hx : p.tables.exec = Jvm.exec)  (hd : decode c.code pc = .ok (.aconst_null, 1)) (pc' : Nat) (hp : pc + 1 = pc') (G : Go p e below P T (mkF m pc' Ls (.null :: st))) : Go p e below P T (mkF m pc Ls st) := by
  subst hp
  exact G.stp fun _ h => XS.aconstNull X.here hx rfl hd h
theorem g_iadd (X : Stand p l e R s m args below meth c T locs cells slots) (hx : p.tables.exec = Jvm.exec) {x y : Int32} (hd : decode c.code pc = .ok (.iadd, 1)) (pc' : Nat) (hp : pc + 1 = pc') (G : Go p e below P T (mkF m pc' Ls (.int (x + y) :: st))) : Go p e below P T (mkF m pc Ls (.int y :: .int x :: st)) := by
  subst hp
  exact G.stp fun _ h => XS.iadd X.here hx rfl hd rfl h
theorem g_ladd (X : Stand p l e R s m args below meth c T locs cells slots) (hx : p.tables.exec = Jvm.exec) {x y : Int64} (hd : decode c.code pc = .ok (.ladd, 1)) (pc' : Nat) (hp : pc + 1 = pc') (G : Go p e below P T (mkF m pc' Ls (.long (x + y) :: st))) : Go p e below P T (mkF m pc Ls (.long y :: .long x :: st)) := by
  subst hp
  exact G.stp fun _ h => XT.ladd X.here hx rfl hd rfl h
theorem g_isub (X : Stand p l e R s m args below meth c T locs cells slots) (hx : p.tables.exec = Jvm.exec) {x y : Int32} (hd : decode c.code pc = .ok (.isub, 1)) (pc' : Nat) (hp : pc + 1 = pc') (G : Go p e below P T (mkF m pc' Ls (.int (x - y) :: st))) : Go p e below P T (mkF m pc Ls (.int y :: .int x :: st)) := by
  subst hp
  exact G.stp fun _ h => XS.isub X.here hx rfl hd rfl h
theorem g_lsub (X : Stand p l e R s m args below meth c T locs cells slots) (hx : p.tables.exec = Jvm.exec) {x y : Int64} (hd : decode c.code pc = .ok (.lsub, 1)) (pc' : Nat) (hp : pc + 1 = pc') (G : Go p e below P T (mkF m pc' Ls (.long (x - y) :: st))) : Go p e below P T (mkF m pc Ls (.long y :: .long x :: st)) := by
  subst hp
  exact G.stp fun _ h => XT.lsub X.here hx rfl hd rfl h
theorem g_imul (X : Stand p l e R s m args below meth c T locs cells slots) (hx : p.tables.exec = Jvm.exec) {x y : Int32} (hd : decode c.code pc = .ok (.imul, 1)) (pc' : Nat) (hp : pc + 1 = pc') (G : Go p e below P T (mkF m pc' Ls (.int (x * y) :: st))) : Go p e below P T (mkF m pc Ls (.int y :: .int x :: st)) := by
  subst hp
  exact G.stp fun _ h => XS.imul X.here hx rfl hd rfl h
theorem g_lmul (X : Stand p l e R s m args below meth c T locs cells slots) (hx : p.tables.exec = Jvm.exec) {x y : Int64} (hd : decode c.code pc = .ok (.lmul, 1)) (pc' : Nat) (hp : pc + 1 = pc') (G : Go p e below P T (mkF m pc' Ls (.long (x * y) :: st))) : Go p e below P T (mkF m pc Ls (.long y :: .long x :: st)) := by
  subst hp
  exact G.stp fun _ h => XT.lmul X.here hx rfl hd rfl h
theorem g_iand (X : Stand p l e R s m args below meth c T locs cells slots) (hx : p.tables.exec = Jvm.exec) {x y : Int32} (hd : decode c.code pc = .ok (.iand, 1)) (pc' : Nat) (hp : pc + 1 = pc') (G : Go p e below P T (mkF m pc' Ls (.int (x &&& y) :: st))) : Go p e below P T (mkF m pc Ls (.int y :: .int x :: st)) := by
  subst hp
  exact G.stp fun _ h => XS.iand X.here hx rfl hd rfl h
theorem g_land (X : Stand p l e R s m args below meth c T locs cells slots) (hx : p.tables.exec = Jvm.exec) {x y : Int64} (hd : decode c.code pc = .ok (.land, 1)) (pc' : Nat) (hp : pc + 1 = pc') (G : Go p e below P T (mkF m pc' Ls (.long (x &&& y) :: st))) : Go p e below P T (mkF m pc Ls (.long y :: .long x :: st)) := by
  subst hp
  exact G.stp fun _ h => XT.land X.here hx rfl hd rfl h
theorem g_ior (X : Stand p l e R s m args below meth c T locs cells slots) (hx : p.tables.exec = Jvm.exec) {x y : Int32} (hd : decode c.code pc = .ok (.ior, 1)) (pc' : Nat) (hp : pc + 1 = pc') (G : Go p e below P T (mkF m pc' Ls (.int (x ||| y) :: st))) : Go p e below P T (mkF m pc Ls (.int y :: .int x :: st)) := by
  subst hp
  exact G.stp fun _ h => XT.ior X.here hx rfl hd rfl h
theorem g_lor (X : Stand p l e R s m args below meth c T locs cells slots) (hx : p.tables.exec = Jvm.exec) {x y : Int64} (hd : decode c.code pc = .ok (.lor, 1)) (pc' : Nat) (hp : pc + 1 = pc') (G : Go p e below P T (mkF m pc' Ls (.long (x ||| y) :: st))) : Go p e below P T (mkF m pc Ls (.long y :: .long x :: st)) := by
  subst hp
  exact G.stp fun _ h => XT.lor X.here hx rfl hd rfl h
theorem g_ixor (X : Stand p l e R s m args below meth c T locs cells slots) (hx : p.tables.exec = Jvm.exec) {x y : Int32} (hd : decode c.code pc = .ok (.ixor, 1)) (pc' : Nat) (hp : pc + 1 = pc') (G : Go p e below P T (mkF m pc' Ls (.int (x ^^^ y) :: st))) : Go p e below P T (mkF m pc Ls (.int y :: .int x :: st)) := by
  subst hp
  exact G.stp fun _ h => XT.ixor X.here hx rfl hd rfl h
theorem g_lxor (X : Stand p l e R s m args below meth c T locs cells slots) (hx : p.tables.exec = Jvm.exec) {x y : Int64} (hd : decode c.code pc = .ok (.lxor, 1)) (pc' : Nat) (hp : pc + 1 = pc') (G : Go p e below P T (mkF m pc' Ls (.long (x ^^^ y) :: st))) : Go p e below P T (mkF m pc Ls (.long y :: .long x :: st)) := by
  subst hp
  exact G.stp fun _ h => XT.lxor X.here hx rfl hd rfl h
theorem g_idiv (X : Stand p l e R s m args below meth c T locs cells slots) (hx : p.tables.exec = Jvm.exec) {x y : Int32} (hy : y ≠ 0) (hd : decode c.code pc = .ok (.idiv, 1)) (pc' : Nat) (hp : pc + 1 = pc') (G : Go p e below P T (mkF m pc' Ls (.int (x / y) :: st))) : Go p e below P T (mkF m pc Ls (.int y :: .int x :: st)) := by
  subst hp
  exact G.stp fun _ h => XS.idiv X.here hx rfl hd rfl hy h
theorem g_irem (X : Stand p l e R s m args below meth c T locs cells slots) (hx : p.tables.exec = Jvm.exec) {x y : Int32} (hy : y ≠ 0) (hd : decode c.code pc = .ok (.irem, 1)) (pc' : Nat) (hp : pc + 1 = pc') (G : Go p e below P T (mkF m pc' Ls (.int (x % y) :: st))) : Go p e below P T (mkF m pc Ls (.int y :: .int x :: st)) := by
  subst hp
  exact G.stp fun _ h => iremM X hx rfl hd rfl hy h
theorem g_ldiv (X : Stand p l e R s m args below meth c T locs cells slots) (hx : p.tables.exec = Jvm.exec) {x y : Int64} (hy : y ≠ 0) (hd : decode c.code pc = .ok (.ldiv, 1)) (pc' : Nat) (hp : pc + 1 = pc') (G : Go p e below P T (mkF m pc' Ls (.long (x / y) :: st))) : Go p e below P T (mkF m pc Ls (.long y :: .long x :: st)) := by
  subst hp
  exact G.stp fun _ h => XT.ldiv X.here hx rfl hd rfl hy h
theorem g_lrem (X : Stand p l e R s m args below meth c T locs cells slots) (hx : p.tables.exec = Jvm.exec) {x y : Int64} (hy : y ≠ 0) (hd : decode c.code pc = .ok (.lrem, 1)) (pc' : Nat) (hp : pc + 1 = pc') (G : Go p e below P T (mkF m pc' Ls (.long (x % y) :: st))) : Go p e below P T (mkF m pc Ls (.long y :: .long x :: st)) := by
  subst hp
  rw [← lrem_mod] at G
  exact G.stp fun _ h => XT.lrem X.here hx rfl hd rfl hy h
theorem g_ishl (X : Stand p l e R s m args below meth c T locs cells slots) (hx : p.tables.exec = Jvm.exec) {x y : Int32} (hd : decode c.code pc = .ok (.ishl, 1)) (pc' : Nat) (hp : pc + 1 = pc') (G : Go p e below P T (mkF m pc' Ls (.int (x <<< (y &&& 31)) :: st))) : Go p e below P T (mkF m pc Ls (.int y :: .int x :: st)) := by
  subst hp
  exact G.stp fun _ h => XT.ishl X.here hx rfl hd rfl h
theorem g_ishr (X : Stand p l e R s m args below meth c T locs cells slots) (hx : p.tables.exec = Jvm.exec) {x y : Int32} (hd : decode c.code pc = .ok (.ishr, 1)) (pc' : Nat) (hp : pc + 1 = pc') (G : Go p e below P T (mkF m pc' Ls (.int (x >>> (y &&& 31)) :: st))) : Go p e below P T (mkF m pc Ls (.int y :: .int x :: st)) := by
  subst hp
  exact G.stp fun _ h => XT.ishr X.here hx rfl hd rfl h
theorem g_iushr (X : Stand p l e R s m args below meth c T locs cells slots) (hx : p.tables.exec = Jvm.exec) {x y : Int32} (hd : decode c.code pc = .ok (.iushr, 1)) (pc' : Nat) (hp : pc + 1 = pc') (G : Go p e below P T (mkF m pc' Ls (.int (XT.ushr x y) :: st))) : Go p e below P T (mkF m pc Ls (.int y :: .int x :: st)) := by
  subst hp
  exact G.stp fun _ h => XT.iushr X.here hx rfl hd rfl h
theorem g_lshl (X : Stand p l e R s m args below meth c T locs cells slots) (hx : p.tables.exec = Jvm.exec) {x : Int64} {y : Int32} (hd : decode c.code pc = .ok (.lshl, 1)) (pc' : Nat) (hp : pc + 1 = pc') (G : Go p e below P T (mkF m pc' Ls (.long (x <<< (y &&& 0x3f).toInt64) :: st))) : Go p e below P T (mkF m pc Ls (.int y :: .long x :: st)) := by
  subst hp
  exact G.stp fun _ h => XS.lshl X.here hx rfl hd rfl h
theorem g_lshr (X : Stand p l e R s m args below meth c T locs cells slots) (hx : p.tables.exec = Jvm.exec) {x : Int64} {y : Int32} (hd : decode c.code pc = .ok (.lshr, 1)) (pc' : Nat) (hp : pc + 1 = pc') (G : Go p e below P T (mkF m pc' Ls (.long (x >>> (y &&& 0x3f).toInt64) :: st))) : Go p e below P T (mkF m pc Ls (.int y :: .long x :: st)) := by
  subst hp
  exact G.stp fun _ h => XS.lshr X.here hx rfl hd rfl h
theorem g_lushr (X : Stand p l e R s m args below meth c T locs cells slots) (hx : p.tables.exec = Jvm.exec) {x : Int64} {y : Int32} (hd : decode c.code pc = .ok (.lushr, 1)) (pc' : Nat) (hp : pc + 1 = pc') (G : Go p e below P T (mkF m pc' Ls (.long (XT.ushrL x y) :: st))) : Go p e below P T (mkF m pc Ls (.int y :: .long x :: st)) := by
  subst hp
  exact G.stp fun _ h => XT.lushr X.here hx rfl hd rfl h
theorem g_ineg (X : Stand p l e R s m args below meth c T locs cells slots) (hx : p.tables.exec = Jvm.exec) {x : Int32} (hd : decode c.code pc = .ok (.ineg, 1)) (pc' : Nat) (hp : pc + 1 = pc') (G : Go p e below P T (mkF m pc' Ls (.int (-x) :: st))) : Go p e below P T (mkF m pc Ls (.int x :: st)) := by
  subst hp
  exact G.stp fun _ h => XS.ineg X.here hx rfl hd rfl h
theorem g_i2l (X : Stand p l e R s m args below meth c T locs cells slots) (hx : p.tables.exec = Jvm.exec) {x : Int32} (hd : decode c.code pc = .ok (.i2l, 1)) (pc' : Nat) (hp : pc + 1 = pc') (G : Go p e below P T (mkF m pc' Ls (.long x.toInt64 :: st))) : Go p e below P T (mkF m pc Ls (.int x :: st)) := by
  subst hp
  exact G.stp fun _ h => XT.i2l X.here hx rfl hd rfl h
theorem g_l2i (X : Stand p l e R s m args below meth c T locs cells slots) (hx : p.tables.exec = Jvm.exec) {x : Int64} (hd : decode c.code pc = .ok (.l2i, 1)) (pc' : Nat) (hp : pc + 1 = pc') (G : Go p e below P T (mkF m pc' Ls (.int x.toInt32 :: st))) : Go p e below P T (mkF m pc Ls (.long x :: st)) := by
  subst hp
  exact G.stp fun _ h => XT.l2i X.here hx rfl hd rfl h
theorem g_i2b (X : Stand p l e R s m args below meth c T locs cells slots) (hx : p.tables.exec = Jvm.exec) {x : Int32} (hd : decode c.code pc = .ok (.i2b, 1)) (pc' : Nat) (hp : pc + 1 = pc') (G : Go p e below P T (mkF m pc' Ls (.int x.toInt8.toInt32 :: st))) : Go p e below P T (mkF m pc Ls (.int x :: st)) := by
  subst hp
  exact G.stp fun _ h => XT.i2b X.here hx rfl hd rfl h
theorem g_i2s (X : Stand p l e R s m args below meth c T locs cells slots) (hx : p.tables.exec = Jvm.exec) {x : Int32} (hd : decode c.code pc = .ok (.i2s, 1)) (pc' : Nat) (hp : pc + 1 = pc') (G : Go p e below P T (mkF m pc' Ls (.int x.toInt16.toInt32 :: st))) : Go p e below P T (mkF m pc Ls (.int x :: st)) := by
  subst hp
  exact G.stp fun _ h => XT.i2s X.here hx rfl hd rfl h
theorem g_i2c (X : Stand p l e R s m args below meth c T locs cells slots) (hx : p.tables.exec = Jvm.exec) {x : Int32} (hd : decode c.code pc = .ok (.i2c, 1)) (pc' : Nat) (hp : pc + 1 = pc') (G : Go p e below P T (mkF m pc' Ls (.int x.toUInt32.toUInt16.toUInt32.toInt32 :: st))) : Go p e below P T (mkF m pc Ls (.int x :: st)) := by
  subst hp
  exact G.stp fun _ h => XT.i2c X.here hx rfl hd rfl h
theorem g_pop (X : Stand p l e R s m args below meth c T locs cells slots) (hx : p.tables.exec = Jvm.exec) {x : Value} (hc : x.category = 1) (hd : decode c.code pc = .ok (.pop, 1)) (pc' : Nat) (hp : pc + 1 = pc') (G : Go p e below P T (mkF m pc' Ls st)) : Go p e below P T (mkF m pc Ls (x :: st)) := by
  subst hp
  exact G.stp fun _ h => XT.pop X.here hx rfl hd rfl hc h
theorem g_dup (X : Stand p l e R s m args below meth c T locs cells slots) (hx : p.tables.exec = Jvm.exec) {x : Value} (hc : x.category = 1) (hd : decode c.code pc = .ok (.dup, 1)) (pc' : Nat) (hp : pc + 1 = pc') (G : Go p e below P T (mkF m pc' Ls (x :: x :: st))) : Go p e below P T (mkF m pc Ls (x :: st)) := by
  subst hp
  exact G.stp fun _ h => XS.dup X.here hx rfl hd rfl hc h
theorem g_dup_x1 (X : Stand p l e R s m args below meth c T locs cells slots) (hx : p.tables.exec = Jvm.exec) {x y : Value} (hc : x.category = 1) (hc' : y.category = 1) (hd : decode c.code pc = .ok (.dup_x1, 1)) (pc' : Nat) (hp : pc + 1 = pc') (G : Go p e below P T (mkF m pc' Ls (x :: y :: x :: st))) : Go p e below P T (mkF m pc Ls (x :: y :: st)) := by
  subst hp
  exact G.stp fun _ h => XT.dupX1 X.here hx rfl hd rfl hc hc' h
theorem g_dup2 (X : Stand p l e R s m args below meth c T locs cells slots) (hx : p.tables.exec = Jvm.exec) {x y : Value} (hc : x.category = 1) (hc' : y.category = 1) (hd : decode c.code pc = .ok (.dup2, 1)) (pc' : Nat) (hp : pc + 1 = pc') (G : Go p e below P T (mkF m pc' Ls (x :: y :: x :: y :: st))) : Go p e below P T (mkF m pc Ls (x :: y :: st)) := by
  subst hp
  exact G.stp fun _ h => XT.dup2 X.here hx rfl hd rfl hc hc' h
theorem g_iinc (X : Stand p l e R s m args below meth c T locs cells slots) (hx : p.tables.exec = Jvm.exec) {k : Nat} {cst : Int} {x : Int32} (v : Int32) (hv : Int32.ofInt cst = v) (hl : Ls[k]? = some (.val (.int x))) (l' : Array Slot) (hl' : storeLocals Ls k (.int (x + v)) = some l') (hd : decode c.code pc = .ok (.iinc k cst, 3)) (pc' : Nat) (hp : pc + 3 = pc') (G : Go p e below P T (mkF m pc' l' st)) : Go p e below P T (mkF m pc Ls st) := by
  subst hp
  exact G.stp fun _ h => XT.iincV X.here hx rfl v hd hv hl hl' h
theorem g_goto (X : Stand p l e R s m args below meth c T locs cells slots) (hx : p.tables.exec = Jvm.exec) {o : Int} (hd : decode c.code pc = .ok (.goto o, 3)) (pc' : Nat) (ho : 0 ≤ (pc : Int) + o) (hp : ((pc : Int) + o).toNat = pc') (G : Go p e below P T (mkF m pc' Ls st)) : Go p e below P T (mkF m pc Ls st) := by
  exact G.stp fun _ h => XS.goto X.here hx rfl rfl hd ho hp h
theorem g_icmp_eq (X : Stand p l e R s m args below meth c T locs cells slots) (hx : p.tables.exec = Jvm.exec) {x y : Int32} {o : Int} (hd : decode c.code pc = .ok (.if_icmp .eq o, 3)) (pcT pcF : Nat) (ho : 0 ≤ (pc : Int) + o) (hT : ((pc : Int) + o).toNat = pcT) (hF : pc + 3 = pcF) (G1 : x = y → Go p e below P T (mkF m pcT Ls st)) (G2 : ¬ x = y → Go p e below P T (mkF m pcF Ls st)) : Go p e below P T (mkF m pc Ls (.int y :: .int x :: st)) := by
  by_cases q : x = y
  · exact (G1 q).stp fun _ h => XS.icmpYes X.here hx rfl rfl hd rfl (XT.ii_eq_t q) ho hT h
  · subst hF
    exact (G2 q).stp fun _ h => XS.icmpNo X.here hx rfl hd rfl (XT.ii_eq_f q) h
theorem g_if_eq (X : Stand p l e R s m args below meth c T locs cells slots) (hx : p.tables.exec = Jvm.exec) {x : Int32} {o : Int} (hd : decode c.code pc = .ok (.ifCond .eq o, 3)) (pcT pcF : Nat) (ho : 0 ≤ (pc : Int) + o) (hT : ((pc : Int) + o).toNat = pcT) (hF : pc + 3 = pcF) (G1 : x = 0 → Go p e below P T (mkF m pcT Ls st)) (G2 : ¬ x = 0 → Go p e below P T (mkF m pcF Ls st)) : Go p e below P T (mkF m pc Ls (.int x :: st)) := by
  by_cases q : x = 0
  · exact (G1 q).stp fun _ h => XS.ifYes X.here hx rfl rfl hd rfl (XT.i0_eq_t q) ho hT h
  · subst hF
    exact (G2 q).stp fun _ h => XS.ifNo X.here hx rfl hd rfl (XT.i0_eq_f q) h
theorem g_lif_eq (X : Stand p l e R s m args below meth c T locs cells slots) (hx : p.tables.exec = Jvm.exec) {x y : Int64} {o : Int} (hd0 : decode c.code pc = .ok (.lcmp, 1)) (pc1 : Nat) (hp1 : pc + 1 = pc1) (hd : decode c.code pc1 = .ok (.ifCond .eq o, 3)) (pcT pcF : Nat) (ho : 0 ≤ (pc1 : Int) + o) (hT : ((pc1 : Int) + o).toNat = pcT) (hF : pc1 + 3 = pcF) (G1 : x = y → Go p e below P T (mkF m pcT Ls st)) (G2 : ¬ x = y → Go p e below P T (mkF m pcF Ls st)) : Go p e below P T (mkF m pc Ls (.long y :: .long x :: st)) := by
  subst hp1
  by_cases q : x = y
  · exact (G1 q).stp fun _ h => XT.lcmp X.here hx rfl hd0 rfl (XS.ifYes X.here hx rfl rfl hd rfl (XT.ll_eq_t q) ho hT h)
  · subst hF
    exact (G2 q).stp fun _ h => XT.lcmp X.here hx rfl hd0 rfl (XS.ifNo X.here hx rfl hd rfl (XT.ll_eq_f q) h)
theorem g_icmp_ne (X : Stand p l e R s m args below meth c T locs cells slots) (hx : p.tables.exec = Jvm.exec) {x y : Int32} {o : Int} (hd : decode c.code pc = .ok (.if_icmp .ne o, 3)) (pcT pcF : Nat) (ho : 0 ≤ (pc : Int) + o) (hT : ((pc : Int) + o).toNat = pcT) (hF : pc + 3 = pcF) (G1 : ¬ x = y → Go p e below P T (mkF m pcT Ls st)) (G2 : x = y → Go p e below P T (mkF m pcF Ls st)) : Go p e below P T (mkF m pc Ls (.int y :: .int x :: st)) := by
  by_cases q : ¬ x = y
  · exact (G1 q).stp fun _ h => XS.icmpYes X.here hx rfl rfl hd rfl (XT.ii_ne_t q) ho hT h
  · subst hF
    exact (G2 (Classical.not_not.mp q)).stp fun _ h => XS.icmpNo X.here hx rfl hd rfl (XT.ii_ne_f (Classical.not_not.mp q)) h
theorem g_if_ne (X : Stand p l e R s m args below meth c T locs cells slots) (hx : p.tables.exec = Jvm.exec) {x : Int32} {o : Int} (hd : decode c.code pc = .ok (.ifCond .ne o, 3)) (pcT pcF : Nat) (ho : 0 ≤ (pc : Int) + o) (hT : ((pc : Int) + o).toNat = pcT) (hF : pc + 3 = pcF) (G1 : ¬ x = 0 → Go p e below P T (mkF m pcT Ls st)) (G2 : x = 0 → Go p e below P T (mkF m pcF Ls st)) : Go p e below P T (mkF m pc Ls (.int x :: st)) := by
  by_cases q : ¬ x = 0
  · exact (G1 q).stp fun _ h => XS.ifYes X.here hx rfl rfl hd rfl (XT.i0_ne_t q) ho hT h
  · subst hF
    exact (G2 (Classical.not_not.mp q)).stp fun _ h => XS.ifNo X.here hx rfl hd rfl (XT.i0_ne_f (Classical.not_not.mp q)) h
theorem g_lif_ne (X : Stand p l e R s m args below meth c T locs cells slots) (hx : p.tables.exec = Jvm.exec) {x y : Int64} {o : Int} (hd0 : decode c.code pc = .ok (.lcmp, 1)) (pc1 : Nat) (hp1 : pc + 1 = pc1) (hd : decode c.code pc1 = .ok (.ifCond .ne o, 3)) (pcT pcF : Nat) (ho : 0 ≤ (pc1 : Int) + o) (hT : ((pc1 : Int) + o).toNat = pcT) (hF : pc1 + 3 = pcF) (G1 : ¬ x = y → Go p e below P T (mkF m pcT Ls st)) (G2 : x = y → Go p e below P T (mkF m pcF Ls st)) : Go p e below P T (mkF m pc Ls (.long y :: .long x :: st)) := by
  subst hp1
  by_cases q : ¬ x = y
  · exact (G1 q).stp fun _ h => XT.lcmp X.here hx rfl hd0 rfl (XS.ifYes X.here hx rfl rfl hd rfl (XT.ll_ne_t q) ho hT h)
  · subst hF
    exact (G2 (Classical.not_not.mp q)).stp fun _ h => XT.lcmp X.here hx rfl hd0 rfl (XS.ifNo X.here hx rfl hd rfl (XT.ll_ne_f (Classical.not_not.mp q)) h)
theorem g_icmp_lt (X : Stand p l e R s m args below meth c T locs cells slots) (hx : p.tables.exec = Jvm.exec) {x y : Int32} {o : Int} (hd : decode c.code pc = .ok (.if_icmp .lt o, 3)) (pcT pcF : Nat) (ho : 0 ≤ (pc : Int) + o) (hT : ((pc : Int) + o).toNat = pcT) (hF : pc + 3 = pcF) (G1 : x < y → Go p e below P T (mkF m pcT Ls st)) (G2 : ¬ x < y → Go p e below P T (mkF m pcF Ls st)) : Go p e below P T (mkF m pc Ls (.int y :: .int x :: st)) := by
  by_cases q : x < y
  · exact (G1 q).stp fun _ h => XS.icmpYes X.here hx rfl rfl hd rfl (XT.ii_lt_t q) ho hT h
  · subst hF
    exact (G2 q).stp fun _ h => XS.icmpNo X.here hx rfl hd rfl (XT.ii_lt_f q) h
theorem g_if_lt (X : Stand p l e R s m args below meth c T locs cells slots) (hx : p.tables.exec = Jvm.exec) {x : Int32} {o : Int} (hd : decode c.code pc = .ok (.ifCond .lt o, 3)) (pcT pcF : Nat) (ho : 0 ≤ (pc : Int) + o) (hT : ((pc : Int) + o).toNat = pcT) (hF : pc + 3 = pcF) (G1 : x < 0 → Go p e below P T (mkF m pcT Ls st)) (G2 : ¬ x < 0 → Go p e below P T (mkF m pcF Ls st)) : Go p e below P T (mkF m pc Ls (.int x :: st)) := by
  by_cases q : x < 0
  · exact (G1 q).stp fun _ h => XS.ifYes X.here hx rfl rfl hd rfl (XT.i0_lt_t q) ho hT h
  · subst hF
    exact (G2 q).stp fun _ h => XS.ifNo X.here hx rfl hd rfl (XT.i0_lt_f q) h
theorem g_lif_lt (X : Stand p l e R s m args below meth c T locs cells slots) (hx : p.tables.exec = Jvm.exec) {x y : Int64} {o : Int} (hd0 : decode c.code pc = .ok (.lcmp, 1)) (pc1 : Nat) (hp1 : pc + 1 = pc1) (hd : decode c.code pc1 = .ok (.ifCond .lt o, 3)) (pcT pcF : Nat) (ho : 0 ≤ (pc1 : Int) + o) (hT : ((pc1 : Int) + o).toNat = pcT) (hF : pc1 + 3 = pcF) (G1 : x < y → Go p e below P T (mkF m pcT Ls st)) (G2 : ¬ x < y → Go p e below P T (mkF m pcF Ls st)) : Go p e below P T (mkF m pc Ls (.long y :: .long x :: st)) := by
  subst hp1
  by_cases q : x < y
  · exact (G1 q).stp fun _ h => XT.lcmp X.here hx rfl hd0 rfl (XS.ifYes X.here hx rfl rfl hd rfl (XT.ll_lt_t q) ho hT h)
  · subst hF
    exact (G2 q).stp fun _ h => XT.lcmp X.here hx rfl hd0 rfl (XS.ifNo X.here hx rfl hd rfl (XT.ll_lt_f q) h)
theorem g_icmp_ge (X : Stand p l e R s m args below meth c T locs cells slots) (hx : p.tables.exec = Jvm.exec) {x y : Int32} {o : Int} (hd : decode c.code pc = .ok (.if_icmp .ge o, 3)) (pcT pcF : Nat) (ho : 0 ≤ (pc : Int) + o) (hT : ((pc : Int) + o).toNat = pcT) (hF : pc + 3 = pcF) (G1 : ¬ x < y → Go p e below P T (mkF m pcT Ls st)) (G2 : x < y → Go p e below P T (mkF m pcF Ls st)) : Go p e below P T (mkF m pc Ls (.int y :: .int x :: st)) := by
  by_cases q : ¬ x < y
  · exact (G1 q).stp fun _ h => XS.icmpYes X.here hx rfl rfl hd rfl (XT.ii_ge_t q) ho hT h
  · subst hF
    exact (G2 (Classical.not_not.mp q)).stp fun _ h => XS.icmpNo X.here hx rfl hd rfl (XT.ii_ge_f (Classical.not_not.mp q)) h
theorem g_if_ge (X : Stand p l e R s m args below meth c T locs cells slots) (hx : p.tables.exec = Jvm.exec) {x : Int32} {o : Int} (hd : decode c.code pc = .ok (.ifCond .ge o, 3)) (pcT pcF : Nat) (ho : 0 ≤ (pc : Int) + o) (hT : ((pc : Int) + o).toNat = pcT) (hF : pc + 3 = pcF) (G1 : ¬ x < 0 → Go p e below P T (mkF m pcT Ls st)) (G2 : x < 0 → Go p e below P T (mkF m pcF Ls st)) : Go p e below P T (mkF m pc Ls (.int x :: st)) := by
  by_cases q : ¬ x < 0
  · exact (G1 q).stp fun _ h => XS.ifYes X.here hx rfl rfl hd rfl (XT.i0_ge_t q) ho hT h
  · subst hF
    exact (G2 (Classical.not_not.mp q)).stp fun _ h => XS.ifNo X.here hx rfl hd rfl (XT.i0_ge_f (Classical.not_not.mp q)) h
theorem g_lif_ge (X : Stand p l e R s m args below meth c T locs cells slots) (hx : p.tables.exec = Jvm.exec) {x y : Int64} {o : Int} (hd0 : decode c.code pc = .ok (.lcmp, 1)) (pc1 : Nat) (hp1 : pc + 1 = pc1) (hd : decode c.code pc1 = .ok (.ifCond .ge o, 3)) (pcT pcF : Nat) (ho : 0 ≤ (pc1 : Int) + o) (hT : ((pc1 : Int) + o).toNat = pcT) (hF : pc1 + 3 = pcF) (G1 : ¬ x < y → Go p e below P T (mkF m pcT Ls st)) (G2 : x < y → Go p e below P T (mkF m pcF Ls st)) : Go p e below P T (mkF m pc Ls (.long y :: .long x :: st)) := by
  subst hp1
  by_cases q : ¬ x < y
  · exact (G1 q).stp fun _ h => XT.lcmp X.here hx rfl hd0 rfl (XS.ifYes X.here hx rfl rfl hd rfl (XT.ll_ge_t q) ho hT h)
  · subst hF
    exact (G2 (Classical.not_not.mp q)).stp fun _ h => XT.lcmp X.here hx rfl hd0 rfl (XS.ifNo X.here hx rfl hd rfl (XT.ll_ge_f (Classical.not_not.mp q)) h)
theorem g_icmp_gt (X : Stand p l e R s m args below meth c T locs cells slots) (hx : p.tables.exec = Jvm.exec) {x y : Int32} {o : Int} (hd : decode c.code pc = .ok (.if_icmp .gt o, 3)) (pcT pcF : Nat) (ho : 0 ≤ (pc : Int) + o) (hT : ((pc : Int) + o).toNat = pcT) (hF : pc + 3 = pcF) (G1 : y < x → Go p e below P T (mkF m pcT Ls st)) (G2 : ¬ y < x → Go p e below P T (mkF m pcF Ls st)) : Go p e below P T (mkF m pc Ls (.int y :: .int x :: st)) := by
  by_cases q : y < x
  · exact (G1 q).stp fun _ h => XS.icmpYes X.here hx rfl rfl hd rfl (XT.ii_gt_t q) ho hT h
  · subst hF
    exact (G2 q).stp fun _ h => XS.icmpNo X.here hx rfl hd rfl (XT.ii_gt_f q) h
theorem g_if_gt (X : Stand p l e R s m args below meth c T locs cells slots) (hx : p.tables.exec = Jvm.exec) {x : Int32} {o : Int} (hd : decode c.code pc = .ok (.ifCond .gt o, 3)) (pcT pcF : Nat) (ho : 0 ≤ (pc : Int) + o) (hT : ((pc : Int) + o).toNat = pcT) (hF : pc + 3 = pcF) (G1 : 0 < x → Go p e below P T (mkF m pcT Ls st)) (G2 : ¬ 0 < x → Go p e below P T (mkF m pcF Ls st)) : Go p e below P T (mkF m pc Ls (.int x :: st)) := by
  by_cases q : 0 < x
  · exact (G1 q).stp fun _ h => XS.ifYes X.here hx rfl rfl hd rfl (XT.i0_gt_t q) ho hT h
  · subst hF
    exact (G2 q).stp fun _ h => XS.ifNo X.here hx rfl hd rfl (XT.i0_gt_f q) h
theorem g_lif_gt (X : Stand p l e R s m args below meth c T locs cells slots) (hx : p.tables.exec = Jvm.exec) {x y : Int64} {o : Int} (hd0 : decode c.code pc = .ok (.lcmp, 1)) (pc1 : Nat) (hp1 : pc + 1 = pc1) (hd : decode c.code pc1 = .ok (.ifCond .gt o, 3)) (pcT pcF : Nat) (ho : 0 ≤ (pc1 : Int) + o) (hT : ((pc1 : Int) + o).toNat = pcT) (hF : pc1 + 3 = pcF) (G1 : y < x → Go p e below P T (mkF m pcT Ls st)) (G2 : ¬ y < x → Go p e below P T (mkF m pcF Ls st)) : Go p e below P T (mkF m pc Ls (.long y :: .long x :: st)) := by
  subst hp1
  by_cases q : y < x
  · exact (G1 q).stp fun _ h => XT.lcmp X.here hx rfl hd0 rfl (XS.ifYes X.here hx rfl rfl hd rfl (XT.ll_gt_t q) ho hT h)
  · subst hF
    exact (G2 q).stp fun _ h => XT.lcmp X.here hx rfl hd0 rfl (XS.ifNo X.here hx rfl hd rfl (XT.ll_gt_f q) h)
theorem g_icmp_le (X : Stand p l e R s m args below meth c T locs cells slots) (hx : p.tables.exec = Jvm.exec) {x y : Int32} {o : Int} (hd : decode c.code pc = .ok (.if_icmp .le o, 3)) (pcT pcF : Nat) (ho : 0 ≤ (pc : Int) + o) (hT : ((pc : Int) + o).toNat = pcT) (hF : pc + 3 = pcF) (G1 : ¬ y < x → Go p e below P T (mkF m pcT Ls st)) (G2 : y < x → Go p e below P T (mkF m pcF Ls st)) : Go p e below P T (mkF m pc Ls (.int y :: .int x :: st)) := by
  by_cases q : ¬ y < x
  · exact (G1 q).stp fun _ h => XS.icmpYes X.here hx rfl rfl hd rfl (XT.ii_le_t q) ho hT h
  · subst hF
    exact (G2 (Classical.not_not.mp q)).stp fun _ h => XS.icmpNo X.here hx rfl hd rfl (XT.ii_le_f (Classical.not_not.mp q)) h
theorem g_if_le (X : Stand p l e R s m args below meth c T locs cells slots) (hx : p.tables.exec = Jvm.exec) {x : Int32} {o : Int} (hd : decode c.code pc = .ok (.ifCond .le o, 3)) (pcT pcF : Nat) (ho : 0 ≤ (pc : Int) + o) (hT : ((pc : Int) + o).toNat = pcT) (hF : pc + 3 = pcF) (G1 : ¬ 0 < x → Go p e below P T (mkF m pcT Ls st)) (G2 : 0 < x → Go p e below P T (mkF m pcF Ls st)) : Go p e below P T (mkF m pc Ls (.int x :: st)) := by
  by_cases q : ¬ 0 < x
  · exact (G1 q).stp fun _ h => XS.ifYes X.here hx rfl rfl hd rfl (XT.i0_le_t q) ho hT h
  · subst hF
    exact (G2 (Classical.not_not.mp q)).stp fun _ h => XS.ifNo X.here hx rfl hd rfl (XT.i0_le_f (Classical.not_not.mp q)) h
theorem g_lif_le (X : Stand p l e R s m args below meth c T locs cells slots) (hx : p.tables.exec = Jvm.exec) {x y : Int64} {o : Int} (hd0 : decode c.code pc = .ok (.lcmp, 1)) (pc1 : Nat) (hp1 : pc + 1 = pc1) (hd : decode c.code pc1 = .ok (.ifCond .le o, 3)) (pcT pcF : Nat) (ho : 0 ≤ (pc1 : Int) + o) (hT : ((pc1 : Int) + o).toNat = pcT) (hF : pc1 + 3 = pcF) (G1 : ¬ y < x → Go p e below P T (mkF m pcT Ls st)) (G2 : y < x → Go p e below P T (mkF m pcF Ls st)) : Go p e below P T (mkF m pc Ls (.long y :: .long x :: st)) := by
  subst hp1
  by_cases q : ¬ y < x
  · exact (G1 q).stp fun _ h => XT.lcmp X.here hx rfl hd0 rfl (XS.ifYes X.here hx rfl rfl hd rfl (XT.ll_le_t q) ho hT h)
  · subst hF
    exact (G2 (Classical.not_not.mp q)).stp fun _ h => XT.lcmp X.here hx rfl hd0 rfl (XS.ifNo X.here hx rfl hd rfl (XT.ll_le_f (Classical.not_not.mp q)) h)
theorem g_acmp_eq (X : Stand p l e R s m args below meth c T locs cells slots) (hx : p.tables.exec = Jvm.exec) {x y : Value} (hx' : x.isRef = true) (hy' : y.isRef = true) {o : Int} (hd : decode c.code pc = .ok (.if_acmp .eq o, 3)) (pcT pcF : Nat) (ho : 0 ≤ (pc : Int) + o) (hT : ((pc : Int) + o).toNat = pcT) (hF : pc + 3 = pcF) (G1 : x = y → Go p e below P T (mkF m pcT Ls st)) (G2 : ¬ x = y → Go p e below P T (mkF m pcF Ls st)) : Go p e below P T (mkF m pc Ls (y :: x :: st)) := by
  by_cases q : x = y
  · exact (G1 q).stp fun _ h => XT.acmpYes X.here hx rfl rfl hd rfl hx' hy' (XT.aa_eq_t q) ho hT h
  · subst hF
    exact (G2 q).stp fun _ h => XT.acmpNo X.here hx rfl hd rfl hx' hy' (XT.aa_eq_f q) h
theorem g_acmp_ne (X : Stand p l e R s m args below meth c T locs cells slots) (hx : p.tables.exec = Jvm.exec) {x y : Value} (hx' : x.isRef = true) (hy' : y.isRef = true) {o : Int} (hd : decode c.code pc = .ok (.if_acmp .ne o, 3)) (pcT pcF : Nat) (ho : 0 ≤ (pc : Int) + o) (hT : ((pc : Int) + o).toNat = pcT) (hF : pc + 3 = pcF) (G1 : ¬ x = y → Go p e below P T (mkF m pcT Ls st)) (G2 : x = y → Go p e below P T (mkF m pcF Ls st)) : Go p e below P T (mkF m pc Ls (y :: x :: st)) := by
  by_cases q : ¬ x = y
  · exact (G1 q).stp fun _ h => XT.acmpYes X.here hx rfl rfl hd rfl hx' hy' (XT.aa_ne_t q) ho hT h
  · subst hF
    exact (G2 (Classical.not_not.mp q)).stp fun _ h => XT.acmpNo X.here hx rfl hd rfl hx' hy' (XT.aa_ne_f (Classical.not_not.mp q)) h
theorem g_ifnull (X : Stand p l e R s m args below meth c T locs cells slots) (hx : p.tables.exec = Jvm.exec) {x : Value} (hx' : x.isRef = true) {o : Int} (hd : decode c.code pc = .ok (.ifnull o, 3)) (pcT pcF : Nat) (ho : 0 ≤ (pc : Int) + o) (hT : ((pc : Int) + o).toNat = pcT) (hF : pc + 3 = pcF) (G1 : x = .null → Go p e below P T (mkF m pcT Ls st)) (G2 : ¬ x = .null → Go p e below P T (mkF m pcF Ls st)) : Go p e below P T (mkF m pc Ls (x :: st)) := by
  by_cases q : x = .null
  · exact (G1 q).stp fun _ h => XT.nullYes X.here hx rfl rfl hd rfl q ho hT h
  · subst hF
    exact (G2 q).stp fun _ h => XT.nullNo X.here hx rfl hd rfl hx' q h
theorem g_ifnonnull (X : Stand p l e R s m args below meth c T locs cells slots) (hx : p.tables.exec = Jvm.exec) {x : Value} (hx' : x.isRef = true) {o : Int} (hd : decode c.code pc = .ok (.ifnonnull o, 3)) (pcT pcF : Nat) (ho : 0 ≤ (pc : Int) + o) (hT : ((pc : Int) + o).toNat = pcT) (hF : pc + 3 = pcF) (G1 : ¬ x = .null → Go p e below P T (mkF m pcT Ls st)) (G2 : x = .null → Go p e below P T (mkF m pcF Ls st)) : Go p e below P T (mkF m pc Ls (x :: st)) := by
  by_cases q : x = .null
  · subst hF
    exact (G2 q).stp fun _ h => XT.nonnullNo X.here hx rfl hd rfl q h
  · exact (G1 q).stp fun _ h => XT.nonnullYes X.here hx rfl rfl hd rfl hx' q ho hT h
theorem g_ldc (X : Stand p l e R s m args below meth c T locs cells slots) (hx : p.tables.exec = Jvm.exec) (hZ : Z.Warmed39 s.vm) {own : String} (hown : s.vm.findClass own = some m.cls) {i : Nat} {v : Int32} (w : (Cond.constant own i v).before a0 Z = true) (hd : decode c.code pc = .ok (.ldc i, 2)) (pc' : Nat) (hp : pc + 2 = pc') (G : Go p e below P T (mkF m pc' Ls (.int v :: st))) : Go p e below P T (mkF m pc Ls st) := by
  subst hp
  exact G.stp fun _ h => Jvm.Stand.ldcI X hx hown (mv hZ w) rfl hd h
theorem g_ldc_w (X : Stand p l e R s m args below meth c T locs cells slots) (hx : p.tables.exec = Jvm.exec) (hZ : Z.Warmed39 s.vm) {own : String} (hown : s.vm.findClass own = some m.cls) {i : Nat} {v : Int32} (w : (Cond.constant own i v).before a0 Z = true) (hd : decode c.code pc = .ok (.ldc_w i, 3)) (pc' : Nat) (hp : pc + 3 = pc') (G : Go p e below P T (mkF m pc' Ls (.int v :: st))) : Go p e below P T (mkF m pc Ls st) := by
  subst hp
  exact G.stp fun _ h => Jvm.Stand.ldcWI X hx hown (mv hZ w) rfl hd h
theorem g_ldc2_w (X : Stand p l e R s m args below meth c T locs cells slots) (hx : p.tables.exec = Jvm.exec) (hZ : Z.Warmed39 s.vm) {own : String} (hown : s.vm.findClass own = some m.cls) {i : Nat} {v : Int64} (w : (Cond.constantLong own i v).before a0 Z = true) (hd : decode c.code pc = .ok (.ldc2_w i, 3)) (pc' : Nat) (hp : pc + 3 = pc') (G : Go p e below P T (mkF m pc' Ls (.long v :: st))) : Go p e below P T (mkF m pc Ls st) := by
  subst hp
  exact G.stp fun _ h => Jvm.Stand.ldc2J X hx hown (mv hZ w) rfl hd h
theorem g_getfield (X : Stand p l e R s m args below meth c T locs cells slots) (hx : p.tables.exec = Jvm.exec) (hZ : Z.Warmed39 s.vm) {own : String} (hown : s.vm.findClass own = some m.cls) {R0 O n d host : String} {i : Nat} (w : (Cond.fieldLink own i R0 n d).before a0 Z = true ∨ (Cond.fieldLinkNest own i R0 n d host).before a0 Z = true) (via : Via Z R0 O n d) {a : Addr} {v : Value} (F : Fld Z h a O n d v) (eT : T.heap = h) (hd : decode c.code pc = .ok (.getfield i, 3)) (pc' : Nat) (hp : pc + 3 = pc') (G : ∀ T', Stand p l e R s m args below meth c T' locs cells slots → T'.heap = h → Go p e below P T' (mkF m pc' Ls (v :: st))) : Go p e below P T (mkF m pc Ls (.ref a :: st)) := by
  subst hp
  obtain ⟨T', X', e', k⟩ := getF X hx hZ hown w via eT F (g := mkF m pc Ls (.ref a :: st)) rfl rfl hd
  exact (G T' X' e').stp k
theorem g_getstatic (X : Stand p l e R s m args below meth c T locs cells slots) (hx : p.tables.exec = Jvm.exec) (hZ : Z.Warmed39 s.vm) {own : String} (hown : s.vm.findClass own = some m.cls) {R0 O n d host : String} {i : Nat} (w : (Cond.fieldLink own i R0 n d).before a0 Z = true ∨ (Cond.fieldLinkNest own i R0 n d host).before a0 Z = true) (via : Via Z R0 O n d) {v : Value} (F : Sta Z h O n d v) (eT : T.heap = h) (hd : decode c.code pc = .ok (.getstatic i, 3)) (pc' : Nat) (hp : pc + 3 = pc') (G : ∀ T', Stand p l e R s m args below meth c T' locs cells slots → T'.heap = h → Go p e below P T' (mkF m pc' Ls (v :: st))) : Go p e below P T (mkF m pc Ls st) := by
  subst hp
  obtain ⟨T', X', e', k⟩ := getS2 X hx hZ hown w via eT F (g := mkF m pc Ls st) rfl hd
  exact (G T' X' e').stp k
theorem g_putfield (X : Stand p l e R s m args below meth c T locs cells slots) (hx : p.tables.exec = Jvm.exec) (hZ : Z.Warmed39 s.vm) {own : String} (hown : s.vm.findClass own = some m.cls) {R0 O n d host C : String} {i kk : Nat} {ty : FieldType} (w : (Cond.fieldLink own i R0 n d).before a0 Z = true ∨ (Cond.fieldLinkNest own i R0 n d host).before a0 Z = true) (via : Via Z R0 O n d) (eT : T.heap = h) {a : Addr} {v old : Value} (F : Fld Z h a O n d old) (E : Exa Z h a C) (L : (Cond.lays C O n d).before a0 Z = true ∨ ((Cond.laysFinal C O n d).before a0 Z = true ∧ own = O ∧ meth.name = "<init>")) (wi : (Cond.instantiable C kk).before a0 Z = true) (hty : parseFieldDescriptor d = some ty) (hn : narrow ty v = v) (hf : fits ty v = true) (hd : decode c.code pc = .ok (.putfield i, 3)) (pc' : Nat) (hp : pc + 3 = pc') (G : ∀ T' h', Stand p l e R s m args below meth c T' (locs ++ [⟨a, Jvm.RoadKit.slotOf Z O n d⟩]) cells slots → T'.heap = h' → Wr h h' a (Jvm.RoadKit.slotOf Z O n d) v → Go p e below P T' (mkF m pc' Ls st)) : Go p e below P T (mkF m pc Ls (v :: .ref a :: st)) := by
  subst hp
  obtain ⟨T', h', X', e', W, k⟩ := putF X hx hZ hown w via eT F E L wi hty hn hf (g := mkF m pc Ls (v :: .ref a :: st)) rfl rfl hd
  exact (G T' h' X' e' W).stp k
theorem g_initO (X : Stand p l e R s m args below meth c T locs cells slots) (hx : p.tables.exec = Jvm.exec) (hZ : Z.Warmed39 s.vm) {own : String} (hown : s.vm.findClass own = some m.cls) {i : Nat} (w1 : (Cond.methodLink own i Lib.objectInit).before a0 Z = true) (w2 : (Cond.instanceMethod Lib.objectInit).before a0 Z = true) (w3 : (Cond.code Lib.objectInit ⟨#[0xb1]⟩ 1 none).before a0 Z = true) (eT : T.heap = h) (hsz : Ls.size = c.maxLocals) {a : Addr} (hd : decode c.code pc = .ok (.invokespecial i, 3)) (hf : 1 ≤ R.frames) (W : Nat) (hW : (st.map fun v => v.category).sum ≤ W) (hl : W + 12 ≤ R.locals) (pc' : Nat) (hp : pc + 3 = pc') (G : ∀ T', Stand p l e R s m args below meth c T' locs cells slots → T'.heap = h → Go p e below P T' (mkF m pc' Ls st)) : Go p e below P T (mkF m pc Ls (.ref a :: st)) := by
  subst hp
  obtain ⟨T', X', e', k⟩ := initO X hx hZ hown w1 w2 w3 eT (g := mkF m pc Ls (.ref a :: st)) rfl hsz rfl hd hf (W := W) (by show 2 * 0 + _ ≤ W; omega) hl
  exact (G T' X' e').stp k
theorem g_new (X : Stand p l e R s m args below meth c T locs cells slots) (hx : p.tables.exec = Jvm.exec) (hZ : Z.Warmed39 s.vm) {own : String} (hown : s.vm.findClass own = some m.cls) {C : String} {i n : Nat} (w : (Cond.classLink own i C).before a0 Z = true) (wi : (Cond.instantiable C n).before a0 Z = true) (wz : (Cond.initialized C).before a0 Z = true) (eT : T.heap = h) (hd : decode c.code pc = .ok (.new i, 3)) (hc : cells + 1 ≤ R.cells) (hl : slots + n ≤ R.slots) (pc' : Nat) (hp : pc + 3 = pc') (G : ∀ T' h' b, Stand p l e R s m args below meth c T' locs (cells + 1) (slots + n) → T'.heap = h' → b = h.size → Ext h h' → Exa Z h' b C → (∀ {O nm d : String} {ty : FieldType}, Laid Z a0 C O nm d → parseFieldDescriptor d = some ty → Fld Z h' b O nm d (defaultValue ty)) → Go p e below P T' (mkF m pc' Ls (.ref b :: st))) : Go p e below P T (mkF m pc Ls st) := by
  subst hp
  obtain ⟨T', h', X', e', E, A, D, -, k⟩ := newO X hx hZ hown w wi wz eT (g := mkF m pc Ls st) rfl hd hc hl
  exact (G T' h' h.size X' e' rfl E A D).stp k
/-- the array at a: of that kind, holding just these values -/
def AV (Z : State) (h : Heap) (a : Addr) (ty : FieldType) (vs : List Value) : Prop := ∃ c : Cell, Arr Z h a c ty ∧ c.slots = vs.toArray ∧ vs.length < 2 ^ 31
theorem AV.lt {a : Addr} {ty : FieldType} {vs : List Value} (F : AV Z h a ty vs) : a < h.size := by obtain ⟨c, A, -⟩ := F; exact A.lt
theorem AV.ext {h' : Heap} {a : Addr} {ty : FieldType} {vs : List Value} (F : AV Z h a ty vs) (E : Ext h h') : AV Z h' a ty vs := by obtain ⟨c, A, r⟩ := F; exact ⟨c, A.ext E, r⟩
theorem AV.other {h' : Heap} {a b : Addr} {sl : Nat} {v : Value} {ty : FieldType} {vs : List Value} (F : AV Z h b ty vs) (W : Wr h h' a sl v) (q : b ≠ a) : AV Z h' b ty vs := by obtain ⟨c, A, r⟩ := F; exact ⟨c, A.other W q, r⟩
theorem AV.keep {h' : Heap} {a : Addr} {ws : List Addr} {ty : FieldType} {vs : List Value} (F : AV Z h a ty vs) (K : Keep h h' ws) (q : a ∉ ws) : AV Z h' a ty vs := by obtain ⟨c, A, r⟩ := F; exact ⟨c, ⟨K.2.1 a c A.1 q, A.2⟩, r⟩
theorem AV.same {h' : Heap} {a : Addr} {sl : Nat} {v : Value} {ty : FieldType} {vs : List Value} (F : AV Z h a ty vs) (W : Wr h h' a sl v) : AV Z h' a ty (vs.set sl v) := by
  obtain ⟨c, A, r1, r2⟩ := F
  exact ⟨_, A.same W, by simp [Cell.setSlot, r1], by simpa using r2⟩
theorem AV.new {a : Addr} {k : ClassId} {ty : FieldType} {n : Int32} (A : Arr Z h a (newA k ty n) ty) (vs : List Value) (q : vs = List.replicate n.toNatClampNeg (defaultValue ty)) (q2 : n.toNatClampNeg < 2 ^ 31) : AV Z h a ty vs := ⟨_, A, by subst q; simp [newA], by subst q; simpa using q2⟩
theorem AV.nostat {a : Addr} {ty : FieldType} {vs : List Value} (F : AV Z h a ty vs) : ∀ cell : Cell, h[a]? = some cell → cell.vm.isStatics = false := by obtain ⟨c, A, -⟩ := F; exact A.nostat
theorem in_of {vs : List Value} {c : Cell} {j : Int32} {v : Value} (r : c.slots = vs.toArray) (hj : ¬ j < 0) (hv : vs[j.toNatClampNeg]? = some v) : ¬ (j < 0 ∨ c.slots.size ≤ j.toNatClampNeg) := by
  have q := (List.getElem?_eq_some_iff.mp hv).1
  intro u
  rcases u with u | u
  · exact hj u
  · rw [r] at u; simp at u; omega
theorem g_iaload (X : Stand p l e R s m args below meth c T locs cells slots) (hx : p.tables.exec = Jvm.exec) (hZ : Z.Warmed39 s.vm) (eT : T.heap = h) {a : Addr} {vs : List Value} {j : Int32} {v : Value} (A : AV Z h a .int vs) (hj : ¬ j < 0) (hv : vs[j.toNatClampNeg]? = some v) (hd : decode c.code pc = .ok (.iaload, 1)) (pc' : Nat) (hp : pc + 1 = pc') (G : Go p e below P T (mkF m pc' Ls (v :: st))) : Go p e below P T (mkF m pc Ls (.int j :: .ref a :: st)) := by
  subst hp
  obtain ⟨cl, A, r1, r2⟩ := A
  exact G.stp fun _ k => X.iaload hx (j := j) (v := v) (by rw [eT]; exact A.1) (State.isArrayOf_alike hZ.alike A.2.1) A.2.2 (in_of r1 hj hv) (by rw [r1]; simpa using hv) (g := mkF m pc Ls (.int j :: .ref a :: st)) rfl rfl hd _ k
theorem g_caload (X : Stand p l e R s m args below meth c T locs cells slots) (hx : p.tables.exec = Jvm.exec) (hZ : Z.Warmed39 s.vm) (eT : T.heap = h) {a : Addr} {vs : List Value} {j : Int32} {v : Value} (A : AV Z h a .char vs) (hj : ¬ j < 0) (hv : vs[j.toNatClampNeg]? = some v) (hd : decode c.code pc = .ok (.caload, 1)) (pc' : Nat) (hp : pc + 1 = pc') (G : Go p e below P T (mkF m pc' Ls (v :: st))) : Go p e below P T (mkF m pc Ls (.int j :: .ref a :: st)) := by
  subst hp
  obtain ⟨cl, A, r1, r2⟩ := A
  exact G.stp fun _ k => X.caload hx (j := j) (v := v) (by rw [eT]; exact A.1) (State.isArrayOf_alike hZ.alike A.2.1) A.2.2 (in_of r1 hj hv) (by rw [r1]; simpa using hv) (g := mkF m pc Ls (.int j :: .ref a :: st)) rfl rfl hd _ k
theorem g_baload (X : Stand p l e R s m args below meth c T locs cells slots) (hx : p.tables.exec = Jvm.exec) (hZ : Z.Warmed39 s.vm) (eT : T.heap = h) {a : Addr} {vs : List Value} {j : Int32} {v : Value} (A : AV Z h a .byte vs) (hj : ¬ j < 0) (hv : vs[j.toNatClampNeg]? = some v) (hd : decode c.code pc = .ok (.baload, 1)) (pc' : Nat) (hp : pc + 1 = pc') (G : Go p e below P T (mkF m pc' Ls (v :: st))) : Go p e below P T (mkF m pc Ls (.int j :: .ref a :: st)) := by
  subst hp
  obtain ⟨cl, A, r1, r2⟩ := A
  exact G.stp fun _ k => X.baloadBytes hx (j := j) (v := v) (by rw [eT]; exact A.1) (State.isArrayOf_alike hZ.alike A.2.1) A.2.2 (in_of r1 hj hv) (by rw [r1]; simpa using hv) (g := mkF m pc Ls (.int j :: .ref a :: st)) rfl rfl hd _ k
theorem g_aaload (X : Stand p l e R s m args below meth c T locs cells slots) (hx : p.tables.exec = Jvm.exec) (hZ : Z.Warmed39 s.vm) (eT : T.heap = h) {a : Addr} {ty : FieldType} {vs : List Value} {j : Int32} {v : Value} (A : AV Z h a ty vs) (hty : ty.isReference = true) (hj : ¬ j < 0) (hv : vs[j.toNatClampNeg]? = some v) (hd : decode c.code pc = .ok (.aaload, 1)) (pc' : Nat) (hp : pc + 1 = pc') (G : Go p e below P T (mkF m pc' Ls (v :: st))) : Go p e below P T (mkF m pc Ls (.int j :: .ref a :: st)) := by
  subst hp
  obtain ⟨cl, A, r1, r2⟩ := A
  exact G.stp fun _ k => X.aaload hx (j := j) (v := v) (by rw [eT]; exact A.1) (State.isArrayOf_alike hZ.alike A.2.1) hty A.2.2 (in_of r1 hj hv) (by rw [r1]; simpa using hv) (g := mkF m pc Ls (.int j :: .ref a :: st)) rfl rfl hd _ k
theorem g_arraylength (X : Stand p l e R s m args below meth c T locs cells slots) (hx : p.tables.exec = Jvm.exec) (hZ : Z.Warmed39 s.vm) (eT : T.heap = h) {a : Addr} {ty : FieldType} {vs : List Value} (A : AV Z h a ty vs) (n : Int32) (hn : Int32.ofNat vs.length = n) (hd : decode c.code pc = .ok (.arraylength, 1)) (pc' : Nat) (hp : pc + 1 = pc') (G : Go p e below P T (mkF m pc' Ls (.int n :: st))) : Go p e below P T (mkF m pc Ls (.ref a :: st)) := by
  subst hp
  obtain ⟨cl, A, r1, r2⟩ := A
  have q : cl.slots.size.toInt32 = n := by rw [r1, ← hn]; simp
  rw [← q] at G
  exact G.stp fun _ k => X.arraylength hx (cell := cl) (by rw [eT]; exact A.1) (State.isArrayOf_alike hZ.alike A.2.1) (g := mkF m pc Ls (.ref a :: st)) rfl rfl hd _ k
theorem g_iastore (X : Stand p l e R s m args below meth c T locs cells slots) (hx : p.tables.exec = Jvm.exec) (hZ : Z.Warmed39 s.vm) (eT : T.heap = h) {a : Addr} {vs : List Value} {j x : Int32} (A : AV Z h a .int vs) (hj : ¬ j < 0) (hi : j.toNatClampNeg < vs.length) (hd : decode c.code pc = .ok (.iastore, 1)) (pc' : Nat) (hp : pc + 1 = pc') (G : ∀ T' h', Stand p l e R s m args below meth c T' (locs ++ [⟨a, j.toNatClampNeg⟩]) cells slots → T'.heap = h' → Wr h h' a j.toNatClampNeg (.int x) → AV Z h' a .int (vs.set j.toNatClampNeg (.int x)) → Go p e below P T' (mkF m pc' Ls st)) : Go p e below P T (mkF m pc Ls (.int x :: .int j :: .ref a :: st)) := by
  subst hp
  have A0 := A
  obtain ⟨cl, A, r1, r2⟩ := A
  obtain ⟨T', h', X', e', W, k⟩ := stI X hx hZ eT A (j := j) (x := x) (in_of r1 hj (List.getElem?_eq_getElem hi)) (g := mkF m pc Ls (.int x :: .int j :: .ref a :: st)) rfl rfl hd
  exact (G T' h' X' e' W (A0.same W)).stp k
theorem g_castore (X : Stand p l e R s m args below meth c T locs cells slots) (hx : p.tables.exec = Jvm.exec) (hZ : Z.Warmed39 s.vm) (eT : T.heap = h) {a : Addr} {vs : List Value} {j x : Int32} (A : AV Z h a .char vs) (hj : ¬ j < 0) (hi : j.toNatClampNeg < vs.length) (hd : decode c.code pc = .ok (.castore, 1)) (pc' : Nat) (hp : pc + 1 = pc') (G : ∀ T' h', Stand p l e R s m args below meth c T' (locs ++ [⟨a, j.toNatClampNeg⟩]) cells slots → T'.heap = h' → Wr h h' a j.toNatClampNeg (.int (nar .char x)) → AV Z h' a .char (vs.set j.toNatClampNeg (.int (nar .char x))) → Go p e below P T' (mkF m pc' Ls st)) : Go p e below P T (mkF m pc Ls (.int x :: .int j :: .ref a :: st)) := by
  subst hp
  have A0 := A
  obtain ⟨cl, A, r1, r2⟩ := A
  obtain ⟨T', h', X', e', W, k⟩ := stC X hx hZ eT A (j := j) (x := x) (in_of r1 hj (List.getElem?_eq_getElem hi)) (g := mkF m pc Ls (.int x :: .int j :: .ref a :: st)) rfl rfl hd
  exact (G T' h' X' e' W (A0.same W)).stp k
theorem g_bastore (X : Stand p l e R s m args below meth c T locs cells slots) (hx : p.tables.exec = Jvm.exec) (hZ : Z.Warmed39 s.vm) (eT : T.heap = h) {a : Addr} {vs : List Value} {j x : Int32} (A : AV Z h a .byte vs) (hj : ¬ j < 0) (hi : j.toNatClampNeg < vs.length) (hd : decode c.code pc = .ok (.bastore, 1)) (pc' : Nat) (hp : pc + 1 = pc') (G : ∀ T' h', Stand p l e R s m args below meth c T' (locs ++ [⟨a, j.toNatClampNeg⟩]) cells slots → T'.heap = h' → Wr h h' a j.toNatClampNeg (.int (nar .byte x)) → AV Z h' a .byte (vs.set j.toNatClampNeg (.int (nar .byte x))) → Go p e below P T' (mkF m pc' Ls st)) : Go p e below P T (mkF m pc Ls (.int x :: .int j :: .ref a :: st)) := by
  subst hp
  have A0 := A
  obtain ⟨cl, A, r1, r2⟩ := A
  obtain ⟨T', h', X', e', W, k⟩ := stB X hx hZ eT A (j := j) (x := x) (in_of r1 hj (List.getElem?_eq_getElem hi)) (g := mkF m pc Ls (.int x :: .int j :: .ref a :: st)) rfl rfl hd
  exact (G T' h' X' e' W (A0.same W)).stp k
theorem g_newarray (X : Stand p l e R s m args below meth c T locs cells slots) (hx : p.tables.exec = Jvm.exec) (hZ : Z.Warmed39 s.vm) {aty : ArrayType} (w : (Cond.arrayClass (newarray.typeOf aty)).before a0 Z = true) (eT : T.heap = h) {n : Int32} (hn : ¬ n < 0) (cap : Nat) (hcap : n.toNatClampNeg ≤ cap) (hb : cap * 8 ≤ 536870912) (hc : cells + 1 ≤ R.cells) (hl : slots + cap ≤ R.slots) (vs : List Value) (hvs : vs = List.replicate n.toNatClampNeg (defaultValue (newarray.typeOf aty))) (hd : decode c.code pc = .ok (.newarray aty, 2)) (pc' : Nat) (hp : pc + 2 = pc') (G : ∀ T' h' b, Stand p l e R s m args below meth c T' locs (cells + 1) (slots + cap) → T'.heap = h' → b = h.size → Ext h h' → AV Z h' b (newarray.typeOf aty) vs → Go p e below P T' (mkF m pc' Ls (.ref b :: st))) : Go p e below P T (mkF m pc Ls (.int n :: st)) := by
  subst hp
  obtain ⟨T', h', cA, X', e', E, A, k⟩ := newP X hx hZ w eT (g := mkF m pc Ls (.int n :: st)) rfl hd rfl hn hcap hb hc hl
  exact (G T' h' h.size X' e' rfl E (AV.new A vs hvs (by omega))).stp k
theorem g_checkcast (X : Stand p l e R s m args below meth c T locs cells slots) (hx : p.tables.exec = Jvm.exec) (hZ : Z.Warmed39 s.vm) {own : String} (hown : s.vm.findClass own = some m.cls) {K : String} {i : Nat} (w : (Cond.classLink own i K).before a0 Z = true) {a : Addr} (F : Ins Z h a K true) (eT : T.heap = h) (hd : decode c.code pc = .ok (.checkcast i, 3)) (pc' : Nat) (hp : pc + 3 = pc') (G : ∀ T', Stand p l e R s m args below meth c T' locs cells slots → T'.heap = h → Go p e below P T' (mkF m pc' Ls (.ref a :: st))) : Go p e below P T (mkF m pc Ls (.ref a :: st)) := by
  subst hp
  obtain ⟨T', X', e', k⟩ := castY X hx hZ hown w eT F (g := mkF m pc Ls (.ref a :: st)) rfl rfl hd
  exact (G T' X' e').stp k
theorem g_instYes (X : Stand p l e R s m args below meth c T locs cells slots) (hx : p.tables.exec = Jvm.exec) (hZ : Z.Warmed39 s.vm) {own : String} (hown : s.vm.findClass own = some m.cls) {K : String} {i : Nat} (w : (Cond.classLink own i K).before a0 Z = true) {a : Addr} (F : Ins Z h a K true) (eT : T.heap = h) (hd : decode c.code pc = .ok (.instanceof i, 3)) (pc' : Nat) (hp : pc + 3 = pc') (G : ∀ T', Stand p l e R s m args below meth c T' locs cells slots → T'.heap = h → Go p e below P T' (mkF m pc' Ls (.int 1 :: st))) : Go p e below P T (mkF m pc Ls (.ref a :: st)) := by
  subst hp
  obtain ⟨T', X', e', k⟩ := instY X hx hZ hown w eT F (g := mkF m pc Ls (.ref a :: st)) rfl rfl hd
  exact (G T' X' e').stp k
theorem g_instNo (X : Stand p l e R s m args below meth c T locs cells slots) (hx : p.tables.exec = Jvm.exec) (hZ : Z.Warmed39 s.vm) {own : String} (hown : s.vm.findClass own = some m.cls) {K C : String} {i : Nat} (w : (Cond.classLink own i K).before a0 Z = true) {a : Addr} (E : Exa Z h a C) (F : ∃ c t, Z.vm.findClass C = some c ∧ Z.vm.findClass K = some t ∧ Z.vm.assignable c t = false) (eT : T.heap = h) (hd : decode c.code pc = .ok (.instanceof i, 3)) (pc' : Nat) (hp : pc + 3 = pc') (G : ∀ T', Stand p l e R s m args below meth c T' locs cells slots → T'.heap = h → Go p e below P T' (mkF m pc' Ls (.int 0 :: st))) : Go p e below P T (mkF m pc Ls (.ref a :: st)) := by
  subst hp
  obtain ⟨T', X', e', k⟩ := instNo X hx hZ hown w eT E F (g := mkF m pc Ls (.ref a :: st)) rfl rfl hd
  exact (G T' X' e').stp k
theorem g_instNull (X : Stand p l e R s m args below meth c T locs cells slots) (hx : p.tables.exec = Jvm.exec) {i : Nat} (hd : decode c.code pc = .ok (.instanceof i, 3)) (pc' : Nat) (hp : pc + 3 = pc') (G : Go p e below P T (mkF m pc' Ls (.int 0 :: st))) : Go p e below P T (mkF m pc Ls (.null :: st)) := by
  subst hp
  exact G.stp fun _ h => X.instanceofNull hx (g := mkF m pc Ls (.null :: st)) rfl rfl hd _ h
theorem g_aastore (X : Stand p l e R s m args below meth c T locs cells slots) (hx : p.tables.exec = Jvm.exec) (hZ : Z.Warmed39 s.vm) (eT : T.heap = h) {a : Addr} {ty : FieldType} {vs : List Value} {j : Int32} {x : Value} (A : AV Z h a ty vs) (hty : ty.isReference = true) (F : Sto Z h a x) (hj : ¬ j < 0) (hi : j.toNatClampNeg < vs.length) (hd : decode c.code pc = .ok (.aastore, 1)) (pc' : Nat) (hp : pc + 1 = pc') (G : ∀ T' h', Stand p l e R s m args below meth c T' (locs ++ [⟨a, j.toNatClampNeg⟩]) cells slots → T'.heap = h' → Wr h h' a j.toNatClampNeg x → AV Z h' a ty (vs.set j.toNatClampNeg x) → Go p e below P T' (mkF m pc' Ls st)) : Go p e below P T (mkF m pc Ls (x :: .int j :: .ref a :: st)) := by
  subst hp
  have A0 := A
  obtain ⟨cl, A, r1, r2⟩ := A
  obtain ⟨T', h', X', e', W, k⟩ := stR X hx hZ eT A (j := j) (v := x) (in_of r1 hj (List.getElem?_eq_getElem hi)) hty F (g := mkF m pc Ls (x :: .int j :: .ref a :: st)) rfl rfl hd
  exact (G T' h' X' e' W (A0.same W)).stp k
/-- what may lie in the array at a: objects of C -/
def Ov (Z : State) (h : Heap) (a : Addr) (C : String) : Prop := ∃ c : Cell, h[a]? = some c ∧ Ovr Z c.cls C
theorem Ov.keep {h' : Heap} {a : Addr} {ws : List Addr} {C : String} (F : Ov Z h a C) (K : Keep h h' ws) : Ov Z h' a C := by obtain ⟨c, h1, o⟩ := F; obtain ⟨c', h2, e, -⟩ := K.2.2 a c h1; exact ⟨c', h2, by rw [e]; exact o⟩
theorem Ov.ext {h' : Heap} {a : Addr} {C : String} (F : Ov Z h a C) (E : Ext h h') : Ov Z h' a C := by obtain ⟨c, h1, o⟩ := F; exact ⟨c, E.2 _ _ h1, o⟩
theorem Ov.wr {h' : Heap} {a b : Addr} {sl : Nat} {v : Value} {C : String} (F : Ov Z h a C) (W : Wr h h' b sl v) : Ov Z h' a C := by obtain ⟨c, h1, o⟩ := F; obtain ⟨c', h2, e, -⟩ := wr_at W h1; exact ⟨c', h2, by rw [e]; exact o⟩
theorem Ov.lt {a : Addr} {C : String} (F : Ov Z h a C) : a < h.size := by obtain ⟨c, h1, -⟩ := F; exact (Array.getElem?_eq_some_iff.mp h1).1
theorem Ov.sto {a y : Addr} {C : String} {ty : FieldType} {vs : List Value} (F : Ov Z h a C) (A : AV Z h a ty vs) (I : Ins Z h y C true) : Sto Z h a (.ref y) := by
  obtain ⟨c, h1, o⟩ := F
  obtain ⟨c', A', -⟩ := A
  cases h1.symm.trans A'.1
  exact Sto.of A' o I
theorem g_anewarray (X : Stand p l e R s m args below meth c T locs cells slots) (hx : p.tables.exec = Jvm.exec) (hZ : Z.Warmed39 s.vm) {own : String} (hown : s.vm.findClass own = some m.cls) {C : String} {i : Nat} (w1 : (Cond.classLink own i C).before a0 Z = true) (w2 : (Cond.arrayOver (.object C)).before a0 Z = true) (eT : T.heap = h) {n : Int32} (hn : ¬ n < 0) (cap : Nat) (hcap : n.toNatClampNeg ≤ cap) (hb : cap * 8 ≤ 536870912) (hc : cells + 1 ≤ R.cells) (hl : slots + cap ≤ R.slots) (vs : List Value) (hvs : vs = List.replicate n.toNatClampNeg .null) (hd : decode c.code pc = .ok (.anewarray i, 3)) (pc' : Nat) (hp : pc + 3 = pc') (G : ∀ T' h' b, Stand p l e R s m args below meth c T' locs (cells + 1) (slots + cap) → T'.heap = h' → b = h.size → Ext h h' → AV Z h' b (.object C) vs → Ov Z h' b C → Go p e below P T' (mkF m pc' Ls (.ref b :: st))) : Go p e below P T (mkF m pc Ls (.int n :: st)) := by
  subst hp
  obtain ⟨T', h', cA, X', e', E, A, O, k⟩ := newR X hx hZ hown w1 w2 eT (g := mkF m pc Ls (.int n :: st)) rfl hd rfl hn hcap hb hc hl
  exact (G T' h' h.size X' e' rfl E (AV.new A vs hvs (by omega)) ⟨_, A.1, O⟩).stp k
theorem g_reti (X : Stand p l e R s m args below meth c T locs cells slots) (hx : p.tables.exec = Jvm.exec) {z : Int32} (hret : meth.sig.returnType = some .int) (hlk : meth.locks = false) {k n : Nat} {Q : Option Value → Heap → List Loc → Prop} (hk : cells ≤ k) (hn : slots ≤ n) (hd : decode c.code pc = .ok (.ireturn, 1)) (hq : Q (some (.int z)) T.heap locs) : Go p e below (RP s k n Q) T (mkF m pc Ls (.int z :: st)) := by
  obtain ⟨fs, hr, hrun, hended, hW, hsame⟩ := X.leave (v := (some (.int z))) (fun h => by first | rfl | (rw [hret] at h; cases h)) hlk
  exact ⟨_, _, retOut X hx hret rfl (Or.inl ⟨rfl, Or.inl rfl, z, rfl⟩) hd hr, hrun, hended, _, _, rfl, hq, ⟨_, rfl⟩, hW, hsame.mono hk hn⟩
theorem g_retz (X : Stand p l e R s m args below meth c T locs cells slots) (hx : p.tables.exec = Jvm.exec) {z : Int32} (hret : meth.sig.returnType = some .boolean) (hlk : meth.locks = false) {k n : Nat} {Q : Option Value → Heap → List Loc → Prop} (hk : cells ≤ k) (hn : slots ≤ n) (hd : decode c.code pc = .ok (.ireturn, 1)) (hq : Q (some (.int (z &&& 1))) T.heap locs) : Go p e below (RP s k n Q) T (mkF m pc Ls (.int z :: st)) := by
  obtain ⟨fs, hr, hrun, hended, hW, hsame⟩ := X.leave (v := (some (.int (z &&& 1)))) (fun h => by first | rfl | (rw [hret] at h; cases h)) hlk
  exact ⟨_, _, retN X hx (t := .boolean) hret (by simp) hd hr, hrun, hended, _, _, rfl, hq, ⟨_, rfl⟩, hW, hsame.mono hk hn⟩
theorem g_retb (X : Stand p l e R s m args below meth c T locs cells slots) (hx : p.tables.exec = Jvm.exec) {z : Int32} (hret : meth.sig.returnType = some .byte) (hlk : meth.locks = false) {k n : Nat} {Q : Option Value → Heap → List Loc → Prop} (hk : cells ≤ k) (hn : slots ≤ n) (hd : decode c.code pc = .ok (.ireturn, 1)) (hq : Q (some (.int z.toInt8.toInt32)) T.heap locs) : Go p e below (RP s k n Q) T (mkF m pc Ls (.int z :: st)) := by
  obtain ⟨fs, hr, hrun, hended, hW, hsame⟩ := X.leave (v := (some (.int z.toInt8.toInt32))) (fun h => by first | rfl | (rw [hret] at h; cases h)) hlk
  exact ⟨_, _, retN X hx (t := .byte) hret (by simp) hd hr, hrun, hended, _, _, rfl, hq, ⟨_, rfl⟩, hW, hsame.mono hk hn⟩
theorem g_retl (X : Stand p l e R s m args below meth c T locs cells slots) (hx : p.tables.exec = Jvm.exec) {z : Int64} (hret : meth.sig.returnType = some .long) (hlk : meth.locks = false) {k n : Nat} {Q : Option Value → Heap → List Loc → Prop} (hk : cells ≤ k) (hn : slots ≤ n) (hd : decode c.code pc = .ok (.lreturn, 1)) (hq : Q (some (.long z)) T.heap locs) : Go p e below (RP s k n Q) T (mkF m pc Ls (.long z :: st)) := by
  obtain ⟨fs, hr, hrun, hended, hW, hsame⟩ := X.leave (v := (some (.long z))) (fun h => by first | rfl | (rw [hret] at h; cases h)) hlk
  exact ⟨_, _, retOut X hx hret rfl (Or.inr (Or.inl ⟨rfl, rfl, z, rfl⟩)) hd hr, hrun, hended, _, _, rfl, hq, ⟨_, rfl⟩, hW, hsame.mono hk hn⟩
theorem g_reta (X : Stand p l e R s m args below meth c T locs cells slots) (hx : p.tables.exec = Jvm.exec) {v : Value} {t : FieldType} (hv : v.isRef = true) (ht : t.isReference = true) (hret : meth.sig.returnType = some t) (hlk : meth.locks = false) {k n : Nat} {Q : Option Value → Heap → List Loc → Prop} (hk : cells ≤ k) (hn : slots ≤ n) (hd : decode c.code pc = .ok (.areturn, 1)) (hq : Q (some v) T.heap locs) : Go p e below (RP s k n Q) T (mkF m pc Ls (v :: st)) := by
  obtain ⟨fs, hr, hrun, hended, hW, hsame⟩ := X.leave (v := (some v)) (fun h => by first | rfl | (rw [hret] at h; cases h)) hlk
  exact ⟨_, _, retOut X hx hret (by cases t <;> first | (cases ht; done) | rfl) (Or.inr (Or.inr (Or.inr (Or.inr ⟨rfl, ht, hv⟩)))) hd hr, hrun, hended, _, _, rfl, hq, ⟨_, rfl⟩, hW, hsame.mono hk hn⟩
theorem g_retv (X : Stand p l e R s m args below meth c T locs cells slots) (hx : p.tables.exec = Jvm.exec) (hret : meth.sig.returnType = none) (hlk : meth.locks = false) {k n : Nat} {Q : Option Value → Heap → List Loc → Prop} (hk : cells ≤ k) (hn : slots ≤ n) (hd : decode c.code pc = .ok (.return_, 1)) (hq : Q none T.heap locs) : Go p e below (RP s k n Q) T (mkF m pc Ls []) := by
  obtain ⟨fs, hr, hrun, hended, hW, hsame⟩ := X.leave (v := none) (fun _ => rfl) hlk
  exact ⟨_, _, X.returnOut hx hret hd hr, hrun, hended, _, _, rfl, hq, ⟨_, rfl⟩, hW, hsame.mono hk hn⟩
/-- what a method does, called with these arguments over this heap -/
def Co (l : Launch) (y : MethodName) (bytes : ByteArray) (maxL : Nat) (ret : Option FieldType) (ws : List Jvm.Cond) (rm : Room) (Z : State) (h : Heap) (as : Array Value) (Q : Option Value → Heap → List Loc → Prop) : Prop := MetFree l y (head1 (Jvm.Cond.code y bytes maxL ret :: ws) rm) (fun a U => a = as ∧ Z.Warmed39 U.vm ∧ U.heap = h) (fun _ _ _ _ _ => True) (fun _ U o U' => ∃ v L, o = .returned v ∧ Q v U'.heap L ∧ FrameEnd U o U' L rm.cells rm.slots)
theorem Co.of {y : MethodName} {bytes : ByteArray} {maxL : Nat} {ret : Option FieldType} {ws : List Jvm.Cond} {rm : Room} {as : Array Value} {Q : Option Value → Heap → List Loc → Prop} (hpl : plainFor y = true) (body : ∀ (p : Program) (e : Env) (s : State) (m : MethodId) (below : List Frame) (meth : Method) (c : Code) (T : State), Stand p l e rm s m as below meth c T [] 0 0 → p.tables.exec = Jvm.exec → c.code = bytes → c.maxLocals = maxL → s.vm.findClass y.cls = some m.cls → meth.name = y.name → meth.sig.returnType = ret → meth.locks = false → Z.Warmed39 s.vm → T.heap = h → Go p e below (RP s rm.cells rm.slots Q) T (entryFrame m as maxL)) : Co l y bytes maxL ret ws rm Z h as Q := by
  refine MetFree.of_bodySF hpl hisR ?_
  intro p e s m args below meth c s₁ Bd hml hP hK
  obtain ⟨rfl, hZ, hh⟩ := hP
  exact body p e s m below meth c s₁ (Stand.of_body Bd) Bd.exec Bd.bytes hml (findClass_of_methodNamed Bd.named) (name_of_methodNamed Bd.named Bd.method).1 Bd.returns (BodyLoose.notSynchronized Bd) hZ (by rw [← hh, Bd.state]; rfl)
theorem g_callS (X : Stand p l e R s m args below meth c T locs cells slots) (hx : p.tables.exec = Jvm.exec) (hZ : Z.Warmed39 s.vm) {own : String} (hown : s.vm.findClass own = some m.cls) {i : Nat} {y : MethodName} {bytes : ByteArray} {maxL : Nat} {ret : Option FieldType} (w1 : (Cond.methodLink own i y).before a0 Z = true) (w2 : (Cond.static y).before a0 Z = true) (w3 : (Cond.initialized y.cls).before a0 Z = true) (w4 : (Cond.code y bytes maxL ret).before a0 Z = true)  (hy : y.cls ≠ "java/lang/invoke/MethodHandle" ∧ y.cls ≠ "java/lang/invoke/VarHandle") (eT : T.heap = h) {rm : Room} {Q : Option Value → Heap → List Loc → Prop} {St : List Value} (argsL rest : List Value) (hs : St = argsL.reverse ++ rest) (M : Co l y bytes maxL ret [] rm Z h argsL.toArray Q) (hlen : ∀ sig, parseMethodDescriptor y.desc = some sig → argsL.length = sig.parameters.length) (W : Nat) (hW : (rest.map fun v => v.category).sum ≤ W) (hf : rm.frames + 1 ≤ R.frames) (hl : W + (maxL + 11) + rm.locals ≤ R.locals) (hc : cells + rm.cells ≤ R.cells) (hsl : slots + rm.slots ≤ R.slots) (hsz : Ls.size = c.maxLocals) (hd : decode c.code pc = .ok (.invokestatic i, 3)) (pc' : Nat) (hp : pc + 3 = pc') (G : ∀ v T' L, Stand p l e R s m args below meth c T' (locs ++ L) (cells + rm.cells) (slots + rm.slots) → Q v T'.heap L → Go p e below P T' (mkF m pc' Ls (v.toList ++ rest))) : Go p e below P T (mkF m pc Ls St) := by
  subst hp
  obtain ⟨v, vm1, ⟨T', L', k', n'⟩, -, X', ⟨L, hQ, h1, h2, h3⟩, k⟩ := Jvm.LawKit.callS X hx (y := y) hown (mvT hZ w1) (mvT hZ w2) (mvT hZ w3) (mvT hZ w4) hy (backOf (W := W) M hZ w4 w3 hf hl) (g := mkF m pc Ls St) rfl hsz (argsL := argsL) (rest := rest) hlen hs (by show 2 * 0 + _ ≤ W; omega) hd (fun _ _ => ⟨rfl, eT, hc, hsl⟩)
  dsimp only [Pt.U, Pt.locs, Pt.cells, Pt.slots] at X' h1 h2 h3 k hQ
  subst h1 h2 h3
  exact (G v T' L X' hQ).stp k
theorem g_init (X : Stand p l e R s m args below meth c T locs cells slots) (hx : p.tables.exec = Jvm.exec) (hZ : Z.Warmed39 s.vm) {own : String} (hown : s.vm.findClass own = some m.cls) {i : Nat} {y : MethodName} {bytes : ByteArray} {maxL : Nat} (w1 : (Cond.methodLink own i y).before a0 Z = true) (hnm : y.name = "<init>") (w2 : (Cond.instanceMethod y).before a0 Z = true) (w3 : (Cond.initialized y.cls).before a0 Z = true) (w4 : (Cond.code y bytes maxL none).before a0 Z = true)  (hy : y.cls ≠ "java/lang/invoke/MethodHandle" ∧ y.cls ≠ "java/lang/invoke/VarHandle") (eT : T.heap = h) {rm : Room} {Q : Option Value → Heap → List Loc → Prop} {St : List Value} (argsL rest : List Value) {a : Addr} (hs : St = argsL.reverse ++ .ref a :: rest) (M : Co l y bytes maxL none [] rm Z h (.ref a :: argsL).toArray Q) (hlen : ∀ sig, parseMethodDescriptor y.desc = some sig → argsL.length = sig.parameters.length) (W : Nat) (hW : (rest.map fun v => v.category).sum ≤ W) (hf : rm.frames + 1 ≤ R.frames) (hl : W + (maxL + 11) + rm.locals ≤ R.locals) (hc : cells + rm.cells ≤ R.cells) (hsl : slots + rm.slots ≤ R.slots) (hsz : Ls.size = c.maxLocals) (hd : decode c.code pc = .ok (.invokespecial i, 3)) (pc' : Nat) (hp : pc + 3 = pc') (G : ∀ v T' L, Stand p l e R s m args below meth c T' (locs ++ L) (cells + rm.cells) (slots + rm.slots) → Q v T'.heap L → Go p e below P T' (mkF m pc' Ls (v.toList ++ rest))) : Go p e below P T (mkF m pc Ls St) := by
  subst hp
  obtain ⟨v, vm1, ⟨T', L', k', n'⟩, -, X', ⟨L, hQ, h1, h2, h3⟩, k⟩ := X.specialBack hx (y := y) hnm hown (mvT hZ w1) (mvT hZ w2) (mvT hZ w4) hy (backOf (W := W) M hZ w4 w3 hf hl) (g := mkF m pc Ls St) rfl hsz (Steps.refl _) (a := a) (argsL := argsL) (rest := rest) hlen hs (by show 2 * 0 + _ ≤ W; omega) hd (fun _ _ => ⟨rfl, eT, hc, hsl⟩)
  dsimp only [Pt.U, Pt.locs, Pt.cells, Pt.slots] at X' h1 h2 h3 k hQ
  subst h1 h2 h3
  exact (G v T' L X' hQ).stp fun _ j => k.trans j
theorem g_callV (X : Stand p l e R s m args below meth c T locs cells slots) (hx : p.tables.exec = Jvm.exec) (hZ : Z.Warmed39 s.vm) {own : String} (hown : s.vm.findClass own = some m.cls) {i : Nat} {y : MethodName} {bytes : ByteArray} {maxL : Nat} {ret : Option FieldType} (w1 : (Cond.methodLink own i y).before a0 Z = true) {C : String} (w2 : (Cond.declares y).before a0 Z = true) (w5 : (Cond.selects C y y).before a0 Z = true) (w6 : (Cond.instanceMethod y).before a0 Z = true) (w3 : (Cond.initialized y.cls).before a0 Z = true) (w4 : (Cond.code y bytes maxL ret).before a0 Z = true)  (hy : y.cls ≠ "java/lang/invoke/MethodHandle" ∧ y.cls ≠ "java/lang/invoke/VarHandle") (eT : T.heap = h) {rm : Room} {Q : Option Value → Heap → List Loc → Prop} {St : List Value} (argsL rest : List Value) {a : Addr} (E : Exa Z h a C) (hs : St = argsL.reverse ++ .ref a :: rest) (M : Co l y bytes maxL ret [] rm Z h (.ref a :: argsL).toArray Q) (hlen : ∀ sig, parseMethodDescriptor y.desc = some sig → argsL.length = sig.parameters.length) (W : Nat) (hW : (rest.map fun v => v.category).sum ≤ W) (hf : rm.frames + 1 ≤ R.frames) (hl : W + (maxL + 11) + rm.locals ≤ R.locals) (hc : cells + rm.cells ≤ R.cells) (hsl : slots + rm.slots ≤ R.slots) (hsz : Ls.size = c.maxLocals) (hd : decode c.code pc = .ok (.invokevirtual i, 3)) (pc' : Nat) (hp : pc + 3 = pc') (G : ∀ v T' L, Stand p l e R s m args below meth c T' (locs ++ L) (cells + rm.cells) (slots + rm.slots) → Q v T'.heap L → Go p e below P T' (mkF m pc' Ls (v.toList ++ rest))) : Go p e below P T (mkF m pc Ls St) := by
  subst hp
  obtain ⟨cq, kq, qa, qb, qc⟩ := isOf hZ eT E
  obtain ⟨v, vm1, ⟨T', L', k', n'⟩, -, X', ⟨L, hQ, h1, h2, h3⟩, k⟩ := X.virtualBack hx (y := y) (z := y) hown (mvT hZ w1) (mvT hZ w2) (notFace_of_selects (args := #[]) (mvT hZ w5)) (mvT hZ w5) (mvT hZ w6) hy (backOf (W := W) M hZ w4 w3 hf hl) qa qc (g := mkF m pc Ls St) rfl hsz (Steps.refl _) (argsL := argsL) (rest := rest) hlen hs (by show 2 * 0 + _ ≤ W; omega) hd (fun _ _ => ⟨rfl, eT, hc, hsl⟩)
  dsimp only [Pt.U, Pt.locs, Pt.cells, Pt.slots] at X' h1 h2 h3 k hQ
  subst h1 h2 h3
  exact (G v T' L X' hQ).stp fun _ j => k.trans j
theorem g_callP (X : Stand p l e R s m args below meth c T locs cells slots) (hx : p.tables.exec = Jvm.exec) (hZ : Z.Warmed39 s.vm) {own : String} (hown : s.vm.findClass own = some m.cls) {i : Nat} {y : MethodName} {bytes : ByteArray} {maxL : Nat} {ret : Option FieldType} (w1 : (Cond.methodLink own i y).before a0 Z = true) {n : Nat} (w2 : (Cond.instanceMethod y).before a0 Z = true) (w5 : (Cond.privateMethod y).before a0 Z = true) (wi : (Cond.instantiable y.cls n).before a0 Z = true) (w3 : (Cond.initialized y.cls).before a0 Z = true) (w4 : (Cond.code y bytes maxL ret).before a0 Z = true)  (hy : y.cls ≠ "java/lang/invoke/MethodHandle" ∧ y.cls ≠ "java/lang/invoke/VarHandle") (eT : T.heap = h) {rm : Room} {Q : Option Value → Heap → List Loc → Prop} {St : List Value} (argsL rest : List Value) {a : Addr} (E : Exa Z h a y.cls) (hs : St = argsL.reverse ++ .ref a :: rest) (M : Co l y bytes maxL ret [] rm Z h (.ref a :: argsL).toArray Q) (hlen : ∀ sig, parseMethodDescriptor y.desc = some sig → argsL.length = sig.parameters.length) (W : Nat) (hW : (rest.map fun v => v.category).sum ≤ W) (hf : rm.frames + 1 ≤ R.frames) (hl : W + (maxL + 11) + rm.locals ≤ R.locals) (hc : cells + rm.cells ≤ R.cells) (hsl : slots + rm.slots ≤ R.slots) (hsz : Ls.size = c.maxLocals) (hd : decode c.code pc = .ok (.invokevirtual i, 3)) (pc' : Nat) (hp : pc + 3 = pc') (G : ∀ v T' L, Stand p l e R s m args below meth c T' (locs ++ L) (cells + rm.cells) (slots + rm.slots) → Q v T'.heap L → Go p e below P T' (mkF m pc' Ls (v.toList ++ rest))) : Go p e below P T (mkF m pc Ls St) := by
  subst hp
  obtain ⟨cl, q1, q2⟩ := E.cell
  have wi' : (Cond.instantiable y.cls n).before args s = true := mv hZ wi
  obtain ⟨ci, ki, i1, i2, i3, i4, -⟩ := Cond.instantiable_spec wi'
  have hpr : s.PrivateAt y := Cond.privateMethod_at (mvP hZ w5 (args := #[]))
  have hsel : (Cond.selects y.cls y y).before args s = true := selects_self_of_private i1 i2 (by simp only [Bool.or_eq_false_iff] at i4; exact i4.1) hpr (mv hZ w2) hy
  obtain ⟨v, vm1, ⟨T', L', k', n'⟩, -, X', ⟨L, hQ, h1, h2, h3⟩, k⟩ := X.privateBack hx (y := y) hown (mvT hZ w1) (mvT hZ w2) hsel hpr (mvT hZ w4) hy (backOf (W := W) M hZ w4 w3 hf hl) (g := mkF m pc Ls St) rfl hsz (Steps.refl _) (a := a) (by rw [eT]; exact q1) q2 (argsL := argsL) (rest := rest) hlen hs (by show 2 * 0 + _ ≤ W; omega) hd (fun _ _ => ⟨rfl, eT, hc, hsl⟩)
  dsimp only [Pt.U, Pt.locs, Pt.cells, Pt.slots] at X' h1 h2 h3 k hQ
  subst h1 h2 h3
  exact (G v T' L X' hQ).stp fun _ j => k.trans j
def Pu (h : Heap) (v : Option Value) (r : Option Value) (h' : Heap) (L : List Loc) : Prop := r = v ∧ h' = h ∧ L = []
theorem pu_cont {v : Option Value} {fr lo : Nat} {pc' : Nat} {rest : List Value} (G : ∀ T', Stand p l e R s m args below meth c T' locs cells slots → T'.heap = h → Go p e below P T' (mkF m pc' Ls (v.toList ++ rest))) : ∀ v' T' L, Stand p l e R s m args below meth c T' (locs ++ L) (cells + ({ frames := fr, cells := 0, slots := 0, locals := lo } : Room).cells) (slots + ({ frames := fr, cells := 0, slots := 0, locals := lo } : Room).slots) → Pu h v v' T'.heap L → Go p e below P T' (mkF m pc' Ls (v'.toList ++ rest)) := by
  rintro v' T' L X ⟨rfl, e1, rfl⟩
  exact G T' (by simpa using X) e1
theorem Go.joinT {α : Type} {g : JFrame} (X : Stand p l e R s m args below meth c T locs cells slots) (eT : T.heap = h) (f : α → JFrame) (Pz : α → Prop) (J : ∀ T', Stand p l e R s m args below meth c T' locs cells slots → T'.heap = h → ∀ z, Pz z → Go p e below P T' (f z)) (K : (∀ T', Stand p l e R s m args below meth c T' locs cells slots → T'.heap = h → ∀ z, Pz z → Go p e below P T' (f z)) → Go p e below P T g) : Go p e below P T g := K J
theorem Go.joinH {α : Type} {g : JFrame} (X : Stand p l e R s m args below meth c T locs cells slots) (f : α → JFrame) (Pz : Heap → List Loc → α → Prop) (kc kn : Nat) (J : ∀ T' h' locs', Stand p l e R s m args below meth c T' locs' kc kn → T'.heap = h' → ∀ z, Pz h' locs' z → Go p e below P T' (f z)) (K : (∀ T' h' locs', Stand p l e R s m args below meth c T' locs' kc kn → T'.heap = h' → ∀ z, Pz h' locs' z → Go p e below P T' (f z)) → Go p e below P T g) : Go p e below P T g := K J
theorem Go.loop {α : Type} (X : Stand p l e R s m args below meth c T locs cells slots) (eT : T.heap = h) (f : α → JFrame) (μ : α → Nat) (Pz : α → Prop) (body : ∀ z, Pz z → (∀ T', Stand p l e R s m args below meth c T' locs cells slots → T'.heap = h → ∀ z', Pz z' → μ z' < μ z → Go p e below P T' (f z')) → ∀ T', Stand p l e R s m args below meth c T' locs cells slots → T'.heap = h → Go p e below P T' (f z)) (z : α) (hz : Pz z) : Go p e below P T (f z) := by
  have key : ∀ n, ∀ z, μ z < n → Pz z → ∀ T', Stand p l e R s m args below meth c T' locs cells slots → T'.heap = h → Go p e below P T' (f z) := by
    intro n
    induction n with
    | zero => intro z hn; exact absurd hn (Nat.not_lt_zero _)
    | succ n ih =>
      intro z hn hz T' X' e'
      exact body z hz (fun T2 X2 e2 z2 hz2 hlt => ih z2 (by omega) hz2 T2 X2 e2) T' X' e'
  exact key (μ z + 1) z (Nat.lt_succ_self _) hz T X eT
theorem Go.loopH {α : Type} (X : Stand p l e R s m args below meth c T locs cells slots) (eT : T.heap = h) (f : α → JFrame) (μ : α → Nat) (Pz : Heap → List Loc → α → Prop) (body : ∀ z h' locs', Pz h' locs' z → (∀ T' h2 locs2, Stand p l e R s m args below meth c T' locs2 cells slots → T'.heap = h2 → ∀ z', Pz h2 locs2 z' → μ z' < μ z → Go p e below P T' (f z')) → ∀ T', Stand p l e R s m args below meth c T' locs' cells slots → T'.heap = h' → Go p e below P T' (f z)) (z : α) (hz : Pz h locs z) : Go p e below P T (f z) := by
  have key : ∀ n, ∀ z h' locs', μ z < n → Pz h' locs' z → ∀ T', Stand p l e R s m args below meth c T' locs' cells slots → T'.heap = h' → Go p e below P T' (f z) := by
    intro n
    induction n with
    | zero => intro z h' locs' hn; exact absurd hn (Nat.not_lt_zero _)
    | succ n ih =>
      intro z h' locs' hn hz T' X' e'
      exact body z h' locs' hz (fun T2 h2 locs2 X2 e2 z2 hz2 hlt => ih z2 h2 locs2 (by omega) hz2 T2 X2 e2) T' X' e'
  exact key (μ z + 1) z h locs (Nat.lt_succ_self _) hz T X eT
theorem own_sta_keep {C n d : String} {v : Value} {h' : Heap} {ws : List Addr} (F : Sta Z h C n d v) (K : Keep h h' ws) (q : ∀ x ∈ ws, ∀ cell : Cell, h[x]? = some cell → cell.vm.isStatics = false) : Sta Z h' C n d v := by
  obtain ⟨cf, i, k, f, st, cell, h1, h2, h3, h4, h5, h6, h7⟩ := F
  exact ⟨cf, i, k, f, st, cell, h1, h2, h3, h4, K.2.1 st cell h5 (fun hm => by rw [q st hm cell h5] at h6; cases h6), h6, h7⟩
end OwnGo
section OwnWide
variable {p : Program} {l : Launch} {e : Env} {R : Room} {s : State} {m : MethodId} {args : Array Value} {below : List Frame} {meth : Method} {c : Code} {T : State} {locs : List Loc} {cells slots : Nat} {P : State → Outcome → Prop} {pc : Nat} {Ls : Array Slot} {st : List Value} {Z : State} {a0 : Array Value} {h : Heap} {vm : Vm} {EL : List (String × Nat)} {k0 : Nat}
def RPH (s : State) (Z : State) (EL : List (String × Nat)) (k n : Nat) (Q : Option Value → Heap → List Loc → Prop) (t : State) (o : Outcome) : Prop := ∃ v L, o = .returned v ∧ Q v t.heap L ∧ CHr Z EL s.vm s.heap t.vm t.heap ∧ ReturnedEndW s o t L k n
def CoH (l : Launch) (y : MethodName) (bytes : ByteArray) (maxL : Nat) (ret : Option FieldType) (ws : List Jvm.Cond) (rm : Room) (Z : State) (EL : List (String × Nat)) (h : Heap) (as : Array Value) (Q : Option Value → Heap → List Loc → Prop) : Prop := MetFree l y (head1 (Jvm.Cond.code y bytes maxL ret :: ws) rm) (fun a U => a = as ∧ Z.Warmed39 U.vm ∧ U.heap = h ∧ CHv Z EL U.vm h) (fun _ _ _ _ _ => True) (fun _ U o U' => ∃ v L, o = .returned v ∧ Q v U'.heap L ∧ CHr Z EL U.vm U.heap U'.vm U'.heap ∧ ReturnedEndW U o U' L rm.cells rm.slots)
theorem CoH.of {y : MethodName} {bytes : ByteArray} {maxL : Nat} {ret : Option FieldType} {ws : List Jvm.Cond} {rm : Room} {as : Array Value} {Q : Option Value → Heap → List Loc → Prop} (hpl : plainFor y = true) (body : ∀ (p : Program) (e : Env) (s : State) (m : MethodId) (below : List Frame) (meth : Method) (c : Code) (T : State), Stand p l e rm (s.setVm s.vm) m as below meth c T [] 0 0 → p.tables.exec = Jvm.exec → c.code = bytes → c.maxLocals = maxL → s.vm.findClass y.cls = some m.cls → meth.name = y.name → meth.sig.returnType = ret → meth.locks = false → Z.Warmed39 s.vm → T.heap = h → s.heap = h → s.Since s.vm h.size → CHr Z EL s.vm s.heap s.vm h → Go p e below (RPH s Z EL rm.cells rm.slots Q) T (entryFrame m as maxL)) : CoH l y bytes maxL ret ws rm Z EL h as Q := by
  refine MetFree.of_bodySF hpl hisR ?_
  intro p e s m args below meth c s₁ Bd hml hP hK
  obtain ⟨rfl, hZ, hh, hC⟩ := hP
  have Xb : Stand p l e rm s m args below meth c s₁ [] 0 0 := Stand.of_body Bd
  refine body p e s m below meth c s₁ Xb Bd.exec Bd.bytes hml (findClass_of_methodNamed Bd.named) (name_of_methodNamed Bd.named Bd.method).1 Bd.returns (BodyLoose.notSynchronized Bd) hZ (by rw [← hh, Bd.state]; rfl) hh ((State.WarmedH.refl s).since _) ?_
  rw [hh]
  exact CHr.refl hC
theorem g_retiH (X : Stand p l e R (s.setVm vm) m args below meth c T locs cells slots) (hx : p.tables.exec = Jvm.exec) {z : Int32} (hret : meth.sig.returnType = some .int) (hlk : meth.locks = false) {k n : Nat} {Q : Option Value → Heap → List Loc → Prop} (hk : cells ≤ k) (hn : slots ≤ n) (hd : decode c.code pc = .ok (.ireturn, 1)) (eT : T.heap = h) (hZ : Z.Warmed39 vm) (hS : s.Since vm k0) (hk0 : k0 ≤ h.size) (hEL : EW Z a0 EL) (H : CHr Z EL s.vm s.heap vm h) (hq : Q (some (.int z)) h locs) : Go p e below (RPH s Z EL k n Q) T (mkF m pc Ls (.int z :: st)) := by
  obtain ⟨fs, hr, hrun, hended, hW, hsame⟩ := X.leave (v := (some (.int z))) (fun h => by first | rfl | (rw [hret] at h; cases h)) hlk
  have en := hS.ended hW (by show k0 ≤ T.heap.size; rw [eT]; exact hk0) (hsame.mono hk hn)
  refine ⟨_, _, retOut X hx hret rfl (Or.inl ⟨rfl, Or.inl rfl, z, rfl⟩) hd hr, hrun, hended, _, _, rfl, ?_, ?_, ⟨_, rfl⟩, en.1, en.2.1, en.2.2⟩
  · show Q _ T.heap _
    rw [eT]; exact hq
  · show CHr Z EL s.vm s.heap T.vm T.heap
    rw [eT]; exact H.trans (CHv.at X hZ hEL H.1)
theorem g_retzH (X : Stand p l e R (s.setVm vm) m args below meth c T locs cells slots) (hx : p.tables.exec = Jvm.exec) {z : Int32} (hret : meth.sig.returnType = some .boolean) (hlk : meth.locks = false) {k n : Nat} {Q : Option Value → Heap → List Loc → Prop} (hk : cells ≤ k) (hn : slots ≤ n) (hd : decode c.code pc = .ok (.ireturn, 1)) (eT : T.heap = h) (hZ : Z.Warmed39 vm) (hS : s.Since vm k0) (hk0 : k0 ≤ h.size) (hEL : EW Z a0 EL) (H : CHr Z EL s.vm s.heap vm h) (hq : Q (some (.int (z &&& 1))) h locs) : Go p e below (RPH s Z EL k n Q) T (mkF m pc Ls (.int z :: st)) := by
  obtain ⟨fs, hr, hrun, hended, hW, hsame⟩ := X.leave (v := (some (.int (z &&& 1)))) (fun h => by first | rfl | (rw [hret] at h; cases h)) hlk
  have en := hS.ended hW (by show k0 ≤ T.heap.size; rw [eT]; exact hk0) (hsame.mono hk hn)
  refine ⟨_, _, retN X hx (t := .boolean) hret (by simp) hd hr, hrun, hended, _, _, rfl, ?_, ?_, ⟨_, rfl⟩, en.1, en.2.1, en.2.2⟩
  · show Q _ T.heap _
    rw [eT]; exact hq
  · show CHr Z EL s.vm s.heap T.vm T.heap
    rw [eT]; exact H.trans (CHv.at X hZ hEL H.1)
theorem g_retaH (X : Stand p l e R (s.setVm vm) m args below meth c T locs cells slots) (hx : p.tables.exec = Jvm.exec) {v : Value} {t : FieldType} (hv : v.isRef = true) (ht : t.isReference = true) (hret : meth.sig.returnType = some t) (hlk : meth.locks = false) {k n : Nat} {Q : Option Value → Heap → List Loc → Prop} (hk : cells ≤ k) (hn : slots ≤ n) (hd : decode c.code pc = .ok (.areturn, 1)) (eT : T.heap = h) (hZ : Z.Warmed39 vm) (hS : s.Since vm k0) (hk0 : k0 ≤ h.size) (hEL : EW Z a0 EL) (H : CHr Z EL s.vm s.heap vm h) (hq : Q (some v) h locs) : Go p e below (RPH s Z EL k n Q) T (mkF m pc Ls (v :: st)) := by
  obtain ⟨fs, hr, hrun, hended, hW, hsame⟩ := X.leave (v := (some v)) (fun h => by first | rfl | (rw [hret] at h; cases h)) hlk
  have en := hS.ended hW (by show k0 ≤ T.heap.size; rw [eT]; exact hk0) (hsame.mono hk hn)
  refine ⟨_, _, retOut X hx hret (by cases t <;> first | (cases ht; done) | rfl) (Or.inr (Or.inr (Or.inr (Or.inr ⟨rfl, ht, hv⟩)))) hd hr, hrun, hended, _, _, rfl, ?_, ?_, ⟨_, rfl⟩, en.1, en.2.1, en.2.2⟩
  · show Q _ T.heap _
    rw [eT]; exact hq
  · show CHr Z EL s.vm s.heap T.vm T.heap
    rw [eT]; exact H.trans (CHv.at X hZ hEL H.1)
theorem g_retvH (X : Stand p l e R (s.setVm vm) m args below meth c T locs cells slots) (hx : p.tables.exec = Jvm.exec)  (hret : meth.sig.returnType = none) (hlk : meth.locks = false) {k n : Nat} {Q : Option Value → Heap → List Loc → Prop} (hk : cells ≤ k) (hn : slots ≤ n) (hd : decode c.code pc = .ok (.return_, 1)) (eT : T.heap = h) (hZ : Z.Warmed39 vm) (hS : s.Since vm k0) (hk0 : k0 ≤ h.size) (hEL : EW Z a0 EL) (H : CHr Z EL s.vm s.heap vm h) (hq : Q none h locs) : Go p e below (RPH s Z EL k n Q) T (mkF m pc Ls []) := by
  obtain ⟨fs, hr, hrun, hended, hW, hsame⟩ := X.leave (v := none) (fun h => by first | rfl | (rw [hret] at h; cases h)) hlk
  have en := hS.ended hW (by show k0 ≤ T.heap.size; rw [eT]; exact hk0) (hsame.mono hk hn)
  refine ⟨_, _, X.returnOut hx hret hd hr, hrun, hended, _, _, rfl, ?_, ?_, ⟨_, rfl⟩, en.1, en.2.1, en.2.2⟩
  · show Q _ T.heap _
    rw [eT]; exact hq
  · show CHr Z EL s.vm s.heap T.vm T.heap
    rw [eT]; exact H.trans (CHv.at X hZ hEL H.1)
theorem g_ldcO (X : Stand p l e R (s.setVm vm) m args below meth c T locs cells slots) (hx : p.tables.exec = Jvm.exec) {own text : String} {i : Nat} (hown : vm.findClass own = some m.cls) (ws : (Cond.stringLink own i text).before a0 Z = true) (wS : ∀ a ∈ Bundle.stringAtoms, a.before a0 Z = true) (eT : T.heap = h) (hZ : Z.Warmed39 vm) (hS : s.Since vm k0) (hk0 : k0 ≤ h.size) (hEL : EW Z a0 EL) (H : CHr Z EL s.vm s.heap vm h) (hd : decode c.code pc = .ok (.ldc i, 2)) {n : Nat} (hn : 4 * text.toList.length ≤ n) (hbig : n ≤ 536870912) (hc : cells + 2 ≤ R.cells) (hl : slots + (n + 4) ≤ R.slots) (pc' : Nat) (hp : pc + 2 = pc') (G : ∀ a T' h' k1, Stand p l e R (s.setVm T'.vm) m args below meth c T' locs (cells + 2) (slots + (n + 4)) → T'.heap = h' → Ext h h' → Z.Warmed39 T'.vm → T'.vm.findClass own = some m.cls → s.Since T'.vm k1 → k1 ≤ h'.size → CHr Z EL s.vm s.heap T'.vm h' → Go p e below P T' (mkF m pc' Ls (.ref a :: st))) : Go p e below P T (mkF m pc Ls st) := by
  subst hp
  obtain ⟨a, T', h', k1, X', e', E, hS', hk', hZ', ho', hC, -, k⟩ := ldcOH X hx hZ hown ws wS eT hS hk0 hEL H.1 (g := mkF m pc Ls st) rfl hd hn hbig hc hl
  exact (G a T' h' k1 X' e' E hZ' ho' hS' hk' (H.trans hC)).stp k
theorem av_of_arv {a : Addr} {k : ClassId} {ty : FieldType} {z : Int32} {vs : List Value} {d : Value} (F : Arv Z h a k ty z vs d) (hl : z.toNatClampNeg = vs.length) (hb : vs.length < 2 ^ 31) : AV Z h a ty vs := by
  obtain ⟨c, A, -, S, -, Hs, -⟩ := F
  refine ⟨c, A, ?_, hb⟩
  apply Array.ext
  · simp [S, hl]
  · intro i h1 h2
    have q := Hs i h1
    rw [Array.getElem?_eq_getElem h1] at q
    have h3 : i < vs.length := by simpa using h2
    simpa [List.getD_eq_getElem?_getD, List.getElem?_eq_getElem h3] using q
theorem g_ldcC (X : Stand p l e R (s.setVm vm) m args below meth c T locs cells slots) (hx : p.tables.exec = Jvm.exec) {own text : String} {i : Nat} (hown : vm.findClass own = some m.cls) (ws : (Cond.stringLink own i text).before a0 Z = true) (wS : ∀ a ∈ Bundle.stringAtoms, a.before a0 Z = true) (eT : T.heap = h) (hZ : Z.Warmed39 vm) (hS : s.Since vm k0) (hk0 : k0 ≤ h.size) (hEL : EW Z a0 EL) (H : CHr Z EL s.vm s.heap vm h) (hmem : (own, i) ∈ EL) {vs : List Value} {z : Int32} (ht : (∀ c ∈ text.toList, c.toNat < 256) ∧ text.toList.map (fun c => Value.int (Jvm.Lit.byteI c.toNat.toUInt16)) = vs) (hz : ¬ z < 0) (hzl : z.toNatClampNeg = vs.length) (hvl : vs.length < 2 ^ 31) (hd : decode c.code pc = .ok (.ldc i, 2)) {n : Nat} (hn : 4 * text.toList.length ≤ n) (hbig : n ≤ 536870912) (hc : cells + 2 ≤ R.cells) (hl : slots + (n + 4) ≤ R.slots) (pc' : Nat) (hp : pc + 2 = pc') (G : ∀ a b T' h' k1, Stand p l e R (s.setVm T'.vm) m args below meth c T' locs (cells + 2) (slots + (n + 4)) → T'.heap = h' → Ext h h' → Z.Warmed39 T'.vm → T'.vm.findClass own = some m.cls → s.Since T'.vm k1 → k1 ≤ h'.size → CHr Z EL s.vm s.heap T'.vm h' → Exa Z h' a "java/lang/String" → Fld Z h' a "java/lang/String" "coder" "B" (.int 0) → Fld Z h' a "java/lang/String" "value" "[B" (.ref b) → AV Z h' b .byte vs → (∀ x, Safe Z EL T'.vm h' x → x ≠ a ∧ x ≠ b) → Go p e below P T' (mkF m pc' Ls (.ref a :: st))) : Go p e below P T (mkF m pc Ls st) := by
  subst hp
  obtain ⟨a, T', h', k1, b, kk, X', e', E, hS', hk', hZ', ho', EA, FC, FV, AB, -, -, hC, -, hsf, k⟩ := ldcCH X hx hZ hown ws wS eT hS hk0 hEL hmem H.1 ht hz hzl (g := mkF m pc Ls st) rfl hd hn hbig hc hl
  exact (G a b T' h' k1 X' e' E hZ' ho' hS' hk' (H.trans hC) EA FC FV (av_of_arv AB hzl hvl) hsf).stp k
theorem g_callSH (X : Stand p l e R (s.setVm vm) m args below meth c T locs cells slots) (hx : p.tables.exec = Jvm.exec) {own : String} (hown : vm.findClass own = some m.cls) {i : Nat} {y : MethodName} {bytes : ByteArray} {maxL : Nat} {ret : Option FieldType} (w1 : (Cond.methodLink own i y).before a0 Z = true) (w2 : (Cond.static y).before a0 Z = true) (w3 : (Cond.initialized y.cls).before a0 Z = true) (w4 : (Cond.code y bytes maxL ret).before a0 Z = true)  (hy : y.cls ≠ "java/lang/invoke/MethodHandle" ∧ y.cls ≠ "java/lang/invoke/VarHandle") (eT : T.heap = h) {rm : Room} {Q : Option Value → Heap → List Loc → Prop} {St : List Value} (argsL rest : List Value) (hZ : Z.Warmed39 vm) (hS : s.Since vm k0) (hk0 : k0 ≤ h.size) (hEL : EW Z a0 EL) (H : CHr Z EL s.vm s.heap vm h) (hs : St = argsL.reverse ++ rest) (M : CoH l y bytes maxL ret [] rm Z EL h argsL.toArray Q) (hlen : ∀ sig, parseMethodDescriptor y.desc = some sig → argsL.length = sig.parameters.length) (W : Nat) (hW : (rest.map fun v => v.category).sum ≤ W) (hf : rm.frames + 1 ≤ R.frames) (hl : W + (maxL + 11) + rm.locals ≤ R.locals) (hc : cells + rm.cells ≤ R.cells) (hsl : slots + rm.slots ≤ R.slots) (hsz : Ls.size = c.maxLocals) (hd : decode c.code pc = .ok (.invokestatic i, 3)) (pc' : Nat) (hp : pc + 3 = pc') (G : ∀ v T' h' L, Stand p l e R (s.setVm T'.vm) m args below meth c T' (locs ++ L) (cells + rm.cells) (slots + rm.slots) → T'.heap = h' → Z.Warmed39 T'.vm → T'.vm.findClass own = some m.cls → s.Since T'.vm h'.size → CHr Z EL s.vm s.heap T'.vm h' → Q v h' L → Go p e below P T' (mkF m pc' Ls (v.toList ++ rest))) : Go p e below P T (mkF m pc Ls St) := by
  subst hp
  obtain ⟨v, vm1, ⟨T', L', k', n'⟩, -, X', hS', hgr, ⟨L, hQ, h1, h2, h3, h4⟩, k⟩ := callSS X hx (y := y) hown (mvT (s := s.setVm vm) hZ w1) (mvT (s := s.setVm vm) hZ w2) (mvT (s := s.setVm vm) hZ w3) (mvT (s := s.setVm vm) hZ w4) hy (backOfSH (W := W) M hZ w4 w3 hf hl hEL H.1) (g := mkF m pc Ls St) rfl hsz (argsL := argsL) (rest := rest) hlen hs (by show 2 * 0 + _ ≤ W; omega) hd (fun _ _ => ⟨rfl, eT, hc, hsl⟩)
  dsimp only [Pt.U, Pt.locs, Pt.cells, Pt.slots] at X' h1 h2 h3 h4 k hQ hS' hgr
  subst h1 h2 h3
  have hZ' : Z.Warmed39 T'.vm := State.Warmed39.trans (t := s.setVm vm) hZ hS'.1
  have ho' : T'.vm.findClass own = some m.cls := by rw [hS'.1.alike.findClass]; exact hown
  refine (G v T' _ L X' rfl hZ' ho' (hS.trans hS' (by rw [← eT] at hk0; omega)) (H.trans h4) hQ).stp ?_
  exact fun _ j => k.trans j
theorem g_initH (X : Stand p l e R (s.setVm vm) m args below meth c T locs cells slots) (hx : p.tables.exec = Jvm.exec) {own : String} (hown : vm.findClass own = some m.cls) {i : Nat} {y : MethodName} {bytes : ByteArray} {maxL : Nat} (w1 : (Cond.methodLink own i y).before a0 Z = true) (hnm : y.name = "<init>") (w2 : (Cond.instanceMethod y).before a0 Z = true) (w3 : (Cond.initialized y.cls).before a0 Z = true) (w4 : (Cond.code y bytes maxL none).before a0 Z = true)  (hy : y.cls ≠ "java/lang/invoke/MethodHandle" ∧ y.cls ≠ "java/lang/invoke/VarHandle") (eT : T.heap = h) {rm : Room} {Q : Option Value → Heap → List Loc → Prop} {St : List Value} (argsL rest : List Value) (hZ : Z.Warmed39 vm) (hS : s.Since vm k0) (hk0 : k0 ≤ h.size) (hEL : EW Z a0 EL) (H : CHr Z EL s.vm s.heap vm h) {a : Addr} (hs : St = argsL.reverse ++ .ref a :: rest) (M : CoH l y bytes maxL none [] rm Z EL h (.ref a :: argsL).toArray Q) (hlen : ∀ sig, parseMethodDescriptor y.desc = some sig → argsL.length = sig.parameters.length) (W : Nat) (hW : (rest.map fun v => v.category).sum ≤ W) (hf : rm.frames + 1 ≤ R.frames) (hl : W + (maxL + 11) + rm.locals ≤ R.locals) (hc : cells + rm.cells ≤ R.cells) (hsl : slots + rm.slots ≤ R.slots) (hsz : Ls.size = c.maxLocals) (hd : decode c.code pc = .ok (.invokespecial i, 3)) (pc' : Nat) (hp : pc + 3 = pc') (G : ∀ v T' h' L, Stand p l e R (s.setVm T'.vm) m args below meth c T' (locs ++ L) (cells + rm.cells) (slots + rm.slots) → T'.heap = h' → Z.Warmed39 T'.vm → T'.vm.findClass own = some m.cls → s.Since T'.vm h'.size → CHr Z EL s.vm s.heap T'.vm h' → Q v h' L → Go p e below P T' (mkF m pc' Ls (v.toList ++ rest))) : Go p e below P T (mkF m pc Ls St) := by
  subst hp
  obtain ⟨v, vm1, ⟨T', L', k', n'⟩, -, X', hS', hgr, ⟨L, hQ, h1, h2, h3, h4⟩, k⟩ := X.specialBackS hx (y := y) hnm hown (mvT (s := s.setVm vm) hZ w1) (mvT (s := s.setVm vm) hZ w2) (mvT (s := s.setVm vm) hZ w4) hy (backOfSH (W := W) M hZ w4 w3 hf hl hEL H.1) (g := mkF m pc Ls St) rfl hsz (Steps.refl _) (a := a) (argsL := argsL) (rest := rest) hlen hs (by show 2 * 0 + _ ≤ W; omega) hd (fun _ _ => ⟨rfl, eT, hc, hsl⟩)
  dsimp only [Pt.U, Pt.locs, Pt.cells, Pt.slots] at X' h1 h2 h3 h4 k hQ hS' hgr
  subst h1 h2 h3
  have hZ' : Z.Warmed39 T'.vm := State.Warmed39.trans (t := s.setVm vm) hZ hS'.1
  have ho' : T'.vm.findClass own = some m.cls := by rw [hS'.1.alike.findClass]; exact hown
  refine (G v T' _ L X' rfl hZ' ho' (hS.trans hS' (by rw [← eT] at hk0; omega)) (H.trans h4) hQ).stp ?_
  exact fun _ j => k.trans j
theorem AV.safe {a : Addr} {ty : FieldType} {vs : List Value} (hal : Z.vm.Alike vm) (F : AV Z h a ty vs) (ht : ty ≠ .byte) : Safe Z EL vm h a := by obtain ⟨c, A, -⟩ := F; exact Safe.arr hal A ht
theorem own_safe_new {h' : Heap} {b : Addr} (H : CHv Z EL vm h) (E : Ext h h') (gb : b = h.size) : Safe Z EL vm h' b := Safe.ext E H (Safe.new (Nat.le_of_eq gb.symm))
theorem own_safe_null {x : Addr} (hal : Z.vm.Alike vm) (E : Exa Z h x "java/lang/String") (F : Fld Z h x "java/lang/String" "value" "[B" .null) : Safe Z EL vm h x := fun B => by
  obtain ⟨cell, k, e1, e2, e3, -, -⟩ := E
  obtain ⟨p, -, u, a, -, q, -, G, rfl | rfl⟩ := B
  · obtain ⟨cell', cf, k', i, f, g1, g2, -, -, -, -, g7⟩ := F
    cases (show h[q.sa]? = some q.sC from G.ha).symm.trans g1
    obtain ⟨cS, ⟨⟨-, -, -, ⟨c1, k1, i1, f1, -⟩, -, -, -, v1, -⟩, -⟩, -⟩ := G
    obtain ⟨k3, e4⟩ := ff_back (U := Wst Z vm h) hal f1
    have e5 := e4.symm.trans g2
    simp only [Option.some.injEq, Prod.mk.injEq] at e5
    rw [e5.2.2.2, g7] at v1
    cases v1
  · cases (show h[q.sd]? = some q.SA from G.hd).symm.trans e1
    obtain ⟨cS, -, -, f, -⟩ := G
    have f : vm.findClass "[B" = some q.SA.cls := f
    rw [hal.findClass] at f
    obtain ⟨k1, q1, q2⟩ := Vm.findClass_spec f
    obtain ⟨k2, q3, q4⟩ := Vm.findClass_spec e2
    cases q1.symm.trans q3
    exact absurd (q2.symm.trans q4) (by decide)
end OwnWide
def EL : List (String × Nat) := [("com/example/usher/usher/SchemeIsBinaryPinLaw", 26), ("com/example/usher/usher/SchemeIsBinaryPinLaw", 34)]
theorem own_wS {a0 : Array Value} {Z : State} (hw : ∀ d ∈ tables_1, d.before a0 Z = true) : ∀ a ∈ Bundle.stringAtoms, a.before a0 Z = true := by
  intro d hd
  simp only [Bundle.stringAtoms, List.mem_cons, List.not_mem_nil, or_false] at hd
  rcases hd with rfl | rfl | rfl | rfl | rfl | rfl | rfl
  · exact wd hw 11 rfl
  · exact wd hw 12 rfl
  · exact wd hw 13 rfl
  · exact wd hw 14 rfl
  · exact wd hw 15 rfl
  · exact wd hw 16 rfl
  · exact wd hw 17 rfl
theorem own_eqI {args : Array Value} {s : State} {t : Term} {i : Int32} (h : (Jvm.Cond.eq t (.int i)).value args s none s [] = some true) : t.eval args s none [] s = some (.int i) := by
  cases ht : t.eval args s none [] s with
  | none => simp [Cond.value, Term.eval, ht] at h
  | some v => cases v <;> simp [Cond.value, Term.eval, ht] at h; exact congrArg (fun z => some (Value.int z)) h
theorem own_fo {args : Array Value} {s : State} {t : Term} {C n d : String} {a : Addr} {i : Int32} (ev : t.eval args s none [] s = some (.ref a)) (h : (Jvm.Cond.eq (Term.field t C n d) (.int i)).value args s none s [] = some true) : Fld s s.heap a C n d (.int i) := Fld.start ((fld_at ev).symm.trans (own_eqI h))
theorem own_clamp {n : Nat} (h : n < 2 ^ 31) : n.toInt32.toNatClampNeg = n := by
  show (Int32.ofNat n).toNatClampNeg = n
  rw [Int32.toNatClampNeg, Int32.toInt_ofNat_of_lt h]
  simp
theorem own_arr_ref {args : Array Value} {s : State} {t : Term} {ty : FieldType} (h : (Jvm.Cond.arrayOf t ty).value args s none s [] = some true) : ∃ a, t.eval args s none [] s = some (.ref a) := by
  cases ht : t.eval args s none [] s with
  | none => simp [Cond.value, ht] at h
  | some v =>
    cases v with
    | ref a => exact ⟨a, rfl⟩
    | _ => simp [Cond.value, ht] at h
theorem own_av {args : Array Value} {s : State} {t : Term} {ty : FieldType} {b : Addr} {n : Int32} {vs : List Value} (ev : t.eval args s none [] s = some (.ref b)) (h1 : (Jvm.Cond.arrayOf t ty).value args s none s [] = some true) (hl : (Jvm.Cond.eq (Term.length t) (.int n)).value args s none s [] = some true) (hn : n.toNatClampNeg = vs.length) (he : ∀ i, i < vs.length → ∃ k : Int32, k.toNatClampNeg = i ∧ (Term.elem t (.int k)).eval args s none [] s = vs[i]?) : AV s s.heap b ty vs := by
  have q := own_eqI hl
  simp only [Term.eval, ev, Option.bind_eq_bind, Option.bind_some] at q
  obtain ⟨cell, hc, q⟩ := Option.bind_eq_some_iff.mp q
  by_cases hb : cell.slots.size < 2 ^ 31
  · rw [if_pos hb] at q
    have q2 : cell.slots.size.toInt32 = n := by simpa using q
    have hcell := (State.arrayAt?_spec hc).1
    have hA := Cond.arrayOf_spec (beq_iff_eq.mpr h1 : (Jvm.Cond.arrayOf t ty).holds args s none s [] = true) ev hcell
    have hsz : cell.slots.size = vs.length := by
      rw [← hn, ← q2]
      exact (own_clamp hb).symm
    refine ⟨cell, ⟨hcell, hA.1, hA.2⟩, ?_, by rw [← hsz]; exact hb⟩
    apply Array.ext
    · simpa using hsz
    · intro i h1 h2
      obtain ⟨k, hk, e⟩ := he i (by simpa using h2)
      rw [List.getElem?_eq_getElem (by simpa using h2)] at e
      obtain ⟨c', e1, -, e3⟩ := elem_at e ev rfl
      cases hcell.symm.trans e1
      rw [hk, Array.getElem?_eq_getElem h1] at e3
      simpa using Option.some.inj e3
  · rw [if_neg hb] at q
    cases q
theorem own_fld_inj {Z : State} {h : Heap} {a : Addr} {C n d : String} {u v : Value} (F : Fld Z h a C n d u) (G : Fld Z h a C n d v) : u = v := by
  obtain ⟨cell, cf, k, i, f, h1, h2, h3, h4, h5, h6, h7⟩ := F
  obtain ⟨cell', cf', k', i', f', g1, g2, g3, g4, g5, g6, g7⟩ := G
  have q := h2.symm.trans g2
  simp only [Option.some.injEq, Prod.mk.injEq] at q
  obtain ⟨-, -, -, rfl⟩ := q
  cases h1.symm.trans g1
  exact Option.some.inj (h7.symm.trans g7)
theorem own_av_inj {Z : State} {h : Heap} {a : Addr} {ty ty' : FieldType} {u v : List Value} (F : AV Z h a ty u) (G : AV Z h a ty' v) : u = v := by
  obtain ⟨c, A, r, -⟩ := F
  obtain ⟨c', A', r', -⟩ := G
  cases A.1.symm.trans A'.1
  have q := r.symm.trans r'
  simpa using q
theorem own_str_ne {Z : State} {h : Heap} {a o b c : Addr} {C n d : String} {u v : List Value} (F : Fld Z h a C n d (.ref b)) (A : AV Z h b .byte u) (G : Fld Z h o C n d (.ref c)) (B : AV Z h c .byte v) (hne : u ≠ v) : ¬ Value.ref a = Value.ref o := by
  intro q
  cases q
  cases own_fld_inj F G
  exact hne (own_av_inj A B)
theorem ef3_0_0 (m_ : MethodId) (b1 : Addr) (b2 : Addr)  : entryFrame m_ #[(.ref b1), (.ref b2)] 3 = mkF m_ 0 #[.val (.ref b1), .val (.ref b2), .unset] [] := by first | (simp [entryFrame, mkF, argsToLocals, Value.category]; done) | rfl
theorem pn_0 : plainName "java/lang/StringLatin1" = true := by first | (simp [plainName, overriddenIn]; done) | decide +kernel
theorem d3_0 : decode jdk_43_method_13_code 0 = .ok (.aload_n 0, 1) := by decide +kernel
theorem d3_1 : decode jdk_43_method_13_code 1 = .ok (.arraylength, 1) := by decide +kernel
theorem d3_2 : decode jdk_43_method_13_code 2 = .ok (.aload_n 1, 1) := by decide +kernel
theorem d3_3 : decode jdk_43_method_13_code 3 = .ok (.arraylength, 1) := by decide +kernel
theorem d3_4 : decode jdk_43_method_13_code 4 = .ok (.if_icmp .ne 30, 3) := by decide +kernel
theorem d3_7 : decode jdk_43_method_13_code 7 = .ok (.iconst 0, 1) := by decide +kernel
theorem d3_8 : decode jdk_43_method_13_code 8 = .ok (.istore_n 2, 1) := by decide +kernel
theorem d3_9 : decode jdk_43_method_13_code 9 = .ok (.iload_n 2, 1) := by decide +kernel
theorem d3_10 : decode jdk_43_method_13_code 10 = .ok (.aload_n 0, 1) := by decide +kernel
theorem d3_11 : decode jdk_43_method_13_code 11 = .ok (.arraylength, 1) := by decide +kernel
theorem d3_12 : decode jdk_43_method_13_code 12 = .ok (.if_icmp .ge 20, 3) := by decide +kernel
theorem d3_15 : decode jdk_43_method_13_code 15 = .ok (.aload_n 0, 1) := by decide +kernel
theorem d3_16 : decode jdk_43_method_13_code 16 = .ok (.iload_n 2, 1) := by decide +kernel
theorem d3_17 : decode jdk_43_method_13_code 17 = .ok (.baload, 1) := by decide +kernel
theorem d3_18 : decode jdk_43_method_13_code 18 = .ok (.aload_n 1, 1) := by decide +kernel
theorem d3_19 : decode jdk_43_method_13_code 19 = .ok (.iload_n 2, 1) := by decide +kernel
theorem d3_20 : decode jdk_43_method_13_code 20 = .ok (.baload, 1) := by decide +kernel
theorem d3_21 : decode jdk_43_method_13_code 21 = .ok (.if_icmp .eq 5, 3) := by decide +kernel
theorem d3_26 : decode jdk_43_method_13_code 26 = .ok (.iinc 2 1, 3) := by decide +kernel
theorem d3_29 : decode jdk_43_method_13_code 29 = .ok (.goto (-20), 3) := by decide +kernel
theorem d3_32 : decode jdk_43_method_13_code 32 = .ok (.iconst 1, 1) := by decide +kernel
theorem d3_33 : decode jdk_43_method_13_code 33 = .ok (.ireturn, 1) := by decide +kernel
set_option maxRecDepth 65536 in
set_option maxHeartbeats 40000000 in
theorem co3_0_0 (l : Launch) (Z : State) (a0 : Array Value) (hw : ∀ d ∈ tables_1, d.before a0 Z = true) (b1 : Addr) (b2 : Addr) (h0 : Heap) (A_1 : AV Z h0 b1 .byte [(.int (112 : Int32)), (.int (117 : Int32)), (.int (108 : Int32)), (.int (115 : Int32)), (.int (97 : Int32)), (.int (114 : Int32))]) (A_2 : AV Z h0 b2 .byte [(.int (112 : Int32)), (.int (117 : Int32)), (.int (108 : Int32)), (.int (115 : Int32)), (.int (97 : Int32)), (.int (114 : Int32))]) : Co l (⟨"java/lang/StringLatin1", "equals", "([B[B)Z"⟩ : MethodName) jdk_43_method_13_code 3 (some .boolean) [] ({ frames := 0, cells := 0, slots := 0, locals := 0 } : Room) Z h0 #[(.ref b1), (.ref b2)] (Pu h0 (some (.int ((1 : Int32) )))) := by
  refine Co.of (plainFor_of_name pn_0) ?_
  intro p_ e_ s_ m_ below meth c_ T0 X0 hx hby hml hown hnm hret hlk hZ e0
  refine Go.cast (ef3_0_0 m_ b1 b2 ) ?_
  refine g_aloadN X0 hx rfl rfl (hb hby d3_0) 1 rfl ?_
  refine g_arraylength X0 hx hZ e0 A_1 (6 : Int32) rfl (hb hby d3_1) 2 rfl ?_
  refine g_aloadN X0 hx rfl rfl (hb hby d3_2) 3 rfl ?_
  refine g_arraylength X0 hx hZ e0 A_2 (6 : Int32) rfl (hb hby d3_3) 4 rfl ?_
  refine g_icmp_ne X0 hx (hb hby d3_4) 34 7 (by decide) rfl rfl (fun q1 => ?_) (fun q1 => ?_)
  · exact absurd rfl q1
  · refine g_iconst X0 hx (0 : Int32) rfl (hb hby d3_7) 8 rfl ?_
    refine g_istoreN X0 hx #[.val (.ref b1), .val (.ref b2), .val (.int (0 : Int32))] rfl (hb hby d3_8) 9 rfl ?_
    refine g_iloadN X0 hx rfl (hb hby d3_9) 10 rfl ?_
    refine g_aloadN X0 hx rfl rfl (hb hby d3_10) 11 rfl ?_
    refine g_arraylength X0 hx hZ e0 A_1 (6 : Int32) rfl (hb hby d3_11) 12 rfl ?_
    refine g_icmp_ge X0 hx (hb hby d3_12) 32 15 (by decide) rfl rfl (fun q2 => ?_) (fun q2 => ?_)
    · exact absurd q2 (by decide)
    · refine g_aloadN X0 hx rfl rfl (hb hby d3_15) 16 rfl ?_
      refine g_iloadN X0 hx rfl (hb hby d3_16) 17 rfl ?_
      refine g_baload X0 hx hZ e0 A_1 (by decide) rfl (hb hby d3_17) 18 rfl ?_
      show Go p_ e_ below _ T0 (mkF m_ 18 #[.val (.ref b1), .val (.ref b2), .val (.int (0 : Int32))] [(.int (112 : Int32))])
      refine g_aloadN X0 hx rfl rfl (hb hby d3_18) 19 rfl ?_
      refine g_iloadN X0 hx rfl (hb hby d3_19) 20 rfl ?_
      refine g_baload X0 hx hZ e0 A_2 (by decide) rfl (hb hby d3_20) 21 rfl ?_
      show Go p_ e_ below _ T0 (mkF m_ 21 #[.val (.ref b1), .val (.ref b2), .val (.int (0 : Int32))] [(.int (112 : Int32)), (.int (112 : Int32))])
      refine g_icmp_eq X0 hx (hb hby d3_21) 26 24 (by decide) rfl rfl (fun q3 => ?_) (fun q3 => ?_)
      · refine g_iinc X0 hx (1 : Int32) rfl rfl #[.val (.ref b1), .val (.ref b2), .val (.int (1 : Int32))] rfl (hb hby d3_26) 29 rfl ?_
        refine g_goto X0 hx (hb hby d3_29) 9 (by decide) rfl ?_
        refine g_iloadN X0 hx rfl (hb hby d3_9) 10 rfl ?_
        refine g_aloadN X0 hx rfl rfl (hb hby d3_10) 11 rfl ?_
        refine g_arraylength X0 hx hZ e0 A_1 (6 : Int32) rfl (hb hby d3_11) 12 rfl ?_
        refine g_icmp_ge X0 hx (hb hby d3_12) 32 15 (by decide) rfl rfl (fun q4 => ?_) (fun q4 => ?_)
        · exact absurd q4 (by decide)
        · refine g_aloadN X0 hx rfl rfl (hb hby d3_15) 16 rfl ?_
          refine g_iloadN X0 hx rfl (hb hby d3_16) 17 rfl ?_
          refine g_baload X0 hx hZ e0 A_1 (by decide) rfl (hb hby d3_17) 18 rfl ?_
          show Go p_ e_ below _ T0 (mkF m_ 18 #[.val (.ref b1), .val (.ref b2), .val (.int (1 : Int32))] [(.int (117 : Int32))])
          refine g_aloadN X0 hx rfl rfl (hb hby d3_18) 19 rfl ?_
          refine g_iloadN X0 hx rfl (hb hby d3_19) 20 rfl ?_
          refine g_baload X0 hx hZ e0 A_2 (by decide) rfl (hb hby d3_20) 21 rfl ?_
          show Go p_ e_ below _ T0 (mkF m_ 21 #[.val (.ref b1), .val (.ref b2), .val (.int (1 : Int32))] [(.int (117 : Int32)), (.int (117 : Int32))])
          refine g_icmp_eq X0 hx (hb hby d3_21) 26 24 (by decide) rfl rfl (fun q5 => ?_) (fun q5 => ?_)
          · refine g_iinc X0 hx (1 : Int32) rfl rfl #[.val (.ref b1), .val (.ref b2), .val (.int (2 : Int32))] rfl (hb hby d3_26) 29 rfl ?_
            refine g_goto X0 hx (hb hby d3_29) 9 (by decide) rfl ?_
            refine g_iloadN X0 hx rfl (hb hby d3_9) 10 rfl ?_
            refine g_aloadN X0 hx rfl rfl (hb hby d3_10) 11 rfl ?_
            refine g_arraylength X0 hx hZ e0 A_1 (6 : Int32) rfl (hb hby d3_11) 12 rfl ?_
            refine g_icmp_ge X0 hx (hb hby d3_12) 32 15 (by decide) rfl rfl (fun q6 => ?_) (fun q6 => ?_)
            · exact absurd q6 (by decide)
            · refine g_aloadN X0 hx rfl rfl (hb hby d3_15) 16 rfl ?_
              refine g_iloadN X0 hx rfl (hb hby d3_16) 17 rfl ?_
              refine g_baload X0 hx hZ e0 A_1 (by decide) rfl (hb hby d3_17) 18 rfl ?_
              show Go p_ e_ below _ T0 (mkF m_ 18 #[.val (.ref b1), .val (.ref b2), .val (.int (2 : Int32))] [(.int (108 : Int32))])
              refine g_aloadN X0 hx rfl rfl (hb hby d3_18) 19 rfl ?_
              refine g_iloadN X0 hx rfl (hb hby d3_19) 20 rfl ?_
              refine g_baload X0 hx hZ e0 A_2 (by decide) rfl (hb hby d3_20) 21 rfl ?_
              show Go p_ e_ below _ T0 (mkF m_ 21 #[.val (.ref b1), .val (.ref b2), .val (.int (2 : Int32))] [(.int (108 : Int32)), (.int (108 : Int32))])
              refine g_icmp_eq X0 hx (hb hby d3_21) 26 24 (by decide) rfl rfl (fun q7 => ?_) (fun q7 => ?_)
              · refine g_iinc X0 hx (1 : Int32) rfl rfl #[.val (.ref b1), .val (.ref b2), .val (.int (3 : Int32))] rfl (hb hby d3_26) 29 rfl ?_
                refine g_goto X0 hx (hb hby d3_29) 9 (by decide) rfl ?_
                refine g_iloadN X0 hx rfl (hb hby d3_9) 10 rfl ?_
                refine g_aloadN X0 hx rfl rfl (hb hby d3_10) 11 rfl ?_
                refine g_arraylength X0 hx hZ e0 A_1 (6 : Int32) rfl (hb hby d3_11) 12 rfl ?_
                refine g_icmp_ge X0 hx (hb hby d3_12) 32 15 (by decide) rfl rfl (fun q8 => ?_) (fun q8 => ?_)
                · exact absurd q8 (by decide)
                · refine g_aloadN X0 hx rfl rfl (hb hby d3_15) 16 rfl ?_
                  refine g_iloadN X0 hx rfl (hb hby d3_16) 17 rfl ?_
                  refine g_baload X0 hx hZ e0 A_1 (by decide) rfl (hb hby d3_17) 18 rfl ?_
                  show Go p_ e_ below _ T0 (mkF m_ 18 #[.val (.ref b1), .val (.ref b2), .val (.int (3 : Int32))] [(.int (115 : Int32))])
                  refine g_aloadN X0 hx rfl rfl (hb hby d3_18) 19 rfl ?_
                  refine g_iloadN X0 hx rfl (hb hby d3_19) 20 rfl ?_
                  refine g_baload X0 hx hZ e0 A_2 (by decide) rfl (hb hby d3_20) 21 rfl ?_
                  show Go p_ e_ below _ T0 (mkF m_ 21 #[.val (.ref b1), .val (.ref b2), .val (.int (3 : Int32))] [(.int (115 : Int32)), (.int (115 : Int32))])
                  refine g_icmp_eq X0 hx (hb hby d3_21) 26 24 (by decide) rfl rfl (fun q9 => ?_) (fun q9 => ?_)
                  · refine g_iinc X0 hx (1 : Int32) rfl rfl #[.val (.ref b1), .val (.ref b2), .val (.int (4 : Int32))] rfl (hb hby d3_26) 29 rfl ?_
                    refine g_goto X0 hx (hb hby d3_29) 9 (by decide) rfl ?_
                    refine g_iloadN X0 hx rfl (hb hby d3_9) 10 rfl ?_
                    refine g_aloadN X0 hx rfl rfl (hb hby d3_10) 11 rfl ?_
                    refine g_arraylength X0 hx hZ e0 A_1 (6 : Int32) rfl (hb hby d3_11) 12 rfl ?_
                    refine g_icmp_ge X0 hx (hb hby d3_12) 32 15 (by decide) rfl rfl (fun q10 => ?_) (fun q10 => ?_)
                    · exact absurd q10 (by decide)
                    · refine g_aloadN X0 hx rfl rfl (hb hby d3_15) 16 rfl ?_
                      refine g_iloadN X0 hx rfl (hb hby d3_16) 17 rfl ?_
                      refine g_baload X0 hx hZ e0 A_1 (by decide) rfl (hb hby d3_17) 18 rfl ?_
                      show Go p_ e_ below _ T0 (mkF m_ 18 #[.val (.ref b1), .val (.ref b2), .val (.int (4 : Int32))] [(.int (97 : Int32))])
                      refine g_aloadN X0 hx rfl rfl (hb hby d3_18) 19 rfl ?_
                      refine g_iloadN X0 hx rfl (hb hby d3_19) 20 rfl ?_
                      refine g_baload X0 hx hZ e0 A_2 (by decide) rfl (hb hby d3_20) 21 rfl ?_
                      show Go p_ e_ below _ T0 (mkF m_ 21 #[.val (.ref b1), .val (.ref b2), .val (.int (4 : Int32))] [(.int (97 : Int32)), (.int (97 : Int32))])
                      refine g_icmp_eq X0 hx (hb hby d3_21) 26 24 (by decide) rfl rfl (fun q11 => ?_) (fun q11 => ?_)
                      · refine g_iinc X0 hx (1 : Int32) rfl rfl #[.val (.ref b1), .val (.ref b2), .val (.int (5 : Int32))] rfl (hb hby d3_26) 29 rfl ?_
                        refine g_goto X0 hx (hb hby d3_29) 9 (by decide) rfl ?_
                        refine g_iloadN X0 hx rfl (hb hby d3_9) 10 rfl ?_
                        refine g_aloadN X0 hx rfl rfl (hb hby d3_10) 11 rfl ?_
                        refine g_arraylength X0 hx hZ e0 A_1 (6 : Int32) rfl (hb hby d3_11) 12 rfl ?_
                        refine g_icmp_ge X0 hx (hb hby d3_12) 32 15 (by decide) rfl rfl (fun q12 => ?_) (fun q12 => ?_)
                        · exact absurd q12 (by decide)
                        · refine g_aloadN X0 hx rfl rfl (hb hby d3_15) 16 rfl ?_
                          refine g_iloadN X0 hx rfl (hb hby d3_16) 17 rfl ?_
                          refine g_baload X0 hx hZ e0 A_1 (by decide) rfl (hb hby d3_17) 18 rfl ?_
                          show Go p_ e_ below _ T0 (mkF m_ 18 #[.val (.ref b1), .val (.ref b2), .val (.int (5 : Int32))] [(.int (114 : Int32))])
                          refine g_aloadN X0 hx rfl rfl (hb hby d3_18) 19 rfl ?_
                          refine g_iloadN X0 hx rfl (hb hby d3_19) 20 rfl ?_
                          refine g_baload X0 hx hZ e0 A_2 (by decide) rfl (hb hby d3_20) 21 rfl ?_
                          show Go p_ e_ below _ T0 (mkF m_ 21 #[.val (.ref b1), .val (.ref b2), .val (.int (5 : Int32))] [(.int (114 : Int32)), (.int (114 : Int32))])
                          refine g_icmp_eq X0 hx (hb hby d3_21) 26 24 (by decide) rfl rfl (fun q13 => ?_) (fun q13 => ?_)
                          · refine g_iinc X0 hx (1 : Int32) rfl rfl #[.val (.ref b1), .val (.ref b2), .val (.int (6 : Int32))] rfl (hb hby d3_26) 29 rfl ?_
                            refine g_goto X0 hx (hb hby d3_29) 9 (by decide) rfl ?_
                            refine g_iloadN X0 hx rfl (hb hby d3_9) 10 rfl ?_
                            refine g_aloadN X0 hx rfl rfl (hb hby d3_10) 11 rfl ?_
                            refine g_arraylength X0 hx hZ e0 A_1 (6 : Int32) rfl (hb hby d3_11) 12 rfl ?_
                            refine g_icmp_ge X0 hx (hb hby d3_12) 32 15 (by decide) rfl rfl (fun q14 => ?_) (fun q14 => ?_)
                            · refine g_iconst X0 hx (1 : Int32) rfl (hb hby d3_32) 33 rfl ?_
                              exact g_retz X0 hx hret hlk (by decide) (by decide) (hb hby d3_33) ⟨congrArg (fun z => some (Value.int z)) (by decide), e0, rfl⟩
                            · exact absurd q14 (by decide)
                          · exact absurd rfl q13
                      · exact absurd rfl q11
                  · exact absurd rfl q9
              · exact absurd rfl q7
          · exact absurd rfl q5
      · exact absurd rfl q3
theorem ef2_0_0 (m_ : MethodId) (a : Addr) (o : Addr)  : entryFrame m_ #[(.ref a), (.ref o)] 3 = mkF m_ 0 #[.val (.ref a), .val (.ref o), .unset] [] := by first | (simp [entryFrame, mkF, argsToLocals, Value.category]; done) | rfl
theorem pn_1 : plainName "java/lang/String" = true := by first | (simp [plainName, overriddenIn]; done) | decide +kernel
theorem d2_0 : decode jdk_42_method_66_code 0 = .ok (.aload_n 0, 1) := by decide +kernel
theorem d2_1 : decode jdk_42_method_66_code 1 = .ok (.aload_n 1, 1) := by decide +kernel
theorem d2_2 : decode jdk_42_method_66_code 2 = .ok (.if_acmp .ne 5, 3) := by decide +kernel
theorem d2_7 : decode jdk_42_method_66_code 7 = .ok (.aload_n 1, 1) := by decide +kernel
theorem d2_8 : decode jdk_42_method_66_code 8 = .ok (.instanceof 10, 3) := by decide +kernel
theorem d2_11 : decode jdk_42_method_66_code 11 = .ok (.ifCond .eq 43, 3) := by decide +kernel
theorem d2_14 : decode jdk_42_method_66_code 14 = .ok (.aload_n 1, 1) := by decide +kernel
theorem d2_15 : decode jdk_42_method_66_code 15 = .ok (.checkcast 10, 3) := by decide +kernel
theorem d2_18 : decode jdk_42_method_66_code 18 = .ok (.astore_n 2, 1) := by decide +kernel
theorem d2_19 : decode jdk_42_method_66_code 19 = .ok (.getstatic 38, 3) := by decide +kernel
theorem d2_22 : decode jdk_42_method_66_code 22 = .ok (.ifCond .eq 14, 3) := by decide +kernel
theorem d2_25 : decode jdk_42_method_66_code 25 = .ok (.aload_n 0, 1) := by decide +kernel
theorem d2_26 : decode jdk_42_method_66_code 26 = .ok (.getfield 15, 3) := by decide +kernel
theorem d2_29 : decode jdk_42_method_66_code 29 = .ok (.aload_n 2, 1) := by decide +kernel
theorem d2_30 : decode jdk_42_method_66_code 30 = .ok (.getfield 15, 3) := by decide +kernel
theorem d2_33 : decode jdk_42_method_66_code 33 = .ok (.if_icmp .ne 21, 3) := by decide +kernel
theorem d2_36 : decode jdk_42_method_66_code 36 = .ok (.aload_n 0, 1) := by decide +kernel
theorem d2_37 : decode jdk_42_method_66_code 37 = .ok (.getfield 9, 3) := by decide +kernel
theorem d2_40 : decode jdk_42_method_66_code 40 = .ok (.aload_n 2, 1) := by decide +kernel
theorem d2_41 : decode jdk_42_method_66_code 41 = .ok (.getfield 9, 3) := by decide +kernel
theorem pd_0 : parseMethodDescriptor "([B[B)Z" = some ⟨[(.array .byte), (.array .byte)], some .boolean⟩ := by decide +kernel
theorem d2_44 : decode jdk_42_method_66_code 44 = .ok (.invokestatic 541, 3) := by decide +kernel
theorem d2_47 : decode jdk_42_method_66_code 47 = .ok (.ifCond .eq 7, 3) := by decide +kernel
theorem d2_50 : decode jdk_42_method_66_code 50 = .ok (.iconst 1, 1) := by decide +kernel
theorem d2_51 : decode jdk_42_method_66_code 51 = .ok (.goto 4, 3) := by decide +kernel
theorem d2_55 : decode jdk_42_method_66_code 55 = .ok (.ireturn, 1) := by decide +kernel
theorem d2_5 : decode jdk_42_method_66_code 5 = .ok (.iconst 1, 1) := by decide +kernel
theorem d2_6 : decode jdk_42_method_66_code 6 = .ok (.ireturn, 1) := by decide +kernel
set_option maxRecDepth 65536 in
set_option maxHeartbeats 40000000 in
theorem co2_0_0 (l : Launch) (Z : State) (a0 : Array Value) (hw : ∀ d ∈ tables_1, d.before a0 Z = true) (a : Addr) (o : Addr) (b : Addr) (c : Addr) (cs : Int32) (h0 : Heap) (E_a : Exa Z h0 a "java/lang/String") (F_coder : Fld Z h0 a "java/lang/String" "coder" "B" (.int (0 : Int32))) (F_value : Fld Z h0 a "java/lang/String" "value" "[B" (.ref b)) (A_b : AV Z h0 b .byte [(.int (112 : Int32)), (.int (117 : Int32)), (.int (108 : Int32)), (.int (115 : Int32)), (.int (97 : Int32)), (.int (114 : Int32))]) (E_o : Exa Z h0 o "java/lang/String") (G_coder : Fld Z h0 o "java/lang/String" "coder" "B" (.int (0 : Int32))) (G_value : Fld Z h0 o "java/lang/String" "value" "[B" (.ref c)) (A_c : AV Z h0 c .byte [(.int (112 : Int32)), (.int (117 : Int32)), (.int (108 : Int32)), (.int (115 : Int32)), (.int (97 : Int32)), (.int (114 : Int32))]) (S_cs : Sta Z h0 "java/lang/String" "COMPACT_STRINGS" "Z" (.int cs)) (hcs : ¬ cs = (0 : Int32)) : Co l (⟨"java/lang/String", "equals", "(Ljava/lang/Object;)Z"⟩ : MethodName) jdk_42_method_66_code 3 (some .boolean) [] ({ frames := 1, cells := 0, slots := 0, locals := 14 } : Room) Z h0 #[(.ref a), (.ref o)] (Pu h0 (some (.int ((1 : Int32) )))) := by
  refine Co.of (plainFor_of_name pn_1) ?_
  intro p_ e_ s_ m_ below meth c_ T0 X0 hx hby hml hown hnm hret hlk hZ e0
  refine Go.cast (ef2_0_0 m_ a o ) ?_
  refine g_aloadN X0 hx rfl rfl (hb hby d2_0) 1 rfl ?_
  refine g_aloadN X0 hx rfl rfl (hb hby d2_1) 2 rfl ?_
  refine g_acmp_ne X0 hx rfl rfl (hb hby d2_2) 7 5 (by decide) rfl rfl (fun q2 => ?_) (fun q2 => ?_)
  · refine g_aloadN X0 hx rfl rfl (hb hby d2_7) 8 rfl ?_
    refine g_instYes X0 hx hZ hown (wd hw 23 rfl) (Ins.self E_o) e0 (hb hby d2_8) 11 rfl (fun T1 X2 e3 => ?_)
    show Go p_ e_ below _ T1 (mkF m_ 11 #[.val (.ref a), .val (.ref o), .unset] [(.int (1 : Int32))])
    refine g_if_eq X2 hx (hb hby d2_11) 54 14 (by decide) rfl rfl (fun q11 => ?_) (fun q11 => ?_)
    · exact absurd q11 (by decide)
    · refine g_aloadN X2 hx rfl rfl (hb hby d2_14) 15 rfl ?_
      refine g_checkcast X2 hx hZ hown (wd hw 23 rfl) (Ins.self E_o) e3 (hb hby d2_15) 18 rfl (fun T4 X5 e6 => ?_)
      show Go p_ e_ below _ T4 (mkF m_ 18 #[.val (.ref a), .val (.ref o), .unset] [(.ref o)])
      refine g_astoreN X5 hx #[.val (.ref a), .val (.ref o), .val (.ref o)] rfl rfl (hb hby d2_18) 19 rfl ?_
      refine g_getstatic X5 hx hZ hown (host := "") (Or.inl (wd hw 25 rfl)) Via.refl S_cs e6 (hb hby d2_19) 22 rfl (fun T7 X8 e9 => ?_)
      show Go p_ e_ below _ T7 (mkF m_ 22 #[.val (.ref a), .val (.ref o), .val (.ref o)] [(.int cs)])
      refine g_if_eq X8 hx (hb hby d2_22) 36 25 (by decide) rfl rfl (fun q22 => ?_) (fun q22 => ?_)
      · exact absurd q22 hcs
      · refine g_aloadN X8 hx rfl rfl (hb hby d2_25) 26 rfl ?_
        refine g_getfield X8 hx hZ hown (host := "") (Or.inl (wd hw 26 rfl)) Via.refl F_coder e9 (hb hby d2_26) 29 rfl (fun T10 X11 e12 => ?_)
        show Go p_ e_ below _ T10 (mkF m_ 29 #[.val (.ref a), .val (.ref o), .val (.ref o)] [(.int (0 : Int32))])
        refine g_aloadN X11 hx rfl rfl (hb hby d2_29) 30 rfl ?_
        refine g_getfield X11 hx hZ hown (host := "") (Or.inl (wd hw 26 rfl)) Via.refl G_coder e12 (hb hby d2_30) 33 rfl (fun T13 X14 e15 => ?_)
        show Go p_ e_ below _ T13 (mkF m_ 33 #[.val (.ref a), .val (.ref o), .val (.ref o)] [(.int (0 : Int32)), (.int (0 : Int32))])
        refine g_icmp_ne X14 hx (hb hby d2_33) 54 36 (by decide) rfl rfl (fun q33 => ?_) (fun q33 => ?_)
        · exact absurd rfl q33
        · refine g_aloadN X14 hx rfl rfl (hb hby d2_36) 37 rfl ?_
          refine g_getfield X14 hx hZ hown (host := "") (Or.inl (wd hw 27 rfl)) Via.refl F_value e15 (hb hby d2_37) 40 rfl (fun T16 X17 e18 => ?_)
          show Go p_ e_ below _ T16 (mkF m_ 40 #[.val (.ref a), .val (.ref o), .val (.ref o)] [(.ref b)])
          refine g_aloadN X17 hx rfl rfl (hb hby d2_40) 41 rfl ?_
          refine g_getfield X17 hx hZ hown (host := "") (Or.inl (wd hw 27 rfl)) Via.refl G_value e18 (hb hby d2_41) 44 rfl (fun T19 X20 e21 => ?_)
          show Go p_ e_ below _ T19 (mkF m_ 44 #[.val (.ref a), .val (.ref o), .val (.ref o)] [(.ref c), (.ref b)])
          refine g_callS X20 hx hZ hown (wd hw 28 rfl) (wd hw 29 rfl) (wd hw 30 rfl) (wd hw 31 rfl) (by decide) e21 [(.ref b), (.ref c)] []  rfl (co3_0_0 l Z a0 hw b c  h0 A_b A_c) (lenOf pd_0 rfl) 0 (Nat.le_of_eq rfl) (by decide) (by decide) (by decide) (by decide) (by rw [hml]; rfl) (hb hby d2_44) 47 rfl (pu_cont fun T23 X22 e24 => ?_)
          show Go p_ e_ below _ T23 (mkF m_ 47 #[.val (.ref a), .val (.ref o), .val (.ref o)] [(.int (1 : Int32))])
          refine g_if_eq X22 hx (hb hby d2_47) 54 50 (by decide) rfl rfl (fun q47 => ?_) (fun q47 => ?_)
          · exact absurd q47 (by decide)
          · refine g_iconst X22 hx (1 : Int32) rfl (hb hby d2_50) 51 rfl ?_
            refine g_goto X22 hx (hb hby d2_51) 55 (by decide) rfl ?_
            exact g_retz X22 hx hret hlk (by decide) (by decide) (hb hby d2_55) ⟨congrArg (fun z => some (Value.int z)) (by decide), e24, rfl⟩
  · refine g_iconst X0 hx (1 : Int32) rfl (hb hby d2_5) 6 rfl ?_
    exact g_retz X0 hx hret hlk (by decide) (by decide) (hb hby d2_6) ⟨congrArg (fun z => some (Value.int z)) (by decide), e0, rfl⟩
theorem ef3_1_0 (m_ : MethodId) (b1 : Addr) (b2 : Addr)  : entryFrame m_ #[(.ref b1), (.ref b2)] 3 = mkF m_ 0 #[.val (.ref b1), .val (.ref b2), .unset] [] := by first | (simp [entryFrame, mkF, argsToLocals, Value.category]; done) | rfl
theorem d3_34 : decode jdk_43_method_13_code 34 = .ok (.iconst 0, 1) := by decide +kernel
theorem d3_35 : decode jdk_43_method_13_code 35 = .ok (.ireturn, 1) := by decide +kernel
set_option maxRecDepth 65536 in
set_option maxHeartbeats 40000000 in
theorem co3_1_0 (l : Launch) (Z : State) (a0 : Array Value) (hw : ∀ d ∈ tables_1, d.before a0 Z = true) (b1 : Addr) (b2 : Addr) (h0 : Heap) (A_1 : AV Z h0 b1 .byte [(.int (112 : Int32)), (.int (117 : Int32)), (.int (108 : Int32)), (.int (115 : Int32)), (.int (97 : Int32)), (.int (114 : Int32)), (.int (43 : Int32)), (.int (115 : Int32)), (.int (115 : Int32)), (.int (108 : Int32))]) (A_2 : AV Z h0 b2 .byte [(.int (112 : Int32)), (.int (117 : Int32)), (.int (108 : Int32)), (.int (115 : Int32)), (.int (97 : Int32)), (.int (114 : Int32))]) : Co l (⟨"java/lang/StringLatin1", "equals", "([B[B)Z"⟩ : MethodName) jdk_43_method_13_code 3 (some .boolean) [] ({ frames := 0, cells := 0, slots := 0, locals := 0 } : Room) Z h0 #[(.ref b1), (.ref b2)] (Pu h0 (some (.int ((0 : Int32) )))) := by
  refine Co.of (plainFor_of_name pn_0) ?_
  intro p_ e_ s_ m_ below meth c_ T0 X0 hx hby hml hown hnm hret hlk hZ e0
  refine Go.cast (ef3_1_0 m_ b1 b2 ) ?_
  refine g_aloadN X0 hx rfl rfl (hb hby d3_0) 1 rfl ?_
  refine g_arraylength X0 hx hZ e0 A_1 (10 : Int32) rfl (hb hby d3_1) 2 rfl ?_
  refine g_aloadN X0 hx rfl rfl (hb hby d3_2) 3 rfl ?_
  refine g_arraylength X0 hx hZ e0 A_2 (6 : Int32) rfl (hb hby d3_3) 4 rfl ?_
  refine g_icmp_ne X0 hx (hb hby d3_4) 34 7 (by decide) rfl rfl (fun q1 => ?_) (fun q1 => ?_)
  · refine g_iconst X0 hx (0 : Int32) rfl (hb hby d3_34) 35 rfl ?_
    exact g_retz X0 hx hret hlk (by decide) (by decide) (hb hby d3_35) ⟨congrArg (fun z => some (Value.int z)) (by decide), e0, rfl⟩
  · exact absurd q1 (by decide)
theorem ef2_1_0 (m_ : MethodId) (a : Addr) (o : Addr)  : entryFrame m_ #[(.ref a), (.ref o)] 3 = mkF m_ 0 #[.val (.ref a), .val (.ref o), .unset] [] := by first | (simp [entryFrame, mkF, argsToLocals, Value.category]; done) | rfl
theorem d2_54 : decode jdk_42_method_66_code 54 = .ok (.iconst 0, 1) := by decide +kernel
set_option maxRecDepth 65536 in
set_option maxHeartbeats 40000000 in
theorem co2_1_0 (l : Launch) (Z : State) (a0 : Array Value) (hw : ∀ d ∈ tables_1, d.before a0 Z = true) (a : Addr) (o : Addr) (b : Addr) (c : Addr) (cs : Int32) (h0 : Heap) (E_a : Exa Z h0 a "java/lang/String") (F_coder : Fld Z h0 a "java/lang/String" "coder" "B" (.int (0 : Int32))) (F_value : Fld Z h0 a "java/lang/String" "value" "[B" (.ref b)) (A_b : AV Z h0 b .byte [(.int (112 : Int32)), (.int (117 : Int32)), (.int (108 : Int32)), (.int (115 : Int32)), (.int (97 : Int32)), (.int (114 : Int32)), (.int (43 : Int32)), (.int (115 : Int32)), (.int (115 : Int32)), (.int (108 : Int32))]) (E_o : Exa Z h0 o "java/lang/String") (G_coder : Fld Z h0 o "java/lang/String" "coder" "B" (.int (0 : Int32))) (G_value : Fld Z h0 o "java/lang/String" "value" "[B" (.ref c)) (A_c : AV Z h0 c .byte [(.int (112 : Int32)), (.int (117 : Int32)), (.int (108 : Int32)), (.int (115 : Int32)), (.int (97 : Int32)), (.int (114 : Int32))]) (S_cs : Sta Z h0 "java/lang/String" "COMPACT_STRINGS" "Z" (.int cs)) (hcs : ¬ cs = (0 : Int32)) : Co l (⟨"java/lang/String", "equals", "(Ljava/lang/Object;)Z"⟩ : MethodName) jdk_42_method_66_code 3 (some .boolean) [] ({ frames := 1, cells := 0, slots := 0, locals := 14 } : Room) Z h0 #[(.ref a), (.ref o)] (Pu h0 (some (.int ((0 : Int32) )))) := by
  refine Co.of (plainFor_of_name pn_1) ?_
  intro p_ e_ s_ m_ below meth c_ T0 X0 hx hby hml hown hnm hret hlk hZ e0
  refine Go.cast (ef2_1_0 m_ a o ) ?_
  refine g_aloadN X0 hx rfl rfl (hb hby d2_0) 1 rfl ?_
  refine g_aloadN X0 hx rfl rfl (hb hby d2_1) 2 rfl ?_
  refine g_acmp_ne X0 hx rfl rfl (hb hby d2_2) 7 5 (by decide) rfl rfl (fun q2 => ?_) (fun q2 => ?_)
  · refine g_aloadN X0 hx rfl rfl (hb hby d2_7) 8 rfl ?_
    refine g_instYes X0 hx hZ hown (wd hw 23 rfl) (Ins.self E_o) e0 (hb hby d2_8) 11 rfl (fun T1 X2 e3 => ?_)
    show Go p_ e_ below _ T1 (mkF m_ 11 #[.val (.ref a), .val (.ref o), .unset] [(.int (1 : Int32))])
    refine g_if_eq X2 hx (hb hby d2_11) 54 14 (by decide) rfl rfl (fun q11 => ?_) (fun q11 => ?_)
    · exact absurd q11 (by decide)
    · refine g_aloadN X2 hx rfl rfl (hb hby d2_14) 15 rfl ?_
      refine g_checkcast X2 hx hZ hown (wd hw 23 rfl) (Ins.self E_o) e3 (hb hby d2_15) 18 rfl (fun T4 X5 e6 => ?_)
      show Go p_ e_ below _ T4 (mkF m_ 18 #[.val (.ref a), .val (.ref o), .unset] [(.ref o)])
      refine g_astoreN X5 hx #[.val (.ref a), .val (.ref o), .val (.ref o)] rfl rfl (hb hby d2_18) 19 rfl ?_
      refine g_getstatic X5 hx hZ hown (host := "") (Or.inl (wd hw 25 rfl)) Via.refl S_cs e6 (hb hby d2_19) 22 rfl (fun T7 X8 e9 => ?_)
      show Go p_ e_ below _ T7 (mkF m_ 22 #[.val (.ref a), .val (.ref o), .val (.ref o)] [(.int cs)])
      refine g_if_eq X8 hx (hb hby d2_22) 36 25 (by decide) rfl rfl (fun q22 => ?_) (fun q22 => ?_)
      · exact absurd q22 hcs
      · refine g_aloadN X8 hx rfl rfl (hb hby d2_25) 26 rfl ?_
        refine g_getfield X8 hx hZ hown (host := "") (Or.inl (wd hw 26 rfl)) Via.refl F_coder e9 (hb hby d2_26) 29 rfl (fun T10 X11 e12 => ?_)
        show Go p_ e_ below _ T10 (mkF m_ 29 #[.val (.ref a), .val (.ref o), .val (.ref o)] [(.int (0 : Int32))])
        refine g_aloadN X11 hx rfl rfl (hb hby d2_29) 30 rfl ?_
        refine g_getfield X11 hx hZ hown (host := "") (Or.inl (wd hw 26 rfl)) Via.refl G_coder e12 (hb hby d2_30) 33 rfl (fun T13 X14 e15 => ?_)
        show Go p_ e_ below _ T13 (mkF m_ 33 #[.val (.ref a), .val (.ref o), .val (.ref o)] [(.int (0 : Int32)), (.int (0 : Int32))])
        refine g_icmp_ne X14 hx (hb hby d2_33) 54 36 (by decide) rfl rfl (fun q33 => ?_) (fun q33 => ?_)
        · exact absurd rfl q33
        · refine g_aloadN X14 hx rfl rfl (hb hby d2_36) 37 rfl ?_
          refine g_getfield X14 hx hZ hown (host := "") (Or.inl (wd hw 27 rfl)) Via.refl F_value e15 (hb hby d2_37) 40 rfl (fun T16 X17 e18 => ?_)
          show Go p_ e_ below _ T16 (mkF m_ 40 #[.val (.ref a), .val (.ref o), .val (.ref o)] [(.ref b)])
          refine g_aloadN X17 hx rfl rfl (hb hby d2_40) 41 rfl ?_
          refine g_getfield X17 hx hZ hown (host := "") (Or.inl (wd hw 27 rfl)) Via.refl G_value e18 (hb hby d2_41) 44 rfl (fun T19 X20 e21 => ?_)
          show Go p_ e_ below _ T19 (mkF m_ 44 #[.val (.ref a), .val (.ref o), .val (.ref o)] [(.ref c), (.ref b)])
          refine g_callS X20 hx hZ hown (wd hw 28 rfl) (wd hw 29 rfl) (wd hw 30 rfl) (wd hw 31 rfl) (by decide) e21 [(.ref b), (.ref c)] []  rfl (co3_1_0 l Z a0 hw b c  h0 A_b A_c) (lenOf pd_0 rfl) 0 (Nat.le_of_eq rfl) (by decide) (by decide) (by decide) (by decide) (by rw [hml]; rfl) (hb hby d2_44) 47 rfl (pu_cont fun T23 X22 e24 => ?_)
          show Go p_ e_ below _ T23 (mkF m_ 47 #[.val (.ref a), .val (.ref o), .val (.ref o)] [(.int (0 : Int32))])
          refine g_if_eq X22 hx (hb hby d2_47) 54 50 (by decide) rfl rfl (fun q47 => ?_) (fun q47 => ?_)
          · refine g_iconst X22 hx (0 : Int32) rfl (hb hby d2_54) 55 rfl ?_
            exact g_retz X22 hx hret hlk (by decide) (by decide) (hb hby d2_55) ⟨congrArg (fun z => some (Value.int z)) (by decide), e24, rfl⟩
          · exact absurd rfl q47
  · exact absurd q2 (own_str_ne F_value A_b G_value A_c (by simp))
theorem ef3_1_1 (m_ : MethodId) (b1 : Addr) (b2 : Addr)  : entryFrame m_ #[(.ref b1), (.ref b2)] 3 = mkF m_ 0 #[.val (.ref b1), .val (.ref b2), .unset] [] := by first | (simp [entryFrame, mkF, argsToLocals, Value.category]; done) | rfl
set_option maxRecDepth 65536 in
set_option maxHeartbeats 40000000 in
theorem co3_1_1 (l : Launch) (Z : State) (a0 : Array Value) (hw : ∀ d ∈ tables_1, d.before a0 Z = true) (b1 : Addr) (b2 : Addr) (h0 : Heap) (A_1 : AV Z h0 b1 .byte [(.int (112 : Int32)), (.int (117 : Int32)), (.int (108 : Int32)), (.int (115 : Int32)), (.int (97 : Int32)), (.int (114 : Int32)), (.int (43 : Int32)), (.int (115 : Int32)), (.int (115 : Int32)), (.int (108 : Int32))]) (A_2 : AV Z h0 b2 .byte [(.int (112 : Int32)), (.int (117 : Int32)), (.int (108 : Int32)), (.int (115 : Int32)), (.int (97 : Int32)), (.int (114 : Int32)), (.int (43 : Int32)), (.int (115 : Int32)), (.int (115 : Int32)), (.int (108 : Int32))]) : Co l (⟨"java/lang/StringLatin1", "equals", "([B[B)Z"⟩ : MethodName) jdk_43_method_13_code 3 (some .boolean) [] ({ frames := 0, cells := 0, slots := 0, locals := 0 } : Room) Z h0 #[(.ref b1), (.ref b2)] (Pu h0 (some (.int ((1 : Int32) )))) := by
  refine Co.of (plainFor_of_name pn_0) ?_
  intro p_ e_ s_ m_ below meth c_ T0 X0 hx hby hml hown hnm hret hlk hZ e0
  refine Go.cast (ef3_1_1 m_ b1 b2 ) ?_
  refine g_aloadN X0 hx rfl rfl (hb hby d3_0) 1 rfl ?_
  refine g_arraylength X0 hx hZ e0 A_1 (10 : Int32) rfl (hb hby d3_1) 2 rfl ?_
  refine g_aloadN X0 hx rfl rfl (hb hby d3_2) 3 rfl ?_
  refine g_arraylength X0 hx hZ e0 A_2 (10 : Int32) rfl (hb hby d3_3) 4 rfl ?_
  refine g_icmp_ne X0 hx (hb hby d3_4) 34 7 (by decide) rfl rfl (fun q1 => ?_) (fun q1 => ?_)
  · exact absurd rfl q1
  · refine g_iconst X0 hx (0 : Int32) rfl (hb hby d3_7) 8 rfl ?_
    refine g_istoreN X0 hx #[.val (.ref b1), .val (.ref b2), .val (.int (0 : Int32))] rfl (hb hby d3_8) 9 rfl ?_
    refine g_iloadN X0 hx rfl (hb hby d3_9) 10 rfl ?_
    refine g_aloadN X0 hx rfl rfl (hb hby d3_10) 11 rfl ?_
    refine g_arraylength X0 hx hZ e0 A_1 (10 : Int32) rfl (hb hby d3_11) 12 rfl ?_
    refine g_icmp_ge X0 hx (hb hby d3_12) 32 15 (by decide) rfl rfl (fun q2 => ?_) (fun q2 => ?_)
    · exact absurd q2 (by decide)
    · refine g_aloadN X0 hx rfl rfl (hb hby d3_15) 16 rfl ?_
      refine g_iloadN X0 hx rfl (hb hby d3_16) 17 rfl ?_
      refine g_baload X0 hx hZ e0 A_1 (by decide) rfl (hb hby d3_17) 18 rfl ?_
      show Go p_ e_ below _ T0 (mkF m_ 18 #[.val (.ref b1), .val (.ref b2), .val (.int (0 : Int32))] [(.int (112 : Int32))])
      refine g_aloadN X0 hx rfl rfl (hb hby d3_18) 19 rfl ?_
      refine g_iloadN X0 hx rfl (hb hby d3_19) 20 rfl ?_
      refine g_baload X0 hx hZ e0 A_2 (by decide) rfl (hb hby d3_20) 21 rfl ?_
      show Go p_ e_ below _ T0 (mkF m_ 21 #[.val (.ref b1), .val (.ref b2), .val (.int (0 : Int32))] [(.int (112 : Int32)), (.int (112 : Int32))])
      refine g_icmp_eq X0 hx (hb hby d3_21) 26 24 (by decide) rfl rfl (fun q3 => ?_) (fun q3 => ?_)
      · refine g_iinc X0 hx (1 : Int32) rfl rfl #[.val (.ref b1), .val (.ref b2), .val (.int (1 : Int32))] rfl (hb hby d3_26) 29 rfl ?_
        refine g_goto X0 hx (hb hby d3_29) 9 (by decide) rfl ?_
        refine g_iloadN X0 hx rfl (hb hby d3_9) 10 rfl ?_
        refine g_aloadN X0 hx rfl rfl (hb hby d3_10) 11 rfl ?_
        refine g_arraylength X0 hx hZ e0 A_1 (10 : Int32) rfl (hb hby d3_11) 12 rfl ?_
        refine g_icmp_ge X0 hx (hb hby d3_12) 32 15 (by decide) rfl rfl (fun q4 => ?_) (fun q4 => ?_)
        · exact absurd q4 (by decide)
        · refine g_aloadN X0 hx rfl rfl (hb hby d3_15) 16 rfl ?_
          refine g_iloadN X0 hx rfl (hb hby d3_16) 17 rfl ?_
          refine g_baload X0 hx hZ e0 A_1 (by decide) rfl (hb hby d3_17) 18 rfl ?_
          show Go p_ e_ below _ T0 (mkF m_ 18 #[.val (.ref b1), .val (.ref b2), .val (.int (1 : Int32))] [(.int (117 : Int32))])
          refine g_aloadN X0 hx rfl rfl (hb hby d3_18) 19 rfl ?_
          refine g_iloadN X0 hx rfl (hb hby d3_19) 20 rfl ?_
          refine g_baload X0 hx hZ e0 A_2 (by decide) rfl (hb hby d3_20) 21 rfl ?_
          show Go p_ e_ below _ T0 (mkF m_ 21 #[.val (.ref b1), .val (.ref b2), .val (.int (1 : Int32))] [(.int (117 : Int32)), (.int (117 : Int32))])
          refine g_icmp_eq X0 hx (hb hby d3_21) 26 24 (by decide) rfl rfl (fun q5 => ?_) (fun q5 => ?_)
          · refine g_iinc X0 hx (1 : Int32) rfl rfl #[.val (.ref b1), .val (.ref b2), .val (.int (2 : Int32))] rfl (hb hby d3_26) 29 rfl ?_
            refine g_goto X0 hx (hb hby d3_29) 9 (by decide) rfl ?_
            refine g_iloadN X0 hx rfl (hb hby d3_9) 10 rfl ?_
            refine g_aloadN X0 hx rfl rfl (hb hby d3_10) 11 rfl ?_
            refine g_arraylength X0 hx hZ e0 A_1 (10 : Int32) rfl (hb hby d3_11) 12 rfl ?_
            refine g_icmp_ge X0 hx (hb hby d3_12) 32 15 (by decide) rfl rfl (fun q6 => ?_) (fun q6 => ?_)
            · exact absurd q6 (by decide)
            · refine g_aloadN X0 hx rfl rfl (hb hby d3_15) 16 rfl ?_
              refine g_iloadN X0 hx rfl (hb hby d3_16) 17 rfl ?_
              refine g_baload X0 hx hZ e0 A_1 (by decide) rfl (hb hby d3_17) 18 rfl ?_
              show Go p_ e_ below _ T0 (mkF m_ 18 #[.val (.ref b1), .val (.ref b2), .val (.int (2 : Int32))] [(.int (108 : Int32))])
              refine g_aloadN X0 hx rfl rfl (hb hby d3_18) 19 rfl ?_
              refine g_iloadN X0 hx rfl (hb hby d3_19) 20 rfl ?_
              refine g_baload X0 hx hZ e0 A_2 (by decide) rfl (hb hby d3_20) 21 rfl ?_
              show Go p_ e_ below _ T0 (mkF m_ 21 #[.val (.ref b1), .val (.ref b2), .val (.int (2 : Int32))] [(.int (108 : Int32)), (.int (108 : Int32))])
              refine g_icmp_eq X0 hx (hb hby d3_21) 26 24 (by decide) rfl rfl (fun q7 => ?_) (fun q7 => ?_)
              · refine g_iinc X0 hx (1 : Int32) rfl rfl #[.val (.ref b1), .val (.ref b2), .val (.int (3 : Int32))] rfl (hb hby d3_26) 29 rfl ?_
                refine g_goto X0 hx (hb hby d3_29) 9 (by decide) rfl ?_
                refine g_iloadN X0 hx rfl (hb hby d3_9) 10 rfl ?_
                refine g_aloadN X0 hx rfl rfl (hb hby d3_10) 11 rfl ?_
                refine g_arraylength X0 hx hZ e0 A_1 (10 : Int32) rfl (hb hby d3_11) 12 rfl ?_
                refine g_icmp_ge X0 hx (hb hby d3_12) 32 15 (by decide) rfl rfl (fun q8 => ?_) (fun q8 => ?_)
                · exact absurd q8 (by decide)
                · refine g_aloadN X0 hx rfl rfl (hb hby d3_15) 16 rfl ?_
                  refine g_iloadN X0 hx rfl (hb hby d3_16) 17 rfl ?_
                  refine g_baload X0 hx hZ e0 A_1 (by decide) rfl (hb hby d3_17) 18 rfl ?_
                  show Go p_ e_ below _ T0 (mkF m_ 18 #[.val (.ref b1), .val (.ref b2), .val (.int (3 : Int32))] [(.int (115 : Int32))])
                  refine g_aloadN X0 hx rfl rfl (hb hby d3_18) 19 rfl ?_
                  refine g_iloadN X0 hx rfl (hb hby d3_19) 20 rfl ?_
                  refine g_baload X0 hx hZ e0 A_2 (by decide) rfl (hb hby d3_20) 21 rfl ?_
                  show Go p_ e_ below _ T0 (mkF m_ 21 #[.val (.ref b1), .val (.ref b2), .val (.int (3 : Int32))] [(.int (115 : Int32)), (.int (115 : Int32))])
                  refine g_icmp_eq X0 hx (hb hby d3_21) 26 24 (by decide) rfl rfl (fun q9 => ?_) (fun q9 => ?_)
                  · refine g_iinc X0 hx (1 : Int32) rfl rfl #[.val (.ref b1), .val (.ref b2), .val (.int (4 : Int32))] rfl (hb hby d3_26) 29 rfl ?_
                    refine g_goto X0 hx (hb hby d3_29) 9 (by decide) rfl ?_
                    refine g_iloadN X0 hx rfl (hb hby d3_9) 10 rfl ?_
                    refine g_aloadN X0 hx rfl rfl (hb hby d3_10) 11 rfl ?_
                    refine g_arraylength X0 hx hZ e0 A_1 (10 : Int32) rfl (hb hby d3_11) 12 rfl ?_
                    refine g_icmp_ge X0 hx (hb hby d3_12) 32 15 (by decide) rfl rfl (fun q10 => ?_) (fun q10 => ?_)
                    · exact absurd q10 (by decide)
                    · refine g_aloadN X0 hx rfl rfl (hb hby d3_15) 16 rfl ?_
                      refine g_iloadN X0 hx rfl (hb hby d3_16) 17 rfl ?_
                      refine g_baload X0 hx hZ e0 A_1 (by decide) rfl (hb hby d3_17) 18 rfl ?_
                      show Go p_ e_ below _ T0 (mkF m_ 18 #[.val (.ref b1), .val (.ref b2), .val (.int (4 : Int32))] [(.int (97 : Int32))])
                      refine g_aloadN X0 hx rfl rfl (hb hby d3_18) 19 rfl ?_
                      refine g_iloadN X0 hx rfl (hb hby d3_19) 20 rfl ?_
                      refine g_baload X0 hx hZ e0 A_2 (by decide) rfl (hb hby d3_20) 21 rfl ?_
                      show Go p_ e_ below _ T0 (mkF m_ 21 #[.val (.ref b1), .val (.ref b2), .val (.int (4 : Int32))] [(.int (97 : Int32)), (.int (97 : Int32))])
                      refine g_icmp_eq X0 hx (hb hby d3_21) 26 24 (by decide) rfl rfl (fun q11 => ?_) (fun q11 => ?_)
                      · refine g_iinc X0 hx (1 : Int32) rfl rfl #[.val (.ref b1), .val (.ref b2), .val (.int (5 : Int32))] rfl (hb hby d3_26) 29 rfl ?_
                        refine g_goto X0 hx (hb hby d3_29) 9 (by decide) rfl ?_
                        refine g_iloadN X0 hx rfl (hb hby d3_9) 10 rfl ?_
                        refine g_aloadN X0 hx rfl rfl (hb hby d3_10) 11 rfl ?_
                        refine g_arraylength X0 hx hZ e0 A_1 (10 : Int32) rfl (hb hby d3_11) 12 rfl ?_
                        refine g_icmp_ge X0 hx (hb hby d3_12) 32 15 (by decide) rfl rfl (fun q12 => ?_) (fun q12 => ?_)
                        · exact absurd q12 (by decide)
                        · refine g_aloadN X0 hx rfl rfl (hb hby d3_15) 16 rfl ?_
                          refine g_iloadN X0 hx rfl (hb hby d3_16) 17 rfl ?_
                          refine g_baload X0 hx hZ e0 A_1 (by decide) rfl (hb hby d3_17) 18 rfl ?_
                          show Go p_ e_ below _ T0 (mkF m_ 18 #[.val (.ref b1), .val (.ref b2), .val (.int (5 : Int32))] [(.int (114 : Int32))])
                          refine g_aloadN X0 hx rfl rfl (hb hby d3_18) 19 rfl ?_
                          refine g_iloadN X0 hx rfl (hb hby d3_19) 20 rfl ?_
                          refine g_baload X0 hx hZ e0 A_2 (by decide) rfl (hb hby d3_20) 21 rfl ?_
                          show Go p_ e_ below _ T0 (mkF m_ 21 #[.val (.ref b1), .val (.ref b2), .val (.int (5 : Int32))] [(.int (114 : Int32)), (.int (114 : Int32))])
                          refine g_icmp_eq X0 hx (hb hby d3_21) 26 24 (by decide) rfl rfl (fun q13 => ?_) (fun q13 => ?_)
                          · refine g_iinc X0 hx (1 : Int32) rfl rfl #[.val (.ref b1), .val (.ref b2), .val (.int (6 : Int32))] rfl (hb hby d3_26) 29 rfl ?_
                            refine g_goto X0 hx (hb hby d3_29) 9 (by decide) rfl ?_
                            refine g_iloadN X0 hx rfl (hb hby d3_9) 10 rfl ?_
                            refine g_aloadN X0 hx rfl rfl (hb hby d3_10) 11 rfl ?_
                            refine g_arraylength X0 hx hZ e0 A_1 (10 : Int32) rfl (hb hby d3_11) 12 rfl ?_
                            refine g_icmp_ge X0 hx (hb hby d3_12) 32 15 (by decide) rfl rfl (fun q14 => ?_) (fun q14 => ?_)
                            · exact absurd q14 (by decide)
                            · refine g_aloadN X0 hx rfl rfl (hb hby d3_15) 16 rfl ?_
                              refine g_iloadN X0 hx rfl (hb hby d3_16) 17 rfl ?_
                              refine g_baload X0 hx hZ e0 A_1 (by decide) rfl (hb hby d3_17) 18 rfl ?_
                              show Go p_ e_ below _ T0 (mkF m_ 18 #[.val (.ref b1), .val (.ref b2), .val (.int (6 : Int32))] [(.int (43 : Int32))])
                              refine g_aloadN X0 hx rfl rfl (hb hby d3_18) 19 rfl ?_
                              refine g_iloadN X0 hx rfl (hb hby d3_19) 20 rfl ?_
                              refine g_baload X0 hx hZ e0 A_2 (by decide) rfl (hb hby d3_20) 21 rfl ?_
                              show Go p_ e_ below _ T0 (mkF m_ 21 #[.val (.ref b1), .val (.ref b2), .val (.int (6 : Int32))] [(.int (43 : Int32)), (.int (43 : Int32))])
                              refine g_icmp_eq X0 hx (hb hby d3_21) 26 24 (by decide) rfl rfl (fun q15 => ?_) (fun q15 => ?_)
                              · refine g_iinc X0 hx (1 : Int32) rfl rfl #[.val (.ref b1), .val (.ref b2), .val (.int (7 : Int32))] rfl (hb hby d3_26) 29 rfl ?_
                                refine g_goto X0 hx (hb hby d3_29) 9 (by decide) rfl ?_
                                refine g_iloadN X0 hx rfl (hb hby d3_9) 10 rfl ?_
                                refine g_aloadN X0 hx rfl rfl (hb hby d3_10) 11 rfl ?_
                                refine g_arraylength X0 hx hZ e0 A_1 (10 : Int32) rfl (hb hby d3_11) 12 rfl ?_
                                refine g_icmp_ge X0 hx (hb hby d3_12) 32 15 (by decide) rfl rfl (fun q16 => ?_) (fun q16 => ?_)
                                · exact absurd q16 (by decide)
                                · refine g_aloadN X0 hx rfl rfl (hb hby d3_15) 16 rfl ?_
                                  refine g_iloadN X0 hx rfl (hb hby d3_16) 17 rfl ?_
                                  refine g_baload X0 hx hZ e0 A_1 (by decide) rfl (hb hby d3_17) 18 rfl ?_
                                  show Go p_ e_ below _ T0 (mkF m_ 18 #[.val (.ref b1), .val (.ref b2), .val (.int (7 : Int32))] [(.int (115 : Int32))])
                                  refine g_aloadN X0 hx rfl rfl (hb hby d3_18) 19 rfl ?_
                                  refine g_iloadN X0 hx rfl (hb hby d3_19) 20 rfl ?_
                                  refine g_baload X0 hx hZ e0 A_2 (by decide) rfl (hb hby d3_20) 21 rfl ?_
                                  show Go p_ e_ below _ T0 (mkF m_ 21 #[.val (.ref b1), .val (.ref b2), .val (.int (7 : Int32))] [(.int (115 : Int32)), (.int (115 : Int32))])
                                  refine g_icmp_eq X0 hx (hb hby d3_21) 26 24 (by decide) rfl rfl (fun q17 => ?_) (fun q17 => ?_)
                                  · refine g_iinc X0 hx (1 : Int32) rfl rfl #[.val (.ref b1), .val (.ref b2), .val (.int (8 : Int32))] rfl (hb hby d3_26) 29 rfl ?_
                                    refine g_goto X0 hx (hb hby d3_29) 9 (by decide) rfl ?_
                                    refine g_iloadN X0 hx rfl (hb hby d3_9) 10 rfl ?_
                                    refine g_aloadN X0 hx rfl rfl (hb hby d3_10) 11 rfl ?_
                                    refine g_arraylength X0 hx hZ e0 A_1 (10 : Int32) rfl (hb hby d3_11) 12 rfl ?_
                                    refine g_icmp_ge X0 hx (hb hby d3_12) 32 15 (by decide) rfl rfl (fun q18 => ?_) (fun q18 => ?_)
                                    · exact absurd q18 (by decide)
                                    · refine g_aloadN X0 hx rfl rfl (hb hby d3_15) 16 rfl ?_
                                      refine g_iloadN X0 hx rfl (hb hby d3_16) 17 rfl ?_
                                      refine g_baload X0 hx hZ e0 A_1 (by decide) rfl (hb hby d3_17) 18 rfl ?_
                                      show Go p_ e_ below _ T0 (mkF m_ 18 #[.val (.ref b1), .val (.ref b2), .val (.int (8 : Int32))] [(.int (115 : Int32))])
                                      refine g_aloadN X0 hx rfl rfl (hb hby d3_18) 19 rfl ?_
                                      refine g_iloadN X0 hx rfl (hb hby d3_19) 20 rfl ?_
                                      refine g_baload X0 hx hZ e0 A_2 (by decide) rfl (hb hby d3_20) 21 rfl ?_
                                      show Go p_ e_ below _ T0 (mkF m_ 21 #[.val (.ref b1), .val (.ref b2), .val (.int (8 : Int32))] [(.int (115 : Int32)), (.int (115 : Int32))])
                                      refine g_icmp_eq X0 hx (hb hby d3_21) 26 24 (by decide) rfl rfl (fun q19 => ?_) (fun q19 => ?_)
                                      · refine g_iinc X0 hx (1 : Int32) rfl rfl #[.val (.ref b1), .val (.ref b2), .val (.int (9 : Int32))] rfl (hb hby d3_26) 29 rfl ?_
                                        refine g_goto X0 hx (hb hby d3_29) 9 (by decide) rfl ?_
                                        refine g_iloadN X0 hx rfl (hb hby d3_9) 10 rfl ?_
                                        refine g_aloadN X0 hx rfl rfl (hb hby d3_10) 11 rfl ?_
                                        refine g_arraylength X0 hx hZ e0 A_1 (10 : Int32) rfl (hb hby d3_11) 12 rfl ?_
                                        refine g_icmp_ge X0 hx (hb hby d3_12) 32 15 (by decide) rfl rfl (fun q20 => ?_) (fun q20 => ?_)
                                        · exact absurd q20 (by decide)
                                        · refine g_aloadN X0 hx rfl rfl (hb hby d3_15) 16 rfl ?_
                                          refine g_iloadN X0 hx rfl (hb hby d3_16) 17 rfl ?_
                                          refine g_baload X0 hx hZ e0 A_1 (by decide) rfl (hb hby d3_17) 18 rfl ?_
                                          show Go p_ e_ below _ T0 (mkF m_ 18 #[.val (.ref b1), .val (.ref b2), .val (.int (9 : Int32))] [(.int (108 : Int32))])
                                          refine g_aloadN X0 hx rfl rfl (hb hby d3_18) 19 rfl ?_
                                          refine g_iloadN X0 hx rfl (hb hby d3_19) 20 rfl ?_
                                          refine g_baload X0 hx hZ e0 A_2 (by decide) rfl (hb hby d3_20) 21 rfl ?_
                                          show Go p_ e_ below _ T0 (mkF m_ 21 #[.val (.ref b1), .val (.ref b2), .val (.int (9 : Int32))] [(.int (108 : Int32)), (.int (108 : Int32))])
                                          refine g_icmp_eq X0 hx (hb hby d3_21) 26 24 (by decide) rfl rfl (fun q21 => ?_) (fun q21 => ?_)
                                          · refine g_iinc X0 hx (1 : Int32) rfl rfl #[.val (.ref b1), .val (.ref b2), .val (.int (10 : Int32))] rfl (hb hby d3_26) 29 rfl ?_
                                            refine g_goto X0 hx (hb hby d3_29) 9 (by decide) rfl ?_
                                            refine g_iloadN X0 hx rfl (hb hby d3_9) 10 rfl ?_
                                            refine g_aloadN X0 hx rfl rfl (hb hby d3_10) 11 rfl ?_
                                            refine g_arraylength X0 hx hZ e0 A_1 (10 : Int32) rfl (hb hby d3_11) 12 rfl ?_
                                            refine g_icmp_ge X0 hx (hb hby d3_12) 32 15 (by decide) rfl rfl (fun q22 => ?_) (fun q22 => ?_)
                                            · refine g_iconst X0 hx (1 : Int32) rfl (hb hby d3_32) 33 rfl ?_
                                              exact g_retz X0 hx hret hlk (by decide) (by decide) (hb hby d3_33) ⟨congrArg (fun z => some (Value.int z)) (by decide), e0, rfl⟩
                                            · exact absurd q22 (by decide)
                                          · exact absurd rfl q21
                                      · exact absurd rfl q19
                                  · exact absurd rfl q17
                              · exact absurd rfl q15
                          · exact absurd rfl q13
                      · exact absurd rfl q11
                  · exact absurd rfl q9
              · exact absurd rfl q7
          · exact absurd rfl q5
      · exact absurd rfl q3
theorem ef2_1_1 (m_ : MethodId) (a : Addr) (o : Addr)  : entryFrame m_ #[(.ref a), (.ref o)] 3 = mkF m_ 0 #[.val (.ref a), .val (.ref o), .unset] [] := by first | (simp [entryFrame, mkF, argsToLocals, Value.category]; done) | rfl
set_option maxRecDepth 65536 in
set_option maxHeartbeats 40000000 in
theorem co2_1_1 (l : Launch) (Z : State) (a0 : Array Value) (hw : ∀ d ∈ tables_1, d.before a0 Z = true) (a : Addr) (o : Addr) (b : Addr) (c : Addr) (cs : Int32) (h0 : Heap) (E_a : Exa Z h0 a "java/lang/String") (F_coder : Fld Z h0 a "java/lang/String" "coder" "B" (.int (0 : Int32))) (F_value : Fld Z h0 a "java/lang/String" "value" "[B" (.ref b)) (A_b : AV Z h0 b .byte [(.int (112 : Int32)), (.int (117 : Int32)), (.int (108 : Int32)), (.int (115 : Int32)), (.int (97 : Int32)), (.int (114 : Int32)), (.int (43 : Int32)), (.int (115 : Int32)), (.int (115 : Int32)), (.int (108 : Int32))]) (E_o : Exa Z h0 o "java/lang/String") (G_coder : Fld Z h0 o "java/lang/String" "coder" "B" (.int (0 : Int32))) (G_value : Fld Z h0 o "java/lang/String" "value" "[B" (.ref c)) (A_c : AV Z h0 c .byte [(.int (112 : Int32)), (.int (117 : Int32)), (.int (108 : Int32)), (.int (115 : Int32)), (.int (97 : Int32)), (.int (114 : Int32)), (.int (43 : Int32)), (.int (115 : Int32)), (.int (115 : Int32)), (.int (108 : Int32))]) (S_cs : Sta Z h0 "java/lang/String" "COMPACT_STRINGS" "Z" (.int cs)) (hcs : ¬ cs = (0 : Int32)) : Co l (⟨"java/lang/String", "equals", "(Ljava/lang/Object;)Z"⟩ : MethodName) jdk_42_method_66_code 3 (some .boolean) [] ({ frames := 1, cells := 0, slots := 0, locals := 14 } : Room) Z h0 #[(.ref a), (.ref o)] (Pu h0 (some (.int ((1 : Int32) )))) := by
  refine Co.of (plainFor_of_name pn_1) ?_
  intro p_ e_ s_ m_ below meth c_ T0 X0 hx hby hml hown hnm hret hlk hZ e0
  refine Go.cast (ef2_1_1 m_ a o ) ?_
  refine g_aloadN X0 hx rfl rfl (hb hby d2_0) 1 rfl ?_
  refine g_aloadN X0 hx rfl rfl (hb hby d2_1) 2 rfl ?_
  refine g_acmp_ne X0 hx rfl rfl (hb hby d2_2) 7 5 (by decide) rfl rfl (fun q2 => ?_) (fun q2 => ?_)
  · refine g_aloadN X0 hx rfl rfl (hb hby d2_7) 8 rfl ?_
    refine g_instYes X0 hx hZ hown (wd hw 23 rfl) (Ins.self E_o) e0 (hb hby d2_8) 11 rfl (fun T1 X2 e3 => ?_)
    show Go p_ e_ below _ T1 (mkF m_ 11 #[.val (.ref a), .val (.ref o), .unset] [(.int (1 : Int32))])
    refine g_if_eq X2 hx (hb hby d2_11) 54 14 (by decide) rfl rfl (fun q11 => ?_) (fun q11 => ?_)
    · exact absurd q11 (by decide)
    · refine g_aloadN X2 hx rfl rfl (hb hby d2_14) 15 rfl ?_
      refine g_checkcast X2 hx hZ hown (wd hw 23 rfl) (Ins.self E_o) e3 (hb hby d2_15) 18 rfl (fun T4 X5 e6 => ?_)
      show Go p_ e_ below _ T4 (mkF m_ 18 #[.val (.ref a), .val (.ref o), .unset] [(.ref o)])
      refine g_astoreN X5 hx #[.val (.ref a), .val (.ref o), .val (.ref o)] rfl rfl (hb hby d2_18) 19 rfl ?_
      refine g_getstatic X5 hx hZ hown (host := "") (Or.inl (wd hw 25 rfl)) Via.refl S_cs e6 (hb hby d2_19) 22 rfl (fun T7 X8 e9 => ?_)
      show Go p_ e_ below _ T7 (mkF m_ 22 #[.val (.ref a), .val (.ref o), .val (.ref o)] [(.int cs)])
      refine g_if_eq X8 hx (hb hby d2_22) 36 25 (by decide) rfl rfl (fun q22 => ?_) (fun q22 => ?_)
      · exact absurd q22 hcs
      · refine g_aloadN X8 hx rfl rfl (hb hby d2_25) 26 rfl ?_
        refine g_getfield X8 hx hZ hown (host := "") (Or.inl (wd hw 26 rfl)) Via.refl F_coder e9 (hb hby d2_26) 29 rfl (fun T10 X11 e12 => ?_)
        show Go p_ e_ below _ T10 (mkF m_ 29 #[.val (.ref a), .val (.ref o), .val (.ref o)] [(.int (0 : Int32))])
        refine g_aloadN X11 hx rfl rfl (hb hby d2_29) 30 rfl ?_
        refine g_getfield X11 hx hZ hown (host := "") (Or.inl (wd hw 26 rfl)) Via.refl G_coder e12 (hb hby d2_30) 33 rfl (fun T13 X14 e15 => ?_)
        show Go p_ e_ below _ T13 (mkF m_ 33 #[.val (.ref a), .val (.ref o), .val (.ref o)] [(.int (0 : Int32)), (.int (0 : Int32))])
        refine g_icmp_ne X14 hx (hb hby d2_33) 54 36 (by decide) rfl rfl (fun q33 => ?_) (fun q33 => ?_)
        · exact absurd rfl q33
        · refine g_aloadN X14 hx rfl rfl (hb hby d2_36) 37 rfl ?_
          refine g_getfield X14 hx hZ hown (host := "") (Or.inl (wd hw 27 rfl)) Via.refl F_value e15 (hb hby d2_37) 40 rfl (fun T16 X17 e18 => ?_)
          show Go p_ e_ below _ T16 (mkF m_ 40 #[.val (.ref a), .val (.ref o), .val (.ref o)] [(.ref b)])
          refine g_aloadN X17 hx rfl rfl (hb hby d2_40) 41 rfl ?_
          refine g_getfield X17 hx hZ hown (host := "") (Or.inl (wd hw 27 rfl)) Via.refl G_value e18 (hb hby d2_41) 44 rfl (fun T19 X20 e21 => ?_)
          show Go p_ e_ below _ T19 (mkF m_ 44 #[.val (.ref a), .val (.ref o), .val (.ref o)] [(.ref c), (.ref b)])
          refine g_callS X20 hx hZ hown (wd hw 28 rfl) (wd hw 29 rfl) (wd hw 30 rfl) (wd hw 31 rfl) (by decide) e21 [(.ref b), (.ref c)] []  rfl (co3_1_1 l Z a0 hw b c  h0 A_b A_c) (lenOf pd_0 rfl) 0 (Nat.le_of_eq rfl) (by decide) (by decide) (by decide) (by decide) (by rw [hml]; rfl) (hb hby d2_44) 47 rfl (pu_cont fun T23 X22 e24 => ?_)
          show Go p_ e_ below _ T23 (mkF m_ 47 #[.val (.ref a), .val (.ref o), .val (.ref o)] [(.int (1 : Int32))])
          refine g_if_eq X22 hx (hb hby d2_47) 54 50 (by decide) rfl rfl (fun q47 => ?_) (fun q47 => ?_)
          · exact absurd q47 (by decide)
          · refine g_iconst X22 hx (1 : Int32) rfl (hb hby d2_50) 51 rfl ?_
            refine g_goto X22 hx (hb hby d2_51) 55 (by decide) rfl ?_
            exact g_retz X22 hx hret hlk (by decide) (by decide) (hb hby d2_55) ⟨congrArg (fun z => some (Value.int z)) (by decide), e24, rfl⟩
  · refine g_iconst X0 hx (1 : Int32) rfl (hb hby d2_5) 6 rfl ?_
    exact g_retz X0 hx hret hlk (by decide) (by decide) (hb hby d2_6) ⟨congrArg (fun z => some (Value.int z)) (by decide), e0, rfl⟩
theorem ef3_2_0 (m_ : MethodId) (b1 : Addr) (b2 : Addr)  : entryFrame m_ #[(.ref b1), (.ref b2)] 3 = mkF m_ 0 #[.val (.ref b1), .val (.ref b2), .unset] [] := by first | (simp [entryFrame, mkF, argsToLocals, Value.category]; done) | rfl
set_option maxRecDepth 65536 in
set_option maxHeartbeats 40000000 in
theorem co3_2_0 (l : Launch) (Z : State) (a0 : Array Value) (hw : ∀ d ∈ tables_1, d.before a0 Z = true) (b1 : Addr) (b2 : Addr) (h0 : Heap) (A_1 : AV Z h0 b1 .byte [(.int (104 : Int32)), (.int (116 : Int32)), (.int (116 : Int32)), (.int (112 : Int32))]) (A_2 : AV Z h0 b2 .byte [(.int (112 : Int32)), (.int (117 : Int32)), (.int (108 : Int32)), (.int (115 : Int32)), (.int (97 : Int32)), (.int (114 : Int32))]) : Co l (⟨"java/lang/StringLatin1", "equals", "([B[B)Z"⟩ : MethodName) jdk_43_method_13_code 3 (some .boolean) [] ({ frames := 0, cells := 0, slots := 0, locals := 0 } : Room) Z h0 #[(.ref b1), (.ref b2)] (Pu h0 (some (.int ((0 : Int32) )))) := by
  refine Co.of (plainFor_of_name pn_0) ?_
  intro p_ e_ s_ m_ below meth c_ T0 X0 hx hby hml hown hnm hret hlk hZ e0
  refine Go.cast (ef3_2_0 m_ b1 b2 ) ?_
  refine g_aloadN X0 hx rfl rfl (hb hby d3_0) 1 rfl ?_
  refine g_arraylength X0 hx hZ e0 A_1 (4 : Int32) rfl (hb hby d3_1) 2 rfl ?_
  refine g_aloadN X0 hx rfl rfl (hb hby d3_2) 3 rfl ?_
  refine g_arraylength X0 hx hZ e0 A_2 (6 : Int32) rfl (hb hby d3_3) 4 rfl ?_
  refine g_icmp_ne X0 hx (hb hby d3_4) 34 7 (by decide) rfl rfl (fun q1 => ?_) (fun q1 => ?_)
  · refine g_iconst X0 hx (0 : Int32) rfl (hb hby d3_34) 35 rfl ?_
    exact g_retz X0 hx hret hlk (by decide) (by decide) (hb hby d3_35) ⟨congrArg (fun z => some (Value.int z)) (by decide), e0, rfl⟩
  · exact absurd q1 (by decide)
theorem ef2_2_0 (m_ : MethodId) (a : Addr) (o : Addr)  : entryFrame m_ #[(.ref a), (.ref o)] 3 = mkF m_ 0 #[.val (.ref a), .val (.ref o), .unset] [] := by first | (simp [entryFrame, mkF, argsToLocals, Value.category]; done) | rfl
set_option maxRecDepth 65536 in
set_option maxHeartbeats 40000000 in
theorem co2_2_0 (l : Launch) (Z : State) (a0 : Array Value) (hw : ∀ d ∈ tables_1, d.before a0 Z = true) (a : Addr) (o : Addr) (b : Addr) (c : Addr) (cs : Int32) (h0 : Heap) (E_a : Exa Z h0 a "java/lang/String") (F_coder : Fld Z h0 a "java/lang/String" "coder" "B" (.int (0 : Int32))) (F_value : Fld Z h0 a "java/lang/String" "value" "[B" (.ref b)) (A_b : AV Z h0 b .byte [(.int (104 : Int32)), (.int (116 : Int32)), (.int (116 : Int32)), (.int (112 : Int32))]) (E_o : Exa Z h0 o "java/lang/String") (G_coder : Fld Z h0 o "java/lang/String" "coder" "B" (.int (0 : Int32))) (G_value : Fld Z h0 o "java/lang/String" "value" "[B" (.ref c)) (A_c : AV Z h0 c .byte [(.int (112 : Int32)), (.int (117 : Int32)), (.int (108 : Int32)), (.int (115 : Int32)), (.int (97 : Int32)), (.int (114 : Int32))]) (S_cs : Sta Z h0 "java/lang/String" "COMPACT_STRINGS" "Z" (.int cs)) (hcs : ¬ cs = (0 : Int32)) : Co l (⟨"java/lang/String", "equals", "(Ljava/lang/Object;)Z"⟩ : MethodName) jdk_42_method_66_code 3 (some .boolean) [] ({ frames := 1, cells := 0, slots := 0, locals := 14 } : Room) Z h0 #[(.ref a), (.ref o)] (Pu h0 (some (.int ((0 : Int32) )))) := by
  refine Co.of (plainFor_of_name pn_1) ?_
  intro p_ e_ s_ m_ below meth c_ T0 X0 hx hby hml hown hnm hret hlk hZ e0
  refine Go.cast (ef2_2_0 m_ a o ) ?_
  refine g_aloadN X0 hx rfl rfl (hb hby d2_0) 1 rfl ?_
  refine g_aloadN X0 hx rfl rfl (hb hby d2_1) 2 rfl ?_
  refine g_acmp_ne X0 hx rfl rfl (hb hby d2_2) 7 5 (by decide) rfl rfl (fun q2 => ?_) (fun q2 => ?_)
  · refine g_aloadN X0 hx rfl rfl (hb hby d2_7) 8 rfl ?_
    refine g_instYes X0 hx hZ hown (wd hw 23 rfl) (Ins.self E_o) e0 (hb hby d2_8) 11 rfl (fun T1 X2 e3 => ?_)
    show Go p_ e_ below _ T1 (mkF m_ 11 #[.val (.ref a), .val (.ref o), .unset] [(.int (1 : Int32))])
    refine g_if_eq X2 hx (hb hby d2_11) 54 14 (by decide) rfl rfl (fun q11 => ?_) (fun q11 => ?_)
    · exact absurd q11 (by decide)
    · refine g_aloadN X2 hx rfl rfl (hb hby d2_14) 15 rfl ?_
      refine g_checkcast X2 hx hZ hown (wd hw 23 rfl) (Ins.self E_o) e3 (hb hby d2_15) 18 rfl (fun T4 X5 e6 => ?_)
      show Go p_ e_ below _ T4 (mkF m_ 18 #[.val (.ref a), .val (.ref o), .unset] [(.ref o)])
      refine g_astoreN X5 hx #[.val (.ref a), .val (.ref o), .val (.ref o)] rfl rfl (hb hby d2_18) 19 rfl ?_
      refine g_getstatic X5 hx hZ hown (host := "") (Or.inl (wd hw 25 rfl)) Via.refl S_cs e6 (hb hby d2_19) 22 rfl (fun T7 X8 e9 => ?_)
      show Go p_ e_ below _ T7 (mkF m_ 22 #[.val (.ref a), .val (.ref o), .val (.ref o)] [(.int cs)])
      refine g_if_eq X8 hx (hb hby d2_22) 36 25 (by decide) rfl rfl (fun q22 => ?_) (fun q22 => ?_)
      · exact absurd q22 hcs
      · refine g_aloadN X8 hx rfl rfl (hb hby d2_25) 26 rfl ?_
        refine g_getfield X8 hx hZ hown (host := "") (Or.inl (wd hw 26 rfl)) Via.refl F_coder e9 (hb hby d2_26) 29 rfl (fun T10 X11 e12 => ?_)
        show Go p_ e_ below _ T10 (mkF m_ 29 #[.val (.ref a), .val (.ref o), .val (.ref o)] [(.int (0 : Int32))])
        refine g_aloadN X11 hx rfl rfl (hb hby d2_29) 30 rfl ?_
        refine g_getfield X11 hx hZ hown (host := "") (Or.inl (wd hw 26 rfl)) Via.refl G_coder e12 (hb hby d2_30) 33 rfl (fun T13 X14 e15 => ?_)
        show Go p_ e_ below _ T13 (mkF m_ 33 #[.val (.ref a), .val (.ref o), .val (.ref o)] [(.int (0 : Int32)), (.int (0 : Int32))])
        refine g_icmp_ne X14 hx (hb hby d2_33) 54 36 (by decide) rfl rfl (fun q33 => ?_) (fun q33 => ?_)
        · exact absurd rfl q33
        · refine g_aloadN X14 hx rfl rfl (hb hby d2_36) 37 rfl ?_
          refine g_getfield X14 hx hZ hown (host := "") (Or.inl (wd hw 27 rfl)) Via.refl F_value e15 (hb hby d2_37) 40 rfl (fun T16 X17 e18 => ?_)
          show Go p_ e_ below _ T16 (mkF m_ 40 #[.val (.ref a), .val (.ref o), .val (.ref o)] [(.ref b)])
          refine g_aloadN X17 hx rfl rfl (hb hby d2_40) 41 rfl ?_
          refine g_getfield X17 hx hZ hown (host := "") (Or.inl (wd hw 27 rfl)) Via.refl G_value e18 (hb hby d2_41) 44 rfl (fun T19 X20 e21 => ?_)
          show Go p_ e_ below _ T19 (mkF m_ 44 #[.val (.ref a), .val (.ref o), .val (.ref o)] [(.ref c), (.ref b)])
          refine g_callS X20 hx hZ hown (wd hw 28 rfl) (wd hw 29 rfl) (wd hw 30 rfl) (wd hw 31 rfl) (by decide) e21 [(.ref b), (.ref c)] []  rfl (co3_2_0 l Z a0 hw b c  h0 A_b A_c) (lenOf pd_0 rfl) 0 (Nat.le_of_eq rfl) (by decide) (by decide) (by decide) (by decide) (by rw [hml]; rfl) (hb hby d2_44) 47 rfl (pu_cont fun T23 X22 e24 => ?_)
          show Go p_ e_ below _ T23 (mkF m_ 47 #[.val (.ref a), .val (.ref o), .val (.ref o)] [(.int (0 : Int32))])
          refine g_if_eq X22 hx (hb hby d2_47) 54 50 (by decide) rfl rfl (fun q47 => ?_) (fun q47 => ?_)
          · refine g_iconst X22 hx (0 : Int32) rfl (hb hby d2_54) 55 rfl ?_
            exact g_retz X22 hx hret hlk (by decide) (by decide) (hb hby d2_55) ⟨congrArg (fun z => some (Value.int z)) (by decide), e24, rfl⟩
          · exact absurd rfl q47
  · exact absurd q2 (own_str_ne F_value A_b G_value A_c (by simp))
theorem ef3_2_1 (m_ : MethodId) (b1 : Addr) (b2 : Addr)  : entryFrame m_ #[(.ref b1), (.ref b2)] 3 = mkF m_ 0 #[.val (.ref b1), .val (.ref b2), .unset] [] := by first | (simp [entryFrame, mkF, argsToLocals, Value.category]; done) | rfl
set_option maxRecDepth 65536 in
set_option maxHeartbeats 40000000 in
theorem co3_2_1 (l : Launch) (Z : State) (a0 : Array Value) (hw : ∀ d ∈ tables_1, d.before a0 Z = true) (b1 : Addr) (b2 : Addr) (h0 : Heap) (A_1 : AV Z h0 b1 .byte [(.int (104 : Int32)), (.int (116 : Int32)), (.int (116 : Int32)), (.int (112 : Int32))]) (A_2 : AV Z h0 b2 .byte [(.int (112 : Int32)), (.int (117 : Int32)), (.int (108 : Int32)), (.int (115 : Int32)), (.int (97 : Int32)), (.int (114 : Int32)), (.int (43 : Int32)), (.int (115 : Int32)), (.int (115 : Int32)), (.int (108 : Int32))]) : Co l (⟨"java/lang/StringLatin1", "equals", "([B[B)Z"⟩ : MethodName) jdk_43_method_13_code 3 (some .boolean) [] ({ frames := 0, cells := 0, slots := 0, locals := 0 } : Room) Z h0 #[(.ref b1), (.ref b2)] (Pu h0 (some (.int ((0 : Int32) )))) := by
  refine Co.of (plainFor_of_name pn_0) ?_
  intro p_ e_ s_ m_ below meth c_ T0 X0 hx hby hml hown hnm hret hlk hZ e0
  refine Go.cast (ef3_2_1 m_ b1 b2 ) ?_
  refine g_aloadN X0 hx rfl rfl (hb hby d3_0) 1 rfl ?_
  refine g_arraylength X0 hx hZ e0 A_1 (4 : Int32) rfl (hb hby d3_1) 2 rfl ?_
  refine g_aloadN X0 hx rfl rfl (hb hby d3_2) 3 rfl ?_
  refine g_arraylength X0 hx hZ e0 A_2 (10 : Int32) rfl (hb hby d3_3) 4 rfl ?_
  refine g_icmp_ne X0 hx (hb hby d3_4) 34 7 (by decide) rfl rfl (fun q1 => ?_) (fun q1 => ?_)
  · refine g_iconst X0 hx (0 : Int32) rfl (hb hby d3_34) 35 rfl ?_
    exact g_retz X0 hx hret hlk (by decide) (by decide) (hb hby d3_35) ⟨congrArg (fun z => some (Value.int z)) (by decide), e0, rfl⟩
  · exact absurd q1 (by decide)
theorem ef2_2_1 (m_ : MethodId) (a : Addr) (o : Addr)  : entryFrame m_ #[(.ref a), (.ref o)] 3 = mkF m_ 0 #[.val (.ref a), .val (.ref o), .unset] [] := by first | (simp [entryFrame, mkF, argsToLocals, Value.category]; done) | rfl
set_option maxRecDepth 65536 in
set_option maxHeartbeats 40000000 in
theorem co2_2_1 (l : Launch) (Z : State) (a0 : Array Value) (hw : ∀ d ∈ tables_1, d.before a0 Z = true) (a : Addr) (o : Addr) (b : Addr) (c : Addr) (cs : Int32) (h0 : Heap) (E_a : Exa Z h0 a "java/lang/String") (F_coder : Fld Z h0 a "java/lang/String" "coder" "B" (.int (0 : Int32))) (F_value : Fld Z h0 a "java/lang/String" "value" "[B" (.ref b)) (A_b : AV Z h0 b .byte [(.int (104 : Int32)), (.int (116 : Int32)), (.int (116 : Int32)), (.int (112 : Int32))]) (E_o : Exa Z h0 o "java/lang/String") (G_coder : Fld Z h0 o "java/lang/String" "coder" "B" (.int (0 : Int32))) (G_value : Fld Z h0 o "java/lang/String" "value" "[B" (.ref c)) (A_c : AV Z h0 c .byte [(.int (112 : Int32)), (.int (117 : Int32)), (.int (108 : Int32)), (.int (115 : Int32)), (.int (97 : Int32)), (.int (114 : Int32)), (.int (43 : Int32)), (.int (115 : Int32)), (.int (115 : Int32)), (.int (108 : Int32))]) (S_cs : Sta Z h0 "java/lang/String" "COMPACT_STRINGS" "Z" (.int cs)) (hcs : ¬ cs = (0 : Int32)) : Co l (⟨"java/lang/String", "equals", "(Ljava/lang/Object;)Z"⟩ : MethodName) jdk_42_method_66_code 3 (some .boolean) [] ({ frames := 1, cells := 0, slots := 0, locals := 14 } : Room) Z h0 #[(.ref a), (.ref o)] (Pu h0 (some (.int ((0 : Int32) )))) := by
  refine Co.of (plainFor_of_name pn_1) ?_
  intro p_ e_ s_ m_ below meth c_ T0 X0 hx hby hml hown hnm hret hlk hZ e0
  refine Go.cast (ef2_2_1 m_ a o ) ?_
  refine g_aloadN X0 hx rfl rfl (hb hby d2_0) 1 rfl ?_
  refine g_aloadN X0 hx rfl rfl (hb hby d2_1) 2 rfl ?_
  refine g_acmp_ne X0 hx rfl rfl (hb hby d2_2) 7 5 (by decide) rfl rfl (fun q2 => ?_) (fun q2 => ?_)
  · refine g_aloadN X0 hx rfl rfl (hb hby d2_7) 8 rfl ?_
    refine g_instYes X0 hx hZ hown (wd hw 23 rfl) (Ins.self E_o) e0 (hb hby d2_8) 11 rfl (fun T1 X2 e3 => ?_)
    show Go p_ e_ below _ T1 (mkF m_ 11 #[.val (.ref a), .val (.ref o), .unset] [(.int (1 : Int32))])
    refine g_if_eq X2 hx (hb hby d2_11) 54 14 (by decide) rfl rfl (fun q11 => ?_) (fun q11 => ?_)
    · exact absurd q11 (by decide)
    · refine g_aloadN X2 hx rfl rfl (hb hby d2_14) 15 rfl ?_
      refine g_checkcast X2 hx hZ hown (wd hw 23 rfl) (Ins.self E_o) e3 (hb hby d2_15) 18 rfl (fun T4 X5 e6 => ?_)
      show Go p_ e_ below _ T4 (mkF m_ 18 #[.val (.ref a), .val (.ref o), .unset] [(.ref o)])
      refine g_astoreN X5 hx #[.val (.ref a), .val (.ref o), .val (.ref o)] rfl rfl (hb hby d2_18) 19 rfl ?_
      refine g_getstatic X5 hx hZ hown (host := "") (Or.inl (wd hw 25 rfl)) Via.refl S_cs e6 (hb hby d2_19) 22 rfl (fun T7 X8 e9 => ?_)
      show Go p_ e_ below _ T7 (mkF m_ 22 #[.val (.ref a), .val (.ref o), .val (.ref o)] [(.int cs)])
      refine g_if_eq X8 hx (hb hby d2_22) 36 25 (by decide) rfl rfl (fun q22 => ?_) (fun q22 => ?_)
      · exact absurd q22 hcs
      · refine g_aloadN X8 hx rfl rfl (hb hby d2_25) 26 rfl ?_
        refine g_getfield X8 hx hZ hown (host := "") (Or.inl (wd hw 26 rfl)) Via.refl F_coder e9 (hb hby d2_26) 29 rfl (fun T10 X11 e12 => ?_)
        show Go p_ e_ below _ T10 (mkF m_ 29 #[.val (.ref a), .val (.ref o), .val (.ref o)] [(.int (0 : Int32))])
        refine g_aloadN X11 hx rfl rfl (hb hby d2_29) 30 rfl ?_
        refine g_getfield X11 hx hZ hown (host := "") (Or.inl (wd hw 26 rfl)) Via.refl G_coder e12 (hb hby d2_30) 33 rfl (fun T13 X14 e15 => ?_)
        show Go p_ e_ below _ T13 (mkF m_ 33 #[.val (.ref a), .val (.ref o), .val (.ref o)] [(.int (0 : Int32)), (.int (0 : Int32))])
        refine g_icmp_ne X14 hx (hb hby d2_33) 54 36 (by decide) rfl rfl (fun q33 => ?_) (fun q33 => ?_)
        · exact absurd rfl q33
        · refine g_aloadN X14 hx rfl rfl (hb hby d2_36) 37 rfl ?_
          refine g_getfield X14 hx hZ hown (host := "") (Or.inl (wd hw 27 rfl)) Via.refl F_value e15 (hb hby d2_37) 40 rfl (fun T16 X17 e18 => ?_)
          show Go p_ e_ below _ T16 (mkF m_ 40 #[.val (.ref a), .val (.ref o), .val (.ref o)] [(.ref b)])
          refine g_aloadN X17 hx rfl rfl (hb hby d2_40) 41 rfl ?_
          refine g_getfield X17 hx hZ hown (host := "") (Or.inl (wd hw 27 rfl)) Via.refl G_value e18 (hb hby d2_41) 44 rfl (fun T19 X20 e21 => ?_)
          show Go p_ e_ below _ T19 (mkF m_ 44 #[.val (.ref a), .val (.ref o), .val (.ref o)] [(.ref c), (.ref b)])
          refine g_callS X20 hx hZ hown (wd hw 28 rfl) (wd hw 29 rfl) (wd hw 30 rfl) (wd hw 31 rfl) (by decide) e21 [(.ref b), (.ref c)] []  rfl (co3_2_1 l Z a0 hw b c  h0 A_b A_c) (lenOf pd_0 rfl) 0 (Nat.le_of_eq rfl) (by decide) (by decide) (by decide) (by decide) (by rw [hml]; rfl) (hb hby d2_44) 47 rfl (pu_cont fun T23 X22 e24 => ?_)
          show Go p_ e_ below _ T23 (mkF m_ 47 #[.val (.ref a), .val (.ref o), .val (.ref o)] [(.int (0 : Int32))])
          refine g_if_eq X22 hx (hb hby d2_47) 54 50 (by decide) rfl rfl (fun q47 => ?_) (fun q47 => ?_)
          · refine g_iconst X22 hx (0 : Int32) rfl (hb hby d2_54) 55 rfl ?_
            exact g_retz X22 hx hret hlk (by decide) (by decide) (hb hby d2_55) ⟨congrArg (fun z => some (Value.int z)) (by decide), e24, rfl⟩
          · exact absurd rfl q47
  · exact absurd q2 (own_str_ne F_value A_b G_value A_c (by simp))
theorem ef3_3_0 (m_ : MethodId) (b1 : Addr) (b2 : Addr)  : entryFrame m_ #[(.ref b1), (.ref b2)] 3 = mkF m_ 0 #[.val (.ref b1), .val (.ref b2), .unset] [] := by first | (simp [entryFrame, mkF, argsToLocals, Value.category]; done) | rfl
set_option maxRecDepth 65536 in
set_option maxHeartbeats 40000000 in
theorem co3_3_0 (l : Launch) (Z : State) (a0 : Array Value) (hw : ∀ d ∈ tables_1, d.before a0 Z = true) (b1 : Addr) (b2 : Addr) (h0 : Heap) (A_1 : AV Z h0 b1 .byte [(.int (104 : Int32)), (.int (116 : Int32)), (.int (116 : Int32)), (.int (112 : Int32)), (.int (115 : Int32))]) (A_2 : AV Z h0 b2 .byte [(.int (112 : Int32)), (.int (117 : Int32)), (.int (108 : Int32)), (.int (115 : Int32)), (.int (97 : Int32)), (.int (114 : Int32))]) : Co l (⟨"java/lang/StringLatin1", "equals", "([B[B)Z"⟩ : MethodName) jdk_43_method_13_code 3 (some .boolean) [] ({ frames := 0, cells := 0, slots := 0, locals := 0 } : Room) Z h0 #[(.ref b1), (.ref b2)] (Pu h0 (some (.int ((0 : Int32) )))) := by
  refine Co.of (plainFor_of_name pn_0) ?_
  intro p_ e_ s_ m_ below meth c_ T0 X0 hx hby hml hown hnm hret hlk hZ e0
  refine Go.cast (ef3_3_0 m_ b1 b2 ) ?_
  refine g_aloadN X0 hx rfl rfl (hb hby d3_0) 1 rfl ?_
  refine g_arraylength X0 hx hZ e0 A_1 (5 : Int32) rfl (hb hby d3_1) 2 rfl ?_
  refine g_aloadN X0 hx rfl rfl (hb hby d3_2) 3 rfl ?_
  refine g_arraylength X0 hx hZ e0 A_2 (6 : Int32) rfl (hb hby d3_3) 4 rfl ?_
  refine g_icmp_ne X0 hx (hb hby d3_4) 34 7 (by decide) rfl rfl (fun q1 => ?_) (fun q1 => ?_)
  · refine g_iconst X0 hx (0 : Int32) rfl (hb hby d3_34) 35 rfl ?_
    exact g_retz X0 hx hret hlk (by decide) (by decide) (hb hby d3_35) ⟨congrArg (fun z => some (Value.int z)) (by decide), e0, rfl⟩
  · exact absurd q1 (by decide)
theorem ef2_3_0 (m_ : MethodId) (a : Addr) (o : Addr)  : entryFrame m_ #[(.ref a), (.ref o)] 3 = mkF m_ 0 #[.val (.ref a), .val (.ref o), .unset] [] := by first | (simp [entryFrame, mkF, argsToLocals, Value.category]; done) | rfl
set_option maxRecDepth 65536 in
set_option maxHeartbeats 40000000 in
theorem co2_3_0 (l : Launch) (Z : State) (a0 : Array Value) (hw : ∀ d ∈ tables_1, d.before a0 Z = true) (a : Addr) (o : Addr) (b : Addr) (c : Addr) (cs : Int32) (h0 : Heap) (E_a : Exa Z h0 a "java/lang/String") (F_coder : Fld Z h0 a "java/lang/String" "coder" "B" (.int (0 : Int32))) (F_value : Fld Z h0 a "java/lang/String" "value" "[B" (.ref b)) (A_b : AV Z h0 b .byte [(.int (104 : Int32)), (.int (116 : Int32)), (.int (116 : Int32)), (.int (112 : Int32)), (.int (115 : Int32))]) (E_o : Exa Z h0 o "java/lang/String") (G_coder : Fld Z h0 o "java/lang/String" "coder" "B" (.int (0 : Int32))) (G_value : Fld Z h0 o "java/lang/String" "value" "[B" (.ref c)) (A_c : AV Z h0 c .byte [(.int (112 : Int32)), (.int (117 : Int32)), (.int (108 : Int32)), (.int (115 : Int32)), (.int (97 : Int32)), (.int (114 : Int32))]) (S_cs : Sta Z h0 "java/lang/String" "COMPACT_STRINGS" "Z" (.int cs)) (hcs : ¬ cs = (0 : Int32)) : Co l (⟨"java/lang/String", "equals", "(Ljava/lang/Object;)Z"⟩ : MethodName) jdk_42_method_66_code 3 (some .boolean) [] ({ frames := 1, cells := 0, slots := 0, locals := 14 } : Room) Z h0 #[(.ref a), (.ref o)] (Pu h0 (some (.int ((0 : Int32) )))) := by
  refine Co.of (plainFor_of_name pn_1) ?_
  intro p_ e_ s_ m_ below meth c_ T0 X0 hx hby hml hown hnm hret hlk hZ e0
  refine Go.cast (ef2_3_0 m_ a o ) ?_
  refine g_aloadN X0 hx rfl rfl (hb hby d2_0) 1 rfl ?_
  refine g_aloadN X0 hx rfl rfl (hb hby d2_1) 2 rfl ?_
  refine g_acmp_ne X0 hx rfl rfl (hb hby d2_2) 7 5 (by decide) rfl rfl (fun q2 => ?_) (fun q2 => ?_)
  · refine g_aloadN X0 hx rfl rfl (hb hby d2_7) 8 rfl ?_
    refine g_instYes X0 hx hZ hown (wd hw 23 rfl) (Ins.self E_o) e0 (hb hby d2_8) 11 rfl (fun T1 X2 e3 => ?_)
    show Go p_ e_ below _ T1 (mkF m_ 11 #[.val (.ref a), .val (.ref o), .unset] [(.int (1 : Int32))])
    refine g_if_eq X2 hx (hb hby d2_11) 54 14 (by decide) rfl rfl (fun q11 => ?_) (fun q11 => ?_)
    · exact absurd q11 (by decide)
    · refine g_aloadN X2 hx rfl rfl (hb hby d2_14) 15 rfl ?_
      refine g_checkcast X2 hx hZ hown (wd hw 23 rfl) (Ins.self E_o) e3 (hb hby d2_15) 18 rfl (fun T4 X5 e6 => ?_)
      show Go p_ e_ below _ T4 (mkF m_ 18 #[.val (.ref a), .val (.ref o), .unset] [(.ref o)])
      refine g_astoreN X5 hx #[.val (.ref a), .val (.ref o), .val (.ref o)] rfl rfl (hb hby d2_18) 19 rfl ?_
      refine g_getstatic X5 hx hZ hown (host := "") (Or.inl (wd hw 25 rfl)) Via.refl S_cs e6 (hb hby d2_19) 22 rfl (fun T7 X8 e9 => ?_)
      show Go p_ e_ below _ T7 (mkF m_ 22 #[.val (.ref a), .val (.ref o), .val (.ref o)] [(.int cs)])
      refine g_if_eq X8 hx (hb hby d2_22) 36 25 (by decide) rfl rfl (fun q22 => ?_) (fun q22 => ?_)
      · exact absurd q22 hcs
      · refine g_aloadN X8 hx rfl rfl (hb hby d2_25) 26 rfl ?_
        refine g_getfield X8 hx hZ hown (host := "") (Or.inl (wd hw 26 rfl)) Via.refl F_coder e9 (hb hby d2_26) 29 rfl (fun T10 X11 e12 => ?_)
        show Go p_ e_ below _ T10 (mkF m_ 29 #[.val (.ref a), .val (.ref o), .val (.ref o)] [(.int (0 : Int32))])
        refine g_aloadN X11 hx rfl rfl (hb hby d2_29) 30 rfl ?_
        refine g_getfield X11 hx hZ hown (host := "") (Or.inl (wd hw 26 rfl)) Via.refl G_coder e12 (hb hby d2_30) 33 rfl (fun T13 X14 e15 => ?_)
        show Go p_ e_ below _ T13 (mkF m_ 33 #[.val (.ref a), .val (.ref o), .val (.ref o)] [(.int (0 : Int32)), (.int (0 : Int32))])
        refine g_icmp_ne X14 hx (hb hby d2_33) 54 36 (by decide) rfl rfl (fun q33 => ?_) (fun q33 => ?_)
        · exact absurd rfl q33
        · refine g_aloadN X14 hx rfl rfl (hb hby d2_36) 37 rfl ?_
          refine g_getfield X14 hx hZ hown (host := "") (Or.inl (wd hw 27 rfl)) Via.refl F_value e15 (hb hby d2_37) 40 rfl (fun T16 X17 e18 => ?_)
          show Go p_ e_ below _ T16 (mkF m_ 40 #[.val (.ref a), .val (.ref o), .val (.ref o)] [(.ref b)])
          refine g_aloadN X17 hx rfl rfl (hb hby d2_40) 41 rfl ?_
          refine g_getfield X17 hx hZ hown (host := "") (Or.inl (wd hw 27 rfl)) Via.refl G_value e18 (hb hby d2_41) 44 rfl (fun T19 X20 e21 => ?_)
          show Go p_ e_ below _ T19 (mkF m_ 44 #[.val (.ref a), .val (.ref o), .val (.ref o)] [(.ref c), (.ref b)])
          refine g_callS X20 hx hZ hown (wd hw 28 rfl) (wd hw 29 rfl) (wd hw 30 rfl) (wd hw 31 rfl) (by decide) e21 [(.ref b), (.ref c)] []  rfl (co3_3_0 l Z a0 hw b c  h0 A_b A_c) (lenOf pd_0 rfl) 0 (Nat.le_of_eq rfl) (by decide) (by decide) (by decide) (by decide) (by rw [hml]; rfl) (hb hby d2_44) 47 rfl (pu_cont fun T23 X22 e24 => ?_)
          show Go p_ e_ below _ T23 (mkF m_ 47 #[.val (.ref a), .val (.ref o), .val (.ref o)] [(.int (0 : Int32))])
          refine g_if_eq X22 hx (hb hby d2_47) 54 50 (by decide) rfl rfl (fun q47 => ?_) (fun q47 => ?_)
          · refine g_iconst X22 hx (0 : Int32) rfl (hb hby d2_54) 55 rfl ?_
            exact g_retz X22 hx hret hlk (by decide) (by decide) (hb hby d2_55) ⟨congrArg (fun z => some (Value.int z)) (by decide), e24, rfl⟩
          · exact absurd rfl q47
  · exact absurd q2 (own_str_ne F_value A_b G_value A_c (by simp))
theorem ef3_3_1 (m_ : MethodId) (b1 : Addr) (b2 : Addr)  : entryFrame m_ #[(.ref b1), (.ref b2)] 3 = mkF m_ 0 #[.val (.ref b1), .val (.ref b2), .unset] [] := by first | (simp [entryFrame, mkF, argsToLocals, Value.category]; done) | rfl
set_option maxRecDepth 65536 in
set_option maxHeartbeats 40000000 in
theorem co3_3_1 (l : Launch) (Z : State) (a0 : Array Value) (hw : ∀ d ∈ tables_1, d.before a0 Z = true) (b1 : Addr) (b2 : Addr) (h0 : Heap) (A_1 : AV Z h0 b1 .byte [(.int (104 : Int32)), (.int (116 : Int32)), (.int (116 : Int32)), (.int (112 : Int32)), (.int (115 : Int32))]) (A_2 : AV Z h0 b2 .byte [(.int (112 : Int32)), (.int (117 : Int32)), (.int (108 : Int32)), (.int (115 : Int32)), (.int (97 : Int32)), (.int (114 : Int32)), (.int (43 : Int32)), (.int (115 : Int32)), (.int (115 : Int32)), (.int (108 : Int32))]) : Co l (⟨"java/lang/StringLatin1", "equals", "([B[B)Z"⟩ : MethodName) jdk_43_method_13_code 3 (some .boolean) [] ({ frames := 0, cells := 0, slots := 0, locals := 0 } : Room) Z h0 #[(.ref b1), (.ref b2)] (Pu h0 (some (.int ((0 : Int32) )))) := by
  refine Co.of (plainFor_of_name pn_0) ?_
  intro p_ e_ s_ m_ below meth c_ T0 X0 hx hby hml hown hnm hret hlk hZ e0
  refine Go.cast (ef3_3_1 m_ b1 b2 ) ?_
  refine g_aloadN X0 hx rfl rfl (hb hby d3_0) 1 rfl ?_
  refine g_arraylength X0 hx hZ e0 A_1 (5 : Int32) rfl (hb hby d3_1) 2 rfl ?_
  refine g_aloadN X0 hx rfl rfl (hb hby d3_2) 3 rfl ?_
  refine g_arraylength X0 hx hZ e0 A_2 (10 : Int32) rfl (hb hby d3_3) 4 rfl ?_
  refine g_icmp_ne X0 hx (hb hby d3_4) 34 7 (by decide) rfl rfl (fun q1 => ?_) (fun q1 => ?_)
  · refine g_iconst X0 hx (0 : Int32) rfl (hb hby d3_34) 35 rfl ?_
    exact g_retz X0 hx hret hlk (by decide) (by decide) (hb hby d3_35) ⟨congrArg (fun z => some (Value.int z)) (by decide), e0, rfl⟩
  · exact absurd q1 (by decide)
theorem ef2_3_1 (m_ : MethodId) (a : Addr) (o : Addr)  : entryFrame m_ #[(.ref a), (.ref o)] 3 = mkF m_ 0 #[.val (.ref a), .val (.ref o), .unset] [] := by first | (simp [entryFrame, mkF, argsToLocals, Value.category]; done) | rfl
set_option maxRecDepth 65536 in
set_option maxHeartbeats 40000000 in
theorem co2_3_1 (l : Launch) (Z : State) (a0 : Array Value) (hw : ∀ d ∈ tables_1, d.before a0 Z = true) (a : Addr) (o : Addr) (b : Addr) (c : Addr) (cs : Int32) (h0 : Heap) (E_a : Exa Z h0 a "java/lang/String") (F_coder : Fld Z h0 a "java/lang/String" "coder" "B" (.int (0 : Int32))) (F_value : Fld Z h0 a "java/lang/String" "value" "[B" (.ref b)) (A_b : AV Z h0 b .byte [(.int (104 : Int32)), (.int (116 : Int32)), (.int (116 : Int32)), (.int (112 : Int32)), (.int (115 : Int32))]) (E_o : Exa Z h0 o "java/lang/String") (G_coder : Fld Z h0 o "java/lang/String" "coder" "B" (.int (0 : Int32))) (G_value : Fld Z h0 o "java/lang/String" "value" "[B" (.ref c)) (A_c : AV Z h0 c .byte [(.int (112 : Int32)), (.int (117 : Int32)), (.int (108 : Int32)), (.int (115 : Int32)), (.int (97 : Int32)), (.int (114 : Int32)), (.int (43 : Int32)), (.int (115 : Int32)), (.int (115 : Int32)), (.int (108 : Int32))]) (S_cs : Sta Z h0 "java/lang/String" "COMPACT_STRINGS" "Z" (.int cs)) (hcs : ¬ cs = (0 : Int32)) : Co l (⟨"java/lang/String", "equals", "(Ljava/lang/Object;)Z"⟩ : MethodName) jdk_42_method_66_code 3 (some .boolean) [] ({ frames := 1, cells := 0, slots := 0, locals := 14 } : Room) Z h0 #[(.ref a), (.ref o)] (Pu h0 (some (.int ((0 : Int32) )))) := by
  refine Co.of (plainFor_of_name pn_1) ?_
  intro p_ e_ s_ m_ below meth c_ T0 X0 hx hby hml hown hnm hret hlk hZ e0
  refine Go.cast (ef2_3_1 m_ a o ) ?_
  refine g_aloadN X0 hx rfl rfl (hb hby d2_0) 1 rfl ?_
  refine g_aloadN X0 hx rfl rfl (hb hby d2_1) 2 rfl ?_
  refine g_acmp_ne X0 hx rfl rfl (hb hby d2_2) 7 5 (by decide) rfl rfl (fun q2 => ?_) (fun q2 => ?_)
  · refine g_aloadN X0 hx rfl rfl (hb hby d2_7) 8 rfl ?_
    refine g_instYes X0 hx hZ hown (wd hw 23 rfl) (Ins.self E_o) e0 (hb hby d2_8) 11 rfl (fun T1 X2 e3 => ?_)
    show Go p_ e_ below _ T1 (mkF m_ 11 #[.val (.ref a), .val (.ref o), .unset] [(.int (1 : Int32))])
    refine g_if_eq X2 hx (hb hby d2_11) 54 14 (by decide) rfl rfl (fun q11 => ?_) (fun q11 => ?_)
    · exact absurd q11 (by decide)
    · refine g_aloadN X2 hx rfl rfl (hb hby d2_14) 15 rfl ?_
      refine g_checkcast X2 hx hZ hown (wd hw 23 rfl) (Ins.self E_o) e3 (hb hby d2_15) 18 rfl (fun T4 X5 e6 => ?_)
      show Go p_ e_ below _ T4 (mkF m_ 18 #[.val (.ref a), .val (.ref o), .unset] [(.ref o)])
      refine g_astoreN X5 hx #[.val (.ref a), .val (.ref o), .val (.ref o)] rfl rfl (hb hby d2_18) 19 rfl ?_
      refine g_getstatic X5 hx hZ hown (host := "") (Or.inl (wd hw 25 rfl)) Via.refl S_cs e6 (hb hby d2_19) 22 rfl (fun T7 X8 e9 => ?_)
      show Go p_ e_ below _ T7 (mkF m_ 22 #[.val (.ref a), .val (.ref o), .val (.ref o)] [(.int cs)])
      refine g_if_eq X8 hx (hb hby d2_22) 36 25 (by decide) rfl rfl (fun q22 => ?_) (fun q22 => ?_)
      · exact absurd q22 hcs
      · refine g_aloadN X8 hx rfl rfl (hb hby d2_25) 26 rfl ?_
        refine g_getfield X8 hx hZ hown (host := "") (Or.inl (wd hw 26 rfl)) Via.refl F_coder e9 (hb hby d2_26) 29 rfl (fun T10 X11 e12 => ?_)
        show Go p_ e_ below _ T10 (mkF m_ 29 #[.val (.ref a), .val (.ref o), .val (.ref o)] [(.int (0 : Int32))])
        refine g_aloadN X11 hx rfl rfl (hb hby d2_29) 30 rfl ?_
        refine g_getfield X11 hx hZ hown (host := "") (Or.inl (wd hw 26 rfl)) Via.refl G_coder e12 (hb hby d2_30) 33 rfl (fun T13 X14 e15 => ?_)
        show Go p_ e_ below _ T13 (mkF m_ 33 #[.val (.ref a), .val (.ref o), .val (.ref o)] [(.int (0 : Int32)), (.int (0 : Int32))])
        refine g_icmp_ne X14 hx (hb hby d2_33) 54 36 (by decide) rfl rfl (fun q33 => ?_) (fun q33 => ?_)
        · exact absurd rfl q33
        · refine g_aloadN X14 hx rfl rfl (hb hby d2_36) 37 rfl ?_
          refine g_getfield X14 hx hZ hown (host := "") (Or.inl (wd hw 27 rfl)) Via.refl F_value e15 (hb hby d2_37) 40 rfl (fun T16 X17 e18 => ?_)
          show Go p_ e_ below _ T16 (mkF m_ 40 #[.val (.ref a), .val (.ref o), .val (.ref o)] [(.ref b)])
          refine g_aloadN X17 hx rfl rfl (hb hby d2_40) 41 rfl ?_
          refine g_getfield X17 hx hZ hown (host := "") (Or.inl (wd hw 27 rfl)) Via.refl G_value e18 (hb hby d2_41) 44 rfl (fun T19 X20 e21 => ?_)
          show Go p_ e_ below _ T19 (mkF m_ 44 #[.val (.ref a), .val (.ref o), .val (.ref o)] [(.ref c), (.ref b)])
          refine g_callS X20 hx hZ hown (wd hw 28 rfl) (wd hw 29 rfl) (wd hw 30 rfl) (wd hw 31 rfl) (by decide) e21 [(.ref b), (.ref c)] []  rfl (co3_3_1 l Z a0 hw b c  h0 A_b A_c) (lenOf pd_0 rfl) 0 (Nat.le_of_eq rfl) (by decide) (by decide) (by decide) (by decide) (by rw [hml]; rfl) (hb hby d2_44) 47 rfl (pu_cont fun T23 X22 e24 => ?_)
          show Go p_ e_ below _ T23 (mkF m_ 47 #[.val (.ref a), .val (.ref o), .val (.ref o)] [(.int (0 : Int32))])
          refine g_if_eq X22 hx (hb hby d2_47) 54 50 (by decide) rfl rfl (fun q47 => ?_) (fun q47 => ?_)
          · refine g_iconst X22 hx (0 : Int32) rfl (hb hby d2_54) 55 rfl ?_
            exact g_retz X22 hx hret hlk (by decide) (by decide) (hb hby d2_55) ⟨congrArg (fun z => some (Value.int z)) (by decide), e24, rfl⟩
          · exact absurd rfl q47
  · exact absurd q2 (own_str_ne F_value A_b G_value A_c (by simp))
theorem ef1 (m_ : MethodId) (a : Addr)  : entryFrame m_ #[(.ref a)] 1 = mkF m_ 0 #[.val (.ref a)] [] := by first | (simp [entryFrame, mkF, argsToLocals, Value.category]; done) | rfl
theorem pn_2 : plainName "com/example/usher/usher/Scheme" = true := by first | (simp [plainName, overriddenIn]; done) | decide +kernel
theorem d1_0 : decode prog_36_method_5_code 0 = .ok (.aload_n 0, 1) := by decide +kernel
theorem d1_1 : decode prog_36_method_5_code 1 = .ok (.getfield 35, 3) := by decide +kernel
theorem d1_4 : decode prog_36_method_5_code 4 = .ok (.areturn, 1) := by decide +kernel
set_option maxRecDepth 65536 in
set_option maxHeartbeats 40000000 in
theorem co1 (l : Launch) (Z : State) (a0 : Array Value) (hw : ∀ d ∈ tables_1, d.before a0 Z = true) (a : Addr) (t : Addr) (h0 : Heap) (F_t : Fld Z h0 a "com/example/usher/usher/Scheme" "text" "Ljava/lang/String;" (.ref t)) : Co l (⟨"com/example/usher/usher/Scheme", "getText", "()Ljava/lang/String;"⟩ : MethodName) prog_36_method_5_code 1 (some (.object "java/lang/String")) [] ({ frames := 0, cells := 0, slots := 0, locals := 0 } : Room) Z h0 #[(.ref a)] (Pu h0 (some (.ref (t )))) := by
  refine Co.of (plainFor_of_name pn_2) ?_
  intro p_ e_ s_ m_ below meth c_ T0 X0 hx hby hml hown hnm hret hlk hZ e0
  refine Go.cast (ef1 m_ a ) ?_
  refine g_aloadN X0 hx rfl rfl (hb hby d1_0) 1 rfl ?_
  refine g_getfield X0 hx hZ hown (host := "") (Or.inl (wd hw 8 rfl)) Via.refl F_t e0 (hb hby d1_1) 4 rfl (fun T1 X2 e3 => ?_)
  show Go p_ e_ below _ T1 (mkF m_ 4 #[.val (.ref a)] [(.ref t)])
  exact g_reta X2 hx rfl rfl hret hlk (by decide) (by decide) (hb hby d1_4) ⟨congrArg (fun z => some (Value.ref z)) rfl, e3, rfl⟩
theorem ef4_0 (m_ : MethodId) (a : Addr)  : entryFrame m_ #[(.ref a)] 1 = mkF m_ 0 #[.val (.ref a)] [] := by first | (simp [entryFrame, mkF, argsToLocals, Value.category]; done) | rfl
theorem d4_0 : decode prog_36_method_6_code 0 = .ok (.aload_n 0, 1) := by decide +kernel
theorem d4_1 : decode prog_36_method_6_code 1 = .ok (.getstatic 3, 3) := by decide +kernel
theorem d4_4 : decode prog_36_method_6_code 4 = .ok (.if_acmp .eq 10, 3) := by decide +kernel
theorem d4_14 : decode prog_36_method_6_code 14 = .ok (.iconst 1, 1) := by decide +kernel
theorem d4_15 : decode prog_36_method_6_code 15 = .ok (.goto 4, 3) := by decide +kernel
theorem d4_19 : decode prog_36_method_6_code 19 = .ok (.ireturn, 1) := by decide +kernel
set_option maxRecDepth 65536 in
set_option maxHeartbeats 40000000 in
theorem co4_0 (l : Launch) (Z : State) (a0 : Array Value) (hw : ∀ d ∈ tables_1, d.before a0 Z = true) (a : Addr) (pl : Addr) (ss : Addr) (h0 : Heap) (S_p : Sta Z h0 "com/example/usher/usher/Scheme" "PULSAR" "Lcom/example/usher/usher/Scheme;" (.ref pl)) (S_s : Sta Z h0 "com/example/usher/usher/Scheme" "PULSAR_SSL" "Lcom/example/usher/usher/Scheme;" (.ref ss)) (h1 : a = pl) : Co l (⟨"com/example/usher/usher/Scheme", "isBinary", "()Z"⟩ : MethodName) prog_36_method_6_code 1 (some .boolean) [] ({ frames := 0, cells := 0, slots := 0, locals := 0 } : Room) Z h0 #[(.ref a)] (Pu h0 (some (.int ((1 : Int32) )))) := by
  refine Co.of (plainFor_of_name pn_2) ?_
  intro p_ e_ s_ m_ below meth c_ T0 X0 hx hby hml hown hnm hret hlk hZ e0
  refine Go.cast (ef4_0 m_ a ) ?_
  refine g_aloadN X0 hx rfl rfl (hb hby d4_0) 1 rfl ?_
  refine g_getstatic X0 hx hZ hown (host := "") (Or.inl (wd hw 37 rfl)) Via.refl S_p e0 (hb hby d4_1) 4 rfl (fun T1 X2 e3 => ?_)
  show Go p_ e_ below _ T1 (mkF m_ 4 #[.val (.ref a)] [(.ref pl), (.ref a)])
  refine g_acmp_eq X2 hx rfl rfl (hb hby d4_4) 14 7 (by decide) rfl rfl (fun q4 => ?_) (fun q4 => ?_)
  · refine g_iconst X2 hx (1 : Int32) rfl (hb hby d4_14) 15 rfl ?_
    refine g_goto X2 hx (hb hby d4_15) 19 (by decide) rfl ?_
    exact g_retz X2 hx hret hlk (by decide) (by decide) (hb hby d4_19) ⟨congrArg (fun z => some (Value.int z)) (by decide), e3, rfl⟩
  · exact absurd (congrArg Value.ref h1) q4
theorem ef4_1 (m_ : MethodId) (a : Addr)  : entryFrame m_ #[(.ref a)] 1 = mkF m_ 0 #[.val (.ref a)] [] := by first | (simp [entryFrame, mkF, argsToLocals, Value.category]; done) | rfl
theorem d4_7 : decode prog_36_method_6_code 7 = .ok (.aload_n 0, 1) := by decide +kernel
theorem d4_8 : decode prog_36_method_6_code 8 = .ok (.getstatic 7, 3) := by decide +kernel
theorem d4_11 : decode prog_36_method_6_code 11 = .ok (.if_acmp .ne 7, 3) := by decide +kernel
set_option maxRecDepth 65536 in
set_option maxHeartbeats 40000000 in
theorem co4_1 (l : Launch) (Z : State) (a0 : Array Value) (hw : ∀ d ∈ tables_1, d.before a0 Z = true) (a : Addr) (pl : Addr) (ss : Addr) (h0 : Heap) (S_p : Sta Z h0 "com/example/usher/usher/Scheme" "PULSAR" "Lcom/example/usher/usher/Scheme;" (.ref pl)) (S_s : Sta Z h0 "com/example/usher/usher/Scheme" "PULSAR_SSL" "Lcom/example/usher/usher/Scheme;" (.ref ss)) (h1 : ¬ a = pl) (h2 : a = ss) : Co l (⟨"com/example/usher/usher/Scheme", "isBinary", "()Z"⟩ : MethodName) prog_36_method_6_code 1 (some .boolean) [] ({ frames := 0, cells := 0, slots := 0, locals := 0 } : Room) Z h0 #[(.ref a)] (Pu h0 (some (.int ((1 : Int32) )))) := by
  refine Co.of (plainFor_of_name pn_2) ?_
  intro p_ e_ s_ m_ below meth c_ T0 X0 hx hby hml hown hnm hret hlk hZ e0
  refine Go.cast (ef4_1 m_ a ) ?_
  refine g_aloadN X0 hx rfl rfl (hb hby d4_0) 1 rfl ?_
  refine g_getstatic X0 hx hZ hown (host := "") (Or.inl (wd hw 37 rfl)) Via.refl S_p e0 (hb hby d4_1) 4 rfl (fun T1 X2 e3 => ?_)
  show Go p_ e_ below _ T1 (mkF m_ 4 #[.val (.ref a)] [(.ref pl), (.ref a)])
  refine g_acmp_eq X2 hx rfl rfl (hb hby d4_4) 14 7 (by decide) rfl rfl (fun q4 => ?_) (fun q4 => ?_)
  · exact absurd (Value.ref.inj q4) h1
  · refine g_aloadN X2 hx rfl rfl (hb hby d4_7) 8 rfl ?_
    refine g_getstatic X2 hx hZ hown (host := "") (Or.inl (wd hw 41 rfl)) Via.refl S_s e3 (hb hby d4_8) 11 rfl (fun T4 X5 e6 => ?_)
    show Go p_ e_ below _ T4 (mkF m_ 11 #[.val (.ref a)] [(.ref ss), (.ref a)])
    refine g_acmp_ne X5 hx rfl rfl (hb hby d4_11) 18 14 (by decide) rfl rfl (fun q11 => ?_) (fun q11 => ?_)
    · exact absurd (congrArg Value.ref h2) q11
    · refine g_iconst X5 hx (1 : Int32) rfl (hb hby d4_14) 15 rfl ?_
      refine g_goto X5 hx (hb hby d4_15) 19 (by decide) rfl ?_
      exact g_retz X5 hx hret hlk (by decide) (by decide) (hb hby d4_19) ⟨congrArg (fun z => some (Value.int z)) (by decide), e6, rfl⟩
theorem ef4_2 (m_ : MethodId) (a : Addr)  : entryFrame m_ #[(.ref a)] 1 = mkF m_ 0 #[.val (.ref a)] [] := by first | (simp [entryFrame, mkF, argsToLocals, Value.category]; done) | rfl
theorem d4_18 : decode prog_36_method_6_code 18 = .ok (.iconst 0, 1) := by decide +kernel
set_option maxRecDepth 65536 in
set_option maxHeartbeats 40000000 in
theorem co4_2 (l : Launch) (Z : State) (a0 : Array Value) (hw : ∀ d ∈ tables_1, d.before a0 Z = true) (a : Addr) (pl : Addr) (ss : Addr) (h0 : Heap) (S_p : Sta Z h0 "com/example/usher/usher/Scheme" "PULSAR" "Lcom/example/usher/usher/Scheme;" (.ref pl)) (S_s : Sta Z h0 "com/example/usher/usher/Scheme" "PULSAR_SSL" "Lcom/example/usher/usher/Scheme;" (.ref ss)) (h1 : ¬ a = pl) (h2 : ¬ a = ss) : Co l (⟨"com/example/usher/usher/Scheme", "isBinary", "()Z"⟩ : MethodName) prog_36_method_6_code 1 (some .boolean) [] ({ frames := 0, cells := 0, slots := 0, locals := 0 } : Room) Z h0 #[(.ref a)] (Pu h0 (some (.int ((0 : Int32) )))) := by
  refine Co.of (plainFor_of_name pn_2) ?_
  intro p_ e_ s_ m_ below meth c_ T0 X0 hx hby hml hown hnm hret hlk hZ e0
  refine Go.cast (ef4_2 m_ a ) ?_
  refine g_aloadN X0 hx rfl rfl (hb hby d4_0) 1 rfl ?_
  refine g_getstatic X0 hx hZ hown (host := "") (Or.inl (wd hw 37 rfl)) Via.refl S_p e0 (hb hby d4_1) 4 rfl (fun T1 X2 e3 => ?_)
  show Go p_ e_ below _ T1 (mkF m_ 4 #[.val (.ref a)] [(.ref pl), (.ref a)])
  refine g_acmp_eq X2 hx rfl rfl (hb hby d4_4) 14 7 (by decide) rfl rfl (fun q4 => ?_) (fun q4 => ?_)
  · exact absurd (Value.ref.inj q4) h1
  · refine g_aloadN X2 hx rfl rfl (hb hby d4_7) 8 rfl ?_
    refine g_getstatic X2 hx hZ hown (host := "") (Or.inl (wd hw 41 rfl)) Via.refl S_s e3 (hb hby d4_8) 11 rfl (fun T4 X5 e6 => ?_)
    show Go p_ e_ below _ T4 (mkF m_ 11 #[.val (.ref a)] [(.ref ss), (.ref a)])
    refine g_acmp_ne X5 hx rfl rfl (hb hby d4_11) 18 14 (by decide) rfl rfl (fun q11 => ?_) (fun q11 => ?_)
    · refine g_iconst X5 hx (0 : Int32) rfl (hb hby d4_18) 19 rfl ?_
      exact g_retz X5 hx hret hlk (by decide) (by decide) (hb hby d4_19) ⟨congrArg (fun z => some (Value.int z)) (by decide), e6, rfl⟩
    · exact absurd (Value.ref.inj q11) h2
theorem ef0 (m_ : MethodId) (x0 : Int32)  : entryFrame m_ #[(.int x0)] maxLocals = mkF m_ 0 #[.val (.int x0), .unset, .unset, .unset, .unset, .unset, .unset] [] := by first | (simp [entryFrame, mkF, argsToLocals, Value.category, maxLocals]; done) | rfl
theorem pn_3 : plainName "com/example/usher/usher/SchemeIsBinaryPinLaw" = true := by first | (simp [plainName, overriddenIn]; done) | decide +kernel
theorem pd_1 : parseMethodDescriptor "()Ljava/lang/String;" = some ⟨[], some (.object "java/lang/String")⟩ := by decide +kernel
theorem pd_2 : parseMethodDescriptor "(Ljava/lang/Object;)Z" = some ⟨[(.object "java/lang/Object")], some .boolean⟩ := by decide +kernel
theorem pd_3 : parseMethodDescriptor "()Z" = some ⟨[], some .boolean⟩ := by decide +kernel
set_option maxRecDepth 65536 in
set_option maxHeartbeats 40000000 in
theorem rm0 (l : Launch) (Z : State) (a0 : Array Value) (hw : ∀ d ∈ tables_1, d.before a0 Z = true) (hEL : EW Z a0 EL) (ws : List Jvm.Cond) (x0 : Int32) (h0 : Heap) (cs : Int32) (S_cs : Sta Z h0 "java/lang/String" "COMPACT_STRINGS" "Z" (.int cs)) (hcs : ¬ cs = (0 : Int32)) (s_PULSAR t_PULSAR v_PULSAR s_PULSAR_SSL t_PULSAR_SSL v_PULSAR_SSL s_HTTP t_HTTP v_HTTP s_HTTPS t_HTTPS v_HTTPS : Addr) (S_PULSAR : Sta Z h0 "com/example/usher/usher/Scheme" "PULSAR" "Lcom/example/usher/usher/Scheme;" (.ref s_PULSAR)) (E_PULSAR : Exa Z h0 s_PULSAR "com/example/usher/usher/Scheme") (FT_PULSAR : Fld Z h0 s_PULSAR "com/example/usher/usher/Scheme" "text" "Ljava/lang/String;" (.ref t_PULSAR)) (ET_PULSAR : Exa Z h0 t_PULSAR "java/lang/String") (FC_PULSAR : Fld Z h0 t_PULSAR "java/lang/String" "coder" "B" (.int (0 : Int32))) (FV_PULSAR : Fld Z h0 t_PULSAR "java/lang/String" "value" "[B" (.ref v_PULSAR)) (A_PULSAR : AV Z h0 v_PULSAR .byte [(.int (112 : Int32)), (.int (117 : Int32)), (.int (108 : Int32)), (.int (115 : Int32)), (.int (97 : Int32)), (.int (114 : Int32))]) (S_PULSAR_SSL : Sta Z h0 "com/example/usher/usher/Scheme" "PULSAR_SSL" "Lcom/example/usher/usher/Scheme;" (.ref s_PULSAR_SSL)) (E_PULSAR_SSL : Exa Z h0 s_PULSAR_SSL "com/example/usher/usher/Scheme") (FT_PULSAR_SSL : Fld Z h0 s_PULSAR_SSL "com/example/usher/usher/Scheme" "text" "Ljava/lang/String;" (.ref t_PULSAR_SSL)) (ET_PULSAR_SSL : Exa Z h0 t_PULSAR_SSL "java/lang/String") (FC_PULSAR_SSL : Fld Z h0 t_PULSAR_SSL "java/lang/String" "coder" "B" (.int (0 : Int32))) (FV_PULSAR_SSL : Fld Z h0 t_PULSAR_SSL "java/lang/String" "value" "[B" (.ref v_PULSAR_SSL)) (A_PULSAR_SSL : AV Z h0 v_PULSAR_SSL .byte [(.int (112 : Int32)), (.int (117 : Int32)), (.int (108 : Int32)), (.int (115 : Int32)), (.int (97 : Int32)), (.int (114 : Int32)), (.int (43 : Int32)), (.int (115 : Int32)), (.int (115 : Int32)), (.int (108 : Int32))]) (S_HTTP : Sta Z h0 "com/example/usher/usher/Scheme" "HTTP" "Lcom/example/usher/usher/Scheme;" (.ref s_HTTP)) (E_HTTP : Exa Z h0 s_HTTP "com/example/usher/usher/Scheme") (FT_HTTP : Fld Z h0 s_HTTP "com/example/usher/usher/Scheme" "text" "Ljava/lang/String;" (.ref t_HTTP)) (ET_HTTP : Exa Z h0 t_HTTP "java/lang/String") (FC_HTTP : Fld Z h0 t_HTTP "java/lang/String" "coder" "B" (.int (0 : Int32))) (FV_HTTP : Fld Z h0 t_HTTP "java/lang/String" "value" "[B" (.ref v_HTTP)) (A_HTTP : AV Z h0 v_HTTP .byte [(.int (104 : Int32)), (.int (116 : Int32)), (.int (116 : Int32)), (.int (112 : Int32))]) (S_HTTPS : Sta Z h0 "com/example/usher/usher/Scheme" "HTTPS" "Lcom/example/usher/usher/Scheme;" (.ref s_HTTPS)) (E_HTTPS : Exa Z h0 s_HTTPS "com/example/usher/usher/Scheme") (FT_HTTPS : Fld Z h0 s_HTTPS "com/example/usher/usher/Scheme" "text" "Ljava/lang/String;" (.ref t_HTTPS)) (ET_HTTPS : Exa Z h0 t_HTTPS "java/lang/String") (FC_HTTPS : Fld Z h0 t_HTTPS "java/lang/String" "coder" "B" (.int (0 : Int32))) (FV_HTTPS : Fld Z h0 t_HTTPS "java/lang/String" "value" "[B" (.ref v_HTTPS)) (A_HTTPS : AV Z h0 v_HTTPS .byte [(.int (104 : Int32)), (.int (116 : Int32)), (.int (116 : Int32)), (.int (112 : Int32)), (.int (115 : Int32))]) (ne_PULSAR_SSL_PULSAR : ¬ s_PULSAR_SSL = s_PULSAR) (ne_HTTP_PULSAR : ¬ s_HTTP = s_PULSAR) (ne_HTTP_PULSAR_SSL : ¬ s_HTTP = s_PULSAR_SSL) (ne_HTTPS_PULSAR : ¬ s_HTTPS = s_PULSAR) (ne_HTTPS_PULSAR_SSL : ¬ s_HTTPS = s_PULSAR_SSL) : CoH l x code maxLocals ret ws room_1 Z EL h0 #[(.int x0)] (fun v h L => v = some (.int 1) ∧ Fr h0.size L) := by
  refine CoH.of (plainFor_of_name pn_3) ?_
  intro p_ e_ s_ m_ below meth c_ T0 X0 hx hby hml hown hnm hret hlk hZ e0 hs0 hS H
  have N0 := Fr.nil h0.size
  have hk0 := Nat.le_refl h0.size
  refine Go.cast (ef0 m_ x0) ?_
  refine g_iloadN X0 hx rfl (hb hby at_0) 1 rfl ?_
  refine g_iconst X0 hx (3 : Int32) rfl (hb hby at_1) 2 rfl ?_
  refine g_iand X0 hx (hb hby at_2) 3 rfl ?_
  generalize hv1 : (x0 &&& (3 : Int32)) = v1
  refine g_istoreN X0 hx #[.val (.int x0), .val (.int v1), .unset, .unset, .unset, .unset, .unset] rfl (hb hby at_3) 4 rfl ?_
  refine g_iloadN X0 hx rfl (hb hby at_4) 5 rfl ?_
  refine g_if_ne X0 hx (hb hby at_5) 17 8 (by decide) rfl rfl (fun q5 => ?_) (fun q5 => ?_)
  · refine g_iloadN X0 hx rfl (hb hby at_17) 18 rfl ?_
    refine g_iconst X0 hx (1 : Int32) rfl (hb hby at_18) 19 rfl ?_
    refine g_icmp_ne X0 hx (hb hby at_19) 31 22 (by decide) rfl rfl (fun q19 => ?_) (fun q19 => ?_)
    · refine g_iloadN X0 hx rfl (hb hby at_31) 32 rfl ?_
      refine g_iconst X0 hx (2 : Int32) rfl (hb hby at_32) 33 rfl ?_
      refine g_icmp_ne X0 hx (hb hby at_33) 45 36 (by decide) rfl rfl (fun q33 => ?_) (fun q33 => ?_)
      · refine g_getstatic X0 hx hZ hown (host := "") (Or.inl (wd hw 38 rfl)) Via.refl S_HTTPS e0 (hb hby at_45) 48 rfl (fun T2 X3 e4 => ?_)
        show Go p_ e_ below _ T2 (mkF m_ 48 #[.val (.int x0), .val (.int v1), .unset, .unset, .unset, .unset, .unset] [(.ref s_HTTPS)])
        refine g_astoreN X3 hx #[.val (.int x0), .val (.int v1), .val (.ref s_HTTPS), .unset, .unset, .unset, .unset] rfl rfl (hb hby at_48) 49 rfl ?_
        refine g_iconst X3 hx (0 : Int32) rfl (hb hby at_49) 50 rfl ?_
        refine g_istoreN X3 hx #[.val (.int x0), .val (.int v1), .val (.ref s_HTTPS), .val (.int (0 : Int32)), .unset, .unset, .unset] rfl (hb hby at_50) 51 rfl ?_
        refine g_aloadN X3 hx rfl rfl (hb hby at_51) 52 rfl ?_
        refine g_callV X3 hx hZ hown (wd hw 3 rfl) (C := "com/example/usher/usher/Scheme") (wd hw 4 rfl) (wd hw 6 rfl) (wd hw 5 rfl) (wd hw 1 rfl) (wd hw 7 rfl) (by decide) e4 [] [] E_HTTPS rfl (co1 l Z a0 hw s_HTTPS t_HTTPS h0 FT_HTTPS) (lenOf pd_1 rfl) 0 (Nat.le_of_eq rfl) (by decide) (by decide) (by decide) (by decide) (by rw [hml]; rfl) (hb hby at_52) 55 rfl (pu_cont fun T6 X5 e7 => ?_)
        show Go p_ e_ below _ T6 (mkF m_ 55 #[.val (.int x0), .val (.int v1), .val (.ref s_HTTPS), .val (.int (0 : Int32)), .unset, .unset, .unset] [(.ref t_HTTPS)])
        refine g_astore X5 hx #[.val (.int x0), .val (.int v1), .val (.ref s_HTTPS), .val (.int (0 : Int32)), .val (.ref t_HTTPS), .unset, .unset] rfl rfl (hb hby at_55) 57 rfl ?_
        refine g_aload X5 hx rfl rfl (hb hby at_57) 59 rfl ?_
        refine g_ldcC X5 hx hown (wd hw 10 rfl) (own_wS hw) e7 hZ hS hk0 hEL H (by decide) (vs := [(.int (112 : Int32)), (.int (117 : Int32)), (.int (108 : Int32)), (.int (115 : Int32)), (.int (97 : Int32)), (.int (114 : Int32))]) (z := (6 : Int32)) (by decide +kernel) (by decide) rfl (by decide) (hb hby at_59) (n := 24) (by decide) (by decide) (by decide) (by decide) 61 rfl (fun b10 b11 T8 h9 k12 X13 e14 E15 hZ hown hS hk0 H E16 F17 F18 A19 sf20 => ?_)
        have F21 := S_cs.ext E15
        have F22 := S_PULSAR.ext E15
        have F23 := S_PULSAR_SSL.ext E15
        have F24 := E_HTTPS.ext E15
        have F25 := FT_HTTPS.ext E15
        have F26 := ET_HTTPS.ext E15
        have F27 := FC_HTTPS.ext E15
        have F28 := FV_HTTPS.ext E15
        have F29 := A_HTTPS.ext E15
        have szh30 : h0.size ≤ h9.size := Nat.le_trans (Nat.le_refl h0.size) E15.1
        have ne31 : s_HTTPS ≠ b10 := (sf20 _ (Safe.exa hZ.alike F24 (by decide) (by decide))).1
        have ne32 : s_HTTPS ≠ b11 := (sf20 _ (Safe.exa hZ.alike F24 (by decide) (by decide))).2
        show Go p_ e_ below _ T8 (mkF m_ 61 #[.val (.int x0), .val (.int v1), .val (.ref s_HTTPS), .val (.int (0 : Int32)), .val (.ref t_HTTPS), .unset, .unset] [(.ref b10), (.ref t_HTTPS)])
        refine g_callV X13 hx hZ hown (wd hw 18 rfl) (C := "java/lang/String") (wd hw 19 rfl) (wd hw 21 rfl) (wd hw 20 rfl) (wd hw 11 rfl) (wd hw 22 rfl) (by decide) e14 [(.ref b10)] [] F26 rfl (co2_3_0 l Z a0 hw t_HTTPS b10 v_HTTPS b11 cs h9 F26 F27 F28 F29 E16 F17 F18 A19 F21 hcs) (lenOf pd_2 rfl) 0 (Nat.le_of_eq rfl) (by decide) (by decide) (by decide) (by decide) (by rw [hml]; rfl) (hb hby at_61) 64 rfl (pu_cont fun T34 X33 e35 => ?_)
        show Go p_ e_ below _ T34 (mkF m_ 64 #[.val (.int x0), .val (.int v1), .val (.ref s_HTTPS), .val (.int (0 : Int32)), .val (.ref t_HTTPS), .unset, .unset] [(.int (0 : Int32))])
        refine g_if_ne X33 hx (hb hby at_64) 77 67 (by decide) rfl rfl (fun q64 => ?_) (fun q64 => ?_)
        · exact absurd rfl q64
        · refine g_aload X33 hx rfl rfl (hb hby at_67) 69 rfl ?_
          refine g_ldcC X33 hx hown (wd hw 40 rfl) (own_wS hw) e35 hZ hS hk0 hEL H (by decide) (vs := [(.int (112 : Int32)), (.int (117 : Int32)), (.int (108 : Int32)), (.int (115 : Int32)), (.int (97 : Int32)), (.int (114 : Int32)), (.int (43 : Int32)), (.int (115 : Int32)), (.int (115 : Int32)), (.int (108 : Int32))]) (z := (10 : Int32)) (by decide +kernel) (by decide) rfl (by decide) (hb hby at_69) (n := 40) (by decide) (by decide) (by decide) (by decide) 71 rfl (fun b38 b39 T36 h37 k40 X41 e42 E43 hZ hown hS hk0 H E44 F45 F46 A47 sf48 => ?_)
          have F49 := F21.ext E43
          have F50 := F22.ext E43
          have F51 := F23.ext E43
          have F52 := F24.ext E43
          have F53 := F25.ext E43
          have F54 := F26.ext E43
          have F55 := F27.ext E43
          have F56 := F28.ext E43
          have F57 := F29.ext E43
          have F58 := E16.ext E43
          have F59 := F17.ext E43
          have F60 := F18.ext E43
          have F61 := A19.ext E43
          have szh62 : h0.size ≤ h37.size := Nat.le_trans szh30 E43.1
          have ne63 : s_HTTPS ≠ b38 := (sf48 _ (Safe.exa hZ.alike F52 (by decide) (by decide))).1
          have ne64 : s_HTTPS ≠ b39 := (sf48 _ (Safe.exa hZ.alike F52 (by decide) (by decide))).2
          show Go p_ e_ below _ T36 (mkF m_ 71 #[.val (.int x0), .val (.int v1), .val (.ref s_HTTPS), .val (.int (0 : Int32)), .val (.ref t_HTTPS), .unset, .unset] [(.ref b38), (.ref t_HTTPS)])
          refine g_callV X41 hx hZ hown (wd hw 18 rfl) (C := "java/lang/String") (wd hw 19 rfl) (wd hw 21 rfl) (wd hw 20 rfl) (wd hw 11 rfl) (wd hw 22 rfl) (by decide) e42 [(.ref b38)] [] F54 rfl (co2_3_1 l Z a0 hw t_HTTPS b38 v_HTTPS b39 cs h37 F54 F55 F56 F57 E44 F45 F46 A47 F49 hcs) (lenOf pd_2 rfl) 0 (Nat.le_of_eq rfl) (by decide) (by decide) (by decide) (by decide) (by rw [hml]; rfl) (hb hby at_71) 74 rfl (pu_cont fun T66 X65 e67 => ?_)
          show Go p_ e_ below _ T66 (mkF m_ 74 #[.val (.int x0), .val (.int v1), .val (.ref s_HTTPS), .val (.int (0 : Int32)), .val (.ref t_HTTPS), .unset, .unset] [(.int (0 : Int32))])
          refine g_if_eq X65 hx (hb hby at_74) 81 77 (by decide) rfl rfl (fun q74 => ?_) (fun q74 => ?_)
          · refine g_iconst X65 hx (0 : Int32) rfl (hb hby at_81) 82 rfl ?_
            refine g_istore X65 hx #[.val (.int x0), .val (.int v1), .val (.ref s_HTTPS), .val (.int (0 : Int32)), .val (.ref t_HTTPS), .val (.int (0 : Int32)), .unset] rfl (hb hby at_82) 84 rfl ?_
            refine g_aloadN X65 hx rfl rfl (hb hby at_84) 85 rfl ?_
            refine g_callV X65 hx hZ hown (wd hw 32 rfl) (C := "com/example/usher/usher/Scheme") (wd hw 33 rfl) (wd hw 35 rfl) (wd hw 34 rfl) (wd hw 1 rfl) (wd hw 36 rfl) (by decide) e67 [] [] F52 rfl (co4_2 l Z a0 hw s_HTTPS s_PULSAR s_PULSAR_SSL h37 F50 F51 ne_HTTPS_PULSAR ne_HTTPS_PULSAR_SSL) (lenOf pd_3 rfl) 0 (Nat.le_of_eq rfl) (by decide) (by decide) (by decide) (by decide) (by rw [hml]; rfl) (hb hby at_85) 88 rfl (pu_cont fun T69 X68 e70 => ?_)
            show Go p_ e_ below _ T69 (mkF m_ 88 #[.val (.int x0), .val (.int v1), .val (.ref s_HTTPS), .val (.int (0 : Int32)), .val (.ref t_HTTPS), .val (.int (0 : Int32)), .unset] [(.int (0 : Int32))])
            refine g_istore X68 hx #[.val (.int x0), .val (.int v1), .val (.ref s_HTTPS), .val (.int (0 : Int32)), .val (.ref t_HTTPS), .val (.int (0 : Int32)), .val (.int (0 : Int32))] rfl (hb hby at_88) 90 rfl ?_
            refine g_iload X68 hx rfl (hb hby at_90) 92 rfl ?_
            refine g_iloadN X68 hx rfl (hb hby at_92) 93 rfl ?_
            refine g_icmp_ne X68 hx (hb hby at_93) 107 96 (by decide) rfl rfl (fun q93 => ?_) (fun q93 => ?_)
            · exact absurd rfl q93
            · refine g_iload X68 hx rfl (hb hby at_96) 98 rfl ?_
              refine g_iload X68 hx rfl (hb hby at_98) 100 rfl ?_
              refine g_icmp_ne X68 hx (hb hby at_100) 107 103 (by decide) rfl rfl (fun q100 => ?_) (fun q100 => ?_)
              · exact absurd rfl q100
              · refine g_iconst X68 hx (1 : Int32) rfl (hb hby at_103) 104 rfl ?_
                refine g_goto X68 hx (hb hby at_104) 108 (by decide) rfl ?_
                exact g_retzH X68 hx hret hlk (by decide) (by decide) (hb hby at_108) e70 hZ hS hk0 hEL H ⟨rfl, N0⟩
          · exact absurd rfl q74
      · refine g_getstatic X0 hx hZ hown (host := "") (Or.inl (wd hw 43 rfl)) Via.refl S_HTTP e0 (hb hby at_36) 39 rfl (fun T71 X72 e73 => ?_)
        show Go p_ e_ below _ T71 (mkF m_ 39 #[.val (.int x0), .val (.int v1), .unset, .unset, .unset, .unset, .unset] [(.ref s_HTTP)])
        refine g_astoreN X72 hx #[.val (.int x0), .val (.int v1), .val (.ref s_HTTP), .unset, .unset, .unset, .unset] rfl rfl (hb hby at_39) 40 rfl ?_
        refine g_iconst X72 hx (0 : Int32) rfl (hb hby at_40) 41 rfl ?_
        refine g_istoreN X72 hx #[.val (.int x0), .val (.int v1), .val (.ref s_HTTP), .val (.int (0 : Int32)), .unset, .unset, .unset] rfl (hb hby at_41) 42 rfl ?_
        refine g_goto X72 hx (hb hby at_42) 51 (by decide) rfl ?_
        refine g_aloadN X72 hx rfl rfl (hb hby at_51) 52 rfl ?_
        refine g_callV X72 hx hZ hown (wd hw 3 rfl) (C := "com/example/usher/usher/Scheme") (wd hw 4 rfl) (wd hw 6 rfl) (wd hw 5 rfl) (wd hw 1 rfl) (wd hw 7 rfl) (by decide) e73 [] [] E_HTTP rfl (co1 l Z a0 hw s_HTTP t_HTTP h0 FT_HTTP) (lenOf pd_1 rfl) 0 (Nat.le_of_eq rfl) (by decide) (by decide) (by decide) (by decide) (by rw [hml]; rfl) (hb hby at_52) 55 rfl (pu_cont fun T75 X74 e76 => ?_)
        show Go p_ e_ below _ T75 (mkF m_ 55 #[.val (.int x0), .val (.int v1), .val (.ref s_HTTP), .val (.int (0 : Int32)), .unset, .unset, .unset] [(.ref t_HTTP)])
        refine g_astore X74 hx #[.val (.int x0), .val (.int v1), .val (.ref s_HTTP), .val (.int (0 : Int32)), .val (.ref t_HTTP), .unset, .unset] rfl rfl (hb hby at_55) 57 rfl ?_
        refine g_aload X74 hx rfl rfl (hb hby at_57) 59 rfl ?_
        refine g_ldcC X74 hx hown (wd hw 10 rfl) (own_wS hw) e76 hZ hS hk0 hEL H (by decide) (vs := [(.int (112 : Int32)), (.int (117 : Int32)), (.int (108 : Int32)), (.int (115 : Int32)), (.int (97 : Int32)), (.int (114 : Int32))]) (z := (6 : Int32)) (by decide +kernel) (by decide) rfl (by decide) (hb hby at_59) (n := 24) (by decide) (by decide) (by decide) (by decide) 61 rfl (fun b79 b80 T77 h78 k81 X82 e83 E84 hZ hown hS hk0 H E85 F86 F87 A88 sf89 => ?_)
        have F90 := S_cs.ext E84
        have F91 := S_PULSAR.ext E84
        have F92 := S_PULSAR_SSL.ext E84
        have F93 := E_HTTP.ext E84
        have F94 := FT_HTTP.ext E84
        have F95 := ET_HTTP.ext E84
        have F96 := FC_HTTP.ext E84
        have F97 := FV_HTTP.ext E84
        have F98 := A_HTTP.ext E84
        have szh99 : h0.size ≤ h78.size := Nat.le_trans (Nat.le_refl h0.size) E84.1
        have ne100 : s_HTTP ≠ b79 := (sf89 _ (Safe.exa hZ.alike F93 (by decide) (by decide))).1
        have ne101 : s_HTTP ≠ b80 := (sf89 _ (Safe.exa hZ.alike F93 (by decide) (by decide))).2
        show Go p_ e_ below _ T77 (mkF m_ 61 #[.val (.int x0), .val (.int v1), .val (.ref s_HTTP), .val (.int (0 : Int32)), .val (.ref t_HTTP), .unset, .unset] [(.ref b79), (.ref t_HTTP)])
        refine g_callV X82 hx hZ hown (wd hw 18 rfl) (C := "java/lang/String") (wd hw 19 rfl) (wd hw 21 rfl) (wd hw 20 rfl) (wd hw 11 rfl) (wd hw 22 rfl) (by decide) e83 [(.ref b79)] [] F95 rfl (co2_2_0 l Z a0 hw t_HTTP b79 v_HTTP b80 cs h78 F95 F96 F97 F98 E85 F86 F87 A88 F90 hcs) (lenOf pd_2 rfl) 0 (Nat.le_of_eq rfl) (by decide) (by decide) (by decide) (by decide) (by rw [hml]; rfl) (hb hby at_61) 64 rfl (pu_cont fun T103 X102 e104 => ?_)
        show Go p_ e_ below _ T103 (mkF m_ 64 #[.val (.int x0), .val (.int v1), .val (.ref s_HTTP), .val (.int (0 : Int32)), .val (.ref t_HTTP), .unset, .unset] [(.int (0 : Int32))])
        refine g_if_ne X102 hx (hb hby at_64) 77 67 (by decide) rfl rfl (fun q64 => ?_) (fun q64 => ?_)
        · exact absurd rfl q64
        · refine g_aload X102 hx rfl rfl (hb hby at_67) 69 rfl ?_
          refine g_ldcC X102 hx hown (wd hw 40 rfl) (own_wS hw) e104 hZ hS hk0 hEL H (by decide) (vs := [(.int (112 : Int32)), (.int (117 : Int32)), (.int (108 : Int32)), (.int (115 : Int32)), (.int (97 : Int32)), (.int (114 : Int32)), (.int (43 : Int32)), (.int (115 : Int32)), (.int (115 : Int32)), (.int (108 : Int32))]) (z := (10 : Int32)) (by decide +kernel) (by decide) rfl (by decide) (hb hby at_69) (n := 40) (by decide) (by decide) (by decide) (by decide) 71 rfl (fun b107 b108 T105 h106 k109 X110 e111 E112 hZ hown hS hk0 H E113 F114 F115 A116 sf117 => ?_)
          have F118 := F90.ext E112
          have F119 := F91.ext E112
          have F120 := F92.ext E112
          have F121 := F93.ext E112
          have F122 := F94.ext E112
          have F123 := F95.ext E112
          have F124 := F96.ext E112
          have F125 := F97.ext E112
          have F126 := F98.ext E112
          have F127 := E85.ext E112
          have F128 := F86.ext E112
          have F129 := F87.ext E112
          have F130 := A88.ext E112
          have szh131 : h0.size ≤ h106.size := Nat.le_trans szh99 E112.1
          have ne132 : s_HTTP ≠ b107 := (sf117 _ (Safe.exa hZ.alike F121 (by decide) (by decide))).1
          have ne133 : s_HTTP ≠ b108 := (sf117 _ (Safe.exa hZ.alike F121 (by decide) (by decide))).2
          show Go p_ e_ below _ T105 (mkF m_ 71 #[.val (.int x0), .val (.int v1), .val (.ref s_HTTP), .val (.int (0 : Int32)), .val (.ref t_HTTP), .unset, .unset] [(.ref b107), (.ref t_HTTP)])
          refine g_callV X110 hx hZ hown (wd hw 18 rfl) (C := "java/lang/String") (wd hw 19 rfl) (wd hw 21 rfl) (wd hw 20 rfl) (wd hw 11 rfl) (wd hw 22 rfl) (by decide) e111 [(.ref b107)] [] F123 rfl (co2_2_1 l Z a0 hw t_HTTP b107 v_HTTP b108 cs h106 F123 F124 F125 F126 E113 F114 F115 A116 F118 hcs) (lenOf pd_2 rfl) 0 (Nat.le_of_eq rfl) (by decide) (by decide) (by decide) (by decide) (by rw [hml]; rfl) (hb hby at_71) 74 rfl (pu_cont fun T135 X134 e136 => ?_)
          show Go p_ e_ below _ T135 (mkF m_ 74 #[.val (.int x0), .val (.int v1), .val (.ref s_HTTP), .val (.int (0 : Int32)), .val (.ref t_HTTP), .unset, .unset] [(.int (0 : Int32))])
          refine g_if_eq X134 hx (hb hby at_74) 81 77 (by decide) rfl rfl (fun q74 => ?_) (fun q74 => ?_)
          · refine g_iconst X134 hx (0 : Int32) rfl (hb hby at_81) 82 rfl ?_
            refine g_istore X134 hx #[.val (.int x0), .val (.int v1), .val (.ref s_HTTP), .val (.int (0 : Int32)), .val (.ref t_HTTP), .val (.int (0 : Int32)), .unset] rfl (hb hby at_82) 84 rfl ?_
            refine g_aloadN X134 hx rfl rfl (hb hby at_84) 85 rfl ?_
            refine g_callV X134 hx hZ hown (wd hw 32 rfl) (C := "com/example/usher/usher/Scheme") (wd hw 33 rfl) (wd hw 35 rfl) (wd hw 34 rfl) (wd hw 1 rfl) (wd hw 36 rfl) (by decide) e136 [] [] F121 rfl (co4_2 l Z a0 hw s_HTTP s_PULSAR s_PULSAR_SSL h106 F119 F120 ne_HTTP_PULSAR ne_HTTP_PULSAR_SSL) (lenOf pd_3 rfl) 0 (Nat.le_of_eq rfl) (by decide) (by decide) (by decide) (by decide) (by rw [hml]; rfl) (hb hby at_85) 88 rfl (pu_cont fun T138 X137 e139 => ?_)
            show Go p_ e_ below _ T138 (mkF m_ 88 #[.val (.int x0), .val (.int v1), .val (.ref s_HTTP), .val (.int (0 : Int32)), .val (.ref t_HTTP), .val (.int (0 : Int32)), .unset] [(.int (0 : Int32))])
            refine g_istore X137 hx #[.val (.int x0), .val (.int v1), .val (.ref s_HTTP), .val (.int (0 : Int32)), .val (.ref t_HTTP), .val (.int (0 : Int32)), .val (.int (0 : Int32))] rfl (hb hby at_88) 90 rfl ?_
            refine g_iload X137 hx rfl (hb hby at_90) 92 rfl ?_
            refine g_iloadN X137 hx rfl (hb hby at_92) 93 rfl ?_
            refine g_icmp_ne X137 hx (hb hby at_93) 107 96 (by decide) rfl rfl (fun q93 => ?_) (fun q93 => ?_)
            · exact absurd rfl q93
            · refine g_iload X137 hx rfl (hb hby at_96) 98 rfl ?_
              refine g_iload X137 hx rfl (hb hby at_98) 100 rfl ?_
              refine g_icmp_ne X137 hx (hb hby at_100) 107 103 (by decide) rfl rfl (fun q100 => ?_) (fun q100 => ?_)
              · exact absurd rfl q100
              · refine g_iconst X137 hx (1 : Int32) rfl (hb hby at_103) 104 rfl ?_
                refine g_goto X137 hx (hb hby at_104) 108 (by decide) rfl ?_
                exact g_retzH X137 hx hret hlk (by decide) (by decide) (hb hby at_108) e139 hZ hS hk0 hEL H ⟨rfl, N0⟩
          · exact absurd rfl q74
    · refine g_getstatic X0 hx hZ hown (host := "") (Or.inl (wd hw 45 rfl)) Via.refl S_PULSAR_SSL e0 (hb hby at_22) 25 rfl (fun T140 X141 e142 => ?_)
      show Go p_ e_ below _ T140 (mkF m_ 25 #[.val (.int x0), .val (.int v1), .unset, .unset, .unset, .unset, .unset] [(.ref s_PULSAR_SSL)])
      refine g_astoreN X141 hx #[.val (.int x0), .val (.int v1), .val (.ref s_PULSAR_SSL), .unset, .unset, .unset, .unset] rfl rfl (hb hby at_25) 26 rfl ?_
      refine g_iconst X141 hx (1 : Int32) rfl (hb hby at_26) 27 rfl ?_
      refine g_istoreN X141 hx #[.val (.int x0), .val (.int v1), .val (.ref s_PULSAR_SSL), .val (.int (1 : Int32)), .unset, .unset, .unset] rfl (hb hby at_27) 28 rfl ?_
      refine g_goto X141 hx (hb hby at_28) 51 (by decide) rfl ?_
      refine g_aloadN X141 hx rfl rfl (hb hby at_51) 52 rfl ?_
      refine g_callV X141 hx hZ hown (wd hw 3 rfl) (C := "com/example/usher/usher/Scheme") (wd hw 4 rfl) (wd hw 6 rfl) (wd hw 5 rfl) (wd hw 1 rfl) (wd hw 7 rfl) (by decide) e142 [] [] E_PULSAR_SSL rfl (co1 l Z a0 hw s_PULSAR_SSL t_PULSAR_SSL h0 FT_PULSAR_SSL) (lenOf pd_1 rfl) 0 (Nat.le_of_eq rfl) (by decide) (by decide) (by decide) (by decide) (by rw [hml]; rfl) (hb hby at_52) 55 rfl (pu_cont fun T144 X143 e145 => ?_)
      show Go p_ e_ below _ T144 (mkF m_ 55 #[.val (.int x0), .val (.int v1), .val (.ref s_PULSAR_SSL), .val (.int (1 : Int32)), .unset, .unset, .unset] [(.ref t_PULSAR_SSL)])
      refine g_astore X143 hx #[.val (.int x0), .val (.int v1), .val (.ref s_PULSAR_SSL), .val (.int (1 : Int32)), .val (.ref t_PULSAR_SSL), .unset, .unset] rfl rfl (hb hby at_55) 57 rfl ?_
      refine g_aload X143 hx rfl rfl (hb hby at_57) 59 rfl ?_
      refine g_ldcC X143 hx hown (wd hw 10 rfl) (own_wS hw) e145 hZ hS hk0 hEL H (by decide) (vs := [(.int (112 : Int32)), (.int (117 : Int32)), (.int (108 : Int32)), (.int (115 : Int32)), (.int (97 : Int32)), (.int (114 : Int32))]) (z := (6 : Int32)) (by decide +kernel) (by decide) rfl (by decide) (hb hby at_59) (n := 24) (by decide) (by decide) (by decide) (by decide) 61 rfl (fun b148 b149 T146 h147 k150 X151 e152 E153 hZ hown hS hk0 H E154 F155 F156 A157 sf158 => ?_)
      have F159 := S_cs.ext E153
      have F160 := S_PULSAR.ext E153
      have F161 := S_PULSAR_SSL.ext E153
      have F162 := E_PULSAR_SSL.ext E153
      have F163 := FT_PULSAR_SSL.ext E153
      have F164 := ET_PULSAR_SSL.ext E153
      have F165 := FC_PULSAR_SSL.ext E153
      have F166 := FV_PULSAR_SSL.ext E153
      have F167 := A_PULSAR_SSL.ext E153
      have szh168 : h0.size ≤ h147.size := Nat.le_trans (Nat.le_refl h0.size) E153.1
      have ne169 : s_PULSAR_SSL ≠ b148 := (sf158 _ (Safe.exa hZ.alike F162 (by decide) (by decide))).1
      have ne170 : s_PULSAR_SSL ≠ b149 := (sf158 _ (Safe.exa hZ.alike F162 (by decide) (by decide))).2
      show Go p_ e_ below _ T146 (mkF m_ 61 #[.val (.int x0), .val (.int v1), .val (.ref s_PULSAR_SSL), .val (.int (1 : Int32)), .val (.ref t_PULSAR_SSL), .unset, .unset] [(.ref b148), (.ref t_PULSAR_SSL)])
      refine g_callV X151 hx hZ hown (wd hw 18 rfl) (C := "java/lang/String") (wd hw 19 rfl) (wd hw 21 rfl) (wd hw 20 rfl) (wd hw 11 rfl) (wd hw 22 rfl) (by decide) e152 [(.ref b148)] [] F164 rfl (co2_1_0 l Z a0 hw t_PULSAR_SSL b148 v_PULSAR_SSL b149 cs h147 F164 F165 F166 F167 E154 F155 F156 A157 F159 hcs) (lenOf pd_2 rfl) 0 (Nat.le_of_eq rfl) (by decide) (by decide) (by decide) (by decide) (by rw [hml]; rfl) (hb hby at_61) 64 rfl (pu_cont fun T172 X171 e173 => ?_)
      show Go p_ e_ below _ T172 (mkF m_ 64 #[.val (.int x0), .val (.int v1), .val (.ref s_PULSAR_SSL), .val (.int (1 : Int32)), .val (.ref t_PULSAR_SSL), .unset, .unset] [(.int (0 : Int32))])
      refine g_if_ne X171 hx (hb hby at_64) 77 67 (by decide) rfl rfl (fun q64 => ?_) (fun q64 => ?_)
      · exact absurd rfl q64
      · refine g_aload X171 hx rfl rfl (hb hby at_67) 69 rfl ?_
        refine g_ldcC X171 hx hown (wd hw 40 rfl) (own_wS hw) e173 hZ hS hk0 hEL H (by decide) (vs := [(.int (112 : Int32)), (.int (117 : Int32)), (.int (108 : Int32)), (.int (115 : Int32)), (.int (97 : Int32)), (.int (114 : Int32)), (.int (43 : Int32)), (.int (115 : Int32)), (.int (115 : Int32)), (.int (108 : Int32))]) (z := (10 : Int32)) (by decide +kernel) (by decide) rfl (by decide) (hb hby at_69) (n := 40) (by decide) (by decide) (by decide) (by decide) 71 rfl (fun b176 b177 T174 h175 k178 X179 e180 E181 hZ hown hS hk0 H E182 F183 F184 A185 sf186 => ?_)
        have F187 := F159.ext E181
        have F188 := F160.ext E181
        have F189 := F161.ext E181
        have F190 := F162.ext E181
        have F191 := F163.ext E181
        have F192 := F164.ext E181
        have F193 := F165.ext E181
        have F194 := F166.ext E181
        have F195 := F167.ext E181
        have F196 := E154.ext E181
        have F197 := F155.ext E181
        have F198 := F156.ext E181
        have F199 := A157.ext E181
        have szh200 : h0.size ≤ h175.size := Nat.le_trans szh168 E181.1
        have ne201 : s_PULSAR_SSL ≠ b176 := (sf186 _ (Safe.exa hZ.alike F190 (by decide) (by decide))).1
        have ne202 : s_PULSAR_SSL ≠ b177 := (sf186 _ (Safe.exa hZ.alike F190 (by decide) (by decide))).2
        show Go p_ e_ below _ T174 (mkF m_ 71 #[.val (.int x0), .val (.int v1), .val (.ref s_PULSAR_SSL), .val (.int (1 : Int32)), .val (.ref t_PULSAR_SSL), .unset, .unset] [(.ref b176), (.ref t_PULSAR_SSL)])
        refine g_callV X179 hx hZ hown (wd hw 18 rfl) (C := "java/lang/String") (wd hw 19 rfl) (wd hw 21 rfl) (wd hw 20 rfl) (wd hw 11 rfl) (wd hw 22 rfl) (by decide) e180 [(.ref b176)] [] F192 rfl (co2_1_1 l Z a0 hw t_PULSAR_SSL b176 v_PULSAR_SSL b177 cs h175 F192 F193 F194 F195 E182 F183 F184 A185 F187 hcs) (lenOf pd_2 rfl) 0 (Nat.le_of_eq rfl) (by decide) (by decide) (by decide) (by decide) (by rw [hml]; rfl) (hb hby at_71) 74 rfl (pu_cont fun T204 X203 e205 => ?_)
        show Go p_ e_ below _ T204 (mkF m_ 74 #[.val (.int x0), .val (.int v1), .val (.ref s_PULSAR_SSL), .val (.int (1 : Int32)), .val (.ref t_PULSAR_SSL), .unset, .unset] [(.int (1 : Int32))])
        refine g_if_eq X203 hx (hb hby at_74) 81 77 (by decide) rfl rfl (fun q74 => ?_) (fun q74 => ?_)
        · exact absurd q74 (by decide)
        · refine g_iconst X203 hx (1 : Int32) rfl (hb hby at_77) 78 rfl ?_
          refine g_goto X203 hx (hb hby at_78) 82 (by decide) rfl ?_
          refine g_istore X203 hx #[.val (.int x0), .val (.int v1), .val (.ref s_PULSAR_SSL), .val (.int (1 : Int32)), .val (.ref t_PULSAR_SSL), .val (.int (1 : Int32)), .unset] rfl (hb hby at_82) 84 rfl ?_
          refine g_aloadN X203 hx rfl rfl (hb hby at_84) 85 rfl ?_
          refine g_callV X203 hx hZ hown (wd hw 32 rfl) (C := "com/example/usher/usher/Scheme") (wd hw 33 rfl) (wd hw 35 rfl) (wd hw 34 rfl) (wd hw 1 rfl) (wd hw 36 rfl) (by decide) e205 [] [] F190 rfl (co4_1 l Z a0 hw s_PULSAR_SSL s_PULSAR s_PULSAR_SSL h175 F188 F189 ne_PULSAR_SSL_PULSAR rfl) (lenOf pd_3 rfl) 0 (Nat.le_of_eq rfl) (by decide) (by decide) (by decide) (by decide) (by rw [hml]; rfl) (hb hby at_85) 88 rfl (pu_cont fun T207 X206 e208 => ?_)
          show Go p_ e_ below _ T207 (mkF m_ 88 #[.val (.int x0), .val (.int v1), .val (.ref s_PULSAR_SSL), .val (.int (1 : Int32)), .val (.ref t_PULSAR_SSL), .val (.int (1 : Int32)), .unset] [(.int (1 : Int32))])
          refine g_istore X206 hx #[.val (.int x0), .val (.int v1), .val (.ref s_PULSAR_SSL), .val (.int (1 : Int32)), .val (.ref t_PULSAR_SSL), .val (.int (1 : Int32)), .val (.int (1 : Int32))] rfl (hb hby at_88) 90 rfl ?_
          refine g_iload X206 hx rfl (hb hby at_90) 92 rfl ?_
          refine g_iloadN X206 hx rfl (hb hby at_92) 93 rfl ?_
          refine g_icmp_ne X206 hx (hb hby at_93) 107 96 (by decide) rfl rfl (fun q93 => ?_) (fun q93 => ?_)
          · exact absurd rfl q93
          · refine g_iload X206 hx rfl (hb hby at_96) 98 rfl ?_
            refine g_iload X206 hx rfl (hb hby at_98) 100 rfl ?_
            refine g_icmp_ne X206 hx (hb hby at_100) 107 103 (by decide) rfl rfl (fun q100 => ?_) (fun q100 => ?_)
            · exact absurd rfl q100
            · refine g_iconst X206 hx (1 : Int32) rfl (hb hby at_103) 104 rfl ?_
              refine g_goto X206 hx (hb hby at_104) 108 (by decide) rfl ?_
              exact g_retzH X206 hx hret hlk (by decide) (by decide) (hb hby at_108) e208 hZ hS hk0 hEL H ⟨rfl, N0⟩
  · refine g_getstatic X0 hx hZ hown (host := "") (Or.inl (wd hw 0 rfl)) Via.refl S_PULSAR e0 (hb hby at_8) 11 rfl (fun T209 X210 e211 => ?_)
    show Go p_ e_ below _ T209 (mkF m_ 11 #[.val (.int x0), .val (.int v1), .unset, .unset, .unset, .unset, .unset] [(.ref s_PULSAR)])
    refine g_astoreN X210 hx #[.val (.int x0), .val (.int v1), .val (.ref s_PULSAR), .unset, .unset, .unset, .unset] rfl rfl (hb hby at_11) 12 rfl ?_
    refine g_iconst X210 hx (1 : Int32) rfl (hb hby at_12) 13 rfl ?_
    refine g_istoreN X210 hx #[.val (.int x0), .val (.int v1), .val (.ref s_PULSAR), .val (.int (1 : Int32)), .unset, .unset, .unset] rfl (hb hby at_13) 14 rfl ?_
    refine g_goto X210 hx (hb hby at_14) 51 (by decide) rfl ?_
    refine g_aloadN X210 hx rfl rfl (hb hby at_51) 52 rfl ?_
    refine g_callV X210 hx hZ hown (wd hw 3 rfl) (C := "com/example/usher/usher/Scheme") (wd hw 4 rfl) (wd hw 6 rfl) (wd hw 5 rfl) (wd hw 1 rfl) (wd hw 7 rfl) (by decide) e211 [] [] E_PULSAR rfl (co1 l Z a0 hw s_PULSAR t_PULSAR h0 FT_PULSAR) (lenOf pd_1 rfl) 0 (Nat.le_of_eq rfl) (by decide) (by decide) (by decide) (by decide) (by rw [hml]; rfl) (hb hby at_52) 55 rfl (pu_cont fun T213 X212 e214 => ?_)
    show Go p_ e_ below _ T213 (mkF m_ 55 #[.val (.int x0), .val (.int v1), .val (.ref s_PULSAR), .val (.int (1 : Int32)), .unset, .unset, .unset] [(.ref t_PULSAR)])
    refine g_astore X212 hx #[.val (.int x0), .val (.int v1), .val (.ref s_PULSAR), .val (.int (1 : Int32)), .val (.ref t_PULSAR), .unset, .unset] rfl rfl (hb hby at_55) 57 rfl ?_
    refine g_aload X212 hx rfl rfl (hb hby at_57) 59 rfl ?_
    refine g_ldcC X212 hx hown (wd hw 10 rfl) (own_wS hw) e214 hZ hS hk0 hEL H (by decide) (vs := [(.int (112 : Int32)), (.int (117 : Int32)), (.int (108 : Int32)), (.int (115 : Int32)), (.int (97 : Int32)), (.int (114 : Int32))]) (z := (6 : Int32)) (by decide +kernel) (by decide) rfl (by decide) (hb hby at_59) (n := 24) (by decide) (by decide) (by decide) (by decide) 61 rfl (fun b217 b218 T215 h216 k219 X220 e221 E222 hZ hown hS hk0 H E223 F224 F225 A226 sf227 => ?_)
    have F228 := S_cs.ext E222
    have F229 := S_PULSAR.ext E222
    have F230 := E_PULSAR.ext E222
    have F231 := FT_PULSAR.ext E222
    have F232 := ET_PULSAR.ext E222
    have F233 := FC_PULSAR.ext E222
    have F234 := FV_PULSAR.ext E222
    have F235 := A_PULSAR.ext E222
    have F236 := S_PULSAR_SSL.ext E222
    have szh237 : h0.size ≤ h216.size := Nat.le_trans (Nat.le_refl h0.size) E222.1
    have ne238 : s_PULSAR ≠ b217 := (sf227 _ (Safe.exa hZ.alike F230 (by decide) (by decide))).1
    have ne239 : s_PULSAR ≠ b218 := (sf227 _ (Safe.exa hZ.alike F230 (by decide) (by decide))).2
    show Go p_ e_ below _ T215 (mkF m_ 61 #[.val (.int x0), .val (.int v1), .val (.ref s_PULSAR), .val (.int (1 : Int32)), .val (.ref t_PULSAR), .unset, .unset] [(.ref b217), (.ref t_PULSAR)])
    refine g_callV X220 hx hZ hown (wd hw 18 rfl) (C := "java/lang/String") (wd hw 19 rfl) (wd hw 21 rfl) (wd hw 20 rfl) (wd hw 11 rfl) (wd hw 22 rfl) (by decide) e221 [(.ref b217)] [] F232 rfl (co2_0_0 l Z a0 hw t_PULSAR b217 v_PULSAR b218 cs h216 F232 F233 F234 F235 E223 F224 F225 A226 F228 hcs) (lenOf pd_2 rfl) 0 (Nat.le_of_eq rfl) (by decide) (by decide) (by decide) (by decide) (by rw [hml]; rfl) (hb hby at_61) 64 rfl (pu_cont fun T241 X240 e242 => ?_)
    show Go p_ e_ below _ T241 (mkF m_ 64 #[.val (.int x0), .val (.int v1), .val (.ref s_PULSAR), .val (.int (1 : Int32)), .val (.ref t_PULSAR), .unset, .unset] [(.int (1 : Int32))])
    refine g_if_ne X240 hx (hb hby at_64) 77 67 (by decide) rfl rfl (fun q64 => ?_) (fun q64 => ?_)
    · refine g_iconst X240 hx (1 : Int32) rfl (hb hby at_77) 78 rfl ?_
      refine g_goto X240 hx (hb hby at_78) 82 (by decide) rfl ?_
      refine g_istore X240 hx #[.val (.int x0), .val (.int v1), .val (.ref s_PULSAR), .val (.int (1 : Int32)), .val (.ref t_PULSAR), .val (.int (1 : Int32)), .unset] rfl (hb hby at_82) 84 rfl ?_
      refine g_aloadN X240 hx rfl rfl (hb hby at_84) 85 rfl ?_
      refine g_callV X240 hx hZ hown (wd hw 32 rfl) (C := "com/example/usher/usher/Scheme") (wd hw 33 rfl) (wd hw 35 rfl) (wd hw 34 rfl) (wd hw 1 rfl) (wd hw 36 rfl) (by decide) e242 [] [] F230 rfl (co4_0 l Z a0 hw s_PULSAR s_PULSAR s_PULSAR_SSL h216 F229 F236 rfl) (lenOf pd_3 rfl) 0 (Nat.le_of_eq rfl) (by decide) (by decide) (by decide) (by decide) (by rw [hml]; rfl) (hb hby at_85) 88 rfl (pu_cont fun T244 X243 e245 => ?_)
      show Go p_ e_ below _ T244 (mkF m_ 88 #[.val (.int x0), .val (.int v1), .val (.ref s_PULSAR), .val (.int (1 : Int32)), .val (.ref t_PULSAR), .val (.int (1 : Int32)), .unset] [(.int (1 : Int32))])
      refine g_istore X243 hx #[.val (.int x0), .val (.int v1), .val (.ref s_PULSAR), .val (.int (1 : Int32)), .val (.ref t_PULSAR), .val (.int (1 : Int32)), .val (.int (1 : Int32))] rfl (hb hby at_88) 90 rfl ?_
      refine g_iload X243 hx rfl (hb hby at_90) 92 rfl ?_
      refine g_iloadN X243 hx rfl (hb hby at_92) 93 rfl ?_
      refine g_icmp_ne X243 hx (hb hby at_93) 107 96 (by decide) rfl rfl (fun q93 => ?_) (fun q93 => ?_)
      · exact absurd rfl q93
      · refine g_iload X243 hx rfl (hb hby at_96) 98 rfl ?_
        refine g_iload X243 hx rfl (hb hby at_98) 100 rfl ?_
        refine g_icmp_ne X243 hx (hb hby at_100) 107 103 (by decide) rfl rfl (fun q100 => ?_) (fun q100 => ?_)
        · exact absurd rfl q100
        · refine g_iconst X243 hx (1 : Int32) rfl (hb hby at_103) 104 rfl ?_
          refine g_goto X243 hx (hb hby at_104) 108 (by decide) rfl ?_
          exact g_retzH X243 hx hret hlk (by decide) (by decide) (hb hby at_108) e245 hZ hS hk0 hEL H ⟨rfl, N0⟩
    · exact absurd q64 (by decide)
set_option maxRecDepth 65536 in
set_option maxHeartbeats 40000000 in
theorem comes_1 {Post : Tables → Env → Array Value → State → Outcome → State → Prop} (hpost : ∀ tb e args s v u, (limb_1_1.after args s (.returned v) u = true ∧ limb_1_2.after args s (.returned v) u = true ∧ True) → ReturnedEndW s (.returned v) u (Jvm.fieldLocs frame_1_writes args s ++ Jvm.arrayLocs frame_1_arrays args s ++ Jvm.staticLocs frame_1_statics s) 8 2112 → Post tb e args s (.returned v) u) :
    ArmFor flags0 classFile x code maxLocals ret World_1 tables_1 room_1 Calls_1 rest_1 Pre_1 Post := by
  intro l hfl _ _ p e ha hc hk s m args below hf hA hF happ hP
  obtain ⟨hcalls, hrest, hpre⟩ := hP
  obtain ⟨-, -, -, hnamed, -, -, -, hat⟩ := (Spec.applies_iff hf).mp happ
  obtain ⟨hg, hn⟩ := and_e (Cond.before_iff.mp (show (Jvm.Cond.and given_1 narrow_1).before args s = true from hpre))
  obtain ⟨h1, g0⟩ := and_e hg
  obtain ⟨w0, rfl⟩ : ∃ w0 : Value, args = #[w0] := by
    have hs : args.size = 1 := by simpa [Cond.value, given_1] using h1
    obtain ⟨L⟩ := args
    match L, hs with
    | [w0], _ => exact ⟨w0, rfl⟩
  have hw := fun d (hd : d ∈ tables_1) => atoms_spec (ws := Jvm.Cond.code x code maxLocals ret :: tables_1) hat d (List.mem_cons_of_mem _ hd)
  have hfit : Fit s := fun {y c} hc i hi => by
    obtain ⟨ha, rfl⟩ := Array.getElem?_eq_some_iff.mp hc
    have q := List.all_eq_true.mp ((Array.all_eq_true_iff_forall_mem.mp hF) _ (Array.getElem_mem ha)) i (List.mem_range.mpr hi)
    simpa [Array.getElem?_eq_getElem hi] using q
  obtain ⟨x0, r0⟩ := is_v g0
  obtain rfl : w0 = (.int x0) := Option.some.inj r0
  have hr0 := hrest
  rw [show rest_1 = Jvm.D.preC rest_1_c from rfl] at hr0
  have hr1 : rest_1_c.before _ s = true := hr0
  rw [rest_1_c_eq] at hr1
  obtain ⟨hsets, -⟩ := atoms_of jdkStatics_1 hr1
  have k0 := hsets _ (List.mem_of_getElem? (i := 0) rfl)
  obtain ⟨cs, evc⟩ := is_v (Cond.before_iff.mp (hsets _ (List.mem_of_getElem? (i := 1) rfl)))
  have S_cs := Sta.start evc (Or.inl k0)
  have hcs : ¬ cs = (0 : Int32) := fun q => by
    have u := not_v (Cond.before_iff.mp (hsets _ (List.mem_of_getElem? (i := 2) rfl)))
    subst q
    exact absurd (u.symm.trans (eq_i evc (Term.int_eval 0) rfl)) (by decide)
  obtain ⟨c0, hn0⟩ := and_e hn
  obtain ⟨c1, hn1⟩ := and_e hn0
  obtain ⟨c2, hn2⟩ := and_e hn1
  obtain ⟨c3, hn3⟩ := and_e hn2
  obtain ⟨c4, hn4⟩ := and_e hn3
  obtain ⟨c5, hn5⟩ := and_e hn4
  obtain ⟨c6, hn6⟩ := and_e hn5
  obtain ⟨c7, hn7⟩ := and_e hn6
  obtain ⟨c8, hn8⟩ := and_e hn7
  obtain ⟨c9, hn9⟩ := and_e hn8
  obtain ⟨c10, hn10⟩ := and_e hn9
  obtain ⟨c11, hn11⟩ := and_e hn10
  obtain ⟨c12, hn12⟩ := and_e hn11
  obtain ⟨c13, hn13⟩ := and_e hn12
  obtain ⟨c14, hn14⟩ := and_e hn13
  obtain ⟨c15, hn15⟩ := and_e hn14
  obtain ⟨c16, hn16⟩ := and_e hn15
  obtain ⟨c17, hn17⟩ := and_e hn16
  obtain ⟨c18, hn18⟩ := and_e hn17
  obtain ⟨c19, hn19⟩ := and_e hn18
  obtain ⟨c20, hn20⟩ := and_e hn19
  obtain ⟨c21, hn21⟩ := and_e hn20
  obtain ⟨c22, hn22⟩ := and_e hn21
  obtain ⟨c23, hn23⟩ := and_e hn22
  obtain ⟨c24, hn24⟩ := and_e hn23
  obtain ⟨c25, hn25⟩ := and_e hn24
  obtain ⟨c26, hn26⟩ := and_e hn25
  obtain ⟨c27, hn27⟩ := and_e hn26
  obtain ⟨c28, hn28⟩ := and_e hn27
  obtain ⟨c29, hn29⟩ := and_e hn28
  obtain ⟨c30, hn30⟩ := and_e hn29
  obtain ⟨c31, hn31⟩ := and_e hn30
  obtain ⟨c32, hn32⟩ := and_e hn31
  obtain ⟨c33, hn33⟩ := and_e hn32
  obtain ⟨c34, hn34⟩ := and_e hn33
  obtain ⟨c35, hn35⟩ := and_e hn34
  obtain ⟨c36, hn36⟩ := and_e hn35
  obtain ⟨c37, hn37⟩ := and_e hn36
  obtain ⟨c38, hn38⟩ := and_e hn37
  obtain ⟨c39, hn39⟩ := and_e hn38
  obtain ⟨c40, hn40⟩ := and_e hn39
  obtain ⟨c41, hn41⟩ := and_e hn40
  obtain ⟨c42, hn42⟩ := and_e hn41
  obtain ⟨c43, hn43⟩ := and_e hn42
  obtain ⟨c44, hn44⟩ := and_e hn43
  obtain ⟨c45, hn45⟩ := and_e hn44
  obtain ⟨c46, hn46⟩ := and_e hn45
  obtain ⟨c47, c48⟩ := and_e hn46
  obtain ⟨s_PULSAR, ev_PULSAR⟩ := exa_v c0
  have E_PULSAR := Exa.start ev_PULSAR c0
  have S_PULSAR := Sta.start ev_PULSAR (Or.inr ⟨(wd hw 1 rfl), (wd hw 2 rfl)⟩)
  obtain ⟨s_HTTPS, ev_HTTPS⟩ := exa_v c5
  have E_HTTPS := Exa.start ev_HTTPS c5
  have S_HTTPS := Sta.start ev_HTTPS (Or.inr ⟨(wd hw 1 rfl), (wd hw 39 rfl)⟩)
  obtain ⟨s_PULSAR_SSL, ev_PULSAR_SSL⟩ := exa_v c12
  have E_PULSAR_SSL := Exa.start ev_PULSAR_SSL c12
  have S_PULSAR_SSL := Sta.start ev_PULSAR_SSL (Or.inr ⟨(wd hw 1 rfl), (wd hw 42 rfl)⟩)
  obtain ⟨s_HTTP, ev_HTTP⟩ := exa_v c14
  have E_HTTP := Exa.start ev_HTTP c14
  have S_HTTP := Sta.start ev_HTTP (Or.inr ⟨(wd hw 1 rfl), (wd hw 44 rfl)⟩)
  have O_HTTPS := own_fo ev_HTTPS c10
  have O_PULSAR := own_fo ev_PULSAR c11
  have O_PULSAR_SSL := own_fo ev_PULSAR_SSL c13
  have O_HTTP := own_fo ev_HTTP c19
  obtain ⟨t_PULSAR, et_PULSAR⟩ := exa_v c1
  have ET_PULSAR := Exa.start et_PULSAR c1
  have FT_PULSAR := Fld.start ((fld_at ev_PULSAR).symm.trans et_PULSAR)
  have FC_PULSAR := own_fo et_PULSAR c2
  obtain ⟨v_PULSAR, ew_PULSAR⟩ := own_arr_ref c3
  have FV_PULSAR := Fld.start ((fld_at et_PULSAR).symm.trans ew_PULSAR)
  have A_PULSAR := own_av (vs := [(.int (112 : Int32)), (.int (117 : Int32)), (.int (108 : Int32)), (.int (115 : Int32)), (.int (97 : Int32)), (.int (114 : Int32))]) ew_PULSAR c3 c4 rfl (fun i hi => by
    match i, hi with
    | 0, _ => exact ⟨0, rfl, own_eqI c28⟩
    | 1, _ => exact ⟨1, rfl, own_eqI c29⟩
    | 2, _ => exact ⟨2, rfl, own_eqI c30⟩
    | 3, _ => exact ⟨3, rfl, own_eqI c31⟩
    | 4, _ => exact ⟨4, rfl, own_eqI c32⟩
    | 5, _ => exact ⟨5, rfl, own_eqI c33⟩
    | k + 6, h => exact absurd h (by simp only [List.length_cons, List.length_nil]; omega))
  obtain ⟨t_PULSAR_SSL, et_PULSAR_SSL⟩ := exa_v c20
  have ET_PULSAR_SSL := Exa.start et_PULSAR_SSL c20
  have FT_PULSAR_SSL := Fld.start ((fld_at ev_PULSAR_SSL).symm.trans et_PULSAR_SSL)
  have FC_PULSAR_SSL := own_fo et_PULSAR_SSL c21
  obtain ⟨v_PULSAR_SSL, ew_PULSAR_SSL⟩ := own_arr_ref c22
  have FV_PULSAR_SSL := Fld.start ((fld_at et_PULSAR_SSL).symm.trans ew_PULSAR_SSL)
  have A_PULSAR_SSL := own_av (vs := [(.int (112 : Int32)), (.int (117 : Int32)), (.int (108 : Int32)), (.int (115 : Int32)), (.int (97 : Int32)), (.int (114 : Int32)), (.int (43 : Int32)), (.int (115 : Int32)), (.int (115 : Int32)), (.int (108 : Int32))]) ew_PULSAR_SSL c22 c23 rfl (fun i hi => by
    match i, hi with
    | 0, _ => exact ⟨0, rfl, own_eqI c39⟩
    | 1, _ => exact ⟨1, rfl, own_eqI c40⟩
    | 2, _ => exact ⟨2, rfl, own_eqI c41⟩
    | 3, _ => exact ⟨3, rfl, own_eqI c42⟩
    | 4, _ => exact ⟨4, rfl, own_eqI c43⟩
    | 5, _ => exact ⟨5, rfl, own_eqI c44⟩
    | 6, _ => exact ⟨6, rfl, own_eqI c45⟩
    | 7, _ => exact ⟨7, rfl, own_eqI c46⟩
    | 8, _ => exact ⟨8, rfl, own_eqI c47⟩
    | 9, _ => exact ⟨9, rfl, own_eqI c48⟩
    | k + 10, h => exact absurd h (by simp only [List.length_cons, List.length_nil]; omega))
  obtain ⟨t_HTTP, et_HTTP⟩ := exa_v c15
  have ET_HTTP := Exa.start et_HTTP c15
  have FT_HTTP := Fld.start ((fld_at ev_HTTP).symm.trans et_HTTP)
  have FC_HTTP := own_fo et_HTTP c16
  obtain ⟨v_HTTP, ew_HTTP⟩ := own_arr_ref c17
  have FV_HTTP := Fld.start ((fld_at et_HTTP).symm.trans ew_HTTP)
  have A_HTTP := own_av (vs := [(.int (104 : Int32)), (.int (116 : Int32)), (.int (116 : Int32)), (.int (112 : Int32))]) ew_HTTP c17 c18 rfl (fun i hi => by
    match i, hi with
    | 0, _ => exact ⟨0, rfl, own_eqI c24⟩
    | 1, _ => exact ⟨1, rfl, own_eqI c25⟩
    | 2, _ => exact ⟨2, rfl, own_eqI c26⟩
    | 3, _ => exact ⟨3, rfl, own_eqI c27⟩
    | k + 4, h => exact absurd h (by simp only [List.length_cons, List.length_nil]; omega))
  obtain ⟨t_HTTPS, et_HTTPS⟩ := exa_v c6
  have ET_HTTPS := Exa.start et_HTTPS c6
  have FT_HTTPS := Fld.start ((fld_at ev_HTTPS).symm.trans et_HTTPS)
  have FC_HTTPS := own_fo et_HTTPS c7
  obtain ⟨v_HTTPS, ew_HTTPS⟩ := own_arr_ref c8
  have FV_HTTPS := Fld.start ((fld_at et_HTTPS).symm.trans ew_HTTPS)
  have A_HTTPS := own_av (vs := [(.int (104 : Int32)), (.int (116 : Int32)), (.int (116 : Int32)), (.int (112 : Int32)), (.int (115 : Int32))]) ew_HTTPS c8 c9 rfl (fun i hi => by
    match i, hi with
    | 0, _ => exact ⟨0, rfl, own_eqI c34⟩
    | 1, _ => exact ⟨1, rfl, own_eqI c35⟩
    | 2, _ => exact ⟨2, rfl, own_eqI c36⟩
    | 3, _ => exact ⟨3, rfl, own_eqI c37⟩
    | 4, _ => exact ⟨4, rfl, own_eqI c38⟩
    | k + 5, h => exact absurd h (by simp only [List.length_cons, List.length_nil]; omega))
  have ne_PULSAR_SSL_PULSAR : ¬ s_PULSAR_SSL = s_PULSAR := fun q => by
    rw [q] at O_PULSAR_SSL
    have u := own_fld_inj O_PULSAR_SSL O_PULSAR
    revert u; decide
  have ne_HTTP_PULSAR : ¬ s_HTTP = s_PULSAR := fun q => by
    rw [q] at O_HTTP
    have u := own_fld_inj O_HTTP O_PULSAR
    revert u; decide
  have ne_HTTP_PULSAR_SSL : ¬ s_HTTP = s_PULSAR_SSL := fun q => by
    rw [q] at O_HTTP
    have u := own_fld_inj O_HTTP O_PULSAR_SSL
    revert u; decide
  have ne_HTTPS_PULSAR : ¬ s_HTTPS = s_PULSAR := fun q => by
    rw [q] at O_HTTPS
    have u := own_fld_inj O_HTTPS O_PULSAR
    revert u; decide
  have ne_HTTPS_PULSAR_SSL : ¬ s_HTTPS = s_PULSAR_SSL := fun q => by
    rw [q] at O_HTTPS
    have u := own_fld_inj O_HTTPS O_PULSAR_SSL
    revert u; decide
  have hEL : EW s _ EL := (EW.cons (wd hw 10 rfl) (by decide +kernel) (EW.cons (wd hw 40 rfl) (by decide +kernel) EW.nil))
  have hCH : CHv s EL s.vm s.heap := CHv.start hEL hcalls.1 (hsets _ (List.mem_of_getElem? (i := 2) rfl)) (wd hw 13 rfl) (wd hw 12 rfl)
  obtain ⟨n, o, h1, h2, h3, _, L, rfl, ⟨rfl, N⟩, -, hq⟩ := rm0 l s _ hw hEL tables_1 x0 s.heap cs S_cs hcs s_PULSAR t_PULSAR v_PULSAR s_PULSAR_SSL t_PULSAR_SSL v_PULSAR_SSL s_HTTP t_HTTP v_HTTP s_HTTPS t_HTTPS v_HTTPS S_PULSAR E_PULSAR FT_PULSAR ET_PULSAR FC_PULSAR FV_PULSAR A_PULSAR S_PULSAR_SSL E_PULSAR_SSL FT_PULSAR_SSL ET_PULSAR_SSL FC_PULSAR_SSL FV_PULSAR_SSL A_PULSAR_SSL S_HTTP E_HTTP FT_HTTP ET_HTTP FC_HTTP FV_HTTP A_HTTP S_HTTPS E_HTTPS FT_HTTPS ET_HTTPS FC_HTTPS FV_HTTPS A_HTTPS ne_PULSAR_SSL_PULSAR ne_HTTP_PULSAR ne_HTTP_PULSAR_SSL ne_HTTPS_PULSAR ne_HTTPS_PULSAR_SSL p e ha hc hk s m _ below hf ((Spec.applies_iff_loose hf).mp happ).1 ⟨rfl, State.Warmed39.refl s, rfl, hCH⟩ trivial
  refine ⟨n, _, h1, h2, h3, hpost _ _ _ _ _ _ ⟨Cond.after_iff.mpr rfl, Cond.after_iff.mpr (eq_i res_at (Term.int_eval (1)) rfl), trivial⟩ ⟨hq.1, hq.2.1, hq.2.2.1, (hq.2.2.2.sift fun y hy => Or.inr (N y hy)).mono (by decide) (by decide)⟩⟩
theorem main_1_1 : Claimed_1_1 := comes_1 fun _ _ _ _ _ _ h hF => ⟨h.1, hF⟩
theorem main_1_2 : Claimed_1_2 := comes_1 fun _ _ _ _ _ _ h hF => ⟨h.2.1, hF⟩
end Jvm.Pilot.@@N@@
namespace Jvm.Pilot.@@N@@
open Jvm Jvm.ClassFile Sem Op Lib Jvm.Free Jvm.Stand Jvm.Pilot.@@N@@.Jvm.D
/-! MADE BY PROGRAM (witnessworld.py) out of the Statement's table words and the real class files: 18 classes; the members and pool entries that the words name. The judged class is class 1, her method 1. -/
namespace start1
open Jvm.ClassFile
def u (s : String) : CpInfo := .utf8 (stringToUtf16 s)
/-- a pool by its gaps: so many unusable entries, then the entry; so many at the end -/
def gap : Nat → List CpInfo → List CpInfo
  | 0, r => r
  | n + 1, r => .unusable :: gap n r
def poolList (es : List (Nat × CpInfo)) (last : Nat) : List CpInfo := es.foldr (fun e r => gap e.1 (e.2 :: r)) (gap last [])
def pool (es : List (Nat × CpInfo)) (last : Nat) : Array CpInfo := ⟨poolList es last⟩
def fileOf (pool : Array CpInfo) (this : Nat) (attrs : Array Attribute := #[]) (ms : Array MethodInfo := #[]) (fl : Nat := 33) (sup : Nat := 0) (ifs : Array Nat := #[]) (fds : Array FieldInfo := #[]) : ClassFile where
  minorVersion := 0
  majorVersion := 65
  constantPool := pool
  accessFlags := fl
  thisClass := this
  superClass := sup
  interfaces := ifs
  fields := fds
  methods := ms
  attributes := attrs
def plain (name : String) (sup : Option ClassId) : Class where
  name := name
  kind := .ordinary
  loader := none
  accessFlags := 33
  super := sup
  interfaces := #[]
  cf := none
  fields := #[]
  methods := #[]
  instanceTypes := #[]
  staticTypes := #[]
  resolved := #[]
  callSites := []
  init := .initialized
  statics := none
  mirror := none

def pool0 : Array CpInfo := pool [(5, u "<init>"), (0, u "()V"), (1, .class_ 10), (1, u "java/lang/Object")] 113

def k0m0 : Method := { name := "<init>", desc := "()V", sig := { parameters := [], returnType := none }, accessFlags := 1, code := none }
/-- java/lang/Object -/
def k0 : Class := { plain "java/lang/Object" none with
  accessFlags := 33
  interfaces := #[]
  cf := some (fileOf pool0 8 #[] #[{ accessFlags := 1, nameIndex := 5, descriptorIndex := 6, attributes := #[] }] 33 0 #[] #[])
  fields := #[]
  methods := #[k0m0]
  instanceTypes := #[]
  staticTypes := #[]
  resolved := Array.replicate 124 none
  statics := none }

def pool1 : Array CpInfo := pool [(2, .class_ 4), (1, u "java/lang/Object"), (0, u "<init>"), (0, u "()V"), (0, .fieldref 8 9), (0, .class_ 10), (0, .nameAndType 11 12), (0, u "com/example/usher/usher/Scheme"), (0, u "PULSAR"), (0, u "Lcom/example/usher/usher/Scheme;"), (0, .fieldref 8 14), (0, .nameAndType 15 12), (0, u "PULSAR_SSL"), (0, .fieldref 8 17), (0, .nameAndType 18 12), (0, u "HTTP"), (0, .fieldref 8 20), (0, .nameAndType 21 12), (0, u "HTTPS"), (0, .methodref 8 23), (0, .nameAndType 24 25), (0, u "getText"), (0, u "()Ljava/lang/String;"), (0, .string 27), (0, u "pulsar"), (0, .methodref 29 30), (0, .class_ 31), (0, .nameAndType 32 33), (0, u "java/lang/String"), (0, u "equals"), (0, u "(Ljava/lang/Object;)Z"), (0, .string 35), (0, u "pulsar+ssl"), (0, .methodref 8 37), (0, .nameAndType 38 39), (0, u "isBinary"), (0, u "()Z"), (0, .class_ 41), (0, u "com/example/usher/usher/SchemeIsBinaryPinLaw"), (2, u "law"), (0, u "(I)Z")] 3

def k1m0 : Method := { name := "<init>", desc := "()V", sig := { parameters := [], returnType := none }, accessFlags := 1, code := none }
def k1c1 : Code := { maxStack := 2, maxLocals := 7, code := code, exceptionTable := #[], attributes := #[] }
def k1m1 : Method := { name := "law", desc := "(I)Z", sig := { parameters := [.int], returnType := some .boolean }, accessFlags := 9, code := some k1c1 }
/-- com/example/usher/usher/SchemeIsBinaryPinLaw -/
def k1 : Class := { plain "com/example/usher/usher/SchemeIsBinaryPinLaw" (some 0) with
  accessFlags := 49
  interfaces := #[]
  cf := some (fileOf pool1 40 #[] #[{ accessFlags := 1, nameIndex := 5, descriptorIndex := 6, attributes := #[] }, { accessFlags := 9, nameIndex := 44, descriptorIndex := 45, attributes := #[] }] 49 2 #[] #[])
  fields := #[]
  methods := #[k1m0, k1m1]
  instanceTypes := #[]
  staticTypes := #[]
  resolved := Array.replicate 49 none
  statics := none }

def pool2 : Array CpInfo := pool [(1, .class_ 2), (0, u "java/lang/constant/Constable"), (0, .class_ 4), (0, u "java/lang/Object")] 6

/-- java/lang/constant/Constable -/
def k2 : Class := { plain "java/lang/constant/Constable" (some 0) with
  accessFlags := 1537
  interfaces := #[]
  cf := some (fileOf pool2 1 #[] #[] 1537 3 #[] #[])
  fields := #[]
  methods := #[]
  instanceTypes := #[]
  staticTypes := #[]
  resolved := Array.replicate 11 none
  statics := none }

def pool3 : Array CpInfo := pool [(1, .class_ 2), (0, u "java/lang/Comparable"), (0, .class_ 4), (0, u "java/lang/Object")] 7

/-- java/lang/Comparable -/
def k3 : Class := { plain "java/lang/Comparable" (some 0) with
  accessFlags := 1537
  interfaces := #[]
  cf := some (fileOf pool3 1 #[] #[] 1537 3 #[] #[])
  fields := #[]
  methods := #[]
  instanceTypes := #[]
  staticTypes := #[]
  resolved := Array.replicate 12 none
  statics := none }

def pool4 : Array CpInfo := pool [(1, .class_ 2), (0, u "java/io/Serializable"), (0, .class_ 4), (0, u "java/lang/Object")] 2

/-- java/io/Serializable -/
def k4 : Class := { plain "java/io/Serializable" (some 0) with
  accessFlags := 1537
  interfaces := #[]
  cf := some (fileOf pool4 1 #[] #[] 1537 3 #[] #[])
  fields := #[]
  methods := #[]
  instanceTypes := #[]
  staticTypes := #[]
  resolved := Array.replicate 7 none
  statics := none }

def pool5 : Array CpInfo := pool [(2, .class_ 4), (1, u "java/lang/Enum"), (0, u "name"), (0, u "Ljava/lang/String;"), (2, u "ordinal"), (0, u "I"), (1, .class_ 14), (1, u "java/lang/Object"), (4, u "hash"), (86, .class_ 108), (1, u "java/lang/Enum$EnumDesc"), (2, .class_ 112), (0, u "java/lang/constant/Constable"), (0, .class_ 114), (0, u "java/lang/Comparable"), (0, .class_ 116), (0, u "java/io/Serializable")] 87

/-- java/lang/Enum -/
def k5 : Class := { plain "java/lang/Enum" (some 0) with
  accessFlags := 1057
  interfaces := #[2, 3, 4]
  cf := some (fileOf pool5 2 #[.nestMembers #[106]] #[] 1057 12 #[111, 113, 115] #[{ accessFlags := 18, nameIndex := 5, descriptorIndex := 6, attributes := #[] }, { accessFlags := 18, nameIndex := 9, descriptorIndex := 10, attributes := #[] }, { accessFlags := 2, nameIndex := 19, descriptorIndex := 10, attributes := #[] }])
  fields := #[{ name := "name", type := (.object "java/lang/String"), accessFlags := 18, slot := 0, constantValue := 0 }, { name := "ordinal", type := .int, accessFlags := 18, slot := 1, constantValue := 0 }, { name := "hash", type := .int, accessFlags := 2, slot := 2, constantValue := 0 }]
  methods := #[]
  instanceTypes := #[(.object "java/lang/String"), .int, .int]
  staticTypes := #[]
  resolved := Array.replicate 204 none
  statics := none }

def pool6 : Array CpInfo := pool [(1, .class_ 2), (0, u "com/example/usher/usher/Scheme"), (0, .fieldref 1 4), (0, .nameAndType 5 6), (0, u "PULSAR"), (0, u "Lcom/example/usher/usher/Scheme;"), (0, .fieldref 1 8), (0, .nameAndType 9 6), (0, u "PULSAR_SSL"), (2, u "HTTP"), (2, u "HTTPS"), (2, u "$VALUES"), (0, u "[Lcom/example/usher/usher/Scheme;"), (6, .class_ 28), (1, u "java/lang/Enum"), (6, .fieldref 1 36), (0, .nameAndType 37 38), (0, u "text"), (0, u "Ljava/lang/String;"), (48, u "getText"), (0, u "()Ljava/lang/String;"), (0, u "isBinary"), (0, u "()Z")] 6

def k6c0 : Code := { maxStack := 1, maxLocals := 1, code := prog_36_method_5_code, exceptionTable := #[], attributes := #[] }
def k6m0 : Method := { name := "getText", desc := "()Ljava/lang/String;", sig := { parameters := [], returnType := some (.object "java/lang/String") }, accessFlags := 1, code := some k6c0 }
def k6c1 : Code := { maxStack := 2, maxLocals := 1, code := prog_36_method_6_code, exceptionTable := #[], attributes := #[] }
def k6m1 : Method := { name := "isBinary", desc := "()Z", sig := { parameters := [], returnType := some .boolean }, accessFlags := 1, code := some k6c1 }
/-- com/example/usher/usher/Scheme -/
def k6 : Class := { plain "com/example/usher/usher/Scheme" (some 5) with
  accessFlags := 16433
  interfaces := #[]
  cf := some (fileOf pool6 1 #[] #[{ accessFlags := 1, nameIndex := 87, descriptorIndex := 88, attributes := #[] }, { accessFlags := 1, nameIndex := 89, descriptorIndex := 90, attributes := #[] }] 16433 26 #[] #[{ accessFlags := 16409, nameIndex := 5, descriptorIndex := 6, attributes := #[] }, { accessFlags := 16409, nameIndex := 9, descriptorIndex := 6, attributes := #[] }, { accessFlags := 16409, nameIndex := 12, descriptorIndex := 6, attributes := #[] }, { accessFlags := 16409, nameIndex := 15, descriptorIndex := 6, attributes := #[] }, { accessFlags := 18, nameIndex := 37, descriptorIndex := 38, attributes := #[] }, { accessFlags := 4122, nameIndex := 18, descriptorIndex := 19, attributes := #[] }])
  fields := #[{ name := "PULSAR", type := (.object "com/example/usher/usher/Scheme"), accessFlags := 16409, slot := 0, constantValue := 0 }, { name := "PULSAR_SSL", type := (.object "com/example/usher/usher/Scheme"), accessFlags := 16409, slot := 1, constantValue := 0 }, { name := "HTTP", type := (.object "com/example/usher/usher/Scheme"), accessFlags := 16409, slot := 2, constantValue := 0 }, { name := "HTTPS", type := (.object "com/example/usher/usher/Scheme"), accessFlags := 16409, slot := 3, constantValue := 0 }, { name := "text", type := (.object "java/lang/String"), accessFlags := 18, slot := 3, constantValue := 0 }, { name := "$VALUES", type := (.array (.object "com/example/usher/usher/Scheme")), accessFlags := 4122, slot := 4, constantValue := 0 }]
  methods := #[k6m0, k6m1]
  instanceTypes := #[(.object "java/lang/String"), .int, .int, (.object "java/lang/String")]
  staticTypes := #[(.object "com/example/usher/usher/Scheme"), (.object "com/example/usher/usher/Scheme"), (.object "com/example/usher/usher/Scheme"), (.object "com/example/usher/usher/Scheme"), (.array (.object "com/example/usher/usher/Scheme"))]
  resolved := Array.replicate 97 none
  statics := some 0 }

def pool7 : Array CpInfo := pool [(2, .class_ 4), (1, u "java/lang/CharSequence"), (42, .class_ 48), (0, u "java/lang/CharSequence$1CodePointIterator"), (10, .class_ 60), (0, u "java/lang/CharSequence$1CharIterator"), (5, .class_ 67), (0, u "java/lang/Object")] 63

/-- java/lang/CharSequence -/
def k7 : Class := { plain "java/lang/CharSequence" (some 0) with
  accessFlags := 1537
  interfaces := #[]
  cf := some (fileOf pool7 2 #[.nestMembers #[47, 59]] #[] 1537 66 #[] #[])
  fields := #[]
  methods := #[]
  instanceTypes := #[]
  staticTypes := #[]
  resolved := Array.replicate 131 none
  statics := none }

def pool8 : Array CpInfo := pool [(1, .class_ 2), (0, u "java/lang/constant/ConstantDesc"), (0, .class_ 4), (0, u "java/lang/Object")] 32

/-- java/lang/constant/ConstantDesc -/
def k8 : Class := { plain "java/lang/constant/ConstantDesc" (some 0) with
  accessFlags := 1537
  interfaces := #[]
  cf := some (fileOf pool8 1 #[] #[] 1537 3 #[] #[])
  fields := #[]
  methods := #[]
  instanceTypes := #[]
  staticTypes := #[]
  resolved := Array.replicate 37 none
  statics := none }

def pool9 : Array CpInfo := pool [(2, .class_ 4), (1, u "java/lang/Object"), (0, u "<init>"), (0, u "()V"), (2, .fieldref 10 11), (0, .class_ 12), (0, .nameAndType 13 14), (0, u "java/lang/String"), (0, u "value"), (0, u "[B"), (0, .fieldref 10 16), (0, .nameAndType 17 18), (0, u "coder"), (0, u "B"), (2, u "hash"), (0, u "I"), (2, u "hashIsZero"), (0, u "Z"), (11, .fieldref 10 39), (0, .nameAndType 40 26), (0, u "COMPACT_STRINGS"), (66, .class_ 109), (1, u "java/lang/StringLatin1"), (431, .methodref 107 542), (0, .nameAndType 543 544), (0, u "equals"), (0, u "([B[B)Z"), (28, u "(Ljava/lang/Object;)Z"), (1, .class_ 576), (0, u "java/lang/CharSequence"), (22, u "CASE_INSENSITIVE_ORDER"), (0, u "Ljava/util/Comparator;"), (500, u "serialPersistentFields"), (0, u "[Ljava/io/ObjectStreamField;"), (0, .class_ 1104), (0, u "java/lang/String$CaseInsensitiveComparator"), (1, .class_ 1107), (0, u "java/io/Serializable"), (0, .class_ 1109), (0, u "java/lang/Comparable"), (0, .class_ 1111), (0, u "java/lang/constant/Constable"), (0, .class_ 1113), (0, u "java/lang/constant/ConstantDesc"), (2, u "serialVersionUID"), (0, u "J"), (3, u "REPL"), (0, u "C"), (2, u "LATIN1"), (1, u "UTF16")] 323

def k9m0 : Method := { name := "<init>", desc := "()V", sig := { parameters := [], returnType := none }, accessFlags := 1, code := none }
def k9c1 : Code := { maxStack := 2, maxLocals := 3, code := jdk_42_method_66_code, exceptionTable := #[], attributes := #[] }
def k9m1 : Method := { name := "equals", desc := "(Ljava/lang/Object;)Z", sig := { parameters := [(.object "java/lang/Object")], returnType := some .boolean }, accessFlags := 1, code := some k9c1 }
/-- java/lang/String -/
def k9 : Class := { plain "java/lang/String" (some 0) with
  accessFlags := 49
  interfaces := #[4, 3, 7, 2, 8]
  cf := some (fileOf pool9 10 #[.nestMembers #[1103]] #[{ accessFlags := 1, nameIndex := 5, descriptorIndex := 6, attributes := #[] }, { accessFlags := 1, nameIndex := 543, descriptorIndex := 573, attributes := #[] }] 49 2 #[1106, 1108, 575, 1110, 1112] #[{ accessFlags := 18, nameIndex := 13, descriptorIndex := 14, attributes := #[] }, { accessFlags := 18, nameIndex := 17, descriptorIndex := 18, attributes := #[] }, { accessFlags := 2, nameIndex := 21, descriptorIndex := 22, attributes := #[] }, { accessFlags := 2, nameIndex := 25, descriptorIndex := 26, attributes := #[] }, { accessFlags := 26, nameIndex := 1116, descriptorIndex := 1117, attributes := #[] }, { accessFlags := 24, nameIndex := 40, descriptorIndex := 26, attributes := #[] }, { accessFlags := 26, nameIndex := 1101, descriptorIndex := 1102, attributes := #[] }, { accessFlags := 26, nameIndex := 1121, descriptorIndex := 1122, attributes := #[] }, { accessFlags := 25, nameIndex := 599, descriptorIndex := 600, attributes := #[] }, { accessFlags := 24, nameIndex := 1125, descriptorIndex := 18, attributes := #[] }, { accessFlags := 24, nameIndex := 1127, descriptorIndex := 18, attributes := #[] }])
  fields := #[{ name := "value", type := (.array .byte), accessFlags := 18, slot := 0, constantValue := 0 }, { name := "coder", type := .byte, accessFlags := 18, slot := 1, constantValue := 0 }, { name := "hash", type := .int, accessFlags := 2, slot := 2, constantValue := 0 }, { name := "hashIsZero", type := .boolean, accessFlags := 2, slot := 3, constantValue := 0 }, { name := "serialVersionUID", type := .long, accessFlags := 26, slot := 0, constantValue := 0 }, { name := "COMPACT_STRINGS", type := .boolean, accessFlags := 24, slot := 1, constantValue := 0 }, { name := "serialPersistentFields", type := (.array (.object "java/io/ObjectStreamField")), accessFlags := 26, slot := 2, constantValue := 0 }, { name := "REPL", type := .char, accessFlags := 26, slot := 3, constantValue := 0 }, { name := "CASE_INSENSITIVE_ORDER", type := (.object "java/util/Comparator"), accessFlags := 25, slot := 4, constantValue := 0 }, { name := "LATIN1", type := .byte, accessFlags := 24, slot := 5, constantValue := 0 }, { name := "UTF16", type := .byte, accessFlags := 24, slot := 6, constantValue := 0 }]
  methods := #[k9m0, k9m1]
  instanceTypes := #[(.array .byte), .byte, .int, .boolean]
  staticTypes := #[.long, .boolean, (.array (.object "java/io/ObjectStreamField")), .char, (.object "java/util/Comparator"), .byte, .byte]
  resolved := Array.replicate 1451 none
  statics := some 1 }

def pool10 : Array CpInfo := pool [(4, .class_ 6), (1, u "java/lang/Object"), (0, u "<init>"), (0, u "()V"), (5, .class_ 16), (1, u "java/lang/StringLatin1"), (104, u "$assertionsDisabled"), (0, u "Z"), (98, .class_ 223), (1, u "java/lang/StringLatin1$LinesSpliterator"), (57, u "equals"), (0, u "([B[B)Z"), (107, .class_ 391), (0, u "java/lang/StringLatin1$CharsSpliterator")] 3

def k10m0 : Method := { name := "<init>", desc := "()V", sig := { parameters := [], returnType := none }, accessFlags := 0, code := none }
def k10c1 : Code := { maxStack := 3, maxLocals := 3, code := jdk_43_method_13_code, exceptionTable := #[], attributes := #[] }
def k10m1 : Method := { name := "equals", desc := "([B[B)Z", sig := { parameters := [(.array .byte), (.array .byte)], returnType := some .boolean }, accessFlags := 9, code := some k10c1 }
/-- java/lang/StringLatin1 -/
def k10 : Class := { plain "java/lang/StringLatin1" (some 0) with
  accessFlags := 48
  interfaces := #[]
  cf := some (fileOf pool10 14 #[.nestMembers #[390, 221]] #[{ accessFlags := 0, nameIndex := 7, descriptorIndex := 8, attributes := #[] }, { accessFlags := 9, nameIndex := 281, descriptorIndex := 282, attributes := #[] }] 48 4 #[] #[{ accessFlags := 4120, nameIndex := 121, descriptorIndex := 122, attributes := #[] }])
  fields := #[{ name := "$assertionsDisabled", type := .boolean, accessFlags := 4120, slot := 0, constantValue := 0 }]
  methods := #[k10m0, k10m1]
  instanceTypes := #[]
  staticTypes := #[.boolean]
  resolved := Array.replicate 395 none
  statics := none }

def pool11 : Array CpInfo := pool [(2, .class_ 4), (1, u "java/lang/Object"), (0, u "<init>"), (0, u "()V"), (17, .class_ 26), (1, u "jdk/internal/util/Preconditions"), (28, .class_ 56), (0, u "jdk/internal/util/Preconditions$4"), (57, .class_ 115), (0, u "jdk/internal/util/Preconditions$1"), (7, u "SIOOBE_FORMATTER"), (0, u "Ljava/util/function/BiFunction;"), (0, .class_ 126), (0, u "jdk/internal/util/Preconditions$2"), (3, u "AIOOBE_FORMATTER"), (0, .class_ 132), (0, u "jdk/internal/util/Preconditions$3"), (3, u "IOOBE_FORMATTER")] 57

def k11m0 : Method := { name := "<init>", desc := "()V", sig := { parameters := [], returnType := none }, accessFlags := 1, code := none }
/-- jdk/internal/util/Preconditions -/
def k11 : Class := { plain "jdk/internal/util/Preconditions" (some 0) with
  accessFlags := 33
  interfaces := #[]
  cf := some (fileOf pool11 24 #[.nestMembers #[55, 131, 125, 114]] #[{ accessFlags := 1, nameIndex := 5, descriptorIndex := 6, attributes := #[] }] 33 2 #[] #[{ accessFlags := 25, nameIndex := 123, descriptorIndex := 124, attributes := #[] }, { accessFlags := 25, nameIndex := 130, descriptorIndex := 124, attributes := #[] }, { accessFlags := 25, nameIndex := 136, descriptorIndex := 124, attributes := #[] }])
  fields := #[{ name := "SIOOBE_FORMATTER", type := (.object "java/util/function/BiFunction"), accessFlags := 25, slot := 0, constantValue := 0 }, { name := "AIOOBE_FORMATTER", type := (.object "java/util/function/BiFunction"), accessFlags := 25, slot := 1, constantValue := 0 }, { name := "IOOBE_FORMATTER", type := (.object "java/util/function/BiFunction"), accessFlags := 25, slot := 2, constantValue := 0 }]
  methods := #[k11m0]
  instanceTypes := #[]
  staticTypes := #[(.object "java/util/function/BiFunction"), (.object "java/util/function/BiFunction"), (.object "java/util/function/BiFunction")]
  resolved := Array.replicate 194 none
  statics := some 2 }

def pool12 : Array CpInfo := pool [(9, u "<init>"), (6, .class_ 18), (1, u "java/lang/Object"), (0, u "()V"), (1, .class_ 23), (1, u "jdk/internal/util/ArraysSupport"), (0, u "LOG2_ARRAY_LONG_INDEX_SCALE"), (0, u "I"), (2, u "U"), (0, u "Ljdk/internal/misc/Unsafe;"), (8, u "BIG_ENDIAN"), (0, u "Z"), (8, u "LOG2_BYTE_BIT_SIZE"), (4, u "LOG2_ARRAY_INT_INDEX_SCALE"), (54, u "JLA"), (0, u "Ljdk/internal/access/JavaLangAccess;"), (11, u "LOG2_ARRAY_BOOLEAN_INDEX_SCALE"), (9, u "LOG2_ARRAY_BYTE_INDEX_SCALE"), (5, u "LOG2_ARRAY_CHAR_INDEX_SCALE"), (5, u "LOG2_ARRAY_SHORT_INDEX_SCALE"), (18, u "LOG2_ARRAY_FLOAT_INDEX_SCALE"), (24, u "LOG2_ARRAY_DOUBLE_INDEX_SCALE"), (89, u "T_BOOLEAN"), (2, u "T_CHAR"), (1, u "T_FLOAT"), (1, u "T_DOUBLE"), (1, u "T_BYTE"), (1, u "T_SHORT"), (1, u "T_INT"), (1, u "T_LONG"), (1, u "SOFT_MAX_ARRAY_LENGTH")] 83

def k12m0 : Method := { name := "<init>", desc := "()V", sig := { parameters := [], returnType := none }, accessFlags := 2, code := none }
/-- jdk/internal/util/ArraysSupport -/
def k12 : Class := { plain "jdk/internal/util/ArraysSupport" (some 0) with
  accessFlags := 33
  interfaces := #[]
  cf := some (fileOf pool12 21 #[] #[{ accessFlags := 2, nameIndex := 9, descriptorIndex := 19, attributes := #[] }] 33 16 #[] #[{ accessFlags := 24, nameIndex := 28, descriptorIndex := 29, attributes := #[] }, { accessFlags := 26, nameIndex := 38, descriptorIndex := 39, attributes := #[] }, { accessFlags := 25, nameIndex := 121, descriptorIndex := 25, attributes := #[] }, { accessFlags := 25, nameIndex := 131, descriptorIndex := 25, attributes := #[] }, { accessFlags := 25, nameIndex := 137, descriptorIndex := 25, attributes := #[] }, { accessFlags := 25, nameIndex := 143, descriptorIndex := 25, attributes := #[] }, { accessFlags := 25, nameIndex := 53, descriptorIndex := 25, attributes := #[] }, { accessFlags := 25, nameIndex := 24, descriptorIndex := 25, attributes := #[] }, { accessFlags := 25, nameIndex := 162, descriptorIndex := 25, attributes := #[] }, { accessFlags := 25, nameIndex := 187, descriptorIndex := 25, attributes := #[] }, { accessFlags := 26, nameIndex := 48, descriptorIndex := 25, attributes := #[] }, { accessFlags := 25, nameIndex := 277, descriptorIndex := 25, attributes := #[] }, { accessFlags := 25, nameIndex := 280, descriptorIndex := 25, attributes := #[] }, { accessFlags := 25, nameIndex := 282, descriptorIndex := 25, attributes := #[] }, { accessFlags := 25, nameIndex := 284, descriptorIndex := 25, attributes := #[] }, { accessFlags := 25, nameIndex := 286, descriptorIndex := 25, attributes := #[] }, { accessFlags := 25, nameIndex := 288, descriptorIndex := 25, attributes := #[] }, { accessFlags := 25, nameIndex := 290, descriptorIndex := 25, attributes := #[] }, { accessFlags := 25, nameIndex := 292, descriptorIndex := 25, attributes := #[] }, { accessFlags := 26, nameIndex := 108, descriptorIndex := 109, attributes := #[] }, { accessFlags := 25, nameIndex := 294, descriptorIndex := 25, attributes := #[] }])
  fields := #[{ name := "U", type := (.object "jdk/internal/misc/Unsafe"), accessFlags := 24, slot := 0, constantValue := 0 }, { name := "BIG_ENDIAN", type := .boolean, accessFlags := 26, slot := 1, constantValue := 0 }, { name := "LOG2_ARRAY_BOOLEAN_INDEX_SCALE", type := .int, accessFlags := 25, slot := 2, constantValue := 0 }, { name := "LOG2_ARRAY_BYTE_INDEX_SCALE", type := .int, accessFlags := 25, slot := 3, constantValue := 0 }, { name := "LOG2_ARRAY_CHAR_INDEX_SCALE", type := .int, accessFlags := 25, slot := 4, constantValue := 0 }, { name := "LOG2_ARRAY_SHORT_INDEX_SCALE", type := .int, accessFlags := 25, slot := 5, constantValue := 0 }, { name := "LOG2_ARRAY_INT_INDEX_SCALE", type := .int, accessFlags := 25, slot := 6, constantValue := 0 }, { name := "LOG2_ARRAY_LONG_INDEX_SCALE", type := .int, accessFlags := 25, slot := 7, constantValue := 0 }, { name := "LOG2_ARRAY_FLOAT_INDEX_SCALE", type := .int, accessFlags := 25, slot := 8, constantValue := 0 }, { name := "LOG2_ARRAY_DOUBLE_INDEX_SCALE", type := .int, accessFlags := 25, slot := 9, constantValue := 0 }, { name := "LOG2_BYTE_BIT_SIZE", type := .int, accessFlags := 26, slot := 10, constantValue := 0 }, { name := "T_BOOLEAN", type := .int, accessFlags := 25, slot := 11, constantValue := 0 }, { name := "T_CHAR", type := .int, accessFlags := 25, slot := 12, constantValue := 0 }, { name := "T_FLOAT", type := .int, accessFlags := 25, slot := 13, constantValue := 0 }, { name := "T_DOUBLE", type := .int, accessFlags := 25, slot := 14, constantValue := 0 }, { name := "T_BYTE", type := .int, accessFlags := 25, slot := 15, constantValue := 0 }, { name := "T_SHORT", type := .int, accessFlags := 25, slot := 16, constantValue := 0 }, { name := "T_INT", type := .int, accessFlags := 25, slot := 17, constantValue := 0 }, { name := "T_LONG", type := .int, accessFlags := 25, slot := 18, constantValue := 0 }, { name := "JLA", type := (.object "jdk/internal/access/JavaLangAccess"), accessFlags := 26, slot := 19, constantValue := 0 }, { name := "SOFT_MAX_ARRAY_LENGTH", type := .int, accessFlags := 25, slot := 20, constantValue := 0 }]
  methods := #[k12m0]
  instanceTypes := #[]
  staticTypes := #[(.object "jdk/internal/misc/Unsafe"), .boolean, .int, .int, .int, .int, .int, .int, .int, .int, .int, .int, .int, .int, .int, .int, .int, .int, .int, (.object "jdk/internal/access/JavaLangAccess"), .int]
  resolved := Array.replicate 378 none
  statics := none }

def pool13 : Array CpInfo := pool [(1, u "java/lang/Cloneable"), (0, .class_ 1), (0, u "java/lang/Object"), (0, .class_ 3)] 3

/-- java/lang/Cloneable -/
def k13 : Class := { plain "java/lang/Cloneable" (some 0) with
  accessFlags := 1537
  interfaces := #[]
  cf := some (fileOf pool13 2 #[] #[] 1537 4 #[] #[])
  fields := #[]
  methods := #[]
  instanceTypes := #[]
  staticTypes := #[]
  resolved := Array.replicate 8 none
  statics := none }

/-- the primitive byte -/
def k14 : Class := { plain "byte" none with kind := .primitive 'B', accessFlags := 0x411 }
/-- [B -/
def k15 : Class := { plain "[B" (some 0) with kind := .array 14 .byte, interfaces := #[13, 4], accessFlags := 1041 }

/-- the primitive int -/
def k16 : Class := { plain "int" none with kind := .primitive 'I', accessFlags := 0x411 }
/-- [I -/
def k17 : Class := { plain "[I" (some 0) with kind := .array 16 .int, interfaces := #[13, 4], accessFlags := 1041 }

def heap : Heap := #[{ cls := 6, slots := #[.ref 8, .ref 11, .ref 14, .ref 5, .null], vm := .statics 6 },
  { cls := 9, slots := #[.long 0, .int 1, .null, .int 0, .null, .int 0, .int 0], vm := .statics 9 },
  { cls := 11, slots := #[.null, .null, .null], vm := .statics 11 },
  { cls := 15, slots := #[.int 104, .int 116, .int 116, .int 112, .int 115], vm := .none },
  { cls := 9, slots := #[.ref 3, .int 0, .int 0, .int 0], vm := .none },
  { cls := 6, slots := #[.null, .int 3, .int 0, .ref 4], vm := .none },
  { cls := 15, slots := #[.int 112, .int 117, .int 108, .int 115, .int 97, .int 114], vm := .none },
  { cls := 9, slots := #[.ref 6, .int 0, .int 0, .int 0], vm := .none },
  { cls := 6, slots := #[.null, .int 0, .int 0, .ref 7], vm := .none },
  { cls := 15, slots := #[.int 112, .int 117, .int 108, .int 115, .int 97, .int 114, .int 43, .int 115, .int 115, .int 108], vm := .none },
  { cls := 9, slots := #[.ref 9, .int 0, .int 0, .int 0], vm := .none },
  { cls := 6, slots := #[.null, .int 1, .int 0, .ref 10], vm := .none },
  { cls := 15, slots := #[.int 104, .int 116, .int 116, .int 112], vm := .none },
  { cls := 9, slots := #[.ref 12, .int 0, .int 0, .int 0], vm := .none },
  { cls := 6, slots := #[.null, .int 2, .int 0, .ref 13], vm := .none }]
def classes : Array Class := #[k0, k1, k2, k3, k4, k5, k6, k7, k8, k9, k10, k11, k12, k13, k14, k15, k16, k17]
def interned : List (Array UInt16 × Addr) := []
def slotsUsed : Nat := 72
def theMethod : MethodId := ⟨1, 1⟩
def args0 : Array Value := #[.int 5]
def aboutOver (below : List Frame) : State where
  vm := { classes := classes, interned := interned.toArray }
  heap := heap
  slotsUsed := slotsUsed
  threads := #[{ frames := .invoking theMethod args0 :: below }]
def below0 : List Frame := [.native { method := ⟨0, 0⟩, args := #[] }]
def about1 : State := aboutOver below0
def p0 : Program := .bare "" "" ""
def e0 : Env := launch0.env 0 0 0
theorem w_frames : about1.frames = Frame.invoking theMethod args0 :: below0 := rfl
set_option maxRecDepth 65536 in
theorem w_args : argsFit about1.vm theMethod args0 = true := by decide +kernel
set_option maxRecDepth 65536 in
theorem w_heap : heapFits about1 = true := by decide +kernel
set_option maxRecDepth 65536 in
theorem w_runnable : about1.curStatus? = some .runnable := by decide +kernel
set_option maxRecDepth 65536 in
theorem w_alone : about1.alone = true := by decide +kernel
set_option maxRecDepth 65536 in
theorem w_named : about1.methodNamed? x = some theMethod := by decide +kernel
set_option maxRecDepth 65536 in
theorem w_hears : about1.hears theMethod below0 = true := by decide +kernel
set_option maxRecDepth 65536 in
theorem w_ripe : about1.ripe theMethod args0 below0 = true := by decide +kernel
theorem w_running : about1.status = .running := rfl
set_option maxRecDepth 65536 in
theorem w_room : about1.hasRoom e0.platform room_1 = true :=
  launch0.hasRoom_least _ room_1 (by decide +kernel) (by decide +kernel) (by decide +kernel) (by decide +kernel) (by decide +kernel) (by decide +kernel)
theorem allAtoms_all (ts : List Jvm.Cond) (a : Array Jvm.Value) (st : Jvm.State) : (allAtoms ts).before a st = ts.all (fun c => c.before a st) := by
  induction ts with
  | nil => rfl
  | cons c t ih =>
    show (Jvm.Cond.and c (allAtoms t)).before a st = _
    rw [Jvm.Cond.before_and, ih, List.all_cons]
def words1 : List Jvm.Cond := Jvm.Cond.code x code maxLocals ret :: tables_1
/-- a 'code' word, met by the world's own term for the bytes: nothing is compared byte by byte -/
theorem code_word {y : MethodName} {bytes : ByteArray} {mx : Nat} {rt : Option FieldType} {a : Array Value} {s : State} {m : MethodId} {meth : Method} {c : Code} (h1 : s.methodNamed? y = some m) (h2 : s.vm.method? m = some meth) (h3 : meth.code = some c) (h4 : c.code = bytes)
    (h5 : (c.maxLocals == mx && c.exceptionTable.isEmpty && decide (c.maxStack ≤ mostOperands) && decide (meth.sig.returnType = rt) && !meth.locks && decide (parseMethodDescriptor y.desc = some meth.sig)) = true) : (Jvm.Cond.code y bytes mx rt).before a s = true := by
  simp only [Bool.and_eq_true, beq_iff_eq, Bool.not_eq_true', decide_eq_true_eq] at h5
  obtain ⟨⟨⟨⟨⟨g1, g2⟩, g3⟩, g4⟩, g5⟩, g6⟩ := h5
  simp [Cond.before, Cond.holds, Cond.value, h1, h2, h3, h4, g1, g2, g3, g4, g5, g6]
def isCode : Jvm.Cond → Bool
  | .code _ _ _ _ => true
  | _ => false
theorem all_split {L : List Jvm.Cond} {P : Jvm.Cond → Bool} (h1 : L.all (fun c => isCode c || P c) = true) (h2 : ∀ c ∈ L.filter isCode, P c = true) : L.all P = true := by
  refine List.all_eq_true.mpr fun c hc => ?_
  have h := List.all_eq_true.mp h1 c hc
  rcases Bool.eq_false_or_eq_true (isCode c) with hi | hi
  · exact h2 c (List.mem_filter.mpr ⟨hc, hi⟩)
  · simpa [hi] using h
set_option maxRecDepth 65536 in
theorem w_c0 : (Jvm.Cond.code x code maxLocals ret).before args0 about1 = true := code_word (m := ⟨1, 1⟩) (meth := k1m1) (c := k1c1) (by decide +kernel) rfl rfl rfl (by decide +kernel)
set_option maxRecDepth 65536 in
theorem w_c1 : (Jvm.Cond.code ({ cls := "com/example/usher/usher/Scheme", name := "getText", desc := "()Ljava/lang/String;" } : Jvm.MethodName) prog_36_method_5_code (1 : Nat) (Option.some (Jvm.ClassFile.FieldType.object "java/lang/String"))).before args0 about1 = true := code_word (m := ⟨6, 0⟩) (meth := k6m0) (c := k6c0) (by decide +kernel) rfl rfl rfl (by decide +kernel)
set_option maxRecDepth 65536 in
theorem w_c2 : (Jvm.Cond.code ({ cls := "java/lang/String", name := "equals", desc := "(Ljava/lang/Object;)Z" } : Jvm.MethodName) jdk_42_method_66_code (3 : Nat) (Option.some Jvm.ClassFile.FieldType.boolean)).before args0 about1 = true := code_word (m := ⟨9, 1⟩) (meth := k9m1) (c := k9c1) (by decide +kernel) rfl rfl rfl (by decide +kernel)
set_option maxRecDepth 65536 in
theorem w_c3 : (Jvm.Cond.code ({ cls := "java/lang/StringLatin1", name := "equals", desc := "([B[B)Z" } : Jvm.MethodName) jdk_43_method_13_code (3 : Nat) (Option.some Jvm.ClassFile.FieldType.boolean)).before args0 about1 = true := code_word (m := ⟨10, 1⟩) (meth := k10m1) (c := k10c1) (by decide +kernel) rfl rfl rfl (by decide +kernel)
set_option maxRecDepth 65536 in
theorem w_c4 : (Jvm.Cond.code ({ cls := "com/example/usher/usher/Scheme", name := "isBinary", desc := "()Z" } : Jvm.MethodName) prog_36_method_6_code (1 : Nat) (Option.some Jvm.ClassFile.FieldType.boolean)).before args0 about1 = true := code_word (m := ⟨6, 1⟩) (meth := k6m1) (c := k6c1) (by decide +kernel) rfl rfl rfl (by decide +kernel)
def codes1 : List Jvm.Cond := [Jvm.Cond.code x code maxLocals ret, Jvm.Cond.code ({ cls := "com/example/usher/usher/Scheme", name := "getText", desc := "()Ljava/lang/String;" } : Jvm.MethodName) prog_36_method_5_code (1 : Nat) (Option.some (Jvm.ClassFile.FieldType.object "java/lang/String")), Jvm.Cond.code ({ cls := "java/lang/String", name := "equals", desc := "(Ljava/lang/Object;)Z" } : Jvm.MethodName) jdk_42_method_66_code (3 : Nat) (Option.some Jvm.ClassFile.FieldType.boolean), Jvm.Cond.code ({ cls := "java/lang/StringLatin1", name := "equals", desc := "([B[B)Z" } : Jvm.MethodName) jdk_43_method_13_code (3 : Nat) (Option.some Jvm.ClassFile.FieldType.boolean), Jvm.Cond.code ({ cls := "com/example/usher/usher/Scheme", name := "isBinary", desc := "()Z" } : Jvm.MethodName) prog_36_method_6_code (1 : Nat) (Option.some Jvm.ClassFile.FieldType.boolean)]
set_option maxRecDepth 65536 in
theorem codes_eq : words1.filter isCode = codes1 := rfl
theorem w_codes : ∀ c ∈ words1.filter isCode, c.before args0 about1 = true := by
  rw [codes_eq]
  intro c hc
  simp only [codes1, List.mem_cons, List.not_mem_nil, or_false] at hc
  rcases hc with rfl | rfl | rfl | rfl | rfl
  · exact w_c0
  · exact w_c1
  · exact w_c2
  · exact w_c3
  · exact w_c4
set_option maxRecDepth 65536 in
theorem w_t1 : (words1.take 24).all (fun c => isCode c || c.before args0 about1) = true := by decide +kernel
set_option maxRecDepth 65536 in
theorem w_t2 : (words1.drop 24).all (fun c => isCode c || c.before args0 about1) = true := by decide +kernel
theorem w_tables : (allAtoms (Jvm.Cond.code x code maxLocals ret :: tables_1)).before args0 about1 = true := by
  rw [allAtoms_all]
  show words1.all (fun c => c.before args0 about1) = true
  refine all_split ?_ w_codes
  rw [← List.take_append_drop 24 words1, List.all_append, w_t1, w_t2]
  rfl
set_option maxRecDepth 65536 in
theorem w_rest : rest_1_c.before args0 about1 = true := by decide +kernel
set_option maxRecDepth 65536 in
theorem w_case : (Jvm.Cond.and given_1 narrow_1).before args0 about1 = true := by decide +kernel
set_option maxRecDepth 65536 in
theorem w_consts : constsHeld consts_1 about1 := Jvm.Lit.constsHeldB_iff.mp (by decide +kernel)
theorem w_applies : (headSpec (Jvm.Cond.code x code maxLocals ret :: tables_1) room_1).applies x e0.platform about1 = true :=
  (Spec.applies_iff w_frames).mpr ⟨w_running, w_runnable, w_alone, w_named, w_hears, w_ripe, w_room, w_tables⟩
theorem atStart : AtStart classFile x code maxLocals ret World_1 tables_1 room_1 Calls_1 rest_1 Pre_1 launch0 p0 e0 about1 theMethod args0 below0 :=
  ⟨lists_1, trivial, launch0.admits_env _ _ _, launch0.least_env, fairChoices_fair.cas, fairChoices_fair.clock, w_frames, w_args, w_heap, w_applies, ⟨w_consts, trivial⟩, w_rest, w_case⟩
end start1
theorem witness_1 : WitnessClaimed_1 := ⟨start1.p0, start1.e0, start1.about1, start1.theMethod, start1.args0, start1.below0, start1.atStart⟩
end Jvm.Pilot.@@N@@
