import JvmDerived
import JvmDerived.Pilot.@@N@@Statement
import JvmDerived.Pilot.@@N@@Code
set_option linter.unusedVariables false
set_option linter.unusedSimpArgs false
namespace Jvm.Pilot.@@N@@
open Jvm Jvm.ClassFile Sem Op Lib Jvm.Free Jvm.Stand Jvm.LawKit Jvm.RoadKit Bundle Jvm.Pilot.@@N@@.Jvm.D
/-! ## the shared layer: own_Go and its laws -/
def Go (p : Program) (e : Env) (below : List Frame) (P : State → Outcome → Prop) (T : State) (g : JFrame) : Prop := ∃ t o, Steps p.tables e below (T.setTop g) t ∧ t.status = .running ∧ Ended t below o ∧ P t o
def RP (s : State) (k n : Nat) (Q : Option Value → Heap → List Loc → Prop) (t : State) (o : Outcome) : Prop := ∃ v L, o = .returned v ∧ Q v t.heap L ∧ FrameEnd s o t L k n
theorem wd {a0 : Array Value} {Z : State} (hw : ∀ d ∈ tables_1, d.before a0 Z = true) (k : Nat) {d : Jvm.Cond} (h : tables_1[k]? = some d) : d.before a0 Z = true := hw _ (List.mem_of_getElem? h)
section OwnGo
variable {p : Program} {l : Launch} {e : Env} {R : Room} {s : State} {m : MethodId} {args : Array Value} {below : List Frame} {meth : Method} {c : Code} {T : State} {locs : List Loc} {cells slots : Nat} {P : State → Outcome → Prop} {pc : Nat} {Ls : Array Slot} {st : List Value} {Z : State} {a0 : Array Value} {h : Heap}
theorem Go.stp {T' : State} {g g' : JFrame} (G : Go p e below P T' g') (k : ∀ t, Steps p.tables e below (T'.setTop g') t → Steps p.tables e below (T.setTop g) t) : Go p e below P T g := by
  obtain ⟨t, o, h, r⟩ := G
  exact ⟨t, o, k t h, r⟩
theorem Go.cast {g g' : JFrame} (q : g = g') (G : Go p e below P T g') : Go p e below P T g := q ▸ G
theorem g_iload (X : Stand p l e R s m args below meth c T locs cells slots) (hx : p.tables.exec = Jvm.exec) {k : Nat} {v : Int32} (hl : Ls[k]? = some (.val (.int v))) (hd : decode c.code pc = .ok (.iload k, 2)) (pc' : Nat) (hp : pc + 2 = pc') (G : Go p e below P T (mkF m pc' Ls (.int v :: st))) : Go p e below P T (mkF m pc Ls st) := by
  subst hp
  exact G.stp fun _ h => XS.iload X.here hx rfl hd hl h
theorem g_iloadN (X : Stand p l e R s m args below meth c T locs cells slots) (hx : p.tables.exec = Jvm.exec) {k : Fin 4} {v : Int32} (hl : Ls[k.val]? = some (.val (.int v))) (hd : decode c.code pc = .ok (.iload_n k, 1)) (pc' : Nat) (hp : pc + 1 = pc') (G : Go p e below P T (mkF m pc' Ls (.int v :: st))) : Go p e below P T (mkF m pc Ls st) := by
  subst hp
  exact G.stp fun _ h => XS.iloadN X.here hx rfl hd hl h
theorem g_istore (X : Stand p l e R s m args below meth c T locs cells slots) (hx : p.tables.exec = Jvm.exec) {k : Nat} {v : Int32} (l' : Array Slot) (hl : storeLocals Ls k (.int v) = some l') (hd : decode c.code pc = .ok (.istore k, 2)) (pc' : Nat) (hp : pc + 2 = pc') (G : Go p e below P T (mkF m pc' l' st)) : Go p e below P T (mkF m pc Ls (.int v :: st)) := by
  subst hp
  exact G.stp fun _ h => XS.istore X.here hx rfl hd rfl hl h
theorem g_istoreN (X : Stand p l e R s m args below meth c T locs cells slots) (hx : p.tables.exec = Jvm.exec) {k : Fin 4} {v : Int32} (l' : Array Slot) (hl : storeLocals Ls k.val (.int v) = some l') (hd : decode c.code pc = .ok (.istore_n k, 1)) (pc' : Nat) (hp : pc + 1 = pc') (G : Go p e below P T (mkF m pc' l' st)) : Go p e below P T (mkF m pc Ls (.int v :: st)) := by
  subst hp
  exact G.stp fun _ h => XS.istoreN X.here hx rfl hd rfl hl h
theorem g_lload (X : Stand p l e R s m args below meth c T locs cells slots) (hx : p.tables.exec = Jvm.exec) {k : Nat} {v : Int64} (hl : Ls[k]? = some (.val (.long v))) (hd : decode c.code pc = .ok (.lload k, 2)) (pc' : Nat) (hp : pc + 2 = pc') (G : Go p e below P T (mkF m pc' Ls (.long v :: st))) : Go p e below P T (mkF m pc Ls st) := by
  subst hp
  exact G.stp fun _ h => XT.lload X.here hx rfl hd hl h
theorem g_lloadN (X : Stand p l e R s m args below meth c T locs cells slots) (hx : p.tables.exec = Jvm.exec) {k : Fin 4} {v : Int64} (hl : Ls[k.val]? = some (.val (.long v))) (hd : decode c.code pc = .ok (.lload_n k, 1)) (pc' : Nat) (hp : pc + 1 = pc') (G : Go p e below P T (mkF m pc' Ls (.long v :: st))) : Go p e below P T (mkF m pc Ls st) := by
  subst hp
  exact G.stp fun _ h => XT.lloadN X.here hx rfl hd hl h
theorem g_lstore (X : Stand p l e R s m args below meth c T locs cells slots) (hx : p.tables.exec = Jvm.exec) {k : Nat} {v : Int64} (l' : Array Slot) (hl : storeLocals Ls k (.long v) = some l') (hd : decode c.code pc = .ok (.lstore k, 2)) (pc' : Nat) (hp : pc + 2 = pc') (G : Go p e below P T (mkF m pc' l' st)) : Go p e below P T (mkF m pc Ls (.long v :: st)) := by
  subst hp
  exact G.stp fun _ h => XT.lstore X.here hx rfl hd rfl hl h
theorem g_lstoreN (X : Stand p l e R s m args below meth c T locs cells slots) (hx : p.tables.exec = Jvm.exec) {k : Fin 4} {v : Int64} (l' : Array Slot) (hl : storeLocals Ls k.val (.long v) = some l') (hd : decode c.code pc = .ok (.lstore_n k, 1)) (pc' : Nat) (hp : pc + 1 = pc') (G : Go p e below P T (mkF m pc' l' st)) : Go p e below P T (mkF m pc Ls (.long v :: st)) := by
  subst hp
  exact G.stp fun _ h => XT.lstoreN X.here hx rfl hd rfl hl h
theorem g_aload (X : Stand p l e R s m args below meth c T locs cells slots) (hx : p.tables.exec = Jvm.exec) {k : Nat} {v : Value} (hl : Ls[k]? = some (.val v)) (hv : v.isRef = true) (hd : decode c.code pc = .ok (.aload k, 2)) (pc' : Nat) (hp : pc + 2 = pc') (G : Go p e below P T (mkF m pc' Ls (v :: st))) : Go p e below P T (mkF m pc Ls st) := by
  subst hp
  exact G.stp fun _ h => XS.aload X.here hx rfl hd hl hv h
theorem g_aloadN (X : Stand p l e R s m args below meth c T locs cells slots) (hx : p.tables.exec = Jvm.exec) {k : Fin 4} {v : Value} (hl : Ls[k.val]? = some (.val v)) (hv : v.isRef = true) (hd : decode c.code pc = .ok (.aload_n k, 1)) (pc' : Nat) (hp : pc + 1 = pc') (G : Go p e below P T (mkF m pc' Ls (v :: st))) : Go p e below P T (mkF m pc Ls st) := by
  subst hp
  exact G.stp fun _ h => XS.aloadN X.here hx rfl hd hl hv h
theorem g_astore (X : Stand p l e R s m args below meth c T locs cells slots) (hx : p.tables.exec = Jvm.exec) {k : Nat} {v : Value} (l' : Array Slot) (hv : v.isRef = true) (hl : storeLocals Ls k v = some l') (hd : decode c.code pc = .ok (.astore k, 2)) (pc' : Nat) (hp : pc + 2 = pc') (G : Go p e below P T (mkF m pc' l' st)) : Go p e below P T (mkF m pc Ls (v :: st)) := by
  subst hp
  exact G.stp fun _ h => XS.astore X.here hx rfl hd rfl hv hl h
theorem g_astoreN (X : Stand p l e R s m args below meth c T locs cells slots) (hx : p.tables.exec = Jvm.exec) {k : Fin 4} {v : Value} (l' : Array Slot) (hv : v.isRef = true) (hl : storeLocals Ls k.val v = some l') (hd : decode c.code pc = .ok (.astore_n k, 1)) (pc' : Nat) (hp : pc + 1 = pc') (G : Go p e below P T (mkF m pc' l' st)) : Go p e below P T (mkF m pc Ls (v :: st)) := by
  subst hp
  exact G.stp fun _ h => XS.astoreN X.here hx rfl hd rfl hv hl h
theorem g_iconst (X : Stand p l e R s m args below meth c T locs cells slots) (hx : p.tables.exec = Jvm.exec) {i : Int} (v : Int32) (hv : Int32.ofInt i = v) (hd : decode c.code pc = .ok (.iconst i, 1)) (pc' : Nat) (hp : pc + 1 = pc') (G : Go p e below P T (mkF m pc' Ls (.int v :: st))) : Go p e below P T (mkF m pc Ls st) := by
  subst hp
  exact G.stp fun _ h => XT.iconstV X.here hx rfl v hd hv h
theorem g_bipush (X : Stand p l e R s m args below meth c T locs cells slots) (hx : p.tables.exec = Jvm.exec) {i : Int} (v : Int32) (hv : (Int8.ofInt i).toInt32 = v) (hd : decode c.code pc = .ok (.bipush i, 2)) (pc' : Nat) (hp : pc + 2 = pc') (G : Go p e below P T (mkF m pc' Ls (.int v :: st))) : Go p e below P T (mkF m pc Ls st) := by
  subst hp
  exact G.stp fun _ h => XT.bipushV X.here hx rfl v hd hv h
theorem g_sipush (X : Stand p l e R s m args below meth c T locs cells slots) (hx : p.tables.exec = Jvm.exec) {i : Int} (v : Int32) (hv : (Int16.ofInt i).toInt32 = v) (hd : decode c.code pc = .ok (.sipush i, 3)) (pc' : Nat) (hp : pc + 3 = pc') (G : Go p e below P T (mkF m pc' Ls (.int v :: st))) : Go p e below P T (mkF m pc Ls st) := by
  subst hp
  exact G.stp fun _ h => XT.sipushV X.here hx rfl v hd hv h
theorem g_lconst (X : Stand p l e R s m args below meth c T locs cells slots) (hx : p.tables.exec = Jvm.exec) {i : Fin 2} (v : Int64) (hv : Int64.ofNat i = v) (hd : decode c.code pc = .ok (.lconst i, 1)) (pc' : Nat) (hp : pc + 1 = pc') (G : Go p e below P T (mkF m pc' Ls (.long v :: st))) : Go p e below P T (mkF m pc Ls st) := by
  subst hp
  exact G.stp fun _ h => XT.lconstV X.here hx rfl v hd hv h
theorem g_aconst_null (X : Stand p l e R s m args below meth c T locs cells slots) (hx : p.tables.exec = Jvm.exec)  (hd : decode c.code pc = .ok (.aconst_null, 1)) (pc' : Nat) (hp : pc + 1 = pc') (G : Go p e below P T (mkF m pc' Ls (.null :: st))) : Go p e below P T (mkF m pc Ls st) := by
  subst hp
  exact G.stp fun _ h => XS.aconstNull X.here hx rfl hd h
theorem g_iadd (X : Stand p l e R s m args below meth c T locs cells slots) (hx : p.tables.exec = Jvm.exec) {x y : Int32} (hd : decode c.code pc = .ok (.iadd, 1)) (pc' : Nat) (hp : pc + 1 = pc') (G : Go p e below P T (mkF m pc' Ls (.int (x + y) :: st))) : Go p e below P T (mkF m pc Ls (.int y :: .int x :: st)) := by
  subst hp
  exact G.stp fun _ h => XS.iadd X.here hx rfl hd rfl h
theorem g_ladd (X : Stand p l e R s m args below meth c T locs cells slots) (hx : p.tables.exec = Jvm.exec) {x y : Int64} (hd : decode c.code pc = .ok (.ladd, 1)) (pc' : Nat) (hp : pc + 1 = pc') (G : Go p e below P T (mkF m pc' Ls (.long (x + y) :: st))) : Go p e below P T (mkF m pc Ls (.long y :: .long x :: st)) := by
  subst hp
  exact G.stp fun _ h => XT.ladd X.here hx rfl hd rfl h
theorem g_isub (X : Stand p l e R s m args below meth c T locs cells slots) (hx : p.tables.exec = Jvm.exec) {x y : Int32} (hd : decode c.code pc = .ok (.isub, 1)) (pc' : Nat) (hp : pc + 1 = pc') (G : Go p e below P T (mkF m pc' Ls (.int (x - y) :: st))) : Go p e below P T (mkF m pc Ls (.int y :: .int x :: st)) := by
  subst hp
  exact G.stp fun _ h => XS.isub X.here hx rfl hd rfl h
theorem g_lsub (X : Stand p l e R s m args below meth c T locs cells slots) (hx : p.tables.exec = Jvm.exec) {x y : Int64} (hd : decode c.code pc = .ok (.lsub, 1)) (pc' : Nat) (hp : pc + 1 = pc') (G : Go p e below P T (mkF m pc' Ls (.long (x - y) :: st))) : Go p e below P T (mkF m pc Ls (.long y :: .long x :: st)) := by
  subst hp
  exact G.stp fun _ h => XT.lsub X.here hx rfl hd rfl h
theorem g_imul (X : Stand p l e R s m args below meth c T locs cells slots) (hx : p.tables.exec = Jvm.exec) {x y : Int32} (hd : decode c.code pc = .ok (.imul, 1)) (pc' : Nat) (hp : pc + 1 = pc') (G : Go p e below P T (mkF m pc' Ls (.int (x * y) :: st))) : Go p e below P T (mkF m pc Ls (.int y :: .int x :: st)) := by
  subst hp
  exact G.stp fun _ h => XS.imul X.here hx rfl hd rfl h
theorem g_lmul (X : Stand p l e R s m args below meth c T locs cells slots) (hx : p.tables.exec = Jvm.exec) {x y : Int64} (hd : decode c.code pc = .ok (.lmul, 1)) (pc' : Nat) (hp : pc + 1 = pc') (G : Go p e below P T (mkF m pc' Ls (.long (x * y) :: st))) : Go p e below P T (mkF m pc Ls (.long y :: .long x :: st)) := by
  subst hp
  exact G.stp fun _ h => XT.lmul X.here hx rfl hd rfl h
theorem g_iand (X : Stand p l e R s m args below meth c T locs cells slots) (hx : p.tables.exec = Jvm.exec) {x y : Int32} (hd : decode c.code pc = .ok (.iand, 1)) (pc' : Nat) (hp : pc + 1 = pc') (G : Go p e below P T (mkF m pc' Ls (.int (x &&& y) :: st))) : Go p e below P T (mkF m pc Ls (.int y :: .int x :: st)) := by
  subst hp
  exact G.stp fun _ h => XS.iand X.here hx rfl hd rfl h
theorem g_land (X : Stand p l e R s m args below meth c T locs cells slots) (hx : p.tables.exec = Jvm.exec) {x y : Int64} (hd : decode c.code pc = .ok (.land, 1)) (pc' : Nat) (hp : pc + 1 = pc') (G : Go p e below P T (mkF m pc' Ls (.long (x &&& y) :: st))) : Go p e below P T (mkF m pc Ls (.long y :: .long x :: st)) := by
  subst hp
  exact G.stp fun _ h => XT.land X.here hx rfl hd rfl h
theorem g_ior (X : Stand p l e R s m args below meth c T locs cells slots) (hx : p.tables.exec = Jvm.exec) {x y : Int32} (hd : decode c.code pc = .ok (.ior, 1)) (pc' : Nat) (hp : pc + 1 = pc') (G : Go p e below P T (mkF m pc' Ls (.int (x ||| y) :: st))) : Go p e below P T (mkF m pc Ls (.int y :: .int x :: st)) := by
  subst hp
  exact G.stp fun _ h => XT.ior X.here hx rfl hd rfl h
theorem g_lor (X : Stand p l e R s m args below meth c T locs cells slots) (hx : p.tables.exec = Jvm.exec) {x y : Int64} (hd : decode c.code pc = .ok (.lor, 1)) (pc' : Nat) (hp : pc + 1 = pc') (G : Go p e below P T (mkF m pc' Ls (.long (x ||| y) :: st))) : Go p e below P T (mkF m pc Ls (.long y :: .long x :: st)) := by
  subst hp
  exact G.stp fun _ h => XT.lor X.here hx rfl hd rfl h
theorem g_ixor (X : Stand p l e R s m args below meth c T locs cells slots) (hx : p.tables.exec = Jvm.exec) {x y : Int32} (hd : decode c.code pc = .ok (.ixor, 1)) (pc' : Nat) (hp : pc + 1 = pc') (G : Go p e below P T (mkF m pc' Ls (.int (x ^^^ y) :: st))) : Go p e below P T (mkF m pc Ls (.int y :: .int x :: st)) := by
  subst hp
  exact G.stp fun _ h => XT.ixor X.here hx rfl hd rfl h
theorem g_lxor (X : Stand p l e R s m args below meth c T locs cells slots) (hx : p.tables.exec = Jvm.exec) {x y : Int64} (hd : decode c.code pc = .ok (.lxor, 1)) (pc' : Nat) (hp : pc + 1 = pc') (G : Go p e below P T (mkF m pc' Ls (.long (x ^^^ y) :: st))) : Go p e below P T (mkF m pc Ls (.long y :: .long x :: st)) := by
  subst hp
  exact G.stp fun _ h => XT.lxor X.here hx rfl hd rfl h
theorem g_idiv (X : Stand p l e R s m args below meth c T locs cells slots) (hx : p.tables.exec = Jvm.exec) {x y : Int32} (hy : y ≠ 0) (hd : decode c.code pc = .ok (.idiv, 1)) (pc' : Nat) (hp : pc + 1 = pc') (G : Go p e below P T (mkF m pc' Ls (.int (x / y) :: st))) : Go p e below P T (mkF m pc Ls (.int y :: .int x :: st)) := by
  subst hp
  exact G.stp fun _ h => XS.idiv X.here hx rfl hd rfl hy h
theorem g_irem (X : Stand p l e R s m args below meth c T locs cells slots) (hx : p.tables.exec = Jvm.exec) {x y : Int32} (hy : y ≠ 0) (hd : decode c.code pc = .ok (.irem, 1)) (pc' : Nat) (hp : pc + 1 = pc') (G : Go p e below P T (mkF m pc' Ls (.int (x % y) :: st))) : Go p e below P T (mkF m pc Ls (.int y :: .int x :: st)) := by
  subst hp
  exact G.stp fun _ h => iremM X hx rfl hd rfl hy h
theorem g_ldiv (X : Stand p l e R s m args below meth c T locs cells slots) (hx : p.tables.exec = Jvm.exec) {x y : Int64} (hy : y ≠ 0) (hd : decode c.code pc = .ok (.ldiv, 1)) (pc' : Nat) (hp : pc + 1 = pc') (G : Go p e below P T (mkF m pc' Ls (.long (x / y) :: st))) : Go p e below P T (mkF m pc Ls (.long y :: .long x :: st)) := by
  subst hp
  exact G.stp fun _ h => XT.ldiv X.here hx rfl hd rfl hy h
theorem g_lrem (X : Stand p l e R s m args below meth c T locs cells slots) (hx : p.tables.exec = Jvm.exec) {x y : Int64} (hy : y ≠ 0) (hd : decode c.code pc = .ok (.lrem, 1)) (pc' : Nat) (hp : pc + 1 = pc') (G : Go p e below P T (mkF m pc' Ls (.long (x % y) :: st))) : Go p e below P T (mkF m pc Ls (.long y :: .long x :: st)) := by
  subst hp
  rw [← lrem_mod] at G
  exact G.stp fun _ h => XT.lrem X.here hx rfl hd rfl hy h
theorem g_ishl (X : Stand p l e R s m args below meth c T locs cells slots) (hx : p.tables.exec = Jvm.exec) {x y : Int32} (hd : decode c.code pc = .ok (.ishl, 1)) (pc' : Nat) (hp : pc + 1 = pc') (G : Go p e below P T (mkF m pc' Ls (.int (x <<< (y &&& 31)) :: st))) : Go p e below P T (mkF m pc Ls (.int y :: .int x :: st)) := by
  subst hp
  exact G.stp fun _ h => XT.ishl X.here hx rfl hd rfl h
theorem g_ishr (X : Stand p l e R s m args below meth c T locs cells slots) (hx : p.tables.exec = Jvm.exec) {x y : Int32} (hd : decode c.code pc = .ok (.ishr, 1)) (pc' : Nat) (hp : pc + 1 = pc') (G : Go p e below P T (mkF m pc' Ls (.int (x >>> (y &&& 31)) :: st))) : Go p e below P T (mkF m pc Ls (.int y :: .int x :: st)) := by
  subst hp
  exact G.stp fun _ h => XT.ishr X.here hx rfl hd rfl h
theorem g_iushr (X : Stand p l e R s m args below meth c T locs cells slots) (hx : p.tables.exec = Jvm.exec) {x y : Int32} (hd : decode c.code pc = .ok (.iushr, 1)) (pc' : Nat) (hp : pc + 1 = pc') (G : Go p e below P T (mkF m pc' Ls (.int (XT.ushr x y) :: st))) : Go p e below P T (mkF m pc Ls (.int y :: .int x :: st)) := by
  subst hp
  exact G.stp fun _ h => XT.iushr X.here hx rfl hd rfl h
theorem g_lshl (X : Stand p l e R s m args below meth c T locs cells slots) (hx : p.tables.exec = Jvm.exec) {x : Int64} {y : Int32} (hd : decode c.code pc = .ok (.lshl, 1)) (pc' : Nat) (hp : pc + 1 = pc') (G : Go p e below P T (mkF m pc' Ls (.long (x <<< (y &&& 0x3f).toInt64) :: st))) : Go p e below P T (mkF m pc Ls (.int y :: .long x :: st)) := by
  subst hp
  exact G.stp fun _ h => XS.lshl X.here hx rfl hd rfl h
theorem g_lshr (X : Stand p l e R s m args below meth c T locs cells slots) (hx : p.tables.exec = Jvm.exec) {x : Int64} {y : Int32} (hd : decode c.code pc = .ok (.lshr, 1)) (pc' : Nat) (hp : pc + 1 = pc') (G : Go p e below P T (mkF m pc' Ls (.long (x >>> (y &&& 0x3f).toInt64) :: st))) : Go p e below P T (mkF m pc Ls (.int y :: .long x :: st)) := by
  subst hp
  exact G.stp fun _ h => XS.lshr X.here hx rfl hd rfl h
theorem g_lushr (X : Stand p l e R s m args below meth c T locs cells slots) (hx : p.tables.exec = Jvm.exec) {x : Int64} {y : Int32} (hd : decode c.code pc = .ok (.lushr, 1)) (pc' : Nat) (hp : pc + 1 = pc') (G : Go p e below P T (mkF m pc' Ls (.long (XT.ushrL x y) :: st))) : Go p e below P T (mkF m pc Ls (.int y :: .long x :: st)) := by
  subst hp
  exact G.stp fun _ h => XT.lushr X.here hx rfl hd rfl h
theorem g_ineg (X : Stand p l e R s m args below meth c T locs cells slots) (hx : p.tables.exec = Jvm.exec) {x : Int32} (hd : decode c.code pc = .ok (.ineg, 1)) (pc' : Nat) (hp : pc + 1 = pc') (G : Go p e below P T (mkF m pc' Ls (.int (-x) :: st))) : Go p e below P T (mkF m pc Ls (.int x :: st)) := by
  subst hp
  exact G.stp fun _ h => XS.ineg X.here hx rfl hd rfl h
theorem g_i2l (X : Stand p l e R s m args below meth c T locs cells slots) (hx : p.tables.exec = Jvm.exec) {x : Int32} (hd : decode c.code pc = .ok (.i2l, 1)) (pc' : Nat) (hp : pc + 1 = pc') (G : Go p e below P T (mkF m pc' Ls (.long x.toInt64 :: st))) : Go p e below P T (mkF m pc Ls (.int x :: st)) := by
  subst hp
  exact G.stp fun _ h => XT.i2l X.here hx rfl hd rfl h
theorem g_l2i (X : Stand p l e R s m args below meth c T locs cells slots) (hx : p.tables.exec = Jvm.exec) {x : Int64} (hd : decode c.code pc = .ok (.l2i, 1)) (pc' : Nat) (hp : pc + 1 = pc') (G : Go p e below P T (mkF m pc' Ls (.int x.toInt32 :: st))) : Go p e below P T (mkF m pc Ls (.long x :: st)) := by
  subst hp
  exact G.stp fun _ h => XT.l2i X.here hx rfl hd rfl h
theorem g_i2b (X : Stand p l e R s m args below meth c T locs cells slots) (hx : p.tables.exec = Jvm.exec) {x : Int32} (hd : decode c.code pc = .ok (.i2b, 1)) (pc' : Nat) (hp : pc + 1 = pc') (G : Go p e below P T (mkF m pc' Ls (.int x.toInt8.toInt32 :: st))) : Go p e below P T (mkF m pc Ls (.int x :: st)) := by
  subst hp
  exact G.stp fun _ h => XT.i2b X.here hx rfl hd rfl h
theorem g_i2s (X : Stand p l e R s m args below meth c T locs cells slots) (hx : p.tables.exec = Jvm.exec) {x : Int32} (hd : decode c.code pc = .ok (.i2s, 1)) (pc' : Nat) (hp : pc + 1 = pc') (G : Go p e below P T (mkF m pc' Ls (.int x.toInt16.toInt32 :: st))) : Go p e below P T (mkF m pc Ls (.int x :: st)) := by
  subst hp
  exact G.stp fun _ h => XT.i2s X.here hx rfl hd rfl h
theorem g_i2c (X : Stand p l e R s m args below meth c T locs cells slots) (hx : p.tables.exec = Jvm.exec) {x : Int32} (hd : decode c.code pc = .ok (.i2c, 1)) (pc' : Nat) (hp : pc + 1 = pc') (G : Go p e below P T (mkF m pc' Ls (.int x.toUInt32.toUInt16.toUInt32.toInt32 :: st))) : Go p e below P T (mkF m pc Ls (.int x :: st)) := by
  subst hp
  exact G.stp fun _ h => XT.i2c X.here hx rfl hd rfl h
theorem g_pop (X : Stand p l e R s m args below meth c T locs cells slots) (hx : p.tables.exec = Jvm.exec) {x : Value} (hc : x.category = 1) (hd : decode c.code pc = .ok (.pop, 1)) (pc' : Nat) (hp : pc + 1 = pc') (G : Go p e below P T (mkF m pc' Ls st)) : Go p e below P T (mkF m pc Ls (x :: st)) := by
  subst hp
  exact G.stp fun _ h => XT.pop X.here hx rfl hd rfl hc h
theorem g_dup (X : Stand p l e R s m args below meth c T locs cells slots) (hx : p.tables.exec = Jvm.exec) {x : Value} (hc : x.category = 1) (hd : decode c.code pc = .ok (.dup, 1)) (pc' : Nat) (hp : pc + 1 = pc') (G : Go p e below P T (mkF m pc' Ls (x :: x :: st))) : Go p e below P T (mkF m pc Ls (x :: st)) := by
  subst hp
  exact G.stp fun _ h => XS.dup X.here hx rfl hd rfl hc h
theorem g_dup_x1 (X : Stand p l e R s m args below meth c T locs cells slots) (hx : p.tables.exec = Jvm.exec) {x y : Value} (hc : x.category = 1) (hc' : y.category = 1) (hd : decode c.code pc = .ok (.dup_x1, 1)) (pc' : Nat) (hp : pc + 1 = pc') (G : Go p e below P T (mkF m pc' Ls (x :: y :: x :: st))) : Go p e below P T (mkF m pc Ls (x :: y :: st)) := by
  subst hp
  exact G.stp fun _ h => XT.dupX1 X.here hx rfl hd rfl hc hc' h
theorem g_dup2 (X : Stand p l e R s m args below meth c T locs cells slots) (hx : p.tables.exec = Jvm.exec) {x y : Value} (hc : x.category = 1) (hc' : y.category = 1) (hd : decode c.code pc = .ok (.dup2, 1)) (pc' : Nat) (hp : pc + 1 = pc') (G : Go p e below P T (mkF m pc' Ls (x :: y :: x :: y :: st))) : Go p e below P T (mkF m pc Ls (x :: y :: st)) := by
  subst hp
  exact G.stp fun _ h => XT.dup2 X.here hx rfl hd rfl hc hc' h
theorem g_iinc (X : Stand p l e R s m args below meth c T locs cells slots) (hx : p.tables.exec = Jvm.exec) {k : Nat} {cst : Int} {x : Int32} (v : Int32) (hv : Int32.ofInt cst = v) (hl : Ls[k]? = some (.val (.int x))) (l' : Array Slot) (hl' : storeLocals Ls k (.int (x + v)) = some l') (hd : decode c.code pc = .ok (.iinc k cst, 3)) (pc' : Nat) (hp : pc + 3 = pc') (G : Go p e below P T (mkF m pc' l' st)) : Go p e below P T (mkF m pc Ls st) := by
  subst hp
  exact G.stp fun _ h => XT.iincV X.here hx rfl v hd hv hl hl' h
theorem g_goto (X : Stand p l e R s m args below meth c T locs cells slots) (hx : p.tables.exec = Jvm.exec) {o : Int} (hd : decode c.code pc = .ok (.goto o, 3)) (pc' : Nat) (ho : 0 ≤ (pc : Int) + o) (hp : ((pc : Int) + o).toNat = pc') (G : Go p e below P T (mkF m pc' Ls st)) : Go p e below P T (mkF m pc Ls st) := by
  exact G.stp fun _ h => XS.goto X.here hx rfl rfl hd ho hp h
theorem g_icmp_eq (X : Stand p l e R s m args below meth c T locs cells slots) (hx : p.tables.exec = Jvm.exec) {x y : Int32} {o : Int} (hd : decode c.code pc = .ok (.if_icmp .eq o, 3)) (pcT pcF : Nat) (ho : 0 ≤ (pc : Int) + o) (hT : ((pc : Int) + o).toNat = pcT) (hF : pc + 3 = pcF) (G1 : x = y → Go p e below P T (mkF m pcT Ls st)) (G2 : ¬ x = y → Go p e below P T (mkF m pcF Ls st)) : Go p e below P T (mkF m pc Ls (.int y :: .int x :: st)) := by
  by_cases q : x = y
  · exact (G1 q).stp fun _ h => XS.icmpYes X.here hx rfl rfl hd rfl (XT.ii_eq_t q) ho hT h
  · subst hF
    exact (G2 q).stp fun _ h => XS.icmpNo X.here hx rfl hd rfl (XT.ii_eq_f q) h
theorem g_if_eq (X : Stand p l e R s m args below meth c T locs cells slots) (hx : p.tables.exec = Jvm.exec) {x : Int32} {o : Int} (hd : decode c.code pc = .ok (.ifCond .eq o, 3)) (pcT pcF : Nat) (ho : 0 ≤ (pc : Int) + o) (hT : ((pc : Int) + o).toNat = pcT) (hF : pc + 3 = pcF) (G1 : x = 0 → Go p e below P T (mkF m pcT Ls st)) (G2 : ¬ x = 0 → Go p e below P T (mkF m pcF Ls st)) : Go p e below P T (mkF m pc Ls (.int x :: st)) := by
  by_cases q : x = 0
  · exact (G1 q).stp fun _ h => XS.ifYes X.here hx rfl rfl hd rfl (XT.i0_eq_t q) ho hT h
  · subst hF
    exact (G2 q).stp fun _ h => XS.ifNo X.here hx rfl hd rfl (XT.i0_eq_f q) h
theorem g_lif_eq (X : Stand p l e R s m args below meth c T locs cells slots) (hx : p.tables.exec = Jvm.exec) {x y : Int64} {o : Int} (hd0 : decode c.code pc = .ok (.lcmp, 1)) (pc1 : Nat) (hp1 : pc + 1 = pc1) (hd : decode c.code pc1 = .ok (.ifCond .eq o, 3)) (pcT pcF : Nat) (ho : 0 ≤ (pc1 : Int) + o) (hT : ((pc1 : Int) + o).toNat = pcT) (hF : pc1 + 3 = pcF) (G1 : x = y → Go p e below P T (mkF m pcT Ls st)) (G2 : ¬ x = y → Go p e below P T (mkF m pcF Ls st)) : Go p e below P T (mkF m pc Ls (.long y :: .long x :: st)) := by
  subst hp1
  by_cases q : x = y
  · exact (G1 q).stp fun _ h => XT.lcmp X.here hx rfl hd0 rfl (XS.ifYes X.here hx rfl rfl hd rfl (XT.ll_eq_t q) ho hT h)
  · subst hF
    exact (G2 q).stp fun _ h => XT.lcmp X.here hx rfl hd0 rfl (XS.ifNo X.here hx rfl hd rfl (XT.ll_eq_f q) h)
theorem g_icmp_ne (X : Stand p l e R s m args below meth c T locs cells slots) (hx : p.tables.exec = Jvm.exec) {x y : Int32} {o : Int} (hd : decode c.code pc = .ok (.if_icmp .ne o, 3)) (pcT pcF : Nat) (ho : 0 ≤ (pc : Int) + o) (hT : ((pc : Int) + o).toNat = pcT) (hF : pc + 3 = pcF) (G1 : ¬ x = y → Go p e below P T (mkF m pcT Ls st)) (G2 : x = y → Go p e below P T (mkF m pcF Ls st)) : Go p e below P T (mkF m pc Ls (.int y :: .int x :: st)) := by
  by_cases q : ¬ x = y
  · exact (G1 q).stp fun _ h => XS.icmpYes X.here hx rfl rfl hd rfl (XT.ii_ne_t q) ho hT h
  · subst hF
    exact (G2 (Classical.not_not.mp q)).stp fun _ h => XS.icmpNo X.here hx rfl hd rfl (XT.ii_ne_f (Classical.not_not.mp q)) h
theorem g_if_ne (X : Stand p l e R s m args below meth c T locs cells slots) (hx : p.tables.exec = Jvm.exec) {x : Int32} {o : Int} (hd : decode c.code pc = .ok (.ifCond .ne o, 3)) (pcT pcF : Nat) (ho : 0 ≤ (pc : Int) + o) (hT : ((pc : Int) + o).toNat = pcT) (hF : pc + 3 = pcF) (G1 : ¬ x = 0 → Go p e below P T (mkF m pcT Ls st)) (G2 : x = 0 → Go p e below P T (mkF m pcF Ls st)) : Go p e below P T (mkF m pc Ls (.int x :: st)) := by
  by_cases q : ¬ x = 0
  · exact (G1 q).stp fun _ h => XS.ifYes X.here hx rfl rfl hd rfl (XT.i0_ne_t q) ho hT h
  · subst hF
    exact (G2 (Classical.not_not.mp q)).stp fun _ h => XS.ifNo X.here hx rfl hd rfl (XT.i0_ne_f (Classical.not_not.mp q)) h
theorem g_lif_ne (X : Stand p l e R s m args below meth c T locs cells slots) (hx : p.tables.exec = Jvm.exec) {x y : Int64} {o : Int} (hd0 : decode c.code pc = .ok (.lcmp, 1)) (pc1 : Nat) (hp1 : pc + 1 = pc1) (hd : decode c.code pc1 = .ok (.ifCond .ne o, 3)) (pcT pcF : Nat) (ho : 0 ≤ (pc1 : Int) + o) (hT : ((pc1 : Int) + o).toNat = pcT) (hF : pc1 + 3 = pcF) (G1 : ¬ x = y → Go p e below P T (mkF m pcT Ls st)) (G2 : x = y → Go p e below P T (mkF m pcF Ls st)) : Go p e below P T (mkF m pc Ls (.long y :: .long x :: st)) := by
  subst hp1
  by_cases q : ¬ x = y
  · exact (G1 q).stp fun _ h => XT.lcmp X.here hx rfl hd0 rfl (XS.ifYes X.here hx rfl rfl hd rfl (XT.ll_ne_t q) ho hT h)
  · subst hF
    exact (G2 (Classical.not_not.mp q)).stp fun _ h => XT.lcmp X.here hx rfl hd0 rfl (XS.ifNo X.here hx rfl hd rfl (XT.ll_ne_f (Classical.not_not.mp q)) h)
theorem g_icmp_lt (X : Stand p l e R s m args below meth c T locs cells slots) (hx : p.tables.exec = Jvm.exec) {x y : Int32} {o : Int} (hd : decode c.code pc = .ok (.if_icmp .lt o, 3)) (pcT pcF : Nat) (ho : 0 ≤ (pc : Int) + o) (hT : ((pc : Int) + o).toNat = pcT) (hF : pc + 3 = pcF) (G1 : x < y → Go p e below P T (mkF m pcT Ls st)) (G2 : ¬ x < y → Go p e below P T (mkF m pcF Ls st)) : Go p e below P T (mkF m pc Ls (.int y :: .int x :: st)) := by
  by_cases q : x < y
  · exact (G1 q).stp fun _ h => XS.icmpYes X.here hx rfl rfl hd rfl (XT.ii_lt_t q) ho hT h
  · subst hF
    exact (G2 q).stp fun _ h => XS.icmpNo X.here hx rfl hd rfl (XT.ii_lt_f q) h
theorem g_if_lt (X : Stand p l e R s m args below meth c T locs cells slots) (hx : p.tables.exec = Jvm.exec) {x : Int32} {o : Int} (hd : decode c.code pc = .ok (.ifCond .lt o, 3)) (pcT pcF : Nat) (ho : 0 ≤ (pc : Int) + o) (hT : ((pc : Int) + o).toNat = pcT) (hF : pc + 3 = pcF) (G1 : x < 0 → Go p e below P T (mkF m pcT Ls st)) (G2 : ¬ x < 0 → Go p e below P T (mkF m pcF Ls st)) : Go p e below P T (mkF m pc Ls (.int x :: st)) := by
  by_cases q : x < 0
  · exact (G1 q).stp fun _ h => XS.ifYes X.here hx rfl rfl hd rfl (XT.i0_lt_t q) ho hT h
  · subst hF
    exact (G2 q).stp fun _ h => XS.ifNo X.here hx rfl hd rfl (XT.i0_lt_f q) h
theorem g_lif_lt (X : Stand p l e R s m args below meth c T locs cells slots) (hx : p.tables.exec = Jvm.exec) {x y : Int64} {o : Int} (hd0 : decode c.code pc = .ok (.lcmp, 1)) (pc1 : Nat) (hp1 : pc + 1 = pc1) (hd : decode c.code pc1 = .ok (.ifCond .lt o, 3)) (pcT pcF : Nat) (ho : 0 ≤ (pc1 : Int) + o) (hT : ((pc1 : Int) + o).toNat = pcT) (hF : pc1 + 3 = pcF) (G1 : x < y → Go p e below P T (mkF m pcT Ls st)) (G2 : ¬ x < y → Go p e below P T (mkF m pcF Ls st)) : Go p e below P T (mkF m pc Ls (.long y :: .long x :: st)) := by
  subst hp1
  by_cases q : x < y
  · exact (G1 q).stp fun _ h => XT.lcmp X.here hx rfl hd0 rfl (XS.ifYes X.here hx rfl rfl hd rfl (XT.ll_lt_t q) ho hT h)
  · subst hF
    exact (G2 q).stp fun _ h => XT.lcmp X.here hx rfl hd0 rfl (XS.ifNo X.here hx rfl hd rfl (XT.ll_lt_f q) h)
theorem g_icmp_ge (X : Stand p l e R s m args below meth c T locs cells slots) (hx : p.tables.exec = Jvm.exec) {x y : Int32} {o : Int} (hd : decode c.code pc = .ok (.if_icmp .ge o, 3)) (pcT pcF : Nat) (ho : 0 ≤ (pc : Int) + o) (hT : ((pc : Int) + o).toNat = pcT) (hF : pc + 3 = pcF) (G1 : ¬ x < y → Go p e below P T (mkF m pcT Ls st)) (G2 : x < y → Go p e below P T (mkF m pcF Ls st)) : Go p e below P T (mkF m pc Ls (.int y :: .int x :: st)) := by
  by_cases q : ¬ x < y
  · exact (G1 q).stp fun _ h => XS.icmpYes X.here hx rfl rfl hd rfl (XT.ii_ge_t q) ho hT h
  · subst hF
    exact (G2 (Classical.not_not.mp q)).stp fun _ h => XS.icmpNo X.here hx rfl hd rfl (XT.ii_ge_f (Classical.not_not.mp q)) h
theorem g_if_ge (X : Stand p l e R s m args below meth c T locs cells slots) (hx : p.tables.exec = Jvm.exec) {x : Int32} {o : Int} (hd : decode c.code pc = .ok (.ifCond .ge o, 3)) (pcT pcF : Nat) (ho : 0 ≤ (pc : Int) + o) (hT : ((pc : Int) + o).toNat = pcT) (hF : pc + 3 = pcF) (G1 : ¬ x < 0 → Go p e below P T (mkF m pcT Ls st)) (G2 : x < 0 → Go p e below P T (mkF m pcF Ls st)) : Go p e below P T (mkF m pc Ls (.int x :: st)) := by
  by_cases q : ¬ x < 0
  · exact (G1 q).stp fun _ h => XS.ifYes X.here hx rfl rfl hd rfl (XT.i0_ge_t q) ho hT h
  · subst hF
    exact (G2 (Classical.not_not.mp q)).stp fun _ h => XS.ifNo X.here hx rfl hd rfl (XT.i0_ge_f (Classical.not_not.mp q)) h
theorem g_lif_ge (X : Stand p l e R s m args below meth c T locs cells slots) (hx : p.tables.exec = Jvm.exec) {x y : Int64} {o : Int} (hd0 : decode c.code pc = .ok (.lcmp, 1)) (pc1 : Nat) (hp1 : pc + 1 = pc1) (hd : decode c.code pc1 = .ok (.ifCond .ge o, 3)) (pcT pcF : Nat) (ho : 0 ≤ (pc1 : Int) + o) (hT : ((pc1 : Int) + o).toNat = pcT) (hF : pc1 + 3 = pcF) (G1 : ¬ x < y → Go p e below P T (mkF m pcT Ls st)) (G2 : x < y → Go p e below P T (mkF m pcF Ls st)) : Go p e below P T (mkF m pc Ls (.long y :: .long x :: st)) := by
  subst hp1
  by_cases q : ¬ x < y
  · exact (G1 q).stp fun _ h => XT.lcmp X.here hx rfl hd0 rfl (XS.ifYes X.here hx rfl rfl hd rfl (XT.ll_ge_t q) ho hT h)
  · subst hF
    exact (G2 (Classical.not_not.mp q)).stp fun _ h => XT.lcmp X.here hx rfl hd0 rfl (XS.ifNo X.here hx rfl hd rfl (XT.ll_ge_f (Classical.not_not.mp q)) h)
theorem g_icmp_gt (X : Stand p l e R s m args below meth c T locs cells slots) (hx : p.tables.exec = Jvm.exec) {x y : Int32} {o : Int} (hd : decode c.code pc = .ok (.if_icmp .gt o, 3)) (pcT pcF : Nat) (ho : 0 ≤ (pc : Int) + o) (hT : ((pc : Int) + o).toNat = pcT) (hF : pc + 3 = pcF) (G1 : y < x → Go p e below P T (mkF m pcT Ls st)) (G2 : ¬ y < x → Go p e below P T (mkF m pcF Ls st)) : Go p e below P T (mkF m pc Ls (.int y :: .int x :: st)) := by
  by_cases q : y < x
  · exact (G1 q).stp fun _ h => XS.icmpYes X.here hx rfl rfl hd rfl (XT.ii_gt_t q) ho hT h
  · subst hF
    exact (G2 q).stp fun _ h => XS.icmpNo X.here hx rfl hd rfl (XT.ii_gt_f q) h
theorem g_if_gt (X : Stand p l e R s m args below meth c T locs cells slots) (hx : p.tables.exec = Jvm.exec) {x : Int32} {o : Int} (hd : decode c.code pc = .ok (.ifCond .gt o, 3)) (pcT pcF : Nat) (ho : 0 ≤ (pc : Int) + o) (hT : ((pc : Int) + o).toNat = pcT) (hF : pc + 3 = pcF) (G1 : 0 < x → Go p e below P T (mkF m pcT Ls st)) (G2 : ¬ 0 < x → Go p e below P T (mkF m pcF Ls st)) : Go p e below P T (mkF m pc Ls (.int x :: st)) := by
  by_cases q : 0 < x
  · exact (G1 q).stp fun _ h => XS.ifYes X.here hx rfl rfl hd rfl (XT.i0_gt_t q) ho hT h
  · subst hF
    exact (G2 q).stp fun _ h => XS.ifNo X.here hx rfl hd rfl (XT.i0_gt_f q) h
theorem g_lif_gt (X : Stand p l e R s m args below meth c T locs cells slots) (hx : p.tables.exec = Jvm.exec) {x y : Int64} {o : Int} (hd0 : decode c.code pc = .ok (.lcmp, 1)) (pc1 : Nat) (hp1 : pc + 1 = pc1) (hd : decode c.code pc1 = .ok (.ifCond .gt o, 3)) (pcT pcF : Nat) (ho : 0 ≤ (pc1 : Int) + o) (hT : ((pc1 : Int) + o).toNat = pcT) (hF : pc1 + 3 = pcF) (G1 : y < x → Go p e below P T (mkF m pcT Ls st)) (G2 : ¬ y < x → Go p e below P T (mkF m pcF Ls st)) : Go p e below P T (mkF m pc Ls (.long y :: .long x :: st)) := by
  subst hp1
  by_cases q : y < x
  · exact (G1 q).stp fun _ h => XT.lcmp X.here hx rfl hd0 rfl (XS.ifYes X.here hx rfl rfl hd rfl (XT.ll_gt_t q) ho hT h)
  · subst hF
    exact (G2 q).stp fun _ h => XT.lcmp X.here hx rfl hd0 rfl (XS.ifNo X.here hx rfl hd rfl (XT.ll_gt_f q) h)
theorem g_icmp_le (X : Stand p l e R s m args below meth c T locs cells slots) (hx : p.tables.exec = Jvm.exec) {x y : Int32} {o : Int} (hd : decode c.code pc = .ok (.if_icmp .le o, 3)) (pcT pcF : Nat) (ho : 0 ≤ (pc : Int) + o) (hT : ((pc : Int) + o).toNat = pcT) (hF : pc + 3 = pcF) (G1 : ¬ y < x → Go p e below P T (mkF m pcT Ls st)) (G2 : y < x → Go p e below P T (mkF m pcF Ls st)) : Go p e below P T (mkF m pc Ls (.int y :: .int x :: st)) := by
  by_cases q : ¬ y < x
  · exact (G1 q).stp fun _ h => XS.icmpYes X.here hx rfl rfl hd rfl (XT.ii_le_t q) ho hT h
  · subst hF
    exact (G2 (Classical.not_not.mp q)).stp fun _ h => XS.icmpNo X.here hx rfl hd rfl (XT.ii_le_f (Classical.not_not.mp q)) h
theorem g_if_le (X : Stand p l e R s m args below meth c T locs cells slots) (hx : p.tables.exec = Jvm.exec) {x : Int32} {o : Int} (hd : decode c.code pc = .ok (.ifCond .le o, 3)) (pcT pcF : Nat) (ho : 0 ≤ (pc : Int) + o) (hT : ((pc : Int) + o).toNat = pcT) (hF : pc + 3 = pcF) (G1 : ¬ 0 < x → Go p e below P T (mkF m pcT Ls st)) (G2 : 0 < x → Go p e below P T (mkF m pcF Ls st)) : Go p e below P T (mkF m pc Ls (.int x :: st)) := by
  by_cases q : ¬ 0 < x
  · exact (G1 q).stp fun _ h => XS.ifYes X.here hx rfl rfl hd rfl (XT.i0_le_t q) ho hT h
  · subst hF
    exact (G2 (Classical.not_not.mp q)).stp fun _ h => XS.ifNo X.here hx rfl hd rfl (XT.i0_le_f (Classical.not_not.mp q)) h
theorem g_lif_le (X : Stand p l e R s m args below meth c T locs cells slots) (hx : p.tables.exec = Jvm.exec) {x y : Int64} {o : Int} (hd0 : decode c.code pc = .ok (.lcmp, 1)) (pc1 : Nat) (hp1 : pc + 1 = pc1) (hd : decode c.code pc1 = .ok (.ifCond .le o, 3)) (pcT pcF : Nat) (ho : 0 ≤ (pc1 : Int) + o) (hT : ((pc1 : Int) + o).toNat = pcT) (hF : pc1 + 3 = pcF) (G1 : ¬ y < x → Go p e below P T (mkF m pcT Ls st)) (G2 : y < x → Go p e below P T (mkF m pcF Ls st)) : Go p e below P T (mkF m pc Ls (.long y :: .long x :: st)) := by
  subst hp1
  by_cases q : ¬ y < x
  · exact (G1 q).stp fun _ h => XT.lcmp X.here hx rfl hd0 rfl (XS.ifYes X.here hx rfl rfl hd rfl (XT.ll_le_t q) ho hT h)
  · subst hF
    exact (G2 (Classical.not_not.mp q)).stp fun _ h => XT.lcmp X.here hx rfl hd0 rfl (XS.ifNo X.here hx rfl hd rfl (XT.ll_le_f (Classical.not_not.mp q)) h)
theorem g_acmp_eq (X : Stand p l e R s m args below meth c T locs cells slots) (hx : p.tables.exec = Jvm.exec) {x y : Value} (hx' : x.isRef = true) (hy' : y.isRef = true) {o : Int} (hd : decode c.code pc = .ok (.if_acmp .eq o, 3)) (pcT pcF : Nat) (ho : 0 ≤ (pc : Int) + o) (hT : ((pc : Int) + o).toNat = pcT) (hF : pc + 3 = pcF) (G1 : x = y → Go p e below P T (mkF m pcT Ls st)) (G2 : ¬ x = y → Go p e below P T (mkF m pcF Ls st)) : Go p e below P T (mkF m pc Ls (y :: x :: st)) := by
  by_cases q : x = y
  · exact (G1 q).stp fun _ h => XT.acmpYes X.here hx rfl rfl hd rfl hx' hy' (XT.aa_eq_t q) ho hT h
  · subst hF
    exact (G2 q).stp fun _ h => XT.acmpNo X.here hx rfl hd rfl hx' hy' (XT.aa_eq_f q) h
theorem g_acmp_ne (X : Stand p l e R s m args below meth c T locs cells slots) (hx : p.tables.exec = Jvm.exec) {x y : Value} (hx' : x.isRef = true) (hy' : y.isRef = true) {o : Int} (hd : decode c.code pc = .ok (.if_acmp .ne o, 3)) (pcT pcF : Nat) (ho : 0 ≤ (pc : Int) + o) (hT : ((pc : Int) + o).toNat = pcT) (hF : pc + 3 = pcF) (G1 : ¬ x = y → Go p e below P T (mkF m pcT Ls st)) (G2 : x = y → Go p e below P T (mkF m pcF Ls st)) : Go p e below P T (mkF m pc Ls (y :: x :: st)) := by
  by_cases q : ¬ x = y
  · exact (G1 q).stp fun _ h => XT.acmpYes X.here hx rfl rfl hd rfl hx' hy' (XT.aa_ne_t q) ho hT h
  · subst hF
    exact (G2 (Classical.not_not.mp q)).stp fun _ h => XT.acmpNo X.here hx rfl hd rfl hx' hy' (XT.aa_ne_f (Classical.not_not.mp q)) h
theorem g_ifnull (X : Stand p l e R s m args below meth c T locs cells slots) (hx : p.tables.exec = Jvm.exec) {x : Value} (hx' : x.isRef = true) {o : Int} (hd : decode c.code pc = .ok (.ifnull o, 3)) (pcT pcF : Nat) (ho : 0 ≤ (pc : Int) + o) (hT : ((pc : Int) + o).toNat = pcT) (hF : pc + 3 = pcF) (G1 : x = .null → Go p e below P T (mkF m pcT Ls st)) (G2 : ¬ x = .null → Go p e below P T (mkF m pcF Ls st)) : Go p e below P T (mkF m pc Ls (x :: st)) := by
  by_cases q : x = .null
  · exact (G1 q).stp fun _ h => XT.nullYes X.here hx rfl rfl hd rfl q ho hT h
  · subst hF
    exact (G2 q).stp fun _ h => XT.nullNo X.here hx rfl hd rfl hx' q h
theorem g_ifnonnull (X : Stand p l e R s m args below meth c T locs cells slots) (hx : p.tables.exec = Jvm.exec) {x : Value} (hx' : x.isRef = true) {o : Int} (hd : decode c.code pc = .ok (.ifnonnull o, 3)) (pcT pcF : Nat) (ho : 0 ≤ (pc : Int) + o) (hT : ((pc : Int) + o).toNat = pcT) (hF : pc + 3 = pcF) (G1 : ¬ x = .null → Go p e below P T (mkF m pcT Ls st)) (G2 : x = .null → Go p e below P T (mkF m pcF Ls st)) : Go p e below P T (mkF m pc Ls (x :: st)) := by
  by_cases q : x = .null
  · subst hF
    exact (G2 q).stp fun _ h => XT.nonnullNo X.here hx rfl hd rfl q h
  · exact (G1 q).stp fun _ h => XT.nonnullYes X.here hx rfl rfl hd rfl hx' q ho hT h
theorem g_ldc (X : Stand p l e R s m args below meth c T locs cells slots) (hx : p.tables.exec = Jvm.exec) (hZ : Z.Warmed39 s.vm) {own : String} (hown : s.vm.findClass own = some m.cls) {i : Nat} {v : Int32} (w : (Cond.constant own i v).before a0 Z = true) (hd : decode c.code pc = .ok (.ldc i, 2)) (pc' : Nat) (hp : pc + 2 = pc') (G : Go p e below P T (mkF m pc' Ls (.int v :: st))) : Go p e below P T (mkF m pc Ls st) := by
  subst hp
  exact G.stp fun _ h => Jvm.Stand.ldcI X hx hown (mv hZ w) rfl hd h
theorem g_ldc_w (X : Stand p l e R s m args below meth c T locs cells slots) (hx : p.tables.exec = Jvm.exec) (hZ : Z.Warmed39 s.vm) {own : String} (hown : s.vm.findClass own = some m.cls) {i : Nat} {v : Int32} (w : (Cond.constant own i v).before a0 Z = true) (hd : decode c.code pc = .ok (.ldc_w i, 3)) (pc' : Nat) (hp : pc + 3 = pc') (G : Go p e below P T (mkF m pc' Ls (.int v :: st))) : Go p e below P T (mkF m pc Ls st) := by
  subst hp
  exact G.stp fun _ h => Jvm.Stand.ldcWI X hx hown (mv hZ w) rfl hd h
theorem g_ldc2_w (X : Stand p l e R s m args below meth c T locs cells slots) (hx : p.tables.exec = Jvm.exec) (hZ : Z.Warmed39 s.vm) {own : String} (hown : s.vm.findClass own = some m.cls) {i : Nat} {v : Int64} (w : (Cond.constantLong own i v).before a0 Z = true) (hd : decode c.code pc = .ok (.ldc2_w i, 3)) (pc' : Nat) (hp : pc + 3 = pc') (G : Go p e below P T (mkF m pc' Ls (.long v :: st))) : Go p e below P T (mkF m pc Ls st) := by
  subst hp
  exact G.stp fun _ h => Jvm.Stand.ldc2J X hx hown (mv hZ w) rfl hd h
theorem g_getfield (X : Stand p l e R s m args below meth c T locs cells slots) (hx : p.tables.exec = Jvm.exec) (hZ : Z.Warmed39 s.vm) {own : String} (hown : s.vm.findClass own = some m.cls) {R0 O n d host : String} {i : Nat} (w : (Cond.fieldLink own i R0 n d).before a0 Z = true ∨ (Cond.fieldLinkNest own i R0 n d host).before a0 Z = true) (via : Via Z R0 O n d) {a : Addr} {v : Value} (F : Fld Z h a O n d v) (eT : T.heap = h) (hd : decode c.code pc = .ok (.getfield i, 3)) (pc' : Nat) (hp : pc + 3 = pc') (G : ∀ T', Stand p l e R s m args below meth c T' locs cells slots → T'.heap = h → Go p e below P T' (mkF m pc' Ls (v :: st))) : Go p e below P T (mkF m pc Ls (.ref a :: st)) := by
  subst hp
  obtain ⟨T', X', e', k⟩ := getF X hx hZ hown w via eT F (g := mkF m pc Ls (.ref a :: st)) rfl rfl hd
  exact (G T' X' e').stp k
theorem g_getstatic (X : Stand p l e R s m args below meth c T locs cells slots) (hx : p.tables.exec = Jvm.exec) (hZ : Z.Warmed39 s.vm) {own : String} (hown : s.vm.findClass own = some m.cls) {R0 O n d host : String} {i : Nat} (w : (Cond.fieldLink own i R0 n d).before a0 Z = true ∨ (Cond.fieldLinkNest own i R0 n d host).before a0 Z = true) (via : Via Z R0 O n d) {v : Value} (F : Sta Z h O n d v) (eT : T.heap = h) (hd : decode c.code pc = .ok (.getstatic i, 3)) (pc' : Nat) (hp : pc + 3 = pc') (G : ∀ T', Stand p l e R s m args below meth c T' locs cells slots → T'.heap = h → Go p e below P T' (mkF m pc' Ls (v :: st))) : Go p e below P T (mkF m pc Ls st) := by
  subst hp
  obtain ⟨T', X', e', k⟩ := getS2 X hx hZ hown w via eT F (g := mkF m pc Ls st) rfl hd
  exact (G T' X' e').stp k
theorem g_putfield (X : Stand p l e R s m args below meth c T locs cells slots) (hx : p.tables.exec = Jvm.exec) (hZ : Z.Warmed39 s.vm) {own : String} (hown : s.vm.findClass own = some m.cls) {R0 O n d host C : String} {i kk : Nat} {ty : FieldType} (w : (Cond.fieldLink own i R0 n d).before a0 Z = true ∨ (Cond.fieldLinkNest own i R0 n d host).before a0 Z = true) (via : Via Z R0 O n d) (eT : T.heap = h) {a : Addr} {v old : Value} (F : Fld Z h a O n d old) (E : Exa Z h a C) (L : (Cond.lays C O n d).before a0 Z = true ∨ ((Cond.laysFinal C O n d).before a0 Z = true ∧ own = O ∧ meth.name = "<init>")) (wi : (Cond.instantiable C kk).before a0 Z = true) (hty : parseFieldDescriptor d = some ty) (hn : narrow ty v = v) (hf : fits ty v = true) (hd : decode c.code pc = .ok (.putfield i, 3)) (pc' : Nat) (hp : pc + 3 = pc') (G : ∀ T' h', Stand p l e R s m args below meth c T' (locs ++ [⟨a, Jvm.RoadKit.slotOf Z O n d⟩]) cells slots → T'.heap = h' → Wr h h' a (Jvm.RoadKit.slotOf Z O n d) v → Go p e below P T' (mkF m pc' Ls st)) : Go p e below P T (mkF m pc Ls (v :: .ref a :: st)) := by
  subst hp
  obtain ⟨T', h', X', e', W, k⟩ := putF X hx hZ hown w via eT F E L wi hty hn hf (g := mkF m pc Ls (v :: .ref a :: st)) rfl rfl hd
  exact (G T' h' X' e' W).stp k
theorem g_initO (X : Stand p l e R s m args below meth c T locs cells slots) (hx : p.tables.exec = Jvm.exec) (hZ : Z.Warmed39 s.vm) {own : String} (hown : s.vm.findClass own = some m.cls) {i : Nat} (w1 : (Cond.methodLink own i Lib.objectInit).before a0 Z = true) (w2 : (Cond.instanceMethod Lib.objectInit).before a0 Z = true) (w3 : (Cond.code Lib.objectInit ⟨#[0xb1]⟩ 1 none).before a0 Z = true) (eT : T.heap = h) (hsz : Ls.size = c.maxLocals) {a : Addr} (hd : decode c.code pc = .ok (.invokespecial i, 3)) (hf : 1 ≤ R.frames) (W : Nat) (hW : (st.map fun v => v.category).sum ≤ W) (hl : W + 12 ≤ R.locals) (pc' : Nat) (hp : pc + 3 = pc') (G : ∀ T', Stand p l e R s m args below meth c T' locs cells slots → T'.heap = h → Go p e below P T' (mkF m pc' Ls st)) : Go p e below P T (mkF m pc Ls (.ref a :: st)) := by
  subst hp
  obtain ⟨T', X', e', k⟩ := initO X hx hZ hown w1 w2 w3 eT (g := mkF m pc Ls (.ref a :: st)) rfl hsz rfl hd hf (W := W) (by show 2 * 0 + _ ≤ W; omega) hl
  exact (G T' X' e').stp k
theorem g_new (X : Stand p l e R s m args below meth c T locs cells slots) (hx : p.tables.exec = Jvm.exec) (hZ : Z.Warmed39 s.vm) {own : String} (hown : s.vm.findClass own = some m.cls) {C : String} {i n : Nat} (w : (Cond.classLink own i C).before a0 Z = true) (wi : (Cond.instantiable C n).before a0 Z = true) (wz : (Cond.initialized C).before a0 Z = true) (eT : T.heap = h) (hd : decode c.code pc = .ok (.new i, 3)) (hc : cells + 1 ≤ R.cells) (hl : slots + n ≤ R.slots) (pc' : Nat) (hp : pc + 3 = pc') (G : ∀ T' h' b, Stand p l e R s m args below meth c T' locs (cells + 1) (slots + n) → T'.heap = h' → b = h.size → Ext h h' → Exa Z h' b C → (∀ {O nm d : String} {ty : FieldType}, Laid Z a0 C O nm d → parseFieldDescriptor d = some ty → Fld Z h' b O nm d (defaultValue ty)) → Go p e below P T' (mkF m pc' Ls (.ref b :: st))) : Go p e below P T (mkF m pc Ls st) := by
  subst hp
  obtain ⟨T', h', X', e', E, A, D, -, k⟩ := newO X hx hZ hown w wi wz eT (g := mkF m pc Ls st) rfl hd hc hl
  exact (G T' h' h.size X' e' rfl E A D).stp k
/-- the array at a: of that kind, holding just these values -/
def AV (Z : State) (h : Heap) (a : Addr) (ty : FieldType) (vs : List Value) : Prop := ∃ c : Cell, Arr Z h a c ty ∧ c.slots = vs.toArray ∧ vs.length < 2 ^ 31
theorem AV.lt {a : Addr} {ty : FieldType} {vs : List Value} (F : AV Z h a ty vs) : a < h.size := by obtain ⟨c, A, -⟩ := F; exact A.lt
theorem AV.ext {h' : Heap} {a : Addr} {ty : FieldType} {vs : List Value} (F : AV Z h a ty vs) (E : Ext h h') : AV Z h' a ty vs := by obtain ⟨c, A, r⟩ := F; exact ⟨c, A.ext E, r⟩
theorem AV.other {h' : Heap} {a b : Addr} {sl : Nat} {v : Value} {ty : FieldType} {vs : List Value} (F : AV Z h b ty vs) (W : Wr h h' a sl v) (q : b ≠ a) : AV Z h' b ty vs := by obtain ⟨c, A, r⟩ := F; exact ⟨c, A.other W q, r⟩
theorem AV.keep {h' : Heap} {a : Addr} {ws : List Addr} {ty : FieldType} {vs : List Value} (F : AV Z h a ty vs) (K : Keep h h' ws) (q : a ∉ ws) : AV Z h' a ty vs := by obtain ⟨c, A, r⟩ := F; exact ⟨c, ⟨K.2.1 a c A.1 q, A.2⟩, r⟩
theorem AV.same {h' : Heap} {a : Addr} {sl : Nat} {v : Value} {ty : FieldType} {vs : List Value} (F : AV Z h a ty vs) (W : Wr h h' a sl v) : AV Z h' a ty (vs.set sl v) := by
  obtain ⟨c, A, r1, r2⟩ := F
  exact ⟨_, A.same W, by simp [Cell.setSlot, r1], by simpa using r2⟩
theorem AV.new {a : Addr} {k : ClassId} {ty : FieldType} {n : Int32} (A : Arr Z h a (newA k ty n) ty) (vs : List Value) (q : vs = List.replicate n.toNatClampNeg (defaultValue ty)) (q2 : n.toNatClampNeg < 2 ^ 31) : AV Z h a ty vs := ⟨_, A, by subst q; simp [newA], by subst q; simpa using q2⟩
theorem AV.nostat {a : Addr} {ty : FieldType} {vs : List Value} (F : AV Z h a ty vs) : ∀ cell : Cell, h[a]? = some cell → cell.vm.isStatics = false := by obtain ⟨c, A, -⟩ := F; exact A.nostat
theorem in_of {vs : List Value} {c : Cell} {j : Int32} {v : Value} (r : c.slots = vs.toArray) (hj : ¬ j < 0) (hv : vs[j.toNatClampNeg]? = some v) : ¬ (j < 0 ∨ c.slots.size ≤ j.toNatClampNeg) := by
  have q := (List.getElem?_eq_some_iff.mp hv).1
  intro u
  rcases u with u | u
  · exact hj u
  · rw [r] at u; simp at u; omega
theorem g_iaload (X : Stand p l e R s m args below meth c T locs cells slots) (hx : p.tables.exec = Jvm.exec) (hZ : Z.Warmed39 s.vm) (eT : T.heap = h) {a : Addr} {vs : List Value} {j : Int32} {v : Value} (A : AV Z h a .int vs) (hj : ¬ j < 0) (hv : vs[j.toNatClampNeg]? = some v) (hd : decode c.code pc = .ok (.iaload, 1)) (pc' : Nat) (hp : pc + 1 = pc') (G : Go p e below P T (mkF m pc' Ls (v :: st))) : Go p e below P T (mkF m pc Ls (.int j :: .ref a :: st)) := by
  subst hp
  obtain ⟨cl, A, r1, r2⟩ := A
  exact G.stp fun _ k => X.iaload hx (j := j) (v := v) (by rw [eT]; exact A.1) (State.isArrayOf_alike hZ.alike A.2.1) A.2.2 (in_of r1 hj hv) (by rw [r1]; simpa using hv) (g := mkF m pc Ls (.int j :: .ref a :: st)) rfl rfl hd _ k
theorem g_caload (X : Stand p l e R s m args below meth c T locs cells slots) (hx : p.tables.exec = Jvm.exec) (hZ : Z.Warmed39 s.vm) (eT : T.heap = h) {a : Addr} {vs : List Value} {j : Int32} {v : Value} (A : AV Z h a .char vs) (hj : ¬ j < 0) (hv : vs[j.toNatClampNeg]? = some v) (hd : decode c.code pc = .ok (.caload, 1)) (pc' : Nat) (hp : pc + 1 = pc') (G : Go p e below P T (mkF m pc' Ls (v :: st))) : Go p e below P T (mkF m pc Ls (.int j :: .ref a :: st)) := by
  subst hp
  obtain ⟨cl, A, r1, r2⟩ := A
  exact G.stp fun _ k => X.caload hx (j := j) (v := v) (by rw [eT]; exact A.1) (State.isArrayOf_alike hZ.alike A.2.1) A.2.2 (in_of r1 hj hv) (by rw [r1]; simpa using hv) (g := mkF m pc Ls (.int j :: .ref a :: st)) rfl rfl hd _ k
theorem g_baload (X : Stand p l e R s m args below meth c T locs cells slots) (hx : p.tables.exec = Jvm.exec) (hZ : Z.Warmed39 s.vm) (eT : T.heap = h) {a : Addr} {vs : List Value} {j : Int32} {v : Value} (A : AV Z h a .byte vs) (hj : ¬ j < 0) (hv : vs[j.toNatClampNeg]? = some v) (hd : decode c.code pc = .ok (.baload, 1)) (pc' : Nat) (hp : pc + 1 = pc') (G : Go p e below P T (mkF m pc' Ls (v :: st))) : Go p e below P T (mkF m pc Ls (.int j :: .ref a :: st)) := by
  subst hp
  obtain ⟨cl, A, r1, r2⟩ := A
  exact G.stp fun _ k => X.baloadBytes hx (j := j) (v := v) (by rw [eT]; exact A.1) (State.isArrayOf_alike hZ.alike A.2.1) A.2.2 (in_of r1 hj hv) (by rw [r1]; simpa using hv) (g := mkF m pc Ls (.int j :: .ref a :: st)) rfl rfl hd _ k
theorem g_aaload (X : Stand p l e R s m args below meth c T locs cells slots) (hx : p.tables.exec = Jvm.exec) (hZ : Z.Warmed39 s.vm) (eT : T.heap = h) {a : Addr} {ty : FieldType} {vs : List Value} {j : Int32} {v : Value} (A : AV Z h a ty vs) (hty : ty.isReference = true) (hj : ¬ j < 0) (hv : vs[j.toNatClampNeg]? = some v) (hd : decode c.code pc = .ok (.aaload, 1)) (pc' : Nat) (hp : pc + 1 = pc') (G : Go p e below P T (mkF m pc' Ls (v :: st))) : Go p e below P T (mkF m pc Ls (.int j :: .ref a :: st)) := by
  subst hp
  obtain ⟨cl, A, r1, r2⟩ := A
  exact G.stp fun _ k => X.aaload hx (j := j) (v := v) (by rw [eT]; exact A.1) (State.isArrayOf_alike hZ.alike A.2.1) hty A.2.2 (in_of r1 hj hv) (by rw [r1]; simpa using hv) (g := mkF m pc Ls (.int j :: .ref a :: st)) rfl rfl hd _ k
theorem g_arraylength (X : Stand p l e R s m args below meth c T locs cells slots) (hx : p.tables.exec = Jvm.exec) (hZ : Z.Warmed39 s.vm) (eT : T.heap = h) {a : Addr} {ty : FieldType} {vs : List Value} (A : AV Z h a ty vs) (n : Int32) (hn : Int32.ofNat vs.length = n) (hd : decode c.code pc = .ok (.arraylength, 1)) (pc' : Nat) (hp : pc + 1 = pc') (G : Go p e below P T (mkF m pc' Ls (.int n :: st))) : Go p e below P T (mkF m pc Ls (.ref a :: st)) := by
  subst hp
  obtain ⟨cl, A, r1, r2⟩ := A
  have q : cl.slots.size.toInt32 = n := by rw [r1, ← hn]; simp
  rw [← q] at G
  exact G.stp fun _ k => X.arraylength hx (cell := cl) (by rw [eT]; exact A.1) (State.isArrayOf_alike hZ.alike A.2.1) (g := mkF m pc Ls (.ref a :: st)) rfl rfl hd _ k
theorem g_iastore (X : Stand p l e R s m args below meth c T locs cells slots) (hx : p.tables.exec = Jvm.exec) (hZ : Z.Warmed39 s.vm) (eT : T.heap = h) {a : Addr} {vs : List Value} {j x : Int32} (A : AV Z h a .int vs) (hj : ¬ j < 0) (hi : j.toNatClampNeg < vs.length) (hd : decode c.code pc = .ok (.iastore, 1)) (pc' : Nat) (hp : pc + 1 = pc') (G : ∀ T' h', Stand p l e R s m args below meth c T' (locs ++ [⟨a, j.toNatClampNeg⟩]) cells slots → T'.heap = h' → Wr h h' a j.toNatClampNeg (.int x) → AV Z h' a .int (vs.set j.toNatClampNeg (.int x)) → Go p e below P T' (mkF m pc' Ls st)) : Go p e below P T (mkF m pc Ls (.int x :: .int j :: .ref a :: st)) := by
  subst hp
  have A0 := A
  obtain ⟨cl, A, r1, r2⟩ := A
  obtain ⟨T', h', X', e', W, k⟩ := stI X hx hZ eT A (j := j) (x := x) (in_of r1 hj (List.getElem?_eq_getElem hi)) (g := mkF m pc Ls (.int x :: .int j :: .ref a :: st)) rfl rfl hd
  exact (G T' h' X' e' W (A0.same W)).stp k
theorem g_castore (X : Stand p l e R s m args below meth c T locs cells slots) (hx : p.tables.exec = Jvm.exec) (hZ : Z.Warmed39 s.vm) (eT : T.heap = h) {a : Addr} {vs : List Value} {j x : Int32} (A : AV Z h a .char vs) (hj : ¬ j < 0) (hi : j.toNatClampNeg < vs.length) (hd : decode c.code pc = .ok (.castore, 1)) (pc' : Nat) (hp : pc + 1 = pc') (G : ∀ T' h', Stand p l e R s m args below meth c T' (locs ++ [⟨a, j.toNatClampNeg⟩]) cells slots → T'.heap = h' → Wr h h' a j.toNatClampNeg (.int (nar .char x)) → AV Z h' a .char (vs.set j.toNatClampNeg (.int (nar .char x))) → Go p e below P T' (mkF m pc' Ls st)) : Go p e below P T (mkF m pc Ls (.int x :: .int j :: .ref a :: st)) := by
  subst hp
  have A0 := A
  obtain ⟨cl, A, r1, r2⟩ := A
  obtain ⟨T', h', X', e', W, k⟩ := stC X hx hZ eT A (j := j) (x := x) (in_of r1 hj (List.getElem?_eq_getElem hi)) (g := mkF m pc Ls (.int x :: .int j :: .ref a :: st)) rfl rfl hd
  exact (G T' h' X' e' W (A0.same W)).stp k
theorem g_bastore (X : Stand p l e R s m args below meth c T locs cells slots) (hx : p.tables.exec = Jvm.exec) (hZ : Z.Warmed39 s.vm) (eT : T.heap = h) {a : Addr} {vs : List Value} {j x : Int32} (A : AV Z h a .byte vs) (hj : ¬ j < 0) (hi : j.toNatClampNeg < vs.length) (hd : decode c.code pc = .ok (.bastore, 1)) (pc' : Nat) (hp : pc + 1 = pc') (G : ∀ T' h', Stand p l e R s m args below meth c T' (locs ++ [⟨a, j.toNatClampNeg⟩]) cells slots → T'.heap = h' → Wr h h' a j.toNatClampNeg (.int (nar .byte x)) → AV Z h' a .byte (vs.set j.toNatClampNeg (.int (nar .byte x))) → Go p e below P T' (mkF m pc' Ls st)) : Go p e below P T (mkF m pc Ls (.int x :: .int j :: .ref a :: st)) := by
  subst hp
  have A0 := A
  obtain ⟨cl, A, r1, r2⟩ := A
  obtain ⟨T', h', X', e', W, k⟩ := stB X hx hZ eT A (j := j) (x := x) (in_of r1 hj (List.getElem?_eq_getElem hi)) (g := mkF m pc Ls (.int x :: .int j :: .ref a :: st)) rfl rfl hd
  exact (G T' h' X' e' W (A0.same W)).stp k
theorem g_newarray (X : Stand p l e R s m args below meth c T locs cells slots) (hx : p.tables.exec = Jvm.exec) (hZ : Z.Warmed39 s.vm) {aty : ArrayType} (w : (Cond.arrayClass (newarray.typeOf aty)).before a0 Z = true) (eT : T.heap = h) {n : Int32} (hn : ¬ n < 0) (cap : Nat) (hcap : n.toNatClampNeg ≤ cap) (hb : cap * 8 ≤ 536870912) (hc : cells + 1 ≤ R.cells) (hl : slots + cap ≤ R.slots) (vs : List Value) (hvs : vs = List.replicate n.toNatClampNeg (defaultValue (newarray.typeOf aty))) (hd : decode c.code pc = .ok (.newarray aty, 2)) (pc' : Nat) (hp : pc + 2 = pc') (G : ∀ T' h' b, Stand p l e R s m args below meth c T' locs (cells + 1) (slots + cap) → T'.heap = h' → b = h.size → Ext h h' → AV Z h' b (newarray.typeOf aty) vs → Go p e below P T' (mkF m pc' Ls (.ref b :: st))) : Go p e below P T (mkF m pc Ls (.int n :: st)) := by
  subst hp
  obtain ⟨T', h', cA, X', e', E, A, k⟩ := newP X hx hZ w eT (g := mkF m pc Ls (.int n :: st)) rfl hd rfl hn hcap hb hc hl
  exact (G T' h' h.size X' e' rfl E (AV.new A vs hvs (by omega))).stp k
theorem g_checkcast (X : Stand p l e R s m args below meth c T locs cells slots) (hx : p.tables.exec = Jvm.exec) (hZ : Z.Warmed39 s.vm) {own : String} (hown : s.vm.findClass own = some m.cls) {K : String} {i : Nat} (w : (Cond.classLink own i K).before a0 Z = true) {a : Addr} (F : Ins Z h a K true) (eT : T.heap = h) (hd : decode c.code pc = .ok (.checkcast i, 3)) (pc' : Nat) (hp : pc + 3 = pc') (G : ∀ T', Stand p l e R s m args below meth c T' locs cells slots → T'.heap = h → Go p e below P T' (mkF m pc' Ls (.ref a :: st))) : Go p e below P T (mkF m pc Ls (.ref a :: st)) := by
  subst hp
  obtain ⟨T', X', e', k⟩ := castY X hx hZ hown w eT F (g := mkF m pc Ls (.ref a :: st)) rfl rfl hd
  exact (G T' X' e').stp k
theorem g_instYes (X : Stand p l e R s m args below meth c T locs cells slots) (hx : p.tables.exec = Jvm.exec) (hZ : Z.Warmed39 s.vm) {own : String} (hown : s.vm.findClass own = some m.cls) {K : String} {i : Nat} (w : (Cond.classLink own i K).before a0 Z = true) {a : Addr} (F : Ins Z h a K true) (eT : T.heap = h) (hd : decode c.code pc = .ok (.instanceof i, 3)) (pc' : Nat) (hp : pc + 3 = pc') (G : ∀ T', Stand p l e R s m args below meth c T' locs cells slots → T'.heap = h → Go p e below P T' (mkF m pc' Ls (.int 1 :: st))) : Go p e below P T (mkF m pc Ls (.ref a :: st)) := by
  subst hp
  obtain ⟨T', X', e', k⟩ := instY X hx hZ hown w eT F (g := mkF m pc Ls (.ref a :: st)) rfl rfl hd
  exact (G T' X' e').stp k
theorem g_instNo (X : Stand p l e R s m args below meth c T locs cells slots) (hx : p.tables.exec = Jvm.exec) (hZ : Z.Warmed39 s.vm) {own : String} (hown : s.vm.findClass own = some m.cls) {K C : String} {i : Nat} (w : (Cond.classLink own i K).before a0 Z = true) {a : Addr} (E : Exa Z h a C) (F : ∃ c t, Z.vm.findClass C = some c ∧ Z.vm.findClass K = some t ∧ Z.vm.assignable c t = false) (eT : T.heap = h) (hd : decode c.code pc = .ok (.instanceof i, 3)) (pc' : Nat) (hp : pc + 3 = pc') (G : ∀ T', Stand p l e R s m args below meth c T' locs cells slots → T'.heap = h → Go p e below P T' (mkF m pc' Ls (.int 0 :: st))) : Go p e below P T (mkF m pc Ls (.ref a :: st)) := by
  subst hp
  obtain ⟨T', X', e', k⟩ := instNo X hx hZ hown w eT E F (g := mkF m pc Ls (.ref a :: st)) rfl rfl hd
  exact (G T' X' e').stp k
theorem g_instNull (X : Stand p l e R s m args below meth c T locs cells slots) (hx : p.tables.exec = Jvm.exec) {i : Nat} (hd : decode c.code pc = .ok (.instanceof i, 3)) (pc' : Nat) (hp : pc + 3 = pc') (G : Go p e below P T (mkF m pc' Ls (.int 0 :: st))) : Go p e below P T (mkF m pc Ls (.null :: st)) := by
  subst hp
  exact G.stp fun _ h => X.instanceofNull hx (g := mkF m pc Ls (.null :: st)) rfl rfl hd _ h
theorem g_aastore (X : Stand p l e R s m args below meth c T locs cells slots) (hx : p.tables.exec = Jvm.exec) (hZ : Z.Warmed39 s.vm) (eT : T.heap = h) {a : Addr} {ty : FieldType} {vs : List Value} {j : Int32} {x : Value} (A : AV Z h a ty vs) (hty : ty.isReference = true) (F : Sto Z h a x) (hj : ¬ j < 0) (hi : j.toNatClampNeg < vs.length) (hd : decode c.code pc = .ok (.aastore, 1)) (pc' : Nat) (hp : pc + 1 = pc') (G : ∀ T' h', Stand p l e R s m args below meth c T' (locs ++ [⟨a, j.toNatClampNeg⟩]) cells slots → T'.heap = h' → Wr h h' a j.toNatClampNeg x → AV Z h' a ty (vs.set j.toNatClampNeg x) → Go p e below P T' (mkF m pc' Ls st)) : Go p e below P T (mkF m pc Ls (x :: .int j :: .ref a :: st)) := by
  subst hp
  have A0 := A
  obtain ⟨cl, A, r1, r2⟩ := A
  obtain ⟨T', h', X', e', W, k⟩ := stR X hx hZ eT A (j := j) (v := x) (in_of r1 hj (List.getElem?_eq_getElem hi)) hty F (g := mkF m pc Ls (x :: .int j :: .ref a :: st)) rfl rfl hd
  exact (G T' h' X' e' W (A0.same W)).stp k
/-- what may lie in the array at a: objects of C -/
def Ov (Z : State) (h : Heap) (a : Addr) (C : String) : Prop := ∃ c : Cell, h[a]? = some c ∧ Ovr Z c.cls C
theorem Ov.keep {h' : Heap} {a : Addr} {ws : List Addr} {C : String} (F : Ov Z h a C) (K : Keep h h' ws) : Ov Z h' a C := by obtain ⟨c, h1, o⟩ := F; obtain ⟨c', h2, e, -⟩ := K.2.2 a c h1; exact ⟨c', h2, by rw [e]; exact o⟩
theorem Ov.ext {h' : Heap} {a : Addr} {C : String} (F : Ov Z h a C) (E : Ext h h') : Ov Z h' a C := by obtain ⟨c, h1, o⟩ := F; exact ⟨c, E.2 _ _ h1, o⟩
theorem Ov.wr {h' : Heap} {a b : Addr} {sl : Nat} {v : Value} {C : String} (F : Ov Z h a C) (W : Wr h h' b sl v) : Ov Z h' a C := by obtain ⟨c, h1, o⟩ := F; obtain ⟨c', h2, e, -⟩ := wr_at W h1; exact ⟨c', h2, by rw [e]; exact o⟩
theorem Ov.lt {a : Addr} {C : String} (F : Ov Z h a C) : a < h.size := by obtain ⟨c, h1, -⟩ := F; exact (Array.getElem?_eq_some_iff.mp h1).1
theorem Ov.sto {a y : Addr} {C : String} {ty : FieldType} {vs : List Value} (F : Ov Z h a C) (A : AV Z h a ty vs) (I : Ins Z h y C true) : Sto Z h a (.ref y) := by
  obtain ⟨c, h1, o⟩ := F
  obtain ⟨c', A', -⟩ := A
  cases h1.symm.trans A'.1
  exact Sto.of A' o I
theorem g_anewarray (X : Stand p l e R s m args below meth c T locs cells slots) (hx : p.tables.exec = Jvm.exec) (hZ : Z.Warmed39 s.vm) {own : String} (hown : s.vm.findClass own = some m.cls) {C : String} {i : Nat} (w1 : (Cond.classLink own i C).before a0 Z = true) (w2 : (Cond.arrayOver (.object C)).before a0 Z = true) (eT : T.heap = h) {n : Int32} (hn : ¬ n < 0) (cap : Nat) (hcap : n.toNatClampNeg ≤ cap) (hb : cap * 8 ≤ 536870912) (hc : cells + 1 ≤ R.cells) (hl : slots + cap ≤ R.slots) (vs : List Value) (hvs : vs = List.replicate n.toNatClampNeg .null) (hd : decode c.code pc = .ok (.anewarray i, 3)) (pc' : Nat) (hp : pc + 3 = pc') (G : ∀ T' h' b, Stand p l e R s m args below meth c T' locs (cells + 1) (slots + cap) → T'.heap = h' → b = h.size → Ext h h' → AV Z h' b (.object C) vs → Ov Z h' b C → Go p e below P T' (mkF m pc' Ls (.ref b :: st))) : Go p e below P T (mkF m pc Ls (.int n :: st)) := by
  subst hp
  obtain ⟨T', h', cA, X', e', E, A, O, k⟩ := newR X hx hZ hown w1 w2 eT (g := mkF m pc Ls (.int n :: st)) rfl hd rfl hn hcap hb hc hl
  exact (G T' h' h.size X' e' rfl E (AV.new A vs hvs (by omega)) ⟨_, A.1, O⟩).stp k
theorem g_reti (X : Stand p l e R s m args below meth c T locs cells slots) (hx : p.tables.exec = Jvm.exec) {z : Int32} (hret : meth.sig.returnType = some .int) (hlk : meth.locks = false) {k n : Nat} {Q : Option Value → Heap → List Loc → Prop} (hk : cells ≤ k) (hn : slots ≤ n) (hd : decode c.code pc = .ok (.ireturn, 1)) (hq : Q (some (.int z)) T.heap locs) : Go p e below (RP s k n Q) T (mkF m pc Ls (.int z :: st)) := by
  obtain ⟨fs, hr, hrun, hended, hW, hsame⟩ := X.leave (v := (some (.int z))) (fun h => by first | rfl | (rw [hret] at h; cases h)) hlk
  exact ⟨_, _, retOut X hx hret rfl (Or.inl ⟨rfl, Or.inl rfl, z, rfl⟩) hd hr, hrun, hended, _, _, rfl, hq, ⟨_, rfl⟩, hW, hsame.mono hk hn⟩
theorem g_retz (X : Stand p l e R s m args below meth c T locs cells slots) (hx : p.tables.exec = Jvm.exec) {z : Int32} (hret : meth.sig.returnType = some .boolean) (hlk : meth.locks = false) {k n : Nat} {Q : Option Value → Heap → List Loc → Prop} (hk : cells ≤ k) (hn : slots ≤ n) (hd : decode c.code pc = .ok (.ireturn, 1)) (hq : Q (some (.int (z &&& 1))) T.heap locs) : Go p e below (RP s k n Q) T (mkF m pc Ls (.int z :: st)) := by
  obtain ⟨fs, hr, hrun, hended, hW, hsame⟩ := X.leave (v := (some (.int (z &&& 1)))) (fun h => by first | rfl | (rw [hret] at h; cases h)) hlk
  exact ⟨_, _, retN X hx (t := .boolean) hret (by simp) hd hr, hrun, hended, _, _, rfl, hq, ⟨_, rfl⟩, hW, hsame.mono hk hn⟩
theorem g_retb (X : Stand p l e R s m args below meth c T locs cells slots) (hx : p.tables.exec = Jvm.exec) {z : Int32} (hret : meth.sig.returnType = some .byte) (hlk : meth.locks = false) {k n : Nat} {Q : Option Value → Heap → List Loc → Prop} (hk : cells ≤ k) (hn : slots ≤ n) (hd : decode c.code pc = .ok (.ireturn, 1)) (hq : Q (some (.int z.toInt8.toInt32)) T.heap locs) : Go p e below (RP s k n Q) T (mkF m pc Ls (.int z :: st)) := by
  obtain ⟨fs, hr, hrun, hended, hW, hsame⟩ := X.leave (v := (some (.int z.toInt8.toInt32))) (fun h => by first | rfl | (rw [hret] at h; cases h)) hlk
  exact ⟨_, _, retN X hx (t := .byte) hret (by simp) hd hr, hrun, hended, _, _, rfl, hq, ⟨_, rfl⟩, hW, hsame.mono hk hn⟩
theorem g_retl (X : Stand p l e R s m args below meth c T locs cells slots) (hx : p.tables.exec = Jvm.exec) {z : Int64} (hret : meth.sig.returnType = some .long) (hlk : meth.locks = false) {k n : Nat} {Q : Option Value → Heap → List Loc → Prop} (hk : cells ≤ k) (hn : slots ≤ n) (hd : decode c.code pc = .ok (.lreturn, 1)) (hq : Q (some (.long z)) T.heap locs) : Go p e below (RP s k n Q) T (mkF m pc Ls (.long z :: st)) := by
  obtain ⟨fs, hr, hrun, hended, hW, hsame⟩ := X.leave (v := (some (.long z))) (fun h => by first | rfl | (rw [hret] at h; cases h)) hlk
  exact ⟨_, _, retOut X hx hret rfl (Or.inr (Or.inl ⟨rfl, rfl, z, rfl⟩)) hd hr, hrun, hended, _, _, rfl, hq, ⟨_, rfl⟩, hW, hsame.mono hk hn⟩
theorem g_reta (X : Stand p l e R s m args below meth c T locs cells slots) (hx : p.tables.exec = Jvm.exec) {v : Value} {t : FieldType} (hv : v.isRef = true) (ht : t.isReference = true) (hret : meth.sig.returnType = some t) (hlk : meth.locks = false) {k n : Nat} {Q : Option Value → Heap → List Loc → Prop} (hk : cells ≤ k) (hn : slots ≤ n) (hd : decode c.code pc = .ok (.areturn, 1)) (hq : Q (some v) T.heap locs) : Go p e below (RP s k n Q) T (mkF m pc Ls (v :: st)) := by
  obtain ⟨fs, hr, hrun, hended, hW, hsame⟩ := X.leave (v := (some v)) (fun h => by first | rfl | (rw [hret] at h; cases h)) hlk
  exact ⟨_, _, retOut X hx hret (by cases t <;> first | (cases ht; done) | rfl) (Or.inr (Or.inr (Or.inr (Or.inr ⟨rfl, ht, hv⟩)))) hd hr, hrun, hended, _, _, rfl, hq, ⟨_, rfl⟩, hW, hsame.mono hk hn⟩
theorem g_retv (X : Stand p l e R s m args below meth c T locs cells slots) (hx : p.tables.exec = Jvm.exec) (hret : meth.sig.returnType = none) (hlk : meth.locks = false) {k n : Nat} {Q : Option Value → Heap → List Loc → Prop} (hk : cells ≤ k) (hn : slots ≤ n) (hd : decode c.code pc = .ok (.return_, 1)) (hq : Q none T.heap locs) : Go p e below (RP s k n Q) T (mkF m pc Ls []) := by
  obtain ⟨fs, hr, hrun, hended, hW, hsame⟩ := X.leave (v := none) (fun _ => rfl) hlk
  exact ⟨_, _, X.returnOut hx hret hd hr, hrun, hended, _, _, rfl, hq, ⟨_, rfl⟩, hW, hsame.mono hk hn⟩
/-- what a method does, called with these arguments over this heap -/
def Co (l : Launch) (y : MethodName) (bytes : ByteArray) (maxL : Nat) (ret : Option FieldType) (ws : List Jvm.Cond) (rm : Room) (Z : State) (h : Heap) (as : Array Value) (Q : Option Value → Heap → List Loc → Prop) : Prop := MetFree l y (head1 (Jvm.Cond.code y bytes maxL ret :: ws) rm) (fun a U => a = as ∧ Z.Warmed39 U.vm ∧ U.heap = h) (fun _ _ _ _ _ => True) (fun _ U o U' => ∃ v L, o = .returned v ∧ Q v U'.heap L ∧ FrameEnd U o U' L rm.cells rm.slots)
theorem Co.of {y : MethodName} {bytes : ByteArray} {maxL : Nat} {ret : Option FieldType} {ws : List Jvm.Cond} {rm : Room} {as : Array Value} {Q : Option Value → Heap → List Loc → Prop} (hpl : plainFor y = true) (body : ∀ (p : Program) (e : Env) (s : State) (m : MethodId) (below : List Frame) (meth : Method) (c : Code) (T : State), Stand p l e rm s m as below meth c T [] 0 0 → p.tables.exec = Jvm.exec → c.code = bytes → c.maxLocals = maxL → s.vm.findClass y.cls = some m.cls → meth.name = y.name → meth.sig.returnType = ret → meth.locks = false → Z.Warmed39 s.vm → T.heap = h → Go p e below (RP s rm.cells rm.slots Q) T (entryFrame m as maxL)) : Co l y bytes maxL ret ws rm Z h as Q := by
  refine MetFree.of_bodySF hpl hisR ?_
  intro p e s m args below meth c s₁ Bd hml hP hK
  obtain ⟨rfl, hZ, hh⟩ := hP
  exact body p e s m below meth c s₁ (Stand.of_body Bd) Bd.exec Bd.bytes hml (findClass_of_methodNamed Bd.named) (name_of_methodNamed Bd.named Bd.method).1 Bd.returns (BodyLoose.notSynchronized Bd) hZ (by rw [← hh, Bd.state]; rfl)
theorem g_callS (X : Stand p l e R s m args below meth c T locs cells slots) (hx : p.tables.exec = Jvm.exec) (hZ : Z.Warmed39 s.vm) {own : String} (hown : s.vm.findClass own = some m.cls) {i : Nat} {y : MethodName} {bytes : ByteArray} {maxL : Nat} {ret : Option FieldType} (w1 : (Cond.methodLink own i y).before a0 Z = true) (w2 : (Cond.static y).before a0 Z = true) (w3 : (Cond.initialized y.cls).before a0 Z = true) (w4 : (Cond.code y bytes maxL ret).before a0 Z = true)  (hy : y.cls ≠ "java/lang/invoke/MethodHandle" ∧ y.cls ≠ "java/lang/invoke/VarHandle") (eT : T.heap = h) {rm : Room} {Q : Option Value → Heap → List Loc → Prop} {St : List Value} (argsL rest : List Value) (hs : St = argsL.reverse ++ rest) (M : Co l y bytes maxL ret [] rm Z h argsL.toArray Q) (hlen : ∀ sig, parseMethodDescriptor y.desc = some sig → argsL.length = sig.parameters.length) (W : Nat) (hW : (rest.map fun v => v.category).sum ≤ W) (hf : rm.frames + 1 ≤ R.frames) (hl : W + (maxL + 11) + rm.locals ≤ R.locals) (hc : cells + rm.cells ≤ R.cells) (hsl : slots + rm.slots ≤ R.slots) (hsz : Ls.size = c.maxLocals) (hd : decode c.code pc = .ok (.invokestatic i, 3)) (pc' : Nat) (hp : pc + 3 = pc') (G : ∀ v T' L, Stand p l e R s m args below meth c T' (locs ++ L) (cells + rm.cells) (slots + rm.slots) → Q v T'.heap L → Go p e below P T' (mkF m pc' Ls (v.toList ++ rest))) : Go p e below P T (mkF m pc Ls St) := by
  subst hp
  obtain ⟨v, vm1, ⟨T', L', k', n'⟩, -, X', ⟨L, hQ, h1, h2, h3⟩, k⟩ := Jvm.LawKit.callS X hx (y := y) hown (mvT hZ w1) (mvT hZ w2) (mvT hZ w3) (mvT hZ w4) hy (backOf (W := W) M hZ w4 w3 hf hl) (g := mkF m pc Ls St) rfl hsz (argsL := argsL) (rest := rest) hlen hs (by show 2 * 0 + _ ≤ W; omega) hd (fun _ _ => ⟨rfl, eT, hc, hsl⟩)
  dsimp only [Pt.U, Pt.locs, Pt.cells, Pt.slots] at X' h1 h2 h3 k hQ
  subst h1 h2 h3
  exact (G v T' L X' hQ).stp k
theorem g_init (X : Stand p l e R s m args below meth c T locs cells slots) (hx : p.tables.exec = Jvm.exec) (hZ : Z.Warmed39 s.vm) {own : String} (hown : s.vm.findClass own = some m.cls) {i : Nat} {y : MethodName} {bytes : ByteArray} {maxL : Nat} (w1 : (Cond.methodLink own i y).before a0 Z = true) (hnm : y.name = "<init>") (w2 : (Cond.instanceMethod y).before a0 Z = true) (w3 : (Cond.initialized y.cls).before a0 Z = true) (w4 : (Cond.code y bytes maxL none).before a0 Z = true)  (hy : y.cls ≠ "java/lang/invoke/MethodHandle" ∧ y.cls ≠ "java/lang/invoke/VarHandle") (eT : T.heap = h) {rm : Room} {Q : Option Value → Heap → List Loc → Prop} {St : List Value} (argsL rest : List Value) {a : Addr} (hs : St = argsL.reverse ++ .ref a :: rest) (M : Co l y bytes maxL none [] rm Z h (.ref a :: argsL).toArray Q) (hlen : ∀ sig, parseMethodDescriptor y.desc = some sig → argsL.length = sig.parameters.length) (W : Nat) (hW : (rest.map fun v => v.category).sum ≤ W) (hf : rm.frames + 1 ≤ R.frames) (hl : W + (maxL + 11) + rm.locals ≤ R.locals) (hc : cells + rm.cells ≤ R.cells) (hsl : slots + rm.slots ≤ R.slots) (hsz : Ls.size = c.maxLocals) (hd : decode c.code pc = .ok (.invokespecial i, 3)) (pc' : Nat) (hp : pc + 3 = pc') (G : ∀ v T' L, Stand p l e R s m args below meth c T' (locs ++ L) (cells + rm.cells) (slots + rm.slots) → Q v T'.heap L → Go p e below P T' (mkF m pc' Ls (v.toList ++ rest))) : Go p e below P T (mkF m pc Ls St) := by
  subst hp
  obtain ⟨v, vm1, ⟨T', L', k', n'⟩, -, X', ⟨L, hQ, h1, h2, h3⟩, k⟩ := X.specialBack hx (y := y) hnm hown (mvT hZ w1) (mvT hZ w2) (mvT hZ w4) hy (backOf (W := W) M hZ w4 w3 hf hl) (g := mkF m pc Ls St) rfl hsz (Steps.refl _) (a := a) (argsL := argsL) (rest := rest) hlen hs (by show 2 * 0 + _ ≤ W; omega) hd (fun _ _ => ⟨rfl, eT, hc, hsl⟩)
  dsimp only [Pt.U, Pt.locs, Pt.cells, Pt.slots] at X' h1 h2 h3 k hQ
  subst h1 h2 h3
  exact (G v T' L X' hQ).stp fun _ j => k.trans j
theorem g_callV (X : Stand p l e R s m args below meth c T locs cells slots) (hx : p.tables.exec = Jvm.exec) (hZ : Z.Warmed39 s.vm) {own : String} (hown : s.vm.findClass own = some m.cls) {i : Nat} {y : MethodName} {bytes : ByteArray} {maxL : Nat} {ret : Option FieldType} (w1 : (Cond.methodLink own i y).before a0 Z = true) {C : String} (w2 : (Cond.declares y).before a0 Z = true) (w5 : (Cond.selects C y y).before a0 Z = true) (w6 : (Cond.instanceMethod y).before a0 Z = true) (w3 : (Cond.initialized y.cls).before a0 Z = true) (w4 : (Cond.code y bytes maxL ret).before a0 Z = true)  (hy : y.cls ≠ "java/lang/invoke/MethodHandle" ∧ y.cls ≠ "java/lang/invoke/VarHandle") (eT : T.heap = h) {rm : Room} {Q : Option Value → Heap → List Loc → Prop} {St : List Value} (argsL rest : List Value) {a : Addr} (E : Exa Z h a C) (hs : St = argsL.reverse ++ .ref a :: rest) (M : Co l y bytes maxL ret [] rm Z h (.ref a :: argsL).toArray Q) (hlen : ∀ sig, parseMethodDescriptor y.desc = some sig → argsL.length = sig.parameters.length) (W : Nat) (hW : (rest.map fun v => v.category).sum ≤ W) (hf : rm.frames + 1 ≤ R.frames) (hl : W + (maxL + 11) + rm.locals ≤ R.locals) (hc : cells + rm.cells ≤ R.cells) (hsl : slots + rm.slots ≤ R.slots) (hsz : Ls.size = c.maxLocals) (hd : decode c.code pc = .ok (.invokevirtual i, 3)) (pc' : Nat) (hp : pc + 3 = pc') (G : ∀ v T' L, Stand p l e R s m args below meth c T' (locs ++ L) (cells + rm.cells) (slots + rm.slots) → Q v T'.heap L → Go p e below P T' (mkF m pc' Ls (v.toList ++ rest))) : Go p e below P T (mkF m pc Ls St) := by
  subst hp
  obtain ⟨cq, kq, qa, qb, qc⟩ := isOf hZ eT E
  obtain ⟨v, vm1, ⟨T', L', k', n'⟩, -, X', ⟨L, hQ, h1, h2, h3⟩, k⟩ := X.virtualBack hx (y := y) (z := y) hown (mvT hZ w1) (mvT hZ w2) (notFace_of_selects (args := #[]) (mvT hZ w5)) (mvT hZ w5) (mvT hZ w6) hy (backOf (W := W) M hZ w4 w3 hf hl) qa qc (g := mkF m pc Ls St) rfl hsz (Steps.refl _) (argsL := argsL) (rest := rest) hlen hs (by show 2 * 0 + _ ≤ W; omega) hd (fun _ _ => ⟨rfl, eT, hc, hsl⟩)
  dsimp only [Pt.U, Pt.locs, Pt.cells, Pt.slots] at X' h1 h2 h3 k hQ
  subst h1 h2 h3
  exact (G v T' L X' hQ).stp fun _ j => k.trans j
theorem g_callP (X : Stand p l e R s m args below meth c T locs cells slots) (hx : p.tables.exec = Jvm.exec) (hZ : Z.Warmed39 s.vm) {own : String} (hown : s.vm.findClass own = some m.cls) {i : Nat} {y : MethodName} {bytes : ByteArray} {maxL : Nat} {ret : Option FieldType} (w1 : (Cond.methodLink own i y).before a0 Z = true) {n : Nat} (w2 : (Cond.instanceMethod y).before a0 Z = true) (w5 : (Cond.privateMethod y).before a0 Z = true) (wi : (Cond.instantiable y.cls n).before a0 Z = true) (w3 : (Cond.initialized y.cls).before a0 Z = true) (w4 : (Cond.code y bytes maxL ret).before a0 Z = true)  (hy : y.cls ≠ "java/lang/invoke/MethodHandle" ∧ y.cls ≠ "java/lang/invoke/VarHandle") (eT : T.heap = h) {rm : Room} {Q : Option Value → Heap → List Loc → Prop} {St : List Value} (argsL rest : List Value) {a : Addr} (E : Exa Z h a y.cls) (hs : St = argsL.reverse ++ .ref a :: rest) (M : Co l y bytes maxL ret [] rm Z h (.ref a :: argsL).toArray Q) (hlen : ∀ sig, parseMethodDescriptor y.desc = some sig → argsL.length = sig.parameters.length) (W : Nat) (hW : (rest.map fun v => v.category).sum ≤ W) (hf : rm.frames + 1 ≤ R.frames) (hl : W + (maxL + 11) + rm.locals ≤ R.locals) (hc : cells + rm.cells ≤ R.cells) (hsl : slots + rm.slots ≤ R.slots) (hsz : Ls.size = c.maxLocals) (hd : decode c.code pc = .ok (.invokevirtual i, 3)) (pc' : Nat) (hp : pc + 3 = pc') (G : ∀ v T' L, Stand p l e R s m args below meth c T' (locs ++ L) (cells + rm.cells) (slots + rm.slots) → Q v T'.heap L → Go p e below P T' (mkF m pc' Ls (v.toList ++ rest))) : Go p e below P T (mkF m pc Ls St) := by
  subst hp
  obtain ⟨cl, q1, q2⟩ := E.cell
  have wi' : (Cond.instantiable y.cls n).before args s = true := mv hZ wi
  obtain ⟨ci, ki, i1, i2, i3, i4, -⟩ := Cond.instantiable_spec wi'
  have hpr : s.PrivateAt y := Cond.privateMethod_at (mvP hZ w5 (args := #[]))
  have hsel : (Cond.selects y.cls y y).before args s = true := selects_self_of_private i1 i2 (by simp only [Bool.or_eq_false_iff] at i4; exact i4.1) hpr (mv hZ w2) hy
  obtain ⟨v, vm1, ⟨T', L', k', n'⟩, -, X', ⟨L, hQ, h1, h2, h3⟩, k⟩ := X.privateBack hx (y := y) hown (mvT hZ w1) (mvT hZ w2) hsel hpr (mvT hZ w4) hy (backOf (W := W) M hZ w4 w3 hf hl) (g := mkF m pc Ls St) rfl hsz (Steps.refl _) (a := a) (by rw [eT]; exact q1) q2 (argsL := argsL) (rest := rest) hlen hs (by show 2 * 0 + _ ≤ W; omega) hd (fun _ _ => ⟨rfl, eT, hc, hsl⟩)
  dsimp only [Pt.U, Pt.locs, Pt.cells, Pt.slots] at X' h1 h2 h3 k hQ
  subst h1 h2 h3
  exact (G v T' L X' hQ).stp fun _ j => k.trans j
def Pu (h : Heap) (v : Option Value) (r : Option Value) (h' : Heap) (L : List Loc) : Prop := r = v ∧ h' = h ∧ L = []
theorem pu_cont {v : Option Value} {fr lo : Nat} {pc' : Nat} {rest : List Value} (G : ∀ T', Stand p l e R s m args below meth c T' locs cells slots → T'.heap = h → Go p e below P T' (mkF m pc' Ls (v.toList ++ rest))) : ∀ v' T' L, Stand p l e R s m args below meth c T' (locs ++ L) (cells + ({ frames := fr, cells := 0, slots := 0, locals := lo } : Room).cells) (slots + ({ frames := fr, cells := 0, slots := 0, locals := lo } : Room).slots) → Pu h v v' T'.heap L → Go p e below P T' (mkF m pc' Ls (v'.toList ++ rest)) := by
  rintro v' T' L X ⟨rfl, e1, rfl⟩
  exact G T' (by simpa using X) e1
theorem Go.joinT {α : Type} {g : JFrame} (X : Stand p l e R s m args below meth c T locs cells slots) (eT : T.heap = h) (f : α → JFrame) (Pz : α → Prop) (J : ∀ T', Stand p l e R s m args below meth c T' locs cells slots → T'.heap = h → ∀ z, Pz z → Go p e below P T' (f z)) (K : (∀ T', Stand p l e R s m args below meth c T' locs cells slots → T'.heap = h → ∀ z, Pz z → Go p e below P T' (f z)) → Go p e below P T g) : Go p e below P T g := K J
theorem Go.joinH {α : Type} {g : JFrame} (X : Stand p l e R s m args below meth c T locs cells slots) (f : α → JFrame) (Pz : Heap → List Loc → α → Prop) (kc kn : Nat) (J : ∀ T' h' locs', Stand p l e R s m args below meth c T' locs' kc kn → T'.heap = h' → ∀ z, Pz h' locs' z → Go p e below P T' (f z)) (K : (∀ T' h' locs', Stand p l e R s m args below meth c T' locs' kc kn → T'.heap = h' → ∀ z, Pz h' locs' z → Go p e below P T' (f z)) → Go p e below P T g) : Go p e below P T g := K J
theorem Go.loop {α : Type} (X : Stand p l e R s m args below meth c T locs cells slots) (eT : T.heap = h) (f : α → JFrame) (μ : α → Nat) (Pz : α → Prop) (body : ∀ z, Pz z → (∀ T', Stand p l e R s m args below meth c T' locs cells slots → T'.heap = h → ∀ z', Pz z' → μ z' < μ z → Go p e below P T' (f z')) → ∀ T', Stand p l e R s m args below meth c T' locs cells slots → T'.heap = h → Go p e below P T' (f z)) (z : α) (hz : Pz z) : Go p e below P T (f z) := by
  have key : ∀ n, ∀ z, μ z < n → Pz z → ∀ T', Stand p l e R s m args below meth c T' locs cells slots → T'.heap = h → Go p e below P T' (f z) := by
    intro n
    induction n with
    | zero => intro z hn; exact absurd hn (Nat.not_lt_zero _)
    | succ n ih =>
      intro z hn hz T' X' e'
      exact body z hz (fun T2 X2 e2 z2 hz2 hlt => ih z2 (by omega) hz2 T2 X2 e2) T' X' e'
  exact key (μ z + 1) z (Nat.lt_succ_self _) hz T X eT
theorem Go.loopH {α : Type} (X : Stand p l e R s m args below meth c T locs cells slots) (eT : T.heap = h) (f : α → JFrame) (μ : α → Nat) (Pz : Heap → List Loc → α → Prop) (body : ∀ z h' locs', Pz h' locs' z → (∀ T' h2 locs2, Stand p l e R s m args below meth c T' locs2 cells slots → T'.heap = h2 → ∀ z', Pz h2 locs2 z' → μ z' < μ z → Go p e below P T' (f z')) → ∀ T', Stand p l e R s m args below meth c T' locs' cells slots → T'.heap = h' → Go p e below P T' (f z)) (z : α) (hz : Pz h locs z) : Go p e below P T (f z) := by
  have key : ∀ n, ∀ z h' locs', μ z < n → Pz h' locs' z → ∀ T', Stand p l e R s m args below meth c T' locs' cells slots → T'.heap = h' → Go p e below P T' (f z) := by
    intro n
    induction n with
    | zero => intro z h' locs' hn; exact absurd hn (Nat.not_lt_zero _)
    | succ n ih =>
      intro z h' locs' hn hz T' X' e'
      exact body z h' locs' hz (fun T2 h2 locs2 X2 e2 z2 hz2 hlt => ih z2 h2 locs2 (by omega) hz2 T2 X2 e2) T' X' e'
  exact key (μ z + 1) z h locs (Nat.lt_succ_self _) hz T X eT
theorem own_sta_keep {C n d : String} {v : Value} {h' : Heap} {ws : List Addr} (F : Sta Z h C n d v) (K : Keep h h' ws) (q : ∀ x ∈ ws, ∀ cell : Cell, h[x]? = some cell → cell.vm.isStatics = false) : Sta Z h' C n d v := by
  obtain ⟨cf, i, k, f, st, cell, h1, h2, h3, h4, h5, h6, h7⟩ := F
  exact ⟨cf, i, k, f, st, cell, h1, h2, h3, h4, K.2.1 st cell h5 (fun hm => by rw [q st hm cell h5] at h6; cases h6), h6, h7⟩
end OwnGo
def Q5_2 (Z : State) (b : Addr) (d : Addr) (c0 : Int32) (c1 : Int32) (h0 : Heap) (n0 : Nat) (v : Option Value) (h : Heap) (L : List Loc) : Prop := v = some (.int (2 : Int32)) ∧ Fr n0 L ∧ Keep h0 h [d] ∧ AV Z h d .byte [(.int c0.toInt8.toInt32.toInt8.toInt32), (.int c1.toInt8.toInt32.toInt8.toInt32)]
theorem ef5_2 (m_ : MethodId) (b : Addr) (d : Addr)  : entryFrame m_ #[(.ref b), (.int (0 : Int32)), (.ref d), (.int (0 : Int32)), (.int (2 : Int32))] 7 = mkF m_ 0 #[.val (.ref b), .val (.int (0 : Int32)), .val (.ref d), .val (.int (0 : Int32)), .val (.int (2 : Int32)), .unset, .unset] [] := by first | (simp [entryFrame, mkF, argsToLocals, Value.category]; done) | rfl
theorem pn_0 : plainName "java/lang/StringUTF16" = true := by first | (simp [plainName, overriddenIn]; done) | decide +kernel
theorem d5_0 : decode jdk_52_method_21_code 0 = .ok (.iconst 0, 1) := by decide +kernel
theorem d5_1 : decode jdk_52_method_21_code 1 = .ok (.istore 5, 2) := by decide +kernel
theorem d5_3 : decode jdk_52_method_21_code 3 = .ok (.iload 5, 2) := by decide +kernel
theorem d5_5 : decode jdk_52_method_21_code 5 = .ok (.iload 4, 2) := by decide +kernel
theorem d5_7 : decode jdk_52_method_21_code 7 = .ok (.if_icmp .ge 37, 3) := by decide +kernel
theorem d5_10 : decode jdk_52_method_21_code 10 = .ok (.aload_n 0, 1) := by decide +kernel
theorem d5_11 : decode jdk_52_method_21_code 11 = .ok (.iload_n 1, 1) := by decide +kernel
theorem d5_12 : decode jdk_52_method_21_code 12 = .ok (.caload, 1) := by decide +kernel
theorem d5_13 : decode jdk_52_method_21_code 13 = .ok (.istore 6, 2) := by decide +kernel
theorem d5_15 : decode jdk_52_method_21_code 15 = .ok (.iload 6, 2) := by decide +kernel
theorem d5_17 : decode jdk_52_method_21_code 17 = .ok (.sipush 255, 3) := by decide +kernel
theorem d5_20 : decode jdk_52_method_21_code 20 = .ok (.if_icmp .le 6, 3) := by decide +kernel
theorem d5_26 : decode jdk_52_method_21_code 26 = .ok (.aload_n 2, 1) := by decide +kernel
theorem d5_27 : decode jdk_52_method_21_code 27 = .ok (.iload_n 3, 1) := by decide +kernel
theorem d5_28 : decode jdk_52_method_21_code 28 = .ok (.iload 6, 2) := by decide +kernel
theorem d5_30 : decode jdk_52_method_21_code 30 = .ok (.i2b, 1) := by decide +kernel
theorem d5_31 : decode jdk_52_method_21_code 31 = .ok (.bastore, 1) := by decide +kernel
theorem d5_32 : decode jdk_52_method_21_code 32 = .ok (.iinc 1 1, 3) := by decide +kernel
theorem d5_35 : decode jdk_52_method_21_code 35 = .ok (.iinc 3 1, 3) := by decide +kernel
theorem d5_38 : decode jdk_52_method_21_code 38 = .ok (.iinc 5 1, 3) := by decide +kernel
theorem d5_41 : decode jdk_52_method_21_code 41 = .ok (.goto (-38), 3) := by decide +kernel
theorem d5_44 : decode jdk_52_method_21_code 44 = .ok (.iload 4, 2) := by decide +kernel
theorem d5_46 : decode jdk_52_method_21_code 46 = .ok (.ireturn, 1) := by decide +kernel
set_option maxRecDepth 65536 in
set_option maxHeartbeats 40000000 in
theorem co5_2 (l : Launch) (Z : State) (a0 : Array Value) (hw : ∀ d ∈ tables_1, d.before a0 Z = true) (b : Addr) (d : Addr) (c0 : Int32) (c1 : Int32) (h0 : Heap) (n0 : Nat) (Z0 : n0 ≤ h0.size)  (g_d : n0 ≤ d) (A_b : AV Z h0 b .char [(.int c0), (.int c1)]) (A_d : AV Z h0 d .byte [(.int (0 : Int32)), (.int (0 : Int32))]) (nbd : b ≠ d) (l0 : ¬ (255 : Int32) < c0) (l1 : ¬ (255 : Int32) < c1) : Co l (⟨"java/lang/StringUTF16", "compress", "([CI[BII)I"⟩ : MethodName) jdk_52_method_21_code 7 (some .int) [] ({ frames := 0, cells := 0, slots := 0, locals := 0 } : Room) Z h0 #[(.ref b), (.int (0 : Int32)), (.ref d), (.int (0 : Int32)), (.int (2 : Int32))] (Q5_2 Z b d c0 c1 h0 n0) := by
  refine Co.of (plainFor_of_name pn_0) ?_
  intro p_ e_ s_ m_ below meth c_ T0 X0 hx hby hml hown hnm hret hlk hZ eq0
  have N0 := Fr.nil n0
  refine Go.cast (ef5_2 m_ b d ) ?_
  refine g_iconst X0 hx (0 : Int32) rfl (hb hby d5_0) 1 rfl ?_
  refine g_istore X0 hx #[.val (.ref b), .val (.int (0 : Int32)), .val (.ref d), .val (.int (0 : Int32)), .val (.int (2 : Int32)), .val (.int (0 : Int32)), .unset] rfl (hb hby d5_1) 3 rfl ?_
  refine g_iload X0 hx rfl (hb hby d5_3) 5 rfl ?_
  refine g_iload X0 hx rfl (hb hby d5_5) 7 rfl ?_
  refine g_icmp_ge X0 hx (hb hby d5_7) 44 10 (by decide) rfl rfl (fun q101 => ?_) (fun q101 => ?_)
  · exact absurd q101 (by decide)
  · refine g_aloadN X0 hx rfl rfl (hb hby d5_10) 11 rfl ?_
    refine g_iloadN X0 hx rfl (hb hby d5_11) 12 rfl ?_
    refine g_caload X0 hx hZ eq0 A_b (by decide) rfl (hb hby d5_12) 13 rfl ?_
    show Go p_ e_ below _ T0 (mkF m_ 13 #[.val (.ref b), .val (.int (0 : Int32)), .val (.ref d), .val (.int (0 : Int32)), .val (.int (2 : Int32)), .val (.int (0 : Int32)), .unset] [(.int c0)])
    refine g_istore X0 hx #[.val (.ref b), .val (.int (0 : Int32)), .val (.ref d), .val (.int (0 : Int32)), .val (.int (2 : Int32)), .val (.int (0 : Int32)), .val (.int c0)] rfl (hb hby d5_13) 15 rfl ?_
    refine g_iload X0 hx rfl (hb hby d5_15) 17 rfl ?_
    refine g_sipush X0 hx (255 : Int32) rfl (hb hby d5_17) 20 rfl ?_
    refine g_icmp_le X0 hx (hb hby d5_20) 26 23 (by decide) rfl rfl (fun q102 => ?_) (fun q102 => ?_)
    · refine g_aloadN X0 hx rfl rfl (hb hby d5_26) 27 rfl ?_
      refine g_iloadN X0 hx rfl (hb hby d5_27) 28 rfl ?_
      refine g_iload X0 hx rfl (hb hby d5_28) 30 rfl ?_
      refine g_i2b X0 hx (hb hby d5_30) 31 rfl ?_
      refine g_bastore X0 hx hZ eq0 A_d (by decide) (Nat.le_of_ble_eq_true rfl) (hb hby d5_31) 32 rfl (fun T103 h104 X105 e106 W107 A108 => ?_)
      have A109 : AV Z h104 d .byte [(.int c0.toInt8.toInt32.toInt8.toInt32), (.int (0 : Int32))] := A108
      have F110 := A_b.other W107 nbd
      have F111 := A109
      have N112 := Fr.snoc X105 N0 g_d
      have szh113 : n0 ≤ h104.size := Nat.le_trans Z0 (Nat.le_of_eq W107.size.symm)
      have K114 := (Keep.refl h0 [d]).wr W107 (Or.inl (List.mem_of_getElem? (i := 0) rfl))
      show Go p_ e_ below _ T103 (mkF m_ 32 #[.val (.ref b), .val (.int (0 : Int32)), .val (.ref d), .val (.int (0 : Int32)), .val (.int (2 : Int32)), .val (.int (0 : Int32)), .val (.int c0)] [])
      refine g_iinc X105 hx (1 : Int32) rfl rfl #[.val (.ref b), .val (.int (1 : Int32)), .val (.ref d), .val (.int (0 : Int32)), .val (.int (2 : Int32)), .val (.int (0 : Int32)), .val (.int c0)] rfl (hb hby d5_32) 35 rfl ?_
      refine g_iinc X105 hx (1 : Int32) rfl rfl #[.val (.ref b), .val (.int (1 : Int32)), .val (.ref d), .val (.int (1 : Int32)), .val (.int (2 : Int32)), .val (.int (0 : Int32)), .val (.int c0)] rfl (hb hby d5_35) 38 rfl ?_
      refine g_iinc X105 hx (1 : Int32) rfl rfl #[.val (.ref b), .val (.int (1 : Int32)), .val (.ref d), .val (.int (1 : Int32)), .val (.int (2 : Int32)), .val (.int (1 : Int32)), .val (.int c0)] rfl (hb hby d5_38) 41 rfl ?_
      refine g_goto X105 hx (hb hby d5_41) 3 (by decide) rfl ?_
      refine g_iload X105 hx rfl (hb hby d5_3) 5 rfl ?_
      refine g_iload X105 hx rfl (hb hby d5_5) 7 rfl ?_
      refine g_icmp_ge X105 hx (hb hby d5_7) 44 10 (by decide) rfl rfl (fun q115 => ?_) (fun q115 => ?_)
      · exact absurd q115 (by decide)
      · refine g_aloadN X105 hx rfl rfl (hb hby d5_10) 11 rfl ?_
        refine g_iloadN X105 hx rfl (hb hby d5_11) 12 rfl ?_
        refine g_caload X105 hx hZ e106 F110 (by decide) rfl (hb hby d5_12) 13 rfl ?_
        show Go p_ e_ below _ T103 (mkF m_ 13 #[.val (.ref b), .val (.int (1 : Int32)), .val (.ref d), .val (.int (1 : Int32)), .val (.int (2 : Int32)), .val (.int (1 : Int32)), .val (.int c0)] [(.int c1)])
        refine g_istore X105 hx #[.val (.ref b), .val (.int (1 : Int32)), .val (.ref d), .val (.int (1 : Int32)), .val (.int (2 : Int32)), .val (.int (1 : Int32)), .val (.int c1)] rfl (hb hby d5_13) 15 rfl ?_
        refine g_iload X105 hx rfl (hb hby d5_15) 17 rfl ?_
        refine g_sipush X105 hx (255 : Int32) rfl (hb hby d5_17) 20 rfl ?_
        refine g_icmp_le X105 hx (hb hby d5_20) 26 23 (by decide) rfl rfl (fun q116 => ?_) (fun q116 => ?_)
        · refine g_aloadN X105 hx rfl rfl (hb hby d5_26) 27 rfl ?_
          refine g_iloadN X105 hx rfl (hb hby d5_27) 28 rfl ?_
          refine g_iload X105 hx rfl (hb hby d5_28) 30 rfl ?_
          refine g_i2b X105 hx (hb hby d5_30) 31 rfl ?_
          refine g_bastore X105 hx hZ e106 A109 (by decide) (Nat.le_of_ble_eq_true rfl) (hb hby d5_31) 32 rfl (fun T117 h118 X119 e120 W121 A122 => ?_)
          have A123 : AV Z h118 d .byte [(.int c0.toInt8.toInt32.toInt8.toInt32), (.int c1.toInt8.toInt32.toInt8.toInt32)] := A122
          have F124 := F110.other W121 nbd
          have F125 := A123
          have N126 := Fr.snoc X119 N112 g_d
          have szh127 : n0 ≤ h118.size := Nat.le_trans szh113 (Nat.le_of_eq W121.size.symm)
          have K128 := K114.wr W121 (Or.inl (List.mem_of_getElem? (i := 0) rfl))
          show Go p_ e_ below _ T117 (mkF m_ 32 #[.val (.ref b), .val (.int (1 : Int32)), .val (.ref d), .val (.int (1 : Int32)), .val (.int (2 : Int32)), .val (.int (1 : Int32)), .val (.int c1)] [])
          refine g_iinc X119 hx (1 : Int32) rfl rfl #[.val (.ref b), .val (.int (2 : Int32)), .val (.ref d), .val (.int (1 : Int32)), .val (.int (2 : Int32)), .val (.int (1 : Int32)), .val (.int c1)] rfl (hb hby d5_32) 35 rfl ?_
          refine g_iinc X119 hx (1 : Int32) rfl rfl #[.val (.ref b), .val (.int (2 : Int32)), .val (.ref d), .val (.int (2 : Int32)), .val (.int (2 : Int32)), .val (.int (1 : Int32)), .val (.int c1)] rfl (hb hby d5_35) 38 rfl ?_
          refine g_iinc X119 hx (1 : Int32) rfl rfl #[.val (.ref b), .val (.int (2 : Int32)), .val (.ref d), .val (.int (2 : Int32)), .val (.int (2 : Int32)), .val (.int (2 : Int32)), .val (.int c1)] rfl (hb hby d5_38) 41 rfl ?_
          refine g_goto X119 hx (hb hby d5_41) 3 (by decide) rfl ?_
          refine g_iload X119 hx rfl (hb hby d5_3) 5 rfl ?_
          refine g_iload X119 hx rfl (hb hby d5_5) 7 rfl ?_
          refine g_icmp_ge X119 hx (hb hby d5_7) 44 10 (by decide) rfl rfl (fun q129 => ?_) (fun q129 => ?_)
          · refine g_iload X119 hx rfl (hb hby d5_44) 46 rfl ?_
            exact g_reti X119 hx hret hlk (by decide) (by decide) (hb hby d5_46) (by rw [e120]; exact ⟨rfl, N126, K128, A123⟩)
          · exact absurd q129 (by decide)
        · exact absurd q116 l1
    · exact absurd q102 l0
def Q4_2 (Z : State) (b : Addr) (c0 : Int32) (c1 : Int32) (h0 : Heap) (n0 : Nat) (v : Option Value) (h : Heap) (L : List Loc) : Prop := ∃ d, v = some (.ref d) ∧ Fr n0 L ∧ Keep h0 h [] ∧ h0.size ≤ d ∧ AV Z h d .byte [(.int c0.toInt8.toInt32.toInt8.toInt32), (.int c1.toInt8.toInt32.toInt8.toInt32)]
theorem ef4_2 (m_ : MethodId) (b : Addr)  : entryFrame m_ #[(.ref b), (.int (0 : Int32)), (.int (2 : Int32))] 6 = mkF m_ 0 #[.val (.ref b), .val (.int (0 : Int32)), .val (.int (2 : Int32)), .unset, .unset, .unset] [] := by first | (simp [entryFrame, mkF, argsToLocals, Value.category]; done) | rfl
theorem d4_0 : decode jdk_52_method_16_code 0 = .ok (.iload_n 2, 1) := by decide +kernel
theorem d4_1 : decode jdk_52_method_16_code 1 = .ok (.newarray .byte, 2) := by decide +kernel
theorem d4_3 : decode jdk_52_method_16_code 3 = .ok (.astore_n 3, 1) := by decide +kernel
theorem d4_4 : decode jdk_52_method_16_code 4 = .ok (.aload_n 0, 1) := by decide +kernel
theorem d4_5 : decode jdk_52_method_16_code 5 = .ok (.iload_n 1, 1) := by decide +kernel
theorem d4_6 : decode jdk_52_method_16_code 6 = .ok (.aload_n 3, 1) := by decide +kernel
theorem d4_7 : decode jdk_52_method_16_code 7 = .ok (.iconst 0, 1) := by decide +kernel
theorem d4_8 : decode jdk_52_method_16_code 8 = .ok (.iload_n 2, 1) := by decide +kernel
theorem pd_0 : parseMethodDescriptor "([CI[BII)I" = some ⟨[(.array .char), .int, (.array .byte), .int, .int], some .int⟩ := by decide +kernel
theorem d4_9 : decode jdk_52_method_16_code 9 = .ok (.invokestatic 115, 3) := by decide +kernel
theorem d4_12 : decode jdk_52_method_16_code 12 = .ok (.istore 4, 2) := by decide +kernel
theorem d4_14 : decode jdk_52_method_16_code 14 = .ok (.iload 4, 2) := by decide +kernel
theorem d4_16 : decode jdk_52_method_16_code 16 = .ok (.iload_n 2, 1) := by decide +kernel
theorem d4_17 : decode jdk_52_method_16_code 17 = .ok (.if_icmp .eq 40, 3) := by decide +kernel
theorem d4_57 : decode jdk_52_method_16_code 57 = .ok (.aload_n 3, 1) := by decide +kernel
theorem d4_58 : decode jdk_52_method_16_code 58 = .ok (.areturn, 1) := by decide +kernel
set_option maxRecDepth 65536 in
set_option maxHeartbeats 40000000 in
theorem co4_2 (l : Launch) (Z : State) (a0 : Array Value) (hw : ∀ d ∈ tables_1, d.before a0 Z = true) (b : Addr) (c0 : Int32) (c1 : Int32) (h0 : Heap) (n0 : Nat) (Z0 : n0 ≤ h0.size)   (A_b : AV Z h0 b .char [(.int c0), (.int c1)]) (l0 : ¬ (255 : Int32) < c0) (l1 : ¬ (255 : Int32) < c1) : Co l (⟨"java/lang/StringUTF16", "compress", "([CII)[B"⟩ : MethodName) jdk_52_method_16_code 6 (some (.array .byte)) [] ({ frames := 1, cells := 1, slots := 2, locals := 18 } : Room) Z h0 #[(.ref b), (.int (0 : Int32)), (.int (2 : Int32))] (Q4_2 Z b c0 c1 h0 n0) := by
  refine Co.of (plainFor_of_name pn_0) ?_
  intro p_ e_ s_ m_ below meth c_ T0 X0 hx hby hml hown hnm hret hlk hZ eq0
  have N0 := Fr.nil n0
  refine Go.cast (ef4_2 m_ b ) ?_
  refine g_iloadN X0 hx rfl (hb hby d4_0) 1 rfl ?_
  refine g_newarray X0 hx hZ (aty := .byte) (wd hw 21 rfl) eq0 (by decide) 2 (by decide) (by decide) (by decide) (by decide) [(.int (0 : Int32)), (.int (0 : Int32))] rfl (hb hby d4_1) 3 rfl (fun T101 h102 b103 X104 e105 g106 E107 A108 => ?_)
  have ne109 : b ≠ b103 := Nat.ne_of_lt (Nat.lt_of_lt_of_eq A_b.lt g106.symm)
  have F110 := A_b.ext E107
  have sz111 : n0 ≤ b103 := Nat.le_trans Z0 (Nat.le_of_eq g106.symm)
  have szh112 : n0 ≤ h102.size := Nat.le_trans Z0 E107.1
  have szk113 : h0.size ≤ b103 := Nat.le_trans (Keep.refl h0 []).1 (Nat.le_of_eq g106.symm)
  have K114 := (Keep.refl h0 []).ext E107
  have A115 : AV Z h102 b103 .byte [(.int (0 : Int32)), (.int (0 : Int32))] := A108
  show Go p_ e_ below _ T101 (mkF m_ 3 #[.val (.ref b), .val (.int (0 : Int32)), .val (.int (2 : Int32)), .unset, .unset, .unset] [(.ref b103)])
  refine g_astoreN X104 hx #[.val (.ref b), .val (.int (0 : Int32)), .val (.int (2 : Int32)), .val (.ref b103), .unset, .unset] rfl rfl (hb hby d4_3) 4 rfl ?_
  refine g_aloadN X104 hx rfl rfl (hb hby d4_4) 5 rfl ?_
  refine g_iloadN X104 hx rfl (hb hby d4_5) 6 rfl ?_
  refine g_aloadN X104 hx rfl rfl (hb hby d4_6) 7 rfl ?_
  refine g_iconst X104 hx (0 : Int32) rfl (hb hby d4_7) 8 rfl ?_
  refine g_iloadN X104 hx rfl (hb hby d4_8) 9 rfl ?_
  refine g_callS X104 hx hZ hown (wd hw 22 rfl) (wd hw 23 rfl) (wd hw 19 rfl) (wd hw 24 rfl) (by decide) e105 [(.ref b), (.int (0 : Int32)), (.ref b103), (.int (0 : Int32)), (.int (2 : Int32))] [] rfl (co5_2 l Z a0 hw b b103 c0 c1 h102 n0 szh112 sz111 F110 A115 ne109 l0 l1) (lenOf pd_0 rfl) 0 (Nat.le_of_eq rfl) (by decide) (by decide) (by decide) (by decide) (by rw [hml]; rfl) (hb hby d4_9) 12 rfl (fun r116 T117 L118 X119 Q120 => ?_)
  obtain ⟨h121, e122⟩ : ∃ h, T117.heap = h := ⟨_, rfl⟩
  rw [e122] at Q120
  obtain ⟨rfl, n123, K124, A125⟩ := Q120
  have N126 := Fr.app N0 n123
  have F127 := F110.keep K124 (ninS ne109 nin0)
  have szh128 : n0 ≤ h121.size := Nat.le_trans szh112 K124.1
  have K129 := K114.trans K124 (allS (Or.inr szk113) all0)
  show Go p_ e_ below _ T117 (mkF m_ 12 #[.val (.ref b), .val (.int (0 : Int32)), .val (.int (2 : Int32)), .val (.ref b103), .unset, .unset] [(.int (2 : Int32))])
  refine g_istore X119 hx #[.val (.ref b), .val (.int (0 : Int32)), .val (.int (2 : Int32)), .val (.ref b103), .val (.int (2 : Int32)), .unset] rfl (hb hby d4_12) 14 rfl ?_
  refine g_iload X119 hx rfl (hb hby d4_14) 16 rfl ?_
  refine g_iloadN X119 hx rfl (hb hby d4_16) 17 rfl ?_
  refine g_icmp_eq X119 hx (hb hby d4_17) 57 20 (by decide) rfl rfl (fun q17 => ?_) (fun q17 => ?_)
  · refine g_aloadN X119 hx rfl rfl (hb hby d4_57) 58 rfl ?_
    exact g_reta X119 hx rfl rfl hret hlk (by decide) (by decide) (hb hby d4_58) (by rw [e122]; exact ⟨b103, rfl, N126, K129, szk113, A125⟩)
  · exact absurd rfl q17
theorem ef6_2 (m_ : MethodId) (b : Addr)  : entryFrame m_ #[(.ref b), (.int (2 : Int32))] 2 = mkF m_ 0 #[.val (.ref b), .val (.int (2 : Int32))] [] := by first | (simp [entryFrame, mkF, argsToLocals, Value.category]; done) | rfl
theorem d6_0 : decode jdk_52_method_15_code 0 = .ok (.iload_n 1, 1) := by decide +kernel
theorem d6_1 : decode jdk_52_method_15_code 1 = .ok (.aload_n 0, 1) := by decide +kernel
theorem d6_2 : decode jdk_52_method_15_code 2 = .ok (.arraylength, 1) := by decide +kernel
theorem d6_3 : decode jdk_52_method_15_code 3 = .ok (.isub, 1) := by decide +kernel
theorem d6_4 : decode jdk_52_method_15_code 4 = .ok (.bipush 31, 2) := by decide +kernel
theorem d6_6 : decode jdk_52_method_15_code 6 = .ok (.iushr, 1) := by decide +kernel
theorem d6_7 : decode jdk_52_method_15_code 7 = .ok (.i2b, 1) := by decide +kernel
theorem d6_8 : decode jdk_52_method_15_code 8 = .ok (.ireturn, 1) := by decide +kernel
set_option maxRecDepth 65536 in
set_option maxHeartbeats 40000000 in
theorem co6_2 (l : Launch) (Z : State) (a0 : Array Value) (hw : ∀ d ∈ tables_1, d.before a0 Z = true) (b : Addr) (v0 : Value) (v1 : Value) (h0 : Heap) (A_b : AV Z h0 b .byte [v0, v1]) : Co l (⟨"java/lang/StringUTF16", "coderFromArrayLen", "([BI)B"⟩ : MethodName) jdk_52_method_15_code 2 (some .byte) [] ({ frames := 0, cells := 0, slots := 0, locals := 0 } : Room) Z h0 #[(.ref b), (.int (2 : Int32))] (Pu h0 (some (.int ((0 : Int32) )))) := by
  refine Co.of (plainFor_of_name pn_0) ?_
  intro p_ e_ s_ m_ below meth c_ T0 X0 hx hby hml hown hnm hret hlk hZ eq0
  refine Go.cast (ef6_2 m_ b ) ?_
  refine g_iloadN X0 hx rfl (hb hby d6_0) 1 rfl ?_
  refine g_aloadN X0 hx rfl rfl (hb hby d6_1) 2 rfl ?_
  refine g_arraylength X0 hx hZ eq0 A_b (2 : Int32) rfl (hb hby d6_2) 3 rfl ?_
  refine g_isub X0 hx (hb hby d6_3) 4 rfl ?_
  show Go p_ e_ below _ T0 (mkF m_ 4 #[.val (.ref b), .val (.int (2 : Int32))] [(.int (0 : Int32))])
  refine g_bipush X0 hx (31 : Int32) rfl (hb hby d6_4) 6 rfl ?_
  refine g_iushr X0 hx (hb hby d6_6) 7 rfl ?_
  refine g_i2b X0 hx (hb hby d6_7) 8 rfl ?_
  exact g_retb X0 hx hret hlk (by decide) (by decide) (hb hby d6_8) ⟨congrArg (fun z => some (Value.int z)) (by decide), eq0, rfl⟩
def Q2_2 (Z : State) (a : Addr) (b : Addr) (c0 : Int32) (c1 : Int32) (cs : Int32) (h0 : Heap) (n0 : Nat) (v : Option Value) (h : Heap) (L : List Loc) : Prop := v = none ∧ Fr n0 L ∧ Keep h0 h [a] ∧ Exa Z h a "java/lang/String" ∧ Fld Z h a "java/lang/String" "coder" "B" (.int (0 : Int32)) ∧ ∃ d, h0.size ≤ d ∧ Fld Z h a "java/lang/String" "value" "[B" (.ref d) ∧ AV Z h d .byte [(.int c0.toInt8.toInt32.toInt8.toInt32), (.int c1.toInt8.toInt32.toInt8.toInt32)]
theorem ef2_2 (m_ : MethodId) (a : Addr) (b : Addr)  : entryFrame m_ #[(.ref a), (.ref b), (.int (0 : Int32)), (.int (2 : Int32)), .null] 6 = mkF m_ 0 #[.val (.ref a), .val (.ref b), .val (.int (0 : Int32)), .val (.int (2 : Int32)), .val .null, .unset] [] := by first | (simp [entryFrame, mkF, argsToLocals, Value.category]; done) | rfl
theorem pn_1 : plainName "java/lang/String" = true := by first | (simp [plainName, overriddenIn]; done) | decide +kernel
theorem d2_0 : decode jdk_42_method_149_code 0 = .ok (.aload_n 0, 1) := by decide +kernel
theorem d2_1 : decode jdk_42_method_149_code 1 = .ok (.invokespecial 1, 3) := by decide +kernel
theorem d2_4 : decode jdk_42_method_149_code 4 = .ok (.iload_n 3, 1) := by decide +kernel
theorem d2_5 : decode jdk_42_method_149_code 5 = .ok (.ifCond .ne 22, 3) := by decide +kernel
theorem d2_27 : decode jdk_42_method_149_code 27 = .ok (.getstatic 38, 3) := by decide +kernel
theorem d2_30 : decode jdk_42_method_149_code 30 = .ok (.ifCond .eq 28, 3) := by decide +kernel
theorem d2_33 : decode jdk_42_method_149_code 33 = .ok (.aload_n 1, 1) := by decide +kernel
theorem d2_34 : decode jdk_42_method_149_code 34 = .ok (.iload_n 2, 1) := by decide +kernel
theorem d2_35 : decode jdk_42_method_149_code 35 = .ok (.iload_n 3, 1) := by decide +kernel
theorem pd_1 : parseMethodDescriptor "([CII)[B" = some ⟨[(.array .char), .int, .int], some (.array .byte)⟩ := by decide +kernel
theorem d2_36 : decode jdk_42_method_149_code 36 = .ok (.invokestatic 177, 3) := by decide +kernel
theorem d2_39 : decode jdk_42_method_149_code 39 = .ok (.astore 5, 2) := by decide +kernel
theorem d2_41 : decode jdk_42_method_149_code 41 = .ok (.aload_n 0, 1) := by decide +kernel
theorem d2_42 : decode jdk_42_method_149_code 42 = .ok (.aload 5, 2) := by decide +kernel
theorem d2_44 : decode jdk_42_method_149_code 44 = .ok (.iload_n 3, 1) := by decide +kernel
theorem pd_2 : parseMethodDescriptor "([BI)B" = some ⟨[(.array .byte), .int], some .byte⟩ := by decide +kernel
theorem d2_45 : decode jdk_42_method_149_code 45 = .ok (.invokestatic 47, 3) := by decide +kernel
theorem d2_48 : decode jdk_42_method_149_code 48 = .ok (.putfield 15, 3) := by decide +kernel
theorem d2_51 : decode jdk_42_method_149_code 51 = .ok (.aload_n 0, 1) := by decide +kernel
theorem d2_52 : decode jdk_42_method_149_code 52 = .ok (.aload 5, 2) := by decide +kernel
theorem d2_54 : decode jdk_42_method_149_code 54 = .ok (.putfield 9, 3) := by decide +kernel
theorem d2_57 : decode jdk_42_method_149_code 57 = .ok (.return_, 1) := by decide +kernel
set_option maxRecDepth 65536 in
set_option maxHeartbeats 40000000 in
theorem co2_2 (l : Launch) (Z : State) (a0 : Array Value) (hw : ∀ d ∈ tables_1, d.before a0 Z = true) (a : Addr) (b : Addr) (c0 : Int32) (c1 : Int32) (cs : Int32) (h0 : Heap) (n0 : Nat) (Z0 : n0 ≤ h0.size)  (g_a : n0 ≤ a) (E_a : Exa Z h0 a "java/lang/String") (F_c : Fld Z h0 a "java/lang/String" "coder" "B" (.int (0 : Int32))) (F_v : Fld Z h0 a "java/lang/String" "value" "[B" .null) (A_b : AV Z h0 b .char [(.int c0), (.int c1)]) (nba : a ≠ b) (S_cs : Sta Z h0 "java/lang/String" "COMPACT_STRINGS" "Z" (.int cs)) (hcs : ¬ cs = (0 : Int32)) (l0 : ¬ (255 : Int32) < c0) (l1 : ¬ (255 : Int32) < c1) : Co l (⟨"java/lang/String", "<init>", "([CIILjava/lang/Void;)V"⟩ : MethodName) jdk_42_method_149_code 6 none [] ({ frames := 2, cells := 1, slots := 2, locals := 35 } : Room) Z h0 #[(.ref a), (.ref b), (.int (0 : Int32)), (.int (2 : Int32)), .null] (Q2_2 Z a b c0 c1 cs h0 n0) := by
  refine Co.of (plainFor_of_name pn_1) ?_
  intro p_ e_ s_ m_ below meth c_ T0 X0 hx hby hml hown hnm hret hlk hZ eq0
  have N0 := Fr.nil n0
  refine Go.cast (ef2_2 m_ a b ) ?_
  refine g_aloadN X0 hx rfl rfl (hb hby d2_0) 1 rfl ?_
  refine g_initO X0 hx hZ hown (wd hw 13 rfl) (wd hw 14 rfl) (wd hw 15 rfl) eq0 (by rw [hml]; rfl) (hb hby d2_1) (by decide) 0 (Nat.le_of_eq rfl) (by decide) 4 rfl (fun T101 X102 e103 => ?_)
  show Go p_ e_ below _ T101 (mkF m_ 4 #[.val (.ref a), .val (.ref b), .val (.int (0 : Int32)), .val (.int (2 : Int32)), .val .null, .unset] [])
  refine g_iloadN X102 hx rfl (hb hby d2_4) 5 rfl ?_
  refine g_if_ne X102 hx (hb hby d2_5) 27 8 (by decide) rfl rfl (fun q5 => ?_) (fun q5 => ?_)
  · refine g_getstatic X102 hx hZ hown (host := "") (Or.inl (wd hw 16 rfl)) Via.refl S_cs e103 (hb hby d2_27) 30 rfl (fun T104 X105 e106 => ?_)
    show Go p_ e_ below _ T104 (mkF m_ 30 #[.val (.ref a), .val (.ref b), .val (.int (0 : Int32)), .val (.int (2 : Int32)), .val .null, .unset] [(.int cs)])
    refine g_if_eq X105 hx (hb hby d2_30) 58 33 (by decide) rfl rfl (fun q30 => ?_) (fun q30 => ?_)
    · exact absurd q30 hcs
    · refine g_aloadN X105 hx rfl rfl (hb hby d2_33) 34 rfl ?_
      refine g_iloadN X105 hx rfl (hb hby d2_34) 35 rfl ?_
      refine g_iloadN X105 hx rfl (hb hby d2_35) 36 rfl ?_
      refine g_callS X105 hx hZ hown (wd hw 17 rfl) (wd hw 18 rfl) (wd hw 19 rfl) (wd hw 20 rfl) (by decide) e106 [(.ref b), (.int (0 : Int32)), (.int (2 : Int32))] [] rfl (co4_2 l Z a0 hw b c0 c1 h0 n0 Z0 A_b l0 l1) (lenOf pd_1 rfl) 0 (Nat.le_of_eq rfl) (by decide) (by decide) (by decide) (by decide) (by rw [hml]; rfl) (hb hby d2_36) 39 rfl (fun r107 T108 L109 X110 Q111 => ?_)
      obtain ⟨h112, e113⟩ : ∃ h, T108.heap = h := ⟨_, rfl⟩
      rw [e113] at Q111
      obtain ⟨b114, rfl, n115, K116, sz117, A118⟩ := Q111
      have N119 := Fr.app N0 n115
      have ne120 : a ≠ b114 := Nat.ne_of_lt (Nat.lt_of_lt_of_le E_a.lt sz117)
      have ne121 : b ≠ b114 := Nat.ne_of_lt (Nat.lt_of_lt_of_le A_b.lt sz117)
      have F122 := E_a.keep K116
      have F123 := F_c.keep K116 nin0
      have F124 := F_v.keep K116 nin0
      have F125 := A_b.keep K116 nin0
      have F126 := own_sta_keep S_cs K116 ns0
      have szh127 : n0 ≤ h112.size := Nat.le_trans Z0 K116.1
      have K128 := (Keep.refl h0 [a]).trans K116 all0
      show Go p_ e_ below _ T108 (mkF m_ 39 #[.val (.ref a), .val (.ref b), .val (.int (0 : Int32)), .val (.int (2 : Int32)), .val .null, .unset] [(.ref b114)])
      refine g_astore X110 hx #[.val (.ref a), .val (.ref b), .val (.int (0 : Int32)), .val (.int (2 : Int32)), .val .null, .val (.ref b114)] rfl rfl (hb hby d2_39) 41 rfl ?_
      refine g_aloadN X110 hx rfl rfl (hb hby d2_41) 42 rfl ?_
      refine g_aload X110 hx rfl rfl (hb hby d2_42) 44 rfl ?_
      refine g_iloadN X110 hx rfl (hb hby d2_44) 45 rfl ?_
      refine g_callS X110 hx hZ hown (wd hw 25 rfl) (wd hw 26 rfl) (wd hw 19 rfl) (wd hw 27 rfl) (by decide) e113 [(.ref b114), (.int (2 : Int32))] [(.ref a)]  rfl (co6_2 l Z a0 hw b114 (.int c0.toInt8.toInt32.toInt8.toInt32) (.int c1.toInt8.toInt32.toInt8.toInt32) h112 A118) (lenOf pd_2 rfl) 1 (Nat.le_of_eq rfl) (by decide) (by decide) (by decide) (by decide) (by rw [hml]; rfl) (hb hby d2_45) 48 rfl (pu_cont fun T130 X129 e131 => ?_)
      show Go p_ e_ below _ T130 (mkF m_ 48 #[.val (.ref a), .val (.ref b), .val (.int (0 : Int32)), .val (.int (2 : Int32)), .val .null, .val (.ref b114)] [(.int (0 : Int32)), (.ref a)])
      refine g_putfield X129 hx hZ hown (host := "") (Or.inl (wd hw 28 rfl)) Via.refl e131 F123 F122 (Or.inr ⟨(wd hw 29 rfl), rfl, hnm⟩) (wd hw 4 rfl) (ty := .byte) (by decide) rfl rfl (hb hby d2_48) 51 rfl (fun T132 h133 X134 e135 W136 => ?_)
      have F137 := F122.wr W136
      have F138 := F123.same W136
      have F139 := F124.other W136 (Or.inr (slot_ne (Or.inr (wd hw 31 rfl)) (Or.inr (wd hw 29 rfl)) (by decide) (t := (.array .byte)) (t' := .byte) (by decide) (by decide)))
      have F140 := F125.other W136 (Ne.symm nba)
      have F141 := F126.wr W136
      have F142 := A118.other W136 (Ne.symm ne120)
      have N143 := Fr.snoc X134 N119 g_a
      have szh144 : n0 ≤ h133.size := Nat.le_trans szh127 (Nat.le_of_eq W136.size.symm)
      have K145 := K128.wr W136 (Or.inl (List.mem_of_getElem? (i := 0) rfl))
      show Go p_ e_ below _ T132 (mkF m_ 51 #[.val (.ref a), .val (.ref b), .val (.int (0 : Int32)), .val (.int (2 : Int32)), .val .null, .val (.ref b114)] [])
      refine g_aloadN X134 hx rfl rfl (hb hby d2_51) 52 rfl ?_
      refine g_aload X134 hx rfl rfl (hb hby d2_52) 54 rfl ?_
      refine g_putfield X134 hx hZ hown (host := "") (Or.inl (wd hw 30 rfl)) Via.refl e135 F139 F137 (Or.inr ⟨(wd hw 31 rfl), rfl, hnm⟩) (wd hw 4 rfl) (ty := (.array .byte)) (by decide) rfl rfl (hb hby d2_54) 57 rfl (fun T146 h147 X148 e149 W150 => ?_)
      have F151 := F137.wr W150
      have F152 := F138.other W150 (Or.inr (slot_ne (Or.inr (wd hw 29 rfl)) (Or.inr (wd hw 31 rfl)) (by decide) (t := .byte) (t' := (.array .byte)) (by decide) (by decide)))
      have F153 := F139.same W150
      have F154 := F140.other W150 (Ne.symm nba)
      have F155 := F141.wr W150
      have F156 := F142.other W150 (Ne.symm ne120)
      have N157 := Fr.snoc X148 N143 g_a
      have szh158 : n0 ≤ h147.size := Nat.le_trans szh144 (Nat.le_of_eq W150.size.symm)
      have K159 := K145.wr W150 (Or.inl (List.mem_of_getElem? (i := 0) rfl))
      show Go p_ e_ below _ T146 (mkF m_ 57 #[.val (.ref a), .val (.ref b), .val (.int (0 : Int32)), .val (.int (2 : Int32)), .val .null, .val (.ref b114)] [])
      exact g_retv X148 hx hret hlk (by decide) (by decide) (hb hby d2_57) (by rw [e149]; exact ⟨rfl, N157, K159, F151, F152, b114, sz117, F153, F156⟩)
  · exact absurd q5 (by decide)
def Q1_2 (Z : State) (a : Addr) (b : Addr) (c0 : Int32) (c1 : Int32) (cs : Int32) (h0 : Heap) (n0 : Nat) (v : Option Value) (h : Heap) (L : List Loc) : Prop := v = none ∧ Fr n0 L ∧ Keep h0 h [a] ∧ Exa Z h a "java/lang/String" ∧ Fld Z h a "java/lang/String" "coder" "B" (.int (0 : Int32)) ∧ ∃ d, h0.size ≤ d ∧ Fld Z h a "java/lang/String" "value" "[B" (.ref d) ∧ AV Z h d .byte [(.int c0.toInt8.toInt32.toInt8.toInt32), (.int c1.toInt8.toInt32.toInt8.toInt32)]
theorem ef1_2 (m_ : MethodId) (a : Addr) (b : Addr)  : entryFrame m_ #[(.ref a), (.ref b)] 2 = mkF m_ 0 #[.val (.ref a), .val (.ref b)] [] := by first | (simp [entryFrame, mkF, argsToLocals, Value.category]; done) | rfl
theorem d1_0 : decode jdk_42_method_3_code 0 = .ok (.aload_n 0, 1) := by decide +kernel
theorem d1_1 : decode jdk_42_method_3_code 1 = .ok (.aload_n 1, 1) := by decide +kernel
theorem d1_2 : decode jdk_42_method_3_code 2 = .ok (.iconst 0, 1) := by decide +kernel
theorem d1_3 : decode jdk_42_method_3_code 3 = .ok (.aload_n 1, 1) := by decide +kernel
theorem d1_4 : decode jdk_42_method_3_code 4 = .ok (.arraylength, 1) := by decide +kernel
theorem d1_5 : decode jdk_42_method_3_code 5 = .ok (.aconst_null, 1) := by decide +kernel
theorem pd_3 : parseMethodDescriptor "([CIILjava/lang/Void;)V" = some ⟨[(.array .char), .int, .int, (.object "java/lang/Void")], none⟩ := by decide +kernel
theorem d1_6 : decode jdk_42_method_3_code 6 = .ok (.invokespecial 27, 3) := by decide +kernel
theorem d1_9 : decode jdk_42_method_3_code 9 = .ok (.return_, 1) := by decide +kernel
set_option maxRecDepth 65536 in
set_option maxHeartbeats 40000000 in
theorem co1_2 (l : Launch) (Z : State) (a0 : Array Value) (hw : ∀ d ∈ tables_1, d.before a0 Z = true) (a : Addr) (b : Addr) (c0 : Int32) (c1 : Int32) (cs : Int32) (h0 : Heap) (n0 : Nat) (Z0 : n0 ≤ h0.size)  (g_a : n0 ≤ a) (E_a : Exa Z h0 a "java/lang/String") (F_c : Fld Z h0 a "java/lang/String" "coder" "B" (.int (0 : Int32))) (F_v : Fld Z h0 a "java/lang/String" "value" "[B" .null) (A_b : AV Z h0 b .char [(.int c0), (.int c1)]) (nba : a ≠ b) (S_cs : Sta Z h0 "java/lang/String" "COMPACT_STRINGS" "Z" (.int cs)) (hcs : ¬ cs = (0 : Int32)) (l0 : ¬ (255 : Int32) < c0) (l1 : ¬ (255 : Int32) < c1) : Co l (⟨"java/lang/String", "<init>", "([C)V"⟩ : MethodName) jdk_42_method_3_code 2 none [] ({ frames := 3, cells := 1, slots := 2, locals := 52 } : Room) Z h0 #[(.ref a), (.ref b)] (Q1_2 Z a b c0 c1 cs h0 n0) := by
  refine Co.of (plainFor_of_name pn_1) ?_
  intro p_ e_ s_ m_ below meth c_ T0 X0 hx hby hml hown hnm hret hlk hZ eq0
  have N0 := Fr.nil n0
  refine Go.cast (ef1_2 m_ a b ) ?_
  refine g_aloadN X0 hx rfl rfl (hb hby d1_0) 1 rfl ?_
  refine g_aloadN X0 hx rfl rfl (hb hby d1_1) 2 rfl ?_
  refine g_iconst X0 hx (0 : Int32) rfl (hb hby d1_2) 3 rfl ?_
  refine g_aloadN X0 hx rfl rfl (hb hby d1_3) 4 rfl ?_
  refine g_arraylength X0 hx hZ eq0 A_b (2 : Int32) rfl (hb hby d1_4) 5 rfl ?_
  refine g_aconst_null X0 hx (hb hby d1_5) 6 rfl ?_
  refine g_init X0 hx hZ hown (wd hw 9 rfl) rfl (wd hw 10 rfl) (wd hw 5 rfl) (wd hw 12 rfl) (by decide) eq0 [(.ref b), (.int (0 : Int32)), (.int (2 : Int32)), .null] [] rfl (co2_2 l Z a0 hw a b c0 c1 cs h0 n0 Z0 g_a E_a F_c F_v A_b nba S_cs hcs l0 l1) (lenOf pd_3 rfl) 0 (Nat.le_of_eq rfl) (by decide) (by decide) (by decide) (by decide) (by rw [hml]; rfl) (hb hby d1_6) 9 rfl (fun r101 T102 L103 X104 Q105 => ?_)
  obtain ⟨h106, e107⟩ : ∃ h, T102.heap = h := ⟨_, rfl⟩
  rw [e107] at Q105
  obtain ⟨rfl, n108, K109, E110, F111, b112, sz113, F114, A115⟩ := Q105
  have N116 := Fr.app N0 n108
  have ne117 : a ≠ b112 := Nat.ne_of_lt (Nat.lt_of_lt_of_le E_a.lt sz113)
  have ne118 : b ≠ b112 := Nat.ne_of_lt (Nat.lt_of_lt_of_le A_b.lt sz113)
  have F119 := E_a.keep K109
  have F120 := A_b.keep K109 (ninS (Ne.symm nba) nin0)
  have F121 := own_sta_keep S_cs K109 (nsS E_a.nostat ns0)
  have szh122 : n0 ≤ h106.size := Nat.le_trans Z0 K109.1
  have K123 := (Keep.refl h0 [a]).trans K109 (allS (Or.inl (List.mem_of_getElem? (i := 0) rfl)) all0)
  show Go p_ e_ below _ T102 (mkF m_ 9 #[.val (.ref a), .val (.ref b)] [])
  exact g_retv X104 hx hret hlk (by decide) (by decide) (hb hby d1_9) (by rw [e107]; exact ⟨rfl, N116, K123, E110, F111, b112, sz113, F114, A115⟩)
def Q5_1 (Z : State) (b : Addr) (d : Addr) (c0 : Int32) (h0 : Heap) (n0 : Nat) (v : Option Value) (h : Heap) (L : List Loc) : Prop := v = some (.int (1 : Int32)) ∧ Fr n0 L ∧ Keep h0 h [d] ∧ AV Z h d .byte [(.int c0.toInt8.toInt32.toInt8.toInt32)]
theorem ef5_1 (m_ : MethodId) (b : Addr) (d : Addr)  : entryFrame m_ #[(.ref b), (.int (0 : Int32)), (.ref d), (.int (0 : Int32)), (.int (1 : Int32))] 7 = mkF m_ 0 #[.val (.ref b), .val (.int (0 : Int32)), .val (.ref d), .val (.int (0 : Int32)), .val (.int (1 : Int32)), .unset, .unset] [] := by first | (simp [entryFrame, mkF, argsToLocals, Value.category]; done) | rfl
set_option maxRecDepth 65536 in
set_option maxHeartbeats 40000000 in
theorem co5_1 (l : Launch) (Z : State) (a0 : Array Value) (hw : ∀ d ∈ tables_1, d.before a0 Z = true) (b : Addr) (d : Addr) (c0 : Int32) (h0 : Heap) (n0 : Nat) (Z0 : n0 ≤ h0.size)  (g_d : n0 ≤ d) (A_b : AV Z h0 b .char [(.int c0)]) (A_d : AV Z h0 d .byte [(.int (0 : Int32))]) (nbd : b ≠ d) (l0 : ¬ (255 : Int32) < c0) : Co l (⟨"java/lang/StringUTF16", "compress", "([CI[BII)I"⟩ : MethodName) jdk_52_method_21_code 7 (some .int) [] ({ frames := 0, cells := 0, slots := 0, locals := 0 } : Room) Z h0 #[(.ref b), (.int (0 : Int32)), (.ref d), (.int (0 : Int32)), (.int (1 : Int32))] (Q5_1 Z b d c0 h0 n0) := by
  refine Co.of (plainFor_of_name pn_0) ?_
  intro p_ e_ s_ m_ below meth c_ T0 X0 hx hby hml hown hnm hret hlk hZ eq0
  have N0 := Fr.nil n0
  refine Go.cast (ef5_1 m_ b d ) ?_
  refine g_iconst X0 hx (0 : Int32) rfl (hb hby d5_0) 1 rfl ?_
  refine g_istore X0 hx #[.val (.ref b), .val (.int (0 : Int32)), .val (.ref d), .val (.int (0 : Int32)), .val (.int (1 : Int32)), .val (.int (0 : Int32)), .unset] rfl (hb hby d5_1) 3 rfl ?_
  refine g_iload X0 hx rfl (hb hby d5_3) 5 rfl ?_
  refine g_iload X0 hx rfl (hb hby d5_5) 7 rfl ?_
  refine g_icmp_ge X0 hx (hb hby d5_7) 44 10 (by decide) rfl rfl (fun q101 => ?_) (fun q101 => ?_)
  · exact absurd q101 (by decide)
  · refine g_aloadN X0 hx rfl rfl (hb hby d5_10) 11 rfl ?_
    refine g_iloadN X0 hx rfl (hb hby d5_11) 12 rfl ?_
    refine g_caload X0 hx hZ eq0 A_b (by decide) rfl (hb hby d5_12) 13 rfl ?_
    show Go p_ e_ below _ T0 (mkF m_ 13 #[.val (.ref b), .val (.int (0 : Int32)), .val (.ref d), .val (.int (0 : Int32)), .val (.int (1 : Int32)), .val (.int (0 : Int32)), .unset] [(.int c0)])
    refine g_istore X0 hx #[.val (.ref b), .val (.int (0 : Int32)), .val (.ref d), .val (.int (0 : Int32)), .val (.int (1 : Int32)), .val (.int (0 : Int32)), .val (.int c0)] rfl (hb hby d5_13) 15 rfl ?_
    refine g_iload X0 hx rfl (hb hby d5_15) 17 rfl ?_
    refine g_sipush X0 hx (255 : Int32) rfl (hb hby d5_17) 20 rfl ?_
    refine g_icmp_le X0 hx (hb hby d5_20) 26 23 (by decide) rfl rfl (fun q102 => ?_) (fun q102 => ?_)
    · refine g_aloadN X0 hx rfl rfl (hb hby d5_26) 27 rfl ?_
      refine g_iloadN X0 hx rfl (hb hby d5_27) 28 rfl ?_
      refine g_iload X0 hx rfl (hb hby d5_28) 30 rfl ?_
      refine g_i2b X0 hx (hb hby d5_30) 31 rfl ?_
      refine g_bastore X0 hx hZ eq0 A_d (by decide) (Nat.le_of_ble_eq_true rfl) (hb hby d5_31) 32 rfl (fun T103 h104 X105 e106 W107 A108 => ?_)
      have A109 : AV Z h104 d .byte [(.int c0.toInt8.toInt32.toInt8.toInt32)] := A108
      have F110 := A_b.other W107 nbd
      have F111 := A109
      have N112 := Fr.snoc X105 N0 g_d
      have szh113 : n0 ≤ h104.size := Nat.le_trans Z0 (Nat.le_of_eq W107.size.symm)
      have K114 := (Keep.refl h0 [d]).wr W107 (Or.inl (List.mem_of_getElem? (i := 0) rfl))
      show Go p_ e_ below _ T103 (mkF m_ 32 #[.val (.ref b), .val (.int (0 : Int32)), .val (.ref d), .val (.int (0 : Int32)), .val (.int (1 : Int32)), .val (.int (0 : Int32)), .val (.int c0)] [])
      refine g_iinc X105 hx (1 : Int32) rfl rfl #[.val (.ref b), .val (.int (1 : Int32)), .val (.ref d), .val (.int (0 : Int32)), .val (.int (1 : Int32)), .val (.int (0 : Int32)), .val (.int c0)] rfl (hb hby d5_32) 35 rfl ?_
      refine g_iinc X105 hx (1 : Int32) rfl rfl #[.val (.ref b), .val (.int (1 : Int32)), .val (.ref d), .val (.int (1 : Int32)), .val (.int (1 : Int32)), .val (.int (0 : Int32)), .val (.int c0)] rfl (hb hby d5_35) 38 rfl ?_
      refine g_iinc X105 hx (1 : Int32) rfl rfl #[.val (.ref b), .val (.int (1 : Int32)), .val (.ref d), .val (.int (1 : Int32)), .val (.int (1 : Int32)), .val (.int (1 : Int32)), .val (.int c0)] rfl (hb hby d5_38) 41 rfl ?_
      refine g_goto X105 hx (hb hby d5_41) 3 (by decide) rfl ?_
      refine g_iload X105 hx rfl (hb hby d5_3) 5 rfl ?_
      refine g_iload X105 hx rfl (hb hby d5_5) 7 rfl ?_
      refine g_icmp_ge X105 hx (hb hby d5_7) 44 10 (by decide) rfl rfl (fun q115 => ?_) (fun q115 => ?_)
      · refine g_iload X105 hx rfl (hb hby d5_44) 46 rfl ?_
        exact g_reti X105 hx hret hlk (by decide) (by decide) (hb hby d5_46) (by rw [e106]; exact ⟨rfl, N112, K114, A109⟩)
      · exact absurd q115 (by decide)
    · exact absurd q102 l0
def Q4_1 (Z : State) (b : Addr) (c0 : Int32) (h0 : Heap) (n0 : Nat) (v : Option Value) (h : Heap) (L : List Loc) : Prop := ∃ d, v = some (.ref d) ∧ Fr n0 L ∧ Keep h0 h [] ∧ h0.size ≤ d ∧ AV Z h d .byte [(.int c0.toInt8.toInt32.toInt8.toInt32)]
theorem ef4_1 (m_ : MethodId) (b : Addr)  : entryFrame m_ #[(.ref b), (.int (0 : Int32)), (.int (1 : Int32))] 6 = mkF m_ 0 #[.val (.ref b), .val (.int (0 : Int32)), .val (.int (1 : Int32)), .unset, .unset, .unset] [] := by first | (simp [entryFrame, mkF, argsToLocals, Value.category]; done) | rfl
set_option maxRecDepth 65536 in
set_option maxHeartbeats 40000000 in
theorem co4_1 (l : Launch) (Z : State) (a0 : Array Value) (hw : ∀ d ∈ tables_1, d.before a0 Z = true) (b : Addr) (c0 : Int32) (h0 : Heap) (n0 : Nat) (Z0 : n0 ≤ h0.size)   (A_b : AV Z h0 b .char [(.int c0)]) (l0 : ¬ (255 : Int32) < c0) : Co l (⟨"java/lang/StringUTF16", "compress", "([CII)[B"⟩ : MethodName) jdk_52_method_16_code 6 (some (.array .byte)) [] ({ frames := 1, cells := 1, slots := 1, locals := 18 } : Room) Z h0 #[(.ref b), (.int (0 : Int32)), (.int (1 : Int32))] (Q4_1 Z b c0 h0 n0) := by
  refine Co.of (plainFor_of_name pn_0) ?_
  intro p_ e_ s_ m_ below meth c_ T0 X0 hx hby hml hown hnm hret hlk hZ eq0
  have N0 := Fr.nil n0
  refine Go.cast (ef4_1 m_ b ) ?_
  refine g_iloadN X0 hx rfl (hb hby d4_0) 1 rfl ?_
  refine g_newarray X0 hx hZ (aty := .byte) (wd hw 21 rfl) eq0 (by decide) 1 (by decide) (by decide) (by decide) (by decide) [(.int (0 : Int32))] rfl (hb hby d4_1) 3 rfl (fun T101 h102 b103 X104 e105 g106 E107 A108 => ?_)
  have ne109 : b ≠ b103 := Nat.ne_of_lt (Nat.lt_of_lt_of_eq A_b.lt g106.symm)
  have F110 := A_b.ext E107
  have sz111 : n0 ≤ b103 := Nat.le_trans Z0 (Nat.le_of_eq g106.symm)
  have szh112 : n0 ≤ h102.size := Nat.le_trans Z0 E107.1
  have szk113 : h0.size ≤ b103 := Nat.le_trans (Keep.refl h0 []).1 (Nat.le_of_eq g106.symm)
  have K114 := (Keep.refl h0 []).ext E107
  have A115 : AV Z h102 b103 .byte [(.int (0 : Int32))] := A108
  show Go p_ e_ below _ T101 (mkF m_ 3 #[.val (.ref b), .val (.int (0 : Int32)), .val (.int (1 : Int32)), .unset, .unset, .unset] [(.ref b103)])
  refine g_astoreN X104 hx #[.val (.ref b), .val (.int (0 : Int32)), .val (.int (1 : Int32)), .val (.ref b103), .unset, .unset] rfl rfl (hb hby d4_3) 4 rfl ?_
  refine g_aloadN X104 hx rfl rfl (hb hby d4_4) 5 rfl ?_
  refine g_iloadN X104 hx rfl (hb hby d4_5) 6 rfl ?_
  refine g_aloadN X104 hx rfl rfl (hb hby d4_6) 7 rfl ?_
  refine g_iconst X104 hx (0 : Int32) rfl (hb hby d4_7) 8 rfl ?_
  refine g_iloadN X104 hx rfl (hb hby d4_8) 9 rfl ?_
  refine g_callS X104 hx hZ hown (wd hw 22 rfl) (wd hw 23 rfl) (wd hw 19 rfl) (wd hw 24 rfl) (by decide) e105 [(.ref b), (.int (0 : Int32)), (.ref b103), (.int (0 : Int32)), (.int (1 : Int32))] [] rfl (co5_1 l Z a0 hw b b103 c0 h102 n0 szh112 sz111 F110 A115 ne109 l0) (lenOf pd_0 rfl) 0 (Nat.le_of_eq rfl) (by decide) (by decide) (by decide) (by decide) (by rw [hml]; rfl) (hb hby d4_9) 12 rfl (fun r116 T117 L118 X119 Q120 => ?_)
  obtain ⟨h121, e122⟩ : ∃ h, T117.heap = h := ⟨_, rfl⟩
  rw [e122] at Q120
  obtain ⟨rfl, n123, K124, A125⟩ := Q120
  have N126 := Fr.app N0 n123
  have F127 := F110.keep K124 (ninS ne109 nin0)
  have szh128 : n0 ≤ h121.size := Nat.le_trans szh112 K124.1
  have K129 := K114.trans K124 (allS (Or.inr szk113) all0)
  show Go p_ e_ below _ T117 (mkF m_ 12 #[.val (.ref b), .val (.int (0 : Int32)), .val (.int (1 : Int32)), .val (.ref b103), .unset, .unset] [(.int (1 : Int32))])
  refine g_istore X119 hx #[.val (.ref b), .val (.int (0 : Int32)), .val (.int (1 : Int32)), .val (.ref b103), .val (.int (1 : Int32)), .unset] rfl (hb hby d4_12) 14 rfl ?_
  refine g_iload X119 hx rfl (hb hby d4_14) 16 rfl ?_
  refine g_iloadN X119 hx rfl (hb hby d4_16) 17 rfl ?_
  refine g_icmp_eq X119 hx (hb hby d4_17) 57 20 (by decide) rfl rfl (fun q17 => ?_) (fun q17 => ?_)
  · refine g_aloadN X119 hx rfl rfl (hb hby d4_57) 58 rfl ?_
    exact g_reta X119 hx rfl rfl hret hlk (by decide) (by decide) (hb hby d4_58) (by rw [e122]; exact ⟨b103, rfl, N126, K129, szk113, A125⟩)
  · exact absurd rfl q17
theorem ef6_1 (m_ : MethodId) (b : Addr)  : entryFrame m_ #[(.ref b), (.int (1 : Int32))] 2 = mkF m_ 0 #[.val (.ref b), .val (.int (1 : Int32))] [] := by first | (simp [entryFrame, mkF, argsToLocals, Value.category]; done) | rfl
set_option maxRecDepth 65536 in
set_option maxHeartbeats 40000000 in
theorem co6_1 (l : Launch) (Z : State) (a0 : Array Value) (hw : ∀ d ∈ tables_1, d.before a0 Z = true) (b : Addr) (v0 : Value) (h0 : Heap) (A_b : AV Z h0 b .byte [v0]) : Co l (⟨"java/lang/StringUTF16", "coderFromArrayLen", "([BI)B"⟩ : MethodName) jdk_52_method_15_code 2 (some .byte) [] ({ frames := 0, cells := 0, slots := 0, locals := 0 } : Room) Z h0 #[(.ref b), (.int (1 : Int32))] (Pu h0 (some (.int ((0 : Int32) )))) := by
  refine Co.of (plainFor_of_name pn_0) ?_
  intro p_ e_ s_ m_ below meth c_ T0 X0 hx hby hml hown hnm hret hlk hZ eq0
  refine Go.cast (ef6_1 m_ b ) ?_
  refine g_iloadN X0 hx rfl (hb hby d6_0) 1 rfl ?_
  refine g_aloadN X0 hx rfl rfl (hb hby d6_1) 2 rfl ?_
  refine g_arraylength X0 hx hZ eq0 A_b (1 : Int32) rfl (hb hby d6_2) 3 rfl ?_
  refine g_isub X0 hx (hb hby d6_3) 4 rfl ?_
  show Go p_ e_ below _ T0 (mkF m_ 4 #[.val (.ref b), .val (.int (1 : Int32))] [(.int (0 : Int32))])
  refine g_bipush X0 hx (31 : Int32) rfl (hb hby d6_4) 6 rfl ?_
  refine g_iushr X0 hx (hb hby d6_6) 7 rfl ?_
  refine g_i2b X0 hx (hb hby d6_7) 8 rfl ?_
  exact g_retb X0 hx hret hlk (by decide) (by decide) (hb hby d6_8) ⟨congrArg (fun z => some (Value.int z)) (by decide), eq0, rfl⟩
def Q2_1 (Z : State) (a : Addr) (b : Addr) (c0 : Int32) (cs : Int32) (h0 : Heap) (n0 : Nat) (v : Option Value) (h : Heap) (L : List Loc) : Prop := v = none ∧ Fr n0 L ∧ Keep h0 h [a] ∧ Exa Z h a "java/lang/String" ∧ Fld Z h a "java/lang/String" "coder" "B" (.int (0 : Int32)) ∧ ∃ d, h0.size ≤ d ∧ Fld Z h a "java/lang/String" "value" "[B" (.ref d) ∧ AV Z h d .byte [(.int c0.toInt8.toInt32.toInt8.toInt32)]
theorem ef2_1 (m_ : MethodId) (a : Addr) (b : Addr)  : entryFrame m_ #[(.ref a), (.ref b), (.int (0 : Int32)), (.int (1 : Int32)), .null] 6 = mkF m_ 0 #[.val (.ref a), .val (.ref b), .val (.int (0 : Int32)), .val (.int (1 : Int32)), .val .null, .unset] [] := by first | (simp [entryFrame, mkF, argsToLocals, Value.category]; done) | rfl
set_option maxRecDepth 65536 in
set_option maxHeartbeats 40000000 in
theorem co2_1 (l : Launch) (Z : State) (a0 : Array Value) (hw : ∀ d ∈ tables_1, d.before a0 Z = true) (a : Addr) (b : Addr) (c0 : Int32) (cs : Int32) (h0 : Heap) (n0 : Nat) (Z0 : n0 ≤ h0.size)  (g_a : n0 ≤ a) (E_a : Exa Z h0 a "java/lang/String") (F_c : Fld Z h0 a "java/lang/String" "coder" "B" (.int (0 : Int32))) (F_v : Fld Z h0 a "java/lang/String" "value" "[B" .null) (A_b : AV Z h0 b .char [(.int c0)]) (nba : a ≠ b) (S_cs : Sta Z h0 "java/lang/String" "COMPACT_STRINGS" "Z" (.int cs)) (hcs : ¬ cs = (0 : Int32)) (l0 : ¬ (255 : Int32) < c0) : Co l (⟨"java/lang/String", "<init>", "([CIILjava/lang/Void;)V"⟩ : MethodName) jdk_42_method_149_code 6 none [] ({ frames := 2, cells := 1, slots := 1, locals := 35 } : Room) Z h0 #[(.ref a), (.ref b), (.int (0 : Int32)), (.int (1 : Int32)), .null] (Q2_1 Z a b c0 cs h0 n0) := by
  refine Co.of (plainFor_of_name pn_1) ?_
  intro p_ e_ s_ m_ below meth c_ T0 X0 hx hby hml hown hnm hret hlk hZ eq0
  have N0 := Fr.nil n0
  refine Go.cast (ef2_1 m_ a b ) ?_
  refine g_aloadN X0 hx rfl rfl (hb hby d2_0) 1 rfl ?_
  refine g_initO X0 hx hZ hown (wd hw 13 rfl) (wd hw 14 rfl) (wd hw 15 rfl) eq0 (by rw [hml]; rfl) (hb hby d2_1) (by decide) 0 (Nat.le_of_eq rfl) (by decide) 4 rfl (fun T101 X102 e103 => ?_)
  show Go p_ e_ below _ T101 (mkF m_ 4 #[.val (.ref a), .val (.ref b), .val (.int (0 : Int32)), .val (.int (1 : Int32)), .val .null, .unset] [])
  refine g_iloadN X102 hx rfl (hb hby d2_4) 5 rfl ?_
  refine g_if_ne X102 hx (hb hby d2_5) 27 8 (by decide) rfl rfl (fun q5 => ?_) (fun q5 => ?_)
  · refine g_getstatic X102 hx hZ hown (host := "") (Or.inl (wd hw 16 rfl)) Via.refl S_cs e103 (hb hby d2_27) 30 rfl (fun T104 X105 e106 => ?_)
    show Go p_ e_ below _ T104 (mkF m_ 30 #[.val (.ref a), .val (.ref b), .val (.int (0 : Int32)), .val (.int (1 : Int32)), .val .null, .unset] [(.int cs)])
    refine g_if_eq X105 hx (hb hby d2_30) 58 33 (by decide) rfl rfl (fun q30 => ?_) (fun q30 => ?_)
    · exact absurd q30 hcs
    · refine g_aloadN X105 hx rfl rfl (hb hby d2_33) 34 rfl ?_
      refine g_iloadN X105 hx rfl (hb hby d2_34) 35 rfl ?_
      refine g_iloadN X105 hx rfl (hb hby d2_35) 36 rfl ?_
      refine g_callS X105 hx hZ hown (wd hw 17 rfl) (wd hw 18 rfl) (wd hw 19 rfl) (wd hw 20 rfl) (by decide) e106 [(.ref b), (.int (0 : Int32)), (.int (1 : Int32))] [] rfl (co4_1 l Z a0 hw b c0 h0 n0 Z0 A_b l0) (lenOf pd_1 rfl) 0 (Nat.le_of_eq rfl) (by decide) (by decide) (by decide) (by decide) (by rw [hml]; rfl) (hb hby d2_36) 39 rfl (fun r107 T108 L109 X110 Q111 => ?_)
      obtain ⟨h112, e113⟩ : ∃ h, T108.heap = h := ⟨_, rfl⟩
      rw [e113] at Q111
      obtain ⟨b114, rfl, n115, K116, sz117, A118⟩ := Q111
      have N119 := Fr.app N0 n115
      have ne120 : a ≠ b114 := Nat.ne_of_lt (Nat.lt_of_lt_of_le E_a.lt sz117)
      have ne121 : b ≠ b114 := Nat.ne_of_lt (Nat.lt_of_lt_of_le A_b.lt sz117)
      have F122 := E_a.keep K116
      have F123 := F_c.keep K116 nin0
      have F124 := F_v.keep K116 nin0
      have F125 := A_b.keep K116 nin0
      have F126 := own_sta_keep S_cs K116 ns0
      have szh127 : n0 ≤ h112.size := Nat.le_trans Z0 K116.1
      have K128 := (Keep.refl h0 [a]).trans K116 all0
      show Go p_ e_ below _ T108 (mkF m_ 39 #[.val (.ref a), .val (.ref b), .val (.int (0 : Int32)), .val (.int (1 : Int32)), .val .null, .unset] [(.ref b114)])
      refine g_astore X110 hx #[.val (.ref a), .val (.ref b), .val (.int (0 : Int32)), .val (.int (1 : Int32)), .val .null, .val (.ref b114)] rfl rfl (hb hby d2_39) 41 rfl ?_
      refine g_aloadN X110 hx rfl rfl (hb hby d2_41) 42 rfl ?_
      refine g_aload X110 hx rfl rfl (hb hby d2_42) 44 rfl ?_
      refine g_iloadN X110 hx rfl (hb hby d2_44) 45 rfl ?_
      refine g_callS X110 hx hZ hown (wd hw 25 rfl) (wd hw 26 rfl) (wd hw 19 rfl) (wd hw 27 rfl) (by decide) e113 [(.ref b114), (.int (1 : Int32))] [(.ref a)]  rfl (co6_1 l Z a0 hw b114 (.int c0.toInt8.toInt32.toInt8.toInt32) h112 A118) (lenOf pd_2 rfl) 1 (Nat.le_of_eq rfl) (by decide) (by decide) (by decide) (by decide) (by rw [hml]; rfl) (hb hby d2_45) 48 rfl (pu_cont fun T130 X129 e131 => ?_)
      show Go p_ e_ below _ T130 (mkF m_ 48 #[.val (.ref a), .val (.ref b), .val (.int (0 : Int32)), .val (.int (1 : Int32)), .val .null, .val (.ref b114)] [(.int (0 : Int32)), (.ref a)])
      refine g_putfield X129 hx hZ hown (host := "") (Or.inl (wd hw 28 rfl)) Via.refl e131 F123 F122 (Or.inr ⟨(wd hw 29 rfl), rfl, hnm⟩) (wd hw 4 rfl) (ty := .byte) (by decide) rfl rfl (hb hby d2_48) 51 rfl (fun T132 h133 X134 e135 W136 => ?_)
      have F137 := F122.wr W136
      have F138 := F123.same W136
      have F139 := F124.other W136 (Or.inr (slot_ne (Or.inr (wd hw 31 rfl)) (Or.inr (wd hw 29 rfl)) (by decide) (t := (.array .byte)) (t' := .byte) (by decide) (by decide)))
      have F140 := F125.other W136 (Ne.symm nba)
      have F141 := F126.wr W136
      have F142 := A118.other W136 (Ne.symm ne120)
      have N143 := Fr.snoc X134 N119 g_a
      have szh144 : n0 ≤ h133.size := Nat.le_trans szh127 (Nat.le_of_eq W136.size.symm)
      have K145 := K128.wr W136 (Or.inl (List.mem_of_getElem? (i := 0) rfl))
      show Go p_ e_ below _ T132 (mkF m_ 51 #[.val (.ref a), .val (.ref b), .val (.int (0 : Int32)), .val (.int (1 : Int32)), .val .null, .val (.ref b114)] [])
      refine g_aloadN X134 hx rfl rfl (hb hby d2_51) 52 rfl ?_
      refine g_aload X134 hx rfl rfl (hb hby d2_52) 54 rfl ?_
      refine g_putfield X134 hx hZ hown (host := "") (Or.inl (wd hw 30 rfl)) Via.refl e135 F139 F137 (Or.inr ⟨(wd hw 31 rfl), rfl, hnm⟩) (wd hw 4 rfl) (ty := (.array .byte)) (by decide) rfl rfl (hb hby d2_54) 57 rfl (fun T146 h147 X148 e149 W150 => ?_)
      have F151 := F137.wr W150
      have F152 := F138.other W150 (Or.inr (slot_ne (Or.inr (wd hw 29 rfl)) (Or.inr (wd hw 31 rfl)) (by decide) (t := .byte) (t' := (.array .byte)) (by decide) (by decide)))
      have F153 := F139.same W150
      have F154 := F140.other W150 (Ne.symm nba)
      have F155 := F141.wr W150
      have F156 := F142.other W150 (Ne.symm ne120)
      have N157 := Fr.snoc X148 N143 g_a
      have szh158 : n0 ≤ h147.size := Nat.le_trans szh144 (Nat.le_of_eq W150.size.symm)
      have K159 := K145.wr W150 (Or.inl (List.mem_of_getElem? (i := 0) rfl))
      show Go p_ e_ below _ T146 (mkF m_ 57 #[.val (.ref a), .val (.ref b), .val (.int (0 : Int32)), .val (.int (1 : Int32)), .val .null, .val (.ref b114)] [])
      exact g_retv X148 hx hret hlk (by decide) (by decide) (hb hby d2_57) (by rw [e149]; exact ⟨rfl, N157, K159, F151, F152, b114, sz117, F153, F156⟩)
  · exact absurd q5 (by decide)
def Q1_1 (Z : State) (a : Addr) (b : Addr) (c0 : Int32) (cs : Int32) (h0 : Heap) (n0 : Nat) (v : Option Value) (h : Heap) (L : List Loc) : Prop := v = none ∧ Fr n0 L ∧ Keep h0 h [a] ∧ Exa Z h a "java/lang/String" ∧ Fld Z h a "java/lang/String" "coder" "B" (.int (0 : Int32)) ∧ ∃ d, h0.size ≤ d ∧ Fld Z h a "java/lang/String" "value" "[B" (.ref d) ∧ AV Z h d .byte [(.int c0.toInt8.toInt32.toInt8.toInt32)]
theorem ef1_1 (m_ : MethodId) (a : Addr) (b : Addr)  : entryFrame m_ #[(.ref a), (.ref b)] 2 = mkF m_ 0 #[.val (.ref a), .val (.ref b)] [] := by first | (simp [entryFrame, mkF, argsToLocals, Value.category]; done) | rfl
set_option maxRecDepth 65536 in
set_option maxHeartbeats 40000000 in
theorem co1_1 (l : Launch) (Z : State) (a0 : Array Value) (hw : ∀ d ∈ tables_1, d.before a0 Z = true) (a : Addr) (b : Addr) (c0 : Int32) (cs : Int32) (h0 : Heap) (n0 : Nat) (Z0 : n0 ≤ h0.size)  (g_a : n0 ≤ a) (E_a : Exa Z h0 a "java/lang/String") (F_c : Fld Z h0 a "java/lang/String" "coder" "B" (.int (0 : Int32))) (F_v : Fld Z h0 a "java/lang/String" "value" "[B" .null) (A_b : AV Z h0 b .char [(.int c0)]) (nba : a ≠ b) (S_cs : Sta Z h0 "java/lang/String" "COMPACT_STRINGS" "Z" (.int cs)) (hcs : ¬ cs = (0 : Int32)) (l0 : ¬ (255 : Int32) < c0) : Co l (⟨"java/lang/String", "<init>", "([C)V"⟩ : MethodName) jdk_42_method_3_code 2 none [] ({ frames := 3, cells := 1, slots := 1, locals := 52 } : Room) Z h0 #[(.ref a), (.ref b)] (Q1_1 Z a b c0 cs h0 n0) := by
  refine Co.of (plainFor_of_name pn_1) ?_
  intro p_ e_ s_ m_ below meth c_ T0 X0 hx hby hml hown hnm hret hlk hZ eq0
  have N0 := Fr.nil n0
  refine Go.cast (ef1_1 m_ a b ) ?_
  refine g_aloadN X0 hx rfl rfl (hb hby d1_0) 1 rfl ?_
  refine g_aloadN X0 hx rfl rfl (hb hby d1_1) 2 rfl ?_
  refine g_iconst X0 hx (0 : Int32) rfl (hb hby d1_2) 3 rfl ?_
  refine g_aloadN X0 hx rfl rfl (hb hby d1_3) 4 rfl ?_
  refine g_arraylength X0 hx hZ eq0 A_b (1 : Int32) rfl (hb hby d1_4) 5 rfl ?_
  refine g_aconst_null X0 hx (hb hby d1_5) 6 rfl ?_
  refine g_init X0 hx hZ hown (wd hw 9 rfl) rfl (wd hw 10 rfl) (wd hw 5 rfl) (wd hw 12 rfl) (by decide) eq0 [(.ref b), (.int (0 : Int32)), (.int (1 : Int32)), .null] [] rfl (co2_1 l Z a0 hw a b c0 cs h0 n0 Z0 g_a E_a F_c F_v A_b nba S_cs hcs l0) (lenOf pd_3 rfl) 0 (Nat.le_of_eq rfl) (by decide) (by decide) (by decide) (by decide) (by rw [hml]; rfl) (hb hby d1_6) 9 rfl (fun r101 T102 L103 X104 Q105 => ?_)
  obtain ⟨h106, e107⟩ : ∃ h, T102.heap = h := ⟨_, rfl⟩
  rw [e107] at Q105
  obtain ⟨rfl, n108, K109, E110, F111, b112, sz113, F114, A115⟩ := Q105
  have N116 := Fr.app N0 n108
  have ne117 : a ≠ b112 := Nat.ne_of_lt (Nat.lt_of_lt_of_le E_a.lt sz113)
  have ne118 : b ≠ b112 := Nat.ne_of_lt (Nat.lt_of_lt_of_le A_b.lt sz113)
  have F119 := E_a.keep K109
  have F120 := A_b.keep K109 (ninS (Ne.symm nba) nin0)
  have F121 := own_sta_keep S_cs K109 (nsS E_a.nostat ns0)
  have szh122 : n0 ≤ h106.size := Nat.le_trans Z0 K109.1
  have K123 := (Keep.refl h0 [a]).trans K109 (allS (Or.inl (List.mem_of_getElem? (i := 0) rfl)) all0)
  show Go p_ e_ below _ T102 (mkF m_ 9 #[.val (.ref a), .val (.ref b)] [])
  exact g_retv X104 hx hret hlk (by decide) (by decide) (hb hby d1_9) (by rw [e107]; exact ⟨rfl, N116, K123, E110, F111, b112, sz113, F114, A115⟩)
def Q7 (Z : State) (a : Addr) (u0 : Value) (u1 : Value) (u2 : Value) (u3 : Value) (u4 : Value) (h0 : Heap) (n0 : Nat) (v : Option Value) (h : Heap) (L : List Loc) : Prop := v = none ∧ Fr n0 L ∧ Keep h0 h [a] ∧ Exa Z h a "com/example/noise_to_signal/noisetosignal/signal/HeldTexts" ∧ Fld Z h a "com/example/noise_to_signal/noisetosignal/signal/HeldTexts" "type" "Ljava/lang/Object;" u0 ∧ Fld Z h a "com/example/noise_to_signal/noisetosignal/signal/HeldTexts" "actor" "Ljava/lang/Object;" u1 ∧ Fld Z h a "com/example/noise_to_signal/noisetosignal/signal/HeldTexts" "client" "Ljava/lang/Object;" u2 ∧ Fld Z h a "com/example/noise_to_signal/noisetosignal/signal/HeldTexts" "srcIp" "Ljava/lang/Object;" u3 ∧ Fld Z h a "com/example/noise_to_signal/noisetosignal/signal/HeldTexts" "target" "Ljava/lang/Object;" u4
theorem ef7 (m_ : MethodId) (a : Addr) (u0 : Value) (u1 : Value) (u2 : Value) (u3 : Value) (u4 : Value) (h_u0 : u0.isRef = true) (h_u1 : u1.isRef = true) (h_u2 : u2.isRef = true) (h_u3 : u3.isRef = true) (h_u4 : u4.isRef = true) : entryFrame m_ #[(.ref a), u0, u1, u2, u3, u4] 6 = mkF m_ 0 #[.val (.ref a), .val u0, .val u1, .val u2, .val u3, .val u4] [] := by rcases ref_cases h_u0 with rfl | ⟨_, rfl⟩ <;> rcases ref_cases h_u1 with rfl | ⟨_, rfl⟩ <;> rcases ref_cases h_u2 with rfl | ⟨_, rfl⟩ <;> rcases ref_cases h_u3 with rfl | ⟨_, rfl⟩ <;> rcases ref_cases h_u4 with rfl | ⟨_, rfl⟩ <;> first | (simp [entryFrame, mkF, argsToLocals, Value.category]; done) | rfl
theorem pn_2 : plainName "com/example/noise_to_signal/noisetosignal/signal/HeldTexts" = true := by first | (simp [plainName, overriddenIn]; done) | decide +kernel
theorem d7_0 : decode prog_73_method_2_code 0 = .ok (.aload_n 0, 1) := by decide +kernel
theorem d7_1 : decode prog_73_method_2_code 1 = .ok (.invokespecial 31, 3) := by decide +kernel
theorem d7_4 : decode prog_73_method_2_code 4 = .ok (.aload_n 0, 1) := by decide +kernel
theorem d7_5 : decode prog_73_method_2_code 5 = .ok (.aload_n 1, 1) := by decide +kernel
theorem d7_6 : decode prog_73_method_2_code 6 = .ok (.putfield 36, 3) := by decide +kernel
theorem d7_9 : decode prog_73_method_2_code 9 = .ok (.aload_n 0, 1) := by decide +kernel
theorem d7_10 : decode prog_73_method_2_code 10 = .ok (.aload_n 2, 1) := by decide +kernel
theorem d7_11 : decode prog_73_method_2_code 11 = .ok (.putfield 39, 3) := by decide +kernel
theorem d7_14 : decode prog_73_method_2_code 14 = .ok (.aload_n 0, 1) := by decide +kernel
theorem d7_15 : decode prog_73_method_2_code 15 = .ok (.aload_n 3, 1) := by decide +kernel
theorem d7_16 : decode prog_73_method_2_code 16 = .ok (.putfield 41, 3) := by decide +kernel
theorem d7_19 : decode prog_73_method_2_code 19 = .ok (.aload_n 0, 1) := by decide +kernel
theorem d7_20 : decode prog_73_method_2_code 20 = .ok (.aload 4, 2) := by decide +kernel
theorem d7_22 : decode prog_73_method_2_code 22 = .ok (.putfield 43, 3) := by decide +kernel
theorem d7_25 : decode prog_73_method_2_code 25 = .ok (.aload_n 0, 1) := by decide +kernel
theorem d7_26 : decode prog_73_method_2_code 26 = .ok (.aload 5, 2) := by decide +kernel
theorem d7_28 : decode prog_73_method_2_code 28 = .ok (.putfield 45, 3) := by decide +kernel
theorem d7_31 : decode prog_73_method_2_code 31 = .ok (.return_, 1) := by decide +kernel
set_option maxRecDepth 65536 in
set_option maxHeartbeats 40000000 in
theorem co7 (l : Launch) (Z : State) (a0 : Array Value) (hw : ∀ d ∈ tables_1, d.before a0 Z = true) (a : Addr) (u0 : Value) (u1 : Value) (u2 : Value) (u3 : Value) (u4 : Value) (h0 : Heap) (n0 : Nat) (Z0 : n0 ≤ h0.size) (h_u0 : u0.isRef = true) (h_u1 : u1.isRef = true) (h_u2 : u2.isRef = true) (h_u3 : u3.isRef = true) (h_u4 : u4.isRef = true) (g_a : n0 ≤ a) (E_a : Exa Z h0 a "com/example/noise_to_signal/noisetosignal/signal/HeldTexts") (F_type : Fld Z h0 a "com/example/noise_to_signal/noisetosignal/signal/HeldTexts" "type" "Ljava/lang/Object;" .null) (F_actor : Fld Z h0 a "com/example/noise_to_signal/noisetosignal/signal/HeldTexts" "actor" "Ljava/lang/Object;" .null) (F_client : Fld Z h0 a "com/example/noise_to_signal/noisetosignal/signal/HeldTexts" "client" "Ljava/lang/Object;" .null) (F_srcIp : Fld Z h0 a "com/example/noise_to_signal/noisetosignal/signal/HeldTexts" "srcIp" "Ljava/lang/Object;" .null) (F_target : Fld Z h0 a "com/example/noise_to_signal/noisetosignal/signal/HeldTexts" "target" "Ljava/lang/Object;" .null) : Co l (⟨"com/example/noise_to_signal/noisetosignal/signal/HeldTexts", "<init>", "(Ljava/lang/Object;Ljava/lang/Object;Ljava/lang/Object;Ljava/lang/Object;Ljava/lang/Object;)V"⟩ : MethodName) prog_73_method_2_code 6 none [] ({ frames := 1, cells := 0, slots := 0, locals := 12 } : Room) Z h0 #[(.ref a), u0, u1, u2, u3, u4] (Q7 Z a u0 u1 u2 u3 u4 h0 n0) := by
  refine Co.of (plainFor_of_name pn_2) ?_
  intro p_ e_ s_ m_ below meth c_ T0 X0 hx hby hml hown hnm hret hlk hZ eq0
  have N0 := Fr.nil n0
  refine Go.cast (ef7 m_ a u0 u1 u2 u3 u4 h_u0 h_u1 h_u2 h_u3 h_u4) ?_
  refine g_aloadN X0 hx rfl rfl (hb hby d7_0) 1 rfl ?_
  refine g_initO X0 hx hZ hown (wd hw 40 rfl) (wd hw 14 rfl) (wd hw 15 rfl) eq0 (by rw [hml]; rfl) (hb hby d7_1) (by decide) 0 (Nat.le_of_eq rfl) (by decide) 4 rfl (fun T101 X102 e103 => ?_)
  show Go p_ e_ below _ T101 (mkF m_ 4 #[.val (.ref a), .val u0, .val u1, .val u2, .val u3, .val u4] [])
  refine g_aloadN X102 hx rfl rfl (hb hby d7_4) 5 rfl ?_
  refine g_aloadN X102 hx rfl h_u0 (hb hby d7_5) 6 rfl ?_
  refine g_putfield X102 hx hZ hown (host := "") (Or.inl (wd hw 41 rfl)) Via.refl e103 F_type E_a (Or.inr ⟨(wd hw 42 rfl), rfl, hnm⟩) (wd hw 35 rfl) (ty := (.object "java/lang/Object")) (by decide) (by cases u0 <;> rfl) (by rcases ref_cases h_u0 with rfl | ⟨_, rfl⟩ <;> rfl) (hb hby d7_6) 9 rfl (fun T104 h105 X106 e107 W108 => ?_)
  have F109 := E_a.wr W108
  have F110 := F_type.same W108
  have F111 := F_actor.other W108 (Or.inr (slot_ne (Or.inr (wd hw 44 rfl)) (Or.inr (wd hw 42 rfl)) (by decide) (t := (.object "java/lang/Object")) (t' := (.object "java/lang/Object")) (by decide) (by decide)))
  have F112 := F_client.other W108 (Or.inr (slot_ne (Or.inr (wd hw 46 rfl)) (Or.inr (wd hw 42 rfl)) (by decide) (t := (.object "java/lang/Object")) (t' := (.object "java/lang/Object")) (by decide) (by decide)))
  have F113 := F_srcIp.other W108 (Or.inr (slot_ne (Or.inr (wd hw 48 rfl)) (Or.inr (wd hw 42 rfl)) (by decide) (t := (.object "java/lang/Object")) (t' := (.object "java/lang/Object")) (by decide) (by decide)))
  have F114 := F_target.other W108 (Or.inr (slot_ne (Or.inr (wd hw 50 rfl)) (Or.inr (wd hw 42 rfl)) (by decide) (t := (.object "java/lang/Object")) (t' := (.object "java/lang/Object")) (by decide) (by decide)))
  have N115 := Fr.snoc X106 N0 g_a
  have szh116 : n0 ≤ h105.size := Nat.le_trans Z0 (Nat.le_of_eq W108.size.symm)
  have K117 := (Keep.refl h0 [a]).wr W108 (Or.inl (List.mem_of_getElem? (i := 0) rfl))
  show Go p_ e_ below _ T104 (mkF m_ 9 #[.val (.ref a), .val u0, .val u1, .val u2, .val u3, .val u4] [])
  refine g_aloadN X106 hx rfl rfl (hb hby d7_9) 10 rfl ?_
  refine g_aloadN X106 hx rfl h_u1 (hb hby d7_10) 11 rfl ?_
  refine g_putfield X106 hx hZ hown (host := "") (Or.inl (wd hw 43 rfl)) Via.refl e107 F111 F109 (Or.inr ⟨(wd hw 44 rfl), rfl, hnm⟩) (wd hw 35 rfl) (ty := (.object "java/lang/Object")) (by decide) (by cases u1 <;> rfl) (by rcases ref_cases h_u1 with rfl | ⟨_, rfl⟩ <;> rfl) (hb hby d7_11) 14 rfl (fun T118 h119 X120 e121 W122 => ?_)
  have F123 := F109.wr W122
  have F124 := F110.other W122 (Or.inr (slot_ne (Or.inr (wd hw 42 rfl)) (Or.inr (wd hw 44 rfl)) (by decide) (t := (.object "java/lang/Object")) (t' := (.object "java/lang/Object")) (by decide) (by decide)))
  have F125 := F111.same W122
  have F126 := F112.other W122 (Or.inr (slot_ne (Or.inr (wd hw 46 rfl)) (Or.inr (wd hw 44 rfl)) (by decide) (t := (.object "java/lang/Object")) (t' := (.object "java/lang/Object")) (by decide) (by decide)))
  have F127 := F113.other W122 (Or.inr (slot_ne (Or.inr (wd hw 48 rfl)) (Or.inr (wd hw 44 rfl)) (by decide) (t := (.object "java/lang/Object")) (t' := (.object "java/lang/Object")) (by decide) (by decide)))
  have F128 := F114.other W122 (Or.inr (slot_ne (Or.inr (wd hw 50 rfl)) (Or.inr (wd hw 44 rfl)) (by decide) (t := (.object "java/lang/Object")) (t' := (.object "java/lang/Object")) (by decide) (by decide)))
  have N129 := Fr.snoc X120 N115 g_a
  have szh130 : n0 ≤ h119.size := Nat.le_trans szh116 (Nat.le_of_eq W122.size.symm)
  have K131 := K117.wr W122 (Or.inl (List.mem_of_getElem? (i := 0) rfl))
  show Go p_ e_ below _ T118 (mkF m_ 14 #[.val (.ref a), .val u0, .val u1, .val u2, .val u3, .val u4] [])
  refine g_aloadN X120 hx rfl rfl (hb hby d7_14) 15 rfl ?_
  refine g_aloadN X120 hx rfl h_u2 (hb hby d7_15) 16 rfl ?_
  refine g_putfield X120 hx hZ hown (host := "") (Or.inl (wd hw 45 rfl)) Via.refl e121 F126 F123 (Or.inr ⟨(wd hw 46 rfl), rfl, hnm⟩) (wd hw 35 rfl) (ty := (.object "java/lang/Object")) (by decide) (by cases u2 <;> rfl) (by rcases ref_cases h_u2 with rfl | ⟨_, rfl⟩ <;> rfl) (hb hby d7_16) 19 rfl (fun T132 h133 X134 e135 W136 => ?_)
  have F137 := F123.wr W136
  have F138 := F124.other W136 (Or.inr (slot_ne (Or.inr (wd hw 42 rfl)) (Or.inr (wd hw 46 rfl)) (by decide) (t := (.object "java/lang/Object")) (t' := (.object "java/lang/Object")) (by decide) (by decide)))
  have F139 := F125.other W136 (Or.inr (slot_ne (Or.inr (wd hw 44 rfl)) (Or.inr (wd hw 46 rfl)) (by decide) (t := (.object "java/lang/Object")) (t' := (.object "java/lang/Object")) (by decide) (by decide)))
  have F140 := F126.same W136
  have F141 := F127.other W136 (Or.inr (slot_ne (Or.inr (wd hw 48 rfl)) (Or.inr (wd hw 46 rfl)) (by decide) (t := (.object "java/lang/Object")) (t' := (.object "java/lang/Object")) (by decide) (by decide)))
  have F142 := F128.other W136 (Or.inr (slot_ne (Or.inr (wd hw 50 rfl)) (Or.inr (wd hw 46 rfl)) (by decide) (t := (.object "java/lang/Object")) (t' := (.object "java/lang/Object")) (by decide) (by decide)))
  have N143 := Fr.snoc X134 N129 g_a
  have szh144 : n0 ≤ h133.size := Nat.le_trans szh130 (Nat.le_of_eq W136.size.symm)
  have K145 := K131.wr W136 (Or.inl (List.mem_of_getElem? (i := 0) rfl))
  show Go p_ e_ below _ T132 (mkF m_ 19 #[.val (.ref a), .val u0, .val u1, .val u2, .val u3, .val u4] [])
  refine g_aloadN X134 hx rfl rfl (hb hby d7_19) 20 rfl ?_
  refine g_aload X134 hx rfl h_u3 (hb hby d7_20) 22 rfl ?_
  refine g_putfield X134 hx hZ hown (host := "") (Or.inl (wd hw 47 rfl)) Via.refl e135 F141 F137 (Or.inr ⟨(wd hw 48 rfl), rfl, hnm⟩) (wd hw 35 rfl) (ty := (.object "java/lang/Object")) (by decide) (by cases u3 <;> rfl) (by rcases ref_cases h_u3 with rfl | ⟨_, rfl⟩ <;> rfl) (hb hby d7_22) 25 rfl (fun T146 h147 X148 e149 W150 => ?_)
  have F151 := F137.wr W150
  have F152 := F138.other W150 (Or.inr (slot_ne (Or.inr (wd hw 42 rfl)) (Or.inr (wd hw 48 rfl)) (by decide) (t := (.object "java/lang/Object")) (t' := (.object "java/lang/Object")) (by decide) (by decide)))
  have F153 := F139.other W150 (Or.inr (slot_ne (Or.inr (wd hw 44 rfl)) (Or.inr (wd hw 48 rfl)) (by decide) (t := (.object "java/lang/Object")) (t' := (.object "java/lang/Object")) (by decide) (by decide)))
  have F154 := F140.other W150 (Or.inr (slot_ne (Or.inr (wd hw 46 rfl)) (Or.inr (wd hw 48 rfl)) (by decide) (t := (.object "java/lang/Object")) (t' := (.object "java/lang/Object")) (by decide) (by decide)))
  have F155 := F141.same W150
  have F156 := F142.other W150 (Or.inr (slot_ne (Or.inr (wd hw 50 rfl)) (Or.inr (wd hw 48 rfl)) (by decide) (t := (.object "java/lang/Object")) (t' := (.object "java/lang/Object")) (by decide) (by decide)))
  have N157 := Fr.snoc X148 N143 g_a
  have szh158 : n0 ≤ h147.size := Nat.le_trans szh144 (Nat.le_of_eq W150.size.symm)
  have K159 := K145.wr W150 (Or.inl (List.mem_of_getElem? (i := 0) rfl))
  show Go p_ e_ below _ T146 (mkF m_ 25 #[.val (.ref a), .val u0, .val u1, .val u2, .val u3, .val u4] [])
  refine g_aloadN X148 hx rfl rfl (hb hby d7_25) 26 rfl ?_
  refine g_aload X148 hx rfl h_u4 (hb hby d7_26) 28 rfl ?_
  refine g_putfield X148 hx hZ hown (host := "") (Or.inl (wd hw 49 rfl)) Via.refl e149 F156 F151 (Or.inr ⟨(wd hw 50 rfl), rfl, hnm⟩) (wd hw 35 rfl) (ty := (.object "java/lang/Object")) (by decide) (by cases u4 <;> rfl) (by rcases ref_cases h_u4 with rfl | ⟨_, rfl⟩ <;> rfl) (hb hby d7_28) 31 rfl (fun T160 h161 X162 e163 W164 => ?_)
  have F165 := F151.wr W164
  have F166 := F152.other W164 (Or.inr (slot_ne (Or.inr (wd hw 42 rfl)) (Or.inr (wd hw 50 rfl)) (by decide) (t := (.object "java/lang/Object")) (t' := (.object "java/lang/Object")) (by decide) (by decide)))
  have F167 := F153.other W164 (Or.inr (slot_ne (Or.inr (wd hw 44 rfl)) (Or.inr (wd hw 50 rfl)) (by decide) (t := (.object "java/lang/Object")) (t' := (.object "java/lang/Object")) (by decide) (by decide)))
  have F168 := F154.other W164 (Or.inr (slot_ne (Or.inr (wd hw 46 rfl)) (Or.inr (wd hw 50 rfl)) (by decide) (t := (.object "java/lang/Object")) (t' := (.object "java/lang/Object")) (by decide) (by decide)))
  have F169 := F155.other W164 (Or.inr (slot_ne (Or.inr (wd hw 48 rfl)) (Or.inr (wd hw 50 rfl)) (by decide) (t := (.object "java/lang/Object")) (t' := (.object "java/lang/Object")) (by decide) (by decide)))
  have F170 := F156.same W164
  have N171 := Fr.snoc X162 N157 g_a
  have szh172 : n0 ≤ h161.size := Nat.le_trans szh158 (Nat.le_of_eq W164.size.symm)
  have K173 := K159.wr W164 (Or.inl (List.mem_of_getElem? (i := 0) rfl))
  show Go p_ e_ below _ T160 (mkF m_ 31 #[.val (.ref a), .val u0, .val u1, .val u2, .val u3, .val u4] [])
  exact g_retv X162 hx hret hlk (by decide) (by decide) (hb hby d7_31) (by rw [e163]; exact ⟨rfl, N171, K173, F165, F166, F167, F168, F169, F170⟩)
theorem d8_0 : decode prog_73_method_11_code 0 = .ok (.aload_n 1, 1) := by decide +kernel
theorem d8_1 : decode prog_73_method_11_code 1 = .ok (.aload_n 0, 1) := by decide +kernel
theorem d8_2 : decode prog_73_method_11_code 2 = .ok (.getfield 36, 3) := by decide +kernel
theorem d8_5 : decode prog_73_method_11_code 5 = .ok (.if_acmp .eq 35, 3) := by decide +kernel
theorem d8_40 : decode prog_73_method_11_code 40 = .ok (.iconst 1, 1) := by decide +kernel
theorem d8_41 : decode prog_73_method_11_code 41 = .ok (.goto 4, 3) := by decide +kernel
theorem d8_8 : decode prog_73_method_11_code 8 = .ok (.aload_n 1, 1) := by decide +kernel
theorem d8_9 : decode prog_73_method_11_code 9 = .ok (.aload_n 0, 1) := by decide +kernel
theorem d8_10 : decode prog_73_method_11_code 10 = .ok (.getfield 39, 3) := by decide +kernel
theorem d8_13 : decode prog_73_method_11_code 13 = .ok (.if_acmp .eq 27, 3) := by decide +kernel
theorem d8_16 : decode prog_73_method_11_code 16 = .ok (.aload_n 1, 1) := by decide +kernel
theorem d8_17 : decode prog_73_method_11_code 17 = .ok (.aload_n 0, 1) := by decide +kernel
theorem d8_18 : decode prog_73_method_11_code 18 = .ok (.getfield 41, 3) := by decide +kernel
theorem d8_21 : decode prog_73_method_11_code 21 = .ok (.if_acmp .eq 19, 3) := by decide +kernel
theorem d8_24 : decode prog_73_method_11_code 24 = .ok (.aload_n 1, 1) := by decide +kernel
theorem d8_25 : decode prog_73_method_11_code 25 = .ok (.aload_n 0, 1) := by decide +kernel
theorem d8_26 : decode prog_73_method_11_code 26 = .ok (.getfield 43, 3) := by decide +kernel
theorem d8_29 : decode prog_73_method_11_code 29 = .ok (.if_acmp .eq 11, 3) := by decide +kernel
theorem d8_32 : decode prog_73_method_11_code 32 = .ok (.aload_n 1, 1) := by decide +kernel
theorem d8_33 : decode prog_73_method_11_code 33 = .ok (.aload_n 0, 1) := by decide +kernel
theorem d8_34 : decode prog_73_method_11_code 34 = .ok (.getfield 45, 3) := by decide +kernel
theorem d8_37 : decode prog_73_method_11_code 37 = .ok (.if_acmp .ne 7, 3) := by decide +kernel
theorem d8_44 : decode prog_73_method_11_code 44 = .ok (.iconst 0, 1) := by decide +kernel
def hasv (x : Value) (u0 : Value) (u1 : Value) (u2 : Value) (u3 : Value) (u4 : Value) : Int32 := if x = u0 then ((1 : Int32) &&& 1) else (if x = u1 then ((1 : Int32) &&& 1) else (if x = u2 then ((1 : Int32) &&& 1) else (if x = u3 then ((1 : Int32) &&& 1) else (if x = u4 then ((1 : Int32) &&& 1) else ((0 : Int32) &&& 1)))))
theorem ef8 (m_ : MethodId) (a : Addr) (x : Value) (h_x : x.isRef = true) : entryFrame m_ #[(.ref a), x] 2 = mkF m_ 0 #[.val (.ref a), .val x] [] := by rcases ref_cases h_x with rfl | ⟨_, rfl⟩ <;> first | (simp [entryFrame, mkF, argsToLocals, Value.category]; done) | rfl
theorem d8_45 : decode prog_73_method_11_code 45 = .ok (.ireturn, 1) := by decide +kernel
set_option maxRecDepth 65536 in
set_option maxHeartbeats 40000000 in
theorem co8 (l : Launch) (Z : State) (a0 : Array Value) (hw : ∀ d ∈ tables_1, d.before a0 Z = true) (a : Addr) (x : Value) (u0 : Value) (u1 : Value) (u2 : Value) (u3 : Value) (u4 : Value) (h0 : Heap) (h_x : x.isRef = true) (h_u0 : u0.isRef = true) (h_u1 : u1.isRef = true) (h_u2 : u2.isRef = true) (h_u3 : u3.isRef = true) (h_u4 : u4.isRef = true) (E_a : Exa Z h0 a "com/example/noise_to_signal/noisetosignal/signal/HeldTexts") (F_type : Fld Z h0 a "com/example/noise_to_signal/noisetosignal/signal/HeldTexts" "type" "Ljava/lang/Object;" u0) (F_actor : Fld Z h0 a "com/example/noise_to_signal/noisetosignal/signal/HeldTexts" "actor" "Ljava/lang/Object;" u1) (F_client : Fld Z h0 a "com/example/noise_to_signal/noisetosignal/signal/HeldTexts" "client" "Ljava/lang/Object;" u2) (F_srcIp : Fld Z h0 a "com/example/noise_to_signal/noisetosignal/signal/HeldTexts" "srcIp" "Ljava/lang/Object;" u3) (F_target : Fld Z h0 a "com/example/noise_to_signal/noisetosignal/signal/HeldTexts" "target" "Ljava/lang/Object;" u4) : Co l (⟨"com/example/noise_to_signal/noisetosignal/signal/HeldTexts", "has", "(Ljava/lang/Object;)Z"⟩ : MethodName) prog_73_method_11_code 2 (some .boolean) [] ({ frames := 0, cells := 0, slots := 0, locals := 0 } : Room) Z h0 #[(.ref a), x] (Pu h0 (some (.int (hasv x u0 u1 u2 u3 u4)))) := by
  refine Co.of (plainFor_of_name pn_2) ?_
  intro p_ e_ s_ m_ below meth c_ T0 X0 hx hby hml hown hnm hret hlk hZ eq0
  refine Go.cast (ef8 m_ a x h_x) ?_
  refine g_aloadN X0 hx rfl h_x (hb hby d8_0) 1 rfl ?_
  refine g_aloadN X0 hx rfl rfl (hb hby d8_1) 2 rfl ?_
  refine g_getfield X0 hx hZ hown (host := "") (Or.inl (wd hw 41 rfl)) Via.refl F_type eq0 (hb hby d8_2) 5 rfl (fun T101 X102 e103 => ?_)
  show Go p_ e_ below _ T101 (mkF m_ 5 #[.val (.ref a), .val x] [u0, x])
  refine g_acmp_eq X102 hx h_x h_u0 (hb hby d8_5) 40 8 (by decide) rfl rfl (fun q5 => ?_) (fun q5 => ?_)
  · refine g_iconst X102 hx (1 : Int32) rfl (hb hby d8_40) 41 rfl ?_
    refine g_goto X102 hx (hb hby d8_41) 45 (by decide) rfl ?_
    exact g_retz X102 hx hret hlk (by decide) (by decide) (hb hby d8_45) ⟨congrArg (fun z => some (Value.int z)) (show hasv x u0 u1 u2 u3 u4 = _ from ((if_pos q5).trans rfl)).symm, e103, rfl⟩
  · refine g_aloadN X102 hx rfl h_x (hb hby d8_8) 9 rfl ?_
    refine g_aloadN X102 hx rfl rfl (hb hby d8_9) 10 rfl ?_
    refine g_getfield X102 hx hZ hown (host := "") (Or.inl (wd hw 43 rfl)) Via.refl F_actor e103 (hb hby d8_10) 13 rfl (fun T104 X105 e106 => ?_)
    show Go p_ e_ below _ T104 (mkF m_ 13 #[.val (.ref a), .val x] [u1, x])
    refine g_acmp_eq X105 hx h_x h_u1 (hb hby d8_13) 40 16 (by decide) rfl rfl (fun q13 => ?_) (fun q13 => ?_)
    · refine g_iconst X105 hx (1 : Int32) rfl (hb hby d8_40) 41 rfl ?_
      refine g_goto X105 hx (hb hby d8_41) 45 (by decide) rfl ?_
      exact g_retz X105 hx hret hlk (by decide) (by decide) (hb hby d8_45) ⟨congrArg (fun z => some (Value.int z)) (show hasv x u0 u1 u2 u3 u4 = _ from ((if_neg q5).trans ((if_pos q13).trans rfl))).symm, e106, rfl⟩
    · refine g_aloadN X105 hx rfl h_x (hb hby d8_16) 17 rfl ?_
      refine g_aloadN X105 hx rfl rfl (hb hby d8_17) 18 rfl ?_
      refine g_getfield X105 hx hZ hown (host := "") (Or.inl (wd hw 45 rfl)) Via.refl F_client e106 (hb hby d8_18) 21 rfl (fun T107 X108 e109 => ?_)
      show Go p_ e_ below _ T107 (mkF m_ 21 #[.val (.ref a), .val x] [u2, x])
      refine g_acmp_eq X108 hx h_x h_u2 (hb hby d8_21) 40 24 (by decide) rfl rfl (fun q21 => ?_) (fun q21 => ?_)
      · refine g_iconst X108 hx (1 : Int32) rfl (hb hby d8_40) 41 rfl ?_
        refine g_goto X108 hx (hb hby d8_41) 45 (by decide) rfl ?_
        exact g_retz X108 hx hret hlk (by decide) (by decide) (hb hby d8_45) ⟨congrArg (fun z => some (Value.int z)) (show hasv x u0 u1 u2 u3 u4 = _ from ((if_neg q5).trans ((if_neg q13).trans ((if_pos q21).trans rfl)))).symm, e109, rfl⟩
      · refine g_aloadN X108 hx rfl h_x (hb hby d8_24) 25 rfl ?_
        refine g_aloadN X108 hx rfl rfl (hb hby d8_25) 26 rfl ?_
        refine g_getfield X108 hx hZ hown (host := "") (Or.inl (wd hw 47 rfl)) Via.refl F_srcIp e109 (hb hby d8_26) 29 rfl (fun T110 X111 e112 => ?_)
        show Go p_ e_ below _ T110 (mkF m_ 29 #[.val (.ref a), .val x] [u3, x])
        refine g_acmp_eq X111 hx h_x h_u3 (hb hby d8_29) 40 32 (by decide) rfl rfl (fun q29 => ?_) (fun q29 => ?_)
        · refine g_iconst X111 hx (1 : Int32) rfl (hb hby d8_40) 41 rfl ?_
          refine g_goto X111 hx (hb hby d8_41) 45 (by decide) rfl ?_
          exact g_retz X111 hx hret hlk (by decide) (by decide) (hb hby d8_45) ⟨congrArg (fun z => some (Value.int z)) (show hasv x u0 u1 u2 u3 u4 = _ from ((if_neg q5).trans ((if_neg q13).trans ((if_neg q21).trans ((if_pos q29).trans rfl))))).symm, e112, rfl⟩
        · refine g_aloadN X111 hx rfl h_x (hb hby d8_32) 33 rfl ?_
          refine g_aloadN X111 hx rfl rfl (hb hby d8_33) 34 rfl ?_
          refine g_getfield X111 hx hZ hown (host := "") (Or.inl (wd hw 49 rfl)) Via.refl F_target e112 (hb hby d8_34) 37 rfl (fun T113 X114 e115 => ?_)
          show Go p_ e_ below _ T113 (mkF m_ 37 #[.val (.ref a), .val x] [u4, x])
          refine g_acmp_ne X114 hx h_x h_u4 (hb hby d8_37) 44 40 (by decide) rfl rfl (fun q37 => ?_) (fun q37 => ?_)
          · refine g_iconst X114 hx (0 : Int32) rfl (hb hby d8_44) 45 rfl ?_
            exact g_retz X114 hx hret hlk (by decide) (by decide) (hb hby d8_45) ⟨congrArg (fun z => some (Value.int z)) (show hasv x u0 u1 u2 u3 u4 = _ from ((if_neg q5).trans ((if_neg q13).trans ((if_neg q21).trans ((if_neg q29).trans ((if_neg q37).trans rfl)))))).symm, e115, rfl⟩
          · refine g_iconst X114 hx (1 : Int32) rfl (hb hby d8_40) 41 rfl ?_
            refine g_goto X114 hx (hb hby d8_41) 45 (by decide) rfl ?_
            exact g_retz X114 hx hret hlk (by decide) (by decide) (hb hby d8_45) ⟨congrArg (fun z => some (Value.int z)) (show hasv x u0 u1 u2 u3 u4 = _ from ((if_neg q5).trans ((if_neg q13).trans ((if_neg q21).trans ((if_neg q29).trans ((if_pos q37).trans rfl)))))).symm, e115, rfl⟩
def pk (s1 s2 s3 s4 : Addr) (v : Int32) : Value := if v = 0 then .null else if v = 1 then .ref s1 else if v = 2 then .ref s2 else if v = 3 then .ref s3 else .ref s4
theorem own_pk_ref (s1 s2 s3 s4 : Addr) (v : Int32) : (pk s1 s2 s3 s4 v).isRef = true := by
  unfold pk
  (repeat' split) <;> rfl
theorem own_pk_at {s1 s2 s3 s4 : Addr} {v : Int32} (r : v = 0 ∨ v = 1 ∨ v = 2 ∨ v = 3 ∨ v = 4) : ([.null, .ref s1, .ref s2, .ref s3, .ref s4] : List Value)[v.toNatClampNeg]? = some (pk s1 s2 s3 s4 v) := by
  rcases r with rfl | rfl | rfl | rfl | rfl <;> rfl
theorem own_nn {v : Int32} (r : v = 0 ∨ v = 1 ∨ v = 2 ∨ v = 3 ∨ v = 4) : ¬ v < 0 := by
  rcases r with rfl | rfl | rfl | rfl | rfl <;> decide
theorem own_and3 (x : Int32) : x &&& 3 = 0 ∨ x &&& 3 = 1 ∨ x &&& 3 = 2 ∨ x &&& 3 = 3 := by
  have e := c_and x 3 (by decide)
  simp only [show (3 : Int32).toInt = 3 from rfl] at e
  simp only [← Int32.toInt_inj, show (0 : Int32).toInt = 0 from rfl, show (1 : Int32).toInt = 1 from rfl, show (2 : Int32).toInt = 2 from rfl, show (3 : Int32).toInt = 3 from rfl]
  omega
theorem own_w {v : Int32} (r : v = 0 ∨ v = 1 ∨ v = 2 ∨ v = 3) : v = 0 ∨ v = 1 ∨ v = 2 ∨ v = 3 ∨ v = 4 := by
  rcases r with rfl | rfl | rfl | rfl <;> decide
theorem own_rem5 (x : Int32) : (x &&& 2147483647) % 5 = 0 ∨ (x &&& 2147483647) % 5 = 1 ∨ (x &&& 2147483647) % 5 = 2 ∨ (x &&& 2147483647) % 5 = 3 ∨ (x &&& 2147483647) % 5 = 4 := by
  have e := c_and x 2147483647 (by decide)
  have d := (c_irem (x &&& 2147483647) 5 5 (by decide)).1 e.1
  simp only [← Int32.toInt_inj, show (0 : Int32).toInt = 0 from rfl, show (1 : Int32).toInt = 1 from rfl, show (2 : Int32).toInt = 2 from rfl, show (3 : Int32).toInt = 3 from rfl, show (4 : Int32).toInt = 4 from rfl]
  omega
theorem own_lat (x : Int32) : ¬ (255 : Int32) < (x &&& (255 : Int32)).toUInt32.toUInt16.toUInt32.toInt32.toUInt32.toUInt16.toUInt32.toInt32 := by
  have e := c_and x 255 (by decide)
  have a := c_i2c (x &&& 255)
  have b := c_i2c (x &&& 255).toUInt32.toUInt16.toUInt32.toInt32
  simp only [show (255 : Int32).toInt = 255 from rfl] at e
  rw [Int32.lt_iff_toInt_lt, show (255 : Int32).toInt = 255 from rfl]
  omega
theorem own_pk_eq {s1 s2 s3 s4 : Addr} (n12 : s1 ≠ s2) (n13 : s1 ≠ s3) (n14 : s1 ≠ s4) (n23 : s2 ≠ s3) (n24 : s2 ≠ s4) (n34 : s3 ≠ s4) {v w : Int32} (r : v = 0 ∨ v = 1 ∨ v = 2 ∨ v = 3 ∨ v = 4) (q : w = 0 ∨ w = 1 ∨ w = 2 ∨ w = 3) : (pk s1 s2 s3 s4 v = pk s1 s2 s3 s4 w) ↔ w = v := by
  rcases r with rfl | rfl | rfl | rfl | rfl <;> rcases q with rfl | rfl | rfl | rfl <;> simp [pk, n12, n13, n14, n23, n24, n34, Ne.symm n12, Ne.symm n13, Ne.symm n14, Ne.symm n23, Ne.symm n24, Ne.symm n34]
theorem own_dist (a b k : Int32) : (XT.ushr (a ||| b) k) &&& 1 = ((XT.ushr a k) &&& 1) ||| ((XT.ushr b k) &&& 1) := by
  apply Int32.toBitVec_inj.mp
  unfold XT.ushr
  apply BitVec.eq_of_getLsbD_eq
  intro i hi
  simp [Bool.and_or_distrib_right]
theorem own_bit {v w : Int32} (r : v = 0 ∨ v = 1 ∨ v = 2 ∨ v = 3 ∨ v = 4) (q : w = 0 ∨ w = 1 ∨ w = 2 ∨ w = 3) : (XT.ushr ((1 : Int32) <<< (w &&& 31)) v) &&& 1 = if w = v then 1 else 0 := by
  rcases r with rfl | rfl | rfl | rfl | rfl <;> rcases q with rfl | rfl | rfl | rfl <;> decide
theorem own_or0 {p : Prop} [Decidable p] (z : Int32) (hz : z = 0 ∨ z = 1) : (z ||| (if p then (1 : Int32) else 0)) = (if z = 1 ∨ p then (1 : Int32) else 0) := by
  by_cases h : p <;> rcases hz with rfl | rfl <;> simp [h]
theorem own_mask {v a b c d e : Int32} (r : v = 0 ∨ v = 1 ∨ v = 2 ∨ v = 3 ∨ v = 4) (ra : a = 0 ∨ a = 1 ∨ a = 2 ∨ a = 3) (rb : b = 0 ∨ b = 1 ∨ b = 2 ∨ b = 3) (rc : c = 0 ∨ c = 1 ∨ c = 2 ∨ c = 3) (rd : d = 0 ∨ d = 1 ∨ d = 2 ∨ d = 3) (re : e = 0 ∨ e = 1 ∨ e = 2 ∨ e = 3) : ((XT.ushr ((((((1 : Int32) <<< (a &&& 31)) ||| ((1 : Int32) <<< (b &&& 31))) ||| ((1 : Int32) <<< (c &&& 31))) ||| ((1 : Int32) <<< (d &&& 31))) ||| ((1 : Int32) <<< (e &&& 31))) v) &&& 1 = 0) ↔ ¬ (a = v ∨ b = v ∨ c = v ∨ d = v ∨ e = v) := by
  rw [own_dist, own_dist, own_dist, own_dist, own_bit r ra, own_bit r rb, own_bit r rc, own_bit r rd, own_bit r re]
  by_cases h1 : a = v <;> by_cases h2 : b = v <;> by_cases h3 : c = v <;> by_cases h4 : d = v <;> by_cases h5 : e = v <;> simp [h1, h2, h3, h4, h5]
theorem own_fin {s1 s2 s3 s4 : Addr} (n12 : s1 ≠ s2) (n13 : s1 ≠ s3) (n14 : s1 ≠ s4) (n23 : s2 ≠ s3) (n24 : s2 ≠ s4) (n34 : s3 ≠ s4) {v a b c d e m z : Int32} (r : v = 0 ∨ v = 1 ∨ v = 2 ∨ v = 3 ∨ v = 4) (ra : a = 0 ∨ a = 1 ∨ a = 2 ∨ a = 3) (rb : b = 0 ∨ b = 1 ∨ b = 2 ∨ b = 3) (rc : c = 0 ∨ c = 1 ∨ c = 2 ∨ c = 3) (rd : d = 0 ∨ d = 1 ∨ d = 2 ∨ d = 3) (re : e = 0 ∨ e = 1 ∨ e = 2 ∨ e = 3) (hm : ((((((1 : Int32) <<< (a &&& 31)) ||| ((1 : Int32) <<< (b &&& 31))) ||| ((1 : Int32) <<< (c &&& 31))) ||| ((1 : Int32) <<< (d &&& 31))) ||| ((1 : Int32) <<< (e &&& 31))) = m) (hz : z = if ((XT.ushr m v) &&& (1 : Int32)) = (0 : Int32) then (0 : Int32) else (1 : Int32)) : hasv (pk s1 s2 s3 s4 v) (pk s1 s2 s3 s4 a) (pk s1 s2 s3 s4 b) (pk s1 s2 s3 s4 c) (pk s1 s2 s3 s4 d) (pk s1 s2 s3 s4 e) = z := by
  have k := own_mask r ra rb rc rd re
  subst hm hz
  have E := fun {w : Int32} (q : w = 0 ∨ w = 1 ∨ w = 2 ∨ w = 3) => own_pk_eq n12 n13 n14 n23 n24 n34 (v := v) r q
  unfold hasv
  simp only [E ra, E rb, E rc, E rd, E re]
  by_cases h1 : a = v <;> by_cases h2 : b = v <;> by_cases h3 : c = v <;> by_cases h4 : d = v <;> by_cases h5 : e = v <;> simp_all
theorem ef0 (m_ : MethodId) (x0 : Int32) (x1 : Int32) (x2 : Int32) (x3 : Int32)  : entryFrame m_ #[(.int x0), (.int x1), (.int x2), (.int x3)] maxLocals = mkF m_ 0 #[.val (.int x0), .val (.int x1), .val (.int x2), .val (.int x3), .unset, .unset, .unset, .unset, .unset, .unset, .unset, .unset, .unset, .unset, .unset, .unset] [] := by first | (simp [entryFrame, mkF, argsToLocals, Value.category, maxLocals]; done) | rfl
theorem pn_3 : plainName "com/example/noise_to_signal/noisetosignal/signal/HeldTextsHasPinLaw" = true := by first | (simp [plainName, overriddenIn]; done) | decide +kernel
theorem pd_4 : parseMethodDescriptor "([C)V" = some ⟨[(.array .char)], none⟩ := by decide +kernel
theorem pd_5 : parseMethodDescriptor "(Ljava/lang/Object;Ljava/lang/Object;Ljava/lang/Object;Ljava/lang/Object;Ljava/lang/Object;)V" = some ⟨[(.object "java/lang/Object"), (.object "java/lang/Object"), (.object "java/lang/Object"), (.object "java/lang/Object"), (.object "java/lang/Object")], none⟩ := by decide +kernel
theorem pd_6 : parseMethodDescriptor "(Ljava/lang/Object;)Z" = some ⟨[(.object "java/lang/Object")], some .boolean⟩ := by decide +kernel
set_option maxRecDepth 65536 in
set_option maxHeartbeats 40000000 in
theorem rm0 (l : Launch) (Z : State) (a0 : Array Value) (hw : ∀ d ∈ tables_1, d.before a0 Z = true) (ws : List Jvm.Cond) (x0 : Int32) (x1 : Int32) (x2 : Int32) (x3 : Int32) (h0 : Heap) (cs : Int32) (S_cs : Sta Z h0 "java/lang/String" "COMPACT_STRINGS" "Z" (.int cs)) (hcs : ¬ cs = (0 : Int32)) : Co l x code maxLocals ret ws room_1 Z h0 #[(.int x0), (.int x1), (.int x2), (.int x3)] (fun v h L => v = some (.int 1) ∧ Fr h0.size L) := by
  refine Co.of (plainFor_of_name pn_3) ?_
  intro p_ e_ s_ m_ below meth c_ T0 X0 hx hby hml hown hnm hret hlk hZ eq0
  have N0 := Fr.nil h0.size
  refine Go.cast (ef0 m_ x0 x1 x2 x3) ?_
  refine g_iconst X0 hx (2 : Int32) rfl (hb hby at_0) 1 rfl ?_
  refine g_newarray X0 hx hZ (aty := .char) (wd hw 0 rfl) eq0 (by decide) 2 (by decide) (by decide) (by decide) (by decide) [(.int (0 : Int32)), (.int (0 : Int32))] rfl (hb hby at_1) 3 rfl (fun T101 h102 b103 X104 e105 g106 E107 A108 => ?_)
  have F109 := S_cs.ext E107
  have sz110 : h0.size ≤ b103 := Nat.le_trans (Nat.le_refl h0.size) (Nat.le_of_eq g106.symm)
  have szh111 : h0.size ≤ h102.size := Nat.le_trans (Nat.le_refl h0.size) E107.1
  have A112 : AV Z h102 b103 .char [(.int (0 : Int32)), (.int (0 : Int32))] := A108
  show Go p_ e_ below _ T101 (mkF m_ 3 #[.val (.int x0), .val (.int x1), .val (.int x2), .val (.int x3), .unset, .unset, .unset, .unset, .unset, .unset, .unset, .unset, .unset, .unset, .unset, .unset] [(.ref b103)])
  refine g_dup X104 hx rfl (hb hby at_3) 4 rfl ?_
  refine g_iconst X104 hx (0 : Int32) rfl (hb hby at_4) 5 rfl ?_
  refine g_iloadN X104 hx rfl (hb hby at_5) 6 rfl ?_
  refine g_sipush X104 hx (255 : Int32) rfl (hb hby at_6) 9 rfl ?_
  refine g_iand X104 hx (hb hby at_9) 10 rfl ?_
  refine g_i2c X104 hx (hb hby at_10) 11 rfl ?_
  refine g_castore X104 hx hZ e105 A112 (by decide) (Nat.le_of_ble_eq_true rfl) (hb hby at_11) 12 rfl (fun T113 h114 X115 e116 W117 A118 => ?_)
  have A119 : AV Z h114 b103 .char [(.int (x2 &&& (255 : Int32)).toUInt32.toUInt16.toUInt32.toInt32.toUInt32.toUInt16.toUInt32.toInt32), (.int (0 : Int32))] := A118
  have F120 := F109.wr W117
  have F121 := A119
  have N122 := Fr.snoc X115 N0 sz110
  have szh123 : h0.size ≤ h114.size := Nat.le_trans szh111 (Nat.le_of_eq W117.size.symm)
  show Go p_ e_ below _ T113 (mkF m_ 12 #[.val (.int x0), .val (.int x1), .val (.int x2), .val (.int x3), .unset, .unset, .unset, .unset, .unset, .unset, .unset, .unset, .unset, .unset, .unset, .unset] [(.ref b103)])
  refine g_dup X115 hx rfl (hb hby at_12) 13 rfl ?_
  refine g_iconst X115 hx (1 : Int32) rfl (hb hby at_13) 14 rfl ?_
  refine g_iloadN X115 hx rfl (hb hby at_14) 15 rfl ?_
  refine g_sipush X115 hx (255 : Int32) rfl (hb hby at_15) 18 rfl ?_
  refine g_iand X115 hx (hb hby at_18) 19 rfl ?_
  refine g_i2c X115 hx (hb hby at_19) 20 rfl ?_
  refine g_castore X115 hx hZ e116 A119 (by decide) (Nat.le_of_ble_eq_true rfl) (hb hby at_20) 21 rfl (fun T124 h125 X126 e127 W128 A129 => ?_)
  have A130 : AV Z h125 b103 .char [(.int (x2 &&& (255 : Int32)).toUInt32.toUInt16.toUInt32.toInt32.toUInt32.toUInt16.toUInt32.toInt32), (.int (x3 &&& (255 : Int32)).toUInt32.toUInt16.toUInt32.toInt32.toUInt32.toUInt16.toUInt32.toInt32)] := A129
  have F131 := F120.wr W128
  have F132 := A130
  have N133 := Fr.snoc X126 N122 sz110
  have szh134 : h0.size ≤ h125.size := Nat.le_trans szh123 (Nat.le_of_eq W128.size.symm)
  show Go p_ e_ below _ T124 (mkF m_ 21 #[.val (.int x0), .val (.int x1), .val (.int x2), .val (.int x3), .unset, .unset, .unset, .unset, .unset, .unset, .unset, .unset, .unset, .unset, .unset, .unset] [(.ref b103)])
  refine g_astore X126 hx #[.val (.int x0), .val (.int x1), .val (.int x2), .val (.int x3), .val (.ref b103), .unset, .unset, .unset, .unset, .unset, .unset, .unset, .unset, .unset, .unset, .unset] rfl rfl (hb hby at_21) 23 rfl ?_
  refine g_iconst X126 hx (1 : Int32) rfl (hb hby at_23) 24 rfl ?_
  refine g_newarray X126 hx hZ (aty := .char) (wd hw 0 rfl) e127 (by decide) 1 (by decide) (by decide) (by decide) (by decide) [(.int (0 : Int32))] rfl (hb hby at_24) 26 rfl (fun T135 h136 b137 X138 e139 g140 E141 A142 => ?_)
  have ne143 : b103 ≠ b137 := Nat.ne_of_lt (Nat.lt_of_lt_of_eq A130.lt g140.symm)
  have F144 := F131.ext E141
  have F145 := A130.ext E141
  have sz146 : h0.size ≤ b137 := Nat.le_trans szh134 (Nat.le_of_eq g140.symm)
  have szh147 : h0.size ≤ h136.size := Nat.le_trans szh134 E141.1
  have A148 : AV Z h136 b137 .char [(.int (0 : Int32))] := A142
  show Go p_ e_ below _ T135 (mkF m_ 26 #[.val (.int x0), .val (.int x1), .val (.int x2), .val (.int x3), .val (.ref b103), .unset, .unset, .unset, .unset, .unset, .unset, .unset, .unset, .unset, .unset, .unset] [(.ref b137)])
  refine g_dup X138 hx rfl (hb hby at_26) 27 rfl ?_
  refine g_iconst X138 hx (0 : Int32) rfl (hb hby at_27) 28 rfl ?_
  refine g_iloadN X138 hx rfl (hb hby at_28) 29 rfl ?_
  refine g_sipush X138 hx (255 : Int32) rfl (hb hby at_29) 32 rfl ?_
  refine g_iand X138 hx (hb hby at_32) 33 rfl ?_
  refine g_i2c X138 hx (hb hby at_33) 34 rfl ?_
  refine g_castore X138 hx hZ e139 A148 (by decide) (Nat.le_of_ble_eq_true rfl) (hb hby at_34) 35 rfl (fun T149 h150 X151 e152 W153 A154 => ?_)
  have A155 : AV Z h150 b137 .char [(.int (x3 &&& (255 : Int32)).toUInt32.toUInt16.toUInt32.toInt32.toUInt32.toUInt16.toUInt32.toInt32)] := A154
  have F156 := F144.wr W153
  have F157 := F145.other W153 ne143
  have F158 := A155
  have N159 := Fr.snoc X151 N133 sz146
  have szh160 : h0.size ≤ h150.size := Nat.le_trans szh147 (Nat.le_of_eq W153.size.symm)
  show Go p_ e_ below _ T149 (mkF m_ 35 #[.val (.int x0), .val (.int x1), .val (.int x2), .val (.int x3), .val (.ref b103), .unset, .unset, .unset, .unset, .unset, .unset, .unset, .unset, .unset, .unset, .unset] [(.ref b137)])
  refine g_astore X151 hx #[.val (.int x0), .val (.int x1), .val (.int x2), .val (.int x3), .val (.ref b103), .val (.ref b137), .unset, .unset, .unset, .unset, .unset, .unset, .unset, .unset, .unset, .unset] rfl rfl (hb hby at_35) 37 rfl ?_
  refine g_iconst X151 hx (5 : Int32) rfl (hb hby at_37) 38 rfl ?_
  refine g_anewarray X151 hx hZ hown (wd hw 1 rfl) (wd hw 2 rfl) e152 (by decide) 5 (by decide) (by decide) (by decide) (by decide) [.null, .null, .null, .null, .null] rfl (hb hby at_38) 41 rfl (fun T161 h162 b163 X164 e165 g166 E167 A168 O169 => ?_)
  have ne170 : b103 ≠ b163 := Nat.ne_of_lt (Nat.lt_of_lt_of_eq F157.lt g166.symm)
  have ne171 : b137 ≠ b163 := Nat.ne_of_lt (Nat.lt_of_lt_of_eq A155.lt g166.symm)
  have F172 := F156.ext E167
  have F173 := F157.ext E167
  have F174 := A155.ext E167
  have sz175 : h0.size ≤ b163 := Nat.le_trans szh160 (Nat.le_of_eq g166.symm)
  have szh176 : h0.size ≤ h162.size := Nat.le_trans szh160 E167.1
  show Go p_ e_ below _ T161 (mkF m_ 41 #[.val (.int x0), .val (.int x1), .val (.int x2), .val (.int x3), .val (.ref b103), .val (.ref b137), .unset, .unset, .unset, .unset, .unset, .unset, .unset, .unset, .unset, .unset] [(.ref b163)])
  refine g_astore X164 hx #[.val (.int x0), .val (.int x1), .val (.int x2), .val (.int x3), .val (.ref b103), .val (.ref b137), .val (.ref b163), .unset, .unset, .unset, .unset, .unset, .unset, .unset, .unset, .unset] rfl rfl (hb hby at_41) 43 rfl ?_
  refine g_aload X164 hx rfl rfl (hb hby at_43) 45 rfl ?_
  refine g_iconst X164 hx (0 : Int32) rfl (hb hby at_45) 46 rfl ?_
  refine g_aconst_null X164 hx (hb hby at_46) 47 rfl ?_
  refine g_aastore X164 hx hZ e165 A168 rfl (Or.inl rfl) (by decide) (Nat.le_of_ble_eq_true rfl) (hb hby at_47) 48 rfl (fun T177 h178 X179 e180 W181 A182 => ?_)
  have A183 : AV Z h178 b163 (.object "java/lang/Object") [.null, .null, .null, .null, .null] := A182
  have F184 := F172.wr W181
  have F185 := F173.other W181 ne170
  have F186 := F174.other W181 ne171
  have F187 := A183
  have F188 := O169.wr W181
  have N189 := Fr.snoc X179 N159 sz175
  have szh190 : h0.size ≤ h178.size := Nat.le_trans szh176 (Nat.le_of_eq W181.size.symm)
  show Go p_ e_ below _ T177 (mkF m_ 48 #[.val (.int x0), .val (.int x1), .val (.int x2), .val (.int x3), .val (.ref b103), .val (.ref b137), .val (.ref b163), .unset, .unset, .unset, .unset, .unset, .unset, .unset, .unset, .unset] [])
  refine g_aload X179 hx rfl rfl (hb hby at_48) 50 rfl ?_
  refine g_iconst X179 hx (1 : Int32) rfl (hb hby at_50) 51 rfl ?_
  refine g_new X179 hx hZ hown (wd hw 3 rfl) (wd hw 4 rfl) (wd hw 5 rfl) e180 (hb hby at_51) (by decide) (by decide) 54 rfl (fun T191 h192 b193 X194 e195 g196 E197 A198 D199 => ?_)
  have ne200 : b103 ≠ b193 := Nat.ne_of_lt (Nat.lt_of_lt_of_eq F185.lt g196.symm)
  have ne201 : b137 ≠ b193 := Nat.ne_of_lt (Nat.lt_of_lt_of_eq F186.lt g196.symm)
  have ne202 : b163 ≠ b193 := Nat.ne_of_lt (Nat.lt_of_lt_of_eq A183.lt g196.symm)
  have F203 := F184.ext E197
  have F204 := F185.ext E197
  have F205 := F186.ext E197
  have F206 := A183.ext E197
  have F207 := F188.ext E197
  have sz208 : h0.size ≤ b193 := Nat.le_trans szh190 (Nat.le_of_eq g196.symm)
  have szh209 : h0.size ≤ h192.size := Nat.le_trans szh190 E197.1
  have F210 : Fld Z h192 b193 "java/lang/String" "coder" "B" (.int (0 : Int32)) := D199 (Or.inr (wd hw 29 rfl)) (ty := .byte) (by decide)
  have F211 : Fld Z h192 b193 "java/lang/String" "value" "[B" .null := D199 (Or.inr (wd hw 31 rfl)) (ty := (.array .byte)) (by decide)
  show Go p_ e_ below _ T191 (mkF m_ 54 #[.val (.int x0), .val (.int x1), .val (.int x2), .val (.int x3), .val (.ref b103), .val (.ref b137), .val (.ref b163), .unset, .unset, .unset, .unset, .unset, .unset, .unset, .unset, .unset] [(.ref b193), (.int (1 : Int32)), (.ref b163)])
  refine g_dup X194 hx rfl (hb hby at_54) 55 rfl ?_
  refine g_aload X194 hx rfl rfl (hb hby at_55) 57 rfl ?_
  refine g_init X194 hx hZ hown (wd hw 6 rfl) rfl (wd hw 7 rfl) (wd hw 5 rfl) (wd hw 8 rfl) (by decide) e195 [(.ref b103)] [(.ref b193), (.int (1 : Int32)), (.ref b163)] rfl (co1_2 l Z a0 hw b193 b103 (x2 &&& (255 : Int32)).toUInt32.toUInt16.toUInt32.toInt32.toUInt32.toUInt16.toUInt32.toInt32 (x3 &&& (255 : Int32)).toUInt32.toUInt16.toUInt32.toInt32.toUInt32.toUInt16.toUInt32.toInt32 cs h192 h0.size szh209 sz208 A198 F210 F211 F204 (Ne.symm ne200) F203 hcs (own_lat _) (own_lat _)) (lenOf pd_4 rfl) 3 (Nat.le_of_eq rfl) (by decide) (by decide) (by decide) (by decide) (by rw [hml]; rfl) (hb hby at_57) 60 rfl (fun r212 T213 L214 X215 Q216 => ?_)
  obtain ⟨h217, e218⟩ : ∃ h, T213.heap = h := ⟨_, rfl⟩
  rw [e218] at Q216
  obtain ⟨rfl, n219, K220, E221, F222, b223, sz224, F225, A226⟩ := Q216
  have N227 := Fr.app N189 n219
  have ne228 : b103 ≠ b223 := Nat.ne_of_lt (Nat.lt_of_lt_of_le F204.lt sz224)
  have ne229 : b137 ≠ b223 := Nat.ne_of_lt (Nat.lt_of_lt_of_le F205.lt sz224)
  have ne230 : b163 ≠ b223 := Nat.ne_of_lt (Nat.lt_of_lt_of_le F206.lt sz224)
  have ne231 : b193 ≠ b223 := Nat.ne_of_lt (Nat.lt_of_lt_of_le A198.lt sz224)
  have F232 := own_sta_keep F203 K220 (nsS A198.nostat ns0)
  have F233 := F204.keep K220 (ninS ne200 nin0)
  have F234 := F205.keep K220 (ninS ne201 nin0)
  have F235 := F206.keep K220 (ninS ne202 nin0)
  have F236 := F207.keep K220
  have F237 := A198.keep K220
  have szh238 : h0.size ≤ h217.size := Nat.le_trans szh209 K220.1
  show Go p_ e_ below _ T213 (mkF m_ 60 #[.val (.int x0), .val (.int x1), .val (.int x2), .val (.int x3), .val (.ref b103), .val (.ref b137), .val (.ref b163), .unset, .unset, .unset, .unset, .unset, .unset, .unset, .unset, .unset] [(.ref b193), (.int (1 : Int32)), (.ref b163)])
  refine g_aastore X215 hx hZ e218 F235 rfl (Ov.sto F236 F235 (Ins.of_exa E221 (wd hw 32 rfl))) (by decide) (Nat.le_of_ble_eq_true rfl) (hb hby at_60) 61 rfl (fun T239 h240 X241 e242 W243 A244 => ?_)
  have A245 : AV Z h240 b163 (.object "java/lang/Object") [.null, (.ref b193), .null, .null, .null] := A244
  have F246 := F232.wr W243
  have F247 := F233.other W243 ne170
  have F248 := F234.other W243 ne171
  have F249 := A245
  have F250 := F236.wr W243
  have F251 := E221.wr W243
  have N252 := Fr.snoc X241 N227 sz175
  have szh253 : h0.size ≤ h240.size := Nat.le_trans szh238 (Nat.le_of_eq W243.size.symm)
  show Go p_ e_ below _ T239 (mkF m_ 61 #[.val (.int x0), .val (.int x1), .val (.int x2), .val (.int x3), .val (.ref b103), .val (.ref b137), .val (.ref b163), .unset, .unset, .unset, .unset, .unset, .unset, .unset, .unset, .unset] [])
  refine g_aload X241 hx rfl rfl (hb hby at_61) 63 rfl ?_
  refine g_iconst X241 hx (2 : Int32) rfl (hb hby at_63) 64 rfl ?_
  refine g_new X241 hx hZ hown (wd hw 3 rfl) (wd hw 4 rfl) (wd hw 5 rfl) e242 (hb hby at_64) (by decide) (by decide) 67 rfl (fun T254 h255 b256 X257 e258 g259 E260 A261 D262 => ?_)
  have ne263 : b103 ≠ b256 := Nat.ne_of_lt (Nat.lt_of_lt_of_eq F247.lt g259.symm)
  have ne264 : b137 ≠ b256 := Nat.ne_of_lt (Nat.lt_of_lt_of_eq F248.lt g259.symm)
  have ne265 : b163 ≠ b256 := Nat.ne_of_lt (Nat.lt_of_lt_of_eq A245.lt g259.symm)
  have ne266 : b193 ≠ b256 := Nat.ne_of_lt (Nat.lt_of_lt_of_eq F251.lt g259.symm)
  have F267 := F246.ext E260
  have F268 := F247.ext E260
  have F269 := F248.ext E260
  have F270 := A245.ext E260
  have F271 := F250.ext E260
  have F272 := F251.ext E260
  have sz273 : h0.size ≤ b256 := Nat.le_trans szh253 (Nat.le_of_eq g259.symm)
  have szh274 : h0.size ≤ h255.size := Nat.le_trans szh253 E260.1
  have F275 : Fld Z h255 b256 "java/lang/String" "coder" "B" (.int (0 : Int32)) := D262 (Or.inr (wd hw 29 rfl)) (ty := .byte) (by decide)
  have F276 : Fld Z h255 b256 "java/lang/String" "value" "[B" .null := D262 (Or.inr (wd hw 31 rfl)) (ty := (.array .byte)) (by decide)
  show Go p_ e_ below _ T254 (mkF m_ 67 #[.val (.int x0), .val (.int x1), .val (.int x2), .val (.int x3), .val (.ref b103), .val (.ref b137), .val (.ref b163), .unset, .unset, .unset, .unset, .unset, .unset, .unset, .unset, .unset] [(.ref b256), (.int (2 : Int32)), (.ref b163)])
  refine g_dup X257 hx rfl (hb hby at_67) 68 rfl ?_
  refine g_aload X257 hx rfl rfl (hb hby at_68) 70 rfl ?_
  refine g_init X257 hx hZ hown (wd hw 6 rfl) rfl (wd hw 7 rfl) (wd hw 5 rfl) (wd hw 8 rfl) (by decide) e258 [(.ref b103)] [(.ref b256), (.int (2 : Int32)), (.ref b163)] rfl (co1_2 l Z a0 hw b256 b103 (x2 &&& (255 : Int32)).toUInt32.toUInt16.toUInt32.toInt32.toUInt32.toUInt16.toUInt32.toInt32 (x3 &&& (255 : Int32)).toUInt32.toUInt16.toUInt32.toInt32.toUInt32.toUInt16.toUInt32.toInt32 cs h255 h0.size szh274 sz273 A261 F275 F276 F268 (Ne.symm ne263) F267 hcs (own_lat _) (own_lat _)) (lenOf pd_4 rfl) 3 (Nat.le_of_eq rfl) (by decide) (by decide) (by decide) (by decide) (by rw [hml]; rfl) (hb hby at_70) 73 rfl (fun r277 T278 L279 X280 Q281 => ?_)
  obtain ⟨h282, e283⟩ : ∃ h, T278.heap = h := ⟨_, rfl⟩
  rw [e283] at Q281
  obtain ⟨rfl, n284, K285, E286, F287, b288, sz289, F290, A291⟩ := Q281
  have N292 := Fr.app N252 n284
  have ne293 : b103 ≠ b288 := Nat.ne_of_lt (Nat.lt_of_lt_of_le F268.lt sz289)
  have ne294 : b137 ≠ b288 := Nat.ne_of_lt (Nat.lt_of_lt_of_le F269.lt sz289)
  have ne295 : b163 ≠ b288 := Nat.ne_of_lt (Nat.lt_of_lt_of_le F270.lt sz289)
  have ne296 : b193 ≠ b288 := Nat.ne_of_lt (Nat.lt_of_lt_of_le F272.lt sz289)
  have ne297 : b256 ≠ b288 := Nat.ne_of_lt (Nat.lt_of_lt_of_le A261.lt sz289)
  have F298 := own_sta_keep F267 K285 (nsS A261.nostat ns0)
  have F299 := F268.keep K285 (ninS ne263 nin0)
  have F300 := F269.keep K285 (ninS ne264 nin0)
  have F301 := F270.keep K285 (ninS ne265 nin0)
  have F302 := F271.keep K285
  have F303 := F272.keep K285
  have F304 := A261.keep K285
  have szh305 : h0.size ≤ h282.size := Nat.le_trans szh274 K285.1
  show Go p_ e_ below _ T278 (mkF m_ 73 #[.val (.int x0), .val (.int x1), .val (.int x2), .val (.int x3), .val (.ref b103), .val (.ref b137), .val (.ref b163), .unset, .unset, .unset, .unset, .unset, .unset, .unset, .unset, .unset] [(.ref b256), (.int (2 : Int32)), (.ref b163)])
  refine g_aastore X280 hx hZ e283 F301 rfl (Ov.sto F302 F301 (Ins.of_exa E286 (wd hw 32 rfl))) (by decide) (Nat.le_of_ble_eq_true rfl) (hb hby at_73) 74 rfl (fun T306 h307 X308 e309 W310 A311 => ?_)
  have A312 : AV Z h307 b163 (.object "java/lang/Object") [.null, (.ref b193), (.ref b256), .null, .null] := A311
  have F313 := F298.wr W310
  have F314 := F299.other W310 ne170
  have F315 := F300.other W310 ne171
  have F316 := A312
  have F317 := F302.wr W310
  have F318 := F303.wr W310
  have F319 := E286.wr W310
  have N320 := Fr.snoc X308 N292 sz175
  have szh321 : h0.size ≤ h307.size := Nat.le_trans szh305 (Nat.le_of_eq W310.size.symm)
  show Go p_ e_ below _ T306 (mkF m_ 74 #[.val (.int x0), .val (.int x1), .val (.int x2), .val (.int x3), .val (.ref b103), .val (.ref b137), .val (.ref b163), .unset, .unset, .unset, .unset, .unset, .unset, .unset, .unset, .unset] [])
  refine g_aload X308 hx rfl rfl (hb hby at_74) 76 rfl ?_
  refine g_iconst X308 hx (3 : Int32) rfl (hb hby at_76) 77 rfl ?_
  refine g_new X308 hx hZ hown (wd hw 3 rfl) (wd hw 4 rfl) (wd hw 5 rfl) e309 (hb hby at_77) (by decide) (by decide) 80 rfl (fun T322 h323 b324 X325 e326 g327 E328 A329 D330 => ?_)
  have ne331 : b103 ≠ b324 := Nat.ne_of_lt (Nat.lt_of_lt_of_eq F314.lt g327.symm)
  have ne332 : b137 ≠ b324 := Nat.ne_of_lt (Nat.lt_of_lt_of_eq F315.lt g327.symm)
  have ne333 : b163 ≠ b324 := Nat.ne_of_lt (Nat.lt_of_lt_of_eq A312.lt g327.symm)
  have ne334 : b193 ≠ b324 := Nat.ne_of_lt (Nat.lt_of_lt_of_eq F318.lt g327.symm)
  have ne335 : b256 ≠ b324 := Nat.ne_of_lt (Nat.lt_of_lt_of_eq F319.lt g327.symm)
  have F336 := F313.ext E328
  have F337 := F314.ext E328
  have F338 := F315.ext E328
  have F339 := A312.ext E328
  have F340 := F317.ext E328
  have F341 := F318.ext E328
  have F342 := F319.ext E328
  have sz343 : h0.size ≤ b324 := Nat.le_trans szh321 (Nat.le_of_eq g327.symm)
  have szh344 : h0.size ≤ h323.size := Nat.le_trans szh321 E328.1
  have F345 : Fld Z h323 b324 "java/lang/String" "coder" "B" (.int (0 : Int32)) := D330 (Or.inr (wd hw 29 rfl)) (ty := .byte) (by decide)
  have F346 : Fld Z h323 b324 "java/lang/String" "value" "[B" .null := D330 (Or.inr (wd hw 31 rfl)) (ty := (.array .byte)) (by decide)
  show Go p_ e_ below _ T322 (mkF m_ 80 #[.val (.int x0), .val (.int x1), .val (.int x2), .val (.int x3), .val (.ref b103), .val (.ref b137), .val (.ref b163), .unset, .unset, .unset, .unset, .unset, .unset, .unset, .unset, .unset] [(.ref b324), (.int (3 : Int32)), (.ref b163)])
  refine g_dup X325 hx rfl (hb hby at_80) 81 rfl ?_
  refine g_aload X325 hx rfl rfl (hb hby at_81) 83 rfl ?_
  refine g_init X325 hx hZ hown (wd hw 6 rfl) rfl (wd hw 7 rfl) (wd hw 5 rfl) (wd hw 8 rfl) (by decide) e326 [(.ref b137)] [(.ref b324), (.int (3 : Int32)), (.ref b163)] rfl (co1_1 l Z a0 hw b324 b137 (x3 &&& (255 : Int32)).toUInt32.toUInt16.toUInt32.toInt32.toUInt32.toUInt16.toUInt32.toInt32 cs h323 h0.size szh344 sz343 A329 F345 F346 F338 (Ne.symm ne332) F336 hcs (own_lat _)) (lenOf pd_4 rfl) 3 (Nat.le_of_eq rfl) (by decide) (by decide) (by decide) (by decide) (by rw [hml]; rfl) (hb hby at_83) 86 rfl (fun r347 T348 L349 X350 Q351 => ?_)
  obtain ⟨h352, e353⟩ : ∃ h, T348.heap = h := ⟨_, rfl⟩
  rw [e353] at Q351
  obtain ⟨rfl, n354, K355, E356, F357, b358, sz359, F360, A361⟩ := Q351
  have N362 := Fr.app N320 n354
  have ne363 : b103 ≠ b358 := Nat.ne_of_lt (Nat.lt_of_lt_of_le F337.lt sz359)
  have ne364 : b137 ≠ b358 := Nat.ne_of_lt (Nat.lt_of_lt_of_le F338.lt sz359)
  have ne365 : b163 ≠ b358 := Nat.ne_of_lt (Nat.lt_of_lt_of_le F339.lt sz359)
  have ne366 : b193 ≠ b358 := Nat.ne_of_lt (Nat.lt_of_lt_of_le F341.lt sz359)
  have ne367 : b256 ≠ b358 := Nat.ne_of_lt (Nat.lt_of_lt_of_le F342.lt sz359)
  have ne368 : b324 ≠ b358 := Nat.ne_of_lt (Nat.lt_of_lt_of_le A329.lt sz359)
  have F369 := own_sta_keep F336 K355 (nsS A329.nostat ns0)
  have F370 := F337.keep K355 (ninS ne331 nin0)
  have F371 := F338.keep K355 (ninS ne332 nin0)
  have F372 := F339.keep K355 (ninS ne333 nin0)
  have F373 := F340.keep K355
  have F374 := F341.keep K355
  have F375 := F342.keep K355
  have F376 := A329.keep K355
  have szh377 : h0.size ≤ h352.size := Nat.le_trans szh344 K355.1
  show Go p_ e_ below _ T348 (mkF m_ 86 #[.val (.int x0), .val (.int x1), .val (.int x2), .val (.int x3), .val (.ref b103), .val (.ref b137), .val (.ref b163), .unset, .unset, .unset, .unset, .unset, .unset, .unset, .unset, .unset] [(.ref b324), (.int (3 : Int32)), (.ref b163)])
  refine g_aastore X350 hx hZ e353 F372 rfl (Ov.sto F373 F372 (Ins.of_exa E356 (wd hw 32 rfl))) (by decide) (Nat.le_of_ble_eq_true rfl) (hb hby at_86) 87 rfl (fun T378 h379 X380 e381 W382 A383 => ?_)
  have A384 : AV Z h379 b163 (.object "java/lang/Object") [.null, (.ref b193), (.ref b256), (.ref b324), .null] := A383
  have F385 := F369.wr W382
  have F386 := F370.other W382 ne170
  have F387 := F371.other W382 ne171
  have F388 := A384
  have F389 := F373.wr W382
  have F390 := F374.wr W382
  have F391 := F375.wr W382
  have F392 := E356.wr W382
  have N393 := Fr.snoc X380 N362 sz175
  have szh394 : h0.size ≤ h379.size := Nat.le_trans szh377 (Nat.le_of_eq W382.size.symm)
  show Go p_ e_ below _ T378 (mkF m_ 87 #[.val (.int x0), .val (.int x1), .val (.int x2), .val (.int x3), .val (.ref b103), .val (.ref b137), .val (.ref b163), .unset, .unset, .unset, .unset, .unset, .unset, .unset, .unset, .unset] [])
  refine g_aload X380 hx rfl rfl (hb hby at_87) 89 rfl ?_
  refine g_iconst X380 hx (4 : Int32) rfl (hb hby at_89) 90 rfl ?_
  refine g_new X380 hx hZ hown (wd hw 3 rfl) (wd hw 4 rfl) (wd hw 5 rfl) e381 (hb hby at_90) (by decide) (by decide) 93 rfl (fun T395 h396 b397 X398 e399 g400 E401 A402 D403 => ?_)
  have ne404 : b103 ≠ b397 := Nat.ne_of_lt (Nat.lt_of_lt_of_eq F386.lt g400.symm)
  have ne405 : b137 ≠ b397 := Nat.ne_of_lt (Nat.lt_of_lt_of_eq F387.lt g400.symm)
  have ne406 : b163 ≠ b397 := Nat.ne_of_lt (Nat.lt_of_lt_of_eq A384.lt g400.symm)
  have ne407 : b193 ≠ b397 := Nat.ne_of_lt (Nat.lt_of_lt_of_eq F390.lt g400.symm)
  have ne408 : b256 ≠ b397 := Nat.ne_of_lt (Nat.lt_of_lt_of_eq F391.lt g400.symm)
  have ne409 : b324 ≠ b397 := Nat.ne_of_lt (Nat.lt_of_lt_of_eq F392.lt g400.symm)
  have F410 := F385.ext E401
  have F411 := F386.ext E401
  have F412 := F387.ext E401
  have F413 := A384.ext E401
  have F414 := F389.ext E401
  have F415 := F390.ext E401
  have F416 := F391.ext E401
  have F417 := F392.ext E401
  have sz418 : h0.size ≤ b397 := Nat.le_trans szh394 (Nat.le_of_eq g400.symm)
  have szh419 : h0.size ≤ h396.size := Nat.le_trans szh394 E401.1
  have F420 : Fld Z h396 b397 "java/lang/String" "coder" "B" (.int (0 : Int32)) := D403 (Or.inr (wd hw 29 rfl)) (ty := .byte) (by decide)
  have F421 : Fld Z h396 b397 "java/lang/String" "value" "[B" .null := D403 (Or.inr (wd hw 31 rfl)) (ty := (.array .byte)) (by decide)
  show Go p_ e_ below _ T395 (mkF m_ 93 #[.val (.int x0), .val (.int x1), .val (.int x2), .val (.int x3), .val (.ref b103), .val (.ref b137), .val (.ref b163), .unset, .unset, .unset, .unset, .unset, .unset, .unset, .unset, .unset] [(.ref b397), (.int (4 : Int32)), (.ref b163)])
  refine g_dup X398 hx rfl (hb hby at_93) 94 rfl ?_
  refine g_aload X398 hx rfl rfl (hb hby at_94) 96 rfl ?_
  refine g_init X398 hx hZ hown (wd hw 6 rfl) rfl (wd hw 7 rfl) (wd hw 5 rfl) (wd hw 8 rfl) (by decide) e399 [(.ref b103)] [(.ref b397), (.int (4 : Int32)), (.ref b163)] rfl (co1_2 l Z a0 hw b397 b103 (x2 &&& (255 : Int32)).toUInt32.toUInt16.toUInt32.toInt32.toUInt32.toUInt16.toUInt32.toInt32 (x3 &&& (255 : Int32)).toUInt32.toUInt16.toUInt32.toInt32.toUInt32.toUInt16.toUInt32.toInt32 cs h396 h0.size szh419 sz418 A402 F420 F421 F411 (Ne.symm ne404) F410 hcs (own_lat _) (own_lat _)) (lenOf pd_4 rfl) 3 (Nat.le_of_eq rfl) (by decide) (by decide) (by decide) (by decide) (by rw [hml]; rfl) (hb hby at_96) 99 rfl (fun r422 T423 L424 X425 Q426 => ?_)
  obtain ⟨h427, e428⟩ : ∃ h, T423.heap = h := ⟨_, rfl⟩
  rw [e428] at Q426
  obtain ⟨rfl, n429, K430, E431, F432, b433, sz434, F435, A436⟩ := Q426
  have N437 := Fr.app N393 n429
  have ne438 : b103 ≠ b433 := Nat.ne_of_lt (Nat.lt_of_lt_of_le F411.lt sz434)
  have ne439 : b137 ≠ b433 := Nat.ne_of_lt (Nat.lt_of_lt_of_le F412.lt sz434)
  have ne440 : b163 ≠ b433 := Nat.ne_of_lt (Nat.lt_of_lt_of_le F413.lt sz434)
  have ne441 : b193 ≠ b433 := Nat.ne_of_lt (Nat.lt_of_lt_of_le F415.lt sz434)
  have ne442 : b256 ≠ b433 := Nat.ne_of_lt (Nat.lt_of_lt_of_le F416.lt sz434)
  have ne443 : b324 ≠ b433 := Nat.ne_of_lt (Nat.lt_of_lt_of_le F417.lt sz434)
  have ne444 : b397 ≠ b433 := Nat.ne_of_lt (Nat.lt_of_lt_of_le A402.lt sz434)
  have F445 := own_sta_keep F410 K430 (nsS A402.nostat ns0)
  have F446 := F411.keep K430 (ninS ne404 nin0)
  have F447 := F412.keep K430 (ninS ne405 nin0)
  have F448 := F413.keep K430 (ninS ne406 nin0)
  have F449 := F414.keep K430
  have F450 := F415.keep K430
  have F451 := F416.keep K430
  have F452 := F417.keep K430
  have F453 := A402.keep K430
  have szh454 : h0.size ≤ h427.size := Nat.le_trans szh419 K430.1
  show Go p_ e_ below _ T423 (mkF m_ 99 #[.val (.int x0), .val (.int x1), .val (.int x2), .val (.int x3), .val (.ref b103), .val (.ref b137), .val (.ref b163), .unset, .unset, .unset, .unset, .unset, .unset, .unset, .unset, .unset] [(.ref b397), (.int (4 : Int32)), (.ref b163)])
  refine g_aastore X425 hx hZ e428 F448 rfl (Ov.sto F449 F448 (Ins.of_exa E431 (wd hw 32 rfl))) (by decide) (Nat.le_of_ble_eq_true rfl) (hb hby at_99) 100 rfl (fun T455 h456 X457 e458 W459 A460 => ?_)
  have A461 : AV Z h456 b163 (.object "java/lang/Object") [.null, (.ref b193), (.ref b256), (.ref b324), (.ref b397)] := A460
  have F462 := F445.wr W459
  have F463 := F446.other W459 ne170
  have F464 := F447.other W459 ne171
  have F465 := A461
  have F466 := F449.wr W459
  have F467 := F450.wr W459
  have F468 := F451.wr W459
  have F469 := F452.wr W459
  have F470 := E431.wr W459
  have N471 := Fr.snoc X457 N437 sz175
  have szh472 : h0.size ≤ h456.size := Nat.le_trans szh454 (Nat.le_of_eq W459.size.symm)
  show Go p_ e_ below _ T455 (mkF m_ 100 #[.val (.int x0), .val (.int x1), .val (.int x2), .val (.int x3), .val (.ref b103), .val (.ref b137), .val (.ref b163), .unset, .unset, .unset, .unset, .unset, .unset, .unset, .unset, .unset] [])
  refine g_iloadN X457 hx rfl (hb hby at_100) 101 rfl ?_
  refine g_iconst X457 hx (3 : Int32) rfl (hb hby at_101) 102 rfl ?_
  refine g_iand X457 hx (hb hby at_102) 103 rfl ?_
  generalize hv473 : (x0 &&& (3 : Int32)) = v473
  refine g_istore X457 hx #[.val (.int x0), .val (.int x1), .val (.int x2), .val (.int x3), .val (.ref b103), .val (.ref b137), .val (.ref b163), .val (.int v473), .unset, .unset, .unset, .unset, .unset, .unset, .unset, .unset] rfl (hb hby at_103) 105 rfl ?_
  refine g_iloadN X457 hx rfl (hb hby at_105) 106 rfl ?_
  refine g_iconst X457 hx (2 : Int32) rfl (hb hby at_106) 107 rfl ?_
  refine g_iushr X457 hx (hb hby at_107) 108 rfl ?_
  refine g_iconst X457 hx (3 : Int32) rfl (hb hby at_108) 109 rfl ?_
  refine g_iand X457 hx (hb hby at_109) 110 rfl ?_
  generalize hv474 : ((XT.ushr x0 (2 : Int32)) &&& (3 : Int32)) = v474
  refine g_istore X457 hx #[.val (.int x0), .val (.int x1), .val (.int x2), .val (.int x3), .val (.ref b103), .val (.ref b137), .val (.ref b163), .val (.int v473), .val (.int v474), .unset, .unset, .unset, .unset, .unset, .unset, .unset] rfl (hb hby at_110) 112 rfl ?_
  refine g_iloadN X457 hx rfl (hb hby at_112) 113 rfl ?_
  refine g_iconst X457 hx (4 : Int32) rfl (hb hby at_113) 114 rfl ?_
  refine g_iushr X457 hx (hb hby at_114) 115 rfl ?_
  refine g_iconst X457 hx (3 : Int32) rfl (hb hby at_115) 116 rfl ?_
  refine g_iand X457 hx (hb hby at_116) 117 rfl ?_
  generalize hv475 : ((XT.ushr x0 (4 : Int32)) &&& (3 : Int32)) = v475
  refine g_istore X457 hx #[.val (.int x0), .val (.int x1), .val (.int x2), .val (.int x3), .val (.ref b103), .val (.ref b137), .val (.ref b163), .val (.int v473), .val (.int v474), .val (.int v475), .unset, .unset, .unset, .unset, .unset, .unset] rfl (hb hby at_117) 119 rfl ?_
  refine g_iloadN X457 hx rfl (hb hby at_119) 120 rfl ?_
  refine g_bipush X457 hx (6 : Int32) rfl (hb hby at_120) 122 rfl ?_
  refine g_iushr X457 hx (hb hby at_122) 123 rfl ?_
  refine g_iconst X457 hx (3 : Int32) rfl (hb hby at_123) 124 rfl ?_
  refine g_iand X457 hx (hb hby at_124) 125 rfl ?_
  generalize hv476 : ((XT.ushr x0 (6 : Int32)) &&& (3 : Int32)) = v476
  refine g_istore X457 hx #[.val (.int x0), .val (.int x1), .val (.int x2), .val (.int x3), .val (.ref b103), .val (.ref b137), .val (.ref b163), .val (.int v473), .val (.int v474), .val (.int v475), .val (.int v476), .unset, .unset, .unset, .unset, .unset] rfl (hb hby at_125) 127 rfl ?_
  refine g_iloadN X457 hx rfl (hb hby at_127) 128 rfl ?_
  refine g_bipush X457 hx (8 : Int32) rfl (hb hby at_128) 130 rfl ?_
  refine g_iushr X457 hx (hb hby at_130) 131 rfl ?_
  refine g_iconst X457 hx (3 : Int32) rfl (hb hby at_131) 132 rfl ?_
  refine g_iand X457 hx (hb hby at_132) 133 rfl ?_
  generalize hv477 : ((XT.ushr x0 (8 : Int32)) &&& (3 : Int32)) = v477
  refine g_istore X457 hx #[.val (.int x0), .val (.int x1), .val (.int x2), .val (.int x3), .val (.ref b103), .val (.ref b137), .val (.ref b163), .val (.int v473), .val (.int v474), .val (.int v475), .val (.int v476), .val (.int v477), .unset, .unset, .unset, .unset] rfl (hb hby at_133) 135 rfl ?_
  refine g_iloadN X457 hx rfl (hb hby at_135) 136 rfl ?_
  refine g_ldc X457 hx hZ hown (wd hw 33 rfl) (hb hby at_136) 138 rfl ?_
  refine g_iand X457 hx (hb hby at_138) 139 rfl ?_
  refine g_iconst X457 hx (5 : Int32) rfl (hb hby at_139) 140 rfl ?_
  refine g_irem X457 hx (by decide) (hb hby at_140) 141 rfl ?_
  generalize hv478 : ((x1 &&& (2147483647 : Int32)) % (5 : Int32)) = v478
  refine g_istore X457 hx #[.val (.int x0), .val (.int x1), .val (.int x2), .val (.int x3), .val (.ref b103), .val (.ref b137), .val (.ref b163), .val (.int v473), .val (.int v474), .val (.int v475), .val (.int v476), .val (.int v477), .val (.int v478), .unset, .unset, .unset] rfl (hb hby at_141) 143 rfl ?_
  have r_v473 := own_and3 _ |> fun z => (hv473 ▸ z : v473 = 0 ∨ v473 = 1 ∨ v473 = 2 ∨ v473 = 3)
  have r_v474 := own_and3 _ |> fun z => (hv474 ▸ z : v474 = 0 ∨ v474 = 1 ∨ v474 = 2 ∨ v474 = 3)
  have r_v475 := own_and3 _ |> fun z => (hv475 ▸ z : v475 = 0 ∨ v475 = 1 ∨ v475 = 2 ∨ v475 = 3)
  have r_v476 := own_and3 _ |> fun z => (hv476 ▸ z : v476 = 0 ∨ v476 = 1 ∨ v476 = 2 ∨ v476 = 3)
  have r_v477 := own_and3 _ |> fun z => (hv477 ▸ z : v477 = 0 ∨ v477 = 1 ∨ v477 = 2 ∨ v477 = 3)
  have r_v478 : v478 = 0 ∨ v478 = 1 ∨ v478 = 2 ∨ v478 = 3 ∨ v478 = 4 := hv478 ▸ own_rem5 _
  refine g_new X457 hx hZ hown (wd hw 34 rfl) (wd hw 35 rfl) (wd hw 36 rfl) e458 (hb hby at_143) (by decide) (by decide) 146 rfl (fun T479 h480 b481 X482 e483 g484 E485 A486 D487 => ?_)
  have ne488 : b103 ≠ b481 := Nat.ne_of_lt (Nat.lt_of_lt_of_eq F463.lt g484.symm)
  have ne489 : b137 ≠ b481 := Nat.ne_of_lt (Nat.lt_of_lt_of_eq F464.lt g484.symm)
  have ne490 : b163 ≠ b481 := Nat.ne_of_lt (Nat.lt_of_lt_of_eq A461.lt g484.symm)
  have ne491 : b193 ≠ b481 := Nat.ne_of_lt (Nat.lt_of_lt_of_eq F467.lt g484.symm)
  have ne492 : b256 ≠ b481 := Nat.ne_of_lt (Nat.lt_of_lt_of_eq F468.lt g484.symm)
  have ne493 : b324 ≠ b481 := Nat.ne_of_lt (Nat.lt_of_lt_of_eq F469.lt g484.symm)
  have ne494 : b397 ≠ b481 := Nat.ne_of_lt (Nat.lt_of_lt_of_eq F470.lt g484.symm)
  have F495 := F462.ext E485
  have F496 := F463.ext E485
  have F497 := F464.ext E485
  have F498 := A461.ext E485
  have F499 := F466.ext E485
  have F500 := F467.ext E485
  have F501 := F468.ext E485
  have F502 := F469.ext E485
  have F503 := F470.ext E485
  have sz504 : h0.size ≤ b481 := Nat.le_trans szh472 (Nat.le_of_eq g484.symm)
  have szh505 : h0.size ≤ h480.size := Nat.le_trans szh472 E485.1
  have F506 : Fld Z h480 b481 "com/example/noise_to_signal/noisetosignal/signal/HeldTexts" "type" "Ljava/lang/Object;" .null := D487 (Or.inr (wd hw 42 rfl)) (ty := (.object "java/lang/Object")) (by decide)
  have F507 : Fld Z h480 b481 "com/example/noise_to_signal/noisetosignal/signal/HeldTexts" "actor" "Ljava/lang/Object;" .null := D487 (Or.inr (wd hw 44 rfl)) (ty := (.object "java/lang/Object")) (by decide)
  have F508 : Fld Z h480 b481 "com/example/noise_to_signal/noisetosignal/signal/HeldTexts" "client" "Ljava/lang/Object;" .null := D487 (Or.inr (wd hw 46 rfl)) (ty := (.object "java/lang/Object")) (by decide)
  have F509 : Fld Z h480 b481 "com/example/noise_to_signal/noisetosignal/signal/HeldTexts" "srcIp" "Ljava/lang/Object;" .null := D487 (Or.inr (wd hw 48 rfl)) (ty := (.object "java/lang/Object")) (by decide)
  have F510 : Fld Z h480 b481 "com/example/noise_to_signal/noisetosignal/signal/HeldTexts" "target" "Ljava/lang/Object;" .null := D487 (Or.inr (wd hw 50 rfl)) (ty := (.object "java/lang/Object")) (by decide)
  show Go p_ e_ below _ T479 (mkF m_ 146 #[.val (.int x0), .val (.int x1), .val (.int x2), .val (.int x3), .val (.ref b103), .val (.ref b137), .val (.ref b163), .val (.int v473), .val (.int v474), .val (.int v475), .val (.int v476), .val (.int v477), .val (.int v478), .unset, .unset, .unset] [(.ref b481)])
  refine g_dup X482 hx rfl (hb hby at_146) 147 rfl ?_
  refine g_aload X482 hx rfl rfl (hb hby at_147) 149 rfl ?_
  refine g_iload X482 hx rfl (hb hby at_149) 151 rfl ?_
  refine g_aaload X482 hx hZ e483 F498 rfl (own_nn (own_w r_v473)) (own_pk_at (own_w r_v473)) (hb hby at_151) 152 rfl ?_
  show Go p_ e_ below _ T479 (mkF m_ 152 #[.val (.int x0), .val (.int x1), .val (.int x2), .val (.int x3), .val (.ref b103), .val (.ref b137), .val (.ref b163), .val (.int v473), .val (.int v474), .val (.int v475), .val (.int v476), .val (.int v477), .val (.int v478), .unset, .unset, .unset] [(pk b193 b256 b324 b397 v473), (.ref b481), (.ref b481)])
  refine g_aload X482 hx rfl rfl (hb hby at_152) 154 rfl ?_
  refine g_iload X482 hx rfl (hb hby at_154) 156 rfl ?_
  refine g_aaload X482 hx hZ e483 F498 rfl (own_nn (own_w r_v474)) (own_pk_at (own_w r_v474)) (hb hby at_156) 157 rfl ?_
  show Go p_ e_ below _ T479 (mkF m_ 157 #[.val (.int x0), .val (.int x1), .val (.int x2), .val (.int x3), .val (.ref b103), .val (.ref b137), .val (.ref b163), .val (.int v473), .val (.int v474), .val (.int v475), .val (.int v476), .val (.int v477), .val (.int v478), .unset, .unset, .unset] [(pk b193 b256 b324 b397 v474), (pk b193 b256 b324 b397 v473), (.ref b481), (.ref b481)])
  refine g_aload X482 hx rfl rfl (hb hby at_157) 159 rfl ?_
  refine g_iload X482 hx rfl (hb hby at_159) 161 rfl ?_
  refine g_aaload X482 hx hZ e483 F498 rfl (own_nn (own_w r_v475)) (own_pk_at (own_w r_v475)) (hb hby at_161) 162 rfl ?_
  show Go p_ e_ below _ T479 (mkF m_ 162 #[.val (.int x0), .val (.int x1), .val (.int x2), .val (.int x3), .val (.ref b103), .val (.ref b137), .val (.ref b163), .val (.int v473), .val (.int v474), .val (.int v475), .val (.int v476), .val (.int v477), .val (.int v478), .unset, .unset, .unset] [(pk b193 b256 b324 b397 v475), (pk b193 b256 b324 b397 v474), (pk b193 b256 b324 b397 v473), (.ref b481), (.ref b481)])
  refine g_aload X482 hx rfl rfl (hb hby at_162) 164 rfl ?_
  refine g_iload X482 hx rfl (hb hby at_164) 166 rfl ?_
  refine g_aaload X482 hx hZ e483 F498 rfl (own_nn (own_w r_v476)) (own_pk_at (own_w r_v476)) (hb hby at_166) 167 rfl ?_
  show Go p_ e_ below _ T479 (mkF m_ 167 #[.val (.int x0), .val (.int x1), .val (.int x2), .val (.int x3), .val (.ref b103), .val (.ref b137), .val (.ref b163), .val (.int v473), .val (.int v474), .val (.int v475), .val (.int v476), .val (.int v477), .val (.int v478), .unset, .unset, .unset] [(pk b193 b256 b324 b397 v476), (pk b193 b256 b324 b397 v475), (pk b193 b256 b324 b397 v474), (pk b193 b256 b324 b397 v473), (.ref b481), (.ref b481)])
  refine g_aload X482 hx rfl rfl (hb hby at_167) 169 rfl ?_
  refine g_iload X482 hx rfl (hb hby at_169) 171 rfl ?_
  refine g_aaload X482 hx hZ e483 F498 rfl (own_nn (own_w r_v477)) (own_pk_at (own_w r_v477)) (hb hby at_171) 172 rfl ?_
  show Go p_ e_ below _ T479 (mkF m_ 172 #[.val (.int x0), .val (.int x1), .val (.int x2), .val (.int x3), .val (.ref b103), .val (.ref b137), .val (.ref b163), .val (.int v473), .val (.int v474), .val (.int v475), .val (.int v476), .val (.int v477), .val (.int v478), .unset, .unset, .unset] [(pk b193 b256 b324 b397 v477), (pk b193 b256 b324 b397 v476), (pk b193 b256 b324 b397 v475), (pk b193 b256 b324 b397 v474), (pk b193 b256 b324 b397 v473), (.ref b481), (.ref b481)])
  refine g_init X482 hx hZ hown (wd hw 37 rfl) rfl (wd hw 38 rfl) (wd hw 36 rfl) (wd hw 39 rfl) (by decide) e483 [(pk b193 b256 b324 b397 v473), (pk b193 b256 b324 b397 v474), (pk b193 b256 b324 b397 v475), (pk b193 b256 b324 b397 v476), (pk b193 b256 b324 b397 v477)] [(.ref b481)] rfl (co7 l Z a0 hw b481 (pk b193 b256 b324 b397 v473) (pk b193 b256 b324 b397 v474) (pk b193 b256 b324 b397 v475) (pk b193 b256 b324 b397 v476) (pk b193 b256 b324 b397 v477) h480 h0.size szh505 (own_pk_ref _ _ _ _ _) (own_pk_ref _ _ _ _ _) (own_pk_ref _ _ _ _ _) (own_pk_ref _ _ _ _ _) (own_pk_ref _ _ _ _ _) sz504 A486 F506 F507 F508 F509 F510) (lenOf pd_5 rfl) 1 (Nat.le_of_eq rfl) (by decide) (by decide) (by decide) (by decide) (by rw [hml]; rfl) (hb hby at_172) 175 rfl (fun r511 T512 L513 X514 Q515 => ?_)
  obtain ⟨h516, e517⟩ : ∃ h, T512.heap = h := ⟨_, rfl⟩
  rw [e517] at Q515
  obtain ⟨rfl, n518, K519, E520, F521, F522, F523, F524, F525⟩ := Q515
  have N526 := Fr.app N471 n518
  have F527 := own_sta_keep F495 K519 (nsS A486.nostat ns0)
  have F528 := F496.keep K519 (ninS ne488 nin0)
  have F529 := F497.keep K519 (ninS ne489 nin0)
  have F530 := F498.keep K519 (ninS ne490 nin0)
  have F531 := F499.keep K519
  have F532 := F500.keep K519
  have F533 := F501.keep K519
  have F534 := F502.keep K519
  have F535 := F503.keep K519
  have F536 := A486.keep K519
  have szh537 : h0.size ≤ h516.size := Nat.le_trans szh505 K519.1
  show Go p_ e_ below _ T512 (mkF m_ 175 #[.val (.int x0), .val (.int x1), .val (.int x2), .val (.int x3), .val (.ref b103), .val (.ref b137), .val (.ref b163), .val (.int v473), .val (.int v474), .val (.int v475), .val (.int v476), .val (.int v477), .val (.int v478), .unset, .unset, .unset] [(.ref b481)])
  refine g_astore X514 hx #[.val (.int x0), .val (.int x1), .val (.int x2), .val (.int x3), .val (.ref b103), .val (.ref b137), .val (.ref b163), .val (.int v473), .val (.int v474), .val (.int v475), .val (.int v476), .val (.int v477), .val (.int v478), .val (.ref b481), .unset, .unset] rfl rfl (hb hby at_175) 177 rfl ?_
  refine g_iconst X514 hx (1 : Int32) rfl (hb hby at_177) 178 rfl ?_
  refine g_iload X514 hx rfl (hb hby at_178) 180 rfl ?_
  refine g_ishl X514 hx (hb hby at_180) 181 rfl ?_
  refine g_iconst X514 hx (1 : Int32) rfl (hb hby at_181) 182 rfl ?_
  refine g_iload X514 hx rfl (hb hby at_182) 184 rfl ?_
  refine g_ishl X514 hx (hb hby at_184) 185 rfl ?_
  refine g_ior X514 hx (hb hby at_185) 186 rfl ?_
  refine g_iconst X514 hx (1 : Int32) rfl (hb hby at_186) 187 rfl ?_
  refine g_iload X514 hx rfl (hb hby at_187) 189 rfl ?_
  refine g_ishl X514 hx (hb hby at_189) 190 rfl ?_
  refine g_ior X514 hx (hb hby at_190) 191 rfl ?_
  refine g_iconst X514 hx (1 : Int32) rfl (hb hby at_191) 192 rfl ?_
  refine g_iload X514 hx rfl (hb hby at_192) 194 rfl ?_
  refine g_ishl X514 hx (hb hby at_194) 195 rfl ?_
  refine g_ior X514 hx (hb hby at_195) 196 rfl ?_
  refine g_iconst X514 hx (1 : Int32) rfl (hb hby at_196) 197 rfl ?_
  refine g_iload X514 hx rfl (hb hby at_197) 199 rfl ?_
  refine g_ishl X514 hx (hb hby at_199) 200 rfl ?_
  refine g_ior X514 hx (hb hby at_200) 201 rfl ?_
  generalize hv538 : ((((((1 : Int32) <<< (v473 &&& 31)) ||| ((1 : Int32) <<< (v474 &&& 31))) ||| ((1 : Int32) <<< (v475 &&& 31))) ||| ((1 : Int32) <<< (v476 &&& 31))) ||| ((1 : Int32) <<< (v477 &&& 31))) = v538
  refine g_istore X514 hx #[.val (.int x0), .val (.int x1), .val (.int x2), .val (.int x3), .val (.ref b103), .val (.ref b137), .val (.ref b163), .val (.int v473), .val (.int v474), .val (.int v475), .val (.int v476), .val (.int v477), .val (.int v478), .val (.ref b481), .val (.int v538), .unset] rfl (hb hby at_201) 203 rfl ?_
  refine Go.joinT (α := Int32) X514 e517 (fun z => mkF m_ 218 #[.val (.int x0), .val (.int x1), .val (.int x2), .val (.int x3), .val (.ref b103), .val (.ref b137), .val (.ref b163), .val (.int v473), .val (.int v474), .val (.int v475), .val (.int v476), .val (.int v477), .val (.int v478), .val (.ref b481), .val (.int v538), .unset] [(.int z)]) (fun z => z = (if ((XT.ushr v538 v478) &&& (1 : Int32)) = (0 : Int32) then (0 : Int32) else (1 : Int32))) ?_ (fun J540 => ?_)
  · rintro T541 X542 e543 z539 hz539
    show Go p_ e_ below _ T541 (mkF m_ 218 #[.val (.int x0), .val (.int x1), .val (.int x2), .val (.int x3), .val (.ref b103), .val (.ref b137), .val (.ref b163), .val (.int v473), .val (.int v474), .val (.int v475), .val (.int v476), .val (.int v477), .val (.int v478), .val (.ref b481), .val (.int v538), .unset] [(.int z539)])
    refine g_istore X542 hx #[.val (.int x0), .val (.int x1), .val (.int x2), .val (.int x3), .val (.ref b103), .val (.ref b137), .val (.ref b163), .val (.int v473), .val (.int v474), .val (.int v475), .val (.int v476), .val (.int v477), .val (.int v478), .val (.ref b481), .val (.int v538), .val (.int z539)] rfl (hb hby at_218) 220 rfl ?_
    refine g_aload X542 hx rfl rfl (hb hby at_220) 222 rfl ?_
    refine g_aload X542 hx rfl rfl (hb hby at_222) 224 rfl ?_
    refine g_iload X542 hx rfl (hb hby at_224) 226 rfl ?_
    refine g_aaload X542 hx hZ e543 F530 rfl (own_nn r_v478) (own_pk_at r_v478) (hb hby at_226) 227 rfl ?_
    show Go p_ e_ below _ T541 (mkF m_ 227 #[.val (.int x0), .val (.int x1), .val (.int x2), .val (.int x3), .val (.ref b103), .val (.ref b137), .val (.ref b163), .val (.int v473), .val (.int v474), .val (.int v475), .val (.int v476), .val (.int v477), .val (.int v478), .val (.ref b481), .val (.int v538), .val (.int z539)] [(pk b193 b256 b324 b397 v478), (.ref b481)])
    refine g_callV X542 hx hZ hown (wd hw 51 rfl) (C := "com/example/noise_to_signal/noisetosignal/signal/HeldTexts") (wd hw 52 rfl) (wd hw 54 rfl) (wd hw 53 rfl) (wd hw 36 rfl) (wd hw 55 rfl) (by decide) e543 [(pk b193 b256 b324 b397 v478)] [] E520 rfl (co8 l Z a0 hw b481 (pk b193 b256 b324 b397 v478) (pk b193 b256 b324 b397 v473) (pk b193 b256 b324 b397 v474) (pk b193 b256 b324 b397 v475) (pk b193 b256 b324 b397 v476) (pk b193 b256 b324 b397 v477) h516 (own_pk_ref _ _ _ _ _) (own_pk_ref _ _ _ _ _) (own_pk_ref _ _ _ _ _) (own_pk_ref _ _ _ _ _) (own_pk_ref _ _ _ _ _) (own_pk_ref _ _ _ _ _) E520 F521 F522 F523 F524 F525) (lenOf pd_6 rfl) 0 (Nat.le_of_eq rfl) (by decide) (by decide) (by decide) (by decide) (by rw [hml]; rfl) (hb hby at_227) 230 rfl (pu_cont fun T547 X546 e548 => ?_)
    show Go p_ e_ below _ T547 (mkF m_ 230 #[.val (.int x0), .val (.int x1), .val (.int x2), .val (.int x3), .val (.ref b103), .val (.ref b137), .val (.ref b163), .val (.int v473), .val (.int v474), .val (.int v475), .val (.int v476), .val (.int v477), .val (.int v478), .val (.ref b481), .val (.int v538), .val (.int z539)] [(.int (hasv (pk b193 b256 b324 b397 v478) (pk b193 b256 b324 b397 v473) (pk b193 b256 b324 b397 v474) (pk b193 b256 b324 b397 v475) (pk b193 b256 b324 b397 v476) (pk b193 b256 b324 b397 v477)))])
    refine g_iload X546 hx rfl (hb hby at_230) 232 rfl ?_
    refine g_icmp_ne X546 hx (hb hby at_232) 239 235 (by decide) rfl rfl (fun q232 => ?_) (fun q232 => ?_)
    · exact absurd (own_fin ne266 ne334 ne407 ne335 ne408 ne409 r_v478 r_v473 r_v474 r_v475 r_v476 r_v477 hv538 hz539) q232
    · refine g_iconst X546 hx (1 : Int32) rfl (hb hby at_235) 236 rfl ?_
      refine g_goto X546 hx (hb hby at_236) 240 (by decide) rfl ?_
      exact g_retz X546 hx hret hlk (by decide) (by decide) (hb hby at_240) ⟨rfl, N526⟩
  · refine g_iload X514 hx rfl (hb hby at_203) 205 rfl ?_
    refine g_iload X514 hx rfl (hb hby at_205) 207 rfl ?_
    refine g_iushr X514 hx (hb hby at_207) 208 rfl ?_
    refine g_iconst X514 hx (1 : Int32) rfl (hb hby at_208) 209 rfl ?_
    refine g_iand X514 hx (hb hby at_209) 210 rfl ?_
    refine g_if_eq X514 hx (hb hby at_210) 217 213 (by decide) rfl rfl (fun q210 => ?_) (fun q210 => ?_)
    · refine g_iconst X514 hx (0 : Int32) rfl (hb hby at_217) 218 rfl ?_
      exact J540 T512 X514 e517 ((0 : Int32)) ((if_pos q210).trans rfl).symm
    · refine g_iconst X514 hx (1 : Int32) rfl (hb hby at_213) 214 rfl ?_
      refine g_goto X514 hx (hb hby at_214) 218 (by decide) rfl ?_
      exact J540 T512 X514 e517 ((1 : Int32)) ((if_neg q210).trans rfl).symm
set_option maxRecDepth 65536 in
set_option maxHeartbeats 40000000 in
theorem comes_1 {Post : Tables → Env → Array Value → State → Outcome → State → Prop} (hpost : ∀ tb e args s v u, (limb_1_1.after args s (.returned v) u = true ∧ limb_1_2.after args s (.returned v) u = true ∧ True) → FrameEnd s (.returned v) u (Jvm.fieldLocs frame_1_writes args s ++ Jvm.arrayLocs frame_1_arrays args s ++ Jvm.staticLocs frame_1_statics s) 32 192 → Post tb e args s (.returned v) u) :
    ArmFor flags0 classFile x code maxLocals ret World_1 tables_1 room_1 Calls_1 rest_1 Pre_1 Post := by
  intro l hfl _ _ p e ha hc hk s m args below hf hA hF happ hP
  obtain ⟨hcalls, hrest, hpre⟩ := hP
  obtain ⟨-, -, -, hnamed, -, -, -, hat⟩ := (Spec.applies_iff hf).mp happ
  obtain ⟨hg, hn⟩ := and_e (Cond.before_iff.mp (show (Jvm.Cond.and given_1 narrow_1).before args s = true from hpre))
  obtain ⟨h1, g0⟩ := and_e hg
  obtain ⟨w0, w1, w2, w3, rfl⟩ : ∃ w0 w1 w2 w3 : Value, args = #[w0, w1, w2, w3] := by
    have hs : args.size = 4 := by simpa [Cond.value, given_1] using h1
    obtain ⟨L⟩ := args
    match L, hs with
    | [w0, w1, w2, w3], _ => exact ⟨w0, w1, w2, w3, rfl⟩
  have hw := fun d (hd : d ∈ tables_1) => atoms_spec (ws := Jvm.Cond.code x code maxLocals ret :: tables_1) hat d (List.mem_cons_of_mem _ hd)
  have hfit : Fit s := fun {y c} hc i hi => by
    obtain ⟨ha, rfl⟩ := Array.getElem?_eq_some_iff.mp hc
    have q := List.all_eq_true.mp ((Array.all_eq_true_iff_forall_mem.mp hF) _ (Array.getElem_mem ha)) i (List.mem_range.mpr hi)
    simpa [Array.getElem?_eq_getElem hi] using q
  obtain ⟨hk_0, hg_1⟩ := and_e g0
  obtain ⟨x0, r0⟩ := is_v hk_0
  obtain rfl : w0 = (.int x0) := Option.some.inj r0
  obtain ⟨hk_1, hg_2⟩ := and_e hg_1
  obtain ⟨x1, r1⟩ := is_v hk_1
  obtain rfl : w1 = (.int x1) := Option.some.inj r1
  obtain ⟨hk_2, hg_3⟩ := and_e hg_2
  obtain ⟨x2, r2⟩ := is_v hk_2
  obtain rfl : w2 = (.int x2) := Option.some.inj r2
  obtain ⟨x3, r3⟩ := is_v hg_3
  obtain rfl : w3 = (.int x3) := Option.some.inj r3
  have hr0 := hrest
  rw [show rest_1 = Jvm.D.preC rest_1_c from rfl] at hr0
  have hr1 : rest_1_c.before _ s = true := hr0
  rw [rest_1_c_eq] at hr1
  obtain ⟨hsets, -⟩ := atoms_of jdkStatics_1 hr1
  have k0 := hsets _ (List.mem_of_getElem? (i := 0) rfl)
  obtain ⟨cs, evc⟩ := is_v (Cond.before_iff.mp (hsets _ (List.mem_of_getElem? (i := 1) rfl)))
  have S_cs := Sta.start evc (Or.inl k0)
  have hcs : ¬ cs = (0 : Int32) := fun q => by
    have u := not_v (Cond.before_iff.mp (hsets _ (List.mem_of_getElem? (i := 2) rfl)))
    subst q
    exact absurd (u.symm.trans (eq_i evc (Term.int_eval 0) rfl)) (by decide)
  obtain ⟨n, o, h1, h2, h3, _, L, rfl, ⟨rfl, N⟩, hq⟩ := rm0 l s _ hw tables_1 x0 x1 x2 x3 s.heap cs S_cs hcs p e ha hc hk s m _ below hf ((Spec.applies_iff_loose hf).mp happ).1 ⟨rfl, State.Warmed39.refl s, rfl⟩ trivial
  refine ⟨n, _, h1, h2, h3, hpost _ _ _ _ _ _ ⟨Cond.after_iff.mpr rfl, Cond.after_iff.mpr (eq_i res_at (Term.int_eval (1)) rfl), trivial⟩ ⟨hq.1, hq.2.1, (hq.2.2.sift fun y hy => Or.inr (N y hy)).mono (by decide) (by decide)⟩⟩
theorem main_1_1 : Claimed_1_1 := comes_1 fun _ _ _ _ _ _ h hF => ⟨h.1, hF⟩
theorem main_1_2 : Claimed_1_2 := comes_1 fun _ _ _ _ _ _ h hF => ⟨h.2.1, hF⟩
end Jvm.Pilot.@@N@@
namespace Jvm.Pilot.@@N@@
open Jvm Jvm.ClassFile Sem Op Lib Jvm.Free Jvm.Stand Jvm.Pilot.@@N@@.Jvm.D
/-! MADE BY PROGRAM (witnessworld.py) out of the Statement's table words and the real class files: 21 classes; the members and pool entries that the words name. The judged class is class 1, her method 1. -/
namespace start1
open Jvm.ClassFile
def u (s : String) : CpInfo := .utf8 (stringToUtf16 s)
/-- a pool by its gaps: so many unusable entries, then the entry; so many at the end -/
def gap : Nat → List CpInfo → List CpInfo
  | 0, r => r
  | n + 1, r => .unusable :: gap n r
def poolList (es : List (Nat × CpInfo)) (last : Nat) : List CpInfo := es.foldr (fun e r => gap e.1 (e.2 :: r)) (gap last [])
def pool (es : List (Nat × CpInfo)) (last : Nat) : Array CpInfo := ⟨poolList es last⟩
def fileOf (pool : Array CpInfo) (this : Nat) (attrs : Array Attribute := #[]) (ms : Array MethodInfo := #[]) (fl : Nat := 33) (sup : Nat := 0) (ifs : Array Nat := #[]) (fds : Array FieldInfo := #[]) : ClassFile where
  minorVersion := 0
  majorVersion := 65
  constantPool := pool
  accessFlags := fl
  thisClass := this
  superClass := sup
  interfaces := ifs
  fields := fds
  methods := ms
  attributes := attrs
def plain (name : String) (sup : Option ClassId) : Class where
  name := name
  kind := .ordinary
  loader := none
  accessFlags := 33
  super := sup
  interfaces := #[]
  cf := none
  fields := #[]
  methods := #[]
  instanceTypes := #[]
  staticTypes := #[]
  resolved := #[]
  callSites := []
  init := .initialized
  statics := none
  mirror := none

def pool0 : Array CpInfo := pool [(5, u "<init>"), (0, u "()V"), (1, .class_ 10), (1, u "java/lang/Object")] 113

def k0c0 : Code := { maxStack := 0, maxLocals := 1, code := object_method_1_code, exceptionTable := #[], attributes := #[] }
def k0m0 : Method := { name := "<init>", desc := "()V", sig := { parameters := [], returnType := none }, accessFlags := 1, code := some k0c0 }
/-- java/lang/Object -/
def k0 : Class := { plain "java/lang/Object" none with
  accessFlags := 33
  interfaces := #[]
  cf := some (fileOf pool0 8 #[] #[{ accessFlags := 1, nameIndex := 5, descriptorIndex := 6, attributes := #[] }] 33 0 #[] #[])
  fields := #[]
  methods := #[k0m0]
  instanceTypes := #[]
  staticTypes := #[]
  resolved := Array.replicate 124 none
  statics := none }

def pool1 : Array CpInfo := pool [(2, .class_ 4), (1, u "java/lang/Object"), (0, u "<init>"), (0, u "()V"), (0, .class_ 8), (0, u "java/lang/String"), (0, .methodref 7 10), (0, .nameAndType 5 11), (0, u "([C)V"), (0, .integer 2147483647), (0, .class_ 14), (0, u "com/example/noise_to_signal/noisetosignal/signal/HeldTexts"), (0, .methodref 13 16), (0, .nameAndType 5 17), (0, u "(Ljava/lang/Object;Ljava/lang/Object;Ljava/lang/Object;Ljava/lang/Object;Ljava/lang/Object;)V"), (0, .methodref 13 19), (0, .nameAndType 20 21), (0, u "has"), (0, u "(Ljava/lang/Object;)Z"), (0, .class_ 23), (0, u "com/example/noise_to_signal/noisetosignal/signal/HeldTextsHasPinLaw"), (2, u "law"), (0, u "(IIII)Z")] 7

def k1m0 : Method := { name := "<init>", desc := "()V", sig := { parameters := [], returnType := none }, accessFlags := 1, code := none }
def k1c1 : Code := { maxStack := 8, maxLocals := 16, code := code, exceptionTable := #[], attributes := #[] }
def k1m1 : Method := { name := "law", desc := "(IIII)Z", sig := { parameters := [.int, .int, .int, .int], returnType := some .boolean }, accessFlags := 9, code := some k1c1 }
/-- com/example/noise_to_signal/noisetosignal/signal/HeldTextsHasPinLaw -/
def k1 : Class := { plain "com/example/noise_to_signal/noisetosignal/signal/HeldTextsHasPinLaw" (some 0) with
  accessFlags := 49
  interfaces := #[]
  cf := some (fileOf pool1 22 #[] #[{ accessFlags := 1, nameIndex := 5, descriptorIndex := 6, attributes := #[] }, { accessFlags := 9, nameIndex := 26, descriptorIndex := 27, attributes := #[] }] 49 2 #[] #[])
  fields := #[]
  methods := #[k1m0, k1m1]
  instanceTypes := #[]
  staticTypes := #[]
  resolved := Array.replicate 35 none
  statics := none }

def pool2 : Array CpInfo := pool [(1, .class_ 2), (0, u "java/io/Serializable"), (0, .class_ 4), (0, u "java/lang/Object")] 2

/-- java/io/Serializable -/
def k2 : Class := { plain "java/io/Serializable" (some 0) with
  accessFlags := 1537
  interfaces := #[]
  cf := some (fileOf pool2 1 #[] #[] 1537 3 #[] #[])
  fields := #[]
  methods := #[]
  instanceTypes := #[]
  staticTypes := #[]
  resolved := Array.replicate 7 none
  statics := none }

def pool3 : Array CpInfo := pool [(1, .class_ 2), (0, u "java/lang/Comparable"), (0, .class_ 4), (0, u "java/lang/Object")] 7

/-- java/lang/Comparable -/
def k3 : Class := { plain "java/lang/Comparable" (some 0) with
  accessFlags := 1537
  interfaces := #[]
  cf := some (fileOf pool3 1 #[] #[] 1537 3 #[] #[])
  fields := #[]
  methods := #[]
  instanceTypes := #[]
  staticTypes := #[]
  resolved := Array.replicate 12 none
  statics := none }

def pool4 : Array CpInfo := pool [(2, .class_ 4), (1, u "java/lang/CharSequence"), (42, .class_ 48), (0, u "java/lang/CharSequence$1CodePointIterator"), (10, .class_ 60), (0, u "java/lang/CharSequence$1CharIterator"), (5, .class_ 67), (0, u "java/lang/Object")] 63

/-- java/lang/CharSequence -/
def k4 : Class := { plain "java/lang/CharSequence" (some 0) with
  accessFlags := 1537
  interfaces := #[]
  cf := some (fileOf pool4 2 #[.nestMembers #[47, 59]] #[] 1537 66 #[] #[])
  fields := #[]
  methods := #[]
  instanceTypes := #[]
  staticTypes := #[]
  resolved := Array.replicate 131 none
  statics := none }

def pool5 : Array CpInfo := pool [(1, .class_ 2), (0, u "java/lang/constant/Constable"), (0, .class_ 4), (0, u "java/lang/Object")] 6

/-- java/lang/constant/Constable -/
def k5 : Class := { plain "java/lang/constant/Constable" (some 0) with
  accessFlags := 1537
  interfaces := #[]
  cf := some (fileOf pool5 1 #[] #[] 1537 3 #[] #[])
  fields := #[]
  methods := #[]
  instanceTypes := #[]
  staticTypes := #[]
  resolved := Array.replicate 11 none
  statics := none }

def pool6 : Array CpInfo := pool [(1, .class_ 2), (0, u "java/lang/constant/ConstantDesc"), (0, .class_ 4), (0, u "java/lang/Object")] 32

/-- java/lang/constant/ConstantDesc -/
def k6 : Class := { plain "java/lang/constant/ConstantDesc" (some 0) with
  accessFlags := 1537
  interfaces := #[]
  cf := some (fileOf pool6 1 #[] #[] 1537 3 #[] #[])
  fields := #[]
  methods := #[]
  instanceTypes := #[]
  staticTypes := #[]
  resolved := Array.replicate 37 none
  statics := none }

def pool7 : Array CpInfo := pool [(1, .methodref 2 3), (0, .class_ 4), (0, .nameAndType 5 6), (0, u "java/lang/Object"), (0, u "<init>"), (0, u "()V"), (2, .fieldref 10 11), (0, .class_ 12), (0, .nameAndType 13 14), (0, u "java/lang/String"), (0, u "value"), (0, u "[B"), (0, .fieldref 10 16), (0, .nameAndType 17 18), (0, u "coder"), (0, u "B"), (2, u "hash"), (0, u "I"), (2, u "hashIsZero"), (0, u "Z"), (0, .methodref 10 28), (0, .nameAndType 5 29), (0, u "([CIILjava/lang/Void;)V"), (8, .fieldref 10 39), (0, .nameAndType 40 26), (0, u "COMPACT_STRINGS"), (1, .class_ 44), (1, u "java/lang/StringUTF16"), (0, u "compress"), (1, .methodref 42 48), (0, .nameAndType 49 50), (0, u "coderFromArrayLen"), (0, u "([BI)B"), (126, .methodref 42 178), (0, .nameAndType 45 179), (0, u "([CII)[B"), (395, .class_ 576), (0, u "java/lang/CharSequence"), (22, u "CASE_INSENSITIVE_ORDER"), (0, u "Ljava/util/Comparator;"), (409, u "([C)V"), (90, u "serialPersistentFields"), (0, u "[Ljava/io/ObjectStreamField;"), (0, .class_ 1104), (0, u "java/lang/String$CaseInsensitiveComparator"), (1, .class_ 1107), (0, u "java/io/Serializable"), (0, .class_ 1109), (0, u "java/lang/Comparable"), (0, .class_ 1111), (0, u "java/lang/constant/Constable"), (0, .class_ 1113), (0, u "java/lang/constant/ConstantDesc"), (2, u "serialVersionUID"), (0, u "J"), (3, u "REPL"), (0, u "C"), (2, u "LATIN1"), (1, u "UTF16")] 323

def k7m0 : Method := { name := "<init>", desc := "()V", sig := { parameters := [], returnType := none }, accessFlags := 1, code := none }
def k7c1 : Code := { maxStack := 5, maxLocals := 2, code := jdk_42_method_3_code, exceptionTable := #[], attributes := #[] }
def k7m1 : Method := { name := "<init>", desc := "([C)V", sig := { parameters := [(.array .char)], returnType := none }, accessFlags := 1, code := some k7c1 }
def k7c2 : Code := { maxStack := 4, maxLocals := 6, code := jdk_42_method_149_code, exceptionTable := #[], attributes := #[] }
def k7m2 : Method := { name := "<init>", desc := "([CIILjava/lang/Void;)V", sig := { parameters := [(.array .char), .int, .int, (.object "java/lang/Void")], returnType := none }, accessFlags := 2, code := some k7c2 }
/-- java/lang/String -/
def k7 : Class := { plain "java/lang/String" (some 0) with
  accessFlags := 49
  interfaces := #[2, 3, 4, 5, 6]
  cf := some (fileOf pool7 10 #[.nestMembers #[1103]] #[{ accessFlags := 1, nameIndex := 5, descriptorIndex := 6, attributes := #[] }, { accessFlags := 1, nameIndex := 5, descriptorIndex := 1010, attributes := #[] }, { accessFlags := 2, nameIndex := 5, descriptorIndex := 29, attributes := #[] }] 49 2 #[1106, 1108, 575, 1110, 1112] #[{ accessFlags := 18, nameIndex := 13, descriptorIndex := 14, attributes := #[] }, { accessFlags := 18, nameIndex := 17, descriptorIndex := 18, attributes := #[] }, { accessFlags := 2, nameIndex := 21, descriptorIndex := 22, attributes := #[] }, { accessFlags := 2, nameIndex := 25, descriptorIndex := 26, attributes := #[] }, { accessFlags := 26, nameIndex := 1116, descriptorIndex := 1117, attributes := #[] }, { accessFlags := 24, nameIndex := 40, descriptorIndex := 26, attributes := #[] }, { accessFlags := 26, nameIndex := 1101, descriptorIndex := 1102, attributes := #[] }, { accessFlags := 26, nameIndex := 1121, descriptorIndex := 1122, attributes := #[] }, { accessFlags := 25, nameIndex := 599, descriptorIndex := 600, attributes := #[] }, { accessFlags := 24, nameIndex := 1125, descriptorIndex := 18, attributes := #[] }, { accessFlags := 24, nameIndex := 1127, descriptorIndex := 18, attributes := #[] }])
  fields := #[{ name := "value", type := (.array .byte), accessFlags := 18, slot := 0, constantValue := 0 }, { name := "coder", type := .byte, accessFlags := 18, slot := 1, constantValue := 0 }, { name := "hash", type := .int, accessFlags := 2, slot := 2, constantValue := 0 }, { name := "hashIsZero", type := .boolean, accessFlags := 2, slot := 3, constantValue := 0 }, { name := "serialVersionUID", type := .long, accessFlags := 26, slot := 0, constantValue := 0 }, { name := "COMPACT_STRINGS", type := .boolean, accessFlags := 24, slot := 1, constantValue := 0 }, { name := "serialPersistentFields", type := (.array (.object "java/io/ObjectStreamField")), accessFlags := 26, slot := 2, constantValue := 0 }, { name := "REPL", type := .char, accessFlags := 26, slot := 3, constantValue := 0 }, { name := "CASE_INSENSITIVE_ORDER", type := (.object "java/util/Comparator"), accessFlags := 25, slot := 4, constantValue := 0 }, { name := "LATIN1", type := .byte, accessFlags := 24, slot := 5, constantValue := 0 }, { name := "UTF16", type := .byte, accessFlags := 24, slot := 6, constantValue := 0 }]
  methods := #[k7m0, k7m1, k7m2]
  instanceTypes := #[(.array .byte), .byte, .int, .boolean]
  staticTypes := #[.long, .boolean, (.array (.object "java/io/ObjectStreamField")), .char, (.object "java/util/Comparator"), .byte, .byte]
  resolved := Array.replicate 1451 none
  statics := some 0 }

def pool8 : Array CpInfo := pool [(6, .class_ 8), (1, u "java/lang/Object"), (0, u "<init>"), (0, u "()V"), (1, .class_ 14), (1, u "java/lang/StringUTF16"), (31, u "$assertionsDisabled"), (0, u "Z"), (13, u "HI_BYTE_SHIFT"), (0, u "I"), (2, u "LO_BYTE_SHIFT"), (49, .methodref 12 116), (0, .nameAndType 117 118), (0, u "compress"), (0, u "([CI[BII)I"), (3, u "([CII)[B"), (138, u "coderFromArrayLen"), (0, u "([BI)B"), (106, .class_ 371), (1, u "java/lang/StringUTF16$LinesSpliterator"), (58, u "MAX_LENGTH"), (196, .class_ 628), (0, u "java/lang/StringUTF16$CodePointsSpliterator"), (0, .class_ 630), (0, u "java/lang/StringUTF16$CharsSpliterator")] 4

def k8m0 : Method := { name := "<init>", desc := "()V", sig := { parameters := [], returnType := none }, accessFlags := 0, code := none }
def k8c1 : Code := { maxStack := 2, maxLocals := 2, code := jdk_52_method_15_code, exceptionTable := #[], attributes := #[] }
def k8m1 : Method := { name := "coderFromArrayLen", desc := "([BI)B", sig := { parameters := [(.array .byte), .int], returnType := some .byte }, accessFlags := 8, code := some k8c1 }
def k8c2 : Code := { maxStack := 5, maxLocals := 6, code := jdk_52_method_16_code, exceptionTable := #[], attributes := #[] }
def k8m2 : Method := { name := "compress", desc := "([CII)[B", sig := { parameters := [(.array .char), .int, .int], returnType := some (.array .byte) }, accessFlags := 9, code := some k8c2 }
def k8c3 : Code := { maxStack := 3, maxLocals := 7, code := jdk_52_method_21_code, exceptionTable := #[], attributes := #[] }
def k8m3 : Method := { name := "compress", desc := "([CI[BII)I", sig := { parameters := [(.array .char), .int, (.array .byte), .int, .int], returnType := some .int }, accessFlags := 9, code := some k8c3 }
/-- java/lang/StringUTF16 -/
def k8 : Class := { plain "java/lang/StringUTF16" (some 0) with
  accessFlags := 48
  interfaces := #[]
  cf := some (fileOf pool8 12 #[.nestMembers #[627, 629, 369]] #[{ accessFlags := 0, nameIndex := 9, descriptorIndex := 10, attributes := #[] }, { accessFlags := 8, nameIndex := 261, descriptorIndex := 262, attributes := #[] }, { accessFlags := 9, nameIndex := 117, descriptorIndex := 122, attributes := #[] }, { accessFlags := 9, nameIndex := 117, descriptorIndex := 118, attributes := #[] }] 48 6 #[] #[{ accessFlags := 26, nameIndex := 61, descriptorIndex := 62, attributes := #[] }, { accessFlags := 26, nameIndex := 65, descriptorIndex := 62, attributes := #[] }, { accessFlags := 24, nameIndex := 430, descriptorIndex := 62, attributes := #[] }, { accessFlags := 4120, nameIndex := 46, descriptorIndex := 47, attributes := #[] }])
  fields := #[{ name := "HI_BYTE_SHIFT", type := .int, accessFlags := 26, slot := 0, constantValue := 0 }, { name := "LO_BYTE_SHIFT", type := .int, accessFlags := 26, slot := 1, constantValue := 0 }, { name := "MAX_LENGTH", type := .int, accessFlags := 24, slot := 2, constantValue := 0 }, { name := "$assertionsDisabled", type := .boolean, accessFlags := 4120, slot := 3, constantValue := 0 }]
  methods := #[k8m0, k8m1, k8m2, k8m3]
  instanceTypes := #[]
  staticTypes := #[.int, .int, .int, .boolean]
  resolved := Array.replicate 635 none
  statics := none }

def pool9 : Array CpInfo := pool [(5, u "type"), (9, u "actor"), (2, u "client"), (2, u "srcIp"), (2, u "target"), (1, .class_ 28), (1, u "com/example/noise_to_signal/noisetosignal/signal/HeldTexts"), (0, u "<init>"), (0, u "(Ljava/lang/Object;Ljava/lang/Object;Ljava/lang/Object;Ljava/lang/Object;Ljava/lang/Object;)V"), (0, .methodref 32 33), (0, .class_ 34), (0, .nameAndType 29 35), (0, u "java/lang/Object"), (0, u "()V"), (0, .fieldref 26 37), (0, .nameAndType 5 38), (0, u "Ljava/lang/Object;"), (0, .fieldref 26 40), (0, .nameAndType 15 38), (0, .fieldref 26 42), (0, .nameAndType 18 38), (0, .fieldref 26 44), (0, .nameAndType 21 38), (0, .fieldref 26 46), (0, .nameAndType 24 38), (6, u "keyHolders"), (0, u "I"), (19, u "OBJECT_BYTES"), (12, u "has"), (0, u "(Ljava/lang/Object;)Z")] 6

def k9c0 : Code := { maxStack := 2, maxLocals := 6, code := prog_73_method_2_code, exceptionTable := #[], attributes := #[] }
def k9m0 : Method := { name := "<init>", desc := "(Ljava/lang/Object;Ljava/lang/Object;Ljava/lang/Object;Ljava/lang/Object;Ljava/lang/Object;)V", sig := { parameters := [(.object "java/lang/Object"), (.object "java/lang/Object"), (.object "java/lang/Object"), (.object "java/lang/Object"), (.object "java/lang/Object")], returnType := none }, accessFlags := 0, code := some k9c0 }
def k9c1 : Code := { maxStack := 2, maxLocals := 2, code := prog_73_method_11_code, exceptionTable := #[], attributes := #[] }
def k9m1 : Method := { name := "has", desc := "(Ljava/lang/Object;)Z", sig := { parameters := [(.object "java/lang/Object")], returnType := some .boolean }, accessFlags := 0, code := some k9c1 }
/-- com/example/noise_to_signal/noisetosignal/signal/HeldTexts -/
def k9 : Class := { plain "com/example/noise_to_signal/noisetosignal/signal/HeldTexts" (some 0) with
  accessFlags := 48
  interfaces := #[]
  cf := some (fileOf pool9 26 #[] #[{ accessFlags := 0, nameIndex := 29, descriptorIndex := 30, attributes := #[] }, { accessFlags := 0, nameIndex := 87, descriptorIndex := 88, attributes := #[] }] 48 32 #[] #[{ accessFlags := 24, nameIndex := 74, descriptorIndex := 54, attributes := #[] }, { accessFlags := 18, nameIndex := 5, descriptorIndex := 38, attributes := #[] }, { accessFlags := 18, nameIndex := 15, descriptorIndex := 38, attributes := #[] }, { accessFlags := 18, nameIndex := 18, descriptorIndex := 38, attributes := #[] }, { accessFlags := 18, nameIndex := 21, descriptorIndex := 38, attributes := #[] }, { accessFlags := 18, nameIndex := 24, descriptorIndex := 38, attributes := #[] }, { accessFlags := 2, nameIndex := 53, descriptorIndex := 54, attributes := #[] }])
  fields := #[{ name := "OBJECT_BYTES", type := .int, accessFlags := 24, slot := 0, constantValue := 0 }, { name := "type", type := (.object "java/lang/Object"), accessFlags := 18, slot := 0, constantValue := 0 }, { name := "actor", type := (.object "java/lang/Object"), accessFlags := 18, slot := 1, constantValue := 0 }, { name := "client", type := (.object "java/lang/Object"), accessFlags := 18, slot := 2, constantValue := 0 }, { name := "srcIp", type := (.object "java/lang/Object"), accessFlags := 18, slot := 3, constantValue := 0 }, { name := "target", type := (.object "java/lang/Object"), accessFlags := 18, slot := 4, constantValue := 0 }, { name := "keyHolders", type := .int, accessFlags := 2, slot := 5, constantValue := 0 }]
  methods := #[k9m0, k9m1]
  instanceTypes := #[(.object "java/lang/Object"), (.object "java/lang/Object"), (.object "java/lang/Object"), (.object "java/lang/Object"), (.object "java/lang/Object"), .int]
  staticTypes := #[.int]
  resolved := Array.replicate 95 none
  statics := none }

def pool10 : Array CpInfo := pool [(4, .class_ 6), (1, u "java/lang/Object"), (0, u "<init>"), (0, u "()V"), (5, .class_ 16), (1, u "java/lang/StringLatin1"), (104, u "$assertionsDisabled"), (0, u "Z"), (98, .class_ 223), (1, u "java/lang/StringLatin1$LinesSpliterator"), (166, .class_ 391), (0, u "java/lang/StringLatin1$CharsSpliterator")] 3

def k10m0 : Method := { name := "<init>", desc := "()V", sig := { parameters := [], returnType := none }, accessFlags := 0, code := none }
/-- java/lang/StringLatin1 -/
def k10 : Class := { plain "java/lang/StringLatin1" (some 0) with
  accessFlags := 48
  interfaces := #[]
  cf := some (fileOf pool10 14 #[.nestMembers #[390, 221]] #[{ accessFlags := 0, nameIndex := 7, descriptorIndex := 8, attributes := #[] }] 48 4 #[] #[{ accessFlags := 4120, nameIndex := 121, descriptorIndex := 122, attributes := #[] }])
  fields := #[{ name := "$assertionsDisabled", type := .boolean, accessFlags := 4120, slot := 0, constantValue := 0 }]
  methods := #[k10m0]
  instanceTypes := #[]
  staticTypes := #[.boolean]
  resolved := Array.replicate 395 none
  statics := none }

def pool11 : Array CpInfo := pool [(2, .class_ 4), (1, u "java/lang/Object"), (0, u "<init>"), (0, u "()V"), (17, .class_ 26), (1, u "jdk/internal/util/Preconditions"), (28, .class_ 56), (0, u "jdk/internal/util/Preconditions$4"), (57, .class_ 115), (0, u "jdk/internal/util/Preconditions$1"), (7, u "SIOOBE_FORMATTER"), (0, u "Ljava/util/function/BiFunction;"), (0, .class_ 126), (0, u "jdk/internal/util/Preconditions$2"), (3, u "AIOOBE_FORMATTER"), (0, .class_ 132), (0, u "jdk/internal/util/Preconditions$3"), (3, u "IOOBE_FORMATTER")] 57

def k11m0 : Method := { name := "<init>", desc := "()V", sig := { parameters := [], returnType := none }, accessFlags := 1, code := none }
/-- jdk/internal/util/Preconditions -/
def k11 : Class := { plain "jdk/internal/util/Preconditions" (some 0) with
  accessFlags := 33
  interfaces := #[]
  cf := some (fileOf pool11 24 #[.nestMembers #[55, 131, 125, 114]] #[{ accessFlags := 1, nameIndex := 5, descriptorIndex := 6, attributes := #[] }] 33 2 #[] #[{ accessFlags := 25, nameIndex := 123, descriptorIndex := 124, attributes := #[] }, { accessFlags := 25, nameIndex := 130, descriptorIndex := 124, attributes := #[] }, { accessFlags := 25, nameIndex := 136, descriptorIndex := 124, attributes := #[] }])
  fields := #[{ name := "SIOOBE_FORMATTER", type := (.object "java/util/function/BiFunction"), accessFlags := 25, slot := 0, constantValue := 0 }, { name := "AIOOBE_FORMATTER", type := (.object "java/util/function/BiFunction"), accessFlags := 25, slot := 1, constantValue := 0 }, { name := "IOOBE_FORMATTER", type := (.object "java/util/function/BiFunction"), accessFlags := 25, slot := 2, constantValue := 0 }]
  methods := #[k11m0]
  instanceTypes := #[]
  staticTypes := #[(.object "java/util/function/BiFunction"), (.object "java/util/function/BiFunction"), (.object "java/util/function/BiFunction")]
  resolved := Array.replicate 194 none
  statics := some 1 }

def pool12 : Array CpInfo := pool [(9, u "<init>"), (6, .class_ 18), (1, u "java/lang/Object"), (0, u "()V"), (1, .class_ 23), (1, u "jdk/internal/util/ArraysSupport"), (0, u "LOG2_ARRAY_LONG_INDEX_SCALE"), (0, u "I"), (2, u "U"), (0, u "Ljdk/internal/misc/Unsafe;"), (8, u "BIG_ENDIAN"), (0, u "Z"), (8, u "LOG2_BYTE_BIT_SIZE"), (4, u "LOG2_ARRAY_INT_INDEX_SCALE"), (54, u "JLA"), (0, u "Ljdk/internal/access/JavaLangAccess;"), (11, u "LOG2_ARRAY_BOOLEAN_INDEX_SCALE"), (9, u "LOG2_ARRAY_BYTE_INDEX_SCALE"), (5, u "LOG2_ARRAY_CHAR_INDEX_SCALE"), (5, u "LOG2_ARRAY_SHORT_INDEX_SCALE"), (18, u "LOG2_ARRAY_FLOAT_INDEX_SCALE"), (24, u "LOG2_ARRAY_DOUBLE_INDEX_SCALE"), (89, u "T_BOOLEAN"), (2, u "T_CHAR"), (1, u "T_FLOAT"), (1, u "T_DOUBLE"), (1, u "T_BYTE"), (1, u "T_SHORT"), (1, u "T_INT"), (1, u "T_LONG"), (1, u "SOFT_MAX_ARRAY_LENGTH")] 83

def k12m0 : Method := { name := "<init>", desc := "()V", sig := { parameters := [], returnType := none }, accessFlags := 2, code := none }
/-- jdk/internal/util/ArraysSupport -/
def k12 : Class := { plain "jdk/internal/util/ArraysSupport" (some 0) with
  accessFlags := 33
  interfaces := #[]
  cf := some (fileOf pool12 21 #[] #[{ accessFlags := 2, nameIndex := 9, descriptorIndex := 19, attributes := #[] }] 33 16 #[] #[{ accessFlags := 24, nameIndex := 28, descriptorIndex := 29, attributes := #[] }, { accessFlags := 26, nameIndex := 38, descriptorIndex := 39, attributes := #[] }, { accessFlags := 25, nameIndex := 121, descriptorIndex := 25, attributes := #[] }, { accessFlags := 25, nameIndex := 131, descriptorIndex := 25, attributes := #[] }, { accessFlags := 25, nameIndex := 137, descriptorIndex := 25, attributes := #[] }, { accessFlags := 25, nameIndex := 143, descriptorIndex := 25, attributes := #[] }, { accessFlags := 25, nameIndex := 53, descriptorIndex := 25, attributes := #[] }, { accessFlags := 25, nameIndex := 24, descriptorIndex := 25, attributes := #[] }, { accessFlags := 25, nameIndex := 162, descriptorIndex := 25, attributes := #[] }, { accessFlags := 25, nameIndex := 187, descriptorIndex := 25, attributes := #[] }, { accessFlags := 26, nameIndex := 48, descriptorIndex := 25, attributes := #[] }, { accessFlags := 25, nameIndex := 277, descriptorIndex := 25, attributes := #[] }, { accessFlags := 25, nameIndex := 280, descriptorIndex := 25, attributes := #[] }, { accessFlags := 25, nameIndex := 282, descriptorIndex := 25, attributes := #[] }, { accessFlags := 25, nameIndex := 284, descriptorIndex := 25, attributes := #[] }, { accessFlags := 25, nameIndex := 286, descriptorIndex := 25, attributes := #[] }, { accessFlags := 25, nameIndex := 288, descriptorIndex := 25, attributes := #[] }, { accessFlags := 25, nameIndex := 290, descriptorIndex := 25, attributes := #[] }, { accessFlags := 25, nameIndex := 292, descriptorIndex := 25, attributes := #[] }, { accessFlags := 26, nameIndex := 108, descriptorIndex := 109, attributes := #[] }, { accessFlags := 25, nameIndex := 294, descriptorIndex := 25, attributes := #[] }])
  fields := #[{ name := "U", type := (.object "jdk/internal/misc/Unsafe"), accessFlags := 24, slot := 0, constantValue := 0 }, { name := "BIG_ENDIAN", type := .boolean, accessFlags := 26, slot := 1, constantValue := 0 }, { name := "LOG2_ARRAY_BOOLEAN_INDEX_SCALE", type := .int, accessFlags := 25, slot := 2, constantValue := 0 }, { name := "LOG2_ARRAY_BYTE_INDEX_SCALE", type := .int, accessFlags := 25, slot := 3, constantValue := 0 }, { name := "LOG2_ARRAY_CHAR_INDEX_SCALE", type := .int, accessFlags := 25, slot := 4, constantValue := 0 }, { name := "LOG2_ARRAY_SHORT_INDEX_SCALE", type := .int, accessFlags := 25, slot := 5, constantValue := 0 }, { name := "LOG2_ARRAY_INT_INDEX_SCALE", type := .int, accessFlags := 25, slot := 6, constantValue := 0 }, { name := "LOG2_ARRAY_LONG_INDEX_SCALE", type := .int, accessFlags := 25, slot := 7, constantValue := 0 }, { name := "LOG2_ARRAY_FLOAT_INDEX_SCALE", type := .int, accessFlags := 25, slot := 8, constantValue := 0 }, { name := "LOG2_ARRAY_DOUBLE_INDEX_SCALE", type := .int, accessFlags := 25, slot := 9, constantValue := 0 }, { name := "LOG2_BYTE_BIT_SIZE", type := .int, accessFlags := 26, slot := 10, constantValue := 0 }, { name := "T_BOOLEAN", type := .int, accessFlags := 25, slot := 11, constantValue := 0 }, { name := "T_CHAR", type := .int, accessFlags := 25, slot := 12, constantValue := 0 }, { name := "T_FLOAT", type := .int, accessFlags := 25, slot := 13, constantValue := 0 }, { name := "T_DOUBLE", type := .int, accessFlags := 25, slot := 14, constantValue := 0 }, { name := "T_BYTE", type := .int, accessFlags := 25, slot := 15, constantValue := 0 }, { name := "T_SHORT", type := .int, accessFlags := 25, slot := 16, constantValue := 0 }, { name := "T_INT", type := .int, accessFlags := 25, slot := 17, constantValue := 0 }, { name := "T_LONG", type := .int, accessFlags := 25, slot := 18, constantValue := 0 }, { name := "JLA", type := (.object "jdk/internal/access/JavaLangAccess"), accessFlags := 26, slot := 19, constantValue := 0 }, { name := "SOFT_MAX_ARRAY_LENGTH", type := .int, accessFlags := 25, slot := 20, constantValue := 0 }]
  methods := #[k12m0]
  instanceTypes := #[]
  staticTypes := #[(.object "jdk/internal/misc/Unsafe"), .boolean, .int, .int, .int, .int, .int, .int, .int, .int, .int, .int, .int, .int, .int, .int, .int, .int, .int, (.object "jdk/internal/access/JavaLangAccess"), .int]
  resolved := Array.replicate 378 none
  statics := none }

def pool13 : Array CpInfo := pool [(1, u "java/lang/Cloneable"), (0, .class_ 1), (0, u "java/lang/Object"), (0, .class_ 3)] 3

/-- java/lang/Cloneable -/
def k13 : Class := { plain "java/lang/Cloneable" (some 0) with
  accessFlags := 1537
  interfaces := #[]
  cf := some (fileOf pool13 2 #[] #[] 1537 4 #[] #[])
  fields := #[]
  methods := #[]
  instanceTypes := #[]
  staticTypes := #[]
  resolved := Array.replicate 8 none
  statics := none }

/-- the primitive byte -/
def k14 : Class := { plain "byte" none with kind := .primitive 'B', accessFlags := 0x411 }
/-- [B -/
def k15 : Class := { plain "[B" (some 0) with kind := .array 14 .byte, interfaces := #[13, 2], accessFlags := 1041 }

/-- the primitive char -/
def k16 : Class := { plain "char" none with kind := .primitive 'C', accessFlags := 0x411 }
/-- [C -/
def k17 : Class := { plain "[C" (some 0) with kind := .array 16 .char, interfaces := #[13, 2], accessFlags := 1041 }

/-- the primitive int -/
def k18 : Class := { plain "int" none with kind := .primitive 'I', accessFlags := 0x411 }
/-- [I -/
def k19 : Class := { plain "[I" (some 0) with kind := .array 18 .int, interfaces := #[13, 2], accessFlags := 1041 }

/-- [Ljava/lang/Object; -/
def k20 : Class := { plain "[Ljava/lang/Object;" (some 0) with kind := .array 0 (.object "java/lang/Object"), interfaces := #[13, 2], accessFlags := 1041 }

def heap : Heap := #[{ cls := 7, slots := #[.long 0, .int 1, .null, .int 0, .null, .int 0, .int 0], vm := .statics 7 },
  { cls := 11, slots := #[.null, .null, .null], vm := .statics 11 }]
def classes : Array Class := #[k0, k1, k2, k3, k4, k5, k6, k7, k8, k9, k10, k11, k12, k13, k14, k15, k16, k17, k18, k19, k20]
def interned : List (Array UInt16 × Addr) := []
def slotsUsed : Nat := 10
def theMethod : MethodId := ⟨1, 1⟩
def args0 : Array Value := #[.int 5, .int 7, .int 9, .int 3]
def aboutOver (below : List Frame) : State where
  vm := { classes := classes, interned := interned.toArray }
  heap := heap
  slotsUsed := slotsUsed
  threads := #[{ frames := .invoking theMethod args0 :: below }]
def below0 : List Frame := [.native { method := ⟨0, 0⟩, args := #[] }]
def about1 : State := aboutOver below0
def p0 : Program := .bare "" "" ""
def e0 : Env := launch0.env 0 0 0
theorem w_frames : about1.frames = Frame.invoking theMethod args0 :: below0 := rfl
set_option maxRecDepth 65536 in
theorem w_args : argsFit about1.vm theMethod args0 = true := by decide +kernel
set_option maxRecDepth 65536 in
theorem w_heap : heapFits about1 = true := by decide +kernel
set_option maxRecDepth 65536 in
theorem w_runnable : about1.curStatus? = some .runnable := by decide +kernel
set_option maxRecDepth 65536 in
theorem w_alone : about1.alone = true := by decide +kernel
set_option maxRecDepth 65536 in
theorem w_named : about1.methodNamed? x = some theMethod := by decide +kernel
set_option maxRecDepth 65536 in
theorem w_hears : about1.hears theMethod below0 = true := by decide +kernel
set_option maxRecDepth 65536 in
theorem w_ripe : about1.ripe theMethod args0 below0 = true := by decide +kernel
theorem w_running : about1.status = .running := rfl
set_option maxRecDepth 65536 in
theorem w_room : about1.hasRoom e0.platform room_1 = true :=
  launch0.hasRoom_least _ room_1 (by decide +kernel) (by decide +kernel) (by decide +kernel) (by decide +kernel) (by decide +kernel) (by decide +kernel)
theorem allAtoms_all (ts : List Jvm.Cond) (a : Array Jvm.Value) (st : Jvm.State) : (allAtoms ts).before a st = ts.all (fun c => c.before a st) := by
  induction ts with
  | nil => rfl
  | cons c t ih =>
    show (Jvm.Cond.and c (allAtoms t)).before a st = _
    rw [Jvm.Cond.before_and, ih, List.all_cons]
def words1 : List Jvm.Cond := Jvm.Cond.code x code maxLocals ret :: tables_1
/-- a 'code' word, met by the world's own term for the bytes: nothing is compared byte by byte -/
theorem code_word {y : MethodName} {bytes : ByteArray} {mx : Nat} {rt : Option FieldType} {a : Array Value} {s : State} {m : MethodId} {meth : Method} {c : Code} (h1 : s.methodNamed? y = some m) (h2 : s.vm.method? m = some meth) (h3 : meth.code = some c) (h4 : c.code = bytes)
    (h5 : (c.maxLocals == mx && c.exceptionTable.isEmpty && decide (c.maxStack ≤ mostOperands) && decide (meth.sig.returnType = rt) && !meth.locks && decide (parseMethodDescriptor y.desc = some meth.sig)) = true) : (Jvm.Cond.code y bytes mx rt).before a s = true := by
  simp only [Bool.and_eq_true, beq_iff_eq, Bool.not_eq_true', decide_eq_true_eq] at h5
  obtain ⟨⟨⟨⟨⟨g1, g2⟩, g3⟩, g4⟩, g5⟩, g6⟩ := h5
  simp [Cond.before, Cond.holds, Cond.value, h1, h2, h3, h4, g1, g2, g3, g4, g5, g6]
def isCode : Jvm.Cond → Bool
  | .code _ _ _ _ => true
  | _ => false
theorem all_split {L : List Jvm.Cond} {P : Jvm.Cond → Bool} (h1 : L.all (fun c => isCode c || P c) = true) (h2 : ∀ c ∈ L.filter isCode, P c = true) : L.all P = true := by
  refine List.all_eq_true.mpr fun c hc => ?_
  have h := List.all_eq_true.mp h1 c hc
  rcases Bool.eq_false_or_eq_true (isCode c) with hi | hi
  · exact h2 c (List.mem_filter.mpr ⟨hc, hi⟩)
  · simpa [hi] using h
set_option maxRecDepth 65536 in
theorem w_c0 : (Jvm.Cond.code x code maxLocals ret).before args0 about1 = true := code_word (m := ⟨1, 1⟩) (meth := k1m1) (c := k1c1) (by decide +kernel) rfl rfl rfl (by decide +kernel)
set_option maxRecDepth 65536 in
theorem w_c1 : (Jvm.Cond.code ({ cls := "java/lang/String", name := "<init>", desc := "([C)V" } : Jvm.MethodName) jdk_42_method_3_code (2 : Nat) (Option.none : Option Jvm.ClassFile.FieldType)).before args0 about1 = true := code_word (m := ⟨7, 1⟩) (meth := k7m1) (c := k7c1) (by decide +kernel) rfl rfl rfl (by decide +kernel)
set_option maxRecDepth 65536 in
theorem w_c2 : (Jvm.Cond.code ({ cls := "java/lang/String", name := "<init>", desc := "([CIILjava/lang/Void;)V" } : Jvm.MethodName) jdk_42_method_149_code (6 : Nat) (Option.none : Option Jvm.ClassFile.FieldType)).before args0 about1 = true := code_word (m := ⟨7, 2⟩) (meth := k7m2) (c := k7c2) (by decide +kernel) rfl rfl rfl (by decide +kernel)
set_option maxRecDepth 65536 in
theorem w_c3 : (Jvm.Cond.code ({ cls := "java/lang/Object", name := "<init>", desc := "()V" } : Jvm.MethodName) object_method_1_code (1 : Nat) (Option.none : Option Jvm.ClassFile.FieldType)).before args0 about1 = true := code_word (m := ⟨0, 0⟩) (meth := k0m0) (c := k0c0) (by decide +kernel) rfl rfl rfl (by decide +kernel)
set_option maxRecDepth 65536 in
theorem w_c4 : (Jvm.Cond.code ({ cls := "java/lang/StringUTF16", name := "compress", desc := "([CII)[B" } : Jvm.MethodName) jdk_52_method_16_code (6 : Nat) (Option.some (Jvm.ClassFile.FieldType.array Jvm.ClassFile.FieldType.byte))).before args0 about1 = true := code_word (m := ⟨8, 2⟩) (meth := k8m2) (c := k8c2) (by decide +kernel) rfl rfl rfl (by decide +kernel)
set_option maxRecDepth 65536 in
theorem w_c5 : (Jvm.Cond.code ({ cls := "java/lang/StringUTF16", name := "compress", desc := "([CI[BII)I" } : Jvm.MethodName) jdk_52_method_21_code (7 : Nat) (Option.some Jvm.ClassFile.FieldType.int)).before args0 about1 = true := code_word (m := ⟨8, 3⟩) (meth := k8m3) (c := k8c3) (by decide +kernel) rfl rfl rfl (by decide +kernel)
set_option maxRecDepth 65536 in
theorem w_c6 : (Jvm.Cond.code ({ cls := "java/lang/StringUTF16", name := "coderFromArrayLen", desc := "([BI)B" } : Jvm.MethodName) jdk_52_method_15_code (2 : Nat) (Option.some Jvm.ClassFile.FieldType.byte)).before args0 about1 = true := code_word (m := ⟨8, 1⟩) (meth := k8m1) (c := k8c1) (by decide +kernel) rfl rfl rfl (by decide +kernel)
set_option maxRecDepth 65536 in
theorem w_c7 : (Jvm.Cond.code ({ cls := "com/example/noise_to_signal/noisetosignal/signal/HeldTexts", name := "<init>", desc := "(Ljava/lang/Object;Ljava/lang/Object;Ljava/lang/Object;Ljava/lang/Object;Ljava/lang/Object;)V" } : Jvm.MethodName) prog_73_method_2_code (6 : Nat) (Option.none : Option Jvm.ClassFile.FieldType)).before args0 about1 = true := code_word (m := ⟨9, 0⟩) (meth := k9m0) (c := k9c0) (by decide +kernel) rfl rfl rfl (by decide +kernel)
set_option maxRecDepth 65536 in
theorem w_c8 : (Jvm.Cond.code ({ cls := "com/example/noise_to_signal/noisetosignal/signal/HeldTexts", name := "has", desc := "(Ljava/lang/Object;)Z" } : Jvm.MethodName) prog_73_method_11_code (2 : Nat) (Option.some Jvm.ClassFile.FieldType.boolean)).before args0 about1 = true := code_word (m := ⟨9, 1⟩) (meth := k9m1) (c := k9c1) (by decide +kernel) rfl rfl rfl (by decide +kernel)
def codes1 : List Jvm.Cond := [Jvm.Cond.code x code maxLocals ret, Jvm.Cond.code ({ cls := "java/lang/String", name := "<init>", desc := "([C)V" } : Jvm.MethodName) jdk_42_method_3_code (2 : Nat) (Option.none : Option Jvm.ClassFile.FieldType), Jvm.Cond.code ({ cls := "java/lang/String", name := "<init>", desc := "([CIILjava/lang/Void;)V" } : Jvm.MethodName) jdk_42_method_149_code (6 : Nat) (Option.none : Option Jvm.ClassFile.FieldType), Jvm.Cond.code ({ cls := "java/lang/Object", name := "<init>", desc := "()V" } : Jvm.MethodName) object_method_1_code (1 : Nat) (Option.none : Option Jvm.ClassFile.FieldType), Jvm.Cond.code ({ cls := "java/lang/StringUTF16", name := "compress", desc := "([CII)[B" } : Jvm.MethodName) jdk_52_method_16_code (6 : Nat) (Option.some (Jvm.ClassFile.FieldType.array Jvm.ClassFile.FieldType.byte)), Jvm.Cond.code ({ cls := "java/lang/StringUTF16", name := "compress", desc := "([CI[BII)I" } : Jvm.MethodName) jdk_52_method_21_code (7 : Nat) (Option.some Jvm.ClassFile.FieldType.int), Jvm.Cond.code ({ cls := "java/lang/StringUTF16", name := "coderFromArrayLen", desc := "([BI)B" } : Jvm.MethodName) jdk_52_method_15_code (2 : Nat) (Option.some Jvm.ClassFile.FieldType.byte), Jvm.Cond.code ({ cls := "com/example/noise_to_signal/noisetosignal/signal/HeldTexts", name := "<init>", desc := "(Ljava/lang/Object;Ljava/lang/Object;Ljava/lang/Object;Ljava/lang/Object;Ljava/lang/Object;)V" } : Jvm.MethodName) prog_73_method_2_code (6 : Nat) (Option.none : Option Jvm.ClassFile.FieldType), Jvm.Cond.code ({ cls := "com/example/noise_to_signal/noisetosignal/signal/HeldTexts", name := "has", desc := "(Ljava/lang/Object;)Z" } : Jvm.MethodName) prog_73_method_11_code (2 : Nat) (Option.some Jvm.ClassFile.FieldType.boolean)]
set_option maxRecDepth 65536 in
theorem codes_eq : words1.filter isCode = codes1 := rfl
theorem w_codes : ∀ c ∈ words1.filter isCode, c.before args0 about1 = true := by
  rw [codes_eq]
  intro c hc
  simp only [codes1, List.mem_cons, List.not_mem_nil, or_false] at hc
  rcases hc with rfl | rfl | rfl | rfl | rfl | rfl | rfl | rfl | rfl
  · exact w_c0
  · exact w_c1
  · exact w_c2
  · exact w_c3
  · exact w_c4
  · exact w_c5
  · exact w_c6
  · exact w_c7
  · exact w_c8
set_option maxRecDepth 65536 in
theorem w_t1 : (words1.take 24).all (fun c => isCode c || c.before args0 about1) = true := by decide +kernel
set_option maxRecDepth 65536 in
theorem w_t2 : ((words1.drop 24).take 24).all (fun c => isCode c || c.before args0 about1) = true := by decide +kernel
set_option maxRecDepth 65536 in
theorem w_t3 : ((words1.drop 24).drop 24).all (fun c => isCode c || c.before args0 about1) = true := by decide +kernel
theorem w_tables : (allAtoms (Jvm.Cond.code x code maxLocals ret :: tables_1)).before args0 about1 = true := by
  rw [allAtoms_all]
  show words1.all (fun c => c.before args0 about1) = true
  refine all_split ?_ w_codes
  rw [← List.take_append_drop 24 words1, List.all_append, w_t1, ← List.take_append_drop 24 (words1.drop 24), List.all_append, w_t2, w_t3]
  rfl
set_option maxRecDepth 65536 in
theorem w_rest : rest_1_c.before args0 about1 = true := by decide +kernel
set_option maxRecDepth 65536 in
theorem w_case : (Jvm.Cond.and given_1 narrow_1).before args0 about1 = true := by decide +kernel
theorem w_applies : (headSpec (Jvm.Cond.code x code maxLocals ret :: tables_1) room_1).applies x e0.platform about1 = true :=
  (Spec.applies_iff w_frames).mpr ⟨w_running, w_runnable, w_alone, w_named, w_hears, w_ripe, w_room, w_tables⟩
theorem atStart : AtStart classFile x code maxLocals ret World_1 tables_1 room_1 Calls_1 rest_1 Pre_1 launch0 p0 e0 about1 theMethod args0 below0 :=
  ⟨lists_1, trivial, launch0.admits_env _ _ _, launch0.least_env, fairChoices_fair.cas, fairChoices_fair.clock, w_frames, w_args, w_heap, w_applies, trivial, w_rest, w_case⟩
end start1
theorem witness_1 : WitnessClaimed_1 := ⟨start1.p0, start1.e0, start1.about1, start1.theMethod, start1.args0, start1.below0, start1.atStart⟩
end Jvm.Pilot.@@N@@
