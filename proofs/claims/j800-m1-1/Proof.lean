import JvmDerived
import JvmDerived.Pilot.@@N@@Statement
import JvmDerived.Pilot.@@N@@Code
set_option linter.unusedVariables false
set_option linter.unusedSimpArgs false
namespace Jvm.Pilot.@@N@@
open Jvm Jvm.ClassFile Sem Op Lib Jvm.Free Jvm.Stand Jvm.LawKit Jvm.RoadKit Bundle Jvm.Pilot.@@N@@.Jvm.D
/-! ## the shared layer: own_Go and its laws -/
def Go (p : Program) (e : Env) (below : List Frame) (P : State → Outcome → Prop) (T : State) (g : JFrame) : Prop := ∃ t o, Steps p.tables e below (T.setTop g) t ∧ t.status = .running ∧ Ended t below o ∧ P t o
def RP (s : State) (k n : Nat) (Q : Option Value → Heap → List Loc → Prop) (t : State) (o : Outcome) : Prop := ∃ v L, o = .returned v ∧ Q v t.heap L ∧ FrameEnd s o t L k n
theorem wd {a0 : Array Value} {Z : State} (hw : ∀ d ∈ tables_1, d.before a0 Z = true) (k : Nat) {d : Jvm.Cond} (h : tables_1[k]? = some d) : d.before a0 Z = true := hw _ (List.mem_of_getElem? h)
section OwnGo
variable {p : Program} {l : Launch} {e : Env} {R : Room} {s : State} {m : MethodId} {args : Array Value} {below : List Frame} {meth : Method} {c : Code} {T : State} {locs : List Loc} {cells slots : Nat} {P : State → Outcome → Prop} {pc : Nat} {Ls : Array Slot} {st : List Value} {Z : State} {a0 : Array Value} {h : Heap}
theorem Go.stp {T' : State} {g g' : JFrame} (G : Go p e below P T' g') (k : ∀ t, Steps p.tables e below (T'.setTop g') t → Steps p.tables e below (T.setTop g) t) : Go p e below P T g := by
  obtain ⟨t, o, h, r⟩ := G
  exact ⟨t, o, k t h, r⟩
theorem Go.cast {g g' : JFrame} (q : g = g') (G : Go p e below P T g') : Go p e below P T g := q ▸ G
theorem g_iload (X : Stand p l e R s m args below meth c T locs cells slots) (hx : p.tables.exec = Jvm.exec) {k : Nat} {v : Int32} (hl : Ls[k]? = some (.val (.int v))) (hd : decode c.code pc = .ok (.iload k, 2)) (pc' : Nat) (hp : pc + 2 = pc') (G : Go p e below P T (mkF m pc' Ls (.int v :: st))) : Go p e below P T (mkF m pc Ls st) := by
  subst hp
  exact G.stp fun _ h => XS.iload X.here hx rfl hd hl h
theorem g_iloadN (X : Stand p l e R s m args below meth c T locs cells slots) (hx : p.tables.exec = Jvm.exec) {k : Fin 4} {v : Int32} (hl : Ls[k.val]? = some (.val (.int v))) (hd : decode c.code pc = .ok (.iload_n k, 1)) (pc' : Nat) (hp : pc + 1 = pc') (G : Go p e below P T (mkF m pc' Ls (.int v :: st))) : Go p e below P T (mkF m pc Ls st) := by
  subst hp
  exact G.stp fun _ h => XS.iloadN X.here hx rfl hd hl h
theorem g_istore (X : Stand p l e R s m args below meth c T locs cells slots) (hx : p.tables.exec = Jvm.exec) {k : Nat} {v : Int32} (l' : Array Slot) (hl : storeLocals Ls k (.int v) = some l') (hd : decode c.code pc = .ok (.istore k, 2)) (pc' : Nat) (hp : pc + 2 = pc') (G : Go p e below P T (mkF m pc' l' st)) : Go p e below P T (mkF m pc Ls (.int v :: st)) := by
  subst hp
  exact G.stp fun _ h => XS.istore X.here hx rfl hd rfl hl h
theorem g_istoreN (X : Stand p l e R s m args below meth c T locs cells slots) (hx : p.tables.exec = Jvm.exec) {k : Fin 4} {v : Int32} (l' : Array Slot) (hl : storeLocals Ls k.val (.int v) = some l') (hd : decode c.code pc = .ok (.istore_n k, 1)) (pc' : Nat) (hp : pc + 1 = pc') (G : Go p e below P T (mkF m pc' l' st)) : Go p e below P T (mkF m pc Ls (.int v :: st)) := by
  subst hp
  exact G.stp fun _ h => XS.istoreN X.here hx rfl hd rfl hl h
theorem g_lload (X : Stand p l e R s m args below meth c T locs cells slots) (hx : p.tables.exec = Jvm.exec) {k : Nat} {v : Int64} (hl : Ls[k]? = some (.val (.long v))) (hd : decode c.code pc = .ok (.lload k, 2)) (pc' : Nat) (hp : pc + 2 = pc') (G : Go p e below P T (mkF m pc' Ls (.long v :: st))) : Go p e below P T (mkF m pc Ls st) := by
  subst hp
  exact G.stp fun _ h => XT.lload X.here hx rfl hd hl h
theorem g_lloadN (X : Stand p l e R s m args below meth c T locs cells slots) (hx : p.tables.exec = Jvm.exec) {k : Fin 4} {v : Int64} (hl : Ls[k.val]? = some (.val (.long v))) (hd : decode c.code pc = .ok (.lload_n k, 1)) (pc' : Nat) (hp : pc + 1 = pc') (G : Go p e below P T (mkF m pc' Ls (.long v :: st))) : Go p e below P T (mkF m pc Ls st) := by
  subst hp
  exact G.stp fun _ h => XT.lloadN X.here hx rfl hd hl h
theorem g_lstore (X : Stand p l e R s m args below meth c T locs cells slots) (hx : p.tables.exec = Jvm.exec) {k : Nat} {v : Int64} (l' : Array Slot) (hl : storeLocals Ls k (.long v) = some l') (hd : decode c.code pc = .ok (.lstore k, 2)) (pc' : Nat) (hp : pc + 2 = pc') (G : Go p e below P T (mkF m pc' l' st)) : Go p e below P T (mkF m pc Ls (.long v :: st)) := by
  subst hp
  exact G.stp fun _ h => XT.lstore X.here hx rfl hd rfl hl h
theorem g_lstoreN (X : Stand p l e R s m args below meth c T locs cells slots) (hx : p.tables.exec = Jvm.exec) {k : Fin 4} {v : Int64} (l' : Array Slot) (hl : storeLocals Ls k.val (.long v) = some l') (hd : decode c.code pc = .ok (.lstore_n k, 1)) (pc' : Nat) (hp : pc + 1 = pc') (G : Go p e below P T (mkF m pc' l' st)) : Go p e below P T (mkF m pc Ls (.long v :: st)) := by
  subst hp
  exact G.stp fun _ h => XT.lstoreN X.here hx rfl hd rfl hl h
theorem g_aload (X : Stand p l e R s m args below meth c T locs cells slots) (hx : p.tables.exec = Jvm.exec) {k : Nat} {v : Value} (hl : Ls[k]? = some (.val v)) (hv : v.isRef = true) (hd : decode c.code pc = .ok (.aload k, 2)) (pc' : Nat) (hp : pc + 2 = pc') (G : Go p e below P T (mkF m pc' Ls (v :: st))) : Go p e below P T (mkF m pc Ls st) := by
  subst hp
  exact G.stp fun _ h => XS.aload X.here hx rfl hd hl hv h
theorem g_aloadN (X : Stand p l e R s m args below meth c T locs cells slots) (hx : p.tables.exec = Jvm.exec) {k : Fin 4} {v : Value} (hl : Ls[k.val]? = some (.val v)) (hv : v.isRef = true) (hd : decode c.code pc = .ok (.aload_n k, 1)) (pc' : Nat) (hp : pc + 1 = pc') (G : Go p e below P T (mkF m pc' Ls (v :: st))) : Go p e below P T (mkF m pc Ls st) := by
  subst hp
  exact G.stp fun _ h => XS.aloadN X.here hx rfl hd hl hv h
theorem g_astore (X : Stand p l e R s m args below meth c T locs cells slots) (hx : p.tables.exec = Jvm.exec) {k : Nat} {v : Value} (l' : Array Slot) (hv : v.isRef = true) (hl : storeLocals Ls k v = some l') (hd : decode c.code pc = .ok (.astore k, 2)) (pc' : Nat) (hp : pc + 2 = pc') (G : Go p e below P T (mkF m pc' l' st)) : Go p e below P T (mkF m pc Ls (v :: st)) := by
  subst hp
  exact G.stp fun _ h => XS.astore X.here hx rfl hd rfl hv hl h
theorem g_astoreN (X : Stand p l e R s m args below meth c T locs cells slots) (hx : p.tables.exec = Jvm.exec) {k : Fin 4} {v : Value} (l' : Array Slot) (hv : v.isRef = true) (hl : storeLocals Ls k.val v = some l') (hd : decode c.code pc = .ok (.astore_n k, 1)) (pc' : Nat) (hp : pc + 1 = pc') (G : Go p e below P T (mkF m pc' l' st)) : Go p e below P T (mkF m pc Ls (v :: st)) := by
  subst hp
  exact G.stp fun _ h => XS.astoreN X.here hx rfl hd rfl hv hl h
theorem g_iconst (X : Stand p l e R s m args below meth c T locs cells slots) (hx : p.tables.exec = Jvm.exec) {i : Int} (v : Int32) (hv : Int32.ofInt i = v) (hd : decode c.code pc = .ok (.iconst i, 1)) (pc' : Nat) (hp : pc + 1 = pc') (G : Go p e below P T (mkF m pc' Ls (.int v :: st))) : Go p e below P T (mkF m pc Ls st) := by
  subst hp
  exact G.stp fun _ h => XT.iconstV X.here hx rfl v hd hv h
theorem g_bipush (X : Stand p l e R s m args below meth c T locs cells slots) (hx : p.tables.exec = Jvm.exec) {i : Int} (v : Int32) (hv : (Int8.ofInt i).toInt32 = v) (hd : decode c.code pc = .ok (.bipush i, 2)) (pc' : Nat) (hp : pc + 2 = pc') (G : Go p e below P T (mkF m pc' Ls (.int v :: st))) : Go p e below P T (mkF m pc Ls st) := by
  subst hp
  exact G.stp fun _ h => XT.bipushV X.here hx rfl v hd hv h
theorem g_sipush (X : Stand p l e R s m args below meth c T locs cells slots) (hx : p.tables.exec = Jvm.exec) {i : Int} (v : Int32) (hv : (Int16.ofInt i).toInt32 = v) (hd : decode c.code pc = .ok (.sipush i, 3)) (pc' : Nat) (hp : pc + 3 = pc') (G : Go p e below P T (mkF m pc' Ls (.int v :: st))) : Go p e below P T (mkF m pc Ls st) := by
  subst hp
  exact G.stp fun _ h => XT.sipushV X.here hx rfl v hd hv h
theorem g_lconst (X : Stand p l e R s m args below meth c T locs cells slots) (hx : p.tables.exec = Jvm.exec) {i : Fin 2} (v : Int64) (hv : Int64.ofNat i = v) (hd : decode c.code pc = .ok (.lconst i, 1)) (pc' : Nat) (hp : pc + 1 = pc') (G : Go p e below P T (mkF m pc' Ls (.long v :: st))) : Go p e below P T (mkF m pc Ls st) := by
  subst hp
  exact G.stp fun _ h => XT.lconstV X.here hx rfl v hd hv h
theorem g_aconst_null (X : Stand p l e R s m args below meth c T locs cells slots) (hx : p.tables.exec = Jvm.exec)  (hd : decode c.code pc = .ok (.aconst_null, 1)) (pc' : Nat) (hp : pc + 1 = pc') (G : Go p e below P T (mkF m pc' Ls (.null :: st))) : Go p e below P T (mkF m pc Ls st) := by
  subst hp
  exact G.stp fun _ h => XS.aconstNull X.here hx rfl hd h
theorem g_iadd (X : Stand p l e R s m args below meth c T locs cells slots) (hx : p.tables.exec = Jvm.exec) {x y : Int32} (hd : decode c.code pc = .ok (.iadd, 1)) (pc' : Nat) (hp : pc + 1 = pc') (G : Go p e below P T (mkF m pc' Ls (.int (x + y) :: st))) : Go p e below P T (mkF m pc Ls (.int y :: .int x :: st)) := by
  subst hp
  exact G.stp fun _ h => XS.iadd X.here hx rfl hd rfl h
theorem g_ladd (X : Stand p l e R s m args below meth c T locs cells slots) (hx : p.tables.exec = Jvm.exec) {x y : Int64} (hd : decode c.code pc = .ok (.ladd, 1)) (pc' : Nat) (hp : pc + 1 = pc') (G : Go p e below P T (mkF m pc' Ls (.long (x + y) :: st))) : Go p e below P T (mkF m pc Ls (.long y :: .long x :: st)) := by
  subst hp
  exact G.stp fun _ h => XT.ladd X.here hx rfl hd rfl h
theorem g_isub (X : Stand p l e R s m args below meth c T locs cells slots) (hx : p.tables.exec = Jvm.exec) {x y : Int32} (hd : decode c.code pc = .ok (.isub, 1)) (pc' : Nat) (hp : pc + 1 = pc') (G : Go p e below P T (mkF m pc' Ls (.int (x - y) :: st))) : Go p e below P T (mkF m pc Ls (.int y :: .int x :: st)) := by
  subst hp
  exact G.stp fun _ h => XS.isub X.here hx rfl hd rfl h
theorem g_lsub (X : Stand p l e R s m args below meth c T locs cells slots) (hx : p.tables.exec = Jvm.exec) {x y : Int64} (hd : decode c.code pc = .ok (.lsub, 1)) (pc' : Nat) (hp : pc + 1 = pc') (G : Go p e below P T (mkF m pc' Ls (.long (x - y) :: st))) : Go p e below P T (mkF m pc Ls (.long y :: .long x :: st)) := by
  subst hp
  exact G.stp fun _ h => XT.lsub X.here hx rfl hd rfl h
theorem g_imul (X : Stand p l e R s m args below meth c T locs cells slots) (hx : p.tables.exec = Jvm.exec) {x y : Int32} (hd : decode c.code pc = .ok (.imul, 1)) (pc' : Nat) (hp : pc + 1 = pc') (G : Go p e below P T (mkF m pc' Ls (.int (x * y) :: st))) : Go p e below P T (mkF m pc Ls (.int y :: .int x :: st)) := by
  subst hp
  exact G.stp fun _ h => XS.imul X.here hx rfl hd rfl h
theorem g_lmul (X : Stand p l e R s m args below meth c T locs cells slots) (hx : p.tables.exec = Jvm.exec) {x y : Int64} (hd : decode c.code pc = .ok (.lmul, 1)) (pc' : Nat) (hp : pc + 1 = pc') (G : Go p e below P T (mkF m pc' Ls (.long (x * y) :: st))) : Go p e below P T (mkF m pc Ls (.long y :: .long x :: st)) := by
  subst hp
  exact G.stp fun _ h => XT.lmul X.here hx rfl hd rfl h
theorem g_iand (X : Stand p l e R s m args below meth c T locs cells slots) (hx : p.tables.exec = Jvm.exec) {x y : Int32} (hd : decode c.code pc = .ok (.iand, 1)) (pc' : Nat) (hp : pc + 1 = pc') (G : Go p e below P T (mkF m pc' Ls (.int (x &&& y) :: st))) : Go p e below P T (mkF m pc Ls (.int y :: .int x :: st)) := by
  subst hp
  exact G.stp fun _ h => XS.iand X.here hx rfl hd rfl h
theorem g_land (X : Stand p l e R s m args below meth c T locs cells slots) (hx : p.tables.exec = Jvm.exec) {x y : Int64} (hd : decode c.code pc = .ok (.land, 1)) (pc' : Nat) (hp : pc + 1 = pc') (G : Go p e below P T (mkF m pc' Ls (.long (x &&& y) :: st))) : Go p e below P T (mkF m pc Ls (.long y :: .long x :: st)) := by
  subst hp
  exact G.stp fun _ h => XT.land X.here hx rfl hd rfl h
theorem g_ior (X : Stand p l e R s m args below meth c T locs cells slots) (hx : p.tables.exec = Jvm.exec) {x y : Int32} (hd : decode c.code pc = .ok (.ior, 1)) (pc' : Nat) (hp : pc + 1 = pc') (G : Go p e below P T (mkF m pc' Ls (.int (x ||| y) :: st))) : Go p e below P T (mkF m pc Ls (.int y :: .int x :: st)) := by
  subst hp
  exact G.stp fun _ h => XT.ior X.here hx rfl hd rfl h
theorem g_lor (X : Stand p l e R s m args below meth c T locs cells slots) (hx : p.tables.exec = Jvm.exec) {x y : Int64} (hd : decode c.code pc = .ok (.lor, 1)) (pc' : Nat) (hp : pc + 1 = pc') (G : Go p e below P T (mkF m pc' Ls (.long (x ||| y) :: st))) : Go p e below P T (mkF m pc Ls (.long y :: .long x :: st)) := by
  subst hp
  exact G.stp fun _ h => XT.lor X.here hx rfl hd rfl h
theorem g_ixor (X : Stand p l e R s m args below meth c T locs cells slots) (hx : p.tables.exec = Jvm.exec) {x y : Int32} (hd : decode c.code pc = .ok (.ixor, 1)) (pc' : Nat) (hp : pc + 1 = pc') (G : Go p e below P T (mkF m pc' Ls (.int (x ^^^ y) :: st))) : Go p e below P T (mkF m pc Ls (.int y :: .int x :: st)) := by
  subst hp
  exact G.stp fun _ h => XT.ixor X.here hx rfl hd rfl h
theorem g_lxor (X : Stand p l e R s m args below meth c T locs cells slots) (hx : p.tables.exec = Jvm.exec) {x y : Int64} (hd : decode c.code pc = .ok (.lxor, 1)) (pc' : Nat) (hp : pc + 1 = pc') (G : Go p e below P T (mkF m pc' Ls (.long (x ^^^ y) :: st))) : Go p e below P T (mkF m pc Ls (.long y :: .long x :: st)) := by
  subst hp
  exact G.stp fun _ h => XT.lxor X.here hx rfl hd rfl h
theorem g_idiv (X : Stand p l e R s m args below meth c T locs cells slots) (hx : p.tables.exec = Jvm.exec) {x y : Int32} (hy : y ≠ 0) (hd : decode c.code pc = .ok (.idiv, 1)) (pc' : Nat) (hp : pc + 1 = pc') (G : Go p e below P T (mkF m pc' Ls (.int (x / y) :: st))) : Go p e below P T (mkF m pc Ls (.int y :: .int x :: st)) := by
  subst hp
  exact G.stp fun _ h => XS.idiv X.here hx rfl hd rfl hy h
theorem g_irem (X : Stand p l e R s m args below meth c T locs cells slots) (hx : p.tables.exec = Jvm.exec) {x y : Int32} (hy : y ≠ 0) (hd : decode c.code pc = .ok (.irem, 1)) (pc' : Nat) (hp : pc + 1 = pc') (G : Go p e below P T (mkF m pc' Ls (.int (x % y) :: st))) : Go p e below P T (mkF m pc Ls (.int y :: .int x :: st)) := by
  subst hp
  exact G.stp fun _ h => iremM X hx rfl hd rfl hy h
theorem g_ldiv (X : Stand p l e R s m args below meth c T locs cells slots) (hx : p.tables.exec = Jvm.exec) {x y : Int64} (hy : y ≠ 0) (hd : decode c.code pc = .ok (.ldiv, 1)) (pc' : Nat) (hp : pc + 1 = pc') (G : Go p e below P T (mkF m pc' Ls (.long (x / y) :: st))) : Go p e below P T (mkF m pc Ls (.long y :: .long x :: st)) := by
  subst hp
  exact G.stp fun _ h => XT.ldiv X.here hx rfl hd rfl hy h
theorem g_lrem (X : Stand p l e R s m args below meth c T locs cells slots) (hx : p.tables.exec = Jvm.exec) {x y : Int64} (hy : y ≠ 0) (hd : decode c.code pc = .ok (.lrem, 1)) (pc' : Nat) (hp : pc + 1 = pc') (G : Go p e below P T (mkF m pc' Ls (.long (x % y) :: st))) : Go p e below P T (mkF m pc Ls (.long y :: .long x :: st)) := by
  subst hp
  rw [← lrem_mod] at G
  exact G.stp fun _ h => XT.lrem X.here hx rfl hd rfl hy h
theorem g_ishl (X : Stand p l e R s m args below meth c T locs cells slots) (hx : p.tables.exec = Jvm.exec) {x y : Int32} (hd : decode c.code pc = .ok (.ishl, 1)) (pc' : Nat) (hp : pc + 1 = pc') (G : Go p e below P T (mkF m pc' Ls (.int (x <<< (y &&& 31)) :: st))) : Go p e below P T (mkF m pc Ls (.int y :: .int x :: st)) := by
  subst hp
  exact G.stp fun _ h => XT.ishl X.here hx rfl hd rfl h
theorem g_ishr (X : Stand p l e R s m args below meth c T locs cells slots) (hx : p.tables.exec = Jvm.exec) {x y : Int32} (hd : decode c.code pc = .ok (.ishr, 1)) (pc' : Nat) (hp : pc + 1 = pc') (G : Go p e below P T (mkF m pc' Ls (.int (x >>> (y &&& 31)) :: st))) : Go p e below P T (mkF m pc Ls (.int y :: .int x :: st)) := by
  subst hp
  exact G.stp fun _ h => XT.ishr X.here hx rfl hd rfl h
theorem g_iushr (X : Stand p l e R s m args below meth c T locs cells slots) (hx : p.tables.exec = Jvm.exec) {x y : Int32} (hd : decode c.code pc = .ok (.iushr, 1)) (pc' : Nat) (hp : pc + 1 = pc') (G : Go p e below P T (mkF m pc' Ls (.int (XT.ushr x y) :: st))) : Go p e below P T (mkF m pc Ls (.int y :: .int x :: st)) := by
  subst hp
  exact G.stp fun _ h => XT.iushr X.here hx rfl hd rfl h
theorem g_lshl (X : Stand p l e R s m args below meth c T locs cells slots) (hx : p.tables.exec = Jvm.exec) {x : Int64} {y : Int32} (hd : decode c.code pc = .ok (.lshl, 1)) (pc' : Nat) (hp : pc + 1 = pc') (G : Go p e below P T (mkF m pc' Ls (.long (x <<< (y &&& 0x3f).toInt64) :: st))) : Go p e below P T (mkF m pc Ls (.int y :: .long x :: st)) := by
  subst hp
  exact G.stp fun _ h => XS.lshl X.here hx rfl hd rfl h
theorem g_lshr (X : Stand p l e R s m args below meth c T locs cells slots) (hx : p.tables.exec = Jvm.exec) {x : Int64} {y : Int32} (hd : decode c.code pc = .ok (.lshr, 1)) (pc' : Nat) (hp : pc + 1 = pc') (G : Go p e below P T (mkF m pc' Ls (.long (x >>> (y &&& 0x3f).toInt64) :: st))) : Go p e below P T (mkF m pc Ls (.int y :: .long x :: st)) := by
  subst hp
  exact G.stp fun _ h => XS.lshr X.here hx rfl hd rfl h
theorem g_lushr (X : Stand p l e R s m args below meth c T locs cells slots) (hx : p.tables.exec = Jvm.exec) {x : Int64} {y : Int32} (hd : decode c.code pc = .ok (.lushr, 1)) (pc' : Nat) (hp : pc + 1 = pc') (G : Go p e below P T (mkF m pc' Ls (.long (XT.ushrL x y) :: st))) : Go p e below P T (mkF m pc Ls (.int y :: .long x :: st)) := by
  subst hp
  exact G.stp fun _ h => XT.lushr X.here hx rfl hd rfl h
theorem g_ineg (X : Stand p l e R s m args below meth c T locs cells slots) (hx : p.tables.exec = Jvm.exec) {x : Int32} (hd : decode c.code pc = .ok (.ineg, 1)) (pc' : Nat) (hp : pc + 1 = pc') (G : Go p e below P T (mkF m pc' Ls (.int (-x) :: st))) : Go p e below P T (mkF m pc Ls (.int x :: st)) := by
  subst hp
  exact G.stp fun _ h => XS.ineg X.here hx rfl hd rfl h
theorem g_i2l (X : Stand p l e R s m args below meth c T locs cells slots) (hx : p.tables.exec = Jvm.exec) {x : Int32} (hd : decode c.code pc = .ok (.i2l, 1)) (pc' : Nat) (hp : pc + 1 = pc') (G : Go p e below P T (mkF m pc' Ls (.long x.toInt64 :: st))) : Go p e below P T (mkF m pc Ls (.int x :: st)) := by
  subst hp
  exact G.stp fun _ h => XT.i2l X.here hx rfl hd rfl h
theorem g_l2i (X : Stand p l e R s m args below meth c T locs cells slots) (hx : p.tables.exec = Jvm.exec) {x : Int64} (hd : decode c.code pc = .ok (.l2i, 1)) (pc' : Nat) (hp : pc + 1 = pc') (G : Go p e below P T (mkF m pc' Ls (.int x.toInt32 :: st))) : Go p e below P T (mkF m pc Ls (.long x :: st)) := by
  subst hp
  exact G.stp fun _ h => XT.l2i X.here hx rfl hd rfl h
theorem g_i2b (X : Stand p l e R s m args below meth c T locs cells slots) (hx : p.tables.exec = Jvm.exec) {x : Int32} (hd : decode c.code pc = .ok (.i2b, 1)) (pc' : Nat) (hp : pc + 1 = pc') (G : Go p e below P T (mkF m pc' Ls (.int x.toInt8.toInt32 :: st))) : Go p e below P T (mkF m pc Ls (.int x :: st)) := by
  subst hp
  exact G.stp fun _ h => XT.i2b X.here hx rfl hd rfl h
theorem g_i2s (X : Stand p l e R s m args below meth c T locs cells slots) (hx : p.tables.exec = Jvm.exec) {x : Int32} (hd : decode c.code pc = .ok (.i2s, 1)) (pc' : Nat) (hp : pc + 1 = pc') (G : Go p e below P T (mkF m pc' Ls (.int x.toInt16.toInt32 :: st))) : Go p e below P T (mkF m pc Ls (.int x :: st)) := by
  subst hp
  exact G.stp fun _ h => XT.i2s X.here hx rfl hd rfl h
theorem g_i2c (X : Stand p l e R s m args below meth c T locs cells slots) (hx : p.tables.exec = Jvm.exec) {x : Int32} (hd : decode c.code pc = .ok (.i2c, 1)) (pc' : Nat) (hp : pc + 1 = pc') (G : Go p e below P T (mkF m pc' Ls (.int x.toUInt32.toUInt16.toUInt32.toInt32 :: st))) : Go p e below P T (mkF m pc Ls (.int x :: st)) := by
  subst hp
  exact G.stp fun _ h => XT.i2c X.here hx rfl hd rfl h
theorem g_pop (X : Stand p l e R s m args below meth c T locs cells slots) (hx : p.tables.exec = Jvm.exec) {x : Value} (hc : x.category = 1) (hd : decode c.code pc = .ok (.pop, 1)) (pc' : Nat) (hp : pc + 1 = pc') (G : Go p e below P T (mkF m pc' Ls st)) : Go p e below P T (mkF m pc Ls (x :: st)) := by
  subst hp
  exact G.stp fun _ h => XT.pop X.here hx rfl hd rfl hc h
theorem g_dup (X : Stand p l e R s m args below meth c T locs cells slots) (hx : p.tables.exec = Jvm.exec) {x : Value} (hc : x.category = 1) (hd : decode c.code pc = .ok (.dup, 1)) (pc' : Nat) (hp : pc + 1 = pc') (G : Go p e below P T (mkF m pc' Ls (x :: x :: st))) : Go p e below P T (mkF m pc Ls (x :: st)) := by
  subst hp
  exact G.stp fun _ h => XS.dup X.here hx rfl hd rfl hc h
theorem g_dup_x1 (X : Stand p l e R s m args below meth c T locs cells slots) (hx : p.tables.exec = Jvm.exec) {x y : Value} (hc : x.category = 1) (hc' : y.category = 1) (hd : decode c.code pc = .ok (.dup_x1, 1)) (pc' : Nat) (hp : pc + 1 = pc') (G : Go p e below P T (mkF m pc' Ls (x :: y :: x :: st))) : Go p e below P T (mkF m pc Ls (x :: y :: st)) := by
  subst hp
  exact G.stp fun _ h => XT.dupX1 X.here hx rfl hd rfl hc hc' h
theorem g_dup2 (X : Stand p l e R s m args below meth c T locs cells slots) (hx : p.tables.exec = Jvm.exec) {x y : Value} (hc : x.category = 1) (hc' : y.category = 1) (hd : decode c.code pc = .ok (.dup2, 1)) (pc' : Nat) (hp : pc + 1 = pc') (G : Go p e below P T (mkF m pc' Ls (x :: y :: x :: y :: st))) : Go p e below P T (mkF m pc Ls (x :: y :: st)) := by
  subst hp
  exact G.stp fun _ h => XT.dup2 X.here hx rfl hd rfl hc hc' h
theorem g_iinc (X : Stand p l e R s m args below meth c T locs cells slots) (hx : p.tables.exec = Jvm.exec) {k : Nat} {cst : Int} {x : Int32} (v : Int32) (hv : Int32.ofInt cst = v) (hl : Ls[k]? = some (.val (.int x))) (l' : Array Slot) (hl' : storeLocals Ls k (.int (x + v)) = some l') (hd : decode c.code pc = .ok (.iinc k cst, 3)) (pc' : Nat) (hp : pc + 3 = pc') (G : Go p e below P T (mkF m pc' l' st)) : Go p e below P T (mkF m pc Ls st) := by
  subst hp
  exact G.stp fun _ h => XT.iincV X.here hx rfl v hd hv hl hl' h
theorem g_goto (X : Stand p l e R s m args below meth c T locs cells slots) (hx : p.tables.exec = Jvm.exec) {o : Int} (hd : decode c.code pc = .ok (.goto o, 3)) (pc' : Nat) (ho : 0 ≤ (pc : Int) + o) (hp : ((pc : Int) + o).toNat = pc') (G : Go p e below P T (mkF m pc' Ls st)) : Go p e below P T (mkF m pc Ls st) := by
  exact G.stp fun _ h => XS.goto X.here hx rfl rfl hd ho hp h
theorem g_icmp_eq (X : Stand p l e R s m args below meth c T locs cells slots) (hx : p.tables.exec = Jvm.exec) {x y : Int32} {o : Int} (hd : decode c.code pc = .ok (.if_icmp .eq o, 3)) (pcT pcF : Nat) (ho : 0 ≤ (pc : Int) + o) (hT : ((pc : Int) + o).toNat = pcT) (hF : pc + 3 = pcF) (G1 : x = y → Go p e below P T (mkF m pcT Ls st)) (G2 : ¬ x = y → Go p e below P T (mkF m pcF Ls st)) : Go p e below P T (mkF m pc Ls (.int y :: .int x :: st)) := by
  by_cases q : x = y
  · exact (G1 q).stp fun _ h => XS.icmpYes X.here hx rfl rfl hd rfl (XT.ii_eq_t q) ho hT h
  · subst hF
    exact (G2 q).stp fun _ h => XS.icmpNo X.here hx rfl hd rfl (XT.ii_eq_f q) h
theorem g_if_eq (X : Stand p l e R s m args below meth c T locs cells slots) (hx : p.tables.exec = Jvm.exec) {x : Int32} {o : Int} (hd : decode c.code pc = .ok (.ifCond .eq o, 3)) (pcT pcF : Nat) (ho : 0 ≤ (pc : Int) + o) (hT : ((pc : Int) + o).toNat = pcT) (hF : pc + 3 = pcF) (G1 : x = 0 → Go p e below P T (mkF m pcT Ls st)) (G2 : ¬ x = 0 → Go p e below P T (mkF m pcF Ls st)) : Go p e below P T (mkF m pc Ls (.int x :: st)) := by
  by_cases q : x = 0
  · exact (G1 q).stp fun _ h => XS.ifYes X.here hx rfl rfl hd rfl (XT.i0_eq_t q) ho hT h
  · subst hF
    exact (G2 q).stp fun _ h => XS.ifNo X.here hx rfl hd rfl (XT.i0_eq_f q) h
theorem g_lif_eq (X : Stand p l e R s m args below meth c T locs cells slots) (hx : p.tables.exec = Jvm.exec) {x y : Int64} {o : Int} (hd0 : decode c.code pc = .ok (.lcmp, 1)) (pc1 : Nat) (hp1 : pc + 1 = pc1) (hd : decode c.code pc1 = .ok (.ifCond .eq o, 3)) (pcT pcF : Nat) (ho : 0 ≤ (pc1 : Int) + o) (hT : ((pc1 : Int) + o).toNat = pcT) (hF : pc1 + 3 = pcF) (G1 : x = y → Go p e below P T (mkF m pcT Ls st)) (G2 : ¬ x = y → Go p e below P T (mkF m pcF Ls st)) : Go p e below P T (mkF m pc Ls (.long y :: .long x :: st)) := by
  subst hp1
  by_cases q : x = y
  · exact (G1 q).stp fun _ h => XT.lcmp X.here hx rfl hd0 rfl (XS.ifYes X.here hx rfl rfl hd rfl (XT.ll_eq_t q) ho hT h)
  · subst hF
    exact (G2 q).stp fun _ h => XT.lcmp X.here hx rfl hd0 rfl (XS.ifNo X.here hx rfl hd rfl (XT.ll_eq_f q) h)
theorem g_icmp_ne (X : Stand p l e R s m args below meth c T locs cells slots) (hx : p.tables.exec = Jvm.exec) {x y : Int32} {o : Int} (hd : decode c.code pc = .ok (.if_icmp .ne o, 3)) (pcT pcF : Nat) (ho : 0 ≤ (pc : Int) + o) (hT : ((pc : Int) + o).toNat = pcT) (hF : pc + 3 = pcF) (G1 : ¬ x = y → Go p e below P T (mkF m pcT Ls st)) (G2 : x = y → Go p e below P T (mkF m pcF Ls st)) : Go p e below P T (mkF m pc Ls (.int y :: .int x :: st)) := by
  by_cases q : ¬ x = y
  · exact (G1 q).stp fun _ h => XS.icmpYes X.here hx rfl rfl hd rfl (XT.ii_ne_t q) ho hT h
  · subst hF
    exact (G2 (Classical.not_not.mp q)).stp fun _ h => XS.icmpNo X.here hx rfl hd rfl (XT.ii_ne_f (Classical.not_not.mp q)) h
theorem g_if_ne (X : Stand p l e R s m args below meth c T locs cells slots) (hx : p.tables.exec = Jvm.exec) {x : Int32} {o : Int} (hd : decode c.code pc = .ok (.ifCond .ne o, 3)) (pcT pcF : Nat) (ho : 0 ≤ (pc : Int) + o) (hT : ((pc : Int) + o).toNat = pcT) (hF : pc + 3 = pcF) (G1 : ¬ x = 0 → Go p e below P T (mkF m pcT Ls st)) (G2 : x = 0 → Go p e below P T (mkF m pcF Ls st)) : Go p e below P T (mkF m pc Ls (.int x :: st)) := by
  by_cases q : ¬ x = 0
  · exact (G1 q).stp fun _ h => XS.ifYes X.here hx rfl rfl hd rfl (XT.i0_ne_t q) ho hT h
  · subst hF
    exact (G2 (Classical.not_not.mp q)).stp fun _ h => XS.ifNo X.here hx rfl hd rfl (XT.i0_ne_f (Classical.not_not.mp q)) h
theorem g_lif_ne (X : Stand p l e R s m args below meth c T locs cells slots) (hx : p.tables.exec = Jvm.exec) {x y : Int64} {o : Int} (hd0 : decode c.code pc = .ok (.lcmp, 1)) (pc1 : Nat) (hp1 : pc + 1 = pc1) (hd : decode c.code pc1 = .ok (.ifCond .ne o, 3)) (pcT pcF : Nat) (ho : 0 ≤ (pc1 : Int) + o) (hT : ((pc1 : Int) + o).toNat = pcT) (hF : pc1 + 3 = pcF) (G1 : ¬ x = y → Go p e below P T (mkF m pcT Ls st)) (G2 : x = y → Go p e below P T (mkF m pcF Ls st)) : Go p e below P T (mkF m pc Ls (.long y :: .long x :: st)) := by
  subst hp1
  by_cases q : ¬ x = y
  · exact (G1 q).stp fun _ h => XT.lcmp X.here hx rfl hd0 rfl (XS.ifYes X.here hx rfl rfl hd rfl (XT.ll_ne_t q) ho hT h)
  · subst hF
    exact (G2 (Classical.not_not.mp q)).stp fun _ h => XT.lcmp X.here hx rfl hd0 rfl (XS.ifNo X.here hx rfl hd rfl (XT.ll_ne_f (Classical.not_not.mp q)) h)
theorem g_icmp_lt (X : Stand p l e R s m args below meth c T locs cells slots) (hx : p.tables.exec = Jvm.exec) {x y : Int32} {o : Int} (hd : decode c.code pc = .ok (.if_icmp .lt o, 3)) (pcT pcF : Nat) (ho : 0 ≤ (pc : Int) + o) (hT : ((pc : Int) + o).toNat = pcT) (hF : pc + 3 = pcF) (G1 : x < y → Go p e below P T (mkF m pcT Ls st)) (G2 : ¬ x < y → Go p e below P T (mkF m pcF Ls st)) : Go p e below P T (mkF m pc Ls (.int y :: .int x :: st)) := by
  by_cases q : x < y
  · exact (G1 q).stp fun _ h => XS.icmpYes X.here hx rfl rfl hd rfl (XT.ii_lt_t q) ho hT h
  · subst hF
    exact (G2 q).stp fun _ h => XS.icmpNo X.here hx rfl hd rfl (XT.ii_lt_f q) h
theorem g_if_lt (X : Stand p l e R s m args below meth c T locs cells slots) (hx : p.tables.exec = Jvm.exec) {x : Int32} {o : Int} (hd : decode c.code pc = .ok (.ifCond .lt o, 3)) (pcT pcF : Nat) (ho : 0 ≤ (pc : Int) + o) (hT : ((pc : Int) + o).toNat = pcT) (hF : pc + 3 = pcF) (G1 : x < 0 → Go p e below P T (mkF m pcT Ls st)) (G2 : ¬ x < 0 → Go p e below P T (mkF m pcF Ls st)) : Go p e below P T (mkF m pc Ls (.int x :: st)) := by
  by_cases q : x < 0
  · exact (G1 q).stp fun _ h => XS.ifYes X.here hx rfl rfl hd rfl (XT.i0_lt_t q) ho hT h
  · subst hF
    exact (G2 q).stp fun _ h => XS.ifNo X.here hx rfl hd rfl (XT.i0_lt_f q) h
theorem g_lif_lt (X : Stand p l e R s m args below meth c T locs cells slots) (hx : p.tables.exec = Jvm.exec) {x y : Int64} {o : Int} (hd0 : decode c.code pc = .ok (.lcmp, 1)) (pc1 : Nat) (hp1 : pc + 1 = pc1) (hd : decode c.code pc1 = .ok (.ifCond .lt o, 3)) (pcT pcF : Nat) (ho : 0 ≤ (pc1 : Int) + o) (hT : ((pc1 : Int) + o).toNat = pcT) (hF : pc1 + 3 = pcF) (G1 : x < y → Go p e below P T (mkF m pcT Ls st)) (G2 : ¬ x < y → Go p e below P T (mkF m pcF Ls st)) : Go p e below P T (mkF m pc Ls (.long y :: .long x :: st)) := by
  subst hp1
  by_cases q : x < y
  · exact (G1 q).stp fun _ h => XT.lcmp X.here hx rfl hd0 rfl (XS.ifYes X.here hx rfl rfl hd rfl (XT.ll_lt_t q) ho hT h)
  · subst hF
    exact (G2 q).stp fun _ h => XT.lcmp X.here hx rfl hd0 rfl (XS.ifNo X.here hx rfl hd rfl (XT.ll_lt_f q) h)
theorem g_icmp_ge (X : Stand p l e R s m args below meth c T locs cells slots) (hx : p.tables.exec = Jvm.exec) {x y : Int32} {o : Int} (hd : decode c.code pc = .ok (.if_icmp .ge o, 3)) (pcT pcF : Nat) (ho : 0 ≤ (pc : Int) + o) (hT : ((pc : Int) + o).toNat = pcT) (hF : pc + 3 = pcF) (G1 : ¬ x < y → Go p e below P T (mkF m pcT Ls st)) (G2 : x < y → Go p e below P T (mkF m pcF Ls st)) : Go p e below P T (mkF m pc Ls (.int y :: .int x :: st)) := by
  by_cases q : ¬ x < y
  · exact (G1 q).stp fun _ h => XS.icmpYes X.here hx rfl rfl hd rfl (XT.ii_ge_t q) ho hT h
  · subst hF
    exact (G2 (Classical.not_not.mp q)).stp fun _ h => XS.icmpNo X.here hx rfl hd rfl (XT.ii_ge_f (Classical.not_not.mp q)) h
theorem g_if_ge (X : Stand p l e R s m args below meth c T locs cells slots) (hx : p.tables.exec = Jvm.exec) {x : Int32} {o : Int} (hd : decode c.code pc = .ok (.ifCond .ge o, 3)) (pcT pcF : Nat) (ho : 0 ≤ (pc : Int) + o) (hT : ((pc : Int) + o).toNat = pcT) (hF : pc + 3 = pcF) (G1 : ¬ x < 0 → Go p e below P T (mkF m pcT Ls st)) (G2 : x < 0 → Go p e below P T (mkF m pcF Ls st)) : Go p e below P T (mkF m pc Ls (.int x :: st)) := by
  by_cases q : ¬ x < 0
  · exact (G1 q).stp fun _ h => XS.ifYes X.here hx rfl rfl hd rfl (XT.i0_ge_t q) ho hT h
  · subst hF
    exact (G2 (Classical.not_not.mp q)).stp fun _ h => XS.ifNo X.here hx rfl hd rfl (XT.i0_ge_f (Classical.not_not.mp q)) h
theorem g_lif_ge (X : Stand p l e R s m args below meth c T locs cells slots) (hx : p.tables.exec = Jvm.exec) {x y : Int64} {o : Int} (hd0 : decode c.code pc = .ok (.lcmp, 1)) (pc1 : Nat) (hp1 : pc + 1 = pc1) (hd : decode c.code pc1 = .ok (.ifCond .ge o, 3)) (pcT pcF : Nat) (ho : 0 ≤ (pc1 : Int) + o) (hT : ((pc1 : Int) + o).toNat = pcT) (hF : pc1 + 3 = pcF) (G1 : ¬ x < y → Go p e below P T (mkF m pcT Ls st)) (G2 : x < y → Go p e below P T (mkF m pcF Ls st)) : Go p e below P T (mkF m pc Ls (.long y :: .long x :: st)) := by
  subst hp1
  by_cases q : ¬ x < y
  · exact (G1 q).stp fun _ h => XT.lcmp X.here hx rfl hd0 rfl (XS.ifYes X.here hx rfl rfl hd rfl (XT.ll_ge_t q) ho hT h)
  · subst hF
    exact (G2 (Classical.not_not.mp q)).stp fun _ h => XT.lcmp X.here hx rfl hd0 rfl (XS.ifNo X.here hx rfl hd rfl (XT.ll_ge_f (Classical.not_not.mp q)) h)
theorem g_icmp_gt (X : Stand p l e R s m args below meth c T locs cells slots) (hx : p.tables.exec = Jvm.exec) {x y : Int32} {o : Int} (hd : decode c.code pc = .ok (.if_icmp .gt o, 3)) (pcT pcF : Nat) (ho : 0 ≤ (pc : Int) + o) (hT : ((pc : Int) + o).toNat = pcT) (hF : pc + 3 = pcF) (G1 : y < x → Go p e below P T (mkF m pcT Ls st)) (G2 : ¬ y < x → Go p e below P T (mkF m pcF Ls st)) : Go p e below P T (mkF m pc Ls (.int y :: .int x :: st)) := by
  by_cases q : y < x
  · exact (G1 q).stp fun _ h => XS.icmpYes X.here hx rfl rfl hd rfl (XT.ii_gt_t q) ho hT h
  · subst hF
    exact (G2 q).stp fun _ h => XS.icmpNo X.here hx rfl hd rfl (XT.ii_gt_f q) h
theorem g_if_gt (X : Stand p l e R s m args below meth c T locs cells slots) (hx : p.tables.exec = Jvm.exec) {x : Int32} {o : Int} (hd : decode c.code pc = .ok (.ifCond .gt o, 3)) (pcT pcF : Nat) (ho : 0 ≤ (pc : Int) + o) (hT : ((pc : Int) + o).toNat = pcT) (hF : pc + 3 = pcF) (G1 : 0 < x → Go p e below P T (mkF m pcT Ls st)) (G2 : ¬ 0 < x → Go p e below P T (mkF m pcF Ls st)) : Go p e below P T (mkF m pc Ls (.int x :: st)) := by
  by_cases q : 0 < x
  · exact (G1 q).stp fun _ h => XS.ifYes X.here hx rfl rfl hd rfl (XT.i0_gt_t q) ho hT h
  · subst hF
    exact (G2 q).stp fun _ h => XS.ifNo X.here hx rfl hd rfl (XT.i0_gt_f q) h
theorem g_lif_gt (X : Stand p l e R s m args below meth c T locs cells slots) (hx : p.tables.exec = Jvm.exec) {x y : Int64} {o : Int} (hd0 : decode c.code pc = .ok (.lcmp, 1)) (pc1 : Nat) (hp1 : pc + 1 = pc1) (hd : decode c.code pc1 = .ok (.ifCond .gt o, 3)) (pcT pcF : Nat) (ho : 0 ≤ (pc1 : Int) + o) (hT : ((pc1 : Int) + o).toNat = pcT) (hF : pc1 + 3 = pcF) (G1 : y < x → Go p e below P T (mkF m pcT Ls st)) (G2 : ¬ y < x → Go p e below P T (mkF m pcF Ls st)) : Go p e below P T (mkF m pc Ls (.long y :: .long x :: st)) := by
  subst hp1
  by_cases q : y < x
  · exact (G1 q).stp fun _ h => XT.lcmp X.here hx rfl hd0 rfl (XS.ifYes X.here hx rfl rfl hd rfl (XT.ll_gt_t q) ho hT h)
  · subst hF
    exact (G2 q).stp fun _ h => XT.lcmp X.here hx rfl hd0 rfl (XS.ifNo X.here hx rfl hd rfl (XT.ll_gt_f q) h)
theorem g_icmp_le (X : Stand p l e R s m args below meth c T locs cells slots) (hx : p.tables.exec = Jvm.exec) {x y : Int32} {o : Int} (hd : decode c.code pc = .ok (.if_icmp .le o, 3)) (pcT pcF : Nat) (ho : 0 ≤ (pc : Int) + o) (hT : ((pc : Int) + o).toNat = pcT) (hF : pc + 3 = pcF) (G1 : ¬ y < x → Go p e below P T (mkF m pcT Ls st)) (G2 : y < x → Go p e below P T (mkF m pcF Ls st)) : Go p e below P T (mkF m pc Ls (.int y :: .int x :: st)) := by
  by_cases q : ¬ y < x
  · exact (G1 q).stp fun _ h => XS.icmpYes X.here hx rfl rfl hd rfl (XT.ii_le_t q) ho hT h
  · subst hF
    exact (G2 (Classical.not_not.mp q)).stp fun _ h => XS.icmpNo X.here hx rfl hd rfl (XT.ii_le_f (Classical.not_not.mp q)) h
theorem g_if_le (X : Stand p l e R s m args below meth c T locs cells slots) (hx : p.tables.exec = Jvm.exec) {x : Int32} {o : Int} (hd : decode c.code pc = .ok (.ifCond .le o, 3)) (pcT pcF : Nat) (ho : 0 ≤ (pc : Int) + o) (hT : ((pc : Int) + o).toNat = pcT) (hF : pc + 3 = pcF) (G1 : ¬ 0 < x → Go p e below P T (mkF m pcT Ls st)) (G2 : 0 < x → Go p e below P T (mkF m pcF Ls st)) : Go p e below P T (mkF m pc Ls (.int x :: st)) := by
  by_cases q : ¬ 0 < x
  · exact (G1 q).stp fun _ h => XS.ifYes X.here hx rfl rfl hd rfl (XT.i0_le_t q) ho hT h
  · subst hF
    exact (G2 (Classical.not_not.mp q)).stp fun _ h => XS.ifNo X.here hx rfl hd rfl (XT.i0_le_f (Classical.not_not.mp q)) h
theorem g_lif_le (X : Stand p l e R s m args below meth c T locs cells slots) (hx : p.tables.exec = Jvm.exec) {x y : Int64} {o : Int} (hd0 : decode c.code pc = .ok (.lcmp, 1)) (pc1 : Nat) (hp1 : pc + 1 = pc1) (hd : decode c.code pc1 = .ok (.ifCond .le o, 3)) (pcT pcF : Nat) (ho : 0 ≤ (pc1 : Int) + o) (hT : ((pc1 : Int) + o).toNat = pcT) (hF : pc1 + 3 = pcF) (G1 : ¬ y < x → Go p e below P T (mkF m pcT Ls st)) (G2 : y < x → Go p e below P T (mkF m pcF Ls st)) : Go p e below P T (mkF m pc Ls (.long y :: .long x :: st)) := by
  subst hp1
  by_cases q : ¬ y < x
  · exact (G1 q).stp fun _ h => XT.lcmp X.here hx rfl hd0 rfl (XS.ifYes X.here hx rfl rfl hd rfl (XT.ll_le_t q) ho hT h)
  · subst hF
    exact (G2 (Classical.not_not.mp q)).stp fun _ h => XT.lcmp X.here hx rfl hd0 rfl (XS.ifNo X.here hx rfl hd rfl (XT.ll_le_f (Classical.not_not.mp q)) h)
theorem g_acmp_eq (X : Stand p l e R s m args below meth c T locs cells slots) (hx : p.tables.exec = Jvm.exec) {x y : Value} (hx' : x.isRef = true) (hy' : y.isRef = true) {o : Int} (hd : decode c.code pc = .ok (.if_acmp .eq o, 3)) (pcT pcF : Nat) (ho : 0 ≤ (pc : Int) + o) (hT : ((pc : Int) + o).toNat = pcT) (hF : pc + 3 = pcF) (G1 : x = y → Go p e below P T (mkF m pcT Ls st)) (G2 : ¬ x = y → Go p e below P T (mkF m pcF Ls st)) : Go p e below P T (mkF m pc Ls (y :: x :: st)) := by
  by_cases q : x = y
  · exact (G1 q).stp fun _ h => XT.acmpYes X.here hx rfl rfl hd rfl hx' hy' (XT.aa_eq_t q) ho hT h
  · subst hF
    exact (G2 q).stp fun _ h => XT.acmpNo X.here hx rfl hd rfl hx' hy' (XT.aa_eq_f q) h
theorem g_acmp_ne (X : Stand p l e R s m args below meth c T locs cells slots) (hx : p.tables.exec = Jvm.exec) {x y : Value} (hx' : x.isRef = true) (hy' : y.isRef = true) {o : Int} (hd : decode c.code pc = .ok (.if_acmp .ne o, 3)) (pcT pcF : Nat) (ho : 0 ≤ (pc : Int) + o) (hT : ((pc : Int) + o).toNat = pcT) (hF : pc + 3 = pcF) (G1 : ¬ x = y → Go p e below P T (mkF m pcT Ls st)) (G2 : x = y → Go p e below P T (mkF m pcF Ls st)) : Go p e below P T (mkF m pc Ls (y :: x :: st)) := by
  by_cases q : ¬ x = y
  · exact (G1 q).stp fun _ h => XT.acmpYes X.here hx rfl rfl hd rfl hx' hy' (XT.aa_ne_t q) ho hT h
  · subst hF
    exact (G2 (Classical.not_not.mp q)).stp fun _ h => XT.acmpNo X.here hx rfl hd rfl hx' hy' (XT.aa_ne_f (Classical.not_not.mp q)) h
theorem g_ifnull (X : Stand p l e R s m args below meth c T locs cells slots) (hx : p.tables.exec = Jvm.exec) {x : Value} (hx' : x.isRef = true) {o : Int} (hd : decode c.code pc = .ok (.ifnull o, 3)) (pcT pcF : Nat) (ho : 0 ≤ (pc : Int) + o) (hT : ((pc : Int) + o).toNat = pcT) (hF : pc + 3 = pcF) (G1 : x = .null → Go p e below P T (mkF m pcT Ls st)) (G2 : ¬ x = .null → Go p e below P T (mkF m pcF Ls st)) : Go p e below P T (mkF m pc Ls (x :: st)) := by
  by_cases q : x = .null
  · exact (G1 q).stp fun _ h => XT.nullYes X.here hx rfl rfl hd rfl q ho hT h
  · subst hF
    exact (G2 q).stp fun _ h => XT.nullNo X.here hx rfl hd rfl hx' q h
theorem g_ifnonnull (X : Stand p l e R s m args below meth c T locs cells slots) (hx : p.tables.exec = Jvm.exec) {x : Value} (hx' : x.isRef = true) {o : Int} (hd : decode c.code pc = .ok (.ifnonnull o, 3)) (pcT pcF : Nat) (ho : 0 ≤ (pc : Int) + o) (hT : ((pc : Int) + o).toNat = pcT) (hF : pc + 3 = pcF) (G1 : ¬ x = .null → Go p e below P T (mkF m pcT Ls st)) (G2 : x = .null → Go p e below P T (mkF m pcF Ls st)) : Go p e below P T (mkF m pc Ls (x :: st)) := by
  by_cases q : x = .null
  · subst hF
    exact (G2 q).stp fun _ h => XT.nonnullNo X.here hx rfl hd rfl q h
  · exact (G1 q).stp fun _ h => XT.nonnullYes X.here hx rfl rfl hd rfl hx' q ho hT h
theorem g_ldc (X : Stand p l e R s m args below meth c T locs cells slots) (hx : p.tables.exec = Jvm.exec) (hZ : Z.Warmed39 s.vm) {own : String} (hown : s.vm.findClass own = some m.cls) {i : Nat} {v : Int32} (w : (Cond.constant own i v).before a0 Z = true) (hd : decode c.code pc = .ok (.ldc i, 2)) (pc' : Nat) (hp : pc + 2 = pc') (G : Go p e below P T (mkF m pc' Ls (.int v :: st))) : Go p e below P T (mkF m pc Ls st) := by
  subst hp
  exact G.stp fun _ h => Jvm.Stand.ldcI X hx hown (mv hZ w) rfl hd h
theorem g_ldc_w (X : Stand p l e R s m args below meth c T locs cells slots) (hx : p.tables.exec = Jvm.exec) (hZ : Z.Warmed39 s.vm) {own : String} (hown : s.vm.findClass own = some m.cls) {i : Nat} {v : Int32} (w : (Cond.constant own i v).before a0 Z = true) (hd : decode c.code pc = .ok (.ldc_w i, 3)) (pc' : Nat) (hp : pc + 3 = pc') (G : Go p e below P T (mkF m pc' Ls (.int v :: st))) : Go p e below P T (mkF m pc Ls st) := by
  subst hp
  exact G.stp fun _ h => Jvm.Stand.ldcWI X hx hown (mv hZ w) rfl hd h
theorem g_ldc2_w (X : Stand p l e R s m args below meth c T locs cells slots) (hx : p.tables.exec = Jvm.exec) (hZ : Z.Warmed39 s.vm) {own : String} (hown : s.vm.findClass own = some m.cls) {i : Nat} {v : Int64} (w : (Cond.constantLong own i v).before a0 Z = true) (hd : decode c.code pc = .ok (.ldc2_w i, 3)) (pc' : Nat) (hp : pc + 3 = pc') (G : Go p e below P T (mkF m pc' Ls (.long v :: st))) : Go p e below P T (mkF m pc Ls st) := by
  subst hp
  exact G.stp fun _ h => Jvm.Stand.ldc2J X hx hown (mv hZ w) rfl hd h
theorem g_getfield (X : Stand p l e R s m args below meth c T locs cells slots) (hx : p.tables.exec = Jvm.exec) (hZ : Z.Warmed39 s.vm) {own : String} (hown : s.vm.findClass own = some m.cls) {R0 O n d host : String} {i : Nat} (w : (Cond.fieldLink own i R0 n d).before a0 Z = true ∨ (Cond.fieldLinkNest own i R0 n d host).before a0 Z = true) (via : Via Z R0 O n d) {a : Addr} {v : Value} (F : Fld Z h a O n d v) (eT : T.heap = h) (hd : decode c.code pc = .ok (.getfield i, 3)) (pc' : Nat) (hp : pc + 3 = pc') (G : ∀ T', Stand p l e R s m args below meth c T' locs cells slots → T'.heap = h → Go p e below P T' (mkF m pc' Ls (v :: st))) : Go p e below P T (mkF m pc Ls (.ref a :: st)) := by
  subst hp
  obtain ⟨T', X', e', k⟩ := getF X hx hZ hown w via eT F (g := mkF m pc Ls (.ref a :: st)) rfl rfl hd
  exact (G T' X' e').stp k
theorem g_getstatic (X : Stand p l e R s m args below meth c T locs cells slots) (hx : p.tables.exec = Jvm.exec) (hZ : Z.Warmed39 s.vm) {own : String} (hown : s.vm.findClass own = some m.cls) {R0 O n d host : String} {i : Nat} (w : (Cond.fieldLink own i R0 n d).before a0 Z = true ∨ (Cond.fieldLinkNest own i R0 n d host).before a0 Z = true) (via : Via Z R0 O n d) {v : Value} (F : Sta Z h O n d v) (eT : T.heap = h) (hd : decode c.code pc = .ok (.getstatic i, 3)) (pc' : Nat) (hp : pc + 3 = pc') (G : ∀ T', Stand p l e R s m args below meth c T' locs cells slots → T'.heap = h → Go p e below P T' (mkF m pc' Ls (v :: st))) : Go p e below P T (mkF m pc Ls st) := by
  subst hp
  obtain ⟨T', X', e', k⟩ := getS2 X hx hZ hown w via eT F (g := mkF m pc Ls st) rfl hd
  exact (G T' X' e').stp k
theorem g_putfield (X : Stand p l e R s m args below meth c T locs cells slots) (hx : p.tables.exec = Jvm.exec) (hZ : Z.Warmed39 s.vm) {own : String} (hown : s.vm.findClass own = some m.cls) {R0 O n d host C : String} {i kk : Nat} {ty : FieldType} (w : (Cond.fieldLink own i R0 n d).before a0 Z = true ∨ (Cond.fieldLinkNest own i R0 n d host).before a0 Z = true) (via : Via Z R0 O n d) (eT : T.heap = h) {a : Addr} {v old : Value} (F : Fld Z h a O n d old) (E : Exa Z h a C) (L : (Cond.lays C O n d).before a0 Z = true ∨ ((Cond.laysFinal C O n d).before a0 Z = true ∧ own = O ∧ meth.name = "<init>")) (wi : (Cond.instantiable C kk).before a0 Z = true) (hty : parseFieldDescriptor d = some ty) (hn : narrow ty v = v) (hf : fits ty v = true) (hd : decode c.code pc = .ok (.putfield i, 3)) (pc' : Nat) (hp : pc + 3 = pc') (G : ∀ T' h', Stand p l e R s m args below meth c T' (locs ++ [⟨a, Jvm.RoadKit.slotOf Z O n d⟩]) cells slots → T'.heap = h' → Wr h h' a (Jvm.RoadKit.slotOf Z O n d) v → Go p e below P T' (mkF m pc' Ls st)) : Go p e below P T (mkF m pc Ls (v :: .ref a :: st)) := by
  subst hp
  obtain ⟨T', h', X', e', W, k⟩ := putF X hx hZ hown w via eT F E L wi hty hn hf (g := mkF m pc Ls (v :: .ref a :: st)) rfl rfl hd
  exact (G T' h' X' e' W).stp k
theorem g_initO (X : Stand p l e R s m args below meth c T locs cells slots) (hx : p.tables.exec = Jvm.exec) (hZ : Z.Warmed39 s.vm) {own : String} (hown : s.vm.findClass own = some m.cls) {i : Nat} (w1 : (Cond.methodLink own i Lib.objectInit).before a0 Z = true) (w2 : (Cond.instanceMethod Lib.objectInit).before a0 Z = true) (w3 : (Cond.code Lib.objectInit ⟨#[0xb1]⟩ 1 none).before a0 Z = true) (eT : T.heap = h) (hsz : Ls.size = c.maxLocals) {a : Addr} (hd : decode c.code pc = .ok (.invokespecial i, 3)) (hf : 1 ≤ R.frames) (W : Nat) (hW : (st.map fun v => v.category).sum ≤ W) (hl : W + 12 ≤ R.locals) (pc' : Nat) (hp : pc + 3 = pc') (G : ∀ T', Stand p l e R s m args below meth c T' locs cells slots → T'.heap = h → Go p e below P T' (mkF m pc' Ls st)) : Go p e below P T (mkF m pc Ls (.ref a :: st)) := by
  subst hp
  obtain ⟨T', X', e', k⟩ := initO X hx hZ hown w1 w2 w3 eT (g := mkF m pc Ls (.ref a :: st)) rfl hsz rfl hd hf (W := W) (by show 2 * 0 + _ ≤ W; omega) hl
  exact (G T' X' e').stp k
theorem g_new (X : Stand p l e R s m args below meth c T locs cells slots) (hx : p.tables.exec = Jvm.exec) (hZ : Z.Warmed39 s.vm) {own : String} (hown : s.vm.findClass own = some m.cls) {C : String} {i n : Nat} (w : (Cond.classLink own i C).before a0 Z = true) (wi : (Cond.instantiable C n).before a0 Z = true) (wz : (Cond.initialized C).before a0 Z = true) (eT : T.heap = h) (hd : decode c.code pc = .ok (.new i, 3)) (hc : cells + 1 ≤ R.cells) (hl : slots + n ≤ R.slots) (pc' : Nat) (hp : pc + 3 = pc') (G : ∀ T' h' b, Stand p l e R s m args below meth c T' locs (cells + 1) (slots + n) → T'.heap = h' → b = h.size → Ext h h' → Exa Z h' b C → (∀ {O nm d : String} {ty : FieldType}, Laid Z a0 C O nm d → parseFieldDescriptor d = some ty → Fld Z h' b O nm d (defaultValue ty)) → Go p e below P T' (mkF m pc' Ls (.ref b :: st))) : Go p e below P T (mkF m pc Ls st) := by
  subst hp
  obtain ⟨T', h', X', e', E, A, D, -, k⟩ := newO X hx hZ hown w wi wz eT (g := mkF m pc Ls st) rfl hd hc hl
  exact (G T' h' h.size X' e' rfl E A D).stp k
/-- the array at a: of that kind, holding just these values -/
def AV (Z : State) (h : Heap) (a : Addr) (ty : FieldType) (vs : List Value) : Prop := ∃ c : Cell, Arr Z h a c ty ∧ c.slots = vs.toArray ∧ vs.length < 2 ^ 31
theorem AV.lt {a : Addr} {ty : FieldType} {vs : List Value} (F : AV Z h a ty vs) : a < h.size := by obtain ⟨c, A, -⟩ := F; exact A.lt
theorem AV.ext {h' : Heap} {a : Addr} {ty : FieldType} {vs : List Value} (F : AV Z h a ty vs) (E : Ext h h') : AV Z h' a ty vs := by obtain ⟨c, A, r⟩ := F; exact ⟨c, A.ext E, r⟩
theorem AV.other {h' : Heap} {a b : Addr} {sl : Nat} {v : Value} {ty : FieldType} {vs : List Value} (F : AV Z h b ty vs) (W : Wr h h' a sl v) (q : b ≠ a) : AV Z h' b ty vs := by obtain ⟨c, A, r⟩ := F; exact ⟨c, A.other W q, r⟩
theorem AV.keep {h' : Heap} {a : Addr} {ws : List Addr} {ty : FieldType} {vs : List Value} (F : AV Z h a ty vs) (K : Keep h h' ws) (q : a ∉ ws) : AV Z h' a ty vs := by obtain ⟨c, A, r⟩ := F; exact ⟨c, ⟨K.2.1 a c A.1 q, A.2⟩, r⟩
theorem AV.same {h' : Heap} {a : Addr} {sl : Nat} {v : Value} {ty : FieldType} {vs : List Value} (F : AV Z h a ty vs) (W : Wr h h' a sl v) : AV Z h' a ty (vs.set sl v) := by
  obtain ⟨c, A, r1, r2⟩ := F
  exact ⟨_, A.same W, by simp [Cell.setSlot, r1], by simpa using r2⟩
theorem AV.new {a : Addr} {k : ClassId} {ty : FieldType} {n : Int32} (A : Arr Z h a (newA k ty n) ty) (vs : List Value) (q : vs = List.replicate n.toNatClampNeg (defaultValue ty)) (q2 : n.toNatClampNeg < 2 ^ 31) : AV Z h a ty vs := ⟨_, A, by subst q; simp [newA], by subst q; simpa using q2⟩
theorem AV.nostat {a : Addr} {ty : FieldType} {vs : List Value} (F : AV Z h a ty vs) : ∀ cell : Cell, h[a]? = some cell → cell.vm.isStatics = false := by obtain ⟨c, A, -⟩ := F; exact A.nostat
theorem in_of {vs : List Value} {c : Cell} {j : Int32} {v : Value} (r : c.slots = vs.toArray) (hj : ¬ j < 0) (hv : vs[j.toNatClampNeg]? = some v) : ¬ (j < 0 ∨ c.slots.size ≤ j.toNatClampNeg) := by
  have q := (List.getElem?_eq_some_iff.mp hv).1
  intro u
  rcases u with u | u
  · exact hj u
  · rw [r] at u; simp at u; omega
theorem g_iaload (X : Stand p l e R s m args below meth c T locs cells slots) (hx : p.tables.exec = Jvm.exec) (hZ : Z.Warmed39 s.vm) (eT : T.heap = h) {a : Addr} {vs : List Value} {j : Int32} {v : Value} (A : AV Z h a .int vs) (hj : ¬ j < 0) (hv : vs[j.toNatClampNeg]? = some v) (hd : decode c.code pc = .ok (.iaload, 1)) (pc' : Nat) (hp : pc + 1 = pc') (G : Go p e below P T (mkF m pc' Ls (v :: st))) : Go p e below P T (mkF m pc Ls (.int j :: .ref a :: st)) := by
  subst hp
  obtain ⟨cl, A, r1, r2⟩ := A
  exact G.stp fun _ k => X.iaload hx (j := j) (v := v) (by rw [eT]; exact A.1) (State.isArrayOf_alike hZ.alike A.2.1) A.2.2 (in_of r1 hj hv) (by rw [r1]; simpa using hv) (g := mkF m pc Ls (.int j :: .ref a :: st)) rfl rfl hd _ k
theorem g_caload (X : Stand p l e R s m args below meth c T locs cells slots) (hx : p.tables.exec = Jvm.exec) (hZ : Z.Warmed39 s.vm) (eT : T.heap = h) {a : Addr} {vs : List Value} {j : Int32} {v : Value} (A : AV Z h a .char vs) (hj : ¬ j < 0) (hv : vs[j.toNatClampNeg]? = some v) (hd : decode c.code pc = .ok (.caload, 1)) (pc' : Nat) (hp : pc + 1 = pc') (G : Go p e below P T (mkF m pc' Ls (v :: st))) : Go p e below P T (mkF m pc Ls (.int j :: .ref a :: st)) := by
  subst hp
  obtain ⟨cl, A, r1, r2⟩ := A
  exact G.stp fun _ k => X.caload hx (j := j) (v := v) (by rw [eT]; exact A.1) (State.isArrayOf_alike hZ.alike A.2.1) A.2.2 (in_of r1 hj hv) (by rw [r1]; simpa using hv) (g := mkF m pc Ls (.int j :: .ref a :: st)) rfl rfl hd _ k
theorem g_baload (X : Stand p l e R s m args below meth c T locs cells slots) (hx : p.tables.exec = Jvm.exec) (hZ : Z.Warmed39 s.vm) (eT : T.heap = h) {a : Addr} {vs : List Value} {j : Int32} {v : Value} (A : AV Z h a .byte vs) (hj : ¬ j < 0) (hv : vs[j.toNatClampNeg]? = some v) (hd : decode c.code pc = .ok (.baload, 1)) (pc' : Nat) (hp : pc + 1 = pc') (G : Go p e below P T (mkF m pc' Ls (v :: st))) : Go p e below P T (mkF m pc Ls (.int j :: .ref a :: st)) := by
  subst hp
  obtain ⟨cl, A, r1, r2⟩ := A
  exact G.stp fun _ k => X.baloadBytes hx (j := j) (v := v) (by rw [eT]; exact A.1) (State.isArrayOf_alike hZ.alike A.2.1) A.2.2 (in_of r1 hj hv) (by rw [r1]; simpa using hv) (g := mkF m pc Ls (.int j :: .ref a :: st)) rfl rfl hd _ k
theorem g_aaload (X : Stand p l e R s m args below meth c T locs cells slots) (hx : p.tables.exec = Jvm.exec) (hZ : Z.Warmed39 s.vm) (eT : T.heap = h) {a : Addr} {ty : FieldType} {vs : List Value} {j : Int32} {v : Value} (A : AV Z h a ty vs) (hty : ty.isReference = true) (hj : ¬ j < 0) (hv : vs[j.toNatClampNeg]? = some v) (hd : decode c.code pc = .ok (.aaload, 1)) (pc' : Nat) (hp : pc + 1 = pc') (G : Go p e below P T (mkF m pc' Ls (v :: st))) : Go p e below P T (mkF m pc Ls (.int j :: .ref a :: st)) := by
  subst hp
  obtain ⟨cl, A, r1, r2⟩ := A
  exact G.stp fun _ k => X.aaload hx (j := j) (v := v) (by rw [eT]; exact A.1) (State.isArrayOf_alike hZ.alike A.2.1) hty A.2.2 (in_of r1 hj hv) (by rw [r1]; simpa using hv) (g := mkF m pc Ls (.int j :: .ref a :: st)) rfl rfl hd _ k
theorem g_arraylength (X : Stand p l e R s m args below meth c T locs cells slots) (hx : p.tables.exec = Jvm.exec) (hZ : Z.Warmed39 s.vm) (eT : T.heap = h) {a : Addr} {ty : FieldType} {vs : List Value} (A : AV Z h a ty vs) (n : Int32) (hn : Int32.ofNat vs.length = n) (hd : decode c.code pc = .ok (.arraylength, 1)) (pc' : Nat) (hp : pc + 1 = pc') (G : Go p e below P T (mkF m pc' Ls (.int n :: st))) : Go p e below P T (mkF m pc Ls (.ref a :: st)) := by
  subst hp
  obtain ⟨cl, A, r1, r2⟩ := A
  have q : cl.slots.size.toInt32 = n := by rw [r1, ← hn]; simp
  rw [← q] at G
  exact G.stp fun _ k => X.arraylength hx (cell := cl) (by rw [eT]; exact A.1) (State.isArrayOf_alike hZ.alike A.2.1) (g := mkF m pc Ls (.ref a :: st)) rfl rfl hd _ k
theorem g_iastore (X : Stand p l e R s m args below meth c T locs cells slots) (hx : p.tables.exec = Jvm.exec) (hZ : Z.Warmed39 s.vm) (eT : T.heap = h) {a : Addr} {vs : List Value} {j x : Int32} (A : AV Z h a .int vs) (hj : ¬ j < 0) (hi : j.toNatClampNeg < vs.length) (hd : decode c.code pc = .ok (.iastore, 1)) (pc' : Nat) (hp : pc + 1 = pc') (G : ∀ T' h', Stand p l e R s m args below meth c T' (locs ++ [⟨a, j.toNatClampNeg⟩]) cells slots → T'.heap = h' → Wr h h' a j.toNatClampNeg (.int x) → AV Z h' a .int (vs.set j.toNatClampNeg (.int x)) → Go p e below P T' (mkF m pc' Ls st)) : Go p e below P T (mkF m pc Ls (.int x :: .int j :: .ref a :: st)) := by
  subst hp
  have A0 := A
  obtain ⟨cl, A, r1, r2⟩ := A
  obtain ⟨T', h', X', e', W, k⟩ := stI X hx hZ eT A (j := j) (x := x) (in_of r1 hj (List.getElem?_eq_getElem hi)) (g := mkF m pc Ls (.int x :: .int j :: .ref a :: st)) rfl rfl hd
  exact (G T' h' X' e' W (A0.same W)).stp k
theorem g_castore (X : Stand p l e R s m args below meth c T locs cells slots) (hx : p.tables.exec = Jvm.exec) (hZ : Z.Warmed39 s.vm) (eT : T.heap = h) {a : Addr} {vs : List Value} {j x : Int32} (A : AV Z h a .char vs) (hj : ¬ j < 0) (hi : j.toNatClampNeg < vs.length) (hd : decode c.code pc = .ok (.castore, 1)) (pc' : Nat) (hp : pc + 1 = pc') (G : ∀ T' h', Stand p l e R s m args below meth c T' (locs ++ [⟨a, j.toNatClampNeg⟩]) cells slots → T'.heap = h' → Wr h h' a j.toNatClampNeg (.int (nar .char x)) → AV Z h' a .char (vs.set j.toNatClampNeg (.int (nar .char x))) → Go p e below P T' (mkF m pc' Ls st)) : Go p e below P T (mkF m pc Ls (.int x :: .int j :: .ref a :: st)) := by
  subst hp
  have A0 := A
  obtain ⟨cl, A, r1, r2⟩ := A
  obtain ⟨T', h', X', e', W, k⟩ := stC X hx hZ eT A (j := j) (x := x) (in_of r1 hj (List.getElem?_eq_getElem hi)) (g := mkF m pc Ls (.int x :: .int j :: .ref a :: st)) rfl rfl hd
  exact (G T' h' X' e' W (A0.same W)).stp k
theorem g_bastore (X : Stand p l e R s m args below meth c T locs cells slots) (hx : p.tables.exec = Jvm.exec) (hZ : Z.Warmed39 s.vm) (eT : T.heap = h) {a : Addr} {vs : List Value} {j x : Int32} (A : AV Z h a .byte vs) (hj : ¬ j < 0) (hi : j.toNatClampNeg < vs.length) (hd : decode c.code pc = .ok (.bastore, 1)) (pc' : Nat) (hp : pc + 1 = pc') (G : ∀ T' h', Stand p l e R s m args below meth c T' (locs ++ [⟨a, j.toNatClampNeg⟩]) cells slots → T'.heap = h' → Wr h h' a j.toNatClampNeg (.int (nar .byte x)) → AV Z h' a .byte (vs.set j.toNatClampNeg (.int (nar .byte x))) → Go p e below P T' (mkF m pc' Ls st)) : Go p e below P T (mkF m pc Ls (.int x :: .int j :: .ref a :: st)) := by
  subst hp
  have A0 := A
  obtain ⟨cl, A, r1, r2⟩ := A
  obtain ⟨T', h', X', e', W, k⟩ := stB X hx hZ eT A (j := j) (x := x) (in_of r1 hj (List.getElem?_eq_getElem hi)) (g := mkF m pc Ls (.int x :: .int j :: .ref a :: st)) rfl rfl hd
  exact (G T' h' X' e' W (A0.same W)).stp k
theorem g_newarray (X : Stand p l e R s m args below meth c T locs cells slots) (hx : p.tables.exec = Jvm.exec) (hZ : Z.Warmed39 s.vm) {aty : ArrayType} (w : (Cond.arrayClass (newarray.typeOf aty)).before a0 Z = true) (eT : T.heap = h) {n : Int32} (hn : ¬ n < 0) (cap : Nat) (hcap : n.toNatClampNeg ≤ cap) (hb : cap * 8 ≤ 536870912) (hc : cells + 1 ≤ R.cells) (hl : slots + cap ≤ R.slots) (vs : List Value) (hvs : vs = List.replicate n.toNatClampNeg (defaultValue (newarray.typeOf aty))) (hd : decode c.code pc = .ok (.newarray aty, 2)) (pc' : Nat) (hp : pc + 2 = pc') (G : ∀ T' h' b, Stand p l e R s m args below meth c T' locs (cells + 1) (slots + cap) → T'.heap = h' → b = h.size → Ext h h' → AV Z h' b (newarray.typeOf aty) vs → Go p e below P T' (mkF m pc' Ls (.ref b :: st))) : Go p e below P T (mkF m pc Ls (.int n :: st)) := by
  subst hp
  obtain ⟨T', h', cA, X', e', E, A, k⟩ := newP X hx hZ w eT (g := mkF m pc Ls (.int n :: st)) rfl hd rfl hn hcap hb hc hl
  exact (G T' h' h.size X' e' rfl E (AV.new A vs hvs (by omega))).stp k
theorem g_checkcast (X : Stand p l e R s m args below meth c T locs cells slots) (hx : p.tables.exec = Jvm.exec) (hZ : Z.Warmed39 s.vm) {own : String} (hown : s.vm.findClass own = some m.cls) {K : String} {i : Nat} (w : (Cond.classLink own i K).before a0 Z = true) {a : Addr} (F : Ins Z h a K true) (eT : T.heap = h) (hd : decode c.code pc = .ok (.checkcast i, 3)) (pc' : Nat) (hp : pc + 3 = pc') (G : ∀ T', Stand p l e R s m args below meth c T' locs cells slots → T'.heap = h → Go p e below P T' (mkF m pc' Ls (.ref a :: st))) : Go p e below P T (mkF m pc Ls (.ref a :: st)) := by
  subst hp
  obtain ⟨T', X', e', k⟩ := castY X hx hZ hown w eT F (g := mkF m pc Ls (.ref a :: st)) rfl rfl hd
  exact (G T' X' e').stp k
theorem g_instYes (X : Stand p l e R s m args below meth c T locs cells slots) (hx : p.tables.exec = Jvm.exec) (hZ : Z.Warmed39 s.vm) {own : String} (hown : s.vm.findClass own = some m.cls) {K : String} {i : Nat} (w : (Cond.classLink own i K).before a0 Z = true) {a : Addr} (F : Ins Z h a K true) (eT : T.heap = h) (hd : decode c.code pc = .ok (.instanceof i, 3)) (pc' : Nat) (hp : pc + 3 = pc') (G : ∀ T', Stand p l e R s m args below meth c T' locs cells slots → T'.heap = h → Go p e below P T' (mkF m pc' Ls (.int 1 :: st))) : Go p e below P T (mkF m pc Ls (.ref a :: st)) := by
  subst hp
  obtain ⟨T', X', e', k⟩ := instY X hx hZ hown w eT F (g := mkF m pc Ls (.ref a :: st)) rfl rfl hd
  exact (G T' X' e').stp k
theorem g_instNo (X : Stand p l e R s m args below meth c T locs cells slots) (hx : p.tables.exec = Jvm.exec) (hZ : Z.Warmed39 s.vm) {own : String} (hown : s.vm.findClass own = some m.cls) {K C : String} {i : Nat} (w : (Cond.classLink own i K).before a0 Z = true) {a : Addr} (E : Exa Z h a C) (F : ∃ c t, Z.vm.findClass C = some c ∧ Z.vm.findClass K = some t ∧ Z.vm.assignable c t = false) (eT : T.heap = h) (hd : decode c.code pc = .ok (.instanceof i, 3)) (pc' : Nat) (hp : pc + 3 = pc') (G : ∀ T', Stand p l e R s m args below meth c T' locs cells slots → T'.heap = h → Go p e below P T' (mkF m pc' Ls (.int 0 :: st))) : Go p e below P T (mkF m pc Ls (.ref a :: st)) := by
  subst hp
  obtain ⟨T', X', e', k⟩ := instNo X hx hZ hown w eT E F (g := mkF m pc Ls (.ref a :: st)) rfl rfl hd
  exact (G T' X' e').stp k
theorem g_instNull (X : Stand p l e R s m args below meth c T locs cells slots) (hx : p.tables.exec = Jvm.exec) {i : Nat} (hd : decode c.code pc = .ok (.instanceof i, 3)) (pc' : Nat) (hp : pc + 3 = pc') (G : Go p e below P T (mkF m pc' Ls (.int 0 :: st))) : Go p e below P T (mkF m pc Ls (.null :: st)) := by
  subst hp
  exact G.stp fun _ h => X.instanceofNull hx (g := mkF m pc Ls (.null :: st)) rfl rfl hd _ h
theorem g_aastore (X : Stand p l e R s m args below meth c T locs cells slots) (hx : p.tables.exec = Jvm.exec) (hZ : Z.Warmed39 s.vm) (eT : T.heap = h) {a : Addr} {ty : FieldType} {vs : List Value} {j : Int32} {x : Value} (A : AV Z h a ty vs) (hty : ty.isReference = true) (F : Sto Z h a x) (hj : ¬ j < 0) (hi : j.toNatClampNeg < vs.length) (hd : decode c.code pc = .ok (.aastore, 1)) (pc' : Nat) (hp : pc + 1 = pc') (G : ∀ T' h', Stand p l e R s m args below meth c T' (locs ++ [⟨a, j.toNatClampNeg⟩]) cells slots → T'.heap = h' → Wr h h' a j.toNatClampNeg x → AV Z h' a ty (vs.set j.toNatClampNeg x) → Go p e below P T' (mkF m pc' Ls st)) : Go p e below P T (mkF m pc Ls (x :: .int j :: .ref a :: st)) := by
  subst hp
  have A0 := A
  obtain ⟨cl, A, r1, r2⟩ := A
  obtain ⟨T', h', X', e', W, k⟩ := stR X hx hZ eT A (j := j) (v := x) (in_of r1 hj (List.getElem?_eq_getElem hi)) hty F (g := mkF m pc Ls (x :: .int j :: .ref a :: st)) rfl rfl hd
  exact (G T' h' X' e' W (A0.same W)).stp k
/-- what may lie in the array at a: objects of C -/
def Ov (Z : State) (h : Heap) (a : Addr) (C : String) : Prop := ∃ c : Cell, h[a]? = some c ∧ Ovr Z c.cls C
theorem Ov.keep {h' : Heap} {a : Addr} {ws : List Addr} {C : String} (F : Ov Z h a C) (K : Keep h h' ws) : Ov Z h' a C := by obtain ⟨c, h1, o⟩ := F; obtain ⟨c', h2, e, -⟩ := K.2.2 a c h1; exact ⟨c', h2, by rw [e]; exact o⟩
theorem Ov.ext {h' : Heap} {a : Addr} {C : String} (F : Ov Z h a C) (E : Ext h h') : Ov Z h' a C := by obtain ⟨c, h1, o⟩ := F; exact ⟨c, E.2 _ _ h1, o⟩
theorem Ov.wr {h' : Heap} {a b : Addr} {sl : Nat} {v : Value} {C : String} (F : Ov Z h a C) (W : Wr h h' b sl v) : Ov Z h' a C := by obtain ⟨c, h1, o⟩ := F; obtain ⟨c', h2, e, -⟩ := wr_at W h1; exact ⟨c', h2, by rw [e]; exact o⟩
theorem Ov.lt {a : Addr} {C : String} (F : Ov Z h a C) : a < h.size := by obtain ⟨c, h1, -⟩ := F; exact (Array.getElem?_eq_some_iff.mp h1).1
theorem Ov.sto {a y : Addr} {C : String} {ty : FieldType} {vs : List Value} (F : Ov Z h a C) (A : AV Z h a ty vs) (I : Ins Z h y C true) : Sto Z h a (.ref y) := by
  obtain ⟨c, h1, o⟩ := F
  obtain ⟨c', A', -⟩ := A
  cases h1.symm.trans A'.1
  exact Sto.of A' o I
theorem g_anewarray (X : Stand p l e R s m args below meth c T locs cells slots) (hx : p.tables.exec = Jvm.exec) (hZ : Z.Warmed39 s.vm) {own : String} (hown : s.vm.findClass own = some m.cls) {C : String} {i : Nat} (w1 : (Cond.classLink own i C).before a0 Z = true) (w2 : (Cond.arrayOver (.object C)).before a0 Z = true) (eT : T.heap = h) {n : Int32} (hn : ¬ n < 0) (cap : Nat) (hcap : n.toNatClampNeg ≤ cap) (hb : cap * 8 ≤ 536870912) (hc : cells + 1 ≤ R.cells) (hl : slots + cap ≤ R.slots) (vs : List Value) (hvs : vs = List.replicate n.toNatClampNeg .null) (hd : decode c.code pc = .ok (.anewarray i, 3)) (pc' : Nat) (hp : pc + 3 = pc') (G : ∀ T' h' b, Stand p l e R s m args below meth c T' locs (cells + 1) (slots + cap) → T'.heap = h' → b = h.size → Ext h h' → AV Z h' b (.object C) vs → Ov Z h' b C → Go p e below P T' (mkF m pc' Ls (.ref b :: st))) : Go p e below P T (mkF m pc Ls (.int n :: st)) := by
  subst hp
  obtain ⟨T', h', cA, X', e', E, A, O, k⟩ := newR X hx hZ hown w1 w2 eT (g := mkF m pc Ls (.int n :: st)) rfl hd rfl hn hcap hb hc hl
  exact (G T' h' h.size X' e' rfl E (AV.new A vs hvs (by omega)) ⟨_, A.1, O⟩).stp k
theorem g_reti (X : Stand p l e R s m args below meth c T locs cells slots) (hx : p.tables.exec = Jvm.exec) {z : Int32} (hret : meth.sig.returnType = some .int) (hlk : meth.locks = false) {k n : Nat} {Q : Option Value → Heap → List Loc → Prop} (hk : cells ≤ k) (hn : slots ≤ n) (hd : decode c.code pc = .ok (.ireturn, 1)) (hq : Q (some (.int z)) T.heap locs) : Go p e below (RP s k n Q) T (mkF m pc Ls (.int z :: st)) := by
  obtain ⟨fs, hr, hrun, hended, hW, hsame⟩ := X.leave (v := (some (.int z))) (fun h => by first | rfl | (rw [hret] at h; cases h)) hlk
  exact ⟨_, _, retOut X hx hret rfl (Or.inl ⟨rfl, Or.inl rfl, z, rfl⟩) hd hr, hrun, hended, _, _, rfl, hq, ⟨_, rfl⟩, hW, hsame.mono hk hn⟩
theorem g_retz (X : Stand p l e R s m args below meth c T locs cells slots) (hx : p.tables.exec = Jvm.exec) {z : Int32} (hret : meth.sig.returnType = some .boolean) (hlk : meth.locks = false) {k n : Nat} {Q : Option Value → Heap → List Loc → Prop} (hk : cells ≤ k) (hn : slots ≤ n) (hd : decode c.code pc = .ok (.ireturn, 1)) (hq : Q (some (.int (z &&& 1))) T.heap locs) : Go p e below (RP s k n Q) T (mkF m pc Ls (.int z :: st)) := by
  obtain ⟨fs, hr, hrun, hended, hW, hsame⟩ := X.leave (v := (some (.int (z &&& 1)))) (fun h => by first | rfl | (rw [hret] at h; cases h)) hlk
  exact ⟨_, _, retN X hx (t := .boolean) hret (by simp) hd hr, hrun, hended, _, _, rfl, hq, ⟨_, rfl⟩, hW, hsame.mono hk hn⟩
theorem g_retb (X : Stand p l e R s m args below meth c T locs cells slots) (hx : p.tables.exec = Jvm.exec) {z : Int32} (hret : meth.sig.returnType = some .byte) (hlk : meth.locks = false) {k n : Nat} {Q : Option Value → Heap → List Loc → Prop} (hk : cells ≤ k) (hn : slots ≤ n) (hd : decode c.code pc = .ok (.ireturn, 1)) (hq : Q (some (.int z.toInt8.toInt32)) T.heap locs) : Go p e below (RP s k n Q) T (mkF m pc Ls (.int z :: st)) := by
  obtain ⟨fs, hr, hrun, hended, hW, hsame⟩ := X.leave (v := (some (.int z.toInt8.toInt32))) (fun h => by first | rfl | (rw [hret] at h; cases h)) hlk
  exact ⟨_, _, retN X hx (t := .byte) hret (by simp) hd hr, hrun, hended, _, _, rfl, hq, ⟨_, rfl⟩, hW, hsame.mono hk hn⟩
theorem g_retl (X : Stand p l e R s m args below meth c T locs cells slots) (hx : p.tables.exec = Jvm.exec) {z : Int64} (hret : meth.sig.returnType = some .long) (hlk : meth.locks = false) {k n : Nat} {Q : Option Value → Heap → List Loc → Prop} (hk : cells ≤ k) (hn : slots ≤ n) (hd : decode c.code pc = .ok (.lreturn, 1)) (hq : Q (some (.long z)) T.heap locs) : Go p e below (RP s k n Q) T (mkF m pc Ls (.long z :: st)) := by
  obtain ⟨fs, hr, hrun, hended, hW, hsame⟩ := X.leave (v := (some (.long z))) (fun h => by first | rfl | (rw [hret] at h; cases h)) hlk
  exact ⟨_, _, retOut X hx hret rfl (Or.inr (Or.inl ⟨rfl, rfl, z, rfl⟩)) hd hr, hrun, hended, _, _, rfl, hq, ⟨_, rfl⟩, hW, hsame.mono hk hn⟩
theorem g_reta (X : Stand p l e R s m args below meth c T locs cells slots) (hx : p.tables.exec = Jvm.exec) {v : Value} {t : FieldType} (hv : v.isRef = true) (ht : t.isReference = true) (hret : meth.sig.returnType = some t) (hlk : meth.locks = false) {k n : Nat} {Q : Option Value → Heap → List Loc → Prop} (hk : cells ≤ k) (hn : slots ≤ n) (hd : decode c.code pc = .ok (.areturn, 1)) (hq : Q (some v) T.heap locs) : Go p e below (RP s k n Q) T (mkF m pc Ls (v :: st)) := by
  obtain ⟨fs, hr, hrun, hended, hW, hsame⟩ := X.leave (v := (some v)) (fun h => by first | rfl | (rw [hret] at h; cases h)) hlk
  exact ⟨_, _, retOut X hx hret (by cases t <;> first | (cases ht; done) | rfl) (Or.inr (Or.inr (Or.inr (Or.inr ⟨rfl, ht, hv⟩)))) hd hr, hrun, hended, _, _, rfl, hq, ⟨_, rfl⟩, hW, hsame.mono hk hn⟩
theorem g_retv (X : Stand p l e R s m args below meth c T locs cells slots) (hx : p.tables.exec = Jvm.exec) (hret : meth.sig.returnType = none) (hlk : meth.locks = false) {k n : Nat} {Q : Option Value → Heap → List Loc → Prop} (hk : cells ≤ k) (hn : slots ≤ n) (hd : decode c.code pc = .ok (.return_, 1)) (hq : Q none T.heap locs) : Go p e below (RP s k n Q) T (mkF m pc Ls []) := by
  obtain ⟨fs, hr, hrun, hended, hW, hsame⟩ := X.leave (v := none) (fun _ => rfl) hlk
  exact ⟨_, _, X.returnOut hx hret hd hr, hrun, hended, _, _, rfl, hq, ⟨_, rfl⟩, hW, hsame.mono hk hn⟩
/-- what a method does, called with these arguments over this heap -/
def Co (l : Launch) (y : MethodName) (bytes : ByteArray) (maxL : Nat) (ret : Option FieldType) (ws : List Jvm.Cond) (rm : Room) (Z : State) (h : Heap) (as : Array Value) (Q : Option Value → Heap → List Loc → Prop) : Prop := MetFree l y (head1 (Jvm.Cond.code y bytes maxL ret :: ws) rm) (fun a U => a = as ∧ Z.Warmed39 U.vm ∧ U.heap = h) (fun _ _ _ _ _ => True) (fun _ U o U' => ∃ v L, o = .returned v ∧ Q v U'.heap L ∧ FrameEnd U o U' L rm.cells rm.slots)
theorem Co.of {y : MethodName} {bytes : ByteArray} {maxL : Nat} {ret : Option FieldType} {ws : List Jvm.Cond} {rm : Room} {as : Array Value} {Q : Option Value → Heap → List Loc → Prop} (hpl : plainFor y = true) (body : ∀ (p : Program) (e : Env) (s : State) (m : MethodId) (below : List Frame) (meth : Method) (c : Code) (T : State), Stand p l e rm s m as below meth c T [] 0 0 → p.tables.exec = Jvm.exec → c.code = bytes → c.maxLocals = maxL → s.vm.findClass y.cls = some m.cls → meth.name = y.name → meth.sig.returnType = ret → meth.locks = false → Z.Warmed39 s.vm → T.heap = h → Go p e below (RP s rm.cells rm.slots Q) T (entryFrame m as maxL)) : Co l y bytes maxL ret ws rm Z h as Q := by
  refine MetFree.of_bodySF hpl hisR ?_
  intro p e s m args below meth c s₁ Bd hml hP hK
  obtain ⟨rfl, hZ, hh⟩ := hP
  exact body p e s m below meth c s₁ (Stand.of_body Bd) Bd.exec Bd.bytes hml (findClass_of_methodNamed Bd.named) (name_of_methodNamed Bd.named Bd.method).1 Bd.returns (BodyLoose.notSynchronized Bd) hZ (by rw [← hh, Bd.state]; rfl)
theorem g_callS (X : Stand p l e R s m args below meth c T locs cells slots) (hx : p.tables.exec = Jvm.exec) (hZ : Z.Warmed39 s.vm) {own : String} (hown : s.vm.findClass own = some m.cls) {i : Nat} {y : MethodName} {bytes : ByteArray} {maxL : Nat} {ret : Option FieldType} (w1 : (Cond.methodLink own i y).before a0 Z = true) (w2 : (Cond.static y).before a0 Z = true) (w3 : (Cond.initialized y.cls).before a0 Z = true) (w4 : (Cond.code y bytes maxL ret).before a0 Z = true)  (hy : y.cls ≠ "java/lang/invoke/MethodHandle" ∧ y.cls ≠ "java/lang/invoke/VarHandle") (eT : T.heap = h) {rm : Room} {Q : Option Value → Heap → List Loc → Prop} {St : List Value} (argsL rest : List Value) (hs : St = argsL.reverse ++ rest) (M : Co l y bytes maxL ret [] rm Z h argsL.toArray Q) (hlen : ∀ sig, parseMethodDescriptor y.desc = some sig → argsL.length = sig.parameters.length) (W : Nat) (hW : (rest.map fun v => v.category).sum ≤ W) (hf : rm.frames + 1 ≤ R.frames) (hl : W + (maxL + 11) + rm.locals ≤ R.locals) (hc : cells + rm.cells ≤ R.cells) (hsl : slots + rm.slots ≤ R.slots) (hsz : Ls.size = c.maxLocals) (hd : decode c.code pc = .ok (.invokestatic i, 3)) (pc' : Nat) (hp : pc + 3 = pc') (G : ∀ v T' L, Stand p l e R s m args below meth c T' (locs ++ L) (cells + rm.cells) (slots + rm.slots) → Q v T'.heap L → Go p e below P T' (mkF m pc' Ls (v.toList ++ rest))) : Go p e below P T (mkF m pc Ls St) := by
  subst hp
  obtain ⟨v, vm1, ⟨T', L', k', n'⟩, -, X', ⟨L, hQ, h1, h2, h3⟩, k⟩ := Jvm.LawKit.callS X hx (y := y) hown (mvT hZ w1) (mvT hZ w2) (mvT hZ w3) (mvT hZ w4) hy (backOf (W := W) M hZ w4 w3 hf hl) (g := mkF m pc Ls St) rfl hsz (argsL := argsL) (rest := rest) hlen hs (by show 2 * 0 + _ ≤ W; omega) hd (fun _ _ => ⟨rfl, eT, hc, hsl⟩)
  dsimp only [Pt.U, Pt.locs, Pt.cells, Pt.slots] at X' h1 h2 h3 k hQ
  subst h1 h2 h3
  exact (G v T' L X' hQ).stp k
theorem g_init (X : Stand p l e R s m args below meth c T locs cells slots) (hx : p.tables.exec = Jvm.exec) (hZ : Z.Warmed39 s.vm) {own : String} (hown : s.vm.findClass own = some m.cls) {i : Nat} {y : MethodName} {bytes : ByteArray} {maxL : Nat} (w1 : (Cond.methodLink own i y).before a0 Z = true) (hnm : y.name = "<init>") (w2 : (Cond.instanceMethod y).before a0 Z = true) (w3 : (Cond.initialized y.cls).before a0 Z = true) (w4 : (Cond.code y bytes maxL none).before a0 Z = true)  (hy : y.cls ≠ "java/lang/invoke/MethodHandle" ∧ y.cls ≠ "java/lang/invoke/VarHandle") (eT : T.heap = h) {rm : Room} {Q : Option Value → Heap → List Loc → Prop} {St : List Value} (argsL rest : List Value) {a : Addr} (hs : St = argsL.reverse ++ .ref a :: rest) (M : Co l y bytes maxL none [] rm Z h (.ref a :: argsL).toArray Q) (hlen : ∀ sig, parseMethodDescriptor y.desc = some sig → argsL.length = sig.parameters.length) (W : Nat) (hW : (rest.map fun v => v.category).sum ≤ W) (hf : rm.frames + 1 ≤ R.frames) (hl : W + (maxL + 11) + rm.locals ≤ R.locals) (hc : cells + rm.cells ≤ R.cells) (hsl : slots + rm.slots ≤ R.slots) (hsz : Ls.size = c.maxLocals) (hd : decode c.code pc = .ok (.invokespecial i, 3)) (pc' : Nat) (hp : pc + 3 = pc') (G : ∀ v T' L, Stand p l e R s m args below meth c T' (locs ++ L) (cells + rm.cells) (slots + rm.slots) → Q v T'.heap L → Go p e below P T' (mkF m pc' Ls (v.toList ++ rest))) : Go p e below P T (mkF m pc Ls St) := by
  subst hp
  obtain ⟨v, vm1, ⟨T', L', k', n'⟩, -, X', ⟨L, hQ, h1, h2, h3⟩, k⟩ := X.specialBack hx (y := y) hnm hown (mvT hZ w1) (mvT hZ w2) (mvT hZ w4) hy (backOf (W := W) M hZ w4 w3 hf hl) (g := mkF m pc Ls St) rfl hsz (Steps.refl _) (a := a) (argsL := argsL) (rest := rest) hlen hs (by show 2 * 0 + _ ≤ W; omega) hd (fun _ _ => ⟨rfl, eT, hc, hsl⟩)
  dsimp only [Pt.U, Pt.locs, Pt.cells, Pt.slots] at X' h1 h2 h3 k hQ
  subst h1 h2 h3
  exact (G v T' L X' hQ).stp fun _ j => k.trans j
theorem g_callV (X : Stand p l e R s m args below meth c T locs cells slots) (hx : p.tables.exec = Jvm.exec) (hZ : Z.Warmed39 s.vm) {own : String} (hown : s.vm.findClass own = some m.cls) {i : Nat} {y : MethodName} {bytes : ByteArray} {maxL : Nat} {ret : Option FieldType} (w1 : (Cond.methodLink own i y).before a0 Z = true) {C : String} (w2 : (Cond.declares y).before a0 Z = true) (w5 : (Cond.selects C y y).before a0 Z = true) (w6 : (Cond.instanceMethod y).before a0 Z = true) (w3 : (Cond.initialized y.cls).before a0 Z = true) (w4 : (Cond.code y bytes maxL ret).before a0 Z = true)  (hy : y.cls ≠ "java/lang/invoke/MethodHandle" ∧ y.cls ≠ "java/lang/invoke/VarHandle") (eT : T.heap = h) {rm : Room} {Q : Option Value → Heap → List Loc → Prop} {St : List Value} (argsL rest : List Value) {a : Addr} (E : Exa Z h a C) (hs : St = argsL.reverse ++ .ref a :: rest) (M : Co l y bytes maxL ret [] rm Z h (.ref a :: argsL).toArray Q) (hlen : ∀ sig, parseMethodDescriptor y.desc = some sig → argsL.length = sig.parameters.length) (W : Nat) (hW : (rest.map fun v => v.category).sum ≤ W) (hf : rm.frames + 1 ≤ R.frames) (hl : W + (maxL + 11) + rm.locals ≤ R.locals) (hc : cells + rm.cells ≤ R.cells) (hsl : slots + rm.slots ≤ R.slots) (hsz : Ls.size = c.maxLocals) (hd : decode c.code pc = .ok (.invokevirtual i, 3)) (pc' : Nat) (hp : pc + 3 = pc') (G : ∀ v T' L, Stand p l e R s m args below meth c T' (locs ++ L) (cells + rm.cells) (slots + rm.slots) → Q v T'.heap L → Go p e below P T' (mkF m pc' Ls (v.toList ++ rest))) : Go p e below P T (mkF m pc Ls St) := by
  subst hp
  obtain ⟨cq, kq, qa, qb, qc⟩ := isOf hZ eT E
  obtain ⟨v, vm1, ⟨T', L', k', n'⟩, -, X', ⟨L, hQ, h1, h2, h3⟩, k⟩ := X.virtualBack hx (y := y) (z := y) hown (mvT hZ w1) (mvT hZ w2) (notFace_of_selects (args := #[]) (mvT hZ w5)) (mvT hZ w5) (mvT hZ w6) hy (backOf (W := W) M hZ w4 w3 hf hl) qa qc (g := mkF m pc Ls St) rfl hsz (Steps.refl _) (argsL := argsL) (rest := rest) hlen hs (by show 2 * 0 + _ ≤ W; omega) hd (fun _ _ => ⟨rfl, eT, hc, hsl⟩)
  dsimp only [Pt.U, Pt.locs, Pt.cells, Pt.slots] at X' h1 h2 h3 k hQ
  subst h1 h2 h3
  exact (G v T' L X' hQ).stp fun _ j => k.trans j
theorem g_callP (X : Stand p l e R s m args below meth c T locs cells slots) (hx : p.tables.exec = Jvm.exec) (hZ : Z.Warmed39 s.vm) {own : String} (hown : s.vm.findClass own = some m.cls) {i : Nat} {y : MethodName} {bytes : ByteArray} {maxL : Nat} {ret : Option FieldType} (w1 : (Cond.methodLink own i y).before a0 Z = true) {n : Nat} (w2 : (Cond.instanceMethod y).before a0 Z = true) (w5 : (Cond.privateMethod y).before a0 Z = true) (wi : (Cond.instantiable y.cls n).before a0 Z = true) (w3 : (Cond.initialized y.cls).before a0 Z = true) (w4 : (Cond.code y bytes maxL ret).before a0 Z = true)  (hy : y.cls ≠ "java/lang/invoke/MethodHandle" ∧ y.cls ≠ "java/lang/invoke/VarHandle") (eT : T.heap = h) {rm : Room} {Q : Option Value → Heap → List Loc → Prop} {St : List Value} (argsL rest : List Value) {a : Addr} (E : Exa Z h a y.cls) (hs : St = argsL.reverse ++ .ref a :: rest) (M : Co l y bytes maxL ret [] rm Z h (.ref a :: argsL).toArray Q) (hlen : ∀ sig, parseMethodDescriptor y.desc = some sig → argsL.length = sig.parameters.length) (W : Nat) (hW : (rest.map fun v => v.category).sum ≤ W) (hf : rm.frames + 1 ≤ R.frames) (hl : W + (maxL + 11) + rm.locals ≤ R.locals) (hc : cells + rm.cells ≤ R.cells) (hsl : slots + rm.slots ≤ R.slots) (hsz : Ls.size = c.maxLocals) (hd : decode c.code pc = .ok (.invokevirtual i, 3)) (pc' : Nat) (hp : pc + 3 = pc') (G : ∀ v T' L, Stand p l e R s m args below meth c T' (locs ++ L) (cells + rm.cells) (slots + rm.slots) → Q v T'.heap L → Go p e below P T' (mkF m pc' Ls (v.toList ++ rest))) : Go p e below P T (mkF m pc Ls St) := by
  subst hp
  obtain ⟨cl, q1, q2⟩ := E.cell
  have wi' : (Cond.instantiable y.cls n).before args s = true := mv hZ wi
  obtain ⟨ci, ki, i1, i2, i3, i4, -⟩ := Cond.instantiable_spec wi'
  have hpr : s.PrivateAt y := Cond.privateMethod_at (mvP hZ w5 (args := #[]))
  have hsel : (Cond.selects y.cls y y).before args s = true := selects_self_of_private i1 i2 (by simp only [Bool.or_eq_false_iff] at i4; exact i4.1) hpr (mv hZ w2) hy
  obtain ⟨v, vm1, ⟨T', L', k', n'⟩, -, X', ⟨L, hQ, h1, h2, h3⟩, k⟩ := X.privateBack hx (y := y) hown (mvT hZ w1) (mvT hZ w2) hsel hpr (mvT hZ w4) hy (backOf (W := W) M hZ w4 w3 hf hl) (g := mkF m pc Ls St) rfl hsz (Steps.refl _) (a := a) (by rw [eT]; exact q1) q2 (argsL := argsL) (rest := rest) hlen hs (by show 2 * 0 + _ ≤ W; omega) hd (fun _ _ => ⟨rfl, eT, hc, hsl⟩)
  dsimp only [Pt.U, Pt.locs, Pt.cells, Pt.slots] at X' h1 h2 h3 k hQ
  subst h1 h2 h3
  exact (G v T' L X' hQ).stp fun _ j => k.trans j
def Pu (h : Heap) (v : Option Value) (r : Option Value) (h' : Heap) (L : List Loc) : Prop := r = v ∧ h' = h ∧ L = []
theorem pu_cont {v : Option Value} {fr lo : Nat} {pc' : Nat} {rest : List Value} (G : ∀ T', Stand p l e R s m args below meth c T' locs cells slots → T'.heap = h → Go p e below P T' (mkF m pc' Ls (v.toList ++ rest))) : ∀ v' T' L, Stand p l e R s m args below meth c T' (locs ++ L) (cells + ({ frames := fr, cells := 0, slots := 0, locals := lo } : Room).cells) (slots + ({ frames := fr, cells := 0, slots := 0, locals := lo } : Room).slots) → Pu h v v' T'.heap L → Go p e below P T' (mkF m pc' Ls (v'.toList ++ rest)) := by
  rintro v' T' L X ⟨rfl, e1, rfl⟩
  exact G T' (by simpa using X) e1
theorem Go.joinT {α : Type} {g : JFrame} (X : Stand p l e R s m args below meth c T locs cells slots) (eT : T.heap = h) (f : α → JFrame) (Pz : α → Prop) (J : ∀ T', Stand p l e R s m args below meth c T' locs cells slots → T'.heap = h → ∀ z, Pz z → Go p e below P T' (f z)) (K : (∀ T', Stand p l e R s m args below meth c T' locs cells slots → T'.heap = h → ∀ z, Pz z → Go p e below P T' (f z)) → Go p e below P T g) : Go p e below P T g := K J
theorem Go.joinH {α : Type} {g : JFrame} (X : Stand p l e R s m args below meth c T locs cells slots) (f : α → JFrame) (Pz : Heap → List Loc → α → Prop) (kc kn : Nat) (J : ∀ T' h' locs', Stand p l e R s m args below meth c T' locs' kc kn → T'.heap = h' → ∀ z, Pz h' locs' z → Go p e below P T' (f z)) (K : (∀ T' h' locs', Stand p l e R s m args below meth c T' locs' kc kn → T'.heap = h' → ∀ z, Pz h' locs' z → Go p e below P T' (f z)) → Go p e below P T g) : Go p e below P T g := K J
theorem Go.loop {α : Type} (X : Stand p l e R s m args below meth c T locs cells slots) (eT : T.heap = h) (f : α → JFrame) (μ : α → Nat) (Pz : α → Prop) (body : ∀ z, Pz z → (∀ T', Stand p l e R s m args below meth c T' locs cells slots → T'.heap = h → ∀ z', Pz z' → μ z' < μ z → Go p e below P T' (f z')) → ∀ T', Stand p l e R s m args below meth c T' locs cells slots → T'.heap = h → Go p e below P T' (f z)) (z : α) (hz : Pz z) : Go p e below P T (f z) := by
  have key : ∀ n, ∀ z, μ z < n → Pz z → ∀ T', Stand p l e R s m args below meth c T' locs cells slots → T'.heap = h → Go p e below P T' (f z) := by
    intro n
    induction n with
    | zero => intro z hn; exact absurd hn (Nat.not_lt_zero _)
    | succ n ih =>
      intro z hn hz T' X' e'
      exact body z hz (fun T2 X2 e2 z2 hz2 hlt => ih z2 (by omega) hz2 T2 X2 e2) T' X' e'
  exact key (μ z + 1) z (Nat.lt_succ_self _) hz T X eT
theorem Go.loopH {α : Type} (X : Stand p l e R s m args below meth c T locs cells slots) (eT : T.heap = h) (f : α → JFrame) (μ : α → Nat) (Pz : Heap → List Loc → α → Prop) (body : ∀ z h' locs', Pz h' locs' z → (∀ T' h2 locs2, Stand p l e R s m args below meth c T' locs2 cells slots → T'.heap = h2 → ∀ z', Pz h2 locs2 z' → μ z' < μ z → Go p e below P T' (f z')) → ∀ T', Stand p l e R s m args below meth c T' locs' cells slots → T'.heap = h' → Go p e below P T' (f z)) (z : α) (hz : Pz h locs z) : Go p e below P T (f z) := by
  have key : ∀ n, ∀ z h' locs', μ z < n → Pz h' locs' z → ∀ T', Stand p l e R s m args below meth c T' locs' cells slots → T'.heap = h' → Go p e below P T' (f z) := by
    intro n
    induction n with
    | zero => intro z h' locs' hn; exact absurd hn (Nat.not_lt_zero _)
    | succ n ih =>
      intro z h' locs' hn hz T' X' e'
      exact body z h' locs' hz (fun T2 h2 locs2 X2 e2 z2 hz2 hlt => ih z2 h2 locs2 (by omega) hz2 T2 X2 e2) T' X' e'
  exact key (μ z + 1) z h locs (Nat.lt_succ_self _) hz T X eT
theorem own_sta_keep {C n d : String} {v : Value} {h' : Heap} {ws : List Addr} (F : Sta Z h C n d v) (K : Keep h h' ws) (q : ∀ x ∈ ws, ∀ cell : Cell, h[x]? = some cell → cell.vm.isStatics = false) : Sta Z h' C n d v := by
  obtain ⟨cf, i, k, f, st, cell, h1, h2, h3, h4, h5, h6, h7⟩ := F
  exact ⟨cf, i, k, f, st, cell, h1, h2, h3, h4, K.2.1 st cell h5 (fun hm => by rw [q st hm cell h5] at h6; cases h6), h6, h7⟩
end OwnGo
def ln (v0 : Int64) : Nat := (if (v0 >>> ((55 : Int32) &&& 0x3f).toInt64) = (v0 >>> ((63 : Int32) &&& 0x3f).toInt64) then (if (v0 >>> ((47 : Int32) &&& 0x3f).toInt64) = (v0 >>> ((63 : Int32) &&& 0x3f).toInt64) then (if (v0 >>> ((39 : Int32) &&& 0x3f).toInt64) = (v0 >>> ((63 : Int32) &&& 0x3f).toInt64) then (if (v0 >>> ((31 : Int32) &&& 0x3f).toInt64) = (v0 >>> ((63 : Int32) &&& 0x3f).toInt64) then (if (v0 >>> ((23 : Int32) &&& 0x3f).toInt64) = (v0 >>> ((63 : Int32) &&& 0x3f).toInt64) then (if (v0 >>> ((15 : Int32) &&& 0x3f).toInt64) = (v0 >>> ((63 : Int32) &&& 0x3f).toInt64) then (if (v0 >>> ((7 : Int32) &&& 0x3f).toInt64) = (v0 >>> ((63 : Int32) &&& 0x3f).toInt64) then 1 else 2) else 3) else 4) else 5) else 6) else 7) else 8)
def by8 (v0 : Int64) (k : Int32) : Int32 := (v0 >>> (k &&& 0x3f).toInt64).toInt32.toInt8.toInt32.toInt8.toInt32
def wr (v0 : Int64) : Nat → List Value
  | 1 => [(.int (by8 v0 (0 : Int32)))]
  | 2 => [(.int (by8 v0 (8 : Int32))), (.int (by8 v0 (0 : Int32)))]
  | 3 => [(.int (by8 v0 (16 : Int32))), (.int (by8 v0 (8 : Int32))), (.int (by8 v0 (0 : Int32)))]
  | 4 => [(.int (by8 v0 (24 : Int32))), (.int (by8 v0 (16 : Int32))), (.int (by8 v0 (8 : Int32))), (.int (by8 v0 (0 : Int32)))]
  | 5 => [(.int (by8 v0 (32 : Int32))), (.int (by8 v0 (24 : Int32))), (.int (by8 v0 (16 : Int32))), (.int (by8 v0 (8 : Int32))), (.int (by8 v0 (0 : Int32)))]
  | 6 => [(.int (by8 v0 (40 : Int32))), (.int (by8 v0 (32 : Int32))), (.int (by8 v0 (24 : Int32))), (.int (by8 v0 (16 : Int32))), (.int (by8 v0 (8 : Int32))), (.int (by8 v0 (0 : Int32)))]
  | 7 => [(.int (by8 v0 (48 : Int32))), (.int (by8 v0 (40 : Int32))), (.int (by8 v0 (32 : Int32))), (.int (by8 v0 (24 : Int32))), (.int (by8 v0 (16 : Int32))), (.int (by8 v0 (8 : Int32))), (.int (by8 v0 (0 : Int32)))]
  | 8 => [(.int (by8 v0 (56 : Int32))), (.int (by8 v0 (48 : Int32))), (.int (by8 v0 (40 : Int32))), (.int (by8 v0 (32 : Int32))), (.int (by8 v0 (24 : Int32))), (.int (by8 v0 (16 : Int32))), (.int (by8 v0 (8 : Int32))), (.int (by8 v0 (0 : Int32)))]
  | _ => []
def Q1 (Z : State) (v0 : Int64) (h0 : Heap) (n0 : Nat) (v : Option Value) (h : Heap) (L : List Loc) : Prop := ∃ b, v = some (.ref b) ∧ Fr n0 L ∧ Keep h0 h [] ∧ h0.size ≤ b ∧ AV Z h b .byte (wr v0 (ln v0))
theorem ef1 (m_ : MethodId) (v0 : Int64)  : entryFrame m_ #[(.long v0)] 5 = mkF m_ 0 #[.val (.long v0), .second, .unset, .unset, .unset] [] := by first | (simp [entryFrame, mkF, argsToLocals, Value.category]; done) | rfl
theorem pn_0 : plainName "com/example/bindwick/bindwick/BERWriter" = true := by first | (simp [plainName, overriddenIn]; done) | decide +kernel
theorem d1_0 : decode prog_28_method_12_code 0 = .ok (.bipush 8, 2) := by decide +kernel
theorem d1_2 : decode prog_28_method_12_code 2 = .ok (.istore_n 2, 1) := by decide +kernel
theorem d1_3 : decode prog_28_method_12_code 3 = .ok (.iload_n 2, 1) := by decide +kernel
theorem d1_4 : decode prog_28_method_12_code 4 = .ok (.iconst 1, 1) := by decide +kernel
theorem d1_5 : decode prog_28_method_12_code 5 = .ok (.if_icmp .le 27, 3) := by decide +kernel
theorem d1_8 : decode prog_28_method_12_code 8 = .ok (.lload_n 0, 1) := by decide +kernel
theorem d1_9 : decode prog_28_method_12_code 9 = .ok (.bipush 8, 2) := by decide +kernel
theorem d1_11 : decode prog_28_method_12_code 11 = .ok (.iload_n 2, 1) := by decide +kernel
theorem d1_12 : decode prog_28_method_12_code 12 = .ok (.iconst 1, 1) := by decide +kernel
theorem d1_13 : decode prog_28_method_12_code 13 = .ok (.isub, 1) := by decide +kernel
theorem d1_14 : decode prog_28_method_12_code 14 = .ok (.imul, 1) := by decide +kernel
theorem d1_15 : decode prog_28_method_12_code 15 = .ok (.iconst 1, 1) := by decide +kernel
theorem d1_16 : decode prog_28_method_12_code 16 = .ok (.isub, 1) := by decide +kernel
theorem d1_17 : decode prog_28_method_12_code 17 = .ok (.lshr, 1) := by decide +kernel
theorem d1_18 : decode prog_28_method_12_code 18 = .ok (.lload_n 0, 1) := by decide +kernel
theorem d1_19 : decode prog_28_method_12_code 19 = .ok (.bipush 63, 2) := by decide +kernel
theorem d1_21 : decode prog_28_method_12_code 21 = .ok (.lshr, 1) := by decide +kernel
theorem d1_22 : decode prog_28_method_12_code 22 = .ok (.lcmp, 1) := by decide +kernel
theorem d1_23 : decode prog_28_method_12_code 23 = .ok (.ifCond .ne 9, 3) := by decide +kernel
theorem d1_32 : decode prog_28_method_12_code 32 = .ok (.iload_n 2, 1) := by decide +kernel
theorem d1_33 : decode prog_28_method_12_code 33 = .ok (.newarray .byte, 2) := by decide +kernel
theorem d1_35 : decode prog_28_method_12_code 35 = .ok (.astore_n 3, 1) := by decide +kernel
theorem d1_36 : decode prog_28_method_12_code 36 = .ok (.iconst 0, 1) := by decide +kernel
theorem d1_37 : decode prog_28_method_12_code 37 = .ok (.istore 4, 2) := by decide +kernel
theorem d1_39 : decode prog_28_method_12_code 39 = .ok (.iload 4, 2) := by decide +kernel
theorem d1_41 : decode prog_28_method_12_code 41 = .ok (.iload_n 2, 1) := by decide +kernel
theorem d1_42 : decode prog_28_method_12_code 42 = .ok (.if_icmp .ge 26, 3) := by decide +kernel
theorem d1_45 : decode prog_28_method_12_code 45 = .ok (.aload_n 3, 1) := by decide +kernel
theorem d1_46 : decode prog_28_method_12_code 46 = .ok (.iload 4, 2) := by decide +kernel
theorem d1_48 : decode prog_28_method_12_code 48 = .ok (.lload_n 0, 1) := by decide +kernel
theorem d1_49 : decode prog_28_method_12_code 49 = .ok (.bipush 8, 2) := by decide +kernel
theorem d1_51 : decode prog_28_method_12_code 51 = .ok (.iload_n 2, 1) := by decide +kernel
theorem d1_52 : decode prog_28_method_12_code 52 = .ok (.iconst 1, 1) := by decide +kernel
theorem d1_53 : decode prog_28_method_12_code 53 = .ok (.isub, 1) := by decide +kernel
theorem d1_54 : decode prog_28_method_12_code 54 = .ok (.iload 4, 2) := by decide +kernel
theorem d1_56 : decode prog_28_method_12_code 56 = .ok (.isub, 1) := by decide +kernel
theorem d1_57 : decode prog_28_method_12_code 57 = .ok (.imul, 1) := by decide +kernel
theorem d1_58 : decode prog_28_method_12_code 58 = .ok (.lshr, 1) := by decide +kernel
theorem d1_59 : decode prog_28_method_12_code 59 = .ok (.l2i, 1) := by decide +kernel
theorem d1_60 : decode prog_28_method_12_code 60 = .ok (.i2b, 1) := by decide +kernel
theorem d1_61 : decode prog_28_method_12_code 61 = .ok (.bastore, 1) := by decide +kernel
theorem d1_62 : decode prog_28_method_12_code 62 = .ok (.iinc 4 1, 3) := by decide +kernel
theorem d1_65 : decode prog_28_method_12_code 65 = .ok (.goto (-26), 3) := by decide +kernel
theorem d1_68 : decode prog_28_method_12_code 68 = .ok (.aload_n 3, 1) := by decide +kernel
theorem d1_69 : decode prog_28_method_12_code 69 = .ok (.areturn, 1) := by decide +kernel
theorem d1_26 : decode prog_28_method_12_code 26 = .ok (.iinc 2 (-1), 3) := by decide +kernel
theorem d1_29 : decode prog_28_method_12_code 29 = .ok (.goto (-26), 3) := by decide +kernel
set_option maxRecDepth 65536 in
set_option maxHeartbeats 40000000 in
theorem co1 (l : Launch) (Z : State) (a0 : Array Value) (hw : ∀ d ∈ tables_1, d.before a0 Z = true) (v0 : Int64) (h0 : Heap) (n0 : Nat) (Z0 : n0 ≤ h0.size)    : Co l (⟨"com/example/bindwick/bindwick/BERWriter", "integerValue", "(J)[B"⟩ : MethodName) prog_28_method_12_code 5 (some (.array .byte)) [] ({ frames := 0, cells := 1, slots := 8, locals := 0 } : Room) Z h0 #[(.long v0)] (Q1 Z v0 h0 n0) := by
  refine Co.of (plainFor_of_name pn_0) ?_
  intro p_ e_ s_ m_ below meth c_ T0 X0 hx hby hml hown hnm hret hlk hZ eq0
  have N0 := Fr.nil n0
  refine Go.cast (ef1 m_ v0 ) ?_
  refine g_bipush X0 hx (8 : Int32) rfl (hb hby d1_0) 2 rfl ?_
  refine g_istoreN X0 hx #[.val (.long v0), .second, .val (.int (8 : Int32)), .unset, .unset] rfl (hb hby d1_2) 3 rfl ?_
  refine g_iloadN X0 hx rfl (hb hby d1_3) 4 rfl ?_
  refine g_iconst X0 hx (1 : Int32) rfl (hb hby d1_4) 5 rfl ?_
  refine g_icmp_le X0 hx (hb hby d1_5) 32 8 (by decide) rfl rfl (fun q101 => ?_) (fun q101 => ?_)
  · exact absurd q101 (by decide)
  · refine g_lloadN X0 hx rfl (hb hby d1_8) 9 rfl ?_
    refine g_bipush X0 hx (8 : Int32) rfl (hb hby d1_9) 11 rfl ?_
    refine g_iloadN X0 hx rfl (hb hby d1_11) 12 rfl ?_
    refine g_iconst X0 hx (1 : Int32) rfl (hb hby d1_12) 13 rfl ?_
    refine g_isub X0 hx (hb hby d1_13) 14 rfl ?_
    show Go p_ e_ below _ T0 (mkF m_ 14 #[.val (.long v0), .second, .val (.int (8 : Int32)), .unset, .unset] [(.int (7 : Int32)), (.int (8 : Int32)), (.long v0)])
    refine g_imul X0 hx (hb hby d1_14) 15 rfl ?_
    show Go p_ e_ below _ T0 (mkF m_ 15 #[.val (.long v0), .second, .val (.int (8 : Int32)), .unset, .unset] [(.int (56 : Int32)), (.long v0)])
    refine g_iconst X0 hx (1 : Int32) rfl (hb hby d1_15) 16 rfl ?_
    refine g_isub X0 hx (hb hby d1_16) 17 rfl ?_
    show Go p_ e_ below _ T0 (mkF m_ 17 #[.val (.long v0), .second, .val (.int (8 : Int32)), .unset, .unset] [(.int (55 : Int32)), (.long v0)])
    refine g_lshr X0 hx (hb hby d1_17) 18 rfl ?_
    refine g_lloadN X0 hx rfl (hb hby d1_18) 19 rfl ?_
    refine g_bipush X0 hx (63 : Int32) rfl (hb hby d1_19) 21 rfl ?_
    refine g_lshr X0 hx (hb hby d1_21) 22 rfl ?_
    refine g_lif_ne X0 hx (hb hby d1_22) 23 rfl (hb hby d1_23) 32 26 (by decide) rfl rfl (fun q102 => ?_) (fun q102 => ?_)
    · refine g_iloadN X0 hx rfl (hb hby d1_32) 33 rfl ?_
      refine g_newarray X0 hx hZ (aty := .byte) (wd hw 4 rfl) eq0 (by decide) 8 (by decide) (by decide) (by decide) (by decide) [(.int (0 : Int32)), (.int (0 : Int32)), (.int (0 : Int32)), (.int (0 : Int32)), (.int (0 : Int32)), (.int (0 : Int32)), (.int (0 : Int32)), (.int (0 : Int32))] rfl (hb hby d1_33) 35 rfl (fun T103 h104 b105 X106 e107 g108 E109 A110 => ?_)
      have sz111 : n0 ≤ b105 := Nat.le_trans Z0 (Nat.le_of_eq g108.symm)
      have szh112 : n0 ≤ h104.size := Nat.le_trans Z0 E109.1
      have szk113 : h0.size ≤ b105 := Nat.le_trans (Keep.refl h0 []).1 (Nat.le_of_eq g108.symm)
      have K114 := (Keep.refl h0 []).ext E109
      have A115 : AV Z h104 b105 .byte [(.int (0 : Int32)), (.int (0 : Int32)), (.int (0 : Int32)), (.int (0 : Int32)), (.int (0 : Int32)), (.int (0 : Int32)), (.int (0 : Int32)), (.int (0 : Int32))] := A110
      show Go p_ e_ below _ T103 (mkF m_ 35 #[.val (.long v0), .second, .val (.int (8 : Int32)), .unset, .unset] [(.ref b105)])
      refine g_astoreN X106 hx #[.val (.long v0), .second, .val (.int (8 : Int32)), .val (.ref b105), .unset] rfl rfl (hb hby d1_35) 36 rfl ?_
      refine g_iconst X106 hx (0 : Int32) rfl (hb hby d1_36) 37 rfl ?_
      refine g_istore X106 hx #[.val (.long v0), .second, .val (.int (8 : Int32)), .val (.ref b105), .val (.int (0 : Int32))] rfl (hb hby d1_37) 39 rfl ?_
      refine g_iload X106 hx rfl (hb hby d1_39) 41 rfl ?_
      refine g_iloadN X106 hx rfl (hb hby d1_41) 42 rfl ?_
      refine g_icmp_ge X106 hx (hb hby d1_42) 68 45 (by decide) rfl rfl (fun q116 => ?_) (fun q116 => ?_)
      · exact absurd q116 (by decide)
      · refine g_aloadN X106 hx rfl rfl (hb hby d1_45) 46 rfl ?_
        refine g_iload X106 hx rfl (hb hby d1_46) 48 rfl ?_
        refine g_lloadN X106 hx rfl (hb hby d1_48) 49 rfl ?_
        refine g_bipush X106 hx (8 : Int32) rfl (hb hby d1_49) 51 rfl ?_
        refine g_iloadN X106 hx rfl (hb hby d1_51) 52 rfl ?_
        refine g_iconst X106 hx (1 : Int32) rfl (hb hby d1_52) 53 rfl ?_
        refine g_isub X106 hx (hb hby d1_53) 54 rfl ?_
        show Go p_ e_ below _ T103 (mkF m_ 54 #[.val (.long v0), .second, .val (.int (8 : Int32)), .val (.ref b105), .val (.int (0 : Int32))] [(.int (7 : Int32)), (.int (8 : Int32)), (.long v0), (.int (0 : Int32)), (.ref b105)])
        refine g_iload X106 hx rfl (hb hby d1_54) 56 rfl ?_
        refine g_isub X106 hx (hb hby d1_56) 57 rfl ?_
        show Go p_ e_ below _ T103 (mkF m_ 57 #[.val (.long v0), .second, .val (.int (8 : Int32)), .val (.ref b105), .val (.int (0 : Int32))] [(.int (7 : Int32)), (.int (8 : Int32)), (.long v0), (.int (0 : Int32)), (.ref b105)])
        refine g_imul X106 hx (hb hby d1_57) 58 rfl ?_
        show Go p_ e_ below _ T103 (mkF m_ 58 #[.val (.long v0), .second, .val (.int (8 : Int32)), .val (.ref b105), .val (.int (0 : Int32))] [(.int (56 : Int32)), (.long v0), (.int (0 : Int32)), (.ref b105)])
        refine g_lshr X106 hx (hb hby d1_58) 59 rfl ?_
        refine g_l2i X106 hx (hb hby d1_59) 60 rfl ?_
        refine g_i2b X106 hx (hb hby d1_60) 61 rfl ?_
        refine g_bastore X106 hx hZ e107 A115 (by decide) (Nat.le_of_ble_eq_true rfl) (hb hby d1_61) 62 rfl (fun T117 h118 X119 e120 W121 A122 => ?_)
        have A123 : AV Z h118 b105 .byte [(.int (v0 >>> ((56 : Int32) &&& 0x3f).toInt64).toInt32.toInt8.toInt32.toInt8.toInt32), (.int (0 : Int32)), (.int (0 : Int32)), (.int (0 : Int32)), (.int (0 : Int32)), (.int (0 : Int32)), (.int (0 : Int32)), (.int (0 : Int32))] := A122
        have F124 := A123
        have N125 := Fr.snoc X119 N0 sz111
        have szh126 : n0 ≤ h118.size := Nat.le_trans szh112 (Nat.le_of_eq W121.size.symm)
        have K127 := K114.wr W121 (Or.inr szk113)
        show Go p_ e_ below _ T117 (mkF m_ 62 #[.val (.long v0), .second, .val (.int (8 : Int32)), .val (.ref b105), .val (.int (0 : Int32))] [])
        refine g_iinc X119 hx (1 : Int32) rfl rfl #[.val (.long v0), .second, .val (.int (8 : Int32)), .val (.ref b105), .val (.int (1 : Int32))] rfl (hb hby d1_62) 65 rfl ?_
        refine g_goto X119 hx (hb hby d1_65) 39 (by decide) rfl ?_
        refine g_iload X119 hx rfl (hb hby d1_39) 41 rfl ?_
        refine g_iloadN X119 hx rfl (hb hby d1_41) 42 rfl ?_
        refine g_icmp_ge X119 hx (hb hby d1_42) 68 45 (by decide) rfl rfl (fun q128 => ?_) (fun q128 => ?_)
        · exact absurd q128 (by decide)
        · refine g_aloadN X119 hx rfl rfl (hb hby d1_45) 46 rfl ?_
          refine g_iload X119 hx rfl (hb hby d1_46) 48 rfl ?_
          refine g_lloadN X119 hx rfl (hb hby d1_48) 49 rfl ?_
          refine g_bipush X119 hx (8 : Int32) rfl (hb hby d1_49) 51 rfl ?_
          refine g_iloadN X119 hx rfl (hb hby d1_51) 52 rfl ?_
          refine g_iconst X119 hx (1 : Int32) rfl (hb hby d1_52) 53 rfl ?_
          refine g_isub X119 hx (hb hby d1_53) 54 rfl ?_
          show Go p_ e_ below _ T117 (mkF m_ 54 #[.val (.long v0), .second, .val (.int (8 : Int32)), .val (.ref b105), .val (.int (1 : Int32))] [(.int (7 : Int32)), (.int (8 : Int32)), (.long v0), (.int (1 : Int32)), (.ref b105)])
          refine g_iload X119 hx rfl (hb hby d1_54) 56 rfl ?_
          refine g_isub X119 hx (hb hby d1_56) 57 rfl ?_
          show Go p_ e_ below _ T117 (mkF m_ 57 #[.val (.long v0), .second, .val (.int (8 : Int32)), .val (.ref b105), .val (.int (1 : Int32))] [(.int (6 : Int32)), (.int (8 : Int32)), (.long v0), (.int (1 : Int32)), (.ref b105)])
          refine g_imul X119 hx (hb hby d1_57) 58 rfl ?_
          show Go p_ e_ below _ T117 (mkF m_ 58 #[.val (.long v0), .second, .val (.int (8 : Int32)), .val (.ref b105), .val (.int (1 : Int32))] [(.int (48 : Int32)), (.long v0), (.int (1 : Int32)), (.ref b105)])
          refine g_lshr X119 hx (hb hby d1_58) 59 rfl ?_
          refine g_l2i X119 hx (hb hby d1_59) 60 rfl ?_
          refine g_i2b X119 hx (hb hby d1_60) 61 rfl ?_
          refine g_bastore X119 hx hZ e120 A123 (by decide) (Nat.le_of_ble_eq_true rfl) (hb hby d1_61) 62 rfl (fun T129 h130 X131 e132 W133 A134 => ?_)
          have A135 : AV Z h130 b105 .byte [(.int (v0 >>> ((56 : Int32) &&& 0x3f).toInt64).toInt32.toInt8.toInt32.toInt8.toInt32), (.int (v0 >>> ((48 : Int32) &&& 0x3f).toInt64).toInt32.toInt8.toInt32.toInt8.toInt32), (.int (0 : Int32)), (.int (0 : Int32)), (.int (0 : Int32)), (.int (0 : Int32)), (.int (0 : Int32)), (.int (0 : Int32))] := A134
          have F136 := A135
          have N137 := Fr.snoc X131 N125 sz111
          have szh138 : n0 ≤ h130.size := Nat.le_trans szh126 (Nat.le_of_eq W133.size.symm)
          have K139 := K127.wr W133 (Or.inr szk113)
          show Go p_ e_ below _ T129 (mkF m_ 62 #[.val (.long v0), .second, .val (.int (8 : Int32)), .val (.ref b105), .val (.int (1 : Int32))] [])
          refine g_iinc X131 hx (1 : Int32) rfl rfl #[.val (.long v0), .second, .val (.int (8 : Int32)), .val (.ref b105), .val (.int (2 : Int32))] rfl (hb hby d1_62) 65 rfl ?_
          refine g_goto X131 hx (hb hby d1_65) 39 (by decide) rfl ?_
          refine g_iload X131 hx rfl (hb hby d1_39) 41 rfl ?_
          refine g_iloadN X131 hx rfl (hb hby d1_41) 42 rfl ?_
          refine g_icmp_ge X131 hx (hb hby d1_42) 68 45 (by decide) rfl rfl (fun q140 => ?_) (fun q140 => ?_)
          · exact absurd q140 (by decide)
          · refine g_aloadN X131 hx rfl rfl (hb hby d1_45) 46 rfl ?_
            refine g_iload X131 hx rfl (hb hby d1_46) 48 rfl ?_
            refine g_lloadN X131 hx rfl (hb hby d1_48) 49 rfl ?_
            refine g_bipush X131 hx (8 : Int32) rfl (hb hby d1_49) 51 rfl ?_
            refine g_iloadN X131 hx rfl (hb hby d1_51) 52 rfl ?_
            refine g_iconst X131 hx (1 : Int32) rfl (hb hby d1_52) 53 rfl ?_
            refine g_isub X131 hx (hb hby d1_53) 54 rfl ?_
            show Go p_ e_ below _ T129 (mkF m_ 54 #[.val (.long v0), .second, .val (.int (8 : Int32)), .val (.ref b105), .val (.int (2 : Int32))] [(.int (7 : Int32)), (.int (8 : Int32)), (.long v0), (.int (2 : Int32)), (.ref b105)])
            refine g_iload X131 hx rfl (hb hby d1_54) 56 rfl ?_
            refine g_isub X131 hx (hb hby d1_56) 57 rfl ?_
            show Go p_ e_ below _ T129 (mkF m_ 57 #[.val (.long v0), .second, .val (.int (8 : Int32)), .val (.ref b105), .val (.int (2 : Int32))] [(.int (5 : Int32)), (.int (8 : Int32)), (.long v0), (.int (2 : Int32)), (.ref b105)])
            refine g_imul X131 hx (hb hby d1_57) 58 rfl ?_
            show Go p_ e_ below _ T129 (mkF m_ 58 #[.val (.long v0), .second, .val (.int (8 : Int32)), .val (.ref b105), .val (.int (2 : Int32))] [(.int (40 : Int32)), (.long v0), (.int (2 : Int32)), (.ref b105)])
            refine g_lshr X131 hx (hb hby d1_58) 59 rfl ?_
            refine g_l2i X131 hx (hb hby d1_59) 60 rfl ?_
            refine g_i2b X131 hx (hb hby d1_60) 61 rfl ?_
            refine g_bastore X131 hx hZ e132 A135 (by decide) (Nat.le_of_ble_eq_true rfl) (hb hby d1_61) 62 rfl (fun T141 h142 X143 e144 W145 A146 => ?_)
            have A147 : AV Z h142 b105 .byte [(.int (v0 >>> ((56 : Int32) &&& 0x3f).toInt64).toInt32.toInt8.toInt32.toInt8.toInt32), (.int (v0 >>> ((48 : Int32) &&& 0x3f).toInt64).toInt32.toInt8.toInt32.toInt8.toInt32), (.int (v0 >>> ((40 : Int32) &&& 0x3f).toInt64).toInt32.toInt8.toInt32.toInt8.toInt32), (.int (0 : Int32)), (.int (0 : Int32)), (.int (0 : Int32)), (.int (0 : Int32)), (.int (0 : Int32))] := A146
            have F148 := A147
            have N149 := Fr.snoc X143 N137 sz111
            have szh150 : n0 ≤ h142.size := Nat.le_trans szh138 (Nat.le_of_eq W145.size.symm)
            have K151 := K139.wr W145 (Or.inr szk113)
            show Go p_ e_ below _ T141 (mkF m_ 62 #[.val (.long v0), .second, .val (.int (8 : Int32)), .val (.ref b105), .val (.int (2 : Int32))] [])
            refine g_iinc X143 hx (1 : Int32) rfl rfl #[.val (.long v0), .second, .val (.int (8 : Int32)), .val (.ref b105), .val (.int (3 : Int32))] rfl (hb hby d1_62) 65 rfl ?_
            refine g_goto X143 hx (hb hby d1_65) 39 (by decide) rfl ?_
            refine g_iload X143 hx rfl (hb hby d1_39) 41 rfl ?_
            refine g_iloadN X143 hx rfl (hb hby d1_41) 42 rfl ?_
            refine g_icmp_ge X143 hx (hb hby d1_42) 68 45 (by decide) rfl rfl (fun q152 => ?_) (fun q152 => ?_)
            · exact absurd q152 (by decide)
            · refine g_aloadN X143 hx rfl rfl (hb hby d1_45) 46 rfl ?_
              refine g_iload X143 hx rfl (hb hby d1_46) 48 rfl ?_
              refine g_lloadN X143 hx rfl (hb hby d1_48) 49 rfl ?_
              refine g_bipush X143 hx (8 : Int32) rfl (hb hby d1_49) 51 rfl ?_
              refine g_iloadN X143 hx rfl (hb hby d1_51) 52 rfl ?_
              refine g_iconst X143 hx (1 : Int32) rfl (hb hby d1_52) 53 rfl ?_
              refine g_isub X143 hx (hb hby d1_53) 54 rfl ?_
              show Go p_ e_ below _ T141 (mkF m_ 54 #[.val (.long v0), .second, .val (.int (8 : Int32)), .val (.ref b105), .val (.int (3 : Int32))] [(.int (7 : Int32)), (.int (8 : Int32)), (.long v0), (.int (3 : Int32)), (.ref b105)])
              refine g_iload X143 hx rfl (hb hby d1_54) 56 rfl ?_
              refine g_isub X143 hx (hb hby d1_56) 57 rfl ?_
              show Go p_ e_ below _ T141 (mkF m_ 57 #[.val (.long v0), .second, .val (.int (8 : Int32)), .val (.ref b105), .val (.int (3 : Int32))] [(.int (4 : Int32)), (.int (8 : Int32)), (.long v0), (.int (3 : Int32)), (.ref b105)])
              refine g_imul X143 hx (hb hby d1_57) 58 rfl ?_
              show Go p_ e_ below _ T141 (mkF m_ 58 #[.val (.long v0), .second, .val (.int (8 : Int32)), .val (.ref b105), .val (.int (3 : Int32))] [(.int (32 : Int32)), (.long v0), (.int (3 : Int32)), (.ref b105)])
              refine g_lshr X143 hx (hb hby d1_58) 59 rfl ?_
              refine g_l2i X143 hx (hb hby d1_59) 60 rfl ?_
              refine g_i2b X143 hx (hb hby d1_60) 61 rfl ?_
              refine g_bastore X143 hx hZ e144 A147 (by decide) (Nat.le_of_ble_eq_true rfl) (hb hby d1_61) 62 rfl (fun T153 h154 X155 e156 W157 A158 => ?_)
              have A159 : AV Z h154 b105 .byte [(.int (v0 >>> ((56 : Int32) &&& 0x3f).toInt64).toInt32.toInt8.toInt32.toInt8.toInt32), (.int (v0 >>> ((48 : Int32) &&& 0x3f).toInt64).toInt32.toInt8.toInt32.toInt8.toInt32), (.int (v0 >>> ((40 : Int32) &&& 0x3f).toInt64).toInt32.toInt8.toInt32.toInt8.toInt32), (.int (v0 >>> ((32 : Int32) &&& 0x3f).toInt64).toInt32.toInt8.toInt32.toInt8.toInt32), (.int (0 : Int32)), (.int (0 : Int32)), (.int (0 : Int32)), (.int (0 : Int32))] := A158
              have F160 := A159
              have N161 := Fr.snoc X155 N149 sz111
              have szh162 : n0 ≤ h154.size := Nat.le_trans szh150 (Nat.le_of_eq W157.size.symm)
              have K163 := K151.wr W157 (Or.inr szk113)
              show Go p_ e_ below _ T153 (mkF m_ 62 #[.val (.long v0), .second, .val (.int (8 : Int32)), .val (.ref b105), .val (.int (3 : Int32))] [])
              refine g_iinc X155 hx (1 : Int32) rfl rfl #[.val (.long v0), .second, .val (.int (8 : Int32)), .val (.ref b105), .val (.int (4 : Int32))] rfl (hb hby d1_62) 65 rfl ?_
              refine g_goto X155 hx (hb hby d1_65) 39 (by decide) rfl ?_
              refine g_iload X155 hx rfl (hb hby d1_39) 41 rfl ?_
              refine g_iloadN X155 hx rfl (hb hby d1_41) 42 rfl ?_
              refine g_icmp_ge X155 hx (hb hby d1_42) 68 45 (by decide) rfl rfl (fun q164 => ?_) (fun q164 => ?_)
              · exact absurd q164 (by decide)
              · refine g_aloadN X155 hx rfl rfl (hb hby d1_45) 46 rfl ?_
                refine g_iload X155 hx rfl (hb hby d1_46) 48 rfl ?_
                refine g_lloadN X155 hx rfl (hb hby d1_48) 49 rfl ?_
                refine g_bipush X155 hx (8 : Int32) rfl (hb hby d1_49) 51 rfl ?_
                refine g_iloadN X155 hx rfl (hb hby d1_51) 52 rfl ?_
                refine g_iconst X155 hx (1 : Int32) rfl (hb hby d1_52) 53 rfl ?_
                refine g_isub X155 hx (hb hby d1_53) 54 rfl ?_
                show Go p_ e_ below _ T153 (mkF m_ 54 #[.val (.long v0), .second, .val (.int (8 : Int32)), .val (.ref b105), .val (.int (4 : Int32))] [(.int (7 : Int32)), (.int (8 : Int32)), (.long v0), (.int (4 : Int32)), (.ref b105)])
                refine g_iload X155 hx rfl (hb hby d1_54) 56 rfl ?_
                refine g_isub X155 hx (hb hby d1_56) 57 rfl ?_
                show Go p_ e_ below _ T153 (mkF m_ 57 #[.val (.long v0), .second, .val (.int (8 : Int32)), .val (.ref b105), .val (.int (4 : Int32))] [(.int (3 : Int32)), (.int (8 : Int32)), (.long v0), (.int (4 : Int32)), (.ref b105)])
                refine g_imul X155 hx (hb hby d1_57) 58 rfl ?_
                show Go p_ e_ below _ T153 (mkF m_ 58 #[.val (.long v0), .second, .val (.int (8 : Int32)), .val (.ref b105), .val (.int (4 : Int32))] [(.int (24 : Int32)), (.long v0), (.int (4 : Int32)), (.ref b105)])
                refine g_lshr X155 hx (hb hby d1_58) 59 rfl ?_
                refine g_l2i X155 hx (hb hby d1_59) 60 rfl ?_
                refine g_i2b X155 hx (hb hby d1_60) 61 rfl ?_
                refine g_bastore X155 hx hZ e156 A159 (by decide) (Nat.le_of_ble_eq_true rfl) (hb hby d1_61) 62 rfl (fun T165 h166 X167 e168 W169 A170 => ?_)
                have A171 : AV Z h166 b105 .byte [(.int (v0 >>> ((56 : Int32) &&& 0x3f).toInt64).toInt32.toInt8.toInt32.toInt8.toInt32), (.int (v0 >>> ((48 : Int32) &&& 0x3f).toInt64).toInt32.toInt8.toInt32.toInt8.toInt32), (.int (v0 >>> ((40 : Int32) &&& 0x3f).toInt64).toInt32.toInt8.toInt32.toInt8.toInt32), (.int (v0 >>> ((32 : Int32) &&& 0x3f).toInt64).toInt32.toInt8.toInt32.toInt8.toInt32), (.int (v0 >>> ((24 : Int32) &&& 0x3f).toInt64).toInt32.toInt8.toInt32.toInt8.toInt32), (.int (0 : Int32)), (.int (0 : Int32)), (.int (0 : Int32))] := A170
                have F172 := A171
                have N173 := Fr.snoc X167 N161 sz111
                have szh174 : n0 ≤ h166.size := Nat.le_trans szh162 (Nat.le_of_eq W169.size.symm)
                have K175 := K163.wr W169 (Or.inr szk113)
                show Go p_ e_ below _ T165 (mkF m_ 62 #[.val (.long v0), .second, .val (.int (8 : Int32)), .val (.ref b105), .val (.int (4 : Int32))] [])
                refine g_iinc X167 hx (1 : Int32) rfl rfl #[.val (.long v0), .second, .val (.int (8 : Int32)), .val (.ref b105), .val (.int (5 : Int32))] rfl (hb hby d1_62) 65 rfl ?_
                refine g_goto X167 hx (hb hby d1_65) 39 (by decide) rfl ?_
                refine g_iload X167 hx rfl (hb hby d1_39) 41 rfl ?_
                refine g_iloadN X167 hx rfl (hb hby d1_41) 42 rfl ?_
                refine g_icmp_ge X167 hx (hb hby d1_42) 68 45 (by decide) rfl rfl (fun q176 => ?_) (fun q176 => ?_)
                · exact absurd q176 (by decide)
                · refine g_aloadN X167 hx rfl rfl (hb hby d1_45) 46 rfl ?_
                  refine g_iload X167 hx rfl (hb hby d1_46) 48 rfl ?_
                  refine g_lloadN X167 hx rfl (hb hby d1_48) 49 rfl ?_
                  refine g_bipush X167 hx (8 : Int32) rfl (hb hby d1_49) 51 rfl ?_
                  refine g_iloadN X167 hx rfl (hb hby d1_51) 52 rfl ?_
                  refine g_iconst X167 hx (1 : Int32) rfl (hb hby d1_52) 53 rfl ?_
                  refine g_isub X167 hx (hb hby d1_53) 54 rfl ?_
                  show Go p_ e_ below _ T165 (mkF m_ 54 #[.val (.long v0), .second, .val (.int (8 : Int32)), .val (.ref b105), .val (.int (5 : Int32))] [(.int (7 : Int32)), (.int (8 : Int32)), (.long v0), (.int (5 : Int32)), (.ref b105)])
                  refine g_iload X167 hx rfl (hb hby d1_54) 56 rfl ?_
                  refine g_isub X167 hx (hb hby d1_56) 57 rfl ?_
                  show Go p_ e_ below _ T165 (mkF m_ 57 #[.val (.long v0), .second, .val (.int (8 : Int32)), .val (.ref b105), .val (.int (5 : Int32))] [(.int (2 : Int32)), (.int (8 : Int32)), (.long v0), (.int (5 : Int32)), (.ref b105)])
                  refine g_imul X167 hx (hb hby d1_57) 58 rfl ?_
                  show Go p_ e_ below _ T165 (mkF m_ 58 #[.val (.long v0), .second, .val (.int (8 : Int32)), .val (.ref b105), .val (.int (5 : Int32))] [(.int (16 : Int32)), (.long v0), (.int (5 : Int32)), (.ref b105)])
                  refine g_lshr X167 hx (hb hby d1_58) 59 rfl ?_
                  refine g_l2i X167 hx (hb hby d1_59) 60 rfl ?_
                  refine g_i2b X167 hx (hb hby d1_60) 61 rfl ?_
                  refine g_bastore X167 hx hZ e168 A171 (by decide) (Nat.le_of_ble_eq_true rfl) (hb hby d1_61) 62 rfl (fun T177 h178 X179 e180 W181 A182 => ?_)
                  have A183 : AV Z h178 b105 .byte [(.int (v0 >>> ((56 : Int32) &&& 0x3f).toInt64).toInt32.toInt8.toInt32.toInt8.toInt32), (.int (v0 >>> ((48 : Int32) &&& 0x3f).toInt64).toInt32.toInt8.toInt32.toInt8.toInt32), (.int (v0 >>> ((40 : Int32) &&& 0x3f).toInt64).toInt32.toInt8.toInt32.toInt8.toInt32), (.int (v0 >>> ((32 : Int32) &&& 0x3f).toInt64).toInt32.toInt8.toInt32.toInt8.toInt32), (.int (v0 >>> ((24 : Int32) &&& 0x3f).toInt64).toInt32.toInt8.toInt32.toInt8.toInt32), (.int (v0 >>> ((16 : Int32) &&& 0x3f).toInt64).toInt32.toInt8.toInt32.toInt8.toInt32), (.int (0 : Int32)), (.int (0 : Int32))] := A182
                  have F184 := A183
                  have N185 := Fr.snoc X179 N173 sz111
                  have szh186 : n0 ≤ h178.size := Nat.le_trans szh174 (Nat.le_of_eq W181.size.symm)
                  have K187 := K175.wr W181 (Or.inr szk113)
                  show Go p_ e_ below _ T177 (mkF m_ 62 #[.val (.long v0), .second, .val (.int (8 : Int32)), .val (.ref b105), .val (.int (5 : Int32))] [])
                  refine g_iinc X179 hx (1 : Int32) rfl rfl #[.val (.long v0), .second, .val (.int (8 : Int32)), .val (.ref b105), .val (.int (6 : Int32))] rfl (hb hby d1_62) 65 rfl ?_
                  refine g_goto X179 hx (hb hby d1_65) 39 (by decide) rfl ?_
                  refine g_iload X179 hx rfl (hb hby d1_39) 41 rfl ?_
                  refine g_iloadN X179 hx rfl (hb hby d1_41) 42 rfl ?_
                  refine g_icmp_ge X179 hx (hb hby d1_42) 68 45 (by decide) rfl rfl (fun q188 => ?_) (fun q188 => ?_)
                  · exact absurd q188 (by decide)
                  · refine g_aloadN X179 hx rfl rfl (hb hby d1_45) 46 rfl ?_
                    refine g_iload X179 hx rfl (hb hby d1_46) 48 rfl ?_
                    refine g_lloadN X179 hx rfl (hb hby d1_48) 49 rfl ?_
                    refine g_bipush X179 hx (8 : Int32) rfl (hb hby d1_49) 51 rfl ?_
                    refine g_iloadN X179 hx rfl (hb hby d1_51) 52 rfl ?_
                    refine g_iconst X179 hx (1 : Int32) rfl (hb hby d1_52) 53 rfl ?_
                    refine g_isub X179 hx (hb hby d1_53) 54 rfl ?_
                    show Go p_ e_ below _ T177 (mkF m_ 54 #[.val (.long v0), .second, .val (.int (8 : Int32)), .val (.ref b105), .val (.int (6 : Int32))] [(.int (7 : Int32)), (.int (8 : Int32)), (.long v0), (.int (6 : Int32)), (.ref b105)])
                    refine g_iload X179 hx rfl (hb hby d1_54) 56 rfl ?_
                    refine g_isub X179 hx (hb hby d1_56) 57 rfl ?_
                    show Go p_ e_ below _ T177 (mkF m_ 57 #[.val (.long v0), .second, .val (.int (8 : Int32)), .val (.ref b105), .val (.int (6 : Int32))] [(.int (1 : Int32)), (.int (8 : Int32)), (.long v0), (.int (6 : Int32)), (.ref b105)])
                    refine g_imul X179 hx (hb hby d1_57) 58 rfl ?_
                    show Go p_ e_ below _ T177 (mkF m_ 58 #[.val (.long v0), .second, .val (.int (8 : Int32)), .val (.ref b105), .val (.int (6 : Int32))] [(.int (8 : Int32)), (.long v0), (.int (6 : Int32)), (.ref b105)])
                    refine g_lshr X179 hx (hb hby d1_58) 59 rfl ?_
                    refine g_l2i X179 hx (hb hby d1_59) 60 rfl ?_
                    refine g_i2b X179 hx (hb hby d1_60) 61 rfl ?_
                    refine g_bastore X179 hx hZ e180 A183 (by decide) (Nat.le_of_ble_eq_true rfl) (hb hby d1_61) 62 rfl (fun T189 h190 X191 e192 W193 A194 => ?_)
                    have A195 : AV Z h190 b105 .byte [(.int (v0 >>> ((56 : Int32) &&& 0x3f).toInt64).toInt32.toInt8.toInt32.toInt8.toInt32), (.int (v0 >>> ((48 : Int32) &&& 0x3f).toInt64).toInt32.toInt8.toInt32.toInt8.toInt32), (.int (v0 >>> ((40 : Int32) &&& 0x3f).toInt64).toInt32.toInt8.toInt32.toInt8.toInt32), (.int (v0 >>> ((32 : Int32) &&& 0x3f).toInt64).toInt32.toInt8.toInt32.toInt8.toInt32), (.int (v0 >>> ((24 : Int32) &&& 0x3f).toInt64).toInt32.toInt8.toInt32.toInt8.toInt32), (.int (v0 >>> ((16 : Int32) &&& 0x3f).toInt64).toInt32.toInt8.toInt32.toInt8.toInt32), (.int (v0 >>> ((8 : Int32) &&& 0x3f).toInt64).toInt32.toInt8.toInt32.toInt8.toInt32), (.int (0 : Int32))] := A194
                    have F196 := A195
                    have N197 := Fr.snoc X191 N185 sz111
                    have szh198 : n0 ≤ h190.size := Nat.le_trans szh186 (Nat.le_of_eq W193.size.symm)
                    have K199 := K187.wr W193 (Or.inr szk113)
                    show Go p_ e_ below _ T189 (mkF m_ 62 #[.val (.long v0), .second, .val (.int (8 : Int32)), .val (.ref b105), .val (.int (6 : Int32))] [])
                    refine g_iinc X191 hx (1 : Int32) rfl rfl #[.val (.long v0), .second, .val (.int (8 : Int32)), .val (.ref b105), .val (.int (7 : Int32))] rfl (hb hby d1_62) 65 rfl ?_
                    refine g_goto X191 hx (hb hby d1_65) 39 (by decide) rfl ?_
                    refine g_iload X191 hx rfl (hb hby d1_39) 41 rfl ?_
                    refine g_iloadN X191 hx rfl (hb hby d1_41) 42 rfl ?_
                    refine g_icmp_ge X191 hx (hb hby d1_42) 68 45 (by decide) rfl rfl (fun q200 => ?_) (fun q200 => ?_)
                    · exact absurd q200 (by decide)
                    · refine g_aloadN X191 hx rfl rfl (hb hby d1_45) 46 rfl ?_
                      refine g_iload X191 hx rfl (hb hby d1_46) 48 rfl ?_
                      refine g_lloadN X191 hx rfl (hb hby d1_48) 49 rfl ?_
                      refine g_bipush X191 hx (8 : Int32) rfl (hb hby d1_49) 51 rfl ?_
                      refine g_iloadN X191 hx rfl (hb hby d1_51) 52 rfl ?_
                      refine g_iconst X191 hx (1 : Int32) rfl (hb hby d1_52) 53 rfl ?_
                      refine g_isub X191 hx (hb hby d1_53) 54 rfl ?_
                      show Go p_ e_ below _ T189 (mkF m_ 54 #[.val (.long v0), .second, .val (.int (8 : Int32)), .val (.ref b105), .val (.int (7 : Int32))] [(.int (7 : Int32)), (.int (8 : Int32)), (.long v0), (.int (7 : Int32)), (.ref b105)])
                      refine g_iload X191 hx rfl (hb hby d1_54) 56 rfl ?_
                      refine g_isub X191 hx (hb hby d1_56) 57 rfl ?_
                      show Go p_ e_ below _ T189 (mkF m_ 57 #[.val (.long v0), .second, .val (.int (8 : Int32)), .val (.ref b105), .val (.int (7 : Int32))] [(.int (0 : Int32)), (.int (8 : Int32)), (.long v0), (.int (7 : Int32)), (.ref b105)])
                      refine g_imul X191 hx (hb hby d1_57) 58 rfl ?_
                      show Go p_ e_ below _ T189 (mkF m_ 58 #[.val (.long v0), .second, .val (.int (8 : Int32)), .val (.ref b105), .val (.int (7 : Int32))] [(.int (0 : Int32)), (.long v0), (.int (7 : Int32)), (.ref b105)])
                      refine g_lshr X191 hx (hb hby d1_58) 59 rfl ?_
                      refine g_l2i X191 hx (hb hby d1_59) 60 rfl ?_
                      refine g_i2b X191 hx (hb hby d1_60) 61 rfl ?_
                      refine g_bastore X191 hx hZ e192 A195 (by decide) (Nat.le_of_ble_eq_true rfl) (hb hby d1_61) 62 rfl (fun T201 h202 X203 e204 W205 A206 => ?_)
                      have A207 : AV Z h202 b105 .byte [(.int (v0 >>> ((56 : Int32) &&& 0x3f).toInt64).toInt32.toInt8.toInt32.toInt8.toInt32), (.int (v0 >>> ((48 : Int32) &&& 0x3f).toInt64).toInt32.toInt8.toInt32.toInt8.toInt32), (.int (v0 >>> ((40 : Int32) &&& 0x3f).toInt64).toInt32.toInt8.toInt32.toInt8.toInt32), (.int (v0 >>> ((32 : Int32) &&& 0x3f).toInt64).toInt32.toInt8.toInt32.toInt8.toInt32), (.int (v0 >>> ((24 : Int32) &&& 0x3f).toInt64).toInt32.toInt8.toInt32.toInt8.toInt32), (.int (v0 >>> ((16 : Int32) &&& 0x3f).toInt64).toInt32.toInt8.toInt32.toInt8.toInt32), (.int (v0 >>> ((8 : Int32) &&& 0x3f).toInt64).toInt32.toInt8.toInt32.toInt8.toInt32), (.int (v0 >>> ((0 : Int32) &&& 0x3f).toInt64).toInt32.toInt8.toInt32.toInt8.toInt32)] := A206
                      have F208 := A207
                      have N209 := Fr.snoc X203 N197 sz111
                      have szh210 : n0 ≤ h202.size := Nat.le_trans szh198 (Nat.le_of_eq W205.size.symm)
                      have K211 := K199.wr W205 (Or.inr szk113)
                      show Go p_ e_ below _ T201 (mkF m_ 62 #[.val (.long v0), .second, .val (.int (8 : Int32)), .val (.ref b105), .val (.int (7 : Int32))] [])
                      refine g_iinc X203 hx (1 : Int32) rfl rfl #[.val (.long v0), .second, .val (.int (8 : Int32)), .val (.ref b105), .val (.int (8 : Int32))] rfl (hb hby d1_62) 65 rfl ?_
                      refine g_goto X203 hx (hb hby d1_65) 39 (by decide) rfl ?_
                      refine g_iload X203 hx rfl (hb hby d1_39) 41 rfl ?_
                      refine g_iloadN X203 hx rfl (hb hby d1_41) 42 rfl ?_
                      refine g_icmp_ge X203 hx (hb hby d1_42) 68 45 (by decide) rfl rfl (fun q212 => ?_) (fun q212 => ?_)
                      · refine g_aloadN X203 hx rfl rfl (hb hby d1_68) 69 rfl ?_
                        exact g_reta X203 hx rfl rfl hret hlk (by decide) (by decide) (hb hby d1_69) (by rw [e204]; exact ⟨b105, rfl, N209, K211, szk113, (by rw [show ln v0 = 8 from ((if_neg q102).trans rfl)]; exact A207)⟩)
                      · exact absurd q212 (by decide)
    · refine g_iinc X0 hx (-1 : Int32) rfl rfl #[.val (.long v0), .second, .val (.int (7 : Int32)), .unset, .unset] rfl (hb hby d1_26) 29 rfl ?_
      refine g_goto X0 hx (hb hby d1_29) 3 (by decide) rfl ?_
      refine g_iloadN X0 hx rfl (hb hby d1_3) 4 rfl ?_
      refine g_iconst X0 hx (1 : Int32) rfl (hb hby d1_4) 5 rfl ?_
      refine g_icmp_le X0 hx (hb hby d1_5) 32 8 (by decide) rfl rfl (fun q213 => ?_) (fun q213 => ?_)
      · exact absurd q213 (by decide)
      · refine g_lloadN X0 hx rfl (hb hby d1_8) 9 rfl ?_
        refine g_bipush X0 hx (8 : Int32) rfl (hb hby d1_9) 11 rfl ?_
        refine g_iloadN X0 hx rfl (hb hby d1_11) 12 rfl ?_
        refine g_iconst X0 hx (1 : Int32) rfl (hb hby d1_12) 13 rfl ?_
        refine g_isub X0 hx (hb hby d1_13) 14 rfl ?_
        show Go p_ e_ below _ T0 (mkF m_ 14 #[.val (.long v0), .second, .val (.int (7 : Int32)), .unset, .unset] [(.int (6 : Int32)), (.int (8 : Int32)), (.long v0)])
        refine g_imul X0 hx (hb hby d1_14) 15 rfl ?_
        show Go p_ e_ below _ T0 (mkF m_ 15 #[.val (.long v0), .second, .val (.int (7 : Int32)), .unset, .unset] [(.int (48 : Int32)), (.long v0)])
        refine g_iconst X0 hx (1 : Int32) rfl (hb hby d1_15) 16 rfl ?_
        refine g_isub X0 hx (hb hby d1_16) 17 rfl ?_
        show Go p_ e_ below _ T0 (mkF m_ 17 #[.val (.long v0), .second, .val (.int (7 : Int32)), .unset, .unset] [(.int (47 : Int32)), (.long v0)])
        refine g_lshr X0 hx (hb hby d1_17) 18 rfl ?_
        refine g_lloadN X0 hx rfl (hb hby d1_18) 19 rfl ?_
        refine g_bipush X0 hx (63 : Int32) rfl (hb hby d1_19) 21 rfl ?_
        refine g_lshr X0 hx (hb hby d1_21) 22 rfl ?_
        refine g_lif_ne X0 hx (hb hby d1_22) 23 rfl (hb hby d1_23) 32 26 (by decide) rfl rfl (fun q214 => ?_) (fun q214 => ?_)
        · refine g_iloadN X0 hx rfl (hb hby d1_32) 33 rfl ?_
          refine g_newarray X0 hx hZ (aty := .byte) (wd hw 4 rfl) eq0 (by decide) 7 (by decide) (by decide) (by decide) (by decide) [(.int (0 : Int32)), (.int (0 : Int32)), (.int (0 : Int32)), (.int (0 : Int32)), (.int (0 : Int32)), (.int (0 : Int32)), (.int (0 : Int32))] rfl (hb hby d1_33) 35 rfl (fun T215 h216 b217 X218 e219 g220 E221 A222 => ?_)
          have sz223 : n0 ≤ b217 := Nat.le_trans Z0 (Nat.le_of_eq g220.symm)
          have szh224 : n0 ≤ h216.size := Nat.le_trans Z0 E221.1
          have szk225 : h0.size ≤ b217 := Nat.le_trans (Keep.refl h0 []).1 (Nat.le_of_eq g220.symm)
          have K226 := (Keep.refl h0 []).ext E221
          have A227 : AV Z h216 b217 .byte [(.int (0 : Int32)), (.int (0 : Int32)), (.int (0 : Int32)), (.int (0 : Int32)), (.int (0 : Int32)), (.int (0 : Int32)), (.int (0 : Int32))] := A222
          show Go p_ e_ below _ T215 (mkF m_ 35 #[.val (.long v0), .second, .val (.int (7 : Int32)), .unset, .unset] [(.ref b217)])
          refine g_astoreN X218 hx #[.val (.long v0), .second, .val (.int (7 : Int32)), .val (.ref b217), .unset] rfl rfl (hb hby d1_35) 36 rfl ?_
          refine g_iconst X218 hx (0 : Int32) rfl (hb hby d1_36) 37 rfl ?_
          refine g_istore X218 hx #[.val (.long v0), .second, .val (.int (7 : Int32)), .val (.ref b217), .val (.int (0 : Int32))] rfl (hb hby d1_37) 39 rfl ?_
          refine g_iload X218 hx rfl (hb hby d1_39) 41 rfl ?_
          refine g_iloadN X218 hx rfl (hb hby d1_41) 42 rfl ?_
          refine g_icmp_ge X218 hx (hb hby d1_42) 68 45 (by decide) rfl rfl (fun q228 => ?_) (fun q228 => ?_)
          · exact absurd q228 (by decide)
          · refine g_aloadN X218 hx rfl rfl (hb hby d1_45) 46 rfl ?_
            refine g_iload X218 hx rfl (hb hby d1_46) 48 rfl ?_
            refine g_lloadN X218 hx rfl (hb hby d1_48) 49 rfl ?_
            refine g_bipush X218 hx (8 : Int32) rfl (hb hby d1_49) 51 rfl ?_
            refine g_iloadN X218 hx rfl (hb hby d1_51) 52 rfl ?_
            refine g_iconst X218 hx (1 : Int32) rfl (hb hby d1_52) 53 rfl ?_
            refine g_isub X218 hx (hb hby d1_53) 54 rfl ?_
            show Go p_ e_ below _ T215 (mkF m_ 54 #[.val (.long v0), .second, .val (.int (7 : Int32)), .val (.ref b217), .val (.int (0 : Int32))] [(.int (6 : Int32)), (.int (8 : Int32)), (.long v0), (.int (0 : Int32)), (.ref b217)])
            refine g_iload X218 hx rfl (hb hby d1_54) 56 rfl ?_
            refine g_isub X218 hx (hb hby d1_56) 57 rfl ?_
            show Go p_ e_ below _ T215 (mkF m_ 57 #[.val (.long v0), .second, .val (.int (7 : Int32)), .val (.ref b217), .val (.int (0 : Int32))] [(.int (6 : Int32)), (.int (8 : Int32)), (.long v0), (.int (0 : Int32)), (.ref b217)])
            refine g_imul X218 hx (hb hby d1_57) 58 rfl ?_
            show Go p_ e_ below _ T215 (mkF m_ 58 #[.val (.long v0), .second, .val (.int (7 : Int32)), .val (.ref b217), .val (.int (0 : Int32))] [(.int (48 : Int32)), (.long v0), (.int (0 : Int32)), (.ref b217)])
            refine g_lshr X218 hx (hb hby d1_58) 59 rfl ?_
            refine g_l2i X218 hx (hb hby d1_59) 60 rfl ?_
            refine g_i2b X218 hx (hb hby d1_60) 61 rfl ?_
            refine g_bastore X218 hx hZ e219 A227 (by decide) (Nat.le_of_ble_eq_true rfl) (hb hby d1_61) 62 rfl (fun T229 h230 X231 e232 W233 A234 => ?_)
            have A235 : AV Z h230 b217 .byte [(.int (v0 >>> ((48 : Int32) &&& 0x3f).toInt64).toInt32.toInt8.toInt32.toInt8.toInt32), (.int (0 : Int32)), (.int (0 : Int32)), (.int (0 : Int32)), (.int (0 : Int32)), (.int (0 : Int32)), (.int (0 : Int32))] := A234
            have F236 := A235
            have N237 := Fr.snoc X231 N0 sz223
            have szh238 : n0 ≤ h230.size := Nat.le_trans szh224 (Nat.le_of_eq W233.size.symm)
            have K239 := K226.wr W233 (Or.inr szk225)
            show Go p_ e_ below _ T229 (mkF m_ 62 #[.val (.long v0), .second, .val (.int (7 : Int32)), .val (.ref b217), .val (.int (0 : Int32))] [])
            refine g_iinc X231 hx (1 : Int32) rfl rfl #[.val (.long v0), .second, .val (.int (7 : Int32)), .val (.ref b217), .val (.int (1 : Int32))] rfl (hb hby d1_62) 65 rfl ?_
            refine g_goto X231 hx (hb hby d1_65) 39 (by decide) rfl ?_
            refine g_iload X231 hx rfl (hb hby d1_39) 41 rfl ?_
            refine g_iloadN X231 hx rfl (hb hby d1_41) 42 rfl ?_
            refine g_icmp_ge X231 hx (hb hby d1_42) 68 45 (by decide) rfl rfl (fun q240 => ?_) (fun q240 => ?_)
            · exact absurd q240 (by decide)
            · refine g_aloadN X231 hx rfl rfl (hb hby d1_45) 46 rfl ?_
              refine g_iload X231 hx rfl (hb hby d1_46) 48 rfl ?_
              refine g_lloadN X231 hx rfl (hb hby d1_48) 49 rfl ?_
              refine g_bipush X231 hx (8 : Int32) rfl (hb hby d1_49) 51 rfl ?_
              refine g_iloadN X231 hx rfl (hb hby d1_51) 52 rfl ?_
              refine g_iconst X231 hx (1 : Int32) rfl (hb hby d1_52) 53 rfl ?_
              refine g_isub X231 hx (hb hby d1_53) 54 rfl ?_
              show Go p_ e_ below _ T229 (mkF m_ 54 #[.val (.long v0), .second, .val (.int (7 : Int32)), .val (.ref b217), .val (.int (1 : Int32))] [(.int (6 : Int32)), (.int (8 : Int32)), (.long v0), (.int (1 : Int32)), (.ref b217)])
              refine g_iload X231 hx rfl (hb hby d1_54) 56 rfl ?_
              refine g_isub X231 hx (hb hby d1_56) 57 rfl ?_
              show Go p_ e_ below _ T229 (mkF m_ 57 #[.val (.long v0), .second, .val (.int (7 : Int32)), .val (.ref b217), .val (.int (1 : Int32))] [(.int (5 : Int32)), (.int (8 : Int32)), (.long v0), (.int (1 : Int32)), (.ref b217)])
              refine g_imul X231 hx (hb hby d1_57) 58 rfl ?_
              show Go p_ e_ below _ T229 (mkF m_ 58 #[.val (.long v0), .second, .val (.int (7 : Int32)), .val (.ref b217), .val (.int (1 : Int32))] [(.int (40 : Int32)), (.long v0), (.int (1 : Int32)), (.ref b217)])
              refine g_lshr X231 hx (hb hby d1_58) 59 rfl ?_
              refine g_l2i X231 hx (hb hby d1_59) 60 rfl ?_
              refine g_i2b X231 hx (hb hby d1_60) 61 rfl ?_
              refine g_bastore X231 hx hZ e232 A235 (by decide) (Nat.le_of_ble_eq_true rfl) (hb hby d1_61) 62 rfl (fun T241 h242 X243 e244 W245 A246 => ?_)
              have A247 : AV Z h242 b217 .byte [(.int (v0 >>> ((48 : Int32) &&& 0x3f).toInt64).toInt32.toInt8.toInt32.toInt8.toInt32), (.int (v0 >>> ((40 : Int32) &&& 0x3f).toInt64).toInt32.toInt8.toInt32.toInt8.toInt32), (.int (0 : Int32)), (.int (0 : Int32)), (.int (0 : Int32)), (.int (0 : Int32)), (.int (0 : Int32))] := A246
              have F248 := A247
              have N249 := Fr.snoc X243 N237 sz223
              have szh250 : n0 ≤ h242.size := Nat.le_trans szh238 (Nat.le_of_eq W245.size.symm)
              have K251 := K239.wr W245 (Or.inr szk225)
              show Go p_ e_ below _ T241 (mkF m_ 62 #[.val (.long v0), .second, .val (.int (7 : Int32)), .val (.ref b217), .val (.int (1 : Int32))] [])
              refine g_iinc X243 hx (1 : Int32) rfl rfl #[.val (.long v0), .second, .val (.int (7 : Int32)), .val (.ref b217), .val (.int (2 : Int32))] rfl (hb hby d1_62) 65 rfl ?_
              refine g_goto X243 hx (hb hby d1_65) 39 (by decide) rfl ?_
              refine g_iload X243 hx rfl (hb hby d1_39) 41 rfl ?_
              refine g_iloadN X243 hx rfl (hb hby d1_41) 42 rfl ?_
              refine g_icmp_ge X243 hx (hb hby d1_42) 68 45 (by decide) rfl rfl (fun q252 => ?_) (fun q252 => ?_)
              · exact absurd q252 (by decide)
              · refine g_aloadN X243 hx rfl rfl (hb hby d1_45) 46 rfl ?_
                refine g_iload X243 hx rfl (hb hby d1_46) 48 rfl ?_
                refine g_lloadN X243 hx rfl (hb hby d1_48) 49 rfl ?_
                refine g_bipush X243 hx (8 : Int32) rfl (hb hby d1_49) 51 rfl ?_
                refine g_iloadN X243 hx rfl (hb hby d1_51) 52 rfl ?_
                refine g_iconst X243 hx (1 : Int32) rfl (hb hby d1_52) 53 rfl ?_
                refine g_isub X243 hx (hb hby d1_53) 54 rfl ?_
                show Go p_ e_ below _ T241 (mkF m_ 54 #[.val (.long v0), .second, .val (.int (7 : Int32)), .val (.ref b217), .val (.int (2 : Int32))] [(.int (6 : Int32)), (.int (8 : Int32)), (.long v0), (.int (2 : Int32)), (.ref b217)])
                refine g_iload X243 hx rfl (hb hby d1_54) 56 rfl ?_
                refine g_isub X243 hx (hb hby d1_56) 57 rfl ?_
                show Go p_ e_ below _ T241 (mkF m_ 57 #[.val (.long v0), .second, .val (.int (7 : Int32)), .val (.ref b217), .val (.int (2 : Int32))] [(.int (4 : Int32)), (.int (8 : Int32)), (.long v0), (.int (2 : Int32)), (.ref b217)])
                refine g_imul X243 hx (hb hby d1_57) 58 rfl ?_
                show Go p_ e_ below _ T241 (mkF m_ 58 #[.val (.long v0), .second, .val (.int (7 : Int32)), .val (.ref b217), .val (.int (2 : Int32))] [(.int (32 : Int32)), (.long v0), (.int (2 : Int32)), (.ref b217)])
                refine g_lshr X243 hx (hb hby d1_58) 59 rfl ?_
                refine g_l2i X243 hx (hb hby d1_59) 60 rfl ?_
                refine g_i2b X243 hx (hb hby d1_60) 61 rfl ?_
                refine g_bastore X243 hx hZ e244 A247 (by decide) (Nat.le_of_ble_eq_true rfl) (hb hby d1_61) 62 rfl (fun T253 h254 X255 e256 W257 A258 => ?_)
                have A259 : AV Z h254 b217 .byte [(.int (v0 >>> ((48 : Int32) &&& 0x3f).toInt64).toInt32.toInt8.toInt32.toInt8.toInt32), (.int (v0 >>> ((40 : Int32) &&& 0x3f).toInt64).toInt32.toInt8.toInt32.toInt8.toInt32), (.int (v0 >>> ((32 : Int32) &&& 0x3f).toInt64).toInt32.toInt8.toInt32.toInt8.toInt32), (.int (0 : Int32)), (.int (0 : Int32)), (.int (0 : Int32)), (.int (0 : Int32))] := A258
                have F260 := A259
                have N261 := Fr.snoc X255 N249 sz223
                have szh262 : n0 ≤ h254.size := Nat.le_trans szh250 (Nat.le_of_eq W257.size.symm)
                have K263 := K251.wr W257 (Or.inr szk225)
                show Go p_ e_ below _ T253 (mkF m_ 62 #[.val (.long v0), .second, .val (.int (7 : Int32)), .val (.ref b217), .val (.int (2 : Int32))] [])
                refine g_iinc X255 hx (1 : Int32) rfl rfl #[.val (.long v0), .second, .val (.int (7 : Int32)), .val (.ref b217), .val (.int (3 : Int32))] rfl (hb hby d1_62) 65 rfl ?_
                refine g_goto X255 hx (hb hby d1_65) 39 (by decide) rfl ?_
                refine g_iload X255 hx rfl (hb hby d1_39) 41 rfl ?_
                refine g_iloadN X255 hx rfl (hb hby d1_41) 42 rfl ?_
                refine g_icmp_ge X255 hx (hb hby d1_42) 68 45 (by decide) rfl rfl (fun q264 => ?_) (fun q264 => ?_)
                · exact absurd q264 (by decide)
                · refine g_aloadN X255 hx rfl rfl (hb hby d1_45) 46 rfl ?_
                  refine g_iload X255 hx rfl (hb hby d1_46) 48 rfl ?_
                  refine g_lloadN X255 hx rfl (hb hby d1_48) 49 rfl ?_
                  refine g_bipush X255 hx (8 : Int32) rfl (hb hby d1_49) 51 rfl ?_
                  refine g_iloadN X255 hx rfl (hb hby d1_51) 52 rfl ?_
                  refine g_iconst X255 hx (1 : Int32) rfl (hb hby d1_52) 53 rfl ?_
                  refine g_isub X255 hx (hb hby d1_53) 54 rfl ?_
                  show Go p_ e_ below _ T253 (mkF m_ 54 #[.val (.long v0), .second, .val (.int (7 : Int32)), .val (.ref b217), .val (.int (3 : Int32))] [(.int (6 : Int32)), (.int (8 : Int32)), (.long v0), (.int (3 : Int32)), (.ref b217)])
                  refine g_iload X255 hx rfl (hb hby d1_54) 56 rfl ?_
                  refine g_isub X255 hx (hb hby d1_56) 57 rfl ?_
                  show Go p_ e_ below _ T253 (mkF m_ 57 #[.val (.long v0), .second, .val (.int (7 : Int32)), .val (.ref b217), .val (.int (3 : Int32))] [(.int (3 : Int32)), (.int (8 : Int32)), (.long v0), (.int (3 : Int32)), (.ref b217)])
                  refine g_imul X255 hx (hb hby d1_57) 58 rfl ?_
                  show Go p_ e_ below _ T253 (mkF m_ 58 #[.val (.long v0), .second, .val (.int (7 : Int32)), .val (.ref b217), .val (.int (3 : Int32))] [(.int (24 : Int32)), (.long v0), (.int (3 : Int32)), (.ref b217)])
                  refine g_lshr X255 hx (hb hby d1_58) 59 rfl ?_
                  refine g_l2i X255 hx (hb hby d1_59) 60 rfl ?_
                  refine g_i2b X255 hx (hb hby d1_60) 61 rfl ?_
                  refine g_bastore X255 hx hZ e256 A259 (by decide) (Nat.le_of_ble_eq_true rfl) (hb hby d1_61) 62 rfl (fun T265 h266 X267 e268 W269 A270 => ?_)
                  have A271 : AV Z h266 b217 .byte [(.int (v0 >>> ((48 : Int32) &&& 0x3f).toInt64).toInt32.toInt8.toInt32.toInt8.toInt32), (.int (v0 >>> ((40 : Int32) &&& 0x3f).toInt64).toInt32.toInt8.toInt32.toInt8.toInt32), (.int (v0 >>> ((32 : Int32) &&& 0x3f).toInt64).toInt32.toInt8.toInt32.toInt8.toInt32), (.int (v0 >>> ((24 : Int32) &&& 0x3f).toInt64).toInt32.toInt8.toInt32.toInt8.toInt32), (.int (0 : Int32)), (.int (0 : Int32)), (.int (0 : Int32))] := A270
                  have F272 := A271
                  have N273 := Fr.snoc X267 N261 sz223
                  have szh274 : n0 ≤ h266.size := Nat.le_trans szh262 (Nat.le_of_eq W269.size.symm)
                  have K275 := K263.wr W269 (Or.inr szk225)
                  show Go p_ e_ below _ T265 (mkF m_ 62 #[.val (.long v0), .second, .val (.int (7 : Int32)), .val (.ref b217), .val (.int (3 : Int32))] [])
                  refine g_iinc X267 hx (1 : Int32) rfl rfl #[.val (.long v0), .second, .val (.int (7 : Int32)), .val (.ref b217), .val (.int (4 : Int32))] rfl (hb hby d1_62) 65 rfl ?_
                  refine g_goto X267 hx (hb hby d1_65) 39 (by decide) rfl ?_
                  refine g_iload X267 hx rfl (hb hby d1_39) 41 rfl ?_
                  refine g_iloadN X267 hx rfl (hb hby d1_41) 42 rfl ?_
                  refine g_icmp_ge X267 hx (hb hby d1_42) 68 45 (by decide) rfl rfl (fun q276 => ?_) (fun q276 => ?_)
                  · exact absurd q276 (by decide)
                  · refine g_aloadN X267 hx rfl rfl (hb hby d1_45) 46 rfl ?_
                    refine g_iload X267 hx rfl (hb hby d1_46) 48 rfl ?_
                    refine g_lloadN X267 hx rfl (hb hby d1_48) 49 rfl ?_
                    refine g_bipush X267 hx (8 : Int32) rfl (hb hby d1_49) 51 rfl ?_
                    refine g_iloadN X267 hx rfl (hb hby d1_51) 52 rfl ?_
                    refine g_iconst X267 hx (1 : Int32) rfl (hb hby d1_52) 53 rfl ?_
                    refine g_isub X267 hx (hb hby d1_53) 54 rfl ?_
                    show Go p_ e_ below _ T265 (mkF m_ 54 #[.val (.long v0), .second, .val (.int (7 : Int32)), .val (.ref b217), .val (.int (4 : Int32))] [(.int (6 : Int32)), (.int (8 : Int32)), (.long v0), (.int (4 : Int32)), (.ref b217)])
                    refine g_iload X267 hx rfl (hb hby d1_54) 56 rfl ?_
                    refine g_isub X267 hx (hb hby d1_56) 57 rfl ?_
                    show Go p_ e_ below _ T265 (mkF m_ 57 #[.val (.long v0), .second, .val (.int (7 : Int32)), .val (.ref b217), .val (.int (4 : Int32))] [(.int (2 : Int32)), (.int (8 : Int32)), (.long v0), (.int (4 : Int32)), (.ref b217)])
                    refine g_imul X267 hx (hb hby d1_57) 58 rfl ?_
                    show Go p_ e_ below _ T265 (mkF m_ 58 #[.val (.long v0), .second, .val (.int (7 : Int32)), .val (.ref b217), .val (.int (4 : Int32))] [(.int (16 : Int32)), (.long v0), (.int (4 : Int32)), (.ref b217)])
                    refine g_lshr X267 hx (hb hby d1_58) 59 rfl ?_
                    refine g_l2i X267 hx (hb hby d1_59) 60 rfl ?_
                    refine g_i2b X267 hx (hb hby d1_60) 61 rfl ?_
                    refine g_bastore X267 hx hZ e268 A271 (by decide) (Nat.le_of_ble_eq_true rfl) (hb hby d1_61) 62 rfl (fun T277 h278 X279 e280 W281 A282 => ?_)
                    have A283 : AV Z h278 b217 .byte [(.int (v0 >>> ((48 : Int32) &&& 0x3f).toInt64).toInt32.toInt8.toInt32.toInt8.toInt32), (.int (v0 >>> ((40 : Int32) &&& 0x3f).toInt64).toInt32.toInt8.toInt32.toInt8.toInt32), (.int (v0 >>> ((32 : Int32) &&& 0x3f).toInt64).toInt32.toInt8.toInt32.toInt8.toInt32), (.int (v0 >>> ((24 : Int32) &&& 0x3f).toInt64).toInt32.toInt8.toInt32.toInt8.toInt32), (.int (v0 >>> ((16 : Int32) &&& 0x3f).toInt64).toInt32.toInt8.toInt32.toInt8.toInt32), (.int (0 : Int32)), (.int (0 : Int32))] := A282
                    have F284 := A283
                    have N285 := Fr.snoc X279 N273 sz223
                    have szh286 : n0 ≤ h278.size := Nat.le_trans szh274 (Nat.le_of_eq W281.size.symm)
                    have K287 := K275.wr W281 (Or.inr szk225)
                    show Go p_ e_ below _ T277 (mkF m_ 62 #[.val (.long v0), .second, .val (.int (7 : Int32)), .val (.ref b217), .val (.int (4 : Int32))] [])
                    refine g_iinc X279 hx (1 : Int32) rfl rfl #[.val (.long v0), .second, .val (.int (7 : Int32)), .val (.ref b217), .val (.int (5 : Int32))] rfl (hb hby d1_62) 65 rfl ?_
                    refine g_goto X279 hx (hb hby d1_65) 39 (by decide) rfl ?_
                    refine g_iload X279 hx rfl (hb hby d1_39) 41 rfl ?_
                    refine g_iloadN X279 hx rfl (hb hby d1_41) 42 rfl ?_
                    refine g_icmp_ge X279 hx (hb hby d1_42) 68 45 (by decide) rfl rfl (fun q288 => ?_) (fun q288 => ?_)
                    · exact absurd q288 (by decide)
                    · refine g_aloadN X279 hx rfl rfl (hb hby d1_45) 46 rfl ?_
                      refine g_iload X279 hx rfl (hb hby d1_46) 48 rfl ?_
                      refine g_lloadN X279 hx rfl (hb hby d1_48) 49 rfl ?_
                      refine g_bipush X279 hx (8 : Int32) rfl (hb hby d1_49) 51 rfl ?_
                      refine g_iloadN X279 hx rfl (hb hby d1_51) 52 rfl ?_
                      refine g_iconst X279 hx (1 : Int32) rfl (hb hby d1_52) 53 rfl ?_
                      refine g_isub X279 hx (hb hby d1_53) 54 rfl ?_
                      show Go p_ e_ below _ T277 (mkF m_ 54 #[.val (.long v0), .second, .val (.int (7 : Int32)), .val (.ref b217), .val (.int (5 : Int32))] [(.int (6 : Int32)), (.int (8 : Int32)), (.long v0), (.int (5 : Int32)), (.ref b217)])
                      refine g_iload X279 hx rfl (hb hby d1_54) 56 rfl ?_
                      refine g_isub X279 hx (hb hby d1_56) 57 rfl ?_
                      show Go p_ e_ below _ T277 (mkF m_ 57 #[.val (.long v0), .second, .val (.int (7 : Int32)), .val (.ref b217), .val (.int (5 : Int32))] [(.int (1 : Int32)), (.int (8 : Int32)), (.long v0), (.int (5 : Int32)), (.ref b217)])
                      refine g_imul X279 hx (hb hby d1_57) 58 rfl ?_
                      show Go p_ e_ below _ T277 (mkF m_ 58 #[.val (.long v0), .second, .val (.int (7 : Int32)), .val (.ref b217), .val (.int (5 : Int32))] [(.int (8 : Int32)), (.long v0), (.int (5 : Int32)), (.ref b217)])
                      refine g_lshr X279 hx (hb hby d1_58) 59 rfl ?_
                      refine g_l2i X279 hx (hb hby d1_59) 60 rfl ?_
                      refine g_i2b X279 hx (hb hby d1_60) 61 rfl ?_
                      refine g_bastore X279 hx hZ e280 A283 (by decide) (Nat.le_of_ble_eq_true rfl) (hb hby d1_61) 62 rfl (fun T289 h290 X291 e292 W293 A294 => ?_)
                      have A295 : AV Z h290 b217 .byte [(.int (v0 >>> ((48 : Int32) &&& 0x3f).toInt64).toInt32.toInt8.toInt32.toInt8.toInt32), (.int (v0 >>> ((40 : Int32) &&& 0x3f).toInt64).toInt32.toInt8.toInt32.toInt8.toInt32), (.int (v0 >>> ((32 : Int32) &&& 0x3f).toInt64).toInt32.toInt8.toInt32.toInt8.toInt32), (.int (v0 >>> ((24 : Int32) &&& 0x3f).toInt64).toInt32.toInt8.toInt32.toInt8.toInt32), (.int (v0 >>> ((16 : Int32) &&& 0x3f).toInt64).toInt32.toInt8.toInt32.toInt8.toInt32), (.int (v0 >>> ((8 : Int32) &&& 0x3f).toInt64).toInt32.toInt8.toInt32.toInt8.toInt32), (.int (0 : Int32))] := A294
                      have F296 := A295
                      have N297 := Fr.snoc X291 N285 sz223
                      have szh298 : n0 ≤ h290.size := Nat.le_trans szh286 (Nat.le_of_eq W293.size.symm)
                      have K299 := K287.wr W293 (Or.inr szk225)
                      show Go p_ e_ below _ T289 (mkF m_ 62 #[.val (.long v0), .second, .val (.int (7 : Int32)), .val (.ref b217), .val (.int (5 : Int32))] [])
                      refine g_iinc X291 hx (1 : Int32) rfl rfl #[.val (.long v0), .second, .val (.int (7 : Int32)), .val (.ref b217), .val (.int (6 : Int32))] rfl (hb hby d1_62) 65 rfl ?_
                      refine g_goto X291 hx (hb hby d1_65) 39 (by decide) rfl ?_
                      refine g_iload X291 hx rfl (hb hby d1_39) 41 rfl ?_
                      refine g_iloadN X291 hx rfl (hb hby d1_41) 42 rfl ?_
                      refine g_icmp_ge X291 hx (hb hby d1_42) 68 45 (by decide) rfl rfl (fun q300 => ?_) (fun q300 => ?_)
                      · exact absurd q300 (by decide)
                      · refine g_aloadN X291 hx rfl rfl (hb hby d1_45) 46 rfl ?_
                        refine g_iload X291 hx rfl (hb hby d1_46) 48 rfl ?_
                        refine g_lloadN X291 hx rfl (hb hby d1_48) 49 rfl ?_
                        refine g_bipush X291 hx (8 : Int32) rfl (hb hby d1_49) 51 rfl ?_
                        refine g_iloadN X291 hx rfl (hb hby d1_51) 52 rfl ?_
                        refine g_iconst X291 hx (1 : Int32) rfl (hb hby d1_52) 53 rfl ?_
                        refine g_isub X291 hx (hb hby d1_53) 54 rfl ?_
                        show Go p_ e_ below _ T289 (mkF m_ 54 #[.val (.long v0), .second, .val (.int (7 : Int32)), .val (.ref b217), .val (.int (6 : Int32))] [(.int (6 : Int32)), (.int (8 : Int32)), (.long v0), (.int (6 : Int32)), (.ref b217)])
                        refine g_iload X291 hx rfl (hb hby d1_54) 56 rfl ?_
                        refine g_isub X291 hx (hb hby d1_56) 57 rfl ?_
                        show Go p_ e_ below _ T289 (mkF m_ 57 #[.val (.long v0), .second, .val (.int (7 : Int32)), .val (.ref b217), .val (.int (6 : Int32))] [(.int (0 : Int32)), (.int (8 : Int32)), (.long v0), (.int (6 : Int32)), (.ref b217)])
                        refine g_imul X291 hx (hb hby d1_57) 58 rfl ?_
                        show Go p_ e_ below _ T289 (mkF m_ 58 #[.val (.long v0), .second, .val (.int (7 : Int32)), .val (.ref b217), .val (.int (6 : Int32))] [(.int (0 : Int32)), (.long v0), (.int (6 : Int32)), (.ref b217)])
                        refine g_lshr X291 hx (hb hby d1_58) 59 rfl ?_
                        refine g_l2i X291 hx (hb hby d1_59) 60 rfl ?_
                        refine g_i2b X291 hx (hb hby d1_60) 61 rfl ?_
                        refine g_bastore X291 hx hZ e292 A295 (by decide) (Nat.le_of_ble_eq_true rfl) (hb hby d1_61) 62 rfl (fun T301 h302 X303 e304 W305 A306 => ?_)
                        have A307 : AV Z h302 b217 .byte [(.int (v0 >>> ((48 : Int32) &&& 0x3f).toInt64).toInt32.toInt8.toInt32.toInt8.toInt32), (.int (v0 >>> ((40 : Int32) &&& 0x3f).toInt64).toInt32.toInt8.toInt32.toInt8.toInt32), (.int (v0 >>> ((32 : Int32) &&& 0x3f).toInt64).toInt32.toInt8.toInt32.toInt8.toInt32), (.int (v0 >>> ((24 : Int32) &&& 0x3f).toInt64).toInt32.toInt8.toInt32.toInt8.toInt32), (.int (v0 >>> ((16 : Int32) &&& 0x3f).toInt64).toInt32.toInt8.toInt32.toInt8.toInt32), (.int (v0 >>> ((8 : Int32) &&& 0x3f).toInt64).toInt32.toInt8.toInt32.toInt8.toInt32), (.int (v0 >>> ((0 : Int32) &&& 0x3f).toInt64).toInt32.toInt8.toInt32.toInt8.toInt32)] := A306
                        have F308 := A307
                        have N309 := Fr.snoc X303 N297 sz223
                        have szh310 : n0 ≤ h302.size := Nat.le_trans szh298 (Nat.le_of_eq W305.size.symm)
                        have K311 := K299.wr W305 (Or.inr szk225)
                        show Go p_ e_ below _ T301 (mkF m_ 62 #[.val (.long v0), .second, .val (.int (7 : Int32)), .val (.ref b217), .val (.int (6 : Int32))] [])
                        refine g_iinc X303 hx (1 : Int32) rfl rfl #[.val (.long v0), .second, .val (.int (7 : Int32)), .val (.ref b217), .val (.int (7 : Int32))] rfl (hb hby d1_62) 65 rfl ?_
                        refine g_goto X303 hx (hb hby d1_65) 39 (by decide) rfl ?_
                        refine g_iload X303 hx rfl (hb hby d1_39) 41 rfl ?_
                        refine g_iloadN X303 hx rfl (hb hby d1_41) 42 rfl ?_
                        refine g_icmp_ge X303 hx (hb hby d1_42) 68 45 (by decide) rfl rfl (fun q312 => ?_) (fun q312 => ?_)
                        · refine g_aloadN X303 hx rfl rfl (hb hby d1_68) 69 rfl ?_
                          exact g_reta X303 hx rfl rfl hret hlk (by decide) (by decide) (hb hby d1_69) (by rw [e304]; exact ⟨b217, rfl, N309, K311, szk225, (by rw [show ln v0 = 7 from ((if_pos q102).trans ((if_neg q214).trans rfl))]; exact A307)⟩)
                        · exact absurd q312 (by decide)
        · refine g_iinc X0 hx (-1 : Int32) rfl rfl #[.val (.long v0), .second, .val (.int (6 : Int32)), .unset, .unset] rfl (hb hby d1_26) 29 rfl ?_
          refine g_goto X0 hx (hb hby d1_29) 3 (by decide) rfl ?_
          refine g_iloadN X0 hx rfl (hb hby d1_3) 4 rfl ?_
          refine g_iconst X0 hx (1 : Int32) rfl (hb hby d1_4) 5 rfl ?_
          refine g_icmp_le X0 hx (hb hby d1_5) 32 8 (by decide) rfl rfl (fun q313 => ?_) (fun q313 => ?_)
          · exact absurd q313 (by decide)
          · refine g_lloadN X0 hx rfl (hb hby d1_8) 9 rfl ?_
            refine g_bipush X0 hx (8 : Int32) rfl (hb hby d1_9) 11 rfl ?_
            refine g_iloadN X0 hx rfl (hb hby d1_11) 12 rfl ?_
            refine g_iconst X0 hx (1 : Int32) rfl (hb hby d1_12) 13 rfl ?_
            refine g_isub X0 hx (hb hby d1_13) 14 rfl ?_
            show Go p_ e_ below _ T0 (mkF m_ 14 #[.val (.long v0), .second, .val (.int (6 : Int32)), .unset, .unset] [(.int (5 : Int32)), (.int (8 : Int32)), (.long v0)])
            refine g_imul X0 hx (hb hby d1_14) 15 rfl ?_
            show Go p_ e_ below _ T0 (mkF m_ 15 #[.val (.long v0), .second, .val (.int (6 : Int32)), .unset, .unset] [(.int (40 : Int32)), (.long v0)])
            refine g_iconst X0 hx (1 : Int32) rfl (hb hby d1_15) 16 rfl ?_
            refine g_isub X0 hx (hb hby d1_16) 17 rfl ?_
            show Go p_ e_ below _ T0 (mkF m_ 17 #[.val (.long v0), .second, .val (.int (6 : Int32)), .unset, .unset] [(.int (39 : Int32)), (.long v0)])
            refine g_lshr X0 hx (hb hby d1_17) 18 rfl ?_
            refine g_lloadN X0 hx rfl (hb hby d1_18) 19 rfl ?_
            refine g_bipush X0 hx (63 : Int32) rfl (hb hby d1_19) 21 rfl ?_
            refine g_lshr X0 hx (hb hby d1_21) 22 rfl ?_
            refine g_lif_ne X0 hx (hb hby d1_22) 23 rfl (hb hby d1_23) 32 26 (by decide) rfl rfl (fun q314 => ?_) (fun q314 => ?_)
            · refine g_iloadN X0 hx rfl (hb hby d1_32) 33 rfl ?_
              refine g_newarray X0 hx hZ (aty := .byte) (wd hw 4 rfl) eq0 (by decide) 6 (by decide) (by decide) (by decide) (by decide) [(.int (0 : Int32)), (.int (0 : Int32)), (.int (0 : Int32)), (.int (0 : Int32)), (.int (0 : Int32)), (.int (0 : Int32))] rfl (hb hby d1_33) 35 rfl (fun T315 h316 b317 X318 e319 g320 E321 A322 => ?_)
              have sz323 : n0 ≤ b317 := Nat.le_trans Z0 (Nat.le_of_eq g320.symm)
              have szh324 : n0 ≤ h316.size := Nat.le_trans Z0 E321.1
              have szk325 : h0.size ≤ b317 := Nat.le_trans (Keep.refl h0 []).1 (Nat.le_of_eq g320.symm)
              have K326 := (Keep.refl h0 []).ext E321
              have A327 : AV Z h316 b317 .byte [(.int (0 : Int32)), (.int (0 : Int32)), (.int (0 : Int32)), (.int (0 : Int32)), (.int (0 : Int32)), (.int (0 : Int32))] := A322
              show Go p_ e_ below _ T315 (mkF m_ 35 #[.val (.long v0), .second, .val (.int (6 : Int32)), .unset, .unset] [(.ref b317)])
              refine g_astoreN X318 hx #[.val (.long v0), .second, .val (.int (6 : Int32)), .val (.ref b317), .unset] rfl rfl (hb hby d1_35) 36 rfl ?_
              refine g_iconst X318 hx (0 : Int32) rfl (hb hby d1_36) 37 rfl ?_
              refine g_istore X318 hx #[.val (.long v0), .second, .val (.int (6 : Int32)), .val (.ref b317), .val (.int (0 : Int32))] rfl (hb hby d1_37) 39 rfl ?_
              refine g_iload X318 hx rfl (hb hby d1_39) 41 rfl ?_
              refine g_iloadN X318 hx rfl (hb hby d1_41) 42 rfl ?_
              refine g_icmp_ge X318 hx (hb hby d1_42) 68 45 (by decide) rfl rfl (fun q328 => ?_) (fun q328 => ?_)
              · exact absurd q328 (by decide)
              · refine g_aloadN X318 hx rfl rfl (hb hby d1_45) 46 rfl ?_
                refine g_iload X318 hx rfl (hb hby d1_46) 48 rfl ?_
                refine g_lloadN X318 hx rfl (hb hby d1_48) 49 rfl ?_
                refine g_bipush X318 hx (8 : Int32) rfl (hb hby d1_49) 51 rfl ?_
                refine g_iloadN X318 hx rfl (hb hby d1_51) 52 rfl ?_
                refine g_iconst X318 hx (1 : Int32) rfl (hb hby d1_52) 53 rfl ?_
                refine g_isub X318 hx (hb hby d1_53) 54 rfl ?_
                show Go p_ e_ below _ T315 (mkF m_ 54 #[.val (.long v0), .second, .val (.int (6 : Int32)), .val (.ref b317), .val (.int (0 : Int32))] [(.int (5 : Int32)), (.int (8 : Int32)), (.long v0), (.int (0 : Int32)), (.ref b317)])
                refine g_iload X318 hx rfl (hb hby d1_54) 56 rfl ?_
                refine g_isub X318 hx (hb hby d1_56) 57 rfl ?_
                show Go p_ e_ below _ T315 (mkF m_ 57 #[.val (.long v0), .second, .val (.int (6 : Int32)), .val (.ref b317), .val (.int (0 : Int32))] [(.int (5 : Int32)), (.int (8 : Int32)), (.long v0), (.int (0 : Int32)), (.ref b317)])
                refine g_imul X318 hx (hb hby d1_57) 58 rfl ?_
                show Go p_ e_ below _ T315 (mkF m_ 58 #[.val (.long v0), .second, .val (.int (6 : Int32)), .val (.ref b317), .val (.int (0 : Int32))] [(.int (40 : Int32)), (.long v0), (.int (0 : Int32)), (.ref b317)])
                refine g_lshr X318 hx (hb hby d1_58) 59 rfl ?_
                refine g_l2i X318 hx (hb hby d1_59) 60 rfl ?_
                refine g_i2b X318 hx (hb hby d1_60) 61 rfl ?_
                refine g_bastore X318 hx hZ e319 A327 (by decide) (Nat.le_of_ble_eq_true rfl) (hb hby d1_61) 62 rfl (fun T329 h330 X331 e332 W333 A334 => ?_)
                have A335 : AV Z h330 b317 .byte [(.int (v0 >>> ((40 : Int32) &&& 0x3f).toInt64).toInt32.toInt8.toInt32.toInt8.toInt32), (.int (0 : Int32)), (.int (0 : Int32)), (.int (0 : Int32)), (.int (0 : Int32)), (.int (0 : Int32))] := A334
                have F336 := A335
                have N337 := Fr.snoc X331 N0 sz323
                have szh338 : n0 ≤ h330.size := Nat.le_trans szh324 (Nat.le_of_eq W333.size.symm)
                have K339 := K326.wr W333 (Or.inr szk325)
                show Go p_ e_ below _ T329 (mkF m_ 62 #[.val (.long v0), .second, .val (.int (6 : Int32)), .val (.ref b317), .val (.int (0 : Int32))] [])
                refine g_iinc X331 hx (1 : Int32) rfl rfl #[.val (.long v0), .second, .val (.int (6 : Int32)), .val (.ref b317), .val (.int (1 : Int32))] rfl (hb hby d1_62) 65 rfl ?_
                refine g_goto X331 hx (hb hby d1_65) 39 (by decide) rfl ?_
                refine g_iload X331 hx rfl (hb hby d1_39) 41 rfl ?_
                refine g_iloadN X331 hx rfl (hb hby d1_41) 42 rfl ?_
                refine g_icmp_ge X331 hx (hb hby d1_42) 68 45 (by decide) rfl rfl (fun q340 => ?_) (fun q340 => ?_)
                · exact absurd q340 (by decide)
                · refine g_aloadN X331 hx rfl rfl (hb hby d1_45) 46 rfl ?_
                  refine g_iload X331 hx rfl (hb hby d1_46) 48 rfl ?_
                  refine g_lloadN X331 hx rfl (hb hby d1_48) 49 rfl ?_
                  refine g_bipush X331 hx (8 : Int32) rfl (hb hby d1_49) 51 rfl ?_
                  refine g_iloadN X331 hx rfl (hb hby d1_51) 52 rfl ?_
                  refine g_iconst X331 hx (1 : Int32) rfl (hb hby d1_52) 53 rfl ?_
                  refine g_isub X331 hx (hb hby d1_53) 54 rfl ?_
                  show Go p_ e_ below _ T329 (mkF m_ 54 #[.val (.long v0), .second, .val (.int (6 : Int32)), .val (.ref b317), .val (.int (1 : Int32))] [(.int (5 : Int32)), (.int (8 : Int32)), (.long v0), (.int (1 : Int32)), (.ref b317)])
                  refine g_iload X331 hx rfl (hb hby d1_54) 56 rfl ?_
                  refine g_isub X331 hx (hb hby d1_56) 57 rfl ?_
                  show Go p_ e_ below _ T329 (mkF m_ 57 #[.val (.long v0), .second, .val (.int (6 : Int32)), .val (.ref b317), .val (.int (1 : Int32))] [(.int (4 : Int32)), (.int (8 : Int32)), (.long v0), (.int (1 : Int32)), (.ref b317)])
                  refine g_imul X331 hx (hb hby d1_57) 58 rfl ?_
                  show Go p_ e_ below _ T329 (mkF m_ 58 #[.val (.long v0), .second, .val (.int (6 : Int32)), .val (.ref b317), .val (.int (1 : Int32))] [(.int (32 : Int32)), (.long v0), (.int (1 : Int32)), (.ref b317)])
                  refine g_lshr X331 hx (hb hby d1_58) 59 rfl ?_
                  refine g_l2i X331 hx (hb hby d1_59) 60 rfl ?_
                  refine g_i2b X331 hx (hb hby d1_60) 61 rfl ?_
                  refine g_bastore X331 hx hZ e332 A335 (by decide) (Nat.le_of_ble_eq_true rfl) (hb hby d1_61) 62 rfl (fun T341 h342 X343 e344 W345 A346 => ?_)
                  have A347 : AV Z h342 b317 .byte [(.int (v0 >>> ((40 : Int32) &&& 0x3f).toInt64).toInt32.toInt8.toInt32.toInt8.toInt32), (.int (v0 >>> ((32 : Int32) &&& 0x3f).toInt64).toInt32.toInt8.toInt32.toInt8.toInt32), (.int (0 : Int32)), (.int (0 : Int32)), (.int (0 : Int32)), (.int (0 : Int32))] := A346
                  have F348 := A347
                  have N349 := Fr.snoc X343 N337 sz323
                  have szh350 : n0 ≤ h342.size := Nat.le_trans szh338 (Nat.le_of_eq W345.size.symm)
                  have K351 := K339.wr W345 (Or.inr szk325)
                  show Go p_ e_ below _ T341 (mkF m_ 62 #[.val (.long v0), .second, .val (.int (6 : Int32)), .val (.ref b317), .val (.int (1 : Int32))] [])
                  refine g_iinc X343 hx (1 : Int32) rfl rfl #[.val (.long v0), .second, .val (.int (6 : Int32)), .val (.ref b317), .val (.int (2 : Int32))] rfl (hb hby d1_62) 65 rfl ?_
                  refine g_goto X343 hx (hb hby d1_65) 39 (by decide) rfl ?_
                  refine g_iload X343 hx rfl (hb hby d1_39) 41 rfl ?_
                  refine g_iloadN X343 hx rfl (hb hby d1_41) 42 rfl ?_
                  refine g_icmp_ge X343 hx (hb hby d1_42) 68 45 (by decide) rfl rfl (fun q352 => ?_) (fun q352 => ?_)
                  · exact absurd q352 (by decide)
                  · refine g_aloadN X343 hx rfl rfl (hb hby d1_45) 46 rfl ?_
                    refine g_iload X343 hx rfl (hb hby d1_46) 48 rfl ?_
                    refine g_lloadN X343 hx rfl (hb hby d1_48) 49 rfl ?_
                    refine g_bipush X343 hx (8 : Int32) rfl (hb hby d1_49) 51 rfl ?_
                    refine g_iloadN X343 hx rfl (hb hby d1_51) 52 rfl ?_
                    refine g_iconst X343 hx (1 : Int32) rfl (hb hby d1_52) 53 rfl ?_
                    refine g_isub X343 hx (hb hby d1_53) 54 rfl ?_
                    show Go p_ e_ below _ T341 (mkF m_ 54 #[.val (.long v0), .second, .val (.int (6 : Int32)), .val (.ref b317), .val (.int (2 : Int32))] [(.int (5 : Int32)), (.int (8 : Int32)), (.long v0), (.int (2 : Int32)), (.ref b317)])
                    refine g_iload X343 hx rfl (hb hby d1_54) 56 rfl ?_
                    refine g_isub X343 hx (hb hby d1_56) 57 rfl ?_
                    show Go p_ e_ below _ T341 (mkF m_ 57 #[.val (.long v0), .second, .val (.int (6 : Int32)), .val (.ref b317), .val (.int (2 : Int32))] [(.int (3 : Int32)), (.int (8 : Int32)), (.long v0), (.int (2 : Int32)), (.ref b317)])
                    refine g_imul X343 hx (hb hby d1_57) 58 rfl ?_
                    show Go p_ e_ below _ T341 (mkF m_ 58 #[.val (.long v0), .second, .val (.int (6 : Int32)), .val (.ref b317), .val (.int (2 : Int32))] [(.int (24 : Int32)), (.long v0), (.int (2 : Int32)), (.ref b317)])
                    refine g_lshr X343 hx (hb hby d1_58) 59 rfl ?_
                    refine g_l2i X343 hx (hb hby d1_59) 60 rfl ?_
                    refine g_i2b X343 hx (hb hby d1_60) 61 rfl ?_
                    refine g_bastore X343 hx hZ e344 A347 (by decide) (Nat.le_of_ble_eq_true rfl) (hb hby d1_61) 62 rfl (fun T353 h354 X355 e356 W357 A358 => ?_)
                    have A359 : AV Z h354 b317 .byte [(.int (v0 >>> ((40 : Int32) &&& 0x3f).toInt64).toInt32.toInt8.toInt32.toInt8.toInt32), (.int (v0 >>> ((32 : Int32) &&& 0x3f).toInt64).toInt32.toInt8.toInt32.toInt8.toInt32), (.int (v0 >>> ((24 : Int32) &&& 0x3f).toInt64).toInt32.toInt8.toInt32.toInt8.toInt32), (.int (0 : Int32)), (.int (0 : Int32)), (.int (0 : Int32))] := A358
                    have F360 := A359
                    have N361 := Fr.snoc X355 N349 sz323
                    have szh362 : n0 ≤ h354.size := Nat.le_trans szh350 (Nat.le_of_eq W357.size.symm)
                    have K363 := K351.wr W357 (Or.inr szk325)
                    show Go p_ e_ below _ T353 (mkF m_ 62 #[.val (.long v0), .second, .val (.int (6 : Int32)), .val (.ref b317), .val (.int (2 : Int32))] [])
                    refine g_iinc X355 hx (1 : Int32) rfl rfl #[.val (.long v0), .second, .val (.int (6 : Int32)), .val (.ref b317), .val (.int (3 : Int32))] rfl (hb hby d1_62) 65 rfl ?_
                    refine g_goto X355 hx (hb hby d1_65) 39 (by decide) rfl ?_
                    refine g_iload X355 hx rfl (hb hby d1_39) 41 rfl ?_
                    refine g_iloadN X355 hx rfl (hb hby d1_41) 42 rfl ?_
                    refine g_icmp_ge X355 hx (hb hby d1_42) 68 45 (by decide) rfl rfl (fun q364 => ?_) (fun q364 => ?_)
                    · exact absurd q364 (by decide)
                    · refine g_aloadN X355 hx rfl rfl (hb hby d1_45) 46 rfl ?_
                      refine g_iload X355 hx rfl (hb hby d1_46) 48 rfl ?_
                      refine g_lloadN X355 hx rfl (hb hby d1_48) 49 rfl ?_
                      refine g_bipush X355 hx (8 : Int32) rfl (hb hby d1_49) 51 rfl ?_
                      refine g_iloadN X355 hx rfl (hb hby d1_51) 52 rfl ?_
                      refine g_iconst X355 hx (1 : Int32) rfl (hb hby d1_52) 53 rfl ?_
                      refine g_isub X355 hx (hb hby d1_53) 54 rfl ?_
                      show Go p_ e_ below _ T353 (mkF m_ 54 #[.val (.long v0), .second, .val (.int (6 : Int32)), .val (.ref b317), .val (.int (3 : Int32))] [(.int (5 : Int32)), (.int (8 : Int32)), (.long v0), (.int (3 : Int32)), (.ref b317)])
                      refine g_iload X355 hx rfl (hb hby d1_54) 56 rfl ?_
                      refine g_isub X355 hx (hb hby d1_56) 57 rfl ?_
                      show Go p_ e_ below _ T353 (mkF m_ 57 #[.val (.long v0), .second, .val (.int (6 : Int32)), .val (.ref b317), .val (.int (3 : Int32))] [(.int (2 : Int32)), (.int (8 : Int32)), (.long v0), (.int (3 : Int32)), (.ref b317)])
                      refine g_imul X355 hx (hb hby d1_57) 58 rfl ?_
                      show Go p_ e_ below _ T353 (mkF m_ 58 #[.val (.long v0), .second, .val (.int (6 : Int32)), .val (.ref b317), .val (.int (3 : Int32))] [(.int (16 : Int32)), (.long v0), (.int (3 : Int32)), (.ref b317)])
                      refine g_lshr X355 hx (hb hby d1_58) 59 rfl ?_
                      refine g_l2i X355 hx (hb hby d1_59) 60 rfl ?_
                      refine g_i2b X355 hx (hb hby d1_60) 61 rfl ?_
                      refine g_bastore X355 hx hZ e356 A359 (by decide) (Nat.le_of_ble_eq_true rfl) (hb hby d1_61) 62 rfl (fun T365 h366 X367 e368 W369 A370 => ?_)
                      have A371 : AV Z h366 b317 .byte [(.int (v0 >>> ((40 : Int32) &&& 0x3f).toInt64).toInt32.toInt8.toInt32.toInt8.toInt32), (.int (v0 >>> ((32 : Int32) &&& 0x3f).toInt64).toInt32.toInt8.toInt32.toInt8.toInt32), (.int (v0 >>> ((24 : Int32) &&& 0x3f).toInt64).toInt32.toInt8.toInt32.toInt8.toInt32), (.int (v0 >>> ((16 : Int32) &&& 0x3f).toInt64).toInt32.toInt8.toInt32.toInt8.toInt32), (.int (0 : Int32)), (.int (0 : Int32))] := A370
                      have F372 := A371
                      have N373 := Fr.snoc X367 N361 sz323
                      have szh374 : n0 ≤ h366.size := Nat.le_trans szh362 (Nat.le_of_eq W369.size.symm)
                      have K375 := K363.wr W369 (Or.inr szk325)
                      show Go p_ e_ below _ T365 (mkF m_ 62 #[.val (.long v0), .second, .val (.int (6 : Int32)), .val (.ref b317), .val (.int (3 : Int32))] [])
                      refine g_iinc X367 hx (1 : Int32) rfl rfl #[.val (.long v0), .second, .val (.int (6 : Int32)), .val (.ref b317), .val (.int (4 : Int32))] rfl (hb hby d1_62) 65 rfl ?_
                      refine g_goto X367 hx (hb hby d1_65) 39 (by decide) rfl ?_
                      refine g_iload X367 hx rfl (hb hby d1_39) 41 rfl ?_
                      refine g_iloadN X367 hx rfl (hb hby d1_41) 42 rfl ?_
                      refine g_icmp_ge X367 hx (hb hby d1_42) 68 45 (by decide) rfl rfl (fun q376 => ?_) (fun q376 => ?_)
                      · exact absurd q376 (by decide)
                      · refine g_aloadN X367 hx rfl rfl (hb hby d1_45) 46 rfl ?_
                        refine g_iload X367 hx rfl (hb hby d1_46) 48 rfl ?_
                        refine g_lloadN X367 hx rfl (hb hby d1_48) 49 rfl ?_
                        refine g_bipush X367 hx (8 : Int32) rfl (hb hby d1_49) 51 rfl ?_
                        refine g_iloadN X367 hx rfl (hb hby d1_51) 52 rfl ?_
                        refine g_iconst X367 hx (1 : Int32) rfl (hb hby d1_52) 53 rfl ?_
                        refine g_isub X367 hx (hb hby d1_53) 54 rfl ?_
                        show Go p_ e_ below _ T365 (mkF m_ 54 #[.val (.long v0), .second, .val (.int (6 : Int32)), .val (.ref b317), .val (.int (4 : Int32))] [(.int (5 : Int32)), (.int (8 : Int32)), (.long v0), (.int (4 : Int32)), (.ref b317)])
                        refine g_iload X367 hx rfl (hb hby d1_54) 56 rfl ?_
                        refine g_isub X367 hx (hb hby d1_56) 57 rfl ?_
                        show Go p_ e_ below _ T365 (mkF m_ 57 #[.val (.long v0), .second, .val (.int (6 : Int32)), .val (.ref b317), .val (.int (4 : Int32))] [(.int (1 : Int32)), (.int (8 : Int32)), (.long v0), (.int (4 : Int32)), (.ref b317)])
                        refine g_imul X367 hx (hb hby d1_57) 58 rfl ?_
                        show Go p_ e_ below _ T365 (mkF m_ 58 #[.val (.long v0), .second, .val (.int (6 : Int32)), .val (.ref b317), .val (.int (4 : Int32))] [(.int (8 : Int32)), (.long v0), (.int (4 : Int32)), (.ref b317)])
                        refine g_lshr X367 hx (hb hby d1_58) 59 rfl ?_
                        refine g_l2i X367 hx (hb hby d1_59) 60 rfl ?_
                        refine g_i2b X367 hx (hb hby d1_60) 61 rfl ?_
                        refine g_bastore X367 hx hZ e368 A371 (by decide) (Nat.le_of_ble_eq_true rfl) (hb hby d1_61) 62 rfl (fun T377 h378 X379 e380 W381 A382 => ?_)
                        have A383 : AV Z h378 b317 .byte [(.int (v0 >>> ((40 : Int32) &&& 0x3f).toInt64).toInt32.toInt8.toInt32.toInt8.toInt32), (.int (v0 >>> ((32 : Int32) &&& 0x3f).toInt64).toInt32.toInt8.toInt32.toInt8.toInt32), (.int (v0 >>> ((24 : Int32) &&& 0x3f).toInt64).toInt32.toInt8.toInt32.toInt8.toInt32), (.int (v0 >>> ((16 : Int32) &&& 0x3f).toInt64).toInt32.toInt8.toInt32.toInt8.toInt32), (.int (v0 >>> ((8 : Int32) &&& 0x3f).toInt64).toInt32.toInt8.toInt32.toInt8.toInt32), (.int (0 : Int32))] := A382
                        have F384 := A383
                        have N385 := Fr.snoc X379 N373 sz323
                        have szh386 : n0 ≤ h378.size := Nat.le_trans szh374 (Nat.le_of_eq W381.size.symm)
                        have K387 := K375.wr W381 (Or.inr szk325)
                        show Go p_ e_ below _ T377 (mkF m_ 62 #[.val (.long v0), .second, .val (.int (6 : Int32)), .val (.ref b317), .val (.int (4 : Int32))] [])
                        refine g_iinc X379 hx (1 : Int32) rfl rfl #[.val (.long v0), .second, .val (.int (6 : Int32)), .val (.ref b317), .val (.int (5 : Int32))] rfl (hb hby d1_62) 65 rfl ?_
                        refine g_goto X379 hx (hb hby d1_65) 39 (by decide) rfl ?_
                        refine g_iload X379 hx rfl (hb hby d1_39) 41 rfl ?_
                        refine g_iloadN X379 hx rfl (hb hby d1_41) 42 rfl ?_
                        refine g_icmp_ge X379 hx (hb hby d1_42) 68 45 (by decide) rfl rfl (fun q388 => ?_) (fun q388 => ?_)
                        · exact absurd q388 (by decide)
                        · refine g_aloadN X379 hx rfl rfl (hb hby d1_45) 46 rfl ?_
                          refine g_iload X379 hx rfl (hb hby d1_46) 48 rfl ?_
                          refine g_lloadN X379 hx rfl (hb hby d1_48) 49 rfl ?_
                          refine g_bipush X379 hx (8 : Int32) rfl (hb hby d1_49) 51 rfl ?_
                          refine g_iloadN X379 hx rfl (hb hby d1_51) 52 rfl ?_
                          refine g_iconst X379 hx (1 : Int32) rfl (hb hby d1_52) 53 rfl ?_
                          refine g_isub X379 hx (hb hby d1_53) 54 rfl ?_
                          show Go p_ e_ below _ T377 (mkF m_ 54 #[.val (.long v0), .second, .val (.int (6 : Int32)), .val (.ref b317), .val (.int (5 : Int32))] [(.int (5 : Int32)), (.int (8 : Int32)), (.long v0), (.int (5 : Int32)), (.ref b317)])
                          refine g_iload X379 hx rfl (hb hby d1_54) 56 rfl ?_
                          refine g_isub X379 hx (hb hby d1_56) 57 rfl ?_
                          show Go p_ e_ below _ T377 (mkF m_ 57 #[.val (.long v0), .second, .val (.int (6 : Int32)), .val (.ref b317), .val (.int (5 : Int32))] [(.int (0 : Int32)), (.int (8 : Int32)), (.long v0), (.int (5 : Int32)), (.ref b317)])
                          refine g_imul X379 hx (hb hby d1_57) 58 rfl ?_
                          show Go p_ e_ below _ T377 (mkF m_ 58 #[.val (.long v0), .second, .val (.int (6 : Int32)), .val (.ref b317), .val (.int (5 : Int32))] [(.int (0 : Int32)), (.long v0), (.int (5 : Int32)), (.ref b317)])
                          refine g_lshr X379 hx (hb hby d1_58) 59 rfl ?_
                          refine g_l2i X379 hx (hb hby d1_59) 60 rfl ?_
                          refine g_i2b X379 hx (hb hby d1_60) 61 rfl ?_
                          refine g_bastore X379 hx hZ e380 A383 (by decide) (Nat.le_of_ble_eq_true rfl) (hb hby d1_61) 62 rfl (fun T389 h390 X391 e392 W393 A394 => ?_)
                          have A395 : AV Z h390 b317 .byte [(.int (v0 >>> ((40 : Int32) &&& 0x3f).toInt64).toInt32.toInt8.toInt32.toInt8.toInt32), (.int (v0 >>> ((32 : Int32) &&& 0x3f).toInt64).toInt32.toInt8.toInt32.toInt8.toInt32), (.int (v0 >>> ((24 : Int32) &&& 0x3f).toInt64).toInt32.toInt8.toInt32.toInt8.toInt32), (.int (v0 >>> ((16 : Int32) &&& 0x3f).toInt64).toInt32.toInt8.toInt32.toInt8.toInt32), (.int (v0 >>> ((8 : Int32) &&& 0x3f).toInt64).toInt32.toInt8.toInt32.toInt8.toInt32), (.int (v0 >>> ((0 : Int32) &&& 0x3f).toInt64).toInt32.toInt8.toInt32.toInt8.toInt32)] := A394
                          have F396 := A395
                          have N397 := Fr.snoc X391 N385 sz323
                          have szh398 : n0 ≤ h390.size := Nat.le_trans szh386 (Nat.le_of_eq W393.size.symm)
                          have K399 := K387.wr W393 (Or.inr szk325)
                          show Go p_ e_ below _ T389 (mkF m_ 62 #[.val (.long v0), .second, .val (.int (6 : Int32)), .val (.ref b317), .val (.int (5 : Int32))] [])
                          refine g_iinc X391 hx (1 : Int32) rfl rfl #[.val (.long v0), .second, .val (.int (6 : Int32)), .val (.ref b317), .val (.int (6 : Int32))] rfl (hb hby d1_62) 65 rfl ?_
                          refine g_goto X391 hx (hb hby d1_65) 39 (by decide) rfl ?_
                          refine g_iload X391 hx rfl (hb hby d1_39) 41 rfl ?_
                          refine g_iloadN X391 hx rfl (hb hby d1_41) 42 rfl ?_
                          refine g_icmp_ge X391 hx (hb hby d1_42) 68 45 (by decide) rfl rfl (fun q400 => ?_) (fun q400 => ?_)
                          · refine g_aloadN X391 hx rfl rfl (hb hby d1_68) 69 rfl ?_
                            exact g_reta X391 hx rfl rfl hret hlk (by decide) (by decide) (hb hby d1_69) (by rw [e392]; exact ⟨b317, rfl, N397, K399, szk325, (by rw [show ln v0 = 6 from ((if_pos q102).trans ((if_pos q214).trans ((if_neg q314).trans rfl)))]; exact A395)⟩)
                          · exact absurd q400 (by decide)
            · refine g_iinc X0 hx (-1 : Int32) rfl rfl #[.val (.long v0), .second, .val (.int (5 : Int32)), .unset, .unset] rfl (hb hby d1_26) 29 rfl ?_
              refine g_goto X0 hx (hb hby d1_29) 3 (by decide) rfl ?_
              refine g_iloadN X0 hx rfl (hb hby d1_3) 4 rfl ?_
              refine g_iconst X0 hx (1 : Int32) rfl (hb hby d1_4) 5 rfl ?_
              refine g_icmp_le X0 hx (hb hby d1_5) 32 8 (by decide) rfl rfl (fun q401 => ?_) (fun q401 => ?_)
              · exact absurd q401 (by decide)
              · refine g_lloadN X0 hx rfl (hb hby d1_8) 9 rfl ?_
                refine g_bipush X0 hx (8 : Int32) rfl (hb hby d1_9) 11 rfl ?_
                refine g_iloadN X0 hx rfl (hb hby d1_11) 12 rfl ?_
                refine g_iconst X0 hx (1 : Int32) rfl (hb hby d1_12) 13 rfl ?_
                refine g_isub X0 hx (hb hby d1_13) 14 rfl ?_
                show Go p_ e_ below _ T0 (mkF m_ 14 #[.val (.long v0), .second, .val (.int (5 : Int32)), .unset, .unset] [(.int (4 : Int32)), (.int (8 : Int32)), (.long v0)])
                refine g_imul X0 hx (hb hby d1_14) 15 rfl ?_
                show Go p_ e_ below _ T0 (mkF m_ 15 #[.val (.long v0), .second, .val (.int (5 : Int32)), .unset, .unset] [(.int (32 : Int32)), (.long v0)])
                refine g_iconst X0 hx (1 : Int32) rfl (hb hby d1_15) 16 rfl ?_
                refine g_isub X0 hx (hb hby d1_16) 17 rfl ?_
                show Go p_ e_ below _ T0 (mkF m_ 17 #[.val (.long v0), .second, .val (.int (5 : Int32)), .unset, .unset] [(.int (31 : Int32)), (.long v0)])
                refine g_lshr X0 hx (hb hby d1_17) 18 rfl ?_
                refine g_lloadN X0 hx rfl (hb hby d1_18) 19 rfl ?_
                refine g_bipush X0 hx (63 : Int32) rfl (hb hby d1_19) 21 rfl ?_
                refine g_lshr X0 hx (hb hby d1_21) 22 rfl ?_
                refine g_lif_ne X0 hx (hb hby d1_22) 23 rfl (hb hby d1_23) 32 26 (by decide) rfl rfl (fun q402 => ?_) (fun q402 => ?_)
                · refine g_iloadN X0 hx rfl (hb hby d1_32) 33 rfl ?_
                  refine g_newarray X0 hx hZ (aty := .byte) (wd hw 4 rfl) eq0 (by decide) 5 (by decide) (by decide) (by decide) (by decide) [(.int (0 : Int32)), (.int (0 : Int32)), (.int (0 : Int32)), (.int (0 : Int32)), (.int (0 : Int32))] rfl (hb hby d1_33) 35 rfl (fun T403 h404 b405 X406 e407 g408 E409 A410 => ?_)
                  have sz411 : n0 ≤ b405 := Nat.le_trans Z0 (Nat.le_of_eq g408.symm)
                  have szh412 : n0 ≤ h404.size := Nat.le_trans Z0 E409.1
                  have szk413 : h0.size ≤ b405 := Nat.le_trans (Keep.refl h0 []).1 (Nat.le_of_eq g408.symm)
                  have K414 := (Keep.refl h0 []).ext E409
                  have A415 : AV Z h404 b405 .byte [(.int (0 : Int32)), (.int (0 : Int32)), (.int (0 : Int32)), (.int (0 : Int32)), (.int (0 : Int32))] := A410
                  show Go p_ e_ below _ T403 (mkF m_ 35 #[.val (.long v0), .second, .val (.int (5 : Int32)), .unset, .unset] [(.ref b405)])
                  refine g_astoreN X406 hx #[.val (.long v0), .second, .val (.int (5 : Int32)), .val (.ref b405), .unset] rfl rfl (hb hby d1_35) 36 rfl ?_
                  refine g_iconst X406 hx (0 : Int32) rfl (hb hby d1_36) 37 rfl ?_
                  refine g_istore X406 hx #[.val (.long v0), .second, .val (.int (5 : Int32)), .val (.ref b405), .val (.int (0 : Int32))] rfl (hb hby d1_37) 39 rfl ?_
                  refine g_iload X406 hx rfl (hb hby d1_39) 41 rfl ?_
                  refine g_iloadN X406 hx rfl (hb hby d1_41) 42 rfl ?_
                  refine g_icmp_ge X406 hx (hb hby d1_42) 68 45 (by decide) rfl rfl (fun q416 => ?_) (fun q416 => ?_)
                  · exact absurd q416 (by decide)
                  · refine g_aloadN X406 hx rfl rfl (hb hby d1_45) 46 rfl ?_
                    refine g_iload X406 hx rfl (hb hby d1_46) 48 rfl ?_
                    refine g_lloadN X406 hx rfl (hb hby d1_48) 49 rfl ?_
                    refine g_bipush X406 hx (8 : Int32) rfl (hb hby d1_49) 51 rfl ?_
                    refine g_iloadN X406 hx rfl (hb hby d1_51) 52 rfl ?_
                    refine g_iconst X406 hx (1 : Int32) rfl (hb hby d1_52) 53 rfl ?_
                    refine g_isub X406 hx (hb hby d1_53) 54 rfl ?_
                    show Go p_ e_ below _ T403 (mkF m_ 54 #[.val (.long v0), .second, .val (.int (5 : Int32)), .val (.ref b405), .val (.int (0 : Int32))] [(.int (4 : Int32)), (.int (8 : Int32)), (.long v0), (.int (0 : Int32)), (.ref b405)])
                    refine g_iload X406 hx rfl (hb hby d1_54) 56 rfl ?_
                    refine g_isub X406 hx (hb hby d1_56) 57 rfl ?_
                    show Go p_ e_ below _ T403 (mkF m_ 57 #[.val (.long v0), .second, .val (.int (5 : Int32)), .val (.ref b405), .val (.int (0 : Int32))] [(.int (4 : Int32)), (.int (8 : Int32)), (.long v0), (.int (0 : Int32)), (.ref b405)])
                    refine g_imul X406 hx (hb hby d1_57) 58 rfl ?_
                    show Go p_ e_ below _ T403 (mkF m_ 58 #[.val (.long v0), .second, .val (.int (5 : Int32)), .val (.ref b405), .val (.int (0 : Int32))] [(.int (32 : Int32)), (.long v0), (.int (0 : Int32)), (.ref b405)])
                    refine g_lshr X406 hx (hb hby d1_58) 59 rfl ?_
                    refine g_l2i X406 hx (hb hby d1_59) 60 rfl ?_
                    refine g_i2b X406 hx (hb hby d1_60) 61 rfl ?_
                    refine g_bastore X406 hx hZ e407 A415 (by decide) (Nat.le_of_ble_eq_true rfl) (hb hby d1_61) 62 rfl (fun T417 h418 X419 e420 W421 A422 => ?_)
                    have A423 : AV Z h418 b405 .byte [(.int (v0 >>> ((32 : Int32) &&& 0x3f).toInt64).toInt32.toInt8.toInt32.toInt8.toInt32), (.int (0 : Int32)), (.int (0 : Int32)), (.int (0 : Int32)), (.int (0 : Int32))] := A422
                    have F424 := A423
                    have N425 := Fr.snoc X419 N0 sz411
                    have szh426 : n0 ≤ h418.size := Nat.le_trans szh412 (Nat.le_of_eq W421.size.symm)
                    have K427 := K414.wr W421 (Or.inr szk413)
                    show Go p_ e_ below _ T417 (mkF m_ 62 #[.val (.long v0), .second, .val (.int (5 : Int32)), .val (.ref b405), .val (.int (0 : Int32))] [])
                    refine g_iinc X419 hx (1 : Int32) rfl rfl #[.val (.long v0), .second, .val (.int (5 : Int32)), .val (.ref b405), .val (.int (1 : Int32))] rfl (hb hby d1_62) 65 rfl ?_
                    refine g_goto X419 hx (hb hby d1_65) 39 (by decide) rfl ?_
                    refine g_iload X419 hx rfl (hb hby d1_39) 41 rfl ?_
                    refine g_iloadN X419 hx rfl (hb hby d1_41) 42 rfl ?_
                    refine g_icmp_ge X419 hx (hb hby d1_42) 68 45 (by decide) rfl rfl (fun q428 => ?_) (fun q428 => ?_)
                    · exact absurd q428 (by decide)
                    · refine g_aloadN X419 hx rfl rfl (hb hby d1_45) 46 rfl ?_
                      refine g_iload X419 hx rfl (hb hby d1_46) 48 rfl ?_
                      refine g_lloadN X419 hx rfl (hb hby d1_48) 49 rfl ?_
                      refine g_bipush X419 hx (8 : Int32) rfl (hb hby d1_49) 51 rfl ?_
                      refine g_iloadN X419 hx rfl (hb hby d1_51) 52 rfl ?_
                      refine g_iconst X419 hx (1 : Int32) rfl (hb hby d1_52) 53 rfl ?_
                      refine g_isub X419 hx (hb hby d1_53) 54 rfl ?_
                      show Go p_ e_ below _ T417 (mkF m_ 54 #[.val (.long v0), .second, .val (.int (5 : Int32)), .val (.ref b405), .val (.int (1 : Int32))] [(.int (4 : Int32)), (.int (8 : Int32)), (.long v0), (.int (1 : Int32)), (.ref b405)])
                      refine g_iload X419 hx rfl (hb hby d1_54) 56 rfl ?_
                      refine g_isub X419 hx (hb hby d1_56) 57 rfl ?_
                      show Go p_ e_ below _ T417 (mkF m_ 57 #[.val (.long v0), .second, .val (.int (5 : Int32)), .val (.ref b405), .val (.int (1 : Int32))] [(.int (3 : Int32)), (.int (8 : Int32)), (.long v0), (.int (1 : Int32)), (.ref b405)])
                      refine g_imul X419 hx (hb hby d1_57) 58 rfl ?_
                      show Go p_ e_ below _ T417 (mkF m_ 58 #[.val (.long v0), .second, .val (.int (5 : Int32)), .val (.ref b405), .val (.int (1 : Int32))] [(.int (24 : Int32)), (.long v0), (.int (1 : Int32)), (.ref b405)])
                      refine g_lshr X419 hx (hb hby d1_58) 59 rfl ?_
                      refine g_l2i X419 hx (hb hby d1_59) 60 rfl ?_
                      refine g_i2b X419 hx (hb hby d1_60) 61 rfl ?_
                      refine g_bastore X419 hx hZ e420 A423 (by decide) (Nat.le_of_ble_eq_true rfl) (hb hby d1_61) 62 rfl (fun T429 h430 X431 e432 W433 A434 => ?_)
                      have A435 : AV Z h430 b405 .byte [(.int (v0 >>> ((32 : Int32) &&& 0x3f).toInt64).toInt32.toInt8.toInt32.toInt8.toInt32), (.int (v0 >>> ((24 : Int32) &&& 0x3f).toInt64).toInt32.toInt8.toInt32.toInt8.toInt32), (.int (0 : Int32)), (.int (0 : Int32)), (.int (0 : Int32))] := A434
                      have F436 := A435
                      have N437 := Fr.snoc X431 N425 sz411
                      have szh438 : n0 ≤ h430.size := Nat.le_trans szh426 (Nat.le_of_eq W433.size.symm)
                      have K439 := K427.wr W433 (Or.inr szk413)
                      show Go p_ e_ below _ T429 (mkF m_ 62 #[.val (.long v0), .second, .val (.int (5 : Int32)), .val (.ref b405), .val (.int (1 : Int32))] [])
                      refine g_iinc X431 hx (1 : Int32) rfl rfl #[.val (.long v0), .second, .val (.int (5 : Int32)), .val (.ref b405), .val (.int (2 : Int32))] rfl (hb hby d1_62) 65 rfl ?_
                      refine g_goto X431 hx (hb hby d1_65) 39 (by decide) rfl ?_
                      refine g_iload X431 hx rfl (hb hby d1_39) 41 rfl ?_
                      refine g_iloadN X431 hx rfl (hb hby d1_41) 42 rfl ?_
                      refine g_icmp_ge X431 hx (hb hby d1_42) 68 45 (by decide) rfl rfl (fun q440 => ?_) (fun q440 => ?_)
                      · exact absurd q440 (by decide)
                      · refine g_aloadN X431 hx rfl rfl (hb hby d1_45) 46 rfl ?_
                        refine g_iload X431 hx rfl (hb hby d1_46) 48 rfl ?_
                        refine g_lloadN X431 hx rfl (hb hby d1_48) 49 rfl ?_
                        refine g_bipush X431 hx (8 : Int32) rfl (hb hby d1_49) 51 rfl ?_
                        refine g_iloadN X431 hx rfl (hb hby d1_51) 52 rfl ?_
                        refine g_iconst X431 hx (1 : Int32) rfl (hb hby d1_52) 53 rfl ?_
                        refine g_isub X431 hx (hb hby d1_53) 54 rfl ?_
                        show Go p_ e_ below _ T429 (mkF m_ 54 #[.val (.long v0), .second, .val (.int (5 : Int32)), .val (.ref b405), .val (.int (2 : Int32))] [(.int (4 : Int32)), (.int (8 : Int32)), (.long v0), (.int (2 : Int32)), (.ref b405)])
                        refine g_iload X431 hx rfl (hb hby d1_54) 56 rfl ?_
                        refine g_isub X431 hx (hb hby d1_56) 57 rfl ?_
                        show Go p_ e_ below _ T429 (mkF m_ 57 #[.val (.long v0), .second, .val (.int (5 : Int32)), .val (.ref b405), .val (.int (2 : Int32))] [(.int (2 : Int32)), (.int (8 : Int32)), (.long v0), (.int (2 : Int32)), (.ref b405)])
                        refine g_imul X431 hx (hb hby d1_57) 58 rfl ?_
                        show Go p_ e_ below _ T429 (mkF m_ 58 #[.val (.long v0), .second, .val (.int (5 : Int32)), .val (.ref b405), .val (.int (2 : Int32))] [(.int (16 : Int32)), (.long v0), (.int (2 : Int32)), (.ref b405)])
                        refine g_lshr X431 hx (hb hby d1_58) 59 rfl ?_
                        refine g_l2i X431 hx (hb hby d1_59) 60 rfl ?_
                        refine g_i2b X431 hx (hb hby d1_60) 61 rfl ?_
                        refine g_bastore X431 hx hZ e432 A435 (by decide) (Nat.le_of_ble_eq_true rfl) (hb hby d1_61) 62 rfl (fun T441 h442 X443 e444 W445 A446 => ?_)
                        have A447 : AV Z h442 b405 .byte [(.int (v0 >>> ((32 : Int32) &&& 0x3f).toInt64).toInt32.toInt8.toInt32.toInt8.toInt32), (.int (v0 >>> ((24 : Int32) &&& 0x3f).toInt64).toInt32.toInt8.toInt32.toInt8.toInt32), (.int (v0 >>> ((16 : Int32) &&& 0x3f).toInt64).toInt32.toInt8.toInt32.toInt8.toInt32), (.int (0 : Int32)), (.int (0 : Int32))] := A446
                        have F448 := A447
                        have N449 := Fr.snoc X443 N437 sz411
                        have szh450 : n0 ≤ h442.size := Nat.le_trans szh438 (Nat.le_of_eq W445.size.symm)
                        have K451 := K439.wr W445 (Or.inr szk413)
                        show Go p_ e_ below _ T441 (mkF m_ 62 #[.val (.long v0), .second, .val (.int (5 : Int32)), .val (.ref b405), .val (.int (2 : Int32))] [])
                        refine g_iinc X443 hx (1 : Int32) rfl rfl #[.val (.long v0), .second, .val (.int (5 : Int32)), .val (.ref b405), .val (.int (3 : Int32))] rfl (hb hby d1_62) 65 rfl ?_
                        refine g_goto X443 hx (hb hby d1_65) 39 (by decide) rfl ?_
                        refine g_iload X443 hx rfl (hb hby d1_39) 41 rfl ?_
                        refine g_iloadN X443 hx rfl (hb hby d1_41) 42 rfl ?_
                        refine g_icmp_ge X443 hx (hb hby d1_42) 68 45 (by decide) rfl rfl (fun q452 => ?_) (fun q452 => ?_)
                        · exact absurd q452 (by decide)
                        · refine g_aloadN X443 hx rfl rfl (hb hby d1_45) 46 rfl ?_
                          refine g_iload X443 hx rfl (hb hby d1_46) 48 rfl ?_
                          refine g_lloadN X443 hx rfl (hb hby d1_48) 49 rfl ?_
                          refine g_bipush X443 hx (8 : Int32) rfl (hb hby d1_49) 51 rfl ?_
                          refine g_iloadN X443 hx rfl (hb hby d1_51) 52 rfl ?_
                          refine g_iconst X443 hx (1 : Int32) rfl (hb hby d1_52) 53 rfl ?_
                          refine g_isub X443 hx (hb hby d1_53) 54 rfl ?_
                          show Go p_ e_ below _ T441 (mkF m_ 54 #[.val (.long v0), .second, .val (.int (5 : Int32)), .val (.ref b405), .val (.int (3 : Int32))] [(.int (4 : Int32)), (.int (8 : Int32)), (.long v0), (.int (3 : Int32)), (.ref b405)])
                          refine g_iload X443 hx rfl (hb hby d1_54) 56 rfl ?_
                          refine g_isub X443 hx (hb hby d1_56) 57 rfl ?_
                          show Go p_ e_ below _ T441 (mkF m_ 57 #[.val (.long v0), .second, .val (.int (5 : Int32)), .val (.ref b405), .val (.int (3 : Int32))] [(.int (1 : Int32)), (.int (8 : Int32)), (.long v0), (.int (3 : Int32)), (.ref b405)])
                          refine g_imul X443 hx (hb hby d1_57) 58 rfl ?_
                          show Go p_ e_ below _ T441 (mkF m_ 58 #[.val (.long v0), .second, .val (.int (5 : Int32)), .val (.ref b405), .val (.int (3 : Int32))] [(.int (8 : Int32)), (.long v0), (.int (3 : Int32)), (.ref b405)])
                          refine g_lshr X443 hx (hb hby d1_58) 59 rfl ?_
                          refine g_l2i X443 hx (hb hby d1_59) 60 rfl ?_
                          refine g_i2b X443 hx (hb hby d1_60) 61 rfl ?_
                          refine g_bastore X443 hx hZ e444 A447 (by decide) (Nat.le_of_ble_eq_true rfl) (hb hby d1_61) 62 rfl (fun T453 h454 X455 e456 W457 A458 => ?_)
                          have A459 : AV Z h454 b405 .byte [(.int (v0 >>> ((32 : Int32) &&& 0x3f).toInt64).toInt32.toInt8.toInt32.toInt8.toInt32), (.int (v0 >>> ((24 : Int32) &&& 0x3f).toInt64).toInt32.toInt8.toInt32.toInt8.toInt32), (.int (v0 >>> ((16 : Int32) &&& 0x3f).toInt64).toInt32.toInt8.toInt32.toInt8.toInt32), (.int (v0 >>> ((8 : Int32) &&& 0x3f).toInt64).toInt32.toInt8.toInt32.toInt8.toInt32), (.int (0 : Int32))] := A458
                          have F460 := A459
                          have N461 := Fr.snoc X455 N449 sz411
                          have szh462 : n0 ≤ h454.size := Nat.le_trans szh450 (Nat.le_of_eq W457.size.symm)
                          have K463 := K451.wr W457 (Or.inr szk413)
                          show Go p_ e_ below _ T453 (mkF m_ 62 #[.val (.long v0), .second, .val (.int (5 : Int32)), .val (.ref b405), .val (.int (3 : Int32))] [])
                          refine g_iinc X455 hx (1 : Int32) rfl rfl #[.val (.long v0), .second, .val (.int (5 : Int32)), .val (.ref b405), .val (.int (4 : Int32))] rfl (hb hby d1_62) 65 rfl ?_
                          refine g_goto X455 hx (hb hby d1_65) 39 (by decide) rfl ?_
                          refine g_iload X455 hx rfl (hb hby d1_39) 41 rfl ?_
                          refine g_iloadN X455 hx rfl (hb hby d1_41) 42 rfl ?_
                          refine g_icmp_ge X455 hx (hb hby d1_42) 68 45 (by decide) rfl rfl (fun q464 => ?_) (fun q464 => ?_)
                          · exact absurd q464 (by decide)
                          · refine g_aloadN X455 hx rfl rfl (hb hby d1_45) 46 rfl ?_
                            refine g_iload X455 hx rfl (hb hby d1_46) 48 rfl ?_
                            refine g_lloadN X455 hx rfl (hb hby d1_48) 49 rfl ?_
                            refine g_bipush X455 hx (8 : Int32) rfl (hb hby d1_49) 51 rfl ?_
                            refine g_iloadN X455 hx rfl (hb hby d1_51) 52 rfl ?_
                            refine g_iconst X455 hx (1 : Int32) rfl (hb hby d1_52) 53 rfl ?_
                            refine g_isub X455 hx (hb hby d1_53) 54 rfl ?_
                            show Go p_ e_ below _ T453 (mkF m_ 54 #[.val (.long v0), .second, .val (.int (5 : Int32)), .val (.ref b405), .val (.int (4 : Int32))] [(.int (4 : Int32)), (.int (8 : Int32)), (.long v0), (.int (4 : Int32)), (.ref b405)])
                            refine g_iload X455 hx rfl (hb hby d1_54) 56 rfl ?_
                            refine g_isub X455 hx (hb hby d1_56) 57 rfl ?_
                            show Go p_ e_ below _ T453 (mkF m_ 57 #[.val (.long v0), .second, .val (.int (5 : Int32)), .val (.ref b405), .val (.int (4 : Int32))] [(.int (0 : Int32)), (.int (8 : Int32)), (.long v0), (.int (4 : Int32)), (.ref b405)])
                            refine g_imul X455 hx (hb hby d1_57) 58 rfl ?_
                            show Go p_ e_ below _ T453 (mkF m_ 58 #[.val (.long v0), .second, .val (.int (5 : Int32)), .val (.ref b405), .val (.int (4 : Int32))] [(.int (0 : Int32)), (.long v0), (.int (4 : Int32)), (.ref b405)])
                            refine g_lshr X455 hx (hb hby d1_58) 59 rfl ?_
                            refine g_l2i X455 hx (hb hby d1_59) 60 rfl ?_
                            refine g_i2b X455 hx (hb hby d1_60) 61 rfl ?_
                            refine g_bastore X455 hx hZ e456 A459 (by decide) (Nat.le_of_ble_eq_true rfl) (hb hby d1_61) 62 rfl (fun T465 h466 X467 e468 W469 A470 => ?_)
                            have A471 : AV Z h466 b405 .byte [(.int (v0 >>> ((32 : Int32) &&& 0x3f).toInt64).toInt32.toInt8.toInt32.toInt8.toInt32), (.int (v0 >>> ((24 : Int32) &&& 0x3f).toInt64).toInt32.toInt8.toInt32.toInt8.toInt32), (.int (v0 >>> ((16 : Int32) &&& 0x3f).toInt64).toInt32.toInt8.toInt32.toInt8.toInt32), (.int (v0 >>> ((8 : Int32) &&& 0x3f).toInt64).toInt32.toInt8.toInt32.toInt8.toInt32), (.int (v0 >>> ((0 : Int32) &&& 0x3f).toInt64).toInt32.toInt8.toInt32.toInt8.toInt32)] := A470
                            have F472 := A471
                            have N473 := Fr.snoc X467 N461 sz411
                            have szh474 : n0 ≤ h466.size := Nat.le_trans szh462 (Nat.le_of_eq W469.size.symm)
                            have K475 := K463.wr W469 (Or.inr szk413)
                            show Go p_ e_ below _ T465 (mkF m_ 62 #[.val (.long v0), .second, .val (.int (5 : Int32)), .val (.ref b405), .val (.int (4 : Int32))] [])
                            refine g_iinc X467 hx (1 : Int32) rfl rfl #[.val (.long v0), .second, .val (.int (5 : Int32)), .val (.ref b405), .val (.int (5 : Int32))] rfl (hb hby d1_62) 65 rfl ?_
                            refine g_goto X467 hx (hb hby d1_65) 39 (by decide) rfl ?_
                            refine g_iload X467 hx rfl (hb hby d1_39) 41 rfl ?_
                            refine g_iloadN X467 hx rfl (hb hby d1_41) 42 rfl ?_
                            refine g_icmp_ge X467 hx (hb hby d1_42) 68 45 (by decide) rfl rfl (fun q476 => ?_) (fun q476 => ?_)
                            · refine g_aloadN X467 hx rfl rfl (hb hby d1_68) 69 rfl ?_
                              exact g_reta X467 hx rfl rfl hret hlk (by decide) (by decide) (hb hby d1_69) (by rw [e468]; exact ⟨b405, rfl, N473, K475, szk413, (by rw [show ln v0 = 5 from ((if_pos q102).trans ((if_pos q214).trans ((if_pos q314).trans ((if_neg q402).trans rfl))))]; exact A471)⟩)
                            · exact absurd q476 (by decide)
                · refine g_iinc X0 hx (-1 : Int32) rfl rfl #[.val (.long v0), .second, .val (.int (4 : Int32)), .unset, .unset] rfl (hb hby d1_26) 29 rfl ?_
                  refine g_goto X0 hx (hb hby d1_29) 3 (by decide) rfl ?_
                  refine g_iloadN X0 hx rfl (hb hby d1_3) 4 rfl ?_
                  refine g_iconst X0 hx (1 : Int32) rfl (hb hby d1_4) 5 rfl ?_
                  refine g_icmp_le X0 hx (hb hby d1_5) 32 8 (by decide) rfl rfl (fun q477 => ?_) (fun q477 => ?_)
                  · exact absurd q477 (by decide)
                  · refine g_lloadN X0 hx rfl (hb hby d1_8) 9 rfl ?_
                    refine g_bipush X0 hx (8 : Int32) rfl (hb hby d1_9) 11 rfl ?_
                    refine g_iloadN X0 hx rfl (hb hby d1_11) 12 rfl ?_
                    refine g_iconst X0 hx (1 : Int32) rfl (hb hby d1_12) 13 rfl ?_
                    refine g_isub X0 hx (hb hby d1_13) 14 rfl ?_
                    show Go p_ e_ below _ T0 (mkF m_ 14 #[.val (.long v0), .second, .val (.int (4 : Int32)), .unset, .unset] [(.int (3 : Int32)), (.int (8 : Int32)), (.long v0)])
                    refine g_imul X0 hx (hb hby d1_14) 15 rfl ?_
                    show Go p_ e_ below _ T0 (mkF m_ 15 #[.val (.long v0), .second, .val (.int (4 : Int32)), .unset, .unset] [(.int (24 : Int32)), (.long v0)])
                    refine g_iconst X0 hx (1 : Int32) rfl (hb hby d1_15) 16 rfl ?_
                    refine g_isub X0 hx (hb hby d1_16) 17 rfl ?_
                    show Go p_ e_ below _ T0 (mkF m_ 17 #[.val (.long v0), .second, .val (.int (4 : Int32)), .unset, .unset] [(.int (23 : Int32)), (.long v0)])
                    refine g_lshr X0 hx (hb hby d1_17) 18 rfl ?_
                    refine g_lloadN X0 hx rfl (hb hby d1_18) 19 rfl ?_
                    refine g_bipush X0 hx (63 : Int32) rfl (hb hby d1_19) 21 rfl ?_
                    refine g_lshr X0 hx (hb hby d1_21) 22 rfl ?_
                    refine g_lif_ne X0 hx (hb hby d1_22) 23 rfl (hb hby d1_23) 32 26 (by decide) rfl rfl (fun q478 => ?_) (fun q478 => ?_)
                    · refine g_iloadN X0 hx rfl (hb hby d1_32) 33 rfl ?_
                      refine g_newarray X0 hx hZ (aty := .byte) (wd hw 4 rfl) eq0 (by decide) 4 (by decide) (by decide) (by decide) (by decide) [(.int (0 : Int32)), (.int (0 : Int32)), (.int (0 : Int32)), (.int (0 : Int32))] rfl (hb hby d1_33) 35 rfl (fun T479 h480 b481 X482 e483 g484 E485 A486 => ?_)
                      have sz487 : n0 ≤ b481 := Nat.le_trans Z0 (Nat.le_of_eq g484.symm)
                      have szh488 : n0 ≤ h480.size := Nat.le_trans Z0 E485.1
                      have szk489 : h0.size ≤ b481 := Nat.le_trans (Keep.refl h0 []).1 (Nat.le_of_eq g484.symm)
                      have K490 := (Keep.refl h0 []).ext E485
                      have A491 : AV Z h480 b481 .byte [(.int (0 : Int32)), (.int (0 : Int32)), (.int (0 : Int32)), (.int (0 : Int32))] := A486
                      show Go p_ e_ below _ T479 (mkF m_ 35 #[.val (.long v0), .second, .val (.int (4 : Int32)), .unset, .unset] [(.ref b481)])
                      refine g_astoreN X482 hx #[.val (.long v0), .second, .val (.int (4 : Int32)), .val (.ref b481), .unset] rfl rfl (hb hby d1_35) 36 rfl ?_
                      refine g_iconst X482 hx (0 : Int32) rfl (hb hby d1_36) 37 rfl ?_
                      refine g_istore X482 hx #[.val (.long v0), .second, .val (.int (4 : Int32)), .val (.ref b481), .val (.int (0 : Int32))] rfl (hb hby d1_37) 39 rfl ?_
                      refine g_iload X482 hx rfl (hb hby d1_39) 41 rfl ?_
                      refine g_iloadN X482 hx rfl (hb hby d1_41) 42 rfl ?_
                      refine g_icmp_ge X482 hx (hb hby d1_42) 68 45 (by decide) rfl rfl (fun q492 => ?_) (fun q492 => ?_)
                      · exact absurd q492 (by decide)
                      · refine g_aloadN X482 hx rfl rfl (hb hby d1_45) 46 rfl ?_
                        refine g_iload X482 hx rfl (hb hby d1_46) 48 rfl ?_
                        refine g_lloadN X482 hx rfl (hb hby d1_48) 49 rfl ?_
                        refine g_bipush X482 hx (8 : Int32) rfl (hb hby d1_49) 51 rfl ?_
                        refine g_iloadN X482 hx rfl (hb hby d1_51) 52 rfl ?_
                        refine g_iconst X482 hx (1 : Int32) rfl (hb hby d1_52) 53 rfl ?_
                        refine g_isub X482 hx (hb hby d1_53) 54 rfl ?_
                        show Go p_ e_ below _ T479 (mkF m_ 54 #[.val (.long v0), .second, .val (.int (4 : Int32)), .val (.ref b481), .val (.int (0 : Int32))] [(.int (3 : Int32)), (.int (8 : Int32)), (.long v0), (.int (0 : Int32)), (.ref b481)])
                        refine g_iload X482 hx rfl (hb hby d1_54) 56 rfl ?_
                        refine g_isub X482 hx (hb hby d1_56) 57 rfl ?_
                        show Go p_ e_ below _ T479 (mkF m_ 57 #[.val (.long v0), .second, .val (.int (4 : Int32)), .val (.ref b481), .val (.int (0 : Int32))] [(.int (3 : Int32)), (.int (8 : Int32)), (.long v0), (.int (0 : Int32)), (.ref b481)])
                        refine g_imul X482 hx (hb hby d1_57) 58 rfl ?_
                        show Go p_ e_ below _ T479 (mkF m_ 58 #[.val (.long v0), .second, .val (.int (4 : Int32)), .val (.ref b481), .val (.int (0 : Int32))] [(.int (24 : Int32)), (.long v0), (.int (0 : Int32)), (.ref b481)])
                        refine g_lshr X482 hx (hb hby d1_58) 59 rfl ?_
                        refine g_l2i X482 hx (hb hby d1_59) 60 rfl ?_
                        refine g_i2b X482 hx (hb hby d1_60) 61 rfl ?_
                        refine g_bastore X482 hx hZ e483 A491 (by decide) (Nat.le_of_ble_eq_true rfl) (hb hby d1_61) 62 rfl (fun T493 h494 X495 e496 W497 A498 => ?_)
                        have A499 : AV Z h494 b481 .byte [(.int (v0 >>> ((24 : Int32) &&& 0x3f).toInt64).toInt32.toInt8.toInt32.toInt8.toInt32), (.int (0 : Int32)), (.int (0 : Int32)), (.int (0 : Int32))] := A498
                        have F500 := A499
                        have N501 := Fr.snoc X495 N0 sz487
                        have szh502 : n0 ≤ h494.size := Nat.le_trans szh488 (Nat.le_of_eq W497.size.symm)
                        have K503 := K490.wr W497 (Or.inr szk489)
                        show Go p_ e_ below _ T493 (mkF m_ 62 #[.val (.long v0), .second, .val (.int (4 : Int32)), .val (.ref b481), .val (.int (0 : Int32))] [])
                        refine g_iinc X495 hx (1 : Int32) rfl rfl #[.val (.long v0), .second, .val (.int (4 : Int32)), .val (.ref b481), .val (.int (1 : Int32))] rfl (hb hby d1_62) 65 rfl ?_
                        refine g_goto X495 hx (hb hby d1_65) 39 (by decide) rfl ?_
                        refine g_iload X495 hx rfl (hb hby d1_39) 41 rfl ?_
                        refine g_iloadN X495 hx rfl (hb hby d1_41) 42 rfl ?_
                        refine g_icmp_ge X495 hx (hb hby d1_42) 68 45 (by decide) rfl rfl (fun q504 => ?_) (fun q504 => ?_)
                        · exact absurd q504 (by decide)
                        · refine g_aloadN X495 hx rfl rfl (hb hby d1_45) 46 rfl ?_
                          refine g_iload X495 hx rfl (hb hby d1_46) 48 rfl ?_
                          refine g_lloadN X495 hx rfl (hb hby d1_48) 49 rfl ?_
                          refine g_bipush X495 hx (8 : Int32) rfl (hb hby d1_49) 51 rfl ?_
                          refine g_iloadN X495 hx rfl (hb hby d1_51) 52 rfl ?_
                          refine g_iconst X495 hx (1 : Int32) rfl (hb hby d1_52) 53 rfl ?_
                          refine g_isub X495 hx (hb hby d1_53) 54 rfl ?_
                          show Go p_ e_ below _ T493 (mkF m_ 54 #[.val (.long v0), .second, .val (.int (4 : Int32)), .val (.ref b481), .val (.int (1 : Int32))] [(.int (3 : Int32)), (.int (8 : Int32)), (.long v0), (.int (1 : Int32)), (.ref b481)])
                          refine g_iload X495 hx rfl (hb hby d1_54) 56 rfl ?_
                          refine g_isub X495 hx (hb hby d1_56) 57 rfl ?_
                          show Go p_ e_ below _ T493 (mkF m_ 57 #[.val (.long v0), .second, .val (.int (4 : Int32)), .val (.ref b481), .val (.int (1 : Int32))] [(.int (2 : Int32)), (.int (8 : Int32)), (.long v0), (.int (1 : Int32)), (.ref b481)])
                          refine g_imul X495 hx (hb hby d1_57) 58 rfl ?_
                          show Go p_ e_ below _ T493 (mkF m_ 58 #[.val (.long v0), .second, .val (.int (4 : Int32)), .val (.ref b481), .val (.int (1 : Int32))] [(.int (16 : Int32)), (.long v0), (.int (1 : Int32)), (.ref b481)])
                          refine g_lshr X495 hx (hb hby d1_58) 59 rfl ?_
                          refine g_l2i X495 hx (hb hby d1_59) 60 rfl ?_
                          refine g_i2b X495 hx (hb hby d1_60) 61 rfl ?_
                          refine g_bastore X495 hx hZ e496 A499 (by decide) (Nat.le_of_ble_eq_true rfl) (hb hby d1_61) 62 rfl (fun T505 h506 X507 e508 W509 A510 => ?_)
                          have A511 : AV Z h506 b481 .byte [(.int (v0 >>> ((24 : Int32) &&& 0x3f).toInt64).toInt32.toInt8.toInt32.toInt8.toInt32), (.int (v0 >>> ((16 : Int32) &&& 0x3f).toInt64).toInt32.toInt8.toInt32.toInt8.toInt32), (.int (0 : Int32)), (.int (0 : Int32))] := A510
                          have F512 := A511
                          have N513 := Fr.snoc X507 N501 sz487
                          have szh514 : n0 ≤ h506.size := Nat.le_trans szh502 (Nat.le_of_eq W509.size.symm)
                          have K515 := K503.wr W509 (Or.inr szk489)
                          show Go p_ e_ below _ T505 (mkF m_ 62 #[.val (.long v0), .second, .val (.int (4 : Int32)), .val (.ref b481), .val (.int (1 : Int32))] [])
                          refine g_iinc X507 hx (1 : Int32) rfl rfl #[.val (.long v0), .second, .val (.int (4 : Int32)), .val (.ref b481), .val (.int (2 : Int32))] rfl (hb hby d1_62) 65 rfl ?_
                          refine g_goto X507 hx (hb hby d1_65) 39 (by decide) rfl ?_
                          refine g_iload X507 hx rfl (hb hby d1_39) 41 rfl ?_
                          refine g_iloadN X507 hx rfl (hb hby d1_41) 42 rfl ?_
                          refine g_icmp_ge X507 hx (hb hby d1_42) 68 45 (by decide) rfl rfl (fun q516 => ?_) (fun q516 => ?_)
                          · exact absurd q516 (by decide)
                          · refine g_aloadN X507 hx rfl rfl (hb hby d1_45) 46 rfl ?_
                            refine g_iload X507 hx rfl (hb hby d1_46) 48 rfl ?_
                            refine g_lloadN X507 hx rfl (hb hby d1_48) 49 rfl ?_
                            refine g_bipush X507 hx (8 : Int32) rfl (hb hby d1_49) 51 rfl ?_
                            refine g_iloadN X507 hx rfl (hb hby d1_51) 52 rfl ?_
                            refine g_iconst X507 hx (1 : Int32) rfl (hb hby d1_52) 53 rfl ?_
                            refine g_isub X507 hx (hb hby d1_53) 54 rfl ?_
                            show Go p_ e_ below _ T505 (mkF m_ 54 #[.val (.long v0), .second, .val (.int (4 : Int32)), .val (.ref b481), .val (.int (2 : Int32))] [(.int (3 : Int32)), (.int (8 : Int32)), (.long v0), (.int (2 : Int32)), (.ref b481)])
                            refine g_iload X507 hx rfl (hb hby d1_54) 56 rfl ?_
                            refine g_isub X507 hx (hb hby d1_56) 57 rfl ?_
                            show Go p_ e_ below _ T505 (mkF m_ 57 #[.val (.long v0), .second, .val (.int (4 : Int32)), .val (.ref b481), .val (.int (2 : Int32))] [(.int (1 : Int32)), (.int (8 : Int32)), (.long v0), (.int (2 : Int32)), (.ref b481)])
                            refine g_imul X507 hx (hb hby d1_57) 58 rfl ?_
                            show Go p_ e_ below _ T505 (mkF m_ 58 #[.val (.long v0), .second, .val (.int (4 : Int32)), .val (.ref b481), .val (.int (2 : Int32))] [(.int (8 : Int32)), (.long v0), (.int (2 : Int32)), (.ref b481)])
                            refine g_lshr X507 hx (hb hby d1_58) 59 rfl ?_
                            refine g_l2i X507 hx (hb hby d1_59) 60 rfl ?_
                            refine g_i2b X507 hx (hb hby d1_60) 61 rfl ?_
                            refine g_bastore X507 hx hZ e508 A511 (by decide) (Nat.le_of_ble_eq_true rfl) (hb hby d1_61) 62 rfl (fun T517 h518 X519 e520 W521 A522 => ?_)
                            have A523 : AV Z h518 b481 .byte [(.int (v0 >>> ((24 : Int32) &&& 0x3f).toInt64).toInt32.toInt8.toInt32.toInt8.toInt32), (.int (v0 >>> ((16 : Int32) &&& 0x3f).toInt64).toInt32.toInt8.toInt32.toInt8.toInt32), (.int (v0 >>> ((8 : Int32) &&& 0x3f).toInt64).toInt32.toInt8.toInt32.toInt8.toInt32), (.int (0 : Int32))] := A522
                            have F524 := A523
                            have N525 := Fr.snoc X519 N513 sz487
                            have szh526 : n0 ≤ h518.size := Nat.le_trans szh514 (Nat.le_of_eq W521.size.symm)
                            have K527 := K515.wr W521 (Or.inr szk489)
                            show Go p_ e_ below _ T517 (mkF m_ 62 #[.val (.long v0), .second, .val (.int (4 : Int32)), .val (.ref b481), .val (.int (2 : Int32))] [])
                            refine g_iinc X519 hx (1 : Int32) rfl rfl #[.val (.long v0), .second, .val (.int (4 : Int32)), .val (.ref b481), .val (.int (3 : Int32))] rfl (hb hby d1_62) 65 rfl ?_
                            refine g_goto X519 hx (hb hby d1_65) 39 (by decide) rfl ?_
                            refine g_iload X519 hx rfl (hb hby d1_39) 41 rfl ?_
                            refine g_iloadN X519 hx rfl (hb hby d1_41) 42 rfl ?_
                            refine g_icmp_ge X519 hx (hb hby d1_42) 68 45 (by decide) rfl rfl (fun q528 => ?_) (fun q528 => ?_)
                            · exact absurd q528 (by decide)
                            · refine g_aloadN X519 hx rfl rfl (hb hby d1_45) 46 rfl ?_
                              refine g_iload X519 hx rfl (hb hby d1_46) 48 rfl ?_
                              refine g_lloadN X519 hx rfl (hb hby d1_48) 49 rfl ?_
                              refine g_bipush X519 hx (8 : Int32) rfl (hb hby d1_49) 51 rfl ?_
                              refine g_iloadN X519 hx rfl (hb hby d1_51) 52 rfl ?_
                              refine g_iconst X519 hx (1 : Int32) rfl (hb hby d1_52) 53 rfl ?_
                              refine g_isub X519 hx (hb hby d1_53) 54 rfl ?_
                              show Go p_ e_ below _ T517 (mkF m_ 54 #[.val (.long v0), .second, .val (.int (4 : Int32)), .val (.ref b481), .val (.int (3 : Int32))] [(.int (3 : Int32)), (.int (8 : Int32)), (.long v0), (.int (3 : Int32)), (.ref b481)])
                              refine g_iload X519 hx rfl (hb hby d1_54) 56 rfl ?_
                              refine g_isub X519 hx (hb hby d1_56) 57 rfl ?_
                              show Go p_ e_ below _ T517 (mkF m_ 57 #[.val (.long v0), .second, .val (.int (4 : Int32)), .val (.ref b481), .val (.int (3 : Int32))] [(.int (0 : Int32)), (.int (8 : Int32)), (.long v0), (.int (3 : Int32)), (.ref b481)])
                              refine g_imul X519 hx (hb hby d1_57) 58 rfl ?_
                              show Go p_ e_ below _ T517 (mkF m_ 58 #[.val (.long v0), .second, .val (.int (4 : Int32)), .val (.ref b481), .val (.int (3 : Int32))] [(.int (0 : Int32)), (.long v0), (.int (3 : Int32)), (.ref b481)])
                              refine g_lshr X519 hx (hb hby d1_58) 59 rfl ?_
                              refine g_l2i X519 hx (hb hby d1_59) 60 rfl ?_
                              refine g_i2b X519 hx (hb hby d1_60) 61 rfl ?_
                              refine g_bastore X519 hx hZ e520 A523 (by decide) (Nat.le_of_ble_eq_true rfl) (hb hby d1_61) 62 rfl (fun T529 h530 X531 e532 W533 A534 => ?_)
                              have A535 : AV Z h530 b481 .byte [(.int (v0 >>> ((24 : Int32) &&& 0x3f).toInt64).toInt32.toInt8.toInt32.toInt8.toInt32), (.int (v0 >>> ((16 : Int32) &&& 0x3f).toInt64).toInt32.toInt8.toInt32.toInt8.toInt32), (.int (v0 >>> ((8 : Int32) &&& 0x3f).toInt64).toInt32.toInt8.toInt32.toInt8.toInt32), (.int (v0 >>> ((0 : Int32) &&& 0x3f).toInt64).toInt32.toInt8.toInt32.toInt8.toInt32)] := A534
                              have F536 := A535
                              have N537 := Fr.snoc X531 N525 sz487
                              have szh538 : n0 ≤ h530.size := Nat.le_trans szh526 (Nat.le_of_eq W533.size.symm)
                              have K539 := K527.wr W533 (Or.inr szk489)
                              show Go p_ e_ below _ T529 (mkF m_ 62 #[.val (.long v0), .second, .val (.int (4 : Int32)), .val (.ref b481), .val (.int (3 : Int32))] [])
                              refine g_iinc X531 hx (1 : Int32) rfl rfl #[.val (.long v0), .second, .val (.int (4 : Int32)), .val (.ref b481), .val (.int (4 : Int32))] rfl (hb hby d1_62) 65 rfl ?_
                              refine g_goto X531 hx (hb hby d1_65) 39 (by decide) rfl ?_
                              refine g_iload X531 hx rfl (hb hby d1_39) 41 rfl ?_
                              refine g_iloadN X531 hx rfl (hb hby d1_41) 42 rfl ?_
                              refine g_icmp_ge X531 hx (hb hby d1_42) 68 45 (by decide) rfl rfl (fun q540 => ?_) (fun q540 => ?_)
                              · refine g_aloadN X531 hx rfl rfl (hb hby d1_68) 69 rfl ?_
                                exact g_reta X531 hx rfl rfl hret hlk (by decide) (by decide) (hb hby d1_69) (by rw [e532]; exact ⟨b481, rfl, N537, K539, szk489, (by rw [show ln v0 = 4 from ((if_pos q102).trans ((if_pos q214).trans ((if_pos q314).trans ((if_pos q402).trans ((if_neg q478).trans rfl)))))]; exact A535)⟩)
                              · exact absurd q540 (by decide)
                    · refine g_iinc X0 hx (-1 : Int32) rfl rfl #[.val (.long v0), .second, .val (.int (3 : Int32)), .unset, .unset] rfl (hb hby d1_26) 29 rfl ?_
                      refine g_goto X0 hx (hb hby d1_29) 3 (by decide) rfl ?_
                      refine g_iloadN X0 hx rfl (hb hby d1_3) 4 rfl ?_
                      refine g_iconst X0 hx (1 : Int32) rfl (hb hby d1_4) 5 rfl ?_
                      refine g_icmp_le X0 hx (hb hby d1_5) 32 8 (by decide) rfl rfl (fun q541 => ?_) (fun q541 => ?_)
                      · exact absurd q541 (by decide)
                      · refine g_lloadN X0 hx rfl (hb hby d1_8) 9 rfl ?_
                        refine g_bipush X0 hx (8 : Int32) rfl (hb hby d1_9) 11 rfl ?_
                        refine g_iloadN X0 hx rfl (hb hby d1_11) 12 rfl ?_
                        refine g_iconst X0 hx (1 : Int32) rfl (hb hby d1_12) 13 rfl ?_
                        refine g_isub X0 hx (hb hby d1_13) 14 rfl ?_
                        show Go p_ e_ below _ T0 (mkF m_ 14 #[.val (.long v0), .second, .val (.int (3 : Int32)), .unset, .unset] [(.int (2 : Int32)), (.int (8 : Int32)), (.long v0)])
                        refine g_imul X0 hx (hb hby d1_14) 15 rfl ?_
                        show Go p_ e_ below _ T0 (mkF m_ 15 #[.val (.long v0), .second, .val (.int (3 : Int32)), .unset, .unset] [(.int (16 : Int32)), (.long v0)])
                        refine g_iconst X0 hx (1 : Int32) rfl (hb hby d1_15) 16 rfl ?_
                        refine g_isub X0 hx (hb hby d1_16) 17 rfl ?_
                        show Go p_ e_ below _ T0 (mkF m_ 17 #[.val (.long v0), .second, .val (.int (3 : Int32)), .unset, .unset] [(.int (15 : Int32)), (.long v0)])
                        refine g_lshr X0 hx (hb hby d1_17) 18 rfl ?_
                        refine g_lloadN X0 hx rfl (hb hby d1_18) 19 rfl ?_
                        refine g_bipush X0 hx (63 : Int32) rfl (hb hby d1_19) 21 rfl ?_
                        refine g_lshr X0 hx (hb hby d1_21) 22 rfl ?_
                        refine g_lif_ne X0 hx (hb hby d1_22) 23 rfl (hb hby d1_23) 32 26 (by decide) rfl rfl (fun q542 => ?_) (fun q542 => ?_)
                        · refine g_iloadN X0 hx rfl (hb hby d1_32) 33 rfl ?_
                          refine g_newarray X0 hx hZ (aty := .byte) (wd hw 4 rfl) eq0 (by decide) 3 (by decide) (by decide) (by decide) (by decide) [(.int (0 : Int32)), (.int (0 : Int32)), (.int (0 : Int32))] rfl (hb hby d1_33) 35 rfl (fun T543 h544 b545 X546 e547 g548 E549 A550 => ?_)
                          have sz551 : n0 ≤ b545 := Nat.le_trans Z0 (Nat.le_of_eq g548.symm)
                          have szh552 : n0 ≤ h544.size := Nat.le_trans Z0 E549.1
                          have szk553 : h0.size ≤ b545 := Nat.le_trans (Keep.refl h0 []).1 (Nat.le_of_eq g548.symm)
                          have K554 := (Keep.refl h0 []).ext E549
                          have A555 : AV Z h544 b545 .byte [(.int (0 : Int32)), (.int (0 : Int32)), (.int (0 : Int32))] := A550
                          show Go p_ e_ below _ T543 (mkF m_ 35 #[.val (.long v0), .second, .val (.int (3 : Int32)), .unset, .unset] [(.ref b545)])
                          refine g_astoreN X546 hx #[.val (.long v0), .second, .val (.int (3 : Int32)), .val (.ref b545), .unset] rfl rfl (hb hby d1_35) 36 rfl ?_
                          refine g_iconst X546 hx (0 : Int32) rfl (hb hby d1_36) 37 rfl ?_
                          refine g_istore X546 hx #[.val (.long v0), .second, .val (.int (3 : Int32)), .val (.ref b545), .val (.int (0 : Int32))] rfl (hb hby d1_37) 39 rfl ?_
                          refine g_iload X546 hx rfl (hb hby d1_39) 41 rfl ?_
                          refine g_iloadN X546 hx rfl (hb hby d1_41) 42 rfl ?_
                          refine g_icmp_ge X546 hx (hb hby d1_42) 68 45 (by decide) rfl rfl (fun q556 => ?_) (fun q556 => ?_)
                          · exact absurd q556 (by decide)
                          · refine g_aloadN X546 hx rfl rfl (hb hby d1_45) 46 rfl ?_
                            refine g_iload X546 hx rfl (hb hby d1_46) 48 rfl ?_
                            refine g_lloadN X546 hx rfl (hb hby d1_48) 49 rfl ?_
                            refine g_bipush X546 hx (8 : Int32) rfl (hb hby d1_49) 51 rfl ?_
                            refine g_iloadN X546 hx rfl (hb hby d1_51) 52 rfl ?_
                            refine g_iconst X546 hx (1 : Int32) rfl (hb hby d1_52) 53 rfl ?_
                            refine g_isub X546 hx (hb hby d1_53) 54 rfl ?_
                            show Go p_ e_ below _ T543 (mkF m_ 54 #[.val (.long v0), .second, .val (.int (3 : Int32)), .val (.ref b545), .val (.int (0 : Int32))] [(.int (2 : Int32)), (.int (8 : Int32)), (.long v0), (.int (0 : Int32)), (.ref b545)])
                            refine g_iload X546 hx rfl (hb hby d1_54) 56 rfl ?_
                            refine g_isub X546 hx (hb hby d1_56) 57 rfl ?_
                            show Go p_ e_ below _ T543 (mkF m_ 57 #[.val (.long v0), .second, .val (.int (3 : Int32)), .val (.ref b545), .val (.int (0 : Int32))] [(.int (2 : Int32)), (.int (8 : Int32)), (.long v0), (.int (0 : Int32)), (.ref b545)])
                            refine g_imul X546 hx (hb hby d1_57) 58 rfl ?_
                            show Go p_ e_ below _ T543 (mkF m_ 58 #[.val (.long v0), .second, .val (.int (3 : Int32)), .val (.ref b545), .val (.int (0 : Int32))] [(.int (16 : Int32)), (.long v0), (.int (0 : Int32)), (.ref b545)])
                            refine g_lshr X546 hx (hb hby d1_58) 59 rfl ?_
                            refine g_l2i X546 hx (hb hby d1_59) 60 rfl ?_
                            refine g_i2b X546 hx (hb hby d1_60) 61 rfl ?_
                            refine g_bastore X546 hx hZ e547 A555 (by decide) (Nat.le_of_ble_eq_true rfl) (hb hby d1_61) 62 rfl (fun T557 h558 X559 e560 W561 A562 => ?_)
                            have A563 : AV Z h558 b545 .byte [(.int (v0 >>> ((16 : Int32) &&& 0x3f).toInt64).toInt32.toInt8.toInt32.toInt8.toInt32), (.int (0 : Int32)), (.int (0 : Int32))] := A562
                            have F564 := A563
                            have N565 := Fr.snoc X559 N0 sz551
                            have szh566 : n0 ≤ h558.size := Nat.le_trans szh552 (Nat.le_of_eq W561.size.symm)
                            have K567 := K554.wr W561 (Or.inr szk553)
                            show Go p_ e_ below _ T557 (mkF m_ 62 #[.val (.long v0), .second, .val (.int (3 : Int32)), .val (.ref b545), .val (.int (0 : Int32))] [])
                            refine g_iinc X559 hx (1 : Int32) rfl rfl #[.val (.long v0), .second, .val (.int (3 : Int32)), .val (.ref b545), .val (.int (1 : Int32))] rfl (hb hby d1_62) 65 rfl ?_
                            refine g_goto X559 hx (hb hby d1_65) 39 (by decide) rfl ?_
                            refine g_iload X559 hx rfl (hb hby d1_39) 41 rfl ?_
                            refine g_iloadN X559 hx rfl (hb hby d1_41) 42 rfl ?_
                            refine g_icmp_ge X559 hx (hb hby d1_42) 68 45 (by decide) rfl rfl (fun q568 => ?_) (fun q568 => ?_)
                            · exact absurd q568 (by decide)
                            · refine g_aloadN X559 hx rfl rfl (hb hby d1_45) 46 rfl ?_
                              refine g_iload X559 hx rfl (hb hby d1_46) 48 rfl ?_
                              refine g_lloadN X559 hx rfl (hb hby d1_48) 49 rfl ?_
                              refine g_bipush X559 hx (8 : Int32) rfl (hb hby d1_49) 51 rfl ?_
                              refine g_iloadN X559 hx rfl (hb hby d1_51) 52 rfl ?_
                              refine g_iconst X559 hx (1 : Int32) rfl (hb hby d1_52) 53 rfl ?_
                              refine g_isub X559 hx (hb hby d1_53) 54 rfl ?_
                              show Go p_ e_ below _ T557 (mkF m_ 54 #[.val (.long v0), .second, .val (.int (3 : Int32)), .val (.ref b545), .val (.int (1 : Int32))] [(.int (2 : Int32)), (.int (8 : Int32)), (.long v0), (.int (1 : Int32)), (.ref b545)])
                              refine g_iload X559 hx rfl (hb hby d1_54) 56 rfl ?_
                              refine g_isub X559 hx (hb hby d1_56) 57 rfl ?_
                              show Go p_ e_ below _ T557 (mkF m_ 57 #[.val (.long v0), .second, .val (.int (3 : Int32)), .val (.ref b545), .val (.int (1 : Int32))] [(.int (1 : Int32)), (.int (8 : Int32)), (.long v0), (.int (1 : Int32)), (.ref b545)])
                              refine g_imul X559 hx (hb hby d1_57) 58 rfl ?_
                              show Go p_ e_ below _ T557 (mkF m_ 58 #[.val (.long v0), .second, .val (.int (3 : Int32)), .val (.ref b545), .val (.int (1 : Int32))] [(.int (8 : Int32)), (.long v0), (.int (1 : Int32)), (.ref b545)])
                              refine g_lshr X559 hx (hb hby d1_58) 59 rfl ?_
                              refine g_l2i X559 hx (hb hby d1_59) 60 rfl ?_
                              refine g_i2b X559 hx (hb hby d1_60) 61 rfl ?_
                              refine g_bastore X559 hx hZ e560 A563 (by decide) (Nat.le_of_ble_eq_true rfl) (hb hby d1_61) 62 rfl (fun T569 h570 X571 e572 W573 A574 => ?_)
                              have A575 : AV Z h570 b545 .byte [(.int (v0 >>> ((16 : Int32) &&& 0x3f).toInt64).toInt32.toInt8.toInt32.toInt8.toInt32), (.int (v0 >>> ((8 : Int32) &&& 0x3f).toInt64).toInt32.toInt8.toInt32.toInt8.toInt32), (.int (0 : Int32))] := A574
                              have F576 := A575
                              have N577 := Fr.snoc X571 N565 sz551
                              have szh578 : n0 ≤ h570.size := Nat.le_trans szh566 (Nat.le_of_eq W573.size.symm)
                              have K579 := K567.wr W573 (Or.inr szk553)
                              show Go p_ e_ below _ T569 (mkF m_ 62 #[.val (.long v0), .second, .val (.int (3 : Int32)), .val (.ref b545), .val (.int (1 : Int32))] [])
                              refine g_iinc X571 hx (1 : Int32) rfl rfl #[.val (.long v0), .second, .val (.int (3 : Int32)), .val (.ref b545), .val (.int (2 : Int32))] rfl (hb hby d1_62) 65 rfl ?_
                              refine g_goto X571 hx (hb hby d1_65) 39 (by decide) rfl ?_
                              refine g_iload X571 hx rfl (hb hby d1_39) 41 rfl ?_
                              refine g_iloadN X571 hx rfl (hb hby d1_41) 42 rfl ?_
                              refine g_icmp_ge X571 hx (hb hby d1_42) 68 45 (by decide) rfl rfl (fun q580 => ?_) (fun q580 => ?_)
                              · exact absurd q580 (by decide)
                              · refine g_aloadN X571 hx rfl rfl (hb hby d1_45) 46 rfl ?_
                                refine g_iload X571 hx rfl (hb hby d1_46) 48 rfl ?_
                                refine g_lloadN X571 hx rfl (hb hby d1_48) 49 rfl ?_
                                refine g_bipush X571 hx (8 : Int32) rfl (hb hby d1_49) 51 rfl ?_
                                refine g_iloadN X571 hx rfl (hb hby d1_51) 52 rfl ?_
                                refine g_iconst X571 hx (1 : Int32) rfl (hb hby d1_52) 53 rfl ?_
                                refine g_isub X571 hx (hb hby d1_53) 54 rfl ?_
                                show Go p_ e_ below _ T569 (mkF m_ 54 #[.val (.long v0), .second, .val (.int (3 : Int32)), .val (.ref b545), .val (.int (2 : Int32))] [(.int (2 : Int32)), (.int (8 : Int32)), (.long v0), (.int (2 : Int32)), (.ref b545)])
                                refine g_iload X571 hx rfl (hb hby d1_54) 56 rfl ?_
                                refine g_isub X571 hx (hb hby d1_56) 57 rfl ?_
                                show Go p_ e_ below _ T569 (mkF m_ 57 #[.val (.long v0), .second, .val (.int (3 : Int32)), .val (.ref b545), .val (.int (2 : Int32))] [(.int (0 : Int32)), (.int (8 : Int32)), (.long v0), (.int (2 : Int32)), (.ref b545)])
                                refine g_imul X571 hx (hb hby d1_57) 58 rfl ?_
                                show Go p_ e_ below _ T569 (mkF m_ 58 #[.val (.long v0), .second, .val (.int (3 : Int32)), .val (.ref b545), .val (.int (2 : Int32))] [(.int (0 : Int32)), (.long v0), (.int (2 : Int32)), (.ref b545)])
                                refine g_lshr X571 hx (hb hby d1_58) 59 rfl ?_
                                refine g_l2i X571 hx (hb hby d1_59) 60 rfl ?_
                                refine g_i2b X571 hx (hb hby d1_60) 61 rfl ?_
                                refine g_bastore X571 hx hZ e572 A575 (by decide) (Nat.le_of_ble_eq_true rfl) (hb hby d1_61) 62 rfl (fun T581 h582 X583 e584 W585 A586 => ?_)
                                have A587 : AV Z h582 b545 .byte [(.int (v0 >>> ((16 : Int32) &&& 0x3f).toInt64).toInt32.toInt8.toInt32.toInt8.toInt32), (.int (v0 >>> ((8 : Int32) &&& 0x3f).toInt64).toInt32.toInt8.toInt32.toInt8.toInt32), (.int (v0 >>> ((0 : Int32) &&& 0x3f).toInt64).toInt32.toInt8.toInt32.toInt8.toInt32)] := A586
                                have F588 := A587
                                have N589 := Fr.snoc X583 N577 sz551
                                have szh590 : n0 ≤ h582.size := Nat.le_trans szh578 (Nat.le_of_eq W585.size.symm)
                                have K591 := K579.wr W585 (Or.inr szk553)
                                show Go p_ e_ below _ T581 (mkF m_ 62 #[.val (.long v0), .second, .val (.int (3 : Int32)), .val (.ref b545), .val (.int (2 : Int32))] [])
                                refine g_iinc X583 hx (1 : Int32) rfl rfl #[.val (.long v0), .second, .val (.int (3 : Int32)), .val (.ref b545), .val (.int (3 : Int32))] rfl (hb hby d1_62) 65 rfl ?_
                                refine g_goto X583 hx (hb hby d1_65) 39 (by decide) rfl ?_
                                refine g_iload X583 hx rfl (hb hby d1_39) 41 rfl ?_
                                refine g_iloadN X583 hx rfl (hb hby d1_41) 42 rfl ?_
                                refine g_icmp_ge X583 hx (hb hby d1_42) 68 45 (by decide) rfl rfl (fun q592 => ?_) (fun q592 => ?_)
                                · refine g_aloadN X583 hx rfl rfl (hb hby d1_68) 69 rfl ?_
                                  exact g_reta X583 hx rfl rfl hret hlk (by decide) (by decide) (hb hby d1_69) (by rw [e584]; exact ⟨b545, rfl, N589, K591, szk553, (by rw [show ln v0 = 3 from ((if_pos q102).trans ((if_pos q214).trans ((if_pos q314).trans ((if_pos q402).trans ((if_pos q478).trans ((if_neg q542).trans rfl))))))]; exact A587)⟩)
                                · exact absurd q592 (by decide)
                        · refine g_iinc X0 hx (-1 : Int32) rfl rfl #[.val (.long v0), .second, .val (.int (2 : Int32)), .unset, .unset] rfl (hb hby d1_26) 29 rfl ?_
                          refine g_goto X0 hx (hb hby d1_29) 3 (by decide) rfl ?_
                          refine g_iloadN X0 hx rfl (hb hby d1_3) 4 rfl ?_
                          refine g_iconst X0 hx (1 : Int32) rfl (hb hby d1_4) 5 rfl ?_
                          refine g_icmp_le X0 hx (hb hby d1_5) 32 8 (by decide) rfl rfl (fun q593 => ?_) (fun q593 => ?_)
                          · exact absurd q593 (by decide)
                          · refine g_lloadN X0 hx rfl (hb hby d1_8) 9 rfl ?_
                            refine g_bipush X0 hx (8 : Int32) rfl (hb hby d1_9) 11 rfl ?_
                            refine g_iloadN X0 hx rfl (hb hby d1_11) 12 rfl ?_
                            refine g_iconst X0 hx (1 : Int32) rfl (hb hby d1_12) 13 rfl ?_
                            refine g_isub X0 hx (hb hby d1_13) 14 rfl ?_
                            show Go p_ e_ below _ T0 (mkF m_ 14 #[.val (.long v0), .second, .val (.int (2 : Int32)), .unset, .unset] [(.int (1 : Int32)), (.int (8 : Int32)), (.long v0)])
                            refine g_imul X0 hx (hb hby d1_14) 15 rfl ?_
                            show Go p_ e_ below _ T0 (mkF m_ 15 #[.val (.long v0), .second, .val (.int (2 : Int32)), .unset, .unset] [(.int (8 : Int32)), (.long v0)])
                            refine g_iconst X0 hx (1 : Int32) rfl (hb hby d1_15) 16 rfl ?_
                            refine g_isub X0 hx (hb hby d1_16) 17 rfl ?_
                            show Go p_ e_ below _ T0 (mkF m_ 17 #[.val (.long v0), .second, .val (.int (2 : Int32)), .unset, .unset] [(.int (7 : Int32)), (.long v0)])
                            refine g_lshr X0 hx (hb hby d1_17) 18 rfl ?_
                            refine g_lloadN X0 hx rfl (hb hby d1_18) 19 rfl ?_
                            refine g_bipush X0 hx (63 : Int32) rfl (hb hby d1_19) 21 rfl ?_
                            refine g_lshr X0 hx (hb hby d1_21) 22 rfl ?_
                            refine g_lif_ne X0 hx (hb hby d1_22) 23 rfl (hb hby d1_23) 32 26 (by decide) rfl rfl (fun q594 => ?_) (fun q594 => ?_)
                            · refine g_iloadN X0 hx rfl (hb hby d1_32) 33 rfl ?_
                              refine g_newarray X0 hx hZ (aty := .byte) (wd hw 4 rfl) eq0 (by decide) 2 (by decide) (by decide) (by decide) (by decide) [(.int (0 : Int32)), (.int (0 : Int32))] rfl (hb hby d1_33) 35 rfl (fun T595 h596 b597 X598 e599 g600 E601 A602 => ?_)
                              have sz603 : n0 ≤ b597 := Nat.le_trans Z0 (Nat.le_of_eq g600.symm)
                              have szh604 : n0 ≤ h596.size := Nat.le_trans Z0 E601.1
                              have szk605 : h0.size ≤ b597 := Nat.le_trans (Keep.refl h0 []).1 (Nat.le_of_eq g600.symm)
                              have K606 := (Keep.refl h0 []).ext E601
                              have A607 : AV Z h596 b597 .byte [(.int (0 : Int32)), (.int (0 : Int32))] := A602
                              show Go p_ e_ below _ T595 (mkF m_ 35 #[.val (.long v0), .second, .val (.int (2 : Int32)), .unset, .unset] [(.ref b597)])
                              refine g_astoreN X598 hx #[.val (.long v0), .second, .val (.int (2 : Int32)), .val (.ref b597), .unset] rfl rfl (hb hby d1_35) 36 rfl ?_
                              refine g_iconst X598 hx (0 : Int32) rfl (hb hby d1_36) 37 rfl ?_
                              refine g_istore X598 hx #[.val (.long v0), .second, .val (.int (2 : Int32)), .val (.ref b597), .val (.int (0 : Int32))] rfl (hb hby d1_37) 39 rfl ?_
                              refine g_iload X598 hx rfl (hb hby d1_39) 41 rfl ?_
                              refine g_iloadN X598 hx rfl (hb hby d1_41) 42 rfl ?_
                              refine g_icmp_ge X598 hx (hb hby d1_42) 68 45 (by decide) rfl rfl (fun q608 => ?_) (fun q608 => ?_)
                              · exact absurd q608 (by decide)
                              · refine g_aloadN X598 hx rfl rfl (hb hby d1_45) 46 rfl ?_
                                refine g_iload X598 hx rfl (hb hby d1_46) 48 rfl ?_
                                refine g_lloadN X598 hx rfl (hb hby d1_48) 49 rfl ?_
                                refine g_bipush X598 hx (8 : Int32) rfl (hb hby d1_49) 51 rfl ?_
                                refine g_iloadN X598 hx rfl (hb hby d1_51) 52 rfl ?_
                                refine g_iconst X598 hx (1 : Int32) rfl (hb hby d1_52) 53 rfl ?_
                                refine g_isub X598 hx (hb hby d1_53) 54 rfl ?_
                                show Go p_ e_ below _ T595 (mkF m_ 54 #[.val (.long v0), .second, .val (.int (2 : Int32)), .val (.ref b597), .val (.int (0 : Int32))] [(.int (1 : Int32)), (.int (8 : Int32)), (.long v0), (.int (0 : Int32)), (.ref b597)])
                                refine g_iload X598 hx rfl (hb hby d1_54) 56 rfl ?_
                                refine g_isub X598 hx (hb hby d1_56) 57 rfl ?_
                                show Go p_ e_ below _ T595 (mkF m_ 57 #[.val (.long v0), .second, .val (.int (2 : Int32)), .val (.ref b597), .val (.int (0 : Int32))] [(.int (1 : Int32)), (.int (8 : Int32)), (.long v0), (.int (0 : Int32)), (.ref b597)])
                                refine g_imul X598 hx (hb hby d1_57) 58 rfl ?_
                                show Go p_ e_ below _ T595 (mkF m_ 58 #[.val (.long v0), .second, .val (.int (2 : Int32)), .val (.ref b597), .val (.int (0 : Int32))] [(.int (8 : Int32)), (.long v0), (.int (0 : Int32)), (.ref b597)])
                                refine g_lshr X598 hx (hb hby d1_58) 59 rfl ?_
                                refine g_l2i X598 hx (hb hby d1_59) 60 rfl ?_
                                refine g_i2b X598 hx (hb hby d1_60) 61 rfl ?_
                                refine g_bastore X598 hx hZ e599 A607 (by decide) (Nat.le_of_ble_eq_true rfl) (hb hby d1_61) 62 rfl (fun T609 h610 X611 e612 W613 A614 => ?_)
                                have A615 : AV Z h610 b597 .byte [(.int (v0 >>> ((8 : Int32) &&& 0x3f).toInt64).toInt32.toInt8.toInt32.toInt8.toInt32), (.int (0 : Int32))] := A614
                                have F616 := A615
                                have N617 := Fr.snoc X611 N0 sz603
                                have szh618 : n0 ≤ h610.size := Nat.le_trans szh604 (Nat.le_of_eq W613.size.symm)
                                have K619 := K606.wr W613 (Or.inr szk605)
                                show Go p_ e_ below _ T609 (mkF m_ 62 #[.val (.long v0), .second, .val (.int (2 : Int32)), .val (.ref b597), .val (.int (0 : Int32))] [])
                                refine g_iinc X611 hx (1 : Int32) rfl rfl #[.val (.long v0), .second, .val (.int (2 : Int32)), .val (.ref b597), .val (.int (1 : Int32))] rfl (hb hby d1_62) 65 rfl ?_
                                refine g_goto X611 hx (hb hby d1_65) 39 (by decide) rfl ?_
                                refine g_iload X611 hx rfl (hb hby d1_39) 41 rfl ?_
                                refine g_iloadN X611 hx rfl (hb hby d1_41) 42 rfl ?_
                                refine g_icmp_ge X611 hx (hb hby d1_42) 68 45 (by decide) rfl rfl (fun q620 => ?_) (fun q620 => ?_)
                                · exact absurd q620 (by decide)
                                · refine g_aloadN X611 hx rfl rfl (hb hby d1_45) 46 rfl ?_
                                  refine g_iload X611 hx rfl (hb hby d1_46) 48 rfl ?_
                                  refine g_lloadN X611 hx rfl (hb hby d1_48) 49 rfl ?_
                                  refine g_bipush X611 hx (8 : Int32) rfl (hb hby d1_49) 51 rfl ?_
                                  refine g_iloadN X611 hx rfl (hb hby d1_51) 52 rfl ?_
                                  refine g_iconst X611 hx (1 : Int32) rfl (hb hby d1_52) 53 rfl ?_
                                  refine g_isub X611 hx (hb hby d1_53) 54 rfl ?_
                                  show Go p_ e_ below _ T609 (mkF m_ 54 #[.val (.long v0), .second, .val (.int (2 : Int32)), .val (.ref b597), .val (.int (1 : Int32))] [(.int (1 : Int32)), (.int (8 : Int32)), (.long v0), (.int (1 : Int32)), (.ref b597)])
                                  refine g_iload X611 hx rfl (hb hby d1_54) 56 rfl ?_
                                  refine g_isub X611 hx (hb hby d1_56) 57 rfl ?_
                                  show Go p_ e_ below _ T609 (mkF m_ 57 #[.val (.long v0), .second, .val (.int (2 : Int32)), .val (.ref b597), .val (.int (1 : Int32))] [(.int (0 : Int32)), (.int (8 : Int32)), (.long v0), (.int (1 : Int32)), (.ref b597)])
                                  refine g_imul X611 hx (hb hby d1_57) 58 rfl ?_
                                  show Go p_ e_ below _ T609 (mkF m_ 58 #[.val (.long v0), .second, .val (.int (2 : Int32)), .val (.ref b597), .val (.int (1 : Int32))] [(.int (0 : Int32)), (.long v0), (.int (1 : Int32)), (.ref b597)])
                                  refine g_lshr X611 hx (hb hby d1_58) 59 rfl ?_
                                  refine g_l2i X611 hx (hb hby d1_59) 60 rfl ?_
                                  refine g_i2b X611 hx (hb hby d1_60) 61 rfl ?_
                                  refine g_bastore X611 hx hZ e612 A615 (by decide) (Nat.le_of_ble_eq_true rfl) (hb hby d1_61) 62 rfl (fun T621 h622 X623 e624 W625 A626 => ?_)
                                  have A627 : AV Z h622 b597 .byte [(.int (v0 >>> ((8 : Int32) &&& 0x3f).toInt64).toInt32.toInt8.toInt32.toInt8.toInt32), (.int (v0 >>> ((0 : Int32) &&& 0x3f).toInt64).toInt32.toInt8.toInt32.toInt8.toInt32)] := A626
                                  have F628 := A627
                                  have N629 := Fr.snoc X623 N617 sz603
                                  have szh630 : n0 ≤ h622.size := Nat.le_trans szh618 (Nat.le_of_eq W625.size.symm)
                                  have K631 := K619.wr W625 (Or.inr szk605)
                                  show Go p_ e_ below _ T621 (mkF m_ 62 #[.val (.long v0), .second, .val (.int (2 : Int32)), .val (.ref b597), .val (.int (1 : Int32))] [])
                                  refine g_iinc X623 hx (1 : Int32) rfl rfl #[.val (.long v0), .second, .val (.int (2 : Int32)), .val (.ref b597), .val (.int (2 : Int32))] rfl (hb hby d1_62) 65 rfl ?_
                                  refine g_goto X623 hx (hb hby d1_65) 39 (by decide) rfl ?_
                                  refine g_iload X623 hx rfl (hb hby d1_39) 41 rfl ?_
                                  refine g_iloadN X623 hx rfl (hb hby d1_41) 42 rfl ?_
                                  refine g_icmp_ge X623 hx (hb hby d1_42) 68 45 (by decide) rfl rfl (fun q632 => ?_) (fun q632 => ?_)
                                  · refine g_aloadN X623 hx rfl rfl (hb hby d1_68) 69 rfl ?_
                                    exact g_reta X623 hx rfl rfl hret hlk (by decide) (by decide) (hb hby d1_69) (by rw [e624]; exact ⟨b597, rfl, N629, K631, szk605, (by rw [show ln v0 = 2 from ((if_pos q102).trans ((if_pos q214).trans ((if_pos q314).trans ((if_pos q402).trans ((if_pos q478).trans ((if_pos q542).trans ((if_neg q594).trans rfl)))))))]; exact A627)⟩)
                                  · exact absurd q632 (by decide)
                            · refine g_iinc X0 hx (-1 : Int32) rfl rfl #[.val (.long v0), .second, .val (.int (1 : Int32)), .unset, .unset] rfl (hb hby d1_26) 29 rfl ?_
                              refine g_goto X0 hx (hb hby d1_29) 3 (by decide) rfl ?_
                              refine g_iloadN X0 hx rfl (hb hby d1_3) 4 rfl ?_
                              refine g_iconst X0 hx (1 : Int32) rfl (hb hby d1_4) 5 rfl ?_
                              refine g_icmp_le X0 hx (hb hby d1_5) 32 8 (by decide) rfl rfl (fun q633 => ?_) (fun q633 => ?_)
                              · refine g_iloadN X0 hx rfl (hb hby d1_32) 33 rfl ?_
                                refine g_newarray X0 hx hZ (aty := .byte) (wd hw 4 rfl) eq0 (by decide) 1 (by decide) (by decide) (by decide) (by decide) [(.int (0 : Int32))] rfl (hb hby d1_33) 35 rfl (fun T634 h635 b636 X637 e638 g639 E640 A641 => ?_)
                                have sz642 : n0 ≤ b636 := Nat.le_trans Z0 (Nat.le_of_eq g639.symm)
                                have szh643 : n0 ≤ h635.size := Nat.le_trans Z0 E640.1
                                have szk644 : h0.size ≤ b636 := Nat.le_trans (Keep.refl h0 []).1 (Nat.le_of_eq g639.symm)
                                have K645 := (Keep.refl h0 []).ext E640
                                have A646 : AV Z h635 b636 .byte [(.int (0 : Int32))] := A641
                                show Go p_ e_ below _ T634 (mkF m_ 35 #[.val (.long v0), .second, .val (.int (1 : Int32)), .unset, .unset] [(.ref b636)])
                                refine g_astoreN X637 hx #[.val (.long v0), .second, .val (.int (1 : Int32)), .val (.ref b636), .unset] rfl rfl (hb hby d1_35) 36 rfl ?_
                                refine g_iconst X637 hx (0 : Int32) rfl (hb hby d1_36) 37 rfl ?_
                                refine g_istore X637 hx #[.val (.long v0), .second, .val (.int (1 : Int32)), .val (.ref b636), .val (.int (0 : Int32))] rfl (hb hby d1_37) 39 rfl ?_
                                refine g_iload X637 hx rfl (hb hby d1_39) 41 rfl ?_
                                refine g_iloadN X637 hx rfl (hb hby d1_41) 42 rfl ?_
                                refine g_icmp_ge X637 hx (hb hby d1_42) 68 45 (by decide) rfl rfl (fun q647 => ?_) (fun q647 => ?_)
                                · exact absurd q647 (by decide)
                                · refine g_aloadN X637 hx rfl rfl (hb hby d1_45) 46 rfl ?_
                                  refine g_iload X637 hx rfl (hb hby d1_46) 48 rfl ?_
                                  refine g_lloadN X637 hx rfl (hb hby d1_48) 49 rfl ?_
                                  refine g_bipush X637 hx (8 : Int32) rfl (hb hby d1_49) 51 rfl ?_
                                  refine g_iloadN X637 hx rfl (hb hby d1_51) 52 rfl ?_
                                  refine g_iconst X637 hx (1 : Int32) rfl (hb hby d1_52) 53 rfl ?_
                                  refine g_isub X637 hx (hb hby d1_53) 54 rfl ?_
                                  show Go p_ e_ below _ T634 (mkF m_ 54 #[.val (.long v0), .second, .val (.int (1 : Int32)), .val (.ref b636), .val (.int (0 : Int32))] [(.int (0 : Int32)), (.int (8 : Int32)), (.long v0), (.int (0 : Int32)), (.ref b636)])
                                  refine g_iload X637 hx rfl (hb hby d1_54) 56 rfl ?_
                                  refine g_isub X637 hx (hb hby d1_56) 57 rfl ?_
                                  show Go p_ e_ below _ T634 (mkF m_ 57 #[.val (.long v0), .second, .val (.int (1 : Int32)), .val (.ref b636), .val (.int (0 : Int32))] [(.int (0 : Int32)), (.int (8 : Int32)), (.long v0), (.int (0 : Int32)), (.ref b636)])
                                  refine g_imul X637 hx (hb hby d1_57) 58 rfl ?_
                                  show Go p_ e_ below _ T634 (mkF m_ 58 #[.val (.long v0), .second, .val (.int (1 : Int32)), .val (.ref b636), .val (.int (0 : Int32))] [(.int (0 : Int32)), (.long v0), (.int (0 : Int32)), (.ref b636)])
                                  refine g_lshr X637 hx (hb hby d1_58) 59 rfl ?_
                                  refine g_l2i X637 hx (hb hby d1_59) 60 rfl ?_
                                  refine g_i2b X637 hx (hb hby d1_60) 61 rfl ?_
                                  refine g_bastore X637 hx hZ e638 A646 (by decide) (Nat.le_of_ble_eq_true rfl) (hb hby d1_61) 62 rfl (fun T648 h649 X650 e651 W652 A653 => ?_)
                                  have A654 : AV Z h649 b636 .byte [(.int (v0 >>> ((0 : Int32) &&& 0x3f).toInt64).toInt32.toInt8.toInt32.toInt8.toInt32)] := A653
                                  have F655 := A654
                                  have N656 := Fr.snoc X650 N0 sz642
                                  have szh657 : n0 ≤ h649.size := Nat.le_trans szh643 (Nat.le_of_eq W652.size.symm)
                                  have K658 := K645.wr W652 (Or.inr szk644)
                                  show Go p_ e_ below _ T648 (mkF m_ 62 #[.val (.long v0), .second, .val (.int (1 : Int32)), .val (.ref b636), .val (.int (0 : Int32))] [])
                                  refine g_iinc X650 hx (1 : Int32) rfl rfl #[.val (.long v0), .second, .val (.int (1 : Int32)), .val (.ref b636), .val (.int (1 : Int32))] rfl (hb hby d1_62) 65 rfl ?_
                                  refine g_goto X650 hx (hb hby d1_65) 39 (by decide) rfl ?_
                                  refine g_iload X650 hx rfl (hb hby d1_39) 41 rfl ?_
                                  refine g_iloadN X650 hx rfl (hb hby d1_41) 42 rfl ?_
                                  refine g_icmp_ge X650 hx (hb hby d1_42) 68 45 (by decide) rfl rfl (fun q659 => ?_) (fun q659 => ?_)
                                  · refine g_aloadN X650 hx rfl rfl (hb hby d1_68) 69 rfl ?_
                                    exact g_reta X650 hx rfl rfl hret hlk (by decide) (by decide) (hb hby d1_69) (by rw [e651]; exact ⟨b636, rfl, N656, K658, szk644, (by rw [show ln v0 = 1 from ((if_pos q102).trans ((if_pos q214).trans ((if_pos q314).trans ((if_pos q402).trans ((if_pos q478).trans ((if_pos q542).trans ((if_pos q594).trans rfl)))))))]; exact A654)⟩)
                                  · exact absurd q659 (by decide)
                              · exact absurd q633 (by decide)
theorem d2_0 : decode method_4_code 0 = .ok (.lload_n 0, 1) := by decide +kernel
theorem d2_1 : decode method_4_code 1 = .ok (.ldc2_w 25, 3) := by decide +kernel
theorem d2_4 : decode method_4_code 4 = .ok (.lcmp, 1) := by decide +kernel
theorem d2_5 : decode method_4_code 5 = .ok (.ifCond .lt 13, 3) := by decide +kernel
theorem d2_18 : decode method_4_code 18 = .ok (.lload_n 0, 1) := by decide +kernel
theorem d2_19 : decode method_4_code 19 = .ok (.ldc2_w 29, 3) := by decide +kernel
theorem d2_22 : decode method_4_code 22 = .ok (.lcmp, 1) := by decide +kernel
theorem d2_23 : decode method_4_code 23 = .ok (.ifCond .lt 13, 3) := by decide +kernel
theorem d2_36 : decode method_4_code 36 = .ok (.lload_n 0, 1) := by decide +kernel
theorem d2_37 : decode method_4_code 37 = .ok (.ldc2_w 33, 3) := by decide +kernel
theorem d2_40 : decode method_4_code 40 = .ok (.lcmp, 1) := by decide +kernel
theorem d2_41 : decode method_4_code 41 = .ok (.ifCond .lt 13, 3) := by decide +kernel
theorem d2_54 : decode method_4_code 54 = .ok (.lload_n 0, 1) := by decide +kernel
theorem d2_55 : decode method_4_code 55 = .ok (.ldc2_w 37, 3) := by decide +kernel
theorem d2_58 : decode method_4_code 58 = .ok (.lcmp, 1) := by decide +kernel
theorem d2_59 : decode method_4_code 59 = .ok (.ifCond .lt 13, 3) := by decide +kernel
theorem d2_72 : decode method_4_code 72 = .ok (.lload_n 0, 1) := by decide +kernel
theorem d2_73 : decode method_4_code 73 = .ok (.ldc2_w 41, 3) := by decide +kernel
theorem d2_76 : decode method_4_code 76 = .ok (.lcmp, 1) := by decide +kernel
theorem d2_77 : decode method_4_code 77 = .ok (.ifCond .lt 13, 3) := by decide +kernel
theorem d2_90 : decode method_4_code 90 = .ok (.lload_n 0, 1) := by decide +kernel
theorem d2_91 : decode method_4_code 91 = .ok (.ldc2_w 45, 3) := by decide +kernel
theorem d2_94 : decode method_4_code 94 = .ok (.lcmp, 1) := by decide +kernel
theorem d2_95 : decode method_4_code 95 = .ok (.ifCond .lt 14, 3) := by decide +kernel
theorem d2_109 : decode method_4_code 109 = .ok (.lload_n 0, 1) := by decide +kernel
theorem d2_110 : decode method_4_code 110 = .ok (.ldc2_w 49, 3) := by decide +kernel
theorem d2_113 : decode method_4_code 113 = .ok (.lcmp, 1) := by decide +kernel
theorem d2_114 : decode method_4_code 114 = .ok (.ifCond .lt 14, 3) := by decide +kernel
theorem d2_128 : decode method_4_code 128 = .ok (.bipush 8, 2) := by decide +kernel
theorem d2_117 : decode method_4_code 117 = .ok (.lload_n 0, 1) := by decide +kernel
theorem d2_118 : decode method_4_code 118 = .ok (.ldc2_w 51, 3) := by decide +kernel
theorem d2_121 : decode method_4_code 121 = .ok (.lcmp, 1) := by decide +kernel
theorem d2_122 : decode method_4_code 122 = .ok (.ifCond .ge 6, 3) := by decide +kernel
theorem d2_125 : decode method_4_code 125 = .ok (.bipush 7, 2) := by decide +kernel
theorem d2_98 : decode method_4_code 98 = .ok (.lload_n 0, 1) := by decide +kernel
theorem d2_99 : decode method_4_code 99 = .ok (.ldc2_w 47, 3) := by decide +kernel
theorem d2_102 : decode method_4_code 102 = .ok (.lcmp, 1) := by decide +kernel
theorem d2_103 : decode method_4_code 103 = .ok (.ifCond .ge 6, 3) := by decide +kernel
theorem d2_106 : decode method_4_code 106 = .ok (.bipush 6, 2) := by decide +kernel
theorem d2_80 : decode method_4_code 80 = .ok (.lload_n 0, 1) := by decide +kernel
theorem d2_81 : decode method_4_code 81 = .ok (.ldc2_w 43, 3) := by decide +kernel
theorem d2_84 : decode method_4_code 84 = .ok (.lcmp, 1) := by decide +kernel
theorem d2_85 : decode method_4_code 85 = .ok (.ifCond .ge 5, 3) := by decide +kernel
theorem d2_88 : decode method_4_code 88 = .ok (.iconst 5, 1) := by decide +kernel
theorem d2_62 : decode method_4_code 62 = .ok (.lload_n 0, 1) := by decide +kernel
theorem d2_63 : decode method_4_code 63 = .ok (.ldc2_w 39, 3) := by decide +kernel
theorem d2_66 : decode method_4_code 66 = .ok (.lcmp, 1) := by decide +kernel
theorem d2_67 : decode method_4_code 67 = .ok (.ifCond .ge 5, 3) := by decide +kernel
theorem d2_70 : decode method_4_code 70 = .ok (.iconst 4, 1) := by decide +kernel
theorem d2_44 : decode method_4_code 44 = .ok (.lload_n 0, 1) := by decide +kernel
theorem d2_45 : decode method_4_code 45 = .ok (.ldc2_w 35, 3) := by decide +kernel
theorem d2_48 : decode method_4_code 48 = .ok (.lcmp, 1) := by decide +kernel
theorem d2_49 : decode method_4_code 49 = .ok (.ifCond .ge 5, 3) := by decide +kernel
theorem d2_52 : decode method_4_code 52 = .ok (.iconst 3, 1) := by decide +kernel
theorem d2_26 : decode method_4_code 26 = .ok (.lload_n 0, 1) := by decide +kernel
theorem d2_27 : decode method_4_code 27 = .ok (.ldc2_w 31, 3) := by decide +kernel
theorem d2_30 : decode method_4_code 30 = .ok (.lcmp, 1) := by decide +kernel
theorem d2_31 : decode method_4_code 31 = .ok (.ifCond .ge 5, 3) := by decide +kernel
theorem d2_34 : decode method_4_code 34 = .ok (.iconst 2, 1) := by decide +kernel
theorem d2_8 : decode method_4_code 8 = .ok (.lload_n 0, 1) := by decide +kernel
theorem d2_9 : decode method_4_code 9 = .ok (.ldc2_w 27, 3) := by decide +kernel
theorem d2_12 : decode method_4_code 12 = .ok (.lcmp, 1) := by decide +kernel
theorem d2_13 : decode method_4_code 13 = .ok (.ifCond .ge 5, 3) := by decide +kernel
theorem d2_16 : decode method_4_code 16 = .ok (.iconst 1, 1) := by decide +kernel
def fx (v0 : Int64) : Int32 := if v0 < (-128 : Int64) then (if v0 < (-32768 : Int64) then (if v0 < (-8388608 : Int64) then (if v0 < (-2147483648 : Int64) then (if v0 < (-549755813888 : Int64) then (if v0 < (-140737488355328 : Int64) then (if v0 < (-36028797018963968 : Int64) then (8 : Int32) else (if v0 < (36028797018963968 : Int64) then (7 : Int32) else (8 : Int32))) else (if v0 < (140737488355328 : Int64) then (6 : Int32) else (if v0 < (-36028797018963968 : Int64) then (8 : Int32) else (if v0 < (36028797018963968 : Int64) then (7 : Int32) else (8 : Int32))))) else (if v0 < (549755813888 : Int64) then (5 : Int32) else (if v0 < (-140737488355328 : Int64) then (if v0 < (-36028797018963968 : Int64) then (8 : Int32) else (if v0 < (36028797018963968 : Int64) then (7 : Int32) else (8 : Int32))) else (if v0 < (140737488355328 : Int64) then (6 : Int32) else (if v0 < (-36028797018963968 : Int64) then (8 : Int32) else (if v0 < (36028797018963968 : Int64) then (7 : Int32) else (8 : Int32))))))) else (if v0 < (2147483648 : Int64) then (4 : Int32) else (if v0 < (-549755813888 : Int64) then (if v0 < (-140737488355328 : Int64) then (if v0 < (-36028797018963968 : Int64) then (8 : Int32) else (if v0 < (36028797018963968 : Int64) then (7 : Int32) else (8 : Int32))) else (if v0 < (140737488355328 : Int64) then (6 : Int32) else (if v0 < (-36028797018963968 : Int64) then (8 : Int32) else (if v0 < (36028797018963968 : Int64) then (7 : Int32) else (8 : Int32))))) else (if v0 < (549755813888 : Int64) then (5 : Int32) else (if v0 < (-140737488355328 : Int64) then (if v0 < (-36028797018963968 : Int64) then (8 : Int32) else (if v0 < (36028797018963968 : Int64) then (7 : Int32) else (8 : Int32))) else (if v0 < (140737488355328 : Int64) then (6 : Int32) else (if v0 < (-36028797018963968 : Int64) then (8 : Int32) else (if v0 < (36028797018963968 : Int64) then (7 : Int32) else (8 : Int32))))))))) else (if v0 < (8388608 : Int64) then (3 : Int32) else (if v0 < (-2147483648 : Int64) then (if v0 < (-549755813888 : Int64) then (if v0 < (-140737488355328 : Int64) then (if v0 < (-36028797018963968 : Int64) then (8 : Int32) else (if v0 < (36028797018963968 : Int64) then (7 : Int32) else (8 : Int32))) else (if v0 < (140737488355328 : Int64) then (6 : Int32) else (if v0 < (-36028797018963968 : Int64) then (8 : Int32) else (if v0 < (36028797018963968 : Int64) then (7 : Int32) else (8 : Int32))))) else (if v0 < (549755813888 : Int64) then (5 : Int32) else (if v0 < (-140737488355328 : Int64) then (if v0 < (-36028797018963968 : Int64) then (8 : Int32) else (if v0 < (36028797018963968 : Int64) then (7 : Int32) else (8 : Int32))) else (if v0 < (140737488355328 : Int64) then (6 : Int32) else (if v0 < (-36028797018963968 : Int64) then (8 : Int32) else (if v0 < (36028797018963968 : Int64) then (7 : Int32) else (8 : Int32))))))) else (if v0 < (2147483648 : Int64) then (4 : Int32) else (if v0 < (-549755813888 : Int64) then (if v0 < (-140737488355328 : Int64) then (if v0 < (-36028797018963968 : Int64) then (8 : Int32) else (if v0 < (36028797018963968 : Int64) then (7 : Int32) else (8 : Int32))) else (if v0 < (140737488355328 : Int64) then (6 : Int32) else (if v0 < (-36028797018963968 : Int64) then (8 : Int32) else (if v0 < (36028797018963968 : Int64) then (7 : Int32) else (8 : Int32))))) else (if v0 < (549755813888 : Int64) then (5 : Int32) else (if v0 < (-140737488355328 : Int64) then (if v0 < (-36028797018963968 : Int64) then (8 : Int32) else (if v0 < (36028797018963968 : Int64) then (7 : Int32) else (8 : Int32))) else (if v0 < (140737488355328 : Int64) then (6 : Int32) else (if v0 < (-36028797018963968 : Int64) then (8 : Int32) else (if v0 < (36028797018963968 : Int64) then (7 : Int32) else (8 : Int32))))))))))) else (if v0 < (32768 : Int64) then (2 : Int32) else (if v0 < (-8388608 : Int64) then (if v0 < (-2147483648 : Int64) then (if v0 < (-549755813888 : Int64) then (if v0 < (-140737488355328 : Int64) then (if v0 < (-36028797018963968 : Int64) then (8 : Int32) else (if v0 < (36028797018963968 : Int64) then (7 : Int32) else (8 : Int32))) else (if v0 < (140737488355328 : Int64) then (6 : Int32) else (if v0 < (-36028797018963968 : Int64) then (8 : Int32) else (if v0 < (36028797018963968 : Int64) then (7 : Int32) else (8 : Int32))))) else (if v0 < (549755813888 : Int64) then (5 : Int32) else (if v0 < (-140737488355328 : Int64) then (if v0 < (-36028797018963968 : Int64) then (8 : Int32) else (if v0 < (36028797018963968 : Int64) then (7 : Int32) else (8 : Int32))) else (if v0 < (140737488355328 : Int64) then (6 : Int32) else (if v0 < (-36028797018963968 : Int64) then (8 : Int32) else (if v0 < (36028797018963968 : Int64) then (7 : Int32) else (8 : Int32))))))) else (if v0 < (2147483648 : Int64) then (4 : Int32) else (if v0 < (-549755813888 : Int64) then (if v0 < (-140737488355328 : Int64) then (if v0 < (-36028797018963968 : Int64) then (8 : Int32) else (if v0 < (36028797018963968 : Int64) then (7 : Int32) else (8 : Int32))) else (if v0 < (140737488355328 : Int64) then (6 : Int32) else (if v0 < (-36028797018963968 : Int64) then (8 : Int32) else (if v0 < (36028797018963968 : Int64) then (7 : Int32) else (8 : Int32))))) else (if v0 < (549755813888 : Int64) then (5 : Int32) else (if v0 < (-140737488355328 : Int64) then (if v0 < (-36028797018963968 : Int64) then (8 : Int32) else (if v0 < (36028797018963968 : Int64) then (7 : Int32) else (8 : Int32))) else (if v0 < (140737488355328 : Int64) then (6 : Int32) else (if v0 < (-36028797018963968 : Int64) then (8 : Int32) else (if v0 < (36028797018963968 : Int64) then (7 : Int32) else (8 : Int32))))))))) else (if v0 < (8388608 : Int64) then (3 : Int32) else (if v0 < (-2147483648 : Int64) then (if v0 < (-549755813888 : Int64) then (if v0 < (-140737488355328 : Int64) then (if v0 < (-36028797018963968 : Int64) then (8 : Int32) else (if v0 < (36028797018963968 : Int64) then (7 : Int32) else (8 : Int32))) else (if v0 < (140737488355328 : Int64) then (6 : Int32) else (if v0 < (-36028797018963968 : Int64) then (8 : Int32) else (if v0 < (36028797018963968 : Int64) then (7 : Int32) else (8 : Int32))))) else (if v0 < (549755813888 : Int64) then (5 : Int32) else (if v0 < (-140737488355328 : Int64) then (if v0 < (-36028797018963968 : Int64) then (8 : Int32) else (if v0 < (36028797018963968 : Int64) then (7 : Int32) else (8 : Int32))) else (if v0 < (140737488355328 : Int64) then (6 : Int32) else (if v0 < (-36028797018963968 : Int64) then (8 : Int32) else (if v0 < (36028797018963968 : Int64) then (7 : Int32) else (8 : Int32))))))) else (if v0 < (2147483648 : Int64) then (4 : Int32) else (if v0 < (-549755813888 : Int64) then (if v0 < (-140737488355328 : Int64) then (if v0 < (-36028797018963968 : Int64) then (8 : Int32) else (if v0 < (36028797018963968 : Int64) then (7 : Int32) else (8 : Int32))) else (if v0 < (140737488355328 : Int64) then (6 : Int32) else (if v0 < (-36028797018963968 : Int64) then (8 : Int32) else (if v0 < (36028797018963968 : Int64) then (7 : Int32) else (8 : Int32))))) else (if v0 < (549755813888 : Int64) then (5 : Int32) else (if v0 < (-140737488355328 : Int64) then (if v0 < (-36028797018963968 : Int64) then (8 : Int32) else (if v0 < (36028797018963968 : Int64) then (7 : Int32) else (8 : Int32))) else (if v0 < (140737488355328 : Int64) then (6 : Int32) else (if v0 < (-36028797018963968 : Int64) then (8 : Int32) else (if v0 < (36028797018963968 : Int64) then (7 : Int32) else (8 : Int32))))))))))))) else (if v0 < (128 : Int64) then (1 : Int32) else (if v0 < (-32768 : Int64) then (if v0 < (-8388608 : Int64) then (if v0 < (-2147483648 : Int64) then (if v0 < (-549755813888 : Int64) then (if v0 < (-140737488355328 : Int64) then (if v0 < (-36028797018963968 : Int64) then (8 : Int32) else (if v0 < (36028797018963968 : Int64) then (7 : Int32) else (8 : Int32))) else (if v0 < (140737488355328 : Int64) then (6 : Int32) else (if v0 < (-36028797018963968 : Int64) then (8 : Int32) else (if v0 < (36028797018963968 : Int64) then (7 : Int32) else (8 : Int32))))) else (if v0 < (549755813888 : Int64) then (5 : Int32) else (if v0 < (-140737488355328 : Int64) then (if v0 < (-36028797018963968 : Int64) then (8 : Int32) else (if v0 < (36028797018963968 : Int64) then (7 : Int32) else (8 : Int32))) else (if v0 < (140737488355328 : Int64) then (6 : Int32) else (if v0 < (-36028797018963968 : Int64) then (8 : Int32) else (if v0 < (36028797018963968 : Int64) then (7 : Int32) else (8 : Int32))))))) else (if v0 < (2147483648 : Int64) then (4 : Int32) else (if v0 < (-549755813888 : Int64) then (if v0 < (-140737488355328 : Int64) then (if v0 < (-36028797018963968 : Int64) then (8 : Int32) else (if v0 < (36028797018963968 : Int64) then (7 : Int32) else (8 : Int32))) else (if v0 < (140737488355328 : Int64) then (6 : Int32) else (if v0 < (-36028797018963968 : Int64) then (8 : Int32) else (if v0 < (36028797018963968 : Int64) then (7 : Int32) else (8 : Int32))))) else (if v0 < (549755813888 : Int64) then (5 : Int32) else (if v0 < (-140737488355328 : Int64) then (if v0 < (-36028797018963968 : Int64) then (8 : Int32) else (if v0 < (36028797018963968 : Int64) then (7 : Int32) else (8 : Int32))) else (if v0 < (140737488355328 : Int64) then (6 : Int32) else (if v0 < (-36028797018963968 : Int64) then (8 : Int32) else (if v0 < (36028797018963968 : Int64) then (7 : Int32) else (8 : Int32))))))))) else (if v0 < (8388608 : Int64) then (3 : Int32) else (if v0 < (-2147483648 : Int64) then (if v0 < (-549755813888 : Int64) then (if v0 < (-140737488355328 : Int64) then (if v0 < (-36028797018963968 : Int64) then (8 : Int32) else (if v0 < (36028797018963968 : Int64) then (7 : Int32) else (8 : Int32))) else (if v0 < (140737488355328 : Int64) then (6 : Int32) else (if v0 < (-36028797018963968 : Int64) then (8 : Int32) else (if v0 < (36028797018963968 : Int64) then (7 : Int32) else (8 : Int32))))) else (if v0 < (549755813888 : Int64) then (5 : Int32) else (if v0 < (-140737488355328 : Int64) then (if v0 < (-36028797018963968 : Int64) then (8 : Int32) else (if v0 < (36028797018963968 : Int64) then (7 : Int32) else (8 : Int32))) else (if v0 < (140737488355328 : Int64) then (6 : Int32) else (if v0 < (-36028797018963968 : Int64) then (8 : Int32) else (if v0 < (36028797018963968 : Int64) then (7 : Int32) else (8 : Int32))))))) else (if v0 < (2147483648 : Int64) then (4 : Int32) else (if v0 < (-549755813888 : Int64) then (if v0 < (-140737488355328 : Int64) then (if v0 < (-36028797018963968 : Int64) then (8 : Int32) else (if v0 < (36028797018963968 : Int64) then (7 : Int32) else (8 : Int32))) else (if v0 < (140737488355328 : Int64) then (6 : Int32) else (if v0 < (-36028797018963968 : Int64) then (8 : Int32) else (if v0 < (36028797018963968 : Int64) then (7 : Int32) else (8 : Int32))))) else (if v0 < (549755813888 : Int64) then (5 : Int32) else (if v0 < (-140737488355328 : Int64) then (if v0 < (-36028797018963968 : Int64) then (8 : Int32) else (if v0 < (36028797018963968 : Int64) then (7 : Int32) else (8 : Int32))) else (if v0 < (140737488355328 : Int64) then (6 : Int32) else (if v0 < (-36028797018963968 : Int64) then (8 : Int32) else (if v0 < (36028797018963968 : Int64) then (7 : Int32) else (8 : Int32))))))))))) else (if v0 < (32768 : Int64) then (2 : Int32) else (if v0 < (-8388608 : Int64) then (if v0 < (-2147483648 : Int64) then (if v0 < (-549755813888 : Int64) then (if v0 < (-140737488355328 : Int64) then (if v0 < (-36028797018963968 : Int64) then (8 : Int32) else (if v0 < (36028797018963968 : Int64) then (7 : Int32) else (8 : Int32))) else (if v0 < (140737488355328 : Int64) then (6 : Int32) else (if v0 < (-36028797018963968 : Int64) then (8 : Int32) else (if v0 < (36028797018963968 : Int64) then (7 : Int32) else (8 : Int32))))) else (if v0 < (549755813888 : Int64) then (5 : Int32) else (if v0 < (-140737488355328 : Int64) then (if v0 < (-36028797018963968 : Int64) then (8 : Int32) else (if v0 < (36028797018963968 : Int64) then (7 : Int32) else (8 : Int32))) else (if v0 < (140737488355328 : Int64) then (6 : Int32) else (if v0 < (-36028797018963968 : Int64) then (8 : Int32) else (if v0 < (36028797018963968 : Int64) then (7 : Int32) else (8 : Int32))))))) else (if v0 < (2147483648 : Int64) then (4 : Int32) else (if v0 < (-549755813888 : Int64) then (if v0 < (-140737488355328 : Int64) then (if v0 < (-36028797018963968 : Int64) then (8 : Int32) else (if v0 < (36028797018963968 : Int64) then (7 : Int32) else (8 : Int32))) else (if v0 < (140737488355328 : Int64) then (6 : Int32) else (if v0 < (-36028797018963968 : Int64) then (8 : Int32) else (if v0 < (36028797018963968 : Int64) then (7 : Int32) else (8 : Int32))))) else (if v0 < (549755813888 : Int64) then (5 : Int32) else (if v0 < (-140737488355328 : Int64) then (if v0 < (-36028797018963968 : Int64) then (8 : Int32) else (if v0 < (36028797018963968 : Int64) then (7 : Int32) else (8 : Int32))) else (if v0 < (140737488355328 : Int64) then (6 : Int32) else (if v0 < (-36028797018963968 : Int64) then (8 : Int32) else (if v0 < (36028797018963968 : Int64) then (7 : Int32) else (8 : Int32))))))))) else (if v0 < (8388608 : Int64) then (3 : Int32) else (if v0 < (-2147483648 : Int64) then (if v0 < (-549755813888 : Int64) then (if v0 < (-140737488355328 : Int64) then (if v0 < (-36028797018963968 : Int64) then (8 : Int32) else (if v0 < (36028797018963968 : Int64) then (7 : Int32) else (8 : Int32))) else (if v0 < (140737488355328 : Int64) then (6 : Int32) else (if v0 < (-36028797018963968 : Int64) then (8 : Int32) else (if v0 < (36028797018963968 : Int64) then (7 : Int32) else (8 : Int32))))) else (if v0 < (549755813888 : Int64) then (5 : Int32) else (if v0 < (-140737488355328 : Int64) then (if v0 < (-36028797018963968 : Int64) then (8 : Int32) else (if v0 < (36028797018963968 : Int64) then (7 : Int32) else (8 : Int32))) else (if v0 < (140737488355328 : Int64) then (6 : Int32) else (if v0 < (-36028797018963968 : Int64) then (8 : Int32) else (if v0 < (36028797018963968 : Int64) then (7 : Int32) else (8 : Int32))))))) else (if v0 < (2147483648 : Int64) then (4 : Int32) else (if v0 < (-549755813888 : Int64) then (if v0 < (-140737488355328 : Int64) then (if v0 < (-36028797018963968 : Int64) then (8 : Int32) else (if v0 < (36028797018963968 : Int64) then (7 : Int32) else (8 : Int32))) else (if v0 < (140737488355328 : Int64) then (6 : Int32) else (if v0 < (-36028797018963968 : Int64) then (8 : Int32) else (if v0 < (36028797018963968 : Int64) then (7 : Int32) else (8 : Int32))))) else (if v0 < (549755813888 : Int64) then (5 : Int32) else (if v0 < (-140737488355328 : Int64) then (if v0 < (-36028797018963968 : Int64) then (8 : Int32) else (if v0 < (36028797018963968 : Int64) then (7 : Int32) else (8 : Int32))) else (if v0 < (140737488355328 : Int64) then (6 : Int32) else (if v0 < (-36028797018963968 : Int64) then (8 : Int32) else (if v0 < (36028797018963968 : Int64) then (7 : Int32) else (8 : Int32))))))))))))))
theorem ef2 (m_ : MethodId) (v0 : Int64)  : entryFrame m_ #[(.long v0)] 2 = mkF m_ 0 #[.val (.long v0), .second] [] := by first | (simp [entryFrame, mkF, argsToLocals, Value.category]; done) | rfl
theorem pn_1 : plainName "com/example/bindwick/bindwick/BERWriterIntegerValuePinLaw" = true := by first | (simp [plainName, overriddenIn]; done) | decide +kernel
theorem d2_130 : decode method_4_code 130 = .ok (.ireturn, 1) := by decide +kernel
theorem d2_127 : decode method_4_code 127 = .ok (.ireturn, 1) := by decide +kernel
theorem d2_108 : decode method_4_code 108 = .ok (.ireturn, 1) := by decide +kernel
theorem d2_89 : decode method_4_code 89 = .ok (.ireturn, 1) := by decide +kernel
theorem d2_71 : decode method_4_code 71 = .ok (.ireturn, 1) := by decide +kernel
theorem d2_53 : decode method_4_code 53 = .ok (.ireturn, 1) := by decide +kernel
theorem d2_35 : decode method_4_code 35 = .ok (.ireturn, 1) := by decide +kernel
theorem d2_17 : decode method_4_code 17 = .ok (.ireturn, 1) := by decide +kernel
set_option maxRecDepth 65536 in
set_option maxHeartbeats 40000000 in
theorem co2 (l : Launch) (Z : State) (a0 : Array Value) (hw : ∀ d ∈ tables_1, d.before a0 Z = true) (v0 : Int64) (h0 : Heap)  : Co l (⟨"com/example/bindwick/bindwick/BERWriterIntegerValuePinLaw", "expectedLength", "(J)I"⟩ : MethodName) method_4_code 2 (some .int) [] ({ frames := 0, cells := 0, slots := 0, locals := 0 } : Room) Z h0 #[(.long v0)] (Pu h0 (some (.int (fx v0)))) := by
  refine Co.of (plainFor_of_name pn_1) ?_
  intro p_ e_ s_ m_ below meth c_ T0 X0 hx hby hml hown hnm hret hlk hZ eq0
  refine Go.cast (ef2 m_ v0 ) ?_
  refine g_lloadN X0 hx rfl (hb hby d2_0) 1 rfl ?_
  refine g_ldc2_w X0 hx hZ hown (wd hw 9 rfl) (hb hby d2_1) 4 rfl ?_
  refine g_lif_lt X0 hx (hb hby d2_4) 5 rfl (hb hby d2_5) 18 8 (by decide) rfl rfl (fun q4 => ?_) (fun q4 => ?_)
  · refine g_lloadN X0 hx rfl (hb hby d2_18) 19 rfl ?_
    refine g_ldc2_w X0 hx hZ hown (wd hw 14 rfl) (hb hby d2_19) 22 rfl ?_
    refine g_lif_lt X0 hx (hb hby d2_22) 23 rfl (hb hby d2_23) 36 26 (by decide) rfl rfl (fun q22 => ?_) (fun q22 => ?_)
    · refine g_lloadN X0 hx rfl (hb hby d2_36) 37 rfl ?_
      refine g_ldc2_w X0 hx hZ hown (wd hw 15 rfl) (hb hby d2_37) 40 rfl ?_
      refine g_lif_lt X0 hx (hb hby d2_40) 41 rfl (hb hby d2_41) 54 44 (by decide) rfl rfl (fun q40 => ?_) (fun q40 => ?_)
      · refine g_lloadN X0 hx rfl (hb hby d2_54) 55 rfl ?_
        refine g_ldc2_w X0 hx hZ hown (wd hw 16 rfl) (hb hby d2_55) 58 rfl ?_
        refine g_lif_lt X0 hx (hb hby d2_58) 59 rfl (hb hby d2_59) 72 62 (by decide) rfl rfl (fun q58 => ?_) (fun q58 => ?_)
        · refine g_lloadN X0 hx rfl (hb hby d2_72) 73 rfl ?_
          refine g_ldc2_w X0 hx hZ hown (wd hw 17 rfl) (hb hby d2_73) 76 rfl ?_
          refine g_lif_lt X0 hx (hb hby d2_76) 77 rfl (hb hby d2_77) 90 80 (by decide) rfl rfl (fun q76 => ?_) (fun q76 => ?_)
          · refine g_lloadN X0 hx rfl (hb hby d2_90) 91 rfl ?_
            refine g_ldc2_w X0 hx hZ hown (wd hw 20 rfl) (hb hby d2_91) 94 rfl ?_
            refine g_lif_lt X0 hx (hb hby d2_94) 95 rfl (hb hby d2_95) 109 98 (by decide) rfl rfl (fun q94 => ?_) (fun q94 => ?_)
            · refine g_lloadN X0 hx rfl (hb hby d2_109) 110 rfl ?_
              refine g_ldc2_w X0 hx hZ hown (wd hw 21 rfl) (hb hby d2_110) 113 rfl ?_
              refine g_lif_lt X0 hx (hb hby d2_113) 114 rfl (hb hby d2_114) 128 117 (by decide) rfl rfl (fun q113 => ?_) (fun q113 => ?_)
              · refine g_bipush X0 hx (8 : Int32) rfl (hb hby d2_128) 130 rfl ?_
                exact g_reti X0 hx hret hlk (by decide) (by decide) (hb hby d2_130) ⟨congrArg (fun z => some (Value.int z)) (show fx v0 = _ from ((if_pos q4).trans ((if_pos q22).trans ((if_pos q40).trans ((if_pos q58).trans ((if_pos q76).trans ((if_pos q94).trans ((if_pos q113).trans rfl)))))))).symm, eq0, rfl⟩
              · refine g_lloadN X0 hx rfl (hb hby d2_117) 118 rfl ?_
                refine g_ldc2_w X0 hx hZ hown (wd hw 22 rfl) (hb hby d2_118) 121 rfl ?_
                refine g_lif_ge X0 hx (hb hby d2_121) 122 rfl (hb hby d2_122) 128 125 (by decide) rfl rfl (fun q121 => ?_) (fun q121 => ?_)
                · refine g_bipush X0 hx (8 : Int32) rfl (hb hby d2_128) 130 rfl ?_
                  exact g_reti X0 hx hret hlk (by decide) (by decide) (hb hby d2_130) ⟨congrArg (fun z => some (Value.int z)) (show fx v0 = _ from ((if_pos q4).trans ((if_pos q22).trans ((if_pos q40).trans ((if_pos q58).trans ((if_pos q76).trans ((if_pos q94).trans ((if_neg q113).trans ((if_neg q121).trans rfl))))))))).symm, eq0, rfl⟩
                · refine g_bipush X0 hx (7 : Int32) rfl (hb hby d2_125) 127 rfl ?_
                  exact g_reti X0 hx hret hlk (by decide) (by decide) (hb hby d2_127) ⟨congrArg (fun z => some (Value.int z)) (show fx v0 = _ from ((if_pos q4).trans ((if_pos q22).trans ((if_pos q40).trans ((if_pos q58).trans ((if_pos q76).trans ((if_pos q94).trans ((if_neg q113).trans ((if_pos q121).trans rfl))))))))).symm, eq0, rfl⟩
            · refine g_lloadN X0 hx rfl (hb hby d2_98) 99 rfl ?_
              refine g_ldc2_w X0 hx hZ hown (wd hw 26 rfl) (hb hby d2_99) 102 rfl ?_
              refine g_lif_ge X0 hx (hb hby d2_102) 103 rfl (hb hby d2_103) 109 106 (by decide) rfl rfl (fun q102 => ?_) (fun q102 => ?_)
              · refine g_lloadN X0 hx rfl (hb hby d2_109) 110 rfl ?_
                refine g_ldc2_w X0 hx hZ hown (wd hw 21 rfl) (hb hby d2_110) 113 rfl ?_
                refine g_lif_lt X0 hx (hb hby d2_113) 114 rfl (hb hby d2_114) 128 117 (by decide) rfl rfl (fun q113 => ?_) (fun q113 => ?_)
                · refine g_bipush X0 hx (8 : Int32) rfl (hb hby d2_128) 130 rfl ?_
                  exact g_reti X0 hx hret hlk (by decide) (by decide) (hb hby d2_130) ⟨congrArg (fun z => some (Value.int z)) (show fx v0 = _ from ((if_pos q4).trans ((if_pos q22).trans ((if_pos q40).trans ((if_pos q58).trans ((if_pos q76).trans ((if_neg q94).trans ((if_neg q102).trans ((if_pos q113).trans rfl))))))))).symm, eq0, rfl⟩
                · refine g_lloadN X0 hx rfl (hb hby d2_117) 118 rfl ?_
                  refine g_ldc2_w X0 hx hZ hown (wd hw 22 rfl) (hb hby d2_118) 121 rfl ?_
                  refine g_lif_ge X0 hx (hb hby d2_121) 122 rfl (hb hby d2_122) 128 125 (by decide) rfl rfl (fun q121 => ?_) (fun q121 => ?_)
                  · refine g_bipush X0 hx (8 : Int32) rfl (hb hby d2_128) 130 rfl ?_
                    exact g_reti X0 hx hret hlk (by decide) (by decide) (hb hby d2_130) ⟨congrArg (fun z => some (Value.int z)) (show fx v0 = _ from ((if_pos q4).trans ((if_pos q22).trans ((if_pos q40).trans ((if_pos q58).trans ((if_pos q76).trans ((if_neg q94).trans ((if_neg q102).trans ((if_neg q113).trans ((if_neg q121).trans rfl)))))))))).symm, eq0, rfl⟩
                  · refine g_bipush X0 hx (7 : Int32) rfl (hb hby d2_125) 127 rfl ?_
                    exact g_reti X0 hx hret hlk (by decide) (by decide) (hb hby d2_127) ⟨congrArg (fun z => some (Value.int z)) (show fx v0 = _ from ((if_pos q4).trans ((if_pos q22).trans ((if_pos q40).trans ((if_pos q58).trans ((if_pos q76).trans ((if_neg q94).trans ((if_neg q102).trans ((if_neg q113).trans ((if_pos q121).trans rfl)))))))))).symm, eq0, rfl⟩
              · refine g_bipush X0 hx (6 : Int32) rfl (hb hby d2_106) 108 rfl ?_
                exact g_reti X0 hx hret hlk (by decide) (by decide) (hb hby d2_108) ⟨congrArg (fun z => some (Value.int z)) (show fx v0 = _ from ((if_pos q4).trans ((if_pos q22).trans ((if_pos q40).trans ((if_pos q58).trans ((if_pos q76).trans ((if_neg q94).trans ((if_pos q102).trans rfl)))))))).symm, eq0, rfl⟩
          · refine g_lloadN X0 hx rfl (hb hby d2_80) 81 rfl ?_
            refine g_ldc2_w X0 hx hZ hown (wd hw 18 rfl) (hb hby d2_81) 84 rfl ?_
            refine g_lif_ge X0 hx (hb hby d2_84) 85 rfl (hb hby d2_85) 90 88 (by decide) rfl rfl (fun q84 => ?_) (fun q84 => ?_)
            · refine g_lloadN X0 hx rfl (hb hby d2_90) 91 rfl ?_
              refine g_ldc2_w X0 hx hZ hown (wd hw 20 rfl) (hb hby d2_91) 94 rfl ?_
              refine g_lif_lt X0 hx (hb hby d2_94) 95 rfl (hb hby d2_95) 109 98 (by decide) rfl rfl (fun q94 => ?_) (fun q94 => ?_)
              · refine g_lloadN X0 hx rfl (hb hby d2_109) 110 rfl ?_
                refine g_ldc2_w X0 hx hZ hown (wd hw 21 rfl) (hb hby d2_110) 113 rfl ?_
                refine g_lif_lt X0 hx (hb hby d2_113) 114 rfl (hb hby d2_114) 128 117 (by decide) rfl rfl (fun q113 => ?_) (fun q113 => ?_)
                · refine g_bipush X0 hx (8 : Int32) rfl (hb hby d2_128) 130 rfl ?_
                  exact g_reti X0 hx hret hlk (by decide) (by decide) (hb hby d2_130) ⟨congrArg (fun z => some (Value.int z)) (show fx v0 = _ from ((if_pos q4).trans ((if_pos q22).trans ((if_pos q40).trans ((if_pos q58).trans ((if_neg q76).trans ((if_neg q84).trans ((if_pos q94).trans ((if_pos q113).trans rfl))))))))).symm, eq0, rfl⟩
                · refine g_lloadN X0 hx rfl (hb hby d2_117) 118 rfl ?_
                  refine g_ldc2_w X0 hx hZ hown (wd hw 22 rfl) (hb hby d2_118) 121 rfl ?_
                  refine g_lif_ge X0 hx (hb hby d2_121) 122 rfl (hb hby d2_122) 128 125 (by decide) rfl rfl (fun q121 => ?_) (fun q121 => ?_)
                  · refine g_bipush X0 hx (8 : Int32) rfl (hb hby d2_128) 130 rfl ?_
                    exact g_reti X0 hx hret hlk (by decide) (by decide) (hb hby d2_130) ⟨congrArg (fun z => some (Value.int z)) (show fx v0 = _ from ((if_pos q4).trans ((if_pos q22).trans ((if_pos q40).trans ((if_pos q58).trans ((if_neg q76).trans ((if_neg q84).trans ((if_pos q94).trans ((if_neg q113).trans ((if_neg q121).trans rfl)))))))))).symm, eq0, rfl⟩
                  · refine g_bipush X0 hx (7 : Int32) rfl (hb hby d2_125) 127 rfl ?_
                    exact g_reti X0 hx hret hlk (by decide) (by decide) (hb hby d2_127) ⟨congrArg (fun z => some (Value.int z)) (show fx v0 = _ from ((if_pos q4).trans ((if_pos q22).trans ((if_pos q40).trans ((if_pos q58).trans ((if_neg q76).trans ((if_neg q84).trans ((if_pos q94).trans ((if_neg q113).trans ((if_pos q121).trans rfl)))))))))).symm, eq0, rfl⟩
              · refine g_lloadN X0 hx rfl (hb hby d2_98) 99 rfl ?_
                refine g_ldc2_w X0 hx hZ hown (wd hw 26 rfl) (hb hby d2_99) 102 rfl ?_
                refine g_lif_ge X0 hx (hb hby d2_102) 103 rfl (hb hby d2_103) 109 106 (by decide) rfl rfl (fun q102 => ?_) (fun q102 => ?_)
                · refine g_lloadN X0 hx rfl (hb hby d2_109) 110 rfl ?_
                  refine g_ldc2_w X0 hx hZ hown (wd hw 21 rfl) (hb hby d2_110) 113 rfl ?_
                  refine g_lif_lt X0 hx (hb hby d2_113) 114 rfl (hb hby d2_114) 128 117 (by decide) rfl rfl (fun q113 => ?_) (fun q113 => ?_)
                  · refine g_bipush X0 hx (8 : Int32) rfl (hb hby d2_128) 130 rfl ?_
                    exact g_reti X0 hx hret hlk (by decide) (by decide) (hb hby d2_130) ⟨congrArg (fun z => some (Value.int z)) (show fx v0 = _ from ((if_pos q4).trans ((if_pos q22).trans ((if_pos q40).trans ((if_pos q58).trans ((if_neg q76).trans ((if_neg q84).trans ((if_neg q94).trans ((if_neg q102).trans ((if_pos q113).trans rfl)))))))))).symm, eq0, rfl⟩
                  · refine g_lloadN X0 hx rfl (hb hby d2_117) 118 rfl ?_
                    refine g_ldc2_w X0 hx hZ hown (wd hw 22 rfl) (hb hby d2_118) 121 rfl ?_
                    refine g_lif_ge X0 hx (hb hby d2_121) 122 rfl (hb hby d2_122) 128 125 (by decide) rfl rfl (fun q121 => ?_) (fun q121 => ?_)
                    · refine g_bipush X0 hx (8 : Int32) rfl (hb hby d2_128) 130 rfl ?_
                      exact g_reti X0 hx hret hlk (by decide) (by decide) (hb hby d2_130) ⟨congrArg (fun z => some (Value.int z)) (show fx v0 = _ from ((if_pos q4).trans ((if_pos q22).trans ((if_pos q40).trans ((if_pos q58).trans ((if_neg q76).trans ((if_neg q84).trans ((if_neg q94).trans ((if_neg q102).trans ((if_neg q113).trans ((if_neg q121).trans rfl))))))))))).symm, eq0, rfl⟩
                    · refine g_bipush X0 hx (7 : Int32) rfl (hb hby d2_125) 127 rfl ?_
                      exact g_reti X0 hx hret hlk (by decide) (by decide) (hb hby d2_127) ⟨congrArg (fun z => some (Value.int z)) (show fx v0 = _ from ((if_pos q4).trans ((if_pos q22).trans ((if_pos q40).trans ((if_pos q58).trans ((if_neg q76).trans ((if_neg q84).trans ((if_neg q94).trans ((if_neg q102).trans ((if_neg q113).trans ((if_pos q121).trans rfl))))))))))).symm, eq0, rfl⟩
                · refine g_bipush X0 hx (6 : Int32) rfl (hb hby d2_106) 108 rfl ?_
                  exact g_reti X0 hx hret hlk (by decide) (by decide) (hb hby d2_108) ⟨congrArg (fun z => some (Value.int z)) (show fx v0 = _ from ((if_pos q4).trans ((if_pos q22).trans ((if_pos q40).trans ((if_pos q58).trans ((if_neg q76).trans ((if_neg q84).trans ((if_neg q94).trans ((if_pos q102).trans rfl))))))))).symm, eq0, rfl⟩
            · refine g_iconst X0 hx (5 : Int32) rfl (hb hby d2_88) 89 rfl ?_
              exact g_reti X0 hx hret hlk (by decide) (by decide) (hb hby d2_89) ⟨congrArg (fun z => some (Value.int z)) (show fx v0 = _ from ((if_pos q4).trans ((if_pos q22).trans ((if_pos q40).trans ((if_pos q58).trans ((if_neg q76).trans ((if_pos q84).trans rfl))))))).symm, eq0, rfl⟩
        · refine g_lloadN X0 hx rfl (hb hby d2_62) 63 rfl ?_
          refine g_ldc2_w X0 hx hZ hown (wd hw 25 rfl) (hb hby d2_63) 66 rfl ?_
          refine g_lif_ge X0 hx (hb hby d2_66) 67 rfl (hb hby d2_67) 72 70 (by decide) rfl rfl (fun q66 => ?_) (fun q66 => ?_)
          · refine g_lloadN X0 hx rfl (hb hby d2_72) 73 rfl ?_
            refine g_ldc2_w X0 hx hZ hown (wd hw 17 rfl) (hb hby d2_73) 76 rfl ?_
            refine g_lif_lt X0 hx (hb hby d2_76) 77 rfl (hb hby d2_77) 90 80 (by decide) rfl rfl (fun q76 => ?_) (fun q76 => ?_)
            · refine g_lloadN X0 hx rfl (hb hby d2_90) 91 rfl ?_
              refine g_ldc2_w X0 hx hZ hown (wd hw 20 rfl) (hb hby d2_91) 94 rfl ?_
              refine g_lif_lt X0 hx (hb hby d2_94) 95 rfl (hb hby d2_95) 109 98 (by decide) rfl rfl (fun q94 => ?_) (fun q94 => ?_)
              · refine g_lloadN X0 hx rfl (hb hby d2_109) 110 rfl ?_
                refine g_ldc2_w X0 hx hZ hown (wd hw 21 rfl) (hb hby d2_110) 113 rfl ?_
                refine g_lif_lt X0 hx (hb hby d2_113) 114 rfl (hb hby d2_114) 128 117 (by decide) rfl rfl (fun q113 => ?_) (fun q113 => ?_)
                · refine g_bipush X0 hx (8 : Int32) rfl (hb hby d2_128) 130 rfl ?_
                  exact g_reti X0 hx hret hlk (by decide) (by decide) (hb hby d2_130) ⟨congrArg (fun z => some (Value.int z)) (show fx v0 = _ from ((if_pos q4).trans ((if_pos q22).trans ((if_pos q40).trans ((if_neg q58).trans ((if_neg q66).trans ((if_pos q76).trans ((if_pos q94).trans ((if_pos q113).trans rfl))))))))).symm, eq0, rfl⟩
                · refine g_lloadN X0 hx rfl (hb hby d2_117) 118 rfl ?_
                  refine g_ldc2_w X0 hx hZ hown (wd hw 22 rfl) (hb hby d2_118) 121 rfl ?_
                  refine g_lif_ge X0 hx (hb hby d2_121) 122 rfl (hb hby d2_122) 128 125 (by decide) rfl rfl (fun q121 => ?_) (fun q121 => ?_)
                  · refine g_bipush X0 hx (8 : Int32) rfl (hb hby d2_128) 130 rfl ?_
                    exact g_reti X0 hx hret hlk (by decide) (by decide) (hb hby d2_130) ⟨congrArg (fun z => some (Value.int z)) (show fx v0 = _ from ((if_pos q4).trans ((if_pos q22).trans ((if_pos q40).trans ((if_neg q58).trans ((if_neg q66).trans ((if_pos q76).trans ((if_pos q94).trans ((if_neg q113).trans ((if_neg q121).trans rfl)))))))))).symm, eq0, rfl⟩
                  · refine g_bipush X0 hx (7 : Int32) rfl (hb hby d2_125) 127 rfl ?_
                    exact g_reti X0 hx hret hlk (by decide) (by decide) (hb hby d2_127) ⟨congrArg (fun z => some (Value.int z)) (show fx v0 = _ from ((if_pos q4).trans ((if_pos q22).trans ((if_pos q40).trans ((if_neg q58).trans ((if_neg q66).trans ((if_pos q76).trans ((if_pos q94).trans ((if_neg q113).trans ((if_pos q121).trans rfl)))))))))).symm, eq0, rfl⟩
              · refine g_lloadN X0 hx rfl (hb hby d2_98) 99 rfl ?_
                refine g_ldc2_w X0 hx hZ hown (wd hw 26 rfl) (hb hby d2_99) 102 rfl ?_
                refine g_lif_ge X0 hx (hb hby d2_102) 103 rfl (hb hby d2_103) 109 106 (by decide) rfl rfl (fun q102 => ?_) (fun q102 => ?_)
                · refine g_lloadN X0 hx rfl (hb hby d2_109) 110 rfl ?_
                  refine g_ldc2_w X0 hx hZ hown (wd hw 21 rfl) (hb hby d2_110) 113 rfl ?_
                  refine g_lif_lt X0 hx (hb hby d2_113) 114 rfl (hb hby d2_114) 128 117 (by decide) rfl rfl (fun q113 => ?_) (fun q113 => ?_)
                  · refine g_bipush X0 hx (8 : Int32) rfl (hb hby d2_128) 130 rfl ?_
                    exact g_reti X0 hx hret hlk (by decide) (by decide) (hb hby d2_130) ⟨congrArg (fun z => some (Value.int z)) (show fx v0 = _ from ((if_pos q4).trans ((if_pos q22).trans ((if_pos q40).trans ((if_neg q58).trans ((if_neg q66).trans ((if_pos q76).trans ((if_neg q94).trans ((if_neg q102).trans ((if_pos q113).trans rfl)))))))))).symm, eq0, rfl⟩
                  · refine g_lloadN X0 hx rfl (hb hby d2_117) 118 rfl ?_
                    refine g_ldc2_w X0 hx hZ hown (wd hw 22 rfl) (hb hby d2_118) 121 rfl ?_
                    refine g_lif_ge X0 hx (hb hby d2_121) 122 rfl (hb hby d2_122) 128 125 (by decide) rfl rfl (fun q121 => ?_) (fun q121 => ?_)
                    · refine g_bipush X0 hx (8 : Int32) rfl (hb hby d2_128) 130 rfl ?_
                      exact g_reti X0 hx hret hlk (by decide) (by decide) (hb hby d2_130) ⟨congrArg (fun z => some (Value.int z)) (show fx v0 = _ from ((if_pos q4).trans ((if_pos q22).trans ((if_pos q40).trans ((if_neg q58).trans ((if_neg q66).trans ((if_pos q76).trans ((if_neg q94).trans ((if_neg q102).trans ((if_neg q113).trans ((if_neg q121).trans rfl))))))))))).symm, eq0, rfl⟩
                    · refine g_bipush X0 hx (7 : Int32) rfl (hb hby d2_125) 127 rfl ?_
                      exact g_reti X0 hx hret hlk (by decide) (by decide) (hb hby d2_127) ⟨congrArg (fun z => some (Value.int z)) (show fx v0 = _ from ((if_pos q4).trans ((if_pos q22).trans ((if_pos q40).trans ((if_neg q58).trans ((if_neg q66).trans ((if_pos q76).trans ((if_neg q94).trans ((if_neg q102).trans ((if_neg q113).trans ((if_pos q121).trans rfl))))))))))).symm, eq0, rfl⟩
                · refine g_bipush X0 hx (6 : Int32) rfl (hb hby d2_106) 108 rfl ?_
                  exact g_reti X0 hx hret hlk (by decide) (by decide) (hb hby d2_108) ⟨congrArg (fun z => some (Value.int z)) (show fx v0 = _ from ((if_pos q4).trans ((if_pos q22).trans ((if_pos q40).trans ((if_neg q58).trans ((if_neg q66).trans ((if_pos q76).trans ((if_neg q94).trans ((if_pos q102).trans rfl))))))))).symm, eq0, rfl⟩
            · refine g_lloadN X0 hx rfl (hb hby d2_80) 81 rfl ?_
              refine g_ldc2_w X0 hx hZ hown (wd hw 18 rfl) (hb hby d2_81) 84 rfl ?_
              refine g_lif_ge X0 hx (hb hby d2_84) 85 rfl (hb hby d2_85) 90 88 (by decide) rfl rfl (fun q84 => ?_) (fun q84 => ?_)
              · refine g_lloadN X0 hx rfl (hb hby d2_90) 91 rfl ?_
                refine g_ldc2_w X0 hx hZ hown (wd hw 20 rfl) (hb hby d2_91) 94 rfl ?_
                refine g_lif_lt X0 hx (hb hby d2_94) 95 rfl (hb hby d2_95) 109 98 (by decide) rfl rfl (fun q94 => ?_) (fun q94 => ?_)
                · refine g_lloadN X0 hx rfl (hb hby d2_109) 110 rfl ?_
                  refine g_ldc2_w X0 hx hZ hown (wd hw 21 rfl) (hb hby d2_110) 113 rfl ?_
                  refine g_lif_lt X0 hx (hb hby d2_113) 114 rfl (hb hby d2_114) 128 117 (by decide) rfl rfl (fun q113 => ?_) (fun q113 => ?_)
                  · refine g_bipush X0 hx (8 : Int32) rfl (hb hby d2_128) 130 rfl ?_
                    exact g_reti X0 hx hret hlk (by decide) (by decide) (hb hby d2_130) ⟨congrArg (fun z => some (Value.int z)) (show fx v0 = _ from ((if_pos q4).trans ((if_pos q22).trans ((if_pos q40).trans ((if_neg q58).trans ((if_neg q66).trans ((if_neg q76).trans ((if_neg q84).trans ((if_pos q94).trans ((if_pos q113).trans rfl)))))))))).symm, eq0, rfl⟩
                  · refine g_lloadN X0 hx rfl (hb hby d2_117) 118 rfl ?_
                    refine g_ldc2_w X0 hx hZ hown (wd hw 22 rfl) (hb hby d2_118) 121 rfl ?_
                    refine g_lif_ge X0 hx (hb hby d2_121) 122 rfl (hb hby d2_122) 128 125 (by decide) rfl rfl (fun q121 => ?_) (fun q121 => ?_)
                    · refine g_bipush X0 hx (8 : Int32) rfl (hb hby d2_128) 130 rfl ?_
                      exact g_reti X0 hx hret hlk (by decide) (by decide) (hb hby d2_130) ⟨congrArg (fun z => some (Value.int z)) (show fx v0 = _ from ((if_pos q4).trans ((if_pos q22).trans ((if_pos q40).trans ((if_neg q58).trans ((if_neg q66).trans ((if_neg q76).trans ((if_neg q84).trans ((if_pos q94).trans ((if_neg q113).trans ((if_neg q121).trans rfl))))))))))).symm, eq0, rfl⟩
                    · refine g_bipush X0 hx (7 : Int32) rfl (hb hby d2_125) 127 rfl ?_
                      exact g_reti X0 hx hret hlk (by decide) (by decide) (hb hby d2_127) ⟨congrArg (fun z => some (Value.int z)) (show fx v0 = _ from ((if_pos q4).trans ((if_pos q22).trans ((if_pos q40).trans ((if_neg q58).trans ((if_neg q66).trans ((if_neg q76).trans ((if_neg q84).trans ((if_pos q94).trans ((if_neg q113).trans ((if_pos q121).trans rfl))))))))))).symm, eq0, rfl⟩
                · refine g_lloadN X0 hx rfl (hb hby d2_98) 99 rfl ?_
                  refine g_ldc2_w X0 hx hZ hown (wd hw 26 rfl) (hb hby d2_99) 102 rfl ?_
                  refine g_lif_ge X0 hx (hb hby d2_102) 103 rfl (hb hby d2_103) 109 106 (by decide) rfl rfl (fun q102 => ?_) (fun q102 => ?_)
                  · refine g_lloadN X0 hx rfl (hb hby d2_109) 110 rfl ?_
                    refine g_ldc2_w X0 hx hZ hown (wd hw 21 rfl) (hb hby d2_110) 113 rfl ?_
                    refine g_lif_lt X0 hx (hb hby d2_113) 114 rfl (hb hby d2_114) 128 117 (by decide) rfl rfl (fun q113 => ?_) (fun q113 => ?_)
                    · refine g_bipush X0 hx (8 : Int32) rfl (hb hby d2_128) 130 rfl ?_
                      exact g_reti X0 hx hret hlk (by decide) (by decide) (hb hby d2_130) ⟨congrArg (fun z => some (Value.int z)) (show fx v0 = _ from ((if_pos q4).trans ((if_pos q22).trans ((if_pos q40).trans ((if_neg q58).trans ((if_neg q66).trans ((if_neg q76).trans ((if_neg q84).trans ((if_neg q94).trans ((if_neg q102).trans ((if_pos q113).trans rfl))))))))))).symm, eq0, rfl⟩
                    · refine g_lloadN X0 hx rfl (hb hby d2_117) 118 rfl ?_
                      refine g_ldc2_w X0 hx hZ hown (wd hw 22 rfl) (hb hby d2_118) 121 rfl ?_
                      refine g_lif_ge X0 hx (hb hby d2_121) 122 rfl (hb hby d2_122) 128 125 (by decide) rfl rfl (fun q121 => ?_) (fun q121 => ?_)
                      · refine g_bipush X0 hx (8 : Int32) rfl (hb hby d2_128) 130 rfl ?_
                        exact g_reti X0 hx hret hlk (by decide) (by decide) (hb hby d2_130) ⟨congrArg (fun z => some (Value.int z)) (show fx v0 = _ from ((if_pos q4).trans ((if_pos q22).trans ((if_pos q40).trans ((if_neg q58).trans ((if_neg q66).trans ((if_neg q76).trans ((if_neg q84).trans ((if_neg q94).trans ((if_neg q102).trans ((if_neg q113).trans ((if_neg q121).trans rfl)))))))))))).symm, eq0, rfl⟩
                      · refine g_bipush X0 hx (7 : Int32) rfl (hb hby d2_125) 127 rfl ?_
                        exact g_reti X0 hx hret hlk (by decide) (by decide) (hb hby d2_127) ⟨congrArg (fun z => some (Value.int z)) (show fx v0 = _ from ((if_pos q4).trans ((if_pos q22).trans ((if_pos q40).trans ((if_neg q58).trans ((if_neg q66).trans ((if_neg q76).trans ((if_neg q84).trans ((if_neg q94).trans ((if_neg q102).trans ((if_neg q113).trans ((if_pos q121).trans rfl)))))))))))).symm, eq0, rfl⟩
                  · refine g_bipush X0 hx (6 : Int32) rfl (hb hby d2_106) 108 rfl ?_
                    exact g_reti X0 hx hret hlk (by decide) (by decide) (hb hby d2_108) ⟨congrArg (fun z => some (Value.int z)) (show fx v0 = _ from ((if_pos q4).trans ((if_pos q22).trans ((if_pos q40).trans ((if_neg q58).trans ((if_neg q66).trans ((if_neg q76).trans ((if_neg q84).trans ((if_neg q94).trans ((if_pos q102).trans rfl)))))))))).symm, eq0, rfl⟩
              · refine g_iconst X0 hx (5 : Int32) rfl (hb hby d2_88) 89 rfl ?_
                exact g_reti X0 hx hret hlk (by decide) (by decide) (hb hby d2_89) ⟨congrArg (fun z => some (Value.int z)) (show fx v0 = _ from ((if_pos q4).trans ((if_pos q22).trans ((if_pos q40).trans ((if_neg q58).trans ((if_neg q66).trans ((if_neg q76).trans ((if_pos q84).trans rfl)))))))).symm, eq0, rfl⟩
          · refine g_iconst X0 hx (4 : Int32) rfl (hb hby d2_70) 71 rfl ?_
            exact g_reti X0 hx hret hlk (by decide) (by decide) (hb hby d2_71) ⟨congrArg (fun z => some (Value.int z)) (show fx v0 = _ from ((if_pos q4).trans ((if_pos q22).trans ((if_pos q40).trans ((if_neg q58).trans ((if_pos q66).trans rfl)))))).symm, eq0, rfl⟩
      · refine g_lloadN X0 hx rfl (hb hby d2_44) 45 rfl ?_
        refine g_ldc2_w X0 hx hZ hown (wd hw 24 rfl) (hb hby d2_45) 48 rfl ?_
        refine g_lif_ge X0 hx (hb hby d2_48) 49 rfl (hb hby d2_49) 54 52 (by decide) rfl rfl (fun q48 => ?_) (fun q48 => ?_)
        · refine g_lloadN X0 hx rfl (hb hby d2_54) 55 rfl ?_
          refine g_ldc2_w X0 hx hZ hown (wd hw 16 rfl) (hb hby d2_55) 58 rfl ?_
          refine g_lif_lt X0 hx (hb hby d2_58) 59 rfl (hb hby d2_59) 72 62 (by decide) rfl rfl (fun q58 => ?_) (fun q58 => ?_)
          · refine g_lloadN X0 hx rfl (hb hby d2_72) 73 rfl ?_
            refine g_ldc2_w X0 hx hZ hown (wd hw 17 rfl) (hb hby d2_73) 76 rfl ?_
            refine g_lif_lt X0 hx (hb hby d2_76) 77 rfl (hb hby d2_77) 90 80 (by decide) rfl rfl (fun q76 => ?_) (fun q76 => ?_)
            · refine g_lloadN X0 hx rfl (hb hby d2_90) 91 rfl ?_
              refine g_ldc2_w X0 hx hZ hown (wd hw 20 rfl) (hb hby d2_91) 94 rfl ?_
              refine g_lif_lt X0 hx (hb hby d2_94) 95 rfl (hb hby d2_95) 109 98 (by decide) rfl rfl (fun q94 => ?_) (fun q94 => ?_)
              · refine g_lloadN X0 hx rfl (hb hby d2_109) 110 rfl ?_
                refine g_ldc2_w X0 hx hZ hown (wd hw 21 rfl) (hb hby d2_110) 113 rfl ?_
                refine g_lif_lt X0 hx (hb hby d2_113) 114 rfl (hb hby d2_114) 128 117 (by decide) rfl rfl (fun q113 => ?_) (fun q113 => ?_)
                · refine g_bipush X0 hx (8 : Int32) rfl (hb hby d2_128) 130 rfl ?_
                  exact g_reti X0 hx hret hlk (by decide) (by decide) (hb hby d2_130) ⟨congrArg (fun z => some (Value.int z)) (show fx v0 = _ from ((if_pos q4).trans ((if_pos q22).trans ((if_neg q40).trans ((if_neg q48).trans ((if_pos q58).trans ((if_pos q76).trans ((if_pos q94).trans ((if_pos q113).trans rfl))))))))).symm, eq0, rfl⟩
                · refine g_lloadN X0 hx rfl (hb hby d2_117) 118 rfl ?_
                  refine g_ldc2_w X0 hx hZ hown (wd hw 22 rfl) (hb hby d2_118) 121 rfl ?_
                  refine g_lif_ge X0 hx (hb hby d2_121) 122 rfl (hb hby d2_122) 128 125 (by decide) rfl rfl (fun q121 => ?_) (fun q121 => ?_)
                  · refine g_bipush X0 hx (8 : Int32) rfl (hb hby d2_128) 130 rfl ?_
                    exact g_reti X0 hx hret hlk (by decide) (by decide) (hb hby d2_130) ⟨congrArg (fun z => some (Value.int z)) (show fx v0 = _ from ((if_pos q4).trans ((if_pos q22).trans ((if_neg q40).trans ((if_neg q48).trans ((if_pos q58).trans ((if_pos q76).trans ((if_pos q94).trans ((if_neg q113).trans ((if_neg q121).trans rfl)))))))))).symm, eq0, rfl⟩
                  · refine g_bipush X0 hx (7 : Int32) rfl (hb hby d2_125) 127 rfl ?_
                    exact g_reti X0 hx hret hlk (by decide) (by decide) (hb hby d2_127) ⟨congrArg (fun z => some (Value.int z)) (show fx v0 = _ from ((if_pos q4).trans ((if_pos q22).trans ((if_neg q40).trans ((if_neg q48).trans ((if_pos q58).trans ((if_pos q76).trans ((if_pos q94).trans ((if_neg q113).trans ((if_pos q121).trans rfl)))))))))).symm, eq0, rfl⟩
              · refine g_lloadN X0 hx rfl (hb hby d2_98) 99 rfl ?_
                refine g_ldc2_w X0 hx hZ hown (wd hw 26 rfl) (hb hby d2_99) 102 rfl ?_
                refine g_lif_ge X0 hx (hb hby d2_102) 103 rfl (hb hby d2_103) 109 106 (by decide) rfl rfl (fun q102 => ?_) (fun q102 => ?_)
                · refine g_lloadN X0 hx rfl (hb hby d2_109) 110 rfl ?_
                  refine g_ldc2_w X0 hx hZ hown (wd hw 21 rfl) (hb hby d2_110) 113 rfl ?_
                  refine g_lif_lt X0 hx (hb hby d2_113) 114 rfl (hb hby d2_114) 128 117 (by decide) rfl rfl (fun q113 => ?_) (fun q113 => ?_)
                  · refine g_bipush X0 hx (8 : Int32) rfl (hb hby d2_128) 130 rfl ?_
                    exact g_reti X0 hx hret hlk (by decide) (by decide) (hb hby d2_130) ⟨congrArg (fun z => some (Value.int z)) (show fx v0 = _ from ((if_pos q4).trans ((if_pos q22).trans ((if_neg q40).trans ((if_neg q48).trans ((if_pos q58).trans ((if_pos q76).trans ((if_neg q94).trans ((if_neg q102).trans ((if_pos q113).trans rfl)))))))))).symm, eq0, rfl⟩
                  · refine g_lloadN X0 hx rfl (hb hby d2_117) 118 rfl ?_
                    refine g_ldc2_w X0 hx hZ hown (wd hw 22 rfl) (hb hby d2_118) 121 rfl ?_
                    refine g_lif_ge X0 hx (hb hby d2_121) 122 rfl (hb hby d2_122) 128 125 (by decide) rfl rfl (fun q121 => ?_) (fun q121 => ?_)
                    · refine g_bipush X0 hx (8 : Int32) rfl (hb hby d2_128) 130 rfl ?_
                      exact g_reti X0 hx hret hlk (by decide) (by decide) (hb hby d2_130) ⟨congrArg (fun z => some (Value.int z)) (show fx v0 = _ from ((if_pos q4).trans ((if_pos q22).trans ((if_neg q40).trans ((if_neg q48).trans ((if_pos q58).trans ((if_pos q76).trans ((if_neg q94).trans ((if_neg q102).trans ((if_neg q113).trans ((if_neg q121).trans rfl))))))))))).symm, eq0, rfl⟩
                    · refine g_bipush X0 hx (7 : Int32) rfl (hb hby d2_125) 127 rfl ?_
                      exact g_reti X0 hx hret hlk (by decide) (by decide) (hb hby d2_127) ⟨congrArg (fun z => some (Value.int z)) (show fx v0 = _ from ((if_pos q4).trans ((if_pos q22).trans ((if_neg q40).trans ((if_neg q48).trans ((if_pos q58).trans ((if_pos q76).trans ((if_neg q94).trans ((if_neg q102).trans ((if_neg q113).trans ((if_pos q121).trans rfl))))))))))).symm, eq0, rfl⟩
                · refine g_bipush X0 hx (6 : Int32) rfl (hb hby d2_106) 108 rfl ?_
                  exact g_reti X0 hx hret hlk (by decide) (by decide) (hb hby d2_108) ⟨congrArg (fun z => some (Value.int z)) (show fx v0 = _ from ((if_pos q4).trans ((if_pos q22).trans ((if_neg q40).trans ((if_neg q48).trans ((if_pos q58).trans ((if_pos q76).trans ((if_neg q94).trans ((if_pos q102).trans rfl))))))))).symm, eq0, rfl⟩
            · refine g_lloadN X0 hx rfl (hb hby d2_80) 81 rfl ?_
              refine g_ldc2_w X0 hx hZ hown (wd hw 18 rfl) (hb hby d2_81) 84 rfl ?_
              refine g_lif_ge X0 hx (hb hby d2_84) 85 rfl (hb hby d2_85) 90 88 (by decide) rfl rfl (fun q84 => ?_) (fun q84 => ?_)
              · refine g_lloadN X0 hx rfl (hb hby d2_90) 91 rfl ?_
                refine g_ldc2_w X0 hx hZ hown (wd hw 20 rfl) (hb hby d2_91) 94 rfl ?_
                refine g_lif_lt X0 hx (hb hby d2_94) 95 rfl (hb hby d2_95) 109 98 (by decide) rfl rfl (fun q94 => ?_) (fun q94 => ?_)
                · refine g_lloadN X0 hx rfl (hb hby d2_109) 110 rfl ?_
                  refine g_ldc2_w X0 hx hZ hown (wd hw 21 rfl) (hb hby d2_110) 113 rfl ?_
                  refine g_lif_lt X0 hx (hb hby d2_113) 114 rfl (hb hby d2_114) 128 117 (by decide) rfl rfl (fun q113 => ?_) (fun q113 => ?_)
                  · refine g_bipush X0 hx (8 : Int32) rfl (hb hby d2_128) 130 rfl ?_
                    exact g_reti X0 hx hret hlk (by decide) (by decide) (hb hby d2_130) ⟨congrArg (fun z => some (Value.int z)) (show fx v0 = _ from ((if_pos q4).trans ((if_pos q22).trans ((if_neg q40).trans ((if_neg q48).trans ((if_pos q58).trans ((if_neg q76).trans ((if_neg q84).trans ((if_pos q94).trans ((if_pos q113).trans rfl)))))))))).symm, eq0, rfl⟩
                  · refine g_lloadN X0 hx rfl (hb hby d2_117) 118 rfl ?_
                    refine g_ldc2_w X0 hx hZ hown (wd hw 22 rfl) (hb hby d2_118) 121 rfl ?_
                    refine g_lif_ge X0 hx (hb hby d2_121) 122 rfl (hb hby d2_122) 128 125 (by decide) rfl rfl (fun q121 => ?_) (fun q121 => ?_)
                    · refine g_bipush X0 hx (8 : Int32) rfl (hb hby d2_128) 130 rfl ?_
                      exact g_reti X0 hx hret hlk (by decide) (by decide) (hb hby d2_130) ⟨congrArg (fun z => some (Value.int z)) (show fx v0 = _ from ((if_pos q4).trans ((if_pos q22).trans ((if_neg q40).trans ((if_neg q48).trans ((if_pos q58).trans ((if_neg q76).trans ((if_neg q84).trans ((if_pos q94).trans ((if_neg q113).trans ((if_neg q121).trans rfl))))))))))).symm, eq0, rfl⟩
                    · refine g_bipush X0 hx (7 : Int32) rfl (hb hby d2_125) 127 rfl ?_
                      exact g_reti X0 hx hret hlk (by decide) (by decide) (hb hby d2_127) ⟨congrArg (fun z => some (Value.int z)) (show fx v0 = _ from ((if_pos q4).trans ((if_pos q22).trans ((if_neg q40).trans ((if_neg q48).trans ((if_pos q58).trans ((if_neg q76).trans ((if_neg q84).trans ((if_pos q94).trans ((if_neg q113).trans ((if_pos q121).trans rfl))))))))))).symm, eq0, rfl⟩
                · refine g_lloadN X0 hx rfl (hb hby d2_98) 99 rfl ?_
                  refine g_ldc2_w X0 hx hZ hown (wd hw 26 rfl) (hb hby d2_99) 102 rfl ?_
                  refine g_lif_ge X0 hx (hb hby d2_102) 103 rfl (hb hby d2_103) 109 106 (by decide) rfl rfl (fun q102 => ?_) (fun q102 => ?_)
                  · refine g_lloadN X0 hx rfl (hb hby d2_109) 110 rfl ?_
                    refine g_ldc2_w X0 hx hZ hown (wd hw 21 rfl) (hb hby d2_110) 113 rfl ?_
                    refine g_lif_lt X0 hx (hb hby d2_113) 114 rfl (hb hby d2_114) 128 117 (by decide) rfl rfl (fun q113 => ?_) (fun q113 => ?_)
                    · refine g_bipush X0 hx (8 : Int32) rfl (hb hby d2_128) 130 rfl ?_
                      exact g_reti X0 hx hret hlk (by decide) (by decide) (hb hby d2_130) ⟨congrArg (fun z => some (Value.int z)) (show fx v0 = _ from ((if_pos q4).trans ((if_pos q22).trans ((if_neg q40).trans ((if_neg q48).trans ((if_pos q58).trans ((if_neg q76).trans ((if_neg q84).trans ((if_neg q94).trans ((if_neg q102).trans ((if_pos q113).trans rfl))))))))))).symm, eq0, rfl⟩
                    · refine g_lloadN X0 hx rfl (hb hby d2_117) 118 rfl ?_
                      refine g_ldc2_w X0 hx hZ hown (wd hw 22 rfl) (hb hby d2_118) 121 rfl ?_
                      refine g_lif_ge X0 hx (hb hby d2_121) 122 rfl (hb hby d2_122) 128 125 (by decide) rfl rfl (fun q121 => ?_) (fun q121 => ?_)
                      · refine g_bipush X0 hx (8 : Int32) rfl (hb hby d2_128) 130 rfl ?_
                        exact g_reti X0 hx hret hlk (by decide) (by decide) (hb hby d2_130) ⟨congrArg (fun z => some (Value.int z)) (show fx v0 = _ from ((if_pos q4).trans ((if_pos q22).trans ((if_neg q40).trans ((if_neg q48).trans ((if_pos q58).trans ((if_neg q76).trans ((if_neg q84).trans ((if_neg q94).trans ((if_neg q102).trans ((if_neg q113).trans ((if_neg q121).trans rfl)))))))))))).symm, eq0, rfl⟩
                      · refine g_bipush X0 hx (7 : Int32) rfl (hb hby d2_125) 127 rfl ?_
                        exact g_reti X0 hx hret hlk (by decide) (by decide) (hb hby d2_127) ⟨congrArg (fun z => some (Value.int z)) (show fx v0 = _ from ((if_pos q4).trans ((if_pos q22).trans ((if_neg q40).trans ((if_neg q48).trans ((if_pos q58).trans ((if_neg q76).trans ((if_neg q84).trans ((if_neg q94).trans ((if_neg q102).trans ((if_neg q113).trans ((if_pos q121).trans rfl)))))))))))).symm, eq0, rfl⟩
                  · refine g_bipush X0 hx (6 : Int32) rfl (hb hby d2_106) 108 rfl ?_
                    exact g_reti X0 hx hret hlk (by decide) (by decide) (hb hby d2_108) ⟨congrArg (fun z => some (Value.int z)) (show fx v0 = _ from ((if_pos q4).trans ((if_pos q22).trans ((if_neg q40).trans ((if_neg q48).trans ((if_pos q58).trans ((if_neg q76).trans ((if_neg q84).trans ((if_neg q94).trans ((if_pos q102).trans rfl)))))))))).symm, eq0, rfl⟩
              · refine g_iconst X0 hx (5 : Int32) rfl (hb hby d2_88) 89 rfl ?_
                exact g_reti X0 hx hret hlk (by decide) (by decide) (hb hby d2_89) ⟨congrArg (fun z => some (Value.int z)) (show fx v0 = _ from ((if_pos q4).trans ((if_pos q22).trans ((if_neg q40).trans ((if_neg q48).trans ((if_pos q58).trans ((if_neg q76).trans ((if_pos q84).trans rfl)))))))).symm, eq0, rfl⟩
          · refine g_lloadN X0 hx rfl (hb hby d2_62) 63 rfl ?_
            refine g_ldc2_w X0 hx hZ hown (wd hw 25 rfl) (hb hby d2_63) 66 rfl ?_
            refine g_lif_ge X0 hx (hb hby d2_66) 67 rfl (hb hby d2_67) 72 70 (by decide) rfl rfl (fun q66 => ?_) (fun q66 => ?_)
            · refine g_lloadN X0 hx rfl (hb hby d2_72) 73 rfl ?_
              refine g_ldc2_w X0 hx hZ hown (wd hw 17 rfl) (hb hby d2_73) 76 rfl ?_
              refine g_lif_lt X0 hx (hb hby d2_76) 77 rfl (hb hby d2_77) 90 80 (by decide) rfl rfl (fun q76 => ?_) (fun q76 => ?_)
              · refine g_lloadN X0 hx rfl (hb hby d2_90) 91 rfl ?_
                refine g_ldc2_w X0 hx hZ hown (wd hw 20 rfl) (hb hby d2_91) 94 rfl ?_
                refine g_lif_lt X0 hx (hb hby d2_94) 95 rfl (hb hby d2_95) 109 98 (by decide) rfl rfl (fun q94 => ?_) (fun q94 => ?_)
                · refine g_lloadN X0 hx rfl (hb hby d2_109) 110 rfl ?_
                  refine g_ldc2_w X0 hx hZ hown (wd hw 21 rfl) (hb hby d2_110) 113 rfl ?_
                  refine g_lif_lt X0 hx (hb hby d2_113) 114 rfl (hb hby d2_114) 128 117 (by decide) rfl rfl (fun q113 => ?_) (fun q113 => ?_)
                  · refine g_bipush X0 hx (8 : Int32) rfl (hb hby d2_128) 130 rfl ?_
                    exact g_reti X0 hx hret hlk (by decide) (by decide) (hb hby d2_130) ⟨congrArg (fun z => some (Value.int z)) (show fx v0 = _ from ((if_pos q4).trans ((if_pos q22).trans ((if_neg q40).trans ((if_neg q48).trans ((if_neg q58).trans ((if_neg q66).trans ((if_pos q76).trans ((if_pos q94).trans ((if_pos q113).trans rfl)))))))))).symm, eq0, rfl⟩
                  · refine g_lloadN X0 hx rfl (hb hby d2_117) 118 rfl ?_
                    refine g_ldc2_w X0 hx hZ hown (wd hw 22 rfl) (hb hby d2_118) 121 rfl ?_
                    refine g_lif_ge X0 hx (hb hby d2_121) 122 rfl (hb hby d2_122) 128 125 (by decide) rfl rfl (fun q121 => ?_) (fun q121 => ?_)
                    · refine g_bipush X0 hx (8 : Int32) rfl (hb hby d2_128) 130 rfl ?_
                      exact g_reti X0 hx hret hlk (by decide) (by decide) (hb hby d2_130) ⟨congrArg (fun z => some (Value.int z)) (show fx v0 = _ from ((if_pos q4).trans ((if_pos q22).trans ((if_neg q40).trans ((if_neg q48).trans ((if_neg q58).trans ((if_neg q66).trans ((if_pos q76).trans ((if_pos q94).trans ((if_neg q113).trans ((if_neg q121).trans rfl))))))))))).symm, eq0, rfl⟩
                    · refine g_bipush X0 hx (7 : Int32) rfl (hb hby d2_125) 127 rfl ?_
                      exact g_reti X0 hx hret hlk (by decide) (by decide) (hb hby d2_127) ⟨congrArg (fun z => some (Value.int z)) (show fx v0 = _ from ((if_pos q4).trans ((if_pos q22).trans ((if_neg q40).trans ((if_neg q48).trans ((if_neg q58).trans ((if_neg q66).trans ((if_pos q76).trans ((if_pos q94).trans ((if_neg q113).trans ((if_pos q121).trans rfl))))))))))).symm, eq0, rfl⟩
                · refine g_lloadN X0 hx rfl (hb hby d2_98) 99 rfl ?_
                  refine g_ldc2_w X0 hx hZ hown (wd hw 26 rfl) (hb hby d2_99) 102 rfl ?_
                  refine g_lif_ge X0 hx (hb hby d2_102) 103 rfl (hb hby d2_103) 109 106 (by decide) rfl rfl (fun q102 => ?_) (fun q102 => ?_)
                  · refine g_lloadN X0 hx rfl (hb hby d2_109) 110 rfl ?_
                    refine g_ldc2_w X0 hx hZ hown (wd hw 21 rfl) (hb hby d2_110) 113 rfl ?_
                    refine g_lif_lt X0 hx (hb hby d2_113) 114 rfl (hb hby d2_114) 128 117 (by decide) rfl rfl (fun q113 => ?_) (fun q113 => ?_)
                    · refine g_bipush X0 hx (8 : Int32) rfl (hb hby d2_128) 130 rfl ?_
                      exact g_reti X0 hx hret hlk (by decide) (by decide) (hb hby d2_130) ⟨congrArg (fun z => some (Value.int z)) (show fx v0 = _ from ((if_pos q4).trans ((if_pos q22).trans ((if_neg q40).trans ((if_neg q48).trans ((if_neg q58).trans ((if_neg q66).trans ((if_pos q76).trans ((if_neg q94).trans ((if_neg q102).trans ((if_pos q113).trans rfl))))))))))).symm, eq0, rfl⟩
                    · refine g_lloadN X0 hx rfl (hb hby d2_117) 118 rfl ?_
                      refine g_ldc2_w X0 hx hZ hown (wd hw 22 rfl) (hb hby d2_118) 121 rfl ?_
                      refine g_lif_ge X0 hx (hb hby d2_121) 122 rfl (hb hby d2_122) 128 125 (by decide) rfl rfl (fun q121 => ?_) (fun q121 => ?_)
                      · refine g_bipush X0 hx (8 : Int32) rfl (hb hby d2_128) 130 rfl ?_
                        exact g_reti X0 hx hret hlk (by decide) (by decide) (hb hby d2_130) ⟨congrArg (fun z => some (Value.int z)) (show fx v0 = _ from ((if_pos q4).trans ((if_pos q22).trans ((if_neg q40).trans ((if_neg q48).trans ((if_neg q58).trans ((if_neg q66).trans ((if_pos q76).trans ((if_neg q94).trans ((if_neg q102).trans ((if_neg q113).trans ((if_neg q121).trans rfl)))))))))))).symm, eq0, rfl⟩
                      · refine g_bipush X0 hx (7 : Int32) rfl (hb hby d2_125) 127 rfl ?_
                        exact g_reti X0 hx hret hlk (by decide) (by decide) (hb hby d2_127) ⟨congrArg (fun z => some (Value.int z)) (show fx v0 = _ from ((if_pos q4).trans ((if_pos q22).trans ((if_neg q40).trans ((if_neg q48).trans ((if_neg q58).trans ((if_neg q66).trans ((if_pos q76).trans ((if_neg q94).trans ((if_neg q102).trans ((if_neg q113).trans ((if_pos q121).trans rfl)))))))))))).symm, eq0, rfl⟩
                  · refine g_bipush X0 hx (6 : Int32) rfl (hb hby d2_106) 108 rfl ?_
                    exact g_reti X0 hx hret hlk (by decide) (by decide) (hb hby d2_108) ⟨congrArg (fun z => some (Value.int z)) (show fx v0 = _ from ((if_pos q4).trans ((if_pos q22).trans ((if_neg q40).trans ((if_neg q48).trans ((if_neg q58).trans ((if_neg q66).trans ((if_pos q76).trans ((if_neg q94).trans ((if_pos q102).trans rfl)))))))))).symm, eq0, rfl⟩
              · refine g_lloadN X0 hx rfl (hb hby d2_80) 81 rfl ?_
                refine g_ldc2_w X0 hx hZ hown (wd hw 18 rfl) (hb hby d2_81) 84 rfl ?_
                refine g_lif_ge X0 hx (hb hby d2_84) 85 rfl (hb hby d2_85) 90 88 (by decide) rfl rfl (fun q84 => ?_) (fun q84 => ?_)
                · refine g_lloadN X0 hx rfl (hb hby d2_90) 91 rfl ?_
                  refine g_ldc2_w X0 hx hZ hown (wd hw 20 rfl) (hb hby d2_91) 94 rfl ?_
                  refine g_lif_lt X0 hx (hb hby d2_94) 95 rfl (hb hby d2_95) 109 98 (by decide) rfl rfl (fun q94 => ?_) (fun q94 => ?_)
                  · refine g_lloadN X0 hx rfl (hb hby d2_109) 110 rfl ?_
                    refine g_ldc2_w X0 hx hZ hown (wd hw 21 rfl) (hb hby d2_110) 113 rfl ?_
                    refine g_lif_lt X0 hx (hb hby d2_113) 114 rfl (hb hby d2_114) 128 117 (by decide) rfl rfl (fun q113 => ?_) (fun q113 => ?_)
                    · refine g_bipush X0 hx (8 : Int32) rfl (hb hby d2_128) 130 rfl ?_
                      exact g_reti X0 hx hret hlk (by decide) (by decide) (hb hby d2_130) ⟨congrArg (fun z => some (Value.int z)) (show fx v0 = _ from ((if_pos q4).trans ((if_pos q22).trans ((if_neg q40).trans ((if_neg q48).trans ((if_neg q58).trans ((if_neg q66).trans ((if_neg q76).trans ((if_neg q84).trans ((if_pos q94).trans ((if_pos q113).trans rfl))))))))))).symm, eq0, rfl⟩
                    · refine g_lloadN X0 hx rfl (hb hby d2_117) 118 rfl ?_
                      refine g_ldc2_w X0 hx hZ hown (wd hw 22 rfl) (hb hby d2_118) 121 rfl ?_
                      refine g_lif_ge X0 hx (hb hby d2_121) 122 rfl (hb hby d2_122) 128 125 (by decide) rfl rfl (fun q121 => ?_) (fun q121 => ?_)
                      · refine g_bipush X0 hx (8 : Int32) rfl (hb hby d2_128) 130 rfl ?_
                        exact g_reti X0 hx hret hlk (by decide) (by decide) (hb hby d2_130) ⟨congrArg (fun z => some (Value.int z)) (show fx v0 = _ from ((if_pos q4).trans ((if_pos q22).trans ((if_neg q40).trans ((if_neg q48).trans ((if_neg q58).trans ((if_neg q66).trans ((if_neg q76).trans ((if_neg q84).trans ((if_pos q94).trans ((if_neg q113).trans ((if_neg q121).trans rfl)))))))))))).symm, eq0, rfl⟩
                      · refine g_bipush X0 hx (7 : Int32) rfl (hb hby d2_125) 127 rfl ?_
                        exact g_reti X0 hx hret hlk (by decide) (by decide) (hb hby d2_127) ⟨congrArg (fun z => some (Value.int z)) (show fx v0 = _ from ((if_pos q4).trans ((if_pos q22).trans ((if_neg q40).trans ((if_neg q48).trans ((if_neg q58).trans ((if_neg q66).trans ((if_neg q76).trans ((if_neg q84).trans ((if_pos q94).trans ((if_neg q113).trans ((if_pos q121).trans rfl)))))))))))).symm, eq0, rfl⟩
                  · refine g_lloadN X0 hx rfl (hb hby d2_98) 99 rfl ?_
                    refine g_ldc2_w X0 hx hZ hown (wd hw 26 rfl) (hb hby d2_99) 102 rfl ?_
                    refine g_lif_ge X0 hx (hb hby d2_102) 103 rfl (hb hby d2_103) 109 106 (by decide) rfl rfl (fun q102 => ?_) (fun q102 => ?_)
                    · refine g_lloadN X0 hx rfl (hb hby d2_109) 110 rfl ?_
                      refine g_ldc2_w X0 hx hZ hown (wd hw 21 rfl) (hb hby d2_110) 113 rfl ?_
                      refine g_lif_lt X0 hx (hb hby d2_113) 114 rfl (hb hby d2_114) 128 117 (by decide) rfl rfl (fun q113 => ?_) (fun q113 => ?_)
                      · refine g_bipush X0 hx (8 : Int32) rfl (hb hby d2_128) 130 rfl ?_
                        exact g_reti X0 hx hret hlk (by decide) (by decide) (hb hby d2_130) ⟨congrArg (fun z => some (Value.int z)) (show fx v0 = _ from ((if_pos q4).trans ((if_pos q22).trans ((if_neg q40).trans ((if_neg q48).trans ((if_neg q58).trans ((if_neg q66).trans ((if_neg q76).trans ((if_neg q84).trans ((if_neg q94).trans ((if_neg q102).trans ((if_pos q113).trans rfl)))))))))))).symm, eq0, rfl⟩
                      · refine g_lloadN X0 hx rfl (hb hby d2_117) 118 rfl ?_
                        refine g_ldc2_w X0 hx hZ hown (wd hw 22 rfl) (hb hby d2_118) 121 rfl ?_
                        refine g_lif_ge X0 hx (hb hby d2_121) 122 rfl (hb hby d2_122) 128 125 (by decide) rfl rfl (fun q121 => ?_) (fun q121 => ?_)
                        · refine g_bipush X0 hx (8 : Int32) rfl (hb hby d2_128) 130 rfl ?_
                          exact g_reti X0 hx hret hlk (by decide) (by decide) (hb hby d2_130) ⟨congrArg (fun z => some (Value.int z)) (show fx v0 = _ from ((if_pos q4).trans ((if_pos q22).trans ((if_neg q40).trans ((if_neg q48).trans ((if_neg q58).trans ((if_neg q66).trans ((if_neg q76).trans ((if_neg q84).trans ((if_neg q94).trans ((if_neg q102).trans ((if_neg q113).trans ((if_neg q121).trans rfl))))))))))))).symm, eq0, rfl⟩
                        · refine g_bipush X0 hx (7 : Int32) rfl (hb hby d2_125) 127 rfl ?_
                          exact g_reti X0 hx hret hlk (by decide) (by decide) (hb hby d2_127) ⟨congrArg (fun z => some (Value.int z)) (show fx v0 = _ from ((if_pos q4).trans ((if_pos q22).trans ((if_neg q40).trans ((if_neg q48).trans ((if_neg q58).trans ((if_neg q66).trans ((if_neg q76).trans ((if_neg q84).trans ((if_neg q94).trans ((if_neg q102).trans ((if_neg q113).trans ((if_pos q121).trans rfl))))))))))))).symm, eq0, rfl⟩
                    · refine g_bipush X0 hx (6 : Int32) rfl (hb hby d2_106) 108 rfl ?_
                      exact g_reti X0 hx hret hlk (by decide) (by decide) (hb hby d2_108) ⟨congrArg (fun z => some (Value.int z)) (show fx v0 = _ from ((if_pos q4).trans ((if_pos q22).trans ((if_neg q40).trans ((if_neg q48).trans ((if_neg q58).trans ((if_neg q66).trans ((if_neg q76).trans ((if_neg q84).trans ((if_neg q94).trans ((if_pos q102).trans rfl))))))))))).symm, eq0, rfl⟩
                · refine g_iconst X0 hx (5 : Int32) rfl (hb hby d2_88) 89 rfl ?_
                  exact g_reti X0 hx hret hlk (by decide) (by decide) (hb hby d2_89) ⟨congrArg (fun z => some (Value.int z)) (show fx v0 = _ from ((if_pos q4).trans ((if_pos q22).trans ((if_neg q40).trans ((if_neg q48).trans ((if_neg q58).trans ((if_neg q66).trans ((if_neg q76).trans ((if_pos q84).trans rfl))))))))).symm, eq0, rfl⟩
            · refine g_iconst X0 hx (4 : Int32) rfl (hb hby d2_70) 71 rfl ?_
              exact g_reti X0 hx hret hlk (by decide) (by decide) (hb hby d2_71) ⟨congrArg (fun z => some (Value.int z)) (show fx v0 = _ from ((if_pos q4).trans ((if_pos q22).trans ((if_neg q40).trans ((if_neg q48).trans ((if_neg q58).trans ((if_pos q66).trans rfl))))))).symm, eq0, rfl⟩
        · refine g_iconst X0 hx (3 : Int32) rfl (hb hby d2_52) 53 rfl ?_
          exact g_reti X0 hx hret hlk (by decide) (by decide) (hb hby d2_53) ⟨congrArg (fun z => some (Value.int z)) (show fx v0 = _ from ((if_pos q4).trans ((if_pos q22).trans ((if_neg q40).trans ((if_pos q48).trans rfl))))).symm, eq0, rfl⟩
    · refine g_lloadN X0 hx rfl (hb hby d2_26) 27 rfl ?_
      refine g_ldc2_w X0 hx hZ hown (wd hw 23 rfl) (hb hby d2_27) 30 rfl ?_
      refine g_lif_ge X0 hx (hb hby d2_30) 31 rfl (hb hby d2_31) 36 34 (by decide) rfl rfl (fun q30 => ?_) (fun q30 => ?_)
      · refine g_lloadN X0 hx rfl (hb hby d2_36) 37 rfl ?_
        refine g_ldc2_w X0 hx hZ hown (wd hw 15 rfl) (hb hby d2_37) 40 rfl ?_
        refine g_lif_lt X0 hx (hb hby d2_40) 41 rfl (hb hby d2_41) 54 44 (by decide) rfl rfl (fun q40 => ?_) (fun q40 => ?_)
        · refine g_lloadN X0 hx rfl (hb hby d2_54) 55 rfl ?_
          refine g_ldc2_w X0 hx hZ hown (wd hw 16 rfl) (hb hby d2_55) 58 rfl ?_
          refine g_lif_lt X0 hx (hb hby d2_58) 59 rfl (hb hby d2_59) 72 62 (by decide) rfl rfl (fun q58 => ?_) (fun q58 => ?_)
          · refine g_lloadN X0 hx rfl (hb hby d2_72) 73 rfl ?_
            refine g_ldc2_w X0 hx hZ hown (wd hw 17 rfl) (hb hby d2_73) 76 rfl ?_
            refine g_lif_lt X0 hx (hb hby d2_76) 77 rfl (hb hby d2_77) 90 80 (by decide) rfl rfl (fun q76 => ?_) (fun q76 => ?_)
            · refine g_lloadN X0 hx rfl (hb hby d2_90) 91 rfl ?_
              refine g_ldc2_w X0 hx hZ hown (wd hw 20 rfl) (hb hby d2_91) 94 rfl ?_
              refine g_lif_lt X0 hx (hb hby d2_94) 95 rfl (hb hby d2_95) 109 98 (by decide) rfl rfl (fun q94 => ?_) (fun q94 => ?_)
              · refine g_lloadN X0 hx rfl (hb hby d2_109) 110 rfl ?_
                refine g_ldc2_w X0 hx hZ hown (wd hw 21 rfl) (hb hby d2_110) 113 rfl ?_
                refine g_lif_lt X0 hx (hb hby d2_113) 114 rfl (hb hby d2_114) 128 117 (by decide) rfl rfl (fun q113 => ?_) (fun q113 => ?_)
                · refine g_bipush X0 hx (8 : Int32) rfl (hb hby d2_128) 130 rfl ?_
                  exact g_reti X0 hx hret hlk (by decide) (by decide) (hb hby d2_130) ⟨congrArg (fun z => some (Value.int z)) (show fx v0 = _ from ((if_pos q4).trans ((if_neg q22).trans ((if_neg q30).trans ((if_pos q40).trans ((if_pos q58).trans ((if_pos q76).trans ((if_pos q94).trans ((if_pos q113).trans rfl))))))))).symm, eq0, rfl⟩
                · refine g_lloadN X0 hx rfl (hb hby d2_117) 118 rfl ?_
                  refine g_ldc2_w X0 hx hZ hown (wd hw 22 rfl) (hb hby d2_118) 121 rfl ?_
                  refine g_lif_ge X0 hx (hb hby d2_121) 122 rfl (hb hby d2_122) 128 125 (by decide) rfl rfl (fun q121 => ?_) (fun q121 => ?_)
                  · refine g_bipush X0 hx (8 : Int32) rfl (hb hby d2_128) 130 rfl ?_
                    exact g_reti X0 hx hret hlk (by decide) (by decide) (hb hby d2_130) ⟨congrArg (fun z => some (Value.int z)) (show fx v0 = _ from ((if_pos q4).trans ((if_neg q22).trans ((if_neg q30).trans ((if_pos q40).trans ((if_pos q58).trans ((if_pos q76).trans ((if_pos q94).trans ((if_neg q113).trans ((if_neg q121).trans rfl)))))))))).symm, eq0, rfl⟩
                  · refine g_bipush X0 hx (7 : Int32) rfl (hb hby d2_125) 127 rfl ?_
                    exact g_reti X0 hx hret hlk (by decide) (by decide) (hb hby d2_127) ⟨congrArg (fun z => some (Value.int z)) (show fx v0 = _ from ((if_pos q4).trans ((if_neg q22).trans ((if_neg q30).trans ((if_pos q40).trans ((if_pos q58).trans ((if_pos q76).trans ((if_pos q94).trans ((if_neg q113).trans ((if_pos q121).trans rfl)))))))))).symm, eq0, rfl⟩
              · refine g_lloadN X0 hx rfl (hb hby d2_98) 99 rfl ?_
                refine g_ldc2_w X0 hx hZ hown (wd hw 26 rfl) (hb hby d2_99) 102 rfl ?_
                refine g_lif_ge X0 hx (hb hby d2_102) 103 rfl (hb hby d2_103) 109 106 (by decide) rfl rfl (fun q102 => ?_) (fun q102 => ?_)
                · refine g_lloadN X0 hx rfl (hb hby d2_109) 110 rfl ?_
                  refine g_ldc2_w X0 hx hZ hown (wd hw 21 rfl) (hb hby d2_110) 113 rfl ?_
                  refine g_lif_lt X0 hx (hb hby d2_113) 114 rfl (hb hby d2_114) 128 117 (by decide) rfl rfl (fun q113 => ?_) (fun q113 => ?_)
                  · refine g_bipush X0 hx (8 : Int32) rfl (hb hby d2_128) 130 rfl ?_
                    exact g_reti X0 hx hret hlk (by decide) (by decide) (hb hby d2_130) ⟨congrArg (fun z => some (Value.int z)) (show fx v0 = _ from ((if_pos q4).trans ((if_neg q22).trans ((if_neg q30).trans ((if_pos q40).trans ((if_pos q58).trans ((if_pos q76).trans ((if_neg q94).trans ((if_neg q102).trans ((if_pos q113).trans rfl)))))))))).symm, eq0, rfl⟩
                  · refine g_lloadN X0 hx rfl (hb hby d2_117) 118 rfl ?_
                    refine g_ldc2_w X0 hx hZ hown (wd hw 22 rfl) (hb hby d2_118) 121 rfl ?_
                    refine g_lif_ge X0 hx (hb hby d2_121) 122 rfl (hb hby d2_122) 128 125 (by decide) rfl rfl (fun q121 => ?_) (fun q121 => ?_)
                    · refine g_bipush X0 hx (8 : Int32) rfl (hb hby d2_128) 130 rfl ?_
                      exact g_reti X0 hx hret hlk (by decide) (by decide) (hb hby d2_130) ⟨congrArg (fun z => some (Value.int z)) (show fx v0 = _ from ((if_pos q4).trans ((if_neg q22).trans ((if_neg q30).trans ((if_pos q40).trans ((if_pos q58).trans ((if_pos q76).trans ((if_neg q94).trans ((if_neg q102).trans ((if_neg q113).trans ((if_neg q121).trans rfl))))))))))).symm, eq0, rfl⟩
                    · refine g_bipush X0 hx (7 : Int32) rfl (hb hby d2_125) 127 rfl ?_
                      exact g_reti X0 hx hret hlk (by decide) (by decide) (hb hby d2_127) ⟨congrArg (fun z => some (Value.int z)) (show fx v0 = _ from ((if_pos q4).trans ((if_neg q22).trans ((if_neg q30).trans ((if_pos q40).trans ((if_pos q58).trans ((if_pos q76).trans ((if_neg q94).trans ((if_neg q102).trans ((if_neg q113).trans ((if_pos q121).trans rfl))))))))))).symm, eq0, rfl⟩
                · refine g_bipush X0 hx (6 : Int32) rfl (hb hby d2_106) 108 rfl ?_
                  exact g_reti X0 hx hret hlk (by decide) (by decide) (hb hby d2_108) ⟨congrArg (fun z => some (Value.int z)) (show fx v0 = _ from ((if_pos q4).trans ((if_neg q22).trans ((if_neg q30).trans ((if_pos q40).trans ((if_pos q58).trans ((if_pos q76).trans ((if_neg q94).trans ((if_pos q102).trans rfl))))))))).symm, eq0, rfl⟩
            · refine g_lloadN X0 hx rfl (hb hby d2_80) 81 rfl ?_
              refine g_ldc2_w X0 hx hZ hown (wd hw 18 rfl) (hb hby d2_81) 84 rfl ?_
              refine g_lif_ge X0 hx (hb hby d2_84) 85 rfl (hb hby d2_85) 90 88 (by decide) rfl rfl (fun q84 => ?_) (fun q84 => ?_)
              · refine g_lloadN X0 hx rfl (hb hby d2_90) 91 rfl ?_
                refine g_ldc2_w X0 hx hZ hown (wd hw 20 rfl) (hb hby d2_91) 94 rfl ?_
                refine g_lif_lt X0 hx (hb hby d2_94) 95 rfl (hb hby d2_95) 109 98 (by decide) rfl rfl (fun q94 => ?_) (fun q94 => ?_)
                · refine g_lloadN X0 hx rfl (hb hby d2_109) 110 rfl ?_
                  refine g_ldc2_w X0 hx hZ hown (wd hw 21 rfl) (hb hby d2_110) 113 rfl ?_
                  refine g_lif_lt X0 hx (hb hby d2_113) 114 rfl (hb hby d2_114) 128 117 (by decide) rfl rfl (fun q113 => ?_) (fun q113 => ?_)
                  · refine g_bipush X0 hx (8 : Int32) rfl (hb hby d2_128) 130 rfl ?_
                    exact g_reti X0 hx hret hlk (by decide) (by decide) (hb hby d2_130) ⟨congrArg (fun z => some (Value.int z)) (show fx v0 = _ from ((if_pos q4).trans ((if_neg q22).trans ((if_neg q30).trans ((if_pos q40).trans ((if_pos q58).trans ((if_neg q76).trans ((if_neg q84).trans ((if_pos q94).trans ((if_pos q113).trans rfl)))))))))).symm, eq0, rfl⟩
                  · refine g_lloadN X0 hx rfl (hb hby d2_117) 118 rfl ?_
                    refine g_ldc2_w X0 hx hZ hown (wd hw 22 rfl) (hb hby d2_118) 121 rfl ?_
                    refine g_lif_ge X0 hx (hb hby d2_121) 122 rfl (hb hby d2_122) 128 125 (by decide) rfl rfl (fun q121 => ?_) (fun q121 => ?_)
                    · refine g_bipush X0 hx (8 : Int32) rfl (hb hby d2_128) 130 rfl ?_
                      exact g_reti X0 hx hret hlk (by decide) (by decide) (hb hby d2_130) ⟨congrArg (fun z => some (Value.int z)) (show fx v0 = _ from ((if_pos q4).trans ((if_neg q22).trans ((if_neg q30).trans ((if_pos q40).trans ((if_pos q58).trans ((if_neg q76).trans ((if_neg q84).trans ((if_pos q94).trans ((if_neg q113).trans ((if_neg q121).trans rfl))))))))))).symm, eq0, rfl⟩
                    · refine g_bipush X0 hx (7 : Int32) rfl (hb hby d2_125) 127 rfl ?_
                      exact g_reti X0 hx hret hlk (by decide) (by decide) (hb hby d2_127) ⟨congrArg (fun z => some (Value.int z)) (show fx v0 = _ from ((if_pos q4).trans ((if_neg q22).trans ((if_neg q30).trans ((if_pos q40).trans ((if_pos q58).trans ((if_neg q76).trans ((if_neg q84).trans ((if_pos q94).trans ((if_neg q113).trans ((if_pos q121).trans rfl))))))))))).symm, eq0, rfl⟩
                · refine g_lloadN X0 hx rfl (hb hby d2_98) 99 rfl ?_
                  refine g_ldc2_w X0 hx hZ hown (wd hw 26 rfl) (hb hby d2_99) 102 rfl ?_
                  refine g_lif_ge X0 hx (hb hby d2_102) 103 rfl (hb hby d2_103) 109 106 (by decide) rfl rfl (fun q102 => ?_) (fun q102 => ?_)
                  · refine g_lloadN X0 hx rfl (hb hby d2_109) 110 rfl ?_
                    refine g_ldc2_w X0 hx hZ hown (wd hw 21 rfl) (hb hby d2_110) 113 rfl ?_
                    refine g_lif_lt X0 hx (hb hby d2_113) 114 rfl (hb hby d2_114) 128 117 (by decide) rfl rfl (fun q113 => ?_) (fun q113 => ?_)
                    · refine g_bipush X0 hx (8 : Int32) rfl (hb hby d2_128) 130 rfl ?_
                      exact g_reti X0 hx hret hlk (by decide) (by decide) (hb hby d2_130) ⟨congrArg (fun z => some (Value.int z)) (show fx v0 = _ from ((if_pos q4).trans ((if_neg q22).trans ((if_neg q30).trans ((if_pos q40).trans ((if_pos q58).trans ((if_neg q76).trans ((if_neg q84).trans ((if_neg q94).trans ((if_neg q102).trans ((if_pos q113).trans rfl))))))))))).symm, eq0, rfl⟩
                    · refine g_lloadN X0 hx rfl (hb hby d2_117) 118 rfl ?_
                      refine g_ldc2_w X0 hx hZ hown (wd hw 22 rfl) (hb hby d2_118) 121 rfl ?_
                      refine g_lif_ge X0 hx (hb hby d2_121) 122 rfl (hb hby d2_122) 128 125 (by decide) rfl rfl (fun q121 => ?_) (fun q121 => ?_)
                      · refine g_bipush X0 hx (8 : Int32) rfl (hb hby d2_128) 130 rfl ?_
                        exact g_reti X0 hx hret hlk (by decide) (by decide) (hb hby d2_130) ⟨congrArg (fun z => some (Value.int z)) (show fx v0 = _ from ((if_pos q4).trans ((if_neg q22).trans ((if_neg q30).trans ((if_pos q40).trans ((if_pos q58).trans ((if_neg q76).trans ((if_neg q84).trans ((if_neg q94).trans ((if_neg q102).trans ((if_neg q113).trans ((if_neg q121).trans rfl)))))))))))).symm, eq0, rfl⟩
                      · refine g_bipush X0 hx (7 : Int32) rfl (hb hby d2_125) 127 rfl ?_
                        exact g_reti X0 hx hret hlk (by decide) (by decide) (hb hby d2_127) ⟨congrArg (fun z => some (Value.int z)) (show fx v0 = _ from ((if_pos q4).trans ((if_neg q22).trans ((if_neg q30).trans ((if_pos q40).trans ((if_pos q58).trans ((if_neg q76).trans ((if_neg q84).trans ((if_neg q94).trans ((if_neg q102).trans ((if_neg q113).trans ((if_pos q121).trans rfl)))))))))))).symm, eq0, rfl⟩
                  · refine g_bipush X0 hx (6 : Int32) rfl (hb hby d2_106) 108 rfl ?_
                    exact g_reti X0 hx hret hlk (by decide) (by decide) (hb hby d2_108) ⟨congrArg (fun z => some (Value.int z)) (show fx v0 = _ from ((if_pos q4).trans ((if_neg q22).trans ((if_neg q30).trans ((if_pos q40).trans ((if_pos q58).trans ((if_neg q76).trans ((if_neg q84).trans ((if_neg q94).trans ((if_pos q102).trans rfl)))))))))).symm, eq0, rfl⟩
              · refine g_iconst X0 hx (5 : Int32) rfl (hb hby d2_88) 89 rfl ?_
                exact g_reti X0 hx hret hlk (by decide) (by decide) (hb hby d2_89) ⟨congrArg (fun z => some (Value.int z)) (show fx v0 = _ from ((if_pos q4).trans ((if_neg q22).trans ((if_neg q30).trans ((if_pos q40).trans ((if_pos q58).trans ((if_neg q76).trans ((if_pos q84).trans rfl)))))))).symm, eq0, rfl⟩
          · refine g_lloadN X0 hx rfl (hb hby d2_62) 63 rfl ?_
            refine g_ldc2_w X0 hx hZ hown (wd hw 25 rfl) (hb hby d2_63) 66 rfl ?_
            refine g_lif_ge X0 hx (hb hby d2_66) 67 rfl (hb hby d2_67) 72 70 (by decide) rfl rfl (fun q66 => ?_) (fun q66 => ?_)
            · refine g_lloadN X0 hx rfl (hb hby d2_72) 73 rfl ?_
              refine g_ldc2_w X0 hx hZ hown (wd hw 17 rfl) (hb hby d2_73) 76 rfl ?_
              refine g_lif_lt X0 hx (hb hby d2_76) 77 rfl (hb hby d2_77) 90 80 (by decide) rfl rfl (fun q76 => ?_) (fun q76 => ?_)
              · refine g_lloadN X0 hx rfl (hb hby d2_90) 91 rfl ?_
                refine g_ldc2_w X0 hx hZ hown (wd hw 20 rfl) (hb hby d2_91) 94 rfl ?_
                refine g_lif_lt X0 hx (hb hby d2_94) 95 rfl (hb hby d2_95) 109 98 (by decide) rfl rfl (fun q94 => ?_) (fun q94 => ?_)
                · refine g_lloadN X0 hx rfl (hb hby d2_109) 110 rfl ?_
                  refine g_ldc2_w X0 hx hZ hown (wd hw 21 rfl) (hb hby d2_110) 113 rfl ?_
                  refine g_lif_lt X0 hx (hb hby d2_113) 114 rfl (hb hby d2_114) 128 117 (by decide) rfl rfl (fun q113 => ?_) (fun q113 => ?_)
                  · refine g_bipush X0 hx (8 : Int32) rfl (hb hby d2_128) 130 rfl ?_
                    exact g_reti X0 hx hret hlk (by decide) (by decide) (hb hby d2_130) ⟨congrArg (fun z => some (Value.int z)) (show fx v0 = _ from ((if_pos q4).trans ((if_neg q22).trans ((if_neg q30).trans ((if_pos q40).trans ((if_neg q58).trans ((if_neg q66).trans ((if_pos q76).trans ((if_pos q94).trans ((if_pos q113).trans rfl)))))))))).symm, eq0, rfl⟩
                  · refine g_lloadN X0 hx rfl (hb hby d2_117) 118 rfl ?_
                    refine g_ldc2_w X0 hx hZ hown (wd hw 22 rfl) (hb hby d2_118) 121 rfl ?_
                    refine g_lif_ge X0 hx (hb hby d2_121) 122 rfl (hb hby d2_122) 128 125 (by decide) rfl rfl (fun q121 => ?_) (fun q121 => ?_)
                    · refine g_bipush X0 hx (8 : Int32) rfl (hb hby d2_128) 130 rfl ?_
                      exact g_reti X0 hx hret hlk (by decide) (by decide) (hb hby d2_130) ⟨congrArg (fun z => some (Value.int z)) (show fx v0 = _ from ((if_pos q4).trans ((if_neg q22).trans ((if_neg q30).trans ((if_pos q40).trans ((if_neg q58).trans ((if_neg q66).trans ((if_pos q76).trans ((if_pos q94).trans ((if_neg q113).trans ((if_neg q121).trans rfl))))))))))).symm, eq0, rfl⟩
                    · refine g_bipush X0 hx (7 : Int32) rfl (hb hby d2_125) 127 rfl ?_
                      exact g_reti X0 hx hret hlk (by decide) (by decide) (hb hby d2_127) ⟨congrArg (fun z => some (Value.int z)) (show fx v0 = _ from ((if_pos q4).trans ((if_neg q22).trans ((if_neg q30).trans ((if_pos q40).trans ((if_neg q58).trans ((if_neg q66).trans ((if_pos q76).trans ((if_pos q94).trans ((if_neg q113).trans ((if_pos q121).trans rfl))))))))))).symm, eq0, rfl⟩
                · refine g_lloadN X0 hx rfl (hb hby d2_98) 99 rfl ?_
                  refine g_ldc2_w X0 hx hZ hown (wd hw 26 rfl) (hb hby d2_99) 102 rfl ?_
                  refine g_lif_ge X0 hx (hb hby d2_102) 103 rfl (hb hby d2_103) 109 106 (by decide) rfl rfl (fun q102 => ?_) (fun q102 => ?_)
                  · refine g_lloadN X0 hx rfl (hb hby d2_109) 110 rfl ?_
                    refine g_ldc2_w X0 hx hZ hown (wd hw 21 rfl) (hb hby d2_110) 113 rfl ?_
                    refine g_lif_lt X0 hx (hb hby d2_113) 114 rfl (hb hby d2_114) 128 117 (by decide) rfl rfl (fun q113 => ?_) (fun q113 => ?_)
                    · refine g_bipush X0 hx (8 : Int32) rfl (hb hby d2_128) 130 rfl ?_
                      exact g_reti X0 hx hret hlk (by decide) (by decide) (hb hby d2_130) ⟨congrArg (fun z => some (Value.int z)) (show fx v0 = _ from ((if_pos q4).trans ((if_neg q22).trans ((if_neg q30).trans ((if_pos q40).trans ((if_neg q58).trans ((if_neg q66).trans ((if_pos q76).trans ((if_neg q94).trans ((if_neg q102).trans ((if_pos q113).trans rfl))))))))))).symm, eq0, rfl⟩
                    · refine g_lloadN X0 hx rfl (hb hby d2_117) 118 rfl ?_
                      refine g_ldc2_w X0 hx hZ hown (wd hw 22 rfl) (hb hby d2_118) 121 rfl ?_
                      refine g_lif_ge X0 hx (hb hby d2_121) 122 rfl (hb hby d2_122) 128 125 (by decide) rfl rfl (fun q121 => ?_) (fun q121 => ?_)
                      · refine g_bipush X0 hx (8 : Int32) rfl (hb hby d2_128) 130 rfl ?_
                        exact g_reti X0 hx hret hlk (by decide) (by decide) (hb hby d2_130) ⟨congrArg (fun z => some (Value.int z)) (show fx v0 = _ from ((if_pos q4).trans ((if_neg q22).trans ((if_neg q30).trans ((if_pos q40).trans ((if_neg q58).trans ((if_neg q66).trans ((if_pos q76).trans ((if_neg q94).trans ((if_neg q102).trans ((if_neg q113).trans ((if_neg q121).trans rfl)))))))))))).symm, eq0, rfl⟩
                      · refine g_bipush X0 hx (7 : Int32) rfl (hb hby d2_125) 127 rfl ?_
                        exact g_reti X0 hx hret hlk (by decide) (by decide) (hb hby d2_127) ⟨congrArg (fun z => some (Value.int z)) (show fx v0 = _ from ((if_pos q4).trans ((if_neg q22).trans ((if_neg q30).trans ((if_pos q40).trans ((if_neg q58).trans ((if_neg q66).trans ((if_pos q76).trans ((if_neg q94).trans ((if_neg q102).trans ((if_neg q113).trans ((if_pos q121).trans rfl)))))))))))).symm, eq0, rfl⟩
                  · refine g_bipush X0 hx (6 : Int32) rfl (hb hby d2_106) 108 rfl ?_
                    exact g_reti X0 hx hret hlk (by decide) (by decide) (hb hby d2_108) ⟨congrArg (fun z => some (Value.int z)) (show fx v0 = _ from ((if_pos q4).trans ((if_neg q22).trans ((if_neg q30).trans ((if_pos q40).trans ((if_neg q58).trans ((if_neg q66).trans ((if_pos q76).trans ((if_neg q94).trans ((if_pos q102).trans rfl)))))))))).symm, eq0, rfl⟩
              · refine g_lloadN X0 hx rfl (hb hby d2_80) 81 rfl ?_
                refine g_ldc2_w X0 hx hZ hown (wd hw 18 rfl) (hb hby d2_81) 84 rfl ?_
                refine g_lif_ge X0 hx (hb hby d2_84) 85 rfl (hb hby d2_85) 90 88 (by decide) rfl rfl (fun q84 => ?_) (fun q84 => ?_)
                · refine g_lloadN X0 hx rfl (hb hby d2_90) 91 rfl ?_
                  refine g_ldc2_w X0 hx hZ hown (wd hw 20 rfl) (hb hby d2_91) 94 rfl ?_
                  refine g_lif_lt X0 hx (hb hby d2_94) 95 rfl (hb hby d2_95) 109 98 (by decide) rfl rfl (fun q94 => ?_) (fun q94 => ?_)
                  · refine g_lloadN X0 hx rfl (hb hby d2_109) 110 rfl ?_
                    refine g_ldc2_w X0 hx hZ hown (wd hw 21 rfl) (hb hby d2_110) 113 rfl ?_
                    refine g_lif_lt X0 hx (hb hby d2_113) 114 rfl (hb hby d2_114) 128 117 (by decide) rfl rfl (fun q113 => ?_) (fun q113 => ?_)
                    · refine g_bipush X0 hx (8 : Int32) rfl (hb hby d2_128) 130 rfl ?_
                      exact g_reti X0 hx hret hlk (by decide) (by decide) (hb hby d2_130) ⟨congrArg (fun z => some (Value.int z)) (show fx v0 = _ from ((if_pos q4).trans ((if_neg q22).trans ((if_neg q30).trans ((if_pos q40).trans ((if_neg q58).trans ((if_neg q66).trans ((if_neg q76).trans ((if_neg q84).trans ((if_pos q94).trans ((if_pos q113).trans rfl))))))))))).symm, eq0, rfl⟩
                    · refine g_lloadN X0 hx rfl (hb hby d2_117) 118 rfl ?_
                      refine g_ldc2_w X0 hx hZ hown (wd hw 22 rfl) (hb hby d2_118) 121 rfl ?_
                      refine g_lif_ge X0 hx (hb hby d2_121) 122 rfl (hb hby d2_122) 128 125 (by decide) rfl rfl (fun q121 => ?_) (fun q121 => ?_)
                      · refine g_bipush X0 hx (8 : Int32) rfl (hb hby d2_128) 130 rfl ?_
                        exact g_reti X0 hx hret hlk (by decide) (by decide) (hb hby d2_130) ⟨congrArg (fun z => some (Value.int z)) (show fx v0 = _ from ((if_pos q4).trans ((if_neg q22).trans ((if_neg q30).trans ((if_pos q40).trans ((if_neg q58).trans ((if_neg q66).trans ((if_neg q76).trans ((if_neg q84).trans ((if_pos q94).trans ((if_neg q113).trans ((if_neg q121).trans rfl)))))))))))).symm, eq0, rfl⟩
                      · refine g_bipush X0 hx (7 : Int32) rfl (hb hby d2_125) 127 rfl ?_
                        exact g_reti X0 hx hret hlk (by decide) (by decide) (hb hby d2_127) ⟨congrArg (fun z => some (Value.int z)) (show fx v0 = _ from ((if_pos q4).trans ((if_neg q22).trans ((if_neg q30).trans ((if_pos q40).trans ((if_neg q58).trans ((if_neg q66).trans ((if_neg q76).trans ((if_neg q84).trans ((if_pos q94).trans ((if_neg q113).trans ((if_pos q121).trans rfl)))))))))))).symm, eq0, rfl⟩
                  · refine g_lloadN X0 hx rfl (hb hby d2_98) 99 rfl ?_
                    refine g_ldc2_w X0 hx hZ hown (wd hw 26 rfl) (hb hby d2_99) 102 rfl ?_
                    refine g_lif_ge X0 hx (hb hby d2_102) 103 rfl (hb hby d2_103) 109 106 (by decide) rfl rfl (fun q102 => ?_) (fun q102 => ?_)
                    · refine g_lloadN X0 hx rfl (hb hby d2_109) 110 rfl ?_
                      refine g_ldc2_w X0 hx hZ hown (wd hw 21 rfl) (hb hby d2_110) 113 rfl ?_
                      refine g_lif_lt X0 hx (hb hby d2_113) 114 rfl (hb hby d2_114) 128 117 (by decide) rfl rfl (fun q113 => ?_) (fun q113 => ?_)
                      · refine g_bipush X0 hx (8 : Int32) rfl (hb hby d2_128) 130 rfl ?_
                        exact g_reti X0 hx hret hlk (by decide) (by decide) (hb hby d2_130) ⟨congrArg (fun z => some (Value.int z)) (show fx v0 = _ from ((if_pos q4).trans ((if_neg q22).trans ((if_neg q30).trans ((if_pos q40).trans ((if_neg q58).trans ((if_neg q66).trans ((if_neg q76).trans ((if_neg q84).trans ((if_neg q94).trans ((if_neg q102).trans ((if_pos q113).trans rfl)))))))))))).symm, eq0, rfl⟩
                      · refine g_lloadN X0 hx rfl (hb hby d2_117) 118 rfl ?_
                        refine g_ldc2_w X0 hx hZ hown (wd hw 22 rfl) (hb hby d2_118) 121 rfl ?_
                        refine g_lif_ge X0 hx (hb hby d2_121) 122 rfl (hb hby d2_122) 128 125 (by decide) rfl rfl (fun q121 => ?_) (fun q121 => ?_)
                        · refine g_bipush X0 hx (8 : Int32) rfl (hb hby d2_128) 130 rfl ?_
                          exact g_reti X0 hx hret hlk (by decide) (by decide) (hb hby d2_130) ⟨congrArg (fun z => some (Value.int z)) (show fx v0 = _ from ((if_pos q4).trans ((if_neg q22).trans ((if_neg q30).trans ((if_pos q40).trans ((if_neg q58).trans ((if_neg q66).trans ((if_neg q76).trans ((if_neg q84).trans ((if_neg q94).trans ((if_neg q102).trans ((if_neg q113).trans ((if_neg q121).trans rfl))))))))))))).symm, eq0, rfl⟩
                        · refine g_bipush X0 hx (7 : Int32) rfl (hb hby d2_125) 127 rfl ?_
                          exact g_reti X0 hx hret hlk (by decide) (by decide) (hb hby d2_127) ⟨congrArg (fun z => some (Value.int z)) (show fx v0 = _ from ((if_pos q4).trans ((if_neg q22).trans ((if_neg q30).trans ((if_pos q40).trans ((if_neg q58).trans ((if_neg q66).trans ((if_neg q76).trans ((if_neg q84).trans ((if_neg q94).trans ((if_neg q102).trans ((if_neg q113).trans ((if_pos q121).trans rfl))))))))))))).symm, eq0, rfl⟩
                    · refine g_bipush X0 hx (6 : Int32) rfl (hb hby d2_106) 108 rfl ?_
                      exact g_reti X0 hx hret hlk (by decide) (by decide) (hb hby d2_108) ⟨congrArg (fun z => some (Value.int z)) (show fx v0 = _ from ((if_pos q4).trans ((if_neg q22).trans ((if_neg q30).trans ((if_pos q40).trans ((if_neg q58).trans ((if_neg q66).trans ((if_neg q76).trans ((if_neg q84).trans ((if_neg q94).trans ((if_pos q102).trans rfl))))))))))).symm, eq0, rfl⟩
                · refine g_iconst X0 hx (5 : Int32) rfl (hb hby d2_88) 89 rfl ?_
                  exact g_reti X0 hx hret hlk (by decide) (by decide) (hb hby d2_89) ⟨congrArg (fun z => some (Value.int z)) (show fx v0 = _ from ((if_pos q4).trans ((if_neg q22).trans ((if_neg q30).trans ((if_pos q40).trans ((if_neg q58).trans ((if_neg q66).trans ((if_neg q76).trans ((if_pos q84).trans rfl))))))))).symm, eq0, rfl⟩
            · refine g_iconst X0 hx (4 : Int32) rfl (hb hby d2_70) 71 rfl ?_
              exact g_reti X0 hx hret hlk (by decide) (by decide) (hb hby d2_71) ⟨congrArg (fun z => some (Value.int z)) (show fx v0 = _ from ((if_pos q4).trans ((if_neg q22).trans ((if_neg q30).trans ((if_pos q40).trans ((if_neg q58).trans ((if_pos q66).trans rfl))))))).symm, eq0, rfl⟩
        · refine g_lloadN X0 hx rfl (hb hby d2_44) 45 rfl ?_
          refine g_ldc2_w X0 hx hZ hown (wd hw 24 rfl) (hb hby d2_45) 48 rfl ?_
          refine g_lif_ge X0 hx (hb hby d2_48) 49 rfl (hb hby d2_49) 54 52 (by decide) rfl rfl (fun q48 => ?_) (fun q48 => ?_)
          · refine g_lloadN X0 hx rfl (hb hby d2_54) 55 rfl ?_
            refine g_ldc2_w X0 hx hZ hown (wd hw 16 rfl) (hb hby d2_55) 58 rfl ?_
            refine g_lif_lt X0 hx (hb hby d2_58) 59 rfl (hb hby d2_59) 72 62 (by decide) rfl rfl (fun q58 => ?_) (fun q58 => ?_)
            · refine g_lloadN X0 hx rfl (hb hby d2_72) 73 rfl ?_
              refine g_ldc2_w X0 hx hZ hown (wd hw 17 rfl) (hb hby d2_73) 76 rfl ?_
              refine g_lif_lt X0 hx (hb hby d2_76) 77 rfl (hb hby d2_77) 90 80 (by decide) rfl rfl (fun q76 => ?_) (fun q76 => ?_)
              · refine g_lloadN X0 hx rfl (hb hby d2_90) 91 rfl ?_
                refine g_ldc2_w X0 hx hZ hown (wd hw 20 rfl) (hb hby d2_91) 94 rfl ?_
                refine g_lif_lt X0 hx (hb hby d2_94) 95 rfl (hb hby d2_95) 109 98 (by decide) rfl rfl (fun q94 => ?_) (fun q94 => ?_)
                · refine g_lloadN X0 hx rfl (hb hby d2_109) 110 rfl ?_
                  refine g_ldc2_w X0 hx hZ hown (wd hw 21 rfl) (hb hby d2_110) 113 rfl ?_
                  refine g_lif_lt X0 hx (hb hby d2_113) 114 rfl (hb hby d2_114) 128 117 (by decide) rfl rfl (fun q113 => ?_) (fun q113 => ?_)
                  · refine g_bipush X0 hx (8 : Int32) rfl (hb hby d2_128) 130 rfl ?_
                    exact g_reti X0 hx hret hlk (by decide) (by decide) (hb hby d2_130) ⟨congrArg (fun z => some (Value.int z)) (show fx v0 = _ from ((if_pos q4).trans ((if_neg q22).trans ((if_neg q30).trans ((if_neg q40).trans ((if_neg q48).trans ((if_pos q58).trans ((if_pos q76).trans ((if_pos q94).trans ((if_pos q113).trans rfl)))))))))).symm, eq0, rfl⟩
                  · refine g_lloadN X0 hx rfl (hb hby d2_117) 118 rfl ?_
                    refine g_ldc2_w X0 hx hZ hown (wd hw 22 rfl) (hb hby d2_118) 121 rfl ?_
                    refine g_lif_ge X0 hx (hb hby d2_121) 122 rfl (hb hby d2_122) 128 125 (by decide) rfl rfl (fun q121 => ?_) (fun q121 => ?_)
                    · refine g_bipush X0 hx (8 : Int32) rfl (hb hby d2_128) 130 rfl ?_
                      exact g_reti X0 hx hret hlk (by decide) (by decide) (hb hby d2_130) ⟨congrArg (fun z => some (Value.int z)) (show fx v0 = _ from ((if_pos q4).trans ((if_neg q22).trans ((if_neg q30).trans ((if_neg q40).trans ((if_neg q48).trans ((if_pos q58).trans ((if_pos q76).trans ((if_pos q94).trans ((if_neg q113).trans ((if_neg q121).trans rfl))))))))))).symm, eq0, rfl⟩
                    · refine g_bipush X0 hx (7 : Int32) rfl (hb hby d2_125) 127 rfl ?_
                      exact g_reti X0 hx hret hlk (by decide) (by decide) (hb hby d2_127) ⟨congrArg (fun z => some (Value.int z)) (show fx v0 = _ from ((if_pos q4).trans ((if_neg q22).trans ((if_neg q30).trans ((if_neg q40).trans ((if_neg q48).trans ((if_pos q58).trans ((if_pos q76).trans ((if_pos q94).trans ((if_neg q113).trans ((if_pos q121).trans rfl))))))))))).symm, eq0, rfl⟩
                · refine g_lloadN X0 hx rfl (hb hby d2_98) 99 rfl ?_
                  refine g_ldc2_w X0 hx hZ hown (wd hw 26 rfl) (hb hby d2_99) 102 rfl ?_
                  refine g_lif_ge X0 hx (hb hby d2_102) 103 rfl (hb hby d2_103) 109 106 (by decide) rfl rfl (fun q102 => ?_) (fun q102 => ?_)
                  · refine g_lloadN X0 hx rfl (hb hby d2_109) 110 rfl ?_
                    refine g_ldc2_w X0 hx hZ hown (wd hw 21 rfl) (hb hby d2_110) 113 rfl ?_
                    refine g_lif_lt X0 hx (hb hby d2_113) 114 rfl (hb hby d2_114) 128 117 (by decide) rfl rfl (fun q113 => ?_) (fun q113 => ?_)
                    · refine g_bipush X0 hx (8 : Int32) rfl (hb hby d2_128) 130 rfl ?_
                      exact g_reti X0 hx hret hlk (by decide) (by decide) (hb hby d2_130) ⟨congrArg (fun z => some (Value.int z)) (show fx v0 = _ from ((if_pos q4).trans ((if_neg q22).trans ((if_neg q30).trans ((if_neg q40).trans ((if_neg q48).trans ((if_pos q58).trans ((if_pos q76).trans ((if_neg q94).trans ((if_neg q102).trans ((if_pos q113).trans rfl))))))))))).symm, eq0, rfl⟩
                    · refine g_lloadN X0 hx rfl (hb hby d2_117) 118 rfl ?_
                      refine g_ldc2_w X0 hx hZ hown (wd hw 22 rfl) (hb hby d2_118) 121 rfl ?_
                      refine g_lif_ge X0 hx (hb hby d2_121) 122 rfl (hb hby d2_122) 128 125 (by decide) rfl rfl (fun q121 => ?_) (fun q121 => ?_)
                      · refine g_bipush X0 hx (8 : Int32) rfl (hb hby d2_128) 130 rfl ?_
                        exact g_reti X0 hx hret hlk (by decide) (by decide) (hb hby d2_130) ⟨congrArg (fun z => some (Value.int z)) (show fx v0 = _ from ((if_pos q4).trans ((if_neg q22).trans ((if_neg q30).trans ((if_neg q40).trans ((if_neg q48).trans ((if_pos q58).trans ((if_pos q76).trans ((if_neg q94).trans ((if_neg q102).trans ((if_neg q113).trans ((if_neg q121).trans rfl)))))))))))).symm, eq0, rfl⟩
                      · refine g_bipush X0 hx (7 : Int32) rfl (hb hby d2_125) 127 rfl ?_
                        exact g_reti X0 hx hret hlk (by decide) (by decide) (hb hby d2_127) ⟨congrArg (fun z => some (Value.int z)) (show fx v0 = _ from ((if_pos q4).trans ((if_neg q22).trans ((if_neg q30).trans ((if_neg q40).trans ((if_neg q48).trans ((if_pos q58).trans ((if_pos q76).trans ((if_neg q94).trans ((if_neg q102).trans ((if_neg q113).trans ((if_pos q121).trans rfl)))))))))))).symm, eq0, rfl⟩
                  · refine g_bipush X0 hx (6 : Int32) rfl (hb hby d2_106) 108 rfl ?_
                    exact g_reti X0 hx hret hlk (by decide) (by decide) (hb hby d2_108) ⟨congrArg (fun z => some (Value.int z)) (show fx v0 = _ from ((if_pos q4).trans ((if_neg q22).trans ((if_neg q30).trans ((if_neg q40).trans ((if_neg q48).trans ((if_pos q58).trans ((if_pos q76).trans ((if_neg q94).trans ((if_pos q102).trans rfl)))))))))).symm, eq0, rfl⟩
              · refine g_lloadN X0 hx rfl (hb hby d2_80) 81 rfl ?_
                refine g_ldc2_w X0 hx hZ hown (wd hw 18 rfl) (hb hby d2_81) 84 rfl ?_
                refine g_lif_ge X0 hx (hb hby d2_84) 85 rfl (hb hby d2_85) 90 88 (by decide) rfl rfl (fun q84 => ?_) (fun q84 => ?_)
                · refine g_lloadN X0 hx rfl (hb hby d2_90) 91 rfl ?_
                  refine g_ldc2_w X0 hx hZ hown (wd hw 20 rfl) (hb hby d2_91) 94 rfl ?_
                  refine g_lif_lt X0 hx (hb hby d2_94) 95 rfl (hb hby d2_95) 109 98 (by decide) rfl rfl (fun q94 => ?_) (fun q94 => ?_)
                  · refine g_lloadN X0 hx rfl (hb hby d2_109) 110 rfl ?_
                    refine g_ldc2_w X0 hx hZ hown (wd hw 21 rfl) (hb hby d2_110) 113 rfl ?_
                    refine g_lif_lt X0 hx (hb hby d2_113) 114 rfl (hb hby d2_114) 128 117 (by decide) rfl rfl (fun q113 => ?_) (fun q113 => ?_)
                    · refine g_bipush X0 hx (8 : Int32) rfl (hb hby d2_128) 130 rfl ?_
                      exact g_reti X0 hx hret hlk (by decide) (by decide) (hb hby d2_130) ⟨congrArg (fun z => some (Value.int z)) (show fx v0 = _ from ((if_pos q4).trans ((if_neg q22).trans ((if_neg q30).trans ((if_neg q40).trans ((if_neg q48).trans ((if_pos q58).trans ((if_neg q76).trans ((if_neg q84).trans ((if_pos q94).trans ((if_pos q113).trans rfl))))))))))).symm, eq0, rfl⟩
                    · refine g_lloadN X0 hx rfl (hb hby d2_117) 118 rfl ?_
                      refine g_ldc2_w X0 hx hZ hown (wd hw 22 rfl) (hb hby d2_118) 121 rfl ?_
                      refine g_lif_ge X0 hx (hb hby d2_121) 122 rfl (hb hby d2_122) 128 125 (by decide) rfl rfl (fun q121 => ?_) (fun q121 => ?_)
                      · refine g_bipush X0 hx (8 : Int32) rfl (hb hby d2_128) 130 rfl ?_
                        exact g_reti X0 hx hret hlk (by decide) (by decide) (hb hby d2_130) ⟨congrArg (fun z => some (Value.int z)) (show fx v0 = _ from ((if_pos q4).trans ((if_neg q22).trans ((if_neg q30).trans ((if_neg q40).trans ((if_neg q48).trans ((if_pos q58).trans ((if_neg q76).trans ((if_neg q84).trans ((if_pos q94).trans ((if_neg q113).trans ((if_neg q121).trans rfl)))))))))))).symm, eq0, rfl⟩
                      · refine g_bipush X0 hx (7 : Int32) rfl (hb hby d2_125) 127 rfl ?_
                        exact g_reti X0 hx hret hlk (by decide) (by decide) (hb hby d2_127) ⟨congrArg (fun z => some (Value.int z)) (show fx v0 = _ from ((if_pos q4).trans ((if_neg q22).trans ((if_neg q30).trans ((if_neg q40).trans ((if_neg q48).trans ((if_pos q58).trans ((if_neg q76).trans ((if_neg q84).trans ((if_pos q94).trans ((if_neg q113).trans ((if_pos q121).trans rfl)))))))))))).symm, eq0, rfl⟩
                  · refine g_lloadN X0 hx rfl (hb hby d2_98) 99 rfl ?_
                    refine g_ldc2_w X0 hx hZ hown (wd hw 26 rfl) (hb hby d2_99) 102 rfl ?_
                    refine g_lif_ge X0 hx (hb hby d2_102) 103 rfl (hb hby d2_103) 109 106 (by decide) rfl rfl (fun q102 => ?_) (fun q102 => ?_)
                    · refine g_lloadN X0 hx rfl (hb hby d2_109) 110 rfl ?_
                      refine g_ldc2_w X0 hx hZ hown (wd hw 21 rfl) (hb hby d2_110) 113 rfl ?_
                      refine g_lif_lt X0 hx (hb hby d2_113) 114 rfl (hb hby d2_114) 128 117 (by decide) rfl rfl (fun q113 => ?_) (fun q113 => ?_)
                      · refine g_bipush X0 hx (8 : Int32) rfl (hb hby d2_128) 130 rfl ?_
                        exact g_reti X0 hx hret hlk (by decide) (by decide) (hb hby d2_130) ⟨congrArg (fun z => some (Value.int z)) (show fx v0 = _ from ((if_pos q4).trans ((if_neg q22).trans ((if_neg q30).trans ((if_neg q40).trans ((if_neg q48).trans ((if_pos q58).trans ((if_neg q76).trans ((if_neg q84).trans ((if_neg q94).trans ((if_neg q102).trans ((if_pos q113).trans rfl)))))))))))).symm, eq0, rfl⟩
                      · refine g_lloadN X0 hx rfl (hb hby d2_117) 118 rfl ?_
                        refine g_ldc2_w X0 hx hZ hown (wd hw 22 rfl) (hb hby d2_118) 121 rfl ?_
                        refine g_lif_ge X0 hx (hb hby d2_121) 122 rfl (hb hby d2_122) 128 125 (by decide) rfl rfl (fun q121 => ?_) (fun q121 => ?_)
                        · refine g_bipush X0 hx (8 : Int32) rfl (hb hby d2_128) 130 rfl ?_
                          exact g_reti X0 hx hret hlk (by decide) (by decide) (hb hby d2_130) ⟨congrArg (fun z => some (Value.int z)) (show fx v0 = _ from ((if_pos q4).trans ((if_neg q22).trans ((if_neg q30).trans ((if_neg q40).trans ((if_neg q48).trans ((if_pos q58).trans ((if_neg q76).trans ((if_neg q84).trans ((if_neg q94).trans ((if_neg q102).trans ((if_neg q113).trans ((if_neg q121).trans rfl))))))))))))).symm, eq0, rfl⟩
                        · refine g_bipush X0 hx (7 : Int32) rfl (hb hby d2_125) 127 rfl ?_
                          exact g_reti X0 hx hret hlk (by decide) (by decide) (hb hby d2_127) ⟨congrArg (fun z => some (Value.int z)) (show fx v0 = _ from ((if_pos q4).trans ((if_neg q22).trans ((if_neg q30).trans ((if_neg q40).trans ((if_neg q48).trans ((if_pos q58).trans ((if_neg q76).trans ((if_neg q84).trans ((if_neg q94).trans ((if_neg q102).trans ((if_neg q113).trans ((if_pos q121).trans rfl))))))))))))).symm, eq0, rfl⟩
                    · refine g_bipush X0 hx (6 : Int32) rfl (hb hby d2_106) 108 rfl ?_
                      exact g_reti X0 hx hret hlk (by decide) (by decide) (hb hby d2_108) ⟨congrArg (fun z => some (Value.int z)) (show fx v0 = _ from ((if_pos q4).trans ((if_neg q22).trans ((if_neg q30).trans ((if_neg q40).trans ((if_neg q48).trans ((if_pos q58).trans ((if_neg q76).trans ((if_neg q84).trans ((if_neg q94).trans ((if_pos q102).trans rfl))))))))))).symm, eq0, rfl⟩
                · refine g_iconst X0 hx (5 : Int32) rfl (hb hby d2_88) 89 rfl ?_
                  exact g_reti X0 hx hret hlk (by decide) (by decide) (hb hby d2_89) ⟨congrArg (fun z => some (Value.int z)) (show fx v0 = _ from ((if_pos q4).trans ((if_neg q22).trans ((if_neg q30).trans ((if_neg q40).trans ((if_neg q48).trans ((if_pos q58).trans ((if_neg q76).trans ((if_pos q84).trans rfl))))))))).symm, eq0, rfl⟩
            · refine g_lloadN X0 hx rfl (hb hby d2_62) 63 rfl ?_
              refine g_ldc2_w X0 hx hZ hown (wd hw 25 rfl) (hb hby d2_63) 66 rfl ?_
              refine g_lif_ge X0 hx (hb hby d2_66) 67 rfl (hb hby d2_67) 72 70 (by decide) rfl rfl (fun q66 => ?_) (fun q66 => ?_)
              · refine g_lloadN X0 hx rfl (hb hby d2_72) 73 rfl ?_
                refine g_ldc2_w X0 hx hZ hown (wd hw 17 rfl) (hb hby d2_73) 76 rfl ?_
                refine g_lif_lt X0 hx (hb hby d2_76) 77 rfl (hb hby d2_77) 90 80 (by decide) rfl rfl (fun q76 => ?_) (fun q76 => ?_)
                · refine g_lloadN X0 hx rfl (hb hby d2_90) 91 rfl ?_
                  refine g_ldc2_w X0 hx hZ hown (wd hw 20 rfl) (hb hby d2_91) 94 rfl ?_
                  refine g_lif_lt X0 hx (hb hby d2_94) 95 rfl (hb hby d2_95) 109 98 (by decide) rfl rfl (fun q94 => ?_) (fun q94 => ?_)
                  · refine g_lloadN X0 hx rfl (hb hby d2_109) 110 rfl ?_
                    refine g_ldc2_w X0 hx hZ hown (wd hw 21 rfl) (hb hby d2_110) 113 rfl ?_
                    refine g_lif_lt X0 hx (hb hby d2_113) 114 rfl (hb hby d2_114) 128 117 (by decide) rfl rfl (fun q113 => ?_) (fun q113 => ?_)
                    · refine g_bipush X0 hx (8 : Int32) rfl (hb hby d2_128) 130 rfl ?_
                      exact g_reti X0 hx hret hlk (by decide) (by decide) (hb hby d2_130) ⟨congrArg (fun z => some (Value.int z)) (show fx v0 = _ from ((if_pos q4).trans ((if_neg q22).trans ((if_neg q30).trans ((if_neg q40).trans ((if_neg q48).trans ((if_neg q58).trans ((if_neg q66).trans ((if_pos q76).trans ((if_pos q94).trans ((if_pos q113).trans rfl))))))))))).symm, eq0, rfl⟩
                    · refine g_lloadN X0 hx rfl (hb hby d2_117) 118 rfl ?_
                      refine g_ldc2_w X0 hx hZ hown (wd hw 22 rfl) (hb hby d2_118) 121 rfl ?_
                      refine g_lif_ge X0 hx (hb hby d2_121) 122 rfl (hb hby d2_122) 128 125 (by decide) rfl rfl (fun q121 => ?_) (fun q121 => ?_)
                      · refine g_bipush X0 hx (8 : Int32) rfl (hb hby d2_128) 130 rfl ?_
                        exact g_reti X0 hx hret hlk (by decide) (by decide) (hb hby d2_130) ⟨congrArg (fun z => some (Value.int z)) (show fx v0 = _ from ((if_pos q4).trans ((if_neg q22).trans ((if_neg q30).trans ((if_neg q40).trans ((if_neg q48).trans ((if_neg q58).trans ((if_neg q66).trans ((if_pos q76).trans ((if_pos q94).trans ((if_neg q113).trans ((if_neg q121).trans rfl)))))))))))).symm, eq0, rfl⟩
                      · refine g_bipush X0 hx (7 : Int32) rfl (hb hby d2_125) 127 rfl ?_
                        exact g_reti X0 hx hret hlk (by decide) (by decide) (hb hby d2_127) ⟨congrArg (fun z => some (Value.int z)) (show fx v0 = _ from ((if_pos q4).trans ((if_neg q22).trans ((if_neg q30).trans ((if_neg q40).trans ((if_neg q48).trans ((if_neg q58).trans ((if_neg q66).trans ((if_pos q76).trans ((if_pos q94).trans ((if_neg q113).trans ((if_pos q121).trans rfl)))))))))))).symm, eq0, rfl⟩
                  · refine g_lloadN X0 hx rfl (hb hby d2_98) 99 rfl ?_
                    refine g_ldc2_w X0 hx hZ hown (wd hw 26 rfl) (hb hby d2_99) 102 rfl ?_
                    refine g_lif_ge X0 hx (hb hby d2_102) 103 rfl (hb hby d2_103) 109 106 (by decide) rfl rfl (fun q102 => ?_) (fun q102 => ?_)
                    · refine g_lloadN X0 hx rfl (hb hby d2_109) 110 rfl ?_
                      refine g_ldc2_w X0 hx hZ hown (wd hw 21 rfl) (hb hby d2_110) 113 rfl ?_
                      refine g_lif_lt X0 hx (hb hby d2_113) 114 rfl (hb hby d2_114) 128 117 (by decide) rfl rfl (fun q113 => ?_) (fun q113 => ?_)
                      · refine g_bipush X0 hx (8 : Int32) rfl (hb hby d2_128) 130 rfl ?_
                        exact g_reti X0 hx hret hlk (by decide) (by decide) (hb hby d2_130) ⟨congrArg (fun z => some (Value.int z)) (show fx v0 = _ from ((if_pos q4).trans ((if_neg q22).trans ((if_neg q30).trans ((if_neg q40).trans ((if_neg q48).trans ((if_neg q58).trans ((if_neg q66).trans ((if_pos q76).trans ((if_neg q94).trans ((if_neg q102).trans ((if_pos q113).trans rfl)))))))))))).symm, eq0, rfl⟩
                      · refine g_lloadN X0 hx rfl (hb hby d2_117) 118 rfl ?_
                        refine g_ldc2_w X0 hx hZ hown (wd hw 22 rfl) (hb hby d2_118) 121 rfl ?_
                        refine g_lif_ge X0 hx (hb hby d2_121) 122 rfl (hb hby d2_122) 128 125 (by decide) rfl rfl (fun q121 => ?_) (fun q121 => ?_)
                        · refine g_bipush X0 hx (8 : Int32) rfl (hb hby d2_128) 130 rfl ?_
                          exact g_reti X0 hx hret hlk (by decide) (by decide) (hb hby d2_130) ⟨congrArg (fun z => some (Value.int z)) (show fx v0 = _ from ((if_pos q4).trans ((if_neg q22).trans ((if_neg q30).trans ((if_neg q40).trans ((if_neg q48).trans ((if_neg q58).trans ((if_neg q66).trans ((if_pos q76).trans ((if_neg q94).trans ((if_neg q102).trans ((if_neg q113).trans ((if_neg q121).trans rfl))))))))))))).symm, eq0, rfl⟩
                        · refine g_bipush X0 hx (7 : Int32) rfl (hb hby d2_125) 127 rfl ?_
                          exact g_reti X0 hx hret hlk (by decide) (by decide) (hb hby d2_127) ⟨congrArg (fun z => some (Value.int z)) (show fx v0 = _ from ((if_pos q4).trans ((if_neg q22).trans ((if_neg q30).trans ((if_neg q40).trans ((if_neg q48).trans ((if_neg q58).trans ((if_neg q66).trans ((if_pos q76).trans ((if_neg q94).trans ((if_neg q102).trans ((if_neg q113).trans ((if_pos q121).trans rfl))))))))))))).symm, eq0, rfl⟩
                    · refine g_bipush X0 hx (6 : Int32) rfl (hb hby d2_106) 108 rfl ?_
                      exact g_reti X0 hx hret hlk (by decide) (by decide) (hb hby d2_108) ⟨congrArg (fun z => some (Value.int z)) (show fx v0 = _ from ((if_pos q4).trans ((if_neg q22).trans ((if_neg q30).trans ((if_neg q40).trans ((if_neg q48).trans ((if_neg q58).trans ((if_neg q66).trans ((if_pos q76).trans ((if_neg q94).trans ((if_pos q102).trans rfl))))))))))).symm, eq0, rfl⟩
                · refine g_lloadN X0 hx rfl (hb hby d2_80) 81 rfl ?_
                  refine g_ldc2_w X0 hx hZ hown (wd hw 18 rfl) (hb hby d2_81) 84 rfl ?_
                  refine g_lif_ge X0 hx (hb hby d2_84) 85 rfl (hb hby d2_85) 90 88 (by decide) rfl rfl (fun q84 => ?_) (fun q84 => ?_)
                  · refine g_lloadN X0 hx rfl (hb hby d2_90) 91 rfl ?_
                    refine g_ldc2_w X0 hx hZ hown (wd hw 20 rfl) (hb hby d2_91) 94 rfl ?_
                    refine g_lif_lt X0 hx (hb hby d2_94) 95 rfl (hb hby d2_95) 109 98 (by decide) rfl rfl (fun q94 => ?_) (fun q94 => ?_)
                    · refine g_lloadN X0 hx rfl (hb hby d2_109) 110 rfl ?_
                      refine g_ldc2_w X0 hx hZ hown (wd hw 21 rfl) (hb hby d2_110) 113 rfl ?_
                      refine g_lif_lt X0 hx (hb hby d2_113) 114 rfl (hb hby d2_114) 128 117 (by decide) rfl rfl (fun q113 => ?_) (fun q113 => ?_)
                      · refine g_bipush X0 hx (8 : Int32) rfl (hb hby d2_128) 130 rfl ?_
                        exact g_reti X0 hx hret hlk (by decide) (by decide) (hb hby d2_130) ⟨congrArg (fun z => some (Value.int z)) (show fx v0 = _ from ((if_pos q4).trans ((if_neg q22).trans ((if_neg q30).trans ((if_neg q40).trans ((if_neg q48).trans ((if_neg q58).trans ((if_neg q66).trans ((if_neg q76).trans ((if_neg q84).trans ((if_pos q94).trans ((if_pos q113).trans rfl)))))))))))).symm, eq0, rfl⟩
                      · refine g_lloadN X0 hx rfl (hb hby d2_117) 118 rfl ?_
                        refine g_ldc2_w X0 hx hZ hown (wd hw 22 rfl) (hb hby d2_118) 121 rfl ?_
                        refine g_lif_ge X0 hx (hb hby d2_121) 122 rfl (hb hby d2_122) 128 125 (by decide) rfl rfl (fun q121 => ?_) (fun q121 => ?_)
                        · refine g_bipush X0 hx (8 : Int32) rfl (hb hby d2_128) 130 rfl ?_
                          exact g_reti X0 hx hret hlk (by decide) (by decide) (hb hby d2_130) ⟨congrArg (fun z => some (Value.int z)) (show fx v0 = _ from ((if_pos q4).trans ((if_neg q22).trans ((if_neg q30).trans ((if_neg q40).trans ((if_neg q48).trans ((if_neg q58).trans ((if_neg q66).trans ((if_neg q76).trans ((if_neg q84).trans ((if_pos q94).trans ((if_neg q113).trans ((if_neg q121).trans rfl))))))))))))).symm, eq0, rfl⟩
                        · refine g_bipush X0 hx (7 : Int32) rfl (hb hby d2_125) 127 rfl ?_
                          exact g_reti X0 hx hret hlk (by decide) (by decide) (hb hby d2_127) ⟨congrArg (fun z => some (Value.int z)) (show fx v0 = _ from ((if_pos q4).trans ((if_neg q22).trans ((if_neg q30).trans ((if_neg q40).trans ((if_neg q48).trans ((if_neg q58).trans ((if_neg q66).trans ((if_neg q76).trans ((if_neg q84).trans ((if_pos q94).trans ((if_neg q113).trans ((if_pos q121).trans rfl))))))))))))).symm, eq0, rfl⟩
                    · refine g_lloadN X0 hx rfl (hb hby d2_98) 99 rfl ?_
                      refine g_ldc2_w X0 hx hZ hown (wd hw 26 rfl) (hb hby d2_99) 102 rfl ?_
                      refine g_lif_ge X0 hx (hb hby d2_102) 103 rfl (hb hby d2_103) 109 106 (by decide) rfl rfl (fun q102 => ?_) (fun q102 => ?_)
                      · refine g_lloadN X0 hx rfl (hb hby d2_109) 110 rfl ?_
                        refine g_ldc2_w X0 hx hZ hown (wd hw 21 rfl) (hb hby d2_110) 113 rfl ?_
                        refine g_lif_lt X0 hx (hb hby d2_113) 114 rfl (hb hby d2_114) 128 117 (by decide) rfl rfl (fun q113 => ?_) (fun q113 => ?_)
                        · refine g_bipush X0 hx (8 : Int32) rfl (hb hby d2_128) 130 rfl ?_
                          exact g_reti X0 hx hret hlk (by decide) (by decide) (hb hby d2_130) ⟨congrArg (fun z => some (Value.int z)) (show fx v0 = _ from ((if_pos q4).trans ((if_neg q22).trans ((if_neg q30).trans ((if_neg q40).trans ((if_neg q48).trans ((if_neg q58).trans ((if_neg q66).trans ((if_neg q76).trans ((if_neg q84).trans ((if_neg q94).trans ((if_neg q102).trans ((if_pos q113).trans rfl))))))))))))).symm, eq0, rfl⟩
                        · refine g_lloadN X0 hx rfl (hb hby d2_117) 118 rfl ?_
                          refine g_ldc2_w X0 hx hZ hown (wd hw 22 rfl) (hb hby d2_118) 121 rfl ?_
                          refine g_lif_ge X0 hx (hb hby d2_121) 122 rfl (hb hby d2_122) 128 125 (by decide) rfl rfl (fun q121 => ?_) (fun q121 => ?_)
                          · refine g_bipush X0 hx (8 : Int32) rfl (hb hby d2_128) 130 rfl ?_
                            exact g_reti X0 hx hret hlk (by decide) (by decide) (hb hby d2_130) ⟨congrArg (fun z => some (Value.int z)) (show fx v0 = _ from ((if_pos q4).trans ((if_neg q22).trans ((if_neg q30).trans ((if_neg q40).trans ((if_neg q48).trans ((if_neg q58).trans ((if_neg q66).trans ((if_neg q76).trans ((if_neg q84).trans ((if_neg q94).trans ((if_neg q102).trans ((if_neg q113).trans ((if_neg q121).trans rfl)))))))))))))).symm, eq0, rfl⟩
                          · refine g_bipush X0 hx (7 : Int32) rfl (hb hby d2_125) 127 rfl ?_
                            exact g_reti X0 hx hret hlk (by decide) (by decide) (hb hby d2_127) ⟨congrArg (fun z => some (Value.int z)) (show fx v0 = _ from ((if_pos q4).trans ((if_neg q22).trans ((if_neg q30).trans ((if_neg q40).trans ((if_neg q48).trans ((if_neg q58).trans ((if_neg q66).trans ((if_neg q76).trans ((if_neg q84).trans ((if_neg q94).trans ((if_neg q102).trans ((if_neg q113).trans ((if_pos q121).trans rfl)))))))))))))).symm, eq0, rfl⟩
                      · refine g_bipush X0 hx (6 : Int32) rfl (hb hby d2_106) 108 rfl ?_
                        exact g_reti X0 hx hret hlk (by decide) (by decide) (hb hby d2_108) ⟨congrArg (fun z => some (Value.int z)) (show fx v0 = _ from ((if_pos q4).trans ((if_neg q22).trans ((if_neg q30).trans ((if_neg q40).trans ((if_neg q48).trans ((if_neg q58).trans ((if_neg q66).trans ((if_neg q76).trans ((if_neg q84).trans ((if_neg q94).trans ((if_pos q102).trans rfl)))))))))))).symm, eq0, rfl⟩
                  · refine g_iconst X0 hx (5 : Int32) rfl (hb hby d2_88) 89 rfl ?_
                    exact g_reti X0 hx hret hlk (by decide) (by decide) (hb hby d2_89) ⟨congrArg (fun z => some (Value.int z)) (show fx v0 = _ from ((if_pos q4).trans ((if_neg q22).trans ((if_neg q30).trans ((if_neg q40).trans ((if_neg q48).trans ((if_neg q58).trans ((if_neg q66).trans ((if_neg q76).trans ((if_pos q84).trans rfl)))))))))).symm, eq0, rfl⟩
              · refine g_iconst X0 hx (4 : Int32) rfl (hb hby d2_70) 71 rfl ?_
                exact g_reti X0 hx hret hlk (by decide) (by decide) (hb hby d2_71) ⟨congrArg (fun z => some (Value.int z)) (show fx v0 = _ from ((if_pos q4).trans ((if_neg q22).trans ((if_neg q30).trans ((if_neg q40).trans ((if_neg q48).trans ((if_neg q58).trans ((if_pos q66).trans rfl)))))))).symm, eq0, rfl⟩
          · refine g_iconst X0 hx (3 : Int32) rfl (hb hby d2_52) 53 rfl ?_
            exact g_reti X0 hx hret hlk (by decide) (by decide) (hb hby d2_53) ⟨congrArg (fun z => some (Value.int z)) (show fx v0 = _ from ((if_pos q4).trans ((if_neg q22).trans ((if_neg q30).trans ((if_neg q40).trans ((if_pos q48).trans rfl)))))).symm, eq0, rfl⟩
      · refine g_iconst X0 hx (2 : Int32) rfl (hb hby d2_34) 35 rfl ?_
        exact g_reti X0 hx hret hlk (by decide) (by decide) (hb hby d2_35) ⟨congrArg (fun z => some (Value.int z)) (show fx v0 = _ from ((if_pos q4).trans ((if_neg q22).trans ((if_pos q30).trans rfl)))).symm, eq0, rfl⟩
  · refine g_lloadN X0 hx rfl (hb hby d2_8) 9 rfl ?_
    refine g_ldc2_w X0 hx hZ hown (wd hw 10 rfl) (hb hby d2_9) 12 rfl ?_
    refine g_lif_ge X0 hx (hb hby d2_12) 13 rfl (hb hby d2_13) 18 16 (by decide) rfl rfl (fun q12 => ?_) (fun q12 => ?_)
    · refine g_lloadN X0 hx rfl (hb hby d2_18) 19 rfl ?_
      refine g_ldc2_w X0 hx hZ hown (wd hw 14 rfl) (hb hby d2_19) 22 rfl ?_
      refine g_lif_lt X0 hx (hb hby d2_22) 23 rfl (hb hby d2_23) 36 26 (by decide) rfl rfl (fun q22 => ?_) (fun q22 => ?_)
      · refine g_lloadN X0 hx rfl (hb hby d2_36) 37 rfl ?_
        refine g_ldc2_w X0 hx hZ hown (wd hw 15 rfl) (hb hby d2_37) 40 rfl ?_
        refine g_lif_lt X0 hx (hb hby d2_40) 41 rfl (hb hby d2_41) 54 44 (by decide) rfl rfl (fun q40 => ?_) (fun q40 => ?_)
        · refine g_lloadN X0 hx rfl (hb hby d2_54) 55 rfl ?_
          refine g_ldc2_w X0 hx hZ hown (wd hw 16 rfl) (hb hby d2_55) 58 rfl ?_
          refine g_lif_lt X0 hx (hb hby d2_58) 59 rfl (hb hby d2_59) 72 62 (by decide) rfl rfl (fun q58 => ?_) (fun q58 => ?_)
          · refine g_lloadN X0 hx rfl (hb hby d2_72) 73 rfl ?_
            refine g_ldc2_w X0 hx hZ hown (wd hw 17 rfl) (hb hby d2_73) 76 rfl ?_
            refine g_lif_lt X0 hx (hb hby d2_76) 77 rfl (hb hby d2_77) 90 80 (by decide) rfl rfl (fun q76 => ?_) (fun q76 => ?_)
            · refine g_lloadN X0 hx rfl (hb hby d2_90) 91 rfl ?_
              refine g_ldc2_w X0 hx hZ hown (wd hw 20 rfl) (hb hby d2_91) 94 rfl ?_
              refine g_lif_lt X0 hx (hb hby d2_94) 95 rfl (hb hby d2_95) 109 98 (by decide) rfl rfl (fun q94 => ?_) (fun q94 => ?_)
              · refine g_lloadN X0 hx rfl (hb hby d2_109) 110 rfl ?_
                refine g_ldc2_w X0 hx hZ hown (wd hw 21 rfl) (hb hby d2_110) 113 rfl ?_
                refine g_lif_lt X0 hx (hb hby d2_113) 114 rfl (hb hby d2_114) 128 117 (by decide) rfl rfl (fun q113 => ?_) (fun q113 => ?_)
                · refine g_bipush X0 hx (8 : Int32) rfl (hb hby d2_128) 130 rfl ?_
                  exact g_reti X0 hx hret hlk (by decide) (by decide) (hb hby d2_130) ⟨congrArg (fun z => some (Value.int z)) (show fx v0 = _ from ((if_neg q4).trans ((if_neg q12).trans ((if_pos q22).trans ((if_pos q40).trans ((if_pos q58).trans ((if_pos q76).trans ((if_pos q94).trans ((if_pos q113).trans rfl))))))))).symm, eq0, rfl⟩
                · refine g_lloadN X0 hx rfl (hb hby d2_117) 118 rfl ?_
                  refine g_ldc2_w X0 hx hZ hown (wd hw 22 rfl) (hb hby d2_118) 121 rfl ?_
                  refine g_lif_ge X0 hx (hb hby d2_121) 122 rfl (hb hby d2_122) 128 125 (by decide) rfl rfl (fun q121 => ?_) (fun q121 => ?_)
                  · refine g_bipush X0 hx (8 : Int32) rfl (hb hby d2_128) 130 rfl ?_
                    exact g_reti X0 hx hret hlk (by decide) (by decide) (hb hby d2_130) ⟨congrArg (fun z => some (Value.int z)) (show fx v0 = _ from ((if_neg q4).trans ((if_neg q12).trans ((if_pos q22).trans ((if_pos q40).trans ((if_pos q58).trans ((if_pos q76).trans ((if_pos q94).trans ((if_neg q113).trans ((if_neg q121).trans rfl)))))))))).symm, eq0, rfl⟩
                  · refine g_bipush X0 hx (7 : Int32) rfl (hb hby d2_125) 127 rfl ?_
                    exact g_reti X0 hx hret hlk (by decide) (by decide) (hb hby d2_127) ⟨congrArg (fun z => some (Value.int z)) (show fx v0 = _ from ((if_neg q4).trans ((if_neg q12).trans ((if_pos q22).trans ((if_pos q40).trans ((if_pos q58).trans ((if_pos q76).trans ((if_pos q94).trans ((if_neg q113).trans ((if_pos q121).trans rfl)))))))))).symm, eq0, rfl⟩
              · refine g_lloadN X0 hx rfl (hb hby d2_98) 99 rfl ?_
                refine g_ldc2_w X0 hx hZ hown (wd hw 26 rfl) (hb hby d2_99) 102 rfl ?_
                refine g_lif_ge X0 hx (hb hby d2_102) 103 rfl (hb hby d2_103) 109 106 (by decide) rfl rfl (fun q102 => ?_) (fun q102 => ?_)
                · refine g_lloadN X0 hx rfl (hb hby d2_109) 110 rfl ?_
                  refine g_ldc2_w X0 hx hZ hown (wd hw 21 rfl) (hb hby d2_110) 113 rfl ?_
                  refine g_lif_lt X0 hx (hb hby d2_113) 114 rfl (hb hby d2_114) 128 117 (by decide) rfl rfl (fun q113 => ?_) (fun q113 => ?_)
                  · refine g_bipush X0 hx (8 : Int32) rfl (hb hby d2_128) 130 rfl ?_
                    exact g_reti X0 hx hret hlk (by decide) (by decide) (hb hby d2_130) ⟨congrArg (fun z => some (Value.int z)) (show fx v0 = _ from ((if_neg q4).trans ((if_neg q12).trans ((if_pos q22).trans ((if_pos q40).trans ((if_pos q58).trans ((if_pos q76).trans ((if_neg q94).trans ((if_neg q102).trans ((if_pos q113).trans rfl)))))))))).symm, eq0, rfl⟩
                  · refine g_lloadN X0 hx rfl (hb hby d2_117) 118 rfl ?_
                    refine g_ldc2_w X0 hx hZ hown (wd hw 22 rfl) (hb hby d2_118) 121 rfl ?_
                    refine g_lif_ge X0 hx (hb hby d2_121) 122 rfl (hb hby d2_122) 128 125 (by decide) rfl rfl (fun q121 => ?_) (fun q121 => ?_)
                    · refine g_bipush X0 hx (8 : Int32) rfl (hb hby d2_128) 130 rfl ?_
                      exact g_reti X0 hx hret hlk (by decide) (by decide) (hb hby d2_130) ⟨congrArg (fun z => some (Value.int z)) (show fx v0 = _ from ((if_neg q4).trans ((if_neg q12).trans ((if_pos q22).trans ((if_pos q40).trans ((if_pos q58).trans ((if_pos q76).trans ((if_neg q94).trans ((if_neg q102).trans ((if_neg q113).trans ((if_neg q121).trans rfl))))))))))).symm, eq0, rfl⟩
                    · refine g_bipush X0 hx (7 : Int32) rfl (hb hby d2_125) 127 rfl ?_
                      exact g_reti X0 hx hret hlk (by decide) (by decide) (hb hby d2_127) ⟨congrArg (fun z => some (Value.int z)) (show fx v0 = _ from ((if_neg q4).trans ((if_neg q12).trans ((if_pos q22).trans ((if_pos q40).trans ((if_pos q58).trans ((if_pos q76).trans ((if_neg q94).trans ((if_neg q102).trans ((if_neg q113).trans ((if_pos q121).trans rfl))))))))))).symm, eq0, rfl⟩
                · refine g_bipush X0 hx (6 : Int32) rfl (hb hby d2_106) 108 rfl ?_
                  exact g_reti X0 hx hret hlk (by decide) (by decide) (hb hby d2_108) ⟨congrArg (fun z => some (Value.int z)) (show fx v0 = _ from ((if_neg q4).trans ((if_neg q12).trans ((if_pos q22).trans ((if_pos q40).trans ((if_pos q58).trans ((if_pos q76).trans ((if_neg q94).trans ((if_pos q102).trans rfl))))))))).symm, eq0, rfl⟩
            · refine g_lloadN X0 hx rfl (hb hby d2_80) 81 rfl ?_
              refine g_ldc2_w X0 hx hZ hown (wd hw 18 rfl) (hb hby d2_81) 84 rfl ?_
              refine g_lif_ge X0 hx (hb hby d2_84) 85 rfl (hb hby d2_85) 90 88 (by decide) rfl rfl (fun q84 => ?_) (fun q84 => ?_)
              · refine g_lloadN X0 hx rfl (hb hby d2_90) 91 rfl ?_
                refine g_ldc2_w X0 hx hZ hown (wd hw 20 rfl) (hb hby d2_91) 94 rfl ?_
                refine g_lif_lt X0 hx (hb hby d2_94) 95 rfl (hb hby d2_95) 109 98 (by decide) rfl rfl (fun q94 => ?_) (fun q94 => ?_)
                · refine g_lloadN X0 hx rfl (hb hby d2_109) 110 rfl ?_
                  refine g_ldc2_w X0 hx hZ hown (wd hw 21 rfl) (hb hby d2_110) 113 rfl ?_
                  refine g_lif_lt X0 hx (hb hby d2_113) 114 rfl (hb hby d2_114) 128 117 (by decide) rfl rfl (fun q113 => ?_) (fun q113 => ?_)
                  · refine g_bipush X0 hx (8 : Int32) rfl (hb hby d2_128) 130 rfl ?_
                    exact g_reti X0 hx hret hlk (by decide) (by decide) (hb hby d2_130) ⟨congrArg (fun z => some (Value.int z)) (show fx v0 = _ from ((if_neg q4).trans ((if_neg q12).trans ((if_pos q22).trans ((if_pos q40).trans ((if_pos q58).trans ((if_neg q76).trans ((if_neg q84).trans ((if_pos q94).trans ((if_pos q113).trans rfl)))))))))).symm, eq0, rfl⟩
                  · refine g_lloadN X0 hx rfl (hb hby d2_117) 118 rfl ?_
                    refine g_ldc2_w X0 hx hZ hown (wd hw 22 rfl) (hb hby d2_118) 121 rfl ?_
                    refine g_lif_ge X0 hx (hb hby d2_121) 122 rfl (hb hby d2_122) 128 125 (by decide) rfl rfl (fun q121 => ?_) (fun q121 => ?_)
                    · refine g_bipush X0 hx (8 : Int32) rfl (hb hby d2_128) 130 rfl ?_
                      exact g_reti X0 hx hret hlk (by decide) (by decide) (hb hby d2_130) ⟨congrArg (fun z => some (Value.int z)) (show fx v0 = _ from ((if_neg q4).trans ((if_neg q12).trans ((if_pos q22).trans ((if_pos q40).trans ((if_pos q58).trans ((if_neg q76).trans ((if_neg q84).trans ((if_pos q94).trans ((if_neg q113).trans ((if_neg q121).trans rfl))))))))))).symm, eq0, rfl⟩
                    · refine g_bipush X0 hx (7 : Int32) rfl (hb hby d2_125) 127 rfl ?_
                      exact g_reti X0 hx hret hlk (by decide) (by decide) (hb hby d2_127) ⟨congrArg (fun z => some (Value.int z)) (show fx v0 = _ from ((if_neg q4).trans ((if_neg q12).trans ((if_pos q22).trans ((if_pos q40).trans ((if_pos q58).trans ((if_neg q76).trans ((if_neg q84).trans ((if_pos q94).trans ((if_neg q113).trans ((if_pos q121).trans rfl))))))))))).symm, eq0, rfl⟩
                · refine g_lloadN X0 hx rfl (hb hby d2_98) 99 rfl ?_
                  refine g_ldc2_w X0 hx hZ hown (wd hw 26 rfl) (hb hby d2_99) 102 rfl ?_
                  refine g_lif_ge X0 hx (hb hby d2_102) 103 rfl (hb hby d2_103) 109 106 (by decide) rfl rfl (fun q102 => ?_) (fun q102 => ?_)
                  · refine g_lloadN X0 hx rfl (hb hby d2_109) 110 rfl ?_
                    refine g_ldc2_w X0 hx hZ hown (wd hw 21 rfl) (hb hby d2_110) 113 rfl ?_
                    refine g_lif_lt X0 hx (hb hby d2_113) 114 rfl (hb hby d2_114) 128 117 (by decide) rfl rfl (fun q113 => ?_) (fun q113 => ?_)
                    · refine g_bipush X0 hx (8 : Int32) rfl (hb hby d2_128) 130 rfl ?_
                      exact g_reti X0 hx hret hlk (by decide) (by decide) (hb hby d2_130) ⟨congrArg (fun z => some (Value.int z)) (show fx v0 = _ from ((if_neg q4).trans ((if_neg q12).trans ((if_pos q22).trans ((if_pos q40).trans ((if_pos q58).trans ((if_neg q76).trans ((if_neg q84).trans ((if_neg q94).trans ((if_neg q102).trans ((if_pos q113).trans rfl))))))))))).symm, eq0, rfl⟩
                    · refine g_lloadN X0 hx rfl (hb hby d2_117) 118 rfl ?_
                      refine g_ldc2_w X0 hx hZ hown (wd hw 22 rfl) (hb hby d2_118) 121 rfl ?_
                      refine g_lif_ge X0 hx (hb hby d2_121) 122 rfl (hb hby d2_122) 128 125 (by decide) rfl rfl (fun q121 => ?_) (fun q121 => ?_)
                      · refine g_bipush X0 hx (8 : Int32) rfl (hb hby d2_128) 130 rfl ?_
                        exact g_reti X0 hx hret hlk (by decide) (by decide) (hb hby d2_130) ⟨congrArg (fun z => some (Value.int z)) (show fx v0 = _ from ((if_neg q4).trans ((if_neg q12).trans ((if_pos q22).trans ((if_pos q40).trans ((if_pos q58).trans ((if_neg q76).trans ((if_neg q84).trans ((if_neg q94).trans ((if_neg q102).trans ((if_neg q113).trans ((if_neg q121).trans rfl)))))))))))).symm, eq0, rfl⟩
                      · refine g_bipush X0 hx (7 : Int32) rfl (hb hby d2_125) 127 rfl ?_
                        exact g_reti X0 hx hret hlk (by decide) (by decide) (hb hby d2_127) ⟨congrArg (fun z => some (Value.int z)) (show fx v0 = _ from ((if_neg q4).trans ((if_neg q12).trans ((if_pos q22).trans ((if_pos q40).trans ((if_pos q58).trans ((if_neg q76).trans ((if_neg q84).trans ((if_neg q94).trans ((if_neg q102).trans ((if_neg q113).trans ((if_pos q121).trans rfl)))))))))))).symm, eq0, rfl⟩
                  · refine g_bipush X0 hx (6 : Int32) rfl (hb hby d2_106) 108 rfl ?_
                    exact g_reti X0 hx hret hlk (by decide) (by decide) (hb hby d2_108) ⟨congrArg (fun z => some (Value.int z)) (show fx v0 = _ from ((if_neg q4).trans ((if_neg q12).trans ((if_pos q22).trans ((if_pos q40).trans ((if_pos q58).trans ((if_neg q76).trans ((if_neg q84).trans ((if_neg q94).trans ((if_pos q102).trans rfl)))))))))).symm, eq0, rfl⟩
              · refine g_iconst X0 hx (5 : Int32) rfl (hb hby d2_88) 89 rfl ?_
                exact g_reti X0 hx hret hlk (by decide) (by decide) (hb hby d2_89) ⟨congrArg (fun z => some (Value.int z)) (show fx v0 = _ from ((if_neg q4).trans ((if_neg q12).trans ((if_pos q22).trans ((if_pos q40).trans ((if_pos q58).trans ((if_neg q76).trans ((if_pos q84).trans rfl)))))))).symm, eq0, rfl⟩
          · refine g_lloadN X0 hx rfl (hb hby d2_62) 63 rfl ?_
            refine g_ldc2_w X0 hx hZ hown (wd hw 25 rfl) (hb hby d2_63) 66 rfl ?_
            refine g_lif_ge X0 hx (hb hby d2_66) 67 rfl (hb hby d2_67) 72 70 (by decide) rfl rfl (fun q66 => ?_) (fun q66 => ?_)
            · refine g_lloadN X0 hx rfl (hb hby d2_72) 73 rfl ?_
              refine g_ldc2_w X0 hx hZ hown (wd hw 17 rfl) (hb hby d2_73) 76 rfl ?_
              refine g_lif_lt X0 hx (hb hby d2_76) 77 rfl (hb hby d2_77) 90 80 (by decide) rfl rfl (fun q76 => ?_) (fun q76 => ?_)
              · refine g_lloadN X0 hx rfl (hb hby d2_90) 91 rfl ?_
                refine g_ldc2_w X0 hx hZ hown (wd hw 20 rfl) (hb hby d2_91) 94 rfl ?_
                refine g_lif_lt X0 hx (hb hby d2_94) 95 rfl (hb hby d2_95) 109 98 (by decide) rfl rfl (fun q94 => ?_) (fun q94 => ?_)
                · refine g_lloadN X0 hx rfl (hb hby d2_109) 110 rfl ?_
                  refine g_ldc2_w X0 hx hZ hown (wd hw 21 rfl) (hb hby d2_110) 113 rfl ?_
                  refine g_lif_lt X0 hx (hb hby d2_113) 114 rfl (hb hby d2_114) 128 117 (by decide) rfl rfl (fun q113 => ?_) (fun q113 => ?_)
                  · refine g_bipush X0 hx (8 : Int32) rfl (hb hby d2_128) 130 rfl ?_
                    exact g_reti X0 hx hret hlk (by decide) (by decide) (hb hby d2_130) ⟨congrArg (fun z => some (Value.int z)) (show fx v0 = _ from ((if_neg q4).trans ((if_neg q12).trans ((if_pos q22).trans ((if_pos q40).trans ((if_neg q58).trans ((if_neg q66).trans ((if_pos q76).trans ((if_pos q94).trans ((if_pos q113).trans rfl)))))))))).symm, eq0, rfl⟩
                  · refine g_lloadN X0 hx rfl (hb hby d2_117) 118 rfl ?_
                    refine g_ldc2_w X0 hx hZ hown (wd hw 22 rfl) (hb hby d2_118) 121 rfl ?_
                    refine g_lif_ge X0 hx (hb hby d2_121) 122 rfl (hb hby d2_122) 128 125 (by decide) rfl rfl (fun q121 => ?_) (fun q121 => ?_)
                    · refine g_bipush X0 hx (8 : Int32) rfl (hb hby d2_128) 130 rfl ?_
                      exact g_reti X0 hx hret hlk (by decide) (by decide) (hb hby d2_130) ⟨congrArg (fun z => some (Value.int z)) (show fx v0 = _ from ((if_neg q4).trans ((if_neg q12).trans ((if_pos q22).trans ((if_pos q40).trans ((if_neg q58).trans ((if_neg q66).trans ((if_pos q76).trans ((if_pos q94).trans ((if_neg q113).trans ((if_neg q121).trans rfl))))))))))).symm, eq0, rfl⟩
                    · refine g_bipush X0 hx (7 : Int32) rfl (hb hby d2_125) 127 rfl ?_
                      exact g_reti X0 hx hret hlk (by decide) (by decide) (hb hby d2_127) ⟨congrArg (fun z => some (Value.int z)) (show fx v0 = _ from ((if_neg q4).trans ((if_neg q12).trans ((if_pos q22).trans ((if_pos q40).trans ((if_neg q58).trans ((if_neg q66).trans ((if_pos q76).trans ((if_pos q94).trans ((if_neg q113).trans ((if_pos q121).trans rfl))))))))))).symm, eq0, rfl⟩
                · refine g_lloadN X0 hx rfl (hb hby d2_98) 99 rfl ?_
                  refine g_ldc2_w X0 hx hZ hown (wd hw 26 rfl) (hb hby d2_99) 102 rfl ?_
                  refine g_lif_ge X0 hx (hb hby d2_102) 103 rfl (hb hby d2_103) 109 106 (by decide) rfl rfl (fun q102 => ?_) (fun q102 => ?_)
                  · refine g_lloadN X0 hx rfl (hb hby d2_109) 110 rfl ?_
                    refine g_ldc2_w X0 hx hZ hown (wd hw 21 rfl) (hb hby d2_110) 113 rfl ?_
                    refine g_lif_lt X0 hx (hb hby d2_113) 114 rfl (hb hby d2_114) 128 117 (by decide) rfl rfl (fun q113 => ?_) (fun q113 => ?_)
                    · refine g_bipush X0 hx (8 : Int32) rfl (hb hby d2_128) 130 rfl ?_
                      exact g_reti X0 hx hret hlk (by decide) (by decide) (hb hby d2_130) ⟨congrArg (fun z => some (Value.int z)) (show fx v0 = _ from ((if_neg q4).trans ((if_neg q12).trans ((if_pos q22).trans ((if_pos q40).trans ((if_neg q58).trans ((if_neg q66).trans ((if_pos q76).trans ((if_neg q94).trans ((if_neg q102).trans ((if_pos q113).trans rfl))))))))))).symm, eq0, rfl⟩
                    · refine g_lloadN X0 hx rfl (hb hby d2_117) 118 rfl ?_
                      refine g_ldc2_w X0 hx hZ hown (wd hw 22 rfl) (hb hby d2_118) 121 rfl ?_
                      refine g_lif_ge X0 hx (hb hby d2_121) 122 rfl (hb hby d2_122) 128 125 (by decide) rfl rfl (fun q121 => ?_) (fun q121 => ?_)
                      · refine g_bipush X0 hx (8 : Int32) rfl (hb hby d2_128) 130 rfl ?_
                        exact g_reti X0 hx hret hlk (by decide) (by decide) (hb hby d2_130) ⟨congrArg (fun z => some (Value.int z)) (show fx v0 = _ from ((if_neg q4).trans ((if_neg q12).trans ((if_pos q22).trans ((if_pos q40).trans ((if_neg q58).trans ((if_neg q66).trans ((if_pos q76).trans ((if_neg q94).trans ((if_neg q102).trans ((if_neg q113).trans ((if_neg q121).trans rfl)))))))))))).symm, eq0, rfl⟩
                      · refine g_bipush X0 hx (7 : Int32) rfl (hb hby d2_125) 127 rfl ?_
                        exact g_reti X0 hx hret hlk (by decide) (by decide) (hb hby d2_127) ⟨congrArg (fun z => some (Value.int z)) (show fx v0 = _ from ((if_neg q4).trans ((if_neg q12).trans ((if_pos q22).trans ((if_pos q40).trans ((if_neg q58).trans ((if_neg q66).trans ((if_pos q76).trans ((if_neg q94).trans ((if_neg q102).trans ((if_neg q113).trans ((if_pos q121).trans rfl)))))))))))).symm, eq0, rfl⟩
                  · refine g_bipush X0 hx (6 : Int32) rfl (hb hby d2_106) 108 rfl ?_
                    exact g_reti X0 hx hret hlk (by decide) (by decide) (hb hby d2_108) ⟨congrArg (fun z => some (Value.int z)) (show fx v0 = _ from ((if_neg q4).trans ((if_neg q12).trans ((if_pos q22).trans ((if_pos q40).trans ((if_neg q58).trans ((if_neg q66).trans ((if_pos q76).trans ((if_neg q94).trans ((if_pos q102).trans rfl)))))))))).symm, eq0, rfl⟩
              · refine g_lloadN X0 hx rfl (hb hby d2_80) 81 rfl ?_
                refine g_ldc2_w X0 hx hZ hown (wd hw 18 rfl) (hb hby d2_81) 84 rfl ?_
                refine g_lif_ge X0 hx (hb hby d2_84) 85 rfl (hb hby d2_85) 90 88 (by decide) rfl rfl (fun q84 => ?_) (fun q84 => ?_)
                · refine g_lloadN X0 hx rfl (hb hby d2_90) 91 rfl ?_
                  refine g_ldc2_w X0 hx hZ hown (wd hw 20 rfl) (hb hby d2_91) 94 rfl ?_
                  refine g_lif_lt X0 hx (hb hby d2_94) 95 rfl (hb hby d2_95) 109 98 (by decide) rfl rfl (fun q94 => ?_) (fun q94 => ?_)
                  · refine g_lloadN X0 hx rfl (hb hby d2_109) 110 rfl ?_
                    refine g_ldc2_w X0 hx hZ hown (wd hw 21 rfl) (hb hby d2_110) 113 rfl ?_
                    refine g_lif_lt X0 hx (hb hby d2_113) 114 rfl (hb hby d2_114) 128 117 (by decide) rfl rfl (fun q113 => ?_) (fun q113 => ?_)
                    · refine g_bipush X0 hx (8 : Int32) rfl (hb hby d2_128) 130 rfl ?_
                      exact g_reti X0 hx hret hlk (by decide) (by decide) (hb hby d2_130) ⟨congrArg (fun z => some (Value.int z)) (show fx v0 = _ from ((if_neg q4).trans ((if_neg q12).trans ((if_pos q22).trans ((if_pos q40).trans ((if_neg q58).trans ((if_neg q66).trans ((if_neg q76).trans ((if_neg q84).trans ((if_pos q94).trans ((if_pos q113).trans rfl))))))))))).symm, eq0, rfl⟩
                    · refine g_lloadN X0 hx rfl (hb hby d2_117) 118 rfl ?_
                      refine g_ldc2_w X0 hx hZ hown (wd hw 22 rfl) (hb hby d2_118) 121 rfl ?_
                      refine g_lif_ge X0 hx (hb hby d2_121) 122 rfl (hb hby d2_122) 128 125 (by decide) rfl rfl (fun q121 => ?_) (fun q121 => ?_)
                      · refine g_bipush X0 hx (8 : Int32) rfl (hb hby d2_128) 130 rfl ?_
                        exact g_reti X0 hx hret hlk (by decide) (by decide) (hb hby d2_130) ⟨congrArg (fun z => some (Value.int z)) (show fx v0 = _ from ((if_neg q4).trans ((if_neg q12).trans ((if_pos q22).trans ((if_pos q40).trans ((if_neg q58).trans ((if_neg q66).trans ((if_neg q76).trans ((if_neg q84).trans ((if_pos q94).trans ((if_neg q113).trans ((if_neg q121).trans rfl)))))))))))).symm, eq0, rfl⟩
                      · refine g_bipush X0 hx (7 : Int32) rfl (hb hby d2_125) 127 rfl ?_
                        exact g_reti X0 hx hret hlk (by decide) (by decide) (hb hby d2_127) ⟨congrArg (fun z => some (Value.int z)) (show fx v0 = _ from ((if_neg q4).trans ((if_neg q12).trans ((if_pos q22).trans ((if_pos q40).trans ((if_neg q58).trans ((if_neg q66).trans ((if_neg q76).trans ((if_neg q84).trans ((if_pos q94).trans ((if_neg q113).trans ((if_pos q121).trans rfl)))))))))))).symm, eq0, rfl⟩
                  · refine g_lloadN X0 hx rfl (hb hby d2_98) 99 rfl ?_
                    refine g_ldc2_w X0 hx hZ hown (wd hw 26 rfl) (hb hby d2_99) 102 rfl ?_
                    refine g_lif_ge X0 hx (hb hby d2_102) 103 rfl (hb hby d2_103) 109 106 (by decide) rfl rfl (fun q102 => ?_) (fun q102 => ?_)
                    · refine g_lloadN X0 hx rfl (hb hby d2_109) 110 rfl ?_
                      refine g_ldc2_w X0 hx hZ hown (wd hw 21 rfl) (hb hby d2_110) 113 rfl ?_
                      refine g_lif_lt X0 hx (hb hby d2_113) 114 rfl (hb hby d2_114) 128 117 (by decide) rfl rfl (fun q113 => ?_) (fun q113 => ?_)
                      · refine g_bipush X0 hx (8 : Int32) rfl (hb hby d2_128) 130 rfl ?_
                        exact g_reti X0 hx hret hlk (by decide) (by decide) (hb hby d2_130) ⟨congrArg (fun z => some (Value.int z)) (show fx v0 = _ from ((if_neg q4).trans ((if_neg q12).trans ((if_pos q22).trans ((if_pos q40).trans ((if_neg q58).trans ((if_neg q66).trans ((if_neg q76).trans ((if_neg q84).trans ((if_neg q94).trans ((if_neg q102).trans ((if_pos q113).trans rfl)))))))))))).symm, eq0, rfl⟩
                      · refine g_lloadN X0 hx rfl (hb hby d2_117) 118 rfl ?_
                        refine g_ldc2_w X0 hx hZ hown (wd hw 22 rfl) (hb hby d2_118) 121 rfl ?_
                        refine g_lif_ge X0 hx (hb hby d2_121) 122 rfl (hb hby d2_122) 128 125 (by decide) rfl rfl (fun q121 => ?_) (fun q121 => ?_)
                        · refine g_bipush X0 hx (8 : Int32) rfl (hb hby d2_128) 130 rfl ?_
                          exact g_reti X0 hx hret hlk (by decide) (by decide) (hb hby d2_130) ⟨congrArg (fun z => some (Value.int z)) (show fx v0 = _ from ((if_neg q4).trans ((if_neg q12).trans ((if_pos q22).trans ((if_pos q40).trans ((if_neg q58).trans ((if_neg q66).trans ((if_neg q76).trans ((if_neg q84).trans ((if_neg q94).trans ((if_neg q102).trans ((if_neg q113).trans ((if_neg q121).trans rfl))))))))))))).symm, eq0, rfl⟩
                        · refine g_bipush X0 hx (7 : Int32) rfl (hb hby d2_125) 127 rfl ?_
                          exact g_reti X0 hx hret hlk (by decide) (by decide) (hb hby d2_127) ⟨congrArg (fun z => some (Value.int z)) (show fx v0 = _ from ((if_neg q4).trans ((if_neg q12).trans ((if_pos q22).trans ((if_pos q40).trans ((if_neg q58).trans ((if_neg q66).trans ((if_neg q76).trans ((if_neg q84).trans ((if_neg q94).trans ((if_neg q102).trans ((if_neg q113).trans ((if_pos q121).trans rfl))))))))))))).symm, eq0, rfl⟩
                    · refine g_bipush X0 hx (6 : Int32) rfl (hb hby d2_106) 108 rfl ?_
                      exact g_reti X0 hx hret hlk (by decide) (by decide) (hb hby d2_108) ⟨congrArg (fun z => some (Value.int z)) (show fx v0 = _ from ((if_neg q4).trans ((if_neg q12).trans ((if_pos q22).trans ((if_pos q40).trans ((if_neg q58).trans ((if_neg q66).trans ((if_neg q76).trans ((if_neg q84).trans ((if_neg q94).trans ((if_pos q102).trans rfl))))))))))).symm, eq0, rfl⟩
                · refine g_iconst X0 hx (5 : Int32) rfl (hb hby d2_88) 89 rfl ?_
                  exact g_reti X0 hx hret hlk (by decide) (by decide) (hb hby d2_89) ⟨congrArg (fun z => some (Value.int z)) (show fx v0 = _ from ((if_neg q4).trans ((if_neg q12).trans ((if_pos q22).trans ((if_pos q40).trans ((if_neg q58).trans ((if_neg q66).trans ((if_neg q76).trans ((if_pos q84).trans rfl))))))))).symm, eq0, rfl⟩
            · refine g_iconst X0 hx (4 : Int32) rfl (hb hby d2_70) 71 rfl ?_
              exact g_reti X0 hx hret hlk (by decide) (by decide) (hb hby d2_71) ⟨congrArg (fun z => some (Value.int z)) (show fx v0 = _ from ((if_neg q4).trans ((if_neg q12).trans ((if_pos q22).trans ((if_pos q40).trans ((if_neg q58).trans ((if_pos q66).trans rfl))))))).symm, eq0, rfl⟩
        · refine g_lloadN X0 hx rfl (hb hby d2_44) 45 rfl ?_
          refine g_ldc2_w X0 hx hZ hown (wd hw 24 rfl) (hb hby d2_45) 48 rfl ?_
          refine g_lif_ge X0 hx (hb hby d2_48) 49 rfl (hb hby d2_49) 54 52 (by decide) rfl rfl (fun q48 => ?_) (fun q48 => ?_)
          · refine g_lloadN X0 hx rfl (hb hby d2_54) 55 rfl ?_
            refine g_ldc2_w X0 hx hZ hown (wd hw 16 rfl) (hb hby d2_55) 58 rfl ?_
            refine g_lif_lt X0 hx (hb hby d2_58) 59 rfl (hb hby d2_59) 72 62 (by decide) rfl rfl (fun q58 => ?_) (fun q58 => ?_)
            · refine g_lloadN X0 hx rfl (hb hby d2_72) 73 rfl ?_
              refine g_ldc2_w X0 hx hZ hown (wd hw 17 rfl) (hb hby d2_73) 76 rfl ?_
              refine g_lif_lt X0 hx (hb hby d2_76) 77 rfl (hb hby d2_77) 90 80 (by decide) rfl rfl (fun q76 => ?_) (fun q76 => ?_)
              · refine g_lloadN X0 hx rfl (hb hby d2_90) 91 rfl ?_
                refine g_ldc2_w X0 hx hZ hown (wd hw 20 rfl) (hb hby d2_91) 94 rfl ?_
                refine g_lif_lt X0 hx (hb hby d2_94) 95 rfl (hb hby d2_95) 109 98 (by decide) rfl rfl (fun q94 => ?_) (fun q94 => ?_)
                · refine g_lloadN X0 hx rfl (hb hby d2_109) 110 rfl ?_
                  refine g_ldc2_w X0 hx hZ hown (wd hw 21 rfl) (hb hby d2_110) 113 rfl ?_
                  refine g_lif_lt X0 hx (hb hby d2_113) 114 rfl (hb hby d2_114) 128 117 (by decide) rfl rfl (fun q113 => ?_) (fun q113 => ?_)
                  · refine g_bipush X0 hx (8 : Int32) rfl (hb hby d2_128) 130 rfl ?_
                    exact g_reti X0 hx hret hlk (by decide) (by decide) (hb hby d2_130) ⟨congrArg (fun z => some (Value.int z)) (show fx v0 = _ from ((if_neg q4).trans ((if_neg q12).trans ((if_pos q22).trans ((if_neg q40).trans ((if_neg q48).trans ((if_pos q58).trans ((if_pos q76).trans ((if_pos q94).trans ((if_pos q113).trans rfl)))))))))).symm, eq0, rfl⟩
                  · refine g_lloadN X0 hx rfl (hb hby d2_117) 118 rfl ?_
                    refine g_ldc2_w X0 hx hZ hown (wd hw 22 rfl) (hb hby d2_118) 121 rfl ?_
                    refine g_lif_ge X0 hx (hb hby d2_121) 122 rfl (hb hby d2_122) 128 125 (by decide) rfl rfl (fun q121 => ?_) (fun q121 => ?_)
                    · refine g_bipush X0 hx (8 : Int32) rfl (hb hby d2_128) 130 rfl ?_
                      exact g_reti X0 hx hret hlk (by decide) (by decide) (hb hby d2_130) ⟨congrArg (fun z => some (Value.int z)) (show fx v0 = _ from ((if_neg q4).trans ((if_neg q12).trans ((if_pos q22).trans ((if_neg q40).trans ((if_neg q48).trans ((if_pos q58).trans ((if_pos q76).trans ((if_pos q94).trans ((if_neg q113).trans ((if_neg q121).trans rfl))))))))))).symm, eq0, rfl⟩
                    · refine g_bipush X0 hx (7 : Int32) rfl (hb hby d2_125) 127 rfl ?_
                      exact g_reti X0 hx hret hlk (by decide) (by decide) (hb hby d2_127) ⟨congrArg (fun z => some (Value.int z)) (show fx v0 = _ from ((if_neg q4).trans ((if_neg q12).trans ((if_pos q22).trans ((if_neg q40).trans ((if_neg q48).trans ((if_pos q58).trans ((if_pos q76).trans ((if_pos q94).trans ((if_neg q113).trans ((if_pos q121).trans rfl))))))))))).symm, eq0, rfl⟩
                · refine g_lloadN X0 hx rfl (hb hby d2_98) 99 rfl ?_
                  refine g_ldc2_w X0 hx hZ hown (wd hw 26 rfl) (hb hby d2_99) 102 rfl ?_
                  refine g_lif_ge X0 hx (hb hby d2_102) 103 rfl (hb hby d2_103) 109 106 (by decide) rfl rfl (fun q102 => ?_) (fun q102 => ?_)
                  · refine g_lloadN X0 hx rfl (hb hby d2_109) 110 rfl ?_
                    refine g_ldc2_w X0 hx hZ hown (wd hw 21 rfl) (hb hby d2_110) 113 rfl ?_
                    refine g_lif_lt X0 hx (hb hby d2_113) 114 rfl (hb hby d2_114) 128 117 (by decide) rfl rfl (fun q113 => ?_) (fun q113 => ?_)
                    · refine g_bipush X0 hx (8 : Int32) rfl (hb hby d2_128) 130 rfl ?_
                      exact g_reti X0 hx hret hlk (by decide) (by decide) (hb hby d2_130) ⟨congrArg (fun z => some (Value.int z)) (show fx v0 = _ from ((if_neg q4).trans ((if_neg q12).trans ((if_pos q22).trans ((if_neg q40).trans ((if_neg q48).trans ((if_pos q58).trans ((if_pos q76).trans ((if_neg q94).trans ((if_neg q102).trans ((if_pos q113).trans rfl))))))))))).symm, eq0, rfl⟩
                    · refine g_lloadN X0 hx rfl (hb hby d2_117) 118 rfl ?_
                      refine g_ldc2_w X0 hx hZ hown (wd hw 22 rfl) (hb hby d2_118) 121 rfl ?_
                      refine g_lif_ge X0 hx (hb hby d2_121) 122 rfl (hb hby d2_122) 128 125 (by decide) rfl rfl (fun q121 => ?_) (fun q121 => ?_)
                      · refine g_bipush X0 hx (8 : Int32) rfl (hb hby d2_128) 130 rfl ?_
                        exact g_reti X0 hx hret hlk (by decide) (by decide) (hb hby d2_130) ⟨congrArg (fun z => some (Value.int z)) (show fx v0 = _ from ((if_neg q4).trans ((if_neg q12).trans ((if_pos q22).trans ((if_neg q40).trans ((if_neg q48).trans ((if_pos q58).trans ((if_pos q76).trans ((if_neg q94).trans ((if_neg q102).trans ((if_neg q113).trans ((if_neg q121).trans rfl)))))))))))).symm, eq0, rfl⟩
                      · refine g_bipush X0 hx (7 : Int32) rfl (hb hby d2_125) 127 rfl ?_
                        exact g_reti X0 hx hret hlk (by decide) (by decide) (hb hby d2_127) ⟨congrArg (fun z => some (Value.int z)) (show fx v0 = _ from ((if_neg q4).trans ((if_neg q12).trans ((if_pos q22).trans ((if_neg q40).trans ((if_neg q48).trans ((if_pos q58).trans ((if_pos q76).trans ((if_neg q94).trans ((if_neg q102).trans ((if_neg q113).trans ((if_pos q121).trans rfl)))))))))))).symm, eq0, rfl⟩
                  · refine g_bipush X0 hx (6 : Int32) rfl (hb hby d2_106) 108 rfl ?_
                    exact g_reti X0 hx hret hlk (by decide) (by decide) (hb hby d2_108) ⟨congrArg (fun z => some (Value.int z)) (show fx v0 = _ from ((if_neg q4).trans ((if_neg q12).trans ((if_pos q22).trans ((if_neg q40).trans ((if_neg q48).trans ((if_pos q58).trans ((if_pos q76).trans ((if_neg q94).trans ((if_pos q102).trans rfl)))))))))).symm, eq0, rfl⟩
              · refine g_lloadN X0 hx rfl (hb hby d2_80) 81 rfl ?_
                refine g_ldc2_w X0 hx hZ hown (wd hw 18 rfl) (hb hby d2_81) 84 rfl ?_
                refine g_lif_ge X0 hx (hb hby d2_84) 85 rfl (hb hby d2_85) 90 88 (by decide) rfl rfl (fun q84 => ?_) (fun q84 => ?_)
                · refine g_lloadN X0 hx rfl (hb hby d2_90) 91 rfl ?_
                  refine g_ldc2_w X0 hx hZ hown (wd hw 20 rfl) (hb hby d2_91) 94 rfl ?_
                  refine g_lif_lt X0 hx (hb hby d2_94) 95 rfl (hb hby d2_95) 109 98 (by decide) rfl rfl (fun q94 => ?_) (fun q94 => ?_)
                  · refine g_lloadN X0 hx rfl (hb hby d2_109) 110 rfl ?_
                    refine g_ldc2_w X0 hx hZ hown (wd hw 21 rfl) (hb hby d2_110) 113 rfl ?_
                    refine g_lif_lt X0 hx (hb hby d2_113) 114 rfl (hb hby d2_114) 128 117 (by decide) rfl rfl (fun q113 => ?_) (fun q113 => ?_)
                    · refine g_bipush X0 hx (8 : Int32) rfl (hb hby d2_128) 130 rfl ?_
                      exact g_reti X0 hx hret hlk (by decide) (by decide) (hb hby d2_130) ⟨congrArg (fun z => some (Value.int z)) (show fx v0 = _ from ((if_neg q4).trans ((if_neg q12).trans ((if_pos q22).trans ((if_neg q40).trans ((if_neg q48).trans ((if_pos q58).trans ((if_neg q76).trans ((if_neg q84).trans ((if_pos q94).trans ((if_pos q113).trans rfl))))))))))).symm, eq0, rfl⟩
                    · refine g_lloadN X0 hx rfl (hb hby d2_117) 118 rfl ?_
                      refine g_ldc2_w X0 hx hZ hown (wd hw 22 rfl) (hb hby d2_118) 121 rfl ?_
                      refine g_lif_ge X0 hx (hb hby d2_121) 122 rfl (hb hby d2_122) 128 125 (by decide) rfl rfl (fun q121 => ?_) (fun q121 => ?_)
                      · refine g_bipush X0 hx (8 : Int32) rfl (hb hby d2_128) 130 rfl ?_
                        exact g_reti X0 hx hret hlk (by decide) (by decide) (hb hby d2_130) ⟨congrArg (fun z => some (Value.int z)) (show fx v0 = _ from ((if_neg q4).trans ((if_neg q12).trans ((if_pos q22).trans ((if_neg q40).trans ((if_neg q48).trans ((if_pos q58).trans ((if_neg q76).trans ((if_neg q84).trans ((if_pos q94).trans ((if_neg q113).trans ((if_neg q121).trans rfl)))))))))))).symm, eq0, rfl⟩
                      · refine g_bipush X0 hx (7 : Int32) rfl (hb hby d2_125) 127 rfl ?_
                        exact g_reti X0 hx hret hlk (by decide) (by decide) (hb hby d2_127) ⟨congrArg (fun z => some (Value.int z)) (show fx v0 = _ from ((if_neg q4).trans ((if_neg q12).trans ((if_pos q22).trans ((if_neg q40).trans ((if_neg q48).trans ((if_pos q58).trans ((if_neg q76).trans ((if_neg q84).trans ((if_pos q94).trans ((if_neg q113).trans ((if_pos q121).trans rfl)))))))))))).symm, eq0, rfl⟩
                  · refine g_lloadN X0 hx rfl (hb hby d2_98) 99 rfl ?_
                    refine g_ldc2_w X0 hx hZ hown (wd hw 26 rfl) (hb hby d2_99) 102 rfl ?_
                    refine g_lif_ge X0 hx (hb hby d2_102) 103 rfl (hb hby d2_103) 109 106 (by decide) rfl rfl (fun q102 => ?_) (fun q102 => ?_)
                    · refine g_lloadN X0 hx rfl (hb hby d2_109) 110 rfl ?_
                      refine g_ldc2_w X0 hx hZ hown (wd hw 21 rfl) (hb hby d2_110) 113 rfl ?_
                      refine g_lif_lt X0 hx (hb hby d2_113) 114 rfl (hb hby d2_114) 128 117 (by decide) rfl rfl (fun q113 => ?_) (fun q113 => ?_)
                      · refine g_bipush X0 hx (8 : Int32) rfl (hb hby d2_128) 130 rfl ?_
                        exact g_reti X0 hx hret hlk (by decide) (by decide) (hb hby d2_130) ⟨congrArg (fun z => some (Value.int z)) (show fx v0 = _ from ((if_neg q4).trans ((if_neg q12).trans ((if_pos q22).trans ((if_neg q40).trans ((if_neg q48).trans ((if_pos q58).trans ((if_neg q76).trans ((if_neg q84).trans ((if_neg q94).trans ((if_neg q102).trans ((if_pos q113).trans rfl)))))))))))).symm, eq0, rfl⟩
                      · refine g_lloadN X0 hx rfl (hb hby d2_117) 118 rfl ?_
                        refine g_ldc2_w X0 hx hZ hown (wd hw 22 rfl) (hb hby d2_118) 121 rfl ?_
                        refine g_lif_ge X0 hx (hb hby d2_121) 122 rfl (hb hby d2_122) 128 125 (by decide) rfl rfl (fun q121 => ?_) (fun q121 => ?_)
                        · refine g_bipush X0 hx (8 : Int32) rfl (hb hby d2_128) 130 rfl ?_
                          exact g_reti X0 hx hret hlk (by decide) (by decide) (hb hby d2_130) ⟨congrArg (fun z => some (Value.int z)) (show fx v0 = _ from ((if_neg q4).trans ((if_neg q12).trans ((if_pos q22).trans ((if_neg q40).trans ((if_neg q48).trans ((if_pos q58).trans ((if_neg q76).trans ((if_neg q84).trans ((if_neg q94).trans ((if_neg q102).trans ((if_neg q113).trans ((if_neg q121).trans rfl))))))))))))).symm, eq0, rfl⟩
                        · refine g_bipush X0 hx (7 : Int32) rfl (hb hby d2_125) 127 rfl ?_
                          exact g_reti X0 hx hret hlk (by decide) (by decide) (hb hby d2_127) ⟨congrArg (fun z => some (Value.int z)) (show fx v0 = _ from ((if_neg q4).trans ((if_neg q12).trans ((if_pos q22).trans ((if_neg q40).trans ((if_neg q48).trans ((if_pos q58).trans ((if_neg q76).trans ((if_neg q84).trans ((if_neg q94).trans ((if_neg q102).trans ((if_neg q113).trans ((if_pos q121).trans rfl))))))))))))).symm, eq0, rfl⟩
                    · refine g_bipush X0 hx (6 : Int32) rfl (hb hby d2_106) 108 rfl ?_
                      exact g_reti X0 hx hret hlk (by decide) (by decide) (hb hby d2_108) ⟨congrArg (fun z => some (Value.int z)) (show fx v0 = _ from ((if_neg q4).trans ((if_neg q12).trans ((if_pos q22).trans ((if_neg q40).trans ((if_neg q48).trans ((if_pos q58).trans ((if_neg q76).trans ((if_neg q84).trans ((if_neg q94).trans ((if_pos q102).trans rfl))))))))))).symm, eq0, rfl⟩
                · refine g_iconst X0 hx (5 : Int32) rfl (hb hby d2_88) 89 rfl ?_
                  exact g_reti X0 hx hret hlk (by decide) (by decide) (hb hby d2_89) ⟨congrArg (fun z => some (Value.int z)) (show fx v0 = _ from ((if_neg q4).trans ((if_neg q12).trans ((if_pos q22).trans ((if_neg q40).trans ((if_neg q48).trans ((if_pos q58).trans ((if_neg q76).trans ((if_pos q84).trans rfl))))))))).symm, eq0, rfl⟩
            · refine g_lloadN X0 hx rfl (hb hby d2_62) 63 rfl ?_
              refine g_ldc2_w X0 hx hZ hown (wd hw 25 rfl) (hb hby d2_63) 66 rfl ?_
              refine g_lif_ge X0 hx (hb hby d2_66) 67 rfl (hb hby d2_67) 72 70 (by decide) rfl rfl (fun q66 => ?_) (fun q66 => ?_)
              · refine g_lloadN X0 hx rfl (hb hby d2_72) 73 rfl ?_
                refine g_ldc2_w X0 hx hZ hown (wd hw 17 rfl) (hb hby d2_73) 76 rfl ?_
                refine g_lif_lt X0 hx (hb hby d2_76) 77 rfl (hb hby d2_77) 90 80 (by decide) rfl rfl (fun q76 => ?_) (fun q76 => ?_)
                · refine g_lloadN X0 hx rfl (hb hby d2_90) 91 rfl ?_
                  refine g_ldc2_w X0 hx hZ hown (wd hw 20 rfl) (hb hby d2_91) 94 rfl ?_
                  refine g_lif_lt X0 hx (hb hby d2_94) 95 rfl (hb hby d2_95) 109 98 (by decide) rfl rfl (fun q94 => ?_) (fun q94 => ?_)
                  · refine g_lloadN X0 hx rfl (hb hby d2_109) 110 rfl ?_
                    refine g_ldc2_w X0 hx hZ hown (wd hw 21 rfl) (hb hby d2_110) 113 rfl ?_
                    refine g_lif_lt X0 hx (hb hby d2_113) 114 rfl (hb hby d2_114) 128 117 (by decide) rfl rfl (fun q113 => ?_) (fun q113 => ?_)
                    · refine g_bipush X0 hx (8 : Int32) rfl (hb hby d2_128) 130 rfl ?_
                      exact g_reti X0 hx hret hlk (by decide) (by decide) (hb hby d2_130) ⟨congrArg (fun z => some (Value.int z)) (show fx v0 = _ from ((if_neg q4).trans ((if_neg q12).trans ((if_pos q22).trans ((if_neg q40).trans ((if_neg q48).trans ((if_neg q58).trans ((if_neg q66).trans ((if_pos q76).trans ((if_pos q94).trans ((if_pos q113).trans rfl))))))))))).symm, eq0, rfl⟩
                    · refine g_lloadN X0 hx rfl (hb hby d2_117) 118 rfl ?_
                      refine g_ldc2_w X0 hx hZ hown (wd hw 22 rfl) (hb hby d2_118) 121 rfl ?_
                      refine g_lif_ge X0 hx (hb hby d2_121) 122 rfl (hb hby d2_122) 128 125 (by decide) rfl rfl (fun q121 => ?_) (fun q121 => ?_)
                      · refine g_bipush X0 hx (8 : Int32) rfl (hb hby d2_128) 130 rfl ?_
                        exact g_reti X0 hx hret hlk (by decide) (by decide) (hb hby d2_130) ⟨congrArg (fun z => some (Value.int z)) (show fx v0 = _ from ((if_neg q4).trans ((if_neg q12).trans ((if_pos q22).trans ((if_neg q40).trans ((if_neg q48).trans ((if_neg q58).trans ((if_neg q66).trans ((if_pos q76).trans ((if_pos q94).trans ((if_neg q113).trans ((if_neg q121).trans rfl)))))))))))).symm, eq0, rfl⟩
                      · refine g_bipush X0 hx (7 : Int32) rfl (hb hby d2_125) 127 rfl ?_
                        exact g_reti X0 hx hret hlk (by decide) (by decide) (hb hby d2_127) ⟨congrArg (fun z => some (Value.int z)) (show fx v0 = _ from ((if_neg q4).trans ((if_neg q12).trans ((if_pos q22).trans ((if_neg q40).trans ((if_neg q48).trans ((if_neg q58).trans ((if_neg q66).trans ((if_pos q76).trans ((if_pos q94).trans ((if_neg q113).trans ((if_pos q121).trans rfl)))))))))))).symm, eq0, rfl⟩
                  · refine g_lloadN X0 hx rfl (hb hby d2_98) 99 rfl ?_
                    refine g_ldc2_w X0 hx hZ hown (wd hw 26 rfl) (hb hby d2_99) 102 rfl ?_
                    refine g_lif_ge X0 hx (hb hby d2_102) 103 rfl (hb hby d2_103) 109 106 (by decide) rfl rfl (fun q102 => ?_) (fun q102 => ?_)
                    · refine g_lloadN X0 hx rfl (hb hby d2_109) 110 rfl ?_
                      refine g_ldc2_w X0 hx hZ hown (wd hw 21 rfl) (hb hby d2_110) 113 rfl ?_
                      refine g_lif_lt X0 hx (hb hby d2_113) 114 rfl (hb hby d2_114) 128 117 (by decide) rfl rfl (fun q113 => ?_) (fun q113 => ?_)
                      · refine g_bipush X0 hx (8 : Int32) rfl (hb hby d2_128) 130 rfl ?_
                        exact g_reti X0 hx hret hlk (by decide) (by decide) (hb hby d2_130) ⟨congrArg (fun z => some (Value.int z)) (show fx v0 = _ from ((if_neg q4).trans ((if_neg q12).trans ((if_pos q22).trans ((if_neg q40).trans ((if_neg q48).trans ((if_neg q58).trans ((if_neg q66).trans ((if_pos q76).trans ((if_neg q94).trans ((if_neg q102).trans ((if_pos q113).trans rfl)))))))))))).symm, eq0, rfl⟩
                      · refine g_lloadN X0 hx rfl (hb hby d2_117) 118 rfl ?_
                        refine g_ldc2_w X0 hx hZ hown (wd hw 22 rfl) (hb hby d2_118) 121 rfl ?_
                        refine g_lif_ge X0 hx (hb hby d2_121) 122 rfl (hb hby d2_122) 128 125 (by decide) rfl rfl (fun q121 => ?_) (fun q121 => ?_)
                        · refine g_bipush X0 hx (8 : Int32) rfl (hb hby d2_128) 130 rfl ?_
                          exact g_reti X0 hx hret hlk (by decide) (by decide) (hb hby d2_130) ⟨congrArg (fun z => some (Value.int z)) (show fx v0 = _ from ((if_neg q4).trans ((if_neg q12).trans ((if_pos q22).trans ((if_neg q40).trans ((if_neg q48).trans ((if_neg q58).trans ((if_neg q66).trans ((if_pos q76).trans ((if_neg q94).trans ((if_neg q102).trans ((if_neg q113).trans ((if_neg q121).trans rfl))))))))))))).symm, eq0, rfl⟩
                        · refine g_bipush X0 hx (7 : Int32) rfl (hb hby d2_125) 127 rfl ?_
                          exact g_reti X0 hx hret hlk (by decide) (by decide) (hb hby d2_127) ⟨congrArg (fun z => some (Value.int z)) (show fx v0 = _ from ((if_neg q4).trans ((if_neg q12).trans ((if_pos q22).trans ((if_neg q40).trans ((if_neg q48).trans ((if_neg q58).trans ((if_neg q66).trans ((if_pos q76).trans ((if_neg q94).trans ((if_neg q102).trans ((if_neg q113).trans ((if_pos q121).trans rfl))))))))))))).symm, eq0, rfl⟩
                    · refine g_bipush X0 hx (6 : Int32) rfl (hb hby d2_106) 108 rfl ?_
                      exact g_reti X0 hx hret hlk (by decide) (by decide) (hb hby d2_108) ⟨congrArg (fun z => some (Value.int z)) (show fx v0 = _ from ((if_neg q4).trans ((if_neg q12).trans ((if_pos q22).trans ((if_neg q40).trans ((if_neg q48).trans ((if_neg q58).trans ((if_neg q66).trans ((if_pos q76).trans ((if_neg q94).trans ((if_pos q102).trans rfl))))))))))).symm, eq0, rfl⟩
                · refine g_lloadN X0 hx rfl (hb hby d2_80) 81 rfl ?_
                  refine g_ldc2_w X0 hx hZ hown (wd hw 18 rfl) (hb hby d2_81) 84 rfl ?_
                  refine g_lif_ge X0 hx (hb hby d2_84) 85 rfl (hb hby d2_85) 90 88 (by decide) rfl rfl (fun q84 => ?_) (fun q84 => ?_)
                  · refine g_lloadN X0 hx rfl (hb hby d2_90) 91 rfl ?_
                    refine g_ldc2_w X0 hx hZ hown (wd hw 20 rfl) (hb hby d2_91) 94 rfl ?_
                    refine g_lif_lt X0 hx (hb hby d2_94) 95 rfl (hb hby d2_95) 109 98 (by decide) rfl rfl (fun q94 => ?_) (fun q94 => ?_)
                    · refine g_lloadN X0 hx rfl (hb hby d2_109) 110 rfl ?_
                      refine g_ldc2_w X0 hx hZ hown (wd hw 21 rfl) (hb hby d2_110) 113 rfl ?_
                      refine g_lif_lt X0 hx (hb hby d2_113) 114 rfl (hb hby d2_114) 128 117 (by decide) rfl rfl (fun q113 => ?_) (fun q113 => ?_)
                      · refine g_bipush X0 hx (8 : Int32) rfl (hb hby d2_128) 130 rfl ?_
                        exact g_reti X0 hx hret hlk (by decide) (by decide) (hb hby d2_130) ⟨congrArg (fun z => some (Value.int z)) (show fx v0 = _ from ((if_neg q4).trans ((if_neg q12).trans ((if_pos q22).trans ((if_neg q40).trans ((if_neg q48).trans ((if_neg q58).trans ((if_neg q66).trans ((if_neg q76).trans ((if_neg q84).trans ((if_pos q94).trans ((if_pos q113).trans rfl)))))))))))).symm, eq0, rfl⟩
                      · refine g_lloadN X0 hx rfl (hb hby d2_117) 118 rfl ?_
                        refine g_ldc2_w X0 hx hZ hown (wd hw 22 rfl) (hb hby d2_118) 121 rfl ?_
                        refine g_lif_ge X0 hx (hb hby d2_121) 122 rfl (hb hby d2_122) 128 125 (by decide) rfl rfl (fun q121 => ?_) (fun q121 => ?_)
                        · refine g_bipush X0 hx (8 : Int32) rfl (hb hby d2_128) 130 rfl ?_
                          exact g_reti X0 hx hret hlk (by decide) (by decide) (hb hby d2_130) ⟨congrArg (fun z => some (Value.int z)) (show fx v0 = _ from ((if_neg q4).trans ((if_neg q12).trans ((if_pos q22).trans ((if_neg q40).trans ((if_neg q48).trans ((if_neg q58).trans ((if_neg q66).trans ((if_neg q76).trans ((if_neg q84).trans ((if_pos q94).trans ((if_neg q113).trans ((if_neg q121).trans rfl))))))))))))).symm, eq0, rfl⟩
                        · refine g_bipush X0 hx (7 : Int32) rfl (hb hby d2_125) 127 rfl ?_
                          exact g_reti X0 hx hret hlk (by decide) (by decide) (hb hby d2_127) ⟨congrArg (fun z => some (Value.int z)) (show fx v0 = _ from ((if_neg q4).trans ((if_neg q12).trans ((if_pos q22).trans ((if_neg q40).trans ((if_neg q48).trans ((if_neg q58).trans ((if_neg q66).trans ((if_neg q76).trans ((if_neg q84).trans ((if_pos q94).trans ((if_neg q113).trans ((if_pos q121).trans rfl))))))))))))).symm, eq0, rfl⟩
                    · refine g_lloadN X0 hx rfl (hb hby d2_98) 99 rfl ?_
                      refine g_ldc2_w X0 hx hZ hown (wd hw 26 rfl) (hb hby d2_99) 102 rfl ?_
                      refine g_lif_ge X0 hx (hb hby d2_102) 103 rfl (hb hby d2_103) 109 106 (by decide) rfl rfl (fun q102 => ?_) (fun q102 => ?_)
                      · refine g_lloadN X0 hx rfl (hb hby d2_109) 110 rfl ?_
                        refine g_ldc2_w X0 hx hZ hown (wd hw 21 rfl) (hb hby d2_110) 113 rfl ?_
                        refine g_lif_lt X0 hx (hb hby d2_113) 114 rfl (hb hby d2_114) 128 117 (by decide) rfl rfl (fun q113 => ?_) (fun q113 => ?_)
                        · refine g_bipush X0 hx (8 : Int32) rfl (hb hby d2_128) 130 rfl ?_
                          exact g_reti X0 hx hret hlk (by decide) (by decide) (hb hby d2_130) ⟨congrArg (fun z => some (Value.int z)) (show fx v0 = _ from ((if_neg q4).trans ((if_neg q12).trans ((if_pos q22).trans ((if_neg q40).trans ((if_neg q48).trans ((if_neg q58).trans ((if_neg q66).trans ((if_neg q76).trans ((if_neg q84).trans ((if_neg q94).trans ((if_neg q102).trans ((if_pos q113).trans rfl))))))))))))).symm, eq0, rfl⟩
                        · refine g_lloadN X0 hx rfl (hb hby d2_117) 118 rfl ?_
                          refine g_ldc2_w X0 hx hZ hown (wd hw 22 rfl) (hb hby d2_118) 121 rfl ?_
                          refine g_lif_ge X0 hx (hb hby d2_121) 122 rfl (hb hby d2_122) 128 125 (by decide) rfl rfl (fun q121 => ?_) (fun q121 => ?_)
                          · refine g_bipush X0 hx (8 : Int32) rfl (hb hby d2_128) 130 rfl ?_
                            exact g_reti X0 hx hret hlk (by decide) (by decide) (hb hby d2_130) ⟨congrArg (fun z => some (Value.int z)) (show fx v0 = _ from ((if_neg q4).trans ((if_neg q12).trans ((if_pos q22).trans ((if_neg q40).trans ((if_neg q48).trans ((if_neg q58).trans ((if_neg q66).trans ((if_neg q76).trans ((if_neg q84).trans ((if_neg q94).trans ((if_neg q102).trans ((if_neg q113).trans ((if_neg q121).trans rfl)))))))))))))).symm, eq0, rfl⟩
                          · refine g_bipush X0 hx (7 : Int32) rfl (hb hby d2_125) 127 rfl ?_
                            exact g_reti X0 hx hret hlk (by decide) (by decide) (hb hby d2_127) ⟨congrArg (fun z => some (Value.int z)) (show fx v0 = _ from ((if_neg q4).trans ((if_neg q12).trans ((if_pos q22).trans ((if_neg q40).trans ((if_neg q48).trans ((if_neg q58).trans ((if_neg q66).trans ((if_neg q76).trans ((if_neg q84).trans ((if_neg q94).trans ((if_neg q102).trans ((if_neg q113).trans ((if_pos q121).trans rfl)))))))))))))).symm, eq0, rfl⟩
                      · refine g_bipush X0 hx (6 : Int32) rfl (hb hby d2_106) 108 rfl ?_
                        exact g_reti X0 hx hret hlk (by decide) (by decide) (hb hby d2_108) ⟨congrArg (fun z => some (Value.int z)) (show fx v0 = _ from ((if_neg q4).trans ((if_neg q12).trans ((if_pos q22).trans ((if_neg q40).trans ((if_neg q48).trans ((if_neg q58).trans ((if_neg q66).trans ((if_neg q76).trans ((if_neg q84).trans ((if_neg q94).trans ((if_pos q102).trans rfl)))))))))))).symm, eq0, rfl⟩
                  · refine g_iconst X0 hx (5 : Int32) rfl (hb hby d2_88) 89 rfl ?_
                    exact g_reti X0 hx hret hlk (by decide) (by decide) (hb hby d2_89) ⟨congrArg (fun z => some (Value.int z)) (show fx v0 = _ from ((if_neg q4).trans ((if_neg q12).trans ((if_pos q22).trans ((if_neg q40).trans ((if_neg q48).trans ((if_neg q58).trans ((if_neg q66).trans ((if_neg q76).trans ((if_pos q84).trans rfl)))))))))).symm, eq0, rfl⟩
              · refine g_iconst X0 hx (4 : Int32) rfl (hb hby d2_70) 71 rfl ?_
                exact g_reti X0 hx hret hlk (by decide) (by decide) (hb hby d2_71) ⟨congrArg (fun z => some (Value.int z)) (show fx v0 = _ from ((if_neg q4).trans ((if_neg q12).trans ((if_pos q22).trans ((if_neg q40).trans ((if_neg q48).trans ((if_neg q58).trans ((if_pos q66).trans rfl)))))))).symm, eq0, rfl⟩
          · refine g_iconst X0 hx (3 : Int32) rfl (hb hby d2_52) 53 rfl ?_
            exact g_reti X0 hx hret hlk (by decide) (by decide) (hb hby d2_53) ⟨congrArg (fun z => some (Value.int z)) (show fx v0 = _ from ((if_neg q4).trans ((if_neg q12).trans ((if_pos q22).trans ((if_neg q40).trans ((if_pos q48).trans rfl)))))).symm, eq0, rfl⟩
      · refine g_lloadN X0 hx rfl (hb hby d2_26) 27 rfl ?_
        refine g_ldc2_w X0 hx hZ hown (wd hw 23 rfl) (hb hby d2_27) 30 rfl ?_
        refine g_lif_ge X0 hx (hb hby d2_30) 31 rfl (hb hby d2_31) 36 34 (by decide) rfl rfl (fun q30 => ?_) (fun q30 => ?_)
        · refine g_lloadN X0 hx rfl (hb hby d2_36) 37 rfl ?_
          refine g_ldc2_w X0 hx hZ hown (wd hw 15 rfl) (hb hby d2_37) 40 rfl ?_
          refine g_lif_lt X0 hx (hb hby d2_40) 41 rfl (hb hby d2_41) 54 44 (by decide) rfl rfl (fun q40 => ?_) (fun q40 => ?_)
          · refine g_lloadN X0 hx rfl (hb hby d2_54) 55 rfl ?_
            refine g_ldc2_w X0 hx hZ hown (wd hw 16 rfl) (hb hby d2_55) 58 rfl ?_
            refine g_lif_lt X0 hx (hb hby d2_58) 59 rfl (hb hby d2_59) 72 62 (by decide) rfl rfl (fun q58 => ?_) (fun q58 => ?_)
            · refine g_lloadN X0 hx rfl (hb hby d2_72) 73 rfl ?_
              refine g_ldc2_w X0 hx hZ hown (wd hw 17 rfl) (hb hby d2_73) 76 rfl ?_
              refine g_lif_lt X0 hx (hb hby d2_76) 77 rfl (hb hby d2_77) 90 80 (by decide) rfl rfl (fun q76 => ?_) (fun q76 => ?_)
              · refine g_lloadN X0 hx rfl (hb hby d2_90) 91 rfl ?_
                refine g_ldc2_w X0 hx hZ hown (wd hw 20 rfl) (hb hby d2_91) 94 rfl ?_
                refine g_lif_lt X0 hx (hb hby d2_94) 95 rfl (hb hby d2_95) 109 98 (by decide) rfl rfl (fun q94 => ?_) (fun q94 => ?_)
                · refine g_lloadN X0 hx rfl (hb hby d2_109) 110 rfl ?_
                  refine g_ldc2_w X0 hx hZ hown (wd hw 21 rfl) (hb hby d2_110) 113 rfl ?_
                  refine g_lif_lt X0 hx (hb hby d2_113) 114 rfl (hb hby d2_114) 128 117 (by decide) rfl rfl (fun q113 => ?_) (fun q113 => ?_)
                  · refine g_bipush X0 hx (8 : Int32) rfl (hb hby d2_128) 130 rfl ?_
                    exact g_reti X0 hx hret hlk (by decide) (by decide) (hb hby d2_130) ⟨congrArg (fun z => some (Value.int z)) (show fx v0 = _ from ((if_neg q4).trans ((if_neg q12).trans ((if_neg q22).trans ((if_neg q30).trans ((if_pos q40).trans ((if_pos q58).trans ((if_pos q76).trans ((if_pos q94).trans ((if_pos q113).trans rfl)))))))))).symm, eq0, rfl⟩
                  · refine g_lloadN X0 hx rfl (hb hby d2_117) 118 rfl ?_
                    refine g_ldc2_w X0 hx hZ hown (wd hw 22 rfl) (hb hby d2_118) 121 rfl ?_
                    refine g_lif_ge X0 hx (hb hby d2_121) 122 rfl (hb hby d2_122) 128 125 (by decide) rfl rfl (fun q121 => ?_) (fun q121 => ?_)
                    · refine g_bipush X0 hx (8 : Int32) rfl (hb hby d2_128) 130 rfl ?_
                      exact g_reti X0 hx hret hlk (by decide) (by decide) (hb hby d2_130) ⟨congrArg (fun z => some (Value.int z)) (show fx v0 = _ from ((if_neg q4).trans ((if_neg q12).trans ((if_neg q22).trans ((if_neg q30).trans ((if_pos q40).trans ((if_pos q58).trans ((if_pos q76).trans ((if_pos q94).trans ((if_neg q113).trans ((if_neg q121).trans rfl))))))))))).symm, eq0, rfl⟩
                    · refine g_bipush X0 hx (7 : Int32) rfl (hb hby d2_125) 127 rfl ?_
                      exact g_reti X0 hx hret hlk (by decide) (by decide) (hb hby d2_127) ⟨congrArg (fun z => some (Value.int z)) (show fx v0 = _ from ((if_neg q4).trans ((if_neg q12).trans ((if_neg q22).trans ((if_neg q30).trans ((if_pos q40).trans ((if_pos q58).trans ((if_pos q76).trans ((if_pos q94).trans ((if_neg q113).trans ((if_pos q121).trans rfl))))))))))).symm, eq0, rfl⟩
                · refine g_lloadN X0 hx rfl (hb hby d2_98) 99 rfl ?_
                  refine g_ldc2_w X0 hx hZ hown (wd hw 26 rfl) (hb hby d2_99) 102 rfl ?_
                  refine g_lif_ge X0 hx (hb hby d2_102) 103 rfl (hb hby d2_103) 109 106 (by decide) rfl rfl (fun q102 => ?_) (fun q102 => ?_)
                  · refine g_lloadN X0 hx rfl (hb hby d2_109) 110 rfl ?_
                    refine g_ldc2_w X0 hx hZ hown (wd hw 21 rfl) (hb hby d2_110) 113 rfl ?_
                    refine g_lif_lt X0 hx (hb hby d2_113) 114 rfl (hb hby d2_114) 128 117 (by decide) rfl rfl (fun q113 => ?_) (fun q113 => ?_)
                    · refine g_bipush X0 hx (8 : Int32) rfl (hb hby d2_128) 130 rfl ?_
                      exact g_reti X0 hx hret hlk (by decide) (by decide) (hb hby d2_130) ⟨congrArg (fun z => some (Value.int z)) (show fx v0 = _ from ((if_neg q4).trans ((if_neg q12).trans ((if_neg q22).trans ((if_neg q30).trans ((if_pos q40).trans ((if_pos q58).trans ((if_pos q76).trans ((if_neg q94).trans ((if_neg q102).trans ((if_pos q113).trans rfl))))))))))).symm, eq0, rfl⟩
                    · refine g_lloadN X0 hx rfl (hb hby d2_117) 118 rfl ?_
                      refine g_ldc2_w X0 hx hZ hown (wd hw 22 rfl) (hb hby d2_118) 121 rfl ?_
                      refine g_lif_ge X0 hx (hb hby d2_121) 122 rfl (hb hby d2_122) 128 125 (by decide) rfl rfl (fun q121 => ?_) (fun q121 => ?_)
                      · refine g_bipush X0 hx (8 : Int32) rfl (hb hby d2_128) 130 rfl ?_
                        exact g_reti X0 hx hret hlk (by decide) (by decide) (hb hby d2_130) ⟨congrArg (fun z => some (Value.int z)) (show fx v0 = _ from ((if_neg q4).trans ((if_neg q12).trans ((if_neg q22).trans ((if_neg q30).trans ((if_pos q40).trans ((if_pos q58).trans ((if_pos q76).trans ((if_neg q94).trans ((if_neg q102).trans ((if_neg q113).trans ((if_neg q121).trans rfl)))))))))))).symm, eq0, rfl⟩
                      · refine g_bipush X0 hx (7 : Int32) rfl (hb hby d2_125) 127 rfl ?_
                        exact g_reti X0 hx hret hlk (by decide) (by decide) (hb hby d2_127) ⟨congrArg (fun z => some (Value.int z)) (show fx v0 = _ from ((if_neg q4).trans ((if_neg q12).trans ((if_neg q22).trans ((if_neg q30).trans ((if_pos q40).trans ((if_pos q58).trans ((if_pos q76).trans ((if_neg q94).trans ((if_neg q102).trans ((if_neg q113).trans ((if_pos q121).trans rfl)))))))))))).symm, eq0, rfl⟩
                  · refine g_bipush X0 hx (6 : Int32) rfl (hb hby d2_106) 108 rfl ?_
                    exact g_reti X0 hx hret hlk (by decide) (by decide) (hb hby d2_108) ⟨congrArg (fun z => some (Value.int z)) (show fx v0 = _ from ((if_neg q4).trans ((if_neg q12).trans ((if_neg q22).trans ((if_neg q30).trans ((if_pos q40).trans ((if_pos q58).trans ((if_pos q76).trans ((if_neg q94).trans ((if_pos q102).trans rfl)))))))))).symm, eq0, rfl⟩
              · refine g_lloadN X0 hx rfl (hb hby d2_80) 81 rfl ?_
                refine g_ldc2_w X0 hx hZ hown (wd hw 18 rfl) (hb hby d2_81) 84 rfl ?_
                refine g_lif_ge X0 hx (hb hby d2_84) 85 rfl (hb hby d2_85) 90 88 (by decide) rfl rfl (fun q84 => ?_) (fun q84 => ?_)
                · refine g_lloadN X0 hx rfl (hb hby d2_90) 91 rfl ?_
                  refine g_ldc2_w X0 hx hZ hown (wd hw 20 rfl) (hb hby d2_91) 94 rfl ?_
                  refine g_lif_lt X0 hx (hb hby d2_94) 95 rfl (hb hby d2_95) 109 98 (by decide) rfl rfl (fun q94 => ?_) (fun q94 => ?_)
                  · refine g_lloadN X0 hx rfl (hb hby d2_109) 110 rfl ?_
                    refine g_ldc2_w X0 hx hZ hown (wd hw 21 rfl) (hb hby d2_110) 113 rfl ?_
                    refine g_lif_lt X0 hx (hb hby d2_113) 114 rfl (hb hby d2_114) 128 117 (by decide) rfl rfl (fun q113 => ?_) (fun q113 => ?_)
                    · refine g_bipush X0 hx (8 : Int32) rfl (hb hby d2_128) 130 rfl ?_
                      exact g_reti X0 hx hret hlk (by decide) (by decide) (hb hby d2_130) ⟨congrArg (fun z => some (Value.int z)) (show fx v0 = _ from ((if_neg q4).trans ((if_neg q12).trans ((if_neg q22).trans ((if_neg q30).trans ((if_pos q40).trans ((if_pos q58).trans ((if_neg q76).trans ((if_neg q84).trans ((if_pos q94).trans ((if_pos q113).trans rfl))))))))))).symm, eq0, rfl⟩
                    · refine g_lloadN X0 hx rfl (hb hby d2_117) 118 rfl ?_
                      refine g_ldc2_w X0 hx hZ hown (wd hw 22 rfl) (hb hby d2_118) 121 rfl ?_
                      refine g_lif_ge X0 hx (hb hby d2_121) 122 rfl (hb hby d2_122) 128 125 (by decide) rfl rfl (fun q121 => ?_) (fun q121 => ?_)
                      · refine g_bipush X0 hx (8 : Int32) rfl (hb hby d2_128) 130 rfl ?_
                        exact g_reti X0 hx hret hlk (by decide) (by decide) (hb hby d2_130) ⟨congrArg (fun z => some (Value.int z)) (show fx v0 = _ from ((if_neg q4).trans ((if_neg q12).trans ((if_neg q22).trans ((if_neg q30).trans ((if_pos q40).trans ((if_pos q58).trans ((if_neg q76).trans ((if_neg q84).trans ((if_pos q94).trans ((if_neg q113).trans ((if_neg q121).trans rfl)))))))))))).symm, eq0, rfl⟩
                      · refine g_bipush X0 hx (7 : Int32) rfl (hb hby d2_125) 127 rfl ?_
                        exact g_reti X0 hx hret hlk (by decide) (by decide) (hb hby d2_127) ⟨congrArg (fun z => some (Value.int z)) (show fx v0 = _ from ((if_neg q4).trans ((if_neg q12).trans ((if_neg q22).trans ((if_neg q30).trans ((if_pos q40).trans ((if_pos q58).trans ((if_neg q76).trans ((if_neg q84).trans ((if_pos q94).trans ((if_neg q113).trans ((if_pos q121).trans rfl)))))))))))).symm, eq0, rfl⟩
                  · refine g_lloadN X0 hx rfl (hb hby d2_98) 99 rfl ?_
                    refine g_ldc2_w X0 hx hZ hown (wd hw 26 rfl) (hb hby d2_99) 102 rfl ?_
                    refine g_lif_ge X0 hx (hb hby d2_102) 103 rfl (hb hby d2_103) 109 106 (by decide) rfl rfl (fun q102 => ?_) (fun q102 => ?_)
                    · refine g_lloadN X0 hx rfl (hb hby d2_109) 110 rfl ?_
                      refine g_ldc2_w X0 hx hZ hown (wd hw 21 rfl) (hb hby d2_110) 113 rfl ?_
                      refine g_lif_lt X0 hx (hb hby d2_113) 114 rfl (hb hby d2_114) 128 117 (by decide) rfl rfl (fun q113 => ?_) (fun q113 => ?_)
                      · refine g_bipush X0 hx (8 : Int32) rfl (hb hby d2_128) 130 rfl ?_
                        exact g_reti X0 hx hret hlk (by decide) (by decide) (hb hby d2_130) ⟨congrArg (fun z => some (Value.int z)) (show fx v0 = _ from ((if_neg q4).trans ((if_neg q12).trans ((if_neg q22).trans ((if_neg q30).trans ((if_pos q40).trans ((if_pos q58).trans ((if_neg q76).trans ((if_neg q84).trans ((if_neg q94).trans ((if_neg q102).trans ((if_pos q113).trans rfl)))))))))))).symm, eq0, rfl⟩
                      · refine g_lloadN X0 hx rfl (hb hby d2_117) 118 rfl ?_
                        refine g_ldc2_w X0 hx hZ hown (wd hw 22 rfl) (hb hby d2_118) 121 rfl ?_
                        refine g_lif_ge X0 hx (hb hby d2_121) 122 rfl (hb hby d2_122) 128 125 (by decide) rfl rfl (fun q121 => ?_) (fun q121 => ?_)
                        · refine g_bipush X0 hx (8 : Int32) rfl (hb hby d2_128) 130 rfl ?_
                          exact g_reti X0 hx hret hlk (by decide) (by decide) (hb hby d2_130) ⟨congrArg (fun z => some (Value.int z)) (show fx v0 = _ from ((if_neg q4).trans ((if_neg q12).trans ((if_neg q22).trans ((if_neg q30).trans ((if_pos q40).trans ((if_pos q58).trans ((if_neg q76).trans ((if_neg q84).trans ((if_neg q94).trans ((if_neg q102).trans ((if_neg q113).trans ((if_neg q121).trans rfl))))))))))))).symm, eq0, rfl⟩
                        · refine g_bipush X0 hx (7 : Int32) rfl (hb hby d2_125) 127 rfl ?_
                          exact g_reti X0 hx hret hlk (by decide) (by decide) (hb hby d2_127) ⟨congrArg (fun z => some (Value.int z)) (show fx v0 = _ from ((if_neg q4).trans ((if_neg q12).trans ((if_neg q22).trans ((if_neg q30).trans ((if_pos q40).trans ((if_pos q58).trans ((if_neg q76).trans ((if_neg q84).trans ((if_neg q94).trans ((if_neg q102).trans ((if_neg q113).trans ((if_pos q121).trans rfl))))))))))))).symm, eq0, rfl⟩
                    · refine g_bipush X0 hx (6 : Int32) rfl (hb hby d2_106) 108 rfl ?_
                      exact g_reti X0 hx hret hlk (by decide) (by decide) (hb hby d2_108) ⟨congrArg (fun z => some (Value.int z)) (show fx v0 = _ from ((if_neg q4).trans ((if_neg q12).trans ((if_neg q22).trans ((if_neg q30).trans ((if_pos q40).trans ((if_pos q58).trans ((if_neg q76).trans ((if_neg q84).trans ((if_neg q94).trans ((if_pos q102).trans rfl))))))))))).symm, eq0, rfl⟩
                · refine g_iconst X0 hx (5 : Int32) rfl (hb hby d2_88) 89 rfl ?_
                  exact g_reti X0 hx hret hlk (by decide) (by decide) (hb hby d2_89) ⟨congrArg (fun z => some (Value.int z)) (show fx v0 = _ from ((if_neg q4).trans ((if_neg q12).trans ((if_neg q22).trans ((if_neg q30).trans ((if_pos q40).trans ((if_pos q58).trans ((if_neg q76).trans ((if_pos q84).trans rfl))))))))).symm, eq0, rfl⟩
            · refine g_lloadN X0 hx rfl (hb hby d2_62) 63 rfl ?_
              refine g_ldc2_w X0 hx hZ hown (wd hw 25 rfl) (hb hby d2_63) 66 rfl ?_
              refine g_lif_ge X0 hx (hb hby d2_66) 67 rfl (hb hby d2_67) 72 70 (by decide) rfl rfl (fun q66 => ?_) (fun q66 => ?_)
              · refine g_lloadN X0 hx rfl (hb hby d2_72) 73 rfl ?_
                refine g_ldc2_w X0 hx hZ hown (wd hw 17 rfl) (hb hby d2_73) 76 rfl ?_
                refine g_lif_lt X0 hx (hb hby d2_76) 77 rfl (hb hby d2_77) 90 80 (by decide) rfl rfl (fun q76 => ?_) (fun q76 => ?_)
                · refine g_lloadN X0 hx rfl (hb hby d2_90) 91 rfl ?_
                  refine g_ldc2_w X0 hx hZ hown (wd hw 20 rfl) (hb hby d2_91) 94 rfl ?_
                  refine g_lif_lt X0 hx (hb hby d2_94) 95 rfl (hb hby d2_95) 109 98 (by decide) rfl rfl (fun q94 => ?_) (fun q94 => ?_)
                  · refine g_lloadN X0 hx rfl (hb hby d2_109) 110 rfl ?_
                    refine g_ldc2_w X0 hx hZ hown (wd hw 21 rfl) (hb hby d2_110) 113 rfl ?_
                    refine g_lif_lt X0 hx (hb hby d2_113) 114 rfl (hb hby d2_114) 128 117 (by decide) rfl rfl (fun q113 => ?_) (fun q113 => ?_)
                    · refine g_bipush X0 hx (8 : Int32) rfl (hb hby d2_128) 130 rfl ?_
                      exact g_reti X0 hx hret hlk (by decide) (by decide) (hb hby d2_130) ⟨congrArg (fun z => some (Value.int z)) (show fx v0 = _ from ((if_neg q4).trans ((if_neg q12).trans ((if_neg q22).trans ((if_neg q30).trans ((if_pos q40).trans ((if_neg q58).trans ((if_neg q66).trans ((if_pos q76).trans ((if_pos q94).trans ((if_pos q113).trans rfl))))))))))).symm, eq0, rfl⟩
                    · refine g_lloadN X0 hx rfl (hb hby d2_117) 118 rfl ?_
                      refine g_ldc2_w X0 hx hZ hown (wd hw 22 rfl) (hb hby d2_118) 121 rfl ?_
                      refine g_lif_ge X0 hx (hb hby d2_121) 122 rfl (hb hby d2_122) 128 125 (by decide) rfl rfl (fun q121 => ?_) (fun q121 => ?_)
                      · refine g_bipush X0 hx (8 : Int32) rfl (hb hby d2_128) 130 rfl ?_
                        exact g_reti X0 hx hret hlk (by decide) (by decide) (hb hby d2_130) ⟨congrArg (fun z => some (Value.int z)) (show fx v0 = _ from ((if_neg q4).trans ((if_neg q12).trans ((if_neg q22).trans ((if_neg q30).trans ((if_pos q40).trans ((if_neg q58).trans ((if_neg q66).trans ((if_pos q76).trans ((if_pos q94).trans ((if_neg q113).trans ((if_neg q121).trans rfl)))))))))))).symm, eq0, rfl⟩
                      · refine g_bipush X0 hx (7 : Int32) rfl (hb hby d2_125) 127 rfl ?_
                        exact g_reti X0 hx hret hlk (by decide) (by decide) (hb hby d2_127) ⟨congrArg (fun z => some (Value.int z)) (show fx v0 = _ from ((if_neg q4).trans ((if_neg q12).trans ((if_neg q22).trans ((if_neg q30).trans ((if_pos q40).trans ((if_neg q58).trans ((if_neg q66).trans ((if_pos q76).trans ((if_pos q94).trans ((if_neg q113).trans ((if_pos q121).trans rfl)))))))))))).symm, eq0, rfl⟩
                  · refine g_lloadN X0 hx rfl (hb hby d2_98) 99 rfl ?_
                    refine g_ldc2_w X0 hx hZ hown (wd hw 26 rfl) (hb hby d2_99) 102 rfl ?_
                    refine g_lif_ge X0 hx (hb hby d2_102) 103 rfl (hb hby d2_103) 109 106 (by decide) rfl rfl (fun q102 => ?_) (fun q102 => ?_)
                    · refine g_lloadN X0 hx rfl (hb hby d2_109) 110 rfl ?_
                      refine g_ldc2_w X0 hx hZ hown (wd hw 21 rfl) (hb hby d2_110) 113 rfl ?_
                      refine g_lif_lt X0 hx (hb hby d2_113) 114 rfl (hb hby d2_114) 128 117 (by decide) rfl rfl (fun q113 => ?_) (fun q113 => ?_)
                      · refine g_bipush X0 hx (8 : Int32) rfl (hb hby d2_128) 130 rfl ?_
                        exact g_reti X0 hx hret hlk (by decide) (by decide) (hb hby d2_130) ⟨congrArg (fun z => some (Value.int z)) (show fx v0 = _ from ((if_neg q4).trans ((if_neg q12).trans ((if_neg q22).trans ((if_neg q30).trans ((if_pos q40).trans ((if_neg q58).trans ((if_neg q66).trans ((if_pos q76).trans ((if_neg q94).trans ((if_neg q102).trans ((if_pos q113).trans rfl)))))))))))).symm, eq0, rfl⟩
                      · refine g_lloadN X0 hx rfl (hb hby d2_117) 118 rfl ?_
                        refine g_ldc2_w X0 hx hZ hown (wd hw 22 rfl) (hb hby d2_118) 121 rfl ?_
                        refine g_lif_ge X0 hx (hb hby d2_121) 122 rfl (hb hby d2_122) 128 125 (by decide) rfl rfl (fun q121 => ?_) (fun q121 => ?_)
                        · refine g_bipush X0 hx (8 : Int32) rfl (hb hby d2_128) 130 rfl ?_
                          exact g_reti X0 hx hret hlk (by decide) (by decide) (hb hby d2_130) ⟨congrArg (fun z => some (Value.int z)) (show fx v0 = _ from ((if_neg q4).trans ((if_neg q12).trans ((if_neg q22).trans ((if_neg q30).trans ((if_pos q40).trans ((if_neg q58).trans ((if_neg q66).trans ((if_pos q76).trans ((if_neg q94).trans ((if_neg q102).trans ((if_neg q113).trans ((if_neg q121).trans rfl))))))))))))).symm, eq0, rfl⟩
                        · refine g_bipush X0 hx (7 : Int32) rfl (hb hby d2_125) 127 rfl ?_
                          exact g_reti X0 hx hret hlk (by decide) (by decide) (hb hby d2_127) ⟨congrArg (fun z => some (Value.int z)) (show fx v0 = _ from ((if_neg q4).trans ((if_neg q12).trans ((if_neg q22).trans ((if_neg q30).trans ((if_pos q40).trans ((if_neg q58).trans ((if_neg q66).trans ((if_pos q76).trans ((if_neg q94).trans ((if_neg q102).trans ((if_neg q113).trans ((if_pos q121).trans rfl))))))))))))).symm, eq0, rfl⟩
                    · refine g_bipush X0 hx (6 : Int32) rfl (hb hby d2_106) 108 rfl ?_
                      exact g_reti X0 hx hret hlk (by decide) (by decide) (hb hby d2_108) ⟨congrArg (fun z => some (Value.int z)) (show fx v0 = _ from ((if_neg q4).trans ((if_neg q12).trans ((if_neg q22).trans ((if_neg q30).trans ((if_pos q40).trans ((if_neg q58).trans ((if_neg q66).trans ((if_pos q76).trans ((if_neg q94).trans ((if_pos q102).trans rfl))))))))))).symm, eq0, rfl⟩
                · refine g_lloadN X0 hx rfl (hb hby d2_80) 81 rfl ?_
                  refine g_ldc2_w X0 hx hZ hown (wd hw 18 rfl) (hb hby d2_81) 84 rfl ?_
                  refine g_lif_ge X0 hx (hb hby d2_84) 85 rfl (hb hby d2_85) 90 88 (by decide) rfl rfl (fun q84 => ?_) (fun q84 => ?_)
                  · refine g_lloadN X0 hx rfl (hb hby d2_90) 91 rfl ?_
                    refine g_ldc2_w X0 hx hZ hown (wd hw 20 rfl) (hb hby d2_91) 94 rfl ?_
                    refine g_lif_lt X0 hx (hb hby d2_94) 95 rfl (hb hby d2_95) 109 98 (by decide) rfl rfl (fun q94 => ?_) (fun q94 => ?_)
                    · refine g_lloadN X0 hx rfl (hb hby d2_109) 110 rfl ?_
                      refine g_ldc2_w X0 hx hZ hown (wd hw 21 rfl) (hb hby d2_110) 113 rfl ?_
                      refine g_lif_lt X0 hx (hb hby d2_113) 114 rfl (hb hby d2_114) 128 117 (by decide) rfl rfl (fun q113 => ?_) (fun q113 => ?_)
                      · refine g_bipush X0 hx (8 : Int32) rfl (hb hby d2_128) 130 rfl ?_
                        exact g_reti X0 hx hret hlk (by decide) (by decide) (hb hby d2_130) ⟨congrArg (fun z => some (Value.int z)) (show fx v0 = _ from ((if_neg q4).trans ((if_neg q12).trans ((if_neg q22).trans ((if_neg q30).trans ((if_pos q40).trans ((if_neg q58).trans ((if_neg q66).trans ((if_neg q76).trans ((if_neg q84).trans ((if_pos q94).trans ((if_pos q113).trans rfl)))))))))))).symm, eq0, rfl⟩
                      · refine g_lloadN X0 hx rfl (hb hby d2_117) 118 rfl ?_
                        refine g_ldc2_w X0 hx hZ hown (wd hw 22 rfl) (hb hby d2_118) 121 rfl ?_
                        refine g_lif_ge X0 hx (hb hby d2_121) 122 rfl (hb hby d2_122) 128 125 (by decide) rfl rfl (fun q121 => ?_) (fun q121 => ?_)
                        · refine g_bipush X0 hx (8 : Int32) rfl (hb hby d2_128) 130 rfl ?_
                          exact g_reti X0 hx hret hlk (by decide) (by decide) (hb hby d2_130) ⟨congrArg (fun z => some (Value.int z)) (show fx v0 = _ from ((if_neg q4).trans ((if_neg q12).trans ((if_neg q22).trans ((if_neg q30).trans ((if_pos q40).trans ((if_neg q58).trans ((if_neg q66).trans ((if_neg q76).trans ((if_neg q84).trans ((if_pos q94).trans ((if_neg q113).trans ((if_neg q121).trans rfl))))))))))))).symm, eq0, rfl⟩
                        · refine g_bipush X0 hx (7 : Int32) rfl (hb hby d2_125) 127 rfl ?_
                          exact g_reti X0 hx hret hlk (by decide) (by decide) (hb hby d2_127) ⟨congrArg (fun z => some (Value.int z)) (show fx v0 = _ from ((if_neg q4).trans ((if_neg q12).trans ((if_neg q22).trans ((if_neg q30).trans ((if_pos q40).trans ((if_neg q58).trans ((if_neg q66).trans ((if_neg q76).trans ((if_neg q84).trans ((if_pos q94).trans ((if_neg q113).trans ((if_pos q121).trans rfl))))))))))))).symm, eq0, rfl⟩
                    · refine g_lloadN X0 hx rfl (hb hby d2_98) 99 rfl ?_
                      refine g_ldc2_w X0 hx hZ hown (wd hw 26 rfl) (hb hby d2_99) 102 rfl ?_
                      refine g_lif_ge X0 hx (hb hby d2_102) 103 rfl (hb hby d2_103) 109 106 (by decide) rfl rfl (fun q102 => ?_) (fun q102 => ?_)
                      · refine g_lloadN X0 hx rfl (hb hby d2_109) 110 rfl ?_
                        refine g_ldc2_w X0 hx hZ hown (wd hw 21 rfl) (hb hby d2_110) 113 rfl ?_
                        refine g_lif_lt X0 hx (hb hby d2_113) 114 rfl (hb hby d2_114) 128 117 (by decide) rfl rfl (fun q113 => ?_) (fun q113 => ?_)
                        · refine g_bipush X0 hx (8 : Int32) rfl (hb hby d2_128) 130 rfl ?_
                          exact g_reti X0 hx hret hlk (by decide) (by decide) (hb hby d2_130) ⟨congrArg (fun z => some (Value.int z)) (show fx v0 = _ from ((if_neg q4).trans ((if_neg q12).trans ((if_neg q22).trans ((if_neg q30).trans ((if_pos q40).trans ((if_neg q58).trans ((if_neg q66).trans ((if_neg q76).trans ((if_neg q84).trans ((if_neg q94).trans ((if_neg q102).trans ((if_pos q113).trans rfl))))))))))))).symm, eq0, rfl⟩
                        · refine g_lloadN X0 hx rfl (hb hby d2_117) 118 rfl ?_
                          refine g_ldc2_w X0 hx hZ hown (wd hw 22 rfl) (hb hby d2_118) 121 rfl ?_
                          refine g_lif_ge X0 hx (hb hby d2_121) 122 rfl (hb hby d2_122) 128 125 (by decide) rfl rfl (fun q121 => ?_) (fun q121 => ?_)
                          · refine g_bipush X0 hx (8 : Int32) rfl (hb hby d2_128) 130 rfl ?_
                            exact g_reti X0 hx hret hlk (by decide) (by decide) (hb hby d2_130) ⟨congrArg (fun z => some (Value.int z)) (show fx v0 = _ from ((if_neg q4).trans ((if_neg q12).trans ((if_neg q22).trans ((if_neg q30).trans ((if_pos q40).trans ((if_neg q58).trans ((if_neg q66).trans ((if_neg q76).trans ((if_neg q84).trans ((if_neg q94).trans ((if_neg q102).trans ((if_neg q113).trans ((if_neg q121).trans rfl)))))))))))))).symm, eq0, rfl⟩
                          · refine g_bipush X0 hx (7 : Int32) rfl (hb hby d2_125) 127 rfl ?_
                            exact g_reti X0 hx hret hlk (by decide) (by decide) (hb hby d2_127) ⟨congrArg (fun z => some (Value.int z)) (show fx v0 = _ from ((if_neg q4).trans ((if_neg q12).trans ((if_neg q22).trans ((if_neg q30).trans ((if_pos q40).trans ((if_neg q58).trans ((if_neg q66).trans ((if_neg q76).trans ((if_neg q84).trans ((if_neg q94).trans ((if_neg q102).trans ((if_neg q113).trans ((if_pos q121).trans rfl)))))))))))))).symm, eq0, rfl⟩
                      · refine g_bipush X0 hx (6 : Int32) rfl (hb hby d2_106) 108 rfl ?_
                        exact g_reti X0 hx hret hlk (by decide) (by decide) (hb hby d2_108) ⟨congrArg (fun z => some (Value.int z)) (show fx v0 = _ from ((if_neg q4).trans ((if_neg q12).trans ((if_neg q22).trans ((if_neg q30).trans ((if_pos q40).trans ((if_neg q58).trans ((if_neg q66).trans ((if_neg q76).trans ((if_neg q84).trans ((if_neg q94).trans ((if_pos q102).trans rfl)))))))))))).symm, eq0, rfl⟩
                  · refine g_iconst X0 hx (5 : Int32) rfl (hb hby d2_88) 89 rfl ?_
                    exact g_reti X0 hx hret hlk (by decide) (by decide) (hb hby d2_89) ⟨congrArg (fun z => some (Value.int z)) (show fx v0 = _ from ((if_neg q4).trans ((if_neg q12).trans ((if_neg q22).trans ((if_neg q30).trans ((if_pos q40).trans ((if_neg q58).trans ((if_neg q66).trans ((if_neg q76).trans ((if_pos q84).trans rfl)))))))))).symm, eq0, rfl⟩
              · refine g_iconst X0 hx (4 : Int32) rfl (hb hby d2_70) 71 rfl ?_
                exact g_reti X0 hx hret hlk (by decide) (by decide) (hb hby d2_71) ⟨congrArg (fun z => some (Value.int z)) (show fx v0 = _ from ((if_neg q4).trans ((if_neg q12).trans ((if_neg q22).trans ((if_neg q30).trans ((if_pos q40).trans ((if_neg q58).trans ((if_pos q66).trans rfl)))))))).symm, eq0, rfl⟩
          · refine g_lloadN X0 hx rfl (hb hby d2_44) 45 rfl ?_
            refine g_ldc2_w X0 hx hZ hown (wd hw 24 rfl) (hb hby d2_45) 48 rfl ?_
            refine g_lif_ge X0 hx (hb hby d2_48) 49 rfl (hb hby d2_49) 54 52 (by decide) rfl rfl (fun q48 => ?_) (fun q48 => ?_)
            · refine g_lloadN X0 hx rfl (hb hby d2_54) 55 rfl ?_
              refine g_ldc2_w X0 hx hZ hown (wd hw 16 rfl) (hb hby d2_55) 58 rfl ?_
              refine g_lif_lt X0 hx (hb hby d2_58) 59 rfl (hb hby d2_59) 72 62 (by decide) rfl rfl (fun q58 => ?_) (fun q58 => ?_)
              · refine g_lloadN X0 hx rfl (hb hby d2_72) 73 rfl ?_
                refine g_ldc2_w X0 hx hZ hown (wd hw 17 rfl) (hb hby d2_73) 76 rfl ?_
                refine g_lif_lt X0 hx (hb hby d2_76) 77 rfl (hb hby d2_77) 90 80 (by decide) rfl rfl (fun q76 => ?_) (fun q76 => ?_)
                · refine g_lloadN X0 hx rfl (hb hby d2_90) 91 rfl ?_
                  refine g_ldc2_w X0 hx hZ hown (wd hw 20 rfl) (hb hby d2_91) 94 rfl ?_
                  refine g_lif_lt X0 hx (hb hby d2_94) 95 rfl (hb hby d2_95) 109 98 (by decide) rfl rfl (fun q94 => ?_) (fun q94 => ?_)
                  · refine g_lloadN X0 hx rfl (hb hby d2_109) 110 rfl ?_
                    refine g_ldc2_w X0 hx hZ hown (wd hw 21 rfl) (hb hby d2_110) 113 rfl ?_
                    refine g_lif_lt X0 hx (hb hby d2_113) 114 rfl (hb hby d2_114) 128 117 (by decide) rfl rfl (fun q113 => ?_) (fun q113 => ?_)
                    · refine g_bipush X0 hx (8 : Int32) rfl (hb hby d2_128) 130 rfl ?_
                      exact g_reti X0 hx hret hlk (by decide) (by decide) (hb hby d2_130) ⟨congrArg (fun z => some (Value.int z)) (show fx v0 = _ from ((if_neg q4).trans ((if_neg q12).trans ((if_neg q22).trans ((if_neg q30).trans ((if_neg q40).trans ((if_neg q48).trans ((if_pos q58).trans ((if_pos q76).trans ((if_pos q94).trans ((if_pos q113).trans rfl))))))))))).symm, eq0, rfl⟩
                    · refine g_lloadN X0 hx rfl (hb hby d2_117) 118 rfl ?_
                      refine g_ldc2_w X0 hx hZ hown (wd hw 22 rfl) (hb hby d2_118) 121 rfl ?_
                      refine g_lif_ge X0 hx (hb hby d2_121) 122 rfl (hb hby d2_122) 128 125 (by decide) rfl rfl (fun q121 => ?_) (fun q121 => ?_)
                      · refine g_bipush X0 hx (8 : Int32) rfl (hb hby d2_128) 130 rfl ?_
                        exact g_reti X0 hx hret hlk (by decide) (by decide) (hb hby d2_130) ⟨congrArg (fun z => some (Value.int z)) (show fx v0 = _ from ((if_neg q4).trans ((if_neg q12).trans ((if_neg q22).trans ((if_neg q30).trans ((if_neg q40).trans ((if_neg q48).trans ((if_pos q58).trans ((if_pos q76).trans ((if_pos q94).trans ((if_neg q113).trans ((if_neg q121).trans rfl)))))))))))).symm, eq0, rfl⟩
                      · refine g_bipush X0 hx (7 : Int32) rfl (hb hby d2_125) 127 rfl ?_
                        exact g_reti X0 hx hret hlk (by decide) (by decide) (hb hby d2_127) ⟨congrArg (fun z => some (Value.int z)) (show fx v0 = _ from ((if_neg q4).trans ((if_neg q12).trans ((if_neg q22).trans ((if_neg q30).trans ((if_neg q40).trans ((if_neg q48).trans ((if_pos q58).trans ((if_pos q76).trans ((if_pos q94).trans ((if_neg q113).trans ((if_pos q121).trans rfl)))))))))))).symm, eq0, rfl⟩
                  · refine g_lloadN X0 hx rfl (hb hby d2_98) 99 rfl ?_
                    refine g_ldc2_w X0 hx hZ hown (wd hw 26 rfl) (hb hby d2_99) 102 rfl ?_
                    refine g_lif_ge X0 hx (hb hby d2_102) 103 rfl (hb hby d2_103) 109 106 (by decide) rfl rfl (fun q102 => ?_) (fun q102 => ?_)
                    · refine g_lloadN X0 hx rfl (hb hby d2_109) 110 rfl ?_
                      refine g_ldc2_w X0 hx hZ hown (wd hw 21 rfl) (hb hby d2_110) 113 rfl ?_
                      refine g_lif_lt X0 hx (hb hby d2_113) 114 rfl (hb hby d2_114) 128 117 (by decide) rfl rfl (fun q113 => ?_) (fun q113 => ?_)
                      · refine g_bipush X0 hx (8 : Int32) rfl (hb hby d2_128) 130 rfl ?_
                        exact g_reti X0 hx hret hlk (by decide) (by decide) (hb hby d2_130) ⟨congrArg (fun z => some (Value.int z)) (show fx v0 = _ from ((if_neg q4).trans ((if_neg q12).trans ((if_neg q22).trans ((if_neg q30).trans ((if_neg q40).trans ((if_neg q48).trans ((if_pos q58).trans ((if_pos q76).trans ((if_neg q94).trans ((if_neg q102).trans ((if_pos q113).trans rfl)))))))))))).symm, eq0, rfl⟩
                      · refine g_lloadN X0 hx rfl (hb hby d2_117) 118 rfl ?_
                        refine g_ldc2_w X0 hx hZ hown (wd hw 22 rfl) (hb hby d2_118) 121 rfl ?_
                        refine g_lif_ge X0 hx (hb hby d2_121) 122 rfl (hb hby d2_122) 128 125 (by decide) rfl rfl (fun q121 => ?_) (fun q121 => ?_)
                        · refine g_bipush X0 hx (8 : Int32) rfl (hb hby d2_128) 130 rfl ?_
                          exact g_reti X0 hx hret hlk (by decide) (by decide) (hb hby d2_130) ⟨congrArg (fun z => some (Value.int z)) (show fx v0 = _ from ((if_neg q4).trans ((if_neg q12).trans ((if_neg q22).trans ((if_neg q30).trans ((if_neg q40).trans ((if_neg q48).trans ((if_pos q58).trans ((if_pos q76).trans ((if_neg q94).trans ((if_neg q102).trans ((if_neg q113).trans ((if_neg q121).trans rfl))))))))))))).symm, eq0, rfl⟩
                        · refine g_bipush X0 hx (7 : Int32) rfl (hb hby d2_125) 127 rfl ?_
                          exact g_reti X0 hx hret hlk (by decide) (by decide) (hb hby d2_127) ⟨congrArg (fun z => some (Value.int z)) (show fx v0 = _ from ((if_neg q4).trans ((if_neg q12).trans ((if_neg q22).trans ((if_neg q30).trans ((if_neg q40).trans ((if_neg q48).trans ((if_pos q58).trans ((if_pos q76).trans ((if_neg q94).trans ((if_neg q102).trans ((if_neg q113).trans ((if_pos q121).trans rfl))))))))))))).symm, eq0, rfl⟩
                    · refine g_bipush X0 hx (6 : Int32) rfl (hb hby d2_106) 108 rfl ?_
                      exact g_reti X0 hx hret hlk (by decide) (by decide) (hb hby d2_108) ⟨congrArg (fun z => some (Value.int z)) (show fx v0 = _ from ((if_neg q4).trans ((if_neg q12).trans ((if_neg q22).trans ((if_neg q30).trans ((if_neg q40).trans ((if_neg q48).trans ((if_pos q58).trans ((if_pos q76).trans ((if_neg q94).trans ((if_pos q102).trans rfl))))))))))).symm, eq0, rfl⟩
                · refine g_lloadN X0 hx rfl (hb hby d2_80) 81 rfl ?_
                  refine g_ldc2_w X0 hx hZ hown (wd hw 18 rfl) (hb hby d2_81) 84 rfl ?_
                  refine g_lif_ge X0 hx (hb hby d2_84) 85 rfl (hb hby d2_85) 90 88 (by decide) rfl rfl (fun q84 => ?_) (fun q84 => ?_)
                  · refine g_lloadN X0 hx rfl (hb hby d2_90) 91 rfl ?_
                    refine g_ldc2_w X0 hx hZ hown (wd hw 20 rfl) (hb hby d2_91) 94 rfl ?_
                    refine g_lif_lt X0 hx (hb hby d2_94) 95 rfl (hb hby d2_95) 109 98 (by decide) rfl rfl (fun q94 => ?_) (fun q94 => ?_)
                    · refine g_lloadN X0 hx rfl (hb hby d2_109) 110 rfl ?_
                      refine g_ldc2_w X0 hx hZ hown (wd hw 21 rfl) (hb hby d2_110) 113 rfl ?_
                      refine g_lif_lt X0 hx (hb hby d2_113) 114 rfl (hb hby d2_114) 128 117 (by decide) rfl rfl (fun q113 => ?_) (fun q113 => ?_)
                      · refine g_bipush X0 hx (8 : Int32) rfl (hb hby d2_128) 130 rfl ?_
                        exact g_reti X0 hx hret hlk (by decide) (by decide) (hb hby d2_130) ⟨congrArg (fun z => some (Value.int z)) (show fx v0 = _ from ((if_neg q4).trans ((if_neg q12).trans ((if_neg q22).trans ((if_neg q30).trans ((if_neg q40).trans ((if_neg q48).trans ((if_pos q58).trans ((if_neg q76).trans ((if_neg q84).trans ((if_pos q94).trans ((if_pos q113).trans rfl)))))))))))).symm, eq0, rfl⟩
                      · refine g_lloadN X0 hx rfl (hb hby d2_117) 118 rfl ?_
                        refine g_ldc2_w X0 hx hZ hown (wd hw 22 rfl) (hb hby d2_118) 121 rfl ?_
                        refine g_lif_ge X0 hx (hb hby d2_121) 122 rfl (hb hby d2_122) 128 125 (by decide) rfl rfl (fun q121 => ?_) (fun q121 => ?_)
                        · refine g_bipush X0 hx (8 : Int32) rfl (hb hby d2_128) 130 rfl ?_
                          exact g_reti X0 hx hret hlk (by decide) (by decide) (hb hby d2_130) ⟨congrArg (fun z => some (Value.int z)) (show fx v0 = _ from ((if_neg q4).trans ((if_neg q12).trans ((if_neg q22).trans ((if_neg q30).trans ((if_neg q40).trans ((if_neg q48).trans ((if_pos q58).trans ((if_neg q76).trans ((if_neg q84).trans ((if_pos q94).trans ((if_neg q113).trans ((if_neg q121).trans rfl))))))))))))).symm, eq0, rfl⟩
                        · refine g_bipush X0 hx (7 : Int32) rfl (hb hby d2_125) 127 rfl ?_
                          exact g_reti X0 hx hret hlk (by decide) (by decide) (hb hby d2_127) ⟨congrArg (fun z => some (Value.int z)) (show fx v0 = _ from ((if_neg q4).trans ((if_neg q12).trans ((if_neg q22).trans ((if_neg q30).trans ((if_neg q40).trans ((if_neg q48).trans ((if_pos q58).trans ((if_neg q76).trans ((if_neg q84).trans ((if_pos q94).trans ((if_neg q113).trans ((if_pos q121).trans rfl))))))))))))).symm, eq0, rfl⟩
                    · refine g_lloadN X0 hx rfl (hb hby d2_98) 99 rfl ?_
                      refine g_ldc2_w X0 hx hZ hown (wd hw 26 rfl) (hb hby d2_99) 102 rfl ?_
                      refine g_lif_ge X0 hx (hb hby d2_102) 103 rfl (hb hby d2_103) 109 106 (by decide) rfl rfl (fun q102 => ?_) (fun q102 => ?_)
                      · refine g_lloadN X0 hx rfl (hb hby d2_109) 110 rfl ?_
                        refine g_ldc2_w X0 hx hZ hown (wd hw 21 rfl) (hb hby d2_110) 113 rfl ?_
                        refine g_lif_lt X0 hx (hb hby d2_113) 114 rfl (hb hby d2_114) 128 117 (by decide) rfl rfl (fun q113 => ?_) (fun q113 => ?_)
                        · refine g_bipush X0 hx (8 : Int32) rfl (hb hby d2_128) 130 rfl ?_
                          exact g_reti X0 hx hret hlk (by decide) (by decide) (hb hby d2_130) ⟨congrArg (fun z => some (Value.int z)) (show fx v0 = _ from ((if_neg q4).trans ((if_neg q12).trans ((if_neg q22).trans ((if_neg q30).trans ((if_neg q40).trans ((if_neg q48).trans ((if_pos q58).trans ((if_neg q76).trans ((if_neg q84).trans ((if_neg q94).trans ((if_neg q102).trans ((if_pos q113).trans rfl))))))))))))).symm, eq0, rfl⟩
                        · refine g_lloadN X0 hx rfl (hb hby d2_117) 118 rfl ?_
                          refine g_ldc2_w X0 hx hZ hown (wd hw 22 rfl) (hb hby d2_118) 121 rfl ?_
                          refine g_lif_ge X0 hx (hb hby d2_121) 122 rfl (hb hby d2_122) 128 125 (by decide) rfl rfl (fun q121 => ?_) (fun q121 => ?_)
                          · refine g_bipush X0 hx (8 : Int32) rfl (hb hby d2_128) 130 rfl ?_
                            exact g_reti X0 hx hret hlk (by decide) (by decide) (hb hby d2_130) ⟨congrArg (fun z => some (Value.int z)) (show fx v0 = _ from ((if_neg q4).trans ((if_neg q12).trans ((if_neg q22).trans ((if_neg q30).trans ((if_neg q40).trans ((if_neg q48).trans ((if_pos q58).trans ((if_neg q76).trans ((if_neg q84).trans ((if_neg q94).trans ((if_neg q102).trans ((if_neg q113).trans ((if_neg q121).trans rfl)))))))))))))).symm, eq0, rfl⟩
                          · refine g_bipush X0 hx (7 : Int32) rfl (hb hby d2_125) 127 rfl ?_
                            exact g_reti X0 hx hret hlk (by decide) (by decide) (hb hby d2_127) ⟨congrArg (fun z => some (Value.int z)) (show fx v0 = _ from ((if_neg q4).trans ((if_neg q12).trans ((if_neg q22).trans ((if_neg q30).trans ((if_neg q40).trans ((if_neg q48).trans ((if_pos q58).trans ((if_neg q76).trans ((if_neg q84).trans ((if_neg q94).trans ((if_neg q102).trans ((if_neg q113).trans ((if_pos q121).trans rfl)))))))))))))).symm, eq0, rfl⟩
                      · refine g_bipush X0 hx (6 : Int32) rfl (hb hby d2_106) 108 rfl ?_
                        exact g_reti X0 hx hret hlk (by decide) (by decide) (hb hby d2_108) ⟨congrArg (fun z => some (Value.int z)) (show fx v0 = _ from ((if_neg q4).trans ((if_neg q12).trans ((if_neg q22).trans ((if_neg q30).trans ((if_neg q40).trans ((if_neg q48).trans ((if_pos q58).trans ((if_neg q76).trans ((if_neg q84).trans ((if_neg q94).trans ((if_pos q102).trans rfl)))))))))))).symm, eq0, rfl⟩
                  · refine g_iconst X0 hx (5 : Int32) rfl (hb hby d2_88) 89 rfl ?_
                    exact g_reti X0 hx hret hlk (by decide) (by decide) (hb hby d2_89) ⟨congrArg (fun z => some (Value.int z)) (show fx v0 = _ from ((if_neg q4).trans ((if_neg q12).trans ((if_neg q22).trans ((if_neg q30).trans ((if_neg q40).trans ((if_neg q48).trans ((if_pos q58).trans ((if_neg q76).trans ((if_pos q84).trans rfl)))))))))).symm, eq0, rfl⟩
              · refine g_lloadN X0 hx rfl (hb hby d2_62) 63 rfl ?_
                refine g_ldc2_w X0 hx hZ hown (wd hw 25 rfl) (hb hby d2_63) 66 rfl ?_
                refine g_lif_ge X0 hx (hb hby d2_66) 67 rfl (hb hby d2_67) 72 70 (by decide) rfl rfl (fun q66 => ?_) (fun q66 => ?_)
                · refine g_lloadN X0 hx rfl (hb hby d2_72) 73 rfl ?_
                  refine g_ldc2_w X0 hx hZ hown (wd hw 17 rfl) (hb hby d2_73) 76 rfl ?_
                  refine g_lif_lt X0 hx (hb hby d2_76) 77 rfl (hb hby d2_77) 90 80 (by decide) rfl rfl (fun q76 => ?_) (fun q76 => ?_)
                  · refine g_lloadN X0 hx rfl (hb hby d2_90) 91 rfl ?_
                    refine g_ldc2_w X0 hx hZ hown (wd hw 20 rfl) (hb hby d2_91) 94 rfl ?_
                    refine g_lif_lt X0 hx (hb hby d2_94) 95 rfl (hb hby d2_95) 109 98 (by decide) rfl rfl (fun q94 => ?_) (fun q94 => ?_)
                    · refine g_lloadN X0 hx rfl (hb hby d2_109) 110 rfl ?_
                      refine g_ldc2_w X0 hx hZ hown (wd hw 21 rfl) (hb hby d2_110) 113 rfl ?_
                      refine g_lif_lt X0 hx (hb hby d2_113) 114 rfl (hb hby d2_114) 128 117 (by decide) rfl rfl (fun q113 => ?_) (fun q113 => ?_)
                      · refine g_bipush X0 hx (8 : Int32) rfl (hb hby d2_128) 130 rfl ?_
                        exact g_reti X0 hx hret hlk (by decide) (by decide) (hb hby d2_130) ⟨congrArg (fun z => some (Value.int z)) (show fx v0 = _ from ((if_neg q4).trans ((if_neg q12).trans ((if_neg q22).trans ((if_neg q30).trans ((if_neg q40).trans ((if_neg q48).trans ((if_neg q58).trans ((if_neg q66).trans ((if_pos q76).trans ((if_pos q94).trans ((if_pos q113).trans rfl)))))))))))).symm, eq0, rfl⟩
                      · refine g_lloadN X0 hx rfl (hb hby d2_117) 118 rfl ?_
                        refine g_ldc2_w X0 hx hZ hown (wd hw 22 rfl) (hb hby d2_118) 121 rfl ?_
                        refine g_lif_ge X0 hx (hb hby d2_121) 122 rfl (hb hby d2_122) 128 125 (by decide) rfl rfl (fun q121 => ?_) (fun q121 => ?_)
                        · refine g_bipush X0 hx (8 : Int32) rfl (hb hby d2_128) 130 rfl ?_
                          exact g_reti X0 hx hret hlk (by decide) (by decide) (hb hby d2_130) ⟨congrArg (fun z => some (Value.int z)) (show fx v0 = _ from ((if_neg q4).trans ((if_neg q12).trans ((if_neg q22).trans ((if_neg q30).trans ((if_neg q40).trans ((if_neg q48).trans ((if_neg q58).trans ((if_neg q66).trans ((if_pos q76).trans ((if_pos q94).trans ((if_neg q113).trans ((if_neg q121).trans rfl))))))))))))).symm, eq0, rfl⟩
                        · refine g_bipush X0 hx (7 : Int32) rfl (hb hby d2_125) 127 rfl ?_
                          exact g_reti X0 hx hret hlk (by decide) (by decide) (hb hby d2_127) ⟨congrArg (fun z => some (Value.int z)) (show fx v0 = _ from ((if_neg q4).trans ((if_neg q12).trans ((if_neg q22).trans ((if_neg q30).trans ((if_neg q40).trans ((if_neg q48).trans ((if_neg q58).trans ((if_neg q66).trans ((if_pos q76).trans ((if_pos q94).trans ((if_neg q113).trans ((if_pos q121).trans rfl))))))))))))).symm, eq0, rfl⟩
                    · refine g_lloadN X0 hx rfl (hb hby d2_98) 99 rfl ?_
                      refine g_ldc2_w X0 hx hZ hown (wd hw 26 rfl) (hb hby d2_99) 102 rfl ?_
                      refine g_lif_ge X0 hx (hb hby d2_102) 103 rfl (hb hby d2_103) 109 106 (by decide) rfl rfl (fun q102 => ?_) (fun q102 => ?_)
                      · refine g_lloadN X0 hx rfl (hb hby d2_109) 110 rfl ?_
                        refine g_ldc2_w X0 hx hZ hown (wd hw 21 rfl) (hb hby d2_110) 113 rfl ?_
                        refine g_lif_lt X0 hx (hb hby d2_113) 114 rfl (hb hby d2_114) 128 117 (by decide) rfl rfl (fun q113 => ?_) (fun q113 => ?_)
                        · refine g_bipush X0 hx (8 : Int32) rfl (hb hby d2_128) 130 rfl ?_
                          exact g_reti X0 hx hret hlk (by decide) (by decide) (hb hby d2_130) ⟨congrArg (fun z => some (Value.int z)) (show fx v0 = _ from ((if_neg q4).trans ((if_neg q12).trans ((if_neg q22).trans ((if_neg q30).trans ((if_neg q40).trans ((if_neg q48).trans ((if_neg q58).trans ((if_neg q66).trans ((if_pos q76).trans ((if_neg q94).trans ((if_neg q102).trans ((if_pos q113).trans rfl))))))))))))).symm, eq0, rfl⟩
                        · refine g_lloadN X0 hx rfl (hb hby d2_117) 118 rfl ?_
                          refine g_ldc2_w X0 hx hZ hown (wd hw 22 rfl) (hb hby d2_118) 121 rfl ?_
                          refine g_lif_ge X0 hx (hb hby d2_121) 122 rfl (hb hby d2_122) 128 125 (by decide) rfl rfl (fun q121 => ?_) (fun q121 => ?_)
                          · refine g_bipush X0 hx (8 : Int32) rfl (hb hby d2_128) 130 rfl ?_
                            exact g_reti X0 hx hret hlk (by decide) (by decide) (hb hby d2_130) ⟨congrArg (fun z => some (Value.int z)) (show fx v0 = _ from ((if_neg q4).trans ((if_neg q12).trans ((if_neg q22).trans ((if_neg q30).trans ((if_neg q40).trans ((if_neg q48).trans ((if_neg q58).trans ((if_neg q66).trans ((if_pos q76).trans ((if_neg q94).trans ((if_neg q102).trans ((if_neg q113).trans ((if_neg q121).trans rfl)))))))))))))).symm, eq0, rfl⟩
                          · refine g_bipush X0 hx (7 : Int32) rfl (hb hby d2_125) 127 rfl ?_
                            exact g_reti X0 hx hret hlk (by decide) (by decide) (hb hby d2_127) ⟨congrArg (fun z => some (Value.int z)) (show fx v0 = _ from ((if_neg q4).trans ((if_neg q12).trans ((if_neg q22).trans ((if_neg q30).trans ((if_neg q40).trans ((if_neg q48).trans ((if_neg q58).trans ((if_neg q66).trans ((if_pos q76).trans ((if_neg q94).trans ((if_neg q102).trans ((if_neg q113).trans ((if_pos q121).trans rfl)))))))))))))).symm, eq0, rfl⟩
                      · refine g_bipush X0 hx (6 : Int32) rfl (hb hby d2_106) 108 rfl ?_
                        exact g_reti X0 hx hret hlk (by decide) (by decide) (hb hby d2_108) ⟨congrArg (fun z => some (Value.int z)) (show fx v0 = _ from ((if_neg q4).trans ((if_neg q12).trans ((if_neg q22).trans ((if_neg q30).trans ((if_neg q40).trans ((if_neg q48).trans ((if_neg q58).trans ((if_neg q66).trans ((if_pos q76).trans ((if_neg q94).trans ((if_pos q102).trans rfl)))))))))))).symm, eq0, rfl⟩
                  · refine g_lloadN X0 hx rfl (hb hby d2_80) 81 rfl ?_
                    refine g_ldc2_w X0 hx hZ hown (wd hw 18 rfl) (hb hby d2_81) 84 rfl ?_
                    refine g_lif_ge X0 hx (hb hby d2_84) 85 rfl (hb hby d2_85) 90 88 (by decide) rfl rfl (fun q84 => ?_) (fun q84 => ?_)
                    · refine g_lloadN X0 hx rfl (hb hby d2_90) 91 rfl ?_
                      refine g_ldc2_w X0 hx hZ hown (wd hw 20 rfl) (hb hby d2_91) 94 rfl ?_
                      refine g_lif_lt X0 hx (hb hby d2_94) 95 rfl (hb hby d2_95) 109 98 (by decide) rfl rfl (fun q94 => ?_) (fun q94 => ?_)
                      · refine g_lloadN X0 hx rfl (hb hby d2_109) 110 rfl ?_
                        refine g_ldc2_w X0 hx hZ hown (wd hw 21 rfl) (hb hby d2_110) 113 rfl ?_
                        refine g_lif_lt X0 hx (hb hby d2_113) 114 rfl (hb hby d2_114) 128 117 (by decide) rfl rfl (fun q113 => ?_) (fun q113 => ?_)
                        · refine g_bipush X0 hx (8 : Int32) rfl (hb hby d2_128) 130 rfl ?_
                          exact g_reti X0 hx hret hlk (by decide) (by decide) (hb hby d2_130) ⟨congrArg (fun z => some (Value.int z)) (show fx v0 = _ from ((if_neg q4).trans ((if_neg q12).trans ((if_neg q22).trans ((if_neg q30).trans ((if_neg q40).trans ((if_neg q48).trans ((if_neg q58).trans ((if_neg q66).trans ((if_neg q76).trans ((if_neg q84).trans ((if_pos q94).trans ((if_pos q113).trans rfl))))))))))))).symm, eq0, rfl⟩
                        · refine g_lloadN X0 hx rfl (hb hby d2_117) 118 rfl ?_
                          refine g_ldc2_w X0 hx hZ hown (wd hw 22 rfl) (hb hby d2_118) 121 rfl ?_
                          refine g_lif_ge X0 hx (hb hby d2_121) 122 rfl (hb hby d2_122) 128 125 (by decide) rfl rfl (fun q121 => ?_) (fun q121 => ?_)
                          · refine g_bipush X0 hx (8 : Int32) rfl (hb hby d2_128) 130 rfl ?_
                            exact g_reti X0 hx hret hlk (by decide) (by decide) (hb hby d2_130) ⟨congrArg (fun z => some (Value.int z)) (show fx v0 = _ from ((if_neg q4).trans ((if_neg q12).trans ((if_neg q22).trans ((if_neg q30).trans ((if_neg q40).trans ((if_neg q48).trans ((if_neg q58).trans ((if_neg q66).trans ((if_neg q76).trans ((if_neg q84).trans ((if_pos q94).trans ((if_neg q113).trans ((if_neg q121).trans rfl)))))))))))))).symm, eq0, rfl⟩
                          · refine g_bipush X0 hx (7 : Int32) rfl (hb hby d2_125) 127 rfl ?_
                            exact g_reti X0 hx hret hlk (by decide) (by decide) (hb hby d2_127) ⟨congrArg (fun z => some (Value.int z)) (show fx v0 = _ from ((if_neg q4).trans ((if_neg q12).trans ((if_neg q22).trans ((if_neg q30).trans ((if_neg q40).trans ((if_neg q48).trans ((if_neg q58).trans ((if_neg q66).trans ((if_neg q76).trans ((if_neg q84).trans ((if_pos q94).trans ((if_neg q113).trans ((if_pos q121).trans rfl)))))))))))))).symm, eq0, rfl⟩
                      · refine g_lloadN X0 hx rfl (hb hby d2_98) 99 rfl ?_
                        refine g_ldc2_w X0 hx hZ hown (wd hw 26 rfl) (hb hby d2_99) 102 rfl ?_
                        refine g_lif_ge X0 hx (hb hby d2_102) 103 rfl (hb hby d2_103) 109 106 (by decide) rfl rfl (fun q102 => ?_) (fun q102 => ?_)
                        · refine g_lloadN X0 hx rfl (hb hby d2_109) 110 rfl ?_
                          refine g_ldc2_w X0 hx hZ hown (wd hw 21 rfl) (hb hby d2_110) 113 rfl ?_
                          refine g_lif_lt X0 hx (hb hby d2_113) 114 rfl (hb hby d2_114) 128 117 (by decide) rfl rfl (fun q113 => ?_) (fun q113 => ?_)
                          · refine g_bipush X0 hx (8 : Int32) rfl (hb hby d2_128) 130 rfl ?_
                            exact g_reti X0 hx hret hlk (by decide) (by decide) (hb hby d2_130) ⟨congrArg (fun z => some (Value.int z)) (show fx v0 = _ from ((if_neg q4).trans ((if_neg q12).trans ((if_neg q22).trans ((if_neg q30).trans ((if_neg q40).trans ((if_neg q48).trans ((if_neg q58).trans ((if_neg q66).trans ((if_neg q76).trans ((if_neg q84).trans ((if_neg q94).trans ((if_neg q102).trans ((if_pos q113).trans rfl)))))))))))))).symm, eq0, rfl⟩
                          · refine g_lloadN X0 hx rfl (hb hby d2_117) 118 rfl ?_
                            refine g_ldc2_w X0 hx hZ hown (wd hw 22 rfl) (hb hby d2_118) 121 rfl ?_
                            refine g_lif_ge X0 hx (hb hby d2_121) 122 rfl (hb hby d2_122) 128 125 (by decide) rfl rfl (fun q121 => ?_) (fun q121 => ?_)
                            · refine g_bipush X0 hx (8 : Int32) rfl (hb hby d2_128) 130 rfl ?_
                              exact g_reti X0 hx hret hlk (by decide) (by decide) (hb hby d2_130) ⟨congrArg (fun z => some (Value.int z)) (show fx v0 = _ from ((if_neg q4).trans ((if_neg q12).trans ((if_neg q22).trans ((if_neg q30).trans ((if_neg q40).trans ((if_neg q48).trans ((if_neg q58).trans ((if_neg q66).trans ((if_neg q76).trans ((if_neg q84).trans ((if_neg q94).trans ((if_neg q102).trans ((if_neg q113).trans ((if_neg q121).trans rfl))))))))))))))).symm, eq0, rfl⟩
                            · refine g_bipush X0 hx (7 : Int32) rfl (hb hby d2_125) 127 rfl ?_
                              exact g_reti X0 hx hret hlk (by decide) (by decide) (hb hby d2_127) ⟨congrArg (fun z => some (Value.int z)) (show fx v0 = _ from ((if_neg q4).trans ((if_neg q12).trans ((if_neg q22).trans ((if_neg q30).trans ((if_neg q40).trans ((if_neg q48).trans ((if_neg q58).trans ((if_neg q66).trans ((if_neg q76).trans ((if_neg q84).trans ((if_neg q94).trans ((if_neg q102).trans ((if_neg q113).trans ((if_pos q121).trans rfl))))))))))))))).symm, eq0, rfl⟩
                        · refine g_bipush X0 hx (6 : Int32) rfl (hb hby d2_106) 108 rfl ?_
                          exact g_reti X0 hx hret hlk (by decide) (by decide) (hb hby d2_108) ⟨congrArg (fun z => some (Value.int z)) (show fx v0 = _ from ((if_neg q4).trans ((if_neg q12).trans ((if_neg q22).trans ((if_neg q30).trans ((if_neg q40).trans ((if_neg q48).trans ((if_neg q58).trans ((if_neg q66).trans ((if_neg q76).trans ((if_neg q84).trans ((if_neg q94).trans ((if_pos q102).trans rfl))))))))))))).symm, eq0, rfl⟩
                    · refine g_iconst X0 hx (5 : Int32) rfl (hb hby d2_88) 89 rfl ?_
                      exact g_reti X0 hx hret hlk (by decide) (by decide) (hb hby d2_89) ⟨congrArg (fun z => some (Value.int z)) (show fx v0 = _ from ((if_neg q4).trans ((if_neg q12).trans ((if_neg q22).trans ((if_neg q30).trans ((if_neg q40).trans ((if_neg q48).trans ((if_neg q58).trans ((if_neg q66).trans ((if_neg q76).trans ((if_pos q84).trans rfl))))))))))).symm, eq0, rfl⟩
                · refine g_iconst X0 hx (4 : Int32) rfl (hb hby d2_70) 71 rfl ?_
                  exact g_reti X0 hx hret hlk (by decide) (by decide) (hb hby d2_71) ⟨congrArg (fun z => some (Value.int z)) (show fx v0 = _ from ((if_neg q4).trans ((if_neg q12).trans ((if_neg q22).trans ((if_neg q30).trans ((if_neg q40).trans ((if_neg q48).trans ((if_neg q58).trans ((if_pos q66).trans rfl))))))))).symm, eq0, rfl⟩
            · refine g_iconst X0 hx (3 : Int32) rfl (hb hby d2_52) 53 rfl ?_
              exact g_reti X0 hx hret hlk (by decide) (by decide) (hb hby d2_53) ⟨congrArg (fun z => some (Value.int z)) (show fx v0 = _ from ((if_neg q4).trans ((if_neg q12).trans ((if_neg q22).trans ((if_neg q30).trans ((if_neg q40).trans ((if_pos q48).trans rfl))))))).symm, eq0, rfl⟩
        · refine g_iconst X0 hx (2 : Int32) rfl (hb hby d2_34) 35 rfl ?_
          exact g_reti X0 hx hret hlk (by decide) (by decide) (hb hby d2_35) ⟨congrArg (fun z => some (Value.int z)) (show fx v0 = _ from ((if_neg q4).trans ((if_neg q12).trans ((if_neg q22).trans ((if_pos q30).trans rfl))))).symm, eq0, rfl⟩
    · refine g_iconst X0 hx (1 : Int32) rfl (hb hby d2_16) 17 rfl ?_
      exact g_reti X0 hx hret hlk (by decide) (by decide) (hb hby d2_17) ⟨congrArg (fun z => some (Value.int z)) (show fx v0 = _ from ((if_neg q4).trans ((if_pos q12).trans rfl))).symm, eq0, rfl⟩
theorem d3_0 : decode method_3_code 0 = .ok (.aload_n 0, 1) := by decide +kernel
theorem d3_1 : decode method_3_code 1 = .ok (.iconst 0, 1) := by decide +kernel
theorem d3_2 : decode method_3_code 2 = .ok (.baload, 1) := by decide +kernel
theorem d3_3 : decode method_3_code 3 = .ok (.i2l, 1) := by decide +kernel
theorem d3_4 : decode method_3_code 4 = .ok (.lstore_n 2, 1) := by decide +kernel
theorem d3_5 : decode method_3_code 5 = .ok (.iload_n 1, 1) := by decide +kernel
theorem d3_6 : decode method_3_code 6 = .ok (.iconst 1, 1) := by decide +kernel
theorem d3_7 : decode method_3_code 7 = .ok (.if_icmp .le 17, 3) := by decide +kernel
theorem d3_24 : decode method_3_code 24 = .ok (.iload_n 1, 1) := by decide +kernel
theorem d3_25 : decode method_3_code 25 = .ok (.iconst 2, 1) := by decide +kernel
theorem d3_26 : decode method_3_code 26 = .ok (.if_icmp .le 17, 3) := by decide +kernel
theorem d3_43 : decode method_3_code 43 = .ok (.iload_n 1, 1) := by decide +kernel
theorem d3_44 : decode method_3_code 44 = .ok (.iconst 3, 1) := by decide +kernel
theorem d3_45 : decode method_3_code 45 = .ok (.if_icmp .le 17, 3) := by decide +kernel
theorem d3_62 : decode method_3_code 62 = .ok (.iload_n 1, 1) := by decide +kernel
theorem d3_63 : decode method_3_code 63 = .ok (.iconst 4, 1) := by decide +kernel
theorem d3_64 : decode method_3_code 64 = .ok (.if_icmp .le 17, 3) := by decide +kernel
theorem d3_81 : decode method_3_code 81 = .ok (.iload_n 1, 1) := by decide +kernel
theorem d3_82 : decode method_3_code 82 = .ok (.iconst 5, 1) := by decide +kernel
theorem d3_83 : decode method_3_code 83 = .ok (.if_icmp .le 17, 3) := by decide +kernel
theorem d3_100 : decode method_3_code 100 = .ok (.iload_n 1, 1) := by decide +kernel
theorem d3_101 : decode method_3_code 101 = .ok (.bipush 6, 2) := by decide +kernel
theorem d3_103 : decode method_3_code 103 = .ok (.if_icmp .le 18, 3) := by decide +kernel
theorem d3_121 : decode method_3_code 121 = .ok (.iload_n 1, 1) := by decide +kernel
theorem d3_122 : decode method_3_code 122 = .ok (.bipush 7, 2) := by decide +kernel
theorem d3_124 : decode method_3_code 124 = .ok (.if_icmp .le 18, 3) := by decide +kernel
theorem d3_142 : decode method_3_code 142 = .ok (.lload_n 2, 1) := by decide +kernel
def fd1 (e0 : Int32) : Int64 := e0.toInt64
theorem ef3_1 (m_ : MethodId) (a : Addr)  : entryFrame m_ #[(.ref a), (.int (1 : Int32))] 4 = mkF m_ 0 #[.val (.ref a), .val (.int (1 : Int32)), .unset, .unset] [] := by first | (simp [entryFrame, mkF, argsToLocals, Value.category]; done) | rfl
theorem d3_143 : decode method_3_code 143 = .ok (.lreturn, 1) := by decide +kernel
set_option maxRecDepth 65536 in
set_option maxHeartbeats 40000000 in
theorem co3_1 (l : Launch) (Z : State) (a0 : Array Value) (hw : ∀ d ∈ tables_1, d.before a0 Z = true) (a : Addr) (e0 : Int32) (h0 : Heap) (A0 : AV Z h0 a .byte [(.int e0)]) : Co l (⟨"com/example/bindwick/bindwick/BERWriterIntegerValuePinLaw", "decode", "([BI)J"⟩ : MethodName) method_3_code 4 (some .long) [] ({ frames := 0, cells := 0, slots := 0, locals := 0 } : Room) Z h0 #[(.ref a), (.int (1 : Int32))] (Pu h0 (some (.long (fd1 e0)))) := by
  refine Co.of (plainFor_of_name pn_1) ?_
  intro p_ e_ s_ m_ below meth c_ T0 X0 hx hby hml hown hnm hret hlk hZ eq0
  refine Go.cast (ef3_1 m_ a ) ?_
  refine g_aloadN X0 hx rfl rfl (hb hby d3_0) 1 rfl ?_
  refine g_iconst X0 hx (0 : Int32) rfl (hb hby d3_1) 2 rfl ?_
  refine g_baload X0 hx hZ eq0 A0 (by decide) rfl (hb hby d3_2) 3 rfl ?_
  show Go p_ e_ below _ T0 (mkF m_ 3 #[.val (.ref a), .val (.int (1 : Int32)), .unset, .unset] [(.int e0)])
  refine g_i2l X0 hx (hb hby d3_3) 4 rfl ?_
  refine g_lstoreN X0 hx #[.val (.ref a), .val (.int (1 : Int32)), .val (.long e0.toInt64), .second] rfl (hb hby d3_4) 5 rfl ?_
  refine g_iloadN X0 hx rfl (hb hby d3_5) 6 rfl ?_
  refine g_iconst X0 hx (1 : Int32) rfl (hb hby d3_6) 7 rfl ?_
  refine g_icmp_le X0 hx (hb hby d3_7) 24 10 (by decide) rfl rfl (fun q7 => ?_) (fun q7 => ?_)
  · refine g_iloadN X0 hx rfl (hb hby d3_24) 25 rfl ?_
    refine g_iconst X0 hx (2 : Int32) rfl (hb hby d3_25) 26 rfl ?_
    refine g_icmp_le X0 hx (hb hby d3_26) 43 29 (by decide) rfl rfl (fun q26 => ?_) (fun q26 => ?_)
    · refine g_iloadN X0 hx rfl (hb hby d3_43) 44 rfl ?_
      refine g_iconst X0 hx (3 : Int32) rfl (hb hby d3_44) 45 rfl ?_
      refine g_icmp_le X0 hx (hb hby d3_45) 62 48 (by decide) rfl rfl (fun q45 => ?_) (fun q45 => ?_)
      · refine g_iloadN X0 hx rfl (hb hby d3_62) 63 rfl ?_
        refine g_iconst X0 hx (4 : Int32) rfl (hb hby d3_63) 64 rfl ?_
        refine g_icmp_le X0 hx (hb hby d3_64) 81 67 (by decide) rfl rfl (fun q64 => ?_) (fun q64 => ?_)
        · refine g_iloadN X0 hx rfl (hb hby d3_81) 82 rfl ?_
          refine g_iconst X0 hx (5 : Int32) rfl (hb hby d3_82) 83 rfl ?_
          refine g_icmp_le X0 hx (hb hby d3_83) 100 86 (by decide) rfl rfl (fun q83 => ?_) (fun q83 => ?_)
          · refine g_iloadN X0 hx rfl (hb hby d3_100) 101 rfl ?_
            refine g_bipush X0 hx (6 : Int32) rfl (hb hby d3_101) 103 rfl ?_
            refine g_icmp_le X0 hx (hb hby d3_103) 121 106 (by decide) rfl rfl (fun q103 => ?_) (fun q103 => ?_)
            · refine g_iloadN X0 hx rfl (hb hby d3_121) 122 rfl ?_
              refine g_bipush X0 hx (7 : Int32) rfl (hb hby d3_122) 124 rfl ?_
              refine g_icmp_le X0 hx (hb hby d3_124) 142 127 (by decide) rfl rfl (fun q124 => ?_) (fun q124 => ?_)
              · refine g_lloadN X0 hx rfl (hb hby d3_142) 143 rfl ?_
                exact g_retl X0 hx hret hlk (by decide) (by decide) (hb hby d3_143) ⟨congrArg (fun z => some (Value.long z)) rfl.symm, eq0, rfl⟩
              · exact absurd q124 (by decide)
            · exact absurd q103 (by decide)
          · exact absurd q83 (by decide)
        · exact absurd q64 (by decide)
      · exact absurd q45 (by decide)
    · exact absurd q26 (by decide)
  · exact absurd q7 (by decide)
theorem d3_10 : decode method_3_code 10 = .ok (.lload_n 2, 1) := by decide +kernel
theorem d3_11 : decode method_3_code 11 = .ok (.bipush 8, 2) := by decide +kernel
theorem d3_13 : decode method_3_code 13 = .ok (.lshl, 1) := by decide +kernel
theorem d3_14 : decode method_3_code 14 = .ok (.aload_n 0, 1) := by decide +kernel
theorem d3_15 : decode method_3_code 15 = .ok (.iconst 1, 1) := by decide +kernel
theorem d3_16 : decode method_3_code 16 = .ok (.baload, 1) := by decide +kernel
theorem d3_17 : decode method_3_code 17 = .ok (.i2l, 1) := by decide +kernel
theorem d3_18 : decode method_3_code 18 = .ok (.ldc2_w 23, 3) := by decide +kernel
theorem d3_21 : decode method_3_code 21 = .ok (.land, 1) := by decide +kernel
theorem d3_22 : decode method_3_code 22 = .ok (.lor, 1) := by decide +kernel
theorem d3_23 : decode method_3_code 23 = .ok (.lstore_n 2, 1) := by decide +kernel
def fd2 (e0 : Int32) (e1 : Int32) : Int64 := ((e0.toInt64 <<< ((8 : Int32) &&& 0x3f).toInt64) ||| (e1.toInt64 &&& (255 : Int64)))
theorem ef3_2 (m_ : MethodId) (a : Addr)  : entryFrame m_ #[(.ref a), (.int (2 : Int32))] 4 = mkF m_ 0 #[.val (.ref a), .val (.int (2 : Int32)), .unset, .unset] [] := by first | (simp [entryFrame, mkF, argsToLocals, Value.category]; done) | rfl
set_option maxRecDepth 65536 in
set_option maxHeartbeats 40000000 in
theorem co3_2 (l : Launch) (Z : State) (a0 : Array Value) (hw : ∀ d ∈ tables_1, d.before a0 Z = true) (a : Addr) (e0 : Int32) (e1 : Int32) (h0 : Heap) (A0 : AV Z h0 a .byte [(.int e0), (.int e1)]) : Co l (⟨"com/example/bindwick/bindwick/BERWriterIntegerValuePinLaw", "decode", "([BI)J"⟩ : MethodName) method_3_code 4 (some .long) [] ({ frames := 0, cells := 0, slots := 0, locals := 0 } : Room) Z h0 #[(.ref a), (.int (2 : Int32))] (Pu h0 (some (.long (fd2 e0 e1)))) := by
  refine Co.of (plainFor_of_name pn_1) ?_
  intro p_ e_ s_ m_ below meth c_ T0 X0 hx hby hml hown hnm hret hlk hZ eq0
  refine Go.cast (ef3_2 m_ a ) ?_
  refine g_aloadN X0 hx rfl rfl (hb hby d3_0) 1 rfl ?_
  refine g_iconst X0 hx (0 : Int32) rfl (hb hby d3_1) 2 rfl ?_
  refine g_baload X0 hx hZ eq0 A0 (by decide) rfl (hb hby d3_2) 3 rfl ?_
  show Go p_ e_ below _ T0 (mkF m_ 3 #[.val (.ref a), .val (.int (2 : Int32)), .unset, .unset] [(.int e0)])
  refine g_i2l X0 hx (hb hby d3_3) 4 rfl ?_
  refine g_lstoreN X0 hx #[.val (.ref a), .val (.int (2 : Int32)), .val (.long e0.toInt64), .second] rfl (hb hby d3_4) 5 rfl ?_
  refine g_iloadN X0 hx rfl (hb hby d3_5) 6 rfl ?_
  refine g_iconst X0 hx (1 : Int32) rfl (hb hby d3_6) 7 rfl ?_
  refine g_icmp_le X0 hx (hb hby d3_7) 24 10 (by decide) rfl rfl (fun q7 => ?_) (fun q7 => ?_)
  · exact absurd q7 (by decide)
  · refine g_lloadN X0 hx rfl (hb hby d3_10) 11 rfl ?_
    refine g_bipush X0 hx (8 : Int32) rfl (hb hby d3_11) 13 rfl ?_
    refine g_lshl X0 hx (hb hby d3_13) 14 rfl ?_
    refine g_aloadN X0 hx rfl rfl (hb hby d3_14) 15 rfl ?_
    refine g_iconst X0 hx (1 : Int32) rfl (hb hby d3_15) 16 rfl ?_
    refine g_baload X0 hx hZ eq0 A0 (by decide) rfl (hb hby d3_16) 17 rfl ?_
    show Go p_ e_ below _ T0 (mkF m_ 17 #[.val (.ref a), .val (.int (2 : Int32)), .val (.long e0.toInt64), .second] [(.int e1), (.long (e0.toInt64 <<< ((8 : Int32) &&& 0x3f).toInt64))])
    refine g_i2l X0 hx (hb hby d3_17) 18 rfl ?_
    refine g_ldc2_w X0 hx hZ hown (wd hw 19 rfl) (hb hby d3_18) 21 rfl ?_
    refine g_land X0 hx (hb hby d3_21) 22 rfl ?_
    refine g_lor X0 hx (hb hby d3_22) 23 rfl ?_
    refine g_lstoreN X0 hx #[.val (.ref a), .val (.int (2 : Int32)), .val (.long ((e0.toInt64 <<< ((8 : Int32) &&& 0x3f).toInt64) ||| (e1.toInt64 &&& (255 : Int64)))), .second] rfl (hb hby d3_23) 24 rfl ?_
    refine g_iloadN X0 hx rfl (hb hby d3_24) 25 rfl ?_
    refine g_iconst X0 hx (2 : Int32) rfl (hb hby d3_25) 26 rfl ?_
    refine g_icmp_le X0 hx (hb hby d3_26) 43 29 (by decide) rfl rfl (fun q26 => ?_) (fun q26 => ?_)
    · refine g_iloadN X0 hx rfl (hb hby d3_43) 44 rfl ?_
      refine g_iconst X0 hx (3 : Int32) rfl (hb hby d3_44) 45 rfl ?_
      refine g_icmp_le X0 hx (hb hby d3_45) 62 48 (by decide) rfl rfl (fun q45 => ?_) (fun q45 => ?_)
      · refine g_iloadN X0 hx rfl (hb hby d3_62) 63 rfl ?_
        refine g_iconst X0 hx (4 : Int32) rfl (hb hby d3_63) 64 rfl ?_
        refine g_icmp_le X0 hx (hb hby d3_64) 81 67 (by decide) rfl rfl (fun q64 => ?_) (fun q64 => ?_)
        · refine g_iloadN X0 hx rfl (hb hby d3_81) 82 rfl ?_
          refine g_iconst X0 hx (5 : Int32) rfl (hb hby d3_82) 83 rfl ?_
          refine g_icmp_le X0 hx (hb hby d3_83) 100 86 (by decide) rfl rfl (fun q83 => ?_) (fun q83 => ?_)
          · refine g_iloadN X0 hx rfl (hb hby d3_100) 101 rfl ?_
            refine g_bipush X0 hx (6 : Int32) rfl (hb hby d3_101) 103 rfl ?_
            refine g_icmp_le X0 hx (hb hby d3_103) 121 106 (by decide) rfl rfl (fun q103 => ?_) (fun q103 => ?_)
            · refine g_iloadN X0 hx rfl (hb hby d3_121) 122 rfl ?_
              refine g_bipush X0 hx (7 : Int32) rfl (hb hby d3_122) 124 rfl ?_
              refine g_icmp_le X0 hx (hb hby d3_124) 142 127 (by decide) rfl rfl (fun q124 => ?_) (fun q124 => ?_)
              · refine g_lloadN X0 hx rfl (hb hby d3_142) 143 rfl ?_
                exact g_retl X0 hx hret hlk (by decide) (by decide) (hb hby d3_143) ⟨congrArg (fun z => some (Value.long z)) rfl.symm, eq0, rfl⟩
              · exact absurd q124 (by decide)
            · exact absurd q103 (by decide)
          · exact absurd q83 (by decide)
        · exact absurd q64 (by decide)
      · exact absurd q45 (by decide)
    · exact absurd q26 (by decide)
theorem d3_29 : decode method_3_code 29 = .ok (.lload_n 2, 1) := by decide +kernel
theorem d3_30 : decode method_3_code 30 = .ok (.bipush 8, 2) := by decide +kernel
theorem d3_32 : decode method_3_code 32 = .ok (.lshl, 1) := by decide +kernel
theorem d3_33 : decode method_3_code 33 = .ok (.aload_n 0, 1) := by decide +kernel
theorem d3_34 : decode method_3_code 34 = .ok (.iconst 2, 1) := by decide +kernel
theorem d3_35 : decode method_3_code 35 = .ok (.baload, 1) := by decide +kernel
theorem d3_36 : decode method_3_code 36 = .ok (.i2l, 1) := by decide +kernel
theorem d3_37 : decode method_3_code 37 = .ok (.ldc2_w 23, 3) := by decide +kernel
theorem d3_40 : decode method_3_code 40 = .ok (.land, 1) := by decide +kernel
theorem d3_41 : decode method_3_code 41 = .ok (.lor, 1) := by decide +kernel
theorem d3_42 : decode method_3_code 42 = .ok (.lstore_n 2, 1) := by decide +kernel
def fd3 (e0 : Int32) (e1 : Int32) (e2 : Int32) : Int64 := ((((e0.toInt64 <<< ((8 : Int32) &&& 0x3f).toInt64) ||| (e1.toInt64 &&& (255 : Int64))) <<< ((8 : Int32) &&& 0x3f).toInt64) ||| (e2.toInt64 &&& (255 : Int64)))
theorem ef3_3 (m_ : MethodId) (a : Addr)  : entryFrame m_ #[(.ref a), (.int (3 : Int32))] 4 = mkF m_ 0 #[.val (.ref a), .val (.int (3 : Int32)), .unset, .unset] [] := by first | (simp [entryFrame, mkF, argsToLocals, Value.category]; done) | rfl
set_option maxRecDepth 65536 in
set_option maxHeartbeats 40000000 in
theorem co3_3 (l : Launch) (Z : State) (a0 : Array Value) (hw : ∀ d ∈ tables_1, d.before a0 Z = true) (a : Addr) (e0 : Int32) (e1 : Int32) (e2 : Int32) (h0 : Heap) (A0 : AV Z h0 a .byte [(.int e0), (.int e1), (.int e2)]) : Co l (⟨"com/example/bindwick/bindwick/BERWriterIntegerValuePinLaw", "decode", "([BI)J"⟩ : MethodName) method_3_code 4 (some .long) [] ({ frames := 0, cells := 0, slots := 0, locals := 0 } : Room) Z h0 #[(.ref a), (.int (3 : Int32))] (Pu h0 (some (.long (fd3 e0 e1 e2)))) := by
  refine Co.of (plainFor_of_name pn_1) ?_
  intro p_ e_ s_ m_ below meth c_ T0 X0 hx hby hml hown hnm hret hlk hZ eq0
  refine Go.cast (ef3_3 m_ a ) ?_
  refine g_aloadN X0 hx rfl rfl (hb hby d3_0) 1 rfl ?_
  refine g_iconst X0 hx (0 : Int32) rfl (hb hby d3_1) 2 rfl ?_
  refine g_baload X0 hx hZ eq0 A0 (by decide) rfl (hb hby d3_2) 3 rfl ?_
  show Go p_ e_ below _ T0 (mkF m_ 3 #[.val (.ref a), .val (.int (3 : Int32)), .unset, .unset] [(.int e0)])
  refine g_i2l X0 hx (hb hby d3_3) 4 rfl ?_
  refine g_lstoreN X0 hx #[.val (.ref a), .val (.int (3 : Int32)), .val (.long e0.toInt64), .second] rfl (hb hby d3_4) 5 rfl ?_
  refine g_iloadN X0 hx rfl (hb hby d3_5) 6 rfl ?_
  refine g_iconst X0 hx (1 : Int32) rfl (hb hby d3_6) 7 rfl ?_
  refine g_icmp_le X0 hx (hb hby d3_7) 24 10 (by decide) rfl rfl (fun q7 => ?_) (fun q7 => ?_)
  · exact absurd q7 (by decide)
  · refine g_lloadN X0 hx rfl (hb hby d3_10) 11 rfl ?_
    refine g_bipush X0 hx (8 : Int32) rfl (hb hby d3_11) 13 rfl ?_
    refine g_lshl X0 hx (hb hby d3_13) 14 rfl ?_
    refine g_aloadN X0 hx rfl rfl (hb hby d3_14) 15 rfl ?_
    refine g_iconst X0 hx (1 : Int32) rfl (hb hby d3_15) 16 rfl ?_
    refine g_baload X0 hx hZ eq0 A0 (by decide) rfl (hb hby d3_16) 17 rfl ?_
    show Go p_ e_ below _ T0 (mkF m_ 17 #[.val (.ref a), .val (.int (3 : Int32)), .val (.long e0.toInt64), .second] [(.int e1), (.long (e0.toInt64 <<< ((8 : Int32) &&& 0x3f).toInt64))])
    refine g_i2l X0 hx (hb hby d3_17) 18 rfl ?_
    refine g_ldc2_w X0 hx hZ hown (wd hw 19 rfl) (hb hby d3_18) 21 rfl ?_
    refine g_land X0 hx (hb hby d3_21) 22 rfl ?_
    refine g_lor X0 hx (hb hby d3_22) 23 rfl ?_
    refine g_lstoreN X0 hx #[.val (.ref a), .val (.int (3 : Int32)), .val (.long ((e0.toInt64 <<< ((8 : Int32) &&& 0x3f).toInt64) ||| (e1.toInt64 &&& (255 : Int64)))), .second] rfl (hb hby d3_23) 24 rfl ?_
    refine g_iloadN X0 hx rfl (hb hby d3_24) 25 rfl ?_
    refine g_iconst X0 hx (2 : Int32) rfl (hb hby d3_25) 26 rfl ?_
    refine g_icmp_le X0 hx (hb hby d3_26) 43 29 (by decide) rfl rfl (fun q26 => ?_) (fun q26 => ?_)
    · exact absurd q26 (by decide)
    · refine g_lloadN X0 hx rfl (hb hby d3_29) 30 rfl ?_
      refine g_bipush X0 hx (8 : Int32) rfl (hb hby d3_30) 32 rfl ?_
      refine g_lshl X0 hx (hb hby d3_32) 33 rfl ?_
      refine g_aloadN X0 hx rfl rfl (hb hby d3_33) 34 rfl ?_
      refine g_iconst X0 hx (2 : Int32) rfl (hb hby d3_34) 35 rfl ?_
      refine g_baload X0 hx hZ eq0 A0 (by decide) rfl (hb hby d3_35) 36 rfl ?_
      show Go p_ e_ below _ T0 (mkF m_ 36 #[.val (.ref a), .val (.int (3 : Int32)), .val (.long ((e0.toInt64 <<< ((8 : Int32) &&& 0x3f).toInt64) ||| (e1.toInt64 &&& (255 : Int64)))), .second] [(.int e2), (.long (((e0.toInt64 <<< ((8 : Int32) &&& 0x3f).toInt64) ||| (e1.toInt64 &&& (255 : Int64))) <<< ((8 : Int32) &&& 0x3f).toInt64))])
      refine g_i2l X0 hx (hb hby d3_36) 37 rfl ?_
      refine g_ldc2_w X0 hx hZ hown (wd hw 19 rfl) (hb hby d3_37) 40 rfl ?_
      refine g_land X0 hx (hb hby d3_40) 41 rfl ?_
      refine g_lor X0 hx (hb hby d3_41) 42 rfl ?_
      refine g_lstoreN X0 hx #[.val (.ref a), .val (.int (3 : Int32)), .val (.long ((((e0.toInt64 <<< ((8 : Int32) &&& 0x3f).toInt64) ||| (e1.toInt64 &&& (255 : Int64))) <<< ((8 : Int32) &&& 0x3f).toInt64) ||| (e2.toInt64 &&& (255 : Int64)))), .second] rfl (hb hby d3_42) 43 rfl ?_
      refine g_iloadN X0 hx rfl (hb hby d3_43) 44 rfl ?_
      refine g_iconst X0 hx (3 : Int32) rfl (hb hby d3_44) 45 rfl ?_
      refine g_icmp_le X0 hx (hb hby d3_45) 62 48 (by decide) rfl rfl (fun q45 => ?_) (fun q45 => ?_)
      · refine g_iloadN X0 hx rfl (hb hby d3_62) 63 rfl ?_
        refine g_iconst X0 hx (4 : Int32) rfl (hb hby d3_63) 64 rfl ?_
        refine g_icmp_le X0 hx (hb hby d3_64) 81 67 (by decide) rfl rfl (fun q64 => ?_) (fun q64 => ?_)
        · refine g_iloadN X0 hx rfl (hb hby d3_81) 82 rfl ?_
          refine g_iconst X0 hx (5 : Int32) rfl (hb hby d3_82) 83 rfl ?_
          refine g_icmp_le X0 hx (hb hby d3_83) 100 86 (by decide) rfl rfl (fun q83 => ?_) (fun q83 => ?_)
          · refine g_iloadN X0 hx rfl (hb hby d3_100) 101 rfl ?_
            refine g_bipush X0 hx (6 : Int32) rfl (hb hby d3_101) 103 rfl ?_
            refine g_icmp_le X0 hx (hb hby d3_103) 121 106 (by decide) rfl rfl (fun q103 => ?_) (fun q103 => ?_)
            · refine g_iloadN X0 hx rfl (hb hby d3_121) 122 rfl ?_
              refine g_bipush X0 hx (7 : Int32) rfl (hb hby d3_122) 124 rfl ?_
              refine g_icmp_le X0 hx (hb hby d3_124) 142 127 (by decide) rfl rfl (fun q124 => ?_) (fun q124 => ?_)
              · refine g_lloadN X0 hx rfl (hb hby d3_142) 143 rfl ?_
                exact g_retl X0 hx hret hlk (by decide) (by decide) (hb hby d3_143) ⟨congrArg (fun z => some (Value.long z)) rfl.symm, eq0, rfl⟩
              · exact absurd q124 (by decide)
            · exact absurd q103 (by decide)
          · exact absurd q83 (by decide)
        · exact absurd q64 (by decide)
      · exact absurd q45 (by decide)
theorem d3_48 : decode method_3_code 48 = .ok (.lload_n 2, 1) := by decide +kernel
theorem d3_49 : decode method_3_code 49 = .ok (.bipush 8, 2) := by decide +kernel
theorem d3_51 : decode method_3_code 51 = .ok (.lshl, 1) := by decide +kernel
theorem d3_52 : decode method_3_code 52 = .ok (.aload_n 0, 1) := by decide +kernel
theorem d3_53 : decode method_3_code 53 = .ok (.iconst 3, 1) := by decide +kernel
theorem d3_54 : decode method_3_code 54 = .ok (.baload, 1) := by decide +kernel
theorem d3_55 : decode method_3_code 55 = .ok (.i2l, 1) := by decide +kernel
theorem d3_56 : decode method_3_code 56 = .ok (.ldc2_w 23, 3) := by decide +kernel
theorem d3_59 : decode method_3_code 59 = .ok (.land, 1) := by decide +kernel
theorem d3_60 : decode method_3_code 60 = .ok (.lor, 1) := by decide +kernel
theorem d3_61 : decode method_3_code 61 = .ok (.lstore_n 2, 1) := by decide +kernel
def fd4 (e0 : Int32) (e1 : Int32) (e2 : Int32) (e3 : Int32) : Int64 := ((((((e0.toInt64 <<< ((8 : Int32) &&& 0x3f).toInt64) ||| (e1.toInt64 &&& (255 : Int64))) <<< ((8 : Int32) &&& 0x3f).toInt64) ||| (e2.toInt64 &&& (255 : Int64))) <<< ((8 : Int32) &&& 0x3f).toInt64) ||| (e3.toInt64 &&& (255 : Int64)))
theorem ef3_4 (m_ : MethodId) (a : Addr)  : entryFrame m_ #[(.ref a), (.int (4 : Int32))] 4 = mkF m_ 0 #[.val (.ref a), .val (.int (4 : Int32)), .unset, .unset] [] := by first | (simp [entryFrame, mkF, argsToLocals, Value.category]; done) | rfl
set_option maxRecDepth 65536 in
set_option maxHeartbeats 40000000 in
theorem co3_4 (l : Launch) (Z : State) (a0 : Array Value) (hw : ∀ d ∈ tables_1, d.before a0 Z = true) (a : Addr) (e0 : Int32) (e1 : Int32) (e2 : Int32) (e3 : Int32) (h0 : Heap) (A0 : AV Z h0 a .byte [(.int e0), (.int e1), (.int e2), (.int e3)]) : Co l (⟨"com/example/bindwick/bindwick/BERWriterIntegerValuePinLaw", "decode", "([BI)J"⟩ : MethodName) method_3_code 4 (some .long) [] ({ frames := 0, cells := 0, slots := 0, locals := 0 } : Room) Z h0 #[(.ref a), (.int (4 : Int32))] (Pu h0 (some (.long (fd4 e0 e1 e2 e3)))) := by
  refine Co.of (plainFor_of_name pn_1) ?_
  intro p_ e_ s_ m_ below meth c_ T0 X0 hx hby hml hown hnm hret hlk hZ eq0
  refine Go.cast (ef3_4 m_ a ) ?_
  refine g_aloadN X0 hx rfl rfl (hb hby d3_0) 1 rfl ?_
  refine g_iconst X0 hx (0 : Int32) rfl (hb hby d3_1) 2 rfl ?_
  refine g_baload X0 hx hZ eq0 A0 (by decide) rfl (hb hby d3_2) 3 rfl ?_
  show Go p_ e_ below _ T0 (mkF m_ 3 #[.val (.ref a), .val (.int (4 : Int32)), .unset, .unset] [(.int e0)])
  refine g_i2l X0 hx (hb hby d3_3) 4 rfl ?_
  refine g_lstoreN X0 hx #[.val (.ref a), .val (.int (4 : Int32)), .val (.long e0.toInt64), .second] rfl (hb hby d3_4) 5 rfl ?_
  refine g_iloadN X0 hx rfl (hb hby d3_5) 6 rfl ?_
  refine g_iconst X0 hx (1 : Int32) rfl (hb hby d3_6) 7 rfl ?_
  refine g_icmp_le X0 hx (hb hby d3_7) 24 10 (by decide) rfl rfl (fun q7 => ?_) (fun q7 => ?_)
  · exact absurd q7 (by decide)
  · refine g_lloadN X0 hx rfl (hb hby d3_10) 11 rfl ?_
    refine g_bipush X0 hx (8 : Int32) rfl (hb hby d3_11) 13 rfl ?_
    refine g_lshl X0 hx (hb hby d3_13) 14 rfl ?_
    refine g_aloadN X0 hx rfl rfl (hb hby d3_14) 15 rfl ?_
    refine g_iconst X0 hx (1 : Int32) rfl (hb hby d3_15) 16 rfl ?_
    refine g_baload X0 hx hZ eq0 A0 (by decide) rfl (hb hby d3_16) 17 rfl ?_
    show Go p_ e_ below _ T0 (mkF m_ 17 #[.val (.ref a), .val (.int (4 : Int32)), .val (.long e0.toInt64), .second] [(.int e1), (.long (e0.toInt64 <<< ((8 : Int32) &&& 0x3f).toInt64))])
    refine g_i2l X0 hx (hb hby d3_17) 18 rfl ?_
    refine g_ldc2_w X0 hx hZ hown (wd hw 19 rfl) (hb hby d3_18) 21 rfl ?_
    refine g_land X0 hx (hb hby d3_21) 22 rfl ?_
    refine g_lor X0 hx (hb hby d3_22) 23 rfl ?_
    refine g_lstoreN X0 hx #[.val (.ref a), .val (.int (4 : Int32)), .val (.long ((e0.toInt64 <<< ((8 : Int32) &&& 0x3f).toInt64) ||| (e1.toInt64 &&& (255 : Int64)))), .second] rfl (hb hby d3_23) 24 rfl ?_
    refine g_iloadN X0 hx rfl (hb hby d3_24) 25 rfl ?_
    refine g_iconst X0 hx (2 : Int32) rfl (hb hby d3_25) 26 rfl ?_
    refine g_icmp_le X0 hx (hb hby d3_26) 43 29 (by decide) rfl rfl (fun q26 => ?_) (fun q26 => ?_)
    · exact absurd q26 (by decide)
    · refine g_lloadN X0 hx rfl (hb hby d3_29) 30 rfl ?_
      refine g_bipush X0 hx (8 : Int32) rfl (hb hby d3_30) 32 rfl ?_
      refine g_lshl X0 hx (hb hby d3_32) 33 rfl ?_
      refine g_aloadN X0 hx rfl rfl (hb hby d3_33) 34 rfl ?_
      refine g_iconst X0 hx (2 : Int32) rfl (hb hby d3_34) 35 rfl ?_
      refine g_baload X0 hx hZ eq0 A0 (by decide) rfl (hb hby d3_35) 36 rfl ?_
      show Go p_ e_ below _ T0 (mkF m_ 36 #[.val (.ref a), .val (.int (4 : Int32)), .val (.long ((e0.toInt64 <<< ((8 : Int32) &&& 0x3f).toInt64) ||| (e1.toInt64 &&& (255 : Int64)))), .second] [(.int e2), (.long (((e0.toInt64 <<< ((8 : Int32) &&& 0x3f).toInt64) ||| (e1.toInt64 &&& (255 : Int64))) <<< ((8 : Int32) &&& 0x3f).toInt64))])
      refine g_i2l X0 hx (hb hby d3_36) 37 rfl ?_
      refine g_ldc2_w X0 hx hZ hown (wd hw 19 rfl) (hb hby d3_37) 40 rfl ?_
      refine g_land X0 hx (hb hby d3_40) 41 rfl ?_
      refine g_lor X0 hx (hb hby d3_41) 42 rfl ?_
      refine g_lstoreN X0 hx #[.val (.ref a), .val (.int (4 : Int32)), .val (.long ((((e0.toInt64 <<< ((8 : Int32) &&& 0x3f).toInt64) ||| (e1.toInt64 &&& (255 : Int64))) <<< ((8 : Int32) &&& 0x3f).toInt64) ||| (e2.toInt64 &&& (255 : Int64)))), .second] rfl (hb hby d3_42) 43 rfl ?_
      refine g_iloadN X0 hx rfl (hb hby d3_43) 44 rfl ?_
      refine g_iconst X0 hx (3 : Int32) rfl (hb hby d3_44) 45 rfl ?_
      refine g_icmp_le X0 hx (hb hby d3_45) 62 48 (by decide) rfl rfl (fun q45 => ?_) (fun q45 => ?_)
      · exact absurd q45 (by decide)
      · refine g_lloadN X0 hx rfl (hb hby d3_48) 49 rfl ?_
        refine g_bipush X0 hx (8 : Int32) rfl (hb hby d3_49) 51 rfl ?_
        refine g_lshl X0 hx (hb hby d3_51) 52 rfl ?_
        refine g_aloadN X0 hx rfl rfl (hb hby d3_52) 53 rfl ?_
        refine g_iconst X0 hx (3 : Int32) rfl (hb hby d3_53) 54 rfl ?_
        refine g_baload X0 hx hZ eq0 A0 (by decide) rfl (hb hby d3_54) 55 rfl ?_
        show Go p_ e_ below _ T0 (mkF m_ 55 #[.val (.ref a), .val (.int (4 : Int32)), .val (.long ((((e0.toInt64 <<< ((8 : Int32) &&& 0x3f).toInt64) ||| (e1.toInt64 &&& (255 : Int64))) <<< ((8 : Int32) &&& 0x3f).toInt64) ||| (e2.toInt64 &&& (255 : Int64)))), .second] [(.int e3), (.long (((((e0.toInt64 <<< ((8 : Int32) &&& 0x3f).toInt64) ||| (e1.toInt64 &&& (255 : Int64))) <<< ((8 : Int32) &&& 0x3f).toInt64) ||| (e2.toInt64 &&& (255 : Int64))) <<< ((8 : Int32) &&& 0x3f).toInt64))])
        refine g_i2l X0 hx (hb hby d3_55) 56 rfl ?_
        refine g_ldc2_w X0 hx hZ hown (wd hw 19 rfl) (hb hby d3_56) 59 rfl ?_
        refine g_land X0 hx (hb hby d3_59) 60 rfl ?_
        refine g_lor X0 hx (hb hby d3_60) 61 rfl ?_
        refine g_lstoreN X0 hx #[.val (.ref a), .val (.int (4 : Int32)), .val (.long ((((((e0.toInt64 <<< ((8 : Int32) &&& 0x3f).toInt64) ||| (e1.toInt64 &&& (255 : Int64))) <<< ((8 : Int32) &&& 0x3f).toInt64) ||| (e2.toInt64 &&& (255 : Int64))) <<< ((8 : Int32) &&& 0x3f).toInt64) ||| (e3.toInt64 &&& (255 : Int64)))), .second] rfl (hb hby d3_61) 62 rfl ?_
        refine g_iloadN X0 hx rfl (hb hby d3_62) 63 rfl ?_
        refine g_iconst X0 hx (4 : Int32) rfl (hb hby d3_63) 64 rfl ?_
        refine g_icmp_le X0 hx (hb hby d3_64) 81 67 (by decide) rfl rfl (fun q64 => ?_) (fun q64 => ?_)
        · refine g_iloadN X0 hx rfl (hb hby d3_81) 82 rfl ?_
          refine g_iconst X0 hx (5 : Int32) rfl (hb hby d3_82) 83 rfl ?_
          refine g_icmp_le X0 hx (hb hby d3_83) 100 86 (by decide) rfl rfl (fun q83 => ?_) (fun q83 => ?_)
          · refine g_iloadN X0 hx rfl (hb hby d3_100) 101 rfl ?_
            refine g_bipush X0 hx (6 : Int32) rfl (hb hby d3_101) 103 rfl ?_
            refine g_icmp_le X0 hx (hb hby d3_103) 121 106 (by decide) rfl rfl (fun q103 => ?_) (fun q103 => ?_)
            · refine g_iloadN X0 hx rfl (hb hby d3_121) 122 rfl ?_
              refine g_bipush X0 hx (7 : Int32) rfl (hb hby d3_122) 124 rfl ?_
              refine g_icmp_le X0 hx (hb hby d3_124) 142 127 (by decide) rfl rfl (fun q124 => ?_) (fun q124 => ?_)
              · refine g_lloadN X0 hx rfl (hb hby d3_142) 143 rfl ?_
                exact g_retl X0 hx hret hlk (by decide) (by decide) (hb hby d3_143) ⟨congrArg (fun z => some (Value.long z)) rfl.symm, eq0, rfl⟩
              · exact absurd q124 (by decide)
            · exact absurd q103 (by decide)
          · exact absurd q83 (by decide)
        · exact absurd q64 (by decide)
theorem d3_67 : decode method_3_code 67 = .ok (.lload_n 2, 1) := by decide +kernel
theorem d3_68 : decode method_3_code 68 = .ok (.bipush 8, 2) := by decide +kernel
theorem d3_70 : decode method_3_code 70 = .ok (.lshl, 1) := by decide +kernel
theorem d3_71 : decode method_3_code 71 = .ok (.aload_n 0, 1) := by decide +kernel
theorem d3_72 : decode method_3_code 72 = .ok (.iconst 4, 1) := by decide +kernel
theorem d3_73 : decode method_3_code 73 = .ok (.baload, 1) := by decide +kernel
theorem d3_74 : decode method_3_code 74 = .ok (.i2l, 1) := by decide +kernel
theorem d3_75 : decode method_3_code 75 = .ok (.ldc2_w 23, 3) := by decide +kernel
theorem d3_78 : decode method_3_code 78 = .ok (.land, 1) := by decide +kernel
theorem d3_79 : decode method_3_code 79 = .ok (.lor, 1) := by decide +kernel
theorem d3_80 : decode method_3_code 80 = .ok (.lstore_n 2, 1) := by decide +kernel
def fd5 (e0 : Int32) (e1 : Int32) (e2 : Int32) (e3 : Int32) (e4 : Int32) : Int64 := ((((((((e0.toInt64 <<< ((8 : Int32) &&& 0x3f).toInt64) ||| (e1.toInt64 &&& (255 : Int64))) <<< ((8 : Int32) &&& 0x3f).toInt64) ||| (e2.toInt64 &&& (255 : Int64))) <<< ((8 : Int32) &&& 0x3f).toInt64) ||| (e3.toInt64 &&& (255 : Int64))) <<< ((8 : Int32) &&& 0x3f).toInt64) ||| (e4.toInt64 &&& (255 : Int64)))
theorem ef3_5 (m_ : MethodId) (a : Addr)  : entryFrame m_ #[(.ref a), (.int (5 : Int32))] 4 = mkF m_ 0 #[.val (.ref a), .val (.int (5 : Int32)), .unset, .unset] [] := by first | (simp [entryFrame, mkF, argsToLocals, Value.category]; done) | rfl
set_option maxRecDepth 65536 in
set_option maxHeartbeats 40000000 in
theorem co3_5 (l : Launch) (Z : State) (a0 : Array Value) (hw : ∀ d ∈ tables_1, d.before a0 Z = true) (a : Addr) (e0 : Int32) (e1 : Int32) (e2 : Int32) (e3 : Int32) (e4 : Int32) (h0 : Heap) (A0 : AV Z h0 a .byte [(.int e0), (.int e1), (.int e2), (.int e3), (.int e4)]) : Co l (⟨"com/example/bindwick/bindwick/BERWriterIntegerValuePinLaw", "decode", "([BI)J"⟩ : MethodName) method_3_code 4 (some .long) [] ({ frames := 0, cells := 0, slots := 0, locals := 0 } : Room) Z h0 #[(.ref a), (.int (5 : Int32))] (Pu h0 (some (.long (fd5 e0 e1 e2 e3 e4)))) := by
  refine Co.of (plainFor_of_name pn_1) ?_
  intro p_ e_ s_ m_ below meth c_ T0 X0 hx hby hml hown hnm hret hlk hZ eq0
  refine Go.cast (ef3_5 m_ a ) ?_
  refine g_aloadN X0 hx rfl rfl (hb hby d3_0) 1 rfl ?_
  refine g_iconst X0 hx (0 : Int32) rfl (hb hby d3_1) 2 rfl ?_
  refine g_baload X0 hx hZ eq0 A0 (by decide) rfl (hb hby d3_2) 3 rfl ?_
  show Go p_ e_ below _ T0 (mkF m_ 3 #[.val (.ref a), .val (.int (5 : Int32)), .unset, .unset] [(.int e0)])
  refine g_i2l X0 hx (hb hby d3_3) 4 rfl ?_
  refine g_lstoreN X0 hx #[.val (.ref a), .val (.int (5 : Int32)), .val (.long e0.toInt64), .second] rfl (hb hby d3_4) 5 rfl ?_
  refine g_iloadN X0 hx rfl (hb hby d3_5) 6 rfl ?_
  refine g_iconst X0 hx (1 : Int32) rfl (hb hby d3_6) 7 rfl ?_
  refine g_icmp_le X0 hx (hb hby d3_7) 24 10 (by decide) rfl rfl (fun q7 => ?_) (fun q7 => ?_)
  · exact absurd q7 (by decide)
  · refine g_lloadN X0 hx rfl (hb hby d3_10) 11 rfl ?_
    refine g_bipush X0 hx (8 : Int32) rfl (hb hby d3_11) 13 rfl ?_
    refine g_lshl X0 hx (hb hby d3_13) 14 rfl ?_
    refine g_aloadN X0 hx rfl rfl (hb hby d3_14) 15 rfl ?_
    refine g_iconst X0 hx (1 : Int32) rfl (hb hby d3_15) 16 rfl ?_
    refine g_baload X0 hx hZ eq0 A0 (by decide) rfl (hb hby d3_16) 17 rfl ?_
    show Go p_ e_ below _ T0 (mkF m_ 17 #[.val (.ref a), .val (.int (5 : Int32)), .val (.long e0.toInt64), .second] [(.int e1), (.long (e0.toInt64 <<< ((8 : Int32) &&& 0x3f).toInt64))])
    refine g_i2l X0 hx (hb hby d3_17) 18 rfl ?_
    refine g_ldc2_w X0 hx hZ hown (wd hw 19 rfl) (hb hby d3_18) 21 rfl ?_
    refine g_land X0 hx (hb hby d3_21) 22 rfl ?_
    refine g_lor X0 hx (hb hby d3_22) 23 rfl ?_
    refine g_lstoreN X0 hx #[.val (.ref a), .val (.int (5 : Int32)), .val (.long ((e0.toInt64 <<< ((8 : Int32) &&& 0x3f).toInt64) ||| (e1.toInt64 &&& (255 : Int64)))), .second] rfl (hb hby d3_23) 24 rfl ?_
    refine g_iloadN X0 hx rfl (hb hby d3_24) 25 rfl ?_
    refine g_iconst X0 hx (2 : Int32) rfl (hb hby d3_25) 26 rfl ?_
    refine g_icmp_le X0 hx (hb hby d3_26) 43 29 (by decide) rfl rfl (fun q26 => ?_) (fun q26 => ?_)
    · exact absurd q26 (by decide)
    · refine g_lloadN X0 hx rfl (hb hby d3_29) 30 rfl ?_
      refine g_bipush X0 hx (8 : Int32) rfl (hb hby d3_30) 32 rfl ?_
      refine g_lshl X0 hx (hb hby d3_32) 33 rfl ?_
      refine g_aloadN X0 hx rfl rfl (hb hby d3_33) 34 rfl ?_
      refine g_iconst X0 hx (2 : Int32) rfl (hb hby d3_34) 35 rfl ?_
      refine g_baload X0 hx hZ eq0 A0 (by decide) rfl (hb hby d3_35) 36 rfl ?_
      show Go p_ e_ below _ T0 (mkF m_ 36 #[.val (.ref a), .val (.int (5 : Int32)), .val (.long ((e0.toInt64 <<< ((8 : Int32) &&& 0x3f).toInt64) ||| (e1.toInt64 &&& (255 : Int64)))), .second] [(.int e2), (.long (((e0.toInt64 <<< ((8 : Int32) &&& 0x3f).toInt64) ||| (e1.toInt64 &&& (255 : Int64))) <<< ((8 : Int32) &&& 0x3f).toInt64))])
      refine g_i2l X0 hx (hb hby d3_36) 37 rfl ?_
      refine g_ldc2_w X0 hx hZ hown (wd hw 19 rfl) (hb hby d3_37) 40 rfl ?_
      refine g_land X0 hx (hb hby d3_40) 41 rfl ?_
      refine g_lor X0 hx (hb hby d3_41) 42 rfl ?_
      refine g_lstoreN X0 hx #[.val (.ref a), .val (.int (5 : Int32)), .val (.long ((((e0.toInt64 <<< ((8 : Int32) &&& 0x3f).toInt64) ||| (e1.toInt64 &&& (255 : Int64))) <<< ((8 : Int32) &&& 0x3f).toInt64) ||| (e2.toInt64 &&& (255 : Int64)))), .second] rfl (hb hby d3_42) 43 rfl ?_
      refine g_iloadN X0 hx rfl (hb hby d3_43) 44 rfl ?_
      refine g_iconst X0 hx (3 : Int32) rfl (hb hby d3_44) 45 rfl ?_
      refine g_icmp_le X0 hx (hb hby d3_45) 62 48 (by decide) rfl rfl (fun q45 => ?_) (fun q45 => ?_)
      · exact absurd q45 (by decide)
      · refine g_lloadN X0 hx rfl (hb hby d3_48) 49 rfl ?_
        refine g_bipush X0 hx (8 : Int32) rfl (hb hby d3_49) 51 rfl ?_
        refine g_lshl X0 hx (hb hby d3_51) 52 rfl ?_
        refine g_aloadN X0 hx rfl rfl (hb hby d3_52) 53 rfl ?_
        refine g_iconst X0 hx (3 : Int32) rfl (hb hby d3_53) 54 rfl ?_
        refine g_baload X0 hx hZ eq0 A0 (by decide) rfl (hb hby d3_54) 55 rfl ?_
        show Go p_ e_ below _ T0 (mkF m_ 55 #[.val (.ref a), .val (.int (5 : Int32)), .val (.long ((((e0.toInt64 <<< ((8 : Int32) &&& 0x3f).toInt64) ||| (e1.toInt64 &&& (255 : Int64))) <<< ((8 : Int32) &&& 0x3f).toInt64) ||| (e2.toInt64 &&& (255 : Int64)))), .second] [(.int e3), (.long (((((e0.toInt64 <<< ((8 : Int32) &&& 0x3f).toInt64) ||| (e1.toInt64 &&& (255 : Int64))) <<< ((8 : Int32) &&& 0x3f).toInt64) ||| (e2.toInt64 &&& (255 : Int64))) <<< ((8 : Int32) &&& 0x3f).toInt64))])
        refine g_i2l X0 hx (hb hby d3_55) 56 rfl ?_
        refine g_ldc2_w X0 hx hZ hown (wd hw 19 rfl) (hb hby d3_56) 59 rfl ?_
        refine g_land X0 hx (hb hby d3_59) 60 rfl ?_
        refine g_lor X0 hx (hb hby d3_60) 61 rfl ?_
        refine g_lstoreN X0 hx #[.val (.ref a), .val (.int (5 : Int32)), .val (.long ((((((e0.toInt64 <<< ((8 : Int32) &&& 0x3f).toInt64) ||| (e1.toInt64 &&& (255 : Int64))) <<< ((8 : Int32) &&& 0x3f).toInt64) ||| (e2.toInt64 &&& (255 : Int64))) <<< ((8 : Int32) &&& 0x3f).toInt64) ||| (e3.toInt64 &&& (255 : Int64)))), .second] rfl (hb hby d3_61) 62 rfl ?_
        refine g_iloadN X0 hx rfl (hb hby d3_62) 63 rfl ?_
        refine g_iconst X0 hx (4 : Int32) rfl (hb hby d3_63) 64 rfl ?_
        refine g_icmp_le X0 hx (hb hby d3_64) 81 67 (by decide) rfl rfl (fun q64 => ?_) (fun q64 => ?_)
        · exact absurd q64 (by decide)
        · refine g_lloadN X0 hx rfl (hb hby d3_67) 68 rfl ?_
          refine g_bipush X0 hx (8 : Int32) rfl (hb hby d3_68) 70 rfl ?_
          refine g_lshl X0 hx (hb hby d3_70) 71 rfl ?_
          refine g_aloadN X0 hx rfl rfl (hb hby d3_71) 72 rfl ?_
          refine g_iconst X0 hx (4 : Int32) rfl (hb hby d3_72) 73 rfl ?_
          refine g_baload X0 hx hZ eq0 A0 (by decide) rfl (hb hby d3_73) 74 rfl ?_
          show Go p_ e_ below _ T0 (mkF m_ 74 #[.val (.ref a), .val (.int (5 : Int32)), .val (.long ((((((e0.toInt64 <<< ((8 : Int32) &&& 0x3f).toInt64) ||| (e1.toInt64 &&& (255 : Int64))) <<< ((8 : Int32) &&& 0x3f).toInt64) ||| (e2.toInt64 &&& (255 : Int64))) <<< ((8 : Int32) &&& 0x3f).toInt64) ||| (e3.toInt64 &&& (255 : Int64)))), .second] [(.int e4), (.long (((((((e0.toInt64 <<< ((8 : Int32) &&& 0x3f).toInt64) ||| (e1.toInt64 &&& (255 : Int64))) <<< ((8 : Int32) &&& 0x3f).toInt64) ||| (e2.toInt64 &&& (255 : Int64))) <<< ((8 : Int32) &&& 0x3f).toInt64) ||| (e3.toInt64 &&& (255 : Int64))) <<< ((8 : Int32) &&& 0x3f).toInt64))])
          refine g_i2l X0 hx (hb hby d3_74) 75 rfl ?_
          refine g_ldc2_w X0 hx hZ hown (wd hw 19 rfl) (hb hby d3_75) 78 rfl ?_
          refine g_land X0 hx (hb hby d3_78) 79 rfl ?_
          refine g_lor X0 hx (hb hby d3_79) 80 rfl ?_
          refine g_lstoreN X0 hx #[.val (.ref a), .val (.int (5 : Int32)), .val (.long ((((((((e0.toInt64 <<< ((8 : Int32) &&& 0x3f).toInt64) ||| (e1.toInt64 &&& (255 : Int64))) <<< ((8 : Int32) &&& 0x3f).toInt64) ||| (e2.toInt64 &&& (255 : Int64))) <<< ((8 : Int32) &&& 0x3f).toInt64) ||| (e3.toInt64 &&& (255 : Int64))) <<< ((8 : Int32) &&& 0x3f).toInt64) ||| (e4.toInt64 &&& (255 : Int64)))), .second] rfl (hb hby d3_80) 81 rfl ?_
          refine g_iloadN X0 hx rfl (hb hby d3_81) 82 rfl ?_
          refine g_iconst X0 hx (5 : Int32) rfl (hb hby d3_82) 83 rfl ?_
          refine g_icmp_le X0 hx (hb hby d3_83) 100 86 (by decide) rfl rfl (fun q83 => ?_) (fun q83 => ?_)
          · refine g_iloadN X0 hx rfl (hb hby d3_100) 101 rfl ?_
            refine g_bipush X0 hx (6 : Int32) rfl (hb hby d3_101) 103 rfl ?_
            refine g_icmp_le X0 hx (hb hby d3_103) 121 106 (by decide) rfl rfl (fun q103 => ?_) (fun q103 => ?_)
            · refine g_iloadN X0 hx rfl (hb hby d3_121) 122 rfl ?_
              refine g_bipush X0 hx (7 : Int32) rfl (hb hby d3_122) 124 rfl ?_
              refine g_icmp_le X0 hx (hb hby d3_124) 142 127 (by decide) rfl rfl (fun q124 => ?_) (fun q124 => ?_)
              · refine g_lloadN X0 hx rfl (hb hby d3_142) 143 rfl ?_
                exact g_retl X0 hx hret hlk (by decide) (by decide) (hb hby d3_143) ⟨congrArg (fun z => some (Value.long z)) rfl.symm, eq0, rfl⟩
              · exact absurd q124 (by decide)
            · exact absurd q103 (by decide)
          · exact absurd q83 (by decide)
theorem d3_86 : decode method_3_code 86 = .ok (.lload_n 2, 1) := by decide +kernel
theorem d3_87 : decode method_3_code 87 = .ok (.bipush 8, 2) := by decide +kernel
theorem d3_89 : decode method_3_code 89 = .ok (.lshl, 1) := by decide +kernel
theorem d3_90 : decode method_3_code 90 = .ok (.aload_n 0, 1) := by decide +kernel
theorem d3_91 : decode method_3_code 91 = .ok (.iconst 5, 1) := by decide +kernel
theorem d3_92 : decode method_3_code 92 = .ok (.baload, 1) := by decide +kernel
theorem d3_93 : decode method_3_code 93 = .ok (.i2l, 1) := by decide +kernel
theorem d3_94 : decode method_3_code 94 = .ok (.ldc2_w 23, 3) := by decide +kernel
theorem d3_97 : decode method_3_code 97 = .ok (.land, 1) := by decide +kernel
theorem d3_98 : decode method_3_code 98 = .ok (.lor, 1) := by decide +kernel
theorem d3_99 : decode method_3_code 99 = .ok (.lstore_n 2, 1) := by decide +kernel
def fd6 (e0 : Int32) (e1 : Int32) (e2 : Int32) (e3 : Int32) (e4 : Int32) (e5 : Int32) : Int64 := ((((((((((e0.toInt64 <<< ((8 : Int32) &&& 0x3f).toInt64) ||| (e1.toInt64 &&& (255 : Int64))) <<< ((8 : Int32) &&& 0x3f).toInt64) ||| (e2.toInt64 &&& (255 : Int64))) <<< ((8 : Int32) &&& 0x3f).toInt64) ||| (e3.toInt64 &&& (255 : Int64))) <<< ((8 : Int32) &&& 0x3f).toInt64) ||| (e4.toInt64 &&& (255 : Int64))) <<< ((8 : Int32) &&& 0x3f).toInt64) ||| (e5.toInt64 &&& (255 : Int64)))
theorem ef3_6 (m_ : MethodId) (a : Addr)  : entryFrame m_ #[(.ref a), (.int (6 : Int32))] 4 = mkF m_ 0 #[.val (.ref a), .val (.int (6 : Int32)), .unset, .unset] [] := by first | (simp [entryFrame, mkF, argsToLocals, Value.category]; done) | rfl
set_option maxRecDepth 65536 in
set_option maxHeartbeats 40000000 in
theorem co3_6 (l : Launch) (Z : State) (a0 : Array Value) (hw : ∀ d ∈ tables_1, d.before a0 Z = true) (a : Addr) (e0 : Int32) (e1 : Int32) (e2 : Int32) (e3 : Int32) (e4 : Int32) (e5 : Int32) (h0 : Heap) (A0 : AV Z h0 a .byte [(.int e0), (.int e1), (.int e2), (.int e3), (.int e4), (.int e5)]) : Co l (⟨"com/example/bindwick/bindwick/BERWriterIntegerValuePinLaw", "decode", "([BI)J"⟩ : MethodName) method_3_code 4 (some .long) [] ({ frames := 0, cells := 0, slots := 0, locals := 0 } : Room) Z h0 #[(.ref a), (.int (6 : Int32))] (Pu h0 (some (.long (fd6 e0 e1 e2 e3 e4 e5)))) := by
  refine Co.of (plainFor_of_name pn_1) ?_
  intro p_ e_ s_ m_ below meth c_ T0 X0 hx hby hml hown hnm hret hlk hZ eq0
  refine Go.cast (ef3_6 m_ a ) ?_
  refine g_aloadN X0 hx rfl rfl (hb hby d3_0) 1 rfl ?_
  refine g_iconst X0 hx (0 : Int32) rfl (hb hby d3_1) 2 rfl ?_
  refine g_baload X0 hx hZ eq0 A0 (by decide) rfl (hb hby d3_2) 3 rfl ?_
  show Go p_ e_ below _ T0 (mkF m_ 3 #[.val (.ref a), .val (.int (6 : Int32)), .unset, .unset] [(.int e0)])
  refine g_i2l X0 hx (hb hby d3_3) 4 rfl ?_
  refine g_lstoreN X0 hx #[.val (.ref a), .val (.int (6 : Int32)), .val (.long e0.toInt64), .second] rfl (hb hby d3_4) 5 rfl ?_
  refine g_iloadN X0 hx rfl (hb hby d3_5) 6 rfl ?_
  refine g_iconst X0 hx (1 : Int32) rfl (hb hby d3_6) 7 rfl ?_
  refine g_icmp_le X0 hx (hb hby d3_7) 24 10 (by decide) rfl rfl (fun q7 => ?_) (fun q7 => ?_)
  · exact absurd q7 (by decide)
  · refine g_lloadN X0 hx rfl (hb hby d3_10) 11 rfl ?_
    refine g_bipush X0 hx (8 : Int32) rfl (hb hby d3_11) 13 rfl ?_
    refine g_lshl X0 hx (hb hby d3_13) 14 rfl ?_
    refine g_aloadN X0 hx rfl rfl (hb hby d3_14) 15 rfl ?_
    refine g_iconst X0 hx (1 : Int32) rfl (hb hby d3_15) 16 rfl ?_
    refine g_baload X0 hx hZ eq0 A0 (by decide) rfl (hb hby d3_16) 17 rfl ?_
    show Go p_ e_ below _ T0 (mkF m_ 17 #[.val (.ref a), .val (.int (6 : Int32)), .val (.long e0.toInt64), .second] [(.int e1), (.long (e0.toInt64 <<< ((8 : Int32) &&& 0x3f).toInt64))])
    refine g_i2l X0 hx (hb hby d3_17) 18 rfl ?_
    refine g_ldc2_w X0 hx hZ hown (wd hw 19 rfl) (hb hby d3_18) 21 rfl ?_
    refine g_land X0 hx (hb hby d3_21) 22 rfl ?_
    refine g_lor X0 hx (hb hby d3_22) 23 rfl ?_
    refine g_lstoreN X0 hx #[.val (.ref a), .val (.int (6 : Int32)), .val (.long ((e0.toInt64 <<< ((8 : Int32) &&& 0x3f).toInt64) ||| (e1.toInt64 &&& (255 : Int64)))), .second] rfl (hb hby d3_23) 24 rfl ?_
    refine g_iloadN X0 hx rfl (hb hby d3_24) 25 rfl ?_
    refine g_iconst X0 hx (2 : Int32) rfl (hb hby d3_25) 26 rfl ?_
    refine g_icmp_le X0 hx (hb hby d3_26) 43 29 (by decide) rfl rfl (fun q26 => ?_) (fun q26 => ?_)
    · exact absurd q26 (by decide)
    · refine g_lloadN X0 hx rfl (hb hby d3_29) 30 rfl ?_
      refine g_bipush X0 hx (8 : Int32) rfl (hb hby d3_30) 32 rfl ?_
      refine g_lshl X0 hx (hb hby d3_32) 33 rfl ?_
      refine g_aloadN X0 hx rfl rfl (hb hby d3_33) 34 rfl ?_
      refine g_iconst X0 hx (2 : Int32) rfl (hb hby d3_34) 35 rfl ?_
      refine g_baload X0 hx hZ eq0 A0 (by decide) rfl (hb hby d3_35) 36 rfl ?_
      show Go p_ e_ below _ T0 (mkF m_ 36 #[.val (.ref a), .val (.int (6 : Int32)), .val (.long ((e0.toInt64 <<< ((8 : Int32) &&& 0x3f).toInt64) ||| (e1.toInt64 &&& (255 : Int64)))), .second] [(.int e2), (.long (((e0.toInt64 <<< ((8 : Int32) &&& 0x3f).toInt64) ||| (e1.toInt64 &&& (255 : Int64))) <<< ((8 : Int32) &&& 0x3f).toInt64))])
      refine g_i2l X0 hx (hb hby d3_36) 37 rfl ?_
      refine g_ldc2_w X0 hx hZ hown (wd hw 19 rfl) (hb hby d3_37) 40 rfl ?_
      refine g_land X0 hx (hb hby d3_40) 41 rfl ?_
      refine g_lor X0 hx (hb hby d3_41) 42 rfl ?_
      refine g_lstoreN X0 hx #[.val (.ref a), .val (.int (6 : Int32)), .val (.long ((((e0.toInt64 <<< ((8 : Int32) &&& 0x3f).toInt64) ||| (e1.toInt64 &&& (255 : Int64))) <<< ((8 : Int32) &&& 0x3f).toInt64) ||| (e2.toInt64 &&& (255 : Int64)))), .second] rfl (hb hby d3_42) 43 rfl ?_
      refine g_iloadN X0 hx rfl (hb hby d3_43) 44 rfl ?_
      refine g_iconst X0 hx (3 : Int32) rfl (hb hby d3_44) 45 rfl ?_
      refine g_icmp_le X0 hx (hb hby d3_45) 62 48 (by decide) rfl rfl (fun q45 => ?_) (fun q45 => ?_)
      · exact absurd q45 (by decide)
      · refine g_lloadN X0 hx rfl (hb hby d3_48) 49 rfl ?_
        refine g_bipush X0 hx (8 : Int32) rfl (hb hby d3_49) 51 rfl ?_
        refine g_lshl X0 hx (hb hby d3_51) 52 rfl ?_
        refine g_aloadN X0 hx rfl rfl (hb hby d3_52) 53 rfl ?_
        refine g_iconst X0 hx (3 : Int32) rfl (hb hby d3_53) 54 rfl ?_
        refine g_baload X0 hx hZ eq0 A0 (by decide) rfl (hb hby d3_54) 55 rfl ?_
        show Go p_ e_ below _ T0 (mkF m_ 55 #[.val (.ref a), .val (.int (6 : Int32)), .val (.long ((((e0.toInt64 <<< ((8 : Int32) &&& 0x3f).toInt64) ||| (e1.toInt64 &&& (255 : Int64))) <<< ((8 : Int32) &&& 0x3f).toInt64) ||| (e2.toInt64 &&& (255 : Int64)))), .second] [(.int e3), (.long (((((e0.toInt64 <<< ((8 : Int32) &&& 0x3f).toInt64) ||| (e1.toInt64 &&& (255 : Int64))) <<< ((8 : Int32) &&& 0x3f).toInt64) ||| (e2.toInt64 &&& (255 : Int64))) <<< ((8 : Int32) &&& 0x3f).toInt64))])
        refine g_i2l X0 hx (hb hby d3_55) 56 rfl ?_
        refine g_ldc2_w X0 hx hZ hown (wd hw 19 rfl) (hb hby d3_56) 59 rfl ?_
        refine g_land X0 hx (hb hby d3_59) 60 rfl ?_
        refine g_lor X0 hx (hb hby d3_60) 61 rfl ?_
        refine g_lstoreN X0 hx #[.val (.ref a), .val (.int (6 : Int32)), .val (.long ((((((e0.toInt64 <<< ((8 : Int32) &&& 0x3f).toInt64) ||| (e1.toInt64 &&& (255 : Int64))) <<< ((8 : Int32) &&& 0x3f).toInt64) ||| (e2.toInt64 &&& (255 : Int64))) <<< ((8 : Int32) &&& 0x3f).toInt64) ||| (e3.toInt64 &&& (255 : Int64)))), .second] rfl (hb hby d3_61) 62 rfl ?_
        refine g_iloadN X0 hx rfl (hb hby d3_62) 63 rfl ?_
        refine g_iconst X0 hx (4 : Int32) rfl (hb hby d3_63) 64 rfl ?_
        refine g_icmp_le X0 hx (hb hby d3_64) 81 67 (by decide) rfl rfl (fun q64 => ?_) (fun q64 => ?_)
        · exact absurd q64 (by decide)
        · refine g_lloadN X0 hx rfl (hb hby d3_67) 68 rfl ?_
          refine g_bipush X0 hx (8 : Int32) rfl (hb hby d3_68) 70 rfl ?_
          refine g_lshl X0 hx (hb hby d3_70) 71 rfl ?_
          refine g_aloadN X0 hx rfl rfl (hb hby d3_71) 72 rfl ?_
          refine g_iconst X0 hx (4 : Int32) rfl (hb hby d3_72) 73 rfl ?_
          refine g_baload X0 hx hZ eq0 A0 (by decide) rfl (hb hby d3_73) 74 rfl ?_
          show Go p_ e_ below _ T0 (mkF m_ 74 #[.val (.ref a), .val (.int (6 : Int32)), .val (.long ((((((e0.toInt64 <<< ((8 : Int32) &&& 0x3f).toInt64) ||| (e1.toInt64 &&& (255 : Int64))) <<< ((8 : Int32) &&& 0x3f).toInt64) ||| (e2.toInt64 &&& (255 : Int64))) <<< ((8 : Int32) &&& 0x3f).toInt64) ||| (e3.toInt64 &&& (255 : Int64)))), .second] [(.int e4), (.long (((((((e0.toInt64 <<< ((8 : Int32) &&& 0x3f).toInt64) ||| (e1.toInt64 &&& (255 : Int64))) <<< ((8 : Int32) &&& 0x3f).toInt64) ||| (e2.toInt64 &&& (255 : Int64))) <<< ((8 : Int32) &&& 0x3f).toInt64) ||| (e3.toInt64 &&& (255 : Int64))) <<< ((8 : Int32) &&& 0x3f).toInt64))])
          refine g_i2l X0 hx (hb hby d3_74) 75 rfl ?_
          refine g_ldc2_w X0 hx hZ hown (wd hw 19 rfl) (hb hby d3_75) 78 rfl ?_
          refine g_land X0 hx (hb hby d3_78) 79 rfl ?_
          refine g_lor X0 hx (hb hby d3_79) 80 rfl ?_
          refine g_lstoreN X0 hx #[.val (.ref a), .val (.int (6 : Int32)), .val (.long ((((((((e0.toInt64 <<< ((8 : Int32) &&& 0x3f).toInt64) ||| (e1.toInt64 &&& (255 : Int64))) <<< ((8 : Int32) &&& 0x3f).toInt64) ||| (e2.toInt64 &&& (255 : Int64))) <<< ((8 : Int32) &&& 0x3f).toInt64) ||| (e3.toInt64 &&& (255 : Int64))) <<< ((8 : Int32) &&& 0x3f).toInt64) ||| (e4.toInt64 &&& (255 : Int64)))), .second] rfl (hb hby d3_80) 81 rfl ?_
          refine g_iloadN X0 hx rfl (hb hby d3_81) 82 rfl ?_
          refine g_iconst X0 hx (5 : Int32) rfl (hb hby d3_82) 83 rfl ?_
          refine g_icmp_le X0 hx (hb hby d3_83) 100 86 (by decide) rfl rfl (fun q83 => ?_) (fun q83 => ?_)
          · exact absurd q83 (by decide)
          · refine g_lloadN X0 hx rfl (hb hby d3_86) 87 rfl ?_
            refine g_bipush X0 hx (8 : Int32) rfl (hb hby d3_87) 89 rfl ?_
            refine g_lshl X0 hx (hb hby d3_89) 90 rfl ?_
            refine g_aloadN X0 hx rfl rfl (hb hby d3_90) 91 rfl ?_
            refine g_iconst X0 hx (5 : Int32) rfl (hb hby d3_91) 92 rfl ?_
            refine g_baload X0 hx hZ eq0 A0 (by decide) rfl (hb hby d3_92) 93 rfl ?_
            show Go p_ e_ below _ T0 (mkF m_ 93 #[.val (.ref a), .val (.int (6 : Int32)), .val (.long ((((((((e0.toInt64 <<< ((8 : Int32) &&& 0x3f).toInt64) ||| (e1.toInt64 &&& (255 : Int64))) <<< ((8 : Int32) &&& 0x3f).toInt64) ||| (e2.toInt64 &&& (255 : Int64))) <<< ((8 : Int32) &&& 0x3f).toInt64) ||| (e3.toInt64 &&& (255 : Int64))) <<< ((8 : Int32) &&& 0x3f).toInt64) ||| (e4.toInt64 &&& (255 : Int64)))), .second] [(.int e5), (.long (((((((((e0.toInt64 <<< ((8 : Int32) &&& 0x3f).toInt64) ||| (e1.toInt64 &&& (255 : Int64))) <<< ((8 : Int32) &&& 0x3f).toInt64) ||| (e2.toInt64 &&& (255 : Int64))) <<< ((8 : Int32) &&& 0x3f).toInt64) ||| (e3.toInt64 &&& (255 : Int64))) <<< ((8 : Int32) &&& 0x3f).toInt64) ||| (e4.toInt64 &&& (255 : Int64))) <<< ((8 : Int32) &&& 0x3f).toInt64))])
            refine g_i2l X0 hx (hb hby d3_93) 94 rfl ?_
            refine g_ldc2_w X0 hx hZ hown (wd hw 19 rfl) (hb hby d3_94) 97 rfl ?_
            refine g_land X0 hx (hb hby d3_97) 98 rfl ?_
            refine g_lor X0 hx (hb hby d3_98) 99 rfl ?_
            refine g_lstoreN X0 hx #[.val (.ref a), .val (.int (6 : Int32)), .val (.long ((((((((((e0.toInt64 <<< ((8 : Int32) &&& 0x3f).toInt64) ||| (e1.toInt64 &&& (255 : Int64))) <<< ((8 : Int32) &&& 0x3f).toInt64) ||| (e2.toInt64 &&& (255 : Int64))) <<< ((8 : Int32) &&& 0x3f).toInt64) ||| (e3.toInt64 &&& (255 : Int64))) <<< ((8 : Int32) &&& 0x3f).toInt64) ||| (e4.toInt64 &&& (255 : Int64))) <<< ((8 : Int32) &&& 0x3f).toInt64) ||| (e5.toInt64 &&& (255 : Int64)))), .second] rfl (hb hby d3_99) 100 rfl ?_
            refine g_iloadN X0 hx rfl (hb hby d3_100) 101 rfl ?_
            refine g_bipush X0 hx (6 : Int32) rfl (hb hby d3_101) 103 rfl ?_
            refine g_icmp_le X0 hx (hb hby d3_103) 121 106 (by decide) rfl rfl (fun q103 => ?_) (fun q103 => ?_)
            · refine g_iloadN X0 hx rfl (hb hby d3_121) 122 rfl ?_
              refine g_bipush X0 hx (7 : Int32) rfl (hb hby d3_122) 124 rfl ?_
              refine g_icmp_le X0 hx (hb hby d3_124) 142 127 (by decide) rfl rfl (fun q124 => ?_) (fun q124 => ?_)
              · refine g_lloadN X0 hx rfl (hb hby d3_142) 143 rfl ?_
                exact g_retl X0 hx hret hlk (by decide) (by decide) (hb hby d3_143) ⟨congrArg (fun z => some (Value.long z)) rfl.symm, eq0, rfl⟩
              · exact absurd q124 (by decide)
            · exact absurd q103 (by decide)
theorem d3_106 : decode method_3_code 106 = .ok (.lload_n 2, 1) := by decide +kernel
theorem d3_107 : decode method_3_code 107 = .ok (.bipush 8, 2) := by decide +kernel
theorem d3_109 : decode method_3_code 109 = .ok (.lshl, 1) := by decide +kernel
theorem d3_110 : decode method_3_code 110 = .ok (.aload_n 0, 1) := by decide +kernel
theorem d3_111 : decode method_3_code 111 = .ok (.bipush 6, 2) := by decide +kernel
theorem d3_113 : decode method_3_code 113 = .ok (.baload, 1) := by decide +kernel
theorem d3_114 : decode method_3_code 114 = .ok (.i2l, 1) := by decide +kernel
theorem d3_115 : decode method_3_code 115 = .ok (.ldc2_w 23, 3) := by decide +kernel
theorem d3_118 : decode method_3_code 118 = .ok (.land, 1) := by decide +kernel
theorem d3_119 : decode method_3_code 119 = .ok (.lor, 1) := by decide +kernel
theorem d3_120 : decode method_3_code 120 = .ok (.lstore_n 2, 1) := by decide +kernel
def fd7 (e0 : Int32) (e1 : Int32) (e2 : Int32) (e3 : Int32) (e4 : Int32) (e5 : Int32) (e6 : Int32) : Int64 := ((((((((((((e0.toInt64 <<< ((8 : Int32) &&& 0x3f).toInt64) ||| (e1.toInt64 &&& (255 : Int64))) <<< ((8 : Int32) &&& 0x3f).toInt64) ||| (e2.toInt64 &&& (255 : Int64))) <<< ((8 : Int32) &&& 0x3f).toInt64) ||| (e3.toInt64 &&& (255 : Int64))) <<< ((8 : Int32) &&& 0x3f).toInt64) ||| (e4.toInt64 &&& (255 : Int64))) <<< ((8 : Int32) &&& 0x3f).toInt64) ||| (e5.toInt64 &&& (255 : Int64))) <<< ((8 : Int32) &&& 0x3f).toInt64) ||| (e6.toInt64 &&& (255 : Int64)))
theorem ef3_7 (m_ : MethodId) (a : Addr)  : entryFrame m_ #[(.ref a), (.int (7 : Int32))] 4 = mkF m_ 0 #[.val (.ref a), .val (.int (7 : Int32)), .unset, .unset] [] := by first | (simp [entryFrame, mkF, argsToLocals, Value.category]; done) | rfl
set_option maxRecDepth 65536 in
set_option maxHeartbeats 40000000 in
theorem co3_7 (l : Launch) (Z : State) (a0 : Array Value) (hw : ∀ d ∈ tables_1, d.before a0 Z = true) (a : Addr) (e0 : Int32) (e1 : Int32) (e2 : Int32) (e3 : Int32) (e4 : Int32) (e5 : Int32) (e6 : Int32) (h0 : Heap) (A0 : AV Z h0 a .byte [(.int e0), (.int e1), (.int e2), (.int e3), (.int e4), (.int e5), (.int e6)]) : Co l (⟨"com/example/bindwick/bindwick/BERWriterIntegerValuePinLaw", "decode", "([BI)J"⟩ : MethodName) method_3_code 4 (some .long) [] ({ frames := 0, cells := 0, slots := 0, locals := 0 } : Room) Z h0 #[(.ref a), (.int (7 : Int32))] (Pu h0 (some (.long (fd7 e0 e1 e2 e3 e4 e5 e6)))) := by
  refine Co.of (plainFor_of_name pn_1) ?_
  intro p_ e_ s_ m_ below meth c_ T0 X0 hx hby hml hown hnm hret hlk hZ eq0
  refine Go.cast (ef3_7 m_ a ) ?_
  refine g_aloadN X0 hx rfl rfl (hb hby d3_0) 1 rfl ?_
  refine g_iconst X0 hx (0 : Int32) rfl (hb hby d3_1) 2 rfl ?_
  refine g_baload X0 hx hZ eq0 A0 (by decide) rfl (hb hby d3_2) 3 rfl ?_
  show Go p_ e_ below _ T0 (mkF m_ 3 #[.val (.ref a), .val (.int (7 : Int32)), .unset, .unset] [(.int e0)])
  refine g_i2l X0 hx (hb hby d3_3) 4 rfl ?_
  refine g_lstoreN X0 hx #[.val (.ref a), .val (.int (7 : Int32)), .val (.long e0.toInt64), .second] rfl (hb hby d3_4) 5 rfl ?_
  refine g_iloadN X0 hx rfl (hb hby d3_5) 6 rfl ?_
  refine g_iconst X0 hx (1 : Int32) rfl (hb hby d3_6) 7 rfl ?_
  refine g_icmp_le X0 hx (hb hby d3_7) 24 10 (by decide) rfl rfl (fun q7 => ?_) (fun q7 => ?_)
  · exact absurd q7 (by decide)
  · refine g_lloadN X0 hx rfl (hb hby d3_10) 11 rfl ?_
    refine g_bipush X0 hx (8 : Int32) rfl (hb hby d3_11) 13 rfl ?_
    refine g_lshl X0 hx (hb hby d3_13) 14 rfl ?_
    refine g_aloadN X0 hx rfl rfl (hb hby d3_14) 15 rfl ?_
    refine g_iconst X0 hx (1 : Int32) rfl (hb hby d3_15) 16 rfl ?_
    refine g_baload X0 hx hZ eq0 A0 (by decide) rfl (hb hby d3_16) 17 rfl ?_
    show Go p_ e_ below _ T0 (mkF m_ 17 #[.val (.ref a), .val (.int (7 : Int32)), .val (.long e0.toInt64), .second] [(.int e1), (.long (e0.toInt64 <<< ((8 : Int32) &&& 0x3f).toInt64))])
    refine g_i2l X0 hx (hb hby d3_17) 18 rfl ?_
    refine g_ldc2_w X0 hx hZ hown (wd hw 19 rfl) (hb hby d3_18) 21 rfl ?_
    refine g_land X0 hx (hb hby d3_21) 22 rfl ?_
    refine g_lor X0 hx (hb hby d3_22) 23 rfl ?_
    refine g_lstoreN X0 hx #[.val (.ref a), .val (.int (7 : Int32)), .val (.long ((e0.toInt64 <<< ((8 : Int32) &&& 0x3f).toInt64) ||| (e1.toInt64 &&& (255 : Int64)))), .second] rfl (hb hby d3_23) 24 rfl ?_
    refine g_iloadN X0 hx rfl (hb hby d3_24) 25 rfl ?_
    refine g_iconst X0 hx (2 : Int32) rfl (hb hby d3_25) 26 rfl ?_
    refine g_icmp_le X0 hx (hb hby d3_26) 43 29 (by decide) rfl rfl (fun q26 => ?_) (fun q26 => ?_)
    · exact absurd q26 (by decide)
    · refine g_lloadN X0 hx rfl (hb hby d3_29) 30 rfl ?_
      refine g_bipush X0 hx (8 : Int32) rfl (hb hby d3_30) 32 rfl ?_
      refine g_lshl X0 hx (hb hby d3_32) 33 rfl ?_
      refine g_aloadN X0 hx rfl rfl (hb hby d3_33) 34 rfl ?_
      refine g_iconst X0 hx (2 : Int32) rfl (hb hby d3_34) 35 rfl ?_
      refine g_baload X0 hx hZ eq0 A0 (by decide) rfl (hb hby d3_35) 36 rfl ?_
      show Go p_ e_ below _ T0 (mkF m_ 36 #[.val (.ref a), .val (.int (7 : Int32)), .val (.long ((e0.toInt64 <<< ((8 : Int32) &&& 0x3f).toInt64) ||| (e1.toInt64 &&& (255 : Int64)))), .second] [(.int e2), (.long (((e0.toInt64 <<< ((8 : Int32) &&& 0x3f).toInt64) ||| (e1.toInt64 &&& (255 : Int64))) <<< ((8 : Int32) &&& 0x3f).toInt64))])
      refine g_i2l X0 hx (hb hby d3_36) 37 rfl ?_
      refine g_ldc2_w X0 hx hZ hown (wd hw 19 rfl) (hb hby d3_37) 40 rfl ?_
      refine g_land X0 hx (hb hby d3_40) 41 rfl ?_
      refine g_lor X0 hx (hb hby d3_41) 42 rfl ?_
      refine g_lstoreN X0 hx #[.val (.ref a), .val (.int (7 : Int32)), .val (.long ((((e0.toInt64 <<< ((8 : Int32) &&& 0x3f).toInt64) ||| (e1.toInt64 &&& (255 : Int64))) <<< ((8 : Int32) &&& 0x3f).toInt64) ||| (e2.toInt64 &&& (255 : Int64)))), .second] rfl (hb hby d3_42) 43 rfl ?_
      refine g_iloadN X0 hx rfl (hb hby d3_43) 44 rfl ?_
      refine g_iconst X0 hx (3 : Int32) rfl (hb hby d3_44) 45 rfl ?_
      refine g_icmp_le X0 hx (hb hby d3_45) 62 48 (by decide) rfl rfl (fun q45 => ?_) (fun q45 => ?_)
      · exact absurd q45 (by decide)
      · refine g_lloadN X0 hx rfl (hb hby d3_48) 49 rfl ?_
        refine g_bipush X0 hx (8 : Int32) rfl (hb hby d3_49) 51 rfl ?_
        refine g_lshl X0 hx (hb hby d3_51) 52 rfl ?_
        refine g_aloadN X0 hx rfl rfl (hb hby d3_52) 53 rfl ?_
        refine g_iconst X0 hx (3 : Int32) rfl (hb hby d3_53) 54 rfl ?_
        refine g_baload X0 hx hZ eq0 A0 (by decide) rfl (hb hby d3_54) 55 rfl ?_
        show Go p_ e_ below _ T0 (mkF m_ 55 #[.val (.ref a), .val (.int (7 : Int32)), .val (.long ((((e0.toInt64 <<< ((8 : Int32) &&& 0x3f).toInt64) ||| (e1.toInt64 &&& (255 : Int64))) <<< ((8 : Int32) &&& 0x3f).toInt64) ||| (e2.toInt64 &&& (255 : Int64)))), .second] [(.int e3), (.long (((((e0.toInt64 <<< ((8 : Int32) &&& 0x3f).toInt64) ||| (e1.toInt64 &&& (255 : Int64))) <<< ((8 : Int32) &&& 0x3f).toInt64) ||| (e2.toInt64 &&& (255 : Int64))) <<< ((8 : Int32) &&& 0x3f).toInt64))])
        refine g_i2l X0 hx (hb hby d3_55) 56 rfl ?_
        refine g_ldc2_w X0 hx hZ hown (wd hw 19 rfl) (hb hby d3_56) 59 rfl ?_
        refine g_land X0 hx (hb hby d3_59) 60 rfl ?_
        refine g_lor X0 hx (hb hby d3_60) 61 rfl ?_
        refine g_lstoreN X0 hx #[.val (.ref a), .val (.int (7 : Int32)), .val (.long ((((((e0.toInt64 <<< ((8 : Int32) &&& 0x3f).toInt64) ||| (e1.toInt64 &&& (255 : Int64))) <<< ((8 : Int32) &&& 0x3f).toInt64) ||| (e2.toInt64 &&& (255 : Int64))) <<< ((8 : Int32) &&& 0x3f).toInt64) ||| (e3.toInt64 &&& (255 : Int64)))), .second] rfl (hb hby d3_61) 62 rfl ?_
        refine g_iloadN X0 hx rfl (hb hby d3_62) 63 rfl ?_
        refine g_iconst X0 hx (4 : Int32) rfl (hb hby d3_63) 64 rfl ?_
        refine g_icmp_le X0 hx (hb hby d3_64) 81 67 (by decide) rfl rfl (fun q64 => ?_) (fun q64 => ?_)
        · exact absurd q64 (by decide)
        · refine g_lloadN X0 hx rfl (hb hby d3_67) 68 rfl ?_
          refine g_bipush X0 hx (8 : Int32) rfl (hb hby d3_68) 70 rfl ?_
          refine g_lshl X0 hx (hb hby d3_70) 71 rfl ?_
          refine g_aloadN X0 hx rfl rfl (hb hby d3_71) 72 rfl ?_
          refine g_iconst X0 hx (4 : Int32) rfl (hb hby d3_72) 73 rfl ?_
          refine g_baload X0 hx hZ eq0 A0 (by decide) rfl (hb hby d3_73) 74 rfl ?_
          show Go p_ e_ below _ T0 (mkF m_ 74 #[.val (.ref a), .val (.int (7 : Int32)), .val (.long ((((((e0.toInt64 <<< ((8 : Int32) &&& 0x3f).toInt64) ||| (e1.toInt64 &&& (255 : Int64))) <<< ((8 : Int32) &&& 0x3f).toInt64) ||| (e2.toInt64 &&& (255 : Int64))) <<< ((8 : Int32) &&& 0x3f).toInt64) ||| (e3.toInt64 &&& (255 : Int64)))), .second] [(.int e4), (.long (((((((e0.toInt64 <<< ((8 : Int32) &&& 0x3f).toInt64) ||| (e1.toInt64 &&& (255 : Int64))) <<< ((8 : Int32) &&& 0x3f).toInt64) ||| (e2.toInt64 &&& (255 : Int64))) <<< ((8 : Int32) &&& 0x3f).toInt64) ||| (e3.toInt64 &&& (255 : Int64))) <<< ((8 : Int32) &&& 0x3f).toInt64))])
          refine g_i2l X0 hx (hb hby d3_74) 75 rfl ?_
          refine g_ldc2_w X0 hx hZ hown (wd hw 19 rfl) (hb hby d3_75) 78 rfl ?_
          refine g_land X0 hx (hb hby d3_78) 79 rfl ?_
          refine g_lor X0 hx (hb hby d3_79) 80 rfl ?_
          refine g_lstoreN X0 hx #[.val (.ref a), .val (.int (7 : Int32)), .val (.long ((((((((e0.toInt64 <<< ((8 : Int32) &&& 0x3f).toInt64) ||| (e1.toInt64 &&& (255 : Int64))) <<< ((8 : Int32) &&& 0x3f).toInt64) ||| (e2.toInt64 &&& (255 : Int64))) <<< ((8 : Int32) &&& 0x3f).toInt64) ||| (e3.toInt64 &&& (255 : Int64))) <<< ((8 : Int32) &&& 0x3f).toInt64) ||| (e4.toInt64 &&& (255 : Int64)))), .second] rfl (hb hby d3_80) 81 rfl ?_
          refine g_iloadN X0 hx rfl (hb hby d3_81) 82 rfl ?_
          refine g_iconst X0 hx (5 : Int32) rfl (hb hby d3_82) 83 rfl ?_
          refine g_icmp_le X0 hx (hb hby d3_83) 100 86 (by decide) rfl rfl (fun q83 => ?_) (fun q83 => ?_)
          · exact absurd q83 (by decide)
          · refine g_lloadN X0 hx rfl (hb hby d3_86) 87 rfl ?_
            refine g_bipush X0 hx (8 : Int32) rfl (hb hby d3_87) 89 rfl ?_
            refine g_lshl X0 hx (hb hby d3_89) 90 rfl ?_
            refine g_aloadN X0 hx rfl rfl (hb hby d3_90) 91 rfl ?_
            refine g_iconst X0 hx (5 : Int32) rfl (hb hby d3_91) 92 rfl ?_
            refine g_baload X0 hx hZ eq0 A0 (by decide) rfl (hb hby d3_92) 93 rfl ?_
            show Go p_ e_ below _ T0 (mkF m_ 93 #[.val (.ref a), .val (.int (7 : Int32)), .val (.long ((((((((e0.toInt64 <<< ((8 : Int32) &&& 0x3f).toInt64) ||| (e1.toInt64 &&& (255 : Int64))) <<< ((8 : Int32) &&& 0x3f).toInt64) ||| (e2.toInt64 &&& (255 : Int64))) <<< ((8 : Int32) &&& 0x3f).toInt64) ||| (e3.toInt64 &&& (255 : Int64))) <<< ((8 : Int32) &&& 0x3f).toInt64) ||| (e4.toInt64 &&& (255 : Int64)))), .second] [(.int e5), (.long (((((((((e0.toInt64 <<< ((8 : Int32) &&& 0x3f).toInt64) ||| (e1.toInt64 &&& (255 : Int64))) <<< ((8 : Int32) &&& 0x3f).toInt64) ||| (e2.toInt64 &&& (255 : Int64))) <<< ((8 : Int32) &&& 0x3f).toInt64) ||| (e3.toInt64 &&& (255 : Int64))) <<< ((8 : Int32) &&& 0x3f).toInt64) ||| (e4.toInt64 &&& (255 : Int64))) <<< ((8 : Int32) &&& 0x3f).toInt64))])
            refine g_i2l X0 hx (hb hby d3_93) 94 rfl ?_
            refine g_ldc2_w X0 hx hZ hown (wd hw 19 rfl) (hb hby d3_94) 97 rfl ?_
            refine g_land X0 hx (hb hby d3_97) 98 rfl ?_
            refine g_lor X0 hx (hb hby d3_98) 99 rfl ?_
            refine g_lstoreN X0 hx #[.val (.ref a), .val (.int (7 : Int32)), .val (.long ((((((((((e0.toInt64 <<< ((8 : Int32) &&& 0x3f).toInt64) ||| (e1.toInt64 &&& (255 : Int64))) <<< ((8 : Int32) &&& 0x3f).toInt64) ||| (e2.toInt64 &&& (255 : Int64))) <<< ((8 : Int32) &&& 0x3f).toInt64) ||| (e3.toInt64 &&& (255 : Int64))) <<< ((8 : Int32) &&& 0x3f).toInt64) ||| (e4.toInt64 &&& (255 : Int64))) <<< ((8 : Int32) &&& 0x3f).toInt64) ||| (e5.toInt64 &&& (255 : Int64)))), .second] rfl (hb hby d3_99) 100 rfl ?_
            refine g_iloadN X0 hx rfl (hb hby d3_100) 101 rfl ?_
            refine g_bipush X0 hx (6 : Int32) rfl (hb hby d3_101) 103 rfl ?_
            refine g_icmp_le X0 hx (hb hby d3_103) 121 106 (by decide) rfl rfl (fun q103 => ?_) (fun q103 => ?_)
            · exact absurd q103 (by decide)
            · refine g_lloadN X0 hx rfl (hb hby d3_106) 107 rfl ?_
              refine g_bipush X0 hx (8 : Int32) rfl (hb hby d3_107) 109 rfl ?_
              refine g_lshl X0 hx (hb hby d3_109) 110 rfl ?_
              refine g_aloadN X0 hx rfl rfl (hb hby d3_110) 111 rfl ?_
              refine g_bipush X0 hx (6 : Int32) rfl (hb hby d3_111) 113 rfl ?_
              refine g_baload X0 hx hZ eq0 A0 (by decide) rfl (hb hby d3_113) 114 rfl ?_
              show Go p_ e_ below _ T0 (mkF m_ 114 #[.val (.ref a), .val (.int (7 : Int32)), .val (.long ((((((((((e0.toInt64 <<< ((8 : Int32) &&& 0x3f).toInt64) ||| (e1.toInt64 &&& (255 : Int64))) <<< ((8 : Int32) &&& 0x3f).toInt64) ||| (e2.toInt64 &&& (255 : Int64))) <<< ((8 : Int32) &&& 0x3f).toInt64) ||| (e3.toInt64 &&& (255 : Int64))) <<< ((8 : Int32) &&& 0x3f).toInt64) ||| (e4.toInt64 &&& (255 : Int64))) <<< ((8 : Int32) &&& 0x3f).toInt64) ||| (e5.toInt64 &&& (255 : Int64)))), .second] [(.int e6), (.long (((((((((((e0.toInt64 <<< ((8 : Int32) &&& 0x3f).toInt64) ||| (e1.toInt64 &&& (255 : Int64))) <<< ((8 : Int32) &&& 0x3f).toInt64) ||| (e2.toInt64 &&& (255 : Int64))) <<< ((8 : Int32) &&& 0x3f).toInt64) ||| (e3.toInt64 &&& (255 : Int64))) <<< ((8 : Int32) &&& 0x3f).toInt64) ||| (e4.toInt64 &&& (255 : Int64))) <<< ((8 : Int32) &&& 0x3f).toInt64) ||| (e5.toInt64 &&& (255 : Int64))) <<< ((8 : Int32) &&& 0x3f).toInt64))])
              refine g_i2l X0 hx (hb hby d3_114) 115 rfl ?_
              refine g_ldc2_w X0 hx hZ hown (wd hw 19 rfl) (hb hby d3_115) 118 rfl ?_
              refine g_land X0 hx (hb hby d3_118) 119 rfl ?_
              refine g_lor X0 hx (hb hby d3_119) 120 rfl ?_
              refine g_lstoreN X0 hx #[.val (.ref a), .val (.int (7 : Int32)), .val (.long ((((((((((((e0.toInt64 <<< ((8 : Int32) &&& 0x3f).toInt64) ||| (e1.toInt64 &&& (255 : Int64))) <<< ((8 : Int32) &&& 0x3f).toInt64) ||| (e2.toInt64 &&& (255 : Int64))) <<< ((8 : Int32) &&& 0x3f).toInt64) ||| (e3.toInt64 &&& (255 : Int64))) <<< ((8 : Int32) &&& 0x3f).toInt64) ||| (e4.toInt64 &&& (255 : Int64))) <<< ((8 : Int32) &&& 0x3f).toInt64) ||| (e5.toInt64 &&& (255 : Int64))) <<< ((8 : Int32) &&& 0x3f).toInt64) ||| (e6.toInt64 &&& (255 : Int64)))), .second] rfl (hb hby d3_120) 121 rfl ?_
              refine g_iloadN X0 hx rfl (hb hby d3_121) 122 rfl ?_
              refine g_bipush X0 hx (7 : Int32) rfl (hb hby d3_122) 124 rfl ?_
              refine g_icmp_le X0 hx (hb hby d3_124) 142 127 (by decide) rfl rfl (fun q124 => ?_) (fun q124 => ?_)
              · refine g_lloadN X0 hx rfl (hb hby d3_142) 143 rfl ?_
                exact g_retl X0 hx hret hlk (by decide) (by decide) (hb hby d3_143) ⟨congrArg (fun z => some (Value.long z)) rfl.symm, eq0, rfl⟩
              · exact absurd q124 (by decide)
theorem d3_127 : decode method_3_code 127 = .ok (.lload_n 2, 1) := by decide +kernel
theorem d3_128 : decode method_3_code 128 = .ok (.bipush 8, 2) := by decide +kernel
theorem d3_130 : decode method_3_code 130 = .ok (.lshl, 1) := by decide +kernel
theorem d3_131 : decode method_3_code 131 = .ok (.aload_n 0, 1) := by decide +kernel
theorem d3_132 : decode method_3_code 132 = .ok (.bipush 7, 2) := by decide +kernel
theorem d3_134 : decode method_3_code 134 = .ok (.baload, 1) := by decide +kernel
theorem d3_135 : decode method_3_code 135 = .ok (.i2l, 1) := by decide +kernel
theorem d3_136 : decode method_3_code 136 = .ok (.ldc2_w 23, 3) := by decide +kernel
theorem d3_139 : decode method_3_code 139 = .ok (.land, 1) := by decide +kernel
theorem d3_140 : decode method_3_code 140 = .ok (.lor, 1) := by decide +kernel
theorem d3_141 : decode method_3_code 141 = .ok (.lstore_n 2, 1) := by decide +kernel
def fd8 (e0 : Int32) (e1 : Int32) (e2 : Int32) (e3 : Int32) (e4 : Int32) (e5 : Int32) (e6 : Int32) (e7 : Int32) : Int64 := ((((((((((((((e0.toInt64 <<< ((8 : Int32) &&& 0x3f).toInt64) ||| (e1.toInt64 &&& (255 : Int64))) <<< ((8 : Int32) &&& 0x3f).toInt64) ||| (e2.toInt64 &&& (255 : Int64))) <<< ((8 : Int32) &&& 0x3f).toInt64) ||| (e3.toInt64 &&& (255 : Int64))) <<< ((8 : Int32) &&& 0x3f).toInt64) ||| (e4.toInt64 &&& (255 : Int64))) <<< ((8 : Int32) &&& 0x3f).toInt64) ||| (e5.toInt64 &&& (255 : Int64))) <<< ((8 : Int32) &&& 0x3f).toInt64) ||| (e6.toInt64 &&& (255 : Int64))) <<< ((8 : Int32) &&& 0x3f).toInt64) ||| (e7.toInt64 &&& (255 : Int64)))
theorem ef3_8 (m_ : MethodId) (a : Addr)  : entryFrame m_ #[(.ref a), (.int (8 : Int32))] 4 = mkF m_ 0 #[.val (.ref a), .val (.int (8 : Int32)), .unset, .unset] [] := by first | (simp [entryFrame, mkF, argsToLocals, Value.category]; done) | rfl
set_option maxRecDepth 65536 in
set_option maxHeartbeats 40000000 in
theorem co3_8 (l : Launch) (Z : State) (a0 : Array Value) (hw : ∀ d ∈ tables_1, d.before a0 Z = true) (a : Addr) (e0 : Int32) (e1 : Int32) (e2 : Int32) (e3 : Int32) (e4 : Int32) (e5 : Int32) (e6 : Int32) (e7 : Int32) (h0 : Heap) (A0 : AV Z h0 a .byte [(.int e0), (.int e1), (.int e2), (.int e3), (.int e4), (.int e5), (.int e6), (.int e7)]) : Co l (⟨"com/example/bindwick/bindwick/BERWriterIntegerValuePinLaw", "decode", "([BI)J"⟩ : MethodName) method_3_code 4 (some .long) [] ({ frames := 0, cells := 0, slots := 0, locals := 0 } : Room) Z h0 #[(.ref a), (.int (8 : Int32))] (Pu h0 (some (.long (fd8 e0 e1 e2 e3 e4 e5 e6 e7)))) := by
  refine Co.of (plainFor_of_name pn_1) ?_
  intro p_ e_ s_ m_ below meth c_ T0 X0 hx hby hml hown hnm hret hlk hZ eq0
  refine Go.cast (ef3_8 m_ a ) ?_
  refine g_aloadN X0 hx rfl rfl (hb hby d3_0) 1 rfl ?_
  refine g_iconst X0 hx (0 : Int32) rfl (hb hby d3_1) 2 rfl ?_
  refine g_baload X0 hx hZ eq0 A0 (by decide) rfl (hb hby d3_2) 3 rfl ?_
  show Go p_ e_ below _ T0 (mkF m_ 3 #[.val (.ref a), .val (.int (8 : Int32)), .unset, .unset] [(.int e0)])
  refine g_i2l X0 hx (hb hby d3_3) 4 rfl ?_
  refine g_lstoreN X0 hx #[.val (.ref a), .val (.int (8 : Int32)), .val (.long e0.toInt64), .second] rfl (hb hby d3_4) 5 rfl ?_
  refine g_iloadN X0 hx rfl (hb hby d3_5) 6 rfl ?_
  refine g_iconst X0 hx (1 : Int32) rfl (hb hby d3_6) 7 rfl ?_
  refine g_icmp_le X0 hx (hb hby d3_7) 24 10 (by decide) rfl rfl (fun q7 => ?_) (fun q7 => ?_)
  · exact absurd q7 (by decide)
  · refine g_lloadN X0 hx rfl (hb hby d3_10) 11 rfl ?_
    refine g_bipush X0 hx (8 : Int32) rfl (hb hby d3_11) 13 rfl ?_
    refine g_lshl X0 hx (hb hby d3_13) 14 rfl ?_
    refine g_aloadN X0 hx rfl rfl (hb hby d3_14) 15 rfl ?_
    refine g_iconst X0 hx (1 : Int32) rfl (hb hby d3_15) 16 rfl ?_
    refine g_baload X0 hx hZ eq0 A0 (by decide) rfl (hb hby d3_16) 17 rfl ?_
    show Go p_ e_ below _ T0 (mkF m_ 17 #[.val (.ref a), .val (.int (8 : Int32)), .val (.long e0.toInt64), .second] [(.int e1), (.long (e0.toInt64 <<< ((8 : Int32) &&& 0x3f).toInt64))])
    refine g_i2l X0 hx (hb hby d3_17) 18 rfl ?_
    refine g_ldc2_w X0 hx hZ hown (wd hw 19 rfl) (hb hby d3_18) 21 rfl ?_
    refine g_land X0 hx (hb hby d3_21) 22 rfl ?_
    refine g_lor X0 hx (hb hby d3_22) 23 rfl ?_
    refine g_lstoreN X0 hx #[.val (.ref a), .val (.int (8 : Int32)), .val (.long ((e0.toInt64 <<< ((8 : Int32) &&& 0x3f).toInt64) ||| (e1.toInt64 &&& (255 : Int64)))), .second] rfl (hb hby d3_23) 24 rfl ?_
    refine g_iloadN X0 hx rfl (hb hby d3_24) 25 rfl ?_
    refine g_iconst X0 hx (2 : Int32) rfl (hb hby d3_25) 26 rfl ?_
    refine g_icmp_le X0 hx (hb hby d3_26) 43 29 (by decide) rfl rfl (fun q26 => ?_) (fun q26 => ?_)
    · exact absurd q26 (by decide)
    · refine g_lloadN X0 hx rfl (hb hby d3_29) 30 rfl ?_
      refine g_bipush X0 hx (8 : Int32) rfl (hb hby d3_30) 32 rfl ?_
      refine g_lshl X0 hx (hb hby d3_32) 33 rfl ?_
      refine g_aloadN X0 hx rfl rfl (hb hby d3_33) 34 rfl ?_
      refine g_iconst X0 hx (2 : Int32) rfl (hb hby d3_34) 35 rfl ?_
      refine g_baload X0 hx hZ eq0 A0 (by decide) rfl (hb hby d3_35) 36 rfl ?_
      show Go p_ e_ below _ T0 (mkF m_ 36 #[.val (.ref a), .val (.int (8 : Int32)), .val (.long ((e0.toInt64 <<< ((8 : Int32) &&& 0x3f).toInt64) ||| (e1.toInt64 &&& (255 : Int64)))), .second] [(.int e2), (.long (((e0.toInt64 <<< ((8 : Int32) &&& 0x3f).toInt64) ||| (e1.toInt64 &&& (255 : Int64))) <<< ((8 : Int32) &&& 0x3f).toInt64))])
      refine g_i2l X0 hx (hb hby d3_36) 37 rfl ?_
      refine g_ldc2_w X0 hx hZ hown (wd hw 19 rfl) (hb hby d3_37) 40 rfl ?_
      refine g_land X0 hx (hb hby d3_40) 41 rfl ?_
      refine g_lor X0 hx (hb hby d3_41) 42 rfl ?_
      refine g_lstoreN X0 hx #[.val (.ref a), .val (.int (8 : Int32)), .val (.long ((((e0.toInt64 <<< ((8 : Int32) &&& 0x3f).toInt64) ||| (e1.toInt64 &&& (255 : Int64))) <<< ((8 : Int32) &&& 0x3f).toInt64) ||| (e2.toInt64 &&& (255 : Int64)))), .second] rfl (hb hby d3_42) 43 rfl ?_
      refine g_iloadN X0 hx rfl (hb hby d3_43) 44 rfl ?_
      refine g_iconst X0 hx (3 : Int32) rfl (hb hby d3_44) 45 rfl ?_
      refine g_icmp_le X0 hx (hb hby d3_45) 62 48 (by decide) rfl rfl (fun q45 => ?_) (fun q45 => ?_)
      · exact absurd q45 (by decide)
      · refine g_lloadN X0 hx rfl (hb hby d3_48) 49 rfl ?_
        refine g_bipush X0 hx (8 : Int32) rfl (hb hby d3_49) 51 rfl ?_
        refine g_lshl X0 hx (hb hby d3_51) 52 rfl ?_
        refine g_aloadN X0 hx rfl rfl (hb hby d3_52) 53 rfl ?_
        refine g_iconst X0 hx (3 : Int32) rfl (hb hby d3_53) 54 rfl ?_
        refine g_baload X0 hx hZ eq0 A0 (by decide) rfl (hb hby d3_54) 55 rfl ?_
        show Go p_ e_ below _ T0 (mkF m_ 55 #[.val (.ref a), .val (.int (8 : Int32)), .val (.long ((((e0.toInt64 <<< ((8 : Int32) &&& 0x3f).toInt64) ||| (e1.toInt64 &&& (255 : Int64))) <<< ((8 : Int32) &&& 0x3f).toInt64) ||| (e2.toInt64 &&& (255 : Int64)))), .second] [(.int e3), (.long (((((e0.toInt64 <<< ((8 : Int32) &&& 0x3f).toInt64) ||| (e1.toInt64 &&& (255 : Int64))) <<< ((8 : Int32) &&& 0x3f).toInt64) ||| (e2.toInt64 &&& (255 : Int64))) <<< ((8 : Int32) &&& 0x3f).toInt64))])
        refine g_i2l X0 hx (hb hby d3_55) 56 rfl ?_
        refine g_ldc2_w X0 hx hZ hown (wd hw 19 rfl) (hb hby d3_56) 59 rfl ?_
        refine g_land X0 hx (hb hby d3_59) 60 rfl ?_
        refine g_lor X0 hx (hb hby d3_60) 61 rfl ?_
        refine g_lstoreN X0 hx #[.val (.ref a), .val (.int (8 : Int32)), .val (.long ((((((e0.toInt64 <<< ((8 : Int32) &&& 0x3f).toInt64) ||| (e1.toInt64 &&& (255 : Int64))) <<< ((8 : Int32) &&& 0x3f).toInt64) ||| (e2.toInt64 &&& (255 : Int64))) <<< ((8 : Int32) &&& 0x3f).toInt64) ||| (e3.toInt64 &&& (255 : Int64)))), .second] rfl (hb hby d3_61) 62 rfl ?_
        refine g_iloadN X0 hx rfl (hb hby d3_62) 63 rfl ?_
        refine g_iconst X0 hx (4 : Int32) rfl (hb hby d3_63) 64 rfl ?_
        refine g_icmp_le X0 hx (hb hby d3_64) 81 67 (by decide) rfl rfl (fun q64 => ?_) (fun q64 => ?_)
        · exact absurd q64 (by decide)
        · refine g_lloadN X0 hx rfl (hb hby d3_67) 68 rfl ?_
          refine g_bipush X0 hx (8 : Int32) rfl (hb hby d3_68) 70 rfl ?_
          refine g_lshl X0 hx (hb hby d3_70) 71 rfl ?_
          refine g_aloadN X0 hx rfl rfl (hb hby d3_71) 72 rfl ?_
          refine g_iconst X0 hx (4 : Int32) rfl (hb hby d3_72) 73 rfl ?_
          refine g_baload X0 hx hZ eq0 A0 (by decide) rfl (hb hby d3_73) 74 rfl ?_
          show Go p_ e_ below _ T0 (mkF m_ 74 #[.val (.ref a), .val (.int (8 : Int32)), .val (.long ((((((e0.toInt64 <<< ((8 : Int32) &&& 0x3f).toInt64) ||| (e1.toInt64 &&& (255 : Int64))) <<< ((8 : Int32) &&& 0x3f).toInt64) ||| (e2.toInt64 &&& (255 : Int64))) <<< ((8 : Int32) &&& 0x3f).toInt64) ||| (e3.toInt64 &&& (255 : Int64)))), .second] [(.int e4), (.long (((((((e0.toInt64 <<< ((8 : Int32) &&& 0x3f).toInt64) ||| (e1.toInt64 &&& (255 : Int64))) <<< ((8 : Int32) &&& 0x3f).toInt64) ||| (e2.toInt64 &&& (255 : Int64))) <<< ((8 : Int32) &&& 0x3f).toInt64) ||| (e3.toInt64 &&& (255 : Int64))) <<< ((8 : Int32) &&& 0x3f).toInt64))])
          refine g_i2l X0 hx (hb hby d3_74) 75 rfl ?_
          refine g_ldc2_w X0 hx hZ hown (wd hw 19 rfl) (hb hby d3_75) 78 rfl ?_
          refine g_land X0 hx (hb hby d3_78) 79 rfl ?_
          refine g_lor X0 hx (hb hby d3_79) 80 rfl ?_
          refine g_lstoreN X0 hx #[.val (.ref a), .val (.int (8 : Int32)), .val (.long ((((((((e0.toInt64 <<< ((8 : Int32) &&& 0x3f).toInt64) ||| (e1.toInt64 &&& (255 : Int64))) <<< ((8 : Int32) &&& 0x3f).toInt64) ||| (e2.toInt64 &&& (255 : Int64))) <<< ((8 : Int32) &&& 0x3f).toInt64) ||| (e3.toInt64 &&& (255 : Int64))) <<< ((8 : Int32) &&& 0x3f).toInt64) ||| (e4.toInt64 &&& (255 : Int64)))), .second] rfl (hb hby d3_80) 81 rfl ?_
          refine g_iloadN X0 hx rfl (hb hby d3_81) 82 rfl ?_
          refine g_iconst X0 hx (5 : Int32) rfl (hb hby d3_82) 83 rfl ?_
          refine g_icmp_le X0 hx (hb hby d3_83) 100 86 (by decide) rfl rfl (fun q83 => ?_) (fun q83 => ?_)
          · exact absurd q83 (by decide)
          · refine g_lloadN X0 hx rfl (hb hby d3_86) 87 rfl ?_
            refine g_bipush X0 hx (8 : Int32) rfl (hb hby d3_87) 89 rfl ?_
            refine g_lshl X0 hx (hb hby d3_89) 90 rfl ?_
            refine g_aloadN X0 hx rfl rfl (hb hby d3_90) 91 rfl ?_
            refine g_iconst X0 hx (5 : Int32) rfl (hb hby d3_91) 92 rfl ?_
            refine g_baload X0 hx hZ eq0 A0 (by decide) rfl (hb hby d3_92) 93 rfl ?_
            show Go p_ e_ below _ T0 (mkF m_ 93 #[.val (.ref a), .val (.int (8 : Int32)), .val (.long ((((((((e0.toInt64 <<< ((8 : Int32) &&& 0x3f).toInt64) ||| (e1.toInt64 &&& (255 : Int64))) <<< ((8 : Int32) &&& 0x3f).toInt64) ||| (e2.toInt64 &&& (255 : Int64))) <<< ((8 : Int32) &&& 0x3f).toInt64) ||| (e3.toInt64 &&& (255 : Int64))) <<< ((8 : Int32) &&& 0x3f).toInt64) ||| (e4.toInt64 &&& (255 : Int64)))), .second] [(.int e5), (.long (((((((((e0.toInt64 <<< ((8 : Int32) &&& 0x3f).toInt64) ||| (e1.toInt64 &&& (255 : Int64))) <<< ((8 : Int32) &&& 0x3f).toInt64) ||| (e2.toInt64 &&& (255 : Int64))) <<< ((8 : Int32) &&& 0x3f).toInt64) ||| (e3.toInt64 &&& (255 : Int64))) <<< ((8 : Int32) &&& 0x3f).toInt64) ||| (e4.toInt64 &&& (255 : Int64))) <<< ((8 : Int32) &&& 0x3f).toInt64))])
            refine g_i2l X0 hx (hb hby d3_93) 94 rfl ?_
            refine g_ldc2_w X0 hx hZ hown (wd hw 19 rfl) (hb hby d3_94) 97 rfl ?_
            refine g_land X0 hx (hb hby d3_97) 98 rfl ?_
            refine g_lor X0 hx (hb hby d3_98) 99 rfl ?_
            refine g_lstoreN X0 hx #[.val (.ref a), .val (.int (8 : Int32)), .val (.long ((((((((((e0.toInt64 <<< ((8 : Int32) &&& 0x3f).toInt64) ||| (e1.toInt64 &&& (255 : Int64))) <<< ((8 : Int32) &&& 0x3f).toInt64) ||| (e2.toInt64 &&& (255 : Int64))) <<< ((8 : Int32) &&& 0x3f).toInt64) ||| (e3.toInt64 &&& (255 : Int64))) <<< ((8 : Int32) &&& 0x3f).toInt64) ||| (e4.toInt64 &&& (255 : Int64))) <<< ((8 : Int32) &&& 0x3f).toInt64) ||| (e5.toInt64 &&& (255 : Int64)))), .second] rfl (hb hby d3_99) 100 rfl ?_
            refine g_iloadN X0 hx rfl (hb hby d3_100) 101 rfl ?_
            refine g_bipush X0 hx (6 : Int32) rfl (hb hby d3_101) 103 rfl ?_
            refine g_icmp_le X0 hx (hb hby d3_103) 121 106 (by decide) rfl rfl (fun q103 => ?_) (fun q103 => ?_)
            · exact absurd q103 (by decide)
            · refine g_lloadN X0 hx rfl (hb hby d3_106) 107 rfl ?_
              refine g_bipush X0 hx (8 : Int32) rfl (hb hby d3_107) 109 rfl ?_
              refine g_lshl X0 hx (hb hby d3_109) 110 rfl ?_
              refine g_aloadN X0 hx rfl rfl (hb hby d3_110) 111 rfl ?_
              refine g_bipush X0 hx (6 : Int32) rfl (hb hby d3_111) 113 rfl ?_
              refine g_baload X0 hx hZ eq0 A0 (by decide) rfl (hb hby d3_113) 114 rfl ?_
              show Go p_ e_ below _ T0 (mkF m_ 114 #[.val (.ref a), .val (.int (8 : Int32)), .val (.long ((((((((((e0.toInt64 <<< ((8 : Int32) &&& 0x3f).toInt64) ||| (e1.toInt64 &&& (255 : Int64))) <<< ((8 : Int32) &&& 0x3f).toInt64) ||| (e2.toInt64 &&& (255 : Int64))) <<< ((8 : Int32) &&& 0x3f).toInt64) ||| (e3.toInt64 &&& (255 : Int64))) <<< ((8 : Int32) &&& 0x3f).toInt64) ||| (e4.toInt64 &&& (255 : Int64))) <<< ((8 : Int32) &&& 0x3f).toInt64) ||| (e5.toInt64 &&& (255 : Int64)))), .second] [(.int e6), (.long (((((((((((e0.toInt64 <<< ((8 : Int32) &&& 0x3f).toInt64) ||| (e1.toInt64 &&& (255 : Int64))) <<< ((8 : Int32) &&& 0x3f).toInt64) ||| (e2.toInt64 &&& (255 : Int64))) <<< ((8 : Int32) &&& 0x3f).toInt64) ||| (e3.toInt64 &&& (255 : Int64))) <<< ((8 : Int32) &&& 0x3f).toInt64) ||| (e4.toInt64 &&& (255 : Int64))) <<< ((8 : Int32) &&& 0x3f).toInt64) ||| (e5.toInt64 &&& (255 : Int64))) <<< ((8 : Int32) &&& 0x3f).toInt64))])
              refine g_i2l X0 hx (hb hby d3_114) 115 rfl ?_
              refine g_ldc2_w X0 hx hZ hown (wd hw 19 rfl) (hb hby d3_115) 118 rfl ?_
              refine g_land X0 hx (hb hby d3_118) 119 rfl ?_
              refine g_lor X0 hx (hb hby d3_119) 120 rfl ?_
              refine g_lstoreN X0 hx #[.val (.ref a), .val (.int (8 : Int32)), .val (.long ((((((((((((e0.toInt64 <<< ((8 : Int32) &&& 0x3f).toInt64) ||| (e1.toInt64 &&& (255 : Int64))) <<< ((8 : Int32) &&& 0x3f).toInt64) ||| (e2.toInt64 &&& (255 : Int64))) <<< ((8 : Int32) &&& 0x3f).toInt64) ||| (e3.toInt64 &&& (255 : Int64))) <<< ((8 : Int32) &&& 0x3f).toInt64) ||| (e4.toInt64 &&& (255 : Int64))) <<< ((8 : Int32) &&& 0x3f).toInt64) ||| (e5.toInt64 &&& (255 : Int64))) <<< ((8 : Int32) &&& 0x3f).toInt64) ||| (e6.toInt64 &&& (255 : Int64)))), .second] rfl (hb hby d3_120) 121 rfl ?_
              refine g_iloadN X0 hx rfl (hb hby d3_121) 122 rfl ?_
              refine g_bipush X0 hx (7 : Int32) rfl (hb hby d3_122) 124 rfl ?_
              refine g_icmp_le X0 hx (hb hby d3_124) 142 127 (by decide) rfl rfl (fun q124 => ?_) (fun q124 => ?_)
              · exact absurd q124 (by decide)
              · refine g_lloadN X0 hx rfl (hb hby d3_127) 128 rfl ?_
                refine g_bipush X0 hx (8 : Int32) rfl (hb hby d3_128) 130 rfl ?_
                refine g_lshl X0 hx (hb hby d3_130) 131 rfl ?_
                refine g_aloadN X0 hx rfl rfl (hb hby d3_131) 132 rfl ?_
                refine g_bipush X0 hx (7 : Int32) rfl (hb hby d3_132) 134 rfl ?_
                refine g_baload X0 hx hZ eq0 A0 (by decide) rfl (hb hby d3_134) 135 rfl ?_
                show Go p_ e_ below _ T0 (mkF m_ 135 #[.val (.ref a), .val (.int (8 : Int32)), .val (.long ((((((((((((e0.toInt64 <<< ((8 : Int32) &&& 0x3f).toInt64) ||| (e1.toInt64 &&& (255 : Int64))) <<< ((8 : Int32) &&& 0x3f).toInt64) ||| (e2.toInt64 &&& (255 : Int64))) <<< ((8 : Int32) &&& 0x3f).toInt64) ||| (e3.toInt64 &&& (255 : Int64))) <<< ((8 : Int32) &&& 0x3f).toInt64) ||| (e4.toInt64 &&& (255 : Int64))) <<< ((8 : Int32) &&& 0x3f).toInt64) ||| (e5.toInt64 &&& (255 : Int64))) <<< ((8 : Int32) &&& 0x3f).toInt64) ||| (e6.toInt64 &&& (255 : Int64)))), .second] [(.int e7), (.long (((((((((((((e0.toInt64 <<< ((8 : Int32) &&& 0x3f).toInt64) ||| (e1.toInt64 &&& (255 : Int64))) <<< ((8 : Int32) &&& 0x3f).toInt64) ||| (e2.toInt64 &&& (255 : Int64))) <<< ((8 : Int32) &&& 0x3f).toInt64) ||| (e3.toInt64 &&& (255 : Int64))) <<< ((8 : Int32) &&& 0x3f).toInt64) ||| (e4.toInt64 &&& (255 : Int64))) <<< ((8 : Int32) &&& 0x3f).toInt64) ||| (e5.toInt64 &&& (255 : Int64))) <<< ((8 : Int32) &&& 0x3f).toInt64) ||| (e6.toInt64 &&& (255 : Int64))) <<< ((8 : Int32) &&& 0x3f).toInt64))])
                refine g_i2l X0 hx (hb hby d3_135) 136 rfl ?_
                refine g_ldc2_w X0 hx hZ hown (wd hw 19 rfl) (hb hby d3_136) 139 rfl ?_
                refine g_land X0 hx (hb hby d3_139) 140 rfl ?_
                refine g_lor X0 hx (hb hby d3_140) 141 rfl ?_
                refine g_lstoreN X0 hx #[.val (.ref a), .val (.int (8 : Int32)), .val (.long ((((((((((((((e0.toInt64 <<< ((8 : Int32) &&& 0x3f).toInt64) ||| (e1.toInt64 &&& (255 : Int64))) <<< ((8 : Int32) &&& 0x3f).toInt64) ||| (e2.toInt64 &&& (255 : Int64))) <<< ((8 : Int32) &&& 0x3f).toInt64) ||| (e3.toInt64 &&& (255 : Int64))) <<< ((8 : Int32) &&& 0x3f).toInt64) ||| (e4.toInt64 &&& (255 : Int64))) <<< ((8 : Int32) &&& 0x3f).toInt64) ||| (e5.toInt64 &&& (255 : Int64))) <<< ((8 : Int32) &&& 0x3f).toInt64) ||| (e6.toInt64 &&& (255 : Int64))) <<< ((8 : Int32) &&& 0x3f).toInt64) ||| (e7.toInt64 &&& (255 : Int64)))), .second] rfl (hb hby d3_141) 142 rfl ?_
                refine g_lloadN X0 hx rfl (hb hby d3_142) 143 rfl ?_
                exact g_retl X0 hx hret hlk (by decide) (by decide) (hb hby d3_143) ⟨congrArg (fun z => some (Value.long z)) rfl.symm, eq0, rfl⟩
theorem own_ln (v0 : Int64) : ln v0 = 1 ∨ ln v0 = 2 ∨ ln v0 = 3 ∨ ln v0 = 4 ∨ ln v0 = 5 ∨ ln v0 = 6 ∨ ln v0 = 7 ∨ ln v0 = 8 := by
  unfold ln
  repeat' split
  all_goals simp
theorem own_shr (v0 : Int64) (k : Int32) (j : Nat) (hj : k.toBitVec.toNat % 64 = j) : (v0 >>> (k &&& 0x3f).toInt64).toInt = v0.toInt / (2 ^ j : Nat) := c_lshr v0 k j hj
theorem own_fit1 (v0 : Int64) : ((v0 >>> ((7 : Int32) &&& 0x3f).toInt64) = (v0 >>> ((63 : Int32) &&& 0x3f).toInt64)) ↔ (-128 ≤ v0.toInt ∧ v0.toInt < 128) := by
  have e1 : (v0 >>> ((7 : Int32) &&& 0x3f).toInt64).toInt = v0.toInt / (2 ^ 7 : Nat) := c_lshr v0 _ 7 (by decide)
  have e2 : (v0 >>> ((63 : Int32) &&& 0x3f).toInt64).toInt = v0.toInt / (2 ^ 63 : Nat) := c_lshr v0 _ 63 (by decide)
  have r := rng64 v0
  rw [← Int64.toInt_inj, e1, e2]
  omega
theorem own_fit2 (v0 : Int64) : ((v0 >>> ((15 : Int32) &&& 0x3f).toInt64) = (v0 >>> ((63 : Int32) &&& 0x3f).toInt64)) ↔ (-32768 ≤ v0.toInt ∧ v0.toInt < 32768) := by
  have e1 : (v0 >>> ((15 : Int32) &&& 0x3f).toInt64).toInt = v0.toInt / (2 ^ 15 : Nat) := c_lshr v0 _ 15 (by decide)
  have e2 : (v0 >>> ((63 : Int32) &&& 0x3f).toInt64).toInt = v0.toInt / (2 ^ 63 : Nat) := c_lshr v0 _ 63 (by decide)
  have r := rng64 v0
  rw [← Int64.toInt_inj, e1, e2]
  omega
theorem own_fit3 (v0 : Int64) : ((v0 >>> ((23 : Int32) &&& 0x3f).toInt64) = (v0 >>> ((63 : Int32) &&& 0x3f).toInt64)) ↔ (-8388608 ≤ v0.toInt ∧ v0.toInt < 8388608) := by
  have e1 : (v0 >>> ((23 : Int32) &&& 0x3f).toInt64).toInt = v0.toInt / (2 ^ 23 : Nat) := c_lshr v0 _ 23 (by decide)
  have e2 : (v0 >>> ((63 : Int32) &&& 0x3f).toInt64).toInt = v0.toInt / (2 ^ 63 : Nat) := c_lshr v0 _ 63 (by decide)
  have r := rng64 v0
  rw [← Int64.toInt_inj, e1, e2]
  omega
theorem own_fit4 (v0 : Int64) : ((v0 >>> ((31 : Int32) &&& 0x3f).toInt64) = (v0 >>> ((63 : Int32) &&& 0x3f).toInt64)) ↔ (-2147483648 ≤ v0.toInt ∧ v0.toInt < 2147483648) := by
  have e1 : (v0 >>> ((31 : Int32) &&& 0x3f).toInt64).toInt = v0.toInt / (2 ^ 31 : Nat) := c_lshr v0 _ 31 (by decide)
  have e2 : (v0 >>> ((63 : Int32) &&& 0x3f).toInt64).toInt = v0.toInt / (2 ^ 63 : Nat) := c_lshr v0 _ 63 (by decide)
  have r := rng64 v0
  rw [← Int64.toInt_inj, e1, e2]
  omega
theorem own_fit5 (v0 : Int64) : ((v0 >>> ((39 : Int32) &&& 0x3f).toInt64) = (v0 >>> ((63 : Int32) &&& 0x3f).toInt64)) ↔ (-549755813888 ≤ v0.toInt ∧ v0.toInt < 549755813888) := by
  have e1 : (v0 >>> ((39 : Int32) &&& 0x3f).toInt64).toInt = v0.toInt / (2 ^ 39 : Nat) := c_lshr v0 _ 39 (by decide)
  have e2 : (v0 >>> ((63 : Int32) &&& 0x3f).toInt64).toInt = v0.toInt / (2 ^ 63 : Nat) := c_lshr v0 _ 63 (by decide)
  have r := rng64 v0
  rw [← Int64.toInt_inj, e1, e2]
  omega
theorem own_fit6 (v0 : Int64) : ((v0 >>> ((47 : Int32) &&& 0x3f).toInt64) = (v0 >>> ((63 : Int32) &&& 0x3f).toInt64)) ↔ (-140737488355328 ≤ v0.toInt ∧ v0.toInt < 140737488355328) := by
  have e1 : (v0 >>> ((47 : Int32) &&& 0x3f).toInt64).toInt = v0.toInt / (2 ^ 47 : Nat) := c_lshr v0 _ 47 (by decide)
  have e2 : (v0 >>> ((63 : Int32) &&& 0x3f).toInt64).toInt = v0.toInt / (2 ^ 63 : Nat) := c_lshr v0 _ 63 (by decide)
  have r := rng64 v0
  rw [← Int64.toInt_inj, e1, e2]
  omega
theorem own_fit7 (v0 : Int64) : ((v0 >>> ((55 : Int32) &&& 0x3f).toInt64) = (v0 >>> ((63 : Int32) &&& 0x3f).toInt64)) ↔ (-36028797018963968 ≤ v0.toInt ∧ v0.toInt < 36028797018963968) := by
  have e1 : (v0 >>> ((55 : Int32) &&& 0x3f).toInt64).toInt = v0.toInt / (2 ^ 55 : Nat) := c_lshr v0 _ 55 (by decide)
  have e2 : (v0 >>> ((63 : Int32) &&& 0x3f).toInt64).toInt = v0.toInt / (2 ^ 63 : Nat) := c_lshr v0 _ 63 (by decide)
  have r := rng64 v0
  rw [← Int64.toInt_inj, e1, e2]
  omega
theorem own_exp (v0 : Int64) : fx v0 = Int32.ofNat (ln v0) := by
  unfold fx ln
  simp only [own_fit1, own_fit2, own_fit3, own_fit4, own_fit5, own_fit6, own_fit7, Int64.lt_iff_toInt_lt, show (-36028797018963968 : Int64).toInt = -36028797018963968 from rfl, show (-140737488355328 : Int64).toInt = -140737488355328 from rfl, show (-549755813888 : Int64).toInt = -549755813888 from rfl, show (-2147483648 : Int64).toInt = -2147483648 from rfl, show (-8388608 : Int64).toInt = -8388608 from rfl, show (-32768 : Int64).toInt = -32768 from rfl, show (-128 : Int64).toInt = -128 from rfl, show (128 : Int64).toInt = 128 from rfl, show (32768 : Int64).toInt = 32768 from rfl, show (8388608 : Int64).toInt = 8388608 from rfl, show (2147483648 : Int64).toInt = 2147483648 from rfl, show (549755813888 : Int64).toInt = 549755813888 from rfl, show (140737488355328 : Int64).toInt = 140737488355328 from rfl, show (36028797018963968 : Int64).toInt = 36028797018963968 from rfl]
  generalize v0.toInt = v
  have hc : v < -36028797018963968 ∨ (-36028797018963968 ≤ v ∧ v < -140737488355328) ∨ (-140737488355328 ≤ v ∧ v < -549755813888) ∨ (-549755813888 ≤ v ∧ v < -2147483648) ∨ (-2147483648 ≤ v ∧ v < -8388608) ∨ (-8388608 ≤ v ∧ v < -32768) ∨ (-32768 ≤ v ∧ v < -128) ∨ (-128 ≤ v ∧ v < 128) ∨ (128 ≤ v ∧ v < 32768) ∨ (32768 ≤ v ∧ v < 8388608) ∨ (8388608 ≤ v ∧ v < 2147483648) ∨ (2147483648 ≤ v ∧ v < 549755813888) ∨ (549755813888 ≤ v ∧ v < 140737488355328) ∨ (140737488355328 ≤ v ∧ v < 36028797018963968) ∨ 36028797018963968 ≤ v := by omega
  rcases hc with h | h | h | h | h | h | h | h | h | h | h | h | h | h | h <;> (repeat (first | rw [if_pos (by omega)] | rw [if_neg (by omega)])) <;> rfl
theorem own_by (v0 : Int64) (k : Int32) (j : Nat) (hj : k.toBitVec.toNat % 64 = j) : (by8 v0 k).toInt % 256 = v0.toInt / (2 ^ j : Nat) % 256 ∧ -128 ≤ (by8 v0 k).toInt ∧ (by8 v0 k).toInt < 128 := by
  have e1 := c_lshr v0 k j hj
  have e2 := c_l2i (v0 >>> (k &&& 0x3f).toInt64)
  have e3 := c_i2b (v0 >>> (k &&& 0x3f).toInt64).toInt32
  have e4 := c_i2b (v0 >>> (k &&& 0x3f).toInt64).toInt32.toInt8.toInt32
  unfold by8
  generalize v0.toInt / (2 ^ j : Nat) = w at *
  omega
theorem own_st0 (v0 d : Int64) (hd : d.toInt = v0.toInt / 256) : (((d <<< ((8 : Int32) &&& 0x3f).toInt64) ||| ((by8 v0 (0 : Int32)).toInt64 &&& (255 : Int64))).toInt) = v0.toInt / 1 := by
  have b := own_by v0 (0 : Int32) 0 (by decide)
  have e1 := c_lshl d (8 : Int32) 8 (by decide)
  have e2 : ((by8 v0 (0 : Int32)).toInt64 &&& (255 : Int64)).toInt = (by8 v0 (0 : Int32)).toInt64.toInt % (2 ^ 8 : Nat) := c_maskL _ 255 8 (by decide) (by decide)
  have e3 := c_i2l (by8 v0 (0 : Int32))
  have r0 := rng64 v0
  have r1 := rng64 (d <<< ((8 : Int32) &&& 0x3f).toInt64)
  have e4 : (d <<< ((8 : Int32) &&& 0x3f).toInt64).toInt = d.toInt * 256 := by omega
  have e5 := c_orL (d <<< ((8 : Int32) &&& 0x3f).toInt64) ((by8 v0 (0 : Int32)).toInt64 &&& (255 : Int64)) 8 (by decide) 256 (by decide) (by omega) (by omega) (by omega)
  have r2 := rng64 ((d <<< ((8 : Int32) &&& 0x3f).toInt64) ||| ((by8 v0 (0 : Int32)).toInt64 &&& (255 : Int64)))
  omega
theorem own_st8 (v0 d : Int64) (hd : d.toInt = v0.toInt / 65536) : (((d <<< ((8 : Int32) &&& 0x3f).toInt64) ||| ((by8 v0 (8 : Int32)).toInt64 &&& (255 : Int64))).toInt) = v0.toInt / 256 := by
  have b := own_by v0 (8 : Int32) 8 (by decide)
  have e1 := c_lshl d (8 : Int32) 8 (by decide)
  have e2 : ((by8 v0 (8 : Int32)).toInt64 &&& (255 : Int64)).toInt = (by8 v0 (8 : Int32)).toInt64.toInt % (2 ^ 8 : Nat) := c_maskL _ 255 8 (by decide) (by decide)
  have e3 := c_i2l (by8 v0 (8 : Int32))
  have r0 := rng64 v0
  have r1 := rng64 (d <<< ((8 : Int32) &&& 0x3f).toInt64)
  have e4 : (d <<< ((8 : Int32) &&& 0x3f).toInt64).toInt = d.toInt * 256 := by omega
  have e5 := c_orL (d <<< ((8 : Int32) &&& 0x3f).toInt64) ((by8 v0 (8 : Int32)).toInt64 &&& (255 : Int64)) 8 (by decide) 256 (by decide) (by omega) (by omega) (by omega)
  have r2 := rng64 ((d <<< ((8 : Int32) &&& 0x3f).toInt64) ||| ((by8 v0 (8 : Int32)).toInt64 &&& (255 : Int64)))
  omega
theorem own_st16 (v0 d : Int64) (hd : d.toInt = v0.toInt / 16777216) : (((d <<< ((8 : Int32) &&& 0x3f).toInt64) ||| ((by8 v0 (16 : Int32)).toInt64 &&& (255 : Int64))).toInt) = v0.toInt / 65536 := by
  have b := own_by v0 (16 : Int32) 16 (by decide)
  have e1 := c_lshl d (8 : Int32) 8 (by decide)
  have e2 : ((by8 v0 (16 : Int32)).toInt64 &&& (255 : Int64)).toInt = (by8 v0 (16 : Int32)).toInt64.toInt % (2 ^ 8 : Nat) := c_maskL _ 255 8 (by decide) (by decide)
  have e3 := c_i2l (by8 v0 (16 : Int32))
  have r0 := rng64 v0
  have r1 := rng64 (d <<< ((8 : Int32) &&& 0x3f).toInt64)
  have e4 : (d <<< ((8 : Int32) &&& 0x3f).toInt64).toInt = d.toInt * 256 := by omega
  have e5 := c_orL (d <<< ((8 : Int32) &&& 0x3f).toInt64) ((by8 v0 (16 : Int32)).toInt64 &&& (255 : Int64)) 8 (by decide) 256 (by decide) (by omega) (by omega) (by omega)
  have r2 := rng64 ((d <<< ((8 : Int32) &&& 0x3f).toInt64) ||| ((by8 v0 (16 : Int32)).toInt64 &&& (255 : Int64)))
  omega
theorem own_st24 (v0 d : Int64) (hd : d.toInt = v0.toInt / 4294967296) : (((d <<< ((8 : Int32) &&& 0x3f).toInt64) ||| ((by8 v0 (24 : Int32)).toInt64 &&& (255 : Int64))).toInt) = v0.toInt / 16777216 := by
  have b := own_by v0 (24 : Int32) 24 (by decide)
  have e1 := c_lshl d (8 : Int32) 8 (by decide)
  have e2 : ((by8 v0 (24 : Int32)).toInt64 &&& (255 : Int64)).toInt = (by8 v0 (24 : Int32)).toInt64.toInt % (2 ^ 8 : Nat) := c_maskL _ 255 8 (by decide) (by decide)
  have e3 := c_i2l (by8 v0 (24 : Int32))
  have r0 := rng64 v0
  have r1 := rng64 (d <<< ((8 : Int32) &&& 0x3f).toInt64)
  have e4 : (d <<< ((8 : Int32) &&& 0x3f).toInt64).toInt = d.toInt * 256 := by omega
  have e5 := c_orL (d <<< ((8 : Int32) &&& 0x3f).toInt64) ((by8 v0 (24 : Int32)).toInt64 &&& (255 : Int64)) 8 (by decide) 256 (by decide) (by omega) (by omega) (by omega)
  have r2 := rng64 ((d <<< ((8 : Int32) &&& 0x3f).toInt64) ||| ((by8 v0 (24 : Int32)).toInt64 &&& (255 : Int64)))
  omega
theorem own_st32 (v0 d : Int64) (hd : d.toInt = v0.toInt / 1099511627776) : (((d <<< ((8 : Int32) &&& 0x3f).toInt64) ||| ((by8 v0 (32 : Int32)).toInt64 &&& (255 : Int64))).toInt) = v0.toInt / 4294967296 := by
  have b := own_by v0 (32 : Int32) 32 (by decide)
  have e1 := c_lshl d (8 : Int32) 8 (by decide)
  have e2 : ((by8 v0 (32 : Int32)).toInt64 &&& (255 : Int64)).toInt = (by8 v0 (32 : Int32)).toInt64.toInt % (2 ^ 8 : Nat) := c_maskL _ 255 8 (by decide) (by decide)
  have e3 := c_i2l (by8 v0 (32 : Int32))
  have r0 := rng64 v0
  have r1 := rng64 (d <<< ((8 : Int32) &&& 0x3f).toInt64)
  have e4 : (d <<< ((8 : Int32) &&& 0x3f).toInt64).toInt = d.toInt * 256 := by omega
  have e5 := c_orL (d <<< ((8 : Int32) &&& 0x3f).toInt64) ((by8 v0 (32 : Int32)).toInt64 &&& (255 : Int64)) 8 (by decide) 256 (by decide) (by omega) (by omega) (by omega)
  have r2 := rng64 ((d <<< ((8 : Int32) &&& 0x3f).toInt64) ||| ((by8 v0 (32 : Int32)).toInt64 &&& (255 : Int64)))
  omega
theorem own_st40 (v0 d : Int64) (hd : d.toInt = v0.toInt / 281474976710656) : (((d <<< ((8 : Int32) &&& 0x3f).toInt64) ||| ((by8 v0 (40 : Int32)).toInt64 &&& (255 : Int64))).toInt) = v0.toInt / 1099511627776 := by
  have b := own_by v0 (40 : Int32) 40 (by decide)
  have e1 := c_lshl d (8 : Int32) 8 (by decide)
  have e2 : ((by8 v0 (40 : Int32)).toInt64 &&& (255 : Int64)).toInt = (by8 v0 (40 : Int32)).toInt64.toInt % (2 ^ 8 : Nat) := c_maskL _ 255 8 (by decide) (by decide)
  have e3 := c_i2l (by8 v0 (40 : Int32))
  have r0 := rng64 v0
  have r1 := rng64 (d <<< ((8 : Int32) &&& 0x3f).toInt64)
  have e4 : (d <<< ((8 : Int32) &&& 0x3f).toInt64).toInt = d.toInt * 256 := by omega
  have e5 := c_orL (d <<< ((8 : Int32) &&& 0x3f).toInt64) ((by8 v0 (40 : Int32)).toInt64 &&& (255 : Int64)) 8 (by decide) 256 (by decide) (by omega) (by omega) (by omega)
  have r2 := rng64 ((d <<< ((8 : Int32) &&& 0x3f).toInt64) ||| ((by8 v0 (40 : Int32)).toInt64 &&& (255 : Int64)))
  omega
theorem own_st48 (v0 d : Int64) (hd : d.toInt = v0.toInt / 72057594037927936) : (((d <<< ((8 : Int32) &&& 0x3f).toInt64) ||| ((by8 v0 (48 : Int32)).toInt64 &&& (255 : Int64))).toInt) = v0.toInt / 281474976710656 := by
  have b := own_by v0 (48 : Int32) 48 (by decide)
  have e1 := c_lshl d (8 : Int32) 8 (by decide)
  have e2 : ((by8 v0 (48 : Int32)).toInt64 &&& (255 : Int64)).toInt = (by8 v0 (48 : Int32)).toInt64.toInt % (2 ^ 8 : Nat) := c_maskL _ 255 8 (by decide) (by decide)
  have e3 := c_i2l (by8 v0 (48 : Int32))
  have r0 := rng64 v0
  have r1 := rng64 (d <<< ((8 : Int32) &&& 0x3f).toInt64)
  have e4 : (d <<< ((8 : Int32) &&& 0x3f).toInt64).toInt = d.toInt * 256 := by omega
  have e5 := c_orL (d <<< ((8 : Int32) &&& 0x3f).toInt64) ((by8 v0 (48 : Int32)).toInt64 &&& (255 : Int64)) 8 (by decide) 256 (by decide) (by omega) (by omega) (by omega)
  have r2 := rng64 ((d <<< ((8 : Int32) &&& 0x3f).toInt64) ||| ((by8 v0 (48 : Int32)).toInt64 &&& (255 : Int64)))
  omega
theorem own_dec1 (v0 : Int64) (h : -128 ≤ v0.toInt ∧ v0.toInt < 128) : fd1 (by8 v0 (0 : Int32)) = v0 := by
  have b := own_by v0 (0 : Int32) 0 (by decide)
  have d0 : (by8 v0 (0 : Int32)).toInt64.toInt = v0.toInt / 1 := by rw [c_i2l]; omega
  have e := d0
  apply Int64.toInt_inj.mp
  unfold fd1
  rw [e]
  simp
theorem own_dec2 (v0 : Int64) (h : -32768 ≤ v0.toInt ∧ v0.toInt < 32768) : fd2 (by8 v0 (8 : Int32)) (by8 v0 (0 : Int32)) = v0 := by
  have b := own_by v0 (8 : Int32) 8 (by decide)
  have d0 : (by8 v0 (8 : Int32)).toInt64.toInt = v0.toInt / 256 := by rw [c_i2l]; omega
  have e := (own_st0 v0 _ d0)
  apply Int64.toInt_inj.mp
  unfold fd2
  rw [e]
  simp
theorem own_dec3 (v0 : Int64) (h : -8388608 ≤ v0.toInt ∧ v0.toInt < 8388608) : fd3 (by8 v0 (16 : Int32)) (by8 v0 (8 : Int32)) (by8 v0 (0 : Int32)) = v0 := by
  have b := own_by v0 (16 : Int32) 16 (by decide)
  have d0 : (by8 v0 (16 : Int32)).toInt64.toInt = v0.toInt / 65536 := by rw [c_i2l]; omega
  have e := (own_st0 v0 _ (own_st8 v0 _ d0))
  apply Int64.toInt_inj.mp
  unfold fd3
  rw [e]
  simp
theorem own_dec4 (v0 : Int64) (h : -2147483648 ≤ v0.toInt ∧ v0.toInt < 2147483648) : fd4 (by8 v0 (24 : Int32)) (by8 v0 (16 : Int32)) (by8 v0 (8 : Int32)) (by8 v0 (0 : Int32)) = v0 := by
  have b := own_by v0 (24 : Int32) 24 (by decide)
  have d0 : (by8 v0 (24 : Int32)).toInt64.toInt = v0.toInt / 16777216 := by rw [c_i2l]; omega
  have e := (own_st0 v0 _ (own_st8 v0 _ (own_st16 v0 _ d0)))
  apply Int64.toInt_inj.mp
  unfold fd4
  rw [e]
  simp
theorem own_dec5 (v0 : Int64) (h : -549755813888 ≤ v0.toInt ∧ v0.toInt < 549755813888) : fd5 (by8 v0 (32 : Int32)) (by8 v0 (24 : Int32)) (by8 v0 (16 : Int32)) (by8 v0 (8 : Int32)) (by8 v0 (0 : Int32)) = v0 := by
  have b := own_by v0 (32 : Int32) 32 (by decide)
  have d0 : (by8 v0 (32 : Int32)).toInt64.toInt = v0.toInt / 4294967296 := by rw [c_i2l]; omega
  have e := (own_st0 v0 _ (own_st8 v0 _ (own_st16 v0 _ (own_st24 v0 _ d0))))
  apply Int64.toInt_inj.mp
  unfold fd5
  rw [e]
  simp
theorem own_dec6 (v0 : Int64) (h : -140737488355328 ≤ v0.toInt ∧ v0.toInt < 140737488355328) : fd6 (by8 v0 (40 : Int32)) (by8 v0 (32 : Int32)) (by8 v0 (24 : Int32)) (by8 v0 (16 : Int32)) (by8 v0 (8 : Int32)) (by8 v0 (0 : Int32)) = v0 := by
  have b := own_by v0 (40 : Int32) 40 (by decide)
  have d0 : (by8 v0 (40 : Int32)).toInt64.toInt = v0.toInt / 1099511627776 := by rw [c_i2l]; omega
  have e := (own_st0 v0 _ (own_st8 v0 _ (own_st16 v0 _ (own_st24 v0 _ (own_st32 v0 _ d0)))))
  apply Int64.toInt_inj.mp
  unfold fd6
  rw [e]
  simp
theorem own_dec7 (v0 : Int64) (h : -36028797018963968 ≤ v0.toInt ∧ v0.toInt < 36028797018963968) : fd7 (by8 v0 (48 : Int32)) (by8 v0 (40 : Int32)) (by8 v0 (32 : Int32)) (by8 v0 (24 : Int32)) (by8 v0 (16 : Int32)) (by8 v0 (8 : Int32)) (by8 v0 (0 : Int32)) = v0 := by
  have b := own_by v0 (48 : Int32) 48 (by decide)
  have d0 : (by8 v0 (48 : Int32)).toInt64.toInt = v0.toInt / 281474976710656 := by rw [c_i2l]; omega
  have e := (own_st0 v0 _ (own_st8 v0 _ (own_st16 v0 _ (own_st24 v0 _ (own_st32 v0 _ (own_st40 v0 _ d0))))))
  apply Int64.toInt_inj.mp
  unfold fd7
  rw [e]
  simp
theorem own_dec8 (v0 : Int64) (h : -9223372036854775808 ≤ v0.toInt ∧ v0.toInt < 9223372036854775808) : fd8 (by8 v0 (56 : Int32)) (by8 v0 (48 : Int32)) (by8 v0 (40 : Int32)) (by8 v0 (32 : Int32)) (by8 v0 (24 : Int32)) (by8 v0 (16 : Int32)) (by8 v0 (8 : Int32)) (by8 v0 (0 : Int32)) = v0 := by
  have b := own_by v0 (56 : Int32) 56 (by decide)
  have d0 : (by8 v0 (56 : Int32)).toInt64.toInt = v0.toInt / 72057594037927936 := by rw [c_i2l]; omega
  have e := (own_st0 v0 _ (own_st8 v0 _ (own_st16 v0 _ (own_st24 v0 _ (own_st32 v0 _ (own_st40 v0 _ (own_st48 v0 _ d0)))))))
  apply Int64.toInt_inj.mp
  unfold fd8
  rw [e]
  simp
theorem own_bd (v0 : Int64) : (ln v0 = 1 → -128 ≤ v0.toInt ∧ v0.toInt < 128) ∧ (ln v0 = 2 → -32768 ≤ v0.toInt ∧ v0.toInt < 32768) ∧ (ln v0 = 3 → -8388608 ≤ v0.toInt ∧ v0.toInt < 8388608) ∧ (ln v0 = 4 → -2147483648 ≤ v0.toInt ∧ v0.toInt < 2147483648) ∧ (ln v0 = 5 → -549755813888 ≤ v0.toInt ∧ v0.toInt < 549755813888) ∧ (ln v0 = 6 → -140737488355328 ≤ v0.toInt ∧ v0.toInt < 140737488355328) ∧ (ln v0 = 7 → -36028797018963968 ≤ v0.toInt ∧ v0.toInt < 36028797018963968) ∧ (ln v0 = 8 → -9223372036854775808 ≤ v0.toInt ∧ v0.toInt < 9223372036854775808) := by
  have r := rng64 v0
  unfold ln
  simp only [own_fit1, own_fit2, own_fit3, own_fit4, own_fit5, own_fit6, own_fit7]
  refine ⟨?_, ?_, ?_, ?_, ?_, ?_, ?_, ?_⟩ <;> (intro h; (repeat' split at h) <;> first | omega | (exfalso; omega))
theorem ef0 (m_ : MethodId) (x0 : Int64) (x1 : Int32)  : entryFrame m_ #[(.long x0), (.int x1)] maxLocals = mkF m_ 0 #[.val (.long x0), .second, .val (.int x1), .unset, .unset, .unset, .unset, .unset, .unset] [] := by first | (simp [entryFrame, mkF, argsToLocals, Value.category, maxLocals]; done) | rfl
theorem pd_0 : parseMethodDescriptor "(J)[B" = some ⟨[.long], some (.array .byte)⟩ := by decide +kernel
theorem pd_1 : parseMethodDescriptor "(J)I" = some ⟨[.long], some .int⟩ := by decide +kernel
theorem pd_2 : parseMethodDescriptor "([BI)J" = some ⟨[(.array .byte), .int], some .long⟩ := by decide +kernel
set_option maxRecDepth 65536 in
set_option maxHeartbeats 40000000 in
theorem rm0 (l : Launch) (Z : State) (a0 : Array Value) (hw : ∀ d ∈ tables_1, d.before a0 Z = true) (ws : List Jvm.Cond) (x0 : Int64) (x1 : Int32) (h0 : Heap)  : Co l x code maxLocals ret ws room_1 Z h0 #[(.long x0), (.int x1)] (fun v h L => v = some (.int 1) ∧ Fr h0.size L) := by
  refine Co.of (plainFor_of_name pn_1) ?_
  intro p_ e_ s_ m_ below meth c_ T0 X0 hx hby hml hown hnm hret hlk hZ eq0
  have N0 := Fr.nil h0.size
  refine Go.cast (ef0 m_ x0 x1) ?_
  refine g_iloadN X0 hx rfl (hb hby at_0) 1 rfl ?_
  refine g_bipush X0 hx (7 : Int32) rfl (hb hby at_1) 3 rfl ?_
  refine g_iand X0 hx (hb hby at_3) 4 rfl ?_
  refine g_iconst X0 hx (1 : Int32) rfl (hb hby at_4) 5 rfl ?_
  refine g_iadd X0 hx (hb hby at_5) 6 rfl ?_
  generalize hv101 : ((x1 &&& (7 : Int32)) + (1 : Int32)) = v101
  refine g_istoreN X0 hx #[.val (.long x0), .second, .val (.int x1), .val (.int v101), .unset, .unset, .unset, .unset, .unset] rfl (hb hby at_6) 7 rfl ?_
  refine g_bipush X0 hx (64 : Int32) rfl (hb hby at_7) 9 rfl ?_
  refine g_bipush X0 hx (8 : Int32) rfl (hb hby at_9) 11 rfl ?_
  refine g_iloadN X0 hx rfl (hb hby at_11) 12 rfl ?_
  refine g_imul X0 hx (hb hby at_12) 13 rfl ?_
  refine g_isub X0 hx (hb hby at_13) 14 rfl ?_
  generalize hv102 : ((64 : Int32) - ((8 : Int32) * v101)) = v102
  refine g_istore X0 hx #[.val (.long x0), .second, .val (.int x1), .val (.int v101), .val (.int v102), .unset, .unset, .unset, .unset] rfl (hb hby at_14) 16 rfl ?_
  refine g_lloadN X0 hx rfl (hb hby at_16) 17 rfl ?_
  refine g_iload X0 hx rfl (hb hby at_17) 19 rfl ?_
  refine g_lshl X0 hx (hb hby at_19) 20 rfl ?_
  refine g_iload X0 hx rfl (hb hby at_20) 22 rfl ?_
  refine g_lshr X0 hx (hb hby at_22) 23 rfl ?_
  generalize hv103 : ((x0 <<< (v102 &&& 0x3f).toInt64) >>> (v102 &&& 0x3f).toInt64) = v103
  refine g_lstore X0 hx #[.val (.long x0), .second, .val (.int x1), .val (.int v101), .val (.int v102), .val (.long v103), .second, .unset, .unset] rfl (hb hby at_23) 25 rfl ?_
  refine g_lload X0 hx rfl (hb hby at_25) 27 rfl ?_
  refine g_callS X0 hx hZ hown (wd hw 0 rfl) (wd hw 1 rfl) (wd hw 2 rfl) (wd hw 3 rfl) (by decide) eq0 [(.long v103)] [] rfl (co1 l Z a0 hw v103 h0 h0.size (Nat.le_refl h0.size)) (lenOf pd_0 rfl) 0 (Nat.le_of_eq rfl) (by decide) (by decide) (by decide) (by decide) (by rw [hml]; rfl) (hb hby at_27) 30 rfl (fun r104 T105 L106 X107 Q108 => ?_)
  obtain ⟨h109, e110⟩ : ∃ h, T105.heap = h := ⟨_, rfl⟩
  rw [e110] at Q108
  obtain ⟨b111, rfl, n112, K113, g114, A115⟩ := Q108
  have N116 := Fr.app N0 n112
  have szh117 : h0.size ≤ h109.size := Nat.le_trans (Nat.le_refl h0.size) K113.1
  have sz118 : h0.size ≤ b111 := g114
  show Go p_ e_ below _ T105 (mkF m_ 30 #[.val (.long x0), .second, .val (.int x1), .val (.int v101), .val (.int v102), .val (.long v103), .second, .unset, .unset] [(.ref b111)])
  refine g_astore X107 hx #[.val (.long x0), .second, .val (.int x1), .val (.int v101), .val (.int v102), .val (.long v103), .second, .val (.ref b111), .unset] rfl rfl (hb hby at_30) 32 rfl ?_
  refine g_aload X107 hx rfl rfl (hb hby at_32) 34 rfl ?_
  refine g_ifnonnull X107 hx rfl (hb hby at_34) 39 37 (by decide) rfl rfl (fun q34 => ?_) (fun q34 => ?_)
  · rcases own_ln v103 with hl | hl | hl | hl | hl | hl | hl | hl
    · have A119 := A115
      rw [hl] at A119
      have A120 : AV Z h109 b111 .byte [(.int (by8 v103 (0 : Int32)))] := A119
      refine g_aload X107 hx rfl rfl (hb hby at_39) 41 rfl ?_
      refine g_arraylength X107 hx hZ e110 A120 (1 : Int32) rfl (hb hby at_41) 42 rfl ?_
      refine g_istore X107 hx #[.val (.long x0), .second, .val (.int x1), .val (.int v101), .val (.int v102), .val (.long v103), .second, .val (.ref b111), .val (.int (1 : Int32))] rfl (hb hby at_42) 44 rfl ?_
      refine g_iload X107 hx rfl (hb hby at_44) 46 rfl ?_
      refine g_iconst X107 hx (1 : Int32) rfl (hb hby at_46) 47 rfl ?_
      refine g_icmp_lt X107 hx (hb hby at_47) 57 50 (by decide) rfl rfl (fun q47 => ?_) (fun q47 => ?_)
      · exact absurd q47 (by decide)
      · refine g_iload X107 hx rfl (hb hby at_50) 52 rfl ?_
        refine g_bipush X107 hx (8 : Int32) rfl (hb hby at_52) 54 rfl ?_
        refine g_icmp_le X107 hx (hb hby at_54) 59 57 (by decide) rfl rfl (fun q54 => ?_) (fun q54 => ?_)
        · refine g_iload X107 hx rfl (hb hby at_59) 61 rfl ?_
          refine g_lload X107 hx rfl (hb hby at_61) 63 rfl ?_
          refine g_callS X107 hx hZ hown (wd hw 5 rfl) (wd hw 6 rfl) (wd hw 7 rfl) (wd hw 8 rfl) (by decide) e110 [(.long v103)] [(.int (1 : Int32))]  rfl (co2 l Z a0 hw v103  h109 ) (lenOf pd_1 rfl) 1 (Nat.le_of_eq rfl) (by decide) (by decide) (by decide) (by decide) (by rw [hml]; rfl) (hb hby at_63) 66 rfl (pu_cont fun T122 X121 e123 => ?_)
          show Go p_ e_ below _ T122 (mkF m_ 66 #[.val (.long x0), .second, .val (.int x1), .val (.int v101), .val (.int v102), .val (.long v103), .second, .val (.ref b111), .val (.int (1 : Int32))] [(.int (fx v103)), (.int (1 : Int32))])
          refine g_icmp_ne X121 hx (hb hby at_66) 86 69 (by decide) rfl rfl (fun q66 => ?_) (fun q66 => ?_)
          · exact absurd (by rw [own_exp, hl]; rfl) q66
          · refine g_aload X121 hx rfl rfl (hb hby at_69) 71 rfl ?_
            refine g_iload X121 hx rfl (hb hby at_71) 73 rfl ?_
            refine g_callS X121 hx hZ hown (wd hw 11 rfl) (wd hw 12 rfl) (wd hw 7 rfl) (wd hw 13 rfl) (by decide) e123 [(.ref b111), (.int (1 : Int32))] []  rfl (co3_1 l Z a0 hw b111 (by8 v103 (0 : Int32)) h109 A120) (lenOf pd_2 rfl) 0 (Nat.le_of_eq rfl) (by decide) (by decide) (by decide) (by decide) (by rw [hml]; rfl) (hb hby at_73) 76 rfl (pu_cont fun T125 X124 e126 => ?_)
            show Go p_ e_ below _ T125 (mkF m_ 76 #[.val (.long x0), .second, .val (.int x1), .val (.int v101), .val (.int v102), .val (.long v103), .second, .val (.ref b111), .val (.int (1 : Int32))] [(.long (fd1 (by8 v103 (0 : Int32))))])
            refine g_lload X124 hx rfl (hb hby at_76) 78 rfl ?_
            refine g_lif_ne X124 hx (hb hby at_78) 79 rfl (hb hby at_79) 86 82 (by decide) rfl rfl (fun q78 => ?_) (fun q78 => ?_)
            · exact absurd (own_dec1 _ ((own_bd _).1 hl)) q78
            · refine g_iconst X124 hx (1 : Int32) rfl (hb hby at_82) 83 rfl ?_
              refine g_goto X124 hx (hb hby at_83) 87 (by decide) rfl ?_
              exact g_retz X124 hx hret hlk (by decide) (by decide) (hb hby at_87) ⟨rfl, N116⟩
        · exact absurd q54 (by decide)
    · have A127 := A115
      rw [hl] at A127
      have A128 : AV Z h109 b111 .byte [(.int (by8 v103 (8 : Int32))), (.int (by8 v103 (0 : Int32)))] := A127
      refine g_aload X107 hx rfl rfl (hb hby at_39) 41 rfl ?_
      refine g_arraylength X107 hx hZ e110 A128 (2 : Int32) rfl (hb hby at_41) 42 rfl ?_
      refine g_istore X107 hx #[.val (.long x0), .second, .val (.int x1), .val (.int v101), .val (.int v102), .val (.long v103), .second, .val (.ref b111), .val (.int (2 : Int32))] rfl (hb hby at_42) 44 rfl ?_
      refine g_iload X107 hx rfl (hb hby at_44) 46 rfl ?_
      refine g_iconst X107 hx (1 : Int32) rfl (hb hby at_46) 47 rfl ?_
      refine g_icmp_lt X107 hx (hb hby at_47) 57 50 (by decide) rfl rfl (fun q47 => ?_) (fun q47 => ?_)
      · exact absurd q47 (by decide)
      · refine g_iload X107 hx rfl (hb hby at_50) 52 rfl ?_
        refine g_bipush X107 hx (8 : Int32) rfl (hb hby at_52) 54 rfl ?_
        refine g_icmp_le X107 hx (hb hby at_54) 59 57 (by decide) rfl rfl (fun q54 => ?_) (fun q54 => ?_)
        · refine g_iload X107 hx rfl (hb hby at_59) 61 rfl ?_
          refine g_lload X107 hx rfl (hb hby at_61) 63 rfl ?_
          refine g_callS X107 hx hZ hown (wd hw 5 rfl) (wd hw 6 rfl) (wd hw 7 rfl) (wd hw 8 rfl) (by decide) e110 [(.long v103)] [(.int (2 : Int32))]  rfl (co2 l Z a0 hw v103  h109 ) (lenOf pd_1 rfl) 1 (Nat.le_of_eq rfl) (by decide) (by decide) (by decide) (by decide) (by rw [hml]; rfl) (hb hby at_63) 66 rfl (pu_cont fun T130 X129 e131 => ?_)
          show Go p_ e_ below _ T130 (mkF m_ 66 #[.val (.long x0), .second, .val (.int x1), .val (.int v101), .val (.int v102), .val (.long v103), .second, .val (.ref b111), .val (.int (2 : Int32))] [(.int (fx v103)), (.int (2 : Int32))])
          refine g_icmp_ne X129 hx (hb hby at_66) 86 69 (by decide) rfl rfl (fun q66 => ?_) (fun q66 => ?_)
          · exact absurd (by rw [own_exp, hl]; rfl) q66
          · refine g_aload X129 hx rfl rfl (hb hby at_69) 71 rfl ?_
            refine g_iload X129 hx rfl (hb hby at_71) 73 rfl ?_
            refine g_callS X129 hx hZ hown (wd hw 11 rfl) (wd hw 12 rfl) (wd hw 7 rfl) (wd hw 13 rfl) (by decide) e131 [(.ref b111), (.int (2 : Int32))] []  rfl (co3_2 l Z a0 hw b111 (by8 v103 (8 : Int32)) (by8 v103 (0 : Int32)) h109 A128) (lenOf pd_2 rfl) 0 (Nat.le_of_eq rfl) (by decide) (by decide) (by decide) (by decide) (by rw [hml]; rfl) (hb hby at_73) 76 rfl (pu_cont fun T133 X132 e134 => ?_)
            show Go p_ e_ below _ T133 (mkF m_ 76 #[.val (.long x0), .second, .val (.int x1), .val (.int v101), .val (.int v102), .val (.long v103), .second, .val (.ref b111), .val (.int (2 : Int32))] [(.long (fd2 (by8 v103 (8 : Int32)) (by8 v103 (0 : Int32))))])
            refine g_lload X132 hx rfl (hb hby at_76) 78 rfl ?_
            refine g_lif_ne X132 hx (hb hby at_78) 79 rfl (hb hby at_79) 86 82 (by decide) rfl rfl (fun q78 => ?_) (fun q78 => ?_)
            · exact absurd (own_dec2 _ ((own_bd _).2.1 hl)) q78
            · refine g_iconst X132 hx (1 : Int32) rfl (hb hby at_82) 83 rfl ?_
              refine g_goto X132 hx (hb hby at_83) 87 (by decide) rfl ?_
              exact g_retz X132 hx hret hlk (by decide) (by decide) (hb hby at_87) ⟨rfl, N116⟩
        · exact absurd q54 (by decide)
    · have A135 := A115
      rw [hl] at A135
      have A136 : AV Z h109 b111 .byte [(.int (by8 v103 (16 : Int32))), (.int (by8 v103 (8 : Int32))), (.int (by8 v103 (0 : Int32)))] := A135
      refine g_aload X107 hx rfl rfl (hb hby at_39) 41 rfl ?_
      refine g_arraylength X107 hx hZ e110 A136 (3 : Int32) rfl (hb hby at_41) 42 rfl ?_
      refine g_istore X107 hx #[.val (.long x0), .second, .val (.int x1), .val (.int v101), .val (.int v102), .val (.long v103), .second, .val (.ref b111), .val (.int (3 : Int32))] rfl (hb hby at_42) 44 rfl ?_
      refine g_iload X107 hx rfl (hb hby at_44) 46 rfl ?_
      refine g_iconst X107 hx (1 : Int32) rfl (hb hby at_46) 47 rfl ?_
      refine g_icmp_lt X107 hx (hb hby at_47) 57 50 (by decide) rfl rfl (fun q47 => ?_) (fun q47 => ?_)
      · exact absurd q47 (by decide)
      · refine g_iload X107 hx rfl (hb hby at_50) 52 rfl ?_
        refine g_bipush X107 hx (8 : Int32) rfl (hb hby at_52) 54 rfl ?_
        refine g_icmp_le X107 hx (hb hby at_54) 59 57 (by decide) rfl rfl (fun q54 => ?_) (fun q54 => ?_)
        · refine g_iload X107 hx rfl (hb hby at_59) 61 rfl ?_
          refine g_lload X107 hx rfl (hb hby at_61) 63 rfl ?_
          refine g_callS X107 hx hZ hown (wd hw 5 rfl) (wd hw 6 rfl) (wd hw 7 rfl) (wd hw 8 rfl) (by decide) e110 [(.long v103)] [(.int (3 : Int32))]  rfl (co2 l Z a0 hw v103  h109 ) (lenOf pd_1 rfl) 1 (Nat.le_of_eq rfl) (by decide) (by decide) (by decide) (by decide) (by rw [hml]; rfl) (hb hby at_63) 66 rfl (pu_cont fun T138 X137 e139 => ?_)
          show Go p_ e_ below _ T138 (mkF m_ 66 #[.val (.long x0), .second, .val (.int x1), .val (.int v101), .val (.int v102), .val (.long v103), .second, .val (.ref b111), .val (.int (3 : Int32))] [(.int (fx v103)), (.int (3 : Int32))])
          refine g_icmp_ne X137 hx (hb hby at_66) 86 69 (by decide) rfl rfl (fun q66 => ?_) (fun q66 => ?_)
          · exact absurd (by rw [own_exp, hl]; rfl) q66
          · refine g_aload X137 hx rfl rfl (hb hby at_69) 71 rfl ?_
            refine g_iload X137 hx rfl (hb hby at_71) 73 rfl ?_
            refine g_callS X137 hx hZ hown (wd hw 11 rfl) (wd hw 12 rfl) (wd hw 7 rfl) (wd hw 13 rfl) (by decide) e139 [(.ref b111), (.int (3 : Int32))] []  rfl (co3_3 l Z a0 hw b111 (by8 v103 (16 : Int32)) (by8 v103 (8 : Int32)) (by8 v103 (0 : Int32)) h109 A136) (lenOf pd_2 rfl) 0 (Nat.le_of_eq rfl) (by decide) (by decide) (by decide) (by decide) (by rw [hml]; rfl) (hb hby at_73) 76 rfl (pu_cont fun T141 X140 e142 => ?_)
            show Go p_ e_ below _ T141 (mkF m_ 76 #[.val (.long x0), .second, .val (.int x1), .val (.int v101), .val (.int v102), .val (.long v103), .second, .val (.ref b111), .val (.int (3 : Int32))] [(.long (fd3 (by8 v103 (16 : Int32)) (by8 v103 (8 : Int32)) (by8 v103 (0 : Int32))))])
            refine g_lload X140 hx rfl (hb hby at_76) 78 rfl ?_
            refine g_lif_ne X140 hx (hb hby at_78) 79 rfl (hb hby at_79) 86 82 (by decide) rfl rfl (fun q78 => ?_) (fun q78 => ?_)
            · exact absurd (own_dec3 _ ((own_bd _).2.2.1 hl)) q78
            · refine g_iconst X140 hx (1 : Int32) rfl (hb hby at_82) 83 rfl ?_
              refine g_goto X140 hx (hb hby at_83) 87 (by decide) rfl ?_
              exact g_retz X140 hx hret hlk (by decide) (by decide) (hb hby at_87) ⟨rfl, N116⟩
        · exact absurd q54 (by decide)
    · have A143 := A115
      rw [hl] at A143
      have A144 : AV Z h109 b111 .byte [(.int (by8 v103 (24 : Int32))), (.int (by8 v103 (16 : Int32))), (.int (by8 v103 (8 : Int32))), (.int (by8 v103 (0 : Int32)))] := A143
      refine g_aload X107 hx rfl rfl (hb hby at_39) 41 rfl ?_
      refine g_arraylength X107 hx hZ e110 A144 (4 : Int32) rfl (hb hby at_41) 42 rfl ?_
      refine g_istore X107 hx #[.val (.long x0), .second, .val (.int x1), .val (.int v101), .val (.int v102), .val (.long v103), .second, .val (.ref b111), .val (.int (4 : Int32))] rfl (hb hby at_42) 44 rfl ?_
      refine g_iload X107 hx rfl (hb hby at_44) 46 rfl ?_
      refine g_iconst X107 hx (1 : Int32) rfl (hb hby at_46) 47 rfl ?_
      refine g_icmp_lt X107 hx (hb hby at_47) 57 50 (by decide) rfl rfl (fun q47 => ?_) (fun q47 => ?_)
      · exact absurd q47 (by decide)
      · refine g_iload X107 hx rfl (hb hby at_50) 52 rfl ?_
        refine g_bipush X107 hx (8 : Int32) rfl (hb hby at_52) 54 rfl ?_
        refine g_icmp_le X107 hx (hb hby at_54) 59 57 (by decide) rfl rfl (fun q54 => ?_) (fun q54 => ?_)
        · refine g_iload X107 hx rfl (hb hby at_59) 61 rfl ?_
          refine g_lload X107 hx rfl (hb hby at_61) 63 rfl ?_
          refine g_callS X107 hx hZ hown (wd hw 5 rfl) (wd hw 6 rfl) (wd hw 7 rfl) (wd hw 8 rfl) (by decide) e110 [(.long v103)] [(.int (4 : Int32))]  rfl (co2 l Z a0 hw v103  h109 ) (lenOf pd_1 rfl) 1 (Nat.le_of_eq rfl) (by decide) (by decide) (by decide) (by decide) (by rw [hml]; rfl) (hb hby at_63) 66 rfl (pu_cont fun T146 X145 e147 => ?_)
          show Go p_ e_ below _ T146 (mkF m_ 66 #[.val (.long x0), .second, .val (.int x1), .val (.int v101), .val (.int v102), .val (.long v103), .second, .val (.ref b111), .val (.int (4 : Int32))] [(.int (fx v103)), (.int (4 : Int32))])
          refine g_icmp_ne X145 hx (hb hby at_66) 86 69 (by decide) rfl rfl (fun q66 => ?_) (fun q66 => ?_)
          · exact absurd (by rw [own_exp, hl]; rfl) q66
          · refine g_aload X145 hx rfl rfl (hb hby at_69) 71 rfl ?_
            refine g_iload X145 hx rfl (hb hby at_71) 73 rfl ?_
            refine g_callS X145 hx hZ hown (wd hw 11 rfl) (wd hw 12 rfl) (wd hw 7 rfl) (wd hw 13 rfl) (by decide) e147 [(.ref b111), (.int (4 : Int32))] []  rfl (co3_4 l Z a0 hw b111 (by8 v103 (24 : Int32)) (by8 v103 (16 : Int32)) (by8 v103 (8 : Int32)) (by8 v103 (0 : Int32)) h109 A144) (lenOf pd_2 rfl) 0 (Nat.le_of_eq rfl) (by decide) (by decide) (by decide) (by decide) (by rw [hml]; rfl) (hb hby at_73) 76 rfl (pu_cont fun T149 X148 e150 => ?_)
            show Go p_ e_ below _ T149 (mkF m_ 76 #[.val (.long x0), .second, .val (.int x1), .val (.int v101), .val (.int v102), .val (.long v103), .second, .val (.ref b111), .val (.int (4 : Int32))] [(.long (fd4 (by8 v103 (24 : Int32)) (by8 v103 (16 : Int32)) (by8 v103 (8 : Int32)) (by8 v103 (0 : Int32))))])
            refine g_lload X148 hx rfl (hb hby at_76) 78 rfl ?_
            refine g_lif_ne X148 hx (hb hby at_78) 79 rfl (hb hby at_79) 86 82 (by decide) rfl rfl (fun q78 => ?_) (fun q78 => ?_)
            · exact absurd (own_dec4 _ ((own_bd _).2.2.2.1 hl)) q78
            · refine g_iconst X148 hx (1 : Int32) rfl (hb hby at_82) 83 rfl ?_
              refine g_goto X148 hx (hb hby at_83) 87 (by decide) rfl ?_
              exact g_retz X148 hx hret hlk (by decide) (by decide) (hb hby at_87) ⟨rfl, N116⟩
        · exact absurd q54 (by decide)
    · have A151 := A115
      rw [hl] at A151
      have A152 : AV Z h109 b111 .byte [(.int (by8 v103 (32 : Int32))), (.int (by8 v103 (24 : Int32))), (.int (by8 v103 (16 : Int32))), (.int (by8 v103 (8 : Int32))), (.int (by8 v103 (0 : Int32)))] := A151
      refine g_aload X107 hx rfl rfl (hb hby at_39) 41 rfl ?_
      refine g_arraylength X107 hx hZ e110 A152 (5 : Int32) rfl (hb hby at_41) 42 rfl ?_
      refine g_istore X107 hx #[.val (.long x0), .second, .val (.int x1), .val (.int v101), .val (.int v102), .val (.long v103), .second, .val (.ref b111), .val (.int (5 : Int32))] rfl (hb hby at_42) 44 rfl ?_
      refine g_iload X107 hx rfl (hb hby at_44) 46 rfl ?_
      refine g_iconst X107 hx (1 : Int32) rfl (hb hby at_46) 47 rfl ?_
      refine g_icmp_lt X107 hx (hb hby at_47) 57 50 (by decide) rfl rfl (fun q47 => ?_) (fun q47 => ?_)
      · exact absurd q47 (by decide)
      · refine g_iload X107 hx rfl (hb hby at_50) 52 rfl ?_
        refine g_bipush X107 hx (8 : Int32) rfl (hb hby at_52) 54 rfl ?_
        refine g_icmp_le X107 hx (hb hby at_54) 59 57 (by decide) rfl rfl (fun q54 => ?_) (fun q54 => ?_)
        · refine g_iload X107 hx rfl (hb hby at_59) 61 rfl ?_
          refine g_lload X107 hx rfl (hb hby at_61) 63 rfl ?_
          refine g_callS X107 hx hZ hown (wd hw 5 rfl) (wd hw 6 rfl) (wd hw 7 rfl) (wd hw 8 rfl) (by decide) e110 [(.long v103)] [(.int (5 : Int32))]  rfl (co2 l Z a0 hw v103  h109 ) (lenOf pd_1 rfl) 1 (Nat.le_of_eq rfl) (by decide) (by decide) (by decide) (by decide) (by rw [hml]; rfl) (hb hby at_63) 66 rfl (pu_cont fun T154 X153 e155 => ?_)
          show Go p_ e_ below _ T154 (mkF m_ 66 #[.val (.long x0), .second, .val (.int x1), .val (.int v101), .val (.int v102), .val (.long v103), .second, .val (.ref b111), .val (.int (5 : Int32))] [(.int (fx v103)), (.int (5 : Int32))])
          refine g_icmp_ne X153 hx (hb hby at_66) 86 69 (by decide) rfl rfl (fun q66 => ?_) (fun q66 => ?_)
          · exact absurd (by rw [own_exp, hl]; rfl) q66
          · refine g_aload X153 hx rfl rfl (hb hby at_69) 71 rfl ?_
            refine g_iload X153 hx rfl (hb hby at_71) 73 rfl ?_
            refine g_callS X153 hx hZ hown (wd hw 11 rfl) (wd hw 12 rfl) (wd hw 7 rfl) (wd hw 13 rfl) (by decide) e155 [(.ref b111), (.int (5 : Int32))] []  rfl (co3_5 l Z a0 hw b111 (by8 v103 (32 : Int32)) (by8 v103 (24 : Int32)) (by8 v103 (16 : Int32)) (by8 v103 (8 : Int32)) (by8 v103 (0 : Int32)) h109 A152) (lenOf pd_2 rfl) 0 (Nat.le_of_eq rfl) (by decide) (by decide) (by decide) (by decide) (by rw [hml]; rfl) (hb hby at_73) 76 rfl (pu_cont fun T157 X156 e158 => ?_)
            show Go p_ e_ below _ T157 (mkF m_ 76 #[.val (.long x0), .second, .val (.int x1), .val (.int v101), .val (.int v102), .val (.long v103), .second, .val (.ref b111), .val (.int (5 : Int32))] [(.long (fd5 (by8 v103 (32 : Int32)) (by8 v103 (24 : Int32)) (by8 v103 (16 : Int32)) (by8 v103 (8 : Int32)) (by8 v103 (0 : Int32))))])
            refine g_lload X156 hx rfl (hb hby at_76) 78 rfl ?_
            refine g_lif_ne X156 hx (hb hby at_78) 79 rfl (hb hby at_79) 86 82 (by decide) rfl rfl (fun q78 => ?_) (fun q78 => ?_)
            · exact absurd (own_dec5 _ ((own_bd _).2.2.2.2.1 hl)) q78
            · refine g_iconst X156 hx (1 : Int32) rfl (hb hby at_82) 83 rfl ?_
              refine g_goto X156 hx (hb hby at_83) 87 (by decide) rfl ?_
              exact g_retz X156 hx hret hlk (by decide) (by decide) (hb hby at_87) ⟨rfl, N116⟩
        · exact absurd q54 (by decide)
    · have A159 := A115
      rw [hl] at A159
      have A160 : AV Z h109 b111 .byte [(.int (by8 v103 (40 : Int32))), (.int (by8 v103 (32 : Int32))), (.int (by8 v103 (24 : Int32))), (.int (by8 v103 (16 : Int32))), (.int (by8 v103 (8 : Int32))), (.int (by8 v103 (0 : Int32)))] := A159
      refine g_aload X107 hx rfl rfl (hb hby at_39) 41 rfl ?_
      refine g_arraylength X107 hx hZ e110 A160 (6 : Int32) rfl (hb hby at_41) 42 rfl ?_
      refine g_istore X107 hx #[.val (.long x0), .second, .val (.int x1), .val (.int v101), .val (.int v102), .val (.long v103), .second, .val (.ref b111), .val (.int (6 : Int32))] rfl (hb hby at_42) 44 rfl ?_
      refine g_iload X107 hx rfl (hb hby at_44) 46 rfl ?_
      refine g_iconst X107 hx (1 : Int32) rfl (hb hby at_46) 47 rfl ?_
      refine g_icmp_lt X107 hx (hb hby at_47) 57 50 (by decide) rfl rfl (fun q47 => ?_) (fun q47 => ?_)
      · exact absurd q47 (by decide)
      · refine g_iload X107 hx rfl (hb hby at_50) 52 rfl ?_
        refine g_bipush X107 hx (8 : Int32) rfl (hb hby at_52) 54 rfl ?_
        refine g_icmp_le X107 hx (hb hby at_54) 59 57 (by decide) rfl rfl (fun q54 => ?_) (fun q54 => ?_)
        · refine g_iload X107 hx rfl (hb hby at_59) 61 rfl ?_
          refine g_lload X107 hx rfl (hb hby at_61) 63 rfl ?_
          refine g_callS X107 hx hZ hown (wd hw 5 rfl) (wd hw 6 rfl) (wd hw 7 rfl) (wd hw 8 rfl) (by decide) e110 [(.long v103)] [(.int (6 : Int32))]  rfl (co2 l Z a0 hw v103  h109 ) (lenOf pd_1 rfl) 1 (Nat.le_of_eq rfl) (by decide) (by decide) (by decide) (by decide) (by rw [hml]; rfl) (hb hby at_63) 66 rfl (pu_cont fun T162 X161 e163 => ?_)
          show Go p_ e_ below _ T162 (mkF m_ 66 #[.val (.long x0), .second, .val (.int x1), .val (.int v101), .val (.int v102), .val (.long v103), .second, .val (.ref b111), .val (.int (6 : Int32))] [(.int (fx v103)), (.int (6 : Int32))])
          refine g_icmp_ne X161 hx (hb hby at_66) 86 69 (by decide) rfl rfl (fun q66 => ?_) (fun q66 => ?_)
          · exact absurd (by rw [own_exp, hl]; rfl) q66
          · refine g_aload X161 hx rfl rfl (hb hby at_69) 71 rfl ?_
            refine g_iload X161 hx rfl (hb hby at_71) 73 rfl ?_
            refine g_callS X161 hx hZ hown (wd hw 11 rfl) (wd hw 12 rfl) (wd hw 7 rfl) (wd hw 13 rfl) (by decide) e163 [(.ref b111), (.int (6 : Int32))] []  rfl (co3_6 l Z a0 hw b111 (by8 v103 (40 : Int32)) (by8 v103 (32 : Int32)) (by8 v103 (24 : Int32)) (by8 v103 (16 : Int32)) (by8 v103 (8 : Int32)) (by8 v103 (0 : Int32)) h109 A160) (lenOf pd_2 rfl) 0 (Nat.le_of_eq rfl) (by decide) (by decide) (by decide) (by decide) (by rw [hml]; rfl) (hb hby at_73) 76 rfl (pu_cont fun T165 X164 e166 => ?_)
            show Go p_ e_ below _ T165 (mkF m_ 76 #[.val (.long x0), .second, .val (.int x1), .val (.int v101), .val (.int v102), .val (.long v103), .second, .val (.ref b111), .val (.int (6 : Int32))] [(.long (fd6 (by8 v103 (40 : Int32)) (by8 v103 (32 : Int32)) (by8 v103 (24 : Int32)) (by8 v103 (16 : Int32)) (by8 v103 (8 : Int32)) (by8 v103 (0 : Int32))))])
            refine g_lload X164 hx rfl (hb hby at_76) 78 rfl ?_
            refine g_lif_ne X164 hx (hb hby at_78) 79 rfl (hb hby at_79) 86 82 (by decide) rfl rfl (fun q78 => ?_) (fun q78 => ?_)
            · exact absurd (own_dec6 _ ((own_bd _).2.2.2.2.2.1 hl)) q78
            · refine g_iconst X164 hx (1 : Int32) rfl (hb hby at_82) 83 rfl ?_
              refine g_goto X164 hx (hb hby at_83) 87 (by decide) rfl ?_
              exact g_retz X164 hx hret hlk (by decide) (by decide) (hb hby at_87) ⟨rfl, N116⟩
        · exact absurd q54 (by decide)
    · have A167 := A115
      rw [hl] at A167
      have A168 : AV Z h109 b111 .byte [(.int (by8 v103 (48 : Int32))), (.int (by8 v103 (40 : Int32))), (.int (by8 v103 (32 : Int32))), (.int (by8 v103 (24 : Int32))), (.int (by8 v103 (16 : Int32))), (.int (by8 v103 (8 : Int32))), (.int (by8 v103 (0 : Int32)))] := A167
      refine g_aload X107 hx rfl rfl (hb hby at_39) 41 rfl ?_
      refine g_arraylength X107 hx hZ e110 A168 (7 : Int32) rfl (hb hby at_41) 42 rfl ?_
      refine g_istore X107 hx #[.val (.long x0), .second, .val (.int x1), .val (.int v101), .val (.int v102), .val (.long v103), .second, .val (.ref b111), .val (.int (7 : Int32))] rfl (hb hby at_42) 44 rfl ?_
      refine g_iload X107 hx rfl (hb hby at_44) 46 rfl ?_
      refine g_iconst X107 hx (1 : Int32) rfl (hb hby at_46) 47 rfl ?_
      refine g_icmp_lt X107 hx (hb hby at_47) 57 50 (by decide) rfl rfl (fun q47 => ?_) (fun q47 => ?_)
      · exact absurd q47 (by decide)
      · refine g_iload X107 hx rfl (hb hby at_50) 52 rfl ?_
        refine g_bipush X107 hx (8 : Int32) rfl (hb hby at_52) 54 rfl ?_
        refine g_icmp_le X107 hx (hb hby at_54) 59 57 (by decide) rfl rfl (fun q54 => ?_) (fun q54 => ?_)
        · refine g_iload X107 hx rfl (hb hby at_59) 61 rfl ?_
          refine g_lload X107 hx rfl (hb hby at_61) 63 rfl ?_
          refine g_callS X107 hx hZ hown (wd hw 5 rfl) (wd hw 6 rfl) (wd hw 7 rfl) (wd hw 8 rfl) (by decide) e110 [(.long v103)] [(.int (7 : Int32))]  rfl (co2 l Z a0 hw v103  h109 ) (lenOf pd_1 rfl) 1 (Nat.le_of_eq rfl) (by decide) (by decide) (by decide) (by decide) (by rw [hml]; rfl) (hb hby at_63) 66 rfl (pu_cont fun T170 X169 e171 => ?_)
          show Go p_ e_ below _ T170 (mkF m_ 66 #[.val (.long x0), .second, .val (.int x1), .val (.int v101), .val (.int v102), .val (.long v103), .second, .val (.ref b111), .val (.int (7 : Int32))] [(.int (fx v103)), (.int (7 : Int32))])
          refine g_icmp_ne X169 hx (hb hby at_66) 86 69 (by decide) rfl rfl (fun q66 => ?_) (fun q66 => ?_)
          · exact absurd (by rw [own_exp, hl]; rfl) q66
          · refine g_aload X169 hx rfl rfl (hb hby at_69) 71 rfl ?_
            refine g_iload X169 hx rfl (hb hby at_71) 73 rfl ?_
            refine g_callS X169 hx hZ hown (wd hw 11 rfl) (wd hw 12 rfl) (wd hw 7 rfl) (wd hw 13 rfl) (by decide) e171 [(.ref b111), (.int (7 : Int32))] []  rfl (co3_7 l Z a0 hw b111 (by8 v103 (48 : Int32)) (by8 v103 (40 : Int32)) (by8 v103 (32 : Int32)) (by8 v103 (24 : Int32)) (by8 v103 (16 : Int32)) (by8 v103 (8 : Int32)) (by8 v103 (0 : Int32)) h109 A168) (lenOf pd_2 rfl) 0 (Nat.le_of_eq rfl) (by decide) (by decide) (by decide) (by decide) (by rw [hml]; rfl) (hb hby at_73) 76 rfl (pu_cont fun T173 X172 e174 => ?_)
            show Go p_ e_ below _ T173 (mkF m_ 76 #[.val (.long x0), .second, .val (.int x1), .val (.int v101), .val (.int v102), .val (.long v103), .second, .val (.ref b111), .val (.int (7 : Int32))] [(.long (fd7 (by8 v103 (48 : Int32)) (by8 v103 (40 : Int32)) (by8 v103 (32 : Int32)) (by8 v103 (24 : Int32)) (by8 v103 (16 : Int32)) (by8 v103 (8 : Int32)) (by8 v103 (0 : Int32))))])
            refine g_lload X172 hx rfl (hb hby at_76) 78 rfl ?_
            refine g_lif_ne X172 hx (hb hby at_78) 79 rfl (hb hby at_79) 86 82 (by decide) rfl rfl (fun q78 => ?_) (fun q78 => ?_)
            · exact absurd (own_dec7 _ ((own_bd _).2.2.2.2.2.2.1 hl)) q78
            · refine g_iconst X172 hx (1 : Int32) rfl (hb hby at_82) 83 rfl ?_
              refine g_goto X172 hx (hb hby at_83) 87 (by decide) rfl ?_
              exact g_retz X172 hx hret hlk (by decide) (by decide) (hb hby at_87) ⟨rfl, N116⟩
        · exact absurd q54 (by decide)
    · have A175 := A115
      rw [hl] at A175
      have A176 : AV Z h109 b111 .byte [(.int (by8 v103 (56 : Int32))), (.int (by8 v103 (48 : Int32))), (.int (by8 v103 (40 : Int32))), (.int (by8 v103 (32 : Int32))), (.int (by8 v103 (24 : Int32))), (.int (by8 v103 (16 : Int32))), (.int (by8 v103 (8 : Int32))), (.int (by8 v103 (0 : Int32)))] := A175
      refine g_aload X107 hx rfl rfl (hb hby at_39) 41 rfl ?_
      refine g_arraylength X107 hx hZ e110 A176 (8 : Int32) rfl (hb hby at_41) 42 rfl ?_
      refine g_istore X107 hx #[.val (.long x0), .second, .val (.int x1), .val (.int v101), .val (.int v102), .val (.long v103), .second, .val (.ref b111), .val (.int (8 : Int32))] rfl (hb hby at_42) 44 rfl ?_
      refine g_iload X107 hx rfl (hb hby at_44) 46 rfl ?_
      refine g_iconst X107 hx (1 : Int32) rfl (hb hby at_46) 47 rfl ?_
      refine g_icmp_lt X107 hx (hb hby at_47) 57 50 (by decide) rfl rfl (fun q47 => ?_) (fun q47 => ?_)
      · exact absurd q47 (by decide)
      · refine g_iload X107 hx rfl (hb hby at_50) 52 rfl ?_
        refine g_bipush X107 hx (8 : Int32) rfl (hb hby at_52) 54 rfl ?_
        refine g_icmp_le X107 hx (hb hby at_54) 59 57 (by decide) rfl rfl (fun q54 => ?_) (fun q54 => ?_)
        · refine g_iload X107 hx rfl (hb hby at_59) 61 rfl ?_
          refine g_lload X107 hx rfl (hb hby at_61) 63 rfl ?_
          refine g_callS X107 hx hZ hown (wd hw 5 rfl) (wd hw 6 rfl) (wd hw 7 rfl) (wd hw 8 rfl) (by decide) e110 [(.long v103)] [(.int (8 : Int32))]  rfl (co2 l Z a0 hw v103  h109 ) (lenOf pd_1 rfl) 1 (Nat.le_of_eq rfl) (by decide) (by decide) (by decide) (by decide) (by rw [hml]; rfl) (hb hby at_63) 66 rfl (pu_cont fun T178 X177 e179 => ?_)
          show Go p_ e_ below _ T178 (mkF m_ 66 #[.val (.long x0), .second, .val (.int x1), .val (.int v101), .val (.int v102), .val (.long v103), .second, .val (.ref b111), .val (.int (8 : Int32))] [(.int (fx v103)), (.int (8 : Int32))])
          refine g_icmp_ne X177 hx (hb hby at_66) 86 69 (by decide) rfl rfl (fun q66 => ?_) (fun q66 => ?_)
          · exact absurd (by rw [own_exp, hl]; rfl) q66
          · refine g_aload X177 hx rfl rfl (hb hby at_69) 71 rfl ?_
            refine g_iload X177 hx rfl (hb hby at_71) 73 rfl ?_
            refine g_callS X177 hx hZ hown (wd hw 11 rfl) (wd hw 12 rfl) (wd hw 7 rfl) (wd hw 13 rfl) (by decide) e179 [(.ref b111), (.int (8 : Int32))] []  rfl (co3_8 l Z a0 hw b111 (by8 v103 (56 : Int32)) (by8 v103 (48 : Int32)) (by8 v103 (40 : Int32)) (by8 v103 (32 : Int32)) (by8 v103 (24 : Int32)) (by8 v103 (16 : Int32)) (by8 v103 (8 : Int32)) (by8 v103 (0 : Int32)) h109 A176) (lenOf pd_2 rfl) 0 (Nat.le_of_eq rfl) (by decide) (by decide) (by decide) (by decide) (by rw [hml]; rfl) (hb hby at_73) 76 rfl (pu_cont fun T181 X180 e182 => ?_)
            show Go p_ e_ below _ T181 (mkF m_ 76 #[.val (.long x0), .second, .val (.int x1), .val (.int v101), .val (.int v102), .val (.long v103), .second, .val (.ref b111), .val (.int (8 : Int32))] [(.long (fd8 (by8 v103 (56 : Int32)) (by8 v103 (48 : Int32)) (by8 v103 (40 : Int32)) (by8 v103 (32 : Int32)) (by8 v103 (24 : Int32)) (by8 v103 (16 : Int32)) (by8 v103 (8 : Int32)) (by8 v103 (0 : Int32))))])
            refine g_lload X180 hx rfl (hb hby at_76) 78 rfl ?_
            refine g_lif_ne X180 hx (hb hby at_78) 79 rfl (hb hby at_79) 86 82 (by decide) rfl rfl (fun q78 => ?_) (fun q78 => ?_)
            · exact absurd (own_dec8 _ ((own_bd _).2.2.2.2.2.2.2 hl)) q78
            · refine g_iconst X180 hx (1 : Int32) rfl (hb hby at_82) 83 rfl ?_
              refine g_goto X180 hx (hb hby at_83) 87 (by decide) rfl ?_
              exact g_retz X180 hx hret hlk (by decide) (by decide) (hb hby at_87) ⟨rfl, N116⟩
        · exact absurd q54 (by decide)
  · exact (by cases q34)
set_option maxRecDepth 65536 in
set_option maxHeartbeats 40000000 in
theorem comes_1 {Post : Tables → Env → Array Value → State → Outcome → State → Prop} (hpost : ∀ tb e args s v u, (limb_1_1.after args s (.returned v) u = true ∧ limb_1_2.after args s (.returned v) u = true ∧ True) → FrameEnd s (.returned v) u (Jvm.fieldLocs frame_1_writes args s ++ Jvm.arrayLocs frame_1_arrays args s ++ Jvm.staticLocs frame_1_statics s) 16 128 → Post tb e args s (.returned v) u) :
    ArmFor flags0 classFile x code maxLocals ret World_1 tables_1 room_1 Calls_1 rest_1 Pre_1 Post := by
  intro l hfl _ _ p e ha hc hk s m args below hf hA hF happ hP
  obtain ⟨hcalls, hrest, hpre⟩ := hP
  obtain ⟨-, -, -, hnamed, -, -, -, hat⟩ := (Spec.applies_iff hf).mp happ
  obtain ⟨hg, hn⟩ := and_e (Cond.before_iff.mp (show (Jvm.Cond.and given_1 narrow_1).before args s = true from hpre))
  obtain ⟨h1, g0⟩ := and_e hg
  obtain ⟨w0, w1, rfl⟩ : ∃ w0 w1 : Value, args = #[w0, w1] := by
    have hs : args.size = 2 := by simpa [Cond.value, given_1] using h1
    obtain ⟨L⟩ := args
    match L, hs with
    | [w0, w1], _ => exact ⟨w0, w1, rfl⟩
  have hw := fun d (hd : d ∈ tables_1) => atoms_spec (ws := Jvm.Cond.code x code maxLocals ret :: tables_1) hat d (List.mem_cons_of_mem _ hd)
  have hfit : Fit s := fun {y c} hc i hi => by
    obtain ⟨ha, rfl⟩ := Array.getElem?_eq_some_iff.mp hc
    have q := List.all_eq_true.mp ((Array.all_eq_true_iff_forall_mem.mp hF) _ (Array.getElem_mem ha)) i (List.mem_range.mpr hi)
    simpa [Array.getElem?_eq_getElem hi] using q
  obtain ⟨hk_0, hg_1⟩ := and_e g0
  obtain ⟨x0, r0⟩ := isL_v hk_0
  obtain rfl : w0 = (.long x0) := Option.some.inj r0
  obtain ⟨x1, r1⟩ := is_v hg_1
  obtain rfl : w1 = (.int x1) := Option.some.inj r1
  obtain ⟨n, o, h1, h2, h3, _, L, rfl, ⟨rfl, N⟩, hq⟩ := rm0 l s _ hw tables_1 x0 x1 s.heap  p e ha hc hk s m _ below hf ((Spec.applies_iff_loose hf).mp happ).1 ⟨rfl, State.Warmed39.refl s, rfl⟩ trivial
  refine ⟨n, _, h1, h2, h3, hpost _ _ _ _ _ _ ⟨Cond.after_iff.mpr rfl, Cond.after_iff.mpr (eq_i res_at (Term.int_eval (1)) rfl), trivial⟩ ⟨hq.1, hq.2.1, (hq.2.2.sift fun y hy => Or.inr (N y hy)).mono (by decide) (by decide)⟩⟩
theorem main_1_1 : Claimed_1_1 := comes_1 fun _ _ _ _ _ _ h hF => ⟨h.1, hF⟩
theorem main_1_2 : Claimed_1_2 := comes_1 fun _ _ _ _ _ _ h hF => ⟨h.2.1, hF⟩
end Jvm.Pilot.@@N@@
namespace Jvm.Pilot.@@N@@
open Jvm Jvm.ClassFile Sem Op Lib Jvm.Free Jvm.Stand Jvm.Pilot.@@N@@.Jvm.D
/-! MADE BY PROGRAM (witnessworld.py) out of the Statement's table words and the real class files: 9 classes; the members and pool entries that the words name. The judged class is class 1, her method 1. -/
namespace start1
open Jvm.ClassFile
def u (s : String) : CpInfo := .utf8 (stringToUtf16 s)
/-- a pool by its gaps: so many unusable entries, then the entry; so many at the end -/
def gap : Nat → List CpInfo → List CpInfo
  | 0, r => r
  | n + 1, r => .unusable :: gap n r
def poolList (es : List (Nat × CpInfo)) (last : Nat) : List CpInfo := es.foldr (fun e r => gap e.1 (e.2 :: r)) (gap last [])
def pool (es : List (Nat × CpInfo)) (last : Nat) : Array CpInfo := ⟨poolList es last⟩
def fileOf (pool : Array CpInfo) (this : Nat) (attrs : Array Attribute := #[]) (ms : Array MethodInfo := #[]) (fl : Nat := 33) (sup : Nat := 0) (ifs : Array Nat := #[]) (fds : Array FieldInfo := #[]) : ClassFile where
  minorVersion := 0
  majorVersion := 65
  constantPool := pool
  accessFlags := fl
  thisClass := this
  superClass := sup
  interfaces := ifs
  fields := fds
  methods := ms
  attributes := attrs
def plain (name : String) (sup : Option ClassId) : Class where
  name := name
  kind := .ordinary
  loader := none
  accessFlags := 33
  super := sup
  interfaces := #[]
  cf := none
  fields := #[]
  methods := #[]
  instanceTypes := #[]
  staticTypes := #[]
  resolved := #[]
  callSites := []
  init := .initialized
  statics := none
  mirror := none

def pool0 : Array CpInfo := pool [(5, u "<init>"), (0, u "()V"), (1, .class_ 10), (1, u "java/lang/Object")] 113

def k0m0 : Method := { name := "<init>", desc := "()V", sig := { parameters := [], returnType := none }, accessFlags := 1, code := none }
/-- java/lang/Object -/
def k0 : Class := { plain "java/lang/Object" none with
  accessFlags := 33
  interfaces := #[]
  cf := some (fileOf pool0 8 #[] #[{ accessFlags := 1, nameIndex := 5, descriptorIndex := 6, attributes := #[] }] 33 0 #[] #[])
  fields := #[]
  methods := #[k0m0]
  instanceTypes := #[]
  staticTypes := #[]
  resolved := Array.replicate 124 none
  statics := none }

def pool1 : Array CpInfo := pool [(2, .class_ 4), (1, u "java/lang/Object"), (0, u "<init>"), (0, u "()V"), (0, .methodref 8 9), (0, .class_ 10), (0, .nameAndType 11 12), (0, u "com/example/bindwick/bindwick/BERWriter"), (0, u "integerValue"), (0, u "(J)[B"), (0, .methodref 14 15), (0, .class_ 16), (0, .nameAndType 17 18), (0, u "com/example/bindwick/bindwick/BERWriterIntegerValuePinLaw"), (0, u "expectedLength"), (0, u "(J)I"), (0, .methodref 14 20), (0, .nameAndType 21 22), (0, u "decode"), (0, u "([BI)J"), (0, .long 255), (1, .long 18446744073709551488), (1, .long 128), (1, .long 18446744073709518848), (1, .long 32768), (1, .long 18446744073701163008), (1, .long 8388608), (1, .long 18446744071562067968), (1, .long 2147483648), (1, .long 18446743523953737728), (1, .long 549755813888), (1, .long 18446603336221196288), (1, .long 140737488355328), (1, .long 18410715276690587648), (1, .long 36028797018963968), (3, u "law"), (0, u "(JI)Z")] 5

def k1m0 : Method := { name := "<init>", desc := "()V", sig := { parameters := [], returnType := none }, accessFlags := 2, code := none }
def k1c1 : Code := { maxStack := 4, maxLocals := 9, code := code, exceptionTable := #[], attributes := #[] }
def k1m1 : Method := { name := "law", desc := "(JI)Z", sig := { parameters := [.long, .int], returnType := some .boolean }, accessFlags := 9, code := some k1c1 }
def k1c2 : Code := { maxStack := 6, maxLocals := 4, code := method_3_code, exceptionTable := #[], attributes := #[] }
def k1m2 : Method := { name := "decode", desc := "([BI)J", sig := { parameters := [(.array .byte), .int], returnType := some .long }, accessFlags := 10, code := some k1c2 }
def k1c3 : Code := { maxStack := 4, maxLocals := 2, code := method_4_code, exceptionTable := #[], attributes := #[] }
def k1m3 : Method := { name := "expectedLength", desc := "(J)I", sig := { parameters := [.long], returnType := some .int }, accessFlags := 10, code := some k1c3 }
/-- com/example/bindwick/bindwick/BERWriterIntegerValuePinLaw -/
def k1 : Class := { plain "com/example/bindwick/bindwick/BERWriterIntegerValuePinLaw" (some 0) with
  accessFlags := 49
  interfaces := #[]
  cf := some (fileOf pool1 14 #[] #[{ accessFlags := 2, nameIndex := 5, descriptorIndex := 6, attributes := #[] }, { accessFlags := 9, nameIndex := 55, descriptorIndex := 56, attributes := #[] }, { accessFlags := 10, nameIndex := 21, descriptorIndex := 22, attributes := #[] }, { accessFlags := 10, nameIndex := 17, descriptorIndex := 18, attributes := #[] }] 49 2 #[] #[])
  fields := #[]
  methods := #[k1m0, k1m1, k1m2, k1m3]
  instanceTypes := #[]
  staticTypes := #[]
  resolved := Array.replicate 62 none
  statics := none }

def pool2 : Array CpInfo := pool [(2, .class_ 4), (1, u "java/lang/Object"), (0, u "<init>"), (0, u "()V"), (1, .class_ 10), (1, u "com/example/bindwick/bindwick/BERWriter"), (0, u "buffer"), (0, u "[B"), (6, u "length"), (0, u "I"), (16, u "integerValue"), (0, u "(J)[B")] 63

def k2m0 : Method := { name := "<init>", desc := "()V", sig := { parameters := [], returnType := none }, accessFlags := 0, code := none }
def k2c1 : Code := { maxStack := 7, maxLocals := 5, code := prog_28_method_12_code, exceptionTable := #[], attributes := #[] }
def k2m1 : Method := { name := "integerValue", desc := "(J)[B", sig := { parameters := [.long], returnType := some (.array .byte) }, accessFlags := 8, code := some k2c1 }
/-- com/example/bindwick/bindwick/BERWriter -/
def k2 : Class := { plain "com/example/bindwick/bindwick/BERWriter" (some 0) with
  accessFlags := 48
  interfaces := #[]
  cf := some (fileOf pool2 8 #[] #[{ accessFlags := 0, nameIndex := 5, descriptorIndex := 6, attributes := #[] }, { accessFlags := 8, nameIndex := 37, descriptorIndex := 38, attributes := #[] }] 48 2 #[] #[{ accessFlags := 2, nameIndex := 11, descriptorIndex := 12, attributes := #[] }, { accessFlags := 2, nameIndex := 19, descriptorIndex := 20, attributes := #[] }])
  fields := #[{ name := "buffer", type := (.array .byte), accessFlags := 2, slot := 0, constantValue := 0 }, { name := "length", type := .int, accessFlags := 2, slot := 1, constantValue := 0 }]
  methods := #[k2m0, k2m1]
  instanceTypes := #[(.array .byte), .int]
  staticTypes := #[]
  resolved := Array.replicate 102 none
  statics := none }

def pool3 : Array CpInfo := pool [(1, u "java/lang/Cloneable"), (0, .class_ 1), (0, u "java/lang/Object"), (0, .class_ 3)] 3

/-- java/lang/Cloneable -/
def k3 : Class := { plain "java/lang/Cloneable" (some 0) with
  accessFlags := 1537
  interfaces := #[]
  cf := some (fileOf pool3 2 #[] #[] 1537 4 #[] #[])
  fields := #[]
  methods := #[]
  instanceTypes := #[]
  staticTypes := #[]
  resolved := Array.replicate 8 none
  statics := none }

def pool4 : Array CpInfo := pool [(1, u "java/io/Serializable"), (0, .class_ 1), (0, u "java/lang/Object"), (0, .class_ 3)] 3

/-- java/io/Serializable -/
def k4 : Class := { plain "java/io/Serializable" (some 0) with
  accessFlags := 1537
  interfaces := #[]
  cf := some (fileOf pool4 2 #[] #[] 1537 4 #[] #[])
  fields := #[]
  methods := #[]
  instanceTypes := #[]
  staticTypes := #[]
  resolved := Array.replicate 8 none
  statics := none }

/-- the primitive byte -/
def k5 : Class := { plain "byte" none with kind := .primitive 'B', accessFlags := 0x411 }
/-- [B -/
def k6 : Class := { plain "[B" (some 0) with kind := .array 5 .byte, interfaces := #[3, 4], accessFlags := 1041 }

/-- the primitive int -/
def k7 : Class := { plain "int" none with kind := .primitive 'I', accessFlags := 0x411 }
/-- [I -/
def k8 : Class := { plain "[I" (some 0) with kind := .array 7 .int, interfaces := #[3, 4], accessFlags := 1041 }

def heap : Heap := #[]
def classes : Array Class := #[k0, k1, k2, k3, k4, k5, k6, k7, k8]
def interned : List (Array UInt16 × Addr) := []
def slotsUsed : Nat := 0
def theMethod : MethodId := ⟨1, 1⟩
def args0 : Array Value := #[.long 1, .int 2]
def aboutOver (below : List Frame) : State where
  vm := { classes := classes, interned := interned.toArray }
  heap := heap
  slotsUsed := slotsUsed
  threads := #[{ frames := .invoking theMethod args0 :: below }]
def below0 : List Frame := [.native { method := ⟨0, 0⟩, args := #[] }]
def about1 : State := aboutOver below0
def p0 : Program := .bare "" "" ""
def e0 : Env := launch0.env 0 0 0
theorem w_frames : about1.frames = Frame.invoking theMethod args0 :: below0 := rfl
set_option maxRecDepth 65536 in
theorem w_args : argsFit about1.vm theMethod args0 = true := by decide +kernel
set_option maxRecDepth 65536 in
theorem w_heap : heapFits about1 = true := by decide +kernel
set_option maxRecDepth 65536 in
theorem w_runnable : about1.curStatus? = some .runnable := by decide +kernel
set_option maxRecDepth 65536 in
theorem w_alone : about1.alone = true := by decide +kernel
set_option maxRecDepth 65536 in
theorem w_named : about1.methodNamed? x = some theMethod := by decide +kernel
set_option maxRecDepth 65536 in
theorem w_hears : about1.hears theMethod below0 = true := by decide +kernel
set_option maxRecDepth 65536 in
theorem w_ripe : about1.ripe theMethod args0 below0 = true := by decide +kernel
theorem w_running : about1.status = .running := rfl
set_option maxRecDepth 65536 in
theorem w_room : about1.hasRoom e0.platform room_1 = true :=
  launch0.hasRoom_least _ room_1 (by decide +kernel) (by decide +kernel) (by decide +kernel) (by decide +kernel) (by decide +kernel) (by decide +kernel)
theorem allAtoms_all (ts : List Jvm.Cond) (a : Array Jvm.Value) (st : Jvm.State) : (allAtoms ts).before a st = ts.all (fun c => c.before a st) := by
  induction ts with
  | nil => rfl
  | cons c t ih =>
    show (Jvm.Cond.and c (allAtoms t)).before a st = _
    rw [Jvm.Cond.before_and, ih, List.all_cons]
def words1 : List Jvm.Cond := Jvm.Cond.code x code maxLocals ret :: tables_1
/-- a 'code' word, met by the world's own term for the bytes: nothing is compared byte by byte -/
theorem code_word {y : MethodName} {bytes : ByteArray} {mx : Nat} {rt : Option FieldType} {a : Array Value} {s : State} {m : MethodId} {meth : Method} {c : Code} (h1 : s.methodNamed? y = some m) (h2 : s.vm.method? m = some meth) (h3 : meth.code = some c) (h4 : c.code = bytes)
    (h5 : (c.maxLocals == mx && c.exceptionTable.isEmpty && decide (c.maxStack ≤ mostOperands) && decide (meth.sig.returnType = rt) && !meth.locks && decide (parseMethodDescriptor y.desc = some meth.sig)) = true) : (Jvm.Cond.code y bytes mx rt).before a s = true := by
  simp only [Bool.and_eq_true, beq_iff_eq, Bool.not_eq_true', decide_eq_true_eq] at h5
  obtain ⟨⟨⟨⟨⟨g1, g2⟩, g3⟩, g4⟩, g5⟩, g6⟩ := h5
  simp [Cond.before, Cond.holds, Cond.value, h1, h2, h3, h4, g1, g2, g3, g4, g5, g6]
def isCode : Jvm.Cond → Bool
  | .code _ _ _ _ => true
  | _ => false
theorem all_split {L : List Jvm.Cond} {P : Jvm.Cond → Bool} (h1 : L.all (fun c => isCode c || P c) = true) (h2 : ∀ c ∈ L.filter isCode, P c = true) : L.all P = true := by
  refine List.all_eq_true.mpr fun c hc => ?_
  have h := List.all_eq_true.mp h1 c hc
  rcases Bool.eq_false_or_eq_true (isCode c) with hi | hi
  · exact h2 c (List.mem_filter.mpr ⟨hc, hi⟩)
  · simpa [hi] using h
set_option maxRecDepth 65536 in
theorem w_c0 : (Jvm.Cond.code x code maxLocals ret).before args0 about1 = true := code_word (m := ⟨1, 1⟩) (meth := k1m1) (c := k1c1) (by decide +kernel) rfl rfl rfl (by decide +kernel)
set_option maxRecDepth 65536 in
theorem w_c1 : (Jvm.Cond.code ({ cls := "com/example/bindwick/bindwick/BERWriter", name := "integerValue", desc := "(J)[B" } : Jvm.MethodName) prog_28_method_12_code (5 : Nat) (Option.some (Jvm.ClassFile.FieldType.array Jvm.ClassFile.FieldType.byte))).before args0 about1 = true := code_word (m := ⟨2, 1⟩) (meth := k2m1) (c := k2c1) (by decide +kernel) rfl rfl rfl (by decide +kernel)
set_option maxRecDepth 65536 in
theorem w_c2 : (Jvm.Cond.code ({ cls := "com/example/bindwick/bindwick/BERWriterIntegerValuePinLaw", name := "expectedLength", desc := "(J)I" } : Jvm.MethodName) method_4_code (2 : Nat) (Option.some Jvm.ClassFile.FieldType.int)).before args0 about1 = true := code_word (m := ⟨1, 3⟩) (meth := k1m3) (c := k1c3) (by decide +kernel) rfl rfl rfl (by decide +kernel)
set_option maxRecDepth 65536 in
theorem w_c3 : (Jvm.Cond.code ({ cls := "com/example/bindwick/bindwick/BERWriterIntegerValuePinLaw", name := "decode", desc := "([BI)J" } : Jvm.MethodName) method_3_code (4 : Nat) (Option.some Jvm.ClassFile.FieldType.long)).before args0 about1 = true := code_word (m := ⟨1, 2⟩) (meth := k1m2) (c := k1c2) (by decide +kernel) rfl rfl rfl (by decide +kernel)
def codes1 : List Jvm.Cond := [Jvm.Cond.code x code maxLocals ret, Jvm.Cond.code ({ cls := "com/example/bindwick/bindwick/BERWriter", name := "integerValue", desc := "(J)[B" } : Jvm.MethodName) prog_28_method_12_code (5 : Nat) (Option.some (Jvm.ClassFile.FieldType.array Jvm.ClassFile.FieldType.byte)), Jvm.Cond.code ({ cls := "com/example/bindwick/bindwick/BERWriterIntegerValuePinLaw", name := "expectedLength", desc := "(J)I" } : Jvm.MethodName) method_4_code (2 : Nat) (Option.some Jvm.ClassFile.FieldType.int), Jvm.Cond.code ({ cls := "com/example/bindwick/bindwick/BERWriterIntegerValuePinLaw", name := "decode", desc := "([BI)J" } : Jvm.MethodName) method_3_code (4 : Nat) (Option.some Jvm.ClassFile.FieldType.long)]
set_option maxRecDepth 65536 in
theorem codes_eq : words1.filter isCode = codes1 := rfl
theorem w_codes : ∀ c ∈ words1.filter isCode, c.before args0 about1 = true := by
  rw [codes_eq]
  intro c hc
  simp only [codes1, List.mem_cons, List.not_mem_nil, or_false] at hc
  rcases hc with rfl | rfl | rfl | rfl
  · exact w_c0
  · exact w_c1
  · exact w_c2
  · exact w_c3
set_option maxRecDepth 65536 in
theorem w_t1 : (words1.take 24).all (fun c => isCode c || c.before args0 about1) = true := by decide +kernel
set_option maxRecDepth 65536 in
theorem w_t2 : (words1.drop 24).all (fun c => isCode c || c.before args0 about1) = true := by decide +kernel
theorem w_tables : (allAtoms (Jvm.Cond.code x code maxLocals ret :: tables_1)).before args0 about1 = true := by
  rw [allAtoms_all]
  show words1.all (fun c => c.before args0 about1) = true
  refine all_split ?_ w_codes
  rw [← List.take_append_drop 24 words1, List.all_append, w_t1, w_t2]
  rfl
set_option maxRecDepth 65536 in
theorem w_case : (Jvm.Cond.and given_1 narrow_1).before args0 about1 = true := by decide +kernel
theorem w_applies : (headSpec (Jvm.Cond.code x code maxLocals ret :: tables_1) room_1).applies x e0.platform about1 = true :=
  (Spec.applies_iff w_frames).mpr ⟨w_running, w_runnable, w_alone, w_named, w_hears, w_ripe, w_room, w_tables⟩
theorem atStart : AtStart classFile x code maxLocals ret World_1 tables_1 room_1 Calls_1 rest_1 Pre_1 launch0 p0 e0 about1 theMethod args0 below0 :=
  ⟨lists_1, trivial, launch0.admits_env _ _ _, launch0.least_env, fairChoices_fair.cas, fairChoices_fair.clock, w_frames, w_args, w_heap, w_applies, trivial, trivial, w_case⟩
end start1
theorem witness_1 : WitnessClaimed_1 := ⟨start1.p0, start1.e0, start1.about1, start1.theMethod, start1.args0, start1.below0, start1.atStart⟩
end Jvm.Pilot.@@N@@
