import JvmDerived
import JvmDerived.Pilot.@@N@@Statement
import JvmDerived.Pilot.@@N@@Code
set_option linter.unusedVariables false
set_option linter.unusedSimpArgs false
namespace Jvm.Pilot.@@N@@
open Jvm Jvm.ClassFile Sem Op Lib Jvm.Free Jvm.Stand Jvm.LawKit Jvm.RoadKit Bundle Jvm.Pilot.@@N@@.Jvm.D
/-! ## the shared layer: own_Go and its laws -/
def Go (p : Program) (e : Env) (below : List Frame) (P : State → Outcome → Prop) (T : State) (g : JFrame) : Prop := ∃ t o, Steps p.tables e below (T.setTop g) t ∧ t.status = .running ∧ Ended t below o ∧ P t o
def RP (s : State) (k n : Nat) (Q : Option Value → Heap → List Loc → Prop) (t : State) (o : Outcome) : Prop := ∃ v L, o = .returned v ∧ Q v t.heap L ∧ FrameEnd s o t L k n
theorem wd {a0 : Array Value} {Z : State} (hw : ∀ d ∈ tables_1, d.before a0 Z = true) (k : Nat) {d : Jvm.Cond} (h : tables_1[k]? = some d) : d.before a0 Z = true := hw _ (List.mem_of_getElem? h)
section OwnGo
variable {p : Program} {l : Launch} {e : Env} {R : Room} {s : State} {m : MethodId} {args : Array Value} {below : List Frame} {meth : Method} {c : Code} {T : State} {locs : List Loc} {cells slots : Nat} {P : State → Outcome → Prop} {pc : Nat} {Ls : Array Slot} {st : List Value} {Z : State} {a0 : Array Value} {h : Heap}
theorem Go.stp {T' : State} {g g' : JFrame} (G : Go p e below P T' g') (k : ∀ t, Steps p.tables e below (T'.setTop g') t → Steps p.tables e below (T.setTop g) t) : Go p e below P T g := by
  obtain ⟨t, o, h, r⟩ := G
  exact ⟨t, o, k t h, r⟩
theorem Go.cast {g g' : JFrame} (q : g = g') (G : Go p e below P T g') : Go p e below P T g := q ▸ G
theorem g_iload (X : Stand p l e R s m args below meth c T locs cells slots) (hx : p.tables.exec = Jvm.exec) {k : Nat} {v : Int32} (hl : Ls[k]? = some (.val (.int v))) (hd : decode c.code pc = .ok (.iload k, 2)) (pc' : Nat) (hp : pc + 2 = pc') (G : Go p e below P T (mkF m pc' Ls (.int v :: st))) : Go p e below P T (mkF m pc Ls st) := by
  subst hp
  exact G.stp fun _ h => XS.iload X.here hx rfl hd hl h
theorem g_iloadN (X : Stand p l e R s m args below meth c T locs cells slots) (hx : p.tables.exec = Jvm.exec) {k : Fin 4} {v : Int32} (hl : Ls[k.val]? = some (.val (.int v))) (hd : decode c.code pc = .ok (.iload_n k, 1)) (pc' : Nat) (hp : pc + 1 = pc') (G : Go p e below P T (mkF m pc' Ls (.int v :: st))) : Go p e below P T (mkF m pc Ls st) := by
  subst hp
  exact G.stp fun _ h => XS.iloadN X.here hx rfl hd hl h
theorem g_istore (X : Stand p l e R s m args below meth c T locs cells slots) (hx : p.tables.exec = Jvm.exec) {k : Nat} {v : Int32} (l' : Array Slot) (hl : storeLocals Ls k (.int v) = some l') (hd : decode c.code pc = .ok (.istore k, 2)) (pc' : Nat) (hp : pc + 2 = pc') (G : Go p e below P T (mkF m pc' l' st)) : Go p e below P T (mkF m pc Ls (.int v :: st)) := by
  subst hp
  exact G.stp fun _ h => XS.istore X.here hx rfl hd rfl hl h
theorem g_istoreN (X : Stand p l e R s m args below meth c T locs cells slots) (hx : p.tables.exec = Jvm.exec) {k : Fin 4} {v : Int32} (l' : Array Slot) (hl : storeLocals Ls k.val (.int v) = some l') (hd : decode c.code pc = .ok (.istore_n k, 1)) (pc' : Nat) (hp : pc + 1 = pc') (G : Go p e below P T (mkF m pc' l' st)) : Go p e below P T (mkF m pc Ls (.int v :: st)) := by
  subst hp
  exact G.stp fun _ h => XS.istoreN X.here hx rfl hd rfl hl h
theorem g_lload (X : Stand p l e R s m args below meth c T locs cells slots) (hx : p.tables.exec = Jvm.exec) {k : Nat} {v : Int64} (hl : Ls[k]? = some (.val (.long v))) (hd : decode c.code pc = .ok (.lload k, 2)) (pc' : Nat) (hp : pc + 2 = pc') (G : Go p e below P T (mkF m pc' Ls (.long v :: st))) : Go p e below P T (mkF m pc Ls st) := by
  subst hp
  exact G.stp fun _ h => XT.lload X.here hx rfl hd hl h
theorem g_lloadN (X : Stand p l e R s m args below meth c T locs cells slots) (hx : p.tables.exec = Jvm.exec) {k : Fin 4} {v : Int64} (hl : Ls[k.val]? = some (.val (.long v))) (hd : decode c.code pc = .ok (.lload_n k, 1)) (pc' : Nat) (hp : pc + 1 = pc') (G : Go p e below P T (mkF m pc' Ls (.long v :: st))) : Go p e below P T (mkF m pc Ls st) := by
  subst hp
  exact G.stp fun _ h => XT.lloadN X.here hx rfl hd hl h
theorem g_lstore (X : Stand p l e R s m args below meth c T locs cells slots) (hx : p.tables.exec = Jvm.exec) {k : Nat} {v : Int64} (l' : Array Slot) (hl : storeLocals Ls k (.long v) = some l') (hd : decode c.code pc = .ok (.lstore k, 2)) (pc' : Nat) (hp : pc + 2 = pc') (G : Go p e below P T (mkF m pc' l' st)) : Go p e below P T (mkF m pc Ls (.long v :: st)) := by
  subst hp
  exact G.stp fun _ h => XT.lstore X.here hx rfl hd rfl hl h
theorem g_lstoreN (X : Stand p l e R s m args below meth c T locs cells slots) (hx : p.tables.exec = Jvm.exec) {k : Fin 4} {v : Int64} (l' : Array Slot) (hl : storeLocals Ls k.val (.long v) = some l') (hd : decode c.code pc = .ok (.lstore_n k, 1)) (pc' : Nat) (hp : pc + 1 = pc') (G : Go p e below P T (mkF m pc' l' st)) : Go p e below P T (mkF m pc Ls (.long v :: st)) := by
  subst hp
  exact G.stp fun _ h => XT.lstoreN X.here hx rfl hd rfl hl h
theorem g_aload (X : Stand p l e R s m args below meth c T locs cells slots) (hx : p.tables.exec = Jvm.exec) {k : Nat} {v : Value} (hl : Ls[k]? = some (.val v)) (hv : v.isRef = true) (hd : decode c.code pc = .ok (.aload k, 2)) (pc' : Nat) (hp : pc + 2 = pc') (G : Go p e below P T (mkF m pc' Ls (v :: st))) : Go p e below P T (mkF m pc Ls st) := by
  subst hp
  exact G.stp fun _ h => XS.aload X.here hx rfl hd hl hv h
theorem g_aloadN (X : Stand p l e R s m args below meth c T locs cells slots) (hx : p.tables.exec = Jvm.exec) {k : Fin 4} {v : Value} (hl : Ls[k.val]? = some (.val v)) (hv : v.isRef = true) (hd : decode c.code pc = .ok (.aload_n k, 1)) (pc' : Nat) (hp : pc + 1 = pc') (G : Go p e below P T (mkF m pc' Ls (v :: st))) : Go p e below P T (mkF m pc Ls st) := by
  subst hp
  exact G.stp fun _ h => XS.aloadN X.here hx rfl hd hl hv h
theorem g_astore (X : Stand p l e R s m args below meth c T locs cells slots) (hx : p.tables.exec = Jvm.exec) {k : Nat} {v : Value} (l' : Array Slot) (hv : v.isRef = true) (hl : storeLocals Ls k v = some l') (hd : decode c.code pc = .ok (.astore k, 2)) (pc' : Nat) (hp : pc + 2 = pc') (G : Go p e below P T (mkF m pc' l' st)) : Go p e below P T (mkF m pc Ls (v :: st)) := by
  subst hp
  exact G.stp fun _ h => XS.astore X.here hx rfl hd rfl hv hl h
theorem g_astoreN (X : Stand p l e R s m args below meth c T locs cells slots) (hx : p.tables.exec = Jvm.exec) {k : Fin 4} {v : Value} (l' : Array Slot) (hv : v.isRef = true) (hl : storeLocals Ls k.val v = some l') (hd : decode c.code pc = .ok (.astore_n k, 1)) (pc' : Nat) (hp : pc + 1 = pc') (G : Go p e below P T (mkF m pc' l' st)) : Go p e below P T (mkF m pc Ls (v :: st)) := by
  subst hp
  exact G.stp fun _ h => XS.astoreN X.here hx rfl hd rfl hv hl h
theorem g_iconst (X : Stand p l e R s m args below meth c T locs cells slots) (hx : p.tables.exec = Jvm.exec) {i : Int} (v : Int32) (hv : Int32.ofInt i = v) (hd : decode c.code pc = .ok (.iconst i, 1)) (pc' : Nat) (hp : pc + 1 = pc') (G : Go p e below P T (mkF m pc' Ls (.int v :: st))) : Go p e below P T (mkF m pc Ls st) := by
  subst hp
  exact G.stp fun _ h => XT.iconstV X.here hx rfl v hd hv h
theorem g_bipush (X : Stand p l e R s m args below meth c T locs cells slots) (hx : p.tables.exec = Jvm.exec) {i : Int} (v : Int32) (hv : (Int8.ofInt i).toInt32 = v) (hd : decode c.code pc = .ok (.bipush i, 2)) (pc' : Nat) (hp : pc + 2 = pc') (G : Go p e below P T (mkF m pc' Ls (.int v :: st))) : Go p e below P T (mkF m pc Ls st) := by
  subst hp
  exact G.stp fun _ h => XT.bipushV X.here hx rfl v hd hv h
theorem g_sipush (X : Stand p l e R s m args below meth c T locs cells slots) (hx : p.tables.exec = Jvm.exec) {i : Int} (v : Int32) (hv : (Int16.ofInt i).toInt32 = v) (hd : decode c.code pc = .ok (.sipush i, 3)) (pc' : Nat) (hp : pc + 3 = pc') (G : Go p e below P T (mkF m pc' Ls (.int v :: st))) : Go p e below P T (mkF m pc Ls st) := by
  subst hp
  exact G.stp fun _ h => XT.sipushV X.here hx rfl v hd hv h
theorem g_lconst (X : Stand p l e R s m args below meth c T locs cells slots) (hx : p.tables.exec = Jvm.exec) {i : Fin 2} (v : Int64) (hv : Int64.ofNat i = v) (hd : decode c.code pc = .ok (.lconst i, 1)) (pc' : Nat) (hp : pc + 1 = pc') (G : Go p e below P T (mkF m pc' Ls (.long v :: st))) : Go p e below P T (mkF m pc Ls st) := by
  subst hp
  exact G.stp fun _ h => XT.lconstV X.here hx rfl v hd hv h
theorem g_aconst_null (X : Stand p l e R s m args below meth c T locs cells slots) (hx : p.tables.exec = Jvm.exec)  (hd : decode c.code pc = .ok (.aconst_null, 1)) (pc' : Nat) (hp : pc + 1 = pc') (G : Go p e below P T (mkF m pc' Ls (.null :: st))) : Go p e below P T (mkF m pc Ls st) := by
  subst hp
  exact G.stp fun _ h => XS.aconstNull X.here hx rfl hd h
theorem g_iadd (X : Stand p l e R s m args below meth c T locs cells slots) (hx : p.tables.exec = Jvm.exec) {x y : Int32} (hd : decode c.code pc = .ok (.iadd, 1)) (pc' : Nat) (hp : pc + 1 = pc') (G : Go p e below P T (mkF m pc' Ls (.int (x + y) :: st))) : Go p e below P T (mkF m pc Ls (.int y :: .int x :: st)) := by
  subst hp
  exact G.stp fun _ h => XS.iadd X.here hx rfl hd rfl h
theorem g_ladd (X : Stand p l e R s m args below meth c T locs cells slots) (hx : p.tables.exec = Jvm.exec) {x y : Int64} (hd : decode c.code pc = .ok (.ladd, 1)) (pc' : Nat) (hp : pc + 1 = pc') (G : Go p e below P T (mkF m pc' Ls (.long (x + y) :: st))) : Go p e below P T (mkF m pc Ls (.long y :: .long x :: st)) := by
  subst hp
  exact G.stp fun _ h => XT.ladd X.here hx rfl hd rfl h
theorem g_isub (X : Stand p l e R s m args below meth c T locs cells slots) (hx : p.tables.exec = Jvm.exec) {x y : Int32} (hd : decode c.code pc = .ok (.isub, 1)) (pc' : Nat) (hp : pc + 1 = pc') (G : Go p e below P T (mkF m pc' Ls (.int (x - y) :: st))) : Go p e below P T (mkF m pc Ls (.int y :: .int x :: st)) := by
  subst hp
  exact G.stp fun _ h => XS.isub X.here hx rfl hd rfl h
theorem g_lsub (X : Stand p l e R s m args below meth c T locs cells slots) (hx : p.tables.exec = Jvm.exec) {x y : Int64} (hd : decode c.code pc = .ok (.lsub, 1)) (pc' : Nat) (hp : pc + 1 = pc') (G : Go p e below P T (mkF m pc' Ls (.long (x - y) :: st))) : Go p e below P T (mkF m pc Ls (.long y :: .long x :: st)) := by
  subst hp
  exact G.stp fun _ h => XT.lsub X.here hx rfl hd rfl h
theorem g_imul (X : Stand p l e R s m args below meth c T locs cells slots) (hx : p.tables.exec = Jvm.exec) {x y : Int32} (hd : decode c.code pc = .ok (.imul, 1)) (pc' : Nat) (hp : pc + 1 = pc') (G : Go p e below P T (mkF m pc' Ls (.int (x * y) :: st))) : Go p e below P T (mkF m pc Ls (.int y :: .int x :: st)) := by
  subst hp
  exact G.stp fun _ h => XS.imul X.here hx rfl hd rfl h
theorem g_lmul (X : Stand p l e R s m args below meth c T locs cells slots) (hx : p.tables.exec = Jvm.exec) {x y : Int64} (hd : decode c.code pc = .ok (.lmul, 1)) (pc' : Nat) (hp : pc + 1 = pc') (G : Go p e below P T (mkF m pc' Ls (.long (x * y) :: st))) : Go p e below P T (mkF m pc Ls (.long y :: .long x :: st)) := by
  subst hp
  exact G.stp fun _ h => XT.lmul X.here hx rfl hd rfl h
theorem g_iand (X : Stand p l e R s m args below meth c T locs cells slots) (hx : p.tables.exec = Jvm.exec) {x y : Int32} (hd : decode c.code pc = .ok (.iand, 1)) (pc' : Nat) (hp : pc + 1 = pc') (G : Go p e below P T (mkF m pc' Ls (.int (x &&& y) :: st))) : Go p e below P T (mkF m pc Ls (.int y :: .int x :: st)) := by
  subst hp
  exact G.stp fun _ h => XS.iand X.here hx rfl hd rfl h
theorem g_land (X : Stand p l e R s m args below meth c T locs cells slots) (hx : p.tables.exec = Jvm.exec) {x y : Int64} (hd : decode c.code pc = .ok (.land, 1)) (pc' : Nat) (hp : pc + 1 = pc') (G : Go p e below P T (mkF m pc' Ls (.long (x &&& y) :: st))) : Go p e below P T (mkF m pc Ls (.long y :: .long x :: st)) := by
  subst hp
  exact G.stp fun _ h => XT.land X.here hx rfl hd rfl h
theorem g_ior (X : Stand p l e R s m args below meth c T locs cells slots) (hx : p.tables.exec = Jvm.exec) {x y : Int32} (hd : decode c.code pc = .ok (.ior, 1)) (pc' : Nat) (hp : pc + 1 = pc') (G : Go p e below P T (mkF m pc' Ls (.int (x ||| y) :: st))) : Go p e below P T (mkF m pc Ls (.int y :: .int x :: st)) := by
  subst hp
  exact G.stp fun _ h => XT.ior X.here hx rfl hd rfl h
theorem g_lor (X : Stand p l e R s m args below meth c T locs cells slots) (hx : p.tables.exec = Jvm.exec) {x y : Int64} (hd : decode c.code pc = .ok (.lor, 1)) (pc' : Nat) (hp : pc + 1 = pc') (G : Go p e below P T (mkF m pc' Ls (.long (x ||| y) :: st))) : Go p e below P T (mkF m pc Ls (.long y :: .long x :: st)) := by
  subst hp
  exact G.stp fun _ h => XT.lor X.here hx rfl hd rfl h
theorem g_ixor (X : Stand p l e R s m args below meth c T locs cells slots) (hx : p.tables.exec = Jvm.exec) {x y : Int32} (hd : decode c.code pc = .ok (.ixor, 1)) (pc' : Nat) (hp : pc + 1 = pc') (G : Go p e below P T (mkF m pc' Ls (.int (x ^^^ y) :: st))) : Go p e below P T (mkF m pc Ls (.int y :: .int x :: st)) := by
  subst hp
  exact G.stp fun _ h => XT.ixor X.here hx rfl hd rfl h
theorem g_lxor (X : Stand p l e R s m args below meth c T locs cells slots) (hx : p.tables.exec = Jvm.exec) {x y : Int64} (hd : decode c.code pc = .ok (.lxor, 1)) (pc' : Nat) (hp : pc + 1 = pc') (G : Go p e below P T (mkF m pc' Ls (.long (x ^^^ y) :: st))) : Go p e below P T (mkF m pc Ls (.long y :: .long x :: st)) := by
  subst hp
  exact G.stp fun _ h => XT.lxor X.here hx rfl hd rfl h
theorem g_idiv (X : Stand p l e R s m args below meth c T locs cells slots) (hx : p.tables.exec = Jvm.exec) {x y : Int32} (hy : y ≠ 0) (hd : decode c.code pc = .ok (.idiv, 1)) (pc' : Nat) (hp : pc + 1 = pc') (G : Go p e below P T (mkF m pc' Ls (.int (x / y) :: st))) : Go p e below P T (mkF m pc Ls (.int y :: .int x :: st)) := by
  subst hp
  exact G.stp fun _ h => XS.idiv X.here hx rfl hd rfl hy h
theorem g_irem (X : Stand p l e R s m args below meth c T locs cells slots) (hx : p.tables.exec = Jvm.exec) {x y : Int32} (hy : y ≠ 0) (hd : decode c.code pc = .ok (.irem, 1)) (pc' : Nat) (hp : pc + 1 = pc') (G : Go p e below P T (mkF m pc' Ls (.int (x % y) :: st))) : Go p e below P T (mkF m pc Ls (.int y :: .int x :: st)) := by
  subst hp
  exact G.stp fun _ h => iremM X hx rfl hd rfl hy h
theorem g_ldiv (X : Stand p l e R s m args below meth c T locs cells slots) (hx : p.tables.exec = Jvm.exec) {x y : Int64} (hy : y ≠ 0) (hd : decode c.code pc = .ok (.ldiv, 1)) (pc' : Nat) (hp : pc + 1 = pc') (G : Go p e below P T (mkF m pc' Ls (.long (x / y) :: st))) : Go p e below P T (mkF m pc Ls (.long y :: .long x :: st)) := by
  subst hp
  exact G.stp fun _ h => XT.ldiv X.here hx rfl hd rfl hy h
theorem g_lrem (X : Stand p l e R s m args below meth c T locs cells slots) (hx : p.tables.exec = Jvm.exec) {x y : Int64} (hy : y ≠ 0) (hd : decode c.code pc = .ok (.lrem, 1)) (pc' : Nat) (hp : pc + 1 = pc') (G : Go p e below P T (mkF m pc' Ls (.long (x % y) :: st))) : Go p e below P T (mkF m pc Ls (.long y :: .long x :: st)) := by
  subst hp
  rw [← lrem_mod] at G
  exact G.stp fun _ h => XT.lrem X.here hx rfl hd rfl hy h
theorem g_ishl (X : Stand p l e R s m args below meth c T locs cells slots) (hx : p.tables.exec = Jvm.exec) {x y : Int32} (hd : decode c.code pc = .ok (.ishl, 1)) (pc' : Nat) (hp : pc + 1 = pc') (G : Go p e below P T (mkF m pc' Ls (.int (x <<< (y &&& 31)) :: st))) : Go p e below P T (mkF m pc Ls (.int y :: .int x :: st)) := by
  subst hp
  exact G.stp fun _ h => XT.ishl X.here hx rfl hd rfl h
theorem g_ishr (X : Stand p l e R s m args below meth c T locs cells slots) (hx : p.tables.exec = Jvm.exec) {x y : Int32} (hd : decode c.code pc = .ok (.ishr, 1)) (pc' : Nat) (hp : pc + 1 = pc') (G : Go p e below P T (mkF m pc' Ls (.int (x >>> (y &&& 31)) :: st))) : Go p e below P T (mkF m pc Ls (.int y :: .int x :: st)) := by
  subst hp
  exact G.stp fun _ h => XT.ishr X.here hx rfl hd rfl h
theorem g_iushr (X : Stand p l e R s m args below meth c T locs cells slots) (hx : p.tables.exec = Jvm.exec) {x y : Int32} (hd : decode c.code pc = .ok (.iushr, 1)) (pc' : Nat) (hp : pc + 1 = pc') (G : Go p e below P T (mkF m pc' Ls (.int (XT.ushr x y) :: st))) : Go p e below P T (mkF m pc Ls (.int y :: .int x :: st)) := by
  subst hp
  exact G.stp fun _ h => XT.iushr X.here hx rfl hd rfl h
theorem g_lshl (X : Stand p l e R s m args below meth c T locs cells slots) (hx : p.tables.exec = Jvm.exec) {x : Int64} {y : Int32} (hd : decode c.code pc = .ok (.lshl, 1)) (pc' : Nat) (hp : pc + 1 = pc') (G : Go p e below P T (mkF m pc' Ls (.long (x <<< (y &&& 0x3f).toInt64) :: st))) : Go p e below P T (mkF m pc Ls (.int y :: .long x :: st)) := by
  subst hp
  exact G.stp fun _ h => XS.lshl X.here hx rfl hd rfl h
theorem g_lshr (X : Stand p l e R s m args below meth c T locs cells slots) (hx : p.tables.exec = Jvm.exec) {x : Int64} {y : Int32} (hd : decode c.code pc = .ok (.lshr, 1)) (pc' : Nat) (hp : pc + 1 = pc') (G : Go p e below P T (mkF m pc' Ls (.long (x >>> (y &&& 0x3f).toInt64) :: st))) : Go p e below P T (mkF m pc Ls (.int y :: .long x :: st)) := by
  subst hp
  exact G.stp fun _ h => XS.lshr X.here hx rfl hd rfl h
theorem g_lushr (X : Stand p l e R s m args below meth c T locs cells slots) (hx : p.tables.exec = Jvm.exec) {x : Int64} {y : Int32} (hd : decode c.code pc = .ok (.lushr, 1)) (pc' : Nat) (hp : pc + 1 = pc') (G : Go p e below P T (mkF m pc' Ls (.long (XT.ushrL x y) :: st))) : Go p e below P T (mkF m pc Ls (.int y :: .long x :: st)) := by
  subst hp
  exact G.stp fun _ h => XT.lushr X.here hx rfl hd rfl h
theorem g_ineg (X : Stand p l e R s m args below meth c T locs cells slots) (hx : p.tables.exec = Jvm.exec) {x : Int32} (hd : decode c.code pc = .ok (.ineg, 1)) (pc' : Nat) (hp : pc + 1 = pc') (G : Go p e below P T (mkF m pc' Ls (.int (-x) :: st))) : Go p e below P T (mkF m pc Ls (.int x :: st)) := by
  subst hp
  exact G.stp fun _ h => XS.ineg X.here hx rfl hd rfl h
theorem g_i2l (X : Stand p l e R s m args below meth c T locs cells slots) (hx : p.tables.exec = Jvm.exec) {x : Int32} (hd : decode c.code pc = .ok (.i2l, 1)) (pc' : Nat) (hp : pc + 1 = pc') (G : Go p e below P T (mkF m pc' Ls (.long x.toInt64 :: st))) : Go p e below P T (mkF m pc Ls (.int x :: st)) := by
  subst hp
  exact G.stp fun _ h => XT.i2l X.here hx rfl hd rfl h
theorem g_l2i (X : Stand p l e R s m args below meth c T locs cells slots) (hx : p.tables.exec = Jvm.exec) {x : Int64} (hd : decode c.code pc = .ok (.l2i, 1)) (pc' : Nat) (hp : pc + 1 = pc') (G : Go p e below P T (mkF m pc' Ls (.int x.toInt32 :: st))) : Go p e below P T (mkF m pc Ls (.long x :: st)) := by
  subst hp
  exact G.stp fun _ h => XT.l2i X.here hx rfl hd rfl h
theorem g_i2b (X : Stand p l e R s m args below meth c T locs cells slots) (hx : p.tables.exec = Jvm.exec) {x : Int32} (hd : decode c.code pc = .ok (.i2b, 1)) (pc' : Nat) (hp : pc + 1 = pc') (G : Go p e below P T (mkF m pc' Ls (.int x.toInt8.toInt32 :: st))) : Go p e below P T (mkF m pc Ls (.int x :: st)) := by
  subst hp
  exact G.stp fun _ h => XT.i2b X.here hx rfl hd rfl h
theorem g_i2s (X : Stand p l e R s m args below meth c T locs cells slots) (hx : p.tables.exec = Jvm.exec) {x : Int32} (hd : decode c.code pc = .ok (.i2s, 1)) (pc' : Nat) (hp : pc + 1 = pc') (G : Go p e below P T (mkF m pc' Ls (.int x.toInt16.toInt32 :: st))) : Go p e below P T (mkF m pc Ls (.int x :: st)) := by
  subst hp
  exact G.stp fun _ h => XT.i2s X.here hx rfl hd rfl h
theorem g_i2c (X : Stand p l e R s m args below meth c T locs cells slots) (hx : p.tables.exec = Jvm.exec) {x : Int32} (hd : decode c.code pc = .ok (.i2c, 1)) (pc' : Nat) (hp : pc + 1 = pc') (G : Go p e below P T (mkF m pc' Ls (.int x.toUInt32.toUInt16.toUInt32.toInt32 :: st))) : Go p e below P T (mkF m pc Ls (.int x :: st)) := by
  subst hp
  exact G.stp fun _ h => XT.i2c X.here hx rfl hd rfl h
theorem g_pop (X : Stand p l e R s m args below meth c T locs cells slots) (hx : p.tables.exec = Jvm.exec) {x : Value} (hc : x.category = 1) (hd : decode c.code pc = .ok (.pop, 1)) (pc' : Nat) (hp : pc + 1 = pc') (G : Go p e below P T (mkF m pc' Ls st)) : Go p e below P T (mkF m pc Ls (x :: st)) := by
  subst hp
  exact G.stp fun _ h => XT.pop X.here hx rfl hd rfl hc h
theorem g_dup (X : Stand p l e R s m args below meth c T locs cells slots) (hx : p.tables.exec = Jvm.exec) {x : Value} (hc : x.category = 1) (hd : decode c.code pc = .ok (.dup, 1)) (pc' : Nat) (hp : pc + 1 = pc') (G : Go p e below P T (mkF m pc' Ls (x :: x :: st))) : Go p e below P T (mkF m pc Ls (x :: st)) := by
  subst hp
  exact G.stp fun _ h => XS.dup X.here hx rfl hd rfl hc h
theorem g_dup_x1 (X : Stand p l e R s m args below meth c T locs cells slots) (hx : p.tables.exec = Jvm.exec) {x y : Value} (hc : x.category = 1) (hc' : y.category = 1) (hd : decode c.code pc = .ok (.dup_x1, 1)) (pc' : Nat) (hp : pc + 1 = pc') (G : Go p e below P T (mkF m pc' Ls (x :: y :: x :: st))) : Go p e below P T (mkF m pc Ls (x :: y :: st)) := by
  subst hp
  exact G.stp fun _ h => XT.dupX1 X.here hx rfl hd rfl hc hc' h
theorem g_dup2 (X : Stand p l e R s m args below meth c T locs cells slots) (hx : p.tables.exec = Jvm.exec) {x y : Value} (hc : x.category = 1) (hc' : y.category = 1) (hd : decode c.code pc = .ok (.dup2, 1)) (pc' : Nat) (hp : pc + 1 = pc') (G : Go p e below P T (mkF m pc' Ls (x :: y :: x :: y :: st))) : Go p e below P T (mkF m pc Ls (x :: y :: st)) := by
  subst hp
  exact G.stp fun _ h => XT.dup2 X.here hx rfl hd rfl hc hc' h
theorem g_iinc (X : Stand p l e R s m args below meth c T locs cells slots) (hx : p.tables.exec = Jvm.exec) {k : Nat} {cst : Int} {x : Int32} (v : Int32) (hv : Int32.ofInt cst = v) (hl : Ls[k]? = some (.val (.int x))) (l' : Array Slot) (hl' : storeLocals Ls k (.int (x + v)) = some l') (hd : decode c.code pc = .ok (.iinc k cst, 3)) (pc' : Nat) (hp : pc + 3 = pc') (G : Go p e below P T (mkF m pc' l' st)) : Go p e below P T (mkF m pc Ls st) := by
  subst hp
  exact G.stp fun _ h => XT.iincV X.here hx rfl v hd hv hl hl' h
theorem g_goto (X : Stand p l e R s m args below meth c T locs cells slots) (hx : p.tables.exec = Jvm.exec) {o : Int} (hd : decode c.code pc = .ok (.goto o, 3)) (pc' : Nat) (ho : 0 ≤ (pc : Int) + o) (hp : ((pc : Int) + o).toNat = pc') (G : Go p e below P T (mkF m pc' Ls st)) : Go p e below P T (mkF m pc Ls st) := by
  exact G.stp fun _ h => XS.goto X.here hx rfl rfl hd ho hp h
theorem g_icmp_eq (X : Stand p l e R s m args below meth c T locs cells slots) (hx : p.tables.exec = Jvm.exec) {x y : Int32} {o : Int} (hd : decode c.code pc = .ok (.if_icmp .eq o, 3)) (pcT pcF : Nat) (ho : 0 ≤ (pc : Int) + o) (hT : ((pc : Int) + o).toNat = pcT) (hF : pc + 3 = pcF) (G1 : x = y → Go p e below P T (mkF m pcT Ls st)) (G2 : ¬ x = y → Go p e below P T (mkF m pcF Ls st)) : Go p e below P T (mkF m pc Ls (.int y :: .int x :: st)) := by
  by_cases q : x = y
  · exact (G1 q).stp fun _ h => XS.icmpYes X.here hx rfl rfl hd rfl (XT.ii_eq_t q) ho hT h
  · subst hF
    exact (G2 q).stp fun _ h => XS.icmpNo X.here hx rfl hd rfl (XT.ii_eq_f q) h
theorem g_if_eq (X : Stand p l e R s m args below meth c T locs cells slots) (hx : p.tables.exec = Jvm.exec) {x : Int32} {o : Int} (hd : decode c.code pc = .ok (.ifCond .eq o, 3)) (pcT pcF : Nat) (ho : 0 ≤ (pc : Int) + o) (hT : ((pc : Int) + o).toNat = pcT) (hF : pc + 3 = pcF) (G1 : x = 0 → Go p e below P T (mkF m pcT Ls st)) (G2 : ¬ x = 0 → Go p e below P T (mkF m pcF Ls st)) : Go p e below P T (mkF m pc Ls (.int x :: st)) := by
  by_cases q : x = 0
  · exact (G1 q).stp fun _ h => XS.ifYes X.here hx rfl rfl hd rfl (XT.i0_eq_t q) ho hT h
  · subst hF
    exact (G2 q).stp fun _ h => XS.ifNo X.here hx rfl hd rfl (XT.i0_eq_f q) h
theorem g_lif_eq (X : Stand p l e R s m args below meth c T locs cells slots) (hx : p.tables.exec = Jvm.exec) {x y : Int64} {o : Int} (hd0 : decode c.code pc = .ok (.lcmp, 1)) (pc1 : Nat) (hp1 : pc + 1 = pc1) (hd : decode c.code pc1 = .ok (.ifCond .eq o, 3)) (pcT pcF : Nat) (ho : 0 ≤ (pc1 : Int) + o) (hT : ((pc1 : Int) + o).toNat = pcT) (hF : pc1 + 3 = pcF) (G1 : x = y → Go p e below P T (mkF m pcT Ls st)) (G2 : ¬ x = y → Go p e below P T (mkF m pcF Ls st)) : Go p e below P T (mkF m pc Ls (.long y :: .long x :: st)) := by
  subst hp1
  by_cases q : x = y
  · exact (G1 q).stp fun _ h => XT.lcmp X.here hx rfl hd0 rfl (XS.ifYes X.here hx rfl rfl hd rfl (XT.ll_eq_t q) ho hT h)
  · subst hF
    exact (G2 q).stp fun _ h => XT.lcmp X.here hx rfl hd0 rfl (XS.ifNo X.here hx rfl hd rfl (XT.ll_eq_f q) h)
theorem g_icmp_ne (X : Stand p l e R s m args below meth c T locs cells slots) (hx : p.tables.exec = Jvm.exec) {x y : Int32} {o : Int} (hd : decode c.code pc = .ok (.if_icmp .ne o, 3)) (pcT pcF : Nat) (ho : 0 ≤ (pc : Int) + o) (hT : ((pc : Int) + o).toNat = pcT) (hF : pc + 3 = pcF) (G1 : ¬ x = y → Go p e below P T (mkF m pcT Ls st)) (G2 : x = y → Go p e below P T (mkF m pcF Ls st)) : Go p e below P T (mkF m pc Ls (.int y :: .int x :: st)) := by
  by_cases q : ¬ x = y
  · exact (G1 q).stp fun _ h => XS.icmpYes X.here hx rfl rfl hd rfl (XT.ii_ne_t q) ho hT h
  · subst hF
    exact (G2 (Classical.not_not.mp q)).stp fun _ h => XS.icmpNo X.here hx rfl hd rfl (XT.ii_ne_f (Classical.not_not.mp q)) h
theorem g_if_ne (X : Stand p l e R s m args below meth c T locs cells slots) (hx : p.tables.exec = Jvm.exec) {x : Int32} {o : Int} (hd : decode c.code pc = .ok (.ifCond .ne o, 3)) (pcT pcF : Nat) (ho : 0 ≤ (pc : Int) + o) (hT : ((pc : Int) + o).toNat = pcT) (hF : pc + 3 = pcF) (G1 : ¬ x = 0 → Go p e below P T (mkF m pcT Ls st)) (G2 : x = 0 → Go p e below P T (mkF m pcF Ls st)) : Go p e below P T (mkF m pc Ls (.int x :: st)) := by
  by_cases q : ¬ x = 0
  · exact (G1 q).stp fun _ h => XS.ifYes X.here hx rfl rfl hd rfl (XT.i0_ne_t q) ho hT h
  · subst hF
    exact (G2 (Classical.not_not.mp q)).stp fun _ h => XS.ifNo X.here hx rfl hd rfl (XT.i0_ne_f (Classical.not_not.mp q)) h
theorem g_lif_ne (X : Stand p l e R s m args below meth c T locs cells slots) (hx : p.tables.exec = Jvm.exec) {x y : Int64} {o : Int} (hd0 : decode c.code pc = .ok (.lcmp, 1)) (pc1 : Nat) (hp1 : pc + 1 = pc1) (hd : decode c.code pc1 = .ok (.ifCond .ne o, 3)) (pcT pcF : Nat) (ho : 0 ≤ (pc1 : Int) + o) (hT : ((pc1 : Int) + o).toNat = pcT) (hF : pc1 + 3 = pcF) (G1 : ¬ x = y → Go p e below P T (mkF m pcT Ls st)) (G2 : x = y → Go p e below P T (mkF m pcF Ls st)) : Go p e below P T (mkF m pc Ls (.long y :: .long x :: st)) := by
  subst hp1
  by_cases q : ¬ x = y
  · exact (G1 q).stp fun _ h => XT.lcmp X.here hx rfl hd0 rfl (XS.ifYes X.here hx rfl rfl hd rfl (XT.ll_ne_t q) ho hT h)
  · subst hF
    exact (G2 (Classical.not_not.mp q)).stp fun _ h => XT.lcmp X.here hx rfl hd0 rfl (XS.ifNo X.here hx rfl hd rfl (XT.ll_ne_f (Classical.not_not.mp q)) h)
theorem g_icmp_lt (X : Stand p l e R s m args below meth c T locs cells slots) (hx : p.tables.exec = Jvm.exec) {x y : Int32} {o : Int} (hd : decode c.code pc = .ok (.if_icmp .lt o, 3)) (pcT pcF : Nat) (ho : 0 ≤ (pc : Int) + o) (hT : ((pc : Int) + o).toNat = pcT) (hF : pc + 3 = pcF) (G1 : x < y → Go p e below P T (mkF m pcT Ls st)) (G2 : ¬ x < y → Go p e below P T (mkF m pcF Ls st)) : Go p e below P T (mkF m pc Ls (.int y :: .int x :: st)) := by
  by_cases q : x < y
  · exact (G1 q).stp fun _ h => XS.icmpYes X.here hx rfl rfl hd rfl (XT.ii_lt_t q) ho hT h
  · subst hF
    exact (G2 q).stp fun _ h => XS.icmpNo X.here hx rfl hd rfl (XT.ii_lt_f q) h
theorem g_if_lt (X : Stand p l e R s m args below meth c T locs cells slots) (hx : p.tables.exec = Jvm.exec) {x : Int32} {o : Int} (hd : decode c.code pc = .ok (.ifCond .lt o, 3)) (pcT pcF : Nat) (ho : 0 ≤ (pc : Int) + o) (hT : ((pc : Int) + o).toNat = pcT) (hF : pc + 3 = pcF) (G1 : x < 0 → Go p e below P T (mkF m pcT Ls st)) (G2 : ¬ x < 0 → Go p e below P T (mkF m pcF Ls st)) : Go p e below P T (mkF m pc Ls (.int x :: st)) := by
  by_cases q : x < 0
  · exact (G1 q).stp fun _ h => XS.ifYes X.here hx rfl rfl hd rfl (XT.i0_lt_t q) ho hT h
  · subst hF
    exact (G2 q).stp fun _ h => XS.ifNo X.here hx rfl hd rfl (XT.i0_lt_f q) h
theorem g_lif_lt (X : Stand p l e R s m args below meth c T locs cells slots) (hx : p.tables.exec = Jvm.exec) {x y : Int64} {o : Int} (hd0 : decode c.code pc = .ok (.lcmp, 1)) (pc1 : Nat) (hp1 : pc + 1 = pc1) (hd : decode c.code pc1 = .ok (.ifCond .lt o, 3)) (pcT pcF : Nat) (ho : 0 ≤ (pc1 : Int) + o) (hT : ((pc1 : Int) + o).toNat = pcT) (hF : pc1 + 3 = pcF) (G1 : x < y → Go p e below P T (mkF m pcT Ls st)) (G2 : ¬ x < y → Go p e below P T (mkF m pcF Ls st)) : Go p e below P T (mkF m pc Ls (.long y :: .long x :: st)) := by
  subst hp1
  by_cases q : x < y
  · exact (G1 q).stp fun _ h => XT.lcmp X.here hx rfl hd0 rfl (XS.ifYes X.here hx rfl rfl hd rfl (XT.ll_lt_t q) ho hT h)
  · subst hF
    exact (G2 q).stp fun _ h => XT.lcmp X.here hx rfl hd0 rfl (XS.ifNo X.here hx rfl hd rfl (XT.ll_lt_f q) h)
theorem g_icmp_ge (X : Stand p l e R s m args below meth c T locs cells slots) (hx : p.tables.exec = Jvm.exec) {x y : Int32} {o : Int} (hd : decode c.code pc = .ok (.if_icmp .ge o, 3)) (pcT pcF : Nat) (ho : 0 ≤ (pc : Int) + o) (hT : ((pc : Int) + o).toNat = pcT) (hF : pc + 3 = pcF) (G1 : ¬ x < y → Go p e below P T (mkF m pcT Ls st)) (G2 : x < y → Go p e below P T (mkF m pcF Ls st)) : Go p e below P T (mkF m pc Ls (.int y :: .int x :: st)) := by
  by_cases q : ¬ x < y
  · exact (G1 q).stp fun _ h => XS.icmpYes X.here hx rfl rfl hd rfl (XT.ii_ge_t q) ho hT h
  · subst hF
    exact (G2 (Classical.not_not.mp q)).stp fun _ h => XS.icmpNo X.here hx rfl hd rfl (XT.ii_ge_f (Classical.not_not.mp q)) h
theorem g_if_ge (X : Stand p l e R s m args below meth c T locs cells slots) (hx : p.tables.exec = Jvm.exec) {x : Int32} {o : Int} (hd : decode c.code pc = .ok (.ifCond .ge o, 3)) (pcT pcF : Nat) (ho : 0 ≤ (pc : Int) + o) (hT : ((pc : Int) + o).toNat = pcT) (hF : pc + 3 = pcF) (G1 : ¬ x < 0 → Go p e below P T (mkF m pcT Ls st)) (G2 : x < 0 → Go p e below P T (mkF m pcF Ls st)) : Go p e below P T (mkF m pc Ls (.int x :: st)) := by
  by_cases q : ¬ x < 0
  · exact (G1 q).stp fun _ h => XS.ifYes X.here hx rfl rfl hd rfl (XT.i0_ge_t q) ho hT h
  · subst hF
    exact (G2 (Classical.not_not.mp q)).stp fun _ h => XS.ifNo X.here hx rfl hd rfl (XT.i0_ge_f (Classical.not_not.mp q)) h
theorem g_lif_ge (X : Stand p l e R s m args below meth c T locs cells slots) (hx : p.tables.exec = Jvm.exec) {x y : Int64} {o : Int} (hd0 : decode c.code pc = .ok (.lcmp, 1)) (pc1 : Nat) (hp1 : pc + 1 = pc1) (hd : decode c.code pc1 = .ok (.ifCond .ge o, 3)) (pcT pcF : Nat) (ho : 0 ≤ (pc1 : Int) + o) (hT : ((pc1 : Int) + o).toNat = pcT) (hF : pc1 + 3 = pcF) (G1 : ¬ x < y → Go p e below P T (mkF m pcT Ls st)) (G2 : x < y → Go p e below P T (mkF m pcF Ls st)) : Go p e below P T (mkF m pc Ls (.long y :: .long x :: st)) := by
  subst hp1
  by_cases q : ¬ x < y
  · exact (G1 q).stp fun _ h => XT.lcmp X.here hx rfl hd0 rfl (XS.ifYes X.here hx rfl rfl hd rfl (XT.ll_ge_t q) ho hT h)
  · subst hF
    exact (G2 (Classical.not_not.mp q)).stp fun _ h => XT.lcmp X.here hx rfl hd0 rfl (XS.ifNo X.here hx rfl hd rfl (XT.ll_ge_f (Classical.not_not.mp q)) h)
theorem g_icmp_gt (X : Stand p l e R s m args below meth c T locs cells slots) (hx : p.tables.exec = Jvm.exec) {x y : Int32} {o : Int} (hd : decode c.code pc = .ok (.if_icmp .gt o, 3)) (pcT pcF : Nat) (ho : 0 ≤ (pc : Int) + o) (hT : ((pc : Int) + o).toNat = pcT) (hF : pc + 3 = pcF) (G1 : y < x → Go p e below P T (mkF m pcT Ls st)) (G2 : ¬ y < x → Go p e below P T (mkF m pcF Ls st)) : Go p e below P T (mkF m pc Ls (.int y :: .int x :: st)) := by
  by_cases q : y < x
  · exact (G1 q).stp fun _ h => XS.icmpYes X.here hx rfl rfl hd rfl (XT.ii_gt_t q) ho hT h
  · subst hF
    exact (G2 q).stp fun _ h => XS.icmpNo X.here hx rfl hd rfl (XT.ii_gt_f q) h
theorem g_if_gt (X : Stand p l e R s m args below meth c T locs cells slots) (hx : p.tables.exec = Jvm.exec) {x : Int32} {o : Int} (hd : decode c.code pc = .ok (.ifCond .gt o, 3)) (pcT pcF : Nat) (ho : 0 ≤ (pc : Int) + o) (hT : ((pc : Int) + o).toNat = pcT) (hF : pc + 3 = pcF) (G1 : 0 < x → Go p e below P T (mkF m pcT Ls st)) (G2 : ¬ 0 < x → Go p e below P T (mkF m pcF Ls st)) : Go p e below P T (mkF m pc Ls (.int x :: st)) := by
  by_cases q : 0 < x
  · exact (G1 q).stp fun _ h => XS.ifYes X.here hx rfl rfl hd rfl (XT.i0_gt_t q) ho hT h
  · subst hF
    exact (G2 q).stp fun _ h => XS.ifNo X.here hx rfl hd rfl (XT.i0_gt_f q) h
theorem g_lif_gt (X : Stand p l e R s m args below meth c T locs cells slots) (hx : p.tables.exec = Jvm.exec) {x y : Int64} {o : Int} (hd0 : decode c.code pc = .ok (.lcmp, 1)) (pc1 : Nat) (hp1 : pc + 1 = pc1) (hd : decode c.code pc1 = .ok (.ifCond .gt o, 3)) (pcT pcF : Nat) (ho : 0 ≤ (pc1 : Int) + o) (hT : ((pc1 : Int) + o).toNat = pcT) (hF : pc1 + 3 = pcF) (G1 : y < x → Go p e below P T (mkF m pcT Ls st)) (G2 : ¬ y < x → Go p e below P T (mkF m pcF Ls st)) : Go p e below P T (mkF m pc Ls (.long y :: .long x :: st)) := by
  subst hp1
  by_cases q : y < x
  · exact (G1 q).stp fun _ h => XT.lcmp X.here hx rfl hd0 rfl (XS.ifYes X.here hx rfl rfl hd rfl (XT.ll_gt_t q) ho hT h)
  · subst hF
    exact (G2 q).stp fun _ h => XT.lcmp X.here hx rfl hd0 rfl (XS.ifNo X.here hx rfl hd rfl (XT.ll_gt_f q) h)
theorem g_icmp_le (X : Stand p l e R s m args below meth c T locs cells slots) (hx : p.tables.exec = Jvm.exec) {x y : Int32} {o : Int} (hd : decode c.code pc = .ok (.if_icmp .le o, 3)) (pcT pcF : Nat) (ho : 0 ≤ (pc : Int) + o) (hT : ((pc : Int) + o).toNat = pcT) (hF : pc + 3 = pcF) (G1 : ¬ y < x → Go p e below P T (mkF m pcT Ls st)) (G2 : y < x → Go p e below P T (mkF m pcF Ls st)) : Go p e below P T (mkF m pc Ls (.int y :: .int x :: st)) := by
  by_cases q : ¬ y < x
  · exact (G1 q).stp fun _ h => XS.icmpYes X.here hx rfl rfl hd rfl (XT.ii_le_t q) ho hT h
  · subst hF
    exact (G2 (Classical.not_not.mp q)).stp fun _ h => XS.icmpNo X.here hx rfl hd rfl (XT.ii_le_f (Classical.not_not.mp q)) h
theorem g_if_le (X : Stand p l e R s m args below meth c T locs cells slots) (hx : p.tables.exec = Jvm.exec) {x : Int32} {o : Int} (hd : decode c.code pc = .ok (.ifCond .le o, 3)) (pcT pcF : Nat) (ho : 0 ≤ (pc : Int) + o) (hT : ((pc : Int) + o).toNat = pcT) (hF : pc + 3 = pcF) (G1 : ¬ 0 < x → Go p e below P T (mkF m pcT Ls st)) (G2 : 0 < x → Go p e below P T (mkF m pcF Ls st)) : Go p e below P T (mkF m pc Ls (.int x :: st)) := by
  by_cases q : ¬ 0 < x
  · exact (G1 q).stp fun _ h => XS.ifYes X.here hx rfl rfl hd rfl (XT.i0_le_t q) ho hT h
  · subst hF
    exact (G2 (Classical.not_not.mp q)).stp fun _ h => XS.ifNo X.here hx rfl hd rfl (XT.i0_le_f (Classical.not_not.mp q)) h
theorem g_lif_le (X : Stand p l e R s m args below meth c T locs cells slots) (hx : p.tables.exec = Jvm.exec) {x y : Int64} {o : Int} (hd0 : decode c.code pc = .ok (.lcmp, 1)) (pc1 : Nat) (hp1 : pc + 1 = pc1) (hd : decode c.code pc1 = .ok (.ifCond .le o, 3)) (pcT pcF : Nat) (ho : 0 ≤ (pc1 : Int) + o) (hT : ((pc1 : Int) + o).toNat = pcT) (hF : pc1 + 3 = pcF) (G1 : ¬ y < x → Go p e below P T (mkF m pcT Ls st)) (G2 : y < x → Go p e below P T (mkF m pcF Ls st)) : Go p e below P T (mkF m pc Ls (.long y :: .long x :: st)) := by
  subst hp1
  by_cases q : ¬ y < x
  · exact (G1 q).stp fun _ h => XT.lcmp X.here hx rfl hd0 rfl (XS.ifYes X.here hx rfl rfl hd rfl (XT.ll_le_t q) ho hT h)
  · subst hF
    exact (G2 (Classical.not_not.mp q)).stp fun _ h => XT.lcmp X.here hx rfl hd0 rfl (XS.ifNo X.here hx rfl hd rfl (XT.ll_le_f (Classical.not_not.mp q)) h)
theorem g_acmp_eq (X : Stand p l e R s m args below meth c T locs cells slots) (hx : p.tables.exec = Jvm.exec) {x y : Value} (hx' : x.isRef = true) (hy' : y.isRef = true) {o : Int} (hd : decode c.code pc = .ok (.if_acmp .eq o, 3)) (pcT pcF : Nat) (ho : 0 ≤ (pc : Int) + o) (hT : ((pc : Int) + o).toNat = pcT) (hF : pc + 3 = pcF) (G1 : x = y → Go p e below P T (mkF m pcT Ls st)) (G2 : ¬ x = y → Go p e below P T (mkF m pcF Ls st)) : Go p e below P T (mkF m pc Ls (y :: x :: st)) := by
  by_cases q : x = y
  · exact (G1 q).stp fun _ h => XT.acmpYes X.here hx rfl rfl hd rfl hx' hy' (XT.aa_eq_t q) ho hT h
  · subst hF
    exact (G2 q).stp fun _ h => XT.acmpNo X.here hx rfl hd rfl hx' hy' (XT.aa_eq_f q) h
theorem g_acmp_ne (X : Stand p l e R s m args below meth c T locs cells slots) (hx : p.tables.exec = Jvm.exec) {x y : Value} (hx' : x.isRef = true) (hy' : y.isRef = true) {o : Int} (hd : decode c.code pc = .ok (.if_acmp .ne o, 3)) (pcT pcF : Nat) (ho : 0 ≤ (pc : Int) + o) (hT : ((pc : Int) + o).toNat = pcT) (hF : pc + 3 = pcF) (G1 : ¬ x = y → Go p e below P T (mkF m pcT Ls st)) (G2 : x = y → Go p e below P T (mkF m pcF Ls st)) : Go p e below P T (mkF m pc Ls (y :: x :: st)) := by
  by_cases q : ¬ x = y
  · exact (G1 q).stp fun _ h => XT.acmpYes X.here hx rfl rfl hd rfl hx' hy' (XT.aa_ne_t q) ho hT h
  · subst hF
    exact (G2 (Classical.not_not.mp q)).stp fun _ h => XT.acmpNo X.here hx rfl hd rfl hx' hy' (XT.aa_ne_f (Classical.not_not.mp q)) h
theorem g_ifnull (X : Stand p l e R s m args below meth c T locs cells slots) (hx : p.tables.exec = Jvm.exec) {x : Value} (hx' : x.isRef = true) {o : Int} (hd : decode c.code pc = .ok (.ifnull o, 3)) (pcT pcF : Nat) (ho : 0 ≤ (pc : Int) + o) (hT : ((pc : Int) + o).toNat = pcT) (hF : pc + 3 = pcF) (G1 : x = .null → Go p e below P T (mkF m pcT Ls st)) (G2 : ¬ x = .null → Go p e below P T (mkF m pcF Ls st)) : Go p e below P T (mkF m pc Ls (x :: st)) := by
  by_cases q : x = .null
  · exact (G1 q).stp fun _ h => XT.nullYes X.here hx rfl rfl hd rfl q ho hT h
  · subst hF
    exact (G2 q).stp fun _ h => XT.nullNo X.here hx rfl hd rfl hx' q h
theorem g_ifnonnull (X : Stand p l e R s m args below meth c T locs cells slots) (hx : p.tables.exec = Jvm.exec) {x : Value} (hx' : x.isRef = true) {o : Int} (hd : decode c.code pc = .ok (.ifnonnull o, 3)) (pcT pcF : Nat) (ho : 0 ≤ (pc : Int) + o) (hT : ((pc : Int) + o).toNat = pcT) (hF : pc + 3 = pcF) (G1 : ¬ x = .null → Go p e below P T (mkF m pcT Ls st)) (G2 : x = .null → Go p e below P T (mkF m pcF Ls st)) : Go p e below P T (mkF m pc Ls (x :: st)) := by
  by_cases q : x = .null
  · subst hF
    exact (G2 q).stp fun _ h => XT.nonnullNo X.here hx rfl hd rfl q h
  · exact (G1 q).stp fun _ h => XT.nonnullYes X.here hx rfl rfl hd rfl hx' q ho hT h
theorem g_ldc (X : Stand p l e R s m args below meth c T locs cells slots) (hx : p.tables.exec = Jvm.exec) (hZ : Z.Warmed39 s.vm) {own : String} (hown : s.vm.findClass own = some m.cls) {i : Nat} {v : Int32} (w : (Cond.constant own i v).before a0 Z = true) (hd : decode c.code pc = .ok (.ldc i, 2)) (pc' : Nat) (hp : pc + 2 = pc') (G : Go p e below P T (mkF m pc' Ls (.int v :: st))) : Go p e below P T (mkF m pc Ls st) := by
  subst hp
  exact G.stp fun _ h => Jvm.Stand.ldcI X hx hown (mv hZ w) rfl hd h
theorem g_ldc_w (X : Stand p l e R s m args below meth c T locs cells slots) (hx : p.tables.exec = Jvm.exec) (hZ : Z.Warmed39 s.vm) {own : String} (hown : s.vm.findClass own = some m.cls) {i : Nat} {v : Int32} (w : (Cond.constant own i v).before a0 Z = true) (hd : decode c.code pc = .ok (.ldc_w i, 3)) (pc' : Nat) (hp : pc + 3 = pc') (G : Go p e below P T (mkF m pc' Ls (.int v :: st))) : Go p e below P T (mkF m pc Ls st) := by
  subst hp
  exact G.stp fun _ h => Jvm.Stand.ldcWI X hx hown (mv hZ w) rfl hd h
theorem g_ldc2_w (X : Stand p l e R s m args below meth c T locs cells slots) (hx : p.tables.exec = Jvm.exec) (hZ : Z.Warmed39 s.vm) {own : String} (hown : s.vm.findClass own = some m.cls) {i : Nat} {v : Int64} (w : (Cond.constantLong own i v).before a0 Z = true) (hd : decode c.code pc = .ok (.ldc2_w i, 3)) (pc' : Nat) (hp : pc + 3 = pc') (G : Go p e below P T (mkF m pc' Ls (.long v :: st))) : Go p e below P T (mkF m pc Ls st) := by
  subst hp
  exact G.stp fun _ h => Jvm.Stand.ldc2J X hx hown (mv hZ w) rfl hd h
theorem g_getfield (X : Stand p l e R s m args below meth c T locs cells slots) (hx : p.tables.exec = Jvm.exec) (hZ : Z.Warmed39 s.vm) {own : String} (hown : s.vm.findClass own = some m.cls) {R0 O n d host : String} {i : Nat} (w : (Cond.fieldLink own i R0 n d).before a0 Z = true ∨ (Cond.fieldLinkNest own i R0 n d host).before a0 Z = true) (via : Via Z R0 O n d) {a : Addr} {v : Value} (F : Fld Z h a O n d v) (eT : T.heap = h) (hd : decode c.code pc = .ok (.getfield i, 3)) (pc' : Nat) (hp : pc + 3 = pc') (G : ∀ T', Stand p l e R s m args below meth c T' locs cells slots → T'.heap = h → Go p e below P T' (mkF m pc' Ls (v :: st))) : Go p e below P T (mkF m pc Ls (.ref a :: st)) := by
  subst hp
  obtain ⟨T', X', e', k⟩ := getF X hx hZ hown w via eT F (g := mkF m pc Ls (.ref a :: st)) rfl rfl hd
  exact (G T' X' e').stp k
theorem g_getstatic (X : Stand p l e R s m args below meth c T locs cells slots) (hx : p.tables.exec = Jvm.exec) (hZ : Z.Warmed39 s.vm) {own : String} (hown : s.vm.findClass own = some m.cls) {R0 O n d host : String} {i : Nat} (w : (Cond.fieldLink own i R0 n d).before a0 Z = true ∨ (Cond.fieldLinkNest own i R0 n d host).before a0 Z = true) (via : Via Z R0 O n d) {v : Value} (F : Sta Z h O n d v) (eT : T.heap = h) (hd : decode c.code pc = .ok (.getstatic i, 3)) (pc' : Nat) (hp : pc + 3 = pc') (G : ∀ T', Stand p l e R s m args below meth c T' locs cells slots → T'.heap = h → Go p e below P T' (mkF m pc' Ls (v :: st))) : Go p e below P T (mkF m pc Ls st) := by
  subst hp
  obtain ⟨T', X', e', k⟩ := getS2 X hx hZ hown w via eT F (g := mkF m pc Ls st) rfl hd
  exact (G T' X' e').stp k
theorem g_putfield (X : Stand p l e R s m args below meth c T locs cells slots) (hx : p.tables.exec = Jvm.exec) (hZ : Z.Warmed39 s.vm) {own : String} (hown : s.vm.findClass own = some m.cls) {R0 O n d host C : String} {i kk : Nat} {ty : FieldType} (w : (Cond.fieldLink own i R0 n d).before a0 Z = true ∨ (Cond.fieldLinkNest own i R0 n d host).before a0 Z = true) (via : Via Z R0 O n d) (eT : T.heap = h) {a : Addr} {v old : Value} (F : Fld Z h a O n d old) (E : Exa Z h a C) (L : (Cond.lays C O n d).before a0 Z = true ∨ ((Cond.laysFinal C O n d).before a0 Z = true ∧ own = O ∧ meth.name = "<init>")) (wi : (Cond.instantiable C kk).before a0 Z = true) (hty : parseFieldDescriptor d = some ty) (hn : narrow ty v = v) (hf : fits ty v = true) (hd : decode c.code pc = .ok (.putfield i, 3)) (pc' : Nat) (hp : pc + 3 = pc') (G : ∀ T' h', Stand p l e R s m args below meth c T' (locs ++ [⟨a, Jvm.RoadKit.slotOf Z O n d⟩]) cells slots → T'.heap = h' → Wr h h' a (Jvm.RoadKit.slotOf Z O n d) v → Go p e below P T' (mkF m pc' Ls st)) : Go p e below P T (mkF m pc Ls (v :: .ref a :: st)) := by
  subst hp
  obtain ⟨T', h', X', e', W, k⟩ := putF X hx hZ hown w via eT F E L wi hty hn hf (g := mkF m pc Ls (v :: .ref a :: st)) rfl rfl hd
  exact (G T' h' X' e' W).stp k
theorem g_initO (X : Stand p l e R s m args below meth c T locs cells slots) (hx : p.tables.exec = Jvm.exec) (hZ : Z.Warmed39 s.vm) {own : String} (hown : s.vm.findClass own = some m.cls) {i : Nat} (w1 : (Cond.methodLink own i Lib.objectInit).before a0 Z = true) (w2 : (Cond.instanceMethod Lib.objectInit).before a0 Z = true) (w3 : (Cond.code Lib.objectInit ⟨#[0xb1]⟩ 1 none).before a0 Z = true) (eT : T.heap = h) (hsz : Ls.size = c.maxLocals) {a : Addr} (hd : decode c.code pc = .ok (.invokespecial i, 3)) (hf : 1 ≤ R.frames) (W : Nat) (hW : (st.map fun v => v.category).sum ≤ W) (hl : W + 12 ≤ R.locals) (pc' : Nat) (hp : pc + 3 = pc') (G : ∀ T', Stand p l e R s m args below meth c T' locs cells slots → T'.heap = h → Go p e below P T' (mkF m pc' Ls st)) : Go p e below P T (mkF m pc Ls (.ref a :: st)) := by
  subst hp
  obtain ⟨T', X', e', k⟩ := initO X hx hZ hown w1 w2 w3 eT (g := mkF m pc Ls (.ref a :: st)) rfl hsz rfl hd hf (W := W) (by show 2 * 0 + _ ≤ W; omega) hl
  exact (G T' X' e').stp k
theorem g_new (X : Stand p l e R s m args below meth c T locs cells slots) (hx : p.tables.exec = Jvm.exec) (hZ : Z.Warmed39 s.vm) {own : String} (hown : s.vm.findClass own = some m.cls) {C : String} {i n : Nat} (w : (Cond.classLink own i C).before a0 Z = true) (wi : (Cond.instantiable C n).before a0 Z = true) (wz : (Cond.initialized C).before a0 Z = true) (eT : T.heap = h) (hd : decode c.code pc = .ok (.new i, 3)) (hc : cells + 1 ≤ R.cells) (hl : slots + n ≤ R.slots) (pc' : Nat) (hp : pc + 3 = pc') (G : ∀ T' h' b, Stand p l e R s m args below meth c T' locs (cells + 1) (slots + n) → T'.heap = h' → b = h.size → Ext h h' → Exa Z h' b C → (∀ {O nm d : String} {ty : FieldType}, Laid Z a0 C O nm d → parseFieldDescriptor d = some ty → Fld Z h' b O nm d (defaultValue ty)) → Go p e below P T' (mkF m pc' Ls (.ref b :: st))) : Go p e below P T (mkF m pc Ls st) := by
  subst hp
  obtain ⟨T', h', X', e', E, A, D, -, k⟩ := newO X hx hZ hown w wi wz eT (g := mkF m pc Ls st) rfl hd hc hl
  exact (G T' h' h.size X' e' rfl E A D).stp k
/-- the array at a: of that kind, holding just these values -/
def AV (Z : State) (h : Heap) (a : Addr) (ty : FieldType) (vs : List Value) : Prop := ∃ c : Cell, Arr Z h a c ty ∧ c.slots = vs.toArray ∧ vs.length < 2 ^ 31
theorem AV.lt {a : Addr} {ty : FieldType} {vs : List Value} (F : AV Z h a ty vs) : a < h.size := by obtain ⟨c, A, -⟩ := F; exact A.lt
theorem AV.ext {h' : Heap} {a : Addr} {ty : FieldType} {vs : List Value} (F : AV Z h a ty vs) (E : Ext h h') : AV Z h' a ty vs := by obtain ⟨c, A, r⟩ := F; exact ⟨c, A.ext E, r⟩
theorem AV.other {h' : Heap} {a b : Addr} {sl : Nat} {v : Value} {ty : FieldType} {vs : List Value} (F : AV Z h b ty vs) (W : Wr h h' a sl v) (q : b ≠ a) : AV Z h' b ty vs := by obtain ⟨c, A, r⟩ := F; exact ⟨c, A.other W q, r⟩
theorem AV.keep {h' : Heap} {a : Addr} {ws : List Addr} {ty : FieldType} {vs : List Value} (F : AV Z h a ty vs) (K : Keep h h' ws) (q : a ∉ ws) : AV Z h' a ty vs := by obtain ⟨c, A, r⟩ := F; exact ⟨c, ⟨K.2.1 a c A.1 q, A.2⟩, r⟩
theorem AV.same {h' : Heap} {a : Addr} {sl : Nat} {v : Value} {ty : FieldType} {vs : List Value} (F : AV Z h a ty vs) (W : Wr h h' a sl v) : AV Z h' a ty (vs.set sl v) := by
  obtain ⟨c, A, r1, r2⟩ := F
  exact ⟨_, A.same W, by simp [Cell.setSlot, r1], by simpa using r2⟩
theorem AV.new {a : Addr} {k : ClassId} {ty : FieldType} {n : Int32} (A : Arr Z h a (newA k ty n) ty) (vs : List Value) (q : vs = List.replicate n.toNatClampNeg (defaultValue ty)) (q2 : n.toNatClampNeg < 2 ^ 31) : AV Z h a ty vs := ⟨_, A, by subst q; simp [newA], by subst q; simpa using q2⟩
theorem AV.nostat {a : Addr} {ty : FieldType} {vs : List Value} (F : AV Z h a ty vs) : ∀ cell : Cell, h[a]? = some cell → cell.vm.isStatics = false := by obtain ⟨c, A, -⟩ := F; exact A.nostat
theorem in_of {vs : List Value} {c : Cell} {j : Int32} {v : Value} (r : c.slots = vs.toArray) (hj : ¬ j < 0) (hv : vs[j.toNatClampNeg]? = some v) : ¬ (j < 0 ∨ c.slots.size ≤ j.toNatClampNeg) := by
  have q := (List.getElem?_eq_some_iff.mp hv).1
  intro u
  rcases u with u | u
  · exact hj u
  · rw [r] at u; simp at u; omega
theorem g_iaload (X : Stand p l e R s m args below meth c T locs cells slots) (hx : p.tables.exec = Jvm.exec) (hZ : Z.Warmed39 s.vm) (eT : T.heap = h) {a : Addr} {vs : List Value} {j : Int32} {v : Value} (A : AV Z h a .int vs) (hj : ¬ j < 0) (hv : vs[j.toNatClampNeg]? = some v) (hd : decode c.code pc = .ok (.iaload, 1)) (pc' : Nat) (hp : pc + 1 = pc') (G : Go p e below P T (mkF m pc' Ls (v :: st))) : Go p e below P T (mkF m pc Ls (.int j :: .ref a :: st)) := by
  subst hp
  obtain ⟨cl, A, r1, r2⟩ := A
  exact G.stp fun _ k => X.iaload hx (j := j) (v := v) (by rw [eT]; exact A.1) (State.isArrayOf_alike hZ.alike A.2.1) A.2.2 (in_of r1 hj hv) (by rw [r1]; simpa using hv) (g := mkF m pc Ls (.int j :: .ref a :: st)) rfl rfl hd _ k
theorem g_caload (X : Stand p l e R s m args below meth c T locs cells slots) (hx : p.tables.exec = Jvm.exec) (hZ : Z.Warmed39 s.vm) (eT : T.heap = h) {a : Addr} {vs : List Value} {j : Int32} {v : Value} (A : AV Z h a .char vs) (hj : ¬ j < 0) (hv : vs[j.toNatClampNeg]? = some v) (hd : decode c.code pc = .ok (.caload, 1)) (pc' : Nat) (hp : pc + 1 = pc') (G : Go p e below P T (mkF m pc' Ls (v :: st))) : Go p e below P T (mkF m pc Ls (.int j :: .ref a :: st)) := by
  subst hp
  obtain ⟨cl, A, r1, r2⟩ := A
  exact G.stp fun _ k => X.caload hx (j := j) (v := v) (by rw [eT]; exact A.1) (State.isArrayOf_alike hZ.alike A.2.1) A.2.2 (in_of r1 hj hv) (by rw [r1]; simpa using hv) (g := mkF m pc Ls (.int j :: .ref a :: st)) rfl rfl hd _ k
theorem g_baload (X : Stand p l e R s m args below meth c T locs cells slots) (hx : p.tables.exec = Jvm.exec) (hZ : Z.Warmed39 s.vm) (eT : T.heap = h) {a : Addr} {vs : List Value} {j : Int32} {v : Value} (A : AV Z h a .byte vs) (hj : ¬ j < 0) (hv : vs[j.toNatClampNeg]? = some v) (hd : decode c.code pc = .ok (.baload, 1)) (pc' : Nat) (hp : pc + 1 = pc') (G : Go p e below P T (mkF m pc' Ls (v :: st))) : Go p e below P T (mkF m pc Ls (.int j :: .ref a :: st)) := by
  subst hp
  obtain ⟨cl, A, r1, r2⟩ := A
  exact G.stp fun _ k => X.baloadBytes hx (j := j) (v := v) (by rw [eT]; exact A.1) (State.isArrayOf_alike hZ.alike A.2.1) A.2.2 (in_of r1 hj hv) (by rw [r1]; simpa using hv) (g := mkF m pc Ls (.int j :: .ref a :: st)) rfl rfl hd _ k
theorem g_aaload (X : Stand p l e R s m args below meth c T locs cells slots) (hx : p.tables.exec = Jvm.exec) (hZ : Z.Warmed39 s.vm) (eT : T.heap = h) {a : Addr} {ty : FieldType} {vs : List Value} {j : Int32} {v : Value} (A : AV Z h a ty vs) (hty : ty.isReference = true) (hj : ¬ j < 0) (hv : vs[j.toNatClampNeg]? = some v) (hd : decode c.code pc = .ok (.aaload, 1)) (pc' : Nat) (hp : pc + 1 = pc') (G : Go p e below P T (mkF m pc' Ls (v :: st))) : Go p e below P T (mkF m pc Ls (.int j :: .ref a :: st)) := by
  subst hp
  obtain ⟨cl, A, r1, r2⟩ := A
  exact G.stp fun _ k => X.aaload hx (j := j) (v := v) (by rw [eT]; exact A.1) (State.isArrayOf_alike hZ.alike A.2.1) hty A.2.2 (in_of r1 hj hv) (by rw [r1]; simpa using hv) (g := mkF m pc Ls (.int j :: .ref a :: st)) rfl rfl hd _ k
theorem g_arraylength (X : Stand p l e R s m args below meth c T locs cells slots) (hx : p.tables.exec = Jvm.exec) (hZ : Z.Warmed39 s.vm) (eT : T.heap = h) {a : Addr} {ty : FieldType} {vs : List Value} (A : AV Z h a ty vs) (n : Int32) (hn : Int32.ofNat vs.length = n) (hd : decode c.code pc = .ok (.arraylength, 1)) (pc' : Nat) (hp : pc + 1 = pc') (G : Go p e below P T (mkF m pc' Ls (.int n :: st))) : Go p e below P T (mkF m pc Ls (.ref a :: st)) := by
  subst hp
  obtain ⟨cl, A, r1, r2⟩ := A
  have q : cl.slots.size.toInt32 = n := by rw [r1, ← hn]; simp
  rw [← q] at G
  exact G.stp fun _ k => X.arraylength hx (cell := cl) (by rw [eT]; exact A.1) (State.isArrayOf_alike hZ.alike A.2.1) (g := mkF m pc Ls (.ref a :: st)) rfl rfl hd _ k
theorem g_iastore (X : Stand p l e R s m args below meth c T locs cells slots) (hx : p.tables.exec = Jvm.exec) (hZ : Z.Warmed39 s.vm) (eT : T.heap = h) {a : Addr} {vs : List Value} {j x : Int32} (A : AV Z h a .int vs) (hj : ¬ j < 0) (hi : j.toNatClampNeg < vs.length) (hd : decode c.code pc = .ok (.iastore, 1)) (pc' : Nat) (hp : pc + 1 = pc') (G : ∀ T' h', Stand p l e R s m args below meth c T' (locs ++ [⟨a, j.toNatClampNeg⟩]) cells slots → T'.heap = h' → Wr h h' a j.toNatClampNeg (.int x) → AV Z h' a .int (vs.set j.toNatClampNeg (.int x)) → Go p e below P T' (mkF m pc' Ls st)) : Go p e below P T (mkF m pc Ls (.int x :: .int j :: .ref a :: st)) := by
  subst hp
  have A0 := A
  obtain ⟨cl, A, r1, r2⟩ := A
  obtain ⟨T', h', X', e', W, k⟩ := stI X hx hZ eT A (j := j) (x := x) (in_of r1 hj (List.getElem?_eq_getElem hi)) (g := mkF m pc Ls (.int x :: .int j :: .ref a :: st)) rfl rfl hd
  exact (G T' h' X' e' W (A0.same W)).stp k
theorem g_castore (X : Stand p l e R s m args below meth c T locs cells slots) (hx : p.tables.exec = Jvm.exec) (hZ : Z.Warmed39 s.vm) (eT : T.heap = h) {a : Addr} {vs : List Value} {j x : Int32} (A : AV Z h a .char vs) (hj : ¬ j < 0) (hi : j.toNatClampNeg < vs.length) (hd : decode c.code pc = .ok (.castore, 1)) (pc' : Nat) (hp : pc + 1 = pc') (G : ∀ T' h', Stand p l e R s m args below meth c T' (locs ++ [⟨a, j.toNatClampNeg⟩]) cells slots → T'.heap = h' → Wr h h' a j.toNatClampNeg (.int (nar .char x)) → AV Z h' a .char (vs.set j.toNatClampNeg (.int (nar .char x))) → Go p e below P T' (mkF m pc' Ls st)) : Go p e below P T (mkF m pc Ls (.int x :: .int j :: .ref a :: st)) := by
  subst hp
  have A0 := A
  obtain ⟨cl, A, r1, r2⟩ := A
  obtain ⟨T', h', X', e', W, k⟩ := stC X hx hZ eT A (j := j) (x := x) (in_of r1 hj (List.getElem?_eq_getElem hi)) (g := mkF m pc Ls (.int x :: .int j :: .ref a :: st)) rfl rfl hd
  exact (G T' h' X' e' W (A0.same W)).stp k
theorem g_bastore (X : Stand p l e R s m args below meth c T locs cells slots) (hx : p.tables.exec = Jvm.exec) (hZ : Z.Warmed39 s.vm) (eT : T.heap = h) {a : Addr} {vs : List Value} {j x : Int32} (A : AV Z h a .byte vs) (hj : ¬ j < 0) (hi : j.toNatClampNeg < vs.length) (hd : decode c.code pc = .ok (.bastore, 1)) (pc' : Nat) (hp : pc + 1 = pc') (G : ∀ T' h', Stand p l e R s m args below meth c T' (locs ++ [⟨a, j.toNatClampNeg⟩]) cells slots → T'.heap = h' → Wr h h' a j.toNatClampNeg (.int (nar .byte x)) → AV Z h' a .byte (vs.set j.toNatClampNeg (.int (nar .byte x))) → Go p e below P T' (mkF m pc' Ls st)) : Go p e below P T (mkF m pc Ls (.int x :: .int j :: .ref a :: st)) := by
  subst hp
  have A0 := A
  obtain ⟨cl, A, r1, r2⟩ := A
  obtain ⟨T', h', X', e', W, k⟩ := stB X hx hZ eT A (j := j) (x := x) (in_of r1 hj (List.getElem?_eq_getElem hi)) (g := mkF m pc Ls (.int x :: .int j :: .ref a :: st)) rfl rfl hd
  exact (G T' h' X' e' W (A0.same W)).stp k
theorem g_newarray (X : Stand p l e R s m args below meth c T locs cells slots) (hx : p.tables.exec = Jvm.exec) (hZ : Z.Warmed39 s.vm) {aty : ArrayType} (w : (Cond.arrayClass (newarray.typeOf aty)).before a0 Z = true) (eT : T.heap = h) {n : Int32} (hn : ¬ n < 0) (cap : Nat) (hcap : n.toNatClampNeg ≤ cap) (hb : cap * 8 ≤ 536870912) (hc : cells + 1 ≤ R.cells) (hl : slots + cap ≤ R.slots) (vs : List Value) (hvs : vs = List.replicate n.toNatClampNeg (defaultValue (newarray.typeOf aty))) (hd : decode c.code pc = .ok (.newarray aty, 2)) (pc' : Nat) (hp : pc + 2 = pc') (G : ∀ T' h' b, Stand p l e R s m args below meth c T' locs (cells + 1) (slots + cap) → T'.heap = h' → b = h.size → Ext h h' → AV Z h' b (newarray.typeOf aty) vs → Go p e below P T' (mkF m pc' Ls (.ref b :: st))) : Go p e below P T (mkF m pc Ls (.int n :: st)) := by
  subst hp
  obtain ⟨T', h', cA, X', e', E, A, k⟩ := newP X hx hZ w eT (g := mkF m pc Ls (.int n :: st)) rfl hd rfl hn hcap hb hc hl
  exact (G T' h' h.size X' e' rfl E (AV.new A vs hvs (by omega))).stp k
theorem g_checkcast (X : Stand p l e R s m args below meth c T locs cells slots) (hx : p.tables.exec = Jvm.exec) (hZ : Z.Warmed39 s.vm) {own : String} (hown : s.vm.findClass own = some m.cls) {K : String} {i : Nat} (w : (Cond.classLink own i K).before a0 Z = true) {a : Addr} (F : Ins Z h a K true) (eT : T.heap = h) (hd : decode c.code pc = .ok (.checkcast i, 3)) (pc' : Nat) (hp : pc + 3 = pc') (G : ∀ T', Stand p l e R s m args below meth c T' locs cells slots → T'.heap = h → Go p e below P T' (mkF m pc' Ls (.ref a :: st))) : Go p e below P T (mkF m pc Ls (.ref a :: st)) := by
  subst hp
  obtain ⟨T', X', e', k⟩ := castY X hx hZ hown w eT F (g := mkF m pc Ls (.ref a :: st)) rfl rfl hd
  exact (G T' X' e').stp k
theorem g_instYes (X : Stand p l e R s m args below meth c T locs cells slots) (hx : p.tables.exec = Jvm.exec) (hZ : Z.Warmed39 s.vm) {own : String} (hown : s.vm.findClass own = some m.cls) {K : String} {i : Nat} (w : (Cond.classLink own i K).before a0 Z = true) {a : Addr} (F : Ins Z h a K true) (eT : T.heap = h) (hd : decode c.code pc = .ok (.instanceof i, 3)) (pc' : Nat) (hp : pc + 3 = pc') (G : ∀ T', Stand p l e R s m args below meth c T' locs cells slots → T'.heap = h → Go p e below P T' (mkF m pc' Ls (.int 1 :: st))) : Go p e below P T (mkF m pc Ls (.ref a :: st)) := by
  subst hp
  obtain ⟨T', X', e', k⟩ := instY X hx hZ hown w eT F (g := mkF m pc Ls (.ref a :: st)) rfl rfl hd
  exact (G T' X' e').stp k
theorem g_instNo (X : Stand p l e R s m args below meth c T locs cells slots) (hx : p.tables.exec = Jvm.exec) (hZ : Z.Warmed39 s.vm) {own : String} (hown : s.vm.findClass own = some m.cls) {K C : String} {i : Nat} (w : (Cond.classLink own i K).before a0 Z = true) {a : Addr} (E : Exa Z h a C) (F : ∃ c t, Z.vm.findClass C = some c ∧ Z.vm.findClass K = some t ∧ Z.vm.assignable c t = false) (eT : T.heap = h) (hd : decode c.code pc = .ok (.instanceof i, 3)) (pc' : Nat) (hp : pc + 3 = pc') (G : ∀ T', Stand p l e R s m args below meth c T' locs cells slots → T'.heap = h → Go p e below P T' (mkF m pc' Ls (.int 0 :: st))) : Go p e below P T (mkF m pc Ls (.ref a :: st)) := by
  subst hp
  obtain ⟨T', X', e', k⟩ := instNo X hx hZ hown w eT E F (g := mkF m pc Ls (.ref a :: st)) rfl rfl hd
  exact (G T' X' e').stp k
theorem g_instNull (X : Stand p l e R s m args below meth c T locs cells slots) (hx : p.tables.exec = Jvm.exec) {i : Nat} (hd : decode c.code pc = .ok (.instanceof i, 3)) (pc' : Nat) (hp : pc + 3 = pc') (G : Go p e below P T (mkF m pc' Ls (.int 0 :: st))) : Go p e below P T (mkF m pc Ls (.null :: st)) := by
  subst hp
  exact G.stp fun _ h => X.instanceofNull hx (g := mkF m pc Ls (.null :: st)) rfl rfl hd _ h
theorem g_aastore (X : Stand p l e R s m args below meth c T locs cells slots) (hx : p.tables.exec = Jvm.exec) (hZ : Z.Warmed39 s.vm) (eT : T.heap = h) {a : Addr} {ty : FieldType} {vs : List Value} {j : Int32} {x : Value} (A : AV Z h a ty vs) (hty : ty.isReference = true) (F : Sto Z h a x) (hj : ¬ j < 0) (hi : j.toNatClampNeg < vs.length) (hd : decode c.code pc = .ok (.aastore, 1)) (pc' : Nat) (hp : pc + 1 = pc') (G : ∀ T' h', Stand p l e R s m args below meth c T' (locs ++ [⟨a, j.toNatClampNeg⟩]) cells slots → T'.heap = h' → Wr h h' a j.toNatClampNeg x → AV Z h' a ty (vs.set j.toNatClampNeg x) → Go p e below P T' (mkF m pc' Ls st)) : Go p e below P T (mkF m pc Ls (x :: .int j :: .ref a :: st)) := by
  subst hp
  have A0 := A
  obtain ⟨cl, A, r1, r2⟩ := A
  obtain ⟨T', h', X', e', W, k⟩ := stR X hx hZ eT A (j := j) (v := x) (in_of r1 hj (List.getElem?_eq_getElem hi)) hty F (g := mkF m pc Ls (x :: .int j :: .ref a :: st)) rfl rfl hd
  exact (G T' h' X' e' W (A0.same W)).stp k
/-- what may lie in the array at a: objects of C -/
def Ov (Z : State) (h : Heap) (a : Addr) (C : String) : Prop := ∃ c : Cell, h[a]? = some c ∧ Ovr Z c.cls C
theorem Ov.keep {h' : Heap} {a : Addr} {ws : List Addr} {C : String} (F : Ov Z h a C) (K : Keep h h' ws) : Ov Z h' a C := by obtain ⟨c, h1, o⟩ := F; obtain ⟨c', h2, e, -⟩ := K.2.2 a c h1; exact ⟨c', h2, by rw [e]; exact o⟩
theorem Ov.ext {h' : Heap} {a : Addr} {C : String} (F : Ov Z h a C) (E : Ext h h') : Ov Z h' a C := by obtain ⟨c, h1, o⟩ := F; exact ⟨c, E.2 _ _ h1, o⟩
theorem Ov.wr {h' : Heap} {a b : Addr} {sl : Nat} {v : Value} {C : String} (F : Ov Z h a C) (W : Wr h h' b sl v) : Ov Z h' a C := by obtain ⟨c, h1, o⟩ := F; obtain ⟨c', h2, e, -⟩ := wr_at W h1; exact ⟨c', h2, by rw [e]; exact o⟩
theorem Ov.lt {a : Addr} {C : String} (F : Ov Z h a C) : a < h.size := by obtain ⟨c, h1, -⟩ := F; exact (Array.getElem?_eq_some_iff.mp h1).1
theorem Ov.sto {a y : Addr} {C : String} {ty : FieldType} {vs : List Value} (F : Ov Z h a C) (A : AV Z h a ty vs) (I : Ins Z h y C true) : Sto Z h a (.ref y) := by
  obtain ⟨c, h1, o⟩ := F
  obtain ⟨c', A', -⟩ := A
  cases h1.symm.trans A'.1
  exact Sto.of A' o I
theorem g_anewarray (X : Stand p l e R s m args below meth c T locs cells slots) (hx : p.tables.exec = Jvm.exec) (hZ : Z.Warmed39 s.vm) {own : String} (hown : s.vm.findClass own = some m.cls) {C : String} {i : Nat} (w1 : (Cond.classLink own i C).before a0 Z = true) (w2 : (Cond.arrayOver (.object C)).before a0 Z = true) (eT : T.heap = h) {n : Int32} (hn : ¬ n < 0) (cap : Nat) (hcap : n.toNatClampNeg ≤ cap) (hb : cap * 8 ≤ 536870912) (hc : cells + 1 ≤ R.cells) (hl : slots + cap ≤ R.slots) (vs : List Value) (hvs : vs = List.replicate n.toNatClampNeg .null) (hd : decode c.code pc = .ok (.anewarray i, 3)) (pc' : Nat) (hp : pc + 3 = pc') (G : ∀ T' h' b, Stand p l e R s m args below meth c T' locs (cells + 1) (slots + cap) → T'.heap = h' → b = h.size → Ext h h' → AV Z h' b (.object C) vs → Ov Z h' b C → Go p e below P T' (mkF m pc' Ls (.ref b :: st))) : Go p e below P T (mkF m pc Ls (.int n :: st)) := by
  subst hp
  obtain ⟨T', h', cA, X', e', E, A, O, k⟩ := newR X hx hZ hown w1 w2 eT (g := mkF m pc Ls (.int n :: st)) rfl hd rfl hn hcap hb hc hl
  exact (G T' h' h.size X' e' rfl E (AV.new A vs hvs (by omega)) ⟨_, A.1, O⟩).stp k
theorem g_reti (X : Stand p l e R s m args below meth c T locs cells slots) (hx : p.tables.exec = Jvm.exec) {z : Int32} (hret : meth.sig.returnType = some .int) (hlk : meth.locks = false) {k n : Nat} {Q : Option Value → Heap → List Loc → Prop} (hk : cells ≤ k) (hn : slots ≤ n) (hd : decode c.code pc = .ok (.ireturn, 1)) (hq : Q (some (.int z)) T.heap locs) : Go p e below (RP s k n Q) T (mkF m pc Ls (.int z :: st)) := by
  obtain ⟨fs, hr, hrun, hended, hW, hsame⟩ := X.leave (v := (some (.int z))) (fun h => by first | rfl | (rw [hret] at h; cases h)) hlk
  exact ⟨_, _, retOut X hx hret rfl (Or.inl ⟨rfl, Or.inl rfl, z, rfl⟩) hd hr, hrun, hended, _, _, rfl, hq, ⟨_, rfl⟩, hW, hsame.mono hk hn⟩
theorem g_retz (X : Stand p l e R s m args below meth c T locs cells slots) (hx : p.tables.exec = Jvm.exec) {z : Int32} (hret : meth.sig.returnType = some .boolean) (hlk : meth.locks = false) {k n : Nat} {Q : Option Value → Heap → List Loc → Prop} (hk : cells ≤ k) (hn : slots ≤ n) (hd : decode c.code pc = .ok (.ireturn, 1)) (hq : Q (some (.int (z &&& 1))) T.heap locs) : Go p e below (RP s k n Q) T (mkF m pc Ls (.int z :: st)) := by
  obtain ⟨fs, hr, hrun, hended, hW, hsame⟩ := X.leave (v := (some (.int (z &&& 1)))) (fun h => by first | rfl | (rw [hret] at h; cases h)) hlk
  exact ⟨_, _, retN X hx (t := .boolean) hret (by simp) hd hr, hrun, hended, _, _, rfl, hq, ⟨_, rfl⟩, hW, hsame.mono hk hn⟩
theorem g_retb (X : Stand p l e R s m args below meth c T locs cells slots) (hx : p.tables.exec = Jvm.exec) {z : Int32} (hret : meth.sig.returnType = some .byte) (hlk : meth.locks = false) {k n : Nat} {Q : Option Value → Heap → List Loc → Prop} (hk : cells ≤ k) (hn : slots ≤ n) (hd : decode c.code pc = .ok (.ireturn, 1)) (hq : Q (some (.int z.toInt8.toInt32)) T.heap locs) : Go p e below (RP s k n Q) T (mkF m pc Ls (.int z :: st)) := by
  obtain ⟨fs, hr, hrun, hended, hW, hsame⟩ := X.leave (v := (some (.int z.toInt8.toInt32))) (fun h => by first | rfl | (rw [hret] at h; cases h)) hlk
  exact ⟨_, _, retN X hx (t := .byte) hret (by simp) hd hr, hrun, hended, _, _, rfl, hq, ⟨_, rfl⟩, hW, hsame.mono hk hn⟩
theorem g_retl (X : Stand p l e R s m args below meth c T locs cells slots) (hx : p.tables.exec = Jvm.exec) {z : Int64} (hret : meth.sig.returnType = some .long) (hlk : meth.locks = false) {k n : Nat} {Q : Option Value → Heap → List Loc → Prop} (hk : cells ≤ k) (hn : slots ≤ n) (hd : decode c.code pc = .ok (.lreturn, 1)) (hq : Q (some (.long z)) T.heap locs) : Go p e below (RP s k n Q) T (mkF m pc Ls (.long z :: st)) := by
  obtain ⟨fs, hr, hrun, hended, hW, hsame⟩ := X.leave (v := (some (.long z))) (fun h => by first | rfl | (rw [hret] at h; cases h)) hlk
  exact ⟨_, _, retOut X hx hret rfl (Or.inr (Or.inl ⟨rfl, rfl, z, rfl⟩)) hd hr, hrun, hended, _, _, rfl, hq, ⟨_, rfl⟩, hW, hsame.mono hk hn⟩
theorem g_reta (X : Stand p l e R s m args below meth c T locs cells slots) (hx : p.tables.exec = Jvm.exec) {v : Value} {t : FieldType} (hv : v.isRef = true) (ht : t.isReference = true) (hret : meth.sig.returnType = some t) (hlk : meth.locks = false) {k n : Nat} {Q : Option Value → Heap → List Loc → Prop} (hk : cells ≤ k) (hn : slots ≤ n) (hd : decode c.code pc = .ok (.areturn, 1)) (hq : Q (some v) T.heap locs) : Go p e below (RP s k n Q) T (mkF m pc Ls (v :: st)) := by
  obtain ⟨fs, hr, hrun, hended, hW, hsame⟩ := X.leave (v := (some v)) (fun h => by first | rfl | (rw [hret] at h; cases h)) hlk
  exact ⟨_, _, retOut X hx hret (by cases t <;> first | (cases ht; done) | rfl) (Or.inr (Or.inr (Or.inr (Or.inr ⟨rfl, ht, hv⟩)))) hd hr, hrun, hended, _, _, rfl, hq, ⟨_, rfl⟩, hW, hsame.mono hk hn⟩
theorem g_retv (X : Stand p l e R s m args below meth c T locs cells slots) (hx : p.tables.exec = Jvm.exec) (hret : meth.sig.returnType = none) (hlk : meth.locks = false) {k n : Nat} {Q : Option Value → Heap → List Loc → Prop} (hk : cells ≤ k) (hn : slots ≤ n) (hd : decode c.code pc = .ok (.return_, 1)) (hq : Q none T.heap locs) : Go p e below (RP s k n Q) T (mkF m pc Ls []) := by
  obtain ⟨fs, hr, hrun, hended, hW, hsame⟩ := X.leave (v := none) (fun _ => rfl) hlk
  exact ⟨_, _, X.returnOut hx hret hd hr, hrun, hended, _, _, rfl, hq, ⟨_, rfl⟩, hW, hsame.mono hk hn⟩
/-- what a method does, called with these arguments over this heap -/
def Co (l : Launch) (y : MethodName) (bytes : ByteArray) (maxL : Nat) (ret : Option FieldType) (ws : List Jvm.Cond) (rm : Room) (Z : State) (h : Heap) (as : Array Value) (Q : Option Value → Heap → List Loc → Prop) : Prop := MetFree l y (head1 (Jvm.Cond.code y bytes maxL ret :: ws) rm) (fun a U => a = as ∧ Z.Warmed39 U.vm ∧ U.heap = h) (fun _ _ _ _ _ => True) (fun _ U o U' => ∃ v L, o = .returned v ∧ Q v U'.heap L ∧ FrameEnd U o U' L rm.cells rm.slots)
theorem Co.of {y : MethodName} {bytes : ByteArray} {maxL : Nat} {ret : Option FieldType} {ws : List Jvm.Cond} {rm : Room} {as : Array Value} {Q : Option Value → Heap → List Loc → Prop} (hpl : plainFor y = true) (body : ∀ (p : Program) (e : Env) (s : State) (m : MethodId) (below : List Frame) (meth : Method) (c : Code) (T : State), Stand p l e rm s m as below meth c T [] 0 0 → p.tables.exec = Jvm.exec → c.code = bytes → c.maxLocals = maxL → s.vm.findClass y.cls = some m.cls → meth.name = y.name → meth.sig.returnType = ret → meth.locks = false → Z.Warmed39 s.vm → T.heap = h → Go p e below (RP s rm.cells rm.slots Q) T (entryFrame m as maxL)) : Co l y bytes maxL ret ws rm Z h as Q := by
  refine MetFree.of_bodySF hpl hisR ?_
  intro p e s m args below meth c s₁ Bd hml hP hK
  obtain ⟨rfl, hZ, hh⟩ := hP
  exact body p e s m below meth c s₁ (Stand.of_body Bd) Bd.exec Bd.bytes hml (findClass_of_methodNamed Bd.named) (name_of_methodNamed Bd.named Bd.method).1 Bd.returns (BodyLoose.notSynchronized Bd) hZ (by rw [← hh, Bd.state]; rfl)
theorem g_callS (X : Stand p l e R s m args below meth c T locs cells slots) (hx : p.tables.exec = Jvm.exec) (hZ : Z.Warmed39 s.vm) {own : String} (hown : s.vm.findClass own = some m.cls) {i : Nat} {y : MethodName} {bytes : ByteArray} {maxL : Nat} {ret : Option FieldType} (w1 : (Cond.methodLink own i y).before a0 Z = true) (w2 : (Cond.static y).before a0 Z = true) (w3 : (Cond.initialized y.cls).before a0 Z = true) (w4 : (Cond.code y bytes maxL ret).before a0 Z = true)  (hy : y.cls ≠ "java/lang/invoke/MethodHandle" ∧ y.cls ≠ "java/lang/invoke/VarHandle") (eT : T.heap = h) {rm : Room} {Q : Option Value → Heap → List Loc → Prop} {St : List Value} (argsL rest : List Value) (hs : St = argsL.reverse ++ rest) (M : Co l y bytes maxL ret [] rm Z h argsL.toArray Q) (hlen : ∀ sig, parseMethodDescriptor y.desc = some sig → argsL.length = sig.parameters.length) (W : Nat) (hW : (rest.map fun v => v.category).sum ≤ W) (hf : rm.frames + 1 ≤ R.frames) (hl : W + (maxL + 11) + rm.locals ≤ R.locals) (hc : cells + rm.cells ≤ R.cells) (hsl : slots + rm.slots ≤ R.slots) (hsz : Ls.size = c.maxLocals) (hd : decode c.code pc = .ok (.invokestatic i, 3)) (pc' : Nat) (hp : pc + 3 = pc') (G : ∀ v T' L, Stand p l e R s m args below meth c T' (locs ++ L) (cells + rm.cells) (slots + rm.slots) → Q v T'.heap L → Go p e below P T' (mkF m pc' Ls (v.toList ++ rest))) : Go p e below P T (mkF m pc Ls St) := by
  subst hp
  obtain ⟨v, vm1, ⟨T', L', k', n'⟩, -, X', ⟨L, hQ, h1, h2, h3⟩, k⟩ := Jvm.LawKit.callS X hx (y := y) hown (mvT hZ w1) (mvT hZ w2) (mvT hZ w3) (mvT hZ w4) hy (backOf (W := W) M hZ w4 w3 hf hl) (g := mkF m pc Ls St) rfl hsz (argsL := argsL) (rest := rest) hlen hs (by show 2 * 0 + _ ≤ W; omega) hd (fun _ _ => ⟨rfl, eT, hc, hsl⟩)
  dsimp only [Pt.U, Pt.locs, Pt.cells, Pt.slots] at X' h1 h2 h3 k hQ
  subst h1 h2 h3
  exact (G v T' L X' hQ).stp k
theorem g_init (X : Stand p l e R s m args below meth c T locs cells slots) (hx : p.tables.exec = Jvm.exec) (hZ : Z.Warmed39 s.vm) {own : String} (hown : s.vm.findClass own = some m.cls) {i : Nat} {y : MethodName} {bytes : ByteArray} {maxL : Nat} (w1 : (Cond.methodLink own i y).before a0 Z = true) (hnm : y.name = "<init>") (w2 : (Cond.instanceMethod y).before a0 Z = true) (w3 : (Cond.initialized y.cls).before a0 Z = true) (w4 : (Cond.code y bytes maxL none).before a0 Z = true)  (hy : y.cls ≠ "java/lang/invoke/MethodHandle" ∧ y.cls ≠ "java/lang/invoke/VarHandle") (eT : T.heap = h) {rm : Room} {Q : Option Value → Heap → List Loc → Prop} {St : List Value} (argsL rest : List Value) {a : Addr} (hs : St = argsL.reverse ++ .ref a :: rest) (M : Co l y bytes maxL none [] rm Z h (.ref a :: argsL).toArray Q) (hlen : ∀ sig, parseMethodDescriptor y.desc = some sig → argsL.length = sig.parameters.length) (W : Nat) (hW : (rest.map fun v => v.category).sum ≤ W) (hf : rm.frames + 1 ≤ R.frames) (hl : W + (maxL + 11) + rm.locals ≤ R.locals) (hc : cells + rm.cells ≤ R.cells) (hsl : slots + rm.slots ≤ R.slots) (hsz : Ls.size = c.maxLocals) (hd : decode c.code pc = .ok (.invokespecial i, 3)) (pc' : Nat) (hp : pc + 3 = pc') (G : ∀ v T' L, Stand p l e R s m args below meth c T' (locs ++ L) (cells + rm.cells) (slots + rm.slots) → Q v T'.heap L → Go p e below P T' (mkF m pc' Ls (v.toList ++ rest))) : Go p e below P T (mkF m pc Ls St) := by
  subst hp
  obtain ⟨v, vm1, ⟨T', L', k', n'⟩, -, X', ⟨L, hQ, h1, h2, h3⟩, k⟩ := X.specialBack hx (y := y) hnm hown (mvT hZ w1) (mvT hZ w2) (mvT hZ w4) hy (backOf (W := W) M hZ w4 w3 hf hl) (g := mkF m pc Ls St) rfl hsz (Steps.refl _) (a := a) (argsL := argsL) (rest := rest) hlen hs (by show 2 * 0 + _ ≤ W; omega) hd (fun _ _ => ⟨rfl, eT, hc, hsl⟩)
  dsimp only [Pt.U, Pt.locs, Pt.cells, Pt.slots] at X' h1 h2 h3 k hQ
  subst h1 h2 h3
  exact (G v T' L X' hQ).stp fun _ j => k.trans j
theorem g_callV (X : Stand p l e R s m args below meth c T locs cells slots) (hx : p.tables.exec = Jvm.exec) (hZ : Z.Warmed39 s.vm) {own : String} (hown : s.vm.findClass own = some m.cls) {i : Nat} {y : MethodName} {bytes : ByteArray} {maxL : Nat} {ret : Option FieldType} (w1 : (Cond.methodLink own i y).before a0 Z = true) {C : String} (w2 : (Cond.declares y).before a0 Z = true) (w5 : (Cond.selects C y y).before a0 Z = true) (w6 : (Cond.instanceMethod y).before a0 Z = true) (w3 : (Cond.initialized y.cls).before a0 Z = true) (w4 : (Cond.code y bytes maxL ret).before a0 Z = true)  (hy : y.cls ≠ "java/lang/invoke/MethodHandle" ∧ y.cls ≠ "java/lang/invoke/VarHandle") (eT : T.heap = h) {rm : Room} {Q : Option Value → Heap → List Loc → Prop} {St : List Value} (argsL rest : List Value) {a : Addr} (E : Exa Z h a C) (hs : St = argsL.reverse ++ .ref a :: rest) (M : Co l y bytes maxL ret [] rm Z h (.ref a :: argsL).toArray Q) (hlen : ∀ sig, parseMethodDescriptor y.desc = some sig → argsL.length = sig.parameters.length) (W : Nat) (hW : (rest.map fun v => v.category).sum ≤ W) (hf : rm.frames + 1 ≤ R.frames) (hl : W + (maxL + 11) + rm.locals ≤ R.locals) (hc : cells + rm.cells ≤ R.cells) (hsl : slots + rm.slots ≤ R.slots) (hsz : Ls.size = c.maxLocals) (hd : decode c.code pc = .ok (.invokevirtual i, 3)) (pc' : Nat) (hp : pc + 3 = pc') (G : ∀ v T' L, Stand p l e R s m args below meth c T' (locs ++ L) (cells + rm.cells) (slots + rm.slots) → Q v T'.heap L → Go p e below P T' (mkF m pc' Ls (v.toList ++ rest))) : Go p e below P T (mkF m pc Ls St) := by
  subst hp
  obtain ⟨cq, kq, qa, qb, qc⟩ := isOf hZ eT E
  obtain ⟨v, vm1, ⟨T', L', k', n'⟩, -, X', ⟨L, hQ, h1, h2, h3⟩, k⟩ := X.virtualBack hx (y := y) (z := y) hown (mvT hZ w1) (mvT hZ w2) (notFace_of_selects (args := #[]) (mvT hZ w5)) (mvT hZ w5) (mvT hZ w6) hy (backOf (W := W) M hZ w4 w3 hf hl) qa qc (g := mkF m pc Ls St) rfl hsz (Steps.refl _) (argsL := argsL) (rest := rest) hlen hs (by show 2 * 0 + _ ≤ W; omega) hd (fun _ _ => ⟨rfl, eT, hc, hsl⟩)
  dsimp only [Pt.U, Pt.locs, Pt.cells, Pt.slots] at X' h1 h2 h3 k hQ
  subst h1 h2 h3
  exact (G v T' L X' hQ).stp fun _ j => k.trans j
theorem g_callP (X : Stand p l e R s m args below meth c T locs cells slots) (hx : p.tables.exec = Jvm.exec) (hZ : Z.Warmed39 s.vm) {own : String} (hown : s.vm.findClass own = some m.cls) {i : Nat} {y : MethodName} {bytes : ByteArray} {maxL : Nat} {ret : Option FieldType} (w1 : (Cond.methodLink own i y).before a0 Z = true) {n : Nat} (w2 : (Cond.instanceMethod y).before a0 Z = true) (w5 : (Cond.privateMethod y).before a0 Z = true) (wi : (Cond.instantiable y.cls n).before a0 Z = true) (w3 : (Cond.initialized y.cls).before a0 Z = true) (w4 : (Cond.code y bytes maxL ret).before a0 Z = true)  (hy : y.cls ≠ "java/lang/invoke/MethodHandle" ∧ y.cls ≠ "java/lang/invoke/VarHandle") (eT : T.heap = h) {rm : Room} {Q : Option Value → Heap → List Loc → Prop} {St : List Value} (argsL rest : List Value) {a : Addr} (E : Exa Z h a y.cls) (hs : St = argsL.reverse ++ .ref a :: rest) (M : Co l y bytes maxL ret [] rm Z h (.ref a :: argsL).toArray Q) (hlen : ∀ sig, parseMethodDescriptor y.desc = some sig → argsL.length = sig.parameters.length) (W : Nat) (hW : (rest.map fun v => v.category).sum ≤ W) (hf : rm.frames + 1 ≤ R.frames) (hl : W + (maxL + 11) + rm.locals ≤ R.locals) (hc : cells + rm.cells ≤ R.cells) (hsl : slots + rm.slots ≤ R.slots) (hsz : Ls.size = c.maxLocals) (hd : decode c.code pc = .ok (.invokevirtual i, 3)) (pc' : Nat) (hp : pc + 3 = pc') (G : ∀ v T' L, Stand p l e R s m args below meth c T' (locs ++ L) (cells + rm.cells) (slots + rm.slots) → Q v T'.heap L → Go p e below P T' (mkF m pc' Ls (v.toList ++ rest))) : Go p e below P T (mkF m pc Ls St) := by
  subst hp
  obtain ⟨cl, q1, q2⟩ := E.cell
  have wi' : (Cond.instantiable y.cls n).before args s = true := mv hZ wi
  obtain ⟨ci, ki, i1, i2, i3, i4, -⟩ := Cond.instantiable_spec wi'
  have hpr : s.PrivateAt y := Cond.privateMethod_at (mvP hZ w5 (args := #[]))
  have hsel : (Cond.selects y.cls y y).before args s = true := selects_self_of_private i1 i2 (by simp only [Bool.or_eq_false_iff] at i4; exact i4.1) hpr (mv hZ w2) hy
  obtain ⟨v, vm1, ⟨T', L', k', n'⟩, -, X', ⟨L, hQ, h1, h2, h3⟩, k⟩ := X.privateBack hx (y := y) hown (mvT hZ w1) (mvT hZ w2) hsel hpr (mvT hZ w4) hy (backOf (W := W) M hZ w4 w3 hf hl) (g := mkF m pc Ls St) rfl hsz (Steps.refl _) (a := a) (by rw [eT]; exact q1) q2 (argsL := argsL) (rest := rest) hlen hs (by show 2 * 0 + _ ≤ W; omega) hd (fun _ _ => ⟨rfl, eT, hc, hsl⟩)
  dsimp only [Pt.U, Pt.locs, Pt.cells, Pt.slots] at X' h1 h2 h3 k hQ
  subst h1 h2 h3
  exact (G v T' L X' hQ).stp fun _ j => k.trans j
def Pu (h : Heap) (v : Option Value) (r : Option Value) (h' : Heap) (L : List Loc) : Prop := r = v ∧ h' = h ∧ L = []
theorem pu_cont {v : Option Value} {fr lo : Nat} {pc' : Nat} {rest : List Value} (G : ∀ T', Stand p l e R s m args below meth c T' locs cells slots → T'.heap = h → Go p e below P T' (mkF m pc' Ls (v.toList ++ rest))) : ∀ v' T' L, Stand p l e R s m args below meth c T' (locs ++ L) (cells + ({ frames := fr, cells := 0, slots := 0, locals := lo } : Room).cells) (slots + ({ frames := fr, cells := 0, slots := 0, locals := lo } : Room).slots) → Pu h v v' T'.heap L → Go p e below P T' (mkF m pc' Ls (v'.toList ++ rest)) := by
  rintro v' T' L X ⟨rfl, e1, rfl⟩
  exact G T' (by simpa using X) e1
theorem Go.joinT {α : Type} {g : JFrame} (X : Stand p l e R s m args below meth c T locs cells slots) (eT : T.heap = h) (f : α → JFrame) (Pz : α → Prop) (J : ∀ T', Stand p l e R s m args below meth c T' locs cells slots → T'.heap = h → ∀ z, Pz z → Go p e below P T' (f z)) (K : (∀ T', Stand p l e R s m args below meth c T' locs cells slots → T'.heap = h → ∀ z, Pz z → Go p e below P T' (f z)) → Go p e below P T g) : Go p e below P T g := K J
theorem Go.joinH {α : Type} {g : JFrame} (X : Stand p l e R s m args below meth c T locs cells slots) (f : α → JFrame) (Pz : Heap → List Loc → α → Prop) (kc kn : Nat) (J : ∀ T' h' locs', Stand p l e R s m args below meth c T' locs' kc kn → T'.heap = h' → ∀ z, Pz h' locs' z → Go p e below P T' (f z)) (K : (∀ T' h' locs', Stand p l e R s m args below meth c T' locs' kc kn → T'.heap = h' → ∀ z, Pz h' locs' z → Go p e below P T' (f z)) → Go p e below P T g) : Go p e below P T g := K J
theorem Go.loop {α : Type} (X : Stand p l e R s m args below meth c T locs cells slots) (eT : T.heap = h) (f : α → JFrame) (μ : α → Nat) (Pz : α → Prop) (body : ∀ z, Pz z → (∀ T', Stand p l e R s m args below meth c T' locs cells slots → T'.heap = h → ∀ z', Pz z' → μ z' < μ z → Go p e below P T' (f z')) → ∀ T', Stand p l e R s m args below meth c T' locs cells slots → T'.heap = h → Go p e below P T' (f z)) (z : α) (hz : Pz z) : Go p e below P T (f z) := by
  have key : ∀ n, ∀ z, μ z < n → Pz z → ∀ T', Stand p l e R s m args below meth c T' locs cells slots → T'.heap = h → Go p e below P T' (f z) := by
    intro n
    induction n with
    | zero => intro z hn; exact absurd hn (Nat.not_lt_zero _)
    | succ n ih =>
      intro z hn hz T' X' e'
      exact body z hz (fun T2 X2 e2 z2 hz2 hlt => ih z2 (by omega) hz2 T2 X2 e2) T' X' e'
  exact key (μ z + 1) z (Nat.lt_succ_self _) hz T X eT
theorem Go.loopH {α : Type} (X : Stand p l e R s m args below meth c T locs cells slots) (eT : T.heap = h) (f : α → JFrame) (μ : α → Nat) (Pz : Heap → List Loc → α → Prop) (body : ∀ z h' locs', Pz h' locs' z → (∀ T' h2 locs2, Stand p l e R s m args below meth c T' locs2 cells slots → T'.heap = h2 → ∀ z', Pz h2 locs2 z' → μ z' < μ z → Go p e below P T' (f z')) → ∀ T', Stand p l e R s m args below meth c T' locs' cells slots → T'.heap = h' → Go p e below P T' (f z)) (z : α) (hz : Pz h locs z) : Go p e below P T (f z) := by
  have key : ∀ n, ∀ z h' locs', μ z < n → Pz h' locs' z → ∀ T', Stand p l e R s m args below meth c T' locs' cells slots → T'.heap = h' → Go p e below P T' (f z) := by
    intro n
    induction n with
    | zero => intro z h' locs' hn; exact absurd hn (Nat.not_lt_zero _)
    | succ n ih =>
      intro z h' locs' hn hz T' X' e'
      exact body z h' locs' hz (fun T2 h2 locs2 X2 e2 z2 hz2 hlt => ih z2 h2 locs2 (by omega) hz2 T2 X2 e2) T' X' e'
  exact key (μ z + 1) z h locs (Nat.lt_succ_self _) hz T X eT
theorem own_sta_keep {C n d : String} {v : Value} {h' : Heap} {ws : List Addr} (F : Sta Z h C n d v) (K : Keep h h' ws) (q : ∀ x ∈ ws, ∀ cell : Cell, h[x]? = some cell → cell.vm.isStatics = false) : Sta Z h' C n d v := by
  obtain ⟨cf, i, k, f, st, cell, h1, h2, h3, h4, h5, h6, h7⟩ := F
  exact ⟨cf, i, k, f, st, cell, h1, h2, h3, h4, K.2.1 st cell h5 (fun hm => by rw [q st hm cell h5] at h6; cases h6), h6, h7⟩
end OwnGo
def Q2 (Z : State) (a : Addr) (d : Addr) (x : Int32) (h0 : Heap) (n0 : Nat) (v : Option Value) (h : Heap) (L : List Loc) : Prop := v = none ∧ Fr n0 L ∧ Keep h0 h [a] ∧ Exa Z h a "com/example/bindwick/bindwick/BERReader" ∧ Fld Z h a "com/example/bindwick/bindwick/BERReader" "data" "[B" (.ref d) ∧ Fld Z h a "com/example/bindwick/bindwick/BERReader" "limit" "I" (.int x) ∧ Fld Z h a "com/example/bindwick/bindwick/BERReader" "position" "I" (.int (0 : Int32))
theorem ef2 (m_ : MethodId) (a : Addr) (d : Addr) (x : Int32)  : entryFrame m_ #[(.ref a), (.ref d), (.int x)] 3 = mkF m_ 0 #[.val (.ref a), .val (.ref d), .val (.int x)] [] := by first | (simp [entryFrame, mkF, argsToLocals, Value.category]; done) | rfl
theorem pn_0 : plainName "com/example/bindwick/bindwick/BERReader" = true := by first | (simp [plainName, overriddenIn]; done) | decide +kernel
theorem d2_0 : decode prog_26_method_2_code 0 = .ok (.aload_n 0, 1) := by decide +kernel
theorem d2_1 : decode prog_26_method_2_code 1 = .ok (.invokespecial 7, 3) := by decide +kernel
theorem d2_4 : decode prog_26_method_2_code 4 = .ok (.aload_n 0, 1) := by decide +kernel
theorem d2_5 : decode prog_26_method_2_code 5 = .ok (.aload_n 1, 1) := by decide +kernel
theorem d2_6 : decode prog_26_method_2_code 6 = .ok (.putfield 12, 3) := by decide +kernel
theorem d2_9 : decode prog_26_method_2_code 9 = .ok (.aload_n 0, 1) := by decide +kernel
theorem d2_10 : decode prog_26_method_2_code 10 = .ok (.iload_n 2, 1) := by decide +kernel
theorem d2_11 : decode prog_26_method_2_code 11 = .ok (.putfield 16, 3) := by decide +kernel
theorem d2_14 : decode prog_26_method_2_code 14 = .ok (.return_, 1) := by decide +kernel
set_option maxRecDepth 65536 in
set_option maxHeartbeats 40000000 in
theorem co2 (l : Launch) (Z : State) (a0 : Array Value) (hw : ∀ d ∈ tables_1, d.before a0 Z = true) (a : Addr) (d : Addr) (x : Int32) (h0 : Heap) (n0 : Nat) (Z0 : n0 ≤ h0.size)  (g_a : n0 ≤ a) (E_a : Exa Z h0 a "com/example/bindwick/bindwick/BERReader") (F_data : Fld Z h0 a "com/example/bindwick/bindwick/BERReader" "data" "[B" .null) (F_limit : Fld Z h0 a "com/example/bindwick/bindwick/BERReader" "limit" "I" (.int (0 : Int32))) (F_position : Fld Z h0 a "com/example/bindwick/bindwick/BERReader" "position" "I" (.int (0 : Int32))) : Co l (⟨"com/example/bindwick/bindwick/BERReader", "<init>", "([BI)V"⟩ : MethodName) prog_26_method_2_code 3 none [] ({ frames := 1, cells := 0, slots := 0, locals := 12 } : Room) Z h0 #[(.ref a), (.ref d), (.int x)] (Q2 Z a d x h0 n0) := by
  refine Co.of (plainFor_of_name pn_0) ?_
  intro p_ e_ s_ m_ below meth c_ T0 X0 hx hby hml hown hnm hret hlk hZ e0
  have N0 := Fr.nil n0
  refine Go.cast (ef2 m_ a d x ) ?_
  refine g_aloadN X0 hx rfl rfl (hb hby d2_0) 1 rfl ?_
  refine g_initO X0 hx hZ hown (wd hw 10 rfl) (wd hw 11 rfl) (wd hw 12 rfl) e0 (by rw [hml]; rfl) (hb hby d2_1) (by decide) 0 (Nat.le_of_eq rfl) (by decide) 4 rfl (fun T1 X2 e3 => ?_)
  show Go p_ e_ below _ T1 (mkF m_ 4 #[.val (.ref a), .val (.ref d), .val (.int x)] [])
  refine g_aloadN X2 hx rfl rfl (hb hby d2_4) 5 rfl ?_
  refine g_aloadN X2 hx rfl rfl (hb hby d2_5) 6 rfl ?_
  refine g_putfield X2 hx hZ hown (host := "") (Or.inl (wd hw 13 rfl)) Via.refl e3 F_data E_a (Or.inr ⟨(wd hw 14 rfl), rfl, hnm⟩) (wd hw 2 rfl) (ty := (.array .byte)) (by decide) rfl rfl (hb hby d2_6) 9 rfl (fun T4 h5 X6 e7 W8 => ?_)
  have F9 := E_a.wr W8
  have F10 := F_data.same W8
  have F11 := F_limit.other W8 (Or.inr (slot_ne (Or.inr (wd hw 16 rfl)) (Or.inr (wd hw 14 rfl)) (by decide) (t := .int) (t' := (.array .byte)) (by decide) (by decide)))
  have F12 := F_position.other W8 (Or.inr (slot_ne (Or.inl (wd hw 23 rfl)) (Or.inr (wd hw 14 rfl)) (by decide) (t := .int) (t' := (.array .byte)) (by decide) (by decide)))
  have N13 := Fr.snoc X6 N0 g_a
  have szh14 : n0 ≤ h5.size := Nat.le_trans Z0 (Nat.le_of_eq W8.size.symm)
  have K15 := (Keep.refl h0 [a]).wr W8 (Or.inl (List.mem_of_getElem? (i := 0) rfl))
  show Go p_ e_ below _ T4 (mkF m_ 9 #[.val (.ref a), .val (.ref d), .val (.int x)] [])
  refine g_aloadN X6 hx rfl rfl (hb hby d2_9) 10 rfl ?_
  refine g_iloadN X6 hx rfl (hb hby d2_10) 11 rfl ?_
  refine g_putfield X6 hx hZ hown (host := "") (Or.inl (wd hw 15 rfl)) Via.refl e7 F11 F9 (Or.inr ⟨(wd hw 16 rfl), rfl, hnm⟩) (wd hw 2 rfl) (ty := .int) (by decide) rfl rfl (hb hby d2_11) 14 rfl (fun T16 h17 X18 e19 W20 => ?_)
  have F21 := F9.wr W20
  have F22 := F10.other W20 (Or.inr (slot_ne (Or.inr (wd hw 14 rfl)) (Or.inr (wd hw 16 rfl)) (by decide) (t := (.array .byte)) (t' := .int) (by decide) (by decide)))
  have F23 := F11.same W20
  have F24 := F12.other W20 (Or.inr (slot_ne (Or.inl (wd hw 23 rfl)) (Or.inr (wd hw 16 rfl)) (by decide) (t := .int) (t' := .int) (by decide) (by decide)))
  have N25 := Fr.snoc X18 N13 g_a
  have szh26 : n0 ≤ h17.size := Nat.le_trans szh14 (Nat.le_of_eq W20.size.symm)
  have K27 := K15.wr W20 (Or.inl (List.mem_of_getElem? (i := 0) rfl))
  show Go p_ e_ below _ T16 (mkF m_ 14 #[.val (.ref a), .val (.ref d), .val (.int x)] [])
  exact g_retv X18 hx hret hlk (by decide) (by decide) (hb hby d2_14) (by rw [e19]; exact ⟨rfl, N25, K27, F21, F22, F23, F24⟩)
def Q1 (Z : State) (a : Addr) (d : Addr) (vs : List Value) (h0 : Heap) (n0 : Nat) (v : Option Value) (h : Heap) (L : List Loc) : Prop := v = none ∧ Fr n0 L ∧ Keep h0 h [a] ∧ Exa Z h a "com/example/bindwick/bindwick/BERReader" ∧ Fld Z h a "com/example/bindwick/bindwick/BERReader" "data" "[B" (.ref d) ∧ Fld Z h a "com/example/bindwick/bindwick/BERReader" "limit" "I" (.int (Int32.ofNat vs.length)) ∧ Fld Z h a "com/example/bindwick/bindwick/BERReader" "position" "I" (.int (0 : Int32))
theorem ef1 (m_ : MethodId) (a : Addr) (d : Addr)  : entryFrame m_ #[(.ref a), (.ref d)] 2 = mkF m_ 0 #[.val (.ref a), .val (.ref d)] [] := by first | (simp [entryFrame, mkF, argsToLocals, Value.category]; done) | rfl
theorem d1_0 : decode prog_26_method_1_code 0 = .ok (.aload_n 0, 1) := by decide +kernel
theorem d1_1 : decode prog_26_method_1_code 1 = .ok (.aload_n 1, 1) := by decide +kernel
theorem d1_2 : decode prog_26_method_1_code 2 = .ok (.aload_n 1, 1) := by decide +kernel
theorem d1_3 : decode prog_26_method_1_code 3 = .ok (.arraylength, 1) := by decide +kernel
theorem pd_0 : parseMethodDescriptor "([BI)V" = some ⟨[(.array .byte), .int], none⟩ := by decide +kernel
theorem d1_4 : decode prog_26_method_1_code 4 = .ok (.invokespecial 1, 3) := by decide +kernel
theorem d1_7 : decode prog_26_method_1_code 7 = .ok (.return_, 1) := by decide +kernel
set_option maxRecDepth 65536 in
set_option maxHeartbeats 40000000 in
theorem co1 (l : Launch) (Z : State) (a0 : Array Value) (hw : ∀ d ∈ tables_1, d.before a0 Z = true) (a : Addr) (d : Addr) (vs : List Value) (h0 : Heap) (n0 : Nat) (Z0 : n0 ≤ h0.size)  (g_a : n0 ≤ a) (E_a : Exa Z h0 a "com/example/bindwick/bindwick/BERReader") (F_data : Fld Z h0 a "com/example/bindwick/bindwick/BERReader" "data" "[B" .null) (F_limit : Fld Z h0 a "com/example/bindwick/bindwick/BERReader" "limit" "I" (.int (0 : Int32))) (F_position : Fld Z h0 a "com/example/bindwick/bindwick/BERReader" "position" "I" (.int (0 : Int32))) (A_d : AV Z h0 d .byte vs) (ne_da : d ≠ a) : Co l (⟨"com/example/bindwick/bindwick/BERReader", "<init>", "([B)V"⟩ : MethodName) prog_26_method_1_code 2 none [] ({ frames := 2, cells := 0, slots := 0, locals := 28 } : Room) Z h0 #[(.ref a), (.ref d)] (Q1 Z a d vs h0 n0) := by
  refine Co.of (plainFor_of_name pn_0) ?_
  intro p_ e_ s_ m_ below meth c_ T0 X0 hx hby hml hown hnm hret hlk hZ e0
  have N0 := Fr.nil n0
  refine Go.cast (ef1 m_ a d ) ?_
  refine g_aloadN X0 hx rfl rfl (hb hby d1_0) 1 rfl ?_
  refine g_aloadN X0 hx rfl rfl (hb hby d1_1) 2 rfl ?_
  refine g_aloadN X0 hx rfl rfl (hb hby d1_2) 3 rfl ?_
  refine g_arraylength X0 hx hZ e0 A_d (Int32.ofNat vs.length) rfl (hb hby d1_3) 4 rfl ?_
  refine g_init X0 hx hZ hown (wd hw 7 rfl) rfl (wd hw 8 rfl) (wd hw 3 rfl) (wd hw 9 rfl) (by decide) e0 [(.ref d), (.int (Int32.ofNat vs.length))] [] rfl (co2 l Z a0 hw a d (Int32.ofNat vs.length) h0 n0 Z0 g_a E_a F_data F_limit F_position) (lenOf pd_0 rfl) 0 (Nat.le_of_eq rfl) (by decide) (by decide) (by decide) (by decide) (by rw [hml]; rfl) (hb hby d1_4) 7 rfl (fun r1 T2 L3 X4 Q5 => ?_)
  obtain ⟨h6, e7⟩ : ∃ h, T2.heap = h := ⟨_, rfl⟩
  rw [e7] at Q5
  obtain ⟨rfl, n8, K9, E10, F11, F12, F13⟩ := Q5
  have N14 := Fr.app N0 n8
  have F15 := E_a.keep K9
  have F16 := A_d.keep K9 (ninS ne_da nin0)
  have szh17 : n0 ≤ h6.size := Nat.le_trans Z0 K9.1
  have K18 := (Keep.refl h0 [a]).trans K9 (allS (Or.inl (List.mem_of_getElem? (i := 0) rfl)) all0)
  show Go p_ e_ below _ T2 (mkF m_ 7 #[.val (.ref a), .val (.ref d)] [])
  exact g_retv X4 hx hret hlk (by decide) (by decide) (hb hby d1_7) (by rw [e7]; exact ⟨rfl, N14, K18, E10, F11, F12, F13⟩)
theorem d4_0 : decode prog_26_method_5_code 0 = .ok (.aload_n 0, 1) := by decide +kernel
theorem d4_1 : decode prog_26_method_5_code 1 = .ok (.getfield 69, 3) := by decide +kernel
theorem d4_4 : decode prog_26_method_5_code 4 = .ok (.aload_n 0, 1) := by decide +kernel
theorem d4_5 : decode prog_26_method_5_code 5 = .ok (.getfield 16, 3) := by decide +kernel
theorem d4_8 : decode prog_26_method_5_code 8 = .ok (.if_icmp .ge 19, 3) := by decide +kernel
theorem d4_27 : decode prog_26_method_5_code 27 = .ok (.iconst (-1), 1) := by decide +kernel
theorem d4_11 : decode prog_26_method_5_code 11 = .ok (.aload_n 0, 1) := by decide +kernel
theorem d4_12 : decode prog_26_method_5_code 12 = .ok (.getfield 12, 3) := by decide +kernel
theorem d4_15 : decode prog_26_method_5_code 15 = .ok (.aload_n 0, 1) := by decide +kernel
theorem d4_16 : decode prog_26_method_5_code 16 = .ok (.getfield 69, 3) := by decide +kernel
theorem d4_19 : decode prog_26_method_5_code 19 = .ok (.baload, 1) := by decide +kernel
theorem d4_20 : decode prog_26_method_5_code 20 = .ok (.sipush 255, 3) := by decide +kernel
theorem d4_23 : decode prog_26_method_5_code 23 = .ok (.iand, 1) := by decide +kernel
theorem d4_24 : decode prog_26_method_5_code 24 = .ok (.goto 4, 3) := by decide +kernel
def f4 (lim : Int32) (pos : Int32) (bt : Int32) : Int32 := if pos < lim then (bt &&& (255 : Int32)) else (-1 : Int32)
theorem ef4 (m_ : MethodId) (a : Addr)  : entryFrame m_ #[(.ref a)] 1 = mkF m_ 0 #[.val (.ref a)] [] := by first | (simp [entryFrame, mkF, argsToLocals, Value.category]; done) | rfl
theorem d4_28 : decode prog_26_method_5_code 28 = .ok (.ireturn, 1) := by decide +kernel
set_option maxRecDepth 65536 in
set_option maxHeartbeats 40000000 in
theorem co4 (l : Launch) (Z : State) (a0 : Array Value) (hw : ∀ d ∈ tables_1, d.before a0 Z = true) (a : Addr) (d : Addr) (lim : Int32) (pos : Int32) (vs : List Value) (bt : Int32) (h0 : Heap) (F_data : Fld Z h0 a "com/example/bindwick/bindwick/BERReader" "data" "[B" (.ref d)) (F_limit : Fld Z h0 a "com/example/bindwick/bindwick/BERReader" "limit" "I" (.int lim)) (F_position : Fld Z h0 a "com/example/bindwick/bindwick/BERReader" "position" "I" (.int pos)) (A_d : AV Z h0 d .byte vs) (hnn : ¬ pos < 0) (hat : pos < lim → vs[pos.toNatClampNeg]? = some (.int bt)) : Co l (⟨"com/example/bindwick/bindwick/BERReader", "peekType", "()I"⟩ : MethodName) prog_26_method_5_code 1 (some .int) [] ({ frames := 0, cells := 0, slots := 0, locals := 0 } : Room) Z h0 #[(.ref a)] (Pu h0 (some (.int (f4 lim pos bt)))) := by
  refine Co.of (plainFor_of_name pn_0) ?_
  intro p_ e_ s_ m_ below meth c_ T0 X0 hx hby hml hown hnm hret hlk hZ e0
  refine Go.cast (ef4 m_ a ) ?_
  refine g_aloadN X0 hx rfl rfl (hb hby d4_0) 1 rfl ?_
  refine g_getfield X0 hx hZ hown (host := "") (Or.inl (wd hw 22 rfl)) Via.refl F_position e0 (hb hby d4_1) 4 rfl (fun T1 X2 e3 => ?_)
  show Go p_ e_ below _ T1 (mkF m_ 4 #[.val (.ref a)] [(.int pos)])
  refine g_aloadN X2 hx rfl rfl (hb hby d4_4) 5 rfl ?_
  refine g_getfield X2 hx hZ hown (host := "") (Or.inl (wd hw 15 rfl)) Via.refl F_limit e3 (hb hby d4_5) 8 rfl (fun T4 X5 e6 => ?_)
  show Go p_ e_ below _ T4 (mkF m_ 8 #[.val (.ref a)] [(.int lim), (.int pos)])
  refine g_icmp_ge X5 hx (hb hby d4_8) 27 11 (by decide) rfl rfl (fun q8 => ?_) (fun q8 => ?_)
  · refine g_iconst X5 hx (-1 : Int32) rfl (hb hby d4_27) 28 rfl ?_
    exact g_reti X5 hx hret hlk (by decide) (by decide) (hb hby d4_28) ⟨congrArg (fun z => some (Value.int z)) (show f4 lim pos bt = _ from ((if_neg q8).trans rfl)).symm, e6, rfl⟩
  · refine g_aloadN X5 hx rfl rfl (hb hby d4_11) 12 rfl ?_
    refine g_getfield X5 hx hZ hown (host := "") (Or.inl (wd hw 13 rfl)) Via.refl F_data e6 (hb hby d4_12) 15 rfl (fun T7 X8 e9 => ?_)
    show Go p_ e_ below _ T7 (mkF m_ 15 #[.val (.ref a)] [(.ref d)])
    refine g_aloadN X8 hx rfl rfl (hb hby d4_15) 16 rfl ?_
    refine g_getfield X8 hx hZ hown (host := "") (Or.inl (wd hw 22 rfl)) Via.refl F_position e9 (hb hby d4_16) 19 rfl (fun T10 X11 e12 => ?_)
    show Go p_ e_ below _ T10 (mkF m_ 19 #[.val (.ref a)] [(.int pos), (.ref d)])
    refine g_baload X11 hx hZ e12 A_d hnn (hat q8) (hb hby d4_19) 20 rfl ?_
    show Go p_ e_ below _ T10 (mkF m_ 20 #[.val (.ref a)] [(.int bt)])
    refine g_sipush X11 hx (255 : Int32) rfl (hb hby d4_20) 23 rfl ?_
    refine g_iand X11 hx (hb hby d4_23) 24 rfl ?_
    refine g_goto X11 hx (hb hby d4_24) 28 (by decide) rfl ?_
    exact g_reti X11 hx hret hlk (by decide) (by decide) (hb hby d4_28) ⟨congrArg (fun z => some (Value.int z)) (show f4 lim pos bt = _ from ((if_pos q8).trans rfl)).symm, e12, rfl⟩
theorem ef6 (m_ : MethodId) (x : Int32)  : entryFrame m_ #[(.int x)] 1 = mkF m_ 0 #[.val (.int x)] [] := by first | (simp [entryFrame, mkF, argsToLocals, Value.category]; done) | rfl
theorem d6_0 : decode prog_26_method_16_code 0 = .ok (.iload_n 0, 1) := by decide +kernel
theorem d6_1 : decode prog_26_method_16_code 1 = .ok (.bipush 31, 2) := by decide +kernel
theorem d6_3 : decode prog_26_method_16_code 3 = .ok (.iand, 1) := by decide +kernel
theorem d6_4 : decode prog_26_method_16_code 4 = .ok (.bipush 31, 2) := by decide +kernel
theorem d6_6 : decode prog_26_method_16_code 6 = .ok (.if_icmp .ne 16, 3) := by decide +kernel
theorem d6_22 : decode prog_26_method_16_code 22 = .ok (.return_, 1) := by decide +kernel
set_option maxRecDepth 65536 in
set_option maxHeartbeats 40000000 in
theorem co6 (l : Launch) (Z : State) (a0 : Array Value) (hw : ∀ d ∈ tables_1, d.before a0 Z = true) (x : Int32) (h0 : Heap) (hp : ¬ (x &&& (31 : Int32)) = (31 : Int32)) : Co l (⟨"com/example/bindwick/bindwick/BERReader", "checkType", "(I)V"⟩ : MethodName) prog_26_method_16_code 1 none [] ({ frames := 0, cells := 0, slots := 0, locals := 0 } : Room) Z h0 #[(.int x)] (Pu h0 none) := by
  refine Co.of (plainFor_of_name pn_0) ?_
  intro p_ e_ s_ m_ below meth c_ T0 X0 hx hby hml hown hnm hret hlk hZ e0
  refine Go.cast (ef6 m_ x) ?_
  refine g_iloadN X0 hx rfl (hb hby d6_0) 1 rfl ?_
  refine g_bipush X0 hx (31 : Int32) rfl (hb hby d6_1) 3 rfl ?_
  refine g_iand X0 hx (hb hby d6_3) 4 rfl ?_
  refine g_bipush X0 hx (31 : Int32) rfl (hb hby d6_4) 6 rfl ?_
  refine g_icmp_ne X0 hx (hb hby d6_6) 22 9 (by decide) rfl rfl (fun q6 => ?_) (fun q6 => ?_)
  · exact g_retv X0 hx hret hlk (by decide) (by decide) (hb hby d6_22) ⟨rfl, e0, rfl⟩
  · exact absurd q6 hp
def Q8 (Z : State) (a : Addr) (d : Addr) (lim : Int32) (t : Int32) (tl : List Value) (h0 : Heap) (n0 : Nat) (v : Option Value) (h : Heap) (L : List Loc) : Prop := v = some (.int (0 : Int32)) ∧ Fr n0 L ∧ Keep h0 h [a] ∧ Exa Z h a "com/example/bindwick/bindwick/BERReader" ∧ Fld Z h a "com/example/bindwick/bindwick/BERReader" "data" "[B" (.ref d) ∧ Fld Z h a "com/example/bindwick/bindwick/BERReader" "limit" "I" (.int lim) ∧ Fld Z h a "com/example/bindwick/bindwick/BERReader" "position" "I" (.int (2 : Int32)) ∧ AV Z h d .byte ((.int t) :: (.int (0 : Int32)) :: tl)
theorem ef8 (m_ : MethodId) (a : Addr)  : entryFrame m_ #[(.ref a)] 6 = mkF m_ 0 #[.val (.ref a), .unset, .unset, .unset, .unset, .unset] [] := by first | (simp [entryFrame, mkF, argsToLocals, Value.category]; done) | rfl
theorem d8_0 : decode prog_26_method_18_code 0 = .ok (.aload_n 0, 1) := by decide +kernel
theorem d8_1 : decode prog_26_method_18_code 1 = .ok (.getfield 69, 3) := by decide +kernel
theorem d8_4 : decode prog_26_method_18_code 4 = .ok (.aload_n 0, 1) := by decide +kernel
theorem d8_5 : decode prog_26_method_18_code 5 = .ok (.getfield 16, 3) := by decide +kernel
theorem d8_8 : decode prog_26_method_18_code 8 = .ok (.if_icmp .lt 9, 3) := by decide +kernel
theorem d8_17 : decode prog_26_method_18_code 17 = .ok (.aload_n 0, 1) := by decide +kernel
theorem d8_18 : decode prog_26_method_18_code 18 = .ok (.getfield 12, 3) := by decide +kernel
theorem d8_21 : decode prog_26_method_18_code 21 = .ok (.aload_n 0, 1) := by decide +kernel
theorem d8_22 : decode prog_26_method_18_code 22 = .ok (.dup, 1) := by decide +kernel
theorem d8_23 : decode prog_26_method_18_code 23 = .ok (.getfield 69, 3) := by decide +kernel
theorem d8_26 : decode prog_26_method_18_code 26 = .ok (.dup_x1, 1) := by decide +kernel
theorem d8_27 : decode prog_26_method_18_code 27 = .ok (.iconst 1, 1) := by decide +kernel
theorem d8_28 : decode prog_26_method_18_code 28 = .ok (.iadd, 1) := by decide +kernel
theorem d8_29 : decode prog_26_method_18_code 29 = .ok (.putfield 69, 3) := by decide +kernel
theorem d8_32 : decode prog_26_method_18_code 32 = .ok (.baload, 1) := by decide +kernel
theorem d8_33 : decode prog_26_method_18_code 33 = .ok (.sipush 255, 3) := by decide +kernel
theorem d8_36 : decode prog_26_method_18_code 36 = .ok (.iand, 1) := by decide +kernel
theorem d8_37 : decode prog_26_method_18_code 37 = .ok (.istore_n 1, 1) := by decide +kernel
theorem d8_38 : decode prog_26_method_18_code 38 = .ok (.iload_n 1, 1) := by decide +kernel
theorem d8_39 : decode prog_26_method_18_code 39 = .ok (.sipush 128, 3) := by decide +kernel
theorem d8_42 : decode prog_26_method_18_code 42 = .ok (.if_icmp .ge 5, 3) := by decide +kernel
theorem d8_45 : decode prog_26_method_18_code 45 = .ok (.iload_n 1, 1) := by decide +kernel
theorem d8_46 : decode prog_26_method_18_code 46 = .ok (.ireturn, 1) := by decide +kernel
set_option maxRecDepth 65536 in
set_option maxHeartbeats 40000000 in
theorem co8 (l : Launch) (Z : State) (a0 : Array Value) (hw : ∀ d ∈ tables_1, d.before a0 Z = true) (a : Addr) (d : Addr) (lim : Int32) (t : Int32) (tl : List Value) (h0 : Heap) (n0 : Nat) (Z0 : n0 ≤ h0.size)  (g_a : n0 ≤ a) (E_a : Exa Z h0 a "com/example/bindwick/bindwick/BERReader") (F_data : Fld Z h0 a "com/example/bindwick/bindwick/BERReader" "data" "[B" (.ref d)) (F_limit : Fld Z h0 a "com/example/bindwick/bindwick/BERReader" "limit" "I" (.int lim)) (F_position : Fld Z h0 a "com/example/bindwick/bindwick/BERReader" "position" "I" (.int (1 : Int32))) (A_d : AV Z h0 d .byte ((.int t) :: (.int (0 : Int32)) :: tl)) (ne_da : d ≠ a) (hlim : (1 : Int32) < lim) : Co l (⟨"com/example/bindwick/bindwick/BERReader", "readLength", "()I"⟩ : MethodName) prog_26_method_18_code 6 (some .int) [] ({ frames := 0, cells := 0, slots := 0, locals := 0 } : Room) Z h0 #[(.ref a)] (Q8 Z a d lim t tl h0 n0) := by
  refine Co.of (plainFor_of_name pn_0) ?_
  intro p_ e_ s_ m_ below meth c_ T0 X0 hx hby hml hown hnm hret hlk hZ e0
  have N0 := Fr.nil n0
  refine Go.cast (ef8 m_ a ) ?_
  refine g_aloadN X0 hx rfl rfl (hb hby d8_0) 1 rfl ?_
  refine g_getfield X0 hx hZ hown (host := "") (Or.inl (wd hw 22 rfl)) Via.refl F_position e0 (hb hby d8_1) 4 rfl (fun T1 X2 e3 => ?_)
  show Go p_ e_ below _ T1 (mkF m_ 4 #[.val (.ref a), .unset, .unset, .unset, .unset, .unset] [(.int (1 : Int32))])
  refine g_aloadN X2 hx rfl rfl (hb hby d8_4) 5 rfl ?_
  refine g_getfield X2 hx hZ hown (host := "") (Or.inl (wd hw 15 rfl)) Via.refl F_limit e3 (hb hby d8_5) 8 rfl (fun T4 X5 e6 => ?_)
  show Go p_ e_ below _ T4 (mkF m_ 8 #[.val (.ref a), .unset, .unset, .unset, .unset, .unset] [(.int lim), (.int (1 : Int32))])
  refine g_icmp_lt X5 hx (hb hby d8_8) 17 11 (by decide) rfl rfl (fun q8 => ?_) (fun q8 => ?_)
  · refine g_aloadN X5 hx rfl rfl (hb hby d8_17) 18 rfl ?_
    refine g_getfield X5 hx hZ hown (host := "") (Or.inl (wd hw 13 rfl)) Via.refl F_data e6 (hb hby d8_18) 21 rfl (fun T7 X8 e9 => ?_)
    show Go p_ e_ below _ T7 (mkF m_ 21 #[.val (.ref a), .unset, .unset, .unset, .unset, .unset] [(.ref d)])
    refine g_aloadN X8 hx rfl rfl (hb hby d8_21) 22 rfl ?_
    refine g_dup X8 hx rfl (hb hby d8_22) 23 rfl ?_
    refine g_getfield X8 hx hZ hown (host := "") (Or.inl (wd hw 22 rfl)) Via.refl F_position e9 (hb hby d8_23) 26 rfl (fun T10 X11 e12 => ?_)
    show Go p_ e_ below _ T10 (mkF m_ 26 #[.val (.ref a), .unset, .unset, .unset, .unset, .unset] [(.int (1 : Int32)), (.ref a), (.ref d)])
    refine g_dup_x1 X11 hx rfl rfl (hb hby d8_26) 27 rfl ?_
    refine g_iconst X11 hx (1 : Int32) rfl (hb hby d8_27) 28 rfl ?_
    refine g_iadd X11 hx (hb hby d8_28) 29 rfl ?_
    show Go p_ e_ below _ T10 (mkF m_ 29 #[.val (.ref a), .unset, .unset, .unset, .unset, .unset] [(.int (2 : Int32)), (.ref a), (.int (1 : Int32)), (.ref d)])
    refine g_putfield X11 hx hZ hown (host := "") (Or.inl (wd hw 22 rfl)) Via.refl e12 F_position E_a (Or.inl (wd hw 23 rfl)) (wd hw 2 rfl) (ty := .int) (by decide) rfl rfl (hb hby d8_29) 32 rfl (fun T13 h14 X15 e16 W17 => ?_)
    have F18 := E_a.wr W17
    have F19 := F_data.other W17 (Or.inr (slot_ne (Or.inr (wd hw 14 rfl)) (Or.inl (wd hw 23 rfl)) (by decide) (t := (.array .byte)) (t' := .int) (by decide) (by decide)))
    have F20 := F_limit.other W17 (Or.inr (slot_ne (Or.inr (wd hw 16 rfl)) (Or.inl (wd hw 23 rfl)) (by decide) (t := .int) (t' := .int) (by decide) (by decide)))
    have F21 := F_position.same W17
    have F22 := A_d.other W17 ne_da
    have N23 := Fr.snoc X15 N0 g_a
    have szh24 : n0 ≤ h14.size := Nat.le_trans Z0 (Nat.le_of_eq W17.size.symm)
    have K25 := (Keep.refl h0 [a]).wr W17 (Or.inl (List.mem_of_getElem? (i := 0) rfl))
    show Go p_ e_ below _ T13 (mkF m_ 32 #[.val (.ref a), .unset, .unset, .unset, .unset, .unset] [(.int (1 : Int32)), (.ref d)])
    refine g_baload X15 hx hZ e16 F22 (by decide) rfl (hb hby d8_32) 33 rfl ?_
    show Go p_ e_ below _ T13 (mkF m_ 33 #[.val (.ref a), .unset, .unset, .unset, .unset, .unset] [(.int (0 : Int32))])
    refine g_sipush X15 hx (255 : Int32) rfl (hb hby d8_33) 36 rfl ?_
    refine g_iand X15 hx (hb hby d8_36) 37 rfl ?_
    show Go p_ e_ below _ T13 (mkF m_ 37 #[.val (.ref a), .unset, .unset, .unset, .unset, .unset] [(.int (0 : Int32))])
    refine g_istoreN X15 hx #[.val (.ref a), .val (.int (0 : Int32)), .unset, .unset, .unset, .unset] rfl (hb hby d8_37) 38 rfl ?_
    refine g_iloadN X15 hx rfl (hb hby d8_38) 39 rfl ?_
    refine g_sipush X15 hx (128 : Int32) rfl (hb hby d8_39) 42 rfl ?_
    refine g_icmp_ge X15 hx (hb hby d8_42) 47 45 (by decide) rfl rfl (fun q42 => ?_) (fun q42 => ?_)
    · exact absurd (by decide) q42
    · refine g_iloadN X15 hx rfl (hb hby d8_45) 46 rfl ?_
      exact g_reti X15 hx hret hlk (by decide) (by decide) (hb hby d8_46) (by rw [e16]; exact ⟨rfl, N23, K25, F18, F19, F20, F21, F22⟩)
  · exact absurd hlim q8
theorem own_lim {lim : Int32} (h : (1 : Int32) < lim) : ¬ (lim - (2 : Int32)) < (0 : Int32) := by
  have e := c_isub lim 2
  have r := rng32 lim
  have r2 := rng32 (lim - 2)
  rw [Int32.lt_iff_toInt_lt] at *
  simp only [Int32.reduceToInt] at *
  omega
theorem own_lim0 {lim : Int32} (h : (1 : Int32) < lim) : (0 : Int32) < lim := by
  rw [Int32.lt_iff_toInt_lt] at *
  simp only [Int32.reduceToInt] at *
  omega
def Q7 (Z : State) (a : Addr) (d : Addr) (lim : Int32) (t : Int32) (tl : List Value) (h0 : Heap) (n0 : Nat) (v : Option Value) (h : Heap) (L : List Loc) : Prop := v = some (.int (0 : Int32)) ∧ Fr n0 L ∧ Keep h0 h [a] ∧ Exa Z h a "com/example/bindwick/bindwick/BERReader" ∧ Fld Z h a "com/example/bindwick/bindwick/BERReader" "data" "[B" (.ref d) ∧ Fld Z h a "com/example/bindwick/bindwick/BERReader" "limit" "I" (.int lim) ∧ Fld Z h a "com/example/bindwick/bindwick/BERReader" "position" "I" (.int (2 : Int32)) ∧ AV Z h d .byte ((.int t) :: (.int (0 : Int32)) :: tl)
theorem ef7 (m_ : MethodId) (a : Addr)  : entryFrame m_ #[(.ref a)] 2 = mkF m_ 0 #[.val (.ref a), .unset] [] := by first | (simp [entryFrame, mkF, argsToLocals, Value.category]; done) | rfl
theorem d7_0 : decode prog_26_method_17_code 0 = .ok (.aload_n 0, 1) := by decide +kernel
theorem pd_1 : parseMethodDescriptor "()I" = some ⟨[], some .int⟩ := by decide +kernel
theorem d7_1 : decode prog_26_method_17_code 1 = .ok (.invokevirtual 46, 3) := by decide +kernel
theorem d7_4 : decode prog_26_method_17_code 4 = .ok (.istore_n 1, 1) := by decide +kernel
theorem d7_5 : decode prog_26_method_17_code 5 = .ok (.iload_n 1, 1) := by decide +kernel
theorem d7_6 : decode prog_26_method_17_code 6 = .ok (.aload_n 0, 1) := by decide +kernel
theorem d7_7 : decode prog_26_method_17_code 7 = .ok (.getfield 16, 3) := by decide +kernel
theorem d7_10 : decode prog_26_method_17_code 10 = .ok (.aload_n 0, 1) := by decide +kernel
theorem d7_11 : decode prog_26_method_17_code 11 = .ok (.getfield 69, 3) := by decide +kernel
theorem d7_14 : decode prog_26_method_17_code 14 = .ok (.isub, 1) := by decide +kernel
theorem d7_15 : decode prog_26_method_17_code 15 = .ok (.if_icmp .le 13, 3) := by decide +kernel
theorem d7_28 : decode prog_26_method_17_code 28 = .ok (.iload_n 1, 1) := by decide +kernel
theorem d7_29 : decode prog_26_method_17_code 29 = .ok (.ireturn, 1) := by decide +kernel
set_option maxRecDepth 65536 in
set_option maxHeartbeats 40000000 in
theorem co7 (l : Launch) (Z : State) (a0 : Array Value) (hw : ∀ d ∈ tables_1, d.before a0 Z = true) (a : Addr) (d : Addr) (lim : Int32) (t : Int32) (tl : List Value) (h0 : Heap) (n0 : Nat) (Z0 : n0 ≤ h0.size)  (g_a : n0 ≤ a) (E_a : Exa Z h0 a "com/example/bindwick/bindwick/BERReader") (F_data : Fld Z h0 a "com/example/bindwick/bindwick/BERReader" "data" "[B" (.ref d)) (F_limit : Fld Z h0 a "com/example/bindwick/bindwick/BERReader" "limit" "I" (.int lim)) (F_position : Fld Z h0 a "com/example/bindwick/bindwick/BERReader" "position" "I" (.int (1 : Int32))) (A_d : AV Z h0 d .byte ((.int t) :: (.int (0 : Int32)) :: tl)) (ne_da : d ≠ a) (hlim : (1 : Int32) < lim) : Co l (⟨"com/example/bindwick/bindwick/BERReader", "readBoundedLength", "()I"⟩ : MethodName) prog_26_method_17_code 2 (some .int) [] ({ frames := 1, cells := 0, slots := 0, locals := 18 } : Room) Z h0 #[(.ref a)] (Q7 Z a d lim t tl h0 n0) := by
  refine Co.of (plainFor_of_name pn_0) ?_
  intro p_ e_ s_ m_ below meth c_ T0 X0 hx hby hml hown hnm hret hlk hZ e0
  have N0 := Fr.nil n0
  refine Go.cast (ef7 m_ a ) ?_
  refine g_aloadN X0 hx rfl rfl (hb hby d7_0) 1 rfl ?_
  refine g_callP X0 hx hZ hown (wd hw 36 rfl) (wd hw 37 rfl) (wd hw 38 rfl) (wd hw 2 rfl) (wd hw 3 rfl) (wd hw 39 rfl) (by decide) e0 [] [] E_a rfl (co8 l Z a0 hw a d lim t tl h0 n0 Z0 g_a E_a F_data F_limit F_position A_d ne_da hlim) (lenOf pd_1 rfl) 0 (Nat.le_of_eq rfl) (by decide) (by decide) (by decide) (by decide) (by rw [hml]; rfl) (hb hby d7_1) 4 rfl (fun r1 T2 L3 X4 Q5 => ?_)
  obtain ⟨h6, e7⟩ : ∃ h, T2.heap = h := ⟨_, rfl⟩
  rw [e7] at Q5
  obtain ⟨rfl, n8, K9, E10, F11, F12, F13, A14⟩ := Q5
  have N15 := Fr.app N0 n8
  have F16 := E_a.keep K9
  have F17 := A_d.keep K9 (ninS ne_da nin0)
  have szh18 : n0 ≤ h6.size := Nat.le_trans Z0 K9.1
  have K19 := (Keep.refl h0 [a]).trans K9 (allS (Or.inl (List.mem_of_getElem? (i := 0) rfl)) all0)
  show Go p_ e_ below _ T2 (mkF m_ 4 #[.val (.ref a), .unset] [(.int (0 : Int32))])
  refine g_istoreN X4 hx #[.val (.ref a), .val (.int (0 : Int32))] rfl (hb hby d7_4) 5 rfl ?_
  refine g_iloadN X4 hx rfl (hb hby d7_5) 6 rfl ?_
  refine g_aloadN X4 hx rfl rfl (hb hby d7_6) 7 rfl ?_
  refine g_getfield X4 hx hZ hown (host := "") (Or.inl (wd hw 15 rfl)) Via.refl F12 e7 (hb hby d7_7) 10 rfl (fun T20 X21 e22 => ?_)
  show Go p_ e_ below _ T20 (mkF m_ 10 #[.val (.ref a), .val (.int (0 : Int32))] [(.int lim), (.int (0 : Int32))])
  refine g_aloadN X21 hx rfl rfl (hb hby d7_10) 11 rfl ?_
  refine g_getfield X21 hx hZ hown (host := "") (Or.inl (wd hw 22 rfl)) Via.refl F13 e22 (hb hby d7_11) 14 rfl (fun T23 X24 e25 => ?_)
  show Go p_ e_ below _ T23 (mkF m_ 14 #[.val (.ref a), .val (.int (0 : Int32))] [(.int (2 : Int32)), (.int lim), (.int (0 : Int32))])
  refine g_isub X24 hx (hb hby d7_14) 15 rfl ?_
  refine g_icmp_le X24 hx (hb hby d7_15) 28 18 (by decide) rfl rfl (fun q15 => ?_) (fun q15 => ?_)
  · refine g_iloadN X24 hx rfl (hb hby d7_28) 29 rfl ?_
    exact g_reti X24 hx hret hlk (by decide) (by decide) (hb hby d7_29) (by rw [e25]; exact ⟨rfl, N15, K19, E10, F11, F12, F13, A14⟩)
  · exact absurd q15 (own_lim hlim)
def Q5 (Z : State) (a : Addr) (d : Addr) (lim : Int32) (t : Int32) (tl : List Value) (h0 : Heap) (n0 : Nat) (v : Option Value) (h : Heap) (L : List Loc) : Prop := v = none ∧ Fr n0 L ∧ Keep h0 h [a] ∧ Exa Z h a "com/example/bindwick/bindwick/BERReader" ∧ Fld Z h a "com/example/bindwick/bindwick/BERReader" "data" "[B" (.ref d) ∧ Fld Z h a "com/example/bindwick/bindwick/BERReader" "limit" "I" (.int lim) ∧ Fld Z h a "com/example/bindwick/bindwick/BERReader" "position" "I" (.int (2 : Int32)) ∧ AV Z h d .byte ((.int t) :: (.int (0 : Int32)) :: tl)
theorem ef5 (m_ : MethodId) (a : Addr)  : entryFrame m_ #[(.ref a)] 2 = mkF m_ 0 #[.val (.ref a), .unset] [] := by first | (simp [entryFrame, mkF, argsToLocals, Value.category]; done) | rfl
theorem d5_0 : decode prog_26_method_13_code 0 = .ok (.aload_n 0, 1) := by decide +kernel
theorem d5_1 : decode prog_26_method_13_code 1 = .ok (.getfield 69, 3) := by decide +kernel
theorem d5_4 : decode prog_26_method_13_code 4 = .ok (.aload_n 0, 1) := by decide +kernel
theorem d5_5 : decode prog_26_method_13_code 5 = .ok (.getfield 16, 3) := by decide +kernel
theorem d5_8 : decode prog_26_method_13_code 8 = .ok (.if_icmp .lt 9, 3) := by decide +kernel
theorem d5_17 : decode prog_26_method_13_code 17 = .ok (.aload_n 0, 1) := by decide +kernel
theorem d5_18 : decode prog_26_method_13_code 18 = .ok (.getfield 12, 3) := by decide +kernel
theorem d5_21 : decode prog_26_method_13_code 21 = .ok (.aload_n 0, 1) := by decide +kernel
theorem d5_22 : decode prog_26_method_13_code 22 = .ok (.getfield 69, 3) := by decide +kernel
theorem d5_25 : decode prog_26_method_13_code 25 = .ok (.baload, 1) := by decide +kernel
theorem d5_26 : decode prog_26_method_13_code 26 = .ok (.sipush 255, 3) := by decide +kernel
theorem d5_29 : decode prog_26_method_13_code 29 = .ok (.iand, 1) := by decide +kernel
theorem pd_2 : parseMethodDescriptor "(I)V" = some ⟨[.int], none⟩ := by decide +kernel
theorem d5_30 : decode prog_26_method_13_code 30 = .ok (.invokestatic 100, 3) := by decide +kernel
theorem d5_33 : decode prog_26_method_13_code 33 = .ok (.aload_n 0, 1) := by decide +kernel
theorem d5_34 : decode prog_26_method_13_code 34 = .ok (.dup, 1) := by decide +kernel
theorem d5_35 : decode prog_26_method_13_code 35 = .ok (.getfield 69, 3) := by decide +kernel
theorem d5_38 : decode prog_26_method_13_code 38 = .ok (.iconst 1, 1) := by decide +kernel
theorem d5_39 : decode prog_26_method_13_code 39 = .ok (.iadd, 1) := by decide +kernel
theorem d5_40 : decode prog_26_method_13_code 40 = .ok (.putfield 69, 3) := by decide +kernel
theorem d5_43 : decode prog_26_method_13_code 43 = .ok (.aload_n 0, 1) := by decide +kernel
theorem d5_44 : decode prog_26_method_13_code 44 = .ok (.invokevirtual 104, 3) := by decide +kernel
theorem d5_47 : decode prog_26_method_13_code 47 = .ok (.istore_n 1, 1) := by decide +kernel
theorem d5_48 : decode prog_26_method_13_code 48 = .ok (.aload_n 0, 1) := by decide +kernel
theorem d5_49 : decode prog_26_method_13_code 49 = .ok (.dup, 1) := by decide +kernel
theorem d5_50 : decode prog_26_method_13_code 50 = .ok (.getfield 69, 3) := by decide +kernel
theorem d5_53 : decode prog_26_method_13_code 53 = .ok (.iload_n 1, 1) := by decide +kernel
theorem d5_54 : decode prog_26_method_13_code 54 = .ok (.iadd, 1) := by decide +kernel
theorem d5_55 : decode prog_26_method_13_code 55 = .ok (.putfield 69, 3) := by decide +kernel
theorem d5_58 : decode prog_26_method_13_code 58 = .ok (.return_, 1) := by decide +kernel
set_option maxRecDepth 65536 in
set_option maxHeartbeats 40000000 in
theorem co5 (l : Launch) (Z : State) (a0 : Array Value) (hw : ∀ d ∈ tables_1, d.before a0 Z = true) (a : Addr) (d : Addr) (lim : Int32) (t : Int32) (tl : List Value) (h0 : Heap) (n0 : Nat) (Z0 : n0 ≤ h0.size)  (g_a : n0 ≤ a) (E_a : Exa Z h0 a "com/example/bindwick/bindwick/BERReader") (F_data : Fld Z h0 a "com/example/bindwick/bindwick/BERReader" "data" "[B" (.ref d)) (F_limit : Fld Z h0 a "com/example/bindwick/bindwick/BERReader" "limit" "I" (.int lim)) (F_position : Fld Z h0 a "com/example/bindwick/bindwick/BERReader" "position" "I" (.int (0 : Int32))) (A_d : AV Z h0 d .byte ((.int t) :: (.int (0 : Int32)) :: tl)) (ne_da : d ≠ a) (hlim : (1 : Int32) < lim) (hck : ¬ ((t &&& (255 : Int32)) &&& (31 : Int32)) = (31 : Int32)) : Co l (⟨"com/example/bindwick/bindwick/BERReader", "skipElement", "()V"⟩ : MethodName) prog_26_method_13_code 2 none [] ({ frames := 2, cells := 0, slots := 0, locals := 40 } : Room) Z h0 #[(.ref a)] (Q5 Z a d lim t tl h0 n0) := by
  refine Co.of (plainFor_of_name pn_0) ?_
  intro p_ e_ s_ m_ below meth c_ T0 X0 hx hby hml hown hnm hret hlk hZ e0
  have N0 := Fr.nil n0
  refine Go.cast (ef5 m_ a ) ?_
  refine g_aloadN X0 hx rfl rfl (hb hby d5_0) 1 rfl ?_
  refine g_getfield X0 hx hZ hown (host := "") (Or.inl (wd hw 22 rfl)) Via.refl F_position e0 (hb hby d5_1) 4 rfl (fun T1 X2 e3 => ?_)
  show Go p_ e_ below _ T1 (mkF m_ 4 #[.val (.ref a), .unset] [(.int (0 : Int32))])
  refine g_aloadN X2 hx rfl rfl (hb hby d5_4) 5 rfl ?_
  refine g_getfield X2 hx hZ hown (host := "") (Or.inl (wd hw 15 rfl)) Via.refl F_limit e3 (hb hby d5_5) 8 rfl (fun T4 X5 e6 => ?_)
  show Go p_ e_ below _ T4 (mkF m_ 8 #[.val (.ref a), .unset] [(.int lim), (.int (0 : Int32))])
  refine g_icmp_lt X5 hx (hb hby d5_8) 17 11 (by decide) rfl rfl (fun q8 => ?_) (fun q8 => ?_)
  · refine g_aloadN X5 hx rfl rfl (hb hby d5_17) 18 rfl ?_
    refine g_getfield X5 hx hZ hown (host := "") (Or.inl (wd hw 13 rfl)) Via.refl F_data e6 (hb hby d5_18) 21 rfl (fun T7 X8 e9 => ?_)
    show Go p_ e_ below _ T7 (mkF m_ 21 #[.val (.ref a), .unset] [(.ref d)])
    refine g_aloadN X8 hx rfl rfl (hb hby d5_21) 22 rfl ?_
    refine g_getfield X8 hx hZ hown (host := "") (Or.inl (wd hw 22 rfl)) Via.refl F_position e9 (hb hby d5_22) 25 rfl (fun T10 X11 e12 => ?_)
    show Go p_ e_ below _ T10 (mkF m_ 25 #[.val (.ref a), .unset] [(.int (0 : Int32)), (.ref d)])
    refine g_baload X11 hx hZ e12 A_d (by decide) rfl (hb hby d5_25) 26 rfl ?_
    show Go p_ e_ below _ T10 (mkF m_ 26 #[.val (.ref a), .unset] [(.int t)])
    refine g_sipush X11 hx (255 : Int32) rfl (hb hby d5_26) 29 rfl ?_
    refine g_iand X11 hx (hb hby d5_29) 30 rfl ?_
    refine g_callS X11 hx hZ hown (wd hw 29 rfl) (wd hw 30 rfl) (wd hw 3 rfl) (wd hw 31 rfl) (by decide) e12 [(.int (t &&& (255 : Int32)))] [] rfl (co6 l Z a0 hw (t &&& (255 : Int32)) h0 hck) (lenOf pd_2 rfl) 0 (Nat.le_of_eq rfl) (by decide) (by decide) (by decide) (by decide) (by rw [hml]; rfl) (hb hby d5_30) 33 rfl (pu_cont fun T14 X13 e15 => ?_)
    show Go p_ e_ below _ T14 (mkF m_ 33 #[.val (.ref a), .unset] [])
    refine g_aloadN X13 hx rfl rfl (hb hby d5_33) 34 rfl ?_
    refine g_dup X13 hx rfl (hb hby d5_34) 35 rfl ?_
    refine g_getfield X13 hx hZ hown (host := "") (Or.inl (wd hw 22 rfl)) Via.refl F_position e15 (hb hby d5_35) 38 rfl (fun T16 X17 e18 => ?_)
    show Go p_ e_ below _ T16 (mkF m_ 38 #[.val (.ref a), .unset] [(.int (0 : Int32)), (.ref a)])
    refine g_iconst X17 hx (1 : Int32) rfl (hb hby d5_38) 39 rfl ?_
    refine g_iadd X17 hx (hb hby d5_39) 40 rfl ?_
    show Go p_ e_ below _ T16 (mkF m_ 40 #[.val (.ref a), .unset] [(.int (1 : Int32)), (.ref a)])
    refine g_putfield X17 hx hZ hown (host := "") (Or.inl (wd hw 22 rfl)) Via.refl e18 F_position E_a (Or.inl (wd hw 23 rfl)) (wd hw 2 rfl) (ty := .int) (by decide) rfl rfl (hb hby d5_40) 43 rfl (fun T19 h20 X21 e22 W23 => ?_)
    have F24 := E_a.wr W23
    have F25 := F_data.other W23 (Or.inr (slot_ne (Or.inr (wd hw 14 rfl)) (Or.inl (wd hw 23 rfl)) (by decide) (t := (.array .byte)) (t' := .int) (by decide) (by decide)))
    have F26 := F_limit.other W23 (Or.inr (slot_ne (Or.inr (wd hw 16 rfl)) (Or.inl (wd hw 23 rfl)) (by decide) (t := .int) (t' := .int) (by decide) (by decide)))
    have F27 := F_position.same W23
    have F28 := A_d.other W23 ne_da
    have N29 := Fr.snoc X21 N0 g_a
    have szh30 : n0 ≤ h20.size := Nat.le_trans Z0 (Nat.le_of_eq W23.size.symm)
    have K31 := (Keep.refl h0 [a]).wr W23 (Or.inl (List.mem_of_getElem? (i := 0) rfl))
    show Go p_ e_ below _ T19 (mkF m_ 43 #[.val (.ref a), .unset] [])
    refine g_aloadN X21 hx rfl rfl (hb hby d5_43) 44 rfl ?_
    refine g_callP X21 hx hZ hown (wd hw 32 rfl) (wd hw 33 rfl) (wd hw 34 rfl) (wd hw 2 rfl) (wd hw 3 rfl) (wd hw 35 rfl) (by decide) e22 [] [] F24 rfl (co7 l Z a0 hw a d lim t tl h20 n0 szh30 g_a F24 F25 F26 F27 F28 ne_da hlim) (lenOf pd_1 rfl) 0 (Nat.le_of_eq rfl) (by decide) (by decide) (by decide) (by decide) (by rw [hml]; rfl) (hb hby d5_44) 47 rfl (fun r32 T33 L34 X35 Q36 => ?_)
    obtain ⟨h37, e38⟩ : ∃ h, T33.heap = h := ⟨_, rfl⟩
    rw [e38] at Q36
    obtain ⟨rfl, n39, K40, E41, F42, F43, F44, A45⟩ := Q36
    have N46 := Fr.app N29 n39
    have F47 := F24.keep K40
    have F48 := F28.keep K40 (ninS ne_da nin0)
    have szh49 : n0 ≤ h37.size := Nat.le_trans szh30 K40.1
    have K50 := K31.trans K40 (allS (Or.inl (List.mem_of_getElem? (i := 0) rfl)) all0)
    show Go p_ e_ below _ T33 (mkF m_ 47 #[.val (.ref a), .unset] [(.int (0 : Int32))])
    refine g_istoreN X35 hx #[.val (.ref a), .val (.int (0 : Int32))] rfl (hb hby d5_47) 48 rfl ?_
    refine g_aloadN X35 hx rfl rfl (hb hby d5_48) 49 rfl ?_
    refine g_dup X35 hx rfl (hb hby d5_49) 50 rfl ?_
    refine g_getfield X35 hx hZ hown (host := "") (Or.inl (wd hw 22 rfl)) Via.refl F44 e38 (hb hby d5_50) 53 rfl (fun T51 X52 e53 => ?_)
    show Go p_ e_ below _ T51 (mkF m_ 53 #[.val (.ref a), .val (.int (0 : Int32))] [(.int (2 : Int32)), (.ref a)])
    refine g_iloadN X52 hx rfl (hb hby d5_53) 54 rfl ?_
    refine g_iadd X52 hx (hb hby d5_54) 55 rfl ?_
    show Go p_ e_ below _ T51 (mkF m_ 55 #[.val (.ref a), .val (.int (0 : Int32))] [(.int (2 : Int32)), (.ref a)])
    refine g_putfield X52 hx hZ hown (host := "") (Or.inl (wd hw 22 rfl)) Via.refl e53 F44 E41 (Or.inl (wd hw 23 rfl)) (wd hw 2 rfl) (ty := .int) (by decide) rfl rfl (hb hby d5_55) 58 rfl (fun T54 h55 X56 e57 W58 => ?_)
    have F59 := E41.wr W58
    have F60 := A45.other W58 ne_da
    have F61 := F42.other W58 (Or.inr (slot_ne (Or.inr (wd hw 14 rfl)) (Or.inl (wd hw 23 rfl)) (by decide) (t := (.array .byte)) (t' := .int) (by decide) (by decide)))
    have F62 := F43.other W58 (Or.inr (slot_ne (Or.inr (wd hw 16 rfl)) (Or.inl (wd hw 23 rfl)) (by decide) (t := .int) (t' := .int) (by decide) (by decide)))
    have F63 := F44.same W58
    have N64 := Fr.snoc X56 N46 g_a
    have szh65 : n0 ≤ h55.size := Nat.le_trans szh49 (Nat.le_of_eq W58.size.symm)
    have K66 := K50.wr W58 (Or.inl (List.mem_of_getElem? (i := 0) rfl))
    show Go p_ e_ below _ T54 (mkF m_ 58 #[.val (.ref a), .val (.int (0 : Int32))] [])
    exact g_retv X56 hx hret hlk (by decide) (by decide) (hb hby d5_58) (by rw [e57]; exact ⟨rfl, N64, K66, F59, F61, F62, F63, F60⟩)
  · exact absurd (own_lim0 hlim) q8
theorem own_byte (x : Int32) : (x.toInt8.toInt32 &&& (255 : Int32)) = x &&& (255 : Int32) := by
  have e1 : (x.toInt8.toInt32 &&& (255 : Int32)).toInt = x.toInt8.toInt32.toInt % (2 ^ 8 : Nat) := c_mask _ 255 8 (by decide) (by decide)
  have e2 : (x &&& (255 : Int32)).toInt = x.toInt % (2 ^ 8 : Nat) := c_mask _ 255 8 (by decide) (by decide)
  have e3 := c_i2b x
  apply Int32.toInt_inj.mp
  omega
theorem own_b4 (x : Int32) (v : Int32) (h : x &&& (3 : Int32) = v) : v = 0 ∨ v = 1 ∨ v = 2 ∨ v = 3 := by
  subst h
  have e : (x &&& (3 : Int32)).toInt = x.toInt % (2 ^ 2 : Nat) := c_mask x 3 2 (by decide) (by decide)
  simp only [← Int32.toInt_inj, Int32.reduceToInt]
  omega
theorem own_b2 (x : Int32) (v : Int32) (h : x &&& (1 : Int32) = v) : v = 0 ∨ v = 1 := by subst h; exact and_one x
theorem own_pk (lim pos bt : Int32) (h : pos < lim) : f4 lim pos bt = bt &&& (255 : Int32) := if_pos h
theorem own_pk1 (lim pos bt : Int32) (h : ¬ pos < lim) : f4 lim pos bt = -1 := if_neg h
theorem own_t8 : ∀ k : Fin 256, ((if ((Int32.ofNat k.1) &&& (31 : Int32)) = (31 : Int32) then ((Int32.ofNat k.1) ^^^ (1 : Int32)) else (Int32.ofNat k.1)) &&& (255 : Int32)) = (if ((Int32.ofNat k.1) &&& (31 : Int32)) = (31 : Int32) then ((Int32.ofNat k.1) ^^^ (1 : Int32)) else (Int32.ofNat k.1)) ∧ ¬ ((if ((Int32.ofNat k.1) &&& (31 : Int32)) = (31 : Int32) then ((Int32.ofNat k.1) ^^^ (1 : Int32)) else (Int32.ofNat k.1)) &&& (31 : Int32)) = (31 : Int32) := by decide +kernel
theorem own_t (x t0 z : Int32) (h0 : (x &&& (255 : Int32)) = t0) (hz : z = (if (t0 &&& (31 : Int32)) = (31 : Int32) then (t0 ^^^ (1 : Int32)) else t0)) : z &&& (255 : Int32) = z ∧ ¬ (z &&& (31 : Int32)) = (31 : Int32) := by
  have e : (x &&& (255 : Int32)).toInt = x.toInt % (2 ^ 8 : Nat) := c_mask x 255 8 (by decide) (by decide)
  have hk : ∃ k : Fin 256, t0 = Int32.ofNat k.1 := by
    refine ⟨⟨t0.toInt.toNat, by rw [h0] at e; omega⟩, ?_⟩
    apply Int32.toInt_inj.mp
    rw [h0] at e
    rw [Int32.toInt_ofNat_of_lt (by simp only []; omega)]
    simp only []
    omega
  obtain ⟨k, rfl⟩ := hk
  subst hz
  exact own_t8 k
theorem ef0 (m_ : MethodId) (x0 : Int32) (x1 : Int32) (x2 : Int32) (x3 : Int32)  : entryFrame m_ #[(.int x0), (.int x1), (.int x2), (.int x3)] maxLocals = mkF m_ 0 #[.val (.int x0), .val (.int x1), .val (.int x2), .val (.int x3), .unset, .unset, .unset, .unset, .unset, .unset, .unset, .unset, .unset, .unset, .unset, .unset, .unset, .unset] [] := by first | (simp [entryFrame, mkF, argsToLocals, Value.category, maxLocals]; done) | rfl
theorem pn_1 : plainName "com/example/bindwick/bindwick/BERReaderPeekTypePinLaw" = true := by first | (simp [plainName, overriddenIn]; done) | decide +kernel
theorem pd_3 : parseMethodDescriptor "([B)V" = some ⟨[(.array .byte)], none⟩ := by decide +kernel
theorem pd_4 : parseMethodDescriptor "()V" = some ⟨[], none⟩ := by decide +kernel
set_option maxRecDepth 65536 in
set_option maxHeartbeats 40000000 in
theorem rm0 (l : Launch) (Z : State) (a0 : Array Value) (hw : ∀ d ∈ tables_1, d.before a0 Z = true) (ws : List Jvm.Cond) (x0 : Int32) (x1 : Int32) (x2 : Int32) (x3 : Int32) (h0 : Heap)  : Co l x code maxLocals ret ws room_1 Z h0 #[(.int x0), (.int x1), (.int x2), (.int x3)] (fun v h L => v = some (.int 1) ∧ Fr h0.size L) := by
  refine Co.of (plainFor_of_name pn_1) ?_
  intro p_ e_ s_ m_ below meth c_ T0 X0 hx hby hml hown hnm hret hlk hZ e0
  have N0 := Fr.nil h0.size
  refine Go.cast (ef0 m_ x0 x1 x2 x3) ?_
  refine g_iloadN X0 hx rfl (hb hby at_0) 1 rfl ?_
  refine g_iconst X0 hx (3 : Int32) rfl (hb hby at_1) 2 rfl ?_
  refine g_iand X0 hx (hb hby at_2) 3 rfl ?_
  generalize hv1 : (x0 &&& (3 : Int32)) = v1
  refine g_istore X0 hx #[.val (.int x0), .val (.int x1), .val (.int x2), .val (.int x3), .val (.int v1), .unset, .unset, .unset, .unset, .unset, .unset, .unset, .unset, .unset, .unset, .unset, .unset, .unset] rfl (hb hby at_3) 5 rfl ?_
  refine g_iloadN X0 hx rfl (hb hby at_5) 6 rfl ?_
  refine g_iconst X0 hx (2 : Int32) rfl (hb hby at_6) 7 rfl ?_
  refine g_iushr X0 hx (hb hby at_7) 8 rfl ?_
  refine g_iconst X0 hx (1 : Int32) rfl (hb hby at_8) 9 rfl ?_
  refine g_iand X0 hx (hb hby at_9) 10 rfl ?_
  generalize hv2 : ((XT.ushr x0 (2 : Int32)) &&& (1 : Int32)) = v2
  refine g_istore X0 hx #[.val (.int x0), .val (.int x1), .val (.int x2), .val (.int x3), .val (.int v1), .val (.int v2), .unset, .unset, .unset, .unset, .unset, .unset, .unset, .unset, .unset, .unset, .unset, .unset] rfl (hb hby at_10) 12 rfl ?_
  rcases own_b4 _ _ hv1 with rfl | rfl | rfl | rfl
  · show Go p_ e_ below _ T0 (mkF m_ 12 #[.val (.int x0), .val (.int x1), .val (.int x2), .val (.int x3), .val (.int (0 : Int32)), .val (.int v2), .unset, .unset, .unset, .unset, .unset, .unset, .unset, .unset, .unset, .unset, .unset, .unset] [])
    refine g_iload X0 hx rfl (hb hby at_12) 14 rfl ?_
    refine g_newarray X0 hx hZ (aty := .byte) (wd hw 0 rfl) e0 (by decide) 0 (by decide) (by decide) (by decide) (by decide) [] rfl (hb hby at_14) 16 rfl (fun T4 h5 b6 X7 e8 g9 E10 A11 => ?_)
    have sz12 : h0.size ≤ b6 := Nat.le_trans (Nat.le_refl h0.size) (Nat.le_of_eq g9.symm)
    have szh13 : h0.size ≤ h5.size := Nat.le_trans (Nat.le_refl h0.size) E10.1
    have A14 : AV Z h5 b6 .byte [] := A11
    show Go p_ e_ below _ T4 (mkF m_ 16 #[.val (.int x0), .val (.int x1), .val (.int x2), .val (.int x3), .val (.int (0 : Int32)), .val (.int v2), .unset, .unset, .unset, .unset, .unset, .unset, .unset, .unset, .unset, .unset, .unset, .unset] [(.ref b6)])
    refine g_astore X7 hx #[.val (.int x0), .val (.int x1), .val (.int x2), .val (.int x3), .val (.int (0 : Int32)), .val (.int v2), .val (.ref b6), .unset, .unset, .unset, .unset, .unset, .unset, .unset, .unset, .unset, .unset, .unset] rfl rfl (hb hby at_16) 18 rfl ?_
    refine g_iload X7 hx rfl (hb hby at_18) 20 rfl ?_
    refine g_if_le X7 hx (hb hby at_20) 29 23 (by decide) rfl rfl (fun q20 => ?_) (fun q20 => ?_)
    · refine g_iload X7 hx rfl (hb hby at_29) 31 rfl ?_
      refine g_iconst X7 hx (1 : Int32) rfl (hb hby at_31) 32 rfl ?_
      refine g_icmp_le X7 hx (hb hby at_32) 41 35 (by decide) rfl rfl (fun q32 => ?_) (fun q32 => ?_)
      · refine g_iload X7 hx rfl (hb hby at_41) 43 rfl ?_
        refine g_iconst X7 hx (2 : Int32) rfl (hb hby at_43) 44 rfl ?_
        refine g_icmp_le X7 hx (hb hby at_44) 53 47 (by decide) rfl rfl (fun q44 => ?_) (fun q44 => ?_)
        · refine g_new X7 hx hZ hown (wd hw 1 rfl) (wd hw 2 rfl) (wd hw 3 rfl) e8 (hb hby at_53) (by decide) (by decide) 56 rfl (fun T15 h16 b17 X18 e19 g20 E21 A22 D23 => ?_)
          have ne24 : b6 ≠ b17 := Nat.ne_of_lt (Nat.lt_of_lt_of_eq A14.lt g20.symm)
          have F25 := A14.ext E21
          have sz26 : h0.size ≤ b17 := Nat.le_trans szh13 (Nat.le_of_eq g20.symm)
          have szh27 : h0.size ≤ h16.size := Nat.le_trans szh13 E21.1
          have F28 : Fld Z h16 b17 "com/example/bindwick/bindwick/BERReader" "data" "[B" .null := D23 (Or.inr (wd hw 14 rfl)) (ty := (.array .byte)) (by decide)
          have F29 : Fld Z h16 b17 "com/example/bindwick/bindwick/BERReader" "limit" "I" (.int (0 : Int32)) := D23 (Or.inr (wd hw 16 rfl)) (ty := .int) (by decide)
          have F30 : Fld Z h16 b17 "com/example/bindwick/bindwick/BERReader" "position" "I" (.int (0 : Int32)) := D23 (Or.inl (wd hw 23 rfl)) (ty := .int) (by decide)
          show Go p_ e_ below _ T15 (mkF m_ 56 #[.val (.int x0), .val (.int x1), .val (.int x2), .val (.int x3), .val (.int (0 : Int32)), .val (.int v2), .val (.ref b6), .unset, .unset, .unset, .unset, .unset, .unset, .unset, .unset, .unset, .unset, .unset] [(.ref b17)])
          refine g_dup X18 hx rfl (hb hby at_56) 57 rfl ?_
          refine g_aload X18 hx rfl rfl (hb hby at_57) 59 rfl ?_
          refine g_init X18 hx hZ hown (wd hw 4 rfl) rfl (wd hw 5 rfl) (wd hw 3 rfl) (wd hw 6 rfl) (by decide) e19 [(.ref b6)] [(.ref b17)] rfl (co1 l Z a0 hw b17 b6 [] h16 h0.size szh27 sz26 A22 F28 F29 F30 F25 ne24) (lenOf pd_3 rfl) 1 (Nat.le_of_eq rfl) (by decide) (by decide) (by decide) (by decide) (by rw [hml]; rfl) (hb hby at_59) 62 rfl (fun r31 T32 L33 X34 Q35 => ?_)
          obtain ⟨h36, e37⟩ : ∃ h, T32.heap = h := ⟨_, rfl⟩
          rw [e37] at Q35
          obtain ⟨rfl, n38, K39, E40, F41, F42, F43⟩ := Q35
          have N44 := Fr.app N0 n38
          have F45 := F25.keep K39 (ninS ne24 nin0)
          have F46 := A22.keep K39
          have szh47 : h0.size ≤ h36.size := Nat.le_trans szh27 K39.1
          show Go p_ e_ below _ T32 (mkF m_ 62 #[.val (.int x0), .val (.int x1), .val (.int x2), .val (.int x3), .val (.int (0 : Int32)), .val (.int v2), .val (.ref b6), .unset, .unset, .unset, .unset, .unset, .unset, .unset, .unset, .unset, .unset, .unset] [(.ref b17)])
          refine g_astore X34 hx #[.val (.int x0), .val (.int x1), .val (.int x2), .val (.int x3), .val (.int (0 : Int32)), .val (.int v2), .val (.ref b6), .val (.ref b17), .unset, .unset, .unset, .unset, .unset, .unset, .unset, .unset, .unset, .unset] rfl rfl (hb hby at_62) 64 rfl ?_
          refine g_iload X34 hx rfl (hb hby at_64) 66 rfl ?_
          refine g_if_ne X34 hx (hb hby at_66) 73 69 (by decide) rfl rfl (fun q66 => ?_) (fun q66 => ?_)
          · exact absurd rfl q66
          · refine g_iconst X34 hx (-1 : Int32) rfl (hb hby at_69) 70 rfl ?_
            refine g_goto X34 hx (hb hby at_70) 78 (by decide) rfl ?_
            refine g_istore X34 hx #[.val (.int x0), .val (.int x1), .val (.int x2), .val (.int x3), .val (.int (0 : Int32)), .val (.int v2), .val (.ref b6), .val (.ref b17), .val (.int (-1 : Int32)), .unset, .unset, .unset, .unset, .unset, .unset, .unset, .unset, .unset] rfl (hb hby at_78) 80 rfl ?_
            refine g_aload X34 hx rfl rfl (hb hby at_80) 82 rfl ?_
            refine g_callV X34 hx hZ hown (wd hw 17 rfl) (C := "com/example/bindwick/bindwick/BERReader") (wd hw 18 rfl) (wd hw 20 rfl) (wd hw 19 rfl) (wd hw 3 rfl) (wd hw 21 rfl) (by decide) e37 [] [] E40 rfl (co4 l Z a0 hw b17 b6 (0 : Int32) (0 : Int32) [] (0 : Int32) h36 F41 F42 F43 F45 (by decide) (fun q => absurd q (by decide))) (lenOf pd_1 rfl) 0 (Nat.le_of_eq rfl) (by decide) (by decide) (by decide) (by decide) (by rw [hml]; rfl) (hb hby at_82) 85 rfl (pu_cont fun T49 X48 e50 => ?_)
            show Go p_ e_ below _ T49 (mkF m_ 85 #[.val (.int x0), .val (.int x1), .val (.int x2), .val (.int x3), .val (.int (0 : Int32)), .val (.int v2), .val (.ref b6), .val (.ref b17), .val (.int (-1 : Int32)), .unset, .unset, .unset, .unset, .unset, .unset, .unset, .unset, .unset] [(.int (f4 (0 : Int32) (0 : Int32) (0 : Int32)))])
            refine g_istore X48 hx #[.val (.int x0), .val (.int x1), .val (.int x2), .val (.int x3), .val (.int (0 : Int32)), .val (.int v2), .val (.ref b6), .val (.ref b17), .val (.int (-1 : Int32)), .val (.int (f4 (0 : Int32) (0 : Int32) (0 : Int32))), .unset, .unset, .unset, .unset, .unset, .unset, .unset, .unset] rfl (hb hby at_85) 87 rfl ?_
            refine g_aload X48 hx rfl rfl (hb hby at_87) 89 rfl ?_
            refine g_callV X48 hx hZ hown (wd hw 17 rfl) (C := "com/example/bindwick/bindwick/BERReader") (wd hw 18 rfl) (wd hw 20 rfl) (wd hw 19 rfl) (wd hw 3 rfl) (wd hw 21 rfl) (by decide) e50 [] [] E40 rfl (co4 l Z a0 hw b17 b6 (0 : Int32) (0 : Int32) [] (0 : Int32) h36 F41 F42 F43 F45 (by decide) (fun q => absurd q (by decide))) (lenOf pd_1 rfl) 0 (Nat.le_of_eq rfl) (by decide) (by decide) (by decide) (by decide) (by rw [hml]; rfl) (hb hby at_89) 92 rfl (pu_cont fun T52 X51 e53 => ?_)
            show Go p_ e_ below _ T52 (mkF m_ 92 #[.val (.int x0), .val (.int x1), .val (.int x2), .val (.int x3), .val (.int (0 : Int32)), .val (.int v2), .val (.ref b6), .val (.ref b17), .val (.int (-1 : Int32)), .val (.int (f4 (0 : Int32) (0 : Int32) (0 : Int32))), .unset, .unset, .unset, .unset, .unset, .unset, .unset, .unset] [(.int (f4 (0 : Int32) (0 : Int32) (0 : Int32)))])
            refine g_istore X51 hx #[.val (.int x0), .val (.int x1), .val (.int x2), .val (.int x3), .val (.int (0 : Int32)), .val (.int v2), .val (.ref b6), .val (.ref b17), .val (.int (-1 : Int32)), .val (.int (f4 (0 : Int32) (0 : Int32) (0 : Int32))), .val (.int (f4 (0 : Int32) (0 : Int32) (0 : Int32))), .unset, .unset, .unset, .unset, .unset, .unset, .unset] rfl (hb hby at_92) 94 rfl ?_
            refine g_iload X51 hx rfl (hb hby at_94) 96 rfl ?_
            refine g_iload X51 hx rfl (hb hby at_96) 98 rfl ?_
            refine g_icmp_ne X51 hx (hb hby at_98) 112 101 (by decide) rfl rfl (fun q98 => ?_) (fun q98 => ?_)
            · exact absurd (own_pk1 _ _ _ (by decide)) q98
            · refine g_iload X51 hx rfl (hb hby at_101) 103 rfl ?_
              refine g_iload X51 hx rfl (hb hby at_103) 105 rfl ?_
              refine g_icmp_ne X51 hx (hb hby at_105) 112 108 (by decide) rfl rfl (fun q105 => ?_) (fun q105 => ?_)
              · exact absurd (own_pk1 _ _ _ (by decide)) q105
              · refine g_iconst X51 hx (1 : Int32) rfl (hb hby at_108) 109 rfl ?_
                refine g_goto X51 hx (hb hby at_109) 113 (by decide) rfl ?_
                refine g_istore X51 hx #[.val (.int x0), .val (.int x1), .val (.int x2), .val (.int x3), .val (.int (0 : Int32)), .val (.int v2), .val (.ref b6), .val (.ref b17), .val (.int (-1 : Int32)), .val (.int (f4 (0 : Int32) (0 : Int32) (0 : Int32))), .val (.int (f4 (0 : Int32) (0 : Int32) (0 : Int32))), .val (.int (1 : Int32)), .unset, .unset, .unset, .unset, .unset, .unset] rfl (hb hby at_113) 115 rfl ?_
                refine g_iloadN X51 hx rfl (hb hby at_115) 116 rfl ?_
                refine g_sipush X51 hx (255 : Int32) rfl (hb hby at_116) 119 rfl ?_
                refine g_iand X51 hx (hb hby at_119) 120 rfl ?_
                generalize hv54 : (x2 &&& (255 : Int32)) = v54
                refine g_istore X51 hx #[.val (.int x0), .val (.int x1), .val (.int x2), .val (.int x3), .val (.int (0 : Int32)), .val (.int v2), .val (.ref b6), .val (.ref b17), .val (.int (-1 : Int32)), .val (.int (f4 (0 : Int32) (0 : Int32) (0 : Int32))), .val (.int (f4 (0 : Int32) (0 : Int32) (0 : Int32))), .val (.int (1 : Int32)), .val (.int v54), .unset, .unset, .unset, .unset, .unset] rfl (hb hby at_120) 122 rfl ?_
                refine g_iload X51 hx rfl (hb hby at_122) 124 rfl ?_
                refine g_bipush X51 hx (31 : Int32) rfl (hb hby at_124) 126 rfl ?_
                refine g_iand X51 hx (hb hby at_126) 127 rfl ?_
                refine g_bipush X51 hx (31 : Int32) rfl (hb hby at_127) 129 rfl ?_
                refine Go.joinT (α := Int32) X51 e53 (fun z => mkF m_ 138 #[.val (.int x0), .val (.int x1), .val (.int x2), .val (.int x3), .val (.int (0 : Int32)), .val (.int v2), .val (.ref b6), .val (.ref b17), .val (.int (-1 : Int32)), .val (.int (f4 (0 : Int32) (0 : Int32) (0 : Int32))), .val (.int (f4 (0 : Int32) (0 : Int32) (0 : Int32))), .val (.int (1 : Int32)), .val (.int z), .unset, .unset, .unset, .unset, .unset] []) (fun z => z = (if (v54 &&& (31 : Int32)) = (31 : Int32) then (v54 ^^^ (1 : Int32)) else v54)) ?_ (fun J56 => ?_)
                · rintro T57 X58 e59 z55 hz55
                  show Go p_ e_ below _ T57 (mkF m_ 138 #[.val (.int x0), .val (.int x1), .val (.int x2), .val (.int x3), .val (.int (0 : Int32)), .val (.int v2), .val (.ref b6), .val (.ref b17), .val (.int (-1 : Int32)), .val (.int (f4 (0 : Int32) (0 : Int32) (0 : Int32))), .val (.int (f4 (0 : Int32) (0 : Int32) (0 : Int32))), .val (.int (1 : Int32)), .val (.int z55), .unset, .unset, .unset, .unset, .unset] [])
                  have hT := own_t _ _ _ hv54 hz55
                  rcases own_b2 _ _ hv2 with rfl | rfl
                  · show Go p_ e_ below _ T57 (mkF m_ 138 #[.val (.int x0), .val (.int x1), .val (.int x2), .val (.int x3), .val (.int (0 : Int32)), .val (.int (0 : Int32)), .val (.ref b6), .val (.ref b17), .val (.int (-1 : Int32)), .val (.int (f4 (0 : Int32) (0 : Int32) (0 : Int32))), .val (.int (f4 (0 : Int32) (0 : Int32) (0 : Int32))), .val (.int (1 : Int32)), .val (.int z55), .unset, .unset, .unset, .unset, .unset] [])
                    refine g_iconst X58 hx (2 : Int32) rfl (hb hby at_138) 139 rfl ?_
                    refine g_iload X58 hx rfl (hb hby at_139) 141 rfl ?_
                    refine g_iadd X58 hx (hb hby at_141) 142 rfl ?_
                    show Go p_ e_ below _ T57 (mkF m_ 142 #[.val (.int x0), .val (.int x1), .val (.int x2), .val (.int x3), .val (.int (0 : Int32)), .val (.int (0 : Int32)), .val (.ref b6), .val (.ref b17), .val (.int (-1 : Int32)), .val (.int (f4 (0 : Int32) (0 : Int32) (0 : Int32))), .val (.int (f4 (0 : Int32) (0 : Int32) (0 : Int32))), .val (.int (1 : Int32)), .val (.int z55), .unset, .unset, .unset, .unset, .unset] [(.int (2 : Int32))])
                    refine g_newarray X58 hx hZ (aty := .byte) (wd hw 0 rfl) e59 (by decide) 2 (by decide) (by decide) (by decide) (by decide) [(.int (0 : Int32)), (.int (0 : Int32))] rfl (hb hby at_142) 144 rfl (fun T63 h64 b65 X66 e67 g68 E69 A70 => ?_)
                    have ne71 : b17 ≠ b65 := Nat.ne_of_lt (Nat.lt_of_lt_of_eq E40.lt g68.symm)
                    have ne72 : b6 ≠ b65 := Nat.ne_of_lt (Nat.lt_of_lt_of_eq F45.lt g68.symm)
                    have F73 := F45.ext E69
                    have F74 := E40.ext E69
                    have F75 := F41.ext E69
                    have F76 := F42.ext E69
                    have F77 := F43.ext E69
                    have sz78 : h0.size ≤ b65 := Nat.le_trans szh47 (Nat.le_of_eq g68.symm)
                    have szh79 : h0.size ≤ h64.size := Nat.le_trans szh47 E69.1
                    have A80 : AV Z h64 b65 .byte [(.int (0 : Int32)), (.int (0 : Int32))] := A70
                    show Go p_ e_ below _ T63 (mkF m_ 144 #[.val (.int x0), .val (.int x1), .val (.int x2), .val (.int x3), .val (.int (0 : Int32)), .val (.int (0 : Int32)), .val (.ref b6), .val (.ref b17), .val (.int (-1 : Int32)), .val (.int (f4 (0 : Int32) (0 : Int32) (0 : Int32))), .val (.int (f4 (0 : Int32) (0 : Int32) (0 : Int32))), .val (.int (1 : Int32)), .val (.int z55), .unset, .unset, .unset, .unset, .unset] [(.ref b65)])
                    refine g_astore X66 hx #[.val (.int x0), .val (.int x1), .val (.int x2), .val (.int x3), .val (.int (0 : Int32)), .val (.int (0 : Int32)), .val (.ref b6), .val (.ref b17), .val (.int (-1 : Int32)), .val (.int (f4 (0 : Int32) (0 : Int32) (0 : Int32))), .val (.int (f4 (0 : Int32) (0 : Int32) (0 : Int32))), .val (.int (1 : Int32)), .val (.int z55), .val (.ref b65), .unset, .unset, .unset, .unset] rfl rfl (hb hby at_144) 146 rfl ?_
                    refine g_aload X66 hx rfl rfl (hb hby at_146) 148 rfl ?_
                    refine g_iconst X66 hx (0 : Int32) rfl (hb hby at_148) 149 rfl ?_
                    refine g_iload X66 hx rfl (hb hby at_149) 151 rfl ?_
                    refine g_i2b X66 hx (hb hby at_151) 152 rfl ?_
                    refine g_bastore X66 hx hZ e67 A80 (by decide) (Nat.le_of_ble_eq_true rfl) (hb hby at_152) 153 rfl (fun T81 h82 X83 e84 W85 A86 => ?_)
                    have A87 : AV Z h82 b65 .byte [(.int z55.toInt8.toInt32.toInt8.toInt32), (.int (0 : Int32))] := A86
                    have F88 := F73.other W85 ne72
                    have F89 := F74.wr W85
                    have F90 := F75.other W85 (Or.inl ne71)
                    have F91 := F76.other W85 (Or.inl ne71)
                    have F92 := F77.other W85 (Or.inl ne71)
                    have F93 := A87
                    have N94 := Fr.snoc X83 N44 sz78
                    have szh95 : h0.size ≤ h82.size := Nat.le_trans szh79 (Nat.le_of_eq W85.size.symm)
                    show Go p_ e_ below _ T81 (mkF m_ 153 #[.val (.int x0), .val (.int x1), .val (.int x2), .val (.int x3), .val (.int (0 : Int32)), .val (.int (0 : Int32)), .val (.ref b6), .val (.ref b17), .val (.int (-1 : Int32)), .val (.int (f4 (0 : Int32) (0 : Int32) (0 : Int32))), .val (.int (f4 (0 : Int32) (0 : Int32) (0 : Int32))), .val (.int (1 : Int32)), .val (.int z55), .val (.ref b65), .unset, .unset, .unset, .unset] [])
                    refine g_aload X83 hx rfl rfl (hb hby at_153) 155 rfl ?_
                    refine g_iconst X83 hx (1 : Int32) rfl (hb hby at_155) 156 rfl ?_
                    refine g_iconst X83 hx (0 : Int32) rfl (hb hby at_156) 157 rfl ?_
                    refine g_bastore X83 hx hZ e84 A87 (by decide) (Nat.le_of_ble_eq_true rfl) (hb hby at_157) 158 rfl (fun T96 h97 X98 e99 W100 A101 => ?_)
                    have A102 : AV Z h97 b65 .byte [(.int z55.toInt8.toInt32.toInt8.toInt32), (.int (0 : Int32).toInt8.toInt32)] := A101
                    have F103 := F88.other W100 ne72
                    have F104 := F89.wr W100
                    have F105 := F90.other W100 (Or.inl ne71)
                    have F106 := F91.other W100 (Or.inl ne71)
                    have F107 := F92.other W100 (Or.inl ne71)
                    have F108 := A102
                    have N109 := Fr.snoc X98 N94 sz78
                    have szh110 : h0.size ≤ h97.size := Nat.le_trans szh95 (Nat.le_of_eq W100.size.symm)
                    show Go p_ e_ below _ T96 (mkF m_ 158 #[.val (.int x0), .val (.int x1), .val (.int x2), .val (.int x3), .val (.int (0 : Int32)), .val (.int (0 : Int32)), .val (.ref b6), .val (.ref b17), .val (.int (-1 : Int32)), .val (.int (f4 (0 : Int32) (0 : Int32) (0 : Int32))), .val (.int (f4 (0 : Int32) (0 : Int32) (0 : Int32))), .val (.int (1 : Int32)), .val (.int z55), .val (.ref b65), .unset, .unset, .unset, .unset] [])
                    refine g_iload X98 hx rfl (hb hby at_158) 160 rfl ?_
                    refine g_iconst X98 hx (1 : Int32) rfl (hb hby at_160) 161 rfl ?_
                    refine g_icmp_ne X98 hx (hb hby at_161) 170 164 (by decide) rfl rfl (fun q161 => ?_) (fun q161 => ?_)
                    · refine g_new X98 hx hZ hown (wd hw 1 rfl) (wd hw 2 rfl) (wd hw 3 rfl) e99 (hb hby at_170) (by decide) (by decide) 173 rfl (fun T111 h112 b113 X114 e115 g116 E117 A118 D119 => ?_)
                      have ne120 : b17 ≠ b113 := Nat.ne_of_lt (Nat.lt_of_lt_of_eq F104.lt g116.symm)
                      have ne121 : b6 ≠ b113 := Nat.ne_of_lt (Nat.lt_of_lt_of_eq F103.lt g116.symm)
                      have ne122 : b65 ≠ b113 := Nat.ne_of_lt (Nat.lt_of_lt_of_eq A102.lt g116.symm)
                      have F123 := F103.ext E117
                      have F124 := F104.ext E117
                      have F125 := F105.ext E117
                      have F126 := F106.ext E117
                      have F127 := F107.ext E117
                      have F128 := A102.ext E117
                      have sz129 : h0.size ≤ b113 := Nat.le_trans szh110 (Nat.le_of_eq g116.symm)
                      have szh130 : h0.size ≤ h112.size := Nat.le_trans szh110 E117.1
                      have F131 : Fld Z h112 b113 "com/example/bindwick/bindwick/BERReader" "data" "[B" .null := D119 (Or.inr (wd hw 14 rfl)) (ty := (.array .byte)) (by decide)
                      have F132 : Fld Z h112 b113 "com/example/bindwick/bindwick/BERReader" "limit" "I" (.int (0 : Int32)) := D119 (Or.inr (wd hw 16 rfl)) (ty := .int) (by decide)
                      have F133 : Fld Z h112 b113 "com/example/bindwick/bindwick/BERReader" "position" "I" (.int (0 : Int32)) := D119 (Or.inl (wd hw 23 rfl)) (ty := .int) (by decide)
                      show Go p_ e_ below _ T111 (mkF m_ 173 #[.val (.int x0), .val (.int x1), .val (.int x2), .val (.int x3), .val (.int (0 : Int32)), .val (.int (0 : Int32)), .val (.ref b6), .val (.ref b17), .val (.int (-1 : Int32)), .val (.int (f4 (0 : Int32) (0 : Int32) (0 : Int32))), .val (.int (f4 (0 : Int32) (0 : Int32) (0 : Int32))), .val (.int (1 : Int32)), .val (.int z55), .val (.ref b65), .unset, .unset, .unset, .unset] [(.ref b113)])
                      refine g_dup X114 hx rfl (hb hby at_173) 174 rfl ?_
                      refine g_aload X114 hx rfl rfl (hb hby at_174) 176 rfl ?_
                      refine g_init X114 hx hZ hown (wd hw 4 rfl) rfl (wd hw 5 rfl) (wd hw 3 rfl) (wd hw 6 rfl) (by decide) e115 [(.ref b65)] [(.ref b113)] rfl (co1 l Z a0 hw b113 b65 [(.int z55.toInt8.toInt32.toInt8.toInt32), (.int (0 : Int32).toInt8.toInt32)] h112 h0.size szh130 sz129 A118 F131 F132 F133 F128 ne122) (lenOf pd_3 rfl) 1 (Nat.le_of_eq rfl) (by decide) (by decide) (by decide) (by decide) (by rw [hml]; rfl) (hb hby at_176) 179 rfl (fun r134 T135 L136 X137 Q138 => ?_)
                      obtain ⟨h139, e140⟩ : ∃ h, T135.heap = h := ⟨_, rfl⟩
                      rw [e140] at Q138
                      obtain ⟨rfl, n141, K142, E143, F144, F145, F146⟩ := Q138
                      have N147 := Fr.app N109 n141
                      have F148 := F123.keep K142 (ninS ne121 nin0)
                      have F149 := F124.keep K142
                      have F150 := F125.keep K142 (ninS ne120 nin0)
                      have F151 := F126.keep K142 (ninS ne120 nin0)
                      have F152 := F127.keep K142 (ninS ne120 nin0)
                      have F153 := F128.keep K142 (ninS ne122 nin0)
                      have F154 := A118.keep K142
                      have szh155 : h0.size ≤ h139.size := Nat.le_trans szh130 K142.1
                      show Go p_ e_ below _ T135 (mkF m_ 179 #[.val (.int x0), .val (.int x1), .val (.int x2), .val (.int x3), .val (.int (0 : Int32)), .val (.int (0 : Int32)), .val (.ref b6), .val (.ref b17), .val (.int (-1 : Int32)), .val (.int (f4 (0 : Int32) (0 : Int32) (0 : Int32))), .val (.int (f4 (0 : Int32) (0 : Int32) (0 : Int32))), .val (.int (1 : Int32)), .val (.int z55), .val (.ref b65), .unset, .unset, .unset, .unset] [(.ref b113)])
                      refine g_astore X137 hx #[.val (.int x0), .val (.int x1), .val (.int x2), .val (.int x3), .val (.int (0 : Int32)), .val (.int (0 : Int32)), .val (.ref b6), .val (.ref b17), .val (.int (-1 : Int32)), .val (.int (f4 (0 : Int32) (0 : Int32) (0 : Int32))), .val (.int (f4 (0 : Int32) (0 : Int32) (0 : Int32))), .val (.int (1 : Int32)), .val (.int z55), .val (.ref b65), .val (.ref b113), .unset, .unset, .unset] rfl rfl (hb hby at_179) 181 rfl ?_
                      refine g_aload X137 hx rfl rfl (hb hby at_181) 183 rfl ?_
                      refine g_callV X137 hx hZ hown (wd hw 17 rfl) (C := "com/example/bindwick/bindwick/BERReader") (wd hw 18 rfl) (wd hw 20 rfl) (wd hw 19 rfl) (wd hw 3 rfl) (wd hw 21 rfl) (by decide) e140 [] [] E143 rfl (co4 l Z a0 hw b113 b65 (2 : Int32) (0 : Int32) [(.int z55.toInt8.toInt32.toInt8.toInt32), (.int (0 : Int32).toInt8.toInt32)] z55.toInt8.toInt32.toInt8.toInt32 h139 F144 F145 F146 F153 (by decide) (fun q => rfl)) (lenOf pd_1 rfl) 0 (Nat.le_of_eq rfl) (by decide) (by decide) (by decide) (by decide) (by rw [hml]; rfl) (hb hby at_183) 186 rfl (pu_cont fun T157 X156 e158 => ?_)
                      show Go p_ e_ below _ T157 (mkF m_ 186 #[.val (.int x0), .val (.int x1), .val (.int x2), .val (.int x3), .val (.int (0 : Int32)), .val (.int (0 : Int32)), .val (.ref b6), .val (.ref b17), .val (.int (-1 : Int32)), .val (.int (f4 (0 : Int32) (0 : Int32) (0 : Int32))), .val (.int (f4 (0 : Int32) (0 : Int32) (0 : Int32))), .val (.int (1 : Int32)), .val (.int z55), .val (.ref b65), .val (.ref b113), .unset, .unset, .unset] [(.int (f4 (2 : Int32) (0 : Int32) z55.toInt8.toInt32.toInt8.toInt32))])
                      refine g_iload X156 hx rfl (hb hby at_186) 188 rfl ?_
                      refine g_icmp_ne X156 hx (hb hby at_188) 195 191 (by decide) rfl rfl (fun q188 => ?_) (fun q188 => ?_)
                      · exact absurd ((own_pk _ _ _ (by decide)).trans (by rw [own_byte, own_byte]; exact hT.1)) q188
                      · refine g_iconst X156 hx (1 : Int32) rfl (hb hby at_191) 192 rfl ?_
                        refine g_goto X156 hx (hb hby at_192) 196 (by decide) rfl ?_
                        refine g_istore X156 hx #[.val (.int x0), .val (.int x1), .val (.int x2), .val (.int x3), .val (.int (0 : Int32)), .val (.int (0 : Int32)), .val (.ref b6), .val (.ref b17), .val (.int (-1 : Int32)), .val (.int (f4 (0 : Int32) (0 : Int32) (0 : Int32))), .val (.int (f4 (0 : Int32) (0 : Int32) (0 : Int32))), .val (.int (1 : Int32)), .val (.int z55), .val (.ref b65), .val (.ref b113), .val (.int (1 : Int32)), .unset, .unset] rfl (hb hby at_196) 198 rfl ?_
                        refine g_aload X156 hx rfl rfl (hb hby at_198) 200 rfl ?_
                        refine g_callV X156 hx hZ hown (wd hw 24 rfl) (C := "com/example/bindwick/bindwick/BERReader") (wd hw 25 rfl) (wd hw 27 rfl) (wd hw 26 rfl) (wd hw 3 rfl) (wd hw 28 rfl) (by decide) e158 [] [] E143 rfl (co5 l Z a0 hw b113 b65 (2 : Int32) z55.toInt8.toInt32.toInt8.toInt32 [] h139 h0.size szh155 sz129 E143 F144 F145 F146 F153 ne122 (by decide) (by rw [own_byte, own_byte, hT.1]; exact hT.2)) (lenOf pd_4 rfl) 0 (Nat.le_of_eq rfl) (by decide) (by decide) (by decide) (by decide) (by rw [hml]; rfl) (hb hby at_200) 203 rfl (fun r159 T160 L161 X162 Q163 => ?_)
                        obtain ⟨h164, e165⟩ : ∃ h, T160.heap = h := ⟨_, rfl⟩
                        rw [e165] at Q163
                        obtain ⟨rfl, n166, K167, E168, F169, F170, F171, A172⟩ := Q163
                        have N173 := Fr.app N147 n166
                        have F174 := F148.keep K167 (ninS ne121 nin0)
                        have F175 := F149.keep K167
                        have F176 := F150.keep K167 (ninS ne120 nin0)
                        have F177 := F151.keep K167 (ninS ne120 nin0)
                        have F178 := F152.keep K167 (ninS ne120 nin0)
                        have F179 := F153.keep K167 (ninS ne122 nin0)
                        have F180 := E143.keep K167
                        have szh181 : h0.size ≤ h164.size := Nat.le_trans szh155 K167.1
                        show Go p_ e_ below _ T160 (mkF m_ 203 #[.val (.int x0), .val (.int x1), .val (.int x2), .val (.int x3), .val (.int (0 : Int32)), .val (.int (0 : Int32)), .val (.ref b6), .val (.ref b17), .val (.int (-1 : Int32)), .val (.int (f4 (0 : Int32) (0 : Int32) (0 : Int32))), .val (.int (f4 (0 : Int32) (0 : Int32) (0 : Int32))), .val (.int (1 : Int32)), .val (.int z55), .val (.ref b65), .val (.ref b113), .val (.int (1 : Int32)), .unset, .unset] [])
                        refine g_iload X162 hx rfl (hb hby at_203) 205 rfl ?_
                        refine g_iconst X162 hx (1 : Int32) rfl (hb hby at_205) 206 rfl ?_
                        refine g_icmp_ne X162 hx (hb hby at_206) 217 209 (by decide) rfl rfl (fun q206 => ?_) (fun q206 => ?_)
                        · refine g_iconst X162 hx (-1 : Int32) rfl (hb hby at_217) 218 rfl ?_
                          refine g_istore X162 hx #[.val (.int x0), .val (.int x1), .val (.int x2), .val (.int x3), .val (.int (0 : Int32)), .val (.int (0 : Int32)), .val (.ref b6), .val (.ref b17), .val (.int (-1 : Int32)), .val (.int (f4 (0 : Int32) (0 : Int32) (0 : Int32))), .val (.int (f4 (0 : Int32) (0 : Int32) (0 : Int32))), .val (.int (1 : Int32)), .val (.int z55), .val (.ref b65), .val (.ref b113), .val (.int (1 : Int32)), .val (.int (-1 : Int32)), .unset] rfl (hb hby at_218) 220 rfl ?_
                          refine g_aload X162 hx rfl rfl (hb hby at_220) 222 rfl ?_
                          refine g_callV X162 hx hZ hown (wd hw 17 rfl) (C := "com/example/bindwick/bindwick/BERReader") (wd hw 18 rfl) (wd hw 20 rfl) (wd hw 19 rfl) (wd hw 3 rfl) (wd hw 21 rfl) (by decide) e165 [] [] E168 rfl (co4 l Z a0 hw b113 b65 (2 : Int32) (2 : Int32) [(.int z55.toInt8.toInt32.toInt8.toInt32), (.int (0 : Int32).toInt8.toInt32)] (0 : Int32) h164 F169 F170 F171 A172 (by decide) (fun q => absurd q (by decide))) (lenOf pd_1 rfl) 0 (Nat.le_of_eq rfl) (by decide) (by decide) (by decide) (by decide) (by rw [hml]; rfl) (hb hby at_222) 225 rfl (pu_cont fun T183 X182 e184 => ?_)
                          show Go p_ e_ below _ T183 (mkF m_ 225 #[.val (.int x0), .val (.int x1), .val (.int x2), .val (.int x3), .val (.int (0 : Int32)), .val (.int (0 : Int32)), .val (.ref b6), .val (.ref b17), .val (.int (-1 : Int32)), .val (.int (f4 (0 : Int32) (0 : Int32) (0 : Int32))), .val (.int (f4 (0 : Int32) (0 : Int32) (0 : Int32))), .val (.int (1 : Int32)), .val (.int z55), .val (.ref b65), .val (.ref b113), .val (.int (1 : Int32)), .val (.int (-1 : Int32)), .unset] [(.int (f4 (2 : Int32) (2 : Int32) (0 : Int32)))])
                          refine g_iload X182 hx rfl (hb hby at_225) 227 rfl ?_
                          refine g_icmp_ne X182 hx (hb hby at_227) 234 230 (by decide) rfl rfl (fun q227 => ?_) (fun q227 => ?_)
                          · exact absurd (own_pk1 _ _ _ (by decide)) q227
                          · refine g_iconst X182 hx (1 : Int32) rfl (hb hby at_230) 231 rfl ?_
                            refine g_goto X182 hx (hb hby at_231) 235 (by decide) rfl ?_
                            refine g_istore X182 hx #[.val (.int x0), .val (.int x1), .val (.int x2), .val (.int x3), .val (.int (0 : Int32)), .val (.int (0 : Int32)), .val (.ref b6), .val (.ref b17), .val (.int (-1 : Int32)), .val (.int (f4 (0 : Int32) (0 : Int32) (0 : Int32))), .val (.int (f4 (0 : Int32) (0 : Int32) (0 : Int32))), .val (.int (1 : Int32)), .val (.int z55), .val (.ref b65), .val (.ref b113), .val (.int (1 : Int32)), .val (.int (-1 : Int32)), .val (.int (1 : Int32))] rfl (hb hby at_235) 237 rfl ?_
                            refine g_iload X182 hx rfl (hb hby at_237) 239 rfl ?_
                            refine g_if_eq X182 hx (hb hby at_239) 256 242 (by decide) rfl rfl (fun q239 => ?_) (fun q239 => ?_)
                            · exact absurd q239 (by decide)
                            · refine g_iload X182 hx rfl (hb hby at_242) 244 rfl ?_
                              refine g_if_eq X182 hx (hb hby at_244) 256 247 (by decide) rfl rfl (fun q244 => ?_) (fun q244 => ?_)
                              · exact absurd q244 (by decide)
                              · refine g_iload X182 hx rfl (hb hby at_247) 249 rfl ?_
                                refine g_if_eq X182 hx (hb hby at_249) 256 252 (by decide) rfl rfl (fun q249 => ?_) (fun q249 => ?_)
                                · exact absurd q249 (by decide)
                                · refine g_iconst X182 hx (1 : Int32) rfl (hb hby at_252) 253 rfl ?_
                                  refine g_goto X182 hx (hb hby at_253) 257 (by decide) rfl ?_
                                  exact g_retz X182 hx hret hlk (by decide) (by decide) (hb hby at_257) ⟨rfl, N173⟩
                        · exact absurd q206 (by decide)
                    · exact absurd q161 (by decide)
                  · show Go p_ e_ below _ T57 (mkF m_ 138 #[.val (.int x0), .val (.int x1), .val (.int x2), .val (.int x3), .val (.int (0 : Int32)), .val (.int (1 : Int32)), .val (.ref b6), .val (.ref b17), .val (.int (-1 : Int32)), .val (.int (f4 (0 : Int32) (0 : Int32) (0 : Int32))), .val (.int (f4 (0 : Int32) (0 : Int32) (0 : Int32))), .val (.int (1 : Int32)), .val (.int z55), .unset, .unset, .unset, .unset, .unset] [])
                    refine g_iconst X58 hx (2 : Int32) rfl (hb hby at_138) 139 rfl ?_
                    refine g_iload X58 hx rfl (hb hby at_139) 141 rfl ?_
                    refine g_iadd X58 hx (hb hby at_141) 142 rfl ?_
                    show Go p_ e_ below _ T57 (mkF m_ 142 #[.val (.int x0), .val (.int x1), .val (.int x2), .val (.int x3), .val (.int (0 : Int32)), .val (.int (1 : Int32)), .val (.ref b6), .val (.ref b17), .val (.int (-1 : Int32)), .val (.int (f4 (0 : Int32) (0 : Int32) (0 : Int32))), .val (.int (f4 (0 : Int32) (0 : Int32) (0 : Int32))), .val (.int (1 : Int32)), .val (.int z55), .unset, .unset, .unset, .unset, .unset] [(.int (3 : Int32))])
                    refine g_newarray X58 hx hZ (aty := .byte) (wd hw 0 rfl) e59 (by decide) 3 (by decide) (by decide) (by decide) (by decide) [(.int (0 : Int32)), (.int (0 : Int32)), (.int (0 : Int32))] rfl (hb hby at_142) 144 rfl (fun T185 h186 b187 X188 e189 g190 E191 A192 => ?_)
                    have ne193 : b17 ≠ b187 := Nat.ne_of_lt (Nat.lt_of_lt_of_eq E40.lt g190.symm)
                    have ne194 : b6 ≠ b187 := Nat.ne_of_lt (Nat.lt_of_lt_of_eq F45.lt g190.symm)
                    have F195 := F45.ext E191
                    have F196 := E40.ext E191
                    have F197 := F41.ext E191
                    have F198 := F42.ext E191
                    have F199 := F43.ext E191
                    have sz200 : h0.size ≤ b187 := Nat.le_trans szh47 (Nat.le_of_eq g190.symm)
                    have szh201 : h0.size ≤ h186.size := Nat.le_trans szh47 E191.1
                    have A202 : AV Z h186 b187 .byte [(.int (0 : Int32)), (.int (0 : Int32)), (.int (0 : Int32))] := A192
                    show Go p_ e_ below _ T185 (mkF m_ 144 #[.val (.int x0), .val (.int x1), .val (.int x2), .val (.int x3), .val (.int (0 : Int32)), .val (.int (1 : Int32)), .val (.ref b6), .val (.ref b17), .val (.int (-1 : Int32)), .val (.int (f4 (0 : Int32) (0 : Int32) (0 : Int32))), .val (.int (f4 (0 : Int32) (0 : Int32) (0 : Int32))), .val (.int (1 : Int32)), .val (.int z55), .unset, .unset, .unset, .unset, .unset] [(.ref b187)])
                    refine g_astore X188 hx #[.val (.int x0), .val (.int x1), .val (.int x2), .val (.int x3), .val (.int (0 : Int32)), .val (.int (1 : Int32)), .val (.ref b6), .val (.ref b17), .val (.int (-1 : Int32)), .val (.int (f4 (0 : Int32) (0 : Int32) (0 : Int32))), .val (.int (f4 (0 : Int32) (0 : Int32) (0 : Int32))), .val (.int (1 : Int32)), .val (.int z55), .val (.ref b187), .unset, .unset, .unset, .unset] rfl rfl (hb hby at_144) 146 rfl ?_
                    refine g_aload X188 hx rfl rfl (hb hby at_146) 148 rfl ?_
                    refine g_iconst X188 hx (0 : Int32) rfl (hb hby at_148) 149 rfl ?_
                    refine g_iload X188 hx rfl (hb hby at_149) 151 rfl ?_
                    refine g_i2b X188 hx (hb hby at_151) 152 rfl ?_
                    refine g_bastore X188 hx hZ e189 A202 (by decide) (Nat.le_of_ble_eq_true rfl) (hb hby at_152) 153 rfl (fun T203 h204 X205 e206 W207 A208 => ?_)
                    have A209 : AV Z h204 b187 .byte [(.int z55.toInt8.toInt32.toInt8.toInt32), (.int (0 : Int32)), (.int (0 : Int32))] := A208
                    have F210 := F195.other W207 ne194
                    have F211 := F196.wr W207
                    have F212 := F197.other W207 (Or.inl ne193)
                    have F213 := F198.other W207 (Or.inl ne193)
                    have F214 := F199.other W207 (Or.inl ne193)
                    have F215 := A209
                    have N216 := Fr.snoc X205 N44 sz200
                    have szh217 : h0.size ≤ h204.size := Nat.le_trans szh201 (Nat.le_of_eq W207.size.symm)
                    show Go p_ e_ below _ T203 (mkF m_ 153 #[.val (.int x0), .val (.int x1), .val (.int x2), .val (.int x3), .val (.int (0 : Int32)), .val (.int (1 : Int32)), .val (.ref b6), .val (.ref b17), .val (.int (-1 : Int32)), .val (.int (f4 (0 : Int32) (0 : Int32) (0 : Int32))), .val (.int (f4 (0 : Int32) (0 : Int32) (0 : Int32))), .val (.int (1 : Int32)), .val (.int z55), .val (.ref b187), .unset, .unset, .unset, .unset] [])
                    refine g_aload X205 hx rfl rfl (hb hby at_153) 155 rfl ?_
                    refine g_iconst X205 hx (1 : Int32) rfl (hb hby at_155) 156 rfl ?_
                    refine g_iconst X205 hx (0 : Int32) rfl (hb hby at_156) 157 rfl ?_
                    refine g_bastore X205 hx hZ e206 A209 (by decide) (Nat.le_of_ble_eq_true rfl) (hb hby at_157) 158 rfl (fun T218 h219 X220 e221 W222 A223 => ?_)
                    have A224 : AV Z h219 b187 .byte [(.int z55.toInt8.toInt32.toInt8.toInt32), (.int (0 : Int32).toInt8.toInt32), (.int (0 : Int32))] := A223
                    have F225 := F210.other W222 ne194
                    have F226 := F211.wr W222
                    have F227 := F212.other W222 (Or.inl ne193)
                    have F228 := F213.other W222 (Or.inl ne193)
                    have F229 := F214.other W222 (Or.inl ne193)
                    have F230 := A224
                    have N231 := Fr.snoc X220 N216 sz200
                    have szh232 : h0.size ≤ h219.size := Nat.le_trans szh217 (Nat.le_of_eq W222.size.symm)
                    show Go p_ e_ below _ T218 (mkF m_ 158 #[.val (.int x0), .val (.int x1), .val (.int x2), .val (.int x3), .val (.int (0 : Int32)), .val (.int (1 : Int32)), .val (.ref b6), .val (.ref b17), .val (.int (-1 : Int32)), .val (.int (f4 (0 : Int32) (0 : Int32) (0 : Int32))), .val (.int (f4 (0 : Int32) (0 : Int32) (0 : Int32))), .val (.int (1 : Int32)), .val (.int z55), .val (.ref b187), .unset, .unset, .unset, .unset] [])
                    refine g_iload X220 hx rfl (hb hby at_158) 160 rfl ?_
                    refine g_iconst X220 hx (1 : Int32) rfl (hb hby at_160) 161 rfl ?_
                    refine g_icmp_ne X220 hx (hb hby at_161) 170 164 (by decide) rfl rfl (fun q161 => ?_) (fun q161 => ?_)
                    · exact absurd rfl q161
                    · refine g_aload X220 hx rfl rfl (hb hby at_164) 166 rfl ?_
                      refine g_iconst X220 hx (2 : Int32) rfl (hb hby at_166) 167 rfl ?_
                      refine g_iloadN X220 hx rfl (hb hby at_167) 168 rfl ?_
                      refine g_i2b X220 hx (hb hby at_168) 169 rfl ?_
                      refine g_bastore X220 hx hZ e221 A224 (by decide) (Nat.le_of_ble_eq_true rfl) (hb hby at_169) 170 rfl (fun T233 h234 X235 e236 W237 A238 => ?_)
                      have A239 : AV Z h234 b187 .byte [(.int z55.toInt8.toInt32.toInt8.toInt32), (.int (0 : Int32).toInt8.toInt32), (.int x3.toInt8.toInt32.toInt8.toInt32)] := A238
                      have F240 := F225.other W237 ne194
                      have F241 := F226.wr W237
                      have F242 := F227.other W237 (Or.inl ne193)
                      have F243 := F228.other W237 (Or.inl ne193)
                      have F244 := F229.other W237 (Or.inl ne193)
                      have F245 := A239
                      have N246 := Fr.snoc X235 N231 sz200
                      have szh247 : h0.size ≤ h234.size := Nat.le_trans szh232 (Nat.le_of_eq W237.size.symm)
                      show Go p_ e_ below _ T233 (mkF m_ 170 #[.val (.int x0), .val (.int x1), .val (.int x2), .val (.int x3), .val (.int (0 : Int32)), .val (.int (1 : Int32)), .val (.ref b6), .val (.ref b17), .val (.int (-1 : Int32)), .val (.int (f4 (0 : Int32) (0 : Int32) (0 : Int32))), .val (.int (f4 (0 : Int32) (0 : Int32) (0 : Int32))), .val (.int (1 : Int32)), .val (.int z55), .val (.ref b187), .unset, .unset, .unset, .unset] [])
                      refine g_new X235 hx hZ hown (wd hw 1 rfl) (wd hw 2 rfl) (wd hw 3 rfl) e236 (hb hby at_170) (by decide) (by decide) 173 rfl (fun T248 h249 b250 X251 e252 g253 E254 A255 D256 => ?_)
                      have ne257 : b17 ≠ b250 := Nat.ne_of_lt (Nat.lt_of_lt_of_eq F241.lt g253.symm)
                      have ne258 : b187 ≠ b250 := Nat.ne_of_lt (Nat.lt_of_lt_of_eq A239.lt g253.symm)
                      have ne259 : b6 ≠ b250 := Nat.ne_of_lt (Nat.lt_of_lt_of_eq F240.lt g253.symm)
                      have F260 := F240.ext E254
                      have F261 := F241.ext E254
                      have F262 := F242.ext E254
                      have F263 := F243.ext E254
                      have F264 := F244.ext E254
                      have F265 := A239.ext E254
                      have sz266 : h0.size ≤ b250 := Nat.le_trans szh247 (Nat.le_of_eq g253.symm)
                      have szh267 : h0.size ≤ h249.size := Nat.le_trans szh247 E254.1
                      have F268 : Fld Z h249 b250 "com/example/bindwick/bindwick/BERReader" "data" "[B" .null := D256 (Or.inr (wd hw 14 rfl)) (ty := (.array .byte)) (by decide)
                      have F269 : Fld Z h249 b250 "com/example/bindwick/bindwick/BERReader" "limit" "I" (.int (0 : Int32)) := D256 (Or.inr (wd hw 16 rfl)) (ty := .int) (by decide)
                      have F270 : Fld Z h249 b250 "com/example/bindwick/bindwick/BERReader" "position" "I" (.int (0 : Int32)) := D256 (Or.inl (wd hw 23 rfl)) (ty := .int) (by decide)
                      show Go p_ e_ below _ T248 (mkF m_ 173 #[.val (.int x0), .val (.int x1), .val (.int x2), .val (.int x3), .val (.int (0 : Int32)), .val (.int (1 : Int32)), .val (.ref b6), .val (.ref b17), .val (.int (-1 : Int32)), .val (.int (f4 (0 : Int32) (0 : Int32) (0 : Int32))), .val (.int (f4 (0 : Int32) (0 : Int32) (0 : Int32))), .val (.int (1 : Int32)), .val (.int z55), .val (.ref b187), .unset, .unset, .unset, .unset] [(.ref b250)])
                      refine g_dup X251 hx rfl (hb hby at_173) 174 rfl ?_
                      refine g_aload X251 hx rfl rfl (hb hby at_174) 176 rfl ?_
                      refine g_init X251 hx hZ hown (wd hw 4 rfl) rfl (wd hw 5 rfl) (wd hw 3 rfl) (wd hw 6 rfl) (by decide) e252 [(.ref b187)] [(.ref b250)] rfl (co1 l Z a0 hw b250 b187 [(.int z55.toInt8.toInt32.toInt8.toInt32), (.int (0 : Int32).toInt8.toInt32), (.int x3.toInt8.toInt32.toInt8.toInt32)] h249 h0.size szh267 sz266 A255 F268 F269 F270 F265 ne258) (lenOf pd_3 rfl) 1 (Nat.le_of_eq rfl) (by decide) (by decide) (by decide) (by decide) (by rw [hml]; rfl) (hb hby at_176) 179 rfl (fun r271 T272 L273 X274 Q275 => ?_)
                      obtain ⟨h276, e277⟩ : ∃ h, T272.heap = h := ⟨_, rfl⟩
                      rw [e277] at Q275
                      obtain ⟨rfl, n278, K279, E280, F281, F282, F283⟩ := Q275
                      have N284 := Fr.app N246 n278
                      have F285 := F260.keep K279 (ninS ne259 nin0)
                      have F286 := F261.keep K279
                      have F287 := F262.keep K279 (ninS ne257 nin0)
                      have F288 := F263.keep K279 (ninS ne257 nin0)
                      have F289 := F264.keep K279 (ninS ne257 nin0)
                      have F290 := F265.keep K279 (ninS ne258 nin0)
                      have F291 := A255.keep K279
                      have szh292 : h0.size ≤ h276.size := Nat.le_trans szh267 K279.1
                      show Go p_ e_ below _ T272 (mkF m_ 179 #[.val (.int x0), .val (.int x1), .val (.int x2), .val (.int x3), .val (.int (0 : Int32)), .val (.int (1 : Int32)), .val (.ref b6), .val (.ref b17), .val (.int (-1 : Int32)), .val (.int (f4 (0 : Int32) (0 : Int32) (0 : Int32))), .val (.int (f4 (0 : Int32) (0 : Int32) (0 : Int32))), .val (.int (1 : Int32)), .val (.int z55), .val (.ref b187), .unset, .unset, .unset, .unset] [(.ref b250)])
                      refine g_astore X274 hx #[.val (.int x0), .val (.int x1), .val (.int x2), .val (.int x3), .val (.int (0 : Int32)), .val (.int (1 : Int32)), .val (.ref b6), .val (.ref b17), .val (.int (-1 : Int32)), .val (.int (f4 (0 : Int32) (0 : Int32) (0 : Int32))), .val (.int (f4 (0 : Int32) (0 : Int32) (0 : Int32))), .val (.int (1 : Int32)), .val (.int z55), .val (.ref b187), .val (.ref b250), .unset, .unset, .unset] rfl rfl (hb hby at_179) 181 rfl ?_
                      refine g_aload X274 hx rfl rfl (hb hby at_181) 183 rfl ?_
                      refine g_callV X274 hx hZ hown (wd hw 17 rfl) (C := "com/example/bindwick/bindwick/BERReader") (wd hw 18 rfl) (wd hw 20 rfl) (wd hw 19 rfl) (wd hw 3 rfl) (wd hw 21 rfl) (by decide) e277 [] [] E280 rfl (co4 l Z a0 hw b250 b187 (3 : Int32) (0 : Int32) [(.int z55.toInt8.toInt32.toInt8.toInt32), (.int (0 : Int32).toInt8.toInt32), (.int x3.toInt8.toInt32.toInt8.toInt32)] z55.toInt8.toInt32.toInt8.toInt32 h276 F281 F282 F283 F290 (by decide) (fun q => rfl)) (lenOf pd_1 rfl) 0 (Nat.le_of_eq rfl) (by decide) (by decide) (by decide) (by decide) (by rw [hml]; rfl) (hb hby at_183) 186 rfl (pu_cont fun T294 X293 e295 => ?_)
                      show Go p_ e_ below _ T294 (mkF m_ 186 #[.val (.int x0), .val (.int x1), .val (.int x2), .val (.int x3), .val (.int (0 : Int32)), .val (.int (1 : Int32)), .val (.ref b6), .val (.ref b17), .val (.int (-1 : Int32)), .val (.int (f4 (0 : Int32) (0 : Int32) (0 : Int32))), .val (.int (f4 (0 : Int32) (0 : Int32) (0 : Int32))), .val (.int (1 : Int32)), .val (.int z55), .val (.ref b187), .val (.ref b250), .unset, .unset, .unset] [(.int (f4 (3 : Int32) (0 : Int32) z55.toInt8.toInt32.toInt8.toInt32))])
                      refine g_iload X293 hx rfl (hb hby at_186) 188 rfl ?_
                      refine g_icmp_ne X293 hx (hb hby at_188) 195 191 (by decide) rfl rfl (fun q188 => ?_) (fun q188 => ?_)
                      · exact absurd ((own_pk _ _ _ (by decide)).trans (by rw [own_byte, own_byte]; exact hT.1)) q188
                      · refine g_iconst X293 hx (1 : Int32) rfl (hb hby at_191) 192 rfl ?_
                        refine g_goto X293 hx (hb hby at_192) 196 (by decide) rfl ?_
                        refine g_istore X293 hx #[.val (.int x0), .val (.int x1), .val (.int x2), .val (.int x3), .val (.int (0 : Int32)), .val (.int (1 : Int32)), .val (.ref b6), .val (.ref b17), .val (.int (-1 : Int32)), .val (.int (f4 (0 : Int32) (0 : Int32) (0 : Int32))), .val (.int (f4 (0 : Int32) (0 : Int32) (0 : Int32))), .val (.int (1 : Int32)), .val (.int z55), .val (.ref b187), .val (.ref b250), .val (.int (1 : Int32)), .unset, .unset] rfl (hb hby at_196) 198 rfl ?_
                        refine g_aload X293 hx rfl rfl (hb hby at_198) 200 rfl ?_
                        refine g_callV X293 hx hZ hown (wd hw 24 rfl) (C := "com/example/bindwick/bindwick/BERReader") (wd hw 25 rfl) (wd hw 27 rfl) (wd hw 26 rfl) (wd hw 3 rfl) (wd hw 28 rfl) (by decide) e295 [] [] E280 rfl (co5 l Z a0 hw b250 b187 (3 : Int32) z55.toInt8.toInt32.toInt8.toInt32 [(.int x3.toInt8.toInt32.toInt8.toInt32)] h276 h0.size szh292 sz266 E280 F281 F282 F283 F290 ne258 (by decide) (by rw [own_byte, own_byte, hT.1]; exact hT.2)) (lenOf pd_4 rfl) 0 (Nat.le_of_eq rfl) (by decide) (by decide) (by decide) (by decide) (by rw [hml]; rfl) (hb hby at_200) 203 rfl (fun r296 T297 L298 X299 Q300 => ?_)
                        obtain ⟨h301, e302⟩ : ∃ h, T297.heap = h := ⟨_, rfl⟩
                        rw [e302] at Q300
                        obtain ⟨rfl, n303, K304, E305, F306, F307, F308, A309⟩ := Q300
                        have N310 := Fr.app N284 n303
                        have F311 := F285.keep K304 (ninS ne259 nin0)
                        have F312 := F286.keep K304
                        have F313 := F287.keep K304 (ninS ne257 nin0)
                        have F314 := F288.keep K304 (ninS ne257 nin0)
                        have F315 := F289.keep K304 (ninS ne257 nin0)
                        have F316 := F290.keep K304 (ninS ne258 nin0)
                        have F317 := E280.keep K304
                        have szh318 : h0.size ≤ h301.size := Nat.le_trans szh292 K304.1
                        show Go p_ e_ below _ T297 (mkF m_ 203 #[.val (.int x0), .val (.int x1), .val (.int x2), .val (.int x3), .val (.int (0 : Int32)), .val (.int (1 : Int32)), .val (.ref b6), .val (.ref b17), .val (.int (-1 : Int32)), .val (.int (f4 (0 : Int32) (0 : Int32) (0 : Int32))), .val (.int (f4 (0 : Int32) (0 : Int32) (0 : Int32))), .val (.int (1 : Int32)), .val (.int z55), .val (.ref b187), .val (.ref b250), .val (.int (1 : Int32)), .unset, .unset] [])
                        refine g_iload X299 hx rfl (hb hby at_203) 205 rfl ?_
                        refine g_iconst X299 hx (1 : Int32) rfl (hb hby at_205) 206 rfl ?_
                        refine g_icmp_ne X299 hx (hb hby at_206) 217 209 (by decide) rfl rfl (fun q206 => ?_) (fun q206 => ?_)
                        · exact absurd rfl q206
                        · refine g_iloadN X299 hx rfl (hb hby at_209) 210 rfl ?_
                          refine g_sipush X299 hx (255 : Int32) rfl (hb hby at_210) 213 rfl ?_
                          refine g_iand X299 hx (hb hby at_213) 214 rfl ?_
                          refine g_goto X299 hx (hb hby at_214) 218 (by decide) rfl ?_
                          refine g_istore X299 hx #[.val (.int x0), .val (.int x1), .val (.int x2), .val (.int x3), .val (.int (0 : Int32)), .val (.int (1 : Int32)), .val (.ref b6), .val (.ref b17), .val (.int (-1 : Int32)), .val (.int (f4 (0 : Int32) (0 : Int32) (0 : Int32))), .val (.int (f4 (0 : Int32) (0 : Int32) (0 : Int32))), .val (.int (1 : Int32)), .val (.int z55), .val (.ref b187), .val (.ref b250), .val (.int (1 : Int32)), .val (.int (x3 &&& (255 : Int32))), .unset] rfl (hb hby at_218) 220 rfl ?_
                          refine g_aload X299 hx rfl rfl (hb hby at_220) 222 rfl ?_
                          refine g_callV X299 hx hZ hown (wd hw 17 rfl) (C := "com/example/bindwick/bindwick/BERReader") (wd hw 18 rfl) (wd hw 20 rfl) (wd hw 19 rfl) (wd hw 3 rfl) (wd hw 21 rfl) (by decide) e302 [] [] E305 rfl (co4 l Z a0 hw b250 b187 (3 : Int32) (2 : Int32) [(.int z55.toInt8.toInt32.toInt8.toInt32), (.int (0 : Int32).toInt8.toInt32), (.int x3.toInt8.toInt32.toInt8.toInt32)] x3.toInt8.toInt32.toInt8.toInt32 h301 F306 F307 F308 A309 (by decide) (fun q => rfl)) (lenOf pd_1 rfl) 0 (Nat.le_of_eq rfl) (by decide) (by decide) (by decide) (by decide) (by rw [hml]; rfl) (hb hby at_222) 225 rfl (pu_cont fun T320 X319 e321 => ?_)
                          show Go p_ e_ below _ T320 (mkF m_ 225 #[.val (.int x0), .val (.int x1), .val (.int x2), .val (.int x3), .val (.int (0 : Int32)), .val (.int (1 : Int32)), .val (.ref b6), .val (.ref b17), .val (.int (-1 : Int32)), .val (.int (f4 (0 : Int32) (0 : Int32) (0 : Int32))), .val (.int (f4 (0 : Int32) (0 : Int32) (0 : Int32))), .val (.int (1 : Int32)), .val (.int z55), .val (.ref b187), .val (.ref b250), .val (.int (1 : Int32)), .val (.int (x3 &&& (255 : Int32))), .unset] [(.int (f4 (3 : Int32) (2 : Int32) x3.toInt8.toInt32.toInt8.toInt32))])
                          refine g_iload X319 hx rfl (hb hby at_225) 227 rfl ?_
                          refine g_icmp_ne X319 hx (hb hby at_227) 234 230 (by decide) rfl rfl (fun q227 => ?_) (fun q227 => ?_)
                          · exact absurd ((own_pk _ _ _ (by decide)).trans (by rw [own_byte, own_byte])) q227
                          · refine g_iconst X319 hx (1 : Int32) rfl (hb hby at_230) 231 rfl ?_
                            refine g_goto X319 hx (hb hby at_231) 235 (by decide) rfl ?_
                            refine g_istore X319 hx #[.val (.int x0), .val (.int x1), .val (.int x2), .val (.int x3), .val (.int (0 : Int32)), .val (.int (1 : Int32)), .val (.ref b6), .val (.ref b17), .val (.int (-1 : Int32)), .val (.int (f4 (0 : Int32) (0 : Int32) (0 : Int32))), .val (.int (f4 (0 : Int32) (0 : Int32) (0 : Int32))), .val (.int (1 : Int32)), .val (.int z55), .val (.ref b187), .val (.ref b250), .val (.int (1 : Int32)), .val (.int (x3 &&& (255 : Int32))), .val (.int (1 : Int32))] rfl (hb hby at_235) 237 rfl ?_
                            refine g_iload X319 hx rfl (hb hby at_237) 239 rfl ?_
                            refine g_if_eq X319 hx (hb hby at_239) 256 242 (by decide) rfl rfl (fun q239 => ?_) (fun q239 => ?_)
                            · exact absurd q239 (by decide)
                            · refine g_iload X319 hx rfl (hb hby at_242) 244 rfl ?_
                              refine g_if_eq X319 hx (hb hby at_244) 256 247 (by decide) rfl rfl (fun q244 => ?_) (fun q244 => ?_)
                              · exact absurd q244 (by decide)
                              · refine g_iload X319 hx rfl (hb hby at_247) 249 rfl ?_
                                refine g_if_eq X319 hx (hb hby at_249) 256 252 (by decide) rfl rfl (fun q249 => ?_) (fun q249 => ?_)
                                · exact absurd q249 (by decide)
                                · refine g_iconst X319 hx (1 : Int32) rfl (hb hby at_252) 253 rfl ?_
                                  refine g_goto X319 hx (hb hby at_253) 257 (by decide) rfl ?_
                                  exact g_retz X319 hx hret hlk (by decide) (by decide) (hb hby at_257) ⟨rfl, N310⟩
                · refine g_icmp_ne X51 hx (hb hby at_129) 138 132 (by decide) rfl rfl (fun q129 => ?_) (fun q129 => ?_)
                  · exact J56 T52 X51 e53 (v54) ((if_neg q129).trans rfl).symm
                  · refine g_iload X51 hx rfl (hb hby at_132) 134 rfl ?_
                    refine g_iconst X51 hx (1 : Int32) rfl (hb hby at_134) 135 rfl ?_
                    refine g_ixor X51 hx (hb hby at_135) 136 rfl ?_
                    refine g_istore X51 hx #[.val (.int x0), .val (.int x1), .val (.int x2), .val (.int x3), .val (.int (0 : Int32)), .val (.int v2), .val (.ref b6), .val (.ref b17), .val (.int (-1 : Int32)), .val (.int (f4 (0 : Int32) (0 : Int32) (0 : Int32))), .val (.int (f4 (0 : Int32) (0 : Int32) (0 : Int32))), .val (.int (1 : Int32)), .val (.int (v54 ^^^ (1 : Int32))), .unset, .unset, .unset, .unset, .unset] rfl (hb hby at_136) 138 rfl ?_
                    exact J56 T52 X51 e53 ((v54 ^^^ (1 : Int32))) ((if_pos q129).trans rfl).symm
        · exact absurd q44 (by decide)
      · exact absurd q32 (by decide)
    · exact absurd q20 (by decide)
  · show Go p_ e_ below _ T0 (mkF m_ 12 #[.val (.int x0), .val (.int x1), .val (.int x2), .val (.int x3), .val (.int (1 : Int32)), .val (.int v2), .unset, .unset, .unset, .unset, .unset, .unset, .unset, .unset, .unset, .unset, .unset, .unset] [])
    refine g_iload X0 hx rfl (hb hby at_12) 14 rfl ?_
    refine g_newarray X0 hx hZ (aty := .byte) (wd hw 0 rfl) e0 (by decide) 1 (by decide) (by decide) (by decide) (by decide) [(.int (0 : Int32))] rfl (hb hby at_14) 16 rfl (fun T322 h323 b324 X325 e326 g327 E328 A329 => ?_)
    have sz330 : h0.size ≤ b324 := Nat.le_trans (Nat.le_refl h0.size) (Nat.le_of_eq g327.symm)
    have szh331 : h0.size ≤ h323.size := Nat.le_trans (Nat.le_refl h0.size) E328.1
    have A332 : AV Z h323 b324 .byte [(.int (0 : Int32))] := A329
    show Go p_ e_ below _ T322 (mkF m_ 16 #[.val (.int x0), .val (.int x1), .val (.int x2), .val (.int x3), .val (.int (1 : Int32)), .val (.int v2), .unset, .unset, .unset, .unset, .unset, .unset, .unset, .unset, .unset, .unset, .unset, .unset] [(.ref b324)])
    refine g_astore X325 hx #[.val (.int x0), .val (.int x1), .val (.int x2), .val (.int x3), .val (.int (1 : Int32)), .val (.int v2), .val (.ref b324), .unset, .unset, .unset, .unset, .unset, .unset, .unset, .unset, .unset, .unset, .unset] rfl rfl (hb hby at_16) 18 rfl ?_
    refine g_iload X325 hx rfl (hb hby at_18) 20 rfl ?_
    refine g_if_le X325 hx (hb hby at_20) 29 23 (by decide) rfl rfl (fun q20 => ?_) (fun q20 => ?_)
    · exact absurd q20 (by decide)
    · refine g_aload X325 hx rfl rfl (hb hby at_23) 25 rfl ?_
      refine g_iconst X325 hx (0 : Int32) rfl (hb hby at_25) 26 rfl ?_
      refine g_iloadN X325 hx rfl (hb hby at_26) 27 rfl ?_
      refine g_i2b X325 hx (hb hby at_27) 28 rfl ?_
      refine g_bastore X325 hx hZ e326 A332 (by decide) (Nat.le_of_ble_eq_true rfl) (hb hby at_28) 29 rfl (fun T333 h334 X335 e336 W337 A338 => ?_)
      have A339 : AV Z h334 b324 .byte [(.int x1.toInt8.toInt32.toInt8.toInt32)] := A338
      have F340 := A339
      have N341 := Fr.snoc X335 N0 sz330
      have szh342 : h0.size ≤ h334.size := Nat.le_trans szh331 (Nat.le_of_eq W337.size.symm)
      show Go p_ e_ below _ T333 (mkF m_ 29 #[.val (.int x0), .val (.int x1), .val (.int x2), .val (.int x3), .val (.int (1 : Int32)), .val (.int v2), .val (.ref b324), .unset, .unset, .unset, .unset, .unset, .unset, .unset, .unset, .unset, .unset, .unset] [])
      refine g_iload X335 hx rfl (hb hby at_29) 31 rfl ?_
      refine g_iconst X335 hx (1 : Int32) rfl (hb hby at_31) 32 rfl ?_
      refine g_icmp_le X335 hx (hb hby at_32) 41 35 (by decide) rfl rfl (fun q32 => ?_) (fun q32 => ?_)
      · refine g_iload X335 hx rfl (hb hby at_41) 43 rfl ?_
        refine g_iconst X335 hx (2 : Int32) rfl (hb hby at_43) 44 rfl ?_
        refine g_icmp_le X335 hx (hb hby at_44) 53 47 (by decide) rfl rfl (fun q44 => ?_) (fun q44 => ?_)
        · refine g_new X335 hx hZ hown (wd hw 1 rfl) (wd hw 2 rfl) (wd hw 3 rfl) e336 (hb hby at_53) (by decide) (by decide) 56 rfl (fun T343 h344 b345 X346 e347 g348 E349 A350 D351 => ?_)
          have ne352 : b324 ≠ b345 := Nat.ne_of_lt (Nat.lt_of_lt_of_eq A339.lt g348.symm)
          have F353 := A339.ext E349
          have sz354 : h0.size ≤ b345 := Nat.le_trans szh342 (Nat.le_of_eq g348.symm)
          have szh355 : h0.size ≤ h344.size := Nat.le_trans szh342 E349.1
          have F356 : Fld Z h344 b345 "com/example/bindwick/bindwick/BERReader" "data" "[B" .null := D351 (Or.inr (wd hw 14 rfl)) (ty := (.array .byte)) (by decide)
          have F357 : Fld Z h344 b345 "com/example/bindwick/bindwick/BERReader" "limit" "I" (.int (0 : Int32)) := D351 (Or.inr (wd hw 16 rfl)) (ty := .int) (by decide)
          have F358 : Fld Z h344 b345 "com/example/bindwick/bindwick/BERReader" "position" "I" (.int (0 : Int32)) := D351 (Or.inl (wd hw 23 rfl)) (ty := .int) (by decide)
          show Go p_ e_ below _ T343 (mkF m_ 56 #[.val (.int x0), .val (.int x1), .val (.int x2), .val (.int x3), .val (.int (1 : Int32)), .val (.int v2), .val (.ref b324), .unset, .unset, .unset, .unset, .unset, .unset, .unset, .unset, .unset, .unset, .unset] [(.ref b345)])
          refine g_dup X346 hx rfl (hb hby at_56) 57 rfl ?_
          refine g_aload X346 hx rfl rfl (hb hby at_57) 59 rfl ?_
          refine g_init X346 hx hZ hown (wd hw 4 rfl) rfl (wd hw 5 rfl) (wd hw 3 rfl) (wd hw 6 rfl) (by decide) e347 [(.ref b324)] [(.ref b345)] rfl (co1 l Z a0 hw b345 b324 [(.int x1.toInt8.toInt32.toInt8.toInt32)] h344 h0.size szh355 sz354 A350 F356 F357 F358 F353 ne352) (lenOf pd_3 rfl) 1 (Nat.le_of_eq rfl) (by decide) (by decide) (by decide) (by decide) (by rw [hml]; rfl) (hb hby at_59) 62 rfl (fun r359 T360 L361 X362 Q363 => ?_)
          obtain ⟨h364, e365⟩ : ∃ h, T360.heap = h := ⟨_, rfl⟩
          rw [e365] at Q363
          obtain ⟨rfl, n366, K367, E368, F369, F370, F371⟩ := Q363
          have N372 := Fr.app N341 n366
          have F373 := F353.keep K367 (ninS ne352 nin0)
          have F374 := A350.keep K367
          have szh375 : h0.size ≤ h364.size := Nat.le_trans szh355 K367.1
          show Go p_ e_ below _ T360 (mkF m_ 62 #[.val (.int x0), .val (.int x1), .val (.int x2), .val (.int x3), .val (.int (1 : Int32)), .val (.int v2), .val (.ref b324), .unset, .unset, .unset, .unset, .unset, .unset, .unset, .unset, .unset, .unset, .unset] [(.ref b345)])
          refine g_astore X362 hx #[.val (.int x0), .val (.int x1), .val (.int x2), .val (.int x3), .val (.int (1 : Int32)), .val (.int v2), .val (.ref b324), .val (.ref b345), .unset, .unset, .unset, .unset, .unset, .unset, .unset, .unset, .unset, .unset] rfl rfl (hb hby at_62) 64 rfl ?_
          refine g_iload X362 hx rfl (hb hby at_64) 66 rfl ?_
          refine g_if_ne X362 hx (hb hby at_66) 73 69 (by decide) rfl rfl (fun q66 => ?_) (fun q66 => ?_)
          · refine g_iloadN X362 hx rfl (hb hby at_73) 74 rfl ?_
            refine g_sipush X362 hx (255 : Int32) rfl (hb hby at_74) 77 rfl ?_
            refine g_iand X362 hx (hb hby at_77) 78 rfl ?_
            refine g_istore X362 hx #[.val (.int x0), .val (.int x1), .val (.int x2), .val (.int x3), .val (.int (1 : Int32)), .val (.int v2), .val (.ref b324), .val (.ref b345), .val (.int (x1 &&& (255 : Int32))), .unset, .unset, .unset, .unset, .unset, .unset, .unset, .unset, .unset] rfl (hb hby at_78) 80 rfl ?_
            refine g_aload X362 hx rfl rfl (hb hby at_80) 82 rfl ?_
            refine g_callV X362 hx hZ hown (wd hw 17 rfl) (C := "com/example/bindwick/bindwick/BERReader") (wd hw 18 rfl) (wd hw 20 rfl) (wd hw 19 rfl) (wd hw 3 rfl) (wd hw 21 rfl) (by decide) e365 [] [] E368 rfl (co4 l Z a0 hw b345 b324 (1 : Int32) (0 : Int32) [(.int x1.toInt8.toInt32.toInt8.toInt32)] x1.toInt8.toInt32.toInt8.toInt32 h364 F369 F370 F371 F373 (by decide) (fun q => rfl)) (lenOf pd_1 rfl) 0 (Nat.le_of_eq rfl) (by decide) (by decide) (by decide) (by decide) (by rw [hml]; rfl) (hb hby at_82) 85 rfl (pu_cont fun T377 X376 e378 => ?_)
            show Go p_ e_ below _ T377 (mkF m_ 85 #[.val (.int x0), .val (.int x1), .val (.int x2), .val (.int x3), .val (.int (1 : Int32)), .val (.int v2), .val (.ref b324), .val (.ref b345), .val (.int (x1 &&& (255 : Int32))), .unset, .unset, .unset, .unset, .unset, .unset, .unset, .unset, .unset] [(.int (f4 (1 : Int32) (0 : Int32) x1.toInt8.toInt32.toInt8.toInt32))])
            refine g_istore X376 hx #[.val (.int x0), .val (.int x1), .val (.int x2), .val (.int x3), .val (.int (1 : Int32)), .val (.int v2), .val (.ref b324), .val (.ref b345), .val (.int (x1 &&& (255 : Int32))), .val (.int (f4 (1 : Int32) (0 : Int32) x1.toInt8.toInt32.toInt8.toInt32)), .unset, .unset, .unset, .unset, .unset, .unset, .unset, .unset] rfl (hb hby at_85) 87 rfl ?_
            refine g_aload X376 hx rfl rfl (hb hby at_87) 89 rfl ?_
            refine g_callV X376 hx hZ hown (wd hw 17 rfl) (C := "com/example/bindwick/bindwick/BERReader") (wd hw 18 rfl) (wd hw 20 rfl) (wd hw 19 rfl) (wd hw 3 rfl) (wd hw 21 rfl) (by decide) e378 [] [] E368 rfl (co4 l Z a0 hw b345 b324 (1 : Int32) (0 : Int32) [(.int x1.toInt8.toInt32.toInt8.toInt32)] x1.toInt8.toInt32.toInt8.toInt32 h364 F369 F370 F371 F373 (by decide) (fun q => rfl)) (lenOf pd_1 rfl) 0 (Nat.le_of_eq rfl) (by decide) (by decide) (by decide) (by decide) (by rw [hml]; rfl) (hb hby at_89) 92 rfl (pu_cont fun T380 X379 e381 => ?_)
            show Go p_ e_ below _ T380 (mkF m_ 92 #[.val (.int x0), .val (.int x1), .val (.int x2), .val (.int x3), .val (.int (1 : Int32)), .val (.int v2), .val (.ref b324), .val (.ref b345), .val (.int (x1 &&& (255 : Int32))), .val (.int (f4 (1 : Int32) (0 : Int32) x1.toInt8.toInt32.toInt8.toInt32)), .unset, .unset, .unset, .unset, .unset, .unset, .unset, .unset] [(.int (f4 (1 : Int32) (0 : Int32) x1.toInt8.toInt32.toInt8.toInt32))])
            refine g_istore X379 hx #[.val (.int x0), .val (.int x1), .val (.int x2), .val (.int x3), .val (.int (1 : Int32)), .val (.int v2), .val (.ref b324), .val (.ref b345), .val (.int (x1 &&& (255 : Int32))), .val (.int (f4 (1 : Int32) (0 : Int32) x1.toInt8.toInt32.toInt8.toInt32)), .val (.int (f4 (1 : Int32) (0 : Int32) x1.toInt8.toInt32.toInt8.toInt32)), .unset, .unset, .unset, .unset, .unset, .unset, .unset] rfl (hb hby at_92) 94 rfl ?_
            refine g_iload X379 hx rfl (hb hby at_94) 96 rfl ?_
            refine g_iload X379 hx rfl (hb hby at_96) 98 rfl ?_
            refine g_icmp_ne X379 hx (hb hby at_98) 112 101 (by decide) rfl rfl (fun q98 => ?_) (fun q98 => ?_)
            · exact absurd ((own_pk _ _ _ (by decide)).trans (by rw [own_byte, own_byte])) q98
            · refine g_iload X379 hx rfl (hb hby at_101) 103 rfl ?_
              refine g_iload X379 hx rfl (hb hby at_103) 105 rfl ?_
              refine g_icmp_ne X379 hx (hb hby at_105) 112 108 (by decide) rfl rfl (fun q105 => ?_) (fun q105 => ?_)
              · exact absurd ((own_pk _ _ _ (by decide)).trans (by rw [own_byte, own_byte])) q105
              · refine g_iconst X379 hx (1 : Int32) rfl (hb hby at_108) 109 rfl ?_
                refine g_goto X379 hx (hb hby at_109) 113 (by decide) rfl ?_
                refine g_istore X379 hx #[.val (.int x0), .val (.int x1), .val (.int x2), .val (.int x3), .val (.int (1 : Int32)), .val (.int v2), .val (.ref b324), .val (.ref b345), .val (.int (x1 &&& (255 : Int32))), .val (.int (f4 (1 : Int32) (0 : Int32) x1.toInt8.toInt32.toInt8.toInt32)), .val (.int (f4 (1 : Int32) (0 : Int32) x1.toInt8.toInt32.toInt8.toInt32)), .val (.int (1 : Int32)), .unset, .unset, .unset, .unset, .unset, .unset] rfl (hb hby at_113) 115 rfl ?_
                refine g_iloadN X379 hx rfl (hb hby at_115) 116 rfl ?_
                refine g_sipush X379 hx (255 : Int32) rfl (hb hby at_116) 119 rfl ?_
                refine g_iand X379 hx (hb hby at_119) 120 rfl ?_
                generalize hv382 : (x2 &&& (255 : Int32)) = v382
                refine g_istore X379 hx #[.val (.int x0), .val (.int x1), .val (.int x2), .val (.int x3), .val (.int (1 : Int32)), .val (.int v2), .val (.ref b324), .val (.ref b345), .val (.int (x1 &&& (255 : Int32))), .val (.int (f4 (1 : Int32) (0 : Int32) x1.toInt8.toInt32.toInt8.toInt32)), .val (.int (f4 (1 : Int32) (0 : Int32) x1.toInt8.toInt32.toInt8.toInt32)), .val (.int (1 : Int32)), .val (.int v382), .unset, .unset, .unset, .unset, .unset] rfl (hb hby at_120) 122 rfl ?_
                refine g_iload X379 hx rfl (hb hby at_122) 124 rfl ?_
                refine g_bipush X379 hx (31 : Int32) rfl (hb hby at_124) 126 rfl ?_
                refine g_iand X379 hx (hb hby at_126) 127 rfl ?_
                refine g_bipush X379 hx (31 : Int32) rfl (hb hby at_127) 129 rfl ?_
                refine Go.joinT (α := Int32) X379 e381 (fun z => mkF m_ 138 #[.val (.int x0), .val (.int x1), .val (.int x2), .val (.int x3), .val (.int (1 : Int32)), .val (.int v2), .val (.ref b324), .val (.ref b345), .val (.int (x1 &&& (255 : Int32))), .val (.int (f4 (1 : Int32) (0 : Int32) x1.toInt8.toInt32.toInt8.toInt32)), .val (.int (f4 (1 : Int32) (0 : Int32) x1.toInt8.toInt32.toInt8.toInt32)), .val (.int (1 : Int32)), .val (.int z), .unset, .unset, .unset, .unset, .unset] []) (fun z => z = (if (v382 &&& (31 : Int32)) = (31 : Int32) then (v382 ^^^ (1 : Int32)) else v382)) ?_ (fun J384 => ?_)
                · rintro T385 X386 e387 z383 hz383
                  show Go p_ e_ below _ T385 (mkF m_ 138 #[.val (.int x0), .val (.int x1), .val (.int x2), .val (.int x3), .val (.int (1 : Int32)), .val (.int v2), .val (.ref b324), .val (.ref b345), .val (.int (x1 &&& (255 : Int32))), .val (.int (f4 (1 : Int32) (0 : Int32) x1.toInt8.toInt32.toInt8.toInt32)), .val (.int (f4 (1 : Int32) (0 : Int32) x1.toInt8.toInt32.toInt8.toInt32)), .val (.int (1 : Int32)), .val (.int z383), .unset, .unset, .unset, .unset, .unset] [])
                  have hT := own_t _ _ _ hv382 hz383
                  rcases own_b2 _ _ hv2 with rfl | rfl
                  · show Go p_ e_ below _ T385 (mkF m_ 138 #[.val (.int x0), .val (.int x1), .val (.int x2), .val (.int x3), .val (.int (1 : Int32)), .val (.int (0 : Int32)), .val (.ref b324), .val (.ref b345), .val (.int (x1 &&& (255 : Int32))), .val (.int (f4 (1 : Int32) (0 : Int32) x1.toInt8.toInt32.toInt8.toInt32)), .val (.int (f4 (1 : Int32) (0 : Int32) x1.toInt8.toInt32.toInt8.toInt32)), .val (.int (1 : Int32)), .val (.int z383), .unset, .unset, .unset, .unset, .unset] [])
                    refine g_iconst X386 hx (2 : Int32) rfl (hb hby at_138) 139 rfl ?_
                    refine g_iload X386 hx rfl (hb hby at_139) 141 rfl ?_
                    refine g_iadd X386 hx (hb hby at_141) 142 rfl ?_
                    show Go p_ e_ below _ T385 (mkF m_ 142 #[.val (.int x0), .val (.int x1), .val (.int x2), .val (.int x3), .val (.int (1 : Int32)), .val (.int (0 : Int32)), .val (.ref b324), .val (.ref b345), .val (.int (x1 &&& (255 : Int32))), .val (.int (f4 (1 : Int32) (0 : Int32) x1.toInt8.toInt32.toInt8.toInt32)), .val (.int (f4 (1 : Int32) (0 : Int32) x1.toInt8.toInt32.toInt8.toInt32)), .val (.int (1 : Int32)), .val (.int z383), .unset, .unset, .unset, .unset, .unset] [(.int (2 : Int32))])
                    refine g_newarray X386 hx hZ (aty := .byte) (wd hw 0 rfl) e387 (by decide) 2 (by decide) (by decide) (by decide) (by decide) [(.int (0 : Int32)), (.int (0 : Int32))] rfl (hb hby at_142) 144 rfl (fun T391 h392 b393 X394 e395 g396 E397 A398 => ?_)
                    have ne399 : b324 ≠ b393 := Nat.ne_of_lt (Nat.lt_of_lt_of_eq F373.lt g396.symm)
                    have ne400 : b345 ≠ b393 := Nat.ne_of_lt (Nat.lt_of_lt_of_eq E368.lt g396.symm)
                    have F401 := F373.ext E397
                    have F402 := E368.ext E397
                    have F403 := F369.ext E397
                    have F404 := F370.ext E397
                    have F405 := F371.ext E397
                    have sz406 : h0.size ≤ b393 := Nat.le_trans szh375 (Nat.le_of_eq g396.symm)
                    have szh407 : h0.size ≤ h392.size := Nat.le_trans szh375 E397.1
                    have A408 : AV Z h392 b393 .byte [(.int (0 : Int32)), (.int (0 : Int32))] := A398
                    show Go p_ e_ below _ T391 (mkF m_ 144 #[.val (.int x0), .val (.int x1), .val (.int x2), .val (.int x3), .val (.int (1 : Int32)), .val (.int (0 : Int32)), .val (.ref b324), .val (.ref b345), .val (.int (x1 &&& (255 : Int32))), .val (.int (f4 (1 : Int32) (0 : Int32) x1.toInt8.toInt32.toInt8.toInt32)), .val (.int (f4 (1 : Int32) (0 : Int32) x1.toInt8.toInt32.toInt8.toInt32)), .val (.int (1 : Int32)), .val (.int z383), .unset, .unset, .unset, .unset, .unset] [(.ref b393)])
                    refine g_astore X394 hx #[.val (.int x0), .val (.int x1), .val (.int x2), .val (.int x3), .val (.int (1 : Int32)), .val (.int (0 : Int32)), .val (.ref b324), .val (.ref b345), .val (.int (x1 &&& (255 : Int32))), .val (.int (f4 (1 : Int32) (0 : Int32) x1.toInt8.toInt32.toInt8.toInt32)), .val (.int (f4 (1 : Int32) (0 : Int32) x1.toInt8.toInt32.toInt8.toInt32)), .val (.int (1 : Int32)), .val (.int z383), .val (.ref b393), .unset, .unset, .unset, .unset] rfl rfl (hb hby at_144) 146 rfl ?_
                    refine g_aload X394 hx rfl rfl (hb hby at_146) 148 rfl ?_
                    refine g_iconst X394 hx (0 : Int32) rfl (hb hby at_148) 149 rfl ?_
                    refine g_iload X394 hx rfl (hb hby at_149) 151 rfl ?_
                    refine g_i2b X394 hx (hb hby at_151) 152 rfl ?_
                    refine g_bastore X394 hx hZ e395 A408 (by decide) (Nat.le_of_ble_eq_true rfl) (hb hby at_152) 153 rfl (fun T409 h410 X411 e412 W413 A414 => ?_)
                    have A415 : AV Z h410 b393 .byte [(.int z383.toInt8.toInt32.toInt8.toInt32), (.int (0 : Int32))] := A414
                    have F416 := F401.other W413 ne399
                    have F417 := F402.wr W413
                    have F418 := F403.other W413 (Or.inl ne400)
                    have F419 := F404.other W413 (Or.inl ne400)
                    have F420 := F405.other W413 (Or.inl ne400)
                    have F421 := A415
                    have N422 := Fr.snoc X411 N372 sz406
                    have szh423 : h0.size ≤ h410.size := Nat.le_trans szh407 (Nat.le_of_eq W413.size.symm)
                    show Go p_ e_ below _ T409 (mkF m_ 153 #[.val (.int x0), .val (.int x1), .val (.int x2), .val (.int x3), .val (.int (1 : Int32)), .val (.int (0 : Int32)), .val (.ref b324), .val (.ref b345), .val (.int (x1 &&& (255 : Int32))), .val (.int (f4 (1 : Int32) (0 : Int32) x1.toInt8.toInt32.toInt8.toInt32)), .val (.int (f4 (1 : Int32) (0 : Int32) x1.toInt8.toInt32.toInt8.toInt32)), .val (.int (1 : Int32)), .val (.int z383), .val (.ref b393), .unset, .unset, .unset, .unset] [])
                    refine g_aload X411 hx rfl rfl (hb hby at_153) 155 rfl ?_
                    refine g_iconst X411 hx (1 : Int32) rfl (hb hby at_155) 156 rfl ?_
                    refine g_iconst X411 hx (0 : Int32) rfl (hb hby at_156) 157 rfl ?_
                    refine g_bastore X411 hx hZ e412 A415 (by decide) (Nat.le_of_ble_eq_true rfl) (hb hby at_157) 158 rfl (fun T424 h425 X426 e427 W428 A429 => ?_)
                    have A430 : AV Z h425 b393 .byte [(.int z383.toInt8.toInt32.toInt8.toInt32), (.int (0 : Int32).toInt8.toInt32)] := A429
                    have F431 := F416.other W428 ne399
                    have F432 := F417.wr W428
                    have F433 := F418.other W428 (Or.inl ne400)
                    have F434 := F419.other W428 (Or.inl ne400)
                    have F435 := F420.other W428 (Or.inl ne400)
                    have F436 := A430
                    have N437 := Fr.snoc X426 N422 sz406
                    have szh438 : h0.size ≤ h425.size := Nat.le_trans szh423 (Nat.le_of_eq W428.size.symm)
                    show Go p_ e_ below _ T424 (mkF m_ 158 #[.val (.int x0), .val (.int x1), .val (.int x2), .val (.int x3), .val (.int (1 : Int32)), .val (.int (0 : Int32)), .val (.ref b324), .val (.ref b345), .val (.int (x1 &&& (255 : Int32))), .val (.int (f4 (1 : Int32) (0 : Int32) x1.toInt8.toInt32.toInt8.toInt32)), .val (.int (f4 (1 : Int32) (0 : Int32) x1.toInt8.toInt32.toInt8.toInt32)), .val (.int (1 : Int32)), .val (.int z383), .val (.ref b393), .unset, .unset, .unset, .unset] [])
                    refine g_iload X426 hx rfl (hb hby at_158) 160 rfl ?_
                    refine g_iconst X426 hx (1 : Int32) rfl (hb hby at_160) 161 rfl ?_
                    refine g_icmp_ne X426 hx (hb hby at_161) 170 164 (by decide) rfl rfl (fun q161 => ?_) (fun q161 => ?_)
                    · refine g_new X426 hx hZ hown (wd hw 1 rfl) (wd hw 2 rfl) (wd hw 3 rfl) e427 (hb hby at_170) (by decide) (by decide) 173 rfl (fun T439 h440 b441 X442 e443 g444 E445 A446 D447 => ?_)
                      have ne448 : b324 ≠ b441 := Nat.ne_of_lt (Nat.lt_of_lt_of_eq F431.lt g444.symm)
                      have ne449 : b345 ≠ b441 := Nat.ne_of_lt (Nat.lt_of_lt_of_eq F432.lt g444.symm)
                      have ne450 : b393 ≠ b441 := Nat.ne_of_lt (Nat.lt_of_lt_of_eq A430.lt g444.symm)
                      have F451 := F431.ext E445
                      have F452 := F432.ext E445
                      have F453 := F433.ext E445
                      have F454 := F434.ext E445
                      have F455 := F435.ext E445
                      have F456 := A430.ext E445
                      have sz457 : h0.size ≤ b441 := Nat.le_trans szh438 (Nat.le_of_eq g444.symm)
                      have szh458 : h0.size ≤ h440.size := Nat.le_trans szh438 E445.1
                      have F459 : Fld Z h440 b441 "com/example/bindwick/bindwick/BERReader" "data" "[B" .null := D447 (Or.inr (wd hw 14 rfl)) (ty := (.array .byte)) (by decide)
                      have F460 : Fld Z h440 b441 "com/example/bindwick/bindwick/BERReader" "limit" "I" (.int (0 : Int32)) := D447 (Or.inr (wd hw 16 rfl)) (ty := .int) (by decide)
                      have F461 : Fld Z h440 b441 "com/example/bindwick/bindwick/BERReader" "position" "I" (.int (0 : Int32)) := D447 (Or.inl (wd hw 23 rfl)) (ty := .int) (by decide)
                      show Go p_ e_ below _ T439 (mkF m_ 173 #[.val (.int x0), .val (.int x1), .val (.int x2), .val (.int x3), .val (.int (1 : Int32)), .val (.int (0 : Int32)), .val (.ref b324), .val (.ref b345), .val (.int (x1 &&& (255 : Int32))), .val (.int (f4 (1 : Int32) (0 : Int32) x1.toInt8.toInt32.toInt8.toInt32)), .val (.int (f4 (1 : Int32) (0 : Int32) x1.toInt8.toInt32.toInt8.toInt32)), .val (.int (1 : Int32)), .val (.int z383), .val (.ref b393), .unset, .unset, .unset, .unset] [(.ref b441)])
                      refine g_dup X442 hx rfl (hb hby at_173) 174 rfl ?_
                      refine g_aload X442 hx rfl rfl (hb hby at_174) 176 rfl ?_
                      refine g_init X442 hx hZ hown (wd hw 4 rfl) rfl (wd hw 5 rfl) (wd hw 3 rfl) (wd hw 6 rfl) (by decide) e443 [(.ref b393)] [(.ref b441)] rfl (co1 l Z a0 hw b441 b393 [(.int z383.toInt8.toInt32.toInt8.toInt32), (.int (0 : Int32).toInt8.toInt32)] h440 h0.size szh458 sz457 A446 F459 F460 F461 F456 ne450) (lenOf pd_3 rfl) 1 (Nat.le_of_eq rfl) (by decide) (by decide) (by decide) (by decide) (by rw [hml]; rfl) (hb hby at_176) 179 rfl (fun r462 T463 L464 X465 Q466 => ?_)
                      obtain ⟨h467, e468⟩ : ∃ h, T463.heap = h := ⟨_, rfl⟩
                      rw [e468] at Q466
                      obtain ⟨rfl, n469, K470, E471, F472, F473, F474⟩ := Q466
                      have N475 := Fr.app N437 n469
                      have F476 := F451.keep K470 (ninS ne448 nin0)
                      have F477 := F452.keep K470
                      have F478 := F453.keep K470 (ninS ne449 nin0)
                      have F479 := F454.keep K470 (ninS ne449 nin0)
                      have F480 := F455.keep K470 (ninS ne449 nin0)
                      have F481 := F456.keep K470 (ninS ne450 nin0)
                      have F482 := A446.keep K470
                      have szh483 : h0.size ≤ h467.size := Nat.le_trans szh458 K470.1
                      show Go p_ e_ below _ T463 (mkF m_ 179 #[.val (.int x0), .val (.int x1), .val (.int x2), .val (.int x3), .val (.int (1 : Int32)), .val (.int (0 : Int32)), .val (.ref b324), .val (.ref b345), .val (.int (x1 &&& (255 : Int32))), .val (.int (f4 (1 : Int32) (0 : Int32) x1.toInt8.toInt32.toInt8.toInt32)), .val (.int (f4 (1 : Int32) (0 : Int32) x1.toInt8.toInt32.toInt8.toInt32)), .val (.int (1 : Int32)), .val (.int z383), .val (.ref b393), .unset, .unset, .unset, .unset] [(.ref b441)])
                      refine g_astore X465 hx #[.val (.int x0), .val (.int x1), .val (.int x2), .val (.int x3), .val (.int (1 : Int32)), .val (.int (0 : Int32)), .val (.ref b324), .val (.ref b345), .val (.int (x1 &&& (255 : Int32))), .val (.int (f4 (1 : Int32) (0 : Int32) x1.toInt8.toInt32.toInt8.toInt32)), .val (.int (f4 (1 : Int32) (0 : Int32) x1.toInt8.toInt32.toInt8.toInt32)), .val (.int (1 : Int32)), .val (.int z383), .val (.ref b393), .val (.ref b441), .unset, .unset, .unset] rfl rfl (hb hby at_179) 181 rfl ?_
                      refine g_aload X465 hx rfl rfl (hb hby at_181) 183 rfl ?_
                      refine g_callV X465 hx hZ hown (wd hw 17 rfl) (C := "com/example/bindwick/bindwick/BERReader") (wd hw 18 rfl) (wd hw 20 rfl) (wd hw 19 rfl) (wd hw 3 rfl) (wd hw 21 rfl) (by decide) e468 [] [] E471 rfl (co4 l Z a0 hw b441 b393 (2 : Int32) (0 : Int32) [(.int z383.toInt8.toInt32.toInt8.toInt32), (.int (0 : Int32).toInt8.toInt32)] z383.toInt8.toInt32.toInt8.toInt32 h467 F472 F473 F474 F481 (by decide) (fun q => rfl)) (lenOf pd_1 rfl) 0 (Nat.le_of_eq rfl) (by decide) (by decide) (by decide) (by decide) (by rw [hml]; rfl) (hb hby at_183) 186 rfl (pu_cont fun T485 X484 e486 => ?_)
                      show Go p_ e_ below _ T485 (mkF m_ 186 #[.val (.int x0), .val (.int x1), .val (.int x2), .val (.int x3), .val (.int (1 : Int32)), .val (.int (0 : Int32)), .val (.ref b324), .val (.ref b345), .val (.int (x1 &&& (255 : Int32))), .val (.int (f4 (1 : Int32) (0 : Int32) x1.toInt8.toInt32.toInt8.toInt32)), .val (.int (f4 (1 : Int32) (0 : Int32) x1.toInt8.toInt32.toInt8.toInt32)), .val (.int (1 : Int32)), .val (.int z383), .val (.ref b393), .val (.ref b441), .unset, .unset, .unset] [(.int (f4 (2 : Int32) (0 : Int32) z383.toInt8.toInt32.toInt8.toInt32))])
                      refine g_iload X484 hx rfl (hb hby at_186) 188 rfl ?_
                      refine g_icmp_ne X484 hx (hb hby at_188) 195 191 (by decide) rfl rfl (fun q188 => ?_) (fun q188 => ?_)
                      · exact absurd ((own_pk _ _ _ (by decide)).trans (by rw [own_byte, own_byte]; exact hT.1)) q188
                      · refine g_iconst X484 hx (1 : Int32) rfl (hb hby at_191) 192 rfl ?_
                        refine g_goto X484 hx (hb hby at_192) 196 (by decide) rfl ?_
                        refine g_istore X484 hx #[.val (.int x0), .val (.int x1), .val (.int x2), .val (.int x3), .val (.int (1 : Int32)), .val (.int (0 : Int32)), .val (.ref b324), .val (.ref b345), .val (.int (x1 &&& (255 : Int32))), .val (.int (f4 (1 : Int32) (0 : Int32) x1.toInt8.toInt32.toInt8.toInt32)), .val (.int (f4 (1 : Int32) (0 : Int32) x1.toInt8.toInt32.toInt8.toInt32)), .val (.int (1 : Int32)), .val (.int z383), .val (.ref b393), .val (.ref b441), .val (.int (1 : Int32)), .unset, .unset] rfl (hb hby at_196) 198 rfl ?_
                        refine g_aload X484 hx rfl rfl (hb hby at_198) 200 rfl ?_
                        refine g_callV X484 hx hZ hown (wd hw 24 rfl) (C := "com/example/bindwick/bindwick/BERReader") (wd hw 25 rfl) (wd hw 27 rfl) (wd hw 26 rfl) (wd hw 3 rfl) (wd hw 28 rfl) (by decide) e486 [] [] E471 rfl (co5 l Z a0 hw b441 b393 (2 : Int32) z383.toInt8.toInt32.toInt8.toInt32 [] h467 h0.size szh483 sz457 E471 F472 F473 F474 F481 ne450 (by decide) (by rw [own_byte, own_byte, hT.1]; exact hT.2)) (lenOf pd_4 rfl) 0 (Nat.le_of_eq rfl) (by decide) (by decide) (by decide) (by decide) (by rw [hml]; rfl) (hb hby at_200) 203 rfl (fun r487 T488 L489 X490 Q491 => ?_)
                        obtain ⟨h492, e493⟩ : ∃ h, T488.heap = h := ⟨_, rfl⟩
                        rw [e493] at Q491
                        obtain ⟨rfl, n494, K495, E496, F497, F498, F499, A500⟩ := Q491
                        have N501 := Fr.app N475 n494
                        have F502 := F476.keep K495 (ninS ne448 nin0)
                        have F503 := F477.keep K495
                        have F504 := F478.keep K495 (ninS ne449 nin0)
                        have F505 := F479.keep K495 (ninS ne449 nin0)
                        have F506 := F480.keep K495 (ninS ne449 nin0)
                        have F507 := F481.keep K495 (ninS ne450 nin0)
                        have F508 := E471.keep K495
                        have szh509 : h0.size ≤ h492.size := Nat.le_trans szh483 K495.1
                        show Go p_ e_ below _ T488 (mkF m_ 203 #[.val (.int x0), .val (.int x1), .val (.int x2), .val (.int x3), .val (.int (1 : Int32)), .val (.int (0 : Int32)), .val (.ref b324), .val (.ref b345), .val (.int (x1 &&& (255 : Int32))), .val (.int (f4 (1 : Int32) (0 : Int32) x1.toInt8.toInt32.toInt8.toInt32)), .val (.int (f4 (1 : Int32) (0 : Int32) x1.toInt8.toInt32.toInt8.toInt32)), .val (.int (1 : Int32)), .val (.int z383), .val (.ref b393), .val (.ref b441), .val (.int (1 : Int32)), .unset, .unset] [])
                        refine g_iload X490 hx rfl (hb hby at_203) 205 rfl ?_
                        refine g_iconst X490 hx (1 : Int32) rfl (hb hby at_205) 206 rfl ?_
                        refine g_icmp_ne X490 hx (hb hby at_206) 217 209 (by decide) rfl rfl (fun q206 => ?_) (fun q206 => ?_)
                        · refine g_iconst X490 hx (-1 : Int32) rfl (hb hby at_217) 218 rfl ?_
                          refine g_istore X490 hx #[.val (.int x0), .val (.int x1), .val (.int x2), .val (.int x3), .val (.int (1 : Int32)), .val (.int (0 : Int32)), .val (.ref b324), .val (.ref b345), .val (.int (x1 &&& (255 : Int32))), .val (.int (f4 (1 : Int32) (0 : Int32) x1.toInt8.toInt32.toInt8.toInt32)), .val (.int (f4 (1 : Int32) (0 : Int32) x1.toInt8.toInt32.toInt8.toInt32)), .val (.int (1 : Int32)), .val (.int z383), .val (.ref b393), .val (.ref b441), .val (.int (1 : Int32)), .val (.int (-1 : Int32)), .unset] rfl (hb hby at_218) 220 rfl ?_
                          refine g_aload X490 hx rfl rfl (hb hby at_220) 222 rfl ?_
                          refine g_callV X490 hx hZ hown (wd hw 17 rfl) (C := "com/example/bindwick/bindwick/BERReader") (wd hw 18 rfl) (wd hw 20 rfl) (wd hw 19 rfl) (wd hw 3 rfl) (wd hw 21 rfl) (by decide) e493 [] [] E496 rfl (co4 l Z a0 hw b441 b393 (2 : Int32) (2 : Int32) [(.int z383.toInt8.toInt32.toInt8.toInt32), (.int (0 : Int32).toInt8.toInt32)] (0 : Int32) h492 F497 F498 F499 A500 (by decide) (fun q => absurd q (by decide))) (lenOf pd_1 rfl) 0 (Nat.le_of_eq rfl) (by decide) (by decide) (by decide) (by decide) (by rw [hml]; rfl) (hb hby at_222) 225 rfl (pu_cont fun T511 X510 e512 => ?_)
                          show Go p_ e_ below _ T511 (mkF m_ 225 #[.val (.int x0), .val (.int x1), .val (.int x2), .val (.int x3), .val (.int (1 : Int32)), .val (.int (0 : Int32)), .val (.ref b324), .val (.ref b345), .val (.int (x1 &&& (255 : Int32))), .val (.int (f4 (1 : Int32) (0 : Int32) x1.toInt8.toInt32.toInt8.toInt32)), .val (.int (f4 (1 : Int32) (0 : Int32) x1.toInt8.toInt32.toInt8.toInt32)), .val (.int (1 : Int32)), .val (.int z383), .val (.ref b393), .val (.ref b441), .val (.int (1 : Int32)), .val (.int (-1 : Int32)), .unset] [(.int (f4 (2 : Int32) (2 : Int32) (0 : Int32)))])
                          refine g_iload X510 hx rfl (hb hby at_225) 227 rfl ?_
                          refine g_icmp_ne X510 hx (hb hby at_227) 234 230 (by decide) rfl rfl (fun q227 => ?_) (fun q227 => ?_)
                          · exact absurd (own_pk1 _ _ _ (by decide)) q227
                          · refine g_iconst X510 hx (1 : Int32) rfl (hb hby at_230) 231 rfl ?_
                            refine g_goto X510 hx (hb hby at_231) 235 (by decide) rfl ?_
                            refine g_istore X510 hx #[.val (.int x0), .val (.int x1), .val (.int x2), .val (.int x3), .val (.int (1 : Int32)), .val (.int (0 : Int32)), .val (.ref b324), .val (.ref b345), .val (.int (x1 &&& (255 : Int32))), .val (.int (f4 (1 : Int32) (0 : Int32) x1.toInt8.toInt32.toInt8.toInt32)), .val (.int (f4 (1 : Int32) (0 : Int32) x1.toInt8.toInt32.toInt8.toInt32)), .val (.int (1 : Int32)), .val (.int z383), .val (.ref b393), .val (.ref b441), .val (.int (1 : Int32)), .val (.int (-1 : Int32)), .val (.int (1 : Int32))] rfl (hb hby at_235) 237 rfl ?_
                            refine g_iload X510 hx rfl (hb hby at_237) 239 rfl ?_
                            refine g_if_eq X510 hx (hb hby at_239) 256 242 (by decide) rfl rfl (fun q239 => ?_) (fun q239 => ?_)
                            · exact absurd q239 (by decide)
                            · refine g_iload X510 hx rfl (hb hby at_242) 244 rfl ?_
                              refine g_if_eq X510 hx (hb hby at_244) 256 247 (by decide) rfl rfl (fun q244 => ?_) (fun q244 => ?_)
                              · exact absurd q244 (by decide)
                              · refine g_iload X510 hx rfl (hb hby at_247) 249 rfl ?_
                                refine g_if_eq X510 hx (hb hby at_249) 256 252 (by decide) rfl rfl (fun q249 => ?_) (fun q249 => ?_)
                                · exact absurd q249 (by decide)
                                · refine g_iconst X510 hx (1 : Int32) rfl (hb hby at_252) 253 rfl ?_
                                  refine g_goto X510 hx (hb hby at_253) 257 (by decide) rfl ?_
                                  exact g_retz X510 hx hret hlk (by decide) (by decide) (hb hby at_257) ⟨rfl, N501⟩
                        · exact absurd q206 (by decide)
                    · exact absurd q161 (by decide)
                  · show Go p_ e_ below _ T385 (mkF m_ 138 #[.val (.int x0), .val (.int x1), .val (.int x2), .val (.int x3), .val (.int (1 : Int32)), .val (.int (1 : Int32)), .val (.ref b324), .val (.ref b345), .val (.int (x1 &&& (255 : Int32))), .val (.int (f4 (1 : Int32) (0 : Int32) x1.toInt8.toInt32.toInt8.toInt32)), .val (.int (f4 (1 : Int32) (0 : Int32) x1.toInt8.toInt32.toInt8.toInt32)), .val (.int (1 : Int32)), .val (.int z383), .unset, .unset, .unset, .unset, .unset] [])
                    refine g_iconst X386 hx (2 : Int32) rfl (hb hby at_138) 139 rfl ?_
                    refine g_iload X386 hx rfl (hb hby at_139) 141 rfl ?_
                    refine g_iadd X386 hx (hb hby at_141) 142 rfl ?_
                    show Go p_ e_ below _ T385 (mkF m_ 142 #[.val (.int x0), .val (.int x1), .val (.int x2), .val (.int x3), .val (.int (1 : Int32)), .val (.int (1 : Int32)), .val (.ref b324), .val (.ref b345), .val (.int (x1 &&& (255 : Int32))), .val (.int (f4 (1 : Int32) (0 : Int32) x1.toInt8.toInt32.toInt8.toInt32)), .val (.int (f4 (1 : Int32) (0 : Int32) x1.toInt8.toInt32.toInt8.toInt32)), .val (.int (1 : Int32)), .val (.int z383), .unset, .unset, .unset, .unset, .unset] [(.int (3 : Int32))])
                    refine g_newarray X386 hx hZ (aty := .byte) (wd hw 0 rfl) e387 (by decide) 3 (by decide) (by decide) (by decide) (by decide) [(.int (0 : Int32)), (.int (0 : Int32)), (.int (0 : Int32))] rfl (hb hby at_142) 144 rfl (fun T513 h514 b515 X516 e517 g518 E519 A520 => ?_)
                    have ne521 : b324 ≠ b515 := Nat.ne_of_lt (Nat.lt_of_lt_of_eq F373.lt g518.symm)
                    have ne522 : b345 ≠ b515 := Nat.ne_of_lt (Nat.lt_of_lt_of_eq E368.lt g518.symm)
                    have F523 := F373.ext E519
                    have F524 := E368.ext E519
                    have F525 := F369.ext E519
                    have F526 := F370.ext E519
                    have F527 := F371.ext E519
                    have sz528 : h0.size ≤ b515 := Nat.le_trans szh375 (Nat.le_of_eq g518.symm)
                    have szh529 : h0.size ≤ h514.size := Nat.le_trans szh375 E519.1
                    have A530 : AV Z h514 b515 .byte [(.int (0 : Int32)), (.int (0 : Int32)), (.int (0 : Int32))] := A520
                    show Go p_ e_ below _ T513 (mkF m_ 144 #[.val (.int x0), .val (.int x1), .val (.int x2), .val (.int x3), .val (.int (1 : Int32)), .val (.int (1 : Int32)), .val (.ref b324), .val (.ref b345), .val (.int (x1 &&& (255 : Int32))), .val (.int (f4 (1 : Int32) (0 : Int32) x1.toInt8.toInt32.toInt8.toInt32)), .val (.int (f4 (1 : Int32) (0 : Int32) x1.toInt8.toInt32.toInt8.toInt32)), .val (.int (1 : Int32)), .val (.int z383), .unset, .unset, .unset, .unset, .unset] [(.ref b515)])
                    refine g_astore X516 hx #[.val (.int x0), .val (.int x1), .val (.int x2), .val (.int x3), .val (.int (1 : Int32)), .val (.int (1 : Int32)), .val (.ref b324), .val (.ref b345), .val (.int (x1 &&& (255 : Int32))), .val (.int (f4 (1 : Int32) (0 : Int32) x1.toInt8.toInt32.toInt8.toInt32)), .val (.int (f4 (1 : Int32) (0 : Int32) x1.toInt8.toInt32.toInt8.toInt32)), .val (.int (1 : Int32)), .val (.int z383), .val (.ref b515), .unset, .unset, .unset, .unset] rfl rfl (hb hby at_144) 146 rfl ?_
                    refine g_aload X516 hx rfl rfl (hb hby at_146) 148 rfl ?_
                    refine g_iconst X516 hx (0 : Int32) rfl (hb hby at_148) 149 rfl ?_
                    refine g_iload X516 hx rfl (hb hby at_149) 151 rfl ?_
                    refine g_i2b X516 hx (hb hby at_151) 152 rfl ?_
                    refine g_bastore X516 hx hZ e517 A530 (by decide) (Nat.le_of_ble_eq_true rfl) (hb hby at_152) 153 rfl (fun T531 h532 X533 e534 W535 A536 => ?_)
                    have A537 : AV Z h532 b515 .byte [(.int z383.toInt8.toInt32.toInt8.toInt32), (.int (0 : Int32)), (.int (0 : Int32))] := A536
                    have F538 := F523.other W535 ne521
                    have F539 := F524.wr W535
                    have F540 := F525.other W535 (Or.inl ne522)
                    have F541 := F526.other W535 (Or.inl ne522)
                    have F542 := F527.other W535 (Or.inl ne522)
                    have F543 := A537
                    have N544 := Fr.snoc X533 N372 sz528
                    have szh545 : h0.size ≤ h532.size := Nat.le_trans szh529 (Nat.le_of_eq W535.size.symm)
                    show Go p_ e_ below _ T531 (mkF m_ 153 #[.val (.int x0), .val (.int x1), .val (.int x2), .val (.int x3), .val (.int (1 : Int32)), .val (.int (1 : Int32)), .val (.ref b324), .val (.ref b345), .val (.int (x1 &&& (255 : Int32))), .val (.int (f4 (1 : Int32) (0 : Int32) x1.toInt8.toInt32.toInt8.toInt32)), .val (.int (f4 (1 : Int32) (0 : Int32) x1.toInt8.toInt32.toInt8.toInt32)), .val (.int (1 : Int32)), .val (.int z383), .val (.ref b515), .unset, .unset, .unset, .unset] [])
                    refine g_aload X533 hx rfl rfl (hb hby at_153) 155 rfl ?_
                    refine g_iconst X533 hx (1 : Int32) rfl (hb hby at_155) 156 rfl ?_
                    refine g_iconst X533 hx (0 : Int32) rfl (hb hby at_156) 157 rfl ?_
                    refine g_bastore X533 hx hZ e534 A537 (by decide) (Nat.le_of_ble_eq_true rfl) (hb hby at_157) 158 rfl (fun T546 h547 X548 e549 W550 A551 => ?_)
                    have A552 : AV Z h547 b515 .byte [(.int z383.toInt8.toInt32.toInt8.toInt32), (.int (0 : Int32).toInt8.toInt32), (.int (0 : Int32))] := A551
                    have F553 := F538.other W550 ne521
                    have F554 := F539.wr W550
                    have F555 := F540.other W550 (Or.inl ne522)
                    have F556 := F541.other W550 (Or.inl ne522)
                    have F557 := F542.other W550 (Or.inl ne522)
                    have F558 := A552
                    have N559 := Fr.snoc X548 N544 sz528
                    have szh560 : h0.size ≤ h547.size := Nat.le_trans szh545 (Nat.le_of_eq W550.size.symm)
                    show Go p_ e_ below _ T546 (mkF m_ 158 #[.val (.int x0), .val (.int x1), .val (.int x2), .val (.int x3), .val (.int (1 : Int32)), .val (.int (1 : Int32)), .val (.ref b324), .val (.ref b345), .val (.int (x1 &&& (255 : Int32))), .val (.int (f4 (1 : Int32) (0 : Int32) x1.toInt8.toInt32.toInt8.toInt32)), .val (.int (f4 (1 : Int32) (0 : Int32) x1.toInt8.toInt32.toInt8.toInt32)), .val (.int (1 : Int32)), .val (.int z383), .val (.ref b515), .unset, .unset, .unset, .unset] [])
                    refine g_iload X548 hx rfl (hb hby at_158) 160 rfl ?_
                    refine g_iconst X548 hx (1 : Int32) rfl (hb hby at_160) 161 rfl ?_
                    refine g_icmp_ne X548 hx (hb hby at_161) 170 164 (by decide) rfl rfl (fun q161 => ?_) (fun q161 => ?_)
                    · exact absurd rfl q161
                    · refine g_aload X548 hx rfl rfl (hb hby at_164) 166 rfl ?_
                      refine g_iconst X548 hx (2 : Int32) rfl (hb hby at_166) 167 rfl ?_
                      refine g_iloadN X548 hx rfl (hb hby at_167) 168 rfl ?_
                      refine g_i2b X548 hx (hb hby at_168) 169 rfl ?_
                      refine g_bastore X548 hx hZ e549 A552 (by decide) (Nat.le_of_ble_eq_true rfl) (hb hby at_169) 170 rfl (fun T561 h562 X563 e564 W565 A566 => ?_)
                      have A567 : AV Z h562 b515 .byte [(.int z383.toInt8.toInt32.toInt8.toInt32), (.int (0 : Int32).toInt8.toInt32), (.int x3.toInt8.toInt32.toInt8.toInt32)] := A566
                      have F568 := F553.other W565 ne521
                      have F569 := F554.wr W565
                      have F570 := F555.other W565 (Or.inl ne522)
                      have F571 := F556.other W565 (Or.inl ne522)
                      have F572 := F557.other W565 (Or.inl ne522)
                      have F573 := A567
                      have N574 := Fr.snoc X563 N559 sz528
                      have szh575 : h0.size ≤ h562.size := Nat.le_trans szh560 (Nat.le_of_eq W565.size.symm)
                      show Go p_ e_ below _ T561 (mkF m_ 170 #[.val (.int x0), .val (.int x1), .val (.int x2), .val (.int x3), .val (.int (1 : Int32)), .val (.int (1 : Int32)), .val (.ref b324), .val (.ref b345), .val (.int (x1 &&& (255 : Int32))), .val (.int (f4 (1 : Int32) (0 : Int32) x1.toInt8.toInt32.toInt8.toInt32)), .val (.int (f4 (1 : Int32) (0 : Int32) x1.toInt8.toInt32.toInt8.toInt32)), .val (.int (1 : Int32)), .val (.int z383), .val (.ref b515), .unset, .unset, .unset, .unset] [])
                      refine g_new X563 hx hZ hown (wd hw 1 rfl) (wd hw 2 rfl) (wd hw 3 rfl) e564 (hb hby at_170) (by decide) (by decide) 173 rfl (fun T576 h577 b578 X579 e580 g581 E582 A583 D584 => ?_)
                      have ne585 : b324 ≠ b578 := Nat.ne_of_lt (Nat.lt_of_lt_of_eq F568.lt g581.symm)
                      have ne586 : b345 ≠ b578 := Nat.ne_of_lt (Nat.lt_of_lt_of_eq F569.lt g581.symm)
                      have ne587 : b515 ≠ b578 := Nat.ne_of_lt (Nat.lt_of_lt_of_eq A567.lt g581.symm)
                      have F588 := F568.ext E582
                      have F589 := F569.ext E582
                      have F590 := F570.ext E582
                      have F591 := F571.ext E582
                      have F592 := F572.ext E582
                      have F593 := A567.ext E582
                      have sz594 : h0.size ≤ b578 := Nat.le_trans szh575 (Nat.le_of_eq g581.symm)
                      have szh595 : h0.size ≤ h577.size := Nat.le_trans szh575 E582.1
                      have F596 : Fld Z h577 b578 "com/example/bindwick/bindwick/BERReader" "data" "[B" .null := D584 (Or.inr (wd hw 14 rfl)) (ty := (.array .byte)) (by decide)
                      have F597 : Fld Z h577 b578 "com/example/bindwick/bindwick/BERReader" "limit" "I" (.int (0 : Int32)) := D584 (Or.inr (wd hw 16 rfl)) (ty := .int) (by decide)
                      have F598 : Fld Z h577 b578 "com/example/bindwick/bindwick/BERReader" "position" "I" (.int (0 : Int32)) := D584 (Or.inl (wd hw 23 rfl)) (ty := .int) (by decide)
                      show Go p_ e_ below _ T576 (mkF m_ 173 #[.val (.int x0), .val (.int x1), .val (.int x2), .val (.int x3), .val (.int (1 : Int32)), .val (.int (1 : Int32)), .val (.ref b324), .val (.ref b345), .val (.int (x1 &&& (255 : Int32))), .val (.int (f4 (1 : Int32) (0 : Int32) x1.toInt8.toInt32.toInt8.toInt32)), .val (.int (f4 (1 : Int32) (0 : Int32) x1.toInt8.toInt32.toInt8.toInt32)), .val (.int (1 : Int32)), .val (.int z383), .val (.ref b515), .unset, .unset, .unset, .unset] [(.ref b578)])
                      refine g_dup X579 hx rfl (hb hby at_173) 174 rfl ?_
                      refine g_aload X579 hx rfl rfl (hb hby at_174) 176 rfl ?_
                      refine g_init X579 hx hZ hown (wd hw 4 rfl) rfl (wd hw 5 rfl) (wd hw 3 rfl) (wd hw 6 rfl) (by decide) e580 [(.ref b515)] [(.ref b578)] rfl (co1 l Z a0 hw b578 b515 [(.int z383.toInt8.toInt32.toInt8.toInt32), (.int (0 : Int32).toInt8.toInt32), (.int x3.toInt8.toInt32.toInt8.toInt32)] h577 h0.size szh595 sz594 A583 F596 F597 F598 F593 ne587) (lenOf pd_3 rfl) 1 (Nat.le_of_eq rfl) (by decide) (by decide) (by decide) (by decide) (by rw [hml]; rfl) (hb hby at_176) 179 rfl (fun r599 T600 L601 X602 Q603 => ?_)
                      obtain ⟨h604, e605⟩ : ∃ h, T600.heap = h := ⟨_, rfl⟩
                      rw [e605] at Q603
                      obtain ⟨rfl, n606, K607, E608, F609, F610, F611⟩ := Q603
                      have N612 := Fr.app N574 n606
                      have F613 := F588.keep K607 (ninS ne585 nin0)
                      have F614 := F589.keep K607
                      have F615 := F590.keep K607 (ninS ne586 nin0)
                      have F616 := F591.keep K607 (ninS ne586 nin0)
                      have F617 := F592.keep K607 (ninS ne586 nin0)
                      have F618 := F593.keep K607 (ninS ne587 nin0)
                      have F619 := A583.keep K607
                      have szh620 : h0.size ≤ h604.size := Nat.le_trans szh595 K607.1
                      show Go p_ e_ below _ T600 (mkF m_ 179 #[.val (.int x0), .val (.int x1), .val (.int x2), .val (.int x3), .val (.int (1 : Int32)), .val (.int (1 : Int32)), .val (.ref b324), .val (.ref b345), .val (.int (x1 &&& (255 : Int32))), .val (.int (f4 (1 : Int32) (0 : Int32) x1.toInt8.toInt32.toInt8.toInt32)), .val (.int (f4 (1 : Int32) (0 : Int32) x1.toInt8.toInt32.toInt8.toInt32)), .val (.int (1 : Int32)), .val (.int z383), .val (.ref b515), .unset, .unset, .unset, .unset] [(.ref b578)])
                      refine g_astore X602 hx #[.val (.int x0), .val (.int x1), .val (.int x2), .val (.int x3), .val (.int (1 : Int32)), .val (.int (1 : Int32)), .val (.ref b324), .val (.ref b345), .val (.int (x1 &&& (255 : Int32))), .val (.int (f4 (1 : Int32) (0 : Int32) x1.toInt8.toInt32.toInt8.toInt32)), .val (.int (f4 (1 : Int32) (0 : Int32) x1.toInt8.toInt32.toInt8.toInt32)), .val (.int (1 : Int32)), .val (.int z383), .val (.ref b515), .val (.ref b578), .unset, .unset, .unset] rfl rfl (hb hby at_179) 181 rfl ?_
                      refine g_aload X602 hx rfl rfl (hb hby at_181) 183 rfl ?_
                      refine g_callV X602 hx hZ hown (wd hw 17 rfl) (C := "com/example/bindwick/bindwick/BERReader") (wd hw 18 rfl) (wd hw 20 rfl) (wd hw 19 rfl) (wd hw 3 rfl) (wd hw 21 rfl) (by decide) e605 [] [] E608 rfl (co4 l Z a0 hw b578 b515 (3 : Int32) (0 : Int32) [(.int z383.toInt8.toInt32.toInt8.toInt32), (.int (0 : Int32).toInt8.toInt32), (.int x3.toInt8.toInt32.toInt8.toInt32)] z383.toInt8.toInt32.toInt8.toInt32 h604 F609 F610 F611 F618 (by decide) (fun q => rfl)) (lenOf pd_1 rfl) 0 (Nat.le_of_eq rfl) (by decide) (by decide) (by decide) (by decide) (by rw [hml]; rfl) (hb hby at_183) 186 rfl (pu_cont fun T622 X621 e623 => ?_)
                      show Go p_ e_ below _ T622 (mkF m_ 186 #[.val (.int x0), .val (.int x1), .val (.int x2), .val (.int x3), .val (.int (1 : Int32)), .val (.int (1 : Int32)), .val (.ref b324), .val (.ref b345), .val (.int (x1 &&& (255 : Int32))), .val (.int (f4 (1 : Int32) (0 : Int32) x1.toInt8.toInt32.toInt8.toInt32)), .val (.int (f4 (1 : Int32) (0 : Int32) x1.toInt8.toInt32.toInt8.toInt32)), .val (.int (1 : Int32)), .val (.int z383), .val (.ref b515), .val (.ref b578), .unset, .unset, .unset] [(.int (f4 (3 : Int32) (0 : Int32) z383.toInt8.toInt32.toInt8.toInt32))])
                      refine g_iload X621 hx rfl (hb hby at_186) 188 rfl ?_
                      refine g_icmp_ne X621 hx (hb hby at_188) 195 191 (by decide) rfl rfl (fun q188 => ?_) (fun q188 => ?_)
                      · exact absurd ((own_pk _ _ _ (by decide)).trans (by rw [own_byte, own_byte]; exact hT.1)) q188
                      · refine g_iconst X621 hx (1 : Int32) rfl (hb hby at_191) 192 rfl ?_
                        refine g_goto X621 hx (hb hby at_192) 196 (by decide) rfl ?_
                        refine g_istore X621 hx #[.val (.int x0), .val (.int x1), .val (.int x2), .val (.int x3), .val (.int (1 : Int32)), .val (.int (1 : Int32)), .val (.ref b324), .val (.ref b345), .val (.int (x1 &&& (255 : Int32))), .val (.int (f4 (1 : Int32) (0 : Int32) x1.toInt8.toInt32.toInt8.toInt32)), .val (.int (f4 (1 : Int32) (0 : Int32) x1.toInt8.toInt32.toInt8.toInt32)), .val (.int (1 : Int32)), .val (.int z383), .val (.ref b515), .val (.ref b578), .val (.int (1 : Int32)), .unset, .unset] rfl (hb hby at_196) 198 rfl ?_
                        refine g_aload X621 hx rfl rfl (hb hby at_198) 200 rfl ?_
                        refine g_callV X621 hx hZ hown (wd hw 24 rfl) (C := "com/example/bindwick/bindwick/BERReader") (wd hw 25 rfl) (wd hw 27 rfl) (wd hw 26 rfl) (wd hw 3 rfl) (wd hw 28 rfl) (by decide) e623 [] [] E608 rfl (co5 l Z a0 hw b578 b515 (3 : Int32) z383.toInt8.toInt32.toInt8.toInt32 [(.int x3.toInt8.toInt32.toInt8.toInt32)] h604 h0.size szh620 sz594 E608 F609 F610 F611 F618 ne587 (by decide) (by rw [own_byte, own_byte, hT.1]; exact hT.2)) (lenOf pd_4 rfl) 0 (Nat.le_of_eq rfl) (by decide) (by decide) (by decide) (by decide) (by rw [hml]; rfl) (hb hby at_200) 203 rfl (fun r624 T625 L626 X627 Q628 => ?_)
                        obtain ⟨h629, e630⟩ : ∃ h, T625.heap = h := ⟨_, rfl⟩
                        rw [e630] at Q628
                        obtain ⟨rfl, n631, K632, E633, F634, F635, F636, A637⟩ := Q628
                        have N638 := Fr.app N612 n631
                        have F639 := F613.keep K632 (ninS ne585 nin0)
                        have F640 := F614.keep K632
                        have F641 := F615.keep K632 (ninS ne586 nin0)
                        have F642 := F616.keep K632 (ninS ne586 nin0)
                        have F643 := F617.keep K632 (ninS ne586 nin0)
                        have F644 := F618.keep K632 (ninS ne587 nin0)
                        have F645 := E608.keep K632
                        have szh646 : h0.size ≤ h629.size := Nat.le_trans szh620 K632.1
                        show Go p_ e_ below _ T625 (mkF m_ 203 #[.val (.int x0), .val (.int x1), .val (.int x2), .val (.int x3), .val (.int (1 : Int32)), .val (.int (1 : Int32)), .val (.ref b324), .val (.ref b345), .val (.int (x1 &&& (255 : Int32))), .val (.int (f4 (1 : Int32) (0 : Int32) x1.toInt8.toInt32.toInt8.toInt32)), .val (.int (f4 (1 : Int32) (0 : Int32) x1.toInt8.toInt32.toInt8.toInt32)), .val (.int (1 : Int32)), .val (.int z383), .val (.ref b515), .val (.ref b578), .val (.int (1 : Int32)), .unset, .unset] [])
                        refine g_iload X627 hx rfl (hb hby at_203) 205 rfl ?_
                        refine g_iconst X627 hx (1 : Int32) rfl (hb hby at_205) 206 rfl ?_
                        refine g_icmp_ne X627 hx (hb hby at_206) 217 209 (by decide) rfl rfl (fun q206 => ?_) (fun q206 => ?_)
                        · exact absurd rfl q206
                        · refine g_iloadN X627 hx rfl (hb hby at_209) 210 rfl ?_
                          refine g_sipush X627 hx (255 : Int32) rfl (hb hby at_210) 213 rfl ?_
                          refine g_iand X627 hx (hb hby at_213) 214 rfl ?_
                          refine g_goto X627 hx (hb hby at_214) 218 (by decide) rfl ?_
                          refine g_istore X627 hx #[.val (.int x0), .val (.int x1), .val (.int x2), .val (.int x3), .val (.int (1 : Int32)), .val (.int (1 : Int32)), .val (.ref b324), .val (.ref b345), .val (.int (x1 &&& (255 : Int32))), .val (.int (f4 (1 : Int32) (0 : Int32) x1.toInt8.toInt32.toInt8.toInt32)), .val (.int (f4 (1 : Int32) (0 : Int32) x1.toInt8.toInt32.toInt8.toInt32)), .val (.int (1 : Int32)), .val (.int z383), .val (.ref b515), .val (.ref b578), .val (.int (1 : Int32)), .val (.int (x3 &&& (255 : Int32))), .unset] rfl (hb hby at_218) 220 rfl ?_
                          refine g_aload X627 hx rfl rfl (hb hby at_220) 222 rfl ?_
                          refine g_callV X627 hx hZ hown (wd hw 17 rfl) (C := "com/example/bindwick/bindwick/BERReader") (wd hw 18 rfl) (wd hw 20 rfl) (wd hw 19 rfl) (wd hw 3 rfl) (wd hw 21 rfl) (by decide) e630 [] [] E633 rfl (co4 l Z a0 hw b578 b515 (3 : Int32) (2 : Int32) [(.int z383.toInt8.toInt32.toInt8.toInt32), (.int (0 : Int32).toInt8.toInt32), (.int x3.toInt8.toInt32.toInt8.toInt32)] x3.toInt8.toInt32.toInt8.toInt32 h629 F634 F635 F636 A637 (by decide) (fun q => rfl)) (lenOf pd_1 rfl) 0 (Nat.le_of_eq rfl) (by decide) (by decide) (by decide) (by decide) (by rw [hml]; rfl) (hb hby at_222) 225 rfl (pu_cont fun T648 X647 e649 => ?_)
                          show Go p_ e_ below _ T648 (mkF m_ 225 #[.val (.int x0), .val (.int x1), .val (.int x2), .val (.int x3), .val (.int (1 : Int32)), .val (.int (1 : Int32)), .val (.ref b324), .val (.ref b345), .val (.int (x1 &&& (255 : Int32))), .val (.int (f4 (1 : Int32) (0 : Int32) x1.toInt8.toInt32.toInt8.toInt32)), .val (.int (f4 (1 : Int32) (0 : Int32) x1.toInt8.toInt32.toInt8.toInt32)), .val (.int (1 : Int32)), .val (.int z383), .val (.ref b515), .val (.ref b578), .val (.int (1 : Int32)), .val (.int (x3 &&& (255 : Int32))), .unset] [(.int (f4 (3 : Int32) (2 : Int32) x3.toInt8.toInt32.toInt8.toInt32))])
                          refine g_iload X647 hx rfl (hb hby at_225) 227 rfl ?_
                          refine g_icmp_ne X647 hx (hb hby at_227) 234 230 (by decide) rfl rfl (fun q227 => ?_) (fun q227 => ?_)
                          · exact absurd ((own_pk _ _ _ (by decide)).trans (by rw [own_byte, own_byte])) q227
                          · refine g_iconst X647 hx (1 : Int32) rfl (hb hby at_230) 231 rfl ?_
                            refine g_goto X647 hx (hb hby at_231) 235 (by decide) rfl ?_
                            refine g_istore X647 hx #[.val (.int x0), .val (.int x1), .val (.int x2), .val (.int x3), .val (.int (1 : Int32)), .val (.int (1 : Int32)), .val (.ref b324), .val (.ref b345), .val (.int (x1 &&& (255 : Int32))), .val (.int (f4 (1 : Int32) (0 : Int32) x1.toInt8.toInt32.toInt8.toInt32)), .val (.int (f4 (1 : Int32) (0 : Int32) x1.toInt8.toInt32.toInt8.toInt32)), .val (.int (1 : Int32)), .val (.int z383), .val (.ref b515), .val (.ref b578), .val (.int (1 : Int32)), .val (.int (x3 &&& (255 : Int32))), .val (.int (1 : Int32))] rfl (hb hby at_235) 237 rfl ?_
                            refine g_iload X647 hx rfl (hb hby at_237) 239 rfl ?_
                            refine g_if_eq X647 hx (hb hby at_239) 256 242 (by decide) rfl rfl (fun q239 => ?_) (fun q239 => ?_)
                            · exact absurd q239 (by decide)
                            · refine g_iload X647 hx rfl (hb hby at_242) 244 rfl ?_
                              refine g_if_eq X647 hx (hb hby at_244) 256 247 (by decide) rfl rfl (fun q244 => ?_) (fun q244 => ?_)
                              · exact absurd q244 (by decide)
                              · refine g_iload X647 hx rfl (hb hby at_247) 249 rfl ?_
                                refine g_if_eq X647 hx (hb hby at_249) 256 252 (by decide) rfl rfl (fun q249 => ?_) (fun q249 => ?_)
                                · exact absurd q249 (by decide)
                                · refine g_iconst X647 hx (1 : Int32) rfl (hb hby at_252) 253 rfl ?_
                                  refine g_goto X647 hx (hb hby at_253) 257 (by decide) rfl ?_
                                  exact g_retz X647 hx hret hlk (by decide) (by decide) (hb hby at_257) ⟨rfl, N638⟩
                · refine g_icmp_ne X379 hx (hb hby at_129) 138 132 (by decide) rfl rfl (fun q129 => ?_) (fun q129 => ?_)
                  · exact J384 T380 X379 e381 (v382) ((if_neg q129).trans rfl).symm
                  · refine g_iload X379 hx rfl (hb hby at_132) 134 rfl ?_
                    refine g_iconst X379 hx (1 : Int32) rfl (hb hby at_134) 135 rfl ?_
                    refine g_ixor X379 hx (hb hby at_135) 136 rfl ?_
                    refine g_istore X379 hx #[.val (.int x0), .val (.int x1), .val (.int x2), .val (.int x3), .val (.int (1 : Int32)), .val (.int v2), .val (.ref b324), .val (.ref b345), .val (.int (x1 &&& (255 : Int32))), .val (.int (f4 (1 : Int32) (0 : Int32) x1.toInt8.toInt32.toInt8.toInt32)), .val (.int (f4 (1 : Int32) (0 : Int32) x1.toInt8.toInt32.toInt8.toInt32)), .val (.int (1 : Int32)), .val (.int (v382 ^^^ (1 : Int32))), .unset, .unset, .unset, .unset, .unset] rfl (hb hby at_136) 138 rfl ?_
                    exact J384 T380 X379 e381 ((v382 ^^^ (1 : Int32))) ((if_pos q129).trans rfl).symm
          · exact absurd q66 (by decide)
        · exact absurd q44 (by decide)
      · exact absurd q32 (by decide)
  · show Go p_ e_ below _ T0 (mkF m_ 12 #[.val (.int x0), .val (.int x1), .val (.int x2), .val (.int x3), .val (.int (2 : Int32)), .val (.int v2), .unset, .unset, .unset, .unset, .unset, .unset, .unset, .unset, .unset, .unset, .unset, .unset] [])
    refine g_iload X0 hx rfl (hb hby at_12) 14 rfl ?_
    refine g_newarray X0 hx hZ (aty := .byte) (wd hw 0 rfl) e0 (by decide) 2 (by decide) (by decide) (by decide) (by decide) [(.int (0 : Int32)), (.int (0 : Int32))] rfl (hb hby at_14) 16 rfl (fun T650 h651 b652 X653 e654 g655 E656 A657 => ?_)
    have sz658 : h0.size ≤ b652 := Nat.le_trans (Nat.le_refl h0.size) (Nat.le_of_eq g655.symm)
    have szh659 : h0.size ≤ h651.size := Nat.le_trans (Nat.le_refl h0.size) E656.1
    have A660 : AV Z h651 b652 .byte [(.int (0 : Int32)), (.int (0 : Int32))] := A657
    show Go p_ e_ below _ T650 (mkF m_ 16 #[.val (.int x0), .val (.int x1), .val (.int x2), .val (.int x3), .val (.int (2 : Int32)), .val (.int v2), .unset, .unset, .unset, .unset, .unset, .unset, .unset, .unset, .unset, .unset, .unset, .unset] [(.ref b652)])
    refine g_astore X653 hx #[.val (.int x0), .val (.int x1), .val (.int x2), .val (.int x3), .val (.int (2 : Int32)), .val (.int v2), .val (.ref b652), .unset, .unset, .unset, .unset, .unset, .unset, .unset, .unset, .unset, .unset, .unset] rfl rfl (hb hby at_16) 18 rfl ?_
    refine g_iload X653 hx rfl (hb hby at_18) 20 rfl ?_
    refine g_if_le X653 hx (hb hby at_20) 29 23 (by decide) rfl rfl (fun q20 => ?_) (fun q20 => ?_)
    · exact absurd q20 (by decide)
    · refine g_aload X653 hx rfl rfl (hb hby at_23) 25 rfl ?_
      refine g_iconst X653 hx (0 : Int32) rfl (hb hby at_25) 26 rfl ?_
      refine g_iloadN X653 hx rfl (hb hby at_26) 27 rfl ?_
      refine g_i2b X653 hx (hb hby at_27) 28 rfl ?_
      refine g_bastore X653 hx hZ e654 A660 (by decide) (Nat.le_of_ble_eq_true rfl) (hb hby at_28) 29 rfl (fun T661 h662 X663 e664 W665 A666 => ?_)
      have A667 : AV Z h662 b652 .byte [(.int x1.toInt8.toInt32.toInt8.toInt32), (.int (0 : Int32))] := A666
      have F668 := A667
      have N669 := Fr.snoc X663 N0 sz658
      have szh670 : h0.size ≤ h662.size := Nat.le_trans szh659 (Nat.le_of_eq W665.size.symm)
      show Go p_ e_ below _ T661 (mkF m_ 29 #[.val (.int x0), .val (.int x1), .val (.int x2), .val (.int x3), .val (.int (2 : Int32)), .val (.int v2), .val (.ref b652), .unset, .unset, .unset, .unset, .unset, .unset, .unset, .unset, .unset, .unset, .unset] [])
      refine g_iload X663 hx rfl (hb hby at_29) 31 rfl ?_
      refine g_iconst X663 hx (1 : Int32) rfl (hb hby at_31) 32 rfl ?_
      refine g_icmp_le X663 hx (hb hby at_32) 41 35 (by decide) rfl rfl (fun q32 => ?_) (fun q32 => ?_)
      · exact absurd q32 (by decide)
      · refine g_aload X663 hx rfl rfl (hb hby at_35) 37 rfl ?_
        refine g_iconst X663 hx (1 : Int32) rfl (hb hby at_37) 38 rfl ?_
        refine g_iloadN X663 hx rfl (hb hby at_38) 39 rfl ?_
        refine g_i2b X663 hx (hb hby at_39) 40 rfl ?_
        refine g_bastore X663 hx hZ e664 A667 (by decide) (Nat.le_of_ble_eq_true rfl) (hb hby at_40) 41 rfl (fun T671 h672 X673 e674 W675 A676 => ?_)
        have A677 : AV Z h672 b652 .byte [(.int x1.toInt8.toInt32.toInt8.toInt32), (.int x2.toInt8.toInt32.toInt8.toInt32)] := A676
        have F678 := A677
        have N679 := Fr.snoc X673 N669 sz658
        have szh680 : h0.size ≤ h672.size := Nat.le_trans szh670 (Nat.le_of_eq W675.size.symm)
        show Go p_ e_ below _ T671 (mkF m_ 41 #[.val (.int x0), .val (.int x1), .val (.int x2), .val (.int x3), .val (.int (2 : Int32)), .val (.int v2), .val (.ref b652), .unset, .unset, .unset, .unset, .unset, .unset, .unset, .unset, .unset, .unset, .unset] [])
        refine g_iload X673 hx rfl (hb hby at_41) 43 rfl ?_
        refine g_iconst X673 hx (2 : Int32) rfl (hb hby at_43) 44 rfl ?_
        refine g_icmp_le X673 hx (hb hby at_44) 53 47 (by decide) rfl rfl (fun q44 => ?_) (fun q44 => ?_)
        · refine g_new X673 hx hZ hown (wd hw 1 rfl) (wd hw 2 rfl) (wd hw 3 rfl) e674 (hb hby at_53) (by decide) (by decide) 56 rfl (fun T681 h682 b683 X684 e685 g686 E687 A688 D689 => ?_)
          have ne690 : b652 ≠ b683 := Nat.ne_of_lt (Nat.lt_of_lt_of_eq A677.lt g686.symm)
          have F691 := A677.ext E687
          have sz692 : h0.size ≤ b683 := Nat.le_trans szh680 (Nat.le_of_eq g686.symm)
          have szh693 : h0.size ≤ h682.size := Nat.le_trans szh680 E687.1
          have F694 : Fld Z h682 b683 "com/example/bindwick/bindwick/BERReader" "data" "[B" .null := D689 (Or.inr (wd hw 14 rfl)) (ty := (.array .byte)) (by decide)
          have F695 : Fld Z h682 b683 "com/example/bindwick/bindwick/BERReader" "limit" "I" (.int (0 : Int32)) := D689 (Or.inr (wd hw 16 rfl)) (ty := .int) (by decide)
          have F696 : Fld Z h682 b683 "com/example/bindwick/bindwick/BERReader" "position" "I" (.int (0 : Int32)) := D689 (Or.inl (wd hw 23 rfl)) (ty := .int) (by decide)
          show Go p_ e_ below _ T681 (mkF m_ 56 #[.val (.int x0), .val (.int x1), .val (.int x2), .val (.int x3), .val (.int (2 : Int32)), .val (.int v2), .val (.ref b652), .unset, .unset, .unset, .unset, .unset, .unset, .unset, .unset, .unset, .unset, .unset] [(.ref b683)])
          refine g_dup X684 hx rfl (hb hby at_56) 57 rfl ?_
          refine g_aload X684 hx rfl rfl (hb hby at_57) 59 rfl ?_
          refine g_init X684 hx hZ hown (wd hw 4 rfl) rfl (wd hw 5 rfl) (wd hw 3 rfl) (wd hw 6 rfl) (by decide) e685 [(.ref b652)] [(.ref b683)] rfl (co1 l Z a0 hw b683 b652 [(.int x1.toInt8.toInt32.toInt8.toInt32), (.int x2.toInt8.toInt32.toInt8.toInt32)] h682 h0.size szh693 sz692 A688 F694 F695 F696 F691 ne690) (lenOf pd_3 rfl) 1 (Nat.le_of_eq rfl) (by decide) (by decide) (by decide) (by decide) (by rw [hml]; rfl) (hb hby at_59) 62 rfl (fun r697 T698 L699 X700 Q701 => ?_)
          obtain ⟨h702, e703⟩ : ∃ h, T698.heap = h := ⟨_, rfl⟩
          rw [e703] at Q701
          obtain ⟨rfl, n704, K705, E706, F707, F708, F709⟩ := Q701
          have N710 := Fr.app N679 n704
          have F711 := F691.keep K705 (ninS ne690 nin0)
          have F712 := A688.keep K705
          have szh713 : h0.size ≤ h702.size := Nat.le_trans szh693 K705.1
          show Go p_ e_ below _ T698 (mkF m_ 62 #[.val (.int x0), .val (.int x1), .val (.int x2), .val (.int x3), .val (.int (2 : Int32)), .val (.int v2), .val (.ref b652), .unset, .unset, .unset, .unset, .unset, .unset, .unset, .unset, .unset, .unset, .unset] [(.ref b683)])
          refine g_astore X700 hx #[.val (.int x0), .val (.int x1), .val (.int x2), .val (.int x3), .val (.int (2 : Int32)), .val (.int v2), .val (.ref b652), .val (.ref b683), .unset, .unset, .unset, .unset, .unset, .unset, .unset, .unset, .unset, .unset] rfl rfl (hb hby at_62) 64 rfl ?_
          refine g_iload X700 hx rfl (hb hby at_64) 66 rfl ?_
          refine g_if_ne X700 hx (hb hby at_66) 73 69 (by decide) rfl rfl (fun q66 => ?_) (fun q66 => ?_)
          · refine g_iloadN X700 hx rfl (hb hby at_73) 74 rfl ?_
            refine g_sipush X700 hx (255 : Int32) rfl (hb hby at_74) 77 rfl ?_
            refine g_iand X700 hx (hb hby at_77) 78 rfl ?_
            refine g_istore X700 hx #[.val (.int x0), .val (.int x1), .val (.int x2), .val (.int x3), .val (.int (2 : Int32)), .val (.int v2), .val (.ref b652), .val (.ref b683), .val (.int (x1 &&& (255 : Int32))), .unset, .unset, .unset, .unset, .unset, .unset, .unset, .unset, .unset] rfl (hb hby at_78) 80 rfl ?_
            refine g_aload X700 hx rfl rfl (hb hby at_80) 82 rfl ?_
            refine g_callV X700 hx hZ hown (wd hw 17 rfl) (C := "com/example/bindwick/bindwick/BERReader") (wd hw 18 rfl) (wd hw 20 rfl) (wd hw 19 rfl) (wd hw 3 rfl) (wd hw 21 rfl) (by decide) e703 [] [] E706 rfl (co4 l Z a0 hw b683 b652 (2 : Int32) (0 : Int32) [(.int x1.toInt8.toInt32.toInt8.toInt32), (.int x2.toInt8.toInt32.toInt8.toInt32)] x1.toInt8.toInt32.toInt8.toInt32 h702 F707 F708 F709 F711 (by decide) (fun q => rfl)) (lenOf pd_1 rfl) 0 (Nat.le_of_eq rfl) (by decide) (by decide) (by decide) (by decide) (by rw [hml]; rfl) (hb hby at_82) 85 rfl (pu_cont fun T715 X714 e716 => ?_)
            show Go p_ e_ below _ T715 (mkF m_ 85 #[.val (.int x0), .val (.int x1), .val (.int x2), .val (.int x3), .val (.int (2 : Int32)), .val (.int v2), .val (.ref b652), .val (.ref b683), .val (.int (x1 &&& (255 : Int32))), .unset, .unset, .unset, .unset, .unset, .unset, .unset, .unset, .unset] [(.int (f4 (2 : Int32) (0 : Int32) x1.toInt8.toInt32.toInt8.toInt32))])
            refine g_istore X714 hx #[.val (.int x0), .val (.int x1), .val (.int x2), .val (.int x3), .val (.int (2 : Int32)), .val (.int v2), .val (.ref b652), .val (.ref b683), .val (.int (x1 &&& (255 : Int32))), .val (.int (f4 (2 : Int32) (0 : Int32) x1.toInt8.toInt32.toInt8.toInt32)), .unset, .unset, .unset, .unset, .unset, .unset, .unset, .unset] rfl (hb hby at_85) 87 rfl ?_
            refine g_aload X714 hx rfl rfl (hb hby at_87) 89 rfl ?_
            refine g_callV X714 hx hZ hown (wd hw 17 rfl) (C := "com/example/bindwick/bindwick/BERReader") (wd hw 18 rfl) (wd hw 20 rfl) (wd hw 19 rfl) (wd hw 3 rfl) (wd hw 21 rfl) (by decide) e716 [] [] E706 rfl (co4 l Z a0 hw b683 b652 (2 : Int32) (0 : Int32) [(.int x1.toInt8.toInt32.toInt8.toInt32), (.int x2.toInt8.toInt32.toInt8.toInt32)] x1.toInt8.toInt32.toInt8.toInt32 h702 F707 F708 F709 F711 (by decide) (fun q => rfl)) (lenOf pd_1 rfl) 0 (Nat.le_of_eq rfl) (by decide) (by decide) (by decide) (by decide) (by rw [hml]; rfl) (hb hby at_89) 92 rfl (pu_cont fun T718 X717 e719 => ?_)
            show Go p_ e_ below _ T718 (mkF m_ 92 #[.val (.int x0), .val (.int x1), .val (.int x2), .val (.int x3), .val (.int (2 : Int32)), .val (.int v2), .val (.ref b652), .val (.ref b683), .val (.int (x1 &&& (255 : Int32))), .val (.int (f4 (2 : Int32) (0 : Int32) x1.toInt8.toInt32.toInt8.toInt32)), .unset, .unset, .unset, .unset, .unset, .unset, .unset, .unset] [(.int (f4 (2 : Int32) (0 : Int32) x1.toInt8.toInt32.toInt8.toInt32))])
            refine g_istore X717 hx #[.val (.int x0), .val (.int x1), .val (.int x2), .val (.int x3), .val (.int (2 : Int32)), .val (.int v2), .val (.ref b652), .val (.ref b683), .val (.int (x1 &&& (255 : Int32))), .val (.int (f4 (2 : Int32) (0 : Int32) x1.toInt8.toInt32.toInt8.toInt32)), .val (.int (f4 (2 : Int32) (0 : Int32) x1.toInt8.toInt32.toInt8.toInt32)), .unset, .unset, .unset, .unset, .unset, .unset, .unset] rfl (hb hby at_92) 94 rfl ?_
            refine g_iload X717 hx rfl (hb hby at_94) 96 rfl ?_
            refine g_iload X717 hx rfl (hb hby at_96) 98 rfl ?_
            refine g_icmp_ne X717 hx (hb hby at_98) 112 101 (by decide) rfl rfl (fun q98 => ?_) (fun q98 => ?_)
            · exact absurd ((own_pk _ _ _ (by decide)).trans (by rw [own_byte, own_byte])) q98
            · refine g_iload X717 hx rfl (hb hby at_101) 103 rfl ?_
              refine g_iload X717 hx rfl (hb hby at_103) 105 rfl ?_
              refine g_icmp_ne X717 hx (hb hby at_105) 112 108 (by decide) rfl rfl (fun q105 => ?_) (fun q105 => ?_)
              · exact absurd ((own_pk _ _ _ (by decide)).trans (by rw [own_byte, own_byte])) q105
              · refine g_iconst X717 hx (1 : Int32) rfl (hb hby at_108) 109 rfl ?_
                refine g_goto X717 hx (hb hby at_109) 113 (by decide) rfl ?_
                refine g_istore X717 hx #[.val (.int x0), .val (.int x1), .val (.int x2), .val (.int x3), .val (.int (2 : Int32)), .val (.int v2), .val (.ref b652), .val (.ref b683), .val (.int (x1 &&& (255 : Int32))), .val (.int (f4 (2 : Int32) (0 : Int32) x1.toInt8.toInt32.toInt8.toInt32)), .val (.int (f4 (2 : Int32) (0 : Int32) x1.toInt8.toInt32.toInt8.toInt32)), .val (.int (1 : Int32)), .unset, .unset, .unset, .unset, .unset, .unset] rfl (hb hby at_113) 115 rfl ?_
                refine g_iloadN X717 hx rfl (hb hby at_115) 116 rfl ?_
                refine g_sipush X717 hx (255 : Int32) rfl (hb hby at_116) 119 rfl ?_
                refine g_iand X717 hx (hb hby at_119) 120 rfl ?_
                generalize hv720 : (x2 &&& (255 : Int32)) = v720
                refine g_istore X717 hx #[.val (.int x0), .val (.int x1), .val (.int x2), .val (.int x3), .val (.int (2 : Int32)), .val (.int v2), .val (.ref b652), .val (.ref b683), .val (.int (x1 &&& (255 : Int32))), .val (.int (f4 (2 : Int32) (0 : Int32) x1.toInt8.toInt32.toInt8.toInt32)), .val (.int (f4 (2 : Int32) (0 : Int32) x1.toInt8.toInt32.toInt8.toInt32)), .val (.int (1 : Int32)), .val (.int v720), .unset, .unset, .unset, .unset, .unset] rfl (hb hby at_120) 122 rfl ?_
                refine g_iload X717 hx rfl (hb hby at_122) 124 rfl ?_
                refine g_bipush X717 hx (31 : Int32) rfl (hb hby at_124) 126 rfl ?_
                refine g_iand X717 hx (hb hby at_126) 127 rfl ?_
                refine g_bipush X717 hx (31 : Int32) rfl (hb hby at_127) 129 rfl ?_
                refine Go.joinT (α := Int32) X717 e719 (fun z => mkF m_ 138 #[.val (.int x0), .val (.int x1), .val (.int x2), .val (.int x3), .val (.int (2 : Int32)), .val (.int v2), .val (.ref b652), .val (.ref b683), .val (.int (x1 &&& (255 : Int32))), .val (.int (f4 (2 : Int32) (0 : Int32) x1.toInt8.toInt32.toInt8.toInt32)), .val (.int (f4 (2 : Int32) (0 : Int32) x1.toInt8.toInt32.toInt8.toInt32)), .val (.int (1 : Int32)), .val (.int z), .unset, .unset, .unset, .unset, .unset] []) (fun z => z = (if (v720 &&& (31 : Int32)) = (31 : Int32) then (v720 ^^^ (1 : Int32)) else v720)) ?_ (fun J722 => ?_)
                · rintro T723 X724 e725 z721 hz721
                  show Go p_ e_ below _ T723 (mkF m_ 138 #[.val (.int x0), .val (.int x1), .val (.int x2), .val (.int x3), .val (.int (2 : Int32)), .val (.int v2), .val (.ref b652), .val (.ref b683), .val (.int (x1 &&& (255 : Int32))), .val (.int (f4 (2 : Int32) (0 : Int32) x1.toInt8.toInt32.toInt8.toInt32)), .val (.int (f4 (2 : Int32) (0 : Int32) x1.toInt8.toInt32.toInt8.toInt32)), .val (.int (1 : Int32)), .val (.int z721), .unset, .unset, .unset, .unset, .unset] [])
                  have hT := own_t _ _ _ hv720 hz721
                  rcases own_b2 _ _ hv2 with rfl | rfl
                  · show Go p_ e_ below _ T723 (mkF m_ 138 #[.val (.int x0), .val (.int x1), .val (.int x2), .val (.int x3), .val (.int (2 : Int32)), .val (.int (0 : Int32)), .val (.ref b652), .val (.ref b683), .val (.int (x1 &&& (255 : Int32))), .val (.int (f4 (2 : Int32) (0 : Int32) x1.toInt8.toInt32.toInt8.toInt32)), .val (.int (f4 (2 : Int32) (0 : Int32) x1.toInt8.toInt32.toInt8.toInt32)), .val (.int (1 : Int32)), .val (.int z721), .unset, .unset, .unset, .unset, .unset] [])
                    refine g_iconst X724 hx (2 : Int32) rfl (hb hby at_138) 139 rfl ?_
                    refine g_iload X724 hx rfl (hb hby at_139) 141 rfl ?_
                    refine g_iadd X724 hx (hb hby at_141) 142 rfl ?_
                    show Go p_ e_ below _ T723 (mkF m_ 142 #[.val (.int x0), .val (.int x1), .val (.int x2), .val (.int x3), .val (.int (2 : Int32)), .val (.int (0 : Int32)), .val (.ref b652), .val (.ref b683), .val (.int (x1 &&& (255 : Int32))), .val (.int (f4 (2 : Int32) (0 : Int32) x1.toInt8.toInt32.toInt8.toInt32)), .val (.int (f4 (2 : Int32) (0 : Int32) x1.toInt8.toInt32.toInt8.toInt32)), .val (.int (1 : Int32)), .val (.int z721), .unset, .unset, .unset, .unset, .unset] [(.int (2 : Int32))])
                    refine g_newarray X724 hx hZ (aty := .byte) (wd hw 0 rfl) e725 (by decide) 2 (by decide) (by decide) (by decide) (by decide) [(.int (0 : Int32)), (.int (0 : Int32))] rfl (hb hby at_142) 144 rfl (fun T729 h730 b731 X732 e733 g734 E735 A736 => ?_)
                    have ne737 : b652 ≠ b731 := Nat.ne_of_lt (Nat.lt_of_lt_of_eq F711.lt g734.symm)
                    have ne738 : b683 ≠ b731 := Nat.ne_of_lt (Nat.lt_of_lt_of_eq E706.lt g734.symm)
                    have F739 := F711.ext E735
                    have F740 := E706.ext E735
                    have F741 := F707.ext E735
                    have F742 := F708.ext E735
                    have F743 := F709.ext E735
                    have sz744 : h0.size ≤ b731 := Nat.le_trans szh713 (Nat.le_of_eq g734.symm)
                    have szh745 : h0.size ≤ h730.size := Nat.le_trans szh713 E735.1
                    have A746 : AV Z h730 b731 .byte [(.int (0 : Int32)), (.int (0 : Int32))] := A736
                    show Go p_ e_ below _ T729 (mkF m_ 144 #[.val (.int x0), .val (.int x1), .val (.int x2), .val (.int x3), .val (.int (2 : Int32)), .val (.int (0 : Int32)), .val (.ref b652), .val (.ref b683), .val (.int (x1 &&& (255 : Int32))), .val (.int (f4 (2 : Int32) (0 : Int32) x1.toInt8.toInt32.toInt8.toInt32)), .val (.int (f4 (2 : Int32) (0 : Int32) x1.toInt8.toInt32.toInt8.toInt32)), .val (.int (1 : Int32)), .val (.int z721), .unset, .unset, .unset, .unset, .unset] [(.ref b731)])
                    refine g_astore X732 hx #[.val (.int x0), .val (.int x1), .val (.int x2), .val (.int x3), .val (.int (2 : Int32)), .val (.int (0 : Int32)), .val (.ref b652), .val (.ref b683), .val (.int (x1 &&& (255 : Int32))), .val (.int (f4 (2 : Int32) (0 : Int32) x1.toInt8.toInt32.toInt8.toInt32)), .val (.int (f4 (2 : Int32) (0 : Int32) x1.toInt8.toInt32.toInt8.toInt32)), .val (.int (1 : Int32)), .val (.int z721), .val (.ref b731), .unset, .unset, .unset, .unset] rfl rfl (hb hby at_144) 146 rfl ?_
                    refine g_aload X732 hx rfl rfl (hb hby at_146) 148 rfl ?_
                    refine g_iconst X732 hx (0 : Int32) rfl (hb hby at_148) 149 rfl ?_
                    refine g_iload X732 hx rfl (hb hby at_149) 151 rfl ?_
                    refine g_i2b X732 hx (hb hby at_151) 152 rfl ?_
                    refine g_bastore X732 hx hZ e733 A746 (by decide) (Nat.le_of_ble_eq_true rfl) (hb hby at_152) 153 rfl (fun T747 h748 X749 e750 W751 A752 => ?_)
                    have A753 : AV Z h748 b731 .byte [(.int z721.toInt8.toInt32.toInt8.toInt32), (.int (0 : Int32))] := A752
                    have F754 := F739.other W751 ne737
                    have F755 := F740.wr W751
                    have F756 := F741.other W751 (Or.inl ne738)
                    have F757 := F742.other W751 (Or.inl ne738)
                    have F758 := F743.other W751 (Or.inl ne738)
                    have F759 := A753
                    have N760 := Fr.snoc X749 N710 sz744
                    have szh761 : h0.size ≤ h748.size := Nat.le_trans szh745 (Nat.le_of_eq W751.size.symm)
                    show Go p_ e_ below _ T747 (mkF m_ 153 #[.val (.int x0), .val (.int x1), .val (.int x2), .val (.int x3), .val (.int (2 : Int32)), .val (.int (0 : Int32)), .val (.ref b652), .val (.ref b683), .val (.int (x1 &&& (255 : Int32))), .val (.int (f4 (2 : Int32) (0 : Int32) x1.toInt8.toInt32.toInt8.toInt32)), .val (.int (f4 (2 : Int32) (0 : Int32) x1.toInt8.toInt32.toInt8.toInt32)), .val (.int (1 : Int32)), .val (.int z721), .val (.ref b731), .unset, .unset, .unset, .unset] [])
                    refine g_aload X749 hx rfl rfl (hb hby at_153) 155 rfl ?_
                    refine g_iconst X749 hx (1 : Int32) rfl (hb hby at_155) 156 rfl ?_
                    refine g_iconst X749 hx (0 : Int32) rfl (hb hby at_156) 157 rfl ?_
                    refine g_bastore X749 hx hZ e750 A753 (by decide) (Nat.le_of_ble_eq_true rfl) (hb hby at_157) 158 rfl (fun T762 h763 X764 e765 W766 A767 => ?_)
                    have A768 : AV Z h763 b731 .byte [(.int z721.toInt8.toInt32.toInt8.toInt32), (.int (0 : Int32).toInt8.toInt32)] := A767
                    have F769 := F754.other W766 ne737
                    have F770 := F755.wr W766
                    have F771 := F756.other W766 (Or.inl ne738)
                    have F772 := F757.other W766 (Or.inl ne738)
                    have F773 := F758.other W766 (Or.inl ne738)
                    have F774 := A768
                    have N775 := Fr.snoc X764 N760 sz744
                    have szh776 : h0.size ≤ h763.size := Nat.le_trans szh761 (Nat.le_of_eq W766.size.symm)
                    show Go p_ e_ below _ T762 (mkF m_ 158 #[.val (.int x0), .val (.int x1), .val (.int x2), .val (.int x3), .val (.int (2 : Int32)), .val (.int (0 : Int32)), .val (.ref b652), .val (.ref b683), .val (.int (x1 &&& (255 : Int32))), .val (.int (f4 (2 : Int32) (0 : Int32) x1.toInt8.toInt32.toInt8.toInt32)), .val (.int (f4 (2 : Int32) (0 : Int32) x1.toInt8.toInt32.toInt8.toInt32)), .val (.int (1 : Int32)), .val (.int z721), .val (.ref b731), .unset, .unset, .unset, .unset] [])
                    refine g_iload X764 hx rfl (hb hby at_158) 160 rfl ?_
                    refine g_iconst X764 hx (1 : Int32) rfl (hb hby at_160) 161 rfl ?_
                    refine g_icmp_ne X764 hx (hb hby at_161) 170 164 (by decide) rfl rfl (fun q161 => ?_) (fun q161 => ?_)
                    · refine g_new X764 hx hZ hown (wd hw 1 rfl) (wd hw 2 rfl) (wd hw 3 rfl) e765 (hb hby at_170) (by decide) (by decide) 173 rfl (fun T777 h778 b779 X780 e781 g782 E783 A784 D785 => ?_)
                      have ne786 : b652 ≠ b779 := Nat.ne_of_lt (Nat.lt_of_lt_of_eq F769.lt g782.symm)
                      have ne787 : b683 ≠ b779 := Nat.ne_of_lt (Nat.lt_of_lt_of_eq F770.lt g782.symm)
                      have ne788 : b731 ≠ b779 := Nat.ne_of_lt (Nat.lt_of_lt_of_eq A768.lt g782.symm)
                      have F789 := F769.ext E783
                      have F790 := F770.ext E783
                      have F791 := F771.ext E783
                      have F792 := F772.ext E783
                      have F793 := F773.ext E783
                      have F794 := A768.ext E783
                      have sz795 : h0.size ≤ b779 := Nat.le_trans szh776 (Nat.le_of_eq g782.symm)
                      have szh796 : h0.size ≤ h778.size := Nat.le_trans szh776 E783.1
                      have F797 : Fld Z h778 b779 "com/example/bindwick/bindwick/BERReader" "data" "[B" .null := D785 (Or.inr (wd hw 14 rfl)) (ty := (.array .byte)) (by decide)
                      have F798 : Fld Z h778 b779 "com/example/bindwick/bindwick/BERReader" "limit" "I" (.int (0 : Int32)) := D785 (Or.inr (wd hw 16 rfl)) (ty := .int) (by decide)
                      have F799 : Fld Z h778 b779 "com/example/bindwick/bindwick/BERReader" "position" "I" (.int (0 : Int32)) := D785 (Or.inl (wd hw 23 rfl)) (ty := .int) (by decide)
                      show Go p_ e_ below _ T777 (mkF m_ 173 #[.val (.int x0), .val (.int x1), .val (.int x2), .val (.int x3), .val (.int (2 : Int32)), .val (.int (0 : Int32)), .val (.ref b652), .val (.ref b683), .val (.int (x1 &&& (255 : Int32))), .val (.int (f4 (2 : Int32) (0 : Int32) x1.toInt8.toInt32.toInt8.toInt32)), .val (.int (f4 (2 : Int32) (0 : Int32) x1.toInt8.toInt32.toInt8.toInt32)), .val (.int (1 : Int32)), .val (.int z721), .val (.ref b731), .unset, .unset, .unset, .unset] [(.ref b779)])
                      refine g_dup X780 hx rfl (hb hby at_173) 174 rfl ?_
                      refine g_aload X780 hx rfl rfl (hb hby at_174) 176 rfl ?_
                      refine g_init X780 hx hZ hown (wd hw 4 rfl) rfl (wd hw 5 rfl) (wd hw 3 rfl) (wd hw 6 rfl) (by decide) e781 [(.ref b731)] [(.ref b779)] rfl (co1 l Z a0 hw b779 b731 [(.int z721.toInt8.toInt32.toInt8.toInt32), (.int (0 : Int32).toInt8.toInt32)] h778 h0.size szh796 sz795 A784 F797 F798 F799 F794 ne788) (lenOf pd_3 rfl) 1 (Nat.le_of_eq rfl) (by decide) (by decide) (by decide) (by decide) (by rw [hml]; rfl) (hb hby at_176) 179 rfl (fun r800 T801 L802 X803 Q804 => ?_)
                      obtain ⟨h805, e806⟩ : ∃ h, T801.heap = h := ⟨_, rfl⟩
                      rw [e806] at Q804
                      obtain ⟨rfl, n807, K808, E809, F810, F811, F812⟩ := Q804
                      have N813 := Fr.app N775 n807
                      have F814 := F789.keep K808 (ninS ne786 nin0)
                      have F815 := F790.keep K808
                      have F816 := F791.keep K808 (ninS ne787 nin0)
                      have F817 := F792.keep K808 (ninS ne787 nin0)
                      have F818 := F793.keep K808 (ninS ne787 nin0)
                      have F819 := F794.keep K808 (ninS ne788 nin0)
                      have F820 := A784.keep K808
                      have szh821 : h0.size ≤ h805.size := Nat.le_trans szh796 K808.1
                      show Go p_ e_ below _ T801 (mkF m_ 179 #[.val (.int x0), .val (.int x1), .val (.int x2), .val (.int x3), .val (.int (2 : Int32)), .val (.int (0 : Int32)), .val (.ref b652), .val (.ref b683), .val (.int (x1 &&& (255 : Int32))), .val (.int (f4 (2 : Int32) (0 : Int32) x1.toInt8.toInt32.toInt8.toInt32)), .val (.int (f4 (2 : Int32) (0 : Int32) x1.toInt8.toInt32.toInt8.toInt32)), .val (.int (1 : Int32)), .val (.int z721), .val (.ref b731), .unset, .unset, .unset, .unset] [(.ref b779)])
                      refine g_astore X803 hx #[.val (.int x0), .val (.int x1), .val (.int x2), .val (.int x3), .val (.int (2 : Int32)), .val (.int (0 : Int32)), .val (.ref b652), .val (.ref b683), .val (.int (x1 &&& (255 : Int32))), .val (.int (f4 (2 : Int32) (0 : Int32) x1.toInt8.toInt32.toInt8.toInt32)), .val (.int (f4 (2 : Int32) (0 : Int32) x1.toInt8.toInt32.toInt8.toInt32)), .val (.int (1 : Int32)), .val (.int z721), .val (.ref b731), .val (.ref b779), .unset, .unset, .unset] rfl rfl (hb hby at_179) 181 rfl ?_
                      refine g_aload X803 hx rfl rfl (hb hby at_181) 183 rfl ?_
                      refine g_callV X803 hx hZ hown (wd hw 17 rfl) (C := "com/example/bindwick/bindwick/BERReader") (wd hw 18 rfl) (wd hw 20 rfl) (wd hw 19 rfl) (wd hw 3 rfl) (wd hw 21 rfl) (by decide) e806 [] [] E809 rfl (co4 l Z a0 hw b779 b731 (2 : Int32) (0 : Int32) [(.int z721.toInt8.toInt32.toInt8.toInt32), (.int (0 : Int32).toInt8.toInt32)] z721.toInt8.toInt32.toInt8.toInt32 h805 F810 F811 F812 F819 (by decide) (fun q => rfl)) (lenOf pd_1 rfl) 0 (Nat.le_of_eq rfl) (by decide) (by decide) (by decide) (by decide) (by rw [hml]; rfl) (hb hby at_183) 186 rfl (pu_cont fun T823 X822 e824 => ?_)
                      show Go p_ e_ below _ T823 (mkF m_ 186 #[.val (.int x0), .val (.int x1), .val (.int x2), .val (.int x3), .val (.int (2 : Int32)), .val (.int (0 : Int32)), .val (.ref b652), .val (.ref b683), .val (.int (x1 &&& (255 : Int32))), .val (.int (f4 (2 : Int32) (0 : Int32) x1.toInt8.toInt32.toInt8.toInt32)), .val (.int (f4 (2 : Int32) (0 : Int32) x1.toInt8.toInt32.toInt8.toInt32)), .val (.int (1 : Int32)), .val (.int z721), .val (.ref b731), .val (.ref b779), .unset, .unset, .unset] [(.int (f4 (2 : Int32) (0 : Int32) z721.toInt8.toInt32.toInt8.toInt32))])
                      refine g_iload X822 hx rfl (hb hby at_186) 188 rfl ?_
                      refine g_icmp_ne X822 hx (hb hby at_188) 195 191 (by decide) rfl rfl (fun q188 => ?_) (fun q188 => ?_)
                      · exact absurd ((own_pk _ _ _ (by decide)).trans (by rw [own_byte, own_byte]; exact hT.1)) q188
                      · refine g_iconst X822 hx (1 : Int32) rfl (hb hby at_191) 192 rfl ?_
                        refine g_goto X822 hx (hb hby at_192) 196 (by decide) rfl ?_
                        refine g_istore X822 hx #[.val (.int x0), .val (.int x1), .val (.int x2), .val (.int x3), .val (.int (2 : Int32)), .val (.int (0 : Int32)), .val (.ref b652), .val (.ref b683), .val (.int (x1 &&& (255 : Int32))), .val (.int (f4 (2 : Int32) (0 : Int32) x1.toInt8.toInt32.toInt8.toInt32)), .val (.int (f4 (2 : Int32) (0 : Int32) x1.toInt8.toInt32.toInt8.toInt32)), .val (.int (1 : Int32)), .val (.int z721), .val (.ref b731), .val (.ref b779), .val (.int (1 : Int32)), .unset, .unset] rfl (hb hby at_196) 198 rfl ?_
                        refine g_aload X822 hx rfl rfl (hb hby at_198) 200 rfl ?_
                        refine g_callV X822 hx hZ hown (wd hw 24 rfl) (C := "com/example/bindwick/bindwick/BERReader") (wd hw 25 rfl) (wd hw 27 rfl) (wd hw 26 rfl) (wd hw 3 rfl) (wd hw 28 rfl) (by decide) e824 [] [] E809 rfl (co5 l Z a0 hw b779 b731 (2 : Int32) z721.toInt8.toInt32.toInt8.toInt32 [] h805 h0.size szh821 sz795 E809 F810 F811 F812 F819 ne788 (by decide) (by rw [own_byte, own_byte, hT.1]; exact hT.2)) (lenOf pd_4 rfl) 0 (Nat.le_of_eq rfl) (by decide) (by decide) (by decide) (by decide) (by rw [hml]; rfl) (hb hby at_200) 203 rfl (fun r825 T826 L827 X828 Q829 => ?_)
                        obtain ⟨h830, e831⟩ : ∃ h, T826.heap = h := ⟨_, rfl⟩
                        rw [e831] at Q829
                        obtain ⟨rfl, n832, K833, E834, F835, F836, F837, A838⟩ := Q829
                        have N839 := Fr.app N813 n832
                        have F840 := F814.keep K833 (ninS ne786 nin0)
                        have F841 := F815.keep K833
                        have F842 := F816.keep K833 (ninS ne787 nin0)
                        have F843 := F817.keep K833 (ninS ne787 nin0)
                        have F844 := F818.keep K833 (ninS ne787 nin0)
                        have F845 := F819.keep K833 (ninS ne788 nin0)
                        have F846 := E809.keep K833
                        have szh847 : h0.size ≤ h830.size := Nat.le_trans szh821 K833.1
                        show Go p_ e_ below _ T826 (mkF m_ 203 #[.val (.int x0), .val (.int x1), .val (.int x2), .val (.int x3), .val (.int (2 : Int32)), .val (.int (0 : Int32)), .val (.ref b652), .val (.ref b683), .val (.int (x1 &&& (255 : Int32))), .val (.int (f4 (2 : Int32) (0 : Int32) x1.toInt8.toInt32.toInt8.toInt32)), .val (.int (f4 (2 : Int32) (0 : Int32) x1.toInt8.toInt32.toInt8.toInt32)), .val (.int (1 : Int32)), .val (.int z721), .val (.ref b731), .val (.ref b779), .val (.int (1 : Int32)), .unset, .unset] [])
                        refine g_iload X828 hx rfl (hb hby at_203) 205 rfl ?_
                        refine g_iconst X828 hx (1 : Int32) rfl (hb hby at_205) 206 rfl ?_
                        refine g_icmp_ne X828 hx (hb hby at_206) 217 209 (by decide) rfl rfl (fun q206 => ?_) (fun q206 => ?_)
                        · refine g_iconst X828 hx (-1 : Int32) rfl (hb hby at_217) 218 rfl ?_
                          refine g_istore X828 hx #[.val (.int x0), .val (.int x1), .val (.int x2), .val (.int x3), .val (.int (2 : Int32)), .val (.int (0 : Int32)), .val (.ref b652), .val (.ref b683), .val (.int (x1 &&& (255 : Int32))), .val (.int (f4 (2 : Int32) (0 : Int32) x1.toInt8.toInt32.toInt8.toInt32)), .val (.int (f4 (2 : Int32) (0 : Int32) x1.toInt8.toInt32.toInt8.toInt32)), .val (.int (1 : Int32)), .val (.int z721), .val (.ref b731), .val (.ref b779), .val (.int (1 : Int32)), .val (.int (-1 : Int32)), .unset] rfl (hb hby at_218) 220 rfl ?_
                          refine g_aload X828 hx rfl rfl (hb hby at_220) 222 rfl ?_
                          refine g_callV X828 hx hZ hown (wd hw 17 rfl) (C := "com/example/bindwick/bindwick/BERReader") (wd hw 18 rfl) (wd hw 20 rfl) (wd hw 19 rfl) (wd hw 3 rfl) (wd hw 21 rfl) (by decide) e831 [] [] E834 rfl (co4 l Z a0 hw b779 b731 (2 : Int32) (2 : Int32) [(.int z721.toInt8.toInt32.toInt8.toInt32), (.int (0 : Int32).toInt8.toInt32)] (0 : Int32) h830 F835 F836 F837 A838 (by decide) (fun q => absurd q (by decide))) (lenOf pd_1 rfl) 0 (Nat.le_of_eq rfl) (by decide) (by decide) (by decide) (by decide) (by rw [hml]; rfl) (hb hby at_222) 225 rfl (pu_cont fun T849 X848 e850 => ?_)
                          show Go p_ e_ below _ T849 (mkF m_ 225 #[.val (.int x0), .val (.int x1), .val (.int x2), .val (.int x3), .val (.int (2 : Int32)), .val (.int (0 : Int32)), .val (.ref b652), .val (.ref b683), .val (.int (x1 &&& (255 : Int32))), .val (.int (f4 (2 : Int32) (0 : Int32) x1.toInt8.toInt32.toInt8.toInt32)), .val (.int (f4 (2 : Int32) (0 : Int32) x1.toInt8.toInt32.toInt8.toInt32)), .val (.int (1 : Int32)), .val (.int z721), .val (.ref b731), .val (.ref b779), .val (.int (1 : Int32)), .val (.int (-1 : Int32)), .unset] [(.int (f4 (2 : Int32) (2 : Int32) (0 : Int32)))])
                          refine g_iload X848 hx rfl (hb hby at_225) 227 rfl ?_
                          refine g_icmp_ne X848 hx (hb hby at_227) 234 230 (by decide) rfl rfl (fun q227 => ?_) (fun q227 => ?_)
                          · exact absurd (own_pk1 _ _ _ (by decide)) q227
                          · refine g_iconst X848 hx (1 : Int32) rfl (hb hby at_230) 231 rfl ?_
                            refine g_goto X848 hx (hb hby at_231) 235 (by decide) rfl ?_
                            refine g_istore X848 hx #[.val (.int x0), .val (.int x1), .val (.int x2), .val (.int x3), .val (.int (2 : Int32)), .val (.int (0 : Int32)), .val (.ref b652), .val (.ref b683), .val (.int (x1 &&& (255 : Int32))), .val (.int (f4 (2 : Int32) (0 : Int32) x1.toInt8.toInt32.toInt8.toInt32)), .val (.int (f4 (2 : Int32) (0 : Int32) x1.toInt8.toInt32.toInt8.toInt32)), .val (.int (1 : Int32)), .val (.int z721), .val (.ref b731), .val (.ref b779), .val (.int (1 : Int32)), .val (.int (-1 : Int32)), .val (.int (1 : Int32))] rfl (hb hby at_235) 237 rfl ?_
                            refine g_iload X848 hx rfl (hb hby at_237) 239 rfl ?_
                            refine g_if_eq X848 hx (hb hby at_239) 256 242 (by decide) rfl rfl (fun q239 => ?_) (fun q239 => ?_)
                            · exact absurd q239 (by decide)
                            · refine g_iload X848 hx rfl (hb hby at_242) 244 rfl ?_
                              refine g_if_eq X848 hx (hb hby at_244) 256 247 (by decide) rfl rfl (fun q244 => ?_) (fun q244 => ?_)
                              · exact absurd q244 (by decide)
                              · refine g_iload X848 hx rfl (hb hby at_247) 249 rfl ?_
                                refine g_if_eq X848 hx (hb hby at_249) 256 252 (by decide) rfl rfl (fun q249 => ?_) (fun q249 => ?_)
                                · exact absurd q249 (by decide)
                                · refine g_iconst X848 hx (1 : Int32) rfl (hb hby at_252) 253 rfl ?_
                                  refine g_goto X848 hx (hb hby at_253) 257 (by decide) rfl ?_
                                  exact g_retz X848 hx hret hlk (by decide) (by decide) (hb hby at_257) ⟨rfl, N839⟩
                        · exact absurd q206 (by decide)
                    · exact absurd q161 (by decide)
                  · show Go p_ e_ below _ T723 (mkF m_ 138 #[.val (.int x0), .val (.int x1), .val (.int x2), .val (.int x3), .val (.int (2 : Int32)), .val (.int (1 : Int32)), .val (.ref b652), .val (.ref b683), .val (.int (x1 &&& (255 : Int32))), .val (.int (f4 (2 : Int32) (0 : Int32) x1.toInt8.toInt32.toInt8.toInt32)), .val (.int (f4 (2 : Int32) (0 : Int32) x1.toInt8.toInt32.toInt8.toInt32)), .val (.int (1 : Int32)), .val (.int z721), .unset, .unset, .unset, .unset, .unset] [])
                    refine g_iconst X724 hx (2 : Int32) rfl (hb hby at_138) 139 rfl ?_
                    refine g_iload X724 hx rfl (hb hby at_139) 141 rfl ?_
                    refine g_iadd X724 hx (hb hby at_141) 142 rfl ?_
                    show Go p_ e_ below _ T723 (mkF m_ 142 #[.val (.int x0), .val (.int x1), .val (.int x2), .val (.int x3), .val (.int (2 : Int32)), .val (.int (1 : Int32)), .val (.ref b652), .val (.ref b683), .val (.int (x1 &&& (255 : Int32))), .val (.int (f4 (2 : Int32) (0 : Int32) x1.toInt8.toInt32.toInt8.toInt32)), .val (.int (f4 (2 : Int32) (0 : Int32) x1.toInt8.toInt32.toInt8.toInt32)), .val (.int (1 : Int32)), .val (.int z721), .unset, .unset, .unset, .unset, .unset] [(.int (3 : Int32))])
                    refine g_newarray X724 hx hZ (aty := .byte) (wd hw 0 rfl) e725 (by decide) 3 (by decide) (by decide) (by decide) (by decide) [(.int (0 : Int32)), (.int (0 : Int32)), (.int (0 : Int32))] rfl (hb hby at_142) 144 rfl (fun T851 h852 b853 X854 e855 g856 E857 A858 => ?_)
                    have ne859 : b652 ≠ b853 := Nat.ne_of_lt (Nat.lt_of_lt_of_eq F711.lt g856.symm)
                    have ne860 : b683 ≠ b853 := Nat.ne_of_lt (Nat.lt_of_lt_of_eq E706.lt g856.symm)
                    have F861 := F711.ext E857
                    have F862 := E706.ext E857
                    have F863 := F707.ext E857
                    have F864 := F708.ext E857
                    have F865 := F709.ext E857
                    have sz866 : h0.size ≤ b853 := Nat.le_trans szh713 (Nat.le_of_eq g856.symm)
                    have szh867 : h0.size ≤ h852.size := Nat.le_trans szh713 E857.1
                    have A868 : AV Z h852 b853 .byte [(.int (0 : Int32)), (.int (0 : Int32)), (.int (0 : Int32))] := A858
                    show Go p_ e_ below _ T851 (mkF m_ 144 #[.val (.int x0), .val (.int x1), .val (.int x2), .val (.int x3), .val (.int (2 : Int32)), .val (.int (1 : Int32)), .val (.ref b652), .val (.ref b683), .val (.int (x1 &&& (255 : Int32))), .val (.int (f4 (2 : Int32) (0 : Int32) x1.toInt8.toInt32.toInt8.toInt32)), .val (.int (f4 (2 : Int32) (0 : Int32) x1.toInt8.toInt32.toInt8.toInt32)), .val (.int (1 : Int32)), .val (.int z721), .unset, .unset, .unset, .unset, .unset] [(.ref b853)])
                    refine g_astore X854 hx #[.val (.int x0), .val (.int x1), .val (.int x2), .val (.int x3), .val (.int (2 : Int32)), .val (.int (1 : Int32)), .val (.ref b652), .val (.ref b683), .val (.int (x1 &&& (255 : Int32))), .val (.int (f4 (2 : Int32) (0 : Int32) x1.toInt8.toInt32.toInt8.toInt32)), .val (.int (f4 (2 : Int32) (0 : Int32) x1.toInt8.toInt32.toInt8.toInt32)), .val (.int (1 : Int32)), .val (.int z721), .val (.ref b853), .unset, .unset, .unset, .unset] rfl rfl (hb hby at_144) 146 rfl ?_
                    refine g_aload X854 hx rfl rfl (hb hby at_146) 148 rfl ?_
                    refine g_iconst X854 hx (0 : Int32) rfl (hb hby at_148) 149 rfl ?_
                    refine g_iload X854 hx rfl (hb hby at_149) 151 rfl ?_
                    refine g_i2b X854 hx (hb hby at_151) 152 rfl ?_
                    refine g_bastore X854 hx hZ e855 A868 (by decide) (Nat.le_of_ble_eq_true rfl) (hb hby at_152) 153 rfl (fun T869 h870 X871 e872 W873 A874 => ?_)
                    have A875 : AV Z h870 b853 .byte [(.int z721.toInt8.toInt32.toInt8.toInt32), (.int (0 : Int32)), (.int (0 : Int32))] := A874
                    have F876 := F861.other W873 ne859
                    have F877 := F862.wr W873
                    have F878 := F863.other W873 (Or.inl ne860)
                    have F879 := F864.other W873 (Or.inl ne860)
                    have F880 := F865.other W873 (Or.inl ne860)
                    have F881 := A875
                    have N882 := Fr.snoc X871 N710 sz866
                    have szh883 : h0.size ≤ h870.size := Nat.le_trans szh867 (Nat.le_of_eq W873.size.symm)
                    show Go p_ e_ below _ T869 (mkF m_ 153 #[.val (.int x0), .val (.int x1), .val (.int x2), .val (.int x3), .val (.int (2 : Int32)), .val (.int (1 : Int32)), .val (.ref b652), .val (.ref b683), .val (.int (x1 &&& (255 : Int32))), .val (.int (f4 (2 : Int32) (0 : Int32) x1.toInt8.toInt32.toInt8.toInt32)), .val (.int (f4 (2 : Int32) (0 : Int32) x1.toInt8.toInt32.toInt8.toInt32)), .val (.int (1 : Int32)), .val (.int z721), .val (.ref b853), .unset, .unset, .unset, .unset] [])
                    refine g_aload X871 hx rfl rfl (hb hby at_153) 155 rfl ?_
                    refine g_iconst X871 hx (1 : Int32) rfl (hb hby at_155) 156 rfl ?_
                    refine g_iconst X871 hx (0 : Int32) rfl (hb hby at_156) 157 rfl ?_
                    refine g_bastore X871 hx hZ e872 A875 (by decide) (Nat.le_of_ble_eq_true rfl) (hb hby at_157) 158 rfl (fun T884 h885 X886 e887 W888 A889 => ?_)
                    have A890 : AV Z h885 b853 .byte [(.int z721.toInt8.toInt32.toInt8.toInt32), (.int (0 : Int32).toInt8.toInt32), (.int (0 : Int32))] := A889
                    have F891 := F876.other W888 ne859
                    have F892 := F877.wr W888
                    have F893 := F878.other W888 (Or.inl ne860)
                    have F894 := F879.other W888 (Or.inl ne860)
                    have F895 := F880.other W888 (Or.inl ne860)
                    have F896 := A890
                    have N897 := Fr.snoc X886 N882 sz866
                    have szh898 : h0.size ≤ h885.size := Nat.le_trans szh883 (Nat.le_of_eq W888.size.symm)
                    show Go p_ e_ below _ T884 (mkF m_ 158 #[.val (.int x0), .val (.int x1), .val (.int x2), .val (.int x3), .val (.int (2 : Int32)), .val (.int (1 : Int32)), .val (.ref b652), .val (.ref b683), .val (.int (x1 &&& (255 : Int32))), .val (.int (f4 (2 : Int32) (0 : Int32) x1.toInt8.toInt32.toInt8.toInt32)), .val (.int (f4 (2 : Int32) (0 : Int32) x1.toInt8.toInt32.toInt8.toInt32)), .val (.int (1 : Int32)), .val (.int z721), .val (.ref b853), .unset, .unset, .unset, .unset] [])
                    refine g_iload X886 hx rfl (hb hby at_158) 160 rfl ?_
                    refine g_iconst X886 hx (1 : Int32) rfl (hb hby at_160) 161 rfl ?_
                    refine g_icmp_ne X886 hx (hb hby at_161) 170 164 (by decide) rfl rfl (fun q161 => ?_) (fun q161 => ?_)
                    · exact absurd rfl q161
                    · refine g_aload X886 hx rfl rfl (hb hby at_164) 166 rfl ?_
                      refine g_iconst X886 hx (2 : Int32) rfl (hb hby at_166) 167 rfl ?_
                      refine g_iloadN X886 hx rfl (hb hby at_167) 168 rfl ?_
                      refine g_i2b X886 hx (hb hby at_168) 169 rfl ?_
                      refine g_bastore X886 hx hZ e887 A890 (by decide) (Nat.le_of_ble_eq_true rfl) (hb hby at_169) 170 rfl (fun T899 h900 X901 e902 W903 A904 => ?_)
                      have A905 : AV Z h900 b853 .byte [(.int z721.toInt8.toInt32.toInt8.toInt32), (.int (0 : Int32).toInt8.toInt32), (.int x3.toInt8.toInt32.toInt8.toInt32)] := A904
                      have F906 := F891.other W903 ne859
                      have F907 := F892.wr W903
                      have F908 := F893.other W903 (Or.inl ne860)
                      have F909 := F894.other W903 (Or.inl ne860)
                      have F910 := F895.other W903 (Or.inl ne860)
                      have F911 := A905
                      have N912 := Fr.snoc X901 N897 sz866
                      have szh913 : h0.size ≤ h900.size := Nat.le_trans szh898 (Nat.le_of_eq W903.size.symm)
                      show Go p_ e_ below _ T899 (mkF m_ 170 #[.val (.int x0), .val (.int x1), .val (.int x2), .val (.int x3), .val (.int (2 : Int32)), .val (.int (1 : Int32)), .val (.ref b652), .val (.ref b683), .val (.int (x1 &&& (255 : Int32))), .val (.int (f4 (2 : Int32) (0 : Int32) x1.toInt8.toInt32.toInt8.toInt32)), .val (.int (f4 (2 : Int32) (0 : Int32) x1.toInt8.toInt32.toInt8.toInt32)), .val (.int (1 : Int32)), .val (.int z721), .val (.ref b853), .unset, .unset, .unset, .unset] [])
                      refine g_new X901 hx hZ hown (wd hw 1 rfl) (wd hw 2 rfl) (wd hw 3 rfl) e902 (hb hby at_170) (by decide) (by decide) 173 rfl (fun T914 h915 b916 X917 e918 g919 E920 A921 D922 => ?_)
                      have ne923 : b652 ≠ b916 := Nat.ne_of_lt (Nat.lt_of_lt_of_eq F906.lt g919.symm)
                      have ne924 : b683 ≠ b916 := Nat.ne_of_lt (Nat.lt_of_lt_of_eq F907.lt g919.symm)
                      have ne925 : b853 ≠ b916 := Nat.ne_of_lt (Nat.lt_of_lt_of_eq A905.lt g919.symm)
                      have F926 := F906.ext E920
                      have F927 := F907.ext E920
                      have F928 := F908.ext E920
                      have F929 := F909.ext E920
                      have F930 := F910.ext E920
                      have F931 := A905.ext E920
                      have sz932 : h0.size ≤ b916 := Nat.le_trans szh913 (Nat.le_of_eq g919.symm)
                      have szh933 : h0.size ≤ h915.size := Nat.le_trans szh913 E920.1
                      have F934 : Fld Z h915 b916 "com/example/bindwick/bindwick/BERReader" "data" "[B" .null := D922 (Or.inr (wd hw 14 rfl)) (ty := (.array .byte)) (by decide)
                      have F935 : Fld Z h915 b916 "com/example/bindwick/bindwick/BERReader" "limit" "I" (.int (0 : Int32)) := D922 (Or.inr (wd hw 16 rfl)) (ty := .int) (by decide)
                      have F936 : Fld Z h915 b916 "com/example/bindwick/bindwick/BERReader" "position" "I" (.int (0 : Int32)) := D922 (Or.inl (wd hw 23 rfl)) (ty := .int) (by decide)
                      show Go p_ e_ below _ T914 (mkF m_ 173 #[.val (.int x0), .val (.int x1), .val (.int x2), .val (.int x3), .val (.int (2 : Int32)), .val (.int (1 : Int32)), .val (.ref b652), .val (.ref b683), .val (.int (x1 &&& (255 : Int32))), .val (.int (f4 (2 : Int32) (0 : Int32) x1.toInt8.toInt32.toInt8.toInt32)), .val (.int (f4 (2 : Int32) (0 : Int32) x1.toInt8.toInt32.toInt8.toInt32)), .val (.int (1 : Int32)), .val (.int z721), .val (.ref b853), .unset, .unset, .unset, .unset] [(.ref b916)])
                      refine g_dup X917 hx rfl (hb hby at_173) 174 rfl ?_
                      refine g_aload X917 hx rfl rfl (hb hby at_174) 176 rfl ?_
                      refine g_init X917 hx hZ hown (wd hw 4 rfl) rfl (wd hw 5 rfl) (wd hw 3 rfl) (wd hw 6 rfl) (by decide) e918 [(.ref b853)] [(.ref b916)] rfl (co1 l Z a0 hw b916 b853 [(.int z721.toInt8.toInt32.toInt8.toInt32), (.int (0 : Int32).toInt8.toInt32), (.int x3.toInt8.toInt32.toInt8.toInt32)] h915 h0.size szh933 sz932 A921 F934 F935 F936 F931 ne925) (lenOf pd_3 rfl) 1 (Nat.le_of_eq rfl) (by decide) (by decide) (by decide) (by decide) (by rw [hml]; rfl) (hb hby at_176) 179 rfl (fun r937 T938 L939 X940 Q941 => ?_)
                      obtain ⟨h942, e943⟩ : ∃ h, T938.heap = h := ⟨_, rfl⟩
                      rw [e943] at Q941
                      obtain ⟨rfl, n944, K945, E946, F947, F948, F949⟩ := Q941
                      have N950 := Fr.app N912 n944
                      have F951 := F926.keep K945 (ninS ne923 nin0)
                      have F952 := F927.keep K945
                      have F953 := F928.keep K945 (ninS ne924 nin0)
                      have F954 := F929.keep K945 (ninS ne924 nin0)
                      have F955 := F930.keep K945 (ninS ne924 nin0)
                      have F956 := F931.keep K945 (ninS ne925 nin0)
                      have F957 := A921.keep K945
                      have szh958 : h0.size ≤ h942.size := Nat.le_trans szh933 K945.1
                      show Go p_ e_ below _ T938 (mkF m_ 179 #[.val (.int x0), .val (.int x1), .val (.int x2), .val (.int x3), .val (.int (2 : Int32)), .val (.int (1 : Int32)), .val (.ref b652), .val (.ref b683), .val (.int (x1 &&& (255 : Int32))), .val (.int (f4 (2 : Int32) (0 : Int32) x1.toInt8.toInt32.toInt8.toInt32)), .val (.int (f4 (2 : Int32) (0 : Int32) x1.toInt8.toInt32.toInt8.toInt32)), .val (.int (1 : Int32)), .val (.int z721), .val (.ref b853), .unset, .unset, .unset, .unset] [(.ref b916)])
                      refine g_astore X940 hx #[.val (.int x0), .val (.int x1), .val (.int x2), .val (.int x3), .val (.int (2 : Int32)), .val (.int (1 : Int32)), .val (.ref b652), .val (.ref b683), .val (.int (x1 &&& (255 : Int32))), .val (.int (f4 (2 : Int32) (0 : Int32) x1.toInt8.toInt32.toInt8.toInt32)), .val (.int (f4 (2 : Int32) (0 : Int32) x1.toInt8.toInt32.toInt8.toInt32)), .val (.int (1 : Int32)), .val (.int z721), .val (.ref b853), .val (.ref b916), .unset, .unset, .unset] rfl rfl (hb hby at_179) 181 rfl ?_
                      refine g_aload X940 hx rfl rfl (hb hby at_181) 183 rfl ?_
                      refine g_callV X940 hx hZ hown (wd hw 17 rfl) (C := "com/example/bindwick/bindwick/BERReader") (wd hw 18 rfl) (wd hw 20 rfl) (wd hw 19 rfl) (wd hw 3 rfl) (wd hw 21 rfl) (by decide) e943 [] [] E946 rfl (co4 l Z a0 hw b916 b853 (3 : Int32) (0 : Int32) [(.int z721.toInt8.toInt32.toInt8.toInt32), (.int (0 : Int32).toInt8.toInt32), (.int x3.toInt8.toInt32.toInt8.toInt32)] z721.toInt8.toInt32.toInt8.toInt32 h942 F947 F948 F949 F956 (by decide) (fun q => rfl)) (lenOf pd_1 rfl) 0 (Nat.le_of_eq rfl) (by decide) (by decide) (by decide) (by decide) (by rw [hml]; rfl) (hb hby at_183) 186 rfl (pu_cont fun T960 X959 e961 => ?_)
                      show Go p_ e_ below _ T960 (mkF m_ 186 #[.val (.int x0), .val (.int x1), .val (.int x2), .val (.int x3), .val (.int (2 : Int32)), .val (.int (1 : Int32)), .val (.ref b652), .val (.ref b683), .val (.int (x1 &&& (255 : Int32))), .val (.int (f4 (2 : Int32) (0 : Int32) x1.toInt8.toInt32.toInt8.toInt32)), .val (.int (f4 (2 : Int32) (0 : Int32) x1.toInt8.toInt32.toInt8.toInt32)), .val (.int (1 : Int32)), .val (.int z721), .val (.ref b853), .val (.ref b916), .unset, .unset, .unset] [(.int (f4 (3 : Int32) (0 : Int32) z721.toInt8.toInt32.toInt8.toInt32))])
                      refine g_iload X959 hx rfl (hb hby at_186) 188 rfl ?_
                      refine g_icmp_ne X959 hx (hb hby at_188) 195 191 (by decide) rfl rfl (fun q188 => ?_) (fun q188 => ?_)
                      · exact absurd ((own_pk _ _ _ (by decide)).trans (by rw [own_byte, own_byte]; exact hT.1)) q188
                      · refine g_iconst X959 hx (1 : Int32) rfl (hb hby at_191) 192 rfl ?_
                        refine g_goto X959 hx (hb hby at_192) 196 (by decide) rfl ?_
                        refine g_istore X959 hx #[.val (.int x0), .val (.int x1), .val (.int x2), .val (.int x3), .val (.int (2 : Int32)), .val (.int (1 : Int32)), .val (.ref b652), .val (.ref b683), .val (.int (x1 &&& (255 : Int32))), .val (.int (f4 (2 : Int32) (0 : Int32) x1.toInt8.toInt32.toInt8.toInt32)), .val (.int (f4 (2 : Int32) (0 : Int32) x1.toInt8.toInt32.toInt8.toInt32)), .val (.int (1 : Int32)), .val (.int z721), .val (.ref b853), .val (.ref b916), .val (.int (1 : Int32)), .unset, .unset] rfl (hb hby at_196) 198 rfl ?_
                        refine g_aload X959 hx rfl rfl (hb hby at_198) 200 rfl ?_
                        refine g_callV X959 hx hZ hown (wd hw 24 rfl) (C := "com/example/bindwick/bindwick/BERReader") (wd hw 25 rfl) (wd hw 27 rfl) (wd hw 26 rfl) (wd hw 3 rfl) (wd hw 28 rfl) (by decide) e961 [] [] E946 rfl (co5 l Z a0 hw b916 b853 (3 : Int32) z721.toInt8.toInt32.toInt8.toInt32 [(.int x3.toInt8.toInt32.toInt8.toInt32)] h942 h0.size szh958 sz932 E946 F947 F948 F949 F956 ne925 (by decide) (by rw [own_byte, own_byte, hT.1]; exact hT.2)) (lenOf pd_4 rfl) 0 (Nat.le_of_eq rfl) (by decide) (by decide) (by decide) (by decide) (by rw [hml]; rfl) (hb hby at_200) 203 rfl (fun r962 T963 L964 X965 Q966 => ?_)
                        obtain ⟨h967, e968⟩ : ∃ h, T963.heap = h := ⟨_, rfl⟩
                        rw [e968] at Q966
                        obtain ⟨rfl, n969, K970, E971, F972, F973, F974, A975⟩ := Q966
                        have N976 := Fr.app N950 n969
                        have F977 := F951.keep K970 (ninS ne923 nin0)
                        have F978 := F952.keep K970
                        have F979 := F953.keep K970 (ninS ne924 nin0)
                        have F980 := F954.keep K970 (ninS ne924 nin0)
                        have F981 := F955.keep K970 (ninS ne924 nin0)
                        have F982 := F956.keep K970 (ninS ne925 nin0)
                        have F983 := E946.keep K970
                        have szh984 : h0.size ≤ h967.size := Nat.le_trans szh958 K970.1
                        show Go p_ e_ below _ T963 (mkF m_ 203 #[.val (.int x0), .val (.int x1), .val (.int x2), .val (.int x3), .val (.int (2 : Int32)), .val (.int (1 : Int32)), .val (.ref b652), .val (.ref b683), .val (.int (x1 &&& (255 : Int32))), .val (.int (f4 (2 : Int32) (0 : Int32) x1.toInt8.toInt32.toInt8.toInt32)), .val (.int (f4 (2 : Int32) (0 : Int32) x1.toInt8.toInt32.toInt8.toInt32)), .val (.int (1 : Int32)), .val (.int z721), .val (.ref b853), .val (.ref b916), .val (.int (1 : Int32)), .unset, .unset] [])
                        refine g_iload X965 hx rfl (hb hby at_203) 205 rfl ?_
                        refine g_iconst X965 hx (1 : Int32) rfl (hb hby at_205) 206 rfl ?_
                        refine g_icmp_ne X965 hx (hb hby at_206) 217 209 (by decide) rfl rfl (fun q206 => ?_) (fun q206 => ?_)
                        · exact absurd rfl q206
                        · refine g_iloadN X965 hx rfl (hb hby at_209) 210 rfl ?_
                          refine g_sipush X965 hx (255 : Int32) rfl (hb hby at_210) 213 rfl ?_
                          refine g_iand X965 hx (hb hby at_213) 214 rfl ?_
                          refine g_goto X965 hx (hb hby at_214) 218 (by decide) rfl ?_
                          refine g_istore X965 hx #[.val (.int x0), .val (.int x1), .val (.int x2), .val (.int x3), .val (.int (2 : Int32)), .val (.int (1 : Int32)), .val (.ref b652), .val (.ref b683), .val (.int (x1 &&& (255 : Int32))), .val (.int (f4 (2 : Int32) (0 : Int32) x1.toInt8.toInt32.toInt8.toInt32)), .val (.int (f4 (2 : Int32) (0 : Int32) x1.toInt8.toInt32.toInt8.toInt32)), .val (.int (1 : Int32)), .val (.int z721), .val (.ref b853), .val (.ref b916), .val (.int (1 : Int32)), .val (.int (x3 &&& (255 : Int32))), .unset] rfl (hb hby at_218) 220 rfl ?_
                          refine g_aload X965 hx rfl rfl (hb hby at_220) 222 rfl ?_
                          refine g_callV X965 hx hZ hown (wd hw 17 rfl) (C := "com/example/bindwick/bindwick/BERReader") (wd hw 18 rfl) (wd hw 20 rfl) (wd hw 19 rfl) (wd hw 3 rfl) (wd hw 21 rfl) (by decide) e968 [] [] E971 rfl (co4 l Z a0 hw b916 b853 (3 : Int32) (2 : Int32) [(.int z721.toInt8.toInt32.toInt8.toInt32), (.int (0 : Int32).toInt8.toInt32), (.int x3.toInt8.toInt32.toInt8.toInt32)] x3.toInt8.toInt32.toInt8.toInt32 h967 F972 F973 F974 A975 (by decide) (fun q => rfl)) (lenOf pd_1 rfl) 0 (Nat.le_of_eq rfl) (by decide) (by decide) (by decide) (by decide) (by rw [hml]; rfl) (hb hby at_222) 225 rfl (pu_cont fun T986 X985 e987 => ?_)
                          show Go p_ e_ below _ T986 (mkF m_ 225 #[.val (.int x0), .val (.int x1), .val (.int x2), .val (.int x3), .val (.int (2 : Int32)), .val (.int (1 : Int32)), .val (.ref b652), .val (.ref b683), .val (.int (x1 &&& (255 : Int32))), .val (.int (f4 (2 : Int32) (0 : Int32) x1.toInt8.toInt32.toInt8.toInt32)), .val (.int (f4 (2 : Int32) (0 : Int32) x1.toInt8.toInt32.toInt8.toInt32)), .val (.int (1 : Int32)), .val (.int z721), .val (.ref b853), .val (.ref b916), .val (.int (1 : Int32)), .val (.int (x3 &&& (255 : Int32))), .unset] [(.int (f4 (3 : Int32) (2 : Int32) x3.toInt8.toInt32.toInt8.toInt32))])
                          refine g_iload X985 hx rfl (hb hby at_225) 227 rfl ?_
                          refine g_icmp_ne X985 hx (hb hby at_227) 234 230 (by decide) rfl rfl (fun q227 => ?_) (fun q227 => ?_)
                          · exact absurd ((own_pk _ _ _ (by decide)).trans (by rw [own_byte, own_byte])) q227
                          · refine g_iconst X985 hx (1 : Int32) rfl (hb hby at_230) 231 rfl ?_
                            refine g_goto X985 hx (hb hby at_231) 235 (by decide) rfl ?_
                            refine g_istore X985 hx #[.val (.int x0), .val (.int x1), .val (.int x2), .val (.int x3), .val (.int (2 : Int32)), .val (.int (1 : Int32)), .val (.ref b652), .val (.ref b683), .val (.int (x1 &&& (255 : Int32))), .val (.int (f4 (2 : Int32) (0 : Int32) x1.toInt8.toInt32.toInt8.toInt32)), .val (.int (f4 (2 : Int32) (0 : Int32) x1.toInt8.toInt32.toInt8.toInt32)), .val (.int (1 : Int32)), .val (.int z721), .val (.ref b853), .val (.ref b916), .val (.int (1 : Int32)), .val (.int (x3 &&& (255 : Int32))), .val (.int (1 : Int32))] rfl (hb hby at_235) 237 rfl ?_
                            refine g_iload X985 hx rfl (hb hby at_237) 239 rfl ?_
                            refine g_if_eq X985 hx (hb hby at_239) 256 242 (by decide) rfl rfl (fun q239 => ?_) (fun q239 => ?_)
                            · exact absurd q239 (by decide)
                            · refine g_iload X985 hx rfl (hb hby at_242) 244 rfl ?_
                              refine g_if_eq X985 hx (hb hby at_244) 256 247 (by decide) rfl rfl (fun q244 => ?_) (fun q244 => ?_)
                              · exact absurd q244 (by decide)
                              · refine g_iload X985 hx rfl (hb hby at_247) 249 rfl ?_
                                refine g_if_eq X985 hx (hb hby at_249) 256 252 (by decide) rfl rfl (fun q249 => ?_) (fun q249 => ?_)
                                · exact absurd q249 (by decide)
                                · refine g_iconst X985 hx (1 : Int32) rfl (hb hby at_252) 253 rfl ?_
                                  refine g_goto X985 hx (hb hby at_253) 257 (by decide) rfl ?_
                                  exact g_retz X985 hx hret hlk (by decide) (by decide) (hb hby at_257) ⟨rfl, N976⟩
                · refine g_icmp_ne X717 hx (hb hby at_129) 138 132 (by decide) rfl rfl (fun q129 => ?_) (fun q129 => ?_)
                  · exact J722 T718 X717 e719 (v720) ((if_neg q129).trans rfl).symm
                  · refine g_iload X717 hx rfl (hb hby at_132) 134 rfl ?_
                    refine g_iconst X717 hx (1 : Int32) rfl (hb hby at_134) 135 rfl ?_
                    refine g_ixor X717 hx (hb hby at_135) 136 rfl ?_
                    refine g_istore X717 hx #[.val (.int x0), .val (.int x1), .val (.int x2), .val (.int x3), .val (.int (2 : Int32)), .val (.int v2), .val (.ref b652), .val (.ref b683), .val (.int (x1 &&& (255 : Int32))), .val (.int (f4 (2 : Int32) (0 : Int32) x1.toInt8.toInt32.toInt8.toInt32)), .val (.int (f4 (2 : Int32) (0 : Int32) x1.toInt8.toInt32.toInt8.toInt32)), .val (.int (1 : Int32)), .val (.int (v720 ^^^ (1 : Int32))), .unset, .unset, .unset, .unset, .unset] rfl (hb hby at_136) 138 rfl ?_
                    exact J722 T718 X717 e719 ((v720 ^^^ (1 : Int32))) ((if_pos q129).trans rfl).symm
          · exact absurd q66 (by decide)
        · exact absurd q44 (by decide)
  · show Go p_ e_ below _ T0 (mkF m_ 12 #[.val (.int x0), .val (.int x1), .val (.int x2), .val (.int x3), .val (.int (3 : Int32)), .val (.int v2), .unset, .unset, .unset, .unset, .unset, .unset, .unset, .unset, .unset, .unset, .unset, .unset] [])
    refine g_iload X0 hx rfl (hb hby at_12) 14 rfl ?_
    refine g_newarray X0 hx hZ (aty := .byte) (wd hw 0 rfl) e0 (by decide) 3 (by decide) (by decide) (by decide) (by decide) [(.int (0 : Int32)), (.int (0 : Int32)), (.int (0 : Int32))] rfl (hb hby at_14) 16 rfl (fun T988 h989 b990 X991 e992 g993 E994 A995 => ?_)
    have sz996 : h0.size ≤ b990 := Nat.le_trans (Nat.le_refl h0.size) (Nat.le_of_eq g993.symm)
    have szh997 : h0.size ≤ h989.size := Nat.le_trans (Nat.le_refl h0.size) E994.1
    have A998 : AV Z h989 b990 .byte [(.int (0 : Int32)), (.int (0 : Int32)), (.int (0 : Int32))] := A995
    show Go p_ e_ below _ T988 (mkF m_ 16 #[.val (.int x0), .val (.int x1), .val (.int x2), .val (.int x3), .val (.int (3 : Int32)), .val (.int v2), .unset, .unset, .unset, .unset, .unset, .unset, .unset, .unset, .unset, .unset, .unset, .unset] [(.ref b990)])
    refine g_astore X991 hx #[.val (.int x0), .val (.int x1), .val (.int x2), .val (.int x3), .val (.int (3 : Int32)), .val (.int v2), .val (.ref b990), .unset, .unset, .unset, .unset, .unset, .unset, .unset, .unset, .unset, .unset, .unset] rfl rfl (hb hby at_16) 18 rfl ?_
    refine g_iload X991 hx rfl (hb hby at_18) 20 rfl ?_
    refine g_if_le X991 hx (hb hby at_20) 29 23 (by decide) rfl rfl (fun q20 => ?_) (fun q20 => ?_)
    · exact absurd q20 (by decide)
    · refine g_aload X991 hx rfl rfl (hb hby at_23) 25 rfl ?_
      refine g_iconst X991 hx (0 : Int32) rfl (hb hby at_25) 26 rfl ?_
      refine g_iloadN X991 hx rfl (hb hby at_26) 27 rfl ?_
      refine g_i2b X991 hx (hb hby at_27) 28 rfl ?_
      refine g_bastore X991 hx hZ e992 A998 (by decide) (Nat.le_of_ble_eq_true rfl) (hb hby at_28) 29 rfl (fun T999 h1000 X1001 e1002 W1003 A1004 => ?_)
      have A1005 : AV Z h1000 b990 .byte [(.int x1.toInt8.toInt32.toInt8.toInt32), (.int (0 : Int32)), (.int (0 : Int32))] := A1004
      have F1006 := A1005
      have N1007 := Fr.snoc X1001 N0 sz996
      have szh1008 : h0.size ≤ h1000.size := Nat.le_trans szh997 (Nat.le_of_eq W1003.size.symm)
      show Go p_ e_ below _ T999 (mkF m_ 29 #[.val (.int x0), .val (.int x1), .val (.int x2), .val (.int x3), .val (.int (3 : Int32)), .val (.int v2), .val (.ref b990), .unset, .unset, .unset, .unset, .unset, .unset, .unset, .unset, .unset, .unset, .unset] [])
      refine g_iload X1001 hx rfl (hb hby at_29) 31 rfl ?_
      refine g_iconst X1001 hx (1 : Int32) rfl (hb hby at_31) 32 rfl ?_
      refine g_icmp_le X1001 hx (hb hby at_32) 41 35 (by decide) rfl rfl (fun q32 => ?_) (fun q32 => ?_)
      · exact absurd q32 (by decide)
      · refine g_aload X1001 hx rfl rfl (hb hby at_35) 37 rfl ?_
        refine g_iconst X1001 hx (1 : Int32) rfl (hb hby at_37) 38 rfl ?_
        refine g_iloadN X1001 hx rfl (hb hby at_38) 39 rfl ?_
        refine g_i2b X1001 hx (hb hby at_39) 40 rfl ?_
        refine g_bastore X1001 hx hZ e1002 A1005 (by decide) (Nat.le_of_ble_eq_true rfl) (hb hby at_40) 41 rfl (fun T1009 h1010 X1011 e1012 W1013 A1014 => ?_)
        have A1015 : AV Z h1010 b990 .byte [(.int x1.toInt8.toInt32.toInt8.toInt32), (.int x2.toInt8.toInt32.toInt8.toInt32), (.int (0 : Int32))] := A1014
        have F1016 := A1015
        have N1017 := Fr.snoc X1011 N1007 sz996
        have szh1018 : h0.size ≤ h1010.size := Nat.le_trans szh1008 (Nat.le_of_eq W1013.size.symm)
        show Go p_ e_ below _ T1009 (mkF m_ 41 #[.val (.int x0), .val (.int x1), .val (.int x2), .val (.int x3), .val (.int (3 : Int32)), .val (.int v2), .val (.ref b990), .unset, .unset, .unset, .unset, .unset, .unset, .unset, .unset, .unset, .unset, .unset] [])
        refine g_iload X1011 hx rfl (hb hby at_41) 43 rfl ?_
        refine g_iconst X1011 hx (2 : Int32) rfl (hb hby at_43) 44 rfl ?_
        refine g_icmp_le X1011 hx (hb hby at_44) 53 47 (by decide) rfl rfl (fun q44 => ?_) (fun q44 => ?_)
        · exact absurd q44 (by decide)
        · refine g_aload X1011 hx rfl rfl (hb hby at_47) 49 rfl ?_
          refine g_iconst X1011 hx (2 : Int32) rfl (hb hby at_49) 50 rfl ?_
          refine g_iloadN X1011 hx rfl (hb hby at_50) 51 rfl ?_
          refine g_i2b X1011 hx (hb hby at_51) 52 rfl ?_
          refine g_bastore X1011 hx hZ e1012 A1015 (by decide) (Nat.le_of_ble_eq_true rfl) (hb hby at_52) 53 rfl (fun T1019 h1020 X1021 e1022 W1023 A1024 => ?_)
          have A1025 : AV Z h1020 b990 .byte [(.int x1.toInt8.toInt32.toInt8.toInt32), (.int x2.toInt8.toInt32.toInt8.toInt32), (.int x3.toInt8.toInt32.toInt8.toInt32)] := A1024
          have F1026 := A1025
          have N1027 := Fr.snoc X1021 N1017 sz996
          have szh1028 : h0.size ≤ h1020.size := Nat.le_trans szh1018 (Nat.le_of_eq W1023.size.symm)
          show Go p_ e_ below _ T1019 (mkF m_ 53 #[.val (.int x0), .val (.int x1), .val (.int x2), .val (.int x3), .val (.int (3 : Int32)), .val (.int v2), .val (.ref b990), .unset, .unset, .unset, .unset, .unset, .unset, .unset, .unset, .unset, .unset, .unset] [])
          refine g_new X1021 hx hZ hown (wd hw 1 rfl) (wd hw 2 rfl) (wd hw 3 rfl) e1022 (hb hby at_53) (by decide) (by decide) 56 rfl (fun T1029 h1030 b1031 X1032 e1033 g1034 E1035 A1036 D1037 => ?_)
          have ne1038 : b990 ≠ b1031 := Nat.ne_of_lt (Nat.lt_of_lt_of_eq A1025.lt g1034.symm)
          have F1039 := A1025.ext E1035
          have sz1040 : h0.size ≤ b1031 := Nat.le_trans szh1028 (Nat.le_of_eq g1034.symm)
          have szh1041 : h0.size ≤ h1030.size := Nat.le_trans szh1028 E1035.1
          have F1042 : Fld Z h1030 b1031 "com/example/bindwick/bindwick/BERReader" "data" "[B" .null := D1037 (Or.inr (wd hw 14 rfl)) (ty := (.array .byte)) (by decide)
          have F1043 : Fld Z h1030 b1031 "com/example/bindwick/bindwick/BERReader" "limit" "I" (.int (0 : Int32)) := D1037 (Or.inr (wd hw 16 rfl)) (ty := .int) (by decide)
          have F1044 : Fld Z h1030 b1031 "com/example/bindwick/bindwick/BERReader" "position" "I" (.int (0 : Int32)) := D1037 (Or.inl (wd hw 23 rfl)) (ty := .int) (by decide)
          show Go p_ e_ below _ T1029 (mkF m_ 56 #[.val (.int x0), .val (.int x1), .val (.int x2), .val (.int x3), .val (.int (3 : Int32)), .val (.int v2), .val (.ref b990), .unset, .unset, .unset, .unset, .unset, .unset, .unset, .unset, .unset, .unset, .unset] [(.ref b1031)])
          refine g_dup X1032 hx rfl (hb hby at_56) 57 rfl ?_
          refine g_aload X1032 hx rfl rfl (hb hby at_57) 59 rfl ?_
          refine g_init X1032 hx hZ hown (wd hw 4 rfl) rfl (wd hw 5 rfl) (wd hw 3 rfl) (wd hw 6 rfl) (by decide) e1033 [(.ref b990)] [(.ref b1031)] rfl (co1 l Z a0 hw b1031 b990 [(.int x1.toInt8.toInt32.toInt8.toInt32), (.int x2.toInt8.toInt32.toInt8.toInt32), (.int x3.toInt8.toInt32.toInt8.toInt32)] h1030 h0.size szh1041 sz1040 A1036 F1042 F1043 F1044 F1039 ne1038) (lenOf pd_3 rfl) 1 (Nat.le_of_eq rfl) (by decide) (by decide) (by decide) (by decide) (by rw [hml]; rfl) (hb hby at_59) 62 rfl (fun r1045 T1046 L1047 X1048 Q1049 => ?_)
          obtain ⟨h1050, e1051⟩ : ∃ h, T1046.heap = h := ⟨_, rfl⟩
          rw [e1051] at Q1049
          obtain ⟨rfl, n1052, K1053, E1054, F1055, F1056, F1057⟩ := Q1049
          have N1058 := Fr.app N1027 n1052
          have F1059 := F1039.keep K1053 (ninS ne1038 nin0)
          have F1060 := A1036.keep K1053
          have szh1061 : h0.size ≤ h1050.size := Nat.le_trans szh1041 K1053.1
          show Go p_ e_ below _ T1046 (mkF m_ 62 #[.val (.int x0), .val (.int x1), .val (.int x2), .val (.int x3), .val (.int (3 : Int32)), .val (.int v2), .val (.ref b990), .unset, .unset, .unset, .unset, .unset, .unset, .unset, .unset, .unset, .unset, .unset] [(.ref b1031)])
          refine g_astore X1048 hx #[.val (.int x0), .val (.int x1), .val (.int x2), .val (.int x3), .val (.int (3 : Int32)), .val (.int v2), .val (.ref b990), .val (.ref b1031), .unset, .unset, .unset, .unset, .unset, .unset, .unset, .unset, .unset, .unset] rfl rfl (hb hby at_62) 64 rfl ?_
          refine g_iload X1048 hx rfl (hb hby at_64) 66 rfl ?_
          refine g_if_ne X1048 hx (hb hby at_66) 73 69 (by decide) rfl rfl (fun q66 => ?_) (fun q66 => ?_)
          · refine g_iloadN X1048 hx rfl (hb hby at_73) 74 rfl ?_
            refine g_sipush X1048 hx (255 : Int32) rfl (hb hby at_74) 77 rfl ?_
            refine g_iand X1048 hx (hb hby at_77) 78 rfl ?_
            refine g_istore X1048 hx #[.val (.int x0), .val (.int x1), .val (.int x2), .val (.int x3), .val (.int (3 : Int32)), .val (.int v2), .val (.ref b990), .val (.ref b1031), .val (.int (x1 &&& (255 : Int32))), .unset, .unset, .unset, .unset, .unset, .unset, .unset, .unset, .unset] rfl (hb hby at_78) 80 rfl ?_
            refine g_aload X1048 hx rfl rfl (hb hby at_80) 82 rfl ?_
            refine g_callV X1048 hx hZ hown (wd hw 17 rfl) (C := "com/example/bindwick/bindwick/BERReader") (wd hw 18 rfl) (wd hw 20 rfl) (wd hw 19 rfl) (wd hw 3 rfl) (wd hw 21 rfl) (by decide) e1051 [] [] E1054 rfl (co4 l Z a0 hw b1031 b990 (3 : Int32) (0 : Int32) [(.int x1.toInt8.toInt32.toInt8.toInt32), (.int x2.toInt8.toInt32.toInt8.toInt32), (.int x3.toInt8.toInt32.toInt8.toInt32)] x1.toInt8.toInt32.toInt8.toInt32 h1050 F1055 F1056 F1057 F1059 (by decide) (fun q => rfl)) (lenOf pd_1 rfl) 0 (Nat.le_of_eq rfl) (by decide) (by decide) (by decide) (by decide) (by rw [hml]; rfl) (hb hby at_82) 85 rfl (pu_cont fun T1063 X1062 e1064 => ?_)
            show Go p_ e_ below _ T1063 (mkF m_ 85 #[.val (.int x0), .val (.int x1), .val (.int x2), .val (.int x3), .val (.int (3 : Int32)), .val (.int v2), .val (.ref b990), .val (.ref b1031), .val (.int (x1 &&& (255 : Int32))), .unset, .unset, .unset, .unset, .unset, .unset, .unset, .unset, .unset] [(.int (f4 (3 : Int32) (0 : Int32) x1.toInt8.toInt32.toInt8.toInt32))])
            refine g_istore X1062 hx #[.val (.int x0), .val (.int x1), .val (.int x2), .val (.int x3), .val (.int (3 : Int32)), .val (.int v2), .val (.ref b990), .val (.ref b1031), .val (.int (x1 &&& (255 : Int32))), .val (.int (f4 (3 : Int32) (0 : Int32) x1.toInt8.toInt32.toInt8.toInt32)), .unset, .unset, .unset, .unset, .unset, .unset, .unset, .unset] rfl (hb hby at_85) 87 rfl ?_
            refine g_aload X1062 hx rfl rfl (hb hby at_87) 89 rfl ?_
            refine g_callV X1062 hx hZ hown (wd hw 17 rfl) (C := "com/example/bindwick/bindwick/BERReader") (wd hw 18 rfl) (wd hw 20 rfl) (wd hw 19 rfl) (wd hw 3 rfl) (wd hw 21 rfl) (by decide) e1064 [] [] E1054 rfl (co4 l Z a0 hw b1031 b990 (3 : Int32) (0 : Int32) [(.int x1.toInt8.toInt32.toInt8.toInt32), (.int x2.toInt8.toInt32.toInt8.toInt32), (.int x3.toInt8.toInt32.toInt8.toInt32)] x1.toInt8.toInt32.toInt8.toInt32 h1050 F1055 F1056 F1057 F1059 (by decide) (fun q => rfl)) (lenOf pd_1 rfl) 0 (Nat.le_of_eq rfl) (by decide) (by decide) (by decide) (by decide) (by rw [hml]; rfl) (hb hby at_89) 92 rfl (pu_cont fun T1066 X1065 e1067 => ?_)
            show Go p_ e_ below _ T1066 (mkF m_ 92 #[.val (.int x0), .val (.int x1), .val (.int x2), .val (.int x3), .val (.int (3 : Int32)), .val (.int v2), .val (.ref b990), .val (.ref b1031), .val (.int (x1 &&& (255 : Int32))), .val (.int (f4 (3 : Int32) (0 : Int32) x1.toInt8.toInt32.toInt8.toInt32)), .unset, .unset, .unset, .unset, .unset, .unset, .unset, .unset] [(.int (f4 (3 : Int32) (0 : Int32) x1.toInt8.toInt32.toInt8.toInt32))])
            refine g_istore X1065 hx #[.val (.int x0), .val (.int x1), .val (.int x2), .val (.int x3), .val (.int (3 : Int32)), .val (.int v2), .val (.ref b990), .val (.ref b1031), .val (.int (x1 &&& (255 : Int32))), .val (.int (f4 (3 : Int32) (0 : Int32) x1.toInt8.toInt32.toInt8.toInt32)), .val (.int (f4 (3 : Int32) (0 : Int32) x1.toInt8.toInt32.toInt8.toInt32)), .unset, .unset, .unset, .unset, .unset, .unset, .unset] rfl (hb hby at_92) 94 rfl ?_
            refine g_iload X1065 hx rfl (hb hby at_94) 96 rfl ?_
            refine g_iload X1065 hx rfl (hb hby at_96) 98 rfl ?_
            refine g_icmp_ne X1065 hx (hb hby at_98) 112 101 (by decide) rfl rfl (fun q98 => ?_) (fun q98 => ?_)
            · exact absurd ((own_pk _ _ _ (by decide)).trans (by rw [own_byte, own_byte])) q98
            · refine g_iload X1065 hx rfl (hb hby at_101) 103 rfl ?_
              refine g_iload X1065 hx rfl (hb hby at_103) 105 rfl ?_
              refine g_icmp_ne X1065 hx (hb hby at_105) 112 108 (by decide) rfl rfl (fun q105 => ?_) (fun q105 => ?_)
              · exact absurd ((own_pk _ _ _ (by decide)).trans (by rw [own_byte, own_byte])) q105
              · refine g_iconst X1065 hx (1 : Int32) rfl (hb hby at_108) 109 rfl ?_
                refine g_goto X1065 hx (hb hby at_109) 113 (by decide) rfl ?_
                refine g_istore X1065 hx #[.val (.int x0), .val (.int x1), .val (.int x2), .val (.int x3), .val (.int (3 : Int32)), .val (.int v2), .val (.ref b990), .val (.ref b1031), .val (.int (x1 &&& (255 : Int32))), .val (.int (f4 (3 : Int32) (0 : Int32) x1.toInt8.toInt32.toInt8.toInt32)), .val (.int (f4 (3 : Int32) (0 : Int32) x1.toInt8.toInt32.toInt8.toInt32)), .val (.int (1 : Int32)), .unset, .unset, .unset, .unset, .unset, .unset] rfl (hb hby at_113) 115 rfl ?_
                refine g_iloadN X1065 hx rfl (hb hby at_115) 116 rfl ?_
                refine g_sipush X1065 hx (255 : Int32) rfl (hb hby at_116) 119 rfl ?_
                refine g_iand X1065 hx (hb hby at_119) 120 rfl ?_
                generalize hv1068 : (x2 &&& (255 : Int32)) = v1068
                refine g_istore X1065 hx #[.val (.int x0), .val (.int x1), .val (.int x2), .val (.int x3), .val (.int (3 : Int32)), .val (.int v2), .val (.ref b990), .val (.ref b1031), .val (.int (x1 &&& (255 : Int32))), .val (.int (f4 (3 : Int32) (0 : Int32) x1.toInt8.toInt32.toInt8.toInt32)), .val (.int (f4 (3 : Int32) (0 : Int32) x1.toInt8.toInt32.toInt8.toInt32)), .val (.int (1 : Int32)), .val (.int v1068), .unset, .unset, .unset, .unset, .unset] rfl (hb hby at_120) 122 rfl ?_
                refine g_iload X1065 hx rfl (hb hby at_122) 124 rfl ?_
                refine g_bipush X1065 hx (31 : Int32) rfl (hb hby at_124) 126 rfl ?_
                refine g_iand X1065 hx (hb hby at_126) 127 rfl ?_
                refine g_bipush X1065 hx (31 : Int32) rfl (hb hby at_127) 129 rfl ?_
                refine Go.joinT (α := Int32) X1065 e1067 (fun z => mkF m_ 138 #[.val (.int x0), .val (.int x1), .val (.int x2), .val (.int x3), .val (.int (3 : Int32)), .val (.int v2), .val (.ref b990), .val (.ref b1031), .val (.int (x1 &&& (255 : Int32))), .val (.int (f4 (3 : Int32) (0 : Int32) x1.toInt8.toInt32.toInt8.toInt32)), .val (.int (f4 (3 : Int32) (0 : Int32) x1.toInt8.toInt32.toInt8.toInt32)), .val (.int (1 : Int32)), .val (.int z), .unset, .unset, .unset, .unset, .unset] []) (fun z => z = (if (v1068 &&& (31 : Int32)) = (31 : Int32) then (v1068 ^^^ (1 : Int32)) else v1068)) ?_ (fun J1070 => ?_)
                · rintro T1071 X1072 e1073 z1069 hz1069
                  show Go p_ e_ below _ T1071 (mkF m_ 138 #[.val (.int x0), .val (.int x1), .val (.int x2), .val (.int x3), .val (.int (3 : Int32)), .val (.int v2), .val (.ref b990), .val (.ref b1031), .val (.int (x1 &&& (255 : Int32))), .val (.int (f4 (3 : Int32) (0 : Int32) x1.toInt8.toInt32.toInt8.toInt32)), .val (.int (f4 (3 : Int32) (0 : Int32) x1.toInt8.toInt32.toInt8.toInt32)), .val (.int (1 : Int32)), .val (.int z1069), .unset, .unset, .unset, .unset, .unset] [])
                  have hT := own_t _ _ _ hv1068 hz1069
                  rcases own_b2 _ _ hv2 with rfl | rfl
                  · show Go p_ e_ below _ T1071 (mkF m_ 138 #[.val (.int x0), .val (.int x1), .val (.int x2), .val (.int x3), .val (.int (3 : Int32)), .val (.int (0 : Int32)), .val (.ref b990), .val (.ref b1031), .val (.int (x1 &&& (255 : Int32))), .val (.int (f4 (3 : Int32) (0 : Int32) x1.toInt8.toInt32.toInt8.toInt32)), .val (.int (f4 (3 : Int32) (0 : Int32) x1.toInt8.toInt32.toInt8.toInt32)), .val (.int (1 : Int32)), .val (.int z1069), .unset, .unset, .unset, .unset, .unset] [])
                    refine g_iconst X1072 hx (2 : Int32) rfl (hb hby at_138) 139 rfl ?_
                    refine g_iload X1072 hx rfl (hb hby at_139) 141 rfl ?_
                    refine g_iadd X1072 hx (hb hby at_141) 142 rfl ?_
                    show Go p_ e_ below _ T1071 (mkF m_ 142 #[.val (.int x0), .val (.int x1), .val (.int x2), .val (.int x3), .val (.int (3 : Int32)), .val (.int (0 : Int32)), .val (.ref b990), .val (.ref b1031), .val (.int (x1 &&& (255 : Int32))), .val (.int (f4 (3 : Int32) (0 : Int32) x1.toInt8.toInt32.toInt8.toInt32)), .val (.int (f4 (3 : Int32) (0 : Int32) x1.toInt8.toInt32.toInt8.toInt32)), .val (.int (1 : Int32)), .val (.int z1069), .unset, .unset, .unset, .unset, .unset] [(.int (2 : Int32))])
                    refine g_newarray X1072 hx hZ (aty := .byte) (wd hw 0 rfl) e1073 (by decide) 2 (by decide) (by decide) (by decide) (by decide) [(.int (0 : Int32)), (.int (0 : Int32))] rfl (hb hby at_142) 144 rfl (fun T1077 h1078 b1079 X1080 e1081 g1082 E1083 A1084 => ?_)
                    have ne1085 : b1031 ≠ b1079 := Nat.ne_of_lt (Nat.lt_of_lt_of_eq E1054.lt g1082.symm)
                    have ne1086 : b990 ≠ b1079 := Nat.ne_of_lt (Nat.lt_of_lt_of_eq F1059.lt g1082.symm)
                    have F1087 := F1059.ext E1083
                    have F1088 := E1054.ext E1083
                    have F1089 := F1055.ext E1083
                    have F1090 := F1056.ext E1083
                    have F1091 := F1057.ext E1083
                    have sz1092 : h0.size ≤ b1079 := Nat.le_trans szh1061 (Nat.le_of_eq g1082.symm)
                    have szh1093 : h0.size ≤ h1078.size := Nat.le_trans szh1061 E1083.1
                    have A1094 : AV Z h1078 b1079 .byte [(.int (0 : Int32)), (.int (0 : Int32))] := A1084
                    show Go p_ e_ below _ T1077 (mkF m_ 144 #[.val (.int x0), .val (.int x1), .val (.int x2), .val (.int x3), .val (.int (3 : Int32)), .val (.int (0 : Int32)), .val (.ref b990), .val (.ref b1031), .val (.int (x1 &&& (255 : Int32))), .val (.int (f4 (3 : Int32) (0 : Int32) x1.toInt8.toInt32.toInt8.toInt32)), .val (.int (f4 (3 : Int32) (0 : Int32) x1.toInt8.toInt32.toInt8.toInt32)), .val (.int (1 : Int32)), .val (.int z1069), .unset, .unset, .unset, .unset, .unset] [(.ref b1079)])
                    refine g_astore X1080 hx #[.val (.int x0), .val (.int x1), .val (.int x2), .val (.int x3), .val (.int (3 : Int32)), .val (.int (0 : Int32)), .val (.ref b990), .val (.ref b1031), .val (.int (x1 &&& (255 : Int32))), .val (.int (f4 (3 : Int32) (0 : Int32) x1.toInt8.toInt32.toInt8.toInt32)), .val (.int (f4 (3 : Int32) (0 : Int32) x1.toInt8.toInt32.toInt8.toInt32)), .val (.int (1 : Int32)), .val (.int z1069), .val (.ref b1079), .unset, .unset, .unset, .unset] rfl rfl (hb hby at_144) 146 rfl ?_
                    refine g_aload X1080 hx rfl rfl (hb hby at_146) 148 rfl ?_
                    refine g_iconst X1080 hx (0 : Int32) rfl (hb hby at_148) 149 rfl ?_
                    refine g_iload X1080 hx rfl (hb hby at_149) 151 rfl ?_
                    refine g_i2b X1080 hx (hb hby at_151) 152 rfl ?_
                    refine g_bastore X1080 hx hZ e1081 A1094 (by decide) (Nat.le_of_ble_eq_true rfl) (hb hby at_152) 153 rfl (fun T1095 h1096 X1097 e1098 W1099 A1100 => ?_)
                    have A1101 : AV Z h1096 b1079 .byte [(.int z1069.toInt8.toInt32.toInt8.toInt32), (.int (0 : Int32))] := A1100
                    have F1102 := F1087.other W1099 ne1086
                    have F1103 := F1088.wr W1099
                    have F1104 := F1089.other W1099 (Or.inl ne1085)
                    have F1105 := F1090.other W1099 (Or.inl ne1085)
                    have F1106 := F1091.other W1099 (Or.inl ne1085)
                    have F1107 := A1101
                    have N1108 := Fr.snoc X1097 N1058 sz1092
                    have szh1109 : h0.size ≤ h1096.size := Nat.le_trans szh1093 (Nat.le_of_eq W1099.size.symm)
                    show Go p_ e_ below _ T1095 (mkF m_ 153 #[.val (.int x0), .val (.int x1), .val (.int x2), .val (.int x3), .val (.int (3 : Int32)), .val (.int (0 : Int32)), .val (.ref b990), .val (.ref b1031), .val (.int (x1 &&& (255 : Int32))), .val (.int (f4 (3 : Int32) (0 : Int32) x1.toInt8.toInt32.toInt8.toInt32)), .val (.int (f4 (3 : Int32) (0 : Int32) x1.toInt8.toInt32.toInt8.toInt32)), .val (.int (1 : Int32)), .val (.int z1069), .val (.ref b1079), .unset, .unset, .unset, .unset] [])
                    refine g_aload X1097 hx rfl rfl (hb hby at_153) 155 rfl ?_
                    refine g_iconst X1097 hx (1 : Int32) rfl (hb hby at_155) 156 rfl ?_
                    refine g_iconst X1097 hx (0 : Int32) rfl (hb hby at_156) 157 rfl ?_
                    refine g_bastore X1097 hx hZ e1098 A1101 (by decide) (Nat.le_of_ble_eq_true rfl) (hb hby at_157) 158 rfl (fun T1110 h1111 X1112 e1113 W1114 A1115 => ?_)
                    have A1116 : AV Z h1111 b1079 .byte [(.int z1069.toInt8.toInt32.toInt8.toInt32), (.int (0 : Int32).toInt8.toInt32)] := A1115
                    have F1117 := F1102.other W1114 ne1086
                    have F1118 := F1103.wr W1114
                    have F1119 := F1104.other W1114 (Or.inl ne1085)
                    have F1120 := F1105.other W1114 (Or.inl ne1085)
                    have F1121 := F1106.other W1114 (Or.inl ne1085)
                    have F1122 := A1116
                    have N1123 := Fr.snoc X1112 N1108 sz1092
                    have szh1124 : h0.size ≤ h1111.size := Nat.le_trans szh1109 (Nat.le_of_eq W1114.size.symm)
                    show Go p_ e_ below _ T1110 (mkF m_ 158 #[.val (.int x0), .val (.int x1), .val (.int x2), .val (.int x3), .val (.int (3 : Int32)), .val (.int (0 : Int32)), .val (.ref b990), .val (.ref b1031), .val (.int (x1 &&& (255 : Int32))), .val (.int (f4 (3 : Int32) (0 : Int32) x1.toInt8.toInt32.toInt8.toInt32)), .val (.int (f4 (3 : Int32) (0 : Int32) x1.toInt8.toInt32.toInt8.toInt32)), .val (.int (1 : Int32)), .val (.int z1069), .val (.ref b1079), .unset, .unset, .unset, .unset] [])
                    refine g_iload X1112 hx rfl (hb hby at_158) 160 rfl ?_
                    refine g_iconst X1112 hx (1 : Int32) rfl (hb hby at_160) 161 rfl ?_
                    refine g_icmp_ne X1112 hx (hb hby at_161) 170 164 (by decide) rfl rfl (fun q161 => ?_) (fun q161 => ?_)
                    · refine g_new X1112 hx hZ hown (wd hw 1 rfl) (wd hw 2 rfl) (wd hw 3 rfl) e1113 (hb hby at_170) (by decide) (by decide) 173 rfl (fun T1125 h1126 b1127 X1128 e1129 g1130 E1131 A1132 D1133 => ?_)
                      have ne1134 : b1031 ≠ b1127 := Nat.ne_of_lt (Nat.lt_of_lt_of_eq F1118.lt g1130.symm)
                      have ne1135 : b1079 ≠ b1127 := Nat.ne_of_lt (Nat.lt_of_lt_of_eq A1116.lt g1130.symm)
                      have ne1136 : b990 ≠ b1127 := Nat.ne_of_lt (Nat.lt_of_lt_of_eq F1117.lt g1130.symm)
                      have F1137 := F1117.ext E1131
                      have F1138 := F1118.ext E1131
                      have F1139 := F1119.ext E1131
                      have F1140 := F1120.ext E1131
                      have F1141 := F1121.ext E1131
                      have F1142 := A1116.ext E1131
                      have sz1143 : h0.size ≤ b1127 := Nat.le_trans szh1124 (Nat.le_of_eq g1130.symm)
                      have szh1144 : h0.size ≤ h1126.size := Nat.le_trans szh1124 E1131.1
                      have F1145 : Fld Z h1126 b1127 "com/example/bindwick/bindwick/BERReader" "data" "[B" .null := D1133 (Or.inr (wd hw 14 rfl)) (ty := (.array .byte)) (by decide)
                      have F1146 : Fld Z h1126 b1127 "com/example/bindwick/bindwick/BERReader" "limit" "I" (.int (0 : Int32)) := D1133 (Or.inr (wd hw 16 rfl)) (ty := .int) (by decide)
                      have F1147 : Fld Z h1126 b1127 "com/example/bindwick/bindwick/BERReader" "position" "I" (.int (0 : Int32)) := D1133 (Or.inl (wd hw 23 rfl)) (ty := .int) (by decide)
                      show Go p_ e_ below _ T1125 (mkF m_ 173 #[.val (.int x0), .val (.int x1), .val (.int x2), .val (.int x3), .val (.int (3 : Int32)), .val (.int (0 : Int32)), .val (.ref b990), .val (.ref b1031), .val (.int (x1 &&& (255 : Int32))), .val (.int (f4 (3 : Int32) (0 : Int32) x1.toInt8.toInt32.toInt8.toInt32)), .val (.int (f4 (3 : Int32) (0 : Int32) x1.toInt8.toInt32.toInt8.toInt32)), .val (.int (1 : Int32)), .val (.int z1069), .val (.ref b1079), .unset, .unset, .unset, .unset] [(.ref b1127)])
                      refine g_dup X1128 hx rfl (hb hby at_173) 174 rfl ?_
                      refine g_aload X1128 hx rfl rfl (hb hby at_174) 176 rfl ?_
                      refine g_init X1128 hx hZ hown (wd hw 4 rfl) rfl (wd hw 5 rfl) (wd hw 3 rfl) (wd hw 6 rfl) (by decide) e1129 [(.ref b1079)] [(.ref b1127)] rfl (co1 l Z a0 hw b1127 b1079 [(.int z1069.toInt8.toInt32.toInt8.toInt32), (.int (0 : Int32).toInt8.toInt32)] h1126 h0.size szh1144 sz1143 A1132 F1145 F1146 F1147 F1142 ne1135) (lenOf pd_3 rfl) 1 (Nat.le_of_eq rfl) (by decide) (by decide) (by decide) (by decide) (by rw [hml]; rfl) (hb hby at_176) 179 rfl (fun r1148 T1149 L1150 X1151 Q1152 => ?_)
                      obtain ⟨h1153, e1154⟩ : ∃ h, T1149.heap = h := ⟨_, rfl⟩
                      rw [e1154] at Q1152
                      obtain ⟨rfl, n1155, K1156, E1157, F1158, F1159, F1160⟩ := Q1152
                      have N1161 := Fr.app N1123 n1155
                      have F1162 := F1137.keep K1156 (ninS ne1136 nin0)
                      have F1163 := F1138.keep K1156
                      have F1164 := F1139.keep K1156 (ninS ne1134 nin0)
                      have F1165 := F1140.keep K1156 (ninS ne1134 nin0)
                      have F1166 := F1141.keep K1156 (ninS ne1134 nin0)
                      have F1167 := F1142.keep K1156 (ninS ne1135 nin0)
                      have F1168 := A1132.keep K1156
                      have szh1169 : h0.size ≤ h1153.size := Nat.le_trans szh1144 K1156.1
                      show Go p_ e_ below _ T1149 (mkF m_ 179 #[.val (.int x0), .val (.int x1), .val (.int x2), .val (.int x3), .val (.int (3 : Int32)), .val (.int (0 : Int32)), .val (.ref b990), .val (.ref b1031), .val (.int (x1 &&& (255 : Int32))), .val (.int (f4 (3 : Int32) (0 : Int32) x1.toInt8.toInt32.toInt8.toInt32)), .val (.int (f4 (3 : Int32) (0 : Int32) x1.toInt8.toInt32.toInt8.toInt32)), .val (.int (1 : Int32)), .val (.int z1069), .val (.ref b1079), .unset, .unset, .unset, .unset] [(.ref b1127)])
                      refine g_astore X1151 hx #[.val (.int x0), .val (.int x1), .val (.int x2), .val (.int x3), .val (.int (3 : Int32)), .val (.int (0 : Int32)), .val (.ref b990), .val (.ref b1031), .val (.int (x1 &&& (255 : Int32))), .val (.int (f4 (3 : Int32) (0 : Int32) x1.toInt8.toInt32.toInt8.toInt32)), .val (.int (f4 (3 : Int32) (0 : Int32) x1.toInt8.toInt32.toInt8.toInt32)), .val (.int (1 : Int32)), .val (.int z1069), .val (.ref b1079), .val (.ref b1127), .unset, .unset, .unset] rfl rfl (hb hby at_179) 181 rfl ?_
                      refine g_aload X1151 hx rfl rfl (hb hby at_181) 183 rfl ?_
                      refine g_callV X1151 hx hZ hown (wd hw 17 rfl) (C := "com/example/bindwick/bindwick/BERReader") (wd hw 18 rfl) (wd hw 20 rfl) (wd hw 19 rfl) (wd hw 3 rfl) (wd hw 21 rfl) (by decide) e1154 [] [] E1157 rfl (co4 l Z a0 hw b1127 b1079 (2 : Int32) (0 : Int32) [(.int z1069.toInt8.toInt32.toInt8.toInt32), (.int (0 : Int32).toInt8.toInt32)] z1069.toInt8.toInt32.toInt8.toInt32 h1153 F1158 F1159 F1160 F1167 (by decide) (fun q => rfl)) (lenOf pd_1 rfl) 0 (Nat.le_of_eq rfl) (by decide) (by decide) (by decide) (by decide) (by rw [hml]; rfl) (hb hby at_183) 186 rfl (pu_cont fun T1171 X1170 e1172 => ?_)
                      show Go p_ e_ below _ T1171 (mkF m_ 186 #[.val (.int x0), .val (.int x1), .val (.int x2), .val (.int x3), .val (.int (3 : Int32)), .val (.int (0 : Int32)), .val (.ref b990), .val (.ref b1031), .val (.int (x1 &&& (255 : Int32))), .val (.int (f4 (3 : Int32) (0 : Int32) x1.toInt8.toInt32.toInt8.toInt32)), .val (.int (f4 (3 : Int32) (0 : Int32) x1.toInt8.toInt32.toInt8.toInt32)), .val (.int (1 : Int32)), .val (.int z1069), .val (.ref b1079), .val (.ref b1127), .unset, .unset, .unset] [(.int (f4 (2 : Int32) (0 : Int32) z1069.toInt8.toInt32.toInt8.toInt32))])
                      refine g_iload X1170 hx rfl (hb hby at_186) 188 rfl ?_
                      refine g_icmp_ne X1170 hx (hb hby at_188) 195 191 (by decide) rfl rfl (fun q188 => ?_) (fun q188 => ?_)
                      · exact absurd ((own_pk _ _ _ (by decide)).trans (by rw [own_byte, own_byte]; exact hT.1)) q188
                      · refine g_iconst X1170 hx (1 : Int32) rfl (hb hby at_191) 192 rfl ?_
                        refine g_goto X1170 hx (hb hby at_192) 196 (by decide) rfl ?_
                        refine g_istore X1170 hx #[.val (.int x0), .val (.int x1), .val (.int x2), .val (.int x3), .val (.int (3 : Int32)), .val (.int (0 : Int32)), .val (.ref b990), .val (.ref b1031), .val (.int (x1 &&& (255 : Int32))), .val (.int (f4 (3 : Int32) (0 : Int32) x1.toInt8.toInt32.toInt8.toInt32)), .val (.int (f4 (3 : Int32) (0 : Int32) x1.toInt8.toInt32.toInt8.toInt32)), .val (.int (1 : Int32)), .val (.int z1069), .val (.ref b1079), .val (.ref b1127), .val (.int (1 : Int32)), .unset, .unset] rfl (hb hby at_196) 198 rfl ?_
                        refine g_aload X1170 hx rfl rfl (hb hby at_198) 200 rfl ?_
                        refine g_callV X1170 hx hZ hown (wd hw 24 rfl) (C := "com/example/bindwick/bindwick/BERReader") (wd hw 25 rfl) (wd hw 27 rfl) (wd hw 26 rfl) (wd hw 3 rfl) (wd hw 28 rfl) (by decide) e1172 [] [] E1157 rfl (co5 l Z a0 hw b1127 b1079 (2 : Int32) z1069.toInt8.toInt32.toInt8.toInt32 [] h1153 h0.size szh1169 sz1143 E1157 F1158 F1159 F1160 F1167 ne1135 (by decide) (by rw [own_byte, own_byte, hT.1]; exact hT.2)) (lenOf pd_4 rfl) 0 (Nat.le_of_eq rfl) (by decide) (by decide) (by decide) (by decide) (by rw [hml]; rfl) (hb hby at_200) 203 rfl (fun r1173 T1174 L1175 X1176 Q1177 => ?_)
                        obtain ⟨h1178, e1179⟩ : ∃ h, T1174.heap = h := ⟨_, rfl⟩
                        rw [e1179] at Q1177
                        obtain ⟨rfl, n1180, K1181, E1182, F1183, F1184, F1185, A1186⟩ := Q1177
                        have N1187 := Fr.app N1161 n1180
                        have F1188 := F1162.keep K1181 (ninS ne1136 nin0)
                        have F1189 := F1163.keep K1181
                        have F1190 := F1164.keep K1181 (ninS ne1134 nin0)
                        have F1191 := F1165.keep K1181 (ninS ne1134 nin0)
                        have F1192 := F1166.keep K1181 (ninS ne1134 nin0)
                        have F1193 := F1167.keep K1181 (ninS ne1135 nin0)
                        have F1194 := E1157.keep K1181
                        have szh1195 : h0.size ≤ h1178.size := Nat.le_trans szh1169 K1181.1
                        show Go p_ e_ below _ T1174 (mkF m_ 203 #[.val (.int x0), .val (.int x1), .val (.int x2), .val (.int x3), .val (.int (3 : Int32)), .val (.int (0 : Int32)), .val (.ref b990), .val (.ref b1031), .val (.int (x1 &&& (255 : Int32))), .val (.int (f4 (3 : Int32) (0 : Int32) x1.toInt8.toInt32.toInt8.toInt32)), .val (.int (f4 (3 : Int32) (0 : Int32) x1.toInt8.toInt32.toInt8.toInt32)), .val (.int (1 : Int32)), .val (.int z1069), .val (.ref b1079), .val (.ref b1127), .val (.int (1 : Int32)), .unset, .unset] [])
                        refine g_iload X1176 hx rfl (hb hby at_203) 205 rfl ?_
                        refine g_iconst X1176 hx (1 : Int32) rfl (hb hby at_205) 206 rfl ?_
                        refine g_icmp_ne X1176 hx (hb hby at_206) 217 209 (by decide) rfl rfl (fun q206 => ?_) (fun q206 => ?_)
                        · refine g_iconst X1176 hx (-1 : Int32) rfl (hb hby at_217) 218 rfl ?_
                          refine g_istore X1176 hx #[.val (.int x0), .val (.int x1), .val (.int x2), .val (.int x3), .val (.int (3 : Int32)), .val (.int (0 : Int32)), .val (.ref b990), .val (.ref b1031), .val (.int (x1 &&& (255 : Int32))), .val (.int (f4 (3 : Int32) (0 : Int32) x1.toInt8.toInt32.toInt8.toInt32)), .val (.int (f4 (3 : Int32) (0 : Int32) x1.toInt8.toInt32.toInt8.toInt32)), .val (.int (1 : Int32)), .val (.int z1069), .val (.ref b1079), .val (.ref b1127), .val (.int (1 : Int32)), .val (.int (-1 : Int32)), .unset] rfl (hb hby at_218) 220 rfl ?_
                          refine g_aload X1176 hx rfl rfl (hb hby at_220) 222 rfl ?_
                          refine g_callV X1176 hx hZ hown (wd hw 17 rfl) (C := "com/example/bindwick/bindwick/BERReader") (wd hw 18 rfl) (wd hw 20 rfl) (wd hw 19 rfl) (wd hw 3 rfl) (wd hw 21 rfl) (by decide) e1179 [] [] E1182 rfl (co4 l Z a0 hw b1127 b1079 (2 : Int32) (2 : Int32) [(.int z1069.toInt8.toInt32.toInt8.toInt32), (.int (0 : Int32).toInt8.toInt32)] (0 : Int32) h1178 F1183 F1184 F1185 A1186 (by decide) (fun q => absurd q (by decide))) (lenOf pd_1 rfl) 0 (Nat.le_of_eq rfl) (by decide) (by decide) (by decide) (by decide) (by rw [hml]; rfl) (hb hby at_222) 225 rfl (pu_cont fun T1197 X1196 e1198 => ?_)
                          show Go p_ e_ below _ T1197 (mkF m_ 225 #[.val (.int x0), .val (.int x1), .val (.int x2), .val (.int x3), .val (.int (3 : Int32)), .val (.int (0 : Int32)), .val (.ref b990), .val (.ref b1031), .val (.int (x1 &&& (255 : Int32))), .val (.int (f4 (3 : Int32) (0 : Int32) x1.toInt8.toInt32.toInt8.toInt32)), .val (.int (f4 (3 : Int32) (0 : Int32) x1.toInt8.toInt32.toInt8.toInt32)), .val (.int (1 : Int32)), .val (.int z1069), .val (.ref b1079), .val (.ref b1127), .val (.int (1 : Int32)), .val (.int (-1 : Int32)), .unset] [(.int (f4 (2 : Int32) (2 : Int32) (0 : Int32)))])
                          refine g_iload X1196 hx rfl (hb hby at_225) 227 rfl ?_
                          refine g_icmp_ne X1196 hx (hb hby at_227) 234 230 (by decide) rfl rfl (fun q227 => ?_) (fun q227 => ?_)
                          · exact absurd (own_pk1 _ _ _ (by decide)) q227
                          · refine g_iconst X1196 hx (1 : Int32) rfl (hb hby at_230) 231 rfl ?_
                            refine g_goto X1196 hx (hb hby at_231) 235 (by decide) rfl ?_
                            refine g_istore X1196 hx #[.val (.int x0), .val (.int x1), .val (.int x2), .val (.int x3), .val (.int (3 : Int32)), .val (.int (0 : Int32)), .val (.ref b990), .val (.ref b1031), .val (.int (x1 &&& (255 : Int32))), .val (.int (f4 (3 : Int32) (0 : Int32) x1.toInt8.toInt32.toInt8.toInt32)), .val (.int (f4 (3 : Int32) (0 : Int32) x1.toInt8.toInt32.toInt8.toInt32)), .val (.int (1 : Int32)), .val (.int z1069), .val (.ref b1079), .val (.ref b1127), .val (.int (1 : Int32)), .val (.int (-1 : Int32)), .val (.int (1 : Int32))] rfl (hb hby at_235) 237 rfl ?_
                            refine g_iload X1196 hx rfl (hb hby at_237) 239 rfl ?_
                            refine g_if_eq X1196 hx (hb hby at_239) 256 242 (by decide) rfl rfl (fun q239 => ?_) (fun q239 => ?_)
                            · exact absurd q239 (by decide)
                            · refine g_iload X1196 hx rfl (hb hby at_242) 244 rfl ?_
                              refine g_if_eq X1196 hx (hb hby at_244) 256 247 (by decide) rfl rfl (fun q244 => ?_) (fun q244 => ?_)
                              · exact absurd q244 (by decide)
                              · refine g_iload X1196 hx rfl (hb hby at_247) 249 rfl ?_
                                refine g_if_eq X1196 hx (hb hby at_249) 256 252 (by decide) rfl rfl (fun q249 => ?_) (fun q249 => ?_)
                                · exact absurd q249 (by decide)
                                · refine g_iconst X1196 hx (1 : Int32) rfl (hb hby at_252) 253 rfl ?_
                                  refine g_goto X1196 hx (hb hby at_253) 257 (by decide) rfl ?_
                                  exact g_retz X1196 hx hret hlk (by decide) (by decide) (hb hby at_257) ⟨rfl, N1187⟩
                        · exact absurd q206 (by decide)
                    · exact absurd q161 (by decide)
                  · show Go p_ e_ below _ T1071 (mkF m_ 138 #[.val (.int x0), .val (.int x1), .val (.int x2), .val (.int x3), .val (.int (3 : Int32)), .val (.int (1 : Int32)), .val (.ref b990), .val (.ref b1031), .val (.int (x1 &&& (255 : Int32))), .val (.int (f4 (3 : Int32) (0 : Int32) x1.toInt8.toInt32.toInt8.toInt32)), .val (.int (f4 (3 : Int32) (0 : Int32) x1.toInt8.toInt32.toInt8.toInt32)), .val (.int (1 : Int32)), .val (.int z1069), .unset, .unset, .unset, .unset, .unset] [])
                    refine g_iconst X1072 hx (2 : Int32) rfl (hb hby at_138) 139 rfl ?_
                    refine g_iload X1072 hx rfl (hb hby at_139) 141 rfl ?_
                    refine g_iadd X1072 hx (hb hby at_141) 142 rfl ?_
                    show Go p_ e_ below _ T1071 (mkF m_ 142 #[.val (.int x0), .val (.int x1), .val (.int x2), .val (.int x3), .val (.int (3 : Int32)), .val (.int (1 : Int32)), .val (.ref b990), .val (.ref b1031), .val (.int (x1 &&& (255 : Int32))), .val (.int (f4 (3 : Int32) (0 : Int32) x1.toInt8.toInt32.toInt8.toInt32)), .val (.int (f4 (3 : Int32) (0 : Int32) x1.toInt8.toInt32.toInt8.toInt32)), .val (.int (1 : Int32)), .val (.int z1069), .unset, .unset, .unset, .unset, .unset] [(.int (3 : Int32))])
                    refine g_newarray X1072 hx hZ (aty := .byte) (wd hw 0 rfl) e1073 (by decide) 3 (by decide) (by decide) (by decide) (by decide) [(.int (0 : Int32)), (.int (0 : Int32)), (.int (0 : Int32))] rfl (hb hby at_142) 144 rfl (fun T1199 h1200 b1201 X1202 e1203 g1204 E1205 A1206 => ?_)
                    have ne1207 : b1031 ≠ b1201 := Nat.ne_of_lt (Nat.lt_of_lt_of_eq E1054.lt g1204.symm)
                    have ne1208 : b990 ≠ b1201 := Nat.ne_of_lt (Nat.lt_of_lt_of_eq F1059.lt g1204.symm)
                    have F1209 := F1059.ext E1205
                    have F1210 := E1054.ext E1205
                    have F1211 := F1055.ext E1205
                    have F1212 := F1056.ext E1205
                    have F1213 := F1057.ext E1205
                    have sz1214 : h0.size ≤ b1201 := Nat.le_trans szh1061 (Nat.le_of_eq g1204.symm)
                    have szh1215 : h0.size ≤ h1200.size := Nat.le_trans szh1061 E1205.1
                    have A1216 : AV Z h1200 b1201 .byte [(.int (0 : Int32)), (.int (0 : Int32)), (.int (0 : Int32))] := A1206
                    show Go p_ e_ below _ T1199 (mkF m_ 144 #[.val (.int x0), .val (.int x1), .val (.int x2), .val (.int x3), .val (.int (3 : Int32)), .val (.int (1 : Int32)), .val (.ref b990), .val (.ref b1031), .val (.int (x1 &&& (255 : Int32))), .val (.int (f4 (3 : Int32) (0 : Int32) x1.toInt8.toInt32.toInt8.toInt32)), .val (.int (f4 (3 : Int32) (0 : Int32) x1.toInt8.toInt32.toInt8.toInt32)), .val (.int (1 : Int32)), .val (.int z1069), .unset, .unset, .unset, .unset, .unset] [(.ref b1201)])
                    refine g_astore X1202 hx #[.val (.int x0), .val (.int x1), .val (.int x2), .val (.int x3), .val (.int (3 : Int32)), .val (.int (1 : Int32)), .val (.ref b990), .val (.ref b1031), .val (.int (x1 &&& (255 : Int32))), .val (.int (f4 (3 : Int32) (0 : Int32) x1.toInt8.toInt32.toInt8.toInt32)), .val (.int (f4 (3 : Int32) (0 : Int32) x1.toInt8.toInt32.toInt8.toInt32)), .val (.int (1 : Int32)), .val (.int z1069), .val (.ref b1201), .unset, .unset, .unset, .unset] rfl rfl (hb hby at_144) 146 rfl ?_
                    refine g_aload X1202 hx rfl rfl (hb hby at_146) 148 rfl ?_
                    refine g_iconst X1202 hx (0 : Int32) rfl (hb hby at_148) 149 rfl ?_
                    refine g_iload X1202 hx rfl (hb hby at_149) 151 rfl ?_
                    refine g_i2b X1202 hx (hb hby at_151) 152 rfl ?_
                    refine g_bastore X1202 hx hZ e1203 A1216 (by decide) (Nat.le_of_ble_eq_true rfl) (hb hby at_152) 153 rfl (fun T1217 h1218 X1219 e1220 W1221 A1222 => ?_)
                    have A1223 : AV Z h1218 b1201 .byte [(.int z1069.toInt8.toInt32.toInt8.toInt32), (.int (0 : Int32)), (.int (0 : Int32))] := A1222
                    have F1224 := F1209.other W1221 ne1208
                    have F1225 := F1210.wr W1221
                    have F1226 := F1211.other W1221 (Or.inl ne1207)
                    have F1227 := F1212.other W1221 (Or.inl ne1207)
                    have F1228 := F1213.other W1221 (Or.inl ne1207)
                    have F1229 := A1223
                    have N1230 := Fr.snoc X1219 N1058 sz1214
                    have szh1231 : h0.size ≤ h1218.size := Nat.le_trans szh1215 (Nat.le_of_eq W1221.size.symm)
                    show Go p_ e_ below _ T1217 (mkF m_ 153 #[.val (.int x0), .val (.int x1), .val (.int x2), .val (.int x3), .val (.int (3 : Int32)), .val (.int (1 : Int32)), .val (.ref b990), .val (.ref b1031), .val (.int (x1 &&& (255 : Int32))), .val (.int (f4 (3 : Int32) (0 : Int32) x1.toInt8.toInt32.toInt8.toInt32)), .val (.int (f4 (3 : Int32) (0 : Int32) x1.toInt8.toInt32.toInt8.toInt32)), .val (.int (1 : Int32)), .val (.int z1069), .val (.ref b1201), .unset, .unset, .unset, .unset] [])
                    refine g_aload X1219 hx rfl rfl (hb hby at_153) 155 rfl ?_
                    refine g_iconst X1219 hx (1 : Int32) rfl (hb hby at_155) 156 rfl ?_
                    refine g_iconst X1219 hx (0 : Int32) rfl (hb hby at_156) 157 rfl ?_
                    refine g_bastore X1219 hx hZ e1220 A1223 (by decide) (Nat.le_of_ble_eq_true rfl) (hb hby at_157) 158 rfl (fun T1232 h1233 X1234 e1235 W1236 A1237 => ?_)
                    have A1238 : AV Z h1233 b1201 .byte [(.int z1069.toInt8.toInt32.toInt8.toInt32), (.int (0 : Int32).toInt8.toInt32), (.int (0 : Int32))] := A1237
                    have F1239 := F1224.other W1236 ne1208
                    have F1240 := F1225.wr W1236
                    have F1241 := F1226.other W1236 (Or.inl ne1207)
                    have F1242 := F1227.other W1236 (Or.inl ne1207)
                    have F1243 := F1228.other W1236 (Or.inl ne1207)
                    have F1244 := A1238
                    have N1245 := Fr.snoc X1234 N1230 sz1214
                    have szh1246 : h0.size ≤ h1233.size := Nat.le_trans szh1231 (Nat.le_of_eq W1236.size.symm)
                    show Go p_ e_ below _ T1232 (mkF m_ 158 #[.val (.int x0), .val (.int x1), .val (.int x2), .val (.int x3), .val (.int (3 : Int32)), .val (.int (1 : Int32)), .val (.ref b990), .val (.ref b1031), .val (.int (x1 &&& (255 : Int32))), .val (.int (f4 (3 : Int32) (0 : Int32) x1.toInt8.toInt32.toInt8.toInt32)), .val (.int (f4 (3 : Int32) (0 : Int32) x1.toInt8.toInt32.toInt8.toInt32)), .val (.int (1 : Int32)), .val (.int z1069), .val (.ref b1201), .unset, .unset, .unset, .unset] [])
                    refine g_iload X1234 hx rfl (hb hby at_158) 160 rfl ?_
                    refine g_iconst X1234 hx (1 : Int32) rfl (hb hby at_160) 161 rfl ?_
                    refine g_icmp_ne X1234 hx (hb hby at_161) 170 164 (by decide) rfl rfl (fun q161 => ?_) (fun q161 => ?_)
                    · exact absurd rfl q161
                    · refine g_aload X1234 hx rfl rfl (hb hby at_164) 166 rfl ?_
                      refine g_iconst X1234 hx (2 : Int32) rfl (hb hby at_166) 167 rfl ?_
                      refine g_iloadN X1234 hx rfl (hb hby at_167) 168 rfl ?_
                      refine g_i2b X1234 hx (hb hby at_168) 169 rfl ?_
                      refine g_bastore X1234 hx hZ e1235 A1238 (by decide) (Nat.le_of_ble_eq_true rfl) (hb hby at_169) 170 rfl (fun T1247 h1248 X1249 e1250 W1251 A1252 => ?_)
                      have A1253 : AV Z h1248 b1201 .byte [(.int z1069.toInt8.toInt32.toInt8.toInt32), (.int (0 : Int32).toInt8.toInt32), (.int x3.toInt8.toInt32.toInt8.toInt32)] := A1252
                      have F1254 := F1239.other W1251 ne1208
                      have F1255 := F1240.wr W1251
                      have F1256 := F1241.other W1251 (Or.inl ne1207)
                      have F1257 := F1242.other W1251 (Or.inl ne1207)
                      have F1258 := F1243.other W1251 (Or.inl ne1207)
                      have F1259 := A1253
                      have N1260 := Fr.snoc X1249 N1245 sz1214
                      have szh1261 : h0.size ≤ h1248.size := Nat.le_trans szh1246 (Nat.le_of_eq W1251.size.symm)
                      show Go p_ e_ below _ T1247 (mkF m_ 170 #[.val (.int x0), .val (.int x1), .val (.int x2), .val (.int x3), .val (.int (3 : Int32)), .val (.int (1 : Int32)), .val (.ref b990), .val (.ref b1031), .val (.int (x1 &&& (255 : Int32))), .val (.int (f4 (3 : Int32) (0 : Int32) x1.toInt8.toInt32.toInt8.toInt32)), .val (.int (f4 (3 : Int32) (0 : Int32) x1.toInt8.toInt32.toInt8.toInt32)), .val (.int (1 : Int32)), .val (.int z1069), .val (.ref b1201), .unset, .unset, .unset, .unset] [])
                      refine g_new X1249 hx hZ hown (wd hw 1 rfl) (wd hw 2 rfl) (wd hw 3 rfl) e1250 (hb hby at_170) (by decide) (by decide) 173 rfl (fun T1262 h1263 b1264 X1265 e1266 g1267 E1268 A1269 D1270 => ?_)
                      have ne1271 : b1031 ≠ b1264 := Nat.ne_of_lt (Nat.lt_of_lt_of_eq F1255.lt g1267.symm)
                      have ne1272 : b1201 ≠ b1264 := Nat.ne_of_lt (Nat.lt_of_lt_of_eq A1253.lt g1267.symm)
                      have ne1273 : b990 ≠ b1264 := Nat.ne_of_lt (Nat.lt_of_lt_of_eq F1254.lt g1267.symm)
                      have F1274 := F1254.ext E1268
                      have F1275 := F1255.ext E1268
                      have F1276 := F1256.ext E1268
                      have F1277 := F1257.ext E1268
                      have F1278 := F1258.ext E1268
                      have F1279 := A1253.ext E1268
                      have sz1280 : h0.size ≤ b1264 := Nat.le_trans szh1261 (Nat.le_of_eq g1267.symm)
                      have szh1281 : h0.size ≤ h1263.size := Nat.le_trans szh1261 E1268.1
                      have F1282 : Fld Z h1263 b1264 "com/example/bindwick/bindwick/BERReader" "data" "[B" .null := D1270 (Or.inr (wd hw 14 rfl)) (ty := (.array .byte)) (by decide)
                      have F1283 : Fld Z h1263 b1264 "com/example/bindwick/bindwick/BERReader" "limit" "I" (.int (0 : Int32)) := D1270 (Or.inr (wd hw 16 rfl)) (ty := .int) (by decide)
                      have F1284 : Fld Z h1263 b1264 "com/example/bindwick/bindwick/BERReader" "position" "I" (.int (0 : Int32)) := D1270 (Or.inl (wd hw 23 rfl)) (ty := .int) (by decide)
                      show Go p_ e_ below _ T1262 (mkF m_ 173 #[.val (.int x0), .val (.int x1), .val (.int x2), .val (.int x3), .val (.int (3 : Int32)), .val (.int (1 : Int32)), .val (.ref b990), .val (.ref b1031), .val (.int (x1 &&& (255 : Int32))), .val (.int (f4 (3 : Int32) (0 : Int32) x1.toInt8.toInt32.toInt8.toInt32)), .val (.int (f4 (3 : Int32) (0 : Int32) x1.toInt8.toInt32.toInt8.toInt32)), .val (.int (1 : Int32)), .val (.int z1069), .val (.ref b1201), .unset, .unset, .unset, .unset] [(.ref b1264)])
                      refine g_dup X1265 hx rfl (hb hby at_173) 174 rfl ?_
                      refine g_aload X1265 hx rfl rfl (hb hby at_174) 176 rfl ?_
                      refine g_init X1265 hx hZ hown (wd hw 4 rfl) rfl (wd hw 5 rfl) (wd hw 3 rfl) (wd hw 6 rfl) (by decide) e1266 [(.ref b1201)] [(.ref b1264)] rfl (co1 l Z a0 hw b1264 b1201 [(.int z1069.toInt8.toInt32.toInt8.toInt32), (.int (0 : Int32).toInt8.toInt32), (.int x3.toInt8.toInt32.toInt8.toInt32)] h1263 h0.size szh1281 sz1280 A1269 F1282 F1283 F1284 F1279 ne1272) (lenOf pd_3 rfl) 1 (Nat.le_of_eq rfl) (by decide) (by decide) (by decide) (by decide) (by rw [hml]; rfl) (hb hby at_176) 179 rfl (fun r1285 T1286 L1287 X1288 Q1289 => ?_)
                      obtain ⟨h1290, e1291⟩ : ∃ h, T1286.heap = h := ⟨_, rfl⟩
                      rw [e1291] at Q1289
                      obtain ⟨rfl, n1292, K1293, E1294, F1295, F1296, F1297⟩ := Q1289
                      have N1298 := Fr.app N1260 n1292
                      have F1299 := F1274.keep K1293 (ninS ne1273 nin0)
                      have F1300 := F1275.keep K1293
                      have F1301 := F1276.keep K1293 (ninS ne1271 nin0)
                      have F1302 := F1277.keep K1293 (ninS ne1271 nin0)
                      have F1303 := F1278.keep K1293 (ninS ne1271 nin0)
                      have F1304 := F1279.keep K1293 (ninS ne1272 nin0)
                      have F1305 := A1269.keep K1293
                      have szh1306 : h0.size ≤ h1290.size := Nat.le_trans szh1281 K1293.1
                      show Go p_ e_ below _ T1286 (mkF m_ 179 #[.val (.int x0), .val (.int x1), .val (.int x2), .val (.int x3), .val (.int (3 : Int32)), .val (.int (1 : Int32)), .val (.ref b990), .val (.ref b1031), .val (.int (x1 &&& (255 : Int32))), .val (.int (f4 (3 : Int32) (0 : Int32) x1.toInt8.toInt32.toInt8.toInt32)), .val (.int (f4 (3 : Int32) (0 : Int32) x1.toInt8.toInt32.toInt8.toInt32)), .val (.int (1 : Int32)), .val (.int z1069), .val (.ref b1201), .unset, .unset, .unset, .unset] [(.ref b1264)])
                      refine g_astore X1288 hx #[.val (.int x0), .val (.int x1), .val (.int x2), .val (.int x3), .val (.int (3 : Int32)), .val (.int (1 : Int32)), .val (.ref b990), .val (.ref b1031), .val (.int (x1 &&& (255 : Int32))), .val (.int (f4 (3 : Int32) (0 : Int32) x1.toInt8.toInt32.toInt8.toInt32)), .val (.int (f4 (3 : Int32) (0 : Int32) x1.toInt8.toInt32.toInt8.toInt32)), .val (.int (1 : Int32)), .val (.int z1069), .val (.ref b1201), .val (.ref b1264), .unset, .unset, .unset] rfl rfl (hb hby at_179) 181 rfl ?_
                      refine g_aload X1288 hx rfl rfl (hb hby at_181) 183 rfl ?_
                      refine g_callV X1288 hx hZ hown (wd hw 17 rfl) (C := "com/example/bindwick/bindwick/BERReader") (wd hw 18 rfl) (wd hw 20 rfl) (wd hw 19 rfl) (wd hw 3 rfl) (wd hw 21 rfl) (by decide) e1291 [] [] E1294 rfl (co4 l Z a0 hw b1264 b1201 (3 : Int32) (0 : Int32) [(.int z1069.toInt8.toInt32.toInt8.toInt32), (.int (0 : Int32).toInt8.toInt32), (.int x3.toInt8.toInt32.toInt8.toInt32)] z1069.toInt8.toInt32.toInt8.toInt32 h1290 F1295 F1296 F1297 F1304 (by decide) (fun q => rfl)) (lenOf pd_1 rfl) 0 (Nat.le_of_eq rfl) (by decide) (by decide) (by decide) (by decide) (by rw [hml]; rfl) (hb hby at_183) 186 rfl (pu_cont fun T1308 X1307 e1309 => ?_)
                      show Go p_ e_ below _ T1308 (mkF m_ 186 #[.val (.int x0), .val (.int x1), .val (.int x2), .val (.int x3), .val (.int (3 : Int32)), .val (.int (1 : Int32)), .val (.ref b990), .val (.ref b1031), .val (.int (x1 &&& (255 : Int32))), .val (.int (f4 (3 : Int32) (0 : Int32) x1.toInt8.toInt32.toInt8.toInt32)), .val (.int (f4 (3 : Int32) (0 : Int32) x1.toInt8.toInt32.toInt8.toInt32)), .val (.int (1 : Int32)), .val (.int z1069), .val (.ref b1201), .val (.ref b1264), .unset, .unset, .unset] [(.int (f4 (3 : Int32) (0 : Int32) z1069.toInt8.toInt32.toInt8.toInt32))])
                      refine g_iload X1307 hx rfl (hb hby at_186) 188 rfl ?_
                      refine g_icmp_ne X1307 hx (hb hby at_188) 195 191 (by decide) rfl rfl (fun q188 => ?_) (fun q188 => ?_)
                      · exact absurd ((own_pk _ _ _ (by decide)).trans (by rw [own_byte, own_byte]; exact hT.1)) q188
                      · refine g_iconst X1307 hx (1 : Int32) rfl (hb hby at_191) 192 rfl ?_
                        refine g_goto X1307 hx (hb hby at_192) 196 (by decide) rfl ?_
                        refine g_istore X1307 hx #[.val (.int x0), .val (.int x1), .val (.int x2), .val (.int x3), .val (.int (3 : Int32)), .val (.int (1 : Int32)), .val (.ref b990), .val (.ref b1031), .val (.int (x1 &&& (255 : Int32))), .val (.int (f4 (3 : Int32) (0 : Int32) x1.toInt8.toInt32.toInt8.toInt32)), .val (.int (f4 (3 : Int32) (0 : Int32) x1.toInt8.toInt32.toInt8.toInt32)), .val (.int (1 : Int32)), .val (.int z1069), .val (.ref b1201), .val (.ref b1264), .val (.int (1 : Int32)), .unset, .unset] rfl (hb hby at_196) 198 rfl ?_
                        refine g_aload X1307 hx rfl rfl (hb hby at_198) 200 rfl ?_
                        refine g_callV X1307 hx hZ hown (wd hw 24 rfl) (C := "com/example/bindwick/bindwick/BERReader") (wd hw 25 rfl) (wd hw 27 rfl) (wd hw 26 rfl) (wd hw 3 rfl) (wd hw 28 rfl) (by decide) e1309 [] [] E1294 rfl (co5 l Z a0 hw b1264 b1201 (3 : Int32) z1069.toInt8.toInt32.toInt8.toInt32 [(.int x3.toInt8.toInt32.toInt8.toInt32)] h1290 h0.size szh1306 sz1280 E1294 F1295 F1296 F1297 F1304 ne1272 (by decide) (by rw [own_byte, own_byte, hT.1]; exact hT.2)) (lenOf pd_4 rfl) 0 (Nat.le_of_eq rfl) (by decide) (by decide) (by decide) (by decide) (by rw [hml]; rfl) (hb hby at_200) 203 rfl (fun r1310 T1311 L1312 X1313 Q1314 => ?_)
                        obtain ⟨h1315, e1316⟩ : ∃ h, T1311.heap = h := ⟨_, rfl⟩
                        rw [e1316] at Q1314
                        obtain ⟨rfl, n1317, K1318, E1319, F1320, F1321, F1322, A1323⟩ := Q1314
                        have N1324 := Fr.app N1298 n1317
                        have F1325 := F1299.keep K1318 (ninS ne1273 nin0)
                        have F1326 := F1300.keep K1318
                        have F1327 := F1301.keep K1318 (ninS ne1271 nin0)
                        have F1328 := F1302.keep K1318 (ninS ne1271 nin0)
                        have F1329 := F1303.keep K1318 (ninS ne1271 nin0)
                        have F1330 := F1304.keep K1318 (ninS ne1272 nin0)
                        have F1331 := E1294.keep K1318
                        have szh1332 : h0.size ≤ h1315.size := Nat.le_trans szh1306 K1318.1
                        show Go p_ e_ below _ T1311 (mkF m_ 203 #[.val (.int x0), .val (.int x1), .val (.int x2), .val (.int x3), .val (.int (3 : Int32)), .val (.int (1 : Int32)), .val (.ref b990), .val (.ref b1031), .val (.int (x1 &&& (255 : Int32))), .val (.int (f4 (3 : Int32) (0 : Int32) x1.toInt8.toInt32.toInt8.toInt32)), .val (.int (f4 (3 : Int32) (0 : Int32) x1.toInt8.toInt32.toInt8.toInt32)), .val (.int (1 : Int32)), .val (.int z1069), .val (.ref b1201), .val (.ref b1264), .val (.int (1 : Int32)), .unset, .unset] [])
                        refine g_iload X1313 hx rfl (hb hby at_203) 205 rfl ?_
                        refine g_iconst X1313 hx (1 : Int32) rfl (hb hby at_205) 206 rfl ?_
                        refine g_icmp_ne X1313 hx (hb hby at_206) 217 209 (by decide) rfl rfl (fun q206 => ?_) (fun q206 => ?_)
                        · exact absurd rfl q206
                        · refine g_iloadN X1313 hx rfl (hb hby at_209) 210 rfl ?_
                          refine g_sipush X1313 hx (255 : Int32) rfl (hb hby at_210) 213 rfl ?_
                          refine g_iand X1313 hx (hb hby at_213) 214 rfl ?_
                          refine g_goto X1313 hx (hb hby at_214) 218 (by decide) rfl ?_
                          refine g_istore X1313 hx #[.val (.int x0), .val (.int x1), .val (.int x2), .val (.int x3), .val (.int (3 : Int32)), .val (.int (1 : Int32)), .val (.ref b990), .val (.ref b1031), .val (.int (x1 &&& (255 : Int32))), .val (.int (f4 (3 : Int32) (0 : Int32) x1.toInt8.toInt32.toInt8.toInt32)), .val (.int (f4 (3 : Int32) (0 : Int32) x1.toInt8.toInt32.toInt8.toInt32)), .val (.int (1 : Int32)), .val (.int z1069), .val (.ref b1201), .val (.ref b1264), .val (.int (1 : Int32)), .val (.int (x3 &&& (255 : Int32))), .unset] rfl (hb hby at_218) 220 rfl ?_
                          refine g_aload X1313 hx rfl rfl (hb hby at_220) 222 rfl ?_
                          refine g_callV X1313 hx hZ hown (wd hw 17 rfl) (C := "com/example/bindwick/bindwick/BERReader") (wd hw 18 rfl) (wd hw 20 rfl) (wd hw 19 rfl) (wd hw 3 rfl) (wd hw 21 rfl) (by decide) e1316 [] [] E1319 rfl (co4 l Z a0 hw b1264 b1201 (3 : Int32) (2 : Int32) [(.int z1069.toInt8.toInt32.toInt8.toInt32), (.int (0 : Int32).toInt8.toInt32), (.int x3.toInt8.toInt32.toInt8.toInt32)] x3.toInt8.toInt32.toInt8.toInt32 h1315 F1320 F1321 F1322 A1323 (by decide) (fun q => rfl)) (lenOf pd_1 rfl) 0 (Nat.le_of_eq rfl) (by decide) (by decide) (by decide) (by decide) (by rw [hml]; rfl) (hb hby at_222) 225 rfl (pu_cont fun T1334 X1333 e1335 => ?_)
                          show Go p_ e_ below _ T1334 (mkF m_ 225 #[.val (.int x0), .val (.int x1), .val (.int x2), .val (.int x3), .val (.int (3 : Int32)), .val (.int (1 : Int32)), .val (.ref b990), .val (.ref b1031), .val (.int (x1 &&& (255 : Int32))), .val (.int (f4 (3 : Int32) (0 : Int32) x1.toInt8.toInt32.toInt8.toInt32)), .val (.int (f4 (3 : Int32) (0 : Int32) x1.toInt8.toInt32.toInt8.toInt32)), .val (.int (1 : Int32)), .val (.int z1069), .val (.ref b1201), .val (.ref b1264), .val (.int (1 : Int32)), .val (.int (x3 &&& (255 : Int32))), .unset] [(.int (f4 (3 : Int32) (2 : Int32) x3.toInt8.toInt32.toInt8.toInt32))])
                          refine g_iload X1333 hx rfl (hb hby at_225) 227 rfl ?_
                          refine g_icmp_ne X1333 hx (hb hby at_227) 234 230 (by decide) rfl rfl (fun q227 => ?_) (fun q227 => ?_)
                          · exact absurd ((own_pk _ _ _ (by decide)).trans (by rw [own_byte, own_byte])) q227
                          · refine g_iconst X1333 hx (1 : Int32) rfl (hb hby at_230) 231 rfl ?_
                            refine g_goto X1333 hx (hb hby at_231) 235 (by decide) rfl ?_
                            refine g_istore X1333 hx #[.val (.int x0), .val (.int x1), .val (.int x2), .val (.int x3), .val (.int (3 : Int32)), .val (.int (1 : Int32)), .val (.ref b990), .val (.ref b1031), .val (.int (x1 &&& (255 : Int32))), .val (.int (f4 (3 : Int32) (0 : Int32) x1.toInt8.toInt32.toInt8.toInt32)), .val (.int (f4 (3 : Int32) (0 : Int32) x1.toInt8.toInt32.toInt8.toInt32)), .val (.int (1 : Int32)), .val (.int z1069), .val (.ref b1201), .val (.ref b1264), .val (.int (1 : Int32)), .val (.int (x3 &&& (255 : Int32))), .val (.int (1 : Int32))] rfl (hb hby at_235) 237 rfl ?_
                            refine g_iload X1333 hx rfl (hb hby at_237) 239 rfl ?_
                            refine g_if_eq X1333 hx (hb hby at_239) 256 242 (by decide) rfl rfl (fun q239 => ?_) (fun q239 => ?_)
                            · exact absurd q239 (by decide)
                            · refine g_iload X1333 hx rfl (hb hby at_242) 244 rfl ?_
                              refine g_if_eq X1333 hx (hb hby at_244) 256 247 (by decide) rfl rfl (fun q244 => ?_) (fun q244 => ?_)
                              · exact absurd q244 (by decide)
                              · refine g_iload X1333 hx rfl (hb hby at_247) 249 rfl ?_
                                refine g_if_eq X1333 hx (hb hby at_249) 256 252 (by decide) rfl rfl (fun q249 => ?_) (fun q249 => ?_)
                                · exact absurd q249 (by decide)
                                · refine g_iconst X1333 hx (1 : Int32) rfl (hb hby at_252) 253 rfl ?_
                                  refine g_goto X1333 hx (hb hby at_253) 257 (by decide) rfl ?_
                                  exact g_retz X1333 hx hret hlk (by decide) (by decide) (hb hby at_257) ⟨rfl, N1324⟩
                · refine g_icmp_ne X1065 hx (hb hby at_129) 138 132 (by decide) rfl rfl (fun q129 => ?_) (fun q129 => ?_)
                  · exact J1070 T1066 X1065 e1067 (v1068) ((if_neg q129).trans rfl).symm
                  · refine g_iload X1065 hx rfl (hb hby at_132) 134 rfl ?_
                    refine g_iconst X1065 hx (1 : Int32) rfl (hb hby at_134) 135 rfl ?_
                    refine g_ixor X1065 hx (hb hby at_135) 136 rfl ?_
                    refine g_istore X1065 hx #[.val (.int x0), .val (.int x1), .val (.int x2), .val (.int x3), .val (.int (3 : Int32)), .val (.int v2), .val (.ref b990), .val (.ref b1031), .val (.int (x1 &&& (255 : Int32))), .val (.int (f4 (3 : Int32) (0 : Int32) x1.toInt8.toInt32.toInt8.toInt32)), .val (.int (f4 (3 : Int32) (0 : Int32) x1.toInt8.toInt32.toInt8.toInt32)), .val (.int (1 : Int32)), .val (.int (v1068 ^^^ (1 : Int32))), .unset, .unset, .unset, .unset, .unset] rfl (hb hby at_136) 138 rfl ?_
                    exact J1070 T1066 X1065 e1067 ((v1068 ^^^ (1 : Int32))) ((if_pos q129).trans rfl).symm
          · exact absurd q66 (by decide)
set_option maxRecDepth 65536 in
set_option maxHeartbeats 40000000 in
theorem comes_1 {Post : Tables → Env → Array Value → State → Outcome → State → Prop} (hpost : ∀ tb e args s v u, (limb_1_1.after args s (.returned v) u = true ∧ limb_1_2.after args s (.returned v) u = true ∧ True) → FrameEnd s (.returned v) u (Jvm.fieldLocs frame_1_writes args s ++ Jvm.arrayLocs frame_1_arrays args s ++ Jvm.staticLocs frame_1_statics s) 16 128 → Post tb e args s (.returned v) u) :
    ArmFor flags0 classFile x code maxLocals ret World_1 tables_1 room_1 Calls_1 rest_1 Pre_1 Post := by
  intro l hfl _ _ p e ha hc hk s m args below hf hA hF happ hP
  obtain ⟨hcalls, hrest, hpre⟩ := hP
  obtain ⟨-, -, -, hnamed, -, -, -, hat⟩ := (Spec.applies_iff hf).mp happ
  obtain ⟨hg, hn⟩ := and_e (Cond.before_iff.mp (show (Jvm.Cond.and given_1 narrow_1).before args s = true from hpre))
  obtain ⟨h1, g0⟩ := and_e hg
  obtain ⟨w0, w1, w2, w3, rfl⟩ : ∃ w0 w1 w2 w3 : Value, args = #[w0, w1, w2, w3] := by
    have hs : args.size = 4 := by simpa [Cond.value, given_1] using h1
    obtain ⟨L⟩ := args
    match L, hs with
    | [w0, w1, w2, w3], _ => exact ⟨w0, w1, w2, w3, rfl⟩
  have hw := fun d (hd : d ∈ tables_1) => atoms_spec (ws := Jvm.Cond.code x code maxLocals ret :: tables_1) hat d (List.mem_cons_of_mem _ hd)
  have hfit : Fit s := fun {y c} hc i hi => by
    obtain ⟨ha, rfl⟩ := Array.getElem?_eq_some_iff.mp hc
    have q := List.all_eq_true.mp ((Array.all_eq_true_iff_forall_mem.mp hF) _ (Array.getElem_mem ha)) i (List.mem_range.mpr hi)
    simpa [Array.getElem?_eq_getElem hi] using q
  obtain ⟨hk_0, hg_1⟩ := and_e g0
  obtain ⟨x0, r0⟩ := is_v hk_0
  obtain rfl : w0 = (.int x0) := Option.some.inj r0
  obtain ⟨hk_1, hg_2⟩ := and_e hg_1
  obtain ⟨x1, r1⟩ := is_v hk_1
  obtain rfl : w1 = (.int x1) := Option.some.inj r1
  obtain ⟨hk_2, hg_3⟩ := and_e hg_2
  obtain ⟨x2, r2⟩ := is_v hk_2
  obtain rfl : w2 = (.int x2) := Option.some.inj r2
  obtain ⟨x3, r3⟩ := is_v hg_3
  obtain rfl : w3 = (.int x3) := Option.some.inj r3
  obtain ⟨n, o, h1, h2, h3, _, L, rfl, ⟨rfl, N⟩, hq⟩ := rm0 l s _ hw tables_1 x0 x1 x2 x3 s.heap  p e ha hc hk s m _ below hf ((Spec.applies_iff_loose hf).mp happ).1 ⟨rfl, State.Warmed39.refl s, rfl⟩ trivial
  refine ⟨n, _, h1, h2, h3, hpost _ _ _ _ _ _ ⟨Cond.after_iff.mpr rfl, Cond.after_iff.mpr (eq_i res_at (Term.int_eval (1)) rfl), trivial⟩ ⟨hq.1, hq.2.1, (hq.2.2.sift fun y hy => Or.inr (N y hy)).mono (by decide) (by decide)⟩⟩
theorem main_1_1 : Claimed_1_1 := comes_1 fun _ _ _ _ _ _ h hF => ⟨h.1, hF⟩
theorem main_1_2 : Claimed_1_2 := comes_1 fun _ _ _ _ _ _ h hF => ⟨h.2.1, hF⟩
end Jvm.Pilot.@@N@@
namespace Jvm.Pilot.@@N@@
open Jvm Jvm.ClassFile Sem Op Lib Jvm.Free Jvm.Stand Jvm.Pilot.@@N@@.Jvm.D
/-! MADE BY PROGRAM (witnessworld.py) out of the Statement's table words and the real class files: 9 classes; the members and pool entries that the words name. The judged class is class 1, her method 1. -/
namespace start1
open Jvm.ClassFile
def u (s : String) : CpInfo := .utf8 (stringToUtf16 s)
/-- a pool by its gaps: so many unusable entries, then the entry; so many at the end -/
def gap : Nat → List CpInfo → List CpInfo
  | 0, r => r
  | n + 1, r => .unusable :: gap n r
def poolList (es : List (Nat × CpInfo)) (last : Nat) : List CpInfo := es.foldr (fun e r => gap e.1 (e.2 :: r)) (gap last [])
def pool (es : List (Nat × CpInfo)) (last : Nat) : Array CpInfo := ⟨poolList es last⟩
def fileOf (pool : Array CpInfo) (this : Nat) (attrs : Array Attribute := #[]) (ms : Array MethodInfo := #[]) (fl : Nat := 33) (sup : Nat := 0) (ifs : Array Nat := #[]) (fds : Array FieldInfo := #[]) : ClassFile where
  minorVersion := 0
  majorVersion := 65
  constantPool := pool
  accessFlags := fl
  thisClass := this
  superClass := sup
  interfaces := ifs
  fields := fds
  methods := ms
  attributes := attrs
def plain (name : String) (sup : Option ClassId) : Class where
  name := name
  kind := .ordinary
  loader := none
  accessFlags := 33
  super := sup
  interfaces := #[]
  cf := none
  fields := #[]
  methods := #[]
  instanceTypes := #[]
  staticTypes := #[]
  resolved := #[]
  callSites := []
  init := .initialized
  statics := none
  mirror := none

def pool0 : Array CpInfo := pool [(5, u "<init>"), (0, u "()V"), (1, .class_ 10), (1, u "java/lang/Object")] 113

def k0c0 : Code := { maxStack := 0, maxLocals := 1, code := object_method_1_code, exceptionTable := #[], attributes := #[] }
def k0m0 : Method := { name := "<init>", desc := "()V", sig := { parameters := [], returnType := none }, accessFlags := 1, code := some k0c0 }
/-- java/lang/Object -/
def k0 : Class := { plain "java/lang/Object" none with
  accessFlags := 33
  interfaces := #[]
  cf := some (fileOf pool0 8 #[] #[{ accessFlags := 1, nameIndex := 5, descriptorIndex := 6, attributes := #[] }] 33 0 #[] #[])
  fields := #[]
  methods := #[k0m0]
  instanceTypes := #[]
  staticTypes := #[]
  resolved := Array.replicate 124 none
  statics := none }

def pool1 : Array CpInfo := pool [(2, .class_ 4), (1, u "java/lang/Object"), (0, u "<init>"), (0, u "()V"), (0, .class_ 8), (0, u "com/example/bindwick/bindwick/BERReader"), (0, .methodref 7 10), (0, .nameAndType 5 11), (0, u "([B)V"), (0, .methodref 7 13), (0, .nameAndType 14 15), (0, u "peekType"), (0, u "()I"), (0, .methodref 7 17), (0, .nameAndType 18 6), (0, u "skipElement"), (0, .class_ 20), (0, u "com/example/bindwick/bindwick/BERReaderPeekTypePinLaw"), (2, u "law"), (0, u "(IIII)Z")] 8

def k1m0 : Method := { name := "<init>", desc := "()V", sig := { parameters := [], returnType := none }, accessFlags := 2, code := none }
def k1c1 : Code := { maxStack := 3, maxLocals := 18, code := code, exceptionTable := #[], attributes := #[] }
def k1m1 : Method := { name := "law", desc := "(IIII)Z", sig := { parameters := [.int, .int, .int, .int], returnType := some .boolean }, accessFlags := 9, code := some k1c1 }
/-- com/example/bindwick/bindwick/BERReaderPeekTypePinLaw -/
def k1 : Class := { plain "com/example/bindwick/bindwick/BERReaderPeekTypePinLaw" (some 0) with
  accessFlags := 49
  interfaces := #[]
  cf := some (fileOf pool1 19 #[] #[{ accessFlags := 2, nameIndex := 5, descriptorIndex := 6, attributes := #[] }, { accessFlags := 9, nameIndex := 23, descriptorIndex := 24, attributes := #[] }] 49 2 #[] #[])
  fields := #[]
  methods := #[k1m0, k1m1]
  instanceTypes := #[]
  staticTypes := #[]
  resolved := Array.replicate 33 none
  statics := none }

def pool2 : Array CpInfo := pool [(1, .methodref 2 3), (0, .class_ 4), (0, .nameAndType 5 6), (0, u "com/example/bindwick/bindwick/BERReader"), (0, u "<init>"), (0, u "([BI)V"), (0, .methodref 8 9), (0, .class_ 10), (0, .nameAndType 5 11), (0, u "java/lang/Object"), (0, u "()V"), (0, .fieldref 2 13), (0, .nameAndType 14 15), (0, u "data"), (0, u "[B"), (0, .fieldref 2 17), (0, .nameAndType 18 19), (0, u "limit"), (0, u "I"), (5, u "()I"), (20, .methodref 2 47), (0, .nameAndType 48 25), (0, u "readLength"), (20, .fieldref 2 70), (0, .nameAndType 71 19), (0, u "position"), (28, .methodref 2 101), (0, .nameAndType 102 103), (0, u "checkType"), (0, u "(I)V"), (0, .methodref 2 105), (0, .nameAndType 106 25), (0, u "readBoundedLength"), (22, .long 2147483647), (32, u "MAX_LENGTH_OCTETS"), (2, u "FIRST_VALUE_BUFFER"), (0, u "([B)V"), (8, u "peekType"), (8, u "skipElement")] 33

def k2c0 : Code := { maxStack := 3, maxLocals := 2, code := prog_26_method_1_code, exceptionTable := #[], attributes := #[] }
def k2m0 : Method := { name := "<init>", desc := "([B)V", sig := { parameters := [(.array .byte)], returnType := none }, accessFlags := 0, code := some k2c0 }
def k2c1 : Code := { maxStack := 2, maxLocals := 3, code := prog_26_method_2_code, exceptionTable := #[], attributes := #[] }
def k2m1 : Method := { name := "<init>", desc := "([BI)V", sig := { parameters := [(.array .byte), .int], returnType := none }, accessFlags := 2, code := some k2c1 }
def k2c2 : Code := { maxStack := 2, maxLocals := 1, code := prog_26_method_5_code, exceptionTable := #[], attributes := #[] }
def k2m2 : Method := { name := "peekType", desc := "()I", sig := { parameters := [], returnType := some .int }, accessFlags := 0, code := some k2c2 }
def k2c3 : Code := { maxStack := 3, maxLocals := 2, code := prog_26_method_13_code, exceptionTable := #[], attributes := #[] }
def k2m3 : Method := { name := "skipElement", desc := "()V", sig := { parameters := [], returnType := none }, accessFlags := 0, code := some k2c3 }
def k2c4 : Code := { maxStack := 2, maxLocals := 1, code := prog_26_method_16_code, exceptionTable := #[], attributes := #[] }
def k2m4 : Method := { name := "checkType", desc := "(I)V", sig := { parameters := [.int], returnType := none }, accessFlags := 8, code := some k2c4 }
def k2c5 : Code := { maxStack := 3, maxLocals := 2, code := prog_26_method_17_code, exceptionTable := #[], attributes := #[] }
def k2m5 : Method := { name := "readBoundedLength", desc := "()I", sig := { parameters := [], returnType := some .int }, accessFlags := 2, code := some k2c5 }
def k2c6 : Code := { maxStack := 7, maxLocals := 6, code := prog_26_method_18_code, exceptionTable := #[], attributes := #[] }
def k2m6 : Method := { name := "readLength", desc := "()I", sig := { parameters := [], returnType := some .int }, accessFlags := 2, code := some k2c6 }
/-- com/example/bindwick/bindwick/BERReader -/
def k2 : Class := { plain "com/example/bindwick/bindwick/BERReader" (some 0) with
  accessFlags := 48
  interfaces := #[]
  cf := some (fileOf pool2 2 #[] #[{ accessFlags := 0, nameIndex := 5, descriptorIndex := 166, attributes := #[] }, { accessFlags := 2, nameIndex := 5, descriptorIndex := 6, attributes := #[] }, { accessFlags := 0, nameIndex := 175, descriptorIndex := 25, attributes := #[] }, { accessFlags := 0, nameIndex := 184, descriptorIndex := 11, attributes := #[] }, { accessFlags := 8, nameIndex := 102, descriptorIndex := 103, attributes := #[] }, { accessFlags := 2, nameIndex := 106, descriptorIndex := 25, attributes := #[] }, { accessFlags := 2, nameIndex := 48, descriptorIndex := 25, attributes := #[] }] 48 8 #[] #[{ accessFlags := 26, nameIndex := 162, descriptorIndex := 19, attributes := #[] }, { accessFlags := 26, nameIndex := 165, descriptorIndex := 19, attributes := #[] }, { accessFlags := 18, nameIndex := 14, descriptorIndex := 15, attributes := #[] }, { accessFlags := 18, nameIndex := 18, descriptorIndex := 19, attributes := #[] }, { accessFlags := 2, nameIndex := 71, descriptorIndex := 19, attributes := #[] }])
  fields := #[{ name := "MAX_LENGTH_OCTETS", type := .int, accessFlags := 26, slot := 0, constantValue := 0 }, { name := "FIRST_VALUE_BUFFER", type := .int, accessFlags := 26, slot := 1, constantValue := 0 }, { name := "data", type := (.array .byte), accessFlags := 18, slot := 0, constantValue := 0 }, { name := "limit", type := .int, accessFlags := 18, slot := 1, constantValue := 0 }, { name := "position", type := .int, accessFlags := 2, slot := 2, constantValue := 0 }]
  methods := #[k2m0, k2m1, k2m2, k2m3, k2m4, k2m5, k2m6]
  instanceTypes := #[(.array .byte), .int, .int]
  staticTypes := #[.int, .int]
  resolved := Array.replicate 218 none
  statics := none }

def pool3 : Array CpInfo := pool [(1, u "java/lang/Cloneable"), (0, .class_ 1), (0, u "java/lang/Object"), (0, .class_ 3)] 3

/-- java/lang/Cloneable -/
def k3 : Class := { plain "java/lang/Cloneable" (some 0) with
  accessFlags := 1537
  interfaces := #[]
  cf := some (fileOf pool3 2 #[] #[] 1537 4 #[] #[])
  fields := #[]
  methods := #[]
  instanceTypes := #[]
  staticTypes := #[]
  resolved := Array.replicate 8 none
  statics := none }

def pool4 : Array CpInfo := pool [(1, u "java/io/Serializable"), (0, .class_ 1), (0, u "java/lang/Object"), (0, .class_ 3)] 3

/-- java/io/Serializable -/
def k4 : Class := { plain "java/io/Serializable" (some 0) with
  accessFlags := 1537
  interfaces := #[]
  cf := some (fileOf pool4 2 #[] #[] 1537 4 #[] #[])
  fields := #[]
  methods := #[]
  instanceTypes := #[]
  staticTypes := #[]
  resolved := Array.replicate 8 none
  statics := none }

/-- the primitive byte -/
def k5 : Class := { plain "byte" none with kind := .primitive 'B', accessFlags := 0x411 }
/-- [B -/
def k6 : Class := { plain "[B" (some 0) with kind := .array 5 .byte, interfaces := #[3, 4], accessFlags := 1041 }

/-- the primitive int -/
def k7 : Class := { plain "int" none with kind := .primitive 'I', accessFlags := 0x411 }
/-- [I -/
def k8 : Class := { plain "[I" (some 0) with kind := .array 7 .int, interfaces := #[3, 4], accessFlags := 1041 }

def heap : Heap := #[]
def classes : Array Class := #[k0, k1, k2, k3, k4, k5, k6, k7, k8]
def interned : List (Array UInt16 × Addr) := []
def slotsUsed : Nat := 0
def theMethod : MethodId := ⟨1, 1⟩
def args0 : Array Value := #[.int 1, .int 2, .int 3, .int 4]
def aboutOver (below : List Frame) : State where
  vm := { classes := classes, interned := interned.toArray }
  heap := heap
  slotsUsed := slotsUsed
  threads := #[{ frames := .invoking theMethod args0 :: below }]
def below0 : List Frame := [.native { method := ⟨0, 0⟩, args := #[] }]
def about1 : State := aboutOver below0
def p0 : Program := .bare "" "" ""
def e0 : Env := launch0.env 0 0 0
theorem w_frames : about1.frames = Frame.invoking theMethod args0 :: below0 := rfl
set_option maxRecDepth 65536 in
theorem w_args : argsFit about1.vm theMethod args0 = true := by decide +kernel
set_option maxRecDepth 65536 in
theorem w_heap : heapFits about1 = true := by decide +kernel
set_option maxRecDepth 65536 in
theorem w_runnable : about1.curStatus? = some .runnable := by decide +kernel
set_option maxRecDepth 65536 in
theorem w_alone : about1.alone = true := by decide +kernel
set_option maxRecDepth 65536 in
theorem w_named : about1.methodNamed? x = some theMethod := by decide +kernel
set_option maxRecDepth 65536 in
theorem w_hears : about1.hears theMethod below0 = true := by decide +kernel
set_option maxRecDepth 65536 in
theorem w_ripe : about1.ripe theMethod args0 below0 = true := by decide +kernel
theorem w_running : about1.status = .running := rfl
set_option maxRecDepth 65536 in
theorem w_room : about1.hasRoom e0.platform room_1 = true :=
  launch0.hasRoom_least _ room_1 (by decide +kernel) (by decide +kernel) (by decide +kernel) (by decide +kernel) (by decide +kernel) (by decide +kernel)
theorem allAtoms_all (ts : List Jvm.Cond) (a : Array Jvm.Value) (st : Jvm.State) : (allAtoms ts).before a st = ts.all (fun c => c.before a st) := by
  induction ts with
  | nil => rfl
  | cons c t ih =>
    show (Jvm.Cond.and c (allAtoms t)).before a st = _
    rw [Jvm.Cond.before_and, ih, List.all_cons]
def words1 : List Jvm.Cond := Jvm.Cond.code x code maxLocals ret :: tables_1
/-- a 'code' word, met by the world's own term for the bytes: nothing is compared byte by byte -/
theorem code_word {y : MethodName} {bytes : ByteArray} {mx : Nat} {rt : Option FieldType} {a : Array Value} {s : State} {m : MethodId} {meth : Method} {c : Code} (h1 : s.methodNamed? y = some m) (h2 : s.vm.method? m = some meth) (h3 : meth.code = some c) (h4 : c.code = bytes)
    (h5 : (c.maxLocals == mx && c.exceptionTable.isEmpty && decide (c.maxStack ≤ mostOperands) && decide (meth.sig.returnType = rt) && !meth.locks && decide (parseMethodDescriptor y.desc = some meth.sig)) = true) : (Jvm.Cond.code y bytes mx rt).before a s = true := by
  simp only [Bool.and_eq_true, beq_iff_eq, Bool.not_eq_true', decide_eq_true_eq] at h5
  obtain ⟨⟨⟨⟨⟨g1, g2⟩, g3⟩, g4⟩, g5⟩, g6⟩ := h5
  simp [Cond.before, Cond.holds, Cond.value, h1, h2, h3, h4, g1, g2, g3, g4, g5, g6]
def isCode : Jvm.Cond → Bool
  | .code _ _ _ _ => true
  | _ => false
theorem all_split {L : List Jvm.Cond} {P : Jvm.Cond → Bool} (h1 : L.all (fun c => isCode c || P c) = true) (h2 : ∀ c ∈ L.filter isCode, P c = true) : L.all P = true := by
  refine List.all_eq_true.mpr fun c hc => ?_
  have h := List.all_eq_true.mp h1 c hc
  rcases Bool.eq_false_or_eq_true (isCode c) with hi | hi
  · exact h2 c (List.mem_filter.mpr ⟨hc, hi⟩)
  · simpa [hi] using h
set_option maxRecDepth 65536 in
theorem w_c0 : (Jvm.Cond.code x code maxLocals ret).before args0 about1 = true := code_word (m := ⟨1, 1⟩) (meth := k1m1) (c := k1c1) (by decide +kernel) rfl rfl rfl (by decide +kernel)
set_option maxRecDepth 65536 in
theorem w_c1 : (Jvm.Cond.code ({ cls := "com/example/bindwick/bindwick/BERReader", name := "<init>", desc := "([B)V" } : Jvm.MethodName) prog_26_method_1_code (2 : Nat) (Option.none : Option Jvm.ClassFile.FieldType)).before args0 about1 = true := code_word (m := ⟨2, 0⟩) (meth := k2m0) (c := k2c0) (by decide +kernel) rfl rfl rfl (by decide +kernel)
set_option maxRecDepth 65536 in
theorem w_c2 : (Jvm.Cond.code ({ cls := "com/example/bindwick/bindwick/BERReader", name := "<init>", desc := "([BI)V" } : Jvm.MethodName) prog_26_method_2_code (3 : Nat) (Option.none : Option Jvm.ClassFile.FieldType)).before args0 about1 = true := code_word (m := ⟨2, 1⟩) (meth := k2m1) (c := k2c1) (by decide +kernel) rfl rfl rfl (by decide +kernel)
set_option maxRecDepth 65536 in
theorem w_c3 : (Jvm.Cond.code ({ cls := "java/lang/Object", name := "<init>", desc := "()V" } : Jvm.MethodName) object_method_1_code (1 : Nat) (Option.none : Option Jvm.ClassFile.FieldType)).before args0 about1 = true := code_word (m := ⟨0, 0⟩) (meth := k0m0) (c := k0c0) (by decide +kernel) rfl rfl rfl (by decide +kernel)
set_option maxRecDepth 65536 in
theorem w_c4 : (Jvm.Cond.code ({ cls := "com/example/bindwick/bindwick/BERReader", name := "peekType", desc := "()I" } : Jvm.MethodName) prog_26_method_5_code (1 : Nat) (Option.some Jvm.ClassFile.FieldType.int)).before args0 about1 = true := code_word (m := ⟨2, 2⟩) (meth := k2m2) (c := k2c2) (by decide +kernel) rfl rfl rfl (by decide +kernel)
set_option maxRecDepth 65536 in
theorem w_c5 : (Jvm.Cond.code ({ cls := "com/example/bindwick/bindwick/BERReader", name := "skipElement", desc := "()V" } : Jvm.MethodName) prog_26_method_13_code (2 : Nat) (Option.none : Option Jvm.ClassFile.FieldType)).before args0 about1 = true := code_word (m := ⟨2, 3⟩) (meth := k2m3) (c := k2c3) (by decide +kernel) rfl rfl rfl (by decide +kernel)
set_option maxRecDepth 65536 in
theorem w_c6 : (Jvm.Cond.code ({ cls := "com/example/bindwick/bindwick/BERReader", name := "checkType", desc := "(I)V" } : Jvm.MethodName) prog_26_method_16_code (1 : Nat) (Option.none : Option Jvm.ClassFile.FieldType)).before args0 about1 = true := code_word (m := ⟨2, 4⟩) (meth := k2m4) (c := k2c4) (by decide +kernel) rfl rfl rfl (by decide +kernel)
set_option maxRecDepth 65536 in
theorem w_c7 : (Jvm.Cond.code ({ cls := "com/example/bindwick/bindwick/BERReader", name := "readBoundedLength", desc := "()I" } : Jvm.MethodName) prog_26_method_17_code (2 : Nat) (Option.some Jvm.ClassFile.FieldType.int)).before args0 about1 = true := code_word (m := ⟨2, 5⟩) (meth := k2m5) (c := k2c5) (by decide +kernel) rfl rfl rfl (by decide +kernel)
set_option maxRecDepth 65536 in
theorem w_c8 : (Jvm.Cond.code ({ cls := "com/example/bindwick/bindwick/BERReader", name := "readLength", desc := "()I" } : Jvm.MethodName) prog_26_method_18_code (6 : Nat) (Option.some Jvm.ClassFile.FieldType.int)).before args0 about1 = true := code_word (m := ⟨2, 6⟩) (meth := k2m6) (c := k2c6) (by decide +kernel) rfl rfl rfl (by decide +kernel)
def codes1 : List Jvm.Cond := [Jvm.Cond.code x code maxLocals ret, Jvm.Cond.code ({ cls := "com/example/bindwick/bindwick/BERReader", name := "<init>", desc := "([B)V" } : Jvm.MethodName) prog_26_method_1_code (2 : Nat) (Option.none : Option Jvm.ClassFile.FieldType), Jvm.Cond.code ({ cls := "com/example/bindwick/bindwick/BERReader", name := "<init>", desc := "([BI)V" } : Jvm.MethodName) prog_26_method_2_code (3 : Nat) (Option.none : Option Jvm.ClassFile.FieldType), Jvm.Cond.code ({ cls := "java/lang/Object", name := "<init>", desc := "()V" } : Jvm.MethodName) object_method_1_code (1 : Nat) (Option.none : Option Jvm.ClassFile.FieldType), Jvm.Cond.code ({ cls := "com/example/bindwick/bindwick/BERReader", name := "peekType", desc := "()I" } : Jvm.MethodName) prog_26_method_5_code (1 : Nat) (Option.some Jvm.ClassFile.FieldType.int), Jvm.Cond.code ({ cls := "com/example/bindwick/bindwick/BERReader", name := "skipElement", desc := "()V" } : Jvm.MethodName) prog_26_method_13_code (2 : Nat) (Option.none : Option Jvm.ClassFile.FieldType), Jvm.Cond.code ({ cls := "com/example/bindwick/bindwick/BERReader", name := "checkType", desc := "(I)V" } : Jvm.MethodName) prog_26_method_16_code (1 : Nat) (Option.none : Option Jvm.ClassFile.FieldType), Jvm.Cond.code ({ cls := "com/example/bindwick/bindwick/BERReader", name := "readBoundedLength", desc := "()I" } : Jvm.MethodName) prog_26_method_17_code (2 : Nat) (Option.some Jvm.ClassFile.FieldType.int), Jvm.Cond.code ({ cls := "com/example/bindwick/bindwick/BERReader", name := "readLength", desc := "()I" } : Jvm.MethodName) prog_26_method_18_code (6 : Nat) (Option.some Jvm.ClassFile.FieldType.int)]
set_option maxRecDepth 65536 in
theorem codes_eq : words1.filter isCode = codes1 := rfl
theorem w_codes : ∀ c ∈ words1.filter isCode, c.before args0 about1 = true := by
  rw [codes_eq]
  intro c hc
  simp only [codes1, List.mem_cons, List.not_mem_nil, or_false] at hc
  rcases hc with rfl | rfl | rfl | rfl | rfl | rfl | rfl | rfl | rfl
  · exact w_c0
  · exact w_c1
  · exact w_c2
  · exact w_c3
  · exact w_c4
  · exact w_c5
  · exact w_c6
  · exact w_c7
  · exact w_c8
set_option maxRecDepth 65536 in
theorem w_t1 : (words1.take 24).all (fun c => isCode c || c.before args0 about1) = true := by decide +kernel
set_option maxRecDepth 65536 in
theorem w_t2 : (words1.drop 24).all (fun c => isCode c || c.before args0 about1) = true := by decide +kernel
theorem w_tables : (allAtoms (Jvm.Cond.code x code maxLocals ret :: tables_1)).before args0 about1 = true := by
  rw [allAtoms_all]
  show words1.all (fun c => c.before args0 about1) = true
  refine all_split ?_ w_codes
  rw [← List.take_append_drop 24 words1, List.all_append, w_t1, w_t2]
  rfl
set_option maxRecDepth 65536 in
theorem w_case : (Jvm.Cond.and given_1 narrow_1).before args0 about1 = true := by decide +kernel
theorem w_applies : (headSpec (Jvm.Cond.code x code maxLocals ret :: tables_1) room_1).applies x e0.platform about1 = true :=
  (Spec.applies_iff w_frames).mpr ⟨w_running, w_runnable, w_alone, w_named, w_hears, w_ripe, w_room, w_tables⟩
theorem atStart : AtStart classFile x code maxLocals ret World_1 tables_1 room_1 Calls_1 rest_1 Pre_1 launch0 p0 e0 about1 theMethod args0 below0 :=
  ⟨lists_1, trivial, launch0.admits_env _ _ _, launch0.least_env, fairChoices_fair.cas, fairChoices_fair.clock, w_frames, w_args, w_heap, w_applies, trivial, trivial, w_case⟩
end start1
theorem witness_1 : WitnessClaimed_1 := ⟨start1.p0, start1.e0, start1.about1, start1.theMethod, start1.args0, start1.below0, start1.atStart⟩
end Jvm.Pilot.@@N@@
