import JvmDerived
import JvmDerived.Pilot.@@N@@Statement
import JvmDerived.Pilot.@@N@@Code
set_option linter.unusedVariables false
set_option linter.unusedSimpArgs false
namespace Jvm.Pilot.@@N@@
open Jvm Jvm.ClassFile Sem Op Lib Jvm.Free Jvm.Stand Jvm.LawKit Jvm.RoadKit Bundle Jvm.Pilot.@@N@@.Jvm.D
/-! ## the shared layer: own_Go and its laws -/
def Go (p : Program) (e : Env) (below : List Frame) (P : State → Outcome → Prop) (T : State) (g : JFrame) : Prop := ∃ t o, Steps p.tables e below (T.setTop g) t ∧ t.status = .running ∧ Ended t below o ∧ P t o
def RP (s : State) (k n : Nat) (Q : Option Value → Heap → List Loc → Prop) (t : State) (o : Outcome) : Prop := ∃ v L, o = .returned v ∧ Q v t.heap L ∧ FrameEnd s o t L k n
theorem wd {a0 : Array Value} {Z : State} (hw : ∀ d ∈ tables_1, d.before a0 Z = true) (k : Nat) {d : Jvm.Cond} (h : tables_1[k]? = some d) : d.before a0 Z = true := hw _ (List.mem_of_getElem? h)
section OwnGo
variable {p : Program} {l : Launch} {e : Env} {R : Room} {s : State} {m : MethodId} {args : Array Value} {below : List Frame} {meth : Method} {c : Code} {T : State} {locs : List Loc} {cells slots : Nat} {P : State → Outcome → Prop} {pc : Nat} {Ls : Array Slot} {st : List Value} {Z : State} {a0 : Array Value} {h : Heap}
theorem Go.stp {T' : State} {g g' : JFrame} (G : Go p e below P T' g') (k : ∀ t, Steps p.tables e below (T'.setTop g') t → Steps p.tables e below (T.setTop g) t) : Go p e below P T g := by
  obtain ⟨t, o, h, r⟩ := G
  exact ⟨t, o, k t h, r⟩
theorem Go.cast {g g' : JFrame} (q : g = g') (G : Go p e below P T g') : Go p e below P T g := q ▸ G
theorem g_iload (X : Stand p l e R s m args below meth c T locs cells slots) (hx : p.tables.exec = Jvm.exec) {k : Nat} {v : Int32} (hl : Ls[k]? = some (.val (.int v))) (hd : decode c.code pc = .ok (.iload k, 2)) (pc' : Nat) (hp : pc + 2 = pc') (G : Go p e below P T (mkF m pc' Ls (.int v :: st))) : Go p e below P T (mkF m pc Ls st) := by
  subst hp
  exact G.stp fun _ h => XS.iload X.here hx rfl hd hl h
theorem g_iloadN (X : Stand p l e R s m args below meth c T locs cells slots) (hx : p.tables.exec = Jvm.exec) {k : Fin 4} {v : Int32} (hl : Ls[k.val]? = some (.val (.int v))) (hd : decode c.code pc = .ok (.iload_n k, 1)) (pc' : Nat) (hp : pc + 1 = pc') (G : Go p e below P T (mkF m pc' Ls (.int v :: st))) : Go p e below P T (mkF m pc Ls st) := by
  subst hp
  exact G.stp fun _ h => XS.iloadN X.here hx rfl hd hl h
theorem g_istore (X : Stand p l e R s m args below meth c T locs cells slots) (hx : p.tables.exec = Jvm.exec) {k : Nat} {v : Int32} (l' : Array Slot) (hl : storeLocals Ls k (.int v) = some l') (hd : decode c.code pc = .ok (.istore k, 2)) (pc' : Nat) (hp : pc + 2 = pc') (G : Go p e below P T (mkF m pc' l' st)) : Go p e below P T (mkF m pc Ls (.int v :: st)) := by
  subst hp
  exact G.stp fun _ h => XS.istore X.here hx rfl hd rfl hl h
theorem g_istoreN (X : Stand p l e R s m args below meth c T locs cells slots) (hx : p.tables.exec = Jvm.exec) {k : Fin 4} {v : Int32} (l' : Array Slot) (hl : storeLocals Ls k.val (.int v) = some l') (hd : decode c.code pc = .ok (.istore_n k, 1)) (pc' : Nat) (hp : pc + 1 = pc') (G : Go p e below P T (mkF m pc' l' st)) : Go p e below P T (mkF m pc Ls (.int v :: st)) := by
  subst hp
  exact G.stp fun _ h => XS.istoreN X.here hx rfl hd rfl hl h
theorem g_lload (X : Stand p l e R s m args below meth c T locs cells slots) (hx : p.tables.exec = Jvm.exec) {k : Nat} {v : Int64} (hl : Ls[k]? = some (.val (.long v))) (hd : decode c.code pc = .ok (.lload k, 2)) (pc' : Nat) (hp : pc + 2 = pc') (G : Go p e below P T (mkF m pc' Ls (.long v :: st))) : Go p e below P T (mkF m pc Ls st) := by
  subst hp
  exact G.stp fun _ h => XT.lload X.here hx rfl hd hl h
theorem g_lloadN (X : Stand p l e R s m args below meth c T locs cells slots) (hx : p.tables.exec = Jvm.exec) {k : Fin 4} {v : Int64} (hl : Ls[k.val]? = some (.val (.long v))) (hd : decode c.code pc = .ok (.lload_n k, 1)) (pc' : Nat) (hp : pc + 1 = pc') (G : Go p e below P T (mkF m pc' Ls (.long v :: st))) : Go p e below P T (mkF m pc Ls st) := by
  subst hp
  exact G.stp fun _ h => XT.lloadN X.here hx rfl hd hl h
theorem g_lstore (X : Stand p l e R s m args below meth c T locs cells slots) (hx : p.tables.exec = Jvm.exec) {k : Nat} {v : Int64} (l' : Array Slot) (hl : storeLocals Ls k (.long v) = some l') (hd : decode c.code pc = .ok (.lstore k, 2)) (pc' : Nat) (hp : pc + 2 = pc') (G : Go p e below P T (mkF m pc' l' st)) : Go p e below P T (mkF m pc Ls (.long v :: st)) := by
  subst hp
  exact G.stp fun _ h => XT.lstore X.here hx rfl hd rfl hl h
theorem g_lstoreN (X : Stand p l e R s m args below meth c T locs cells slots) (hx : p.tables.exec = Jvm.exec) {k : Fin 4} {v : Int64} (l' : Array Slot) (hl : storeLocals Ls k.val (.long v) = some l') (hd : decode c.code pc = .ok (.lstore_n k, 1)) (pc' : Nat) (hp : pc + 1 = pc') (G : Go p e below P T (mkF m pc' l' st)) : Go p e below P T (mkF m pc Ls (.long v :: st)) := by
  subst hp
  exact G.stp fun _ h => XT.lstoreN X.here hx rfl hd rfl hl h
theorem g_aload (X : Stand p l e R s m args below meth c T locs cells slots) (hx : p.tables.exec = Jvm.exec) {k : Nat} {v : Value} (hl : Ls[k]? = some (.val v)) (hv : v.isRef = true) (hd : decode c.code pc = .ok (.aload k, 2)) (pc' : Nat) (hp : pc + 2 = pc') (G : Go p e below P T (mkF m pc' Ls (v :: st))) : Go p e below P T (mkF m pc Ls st) := by
  subst hp
  exact G.stp fun _ h => XS.aload X.here hx rfl hd hl hv h
theorem g_aloadN (X : Stand p l e R s m args below meth c T locs cells slots) (hx : p.tables.exec = Jvm.exec) {k : Fin 4} {v : Value} (hl : Ls[k.val]? = some (.val v)) (hv : v.isRef = true) (hd : decode c.code pc = .ok (.aload_n k, 1)) (pc' : Nat) (hp : pc + 1 = pc') (G : Go p e below P T (mkF m pc' Ls (v :: st))) : Go p e below P T (mkF m pc Ls st) := by
  subst hp
  exact G.stp fun _ h => XS.aloadN X.here hx rfl hd hl hv h
theorem g_astore (X : Stand p l e R s m args below meth c T locs cells slots) (hx : p.tables.exec = Jvm.exec) {k : Nat} {v : Value} (l' : Array Slot) (hv : v.isRef = true) (hl : storeLocals Ls k v = some l') (hd : decode c.code pc = .ok (.astore k, 2)) (pc' : Nat) (hp : pc + 2 = pc') (G : Go p e below P T (mkF m pc' l' st)) : Go p e below P T (mkF m pc Ls (v :: st)) := by
  subst hp
  exact G.stp fun _ h => XS.astore X.here hx rfl hd rfl hv hl h
theorem g_astoreN (X : Stand p l e R s m args below meth c T locs cells slots) (hx : p.tables.exec = Jvm.exec) {k : Fin 4} {v : Value} (l' : Array Slot) (hv : v.isRef = true) (hl : storeLocals Ls k.val v = some l') (hd : decode c.code pc = .ok (.astore_n k, 1)) (pc' : Nat) (hp : pc + 1 = pc') (G : Go p e below P T (mkF m pc' l' st)) : Go p e below P T (mkF m pc Ls (v :: st)) := by
  subst hp
  exact G.stp fun _ h => XS.astoreN X.here hx rfl hd rfl hv hl h
theorem g_iconst (X : Stand p l e R s m args below meth c T locs cells slots) (hx : p.tables.exec = Jvm.exec) {i : Int} (v : Int32) (hv : Int32.ofInt i = v) (hd : decode c.code pc = .ok (.iconst i, 1)) (pc' : Nat) (hp : pc + 1 = pc') (G : Go p e below P T (mkF m pc' Ls (.int v :: st))) : Go p e below P T (mkF m pc Ls st) := by
  subst hp
  exact G.stp fun _ h => XT.iconstV X.here hx rfl v hd hv h
theorem g_bipush (X : Stand p l e R s m args below meth c T locs cells slots) (hx : p.tables.exec = Jvm.exec) {i : Int} (v : Int32) (hv : (Int8.ofInt i).toInt32 = v) (hd : decode c.code pc = .ok (.bipush i, 2)) (pc' : Nat) (hp : pc + 2 = pc') (G : Go p e below P T (mkF m pc' Ls (.int v :: st))) : Go p e below P T (mkF m pc Ls st) := by
  subst hp
  exact G.stp fun _ h => XT.bipushV X.here hx rfl v hd hv h
theorem g_sipush (X : Stand p l e R s m args below meth c T locs cells slots) (hx : p.tables.exec = Jvm.exec) {i : Int} (v : Int32) (hv : (Int16.ofInt i).toInt32 = v) (hd : decode c.code pc = .ok (.sipush i, 3)) (pc' : Nat) (hp : pc + 3 = pc') (G : Go p e below P T (mkF m pc' Ls (.int v :: st))) : Go p e below P T (mkF m pc Ls st) := by
  subst hp
  exact G.stp fun _ h => XT.sipushV X.here hx rfl v hd hv h
theorem g_lconst (X : Stand p l e R s m args below meth c T locs cells slots) (hx : p.tables.exec = Jvm.exec) {i : Fin 2} (v : Int64) (hv : Int64.ofNat i = v) (hd : decode c.code pc = .ok (.lconst i, 1)) (pc' : Nat) (hp : pc + 1 = pc') (G : Go p e below P T (mkF m pc' Ls (.long v :: st))) : Go p e below P T (mkF m pc Ls st) := by
  subst hp
  exact G.stp fun _ h => XT.lconstV X.here hx rfl v hd hv h
theorem g_aconst_null (X : Stand p l e R s m args below meth c T locs cells slots) (hx : p.tables.exec = Jvm.exec)  (hd : decode c.code pc = .ok (.aconst_null, 1)) (pc' : Nat) (hp : pc + 1 = pc') (G : Go p e below P T (mkF m pc' Ls (.null :: st))) : Go p e below P T (mkF m pc Ls st) := by
  subst hp
  exact G.stp fun _ h => XS.aconstNull X.here hx rfl hd h
theorem g_iadd (X : Stand p l e R s m args below meth c T locs cells slots) (hx : p.tables.exec = Jvm.exec) {x y : Int32} (hd : decode c.code pc = .ok (.iadd, 1)) (pc' : Nat) (hp : pc + 1 = pc') (G : Go p e below P T (mkF m pc' Ls (.int (x + y) :: st))) : Go p e below P T (mkF m pc Ls (.int y :: .int x :: st)) := by
  subst hp
  exact G.stp fun _ h => XS.iadd X.here hx rfl hd rfl h
theorem g_ladd (X : Stand p l e R s m args below meth c T locs cells slots) (hx : p.tables.exec = Jvm.exec) {x y : Int64} (hd : decode c.code pc = .ok (.ladd, 1)) (pc' : Nat) (hp : pc + 1 = pc') (G : Go p e below P T (mkF m pc' Ls (.long (x + y) :: st))) : Go p e below P T (mkF m pc Ls (.long y :: .long x :: st)) := by
  subst hp
  exact G.stp fun _ h => XT.ladd X.here hx rfl hd rfl h
theorem g_isub (X : Stand p l e R s m args below meth c T locs cells slots) (hx : p.tables.exec = Jvm.exec) {x y : Int32} (hd : decode c.code pc = .ok (.isub, 1)) (pc' : Nat) (hp : pc + 1 = pc') (G : Go p e below P T (mkF m pc' Ls (.int (x - y) :: st))) : Go p e below P T (mkF m pc Ls (.int y :: .int x :: st)) := by
  subst hp
  exact G.stp fun _ h => XS.isub X.here hx rfl hd rfl h
theorem g_lsub (X : Stand p l e R s m args below meth c T locs cells slots) (hx : p.tables.exec = Jvm.exec) {x y : Int64} (hd : decode c.code pc = .ok (.lsub, 1)) (pc' : Nat) (hp : pc + 1 = pc') (G : Go p e below P T (mkF m pc' Ls (.long (x - y) :: st))) : Go p e below P T (mkF m pc Ls (.long y :: .long x :: st)) := by
  subst hp
  exact G.stp fun _ h => XT.lsub X.here hx rfl hd rfl h
theorem g_imul (X : Stand p l e R s m args below meth c T locs cells slots) (hx : p.tables.exec = Jvm.exec) {x y : Int32} (hd : decode c.code pc = .ok (.imul, 1)) (pc' : Nat) (hp : pc + 1 = pc') (G : Go p e below P T (mkF m pc' Ls (.int (x * y) :: st))) : Go p e below P T (mkF m pc Ls (.int y :: .int x :: st)) := by
  subst hp
  exact G.stp fun _ h => XS.imul X.here hx rfl hd rfl h
theorem g_lmul (X : Stand p l e R s m args below meth c T locs cells slots) (hx : p.tables.exec = Jvm.exec) {x y : Int64} (hd : decode c.code pc = .ok (.lmul, 1)) (pc' : Nat) (hp : pc + 1 = pc') (G : Go p e below P T (mkF m pc' Ls (.long (x * y) :: st))) : Go p e below P T (mkF m pc Ls (.long y :: .long x :: st)) := by
  subst hp
  exact G.stp fun _ h => XT.lmul X.here hx rfl hd rfl h
theorem g_iand (X : Stand p l e R s m args below meth c T locs cells slots) (hx : p.tables.exec = Jvm.exec) {x y : Int32} (hd : decode c.code pc = .ok (.iand, 1)) (pc' : Nat) (hp : pc + 1 = pc') (G : Go p e below P T (mkF m pc' Ls (.int (x &&& y) :: st))) : Go p e below P T (mkF m pc Ls (.int y :: .int x :: st)) := by
  subst hp
  exact G.stp fun _ h => XS.iand X.here hx rfl hd rfl h
theorem g_land (X : Stand p l e R s m args below meth c T locs cells slots) (hx : p.tables.exec = Jvm.exec) {x y : Int64} (hd : decode c.code pc = .ok (.land, 1)) (pc' : Nat) (hp : pc + 1 = pc') (G : Go p e below P T (mkF m pc' Ls (.long (x &&& y) :: st))) : Go p e below P T (mkF m pc Ls (.long y :: .long x :: st)) := by
  subst hp
  exact G.stp fun _ h => XT.land X.here hx rfl hd rfl h
theorem g_ior (X : Stand p l e R s m args below meth c T locs cells slots) (hx : p.tables.exec = Jvm.exec) {x y : Int32} (hd : decode c.code pc = .ok (.ior, 1)) (pc' : Nat) (hp : pc + 1 = pc') (G : Go p e below P T (mkF m pc' Ls (.int (x ||| y) :: st))) : Go p e below P T (mkF m pc Ls (.int y :: .int x :: st)) := by
  subst hp
  exact G.stp fun _ h => XT.ior X.here hx rfl hd rfl h
theorem g_lor (X : Stand p l e R s m args below meth c T locs cells slots) (hx : p.tables.exec = Jvm.exec) {x y : Int64} (hd : decode c.code pc = .ok (.lor, 1)) (pc' : Nat) (hp : pc + 1 = pc') (G : Go p e below P T (mkF m pc' Ls (.long (x ||| y) :: st))) : Go p e below P T (mkF m pc Ls (.long y :: .long x :: st)) := by
  subst hp
  exact G.stp fun _ h => XT.lor X.here hx rfl hd rfl h
theorem g_ixor (X : Stand p l e R s m args below meth c T locs cells slots) (hx : p.tables.exec = Jvm.exec) {x y : Int32} (hd : decode c.code pc = .ok (.ixor, 1)) (pc' : Nat) (hp : pc + 1 = pc') (G : Go p e below P T (mkF m pc' Ls (.int (x ^^^ y) :: st))) : Go p e below P T (mkF m pc Ls (.int y :: .int x :: st)) := by
  subst hp
  exact G.stp fun _ h => XT.ixor X.here hx rfl hd rfl h
theorem g_lxor (X : Stand p l e R s m args below meth c T locs cells slots) (hx : p.tables.exec = Jvm.exec) {x y : Int64} (hd : decode c.code pc = .ok (.lxor, 1)) (pc' : Nat) (hp : pc + 1 = pc') (G : Go p e below P T (mkF m pc' Ls (.long (x ^^^ y) :: st))) : Go p e below P T (mkF m pc Ls (.long y :: .long x :: st)) := by
  subst hp
  exact G.stp fun _ h => XT.lxor X.here hx rfl hd rfl h
theorem g_idiv (X : Stand p l e R s m args below meth c T locs cells slots) (hx : p.tables.exec = Jvm.exec) {x y : Int32} (hy : y ≠ 0) (hd : decode c.code pc = .ok (.idiv, 1)) (pc' : Nat) (hp : pc + 1 = pc') (G : Go p e below P T (mkF m pc' Ls (.int (x / y) :: st))) : Go p e below P T (mkF m pc Ls (.int y :: .int x :: st)) := by
  subst hp
  exact G.stp fun _ h => XS.idiv X.here hx rfl hd rfl hy h
theorem g_irem (X : Stand p l e R s m args below meth c T locs cells slots) (hx : p.tables.exec = Jvm.exec) {x y : Int32} (hy : y ≠ 0) (hd : decode c.code pc = .ok (.irem, 1)) (pc' : Nat) (hp : pc + 1 = pc') (G : Go p e below P T (mkF m pc' Ls (.int (x % y) :: st))) : Go p e below P T (mkF m pc Ls (.int y :: .int x :: st)) := by
  subst hp
  exact G.stp fun _ h => iremM X hx rfl hd rfl hy h
theorem g_ldiv (X : Stand p l e R s m args below meth c T locs cells slots) (hx : p.tables.exec = Jvm.exec) {x y : Int64} (hy : y ≠ 0) (hd : decode c.code pc = .ok (.ldiv, 1)) (pc' : Nat) (hp : pc + 1 = pc') (G : Go p e below P T (mkF m pc' Ls (.long (x / y) :: st))) : Go p e below P T (mkF m pc Ls (.long y :: .long x :: st)) := by
  subst hp
  exact G.stp fun _ h => XT.ldiv X.here hx rfl hd rfl hy h
theorem g_lrem (X : Stand p l e R s m args below meth c T locs cells slots) (hx : p.tables.exec = Jvm.exec) {x y : Int64} (hy : y ≠ 0) (hd : decode c.code pc = .ok (.lrem, 1)) (pc' : Nat) (hp : pc + 1 = pc') (G : Go p e below P T (mkF m pc' Ls (.long (x % y) :: st))) : Go p e below P T (mkF m pc Ls (.long y :: .long x :: st)) := by
  subst hp
  rw [← lrem_mod] at G
  exact G.stp fun _ h => XT.lrem X.here hx rfl hd rfl hy h
theorem g_ishl (X : Stand p l e R s m args below meth c T locs cells slots) (hx : p.tables.exec = Jvm.exec) {x y : Int32} (hd : decode c.code pc = .ok (.ishl, 1)) (pc' : Nat) (hp : pc + 1 = pc') (G : Go p e below P T (mkF m pc' Ls (.int (x <<< (y &&& 31)) :: st))) : Go p e below P T (mkF m pc Ls (.int y :: .int x :: st)) := by
  subst hp
  exact G.stp fun _ h => XT.ishl X.here hx rfl hd rfl h
theorem g_ishr (X : Stand p l e R s m args below meth c T locs cells slots) (hx : p.tables.exec = Jvm.exec) {x y : Int32} (hd : decode c.code pc = .ok (.ishr, 1)) (pc' : Nat) (hp : pc + 1 = pc') (G : Go p e below P T (mkF m pc' Ls (.int (x >>> (y &&& 31)) :: st))) : Go p e below P T (mkF m pc Ls (.int y :: .int x :: st)) := by
  subst hp
  exact G.stp fun _ h => XT.ishr X.here hx rfl hd rfl h
theorem g_iushr (X : Stand p l e R s m args below meth c T locs cells slots) (hx : p.tables.exec = Jvm.exec) {x y : Int32} (hd : decode c.code pc = .ok (.iushr, 1)) (pc' : Nat) (hp : pc + 1 = pc') (G : Go p e below P T (mkF m pc' Ls (.int (XT.ushr x y) :: st))) : Go p e below P T (mkF m pc Ls (.int y :: .int x :: st)) := by
  subst hp
  exact G.stp fun _ h => XT.iushr X.here hx rfl hd rfl h
theorem g_lshl (X : Stand p l e R s m args below meth c T locs cells slots) (hx : p.tables.exec = Jvm.exec) {x : Int64} {y : Int32} (hd : decode c.code pc = .ok (.lshl, 1)) (pc' : Nat) (hp : pc + 1 = pc') (G : Go p e below P T (mkF m pc' Ls (.long (x <<< (y &&& 0x3f).toInt64) :: st))) : Go p e below P T (mkF m pc Ls (.int y :: .long x :: st)) := by
  subst hp
  exact G.stp fun _ h => XS.lshl X.here hx rfl hd rfl h
theorem g_lshr (X : Stand p l e R s m args below meth c T locs cells slots) (hx : p.tables.exec = Jvm.exec) {x : Int64} {y : Int32} (hd : decode c.code pc = .ok (.lshr, 1)) (pc' : Nat) (hp : pc + 1 = pc') (G : Go p e below P T (mkF m pc' Ls (.long (x >>> (y &&& 0x3f).toInt64) :: st))) : Go p e below P T (mkF m pc Ls (.int y :: .long x :: st)) := by
  subst hp
  exact G.stp fun _ h => XS.lshr X.here hx rfl hd rfl h
theorem g_lushr (X : Stand p l e R s m args below meth c T locs cells slots) (hx : p.tables.exec = Jvm.exec) {x : Int64} {y : Int32} (hd : decode c.code pc = .ok (.lushr, 1)) (pc' : Nat) (hp : pc + 1 = pc') (G : Go p e below P T (mkF m pc' Ls (.long (XT.ushrL x y) :: st))) : Go p e below P T (mkF m pc Ls (.int y :: .long x :: st)) := by
  subst hp
  exact G.stp fun _ h => XT.lushr X.here hx rfl hd rfl h
theorem g_ineg (X : Stand p l e R s m args below meth c T locs cells slots) (hx : p.tables.exec = Jvm.exec) {x : Int32} (hd : decode c.code pc = .ok (.ineg, 1)) (pc' : Nat) (hp : pc + 1 = pc') (G : Go p e below P T (mkF m pc' Ls (.int (-x) :: st))) : Go p e below P T (mkF m pc Ls (.int x :: st)) := by
  subst hp
  exact G.stp fun _ h => XS.ineg X.here hx rfl hd rfl h
theorem g_i2l (X : Stand p l e R s m args below meth c T locs cells slots) (hx : p.tables.exec = Jvm.exec) {x : Int32} (hd : decode c.code pc = .ok (.i2l, 1)) (pc' : Nat) (hp : pc + 1 = pc') (G : Go p e below P T (mkF m pc' Ls (.long x.toInt64 :: st))) : Go p e below P T (mkF m pc Ls (.int x :: st)) := by
  subst hp
  exact G.stp fun _ h => XT.i2l X.here hx rfl hd rfl h
theorem g_l2i (X : Stand p l e R s m args below meth c T locs cells slots) (hx : p.tables.exec = Jvm.exec) {x : Int64} (hd : decode c.code pc = .ok (.l2i, 1)) (pc' : Nat) (hp : pc + 1 = pc') (G : Go p e below P T (mkF m pc' Ls (.int x.toInt32 :: st))) : Go p e below P T (mkF m pc Ls (.long x :: st)) := by
  subst hp
  exact G.stp fun _ h => XT.l2i X.here hx rfl hd rfl h
theorem g_i2b (X : Stand p l e R s m args below meth c T locs cells slots) (hx : p.tables.exec = Jvm.exec) {x : Int32} (hd : decode c.code pc = .ok (.i2b, 1)) (pc' : Nat) (hp : pc + 1 = pc') (G : Go p e below P T (mkF m pc' Ls (.int x.toInt8.toInt32 :: st))) : Go p e below P T (mkF m pc Ls (.int x :: st)) := by
  subst hp
  exact G.stp fun _ h => XT.i2b X.here hx rfl hd rfl h
theorem g_i2s (X : Stand p l e R s m args below meth c T locs cells slots) (hx : p.tables.exec = Jvm.exec) {x : Int32} (hd : decode c.code pc = .ok (.i2s, 1)) (pc' : Nat) (hp : pc + 1 = pc') (G : Go p e below P T (mkF m pc' Ls (.int x.toInt16.toInt32 :: st))) : Go p e below P T (mkF m pc Ls (.int x :: st)) := by
  subst hp
  exact G.stp fun _ h => XT.i2s X.here hx rfl hd rfl h
theorem g_i2c (X : Stand p l e R s m args below meth c T locs cells slots) (hx : p.tables.exec = Jvm.exec) {x : Int32} (hd : decode c.code pc = .ok (.i2c, 1)) (pc' : Nat) (hp : pc + 1 = pc') (G : Go p e below P T (mkF m pc' Ls (.int x.toUInt32.toUInt16.toUInt32.toInt32 :: st))) : Go p e below P T (mkF m pc Ls (.int x :: st)) := by
  subst hp
  exact G.stp fun _ h => XT.i2c X.here hx rfl hd rfl h
theorem g_pop (X : Stand p l e R s m args below meth c T locs cells slots) (hx : p.tables.exec = Jvm.exec) {x : Value} (hc : x.category = 1) (hd : decode c.code pc = .ok (.pop, 1)) (pc' : Nat) (hp : pc + 1 = pc') (G : Go p e below P T (mkF m pc' Ls st)) : Go p e below P T (mkF m pc Ls (x :: st)) := by
  subst hp
  exact G.stp fun _ h => XT.pop X.here hx rfl hd rfl hc h
theorem g_dup (X : Stand p l e R s m args below meth c T locs cells slots) (hx : p.tables.exec = Jvm.exec) {x : Value} (hc : x.category = 1) (hd : decode c.code pc = .ok (.dup, 1)) (pc' : Nat) (hp : pc + 1 = pc') (G : Go p e below P T (mkF m pc' Ls (x :: x :: st))) : Go p e below P T (mkF m pc Ls (x :: st)) := by
  subst hp
  exact G.stp fun _ h => XS.dup X.here hx rfl hd rfl hc h
theorem g_dup_x1 (X : Stand p l e R s m args below meth c T locs cells slots) (hx : p.tables.exec = Jvm.exec) {x y : Value} (hc : x.category = 1) (hc' : y.category = 1) (hd : decode c.code pc = .ok (.dup_x1, 1)) (pc' : Nat) (hp : pc + 1 = pc') (G : Go p e below P T (mkF m pc' Ls (x :: y :: x :: st))) : Go p e below P T (mkF m pc Ls (x :: y :: st)) := by
  subst hp
  exact G.stp fun _ h => XT.dupX1 X.here hx rfl hd rfl hc hc' h
theorem g_dup2 (X : Stand p l e R s m args below meth c T locs cells slots) (hx : p.tables.exec = Jvm.exec) {x y : Value} (hc : x.category = 1) (hc' : y.category = 1) (hd : decode c.code pc = .ok (.dup2, 1)) (pc' : Nat) (hp : pc + 1 = pc') (G : Go p e below P T (mkF m pc' Ls (x :: y :: x :: y :: st))) : Go p e below P T (mkF m pc Ls (x :: y :: st)) := by
  subst hp
  exact G.stp fun _ h => XT.dup2 X.here hx rfl hd rfl hc hc' h
theorem g_iinc (X : Stand p l e R s m args below meth c T locs cells slots) (hx : p.tables.exec = Jvm.exec) {k : Nat} {cst : Int} {x : Int32} (v : Int32) (hv : Int32.ofInt cst = v) (hl : Ls[k]? = some (.val (.int x))) (l' : Array Slot) (hl' : storeLocals Ls k (.int (x + v)) = some l') (hd : decode c.code pc = .ok (.iinc k cst, 3)) (pc' : Nat) (hp : pc + 3 = pc') (G : Go p e below P T (mkF m pc' l' st)) : Go p e below P T (mkF m pc Ls st) := by
  subst hp
  exact G.stp fun _ h => XT.iincV X.here hx rfl v hd hv hl hl' h
theorem g_goto (X : Stand p l e R s m args below meth c T locs cells slots) (hx : p.tables.exec = Jvm.exec) {o : Int} (hd : decode c.code pc = .ok (.goto o, 3)) (pc' : Nat) (ho : 0 ≤ (pc : Int) + o) (hp : ((pc : Int) + o).toNat = pc') (G : Go p e below P T (mkF m pc' Ls st)) : Go p e below P T (mkF m pc Ls st) := by
  exact G.stp fun _ h => XS.goto X.here hx rfl rfl hd ho hp h
theorem g_icmp_eq (X : Stand p l e R s m args below meth c T locs cells slots) (hx : p.tables.exec = Jvm.exec) {x y : Int32} {o : Int} (hd : decode c.code pc = .ok (.if_icmp .eq o, 3)) (pcT pcF : Nat) (ho : 0 ≤ (pc : Int) + o) (hT : ((pc : Int) + o).toNat = pcT) (hF : pc + 3 = pcF) (G1 : x = y → Go p e below P T (mkF m pcT Ls st)) (G2 : ¬ x = y → Go p e below P T (mkF m pcF Ls st)) : Go p e below P T (mkF m pc Ls (.int y :: .int x :: st)) := by
  by_cases q : x = y
  · exact (G1 q).stp fun _ h => XS.icmpYes X.here hx rfl rfl hd rfl (XT.ii_eq_t q) ho hT h
  · subst hF
    exact (G2 q).stp fun _ h => XS.icmpNo X.here hx rfl hd rfl (XT.ii_eq_f q) h
theorem g_if_eq (X : Stand p l e R s m args below meth c T locs cells slots) (hx : p.tables.exec = Jvm.exec) {x : Int32} {o : Int} (hd : decode c.code pc = .ok (.ifCond .eq o, 3)) (pcT pcF : Nat) (ho : 0 ≤ (pc : Int) + o) (hT : ((pc : Int) + o).toNat = pcT) (hF : pc + 3 = pcF) (G1 : x = 0 → Go p e below P T (mkF m pcT Ls st)) (G2 : ¬ x = 0 → Go p e below P T (mkF m pcF Ls st)) : Go p e below P T (mkF m pc Ls (.int x :: st)) := by
  by_cases q : x = 0
  · exact (G1 q).stp fun _ h => XS.ifYes X.here hx rfl rfl hd rfl (XT.i0_eq_t q) ho hT h
  · subst hF
    exact (G2 q).stp fun _ h => XS.ifNo X.here hx rfl hd rfl (XT.i0_eq_f q) h
theorem g_lif_eq (X : Stand p l e R s m args below meth c T locs cells slots) (hx : p.tables.exec = Jvm.exec) {x y : Int64} {o : Int} (hd0 : decode c.code pc = .ok (.lcmp, 1)) (pc1 : Nat) (hp1 : pc + 1 = pc1) (hd : decode c.code pc1 = .ok (.ifCond .eq o, 3)) (pcT pcF : Nat) (ho : 0 ≤ (pc1 : Int) + o) (hT : ((pc1 : Int) + o).toNat = pcT) (hF : pc1 + 3 = pcF) (G1 : x = y → Go p e below P T (mkF m pcT Ls st)) (G2 : ¬ x = y → Go p e below P T (mkF m pcF Ls st)) : Go p e below P T (mkF m pc Ls (.long y :: .long x :: st)) := by
  subst hp1
  by_cases q : x = y
  · exact (G1 q).stp fun _ h => XT.lcmp X.here hx rfl hd0 rfl (XS.ifYes X.here hx rfl rfl hd rfl (XT.ll_eq_t q) ho hT h)
  · subst hF
    exact (G2 q).stp fun _ h => XT.lcmp X.here hx rfl hd0 rfl (XS.ifNo X.here hx rfl hd rfl (XT.ll_eq_f q) h)
theorem g_icmp_ne (X : Stand p l e R s m args below meth c T locs cells slots) (hx : p.tables.exec = Jvm.exec) {x y : Int32} {o : Int} (hd : decode c.code pc = .ok (.if_icmp .ne o, 3)) (pcT pcF : Nat) (ho : 0 ≤ (pc : Int) + o) (hT : ((pc : Int) + o).toNat = pcT) (hF : pc + 3 = pcF) (G1 : ¬ x = y → Go p e below P T (mkF m pcT Ls st)) (G2 : x = y → Go p e below P T (mkF m pcF Ls st)) : Go p e below P T (mkF m pc Ls (.int y :: .int x :: st)) := by
  by_cases q : ¬ x = y
  · exact (G1 q).stp fun _ h => XS.icmpYes X.here hx rfl rfl hd rfl (XT.ii_ne_t q) ho hT h
  · subst hF
    exact (G2 (Classical.not_not.mp q)).stp fun _ h => XS.icmpNo X.here hx rfl hd rfl (XT.ii_ne_f (Classical.not_not.mp q)) h
theorem g_if_ne (X : Stand p l e R s m args below meth c T locs cells slots) (hx : p.tables.exec = Jvm.exec) {x : Int32} {o : Int} (hd : decode c.code pc = .ok (.ifCond .ne o, 3)) (pcT pcF : Nat) (ho : 0 ≤ (pc : Int) + o) (hT : ((pc : Int) + o).toNat = pcT) (hF : pc + 3 = pcF) (G1 : ¬ x = 0 → Go p e below P T (mkF m pcT Ls st)) (G2 : x = 0 → Go p e below P T (mkF m pcF Ls st)) : Go p e below P T (mkF m pc Ls (.int x :: st)) := by
  by_cases q : ¬ x = 0
  · exact (G1 q).stp fun _ h => XS.ifYes X.here hx rfl rfl hd rfl (XT.i0_ne_t q) ho hT h
  · subst hF
    exact (G2 (Classical.not_not.mp q)).stp fun _ h => XS.ifNo X.here hx rfl hd rfl (XT.i0_ne_f (Classical.not_not.mp q)) h
theorem g_lif_ne (X : Stand p l e R s m args below meth c T locs cells slots) (hx : p.tables.exec = Jvm.exec) {x y : Int64} {o : Int} (hd0 : decode c.code pc = .ok (.lcmp, 1)) (pc1 : Nat) (hp1 : pc + 1 = pc1) (hd : decode c.code pc1 = .ok (.ifCond .ne o, 3)) (pcT pcF : Nat) (ho : 0 ≤ (pc1 : Int) + o) (hT : ((pc1 : Int) + o).toNat = pcT) (hF : pc1 + 3 = pcF) (G1 : ¬ x = y → Go p e below P T (mkF m pcT Ls st)) (G2 : x = y → Go p e below P T (mkF m pcF Ls st)) : Go p e below P T (mkF m pc Ls (.long y :: .long x :: st)) := by
  subst hp1
  by_cases q : ¬ x = y
  · exact (G1 q).stp fun _ h => XT.lcmp X.here hx rfl hd0 rfl (XS.ifYes X.here hx rfl rfl hd rfl (XT.ll_ne_t q) ho hT h)
  · subst hF
    exact (G2 (Classical.not_not.mp q)).stp fun _ h => XT.lcmp X.here hx rfl hd0 rfl (XS.ifNo X.here hx rfl hd rfl (XT.ll_ne_f (Classical.not_not.mp q)) h)
theorem g_icmp_lt (X : Stand p l e R s m args below meth c T locs cells slots) (hx : p.tables.exec = Jvm.exec) {x y : Int32} {o : Int} (hd : decode c.code pc = .ok (.if_icmp .lt o, 3)) (pcT pcF : Nat) (ho : 0 ≤ (pc : Int) + o) (hT : ((pc : Int) + o).toNat = pcT) (hF : pc + 3 = pcF) (G1 : x < y → Go p e below P T (mkF m pcT Ls st)) (G2 : ¬ x < y → Go p e below P T (mkF m pcF Ls st)) : Go p e below P T (mkF m pc Ls (.int y :: .int x :: st)) := by
  by_cases q : x < y
  · exact (G1 q).stp fun _ h => XS.icmpYes X.here hx rfl rfl hd rfl (XT.ii_lt_t q) ho hT h
  · subst hF
    exact (G2 q).stp fun _ h => XS.icmpNo X.here hx rfl hd rfl (XT.ii_lt_f q) h
theorem g_if_lt (X : Stand p l e R s m args below meth c T locs cells slots) (hx : p.tables.exec = Jvm.exec) {x : Int32} {o : Int} (hd : decode c.code pc = .ok (.ifCond .lt o, 3)) (pcT pcF : Nat) (ho : 0 ≤ (pc : Int) + o) (hT : ((pc : Int) + o).toNat = pcT) (hF : pc + 3 = pcF) (G1 : x < 0 → Go p e below P T (mkF m pcT Ls st)) (G2 : ¬ x < 0 → Go p e below P T (mkF m pcF Ls st)) : Go p e below P T (mkF m pc Ls (.int x :: st)) := by
  by_cases q : x < 0
  · exact (G1 q).stp fun _ h => XS.ifYes X.here hx rfl rfl hd rfl (XT.i0_lt_t q) ho hT h
  · subst hF
    exact (G2 q).stp fun _ h => XS.ifNo X.here hx rfl hd rfl (XT.i0_lt_f q) h
theorem g_lif_lt (X : Stand p l e R s m args below meth c T locs cells slots) (hx : p.tables.exec = Jvm.exec) {x y : Int64} {o : Int} (hd0 : decode c.code pc = .ok (.lcmp, 1)) (pc1 : Nat) (hp1 : pc + 1 = pc1) (hd : decode c.code pc1 = .ok (.ifCond .lt o, 3)) (pcT pcF : Nat) (ho : 0 ≤ (pc1 : Int) + o) (hT : ((pc1 : Int) + o).toNat = pcT) (hF : pc1 + 3 = pcF) (G1 : x < y → Go p e below P T (mkF m pcT Ls st)) (G2 : ¬ x < y → Go p e below P T (mkF m pcF Ls st)) : Go p e below P T (mkF m pc Ls (.long y :: .long x :: st)) := by
  subst hp1
  by_cases q : x < y
  · exact (G1 q).stp fun _ h => XT.lcmp X.here hx rfl hd0 rfl (XS.ifYes X.here hx rfl rfl hd rfl (XT.ll_lt_t q) ho hT h)
  · subst hF
    exact (G2 q).stp fun _ h => XT.lcmp X.here hx rfl hd0 rfl (XS.ifNo X.here hx rfl hd rfl (XT.ll_lt_f q) h)
theorem g_icmp_ge (X : Stand p l e R s m args below meth c T locs cells slots) (hx : p.tables.exec = Jvm.exec) {x y : Int32} {o : Int} (hd : decode c.code pc = .ok (.if_icmp .ge o, 3)) (pcT pcF : Nat) (ho : 0 ≤ (pc : Int) + o) (hT : ((pc : Int) + o).toNat = pcT) (hF : pc + 3 = pcF) (G1 : ¬ x < y → Go p e below P T (mkF m pcT Ls st)) (G2 : x < y → Go p e below P T (mkF m pcF Ls st)) : Go p e below P T (mkF m pc Ls (.int y :: .int x :: st)) := by
  by_cases q : ¬ x < y
  · exact (G1 q).stp fun _ h => XS.icmpYes X.here hx rfl rfl hd rfl (XT.ii_ge_t q) ho hT h
  · subst hF
    exact (G2 (Classical.not_not.mp q)).stp fun _ h => XS.icmpNo X.here hx rfl hd rfl (XT.ii_ge_f (Classical.not_not.mp q)) h
theorem g_if_ge (X : Stand p l e R s m args below meth c T locs cells slots) (hx : p.tables.exec = Jvm.exec) {x : Int32} {o : Int} (hd : decode c.code pc = .ok (.ifCond .ge o, 3)) (pcT pcF : Nat) (ho : 0 ≤ (pc : Int) + o) (hT : ((pc : Int) + o).toNat = pcT) (hF : pc + 3 = pcF) (G1 : ¬ x < 0 → Go p e below P T (mkF m pcT Ls st)) (G2 : x < 0 → Go p e below P T (mkF m pcF Ls st)) : Go p e below P T (mkF m pc Ls (.int x :: st)) := by
  by_cases q : ¬ x < 0
  · exact (G1 q).stp fun _ h => XS.ifYes X.here hx rfl rfl hd rfl (XT.i0_ge_t q) ho hT h
  · subst hF
    exact (G2 (Classical.not_not.mp q)).stp fun _ h => XS.ifNo X.here hx rfl hd rfl (XT.i0_ge_f (Classical.not_not.mp q)) h
theorem g_lif_ge (X : Stand p l e R s m args below meth c T locs cells slots) (hx : p.tables.exec = Jvm.exec) {x y : Int64} {o : Int} (hd0 : decode c.code pc = .ok (.lcmp, 1)) (pc1 : Nat) (hp1 : pc + 1 = pc1) (hd : decode c.code pc1 = .ok (.ifCond .ge o, 3)) (pcT pcF : Nat) (ho : 0 ≤ (pc1 : Int) + o) (hT : ((pc1 : Int) + o).toNat = pcT) (hF : pc1 + 3 = pcF) (G1 : ¬ x < y → Go p e below P T (mkF m pcT Ls st)) (G2 : x < y → Go p e below P T (mkF m pcF Ls st)) : Go p e below P T (mkF m pc Ls (.long y :: .long x :: st)) := by
  subst hp1
  by_cases q : ¬ x < y
  · exact (G1 q).stp fun _ h => XT.lcmp X.here hx rfl hd0 rfl (XS.ifYes X.here hx rfl rfl hd rfl (XT.ll_ge_t q) ho hT h)
  · subst hF
    exact (G2 (Classical.not_not.mp q)).stp fun _ h => XT.lcmp X.here hx rfl hd0 rfl (XS.ifNo X.here hx rfl hd rfl (XT.ll_ge_f (Classical.not_not.mp q)) h)
theorem g_icmp_gt (X : Stand p l e R s m args below meth c T locs cells slots) (hx : p.tables.exec = Jvm.exec) {x y : Int32} {o : Int} (hd : decode c.code pc = .ok (.if_icmp .gt o, 3)) (pcT pcF : Nat) (ho : 0 ≤ (pc : Int) + o) (hT : ((pc : Int) + o).toNat = pcT) (hF : pc + 3 = pcF) (G1 : y < x → Go p e below P T (mkF m pcT Ls st)) (G2 : ¬ y < x → Go p e below P T (mkF m pcF Ls st)) : Go p e below P T (mkF m pc Ls (.int y :: .int x :: st)) := by
  by_cases q : y < x
  · exact (G1 q).stp fun _ h => XS.icmpYes X.here hx rfl rfl hd rfl (XT.ii_gt_t q) ho hT h
  · subst hF
    exact (G2 q).stp fun _ h => XS.icmpNo X.here hx rfl hd rfl (XT.ii_gt_f q) h
theorem g_if_gt (X : Stand p l e R s m args below meth c T locs cells slots) (hx : p.tables.exec = Jvm.exec) {x : Int32} {o : Int} (hd : decode c.code pc = .ok (.ifCond .gt o, 3)) (pcT pcF : Nat) (ho : 0 ≤ (pc : Int) + o) (hT : ((pc : Int) + o).toNat = pcT) (hF : pc + 3 = pcF) (G1 : 0 < x → Go p e below P T (mkF m pcT Ls st)) (G2 : ¬ 0 < x → Go p e below P T (mkF m pcF Ls st)) : Go p e below P T (mkF m pc Ls (.int x :: st)) := by
  by_cases q : 0 < x
  · exact (G1 q).stp fun _ h => XS.ifYes X.here hx rfl rfl hd rfl (XT.i0_gt_t q) ho hT h
  · subst hF
    exact (G2 q).stp fun _ h => XS.ifNo X.here hx rfl hd rfl (XT.i0_gt_f q) h
theorem g_lif_gt (X : Stand p l e R s m args below meth c T locs cells slots) (hx : p.tables.exec = Jvm.exec) {x y : Int64} {o : Int} (hd0 : decode c.code pc = .ok (.lcmp, 1)) (pc1 : Nat) (hp1 : pc + 1 = pc1) (hd : decode c.code pc1 = .ok (.ifCond .gt o, 3)) (pcT pcF : Nat) (ho : 0 ≤ (pc1 : Int) + o) (hT : ((pc1 : Int) + o).toNat = pcT) (hF : pc1 + 3 = pcF) (G1 : y < x → Go p e below P T (mkF m pcT Ls st)) (G2 : ¬ y < x → Go p e below P T (mkF m pcF Ls st)) : Go p e below P T (mkF m pc Ls (.long y :: .long x :: st)) := by
  subst hp1
  by_cases q : y < x
  · exact (G1 q).stp fun _ h => XT.lcmp X.here hx rfl hd0 rfl (XS.ifYes X.here hx rfl rfl hd rfl (XT.ll_gt_t q) ho hT h)
  · subst hF
    exact (G2 q).stp fun _ h => XT.lcmp X.here hx rfl hd0 rfl (XS.ifNo X.here hx rfl hd rfl (XT.ll_gt_f q) h)
theorem g_icmp_le (X : Stand p l e R s m args below meth c T locs cells slots) (hx : p.tables.exec = Jvm.exec) {x y : Int32} {o : Int} (hd : decode c.code pc = .ok (.if_icmp .le o, 3)) (pcT pcF : Nat) (ho : 0 ≤ (pc : Int) + o) (hT : ((pc : Int) + o).toNat = pcT) (hF : pc + 3 = pcF) (G1 : ¬ y < x → Go p e below P T (mkF m pcT Ls st)) (G2 : y < x → Go p e below P T (mkF m pcF Ls st)) : Go p e below P T (mkF m pc Ls (.int y :: .int x :: st)) := by
  by_cases q : ¬ y < x
  · exact (G1 q).stp fun _ h => XS.icmpYes X.here hx rfl rfl hd rfl (XT.ii_le_t q) ho hT h
  · subst hF
    exact (G2 (Classical.not_not.mp q)).stp fun _ h => XS.icmpNo X.here hx rfl hd rfl (XT.ii_le_f (Classical.not_not.mp q)) h
theorem g_if_le (X : Stand p l e R s m args below meth c T locs cells slots) (hx : p.tables.exec = Jvm.exec) {x : Int32} {o : Int} (hd : decode c.code pc = .ok (.ifCond .le o, 3)) (pcT pcF : Nat) (ho : 0 ≤ (pc : Int) + o) (hT : ((pc : Int) + o).toNat = pcT) (hF : pc + 3 = pcF) (G1 : ¬ 0 < x → Go p e below P T (mkF m pcT Ls st)) (G2 : 0 < x → Go p e below P T (mkF m pcF Ls st)) : Go p e below P T (mkF m pc Ls (.int x :: st)) := by
  by_cases q : ¬ 0 < x
  · exact (G1 q).stp fun _ h => XS.ifYes X.here hx rfl rfl hd rfl (XT.i0_le_t q) ho hT h
  · subst hF
    exact (G2 (Classical.not_not.mp q)).stp fun _ h => XS.ifNo X.here hx rfl hd rfl (XT.i0_le_f (Classical.not_not.mp q)) h
theorem g_lif_le (X : Stand p l e R s m args below meth c T locs cells slots) (hx : p.tables.exec = Jvm.exec) {x y : Int64} {o : Int} (hd0 : decode c.code pc = .ok (.lcmp, 1)) (pc1 : Nat) (hp1 : pc + 1 = pc1) (hd : decode c.code pc1 = .ok (.ifCond .le o, 3)) (pcT pcF : Nat) (ho : 0 ≤ (pc1 : Int) + o) (hT : ((pc1 : Int) + o).toNat = pcT) (hF : pc1 + 3 = pcF) (G1 : ¬ y < x → Go p e below P T (mkF m pcT Ls st)) (G2 : y < x → Go p e below P T (mkF m pcF Ls st)) : Go p e below P T (mkF m pc Ls (.long y :: .long x :: st)) := by
  subst hp1
  by_cases q : ¬ y < x
  · exact (G1 q).stp fun _ h => XT.lcmp X.here hx rfl hd0 rfl (XS.ifYes X.here hx rfl rfl hd rfl (XT.ll_le_t q) ho hT h)
  · subst hF
    exact (G2 (Classical.not_not.mp q)).stp fun _ h => XT.lcmp X.here hx rfl hd0 rfl (XS.ifNo X.here hx rfl hd rfl (XT.ll_le_f (Classical.not_not.mp q)) h)
theorem g_acmp_eq (X : Stand p l e R s m args below meth c T locs cells slots) (hx : p.tables.exec = Jvm.exec) {x y : Value} (hx' : x.isRef = true) (hy' : y.isRef = true) {o : Int} (hd : decode c.code pc = .ok (.if_acmp .eq o, 3)) (pcT pcF : Nat) (ho : 0 ≤ (pc : Int) + o) (hT : ((pc : Int) + o).toNat = pcT) (hF : pc + 3 = pcF) (G1 : x = y → Go p e below P T (mkF m pcT Ls st)) (G2 : ¬ x = y → Go p e below P T (mkF m pcF Ls st)) : Go p e below P T (mkF m pc Ls (y :: x :: st)) := by
  by_cases q : x = y
  · exact (G1 q).stp fun _ h => XT.acmpYes X.here hx rfl rfl hd rfl hx' hy' (XT.aa_eq_t q) ho hT h
  · subst hF
    exact (G2 q).stp fun _ h => XT.acmpNo X.here hx rfl hd rfl hx' hy' (XT.aa_eq_f q) h
theorem g_acmp_ne (X : Stand p l e R s m args below meth c T locs cells slots) (hx : p.tables.exec = Jvm.exec) {x y : Value} (hx' : x.isRef = true) (hy' : y.isRef = true) {o : Int} (hd : decode c.code pc = .ok (.if_acmp .ne o, 3)) (pcT pcF : Nat) (ho : 0 ≤ (pc : Int) + o) (hT : ((pc : Int) + o).toNat = pcT) (hF : pc + 3 = pcF) (G1 : ¬ x = y → Go p e below P T (mkF m pcT Ls st)) (G2 : x = y → Go p e below P T (mkF m pcF Ls st)) : Go p e below P T (mkF m pc Ls (y :: x :: st)) := by
  by_cases q : ¬ x = y
  · exact (G1 q).stp fun _ h => XT.acmpYes X.here hx rfl rfl hd rfl hx' hy' (XT.aa_ne_t q) ho hT h
  · subst hF
    exact (G2 (Classical.not_not.mp q)).stp fun _ h => XT.acmpNo X.here hx rfl hd rfl hx' hy' (XT.aa_ne_f (Classical.not_not.mp q)) h
theorem g_ifnull (X : Stand p l e R s m args below meth c T locs cells slots) (hx : p.tables.exec = Jvm.exec) {x : Value} (hx' : x.isRef = true) {o : Int} (hd : decode c.code pc = .ok (.ifnull o, 3)) (pcT pcF : Nat) (ho : 0 ≤ (pc : Int) + o) (hT : ((pc : Int) + o).toNat = pcT) (hF : pc + 3 = pcF) (G1 : x = .null → Go p e below P T (mkF m pcT Ls st)) (G2 : ¬ x = .null → Go p e below P T (mkF m pcF Ls st)) : Go p e below P T (mkF m pc Ls (x :: st)) := by
  by_cases q : x = .null
  · exact (G1 q).stp fun _ h => XT.nullYes X.here hx rfl rfl hd rfl q ho hT h
  · subst hF
    exact (G2 q).stp fun _ h => XT.nullNo X.here hx rfl hd rfl hx' q h
theorem g_ifnonnull (X : Stand p l e R s m args below meth c T locs cells slots) (hx : p.tables.exec = Jvm.exec) {x : Value} (hx' : x.isRef = true) {o : Int} (hd : decode c.code pc = .ok (.ifnonnull o, 3)) (pcT pcF : Nat) (ho : 0 ≤ (pc : Int) + o) (hT : ((pc : Int) + o).toNat = pcT) (hF : pc + 3 = pcF) (G1 : ¬ x = .null → Go p e below P T (mkF m pcT Ls st)) (G2 : x = .null → Go p e below P T (mkF m pcF Ls st)) : Go p e below P T (mkF m pc Ls (x :: st)) := by
  by_cases q : x = .null
  · subst hF
    exact (G2 q).stp fun _ h => XT.nonnullNo X.here hx rfl hd rfl q h
  · exact (G1 q).stp fun _ h => XT.nonnullYes X.here hx rfl rfl hd rfl hx' q ho hT h
theorem g_ldc (X : Stand p l e R s m args below meth c T locs cells slots) (hx : p.tables.exec = Jvm.exec) (hZ : Z.Warmed39 s.vm) {own : String} (hown : s.vm.findClass own = some m.cls) {i : Nat} {v : Int32} (w : (Cond.constant own i v).before a0 Z = true) (hd : decode c.code pc = .ok (.ldc i, 2)) (pc' : Nat) (hp : pc + 2 = pc') (G : Go p e below P T (mkF m pc' Ls (.int v :: st))) : Go p e below P T (mkF m pc Ls st) := by
  subst hp
  exact G.stp fun _ h => Jvm.Stand.ldcI X hx hown (mv hZ w) rfl hd h
theorem g_ldc_w (X : Stand p l e R s m args below meth c T locs cells slots) (hx : p.tables.exec = Jvm.exec) (hZ : Z.Warmed39 s.vm) {own : String} (hown : s.vm.findClass own = some m.cls) {i : Nat} {v : Int32} (w : (Cond.constant own i v).before a0 Z = true) (hd : decode c.code pc = .ok (.ldc_w i, 3)) (pc' : Nat) (hp : pc + 3 = pc') (G : Go p e below P T (mkF m pc' Ls (.int v :: st))) : Go p e below P T (mkF m pc Ls st) := by
  subst hp
  exact G.stp fun _ h => Jvm.Stand.ldcWI X hx hown (mv hZ w) rfl hd h
theorem g_ldc2_w (X : Stand p l e R s m args below meth c T locs cells slots) (hx : p.tables.exec = Jvm.exec) (hZ : Z.Warmed39 s.vm) {own : String} (hown : s.vm.findClass own = some m.cls) {i : Nat} {v : Int64} (w : (Cond.constantLong own i v).before a0 Z = true) (hd : decode c.code pc = .ok (.ldc2_w i, 3)) (pc' : Nat) (hp : pc + 3 = pc') (G : Go p e below P T (mkF m pc' Ls (.long v :: st))) : Go p e below P T (mkF m pc Ls st) := by
  subst hp
  exact G.stp fun _ h => Jvm.Stand.ldc2J X hx hown (mv hZ w) rfl hd h
theorem g_getfield (X : Stand p l e R s m args below meth c T locs cells slots) (hx : p.tables.exec = Jvm.exec) (hZ : Z.Warmed39 s.vm) {own : String} (hown : s.vm.findClass own = some m.cls) {R0 O n d host : String} {i : Nat} (w : (Cond.fieldLink own i R0 n d).before a0 Z = true ∨ (Cond.fieldLinkNest own i R0 n d host).before a0 Z = true) (via : Via Z R0 O n d) {a : Addr} {v : Value} (F : Fld Z h a O n d v) (eT : T.heap = h) (hd : decode c.code pc = .ok (.getfield i, 3)) (pc' : Nat) (hp : pc + 3 = pc') (G : ∀ T', Stand p l e R s m args below meth c T' locs cells slots → T'.heap = h → Go p e below P T' (mkF m pc' Ls (v :: st))) : Go p e below P T (mkF m pc Ls (.ref a :: st)) := by
  subst hp
  obtain ⟨T', X', e', k⟩ := getF X hx hZ hown w via eT F (g := mkF m pc Ls (.ref a :: st)) rfl rfl hd
  exact (G T' X' e').stp k
theorem g_getstatic (X : Stand p l e R s m args below meth c T locs cells slots) (hx : p.tables.exec = Jvm.exec) (hZ : Z.Warmed39 s.vm) {own : String} (hown : s.vm.findClass own = some m.cls) {R0 O n d host : String} {i : Nat} (w : (Cond.fieldLink own i R0 n d).before a0 Z = true ∨ (Cond.fieldLinkNest own i R0 n d host).before a0 Z = true) (via : Via Z R0 O n d) {v : Value} (F : Sta Z h O n d v) (eT : T.heap = h) (hd : decode c.code pc = .ok (.getstatic i, 3)) (pc' : Nat) (hp : pc + 3 = pc') (G : ∀ T', Stand p l e R s m args below meth c T' locs cells slots → T'.heap = h → Go p e below P T' (mkF m pc' Ls (v :: st))) : Go p e below P T (mkF m pc Ls st) := by
  subst hp
  obtain ⟨T', X', e', k⟩ := getS2 X hx hZ hown w via eT F (g := mkF m pc Ls st) rfl hd
  exact (G T' X' e').stp k
theorem g_putfield (X : Stand p l e R s m args below meth c T locs cells slots) (hx : p.tables.exec = Jvm.exec) (hZ : Z.Warmed39 s.vm) {own : String} (hown : s.vm.findClass own = some m.cls) {R0 O n d host C : String} {i kk : Nat} {ty : FieldType} (w : (Cond.fieldLink own i R0 n d).before a0 Z = true ∨ (Cond.fieldLinkNest own i R0 n d host).before a0 Z = true) (via : Via Z R0 O n d) (eT : T.heap = h) {a : Addr} {v old : Value} (F : Fld Z h a O n d old) (E : Exa Z h a C) (L : (Cond.lays C O n d).before a0 Z = true ∨ ((Cond.laysFinal C O n d).before a0 Z = true ∧ own = O ∧ meth.name = "<init>")) (wi : (Cond.instantiable C kk).before a0 Z = true) (hty : parseFieldDescriptor d = some ty) (hn : narrow ty v = v) (hf : fits ty v = true) (hd : decode c.code pc = .ok (.putfield i, 3)) (pc' : Nat) (hp : pc + 3 = pc') (G : ∀ T' h', Stand p l e R s m args below meth c T' (locs ++ [⟨a, Jvm.RoadKit.slotOf Z O n d⟩]) cells slots → T'.heap = h' → Wr h h' a (Jvm.RoadKit.slotOf Z O n d) v → Go p e below P T' (mkF m pc' Ls st)) : Go p e below P T (mkF m pc Ls (v :: .ref a :: st)) := by
  subst hp
  obtain ⟨T', h', X', e', W, k⟩ := putF X hx hZ hown w via eT F E L wi hty hn hf (g := mkF m pc Ls (v :: .ref a :: st)) rfl rfl hd
  exact (G T' h' X' e' W).stp k
theorem g_initO (X : Stand p l e R s m args below meth c T locs cells slots) (hx : p.tables.exec = Jvm.exec) (hZ : Z.Warmed39 s.vm) {own : String} (hown : s.vm.findClass own = some m.cls) {i : Nat} (w1 : (Cond.methodLink own i Lib.objectInit).before a0 Z = true) (w2 : (Cond.instanceMethod Lib.objectInit).before a0 Z = true) (w3 : (Cond.code Lib.objectInit ⟨#[0xb1]⟩ 1 none).before a0 Z = true) (eT : T.heap = h) (hsz : Ls.size = c.maxLocals) {a : Addr} (hd : decode c.code pc = .ok (.invokespecial i, 3)) (hf : 1 ≤ R.frames) (W : Nat) (hW : (st.map fun v => v.category).sum ≤ W) (hl : W + 12 ≤ R.locals) (pc' : Nat) (hp : pc + 3 = pc') (G : ∀ T', Stand p l e R s m args below meth c T' locs cells slots → T'.heap = h → Go p e below P T' (mkF m pc' Ls st)) : Go p e below P T (mkF m pc Ls (.ref a :: st)) := by
  subst hp
  obtain ⟨T', X', e', k⟩ := initO X hx hZ hown w1 w2 w3 eT (g := mkF m pc Ls (.ref a :: st)) rfl hsz rfl hd hf (W := W) (by show 2 * 0 + _ ≤ W; omega) hl
  exact (G T' X' e').stp k
theorem g_new (X : Stand p l e R s m args below meth c T locs cells slots) (hx : p.tables.exec = Jvm.exec) (hZ : Z.Warmed39 s.vm) {own : String} (hown : s.vm.findClass own = some m.cls) {C : String} {i n : Nat} (w : (Cond.classLink own i C).before a0 Z = true) (wi : (Cond.instantiable C n).before a0 Z = true) (wz : (Cond.initialized C).before a0 Z = true) (eT : T.heap = h) (hd : decode c.code pc = .ok (.new i, 3)) (hc : cells + 1 ≤ R.cells) (hl : slots + n ≤ R.slots) (pc' : Nat) (hp : pc + 3 = pc') (G : ∀ T' h' b, Stand p l e R s m args below meth c T' locs (cells + 1) (slots + n) → T'.heap = h' → b = h.size → Ext h h' → Exa Z h' b C → (∀ {O nm d : String} {ty : FieldType}, Laid Z a0 C O nm d → parseFieldDescriptor d = some ty → Fld Z h' b O nm d (defaultValue ty)) → Go p e below P T' (mkF m pc' Ls (.ref b :: st))) : Go p e below P T (mkF m pc Ls st) := by
  subst hp
  obtain ⟨T', h', X', e', E, A, D, -, k⟩ := newO X hx hZ hown w wi wz eT (g := mkF m pc Ls st) rfl hd hc hl
  exact (G T' h' h.size X' e' rfl E A D).stp k
/-- the array at a: of that kind, holding just these values -/
def AV (Z : State) (h : Heap) (a : Addr) (ty : FieldType) (vs : List Value) : Prop := ∃ c : Cell, Arr Z h a c ty ∧ c.slots = vs.toArray ∧ vs.length < 2 ^ 31
theorem AV.lt {a : Addr} {ty : FieldType} {vs : List Value} (F : AV Z h a ty vs) : a < h.size := by obtain ⟨c, A, -⟩ := F; exact A.lt
theorem AV.ext {h' : Heap} {a : Addr} {ty : FieldType} {vs : List Value} (F : AV Z h a ty vs) (E : Ext h h') : AV Z h' a ty vs := by obtain ⟨c, A, r⟩ := F; exact ⟨c, A.ext E, r⟩
theorem AV.other {h' : Heap} {a b : Addr} {sl : Nat} {v : Value} {ty : FieldType} {vs : List Value} (F : AV Z h b ty vs) (W : Wr h h' a sl v) (q : b ≠ a) : AV Z h' b ty vs := by obtain ⟨c, A, r⟩ := F; exact ⟨c, A.other W q, r⟩
theorem AV.keep {h' : Heap} {a : Addr} {ws : List Addr} {ty : FieldType} {vs : List Value} (F : AV Z h a ty vs) (K : Keep h h' ws) (q : a ∉ ws) : AV Z h' a ty vs := by obtain ⟨c, A, r⟩ := F; exact ⟨c, ⟨K.2.1 a c A.1 q, A.2⟩, r⟩
theorem AV.same {h' : Heap} {a : Addr} {sl : Nat} {v : Value} {ty : FieldType} {vs : List Value} (F : AV Z h a ty vs) (W : Wr h h' a sl v) : AV Z h' a ty (vs.set sl v) := by
  obtain ⟨c, A, r1, r2⟩ := F
  exact ⟨_, A.same W, by simp [Cell.setSlot, r1], by simpa using r2⟩
theorem AV.new {a : Addr} {k : ClassId} {ty : FieldType} {n : Int32} (A : Arr Z h a (newA k ty n) ty) (vs : List Value) (q : vs = List.replicate n.toNatClampNeg (defaultValue ty)) (q2 : n.toNatClampNeg < 2 ^ 31) : AV Z h a ty vs := ⟨_, A, by subst q; simp [newA], by subst q; simpa using q2⟩
theorem AV.nostat {a : Addr} {ty : FieldType} {vs : List Value} (F : AV Z h a ty vs) : ∀ cell : Cell, h[a]? = some cell → cell.vm.isStatics = false := by obtain ⟨c, A, -⟩ := F; exact A.nostat
theorem in_of {vs : List Value} {c : Cell} {j : Int32} {v : Value} (r : c.slots = vs.toArray) (hj : ¬ j < 0) (hv : vs[j.toNatClampNeg]? = some v) : ¬ (j < 0 ∨ c.slots.size ≤ j.toNatClampNeg) := by
  have q := (List.getElem?_eq_some_iff.mp hv).1
  intro u
  rcases u with u | u
  · exact hj u
  · rw [r] at u; simp at u; omega
theorem g_iaload (X : Stand p l e R s m args below meth c T locs cells slots) (hx : p.tables.exec = Jvm.exec) (hZ : Z.Warmed39 s.vm) (eT : T.heap = h) {a : Addr} {vs : List Value} {j : Int32} {v : Value} (A : AV Z h a .int vs) (hj : ¬ j < 0) (hv : vs[j.toNatClampNeg]? = some v) (hd : decode c.code pc = .ok (.iaload, 1)) (pc' : Nat) (hp : pc + 1 = pc') (G : Go p e below P T (mkF m pc' Ls (v :: st))) : Go p e below P T (mkF m pc Ls (.int j :: .ref a :: st)) := by
  subst hp
  obtain ⟨cl, A, r1, r2⟩ := A
  exact G.stp fun _ k => X.iaload hx (j := j) (v := v) (by rw [eT]; exact A.1) (State.isArrayOf_alike hZ.alike A.2.1) A.2.2 (in_of r1 hj hv) (by rw [r1]; simpa using hv) (g := mkF m pc Ls (.int j :: .ref a :: st)) rfl rfl hd _ k
theorem g_caload (X : Stand p l e R s m args below meth c T locs cells slots) (hx : p.tables.exec = Jvm.exec) (hZ : Z.Warmed39 s.vm) (eT : T.heap = h) {a : Addr} {vs : List Value} {j : Int32} {v : Value} (A : AV Z h a .char vs) (hj : ¬ j < 0) (hv : vs[j.toNatClampNeg]? = some v) (hd : decode c.code pc = .ok (.caload, 1)) (pc' : Nat) (hp : pc + 1 = pc') (G : Go p e below P T (mkF m pc' Ls (v :: st))) : Go p e below P T (mkF m pc Ls (.int j :: .ref a :: st)) := by
  subst hp
  obtain ⟨cl, A, r1, r2⟩ := A
  exact G.stp fun _ k => X.caload hx (j := j) (v := v) (by rw [eT]; exact A.1) (State.isArrayOf_alike hZ.alike A.2.1) A.2.2 (in_of r1 hj hv) (by rw [r1]; simpa using hv) (g := mkF m pc Ls (.int j :: .ref a :: st)) rfl rfl hd _ k
theorem g_baload (X : Stand p l e R s m args below meth c T locs cells slots) (hx : p.tables.exec = Jvm.exec) (hZ : Z.Warmed39 s.vm) (eT : T.heap = h) {a : Addr} {vs : List Value} {j : Int32} {v : Value} (A : AV Z h a .byte vs) (hj : ¬ j < 0) (hv : vs[j.toNatClampNeg]? = some v) (hd : decode c.code pc = .ok (.baload, 1)) (pc' : Nat) (hp : pc + 1 = pc') (G : Go p e below P T (mkF m pc' Ls (v :: st))) : Go p e below P T (mkF m pc Ls (.int j :: .ref a :: st)) := by
  subst hp
  obtain ⟨cl, A, r1, r2⟩ := A
  exact G.stp fun _ k => X.baloadBytes hx (j := j) (v := v) (by rw [eT]; exact A.1) (State.isArrayOf_alike hZ.alike A.2.1) A.2.2 (in_of r1 hj hv) (by rw [r1]; simpa using hv) (g := mkF m pc Ls (.int j :: .ref a :: st)) rfl rfl hd _ k
theorem g_aaload (X : Stand p l e R s m args below meth c T locs cells slots) (hx : p.tables.exec = Jvm.exec) (hZ : Z.Warmed39 s.vm) (eT : T.heap = h) {a : Addr} {ty : FieldType} {vs : List Value} {j : Int32} {v : Value} (A : AV Z h a ty vs) (hty : ty.isReference = true) (hj : ¬ j < 0) (hv : vs[j.toNatClampNeg]? = some v) (hd : decode c.code pc = .ok (.aaload, 1)) (pc' : Nat) (hp : pc + 1 = pc') (G : Go p e below P T (mkF m pc' Ls (v :: st))) : Go p e below P T (mkF m pc Ls (.int j :: .ref a :: st)) := by
  subst hp
  obtain ⟨cl, A, r1, r2⟩ := A
  exact G.stp fun _ k => X.aaload hx (j := j) (v := v) (by rw [eT]; exact A.1) (State.isArrayOf_alike hZ.alike A.2.1) hty A.2.2 (in_of r1 hj hv) (by rw [r1]; simpa using hv) (g := mkF m pc Ls (.int j :: .ref a :: st)) rfl rfl hd _ k
theorem g_arraylength (X : Stand p l e R s m args below meth c T locs cells slots) (hx : p.tables.exec = Jvm.exec) (hZ : Z.Warmed39 s.vm) (eT : T.heap = h) {a : Addr} {ty : FieldType} {vs : List Value} (A : AV Z h a ty vs) (n : Int32) (hn : Int32.ofNat vs.length = n) (hd : decode c.code pc = .ok (.arraylength, 1)) (pc' : Nat) (hp : pc + 1 = pc') (G : Go p e below P T (mkF m pc' Ls (.int n :: st))) : Go p e below P T (mkF m pc Ls (.ref a :: st)) := by
  subst hp
  obtain ⟨cl, A, r1, r2⟩ := A
  have q : cl.slots.size.toInt32 = n := by rw [r1, ← hn]; simp
  rw [← q] at G
  exact G.stp fun _ k => X.arraylength hx (cell := cl) (by rw [eT]; exact A.1) (State.isArrayOf_alike hZ.alike A.2.1) (g := mkF m pc Ls (.ref a :: st)) rfl rfl hd _ k
theorem g_iastore (X : Stand p l e R s m args below meth c T locs cells slots) (hx : p.tables.exec = Jvm.exec) (hZ : Z.Warmed39 s.vm) (eT : T.heap = h) {a : Addr} {vs : List Value} {j x : Int32} (A : AV Z h a .int vs) (hj : ¬ j < 0) (hi : j.toNatClampNeg < vs.length) (hd : decode c.code pc = .ok (.iastore, 1)) (pc' : Nat) (hp : pc + 1 = pc') (G : ∀ T' h', Stand p l e R s m args below meth c T' (locs ++ [⟨a, j.toNatClampNeg⟩]) cells slots → T'.heap = h' → Wr h h' a j.toNatClampNeg (.int x) → AV Z h' a .int (vs.set j.toNatClampNeg (.int x)) → Go p e below P T' (mkF m pc' Ls st)) : Go p e below P T (mkF m pc Ls (.int x :: .int j :: .ref a :: st)) := by
  subst hp
  have A0 := A
  obtain ⟨cl, A, r1, r2⟩ := A
  obtain ⟨T', h', X', e', W, k⟩ := stI X hx hZ eT A (j := j) (x := x) (in_of r1 hj (List.getElem?_eq_getElem hi)) (g := mkF m pc Ls (.int x :: .int j :: .ref a :: st)) rfl rfl hd
  exact (G T' h' X' e' W (A0.same W)).stp k
theorem g_castore (X : Stand p l e R s m args below meth c T locs cells slots) (hx : p.tables.exec = Jvm.exec) (hZ : Z.Warmed39 s.vm) (eT : T.heap = h) {a : Addr} {vs : List Value} {j x : Int32} (A : AV Z h a .char vs) (hj : ¬ j < 0) (hi : j.toNatClampNeg < vs.length) (hd : decode c.code pc = .ok (.castore, 1)) (pc' : Nat) (hp : pc + 1 = pc') (G : ∀ T' h', Stand p l e R s m args below meth c T' (locs ++ [⟨a, j.toNatClampNeg⟩]) cells slots → T'.heap = h' → Wr h h' a j.toNatClampNeg (.int (nar .char x)) → AV Z h' a .char (vs.set j.toNatClampNeg (.int (nar .char x))) → Go p e below P T' (mkF m pc' Ls st)) : Go p e below P T (mkF m pc Ls (.int x :: .int j :: .ref a :: st)) := by
  subst hp
  have A0 := A
  obtain ⟨cl, A, r1, r2⟩ := A
  obtain ⟨T', h', X', e', W, k⟩ := stC X hx hZ eT A (j := j) (x := x) (in_of r1 hj (List.getElem?_eq_getElem hi)) (g := mkF m pc Ls (.int x :: .int j :: .ref a :: st)) rfl rfl hd
  exact (G T' h' X' e' W (A0.same W)).stp k
theorem g_bastore (X : Stand p l e R s m args below meth c T locs cells slots) (hx : p.tables.exec = Jvm.exec) (hZ : Z.Warmed39 s.vm) (eT : T.heap = h) {a : Addr} {vs : List Value} {j x : Int32} (A : AV Z h a .byte vs) (hj : ¬ j < 0) (hi : j.toNatClampNeg < vs.length) (hd : decode c.code pc = .ok (.bastore, 1)) (pc' : Nat) (hp : pc + 1 = pc') (G : ∀ T' h', Stand p l e R s m args below meth c T' (locs ++ [⟨a, j.toNatClampNeg⟩]) cells slots → T'.heap = h' → Wr h h' a j.toNatClampNeg (.int (nar .byte x)) → AV Z h' a .byte (vs.set j.toNatClampNeg (.int (nar .byte x))) → Go p e below P T' (mkF m pc' Ls st)) : Go p e below P T (mkF m pc Ls (.int x :: .int j :: .ref a :: st)) := by
  subst hp
  have A0 := A
  obtain ⟨cl, A, r1, r2⟩ := A
  obtain ⟨T', h', X', e', W, k⟩ := stB X hx hZ eT A (j := j) (x := x) (in_of r1 hj (List.getElem?_eq_getElem hi)) (g := mkF m pc Ls (.int x :: .int j :: .ref a :: st)) rfl rfl hd
  exact (G T' h' X' e' W (A0.same W)).stp k
theorem g_newarray (X : Stand p l e R s m args below meth c T locs cells slots) (hx : p.tables.exec = Jvm.exec) (hZ : Z.Warmed39 s.vm) {aty : ArrayType} (w : (Cond.arrayClass (newarray.typeOf aty)).before a0 Z = true) (eT : T.heap = h) {n : Int32} (hn : ¬ n < 0) (cap : Nat) (hcap : n.toNatClampNeg ≤ cap) (hb : cap * 8 ≤ 536870912) (hc : cells + 1 ≤ R.cells) (hl : slots + cap ≤ R.slots) (vs : List Value) (hvs : vs = List.replicate n.toNatClampNeg (defaultValue (newarray.typeOf aty))) (hd : decode c.code pc = .ok (.newarray aty, 2)) (pc' : Nat) (hp : pc + 2 = pc') (G : ∀ T' h' b, Stand p l e R s m args below meth c T' locs (cells + 1) (slots + cap) → T'.heap = h' → b = h.size → Ext h h' → AV Z h' b (newarray.typeOf aty) vs → Go p e below P T' (mkF m pc' Ls (.ref b :: st))) : Go p e below P T (mkF m pc Ls (.int n :: st)) := by
  subst hp
  obtain ⟨T', h', cA, X', e', E, A, k⟩ := newP X hx hZ w eT (g := mkF m pc Ls (.int n :: st)) rfl hd rfl hn hcap hb hc hl
  exact (G T' h' h.size X' e' rfl E (AV.new A vs hvs (by omega))).stp k
theorem g_checkcast (X : Stand p l e R s m args below meth c T locs cells slots) (hx : p.tables.exec = Jvm.exec) (hZ : Z.Warmed39 s.vm) {own : String} (hown : s.vm.findClass own = some m.cls) {K : String} {i : Nat} (w : (Cond.classLink own i K).before a0 Z = true) {a : Addr} (F : Ins Z h a K true) (eT : T.heap = h) (hd : decode c.code pc = .ok (.checkcast i, 3)) (pc' : Nat) (hp : pc + 3 = pc') (G : ∀ T', Stand p l e R s m args below meth c T' locs cells slots → T'.heap = h → Go p e below P T' (mkF m pc' Ls (.ref a :: st))) : Go p e below P T (mkF m pc Ls (.ref a :: st)) := by
  subst hp
  obtain ⟨T', X', e', k⟩ := castY X hx hZ hown w eT F (g := mkF m pc Ls (.ref a :: st)) rfl rfl hd
  exact (G T' X' e').stp k
theorem g_instYes (X : Stand p l e R s m args below meth c T locs cells slots) (hx : p.tables.exec = Jvm.exec) (hZ : Z.Warmed39 s.vm) {own : String} (hown : s.vm.findClass own = some m.cls) {K : String} {i : Nat} (w : (Cond.classLink own i K).before a0 Z = true) {a : Addr} (F : Ins Z h a K true) (eT : T.heap = h) (hd : decode c.code pc = .ok (.instanceof i, 3)) (pc' : Nat) (hp : pc + 3 = pc') (G : ∀ T', Stand p l e R s m args below meth c T' locs cells slots → T'.heap = h → Go p e below P T' (mkF m pc' Ls (.int 1 :: st))) : Go p e below P T (mkF m pc Ls (.ref a :: st)) := by
  subst hp
  obtain ⟨T', X', e', k⟩ := instY X hx hZ hown w eT F (g := mkF m pc Ls (.ref a :: st)) rfl rfl hd
  exact (G T' X' e').stp k
theorem g_instNo (X : Stand p l e R s m args below meth c T locs cells slots) (hx : p.tables.exec = Jvm.exec) (hZ : Z.Warmed39 s.vm) {own : String} (hown : s.vm.findClass own = some m.cls) {K C : String} {i : Nat} (w : (Cond.classLink own i K).before a0 Z = true) {a : Addr} (E : Exa Z h a C) (F : ∃ c t, Z.vm.findClass C = some c ∧ Z.vm.findClass K = some t ∧ Z.vm.assignable c t = false) (eT : T.heap = h) (hd : decode c.code pc = .ok (.instanceof i, 3)) (pc' : Nat) (hp : pc + 3 = pc') (G : ∀ T', Stand p l e R s m args below meth c T' locs cells slots → T'.heap = h → Go p e below P T' (mkF m pc' Ls (.int 0 :: st))) : Go p e below P T (mkF m pc Ls (.ref a :: st)) := by
  subst hp
  obtain ⟨T', X', e', k⟩ := instNo X hx hZ hown w eT E F (g := mkF m pc Ls (.ref a :: st)) rfl rfl hd
  exact (G T' X' e').stp k
theorem g_instNull (X : Stand p l e R s m args below meth c T locs cells slots) (hx : p.tables.exec = Jvm.exec) {i : Nat} (hd : decode c.code pc = .ok (.instanceof i, 3)) (pc' : Nat) (hp : pc + 3 = pc') (G : Go p e below P T (mkF m pc' Ls (.int 0 :: st))) : Go p e below P T (mkF m pc Ls (.null :: st)) := by
  subst hp
  exact G.stp fun _ h => X.instanceofNull hx (g := mkF m pc Ls (.null :: st)) rfl rfl hd _ h
theorem g_aastore (X : Stand p l e R s m args below meth c T locs cells slots) (hx : p.tables.exec = Jvm.exec) (hZ : Z.Warmed39 s.vm) (eT : T.heap = h) {a : Addr} {ty : FieldType} {vs : List Value} {j : Int32} {x : Value} (A : AV Z h a ty vs) (hty : ty.isReference = true) (F : Sto Z h a x) (hj : ¬ j < 0) (hi : j.toNatClampNeg < vs.length) (hd : decode c.code pc = .ok (.aastore, 1)) (pc' : Nat) (hp : pc + 1 = pc') (G : ∀ T' h', Stand p l e R s m args below meth c T' (locs ++ [⟨a, j.toNatClampNeg⟩]) cells slots → T'.heap = h' → Wr h h' a j.toNatClampNeg x → AV Z h' a ty (vs.set j.toNatClampNeg x) → Go p e below P T' (mkF m pc' Ls st)) : Go p e below P T (mkF m pc Ls (x :: .int j :: .ref a :: st)) := by
  subst hp
  have A0 := A
  obtain ⟨cl, A, r1, r2⟩ := A
  obtain ⟨T', h', X', e', W, k⟩ := stR X hx hZ eT A (j := j) (v := x) (in_of r1 hj (List.getElem?_eq_getElem hi)) hty F (g := mkF m pc Ls (x :: .int j :: .ref a :: st)) rfl rfl hd
  exact (G T' h' X' e' W (A0.same W)).stp k
/-- what may lie in the array at a: objects of C -/
def Ov (Z : State) (h : Heap) (a : Addr) (C : String) : Prop := ∃ c : Cell, h[a]? = some c ∧ Ovr Z c.cls C
theorem Ov.keep {h' : Heap} {a : Addr} {ws : List Addr} {C : String} (F : Ov Z h a C) (K : Keep h h' ws) : Ov Z h' a C := by obtain ⟨c, h1, o⟩ := F; obtain ⟨c', h2, e, -⟩ := K.2.2 a c h1; exact ⟨c', h2, by rw [e]; exact o⟩
theorem Ov.ext {h' : Heap} {a : Addr} {C : String} (F : Ov Z h a C) (E : Ext h h') : Ov Z h' a C := by obtain ⟨c, h1, o⟩ := F; exact ⟨c, E.2 _ _ h1, o⟩
theorem Ov.wr {h' : Heap} {a b : Addr} {sl : Nat} {v : Value} {C : String} (F : Ov Z h a C) (W : Wr h h' b sl v) : Ov Z h' a C := by obtain ⟨c, h1, o⟩ := F; obtain ⟨c', h2, e, -⟩ := wr_at W h1; exact ⟨c', h2, by rw [e]; exact o⟩
theorem Ov.lt {a : Addr} {C : String} (F : Ov Z h a C) : a < h.size := by obtain ⟨c, h1, -⟩ := F; exact (Array.getElem?_eq_some_iff.mp h1).1
theorem Ov.sto {a y : Addr} {C : String} {ty : FieldType} {vs : List Value} (F : Ov Z h a C) (A : AV Z h a ty vs) (I : Ins Z h y C true) : Sto Z h a (.ref y) := by
  obtain ⟨c, h1, o⟩ := F
  obtain ⟨c', A', -⟩ := A
  cases h1.symm.trans A'.1
  exact Sto.of A' o I
theorem g_anewarray (X : Stand p l e R s m args below meth c T locs cells slots) (hx : p.tables.exec = Jvm.exec) (hZ : Z.Warmed39 s.vm) {own : String} (hown : s.vm.findClass own = some m.cls) {C : String} {i : Nat} (w1 : (Cond.classLink own i C).before a0 Z = true) (w2 : (Cond.arrayOver (.object C)).before a0 Z = true) (eT : T.heap = h) {n : Int32} (hn : ¬ n < 0) (cap : Nat) (hcap : n.toNatClampNeg ≤ cap) (hb : cap * 8 ≤ 536870912) (hc : cells + 1 ≤ R.cells) (hl : slots + cap ≤ R.slots) (vs : List Value) (hvs : vs = List.replicate n.toNatClampNeg .null) (hd : decode c.code pc = .ok (.anewarray i, 3)) (pc' : Nat) (hp : pc + 3 = pc') (G : ∀ T' h' b, Stand p l e R s m args below meth c T' locs (cells + 1) (slots + cap) → T'.heap = h' → b = h.size → Ext h h' → AV Z h' b (.object C) vs → Ov Z h' b C → Go p e below P T' (mkF m pc' Ls (.ref b :: st))) : Go p e below P T (mkF m pc Ls (.int n :: st)) := by
  subst hp
  obtain ⟨T', h', cA, X', e', E, A, O, k⟩ := newR X hx hZ hown w1 w2 eT (g := mkF m pc Ls (.int n :: st)) rfl hd rfl hn hcap hb hc hl
  exact (G T' h' h.size X' e' rfl E (AV.new A vs hvs (by omega)) ⟨_, A.1, O⟩).stp k
theorem g_reti (X : Stand p l e R s m args below meth c T locs cells slots) (hx : p.tables.exec = Jvm.exec) {z : Int32} (hret : meth.sig.returnType = some .int) (hlk : meth.locks = false) {k n : Nat} {Q : Option Value → Heap → List Loc → Prop} (hk : cells ≤ k) (hn : slots ≤ n) (hd : decode c.code pc = .ok (.ireturn, 1)) (hq : Q (some (.int z)) T.heap locs) : Go p e below (RP s k n Q) T (mkF m pc Ls (.int z :: st)) := by
  obtain ⟨fs, hr, hrun, hended, hW, hsame⟩ := X.leave (v := (some (.int z))) (fun h => by first | rfl | (rw [hret] at h; cases h)) hlk
  exact ⟨_, _, retOut X hx hret rfl (Or.inl ⟨rfl, Or.inl rfl, z, rfl⟩) hd hr, hrun, hended, _, _, rfl, hq, ⟨_, rfl⟩, hW, hsame.mono hk hn⟩
theorem g_retz (X : Stand p l e R s m args below meth c T locs cells slots) (hx : p.tables.exec = Jvm.exec) {z : Int32} (hret : meth.sig.returnType = some .boolean) (hlk : meth.locks = false) {k n : Nat} {Q : Option Value → Heap → List Loc → Prop} (hk : cells ≤ k) (hn : slots ≤ n) (hd : decode c.code pc = .ok (.ireturn, 1)) (hq : Q (some (.int (z &&& 1))) T.heap locs) : Go p e below (RP s k n Q) T (mkF m pc Ls (.int z :: st)) := by
  obtain ⟨fs, hr, hrun, hended, hW, hsame⟩ := X.leave (v := (some (.int (z &&& 1)))) (fun h => by first | rfl | (rw [hret] at h; cases h)) hlk
  exact ⟨_, _, retN X hx (t := .boolean) hret (by simp) hd hr, hrun, hended, _, _, rfl, hq, ⟨_, rfl⟩, hW, hsame.mono hk hn⟩
theorem g_retb (X : Stand p l e R s m args below meth c T locs cells slots) (hx : p.tables.exec = Jvm.exec) {z : Int32} (hret : meth.sig.returnType = some .byte) (hlk : meth.locks = false) {k n : Nat} {Q : Option Value → Heap → List Loc → Prop} (hk : cells ≤ k) (hn : slots ≤ n) (hd : decode c.code pc = .ok (.ireturn, 1)) (hq : Q (some (.int z.toInt8.toInt32)) T.heap locs) : Go p e below (RP s k n Q) T (mkF m pc Ls (.int z :: st)) := by
  obtain ⟨fs, hr, hrun, hended, hW, hsame⟩ := X.leave (v := (some (.int z.toInt8.toInt32))) (fun h => by first | rfl | (rw [hret] at h; cases h)) hlk
  exact ⟨_, _, retN X hx (t := .byte) hret (by simp) hd hr, hrun, hended, _, _, rfl, hq, ⟨_, rfl⟩, hW, hsame.mono hk hn⟩
theorem g_retl (X : Stand p l e R s m args below meth c T locs cells slots) (hx : p.tables.exec = Jvm.exec) {z : Int64} (hret : meth.sig.returnType = some .long) (hlk : meth.locks = false) {k n : Nat} {Q : Option Value → Heap → List Loc → Prop} (hk : cells ≤ k) (hn : slots ≤ n) (hd : decode c.code pc = .ok (.lreturn, 1)) (hq : Q (some (.long z)) T.heap locs) : Go p e below (RP s k n Q) T (mkF m pc Ls (.long z :: st)) := by
  obtain ⟨fs, hr, hrun, hended, hW, hsame⟩ := X.leave (v := (some (.long z))) (fun h => by first | rfl | (rw [hret] at h; cases h)) hlk
  exact ⟨_, _, retOut X hx hret rfl (Or.inr (Or.inl ⟨rfl, rfl, z, rfl⟩)) hd hr, hrun, hended, _, _, rfl, hq, ⟨_, rfl⟩, hW, hsame.mono hk hn⟩
theorem g_reta (X : Stand p l e R s m args below meth c T locs cells slots) (hx : p.tables.exec = Jvm.exec) {v : Value} {t : FieldType} (hv : v.isRef = true) (ht : t.isReference = true) (hret : meth.sig.returnType = some t) (hlk : meth.locks = false) {k n : Nat} {Q : Option Value → Heap → List Loc → Prop} (hk : cells ≤ k) (hn : slots ≤ n) (hd : decode c.code pc = .ok (.areturn, 1)) (hq : Q (some v) T.heap locs) : Go p e below (RP s k n Q) T (mkF m pc Ls (v :: st)) := by
  obtain ⟨fs, hr, hrun, hended, hW, hsame⟩ := X.leave (v := (some v)) (fun h => by first | rfl | (rw [hret] at h; cases h)) hlk
  exact ⟨_, _, retOut X hx hret (by cases t <;> first | (cases ht; done) | rfl) (Or.inr (Or.inr (Or.inr (Or.inr ⟨rfl, ht, hv⟩)))) hd hr, hrun, hended, _, _, rfl, hq, ⟨_, rfl⟩, hW, hsame.mono hk hn⟩
theorem g_retv (X : Stand p l e R s m args below meth c T locs cells slots) (hx : p.tables.exec = Jvm.exec) (hret : meth.sig.returnType = none) (hlk : meth.locks = false) {k n : Nat} {Q : Option Value → Heap → List Loc → Prop} (hk : cells ≤ k) (hn : slots ≤ n) (hd : decode c.code pc = .ok (.return_, 1)) (hq : Q none T.heap locs) : Go p e below (RP s k n Q) T (mkF m pc Ls []) := by
  obtain ⟨fs, hr, hrun, hended, hW, hsame⟩ := X.leave (v := none) (fun _ => rfl) hlk
  exact ⟨_, _, X.returnOut hx hret hd hr, hrun, hended, _, _, rfl, hq, ⟨_, rfl⟩, hW, hsame.mono hk hn⟩
/-- what a method does, called with these arguments over this heap -/
def Co (l : Launch) (y : MethodName) (bytes : ByteArray) (maxL : Nat) (ret : Option FieldType) (ws : List Jvm.Cond) (rm : Room) (Z : State) (h : Heap) (as : Array Value) (Q : Option Value → Heap → List Loc → Prop) : Prop := MetFree l y (head1 (Jvm.Cond.code y bytes maxL ret :: ws) rm) (fun a U => a = as ∧ Z.Warmed39 U.vm ∧ U.heap = h) (fun _ _ _ _ _ => True) (fun _ U o U' => ∃ v L, o = .returned v ∧ Q v U'.heap L ∧ FrameEnd U o U' L rm.cells rm.slots)
theorem Co.of {y : MethodName} {bytes : ByteArray} {maxL : Nat} {ret : Option FieldType} {ws : List Jvm.Cond} {rm : Room} {as : Array Value} {Q : Option Value → Heap → List Loc → Prop} (hpl : plainFor y = true) (body : ∀ (p : Program) (e : Env) (s : State) (m : MethodId) (below : List Frame) (meth : Method) (c : Code) (T : State), Stand p l e rm s m as below meth c T [] 0 0 → p.tables.exec = Jvm.exec → c.code = bytes → c.maxLocals = maxL → s.vm.findClass y.cls = some m.cls → meth.name = y.name → meth.sig.returnType = ret → meth.locks = false → Z.Warmed39 s.vm → T.heap = h → Go p e below (RP s rm.cells rm.slots Q) T (entryFrame m as maxL)) : Co l y bytes maxL ret ws rm Z h as Q := by
  refine MetFree.of_bodySF hpl hisR ?_
  intro p e s m args below meth c s₁ Bd hml hP hK
  obtain ⟨rfl, hZ, hh⟩ := hP
  exact body p e s m below meth c s₁ (Stand.of_body Bd) Bd.exec Bd.bytes hml (findClass_of_methodNamed Bd.named) (name_of_methodNamed Bd.named Bd.method).1 Bd.returns (BodyLoose.notSynchronized Bd) hZ (by rw [← hh, Bd.state]; rfl)
theorem g_callS (X : Stand p l e R s m args below meth c T locs cells slots) (hx : p.tables.exec = Jvm.exec) (hZ : Z.Warmed39 s.vm) {own : String} (hown : s.vm.findClass own = some m.cls) {i : Nat} {y : MethodName} {bytes : ByteArray} {maxL : Nat} {ret : Option FieldType} (w1 : (Cond.methodLink own i y).before a0 Z = true) (w2 : (Cond.static y).before a0 Z = true) (w3 : (Cond.initialized y.cls).before a0 Z = true) (w4 : (Cond.code y bytes maxL ret).before a0 Z = true)  (hy : y.cls ≠ "java/lang/invoke/MethodHandle" ∧ y.cls ≠ "java/lang/invoke/VarHandle") (eT : T.heap = h) {rm : Room} {Q : Option Value → Heap → List Loc → Prop} {St : List Value} (argsL rest : List Value) (hs : St = argsL.reverse ++ rest) (M : Co l y bytes maxL ret [] rm Z h argsL.toArray Q) (hlen : ∀ sig, parseMethodDescriptor y.desc = some sig → argsL.length = sig.parameters.length) (W : Nat) (hW : (rest.map fun v => v.category).sum ≤ W) (hf : rm.frames + 1 ≤ R.frames) (hl : W + (maxL + 11) + rm.locals ≤ R.locals) (hc : cells + rm.cells ≤ R.cells) (hsl : slots + rm.slots ≤ R.slots) (hsz : Ls.size = c.maxLocals) (hd : decode c.code pc = .ok (.invokestatic i, 3)) (pc' : Nat) (hp : pc + 3 = pc') (G : ∀ v T' L, Stand p l e R s m args below meth c T' (locs ++ L) (cells + rm.cells) (slots + rm.slots) → Q v T'.heap L → Go p e below P T' (mkF m pc' Ls (v.toList ++ rest))) : Go p e below P T (mkF m pc Ls St) := by
  subst hp
  obtain ⟨v, vm1, ⟨T', L', k', n'⟩, -, X', ⟨L, hQ, h1, h2, h3⟩, k⟩ := Jvm.LawKit.callS X hx (y := y) hown (mvT hZ w1) (mvT hZ w2) (mvT hZ w3) (mvT hZ w4) hy (backOf (W := W) M hZ w4 w3 hf hl) (g := mkF m pc Ls St) rfl hsz (argsL := argsL) (rest := rest) hlen hs (by show 2 * 0 + _ ≤ W; omega) hd (fun _ _ => ⟨rfl, eT, hc, hsl⟩)
  dsimp only [Pt.U, Pt.locs, Pt.cells, Pt.slots] at X' h1 h2 h3 k hQ
  subst h1 h2 h3
  exact (G v T' L X' hQ).stp k
theorem g_init (X : Stand p l e R s m args below meth c T locs cells slots) (hx : p.tables.exec = Jvm.exec) (hZ : Z.Warmed39 s.vm) {own : String} (hown : s.vm.findClass own = some m.cls) {i : Nat} {y : MethodName} {bytes : ByteArray} {maxL : Nat} (w1 : (Cond.methodLink own i y).before a0 Z = true) (hnm : y.name = "<init>") (w2 : (Cond.instanceMethod y).before a0 Z = true) (w3 : (Cond.initialized y.cls).before a0 Z = true) (w4 : (Cond.code y bytes maxL none).before a0 Z = true)  (hy : y.cls ≠ "java/lang/invoke/MethodHandle" ∧ y.cls ≠ "java/lang/invoke/VarHandle") (eT : T.heap = h) {rm : Room} {Q : Option Value → Heap → List Loc → Prop} {St : List Value} (argsL rest : List Value) {a : Addr} (hs : St = argsL.reverse ++ .ref a :: rest) (M : Co l y bytes maxL none [] rm Z h (.ref a :: argsL).toArray Q) (hlen : ∀ sig, parseMethodDescriptor y.desc = some sig → argsL.length = sig.parameters.length) (W : Nat) (hW : (rest.map fun v => v.category).sum ≤ W) (hf : rm.frames + 1 ≤ R.frames) (hl : W + (maxL + 11) + rm.locals ≤ R.locals) (hc : cells + rm.cells ≤ R.cells) (hsl : slots + rm.slots ≤ R.slots) (hsz : Ls.size = c.maxLocals) (hd : decode c.code pc = .ok (.invokespecial i, 3)) (pc' : Nat) (hp : pc + 3 = pc') (G : ∀ v T' L, Stand p l e R s m args below meth c T' (locs ++ L) (cells + rm.cells) (slots + rm.slots) → Q v T'.heap L → Go p e below P T' (mkF m pc' Ls (v.toList ++ rest))) : Go p e below P T (mkF m pc Ls St) := by
  subst hp
  obtain ⟨v, vm1, ⟨T', L', k', n'⟩, -, X', ⟨L, hQ, h1, h2, h3⟩, k⟩ := X.specialBack hx (y := y) hnm hown (mvT hZ w1) (mvT hZ w2) (mvT hZ w4) hy (backOf (W := W) M hZ w4 w3 hf hl) (g := mkF m pc Ls St) rfl hsz (Steps.refl _) (a := a) (argsL := argsL) (rest := rest) hlen hs (by show 2 * 0 + _ ≤ W; omega) hd (fun _ _ => ⟨rfl, eT, hc, hsl⟩)
  dsimp only [Pt.U, Pt.locs, Pt.cells, Pt.slots] at X' h1 h2 h3 k hQ
  subst h1 h2 h3
  exact (G v T' L X' hQ).stp fun _ j => k.trans j
theorem g_callV (X : Stand p l e R s m args below meth c T locs cells slots) (hx : p.tables.exec = Jvm.exec) (hZ : Z.Warmed39 s.vm) {own : String} (hown : s.vm.findClass own = some m.cls) {i : Nat} {y : MethodName} {bytes : ByteArray} {maxL : Nat} {ret : Option FieldType} (w1 : (Cond.methodLink own i y).before a0 Z = true) {C : String} (w2 : (Cond.declares y).before a0 Z = true) (w5 : (Cond.selects C y y).before a0 Z = true) (w6 : (Cond.instanceMethod y).before a0 Z = true) (w3 : (Cond.initialized y.cls).before a0 Z = true) (w4 : (Cond.code y bytes maxL ret).before a0 Z = true)  (hy : y.cls ≠ "java/lang/invoke/MethodHandle" ∧ y.cls ≠ "java/lang/invoke/VarHandle") (eT : T.heap = h) {rm : Room} {Q : Option Value → Heap → List Loc → Prop} {St : List Value} (argsL rest : List Value) {a : Addr} (E : Exa Z h a C) (hs : St = argsL.reverse ++ .ref a :: rest) (M : Co l y bytes maxL ret [] rm Z h (.ref a :: argsL).toArray Q) (hlen : ∀ sig, parseMethodDescriptor y.desc = some sig → argsL.length = sig.parameters.length) (W : Nat) (hW : (rest.map fun v => v.category).sum ≤ W) (hf : rm.frames + 1 ≤ R.frames) (hl : W + (maxL + 11) + rm.locals ≤ R.locals) (hc : cells + rm.cells ≤ R.cells) (hsl : slots + rm.slots ≤ R.slots) (hsz : Ls.size = c.maxLocals) (hd : decode c.code pc = .ok (.invokevirtual i, 3)) (pc' : Nat) (hp : pc + 3 = pc') (G : ∀ v T' L, Stand p l e R s m args below meth c T' (locs ++ L) (cells + rm.cells) (slots + rm.slots) → Q v T'.heap L → Go p e below P T' (mkF m pc' Ls (v.toList ++ rest))) : Go p e below P T (mkF m pc Ls St) := by
  subst hp
  obtain ⟨cq, kq, qa, qb, qc⟩ := isOf hZ eT E
  obtain ⟨v, vm1, ⟨T', L', k', n'⟩, -, X', ⟨L, hQ, h1, h2, h3⟩, k⟩ := X.virtualBack hx (y := y) (z := y) hown (mvT hZ w1) (mvT hZ w2) (notFace_of_selects (args := #[]) (mvT hZ w5)) (mvT hZ w5) (mvT hZ w6) hy (backOf (W := W) M hZ w4 w3 hf hl) qa qc (g := mkF m pc Ls St) rfl hsz (Steps.refl _) (argsL := argsL) (rest := rest) hlen hs (by show 2 * 0 + _ ≤ W; omega) hd (fun _ _ => ⟨rfl, eT, hc, hsl⟩)
  dsimp only [Pt.U, Pt.locs, Pt.cells, Pt.slots] at X' h1 h2 h3 k hQ
  subst h1 h2 h3
  exact (G v T' L X' hQ).stp fun _ j => k.trans j
theorem g_callP (X : Stand p l e R s m args below meth c T locs cells slots) (hx : p.tables.exec = Jvm.exec) (hZ : Z.Warmed39 s.vm) {own : String} (hown : s.vm.findClass own = some m.cls) {i : Nat} {y : MethodName} {bytes : ByteArray} {maxL : Nat} {ret : Option FieldType} (w1 : (Cond.methodLink own i y).before a0 Z = true) {n : Nat} (w2 : (Cond.instanceMethod y).before a0 Z = true) (w5 : (Cond.privateMethod y).before a0 Z = true) (wi : (Cond.instantiable y.cls n).before a0 Z = true) (w3 : (Cond.initialized y.cls).before a0 Z = true) (w4 : (Cond.code y bytes maxL ret).before a0 Z = true)  (hy : y.cls ≠ "java/lang/invoke/MethodHandle" ∧ y.cls ≠ "java/lang/invoke/VarHandle") (eT : T.heap = h) {rm : Room} {Q : Option Value → Heap → List Loc → Prop} {St : List Value} (argsL rest : List Value) {a : Addr} (E : Exa Z h a y.cls) (hs : St = argsL.reverse ++ .ref a :: rest) (M : Co l y bytes maxL ret [] rm Z h (.ref a :: argsL).toArray Q) (hlen : ∀ sig, parseMethodDescriptor y.desc = some sig → argsL.length = sig.parameters.length) (W : Nat) (hW : (rest.map fun v => v.category).sum ≤ W) (hf : rm.frames + 1 ≤ R.frames) (hl : W + (maxL + 11) + rm.locals ≤ R.locals) (hc : cells + rm.cells ≤ R.cells) (hsl : slots + rm.slots ≤ R.slots) (hsz : Ls.size = c.maxLocals) (hd : decode c.code pc = .ok (.invokevirtual i, 3)) (pc' : Nat) (hp : pc + 3 = pc') (G : ∀ v T' L, Stand p l e R s m args below meth c T' (locs ++ L) (cells + rm.cells) (slots + rm.slots) → Q v T'.heap L → Go p e below P T' (mkF m pc' Ls (v.toList ++ rest))) : Go p e below P T (mkF m pc Ls St) := by
  subst hp
  obtain ⟨cl, q1, q2⟩ := E.cell
  have wi' : (Cond.instantiable y.cls n).before args s = true := mv hZ wi
  obtain ⟨ci, ki, i1, i2, i3, i4, -⟩ := Cond.instantiable_spec wi'
  have hpr : s.PrivateAt y := Cond.privateMethod_at (mvP hZ w5 (args := #[]))
  have hsel : (Cond.selects y.cls y y).before args s = true := selects_self_of_private i1 i2 (by simp only [Bool.or_eq_false_iff] at i4; exact i4.1) hpr (mv hZ w2) hy
  obtain ⟨v, vm1, ⟨T', L', k', n'⟩, -, X', ⟨L, hQ, h1, h2, h3⟩, k⟩ := X.privateBack hx (y := y) hown (mvT hZ w1) (mvT hZ w2) hsel hpr (mvT hZ w4) hy (backOf (W := W) M hZ w4 w3 hf hl) (g := mkF m pc Ls St) rfl hsz (Steps.refl _) (a := a) (by rw [eT]; exact q1) q2 (argsL := argsL) (rest := rest) hlen hs (by show 2 * 0 + _ ≤ W; omega) hd (fun _ _ => ⟨rfl, eT, hc, hsl⟩)
  dsimp only [Pt.U, Pt.locs, Pt.cells, Pt.slots] at X' h1 h2 h3 k hQ
  subst h1 h2 h3
  exact (G v T' L X' hQ).stp fun _ j => k.trans j
def Pu (h : Heap) (v : Option Value) (r : Option Value) (h' : Heap) (L : List Loc) : Prop := r = v ∧ h' = h ∧ L = []
theorem pu_cont {v : Option Value} {fr lo : Nat} {pc' : Nat} {rest : List Value} (G : ∀ T', Stand p l e R s m args below meth c T' locs cells slots → T'.heap = h → Go p e below P T' (mkF m pc' Ls (v.toList ++ rest))) : ∀ v' T' L, Stand p l e R s m args below meth c T' (locs ++ L) (cells + ({ frames := fr, cells := 0, slots := 0, locals := lo } : Room).cells) (slots + ({ frames := fr, cells := 0, slots := 0, locals := lo } : Room).slots) → Pu h v v' T'.heap L → Go p e below P T' (mkF m pc' Ls (v'.toList ++ rest)) := by
  rintro v' T' L X ⟨rfl, e1, rfl⟩
  exact G T' (by simpa using X) e1
theorem Go.joinT {α : Type} {g : JFrame} (X : Stand p l e R s m args below meth c T locs cells slots) (eT : T.heap = h) (f : α → JFrame) (Pz : α → Prop) (J : ∀ T', Stand p l e R s m args below meth c T' locs cells slots → T'.heap = h → ∀ z, Pz z → Go p e below P T' (f z)) (K : (∀ T', Stand p l e R s m args below meth c T' locs cells slots → T'.heap = h → ∀ z, Pz z → Go p e below P T' (f z)) → Go p e below P T g) : Go p e below P T g := K J
theorem Go.joinH {α : Type} {g : JFrame} (X : Stand p l e R s m args below meth c T locs cells slots) (f : α → JFrame) (Pz : Heap → List Loc → α → Prop) (kc kn : Nat) (J : ∀ T' h' locs', Stand p l e R s m args below meth c T' locs' kc kn → T'.heap = h' → ∀ z, Pz h' locs' z → Go p e below P T' (f z)) (K : (∀ T' h' locs', Stand p l e R s m args below meth c T' locs' kc kn → T'.heap = h' → ∀ z, Pz h' locs' z → Go p e below P T' (f z)) → Go p e below P T g) : Go p e below P T g := K J
theorem Go.loop {α : Type} (X : Stand p l e R s m args below meth c T locs cells slots) (eT : T.heap = h) (f : α → JFrame) (μ : α → Nat) (Pz : α → Prop) (body : ∀ z, Pz z → (∀ T', Stand p l e R s m args below meth c T' locs cells slots → T'.heap = h → ∀ z', Pz z' → μ z' < μ z → Go p e below P T' (f z')) → ∀ T', Stand p l e R s m args below meth c T' locs cells slots → T'.heap = h → Go p e below P T' (f z)) (z : α) (hz : Pz z) : Go p e below P T (f z) := by
  have key : ∀ n, ∀ z, μ z < n → Pz z → ∀ T', Stand p l e R s m args below meth c T' locs cells slots → T'.heap = h → Go p e below P T' (f z) := by
    intro n
    induction n with
    | zero => intro z hn; exact absurd hn (Nat.not_lt_zero _)
    | succ n ih =>
      intro z hn hz T' X' e'
      exact body z hz (fun T2 X2 e2 z2 hz2 hlt => ih z2 (by omega) hz2 T2 X2 e2) T' X' e'
  exact key (μ z + 1) z (Nat.lt_succ_self _) hz T X eT
theorem Go.loopH {α : Type} (X : Stand p l e R s m args below meth c T locs cells slots) (eT : T.heap = h) (f : α → JFrame) (μ : α → Nat) (Pz : Heap → List Loc → α → Prop) (body : ∀ z h' locs', Pz h' locs' z → (∀ T' h2 locs2, Stand p l e R s m args below meth c T' locs2 cells slots → T'.heap = h2 → ∀ z', Pz h2 locs2 z' → μ z' < μ z → Go p e below P T' (f z')) → ∀ T', Stand p l e R s m args below meth c T' locs' cells slots → T'.heap = h' → Go p e below P T' (f z)) (z : α) (hz : Pz h locs z) : Go p e below P T (f z) := by
  have key : ∀ n, ∀ z h' locs', μ z < n → Pz h' locs' z → ∀ T', Stand p l e R s m args below meth c T' locs' cells slots → T'.heap = h' → Go p e below P T' (f z) := by
    intro n
    induction n with
    | zero => intro z h' locs' hn; exact absurd hn (Nat.not_lt_zero _)
    | succ n ih =>
      intro z h' locs' hn hz T' X' e'
      exact body z h' locs' hz (fun T2 h2 locs2 X2 e2 z2 hz2 hlt => ih z2 h2 locs2 (by omega) hz2 T2 X2 e2) T' X' e'
  exact key (μ z + 1) z h locs (Nat.lt_succ_self _) hz T X eT
theorem own_sta_keep {C n d : String} {v : Value} {h' : Heap} {ws : List Addr} (F : Sta Z h C n d v) (K : Keep h h' ws) (q : ∀ x ∈ ws, ∀ cell : Cell, h[x]? = some cell → cell.vm.isStatics = false) : Sta Z h' C n d v := by
  obtain ⟨cf, i, k, f, st, cell, h1, h2, h3, h4, h5, h6, h7⟩ := F
  exact ⟨cf, i, k, f, st, cell, h1, h2, h3, h4, K.2.1 st cell h5 (fun hm => by rw [q st hm cell h5] at h6; cases h6), h6, h7⟩
end OwnGo
def Q1 (Z : State) (a : Addr) (h0 : Heap) (n0 : Nat) (v : Option Value) (h : Heap) (L : List Loc) : Prop := v = none ∧ Fr n0 L ∧ Keep h0 h [a] ∧ Exa Z h a "com/example/redshank/redshank/engine/Choices" ∧ ∃ tk ct, h0.size ≤ tk ∧ h0.size ≤ ct ∧ tk ≠ ct ∧ Fld Z h a "com/example/redshank/redshank/engine/Choices" "taken" "[I" (.ref tk) ∧ Fld Z h a "com/example/redshank/redshank/engine/Choices" "counts" "[I" (.ref ct) ∧ Fld Z h a "com/example/redshank/redshank/engine/Choices" "kept" "I" (.int (0 : Int32)) ∧ Fld Z h a "com/example/redshank/redshank/engine/Choices" "met" "I" (.int (0 : Int32)) ∧ AV Z h tk .int [(.int (0 : Int32)), (.int (0 : Int32)), (.int (0 : Int32)), (.int (0 : Int32))] ∧ AV Z h ct .int [(.int (0 : Int32)), (.int (0 : Int32)), (.int (0 : Int32)), (.int (0 : Int32))]
theorem ef1 (m_ : MethodId) (a : Addr)  : entryFrame m_ #[(.ref a)] 1 = mkF m_ 0 #[.val (.ref a)] [] := by first | (simp [entryFrame, mkF, argsToLocals, Value.category]; done) | rfl
theorem pn_0 : plainName "com/example/redshank/redshank/engine/Choices" = true := by first | (simp [plainName, overriddenIn]; done) | decide +kernel
theorem d1_0 : decode prog_3_method_1_code 0 = .ok (.aload_n 0, 1) := by decide +kernel
theorem d1_1 : decode prog_3_method_1_code 1 = .ok (.invokespecial 1, 3) := by decide +kernel
theorem d1_4 : decode prog_3_method_1_code 4 = .ok (.aload_n 0, 1) := by decide +kernel
theorem d1_5 : decode prog_3_method_1_code 5 = .ok (.iconst 4, 1) := by decide +kernel
theorem d1_6 : decode prog_3_method_1_code 6 = .ok (.newarray .int, 2) := by decide +kernel
theorem d1_8 : decode prog_3_method_1_code 8 = .ok (.putfield 7, 3) := by decide +kernel
theorem d1_11 : decode prog_3_method_1_code 11 = .ok (.aload_n 0, 1) := by decide +kernel
theorem d1_12 : decode prog_3_method_1_code 12 = .ok (.iconst 4, 1) := by decide +kernel
theorem d1_13 : decode prog_3_method_1_code 13 = .ok (.newarray .int, 2) := by decide +kernel
theorem d1_15 : decode prog_3_method_1_code 15 = .ok (.putfield 13, 3) := by decide +kernel
theorem d1_18 : decode prog_3_method_1_code 18 = .ok (.return_, 1) := by decide +kernel
set_option maxRecDepth 65536 in
set_option maxHeartbeats 40000000 in
theorem co1 (l : Launch) (Z : State) (a0 : Array Value) (hw : ∀ d ∈ tables_1, d.before a0 Z = true) (a : Addr) (h0 : Heap) (n0 : Nat) (Z0 : n0 ≤ h0.size)  (g_a : n0 ≤ a) (E_a : Exa Z h0 a "com/example/redshank/redshank/engine/Choices") (F_taken : Fld Z h0 a "com/example/redshank/redshank/engine/Choices" "taken" "[I" .null) (F_counts : Fld Z h0 a "com/example/redshank/redshank/engine/Choices" "counts" "[I" .null) (F_kept : Fld Z h0 a "com/example/redshank/redshank/engine/Choices" "kept" "I" (.int (0 : Int32))) (F_met : Fld Z h0 a "com/example/redshank/redshank/engine/Choices" "met" "I" (.int (0 : Int32))) : Co l (⟨"com/example/redshank/redshank/engine/Choices", "<init>", "()V"⟩ : MethodName) prog_3_method_1_code 1 none [] ({ frames := 1, cells := 2, slots := 8, locals := 13 } : Room) Z h0 #[(.ref a)] (Q1 Z a h0 n0) := by
  refine Co.of (plainFor_of_name pn_0) ?_
  intro p_ e_ s_ m_ below meth c_ T0 X0 hx hby hml hown hnm hret hlk hZ eq0
  have N0 := Fr.nil n0
  refine Go.cast (ef1 m_ a ) ?_
  refine g_aloadN X0 hx rfl rfl (hb hby d1_0) 1 rfl ?_
  refine g_initO X0 hx hZ hown (wd hw 7 rfl) (wd hw 8 rfl) (wd hw 9 rfl) eq0 (by rw [hml]; rfl) (hb hby d1_1) (by decide) 0 (Nat.le_of_eq rfl) (by decide) 4 rfl (fun T101 X102 e103 => ?_)
  show Go p_ e_ below _ T101 (mkF m_ 4 #[.val (.ref a)] [])
  refine g_aloadN X102 hx rfl rfl (hb hby d1_4) 5 rfl ?_
  refine g_iconst X102 hx (4 : Int32) rfl (hb hby d1_5) 6 rfl ?_
  refine g_newarray X102 hx hZ (aty := .int) (wd hw 0 rfl) e103 (by decide) 4 (by decide) (by decide) (by decide) (by decide) [(.int (0 : Int32)), (.int (0 : Int32)), (.int (0 : Int32)), (.int (0 : Int32))] rfl (hb hby d1_6) 8 rfl (fun T104 h105 b106 X107 e108 g109 E110 A111 => ?_)
  have ne112 : a ≠ b106 := Nat.ne_of_lt (Nat.lt_of_lt_of_eq E_a.lt g109.symm)
  have F113 := E_a.ext E110
  have F114 := F_taken.ext E110
  have F115 := F_counts.ext E110
  have F116 := F_kept.ext E110
  have F117 := F_met.ext E110
  have sz118 : n0 ≤ b106 := Nat.le_trans Z0 (Nat.le_of_eq g109.symm)
  have szh119 : n0 ≤ h105.size := Nat.le_trans Z0 E110.1
  have szk120 : h0.size ≤ b106 := Nat.le_trans (Keep.refl h0 [a]).1 (Nat.le_of_eq g109.symm)
  have K121 := (Keep.refl h0 [a]).ext E110
  have A122 : AV Z h105 b106 .int [(.int (0 : Int32)), (.int (0 : Int32)), (.int (0 : Int32)), (.int (0 : Int32))] := A111
  show Go p_ e_ below _ T104 (mkF m_ 8 #[.val (.ref a)] [(.ref b106), (.ref a)])
  refine g_putfield X107 hx hZ hown (host := "") (Or.inl (wd hw 10 rfl)) Via.refl e108 F114 F113 (Or.inl (wd hw 11 rfl)) (wd hw 2 rfl) (ty := (.array .int)) (by decide) rfl rfl (hb hby d1_8) 11 rfl (fun T123 h124 X125 e126 W127 => ?_)
  have F128 := F113.wr W127
  have F129 := F114.same W127
  have F130 := F115.other W127 (Or.inr (slot_ne (Or.inl (wd hw 13 rfl)) (Or.inl (wd hw 11 rfl)) (by decide) (t := (.array .int)) (t' := (.array .int)) (by decide) (by decide)))
  have F131 := F116.other W127 (Or.inr (slot_ne (Or.inl (wd hw 29 rfl)) (Or.inl (wd hw 11 rfl)) (by decide) (t := .int) (t' := (.array .int)) (by decide) (by decide)))
  have F132 := F117.other W127 (Or.inr (slot_ne (Or.inl (wd hw 27 rfl)) (Or.inl (wd hw 11 rfl)) (by decide) (t := .int) (t' := (.array .int)) (by decide) (by decide)))
  have F133 := A122.other W127 (Ne.symm ne112)
  have N134 := Fr.snoc X125 N0 g_a
  have szh135 : n0 ≤ h124.size := Nat.le_trans szh119 (Nat.le_of_eq W127.size.symm)
  have K136 := K121.wr W127 (Or.inl (List.mem_of_getElem? (i := 0) rfl))
  show Go p_ e_ below _ T123 (mkF m_ 11 #[.val (.ref a)] [])
  refine g_aloadN X125 hx rfl rfl (hb hby d1_11) 12 rfl ?_
  refine g_iconst X125 hx (4 : Int32) rfl (hb hby d1_12) 13 rfl ?_
  refine g_newarray X125 hx hZ (aty := .int) (wd hw 0 rfl) e126 (by decide) 4 (by decide) (by decide) (by decide) (by decide) [(.int (0 : Int32)), (.int (0 : Int32)), (.int (0 : Int32)), (.int (0 : Int32))] rfl (hb hby d1_13) 15 rfl (fun T137 h138 b139 X140 e141 g142 E143 A144 => ?_)
  have ne145 : a ≠ b139 := Nat.ne_of_lt (Nat.lt_of_lt_of_eq F128.lt g142.symm)
  have ne146 : b106 ≠ b139 := Nat.ne_of_lt (Nat.lt_of_lt_of_eq F133.lt g142.symm)
  have F147 := F128.ext E143
  have F148 := F129.ext E143
  have F149 := F130.ext E143
  have F150 := F131.ext E143
  have F151 := F132.ext E143
  have F152 := F133.ext E143
  have sz153 : n0 ≤ b139 := Nat.le_trans szh135 (Nat.le_of_eq g142.symm)
  have szh154 : n0 ≤ h138.size := Nat.le_trans szh135 E143.1
  have szk155 : h0.size ≤ b139 := Nat.le_trans K136.1 (Nat.le_of_eq g142.symm)
  have K156 := K136.ext E143
  have A157 : AV Z h138 b139 .int [(.int (0 : Int32)), (.int (0 : Int32)), (.int (0 : Int32)), (.int (0 : Int32))] := A144
  show Go p_ e_ below _ T137 (mkF m_ 15 #[.val (.ref a)] [(.ref b139), (.ref a)])
  refine g_putfield X140 hx hZ hown (host := "") (Or.inl (wd hw 12 rfl)) Via.refl e141 F149 F147 (Or.inl (wd hw 13 rfl)) (wd hw 2 rfl) (ty := (.array .int)) (by decide) rfl rfl (hb hby d1_15) 18 rfl (fun T158 h159 X160 e161 W162 => ?_)
  have F163 := F147.wr W162
  have F164 := F148.other W162 (Or.inr (slot_ne (Or.inl (wd hw 11 rfl)) (Or.inl (wd hw 13 rfl)) (by decide) (t := (.array .int)) (t' := (.array .int)) (by decide) (by decide)))
  have F165 := F149.same W162
  have F166 := F150.other W162 (Or.inr (slot_ne (Or.inl (wd hw 29 rfl)) (Or.inl (wd hw 13 rfl)) (by decide) (t := .int) (t' := (.array .int)) (by decide) (by decide)))
  have F167 := F151.other W162 (Or.inr (slot_ne (Or.inl (wd hw 27 rfl)) (Or.inl (wd hw 13 rfl)) (by decide) (t := .int) (t' := (.array .int)) (by decide) (by decide)))
  have F168 := F152.other W162 (Ne.symm ne112)
  have F169 := A157.other W162 (Ne.symm ne145)
  have N170 := Fr.snoc X160 N134 g_a
  have szh171 : n0 ≤ h159.size := Nat.le_trans szh154 (Nat.le_of_eq W162.size.symm)
  have K172 := K156.wr W162 (Or.inl (List.mem_of_getElem? (i := 0) rfl))
  show Go p_ e_ below _ T158 (mkF m_ 18 #[.val (.ref a)] [])
  exact g_retv X160 hx hret hlk (by decide) (by decide) (hb hby d1_18) (by rw [e161]; exact ⟨rfl, N170, K172, F163, b106, b139, szk120, szk155, ne146, F164, F165, F166, F167, F168, F169⟩)
def Q8_0 (Z : State) (a : Addr) (x : Int32) (tk : Addr) (ct : Addr) (k : Int32) (t0 : Int32) (t1 : Int32) (t2 : Int32) (t3 : Int32) (c0 : Int32) (c1 : Int32) (c2 : Int32) (c3 : Int32) (h0 : Heap) (n0 : Nat) (v : Option Value) (h : Heap) (L : List Loc) : Prop := v = some (.int (if (0 : Int32) < k then t0 else (0 : Int32))) ∧ Fr n0 L ∧ Keep h0 h [a, tk, ct] ∧ Exa Z h a "com/example/redshank/redshank/engine/Choices" ∧ Fld Z h a "com/example/redshank/redshank/engine/Choices" "taken" "[I" (.ref tk) ∧ Fld Z h a "com/example/redshank/redshank/engine/Choices" "counts" "[I" (.ref ct) ∧ Fld Z h a "com/example/redshank/redshank/engine/Choices" "kept" "I" (.int k) ∧ Fld Z h a "com/example/redshank/redshank/engine/Choices" "met" "I" (.int (1 : Int32)) ∧ AV Z h tk .int [(.int (if (0 : Int32) < k then t0 else (0 : Int32))), (.int t1), (.int t2), (.int t3)] ∧ AV Z h ct .int [(.int (if (0 : Int32) < k then c0 else x)), (.int c1), (.int c2), (.int c3)]
theorem ef8_0 (m_ : MethodId) (a : Addr) (x : Int32)  : entryFrame m_ #[(.ref a), (.int x)] 2 = mkF m_ 0 #[.val (.ref a), .val (.int x)] [] := by first | (simp [entryFrame, mkF, argsToLocals, Value.category]; done) | rfl
theorem d8_0 : decode prog_3_method_2_code 0 = .ok (.aload_n 0, 1) := by decide +kernel
theorem d8_1 : decode prog_3_method_2_code 1 = .ok (.getfield 16, 3) := by decide +kernel
theorem d8_4 : decode prog_3_method_2_code 4 = .ok (.aload_n 0, 1) := by decide +kernel
theorem d8_5 : decode prog_3_method_2_code 5 = .ok (.getfield 7, 3) := by decide +kernel
theorem d8_8 : decode prog_3_method_2_code 8 = .ok (.arraylength, 1) := by decide +kernel
theorem d8_9 : decode prog_3_method_2_code 9 = .ok (.if_icmp .ne 37, 3) := by decide +kernel
theorem d8_46 : decode prog_3_method_2_code 46 = .ok (.aload_n 0, 1) := by decide +kernel
theorem d8_47 : decode prog_3_method_2_code 47 = .ok (.getfield 16, 3) := by decide +kernel
theorem d8_50 : decode prog_3_method_2_code 50 = .ok (.aload_n 0, 1) := by decide +kernel
theorem d8_51 : decode prog_3_method_2_code 51 = .ok (.getfield 26, 3) := by decide +kernel
theorem d8_54 : decode prog_3_method_2_code 54 = .ok (.if_icmp .lt 23, 3) := by decide +kernel
theorem d8_77 : decode prog_3_method_2_code 77 = .ok (.aload_n 0, 1) := by decide +kernel
theorem d8_78 : decode prog_3_method_2_code 78 = .ok (.getfield 7, 3) := by decide +kernel
theorem d8_81 : decode prog_3_method_2_code 81 = .ok (.aload_n 0, 1) := by decide +kernel
theorem d8_82 : decode prog_3_method_2_code 82 = .ok (.dup, 1) := by decide +kernel
theorem d8_83 : decode prog_3_method_2_code 83 = .ok (.getfield 16, 3) := by decide +kernel
theorem d8_86 : decode prog_3_method_2_code 86 = .ok (.dup_x1, 1) := by decide +kernel
theorem d8_87 : decode prog_3_method_2_code 87 = .ok (.iconst 1, 1) := by decide +kernel
theorem d8_88 : decode prog_3_method_2_code 88 = .ok (.iadd, 1) := by decide +kernel
theorem d8_89 : decode prog_3_method_2_code 89 = .ok (.putfield 16, 3) := by decide +kernel
theorem d8_92 : decode prog_3_method_2_code 92 = .ok (.iaload, 1) := by decide +kernel
theorem d8_93 : decode prog_3_method_2_code 93 = .ok (.ireturn, 1) := by decide +kernel
theorem d8_57 : decode prog_3_method_2_code 57 = .ok (.aload_n 0, 1) := by decide +kernel
theorem d8_58 : decode prog_3_method_2_code 58 = .ok (.getfield 7, 3) := by decide +kernel
theorem d8_61 : decode prog_3_method_2_code 61 = .ok (.aload_n 0, 1) := by decide +kernel
theorem d8_62 : decode prog_3_method_2_code 62 = .ok (.getfield 16, 3) := by decide +kernel
theorem d8_65 : decode prog_3_method_2_code 65 = .ok (.iconst 0, 1) := by decide +kernel
theorem d8_66 : decode prog_3_method_2_code 66 = .ok (.iastore, 1) := by decide +kernel
theorem d8_67 : decode prog_3_method_2_code 67 = .ok (.aload_n 0, 1) := by decide +kernel
theorem d8_68 : decode prog_3_method_2_code 68 = .ok (.getfield 13, 3) := by decide +kernel
theorem d8_71 : decode prog_3_method_2_code 71 = .ok (.aload_n 0, 1) := by decide +kernel
theorem d8_72 : decode prog_3_method_2_code 72 = .ok (.getfield 16, 3) := by decide +kernel
theorem d8_75 : decode prog_3_method_2_code 75 = .ok (.iload_n 1, 1) := by decide +kernel
theorem d8_76 : decode prog_3_method_2_code 76 = .ok (.iastore, 1) := by decide +kernel
set_option maxRecDepth 65536 in
set_option maxHeartbeats 40000000 in
theorem co8_0 (l : Launch) (Z : State) (a0 : Array Value) (hw : ∀ d ∈ tables_1, d.before a0 Z = true) (a : Addr) (x : Int32) (tk : Addr) (ct : Addr) (k : Int32) (t0 : Int32) (t1 : Int32) (t2 : Int32) (t3 : Int32) (c0 : Int32) (c1 : Int32) (c2 : Int32) (c3 : Int32) (h0 : Heap) (n0 : Nat) (Z0 : n0 ≤ h0.size)  (g_a : n0 ≤ a) (g_tk : n0 ≤ tk) (g_ct : n0 ≤ ct) (E_a : Exa Z h0 a "com/example/redshank/redshank/engine/Choices") (F_taken : Fld Z h0 a "com/example/redshank/redshank/engine/Choices" "taken" "[I" (.ref tk)) (F_counts : Fld Z h0 a "com/example/redshank/redshank/engine/Choices" "counts" "[I" (.ref ct)) (F_kept : Fld Z h0 a "com/example/redshank/redshank/engine/Choices" "kept" "I" (.int k)) (F_met : Fld Z h0 a "com/example/redshank/redshank/engine/Choices" "met" "I" (.int (0 : Int32))) (A_tk : AV Z h0 tk .int [(.int t0), (.int t1), (.int t2), (.int t3)]) (A_ct : AV Z h0 ct .int [(.int c0), (.int c1), (.int c2), (.int c3)]) (ne_tc : tk ≠ ct) (ne_ta : tk ≠ a) (ne_ca : ct ≠ a) : Co l (⟨"com/example/redshank/redshank/engine/Choices", "choose", "(I)I"⟩ : MethodName) prog_3_method_2_code 2 (some .int) [] ({ frames := 0, cells := 0, slots := 0, locals := 0 } : Room) Z h0 #[(.ref a), (.int x)] (Q8_0 Z a x tk ct k t0 t1 t2 t3 c0 c1 c2 c3 h0 n0) := by
  refine Co.of (plainFor_of_name pn_0) ?_
  intro p_ e_ s_ m_ below meth c_ T0 X0 hx hby hml hown hnm hret hlk hZ eq0
  have N0 := Fr.nil n0
  refine Go.cast (ef8_0 m_ a x ) ?_
  refine g_aloadN X0 hx rfl rfl (hb hby d8_0) 1 rfl ?_
  refine g_getfield X0 hx hZ hown (host := "") (Or.inl (wd hw 26 rfl)) Via.refl F_met eq0 (hb hby d8_1) 4 rfl (fun T101 X102 e103 => ?_)
  show Go p_ e_ below _ T101 (mkF m_ 4 #[.val (.ref a), .val (.int x)] [(.int (0 : Int32))])
  refine g_aloadN X102 hx rfl rfl (hb hby d8_4) 5 rfl ?_
  refine g_getfield X102 hx hZ hown (host := "") (Or.inl (wd hw 10 rfl)) Via.refl F_taken e103 (hb hby d8_5) 8 rfl (fun T104 X105 e106 => ?_)
  show Go p_ e_ below _ T104 (mkF m_ 8 #[.val (.ref a), .val (.int x)] [(.ref tk), (.int (0 : Int32))])
  refine g_arraylength X105 hx hZ e106 A_tk (4 : Int32) rfl (hb hby d8_8) 9 rfl ?_
  refine g_icmp_ne X105 hx (hb hby d8_9) 46 12 (by decide) rfl rfl (fun q107 => ?_) (fun q107 => ?_)
  · refine g_aloadN X105 hx rfl rfl (hb hby d8_46) 47 rfl ?_
    refine g_getfield X105 hx hZ hown (host := "") (Or.inl (wd hw 26 rfl)) Via.refl F_met e106 (hb hby d8_47) 50 rfl (fun T108 X109 e110 => ?_)
    show Go p_ e_ below _ T108 (mkF m_ 50 #[.val (.ref a), .val (.int x)] [(.int (0 : Int32))])
    refine g_aloadN X109 hx rfl rfl (hb hby d8_50) 51 rfl ?_
    refine g_getfield X109 hx hZ hown (host := "") (Or.inl (wd hw 28 rfl)) Via.refl F_kept e110 (hb hby d8_51) 54 rfl (fun T111 X112 e113 => ?_)
    show Go p_ e_ below _ T111 (mkF m_ 54 #[.val (.ref a), .val (.int x)] [(.int k), (.int (0 : Int32))])
    refine g_icmp_lt X112 hx (hb hby d8_54) 77 57 (by decide) rfl rfl (fun q114 => ?_) (fun q114 => ?_)
    · refine g_aloadN X112 hx rfl rfl (hb hby d8_77) 78 rfl ?_
      refine g_getfield X112 hx hZ hown (host := "") (Or.inl (wd hw 10 rfl)) Via.refl F_taken e113 (hb hby d8_78) 81 rfl (fun T115 X116 e117 => ?_)
      show Go p_ e_ below _ T115 (mkF m_ 81 #[.val (.ref a), .val (.int x)] [(.ref tk)])
      refine g_aloadN X116 hx rfl rfl (hb hby d8_81) 82 rfl ?_
      refine g_dup X116 hx rfl (hb hby d8_82) 83 rfl ?_
      refine g_getfield X116 hx hZ hown (host := "") (Or.inl (wd hw 26 rfl)) Via.refl F_met e117 (hb hby d8_83) 86 rfl (fun T118 X119 e120 => ?_)
      show Go p_ e_ below _ T118 (mkF m_ 86 #[.val (.ref a), .val (.int x)] [(.int (0 : Int32)), (.ref a), (.ref tk)])
      refine g_dup_x1 X119 hx rfl rfl (hb hby d8_86) 87 rfl ?_
      refine g_iconst X119 hx (1 : Int32) rfl (hb hby d8_87) 88 rfl ?_
      refine g_iadd X119 hx (hb hby d8_88) 89 rfl ?_
      show Go p_ e_ below _ T118 (mkF m_ 89 #[.val (.ref a), .val (.int x)] [(.int (1 : Int32)), (.ref a), (.int (0 : Int32)), (.ref tk)])
      refine g_putfield X119 hx hZ hown (host := "") (Or.inl (wd hw 26 rfl)) Via.refl e120 F_met E_a (Or.inl (wd hw 27 rfl)) (wd hw 2 rfl) (ty := .int) (by decide) rfl rfl (hb hby d8_89) 92 rfl (fun T121 h122 X123 e124 W125 => ?_)
      have F126 := E_a.wr W125
      have F127 := F_taken.other W125 (Or.inr (slot_ne (Or.inl (wd hw 11 rfl)) (Or.inl (wd hw 27 rfl)) (by decide) (t := (.array .int)) (t' := .int) (by decide) (by decide)))
      have F128 := F_counts.other W125 (Or.inr (slot_ne (Or.inl (wd hw 13 rfl)) (Or.inl (wd hw 27 rfl)) (by decide) (t := (.array .int)) (t' := .int) (by decide) (by decide)))
      have F129 := F_kept.other W125 (Or.inr (slot_ne (Or.inl (wd hw 29 rfl)) (Or.inl (wd hw 27 rfl)) (by decide) (t := .int) (t' := .int) (by decide) (by decide)))
      have F130 := F_met.same W125
      have F131 := A_tk.other W125 ne_ta
      have F132 := A_ct.other W125 ne_ca
      have N133 := Fr.snoc X123 N0 g_a
      have szh134 : n0 ≤ h122.size := Nat.le_trans Z0 (Nat.le_of_eq W125.size.symm)
      have K135 := (Keep.refl h0 [a, tk, ct]).wr W125 (Or.inl (List.mem_of_getElem? (i := 0) rfl))
      show Go p_ e_ below _ T121 (mkF m_ 92 #[.val (.ref a), .val (.int x)] [(.int (0 : Int32)), (.ref tk)])
      refine g_iaload X123 hx hZ e124 F131 (by decide) rfl (hb hby d8_92) 93 rfl ?_
      show Go p_ e_ below _ T121 (mkF m_ 93 #[.val (.ref a), .val (.int x)] [(.int t0)])
      exact g_reti X123 hx hret hlk (by decide) (by decide) (hb hby d8_93) (by rw [e124]; exact ⟨(by rw [if_pos q114]), N133, K135, F126, F127, F128, F129, F130, (by rw [if_pos q114]; exact F131), (by rw [if_pos q114]; exact F132)⟩)
    · refine g_aloadN X112 hx rfl rfl (hb hby d8_57) 58 rfl ?_
      refine g_getfield X112 hx hZ hown (host := "") (Or.inl (wd hw 10 rfl)) Via.refl F_taken e113 (hb hby d8_58) 61 rfl (fun T136 X137 e138 => ?_)
      show Go p_ e_ below _ T136 (mkF m_ 61 #[.val (.ref a), .val (.int x)] [(.ref tk)])
      refine g_aloadN X137 hx rfl rfl (hb hby d8_61) 62 rfl ?_
      refine g_getfield X137 hx hZ hown (host := "") (Or.inl (wd hw 26 rfl)) Via.refl F_met e138 (hb hby d8_62) 65 rfl (fun T139 X140 e141 => ?_)
      show Go p_ e_ below _ T139 (mkF m_ 65 #[.val (.ref a), .val (.int x)] [(.int (0 : Int32)), (.ref tk)])
      refine g_iconst X140 hx (0 : Int32) rfl (hb hby d8_65) 66 rfl ?_
      refine g_iastore X140 hx hZ e141 A_tk (by decide) (Nat.le_of_ble_eq_true rfl) (hb hby d8_66) 67 rfl (fun T142 h143 X144 e145 W146 A147 => ?_)
      have A148 : AV Z h143 tk .int [(.int (0 : Int32)), (.int t1), (.int t2), (.int t3)] := A147
      have F149 := E_a.wr W146
      have F150 := F_taken.other W146 (Or.inl (Ne.symm ne_ta))
      have F151 := F_counts.other W146 (Or.inl (Ne.symm ne_ta))
      have F152 := F_kept.other W146 (Or.inl (Ne.symm ne_ta))
      have F153 := F_met.other W146 (Or.inl (Ne.symm ne_ta))
      have F154 := A148
      have F155 := A_ct.other W146 (Ne.symm ne_tc)
      have N156 := Fr.snoc X144 N0 g_tk
      have szh157 : n0 ≤ h143.size := Nat.le_trans Z0 (Nat.le_of_eq W146.size.symm)
      have K158 := (Keep.refl h0 [a, tk, ct]).wr W146 (Or.inl (List.mem_of_getElem? (i := 1) rfl))
      show Go p_ e_ below _ T142 (mkF m_ 67 #[.val (.ref a), .val (.int x)] [])
      refine g_aloadN X144 hx rfl rfl (hb hby d8_67) 68 rfl ?_
      refine g_getfield X144 hx hZ hown (host := "") (Or.inl (wd hw 12 rfl)) Via.refl F151 e145 (hb hby d8_68) 71 rfl (fun T159 X160 e161 => ?_)
      show Go p_ e_ below _ T159 (mkF m_ 71 #[.val (.ref a), .val (.int x)] [(.ref ct)])
      refine g_aloadN X160 hx rfl rfl (hb hby d8_71) 72 rfl ?_
      refine g_getfield X160 hx hZ hown (host := "") (Or.inl (wd hw 26 rfl)) Via.refl F153 e161 (hb hby d8_72) 75 rfl (fun T162 X163 e164 => ?_)
      show Go p_ e_ below _ T162 (mkF m_ 75 #[.val (.ref a), .val (.int x)] [(.int (0 : Int32)), (.ref ct)])
      refine g_iloadN X163 hx rfl (hb hby d8_75) 76 rfl ?_
      refine g_iastore X163 hx hZ e164 F155 (by decide) (Nat.le_of_ble_eq_true rfl) (hb hby d8_76) 77 rfl (fun T165 h166 X167 e168 W169 A170 => ?_)
      have A171 : AV Z h166 ct .int [(.int x), (.int c1), (.int c2), (.int c3)] := A170
      have F172 := F149.wr W169
      have F173 := F150.other W169 (Or.inl (Ne.symm ne_ca))
      have F174 := F151.other W169 (Or.inl (Ne.symm ne_ca))
      have F175 := F152.other W169 (Or.inl (Ne.symm ne_ca))
      have F176 := F153.other W169 (Or.inl (Ne.symm ne_ca))
      have F177 := A148.other W169 ne_tc
      have F178 := A171
      have N179 := Fr.snoc X167 N156 g_ct
      have szh180 : n0 ≤ h166.size := Nat.le_trans szh157 (Nat.le_of_eq W169.size.symm)
      have K181 := K158.wr W169 (Or.inl (List.mem_of_getElem? (i := 2) rfl))
      show Go p_ e_ below _ T165 (mkF m_ 77 #[.val (.ref a), .val (.int x)] [])
      refine g_aloadN X167 hx rfl rfl (hb hby d8_77) 78 rfl ?_
      refine g_getfield X167 hx hZ hown (host := "") (Or.inl (wd hw 10 rfl)) Via.refl F173 e168 (hb hby d8_78) 81 rfl (fun T182 X183 e184 => ?_)
      show Go p_ e_ below _ T182 (mkF m_ 81 #[.val (.ref a), .val (.int x)] [(.ref tk)])
      refine g_aloadN X183 hx rfl rfl (hb hby d8_81) 82 rfl ?_
      refine g_dup X183 hx rfl (hb hby d8_82) 83 rfl ?_
      refine g_getfield X183 hx hZ hown (host := "") (Or.inl (wd hw 26 rfl)) Via.refl F176 e184 (hb hby d8_83) 86 rfl (fun T185 X186 e187 => ?_)
      show Go p_ e_ below _ T185 (mkF m_ 86 #[.val (.ref a), .val (.int x)] [(.int (0 : Int32)), (.ref a), (.ref tk)])
      refine g_dup_x1 X186 hx rfl rfl (hb hby d8_86) 87 rfl ?_
      refine g_iconst X186 hx (1 : Int32) rfl (hb hby d8_87) 88 rfl ?_
      refine g_iadd X186 hx (hb hby d8_88) 89 rfl ?_
      show Go p_ e_ below _ T185 (mkF m_ 89 #[.val (.ref a), .val (.int x)] [(.int (1 : Int32)), (.ref a), (.int (0 : Int32)), (.ref tk)])
      refine g_putfield X186 hx hZ hown (host := "") (Or.inl (wd hw 26 rfl)) Via.refl e187 F176 F172 (Or.inl (wd hw 27 rfl)) (wd hw 2 rfl) (ty := .int) (by decide) rfl rfl (hb hby d8_89) 92 rfl (fun T188 h189 X190 e191 W192 => ?_)
      have F193 := F172.wr W192
      have F194 := F173.other W192 (Or.inr (slot_ne (Or.inl (wd hw 11 rfl)) (Or.inl (wd hw 27 rfl)) (by decide) (t := (.array .int)) (t' := .int) (by decide) (by decide)))
      have F195 := F174.other W192 (Or.inr (slot_ne (Or.inl (wd hw 13 rfl)) (Or.inl (wd hw 27 rfl)) (by decide) (t := (.array .int)) (t' := .int) (by decide) (by decide)))
      have F196 := F175.other W192 (Or.inr (slot_ne (Or.inl (wd hw 29 rfl)) (Or.inl (wd hw 27 rfl)) (by decide) (t := .int) (t' := .int) (by decide) (by decide)))
      have F197 := F176.same W192
      have F198 := F177.other W192 ne_ta
      have F199 := A171.other W192 ne_ca
      have N200 := Fr.snoc X190 N179 g_a
      have szh201 : n0 ≤ h189.size := Nat.le_trans szh180 (Nat.le_of_eq W192.size.symm)
      have K202 := K181.wr W192 (Or.inl (List.mem_of_getElem? (i := 0) rfl))
      show Go p_ e_ below _ T188 (mkF m_ 92 #[.val (.ref a), .val (.int x)] [(.int (0 : Int32)), (.ref tk)])
      refine g_iaload X190 hx hZ e191 F198 (by decide) rfl (hb hby d8_92) 93 rfl ?_
      show Go p_ e_ below _ T188 (mkF m_ 93 #[.val (.ref a), .val (.int x)] [(.int (0 : Int32))])
      exact g_reti X190 hx hret hlk (by decide) (by decide) (hb hby d8_93) (by rw [e191]; exact ⟨(by rw [if_neg q114]), N200, K202, F193, F194, F195, F196, F197, (by rw [if_neg q114]; exact F198), (by rw [if_neg q114]; exact F199)⟩)
  · exact absurd q107 (by decide)
def Q8_1 (Z : State) (a : Addr) (x : Int32) (tk : Addr) (ct : Addr) (k : Int32) (t0 : Int32) (t1 : Int32) (t2 : Int32) (t3 : Int32) (c0 : Int32) (c1 : Int32) (c2 : Int32) (c3 : Int32) (h0 : Heap) (n0 : Nat) (v : Option Value) (h : Heap) (L : List Loc) : Prop := v = some (.int (if (1 : Int32) < k then t1 else (0 : Int32))) ∧ Fr n0 L ∧ Keep h0 h [a, tk, ct] ∧ Exa Z h a "com/example/redshank/redshank/engine/Choices" ∧ Fld Z h a "com/example/redshank/redshank/engine/Choices" "taken" "[I" (.ref tk) ∧ Fld Z h a "com/example/redshank/redshank/engine/Choices" "counts" "[I" (.ref ct) ∧ Fld Z h a "com/example/redshank/redshank/engine/Choices" "kept" "I" (.int k) ∧ Fld Z h a "com/example/redshank/redshank/engine/Choices" "met" "I" (.int (2 : Int32)) ∧ AV Z h tk .int [(.int t0), (.int (if (1 : Int32) < k then t1 else (0 : Int32))), (.int t2), (.int t3)] ∧ AV Z h ct .int [(.int c0), (.int (if (1 : Int32) < k then c1 else x)), (.int c2), (.int c3)]
theorem ef8_1 (m_ : MethodId) (a : Addr) (x : Int32)  : entryFrame m_ #[(.ref a), (.int x)] 2 = mkF m_ 0 #[.val (.ref a), .val (.int x)] [] := by first | (simp [entryFrame, mkF, argsToLocals, Value.category]; done) | rfl
set_option maxRecDepth 65536 in
set_option maxHeartbeats 40000000 in
theorem co8_1 (l : Launch) (Z : State) (a0 : Array Value) (hw : ∀ d ∈ tables_1, d.before a0 Z = true) (a : Addr) (x : Int32) (tk : Addr) (ct : Addr) (k : Int32) (t0 : Int32) (t1 : Int32) (t2 : Int32) (t3 : Int32) (c0 : Int32) (c1 : Int32) (c2 : Int32) (c3 : Int32) (h0 : Heap) (n0 : Nat) (Z0 : n0 ≤ h0.size)  (g_a : n0 ≤ a) (g_tk : n0 ≤ tk) (g_ct : n0 ≤ ct) (E_a : Exa Z h0 a "com/example/redshank/redshank/engine/Choices") (F_taken : Fld Z h0 a "com/example/redshank/redshank/engine/Choices" "taken" "[I" (.ref tk)) (F_counts : Fld Z h0 a "com/example/redshank/redshank/engine/Choices" "counts" "[I" (.ref ct)) (F_kept : Fld Z h0 a "com/example/redshank/redshank/engine/Choices" "kept" "I" (.int k)) (F_met : Fld Z h0 a "com/example/redshank/redshank/engine/Choices" "met" "I" (.int (1 : Int32))) (A_tk : AV Z h0 tk .int [(.int t0), (.int t1), (.int t2), (.int t3)]) (A_ct : AV Z h0 ct .int [(.int c0), (.int c1), (.int c2), (.int c3)]) (ne_tc : tk ≠ ct) (ne_ta : tk ≠ a) (ne_ca : ct ≠ a) : Co l (⟨"com/example/redshank/redshank/engine/Choices", "choose", "(I)I"⟩ : MethodName) prog_3_method_2_code 2 (some .int) [] ({ frames := 0, cells := 0, slots := 0, locals := 0 } : Room) Z h0 #[(.ref a), (.int x)] (Q8_1 Z a x tk ct k t0 t1 t2 t3 c0 c1 c2 c3 h0 n0) := by
  refine Co.of (plainFor_of_name pn_0) ?_
  intro p_ e_ s_ m_ below meth c_ T0 X0 hx hby hml hown hnm hret hlk hZ eq0
  have N0 := Fr.nil n0
  refine Go.cast (ef8_1 m_ a x ) ?_
  refine g_aloadN X0 hx rfl rfl (hb hby d8_0) 1 rfl ?_
  refine g_getfield X0 hx hZ hown (host := "") (Or.inl (wd hw 26 rfl)) Via.refl F_met eq0 (hb hby d8_1) 4 rfl (fun T101 X102 e103 => ?_)
  show Go p_ e_ below _ T101 (mkF m_ 4 #[.val (.ref a), .val (.int x)] [(.int (1 : Int32))])
  refine g_aloadN X102 hx rfl rfl (hb hby d8_4) 5 rfl ?_
  refine g_getfield X102 hx hZ hown (host := "") (Or.inl (wd hw 10 rfl)) Via.refl F_taken e103 (hb hby d8_5) 8 rfl (fun T104 X105 e106 => ?_)
  show Go p_ e_ below _ T104 (mkF m_ 8 #[.val (.ref a), .val (.int x)] [(.ref tk), (.int (1 : Int32))])
  refine g_arraylength X105 hx hZ e106 A_tk (4 : Int32) rfl (hb hby d8_8) 9 rfl ?_
  refine g_icmp_ne X105 hx (hb hby d8_9) 46 12 (by decide) rfl rfl (fun q107 => ?_) (fun q107 => ?_)
  · refine g_aloadN X105 hx rfl rfl (hb hby d8_46) 47 rfl ?_
    refine g_getfield X105 hx hZ hown (host := "") (Or.inl (wd hw 26 rfl)) Via.refl F_met e106 (hb hby d8_47) 50 rfl (fun T108 X109 e110 => ?_)
    show Go p_ e_ below _ T108 (mkF m_ 50 #[.val (.ref a), .val (.int x)] [(.int (1 : Int32))])
    refine g_aloadN X109 hx rfl rfl (hb hby d8_50) 51 rfl ?_
    refine g_getfield X109 hx hZ hown (host := "") (Or.inl (wd hw 28 rfl)) Via.refl F_kept e110 (hb hby d8_51) 54 rfl (fun T111 X112 e113 => ?_)
    show Go p_ e_ below _ T111 (mkF m_ 54 #[.val (.ref a), .val (.int x)] [(.int k), (.int (1 : Int32))])
    refine g_icmp_lt X112 hx (hb hby d8_54) 77 57 (by decide) rfl rfl (fun q114 => ?_) (fun q114 => ?_)
    · refine g_aloadN X112 hx rfl rfl (hb hby d8_77) 78 rfl ?_
      refine g_getfield X112 hx hZ hown (host := "") (Or.inl (wd hw 10 rfl)) Via.refl F_taken e113 (hb hby d8_78) 81 rfl (fun T115 X116 e117 => ?_)
      show Go p_ e_ below _ T115 (mkF m_ 81 #[.val (.ref a), .val (.int x)] [(.ref tk)])
      refine g_aloadN X116 hx rfl rfl (hb hby d8_81) 82 rfl ?_
      refine g_dup X116 hx rfl (hb hby d8_82) 83 rfl ?_
      refine g_getfield X116 hx hZ hown (host := "") (Or.inl (wd hw 26 rfl)) Via.refl F_met e117 (hb hby d8_83) 86 rfl (fun T118 X119 e120 => ?_)
      show Go p_ e_ below _ T118 (mkF m_ 86 #[.val (.ref a), .val (.int x)] [(.int (1 : Int32)), (.ref a), (.ref tk)])
      refine g_dup_x1 X119 hx rfl rfl (hb hby d8_86) 87 rfl ?_
      refine g_iconst X119 hx (1 : Int32) rfl (hb hby d8_87) 88 rfl ?_
      refine g_iadd X119 hx (hb hby d8_88) 89 rfl ?_
      show Go p_ e_ below _ T118 (mkF m_ 89 #[.val (.ref a), .val (.int x)] [(.int (2 : Int32)), (.ref a), (.int (1 : Int32)), (.ref tk)])
      refine g_putfield X119 hx hZ hown (host := "") (Or.inl (wd hw 26 rfl)) Via.refl e120 F_met E_a (Or.inl (wd hw 27 rfl)) (wd hw 2 rfl) (ty := .int) (by decide) rfl rfl (hb hby d8_89) 92 rfl (fun T121 h122 X123 e124 W125 => ?_)
      have F126 := E_a.wr W125
      have F127 := F_taken.other W125 (Or.inr (slot_ne (Or.inl (wd hw 11 rfl)) (Or.inl (wd hw 27 rfl)) (by decide) (t := (.array .int)) (t' := .int) (by decide) (by decide)))
      have F128 := F_counts.other W125 (Or.inr (slot_ne (Or.inl (wd hw 13 rfl)) (Or.inl (wd hw 27 rfl)) (by decide) (t := (.array .int)) (t' := .int) (by decide) (by decide)))
      have F129 := F_kept.other W125 (Or.inr (slot_ne (Or.inl (wd hw 29 rfl)) (Or.inl (wd hw 27 rfl)) (by decide) (t := .int) (t' := .int) (by decide) (by decide)))
      have F130 := F_met.same W125
      have F131 := A_tk.other W125 ne_ta
      have F132 := A_ct.other W125 ne_ca
      have N133 := Fr.snoc X123 N0 g_a
      have szh134 : n0 ≤ h122.size := Nat.le_trans Z0 (Nat.le_of_eq W125.size.symm)
      have K135 := (Keep.refl h0 [a, tk, ct]).wr W125 (Or.inl (List.mem_of_getElem? (i := 0) rfl))
      show Go p_ e_ below _ T121 (mkF m_ 92 #[.val (.ref a), .val (.int x)] [(.int (1 : Int32)), (.ref tk)])
      refine g_iaload X123 hx hZ e124 F131 (by decide) rfl (hb hby d8_92) 93 rfl ?_
      show Go p_ e_ below _ T121 (mkF m_ 93 #[.val (.ref a), .val (.int x)] [(.int t1)])
      exact g_reti X123 hx hret hlk (by decide) (by decide) (hb hby d8_93) (by rw [e124]; exact ⟨(by rw [if_pos q114]), N133, K135, F126, F127, F128, F129, F130, (by rw [if_pos q114]; exact F131), (by rw [if_pos q114]; exact F132)⟩)
    · refine g_aloadN X112 hx rfl rfl (hb hby d8_57) 58 rfl ?_
      refine g_getfield X112 hx hZ hown (host := "") (Or.inl (wd hw 10 rfl)) Via.refl F_taken e113 (hb hby d8_58) 61 rfl (fun T136 X137 e138 => ?_)
      show Go p_ e_ below _ T136 (mkF m_ 61 #[.val (.ref a), .val (.int x)] [(.ref tk)])
      refine g_aloadN X137 hx rfl rfl (hb hby d8_61) 62 rfl ?_
      refine g_getfield X137 hx hZ hown (host := "") (Or.inl (wd hw 26 rfl)) Via.refl F_met e138 (hb hby d8_62) 65 rfl (fun T139 X140 e141 => ?_)
      show Go p_ e_ below _ T139 (mkF m_ 65 #[.val (.ref a), .val (.int x)] [(.int (1 : Int32)), (.ref tk)])
      refine g_iconst X140 hx (0 : Int32) rfl (hb hby d8_65) 66 rfl ?_
      refine g_iastore X140 hx hZ e141 A_tk (by decide) (Nat.le_of_ble_eq_true rfl) (hb hby d8_66) 67 rfl (fun T142 h143 X144 e145 W146 A147 => ?_)
      have A148 : AV Z h143 tk .int [(.int t0), (.int (0 : Int32)), (.int t2), (.int t3)] := A147
      have F149 := E_a.wr W146
      have F150 := F_taken.other W146 (Or.inl (Ne.symm ne_ta))
      have F151 := F_counts.other W146 (Or.inl (Ne.symm ne_ta))
      have F152 := F_kept.other W146 (Or.inl (Ne.symm ne_ta))
      have F153 := F_met.other W146 (Or.inl (Ne.symm ne_ta))
      have F154 := A148
      have F155 := A_ct.other W146 (Ne.symm ne_tc)
      have N156 := Fr.snoc X144 N0 g_tk
      have szh157 : n0 ≤ h143.size := Nat.le_trans Z0 (Nat.le_of_eq W146.size.symm)
      have K158 := (Keep.refl h0 [a, tk, ct]).wr W146 (Or.inl (List.mem_of_getElem? (i := 1) rfl))
      show Go p_ e_ below _ T142 (mkF m_ 67 #[.val (.ref a), .val (.int x)] [])
      refine g_aloadN X144 hx rfl rfl (hb hby d8_67) 68 rfl ?_
      refine g_getfield X144 hx hZ hown (host := "") (Or.inl (wd hw 12 rfl)) Via.refl F151 e145 (hb hby d8_68) 71 rfl (fun T159 X160 e161 => ?_)
      show Go p_ e_ below _ T159 (mkF m_ 71 #[.val (.ref a), .val (.int x)] [(.ref ct)])
      refine g_aloadN X160 hx rfl rfl (hb hby d8_71) 72 rfl ?_
      refine g_getfield X160 hx hZ hown (host := "") (Or.inl (wd hw 26 rfl)) Via.refl F153 e161 (hb hby d8_72) 75 rfl (fun T162 X163 e164 => ?_)
      show Go p_ e_ below _ T162 (mkF m_ 75 #[.val (.ref a), .val (.int x)] [(.int (1 : Int32)), (.ref ct)])
      refine g_iloadN X163 hx rfl (hb hby d8_75) 76 rfl ?_
      refine g_iastore X163 hx hZ e164 F155 (by decide) (Nat.le_of_ble_eq_true rfl) (hb hby d8_76) 77 rfl (fun T165 h166 X167 e168 W169 A170 => ?_)
      have A171 : AV Z h166 ct .int [(.int c0), (.int x), (.int c2), (.int c3)] := A170
      have F172 := F149.wr W169
      have F173 := F150.other W169 (Or.inl (Ne.symm ne_ca))
      have F174 := F151.other W169 (Or.inl (Ne.symm ne_ca))
      have F175 := F152.other W169 (Or.inl (Ne.symm ne_ca))
      have F176 := F153.other W169 (Or.inl (Ne.symm ne_ca))
      have F177 := A148.other W169 ne_tc
      have F178 := A171
      have N179 := Fr.snoc X167 N156 g_ct
      have szh180 : n0 ≤ h166.size := Nat.le_trans szh157 (Nat.le_of_eq W169.size.symm)
      have K181 := K158.wr W169 (Or.inl (List.mem_of_getElem? (i := 2) rfl))
      show Go p_ e_ below _ T165 (mkF m_ 77 #[.val (.ref a), .val (.int x)] [])
      refine g_aloadN X167 hx rfl rfl (hb hby d8_77) 78 rfl ?_
      refine g_getfield X167 hx hZ hown (host := "") (Or.inl (wd hw 10 rfl)) Via.refl F173 e168 (hb hby d8_78) 81 rfl (fun T182 X183 e184 => ?_)
      show Go p_ e_ below _ T182 (mkF m_ 81 #[.val (.ref a), .val (.int x)] [(.ref tk)])
      refine g_aloadN X183 hx rfl rfl (hb hby d8_81) 82 rfl ?_
      refine g_dup X183 hx rfl (hb hby d8_82) 83 rfl ?_
      refine g_getfield X183 hx hZ hown (host := "") (Or.inl (wd hw 26 rfl)) Via.refl F176 e184 (hb hby d8_83) 86 rfl (fun T185 X186 e187 => ?_)
      show Go p_ e_ below _ T185 (mkF m_ 86 #[.val (.ref a), .val (.int x)] [(.int (1 : Int32)), (.ref a), (.ref tk)])
      refine g_dup_x1 X186 hx rfl rfl (hb hby d8_86) 87 rfl ?_
      refine g_iconst X186 hx (1 : Int32) rfl (hb hby d8_87) 88 rfl ?_
      refine g_iadd X186 hx (hb hby d8_88) 89 rfl ?_
      show Go p_ e_ below _ T185 (mkF m_ 89 #[.val (.ref a), .val (.int x)] [(.int (2 : Int32)), (.ref a), (.int (1 : Int32)), (.ref tk)])
      refine g_putfield X186 hx hZ hown (host := "") (Or.inl (wd hw 26 rfl)) Via.refl e187 F176 F172 (Or.inl (wd hw 27 rfl)) (wd hw 2 rfl) (ty := .int) (by decide) rfl rfl (hb hby d8_89) 92 rfl (fun T188 h189 X190 e191 W192 => ?_)
      have F193 := F172.wr W192
      have F194 := F173.other W192 (Or.inr (slot_ne (Or.inl (wd hw 11 rfl)) (Or.inl (wd hw 27 rfl)) (by decide) (t := (.array .int)) (t' := .int) (by decide) (by decide)))
      have F195 := F174.other W192 (Or.inr (slot_ne (Or.inl (wd hw 13 rfl)) (Or.inl (wd hw 27 rfl)) (by decide) (t := (.array .int)) (t' := .int) (by decide) (by decide)))
      have F196 := F175.other W192 (Or.inr (slot_ne (Or.inl (wd hw 29 rfl)) (Or.inl (wd hw 27 rfl)) (by decide) (t := .int) (t' := .int) (by decide) (by decide)))
      have F197 := F176.same W192
      have F198 := F177.other W192 ne_ta
      have F199 := A171.other W192 ne_ca
      have N200 := Fr.snoc X190 N179 g_a
      have szh201 : n0 ≤ h189.size := Nat.le_trans szh180 (Nat.le_of_eq W192.size.symm)
      have K202 := K181.wr W192 (Or.inl (List.mem_of_getElem? (i := 0) rfl))
      show Go p_ e_ below _ T188 (mkF m_ 92 #[.val (.ref a), .val (.int x)] [(.int (1 : Int32)), (.ref tk)])
      refine g_iaload X190 hx hZ e191 F198 (by decide) rfl (hb hby d8_92) 93 rfl ?_
      show Go p_ e_ below _ T188 (mkF m_ 93 #[.val (.ref a), .val (.int x)] [(.int (0 : Int32))])
      exact g_reti X190 hx hret hlk (by decide) (by decide) (hb hby d8_93) (by rw [e191]; exact ⟨(by rw [if_neg q114]), N200, K202, F193, F194, F195, F196, F197, (by rw [if_neg q114]; exact F198), (by rw [if_neg q114]; exact F199)⟩)
  · exact absurd q107 (by decide)
def Q8_2 (Z : State) (a : Addr) (x : Int32) (tk : Addr) (ct : Addr) (k : Int32) (t0 : Int32) (t1 : Int32) (t2 : Int32) (t3 : Int32) (c0 : Int32) (c1 : Int32) (c2 : Int32) (c3 : Int32) (h0 : Heap) (n0 : Nat) (v : Option Value) (h : Heap) (L : List Loc) : Prop := v = some (.int (if (2 : Int32) < k then t2 else (0 : Int32))) ∧ Fr n0 L ∧ Keep h0 h [a, tk, ct] ∧ Exa Z h a "com/example/redshank/redshank/engine/Choices" ∧ Fld Z h a "com/example/redshank/redshank/engine/Choices" "taken" "[I" (.ref tk) ∧ Fld Z h a "com/example/redshank/redshank/engine/Choices" "counts" "[I" (.ref ct) ∧ Fld Z h a "com/example/redshank/redshank/engine/Choices" "kept" "I" (.int k) ∧ Fld Z h a "com/example/redshank/redshank/engine/Choices" "met" "I" (.int (3 : Int32)) ∧ AV Z h tk .int [(.int t0), (.int t1), (.int (if (2 : Int32) < k then t2 else (0 : Int32))), (.int t3)] ∧ AV Z h ct .int [(.int c0), (.int c1), (.int (if (2 : Int32) < k then c2 else x)), (.int c3)]
theorem ef8_2 (m_ : MethodId) (a : Addr) (x : Int32)  : entryFrame m_ #[(.ref a), (.int x)] 2 = mkF m_ 0 #[.val (.ref a), .val (.int x)] [] := by first | (simp [entryFrame, mkF, argsToLocals, Value.category]; done) | rfl
set_option maxRecDepth 65536 in
set_option maxHeartbeats 40000000 in
theorem co8_2 (l : Launch) (Z : State) (a0 : Array Value) (hw : ∀ d ∈ tables_1, d.before a0 Z = true) (a : Addr) (x : Int32) (tk : Addr) (ct : Addr) (k : Int32) (t0 : Int32) (t1 : Int32) (t2 : Int32) (t3 : Int32) (c0 : Int32) (c1 : Int32) (c2 : Int32) (c3 : Int32) (h0 : Heap) (n0 : Nat) (Z0 : n0 ≤ h0.size)  (g_a : n0 ≤ a) (g_tk : n0 ≤ tk) (g_ct : n0 ≤ ct) (E_a : Exa Z h0 a "com/example/redshank/redshank/engine/Choices") (F_taken : Fld Z h0 a "com/example/redshank/redshank/engine/Choices" "taken" "[I" (.ref tk)) (F_counts : Fld Z h0 a "com/example/redshank/redshank/engine/Choices" "counts" "[I" (.ref ct)) (F_kept : Fld Z h0 a "com/example/redshank/redshank/engine/Choices" "kept" "I" (.int k)) (F_met : Fld Z h0 a "com/example/redshank/redshank/engine/Choices" "met" "I" (.int (2 : Int32))) (A_tk : AV Z h0 tk .int [(.int t0), (.int t1), (.int t2), (.int t3)]) (A_ct : AV Z h0 ct .int [(.int c0), (.int c1), (.int c2), (.int c3)]) (ne_tc : tk ≠ ct) (ne_ta : tk ≠ a) (ne_ca : ct ≠ a) : Co l (⟨"com/example/redshank/redshank/engine/Choices", "choose", "(I)I"⟩ : MethodName) prog_3_method_2_code 2 (some .int) [] ({ frames := 0, cells := 0, slots := 0, locals := 0 } : Room) Z h0 #[(.ref a), (.int x)] (Q8_2 Z a x tk ct k t0 t1 t2 t3 c0 c1 c2 c3 h0 n0) := by
  refine Co.of (plainFor_of_name pn_0) ?_
  intro p_ e_ s_ m_ below meth c_ T0 X0 hx hby hml hown hnm hret hlk hZ eq0
  have N0 := Fr.nil n0
  refine Go.cast (ef8_2 m_ a x ) ?_
  refine g_aloadN X0 hx rfl rfl (hb hby d8_0) 1 rfl ?_
  refine g_getfield X0 hx hZ hown (host := "") (Or.inl (wd hw 26 rfl)) Via.refl F_met eq0 (hb hby d8_1) 4 rfl (fun T101 X102 e103 => ?_)
  show Go p_ e_ below _ T101 (mkF m_ 4 #[.val (.ref a), .val (.int x)] [(.int (2 : Int32))])
  refine g_aloadN X102 hx rfl rfl (hb hby d8_4) 5 rfl ?_
  refine g_getfield X102 hx hZ hown (host := "") (Or.inl (wd hw 10 rfl)) Via.refl F_taken e103 (hb hby d8_5) 8 rfl (fun T104 X105 e106 => ?_)
  show Go p_ e_ below _ T104 (mkF m_ 8 #[.val (.ref a), .val (.int x)] [(.ref tk), (.int (2 : Int32))])
  refine g_arraylength X105 hx hZ e106 A_tk (4 : Int32) rfl (hb hby d8_8) 9 rfl ?_
  refine g_icmp_ne X105 hx (hb hby d8_9) 46 12 (by decide) rfl rfl (fun q107 => ?_) (fun q107 => ?_)
  · refine g_aloadN X105 hx rfl rfl (hb hby d8_46) 47 rfl ?_
    refine g_getfield X105 hx hZ hown (host := "") (Or.inl (wd hw 26 rfl)) Via.refl F_met e106 (hb hby d8_47) 50 rfl (fun T108 X109 e110 => ?_)
    show Go p_ e_ below _ T108 (mkF m_ 50 #[.val (.ref a), .val (.int x)] [(.int (2 : Int32))])
    refine g_aloadN X109 hx rfl rfl (hb hby d8_50) 51 rfl ?_
    refine g_getfield X109 hx hZ hown (host := "") (Or.inl (wd hw 28 rfl)) Via.refl F_kept e110 (hb hby d8_51) 54 rfl (fun T111 X112 e113 => ?_)
    show Go p_ e_ below _ T111 (mkF m_ 54 #[.val (.ref a), .val (.int x)] [(.int k), (.int (2 : Int32))])
    refine g_icmp_lt X112 hx (hb hby d8_54) 77 57 (by decide) rfl rfl (fun q114 => ?_) (fun q114 => ?_)
    · refine g_aloadN X112 hx rfl rfl (hb hby d8_77) 78 rfl ?_
      refine g_getfield X112 hx hZ hown (host := "") (Or.inl (wd hw 10 rfl)) Via.refl F_taken e113 (hb hby d8_78) 81 rfl (fun T115 X116 e117 => ?_)
      show Go p_ e_ below _ T115 (mkF m_ 81 #[.val (.ref a), .val (.int x)] [(.ref tk)])
      refine g_aloadN X116 hx rfl rfl (hb hby d8_81) 82 rfl ?_
      refine g_dup X116 hx rfl (hb hby d8_82) 83 rfl ?_
      refine g_getfield X116 hx hZ hown (host := "") (Or.inl (wd hw 26 rfl)) Via.refl F_met e117 (hb hby d8_83) 86 rfl (fun T118 X119 e120 => ?_)
      show Go p_ e_ below _ T118 (mkF m_ 86 #[.val (.ref a), .val (.int x)] [(.int (2 : Int32)), (.ref a), (.ref tk)])
      refine g_dup_x1 X119 hx rfl rfl (hb hby d8_86) 87 rfl ?_
      refine g_iconst X119 hx (1 : Int32) rfl (hb hby d8_87) 88 rfl ?_
      refine g_iadd X119 hx (hb hby d8_88) 89 rfl ?_
      show Go p_ e_ below _ T118 (mkF m_ 89 #[.val (.ref a), .val (.int x)] [(.int (3 : Int32)), (.ref a), (.int (2 : Int32)), (.ref tk)])
      refine g_putfield X119 hx hZ hown (host := "") (Or.inl (wd hw 26 rfl)) Via.refl e120 F_met E_a (Or.inl (wd hw 27 rfl)) (wd hw 2 rfl) (ty := .int) (by decide) rfl rfl (hb hby d8_89) 92 rfl (fun T121 h122 X123 e124 W125 => ?_)
      have F126 := E_a.wr W125
      have F127 := F_taken.other W125 (Or.inr (slot_ne (Or.inl (wd hw 11 rfl)) (Or.inl (wd hw 27 rfl)) (by decide) (t := (.array .int)) (t' := .int) (by decide) (by decide)))
      have F128 := F_counts.other W125 (Or.inr (slot_ne (Or.inl (wd hw 13 rfl)) (Or.inl (wd hw 27 rfl)) (by decide) (t := (.array .int)) (t' := .int) (by decide) (by decide)))
      have F129 := F_kept.other W125 (Or.inr (slot_ne (Or.inl (wd hw 29 rfl)) (Or.inl (wd hw 27 rfl)) (by decide) (t := .int) (t' := .int) (by decide) (by decide)))
      have F130 := F_met.same W125
      have F131 := A_tk.other W125 ne_ta
      have F132 := A_ct.other W125 ne_ca
      have N133 := Fr.snoc X123 N0 g_a
      have szh134 : n0 ≤ h122.size := Nat.le_trans Z0 (Nat.le_of_eq W125.size.symm)
      have K135 := (Keep.refl h0 [a, tk, ct]).wr W125 (Or.inl (List.mem_of_getElem? (i := 0) rfl))
      show Go p_ e_ below _ T121 (mkF m_ 92 #[.val (.ref a), .val (.int x)] [(.int (2 : Int32)), (.ref tk)])
      refine g_iaload X123 hx hZ e124 F131 (by decide) rfl (hb hby d8_92) 93 rfl ?_
      show Go p_ e_ below _ T121 (mkF m_ 93 #[.val (.ref a), .val (.int x)] [(.int t2)])
      exact g_reti X123 hx hret hlk (by decide) (by decide) (hb hby d8_93) (by rw [e124]; exact ⟨(by rw [if_pos q114]), N133, K135, F126, F127, F128, F129, F130, (by rw [if_pos q114]; exact F131), (by rw [if_pos q114]; exact F132)⟩)
    · refine g_aloadN X112 hx rfl rfl (hb hby d8_57) 58 rfl ?_
      refine g_getfield X112 hx hZ hown (host := "") (Or.inl (wd hw 10 rfl)) Via.refl F_taken e113 (hb hby d8_58) 61 rfl (fun T136 X137 e138 => ?_)
      show Go p_ e_ below _ T136 (mkF m_ 61 #[.val (.ref a), .val (.int x)] [(.ref tk)])
      refine g_aloadN X137 hx rfl rfl (hb hby d8_61) 62 rfl ?_
      refine g_getfield X137 hx hZ hown (host := "") (Or.inl (wd hw 26 rfl)) Via.refl F_met e138 (hb hby d8_62) 65 rfl (fun T139 X140 e141 => ?_)
      show Go p_ e_ below _ T139 (mkF m_ 65 #[.val (.ref a), .val (.int x)] [(.int (2 : Int32)), (.ref tk)])
      refine g_iconst X140 hx (0 : Int32) rfl (hb hby d8_65) 66 rfl ?_
      refine g_iastore X140 hx hZ e141 A_tk (by decide) (Nat.le_of_ble_eq_true rfl) (hb hby d8_66) 67 rfl (fun T142 h143 X144 e145 W146 A147 => ?_)
      have A148 : AV Z h143 tk .int [(.int t0), (.int t1), (.int (0 : Int32)), (.int t3)] := A147
      have F149 := E_a.wr W146
      have F150 := F_taken.other W146 (Or.inl (Ne.symm ne_ta))
      have F151 := F_counts.other W146 (Or.inl (Ne.symm ne_ta))
      have F152 := F_kept.other W146 (Or.inl (Ne.symm ne_ta))
      have F153 := F_met.other W146 (Or.inl (Ne.symm ne_ta))
      have F154 := A148
      have F155 := A_ct.other W146 (Ne.symm ne_tc)
      have N156 := Fr.snoc X144 N0 g_tk
      have szh157 : n0 ≤ h143.size := Nat.le_trans Z0 (Nat.le_of_eq W146.size.symm)
      have K158 := (Keep.refl h0 [a, tk, ct]).wr W146 (Or.inl (List.mem_of_getElem? (i := 1) rfl))
      show Go p_ e_ below _ T142 (mkF m_ 67 #[.val (.ref a), .val (.int x)] [])
      refine g_aloadN X144 hx rfl rfl (hb hby d8_67) 68 rfl ?_
      refine g_getfield X144 hx hZ hown (host := "") (Or.inl (wd hw 12 rfl)) Via.refl F151 e145 (hb hby d8_68) 71 rfl (fun T159 X160 e161 => ?_)
      show Go p_ e_ below _ T159 (mkF m_ 71 #[.val (.ref a), .val (.int x)] [(.ref ct)])
      refine g_aloadN X160 hx rfl rfl (hb hby d8_71) 72 rfl ?_
      refine g_getfield X160 hx hZ hown (host := "") (Or.inl (wd hw 26 rfl)) Via.refl F153 e161 (hb hby d8_72) 75 rfl (fun T162 X163 e164 => ?_)
      show Go p_ e_ below _ T162 (mkF m_ 75 #[.val (.ref a), .val (.int x)] [(.int (2 : Int32)), (.ref ct)])
      refine g_iloadN X163 hx rfl (hb hby d8_75) 76 rfl ?_
      refine g_iastore X163 hx hZ e164 F155 (by decide) (Nat.le_of_ble_eq_true rfl) (hb hby d8_76) 77 rfl (fun T165 h166 X167 e168 W169 A170 => ?_)
      have A171 : AV Z h166 ct .int [(.int c0), (.int c1), (.int x), (.int c3)] := A170
      have F172 := F149.wr W169
      have F173 := F150.other W169 (Or.inl (Ne.symm ne_ca))
      have F174 := F151.other W169 (Or.inl (Ne.symm ne_ca))
      have F175 := F152.other W169 (Or.inl (Ne.symm ne_ca))
      have F176 := F153.other W169 (Or.inl (Ne.symm ne_ca))
      have F177 := A148.other W169 ne_tc
      have F178 := A171
      have N179 := Fr.snoc X167 N156 g_ct
      have szh180 : n0 ≤ h166.size := Nat.le_trans szh157 (Nat.le_of_eq W169.size.symm)
      have K181 := K158.wr W169 (Or.inl (List.mem_of_getElem? (i := 2) rfl))
      show Go p_ e_ below _ T165 (mkF m_ 77 #[.val (.ref a), .val (.int x)] [])
      refine g_aloadN X167 hx rfl rfl (hb hby d8_77) 78 rfl ?_
      refine g_getfield X167 hx hZ hown (host := "") (Or.inl (wd hw 10 rfl)) Via.refl F173 e168 (hb hby d8_78) 81 rfl (fun T182 X183 e184 => ?_)
      show Go p_ e_ below _ T182 (mkF m_ 81 #[.val (.ref a), .val (.int x)] [(.ref tk)])
      refine g_aloadN X183 hx rfl rfl (hb hby d8_81) 82 rfl ?_
      refine g_dup X183 hx rfl (hb hby d8_82) 83 rfl ?_
      refine g_getfield X183 hx hZ hown (host := "") (Or.inl (wd hw 26 rfl)) Via.refl F176 e184 (hb hby d8_83) 86 rfl (fun T185 X186 e187 => ?_)
      show Go p_ e_ below _ T185 (mkF m_ 86 #[.val (.ref a), .val (.int x)] [(.int (2 : Int32)), (.ref a), (.ref tk)])
      refine g_dup_x1 X186 hx rfl rfl (hb hby d8_86) 87 rfl ?_
      refine g_iconst X186 hx (1 : Int32) rfl (hb hby d8_87) 88 rfl ?_
      refine g_iadd X186 hx (hb hby d8_88) 89 rfl ?_
      show Go p_ e_ below _ T185 (mkF m_ 89 #[.val (.ref a), .val (.int x)] [(.int (3 : Int32)), (.ref a), (.int (2 : Int32)), (.ref tk)])
      refine g_putfield X186 hx hZ hown (host := "") (Or.inl (wd hw 26 rfl)) Via.refl e187 F176 F172 (Or.inl (wd hw 27 rfl)) (wd hw 2 rfl) (ty := .int) (by decide) rfl rfl (hb hby d8_89) 92 rfl (fun T188 h189 X190 e191 W192 => ?_)
      have F193 := F172.wr W192
      have F194 := F173.other W192 (Or.inr (slot_ne (Or.inl (wd hw 11 rfl)) (Or.inl (wd hw 27 rfl)) (by decide) (t := (.array .int)) (t' := .int) (by decide) (by decide)))
      have F195 := F174.other W192 (Or.inr (slot_ne (Or.inl (wd hw 13 rfl)) (Or.inl (wd hw 27 rfl)) (by decide) (t := (.array .int)) (t' := .int) (by decide) (by decide)))
      have F196 := F175.other W192 (Or.inr (slot_ne (Or.inl (wd hw 29 rfl)) (Or.inl (wd hw 27 rfl)) (by decide) (t := .int) (t' := .int) (by decide) (by decide)))
      have F197 := F176.same W192
      have F198 := F177.other W192 ne_ta
      have F199 := A171.other W192 ne_ca
      have N200 := Fr.snoc X190 N179 g_a
      have szh201 : n0 ≤ h189.size := Nat.le_trans szh180 (Nat.le_of_eq W192.size.symm)
      have K202 := K181.wr W192 (Or.inl (List.mem_of_getElem? (i := 0) rfl))
      show Go p_ e_ below _ T188 (mkF m_ 92 #[.val (.ref a), .val (.int x)] [(.int (2 : Int32)), (.ref tk)])
      refine g_iaload X190 hx hZ e191 F198 (by decide) rfl (hb hby d8_92) 93 rfl ?_
      show Go p_ e_ below _ T188 (mkF m_ 93 #[.val (.ref a), .val (.int x)] [(.int (0 : Int32))])
      exact g_reti X190 hx hret hlk (by decide) (by decide) (hb hby d8_93) (by rw [e191]; exact ⟨(by rw [if_neg q114]), N200, K202, F193, F194, F195, F196, F197, (by rw [if_neg q114]; exact F198), (by rw [if_neg q114]; exact F199)⟩)
  · exact absurd q107 (by decide)
def tn (i n k t : Int32) : Int32 := if i < n then (if i < k then t else (0 : Int32)) else t
def cn (i n k c x : Int32) : Int32 := if i < n then (if i < k then c else x) else c
def tx (lo i t : Int32) : Int32 := if lo = i then t + (1 : Int32) else t
def Q3 (Z : State) (a : Addr) (n : Int32) (cs : Addr) (es : Addr) (tk : Addr) (ct : Addr) (k : Int32) (t0 : Int32) (t1 : Int32) (t2 : Int32) (t3 : Int32) (c0 : Int32) (c1 : Int32) (c2 : Int32) (c3 : Int32) (x0 : Int32) (x1 : Int32) (x2 : Int32) (y0 : Int32) (y1 : Int32) (y2 : Int32) (h0 : Heap) (n0 : Nat) (v : Option Value) (h : Heap) (L : List Loc) : Prop := v = some (.int (1 : Int32)) ∧ Fr n0 L ∧ Keep h0 h [a, tk, ct] ∧ Exa Z h a "com/example/redshank/redshank/engine/Choices" ∧ Fld Z h a "com/example/redshank/redshank/engine/Choices" "taken" "[I" (.ref tk) ∧ Fld Z h a "com/example/redshank/redshank/engine/Choices" "counts" "[I" (.ref ct) ∧ Fld Z h a "com/example/redshank/redshank/engine/Choices" "kept" "I" (.int k) ∧ Fld Z h a "com/example/redshank/redshank/engine/Choices" "met" "I" (.int n) ∧ AV Z h tk .int [(.int (tn (0 : Int32) n k t0)), (.int (tn (1 : Int32) n k t1)), (.int (tn (2 : Int32) n k t2)), (.int t3)] ∧ AV Z h ct .int [(.int (cn (0 : Int32) n k c0 x0)), (.int (cn (1 : Int32) n k c1 x1)), (.int (cn (2 : Int32) n k c2 x2)), (.int c3)]
theorem ef3 (m_ : MethodId) (a : Addr) (n : Int32) (cs : Addr) (es : Addr)  : entryFrame m_ #[(.ref a), (.int n), (.ref cs), (.ref es)] 5 = mkF m_ 0 #[.val (.ref a), .val (.int n), .val (.ref cs), .val (.ref es), .unset] [] := by first | (simp [entryFrame, mkF, argsToLocals, Value.category]; done) | rfl
theorem pn_1 : plainName "com/example/redshank/redshank/engine/ChoicesNextPinLaw" = true := by first | (simp [plainName, overriddenIn]; done) | decide +kernel
theorem d3_0 : decode method_2_code 0 = .ok (.iconst 1, 1) := by decide +kernel
theorem d3_1 : decode method_2_code 1 = .ok (.istore 4, 2) := by decide +kernel
theorem d3_3 : decode method_2_code 3 = .ok (.iload_n 1, 1) := by decide +kernel
theorem d3_4 : decode method_2_code 4 = .ok (.ifCond .le 19, 3) := by decide +kernel
theorem d3_23 : decode method_2_code 23 = .ok (.iload_n 1, 1) := by decide +kernel
theorem d3_24 : decode method_2_code 24 = .ok (.iconst 1, 1) := by decide +kernel
theorem d3_25 : decode method_2_code 25 = .ok (.if_icmp .le 19, 3) := by decide +kernel
theorem d3_44 : decode method_2_code 44 = .ok (.iload_n 1, 1) := by decide +kernel
theorem d3_45 : decode method_2_code 45 = .ok (.iconst 2, 1) := by decide +kernel
theorem d3_46 : decode method_2_code 46 = .ok (.if_icmp .le 19, 3) := by decide +kernel
theorem d3_65 : decode method_2_code 65 = .ok (.iload 4, 2) := by decide +kernel
theorem d3_67 : decode method_2_code 67 = .ok (.ireturn, 1) := by decide +kernel
theorem d3_7 : decode method_2_code 7 = .ok (.aload_n 0, 1) := by decide +kernel
theorem d3_8 : decode method_2_code 8 = .ok (.aload_n 2, 1) := by decide +kernel
theorem d3_9 : decode method_2_code 9 = .ok (.iconst 0, 1) := by decide +kernel
theorem d3_10 : decode method_2_code 10 = .ok (.iaload, 1) := by decide +kernel
theorem pd_0 : parseMethodDescriptor "(I)I" = some ⟨[.int], some .int⟩ := by decide +kernel
theorem d3_11 : decode method_2_code 11 = .ok (.invokevirtual 7, 3) := by decide +kernel
theorem d3_14 : decode method_2_code 14 = .ok (.aload_n 3, 1) := by decide +kernel
theorem d3_15 : decode method_2_code 15 = .ok (.iconst 0, 1) := by decide +kernel
theorem d3_16 : decode method_2_code 16 = .ok (.iaload, 1) := by decide +kernel
theorem d3_17 : decode method_2_code 17 = .ok (.if_icmp .eq 6, 3) := by decide +kernel
theorem d3_28 : decode method_2_code 28 = .ok (.aload_n 0, 1) := by decide +kernel
theorem d3_29 : decode method_2_code 29 = .ok (.aload_n 2, 1) := by decide +kernel
theorem d3_30 : decode method_2_code 30 = .ok (.iconst 1, 1) := by decide +kernel
theorem d3_31 : decode method_2_code 31 = .ok (.iaload, 1) := by decide +kernel
theorem d3_32 : decode method_2_code 32 = .ok (.invokevirtual 7, 3) := by decide +kernel
theorem d3_35 : decode method_2_code 35 = .ok (.aload_n 3, 1) := by decide +kernel
theorem d3_36 : decode method_2_code 36 = .ok (.iconst 1, 1) := by decide +kernel
theorem d3_37 : decode method_2_code 37 = .ok (.iaload, 1) := by decide +kernel
theorem d3_38 : decode method_2_code 38 = .ok (.if_icmp .eq 6, 3) := by decide +kernel
theorem d3_49 : decode method_2_code 49 = .ok (.aload_n 0, 1) := by decide +kernel
theorem d3_50 : decode method_2_code 50 = .ok (.aload_n 2, 1) := by decide +kernel
theorem d3_51 : decode method_2_code 51 = .ok (.iconst 2, 1) := by decide +kernel
theorem d3_52 : decode method_2_code 52 = .ok (.iaload, 1) := by decide +kernel
theorem d3_53 : decode method_2_code 53 = .ok (.invokevirtual 7, 3) := by decide +kernel
theorem d3_56 : decode method_2_code 56 = .ok (.aload_n 3, 1) := by decide +kernel
theorem d3_57 : decode method_2_code 57 = .ok (.iconst 2, 1) := by decide +kernel
theorem d3_58 : decode method_2_code 58 = .ok (.iaload, 1) := by decide +kernel
theorem d3_59 : decode method_2_code 59 = .ok (.if_icmp .eq 6, 3) := by decide +kernel
set_option maxRecDepth 65536 in
set_option maxHeartbeats 40000000 in
theorem co3 (l : Launch) (Z : State) (a0 : Array Value) (hw : ∀ d ∈ tables_1, d.before a0 Z = true) (a : Addr) (n : Int32) (cs : Addr) (es : Addr) (tk : Addr) (ct : Addr) (k : Int32) (t0 : Int32) (t1 : Int32) (t2 : Int32) (t3 : Int32) (c0 : Int32) (c1 : Int32) (c2 : Int32) (c3 : Int32) (x0 : Int32) (x1 : Int32) (x2 : Int32) (y0 : Int32) (y1 : Int32) (y2 : Int32) (h0 : Heap) (n0 : Nat) (Z0 : n0 ≤ h0.size)  (g_a : n0 ≤ a) (g_tk : n0 ≤ tk) (g_ct : n0 ≤ ct) (E_a : Exa Z h0 a "com/example/redshank/redshank/engine/Choices") (F_taken : Fld Z h0 a "com/example/redshank/redshank/engine/Choices" "taken" "[I" (.ref tk)) (F_counts : Fld Z h0 a "com/example/redshank/redshank/engine/Choices" "counts" "[I" (.ref ct)) (F_kept : Fld Z h0 a "com/example/redshank/redshank/engine/Choices" "kept" "I" (.int k)) (F_met : Fld Z h0 a "com/example/redshank/redshank/engine/Choices" "met" "I" (.int (0 : Int32))) (A_tk : AV Z h0 tk .int [(.int t0), (.int t1), (.int t2), (.int t3)]) (A_ct : AV Z h0 ct .int [(.int c0), (.int c1), (.int c2), (.int c3)]) (ne_tc : tk ≠ ct) (ne_ta : tk ≠ a) (ne_ca : ct ≠ a) (A_cs : AV Z h0 cs .int [(.int x0), (.int x1), (.int x2)]) (A_es : AV Z h0 es .int [(.int y0), (.int y1), (.int y2)]) (ne_cs_a : cs ≠ a) (ne_cs_tk : cs ≠ tk) (ne_cs_ct : cs ≠ ct) (ne_es_a : es ≠ a) (ne_es_tk : es ≠ tk) (ne_es_ct : es ≠ ct) (hn : n = 0 ∨ n = 1 ∨ n = 2 ∨ n = 3) (he0 : (0 : Int32) < n → (if (0 : Int32) < k then t0 else (0 : Int32)) = y0) (he1 : (1 : Int32) < n → (if (1 : Int32) < k then t1 else (0 : Int32)) = y1) (he2 : (2 : Int32) < n → (if (2 : Int32) < k then t2 else (0 : Int32)) = y2) : Co l (⟨"com/example/redshank/redshank/engine/ChoicesNextPinLaw", "run", "(Lcom/example/redshank/redshank/engine/Choices;I[I[I)Z"⟩ : MethodName) method_2_code 5 (some .boolean) [] ({ frames := 1, cells := 0, slots := 0, locals := 16 } : Room) Z h0 #[(.ref a), (.int n), (.ref cs), (.ref es)] (Q3 Z a n cs es tk ct k t0 t1 t2 t3 c0 c1 c2 c3 x0 x1 x2 y0 y1 y2 h0 n0) := by
  refine Co.of (plainFor_of_name pn_1) ?_
  intro p_ e_ s_ m_ below meth c_ T0 X0 hx hby hml hown hnm hret hlk hZ eq0
  have N0 := Fr.nil n0
  refine Go.cast (ef3 m_ a n cs es ) ?_
  rcases hn with rfl | rfl | rfl | rfl
  · show Go p_ e_ below _ T0 (mkF m_ 0 #[.val (.ref a), .val (.int (0 : Int32)), .val (.ref cs), .val (.ref es), .unset] [])
    refine g_iconst X0 hx (1 : Int32) rfl (hb hby d3_0) 1 rfl ?_
    refine g_istore X0 hx #[.val (.ref a), .val (.int (0 : Int32)), .val (.ref cs), .val (.ref es), .val (.int (1 : Int32))] rfl (hb hby d3_1) 3 rfl ?_
    refine g_iloadN X0 hx rfl (hb hby d3_3) 4 rfl ?_
    refine g_if_le X0 hx (hb hby d3_4) 23 7 (by decide) rfl rfl (fun q4 => ?_) (fun q4 => ?_)
    · refine g_iloadN X0 hx rfl (hb hby d3_23) 24 rfl ?_
      refine g_iconst X0 hx (1 : Int32) rfl (hb hby d3_24) 25 rfl ?_
      refine g_icmp_le X0 hx (hb hby d3_25) 44 28 (by decide) rfl rfl (fun q25 => ?_) (fun q25 => ?_)
      · refine g_iloadN X0 hx rfl (hb hby d3_44) 45 rfl ?_
        refine g_iconst X0 hx (2 : Int32) rfl (hb hby d3_45) 46 rfl ?_
        refine g_icmp_le X0 hx (hb hby d3_46) 65 49 (by decide) rfl rfl (fun q46 => ?_) (fun q46 => ?_)
        · refine g_iload X0 hx rfl (hb hby d3_65) 67 rfl ?_
          exact g_retz X0 hx hret hlk (by decide) (by decide) (hb hby d3_67) (by rw [eq0]; exact ⟨rfl, N0, (Keep.refl h0 [a, tk, ct]), E_a, F_taken, F_counts, F_kept, F_met, (by rw [show tn (0 : Int32) (0 : Int32) k t0 = t0 from if_neg (by decide), show tn (1 : Int32) (0 : Int32) k t1 = t1 from if_neg (by decide), show tn (2 : Int32) (0 : Int32) k t2 = t2 from if_neg (by decide)]; exact A_tk), (by rw [show cn (0 : Int32) (0 : Int32) k c0 x0 = c0 from if_neg (by decide), show cn (1 : Int32) (0 : Int32) k c1 x1 = c1 from if_neg (by decide), show cn (2 : Int32) (0 : Int32) k c2 x2 = c2 from if_neg (by decide)]; exact A_ct)⟩)
        · exact absurd q46 (by decide)
      · exact absurd q25 (by decide)
    · exact absurd q4 (by decide)
  · show Go p_ e_ below _ T0 (mkF m_ 0 #[.val (.ref a), .val (.int (1 : Int32)), .val (.ref cs), .val (.ref es), .unset] [])
    refine g_iconst X0 hx (1 : Int32) rfl (hb hby d3_0) 1 rfl ?_
    refine g_istore X0 hx #[.val (.ref a), .val (.int (1 : Int32)), .val (.ref cs), .val (.ref es), .val (.int (1 : Int32))] rfl (hb hby d3_1) 3 rfl ?_
    refine g_iloadN X0 hx rfl (hb hby d3_3) 4 rfl ?_
    refine g_if_le X0 hx (hb hby d3_4) 23 7 (by decide) rfl rfl (fun q4 => ?_) (fun q4 => ?_)
    · exact absurd q4 (by decide)
    · refine g_aloadN X0 hx rfl rfl (hb hby d3_7) 8 rfl ?_
      refine g_aloadN X0 hx rfl rfl (hb hby d3_8) 9 rfl ?_
      refine g_iconst X0 hx (0 : Int32) rfl (hb hby d3_9) 10 rfl ?_
      refine g_iaload X0 hx hZ eq0 A_cs (by decide) rfl (hb hby d3_10) 11 rfl ?_
      show Go p_ e_ below _ T0 (mkF m_ 11 #[.val (.ref a), .val (.int (1 : Int32)), .val (.ref cs), .val (.ref es), .val (.int (1 : Int32))] [(.int x0), (.ref a)])
      refine g_callV X0 hx hZ hown (wd hw 37 rfl) (C := "com/example/redshank/redshank/engine/Choices") (wd hw 38 rfl) (wd hw 40 rfl) (wd hw 39 rfl) (wd hw 3 rfl) (wd hw 41 rfl) (by decide) eq0 [(.int x0)] [] E_a rfl (co8_0 l Z a0 hw a x0 tk ct k t0 t1 t2 t3 c0 c1 c2 c3 h0 n0 Z0 g_a g_tk g_ct E_a F_taken F_counts F_kept F_met A_tk A_ct ne_tc ne_ta ne_ca) (lenOf pd_0 rfl) 0 (Nat.le_of_eq rfl) (by decide) (by decide) (by decide) (by decide) (by rw [hml]; rfl) (hb hby d3_11) 14 rfl (fun r102 T103 L104 X105 Q106 => ?_)
      obtain ⟨h107, e108⟩ : ∃ h, T103.heap = h := ⟨_, rfl⟩
      rw [e108] at Q106
      obtain ⟨rfl, n109, K110, E111, F112, F113, F114, F115, A116, A117⟩ := Q106
      have N118 := Fr.app N0 n109
      have F119 := E_a.keep K110
      have F120 := A_cs.keep K110 (ninS ne_cs_a (ninS ne_cs_tk (ninS ne_cs_ct nin0)))
      have F121 := A_es.keep K110 (ninS ne_es_a (ninS ne_es_tk (ninS ne_es_ct nin0)))
      have szh122 : n0 ≤ h107.size := Nat.le_trans Z0 K110.1
      have K123 := (Keep.refl h0 [a, tk, ct]).trans K110 (allS (Or.inl (List.mem_of_getElem? (i := 0) rfl)) (allS (Or.inl (List.mem_of_getElem? (i := 1) rfl)) (allS (Or.inl (List.mem_of_getElem? (i := 2) rfl)) all0)))
      show Go p_ e_ below _ T103 (mkF m_ 14 #[.val (.ref a), .val (.int (1 : Int32)), .val (.ref cs), .val (.ref es), .val (.int (1 : Int32))] [(.int (if (0 : Int32) < k then t0 else (0 : Int32)))])
      refine g_aloadN X105 hx rfl rfl (hb hby d3_14) 15 rfl ?_
      refine g_iconst X105 hx (0 : Int32) rfl (hb hby d3_15) 16 rfl ?_
      refine g_iaload X105 hx hZ e108 F121 (by decide) rfl (hb hby d3_16) 17 rfl ?_
      show Go p_ e_ below _ T103 (mkF m_ 17 #[.val (.ref a), .val (.int (1 : Int32)), .val (.ref cs), .val (.ref es), .val (.int (1 : Int32))] [(.int y0), (.int (if (0 : Int32) < k then t0 else (0 : Int32)))])
      refine g_icmp_eq X105 hx (hb hby d3_17) 23 20 (by decide) rfl rfl (fun q17 => ?_) (fun q17 => ?_)
      · refine g_iloadN X105 hx rfl (hb hby d3_23) 24 rfl ?_
        refine g_iconst X105 hx (1 : Int32) rfl (hb hby d3_24) 25 rfl ?_
        refine g_icmp_le X105 hx (hb hby d3_25) 44 28 (by decide) rfl rfl (fun q25 => ?_) (fun q25 => ?_)
        · refine g_iloadN X105 hx rfl (hb hby d3_44) 45 rfl ?_
          refine g_iconst X105 hx (2 : Int32) rfl (hb hby d3_45) 46 rfl ?_
          refine g_icmp_le X105 hx (hb hby d3_46) 65 49 (by decide) rfl rfl (fun q46 => ?_) (fun q46 => ?_)
          · refine g_iload X105 hx rfl (hb hby d3_65) 67 rfl ?_
            exact g_retz X105 hx hret hlk (by decide) (by decide) (hb hby d3_67) (by rw [e108]; exact ⟨rfl, N118, K123, E111, F112, F113, F114, F115, (by rw [show tn (0 : Int32) (1 : Int32) k t0 = (if (0 : Int32) < k then t0 else (0 : Int32)) from if_pos (by decide), show tn (1 : Int32) (1 : Int32) k t1 = t1 from if_neg (by decide), show tn (2 : Int32) (1 : Int32) k t2 = t2 from if_neg (by decide)]; exact A116), (by rw [show cn (0 : Int32) (1 : Int32) k c0 x0 = (if (0 : Int32) < k then c0 else x0) from if_pos (by decide), show cn (1 : Int32) (1 : Int32) k c1 x1 = c1 from if_neg (by decide), show cn (2 : Int32) (1 : Int32) k c2 x2 = c2 from if_neg (by decide)]; exact A117)⟩)
          · exact absurd q46 (by decide)
        · exact absurd q25 (by decide)
      · exact absurd (he0 (by decide)) q17
  · show Go p_ e_ below _ T0 (mkF m_ 0 #[.val (.ref a), .val (.int (2 : Int32)), .val (.ref cs), .val (.ref es), .unset] [])
    refine g_iconst X0 hx (1 : Int32) rfl (hb hby d3_0) 1 rfl ?_
    refine g_istore X0 hx #[.val (.ref a), .val (.int (2 : Int32)), .val (.ref cs), .val (.ref es), .val (.int (1 : Int32))] rfl (hb hby d3_1) 3 rfl ?_
    refine g_iloadN X0 hx rfl (hb hby d3_3) 4 rfl ?_
    refine g_if_le X0 hx (hb hby d3_4) 23 7 (by decide) rfl rfl (fun q4 => ?_) (fun q4 => ?_)
    · exact absurd q4 (by decide)
    · refine g_aloadN X0 hx rfl rfl (hb hby d3_7) 8 rfl ?_
      refine g_aloadN X0 hx rfl rfl (hb hby d3_8) 9 rfl ?_
      refine g_iconst X0 hx (0 : Int32) rfl (hb hby d3_9) 10 rfl ?_
      refine g_iaload X0 hx hZ eq0 A_cs (by decide) rfl (hb hby d3_10) 11 rfl ?_
      show Go p_ e_ below _ T0 (mkF m_ 11 #[.val (.ref a), .val (.int (2 : Int32)), .val (.ref cs), .val (.ref es), .val (.int (1 : Int32))] [(.int x0), (.ref a)])
      refine g_callV X0 hx hZ hown (wd hw 37 rfl) (C := "com/example/redshank/redshank/engine/Choices") (wd hw 38 rfl) (wd hw 40 rfl) (wd hw 39 rfl) (wd hw 3 rfl) (wd hw 41 rfl) (by decide) eq0 [(.int x0)] [] E_a rfl (co8_0 l Z a0 hw a x0 tk ct k t0 t1 t2 t3 c0 c1 c2 c3 h0 n0 Z0 g_a g_tk g_ct E_a F_taken F_counts F_kept F_met A_tk A_ct ne_tc ne_ta ne_ca) (lenOf pd_0 rfl) 0 (Nat.le_of_eq rfl) (by decide) (by decide) (by decide) (by decide) (by rw [hml]; rfl) (hb hby d3_11) 14 rfl (fun r124 T125 L126 X127 Q128 => ?_)
      obtain ⟨h129, e130⟩ : ∃ h, T125.heap = h := ⟨_, rfl⟩
      rw [e130] at Q128
      obtain ⟨rfl, n131, K132, E133, F134, F135, F136, F137, A138, A139⟩ := Q128
      have N140 := Fr.app N0 n131
      have F141 := E_a.keep K132
      have F142 := A_cs.keep K132 (ninS ne_cs_a (ninS ne_cs_tk (ninS ne_cs_ct nin0)))
      have F143 := A_es.keep K132 (ninS ne_es_a (ninS ne_es_tk (ninS ne_es_ct nin0)))
      have szh144 : n0 ≤ h129.size := Nat.le_trans Z0 K132.1
      have K145 := (Keep.refl h0 [a, tk, ct]).trans K132 (allS (Or.inl (List.mem_of_getElem? (i := 0) rfl)) (allS (Or.inl (List.mem_of_getElem? (i := 1) rfl)) (allS (Or.inl (List.mem_of_getElem? (i := 2) rfl)) all0)))
      show Go p_ e_ below _ T125 (mkF m_ 14 #[.val (.ref a), .val (.int (2 : Int32)), .val (.ref cs), .val (.ref es), .val (.int (1 : Int32))] [(.int (if (0 : Int32) < k then t0 else (0 : Int32)))])
      refine g_aloadN X127 hx rfl rfl (hb hby d3_14) 15 rfl ?_
      refine g_iconst X127 hx (0 : Int32) rfl (hb hby d3_15) 16 rfl ?_
      refine g_iaload X127 hx hZ e130 F143 (by decide) rfl (hb hby d3_16) 17 rfl ?_
      show Go p_ e_ below _ T125 (mkF m_ 17 #[.val (.ref a), .val (.int (2 : Int32)), .val (.ref cs), .val (.ref es), .val (.int (1 : Int32))] [(.int y0), (.int (if (0 : Int32) < k then t0 else (0 : Int32)))])
      refine g_icmp_eq X127 hx (hb hby d3_17) 23 20 (by decide) rfl rfl (fun q17 => ?_) (fun q17 => ?_)
      · refine g_iloadN X127 hx rfl (hb hby d3_23) 24 rfl ?_
        refine g_iconst X127 hx (1 : Int32) rfl (hb hby d3_24) 25 rfl ?_
        refine g_icmp_le X127 hx (hb hby d3_25) 44 28 (by decide) rfl rfl (fun q25 => ?_) (fun q25 => ?_)
        · exact absurd q25 (by decide)
        · refine g_aloadN X127 hx rfl rfl (hb hby d3_28) 29 rfl ?_
          refine g_aloadN X127 hx rfl rfl (hb hby d3_29) 30 rfl ?_
          refine g_iconst X127 hx (1 : Int32) rfl (hb hby d3_30) 31 rfl ?_
          refine g_iaload X127 hx hZ e130 F142 (by decide) rfl (hb hby d3_31) 32 rfl ?_
          show Go p_ e_ below _ T125 (mkF m_ 32 #[.val (.ref a), .val (.int (2 : Int32)), .val (.ref cs), .val (.ref es), .val (.int (1 : Int32))] [(.int x1), (.ref a)])
          refine g_callV X127 hx hZ hown (wd hw 37 rfl) (C := "com/example/redshank/redshank/engine/Choices") (wd hw 38 rfl) (wd hw 40 rfl) (wd hw 39 rfl) (wd hw 3 rfl) (wd hw 41 rfl) (by decide) e130 [(.int x1)] [] E133 rfl (co8_1 l Z a0 hw a x1 tk ct k (if (0 : Int32) < k then t0 else (0 : Int32)) t1 t2 t3 (if (0 : Int32) < k then c0 else x0) c1 c2 c3 h129 n0 szh144 g_a g_tk g_ct E133 F134 F135 F136 F137 A138 A139 ne_tc ne_ta ne_ca) (lenOf pd_0 rfl) 0 (Nat.le_of_eq rfl) (by decide) (by decide) (by decide) (by decide) (by rw [hml]; rfl) (hb hby d3_32) 35 rfl (fun r146 T147 L148 X149 Q150 => ?_)
          obtain ⟨h151, e152⟩ : ∃ h, T147.heap = h := ⟨_, rfl⟩
          rw [e152] at Q150
          obtain ⟨rfl, n153, K154, E155, F156, F157, F158, F159, A160, A161⟩ := Q150
          have N162 := Fr.app N140 n153
          have F163 := E133.keep K154
          have F164 := F142.keep K154 (ninS ne_cs_a (ninS ne_cs_tk (ninS ne_cs_ct nin0)))
          have F165 := F143.keep K154 (ninS ne_es_a (ninS ne_es_tk (ninS ne_es_ct nin0)))
          have szh166 : n0 ≤ h151.size := Nat.le_trans szh144 K154.1
          have K167 := K145.trans K154 (allS (Or.inl (List.mem_of_getElem? (i := 0) rfl)) (allS (Or.inl (List.mem_of_getElem? (i := 1) rfl)) (allS (Or.inl (List.mem_of_getElem? (i := 2) rfl)) all0)))
          show Go p_ e_ below _ T147 (mkF m_ 35 #[.val (.ref a), .val (.int (2 : Int32)), .val (.ref cs), .val (.ref es), .val (.int (1 : Int32))] [(.int (if (1 : Int32) < k then t1 else (0 : Int32)))])
          refine g_aloadN X149 hx rfl rfl (hb hby d3_35) 36 rfl ?_
          refine g_iconst X149 hx (1 : Int32) rfl (hb hby d3_36) 37 rfl ?_
          refine g_iaload X149 hx hZ e152 F165 (by decide) rfl (hb hby d3_37) 38 rfl ?_
          show Go p_ e_ below _ T147 (mkF m_ 38 #[.val (.ref a), .val (.int (2 : Int32)), .val (.ref cs), .val (.ref es), .val (.int (1 : Int32))] [(.int y1), (.int (if (1 : Int32) < k then t1 else (0 : Int32)))])
          refine g_icmp_eq X149 hx (hb hby d3_38) 44 41 (by decide) rfl rfl (fun q38 => ?_) (fun q38 => ?_)
          · refine g_iloadN X149 hx rfl (hb hby d3_44) 45 rfl ?_
            refine g_iconst X149 hx (2 : Int32) rfl (hb hby d3_45) 46 rfl ?_
            refine g_icmp_le X149 hx (hb hby d3_46) 65 49 (by decide) rfl rfl (fun q46 => ?_) (fun q46 => ?_)
            · refine g_iload X149 hx rfl (hb hby d3_65) 67 rfl ?_
              exact g_retz X149 hx hret hlk (by decide) (by decide) (hb hby d3_67) (by rw [e152]; exact ⟨rfl, N162, K167, E155, F156, F157, F158, F159, (by rw [show tn (0 : Int32) (2 : Int32) k t0 = (if (0 : Int32) < k then t0 else (0 : Int32)) from if_pos (by decide), show tn (1 : Int32) (2 : Int32) k t1 = (if (1 : Int32) < k then t1 else (0 : Int32)) from if_pos (by decide), show tn (2 : Int32) (2 : Int32) k t2 = t2 from if_neg (by decide)]; exact A160), (by rw [show cn (0 : Int32) (2 : Int32) k c0 x0 = (if (0 : Int32) < k then c0 else x0) from if_pos (by decide), show cn (1 : Int32) (2 : Int32) k c1 x1 = (if (1 : Int32) < k then c1 else x1) from if_pos (by decide), show cn (2 : Int32) (2 : Int32) k c2 x2 = c2 from if_neg (by decide)]; exact A161)⟩)
            · exact absurd q46 (by decide)
          · exact absurd (he1 (by decide)) q38
      · exact absurd (he0 (by decide)) q17
  · show Go p_ e_ below _ T0 (mkF m_ 0 #[.val (.ref a), .val (.int (3 : Int32)), .val (.ref cs), .val (.ref es), .unset] [])
    refine g_iconst X0 hx (1 : Int32) rfl (hb hby d3_0) 1 rfl ?_
    refine g_istore X0 hx #[.val (.ref a), .val (.int (3 : Int32)), .val (.ref cs), .val (.ref es), .val (.int (1 : Int32))] rfl (hb hby d3_1) 3 rfl ?_
    refine g_iloadN X0 hx rfl (hb hby d3_3) 4 rfl ?_
    refine g_if_le X0 hx (hb hby d3_4) 23 7 (by decide) rfl rfl (fun q4 => ?_) (fun q4 => ?_)
    · exact absurd q4 (by decide)
    · refine g_aloadN X0 hx rfl rfl (hb hby d3_7) 8 rfl ?_
      refine g_aloadN X0 hx rfl rfl (hb hby d3_8) 9 rfl ?_
      refine g_iconst X0 hx (0 : Int32) rfl (hb hby d3_9) 10 rfl ?_
      refine g_iaload X0 hx hZ eq0 A_cs (by decide) rfl (hb hby d3_10) 11 rfl ?_
      show Go p_ e_ below _ T0 (mkF m_ 11 #[.val (.ref a), .val (.int (3 : Int32)), .val (.ref cs), .val (.ref es), .val (.int (1 : Int32))] [(.int x0), (.ref a)])
      refine g_callV X0 hx hZ hown (wd hw 37 rfl) (C := "com/example/redshank/redshank/engine/Choices") (wd hw 38 rfl) (wd hw 40 rfl) (wd hw 39 rfl) (wd hw 3 rfl) (wd hw 41 rfl) (by decide) eq0 [(.int x0)] [] E_a rfl (co8_0 l Z a0 hw a x0 tk ct k t0 t1 t2 t3 c0 c1 c2 c3 h0 n0 Z0 g_a g_tk g_ct E_a F_taken F_counts F_kept F_met A_tk A_ct ne_tc ne_ta ne_ca) (lenOf pd_0 rfl) 0 (Nat.le_of_eq rfl) (by decide) (by decide) (by decide) (by decide) (by rw [hml]; rfl) (hb hby d3_11) 14 rfl (fun r168 T169 L170 X171 Q172 => ?_)
      obtain ⟨h173, e174⟩ : ∃ h, T169.heap = h := ⟨_, rfl⟩
      rw [e174] at Q172
      obtain ⟨rfl, n175, K176, E177, F178, F179, F180, F181, A182, A183⟩ := Q172
      have N184 := Fr.app N0 n175
      have F185 := E_a.keep K176
      have F186 := A_cs.keep K176 (ninS ne_cs_a (ninS ne_cs_tk (ninS ne_cs_ct nin0)))
      have F187 := A_es.keep K176 (ninS ne_es_a (ninS ne_es_tk (ninS ne_es_ct nin0)))
      have szh188 : n0 ≤ h173.size := Nat.le_trans Z0 K176.1
      have K189 := (Keep.refl h0 [a, tk, ct]).trans K176 (allS (Or.inl (List.mem_of_getElem? (i := 0) rfl)) (allS (Or.inl (List.mem_of_getElem? (i := 1) rfl)) (allS (Or.inl (List.mem_of_getElem? (i := 2) rfl)) all0)))
      show Go p_ e_ below _ T169 (mkF m_ 14 #[.val (.ref a), .val (.int (3 : Int32)), .val (.ref cs), .val (.ref es), .val (.int (1 : Int32))] [(.int (if (0 : Int32) < k then t0 else (0 : Int32)))])
      refine g_aloadN X171 hx rfl rfl (hb hby d3_14) 15 rfl ?_
      refine g_iconst X171 hx (0 : Int32) rfl (hb hby d3_15) 16 rfl ?_
      refine g_iaload X171 hx hZ e174 F187 (by decide) rfl (hb hby d3_16) 17 rfl ?_
      show Go p_ e_ below _ T169 (mkF m_ 17 #[.val (.ref a), .val (.int (3 : Int32)), .val (.ref cs), .val (.ref es), .val (.int (1 : Int32))] [(.int y0), (.int (if (0 : Int32) < k then t0 else (0 : Int32)))])
      refine g_icmp_eq X171 hx (hb hby d3_17) 23 20 (by decide) rfl rfl (fun q17 => ?_) (fun q17 => ?_)
      · refine g_iloadN X171 hx rfl (hb hby d3_23) 24 rfl ?_
        refine g_iconst X171 hx (1 : Int32) rfl (hb hby d3_24) 25 rfl ?_
        refine g_icmp_le X171 hx (hb hby d3_25) 44 28 (by decide) rfl rfl (fun q25 => ?_) (fun q25 => ?_)
        · exact absurd q25 (by decide)
        · refine g_aloadN X171 hx rfl rfl (hb hby d3_28) 29 rfl ?_
          refine g_aloadN X171 hx rfl rfl (hb hby d3_29) 30 rfl ?_
          refine g_iconst X171 hx (1 : Int32) rfl (hb hby d3_30) 31 rfl ?_
          refine g_iaload X171 hx hZ e174 F186 (by decide) rfl (hb hby d3_31) 32 rfl ?_
          show Go p_ e_ below _ T169 (mkF m_ 32 #[.val (.ref a), .val (.int (3 : Int32)), .val (.ref cs), .val (.ref es), .val (.int (1 : Int32))] [(.int x1), (.ref a)])
          refine g_callV X171 hx hZ hown (wd hw 37 rfl) (C := "com/example/redshank/redshank/engine/Choices") (wd hw 38 rfl) (wd hw 40 rfl) (wd hw 39 rfl) (wd hw 3 rfl) (wd hw 41 rfl) (by decide) e174 [(.int x1)] [] E177 rfl (co8_1 l Z a0 hw a x1 tk ct k (if (0 : Int32) < k then t0 else (0 : Int32)) t1 t2 t3 (if (0 : Int32) < k then c0 else x0) c1 c2 c3 h173 n0 szh188 g_a g_tk g_ct E177 F178 F179 F180 F181 A182 A183 ne_tc ne_ta ne_ca) (lenOf pd_0 rfl) 0 (Nat.le_of_eq rfl) (by decide) (by decide) (by decide) (by decide) (by rw [hml]; rfl) (hb hby d3_32) 35 rfl (fun r190 T191 L192 X193 Q194 => ?_)
          obtain ⟨h195, e196⟩ : ∃ h, T191.heap = h := ⟨_, rfl⟩
          rw [e196] at Q194
          obtain ⟨rfl, n197, K198, E199, F200, F201, F202, F203, A204, A205⟩ := Q194
          have N206 := Fr.app N184 n197
          have F207 := E177.keep K198
          have F208 := F186.keep K198 (ninS ne_cs_a (ninS ne_cs_tk (ninS ne_cs_ct nin0)))
          have F209 := F187.keep K198 (ninS ne_es_a (ninS ne_es_tk (ninS ne_es_ct nin0)))
          have szh210 : n0 ≤ h195.size := Nat.le_trans szh188 K198.1
          have K211 := K189.trans K198 (allS (Or.inl (List.mem_of_getElem? (i := 0) rfl)) (allS (Or.inl (List.mem_of_getElem? (i := 1) rfl)) (allS (Or.inl (List.mem_of_getElem? (i := 2) rfl)) all0)))
          show Go p_ e_ below _ T191 (mkF m_ 35 #[.val (.ref a), .val (.int (3 : Int32)), .val (.ref cs), .val (.ref es), .val (.int (1 : Int32))] [(.int (if (1 : Int32) < k then t1 else (0 : Int32)))])
          refine g_aloadN X193 hx rfl rfl (hb hby d3_35) 36 rfl ?_
          refine g_iconst X193 hx (1 : Int32) rfl (hb hby d3_36) 37 rfl ?_
          refine g_iaload X193 hx hZ e196 F209 (by decide) rfl (hb hby d3_37) 38 rfl ?_
          show Go p_ e_ below _ T191 (mkF m_ 38 #[.val (.ref a), .val (.int (3 : Int32)), .val (.ref cs), .val (.ref es), .val (.int (1 : Int32))] [(.int y1), (.int (if (1 : Int32) < k then t1 else (0 : Int32)))])
          refine g_icmp_eq X193 hx (hb hby d3_38) 44 41 (by decide) rfl rfl (fun q38 => ?_) (fun q38 => ?_)
          · refine g_iloadN X193 hx rfl (hb hby d3_44) 45 rfl ?_
            refine g_iconst X193 hx (2 : Int32) rfl (hb hby d3_45) 46 rfl ?_
            refine g_icmp_le X193 hx (hb hby d3_46) 65 49 (by decide) rfl rfl (fun q46 => ?_) (fun q46 => ?_)
            · exact absurd q46 (by decide)
            · refine g_aloadN X193 hx rfl rfl (hb hby d3_49) 50 rfl ?_
              refine g_aloadN X193 hx rfl rfl (hb hby d3_50) 51 rfl ?_
              refine g_iconst X193 hx (2 : Int32) rfl (hb hby d3_51) 52 rfl ?_
              refine g_iaload X193 hx hZ e196 F208 (by decide) rfl (hb hby d3_52) 53 rfl ?_
              show Go p_ e_ below _ T191 (mkF m_ 53 #[.val (.ref a), .val (.int (3 : Int32)), .val (.ref cs), .val (.ref es), .val (.int (1 : Int32))] [(.int x2), (.ref a)])
              refine g_callV X193 hx hZ hown (wd hw 37 rfl) (C := "com/example/redshank/redshank/engine/Choices") (wd hw 38 rfl) (wd hw 40 rfl) (wd hw 39 rfl) (wd hw 3 rfl) (wd hw 41 rfl) (by decide) e196 [(.int x2)] [] E199 rfl (co8_2 l Z a0 hw a x2 tk ct k (if (0 : Int32) < k then t0 else (0 : Int32)) (if (1 : Int32) < k then t1 else (0 : Int32)) t2 t3 (if (0 : Int32) < k then c0 else x0) (if (1 : Int32) < k then c1 else x1) c2 c3 h195 n0 szh210 g_a g_tk g_ct E199 F200 F201 F202 F203 A204 A205 ne_tc ne_ta ne_ca) (lenOf pd_0 rfl) 0 (Nat.le_of_eq rfl) (by decide) (by decide) (by decide) (by decide) (by rw [hml]; rfl) (hb hby d3_53) 56 rfl (fun r212 T213 L214 X215 Q216 => ?_)
              obtain ⟨h217, e218⟩ : ∃ h, T213.heap = h := ⟨_, rfl⟩
              rw [e218] at Q216
              obtain ⟨rfl, n219, K220, E221, F222, F223, F224, F225, A226, A227⟩ := Q216
              have N228 := Fr.app N206 n219
              have F229 := E199.keep K220
              have F230 := F208.keep K220 (ninS ne_cs_a (ninS ne_cs_tk (ninS ne_cs_ct nin0)))
              have F231 := F209.keep K220 (ninS ne_es_a (ninS ne_es_tk (ninS ne_es_ct nin0)))
              have szh232 : n0 ≤ h217.size := Nat.le_trans szh210 K220.1
              have K233 := K211.trans K220 (allS (Or.inl (List.mem_of_getElem? (i := 0) rfl)) (allS (Or.inl (List.mem_of_getElem? (i := 1) rfl)) (allS (Or.inl (List.mem_of_getElem? (i := 2) rfl)) all0)))
              show Go p_ e_ below _ T213 (mkF m_ 56 #[.val (.ref a), .val (.int (3 : Int32)), .val (.ref cs), .val (.ref es), .val (.int (1 : Int32))] [(.int (if (2 : Int32) < k then t2 else (0 : Int32)))])
              refine g_aloadN X215 hx rfl rfl (hb hby d3_56) 57 rfl ?_
              refine g_iconst X215 hx (2 : Int32) rfl (hb hby d3_57) 58 rfl ?_
              refine g_iaload X215 hx hZ e218 F231 (by decide) rfl (hb hby d3_58) 59 rfl ?_
              show Go p_ e_ below _ T213 (mkF m_ 59 #[.val (.ref a), .val (.int (3 : Int32)), .val (.ref cs), .val (.ref es), .val (.int (1 : Int32))] [(.int y2), (.int (if (2 : Int32) < k then t2 else (0 : Int32)))])
              refine g_icmp_eq X215 hx (hb hby d3_59) 65 62 (by decide) rfl rfl (fun q59 => ?_) (fun q59 => ?_)
              · refine g_iload X215 hx rfl (hb hby d3_65) 67 rfl ?_
                exact g_retz X215 hx hret hlk (by decide) (by decide) (hb hby d3_67) (by rw [e218]; exact ⟨rfl, N228, K233, E221, F222, F223, F224, F225, (by rw [show tn (0 : Int32) (3 : Int32) k t0 = (if (0 : Int32) < k then t0 else (0 : Int32)) from if_pos (by decide), show tn (1 : Int32) (3 : Int32) k t1 = (if (1 : Int32) < k then t1 else (0 : Int32)) from if_pos (by decide), show tn (2 : Int32) (3 : Int32) k t2 = (if (2 : Int32) < k then t2 else (0 : Int32)) from if_pos (by decide)]; exact A226), (by rw [show cn (0 : Int32) (3 : Int32) k c0 x0 = (if (0 : Int32) < k then c0 else x0) from if_pos (by decide), show cn (1 : Int32) (3 : Int32) k c1 x1 = (if (1 : Int32) < k then c1 else x1) from if_pos (by decide), show cn (2 : Int32) (3 : Int32) k c2 x2 = (if (2 : Int32) < k then c2 else x2) from if_pos (by decide)]; exact A227)⟩)
              · exact absurd (he2 (by decide)) q59
          · exact absurd (he1 (by decide)) q38
      · exact absurd (he0 (by decide)) q17
theorem d4_0 : decode method_3_code 0 = .ok (.iload_n 2, 1) := by decide +kernel
theorem d4_1 : decode method_3_code 1 = .ok (.iconst 2, 1) := by decide +kernel
theorem d4_2 : decode method_3_code 2 = .ok (.if_icmp .le 16, 3) := by decide +kernel
theorem d4_18 : decode method_3_code 18 = .ok (.iload_n 2, 1) := by decide +kernel
theorem d4_19 : decode method_3_code 19 = .ok (.iconst 1, 1) := by decide +kernel
theorem d4_20 : decode method_3_code 20 = .ok (.if_icmp .le 16, 3) := by decide +kernel
theorem d4_36 : decode method_3_code 36 = .ok (.iload_n 2, 1) := by decide +kernel
theorem d4_37 : decode method_3_code 37 = .ok (.ifCond .le 16, 3) := by decide +kernel
theorem d4_53 : decode method_3_code 53 = .ok (.iconst (-1), 1) := by decide +kernel
theorem d4_40 : decode method_3_code 40 = .ok (.aload_n 0, 1) := by decide +kernel
theorem d4_41 : decode method_3_code 41 = .ok (.iconst 0, 1) := by decide +kernel
theorem d4_42 : decode method_3_code 42 = .ok (.iaload, 1) := by decide +kernel
theorem d4_43 : decode method_3_code 43 = .ok (.aload_n 1, 1) := by decide +kernel
theorem d4_44 : decode method_3_code 44 = .ok (.iconst 0, 1) := by decide +kernel
theorem d4_45 : decode method_3_code 45 = .ok (.iaload, 1) := by decide +kernel
theorem d4_46 : decode method_3_code 46 = .ok (.iconst 1, 1) := by decide +kernel
theorem d4_47 : decode method_3_code 47 = .ok (.isub, 1) := by decide +kernel
theorem d4_48 : decode method_3_code 48 = .ok (.if_icmp .eq 5, 3) := by decide +kernel
theorem d4_51 : decode method_3_code 51 = .ok (.iconst 0, 1) := by decide +kernel
theorem d4_23 : decode method_3_code 23 = .ok (.aload_n 0, 1) := by decide +kernel
theorem d4_24 : decode method_3_code 24 = .ok (.iconst 1, 1) := by decide +kernel
theorem d4_25 : decode method_3_code 25 = .ok (.iaload, 1) := by decide +kernel
theorem d4_26 : decode method_3_code 26 = .ok (.aload_n 1, 1) := by decide +kernel
theorem d4_27 : decode method_3_code 27 = .ok (.iconst 1, 1) := by decide +kernel
theorem d4_28 : decode method_3_code 28 = .ok (.iaload, 1) := by decide +kernel
theorem d4_29 : decode method_3_code 29 = .ok (.iconst 1, 1) := by decide +kernel
theorem d4_30 : decode method_3_code 30 = .ok (.isub, 1) := by decide +kernel
theorem d4_31 : decode method_3_code 31 = .ok (.if_icmp .eq 5, 3) := by decide +kernel
theorem d4_34 : decode method_3_code 34 = .ok (.iconst 1, 1) := by decide +kernel
theorem d4_5 : decode method_3_code 5 = .ok (.aload_n 0, 1) := by decide +kernel
theorem d4_6 : decode method_3_code 6 = .ok (.iconst 2, 1) := by decide +kernel
theorem d4_7 : decode method_3_code 7 = .ok (.iaload, 1) := by decide +kernel
theorem d4_8 : decode method_3_code 8 = .ok (.aload_n 1, 1) := by decide +kernel
theorem d4_9 : decode method_3_code 9 = .ok (.iconst 2, 1) := by decide +kernel
theorem d4_10 : decode method_3_code 10 = .ok (.iaload, 1) := by decide +kernel
theorem d4_11 : decode method_3_code 11 = .ok (.iconst 1, 1) := by decide +kernel
theorem d4_12 : decode method_3_code 12 = .ok (.isub, 1) := by decide +kernel
theorem d4_13 : decode method_3_code 13 = .ok (.if_icmp .eq 5, 3) := by decide +kernel
theorem d4_16 : decode method_3_code 16 = .ok (.iconst 2, 1) := by decide +kernel
def lo (n : Int32) (t0 : Int32) (t1 : Int32) (t2 : Int32) (c0 : Int32) (c1 : Int32) (c2 : Int32) : Int32 := if (2 : Int32) < n then (if t2 = (c2 - (1 : Int32)) then (if (1 : Int32) < n then (if t1 = (c1 - (1 : Int32)) then (if (0 : Int32) < n then (if t0 = (c0 - (1 : Int32)) then (-1 : Int32) else (0 : Int32)) else (-1 : Int32)) else (1 : Int32)) else (if (0 : Int32) < n then (if t0 = (c0 - (1 : Int32)) then (-1 : Int32) else (0 : Int32)) else (-1 : Int32))) else (2 : Int32)) else (if (1 : Int32) < n then (if t1 = (c1 - (1 : Int32)) then (if (0 : Int32) < n then (if t0 = (c0 - (1 : Int32)) then (-1 : Int32) else (0 : Int32)) else (-1 : Int32)) else (1 : Int32)) else (if (0 : Int32) < n then (if t0 = (c0 - (1 : Int32)) then (-1 : Int32) else (0 : Int32)) else (-1 : Int32)))
theorem ef4 (m_ : MethodId) (a : Addr) (b : Addr) (n : Int32)  : entryFrame m_ #[(.ref a), (.ref b), (.int n)] 3 = mkF m_ 0 #[.val (.ref a), .val (.ref b), .val (.int n)] [] := by first | (simp [entryFrame, mkF, argsToLocals, Value.category]; done) | rfl
theorem d4_54 : decode method_3_code 54 = .ok (.ireturn, 1) := by decide +kernel
theorem d4_52 : decode method_3_code 52 = .ok (.ireturn, 1) := by decide +kernel
theorem d4_35 : decode method_3_code 35 = .ok (.ireturn, 1) := by decide +kernel
theorem d4_17 : decode method_3_code 17 = .ok (.ireturn, 1) := by decide +kernel
set_option maxRecDepth 65536 in
set_option maxHeartbeats 40000000 in
theorem co4 (l : Launch) (Z : State) (a0 : Array Value) (hw : ∀ d ∈ tables_1, d.before a0 Z = true) (a : Addr) (b : Addr) (n : Int32) (t0 : Int32) (t1 : Int32) (t2 : Int32) (c0 : Int32) (c1 : Int32) (c2 : Int32) (h0 : Heap) (A_a : AV Z h0 a .int [(.int t0), (.int t1), (.int t2)]) (A_b : AV Z h0 b .int [(.int c0), (.int c1), (.int c2)]) : Co l (⟨"com/example/redshank/redshank/engine/ChoicesNextPinLaw", "lastOpen", "([I[II)I"⟩ : MethodName) method_3_code 3 (some .int) [] ({ frames := 0, cells := 0, slots := 0, locals := 0 } : Room) Z h0 #[(.ref a), (.ref b), (.int n)] (Pu h0 (some (.int (lo n t0 t1 t2 c0 c1 c2)))) := by
  refine Co.of (plainFor_of_name pn_1) ?_
  intro p_ e_ s_ m_ below meth c_ T0 X0 hx hby hml hown hnm hret hlk hZ eq0
  refine Go.cast (ef4 m_ a b n ) ?_
  refine g_iloadN X0 hx rfl (hb hby d4_0) 1 rfl ?_
  refine g_iconst X0 hx (2 : Int32) rfl (hb hby d4_1) 2 rfl ?_
  refine g_icmp_le X0 hx (hb hby d4_2) 18 5 (by decide) rfl rfl (fun q2 => ?_) (fun q2 => ?_)
  · refine g_iloadN X0 hx rfl (hb hby d4_18) 19 rfl ?_
    refine g_iconst X0 hx (1 : Int32) rfl (hb hby d4_19) 20 rfl ?_
    refine g_icmp_le X0 hx (hb hby d4_20) 36 23 (by decide) rfl rfl (fun q20 => ?_) (fun q20 => ?_)
    · refine g_iloadN X0 hx rfl (hb hby d4_36) 37 rfl ?_
      refine g_if_le X0 hx (hb hby d4_37) 53 40 (by decide) rfl rfl (fun q37 => ?_) (fun q37 => ?_)
      · refine g_iconst X0 hx (-1 : Int32) rfl (hb hby d4_53) 54 rfl ?_
        exact g_reti X0 hx hret hlk (by decide) (by decide) (hb hby d4_54) ⟨congrArg (fun z => some (Value.int z)) (show lo n t0 t1 t2 c0 c1 c2 = _ from ((if_neg q2).trans ((if_neg q20).trans ((if_neg q37).trans rfl)))).symm, eq0, rfl⟩
      · refine g_aloadN X0 hx rfl rfl (hb hby d4_40) 41 rfl ?_
        refine g_iconst X0 hx (0 : Int32) rfl (hb hby d4_41) 42 rfl ?_
        refine g_iaload X0 hx hZ eq0 A_a (by decide) rfl (hb hby d4_42) 43 rfl ?_
        show Go p_ e_ below _ T0 (mkF m_ 43 #[.val (.ref a), .val (.ref b), .val (.int n)] [(.int t0)])
        refine g_aloadN X0 hx rfl rfl (hb hby d4_43) 44 rfl ?_
        refine g_iconst X0 hx (0 : Int32) rfl (hb hby d4_44) 45 rfl ?_
        refine g_iaload X0 hx hZ eq0 A_b (by decide) rfl (hb hby d4_45) 46 rfl ?_
        show Go p_ e_ below _ T0 (mkF m_ 46 #[.val (.ref a), .val (.ref b), .val (.int n)] [(.int c0), (.int t0)])
        refine g_iconst X0 hx (1 : Int32) rfl (hb hby d4_46) 47 rfl ?_
        refine g_isub X0 hx (hb hby d4_47) 48 rfl ?_
        refine g_icmp_eq X0 hx (hb hby d4_48) 53 51 (by decide) rfl rfl (fun q48 => ?_) (fun q48 => ?_)
        · refine g_iconst X0 hx (-1 : Int32) rfl (hb hby d4_53) 54 rfl ?_
          exact g_reti X0 hx hret hlk (by decide) (by decide) (hb hby d4_54) ⟨congrArg (fun z => some (Value.int z)) (show lo n t0 t1 t2 c0 c1 c2 = _ from ((if_neg q2).trans ((if_neg q20).trans ((if_pos q37).trans ((if_pos q48).trans rfl))))).symm, eq0, rfl⟩
        · refine g_iconst X0 hx (0 : Int32) rfl (hb hby d4_51) 52 rfl ?_
          exact g_reti X0 hx hret hlk (by decide) (by decide) (hb hby d4_52) ⟨congrArg (fun z => some (Value.int z)) (show lo n t0 t1 t2 c0 c1 c2 = _ from ((if_neg q2).trans ((if_neg q20).trans ((if_pos q37).trans ((if_neg q48).trans rfl))))).symm, eq0, rfl⟩
    · refine g_aloadN X0 hx rfl rfl (hb hby d4_23) 24 rfl ?_
      refine g_iconst X0 hx (1 : Int32) rfl (hb hby d4_24) 25 rfl ?_
      refine g_iaload X0 hx hZ eq0 A_a (by decide) rfl (hb hby d4_25) 26 rfl ?_
      show Go p_ e_ below _ T0 (mkF m_ 26 #[.val (.ref a), .val (.ref b), .val (.int n)] [(.int t1)])
      refine g_aloadN X0 hx rfl rfl (hb hby d4_26) 27 rfl ?_
      refine g_iconst X0 hx (1 : Int32) rfl (hb hby d4_27) 28 rfl ?_
      refine g_iaload X0 hx hZ eq0 A_b (by decide) rfl (hb hby d4_28) 29 rfl ?_
      show Go p_ e_ below _ T0 (mkF m_ 29 #[.val (.ref a), .val (.ref b), .val (.int n)] [(.int c1), (.int t1)])
      refine g_iconst X0 hx (1 : Int32) rfl (hb hby d4_29) 30 rfl ?_
      refine g_isub X0 hx (hb hby d4_30) 31 rfl ?_
      refine g_icmp_eq X0 hx (hb hby d4_31) 36 34 (by decide) rfl rfl (fun q31 => ?_) (fun q31 => ?_)
      · refine g_iloadN X0 hx rfl (hb hby d4_36) 37 rfl ?_
        refine g_if_le X0 hx (hb hby d4_37) 53 40 (by decide) rfl rfl (fun q37 => ?_) (fun q37 => ?_)
        · refine g_iconst X0 hx (-1 : Int32) rfl (hb hby d4_53) 54 rfl ?_
          exact g_reti X0 hx hret hlk (by decide) (by decide) (hb hby d4_54) ⟨congrArg (fun z => some (Value.int z)) (show lo n t0 t1 t2 c0 c1 c2 = _ from ((if_neg q2).trans ((if_pos q20).trans ((if_pos q31).trans ((if_neg q37).trans rfl))))).symm, eq0, rfl⟩
        · refine g_aloadN X0 hx rfl rfl (hb hby d4_40) 41 rfl ?_
          refine g_iconst X0 hx (0 : Int32) rfl (hb hby d4_41) 42 rfl ?_
          refine g_iaload X0 hx hZ eq0 A_a (by decide) rfl (hb hby d4_42) 43 rfl ?_
          show Go p_ e_ below _ T0 (mkF m_ 43 #[.val (.ref a), .val (.ref b), .val (.int n)] [(.int t0)])
          refine g_aloadN X0 hx rfl rfl (hb hby d4_43) 44 rfl ?_
          refine g_iconst X0 hx (0 : Int32) rfl (hb hby d4_44) 45 rfl ?_
          refine g_iaload X0 hx hZ eq0 A_b (by decide) rfl (hb hby d4_45) 46 rfl ?_
          show Go p_ e_ below _ T0 (mkF m_ 46 #[.val (.ref a), .val (.ref b), .val (.int n)] [(.int c0), (.int t0)])
          refine g_iconst X0 hx (1 : Int32) rfl (hb hby d4_46) 47 rfl ?_
          refine g_isub X0 hx (hb hby d4_47) 48 rfl ?_
          refine g_icmp_eq X0 hx (hb hby d4_48) 53 51 (by decide) rfl rfl (fun q48 => ?_) (fun q48 => ?_)
          · refine g_iconst X0 hx (-1 : Int32) rfl (hb hby d4_53) 54 rfl ?_
            exact g_reti X0 hx hret hlk (by decide) (by decide) (hb hby d4_54) ⟨congrArg (fun z => some (Value.int z)) (show lo n t0 t1 t2 c0 c1 c2 = _ from ((if_neg q2).trans ((if_pos q20).trans ((if_pos q31).trans ((if_pos q37).trans ((if_pos q48).trans rfl)))))).symm, eq0, rfl⟩
          · refine g_iconst X0 hx (0 : Int32) rfl (hb hby d4_51) 52 rfl ?_
            exact g_reti X0 hx hret hlk (by decide) (by decide) (hb hby d4_52) ⟨congrArg (fun z => some (Value.int z)) (show lo n t0 t1 t2 c0 c1 c2 = _ from ((if_neg q2).trans ((if_pos q20).trans ((if_pos q31).trans ((if_pos q37).trans ((if_neg q48).trans rfl)))))).symm, eq0, rfl⟩
      · refine g_iconst X0 hx (1 : Int32) rfl (hb hby d4_34) 35 rfl ?_
        exact g_reti X0 hx hret hlk (by decide) (by decide) (hb hby d4_35) ⟨congrArg (fun z => some (Value.int z)) (show lo n t0 t1 t2 c0 c1 c2 = _ from ((if_neg q2).trans ((if_pos q20).trans ((if_neg q31).trans rfl)))).symm, eq0, rfl⟩
  · refine g_aloadN X0 hx rfl rfl (hb hby d4_5) 6 rfl ?_
    refine g_iconst X0 hx (2 : Int32) rfl (hb hby d4_6) 7 rfl ?_
    refine g_iaload X0 hx hZ eq0 A_a (by decide) rfl (hb hby d4_7) 8 rfl ?_
    show Go p_ e_ below _ T0 (mkF m_ 8 #[.val (.ref a), .val (.ref b), .val (.int n)] [(.int t2)])
    refine g_aloadN X0 hx rfl rfl (hb hby d4_8) 9 rfl ?_
    refine g_iconst X0 hx (2 : Int32) rfl (hb hby d4_9) 10 rfl ?_
    refine g_iaload X0 hx hZ eq0 A_b (by decide) rfl (hb hby d4_10) 11 rfl ?_
    show Go p_ e_ below _ T0 (mkF m_ 11 #[.val (.ref a), .val (.ref b), .val (.int n)] [(.int c2), (.int t2)])
    refine g_iconst X0 hx (1 : Int32) rfl (hb hby d4_11) 12 rfl ?_
    refine g_isub X0 hx (hb hby d4_12) 13 rfl ?_
    refine g_icmp_eq X0 hx (hb hby d4_13) 18 16 (by decide) rfl rfl (fun q13 => ?_) (fun q13 => ?_)
    · refine g_iloadN X0 hx rfl (hb hby d4_18) 19 rfl ?_
      refine g_iconst X0 hx (1 : Int32) rfl (hb hby d4_19) 20 rfl ?_
      refine g_icmp_le X0 hx (hb hby d4_20) 36 23 (by decide) rfl rfl (fun q20 => ?_) (fun q20 => ?_)
      · refine g_iloadN X0 hx rfl (hb hby d4_36) 37 rfl ?_
        refine g_if_le X0 hx (hb hby d4_37) 53 40 (by decide) rfl rfl (fun q37 => ?_) (fun q37 => ?_)
        · refine g_iconst X0 hx (-1 : Int32) rfl (hb hby d4_53) 54 rfl ?_
          exact g_reti X0 hx hret hlk (by decide) (by decide) (hb hby d4_54) ⟨congrArg (fun z => some (Value.int z)) (show lo n t0 t1 t2 c0 c1 c2 = _ from ((if_pos q2).trans ((if_pos q13).trans ((if_neg q20).trans ((if_neg q37).trans rfl))))).symm, eq0, rfl⟩
        · refine g_aloadN X0 hx rfl rfl (hb hby d4_40) 41 rfl ?_
          refine g_iconst X0 hx (0 : Int32) rfl (hb hby d4_41) 42 rfl ?_
          refine g_iaload X0 hx hZ eq0 A_a (by decide) rfl (hb hby d4_42) 43 rfl ?_
          show Go p_ e_ below _ T0 (mkF m_ 43 #[.val (.ref a), .val (.ref b), .val (.int n)] [(.int t0)])
          refine g_aloadN X0 hx rfl rfl (hb hby d4_43) 44 rfl ?_
          refine g_iconst X0 hx (0 : Int32) rfl (hb hby d4_44) 45 rfl ?_
          refine g_iaload X0 hx hZ eq0 A_b (by decide) rfl (hb hby d4_45) 46 rfl ?_
          show Go p_ e_ below _ T0 (mkF m_ 46 #[.val (.ref a), .val (.ref b), .val (.int n)] [(.int c0), (.int t0)])
          refine g_iconst X0 hx (1 : Int32) rfl (hb hby d4_46) 47 rfl ?_
          refine g_isub X0 hx (hb hby d4_47) 48 rfl ?_
          refine g_icmp_eq X0 hx (hb hby d4_48) 53 51 (by decide) rfl rfl (fun q48 => ?_) (fun q48 => ?_)
          · refine g_iconst X0 hx (-1 : Int32) rfl (hb hby d4_53) 54 rfl ?_
            exact g_reti X0 hx hret hlk (by decide) (by decide) (hb hby d4_54) ⟨congrArg (fun z => some (Value.int z)) (show lo n t0 t1 t2 c0 c1 c2 = _ from ((if_pos q2).trans ((if_pos q13).trans ((if_neg q20).trans ((if_pos q37).trans ((if_pos q48).trans rfl)))))).symm, eq0, rfl⟩
          · refine g_iconst X0 hx (0 : Int32) rfl (hb hby d4_51) 52 rfl ?_
            exact g_reti X0 hx hret hlk (by decide) (by decide) (hb hby d4_52) ⟨congrArg (fun z => some (Value.int z)) (show lo n t0 t1 t2 c0 c1 c2 = _ from ((if_pos q2).trans ((if_pos q13).trans ((if_neg q20).trans ((if_pos q37).trans ((if_neg q48).trans rfl)))))).symm, eq0, rfl⟩
      · refine g_aloadN X0 hx rfl rfl (hb hby d4_23) 24 rfl ?_
        refine g_iconst X0 hx (1 : Int32) rfl (hb hby d4_24) 25 rfl ?_
        refine g_iaload X0 hx hZ eq0 A_a (by decide) rfl (hb hby d4_25) 26 rfl ?_
        show Go p_ e_ below _ T0 (mkF m_ 26 #[.val (.ref a), .val (.ref b), .val (.int n)] [(.int t1)])
        refine g_aloadN X0 hx rfl rfl (hb hby d4_26) 27 rfl ?_
        refine g_iconst X0 hx (1 : Int32) rfl (hb hby d4_27) 28 rfl ?_
        refine g_iaload X0 hx hZ eq0 A_b (by decide) rfl (hb hby d4_28) 29 rfl ?_
        show Go p_ e_ below _ T0 (mkF m_ 29 #[.val (.ref a), .val (.ref b), .val (.int n)] [(.int c1), (.int t1)])
        refine g_iconst X0 hx (1 : Int32) rfl (hb hby d4_29) 30 rfl ?_
        refine g_isub X0 hx (hb hby d4_30) 31 rfl ?_
        refine g_icmp_eq X0 hx (hb hby d4_31) 36 34 (by decide) rfl rfl (fun q31 => ?_) (fun q31 => ?_)
        · refine g_iloadN X0 hx rfl (hb hby d4_36) 37 rfl ?_
          refine g_if_le X0 hx (hb hby d4_37) 53 40 (by decide) rfl rfl (fun q37 => ?_) (fun q37 => ?_)
          · refine g_iconst X0 hx (-1 : Int32) rfl (hb hby d4_53) 54 rfl ?_
            exact g_reti X0 hx hret hlk (by decide) (by decide) (hb hby d4_54) ⟨congrArg (fun z => some (Value.int z)) (show lo n t0 t1 t2 c0 c1 c2 = _ from ((if_pos q2).trans ((if_pos q13).trans ((if_pos q20).trans ((if_pos q31).trans ((if_neg q37).trans rfl)))))).symm, eq0, rfl⟩
          · refine g_aloadN X0 hx rfl rfl (hb hby d4_40) 41 rfl ?_
            refine g_iconst X0 hx (0 : Int32) rfl (hb hby d4_41) 42 rfl ?_
            refine g_iaload X0 hx hZ eq0 A_a (by decide) rfl (hb hby d4_42) 43 rfl ?_
            show Go p_ e_ below _ T0 (mkF m_ 43 #[.val (.ref a), .val (.ref b), .val (.int n)] [(.int t0)])
            refine g_aloadN X0 hx rfl rfl (hb hby d4_43) 44 rfl ?_
            refine g_iconst X0 hx (0 : Int32) rfl (hb hby d4_44) 45 rfl ?_
            refine g_iaload X0 hx hZ eq0 A_b (by decide) rfl (hb hby d4_45) 46 rfl ?_
            show Go p_ e_ below _ T0 (mkF m_ 46 #[.val (.ref a), .val (.ref b), .val (.int n)] [(.int c0), (.int t0)])
            refine g_iconst X0 hx (1 : Int32) rfl (hb hby d4_46) 47 rfl ?_
            refine g_isub X0 hx (hb hby d4_47) 48 rfl ?_
            refine g_icmp_eq X0 hx (hb hby d4_48) 53 51 (by decide) rfl rfl (fun q48 => ?_) (fun q48 => ?_)
            · refine g_iconst X0 hx (-1 : Int32) rfl (hb hby d4_53) 54 rfl ?_
              exact g_reti X0 hx hret hlk (by decide) (by decide) (hb hby d4_54) ⟨congrArg (fun z => some (Value.int z)) (show lo n t0 t1 t2 c0 c1 c2 = _ from ((if_pos q2).trans ((if_pos q13).trans ((if_pos q20).trans ((if_pos q31).trans ((if_pos q37).trans ((if_pos q48).trans rfl))))))).symm, eq0, rfl⟩
            · refine g_iconst X0 hx (0 : Int32) rfl (hb hby d4_51) 52 rfl ?_
              exact g_reti X0 hx hret hlk (by decide) (by decide) (hb hby d4_52) ⟨congrArg (fun z => some (Value.int z)) (show lo n t0 t1 t2 c0 c1 c2 = _ from ((if_pos q2).trans ((if_pos q13).trans ((if_pos q20).trans ((if_pos q31).trans ((if_pos q37).trans ((if_neg q48).trans rfl))))))).symm, eq0, rfl⟩
        · refine g_iconst X0 hx (1 : Int32) rfl (hb hby d4_34) 35 rfl ?_
          exact g_reti X0 hx hret hlk (by decide) (by decide) (hb hby d4_35) ⟨congrArg (fun z => some (Value.int z)) (show lo n t0 t1 t2 c0 c1 c2 = _ from ((if_pos q2).trans ((if_pos q13).trans ((if_pos q20).trans ((if_neg q31).trans rfl))))).symm, eq0, rfl⟩
    · refine g_iconst X0 hx (2 : Int32) rfl (hb hby d4_16) 17 rfl ?_
      exact g_reti X0 hx hret hlk (by decide) (by decide) (hb hby d4_17) ⟨congrArg (fun z => some (Value.int z)) (show lo n t0 t1 t2 c0 c1 c2 = _ from ((if_pos q2).trans ((if_neg q13).trans rfl))).symm, eq0, rfl⟩
theorem d7_0 : decode method_4_code 0 = .ok (.iload_n 1, 1) := by decide +kernel
theorem d7_1 : decode method_4_code 1 = .ok (.iload_n 2, 1) := by decide +kernel
theorem d7_2 : decode method_4_code 2 = .ok (.if_icmp .ge 7, 3) := by decide +kernel
theorem d7_9 : decode method_4_code 9 = .ok (.iload_n 1, 1) := by decide +kernel
theorem d7_10 : decode method_4_code 10 = .ok (.iload_n 2, 1) := by decide +kernel
theorem d7_11 : decode method_4_code 11 = .ok (.if_icmp .ne 9, 3) := by decide +kernel
theorem d7_20 : decode method_4_code 20 = .ok (.iconst 0, 1) := by decide +kernel
theorem d7_14 : decode method_4_code 14 = .ok (.aload_n 0, 1) := by decide +kernel
theorem d7_15 : decode method_4_code 15 = .ok (.iload_n 1, 1) := by decide +kernel
theorem d7_16 : decode method_4_code 16 = .ok (.iaload, 1) := by decide +kernel
theorem d7_17 : decode method_4_code 17 = .ok (.iconst 1, 1) := by decide +kernel
theorem d7_18 : decode method_4_code 18 = .ok (.iadd, 1) := by decide +kernel
theorem d7_5 : decode method_4_code 5 = .ok (.aload_n 0, 1) := by decide +kernel
theorem d7_6 : decode method_4_code 6 = .ok (.iload_n 1, 1) := by decide +kernel
theorem d7_7 : decode method_4_code 7 = .ok (.iaload, 1) := by decide +kernel
def stp0 (n : Int32) (t0 : Int32) (t1 : Int32) (t2 : Int32) : Int32 := if (0 : Int32) < n then t0 else (if (0 : Int32) = n then (t0 + (1 : Int32)) else (0 : Int32))
theorem ef7_0 (m_ : MethodId) (a : Addr) (n : Int32)  : entryFrame m_ #[(.ref a), (.int (0 : Int32)), (.int n)] 3 = mkF m_ 0 #[.val (.ref a), .val (.int (0 : Int32)), .val (.int n)] [] := by first | (simp [entryFrame, mkF, argsToLocals, Value.category]; done) | rfl
theorem d7_21 : decode method_4_code 21 = .ok (.ireturn, 1) := by decide +kernel
theorem d7_19 : decode method_4_code 19 = .ok (.ireturn, 1) := by decide +kernel
theorem d7_8 : decode method_4_code 8 = .ok (.ireturn, 1) := by decide +kernel
set_option maxRecDepth 65536 in
set_option maxHeartbeats 40000000 in
theorem co7_0 (l : Launch) (Z : State) (a0 : Array Value) (hw : ∀ d ∈ tables_1, d.before a0 Z = true) (a : Addr) (n : Int32) (t0 : Int32) (t1 : Int32) (t2 : Int32) (h0 : Heap) (A_a : AV Z h0 a .int [(.int t0), (.int t1), (.int t2)]) : Co l (⟨"com/example/redshank/redshank/engine/ChoicesNextPinLaw", "stepped", "([III)I"⟩ : MethodName) method_4_code 3 (some .int) [] ({ frames := 0, cells := 0, slots := 0, locals := 0 } : Room) Z h0 #[(.ref a), (.int (0 : Int32)), (.int n)] (Pu h0 (some (.int (stp0 n t0 t1 t2)))) := by
  refine Co.of (plainFor_of_name pn_1) ?_
  intro p_ e_ s_ m_ below meth c_ T0 X0 hx hby hml hown hnm hret hlk hZ eq0
  refine Go.cast (ef7_0 m_ a n ) ?_
  refine g_iloadN X0 hx rfl (hb hby d7_0) 1 rfl ?_
  refine g_iloadN X0 hx rfl (hb hby d7_1) 2 rfl ?_
  refine g_icmp_ge X0 hx (hb hby d7_2) 9 5 (by decide) rfl rfl (fun q2 => ?_) (fun q2 => ?_)
  · refine g_iloadN X0 hx rfl (hb hby d7_9) 10 rfl ?_
    refine g_iloadN X0 hx rfl (hb hby d7_10) 11 rfl ?_
    refine g_icmp_ne X0 hx (hb hby d7_11) 20 14 (by decide) rfl rfl (fun q11 => ?_) (fun q11 => ?_)
    · refine g_iconst X0 hx (0 : Int32) rfl (hb hby d7_20) 21 rfl ?_
      exact g_reti X0 hx hret hlk (by decide) (by decide) (hb hby d7_21) ⟨congrArg (fun z => some (Value.int z)) (show stp0 n t0 t1 t2 = _ from ((if_neg q2).trans ((if_neg q11).trans rfl))).symm, eq0, rfl⟩
    · refine g_aloadN X0 hx rfl rfl (hb hby d7_14) 15 rfl ?_
      refine g_iloadN X0 hx rfl (hb hby d7_15) 16 rfl ?_
      refine g_iaload X0 hx hZ eq0 A_a (by decide) rfl (hb hby d7_16) 17 rfl ?_
      show Go p_ e_ below _ T0 (mkF m_ 17 #[.val (.ref a), .val (.int (0 : Int32)), .val (.int n)] [(.int t0)])
      refine g_iconst X0 hx (1 : Int32) rfl (hb hby d7_17) 18 rfl ?_
      refine g_iadd X0 hx (hb hby d7_18) 19 rfl ?_
      exact g_reti X0 hx hret hlk (by decide) (by decide) (hb hby d7_19) ⟨congrArg (fun z => some (Value.int z)) (show stp0 n t0 t1 t2 = _ from ((if_neg q2).trans ((if_pos q11).trans rfl))).symm, eq0, rfl⟩
  · refine g_aloadN X0 hx rfl rfl (hb hby d7_5) 6 rfl ?_
    refine g_iloadN X0 hx rfl (hb hby d7_6) 7 rfl ?_
    refine g_iaload X0 hx hZ eq0 A_a (by decide) rfl (hb hby d7_7) 8 rfl ?_
    show Go p_ e_ below _ T0 (mkF m_ 8 #[.val (.ref a), .val (.int (0 : Int32)), .val (.int n)] [(.int t0)])
    exact g_reti X0 hx hret hlk (by decide) (by decide) (hb hby d7_8) ⟨congrArg (fun z => some (Value.int z)) (show stp0 n t0 t1 t2 = _ from ((if_pos q2).trans rfl)).symm, eq0, rfl⟩
def stp1 (n : Int32) (t0 : Int32) (t1 : Int32) (t2 : Int32) : Int32 := if (1 : Int32) < n then t1 else (if (1 : Int32) = n then (t1 + (1 : Int32)) else (0 : Int32))
theorem ef7_1 (m_ : MethodId) (a : Addr) (n : Int32)  : entryFrame m_ #[(.ref a), (.int (1 : Int32)), (.int n)] 3 = mkF m_ 0 #[.val (.ref a), .val (.int (1 : Int32)), .val (.int n)] [] := by first | (simp [entryFrame, mkF, argsToLocals, Value.category]; done) | rfl
set_option maxRecDepth 65536 in
set_option maxHeartbeats 40000000 in
theorem co7_1 (l : Launch) (Z : State) (a0 : Array Value) (hw : ∀ d ∈ tables_1, d.before a0 Z = true) (a : Addr) (n : Int32) (t0 : Int32) (t1 : Int32) (t2 : Int32) (h0 : Heap) (A_a : AV Z h0 a .int [(.int t0), (.int t1), (.int t2)]) : Co l (⟨"com/example/redshank/redshank/engine/ChoicesNextPinLaw", "stepped", "([III)I"⟩ : MethodName) method_4_code 3 (some .int) [] ({ frames := 0, cells := 0, slots := 0, locals := 0 } : Room) Z h0 #[(.ref a), (.int (1 : Int32)), (.int n)] (Pu h0 (some (.int (stp1 n t0 t1 t2)))) := by
  refine Co.of (plainFor_of_name pn_1) ?_
  intro p_ e_ s_ m_ below meth c_ T0 X0 hx hby hml hown hnm hret hlk hZ eq0
  refine Go.cast (ef7_1 m_ a n ) ?_
  refine g_iloadN X0 hx rfl (hb hby d7_0) 1 rfl ?_
  refine g_iloadN X0 hx rfl (hb hby d7_1) 2 rfl ?_
  refine g_icmp_ge X0 hx (hb hby d7_2) 9 5 (by decide) rfl rfl (fun q2 => ?_) (fun q2 => ?_)
  · refine g_iloadN X0 hx rfl (hb hby d7_9) 10 rfl ?_
    refine g_iloadN X0 hx rfl (hb hby d7_10) 11 rfl ?_
    refine g_icmp_ne X0 hx (hb hby d7_11) 20 14 (by decide) rfl rfl (fun q11 => ?_) (fun q11 => ?_)
    · refine g_iconst X0 hx (0 : Int32) rfl (hb hby d7_20) 21 rfl ?_
      exact g_reti X0 hx hret hlk (by decide) (by decide) (hb hby d7_21) ⟨congrArg (fun z => some (Value.int z)) (show stp1 n t0 t1 t2 = _ from ((if_neg q2).trans ((if_neg q11).trans rfl))).symm, eq0, rfl⟩
    · refine g_aloadN X0 hx rfl rfl (hb hby d7_14) 15 rfl ?_
      refine g_iloadN X0 hx rfl (hb hby d7_15) 16 rfl ?_
      refine g_iaload X0 hx hZ eq0 A_a (by decide) rfl (hb hby d7_16) 17 rfl ?_
      show Go p_ e_ below _ T0 (mkF m_ 17 #[.val (.ref a), .val (.int (1 : Int32)), .val (.int n)] [(.int t1)])
      refine g_iconst X0 hx (1 : Int32) rfl (hb hby d7_17) 18 rfl ?_
      refine g_iadd X0 hx (hb hby d7_18) 19 rfl ?_
      exact g_reti X0 hx hret hlk (by decide) (by decide) (hb hby d7_19) ⟨congrArg (fun z => some (Value.int z)) (show stp1 n t0 t1 t2 = _ from ((if_neg q2).trans ((if_pos q11).trans rfl))).symm, eq0, rfl⟩
  · refine g_aloadN X0 hx rfl rfl (hb hby d7_5) 6 rfl ?_
    refine g_iloadN X0 hx rfl (hb hby d7_6) 7 rfl ?_
    refine g_iaload X0 hx hZ eq0 A_a (by decide) rfl (hb hby d7_7) 8 rfl ?_
    show Go p_ e_ below _ T0 (mkF m_ 8 #[.val (.ref a), .val (.int (1 : Int32)), .val (.int n)] [(.int t1)])
    exact g_reti X0 hx hret hlk (by decide) (by decide) (hb hby d7_8) ⟨congrArg (fun z => some (Value.int z)) (show stp1 n t0 t1 t2 = _ from ((if_pos q2).trans rfl)).symm, eq0, rfl⟩
def stp2 (n : Int32) (t0 : Int32) (t1 : Int32) (t2 : Int32) : Int32 := if (2 : Int32) < n then t2 else (if (2 : Int32) = n then (t2 + (1 : Int32)) else (0 : Int32))
theorem ef7_2 (m_ : MethodId) (a : Addr) (n : Int32)  : entryFrame m_ #[(.ref a), (.int (2 : Int32)), (.int n)] 3 = mkF m_ 0 #[.val (.ref a), .val (.int (2 : Int32)), .val (.int n)] [] := by first | (simp [entryFrame, mkF, argsToLocals, Value.category]; done) | rfl
set_option maxRecDepth 65536 in
set_option maxHeartbeats 40000000 in
theorem co7_2 (l : Launch) (Z : State) (a0 : Array Value) (hw : ∀ d ∈ tables_1, d.before a0 Z = true) (a : Addr) (n : Int32) (t0 : Int32) (t1 : Int32) (t2 : Int32) (h0 : Heap) (A_a : AV Z h0 a .int [(.int t0), (.int t1), (.int t2)]) : Co l (⟨"com/example/redshank/redshank/engine/ChoicesNextPinLaw", "stepped", "([III)I"⟩ : MethodName) method_4_code 3 (some .int) [] ({ frames := 0, cells := 0, slots := 0, locals := 0 } : Room) Z h0 #[(.ref a), (.int (2 : Int32)), (.int n)] (Pu h0 (some (.int (stp2 n t0 t1 t2)))) := by
  refine Co.of (plainFor_of_name pn_1) ?_
  intro p_ e_ s_ m_ below meth c_ T0 X0 hx hby hml hown hnm hret hlk hZ eq0
  refine Go.cast (ef7_2 m_ a n ) ?_
  refine g_iloadN X0 hx rfl (hb hby d7_0) 1 rfl ?_
  refine g_iloadN X0 hx rfl (hb hby d7_1) 2 rfl ?_
  refine g_icmp_ge X0 hx (hb hby d7_2) 9 5 (by decide) rfl rfl (fun q2 => ?_) (fun q2 => ?_)
  · refine g_iloadN X0 hx rfl (hb hby d7_9) 10 rfl ?_
    refine g_iloadN X0 hx rfl (hb hby d7_10) 11 rfl ?_
    refine g_icmp_ne X0 hx (hb hby d7_11) 20 14 (by decide) rfl rfl (fun q11 => ?_) (fun q11 => ?_)
    · refine g_iconst X0 hx (0 : Int32) rfl (hb hby d7_20) 21 rfl ?_
      exact g_reti X0 hx hret hlk (by decide) (by decide) (hb hby d7_21) ⟨congrArg (fun z => some (Value.int z)) (show stp2 n t0 t1 t2 = _ from ((if_neg q2).trans ((if_neg q11).trans rfl))).symm, eq0, rfl⟩
    · refine g_aloadN X0 hx rfl rfl (hb hby d7_14) 15 rfl ?_
      refine g_iloadN X0 hx rfl (hb hby d7_15) 16 rfl ?_
      refine g_iaload X0 hx hZ eq0 A_a (by decide) rfl (hb hby d7_16) 17 rfl ?_
      show Go p_ e_ below _ T0 (mkF m_ 17 #[.val (.ref a), .val (.int (2 : Int32)), .val (.int n)] [(.int t2)])
      refine g_iconst X0 hx (1 : Int32) rfl (hb hby d7_17) 18 rfl ?_
      refine g_iadd X0 hx (hb hby d7_18) 19 rfl ?_
      exact g_reti X0 hx hret hlk (by decide) (by decide) (hb hby d7_19) ⟨congrArg (fun z => some (Value.int z)) (show stp2 n t0 t1 t2 = _ from ((if_neg q2).trans ((if_pos q11).trans rfl))).symm, eq0, rfl⟩
  · refine g_aloadN X0 hx rfl rfl (hb hby d7_5) 6 rfl ?_
    refine g_iloadN X0 hx rfl (hb hby d7_6) 7 rfl ?_
    refine g_iaload X0 hx hZ eq0 A_a (by decide) rfl (hb hby d7_7) 8 rfl ?_
    show Go p_ e_ below _ T0 (mkF m_ 8 #[.val (.ref a), .val (.int (2 : Int32)), .val (.int n)] [(.int t2)])
    exact g_reti X0 hx hret hlk (by decide) (by decide) (hb hby d7_8) ⟨congrArg (fun z => some (Value.int z)) (show stp2 n t0 t1 t2 = _ from ((if_pos q2).trans rfl)).symm, eq0, rfl⟩
theorem d6_0 : decode jdk_29_method_69_code 0 = .ok (.iload_n 0, 1) := by decide +kernel
theorem d6_1 : decode jdk_29_method_69_code 1 = .ok (.iload_n 1, 1) := by decide +kernel
theorem d6_2 : decode jdk_29_method_69_code 2 = .ok (.if_icmp .gt 7, 3) := by decide +kernel
theorem d6_9 : decode jdk_29_method_69_code 9 = .ok (.iload_n 1, 1) := by decide +kernel
theorem d6_5 : decode jdk_29_method_69_code 5 = .ok (.iload_n 0, 1) := by decide +kernel
theorem d6_6 : decode jdk_29_method_69_code 6 = .ok (.goto 4, 3) := by decide +kernel
def mn (x : Int32) (y : Int32) : Int32 := if y < x then y else x
theorem ef6 (m_ : MethodId) (x : Int32) (y : Int32)  : entryFrame m_ #[(.int x), (.int y)] 2 = mkF m_ 0 #[.val (.int x), .val (.int y)] [] := by first | (simp [entryFrame, mkF, argsToLocals, Value.category]; done) | rfl
theorem d6_10 : decode jdk_29_method_69_code 10 = .ok (.ireturn, 1) := by decide +kernel
set_option maxRecDepth 65536 in
set_option maxHeartbeats 40000000 in
theorem co6 (l : Launch) (Z : State) (a0 : Array Value) (hw : ∀ d ∈ tables_1, d.before a0 Z = true) (x : Int32) (y : Int32) (h0 : Heap)  : Co l (⟨"java/lang/Math", "min", "(II)I"⟩ : MethodName) jdk_29_method_69_code 2 (some .int) [] ({ frames := 0, cells := 0, slots := 0, locals := 0 } : Room) Z h0 #[(.int x), (.int y)] (Pu h0 (some (.int (mn x y)))) := by
  refine Co.of (by decide +kernel) ?_
  intro p_ e_ s_ m_ below meth c_ T0 X0 hx hby hml hown hnm hret hlk hZ eq0
  refine Go.cast (ef6 m_ x y ) ?_
  refine g_iloadN X0 hx rfl (hb hby d6_0) 1 rfl ?_
  refine g_iloadN X0 hx rfl (hb hby d6_1) 2 rfl ?_
  refine g_icmp_gt X0 hx (hb hby d6_2) 9 5 (by decide) rfl rfl (fun q2 => ?_) (fun q2 => ?_)
  · refine g_iloadN X0 hx rfl (hb hby d6_9) 10 rfl ?_
    exact g_reti X0 hx hret hlk (by decide) (by decide) (hb hby d6_10) ⟨congrArg (fun z => some (Value.int z)) (show mn x y = _ from ((if_pos q2).trans rfl)).symm, eq0, rfl⟩
  · refine g_iloadN X0 hx rfl (hb hby d6_5) 6 rfl ?_
    refine g_goto X0 hx (hb hby d6_6) 10 (by decide) rfl ?_
    exact g_reti X0 hx hret hlk (by decide) (by decide) (hb hby d6_10) ⟨congrArg (fun z => some (Value.int z)) (show mn x y = _ from ((if_neg q2).trans rfl)).symm, eq0, rfl⟩
def Q5 (Z : State) (a : Addr) (n : Int32) (tk : Addr) (ct : Addr) (k : Int32) (t0 : Int32) (t1 : Int32) (t2 : Int32) (t3 : Int32) (c0 : Int32) (c1 : Int32) (c2 : Int32) (c3 : Int32) (h0 : Heap) (n0 : Nat) (v : Option Value) (h : Heap) (L : List Loc) : Prop := v = some (.int (if (lo n t0 t1 t2 c0 c1 c2) < (0 : Int32) then (0 : Int32) else (1 : Int32))) ∧ Fr n0 L ∧ Keep h0 h [a, tk] ∧ Exa Z h a "com/example/redshank/redshank/engine/Choices" ∧ Fld Z h a "com/example/redshank/redshank/engine/Choices" "taken" "[I" (.ref tk) ∧ Fld Z h a "com/example/redshank/redshank/engine/Choices" "counts" "[I" (.ref ct) ∧ Fld Z h a "com/example/redshank/redshank/engine/Choices" "kept" "I" (.int ((lo n t0 t1 t2 c0 c1 c2) + (1 : Int32))) ∧ Fld Z h a "com/example/redshank/redshank/engine/Choices" "met" "I" (.int (0 : Int32)) ∧ AV Z h tk .int [(.int (tx (lo n t0 t1 t2 c0 c1 c2) (0 : Int32) t0)), (.int (tx (lo n t0 t1 t2 c0 c1 c2) (1 : Int32) t1)), (.int (tx (lo n t0 t1 t2 c0 c1 c2) (2 : Int32) t2)), (.int t3)] ∧ AV Z h ct .int [(.int c0), (.int c1), (.int c2), (.int c3)]
theorem ef5 (m_ : MethodId) (a : Addr)  : entryFrame m_ #[(.ref a)] 2 = mkF m_ 0 #[.val (.ref a), .unset] [] := by first | (simp [entryFrame, mkF, argsToLocals, Value.category]; done) | rfl
theorem d5_0 : decode prog_3_method_3_code 0 = .ok (.aload_n 0, 1) := by decide +kernel
theorem d5_1 : decode prog_3_method_3_code 1 = .ok (.getfield 16, 3) := by decide +kernel
theorem d5_4 : decode prog_3_method_3_code 4 = .ok (.iconst 1, 1) := by decide +kernel
theorem d5_5 : decode prog_3_method_3_code 5 = .ok (.isub, 1) := by decide +kernel
theorem d5_6 : decode prog_3_method_3_code 6 = .ok (.istore_n 1, 1) := by decide +kernel
theorem d5_7 : decode prog_3_method_3_code 7 = .ok (.iload_n 1, 1) := by decide +kernel
theorem d5_8 : decode prog_3_method_3_code 8 = .ok (.ifCond .lt 26, 3) := by decide +kernel
theorem d5_34 : decode prog_3_method_3_code 34 = .ok (.aload_n 0, 1) := by decide +kernel
theorem d5_35 : decode prog_3_method_3_code 35 = .ok (.iconst 0, 1) := by decide +kernel
theorem d5_36 : decode prog_3_method_3_code 36 = .ok (.putfield 16, 3) := by decide +kernel
theorem d5_39 : decode prog_3_method_3_code 39 = .ok (.iload_n 1, 1) := by decide +kernel
theorem d5_40 : decode prog_3_method_3_code 40 = .ok (.ifCond .ge 10, 3) := by decide +kernel
theorem d5_43 : decode prog_3_method_3_code 43 = .ok (.aload_n 0, 1) := by decide +kernel
theorem d5_44 : decode prog_3_method_3_code 44 = .ok (.iconst 0, 1) := by decide +kernel
theorem d5_45 : decode prog_3_method_3_code 45 = .ok (.putfield 26, 3) := by decide +kernel
theorem d5_48 : decode prog_3_method_3_code 48 = .ok (.iconst 0, 1) := by decide +kernel
theorem d5_49 : decode prog_3_method_3_code 49 = .ok (.ireturn, 1) := by decide +kernel
theorem d5_11 : decode prog_3_method_3_code 11 = .ok (.aload_n 0, 1) := by decide +kernel
theorem d5_12 : decode prog_3_method_3_code 12 = .ok (.getfield 7, 3) := by decide +kernel
theorem d5_15 : decode prog_3_method_3_code 15 = .ok (.iload_n 1, 1) := by decide +kernel
theorem d5_16 : decode prog_3_method_3_code 16 = .ok (.iaload, 1) := by decide +kernel
theorem d5_17 : decode prog_3_method_3_code 17 = .ok (.aload_n 0, 1) := by decide +kernel
theorem d5_18 : decode prog_3_method_3_code 18 = .ok (.getfield 13, 3) := by decide +kernel
theorem d5_21 : decode prog_3_method_3_code 21 = .ok (.iload_n 1, 1) := by decide +kernel
theorem d5_22 : decode prog_3_method_3_code 22 = .ok (.iaload, 1) := by decide +kernel
theorem d5_23 : decode prog_3_method_3_code 23 = .ok (.iconst 1, 1) := by decide +kernel
theorem d5_24 : decode prog_3_method_3_code 24 = .ok (.isub, 1) := by decide +kernel
theorem d5_25 : decode prog_3_method_3_code 25 = .ok (.if_icmp .ne 9, 3) := by decide +kernel
theorem d5_50 : decode prog_3_method_3_code 50 = .ok (.aload_n 0, 1) := by decide +kernel
theorem d5_51 : decode prog_3_method_3_code 51 = .ok (.getfield 7, 3) := by decide +kernel
theorem d5_54 : decode prog_3_method_3_code 54 = .ok (.iload_n 1, 1) := by decide +kernel
theorem d5_55 : decode prog_3_method_3_code 55 = .ok (.dup2, 1) := by decide +kernel
theorem d5_56 : decode prog_3_method_3_code 56 = .ok (.iaload, 1) := by decide +kernel
theorem d5_57 : decode prog_3_method_3_code 57 = .ok (.iconst 1, 1) := by decide +kernel
theorem d5_58 : decode prog_3_method_3_code 58 = .ok (.iadd, 1) := by decide +kernel
theorem d5_59 : decode prog_3_method_3_code 59 = .ok (.iastore, 1) := by decide +kernel
theorem d5_60 : decode prog_3_method_3_code 60 = .ok (.aload_n 0, 1) := by decide +kernel
theorem d5_61 : decode prog_3_method_3_code 61 = .ok (.iload_n 1, 1) := by decide +kernel
theorem d5_62 : decode prog_3_method_3_code 62 = .ok (.iconst 1, 1) := by decide +kernel
theorem d5_63 : decode prog_3_method_3_code 63 = .ok (.iadd, 1) := by decide +kernel
theorem d5_64 : decode prog_3_method_3_code 64 = .ok (.putfield 26, 3) := by decide +kernel
theorem d5_67 : decode prog_3_method_3_code 67 = .ok (.iconst 1, 1) := by decide +kernel
theorem d5_68 : decode prog_3_method_3_code 68 = .ok (.ireturn, 1) := by decide +kernel
theorem d5_28 : decode prog_3_method_3_code 28 = .ok (.iinc 1 (-1), 3) := by decide +kernel
theorem d5_31 : decode prog_3_method_3_code 31 = .ok (.goto (-24), 3) := by decide +kernel
set_option maxRecDepth 65536 in
set_option maxHeartbeats 40000000 in
theorem co5 (l : Launch) (Z : State) (a0 : Array Value) (hw : ∀ d ∈ tables_1, d.before a0 Z = true) (a : Addr) (n : Int32) (tk : Addr) (ct : Addr) (k : Int32) (t0 : Int32) (t1 : Int32) (t2 : Int32) (t3 : Int32) (c0 : Int32) (c1 : Int32) (c2 : Int32) (c3 : Int32) (h0 : Heap) (n0 : Nat) (Z0 : n0 ≤ h0.size)  (g_a : n0 ≤ a) (g_tk : n0 ≤ tk) (E_a : Exa Z h0 a "com/example/redshank/redshank/engine/Choices") (F_taken : Fld Z h0 a "com/example/redshank/redshank/engine/Choices" "taken" "[I" (.ref tk)) (F_counts : Fld Z h0 a "com/example/redshank/redshank/engine/Choices" "counts" "[I" (.ref ct)) (F_kept : Fld Z h0 a "com/example/redshank/redshank/engine/Choices" "kept" "I" (.int k)) (F_met : Fld Z h0 a "com/example/redshank/redshank/engine/Choices" "met" "I" (.int n)) (A_tk : AV Z h0 tk .int [(.int t0), (.int t1), (.int t2), (.int t3)]) (A_ct : AV Z h0 ct .int [(.int c0), (.int c1), (.int c2), (.int c3)]) (ne_tc : tk ≠ ct) (ne_ta : tk ≠ a) (ne_ca : ct ≠ a) (hn : n = 0 ∨ n = 1 ∨ n = 2 ∨ n = 3) : Co l (⟨"com/example/redshank/redshank/engine/Choices", "next", "()Z"⟩ : MethodName) prog_3_method_3_code 2 (some .boolean) [] ({ frames := 0, cells := 0, slots := 0, locals := 0 } : Room) Z h0 #[(.ref a)] (Q5 Z a n tk ct k t0 t1 t2 t3 c0 c1 c2 c3 h0 n0) := by
  refine Co.of (plainFor_of_name pn_0) ?_
  intro p_ e_ s_ m_ below meth c_ T0 X0 hx hby hml hown hnm hret hlk hZ eq0
  have N0 := Fr.nil n0
  refine Go.cast (ef5 m_ a ) ?_
  rcases hn with rfl | rfl | rfl | rfl
  · show Go p_ e_ below _ T0 (mkF m_ 0 #[.val (.ref a), .unset] [])
    refine g_aloadN X0 hx rfl rfl (hb hby d5_0) 1 rfl ?_
    refine g_getfield X0 hx hZ hown (host := "") (Or.inl (wd hw 26 rfl)) Via.refl F_met eq0 (hb hby d5_1) 4 rfl (fun T102 X103 e104 => ?_)
    show Go p_ e_ below _ T102 (mkF m_ 4 #[.val (.ref a), .unset] [(.int (0 : Int32))])
    refine g_iconst X103 hx (1 : Int32) rfl (hb hby d5_4) 5 rfl ?_
    refine g_isub X103 hx (hb hby d5_5) 6 rfl ?_
    show Go p_ e_ below _ T102 (mkF m_ 6 #[.val (.ref a), .unset] [(.int (-1 : Int32))])
    refine g_istoreN X103 hx #[.val (.ref a), .val (.int (-1 : Int32))] rfl (hb hby d5_6) 7 rfl ?_
    refine g_iloadN X103 hx rfl (hb hby d5_7) 8 rfl ?_
    refine g_if_lt X103 hx (hb hby d5_8) 34 11 (by decide) rfl rfl (fun q105 => ?_) (fun q105 => ?_)
    · refine g_aloadN X103 hx rfl rfl (hb hby d5_34) 35 rfl ?_
      refine g_iconst X103 hx (0 : Int32) rfl (hb hby d5_35) 36 rfl ?_
      refine g_putfield X103 hx hZ hown (host := "") (Or.inl (wd hw 26 rfl)) Via.refl e104 F_met E_a (Or.inl (wd hw 27 rfl)) (wd hw 2 rfl) (ty := .int) (by decide) rfl rfl (hb hby d5_36) 39 rfl (fun T106 h107 X108 e109 W110 => ?_)
      have F111 := E_a.wr W110
      have F112 := F_taken.other W110 (Or.inr (slot_ne (Or.inl (wd hw 11 rfl)) (Or.inl (wd hw 27 rfl)) (by decide) (t := (.array .int)) (t' := .int) (by decide) (by decide)))
      have F113 := F_counts.other W110 (Or.inr (slot_ne (Or.inl (wd hw 13 rfl)) (Or.inl (wd hw 27 rfl)) (by decide) (t := (.array .int)) (t' := .int) (by decide) (by decide)))
      have F114 := F_kept.other W110 (Or.inr (slot_ne (Or.inl (wd hw 29 rfl)) (Or.inl (wd hw 27 rfl)) (by decide) (t := .int) (t' := .int) (by decide) (by decide)))
      have F115 := F_met.same W110
      have F116 := A_tk.other W110 ne_ta
      have F117 := A_ct.other W110 ne_ca
      have N118 := Fr.snoc X108 N0 g_a
      have szh119 : n0 ≤ h107.size := Nat.le_trans Z0 (Nat.le_of_eq W110.size.symm)
      have K120 := (Keep.refl h0 [a, tk]).wr W110 (Or.inl (List.mem_of_getElem? (i := 0) rfl))
      show Go p_ e_ below _ T106 (mkF m_ 39 #[.val (.ref a), .val (.int (-1 : Int32))] [])
      refine g_iloadN X108 hx rfl (hb hby d5_39) 40 rfl ?_
      refine g_if_ge X108 hx (hb hby d5_40) 50 43 (by decide) rfl rfl (fun q121 => ?_) (fun q121 => ?_)
      · exact absurd q121 (by decide)
      · refine g_aloadN X108 hx rfl rfl (hb hby d5_43) 44 rfl ?_
        refine g_iconst X108 hx (0 : Int32) rfl (hb hby d5_44) 45 rfl ?_
        refine g_putfield X108 hx hZ hown (host := "") (Or.inl (wd hw 28 rfl)) Via.refl e109 F114 F111 (Or.inl (wd hw 29 rfl)) (wd hw 2 rfl) (ty := .int) (by decide) rfl rfl (hb hby d5_45) 48 rfl (fun T122 h123 X124 e125 W126 => ?_)
        have F127 := F111.wr W126
        have F128 := F112.other W126 (Or.inr (slot_ne (Or.inl (wd hw 11 rfl)) (Or.inl (wd hw 29 rfl)) (by decide) (t := (.array .int)) (t' := .int) (by decide) (by decide)))
        have F129 := F113.other W126 (Or.inr (slot_ne (Or.inl (wd hw 13 rfl)) (Or.inl (wd hw 29 rfl)) (by decide) (t := (.array .int)) (t' := .int) (by decide) (by decide)))
        have F130 := F114.same W126
        have F131 := F115.other W126 (Or.inr (slot_ne (Or.inl (wd hw 27 rfl)) (Or.inl (wd hw 29 rfl)) (by decide) (t := .int) (t' := .int) (by decide) (by decide)))
        have F132 := F116.other W126 ne_ta
        have F133 := F117.other W126 ne_ca
        have N134 := Fr.snoc X124 N118 g_a
        have szh135 : n0 ≤ h123.size := Nat.le_trans szh119 (Nat.le_of_eq W126.size.symm)
        have K136 := K120.wr W126 (Or.inl (List.mem_of_getElem? (i := 0) rfl))
        show Go p_ e_ below _ T122 (mkF m_ 48 #[.val (.ref a), .val (.int (-1 : Int32))] [])
        refine g_iconst X124 hx (0 : Int32) rfl (hb hby d5_48) 49 rfl ?_
        have hlo : lo (0 : Int32) t0 t1 t2 c0 c1 c2 = (-1 : Int32) := ((if_neg (by decide)).trans ((if_neg (by decide)).trans ((if_neg (by decide)).trans rfl)))
        exact g_retz X124 hx hret hlk (by decide) (by decide) (hb hby d5_49) (by rw [e125]; unfold Q5; rw [hlo]; exact ⟨(by rw [if_pos (by decide)]; rfl), N134, K136, F127, F128, F129, F130, F131, (by rw [show tx (-1 : Int32) (0 : Int32) t0 = t0 from if_neg (by decide), show tx (-1 : Int32) (1 : Int32) t1 = t1 from if_neg (by decide), show tx (-1 : Int32) (2 : Int32) t2 = t2 from if_neg (by decide)]; exact F132), F133⟩)
    · exact absurd q105 (by decide)
  · show Go p_ e_ below _ T0 (mkF m_ 0 #[.val (.ref a), .unset] [])
    refine g_aloadN X0 hx rfl rfl (hb hby d5_0) 1 rfl ?_
    refine g_getfield X0 hx hZ hown (host := "") (Or.inl (wd hw 26 rfl)) Via.refl F_met eq0 (hb hby d5_1) 4 rfl (fun T137 X138 e139 => ?_)
    show Go p_ e_ below _ T137 (mkF m_ 4 #[.val (.ref a), .unset] [(.int (1 : Int32))])
    refine g_iconst X138 hx (1 : Int32) rfl (hb hby d5_4) 5 rfl ?_
    refine g_isub X138 hx (hb hby d5_5) 6 rfl ?_
    show Go p_ e_ below _ T137 (mkF m_ 6 #[.val (.ref a), .unset] [(.int (0 : Int32))])
    refine g_istoreN X138 hx #[.val (.ref a), .val (.int (0 : Int32))] rfl (hb hby d5_6) 7 rfl ?_
    refine g_iloadN X138 hx rfl (hb hby d5_7) 8 rfl ?_
    refine g_if_lt X138 hx (hb hby d5_8) 34 11 (by decide) rfl rfl (fun q140 => ?_) (fun q140 => ?_)
    · exact absurd q140 (by decide)
    · refine g_aloadN X138 hx rfl rfl (hb hby d5_11) 12 rfl ?_
      refine g_getfield X138 hx hZ hown (host := "") (Or.inl (wd hw 10 rfl)) Via.refl F_taken e139 (hb hby d5_12) 15 rfl (fun T141 X142 e143 => ?_)
      show Go p_ e_ below _ T141 (mkF m_ 15 #[.val (.ref a), .val (.int (0 : Int32))] [(.ref tk)])
      refine g_iloadN X142 hx rfl (hb hby d5_15) 16 rfl ?_
      refine g_iaload X142 hx hZ e143 A_tk (by decide) rfl (hb hby d5_16) 17 rfl ?_
      show Go p_ e_ below _ T141 (mkF m_ 17 #[.val (.ref a), .val (.int (0 : Int32))] [(.int t0)])
      refine g_aloadN X142 hx rfl rfl (hb hby d5_17) 18 rfl ?_
      refine g_getfield X142 hx hZ hown (host := "") (Or.inl (wd hw 12 rfl)) Via.refl F_counts e143 (hb hby d5_18) 21 rfl (fun T144 X145 e146 => ?_)
      show Go p_ e_ below _ T144 (mkF m_ 21 #[.val (.ref a), .val (.int (0 : Int32))] [(.ref ct), (.int t0)])
      refine g_iloadN X145 hx rfl (hb hby d5_21) 22 rfl ?_
      refine g_iaload X145 hx hZ e146 A_ct (by decide) rfl (hb hby d5_22) 23 rfl ?_
      show Go p_ e_ below _ T144 (mkF m_ 23 #[.val (.ref a), .val (.int (0 : Int32))] [(.int c0), (.int t0)])
      refine g_iconst X145 hx (1 : Int32) rfl (hb hby d5_23) 24 rfl ?_
      refine g_isub X145 hx (hb hby d5_24) 25 rfl ?_
      refine g_icmp_ne X145 hx (hb hby d5_25) 34 28 (by decide) rfl rfl (fun q147 => ?_) (fun q147 => ?_)
      · refine g_aloadN X145 hx rfl rfl (hb hby d5_34) 35 rfl ?_
        refine g_iconst X145 hx (0 : Int32) rfl (hb hby d5_35) 36 rfl ?_
        refine g_putfield X145 hx hZ hown (host := "") (Or.inl (wd hw 26 rfl)) Via.refl e146 F_met E_a (Or.inl (wd hw 27 rfl)) (wd hw 2 rfl) (ty := .int) (by decide) rfl rfl (hb hby d5_36) 39 rfl (fun T148 h149 X150 e151 W152 => ?_)
        have F153 := E_a.wr W152
        have F154 := F_taken.other W152 (Or.inr (slot_ne (Or.inl (wd hw 11 rfl)) (Or.inl (wd hw 27 rfl)) (by decide) (t := (.array .int)) (t' := .int) (by decide) (by decide)))
        have F155 := F_counts.other W152 (Or.inr (slot_ne (Or.inl (wd hw 13 rfl)) (Or.inl (wd hw 27 rfl)) (by decide) (t := (.array .int)) (t' := .int) (by decide) (by decide)))
        have F156 := F_kept.other W152 (Or.inr (slot_ne (Or.inl (wd hw 29 rfl)) (Or.inl (wd hw 27 rfl)) (by decide) (t := .int) (t' := .int) (by decide) (by decide)))
        have F157 := F_met.same W152
        have F158 := A_tk.other W152 ne_ta
        have F159 := A_ct.other W152 ne_ca
        have N160 := Fr.snoc X150 N0 g_a
        have szh161 : n0 ≤ h149.size := Nat.le_trans Z0 (Nat.le_of_eq W152.size.symm)
        have K162 := (Keep.refl h0 [a, tk]).wr W152 (Or.inl (List.mem_of_getElem? (i := 0) rfl))
        show Go p_ e_ below _ T148 (mkF m_ 39 #[.val (.ref a), .val (.int (0 : Int32))] [])
        refine g_iloadN X150 hx rfl (hb hby d5_39) 40 rfl ?_
        refine g_if_ge X150 hx (hb hby d5_40) 50 43 (by decide) rfl rfl (fun q163 => ?_) (fun q163 => ?_)
        · refine g_aloadN X150 hx rfl rfl (hb hby d5_50) 51 rfl ?_
          refine g_getfield X150 hx hZ hown (host := "") (Or.inl (wd hw 10 rfl)) Via.refl F154 e151 (hb hby d5_51) 54 rfl (fun T164 X165 e166 => ?_)
          show Go p_ e_ below _ T164 (mkF m_ 54 #[.val (.ref a), .val (.int (0 : Int32))] [(.ref tk)])
          refine g_iloadN X165 hx rfl (hb hby d5_54) 55 rfl ?_
          refine g_dup2 X165 hx rfl rfl (hb hby d5_55) 56 rfl ?_
          refine g_iaload X165 hx hZ e166 F158 (by decide) rfl (hb hby d5_56) 57 rfl ?_
          show Go p_ e_ below _ T164 (mkF m_ 57 #[.val (.ref a), .val (.int (0 : Int32))] [(.int t0), (.int (0 : Int32)), (.ref tk)])
          refine g_iconst X165 hx (1 : Int32) rfl (hb hby d5_57) 58 rfl ?_
          refine g_iadd X165 hx (hb hby d5_58) 59 rfl ?_
          refine g_iastore X165 hx hZ e166 F158 (by decide) (Nat.le_of_ble_eq_true rfl) (hb hby d5_59) 60 rfl (fun T167 h168 X169 e170 W171 A172 => ?_)
          have A173 : AV Z h168 tk .int [(.int (t0 + (1 : Int32))), (.int t1), (.int t2), (.int t3)] := A172
          have F174 := F153.wr W171
          have F175 := F154.other W171 (Or.inl (Ne.symm ne_ta))
          have F176 := F155.other W171 (Or.inl (Ne.symm ne_ta))
          have F177 := F156.other W171 (Or.inl (Ne.symm ne_ta))
          have F178 := F157.other W171 (Or.inl (Ne.symm ne_ta))
          have F179 := A173
          have F180 := F159.other W171 (Ne.symm ne_tc)
          have N181 := Fr.snoc X169 N160 g_tk
          have szh182 : n0 ≤ h168.size := Nat.le_trans szh161 (Nat.le_of_eq W171.size.symm)
          have K183 := K162.wr W171 (Or.inl (List.mem_of_getElem? (i := 1) rfl))
          show Go p_ e_ below _ T167 (mkF m_ 60 #[.val (.ref a), .val (.int (0 : Int32))] [])
          refine g_aloadN X169 hx rfl rfl (hb hby d5_60) 61 rfl ?_
          refine g_iloadN X169 hx rfl (hb hby d5_61) 62 rfl ?_
          refine g_iconst X169 hx (1 : Int32) rfl (hb hby d5_62) 63 rfl ?_
          refine g_iadd X169 hx (hb hby d5_63) 64 rfl ?_
          show Go p_ e_ below _ T167 (mkF m_ 64 #[.val (.ref a), .val (.int (0 : Int32))] [(.int (1 : Int32)), (.ref a)])
          refine g_putfield X169 hx hZ hown (host := "") (Or.inl (wd hw 28 rfl)) Via.refl e170 F177 F174 (Or.inl (wd hw 29 rfl)) (wd hw 2 rfl) (ty := .int) (by decide) rfl rfl (hb hby d5_64) 67 rfl (fun T184 h185 X186 e187 W188 => ?_)
          have F189 := F174.wr W188
          have F190 := F175.other W188 (Or.inr (slot_ne (Or.inl (wd hw 11 rfl)) (Or.inl (wd hw 29 rfl)) (by decide) (t := (.array .int)) (t' := .int) (by decide) (by decide)))
          have F191 := F176.other W188 (Or.inr (slot_ne (Or.inl (wd hw 13 rfl)) (Or.inl (wd hw 29 rfl)) (by decide) (t := (.array .int)) (t' := .int) (by decide) (by decide)))
          have F192 := F177.same W188
          have F193 := F178.other W188 (Or.inr (slot_ne (Or.inl (wd hw 27 rfl)) (Or.inl (wd hw 29 rfl)) (by decide) (t := .int) (t' := .int) (by decide) (by decide)))
          have F194 := A173.other W188 ne_ta
          have F195 := F180.other W188 ne_ca
          have N196 := Fr.snoc X186 N181 g_a
          have szh197 : n0 ≤ h185.size := Nat.le_trans szh182 (Nat.le_of_eq W188.size.symm)
          have K198 := K183.wr W188 (Or.inl (List.mem_of_getElem? (i := 0) rfl))
          show Go p_ e_ below _ T184 (mkF m_ 67 #[.val (.ref a), .val (.int (0 : Int32))] [])
          refine g_iconst X186 hx (1 : Int32) rfl (hb hby d5_67) 68 rfl ?_
          have hlo : lo (1 : Int32) t0 t1 t2 c0 c1 c2 = (0 : Int32) := ((if_neg (by decide)).trans ((if_neg (by decide)).trans ((if_pos (by decide)).trans ((if_neg q147).trans rfl))))
          exact g_retz X186 hx hret hlk (by decide) (by decide) (hb hby d5_68) (by rw [e187]; unfold Q5; rw [hlo]; exact ⟨(by rw [if_neg (by decide)]; rfl), N196, K198, F189, F190, F191, F192, F193, (by rw [show tx (0 : Int32) (0 : Int32) t0 = t0 + (1 : Int32) from if_pos rfl, show tx (0 : Int32) (1 : Int32) t1 = t1 from if_neg (by decide), show tx (0 : Int32) (2 : Int32) t2 = t2 from if_neg (by decide)]; exact F194), F195⟩)
        · exact absurd q163 (by decide)
      · refine g_iinc X145 hx (-1 : Int32) rfl rfl #[.val (.ref a), .val (.int (-1 : Int32))] rfl (hb hby d5_28) 31 rfl ?_
        refine g_goto X145 hx (hb hby d5_31) 7 (by decide) rfl ?_
        refine g_iloadN X145 hx rfl (hb hby d5_7) 8 rfl ?_
        refine g_if_lt X145 hx (hb hby d5_8) 34 11 (by decide) rfl rfl (fun q199 => ?_) (fun q199 => ?_)
        · refine g_aloadN X145 hx rfl rfl (hb hby d5_34) 35 rfl ?_
          refine g_iconst X145 hx (0 : Int32) rfl (hb hby d5_35) 36 rfl ?_
          refine g_putfield X145 hx hZ hown (host := "") (Or.inl (wd hw 26 rfl)) Via.refl e146 F_met E_a (Or.inl (wd hw 27 rfl)) (wd hw 2 rfl) (ty := .int) (by decide) rfl rfl (hb hby d5_36) 39 rfl (fun T200 h201 X202 e203 W204 => ?_)
          have F205 := E_a.wr W204
          have F206 := F_taken.other W204 (Or.inr (slot_ne (Or.inl (wd hw 11 rfl)) (Or.inl (wd hw 27 rfl)) (by decide) (t := (.array .int)) (t' := .int) (by decide) (by decide)))
          have F207 := F_counts.other W204 (Or.inr (slot_ne (Or.inl (wd hw 13 rfl)) (Or.inl (wd hw 27 rfl)) (by decide) (t := (.array .int)) (t' := .int) (by decide) (by decide)))
          have F208 := F_kept.other W204 (Or.inr (slot_ne (Or.inl (wd hw 29 rfl)) (Or.inl (wd hw 27 rfl)) (by decide) (t := .int) (t' := .int) (by decide) (by decide)))
          have F209 := F_met.same W204
          have F210 := A_tk.other W204 ne_ta
          have F211 := A_ct.other W204 ne_ca
          have N212 := Fr.snoc X202 N0 g_a
          have szh213 : n0 ≤ h201.size := Nat.le_trans Z0 (Nat.le_of_eq W204.size.symm)
          have K214 := (Keep.refl h0 [a, tk]).wr W204 (Or.inl (List.mem_of_getElem? (i := 0) rfl))
          show Go p_ e_ below _ T200 (mkF m_ 39 #[.val (.ref a), .val (.int (-1 : Int32))] [])
          refine g_iloadN X202 hx rfl (hb hby d5_39) 40 rfl ?_
          refine g_if_ge X202 hx (hb hby d5_40) 50 43 (by decide) rfl rfl (fun q215 => ?_) (fun q215 => ?_)
          · exact absurd q215 (by decide)
          · refine g_aloadN X202 hx rfl rfl (hb hby d5_43) 44 rfl ?_
            refine g_iconst X202 hx (0 : Int32) rfl (hb hby d5_44) 45 rfl ?_
            refine g_putfield X202 hx hZ hown (host := "") (Or.inl (wd hw 28 rfl)) Via.refl e203 F208 F205 (Or.inl (wd hw 29 rfl)) (wd hw 2 rfl) (ty := .int) (by decide) rfl rfl (hb hby d5_45) 48 rfl (fun T216 h217 X218 e219 W220 => ?_)
            have F221 := F205.wr W220
            have F222 := F206.other W220 (Or.inr (slot_ne (Or.inl (wd hw 11 rfl)) (Or.inl (wd hw 29 rfl)) (by decide) (t := (.array .int)) (t' := .int) (by decide) (by decide)))
            have F223 := F207.other W220 (Or.inr (slot_ne (Or.inl (wd hw 13 rfl)) (Or.inl (wd hw 29 rfl)) (by decide) (t := (.array .int)) (t' := .int) (by decide) (by decide)))
            have F224 := F208.same W220
            have F225 := F209.other W220 (Or.inr (slot_ne (Or.inl (wd hw 27 rfl)) (Or.inl (wd hw 29 rfl)) (by decide) (t := .int) (t' := .int) (by decide) (by decide)))
            have F226 := F210.other W220 ne_ta
            have F227 := F211.other W220 ne_ca
            have N228 := Fr.snoc X218 N212 g_a
            have szh229 : n0 ≤ h217.size := Nat.le_trans szh213 (Nat.le_of_eq W220.size.symm)
            have K230 := K214.wr W220 (Or.inl (List.mem_of_getElem? (i := 0) rfl))
            show Go p_ e_ below _ T216 (mkF m_ 48 #[.val (.ref a), .val (.int (-1 : Int32))] [])
            refine g_iconst X218 hx (0 : Int32) rfl (hb hby d5_48) 49 rfl ?_
            have hlo : lo (1 : Int32) t0 t1 t2 c0 c1 c2 = (-1 : Int32) := ((if_neg (by decide)).trans ((if_neg (by decide)).trans ((if_pos (by decide)).trans ((if_pos q147).trans rfl))))
            exact g_retz X218 hx hret hlk (by decide) (by decide) (hb hby d5_49) (by rw [e219]; unfold Q5; rw [hlo]; exact ⟨(by rw [if_pos (by decide)]; rfl), N228, K230, F221, F222, F223, F224, F225, (by rw [show tx (-1 : Int32) (0 : Int32) t0 = t0 from if_neg (by decide), show tx (-1 : Int32) (1 : Int32) t1 = t1 from if_neg (by decide), show tx (-1 : Int32) (2 : Int32) t2 = t2 from if_neg (by decide)]; exact F226), F227⟩)
        · exact absurd q199 (by decide)
  · show Go p_ e_ below _ T0 (mkF m_ 0 #[.val (.ref a), .unset] [])
    refine g_aloadN X0 hx rfl rfl (hb hby d5_0) 1 rfl ?_
    refine g_getfield X0 hx hZ hown (host := "") (Or.inl (wd hw 26 rfl)) Via.refl F_met eq0 (hb hby d5_1) 4 rfl (fun T231 X232 e233 => ?_)
    show Go p_ e_ below _ T231 (mkF m_ 4 #[.val (.ref a), .unset] [(.int (2 : Int32))])
    refine g_iconst X232 hx (1 : Int32) rfl (hb hby d5_4) 5 rfl ?_
    refine g_isub X232 hx (hb hby d5_5) 6 rfl ?_
    show Go p_ e_ below _ T231 (mkF m_ 6 #[.val (.ref a), .unset] [(.int (1 : Int32))])
    refine g_istoreN X232 hx #[.val (.ref a), .val (.int (1 : Int32))] rfl (hb hby d5_6) 7 rfl ?_
    refine g_iloadN X232 hx rfl (hb hby d5_7) 8 rfl ?_
    refine g_if_lt X232 hx (hb hby d5_8) 34 11 (by decide) rfl rfl (fun q234 => ?_) (fun q234 => ?_)
    · exact absurd q234 (by decide)
    · refine g_aloadN X232 hx rfl rfl (hb hby d5_11) 12 rfl ?_
      refine g_getfield X232 hx hZ hown (host := "") (Or.inl (wd hw 10 rfl)) Via.refl F_taken e233 (hb hby d5_12) 15 rfl (fun T235 X236 e237 => ?_)
      show Go p_ e_ below _ T235 (mkF m_ 15 #[.val (.ref a), .val (.int (1 : Int32))] [(.ref tk)])
      refine g_iloadN X236 hx rfl (hb hby d5_15) 16 rfl ?_
      refine g_iaload X236 hx hZ e237 A_tk (by decide) rfl (hb hby d5_16) 17 rfl ?_
      show Go p_ e_ below _ T235 (mkF m_ 17 #[.val (.ref a), .val (.int (1 : Int32))] [(.int t1)])
      refine g_aloadN X236 hx rfl rfl (hb hby d5_17) 18 rfl ?_
      refine g_getfield X236 hx hZ hown (host := "") (Or.inl (wd hw 12 rfl)) Via.refl F_counts e237 (hb hby d5_18) 21 rfl (fun T238 X239 e240 => ?_)
      show Go p_ e_ below _ T238 (mkF m_ 21 #[.val (.ref a), .val (.int (1 : Int32))] [(.ref ct), (.int t1)])
      refine g_iloadN X239 hx rfl (hb hby d5_21) 22 rfl ?_
      refine g_iaload X239 hx hZ e240 A_ct (by decide) rfl (hb hby d5_22) 23 rfl ?_
      show Go p_ e_ below _ T238 (mkF m_ 23 #[.val (.ref a), .val (.int (1 : Int32))] [(.int c1), (.int t1)])
      refine g_iconst X239 hx (1 : Int32) rfl (hb hby d5_23) 24 rfl ?_
      refine g_isub X239 hx (hb hby d5_24) 25 rfl ?_
      refine g_icmp_ne X239 hx (hb hby d5_25) 34 28 (by decide) rfl rfl (fun q241 => ?_) (fun q241 => ?_)
      · refine g_aloadN X239 hx rfl rfl (hb hby d5_34) 35 rfl ?_
        refine g_iconst X239 hx (0 : Int32) rfl (hb hby d5_35) 36 rfl ?_
        refine g_putfield X239 hx hZ hown (host := "") (Or.inl (wd hw 26 rfl)) Via.refl e240 F_met E_a (Or.inl (wd hw 27 rfl)) (wd hw 2 rfl) (ty := .int) (by decide) rfl rfl (hb hby d5_36) 39 rfl (fun T242 h243 X244 e245 W246 => ?_)
        have F247 := E_a.wr W246
        have F248 := F_taken.other W246 (Or.inr (slot_ne (Or.inl (wd hw 11 rfl)) (Or.inl (wd hw 27 rfl)) (by decide) (t := (.array .int)) (t' := .int) (by decide) (by decide)))
        have F249 := F_counts.other W246 (Or.inr (slot_ne (Or.inl (wd hw 13 rfl)) (Or.inl (wd hw 27 rfl)) (by decide) (t := (.array .int)) (t' := .int) (by decide) (by decide)))
        have F250 := F_kept.other W246 (Or.inr (slot_ne (Or.inl (wd hw 29 rfl)) (Or.inl (wd hw 27 rfl)) (by decide) (t := .int) (t' := .int) (by decide) (by decide)))
        have F251 := F_met.same W246
        have F252 := A_tk.other W246 ne_ta
        have F253 := A_ct.other W246 ne_ca
        have N254 := Fr.snoc X244 N0 g_a
        have szh255 : n0 ≤ h243.size := Nat.le_trans Z0 (Nat.le_of_eq W246.size.symm)
        have K256 := (Keep.refl h0 [a, tk]).wr W246 (Or.inl (List.mem_of_getElem? (i := 0) rfl))
        show Go p_ e_ below _ T242 (mkF m_ 39 #[.val (.ref a), .val (.int (1 : Int32))] [])
        refine g_iloadN X244 hx rfl (hb hby d5_39) 40 rfl ?_
        refine g_if_ge X244 hx (hb hby d5_40) 50 43 (by decide) rfl rfl (fun q257 => ?_) (fun q257 => ?_)
        · refine g_aloadN X244 hx rfl rfl (hb hby d5_50) 51 rfl ?_
          refine g_getfield X244 hx hZ hown (host := "") (Or.inl (wd hw 10 rfl)) Via.refl F248 e245 (hb hby d5_51) 54 rfl (fun T258 X259 e260 => ?_)
          show Go p_ e_ below _ T258 (mkF m_ 54 #[.val (.ref a), .val (.int (1 : Int32))] [(.ref tk)])
          refine g_iloadN X259 hx rfl (hb hby d5_54) 55 rfl ?_
          refine g_dup2 X259 hx rfl rfl (hb hby d5_55) 56 rfl ?_
          refine g_iaload X259 hx hZ e260 F252 (by decide) rfl (hb hby d5_56) 57 rfl ?_
          show Go p_ e_ below _ T258 (mkF m_ 57 #[.val (.ref a), .val (.int (1 : Int32))] [(.int t1), (.int (1 : Int32)), (.ref tk)])
          refine g_iconst X259 hx (1 : Int32) rfl (hb hby d5_57) 58 rfl ?_
          refine g_iadd X259 hx (hb hby d5_58) 59 rfl ?_
          refine g_iastore X259 hx hZ e260 F252 (by decide) (Nat.le_of_ble_eq_true rfl) (hb hby d5_59) 60 rfl (fun T261 h262 X263 e264 W265 A266 => ?_)
          have A267 : AV Z h262 tk .int [(.int t0), (.int (t1 + (1 : Int32))), (.int t2), (.int t3)] := A266
          have F268 := F247.wr W265
          have F269 := F248.other W265 (Or.inl (Ne.symm ne_ta))
          have F270 := F249.other W265 (Or.inl (Ne.symm ne_ta))
          have F271 := F250.other W265 (Or.inl (Ne.symm ne_ta))
          have F272 := F251.other W265 (Or.inl (Ne.symm ne_ta))
          have F273 := A267
          have F274 := F253.other W265 (Ne.symm ne_tc)
          have N275 := Fr.snoc X263 N254 g_tk
          have szh276 : n0 ≤ h262.size := Nat.le_trans szh255 (Nat.le_of_eq W265.size.symm)
          have K277 := K256.wr W265 (Or.inl (List.mem_of_getElem? (i := 1) rfl))
          show Go p_ e_ below _ T261 (mkF m_ 60 #[.val (.ref a), .val (.int (1 : Int32))] [])
          refine g_aloadN X263 hx rfl rfl (hb hby d5_60) 61 rfl ?_
          refine g_iloadN X263 hx rfl (hb hby d5_61) 62 rfl ?_
          refine g_iconst X263 hx (1 : Int32) rfl (hb hby d5_62) 63 rfl ?_
          refine g_iadd X263 hx (hb hby d5_63) 64 rfl ?_
          show Go p_ e_ below _ T261 (mkF m_ 64 #[.val (.ref a), .val (.int (1 : Int32))] [(.int (2 : Int32)), (.ref a)])
          refine g_putfield X263 hx hZ hown (host := "") (Or.inl (wd hw 28 rfl)) Via.refl e264 F271 F268 (Or.inl (wd hw 29 rfl)) (wd hw 2 rfl) (ty := .int) (by decide) rfl rfl (hb hby d5_64) 67 rfl (fun T278 h279 X280 e281 W282 => ?_)
          have F283 := F268.wr W282
          have F284 := F269.other W282 (Or.inr (slot_ne (Or.inl (wd hw 11 rfl)) (Or.inl (wd hw 29 rfl)) (by decide) (t := (.array .int)) (t' := .int) (by decide) (by decide)))
          have F285 := F270.other W282 (Or.inr (slot_ne (Or.inl (wd hw 13 rfl)) (Or.inl (wd hw 29 rfl)) (by decide) (t := (.array .int)) (t' := .int) (by decide) (by decide)))
          have F286 := F271.same W282
          have F287 := F272.other W282 (Or.inr (slot_ne (Or.inl (wd hw 27 rfl)) (Or.inl (wd hw 29 rfl)) (by decide) (t := .int) (t' := .int) (by decide) (by decide)))
          have F288 := A267.other W282 ne_ta
          have F289 := F274.other W282 ne_ca
          have N290 := Fr.snoc X280 N275 g_a
          have szh291 : n0 ≤ h279.size := Nat.le_trans szh276 (Nat.le_of_eq W282.size.symm)
          have K292 := K277.wr W282 (Or.inl (List.mem_of_getElem? (i := 0) rfl))
          show Go p_ e_ below _ T278 (mkF m_ 67 #[.val (.ref a), .val (.int (1 : Int32))] [])
          refine g_iconst X280 hx (1 : Int32) rfl (hb hby d5_67) 68 rfl ?_
          have hlo : lo (2 : Int32) t0 t1 t2 c0 c1 c2 = (1 : Int32) := ((if_neg (by decide)).trans ((if_pos (by decide)).trans ((if_neg q241).trans rfl)))
          exact g_retz X280 hx hret hlk (by decide) (by decide) (hb hby d5_68) (by rw [e281]; unfold Q5; rw [hlo]; exact ⟨(by rw [if_neg (by decide)]; rfl), N290, K292, F283, F284, F285, F286, F287, (by rw [show tx (1 : Int32) (0 : Int32) t0 = t0 from if_neg (by decide), show tx (1 : Int32) (1 : Int32) t1 = t1 + (1 : Int32) from if_pos rfl, show tx (1 : Int32) (2 : Int32) t2 = t2 from if_neg (by decide)]; exact F288), F289⟩)
        · exact absurd q257 (by decide)
      · refine g_iinc X239 hx (-1 : Int32) rfl rfl #[.val (.ref a), .val (.int (0 : Int32))] rfl (hb hby d5_28) 31 rfl ?_
        refine g_goto X239 hx (hb hby d5_31) 7 (by decide) rfl ?_
        refine g_iloadN X239 hx rfl (hb hby d5_7) 8 rfl ?_
        refine g_if_lt X239 hx (hb hby d5_8) 34 11 (by decide) rfl rfl (fun q293 => ?_) (fun q293 => ?_)
        · exact absurd q293 (by decide)
        · refine g_aloadN X239 hx rfl rfl (hb hby d5_11) 12 rfl ?_
          refine g_getfield X239 hx hZ hown (host := "") (Or.inl (wd hw 10 rfl)) Via.refl F_taken e240 (hb hby d5_12) 15 rfl (fun T294 X295 e296 => ?_)
          show Go p_ e_ below _ T294 (mkF m_ 15 #[.val (.ref a), .val (.int (0 : Int32))] [(.ref tk)])
          refine g_iloadN X295 hx rfl (hb hby d5_15) 16 rfl ?_
          refine g_iaload X295 hx hZ e296 A_tk (by decide) rfl (hb hby d5_16) 17 rfl ?_
          show Go p_ e_ below _ T294 (mkF m_ 17 #[.val (.ref a), .val (.int (0 : Int32))] [(.int t0)])
          refine g_aloadN X295 hx rfl rfl (hb hby d5_17) 18 rfl ?_
          refine g_getfield X295 hx hZ hown (host := "") (Or.inl (wd hw 12 rfl)) Via.refl F_counts e296 (hb hby d5_18) 21 rfl (fun T297 X298 e299 => ?_)
          show Go p_ e_ below _ T297 (mkF m_ 21 #[.val (.ref a), .val (.int (0 : Int32))] [(.ref ct), (.int t0)])
          refine g_iloadN X298 hx rfl (hb hby d5_21) 22 rfl ?_
          refine g_iaload X298 hx hZ e299 A_ct (by decide) rfl (hb hby d5_22) 23 rfl ?_
          show Go p_ e_ below _ T297 (mkF m_ 23 #[.val (.ref a), .val (.int (0 : Int32))] [(.int c0), (.int t0)])
          refine g_iconst X298 hx (1 : Int32) rfl (hb hby d5_23) 24 rfl ?_
          refine g_isub X298 hx (hb hby d5_24) 25 rfl ?_
          refine g_icmp_ne X298 hx (hb hby d5_25) 34 28 (by decide) rfl rfl (fun q300 => ?_) (fun q300 => ?_)
          · refine g_aloadN X298 hx rfl rfl (hb hby d5_34) 35 rfl ?_
            refine g_iconst X298 hx (0 : Int32) rfl (hb hby d5_35) 36 rfl ?_
            refine g_putfield X298 hx hZ hown (host := "") (Or.inl (wd hw 26 rfl)) Via.refl e299 F_met E_a (Or.inl (wd hw 27 rfl)) (wd hw 2 rfl) (ty := .int) (by decide) rfl rfl (hb hby d5_36) 39 rfl (fun T301 h302 X303 e304 W305 => ?_)
            have F306 := E_a.wr W305
            have F307 := F_taken.other W305 (Or.inr (slot_ne (Or.inl (wd hw 11 rfl)) (Or.inl (wd hw 27 rfl)) (by decide) (t := (.array .int)) (t' := .int) (by decide) (by decide)))
            have F308 := F_counts.other W305 (Or.inr (slot_ne (Or.inl (wd hw 13 rfl)) (Or.inl (wd hw 27 rfl)) (by decide) (t := (.array .int)) (t' := .int) (by decide) (by decide)))
            have F309 := F_kept.other W305 (Or.inr (slot_ne (Or.inl (wd hw 29 rfl)) (Or.inl (wd hw 27 rfl)) (by decide) (t := .int) (t' := .int) (by decide) (by decide)))
            have F310 := F_met.same W305
            have F311 := A_tk.other W305 ne_ta
            have F312 := A_ct.other W305 ne_ca
            have N313 := Fr.snoc X303 N0 g_a
            have szh314 : n0 ≤ h302.size := Nat.le_trans Z0 (Nat.le_of_eq W305.size.symm)
            have K315 := (Keep.refl h0 [a, tk]).wr W305 (Or.inl (List.mem_of_getElem? (i := 0) rfl))
            show Go p_ e_ below _ T301 (mkF m_ 39 #[.val (.ref a), .val (.int (0 : Int32))] [])
            refine g_iloadN X303 hx rfl (hb hby d5_39) 40 rfl ?_
            refine g_if_ge X303 hx (hb hby d5_40) 50 43 (by decide) rfl rfl (fun q316 => ?_) (fun q316 => ?_)
            · refine g_aloadN X303 hx rfl rfl (hb hby d5_50) 51 rfl ?_
              refine g_getfield X303 hx hZ hown (host := "") (Or.inl (wd hw 10 rfl)) Via.refl F307 e304 (hb hby d5_51) 54 rfl (fun T317 X318 e319 => ?_)
              show Go p_ e_ below _ T317 (mkF m_ 54 #[.val (.ref a), .val (.int (0 : Int32))] [(.ref tk)])
              refine g_iloadN X318 hx rfl (hb hby d5_54) 55 rfl ?_
              refine g_dup2 X318 hx rfl rfl (hb hby d5_55) 56 rfl ?_
              refine g_iaload X318 hx hZ e319 F311 (by decide) rfl (hb hby d5_56) 57 rfl ?_
              show Go p_ e_ below _ T317 (mkF m_ 57 #[.val (.ref a), .val (.int (0 : Int32))] [(.int t0), (.int (0 : Int32)), (.ref tk)])
              refine g_iconst X318 hx (1 : Int32) rfl (hb hby d5_57) 58 rfl ?_
              refine g_iadd X318 hx (hb hby d5_58) 59 rfl ?_
              refine g_iastore X318 hx hZ e319 F311 (by decide) (Nat.le_of_ble_eq_true rfl) (hb hby d5_59) 60 rfl (fun T320 h321 X322 e323 W324 A325 => ?_)
              have A326 : AV Z h321 tk .int [(.int (t0 + (1 : Int32))), (.int t1), (.int t2), (.int t3)] := A325
              have F327 := F306.wr W324
              have F328 := F307.other W324 (Or.inl (Ne.symm ne_ta))
              have F329 := F308.other W324 (Or.inl (Ne.symm ne_ta))
              have F330 := F309.other W324 (Or.inl (Ne.symm ne_ta))
              have F331 := F310.other W324 (Or.inl (Ne.symm ne_ta))
              have F332 := A326
              have F333 := F312.other W324 (Ne.symm ne_tc)
              have N334 := Fr.snoc X322 N313 g_tk
              have szh335 : n0 ≤ h321.size := Nat.le_trans szh314 (Nat.le_of_eq W324.size.symm)
              have K336 := K315.wr W324 (Or.inl (List.mem_of_getElem? (i := 1) rfl))
              show Go p_ e_ below _ T320 (mkF m_ 60 #[.val (.ref a), .val (.int (0 : Int32))] [])
              refine g_aloadN X322 hx rfl rfl (hb hby d5_60) 61 rfl ?_
              refine g_iloadN X322 hx rfl (hb hby d5_61) 62 rfl ?_
              refine g_iconst X322 hx (1 : Int32) rfl (hb hby d5_62) 63 rfl ?_
              refine g_iadd X322 hx (hb hby d5_63) 64 rfl ?_
              show Go p_ e_ below _ T320 (mkF m_ 64 #[.val (.ref a), .val (.int (0 : Int32))] [(.int (1 : Int32)), (.ref a)])
              refine g_putfield X322 hx hZ hown (host := "") (Or.inl (wd hw 28 rfl)) Via.refl e323 F330 F327 (Or.inl (wd hw 29 rfl)) (wd hw 2 rfl) (ty := .int) (by decide) rfl rfl (hb hby d5_64) 67 rfl (fun T337 h338 X339 e340 W341 => ?_)
              have F342 := F327.wr W341
              have F343 := F328.other W341 (Or.inr (slot_ne (Or.inl (wd hw 11 rfl)) (Or.inl (wd hw 29 rfl)) (by decide) (t := (.array .int)) (t' := .int) (by decide) (by decide)))
              have F344 := F329.other W341 (Or.inr (slot_ne (Or.inl (wd hw 13 rfl)) (Or.inl (wd hw 29 rfl)) (by decide) (t := (.array .int)) (t' := .int) (by decide) (by decide)))
              have F345 := F330.same W341
              have F346 := F331.other W341 (Or.inr (slot_ne (Or.inl (wd hw 27 rfl)) (Or.inl (wd hw 29 rfl)) (by decide) (t := .int) (t' := .int) (by decide) (by decide)))
              have F347 := A326.other W341 ne_ta
              have F348 := F333.other W341 ne_ca
              have N349 := Fr.snoc X339 N334 g_a
              have szh350 : n0 ≤ h338.size := Nat.le_trans szh335 (Nat.le_of_eq W341.size.symm)
              have K351 := K336.wr W341 (Or.inl (List.mem_of_getElem? (i := 0) rfl))
              show Go p_ e_ below _ T337 (mkF m_ 67 #[.val (.ref a), .val (.int (0 : Int32))] [])
              refine g_iconst X339 hx (1 : Int32) rfl (hb hby d5_67) 68 rfl ?_
              have hlo : lo (2 : Int32) t0 t1 t2 c0 c1 c2 = (0 : Int32) := ((if_neg (by decide)).trans ((if_pos (by decide)).trans ((if_pos q241).trans ((if_pos (by decide)).trans ((if_neg q300).trans rfl)))))
              exact g_retz X339 hx hret hlk (by decide) (by decide) (hb hby d5_68) (by rw [e340]; unfold Q5; rw [hlo]; exact ⟨(by rw [if_neg (by decide)]; rfl), N349, K351, F342, F343, F344, F345, F346, (by rw [show tx (0 : Int32) (0 : Int32) t0 = t0 + (1 : Int32) from if_pos rfl, show tx (0 : Int32) (1 : Int32) t1 = t1 from if_neg (by decide), show tx (0 : Int32) (2 : Int32) t2 = t2 from if_neg (by decide)]; exact F347), F348⟩)
            · exact absurd q316 (by decide)
          · refine g_iinc X298 hx (-1 : Int32) rfl rfl #[.val (.ref a), .val (.int (-1 : Int32))] rfl (hb hby d5_28) 31 rfl ?_
            refine g_goto X298 hx (hb hby d5_31) 7 (by decide) rfl ?_
            refine g_iloadN X298 hx rfl (hb hby d5_7) 8 rfl ?_
            refine g_if_lt X298 hx (hb hby d5_8) 34 11 (by decide) rfl rfl (fun q352 => ?_) (fun q352 => ?_)
            · refine g_aloadN X298 hx rfl rfl (hb hby d5_34) 35 rfl ?_
              refine g_iconst X298 hx (0 : Int32) rfl (hb hby d5_35) 36 rfl ?_
              refine g_putfield X298 hx hZ hown (host := "") (Or.inl (wd hw 26 rfl)) Via.refl e299 F_met E_a (Or.inl (wd hw 27 rfl)) (wd hw 2 rfl) (ty := .int) (by decide) rfl rfl (hb hby d5_36) 39 rfl (fun T353 h354 X355 e356 W357 => ?_)
              have F358 := E_a.wr W357
              have F359 := F_taken.other W357 (Or.inr (slot_ne (Or.inl (wd hw 11 rfl)) (Or.inl (wd hw 27 rfl)) (by decide) (t := (.array .int)) (t' := .int) (by decide) (by decide)))
              have F360 := F_counts.other W357 (Or.inr (slot_ne (Or.inl (wd hw 13 rfl)) (Or.inl (wd hw 27 rfl)) (by decide) (t := (.array .int)) (t' := .int) (by decide) (by decide)))
              have F361 := F_kept.other W357 (Or.inr (slot_ne (Or.inl (wd hw 29 rfl)) (Or.inl (wd hw 27 rfl)) (by decide) (t := .int) (t' := .int) (by decide) (by decide)))
              have F362 := F_met.same W357
              have F363 := A_tk.other W357 ne_ta
              have F364 := A_ct.other W357 ne_ca
              have N365 := Fr.snoc X355 N0 g_a
              have szh366 : n0 ≤ h354.size := Nat.le_trans Z0 (Nat.le_of_eq W357.size.symm)
              have K367 := (Keep.refl h0 [a, tk]).wr W357 (Or.inl (List.mem_of_getElem? (i := 0) rfl))
              show Go p_ e_ below _ T353 (mkF m_ 39 #[.val (.ref a), .val (.int (-1 : Int32))] [])
              refine g_iloadN X355 hx rfl (hb hby d5_39) 40 rfl ?_
              refine g_if_ge X355 hx (hb hby d5_40) 50 43 (by decide) rfl rfl (fun q368 => ?_) (fun q368 => ?_)
              · exact absurd q368 (by decide)
              · refine g_aloadN X355 hx rfl rfl (hb hby d5_43) 44 rfl ?_
                refine g_iconst X355 hx (0 : Int32) rfl (hb hby d5_44) 45 rfl ?_
                refine g_putfield X355 hx hZ hown (host := "") (Or.inl (wd hw 28 rfl)) Via.refl e356 F361 F358 (Or.inl (wd hw 29 rfl)) (wd hw 2 rfl) (ty := .int) (by decide) rfl rfl (hb hby d5_45) 48 rfl (fun T369 h370 X371 e372 W373 => ?_)
                have F374 := F358.wr W373
                have F375 := F359.other W373 (Or.inr (slot_ne (Or.inl (wd hw 11 rfl)) (Or.inl (wd hw 29 rfl)) (by decide) (t := (.array .int)) (t' := .int) (by decide) (by decide)))
                have F376 := F360.other W373 (Or.inr (slot_ne (Or.inl (wd hw 13 rfl)) (Or.inl (wd hw 29 rfl)) (by decide) (t := (.array .int)) (t' := .int) (by decide) (by decide)))
                have F377 := F361.same W373
                have F378 := F362.other W373 (Or.inr (slot_ne (Or.inl (wd hw 27 rfl)) (Or.inl (wd hw 29 rfl)) (by decide) (t := .int) (t' := .int) (by decide) (by decide)))
                have F379 := F363.other W373 ne_ta
                have F380 := F364.other W373 ne_ca
                have N381 := Fr.snoc X371 N365 g_a
                have szh382 : n0 ≤ h370.size := Nat.le_trans szh366 (Nat.le_of_eq W373.size.symm)
                have K383 := K367.wr W373 (Or.inl (List.mem_of_getElem? (i := 0) rfl))
                show Go p_ e_ below _ T369 (mkF m_ 48 #[.val (.ref a), .val (.int (-1 : Int32))] [])
                refine g_iconst X371 hx (0 : Int32) rfl (hb hby d5_48) 49 rfl ?_
                have hlo : lo (2 : Int32) t0 t1 t2 c0 c1 c2 = (-1 : Int32) := ((if_neg (by decide)).trans ((if_pos (by decide)).trans ((if_pos q241).trans ((if_pos (by decide)).trans ((if_pos q300).trans rfl)))))
                exact g_retz X371 hx hret hlk (by decide) (by decide) (hb hby d5_49) (by rw [e372]; unfold Q5; rw [hlo]; exact ⟨(by rw [if_pos (by decide)]; rfl), N381, K383, F374, F375, F376, F377, F378, (by rw [show tx (-1 : Int32) (0 : Int32) t0 = t0 from if_neg (by decide), show tx (-1 : Int32) (1 : Int32) t1 = t1 from if_neg (by decide), show tx (-1 : Int32) (2 : Int32) t2 = t2 from if_neg (by decide)]; exact F379), F380⟩)
            · exact absurd q352 (by decide)
  · show Go p_ e_ below _ T0 (mkF m_ 0 #[.val (.ref a), .unset] [])
    refine g_aloadN X0 hx rfl rfl (hb hby d5_0) 1 rfl ?_
    refine g_getfield X0 hx hZ hown (host := "") (Or.inl (wd hw 26 rfl)) Via.refl F_met eq0 (hb hby d5_1) 4 rfl (fun T384 X385 e386 => ?_)
    show Go p_ e_ below _ T384 (mkF m_ 4 #[.val (.ref a), .unset] [(.int (3 : Int32))])
    refine g_iconst X385 hx (1 : Int32) rfl (hb hby d5_4) 5 rfl ?_
    refine g_isub X385 hx (hb hby d5_5) 6 rfl ?_
    show Go p_ e_ below _ T384 (mkF m_ 6 #[.val (.ref a), .unset] [(.int (2 : Int32))])
    refine g_istoreN X385 hx #[.val (.ref a), .val (.int (2 : Int32))] rfl (hb hby d5_6) 7 rfl ?_
    refine g_iloadN X385 hx rfl (hb hby d5_7) 8 rfl ?_
    refine g_if_lt X385 hx (hb hby d5_8) 34 11 (by decide) rfl rfl (fun q387 => ?_) (fun q387 => ?_)
    · exact absurd q387 (by decide)
    · refine g_aloadN X385 hx rfl rfl (hb hby d5_11) 12 rfl ?_
      refine g_getfield X385 hx hZ hown (host := "") (Or.inl (wd hw 10 rfl)) Via.refl F_taken e386 (hb hby d5_12) 15 rfl (fun T388 X389 e390 => ?_)
      show Go p_ e_ below _ T388 (mkF m_ 15 #[.val (.ref a), .val (.int (2 : Int32))] [(.ref tk)])
      refine g_iloadN X389 hx rfl (hb hby d5_15) 16 rfl ?_
      refine g_iaload X389 hx hZ e390 A_tk (by decide) rfl (hb hby d5_16) 17 rfl ?_
      show Go p_ e_ below _ T388 (mkF m_ 17 #[.val (.ref a), .val (.int (2 : Int32))] [(.int t2)])
      refine g_aloadN X389 hx rfl rfl (hb hby d5_17) 18 rfl ?_
      refine g_getfield X389 hx hZ hown (host := "") (Or.inl (wd hw 12 rfl)) Via.refl F_counts e390 (hb hby d5_18) 21 rfl (fun T391 X392 e393 => ?_)
      show Go p_ e_ below _ T391 (mkF m_ 21 #[.val (.ref a), .val (.int (2 : Int32))] [(.ref ct), (.int t2)])
      refine g_iloadN X392 hx rfl (hb hby d5_21) 22 rfl ?_
      refine g_iaload X392 hx hZ e393 A_ct (by decide) rfl (hb hby d5_22) 23 rfl ?_
      show Go p_ e_ below _ T391 (mkF m_ 23 #[.val (.ref a), .val (.int (2 : Int32))] [(.int c2), (.int t2)])
      refine g_iconst X392 hx (1 : Int32) rfl (hb hby d5_23) 24 rfl ?_
      refine g_isub X392 hx (hb hby d5_24) 25 rfl ?_
      refine g_icmp_ne X392 hx (hb hby d5_25) 34 28 (by decide) rfl rfl (fun q394 => ?_) (fun q394 => ?_)
      · refine g_aloadN X392 hx rfl rfl (hb hby d5_34) 35 rfl ?_
        refine g_iconst X392 hx (0 : Int32) rfl (hb hby d5_35) 36 rfl ?_
        refine g_putfield X392 hx hZ hown (host := "") (Or.inl (wd hw 26 rfl)) Via.refl e393 F_met E_a (Or.inl (wd hw 27 rfl)) (wd hw 2 rfl) (ty := .int) (by decide) rfl rfl (hb hby d5_36) 39 rfl (fun T395 h396 X397 e398 W399 => ?_)
        have F400 := E_a.wr W399
        have F401 := F_taken.other W399 (Or.inr (slot_ne (Or.inl (wd hw 11 rfl)) (Or.inl (wd hw 27 rfl)) (by decide) (t := (.array .int)) (t' := .int) (by decide) (by decide)))
        have F402 := F_counts.other W399 (Or.inr (slot_ne (Or.inl (wd hw 13 rfl)) (Or.inl (wd hw 27 rfl)) (by decide) (t := (.array .int)) (t' := .int) (by decide) (by decide)))
        have F403 := F_kept.other W399 (Or.inr (slot_ne (Or.inl (wd hw 29 rfl)) (Or.inl (wd hw 27 rfl)) (by decide) (t := .int) (t' := .int) (by decide) (by decide)))
        have F404 := F_met.same W399
        have F405 := A_tk.other W399 ne_ta
        have F406 := A_ct.other W399 ne_ca
        have N407 := Fr.snoc X397 N0 g_a
        have szh408 : n0 ≤ h396.size := Nat.le_trans Z0 (Nat.le_of_eq W399.size.symm)
        have K409 := (Keep.refl h0 [a, tk]).wr W399 (Or.inl (List.mem_of_getElem? (i := 0) rfl))
        show Go p_ e_ below _ T395 (mkF m_ 39 #[.val (.ref a), .val (.int (2 : Int32))] [])
        refine g_iloadN X397 hx rfl (hb hby d5_39) 40 rfl ?_
        refine g_if_ge X397 hx (hb hby d5_40) 50 43 (by decide) rfl rfl (fun q410 => ?_) (fun q410 => ?_)
        · refine g_aloadN X397 hx rfl rfl (hb hby d5_50) 51 rfl ?_
          refine g_getfield X397 hx hZ hown (host := "") (Or.inl (wd hw 10 rfl)) Via.refl F401 e398 (hb hby d5_51) 54 rfl (fun T411 X412 e413 => ?_)
          show Go p_ e_ below _ T411 (mkF m_ 54 #[.val (.ref a), .val (.int (2 : Int32))] [(.ref tk)])
          refine g_iloadN X412 hx rfl (hb hby d5_54) 55 rfl ?_
          refine g_dup2 X412 hx rfl rfl (hb hby d5_55) 56 rfl ?_
          refine g_iaload X412 hx hZ e413 F405 (by decide) rfl (hb hby d5_56) 57 rfl ?_
          show Go p_ e_ below _ T411 (mkF m_ 57 #[.val (.ref a), .val (.int (2 : Int32))] [(.int t2), (.int (2 : Int32)), (.ref tk)])
          refine g_iconst X412 hx (1 : Int32) rfl (hb hby d5_57) 58 rfl ?_
          refine g_iadd X412 hx (hb hby d5_58) 59 rfl ?_
          refine g_iastore X412 hx hZ e413 F405 (by decide) (Nat.le_of_ble_eq_true rfl) (hb hby d5_59) 60 rfl (fun T414 h415 X416 e417 W418 A419 => ?_)
          have A420 : AV Z h415 tk .int [(.int t0), (.int t1), (.int (t2 + (1 : Int32))), (.int t3)] := A419
          have F421 := F400.wr W418
          have F422 := F401.other W418 (Or.inl (Ne.symm ne_ta))
          have F423 := F402.other W418 (Or.inl (Ne.symm ne_ta))
          have F424 := F403.other W418 (Or.inl (Ne.symm ne_ta))
          have F425 := F404.other W418 (Or.inl (Ne.symm ne_ta))
          have F426 := A420
          have F427 := F406.other W418 (Ne.symm ne_tc)
          have N428 := Fr.snoc X416 N407 g_tk
          have szh429 : n0 ≤ h415.size := Nat.le_trans szh408 (Nat.le_of_eq W418.size.symm)
          have K430 := K409.wr W418 (Or.inl (List.mem_of_getElem? (i := 1) rfl))
          show Go p_ e_ below _ T414 (mkF m_ 60 #[.val (.ref a), .val (.int (2 : Int32))] [])
          refine g_aloadN X416 hx rfl rfl (hb hby d5_60) 61 rfl ?_
          refine g_iloadN X416 hx rfl (hb hby d5_61) 62 rfl ?_
          refine g_iconst X416 hx (1 : Int32) rfl (hb hby d5_62) 63 rfl ?_
          refine g_iadd X416 hx (hb hby d5_63) 64 rfl ?_
          show Go p_ e_ below _ T414 (mkF m_ 64 #[.val (.ref a), .val (.int (2 : Int32))] [(.int (3 : Int32)), (.ref a)])
          refine g_putfield X416 hx hZ hown (host := "") (Or.inl (wd hw 28 rfl)) Via.refl e417 F424 F421 (Or.inl (wd hw 29 rfl)) (wd hw 2 rfl) (ty := .int) (by decide) rfl rfl (hb hby d5_64) 67 rfl (fun T431 h432 X433 e434 W435 => ?_)
          have F436 := F421.wr W435
          have F437 := F422.other W435 (Or.inr (slot_ne (Or.inl (wd hw 11 rfl)) (Or.inl (wd hw 29 rfl)) (by decide) (t := (.array .int)) (t' := .int) (by decide) (by decide)))
          have F438 := F423.other W435 (Or.inr (slot_ne (Or.inl (wd hw 13 rfl)) (Or.inl (wd hw 29 rfl)) (by decide) (t := (.array .int)) (t' := .int) (by decide) (by decide)))
          have F439 := F424.same W435
          have F440 := F425.other W435 (Or.inr (slot_ne (Or.inl (wd hw 27 rfl)) (Or.inl (wd hw 29 rfl)) (by decide) (t := .int) (t' := .int) (by decide) (by decide)))
          have F441 := A420.other W435 ne_ta
          have F442 := F427.other W435 ne_ca
          have N443 := Fr.snoc X433 N428 g_a
          have szh444 : n0 ≤ h432.size := Nat.le_trans szh429 (Nat.le_of_eq W435.size.symm)
          have K445 := K430.wr W435 (Or.inl (List.mem_of_getElem? (i := 0) rfl))
          show Go p_ e_ below _ T431 (mkF m_ 67 #[.val (.ref a), .val (.int (2 : Int32))] [])
          refine g_iconst X433 hx (1 : Int32) rfl (hb hby d5_67) 68 rfl ?_
          have hlo : lo (3 : Int32) t0 t1 t2 c0 c1 c2 = (2 : Int32) := ((if_pos (by decide)).trans ((if_neg q394).trans rfl))
          exact g_retz X433 hx hret hlk (by decide) (by decide) (hb hby d5_68) (by rw [e434]; unfold Q5; rw [hlo]; exact ⟨(by rw [if_neg (by decide)]; rfl), N443, K445, F436, F437, F438, F439, F440, (by rw [show tx (2 : Int32) (0 : Int32) t0 = t0 from if_neg (by decide), show tx (2 : Int32) (1 : Int32) t1 = t1 from if_neg (by decide), show tx (2 : Int32) (2 : Int32) t2 = t2 + (1 : Int32) from if_pos rfl]; exact F441), F442⟩)
        · exact absurd q410 (by decide)
      · refine g_iinc X392 hx (-1 : Int32) rfl rfl #[.val (.ref a), .val (.int (1 : Int32))] rfl (hb hby d5_28) 31 rfl ?_
        refine g_goto X392 hx (hb hby d5_31) 7 (by decide) rfl ?_
        refine g_iloadN X392 hx rfl (hb hby d5_7) 8 rfl ?_
        refine g_if_lt X392 hx (hb hby d5_8) 34 11 (by decide) rfl rfl (fun q446 => ?_) (fun q446 => ?_)
        · exact absurd q446 (by decide)
        · refine g_aloadN X392 hx rfl rfl (hb hby d5_11) 12 rfl ?_
          refine g_getfield X392 hx hZ hown (host := "") (Or.inl (wd hw 10 rfl)) Via.refl F_taken e393 (hb hby d5_12) 15 rfl (fun T447 X448 e449 => ?_)
          show Go p_ e_ below _ T447 (mkF m_ 15 #[.val (.ref a), .val (.int (1 : Int32))] [(.ref tk)])
          refine g_iloadN X448 hx rfl (hb hby d5_15) 16 rfl ?_
          refine g_iaload X448 hx hZ e449 A_tk (by decide) rfl (hb hby d5_16) 17 rfl ?_
          show Go p_ e_ below _ T447 (mkF m_ 17 #[.val (.ref a), .val (.int (1 : Int32))] [(.int t1)])
          refine g_aloadN X448 hx rfl rfl (hb hby d5_17) 18 rfl ?_
          refine g_getfield X448 hx hZ hown (host := "") (Or.inl (wd hw 12 rfl)) Via.refl F_counts e449 (hb hby d5_18) 21 rfl (fun T450 X451 e452 => ?_)
          show Go p_ e_ below _ T450 (mkF m_ 21 #[.val (.ref a), .val (.int (1 : Int32))] [(.ref ct), (.int t1)])
          refine g_iloadN X451 hx rfl (hb hby d5_21) 22 rfl ?_
          refine g_iaload X451 hx hZ e452 A_ct (by decide) rfl (hb hby d5_22) 23 rfl ?_
          show Go p_ e_ below _ T450 (mkF m_ 23 #[.val (.ref a), .val (.int (1 : Int32))] [(.int c1), (.int t1)])
          refine g_iconst X451 hx (1 : Int32) rfl (hb hby d5_23) 24 rfl ?_
          refine g_isub X451 hx (hb hby d5_24) 25 rfl ?_
          refine g_icmp_ne X451 hx (hb hby d5_25) 34 28 (by decide) rfl rfl (fun q453 => ?_) (fun q453 => ?_)
          · refine g_aloadN X451 hx rfl rfl (hb hby d5_34) 35 rfl ?_
            refine g_iconst X451 hx (0 : Int32) rfl (hb hby d5_35) 36 rfl ?_
            refine g_putfield X451 hx hZ hown (host := "") (Or.inl (wd hw 26 rfl)) Via.refl e452 F_met E_a (Or.inl (wd hw 27 rfl)) (wd hw 2 rfl) (ty := .int) (by decide) rfl rfl (hb hby d5_36) 39 rfl (fun T454 h455 X456 e457 W458 => ?_)
            have F459 := E_a.wr W458
            have F460 := F_taken.other W458 (Or.inr (slot_ne (Or.inl (wd hw 11 rfl)) (Or.inl (wd hw 27 rfl)) (by decide) (t := (.array .int)) (t' := .int) (by decide) (by decide)))
            have F461 := F_counts.other W458 (Or.inr (slot_ne (Or.inl (wd hw 13 rfl)) (Or.inl (wd hw 27 rfl)) (by decide) (t := (.array .int)) (t' := .int) (by decide) (by decide)))
            have F462 := F_kept.other W458 (Or.inr (slot_ne (Or.inl (wd hw 29 rfl)) (Or.inl (wd hw 27 rfl)) (by decide) (t := .int) (t' := .int) (by decide) (by decide)))
            have F463 := F_met.same W458
            have F464 := A_tk.other W458 ne_ta
            have F465 := A_ct.other W458 ne_ca
            have N466 := Fr.snoc X456 N0 g_a
            have szh467 : n0 ≤ h455.size := Nat.le_trans Z0 (Nat.le_of_eq W458.size.symm)
            have K468 := (Keep.refl h0 [a, tk]).wr W458 (Or.inl (List.mem_of_getElem? (i := 0) rfl))
            show Go p_ e_ below _ T454 (mkF m_ 39 #[.val (.ref a), .val (.int (1 : Int32))] [])
            refine g_iloadN X456 hx rfl (hb hby d5_39) 40 rfl ?_
            refine g_if_ge X456 hx (hb hby d5_40) 50 43 (by decide) rfl rfl (fun q469 => ?_) (fun q469 => ?_)
            · refine g_aloadN X456 hx rfl rfl (hb hby d5_50) 51 rfl ?_
              refine g_getfield X456 hx hZ hown (host := "") (Or.inl (wd hw 10 rfl)) Via.refl F460 e457 (hb hby d5_51) 54 rfl (fun T470 X471 e472 => ?_)
              show Go p_ e_ below _ T470 (mkF m_ 54 #[.val (.ref a), .val (.int (1 : Int32))] [(.ref tk)])
              refine g_iloadN X471 hx rfl (hb hby d5_54) 55 rfl ?_
              refine g_dup2 X471 hx rfl rfl (hb hby d5_55) 56 rfl ?_
              refine g_iaload X471 hx hZ e472 F464 (by decide) rfl (hb hby d5_56) 57 rfl ?_
              show Go p_ e_ below _ T470 (mkF m_ 57 #[.val (.ref a), .val (.int (1 : Int32))] [(.int t1), (.int (1 : Int32)), (.ref tk)])
              refine g_iconst X471 hx (1 : Int32) rfl (hb hby d5_57) 58 rfl ?_
              refine g_iadd X471 hx (hb hby d5_58) 59 rfl ?_
              refine g_iastore X471 hx hZ e472 F464 (by decide) (Nat.le_of_ble_eq_true rfl) (hb hby d5_59) 60 rfl (fun T473 h474 X475 e476 W477 A478 => ?_)
              have A479 : AV Z h474 tk .int [(.int t0), (.int (t1 + (1 : Int32))), (.int t2), (.int t3)] := A478
              have F480 := F459.wr W477
              have F481 := F460.other W477 (Or.inl (Ne.symm ne_ta))
              have F482 := F461.other W477 (Or.inl (Ne.symm ne_ta))
              have F483 := F462.other W477 (Or.inl (Ne.symm ne_ta))
              have F484 := F463.other W477 (Or.inl (Ne.symm ne_ta))
              have F485 := A479
              have F486 := F465.other W477 (Ne.symm ne_tc)
              have N487 := Fr.snoc X475 N466 g_tk
              have szh488 : n0 ≤ h474.size := Nat.le_trans szh467 (Nat.le_of_eq W477.size.symm)
              have K489 := K468.wr W477 (Or.inl (List.mem_of_getElem? (i := 1) rfl))
              show Go p_ e_ below _ T473 (mkF m_ 60 #[.val (.ref a), .val (.int (1 : Int32))] [])
              refine g_aloadN X475 hx rfl rfl (hb hby d5_60) 61 rfl ?_
              refine g_iloadN X475 hx rfl (hb hby d5_61) 62 rfl ?_
              refine g_iconst X475 hx (1 : Int32) rfl (hb hby d5_62) 63 rfl ?_
              refine g_iadd X475 hx (hb hby d5_63) 64 rfl ?_
              show Go p_ e_ below _ T473 (mkF m_ 64 #[.val (.ref a), .val (.int (1 : Int32))] [(.int (2 : Int32)), (.ref a)])
              refine g_putfield X475 hx hZ hown (host := "") (Or.inl (wd hw 28 rfl)) Via.refl e476 F483 F480 (Or.inl (wd hw 29 rfl)) (wd hw 2 rfl) (ty := .int) (by decide) rfl rfl (hb hby d5_64) 67 rfl (fun T490 h491 X492 e493 W494 => ?_)
              have F495 := F480.wr W494
              have F496 := F481.other W494 (Or.inr (slot_ne (Or.inl (wd hw 11 rfl)) (Or.inl (wd hw 29 rfl)) (by decide) (t := (.array .int)) (t' := .int) (by decide) (by decide)))
              have F497 := F482.other W494 (Or.inr (slot_ne (Or.inl (wd hw 13 rfl)) (Or.inl (wd hw 29 rfl)) (by decide) (t := (.array .int)) (t' := .int) (by decide) (by decide)))
              have F498 := F483.same W494
              have F499 := F484.other W494 (Or.inr (slot_ne (Or.inl (wd hw 27 rfl)) (Or.inl (wd hw 29 rfl)) (by decide) (t := .int) (t' := .int) (by decide) (by decide)))
              have F500 := A479.other W494 ne_ta
              have F501 := F486.other W494 ne_ca
              have N502 := Fr.snoc X492 N487 g_a
              have szh503 : n0 ≤ h491.size := Nat.le_trans szh488 (Nat.le_of_eq W494.size.symm)
              have K504 := K489.wr W494 (Or.inl (List.mem_of_getElem? (i := 0) rfl))
              show Go p_ e_ below _ T490 (mkF m_ 67 #[.val (.ref a), .val (.int (1 : Int32))] [])
              refine g_iconst X492 hx (1 : Int32) rfl (hb hby d5_67) 68 rfl ?_
              have hlo : lo (3 : Int32) t0 t1 t2 c0 c1 c2 = (1 : Int32) := ((if_pos (by decide)).trans ((if_pos q394).trans ((if_pos (by decide)).trans ((if_neg q453).trans rfl))))
              exact g_retz X492 hx hret hlk (by decide) (by decide) (hb hby d5_68) (by rw [e493]; unfold Q5; rw [hlo]; exact ⟨(by rw [if_neg (by decide)]; rfl), N502, K504, F495, F496, F497, F498, F499, (by rw [show tx (1 : Int32) (0 : Int32) t0 = t0 from if_neg (by decide), show tx (1 : Int32) (1 : Int32) t1 = t1 + (1 : Int32) from if_pos rfl, show tx (1 : Int32) (2 : Int32) t2 = t2 from if_neg (by decide)]; exact F500), F501⟩)
            · exact absurd q469 (by decide)
          · refine g_iinc X451 hx (-1 : Int32) rfl rfl #[.val (.ref a), .val (.int (0 : Int32))] rfl (hb hby d5_28) 31 rfl ?_
            refine g_goto X451 hx (hb hby d5_31) 7 (by decide) rfl ?_
            refine g_iloadN X451 hx rfl (hb hby d5_7) 8 rfl ?_
            refine g_if_lt X451 hx (hb hby d5_8) 34 11 (by decide) rfl rfl (fun q505 => ?_) (fun q505 => ?_)
            · exact absurd q505 (by decide)
            · refine g_aloadN X451 hx rfl rfl (hb hby d5_11) 12 rfl ?_
              refine g_getfield X451 hx hZ hown (host := "") (Or.inl (wd hw 10 rfl)) Via.refl F_taken e452 (hb hby d5_12) 15 rfl (fun T506 X507 e508 => ?_)
              show Go p_ e_ below _ T506 (mkF m_ 15 #[.val (.ref a), .val (.int (0 : Int32))] [(.ref tk)])
              refine g_iloadN X507 hx rfl (hb hby d5_15) 16 rfl ?_
              refine g_iaload X507 hx hZ e508 A_tk (by decide) rfl (hb hby d5_16) 17 rfl ?_
              show Go p_ e_ below _ T506 (mkF m_ 17 #[.val (.ref a), .val (.int (0 : Int32))] [(.int t0)])
              refine g_aloadN X507 hx rfl rfl (hb hby d5_17) 18 rfl ?_
              refine g_getfield X507 hx hZ hown (host := "") (Or.inl (wd hw 12 rfl)) Via.refl F_counts e508 (hb hby d5_18) 21 rfl (fun T509 X510 e511 => ?_)
              show Go p_ e_ below _ T509 (mkF m_ 21 #[.val (.ref a), .val (.int (0 : Int32))] [(.ref ct), (.int t0)])
              refine g_iloadN X510 hx rfl (hb hby d5_21) 22 rfl ?_
              refine g_iaload X510 hx hZ e511 A_ct (by decide) rfl (hb hby d5_22) 23 rfl ?_
              show Go p_ e_ below _ T509 (mkF m_ 23 #[.val (.ref a), .val (.int (0 : Int32))] [(.int c0), (.int t0)])
              refine g_iconst X510 hx (1 : Int32) rfl (hb hby d5_23) 24 rfl ?_
              refine g_isub X510 hx (hb hby d5_24) 25 rfl ?_
              refine g_icmp_ne X510 hx (hb hby d5_25) 34 28 (by decide) rfl rfl (fun q512 => ?_) (fun q512 => ?_)
              · refine g_aloadN X510 hx rfl rfl (hb hby d5_34) 35 rfl ?_
                refine g_iconst X510 hx (0 : Int32) rfl (hb hby d5_35) 36 rfl ?_
                refine g_putfield X510 hx hZ hown (host := "") (Or.inl (wd hw 26 rfl)) Via.refl e511 F_met E_a (Or.inl (wd hw 27 rfl)) (wd hw 2 rfl) (ty := .int) (by decide) rfl rfl (hb hby d5_36) 39 rfl (fun T513 h514 X515 e516 W517 => ?_)
                have F518 := E_a.wr W517
                have F519 := F_taken.other W517 (Or.inr (slot_ne (Or.inl (wd hw 11 rfl)) (Or.inl (wd hw 27 rfl)) (by decide) (t := (.array .int)) (t' := .int) (by decide) (by decide)))
                have F520 := F_counts.other W517 (Or.inr (slot_ne (Or.inl (wd hw 13 rfl)) (Or.inl (wd hw 27 rfl)) (by decide) (t := (.array .int)) (t' := .int) (by decide) (by decide)))
                have F521 := F_kept.other W517 (Or.inr (slot_ne (Or.inl (wd hw 29 rfl)) (Or.inl (wd hw 27 rfl)) (by decide) (t := .int) (t' := .int) (by decide) (by decide)))
                have F522 := F_met.same W517
                have F523 := A_tk.other W517 ne_ta
                have F524 := A_ct.other W517 ne_ca
                have N525 := Fr.snoc X515 N0 g_a
                have szh526 : n0 ≤ h514.size := Nat.le_trans Z0 (Nat.le_of_eq W517.size.symm)
                have K527 := (Keep.refl h0 [a, tk]).wr W517 (Or.inl (List.mem_of_getElem? (i := 0) rfl))
                show Go p_ e_ below _ T513 (mkF m_ 39 #[.val (.ref a), .val (.int (0 : Int32))] [])
                refine g_iloadN X515 hx rfl (hb hby d5_39) 40 rfl ?_
                refine g_if_ge X515 hx (hb hby d5_40) 50 43 (by decide) rfl rfl (fun q528 => ?_) (fun q528 => ?_)
                · refine g_aloadN X515 hx rfl rfl (hb hby d5_50) 51 rfl ?_
                  refine g_getfield X515 hx hZ hown (host := "") (Or.inl (wd hw 10 rfl)) Via.refl F519 e516 (hb hby d5_51) 54 rfl (fun T529 X530 e531 => ?_)
                  show Go p_ e_ below _ T529 (mkF m_ 54 #[.val (.ref a), .val (.int (0 : Int32))] [(.ref tk)])
                  refine g_iloadN X530 hx rfl (hb hby d5_54) 55 rfl ?_
                  refine g_dup2 X530 hx rfl rfl (hb hby d5_55) 56 rfl ?_
                  refine g_iaload X530 hx hZ e531 F523 (by decide) rfl (hb hby d5_56) 57 rfl ?_
                  show Go p_ e_ below _ T529 (mkF m_ 57 #[.val (.ref a), .val (.int (0 : Int32))] [(.int t0), (.int (0 : Int32)), (.ref tk)])
                  refine g_iconst X530 hx (1 : Int32) rfl (hb hby d5_57) 58 rfl ?_
                  refine g_iadd X530 hx (hb hby d5_58) 59 rfl ?_
                  refine g_iastore X530 hx hZ e531 F523 (by decide) (Nat.le_of_ble_eq_true rfl) (hb hby d5_59) 60 rfl (fun T532 h533 X534 e535 W536 A537 => ?_)
                  have A538 : AV Z h533 tk .int [(.int (t0 + (1 : Int32))), (.int t1), (.int t2), (.int t3)] := A537
                  have F539 := F518.wr W536
                  have F540 := F519.other W536 (Or.inl (Ne.symm ne_ta))
                  have F541 := F520.other W536 (Or.inl (Ne.symm ne_ta))
                  have F542 := F521.other W536 (Or.inl (Ne.symm ne_ta))
                  have F543 := F522.other W536 (Or.inl (Ne.symm ne_ta))
                  have F544 := A538
                  have F545 := F524.other W536 (Ne.symm ne_tc)
                  have N546 := Fr.snoc X534 N525 g_tk
                  have szh547 : n0 ≤ h533.size := Nat.le_trans szh526 (Nat.le_of_eq W536.size.symm)
                  have K548 := K527.wr W536 (Or.inl (List.mem_of_getElem? (i := 1) rfl))
                  show Go p_ e_ below _ T532 (mkF m_ 60 #[.val (.ref a), .val (.int (0 : Int32))] [])
                  refine g_aloadN X534 hx rfl rfl (hb hby d5_60) 61 rfl ?_
                  refine g_iloadN X534 hx rfl (hb hby d5_61) 62 rfl ?_
                  refine g_iconst X534 hx (1 : Int32) rfl (hb hby d5_62) 63 rfl ?_
                  refine g_iadd X534 hx (hb hby d5_63) 64 rfl ?_
                  show Go p_ e_ below _ T532 (mkF m_ 64 #[.val (.ref a), .val (.int (0 : Int32))] [(.int (1 : Int32)), (.ref a)])
                  refine g_putfield X534 hx hZ hown (host := "") (Or.inl (wd hw 28 rfl)) Via.refl e535 F542 F539 (Or.inl (wd hw 29 rfl)) (wd hw 2 rfl) (ty := .int) (by decide) rfl rfl (hb hby d5_64) 67 rfl (fun T549 h550 X551 e552 W553 => ?_)
                  have F554 := F539.wr W553
                  have F555 := F540.other W553 (Or.inr (slot_ne (Or.inl (wd hw 11 rfl)) (Or.inl (wd hw 29 rfl)) (by decide) (t := (.array .int)) (t' := .int) (by decide) (by decide)))
                  have F556 := F541.other W553 (Or.inr (slot_ne (Or.inl (wd hw 13 rfl)) (Or.inl (wd hw 29 rfl)) (by decide) (t := (.array .int)) (t' := .int) (by decide) (by decide)))
                  have F557 := F542.same W553
                  have F558 := F543.other W553 (Or.inr (slot_ne (Or.inl (wd hw 27 rfl)) (Or.inl (wd hw 29 rfl)) (by decide) (t := .int) (t' := .int) (by decide) (by decide)))
                  have F559 := A538.other W553 ne_ta
                  have F560 := F545.other W553 ne_ca
                  have N561 := Fr.snoc X551 N546 g_a
                  have szh562 : n0 ≤ h550.size := Nat.le_trans szh547 (Nat.le_of_eq W553.size.symm)
                  have K563 := K548.wr W553 (Or.inl (List.mem_of_getElem? (i := 0) rfl))
                  show Go p_ e_ below _ T549 (mkF m_ 67 #[.val (.ref a), .val (.int (0 : Int32))] [])
                  refine g_iconst X551 hx (1 : Int32) rfl (hb hby d5_67) 68 rfl ?_
                  have hlo : lo (3 : Int32) t0 t1 t2 c0 c1 c2 = (0 : Int32) := ((if_pos (by decide)).trans ((if_pos q394).trans ((if_pos (by decide)).trans ((if_pos q453).trans ((if_pos (by decide)).trans ((if_neg q512).trans rfl))))))
                  exact g_retz X551 hx hret hlk (by decide) (by decide) (hb hby d5_68) (by rw [e552]; unfold Q5; rw [hlo]; exact ⟨(by rw [if_neg (by decide)]; rfl), N561, K563, F554, F555, F556, F557, F558, (by rw [show tx (0 : Int32) (0 : Int32) t0 = t0 + (1 : Int32) from if_pos rfl, show tx (0 : Int32) (1 : Int32) t1 = t1 from if_neg (by decide), show tx (0 : Int32) (2 : Int32) t2 = t2 from if_neg (by decide)]; exact F559), F560⟩)
                · exact absurd q528 (by decide)
              · refine g_iinc X510 hx (-1 : Int32) rfl rfl #[.val (.ref a), .val (.int (-1 : Int32))] rfl (hb hby d5_28) 31 rfl ?_
                refine g_goto X510 hx (hb hby d5_31) 7 (by decide) rfl ?_
                refine g_iloadN X510 hx rfl (hb hby d5_7) 8 rfl ?_
                refine g_if_lt X510 hx (hb hby d5_8) 34 11 (by decide) rfl rfl (fun q564 => ?_) (fun q564 => ?_)
                · refine g_aloadN X510 hx rfl rfl (hb hby d5_34) 35 rfl ?_
                  refine g_iconst X510 hx (0 : Int32) rfl (hb hby d5_35) 36 rfl ?_
                  refine g_putfield X510 hx hZ hown (host := "") (Or.inl (wd hw 26 rfl)) Via.refl e511 F_met E_a (Or.inl (wd hw 27 rfl)) (wd hw 2 rfl) (ty := .int) (by decide) rfl rfl (hb hby d5_36) 39 rfl (fun T565 h566 X567 e568 W569 => ?_)
                  have F570 := E_a.wr W569
                  have F571 := F_taken.other W569 (Or.inr (slot_ne (Or.inl (wd hw 11 rfl)) (Or.inl (wd hw 27 rfl)) (by decide) (t := (.array .int)) (t' := .int) (by decide) (by decide)))
                  have F572 := F_counts.other W569 (Or.inr (slot_ne (Or.inl (wd hw 13 rfl)) (Or.inl (wd hw 27 rfl)) (by decide) (t := (.array .int)) (t' := .int) (by decide) (by decide)))
                  have F573 := F_kept.other W569 (Or.inr (slot_ne (Or.inl (wd hw 29 rfl)) (Or.inl (wd hw 27 rfl)) (by decide) (t := .int) (t' := .int) (by decide) (by decide)))
                  have F574 := F_met.same W569
                  have F575 := A_tk.other W569 ne_ta
                  have F576 := A_ct.other W569 ne_ca
                  have N577 := Fr.snoc X567 N0 g_a
                  have szh578 : n0 ≤ h566.size := Nat.le_trans Z0 (Nat.le_of_eq W569.size.symm)
                  have K579 := (Keep.refl h0 [a, tk]).wr W569 (Or.inl (List.mem_of_getElem? (i := 0) rfl))
                  show Go p_ e_ below _ T565 (mkF m_ 39 #[.val (.ref a), .val (.int (-1 : Int32))] [])
                  refine g_iloadN X567 hx rfl (hb hby d5_39) 40 rfl ?_
                  refine g_if_ge X567 hx (hb hby d5_40) 50 43 (by decide) rfl rfl (fun q580 => ?_) (fun q580 => ?_)
                  · exact absurd q580 (by decide)
                  · refine g_aloadN X567 hx rfl rfl (hb hby d5_43) 44 rfl ?_
                    refine g_iconst X567 hx (0 : Int32) rfl (hb hby d5_44) 45 rfl ?_
                    refine g_putfield X567 hx hZ hown (host := "") (Or.inl (wd hw 28 rfl)) Via.refl e568 F573 F570 (Or.inl (wd hw 29 rfl)) (wd hw 2 rfl) (ty := .int) (by decide) rfl rfl (hb hby d5_45) 48 rfl (fun T581 h582 X583 e584 W585 => ?_)
                    have F586 := F570.wr W585
                    have F587 := F571.other W585 (Or.inr (slot_ne (Or.inl (wd hw 11 rfl)) (Or.inl (wd hw 29 rfl)) (by decide) (t := (.array .int)) (t' := .int) (by decide) (by decide)))
                    have F588 := F572.other W585 (Or.inr (slot_ne (Or.inl (wd hw 13 rfl)) (Or.inl (wd hw 29 rfl)) (by decide) (t := (.array .int)) (t' := .int) (by decide) (by decide)))
                    have F589 := F573.same W585
                    have F590 := F574.other W585 (Or.inr (slot_ne (Or.inl (wd hw 27 rfl)) (Or.inl (wd hw 29 rfl)) (by decide) (t := .int) (t' := .int) (by decide) (by decide)))
                    have F591 := F575.other W585 ne_ta
                    have F592 := F576.other W585 ne_ca
                    have N593 := Fr.snoc X583 N577 g_a
                    have szh594 : n0 ≤ h582.size := Nat.le_trans szh578 (Nat.le_of_eq W585.size.symm)
                    have K595 := K579.wr W585 (Or.inl (List.mem_of_getElem? (i := 0) rfl))
                    show Go p_ e_ below _ T581 (mkF m_ 48 #[.val (.ref a), .val (.int (-1 : Int32))] [])
                    refine g_iconst X583 hx (0 : Int32) rfl (hb hby d5_48) 49 rfl ?_
                    have hlo : lo (3 : Int32) t0 t1 t2 c0 c1 c2 = (-1 : Int32) := ((if_pos (by decide)).trans ((if_pos q394).trans ((if_pos (by decide)).trans ((if_pos q453).trans ((if_pos (by decide)).trans ((if_pos q512).trans rfl))))))
                    exact g_retz X583 hx hret hlk (by decide) (by decide) (hb hby d5_49) (by rw [e584]; unfold Q5; rw [hlo]; exact ⟨(by rw [if_pos (by decide)]; rfl), N593, K595, F586, F587, F588, F589, F590, (by rw [show tx (-1 : Int32) (0 : Int32) t0 = t0 from if_neg (by decide), show tx (-1 : Int32) (1 : Int32) t1 = t1 from if_neg (by decide), show tx (-1 : Int32) (2 : Int32) t2 = t2 from if_neg (by decide)]; exact F591), F592⟩)
                · exact absurd q564 (by decide)
theorem own_b4 (x v : Int32) (h : x &&& (3 : Int32) = v) : v = 0 ∨ v = 1 ∨ v = 2 ∨ v = 3 := by
  subst h
  have e : (x &&& (3 : Int32)).toInt = x.toInt % (2 ^ 2 : Nat) := c_mask x 3 2 (by decide) (by decide)
  simp only [← Int32.toInt_inj, Int32.reduceToInt]
  omega
theorem own_tn0 (i n : Int32) : tn i n (0 : Int32) (0 : Int32) = 0 := by unfold tn; simp
theorem own_congr (n t0 t1 t2 c0 c1 c2 s0 s1 s2 e0 e1 e2 : Int32) (h0 : (0 : Int32) < n → t0 = s0 ∧ c0 = e0) (h1 : (1 : Int32) < n → t1 = s1 ∧ c1 = e1) (h2 : (2 : Int32) < n → t2 = s2 ∧ c2 = e2) : lo n t0 t1 t2 c0 c1 c2 = lo n s0 s1 s2 e0 e1 e2 := by
  unfold lo
  by_cases q2 : (2 : Int32) < n <;> by_cases q1 : (1 : Int32) < n <;> by_cases q0 : (0 : Int32) < n <;> simp [q0, q1, q2, h0, h1, h2]
theorem own_rng (n t0 t1 t2 c0 c1 c2 v : Int32) (h : lo n t0 t1 t2 c0 c1 c2 = v) : v = -1 ∨ (v = 0 ∧ (0 : Int32) < n) ∨ (v = 1 ∧ (1 : Int32) < n) ∨ (v = 2 ∧ (2 : Int32) < n) := by
  subst h
  unfold lo
  by_cases q2 : (2 : Int32) < n <;> by_cases q1 : (1 : Int32) < n <;> by_cases q0 : (0 : Int32) < n <;> simp only [q0, q1, q2, if_true, if_false] <;> (repeat' split) <;> simp
theorem own_L {n v : Int32} (h : v = -1 ∨ (v = 0 ∧ (0 : Int32) < n) ∨ (v = 1 ∧ (1 : Int32) < n) ∨ (v = 2 ∧ (2 : Int32) < n)) : v = -1 ∨ v = 0 ∨ v = 1 ∨ v = 2 := by
  rcases h with h | h | h | h
  · exact Or.inl h
  · exact Or.inr (Or.inl h.1)
  · exact Or.inr (Or.inr (Or.inl h.1))
  · exact Or.inr (Or.inr (Or.inr h.1))
theorem own_n2 (L x : Int32) (hL : L = -1 ∨ L = 0 ∨ L = 1 ∨ L = 2) (hx : x = 0 ∨ x = 1 ∨ x = 2 ∨ x = 3) (v : Int32) (h : mn (3 : Int32) ((L + (1 : Int32)) + x) = v) : v = 0 ∨ v = 1 ∨ v = 2 ∨ v = 3 := by
  subst h
  rcases hL with rfl | rfl | rfl | rfl <;> rcases hx with rfl | rfl | rfl | rfl <;> decide
theorem own_cn (i n c : Int32) (h : i < n) (hi : ¬ i < (0 : Int32)) : cn i n (0 : Int32) (0 : Int32) c = c := by unfold cn; rw [if_pos h, if_neg hi]
theorem own_he0 (L : Int32) (hL : L = -1 ∨ L = 0 ∨ L = 1 ∨ L = 2) : (if (0 : Int32) < (L + (1 : Int32)) then tx L (0 : Int32) (0 : Int32) else (0 : Int32)) = (if L = (0 : Int32) then (1 : Int32) else (0 : Int32)) := by
  rcases hL with rfl | rfl | rfl | rfl <;> decide
theorem own_T0 (L n : Int32) (hL : L = -1 ∨ L = 0 ∨ L = 1 ∨ L = 2) : tn (0 : Int32) n (L + (1 : Int32)) (tx L (0 : Int32) (0 : Int32)) = (if L = (0 : Int32) then (1 : Int32) else (0 : Int32)) := by
  unfold tn
  by_cases q : (0 : Int32) < n
  · rw [if_pos q]; exact own_he0 L hL
  · rw [if_neg q]; rcases hL with rfl | rfl | rfl | rfl <;> decide
theorem own_C0 (L n1 n2 c e d : Int32) (hL : L = -1 ∨ (L = 0 ∧ (0 : Int32) < n1) ∨ (L = 1 ∧ (1 : Int32) < n1) ∨ (L = 2 ∧ (2 : Int32) < n1)) (he : e = (if (0 : Int32) < (L + (1 : Int32)) then c else d)) (q : (0 : Int32) < n2) : cn (0 : Int32) n2 (L + (1 : Int32)) (cn (0 : Int32) n1 (0 : Int32) (0 : Int32) c) e = e := by
  unfold cn
  rw [if_pos q]
  by_cases r : (0 : Int32) < (L + (1 : Int32))
  · rw [if_pos r] at he ⊢
    rw [he]
    have : (0 : Int32) < n1 := by
      rcases hL with rfl | ⟨rfl, h⟩ | ⟨rfl, h⟩ | ⟨rfl, h⟩
      · exact absurd r (by decide)
      all_goals first | exact absurd r (by decide) | (rw [Int32.lt_iff_toInt_lt] at *; simp only [Int32.reduceToInt] at *; omega)
    rw [if_pos this, if_neg (by decide)]
  · rw [if_neg r]
theorem own_s0 (L y0 y1 y2 : Int32) (hL : L = -1 ∨ L = 0 ∨ L = 1 ∨ L = 2) : (if (0 : Int32) < (L + (1 : Int32)) then tx L (0 : Int32) y0 else (0 : Int32)) = stp0 L y0 y1 y2 := by
  rcases hL with rfl | rfl | rfl | rfl <;> simp [tx, stp0]
theorem own_T30 (L n y s : Int32) (h : (if (0 : Int32) < (L + (1 : Int32)) then tx L (0 : Int32) y else (0 : Int32)) = s) (q : (0 : Int32) < n) : tn (0 : Int32) n (L + (1 : Int32)) (tx L (0 : Int32) y) = s := by
  unfold tn; rw [if_pos q]; exact h
theorem own_C30 (L n c e : Int32) (h : c = e) (q : (0 : Int32) < n) : cn (0 : Int32) n (L + (1 : Int32)) c e = e := by
  unfold cn; rw [if_pos q, h]; split <;> rfl
theorem own_he1 (L : Int32) (hL : L = -1 ∨ L = 0 ∨ L = 1 ∨ L = 2) : (if (1 : Int32) < (L + (1 : Int32)) then tx L (1 : Int32) (0 : Int32) else (0 : Int32)) = (if L = (1 : Int32) then (1 : Int32) else (0 : Int32)) := by
  rcases hL with rfl | rfl | rfl | rfl <;> decide
theorem own_T1 (L n : Int32) (hL : L = -1 ∨ L = 0 ∨ L = 1 ∨ L = 2) : tn (1 : Int32) n (L + (1 : Int32)) (tx L (1 : Int32) (0 : Int32)) = (if L = (1 : Int32) then (1 : Int32) else (0 : Int32)) := by
  unfold tn
  by_cases q : (1 : Int32) < n
  · rw [if_pos q]; exact own_he1 L hL
  · rw [if_neg q]; rcases hL with rfl | rfl | rfl | rfl <;> decide
theorem own_C1 (L n1 n2 c e d : Int32) (hL : L = -1 ∨ (L = 0 ∧ (0 : Int32) < n1) ∨ (L = 1 ∧ (1 : Int32) < n1) ∨ (L = 2 ∧ (2 : Int32) < n1)) (he : e = (if (1 : Int32) < (L + (1 : Int32)) then c else d)) (q : (1 : Int32) < n2) : cn (1 : Int32) n2 (L + (1 : Int32)) (cn (1 : Int32) n1 (0 : Int32) (0 : Int32) c) e = e := by
  unfold cn
  rw [if_pos q]
  by_cases r : (1 : Int32) < (L + (1 : Int32))
  · rw [if_pos r] at he ⊢
    rw [he]
    have : (1 : Int32) < n1 := by
      rcases hL with rfl | ⟨rfl, h⟩ | ⟨rfl, h⟩ | ⟨rfl, h⟩
      · exact absurd r (by decide)
      all_goals first | exact absurd r (by decide) | (rw [Int32.lt_iff_toInt_lt] at *; simp only [Int32.reduceToInt] at *; omega)
    rw [if_pos this, if_neg (by decide)]
  · rw [if_neg r]
theorem own_s1 (L y0 y1 y2 : Int32) (hL : L = -1 ∨ L = 0 ∨ L = 1 ∨ L = 2) : (if (1 : Int32) < (L + (1 : Int32)) then tx L (1 : Int32) y1 else (0 : Int32)) = stp1 L y0 y1 y2 := by
  rcases hL with rfl | rfl | rfl | rfl <;> simp [tx, stp1]
theorem own_T31 (L n y s : Int32) (h : (if (1 : Int32) < (L + (1 : Int32)) then tx L (1 : Int32) y else (0 : Int32)) = s) (q : (1 : Int32) < n) : tn (1 : Int32) n (L + (1 : Int32)) (tx L (1 : Int32) y) = s := by
  unfold tn; rw [if_pos q]; exact h
theorem own_C31 (L n c e : Int32) (h : c = e) (q : (1 : Int32) < n) : cn (1 : Int32) n (L + (1 : Int32)) c e = e := by
  unfold cn; rw [if_pos q, h]; split <;> rfl
theorem own_he2 (L : Int32) (hL : L = -1 ∨ L = 0 ∨ L = 1 ∨ L = 2) : (if (2 : Int32) < (L + (1 : Int32)) then tx L (2 : Int32) (0 : Int32) else (0 : Int32)) = (if L = (2 : Int32) then (1 : Int32) else (0 : Int32)) := by
  rcases hL with rfl | rfl | rfl | rfl <;> decide
theorem own_T2 (L n : Int32) (hL : L = -1 ∨ L = 0 ∨ L = 1 ∨ L = 2) : tn (2 : Int32) n (L + (1 : Int32)) (tx L (2 : Int32) (0 : Int32)) = (if L = (2 : Int32) then (1 : Int32) else (0 : Int32)) := by
  unfold tn
  by_cases q : (2 : Int32) < n
  · rw [if_pos q]; exact own_he2 L hL
  · rw [if_neg q]; rcases hL with rfl | rfl | rfl | rfl <;> decide
theorem own_C2 (L n1 n2 c e d : Int32) (hL : L = -1 ∨ (L = 0 ∧ (0 : Int32) < n1) ∨ (L = 1 ∧ (1 : Int32) < n1) ∨ (L = 2 ∧ (2 : Int32) < n1)) (he : e = (if (2 : Int32) < (L + (1 : Int32)) then c else d)) (q : (2 : Int32) < n2) : cn (2 : Int32) n2 (L + (1 : Int32)) (cn (2 : Int32) n1 (0 : Int32) (0 : Int32) c) e = e := by
  unfold cn
  rw [if_pos q]
  by_cases r : (2 : Int32) < (L + (1 : Int32))
  · rw [if_pos r] at he ⊢
    rw [he]
    have : (2 : Int32) < n1 := by
      rcases hL with rfl | ⟨rfl, h⟩ | ⟨rfl, h⟩ | ⟨rfl, h⟩
      · exact absurd r (by decide)
      all_goals first | exact absurd r (by decide) | (rw [Int32.lt_iff_toInt_lt] at *; simp only [Int32.reduceToInt] at *; omega)
    rw [if_pos this, if_neg (by decide)]
  · rw [if_neg r]
theorem own_s2 (L y0 y1 y2 : Int32) (hL : L = -1 ∨ L = 0 ∨ L = 1 ∨ L = 2) : (if (2 : Int32) < (L + (1 : Int32)) then tx L (2 : Int32) y2 else (0 : Int32)) = stp2 L y0 y1 y2 := by
  rcases hL with rfl | rfl | rfl | rfl <;> simp [tx, stp2]
theorem own_T32 (L n y s : Int32) (h : (if (2 : Int32) < (L + (1 : Int32)) then tx L (2 : Int32) y else (0 : Int32)) = s) (q : (2 : Int32) < n) : tn (2 : Int32) n (L + (1 : Int32)) (tx L (2 : Int32) y) = s := by
  unfold tn; rw [if_pos q]; exact h
theorem own_C32 (L n c e : Int32) (h : c = e) (q : (2 : Int32) < n) : cn (2 : Int32) n (L + (1 : Int32)) c e = e := by
  unfold cn; rw [if_pos q, h]; split <;> rfl
theorem ef0 (m_ : MethodId) (x0 : Int32) (x1 : Int32)  : entryFrame m_ #[(.int x0), (.int x1)] maxLocals = mkF m_ 0 #[.val (.int x0), .val (.int x1), .unset, .unset, .unset, .unset, .unset, .unset, .unset, .unset, .unset, .unset, .unset, .unset, .unset, .unset, .unset, .unset, .unset, .unset] [] := by first | (simp [entryFrame, mkF, argsToLocals, Value.category, maxLocals]; done) | rfl
theorem pd_1 : parseMethodDescriptor "()V" = some ⟨[], none⟩ := by decide +kernel
theorem pd_2 : parseMethodDescriptor "(Lcom/example/redshank/redshank/engine/Choices;I[I[I)Z" = some ⟨[(.object "com/example/redshank/redshank/engine/Choices"), .int, (.array .int), (.array .int)], some .boolean⟩ := by decide +kernel
theorem pd_3 : parseMethodDescriptor "([I[II)I" = some ⟨[(.array .int), (.array .int), .int], some .int⟩ := by decide +kernel
theorem pd_4 : parseMethodDescriptor "()Z" = some ⟨[], some .boolean⟩ := by decide +kernel
theorem pd_5 : parseMethodDescriptor "(II)I" = some ⟨[.int, .int], some .int⟩ := by decide +kernel
theorem pd_6 : parseMethodDescriptor "([III)I" = some ⟨[(.array .int), .int, .int], some .int⟩ := by decide +kernel
set_option maxRecDepth 65536 in
set_option maxHeartbeats 40000000 in
theorem rm0 (l : Launch) (Z : State) (a0 : Array Value) (hw : ∀ d ∈ tables_1, d.before a0 Z = true) (ws : List Jvm.Cond) (x0 : Int32) (x1 : Int32) (h0 : Heap)  : Co l x code maxLocals ret ws room_1 Z h0 #[(.int x0), (.int x1)] (fun v h L => v = some (.int 1) ∧ Fr h0.size L) := by
  refine Co.of (plainFor_of_name pn_1) ?_
  intro p_ e_ s_ m_ below meth c_ T0 X0 hx hby hml hown hnm hret hlk hZ eq0
  have N0 := Fr.nil h0.size
  refine Go.cast (ef0 m_ x0 x1) ?_
  refine g_iloadN X0 hx rfl (hb hby at_0) 1 rfl ?_
  refine g_iconst X0 hx (3 : Int32) rfl (hb hby at_1) 2 rfl ?_
  refine g_iand X0 hx (hb hby at_2) 3 rfl ?_
  generalize hv101 : (x0 &&& (3 : Int32)) = v101
  refine g_istoreN X0 hx #[.val (.int x0), .val (.int x1), .val (.int v101), .unset, .unset, .unset, .unset, .unset, .unset, .unset, .unset, .unset, .unset, .unset, .unset, .unset, .unset, .unset, .unset, .unset] rfl (hb hby at_3) 4 rfl ?_
  have hn1 := own_b4 _ _ hv101
  refine g_iconst X0 hx (3 : Int32) rfl (hb hby at_4) 5 rfl ?_
  refine g_newarray X0 hx hZ (aty := .int) (wd hw 0 rfl) eq0 (by decide) 3 (by decide) (by decide) (by decide) (by decide) [(.int (0 : Int32)), (.int (0 : Int32)), (.int (0 : Int32))] rfl (hb hby at_5) 7 rfl (fun T102 h103 b104 X105 e106 g107 E108 A109 => ?_)
  have sz110 : h0.size ≤ b104 := Nat.le_trans (Nat.le_refl h0.size) (Nat.le_of_eq g107.symm)
  have szh111 : h0.size ≤ h103.size := Nat.le_trans (Nat.le_refl h0.size) E108.1
  have A112 : AV Z h103 b104 .int [(.int (0 : Int32)), (.int (0 : Int32)), (.int (0 : Int32))] := A109
  show Go p_ e_ below _ T102 (mkF m_ 7 #[.val (.int x0), .val (.int x1), .val (.int v101), .unset, .unset, .unset, .unset, .unset, .unset, .unset, .unset, .unset, .unset, .unset, .unset, .unset, .unset, .unset, .unset, .unset] [(.ref b104)])
  refine g_astoreN X105 hx #[.val (.int x0), .val (.int x1), .val (.int v101), .val (.ref b104), .unset, .unset, .unset, .unset, .unset, .unset, .unset, .unset, .unset, .unset, .unset, .unset, .unset, .unset, .unset, .unset] rfl rfl (hb hby at_7) 8 rfl ?_
  refine g_aloadN X105 hx rfl rfl (hb hby at_8) 9 rfl ?_
  refine g_iconst X105 hx (0 : Int32) rfl (hb hby at_9) 10 rfl ?_
  refine g_iloadN X105 hx rfl (hb hby at_10) 11 rfl ?_
  refine g_iconst X105 hx (2 : Int32) rfl (hb hby at_11) 12 rfl ?_
  refine g_iushr X105 hx (hb hby at_12) 13 rfl ?_
  refine g_iconst X105 hx (3 : Int32) rfl (hb hby at_13) 14 rfl ?_
  refine g_iand X105 hx (hb hby at_14) 15 rfl ?_
  refine g_iconst X105 hx (1 : Int32) rfl (hb hby at_15) 16 rfl ?_
  refine g_iadd X105 hx (hb hby at_16) 17 rfl ?_
  generalize hv113 : (((XT.ushr x0 (2 : Int32)) &&& (3 : Int32)) + (1 : Int32)) = v113
  refine g_iastore X105 hx hZ e106 A112 (by decide) (Nat.le_of_ble_eq_true rfl) (hb hby at_17) 18 rfl (fun T114 h115 X116 e117 W118 A119 => ?_)
  have A120 : AV Z h115 b104 .int [(.int v113), (.int (0 : Int32)), (.int (0 : Int32))] := A119
  have F121 := A120
  have N122 := Fr.snoc X116 N0 sz110
  have szh123 : h0.size ≤ h115.size := Nat.le_trans szh111 (Nat.le_of_eq W118.size.symm)
  show Go p_ e_ below _ T114 (mkF m_ 18 #[.val (.int x0), .val (.int x1), .val (.int v101), .val (.ref b104), .unset, .unset, .unset, .unset, .unset, .unset, .unset, .unset, .unset, .unset, .unset, .unset, .unset, .unset, .unset, .unset] [])
  refine g_aloadN X116 hx rfl rfl (hb hby at_18) 19 rfl ?_
  refine g_iconst X116 hx (1 : Int32) rfl (hb hby at_19) 20 rfl ?_
  refine g_iloadN X116 hx rfl (hb hby at_20) 21 rfl ?_
  refine g_iconst X116 hx (4 : Int32) rfl (hb hby at_21) 22 rfl ?_
  refine g_iushr X116 hx (hb hby at_22) 23 rfl ?_
  refine g_iconst X116 hx (3 : Int32) rfl (hb hby at_23) 24 rfl ?_
  refine g_iand X116 hx (hb hby at_24) 25 rfl ?_
  refine g_iconst X116 hx (1 : Int32) rfl (hb hby at_25) 26 rfl ?_
  refine g_iadd X116 hx (hb hby at_26) 27 rfl ?_
  generalize hv124 : (((XT.ushr x0 (4 : Int32)) &&& (3 : Int32)) + (1 : Int32)) = v124
  refine g_iastore X116 hx hZ e117 A120 (by decide) (Nat.le_of_ble_eq_true rfl) (hb hby at_27) 28 rfl (fun T125 h126 X127 e128 W129 A130 => ?_)
  have A131 : AV Z h126 b104 .int [(.int v113), (.int v124), (.int (0 : Int32))] := A130
  have F132 := A131
  have N133 := Fr.snoc X127 N122 sz110
  have szh134 : h0.size ≤ h126.size := Nat.le_trans szh123 (Nat.le_of_eq W129.size.symm)
  show Go p_ e_ below _ T125 (mkF m_ 28 #[.val (.int x0), .val (.int x1), .val (.int v101), .val (.ref b104), .unset, .unset, .unset, .unset, .unset, .unset, .unset, .unset, .unset, .unset, .unset, .unset, .unset, .unset, .unset, .unset] [])
  refine g_aloadN X127 hx rfl rfl (hb hby at_28) 29 rfl ?_
  refine g_iconst X127 hx (2 : Int32) rfl (hb hby at_29) 30 rfl ?_
  refine g_iloadN X127 hx rfl (hb hby at_30) 31 rfl ?_
  refine g_bipush X127 hx (6 : Int32) rfl (hb hby at_31) 33 rfl ?_
  refine g_iushr X127 hx (hb hby at_33) 34 rfl ?_
  refine g_iconst X127 hx (3 : Int32) rfl (hb hby at_34) 35 rfl ?_
  refine g_iand X127 hx (hb hby at_35) 36 rfl ?_
  refine g_iconst X127 hx (1 : Int32) rfl (hb hby at_36) 37 rfl ?_
  refine g_iadd X127 hx (hb hby at_37) 38 rfl ?_
  generalize hv135 : (((XT.ushr x0 (6 : Int32)) &&& (3 : Int32)) + (1 : Int32)) = v135
  refine g_iastore X127 hx hZ e128 A131 (by decide) (Nat.le_of_ble_eq_true rfl) (hb hby at_38) 39 rfl (fun T136 h137 X138 e139 W140 A141 => ?_)
  have A142 : AV Z h137 b104 .int [(.int v113), (.int v124), (.int v135)] := A141
  have F143 := A142
  have N144 := Fr.snoc X138 N133 sz110
  have szh145 : h0.size ≤ h137.size := Nat.le_trans szh134 (Nat.le_of_eq W140.size.symm)
  show Go p_ e_ below _ T136 (mkF m_ 39 #[.val (.int x0), .val (.int x1), .val (.int v101), .val (.ref b104), .unset, .unset, .unset, .unset, .unset, .unset, .unset, .unset, .unset, .unset, .unset, .unset, .unset, .unset, .unset, .unset] [])
  refine g_iconst X138 hx (3 : Int32) rfl (hb hby at_39) 40 rfl ?_
  refine g_newarray X138 hx hZ (aty := .int) (wd hw 0 rfl) e139 (by decide) 3 (by decide) (by decide) (by decide) (by decide) [(.int (0 : Int32)), (.int (0 : Int32)), (.int (0 : Int32))] rfl (hb hby at_40) 42 rfl (fun T146 h147 b148 X149 e150 g151 E152 A153 => ?_)
  have ne154 : b104 ≠ b148 := Nat.ne_of_lt (Nat.lt_of_lt_of_eq A142.lt g151.symm)
  have F155 := A142.ext E152
  have sz156 : h0.size ≤ b148 := Nat.le_trans szh145 (Nat.le_of_eq g151.symm)
  have szh157 : h0.size ≤ h147.size := Nat.le_trans szh145 E152.1
  have A158 : AV Z h147 b148 .int [(.int (0 : Int32)), (.int (0 : Int32)), (.int (0 : Int32))] := A153
  show Go p_ e_ below _ T146 (mkF m_ 42 #[.val (.int x0), .val (.int x1), .val (.int v101), .val (.ref b104), .unset, .unset, .unset, .unset, .unset, .unset, .unset, .unset, .unset, .unset, .unset, .unset, .unset, .unset, .unset, .unset] [(.ref b148)])
  refine g_astore X149 hx #[.val (.int x0), .val (.int x1), .val (.int v101), .val (.ref b104), .val (.ref b148), .unset, .unset, .unset, .unset, .unset, .unset, .unset, .unset, .unset, .unset, .unset, .unset, .unset, .unset, .unset] rfl rfl (hb hby at_42) 44 rfl ?_
  refine g_aload X149 hx rfl rfl (hb hby at_44) 46 rfl ?_
  refine g_iconst X149 hx (0 : Int32) rfl (hb hby at_46) 47 rfl ?_
  refine g_iloadN X149 hx rfl (hb hby at_47) 48 rfl ?_
  refine g_iconst X149 hx (3 : Int32) rfl (hb hby at_48) 49 rfl ?_
  refine g_iand X149 hx (hb hby at_49) 50 rfl ?_
  refine g_iconst X149 hx (1 : Int32) rfl (hb hby at_50) 51 rfl ?_
  refine g_iadd X149 hx (hb hby at_51) 52 rfl ?_
  generalize hv159 : ((x1 &&& (3 : Int32)) + (1 : Int32)) = v159
  refine g_iastore X149 hx hZ e150 A158 (by decide) (Nat.le_of_ble_eq_true rfl) (hb hby at_52) 53 rfl (fun T160 h161 X162 e163 W164 A165 => ?_)
  have A166 : AV Z h161 b148 .int [(.int v159), (.int (0 : Int32)), (.int (0 : Int32))] := A165
  have F167 := F155.other W164 ne154
  have F168 := A166
  have N169 := Fr.snoc X162 N144 sz156
  have szh170 : h0.size ≤ h161.size := Nat.le_trans szh157 (Nat.le_of_eq W164.size.symm)
  show Go p_ e_ below _ T160 (mkF m_ 53 #[.val (.int x0), .val (.int x1), .val (.int v101), .val (.ref b104), .val (.ref b148), .unset, .unset, .unset, .unset, .unset, .unset, .unset, .unset, .unset, .unset, .unset, .unset, .unset, .unset, .unset] [])
  refine g_aload X162 hx rfl rfl (hb hby at_53) 55 rfl ?_
  refine g_iconst X162 hx (1 : Int32) rfl (hb hby at_55) 56 rfl ?_
  refine g_iloadN X162 hx rfl (hb hby at_56) 57 rfl ?_
  refine g_iconst X162 hx (2 : Int32) rfl (hb hby at_57) 58 rfl ?_
  refine g_iushr X162 hx (hb hby at_58) 59 rfl ?_
  refine g_iconst X162 hx (3 : Int32) rfl (hb hby at_59) 60 rfl ?_
  refine g_iand X162 hx (hb hby at_60) 61 rfl ?_
  refine g_iconst X162 hx (1 : Int32) rfl (hb hby at_61) 62 rfl ?_
  refine g_iadd X162 hx (hb hby at_62) 63 rfl ?_
  generalize hv171 : (((XT.ushr x1 (2 : Int32)) &&& (3 : Int32)) + (1 : Int32)) = v171
  refine g_iastore X162 hx hZ e163 A166 (by decide) (Nat.le_of_ble_eq_true rfl) (hb hby at_63) 64 rfl (fun T172 h173 X174 e175 W176 A177 => ?_)
  have A178 : AV Z h173 b148 .int [(.int v159), (.int v171), (.int (0 : Int32))] := A177
  have F179 := F167.other W176 ne154
  have F180 := A178
  have N181 := Fr.snoc X174 N169 sz156
  have szh182 : h0.size ≤ h173.size := Nat.le_trans szh170 (Nat.le_of_eq W176.size.symm)
  show Go p_ e_ below _ T172 (mkF m_ 64 #[.val (.int x0), .val (.int x1), .val (.int v101), .val (.ref b104), .val (.ref b148), .unset, .unset, .unset, .unset, .unset, .unset, .unset, .unset, .unset, .unset, .unset, .unset, .unset, .unset, .unset] [])
  refine g_aload X174 hx rfl rfl (hb hby at_64) 66 rfl ?_
  refine g_iconst X174 hx (2 : Int32) rfl (hb hby at_66) 67 rfl ?_
  refine g_iloadN X174 hx rfl (hb hby at_67) 68 rfl ?_
  refine g_iconst X174 hx (4 : Int32) rfl (hb hby at_68) 69 rfl ?_
  refine g_iushr X174 hx (hb hby at_69) 70 rfl ?_
  refine g_iconst X174 hx (3 : Int32) rfl (hb hby at_70) 71 rfl ?_
  refine g_iand X174 hx (hb hby at_71) 72 rfl ?_
  refine g_iconst X174 hx (1 : Int32) rfl (hb hby at_72) 73 rfl ?_
  refine g_iadd X174 hx (hb hby at_73) 74 rfl ?_
  generalize hv183 : (((XT.ushr x1 (4 : Int32)) &&& (3 : Int32)) + (1 : Int32)) = v183
  refine g_iastore X174 hx hZ e175 A178 (by decide) (Nat.le_of_ble_eq_true rfl) (hb hby at_74) 75 rfl (fun T184 h185 X186 e187 W188 A189 => ?_)
  have A190 : AV Z h185 b148 .int [(.int v159), (.int v171), (.int v183)] := A189
  have F191 := F179.other W188 ne154
  have F192 := A190
  have N193 := Fr.snoc X186 N181 sz156
  have szh194 : h0.size ≤ h185.size := Nat.le_trans szh182 (Nat.le_of_eq W188.size.symm)
  show Go p_ e_ below _ T184 (mkF m_ 75 #[.val (.int x0), .val (.int x1), .val (.int v101), .val (.ref b104), .val (.ref b148), .unset, .unset, .unset, .unset, .unset, .unset, .unset, .unset, .unset, .unset, .unset, .unset, .unset, .unset, .unset] [])
  refine g_iloadN X186 hx rfl (hb hby at_75) 76 rfl ?_
  refine g_bipush X186 hx (6 : Int32) rfl (hb hby at_76) 78 rfl ?_
  refine g_iushr X186 hx (hb hby at_78) 79 rfl ?_
  refine g_iconst X186 hx (3 : Int32) rfl (hb hby at_79) 80 rfl ?_
  refine g_iand X186 hx (hb hby at_80) 81 rfl ?_
  generalize hv195 : ((XT.ushr x1 (6 : Int32)) &&& (3 : Int32)) = v195
  refine g_istore X186 hx #[.val (.int x0), .val (.int x1), .val (.int v101), .val (.ref b104), .val (.ref b148), .val (.int v195), .unset, .unset, .unset, .unset, .unset, .unset, .unset, .unset, .unset, .unset, .unset, .unset, .unset, .unset] rfl (hb hby at_81) 83 rfl ?_
  refine g_iconst X186 hx (3 : Int32) rfl (hb hby at_83) 84 rfl ?_
  refine g_newarray X186 hx hZ (aty := .int) (wd hw 0 rfl) e187 (by decide) 3 (by decide) (by decide) (by decide) (by decide) [(.int (0 : Int32)), (.int (0 : Int32)), (.int (0 : Int32))] rfl (hb hby at_84) 86 rfl (fun T196 h197 b198 X199 e200 g201 E202 A203 => ?_)
  have ne204 : b104 ≠ b198 := Nat.ne_of_lt (Nat.lt_of_lt_of_eq F191.lt g201.symm)
  have ne205 : b148 ≠ b198 := Nat.ne_of_lt (Nat.lt_of_lt_of_eq A190.lt g201.symm)
  have F206 := F191.ext E202
  have F207 := A190.ext E202
  have sz208 : h0.size ≤ b198 := Nat.le_trans szh194 (Nat.le_of_eq g201.symm)
  have szh209 : h0.size ≤ h197.size := Nat.le_trans szh194 E202.1
  have A210 : AV Z h197 b198 .int [(.int (0 : Int32)), (.int (0 : Int32)), (.int (0 : Int32))] := A203
  show Go p_ e_ below _ T196 (mkF m_ 86 #[.val (.int x0), .val (.int x1), .val (.int v101), .val (.ref b104), .val (.ref b148), .val (.int v195), .unset, .unset, .unset, .unset, .unset, .unset, .unset, .unset, .unset, .unset, .unset, .unset, .unset, .unset] [(.ref b198)])
  refine g_astore X199 hx #[.val (.int x0), .val (.int x1), .val (.int v101), .val (.ref b104), .val (.ref b148), .val (.int v195), .val (.ref b198), .unset, .unset, .unset, .unset, .unset, .unset, .unset, .unset, .unset, .unset, .unset, .unset, .unset] rfl rfl (hb hby at_86) 88 rfl ?_
  refine g_iconst X199 hx (3 : Int32) rfl (hb hby at_88) 89 rfl ?_
  refine g_newarray X199 hx hZ (aty := .int) (wd hw 0 rfl) e200 (by decide) 3 (by decide) (by decide) (by decide) (by decide) [(.int (0 : Int32)), (.int (0 : Int32)), (.int (0 : Int32))] rfl (hb hby at_89) 91 rfl (fun T211 h212 b213 X214 e215 g216 E217 A218 => ?_)
  have ne219 : b104 ≠ b213 := Nat.ne_of_lt (Nat.lt_of_lt_of_eq F206.lt g216.symm)
  have ne220 : b148 ≠ b213 := Nat.ne_of_lt (Nat.lt_of_lt_of_eq F207.lt g216.symm)
  have ne221 : b198 ≠ b213 := Nat.ne_of_lt (Nat.lt_of_lt_of_eq A210.lt g216.symm)
  have F222 := F206.ext E217
  have F223 := F207.ext E217
  have F224 := A210.ext E217
  have sz225 : h0.size ≤ b213 := Nat.le_trans szh209 (Nat.le_of_eq g216.symm)
  have szh226 : h0.size ≤ h212.size := Nat.le_trans szh209 E217.1
  have A227 : AV Z h212 b213 .int [(.int (0 : Int32)), (.int (0 : Int32)), (.int (0 : Int32))] := A218
  show Go p_ e_ below _ T211 (mkF m_ 91 #[.val (.int x0), .val (.int x1), .val (.int v101), .val (.ref b104), .val (.ref b148), .val (.int v195), .val (.ref b198), .unset, .unset, .unset, .unset, .unset, .unset, .unset, .unset, .unset, .unset, .unset, .unset, .unset] [(.ref b213)])
  refine g_astore X214 hx #[.val (.int x0), .val (.int x1), .val (.int v101), .val (.ref b104), .val (.ref b148), .val (.int v195), .val (.ref b198), .val (.ref b213), .unset, .unset, .unset, .unset, .unset, .unset, .unset, .unset, .unset, .unset, .unset, .unset] rfl rfl (hb hby at_91) 93 rfl ?_
  refine g_iconst X214 hx (3 : Int32) rfl (hb hby at_93) 94 rfl ?_
  refine g_newarray X214 hx hZ (aty := .int) (wd hw 0 rfl) e215 (by decide) 3 (by decide) (by decide) (by decide) (by decide) [(.int (0 : Int32)), (.int (0 : Int32)), (.int (0 : Int32))] rfl (hb hby at_94) 96 rfl (fun T228 h229 b230 X231 e232 g233 E234 A235 => ?_)
  have ne236 : b104 ≠ b230 := Nat.ne_of_lt (Nat.lt_of_lt_of_eq F222.lt g233.symm)
  have ne237 : b148 ≠ b230 := Nat.ne_of_lt (Nat.lt_of_lt_of_eq F223.lt g233.symm)
  have ne238 : b198 ≠ b230 := Nat.ne_of_lt (Nat.lt_of_lt_of_eq F224.lt g233.symm)
  have ne239 : b213 ≠ b230 := Nat.ne_of_lt (Nat.lt_of_lt_of_eq A227.lt g233.symm)
  have F240 := F222.ext E234
  have F241 := F223.ext E234
  have F242 := F224.ext E234
  have F243 := A227.ext E234
  have sz244 : h0.size ≤ b230 := Nat.le_trans szh226 (Nat.le_of_eq g233.symm)
  have szh245 : h0.size ≤ h229.size := Nat.le_trans szh226 E234.1
  have A246 : AV Z h229 b230 .int [(.int (0 : Int32)), (.int (0 : Int32)), (.int (0 : Int32))] := A235
  show Go p_ e_ below _ T228 (mkF m_ 96 #[.val (.int x0), .val (.int x1), .val (.int v101), .val (.ref b104), .val (.ref b148), .val (.int v195), .val (.ref b198), .val (.ref b213), .unset, .unset, .unset, .unset, .unset, .unset, .unset, .unset, .unset, .unset, .unset, .unset] [(.ref b230)])
  refine g_astore X231 hx #[.val (.int x0), .val (.int x1), .val (.int v101), .val (.ref b104), .val (.ref b148), .val (.int v195), .val (.ref b198), .val (.ref b213), .val (.ref b230), .unset, .unset, .unset, .unset, .unset, .unset, .unset, .unset, .unset, .unset, .unset] rfl rfl (hb hby at_96) 98 rfl ?_
  refine g_iconst X231 hx (3 : Int32) rfl (hb hby at_98) 99 rfl ?_
  refine g_newarray X231 hx hZ (aty := .int) (wd hw 0 rfl) e232 (by decide) 3 (by decide) (by decide) (by decide) (by decide) [(.int (0 : Int32)), (.int (0 : Int32)), (.int (0 : Int32))] rfl (hb hby at_99) 101 rfl (fun T247 h248 b249 X250 e251 g252 E253 A254 => ?_)
  have ne255 : b104 ≠ b249 := Nat.ne_of_lt (Nat.lt_of_lt_of_eq F240.lt g252.symm)
  have ne256 : b148 ≠ b249 := Nat.ne_of_lt (Nat.lt_of_lt_of_eq F241.lt g252.symm)
  have ne257 : b198 ≠ b249 := Nat.ne_of_lt (Nat.lt_of_lt_of_eq F242.lt g252.symm)
  have ne258 : b213 ≠ b249 := Nat.ne_of_lt (Nat.lt_of_lt_of_eq F243.lt g252.symm)
  have ne259 : b230 ≠ b249 := Nat.ne_of_lt (Nat.lt_of_lt_of_eq A246.lt g252.symm)
  have F260 := F240.ext E253
  have F261 := F241.ext E253
  have F262 := F242.ext E253
  have F263 := F243.ext E253
  have F264 := A246.ext E253
  have sz265 : h0.size ≤ b249 := Nat.le_trans szh245 (Nat.le_of_eq g252.symm)
  have szh266 : h0.size ≤ h248.size := Nat.le_trans szh245 E253.1
  have A267 : AV Z h248 b249 .int [(.int (0 : Int32)), (.int (0 : Int32)), (.int (0 : Int32))] := A254
  show Go p_ e_ below _ T247 (mkF m_ 101 #[.val (.int x0), .val (.int x1), .val (.int v101), .val (.ref b104), .val (.ref b148), .val (.int v195), .val (.ref b198), .val (.ref b213), .val (.ref b230), .unset, .unset, .unset, .unset, .unset, .unset, .unset, .unset, .unset, .unset, .unset] [(.ref b249)])
  refine g_astore X250 hx #[.val (.int x0), .val (.int x1), .val (.int v101), .val (.ref b104), .val (.ref b148), .val (.int v195), .val (.ref b198), .val (.ref b213), .val (.ref b230), .val (.ref b249), .unset, .unset, .unset, .unset, .unset, .unset, .unset, .unset, .unset, .unset] rfl rfl (hb hby at_101) 103 rfl ?_
  refine g_new X250 hx hZ hown (wd hw 1 rfl) (wd hw 2 rfl) (wd hw 3 rfl) e251 (hb hby at_103) (by decide) (by decide) 106 rfl (fun T268 h269 b270 X271 e272 g273 E274 A275 D276 => ?_)
  have ne277 : b104 ≠ b270 := Nat.ne_of_lt (Nat.lt_of_lt_of_eq F260.lt g273.symm)
  have ne278 : b148 ≠ b270 := Nat.ne_of_lt (Nat.lt_of_lt_of_eq F261.lt g273.symm)
  have ne279 : b198 ≠ b270 := Nat.ne_of_lt (Nat.lt_of_lt_of_eq F262.lt g273.symm)
  have ne280 : b213 ≠ b270 := Nat.ne_of_lt (Nat.lt_of_lt_of_eq F263.lt g273.symm)
  have ne281 : b230 ≠ b270 := Nat.ne_of_lt (Nat.lt_of_lt_of_eq F264.lt g273.symm)
  have ne282 : b249 ≠ b270 := Nat.ne_of_lt (Nat.lt_of_lt_of_eq A267.lt g273.symm)
  have F283 := F260.ext E274
  have F284 := F261.ext E274
  have F285 := F262.ext E274
  have F286 := F263.ext E274
  have F287 := F264.ext E274
  have F288 := A267.ext E274
  have sz289 : h0.size ≤ b270 := Nat.le_trans szh266 (Nat.le_of_eq g273.symm)
  have szh290 : h0.size ≤ h269.size := Nat.le_trans szh266 E274.1
  have F291 : Fld Z h269 b270 "com/example/redshank/redshank/engine/Choices" "taken" "[I" .null := D276 (Or.inl (wd hw 11 rfl)) (ty := (.array .int)) (by decide)
  have F292 : Fld Z h269 b270 "com/example/redshank/redshank/engine/Choices" "counts" "[I" .null := D276 (Or.inl (wd hw 13 rfl)) (ty := (.array .int)) (by decide)
  have F293 : Fld Z h269 b270 "com/example/redshank/redshank/engine/Choices" "met" "I" (.int (0 : Int32)) := D276 (Or.inl (wd hw 27 rfl)) (ty := .int) (by decide)
  have F294 : Fld Z h269 b270 "com/example/redshank/redshank/engine/Choices" "kept" "I" (.int (0 : Int32)) := D276 (Or.inl (wd hw 29 rfl)) (ty := .int) (by decide)
  show Go p_ e_ below _ T268 (mkF m_ 106 #[.val (.int x0), .val (.int x1), .val (.int v101), .val (.ref b104), .val (.ref b148), .val (.int v195), .val (.ref b198), .val (.ref b213), .val (.ref b230), .val (.ref b249), .unset, .unset, .unset, .unset, .unset, .unset, .unset, .unset, .unset, .unset] [(.ref b270)])
  refine g_dup X271 hx rfl (hb hby at_106) 107 rfl ?_
  refine g_init X271 hx hZ hown (wd hw 4 rfl) rfl (wd hw 5 rfl) (wd hw 3 rfl) (wd hw 6 rfl) (by decide) e272 [] [(.ref b270)] rfl (co1 l Z a0 hw b270 h269 h0.size szh290 sz289 A275 F291 F292 F294 F293) (lenOf pd_1 rfl) 1 (Nat.le_of_eq rfl) (by decide) (by decide) (by decide) (by decide) (by rw [hml]; rfl) (hb hby at_107) 110 rfl (fun r295 T296 L297 X298 Q299 => ?_)
  obtain ⟨h300, e301⟩ : ∃ h, T296.heap = h := ⟨_, rfl⟩
  rw [e301] at Q299
  obtain ⟨rfl, n302, K303, E304, tk305, ct306, g307, g308, ne309, F310, F311, F312, F313, A314, A315⟩ := Q299
  have N316 := Fr.app N193 n302
  have ne317 : b104 ≠ tk305 := Nat.ne_of_lt (Nat.lt_of_lt_of_le F283.lt g307)
  have ne318 : b104 ≠ ct306 := Nat.ne_of_lt (Nat.lt_of_lt_of_le F283.lt g308)
  have ne319 : b148 ≠ tk305 := Nat.ne_of_lt (Nat.lt_of_lt_of_le F284.lt g307)
  have ne320 : b148 ≠ ct306 := Nat.ne_of_lt (Nat.lt_of_lt_of_le F284.lt g308)
  have ne321 : b198 ≠ tk305 := Nat.ne_of_lt (Nat.lt_of_lt_of_le F285.lt g307)
  have ne322 : b198 ≠ ct306 := Nat.ne_of_lt (Nat.lt_of_lt_of_le F285.lt g308)
  have ne323 : b213 ≠ tk305 := Nat.ne_of_lt (Nat.lt_of_lt_of_le F286.lt g307)
  have ne324 : b213 ≠ ct306 := Nat.ne_of_lt (Nat.lt_of_lt_of_le F286.lt g308)
  have ne325 : b230 ≠ tk305 := Nat.ne_of_lt (Nat.lt_of_lt_of_le F287.lt g307)
  have ne326 : b230 ≠ ct306 := Nat.ne_of_lt (Nat.lt_of_lt_of_le F287.lt g308)
  have ne327 : b249 ≠ tk305 := Nat.ne_of_lt (Nat.lt_of_lt_of_le F288.lt g307)
  have ne328 : b249 ≠ ct306 := Nat.ne_of_lt (Nat.lt_of_lt_of_le F288.lt g308)
  have ne329 : b270 ≠ tk305 := Nat.ne_of_lt (Nat.lt_of_lt_of_le A275.lt g307)
  have ne330 : b270 ≠ ct306 := Nat.ne_of_lt (Nat.lt_of_lt_of_le A275.lt g308)
  have F331 := F283.keep K303 (ninS ne277 nin0)
  have F332 := F284.keep K303 (ninS ne278 nin0)
  have F333 := F285.keep K303 (ninS ne279 nin0)
  have F334 := F286.keep K303 (ninS ne280 nin0)
  have F335 := F287.keep K303 (ninS ne281 nin0)
  have F336 := F288.keep K303 (ninS ne282 nin0)
  have F337 := A275.keep K303
  have szh338 : h0.size ≤ h300.size := Nat.le_trans szh290 K303.1
  have sz339 : h0.size ≤ tk305 := Nat.le_trans szh290 g307
  have sz340 : h0.size ≤ ct306 := Nat.le_trans szh290 g308
  show Go p_ e_ below _ T296 (mkF m_ 110 #[.val (.int x0), .val (.int x1), .val (.int v101), .val (.ref b104), .val (.ref b148), .val (.int v195), .val (.ref b198), .val (.ref b213), .val (.ref b230), .val (.ref b249), .unset, .unset, .unset, .unset, .unset, .unset, .unset, .unset, .unset, .unset] [(.ref b270)])
  refine g_astore X298 hx #[.val (.int x0), .val (.int x1), .val (.int v101), .val (.ref b104), .val (.ref b148), .val (.int v195), .val (.ref b198), .val (.ref b213), .val (.ref b230), .val (.ref b249), .val (.ref b270), .unset, .unset, .unset, .unset, .unset, .unset, .unset, .unset, .unset] rfl rfl (hb hby at_110) 112 rfl ?_
  refine g_iconst X298 hx (1 : Int32) rfl (hb hby at_112) 113 rfl ?_
  refine g_istore X298 hx #[.val (.int x0), .val (.int x1), .val (.int v101), .val (.ref b104), .val (.ref b148), .val (.int v195), .val (.ref b198), .val (.ref b213), .val (.ref b230), .val (.ref b249), .val (.ref b270), .val (.int (1 : Int32)), .unset, .unset, .unset, .unset, .unset, .unset, .unset, .unset] rfl (hb hby at_113) 115 rfl ?_
  refine g_aload X298 hx rfl rfl (hb hby at_115) 117 rfl ?_
  refine g_iloadN X298 hx rfl (hb hby at_117) 118 rfl ?_
  refine g_aloadN X298 hx rfl rfl (hb hby at_118) 119 rfl ?_
  refine g_aload X298 hx rfl rfl (hb hby at_119) 121 rfl ?_
  refine g_callS X298 hx hZ hown (wd hw 14 rfl) (wd hw 15 rfl) (wd hw 16 rfl) (wd hw 17 rfl) (by decide) e301 [(.ref b270), (.int v101), (.ref b104), (.ref b198)] [] rfl (co3 l Z a0 hw b270 v101 b104 b198 tk305 ct306 (0 : Int32) (0 : Int32) (0 : Int32) (0 : Int32) (0 : Int32) (0 : Int32) (0 : Int32) (0 : Int32) (0 : Int32) v113 v124 v135 (0 : Int32) (0 : Int32) (0 : Int32) h300 h0.size szh338 sz289 sz339 sz340 E304 F310 F311 F312 F313 A314 A315 ne309 (Ne.symm ne329) (Ne.symm ne330) F331 F333 ne277 ne317 ne318 ne279 ne321 ne322 hn1 (fun _ => ite_self _) (fun _ => ite_self _) (fun _ => ite_self _) ) (lenOf pd_2 rfl) 0 (Nat.le_of_eq rfl) (by decide) (by decide) (by decide) (by decide) (by rw [hml]; rfl) (hb hby at_121) 124 rfl (fun r341 T342 L343 X344 Q345 => ?_)
  obtain ⟨h346, e347⟩ : ∃ h, T342.heap = h := ⟨_, rfl⟩
  rw [e347] at Q345
  obtain ⟨rfl, n348, K349, E350, F351, F352, F353, F354, A355, A356⟩ := Q345
  have N357 := Fr.app N316 n348
  have F358 := F331.keep K349 (ninS ne277 (ninS ne317 (ninS ne318 nin0)))
  have F359 := F332.keep K349 (ninS ne278 (ninS ne319 (ninS ne320 nin0)))
  have F360 := F333.keep K349 (ninS ne279 (ninS ne321 (ninS ne322 nin0)))
  have F361 := F334.keep K349 (ninS ne280 (ninS ne323 (ninS ne324 nin0)))
  have F362 := F335.keep K349 (ninS ne281 (ninS ne325 (ninS ne326 nin0)))
  have F363 := F336.keep K349 (ninS ne282 (ninS ne327 (ninS ne328 nin0)))
  have F364 := E304.keep K349
  have szh365 : h0.size ≤ h346.size := Nat.le_trans szh338 K349.1
  have A366 : AV Z h346 tk305 .int [(.int (0 : Int32)), (.int (0 : Int32)), (.int (0 : Int32)), (.int (0 : Int32))] := by have u := A355; simp only [own_tn0] at u; exact u
  show Go p_ e_ below _ T342 (mkF m_ 124 #[.val (.int x0), .val (.int x1), .val (.int v101), .val (.ref b104), .val (.ref b148), .val (.int v195), .val (.ref b198), .val (.ref b213), .val (.ref b230), .val (.ref b249), .val (.ref b270), .val (.int (1 : Int32)), .unset, .unset, .unset, .unset, .unset, .unset, .unset, .unset] [(.int (1 : Int32))])
  refine g_if_ne X344 hx (hb hby at_124) 130 127 (by decide) rfl rfl (fun q124 => ?_) (fun q124 => ?_)
  · refine g_aload X344 hx rfl rfl (hb hby at_130) 132 rfl ?_
    refine g_aloadN X344 hx rfl rfl (hb hby at_132) 133 rfl ?_
    refine g_iloadN X344 hx rfl (hb hby at_133) 134 rfl ?_
    refine g_callS X344 hx hZ hown (wd hw 18 rfl) (wd hw 19 rfl) (wd hw 16 rfl) (wd hw 20 rfl) (by decide) e347 [(.ref b198), (.ref b104), (.int v101)] []  rfl (co4 l Z a0 hw b198 b104 v101 (0 : Int32) (0 : Int32) (0 : Int32) v113 v124 v135 h346 F360 F358) (lenOf pd_3 rfl) 0 (Nat.le_of_eq rfl) (by decide) (by decide) (by decide) (by decide) (by rw [hml]; rfl) (hb hby at_134) 137 rfl (pu_cont fun T368 X367 e369 => ?_)
    show Go p_ e_ below _ T368 (mkF m_ 137 #[.val (.int x0), .val (.int x1), .val (.int v101), .val (.ref b104), .val (.ref b148), .val (.int v195), .val (.ref b198), .val (.ref b213), .val (.ref b230), .val (.ref b249), .val (.ref b270), .val (.int (1 : Int32)), .unset, .unset, .unset, .unset, .unset, .unset, .unset, .unset] [(.int (lo v101 (0 : Int32) (0 : Int32) (0 : Int32) v113 v124 v135))])
    generalize hv370 : (lo v101 (0 : Int32) (0 : Int32) (0 : Int32) v113 v124 v135) = v370
    refine g_istore X367 hx #[.val (.int x0), .val (.int x1), .val (.int v101), .val (.ref b104), .val (.ref b148), .val (.int v195), .val (.ref b198), .val (.ref b213), .val (.ref b230), .val (.ref b249), .val (.ref b270), .val (.int (1 : Int32)), .val (.int v370), .unset, .unset, .unset, .unset, .unset, .unset, .unset] rfl (hb hby at_137) 139 rfl ?_
    have hL1 := own_rng _ _ _ _ _ _ _ _ hv370
    refine g_aload X367 hx rfl rfl (hb hby at_139) 141 rfl ?_
    refine g_callV X367 hx hZ hown (wd hw 21 rfl) (C := "com/example/redshank/redshank/engine/Choices") (wd hw 22 rfl) (wd hw 24 rfl) (wd hw 23 rfl) (wd hw 3 rfl) (wd hw 25 rfl) (by decide) e369 [] [] E350 rfl (co5 l Z a0 hw b270 v101 tk305 ct306 (0 : Int32) (0 : Int32) (0 : Int32) (0 : Int32) (0 : Int32) (cn (0 : Int32) v101 (0 : Int32) (0 : Int32) v113) (cn (1 : Int32) v101 (0 : Int32) (0 : Int32) v124) (cn (2 : Int32) v101 (0 : Int32) (0 : Int32) v135) (0 : Int32) h346 h0.size szh365 sz289 sz339 E350 F351 F352 F353 F354 A366 A356 ne309 (Ne.symm ne329) (Ne.symm ne330) hn1) (lenOf pd_4 rfl) 0 (Nat.le_of_eq rfl) (by decide) (by decide) (by decide) (by decide) (by rw [hml]; rfl) (hb hby at_141) 144 rfl (fun r371 T372 L373 X374 Q375 => ?_)
    have hlo376 : lo v101 (0 : Int32) (0 : Int32) (0 : Int32) (cn (0 : Int32) v101 (0 : Int32) (0 : Int32) v113) (cn (1 : Int32) v101 (0 : Int32) (0 : Int32) v124) (cn (2 : Int32) v101 (0 : Int32) (0 : Int32) v135) = v370 := (own_congr _ _ _ _ _ _ _ _ _ _ _ _ _ (fun q => ⟨rfl, own_cn _ _ _ q (by decide)⟩) (fun q => ⟨rfl, own_cn _ _ _ q (by decide)⟩) (fun q => ⟨rfl, own_cn _ _ _ q (by decide)⟩)).trans hv370
    unfold Q5 at Q375
    rw [hlo376] at Q375
    obtain ⟨h377, e378⟩ : ∃ h, T372.heap = h := ⟨_, rfl⟩
    rw [e378] at Q375
    obtain ⟨rfl, n379, K380, E381, F382, F383, F384, F385, A386, A387⟩ := Q375
    have N388 := Fr.app N357 n379
    have F389 := F358.keep K380 (ninS ne277 (ninS ne317 nin0))
    have F390 := F359.keep K380 (ninS ne278 (ninS ne319 nin0))
    have F391 := F360.keep K380 (ninS ne279 (ninS ne321 nin0))
    have F392 := F361.keep K380 (ninS ne280 (ninS ne323 nin0))
    have F393 := F362.keep K380 (ninS ne281 (ninS ne325 nin0))
    have F394 := F363.keep K380 (ninS ne282 (ninS ne327 nin0))
    have F395 := E350.keep K380
    have F396 := A356.keep K380 (ninS (Ne.symm ne330) (ninS (Ne.symm ne309) nin0))
    have szh397 : h0.size ≤ h377.size := Nat.le_trans szh365 K380.1
    show Go p_ e_ below _ T372 (mkF m_ 144 #[.val (.int x0), .val (.int x1), .val (.int v101), .val (.ref b104), .val (.ref b148), .val (.int v195), .val (.ref b198), .val (.ref b213), .val (.ref b230), .val (.ref b249), .val (.ref b270), .val (.int (1 : Int32)), .val (.int v370), .unset, .unset, .unset, .unset, .unset, .unset, .unset] [(.int (if v370 < (0 : Int32) then (0 : Int32) else (1 : Int32)))])
    generalize hv398 : (if v370 < (0 : Int32) then (0 : Int32) else (1 : Int32)) = v398
    refine g_istore X374 hx #[.val (.int x0), .val (.int x1), .val (.int v101), .val (.ref b104), .val (.ref b148), .val (.int v195), .val (.ref b198), .val (.ref b213), .val (.ref b230), .val (.ref b249), .val (.ref b270), .val (.int (1 : Int32)), .val (.int v370), .val (.int v398), .unset, .unset, .unset, .unset, .unset, .unset] rfl (hb hby at_144) 146 rfl ?_
    refine g_iload X374 hx rfl (hb hby at_146) 148 rfl ?_
    refine g_iload X374 hx rfl (hb hby at_148) 150 rfl ?_
    refine Go.joinT (α := Int32) X374 e378 (fun z => mkF m_ 158 #[.val (.int x0), .val (.int x1), .val (.int v101), .val (.ref b104), .val (.ref b148), .val (.int v195), .val (.ref b198), .val (.ref b213), .val (.ref b230), .val (.ref b249), .val (.ref b270), .val (.int (1 : Int32)), .val (.int v370), .val (.int v398), .unset, .unset, .unset, .unset, .unset, .unset] [(.int z), (.int v398)]) (fun z => z = (if v370 < (0 : Int32) then (0 : Int32) else (1 : Int32))) ?_ (fun J400 => ?_)
    · rintro T401 X402 e403 z399 hz399
      show Go p_ e_ below _ T401 (mkF m_ 158 #[.val (.int x0), .val (.int x1), .val (.int v101), .val (.ref b104), .val (.ref b148), .val (.int v195), .val (.ref b198), .val (.ref b213), .val (.ref b230), .val (.ref b249), .val (.ref b270), .val (.int (1 : Int32)), .val (.int v370), .val (.int v398), .unset, .unset, .unset, .unset, .unset, .unset] [(.int z399), (.int v398)])
      refine g_icmp_eq X402 hx (hb hby at_158) 164 161 (by decide) rfl rfl (fun q158 => ?_) (fun q158 => ?_)
      · refine g_iload X402 hx rfl (hb hby at_164) 166 rfl ?_
        refine g_iconst X402 hx (1 : Int32) rfl (hb hby at_166) 167 rfl ?_
        refine g_iadd X402 hx (hb hby at_167) 168 rfl ?_
        refine g_istore X402 hx #[.val (.int x0), .val (.int x1), .val (.int v101), .val (.ref b104), .val (.ref b148), .val (.int v195), .val (.ref b198), .val (.ref b213), .val (.ref b230), .val (.ref b249), .val (.ref b270), .val (.int (1 : Int32)), .val (.int v370), .val (.int v398), .val (.int (v370 + (1 : Int32))), .unset, .unset, .unset, .unset, .unset] rfl (hb hby at_168) 170 rfl ?_
        refine g_iconst X402 hx (3 : Int32) rfl (hb hby at_170) 171 rfl ?_
        refine g_iload X402 hx rfl (hb hby at_171) 173 rfl ?_
        refine g_iload X402 hx rfl (hb hby at_173) 175 rfl ?_
        refine g_iadd X402 hx (hb hby at_175) 176 rfl ?_
        refine g_callS X402 hx hZ hown (wd hw 30 rfl) (wd hw 31 rfl) (wd hw 32 rfl) (wd hw 33 rfl) (by decide) e403 [(.int (3 : Int32)), (.int ((v370 + (1 : Int32)) + v195))] []  rfl (co6 l Z a0 hw (3 : Int32) ((v370 + (1 : Int32)) + v195)  h377 ) (lenOf pd_5 rfl) 0 (Nat.le_of_eq rfl) (by decide) (by decide) (by decide) (by decide) (by rw [hml]; rfl) (hb hby at_176) 179 rfl (pu_cont fun T407 X406 e408 => ?_)
        show Go p_ e_ below _ T407 (mkF m_ 179 #[.val (.int x0), .val (.int x1), .val (.int v101), .val (.ref b104), .val (.ref b148), .val (.int v195), .val (.ref b198), .val (.ref b213), .val (.ref b230), .val (.ref b249), .val (.ref b270), .val (.int (1 : Int32)), .val (.int v370), .val (.int v398), .val (.int (v370 + (1 : Int32))), .unset, .unset, .unset, .unset, .unset] [(.int (mn (3 : Int32) ((v370 + (1 : Int32)) + v195)))])
        generalize hv409 : (mn (3 : Int32) ((v370 + (1 : Int32)) + v195)) = v409
        refine g_istore X406 hx #[.val (.int x0), .val (.int x1), .val (.int v101), .val (.ref b104), .val (.ref b148), .val (.int v195), .val (.ref b198), .val (.ref b213), .val (.ref b230), .val (.ref b249), .val (.ref b270), .val (.int (1 : Int32)), .val (.int v370), .val (.int v398), .val (.int (v370 + (1 : Int32))), .val (.int v409), .unset, .unset, .unset, .unset] rfl (hb hby at_179) 181 rfl ?_
        have hn2 := own_n2 _ _ (own_L hL1) (own_b4 _ _ hv195) _ hv409
        refine g_aload X406 hx rfl rfl (hb hby at_181) 183 rfl ?_
        refine g_iconst X406 hx (0 : Int32) rfl (hb hby at_183) 184 rfl ?_
        refine g_iconst X406 hx (0 : Int32) rfl (hb hby at_184) 185 rfl ?_
        refine g_iload X406 hx rfl (hb hby at_185) 187 rfl ?_
        refine Go.joinT (α := Int32) X406 e408 (fun z => mkF m_ 200 #[.val (.int x0), .val (.int x1), .val (.int v101), .val (.ref b104), .val (.ref b148), .val (.int v195), .val (.ref b198), .val (.ref b213), .val (.ref b230), .val (.ref b249), .val (.ref b270), .val (.int (1 : Int32)), .val (.int v370), .val (.int v398), .val (.int (v370 + (1 : Int32))), .val (.int v409), .unset, .unset, .unset, .unset] [(.int z), (.int (0 : Int32)), (.ref b213)]) (fun z => z = (if (0 : Int32) < (v370 + (1 : Int32)) then v113 else v159)) ?_ (fun J411 => ?_)
        · rintro T412 X413 e414 z410 hz410
          show Go p_ e_ below _ T412 (mkF m_ 200 #[.val (.int x0), .val (.int x1), .val (.int v101), .val (.ref b104), .val (.ref b148), .val (.int v195), .val (.ref b198), .val (.ref b213), .val (.ref b230), .val (.ref b249), .val (.ref b270), .val (.int (1 : Int32)), .val (.int v370), .val (.int v398), .val (.int (v370 + (1 : Int32))), .val (.int v409), .unset, .unset, .unset, .unset] [(.int z410), (.int (0 : Int32)), (.ref b213)])
          refine g_iastore X413 hx hZ e414 F392 (by decide) (Nat.le_of_ble_eq_true rfl) (hb hby at_200) 201 rfl (fun T417 h418 X419 e420 W421 A422 => ?_)
          have A423 : AV Z h418 b213 .int [(.int z410), (.int (0 : Int32)), (.int (0 : Int32))] := A422
          have F424 := F389.other W421 ne219
          have F425 := F390.other W421 ne220
          have F426 := F391.other W421 ne221
          have F427 := A423
          have F428 := F393.other W421 (Ne.symm ne239)
          have F429 := F394.other W421 (Ne.symm ne258)
          have F430 := E381.wr W421
          have F431 := A387.other W421 (Ne.symm ne324)
          have F432 := F382.other W421 (Or.inl (Ne.symm ne280))
          have F433 := F383.other W421 (Or.inl (Ne.symm ne280))
          have F434 := F384.other W421 (Or.inl (Ne.symm ne280))
          have F435 := F385.other W421 (Or.inl (Ne.symm ne280))
          have F436 := A386.other W421 (Ne.symm ne323)
          have N437 := Fr.snoc X419 N388 sz225
          have szh438 : h0.size ≤ h418.size := Nat.le_trans szh397 (Nat.le_of_eq W421.size.symm)
          show Go p_ e_ below _ T417 (mkF m_ 201 #[.val (.int x0), .val (.int x1), .val (.int v101), .val (.ref b104), .val (.ref b148), .val (.int v195), .val (.ref b198), .val (.ref b213), .val (.ref b230), .val (.ref b249), .val (.ref b270), .val (.int (1 : Int32)), .val (.int v370), .val (.int v398), .val (.int (v370 + (1 : Int32))), .val (.int v409), .unset, .unset, .unset, .unset] [])
          refine g_aload X419 hx rfl rfl (hb hby at_201) 203 rfl ?_
          refine g_iconst X419 hx (1 : Int32) rfl (hb hby at_203) 204 rfl ?_
          refine g_iconst X419 hx (1 : Int32) rfl (hb hby at_204) 205 rfl ?_
          refine g_iload X419 hx rfl (hb hby at_205) 207 rfl ?_
          refine Go.joinT (α := Int32) X419 e420 (fun z => mkF m_ 220 #[.val (.int x0), .val (.int x1), .val (.int v101), .val (.ref b104), .val (.ref b148), .val (.int v195), .val (.ref b198), .val (.ref b213), .val (.ref b230), .val (.ref b249), .val (.ref b270), .val (.int (1 : Int32)), .val (.int v370), .val (.int v398), .val (.int (v370 + (1 : Int32))), .val (.int v409), .unset, .unset, .unset, .unset] [(.int z), (.int (1 : Int32)), (.ref b213)]) (fun z => z = (if (1 : Int32) < (v370 + (1 : Int32)) then v124 else v171)) ?_ (fun J440 => ?_)
          · rintro T441 X442 e443 z439 hz439
            show Go p_ e_ below _ T441 (mkF m_ 220 #[.val (.int x0), .val (.int x1), .val (.int v101), .val (.ref b104), .val (.ref b148), .val (.int v195), .val (.ref b198), .val (.ref b213), .val (.ref b230), .val (.ref b249), .val (.ref b270), .val (.int (1 : Int32)), .val (.int v370), .val (.int v398), .val (.int (v370 + (1 : Int32))), .val (.int v409), .unset, .unset, .unset, .unset] [(.int z439), (.int (1 : Int32)), (.ref b213)])
            refine g_iastore X442 hx hZ e443 A423 (by decide) (Nat.le_of_ble_eq_true rfl) (hb hby at_220) 221 rfl (fun T446 h447 X448 e449 W450 A451 => ?_)
            have A452 : AV Z h447 b213 .int [(.int z410), (.int z439), (.int (0 : Int32))] := A451
            have F453 := F424.other W450 ne219
            have F454 := F425.other W450 ne220
            have F455 := F426.other W450 ne221
            have F456 := A452
            have F457 := F428.other W450 (Ne.symm ne239)
            have F458 := F429.other W450 (Ne.symm ne258)
            have F459 := F430.wr W450
            have F460 := F431.other W450 (Ne.symm ne324)
            have F461 := F432.other W450 (Or.inl (Ne.symm ne280))
            have F462 := F433.other W450 (Or.inl (Ne.symm ne280))
            have F463 := F434.other W450 (Or.inl (Ne.symm ne280))
            have F464 := F435.other W450 (Or.inl (Ne.symm ne280))
            have F465 := F436.other W450 (Ne.symm ne323)
            have N466 := Fr.snoc X448 N437 sz225
            have szh467 : h0.size ≤ h447.size := Nat.le_trans szh438 (Nat.le_of_eq W450.size.symm)
            show Go p_ e_ below _ T446 (mkF m_ 221 #[.val (.int x0), .val (.int x1), .val (.int v101), .val (.ref b104), .val (.ref b148), .val (.int v195), .val (.ref b198), .val (.ref b213), .val (.ref b230), .val (.ref b249), .val (.ref b270), .val (.int (1 : Int32)), .val (.int v370), .val (.int v398), .val (.int (v370 + (1 : Int32))), .val (.int v409), .unset, .unset, .unset, .unset] [])
            refine g_aload X448 hx rfl rfl (hb hby at_221) 223 rfl ?_
            refine g_iconst X448 hx (2 : Int32) rfl (hb hby at_223) 224 rfl ?_
            refine g_iconst X448 hx (2 : Int32) rfl (hb hby at_224) 225 rfl ?_
            refine g_iload X448 hx rfl (hb hby at_225) 227 rfl ?_
            refine Go.joinT (α := Int32) X448 e449 (fun z => mkF m_ 240 #[.val (.int x0), .val (.int x1), .val (.int v101), .val (.ref b104), .val (.ref b148), .val (.int v195), .val (.ref b198), .val (.ref b213), .val (.ref b230), .val (.ref b249), .val (.ref b270), .val (.int (1 : Int32)), .val (.int v370), .val (.int v398), .val (.int (v370 + (1 : Int32))), .val (.int v409), .unset, .unset, .unset, .unset] [(.int z), (.int (2 : Int32)), (.ref b213)]) (fun z => z = (if (2 : Int32) < (v370 + (1 : Int32)) then v135 else v183)) ?_ (fun J469 => ?_)
            · rintro T470 X471 e472 z468 hz468
              show Go p_ e_ below _ T470 (mkF m_ 240 #[.val (.int x0), .val (.int x1), .val (.int v101), .val (.ref b104), .val (.ref b148), .val (.int v195), .val (.ref b198), .val (.ref b213), .val (.ref b230), .val (.ref b249), .val (.ref b270), .val (.int (1 : Int32)), .val (.int v370), .val (.int v398), .val (.int (v370 + (1 : Int32))), .val (.int v409), .unset, .unset, .unset, .unset] [(.int z468), (.int (2 : Int32)), (.ref b213)])
              refine g_iastore X471 hx hZ e472 A452 (by decide) (Nat.le_of_ble_eq_true rfl) (hb hby at_240) 241 rfl (fun T475 h476 X477 e478 W479 A480 => ?_)
              have A481 : AV Z h476 b213 .int [(.int z410), (.int z439), (.int z468)] := A480
              have F482 := F453.other W479 ne219
              have F483 := F454.other W479 ne220
              have F484 := F455.other W479 ne221
              have F485 := A481
              have F486 := F457.other W479 (Ne.symm ne239)
              have F487 := F458.other W479 (Ne.symm ne258)
              have F488 := F459.wr W479
              have F489 := F460.other W479 (Ne.symm ne324)
              have F490 := F461.other W479 (Or.inl (Ne.symm ne280))
              have F491 := F462.other W479 (Or.inl (Ne.symm ne280))
              have F492 := F463.other W479 (Or.inl (Ne.symm ne280))
              have F493 := F464.other W479 (Or.inl (Ne.symm ne280))
              have F494 := F465.other W479 (Ne.symm ne323)
              have N495 := Fr.snoc X477 N466 sz225
              have szh496 : h0.size ≤ h476.size := Nat.le_trans szh467 (Nat.le_of_eq W479.size.symm)
              show Go p_ e_ below _ T475 (mkF m_ 241 #[.val (.int x0), .val (.int x1), .val (.int v101), .val (.ref b104), .val (.ref b148), .val (.int v195), .val (.ref b198), .val (.ref b213), .val (.ref b230), .val (.ref b249), .val (.ref b270), .val (.int (1 : Int32)), .val (.int v370), .val (.int v398), .val (.int (v370 + (1 : Int32))), .val (.int v409), .unset, .unset, .unset, .unset] [])
              refine g_aload X477 hx rfl rfl (hb hby at_241) 243 rfl ?_
              refine g_iconst X477 hx (0 : Int32) rfl (hb hby at_243) 244 rfl ?_
              refine g_iload X477 hx rfl (hb hby at_244) 246 rfl ?_
              refine Go.joinT (α := Int32) X477 e478 (fun z => mkF m_ 254 #[.val (.int x0), .val (.int x1), .val (.int v101), .val (.ref b104), .val (.ref b148), .val (.int v195), .val (.ref b198), .val (.ref b213), .val (.ref b230), .val (.ref b249), .val (.ref b270), .val (.int (1 : Int32)), .val (.int v370), .val (.int v398), .val (.int (v370 + (1 : Int32))), .val (.int v409), .unset, .unset, .unset, .unset] [(.int z), (.int (0 : Int32)), (.ref b230)]) (fun z => z = (if v370 = (0 : Int32) then (1 : Int32) else (0 : Int32))) ?_ (fun J498 => ?_)
              · rintro T499 X500 e501 z497 hz497
                show Go p_ e_ below _ T499 (mkF m_ 254 #[.val (.int x0), .val (.int x1), .val (.int v101), .val (.ref b104), .val (.ref b148), .val (.int v195), .val (.ref b198), .val (.ref b213), .val (.ref b230), .val (.ref b249), .val (.ref b270), .val (.int (1 : Int32)), .val (.int v370), .val (.int v398), .val (.int (v370 + (1 : Int32))), .val (.int v409), .unset, .unset, .unset, .unset] [(.int z497), (.int (0 : Int32)), (.ref b230)])
                refine g_iastore X500 hx hZ e501 F486 (by decide) (Nat.le_of_ble_eq_true rfl) (hb hby at_254) 255 rfl (fun T504 h505 X506 e507 W508 A509 => ?_)
                have A510 : AV Z h505 b230 .int [(.int z497), (.int (0 : Int32)), (.int (0 : Int32))] := A509
                have F511 := F482.other W508 ne236
                have F512 := F483.other W508 ne237
                have F513 := F484.other W508 ne238
                have F514 := A481.other W508 ne239
                have F515 := A510
                have F516 := F487.other W508 (Ne.symm ne259)
                have F517 := F488.wr W508
                have F518 := F489.other W508 (Ne.symm ne326)
                have F519 := F490.other W508 (Or.inl (Ne.symm ne281))
                have F520 := F491.other W508 (Or.inl (Ne.symm ne281))
                have F521 := F492.other W508 (Or.inl (Ne.symm ne281))
                have F522 := F493.other W508 (Or.inl (Ne.symm ne281))
                have F523 := F494.other W508 (Ne.symm ne325)
                have N524 := Fr.snoc X506 N495 sz244
                have szh525 : h0.size ≤ h505.size := Nat.le_trans szh496 (Nat.le_of_eq W508.size.symm)
                show Go p_ e_ below _ T504 (mkF m_ 255 #[.val (.int x0), .val (.int x1), .val (.int v101), .val (.ref b104), .val (.ref b148), .val (.int v195), .val (.ref b198), .val (.ref b213), .val (.ref b230), .val (.ref b249), .val (.ref b270), .val (.int (1 : Int32)), .val (.int v370), .val (.int v398), .val (.int (v370 + (1 : Int32))), .val (.int v409), .unset, .unset, .unset, .unset] [])
                refine g_aload X506 hx rfl rfl (hb hby at_255) 257 rfl ?_
                refine g_iconst X506 hx (1 : Int32) rfl (hb hby at_257) 258 rfl ?_
                refine g_iload X506 hx rfl (hb hby at_258) 260 rfl ?_
                refine g_iconst X506 hx (1 : Int32) rfl (hb hby at_260) 261 rfl ?_
                refine Go.joinT (α := Int32) X506 e507 (fun z => mkF m_ 269 #[.val (.int x0), .val (.int x1), .val (.int v101), .val (.ref b104), .val (.ref b148), .val (.int v195), .val (.ref b198), .val (.ref b213), .val (.ref b230), .val (.ref b249), .val (.ref b270), .val (.int (1 : Int32)), .val (.int v370), .val (.int v398), .val (.int (v370 + (1 : Int32))), .val (.int v409), .unset, .unset, .unset, .unset] [(.int z), (.int (1 : Int32)), (.ref b230)]) (fun z => z = (if v370 = (1 : Int32) then (1 : Int32) else (0 : Int32))) ?_ (fun J527 => ?_)
                · rintro T528 X529 e530 z526 hz526
                  show Go p_ e_ below _ T528 (mkF m_ 269 #[.val (.int x0), .val (.int x1), .val (.int v101), .val (.ref b104), .val (.ref b148), .val (.int v195), .val (.ref b198), .val (.ref b213), .val (.ref b230), .val (.ref b249), .val (.ref b270), .val (.int (1 : Int32)), .val (.int v370), .val (.int v398), .val (.int (v370 + (1 : Int32))), .val (.int v409), .unset, .unset, .unset, .unset] [(.int z526), (.int (1 : Int32)), (.ref b230)])
                  refine g_iastore X529 hx hZ e530 A510 (by decide) (Nat.le_of_ble_eq_true rfl) (hb hby at_269) 270 rfl (fun T533 h534 X535 e536 W537 A538 => ?_)
                  have A539 : AV Z h534 b230 .int [(.int z497), (.int z526), (.int (0 : Int32))] := A538
                  have F540 := F511.other W537 ne236
                  have F541 := F512.other W537 ne237
                  have F542 := F513.other W537 ne238
                  have F543 := F514.other W537 ne239
                  have F544 := A539
                  have F545 := F516.other W537 (Ne.symm ne259)
                  have F546 := F517.wr W537
                  have F547 := F518.other W537 (Ne.symm ne326)
                  have F548 := F519.other W537 (Or.inl (Ne.symm ne281))
                  have F549 := F520.other W537 (Or.inl (Ne.symm ne281))
                  have F550 := F521.other W537 (Or.inl (Ne.symm ne281))
                  have F551 := F522.other W537 (Or.inl (Ne.symm ne281))
                  have F552 := F523.other W537 (Ne.symm ne325)
                  have N553 := Fr.snoc X535 N524 sz244
                  have szh554 : h0.size ≤ h534.size := Nat.le_trans szh525 (Nat.le_of_eq W537.size.symm)
                  show Go p_ e_ below _ T533 (mkF m_ 270 #[.val (.int x0), .val (.int x1), .val (.int v101), .val (.ref b104), .val (.ref b148), .val (.int v195), .val (.ref b198), .val (.ref b213), .val (.ref b230), .val (.ref b249), .val (.ref b270), .val (.int (1 : Int32)), .val (.int v370), .val (.int v398), .val (.int (v370 + (1 : Int32))), .val (.int v409), .unset, .unset, .unset, .unset] [])
                  refine g_aload X535 hx rfl rfl (hb hby at_270) 272 rfl ?_
                  refine g_iconst X535 hx (2 : Int32) rfl (hb hby at_272) 273 rfl ?_
                  refine g_iload X535 hx rfl (hb hby at_273) 275 rfl ?_
                  refine g_iconst X535 hx (2 : Int32) rfl (hb hby at_275) 276 rfl ?_
                  refine Go.joinT (α := Int32) X535 e536 (fun z => mkF m_ 284 #[.val (.int x0), .val (.int x1), .val (.int v101), .val (.ref b104), .val (.ref b148), .val (.int v195), .val (.ref b198), .val (.ref b213), .val (.ref b230), .val (.ref b249), .val (.ref b270), .val (.int (1 : Int32)), .val (.int v370), .val (.int v398), .val (.int (v370 + (1 : Int32))), .val (.int v409), .unset, .unset, .unset, .unset] [(.int z), (.int (2 : Int32)), (.ref b230)]) (fun z => z = (if v370 = (2 : Int32) then (1 : Int32) else (0 : Int32))) ?_ (fun J556 => ?_)
                  · rintro T557 X558 e559 z555 hz555
                    show Go p_ e_ below _ T557 (mkF m_ 284 #[.val (.int x0), .val (.int x1), .val (.int v101), .val (.ref b104), .val (.ref b148), .val (.int v195), .val (.ref b198), .val (.ref b213), .val (.ref b230), .val (.ref b249), .val (.ref b270), .val (.int (1 : Int32)), .val (.int v370), .val (.int v398), .val (.int (v370 + (1 : Int32))), .val (.int v409), .unset, .unset, .unset, .unset] [(.int z555), (.int (2 : Int32)), (.ref b230)])
                    refine g_iastore X558 hx hZ e559 A539 (by decide) (Nat.le_of_ble_eq_true rfl) (hb hby at_284) 285 rfl (fun T562 h563 X564 e565 W566 A567 => ?_)
                    have A568 : AV Z h563 b230 .int [(.int z497), (.int z526), (.int z555)] := A567
                    have F569 := F540.other W566 ne236
                    have F570 := F541.other W566 ne237
                    have F571 := F542.other W566 ne238
                    have F572 := F543.other W566 ne239
                    have F573 := A568
                    have F574 := F545.other W566 (Ne.symm ne259)
                    have F575 := F546.wr W566
                    have F576 := F547.other W566 (Ne.symm ne326)
                    have F577 := F548.other W566 (Or.inl (Ne.symm ne281))
                    have F578 := F549.other W566 (Or.inl (Ne.symm ne281))
                    have F579 := F550.other W566 (Or.inl (Ne.symm ne281))
                    have F580 := F551.other W566 (Or.inl (Ne.symm ne281))
                    have F581 := F552.other W566 (Ne.symm ne325)
                    have N582 := Fr.snoc X564 N553 sz244
                    have szh583 : h0.size ≤ h563.size := Nat.le_trans szh554 (Nat.le_of_eq W566.size.symm)
                    show Go p_ e_ below _ T562 (mkF m_ 285 #[.val (.int x0), .val (.int x1), .val (.int v101), .val (.ref b104), .val (.ref b148), .val (.int v195), .val (.ref b198), .val (.ref b213), .val (.ref b230), .val (.ref b249), .val (.ref b270), .val (.int (1 : Int32)), .val (.int v370), .val (.int v398), .val (.int (v370 + (1 : Int32))), .val (.int v409), .unset, .unset, .unset, .unset] [])
                    refine g_aload X564 hx rfl rfl (hb hby at_285) 287 rfl ?_
                    refine g_iload X564 hx rfl (hb hby at_287) 289 rfl ?_
                    refine g_aload X564 hx rfl rfl (hb hby at_289) 291 rfl ?_
                    refine g_aload X564 hx rfl rfl (hb hby at_291) 293 rfl ?_
                    refine g_callS X564 hx hZ hown (wd hw 14 rfl) (wd hw 15 rfl) (wd hw 16 rfl) (wd hw 17 rfl) (by decide) e565 [(.ref b270), (.int v409), (.ref b213), (.ref b230)] [] rfl (co3 l Z a0 hw b270 v409 b213 b230 tk305 ct306 (v370 + (1 : Int32)) (tx v370 (0 : Int32) (0 : Int32)) (tx v370 (1 : Int32) (0 : Int32)) (tx v370 (2 : Int32) (0 : Int32)) (0 : Int32) (cn (0 : Int32) v101 (0 : Int32) (0 : Int32) v113) (cn (1 : Int32) v101 (0 : Int32) (0 : Int32) v124) (cn (2 : Int32) v101 (0 : Int32) (0 : Int32) v135) (0 : Int32) z410 z439 z468 z497 z526 z555 h563 h0.size szh583 sz289 sz339 sz340 F575 F577 F578 F579 F580 F581 F576 ne309 (Ne.symm ne329) (Ne.symm ne330) F572 A568 ne280 ne323 ne324 ne281 ne325 ne326 hn2 (fun _ => (own_he0 _ (own_L hL1)).trans hz497.symm) (fun _ => (own_he1 _ (own_L hL1)).trans hz526.symm) (fun _ => (own_he2 _ (own_L hL1)).trans hz555.symm) ) (lenOf pd_2 rfl) 0 (Nat.le_of_eq rfl) (by decide) (by decide) (by decide) (by decide) (by rw [hml]; rfl) (hb hby at_293) 296 rfl (fun r584 T585 L586 X587 Q588 => ?_)
                    obtain ⟨h589, e590⟩ : ∃ h, T585.heap = h := ⟨_, rfl⟩
                    rw [e590] at Q588
                    obtain ⟨rfl, n591, K592, E593, F594, F595, F596, F597, A598, A599⟩ := Q588
                    have N600 := Fr.app N582 n591
                    have F601 := F569.keep K592 (ninS ne277 (ninS ne317 (ninS ne318 nin0)))
                    have F602 := F570.keep K592 (ninS ne278 (ninS ne319 (ninS ne320 nin0)))
                    have F603 := F571.keep K592 (ninS ne279 (ninS ne321 (ninS ne322 nin0)))
                    have F604 := F572.keep K592 (ninS ne280 (ninS ne323 (ninS ne324 nin0)))
                    have F605 := A568.keep K592 (ninS ne281 (ninS ne325 (ninS ne326 nin0)))
                    have F606 := F574.keep K592 (ninS ne282 (ninS ne327 (ninS ne328 nin0)))
                    have F607 := F575.keep K592
                    have szh608 : h0.size ≤ h589.size := Nat.le_trans szh583 K592.1
                    have A609 : AV Z h589 tk305 .int [(.int z497), (.int z526), (.int z555), (.int (0 : Int32))] := by have u := A598; rw [(own_T0 _ _ (own_L hL1)).trans hz497.symm, (own_T1 _ _ (own_L hL1)).trans hz526.symm, (own_T2 _ _ (own_L hL1)).trans hz555.symm] at u; exact u
                    show Go p_ e_ below _ T585 (mkF m_ 296 #[.val (.int x0), .val (.int x1), .val (.int v101), .val (.ref b104), .val (.ref b148), .val (.int v195), .val (.ref b198), .val (.ref b213), .val (.ref b230), .val (.ref b249), .val (.ref b270), .val (.int (1 : Int32)), .val (.int v370), .val (.int v398), .val (.int (v370 + (1 : Int32))), .val (.int v409), .unset, .unset, .unset, .unset] [(.int (1 : Int32))])
                    refine g_if_ne X587 hx (hb hby at_296) 302 299 (by decide) rfl rfl (fun q296 => ?_) (fun q296 => ?_)
                    · refine g_aload X587 hx rfl rfl (hb hby at_302) 304 rfl ?_
                      refine g_aload X587 hx rfl rfl (hb hby at_304) 306 rfl ?_
                      refine g_iload X587 hx rfl (hb hby at_306) 308 rfl ?_
                      refine g_callS X587 hx hZ hown (wd hw 18 rfl) (wd hw 19 rfl) (wd hw 16 rfl) (wd hw 20 rfl) (by decide) e590 [(.ref b230), (.ref b213), (.int v409)] []  rfl (co4 l Z a0 hw b230 b213 v409 z497 z526 z555 z410 z439 z468 h589 F605 F604) (lenOf pd_3 rfl) 0 (Nat.le_of_eq rfl) (by decide) (by decide) (by decide) (by decide) (by rw [hml]; rfl) (hb hby at_308) 311 rfl (pu_cont fun T611 X610 e612 => ?_)
                      show Go p_ e_ below _ T611 (mkF m_ 311 #[.val (.int x0), .val (.int x1), .val (.int v101), .val (.ref b104), .val (.ref b148), .val (.int v195), .val (.ref b198), .val (.ref b213), .val (.ref b230), .val (.ref b249), .val (.ref b270), .val (.int (1 : Int32)), .val (.int v370), .val (.int v398), .val (.int (v370 + (1 : Int32))), .val (.int v409), .unset, .unset, .unset, .unset] [(.int (lo v409 z497 z526 z555 z410 z439 z468))])
                      generalize hv613 : (lo v409 z497 z526 z555 z410 z439 z468) = v613
                      refine g_istore X610 hx #[.val (.int x0), .val (.int x1), .val (.int v101), .val (.ref b104), .val (.ref b148), .val (.int v195), .val (.ref b198), .val (.ref b213), .val (.ref b230), .val (.ref b249), .val (.ref b270), .val (.int (1 : Int32)), .val (.int v370), .val (.int v398), .val (.int (v370 + (1 : Int32))), .val (.int v409), .val (.int v613), .unset, .unset, .unset] rfl (hb hby at_311) 313 rfl ?_
                      have hL2 := own_rng _ _ _ _ _ _ _ _ hv613
                      refine g_aload X610 hx rfl rfl (hb hby at_313) 315 rfl ?_
                      refine g_callV X610 hx hZ hown (wd hw 21 rfl) (C := "com/example/redshank/redshank/engine/Choices") (wd hw 22 rfl) (wd hw 24 rfl) (wd hw 23 rfl) (wd hw 3 rfl) (wd hw 25 rfl) (by decide) e612 [] [] E593 rfl (co5 l Z a0 hw b270 v409 tk305 ct306 (v370 + (1 : Int32)) z497 z526 z555 (0 : Int32) (cn (0 : Int32) v409 (v370 + (1 : Int32)) (cn (0 : Int32) v101 (0 : Int32) (0 : Int32) v113) z410) (cn (1 : Int32) v409 (v370 + (1 : Int32)) (cn (1 : Int32) v101 (0 : Int32) (0 : Int32) v124) z439) (cn (2 : Int32) v409 (v370 + (1 : Int32)) (cn (2 : Int32) v101 (0 : Int32) (0 : Int32) v135) z468) (0 : Int32) h589 h0.size szh608 sz289 sz339 E593 F594 F595 F596 F597 A609 A599 ne309 (Ne.symm ne329) (Ne.symm ne330) hn2) (lenOf pd_4 rfl) 0 (Nat.le_of_eq rfl) (by decide) (by decide) (by decide) (by decide) (by rw [hml]; rfl) (hb hby at_315) 318 rfl (fun r614 T615 L616 X617 Q618 => ?_)
                      have hlo619 : lo v409 z497 z526 z555 (cn (0 : Int32) v409 (v370 + (1 : Int32)) (cn (0 : Int32) v101 (0 : Int32) (0 : Int32) v113) z410) (cn (1 : Int32) v409 (v370 + (1 : Int32)) (cn (1 : Int32) v101 (0 : Int32) (0 : Int32) v124) z439) (cn (2 : Int32) v409 (v370 + (1 : Int32)) (cn (2 : Int32) v101 (0 : Int32) (0 : Int32) v135) z468) = v613 := (own_congr _ _ _ _ _ _ _ _ _ _ _ _ _ (fun q => ⟨rfl, own_C0 _ _ _ _ _ _ hL1 hz410 q⟩) (fun q => ⟨rfl, own_C1 _ _ _ _ _ _ hL1 hz439 q⟩) (fun q => ⟨rfl, own_C2 _ _ _ _ _ _ hL1 hz468 q⟩)).trans hv613
                      unfold Q5 at Q618
                      rw [hlo619] at Q618
                      obtain ⟨h620, e621⟩ : ∃ h, T615.heap = h := ⟨_, rfl⟩
                      rw [e621] at Q618
                      obtain ⟨rfl, n622, K623, E624, F625, F626, F627, F628, A629, A630⟩ := Q618
                      have N631 := Fr.app N600 n622
                      have F632 := F601.keep K623 (ninS ne277 (ninS ne317 nin0))
                      have F633 := F602.keep K623 (ninS ne278 (ninS ne319 nin0))
                      have F634 := F603.keep K623 (ninS ne279 (ninS ne321 nin0))
                      have F635 := F604.keep K623 (ninS ne280 (ninS ne323 nin0))
                      have F636 := F605.keep K623 (ninS ne281 (ninS ne325 nin0))
                      have F637 := F606.keep K623 (ninS ne282 (ninS ne327 nin0))
                      have F638 := E593.keep K623
                      have F639 := A599.keep K623 (ninS (Ne.symm ne330) (ninS (Ne.symm ne309) nin0))
                      have szh640 : h0.size ≤ h620.size := Nat.le_trans szh608 K623.1
                      show Go p_ e_ below _ T615 (mkF m_ 318 #[.val (.int x0), .val (.int x1), .val (.int v101), .val (.ref b104), .val (.ref b148), .val (.int v195), .val (.ref b198), .val (.ref b213), .val (.ref b230), .val (.ref b249), .val (.ref b270), .val (.int (1 : Int32)), .val (.int v370), .val (.int v398), .val (.int (v370 + (1 : Int32))), .val (.int v409), .val (.int v613), .unset, .unset, .unset] [(.int (if v613 < (0 : Int32) then (0 : Int32) else (1 : Int32)))])
                      generalize hv641 : (if v613 < (0 : Int32) then (0 : Int32) else (1 : Int32)) = v641
                      refine g_istore X617 hx #[.val (.int x0), .val (.int x1), .val (.int v101), .val (.ref b104), .val (.ref b148), .val (.int v195), .val (.ref b198), .val (.ref b213), .val (.ref b230), .val (.ref b249), .val (.ref b270), .val (.int (1 : Int32)), .val (.int v370), .val (.int v398), .val (.int (v370 + (1 : Int32))), .val (.int v409), .val (.int v613), .val (.int v641), .unset, .unset] rfl (hb hby at_318) 320 rfl ?_
                      refine g_iload X617 hx rfl (hb hby at_320) 322 rfl ?_
                      refine g_iload X617 hx rfl (hb hby at_322) 324 rfl ?_
                      refine Go.joinT (α := Int32) X617 e621 (fun z => mkF m_ 332 #[.val (.int x0), .val (.int x1), .val (.int v101), .val (.ref b104), .val (.ref b148), .val (.int v195), .val (.ref b198), .val (.ref b213), .val (.ref b230), .val (.ref b249), .val (.ref b270), .val (.int (1 : Int32)), .val (.int v370), .val (.int v398), .val (.int (v370 + (1 : Int32))), .val (.int v409), .val (.int v613), .val (.int v641), .unset, .unset] [(.int z), (.int v641)]) (fun z => z = (if v613 < (0 : Int32) then (0 : Int32) else (1 : Int32))) ?_ (fun J643 => ?_)
                      · rintro T644 X645 e646 z642 hz642
                        show Go p_ e_ below _ T644 (mkF m_ 332 #[.val (.int x0), .val (.int x1), .val (.int v101), .val (.ref b104), .val (.ref b148), .val (.int v195), .val (.ref b198), .val (.ref b213), .val (.ref b230), .val (.ref b249), .val (.ref b270), .val (.int (1 : Int32)), .val (.int v370), .val (.int v398), .val (.int (v370 + (1 : Int32))), .val (.int v409), .val (.int v613), .val (.int v641), .unset, .unset] [(.int z642), (.int v641)])
                        refine g_icmp_eq X645 hx (hb hby at_332) 338 335 (by decide) rfl rfl (fun q332 => ?_) (fun q332 => ?_)
                        · refine g_aload X645 hx rfl rfl (hb hby at_338) 340 rfl ?_
                          refine g_iconst X645 hx (0 : Int32) rfl (hb hby at_340) 341 rfl ?_
                          refine g_aload X645 hx rfl rfl (hb hby at_341) 343 rfl ?_
                          refine g_iconst X645 hx (0 : Int32) rfl (hb hby at_343) 344 rfl ?_
                          refine g_iload X645 hx rfl (hb hby at_344) 346 rfl ?_
                          refine g_callS X645 hx hZ hown (wd hw 34 rfl) (wd hw 35 rfl) (wd hw 16 rfl) (wd hw 36 rfl) (by decide) e646 [(.ref b230), (.int (0 : Int32)), (.int v613)] [(.int (0 : Int32)), (.ref b249)]  rfl (co7_0 l Z a0 hw b230 v613 z497 z526 z555 h620 F636) (lenOf pd_6 rfl) 2 (Nat.le_of_eq rfl) (by decide) (by decide) (by decide) (by decide) (by rw [hml]; rfl) (hb hby at_346) 349 rfl (pu_cont fun T650 X649 e651 => ?_)
                          show Go p_ e_ below _ T650 (mkF m_ 349 #[.val (.int x0), .val (.int x1), .val (.int v101), .val (.ref b104), .val (.ref b148), .val (.int v195), .val (.ref b198), .val (.ref b213), .val (.ref b230), .val (.ref b249), .val (.ref b270), .val (.int (1 : Int32)), .val (.int v370), .val (.int v398), .val (.int (v370 + (1 : Int32))), .val (.int v409), .val (.int v613), .val (.int v641), .unset, .unset] [(.int (stp0 v613 z497 z526 z555)), (.int (0 : Int32)), (.ref b249)])
                          generalize hv652 : (stp0 v613 z497 z526 z555) = v652
                          refine g_iastore X649 hx hZ e651 F637 (by decide) (Nat.le_of_ble_eq_true rfl) (hb hby at_349) 350 rfl (fun T653 h654 X655 e656 W657 A658 => ?_)
                          have A659 : AV Z h654 b249 .int [(.int v652), (.int (0 : Int32)), (.int (0 : Int32))] := A658
                          have F660 := F632.other W657 ne255
                          have F661 := F633.other W657 ne256
                          have F662 := F634.other W657 ne257
                          have F663 := F635.other W657 ne258
                          have F664 := F636.other W657 ne259
                          have F665 := A659
                          have F666 := E624.wr W657
                          have F667 := A630.other W657 (Ne.symm ne328)
                          have F668 := F625.other W657 (Or.inl (Ne.symm ne282))
                          have F669 := F626.other W657 (Or.inl (Ne.symm ne282))
                          have F670 := F627.other W657 (Or.inl (Ne.symm ne282))
                          have F671 := F628.other W657 (Or.inl (Ne.symm ne282))
                          have F672 := A629.other W657 (Ne.symm ne327)
                          have N673 := Fr.snoc X655 N631 sz265
                          have szh674 : h0.size ≤ h654.size := Nat.le_trans szh640 (Nat.le_of_eq W657.size.symm)
                          show Go p_ e_ below _ T653 (mkF m_ 350 #[.val (.int x0), .val (.int x1), .val (.int v101), .val (.ref b104), .val (.ref b148), .val (.int v195), .val (.ref b198), .val (.ref b213), .val (.ref b230), .val (.ref b249), .val (.ref b270), .val (.int (1 : Int32)), .val (.int v370), .val (.int v398), .val (.int (v370 + (1 : Int32))), .val (.int v409), .val (.int v613), .val (.int v641), .unset, .unset] [])
                          refine g_aload X655 hx rfl rfl (hb hby at_350) 352 rfl ?_
                          refine g_iconst X655 hx (1 : Int32) rfl (hb hby at_352) 353 rfl ?_
                          refine g_aload X655 hx rfl rfl (hb hby at_353) 355 rfl ?_
                          refine g_iconst X655 hx (1 : Int32) rfl (hb hby at_355) 356 rfl ?_
                          refine g_iload X655 hx rfl (hb hby at_356) 358 rfl ?_
                          refine g_callS X655 hx hZ hown (wd hw 34 rfl) (wd hw 35 rfl) (wd hw 16 rfl) (wd hw 36 rfl) (by decide) e656 [(.ref b230), (.int (1 : Int32)), (.int v613)] [(.int (1 : Int32)), (.ref b249)]  rfl (co7_1 l Z a0 hw b230 v613 z497 z526 z555 h654 F664) (lenOf pd_6 rfl) 2 (Nat.le_of_eq rfl) (by decide) (by decide) (by decide) (by decide) (by rw [hml]; rfl) (hb hby at_358) 361 rfl (pu_cont fun T676 X675 e677 => ?_)
                          show Go p_ e_ below _ T676 (mkF m_ 361 #[.val (.int x0), .val (.int x1), .val (.int v101), .val (.ref b104), .val (.ref b148), .val (.int v195), .val (.ref b198), .val (.ref b213), .val (.ref b230), .val (.ref b249), .val (.ref b270), .val (.int (1 : Int32)), .val (.int v370), .val (.int v398), .val (.int (v370 + (1 : Int32))), .val (.int v409), .val (.int v613), .val (.int v641), .unset, .unset] [(.int (stp1 v613 z497 z526 z555)), (.int (1 : Int32)), (.ref b249)])
                          generalize hv678 : (stp1 v613 z497 z526 z555) = v678
                          refine g_iastore X675 hx hZ e677 A659 (by decide) (Nat.le_of_ble_eq_true rfl) (hb hby at_361) 362 rfl (fun T679 h680 X681 e682 W683 A684 => ?_)
                          have A685 : AV Z h680 b249 .int [(.int v652), (.int v678), (.int (0 : Int32))] := A684
                          have F686 := F660.other W683 ne255
                          have F687 := F661.other W683 ne256
                          have F688 := F662.other W683 ne257
                          have F689 := F663.other W683 ne258
                          have F690 := F664.other W683 ne259
                          have F691 := A685
                          have F692 := F666.wr W683
                          have F693 := F667.other W683 (Ne.symm ne328)
                          have F694 := F668.other W683 (Or.inl (Ne.symm ne282))
                          have F695 := F669.other W683 (Or.inl (Ne.symm ne282))
                          have F696 := F670.other W683 (Or.inl (Ne.symm ne282))
                          have F697 := F671.other W683 (Or.inl (Ne.symm ne282))
                          have F698 := F672.other W683 (Ne.symm ne327)
                          have N699 := Fr.snoc X681 N673 sz265
                          have szh700 : h0.size ≤ h680.size := Nat.le_trans szh674 (Nat.le_of_eq W683.size.symm)
                          show Go p_ e_ below _ T679 (mkF m_ 362 #[.val (.int x0), .val (.int x1), .val (.int v101), .val (.ref b104), .val (.ref b148), .val (.int v195), .val (.ref b198), .val (.ref b213), .val (.ref b230), .val (.ref b249), .val (.ref b270), .val (.int (1 : Int32)), .val (.int v370), .val (.int v398), .val (.int (v370 + (1 : Int32))), .val (.int v409), .val (.int v613), .val (.int v641), .unset, .unset] [])
                          refine g_aload X681 hx rfl rfl (hb hby at_362) 364 rfl ?_
                          refine g_iconst X681 hx (2 : Int32) rfl (hb hby at_364) 365 rfl ?_
                          refine g_aload X681 hx rfl rfl (hb hby at_365) 367 rfl ?_
                          refine g_iconst X681 hx (2 : Int32) rfl (hb hby at_367) 368 rfl ?_
                          refine g_iload X681 hx rfl (hb hby at_368) 370 rfl ?_
                          refine g_callS X681 hx hZ hown (wd hw 34 rfl) (wd hw 35 rfl) (wd hw 16 rfl) (wd hw 36 rfl) (by decide) e682 [(.ref b230), (.int (2 : Int32)), (.int v613)] [(.int (2 : Int32)), (.ref b249)]  rfl (co7_2 l Z a0 hw b230 v613 z497 z526 z555 h680 F690) (lenOf pd_6 rfl) 2 (Nat.le_of_eq rfl) (by decide) (by decide) (by decide) (by decide) (by rw [hml]; rfl) (hb hby at_370) 373 rfl (pu_cont fun T702 X701 e703 => ?_)
                          show Go p_ e_ below _ T702 (mkF m_ 373 #[.val (.int x0), .val (.int x1), .val (.int v101), .val (.ref b104), .val (.ref b148), .val (.int v195), .val (.ref b198), .val (.ref b213), .val (.ref b230), .val (.ref b249), .val (.ref b270), .val (.int (1 : Int32)), .val (.int v370), .val (.int v398), .val (.int (v370 + (1 : Int32))), .val (.int v409), .val (.int v613), .val (.int v641), .unset, .unset] [(.int (stp2 v613 z497 z526 z555)), (.int (2 : Int32)), (.ref b249)])
                          generalize hv704 : (stp2 v613 z497 z526 z555) = v704
                          refine g_iastore X701 hx hZ e703 A685 (by decide) (Nat.le_of_ble_eq_true rfl) (hb hby at_373) 374 rfl (fun T705 h706 X707 e708 W709 A710 => ?_)
                          have A711 : AV Z h706 b249 .int [(.int v652), (.int v678), (.int v704)] := A710
                          have F712 := F686.other W709 ne255
                          have F713 := F687.other W709 ne256
                          have F714 := F688.other W709 ne257
                          have F715 := F689.other W709 ne258
                          have F716 := F690.other W709 ne259
                          have F717 := A711
                          have F718 := F692.wr W709
                          have F719 := F693.other W709 (Ne.symm ne328)
                          have F720 := F694.other W709 (Or.inl (Ne.symm ne282))
                          have F721 := F695.other W709 (Or.inl (Ne.symm ne282))
                          have F722 := F696.other W709 (Or.inl (Ne.symm ne282))
                          have F723 := F697.other W709 (Or.inl (Ne.symm ne282))
                          have F724 := F698.other W709 (Ne.symm ne327)
                          have N725 := Fr.snoc X707 N699 sz265
                          have szh726 : h0.size ≤ h706.size := Nat.le_trans szh700 (Nat.le_of_eq W709.size.symm)
                          show Go p_ e_ below _ T705 (mkF m_ 374 #[.val (.int x0), .val (.int x1), .val (.int v101), .val (.ref b104), .val (.ref b148), .val (.int v195), .val (.ref b198), .val (.ref b213), .val (.ref b230), .val (.ref b249), .val (.ref b270), .val (.int (1 : Int32)), .val (.int v370), .val (.int v398), .val (.int (v370 + (1 : Int32))), .val (.int v409), .val (.int v613), .val (.int v641), .unset, .unset] [])
                          refine g_aload X707 hx rfl rfl (hb hby at_374) 376 rfl ?_
                          refine g_iload X707 hx rfl (hb hby at_376) 378 rfl ?_
                          refine g_aload X707 hx rfl rfl (hb hby at_378) 380 rfl ?_
                          refine g_aload X707 hx rfl rfl (hb hby at_380) 382 rfl ?_
                          refine g_callS X707 hx hZ hown (wd hw 14 rfl) (wd hw 15 rfl) (wd hw 16 rfl) (wd hw 17 rfl) (by decide) e708 [(.ref b270), (.int v409), (.ref b213), (.ref b249)] [] rfl (co3 l Z a0 hw b270 v409 b213 b249 tk305 ct306 (v613 + (1 : Int32)) (tx v613 (0 : Int32) z497) (tx v613 (1 : Int32) z526) (tx v613 (2 : Int32) z555) (0 : Int32) (cn (0 : Int32) v409 (v370 + (1 : Int32)) (cn (0 : Int32) v101 (0 : Int32) (0 : Int32) v113) z410) (cn (1 : Int32) v409 (v370 + (1 : Int32)) (cn (1 : Int32) v101 (0 : Int32) (0 : Int32) v124) z439) (cn (2 : Int32) v409 (v370 + (1 : Int32)) (cn (2 : Int32) v101 (0 : Int32) (0 : Int32) v135) z468) (0 : Int32) z410 z439 z468 v652 v678 v704 h706 h0.size szh726 sz289 sz339 sz340 F718 F720 F721 F722 F723 F724 F719 ne309 (Ne.symm ne329) (Ne.symm ne330) F715 A711 ne280 ne323 ne324 ne282 ne327 ne328 hn2 (fun _ => (own_s0 _ _ _ _ (own_L hL2)).trans hv652) (fun _ => (own_s1 _ _ _ _ (own_L hL2)).trans hv678) (fun _ => (own_s2 _ _ _ _ (own_L hL2)).trans hv704) ) (lenOf pd_2 rfl) 0 (Nat.le_of_eq rfl) (by decide) (by decide) (by decide) (by decide) (by rw [hml]; rfl) (hb hby at_382) 385 rfl (fun r727 T728 L729 X730 Q731 => ?_)
                          obtain ⟨h732, e733⟩ : ∃ h, T728.heap = h := ⟨_, rfl⟩
                          rw [e733] at Q731
                          obtain ⟨rfl, n734, K735, E736, F737, F738, F739, F740, A741, A742⟩ := Q731
                          have N743 := Fr.app N725 n734
                          have F744 := F712.keep K735 (ninS ne277 (ninS ne317 (ninS ne318 nin0)))
                          have F745 := F713.keep K735 (ninS ne278 (ninS ne319 (ninS ne320 nin0)))
                          have F746 := F714.keep K735 (ninS ne279 (ninS ne321 (ninS ne322 nin0)))
                          have F747 := F715.keep K735 (ninS ne280 (ninS ne323 (ninS ne324 nin0)))
                          have F748 := F716.keep K735 (ninS ne281 (ninS ne325 (ninS ne326 nin0)))
                          have F749 := A711.keep K735 (ninS ne282 (ninS ne327 (ninS ne328 nin0)))
                          have F750 := F718.keep K735
                          have szh751 : h0.size ≤ h732.size := Nat.le_trans szh726 K735.1
                          show Go p_ e_ below _ T728 (mkF m_ 385 #[.val (.int x0), .val (.int x1), .val (.int v101), .val (.ref b104), .val (.ref b148), .val (.int v195), .val (.ref b198), .val (.ref b213), .val (.ref b230), .val (.ref b249), .val (.ref b270), .val (.int (1 : Int32)), .val (.int v370), .val (.int v398), .val (.int (v370 + (1 : Int32))), .val (.int v409), .val (.int v613), .val (.int v641), .unset, .unset] [(.int (1 : Int32))])
                          refine g_if_ne X730 hx (hb hby at_385) 391 388 (by decide) rfl rfl (fun q385 => ?_) (fun q385 => ?_)
                          · refine g_aload X730 hx rfl rfl (hb hby at_391) 393 rfl ?_
                            refine g_aload X730 hx rfl rfl (hb hby at_393) 395 rfl ?_
                            refine g_iload X730 hx rfl (hb hby at_395) 397 rfl ?_
                            refine g_callS X730 hx hZ hown (wd hw 18 rfl) (wd hw 19 rfl) (wd hw 16 rfl) (wd hw 20 rfl) (by decide) e733 [(.ref b249), (.ref b213), (.int v409)] []  rfl (co4 l Z a0 hw b249 b213 v409 v652 v678 v704 z410 z439 z468 h732 F749 F747) (lenOf pd_3 rfl) 0 (Nat.le_of_eq rfl) (by decide) (by decide) (by decide) (by decide) (by rw [hml]; rfl) (hb hby at_397) 400 rfl (pu_cont fun T753 X752 e754 => ?_)
                            show Go p_ e_ below _ T753 (mkF m_ 400 #[.val (.int x0), .val (.int x1), .val (.int v101), .val (.ref b104), .val (.ref b148), .val (.int v195), .val (.ref b198), .val (.ref b213), .val (.ref b230), .val (.ref b249), .val (.ref b270), .val (.int (1 : Int32)), .val (.int v370), .val (.int v398), .val (.int (v370 + (1 : Int32))), .val (.int v409), .val (.int v613), .val (.int v641), .unset, .unset] [(.int (lo v409 v652 v678 v704 z410 z439 z468))])
                            generalize hv755 : (lo v409 v652 v678 v704 z410 z439 z468) = v755
                            refine g_istore X752 hx #[.val (.int x0), .val (.int x1), .val (.int v101), .val (.ref b104), .val (.ref b148), .val (.int v195), .val (.ref b198), .val (.ref b213), .val (.ref b230), .val (.ref b249), .val (.ref b270), .val (.int (1 : Int32)), .val (.int v370), .val (.int v398), .val (.int (v370 + (1 : Int32))), .val (.int v409), .val (.int v613), .val (.int v641), .val (.int v755), .unset] rfl (hb hby at_400) 402 rfl ?_
                            refine g_aload X752 hx rfl rfl (hb hby at_402) 404 rfl ?_
                            refine g_callV X752 hx hZ hown (wd hw 21 rfl) (C := "com/example/redshank/redshank/engine/Choices") (wd hw 22 rfl) (wd hw 24 rfl) (wd hw 23 rfl) (wd hw 3 rfl) (wd hw 25 rfl) (by decide) e754 [] [] E736 rfl (co5 l Z a0 hw b270 v409 tk305 ct306 (v613 + (1 : Int32)) (tn (0 : Int32) v409 (v613 + (1 : Int32)) (tx v613 (0 : Int32) z497)) (tn (1 : Int32) v409 (v613 + (1 : Int32)) (tx v613 (1 : Int32) z526)) (tn (2 : Int32) v409 (v613 + (1 : Int32)) (tx v613 (2 : Int32) z555)) (0 : Int32) (cn (0 : Int32) v409 (v613 + (1 : Int32)) (cn (0 : Int32) v409 (v370 + (1 : Int32)) (cn (0 : Int32) v101 (0 : Int32) (0 : Int32) v113) z410) z410) (cn (1 : Int32) v409 (v613 + (1 : Int32)) (cn (1 : Int32) v409 (v370 + (1 : Int32)) (cn (1 : Int32) v101 (0 : Int32) (0 : Int32) v124) z439) z439) (cn (2 : Int32) v409 (v613 + (1 : Int32)) (cn (2 : Int32) v409 (v370 + (1 : Int32)) (cn (2 : Int32) v101 (0 : Int32) (0 : Int32) v135) z468) z468) (0 : Int32) h732 h0.size szh751 sz289 sz339 E736 F737 F738 F739 F740 A741 A742 ne309 (Ne.symm ne329) (Ne.symm ne330) hn2) (lenOf pd_4 rfl) 0 (Nat.le_of_eq rfl) (by decide) (by decide) (by decide) (by decide) (by rw [hml]; rfl) (hb hby at_404) 407 rfl (fun r756 T757 L758 X759 Q760 => ?_)
                            have hlo761 : lo v409 (tn (0 : Int32) v409 (v613 + (1 : Int32)) (tx v613 (0 : Int32) z497)) (tn (1 : Int32) v409 (v613 + (1 : Int32)) (tx v613 (1 : Int32) z526)) (tn (2 : Int32) v409 (v613 + (1 : Int32)) (tx v613 (2 : Int32) z555)) (cn (0 : Int32) v409 (v613 + (1 : Int32)) (cn (0 : Int32) v409 (v370 + (1 : Int32)) (cn (0 : Int32) v101 (0 : Int32) (0 : Int32) v113) z410) z410) (cn (1 : Int32) v409 (v613 + (1 : Int32)) (cn (1 : Int32) v409 (v370 + (1 : Int32)) (cn (1 : Int32) v101 (0 : Int32) (0 : Int32) v124) z439) z439) (cn (2 : Int32) v409 (v613 + (1 : Int32)) (cn (2 : Int32) v409 (v370 + (1 : Int32)) (cn (2 : Int32) v101 (0 : Int32) (0 : Int32) v135) z468) z468) = v755 := (own_congr _ _ _ _ _ _ _ _ _ _ _ _ _ (fun q => ⟨own_T30 _ _ _ _ ((own_s0 _ _ _ _ (own_L hL2)).trans hv652) q, own_C30 _ _ _ _ (own_C0 _ _ _ _ _ _ hL1 hz410 q) q⟩) (fun q => ⟨own_T31 _ _ _ _ ((own_s1 _ _ _ _ (own_L hL2)).trans hv678) q, own_C31 _ _ _ _ (own_C1 _ _ _ _ _ _ hL1 hz439 q) q⟩) (fun q => ⟨own_T32 _ _ _ _ ((own_s2 _ _ _ _ (own_L hL2)).trans hv704) q, own_C32 _ _ _ _ (own_C2 _ _ _ _ _ _ hL1 hz468 q) q⟩)).trans hv755
                            unfold Q5 at Q760
                            rw [hlo761] at Q760
                            obtain ⟨h762, e763⟩ : ∃ h, T757.heap = h := ⟨_, rfl⟩
                            rw [e763] at Q760
                            obtain ⟨rfl, n764, K765, E766, F767, F768, F769, F770, A771, A772⟩ := Q760
                            have N773 := Fr.app N743 n764
                            have F774 := F744.keep K765 (ninS ne277 (ninS ne317 nin0))
                            have F775 := F745.keep K765 (ninS ne278 (ninS ne319 nin0))
                            have F776 := F746.keep K765 (ninS ne279 (ninS ne321 nin0))
                            have F777 := F747.keep K765 (ninS ne280 (ninS ne323 nin0))
                            have F778 := F748.keep K765 (ninS ne281 (ninS ne325 nin0))
                            have F779 := F749.keep K765 (ninS ne282 (ninS ne327 nin0))
                            have F780 := E736.keep K765
                            have F781 := A742.keep K765 (ninS (Ne.symm ne330) (ninS (Ne.symm ne309) nin0))
                            have szh782 : h0.size ≤ h762.size := Nat.le_trans szh751 K765.1
                            show Go p_ e_ below _ T757 (mkF m_ 407 #[.val (.int x0), .val (.int x1), .val (.int v101), .val (.ref b104), .val (.ref b148), .val (.int v195), .val (.ref b198), .val (.ref b213), .val (.ref b230), .val (.ref b249), .val (.ref b270), .val (.int (1 : Int32)), .val (.int v370), .val (.int v398), .val (.int (v370 + (1 : Int32))), .val (.int v409), .val (.int v613), .val (.int v641), .val (.int v755), .unset] [(.int (if v755 < (0 : Int32) then (0 : Int32) else (1 : Int32)))])
                            generalize hv783 : (if v755 < (0 : Int32) then (0 : Int32) else (1 : Int32)) = v783
                            refine g_istore X759 hx #[.val (.int x0), .val (.int x1), .val (.int v101), .val (.ref b104), .val (.ref b148), .val (.int v195), .val (.ref b198), .val (.ref b213), .val (.ref b230), .val (.ref b249), .val (.ref b270), .val (.int (1 : Int32)), .val (.int v370), .val (.int v398), .val (.int (v370 + (1 : Int32))), .val (.int v409), .val (.int v613), .val (.int v641), .val (.int v755), .val (.int v783)] rfl (hb hby at_407) 409 rfl ?_
                            refine g_iload X759 hx rfl (hb hby at_409) 411 rfl ?_
                            refine g_iload X759 hx rfl (hb hby at_411) 413 rfl ?_
                            refine Go.joinT (α := Int32) X759 e763 (fun z => mkF m_ 421 #[.val (.int x0), .val (.int x1), .val (.int v101), .val (.ref b104), .val (.ref b148), .val (.int v195), .val (.ref b198), .val (.ref b213), .val (.ref b230), .val (.ref b249), .val (.ref b270), .val (.int (1 : Int32)), .val (.int v370), .val (.int v398), .val (.int (v370 + (1 : Int32))), .val (.int v409), .val (.int v613), .val (.int v641), .val (.int v755), .val (.int v783)] [(.int z), (.int v783)]) (fun z => z = (if v755 < (0 : Int32) then (0 : Int32) else (1 : Int32))) ?_ (fun J785 => ?_)
                            · rintro T786 X787 e788 z784 hz784
                              show Go p_ e_ below _ T786 (mkF m_ 421 #[.val (.int x0), .val (.int x1), .val (.int v101), .val (.ref b104), .val (.ref b148), .val (.int v195), .val (.ref b198), .val (.ref b213), .val (.ref b230), .val (.ref b249), .val (.ref b270), .val (.int (1 : Int32)), .val (.int v370), .val (.int v398), .val (.int (v370 + (1 : Int32))), .val (.int v409), .val (.int v613), .val (.int v641), .val (.int v755), .val (.int v783)] [(.int z784), (.int v783)])
                              refine g_icmp_eq X787 hx (hb hby at_421) 427 424 (by decide) rfl rfl (fun q421 => ?_) (fun q421 => ?_)
                              · refine g_iload X787 hx rfl (hb hby at_427) 429 rfl ?_
                                exact g_retz X787 hx hret hlk (by decide) (by decide) (hb hby at_429) ⟨rfl, N773⟩
                              · exact absurd ((hv783.symm).trans hz784.symm) q421
                            · refine g_if_lt X759 hx (hb hby at_413) 420 416 (by decide) rfl rfl (fun q413 => ?_) (fun q413 => ?_)
                              · refine g_iconst X759 hx (0 : Int32) rfl (hb hby at_420) 421 rfl ?_
                                exact J785 T757 X759 e763 ((0 : Int32)) ((if_pos q413).trans rfl).symm
                              · refine g_iconst X759 hx (1 : Int32) rfl (hb hby at_416) 417 rfl ?_
                                refine g_goto X759 hx (hb hby at_417) 421 (by decide) rfl ?_
                                exact J785 T757 X759 e763 ((1 : Int32)) ((if_neg q413).trans rfl).symm
                          · exact absurd q385 (by decide)
                        · exact absurd ((hv641.symm).trans hz642.symm) q332
                      · refine g_if_lt X617 hx (hb hby at_324) 331 327 (by decide) rfl rfl (fun q324 => ?_) (fun q324 => ?_)
                        · refine g_iconst X617 hx (0 : Int32) rfl (hb hby at_331) 332 rfl ?_
                          exact J643 T615 X617 e621 ((0 : Int32)) ((if_pos q324).trans rfl).symm
                        · refine g_iconst X617 hx (1 : Int32) rfl (hb hby at_327) 328 rfl ?_
                          refine g_goto X617 hx (hb hby at_328) 332 (by decide) rfl ?_
                          exact J643 T615 X617 e621 ((1 : Int32)) ((if_neg q324).trans rfl).symm
                    · exact absurd q296 (by decide)
                  · refine g_icmp_ne X535 hx (hb hby at_276) 283 279 (by decide) rfl rfl (fun q276 => ?_) (fun q276 => ?_)
                    · refine g_iconst X535 hx (0 : Int32) rfl (hb hby at_283) 284 rfl ?_
                      exact J556 T533 X535 e536 ((0 : Int32)) ((if_neg q276).trans rfl).symm
                    · refine g_iconst X535 hx (1 : Int32) rfl (hb hby at_279) 280 rfl ?_
                      refine g_goto X535 hx (hb hby at_280) 284 (by decide) rfl ?_
                      exact J556 T533 X535 e536 ((1 : Int32)) ((if_pos q276).trans rfl).symm
                · refine g_icmp_ne X506 hx (hb hby at_261) 268 264 (by decide) rfl rfl (fun q261 => ?_) (fun q261 => ?_)
                  · refine g_iconst X506 hx (0 : Int32) rfl (hb hby at_268) 269 rfl ?_
                    exact J527 T504 X506 e507 ((0 : Int32)) ((if_neg q261).trans rfl).symm
                  · refine g_iconst X506 hx (1 : Int32) rfl (hb hby at_264) 265 rfl ?_
                    refine g_goto X506 hx (hb hby at_265) 269 (by decide) rfl ?_
                    exact J527 T504 X506 e507 ((1 : Int32)) ((if_pos q261).trans rfl).symm
              · refine g_if_ne X477 hx (hb hby at_246) 253 249 (by decide) rfl rfl (fun q246 => ?_) (fun q246 => ?_)
                · refine g_iconst X477 hx (0 : Int32) rfl (hb hby at_253) 254 rfl ?_
                  exact J498 T475 X477 e478 ((0 : Int32)) ((if_neg q246).trans rfl).symm
                · refine g_iconst X477 hx (1 : Int32) rfl (hb hby at_249) 250 rfl ?_
                  refine g_goto X477 hx (hb hby at_250) 254 (by decide) rfl ?_
                  exact J498 T475 X477 e478 ((1 : Int32)) ((if_pos q246).trans rfl).symm
            · refine g_icmp_ge X448 hx (hb hby at_227) 236 230 (by decide) rfl rfl (fun q227 => ?_) (fun q227 => ?_)
              · refine g_aload X448 hx rfl rfl (hb hby at_236) 238 rfl ?_
                refine g_iconst X448 hx (2 : Int32) rfl (hb hby at_238) 239 rfl ?_
                refine g_iaload X448 hx hZ e449 F454 (by decide) rfl (hb hby at_239) 240 rfl ?_
                show Go p_ e_ below _ T446 (mkF m_ 240 #[.val (.int x0), .val (.int x1), .val (.int v101), .val (.ref b104), .val (.ref b148), .val (.int v195), .val (.ref b198), .val (.ref b213), .val (.ref b230), .val (.ref b249), .val (.ref b270), .val (.int (1 : Int32)), .val (.int v370), .val (.int v398), .val (.int (v370 + (1 : Int32))), .val (.int v409), .unset, .unset, .unset, .unset] [(.int v183), (.int (2 : Int32)), (.ref b213)])
                exact J469 T446 X448 e449 (v183) ((if_neg q227).trans rfl).symm
              · refine g_aloadN X448 hx rfl rfl (hb hby at_230) 231 rfl ?_
                refine g_iconst X448 hx (2 : Int32) rfl (hb hby at_231) 232 rfl ?_
                refine g_iaload X448 hx hZ e449 F453 (by decide) rfl (hb hby at_232) 233 rfl ?_
                show Go p_ e_ below _ T446 (mkF m_ 233 #[.val (.int x0), .val (.int x1), .val (.int v101), .val (.ref b104), .val (.ref b148), .val (.int v195), .val (.ref b198), .val (.ref b213), .val (.ref b230), .val (.ref b249), .val (.ref b270), .val (.int (1 : Int32)), .val (.int v370), .val (.int v398), .val (.int (v370 + (1 : Int32))), .val (.int v409), .unset, .unset, .unset, .unset] [(.int v135), (.int (2 : Int32)), (.ref b213)])
                refine g_goto X448 hx (hb hby at_233) 240 (by decide) rfl ?_
                exact J469 T446 X448 e449 (v135) ((if_pos q227).trans rfl).symm
          · refine g_icmp_ge X419 hx (hb hby at_207) 216 210 (by decide) rfl rfl (fun q207 => ?_) (fun q207 => ?_)
            · refine g_aload X419 hx rfl rfl (hb hby at_216) 218 rfl ?_
              refine g_iconst X419 hx (1 : Int32) rfl (hb hby at_218) 219 rfl ?_
              refine g_iaload X419 hx hZ e420 F425 (by decide) rfl (hb hby at_219) 220 rfl ?_
              show Go p_ e_ below _ T417 (mkF m_ 220 #[.val (.int x0), .val (.int x1), .val (.int v101), .val (.ref b104), .val (.ref b148), .val (.int v195), .val (.ref b198), .val (.ref b213), .val (.ref b230), .val (.ref b249), .val (.ref b270), .val (.int (1 : Int32)), .val (.int v370), .val (.int v398), .val (.int (v370 + (1 : Int32))), .val (.int v409), .unset, .unset, .unset, .unset] [(.int v171), (.int (1 : Int32)), (.ref b213)])
              exact J440 T417 X419 e420 (v171) ((if_neg q207).trans rfl).symm
            · refine g_aloadN X419 hx rfl rfl (hb hby at_210) 211 rfl ?_
              refine g_iconst X419 hx (1 : Int32) rfl (hb hby at_211) 212 rfl ?_
              refine g_iaload X419 hx hZ e420 F424 (by decide) rfl (hb hby at_212) 213 rfl ?_
              show Go p_ e_ below _ T417 (mkF m_ 213 #[.val (.int x0), .val (.int x1), .val (.int v101), .val (.ref b104), .val (.ref b148), .val (.int v195), .val (.ref b198), .val (.ref b213), .val (.ref b230), .val (.ref b249), .val (.ref b270), .val (.int (1 : Int32)), .val (.int v370), .val (.int v398), .val (.int (v370 + (1 : Int32))), .val (.int v409), .unset, .unset, .unset, .unset] [(.int v124), (.int (1 : Int32)), (.ref b213)])
              refine g_goto X419 hx (hb hby at_213) 220 (by decide) rfl ?_
              exact J440 T417 X419 e420 (v124) ((if_pos q207).trans rfl).symm
        · refine g_icmp_ge X406 hx (hb hby at_187) 196 190 (by decide) rfl rfl (fun q187 => ?_) (fun q187 => ?_)
          · refine g_aload X406 hx rfl rfl (hb hby at_196) 198 rfl ?_
            refine g_iconst X406 hx (0 : Int32) rfl (hb hby at_198) 199 rfl ?_
            refine g_iaload X406 hx hZ e408 F390 (by decide) rfl (hb hby at_199) 200 rfl ?_
            show Go p_ e_ below _ T407 (mkF m_ 200 #[.val (.int x0), .val (.int x1), .val (.int v101), .val (.ref b104), .val (.ref b148), .val (.int v195), .val (.ref b198), .val (.ref b213), .val (.ref b230), .val (.ref b249), .val (.ref b270), .val (.int (1 : Int32)), .val (.int v370), .val (.int v398), .val (.int (v370 + (1 : Int32))), .val (.int v409), .unset, .unset, .unset, .unset] [(.int v159), (.int (0 : Int32)), (.ref b213)])
            exact J411 T407 X406 e408 (v159) ((if_neg q187).trans rfl).symm
          · refine g_aloadN X406 hx rfl rfl (hb hby at_190) 191 rfl ?_
            refine g_iconst X406 hx (0 : Int32) rfl (hb hby at_191) 192 rfl ?_
            refine g_iaload X406 hx hZ e408 F389 (by decide) rfl (hb hby at_192) 193 rfl ?_
            show Go p_ e_ below _ T407 (mkF m_ 193 #[.val (.int x0), .val (.int x1), .val (.int v101), .val (.ref b104), .val (.ref b148), .val (.int v195), .val (.ref b198), .val (.ref b213), .val (.ref b230), .val (.ref b249), .val (.ref b270), .val (.int (1 : Int32)), .val (.int v370), .val (.int v398), .val (.int (v370 + (1 : Int32))), .val (.int v409), .unset, .unset, .unset, .unset] [(.int v113), (.int (0 : Int32)), (.ref b213)])
            refine g_goto X406 hx (hb hby at_193) 200 (by decide) rfl ?_
            exact J411 T407 X406 e408 (v113) ((if_pos q187).trans rfl).symm
      · exact absurd ((hv398.symm).trans hz399.symm) q158
    · refine g_if_lt X374 hx (hb hby at_150) 157 153 (by decide) rfl rfl (fun q150 => ?_) (fun q150 => ?_)
      · refine g_iconst X374 hx (0 : Int32) rfl (hb hby at_157) 158 rfl ?_
        exact J400 T372 X374 e378 ((0 : Int32)) ((if_pos q150).trans rfl).symm
      · refine g_iconst X374 hx (1 : Int32) rfl (hb hby at_153) 154 rfl ?_
        refine g_goto X374 hx (hb hby at_154) 158 (by decide) rfl ?_
        exact J400 T372 X374 e378 ((1 : Int32)) ((if_neg q150).trans rfl).symm
  · exact absurd q124 (by decide)
set_option maxRecDepth 65536 in
set_option maxHeartbeats 40000000 in
theorem comes_1 {Post : Tables → Env → Array Value → State → Outcome → State → Prop} (hpost : ∀ tb e args s v u, (limb_1_1.after args s (.returned v) u = true ∧ limb_1_2.after args s (.returned v) u = true ∧ True) → FrameEnd s (.returned v) u (Jvm.fieldLocs frame_1_writes args s ++ Jvm.arrayLocs frame_1_arrays args s ++ Jvm.staticLocs frame_1_statics s) 32 128 → Post tb e args s (.returned v) u) :
    ArmFor flags0 classFile x code maxLocals ret World_1 tables_1 room_1 Calls_1 rest_1 Pre_1 Post := by
  intro l hfl _ _ p e ha hc hk s m args below hf hA hF happ hP
  obtain ⟨hcalls, hrest, hpre⟩ := hP
  obtain ⟨-, -, -, hnamed, -, -, -, hat⟩ := (Spec.applies_iff hf).mp happ
  obtain ⟨hg, hn⟩ := and_e (Cond.before_iff.mp (show (Jvm.Cond.and given_1 narrow_1).before args s = true from hpre))
  obtain ⟨h1, g0⟩ := and_e hg
  obtain ⟨w0, w1, rfl⟩ : ∃ w0 w1 : Value, args = #[w0, w1] := by
    have hs : args.size = 2 := by simpa [Cond.value, given_1] using h1
    obtain ⟨L⟩ := args
    match L, hs with
    | [w0, w1], _ => exact ⟨w0, w1, rfl⟩
  have hw := fun d (hd : d ∈ tables_1) => atoms_spec (ws := Jvm.Cond.code x code maxLocals ret :: tables_1) hat d (List.mem_cons_of_mem _ hd)
  have hfit : Fit s := fun {y c} hc i hi => by
    obtain ⟨ha, rfl⟩ := Array.getElem?_eq_some_iff.mp hc
    have q := List.all_eq_true.mp ((Array.all_eq_true_iff_forall_mem.mp hF) _ (Array.getElem_mem ha)) i (List.mem_range.mpr hi)
    simpa [Array.getElem?_eq_getElem hi] using q
  obtain ⟨hk_0, hg_1⟩ := and_e g0
  obtain ⟨x0, r0⟩ := is_v hk_0
  obtain rfl : w0 = (.int x0) := Option.some.inj r0
  obtain ⟨x1, r1⟩ := is_v hg_1
  obtain rfl : w1 = (.int x1) := Option.some.inj r1
  obtain ⟨n, o, h1, h2, h3, _, L, rfl, ⟨rfl, N⟩, hq⟩ := rm0 l s _ hw tables_1 x0 x1 s.heap  p e ha hc hk s m _ below hf ((Spec.applies_iff_loose hf).mp happ).1 ⟨rfl, State.Warmed39.refl s, rfl⟩ trivial
  refine ⟨n, _, h1, h2, h3, hpost _ _ _ _ _ _ ⟨Cond.after_iff.mpr rfl, Cond.after_iff.mpr (eq_i res_at (Term.int_eval (1)) rfl), trivial⟩ ⟨hq.1, hq.2.1, (hq.2.2.sift fun y hy => Or.inr (N y hy)).mono (by decide) (by decide)⟩⟩
theorem main_1_1 : Claimed_1_1 := comes_1 fun _ _ _ _ _ _ h hF => ⟨h.1, hF⟩
theorem main_1_2 : Claimed_1_2 := comes_1 fun _ _ _ _ _ _ h hF => ⟨h.2.1, hF⟩
end Jvm.Pilot.@@N@@
namespace Jvm.Pilot.@@N@@
open Jvm Jvm.ClassFile Sem Op Lib Jvm.Free Jvm.Stand Jvm.Pilot.@@N@@.Jvm.D
/-! MADE BY PROGRAM (witnessworld.py) out of the Statement's table words and the real class files: 10 classes; the members and pool entries that the words name. The judged class is class 1, her method 4. -/
namespace start1
open Jvm.ClassFile
def u (s : String) : CpInfo := .utf8 (stringToUtf16 s)
/-- a pool by its gaps: so many unusable entries, then the entry; so many at the end -/
def gap : Nat → List CpInfo → List CpInfo
  | 0, r => r
  | n + 1, r => .unusable :: gap n r
def poolList (es : List (Nat × CpInfo)) (last : Nat) : List CpInfo := es.foldr (fun e r => gap e.1 (e.2 :: r)) (gap last [])
def pool (es : List (Nat × CpInfo)) (last : Nat) : Array CpInfo := ⟨poolList es last⟩
def fileOf (pool : Array CpInfo) (this : Nat) (attrs : Array Attribute := #[]) (ms : Array MethodInfo := #[]) (fl : Nat := 33) (sup : Nat := 0) (ifs : Array Nat := #[]) (fds : Array FieldInfo := #[]) : ClassFile where
  minorVersion := 0
  majorVersion := 65
  constantPool := pool
  accessFlags := fl
  thisClass := this
  superClass := sup
  interfaces := ifs
  fields := fds
  methods := ms
  attributes := attrs
def plain (name : String) (sup : Option ClassId) : Class where
  name := name
  kind := .ordinary
  loader := none
  accessFlags := 33
  super := sup
  interfaces := #[]
  cf := none
  fields := #[]
  methods := #[]
  instanceTypes := #[]
  staticTypes := #[]
  resolved := #[]
  callSites := []
  init := .initialized
  statics := none
  mirror := none

def pool0 : Array CpInfo := pool [(5, u "<init>"), (0, u "()V"), (1, .class_ 10), (1, u "java/lang/Object")] 113

def k0c0 : Code := { maxStack := 0, maxLocals := 1, code := object_method_1_code, exceptionTable := #[], attributes := #[] }
def k0m0 : Method := { name := "<init>", desc := "()V", sig := { parameters := [], returnType := none }, accessFlags := 1, code := some k0c0 }
/-- java/lang/Object -/
def k0 : Class := { plain "java/lang/Object" none with
  accessFlags := 33
  interfaces := #[]
  cf := some (fileOf pool0 8 #[] #[{ accessFlags := 1, nameIndex := 5, descriptorIndex := 6, attributes := #[] }] 33 0 #[] #[])
  fields := #[]
  methods := #[k0m0]
  instanceTypes := #[]
  staticTypes := #[]
  resolved := Array.replicate 124 none
  statics := none }

def pool1 : Array CpInfo := pool [(2, .class_ 4), (0, .nameAndType 5 6), (0, u "java/lang/Object"), (0, u "<init>"), (0, u "()V"), (0, .methodref 8 9), (0, .class_ 10), (0, .nameAndType 11 12), (0, u "com/example/redshank/redshank/engine/Choices"), (0, u "choose"), (0, u "(I)I"), (0, .methodref 8 3), (0, .methodref 15 16), (0, .class_ 17), (0, .nameAndType 18 19), (0, u "com/example/redshank/redshank/engine/ChoicesNextPinLaw"), (0, u "run"), (0, u "(Lcom/example/redshank/redshank/engine/Choices;I[I[I)Z"), (0, .methodref 15 21), (0, .nameAndType 22 23), (0, u "lastOpen"), (0, u "([I[II)I"), (0, .methodref 8 25), (0, .nameAndType 26 27), (0, u "next"), (0, u "()Z"), (0, .methodref 29 30), (0, .class_ 31), (0, .nameAndType 32 33), (0, u "java/lang/Math"), (0, u "min"), (0, u "(II)I"), (0, .methodref 15 35), (0, .nameAndType 36 37), (0, u "stepped"), (0, u "([III)I"), (3, u "law"), (0, u "(II)Z")] 4

def k1m0 : Method := { name := "<init>", desc := "()V", sig := { parameters := [], returnType := none }, accessFlags := 1, code := none }
def k1c1 : Code := { maxStack := 3, maxLocals := 5, code := method_2_code, exceptionTable := #[], attributes := #[] }
def k1m1 : Method := { name := "run", desc := "(Lcom/example/redshank/redshank/engine/Choices;I[I[I)Z", sig := { parameters := [(.object "com/example/redshank/redshank/engine/Choices"), .int, (.array .int), (.array .int)], returnType := some .boolean }, accessFlags := 10, code := some k1c1 }
def k1c2 : Code := { maxStack := 3, maxLocals := 3, code := method_3_code, exceptionTable := #[], attributes := #[] }
def k1m2 : Method := { name := "lastOpen", desc := "([I[II)I", sig := { parameters := [(.array .int), (.array .int), .int], returnType := some .int }, accessFlags := 10, code := some k1c2 }
def k1c3 : Code := { maxStack := 2, maxLocals := 3, code := method_4_code, exceptionTable := #[], attributes := #[] }
def k1m3 : Method := { name := "stepped", desc := "([III)I", sig := { parameters := [(.array .int), .int, .int], returnType := some .int }, accessFlags := 10, code := some k1c3 }
def k1c4 : Code := { maxStack := 5, maxLocals := 20, code := code, exceptionTable := #[], attributes := #[] }
def k1m4 : Method := { name := "law", desc := "(II)Z", sig := { parameters := [.int, .int], returnType := some .boolean }, accessFlags := 9, code := some k1c4 }
/-- com/example/redshank/redshank/engine/ChoicesNextPinLaw -/
def k1 : Class := { plain "com/example/redshank/redshank/engine/ChoicesNextPinLaw" (some 0) with
  accessFlags := 49
  interfaces := #[]
  cf := some (fileOf pool1 15 #[] #[{ accessFlags := 1, nameIndex := 5, descriptorIndex := 6, attributes := #[] }, { accessFlags := 10, nameIndex := 18, descriptorIndex := 19, attributes := #[] }, { accessFlags := 10, nameIndex := 22, descriptorIndex := 23, attributes := #[] }, { accessFlags := 10, nameIndex := 36, descriptorIndex := 37, attributes := #[] }, { accessFlags := 9, nameIndex := 41, descriptorIndex := 42, attributes := #[] }] 49 2 #[] #[])
  fields := #[]
  methods := #[k1m0, k1m1, k1m2, k1m3, k1m4]
  instanceTypes := #[]
  staticTypes := #[]
  resolved := Array.replicate 47 none
  statics := none }

def pool2 : Array CpInfo := pool [(1, .methodref 2 3), (0, .class_ 4), (0, .nameAndType 5 6), (0, u "java/lang/Object"), (0, u "<init>"), (0, u "()V"), (0, .fieldref 8 9), (0, .class_ 10), (0, .nameAndType 11 12), (0, u "com/example/redshank/redshank/engine/Choices"), (0, u "taken"), (0, u "[I"), (0, .fieldref 8 14), (0, .nameAndType 15 12), (0, u "counts"), (0, .fieldref 8 17), (0, .nameAndType 18 19), (0, u "met"), (0, u "I"), (6, .fieldref 8 27), (0, .nameAndType 28 19), (0, u "kept"), (2, u "choose"), (0, u "(I)I"), (1, u "next"), (0, u "()Z")] 2

def k2c0 : Code := { maxStack := 2, maxLocals := 1, code := prog_3_method_1_code, exceptionTable := #[], attributes := #[] }
def k2m0 : Method := { name := "<init>", desc := "()V", sig := { parameters := [], returnType := none }, accessFlags := 0, code := some k2c0 }
def k2c1 : Code := { maxStack := 5, maxLocals := 2, code := prog_3_method_2_code, exceptionTable := #[], attributes := #[] }
def k2m1 : Method := { name := "choose", desc := "(I)I", sig := { parameters := [.int], returnType := some .int }, accessFlags := 0, code := some k2c1 }
def k2c2 : Code := { maxStack := 4, maxLocals := 2, code := prog_3_method_3_code, exceptionTable := #[], attributes := #[] }
def k2m2 : Method := { name := "next", desc := "()Z", sig := { parameters := [], returnType := some .boolean }, accessFlags := 0, code := some k2c2 }
/-- com/example/redshank/redshank/engine/Choices -/
def k2 : Class := { plain "com/example/redshank/redshank/engine/Choices" (some 0) with
  accessFlags := 48
  interfaces := #[]
  cf := some (fileOf pool2 8 #[] #[{ accessFlags := 0, nameIndex := 5, descriptorIndex := 6, attributes := #[] }, { accessFlags := 0, nameIndex := 31, descriptorIndex := 32, attributes := #[] }, { accessFlags := 0, nameIndex := 34, descriptorIndex := 35, attributes := #[] }] 48 2 #[] #[{ accessFlags := 2, nameIndex := 11, descriptorIndex := 12, attributes := #[] }, { accessFlags := 2, nameIndex := 15, descriptorIndex := 12, attributes := #[] }, { accessFlags := 2, nameIndex := 28, descriptorIndex := 19, attributes := #[] }, { accessFlags := 2, nameIndex := 18, descriptorIndex := 19, attributes := #[] }])
  fields := #[{ name := "taken", type := (.array .int), accessFlags := 2, slot := 0, constantValue := 0 }, { name := "counts", type := (.array .int), accessFlags := 2, slot := 1, constantValue := 0 }, { name := "kept", type := .int, accessFlags := 2, slot := 2, constantValue := 0 }, { name := "met", type := .int, accessFlags := 2, slot := 3, constantValue := 0 }]
  methods := #[k2m0, k2m1, k2m2]
  instanceTypes := #[(.array .int), (.array .int), .int, .int]
  staticTypes := #[]
  resolved := Array.replicate 38 none
  statics := none }

def pool3 : Array CpInfo := pool [(1, .class_ 2), (0, u "java/lang/Math"), (1, .class_ 6), (1, u "java/lang/Object"), (0, u "<init>"), (0, u "()V"), (89, .class_ 100), (1, u "java/lang/Math$RandomNumberGeneratorHolder"), (71, u "negativeZeroFloatBits"), (0, u "J"), (2, u "negativeZeroDoubleBits"), (24, u "min"), (43, u "$assertionsDisabled"), (0, u "Z"), (88, u "(II)I"), (2, u "twoToTheDoubleScaleDown"), (0, u "D"), (4, u "twoToTheDoubleScaleUp"), (9, u "E"), (3, u "PI"), (2, u "TAU"), (2, u "DEGREES_TO_RADIANS"), (0, u "RADIANS_TO_DEGREES")] 94

def k3m0 : Method := { name := "<init>", desc := "()V", sig := { parameters := [], returnType := none }, accessFlags := 2, code := none }
def k3c1 : Code := { maxStack := 2, maxLocals := 2, code := jdk_29_method_69_code, exceptionTable := #[], attributes := #[] }
def k3m1 : Method := { name := "min", desc := "(II)I", sig := { parameters := [.int, .int], returnType := some .int }, accessFlags := 9, code := some k3c1 }
/-- java/lang/Math -/
def k3 : Class := { plain "java/lang/Math" (some 0) with
  accessFlags := 49
  interfaces := #[]
  cf := some (fileOf pool3 1 #[.nestMembers #[98]] #[{ accessFlags := 2, nameIndex := 7, descriptorIndex := 8, attributes := #[] }, { accessFlags := 9, nameIndex := 201, descriptorIndex := 335, attributes := #[] }] 49 4 #[] #[{ accessFlags := 25, nameIndex := 354, descriptorIndex := 339, attributes := #[] }, { accessFlags := 25, nameIndex := 358, descriptorIndex := 339, attributes := #[] }, { accessFlags := 25, nameIndex := 361, descriptorIndex := 339, attributes := #[] }, { accessFlags := 26, nameIndex := 364, descriptorIndex := 339, attributes := #[] }, { accessFlags := 26, nameIndex := 365, descriptorIndex := 339, attributes := #[] }, { accessFlags := 26, nameIndex := 172, descriptorIndex := 173, attributes := #[] }, { accessFlags := 26, nameIndex := 176, descriptorIndex := 173, attributes := #[] }, { accessFlags := 8, nameIndex := 344, descriptorIndex := 339, attributes := #[] }, { accessFlags := 8, nameIndex := 338, descriptorIndex := 339, attributes := #[] }, { accessFlags := 4120, nameIndex := 245, descriptorIndex := 246, attributes := #[] }])
  fields := #[{ name := "E", type := .double, accessFlags := 25, slot := 0, constantValue := 0 }, { name := "PI", type := .double, accessFlags := 25, slot := 1, constantValue := 0 }, { name := "TAU", type := .double, accessFlags := 25, slot := 2, constantValue := 0 }, { name := "DEGREES_TO_RADIANS", type := .double, accessFlags := 26, slot := 3, constantValue := 0 }, { name := "RADIANS_TO_DEGREES", type := .double, accessFlags := 26, slot := 4, constantValue := 0 }, { name := "negativeZeroFloatBits", type := .long, accessFlags := 26, slot := 5, constantValue := 0 }, { name := "negativeZeroDoubleBits", type := .long, accessFlags := 26, slot := 6, constantValue := 0 }, { name := "twoToTheDoubleScaleUp", type := .double, accessFlags := 8, slot := 7, constantValue := 0 }, { name := "twoToTheDoubleScaleDown", type := .double, accessFlags := 8, slot := 8, constantValue := 0 }, { name := "$assertionsDisabled", type := .boolean, accessFlags := 4120, slot := 9, constantValue := 0 }]
  methods := #[k3m0, k3m1]
  instanceTypes := #[]
  staticTypes := #[.double, .double, .double, .double, .double, .long, .long, .double, .double, .boolean]
  resolved := Array.replicate 460 none
  statics := none }

def pool4 : Array CpInfo := pool [(1, u "java/lang/Cloneable"), (0, .class_ 1), (0, u "java/lang/Object"), (0, .class_ 3)] 3

/-- java/lang/Cloneable -/
def k4 : Class := { plain "java/lang/Cloneable" (some 0) with
  accessFlags := 1537
  interfaces := #[]
  cf := some (fileOf pool4 2 #[] #[] 1537 4 #[] #[])
  fields := #[]
  methods := #[]
  instanceTypes := #[]
  staticTypes := #[]
  resolved := Array.replicate 8 none
  statics := none }

def pool5 : Array CpInfo := pool [(1, u "java/io/Serializable"), (0, .class_ 1), (0, u "java/lang/Object"), (0, .class_ 3)] 3

/-- java/io/Serializable -/
def k5 : Class := { plain "java/io/Serializable" (some 0) with
  accessFlags := 1537
  interfaces := #[]
  cf := some (fileOf pool5 2 #[] #[] 1537 4 #[] #[])
  fields := #[]
  methods := #[]
  instanceTypes := #[]
  staticTypes := #[]
  resolved := Array.replicate 8 none
  statics := none }

/-- the primitive byte -/
def k6 : Class := { plain "byte" none with kind := .primitive 'B', accessFlags := 0x411 }
/-- [B -/
def k7 : Class := { plain "[B" (some 0) with kind := .array 6 .byte, interfaces := #[4, 5], accessFlags := 1041 }

/-- the primitive int -/
def k8 : Class := { plain "int" none with kind := .primitive 'I', accessFlags := 0x411 }
/-- [I -/
def k9 : Class := { plain "[I" (some 0) with kind := .array 8 .int, interfaces := #[4, 5], accessFlags := 1041 }

def heap : Heap := #[]
def classes : Array Class := #[k0, k1, k2, k3, k4, k5, k6, k7, k8, k9]
def interned : List (Array UInt16 × Addr) := []
def slotsUsed : Nat := 0
def theMethod : MethodId := ⟨1, 4⟩
def args0 : Array Value := #[.int 1, .int 2]
def aboutOver (below : List Frame) : State where
  vm := { classes := classes, interned := interned.toArray }
  heap := heap
  slotsUsed := slotsUsed
  threads := #[{ frames := .invoking theMethod args0 :: below }]
def below0 : List Frame := [.native { method := ⟨0, 0⟩, args := #[] }]
def about1 : State := aboutOver below0
def p0 : Program := .bare "" "" ""
def e0 : Env := launch0.env 0 0 0
theorem w_frames : about1.frames = Frame.invoking theMethod args0 :: below0 := rfl
set_option maxRecDepth 65536 in
theorem w_args : argsFit about1.vm theMethod args0 = true := by decide +kernel
set_option maxRecDepth 65536 in
theorem w_heap : heapFits about1 = true := by decide +kernel
set_option maxRecDepth 65536 in
theorem w_runnable : about1.curStatus? = some .runnable := by decide +kernel
set_option maxRecDepth 65536 in
theorem w_alone : about1.alone = true := by decide +kernel
set_option maxRecDepth 65536 in
theorem w_named : about1.methodNamed? x = some theMethod := by decide +kernel
set_option maxRecDepth 65536 in
theorem w_hears : about1.hears theMethod below0 = true := by decide +kernel
set_option maxRecDepth 65536 in
theorem w_ripe : about1.ripe theMethod args0 below0 = true := by decide +kernel
theorem w_running : about1.status = .running := rfl
set_option maxRecDepth 65536 in
theorem w_room : about1.hasRoom e0.platform room_1 = true :=
  launch0.hasRoom_least _ room_1 (by decide +kernel) (by decide +kernel) (by decide +kernel) (by decide +kernel) (by decide +kernel) (by decide +kernel)
theorem allAtoms_all (ts : List Jvm.Cond) (a : Array Jvm.Value) (st : Jvm.State) : (allAtoms ts).before a st = ts.all (fun c => c.before a st) := by
  induction ts with
  | nil => rfl
  | cons c t ih =>
    show (Jvm.Cond.and c (allAtoms t)).before a st = _
    rw [Jvm.Cond.before_and, ih, List.all_cons]
def words1 : List Jvm.Cond := Jvm.Cond.code x code maxLocals ret :: tables_1
/-- a 'code' word, met by the world's own term for the bytes: nothing is compared byte by byte -/
theorem code_word {y : MethodName} {bytes : ByteArray} {mx : Nat} {rt : Option FieldType} {a : Array Value} {s : State} {m : MethodId} {meth : Method} {c : Code} (h1 : s.methodNamed? y = some m) (h2 : s.vm.method? m = some meth) (h3 : meth.code = some c) (h4 : c.code = bytes)
    (h5 : (c.maxLocals == mx && c.exceptionTable.isEmpty && decide (c.maxStack ≤ mostOperands) && decide (meth.sig.returnType = rt) && !meth.locks && decide (parseMethodDescriptor y.desc = some meth.sig)) = true) : (Jvm.Cond.code y bytes mx rt).before a s = true := by
  simp only [Bool.and_eq_true, beq_iff_eq, Bool.not_eq_true', decide_eq_true_eq] at h5
  obtain ⟨⟨⟨⟨⟨g1, g2⟩, g3⟩, g4⟩, g5⟩, g6⟩ := h5
  simp [Cond.before, Cond.holds, Cond.value, h1, h2, h3, h4, g1, g2, g3, g4, g5, g6]
def isCode : Jvm.Cond → Bool
  | .code _ _ _ _ => true
  | _ => false
theorem all_split {L : List Jvm.Cond} {P : Jvm.Cond → Bool} (h1 : L.all (fun c => isCode c || P c) = true) (h2 : ∀ c ∈ L.filter isCode, P c = true) : L.all P = true := by
  refine List.all_eq_true.mpr fun c hc => ?_
  have h := List.all_eq_true.mp h1 c hc
  rcases Bool.eq_false_or_eq_true (isCode c) with hi | hi
  · exact h2 c (List.mem_filter.mpr ⟨hc, hi⟩)
  · simpa [hi] using h
set_option maxRecDepth 65536 in
theorem w_c0 : (Jvm.Cond.code x code maxLocals ret).before args0 about1 = true := code_word (m := ⟨1, 4⟩) (meth := k1m4) (c := k1c4) (by decide +kernel) rfl rfl rfl (by decide +kernel)
set_option maxRecDepth 65536 in
theorem w_c1 : (Jvm.Cond.code ({ cls := "com/example/redshank/redshank/engine/Choices", name := "<init>", desc := "()V" } : Jvm.MethodName) prog_3_method_1_code (1 : Nat) (Option.none : Option Jvm.ClassFile.FieldType)).before args0 about1 = true := code_word (m := ⟨2, 0⟩) (meth := k2m0) (c := k2c0) (by decide +kernel) rfl rfl rfl (by decide +kernel)
set_option maxRecDepth 65536 in
theorem w_c2 : (Jvm.Cond.code ({ cls := "java/lang/Object", name := "<init>", desc := "()V" } : Jvm.MethodName) object_method_1_code (1 : Nat) (Option.none : Option Jvm.ClassFile.FieldType)).before args0 about1 = true := code_word (m := ⟨0, 0⟩) (meth := k0m0) (c := k0c0) (by decide +kernel) rfl rfl rfl (by decide +kernel)
set_option maxRecDepth 65536 in
theorem w_c3 : (Jvm.Cond.code ({ cls := "com/example/redshank/redshank/engine/ChoicesNextPinLaw", name := "run", desc := "(Lcom/example/redshank/redshank/engine/Choices;I[I[I)Z" } : Jvm.MethodName) method_2_code (5 : Nat) (Option.some Jvm.ClassFile.FieldType.boolean)).before args0 about1 = true := code_word (m := ⟨1, 1⟩) (meth := k1m1) (c := k1c1) (by decide +kernel) rfl rfl rfl (by decide +kernel)
set_option maxRecDepth 65536 in
theorem w_c4 : (Jvm.Cond.code ({ cls := "com/example/redshank/redshank/engine/ChoicesNextPinLaw", name := "lastOpen", desc := "([I[II)I" } : Jvm.MethodName) method_3_code (3 : Nat) (Option.some Jvm.ClassFile.FieldType.int)).before args0 about1 = true := code_word (m := ⟨1, 2⟩) (meth := k1m2) (c := k1c2) (by decide +kernel) rfl rfl rfl (by decide +kernel)
set_option maxRecDepth 65536 in
theorem w_c5 : (Jvm.Cond.code ({ cls := "com/example/redshank/redshank/engine/Choices", name := "next", desc := "()Z" } : Jvm.MethodName) prog_3_method_3_code (2 : Nat) (Option.some Jvm.ClassFile.FieldType.boolean)).before args0 about1 = true := code_word (m := ⟨2, 2⟩) (meth := k2m2) (c := k2c2) (by decide +kernel) rfl rfl rfl (by decide +kernel)
set_option maxRecDepth 65536 in
theorem w_c6 : (Jvm.Cond.code ({ cls := "java/lang/Math", name := "min", desc := "(II)I" } : Jvm.MethodName) jdk_29_method_69_code (2 : Nat) (Option.some Jvm.ClassFile.FieldType.int)).before args0 about1 = true := code_word (m := ⟨3, 1⟩) (meth := k3m1) (c := k3c1) (by decide +kernel) rfl rfl rfl (by decide +kernel)
set_option maxRecDepth 65536 in
theorem w_c7 : (Jvm.Cond.code ({ cls := "com/example/redshank/redshank/engine/ChoicesNextPinLaw", name := "stepped", desc := "([III)I" } : Jvm.MethodName) method_4_code (3 : Nat) (Option.some Jvm.ClassFile.FieldType.int)).before args0 about1 = true := code_word (m := ⟨1, 3⟩) (meth := k1m3) (c := k1c3) (by decide +kernel) rfl rfl rfl (by decide +kernel)
set_option maxRecDepth 65536 in
theorem w_c8 : (Jvm.Cond.code ({ cls := "com/example/redshank/redshank/engine/Choices", name := "choose", desc := "(I)I" } : Jvm.MethodName) prog_3_method_2_code (2 : Nat) (Option.some Jvm.ClassFile.FieldType.int)).before args0 about1 = true := code_word (m := ⟨2, 1⟩) (meth := k2m1) (c := k2c1) (by decide +kernel) rfl rfl rfl (by decide +kernel)
def codes1 : List Jvm.Cond := [Jvm.Cond.code x code maxLocals ret, Jvm.Cond.code ({ cls := "com/example/redshank/redshank/engine/Choices", name := "<init>", desc := "()V" } : Jvm.MethodName) prog_3_method_1_code (1 : Nat) (Option.none : Option Jvm.ClassFile.FieldType), Jvm.Cond.code ({ cls := "java/lang/Object", name := "<init>", desc := "()V" } : Jvm.MethodName) object_method_1_code (1 : Nat) (Option.none : Option Jvm.ClassFile.FieldType), Jvm.Cond.code ({ cls := "com/example/redshank/redshank/engine/ChoicesNextPinLaw", name := "run", desc := "(Lcom/example/redshank/redshank/engine/Choices;I[I[I)Z" } : Jvm.MethodName) method_2_code (5 : Nat) (Option.some Jvm.ClassFile.FieldType.boolean), Jvm.Cond.code ({ cls := "com/example/redshank/redshank/engine/ChoicesNextPinLaw", name := "lastOpen", desc := "([I[II)I" } : Jvm.MethodName) method_3_code (3 : Nat) (Option.some Jvm.ClassFile.FieldType.int), Jvm.Cond.code ({ cls := "com/example/redshank/redshank/engine/Choices", name := "next", desc := "()Z" } : Jvm.MethodName) prog_3_method_3_code (2 : Nat) (Option.some Jvm.ClassFile.FieldType.boolean), Jvm.Cond.code ({ cls := "java/lang/Math", name := "min", desc := "(II)I" } : Jvm.MethodName) jdk_29_method_69_code (2 : Nat) (Option.some Jvm.ClassFile.FieldType.int), Jvm.Cond.code ({ cls := "com/example/redshank/redshank/engine/ChoicesNextPinLaw", name := "stepped", desc := "([III)I" } : Jvm.MethodName) method_4_code (3 : Nat) (Option.some Jvm.ClassFile.FieldType.int), Jvm.Cond.code ({ cls := "com/example/redshank/redshank/engine/Choices", name := "choose", desc := "(I)I" } : Jvm.MethodName) prog_3_method_2_code (2 : Nat) (Option.some Jvm.ClassFile.FieldType.int)]
set_option maxRecDepth 65536 in
theorem codes_eq : words1.filter isCode = codes1 := rfl
theorem w_codes : ∀ c ∈ words1.filter isCode, c.before args0 about1 = true := by
  rw [codes_eq]
  intro c hc
  simp only [codes1, List.mem_cons, List.not_mem_nil, or_false] at hc
  rcases hc with rfl | rfl | rfl | rfl | rfl | rfl | rfl | rfl | rfl
  · exact w_c0
  · exact w_c1
  · exact w_c2
  · exact w_c3
  · exact w_c4
  · exact w_c5
  · exact w_c6
  · exact w_c7
  · exact w_c8
set_option maxRecDepth 65536 in
theorem w_t1 : (words1.take 24).all (fun c => isCode c || c.before args0 about1) = true := by decide +kernel
set_option maxRecDepth 65536 in
theorem w_t2 : (words1.drop 24).all (fun c => isCode c || c.before args0 about1) = true := by decide +kernel
theorem w_tables : (allAtoms (Jvm.Cond.code x code maxLocals ret :: tables_1)).before args0 about1 = true := by
  rw [allAtoms_all]
  show words1.all (fun c => c.before args0 about1) = true
  refine all_split ?_ w_codes
  rw [← List.take_append_drop 24 words1, List.all_append, w_t1, w_t2]
  rfl
set_option maxRecDepth 65536 in
theorem w_case : (Jvm.Cond.and given_1 narrow_1).before args0 about1 = true := by decide +kernel
theorem w_applies : (headSpec (Jvm.Cond.code x code maxLocals ret :: tables_1) room_1).applies x e0.platform about1 = true :=
  (Spec.applies_iff w_frames).mpr ⟨w_running, w_runnable, w_alone, w_named, w_hears, w_ripe, w_room, w_tables⟩
theorem atStart : AtStart classFile x code maxLocals ret World_1 tables_1 room_1 Calls_1 rest_1 Pre_1 launch0 p0 e0 about1 theMethod args0 below0 :=
  ⟨lists_1, trivial, launch0.admits_env _ _ _, launch0.least_env, fairChoices_fair.cas, fairChoices_fair.clock, w_frames, w_args, w_heap, w_applies, trivial, trivial, w_case⟩
end start1
theorem witness_1 : WitnessClaimed_1 := ⟨start1.p0, start1.e0, start1.about1, start1.theMethod, start1.args0, start1.below0, start1.atStart⟩
end Jvm.Pilot.@@N@@
