import JvmDerived
import JvmDerived.Pilot.@@N@@Statement
import JvmDerived.Pilot.@@N@@Code
set_option linter.unusedVariables false
set_option linter.unusedSimpArgs false
namespace Jvm.Pilot.@@N@@
open Jvm Jvm.ClassFile Sem Op Lib Jvm.Free Jvm.Stand Jvm.LawKit Jvm.RoadKit Bundle Jvm.Pilot.@@N@@.Jvm.D
/-! ## the shared layer: own_Go and its laws -/
def Go (p : Program) (e : Env) (below : List Frame) (P : State → Outcome → Prop) (T : State) (g : JFrame) : Prop := ∃ t o, Steps p.tables e below (T.setTop g) t ∧ t.status = .running ∧ Ended t below o ∧ P t o
def RP (s : State) (k n : Nat) (Q : Option Value → Heap → List Loc → Prop) (t : State) (o : Outcome) : Prop := ∃ v L, o = .returned v ∧ Q v t.heap L ∧ FrameEnd s o t L k n
theorem wd {a0 : Array Value} {Z : State} (hw : ∀ d ∈ tables_1, d.before a0 Z = true) (k : Nat) {d : Jvm.Cond} (h : tables_1[k]? = some d) : d.before a0 Z = true := hw _ (List.mem_of_getElem? h)
section OwnGo
variable {p : Program} {l : Launch} {e : Env} {R : Room} {s : State} {m : MethodId} {args : Array Value} {below : List Frame} {meth : Method} {c : Code} {T : State} {locs : List Loc} {cells slots : Nat} {P : State → Outcome → Prop} {pc : Nat} {Ls : Array Slot} {st : List Value} {Z : State} {a0 : Array Value} {h : Heap}
theorem Go.stp {T' : State} {g g' : JFrame} (G : Go p e below P T' g') (k : ∀ t, Steps p.tables e below (T'.setTop g') t → Steps p.tables e below (T.setTop g) t) : Go p e below P T g := by
  obtain ⟨t, o, h, r⟩ := G
  exact ⟨t, o, k t h, r⟩
theorem Go.cast {g g' : JFrame} (q : g = g') (G : Go p e below P T g') : Go p e below P T g := q ▸ G
theorem g_iload (X : Stand p l e R s m args below meth c T locs cells slots) (hx : p.tables.exec = Jvm.exec) {k : Nat} {v : Int32} (hl : Ls[k]? = some (.val (.int v))) (hd : decode c.code pc = .ok (.iload k, 2)) (pc' : Nat) (hp : pc + 2 = pc') (G : Go p e below P T (mkF m pc' Ls (.int v :: st))) : Go p e below P T (mkF m pc Ls st) := by
  subst hp
  exact G.stp fun _ h => XS.iload X.here hx rfl hd hl h
theorem g_iloadN (X : Stand p l e R s m args below meth c T locs cells slots) (hx : p.tables.exec = Jvm.exec) {k : Fin 4} {v : Int32} (hl : Ls[k.val]? = some (.val (.int v))) (hd : decode c.code pc = .ok (.iload_n k, 1)) (pc' : Nat) (hp : pc + 1 = pc') (G : Go p e below P T (mkF m pc' Ls (.int v :: st))) : Go p e below P T (mkF m pc Ls st) := by
  subst hp
  exact G.stp fun _ h => XS.iloadN X.here hx rfl hd hl h
theorem g_istore (X : Stand p l e R s m args below meth c T locs cells slots) (hx : p.tables.exec = Jvm.exec) {k : Nat} {v : Int32} (l' : Array Slot) (hl : storeLocals Ls k (.int v) = some l') (hd : decode c.code pc = .ok (.istore k, 2)) (pc' : Nat) (hp : pc + 2 = pc') (G : Go p e below P T (mkF m pc' l' st)) : Go p e below P T (mkF m pc Ls (.int v :: st)) := by
  subst hp
  exact G.stp fun _ h => XS.istore X.here hx rfl hd rfl hl h
theorem g_istoreN (X : Stand p l e R s m args below meth c T locs cells slots) (hx : p.tables.exec = Jvm.exec) {k : Fin 4} {v : Int32} (l' : Array Slot) (hl : storeLocals Ls k.val (.int v) = some l') (hd : decode c.code pc = .ok (.istore_n k, 1)) (pc' : Nat) (hp : pc + 1 = pc') (G : Go p e below P T (mkF m pc' l' st)) : Go p e below P T (mkF m pc Ls (.int v :: st)) := by
  subst hp
  exact G.stp fun _ h => XS.istoreN X.here hx rfl hd rfl hl h
theorem g_lload (X : Stand p l e R s m args below meth c T locs cells slots) (hx : p.tables.exec = Jvm.exec) {k : Nat} {v : Int64} (hl : Ls[k]? = some (.val (.long v))) (hd : decode c.code pc = .ok (.lload k, 2)) (pc' : Nat) (hp : pc + 2 = pc') (G : Go p e below P T (mkF m pc' Ls (.long v :: st))) : Go p e below P T (mkF m pc Ls st) := by
  subst hp
  exact G.stp fun _ h => XT.lload X.here hx rfl hd hl h
theorem g_lloadN (X : Stand p l e R s m args below meth c T locs cells slots) (hx : p.tables.exec = Jvm.exec) {k : Fin 4} {v : Int64} (hl : Ls[k.val]? = some (.val (.long v))) (hd : decode c.code pc = .ok (.lload_n k, 1)) (pc' : Nat) (hp : pc + 1 = pc') (G : Go p e below P T (mkF m pc' Ls (.long v :: st))) : Go p e below P T (mkF m pc Ls st) := by
  subst hp
  exact G.stp fun _ h => XT.lloadN X.here hx rfl hd hl h
theorem g_lstore (X : Stand p l e R s m args below meth c T locs cells slots) (hx : p.tables.exec = Jvm.exec) {k : Nat} {v : Int64} (l' : Array Slot) (hl : storeLocals Ls k (.long v) = some l') (hd : decode c.code pc = .ok (.lstore k, 2)) (pc' : Nat) (hp : pc + 2 = pc') (G : Go p e below P T (mkF m pc' l' st)) : Go p e below P T (mkF m pc Ls (.long v :: st)) := by
  subst hp
  exact G.stp fun _ h => XT.lstore X.here hx rfl hd rfl hl h
theorem g_lstoreN (X : Stand p l e R s m args below meth c T locs cells slots) (hx : p.tables.exec = Jvm.exec) {k : Fin 4} {v : Int64} (l' : Array Slot) (hl : storeLocals Ls k.val (.long v) = some l') (hd : decode c.code pc = .ok (.lstore_n k, 1)) (pc' : Nat) (hp : pc + 1 = pc') (G : Go p e below P T (mkF m pc' l' st)) : Go p e below P T (mkF m pc Ls (.long v :: st)) := by
  subst hp
  exact G.stp fun _ h => XT.lstoreN X.here hx rfl hd rfl hl h
theorem g_aload (X : Stand p l e R s m args below meth c T locs cells slots) (hx : p.tables.exec = Jvm.exec) {k : Nat} {v : Value} (hl : Ls[k]? = some (.val v)) (hv : v.isRef = true) (hd : decode c.code pc = .ok (.aload k, 2)) (pc' : Nat) (hp : pc + 2 = pc') (G : Go p e below P T (mkF m pc' Ls (v :: st))) : Go p e below P T (mkF m pc Ls st) := by
  subst hp
  exact G.stp fun _ h => XS.aload X.here hx rfl hd hl hv h
theorem g_aloadN (X : Stand p l e R s m args below meth c T locs cells slots) (hx : p.tables.exec = Jvm.exec) {k : Fin 4} {v : Value} (hl : Ls[k.val]? = some (.val v)) (hv : v.isRef = true) (hd : decode c.code pc = .ok (.aload_n k, 1)) (pc' : Nat) (hp : pc + 1 = pc') (G : Go p e below P T (mkF m pc' Ls (v :: st))) : Go p e below P T (mkF m pc Ls st) := by
  subst hp
  exact G.stp fun _ h => XS.aloadN X.here hx rfl hd hl hv h
theorem g_astore (X : Stand p l e R s m args below meth c T locs cells slots) (hx : p.tables.exec = Jvm.exec) {k : Nat} {v : Value} (l' : Array Slot) (hv : v.isRef = true) (hl : storeLocals Ls k v = some l') (hd : decode c.code pc = .ok (.astore k, 2)) (pc' : Nat) (hp : pc + 2 = pc') (G : Go p e below P T (mkF m pc' l' st)) : Go p e below P T (mkF m pc Ls (v :: st)) := by
  subst hp
  exact G.stp fun _ h => XS.astore X.here hx rfl hd rfl hv hl h
theorem g_astoreN (X : Stand p l e R s m args below meth c T locs cells slots) (hx : p.tables.exec = Jvm.exec) {k : Fin 4} {v : Value} (l' : Array Slot) (hv : v.isRef = true) (hl : storeLocals Ls k.val v = some l') (hd : decode c.code pc = .ok (.astore_n k, 1)) (pc' : Nat) (hp : pc + 1 = pc') (G : Go p e below P T (mkF m pc' l' st)) : Go p e below P T (mkF m pc Ls (v :: st)) := by
  subst hp
  exact G.stp fun _ h => XS.astoreN X.here hx rfl hd rfl hv hl h
theorem g_iconst (X : Stand p l e R s m args below meth c T locs cells slots) (hx : p.tables.exec = Jvm.exec) {i : Int} (v : Int32) (hv : Int32.ofInt i = v) (hd : decode c.code pc = .ok (.iconst i, 1)) (pc' : Nat) (hp : pc + 1 = pc') (G : Go p e below P T (mkF m pc' Ls (.int v :: st))) : Go p e below P T (mkF m pc Ls st) := by
  subst hp
  exact G.stp fun _ h => XT.iconstV X.here hx rfl v hd hv h
theorem g_bipush (X : Stand p l e R s m args below meth c T locs cells slots) (hx : p.tables.exec = Jvm.exec) {i : Int} (v : Int32) (hv : (Int8.ofInt i).toInt32 = v) (hd : decode c.code pc = .ok (.bipush i, 2)) (pc' : Nat) (hp : pc + 2 = pc') (G : Go p e below P T (mkF m pc' Ls (.int v :: st))) : Go p e below P T (mkF m pc Ls st) := by
  subst hp
  exact G.stp fun _ h => XT.bipushV X.here hx rfl v hd hv h
theorem g_sipush (X : Stand p l e R s m args below meth c T locs cells slots) (hx : p.tables.exec = Jvm.exec) {i : Int} (v : Int32) (hv : (Int16.ofInt i).toInt32 = v) (hd : decode c.code pc = .ok (.sipush i, 3)) (pc' : Nat) (hp : pc + 3 = pc') (G : Go p e below P T (mkF m pc' Ls (.int v :: st))) : Go p e below P T (mkF m pc Ls st) := by
  subst hp
  exact G.stp fun _ h => XT.sipushV X.here hx rfl v hd hv h
theorem g_lconst (X : Stand p l e R s m args below meth c T locs cells slots) (hx : p.tables.exec = Jvm.exec) {i : Fin 2} (v : Int64) (hv : Int64.ofNat i = v) (hd : decode c.code pc = .ok (.lconst i, 1)) (pc' : Nat) (hp : pc + 1 = pc') (G : Go p e below P T (mkF m pc' Ls (.long v :: st))) : Go p e below P T (mkF m pc Ls st) := by
  subst hp
  exact G.stp fun _ h => XT.lconstV X.here hx rfl v hd hv h
theorem g_aconst_null (X : Stand p l e R s m args below meth c T locs cells slots) (hx : p.tables.exec = Jvm.exec)  (hd : decode c.code pc = .ok (.aconst_null, 1)) (pc' : Nat) (hp : pc + 1 = pc') (G : Go p e below P T (mkF m pc' Ls (.null :: st))) : Go p e below P T (mkF m pc Ls st) := by
  subst hp
  exact G.stp fun _ h => XS.aconstNull X.here hx rfl hd h
theorem g_iadd (X : Stand p l e R s m args below meth c T locs cells slots) (hx : p.tables.exec = Jvm.exec) {x y : Int32} (hd : decode c.code pc = .ok (.iadd, 1)) (pc' : Nat) (hp : pc + 1 = pc') (G : Go p e below P T (mkF m pc' Ls (.int (x + y) :: st))) : Go p e below P T (mkF m pc Ls (.int y :: .int x :: st)) := by
  subst hp
  exact G.stp fun _ h => XS.iadd X.here hx rfl hd rfl h
theorem g_ladd (X : Stand p l e R s m args below meth c T locs cells slots) (hx : p.tables.exec = Jvm.exec) {x y : Int64} (hd : decode c.code pc = .ok (.ladd, 1)) (pc' : Nat) (hp : pc + 1 = pc') (G : Go p e below P T (mkF m pc' Ls (.long (x + y) :: st))) : Go p e below P T (mkF m pc Ls (.long y :: .long x :: st)) := by
  subst hp
  exact G.stp fun _ h => XT.ladd X.here hx rfl hd rfl h
theorem g_isub (X : Stand p l e R s m args below meth c T locs cells slots) (hx : p.tables.exec = Jvm.exec) {x y : Int32} (hd : decode c.code pc = .ok (.isub, 1)) (pc' : Nat) (hp : pc + 1 = pc') (G : Go p e below P T (mkF m pc' Ls (.int (x - y) :: st))) : Go p e below P T (mkF m pc Ls (.int y :: .int x :: st)) := by
  subst hp
  exact G.stp fun _ h => XS.isub X.here hx rfl hd rfl h
theorem g_lsub (X : Stand p l e R s m args below meth c T locs cells slots) (hx : p.tables.exec = Jvm.exec) {x y : Int64} (hd : decode c.code pc = .ok (.lsub, 1)) (pc' : Nat) (hp : pc + 1 = pc') (G : Go p e below P T (mkF m pc' Ls (.long (x - y) :: st))) : Go p e below P T (mkF m pc Ls (.long y :: .long x :: st)) := by
  subst hp
  exact G.stp fun _ h => XT.lsub X.here hx rfl hd rfl h
theorem g_imul (X : Stand p l e R s m args below meth c T locs cells slots) (hx : p.tables.exec = Jvm.exec) {x y : Int32} (hd : decode c.code pc = .ok (.imul, 1)) (pc' : Nat) (hp : pc + 1 = pc') (G : Go p e below P T (mkF m pc' Ls (.int (x * y) :: st))) : Go p e below P T (mkF m pc Ls (.int y :: .int x :: st)) := by
  subst hp
  exact G.stp fun _ h => XS.imul X.here hx rfl hd rfl h
theorem g_lmul (X : Stand p l e R s m args below meth c T locs cells slots) (hx : p.tables.exec = Jvm.exec) {x y : Int64} (hd : decode c.code pc = .ok (.lmul, 1)) (pc' : Nat) (hp : pc + 1 = pc') (G : Go p e below P T (mkF m pc' Ls (.long (x * y) :: st))) : Go p e below P T (mkF m pc Ls (.long y :: .long x :: st)) := by
  subst hp
  exact G.stp fun _ h => XT.lmul X.here hx rfl hd rfl h
theorem g_iand (X : Stand p l e R s m args below meth c T locs cells slots) (hx : p.tables.exec = Jvm.exec) {x y : Int32} (hd : decode c.code pc = .ok (.iand, 1)) (pc' : Nat) (hp : pc + 1 = pc') (G : Go p e below P T (mkF m pc' Ls (.int (x &&& y) :: st))) : Go p e below P T (mkF m pc Ls (.int y :: .int x :: st)) := by
  subst hp
  exact G.stp fun _ h => XS.iand X.here hx rfl hd rfl h
theorem g_land (X : Stand p l e R s m args below meth c T locs cells slots) (hx : p.tables.exec = Jvm.exec) {x y : Int64} (hd : decode c.code pc = .ok (.land, 1)) (pc' : Nat) (hp : pc + 1 = pc') (G : Go p e below P T (mkF m pc' Ls (.long (x &&& y) :: st))) : Go p e below P T (mkF m pc Ls (.long y :: .long x :: st)) := by
  subst hp
  exact G.stp fun _ h => XT.land X.here hx rfl hd rfl h
theorem g_ior (X : Stand p l e R s m args below meth c T locs cells slots) (hx : p.tables.exec = Jvm.exec) {x y : Int32} (hd : decode c.code pc = .ok (.ior, 1)) (pc' : Nat) (hp : pc + 1 = pc') (G : Go p e below P T (mkF m pc' Ls (.int (x ||| y) :: st))) : Go p e below P T (mkF m pc Ls (.int y :: .int x :: st)) := by
  subst hp
  exact G.stp fun _ h => XT.ior X.here hx rfl hd rfl h
theorem g_lor (X : Stand p l e R s m args below meth c T locs cells slots) (hx : p.tables.exec = Jvm.exec) {x y : Int64} (hd : decode c.code pc = .ok (.lor, 1)) (pc' : Nat) (hp : pc + 1 = pc') (G : Go p e below P T (mkF m pc' Ls (.long (x ||| y) :: st))) : Go p e below P T (mkF m pc Ls (.long y :: .long x :: st)) := by
  subst hp
  exact G.stp fun _ h => XT.lor X.here hx rfl hd rfl h
theorem g_ixor (X : Stand p l e R s m args below meth c T locs cells slots) (hx : p.tables.exec = Jvm.exec) {x y : Int32} (hd : decode c.code pc = .ok (.ixor, 1)) (pc' : Nat) (hp : pc + 1 = pc') (G : Go p e below P T (mkF m pc' Ls (.int (x ^^^ y) :: st))) : Go p e below P T (mkF m pc Ls (.int y :: .int x :: st)) := by
  subst hp
  exact G.stp fun _ h => XT.ixor X.here hx rfl hd rfl h
theorem g_lxor (X : Stand p l e R s m args below meth c T locs cells slots) (hx : p.tables.exec = Jvm.exec) {x y : Int64} (hd : decode c.code pc = .ok (.lxor, 1)) (pc' : Nat) (hp : pc + 1 = pc') (G : Go p e below P T (mkF m pc' Ls (.long (x ^^^ y) :: st))) : Go p e below P T (mkF m pc Ls (.long y :: .long x :: st)) := by
  subst hp
  exact G.stp fun _ h => XT.lxor X.here hx rfl hd rfl h
theorem g_idiv (X : Stand p l e R s m args below meth c T locs cells slots) (hx : p.tables.exec = Jvm.exec) {x y : Int32} (hy : y ≠ 0) (hd : decode c.code pc = .ok (.idiv, 1)) (pc' : Nat) (hp : pc + 1 = pc') (G : Go p e below P T (mkF m pc' Ls (.int (x / y) :: st))) : Go p e below P T (mkF m pc Ls (.int y :: .int x :: st)) := by
  subst hp
  exact G.stp fun _ h => XS.idiv X.here hx rfl hd rfl hy h
theorem g_irem (X : Stand p l e R s m args below meth c T locs cells slots) (hx : p.tables.exec = Jvm.exec) {x y : Int32} (hy : y ≠ 0) (hd : decode c.code pc = .ok (.irem, 1)) (pc' : Nat) (hp : pc + 1 = pc') (G : Go p e below P T (mkF m pc' Ls (.int (x % y) :: st))) : Go p e below P T (mkF m pc Ls (.int y :: .int x :: st)) := by
  subst hp
  exact G.stp fun _ h => iremM X hx rfl hd rfl hy h
theorem g_ldiv (X : Stand p l e R s m args below meth c T locs cells slots) (hx : p.tables.exec = Jvm.exec) {x y : Int64} (hy : y ≠ 0) (hd : decode c.code pc = .ok (.ldiv, 1)) (pc' : Nat) (hp : pc + 1 = pc') (G : Go p e below P T (mkF m pc' Ls (.long (x / y) :: st))) : Go p e below P T (mkF m pc Ls (.long y :: .long x :: st)) := by
  subst hp
  exact G.stp fun _ h => XT.ldiv X.here hx rfl hd rfl hy h
theorem g_lrem (X : Stand p l e R s m args below meth c T locs cells slots) (hx : p.tables.exec = Jvm.exec) {x y : Int64} (hy : y ≠ 0) (hd : decode c.code pc = .ok (.lrem, 1)) (pc' : Nat) (hp : pc + 1 = pc') (G : Go p e below P T (mkF m pc' Ls (.long (x % y) :: st))) : Go p e below P T (mkF m pc Ls (.long y :: .long x :: st)) := by
  subst hp
  rw [← lrem_mod] at G
  exact G.stp fun _ h => XT.lrem X.here hx rfl hd rfl hy h
theorem g_ishl (X : Stand p l e R s m args below meth c T locs cells slots) (hx : p.tables.exec = Jvm.exec) {x y : Int32} (hd : decode c.code pc = .ok (.ishl, 1)) (pc' : Nat) (hp : pc + 1 = pc') (G : Go p e below P T (mkF m pc' Ls (.int (x <<< (y &&& 31)) :: st))) : Go p e below P T (mkF m pc Ls (.int y :: .int x :: st)) := by
  subst hp
  exact G.stp fun _ h => XT.ishl X.here hx rfl hd rfl h
theorem g_ishr (X : Stand p l e R s m args below meth c T locs cells slots) (hx : p.tables.exec = Jvm.exec) {x y : Int32} (hd : decode c.code pc = .ok (.ishr, 1)) (pc' : Nat) (hp : pc + 1 = pc') (G : Go p e below P T (mkF m pc' Ls (.int (x >>> (y &&& 31)) :: st))) : Go p e below P T (mkF m pc Ls (.int y :: .int x :: st)) := by
  subst hp
  exact G.stp fun _ h => XT.ishr X.here hx rfl hd rfl h
theorem g_iushr (X : Stand p l e R s m args below meth c T locs cells slots) (hx : p.tables.exec = Jvm.exec) {x y : Int32} (hd : decode c.code pc = .ok (.iushr, 1)) (pc' : Nat) (hp : pc + 1 = pc') (G : Go p e below P T (mkF m pc' Ls (.int (XT.ushr x y) :: st))) : Go p e below P T (mkF m pc Ls (.int y :: .int x :: st)) := by
  subst hp
  exact G.stp fun _ h => XT.iushr X.here hx rfl hd rfl h
theorem g_lshl (X : Stand p l e R s m args below meth c T locs cells slots) (hx : p.tables.exec = Jvm.exec) {x : Int64} {y : Int32} (hd : decode c.code pc = .ok (.lshl, 1)) (pc' : Nat) (hp : pc + 1 = pc') (G : Go p e below P T (mkF m pc' Ls (.long (x <<< (y &&& 0x3f).toInt64) :: st))) : Go p e below P T (mkF m pc Ls (.int y :: .long x :: st)) := by
  subst hp
  exact G.stp fun _ h => XS.lshl X.here hx rfl hd rfl h
theorem g_lshr (X : Stand p l e R s m args below meth c T locs cells slots) (hx : p.tables.exec = Jvm.exec) {x : Int64} {y : Int32} (hd : decode c.code pc = .ok (.lshr, 1)) (pc' : Nat) (hp : pc + 1 = pc') (G : Go p e below P T (mkF m pc' Ls (.long (x >>> (y &&& 0x3f).toInt64) :: st))) : Go p e below P T (mkF m pc Ls (.int y :: .long x :: st)) := by
  subst hp
  exact G.stp fun _ h => XS.lshr X.here hx rfl hd rfl h
theorem g_lushr (X : Stand p l e R s m args below meth c T locs cells slots) (hx : p.tables.exec = Jvm.exec) {x : Int64} {y : Int32} (hd : decode c.code pc = .ok (.lushr, 1)) (pc' : Nat) (hp : pc + 1 = pc') (G : Go p e below P T (mkF m pc' Ls (.long (XT.ushrL x y) :: st))) : Go p e below P T (mkF m pc Ls (.int y :: .long x :: st)) := by
  subst hp
  exact G.stp fun _ h => XT.lushr X.here hx rfl hd rfl h
theorem g_ineg (X : Stand p l e R s m args below meth c T locs cells slots) (hx : p.tables.exec = Jvm.exec) {x : Int32} (hd : decode c.code pc = .ok (.ineg, 1)) (pc' : Nat) (hp : pc + 1 = pc') (G : Go p e below P T (mkF m pc' Ls (.int (-x) :: st))) : Go p e below P T (mkF m pc Ls (.int x :: st)) := by
  subst hp
  exact G.stp fun _ h => XS.ineg X.here hx rfl hd rfl h
theorem g_i2l (X : Stand p l e R s m args below meth c T locs cells slots) (hx : p.tables.exec = Jvm.exec) {x : Int32} (hd : decode c.code pc = .ok (.i2l, 1)) (pc' : Nat) (hp : pc + 1 = pc') (G : Go p e below P T (mkF m pc' Ls (.long x.toInt64 :: st))) : Go p e below P T (mkF m pc Ls (.int x :: st)) := by
  subst hp
  exact G.stp fun _ h => XT.i2l X.here hx rfl hd rfl h
theorem g_l2i (X : Stand p l e R s m args below meth c T locs cells slots) (hx : p.tables.exec = Jvm.exec) {x : Int64} (hd : decode c.code pc = .ok (.l2i, 1)) (pc' : Nat) (hp : pc + 1 = pc') (G : Go p e below P T (mkF m pc' Ls (.int x.toInt32 :: st))) : Go p e below P T (mkF m pc Ls (.long x :: st)) := by
  subst hp
  exact G.stp fun _ h => XT.l2i X.here hx rfl hd rfl h
theorem g_i2b (X : Stand p l e R s m args below meth c T locs cells slots) (hx : p.tables.exec = Jvm.exec) {x : Int32} (hd : decode c.code pc = .ok (.i2b, 1)) (pc' : Nat) (hp : pc + 1 = pc') (G : Go p e below P T (mkF m pc' Ls (.int x.toInt8.toInt32 :: st))) : Go p e below P T (mkF m pc Ls (.int x :: st)) := by
  subst hp
  exact G.stp fun _ h => XT.i2b X.here hx rfl hd rfl h
theorem g_i2s (X : Stand p l e R s m args below meth c T locs cells slots) (hx : p.tables.exec = Jvm.exec) {x : Int32} (hd : decode c.code pc = .ok (.i2s, 1)) (pc' : Nat) (hp : pc + 1 = pc') (G : Go p e below P T (mkF m pc' Ls (.int x.toInt16.toInt32 :: st))) : Go p e below P T (mkF m pc Ls (.int x :: st)) := by
  subst hp
  exact G.stp fun _ h => XT.i2s X.here hx rfl hd rfl h
theorem g_i2c (X : Stand p l e R s m args below meth c T locs cells slots) (hx : p.tables.exec = Jvm.exec) {x : Int32} (hd : decode c.code pc = .ok (.i2c, 1)) (pc' : Nat) (hp : pc + 1 = pc') (G : Go p e below P T (mkF m pc' Ls (.int x.toUInt32.toUInt16.toUInt32.toInt32 :: st))) : Go p e below P T (mkF m pc Ls (.int x :: st)) := by
  subst hp
  exact G.stp fun _ h => XT.i2c X.here hx rfl hd rfl h
theorem g_pop (X : Stand p l e R s m args below meth c T locs cells slots) (hx : p.tables.exec = Jvm.exec) {x : Value} (hc : x.category = 1) (hd : decode c.code pc = .ok (.pop, 1)) (pc' : Nat) (hp : pc + 1 = pc') (G : Go p e below P T (mkF m pc' Ls st)) : Go p e below P T (mkF m pc Ls (x :: st)) := by
  subst hp
  exact G.stp fun _ h => XT.pop X.here hx rfl hd rfl hc h
theorem g_dup (X : Stand p l e R s m args below meth c T locs cells slots) (hx : p.tables.exec = Jvm.exec) {x : Value} (hc : x.category = 1) (hd : decode c.code pc = .ok (.dup, 1)) (pc' : Nat) (hp : pc + 1 = pc') (G : Go p e below P T (mkF m pc' Ls (x :: x :: st))) : Go p e below P T (mkF m pc Ls (x :: st)) := by
  subst hp
  exact G.stp fun _ h => XS.dup X.here hx rfl hd rfl hc h
theorem g_dup_x1 (X : Stand p l e R s m args below meth c T locs cells slots) (hx : p.tables.exec = Jvm.exec) {x y : Value} (hc : x.category = 1) (hc' : y.category = 1) (hd : decode c.code pc = .ok (.dup_x1, 1)) (pc' : Nat) (hp : pc + 1 = pc') (G : Go p e below P T (mkF m pc' Ls (x :: y :: x :: st))) : Go p e below P T (mkF m pc Ls (x :: y :: st)) := by
  subst hp
  exact G.stp fun _ h => XT.dupX1 X.here hx rfl hd rfl hc hc' h
theorem g_dup2 (X : Stand p l e R s m args below meth c T locs cells slots) (hx : p.tables.exec = Jvm.exec) {x y : Value} (hc : x.category = 1) (hc' : y.category = 1) (hd : decode c.code pc = .ok (.dup2, 1)) (pc' : Nat) (hp : pc + 1 = pc') (G : Go p e below P T (mkF m pc' Ls (x :: y :: x :: y :: st))) : Go p e below P T (mkF m pc Ls (x :: y :: st)) := by
  subst hp
  exact G.stp fun _ h => XT.dup2 X.here hx rfl hd rfl hc hc' h
theorem g_iinc (X : Stand p l e R s m args below meth c T locs cells slots) (hx : p.tables.exec = Jvm.exec) {k : Nat} {cst : Int} {x : Int32} (v : Int32) (hv : Int32.ofInt cst = v) (hl : Ls[k]? = some (.val (.int x))) (l' : Array Slot) (hl' : storeLocals Ls k (.int (x + v)) = some l') (hd : decode c.code pc = .ok (.iinc k cst, 3)) (pc' : Nat) (hp : pc + 3 = pc') (G : Go p e below P T (mkF m pc' l' st)) : Go p e below P T (mkF m pc Ls st) := by
  subst hp
  exact G.stp fun _ h => XT.iincV X.here hx rfl v hd hv hl hl' h
theorem g_goto (X : Stand p l e R s m args below meth c T locs cells slots) (hx : p.tables.exec = Jvm.exec) {o : Int} (hd : decode c.code pc = .ok (.goto o, 3)) (pc' : Nat) (ho : 0 ≤ (pc : Int) + o) (hp : ((pc : Int) + o).toNat = pc') (G : Go p e below P T (mkF m pc' Ls st)) : Go p e below P T (mkF m pc Ls st) := by
  exact G.stp fun _ h => XS.goto X.here hx rfl rfl hd ho hp h
theorem g_icmp_eq (X : Stand p l e R s m args below meth c T locs cells slots) (hx : p.tables.exec = Jvm.exec) {x y : Int32} {o : Int} (hd : decode c.code pc = .ok (.if_icmp .eq o, 3)) (pcT pcF : Nat) (ho : 0 ≤ (pc : Int) + o) (hT : ((pc : Int) + o).toNat = pcT) (hF : pc + 3 = pcF) (G1 : x = y → Go p e below P T (mkF m pcT Ls st)) (G2 : ¬ x = y → Go p e below P T (mkF m pcF Ls st)) : Go p e below P T (mkF m pc Ls (.int y :: .int x :: st)) := by
  by_cases q : x = y
  · exact (G1 q).stp fun _ h => XS.icmpYes X.here hx rfl rfl hd rfl (XT.ii_eq_t q) ho hT h
  · subst hF
    exact (G2 q).stp fun _ h => XS.icmpNo X.here hx rfl hd rfl (XT.ii_eq_f q) h
theorem g_if_eq (X : Stand p l e R s m args below meth c T locs cells slots) (hx : p.tables.exec = Jvm.exec) {x : Int32} {o : Int} (hd : decode c.code pc = .ok (.ifCond .eq o, 3)) (pcT pcF : Nat) (ho : 0 ≤ (pc : Int) + o) (hT : ((pc : Int) + o).toNat = pcT) (hF : pc + 3 = pcF) (G1 : x = 0 → Go p e below P T (mkF m pcT Ls st)) (G2 : ¬ x = 0 → Go p e below P T (mkF m pcF Ls st)) : Go p e below P T (mkF m pc Ls (.int x :: st)) := by
  by_cases q : x = 0
  · exact (G1 q).stp fun _ h => XS.ifYes X.here hx rfl rfl hd rfl (XT.i0_eq_t q) ho hT h
  · subst hF
    exact (G2 q).stp fun _ h => XS.ifNo X.here hx rfl hd rfl (XT.i0_eq_f q) h
theorem g_lif_eq (X : Stand p l e R s m args below meth c T locs cells slots) (hx : p.tables.exec = Jvm.exec) {x y : Int64} {o : Int} (hd0 : decode c.code pc = .ok (.lcmp, 1)) (pc1 : Nat) (hp1 : pc + 1 = pc1) (hd : decode c.code pc1 = .ok (.ifCond .eq o, 3)) (pcT pcF : Nat) (ho : 0 ≤ (pc1 : Int) + o) (hT : ((pc1 : Int) + o).toNat = pcT) (hF : pc1 + 3 = pcF) (G1 : x = y → Go p e below P T (mkF m pcT Ls st)) (G2 : ¬ x = y → Go p e below P T (mkF m pcF Ls st)) : Go p e below P T (mkF m pc Ls (.long y :: .long x :: st)) := by
  subst hp1
  by_cases q : x = y
  · exact (G1 q).stp fun _ h => XT.lcmp X.here hx rfl hd0 rfl (XS.ifYes X.here hx rfl rfl hd rfl (XT.ll_eq_t q) ho hT h)
  · subst hF
    exact (G2 q).stp fun _ h => XT.lcmp X.here hx rfl hd0 rfl (XS.ifNo X.here hx rfl hd rfl (XT.ll_eq_f q) h)
theorem g_icmp_ne (X : Stand p l e R s m args below meth c T locs cells slots) (hx : p.tables.exec = Jvm.exec) {x y : Int32} {o : Int} (hd : decode c.code pc = .ok (.if_icmp .ne o, 3)) (pcT pcF : Nat) (ho : 0 ≤ (pc : Int) + o) (hT : ((pc : Int) + o).toNat = pcT) (hF : pc + 3 = pcF) (G1 : ¬ x = y → Go p e below P T (mkF m pcT Ls st)) (G2 : x = y → Go p e below P T (mkF m pcF Ls st)) : Go p e below P T (mkF m pc Ls (.int y :: .int x :: st)) := by
  by_cases q : ¬ x = y
  · exact (G1 q).stp fun _ h => XS.icmpYes X.here hx rfl rfl hd rfl (XT.ii_ne_t q) ho hT h
  · subst hF
    exact (G2 (Classical.not_not.mp q)).stp fun _ h => XS.icmpNo X.here hx rfl hd rfl (XT.ii_ne_f (Classical.not_not.mp q)) h
theorem g_if_ne (X : Stand p l e R s m args below meth c T locs cells slots) (hx : p.tables.exec = Jvm.exec) {x : Int32} {o : Int} (hd : decode c.code pc = .ok (.ifCond .ne o, 3)) (pcT pcF : Nat) (ho : 0 ≤ (pc : Int) + o) (hT : ((pc : Int) + o).toNat = pcT) (hF : pc + 3 = pcF) (G1 : ¬ x = 0 → Go p e below P T (mkF m pcT Ls st)) (G2 : x = 0 → Go p e below P T (mkF m pcF Ls st)) : Go p e below P T (mkF m pc Ls (.int x :: st)) := by
  by_cases q : ¬ x = 0
  · exact (G1 q).stp fun _ h => XS.ifYes X.here hx rfl rfl hd rfl (XT.i0_ne_t q) ho hT h
  · subst hF
    exact (G2 (Classical.not_not.mp q)).stp fun _ h => XS.ifNo X.here hx rfl hd rfl (XT.i0_ne_f (Classical.not_not.mp q)) h
theorem g_lif_ne (X : Stand p l e R s m args below meth c T locs cells slots) (hx : p.tables.exec = Jvm.exec) {x y : Int64} {o : Int} (hd0 : decode c.code pc = .ok (.lcmp, 1)) (pc1 : Nat) (hp1 : pc + 1 = pc1) (hd : decode c.code pc1 = .ok (.ifCond .ne o, 3)) (pcT pcF : Nat) (ho : 0 ≤ (pc1 : Int) + o) (hT : ((pc1 : Int) + o).toNat = pcT) (hF : pc1 + 3 = pcF) (G1 : ¬ x = y → Go p e below P T (mkF m pcT Ls st)) (G2 : x = y → Go p e below P T (mkF m pcF Ls st)) : Go p e below P T (mkF m pc Ls (.long y :: .long x :: st)) := by
  subst hp1
  by_cases q : ¬ x = y
  · exact (G1 q).stp fun _ h => XT.lcmp X.here hx rfl hd0 rfl (XS.ifYes X.here hx rfl rfl hd rfl (XT.ll_ne_t q) ho hT h)
  · subst hF
    exact (G2 (Classical.not_not.mp q)).stp fun _ h => XT.lcmp X.here hx rfl hd0 rfl (XS.ifNo X.here hx rfl hd rfl (XT.ll_ne_f (Classical.not_not.mp q)) h)
theorem g_icmp_lt (X : Stand p l e R s m args below meth c T locs cells slots) (hx : p.tables.exec = Jvm.exec) {x y : Int32} {o : Int} (hd : decode c.code pc = .ok (.if_icmp .lt o, 3)) (pcT pcF : Nat) (ho : 0 ≤ (pc : Int) + o) (hT : ((pc : Int) + o).toNat = pcT) (hF : pc + 3 = pcF) (G1 : x < y → Go p e below P T (mkF m pcT Ls st)) (G2 : ¬ x < y → Go p e below P T (mkF m pcF Ls st)) : Go p e below P T (mkF m pc Ls (.int y :: .int x :: st)) := by
  by_cases q : x < y
  · exact (G1 q).stp fun _ h => XS.icmpYes X.here hx rfl rfl hd rfl (XT.ii_lt_t q) ho hT h
  · subst hF
    exact (G2 q).stp fun _ h => XS.icmpNo X.here hx rfl hd rfl (XT.ii_lt_f q) h
theorem g_if_lt (X : Stand p l e R s m args below meth c T locs cells slots) (hx : p.tables.exec = Jvm.exec) {x : Int32} {o : Int} (hd : decode c.code pc = .ok (.ifCond .lt o, 3)) (pcT pcF : Nat) (ho : 0 ≤ (pc : Int) + o) (hT : ((pc : Int) + o).toNat = pcT) (hF : pc + 3 = pcF) (G1 : x < 0 → Go p e below P T (mkF m pcT Ls st)) (G2 : ¬ x < 0 → Go p e below P T (mkF m pcF Ls st)) : Go p e below P T (mkF m pc Ls (.int x :: st)) := by
  by_cases q : x < 0
  · exact (G1 q).stp fun _ h => XS.ifYes X.here hx rfl rfl hd rfl (XT.i0_lt_t q) ho hT h
  · subst hF
    exact (G2 q).stp fun _ h => XS.ifNo X.here hx rfl hd rfl (XT.i0_lt_f q) h
theorem g_lif_lt (X : Stand p l e R s m args below meth c T locs cells slots) (hx : p.tables.exec = Jvm.exec) {x y : Int64} {o : Int} (hd0 : decode c.code pc = .ok (.lcmp, 1)) (pc1 : Nat) (hp1 : pc + 1 = pc1) (hd : decode c.code pc1 = .ok (.ifCond .lt o, 3)) (pcT pcF : Nat) (ho : 0 ≤ (pc1 : Int) + o) (hT : ((pc1 : Int) + o).toNat = pcT) (hF : pc1 + 3 = pcF) (G1 : x < y → Go p e below P T (mkF m pcT Ls st)) (G2 : ¬ x < y → Go p e below P T (mkF m pcF Ls st)) : Go p e below P T (mkF m pc Ls (.long y :: .long x :: st)) := by
  subst hp1
  by_cases q : x < y
  · exact (G1 q).stp fun _ h => XT.lcmp X.here hx rfl hd0 rfl (XS.ifYes X.here hx rfl rfl hd rfl (XT.ll_lt_t q) ho hT h)
  · subst hF
    exact (G2 q).stp fun _ h => XT.lcmp X.here hx rfl hd0 rfl (XS.ifNo X.here hx rfl hd rfl (XT.ll_lt_f q) h)
theorem g_icmp_ge (X : Stand p l e R s m args below meth c T locs cells slots) (hx : p.tables.exec = Jvm.exec) {x y : Int32} {o : Int} (hd : decode c.code pc = .ok (.if_icmp .ge o, 3)) (pcT pcF : Nat) (ho : 0 ≤ (pc : Int) + o) (hT : ((pc : Int) + o).toNat = pcT) (hF : pc + 3 = pcF) (G1 : ¬ x < y → Go p e below P T (mkF m pcT Ls st)) (G2 : x < y → Go p e below P T (mkF m pcF Ls st)) : Go p e below P T (mkF m pc Ls (.int y :: .int x :: st)) := by
  by_cases q : ¬ x < y
  · exact (G1 q).stp fun _ h => XS.icmpYes X.here hx rfl rfl hd rfl (XT.ii_ge_t q) ho hT h
  · subst hF
    exact (G2 (Classical.not_not.mp q)).stp fun _ h => XS.icmpNo X.here hx rfl hd rfl (XT.ii_ge_f (Classical.not_not.mp q)) h
theorem g_if_ge (X : Stand p l e R s m args below meth c T locs cells slots) (hx : p.tables.exec = Jvm.exec) {x : Int32} {o : Int} (hd : decode c.code pc = .ok (.ifCond .ge o, 3)) (pcT pcF : Nat) (ho : 0 ≤ (pc : Int) + o) (hT : ((pc : Int) + o).toNat = pcT) (hF : pc + 3 = pcF) (G1 : ¬ x < 0 → Go p e below P T (mkF m pcT Ls st)) (G2 : x < 0 → Go p e below P T (mkF m pcF Ls st)) : Go p e below P T (mkF m pc Ls (.int x :: st)) := by
  by_cases q : ¬ x < 0
  · exact (G1 q).stp fun _ h => XS.ifYes X.here hx rfl rfl hd rfl (XT.i0_ge_t q) ho hT h
  · subst hF
    exact (G2 (Classical.not_not.mp q)).stp fun _ h => XS.ifNo X.here hx rfl hd rfl (XT.i0_ge_f (Classical.not_not.mp q)) h
theorem g_lif_ge (X : Stand p l e R s m args below meth c T locs cells slots) (hx : p.tables.exec = Jvm.exec) {x y : Int64} {o : Int} (hd0 : decode c.code pc = .ok (.lcmp, 1)) (pc1 : Nat) (hp1 : pc + 1 = pc1) (hd : decode c.code pc1 = .ok (.ifCond .ge o, 3)) (pcT pcF : Nat) (ho : 0 ≤ (pc1 : Int) + o) (hT : ((pc1 : Int) + o).toNat = pcT) (hF : pc1 + 3 = pcF) (G1 : ¬ x < y → Go p e below P T (mkF m pcT Ls st)) (G2 : x < y → Go p e below P T (mkF m pcF Ls st)) : Go p e below P T (mkF m pc Ls (.long y :: .long x :: st)) := by
  subst hp1
  by_cases q : ¬ x < y
  · exact (G1 q).stp fun _ h => XT.lcmp X.here hx rfl hd0 rfl (XS.ifYes X.here hx rfl rfl hd rfl (XT.ll_ge_t q) ho hT h)
  · subst hF
    exact (G2 (Classical.not_not.mp q)).stp fun _ h => XT.lcmp X.here hx rfl hd0 rfl (XS.ifNo X.here hx rfl hd rfl (XT.ll_ge_f (Classical.not_not.mp q)) h)
theorem g_icmp_gt (X : Stand p l e R s m args below meth c T locs cells slots) (hx : p.tables.exec = Jvm.exec) {x y : Int32} {o : Int} (hd : decode c.code pc = .ok (.if_icmp .gt o, 3)) (pcT pcF : Nat) (ho : 0 ≤ (pc : Int) + o) (hT : ((pc : Int) + o).toNat = pcT) (hF : pc + 3 = pcF) (G1 : y < x → Go p e below P T (mkF m pcT Ls st)) (G2 : ¬ y < x → Go p e below P T (mkF m pcF Ls st)) : Go p e below P T (mkF m pc Ls (.int y :: .int x :: st)) := by
  by_cases q : y < x
  · exact (G1 q).stp fun _ h => XS.icmpYes X.here hx rfl rfl hd rfl (XT.ii_gt_t q) ho hT h
  · subst hF
    exact (G2 q).stp fun _ h => XS.icmpNo X.here hx rfl hd rfl (XT.ii_gt_f q) h
theorem g_if_gt (X : Stand p l e R s m args below meth c T locs cells slots) (hx : p.tables.exec = Jvm.exec) {x : Int32} {o : Int} (hd : decode c.code pc = .ok (.ifCond .gt o, 3)) (pcT pcF : Nat) (ho : 0 ≤ (pc : Int) + o) (hT : ((pc : Int) + o).toNat = pcT) (hF : pc + 3 = pcF) (G1 : 0 < x → Go p e below P T (mkF m pcT Ls st)) (G2 : ¬ 0 < x → Go p e below P T (mkF m pcF Ls st)) : Go p e below P T (mkF m pc Ls (.int x :: st)) := by
  by_cases q : 0 < x
  · exact (G1 q).stp fun _ h => XS.ifYes X.here hx rfl rfl hd rfl (XT.i0_gt_t q) ho hT h
  · subst hF
    exact (G2 q).stp fun _ h => XS.ifNo X.here hx rfl hd rfl (XT.i0_gt_f q) h
theorem g_lif_gt (X : Stand p l e R s m args below meth c T locs cells slots) (hx : p.tables.exec = Jvm.exec) {x y : Int64} {o : Int} (hd0 : decode c.code pc = .ok (.lcmp, 1)) (pc1 : Nat) (hp1 : pc + 1 = pc1) (hd : decode c.code pc1 = .ok (.ifCond .gt o, 3)) (pcT pcF : Nat) (ho : 0 ≤ (pc1 : Int) + o) (hT : ((pc1 : Int) + o).toNat = pcT) (hF : pc1 + 3 = pcF) (G1 : y < x → Go p e below P T (mkF m pcT Ls st)) (G2 : ¬ y < x → Go p e below P T (mkF m pcF Ls st)) : Go p e below P T (mkF m pc Ls (.long y :: .long x :: st)) := by
  subst hp1
  by_cases q : y < x
  · exact (G1 q).stp fun _ h => XT.lcmp X.here hx rfl hd0 rfl (XS.ifYes X.here hx rfl rfl hd rfl (XT.ll_gt_t q) ho hT h)
  · subst hF
    exact (G2 q).stp fun _ h => XT.lcmp X.here hx rfl hd0 rfl (XS.ifNo X.here hx rfl hd rfl (XT.ll_gt_f q) h)
theorem g_icmp_le (X : Stand p l e R s m args below meth c T locs cells slots) (hx : p.tables.exec = Jvm.exec) {x y : Int32} {o : Int} (hd : decode c.code pc = .ok (.if_icmp .le o, 3)) (pcT pcF : Nat) (ho : 0 ≤ (pc : Int) + o) (hT : ((pc : Int) + o).toNat = pcT) (hF : pc + 3 = pcF) (G1 : ¬ y < x → Go p e below P T (mkF m pcT Ls st)) (G2 : y < x → Go p e below P T (mkF m pcF Ls st)) : Go p e below P T (mkF m pc Ls (.int y :: .int x :: st)) := by
  by_cases q : ¬ y < x
  · exact (G1 q).stp fun _ h => XS.icmpYes X.here hx rfl rfl hd rfl (XT.ii_le_t q) ho hT h
  · subst hF
    exact (G2 (Classical.not_not.mp q)).stp fun _ h => XS.icmpNo X.here hx rfl hd rfl (XT.ii_le_f (Classical.not_not.mp q)) h
theorem g_if_le (X : Stand p l e R s m args below meth c T locs cells slots) (hx : p.tables.exec = Jvm.exec) {x : Int32} {o : Int} (hd : decode c.code pc = .ok (.ifCond .le o, 3)) (pcT pcF : Nat) (ho : 0 ≤ (pc : Int) + o) (hT : ((pc : Int) + o).toNat = pcT) (hF : pc + 3 = pcF) (G1 : ¬ 0 < x → Go p e below P T (mkF m pcT Ls st)) (G2 : 0 < x → Go p e below P T (mkF m pcF Ls st)) : Go p e below P T (mkF m pc Ls (.int x :: st)) := by
  by_cases q : ¬ 0 < x
  · exact (G1 q).stp fun _ h => XS.ifYes X.here hx rfl rfl hd rfl (XT.i0_le_t q) ho hT h
  · subst hF
    exact (G2 (Classical.not_not.mp q)).stp fun _ h => XS.ifNo X.here hx rfl hd rfl (XT.i0_le_f (Classical.not_not.mp q)) h
theorem g_lif_le (X : Stand p l e R s m args below meth c T locs cells slots) (hx : p.tables.exec = Jvm.exec) {x y : Int64} {o : Int} (hd0 : decode c.code pc = .ok (.lcmp, 1)) (pc1 : Nat) (hp1 : pc + 1 = pc1) (hd : decode c.code pc1 = .ok (.ifCond .le o, 3)) (pcT pcF : Nat) (ho : 0 ≤ (pc1 : Int) + o) (hT : ((pc1 : Int) + o).toNat = pcT) (hF : pc1 + 3 = pcF) (G1 : ¬ y < x → Go p e below P T (mkF m pcT Ls st)) (G2 : y < x → Go p e below P T (mkF m pcF Ls st)) : Go p e below P T (mkF m pc Ls (.long y :: .long x :: st)) := by
  subst hp1
  by_cases q : ¬ y < x
  · exact (G1 q).stp fun _ h => XT.lcmp X.here hx rfl hd0 rfl (XS.ifYes X.here hx rfl rfl hd rfl (XT.ll_le_t q) ho hT h)
  · subst hF
    exact (G2 (Classical.not_not.mp q)).stp fun _ h => XT.lcmp X.here hx rfl hd0 rfl (XS.ifNo X.here hx rfl hd rfl (XT.ll_le_f (Classical.not_not.mp q)) h)
theorem g_acmp_eq (X : Stand p l e R s m args below meth c T locs cells slots) (hx : p.tables.exec = Jvm.exec) {x y : Value} (hx' : x.isRef = true) (hy' : y.isRef = true) {o : Int} (hd : decode c.code pc = .ok (.if_acmp .eq o, 3)) (pcT pcF : Nat) (ho : 0 ≤ (pc : Int) + o) (hT : ((pc : Int) + o).toNat = pcT) (hF : pc + 3 = pcF) (G1 : x = y → Go p e below P T (mkF m pcT Ls st)) (G2 : ¬ x = y → Go p e below P T (mkF m pcF Ls st)) : Go p e below P T (mkF m pc Ls (y :: x :: st)) := by
  by_cases q : x = y
  · exact (G1 q).stp fun _ h => XT.acmpYes X.here hx rfl rfl hd rfl hx' hy' (XT.aa_eq_t q) ho hT h
  · subst hF
    exact (G2 q).stp fun _ h => XT.acmpNo X.here hx rfl hd rfl hx' hy' (XT.aa_eq_f q) h
theorem g_acmp_ne (X : Stand p l e R s m args below meth c T locs cells slots) (hx : p.tables.exec = Jvm.exec) {x y : Value} (hx' : x.isRef = true) (hy' : y.isRef = true) {o : Int} (hd : decode c.code pc = .ok (.if_acmp .ne o, 3)) (pcT pcF : Nat) (ho : 0 ≤ (pc : Int) + o) (hT : ((pc : Int) + o).toNat = pcT) (hF : pc + 3 = pcF) (G1 : ¬ x = y → Go p e below P T (mkF m pcT Ls st)) (G2 : x = y → Go p e below P T (mkF m pcF Ls st)) : Go p e below P T (mkF m pc Ls (y :: x :: st)) := by
  by_cases q : ¬ x = y
  · exact (G1 q).stp fun _ h => XT.acmpYes X.here hx rfl rfl hd rfl hx' hy' (XT.aa_ne_t q) ho hT h
  · subst hF
    exact (G2 (Classical.not_not.mp q)).stp fun _ h => XT.acmpNo X.here hx rfl hd rfl hx' hy' (XT.aa_ne_f (Classical.not_not.mp q)) h
theorem g_ifnull (X : Stand p l e R s m args below meth c T locs cells slots) (hx : p.tables.exec = Jvm.exec) {x : Value} (hx' : x.isRef = true) {o : Int} (hd : decode c.code pc = .ok (.ifnull o, 3)) (pcT pcF : Nat) (ho : 0 ≤ (pc : Int) + o) (hT : ((pc : Int) + o).toNat = pcT) (hF : pc + 3 = pcF) (G1 : x = .null → Go p e below P T (mkF m pcT Ls st)) (G2 : ¬ x = .null → Go p e below P T (mkF m pcF Ls st)) : Go p e below P T (mkF m pc Ls (x :: st)) := by
  by_cases q : x = .null
  · exact (G1 q).stp fun _ h => XT.nullYes X.here hx rfl rfl hd rfl q ho hT h
  · subst hF
    exact (G2 q).stp fun _ h => XT.nullNo X.here hx rfl hd rfl hx' q h
theorem g_ifnonnull (X : Stand p l e R s m args below meth c T locs cells slots) (hx : p.tables.exec = Jvm.exec) {x : Value} (hx' : x.isRef = true) {o : Int} (hd : decode c.code pc = .ok (.ifnonnull o, 3)) (pcT pcF : Nat) (ho : 0 ≤ (pc : Int) + o) (hT : ((pc : Int) + o).toNat = pcT) (hF : pc + 3 = pcF) (G1 : ¬ x = .null → Go p e below P T (mkF m pcT Ls st)) (G2 : x = .null → Go p e below P T (mkF m pcF Ls st)) : Go p e below P T (mkF m pc Ls (x :: st)) := by
  by_cases q : x = .null
  · subst hF
    exact (G2 q).stp fun _ h => XT.nonnullNo X.here hx rfl hd rfl q h
  · exact (G1 q).stp fun _ h => XT.nonnullYes X.here hx rfl rfl hd rfl hx' q ho hT h
theorem g_ldc (X : Stand p l e R s m args below meth c T locs cells slots) (hx : p.tables.exec = Jvm.exec) (hZ : Z.Warmed39 s.vm) {own : String} (hown : s.vm.findClass own = some m.cls) {i : Nat} {v : Int32} (w : (Cond.constant own i v).before a0 Z = true) (hd : decode c.code pc = .ok (.ldc i, 2)) (pc' : Nat) (hp : pc + 2 = pc') (G : Go p e below P T (mkF m pc' Ls (.int v :: st))) : Go p e below P T (mkF m pc Ls st) := by
  subst hp
  exact G.stp fun _ h => Jvm.Stand.ldcI X hx hown (mv hZ w) rfl hd h
theorem g_ldc_w (X : Stand p l e R s m args below meth c T locs cells slots) (hx : p.tables.exec = Jvm.exec) (hZ : Z.Warmed39 s.vm) {own : String} (hown : s.vm.findClass own = some m.cls) {i : Nat} {v : Int32} (w : (Cond.constant own i v).before a0 Z = true) (hd : decode c.code pc = .ok (.ldc_w i, 3)) (pc' : Nat) (hp : pc + 3 = pc') (G : Go p e below P T (mkF m pc' Ls (.int v :: st))) : Go p e below P T (mkF m pc Ls st) := by
  subst hp
  exact G.stp fun _ h => Jvm.Stand.ldcWI X hx hown (mv hZ w) rfl hd h
theorem g_ldc2_w (X : Stand p l e R s m args below meth c T locs cells slots) (hx : p.tables.exec = Jvm.exec) (hZ : Z.Warmed39 s.vm) {own : String} (hown : s.vm.findClass own = some m.cls) {i : Nat} {v : Int64} (w : (Cond.constantLong own i v).before a0 Z = true) (hd : decode c.code pc = .ok (.ldc2_w i, 3)) (pc' : Nat) (hp : pc + 3 = pc') (G : Go p e below P T (mkF m pc' Ls (.long v :: st))) : Go p e below P T (mkF m pc Ls st) := by
  subst hp
  exact G.stp fun _ h => Jvm.Stand.ldc2J X hx hown (mv hZ w) rfl hd h
theorem g_getfield (X : Stand p l e R s m args below meth c T locs cells slots) (hx : p.tables.exec = Jvm.exec) (hZ : Z.Warmed39 s.vm) {own : String} (hown : s.vm.findClass own = some m.cls) {R0 O n d host : String} {i : Nat} (w : (Cond.fieldLink own i R0 n d).before a0 Z = true ∨ (Cond.fieldLinkNest own i R0 n d host).before a0 Z = true) (via : Via Z R0 O n d) {a : Addr} {v : Value} (F : Fld Z h a O n d v) (eT : T.heap = h) (hd : decode c.code pc = .ok (.getfield i, 3)) (pc' : Nat) (hp : pc + 3 = pc') (G : ∀ T', Stand p l e R s m args below meth c T' locs cells slots → T'.heap = h → Go p e below P T' (mkF m pc' Ls (v :: st))) : Go p e below P T (mkF m pc Ls (.ref a :: st)) := by
  subst hp
  obtain ⟨T', X', e', k⟩ := getF X hx hZ hown w via eT F (g := mkF m pc Ls (.ref a :: st)) rfl rfl hd
  exact (G T' X' e').stp k
theorem g_getstatic (X : Stand p l e R s m args below meth c T locs cells slots) (hx : p.tables.exec = Jvm.exec) (hZ : Z.Warmed39 s.vm) {own : String} (hown : s.vm.findClass own = some m.cls) {R0 O n d host : String} {i : Nat} (w : (Cond.fieldLink own i R0 n d).before a0 Z = true ∨ (Cond.fieldLinkNest own i R0 n d host).before a0 Z = true) (via : Via Z R0 O n d) {v : Value} (F : Sta Z h O n d v) (eT : T.heap = h) (hd : decode c.code pc = .ok (.getstatic i, 3)) (pc' : Nat) (hp : pc + 3 = pc') (G : ∀ T', Stand p l e R s m args below meth c T' locs cells slots → T'.heap = h → Go p e below P T' (mkF m pc' Ls (v :: st))) : Go p e below P T (mkF m pc Ls st) := by
  subst hp
  obtain ⟨T', X', e', k⟩ := getS2 X hx hZ hown w via eT F (g := mkF m pc Ls st) rfl hd
  exact (G T' X' e').stp k
theorem g_putfield (X : Stand p l e R s m args below meth c T locs cells slots) (hx : p.tables.exec = Jvm.exec) (hZ : Z.Warmed39 s.vm) {own : String} (hown : s.vm.findClass own = some m.cls) {R0 O n d host C : String} {i kk : Nat} {ty : FieldType} (w : (Cond.fieldLink own i R0 n d).before a0 Z = true ∨ (Cond.fieldLinkNest own i R0 n d host).before a0 Z = true) (via : Via Z R0 O n d) (eT : T.heap = h) {a : Addr} {v old : Value} (F : Fld Z h a O n d old) (E : Exa Z h a C) (L : (Cond.lays C O n d).before a0 Z = true ∨ ((Cond.laysFinal C O n d).before a0 Z = true ∧ own = O ∧ meth.name = "<init>")) (wi : (Cond.instantiable C kk).before a0 Z = true) (hty : parseFieldDescriptor d = some ty) (hn : narrow ty v = v) (hf : fits ty v = true) (hd : decode c.code pc = .ok (.putfield i, 3)) (pc' : Nat) (hp : pc + 3 = pc') (G : ∀ T' h', Stand p l e R s m args below meth c T' (locs ++ [⟨a, Jvm.RoadKit.slotOf Z O n d⟩]) cells slots → T'.heap = h' → Wr h h' a (Jvm.RoadKit.slotOf Z O n d) v → Go p e below P T' (mkF m pc' Ls st)) : Go p e below P T (mkF m pc Ls (v :: .ref a :: st)) := by
  subst hp
  obtain ⟨T', h', X', e', W, k⟩ := putF X hx hZ hown w via eT F E L wi hty hn hf (g := mkF m pc Ls (v :: .ref a :: st)) rfl rfl hd
  exact (G T' h' X' e' W).stp k
theorem g_initO (X : Stand p l e R s m args below meth c T locs cells slots) (hx : p.tables.exec = Jvm.exec) (hZ : Z.Warmed39 s.vm) {own : String} (hown : s.vm.findClass own = some m.cls) {i : Nat} (w1 : (Cond.methodLink own i Lib.objectInit).before a0 Z = true) (w2 : (Cond.instanceMethod Lib.objectInit).before a0 Z = true) (w3 : (Cond.code Lib.objectInit ⟨#[0xb1]⟩ 1 none).before a0 Z = true) (eT : T.heap = h) (hsz : Ls.size = c.maxLocals) {a : Addr} (hd : decode c.code pc = .ok (.invokespecial i, 3)) (hf : 1 ≤ R.frames) (W : Nat) (hW : (st.map fun v => v.category).sum ≤ W) (hl : W + 12 ≤ R.locals) (pc' : Nat) (hp : pc + 3 = pc') (G : ∀ T', Stand p l e R s m args below meth c T' locs cells slots → T'.heap = h → Go p e below P T' (mkF m pc' Ls st)) : Go p e below P T (mkF m pc Ls (.ref a :: st)) := by
  subst hp
  obtain ⟨T', X', e', k⟩ := initO X hx hZ hown w1 w2 w3 eT (g := mkF m pc Ls (.ref a :: st)) rfl hsz rfl hd hf (W := W) (by show 2 * 0 + _ ≤ W; omega) hl
  exact (G T' X' e').stp k
theorem g_new (X : Stand p l e R s m args below meth c T locs cells slots) (hx : p.tables.exec = Jvm.exec) (hZ : Z.Warmed39 s.vm) {own : String} (hown : s.vm.findClass own = some m.cls) {C : String} {i n : Nat} (w : (Cond.classLink own i C).before a0 Z = true) (wi : (Cond.instantiable C n).before a0 Z = true) (wz : (Cond.initialized C).before a0 Z = true) (eT : T.heap = h) (hd : decode c.code pc = .ok (.new i, 3)) (hc : cells + 1 ≤ R.cells) (hl : slots + n ≤ R.slots) (pc' : Nat) (hp : pc + 3 = pc') (G : ∀ T' h' b, Stand p l e R s m args below meth c T' locs (cells + 1) (slots + n) → T'.heap = h' → b = h.size → Ext h h' → Exa Z h' b C → (∀ {O nm d : String} {ty : FieldType}, Laid Z a0 C O nm d → parseFieldDescriptor d = some ty → Fld Z h' b O nm d (defaultValue ty)) → Go p e below P T' (mkF m pc' Ls (.ref b :: st))) : Go p e below P T (mkF m pc Ls st) := by
  subst hp
  obtain ⟨T', h', X', e', E, A, D, -, k⟩ := newO X hx hZ hown w wi wz eT (g := mkF m pc Ls st) rfl hd hc hl
  exact (G T' h' h.size X' e' rfl E A D).stp k
/-- the array at a: of that kind, holding just these values -/
def AV (Z : State) (h : Heap) (a : Addr) (ty : FieldType) (vs : List Value) : Prop := ∃ c : Cell, Arr Z h a c ty ∧ c.slots = vs.toArray ∧ vs.length < 2 ^ 31
theorem AV.lt {a : Addr} {ty : FieldType} {vs : List Value} (F : AV Z h a ty vs) : a < h.size := by obtain ⟨c, A, -⟩ := F; exact A.lt
theorem AV.ext {h' : Heap} {a : Addr} {ty : FieldType} {vs : List Value} (F : AV Z h a ty vs) (E : Ext h h') : AV Z h' a ty vs := by obtain ⟨c, A, r⟩ := F; exact ⟨c, A.ext E, r⟩
theorem AV.other {h' : Heap} {a b : Addr} {sl : Nat} {v : Value} {ty : FieldType} {vs : List Value} (F : AV Z h b ty vs) (W : Wr h h' a sl v) (q : b ≠ a) : AV Z h' b ty vs := by obtain ⟨c, A, r⟩ := F; exact ⟨c, A.other W q, r⟩
theorem AV.keep {h' : Heap} {a : Addr} {ws : List Addr} {ty : FieldType} {vs : List Value} (F : AV Z h a ty vs) (K : Keep h h' ws) (q : a ∉ ws) : AV Z h' a ty vs := by obtain ⟨c, A, r⟩ := F; exact ⟨c, ⟨K.2.1 a c A.1 q, A.2⟩, r⟩
theorem AV.same {h' : Heap} {a : Addr} {sl : Nat} {v : Value} {ty : FieldType} {vs : List Value} (F : AV Z h a ty vs) (W : Wr h h' a sl v) : AV Z h' a ty (vs.set sl v) := by
  obtain ⟨c, A, r1, r2⟩ := F
  exact ⟨_, A.same W, by simp [Cell.setSlot, r1], by simpa using r2⟩
theorem AV.new {a : Addr} {k : ClassId} {ty : FieldType} {n : Int32} (A : Arr Z h a (newA k ty n) ty) (vs : List Value) (q : vs = List.replicate n.toNatClampNeg (defaultValue ty)) (q2 : n.toNatClampNeg < 2 ^ 31) : AV Z h a ty vs := ⟨_, A, by subst q; simp [newA], by subst q; simpa using q2⟩
theorem AV.nostat {a : Addr} {ty : FieldType} {vs : List Value} (F : AV Z h a ty vs) : ∀ cell : Cell, h[a]? = some cell → cell.vm.isStatics = false := by obtain ⟨c, A, -⟩ := F; exact A.nostat
theorem in_of {vs : List Value} {c : Cell} {j : Int32} {v : Value} (r : c.slots = vs.toArray) (hj : ¬ j < 0) (hv : vs[j.toNatClampNeg]? = some v) : ¬ (j < 0 ∨ c.slots.size ≤ j.toNatClampNeg) := by
  have q := (List.getElem?_eq_some_iff.mp hv).1
  intro u
  rcases u with u | u
  · exact hj u
  · rw [r] at u; simp at u; omega
theorem g_iaload (X : Stand p l e R s m args below meth c T locs cells slots) (hx : p.tables.exec = Jvm.exec) (hZ : Z.Warmed39 s.vm) (eT : T.heap = h) {a : Addr} {vs : List Value} {j : Int32} {v : Value} (A : AV Z h a .int vs) (hj : ¬ j < 0) (hv : vs[j.toNatClampNeg]? = some v) (hd : decode c.code pc = .ok (.iaload, 1)) (pc' : Nat) (hp : pc + 1 = pc') (G : Go p e below P T (mkF m pc' Ls (v :: st))) : Go p e below P T (mkF m pc Ls (.int j :: .ref a :: st)) := by
  subst hp
  obtain ⟨cl, A, r1, r2⟩ := A
  exact G.stp fun _ k => X.iaload hx (j := j) (v := v) (by rw [eT]; exact A.1) (State.isArrayOf_alike hZ.alike A.2.1) A.2.2 (in_of r1 hj hv) (by rw [r1]; simpa using hv) (g := mkF m pc Ls (.int j :: .ref a :: st)) rfl rfl hd _ k
theorem g_caload (X : Stand p l e R s m args below meth c T locs cells slots) (hx : p.tables.exec = Jvm.exec) (hZ : Z.Warmed39 s.vm) (eT : T.heap = h) {a : Addr} {vs : List Value} {j : Int32} {v : Value} (A : AV Z h a .char vs) (hj : ¬ j < 0) (hv : vs[j.toNatClampNeg]? = some v) (hd : decode c.code pc = .ok (.caload, 1)) (pc' : Nat) (hp : pc + 1 = pc') (G : Go p e below P T (mkF m pc' Ls (v :: st))) : Go p e below P T (mkF m pc Ls (.int j :: .ref a :: st)) := by
  subst hp
  obtain ⟨cl, A, r1, r2⟩ := A
  exact G.stp fun _ k => X.caload hx (j := j) (v := v) (by rw [eT]; exact A.1) (State.isArrayOf_alike hZ.alike A.2.1) A.2.2 (in_of r1 hj hv) (by rw [r1]; simpa using hv) (g := mkF m pc Ls (.int j :: .ref a :: st)) rfl rfl hd _ k
theorem g_baload (X : Stand p l e R s m args below meth c T locs cells slots) (hx : p.tables.exec = Jvm.exec) (hZ : Z.Warmed39 s.vm) (eT : T.heap = h) {a : Addr} {vs : List Value} {j : Int32} {v : Value} (A : AV Z h a .byte vs) (hj : ¬ j < 0) (hv : vs[j.toNatClampNeg]? = some v) (hd : decode c.code pc = .ok (.baload, 1)) (pc' : Nat) (hp : pc + 1 = pc') (G : Go p e below P T (mkF m pc' Ls (v :: st))) : Go p e below P T (mkF m pc Ls (.int j :: .ref a :: st)) := by
  subst hp
  obtain ⟨cl, A, r1, r2⟩ := A
  exact G.stp fun _ k => X.baloadBytes hx (j := j) (v := v) (by rw [eT]; exact A.1) (State.isArrayOf_alike hZ.alike A.2.1) A.2.2 (in_of r1 hj hv) (by rw [r1]; simpa using hv) (g := mkF m pc Ls (.int j :: .ref a :: st)) rfl rfl hd _ k
theorem g_aaload (X : Stand p l e R s m args below meth c T locs cells slots) (hx : p.tables.exec = Jvm.exec) (hZ : Z.Warmed39 s.vm) (eT : T.heap = h) {a : Addr} {ty : FieldType} {vs : List Value} {j : Int32} {v : Value} (A : AV Z h a ty vs) (hty : ty.isReference = true) (hj : ¬ j < 0) (hv : vs[j.toNatClampNeg]? = some v) (hd : decode c.code pc = .ok (.aaload, 1)) (pc' : Nat) (hp : pc + 1 = pc') (G : Go p e below P T (mkF m pc' Ls (v :: st))) : Go p e below P T (mkF m pc Ls (.int j :: .ref a :: st)) := by
  subst hp
  obtain ⟨cl, A, r1, r2⟩ := A
  exact G.stp fun _ k => X.aaload hx (j := j) (v := v) (by rw [eT]; exact A.1) (State.isArrayOf_alike hZ.alike A.2.1) hty A.2.2 (in_of r1 hj hv) (by rw [r1]; simpa using hv) (g := mkF m pc Ls (.int j :: .ref a :: st)) rfl rfl hd _ k
theorem g_arraylength (X : Stand p l e R s m args below meth c T locs cells slots) (hx : p.tables.exec = Jvm.exec) (hZ : Z.Warmed39 s.vm) (eT : T.heap = h) {a : Addr} {ty : FieldType} {vs : List Value} (A : AV Z h a ty vs) (n : Int32) (hn : Int32.ofNat vs.length = n) (hd : decode c.code pc = .ok (.arraylength, 1)) (pc' : Nat) (hp : pc + 1 = pc') (G : Go p e below P T (mkF m pc' Ls (.int n :: st))) : Go p e below P T (mkF m pc Ls (.ref a :: st)) := by
  subst hp
  obtain ⟨cl, A, r1, r2⟩ := A
  have q : cl.slots.size.toInt32 = n := by rw [r1, ← hn]; simp
  rw [← q] at G
  exact G.stp fun _ k => X.arraylength hx (cell := cl) (by rw [eT]; exact A.1) (State.isArrayOf_alike hZ.alike A.2.1) (g := mkF m pc Ls (.ref a :: st)) rfl rfl hd _ k
theorem g_iastore (X : Stand p l e R s m args below meth c T locs cells slots) (hx : p.tables.exec = Jvm.exec) (hZ : Z.Warmed39 s.vm) (eT : T.heap = h) {a : Addr} {vs : List Value} {j x : Int32} (A : AV Z h a .int vs) (hj : ¬ j < 0) (hi : j.toNatClampNeg < vs.length) (hd : decode c.code pc = .ok (.iastore, 1)) (pc' : Nat) (hp : pc + 1 = pc') (G : ∀ T' h', Stand p l e R s m args below meth c T' (locs ++ [⟨a, j.toNatClampNeg⟩]) cells slots → T'.heap = h' → Wr h h' a j.toNatClampNeg (.int x) → AV Z h' a .int (vs.set j.toNatClampNeg (.int x)) → Go p e below P T' (mkF m pc' Ls st)) : Go p e below P T (mkF m pc Ls (.int x :: .int j :: .ref a :: st)) := by
  subst hp
  have A0 := A
  obtain ⟨cl, A, r1, r2⟩ := A
  obtain ⟨T', h', X', e', W, k⟩ := stI X hx hZ eT A (j := j) (x := x) (in_of r1 hj (List.getElem?_eq_getElem hi)) (g := mkF m pc Ls (.int x :: .int j :: .ref a :: st)) rfl rfl hd
  exact (G T' h' X' e' W (A0.same W)).stp k
theorem g_castore (X : Stand p l e R s m args below meth c T locs cells slots) (hx : p.tables.exec = Jvm.exec) (hZ : Z.Warmed39 s.vm) (eT : T.heap = h) {a : Addr} {vs : List Value} {j x : Int32} (A : AV Z h a .char vs) (hj : ¬ j < 0) (hi : j.toNatClampNeg < vs.length) (hd : decode c.code pc = .ok (.castore, 1)) (pc' : Nat) (hp : pc + 1 = pc') (G : ∀ T' h', Stand p l e R s m args below meth c T' (locs ++ [⟨a, j.toNatClampNeg⟩]) cells slots → T'.heap = h' → Wr h h' a j.toNatClampNeg (.int (nar .char x)) → AV Z h' a .char (vs.set j.toNatClampNeg (.int (nar .char x))) → Go p e below P T' (mkF m pc' Ls st)) : Go p e below P T (mkF m pc Ls (.int x :: .int j :: .ref a :: st)) := by
  subst hp
  have A0 := A
  obtain ⟨cl, A, r1, r2⟩ := A
  obtain ⟨T', h', X', e', W, k⟩ := stC X hx hZ eT A (j := j) (x := x) (in_of r1 hj (List.getElem?_eq_getElem hi)) (g := mkF m pc Ls (.int x :: .int j :: .ref a :: st)) rfl rfl hd
  exact (G T' h' X' e' W (A0.same W)).stp k
theorem g_bastore (X : Stand p l e R s m args below meth c T locs cells slots) (hx : p.tables.exec = Jvm.exec) (hZ : Z.Warmed39 s.vm) (eT : T.heap = h) {a : Addr} {vs : List Value} {j x : Int32} (A : AV Z h a .byte vs) (hj : ¬ j < 0) (hi : j.toNatClampNeg < vs.length) (hd : decode c.code pc = .ok (.bastore, 1)) (pc' : Nat) (hp : pc + 1 = pc') (G : ∀ T' h', Stand p l e R s m args below meth c T' (locs ++ [⟨a, j.toNatClampNeg⟩]) cells slots → T'.heap = h' → Wr h h' a j.toNatClampNeg (.int (nar .byte x)) → AV Z h' a .byte (vs.set j.toNatClampNeg (.int (nar .byte x))) → Go p e below P T' (mkF m pc' Ls st)) : Go p e below P T (mkF m pc Ls (.int x :: .int j :: .ref a :: st)) := by
  subst hp
  have A0 := A
  obtain ⟨cl, A, r1, r2⟩ := A
  obtain ⟨T', h', X', e', W, k⟩ := stB X hx hZ eT A (j := j) (x := x) (in_of r1 hj (List.getElem?_eq_getElem hi)) (g := mkF m pc Ls (.int x :: .int j :: .ref a :: st)) rfl rfl hd
  exact (G T' h' X' e' W (A0.same W)).stp k
theorem g_newarray (X : Stand p l e R s m args below meth c T locs cells slots) (hx : p.tables.exec = Jvm.exec) (hZ : Z.Warmed39 s.vm) {aty : ArrayType} (w : (Cond.arrayClass (newarray.typeOf aty)).before a0 Z = true) (eT : T.heap = h) {n : Int32} (hn : ¬ n < 0) (cap : Nat) (hcap : n.toNatClampNeg ≤ cap) (hb : cap * 8 ≤ 536870912) (hc : cells + 1 ≤ R.cells) (hl : slots + cap ≤ R.slots) (vs : List Value) (hvs : vs = List.replicate n.toNatClampNeg (defaultValue (newarray.typeOf aty))) (hd : decode c.code pc = .ok (.newarray aty, 2)) (pc' : Nat) (hp : pc + 2 = pc') (G : ∀ T' h' b, Stand p l e R s m args below meth c T' locs (cells + 1) (slots + cap) → T'.heap = h' → b = h.size → Ext h h' → AV Z h' b (newarray.typeOf aty) vs → Go p e below P T' (mkF m pc' Ls (.ref b :: st))) : Go p e below P T (mkF m pc Ls (.int n :: st)) := by
  subst hp
  obtain ⟨T', h', cA, X', e', E, A, k⟩ := newP X hx hZ w eT (g := mkF m pc Ls (.int n :: st)) rfl hd rfl hn hcap hb hc hl
  exact (G T' h' h.size X' e' rfl E (AV.new A vs hvs (by omega))).stp k
theorem g_checkcast (X : Stand p l e R s m args below meth c T locs cells slots) (hx : p.tables.exec = Jvm.exec) (hZ : Z.Warmed39 s.vm) {own : String} (hown : s.vm.findClass own = some m.cls) {K : String} {i : Nat} (w : (Cond.classLink own i K).before a0 Z = true) {a : Addr} (F : Ins Z h a K true) (eT : T.heap = h) (hd : decode c.code pc = .ok (.checkcast i, 3)) (pc' : Nat) (hp : pc + 3 = pc') (G : ∀ T', Stand p l e R s m args below meth c T' locs cells slots → T'.heap = h → Go p e below P T' (mkF m pc' Ls (.ref a :: st))) : Go p e below P T (mkF m pc Ls (.ref a :: st)) := by
  subst hp
  obtain ⟨T', X', e', k⟩ := castY X hx hZ hown w eT F (g := mkF m pc Ls (.ref a :: st)) rfl rfl hd
  exact (G T' X' e').stp k
theorem g_instYes (X : Stand p l e R s m args below meth c T locs cells slots) (hx : p.tables.exec = Jvm.exec) (hZ : Z.Warmed39 s.vm) {own : String} (hown : s.vm.findClass own = some m.cls) {K : String} {i : Nat} (w : (Cond.classLink own i K).before a0 Z = true) {a : Addr} (F : Ins Z h a K true) (eT : T.heap = h) (hd : decode c.code pc = .ok (.instanceof i, 3)) (pc' : Nat) (hp : pc + 3 = pc') (G : ∀ T', Stand p l e R s m args below meth c T' locs cells slots → T'.heap = h → Go p e below P T' (mkF m pc' Ls (.int 1 :: st))) : Go p e below P T (mkF m pc Ls (.ref a :: st)) := by
  subst hp
  obtain ⟨T', X', e', k⟩ := instY X hx hZ hown w eT F (g := mkF m pc Ls (.ref a :: st)) rfl rfl hd
  exact (G T' X' e').stp k
theorem g_instNo (X : Stand p l e R s m args below meth c T locs cells slots) (hx : p.tables.exec = Jvm.exec) (hZ : Z.Warmed39 s.vm) {own : String} (hown : s.vm.findClass own = some m.cls) {K C : String} {i : Nat} (w : (Cond.classLink own i K).before a0 Z = true) {a : Addr} (E : Exa Z h a C) (F : ∃ c t, Z.vm.findClass C = some c ∧ Z.vm.findClass K = some t ∧ Z.vm.assignable c t = false) (eT : T.heap = h) (hd : decode c.code pc = .ok (.instanceof i, 3)) (pc' : Nat) (hp : pc + 3 = pc') (G : ∀ T', Stand p l e R s m args below meth c T' locs cells slots → T'.heap = h → Go p e below P T' (mkF m pc' Ls (.int 0 :: st))) : Go p e below P T (mkF m pc Ls (.ref a :: st)) := by
  subst hp
  obtain ⟨T', X', e', k⟩ := instNo X hx hZ hown w eT E F (g := mkF m pc Ls (.ref a :: st)) rfl rfl hd
  exact (G T' X' e').stp k
theorem g_instNull (X : Stand p l e R s m args below meth c T locs cells slots) (hx : p.tables.exec = Jvm.exec) {i : Nat} (hd : decode c.code pc = .ok (.instanceof i, 3)) (pc' : Nat) (hp : pc + 3 = pc') (G : Go p e below P T (mkF m pc' Ls (.int 0 :: st))) : Go p e below P T (mkF m pc Ls (.null :: st)) := by
  subst hp
  exact G.stp fun _ h => X.instanceofNull hx (g := mkF m pc Ls (.null :: st)) rfl rfl hd _ h
theorem g_aastore (X : Stand p l e R s m args below meth c T locs cells slots) (hx : p.tables.exec = Jvm.exec) (hZ : Z.Warmed39 s.vm) (eT : T.heap = h) {a : Addr} {ty : FieldType} {vs : List Value} {j : Int32} {x : Value} (A : AV Z h a ty vs) (hty : ty.isReference = true) (F : Sto Z h a x) (hj : ¬ j < 0) (hi : j.toNatClampNeg < vs.length) (hd : decode c.code pc = .ok (.aastore, 1)) (pc' : Nat) (hp : pc + 1 = pc') (G : ∀ T' h', Stand p l e R s m args below meth c T' (locs ++ [⟨a, j.toNatClampNeg⟩]) cells slots → T'.heap = h' → Wr h h' a j.toNatClampNeg x → AV Z h' a ty (vs.set j.toNatClampNeg x) → Go p e below P T' (mkF m pc' Ls st)) : Go p e below P T (mkF m pc Ls (x :: .int j :: .ref a :: st)) := by
  subst hp
  have A0 := A
  obtain ⟨cl, A, r1, r2⟩ := A
  obtain ⟨T', h', X', e', W, k⟩ := stR X hx hZ eT A (j := j) (v := x) (in_of r1 hj (List.getElem?_eq_getElem hi)) hty F (g := mkF m pc Ls (x :: .int j :: .ref a :: st)) rfl rfl hd
  exact (G T' h' X' e' W (A0.same W)).stp k
/-- what may lie in the array at a: objects of C -/
def Ov (Z : State) (h : Heap) (a : Addr) (C : String) : Prop := ∃ c : Cell, h[a]? = some c ∧ Ovr Z c.cls C
theorem Ov.keep {h' : Heap} {a : Addr} {ws : List Addr} {C : String} (F : Ov Z h a C) (K : Keep h h' ws) : Ov Z h' a C := by obtain ⟨c, h1, o⟩ := F; obtain ⟨c', h2, e, -⟩ := K.2.2 a c h1; exact ⟨c', h2, by rw [e]; exact o⟩
theorem Ov.ext {h' : Heap} {a : Addr} {C : String} (F : Ov Z h a C) (E : Ext h h') : Ov Z h' a C := by obtain ⟨c, h1, o⟩ := F; exact ⟨c, E.2 _ _ h1, o⟩
theorem Ov.wr {h' : Heap} {a b : Addr} {sl : Nat} {v : Value} {C : String} (F : Ov Z h a C) (W : Wr h h' b sl v) : Ov Z h' a C := by obtain ⟨c, h1, o⟩ := F; obtain ⟨c', h2, e, -⟩ := wr_at W h1; exact ⟨c', h2, by rw [e]; exact o⟩
theorem Ov.lt {a : Addr} {C : String} (F : Ov Z h a C) : a < h.size := by obtain ⟨c, h1, -⟩ := F; exact (Array.getElem?_eq_some_iff.mp h1).1
theorem Ov.sto {a y : Addr} {C : String} {ty : FieldType} {vs : List Value} (F : Ov Z h a C) (A : AV Z h a ty vs) (I : Ins Z h y C true) : Sto Z h a (.ref y) := by
  obtain ⟨c, h1, o⟩ := F
  obtain ⟨c', A', -⟩ := A
  cases h1.symm.trans A'.1
  exact Sto.of A' o I
theorem g_anewarray (X : Stand p l e R s m args below meth c T locs cells slots) (hx : p.tables.exec = Jvm.exec) (hZ : Z.Warmed39 s.vm) {own : String} (hown : s.vm.findClass own = some m.cls) {C : String} {i : Nat} (w1 : (Cond.classLink own i C).before a0 Z = true) (w2 : (Cond.arrayOver (.object C)).before a0 Z = true) (eT : T.heap = h) {n : Int32} (hn : ¬ n < 0) (cap : Nat) (hcap : n.toNatClampNeg ≤ cap) (hb : cap * 8 ≤ 536870912) (hc : cells + 1 ≤ R.cells) (hl : slots + cap ≤ R.slots) (vs : List Value) (hvs : vs = List.replicate n.toNatClampNeg .null) (hd : decode c.code pc = .ok (.anewarray i, 3)) (pc' : Nat) (hp : pc + 3 = pc') (G : ∀ T' h' b, Stand p l e R s m args below meth c T' locs (cells + 1) (slots + cap) → T'.heap = h' → b = h.size → Ext h h' → AV Z h' b (.object C) vs → Ov Z h' b C → Go p e below P T' (mkF m pc' Ls (.ref b :: st))) : Go p e below P T (mkF m pc Ls (.int n :: st)) := by
  subst hp
  obtain ⟨T', h', cA, X', e', E, A, O, k⟩ := newR X hx hZ hown w1 w2 eT (g := mkF m pc Ls (.int n :: st)) rfl hd rfl hn hcap hb hc hl
  exact (G T' h' h.size X' e' rfl E (AV.new A vs hvs (by omega)) ⟨_, A.1, O⟩).stp k
theorem g_reti (X : Stand p l e R s m args below meth c T locs cells slots) (hx : p.tables.exec = Jvm.exec) {z : Int32} (hret : meth.sig.returnType = some .int) (hlk : meth.locks = false) {k n : Nat} {Q : Option Value → Heap → List Loc → Prop} (hk : cells ≤ k) (hn : slots ≤ n) (hd : decode c.code pc = .ok (.ireturn, 1)) (hq : Q (some (.int z)) T.heap locs) : Go p e below (RP s k n Q) T (mkF m pc Ls (.int z :: st)) := by
  obtain ⟨fs, hr, hrun, hended, hW, hsame⟩ := X.leave (v := (some (.int z))) (fun h => by first | rfl | (rw [hret] at h; cases h)) hlk
  exact ⟨_, _, retOut X hx hret rfl (Or.inl ⟨rfl, Or.inl rfl, z, rfl⟩) hd hr, hrun, hended, _, _, rfl, hq, ⟨_, rfl⟩, hW, hsame.mono hk hn⟩
theorem g_retz (X : Stand p l e R s m args below meth c T locs cells slots) (hx : p.tables.exec = Jvm.exec) {z : Int32} (hret : meth.sig.returnType = some .boolean) (hlk : meth.locks = false) {k n : Nat} {Q : Option Value → Heap → List Loc → Prop} (hk : cells ≤ k) (hn : slots ≤ n) (hd : decode c.code pc = .ok (.ireturn, 1)) (hq : Q (some (.int (z &&& 1))) T.heap locs) : Go p e below (RP s k n Q) T (mkF m pc Ls (.int z :: st)) := by
  obtain ⟨fs, hr, hrun, hended, hW, hsame⟩ := X.leave (v := (some (.int (z &&& 1)))) (fun h => by first | rfl | (rw [hret] at h; cases h)) hlk
  exact ⟨_, _, retN X hx (t := .boolean) hret (by simp) hd hr, hrun, hended, _, _, rfl, hq, ⟨_, rfl⟩, hW, hsame.mono hk hn⟩
theorem g_retb (X : Stand p l e R s m args below meth c T locs cells slots) (hx : p.tables.exec = Jvm.exec) {z : Int32} (hret : meth.sig.returnType = some .byte) (hlk : meth.locks = false) {k n : Nat} {Q : Option Value → Heap → List Loc → Prop} (hk : cells ≤ k) (hn : slots ≤ n) (hd : decode c.code pc = .ok (.ireturn, 1)) (hq : Q (some (.int z.toInt8.toInt32)) T.heap locs) : Go p e below (RP s k n Q) T (mkF m pc Ls (.int z :: st)) := by
  obtain ⟨fs, hr, hrun, hended, hW, hsame⟩ := X.leave (v := (some (.int z.toInt8.toInt32))) (fun h => by first | rfl | (rw [hret] at h; cases h)) hlk
  exact ⟨_, _, retN X hx (t := .byte) hret (by simp) hd hr, hrun, hended, _, _, rfl, hq, ⟨_, rfl⟩, hW, hsame.mono hk hn⟩
theorem g_retl (X : Stand p l e R s m args below meth c T locs cells slots) (hx : p.tables.exec = Jvm.exec) {z : Int64} (hret : meth.sig.returnType = some .long) (hlk : meth.locks = false) {k n : Nat} {Q : Option Value → Heap → List Loc → Prop} (hk : cells ≤ k) (hn : slots ≤ n) (hd : decode c.code pc = .ok (.lreturn, 1)) (hq : Q (some (.long z)) T.heap locs) : Go p e below (RP s k n Q) T (mkF m pc Ls (.long z :: st)) := by
  obtain ⟨fs, hr, hrun, hended, hW, hsame⟩ := X.leave (v := (some (.long z))) (fun h => by first | rfl | (rw [hret] at h; cases h)) hlk
  exact ⟨_, _, retOut X hx hret rfl (Or.inr (Or.inl ⟨rfl, rfl, z, rfl⟩)) hd hr, hrun, hended, _, _, rfl, hq, ⟨_, rfl⟩, hW, hsame.mono hk hn⟩
theorem g_reta (X : Stand p l e R s m args below meth c T locs cells slots) (hx : p.tables.exec = Jvm.exec) {v : Value} {t : FieldType} (hv : v.isRef = true) (ht : t.isReference = true) (hret : meth.sig.returnType = some t) (hlk : meth.locks = false) {k n : Nat} {Q : Option Value → Heap → List Loc → Prop} (hk : cells ≤ k) (hn : slots ≤ n) (hd : decode c.code pc = .ok (.areturn, 1)) (hq : Q (some v) T.heap locs) : Go p e below (RP s k n Q) T (mkF m pc Ls (v :: st)) := by
  obtain ⟨fs, hr, hrun, hended, hW, hsame⟩ := X.leave (v := (some v)) (fun h => by first | rfl | (rw [hret] at h; cases h)) hlk
  exact ⟨_, _, retOut X hx hret (by cases t <;> first | (cases ht; done) | rfl) (Or.inr (Or.inr (Or.inr (Or.inr ⟨rfl, ht, hv⟩)))) hd hr, hrun, hended, _, _, rfl, hq, ⟨_, rfl⟩, hW, hsame.mono hk hn⟩
theorem g_retv (X : Stand p l e R s m args below meth c T locs cells slots) (hx : p.tables.exec = Jvm.exec) (hret : meth.sig.returnType = none) (hlk : meth.locks = false) {k n : Nat} {Q : Option Value → Heap → List Loc → Prop} (hk : cells ≤ k) (hn : slots ≤ n) (hd : decode c.code pc = .ok (.return_, 1)) (hq : Q none T.heap locs) : Go p e below (RP s k n Q) T (mkF m pc Ls []) := by
  obtain ⟨fs, hr, hrun, hended, hW, hsame⟩ := X.leave (v := none) (fun _ => rfl) hlk
  exact ⟨_, _, X.returnOut hx hret hd hr, hrun, hended, _, _, rfl, hq, ⟨_, rfl⟩, hW, hsame.mono hk hn⟩
/-- what a method does, called with these arguments over this heap -/
def Co (l : Launch) (y : MethodName) (bytes : ByteArray) (maxL : Nat) (ret : Option FieldType) (ws : List Jvm.Cond) (rm : Room) (Z : State) (h : Heap) (as : Array Value) (Q : Option Value → Heap → List Loc → Prop) : Prop := MetFree l y (head1 (Jvm.Cond.code y bytes maxL ret :: ws) rm) (fun a U => a = as ∧ Z.Warmed39 U.vm ∧ U.heap = h) (fun _ _ _ _ _ => True) (fun _ U o U' => ∃ v L, o = .returned v ∧ Q v U'.heap L ∧ FrameEnd U o U' L rm.cells rm.slots)
theorem Co.of {y : MethodName} {bytes : ByteArray} {maxL : Nat} {ret : Option FieldType} {ws : List Jvm.Cond} {rm : Room} {as : Array Value} {Q : Option Value → Heap → List Loc → Prop} (hpl : plainFor y = true) (body : ∀ (p : Program) (e : Env) (s : State) (m : MethodId) (below : List Frame) (meth : Method) (c : Code) (T : State), Stand p l e rm s m as below meth c T [] 0 0 → p.tables.exec = Jvm.exec → c.code = bytes → c.maxLocals = maxL → s.vm.findClass y.cls = some m.cls → meth.name = y.name → meth.sig.returnType = ret → meth.locks = false → Z.Warmed39 s.vm → T.heap = h → Go p e below (RP s rm.cells rm.slots Q) T (entryFrame m as maxL)) : Co l y bytes maxL ret ws rm Z h as Q := by
  refine MetFree.of_bodySF hpl hisR ?_
  intro p e s m args below meth c s₁ Bd hml hP hK
  obtain ⟨rfl, hZ, hh⟩ := hP
  exact body p e s m below meth c s₁ (Stand.of_body Bd) Bd.exec Bd.bytes hml (findClass_of_methodNamed Bd.named) (name_of_methodNamed Bd.named Bd.method).1 Bd.returns (BodyLoose.notSynchronized Bd) hZ (by rw [← hh, Bd.state]; rfl)
theorem g_callS (X : Stand p l e R s m args below meth c T locs cells slots) (hx : p.tables.exec = Jvm.exec) (hZ : Z.Warmed39 s.vm) {own : String} (hown : s.vm.findClass own = some m.cls) {i : Nat} {y : MethodName} {bytes : ByteArray} {maxL : Nat} {ret : Option FieldType} (w1 : (Cond.methodLink own i y).before a0 Z = true) (w2 : (Cond.static y).before a0 Z = true) (w3 : (Cond.initialized y.cls).before a0 Z = true) (w4 : (Cond.code y bytes maxL ret).before a0 Z = true)  (hy : y.cls ≠ "java/lang/invoke/MethodHandle" ∧ y.cls ≠ "java/lang/invoke/VarHandle") (eT : T.heap = h) {rm : Room} {Q : Option Value → Heap → List Loc → Prop} {St : List Value} (argsL rest : List Value) (hs : St = argsL.reverse ++ rest) (M : Co l y bytes maxL ret [] rm Z h argsL.toArray Q) (hlen : ∀ sig, parseMethodDescriptor y.desc = some sig → argsL.length = sig.parameters.length) (W : Nat) (hW : (rest.map fun v => v.category).sum ≤ W) (hf : rm.frames + 1 ≤ R.frames) (hl : W + (maxL + 11) + rm.locals ≤ R.locals) (hc : cells + rm.cells ≤ R.cells) (hsl : slots + rm.slots ≤ R.slots) (hsz : Ls.size = c.maxLocals) (hd : decode c.code pc = .ok (.invokestatic i, 3)) (pc' : Nat) (hp : pc + 3 = pc') (G : ∀ v T' L, Stand p l e R s m args below meth c T' (locs ++ L) (cells + rm.cells) (slots + rm.slots) → Q v T'.heap L → Go p e below P T' (mkF m pc' Ls (v.toList ++ rest))) : Go p e below P T (mkF m pc Ls St) := by
  subst hp
  obtain ⟨v, vm1, ⟨T', L', k', n'⟩, -, X', ⟨L, hQ, h1, h2, h3⟩, k⟩ := Jvm.LawKit.callS X hx (y := y) hown (mvT hZ w1) (mvT hZ w2) (mvT hZ w3) (mvT hZ w4) hy (backOf (W := W) M hZ w4 w3 hf hl) (g := mkF m pc Ls St) rfl hsz (argsL := argsL) (rest := rest) hlen hs (by show 2 * 0 + _ ≤ W; omega) hd (fun _ _ => ⟨rfl, eT, hc, hsl⟩)
  dsimp only [Pt.U, Pt.locs, Pt.cells, Pt.slots] at X' h1 h2 h3 k hQ
  subst h1 h2 h3
  exact (G v T' L X' hQ).stp k
theorem g_init (X : Stand p l e R s m args below meth c T locs cells slots) (hx : p.tables.exec = Jvm.exec) (hZ : Z.Warmed39 s.vm) {own : String} (hown : s.vm.findClass own = some m.cls) {i : Nat} {y : MethodName} {bytes : ByteArray} {maxL : Nat} (w1 : (Cond.methodLink own i y).before a0 Z = true) (hnm : y.name = "<init>") (w2 : (Cond.instanceMethod y).before a0 Z = true) (w3 : (Cond.initialized y.cls).before a0 Z = true) (w4 : (Cond.code y bytes maxL none).before a0 Z = true)  (hy : y.cls ≠ "java/lang/invoke/MethodHandle" ∧ y.cls ≠ "java/lang/invoke/VarHandle") (eT : T.heap = h) {rm : Room} {Q : Option Value → Heap → List Loc → Prop} {St : List Value} (argsL rest : List Value) {a : Addr} (hs : St = argsL.reverse ++ .ref a :: rest) (M : Co l y bytes maxL none [] rm Z h (.ref a :: argsL).toArray Q) (hlen : ∀ sig, parseMethodDescriptor y.desc = some sig → argsL.length = sig.parameters.length) (W : Nat) (hW : (rest.map fun v => v.category).sum ≤ W) (hf : rm.frames + 1 ≤ R.frames) (hl : W + (maxL + 11) + rm.locals ≤ R.locals) (hc : cells + rm.cells ≤ R.cells) (hsl : slots + rm.slots ≤ R.slots) (hsz : Ls.size = c.maxLocals) (hd : decode c.code pc = .ok (.invokespecial i, 3)) (pc' : Nat) (hp : pc + 3 = pc') (G : ∀ v T' L, Stand p l e R s m args below meth c T' (locs ++ L) (cells + rm.cells) (slots + rm.slots) → Q v T'.heap L → Go p e below P T' (mkF m pc' Ls (v.toList ++ rest))) : Go p e below P T (mkF m pc Ls St) := by
  subst hp
  obtain ⟨v, vm1, ⟨T', L', k', n'⟩, -, X', ⟨L, hQ, h1, h2, h3⟩, k⟩ := X.specialBack hx (y := y) hnm hown (mvT hZ w1) (mvT hZ w2) (mvT hZ w4) hy (backOf (W := W) M hZ w4 w3 hf hl) (g := mkF m pc Ls St) rfl hsz (Steps.refl _) (a := a) (argsL := argsL) (rest := rest) hlen hs (by show 2 * 0 + _ ≤ W; omega) hd (fun _ _ => ⟨rfl, eT, hc, hsl⟩)
  dsimp only [Pt.U, Pt.locs, Pt.cells, Pt.slots] at X' h1 h2 h3 k hQ
  subst h1 h2 h3
  exact (G v T' L X' hQ).stp fun _ j => k.trans j
theorem g_callV (X : Stand p l e R s m args below meth c T locs cells slots) (hx : p.tables.exec = Jvm.exec) (hZ : Z.Warmed39 s.vm) {own : String} (hown : s.vm.findClass own = some m.cls) {i : Nat} {y : MethodName} {bytes : ByteArray} {maxL : Nat} {ret : Option FieldType} (w1 : (Cond.methodLink own i y).before a0 Z = true) {C : String} (w2 : (Cond.declares y).before a0 Z = true) (w5 : (Cond.selects C y y).before a0 Z = true) (w6 : (Cond.instanceMethod y).before a0 Z = true) (w3 : (Cond.initialized y.cls).before a0 Z = true) (w4 : (Cond.code y bytes maxL ret).before a0 Z = true)  (hy : y.cls ≠ "java/lang/invoke/MethodHandle" ∧ y.cls ≠ "java/lang/invoke/VarHandle") (eT : T.heap = h) {rm : Room} {Q : Option Value → Heap → List Loc → Prop} {St : List Value} (argsL rest : List Value) {a : Addr} (E : Exa Z h a C) (hs : St = argsL.reverse ++ .ref a :: rest) (M : Co l y bytes maxL ret [] rm Z h (.ref a :: argsL).toArray Q) (hlen : ∀ sig, parseMethodDescriptor y.desc = some sig → argsL.length = sig.parameters.length) (W : Nat) (hW : (rest.map fun v => v.category).sum ≤ W) (hf : rm.frames + 1 ≤ R.frames) (hl : W + (maxL + 11) + rm.locals ≤ R.locals) (hc : cells + rm.cells ≤ R.cells) (hsl : slots + rm.slots ≤ R.slots) (hsz : Ls.size = c.maxLocals) (hd : decode c.code pc = .ok (.invokevirtual i, 3)) (pc' : Nat) (hp : pc + 3 = pc') (G : ∀ v T' L, Stand p l e R s m args below meth c T' (locs ++ L) (cells + rm.cells) (slots + rm.slots) → Q v T'.heap L → Go p e below P T' (mkF m pc' Ls (v.toList ++ rest))) : Go p e below P T (mkF m pc Ls St) := by
  subst hp
  obtain ⟨cq, kq, qa, qb, qc⟩ := isOf hZ eT E
  obtain ⟨v, vm1, ⟨T', L', k', n'⟩, -, X', ⟨L, hQ, h1, h2, h3⟩, k⟩ := X.virtualBack hx (y := y) (z := y) hown (mvT hZ w1) (mvT hZ w2) (notFace_of_selects (args := #[]) (mvT hZ w5)) (mvT hZ w5) (mvT hZ w6) hy (backOf (W := W) M hZ w4 w3 hf hl) qa qc (g := mkF m pc Ls St) rfl hsz (Steps.refl _) (argsL := argsL) (rest := rest) hlen hs (by show 2 * 0 + _ ≤ W; omega) hd (fun _ _ => ⟨rfl, eT, hc, hsl⟩)
  dsimp only [Pt.U, Pt.locs, Pt.cells, Pt.slots] at X' h1 h2 h3 k hQ
  subst h1 h2 h3
  exact (G v T' L X' hQ).stp fun _ j => k.trans j
theorem g_callP (X : Stand p l e R s m args below meth c T locs cells slots) (hx : p.tables.exec = Jvm.exec) (hZ : Z.Warmed39 s.vm) {own : String} (hown : s.vm.findClass own = some m.cls) {i : Nat} {y : MethodName} {bytes : ByteArray} {maxL : Nat} {ret : Option FieldType} (w1 : (Cond.methodLink own i y).before a0 Z = true) {n : Nat} (w2 : (Cond.instanceMethod y).before a0 Z = true) (w5 : (Cond.privateMethod y).before a0 Z = true) (wi : (Cond.instantiable y.cls n).before a0 Z = true) (w3 : (Cond.initialized y.cls).before a0 Z = true) (w4 : (Cond.code y bytes maxL ret).before a0 Z = true)  (hy : y.cls ≠ "java/lang/invoke/MethodHandle" ∧ y.cls ≠ "java/lang/invoke/VarHandle") (eT : T.heap = h) {rm : Room} {Q : Option Value → Heap → List Loc → Prop} {St : List Value} (argsL rest : List Value) {a : Addr} (E : Exa Z h a y.cls) (hs : St = argsL.reverse ++ .ref a :: rest) (M : Co l y bytes maxL ret [] rm Z h (.ref a :: argsL).toArray Q) (hlen : ∀ sig, parseMethodDescriptor y.desc = some sig → argsL.length = sig.parameters.length) (W : Nat) (hW : (rest.map fun v => v.category).sum ≤ W) (hf : rm.frames + 1 ≤ R.frames) (hl : W + (maxL + 11) + rm.locals ≤ R.locals) (hc : cells + rm.cells ≤ R.cells) (hsl : slots + rm.slots ≤ R.slots) (hsz : Ls.size = c.maxLocals) (hd : decode c.code pc = .ok (.invokevirtual i, 3)) (pc' : Nat) (hp : pc + 3 = pc') (G : ∀ v T' L, Stand p l e R s m args below meth c T' (locs ++ L) (cells + rm.cells) (slots + rm.slots) → Q v T'.heap L → Go p e below P T' (mkF m pc' Ls (v.toList ++ rest))) : Go p e below P T (mkF m pc Ls St) := by
  subst hp
  obtain ⟨cl, q1, q2⟩ := E.cell
  have wi' : (Cond.instantiable y.cls n).before args s = true := mv hZ wi
  obtain ⟨ci, ki, i1, i2, i3, i4, -⟩ := Cond.instantiable_spec wi'
  have hpr : s.PrivateAt y := Cond.privateMethod_at (mvP hZ w5 (args := #[]))
  have hsel : (Cond.selects y.cls y y).before args s = true := selects_self_of_private i1 i2 (by simp only [Bool.or_eq_false_iff] at i4; exact i4.1) hpr (mv hZ w2) hy
  obtain ⟨v, vm1, ⟨T', L', k', n'⟩, -, X', ⟨L, hQ, h1, h2, h3⟩, k⟩ := X.privateBack hx (y := y) hown (mvT hZ w1) (mvT hZ w2) hsel hpr (mvT hZ w4) hy (backOf (W := W) M hZ w4 w3 hf hl) (g := mkF m pc Ls St) rfl hsz (Steps.refl _) (a := a) (by rw [eT]; exact q1) q2 (argsL := argsL) (rest := rest) hlen hs (by show 2 * 0 + _ ≤ W; omega) hd (fun _ _ => ⟨rfl, eT, hc, hsl⟩)
  dsimp only [Pt.U, Pt.locs, Pt.cells, Pt.slots] at X' h1 h2 h3 k hQ
  subst h1 h2 h3
  exact (G v T' L X' hQ).stp fun _ j => k.trans j
def Pu (h : Heap) (v : Option Value) (r : Option Value) (h' : Heap) (L : List Loc) : Prop := r = v ∧ h' = h ∧ L = []
theorem pu_cont {v : Option Value} {fr lo : Nat} {pc' : Nat} {rest : List Value} (G : ∀ T', Stand p l e R s m args below meth c T' locs cells slots → T'.heap = h → Go p e below P T' (mkF m pc' Ls (v.toList ++ rest))) : ∀ v' T' L, Stand p l e R s m args below meth c T' (locs ++ L) (cells + ({ frames := fr, cells := 0, slots := 0, locals := lo } : Room).cells) (slots + ({ frames := fr, cells := 0, slots := 0, locals := lo } : Room).slots) → Pu h v v' T'.heap L → Go p e below P T' (mkF m pc' Ls (v'.toList ++ rest)) := by
  rintro v' T' L X ⟨rfl, e1, rfl⟩
  exact G T' (by simpa using X) e1
theorem Go.joinT {α : Type} {g : JFrame} (X : Stand p l e R s m args below meth c T locs cells slots) (eT : T.heap = h) (f : α → JFrame) (Pz : α → Prop) (J : ∀ T', Stand p l e R s m args below meth c T' locs cells slots → T'.heap = h → ∀ z, Pz z → Go p e below P T' (f z)) (K : (∀ T', Stand p l e R s m args below meth c T' locs cells slots → T'.heap = h → ∀ z, Pz z → Go p e below P T' (f z)) → Go p e below P T g) : Go p e below P T g := K J
theorem Go.joinH {α : Type} {g : JFrame} (X : Stand p l e R s m args below meth c T locs cells slots) (f : α → JFrame) (Pz : Heap → List Loc → α → Prop) (kc kn : Nat) (J : ∀ T' h' locs', Stand p l e R s m args below meth c T' locs' kc kn → T'.heap = h' → ∀ z, Pz h' locs' z → Go p e below P T' (f z)) (K : (∀ T' h' locs', Stand p l e R s m args below meth c T' locs' kc kn → T'.heap = h' → ∀ z, Pz h' locs' z → Go p e below P T' (f z)) → Go p e below P T g) : Go p e below P T g := K J
theorem Go.loop {α : Type} (X : Stand p l e R s m args below meth c T locs cells slots) (eT : T.heap = h) (f : α → JFrame) (μ : α → Nat) (Pz : α → Prop) (body : ∀ z, Pz z → (∀ T', Stand p l e R s m args below meth c T' locs cells slots → T'.heap = h → ∀ z', Pz z' → μ z' < μ z → Go p e below P T' (f z')) → ∀ T', Stand p l e R s m args below meth c T' locs cells slots → T'.heap = h → Go p e below P T' (f z)) (z : α) (hz : Pz z) : Go p e below P T (f z) := by
  have key : ∀ n, ∀ z, μ z < n → Pz z → ∀ T', Stand p l e R s m args below meth c T' locs cells slots → T'.heap = h → Go p e below P T' (f z) := by
    intro n
    induction n with
    | zero => intro z hn; exact absurd hn (Nat.not_lt_zero _)
    | succ n ih =>
      intro z hn hz T' X' e'
      exact body z hz (fun T2 X2 e2 z2 hz2 hlt => ih z2 (by omega) hz2 T2 X2 e2) T' X' e'
  exact key (μ z + 1) z (Nat.lt_succ_self _) hz T X eT
theorem Go.loopH {α : Type} (X : Stand p l e R s m args below meth c T locs cells slots) (eT : T.heap = h) (f : α → JFrame) (μ : α → Nat) (Pz : Heap → List Loc → α → Prop) (body : ∀ z h' locs', Pz h' locs' z → (∀ T' h2 locs2, Stand p l e R s m args below meth c T' locs2 cells slots → T'.heap = h2 → ∀ z', Pz h2 locs2 z' → μ z' < μ z → Go p e below P T' (f z')) → ∀ T', Stand p l e R s m args below meth c T' locs' cells slots → T'.heap = h' → Go p e below P T' (f z)) (z : α) (hz : Pz h locs z) : Go p e below P T (f z) := by
  have key : ∀ n, ∀ z h' locs', μ z < n → Pz h' locs' z → ∀ T', Stand p l e R s m args below meth c T' locs' cells slots → T'.heap = h' → Go p e below P T' (f z) := by
    intro n
    induction n with
    | zero => intro z h' locs' hn; exact absurd hn (Nat.not_lt_zero _)
    | succ n ih =>
      intro z h' locs' hn hz T' X' e'
      exact body z h' locs' hz (fun T2 h2 locs2 X2 e2 z2 hz2 hlt => ih z2 h2 locs2 (by omega) hz2 T2 X2 e2) T' X' e'
  exact key (μ z + 1) z h locs (Nat.lt_succ_self _) hz T X eT
theorem own_sta_keep {C n d : String} {v : Value} {h' : Heap} {ws : List Addr} (F : Sta Z h C n d v) (K : Keep h h' ws) (q : ∀ x ∈ ws, ∀ cell : Cell, h[x]? = some cell → cell.vm.isStatics = false) : Sta Z h' C n d v := by
  obtain ⟨cf, i, k, f, st, cell, h1, h2, h3, h4, h5, h6, h7⟩ := F
  exact ⟨cf, i, k, f, st, cell, h1, h2, h3, h4, K.2.1 st cell h5 (fun hm => by rw [q st hm cell h5] at h6; cases h6), h6, h7⟩
end OwnGo
section OwnWide
variable {p : Program} {l : Launch} {e : Env} {R : Room} {s : State} {m : MethodId} {args : Array Value} {below : List Frame} {meth : Method} {c : Code} {T : State} {locs : List Loc} {cells slots : Nat} {P : State → Outcome → Prop} {pc : Nat} {Ls : Array Slot} {st : List Value} {Z : State} {a0 : Array Value} {h : Heap} {vm : Vm} {EL : List (String × Nat)} {k0 : Nat}
def RPH (s : State) (Z : State) (EL : List (String × Nat)) (k n : Nat) (Q : Option Value → Heap → List Loc → Prop) (t : State) (o : Outcome) : Prop := ∃ v L, o = .returned v ∧ Q v t.heap L ∧ CHr Z EL s.vm s.heap t.vm t.heap ∧ ReturnedEndW s o t L k n
def CoH (l : Launch) (y : MethodName) (bytes : ByteArray) (maxL : Nat) (ret : Option FieldType) (ws : List Jvm.Cond) (rm : Room) (Z : State) (EL : List (String × Nat)) (h : Heap) (as : Array Value) (Q : Option Value → Heap → List Loc → Prop) : Prop := MetFree l y (head1 (Jvm.Cond.code y bytes maxL ret :: ws) rm) (fun a U => a = as ∧ Z.Warmed39 U.vm ∧ U.heap = h ∧ CHv Z EL U.vm h) (fun _ _ _ _ _ => True) (fun _ U o U' => ∃ v L, o = .returned v ∧ Q v U'.heap L ∧ CHr Z EL U.vm U.heap U'.vm U'.heap ∧ ReturnedEndW U o U' L rm.cells rm.slots)
theorem CoH.of {y : MethodName} {bytes : ByteArray} {maxL : Nat} {ret : Option FieldType} {ws : List Jvm.Cond} {rm : Room} {as : Array Value} {Q : Option Value → Heap → List Loc → Prop} (hpl : plainFor y = true) (body : ∀ (p : Program) (e : Env) (s : State) (m : MethodId) (below : List Frame) (meth : Method) (c : Code) (T : State), Stand p l e rm (s.setVm s.vm) m as below meth c T [] 0 0 → p.tables.exec = Jvm.exec → c.code = bytes → c.maxLocals = maxL → s.vm.findClass y.cls = some m.cls → meth.name = y.name → meth.sig.returnType = ret → meth.locks = false → Z.Warmed39 s.vm → T.heap = h → s.heap = h → s.Since s.vm h.size → CHr Z EL s.vm s.heap s.vm h → Go p e below (RPH s Z EL rm.cells rm.slots Q) T (entryFrame m as maxL)) : CoH l y bytes maxL ret ws rm Z EL h as Q := by
  refine MetFree.of_bodySF hpl hisR ?_
  intro p e s m args below meth c s₁ Bd hml hP hK
  obtain ⟨rfl, hZ, hh, hC⟩ := hP
  have Xb : Stand p l e rm s m args below meth c s₁ [] 0 0 := Stand.of_body Bd
  refine body p e s m below meth c s₁ Xb Bd.exec Bd.bytes hml (findClass_of_methodNamed Bd.named) (name_of_methodNamed Bd.named Bd.method).1 Bd.returns (BodyLoose.notSynchronized Bd) hZ (by rw [← hh, Bd.state]; rfl) hh ((State.WarmedH.refl s).since _) ?_
  rw [hh]
  exact CHr.refl hC
theorem g_retiH (X : Stand p l e R (s.setVm vm) m args below meth c T locs cells slots) (hx : p.tables.exec = Jvm.exec) {z : Int32} (hret : meth.sig.returnType = some .int) (hlk : meth.locks = false) {k n : Nat} {Q : Option Value → Heap → List Loc → Prop} (hk : cells ≤ k) (hn : slots ≤ n) (hd : decode c.code pc = .ok (.ireturn, 1)) (eT : T.heap = h) (hZ : Z.Warmed39 vm) (hS : s.Since vm k0) (hk0 : k0 ≤ h.size) (hEL : EW Z a0 EL) (H : CHr Z EL s.vm s.heap vm h) (hq : Q (some (.int z)) h locs) : Go p e below (RPH s Z EL k n Q) T (mkF m pc Ls (.int z :: st)) := by
  obtain ⟨fs, hr, hrun, hended, hW, hsame⟩ := X.leave (v := (some (.int z))) (fun h => by first | rfl | (rw [hret] at h; cases h)) hlk
  have en := hS.ended hW (by show k0 ≤ T.heap.size; rw [eT]; exact hk0) (hsame.mono hk hn)
  refine ⟨_, _, retOut X hx hret rfl (Or.inl ⟨rfl, Or.inl rfl, z, rfl⟩) hd hr, hrun, hended, _, _, rfl, ?_, ?_, ⟨_, rfl⟩, en.1, en.2.1, en.2.2⟩
  · show Q _ T.heap _
    rw [eT]; exact hq
  · show CHr Z EL s.vm s.heap T.vm T.heap
    rw [eT]; exact H.trans (CHv.at X hZ hEL H.1)
theorem g_retzH (X : Stand p l e R (s.setVm vm) m args below meth c T locs cells slots) (hx : p.tables.exec = Jvm.exec) {z : Int32} (hret : meth.sig.returnType = some .boolean) (hlk : meth.locks = false) {k n : Nat} {Q : Option Value → Heap → List Loc → Prop} (hk : cells ≤ k) (hn : slots ≤ n) (hd : decode c.code pc = .ok (.ireturn, 1)) (eT : T.heap = h) (hZ : Z.Warmed39 vm) (hS : s.Since vm k0) (hk0 : k0 ≤ h.size) (hEL : EW Z a0 EL) (H : CHr Z EL s.vm s.heap vm h) (hq : Q (some (.int (z &&& 1))) h locs) : Go p e below (RPH s Z EL k n Q) T (mkF m pc Ls (.int z :: st)) := by
  obtain ⟨fs, hr, hrun, hended, hW, hsame⟩ := X.leave (v := (some (.int (z &&& 1)))) (fun h => by first | rfl | (rw [hret] at h; cases h)) hlk
  have en := hS.ended hW (by show k0 ≤ T.heap.size; rw [eT]; exact hk0) (hsame.mono hk hn)
  refine ⟨_, _, retN X hx (t := .boolean) hret (by simp) hd hr, hrun, hended, _, _, rfl, ?_, ?_, ⟨_, rfl⟩, en.1, en.2.1, en.2.2⟩
  · show Q _ T.heap _
    rw [eT]; exact hq
  · show CHr Z EL s.vm s.heap T.vm T.heap
    rw [eT]; exact H.trans (CHv.at X hZ hEL H.1)
theorem g_retaH (X : Stand p l e R (s.setVm vm) m args below meth c T locs cells slots) (hx : p.tables.exec = Jvm.exec) {v : Value} {t : FieldType} (hv : v.isRef = true) (ht : t.isReference = true) (hret : meth.sig.returnType = some t) (hlk : meth.locks = false) {k n : Nat} {Q : Option Value → Heap → List Loc → Prop} (hk : cells ≤ k) (hn : slots ≤ n) (hd : decode c.code pc = .ok (.areturn, 1)) (eT : T.heap = h) (hZ : Z.Warmed39 vm) (hS : s.Since vm k0) (hk0 : k0 ≤ h.size) (hEL : EW Z a0 EL) (H : CHr Z EL s.vm s.heap vm h) (hq : Q (some v) h locs) : Go p e below (RPH s Z EL k n Q) T (mkF m pc Ls (v :: st)) := by
  obtain ⟨fs, hr, hrun, hended, hW, hsame⟩ := X.leave (v := (some v)) (fun h => by first | rfl | (rw [hret] at h; cases h)) hlk
  have en := hS.ended hW (by show k0 ≤ T.heap.size; rw [eT]; exact hk0) (hsame.mono hk hn)
  refine ⟨_, _, retOut X hx hret (by cases t <;> first | (cases ht; done) | rfl) (Or.inr (Or.inr (Or.inr (Or.inr ⟨rfl, ht, hv⟩)))) hd hr, hrun, hended, _, _, rfl, ?_, ?_, ⟨_, rfl⟩, en.1, en.2.1, en.2.2⟩
  · show Q _ T.heap _
    rw [eT]; exact hq
  · show CHr Z EL s.vm s.heap T.vm T.heap
    rw [eT]; exact H.trans (CHv.at X hZ hEL H.1)
theorem g_retvH (X : Stand p l e R (s.setVm vm) m args below meth c T locs cells slots) (hx : p.tables.exec = Jvm.exec)  (hret : meth.sig.returnType = none) (hlk : meth.locks = false) {k n : Nat} {Q : Option Value → Heap → List Loc → Prop} (hk : cells ≤ k) (hn : slots ≤ n) (hd : decode c.code pc = .ok (.return_, 1)) (eT : T.heap = h) (hZ : Z.Warmed39 vm) (hS : s.Since vm k0) (hk0 : k0 ≤ h.size) (hEL : EW Z a0 EL) (H : CHr Z EL s.vm s.heap vm h) (hq : Q none h locs) : Go p e below (RPH s Z EL k n Q) T (mkF m pc Ls []) := by
  obtain ⟨fs, hr, hrun, hended, hW, hsame⟩ := X.leave (v := none) (fun h => by first | rfl | (rw [hret] at h; cases h)) hlk
  have en := hS.ended hW (by show k0 ≤ T.heap.size; rw [eT]; exact hk0) (hsame.mono hk hn)
  refine ⟨_, _, X.returnOut hx hret hd hr, hrun, hended, _, _, rfl, ?_, ?_, ⟨_, rfl⟩, en.1, en.2.1, en.2.2⟩
  · show Q _ T.heap _
    rw [eT]; exact hq
  · show CHr Z EL s.vm s.heap T.vm T.heap
    rw [eT]; exact H.trans (CHv.at X hZ hEL H.1)
theorem g_ldcO (X : Stand p l e R (s.setVm vm) m args below meth c T locs cells slots) (hx : p.tables.exec = Jvm.exec) {own text : String} {i : Nat} (hown : vm.findClass own = some m.cls) (ws : (Cond.stringLink own i text).before a0 Z = true) (wS : ∀ a ∈ Bundle.stringAtoms, a.before a0 Z = true) (eT : T.heap = h) (hZ : Z.Warmed39 vm) (hS : s.Since vm k0) (hk0 : k0 ≤ h.size) (hEL : EW Z a0 EL) (H : CHr Z EL s.vm s.heap vm h) (hd : decode c.code pc = .ok (.ldc i, 2)) {n : Nat} (hn : 4 * text.toList.length ≤ n) (hbig : n ≤ 536870912) (hc : cells + 2 ≤ R.cells) (hl : slots + (n + 4) ≤ R.slots) (pc' : Nat) (hp : pc + 2 = pc') (G : ∀ a T' h' k1, Stand p l e R (s.setVm T'.vm) m args below meth c T' locs (cells + 2) (slots + (n + 4)) → T'.heap = h' → Ext h h' → Z.Warmed39 T'.vm → T'.vm.findClass own = some m.cls → s.Since T'.vm k1 → k1 ≤ h'.size → CHr Z EL s.vm s.heap T'.vm h' → Go p e below P T' (mkF m pc' Ls (.ref a :: st))) : Go p e below P T (mkF m pc Ls st) := by
  subst hp
  obtain ⟨a, T', h', k1, X', e', E, hS', hk', hZ', ho', hC, -, k⟩ := ldcOH X hx hZ hown ws wS eT hS hk0 hEL H.1 (g := mkF m pc Ls st) rfl hd hn hbig hc hl
  exact (G a T' h' k1 X' e' E hZ' ho' hS' hk' (H.trans hC)).stp k
theorem av_of_arv {a : Addr} {k : ClassId} {ty : FieldType} {z : Int32} {vs : List Value} {d : Value} (F : Arv Z h a k ty z vs d) (hl : z.toNatClampNeg = vs.length) (hb : vs.length < 2 ^ 31) : AV Z h a ty vs := by
  obtain ⟨c, A, -, S, -, Hs, -⟩ := F
  refine ⟨c, A, ?_, hb⟩
  apply Array.ext
  · simp [S, hl]
  · intro i h1 h2
    have q := Hs i h1
    rw [Array.getElem?_eq_getElem h1] at q
    have h3 : i < vs.length := by simpa using h2
    simpa [List.getD_eq_getElem?_getD, List.getElem?_eq_getElem h3] using q
theorem g_ldcC (X : Stand p l e R (s.setVm vm) m args below meth c T locs cells slots) (hx : p.tables.exec = Jvm.exec) {own text : String} {i : Nat} (hown : vm.findClass own = some m.cls) (ws : (Cond.stringLink own i text).before a0 Z = true) (wS : ∀ a ∈ Bundle.stringAtoms, a.before a0 Z = true) (eT : T.heap = h) (hZ : Z.Warmed39 vm) (hS : s.Since vm k0) (hk0 : k0 ≤ h.size) (hEL : EW Z a0 EL) (H : CHr Z EL s.vm s.heap vm h) (hmem : (own, i) ∈ EL) {vs : List Value} {z : Int32} (ht : (∀ c ∈ text.toList, c.toNat < 256) ∧ text.toList.map (fun c => Value.int (Jvm.Lit.byteI c.toNat.toUInt16)) = vs) (hz : ¬ z < 0) (hzl : z.toNatClampNeg = vs.length) (hvl : vs.length < 2 ^ 31) (hd : decode c.code pc = .ok (.ldc i, 2)) {n : Nat} (hn : 4 * text.toList.length ≤ n) (hbig : n ≤ 536870912) (hc : cells + 2 ≤ R.cells) (hl : slots + (n + 4) ≤ R.slots) (pc' : Nat) (hp : pc + 2 = pc') (G : ∀ a b T' h' k1, Stand p l e R (s.setVm T'.vm) m args below meth c T' locs (cells + 2) (slots + (n + 4)) → T'.heap = h' → Ext h h' → Z.Warmed39 T'.vm → T'.vm.findClass own = some m.cls → s.Since T'.vm k1 → k1 ≤ h'.size → CHr Z EL s.vm s.heap T'.vm h' → Exa Z h' a "java/lang/String" → Fld Z h' a "java/lang/String" "coder" "B" (.int 0) → Fld Z h' a "java/lang/String" "value" "[B" (.ref b) → AV Z h' b .byte vs → (∀ x, Safe Z EL T'.vm h' x → x ≠ a ∧ x ≠ b) → Go p e below P T' (mkF m pc' Ls (.ref a :: st))) : Go p e below P T (mkF m pc Ls st) := by
  subst hp
  obtain ⟨a, T', h', k1, b, kk, X', e', E, hS', hk', hZ', ho', EA, FC, FV, AB, -, -, hC, -, hsf, k⟩ := ldcCH X hx hZ hown ws wS eT hS hk0 hEL hmem H.1 ht hz hzl (g := mkF m pc Ls st) rfl hd hn hbig hc hl
  exact (G a b T' h' k1 X' e' E hZ' ho' hS' hk' (H.trans hC) EA FC FV (av_of_arv AB hzl hvl) hsf).stp k
theorem g_callSH (X : Stand p l e R (s.setVm vm) m args below meth c T locs cells slots) (hx : p.tables.exec = Jvm.exec) {own : String} (hown : vm.findClass own = some m.cls) {i : Nat} {y : MethodName} {bytes : ByteArray} {maxL : Nat} {ret : Option FieldType} (w1 : (Cond.methodLink own i y).before a0 Z = true) (w2 : (Cond.static y).before a0 Z = true) (w3 : (Cond.initialized y.cls).before a0 Z = true) (w4 : (Cond.code y bytes maxL ret).before a0 Z = true)  (hy : y.cls ≠ "java/lang/invoke/MethodHandle" ∧ y.cls ≠ "java/lang/invoke/VarHandle") (eT : T.heap = h) {rm : Room} {Q : Option Value → Heap → List Loc → Prop} {St : List Value} (argsL rest : List Value) (hZ : Z.Warmed39 vm) (hS : s.Since vm k0) (hk0 : k0 ≤ h.size) (hEL : EW Z a0 EL) (H : CHr Z EL s.vm s.heap vm h) (hs : St = argsL.reverse ++ rest) (M : CoH l y bytes maxL ret [] rm Z EL h argsL.toArray Q) (hlen : ∀ sig, parseMethodDescriptor y.desc = some sig → argsL.length = sig.parameters.length) (W : Nat) (hW : (rest.map fun v => v.category).sum ≤ W) (hf : rm.frames + 1 ≤ R.frames) (hl : W + (maxL + 11) + rm.locals ≤ R.locals) (hc : cells + rm.cells ≤ R.cells) (hsl : slots + rm.slots ≤ R.slots) (hsz : Ls.size = c.maxLocals) (hd : decode c.code pc = .ok (.invokestatic i, 3)) (pc' : Nat) (hp : pc + 3 = pc') (G : ∀ v T' h' L, Stand p l e R (s.setVm T'.vm) m args below meth c T' (locs ++ L) (cells + rm.cells) (slots + rm.slots) → T'.heap = h' → Z.Warmed39 T'.vm → T'.vm.findClass own = some m.cls → s.Since T'.vm h'.size → CHr Z EL s.vm s.heap T'.vm h' → Q v h' L → Go p e below P T' (mkF m pc' Ls (v.toList ++ rest))) : Go p e below P T (mkF m pc Ls St) := by
  subst hp
  obtain ⟨v, vm1, ⟨T', L', k', n'⟩, -, X', hS', hgr, ⟨L, hQ, h1, h2, h3, h4⟩, k⟩ := callSS X hx (y := y) hown (mvT (s := s.setVm vm) hZ w1) (mvT (s := s.setVm vm) hZ w2) (mvT (s := s.setVm vm) hZ w3) (mvT (s := s.setVm vm) hZ w4) hy (backOfSH (W := W) M hZ w4 w3 hf hl hEL H.1) (g := mkF m pc Ls St) rfl hsz (argsL := argsL) (rest := rest) hlen hs (by show 2 * 0 + _ ≤ W; omega) hd (fun _ _ => ⟨rfl, eT, hc, hsl⟩)
  dsimp only [Pt.U, Pt.locs, Pt.cells, Pt.slots] at X' h1 h2 h3 h4 k hQ hS' hgr
  subst h1 h2 h3
  have hZ' : Z.Warmed39 T'.vm := State.Warmed39.trans (t := s.setVm vm) hZ hS'.1
  have ho' : T'.vm.findClass own = some m.cls := by rw [hS'.1.alike.findClass]; exact hown
  refine (G v T' _ L X' rfl hZ' ho' (hS.trans hS' (by rw [← eT] at hk0; omega)) (H.trans h4) hQ).stp ?_
  exact fun _ j => k.trans j
theorem g_initH (X : Stand p l e R (s.setVm vm) m args below meth c T locs cells slots) (hx : p.tables.exec = Jvm.exec) {own : String} (hown : vm.findClass own = some m.cls) {i : Nat} {y : MethodName} {bytes : ByteArray} {maxL : Nat} (w1 : (Cond.methodLink own i y).before a0 Z = true) (hnm : y.name = "<init>") (w2 : (Cond.instanceMethod y).before a0 Z = true) (w3 : (Cond.initialized y.cls).before a0 Z = true) (w4 : (Cond.code y bytes maxL none).before a0 Z = true)  (hy : y.cls ≠ "java/lang/invoke/MethodHandle" ∧ y.cls ≠ "java/lang/invoke/VarHandle") (eT : T.heap = h) {rm : Room} {Q : Option Value → Heap → List Loc → Prop} {St : List Value} (argsL rest : List Value) (hZ : Z.Warmed39 vm) (hS : s.Since vm k0) (hk0 : k0 ≤ h.size) (hEL : EW Z a0 EL) (H : CHr Z EL s.vm s.heap vm h) {a : Addr} (hs : St = argsL.reverse ++ .ref a :: rest) (M : CoH l y bytes maxL none [] rm Z EL h (.ref a :: argsL).toArray Q) (hlen : ∀ sig, parseMethodDescriptor y.desc = some sig → argsL.length = sig.parameters.length) (W : Nat) (hW : (rest.map fun v => v.category).sum ≤ W) (hf : rm.frames + 1 ≤ R.frames) (hl : W + (maxL + 11) + rm.locals ≤ R.locals) (hc : cells + rm.cells ≤ R.cells) (hsl : slots + rm.slots ≤ R.slots) (hsz : Ls.size = c.maxLocals) (hd : decode c.code pc = .ok (.invokespecial i, 3)) (pc' : Nat) (hp : pc + 3 = pc') (G : ∀ v T' h' L, Stand p l e R (s.setVm T'.vm) m args below meth c T' (locs ++ L) (cells + rm.cells) (slots + rm.slots) → T'.heap = h' → Z.Warmed39 T'.vm → T'.vm.findClass own = some m.cls → s.Since T'.vm h'.size → CHr Z EL s.vm s.heap T'.vm h' → Q v h' L → Go p e below P T' (mkF m pc' Ls (v.toList ++ rest))) : Go p e below P T (mkF m pc Ls St) := by
  subst hp
  obtain ⟨v, vm1, ⟨T', L', k', n'⟩, -, X', hS', hgr, ⟨L, hQ, h1, h2, h3, h4⟩, k⟩ := X.specialBackS hx (y := y) hnm hown (mvT (s := s.setVm vm) hZ w1) (mvT (s := s.setVm vm) hZ w2) (mvT (s := s.setVm vm) hZ w4) hy (backOfSH (W := W) M hZ w4 w3 hf hl hEL H.1) (g := mkF m pc Ls St) rfl hsz (Steps.refl _) (a := a) (argsL := argsL) (rest := rest) hlen hs (by show 2 * 0 + _ ≤ W; omega) hd (fun _ _ => ⟨rfl, eT, hc, hsl⟩)
  dsimp only [Pt.U, Pt.locs, Pt.cells, Pt.slots] at X' h1 h2 h3 h4 k hQ hS' hgr
  subst h1 h2 h3
  have hZ' : Z.Warmed39 T'.vm := State.Warmed39.trans (t := s.setVm vm) hZ hS'.1
  have ho' : T'.vm.findClass own = some m.cls := by rw [hS'.1.alike.findClass]; exact hown
  refine (G v T' _ L X' rfl hZ' ho' (hS.trans hS' (by rw [← eT] at hk0; omega)) (H.trans h4) hQ).stp ?_
  exact fun _ j => k.trans j
theorem AV.safe {a : Addr} {ty : FieldType} {vs : List Value} (hal : Z.vm.Alike vm) (F : AV Z h a ty vs) (ht : ty ≠ .byte) : Safe Z EL vm h a := by obtain ⟨c, A, -⟩ := F; exact Safe.arr hal A ht
theorem own_safe_new {h' : Heap} {b : Addr} (H : CHv Z EL vm h) (E : Ext h h') (gb : b = h.size) : Safe Z EL vm h' b := Safe.ext E H (Safe.new (Nat.le_of_eq gb.symm))
theorem own_safe_null {x : Addr} (hal : Z.vm.Alike vm) (E : Exa Z h x "java/lang/String") (F : Fld Z h x "java/lang/String" "value" "[B" .null) : Safe Z EL vm h x := fun B => by
  obtain ⟨cell, k, e1, e2, e3, -, -⟩ := E
  obtain ⟨p, -, u, a, -, q, -, G, rfl | rfl⟩ := B
  · obtain ⟨cell', cf, k', i, f, g1, g2, -, -, -, -, g7⟩ := F
    cases (show h[q.sa]? = some q.sC from G.ha).symm.trans g1
    obtain ⟨cS, ⟨⟨-, -, -, ⟨c1, k1, i1, f1, -⟩, -, -, -, v1, -⟩, -⟩, -⟩ := G
    obtain ⟨k3, e4⟩ := ff_back (U := Wst Z vm h) hal f1
    have e5 := e4.symm.trans g2
    simp only [Option.some.injEq, Prod.mk.injEq] at e5
    rw [e5.2.2.2, g7] at v1
    cases v1
  · cases (show h[q.sd]? = some q.SA from G.hd).symm.trans e1
    obtain ⟨cS, -, -, f, -⟩ := G
    have f : vm.findClass "[B" = some q.SA.cls := f
    rw [hal.findClass] at f
    obtain ⟨k1, q1, q2⟩ := Vm.findClass_spec f
    obtain ⟨k2, q3, q4⟩ := Vm.findClass_spec e2
    cases q1.symm.trans q3
    exact absurd (q2.symm.trans q4) (by decide)
end OwnWide
def EL : List (String × Nat) := []
theorem own_wS {a0 : Array Value} {Z : State} (hw : ∀ d ∈ tables_1, d.before a0 Z = true) : ∀ a ∈ Bundle.stringAtoms, a.before a0 Z = true := by
  intro d hd
  simp only [Bundle.stringAtoms, List.mem_cons, List.not_mem_nil, or_false] at hd
  rcases hd with rfl | rfl | rfl | rfl | rfl | rfl | rfl
  · exact wd hw 22 rfl
  · exact wd hw 23 rfl
  · exact wd hw 24 rfl
  · exact wd hw 25 rfl
  · exact wd hw 26 rfl
  · exact wd hw 27 rfl
  · exact wd hw 28 rfl
theorem own_eqI {args : Array Value} {s : State} {t : Term} {i : Int32} (h : (Jvm.Cond.eq t (.int i)).value args s none s [] = some true) : t.eval args s none [] s = some (.int i) := by
  cases ht : t.eval args s none [] s with
  | none => simp [Cond.value, Term.eval, ht] at h
  | some v => cases v <;> simp [Cond.value, Term.eval, ht] at h; exact congrArg (fun z => some (Value.int z)) h
theorem own_fo {args : Array Value} {s : State} {t : Term} {C n d : String} {a : Addr} {i : Int32} (ev : t.eval args s none [] s = some (.ref a)) (h : (Jvm.Cond.eq (Term.field t C n d) (.int i)).value args s none s [] = some true) : Fld s s.heap a C n d (.int i) := Fld.start ((fld_at ev).symm.trans (own_eqI h))
theorem own_clamp {n : Nat} (h : n < 2 ^ 31) : n.toInt32.toNatClampNeg = n := by
  show (Int32.ofNat n).toNatClampNeg = n
  rw [Int32.toNatClampNeg, Int32.toInt_ofNat_of_lt h]
  simp
theorem own_arr_ref {args : Array Value} {s : State} {t : Term} {ty : FieldType} (h : (Jvm.Cond.arrayOf t ty).value args s none s [] = some true) : ∃ a, t.eval args s none [] s = some (.ref a) := by
  cases ht : t.eval args s none [] s with
  | none => simp [Cond.value, ht] at h
  | some v =>
    cases v with
    | ref a => exact ⟨a, rfl⟩
    | _ => simp [Cond.value, ht] at h
theorem own_av {args : Array Value} {s : State} {t : Term} {ty : FieldType} {b : Addr} {n : Int32} {vs : List Value} (ev : t.eval args s none [] s = some (.ref b)) (h1 : (Jvm.Cond.arrayOf t ty).value args s none s [] = some true) (hl : (Jvm.Cond.eq (Term.length t) (.int n)).value args s none s [] = some true) (hn : n.toNatClampNeg = vs.length) (he : ∀ i, i < vs.length → ∃ k : Int32, k.toNatClampNeg = i ∧ (Term.elem t (.int k)).eval args s none [] s = vs[i]?) : AV s s.heap b ty vs := by
  have q := own_eqI hl
  simp only [Term.eval, ev, Option.bind_eq_bind, Option.bind_some] at q
  obtain ⟨cell, hc, q⟩ := Option.bind_eq_some_iff.mp q
  by_cases hb : cell.slots.size < 2 ^ 31
  · rw [if_pos hb] at q
    have q2 : cell.slots.size.toInt32 = n := by simpa using q
    have hcell := (State.arrayAt?_spec hc).1
    have hA := Cond.arrayOf_spec (beq_iff_eq.mpr h1 : (Jvm.Cond.arrayOf t ty).holds args s none s [] = true) ev hcell
    have hsz : cell.slots.size = vs.length := by
      rw [← hn, ← q2]
      exact (own_clamp hb).symm
    refine ⟨cell, ⟨hcell, hA.1, hA.2⟩, ?_, by rw [← hsz]; exact hb⟩
    apply Array.ext
    · simpa using hsz
    · intro i h1 h2
      obtain ⟨k, hk, e⟩ := he i (by simpa using h2)
      rw [List.getElem?_eq_getElem (by simpa using h2)] at e
      obtain ⟨c', e1, -, e3⟩ := elem_at e ev rfl
      cases hcell.symm.trans e1
      rw [hk, Array.getElem?_eq_getElem h1] at e3
      simpa using Option.some.inj e3
  · rw [if_neg hb] at q
    cases q
theorem own_fld_inj {Z : State} {h : Heap} {a : Addr} {C n d : String} {u v : Value} (F : Fld Z h a C n d u) (G : Fld Z h a C n d v) : u = v := by
  obtain ⟨cell, cf, k, i, f, h1, h2, h3, h4, h5, h6, h7⟩ := F
  obtain ⟨cell', cf', k', i', f', g1, g2, g3, g4, g5, g6, g7⟩ := G
  have q := h2.symm.trans g2
  simp only [Option.some.injEq, Prod.mk.injEq] at q
  obtain ⟨-, -, -, rfl⟩ := q
  cases h1.symm.trans g1
  exact Option.some.inj (h7.symm.trans g7)
theorem own_av_inj {Z : State} {h : Heap} {a : Addr} {ty ty' : FieldType} {u v : List Value} (F : AV Z h a ty u) (G : AV Z h a ty' v) : u = v := by
  obtain ⟨c, A, r, -⟩ := F
  obtain ⟨c', A', r', -⟩ := G
  cases A.1.symm.trans A'.1
  have q := r.symm.trans r'
  simpa using q
theorem own_str_ne {Z : State} {h : Heap} {a o b c : Addr} {C n d : String} {u v : List Value} (F : Fld Z h a C n d (.ref b)) (A : AV Z h b .byte u) (G : Fld Z h o C n d (.ref c)) (B : AV Z h c .byte v) (hne : u ≠ v) : ¬ Value.ref a = Value.ref o := by
  intro q
  cases q
  cases own_fld_inj F G
  exact hne (own_av_inj A B)
theorem own_safe0 {Z : State} {vm : Vm} {h : Heap} {x : Addr} : Safe Z EL vm h x := fun B => by
  obtain ⟨p, hp, -⟩ := B
  exact absurd hp (by simp [EL])
def IC (Z : State) (h : Heap) (vs : List Value) : Prop := ∀ i, i < 256 → ∃ r, vs[i]? = some (.ref r) ∧ Exa Z h r "java/lang/Integer"
theorem IC.ext {Z : State} {h h' : Heap} {vs : List Value} (F : IC Z h vs) (E : Ext h h') : IC Z h' vs := fun i hi => by obtain ⟨r, a, b⟩ := F i hi; exact ⟨r, a, b.ext E⟩
theorem IC.wr {Z : State} {h h' : Heap} {vs : List Value} {a : Addr} {sl : Nat} {v : Value} (F : IC Z h vs) (W : Wr h h' a sl v) : IC Z h' vs := fun i hi => by obtain ⟨r, a, b⟩ := F i hi; exact ⟨r, a, b.wr W⟩
theorem IC.keep {Z : State} {h h' : Heap} {vs : List Value} {ws : List Addr} (F : IC Z h vs) (K : Keep h h' ws) : IC Z h' vs := fun i hi => by obtain ⟨r, a, b⟩ := F i hi; exact ⟨r, a, b.keep K⟩
theorem own_no {Z : State} {a0 : Array Value} {C S O K : String} {n : Nat} (w1 : (Cond.superclass C S).before a0 Z = true) (w2 : (Cond.superclass S O).before a0 Z = true) (w3 : (Cond.noSuperclass O).before a0 Z = true) (wi : (Cond.instantiable K n).before a0 Z = true) (hC : C ≠ K) (hS : S ≠ K) (hO : O ≠ K) : ∃ c t, Z.vm.findClass C = some c ∧ Z.vm.findClass K = some t ∧ Z.vm.assignable c t = false := by
  obtain ⟨t, kt, i1, i2, i3, i4, -⟩ := Cond.instantiable_spec wi
  obtain ⟨c, h0⟩ := found_sup w1
  obtain ⟨p, k, kp, h1, h2, h3, h4, h5, -, h7⟩ := Cond.superclass_spec h0 w1
  obtain ⟨o, k', ko, g1, g2, g3, g4, -⟩ := Cond.superclass_spec h1 w2
  obtain ⟨o', kr, r1, r2, r3, -, -⟩ := Cond.noSuperclass_spec w3
  cases g1.symm.trans r1
  have ne1 := ids_ne h0 i1 hC
  have ne2 := ids_ne h1 i1 hS
  have ne3 := ids_ne g1 i1 hO
  have n1 : ∀ fuel, Z.vm.isSubclassAux fuel o t = false := fun fuel => by
    cases fuel with
    | zero => rfl
    | succ f => simp [Vm.isSubclassAux, ne3, r2, r3]
  have n2 : ∀ fuel, Z.vm.isSubclassAux fuel p t = false := fun fuel => by
    cases fuel with
    | zero => rfl
    | succ f => simp [Vm.isSubclassAux, ne2, g2, g4, n1]
  have n3 : ∀ fuel, Z.vm.isSubclassAux fuel c t = false := fun fuel => by
    cases fuel with
    | zero => rfl
    | succ f => simp [Vm.isSubclassAux, ne1, h2, h4, n2]
  have hi : kt.isInterface = false := by simp only [Bool.or_eq_false_iff] at i4; exact i4.1
  refine ⟨c, t, h0, i1, ?_⟩
  show Z.vm.assignableAux (255 + 1) c t = false
  simp [Vm.assignableAux, ne1, h2, i2, h5, i3, hi, Vm.isSubclass, n3]
theorem d1_0 : decode jdk_29_method_65_code 0 = .ok (.iload_n 0, 1) := by decide +kernel
theorem d1_1 : decode jdk_29_method_65_code 1 = .ok (.iload_n 1, 1) := by decide +kernel
theorem d1_2 : decode jdk_29_method_65_code 2 = .ok (.if_icmp .lt 7, 3) := by decide +kernel
theorem d1_9 : decode jdk_29_method_65_code 9 = .ok (.iload_n 1, 1) := by decide +kernel
theorem d1_5 : decode jdk_29_method_65_code 5 = .ok (.iload_n 0, 1) := by decide +kernel
theorem d1_6 : decode jdk_29_method_65_code 6 = .ok (.goto 4, 3) := by decide +kernel
def mx (x : Int32) (y : Int32) : Int32 := if x < y then y else x
theorem ef1 (m_ : MethodId) (x : Int32) (y : Int32)  : entryFrame m_ #[(.int x), (.int y)] 2 = mkF m_ 0 #[.val (.int x), .val (.int y)] [] := by first | (simp [entryFrame, mkF, argsToLocals, Value.category]; done) | rfl
theorem d1_10 : decode jdk_29_method_65_code 10 = .ok (.ireturn, 1) := by decide +kernel
set_option maxRecDepth 65536 in
set_option maxHeartbeats 40000000 in
theorem co1 (l : Launch) (Z : State) (a0 : Array Value) (hw : ∀ d ∈ tables_1, d.before a0 Z = true) (x : Int32) (y : Int32) (h0 : Heap)  : Co l (⟨"java/lang/Math", "max", "(II)I"⟩ : MethodName) jdk_29_method_65_code 2 (some .int) [] ({ frames := 0, cells := 0, slots := 0, locals := 0 } : Room) Z h0 #[(.int x), (.int y)] (Pu h0 (some (.int (mx x y)))) := by
  refine Co.of (by decide +kernel) ?_
  intro p_ e_ s_ m_ below meth c_ T0 X0 hx hby hml hown hnm hret hlk hZ eq0
  refine Go.cast (ef1 m_ x y ) ?_
  refine g_iloadN X0 hx rfl (hb hby d1_0) 1 rfl ?_
  refine g_iloadN X0 hx rfl (hb hby d1_1) 2 rfl ?_
  refine g_icmp_lt X0 hx (hb hby d1_2) 9 5 (by decide) rfl rfl (fun q2 => ?_) (fun q2 => ?_)
  · refine g_iloadN X0 hx rfl (hb hby d1_9) 10 rfl ?_
    exact g_reti X0 hx hret hlk (by decide) (by decide) (hb hby d1_10) ⟨congrArg (fun z => some (Value.int z)) (show mx x y = _ from ((if_pos q2).trans rfl)).symm, eq0, rfl⟩
  · refine g_iloadN X0 hx rfl (hb hby d1_5) 6 rfl ?_
    refine g_goto X0 hx (hb hby d1_6) 10 (by decide) rfl ?_
    exact g_reti X0 hx hret hlk (by decide) (by decide) (hb hby d1_10) ⟨congrArg (fun z => some (Value.int z)) (show mx x y = _ from ((if_neg q2).trans rfl)).symm, eq0, rfl⟩
theorem d2_0 : decode method_2_code 0 = .ok (.iload_n 0, 1) := by decide +kernel
theorem d2_1 : decode method_2_code 1 = .ok (.ifCond .ne 7, 3) := by decide +kernel
theorem d2_8 : decode method_2_code 8 = .ok (.iload_n 0, 1) := by decide +kernel
theorem d2_9 : decode method_2_code 9 = .ok (.iconst 1, 1) := by decide +kernel
theorem d2_10 : decode method_2_code 10 = .ok (.if_icmp .ne 7, 3) := by decide +kernel
theorem d2_17 : decode method_2_code 17 = .ok (.iload_n 0, 1) := by decide +kernel
theorem d2_18 : decode method_2_code 18 = .ok (.iconst 2, 1) := by decide +kernel
theorem d2_19 : decode method_2_code 19 = .ok (.if_icmp .ne 7, 3) := by decide +kernel
theorem d2_26 : decode method_2_code 26 = .ok (.getstatic 19, 3) := by decide +kernel
theorem d2_22 : decode method_2_code 22 = .ok (.getstatic 16, 3) := by decide +kernel
theorem d2_13 : decode method_2_code 13 = .ok (.getstatic 13, 3) := by decide +kernel
theorem d2_4 : decode method_2_code 4 = .ok (.getstatic 7, 3) := by decide +kernel
def kof (x : Int32) (k_EARLY : Addr) (k_LATE : Addr) (k_MISSING : Addr) (k_UNDECIDED : Addr) : Addr := if x = (0 : Int32) then k_EARLY else (if x = (1 : Int32) then k_LATE else (if x = (2 : Int32) then k_MISSING else k_UNDECIDED))
theorem ef2 (m_ : MethodId) (x : Int32)  : entryFrame m_ #[(.int x)] 1 = mkF m_ 0 #[.val (.int x)] [] := by first | (simp [entryFrame, mkF, argsToLocals, Value.category]; done) | rfl
theorem pn_0 : plainName "com/example/redshank/redshank/monitor/FindingEqualsPinLaw" = true := by first | (simp [plainName, overriddenIn]; done) | decide +kernel
theorem d2_29 : decode method_2_code 29 = .ok (.areturn, 1) := by decide +kernel
theorem d2_25 : decode method_2_code 25 = .ok (.areturn, 1) := by decide +kernel
theorem d2_16 : decode method_2_code 16 = .ok (.areturn, 1) := by decide +kernel
theorem d2_7 : decode method_2_code 7 = .ok (.areturn, 1) := by decide +kernel
set_option maxRecDepth 65536 in
set_option maxHeartbeats 40000000 in
theorem co2 (l : Launch) (Z : State) (a0 : Array Value) (hw : ∀ d ∈ tables_1, d.before a0 Z = true) (x : Int32) (k_EARLY : Addr) (k_LATE : Addr) (k_MISSING : Addr) (k_UNDECIDED : Addr) (h0 : Heap) (S_EARLY : Sta Z h0 "com/example/redshank/redshank/monitor/Finding$Kind" "EARLY" "Lcom/example/redshank/redshank/monitor/Finding$Kind;" (.ref k_EARLY)) (S_LATE : Sta Z h0 "com/example/redshank/redshank/monitor/Finding$Kind" "LATE" "Lcom/example/redshank/redshank/monitor/Finding$Kind;" (.ref k_LATE)) (S_MISSING : Sta Z h0 "com/example/redshank/redshank/monitor/Finding$Kind" "MISSING" "Lcom/example/redshank/redshank/monitor/Finding$Kind;" (.ref k_MISSING)) (S_UNDECIDED : Sta Z h0 "com/example/redshank/redshank/monitor/Finding$Kind" "UNDECIDED" "Lcom/example/redshank/redshank/monitor/Finding$Kind;" (.ref k_UNDECIDED)) : Co l (⟨"com/example/redshank/redshank/monitor/FindingEqualsPinLaw", "kindOf", "(I)Lcom/example/redshank/redshank/monitor/Finding$Kind;"⟩ : MethodName) method_2_code 1 (some (.object "com/example/redshank/redshank/monitor/Finding$Kind")) [] ({ frames := 0, cells := 0, slots := 0, locals := 0 } : Room) Z h0 #[(.int x)] (Pu h0 (some (.ref (kof x k_EARLY k_LATE k_MISSING k_UNDECIDED)))) := by
  refine Co.of (plainFor_of_name pn_0) ?_
  intro p_ e_ s_ m_ below meth c_ T0 X0 hx hby hml hown hnm hret hlk hZ eq0
  refine Go.cast (ef2 m_ x ) ?_
  refine g_iloadN X0 hx rfl (hb hby d2_0) 1 rfl ?_
  refine g_if_ne X0 hx (hb hby d2_1) 8 4 (by decide) rfl rfl (fun q1 => ?_) (fun q1 => ?_)
  · refine g_iloadN X0 hx rfl (hb hby d2_8) 9 rfl ?_
    refine g_iconst X0 hx (1 : Int32) rfl (hb hby d2_9) 10 rfl ?_
    refine g_icmp_ne X0 hx (hb hby d2_10) 17 13 (by decide) rfl rfl (fun q10 => ?_) (fun q10 => ?_)
    · refine g_iloadN X0 hx rfl (hb hby d2_17) 18 rfl ?_
      refine g_iconst X0 hx (2 : Int32) rfl (hb hby d2_18) 19 rfl ?_
      refine g_icmp_ne X0 hx (hb hby d2_19) 26 22 (by decide) rfl rfl (fun q19 => ?_) (fun q19 => ?_)
      · refine g_getstatic X0 hx hZ hown (host := "") (Or.inl (wd hw 52 rfl)) Via.refl S_UNDECIDED eq0 (hb hby d2_26) 29 rfl (fun T101 X102 e103 => ?_)
        show Go p_ e_ below _ T101 (mkF m_ 29 #[.val (.int x)] [(.ref k_UNDECIDED)])
        exact g_reta X102 hx rfl rfl hret hlk (by decide) (by decide) (hb hby d2_29) ⟨congrArg (fun z => some (Value.ref z)) (show kof x k_EARLY k_LATE k_MISSING k_UNDECIDED = _ from ((if_neg q1).trans ((if_neg q10).trans ((if_neg q19).trans rfl)))).symm, e103, rfl⟩
      · refine g_getstatic X0 hx hZ hown (host := "") (Or.inl (wd hw 53 rfl)) Via.refl S_MISSING eq0 (hb hby d2_22) 25 rfl (fun T104 X105 e106 => ?_)
        show Go p_ e_ below _ T104 (mkF m_ 25 #[.val (.int x)] [(.ref k_MISSING)])
        exact g_reta X105 hx rfl rfl hret hlk (by decide) (by decide) (hb hby d2_25) ⟨congrArg (fun z => some (Value.ref z)) (show kof x k_EARLY k_LATE k_MISSING k_UNDECIDED = _ from ((if_neg q1).trans ((if_neg q10).trans ((if_pos q19).trans rfl)))).symm, e106, rfl⟩
    · refine g_getstatic X0 hx hZ hown (host := "") (Or.inl (wd hw 54 rfl)) Via.refl S_LATE eq0 (hb hby d2_13) 16 rfl (fun T107 X108 e109 => ?_)
      show Go p_ e_ below _ T107 (mkF m_ 16 #[.val (.int x)] [(.ref k_LATE)])
      exact g_reta X108 hx rfl rfl hret hlk (by decide) (by decide) (hb hby d2_16) ⟨congrArg (fun z => some (Value.ref z)) (show kof x k_EARLY k_LATE k_MISSING k_UNDECIDED = _ from ((if_neg q1).trans ((if_pos q10).trans rfl))).symm, e109, rfl⟩
  · refine g_getstatic X0 hx hZ hown (host := "") (Or.inl (wd hw 12 rfl)) Via.refl S_EARLY eq0 (hb hby d2_4) 7 rfl (fun T110 X111 e112 => ?_)
    show Go p_ e_ below _ T110 (mkF m_ 7 #[.val (.int x)] [(.ref k_EARLY)])
    exact g_reta X111 hx rfl rfl hret hlk (by decide) (by decide) (hb hby d2_7) ⟨congrArg (fun z => some (Value.ref z)) (show kof x k_EARLY k_LATE k_MISSING k_UNDECIDED = _ from ((if_pos q1).trans rfl)).symm, e112, rfl⟩
theorem own_kof_exa {Z : State} {h : Heap} {x : Int32} {ka : Addr} {k_EARLY k_LATE k_MISSING k_UNDECIDED : Addr} {C : String} (hk : kof x k_EARLY k_LATE k_MISSING k_UNDECIDED = ka) (E_EARLY : Exa Z h k_EARLY C) (E_LATE : Exa Z h k_LATE C) (E_MISSING : Exa Z h k_MISSING C) (E_UNDECIDED : Exa Z h k_UNDECIDED C) : Exa Z h ka C := by
  subst hk
  unfold kof
  split
  · exact E_EARLY
  · split
    · exact E_LATE
    · split
      · exact E_MISSING
      · exact E_UNDECIDED
theorem own_kof_ne {x : Int32} {ka : Addr} (k_EARLY k_LATE k_MISSING k_UNDECIDED : Addr) (hk : kof x k_EARLY k_LATE k_MISSING k_UNDECIDED = ka) (ne_EARLY_LATE : ¬ k_EARLY = k_LATE) (ne_EARLY_MISSING : ¬ k_EARLY = k_MISSING) (ne_EARLY_UNDECIDED : ¬ k_EARLY = k_UNDECIDED) (ne_LATE_MISSING : ¬ k_LATE = k_MISSING) (ne_LATE_UNDECIDED : ¬ k_LATE = k_UNDECIDED) (ne_MISSING_UNDECIDED : ¬ k_MISSING = k_UNDECIDED) (r : x = 0 ∨ x = 1 ∨ x = 2 ∨ x = 3) (q : ¬ (1 : Int32) < x) : ¬ ka = k_MISSING ∧ ¬ ka = k_UNDECIDED := by
  subst hk
  rcases r with rfl | rfl | rfl | rfl
  · exact ⟨ne_EARLY_MISSING, ne_EARLY_UNDECIDED⟩
  · exact ⟨ne_LATE_MISSING, ne_LATE_UNDECIDED⟩
  · exact absurd (by decide) q
  · exact absurd (by decide) q
theorem own_kof_inj {x y : Int32} {ka kb : Addr} (k_EARLY k_LATE k_MISSING k_UNDECIDED : Addr) (hk : kof x k_EARLY k_LATE k_MISSING k_UNDECIDED = ka) (hk' : kof y k_EARLY k_LATE k_MISSING k_UNDECIDED = kb) (ne_EARLY_LATE : ¬ k_EARLY = k_LATE) (ne_EARLY_MISSING : ¬ k_EARLY = k_MISSING) (ne_EARLY_UNDECIDED : ¬ k_EARLY = k_UNDECIDED) (ne_LATE_MISSING : ¬ k_LATE = k_MISSING) (ne_LATE_UNDECIDED : ¬ k_LATE = k_UNDECIDED) (ne_MISSING_UNDECIDED : ¬ k_MISSING = k_UNDECIDED) (r : x = 0 ∨ x = 1 ∨ x = 2 ∨ x = 3) (r' : y = 0 ∨ y = 1 ∨ y = 2 ∨ y = 3) : (Value.ref ka = Value.ref kb) ↔ x = y := by
  subst hk hk'
  constructor
  · intro q
    have q := Value.ref.inj q
    rcases r with rfl | rfl | rfl | rfl <;> rcases r' with rfl | rfl | rfl | rfl <;> first | rfl | exact absurd q (by first | exact ne_EARLY_LATE | exact ne_EARLY_MISSING | exact ne_EARLY_UNDECIDED | exact ne_LATE_MISSING | exact ne_LATE_UNDECIDED | exact ne_MISSING_UNDECIDED) | exact absurd q.symm (by first | exact ne_EARLY_LATE | exact ne_EARLY_MISSING | exact ne_EARLY_UNDECIDED | exact ne_LATE_MISSING | exact ne_LATE_UNDECIDED | exact ne_MISSING_UNDECIDED)
  · rintro rfl; rfl
def eqv (k1 k2 : Addr) (n1 n2 : Int32) (d1 d2 : Int64) : Int32 := if (Value.ref k1) = (Value.ref k2) then (if n1 = n2 then (if d1 = d2 then ((1 : Int32) &&& 1) else ((0 : Int32) &&& 1)) else ((0 : Int32) &&& 1)) else ((0 : Int32) &&& 1)
theorem own_fin {x y n n' z : Int32} {d d' : Int64} {ka kb : Addr} (k_EARLY k_LATE k_MISSING k_UNDECIDED : Addr) (hk : kof x k_EARLY k_LATE k_MISSING k_UNDECIDED = ka) (hk' : kof y k_EARLY k_LATE k_MISSING k_UNDECIDED = kb) (ne_EARLY_LATE : ¬ k_EARLY = k_LATE) (ne_EARLY_MISSING : ¬ k_EARLY = k_MISSING) (ne_EARLY_UNDECIDED : ¬ k_EARLY = k_UNDECIDED) (ne_LATE_MISSING : ¬ k_LATE = k_MISSING) (ne_LATE_UNDECIDED : ¬ k_LATE = k_UNDECIDED) (ne_MISSING_UNDECIDED : ¬ k_MISSING = k_UNDECIDED) (r : x = 0 ∨ x = 1 ∨ x = 2 ∨ x = 3) (r' : y = 0 ∨ y = 1 ∨ y = 2 ∨ y = 3) (hz : z = if x = y then (if n = n' then (if d = d' then (1 : Int32) else (0 : Int32)) else (0 : Int32)) else (0 : Int32)) : eqv ka kb n n' d d' = z := by
  have i := own_kof_inj k_EARLY k_LATE k_MISSING k_UNDECIDED hk hk' ne_EARLY_LATE ne_EARLY_MISSING ne_EARLY_UNDECIDED ne_LATE_MISSING ne_LATE_UNDECIDED ne_MISSING_UNDECIDED r r'
  subst hz
  unfold eqv
  by_cases h1 : x = y
  · rw [if_pos (i.mpr h1), if_pos h1]
    by_cases h2 : n = n'
    · rw [if_pos h2, if_pos h2]
      by_cases h3 : d = d'
      · rw [if_pos h3, if_pos h3]; decide
      · rw [if_neg h3, if_neg h3]; decide
    · rw [if_neg h2, if_neg h2]; decide
  · rw [if_neg (fun q => h1 (i.mp q)), if_neg h1]; decide
theorem own_eqv_comm (k1 k2 : Addr) (n1 n2 : Int32) (d1 d2 : Int64) : eqv k2 k1 n2 n1 d2 d1 = eqv k1 k2 n1 n2 d1 d2 := by
  unfold eqv
  by_cases h1 : (Value.ref k1) = (Value.ref k2)
  · rw [if_pos h1, if_pos h1.symm]
    by_cases h2 : n1 = n2
    · rw [if_pos h2, if_pos h2.symm]
      by_cases h3 : d1 = d2
      · rw [if_pos h3, if_pos h3.symm]
      · rw [if_neg h3, if_neg (fun q => h3 q.symm)]
    · rw [if_neg h2, if_neg (fun q => h2 q.symm)]
  · rw [if_neg h1, if_neg (fun q => h1 q.symm)]
theorem own_mx (y : Int32) : ¬ mx (1 : Int32) y < (1 : Int32) := by
  unfold mx
  by_cases q : (1 : Int32) < y
  · rw [if_pos q]; rw [Int32.lt_iff_toInt_lt] at q ⊢; omega
  · rw [if_neg q]; decide
theorem own_and3 (x : Int32) : x &&& 3 = 0 ∨ x &&& 3 = 1 ∨ x &&& 3 = 2 ∨ x &&& 3 = 3 := by
  have e := c_and x 3 (by decide)
  simp only [show (3 : Int32).toInt = 3 from rfl] at e
  simp only [← Int32.toInt_inj, show (0 : Int32).toInt = 0 from rfl, show (1 : Int32).toInt = 1 from rfl, show (2 : Int32).toInt = 2 from rfl, show (3 : Int32).toInt = 3 from rfl]
  omega
theorem own_pick2 {p : Prop} [Decidable p] {a b n : Int32} (h : n = if p then a else b) (ha : ¬ a < (1 : Int32)) (hb : ¬ b < (1 : Int32)) : ¬ n < (1 : Int32) := by
  subst h
  split
  · exact ha
  · exact hb
theorem own_pickR {p : Prop} [Decidable p] {a b n : Int32} (h : n = if p then a else b) (ha : a = 0 ∨ a = 1 ∨ a = 2 ∨ a = 3) (hb : b = 0 ∨ b = 1 ∨ b = 2 ∨ b = 3) : n = 0 ∨ n = 1 ∨ n = 2 ∨ n = 3 := by
  subst h
  split
  · exact ha
  · exact hb
theorem own_pickT {p : Prop} [Decidable p] {y n : Int64} (h : n = if p then (0 : Int64) else y) : n = (0 : Int64) ∨ ¬ p := by
  subst h
  by_cases q : p
  · exact Or.inl (if_pos q)
  · exact Or.inr q
theorem ef5 (m_ : MethodId) (k : Addr) (s : Addr)  : entryFrame m_ #[(.ref k), (.ref s)] 2 = mkF m_ 0 #[.val (.ref k), .val (.ref s)] [] := by first | (simp [entryFrame, mkF, argsToLocals, Value.category]; done) | rfl
theorem pn_1 : plainName "java/util/Objects" = true := by first | (simp [plainName, overriddenIn]; done) | decide +kernel
theorem d5_0 : decode jdk_31_method_11_code 0 = .ok (.aload_n 0, 1) := by decide +kernel
theorem d5_1 : decode jdk_31_method_11_code 1 = .ok (.ifnonnull 12, 3) := by decide +kernel
theorem d5_13 : decode jdk_31_method_11_code 13 = .ok (.aload_n 0, 1) := by decide +kernel
theorem d5_14 : decode jdk_31_method_11_code 14 = .ok (.areturn, 1) := by decide +kernel
set_option maxRecDepth 65536 in
set_option maxHeartbeats 40000000 in
theorem co5 (l : Launch) (Z : State) (a0 : Array Value) (hw : ∀ d ∈ tables_1, d.before a0 Z = true) (k : Addr) (s : Addr) (h0 : Heap)  : Co l (⟨"java/util/Objects", "requireNonNull", "(Ljava/lang/Object;Ljava/lang/String;)Ljava/lang/Object;"⟩ : MethodName) jdk_31_method_11_code 2 (some (.object "java/lang/Object")) [] ({ frames := 0, cells := 0, slots := 0, locals := 0 } : Room) Z h0 #[(.ref k), (.ref s)] (Pu h0 (some (.ref (k )))) := by
  refine Co.of (plainFor_of_name pn_1) ?_
  intro p_ e_ s_ m_ below meth c_ T0 X0 hx hby hml hown hnm hret hlk hZ eq0
  refine Go.cast (ef5 m_ k s ) ?_
  refine g_aloadN X0 hx rfl rfl (hb hby d5_0) 1 rfl ?_
  refine g_ifnonnull X0 hx rfl (hb hby d5_1) 13 4 (by decide) rfl rfl (fun q1 => ?_) (fun q1 => ?_)
  · refine g_aloadN X0 hx rfl rfl (hb hby d5_13) 14 rfl ?_
    exact g_reta X0 hx rfl rfl hret hlk (by decide) (by decide) (hb hby d5_14) ⟨congrArg (fun z => some (Value.ref z)) rfl, eq0, rfl⟩
  · exact (by cases q1)
def Q3 (Z : State) (a : Addr) (k : Addr) (n : Int32) (d : Int64) (kM : Addr) (kU : Addr) (h0 : Heap) (n0 : Nat) (v : Option Value) (h : Heap) (L : List Loc) : Prop := v = none ∧ Fr n0 L ∧ Keep h0 h [a] ∧ Exa Z h a "com/example/redshank/redshank/monitor/Finding" ∧ Fld Z h a "com/example/redshank/redshank/monitor/Finding" "kind" "Lcom/example/redshank/redshank/monitor/Finding$Kind;" (.ref k) ∧ Fld Z h a "com/example/redshank/redshank/monitor/Finding" "line" "I" (.int n) ∧ Fld Z h a "com/example/redshank/redshank/monitor/Finding" "delay" "J" (.long d)
theorem ef3 (m_ : MethodId) (a : Addr) (k : Addr) (n : Int32) (d : Int64)  : entryFrame m_ #[(.ref a), (.ref k), (.int n), (.long d)] 5 = mkF m_ 0 #[.val (.ref a), .val (.ref k), .val (.int n), .val (.long d), .second] [] := by first | (simp [entryFrame, mkF, argsToLocals, Value.category]; done) | rfl
theorem pn_2 : plainName "com/example/redshank/redshank/monitor/Finding" = true := by first | (simp [plainName, overriddenIn]; done) | decide +kernel
theorem d3_0 : decode prog_118_method_1_code 0 = .ok (.aload_n 0, 1) := by decide +kernel
theorem d3_1 : decode prog_118_method_1_code 1 = .ok (.invokespecial 1, 3) := by decide +kernel
theorem d3_4 : decode prog_118_method_1_code 4 = .ok (.aload_n 0, 1) := by decide +kernel
theorem d3_5 : decode prog_118_method_1_code 5 = .ok (.aload_n 1, 1) := by decide +kernel
theorem d3_6 : decode prog_118_method_1_code 6 = .ok (.ldc 7, 2) := by decide +kernel
theorem pd_0 : parseMethodDescriptor "(Ljava/lang/Object;Ljava/lang/String;)Ljava/lang/Object;" = some ⟨[(.object "java/lang/Object"), (.object "java/lang/String")], some (.object "java/lang/Object")⟩ := by decide +kernel
theorem d3_8 : decode prog_118_method_1_code 8 = .ok (.invokestatic 9, 3) := by decide +kernel
theorem d3_11 : decode prog_118_method_1_code 11 = .ok (.checkcast 15, 3) := by decide +kernel
theorem d3_14 : decode prog_118_method_1_code 14 = .ok (.putfield 17, 3) := by decide +kernel
theorem d3_17 : decode prog_118_method_1_code 17 = .ok (.iload_n 2, 1) := by decide +kernel
theorem d3_18 : decode prog_118_method_1_code 18 = .ok (.iconst 1, 1) := by decide +kernel
theorem d3_19 : decode prog_118_method_1_code 19 = .ok (.if_icmp .ge 17, 3) := by decide +kernel
theorem d3_36 : decode prog_118_method_1_code 36 = .ok (.lload_n 3, 1) := by decide +kernel
theorem d3_37 : decode prog_118_method_1_code 37 = .ok (.lconst 0, 1) := by decide +kernel
theorem d3_38 : decode prog_118_method_1_code 38 = .ok (.lcmp, 1) := by decide +kernel
theorem d3_39 : decode prog_118_method_1_code 39 = .ok (.ifCond .eq 34, 3) := by decide +kernel
theorem d3_73 : decode prog_118_method_1_code 73 = .ok (.aload_n 0, 1) := by decide +kernel
theorem d3_74 : decode prog_118_method_1_code 74 = .ok (.iload_n 2, 1) := by decide +kernel
theorem d3_75 : decode prog_118_method_1_code 75 = .ok (.putfield 46, 3) := by decide +kernel
theorem d3_78 : decode prog_118_method_1_code 78 = .ok (.aload_n 0, 1) := by decide +kernel
theorem d3_79 : decode prog_118_method_1_code 79 = .ok (.lload_n 3, 1) := by decide +kernel
theorem d3_80 : decode prog_118_method_1_code 80 = .ok (.putfield 50, 3) := by decide +kernel
theorem d3_83 : decode prog_118_method_1_code 83 = .ok (.return_, 1) := by decide +kernel
theorem d3_42 : decode prog_118_method_1_code 42 = .ok (.aload_n 1, 1) := by decide +kernel
theorem d3_43 : decode prog_118_method_1_code 43 = .ok (.getstatic 31, 3) := by decide +kernel
theorem d3_46 : decode prog_118_method_1_code 46 = .ok (.if_acmp .eq 10, 3) := by decide +kernel
theorem d3_49 : decode prog_118_method_1_code 49 = .ok (.aload_n 1, 1) := by decide +kernel
theorem d3_50 : decode prog_118_method_1_code 50 = .ok (.getstatic 34, 3) := by decide +kernel
theorem d3_53 : decode prog_118_method_1_code 53 = .ok (.if_acmp .ne 20, 3) := by decide +kernel
set_option maxRecDepth 65536 in
set_option maxHeartbeats 40000000 in
theorem co3 (l : Launch) (Z : State) (a0 : Array Value) (hw : ∀ d ∈ tables_1, d.before a0 Z = true) (hEL : EW Z a0 EL) (a : Addr) (k : Addr) (n : Int32) (d : Int64) (kM : Addr) (kU : Addr) (h0 : Heap) (n0 : Nat) (Z0 : n0 ≤ h0.size)  (g_a : n0 ≤ a) (E_a : Exa Z h0 a "com/example/redshank/redshank/monitor/Finding") (F_kind : Fld Z h0 a "com/example/redshank/redshank/monitor/Finding" "kind" "Lcom/example/redshank/redshank/monitor/Finding$Kind;" .null) (F_line : Fld Z h0 a "com/example/redshank/redshank/monitor/Finding" "line" "I" (.int (0 : Int32))) (F_delay : Fld Z h0 a "com/example/redshank/redshank/monitor/Finding" "delay" "J" (.long (0 : Int64))) (E_k : Exa Z h0 k "com/example/redshank/redshank/monitor/Finding$Kind") (S_M : Sta Z h0 "com/example/redshank/redshank/monitor/Finding$Kind" "MISSING" "Lcom/example/redshank/redshank/monitor/Finding$Kind;" (.ref kM)) (S_U : Sta Z h0 "com/example/redshank/redshank/monitor/Finding$Kind" "UNDECIDED" "Lcom/example/redshank/redshank/monitor/Finding$Kind;" (.ref kU)) (h1 : ¬ n < (1 : Int32)) (h2 : d = (0 : Int64) ∨ (¬ k = kM ∧ ¬ k = kU)) : CoH l (⟨"com/example/redshank/redshank/monitor/Finding", "<init>", "(Lcom/example/redshank/redshank/monitor/Finding$Kind;IJ)V"⟩ : MethodName) prog_118_method_1_code 5 none [] ({ frames := 1, cells := 2, slots := 20, locals := 14 } : Room) Z EL h0 #[(.ref a), (.ref k), (.int n), (.long d)] (Q3 Z a k n d kM kU h0 n0) := by
  refine CoH.of (plainFor_of_name pn_2) ?_
  intro p_ e_ s_ m_ below meth c_ T0 X0 hx hby hml hown hnm hret hlk hZ eq0 hs0 hS H
  have N0 := Fr.nil n0
  have hk0 := Nat.le_refl h0.size
  refine Go.cast (ef3 m_ a k n d ) ?_
  refine g_aloadN X0 hx rfl rfl (hb hby d3_0) 1 rfl ?_
  refine g_initO X0 hx hZ hown (wd hw 18 rfl) (wd hw 19 rfl) (wd hw 20 rfl) eq0 (by rw [hml]; rfl) (hb hby d3_1) (by decide) 0 (Nat.le_of_eq rfl) (by decide) 4 rfl (fun T101 X102 e103 => ?_)
  show Go p_ e_ below _ T101 (mkF m_ 4 #[.val (.ref a), .val (.ref k), .val (.int n), .val (.long d), .second] [])
  refine g_aloadN X102 hx rfl rfl (hb hby d3_4) 5 rfl ?_
  refine g_aloadN X102 hx rfl rfl (hb hby d3_5) 6 rfl ?_
  refine g_ldcO X102 hx hown (wd hw 21 rfl) (own_wS hw) e103 hZ hS hk0 hEL H (hb hby d3_6) (n := 16) (by decide) (by decide) (by decide) (by decide) 8 rfl (fun b106 T104 h105 k108 X109 e110 E111 hZ hown hS hk0 H => ?_)
  have F112 := E_a.ext E111
  have F113 := F_kind.ext E111
  have F114 := F_line.ext E111
  have F115 := F_delay.ext E111
  have F116 := E_k.ext E111
  have F117 := S_M.ext E111
  have F118 := S_U.ext E111
  have szh119 : n0 ≤ h105.size := Nat.le_trans Z0 E111.1
  have K120 := (Keep.refl h0 [a]).ext E111
  show Go p_ e_ below _ T104 (mkF m_ 8 #[.val (.ref a), .val (.ref k), .val (.int n), .val (.long d), .second] [(.ref b106), (.ref k), (.ref a)])
  refine g_callS X109 hx hZ hown (wd hw 29 rfl) (wd hw 30 rfl) (wd hw 31 rfl) (wd hw 32 rfl) (by decide) e110 [(.ref k), (.ref b106)] [(.ref a)]  rfl (co5 l Z a0 hw k b106  h105 ) (lenOf pd_0 rfl) 1 (Nat.le_of_eq rfl) (by decide) (by decide) (by decide) (by decide) (by rw [hml]; rfl) (hb hby d3_8) 11 rfl (pu_cont fun T122 X121 e123 => ?_)
  show Go p_ e_ below _ T122 (mkF m_ 11 #[.val (.ref a), .val (.ref k), .val (.int n), .val (.long d), .second] [(.ref k), (.ref a)])
  refine g_checkcast X121 hx hZ hown (wd hw 33 rfl) (Ins.self F116) e123 (hb hby d3_11) 14 rfl (fun T124 X125 e126 => ?_)
  show Go p_ e_ below _ T124 (mkF m_ 14 #[.val (.ref a), .val (.ref k), .val (.int n), .val (.long d), .second] [(.ref k), (.ref a)])
  refine g_putfield X125 hx hZ hown (host := "") (Or.inl (wd hw 35 rfl)) Via.refl e126 F113 F112 (Or.inr ⟨(wd hw 36 rfl), rfl, hnm⟩) (wd hw 6 rfl) (ty := (.object "com/example/redshank/redshank/monitor/Finding$Kind")) (by decide) rfl rfl (hb hby d3_14) 17 rfl (fun T127 h128 X129 e130 W131 => ?_)
  have H := H.trans (CHr.wr W131 own_safe0 H.1)
  have hk0 := Nat.le_trans hk0 (Nat.le_of_eq W131.size.symm)
  have F132 := F112.wr W131
  have F133 := F113.same W131
  have F134 := F114.other W131 (Or.inr (slot_ne (Or.inr (wd hw 42 rfl)) (Or.inr (wd hw 36 rfl)) (by decide) (t := .int) (t' := (.object "com/example/redshank/redshank/monitor/Finding$Kind")) (by decide) (by decide)))
  have F135 := F115.other W131 (Or.inr (slot_ne (Or.inr (wd hw 44 rfl)) (Or.inr (wd hw 36 rfl)) (by decide) (t := .long) (t' := (.object "com/example/redshank/redshank/monitor/Finding$Kind")) (by decide) (by decide)))
  have F136 := F116.wr W131
  have F137 := F117.wr W131
  have F138 := F118.wr W131
  have N139 := Fr.snoc X129 N0 g_a
  have szh140 : n0 ≤ h128.size := Nat.le_trans szh119 (Nat.le_of_eq W131.size.symm)
  have K141 := K120.wr W131 (Or.inl (List.mem_of_getElem? (i := 0) rfl))
  show Go p_ e_ below _ T127 (mkF m_ 17 #[.val (.ref a), .val (.ref k), .val (.int n), .val (.long d), .second] [])
  refine g_iloadN X129 hx rfl (hb hby d3_17) 18 rfl ?_
  refine g_iconst X129 hx (1 : Int32) rfl (hb hby d3_18) 19 rfl ?_
  refine g_icmp_ge X129 hx (hb hby d3_19) 36 22 (by decide) rfl rfl (fun q19 => ?_) (fun q19 => ?_)
  · refine g_lloadN X129 hx rfl (hb hby d3_36) 37 rfl ?_
    refine g_lconst X129 hx (0 : Int64) rfl (hb hby d3_37) 38 rfl ?_
    refine g_lif_eq X129 hx (hb hby d3_38) 39 rfl (hb hby d3_39) 73 42 (by decide) rfl rfl (fun q38 => ?_) (fun q38 => ?_)
    · refine g_aloadN X129 hx rfl rfl (hb hby d3_73) 74 rfl ?_
      refine g_iloadN X129 hx rfl (hb hby d3_74) 75 rfl ?_
      refine g_putfield X129 hx hZ hown (host := "") (Or.inl (wd hw 41 rfl)) Via.refl e130 F134 F132 (Or.inr ⟨(wd hw 42 rfl), rfl, hnm⟩) (wd hw 6 rfl) (ty := .int) (by decide) rfl rfl (hb hby d3_75) 78 rfl (fun T142 h143 X144 e145 W146 => ?_)
      have H := H.trans (CHr.wr W146 own_safe0 H.1)
      have hk0 := Nat.le_trans hk0 (Nat.le_of_eq W146.size.symm)
      have F147 := F132.wr W146
      have F148 := F133.other W146 (Or.inr (slot_ne (Or.inr (wd hw 36 rfl)) (Or.inr (wd hw 42 rfl)) (by decide) (t := (.object "com/example/redshank/redshank/monitor/Finding$Kind")) (t' := .int) (by decide) (by decide)))
      have F149 := F134.same W146
      have F150 := F135.other W146 (Or.inr (slot_ne (Or.inr (wd hw 44 rfl)) (Or.inr (wd hw 42 rfl)) (by decide) (t := .long) (t' := .int) (by decide) (by decide)))
      have F151 := F136.wr W146
      have F152 := F137.wr W146
      have F153 := F138.wr W146
      have N154 := Fr.snoc X144 N139 g_a
      have szh155 : n0 ≤ h143.size := Nat.le_trans szh140 (Nat.le_of_eq W146.size.symm)
      have K156 := K141.wr W146 (Or.inl (List.mem_of_getElem? (i := 0) rfl))
      show Go p_ e_ below _ T142 (mkF m_ 78 #[.val (.ref a), .val (.ref k), .val (.int n), .val (.long d), .second] [])
      refine g_aloadN X144 hx rfl rfl (hb hby d3_78) 79 rfl ?_
      refine g_lloadN X144 hx rfl (hb hby d3_79) 80 rfl ?_
      refine g_putfield X144 hx hZ hown (host := "") (Or.inl (wd hw 43 rfl)) Via.refl e145 F150 F147 (Or.inr ⟨(wd hw 44 rfl), rfl, hnm⟩) (wd hw 6 rfl) (ty := .long) (by decide) rfl rfl (hb hby d3_80) 83 rfl (fun T157 h158 X159 e160 W161 => ?_)
      have H := H.trans (CHr.wr W161 own_safe0 H.1)
      have hk0 := Nat.le_trans hk0 (Nat.le_of_eq W161.size.symm)
      have F162 := F147.wr W161
      have F163 := F148.other W161 (Or.inr (slot_ne (Or.inr (wd hw 36 rfl)) (Or.inr (wd hw 44 rfl)) (by decide) (t := (.object "com/example/redshank/redshank/monitor/Finding$Kind")) (t' := .long) (by decide) (by decide)))
      have F164 := F149.other W161 (Or.inr (slot_ne (Or.inr (wd hw 42 rfl)) (Or.inr (wd hw 44 rfl)) (by decide) (t := .int) (t' := .long) (by decide) (by decide)))
      have F165 := F150.same W161
      have F166 := F151.wr W161
      have F167 := F152.wr W161
      have F168 := F153.wr W161
      have N169 := Fr.snoc X159 N154 g_a
      have szh170 : n0 ≤ h158.size := Nat.le_trans szh155 (Nat.le_of_eq W161.size.symm)
      have K171 := K156.wr W161 (Or.inl (List.mem_of_getElem? (i := 0) rfl))
      show Go p_ e_ below _ T157 (mkF m_ 83 #[.val (.ref a), .val (.ref k), .val (.int n), .val (.long d), .second] [])
      exact g_retvH X159 hx hret hlk (by decide) (by decide) (hb hby d3_83) e160 hZ hS hk0 hEL H ⟨rfl, N169, K171, F162, F163, F164, F165⟩
    · refine g_aloadN X129 hx rfl rfl (hb hby d3_42) 43 rfl ?_
      refine g_getstatic X129 hx hZ hown (host := "") (Or.inl (wd hw 37 rfl)) Via.refl F137 e130 (hb hby d3_43) 46 rfl (fun T172 X173 e174 => ?_)
      show Go p_ e_ below _ T172 (mkF m_ 46 #[.val (.ref a), .val (.ref k), .val (.int n), .val (.long d), .second] [(.ref kM), (.ref k)])
      refine g_acmp_eq X173 hx rfl rfl (hb hby d3_46) 56 49 (by decide) rfl rfl (fun q46 => ?_) (fun q46 => ?_)
      · exact absurd (Value.ref.inj q46) (h2.resolve_left q38).1
      · refine g_aloadN X173 hx rfl rfl (hb hby d3_49) 50 rfl ?_
        refine g_getstatic X173 hx hZ hown (host := "") (Or.inl (wd hw 39 rfl)) Via.refl F138 e174 (hb hby d3_50) 53 rfl (fun T175 X176 e177 => ?_)
        show Go p_ e_ below _ T175 (mkF m_ 53 #[.val (.ref a), .val (.ref k), .val (.int n), .val (.long d), .second] [(.ref kU), (.ref k)])
        refine g_acmp_ne X176 hx rfl rfl (hb hby d3_53) 73 56 (by decide) rfl rfl (fun q53 => ?_) (fun q53 => ?_)
        · refine g_aloadN X176 hx rfl rfl (hb hby d3_73) 74 rfl ?_
          refine g_iloadN X176 hx rfl (hb hby d3_74) 75 rfl ?_
          refine g_putfield X176 hx hZ hown (host := "") (Or.inl (wd hw 41 rfl)) Via.refl e177 F134 F132 (Or.inr ⟨(wd hw 42 rfl), rfl, hnm⟩) (wd hw 6 rfl) (ty := .int) (by decide) rfl rfl (hb hby d3_75) 78 rfl (fun T178 h179 X180 e181 W182 => ?_)
          have H := H.trans (CHr.wr W182 own_safe0 H.1)
          have hk0 := Nat.le_trans hk0 (Nat.le_of_eq W182.size.symm)
          have F183 := F132.wr W182
          have F184 := F133.other W182 (Or.inr (slot_ne (Or.inr (wd hw 36 rfl)) (Or.inr (wd hw 42 rfl)) (by decide) (t := (.object "com/example/redshank/redshank/monitor/Finding$Kind")) (t' := .int) (by decide) (by decide)))
          have F185 := F134.same W182
          have F186 := F135.other W182 (Or.inr (slot_ne (Or.inr (wd hw 44 rfl)) (Or.inr (wd hw 42 rfl)) (by decide) (t := .long) (t' := .int) (by decide) (by decide)))
          have F187 := F136.wr W182
          have F188 := F137.wr W182
          have F189 := F138.wr W182
          have N190 := Fr.snoc X180 N139 g_a
          have szh191 : n0 ≤ h179.size := Nat.le_trans szh140 (Nat.le_of_eq W182.size.symm)
          have K192 := K141.wr W182 (Or.inl (List.mem_of_getElem? (i := 0) rfl))
          show Go p_ e_ below _ T178 (mkF m_ 78 #[.val (.ref a), .val (.ref k), .val (.int n), .val (.long d), .second] [])
          refine g_aloadN X180 hx rfl rfl (hb hby d3_78) 79 rfl ?_
          refine g_lloadN X180 hx rfl (hb hby d3_79) 80 rfl ?_
          refine g_putfield X180 hx hZ hown (host := "") (Or.inl (wd hw 43 rfl)) Via.refl e181 F186 F183 (Or.inr ⟨(wd hw 44 rfl), rfl, hnm⟩) (wd hw 6 rfl) (ty := .long) (by decide) rfl rfl (hb hby d3_80) 83 rfl (fun T193 h194 X195 e196 W197 => ?_)
          have H := H.trans (CHr.wr W197 own_safe0 H.1)
          have hk0 := Nat.le_trans hk0 (Nat.le_of_eq W197.size.symm)
          have F198 := F183.wr W197
          have F199 := F184.other W197 (Or.inr (slot_ne (Or.inr (wd hw 36 rfl)) (Or.inr (wd hw 44 rfl)) (by decide) (t := (.object "com/example/redshank/redshank/monitor/Finding$Kind")) (t' := .long) (by decide) (by decide)))
          have F200 := F185.other W197 (Or.inr (slot_ne (Or.inr (wd hw 42 rfl)) (Or.inr (wd hw 44 rfl)) (by decide) (t := .int) (t' := .long) (by decide) (by decide)))
          have F201 := F186.same W197
          have F202 := F187.wr W197
          have F203 := F188.wr W197
          have F204 := F189.wr W197
          have N205 := Fr.snoc X195 N190 g_a
          have szh206 : n0 ≤ h194.size := Nat.le_trans szh191 (Nat.le_of_eq W197.size.symm)
          have K207 := K192.wr W197 (Or.inl (List.mem_of_getElem? (i := 0) rfl))
          show Go p_ e_ below _ T193 (mkF m_ 83 #[.val (.ref a), .val (.ref k), .val (.int n), .val (.long d), .second] [])
          exact g_retvH X195 hx hret hlk (by decide) (by decide) (hb hby d3_83) e196 hZ hS hk0 hEL H ⟨rfl, N205, K207, F198, F199, F200, F201⟩
        · exact absurd (Value.ref.inj q53) (h2.resolve_left q38).2
  · exact absurd q19 h1
theorem ef6n (m_ : MethodId) (a : Addr)  : entryFrame m_ #[(.ref a), .null] 3 = mkF m_ 0 #[.val (.ref a), .val .null, .unset] [] := by first | (simp [entryFrame, mkF, argsToLocals, Value.category]; done) | rfl
theorem d6_0 : decode prog_118_method_5_code 0 = .ok (.aload_n 1, 1) := by decide +kernel
theorem d6_1 : decode prog_118_method_5_code 1 = .ok (.instanceof 18, 3) := by decide +kernel
theorem d6_4 : decode prog_118_method_5_code 4 = .ok (.ifCond .eq 11, 3) := by decide +kernel
theorem d6_15 : decode prog_118_method_5_code 15 = .ok (.iconst 0, 1) := by decide +kernel
theorem d6_16 : decode prog_118_method_5_code 16 = .ok (.ireturn, 1) := by decide +kernel
set_option maxRecDepth 65536 in
set_option maxHeartbeats 40000000 in
theorem co6n (l : Launch) (Z : State) (a0 : Array Value) (hw : ∀ d ∈ tables_1, d.before a0 Z = true) (a : Addr) (h0 : Heap) (E_a : Exa Z h0 a "com/example/redshank/redshank/monitor/Finding") : Co l (⟨"com/example/redshank/redshank/monitor/Finding", "equals", "(Ljava/lang/Object;)Z"⟩ : MethodName) prog_118_method_5_code 3 (some .boolean) [] ({ frames := 0, cells := 0, slots := 0, locals := 0 } : Room) Z h0 #[(.ref a), .null] (Pu h0 (some (.int ((0 : Int32) )))) := by
  refine Co.of (plainFor_of_name pn_2) ?_
  intro p_ e_ s_ m_ below meth c_ T0 X0 hx hby hml hown hnm hret hlk hZ eq0
  refine Go.cast (ef6n m_ a ) ?_
  refine g_aloadN X0 hx rfl rfl (hb hby d6_0) 1 rfl ?_
  refine g_instNull X0 hx (hb hby d6_1) 4 rfl ?_
  show Go p_ e_ below _ T0 (mkF m_ 4 #[.val (.ref a), .val .null, .unset] [(.int (0 : Int32))])
  refine g_if_eq X0 hx (hb hby d6_4) 15 7 (by decide) rfl rfl (fun q4 => ?_) (fun q4 => ?_)
  · refine g_iconst X0 hx (0 : Int32) rfl (hb hby d6_15) 16 rfl ?_
    exact g_retz X0 hx hret hlk (by decide) (by decide) (hb hby d6_16) ⟨congrArg (fun z => some (Value.int z)) (by decide), eq0, rfl⟩
  · exact absurd rfl q4
theorem ef6i (m_ : MethodId) (a : Addr) (o : Addr)  : entryFrame m_ #[(.ref a), (.ref o)] 3 = mkF m_ 0 #[.val (.ref a), .val (.ref o), .unset] [] := by first | (simp [entryFrame, mkF, argsToLocals, Value.category]; done) | rfl
set_option maxRecDepth 65536 in
set_option maxHeartbeats 40000000 in
theorem co6i (l : Launch) (Z : State) (a0 : Array Value) (hw : ∀ d ∈ tables_1, d.before a0 Z = true) (a : Addr) (o : Addr) (h0 : Heap) (E_a : Exa Z h0 a "com/example/redshank/redshank/monitor/Finding") (E_o : Exa Z h0 o "java/lang/Integer") : Co l (⟨"com/example/redshank/redshank/monitor/Finding", "equals", "(Ljava/lang/Object;)Z"⟩ : MethodName) prog_118_method_5_code 3 (some .boolean) [] ({ frames := 0, cells := 0, slots := 0, locals := 0 } : Room) Z h0 #[(.ref a), (.ref o)] (Pu h0 (some (.int ((0 : Int32) )))) := by
  refine Co.of (plainFor_of_name pn_2) ?_
  intro p_ e_ s_ m_ below meth c_ T0 X0 hx hby hml hown hnm hret hlk hZ eq0
  refine Go.cast (ef6i m_ a o ) ?_
  refine g_aloadN X0 hx rfl rfl (hb hby d6_0) 1 rfl ?_
  refine g_instNo X0 hx hZ hown (wd hw 50 rfl) E_o (own_no (wd hw 77 rfl) (wd hw 78 rfl) (wd hw 79 rfl) (wd hw 6 rfl) (by decide) (by decide) (by decide)) eq0 (hb hby d6_1) 4 rfl (fun T101 X102 e103 => ?_)
  show Go p_ e_ below _ T101 (mkF m_ 4 #[.val (.ref a), .val (.ref o), .unset] [(.int (0 : Int32))])
  refine g_if_eq X102 hx (hb hby d6_4) 15 7 (by decide) rfl rfl (fun q4 => ?_) (fun q4 => ?_)
  · refine g_iconst X102 hx (0 : Int32) rfl (hb hby d6_15) 16 rfl ?_
    exact g_retz X102 hx hret hlk (by decide) (by decide) (hb hby d6_16) ⟨congrArg (fun z => some (Value.int z)) (by decide), e103, rfl⟩
  · exact absurd rfl q4
theorem ef6f (m_ : MethodId) (a : Addr) (o : Addr)  : entryFrame m_ #[(.ref a), (.ref o)] 3 = mkF m_ 0 #[.val (.ref a), .val (.ref o), .unset] [] := by first | (simp [entryFrame, mkF, argsToLocals, Value.category]; done) | rfl
theorem d6_7 : decode prog_118_method_5_code 7 = .ok (.aload_n 1, 1) := by decide +kernel
theorem d6_8 : decode prog_118_method_5_code 8 = .ok (.checkcast 18, 3) := by decide +kernel
theorem d6_11 : decode prog_118_method_5_code 11 = .ok (.astore_n 2, 1) := by decide +kernel
theorem d6_12 : decode prog_118_method_5_code 12 = .ok (.goto 5, 3) := by decide +kernel
theorem d6_17 : decode prog_118_method_5_code 17 = .ok (.aload_n 0, 1) := by decide +kernel
theorem d6_18 : decode prog_118_method_5_code 18 = .ok (.getfield 17, 3) := by decide +kernel
theorem d6_21 : decode prog_118_method_5_code 21 = .ok (.aload_n 2, 1) := by decide +kernel
theorem d6_22 : decode prog_118_method_5_code 22 = .ok (.getfield 17, 3) := by decide +kernel
theorem d6_25 : decode prog_118_method_5_code 25 = .ok (.if_acmp .ne 30, 3) := by decide +kernel
theorem d6_55 : decode prog_118_method_5_code 55 = .ok (.iconst 0, 1) := by decide +kernel
theorem d6_56 : decode prog_118_method_5_code 56 = .ok (.ireturn, 1) := by decide +kernel
theorem d6_28 : decode prog_118_method_5_code 28 = .ok (.aload_n 0, 1) := by decide +kernel
theorem d6_29 : decode prog_118_method_5_code 29 = .ok (.getfield 46, 3) := by decide +kernel
theorem d6_32 : decode prog_118_method_5_code 32 = .ok (.aload_n 2, 1) := by decide +kernel
theorem d6_33 : decode prog_118_method_5_code 33 = .ok (.getfield 46, 3) := by decide +kernel
theorem d6_36 : decode prog_118_method_5_code 36 = .ok (.if_icmp .ne 19, 3) := by decide +kernel
theorem d6_39 : decode prog_118_method_5_code 39 = .ok (.aload_n 0, 1) := by decide +kernel
theorem d6_40 : decode prog_118_method_5_code 40 = .ok (.getfield 50, 3) := by decide +kernel
theorem d6_43 : decode prog_118_method_5_code 43 = .ok (.aload_n 2, 1) := by decide +kernel
theorem d6_44 : decode prog_118_method_5_code 44 = .ok (.getfield 50, 3) := by decide +kernel
theorem d6_47 : decode prog_118_method_5_code 47 = .ok (.lcmp, 1) := by decide +kernel
theorem d6_48 : decode prog_118_method_5_code 48 = .ok (.ifCond .ne 7, 3) := by decide +kernel
theorem d6_51 : decode prog_118_method_5_code 51 = .ok (.iconst 1, 1) := by decide +kernel
theorem d6_52 : decode prog_118_method_5_code 52 = .ok (.goto 4, 3) := by decide +kernel
set_option maxRecDepth 65536 in
set_option maxHeartbeats 40000000 in
theorem co6f (l : Launch) (Z : State) (a0 : Array Value) (hw : ∀ d ∈ tables_1, d.before a0 Z = true) (a : Addr) (o : Addr) (k1 : Addr) (k2 : Addr) (n1 : Int32) (n2 : Int32) (d1 : Int64) (d2 : Int64) (h0 : Heap) (E_a : Exa Z h0 a "com/example/redshank/redshank/monitor/Finding") (FK_a : Fld Z h0 a "com/example/redshank/redshank/monitor/Finding" "kind" "Lcom/example/redshank/redshank/monitor/Finding$Kind;" (.ref k1)) (FN_a : Fld Z h0 a "com/example/redshank/redshank/monitor/Finding" "line" "I" (.int n1)) (FD_a : Fld Z h0 a "com/example/redshank/redshank/monitor/Finding" "delay" "J" (.long d1)) (E_o : Exa Z h0 o "com/example/redshank/redshank/monitor/Finding") (FK_o : Fld Z h0 o "com/example/redshank/redshank/monitor/Finding" "kind" "Lcom/example/redshank/redshank/monitor/Finding$Kind;" (.ref k2)) (FN_o : Fld Z h0 o "com/example/redshank/redshank/monitor/Finding" "line" "I" (.int n2)) (FD_o : Fld Z h0 o "com/example/redshank/redshank/monitor/Finding" "delay" "J" (.long d2)) : Co l (⟨"com/example/redshank/redshank/monitor/Finding", "equals", "(Ljava/lang/Object;)Z"⟩ : MethodName) prog_118_method_5_code 3 (some .boolean) [] ({ frames := 0, cells := 0, slots := 0, locals := 0 } : Room) Z h0 #[(.ref a), (.ref o)] (Pu h0 (some (.int ((eqv k1 k2 n1 n2 d1 d2) )))) := by
  refine Co.of (plainFor_of_name pn_2) ?_
  intro p_ e_ s_ m_ below meth c_ T0 X0 hx hby hml hown hnm hret hlk hZ eq0
  refine Go.cast (ef6f m_ a o ) ?_
  refine g_aloadN X0 hx rfl rfl (hb hby d6_0) 1 rfl ?_
  refine g_instYes X0 hx hZ hown (wd hw 50 rfl) (Ins.self E_o) eq0 (hb hby d6_1) 4 rfl (fun T101 X102 e103 => ?_)
  show Go p_ e_ below _ T101 (mkF m_ 4 #[.val (.ref a), .val (.ref o), .unset] [(.int (1 : Int32))])
  refine g_if_eq X102 hx (hb hby d6_4) 15 7 (by decide) rfl rfl (fun q4 => ?_) (fun q4 => ?_)
  · exact absurd q4 (by decide)
  · refine g_aloadN X102 hx rfl rfl (hb hby d6_7) 8 rfl ?_
    refine g_checkcast X102 hx hZ hown (wd hw 50 rfl) (Ins.self E_o) e103 (hb hby d6_8) 11 rfl (fun T104 X105 e106 => ?_)
    show Go p_ e_ below _ T104 (mkF m_ 11 #[.val (.ref a), .val (.ref o), .unset] [(.ref o)])
    refine g_astoreN X105 hx #[.val (.ref a), .val (.ref o), .val (.ref o)] rfl rfl (hb hby d6_11) 12 rfl ?_
    refine g_goto X105 hx (hb hby d6_12) 17 (by decide) rfl ?_
    refine g_aloadN X105 hx rfl rfl (hb hby d6_17) 18 rfl ?_
    refine g_getfield X105 hx hZ hown (host := "") (Or.inl (wd hw 35 rfl)) Via.refl FK_a e106 (hb hby d6_18) 21 rfl (fun T107 X108 e109 => ?_)
    show Go p_ e_ below _ T107 (mkF m_ 21 #[.val (.ref a), .val (.ref o), .val (.ref o)] [(.ref k1)])
    refine g_aloadN X108 hx rfl rfl (hb hby d6_21) 22 rfl ?_
    refine g_getfield X108 hx hZ hown (host := "") (Or.inl (wd hw 35 rfl)) Via.refl FK_o e109 (hb hby d6_22) 25 rfl (fun T110 X111 e112 => ?_)
    show Go p_ e_ below _ T110 (mkF m_ 25 #[.val (.ref a), .val (.ref o), .val (.ref o)] [(.ref k2), (.ref k1)])
    refine g_acmp_ne X111 hx rfl rfl (hb hby d6_25) 55 28 (by decide) rfl rfl (fun q25 => ?_) (fun q25 => ?_)
    · refine g_iconst X111 hx (0 : Int32) rfl (hb hby d6_55) 56 rfl ?_
      exact g_retz X111 hx hret hlk (by decide) (by decide) (hb hby d6_56) ⟨congrArg (fun z => some (Value.int z)) (show eqv k1 k2 n1 n2 d1 d2 = _ from ((if_neg q25).trans rfl)).symm, e112, rfl⟩
    · refine g_aloadN X111 hx rfl rfl (hb hby d6_28) 29 rfl ?_
      refine g_getfield X111 hx hZ hown (host := "") (Or.inl (wd hw 41 rfl)) Via.refl FN_a e112 (hb hby d6_29) 32 rfl (fun T113 X114 e115 => ?_)
      show Go p_ e_ below _ T113 (mkF m_ 32 #[.val (.ref a), .val (.ref o), .val (.ref o)] [(.int n1)])
      refine g_aloadN X114 hx rfl rfl (hb hby d6_32) 33 rfl ?_
      refine g_getfield X114 hx hZ hown (host := "") (Or.inl (wd hw 41 rfl)) Via.refl FN_o e115 (hb hby d6_33) 36 rfl (fun T116 X117 e118 => ?_)
      show Go p_ e_ below _ T116 (mkF m_ 36 #[.val (.ref a), .val (.ref o), .val (.ref o)] [(.int n2), (.int n1)])
      refine g_icmp_ne X117 hx (hb hby d6_36) 55 39 (by decide) rfl rfl (fun q36 => ?_) (fun q36 => ?_)
      · refine g_iconst X117 hx (0 : Int32) rfl (hb hby d6_55) 56 rfl ?_
        exact g_retz X117 hx hret hlk (by decide) (by decide) (hb hby d6_56) ⟨congrArg (fun z => some (Value.int z)) (show eqv k1 k2 n1 n2 d1 d2 = _ from ((if_pos q25).trans ((if_neg q36).trans rfl))).symm, e118, rfl⟩
      · refine g_aloadN X117 hx rfl rfl (hb hby d6_39) 40 rfl ?_
        refine g_getfield X117 hx hZ hown (host := "") (Or.inl (wd hw 43 rfl)) Via.refl FD_a e118 (hb hby d6_40) 43 rfl (fun T119 X120 e121 => ?_)
        show Go p_ e_ below _ T119 (mkF m_ 43 #[.val (.ref a), .val (.ref o), .val (.ref o)] [(.long d1)])
        refine g_aloadN X120 hx rfl rfl (hb hby d6_43) 44 rfl ?_
        refine g_getfield X120 hx hZ hown (host := "") (Or.inl (wd hw 43 rfl)) Via.refl FD_o e121 (hb hby d6_44) 47 rfl (fun T122 X123 e124 => ?_)
        show Go p_ e_ below _ T122 (mkF m_ 47 #[.val (.ref a), .val (.ref o), .val (.ref o)] [(.long d2), (.long d1)])
        refine g_lif_ne X123 hx (hb hby d6_47) 48 rfl (hb hby d6_48) 55 51 (by decide) rfl rfl (fun q47 => ?_) (fun q47 => ?_)
        · refine g_iconst X123 hx (0 : Int32) rfl (hb hby d6_55) 56 rfl ?_
          exact g_retz X123 hx hret hlk (by decide) (by decide) (hb hby d6_56) ⟨congrArg (fun z => some (Value.int z)) (show eqv k1 k2 n1 n2 d1 d2 = _ from ((if_pos q25).trans ((if_pos q36).trans ((if_neg q47).trans rfl)))).symm, e124, rfl⟩
        · refine g_iconst X123 hx (1 : Int32) rfl (hb hby d6_51) 52 rfl ?_
          refine g_goto X123 hx (hb hby d6_52) 56 (by decide) rfl ?_
          exact g_retz X123 hx hret hlk (by decide) (by decide) (hb hby d6_56) ⟨congrArg (fun z => some (Value.int z)) (show eqv k1 k2 n1 n2 d1 d2 = _ from ((if_pos q25).trans ((if_pos q36).trans ((if_pos q47).trans rfl)))).symm, e124, rfl⟩
def Q9 (Z : State) (a : Addr) (h0 : Heap) (n0 : Nat) (v : Option Value) (h : Heap) (L : List Loc) : Prop := v = none ∧ Fr n0 L ∧ Keep h0 h []
theorem ef9 (m_ : MethodId) (a : Addr)  : entryFrame m_ #[(.ref a)] 1 = mkF m_ 0 #[.val (.ref a)] [] := by first | (simp [entryFrame, mkF, argsToLocals, Value.category]; done) | rfl
theorem pn_3 : plainName "java/lang/Number" = true := by first | (simp [plainName, overriddenIn]; done) | decide +kernel
theorem d9_0 : decode jdk_18_method_1_code 0 = .ok (.aload_n 0, 1) := by decide +kernel
theorem d9_1 : decode jdk_18_method_1_code 1 = .ok (.invokespecial 1, 3) := by decide +kernel
theorem d9_4 : decode jdk_18_method_1_code 4 = .ok (.return_, 1) := by decide +kernel
set_option maxRecDepth 65536 in
set_option maxHeartbeats 40000000 in
theorem co9 (l : Launch) (Z : State) (a0 : Array Value) (hw : ∀ d ∈ tables_1, d.before a0 Z = true) (a : Addr) (h0 : Heap) (n0 : Nat) (Z0 : n0 ≤ h0.size)    : Co l (⟨"java/lang/Number", "<init>", "()V"⟩ : MethodName) jdk_18_method_1_code 1 none [] ({ frames := 1, cells := 0, slots := 0, locals := 12 } : Room) Z h0 #[(.ref a)] (Q9 Z a h0 n0) := by
  refine Co.of (plainFor_of_name pn_3) ?_
  intro p_ e_ s_ m_ below meth c_ T0 X0 hx hby hml hown hnm hret hlk hZ eq0
  have N0 := Fr.nil n0
  refine Go.cast (ef9 m_ a ) ?_
  refine g_aloadN X0 hx rfl rfl (hb hby d9_0) 1 rfl ?_
  refine g_initO X0 hx hZ hown (wd hw 74 rfl) (wd hw 19 rfl) (wd hw 20 rfl) eq0 (by rw [hml]; rfl) (hb hby d9_1) (by decide) 0 (Nat.le_of_eq rfl) (by decide) 4 rfl (fun T101 X102 e103 => ?_)
  show Go p_ e_ below _ T101 (mkF m_ 4 #[.val (.ref a)] [])
  exact g_retv X102 hx hret hlk (by decide) (by decide) (hb hby d9_4) (by rw [e103]; exact ⟨rfl, N0, (Keep.refl h0 [])⟩)
def Q8 (Z : State) (a : Addr) (x : Int32) (h0 : Heap) (n0 : Nat) (v : Option Value) (h : Heap) (L : List Loc) : Prop := v = none ∧ Fr n0 L ∧ Keep h0 h [a] ∧ Exa Z h a "java/lang/Integer"
theorem ef8 (m_ : MethodId) (a : Addr) (x : Int32)  : entryFrame m_ #[(.ref a), (.int x)] 2 = mkF m_ 0 #[.val (.ref a), .val (.int x)] [] := by first | (simp [entryFrame, mkF, argsToLocals, Value.category]; done) | rfl
theorem pn_4 : plainName "java/lang/Integer" = true := by first | (simp [plainName, overriddenIn]; done) | decide +kernel
theorem d8_0 : decode jdk_33_method_23_code 0 = .ok (.aload_n 0, 1) := by decide +kernel
theorem pd_1 : parseMethodDescriptor "()V" = some ⟨[], none⟩ := by decide +kernel
theorem d8_1 : decode jdk_33_method_23_code 1 = .ok (.invokespecial 202, 3) := by decide +kernel
theorem d8_4 : decode jdk_33_method_23_code 4 = .ok (.aload_n 0, 1) := by decide +kernel
theorem d8_5 : decode jdk_33_method_23_code 5 = .ok (.iload_n 1, 1) := by decide +kernel
theorem d8_6 : decode jdk_33_method_23_code 6 = .ok (.putfield 205, 3) := by decide +kernel
theorem d8_9 : decode jdk_33_method_23_code 9 = .ok (.return_, 1) := by decide +kernel
set_option maxRecDepth 65536 in
set_option maxHeartbeats 40000000 in
theorem co8 (l : Launch) (Z : State) (a0 : Array Value) (hw : ∀ d ∈ tables_1, d.before a0 Z = true) (a : Addr) (x : Int32) (h0 : Heap) (n0 : Nat) (Z0 : n0 ≤ h0.size)  (g_a : n0 ≤ a) (E_a : Exa Z h0 a "java/lang/Integer") (F_v : Fld Z h0 a "java/lang/Integer" "value" "I" (.int (0 : Int32))) : Co l (⟨"java/lang/Integer", "<init>", "(I)V"⟩ : MethodName) jdk_33_method_23_code 2 none [] ({ frames := 2, cells := 0, slots := 0, locals := 24 } : Room) Z h0 #[(.ref a), (.int x)] (Q8 Z a x h0 n0) := by
  refine Co.of (plainFor_of_name pn_4) ?_
  intro p_ e_ s_ m_ below meth c_ T0 X0 hx hby hml hown hnm hret hlk hZ eq0
  have N0 := Fr.nil n0
  refine Go.cast (ef8 m_ a x ) ?_
  refine g_aloadN X0 hx rfl rfl (hb hby d8_0) 1 rfl ?_
  refine g_init X0 hx hZ hown (wd hw 68 rfl) rfl (wd hw 69 rfl) (wd hw 72 rfl) (wd hw 73 rfl) (by decide) eq0 [] [] rfl (co9 l Z a0 hw a h0 n0 Z0) (lenOf pd_1 rfl) 0 (Nat.le_of_eq rfl) (by decide) (by decide) (by decide) (by decide) (by rw [hml]; rfl) (hb hby d8_1) 4 rfl (fun r101 T102 L103 X104 Q105 => ?_)
  obtain ⟨h106, e107⟩ : ∃ h, T102.heap = h := ⟨_, rfl⟩
  rw [e107] at Q105
  obtain ⟨rfl, n108, K109⟩ := Q105
  have N110 := Fr.app N0 n108
  have F111 := E_a.keep K109
  have F112 := F_v.keep K109 nin0
  have szh113 : n0 ≤ h106.size := Nat.le_trans Z0 K109.1
  have K114 := (Keep.refl h0 [a]).trans K109 all0
  show Go p_ e_ below _ T102 (mkF m_ 4 #[.val (.ref a), .val (.int x)] [])
  refine g_aloadN X104 hx rfl rfl (hb hby d8_4) 5 rfl ?_
  refine g_iloadN X104 hx rfl (hb hby d8_5) 6 rfl ?_
  refine g_putfield X104 hx hZ hown (host := "") (Or.inl (wd hw 75 rfl)) Via.refl e107 F112 F111 (Or.inr ⟨(wd hw 76 rfl), rfl, hnm⟩) (wd hw 63 rfl) (ty := .int) (by decide) rfl rfl (hb hby d8_6) 9 rfl (fun T115 h116 X117 e118 W119 => ?_)
  have F120 := F111.wr W119
  have F121 := F112.same W119
  have N122 := Fr.snoc X117 N110 g_a
  have szh123 : n0 ≤ h116.size := Nat.le_trans szh113 (Nat.le_of_eq W119.size.symm)
  have K124 := K114.wr W119 (Or.inl (List.mem_of_getElem? (i := 0) rfl))
  show Go p_ e_ below _ T115 (mkF m_ 9 #[.val (.ref a), .val (.int x)] [])
  exact g_retv X117 hx hret hlk (by decide) (by decide) (hb hby d8_9) (by rw [e118]; exact ⟨rfl, N122, K124, F120⟩)
theorem own_ix {n : Int32} (q3 : ¬ n < (-128 : Int32)) (q10 : ¬ (127 : Int32) < n) : ¬ (n + (128 : Int32)) < 0 ∧ (n + (128 : Int32)).toNatClampNeg < 256 := by
  have e := c_iadd n 128
  have r := rng32 (n + 128)
  rw [Int32.lt_iff_toInt_lt] at q3 q10
  simp only [show (-128 : Int32).toInt = -128 from rfl, show (127 : Int32).toInt = 127 from rfl, show (128 : Int32).toInt = 128 from rfl] at q3 q10 e
  constructor
  · rw [Int32.lt_iff_toInt_lt, show (0 : Int32).toInt = 0 from rfl]; omega
  · show (n + 128).toInt.toNat < 256
    omega
def Q7 (Z : State) (n : Int32) (ca : Addr) (vs : List Value) (h0 : Heap) (n0 : Nat) (v : Option Value) (h : Heap) (L : List Loc) : Prop := ∃ r, v = some (.ref r) ∧ Fr n0 L ∧ Keep h0 h [] ∧ Exa Z h r "java/lang/Integer"
theorem ef7 (m_ : MethodId) (n : Int32)  : entryFrame m_ #[(.int n)] 1 = mkF m_ 0 #[.val (.int n)] [] := by first | (simp [entryFrame, mkF, argsToLocals, Value.category]; done) | rfl
theorem d7_0 : decode jdk_33_method_22_code 0 = .ok (.iload_n 0, 1) := by decide +kernel
theorem d7_1 : decode jdk_33_method_22_code 1 = .ok (.bipush (-128), 2) := by decide +kernel
theorem d7_3 : decode jdk_33_method_22_code 3 = .ok (.if_icmp .lt 20, 3) := by decide +kernel
theorem d7_23 : decode jdk_33_method_22_code 23 = .ok (.new 1, 3) := by decide +kernel
theorem d7_26 : decode jdk_33_method_22_code 26 = .ok (.dup, 1) := by decide +kernel
theorem d7_27 : decode jdk_33_method_22_code 27 = .ok (.iload_n 0, 1) := by decide +kernel
theorem pd_2 : parseMethodDescriptor "(I)V" = some ⟨[.int], none⟩ := by decide +kernel
theorem d7_28 : decode jdk_33_method_22_code 28 = .ok (.invokespecial 199, 3) := by decide +kernel
theorem d7_31 : decode jdk_33_method_22_code 31 = .ok (.areturn, 1) := by decide +kernel
theorem d7_6 : decode jdk_33_method_22_code 6 = .ok (.iload_n 0, 1) := by decide +kernel
theorem d7_7 : decode jdk_33_method_22_code 7 = .ok (.getstatic 191, 3) := by decide +kernel
theorem d7_10 : decode jdk_33_method_22_code 10 = .ok (.if_icmp .gt 13, 3) := by decide +kernel
theorem d7_13 : decode jdk_33_method_22_code 13 = .ok (.getstatic 195, 3) := by decide +kernel
theorem d7_16 : decode jdk_33_method_22_code 16 = .ok (.iload_n 0, 1) := by decide +kernel
theorem d7_17 : decode jdk_33_method_22_code 17 = .ok (.sipush 128, 3) := by decide +kernel
theorem d7_20 : decode jdk_33_method_22_code 20 = .ok (.iadd, 1) := by decide +kernel
theorem d7_21 : decode jdk_33_method_22_code 21 = .ok (.aaload, 1) := by decide +kernel
theorem d7_22 : decode jdk_33_method_22_code 22 = .ok (.areturn, 1) := by decide +kernel
set_option maxRecDepth 65536 in
set_option maxHeartbeats 40000000 in
theorem co7 (l : Launch) (Z : State) (a0 : Array Value) (hw : ∀ d ∈ tables_1, d.before a0 Z = true) (n : Int32) (ca : Addr) (vs : List Value) (h0 : Heap) (n0 : Nat) (Z0 : n0 ≤ h0.size)   (S_h : Sta Z h0 "java/lang/Integer$IntegerCache" "high" "I" (.int (127 : Int32))) (S_c : Sta Z h0 "java/lang/Integer$IntegerCache" "cache" "[Ljava/lang/Integer;" (.ref ca)) (A_c : AV Z h0 ca (.object "java/lang/Integer") vs) (I_c : IC Z h0 vs) : Co l (⟨"java/lang/Integer", "valueOf", "(I)Ljava/lang/Integer;"⟩ : MethodName) jdk_33_method_22_code 1 (some (.object "java/lang/Integer")) [] ({ frames := 3, cells := 1, slots := 1, locals := 38 } : Room) Z h0 #[(.int n)] (Q7 Z n ca vs h0 n0) := by
  refine Co.of (plainFor_of_name pn_4) ?_
  intro p_ e_ s_ m_ below meth c_ T0 X0 hx hby hml hown hnm hret hlk hZ eq0
  have N0 := Fr.nil n0
  refine Go.cast (ef7 m_ n ) ?_
  refine g_iloadN X0 hx rfl (hb hby d7_0) 1 rfl ?_
  refine g_bipush X0 hx (-128 : Int32) rfl (hb hby d7_1) 3 rfl ?_
  refine g_icmp_lt X0 hx (hb hby d7_3) 23 6 (by decide) rfl rfl (fun q3 => ?_) (fun q3 => ?_)
  · refine g_new X0 hx hZ hown (wd hw 62 rfl) (wd hw 63 rfl) (wd hw 58 rfl) eq0 (hb hby d7_23) (by decide) (by decide) 26 rfl (fun T101 h102 b103 X104 e105 g106 E107 A108 D109 => ?_)
    have ne110 : ca ≠ b103 := Nat.ne_of_lt (Nat.lt_of_lt_of_eq A_c.lt g106.symm)
    have F111 := S_h.ext E107
    have F112 := S_c.ext E107
    have F113 := A_c.ext E107
    have F114 := I_c.ext E107
    have sz115 : n0 ≤ b103 := Nat.le_trans Z0 (Nat.le_of_eq g106.symm)
    have szh116 : n0 ≤ h102.size := Nat.le_trans Z0 E107.1
    have szk117 : h0.size ≤ b103 := Nat.le_trans (Keep.refl h0 []).1 (Nat.le_of_eq g106.symm)
    have K118 := (Keep.refl h0 []).ext E107
    have F119 : Fld Z h102 b103 "java/lang/Integer" "value" "I" (.int (0 : Int32)) := D109 (Or.inr (wd hw 76 rfl)) (ty := .int) (by decide)
    show Go p_ e_ below _ T101 (mkF m_ 26 #[.val (.int n)] [(.ref b103)])
    refine g_dup X104 hx rfl (hb hby d7_26) 27 rfl ?_
    refine g_iloadN X104 hx rfl (hb hby d7_27) 28 rfl ?_
    refine g_init X104 hx hZ hown (wd hw 64 rfl) rfl (wd hw 65 rfl) (wd hw 58 rfl) (wd hw 67 rfl) (by decide) e105 [(.int n)] [(.ref b103)] rfl (co8 l Z a0 hw b103 n h102 n0 szh116 sz115 A108 F119) (lenOf pd_2 rfl) 1 (Nat.le_of_eq rfl) (by decide) (by decide) (by decide) (by decide) (by rw [hml]; rfl) (hb hby d7_28) 31 rfl (fun r120 T121 L122 X123 Q124 => ?_)
    obtain ⟨h125, e126⟩ : ∃ h, T121.heap = h := ⟨_, rfl⟩
    rw [e126] at Q124
    obtain ⟨rfl, n127, K128, E129⟩ := Q124
    have N130 := Fr.app N0 n127
    have F131 := own_sta_keep F111 K128 (nsS A108.nostat ns0)
    have F132 := own_sta_keep F112 K128 (nsS A108.nostat ns0)
    have F133 := F113.keep K128 (ninS ne110 nin0)
    have F134 := F114.keep K128
    have F135 := A108.keep K128
    have szh136 : n0 ≤ h125.size := Nat.le_trans szh116 K128.1
    have K137 := K118.trans K128 (allS (Or.inr szk117) all0)
    show Go p_ e_ below _ T121 (mkF m_ 31 #[.val (.int n)] [(.ref b103)])
    exact g_reta X123 hx rfl rfl hret hlk (by decide) (by decide) (hb hby d7_31) (by rw [e126]; exact ⟨b103, rfl, N130, K137, E129⟩)
  · refine g_iloadN X0 hx rfl (hb hby d7_6) 7 rfl ?_
    refine g_getstatic X0 hx hZ hown (host := "") (Or.inl (wd hw 60 rfl)) Via.refl S_h eq0 (hb hby d7_7) 10 rfl (fun T138 X139 e140 => ?_)
    show Go p_ e_ below _ T138 (mkF m_ 10 #[.val (.int n)] [(.int (127 : Int32)), (.int n)])
    refine g_icmp_gt X139 hx (hb hby d7_10) 23 13 (by decide) rfl rfl (fun q10 => ?_) (fun q10 => ?_)
    · refine g_new X139 hx hZ hown (wd hw 62 rfl) (wd hw 63 rfl) (wd hw 58 rfl) e140 (hb hby d7_23) (by decide) (by decide) 26 rfl (fun T141 h142 b143 X144 e145 g146 E147 A148 D149 => ?_)
      have ne150 : ca ≠ b143 := Nat.ne_of_lt (Nat.lt_of_lt_of_eq A_c.lt g146.symm)
      have F151 := S_h.ext E147
      have F152 := S_c.ext E147
      have F153 := A_c.ext E147
      have F154 := I_c.ext E147
      have sz155 : n0 ≤ b143 := Nat.le_trans Z0 (Nat.le_of_eq g146.symm)
      have szh156 : n0 ≤ h142.size := Nat.le_trans Z0 E147.1
      have szk157 : h0.size ≤ b143 := Nat.le_trans (Keep.refl h0 []).1 (Nat.le_of_eq g146.symm)
      have K158 := (Keep.refl h0 []).ext E147
      have F159 : Fld Z h142 b143 "java/lang/Integer" "value" "I" (.int (0 : Int32)) := D149 (Or.inr (wd hw 76 rfl)) (ty := .int) (by decide)
      show Go p_ e_ below _ T141 (mkF m_ 26 #[.val (.int n)] [(.ref b143)])
      refine g_dup X144 hx rfl (hb hby d7_26) 27 rfl ?_
      refine g_iloadN X144 hx rfl (hb hby d7_27) 28 rfl ?_
      refine g_init X144 hx hZ hown (wd hw 64 rfl) rfl (wd hw 65 rfl) (wd hw 58 rfl) (wd hw 67 rfl) (by decide) e145 [(.int n)] [(.ref b143)] rfl (co8 l Z a0 hw b143 n h142 n0 szh156 sz155 A148 F159) (lenOf pd_2 rfl) 1 (Nat.le_of_eq rfl) (by decide) (by decide) (by decide) (by decide) (by rw [hml]; rfl) (hb hby d7_28) 31 rfl (fun r160 T161 L162 X163 Q164 => ?_)
      obtain ⟨h165, e166⟩ : ∃ h, T161.heap = h := ⟨_, rfl⟩
      rw [e166] at Q164
      obtain ⟨rfl, n167, K168, E169⟩ := Q164
      have N170 := Fr.app N0 n167
      have F171 := own_sta_keep F151 K168 (nsS A148.nostat ns0)
      have F172 := own_sta_keep F152 K168 (nsS A148.nostat ns0)
      have F173 := F153.keep K168 (ninS ne150 nin0)
      have F174 := F154.keep K168
      have F175 := A148.keep K168
      have szh176 : n0 ≤ h165.size := Nat.le_trans szh156 K168.1
      have K177 := K158.trans K168 (allS (Or.inr szk157) all0)
      show Go p_ e_ below _ T161 (mkF m_ 31 #[.val (.int n)] [(.ref b143)])
      exact g_reta X163 hx rfl rfl hret hlk (by decide) (by decide) (hb hby d7_31) (by rw [e166]; exact ⟨b143, rfl, N170, K177, E169⟩)
    · refine g_getstatic X139 hx hZ hown (host := "") (Or.inl (wd hw 80 rfl)) Via.refl S_c e140 (hb hby d7_13) 16 rfl (fun T178 X179 e180 => ?_)
      show Go p_ e_ below _ T178 (mkF m_ 16 #[.val (.int n)] [(.ref ca)])
      refine g_iloadN X179 hx rfl (hb hby d7_16) 17 rfl ?_
      refine g_sipush X179 hx (128 : Int32) rfl (hb hby d7_17) 20 rfl ?_
      refine g_iadd X179 hx (hb hby d7_20) 21 rfl ?_
      obtain ⟨r181, hr182, E183⟩ := I_c (n + (128 : Int32)).toNatClampNeg (own_ix q3 q10).2
      refine g_aaload X179 hx hZ e180 A_c rfl (own_ix q3 q10).1 hr182 (hb hby d7_21) 22 rfl ?_
      show Go p_ e_ below _ T178 (mkF m_ 22 #[.val (.int n)] [(.ref r181)])
      exact g_reta X179 hx rfl rfl hret hlk (by decide) (by decide) (hb hby d7_22) (by rw [e180]; exact ⟨r181, rfl, N0, (Keep.refl h0 []), E183⟩)
theorem ef0 (m_ : MethodId) (x0 : Int32) (x1 : Int32) (x2 : Int32) (x3 : Int64) (x5 : Int64) (x7 : Int32)  : entryFrame m_ #[(.int x0), (.int x1), (.int x2), (.long x3), (.long x5), (.int x7)] maxLocals = mkF m_ 0 #[.val (.int x0), .val (.int x1), .val (.int x2), .val (.long x3), .second, .val (.long x5), .second, .val (.int x7), .unset, .unset, .unset, .unset, .unset, .unset, .unset, .unset, .unset, .unset, .unset, .unset, .unset] [] := by first | (simp [entryFrame, mkF, argsToLocals, Value.category, maxLocals]; done) | rfl
theorem pd_3 : parseMethodDescriptor "(II)I" = some ⟨[.int, .int], some .int⟩ := by decide +kernel
theorem pd_4 : parseMethodDescriptor "(I)Lcom/example/redshank/redshank/monitor/Finding$Kind;" = some ⟨[.int], some (.object "com/example/redshank/redshank/monitor/Finding$Kind")⟩ := by decide +kernel
theorem pd_5 : parseMethodDescriptor "(Lcom/example/redshank/redshank/monitor/Finding$Kind;IJ)V" = some ⟨[(.object "com/example/redshank/redshank/monitor/Finding$Kind"), .int, .long], none⟩ := by decide +kernel
theorem pd_6 : parseMethodDescriptor "(Ljava/lang/Object;)Z" = some ⟨[(.object "java/lang/Object")], some .boolean⟩ := by decide +kernel
theorem pd_7 : parseMethodDescriptor "(I)Ljava/lang/Integer;" = some ⟨[.int], some (.object "java/lang/Integer")⟩ := by decide +kernel
set_option maxRecDepth 65536 in
set_option maxHeartbeats 40000000 in
theorem rm0 (l : Launch) (Z : State) (a0 : Array Value) (hw : ∀ d ∈ tables_1, d.before a0 Z = true) (hEL : EW Z a0 EL) (ws : List Jvm.Cond) (x0 : Int32) (x1 : Int32) (x2 : Int32) (x3 : Int64) (x5 : Int64) (x7 : Int32) (h0 : Heap) (k_EARLY : Addr) (k_LATE : Addr) (k_MISSING : Addr) (k_UNDECIDED : Addr) (ca : Addr) (vs : List Value) (S_EARLY : Sta Z h0 "com/example/redshank/redshank/monitor/Finding$Kind" "EARLY" "Lcom/example/redshank/redshank/monitor/Finding$Kind;" (.ref k_EARLY)) (E_EARLY : Exa Z h0 k_EARLY "com/example/redshank/redshank/monitor/Finding$Kind") (S_LATE : Sta Z h0 "com/example/redshank/redshank/monitor/Finding$Kind" "LATE" "Lcom/example/redshank/redshank/monitor/Finding$Kind;" (.ref k_LATE)) (E_LATE : Exa Z h0 k_LATE "com/example/redshank/redshank/monitor/Finding$Kind") (S_MISSING : Sta Z h0 "com/example/redshank/redshank/monitor/Finding$Kind" "MISSING" "Lcom/example/redshank/redshank/monitor/Finding$Kind;" (.ref k_MISSING)) (E_MISSING : Exa Z h0 k_MISSING "com/example/redshank/redshank/monitor/Finding$Kind") (S_UNDECIDED : Sta Z h0 "com/example/redshank/redshank/monitor/Finding$Kind" "UNDECIDED" "Lcom/example/redshank/redshank/monitor/Finding$Kind;" (.ref k_UNDECIDED)) (E_UNDECIDED : Exa Z h0 k_UNDECIDED "com/example/redshank/redshank/monitor/Finding$Kind") (S_h : Sta Z h0 "java/lang/Integer$IntegerCache" "high" "I" (.int (127 : Int32))) (S_c : Sta Z h0 "java/lang/Integer$IntegerCache" "cache" "[Ljava/lang/Integer;" (.ref ca)) (A_c : AV Z h0 ca (.object "java/lang/Integer") vs) (I_c : IC Z h0 vs) (ne_EARLY_LATE : ¬ k_EARLY = k_LATE) (ne_EARLY_MISSING : ¬ k_EARLY = k_MISSING) (ne_EARLY_UNDECIDED : ¬ k_EARLY = k_UNDECIDED) (ne_LATE_MISSING : ¬ k_LATE = k_MISSING) (ne_LATE_UNDECIDED : ¬ k_LATE = k_UNDECIDED) (ne_MISSING_UNDECIDED : ¬ k_MISSING = k_UNDECIDED) : CoH l x code maxLocals ret ws room_1 Z EL h0 #[(.int x0), (.int x1), (.int x2), (.long x3), (.long x5), (.int x7)] (fun v h L => v = some (.int 1) ∧ Fr h0.size L) := by
  refine CoH.of (plainFor_of_name pn_0) ?_
  intro p_ e_ s_ m_ below meth c_ T0 X0 hx hby hml hown hnm hret hlk hZ eq0 hs0 hS H
  have N0 := Fr.nil h0.size
  have hk0 := Nat.le_refl h0.size
  refine Go.cast (ef0 m_ x0 x1 x2 x3 x5 x7) ?_
  refine g_iloadN X0 hx rfl (hb hby at_0) 1 rfl ?_
  refine g_iconst X0 hx (3 : Int32) rfl (hb hby at_1) 2 rfl ?_
  refine g_iand X0 hx (hb hby at_2) 3 rfl ?_
  generalize hv101 : (x0 &&& (3 : Int32)) = v101
  refine g_istore X0 hx #[.val (.int x0), .val (.int x1), .val (.int x2), .val (.long x3), .second, .val (.long x5), .second, .val (.int x7), .val (.int v101), .unset, .unset, .unset, .unset, .unset, .unset, .unset, .unset, .unset, .unset, .unset, .unset] rfl (hb hby at_3) 5 rfl ?_
  refine Go.joinT (α := Int32) X0 eq0 (fun z => mkF m_ 22 #[.val (.int x0), .val (.int x1), .val (.int x2), .val (.long x3), .second, .val (.long x5), .second, .val (.int x7), .val (.int v101), .unset, .unset, .unset, .unset, .unset, .unset, .unset, .unset, .unset, .unset, .unset, .unset] [(.int z)]) (fun z => z = (if (x7 &&& (4 : Int32)) = (0 : Int32) then ((XT.ushr x0 (2 : Int32)) &&& (3 : Int32)) else v101)) ?_ (fun J103 => ?_)
  · rintro T104 X105 e106 z102 hz102
    show Go p_ e_ below _ T104 (mkF m_ 22 #[.val (.int x0), .val (.int x1), .val (.int x2), .val (.long x3), .second, .val (.long x5), .second, .val (.int x7), .val (.int v101), .unset, .unset, .unset, .unset, .unset, .unset, .unset, .unset, .unset, .unset, .unset, .unset] [(.int z102)])
    refine g_istore X105 hx #[.val (.int x0), .val (.int x1), .val (.int x2), .val (.long x3), .second, .val (.long x5), .second, .val (.int x7), .val (.int v101), .val (.int z102), .unset, .unset, .unset, .unset, .unset, .unset, .unset, .unset, .unset, .unset, .unset] rfl (hb hby at_22) 24 rfl ?_
    refine g_iconst X105 hx (1 : Int32) rfl (hb hby at_24) 25 rfl ?_
    refine g_iloadN X105 hx rfl (hb hby at_25) 26 rfl ?_
    refine g_ldc X105 hx hZ hown (wd hw 0 rfl) (hb hby at_26) 28 rfl ?_
    refine g_iand X105 hx (hb hby at_28) 29 rfl ?_
    refine g_callS X105 hx hZ hown (wd hw 1 rfl) (wd hw 2 rfl) (wd hw 3 rfl) (wd hw 4 rfl) (by decide) e106 [(.int (1 : Int32)), (.int (x1 &&& (2147483647 : Int32)))] []  rfl (co1 l Z a0 hw (1 : Int32) (x1 &&& (2147483647 : Int32))  h0 ) (lenOf pd_3 rfl) 0 (Nat.le_of_eq rfl) (by decide) (by decide) (by decide) (by decide) (by rw [hml]; rfl) (hb hby at_29) 32 rfl (pu_cont fun T110 X109 e111 => ?_)
    show Go p_ e_ below _ T110 (mkF m_ 32 #[.val (.int x0), .val (.int x1), .val (.int x2), .val (.long x3), .second, .val (.long x5), .second, .val (.int x7), .val (.int v101), .val (.int z102), .unset, .unset, .unset, .unset, .unset, .unset, .unset, .unset, .unset, .unset, .unset] [(.int (mx (1 : Int32) (x1 &&& (2147483647 : Int32))))])
    generalize hv112 : (mx (1 : Int32) (x1 &&& (2147483647 : Int32))) = v112
    refine g_istore X109 hx #[.val (.int x0), .val (.int x1), .val (.int x2), .val (.long x3), .second, .val (.long x5), .second, .val (.int x7), .val (.int v101), .val (.int z102), .val (.int v112), .unset, .unset, .unset, .unset, .unset, .unset, .unset, .unset, .unset, .unset] rfl (hb hby at_32) 34 rfl ?_
    refine Go.joinT (α := Int32) X109 e111 (fun z => mkF m_ 54 #[.val (.int x0), .val (.int x1), .val (.int x2), .val (.long x3), .second, .val (.long x5), .second, .val (.int x7), .val (.int v101), .val (.int z102), .val (.int v112), .unset, .unset, .unset, .unset, .unset, .unset, .unset, .unset, .unset, .unset] [(.int z)]) (fun z => z = (if (x7 &&& (1 : Int32)) = (0 : Int32) then (mx (1 : Int32) (x2 &&& (2147483647 : Int32))) else v112)) ?_ (fun J114 => ?_)
    · rintro T115 X116 e117 z113 hz113
      show Go p_ e_ below _ T115 (mkF m_ 54 #[.val (.int x0), .val (.int x1), .val (.int x2), .val (.long x3), .second, .val (.long x5), .second, .val (.int x7), .val (.int v101), .val (.int z102), .val (.int v112), .unset, .unset, .unset, .unset, .unset, .unset, .unset, .unset, .unset, .unset] [(.int z113)])
      refine g_istore X116 hx #[.val (.int x0), .val (.int x1), .val (.int x2), .val (.long x3), .second, .val (.long x5), .second, .val (.int x7), .val (.int v101), .val (.int z102), .val (.int v112), .val (.int z113), .unset, .unset, .unset, .unset, .unset, .unset, .unset, .unset, .unset] rfl (hb hby at_54) 56 rfl ?_
      refine Go.joinT (α := Int64) X116 e117 (fun z => mkF m_ 67 #[.val (.int x0), .val (.int x1), .val (.int x2), .val (.long x3), .second, .val (.long x5), .second, .val (.int x7), .val (.int v101), .val (.int z102), .val (.int v112), .val (.int z113), .unset, .unset, .unset, .unset, .unset, .unset, .unset, .unset, .unset] [(.long z)]) (fun z => z = (if (1 : Int32) < v101 then (0 : Int64) else x3)) ?_ (fun J121 => ?_)
      · rintro T122 X123 e124 z120 hz120
        show Go p_ e_ below _ T122 (mkF m_ 67 #[.val (.int x0), .val (.int x1), .val (.int x2), .val (.long x3), .second, .val (.long x5), .second, .val (.int x7), .val (.int v101), .val (.int z102), .val (.int v112), .val (.int z113), .unset, .unset, .unset, .unset, .unset, .unset, .unset, .unset, .unset] [(.long z120)])
        refine g_lstore X123 hx #[.val (.int x0), .val (.int x1), .val (.int x2), .val (.long x3), .second, .val (.long x5), .second, .val (.int x7), .val (.int v101), .val (.int z102), .val (.int v112), .val (.int z113), .val (.long z120), .second, .unset, .unset, .unset, .unset, .unset, .unset, .unset] rfl (hb hby at_67) 69 rfl ?_
        refine Go.joinT (α := Int64) X123 e124 (fun z => mkF m_ 93 #[.val (.int x0), .val (.int x1), .val (.int x2), .val (.long x3), .second, .val (.long x5), .second, .val (.int x7), .val (.int v101), .val (.int z102), .val (.int v112), .val (.int z113), .val (.long z120), .second, .unset, .unset, .unset, .unset, .unset, .unset, .unset] [(.long z)]) (fun z => z = (if (1 : Int32) < z102 then (0 : Int64) else (if (x7 &&& (2 : Int32)) = (0 : Int32) then x5 else z120))) ?_ (fun J128 => ?_)
        · rintro T129 X130 e131 z127 hz127
          show Go p_ e_ below _ T129 (mkF m_ 93 #[.val (.int x0), .val (.int x1), .val (.int x2), .val (.long x3), .second, .val (.long x5), .second, .val (.int x7), .val (.int v101), .val (.int z102), .val (.int v112), .val (.int z113), .val (.long z120), .second, .unset, .unset, .unset, .unset, .unset, .unset, .unset] [(.long z127)])
          refine g_lstore X130 hx #[.val (.int x0), .val (.int x1), .val (.int x2), .val (.long x3), .second, .val (.long x5), .second, .val (.int x7), .val (.int v101), .val (.int z102), .val (.int v112), .val (.int z113), .val (.long z120), .second, .val (.long z127), .second, .unset, .unset, .unset, .unset, .unset] rfl (hb hby at_93) 95 rfl ?_
          have p1 : ¬ v112 < (1 : Int32) := hv112 ▸ own_mx _
          have p2 := own_pick2 hz113 (own_mx _) p1
          have r8 : v101 = 0 ∨ v101 = 1 ∨ v101 = 2 ∨ v101 = 3 := hv101 ▸ own_and3 x0
          have r9 := own_pickR hz102 (own_and3 _) r8
          have t1 := own_pickT hz120
          have t2 := own_pickT hz127
          refine g_new X130 hx hZ hown (wd hw 5 rfl) (wd hw 6 rfl) (wd hw 7 rfl) e131 (hb hby at_95) (by decide) (by decide) 98 rfl (fun T134 h135 b136 X137 e138 g139 E140 A141 D142 => ?_)
          have ne143 : ca ≠ b136 := Nat.ne_of_lt (Nat.lt_of_lt_of_eq A_c.lt g139.symm)
          have ne144 : k_EARLY ≠ b136 := Nat.ne_of_lt (Nat.lt_of_lt_of_eq E_EARLY.lt g139.symm)
          have ne145 : k_LATE ≠ b136 := Nat.ne_of_lt (Nat.lt_of_lt_of_eq E_LATE.lt g139.symm)
          have ne146 : k_MISSING ≠ b136 := Nat.ne_of_lt (Nat.lt_of_lt_of_eq E_MISSING.lt g139.symm)
          have ne147 : k_UNDECIDED ≠ b136 := Nat.ne_of_lt (Nat.lt_of_lt_of_eq E_UNDECIDED.lt g139.symm)
          have F148 := S_EARLY.ext E140
          have F149 := E_EARLY.ext E140
          have F150 := S_LATE.ext E140
          have F151 := E_LATE.ext E140
          have F152 := S_MISSING.ext E140
          have F153 := E_MISSING.ext E140
          have F154 := S_UNDECIDED.ext E140
          have F155 := E_UNDECIDED.ext E140
          have F156 := S_h.ext E140
          have F157 := S_c.ext E140
          have F158 := A_c.ext E140
          have F159 := I_c.ext E140
          have sz160 : h0.size ≤ b136 := Nat.le_trans (Nat.le_refl h0.size) (Nat.le_of_eq g139.symm)
          have szh161 : h0.size ≤ h135.size := Nat.le_trans (Nat.le_refl h0.size) E140.1
          have H := H.trans (CHr.ext E140 H.1)
          have hk0 := Nat.le_trans hk0 E140.1
          have F162 : Fld Z h135 b136 "com/example/redshank/redshank/monitor/Finding" "kind" "Lcom/example/redshank/redshank/monitor/Finding$Kind;" .null := D142 (Or.inr (wd hw 36 rfl)) (ty := (.object "com/example/redshank/redshank/monitor/Finding$Kind")) (by decide)
          have F163 : Fld Z h135 b136 "com/example/redshank/redshank/monitor/Finding" "line" "I" (.int (0 : Int32)) := D142 (Or.inr (wd hw 42 rfl)) (ty := .int) (by decide)
          have F164 : Fld Z h135 b136 "com/example/redshank/redshank/monitor/Finding" "delay" "J" (.long (0 : Int64)) := D142 (Or.inr (wd hw 44 rfl)) (ty := .long) (by decide)
          show Go p_ e_ below _ T134 (mkF m_ 98 #[.val (.int x0), .val (.int x1), .val (.int x2), .val (.long x3), .second, .val (.long x5), .second, .val (.int x7), .val (.int v101), .val (.int z102), .val (.int v112), .val (.int z113), .val (.long z120), .second, .val (.long z127), .second, .unset, .unset, .unset, .unset, .unset] [(.ref b136)])
          refine g_dup X137 hx rfl (hb hby at_98) 99 rfl ?_
          refine g_iload X137 hx rfl (hb hby at_99) 101 rfl ?_
          refine g_callS X137 hx hZ hown (wd hw 8 rfl) (wd hw 9 rfl) (wd hw 10 rfl) (wd hw 11 rfl) (by decide) e138 [(.int v101)] [(.ref b136), (.ref b136)]  rfl (co2 l Z a0 hw v101 k_EARLY k_LATE k_MISSING k_UNDECIDED h135 F148 F150 F152 F154) (lenOf pd_4 rfl) 2 (Nat.le_of_eq rfl) (by decide) (by decide) (by decide) (by decide) (by rw [hml]; rfl) (hb hby at_101) 104 rfl (pu_cont fun T166 X165 e167 => ?_)
          show Go p_ e_ below _ T166 (mkF m_ 104 #[.val (.int x0), .val (.int x1), .val (.int x2), .val (.long x3), .second, .val (.long x5), .second, .val (.int x7), .val (.int v101), .val (.int z102), .val (.int v112), .val (.int z113), .val (.long z120), .second, .val (.long z127), .second, .unset, .unset, .unset, .unset, .unset] [(.ref (kof v101 k_EARLY k_LATE k_MISSING k_UNDECIDED)), (.ref b136), (.ref b136)])
          generalize hka168 : (kof v101 k_EARLY k_LATE k_MISSING k_UNDECIDED) = ka168
          have E169 := own_kof_exa hka168 F149 F151 F153 F155
          show Go p_ e_ below _ T166 (mkF m_ 104 #[.val (.int x0), .val (.int x1), .val (.int x2), .val (.long x3), .second, .val (.long x5), .second, .val (.int x7), .val (.int v101), .val (.int z102), .val (.int v112), .val (.int z113), .val (.long z120), .second, .val (.long z127), .second, .unset, .unset, .unset, .unset, .unset] [(.ref ka168), (.ref b136), (.ref b136)])
          refine g_iload X165 hx rfl (hb hby at_104) 106 rfl ?_
          refine g_lload X165 hx rfl (hb hby at_106) 108 rfl ?_
          refine g_initH X165 hx hown (wd hw 15 rfl) rfl (wd hw 16 rfl) (wd hw 7 rfl) (wd hw 17 rfl) (by decide) e167 [(.ref ka168), (.int v112), (.long z120)] [(.ref b136)] hZ hS hk0 hEL H rfl (co3 l Z a0 hw hEL b136 ka168 v112 z120 k_MISSING k_UNDECIDED h135 h0.size szh161 sz160 A141 F162 F163 F164 E169 F152 F154 p1 (t1.imp id (own_kof_ne k_EARLY k_LATE k_MISSING k_UNDECIDED hka168 ne_EARLY_LATE ne_EARLY_MISSING ne_EARLY_UNDECIDED ne_LATE_MISSING ne_LATE_UNDECIDED ne_MISSING_UNDECIDED r8))) (lenOf pd_5 rfl) 1 (Nat.le_of_eq rfl) (by decide) (by decide) (by decide) (by decide) (by rw [hml]; rfl) (hb hby at_108) 111 rfl (fun r170 T171 h172 L173 X174 e175 hZ hown hS H Q176 => ?_)
          have hk0 := Nat.le_refl h172.size
          obtain ⟨rfl, n177, K178, E179, F180, F181, F182⟩ := Q176
          have N183 := Fr.app N0 n177
          have F184 := own_sta_keep F148 K178 (nsS A141.nostat ns0)
          have F185 := F149.keep K178
          have F186 := own_sta_keep F150 K178 (nsS A141.nostat ns0)
          have F187 := F151.keep K178
          have F188 := own_sta_keep F152 K178 (nsS A141.nostat ns0)
          have F189 := F153.keep K178
          have F190 := own_sta_keep F154 K178 (nsS A141.nostat ns0)
          have F191 := F155.keep K178
          have F192 := own_sta_keep F156 K178 (nsS A141.nostat ns0)
          have F193 := own_sta_keep F157 K178 (nsS A141.nostat ns0)
          have F194 := F158.keep K178 (ninS ne143 nin0)
          have F195 := F159.keep K178
          have F196 := A141.keep K178
          have F197 := E169.keep K178
          have szh198 : h0.size ≤ h172.size := Nat.le_trans szh161 K178.1
          show Go p_ e_ below _ T171 (mkF m_ 111 #[.val (.int x0), .val (.int x1), .val (.int x2), .val (.long x3), .second, .val (.long x5), .second, .val (.int x7), .val (.int v101), .val (.int z102), .val (.int v112), .val (.int z113), .val (.long z120), .second, .val (.long z127), .second, .unset, .unset, .unset, .unset, .unset] [(.ref b136)])
          refine g_astore X174 hx #[.val (.int x0), .val (.int x1), .val (.int x2), .val (.long x3), .second, .val (.long x5), .second, .val (.int x7), .val (.int v101), .val (.int z102), .val (.int v112), .val (.int z113), .val (.long z120), .second, .val (.long z127), .second, .val (.ref b136), .unset, .unset, .unset, .unset] rfl rfl (hb hby at_111) 113 rfl ?_
          refine g_new X174 hx hZ hown (wd hw 5 rfl) (wd hw 6 rfl) (wd hw 7 rfl) e175 (hb hby at_113) (by decide) (by decide) 116 rfl (fun T199 h200 b201 X202 e203 g204 E205 A206 D207 => ?_)
          have ne208 : b136 ≠ b201 := Nat.ne_of_lt (Nat.lt_of_lt_of_eq E179.lt g204.symm)
          have ne209 : ca ≠ b201 := Nat.ne_of_lt (Nat.lt_of_lt_of_eq F194.lt g204.symm)
          have ne210 : k_EARLY ≠ b201 := Nat.ne_of_lt (Nat.lt_of_lt_of_eq F185.lt g204.symm)
          have ne211 : k_LATE ≠ b201 := Nat.ne_of_lt (Nat.lt_of_lt_of_eq F187.lt g204.symm)
          have ne212 : k_MISSING ≠ b201 := Nat.ne_of_lt (Nat.lt_of_lt_of_eq F189.lt g204.symm)
          have ne213 : k_UNDECIDED ≠ b201 := Nat.ne_of_lt (Nat.lt_of_lt_of_eq F191.lt g204.symm)
          have ne214 : ka168 ≠ b201 := Nat.ne_of_lt (Nat.lt_of_lt_of_eq F197.lt g204.symm)
          have F215 := F184.ext E205
          have F216 := F185.ext E205
          have F217 := F186.ext E205
          have F218 := F187.ext E205
          have F219 := F188.ext E205
          have F220 := F189.ext E205
          have F221 := F190.ext E205
          have F222 := F191.ext E205
          have F223 := F192.ext E205
          have F224 := F193.ext E205
          have F225 := F194.ext E205
          have F226 := F195.ext E205
          have F227 := E179.ext E205
          have F228 := F197.ext E205
          have F229 := F180.ext E205
          have F230 := F181.ext E205
          have F231 := F182.ext E205
          have sz232 : h0.size ≤ b201 := Nat.le_trans szh198 (Nat.le_of_eq g204.symm)
          have szh233 : h0.size ≤ h200.size := Nat.le_trans szh198 E205.1
          have H := H.trans (CHr.ext E205 H.1)
          have hk0 := Nat.le_trans hk0 E205.1
          have F234 : Fld Z h200 b201 "com/example/redshank/redshank/monitor/Finding" "kind" "Lcom/example/redshank/redshank/monitor/Finding$Kind;" .null := D207 (Or.inr (wd hw 36 rfl)) (ty := (.object "com/example/redshank/redshank/monitor/Finding$Kind")) (by decide)
          have F235 : Fld Z h200 b201 "com/example/redshank/redshank/monitor/Finding" "line" "I" (.int (0 : Int32)) := D207 (Or.inr (wd hw 42 rfl)) (ty := .int) (by decide)
          have F236 : Fld Z h200 b201 "com/example/redshank/redshank/monitor/Finding" "delay" "J" (.long (0 : Int64)) := D207 (Or.inr (wd hw 44 rfl)) (ty := .long) (by decide)
          show Go p_ e_ below _ T199 (mkF m_ 116 #[.val (.int x0), .val (.int x1), .val (.int x2), .val (.long x3), .second, .val (.long x5), .second, .val (.int x7), .val (.int v101), .val (.int z102), .val (.int v112), .val (.int z113), .val (.long z120), .second, .val (.long z127), .second, .val (.ref b136), .unset, .unset, .unset, .unset] [(.ref b201)])
          refine g_dup X202 hx rfl (hb hby at_116) 117 rfl ?_
          refine g_iload X202 hx rfl (hb hby at_117) 119 rfl ?_
          refine g_callS X202 hx hZ hown (wd hw 8 rfl) (wd hw 9 rfl) (wd hw 10 rfl) (wd hw 11 rfl) (by decide) e203 [(.int z102)] [(.ref b201), (.ref b201)]  rfl (co2 l Z a0 hw z102 k_EARLY k_LATE k_MISSING k_UNDECIDED h200 F215 F217 F219 F221) (lenOf pd_4 rfl) 2 (Nat.le_of_eq rfl) (by decide) (by decide) (by decide) (by decide) (by rw [hml]; rfl) (hb hby at_119) 122 rfl (pu_cont fun T238 X237 e239 => ?_)
          show Go p_ e_ below _ T238 (mkF m_ 122 #[.val (.int x0), .val (.int x1), .val (.int x2), .val (.long x3), .second, .val (.long x5), .second, .val (.int x7), .val (.int v101), .val (.int z102), .val (.int v112), .val (.int z113), .val (.long z120), .second, .val (.long z127), .second, .val (.ref b136), .unset, .unset, .unset, .unset] [(.ref (kof z102 k_EARLY k_LATE k_MISSING k_UNDECIDED)), (.ref b201), (.ref b201)])
          generalize hka240 : (kof z102 k_EARLY k_LATE k_MISSING k_UNDECIDED) = ka240
          have E241 := own_kof_exa hka240 F216 F218 F220 F222
          show Go p_ e_ below _ T238 (mkF m_ 122 #[.val (.int x0), .val (.int x1), .val (.int x2), .val (.long x3), .second, .val (.long x5), .second, .val (.int x7), .val (.int v101), .val (.int z102), .val (.int v112), .val (.int z113), .val (.long z120), .second, .val (.long z127), .second, .val (.ref b136), .unset, .unset, .unset, .unset] [(.ref ka240), (.ref b201), (.ref b201)])
          refine g_iload X237 hx rfl (hb hby at_122) 124 rfl ?_
          refine g_lload X237 hx rfl (hb hby at_124) 126 rfl ?_
          refine g_initH X237 hx hown (wd hw 15 rfl) rfl (wd hw 16 rfl) (wd hw 7 rfl) (wd hw 17 rfl) (by decide) e239 [(.ref ka240), (.int z113), (.long z127)] [(.ref b201)] hZ hS hk0 hEL H rfl (co3 l Z a0 hw hEL b201 ka240 z113 z127 k_MISSING k_UNDECIDED h200 h0.size szh233 sz232 A206 F234 F235 F236 E241 F219 F221 p2 (t2.imp id (own_kof_ne k_EARLY k_LATE k_MISSING k_UNDECIDED hka240 ne_EARLY_LATE ne_EARLY_MISSING ne_EARLY_UNDECIDED ne_LATE_MISSING ne_LATE_UNDECIDED ne_MISSING_UNDECIDED r9))) (lenOf pd_5 rfl) 1 (Nat.le_of_eq rfl) (by decide) (by decide) (by decide) (by decide) (by rw [hml]; rfl) (hb hby at_126) 129 rfl (fun r242 T243 h244 L245 X246 e247 hZ hown hS H Q248 => ?_)
          have hk0 := Nat.le_refl h244.size
          obtain ⟨rfl, n249, K250, E251, F252, F253, F254⟩ := Q248
          have N255 := Fr.app N183 n249
          have F256 := own_sta_keep F215 K250 (nsS A206.nostat ns0)
          have F257 := F216.keep K250
          have F258 := own_sta_keep F217 K250 (nsS A206.nostat ns0)
          have F259 := F218.keep K250
          have F260 := own_sta_keep F219 K250 (nsS A206.nostat ns0)
          have F261 := F220.keep K250
          have F262 := own_sta_keep F221 K250 (nsS A206.nostat ns0)
          have F263 := F222.keep K250
          have F264 := own_sta_keep F223 K250 (nsS A206.nostat ns0)
          have F265 := own_sta_keep F224 K250 (nsS A206.nostat ns0)
          have F266 := F225.keep K250 (ninS ne209 nin0)
          have F267 := F226.keep K250
          have F268 := F227.keep K250
          have F269 := F228.keep K250
          have F270 := F229.keep K250 (ninS ne208 nin0)
          have F271 := F230.keep K250 (ninS ne208 nin0)
          have F272 := F231.keep K250 (ninS ne208 nin0)
          have F273 := A206.keep K250
          have F274 := E241.keep K250
          have szh275 : h0.size ≤ h244.size := Nat.le_trans szh233 K250.1
          show Go p_ e_ below _ T243 (mkF m_ 129 #[.val (.int x0), .val (.int x1), .val (.int x2), .val (.long x3), .second, .val (.long x5), .second, .val (.int x7), .val (.int v101), .val (.int z102), .val (.int v112), .val (.int z113), .val (.long z120), .second, .val (.long z127), .second, .val (.ref b136), .unset, .unset, .unset, .unset] [(.ref b201)])
          refine g_astore X246 hx #[.val (.int x0), .val (.int x1), .val (.int x2), .val (.long x3), .second, .val (.long x5), .second, .val (.int x7), .val (.int v101), .val (.int z102), .val (.int v112), .val (.int z113), .val (.long z120), .second, .val (.long z127), .second, .val (.ref b136), .val (.ref b201), .unset, .unset, .unset] rfl rfl (hb hby at_129) 131 rfl ?_
          refine Go.joinT (α := Int32) X246 e247 (fun z => mkF m_ 158 #[.val (.int x0), .val (.int x1), .val (.int x2), .val (.long x3), .second, .val (.long x5), .second, .val (.int x7), .val (.int v101), .val (.int z102), .val (.int v112), .val (.int z113), .val (.long z120), .second, .val (.long z127), .second, .val (.ref b136), .val (.ref b201), .unset, .unset, .unset] [(.int z)]) (fun z => z = (if v101 = z102 then (if v112 = z113 then (if z120 = z127 then (1 : Int32) else (0 : Int32)) else (0 : Int32)) else (0 : Int32))) ?_ (fun J277 => ?_)
          · rintro T278 X279 e280 z276 hz276
            show Go p_ e_ below _ T278 (mkF m_ 158 #[.val (.int x0), .val (.int x1), .val (.int x2), .val (.long x3), .second, .val (.long x5), .second, .val (.int x7), .val (.int v101), .val (.int z102), .val (.int v112), .val (.int z113), .val (.long z120), .second, .val (.long z127), .second, .val (.ref b136), .val (.ref b201), .unset, .unset, .unset] [(.int z276)])
            refine g_istore X279 hx #[.val (.int x0), .val (.int x1), .val (.int x2), .val (.long x3), .second, .val (.long x5), .second, .val (.int x7), .val (.int v101), .val (.int z102), .val (.int v112), .val (.int z113), .val (.long z120), .second, .val (.long z127), .second, .val (.ref b136), .val (.ref b201), .val (.int z276), .unset, .unset] rfl (hb hby at_158) 160 rfl ?_
            refine g_iload X279 hx rfl (hb hby at_160) 162 rfl ?_
            refine g_iconst X279 hx (3 : Int32) rfl (hb hby at_162) 163 rfl ?_
            refine g_iushr X279 hx (hb hby at_163) 164 rfl ?_
            refine g_iconst X279 hx (3 : Int32) rfl (hb hby at_164) 165 rfl ?_
            refine g_iand X279 hx (hb hby at_165) 166 rfl ?_
            generalize hv283 : ((XT.ushr x7 (3 : Int32)) &&& (3 : Int32)) = v283
            refine g_istore X279 hx #[.val (.int x0), .val (.int x1), .val (.int x2), .val (.long x3), .second, .val (.long x5), .second, .val (.int x7), .val (.int v101), .val (.int z102), .val (.int v112), .val (.int z113), .val (.long z120), .second, .val (.long z127), .second, .val (.ref b136), .val (.ref b201), .val (.int z276), .val (.int v283), .unset] rfl (hb hby at_166) 168 rfl ?_
            refine g_iload X279 hx rfl (hb hby at_168) 170 rfl ?_
            refine g_iconst X279 hx (1 : Int32) rfl (hb hby at_170) 171 rfl ?_
            refine g_icmp_ne X279 hx (hb hby at_171) 189 174 (by decide) rfl rfl (fun q171 => ?_) (fun q171 => ?_)
            · refine g_iload X279 hx rfl (hb hby at_189) 191 rfl ?_
              refine g_iconst X279 hx (2 : Int32) rfl (hb hby at_191) 192 rfl ?_
              refine g_icmp_ne X279 hx (hb hby at_192) 218 195 (by decide) rfl rfl (fun q192 => ?_) (fun q192 => ?_)
              · refine g_aload X279 hx rfl rfl (hb hby at_218) 220 rfl ?_
                refine g_astore X279 hx #[.val (.int x0), .val (.int x1), .val (.int x2), .val (.long x3), .second, .val (.long x5), .second, .val (.int x7), .val (.int v101), .val (.int z102), .val (.int v112), .val (.int z113), .val (.long z120), .second, .val (.long z127), .second, .val (.ref b136), .val (.ref b201), .val (.int z276), .val (.int v283), .val (.ref b201)] rfl rfl (hb hby at_220) 222 rfl ?_
                refine g_aload X279 hx rfl rfl (hb hby at_222) 224 rfl ?_
                refine g_aload X279 hx rfl rfl (hb hby at_224) 226 rfl ?_
                refine g_callV X279 hx hZ hown (wd hw 45 rfl) (C := "com/example/redshank/redshank/monitor/Finding") (wd hw 46 rfl) (wd hw 48 rfl) (wd hw 47 rfl) (wd hw 7 rfl) (wd hw 49 rfl) (by decide) e280 [(.ref b201)] [] F268 rfl (co6f l Z a0 hw b136 b201 ka168 ka240 v112 z113 z120 z127 h244 F268 F270 F271 F272 E251 F252 F253 F254) (lenOf pd_6 rfl) 0 (Nat.le_of_eq rfl) (by decide) (by decide) (by decide) (by decide) (by rw [hml]; rfl) (hb hby at_226) 229 rfl (pu_cont fun T285 X284 e286 => ?_)
                show Go p_ e_ below _ T285 (mkF m_ 229 #[.val (.int x0), .val (.int x1), .val (.int x2), .val (.long x3), .second, .val (.long x5), .second, .val (.int x7), .val (.int v101), .val (.int z102), .val (.int v112), .val (.int z113), .val (.long z120), .second, .val (.long z127), .second, .val (.ref b136), .val (.ref b201), .val (.int z276), .val (.int v283), .val (.ref b201)] [(.int (eqv ka168 ka240 v112 z113 z120 z127))])
                refine g_iload X284 hx rfl (hb hby at_229) 231 rfl ?_
                refine g_icmp_ne X284 hx (hb hby at_231) 250 234 (by decide) rfl rfl (fun q231 => ?_) (fun q231 => ?_)
                · exact absurd (own_fin k_EARLY k_LATE k_MISSING k_UNDECIDED hka168 hka240 ne_EARLY_LATE ne_EARLY_MISSING ne_EARLY_UNDECIDED ne_LATE_MISSING ne_LATE_UNDECIDED ne_MISSING_UNDECIDED r8 r9 hz276) q231
                · refine g_aload X284 hx rfl rfl (hb hby at_234) 236 rfl ?_
                  refine g_aload X284 hx rfl rfl (hb hby at_236) 238 rfl ?_
                  refine g_callV X284 hx hZ hown (wd hw 45 rfl) (C := "com/example/redshank/redshank/monitor/Finding") (wd hw 46 rfl) (wd hw 48 rfl) (wd hw 47 rfl) (wd hw 7 rfl) (wd hw 49 rfl) (by decide) e286 [(.ref b136)] [] E251 rfl (co6f l Z a0 hw b201 b136 ka240 ka168 z113 v112 z127 z120 h244 E251 F252 F253 F254 F268 F270 F271 F272) (lenOf pd_6 rfl) 0 (Nat.le_of_eq rfl) (by decide) (by decide) (by decide) (by decide) (by rw [hml]; rfl) (hb hby at_238) 241 rfl (pu_cont fun T288 X287 e289 => ?_)
                  show Go p_ e_ below _ T288 (mkF m_ 241 #[.val (.int x0), .val (.int x1), .val (.int x2), .val (.long x3), .second, .val (.long x5), .second, .val (.int x7), .val (.int v101), .val (.int z102), .val (.int v112), .val (.int z113), .val (.long z120), .second, .val (.long z127), .second, .val (.ref b136), .val (.ref b201), .val (.int z276), .val (.int v283), .val (.ref b201)] [(.int (eqv ka240 ka168 z113 v112 z127 z120))])
                  refine g_iload X287 hx rfl (hb hby at_241) 243 rfl ?_
                  refine g_icmp_ne X287 hx (hb hby at_243) 250 246 (by decide) rfl rfl (fun q243 => ?_) (fun q243 => ?_)
                  · exact absurd ((own_eqv_comm _ _ _ _ _ _).trans (own_fin k_EARLY k_LATE k_MISSING k_UNDECIDED hka168 hka240 ne_EARLY_LATE ne_EARLY_MISSING ne_EARLY_UNDECIDED ne_LATE_MISSING ne_LATE_UNDECIDED ne_MISSING_UNDECIDED r8 r9 hz276)) q243
                  · refine g_iconst X287 hx (1 : Int32) rfl (hb hby at_246) 247 rfl ?_
                    refine g_goto X287 hx (hb hby at_247) 251 (by decide) rfl ?_
                    exact g_retzH X287 hx hret hlk (by decide) (by decide) (hb hby at_251) e289 hZ hS hk0 hEL H ⟨rfl, N255⟩
              · refine g_iload X279 hx rfl (hb hby at_195) 197 rfl ?_
                refine g_callS X279 hx hZ hown (wd hw 56 rfl) (wd hw 57 rfl) (wd hw 58 rfl) (wd hw 59 rfl) (by decide) e280 [(.int v112)] [] rfl (co7 l Z a0 hw v112 ca vs h244 h0.size szh275 F264 F265 F266 F267) (lenOf pd_7 rfl) 0 (Nat.le_of_eq rfl) (by decide) (by decide) (by decide) (by decide) (by rw [hml]; rfl) (hb hby at_197) 200 rfl (fun r290 T291 L292 X293 Q294 => ?_)
                obtain ⟨h295, e296⟩ : ∃ h, T291.heap = h := ⟨_, rfl⟩
                rw [e296] at Q294
                obtain ⟨r297, rfl, n298, K299, E300⟩ := Q294
                have N301 := Fr.app N255 n298
                have H := H.trans (CHr.keep K299 sf0 H.1)
                have hk0 := Nat.le_trans hk0 K299.1
                have F302 := own_sta_keep F256 K299 ns0
                have F303 := F257.keep K299
                have F304 := own_sta_keep F258 K299 ns0
                have F305 := F259.keep K299
                have F306 := own_sta_keep F260 K299 ns0
                have F307 := F261.keep K299
                have F308 := own_sta_keep F262 K299 ns0
                have F309 := F263.keep K299
                have F310 := own_sta_keep F264 K299 ns0
                have F311 := own_sta_keep F265 K299 ns0
                have F312 := F266.keep K299 nin0
                have F313 := F267.keep K299
                have F314 := F268.keep K299
                have F315 := F269.keep K299
                have F316 := F270.keep K299 nin0
                have F317 := F271.keep K299 nin0
                have F318 := F272.keep K299 nin0
                have F319 := E251.keep K299
                have F320 := F274.keep K299
                have F321 := F252.keep K299 nin0
                have F322 := F253.keep K299 nin0
                have F323 := F254.keep K299 nin0
                have szh324 : h0.size ≤ h295.size := Nat.le_trans szh275 K299.1
                show Go p_ e_ below _ T291 (mkF m_ 200 #[.val (.int x0), .val (.int x1), .val (.int x2), .val (.long x3), .second, .val (.long x5), .second, .val (.int x7), .val (.int v101), .val (.int z102), .val (.int v112), .val (.int z113), .val (.long z120), .second, .val (.long z127), .second, .val (.ref b136), .val (.ref b201), .val (.int z276), .val (.int v283), .unset] [(.ref r297)])
                refine g_astore X293 hx #[.val (.int x0), .val (.int x1), .val (.int x2), .val (.long x3), .second, .val (.long x5), .second, .val (.int x7), .val (.int v101), .val (.int z102), .val (.int v112), .val (.int z113), .val (.long z120), .second, .val (.long z127), .second, .val (.ref b136), .val (.ref b201), .val (.int z276), .val (.int v283), .val (.ref r297)] rfl rfl (hb hby at_200) 202 rfl ?_
                refine g_aload X293 hx rfl rfl (hb hby at_202) 204 rfl ?_
                refine g_aload X293 hx rfl rfl (hb hby at_204) 206 rfl ?_
                refine g_callV X293 hx hZ hown (wd hw 45 rfl) (C := "com/example/redshank/redshank/monitor/Finding") (wd hw 46 rfl) (wd hw 48 rfl) (wd hw 47 rfl) (wd hw 7 rfl) (wd hw 49 rfl) (by decide) e296 [(.ref r297)] [] F314 rfl (co6i l Z a0 hw b136 r297  h295 F314 E300) (lenOf pd_6 rfl) 0 (Nat.le_of_eq rfl) (by decide) (by decide) (by decide) (by decide) (by rw [hml]; rfl) (hb hby at_206) 209 rfl (pu_cont fun T326 X325 e327 => ?_)
                show Go p_ e_ below _ T326 (mkF m_ 209 #[.val (.int x0), .val (.int x1), .val (.int x2), .val (.long x3), .second, .val (.long x5), .second, .val (.int x7), .val (.int v101), .val (.int z102), .val (.int v112), .val (.int z113), .val (.long z120), .second, .val (.long z127), .second, .val (.ref b136), .val (.ref b201), .val (.int z276), .val (.int v283), .val (.ref r297)] [(.int (0 : Int32))])
                refine g_if_ne X325 hx (hb hby at_209) 216 212 (by decide) rfl rfl (fun q209 => ?_) (fun q209 => ?_)
                · exact absurd rfl q209
                · refine g_iconst X325 hx (1 : Int32) rfl (hb hby at_212) 213 rfl ?_
                  refine g_goto X325 hx (hb hby at_213) 217 (by decide) rfl ?_
                  exact g_retzH X325 hx hret hlk (by decide) (by decide) (hb hby at_217) e327 hZ hS hk0 hEL H ⟨rfl, N301⟩
            · refine g_aload X279 hx rfl rfl (hb hby at_174) 176 rfl ?_
              refine g_aconst_null X279 hx (hb hby at_176) 177 rfl ?_
              refine g_callV X279 hx hZ hown (wd hw 45 rfl) (C := "com/example/redshank/redshank/monitor/Finding") (wd hw 46 rfl) (wd hw 48 rfl) (wd hw 47 rfl) (wd hw 7 rfl) (wd hw 49 rfl) (by decide) e280 [.null] [] F268 rfl (co6n l Z a0 hw b136  h244 F268) (lenOf pd_6 rfl) 0 (Nat.le_of_eq rfl) (by decide) (by decide) (by decide) (by decide) (by rw [hml]; rfl) (hb hby at_177) 180 rfl (pu_cont fun T329 X328 e330 => ?_)
              show Go p_ e_ below _ T329 (mkF m_ 180 #[.val (.int x0), .val (.int x1), .val (.int x2), .val (.long x3), .second, .val (.long x5), .second, .val (.int x7), .val (.int v101), .val (.int z102), .val (.int v112), .val (.int z113), .val (.long z120), .second, .val (.long z127), .second, .val (.ref b136), .val (.ref b201), .val (.int z276), .val (.int v283), .unset] [(.int (0 : Int32))])
              refine g_if_ne X328 hx (hb hby at_180) 187 183 (by decide) rfl rfl (fun q180 => ?_) (fun q180 => ?_)
              · exact absurd rfl q180
              · refine g_iconst X328 hx (1 : Int32) rfl (hb hby at_183) 184 rfl ?_
                refine g_goto X328 hx (hb hby at_184) 188 (by decide) rfl ?_
                exact g_retzH X328 hx hret hlk (by decide) (by decide) (hb hby at_188) e330 hZ hS hk0 hEL H ⟨rfl, N255⟩
          · refine g_iload X246 hx rfl (hb hby at_131) 133 rfl ?_
            refine g_iload X246 hx rfl (hb hby at_133) 135 rfl ?_
            refine g_icmp_ne X246 hx (hb hby at_135) 157 138 (by decide) rfl rfl (fun q135 => ?_) (fun q135 => ?_)
            · refine g_iconst X246 hx (0 : Int32) rfl (hb hby at_157) 158 rfl ?_
              exact J277 T243 X246 e247 ((0 : Int32)) ((if_neg q135).trans rfl).symm
            · refine g_iload X246 hx rfl (hb hby at_138) 140 rfl ?_
              refine g_iload X246 hx rfl (hb hby at_140) 142 rfl ?_
              refine g_icmp_ne X246 hx (hb hby at_142) 157 145 (by decide) rfl rfl (fun q142 => ?_) (fun q142 => ?_)
              · refine g_iconst X246 hx (0 : Int32) rfl (hb hby at_157) 158 rfl ?_
                exact J277 T243 X246 e247 ((0 : Int32)) ((if_pos q135).trans ((if_neg q142).trans rfl)).symm
              · refine g_lload X246 hx rfl (hb hby at_145) 147 rfl ?_
                refine g_lload X246 hx rfl (hb hby at_147) 149 rfl ?_
                refine g_lif_ne X246 hx (hb hby at_149) 150 rfl (hb hby at_150) 157 153 (by decide) rfl rfl (fun q149 => ?_) (fun q149 => ?_)
                · refine g_iconst X246 hx (0 : Int32) rfl (hb hby at_157) 158 rfl ?_
                  exact J277 T243 X246 e247 ((0 : Int32)) ((if_pos q135).trans ((if_pos q142).trans ((if_neg q149).trans rfl))).symm
                · refine g_iconst X246 hx (1 : Int32) rfl (hb hby at_153) 154 rfl ?_
                  refine g_goto X246 hx (hb hby at_154) 158 (by decide) rfl ?_
                  exact J277 T243 X246 e247 ((1 : Int32)) ((if_pos q135).trans ((if_pos q142).trans ((if_pos q149).trans rfl))).symm
        · refine g_iload X123 hx rfl (hb hby at_69) 71 rfl ?_
          refine g_iconst X123 hx (1 : Int32) rfl (hb hby at_71) 72 rfl ?_
          refine g_icmp_gt X123 hx (hb hby at_72) 92 75 (by decide) rfl rfl (fun q72 => ?_) (fun q72 => ?_)
          · refine g_lconst X123 hx (0 : Int64) rfl (hb hby at_92) 93 rfl ?_
            exact J128 T122 X123 e124 ((0 : Int64)) ((if_pos q72).trans rfl).symm
          · refine g_iload X123 hx rfl (hb hby at_75) 77 rfl ?_
            refine g_iconst X123 hx (2 : Int32) rfl (hb hby at_77) 78 rfl ?_
            refine g_iand X123 hx (hb hby at_78) 79 rfl ?_
            refine g_if_eq X123 hx (hb hby at_79) 87 82 (by decide) rfl rfl (fun q79 => ?_) (fun q79 => ?_)
            · refine g_lload X123 hx rfl (hb hby at_87) 89 rfl ?_
              refine g_goto X123 hx (hb hby at_89) 93 (by decide) rfl ?_
              exact J128 T122 X123 e124 (x5) ((if_neg q72).trans ((if_pos q79).trans rfl)).symm
            · refine g_lload X123 hx rfl (hb hby at_82) 84 rfl ?_
              refine g_goto X123 hx (hb hby at_84) 93 (by decide) rfl ?_
              exact J128 T122 X123 e124 (z120) ((if_neg q72).trans ((if_neg q79).trans rfl)).symm
      · refine g_iload X116 hx rfl (hb hby at_56) 58 rfl ?_
        refine g_iconst X116 hx (1 : Int32) rfl (hb hby at_58) 59 rfl ?_
        refine g_icmp_gt X116 hx (hb hby at_59) 66 62 (by decide) rfl rfl (fun q59 => ?_) (fun q59 => ?_)
        · refine g_lconst X116 hx (0 : Int64) rfl (hb hby at_66) 67 rfl ?_
          exact J121 T115 X116 e117 ((0 : Int64)) ((if_pos q59).trans rfl).symm
        · refine g_lloadN X116 hx rfl (hb hby at_62) 63 rfl ?_
          refine g_goto X116 hx (hb hby at_63) 67 (by decide) rfl ?_
          exact J121 T115 X116 e117 (x3) ((if_neg q59).trans rfl).symm
    · refine g_iload X109 hx rfl (hb hby at_34) 36 rfl ?_
      refine g_iconst X109 hx (1 : Int32) rfl (hb hby at_36) 37 rfl ?_
      refine g_iand X109 hx (hb hby at_37) 38 rfl ?_
      refine g_if_eq X109 hx (hb hby at_38) 46 41 (by decide) rfl rfl (fun q38 => ?_) (fun q38 => ?_)
      · refine g_iconst X109 hx (1 : Int32) rfl (hb hby at_46) 47 rfl ?_
        refine g_iloadN X109 hx rfl (hb hby at_47) 48 rfl ?_
        refine g_ldc X109 hx hZ hown (wd hw 0 rfl) (hb hby at_48) 50 rfl ?_
        refine g_iand X109 hx (hb hby at_50) 51 rfl ?_
        refine g_callS X109 hx hZ hown (wd hw 1 rfl) (wd hw 2 rfl) (wd hw 3 rfl) (wd hw 4 rfl) (by decide) e111 [(.int (1 : Int32)), (.int (x2 &&& (2147483647 : Int32)))] []  rfl (co1 l Z a0 hw (1 : Int32) (x2 &&& (2147483647 : Int32))  h0 ) (lenOf pd_3 rfl) 0 (Nat.le_of_eq rfl) (by decide) (by decide) (by decide) (by decide) (by rw [hml]; rfl) (hb hby at_51) 54 rfl (pu_cont fun T332 X331 e333 => ?_)
        show Go p_ e_ below _ T332 (mkF m_ 54 #[.val (.int x0), .val (.int x1), .val (.int x2), .val (.long x3), .second, .val (.long x5), .second, .val (.int x7), .val (.int v101), .val (.int z102), .val (.int v112), .unset, .unset, .unset, .unset, .unset, .unset, .unset, .unset, .unset, .unset] [(.int (mx (1 : Int32) (x2 &&& (2147483647 : Int32))))])
        exact J114 T332 X331 e333 ((mx (1 : Int32) (x2 &&& (2147483647 : Int32)))) ((if_pos q38).trans rfl).symm
      · refine g_iload X109 hx rfl (hb hby at_41) 43 rfl ?_
        refine g_goto X109 hx (hb hby at_43) 54 (by decide) rfl ?_
        exact J114 T110 X109 e111 (v112) ((if_neg q38).trans rfl).symm
  · refine g_iload X0 hx rfl (hb hby at_5) 7 rfl ?_
    refine g_iconst X0 hx (4 : Int32) rfl (hb hby at_7) 8 rfl ?_
    refine g_iand X0 hx (hb hby at_8) 9 rfl ?_
    refine g_if_eq X0 hx (hb hby at_9) 17 12 (by decide) rfl rfl (fun q9 => ?_) (fun q9 => ?_)
    · refine g_iloadN X0 hx rfl (hb hby at_17) 18 rfl ?_
      refine g_iconst X0 hx (2 : Int32) rfl (hb hby at_18) 19 rfl ?_
      refine g_iushr X0 hx (hb hby at_19) 20 rfl ?_
      refine g_iconst X0 hx (3 : Int32) rfl (hb hby at_20) 21 rfl ?_
      refine g_iand X0 hx (hb hby at_21) 22 rfl ?_
      exact J103 T0 X0 eq0 (((XT.ushr x0 (2 : Int32)) &&& (3 : Int32))) ((if_pos q9).trans rfl).symm
    · refine g_iload X0 hx rfl (hb hby at_12) 14 rfl ?_
      refine g_goto X0 hx (hb hby at_14) 22 (by decide) rfl ?_
      exact J103 T0 X0 eq0 (v101) ((if_neg q9).trans rfl).symm
theorem own_cache {args : Array Value} {s : State} {ca : Addr} {K f d : String} {ty : FieldType} {rest : Jvm.Cond} (ev : (Term.static K f d).eval args s none [] s = some (.ref ca)) (h1 : (Jvm.Cond.arrayOf (Term.static K f d) ty).value args s none s [] = some true) (hl : (Jvm.Cond.eq (Term.length (Term.static K f d)) (.int 256)).value args s none s [] = some true) (ha : (Jvm.Cond.all (Term.static K f d) (.and (.exactly (.elem (Term.static K f d) (.index 0)) "java/lang/Integer") rest)).value args s none s [] = some true) : ∃ vs, AV s s.heap ca ty vs ∧ IC s s.heap vs := by
  have q := own_eqI hl
  simp only [Term.eval, Option.bind_eq_bind] at q
  have ev2 := ev
  simp only [Term.eval, Option.bind_eq_bind] at ev2
  rw [ev2] at q
  simp only [Option.bind_some] at q
  obtain ⟨cell, hc, q⟩ := Option.bind_eq_some_iff.mp q
  by_cases hb : cell.slots.size < 2 ^ 31
  · rw [if_pos hb] at q
    have q2 : cell.slots.size.toInt32 = 256 := by simpa using q
    have hcell := (State.arrayAt?_spec hc).1
    have hA := Cond.arrayOf_spec (beq_iff_eq.mpr h1 : (Jvm.Cond.arrayOf (Term.static K f d) ty).holds args s none s [] = true) ev hcell
    have hsz : cell.slots.size = 256 := by
      have e := own_clamp hb
      rw [q2] at e
      exact e.symm
    refine ⟨cell.slots.toList, ⟨cell, ⟨hcell, hA.1, hA.2⟩, by simp, by simp [hsz]⟩, fun i hi => ?_⟩
    have u := Cond.all_elim ev hc ha i (by omega)
    obtain ⟨u1, -⟩ := and_e u
    obtain ⟨a', c', cl, k, e1, e2, e3, e4, e5, e6, e7⟩ := Cond.exactly_spec (beq_iff_eq.mpr u1)
    obtain ⟨c2, g1, -, g3⟩ := elem_at (a := ca) (j := i.toInt32) e1 ev rfl
    cases hcell.symm.trans g1
    rw [own_clamp (by omega)] at g3
    subst e6
    exact ⟨a', by simpa using g3, cl, k, e3, e2, e4, e5, e7⟩
  · rw [if_neg hb] at q
    cases q
set_option maxRecDepth 65536 in
set_option maxHeartbeats 40000000 in
theorem comes_1 {Post : Tables → Env → Array Value → State → Outcome → State → Prop} (hpost : ∀ tb e args s v u, (limb_1_1.after args s (.returned v) u = true ∧ limb_1_2.after args s (.returned v) u = true ∧ True) → ReturnedEndW s (.returned v) u (Jvm.fieldLocs frame_1_writes args s ++ Jvm.arrayLocs frame_1_arrays args s ++ Jvm.staticLocs frame_1_statics s) 16 1152 → Post tb e args s (.returned v) u) :
    ArmFor flags0 classFile x code maxLocals ret World_1 tables_1 room_1 Calls_1 rest_1 Pre_1 Post := by
  intro l hfl _ _ p e ha hc hk s m args below hf hA hF happ hP
  obtain ⟨hcalls, hrest, hpre⟩ := hP
  obtain ⟨-, -, -, hnamed, -, -, -, hat⟩ := (Spec.applies_iff hf).mp happ
  obtain ⟨hg, hn⟩ := and_e (Cond.before_iff.mp (show (Jvm.Cond.and given_1 narrow_1).before args s = true from hpre))
  obtain ⟨h1, g0⟩ := and_e hg
  obtain ⟨w0, w1, w2, w3, w4, w5, rfl⟩ : ∃ w0 w1 w2 w3 w4 w5 : Value, args = #[w0, w1, w2, w3, w4, w5] := by
    have hs : args.size = 6 := by simpa [Cond.value, given_1] using h1
    obtain ⟨L⟩ := args
    match L, hs with
    | [w0, w1, w2, w3, w4, w5], _ => exact ⟨w0, w1, w2, w3, w4, w5, rfl⟩
  have hw := fun d (hd : d ∈ tables_1) => atoms_spec (ws := Jvm.Cond.code x code maxLocals ret :: tables_1) hat d (List.mem_cons_of_mem _ hd)
  have hfit : Fit s := fun {y c} hc i hi => by
    obtain ⟨ha, rfl⟩ := Array.getElem?_eq_some_iff.mp hc
    have q := List.all_eq_true.mp ((Array.all_eq_true_iff_forall_mem.mp hF) _ (Array.getElem_mem ha)) i (List.mem_range.mpr hi)
    simpa [Array.getElem?_eq_getElem hi] using q
  obtain ⟨hk_0, hg_1⟩ := and_e g0
  obtain ⟨x0, r0⟩ := is_v hk_0
  obtain rfl : w0 = (.int x0) := Option.some.inj r0
  obtain ⟨hk_1, hg_2⟩ := and_e hg_1
  obtain ⟨x1, r1⟩ := is_v hk_1
  obtain rfl : w1 = (.int x1) := Option.some.inj r1
  obtain ⟨hk_2, hg_3⟩ := and_e hg_2
  obtain ⟨x2, r2⟩ := is_v hk_2
  obtain rfl : w2 = (.int x2) := Option.some.inj r2
  obtain ⟨hk_3, hg_4⟩ := and_e hg_3
  obtain ⟨x3, r3⟩ := isL_v hk_3
  obtain rfl : w3 = (.long x3) := Option.some.inj r3
  obtain ⟨hk_4, hg_5⟩ := and_e hg_4
  obtain ⟨x5, r4⟩ := isL_v hk_4
  obtain rfl : w4 = (.long x5) := Option.some.inj r4
  obtain ⟨x7, r5⟩ := is_v hg_5
  obtain rfl : w5 = (.int x7) := Option.some.inj r5
  have hr0 := hrest
  rw [show rest_1 = Jvm.D.preC rest_1_c from rfl] at hr0
  have hr1 : rest_1_c.before _ s = true := hr0
  rw [rest_1_c_eq] at hr1
  obtain ⟨hsets, -⟩ := atoms_of jdkStatics_1 hr1
  have m0 := hsets _ (List.mem_of_getElem? (i := 0) rfl)
  have m1 := hsets _ (List.mem_of_getElem? (i := 1) rfl)
  have m2 := hsets _ (List.mem_of_getElem? (i := 2) rfl)
  have m3 := hsets _ (List.mem_of_getElem? (i := 3) rfl)
  have m4 := hsets _ (List.mem_of_getElem? (i := 4) rfl)
  have m5 := hsets _ (List.mem_of_getElem? (i := 5) rfl)
  have m6 := hsets _ (List.mem_of_getElem? (i := 6) rfl)
  have m7 := hsets _ (List.mem_of_getElem? (i := 7) rfl)
  obtain ⟨c0, hn0⟩ := and_e hn
  obtain ⟨c1, hn1⟩ := and_e hn0
  obtain ⟨c2, hn2⟩ := and_e hn1
  obtain ⟨c3, hn3⟩ := and_e hn2
  obtain ⟨c4, hn4⟩ := and_e hn3
  obtain ⟨c5, hn5⟩ := and_e hn4
  obtain ⟨c6, c7⟩ := and_e hn5
  obtain ⟨s_EARLY, ev_EARLY⟩ := exa_v c0
  have E_EARLY := Exa.start ev_EARLY c0
  have S_EARLY := Sta.start ev_EARLY (Or.inr ⟨(wd hw 13 rfl), (wd hw 14 rfl)⟩)
  obtain ⟨s_MISSING, ev_MISSING⟩ := exa_v c1
  have E_MISSING := Exa.start ev_MISSING c1
  have S_MISSING := Sta.start ev_MISSING (Or.inr ⟨(wd hw 13 rfl), (wd hw 38 rfl)⟩)
  obtain ⟨s_UNDECIDED, ev_UNDECIDED⟩ := exa_v c4
  have E_UNDECIDED := Exa.start ev_UNDECIDED c4
  have S_UNDECIDED := Sta.start ev_UNDECIDED (Or.inr ⟨(wd hw 13 rfl), (wd hw 40 rfl)⟩)
  obtain ⟨s_LATE, ev_LATE⟩ := exa_v c6
  have E_LATE := Exa.start ev_LATE c6
  have S_LATE := Sta.start ev_LATE (Or.inr ⟨(wd hw 13 rfl), (wd hw 55 rfl)⟩)
  have O_EARLY := own_fo ev_EARLY c2
  have O_MISSING := own_fo ev_MISSING c3
  have O_UNDECIDED := own_fo ev_UNDECIDED c5
  have O_LATE := own_fo ev_LATE c7
  have S_h := Sta.start (own_eqI (Cond.before_iff.mp m3)) (Or.inl m1)
  obtain ⟨ca, evc⟩ := own_arr_ref (Cond.before_iff.mp m4)
  have S_c := Sta.start evc (Or.inr ⟨(wd hw 61 rfl), m2⟩)
  obtain ⟨vs, A_c, I_c⟩ := own_cache evc (Cond.before_iff.mp m4) (Cond.before_iff.mp m6) (Cond.before_iff.mp m7)
  have ne_EARLY_LATE : ¬ s_EARLY = s_LATE := fun q => by
    rw [q] at O_EARLY
    have u := own_fld_inj O_EARLY O_LATE
    revert u; decide
  have ne_EARLY_MISSING : ¬ s_EARLY = s_MISSING := fun q => by
    rw [q] at O_EARLY
    have u := own_fld_inj O_EARLY O_MISSING
    revert u; decide
  have ne_EARLY_UNDECIDED : ¬ s_EARLY = s_UNDECIDED := fun q => by
    rw [q] at O_EARLY
    have u := own_fld_inj O_EARLY O_UNDECIDED
    revert u; decide
  have ne_LATE_MISSING : ¬ s_LATE = s_MISSING := fun q => by
    rw [q] at O_LATE
    have u := own_fld_inj O_LATE O_MISSING
    revert u; decide
  have ne_LATE_UNDECIDED : ¬ s_LATE = s_UNDECIDED := fun q => by
    rw [q] at O_LATE
    have u := own_fld_inj O_LATE O_UNDECIDED
    revert u; decide
  have ne_MISSING_UNDECIDED : ¬ s_MISSING = s_UNDECIDED := fun q => by
    rw [q] at O_MISSING
    have u := own_fld_inj O_MISSING O_UNDECIDED
    revert u; decide
  have hEL : EW s #[.int x0, .int x1, .int x2, .long x3, .long x5, .int x7] EL := EW.nil
  have hCH : CHv s EL s.vm s.heap := fun p hp => absurd hp (by simp [EL])
  obtain ⟨n, o, h1, h2, h3, _, L, rfl, ⟨rfl, N⟩, -, hq⟩ := rm0 l s _ hw hEL tables_1 x0 x1 x2 x3 x5 x7 s.heap s_EARLY s_LATE s_MISSING s_UNDECIDED ca vs S_EARLY E_EARLY S_LATE E_LATE S_MISSING E_MISSING S_UNDECIDED E_UNDECIDED S_h S_c A_c I_c ne_EARLY_LATE ne_EARLY_MISSING ne_EARLY_UNDECIDED ne_LATE_MISSING ne_LATE_UNDECIDED ne_MISSING_UNDECIDED p e ha hc hk s m _ below hf ((Spec.applies_iff_loose hf).mp happ).1 ⟨rfl, State.Warmed39.refl s, rfl, hCH⟩ trivial
  refine ⟨n, _, h1, h2, h3, hpost _ _ _ _ _ _ ⟨Cond.after_iff.mpr rfl, Cond.after_iff.mpr (eq_i res_at (Term.int_eval (1)) rfl), trivial⟩ ⟨hq.1, hq.2.1, hq.2.2.1, (hq.2.2.2.sift fun y hy => Or.inr (N y hy)).mono (by decide) (by decide)⟩⟩
theorem main_1_1 : Claimed_1_1 := comes_1 fun _ _ _ _ _ _ h hF => ⟨h.1, hF⟩
theorem main_1_2 : Claimed_1_2 := comes_1 fun _ _ _ _ _ _ h hF => ⟨h.2.1, hF⟩
end Jvm.Pilot.@@N@@
namespace Jvm.Pilot.@@N@@
open Jvm Jvm.ClassFile Sem Op Lib Jvm.Free Jvm.Stand Jvm.Pilot.@@N@@.Jvm.D
/-! MADE BY PROGRAM (witnessworld.py) out of the Statement's table words and the real class files: 22 classes; the members and pool entries that the words name. The judged class is class 1, her method 2. -/
namespace start1
open Jvm.ClassFile
def u (s : String) : CpInfo := .utf8 (stringToUtf16 s)
/-- a pool by its gaps: so many unusable entries, then the entry; so many at the end -/
def gap : Nat → List CpInfo → List CpInfo
  | 0, r => r
  | n + 1, r => .unusable :: gap n r
def poolList (es : List (Nat × CpInfo)) (last : Nat) : List CpInfo := es.foldr (fun e r => gap e.1 (e.2 :: r)) (gap last [])
def pool (es : List (Nat × CpInfo)) (last : Nat) : Array CpInfo := ⟨poolList es last⟩
def fileOf (pool : Array CpInfo) (this : Nat) (attrs : Array Attribute := #[]) (ms : Array MethodInfo := #[]) (fl : Nat := 33) (sup : Nat := 0) (ifs : Array Nat := #[]) (fds : Array FieldInfo := #[]) : ClassFile where
  minorVersion := 0
  majorVersion := 65
  constantPool := pool
  accessFlags := fl
  thisClass := this
  superClass := sup
  interfaces := ifs
  fields := fds
  methods := ms
  attributes := attrs
def plain (name : String) (sup : Option ClassId) : Class where
  name := name
  kind := .ordinary
  loader := none
  accessFlags := 33
  super := sup
  interfaces := #[]
  cf := none
  fields := #[]
  methods := #[]
  instanceTypes := #[]
  staticTypes := #[]
  resolved := #[]
  callSites := []
  init := .initialized
  statics := none
  mirror := none

def pool0 : Array CpInfo := pool [(5, u "<init>"), (0, u "()V"), (1, .class_ 10), (1, u "java/lang/Object")] 113

def k0c0 : Code := { maxStack := 0, maxLocals := 1, code := object_method_1_code, exceptionTable := #[], attributes := #[] }
def k0m0 : Method := { name := "<init>", desc := "()V", sig := { parameters := [], returnType := none }, accessFlags := 1, code := some k0c0 }
/-- java/lang/Object -/
def k0 : Class := { plain "java/lang/Object" none with
  accessFlags := 33
  interfaces := #[]
  cf := some (fileOf pool0 8 #[] #[{ accessFlags := 1, nameIndex := 5, descriptorIndex := 6, attributes := #[] }] 33 0 #[] #[])
  fields := #[]
  methods := #[k0m0]
  instanceTypes := #[]
  staticTypes := #[]
  resolved := Array.replicate 124 none
  statics := none }

def pool1 : Array CpInfo := pool [(2, .class_ 4), (1, u "java/lang/Object"), (0, u "<init>"), (0, u "()V"), (0, .fieldref 8 9), (0, .class_ 10), (0, .nameAndType 11 12), (0, u "com/example/redshank/redshank/monitor/Finding$Kind"), (0, u "EARLY"), (0, u "Lcom/example/redshank/redshank/monitor/Finding$Kind;"), (0, .fieldref 8 14), (0, .nameAndType 15 12), (0, u "LATE"), (0, .fieldref 8 17), (0, .nameAndType 18 12), (0, u "MISSING"), (0, .fieldref 8 20), (0, .nameAndType 21 12), (0, u "UNDECIDED"), (0, .integer 2147483647), (0, .methodref 24 25), (0, .class_ 26), (0, .nameAndType 27 28), (0, u "java/lang/Math"), (0, u "max"), (0, u "(II)I"), (0, .class_ 30), (0, u "com/example/redshank/redshank/monitor/Finding"), (0, .methodref 32 33), (0, .class_ 34), (0, .nameAndType 35 36), (0, u "com/example/redshank/redshank/monitor/FindingEqualsPinLaw"), (0, u "kindOf"), (0, u "(I)Lcom/example/redshank/redshank/monitor/Finding$Kind;"), (0, .methodref 29 38), (0, .nameAndType 5 39), (0, u "(Lcom/example/redshank/redshank/monitor/Finding$Kind;IJ)V"), (0, .methodref 29 41), (0, .nameAndType 42 43), (0, u "equals"), (0, u "(Ljava/lang/Object;)Z"), (0, .methodref 45 46), (0, .class_ 47), (0, .nameAndType 48 49), (0, u "java/lang/Integer"), (0, u "valueOf"), (0, u "(I)Ljava/lang/Integer;"), (3, u "law"), (0, u "(IIIJJI)Z")] 4

def k1m0 : Method := { name := "<init>", desc := "()V", sig := { parameters := [], returnType := none }, accessFlags := 1, code := none }
def k1c1 : Code := { maxStack := 2, maxLocals := 1, code := method_2_code, exceptionTable := #[], attributes := #[] }
def k1m1 : Method := { name := "kindOf", desc := "(I)Lcom/example/redshank/redshank/monitor/Finding$Kind;", sig := { parameters := [.int], returnType := some (.object "com/example/redshank/redshank/monitor/Finding$Kind") }, accessFlags := 10, code := some k1c1 }
def k1c2 : Code := { maxStack := 6, maxLocals := 21, code := code, exceptionTable := #[], attributes := #[] }
def k1m2 : Method := { name := "law", desc := "(IIIJJI)Z", sig := { parameters := [.int, .int, .int, .long, .long, .int], returnType := some .boolean }, accessFlags := 9, code := some k1c2 }
/-- com/example/redshank/redshank/monitor/FindingEqualsPinLaw -/
def k1 : Class := { plain "com/example/redshank/redshank/monitor/FindingEqualsPinLaw" (some 0) with
  accessFlags := 49
  interfaces := #[]
  cf := some (fileOf pool1 32 #[] #[{ accessFlags := 1, nameIndex := 5, descriptorIndex := 6, attributes := #[] }, { accessFlags := 10, nameIndex := 35, descriptorIndex := 36, attributes := #[] }, { accessFlags := 9, nameIndex := 53, descriptorIndex := 54, attributes := #[] }] 49 2 #[] #[])
  fields := #[]
  methods := #[k1m0, k1m1, k1m2]
  instanceTypes := #[]
  staticTypes := #[]
  resolved := Array.replicate 59 none
  statics := none }

def pool2 : Array CpInfo := pool [(1, .class_ 2), (0, u "java/lang/Math"), (1, .class_ 6), (1, u "java/lang/Object"), (0, u "<init>"), (0, u "()V"), (89, .class_ 100), (1, u "java/lang/Math$RandomNumberGeneratorHolder"), (71, u "negativeZeroFloatBits"), (0, u "J"), (2, u "negativeZeroDoubleBits"), (21, u "max"), (46, u "$assertionsDisabled"), (0, u "Z"), (88, u "(II)I"), (2, u "twoToTheDoubleScaleDown"), (0, u "D"), (4, u "twoToTheDoubleScaleUp"), (9, u "E"), (3, u "PI"), (2, u "TAU"), (2, u "DEGREES_TO_RADIANS"), (0, u "RADIANS_TO_DEGREES")] 94

def k2m0 : Method := { name := "<init>", desc := "()V", sig := { parameters := [], returnType := none }, accessFlags := 2, code := none }
def k2c1 : Code := { maxStack := 2, maxLocals := 2, code := jdk_29_method_65_code, exceptionTable := #[], attributes := #[] }
def k2m1 : Method := { name := "max", desc := "(II)I", sig := { parameters := [.int, .int], returnType := some .int }, accessFlags := 9, code := some k2c1 }
/-- java/lang/Math -/
def k2 : Class := { plain "java/lang/Math" (some 0) with
  accessFlags := 49
  interfaces := #[]
  cf := some (fileOf pool2 1 #[.nestMembers #[98]] #[{ accessFlags := 2, nameIndex := 7, descriptorIndex := 8, attributes := #[] }, { accessFlags := 9, nameIndex := 198, descriptorIndex := 335, attributes := #[] }] 49 4 #[] #[{ accessFlags := 25, nameIndex := 354, descriptorIndex := 339, attributes := #[] }, { accessFlags := 25, nameIndex := 358, descriptorIndex := 339, attributes := #[] }, { accessFlags := 25, nameIndex := 361, descriptorIndex := 339, attributes := #[] }, { accessFlags := 26, nameIndex := 364, descriptorIndex := 339, attributes := #[] }, { accessFlags := 26, nameIndex := 365, descriptorIndex := 339, attributes := #[] }, { accessFlags := 26, nameIndex := 172, descriptorIndex := 173, attributes := #[] }, { accessFlags := 26, nameIndex := 176, descriptorIndex := 173, attributes := #[] }, { accessFlags := 8, nameIndex := 344, descriptorIndex := 339, attributes := #[] }, { accessFlags := 8, nameIndex := 338, descriptorIndex := 339, attributes := #[] }, { accessFlags := 4120, nameIndex := 245, descriptorIndex := 246, attributes := #[] }])
  fields := #[{ name := "E", type := .double, accessFlags := 25, slot := 0, constantValue := 0 }, { name := "PI", type := .double, accessFlags := 25, slot := 1, constantValue := 0 }, { name := "TAU", type := .double, accessFlags := 25, slot := 2, constantValue := 0 }, { name := "DEGREES_TO_RADIANS", type := .double, accessFlags := 26, slot := 3, constantValue := 0 }, { name := "RADIANS_TO_DEGREES", type := .double, accessFlags := 26, slot := 4, constantValue := 0 }, { name := "negativeZeroFloatBits", type := .long, accessFlags := 26, slot := 5, constantValue := 0 }, { name := "negativeZeroDoubleBits", type := .long, accessFlags := 26, slot := 6, constantValue := 0 }, { name := "twoToTheDoubleScaleUp", type := .double, accessFlags := 8, slot := 7, constantValue := 0 }, { name := "twoToTheDoubleScaleDown", type := .double, accessFlags := 8, slot := 8, constantValue := 0 }, { name := "$assertionsDisabled", type := .boolean, accessFlags := 4120, slot := 9, constantValue := 0 }]
  methods := #[k2m0, k2m1]
  instanceTypes := #[]
  staticTypes := #[.double, .double, .double, .double, .double, .long, .long, .double, .double, .boolean]
  resolved := Array.replicate 460 none
  statics := none }

def pool3 : Array CpInfo := pool [(1, .methodref 2 3), (0, .class_ 4), (0, .nameAndType 5 6), (0, u "java/lang/Object"), (0, u "<init>"), (0, u "()V"), (0, .string 8), (0, u "kind"), (0, .methodref 10 11), (0, .class_ 12), (0, .nameAndType 13 14), (0, u "java/util/Objects"), (0, u "requireNonNull"), (0, u "(Ljava/lang/Object;Ljava/lang/String;)Ljava/lang/Object;"), (0, .class_ 16), (0, u "com/example/redshank/redshank/monitor/Finding$Kind"), (0, .fieldref 18 19), (0, .class_ 20), (0, .nameAndType 8 21), (0, u "com/example/redshank/redshank/monitor/Finding"), (0, u "Lcom/example/redshank/redshank/monitor/Finding$Kind;"), (9, .fieldref 15 32), (0, .nameAndType 33 21), (0, u "MISSING"), (0, .fieldref 15 35), (0, .nameAndType 36 21), (0, u "UNDECIDED"), (9, .fieldref 18 47), (0, .nameAndType 48 49), (0, u "line"), (0, u "I"), (0, .fieldref 18 51), (0, .nameAndType 52 53), (0, u "delay"), (0, u "J"), (21, u "(Lcom/example/redshank/redshank/monitor/Finding$Kind;IJ)V"), (6, u "equals"), (0, u "(Ljava/lang/Object;)Z")] 26

def k3c0 : Code := { maxStack := 4, maxLocals := 5, code := prog_118_method_1_code, exceptionTable := #[], attributes := #[] }
def k3m0 : Method := { name := "<init>", desc := "(Lcom/example/redshank/redshank/monitor/Finding$Kind;IJ)V", sig := { parameters := [(.object "com/example/redshank/redshank/monitor/Finding$Kind"), .int, .long], returnType := none }, accessFlags := 1, code := some k3c0 }
def k3c1 : Code := { maxStack := 4, maxLocals := 3, code := prog_118_method_5_code, exceptionTable := #[], attributes := #[] }
def k3m1 : Method := { name := "equals", desc := "(Ljava/lang/Object;)Z", sig := { parameters := [(.object "java/lang/Object")], returnType := some .boolean }, accessFlags := 1, code := some k3c1 }
/-- com/example/redshank/redshank/monitor/Finding -/
def k3 : Class := { plain "com/example/redshank/redshank/monitor/Finding" (some 0) with
  accessFlags := 49
  interfaces := #[]
  cf := some (fileOf pool3 18 #[.nestMembers #[15]] #[{ accessFlags := 1, nameIndex := 5, descriptorIndex := 75, attributes := #[] }, { accessFlags := 1, nameIndex := 82, descriptorIndex := 83, attributes := #[] }] 49 2 #[] #[{ accessFlags := 18, nameIndex := 8, descriptorIndex := 21, attributes := #[] }, { accessFlags := 18, nameIndex := 48, descriptorIndex := 49, attributes := #[] }, { accessFlags := 18, nameIndex := 52, descriptorIndex := 53, attributes := #[] }])
  fields := #[{ name := "kind", type := (.object "com/example/redshank/redshank/monitor/Finding$Kind"), accessFlags := 18, slot := 0, constantValue := 0 }, { name := "line", type := .int, accessFlags := 18, slot := 1, constantValue := 0 }, { name := "delay", type := .long, accessFlags := 18, slot := 2, constantValue := 0 }]
  methods := #[k3m0, k3m1]
  instanceTypes := #[(.object "com/example/redshank/redshank/monitor/Finding$Kind"), .int, .long]
  staticTypes := #[]
  resolved := Array.replicate 110 none
  statics := none }

def pool4 : Array CpInfo := pool [(1, .class_ 2), (0, u "java/lang/constant/Constable"), (0, .class_ 4), (0, u "java/lang/Object")] 6

/-- java/lang/constant/Constable -/
def k4 : Class := { plain "java/lang/constant/Constable" (some 0) with
  accessFlags := 1537
  interfaces := #[]
  cf := some (fileOf pool4 1 #[] #[] 1537 3 #[] #[])
  fields := #[]
  methods := #[]
  instanceTypes := #[]
  staticTypes := #[]
  resolved := Array.replicate 11 none
  statics := none }

def pool5 : Array CpInfo := pool [(1, .class_ 2), (0, u "java/lang/Comparable"), (0, .class_ 4), (0, u "java/lang/Object")] 7

/-- java/lang/Comparable -/
def k5 : Class := { plain "java/lang/Comparable" (some 0) with
  accessFlags := 1537
  interfaces := #[]
  cf := some (fileOf pool5 1 #[] #[] 1537 3 #[] #[])
  fields := #[]
  methods := #[]
  instanceTypes := #[]
  staticTypes := #[]
  resolved := Array.replicate 12 none
  statics := none }

def pool6 : Array CpInfo := pool [(1, .class_ 2), (0, u "java/io/Serializable"), (0, .class_ 4), (0, u "java/lang/Object")] 2

/-- java/io/Serializable -/
def k6 : Class := { plain "java/io/Serializable" (some 0) with
  accessFlags := 1537
  interfaces := #[]
  cf := some (fileOf pool6 1 #[] #[] 1537 3 #[] #[])
  fields := #[]
  methods := #[]
  instanceTypes := #[]
  staticTypes := #[]
  resolved := Array.replicate 7 none
  statics := none }

def pool7 : Array CpInfo := pool [(2, .class_ 4), (1, u "java/lang/Enum"), (0, u "name"), (0, u "Ljava/lang/String;"), (2, u "ordinal"), (0, u "I"), (1, .class_ 14), (1, u "java/lang/Object"), (4, u "hash"), (86, .class_ 108), (1, u "java/lang/Enum$EnumDesc"), (2, .class_ 112), (0, u "java/lang/constant/Constable"), (0, .class_ 114), (0, u "java/lang/Comparable"), (0, .class_ 116), (0, u "java/io/Serializable")] 87

/-- java/lang/Enum -/
def k7 : Class := { plain "java/lang/Enum" (some 0) with
  accessFlags := 1057
  interfaces := #[4, 5, 6]
  cf := some (fileOf pool7 2 #[.nestMembers #[106]] #[] 1057 12 #[111, 113, 115] #[{ accessFlags := 18, nameIndex := 5, descriptorIndex := 6, attributes := #[] }, { accessFlags := 18, nameIndex := 9, descriptorIndex := 10, attributes := #[] }, { accessFlags := 2, nameIndex := 19, descriptorIndex := 10, attributes := #[] }])
  fields := #[{ name := "name", type := (.object "java/lang/String"), accessFlags := 18, slot := 0, constantValue := 0 }, { name := "ordinal", type := .int, accessFlags := 18, slot := 1, constantValue := 0 }, { name := "hash", type := .int, accessFlags := 2, slot := 2, constantValue := 0 }]
  methods := #[]
  instanceTypes := #[(.object "java/lang/String"), .int, .int]
  staticTypes := #[]
  resolved := Array.replicate 204 none
  statics := none }

def pool8 : Array CpInfo := pool [(1, .class_ 2), (0, u "com/example/redshank/redshank/monitor/Finding$Kind"), (2, u "EARLY"), (0, u "Lcom/example/redshank/redshank/monitor/Finding$Kind;"), (2, u "LATE"), (2, u "MISSING"), (2, u "UNDECIDED"), (2, u "$VALUES"), (0, u "[Lcom/example/redshank/redshank/monitor/Finding$Kind;"), (6, .class_ 28), (1, u "java/lang/Enum"), (30, .class_ 60), (0, u "com/example/redshank/redshank/monitor/Finding")] 2

/-- com/example/redshank/redshank/monitor/Finding$Kind -/
def k8 : Class := { plain "com/example/redshank/redshank/monitor/Finding$Kind" (some 7) with
  accessFlags := 16433
  interfaces := #[]
  cf := some (fileOf pool8 1 #[.nestHost 59] #[] 16433 26 #[] #[{ accessFlags := 16409, nameIndex := 5, descriptorIndex := 6, attributes := #[] }, { accessFlags := 16409, nameIndex := 9, descriptorIndex := 6, attributes := #[] }, { accessFlags := 16409, nameIndex := 12, descriptorIndex := 6, attributes := #[] }, { accessFlags := 16409, nameIndex := 15, descriptorIndex := 6, attributes := #[] }, { accessFlags := 4122, nameIndex := 18, descriptorIndex := 19, attributes := #[] }])
  fields := #[{ name := "EARLY", type := (.object "com/example/redshank/redshank/monitor/Finding$Kind"), accessFlags := 16409, slot := 0, constantValue := 0 }, { name := "LATE", type := (.object "com/example/redshank/redshank/monitor/Finding$Kind"), accessFlags := 16409, slot := 1, constantValue := 0 }, { name := "MISSING", type := (.object "com/example/redshank/redshank/monitor/Finding$Kind"), accessFlags := 16409, slot := 2, constantValue := 0 }, { name := "UNDECIDED", type := (.object "com/example/redshank/redshank/monitor/Finding$Kind"), accessFlags := 16409, slot := 3, constantValue := 0 }, { name := "$VALUES", type := (.array (.object "com/example/redshank/redshank/monitor/Finding$Kind")), accessFlags := 4122, slot := 4, constantValue := 0 }]
  methods := #[]
  instanceTypes := #[(.object "java/lang/String"), .int, .int]
  staticTypes := #[(.object "com/example/redshank/redshank/monitor/Finding$Kind"), (.object "com/example/redshank/redshank/monitor/Finding$Kind"), (.object "com/example/redshank/redshank/monitor/Finding$Kind"), (.object "com/example/redshank/redshank/monitor/Finding$Kind"), (.array (.object "com/example/redshank/redshank/monitor/Finding$Kind"))]
  resolved := Array.replicate 63 none
  statics := some 0 }

def pool9 : Array CpInfo := pool [(2, .class_ 4), (1, u "java/lang/CharSequence"), (42, .class_ 48), (0, u "java/lang/CharSequence$1CodePointIterator"), (10, .class_ 60), (0, u "java/lang/CharSequence$1CharIterator"), (5, .class_ 67), (0, u "java/lang/Object")] 63

/-- java/lang/CharSequence -/
def k9 : Class := { plain "java/lang/CharSequence" (some 0) with
  accessFlags := 1537
  interfaces := #[]
  cf := some (fileOf pool9 2 #[.nestMembers #[47, 59]] #[] 1537 66 #[] #[])
  fields := #[]
  methods := #[]
  instanceTypes := #[]
  staticTypes := #[]
  resolved := Array.replicate 131 none
  statics := none }

def pool10 : Array CpInfo := pool [(1, .class_ 2), (0, u "java/lang/constant/ConstantDesc"), (0, .class_ 4), (0, u "java/lang/Object")] 32

/-- java/lang/constant/ConstantDesc -/
def k10 : Class := { plain "java/lang/constant/ConstantDesc" (some 0) with
  accessFlags := 1537
  interfaces := #[]
  cf := some (fileOf pool10 1 #[] #[] 1537 3 #[] #[])
  fields := #[]
  methods := #[]
  instanceTypes := #[]
  staticTypes := #[]
  resolved := Array.replicate 37 none
  statics := none }

def pool11 : Array CpInfo := pool [(2, .class_ 4), (1, u "java/lang/Object"), (0, u "<init>"), (0, u "()V"), (3, .class_ 12), (1, u "java/lang/String"), (0, u "value"), (0, u "[B"), (2, u "coder"), (0, u "B"), (2, u "hash"), (0, u "I"), (2, u "hashIsZero"), (0, u "Z"), (13, u "COMPACT_STRINGS"), (534, .class_ 576), (0, u "java/lang/CharSequence"), (22, u "CASE_INSENSITIVE_ORDER"), (0, u "Ljava/util/Comparator;"), (500, u "serialPersistentFields"), (0, u "[Ljava/io/ObjectStreamField;"), (0, .class_ 1104), (0, u "java/lang/String$CaseInsensitiveComparator"), (1, .class_ 1107), (0, u "java/io/Serializable"), (0, .class_ 1109), (0, u "java/lang/Comparable"), (0, .class_ 1111), (0, u "java/lang/constant/Constable"), (0, .class_ 1113), (0, u "java/lang/constant/ConstantDesc"), (2, u "serialVersionUID"), (0, u "J"), (3, u "REPL"), (0, u "C"), (2, u "LATIN1"), (1, u "UTF16")] 323

def k11m0 : Method := { name := "<init>", desc := "()V", sig := { parameters := [], returnType := none }, accessFlags := 1, code := none }
/-- java/lang/String -/
def k11 : Class := { plain "java/lang/String" (some 0) with
  accessFlags := 49
  interfaces := #[6, 5, 9, 4, 10]
  cf := some (fileOf pool11 10 #[.nestMembers #[1103]] #[{ accessFlags := 1, nameIndex := 5, descriptorIndex := 6, attributes := #[] }] 49 2 #[1106, 1108, 575, 1110, 1112] #[{ accessFlags := 18, nameIndex := 13, descriptorIndex := 14, attributes := #[] }, { accessFlags := 18, nameIndex := 17, descriptorIndex := 18, attributes := #[] }, { accessFlags := 2, nameIndex := 21, descriptorIndex := 22, attributes := #[] }, { accessFlags := 2, nameIndex := 25, descriptorIndex := 26, attributes := #[] }, { accessFlags := 26, nameIndex := 1116, descriptorIndex := 1117, attributes := #[] }, { accessFlags := 24, nameIndex := 40, descriptorIndex := 26, attributes := #[] }, { accessFlags := 26, nameIndex := 1101, descriptorIndex := 1102, attributes := #[] }, { accessFlags := 26, nameIndex := 1121, descriptorIndex := 1122, attributes := #[] }, { accessFlags := 25, nameIndex := 599, descriptorIndex := 600, attributes := #[] }, { accessFlags := 24, nameIndex := 1125, descriptorIndex := 18, attributes := #[] }, { accessFlags := 24, nameIndex := 1127, descriptorIndex := 18, attributes := #[] }])
  fields := #[{ name := "value", type := (.array .byte), accessFlags := 18, slot := 0, constantValue := 0 }, { name := "coder", type := .byte, accessFlags := 18, slot := 1, constantValue := 0 }, { name := "hash", type := .int, accessFlags := 2, slot := 2, constantValue := 0 }, { name := "hashIsZero", type := .boolean, accessFlags := 2, slot := 3, constantValue := 0 }, { name := "serialVersionUID", type := .long, accessFlags := 26, slot := 0, constantValue := 0 }, { name := "COMPACT_STRINGS", type := .boolean, accessFlags := 24, slot := 1, constantValue := 0 }, { name := "serialPersistentFields", type := (.array (.object "java/io/ObjectStreamField")), accessFlags := 26, slot := 2, constantValue := 0 }, { name := "REPL", type := .char, accessFlags := 26, slot := 3, constantValue := 0 }, { name := "CASE_INSENSITIVE_ORDER", type := (.object "java/util/Comparator"), accessFlags := 25, slot := 4, constantValue := 0 }, { name := "LATIN1", type := .byte, accessFlags := 24, slot := 5, constantValue := 0 }, { name := "UTF16", type := .byte, accessFlags := 24, slot := 6, constantValue := 0 }]
  methods := #[k11m0]
  instanceTypes := #[(.array .byte), .byte, .int, .boolean]
  staticTypes := #[.long, .boolean, (.array (.object "java/io/ObjectStreamField")), .char, (.object "java/util/Comparator"), .byte, .byte]
  resolved := Array.replicate 1451 none
  statics := none }

def pool12 : Array CpInfo := pool [(2, .class_ 4), (1, u "java/lang/Object"), (0, u "<init>"), (0, u "()V"), (35, .class_ 44), (1, u "java/util/Objects"), (0, u "requireNonNull"), (48, u "(Ljava/lang/Object;Ljava/lang/String;)Ljava/lang/Object;")] 89

def k12m0 : Method := { name := "<init>", desc := "()V", sig := { parameters := [], returnType := none }, accessFlags := 2, code := none }
def k12c1 : Code := { maxStack := 3, maxLocals := 2, code := jdk_31_method_11_code, exceptionTable := #[], attributes := #[] }
def k12m1 : Method := { name := "requireNonNull", desc := "(Ljava/lang/Object;Ljava/lang/String;)Ljava/lang/Object;", sig := { parameters := [(.object "java/lang/Object"), (.object "java/lang/String")], returnType := some (.object "java/lang/Object") }, accessFlags := 9, code := some k12c1 }
/-- java/util/Objects -/
def k12 : Class := { plain "java/util/Objects" (some 0) with
  accessFlags := 49
  interfaces := #[]
  cf := some (fileOf pool12 42 #[] #[{ accessFlags := 2, nameIndex := 5, descriptorIndex := 6, attributes := #[] }, { accessFlags := 9, nameIndex := 45, descriptorIndex := 94, attributes := #[] }] 49 2 #[] #[])
  fields := #[]
  methods := #[k12m0, k12m1]
  instanceTypes := #[]
  staticTypes := #[]
  resolved := Array.replicate 184 none
  statics := none }

def pool13 : Array CpInfo := pool [(1, .methodref 2 3), (0, .class_ 4), (0, .nameAndType 5 6), (0, u "java/lang/Object"), (0, u "<init>"), (0, u "()V"), (1, .class_ 10), (1, u "java/lang/Number"), (2, .class_ 14), (0, u "java/io/Serializable"), (0, u "serialVersionUID"), (0, u "J")] 20

def k13c0 : Code := { maxStack := 1, maxLocals := 1, code := jdk_18_method_1_code, exceptionTable := #[], attributes := #[] }
def k13m0 : Method := { name := "<init>", desc := "()V", sig := { parameters := [], returnType := none }, accessFlags := 1, code := some k13c0 }
/-- java/lang/Number -/
def k13 : Class := { plain "java/lang/Number" (some 0) with
  accessFlags := 1057
  interfaces := #[6]
  cf := some (fileOf pool13 8 #[] #[{ accessFlags := 1, nameIndex := 5, descriptorIndex := 6, attributes := #[] }] 1057 2 #[13] #[{ accessFlags := 26, nameIndex := 15, descriptorIndex := 16, attributes := #[] }])
  fields := #[{ name := "serialVersionUID", type := .long, accessFlags := 26, slot := 0, constantValue := 0 }]
  methods := #[k13m0]
  instanceTypes := #[]
  staticTypes := #[.long]
  resolved := Array.replicate 37 none
  statics := none }

def pool14 : Array CpInfo := pool [(1, .class_ 2), (0, u "java/lang/Integer"), (16, u "digits"), (0, u "[C"), (46, u "<init>"), (17, u "DigitOnes"), (0, u "[B"), (2, u "DigitTens"), (10, .nameAndType 67 101), (0, u "()V"), (85, u "valueOf"), (0, u "(I)Ljava/lang/Integer;"), (0, .class_ 190), (0, u "java/lang/Integer$IntegerCache"), (0, .fieldref 189 192), (0, .nameAndType 193 194), (0, u "high"), (0, u "I"), (0, .fieldref 189 196), (0, .nameAndType 197 198), (0, u "cache"), (0, u "[Ljava/lang/Integer;"), (0, .methodref 1 200), (0, .nameAndType 67 201), (0, u "(I)V"), (0, .methodref 203 100), (0, .class_ 204), (0, u "java/lang/Number"), (0, .fieldref 1 206), (0, .nameAndType 207 194), (0, u "value"), (94, u "TYPE"), (0, u "Ljava/lang/Class;"), (0, .class_ 305), (0, u "java/lang/Comparable"), (0, .class_ 307), (0, u "java/lang/constant/Constable"), (0, .class_ 309), (0, u "java/lang/constant/ConstantDesc"), (0, u "MIN_VALUE"), (1, u "MAX_VALUE"), (3, u "SIZE"), (1, u "BYTES"), (1, u "serialVersionUID"), (0, u "J")] 131

def k14c0 : Code := { maxStack := 3, maxLocals := 1, code := jdk_33_method_22_code, exceptionTable := #[], attributes := #[] }
def k14m0 : Method := { name := "valueOf", desc := "(I)Ljava/lang/Integer;", sig := { parameters := [.int], returnType := some (.object "java/lang/Integer") }, accessFlags := 9, code := some k14c0 }
def k14c1 : Code := { maxStack := 2, maxLocals := 2, code := jdk_33_method_23_code, exceptionTable := #[], attributes := #[] }
def k14m1 : Method := { name := "<init>", desc := "(I)V", sig := { parameters := [.int], returnType := none }, accessFlags := 1, code := some k14c1 }
/-- java/lang/Integer -/
def k14 : Class := { plain "java/lang/Integer" (some 13) with
  accessFlags := 49
  interfaces := #[5, 4, 10]
  cf := some (fileOf pool14 1 #[.nestMembers #[189]] #[{ accessFlags := 9, nameIndex := 187, descriptorIndex := 188, attributes := #[] }, { accessFlags := 1, nameIndex := 67, descriptorIndex := 201, attributes := #[] }] 49 203 #[304, 306, 308] #[{ accessFlags := 25, nameIndex := 310, descriptorIndex := 194, attributes := #[] }, { accessFlags := 25, nameIndex := 312, descriptorIndex := 194, attributes := #[] }, { accessFlags := 25, nameIndex := 302, descriptorIndex := 303, attributes := #[] }, { accessFlags := 24, nameIndex := 19, descriptorIndex := 20, attributes := #[] }, { accessFlags := 24, nameIndex := 89, descriptorIndex := 86, attributes := #[] }, { accessFlags := 24, nameIndex := 85, descriptorIndex := 86, attributes := #[] }, { accessFlags := 18, nameIndex := 207, descriptorIndex := 194, attributes := #[] }, { accessFlags := 25, nameIndex := 316, descriptorIndex := 194, attributes := #[] }, { accessFlags := 25, nameIndex := 318, descriptorIndex := 194, attributes := #[] }, { accessFlags := 26, nameIndex := 320, descriptorIndex := 321, attributes := #[] }])
  fields := #[{ name := "MIN_VALUE", type := .int, accessFlags := 25, slot := 0, constantValue := 0 }, { name := "MAX_VALUE", type := .int, accessFlags := 25, slot := 1, constantValue := 0 }, { name := "TYPE", type := (.object "java/lang/Class"), accessFlags := 25, slot := 2, constantValue := 0 }, { name := "digits", type := (.array .char), accessFlags := 24, slot := 3, constantValue := 0 }, { name := "DigitTens", type := (.array .byte), accessFlags := 24, slot := 4, constantValue := 0 }, { name := "DigitOnes", type := (.array .byte), accessFlags := 24, slot := 5, constantValue := 0 }, { name := "value", type := .int, accessFlags := 18, slot := 0, constantValue := 0 }, { name := "SIZE", type := .int, accessFlags := 25, slot := 6, constantValue := 0 }, { name := "BYTES", type := .int, accessFlags := 25, slot := 7, constantValue := 0 }, { name := "serialVersionUID", type := .long, accessFlags := 26, slot := 8, constantValue := 0 }]
  methods := #[k14m0, k14m1]
  instanceTypes := #[.int]
  staticTypes := #[.int, .int, (.object "java/lang/Class"), (.array .char), (.array .byte), (.array .byte), .int, .int, .long]
  resolved := Array.replicate 453 none
  statics := none }

def pool15 : Array CpInfo := pool [(2, .class_ 4), (1, u "java/lang/Object"), (0, u "<init>"), (0, u "()V"), (0, .class_ 8), (0, u "java/lang/Integer"), (7, .class_ 18), (1, u "java/lang/Integer$IntegerCache"), (0, u "$assertionsDisabled"), (0, u "Z"), (26, u "high"), (0, u "I"), (8, u "archivedCache"), (0, u "[Ljava/lang/Integer;"), (12, u "cache"), (0, u "low")] 27

def k15m0 : Method := { name := "<init>", desc := "()V", sig := { parameters := [], returnType := none }, accessFlags := 2, code := none }
/-- java/lang/Integer$IntegerCache -/
def k15 : Class := { plain "java/lang/Integer$IntegerCache" (some 0) with
  accessFlags := 48
  interfaces := #[]
  cf := some (fileOf pool15 16 #[.nestHost 7] #[{ accessFlags := 2, nameIndex := 5, descriptorIndex := 6, attributes := #[] }] 48 2 #[] #[{ accessFlags := 24, nameIndex := 72, descriptorIndex := 48, attributes := #[] }, { accessFlags := 24, nameIndex := 47, descriptorIndex := 48, attributes := #[] }, { accessFlags := 24, nameIndex := 71, descriptorIndex := 58, attributes := #[] }, { accessFlags := 8, nameIndex := 57, descriptorIndex := 58, attributes := #[] }, { accessFlags := 4120, nameIndex := 19, descriptorIndex := 20, attributes := #[] }])
  fields := #[{ name := "low", type := .int, accessFlags := 24, slot := 0, constantValue := 0 }, { name := "high", type := .int, accessFlags := 24, slot := 1, constantValue := 0 }, { name := "cache", type := (.array (.object "java/lang/Integer")), accessFlags := 24, slot := 2, constantValue := 0 }, { name := "archivedCache", type := (.array (.object "java/lang/Integer")), accessFlags := 8, slot := 3, constantValue := 0 }, { name := "$assertionsDisabled", type := .boolean, accessFlags := 4120, slot := 4, constantValue := 0 }]
  methods := #[k15m0]
  instanceTypes := #[]
  staticTypes := #[.int, .int, (.array (.object "java/lang/Integer")), (.array (.object "java/lang/Integer")), .boolean]
  resolved := Array.replicate 100 none
  statics := some 1 }

def pool16 : Array CpInfo := pool [(1, u "java/lang/Cloneable"), (0, .class_ 1), (0, u "java/lang/Object"), (0, .class_ 3)] 3

/-- java/lang/Cloneable -/
def k16 : Class := { plain "java/lang/Cloneable" (some 0) with
  accessFlags := 1537
  interfaces := #[]
  cf := some (fileOf pool16 2 #[] #[] 1537 4 #[] #[])
  fields := #[]
  methods := #[]
  instanceTypes := #[]
  staticTypes := #[]
  resolved := Array.replicate 8 none
  statics := none }

/-- the primitive byte -/
def k17 : Class := { plain "byte" none with kind := .primitive 'B', accessFlags := 0x411 }
/-- [B -/
def k18 : Class := { plain "[B" (some 0) with kind := .array 17 .byte, interfaces := #[16, 6], accessFlags := 1041 }

/-- the primitive int -/
def k19 : Class := { plain "int" none with kind := .primitive 'I', accessFlags := 0x411 }
/-- [I -/
def k20 : Class := { plain "[I" (some 0) with kind := .array 19 .int, interfaces := #[16, 6], accessFlags := 1041 }

/-- [Ljava/lang/Integer; -/
def k21 : Class := { plain "[Ljava/lang/Integer;" (some 0) with kind := .array 14 (.object "java/lang/Integer"), interfaces := #[16, 6], accessFlags := 1041 }

def heap : Heap := #[{ cls := 8, slots := #[.ref 259, .ref 262, .ref 260, .ref 261, .null], vm := .statics 8 },
  { cls := 15, slots := #[.int 0, .int 127, .ref 2, .null, .int 0], vm := .statics 15 },
  { cls := 21, slots := #[.ref 3, .ref 4, .ref 5, .ref 6, .ref 7, .ref 8, .ref 9, .ref 10, .ref 11, .ref 12, .ref 13, .ref 14, .ref 15, .ref 16, .ref 17, .ref 18, .ref 19, .ref 20, .ref 21, .ref 22, .ref 23, .ref 24, .ref 25, .ref 26, .ref 27, .ref 28, .ref 29, .ref 30, .ref 31, .ref 32, .ref 33, .ref 34, .ref 35, .ref 36, .ref 37, .ref 38, .ref 39, .ref 40, .ref 41, .ref 42, .ref 43, .ref 44, .ref 45, .ref 46, .ref 47, .ref 48, .ref 49, .ref 50, .ref 51, .ref 52, .ref 53, .ref 54, .ref 55, .ref 56, .ref 57, .ref 58, .ref 59, .ref 60, .ref 61, .ref 62, .ref 63, .ref 64, .ref 65, .ref 66, .ref 67, .ref 68, .ref 69, .ref 70, .ref 71, .ref 72, .ref 73, .ref 74, .ref 75, .ref 76, .ref 77, .ref 78, .ref 79, .ref 80, .ref 81, .ref 82, .ref 83, .ref 84, .ref 85, .ref 86, .ref 87, .ref 88, .ref 89, .ref 90, .ref 91, .ref 92, .ref 93, .ref 94, .ref 95, .ref 96, .ref 97, .ref 98, .ref 99, .ref 100, .ref 101, .ref 102, .ref 103, .ref 104, .ref 105, .ref 106, .ref 107, .ref 108, .ref 109, .ref 110, .ref 111, .ref 112, .ref 113, .ref 114, .ref 115, .ref 116, .ref 117, .ref 118, .ref 119, .ref 120, .ref 121, .ref 122, .ref 123, .ref 124, .ref 125, .ref 126, .ref 127, .ref 128, .ref 129, .ref 130, .ref 131, .ref 132, .ref 133, .ref 134, .ref 135, .ref 136, .ref 137, .ref 138, .ref 139, .ref 140, .ref 141, .ref 142, .ref 143, .ref 144, .ref 145, .ref 146, .ref 147, .ref 148, .ref 149, .ref 150, .ref 151, .ref 152, .ref 153, .ref 154, .ref 155, .ref 156, .ref 157, .ref 158, .ref 159, .ref 160, .ref 161, .ref 162, .ref 163, .ref 164, .ref 165, .ref 166, .ref 167, .ref 168, .ref 169, .ref 170, .ref 171, .ref 172, .ref 173, .ref 174, .ref 175, .ref 176, .ref 177, .ref 178, .ref 179, .ref 180, .ref 181, .ref 182, .ref 183, .ref 184, .ref 185, .ref 186, .ref 187, .ref 188, .ref 189, .ref 190, .ref 191, .ref 192, .ref 193, .ref 194, .ref 195, .ref 196, .ref 197, .ref 198, .ref 199, .ref 200, .ref 201, .ref 202, .ref 203, .ref 204, .ref 205, .ref 206, .ref 207, .ref 208, .ref 209, .ref 210, .ref 211, .ref 212, .ref 213, .ref 214, .ref 215, .ref 216, .ref 217, .ref 218, .ref 219, .ref 220, .ref 221, .ref 222, .ref 223, .ref 224, .ref 225, .ref 226, .ref 227, .ref 228, .ref 229, .ref 230, .ref 231, .ref 232, .ref 233, .ref 234, .ref 235, .ref 236, .ref 237, .ref 238, .ref 239, .ref 240, .ref 241, .ref 242, .ref 243, .ref 244, .ref 245, .ref 246, .ref 247, .ref 248, .ref 249, .ref 250, .ref 251, .ref 252, .ref 253, .ref 254, .ref 255, .ref 256, .ref 257, .ref 258], vm := .none },
  { cls := 14, slots := #[.int (-128)], vm := .none },
  { cls := 14, slots := #[.int (-127)], vm := .none },
  { cls := 14, slots := #[.int (-126)], vm := .none },
  { cls := 14, slots := #[.int (-125)], vm := .none },
  { cls := 14, slots := #[.int (-124)], vm := .none },
  { cls := 14, slots := #[.int (-123)], vm := .none },
  { cls := 14, slots := #[.int (-122)], vm := .none },
  { cls := 14, slots := #[.int (-121)], vm := .none },
  { cls := 14, slots := #[.int (-120)], vm := .none },
  { cls := 14, slots := #[.int (-119)], vm := .none },
  { cls := 14, slots := #[.int (-118)], vm := .none },
  { cls := 14, slots := #[.int (-117)], vm := .none },
  { cls := 14, slots := #[.int (-116)], vm := .none },
  { cls := 14, slots := #[.int (-115)], vm := .none },
  { cls := 14, slots := #[.int (-114)], vm := .none },
  { cls := 14, slots := #[.int (-113)], vm := .none },
  { cls := 14, slots := #[.int (-112)], vm := .none },
  { cls := 14, slots := #[.int (-111)], vm := .none },
  { cls := 14, slots := #[.int (-110)], vm := .none },
  { cls := 14, slots := #[.int (-109)], vm := .none },
  { cls := 14, slots := #[.int (-108)], vm := .none },
  { cls := 14, slots := #[.int (-107)], vm := .none },
  { cls := 14, slots := #[.int (-106)], vm := .none },
  { cls := 14, slots := #[.int (-105)], vm := .none },
  { cls := 14, slots := #[.int (-104)], vm := .none },
  { cls := 14, slots := #[.int (-103)], vm := .none },
  { cls := 14, slots := #[.int (-102)], vm := .none },
  { cls := 14, slots := #[.int (-101)], vm := .none },
  { cls := 14, slots := #[.int (-100)], vm := .none },
  { cls := 14, slots := #[.int (-99)], vm := .none },
  { cls := 14, slots := #[.int (-98)], vm := .none },
  { cls := 14, slots := #[.int (-97)], vm := .none },
  { cls := 14, slots := #[.int (-96)], vm := .none },
  { cls := 14, slots := #[.int (-95)], vm := .none },
  { cls := 14, slots := #[.int (-94)], vm := .none },
  { cls := 14, slots := #[.int (-93)], vm := .none },
  { cls := 14, slots := #[.int (-92)], vm := .none },
  { cls := 14, slots := #[.int (-91)], vm := .none },
  { cls := 14, slots := #[.int (-90)], vm := .none },
  { cls := 14, slots := #[.int (-89)], vm := .none },
  { cls := 14, slots := #[.int (-88)], vm := .none },
  { cls := 14, slots := #[.int (-87)], vm := .none },
  { cls := 14, slots := #[.int (-86)], vm := .none },
  { cls := 14, slots := #[.int (-85)], vm := .none },
  { cls := 14, slots := #[.int (-84)], vm := .none },
  { cls := 14, slots := #[.int (-83)], vm := .none },
  { cls := 14, slots := #[.int (-82)], vm := .none },
  { cls := 14, slots := #[.int (-81)], vm := .none },
  { cls := 14, slots := #[.int (-80)], vm := .none },
  { cls := 14, slots := #[.int (-79)], vm := .none },
  { cls := 14, slots := #[.int (-78)], vm := .none },
  { cls := 14, slots := #[.int (-77)], vm := .none },
  { cls := 14, slots := #[.int (-76)], vm := .none },
  { cls := 14, slots := #[.int (-75)], vm := .none },
  { cls := 14, slots := #[.int (-74)], vm := .none },
  { cls := 14, slots := #[.int (-73)], vm := .none },
  { cls := 14, slots := #[.int (-72)], vm := .none },
  { cls := 14, slots := #[.int (-71)], vm := .none },
  { cls := 14, slots := #[.int (-70)], vm := .none },
  { cls := 14, slots := #[.int (-69)], vm := .none },
  { cls := 14, slots := #[.int (-68)], vm := .none },
  { cls := 14, slots := #[.int (-67)], vm := .none },
  { cls := 14, slots := #[.int (-66)], vm := .none },
  { cls := 14, slots := #[.int (-65)], vm := .none },
  { cls := 14, slots := #[.int (-64)], vm := .none },
  { cls := 14, slots := #[.int (-63)], vm := .none },
  { cls := 14, slots := #[.int (-62)], vm := .none },
  { cls := 14, slots := #[.int (-61)], vm := .none },
  { cls := 14, slots := #[.int (-60)], vm := .none },
  { cls := 14, slots := #[.int (-59)], vm := .none },
  { cls := 14, slots := #[.int (-58)], vm := .none },
  { cls := 14, slots := #[.int (-57)], vm := .none },
  { cls := 14, slots := #[.int (-56)], vm := .none },
  { cls := 14, slots := #[.int (-55)], vm := .none },
  { cls := 14, slots := #[.int (-54)], vm := .none },
  { cls := 14, slots := #[.int (-53)], vm := .none },
  { cls := 14, slots := #[.int (-52)], vm := .none },
  { cls := 14, slots := #[.int (-51)], vm := .none },
  { cls := 14, slots := #[.int (-50)], vm := .none },
  { cls := 14, slots := #[.int (-49)], vm := .none },
  { cls := 14, slots := #[.int (-48)], vm := .none },
  { cls := 14, slots := #[.int (-47)], vm := .none },
  { cls := 14, slots := #[.int (-46)], vm := .none },
  { cls := 14, slots := #[.int (-45)], vm := .none },
  { cls := 14, slots := #[.int (-44)], vm := .none },
  { cls := 14, slots := #[.int (-43)], vm := .none },
  { cls := 14, slots := #[.int (-42)], vm := .none },
  { cls := 14, slots := #[.int (-41)], vm := .none },
  { cls := 14, slots := #[.int (-40)], vm := .none },
  { cls := 14, slots := #[.int (-39)], vm := .none },
  { cls := 14, slots := #[.int (-38)], vm := .none },
  { cls := 14, slots := #[.int (-37)], vm := .none },
  { cls := 14, slots := #[.int (-36)], vm := .none },
  { cls := 14, slots := #[.int (-35)], vm := .none },
  { cls := 14, slots := #[.int (-34)], vm := .none },
  { cls := 14, slots := #[.int (-33)], vm := .none },
  { cls := 14, slots := #[.int (-32)], vm := .none },
  { cls := 14, slots := #[.int (-31)], vm := .none },
  { cls := 14, slots := #[.int (-30)], vm := .none },
  { cls := 14, slots := #[.int (-29)], vm := .none },
  { cls := 14, slots := #[.int (-28)], vm := .none },
  { cls := 14, slots := #[.int (-27)], vm := .none },
  { cls := 14, slots := #[.int (-26)], vm := .none },
  { cls := 14, slots := #[.int (-25)], vm := .none },
  { cls := 14, slots := #[.int (-24)], vm := .none },
  { cls := 14, slots := #[.int (-23)], vm := .none },
  { cls := 14, slots := #[.int (-22)], vm := .none },
  { cls := 14, slots := #[.int (-21)], vm := .none },
  { cls := 14, slots := #[.int (-20)], vm := .none },
  { cls := 14, slots := #[.int (-19)], vm := .none },
  { cls := 14, slots := #[.int (-18)], vm := .none },
  { cls := 14, slots := #[.int (-17)], vm := .none },
  { cls := 14, slots := #[.int (-16)], vm := .none },
  { cls := 14, slots := #[.int (-15)], vm := .none },
  { cls := 14, slots := #[.int (-14)], vm := .none },
  { cls := 14, slots := #[.int (-13)], vm := .none },
  { cls := 14, slots := #[.int (-12)], vm := .none },
  { cls := 14, slots := #[.int (-11)], vm := .none },
  { cls := 14, slots := #[.int (-10)], vm := .none },
  { cls := 14, slots := #[.int (-9)], vm := .none },
  { cls := 14, slots := #[.int (-8)], vm := .none },
  { cls := 14, slots := #[.int (-7)], vm := .none },
  { cls := 14, slots := #[.int (-6)], vm := .none },
  { cls := 14, slots := #[.int (-5)], vm := .none },
  { cls := 14, slots := #[.int (-4)], vm := .none },
  { cls := 14, slots := #[.int (-3)], vm := .none },
  { cls := 14, slots := #[.int (-2)], vm := .none },
  { cls := 14, slots := #[.int (-1)], vm := .none },
  { cls := 14, slots := #[.int 0], vm := .none },
  { cls := 14, slots := #[.int 1], vm := .none },
  { cls := 14, slots := #[.int 2], vm := .none },
  { cls := 14, slots := #[.int 3], vm := .none },
  { cls := 14, slots := #[.int 4], vm := .none },
  { cls := 14, slots := #[.int 5], vm := .none },
  { cls := 14, slots := #[.int 6], vm := .none },
  { cls := 14, slots := #[.int 7], vm := .none },
  { cls := 14, slots := #[.int 8], vm := .none },
  { cls := 14, slots := #[.int 9], vm := .none },
  { cls := 14, slots := #[.int 10], vm := .none },
  { cls := 14, slots := #[.int 11], vm := .none },
  { cls := 14, slots := #[.int 12], vm := .none },
  { cls := 14, slots := #[.int 13], vm := .none },
  { cls := 14, slots := #[.int 14], vm := .none },
  { cls := 14, slots := #[.int 15], vm := .none },
  { cls := 14, slots := #[.int 16], vm := .none },
  { cls := 14, slots := #[.int 17], vm := .none },
  { cls := 14, slots := #[.int 18], vm := .none },
  { cls := 14, slots := #[.int 19], vm := .none },
  { cls := 14, slots := #[.int 20], vm := .none },
  { cls := 14, slots := #[.int 21], vm := .none },
  { cls := 14, slots := #[.int 22], vm := .none },
  { cls := 14, slots := #[.int 23], vm := .none },
  { cls := 14, slots := #[.int 24], vm := .none },
  { cls := 14, slots := #[.int 25], vm := .none },
  { cls := 14, slots := #[.int 26], vm := .none },
  { cls := 14, slots := #[.int 27], vm := .none },
  { cls := 14, slots := #[.int 28], vm := .none },
  { cls := 14, slots := #[.int 29], vm := .none },
  { cls := 14, slots := #[.int 30], vm := .none },
  { cls := 14, slots := #[.int 31], vm := .none },
  { cls := 14, slots := #[.int 32], vm := .none },
  { cls := 14, slots := #[.int 33], vm := .none },
  { cls := 14, slots := #[.int 34], vm := .none },
  { cls := 14, slots := #[.int 35], vm := .none },
  { cls := 14, slots := #[.int 36], vm := .none },
  { cls := 14, slots := #[.int 37], vm := .none },
  { cls := 14, slots := #[.int 38], vm := .none },
  { cls := 14, slots := #[.int 39], vm := .none },
  { cls := 14, slots := #[.int 40], vm := .none },
  { cls := 14, slots := #[.int 41], vm := .none },
  { cls := 14, slots := #[.int 42], vm := .none },
  { cls := 14, slots := #[.int 43], vm := .none },
  { cls := 14, slots := #[.int 44], vm := .none },
  { cls := 14, slots := #[.int 45], vm := .none },
  { cls := 14, slots := #[.int 46], vm := .none },
  { cls := 14, slots := #[.int 47], vm := .none },
  { cls := 14, slots := #[.int 48], vm := .none },
  { cls := 14, slots := #[.int 49], vm := .none },
  { cls := 14, slots := #[.int 50], vm := .none },
  { cls := 14, slots := #[.int 51], vm := .none },
  { cls := 14, slots := #[.int 52], vm := .none },
  { cls := 14, slots := #[.int 53], vm := .none },
  { cls := 14, slots := #[.int 54], vm := .none },
  { cls := 14, slots := #[.int 55], vm := .none },
  { cls := 14, slots := #[.int 56], vm := .none },
  { cls := 14, slots := #[.int 57], vm := .none },
  { cls := 14, slots := #[.int 58], vm := .none },
  { cls := 14, slots := #[.int 59], vm := .none },
  { cls := 14, slots := #[.int 60], vm := .none },
  { cls := 14, slots := #[.int 61], vm := .none },
  { cls := 14, slots := #[.int 62], vm := .none },
  { cls := 14, slots := #[.int 63], vm := .none },
  { cls := 14, slots := #[.int 64], vm := .none },
  { cls := 14, slots := #[.int 65], vm := .none },
  { cls := 14, slots := #[.int 66], vm := .none },
  { cls := 14, slots := #[.int 67], vm := .none },
  { cls := 14, slots := #[.int 68], vm := .none },
  { cls := 14, slots := #[.int 69], vm := .none },
  { cls := 14, slots := #[.int 70], vm := .none },
  { cls := 14, slots := #[.int 71], vm := .none },
  { cls := 14, slots := #[.int 72], vm := .none },
  { cls := 14, slots := #[.int 73], vm := .none },
  { cls := 14, slots := #[.int 74], vm := .none },
  { cls := 14, slots := #[.int 75], vm := .none },
  { cls := 14, slots := #[.int 76], vm := .none },
  { cls := 14, slots := #[.int 77], vm := .none },
  { cls := 14, slots := #[.int 78], vm := .none },
  { cls := 14, slots := #[.int 79], vm := .none },
  { cls := 14, slots := #[.int 80], vm := .none },
  { cls := 14, slots := #[.int 81], vm := .none },
  { cls := 14, slots := #[.int 82], vm := .none },
  { cls := 14, slots := #[.int 83], vm := .none },
  { cls := 14, slots := #[.int 84], vm := .none },
  { cls := 14, slots := #[.int 85], vm := .none },
  { cls := 14, slots := #[.int 86], vm := .none },
  { cls := 14, slots := #[.int 87], vm := .none },
  { cls := 14, slots := #[.int 88], vm := .none },
  { cls := 14, slots := #[.int 89], vm := .none },
  { cls := 14, slots := #[.int 90], vm := .none },
  { cls := 14, slots := #[.int 91], vm := .none },
  { cls := 14, slots := #[.int 92], vm := .none },
  { cls := 14, slots := #[.int 93], vm := .none },
  { cls := 14, slots := #[.int 94], vm := .none },
  { cls := 14, slots := #[.int 95], vm := .none },
  { cls := 14, slots := #[.int 96], vm := .none },
  { cls := 14, slots := #[.int 97], vm := .none },
  { cls := 14, slots := #[.int 98], vm := .none },
  { cls := 14, slots := #[.int 99], vm := .none },
  { cls := 14, slots := #[.int 100], vm := .none },
  { cls := 14, slots := #[.int 101], vm := .none },
  { cls := 14, slots := #[.int 102], vm := .none },
  { cls := 14, slots := #[.int 103], vm := .none },
  { cls := 14, slots := #[.int 104], vm := .none },
  { cls := 14, slots := #[.int 105], vm := .none },
  { cls := 14, slots := #[.int 106], vm := .none },
  { cls := 14, slots := #[.int 107], vm := .none },
  { cls := 14, slots := #[.int 108], vm := .none },
  { cls := 14, slots := #[.int 109], vm := .none },
  { cls := 14, slots := #[.int 110], vm := .none },
  { cls := 14, slots := #[.int 111], vm := .none },
  { cls := 14, slots := #[.int 112], vm := .none },
  { cls := 14, slots := #[.int 113], vm := .none },
  { cls := 14, slots := #[.int 114], vm := .none },
  { cls := 14, slots := #[.int 115], vm := .none },
  { cls := 14, slots := #[.int 116], vm := .none },
  { cls := 14, slots := #[.int 117], vm := .none },
  { cls := 14, slots := #[.int 118], vm := .none },
  { cls := 14, slots := #[.int 119], vm := .none },
  { cls := 14, slots := #[.int 120], vm := .none },
  { cls := 14, slots := #[.int 121], vm := .none },
  { cls := 14, slots := #[.int 122], vm := .none },
  { cls := 14, slots := #[.int 123], vm := .none },
  { cls := 14, slots := #[.int 124], vm := .none },
  { cls := 14, slots := #[.int 125], vm := .none },
  { cls := 14, slots := #[.int 126], vm := .none },
  { cls := 14, slots := #[.int 127], vm := .none },
  { cls := 8, slots := #[.null, .int 0, .int 0], vm := .none },
  { cls := 8, slots := #[.null, .int 2, .int 0], vm := .none },
  { cls := 8, slots := #[.null, .int 3, .int 0], vm := .none },
  { cls := 8, slots := #[.null, .int 1, .int 0], vm := .none }]
def classes : Array Class := #[k0, k1, k2, k3, k4, k5, k6, k7, k8, k9, k10, k11, k12, k13, k14, k15, k16, k17, k18, k19, k20, k21]
def interned : List (Array UInt16 × Addr) := []
def slotsUsed : Nat := 534
def theMethod : MethodId := ⟨1, 2⟩
def args0 : Array Value := #[.int 5, .int 7, .int 9, .long 3, .long 4, .int 6]
def aboutOver (below : List Frame) : State where
  vm := { classes := classes, interned := interned.toArray }
  heap := heap
  slotsUsed := slotsUsed
  threads := #[{ frames := .invoking theMethod args0 :: below }]
def below0 : List Frame := [.native { method := ⟨0, 0⟩, args := #[] }]
def about1 : State := aboutOver below0
def p0 : Program := .bare "" "" ""
def e0 : Env := launch0.env 0 0 0
theorem w_frames : about1.frames = Frame.invoking theMethod args0 :: below0 := rfl
set_option maxRecDepth 65536 in
theorem w_args : argsFit about1.vm theMethod args0 = true := by decide +kernel
set_option maxRecDepth 65536 in
theorem w_heap : heapFits about1 = true := by decide +kernel
set_option maxRecDepth 65536 in
theorem w_runnable : about1.curStatus? = some .runnable := by decide +kernel
set_option maxRecDepth 65536 in
theorem w_alone : about1.alone = true := by decide +kernel
set_option maxRecDepth 65536 in
theorem w_named : about1.methodNamed? x = some theMethod := by decide +kernel
set_option maxRecDepth 65536 in
theorem w_hears : about1.hears theMethod below0 = true := by decide +kernel
set_option maxRecDepth 65536 in
theorem w_ripe : about1.ripe theMethod args0 below0 = true := by decide +kernel
theorem w_running : about1.status = .running := rfl
set_option maxRecDepth 65536 in
theorem w_room : about1.hasRoom e0.platform room_1 = true :=
  launch0.hasRoom_least _ room_1 (by decide +kernel) (by decide +kernel) (by decide +kernel) (by decide +kernel) (by decide +kernel) (by decide +kernel)
theorem allAtoms_all (ts : List Jvm.Cond) (a : Array Jvm.Value) (st : Jvm.State) : (allAtoms ts).before a st = ts.all (fun c => c.before a st) := by
  induction ts with
  | nil => rfl
  | cons c t ih =>
    show (Jvm.Cond.and c (allAtoms t)).before a st = _
    rw [Jvm.Cond.before_and, ih, List.all_cons]
def words1 : List Jvm.Cond := Jvm.Cond.code x code maxLocals ret :: tables_1
/-- a 'code' word, met by the world's own term for the bytes: nothing is compared byte by byte -/
theorem code_word {y : MethodName} {bytes : ByteArray} {mx : Nat} {rt : Option FieldType} {a : Array Value} {s : State} {m : MethodId} {meth : Method} {c : Code} (h1 : s.methodNamed? y = some m) (h2 : s.vm.method? m = some meth) (h3 : meth.code = some c) (h4 : c.code = bytes)
    (h5 : (c.maxLocals == mx && c.exceptionTable.isEmpty && decide (c.maxStack ≤ mostOperands) && decide (meth.sig.returnType = rt) && !meth.locks && decide (parseMethodDescriptor y.desc = some meth.sig)) = true) : (Jvm.Cond.code y bytes mx rt).before a s = true := by
  simp only [Bool.and_eq_true, beq_iff_eq, Bool.not_eq_true', decide_eq_true_eq] at h5
  obtain ⟨⟨⟨⟨⟨g1, g2⟩, g3⟩, g4⟩, g5⟩, g6⟩ := h5
  simp [Cond.before, Cond.holds, Cond.value, h1, h2, h3, h4, g1, g2, g3, g4, g5, g6]
def isCode : Jvm.Cond → Bool
  | .code _ _ _ _ => true
  | _ => false
theorem all_split {L : List Jvm.Cond} {P : Jvm.Cond → Bool} (h1 : L.all (fun c => isCode c || P c) = true) (h2 : ∀ c ∈ L.filter isCode, P c = true) : L.all P = true := by
  refine List.all_eq_true.mpr fun c hc => ?_
  have h := List.all_eq_true.mp h1 c hc
  rcases Bool.eq_false_or_eq_true (isCode c) with hi | hi
  · exact h2 c (List.mem_filter.mpr ⟨hc, hi⟩)
  · simpa [hi] using h
set_option maxRecDepth 65536 in
theorem w_c0 : (Jvm.Cond.code x code maxLocals ret).before args0 about1 = true := code_word (m := ⟨1, 2⟩) (meth := k1m2) (c := k1c2) (by decide +kernel) rfl rfl rfl (by decide +kernel)
set_option maxRecDepth 65536 in
theorem w_c1 : (Jvm.Cond.code ({ cls := "java/lang/Math", name := "max", desc := "(II)I" } : Jvm.MethodName) jdk_29_method_65_code (2 : Nat) (Option.some Jvm.ClassFile.FieldType.int)).before args0 about1 = true := code_word (m := ⟨2, 1⟩) (meth := k2m1) (c := k2c1) (by decide +kernel) rfl rfl rfl (by decide +kernel)
set_option maxRecDepth 65536 in
theorem w_c2 : (Jvm.Cond.code ({ cls := "com/example/redshank/redshank/monitor/FindingEqualsPinLaw", name := "kindOf", desc := "(I)Lcom/example/redshank/redshank/monitor/Finding$Kind;" } : Jvm.MethodName) method_2_code (1 : Nat) (Option.some (Jvm.ClassFile.FieldType.object "com/example/redshank/redshank/monitor/Finding$Kind"))).before args0 about1 = true := code_word (m := ⟨1, 1⟩) (meth := k1m1) (c := k1c1) (by decide +kernel) rfl rfl rfl (by decide +kernel)
set_option maxRecDepth 65536 in
theorem w_c3 : (Jvm.Cond.code ({ cls := "com/example/redshank/redshank/monitor/Finding", name := "<init>", desc := "(Lcom/example/redshank/redshank/monitor/Finding$Kind;IJ)V" } : Jvm.MethodName) prog_118_method_1_code (5 : Nat) (Option.none : Option Jvm.ClassFile.FieldType)).before args0 about1 = true := code_word (m := ⟨3, 0⟩) (meth := k3m0) (c := k3c0) (by decide +kernel) rfl rfl rfl (by decide +kernel)
set_option maxRecDepth 65536 in
theorem w_c4 : (Jvm.Cond.code ({ cls := "java/lang/Object", name := "<init>", desc := "()V" } : Jvm.MethodName) object_method_1_code (1 : Nat) (Option.none : Option Jvm.ClassFile.FieldType)).before args0 about1 = true := code_word (m := ⟨0, 0⟩) (meth := k0m0) (c := k0c0) (by decide +kernel) rfl rfl rfl (by decide +kernel)
set_option maxRecDepth 65536 in
theorem w_c5 : (Jvm.Cond.code ({ cls := "java/util/Objects", name := "requireNonNull", desc := "(Ljava/lang/Object;Ljava/lang/String;)Ljava/lang/Object;" } : Jvm.MethodName) jdk_31_method_11_code (2 : Nat) (Option.some (Jvm.ClassFile.FieldType.object "java/lang/Object"))).before args0 about1 = true := code_word (m := ⟨12, 1⟩) (meth := k12m1) (c := k12c1) (by decide +kernel) rfl rfl rfl (by decide +kernel)
set_option maxRecDepth 65536 in
theorem w_c6 : (Jvm.Cond.code ({ cls := "com/example/redshank/redshank/monitor/Finding", name := "equals", desc := "(Ljava/lang/Object;)Z" } : Jvm.MethodName) prog_118_method_5_code (3 : Nat) (Option.some Jvm.ClassFile.FieldType.boolean)).before args0 about1 = true := code_word (m := ⟨3, 1⟩) (meth := k3m1) (c := k3c1) (by decide +kernel) rfl rfl rfl (by decide +kernel)
set_option maxRecDepth 65536 in
theorem w_c7 : (Jvm.Cond.code ({ cls := "java/lang/Integer", name := "valueOf", desc := "(I)Ljava/lang/Integer;" } : Jvm.MethodName) jdk_33_method_22_code (1 : Nat) (Option.some (Jvm.ClassFile.FieldType.object "java/lang/Integer"))).before args0 about1 = true := code_word (m := ⟨14, 0⟩) (meth := k14m0) (c := k14c0) (by decide +kernel) rfl rfl rfl (by decide +kernel)
set_option maxRecDepth 65536 in
theorem w_c8 : (Jvm.Cond.code ({ cls := "java/lang/Integer", name := "<init>", desc := "(I)V" } : Jvm.MethodName) jdk_33_method_23_code (2 : Nat) (Option.none : Option Jvm.ClassFile.FieldType)).before args0 about1 = true := code_word (m := ⟨14, 1⟩) (meth := k14m1) (c := k14c1) (by decide +kernel) rfl rfl rfl (by decide +kernel)
set_option maxRecDepth 65536 in
theorem w_c9 : (Jvm.Cond.code ({ cls := "java/lang/Number", name := "<init>", desc := "()V" } : Jvm.MethodName) jdk_18_method_1_code (1 : Nat) (Option.none : Option Jvm.ClassFile.FieldType)).before args0 about1 = true := code_word (m := ⟨13, 0⟩) (meth := k13m0) (c := k13c0) (by decide +kernel) rfl rfl rfl (by decide +kernel)
def codes1 : List Jvm.Cond := [Jvm.Cond.code x code maxLocals ret, Jvm.Cond.code ({ cls := "java/lang/Math", name := "max", desc := "(II)I" } : Jvm.MethodName) jdk_29_method_65_code (2 : Nat) (Option.some Jvm.ClassFile.FieldType.int), Jvm.Cond.code ({ cls := "com/example/redshank/redshank/monitor/FindingEqualsPinLaw", name := "kindOf", desc := "(I)Lcom/example/redshank/redshank/monitor/Finding$Kind;" } : Jvm.MethodName) method_2_code (1 : Nat) (Option.some (Jvm.ClassFile.FieldType.object "com/example/redshank/redshank/monitor/Finding$Kind")), Jvm.Cond.code ({ cls := "com/example/redshank/redshank/monitor/Finding", name := "<init>", desc := "(Lcom/example/redshank/redshank/monitor/Finding$Kind;IJ)V" } : Jvm.MethodName) prog_118_method_1_code (5 : Nat) (Option.none : Option Jvm.ClassFile.FieldType), Jvm.Cond.code ({ cls := "java/lang/Object", name := "<init>", desc := "()V" } : Jvm.MethodName) object_method_1_code (1 : Nat) (Option.none : Option Jvm.ClassFile.FieldType), Jvm.Cond.code ({ cls := "java/util/Objects", name := "requireNonNull", desc := "(Ljava/lang/Object;Ljava/lang/String;)Ljava/lang/Object;" } : Jvm.MethodName) jdk_31_method_11_code (2 : Nat) (Option.some (Jvm.ClassFile.FieldType.object "java/lang/Object")), Jvm.Cond.code ({ cls := "com/example/redshank/redshank/monitor/Finding", name := "equals", desc := "(Ljava/lang/Object;)Z" } : Jvm.MethodName) prog_118_method_5_code (3 : Nat) (Option.some Jvm.ClassFile.FieldType.boolean), Jvm.Cond.code ({ cls := "java/lang/Integer", name := "valueOf", desc := "(I)Ljava/lang/Integer;" } : Jvm.MethodName) jdk_33_method_22_code (1 : Nat) (Option.some (Jvm.ClassFile.FieldType.object "java/lang/Integer")), Jvm.Cond.code ({ cls := "java/lang/Integer", name := "<init>", desc := "(I)V" } : Jvm.MethodName) jdk_33_method_23_code (2 : Nat) (Option.none : Option Jvm.ClassFile.FieldType), Jvm.Cond.code ({ cls := "java/lang/Number", name := "<init>", desc := "()V" } : Jvm.MethodName) jdk_18_method_1_code (1 : Nat) (Option.none : Option Jvm.ClassFile.FieldType)]
set_option maxRecDepth 65536 in
theorem codes_eq : words1.filter isCode = codes1 := rfl
theorem w_codes : ∀ c ∈ words1.filter isCode, c.before args0 about1 = true := by
  rw [codes_eq]
  intro c hc
  simp only [codes1, List.mem_cons, List.not_mem_nil, or_false] at hc
  rcases hc with rfl | rfl | rfl | rfl | rfl | rfl | rfl | rfl | rfl | rfl
  · exact w_c0
  · exact w_c1
  · exact w_c2
  · exact w_c3
  · exact w_c4
  · exact w_c5
  · exact w_c6
  · exact w_c7
  · exact w_c8
  · exact w_c9
set_option maxRecDepth 65536 in
theorem w_t1 : (words1.take 24).all (fun c => isCode c || c.before args0 about1) = true := by decide +kernel
set_option maxRecDepth 65536 in
theorem w_t2 : ((words1.drop 24).take 24).all (fun c => isCode c || c.before args0 about1) = true := by decide +kernel
set_option maxRecDepth 65536 in
theorem w_t3 : (((words1.drop 24).drop 24).take 24).all (fun c => isCode c || c.before args0 about1) = true := by decide +kernel
set_option maxRecDepth 65536 in
theorem w_t4 : (((words1.drop 24).drop 24).drop 24).all (fun c => isCode c || c.before args0 about1) = true := by decide +kernel
theorem w_tables : (allAtoms (Jvm.Cond.code x code maxLocals ret :: tables_1)).before args0 about1 = true := by
  rw [allAtoms_all]
  show words1.all (fun c => c.before args0 about1) = true
  refine all_split ?_ w_codes
  rw [← List.take_append_drop 24 words1, List.all_append, w_t1, ← List.take_append_drop 24 (words1.drop 24), List.all_append, w_t2, ← List.take_append_drop 24 ((words1.drop 24).drop 24), List.all_append, w_t3, w_t4]
  rfl
set_option maxRecDepth 65536 in
theorem w_rest : rest_1_c.before args0 about1 = true := by decide +kernel
set_option maxRecDepth 65536 in
theorem w_case : (Jvm.Cond.and given_1 narrow_1).before args0 about1 = true := by decide +kernel
theorem w_applies : (headSpec (Jvm.Cond.code x code maxLocals ret :: tables_1) room_1).applies x e0.platform about1 = true :=
  (Spec.applies_iff w_frames).mpr ⟨w_running, w_runnable, w_alone, w_named, w_hears, w_ripe, w_room, w_tables⟩
theorem atStart : AtStart classFile x code maxLocals ret World_1 tables_1 room_1 Calls_1 rest_1 Pre_1 launch0 p0 e0 about1 theMethod args0 below0 :=
  ⟨lists_1, trivial, launch0.admits_env _ _ _, launch0.least_env, fairChoices_fair.cas, fairChoices_fair.clock, w_frames, w_args, w_heap, w_applies, trivial, w_rest, w_case⟩
end start1
theorem witness_1 : WitnessClaimed_1 := ⟨start1.p0, start1.e0, start1.about1, start1.theMethod, start1.args0, start1.below0, start1.atStart⟩
end Jvm.Pilot.@@N@@
